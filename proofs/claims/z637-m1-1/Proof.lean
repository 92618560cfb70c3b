import JvmDerived
import JvmDerived.Pilot.@@N@@Statement
import JvmDerived.Pilot.@@N@@Code
set_option linter.unusedVariables false
set_option linter.unusedSimpArgs false
namespace Jvm.Pilot.@@N@@
open Jvm Jvm.ClassFile Sem Op Lib Jvm.Free Jvm.Stand Jvm.LawKit Jvm.RoadKit Bundle Jvm.Pilot.@@N@@.Jvm.D
/-- from the state A the run comes to the method's end, and Q says what it left -/
def own_Go (p : Program) (e : Env) (below : List Frame) (s : State) (K M : Nat) (Q : Option Value → Heap → List Loc → Prop) (A : State) : Prop :=
  ∃ s₂ o, Steps p.tables e below A s₂ ∧ s₂.status = .running ∧ Ended s₂ below o ∧ ∃ v L, o = .returned v ∧ Q v s₂.heap L ∧ FrameEnd s o s₂ L K M
theorem own_back {p : Program} {e : Env} {below : List Frame} {s : State} {K M : Nat} {Q : Option Value → Heap → List Loc → Prop} {A B : State} (h : ∀ t, Steps p.tables e below B t → Steps p.tables e below A t) (g : own_Go p e below s K M Q B) : own_Go p e below s K M Q A := by
  obtain ⟨s₂, o, h1, h2⟩ := g
  exact ⟨s₂, o, h _ h1, h2⟩
theorem own_retN {p : Program} {l : Launch} {e : Env} {R : Room} {s : State} {m : MethodId} {args : Array Value} {below : List Frame} {meth : Method} {c : Code} {T : State} {locs : List Loc} {cells slots K M : Nat} {Q : Option Value → Heap → List Loc → Prop}
    (X : Stand p l e R s m args below meth c T locs cells slots) (hx : p.tables.exec = Jvm.exec) {pc : Nat} {Ls : Array Slot} {z r : Int32} {t : FieldType} {rest : List Value} (hret : meth.sig.returnType = some t) (ht : t = .boolean ∨ t = .byte ∨ t = .char ∨ t = .short) (hd : decode c.code pc = .ok (.ireturn, 1)) (hlk : meth.locks = false)
    (hr : nar t z = r) (hq : Q (some (.int r)) T.heap locs) (hK : cells ≤ K) (hM : slots ≤ M) : own_Go p e below s K M Q (T.setTop (mkF m pc Ls (.int z :: rest))) := by
  subst hr
  obtain ⟨fs, hr, hrun, hended, hW, hsame⟩ := X.leave (v := some (.int (nar t z))) (fun h => by rw [hret] at h; cases h)
  exact ⟨_, _, retN X hx hret ht hd hr, hrun, hended, _, _, rfl, hq, ⟨_, rfl⟩, hW, hsame.mono hK hM⟩
theorem own_retI {p : Program} {l : Launch} {e : Env} {R : Room} {s : State} {m : MethodId} {args : Array Value} {below : List Frame} {meth : Method} {c : Code} {T : State} {locs : List Loc} {cells slots K M : Nat} {Q : Option Value → Heap → List Loc → Prop}
    (X : Stand p l e R s m args below meth c T locs cells slots) (hx : p.tables.exec = Jvm.exec) {pc : Nat} {Ls : Array Slot} {z : Int32} {rest : List Value} (hret : meth.sig.returnType = some .int) (hd : decode c.code pc = .ok (.ireturn, 1)) (hlk : meth.locks = false)
    (hq : Q (some (.int z)) T.heap locs) (hK : cells ≤ K) (hM : slots ≤ M) : own_Go p e below s K M Q (T.setTop (mkF m pc Ls (.int z :: rest))) := by
  obtain ⟨fs, hr, hrun, hended, hW, hsame⟩ := X.leave (v := some (.int z)) (fun h => by rw [hret] at h; cases h)
  refine ⟨_, _, ?_, hrun, hended, _, _, rfl, hq, ⟨_, rfl⟩, hW, hsame.mono hK hM⟩
  have hm' : T.vm.method? m = some meth := X.method'
  have hn : narrow .int (.int z) = .int z := rfl
  show Steps p.tables e below (T.setTop { method := m, pc := pc, locals := Ls, stack := _ :: rest, locked := none }) _
  jvm_step X.here [X.here.top, hx, hd, hm', hret, hn]
  first | (intro acts; rw [hr _ acts rfl rfl rfl]) | rw [hr _ _ rfl rfl rfl]
  exact Steps.refl _
theorem own_retJ {p : Program} {l : Launch} {e : Env} {R : Room} {s : State} {m : MethodId} {args : Array Value} {below : List Frame} {meth : Method} {c : Code} {T : State} {locs : List Loc} {cells slots K M : Nat} {Q : Option Value → Heap → List Loc → Prop}
    (X : Stand p l e R s m args below meth c T locs cells slots) (hx : p.tables.exec = Jvm.exec) {pc : Nat} {Ls : Array Slot} {z : Int64} (hret : meth.sig.returnType = some .long) (hd : decode c.code pc = .ok (.lreturn, 1)) (hlk : meth.locks = false)
    (hq : Q (some (.long z)) T.heap locs) (hK : cells ≤ K) (hM : slots ≤ M) : own_Go p e below s K M Q (T.setTop (mkF m pc Ls [.long z])) := by
  obtain ⟨fs, hr, hrun, hended, hW, hsame⟩ := X.leave (v := some (.long z)) (fun h => by rw [hret] at h; cases h)
  exact ⟨_, _, X.lreturnOut hx hret hd hr, hrun, hended, _, _, rfl, hq, ⟨_, rfl⟩, hW, hsame.mono hK hM⟩
theorem own_retV {p : Program} {l : Launch} {e : Env} {R : Room} {s : State} {m : MethodId} {args : Array Value} {below : List Frame} {meth : Method} {c : Code} {T : State} {locs : List Loc} {cells slots K M : Nat} {Q : Option Value → Heap → List Loc → Prop}
    (X : Stand p l e R s m args below meth c T locs cells slots) (hx : p.tables.exec = Jvm.exec) {pc : Nat} {Ls : Array Slot} (hret : meth.sig.returnType = none) (hd : decode c.code pc = .ok (.return_, 1)) (hlk : meth.locks = false)
    (hq : Q none T.heap locs) (hK : cells ≤ K) (hM : slots ≤ M) : own_Go p e below s K M Q (T.setTop (mkF m pc Ls [])) := by
  obtain ⟨fs, hr, hrun, hended, hW, hsame⟩ := X.leave (v := none) (fun _ => rfl)
  exact ⟨_, _, X.returnOut hx hret hd hr, hrun, hended, _, _, rfl, hq, ⟨_, rfl⟩, hW, hsame.mono hK hM⟩
/-- the value returned, nothing old written, the heap as it was -/
def own_QP (w : Value) (h0 : Heap) (n0 : Nat) (v : Option Value) (h : Heap) (L : List Loc) : Prop := v = some w ∧ Fr n0 L ∧ h = h0
/-- the value returned, nothing old written, the heap no shorter -/
def own_QG (w : Value) (h0 : Heap) (n0 : Nat) (v : Option Value) (h : Heap) (L : List Loc) : Prop := v = some w ∧ Fr n0 L ∧ n0 ≤ h.size
/-- an array of n components, f says what each holds -/
def own_VA (Z : State) (h : Heap) (a : Addr) (ty : FieldType) (n : Nat) (f : Nat → Value) : Prop := ∃ c : Cell, Arr Z h a c ty ∧ c.slots.size = n ∧ ∀ k, k < n → c.slots[k]? = some (f k)
theorem own_VA_new {Z : State} {h : Heap} {a : Addr} {k : ClassId} {ty : FieldType} {z : Int32} {n : Nat} {d : Value} (A : Arr Z h a (newA k ty z) ty) (hz : ¬ z < 0) (hn : z.toNatClampNeg = n) (hd : defaultValue ty = d) : own_VA Z h a ty n (fun _ => d) := by
  obtain ⟨c, A, -, S, -, H, -⟩ := Arv.new A hz
  subst hn hd
  exact ⟨c, A, S, fun i hi => H i (by rw [S]; exact hi)⟩
theorem own_VA_set {Z : State} {h h' : Heap} {a : Addr} {ty : FieldType} {n i : Nat} {f : Nat → Value} {v : Value} (V : own_VA Z h a ty n f) (W : Wr h h' a i v) (hi : i < n) : own_VA Z h' a ty n (fun q => if q = i then v else f q) := by
  obtain ⟨c, A, S, H⟩ := V
  refine ⟨_, A.same W, by rw [sz_set]; exact S, fun k hk => ?_⟩
  show (c.slots.setIfInBounds i v)[k]? = some (if k = i then v else f k)
  by_cases q : k = i
  · subst q; rw [if_pos rfl, Array.getElem?_setIfInBounds_self_of_lt (by omega)]
  · rw [if_neg q, Array.getElem?_setIfInBounds_ne (fun z => q z.symm)]; exact H k hk
theorem own_VA_congr {Z : State} {h : Heap} {a : Addr} {ty : FieldType} {n : Nat} {f g : Nat → Value} (V : own_VA Z h a ty n f) (q : ∀ k, k < n → f k = g k) : own_VA Z h a ty n g := by
  obtain ⟨c, A, S, H⟩ := V
  exact ⟨c, A, S, fun k hk => by rw [← q k hk]; exact H k hk⟩
theorem own_VA_ext {Z : State} {h h' : Heap} {a : Addr} {ty : FieldType} {n : Nat} {f : Nat → Value} (V : own_VA Z h a ty n f) (E : Ext h h') : own_VA Z h' a ty n f := by
  obtain ⟨c, A, S, H⟩ := V
  exact ⟨c, A.ext E, S, H⟩
theorem own_VA_other {Z : State} {h h' : Heap} {a b : Addr} {ty : FieldType} {n sl : Nat} {v : Value} {f : Nat → Value} (V : own_VA Z h a ty n f) (W : Wr h h' b sl v) (q : a ≠ b) : own_VA Z h' a ty n f := by
  obtain ⟨c, A, S, H⟩ := V
  exact ⟨c, A.other W q, S, H⟩
theorem own_VA_lt {Z : State} {h : Heap} {a : Addr} {ty : FieldType} {n : Nat} {f : Nat → Value} (V : own_VA Z h a ty n f) : a < h.size := by
  obtain ⟨c, A, -⟩ := V
  exact A.lt
theorem own_inb {j : Int32} {c : Cell} {n : Nat} (S : c.slots.size = n) (hj : ¬ j < 0 ∧ j.toNatClampNeg < n) : ¬ (j < 0 ∨ c.slots.size ≤ j.toNatClampNeg) := fun q => q.elim hj.1 fun y => by rw [S] at y; omega
section Arrays
variable {p : Program} {l : Launch} {e : Env} {R : Room} {s : State} {m : MethodId} {args : Array Value} {below : List Frame} {meth : Method} {c : Code} {T : State} {locs : List Loc} {cells slots : Nat} {Z : State} {h : Heap} {a : Addr} {n : Nat} {f : Nat → Value}
theorem own_stI (X : Stand p l e R s m args below meth c T locs cells slots) (hx : p.tables.exec = Jvm.exec) (hZ : Z.Warmed39 s.vm) (eT : T.heap = h) (V : own_VA Z h a .int n f) {j x : Int32} (i : Nat) (hj : ¬ j < 0 ∧ j.toNatClampNeg < n) (hi : j.toNatClampNeg = i) {g : JFrame} (hg : g.method = m) {rest : List Value} (hs : g.stack = .int x :: .int j :: .ref a :: rest) (hd : decode c.code g.pc = .ok (.iastore, 1)) :
    ∃ T' h', Stand p l e R s m args below meth c T' (locs ++ [⟨a, j.toNatClampNeg⟩]) cells slots ∧ T'.heap = h' ∧ Wr h h' a i (.int x) ∧ own_VA Z h' a .int n (fun q => if q = i then .int x else f q) ∧ ∀ target, Steps p.tables e below (T'.setTop { g with pc := g.pc + 1, stack := rest }) target → Steps p.tables e below (T.setTop g) target := by
  obtain ⟨cl, A, S, H⟩ := V
  obtain ⟨T', h', X', e', W, st⟩ := stI X hx hZ eT A (own_inb S hj) hg hs hd
  subst hi
  exact ⟨T', h', X', e', W, own_VA_set ⟨cl, A, S, H⟩ W hj.2, st⟩
theorem own_stB (X : Stand p l e R s m args below meth c T locs cells slots) (hx : p.tables.exec = Jvm.exec) (hZ : Z.Warmed39 s.vm) (eT : T.heap = h) (V : own_VA Z h a .byte n f) {j x : Int32} (i : Nat) (hj : ¬ j < 0 ∧ j.toNatClampNeg < n) (hi : j.toNatClampNeg = i) {g : JFrame} (hg : g.method = m) {rest : List Value} (hs : g.stack = .int x :: .int j :: .ref a :: rest) (hd : decode c.code g.pc = .ok (.bastore, 1)) :
    ∃ T' h', Stand p l e R s m args below meth c T' (locs ++ [⟨a, j.toNatClampNeg⟩]) cells slots ∧ T'.heap = h' ∧ Wr h h' a i (.int (x.toInt8.toInt32)) ∧ own_VA Z h' a .byte n (fun q => if q = i then .int (x.toInt8.toInt32) else f q) ∧ ∀ target, Steps p.tables e below (T'.setTop { g with pc := g.pc + 1, stack := rest }) target → Steps p.tables e below (T.setTop g) target := by
  obtain ⟨cl, A, S, H⟩ := V
  obtain ⟨T', h', X', e', W, st⟩ := stB X hx hZ eT A (own_inb S hj) hg hs hd
  subst hi
  exact ⟨T', h', X', e', W, own_VA_set ⟨cl, A, S, H⟩ W hj.2, st⟩
theorem own_stJ (X : Stand p l e R s m args below meth c T locs cells slots) (hx : p.tables.exec = Jvm.exec) (hZ : Z.Warmed39 s.vm) (eT : T.heap = h) (V : own_VA Z h a .long n f) {j : Int32} {x : Int64} (i : Nat) (hj : ¬ j < 0 ∧ j.toNatClampNeg < n) (hi : j.toNatClampNeg = i) {g : JFrame} (hg : g.method = m) {rest : List Value} (hs : g.stack = .long x :: .int j :: .ref a :: rest) (hd : decode c.code g.pc = .ok (.lastore, 1)) :
    ∃ T' h', Stand p l e R s m args below meth c T' (locs ++ [⟨a, j.toNatClampNeg⟩]) cells slots ∧ T'.heap = h' ∧ Wr h h' a i (.long x) ∧ own_VA Z h' a .long n (fun q => if q = i then .long x else f q) ∧ ∀ target, Steps p.tables e below (T'.setTop { g with pc := g.pc + 1, stack := rest }) target → Steps p.tables e below (T.setTop g) target := by
  obtain ⟨cl, A, S, H⟩ := V
  obtain ⟨T', h', X', e', W, st⟩ := stJ X hx hZ eT A (own_inb S hj) hg hs hd
  subst hi
  exact ⟨T', h', X', e', W, own_VA_set ⟨cl, A, S, H⟩ W hj.2, st⟩
theorem own_ldI (X : Stand p l e R s m args below meth c T locs cells slots) (hx : p.tables.exec = Jvm.exec) (hZ : Z.Warmed39 s.vm) (eT : T.heap = h) (V : own_VA Z h a .int n f) {j w : Int32} (hj : ¬ j < 0 ∧ j.toNatClampNeg < n) (hv : f j.toNatClampNeg = .int w) {g : JFrame} (hg : g.method = m) {rest : List Value} (hs : g.stack = .int j :: .ref a :: rest) (hd : decode c.code g.pc = .ok (.iaload, 1)) :
    ∀ target, Steps p.tables e below (T.setTop { g with pc := g.pc + 1, stack := .int w :: rest }) target → Steps p.tables e below (T.setTop g) target := by
  obtain ⟨cl, A, S, H⟩ := V
  exact fun t k => X.iaload hx (by rw [eT]; exact A.1) (State.isArrayOf_alike hZ.alike A.2.1) A.2.2 (own_inb S hj) (hv ▸ H _ hj.2) hg hs hd t k
theorem own_ldB (X : Stand p l e R s m args below meth c T locs cells slots) (hx : p.tables.exec = Jvm.exec) (hZ : Z.Warmed39 s.vm) (eT : T.heap = h) (V : own_VA Z h a .byte n f) {j w : Int32} (hj : ¬ j < 0 ∧ j.toNatClampNeg < n) (hv : f j.toNatClampNeg = .int w) {g : JFrame} (hg : g.method = m) {rest : List Value} (hs : g.stack = .int j :: .ref a :: rest) (hd : decode c.code g.pc = .ok (.baload, 1)) :
    ∀ target, Steps p.tables e below (T.setTop { g with pc := g.pc + 1, stack := .int w :: rest }) target → Steps p.tables e below (T.setTop g) target := by
  obtain ⟨cl, A, S, H⟩ := V
  exact fun t k => X.baloadBytes hx (by rw [eT]; exact A.1) (State.isArrayOf_alike hZ.alike A.2.1) A.2.2 (own_inb S hj) (hv ▸ H _ hj.2) hg hs hd t k
theorem own_ldJ (X : Stand p l e R s m args below meth c T locs cells slots) (hx : p.tables.exec = Jvm.exec) (hZ : Z.Warmed39 s.vm) (eT : T.heap = h) (V : own_VA Z h a .long n f) {j : Int32} {w : Int64} (hj : ¬ j < 0 ∧ j.toNatClampNeg < n) (hv : f j.toNatClampNeg = .long w) {g : JFrame} (hg : g.method = m) {rest : List Value} (hs : g.stack = .int j :: .ref a :: rest) (hd : decode c.code g.pc = .ok (.laload, 1)) :
    ∀ target, Steps p.tables e below (T.setTop { g with pc := g.pc + 1, stack := .long w :: rest }) target → Steps p.tables e below (T.setTop g) target := by
  obtain ⟨cl, A, S, H⟩ := V
  exact fun t k => X.laload hx (by rw [eT]; exact A.1) (State.isArrayOf_alike hZ.alike A.2.1) A.2.2 (own_inb S hj) (hv ▸ H _ hj.2) hg hs hd t k
/-- a store into an array of ints, told by its function -/
def own_put (F : Nat → Int32) (i : Nat) (x : Int32) : Nat → Int32 := fun q => if q = i then x else F q
theorem own_stF {F : Nat → Int32} (X : Stand p l e R s m args below meth c T locs cells slots) (hx : p.tables.exec = Jvm.exec) (hZ : Z.Warmed39 s.vm) (eT : T.heap = h) (V : own_VA Z h a .int n (fun k => .int (F k))) {j x : Int32} (i : Nat) (hj : ¬ j < 0 ∧ j.toNatClampNeg < n) (hi : j.toNatClampNeg = i) {g : JFrame} (hg : g.method = m) {rest : List Value} (hs : g.stack = .int x :: .int j :: .ref a :: rest) (hd : decode c.code g.pc = .ok (.iastore, 1)) :
    ∃ T' h', Stand p l e R s m args below meth c T' (locs ++ [⟨a, j.toNatClampNeg⟩]) cells slots ∧ T'.heap = h' ∧ Wr h h' a i (.int x) ∧ own_VA Z h' a .int n (fun k => .int (own_put F i x k)) ∧ ∀ target, Steps p.tables e below (T'.setTop { g with pc := g.pc + 1, stack := rest }) target → Steps p.tables e below (T.setTop g) target := by
  obtain ⟨T', h', X', e', W, V', st⟩ := own_stI X hx hZ eT V i hj hi hg hs hd
  refine ⟨T', h', X', e', W, own_VA_congr V' (fun k _ => ?_), st⟩
  show (if k = i then Value.int x else Value.int (F k)) = Value.int (if k = i then x else F k)
  by_cases q : k = i
  · rw [if_pos q, if_pos q]
  · rw [if_neg q, if_neg q]
theorem own_len (X : Stand p l e R s m args below meth c T locs cells slots) (hx : p.tables.exec = Jvm.exec) (hZ : Z.Warmed39 s.vm) (eT : T.heap = h) {ty : FieldType} (V : own_VA Z h a ty n f) {z : Int32} (hz : n.toInt32 = z) {g : JFrame} (hg : g.method = m) {rest : List Value} (hs : g.stack = .ref a :: rest) (hd : decode c.code g.pc = .ok (.arraylength, 1)) :
    ∀ target, Steps p.tables e below (T.setTop { g with pc := g.pc + 1, stack := .int z :: rest }) target → Steps p.tables e below (T.setTop g) target := by
  obtain ⟨cl, A, S, H⟩ := V
  subst hz S
  exact fun t k => X.arraylength hx (by rw [eT]; exact A.1) (State.isArrayOf_alike hZ.alike A.2.1) hg hs hd t k
end Arrays
theorem own_small {x : Int32} {k : Nat} (hk : k < 2147483648) (h1 : ¬ x < 0) (h2 : x.toInt < k) : ∃ n : Nat, n < k ∧ x = Int32.ofNat n := by
  have z : (0 : Int32).toInt = 0 := rfl
  rw [Int32.lt_iff_toInt_lt, z] at h1
  refine ⟨x.toInt.toNat, by omega, Int32.toInt_inj.mp ?_⟩
  rw [Int32.toInt_ofNat_of_lt (by omega)]
  omega
theorem own_lt {x y : Int32} : x < y ↔ x.toInt < y.toInt := Int32.lt_iff_toInt_lt
theorem own_ne {x : Int32} {k : Int} (c : Int32) (hc : c.toInt = k) (h : x.toInt ≠ k) : ¬ x = c := fun q => h (by rw [q]; exact hc)
theorem own_idx (x : Int32) : ¬ ((((x.toUInt32 >>> ((1 : Int32) &&& 31).toUInt32).toInt32) &&& (1073741823 : Int32)) % (35 : Int32)) < 0 ∧ ((((x.toUInt32 >>> ((1 : Int32) &&& 31).toUInt32).toInt32) &&& (1073741823 : Int32)) % (35 : Int32)).toNatClampNeg < 35 := by
  generalize ((x.toUInt32 >>> ((1 : Int32) &&& 31).toUInt32).toInt32) = y
  have e : (y &&& (1073741823 : Int32)).toInt = y.toInt % 1073741824 := c_mask y 1073741823 30 (by decide) (by decide)
  have z : (0 : Int32).toInt = 0 := rfl
  have z35 : (35 : Int32).toInt = 35 := rfl
  have r := (c_iremV (y &&& (1073741823 : Int32)) 35).1 (by omega) (by omega)
  refine ⟨fun q => by have := own_lt.mp q; omega, ?_⟩
  show ((y &&& (1073741823 : Int32)) % (35 : Int32)).toInt.toNat < 35
  omega
/-! body 3: com/example/sleyreed/sleyreed/xpath/XmlNamesIsNameStartCharPinLaw.in:(III)Z -/
theorem own_d3_0 : decode method_2_code 0 = .ok (.iload_n 0, 1) := by decide +kernel
theorem own_d3_1 : decode method_2_code 1 = .ok (.iload_n 1, 1) := by decide +kernel
theorem own_d3_2 : decode method_2_code 2 = .ok (.if_icmp .lt 12, 3) := by decide +kernel
theorem own_d3_5 : decode method_2_code 5 = .ok (.iload_n 0, 1) := by decide +kernel
theorem own_d3_6 : decode method_2_code 6 = .ok (.iload_n 2, 1) := by decide +kernel
theorem own_d3_7 : decode method_2_code 7 = .ok (.if_icmp .gt 7, 3) := by decide +kernel
theorem own_d3_10 : decode method_2_code 10 = .ok (.iconst 1, 1) := by decide +kernel
theorem own_d3_11 : decode method_2_code 11 = .ok (.goto 4, 3) := by decide +kernel
theorem own_d3_14 : decode method_2_code 14 = .ok (.iconst 0, 1) := by decide +kernel
theorem own_d3_15 : decode method_2_code 15 = .ok (.ireturn, 1) := by decide +kernel
def own_f3_0 (x0 : Int32) (x1 : Int32) (x2 : Int32) : Int32 := (if x0 < x1 then (0 : Int32) else (if x2 < x0 then (0 : Int32) else (1 : Int32)))
set_option maxRecDepth 65536 in
set_option maxHeartbeats 4000000 in
theorem own_l3_0 {p : Program} {l : Launch} {e : Env} {s : State} {m : MethodId} {args : Array Value} {below : List Frame} {meth : Method} {c : Code} {T : State} {locs : List Loc} {Z : State} {a0 : Array Value} {h0 : Heap} {n0 : Nat}
    (X : Stand p l e ({ frames := 0, cells := 0, slots := 0, locals := 0 } : Room) s m args below meth c T locs 0 0) (hx : p.tables.exec = Jvm.exec) (hZ : Z.Warmed39 s.vm) (hw : ∀ d ∈ tables_1, d.before a0 Z = true) (hby : c.code = method_2_code) (hml : c.maxLocals = 3) (hown : s.vm.findClass "com/example/sleyreed/sleyreed/xpath/XmlNamesIsNameStartCharPinLaw" = some m.cls) (hret : meth.sig.returnType = some .boolean) (hlk : meth.locks = false) (e0 : T.heap = h0) (N : Fr n0 locs) (Z0 : n0 ≤ h0.size)
    (x0 : Int32) (x1 : Int32) (x2 : Int32) {r : Int32} (hR : r = own_f3_0 x0 x1 x2) : own_Go p e below s ({ frames := 0, cells := 0, slots := 0, locals := 0 } : Room).cells ({ frames := 0, cells := 0, slots := 0, locals := 0 } : Room).slots (own_QP (.int r) h0 n0) (T.setTop (mkF m 0 #[.val (.int x0), .val (.int x1), .val (.int x2)] [])) := by
  unfold own_f3_0 at hR
  refine own_back (fun t k => XS.iloadN X.here hx rfl (hb hby own_d3_0) rfl k) ?_
  show own_Go _ _ _ _ _ _ _ (T.setTop (mkF m 1 #[.val (.int x0), .val (.int x1), .val (.int x2)] [(.int x0)]))
  refine own_back (fun t k => XS.iloadN X.here hx rfl (hb hby own_d3_1) rfl k) ?_
  show own_Go _ _ _ _ _ _ _ (T.setTop (mkF m 2 #[.val (.int x0), .val (.int x1), .val (.int x2)] [(.int x1), (.int x0)]))
  by_cases hc2 : x0 < x1
  · rw [if_pos hc2] at hR
    refine own_back (fun t k => XS.icmpYes X.here hx rfl (pc0 := 2) (pc' := 14) rfl (hb hby own_d3_2) rfl (tlt hc2).1 (by decide) (by decide) k) ?_
    show own_Go _ _ _ _ _ _ _ (T.setTop (mkF m 14 #[.val (.int x0), .val (.int x1), .val (.int x2)] []))
    refine own_back (fun t k => XS.iconst X.here hx rfl (hb hby own_d3_14) k) ?_
    show own_Go _ _ _ _ _ _ _ (T.setTop (mkF m 15 #[.val (.int x0), .val (.int x1), .val (.int x2)] [(.int (0 : Int32))]))
    subst hR
    exact own_retN X hx (t := .boolean) hret (by simp) (hb hby own_d3_15) hlk (by decide) ⟨rfl, N, e0⟩ (by decide) (by decide)
  · rw [if_neg hc2] at hR
    refine own_back (fun t k => XS.icmpNo X.here hx rfl (hb hby own_d3_2) rfl (flt hc2).1 k) ?_
    show own_Go _ _ _ _ _ _ _ (T.setTop (mkF m 5 #[.val (.int x0), .val (.int x1), .val (.int x2)] []))
    refine own_back (fun t k => XS.iloadN X.here hx rfl (hb hby own_d3_5) rfl k) ?_
    show own_Go _ _ _ _ _ _ _ (T.setTop (mkF m 6 #[.val (.int x0), .val (.int x1), .val (.int x2)] [(.int x0)]))
    refine own_back (fun t k => XS.iloadN X.here hx rfl (hb hby own_d3_6) rfl k) ?_
    show own_Go _ _ _ _ _ _ _ (T.setTop (mkF m 7 #[.val (.int x0), .val (.int x1), .val (.int x2)] [(.int x2), (.int x0)]))
    by_cases hc7 : x2 < x0
    · rw [if_pos hc7] at hR
      refine own_back (fun t k => XS.icmpYes X.here hx rfl (pc0 := 7) (pc' := 14) rfl (hb hby own_d3_7) rfl (tlt hc7).2.2.1 (by decide) (by decide) k) ?_
      show own_Go _ _ _ _ _ _ _ (T.setTop (mkF m 14 #[.val (.int x0), .val (.int x1), .val (.int x2)] []))
      refine own_back (fun t k => XS.iconst X.here hx rfl (hb hby own_d3_14) k) ?_
      show own_Go _ _ _ _ _ _ _ (T.setTop (mkF m 15 #[.val (.int x0), .val (.int x1), .val (.int x2)] [(.int (0 : Int32))]))
      subst hR
      exact own_retN X hx (t := .boolean) hret (by simp) (hb hby own_d3_15) hlk (by decide) ⟨rfl, N, e0⟩ (by decide) (by decide)
    · rw [if_neg hc7] at hR
      refine own_back (fun t k => XS.icmpNo X.here hx rfl (hb hby own_d3_7) rfl (flt hc7).2.2.1 k) ?_
      show own_Go _ _ _ _ _ _ _ (T.setTop (mkF m 10 #[.val (.int x0), .val (.int x1), .val (.int x2)] []))
      refine own_back (fun t k => XS.iconst X.here hx rfl (hb hby own_d3_10) k) ?_
      show own_Go _ _ _ _ _ _ _ (T.setTop (mkF m 11 #[.val (.int x0), .val (.int x1), .val (.int x2)] [(.int (1 : Int32))]))
      refine own_back (fun t k => XS.goto X.here hx rfl (pc0 := 11) (pc' := 15) rfl (hb hby own_d3_11) (by decide) (by decide) k) ?_
      show own_Go _ _ _ _ _ _ _ (T.setTop (mkF m 15 #[.val (.int x0), .val (.int x1), .val (.int x2)] [(.int (1 : Int32))]))
      subst hR
      exact own_retN X hx (t := .boolean) hret (by simp) (hb hby own_d3_15) hlk (by decide) ⟨rfl, N, e0⟩ (by decide) (by decide)
theorem own_pn3 : plainName "com/example/sleyreed/sleyreed/xpath/XmlNamesIsNameStartCharPinLaw" = true := by first | (simp [plainName, overriddenIn]; done) | decide +kernel
theorem own_ef3 (m : MethodId) (x0 : Int32) (x1 : Int32) (x2 : Int32) : entryFrame m #[(.int x0), (.int x1), (.int x2)] 3 = mkF m 0 #[.val (.int x0), .val (.int x1), .val (.int x2)] [] := by first | (simp [entryFrame, mkF, argsToLocals, Value.category]; done) | rfl
set_option maxRecDepth 65536 in
set_option maxHeartbeats 4000000 in
theorem own_rm3 (l : Launch) (Z : State) (a0 : Array Value) (hw : ∀ d ∈ tables_1, d.before a0 Z = true) (ws : List Jvm.Cond) (x0 : Int32) (x1 : Int32) (x2 : Int32) (h0 : Heap) (n0 : Nat) (Z0 : n0 ≤ h0.size) :
    MetFree l (⟨"com/example/sleyreed/sleyreed/xpath/XmlNamesIsNameStartCharPinLaw", "in", "(III)Z"⟩ : MethodName) (head1 (Jvm.Cond.code (⟨"com/example/sleyreed/sleyreed/xpath/XmlNamesIsNameStartCharPinLaw", "in", "(III)Z"⟩ : MethodName) method_2_code 3 (some .boolean) :: ws) ({ frames := 0, cells := 0, slots := 0, locals := 0 } : Room)) (fun a U => a = #[(.int x0), (.int x1), (.int x2)] ∧ Z.Warmed39 U.vm ∧ U.heap = h0) (fun _ _ _ _ _ => True) (fun _ U o U' => ∃ v L, o = .returned v ∧ own_QP (.int (own_f3_0 x0 x1 x2)) h0 n0 v U'.heap L ∧ FrameEnd U o U' L ({ frames := 0, cells := 0, slots := 0, locals := 0 } : Room).cells ({ frames := 0, cells := 0, slots := 0, locals := 0 } : Room).slots) := by
  refine MetFree.of_bodySF (plainFor_of_name own_pn3) hisR ?_
  intro p e s m args below meth c s₁ Bd hml0 hP hK
  obtain ⟨rfl, hZ, hh⟩ := hP
  have X0 : Stand p l e ({ frames := 0, cells := 0, slots := 0, locals := 0 } : Room) s m #[(.int x0), (.int x1), (.int x2)] below meth c s₁ [] 0 0 := Stand.of_body Bd
  have e0 : s₁.heap = h0 := by rw [← hh, Bd.state]; rfl
  refine own_back (s := s) (fun t k => castTop (own_ef3 m x0 x1 x2) k) ?_
  exact own_l3_0 X0 Bd.exec hZ hw Bd.bytes hml0 (findClass_of_methodNamed Bd.named) Bd.returns (BodyLoose.notSynchronized Bd) e0 (Fr.nil n0) Z0 x0 x1 x2 rfl
/-! body 1: com/example/sleyreed/sleyreed/xpath/XmlNames.isNameStartChar:(I)Z -/
theorem own_d1_0 : decode prog_65_method_8_code 0 = .ok (.iload_n 0, 1) := by decide +kernel
theorem own_d1_1 : decode prog_65_method_8_code 1 = .ok (.sipush 128, 3) := by decide +kernel
theorem own_d1_4 : decode prog_65_method_8_code 4 = .ok (.if_icmp .ge 45, 3) := by decide +kernel
theorem own_d1_7 : decode prog_65_method_8_code 7 = .ok (.iload_n 0, 1) := by decide +kernel
theorem own_d1_8 : decode prog_65_method_8_code 8 = .ok (.bipush 97, 2) := by decide +kernel
theorem own_d1_10 : decode prog_65_method_8_code 10 = .ok (.if_icmp .lt 9, 3) := by decide +kernel
theorem own_d1_13 : decode prog_65_method_8_code 13 = .ok (.iload_n 0, 1) := by decide +kernel
theorem own_d1_14 : decode prog_65_method_8_code 14 = .ok (.bipush 122, 2) := by decide +kernel
theorem own_d1_16 : decode prog_65_method_8_code 16 = .ok (.if_icmp .le 27, 3) := by decide +kernel
theorem own_d1_19 : decode prog_65_method_8_code 19 = .ok (.iload_n 0, 1) := by decide +kernel
theorem own_d1_20 : decode prog_65_method_8_code 20 = .ok (.bipush 65, 2) := by decide +kernel
theorem own_d1_22 : decode prog_65_method_8_code 22 = .ok (.if_icmp .lt 9, 3) := by decide +kernel
theorem own_d1_25 : decode prog_65_method_8_code 25 = .ok (.iload_n 0, 1) := by decide +kernel
theorem own_d1_26 : decode prog_65_method_8_code 26 = .ok (.bipush 90, 2) := by decide +kernel
theorem own_d1_28 : decode prog_65_method_8_code 28 = .ok (.if_icmp .le 15, 3) := by decide +kernel
theorem own_d1_31 : decode prog_65_method_8_code 31 = .ok (.iload_n 0, 1) := by decide +kernel
theorem own_d1_32 : decode prog_65_method_8_code 32 = .ok (.bipush 95, 2) := by decide +kernel
theorem own_d1_34 : decode prog_65_method_8_code 34 = .ok (.if_icmp .eq 9, 3) := by decide +kernel
theorem own_d1_37 : decode prog_65_method_8_code 37 = .ok (.iload_n 0, 1) := by decide +kernel
theorem own_d1_38 : decode prog_65_method_8_code 38 = .ok (.bipush 58, 2) := by decide +kernel
theorem own_d1_40 : decode prog_65_method_8_code 40 = .ok (.if_icmp .ne 7, 3) := by decide +kernel
theorem own_d1_43 : decode prog_65_method_8_code 43 = .ok (.iconst 1, 1) := by decide +kernel
theorem own_d1_44 : decode prog_65_method_8_code 44 = .ok (.goto 4, 3) := by decide +kernel
theorem own_d1_47 : decode prog_65_method_8_code 47 = .ok (.iconst 0, 1) := by decide +kernel
theorem own_d1_48 : decode prog_65_method_8_code 48 = .ok (.ireturn, 1) := by decide +kernel
theorem own_d1_49 : decode prog_65_method_8_code 49 = .ok (.iload_n 0, 1) := by decide +kernel
theorem own_d1_50 : decode prog_65_method_8_code 50 = .ok (.sipush 192, 3) := by decide +kernel
theorem own_d1_53 : decode prog_65_method_8_code 53 = .ok (.if_icmp .lt 10, 3) := by decide +kernel
theorem own_d1_56 : decode prog_65_method_8_code 56 = .ok (.iload_n 0, 1) := by decide +kernel
theorem own_d1_57 : decode prog_65_method_8_code 57 = .ok (.sipush 214, 3) := by decide +kernel
theorem own_d1_60 : decode prog_65_method_8_code 60 = .ok (.if_icmp .le 150, 3) := by decide +kernel
theorem own_d1_63 : decode prog_65_method_8_code 63 = .ok (.iload_n 0, 1) := by decide +kernel
theorem own_d1_64 : decode prog_65_method_8_code 64 = .ok (.sipush 216, 3) := by decide +kernel
theorem own_d1_67 : decode prog_65_method_8_code 67 = .ok (.if_icmp .lt 10, 3) := by decide +kernel
theorem own_d1_70 : decode prog_65_method_8_code 70 = .ok (.iload_n 0, 1) := by decide +kernel
theorem own_d1_71 : decode prog_65_method_8_code 71 = .ok (.sipush 246, 3) := by decide +kernel
theorem own_d1_74 : decode prog_65_method_8_code 74 = .ok (.if_icmp .le 136, 3) := by decide +kernel
theorem own_d1_77 : decode prog_65_method_8_code 77 = .ok (.iload_n 0, 1) := by decide +kernel
theorem own_d1_78 : decode prog_65_method_8_code 78 = .ok (.sipush 248, 3) := by decide +kernel
theorem own_d1_81 : decode prog_65_method_8_code 81 = .ok (.if_icmp .lt 10, 3) := by decide +kernel
theorem own_d1_84 : decode prog_65_method_8_code 84 = .ok (.iload_n 0, 1) := by decide +kernel
theorem own_d1_85 : decode prog_65_method_8_code 85 = .ok (.sipush 767, 3) := by decide +kernel
theorem own_d1_88 : decode prog_65_method_8_code 88 = .ok (.if_icmp .le 122, 3) := by decide +kernel
theorem own_d1_91 : decode prog_65_method_8_code 91 = .ok (.iload_n 0, 1) := by decide +kernel
theorem own_d1_92 : decode prog_65_method_8_code 92 = .ok (.sipush 880, 3) := by decide +kernel
theorem own_d1_95 : decode prog_65_method_8_code 95 = .ok (.if_icmp .lt 10, 3) := by decide +kernel
theorem own_d1_98 : decode prog_65_method_8_code 98 = .ok (.iload_n 0, 1) := by decide +kernel
theorem own_d1_99 : decode prog_65_method_8_code 99 = .ok (.sipush 893, 3) := by decide +kernel
theorem own_d1_102 : decode prog_65_method_8_code 102 = .ok (.if_icmp .le 108, 3) := by decide +kernel
theorem own_d1_105 : decode prog_65_method_8_code 105 = .ok (.iload_n 0, 1) := by decide +kernel
theorem own_d1_106 : decode prog_65_method_8_code 106 = .ok (.sipush 895, 3) := by decide +kernel
theorem own_d1_109 : decode prog_65_method_8_code 109 = .ok (.if_icmp .lt 10, 3) := by decide +kernel
theorem own_d1_112 : decode prog_65_method_8_code 112 = .ok (.iload_n 0, 1) := by decide +kernel
theorem own_d1_113 : decode prog_65_method_8_code 113 = .ok (.sipush 8191, 3) := by decide +kernel
theorem own_d1_116 : decode prog_65_method_8_code 116 = .ok (.if_icmp .le 94, 3) := by decide +kernel
theorem own_d1_119 : decode prog_65_method_8_code 119 = .ok (.iload_n 0, 1) := by decide +kernel
theorem own_d1_120 : decode prog_65_method_8_code 120 = .ok (.sipush 8204, 3) := by decide +kernel
theorem own_d1_123 : decode prog_65_method_8_code 123 = .ok (.if_icmp .lt 10, 3) := by decide +kernel
theorem own_d1_126 : decode prog_65_method_8_code 126 = .ok (.iload_n 0, 1) := by decide +kernel
theorem own_d1_127 : decode prog_65_method_8_code 127 = .ok (.sipush 8205, 3) := by decide +kernel
theorem own_d1_130 : decode prog_65_method_8_code 130 = .ok (.if_icmp .le 80, 3) := by decide +kernel
theorem own_d1_133 : decode prog_65_method_8_code 133 = .ok (.iload_n 0, 1) := by decide +kernel
theorem own_d1_134 : decode prog_65_method_8_code 134 = .ok (.sipush 8304, 3) := by decide +kernel
theorem own_d1_137 : decode prog_65_method_8_code 137 = .ok (.if_icmp .lt 10, 3) := by decide +kernel
theorem own_d1_140 : decode prog_65_method_8_code 140 = .ok (.iload_n 0, 1) := by decide +kernel
theorem own_d1_141 : decode prog_65_method_8_code 141 = .ok (.sipush 8591, 3) := by decide +kernel
theorem own_d1_144 : decode prog_65_method_8_code 144 = .ok (.if_icmp .le 66, 3) := by decide +kernel
theorem own_d1_147 : decode prog_65_method_8_code 147 = .ok (.iload_n 0, 1) := by decide +kernel
theorem own_d1_148 : decode prog_65_method_8_code 148 = .ok (.sipush 11264, 3) := by decide +kernel
theorem own_d1_151 : decode prog_65_method_8_code 151 = .ok (.if_icmp .lt 10, 3) := by decide +kernel
theorem own_d1_154 : decode prog_65_method_8_code 154 = .ok (.iload_n 0, 1) := by decide +kernel
theorem own_d1_155 : decode prog_65_method_8_code 155 = .ok (.sipush 12271, 3) := by decide +kernel
theorem own_d1_158 : decode prog_65_method_8_code 158 = .ok (.if_icmp .le 52, 3) := by decide +kernel
theorem own_d1_161 : decode prog_65_method_8_code 161 = .ok (.iload_n 0, 1) := by decide +kernel
theorem own_d1_162 : decode prog_65_method_8_code 162 = .ok (.sipush 12289, 3) := by decide +kernel
theorem own_d1_165 : decode prog_65_method_8_code 165 = .ok (.if_icmp .lt 9, 3) := by decide +kernel
theorem own_d1_168 : decode prog_65_method_8_code 168 = .ok (.iload_n 0, 1) := by decide +kernel
theorem own_d1_169 : decode prog_65_method_8_code 169 = .ok (.ldc 63, 2) := by decide +kernel
theorem own_d1_171 : decode prog_65_method_8_code 171 = .ok (.if_icmp .le 39, 3) := by decide +kernel
theorem own_d1_174 : decode prog_65_method_8_code 174 = .ok (.iload_n 0, 1) := by decide +kernel
theorem own_d1_175 : decode prog_65_method_8_code 175 = .ok (.ldc 64, 2) := by decide +kernel
theorem own_d1_177 : decode prog_65_method_8_code 177 = .ok (.if_icmp .lt 9, 3) := by decide +kernel
theorem own_d1_180 : decode prog_65_method_8_code 180 = .ok (.iload_n 0, 1) := by decide +kernel
theorem own_d1_181 : decode prog_65_method_8_code 181 = .ok (.ldc 65, 2) := by decide +kernel
theorem own_d1_183 : decode prog_65_method_8_code 183 = .ok (.if_icmp .le 27, 3) := by decide +kernel
theorem own_d1_186 : decode prog_65_method_8_code 186 = .ok (.iload_n 0, 1) := by decide +kernel
theorem own_d1_187 : decode prog_65_method_8_code 187 = .ok (.ldc 66, 2) := by decide +kernel
theorem own_d1_189 : decode prog_65_method_8_code 189 = .ok (.if_icmp .lt 9, 3) := by decide +kernel
theorem own_d1_192 : decode prog_65_method_8_code 192 = .ok (.iload_n 0, 1) := by decide +kernel
theorem own_d1_193 : decode prog_65_method_8_code 193 = .ok (.ldc 67, 2) := by decide +kernel
theorem own_d1_195 : decode prog_65_method_8_code 195 = .ok (.if_icmp .le 15, 3) := by decide +kernel
theorem own_d1_198 : decode prog_65_method_8_code 198 = .ok (.iload_n 0, 1) := by decide +kernel
theorem own_d1_199 : decode prog_65_method_8_code 199 = .ok (.ldc 68, 2) := by decide +kernel
theorem own_d1_201 : decode prog_65_method_8_code 201 = .ok (.if_icmp .lt 13, 3) := by decide +kernel
theorem own_d1_204 : decode prog_65_method_8_code 204 = .ok (.iload_n 0, 1) := by decide +kernel
theorem own_d1_205 : decode prog_65_method_8_code 205 = .ok (.ldc 69, 2) := by decide +kernel
theorem own_d1_207 : decode prog_65_method_8_code 207 = .ok (.if_icmp .gt 7, 3) := by decide +kernel
theorem own_d1_210 : decode prog_65_method_8_code 210 = .ok (.iconst 1, 1) := by decide +kernel
theorem own_d1_211 : decode prog_65_method_8_code 211 = .ok (.goto 4, 3) := by decide +kernel
theorem own_d1_214 : decode prog_65_method_8_code 214 = .ok (.iconst 0, 1) := by decide +kernel
theorem own_d1_215 : decode prog_65_method_8_code 215 = .ok (.ireturn, 1) := by decide +kernel
def own_f1_198 (i0 : Int32) : Int32 := (if i0 < (65536 : Int32) then (0 : Int32) else (if (983039 : Int32) < i0 then (0 : Int32) else (1 : Int32)))
def own_f1_186 (i0 : Int32) : Int32 := (if i0 < (65008 : Int32) then (own_f1_198 i0) else (if (65533 : Int32) < i0 then (own_f1_198 i0) else (1 : Int32)))
def own_f1_174 (i0 : Int32) : Int32 := (if i0 < (63744 : Int32) then (own_f1_186 i0) else (if (64975 : Int32) < i0 then (own_f1_186 i0) else (1 : Int32)))
def own_f1_161 (i0 : Int32) : Int32 := (if i0 < (12289 : Int32) then (own_f1_174 i0) else (if (55295 : Int32) < i0 then (own_f1_174 i0) else (1 : Int32)))
def own_f1_147 (i0 : Int32) : Int32 := (if i0 < (11264 : Int32) then (own_f1_161 i0) else (if (12271 : Int32) < i0 then (own_f1_161 i0) else (1 : Int32)))
def own_f1_133 (i0 : Int32) : Int32 := (if i0 < (8304 : Int32) then (own_f1_147 i0) else (if (8591 : Int32) < i0 then (own_f1_147 i0) else (1 : Int32)))
def own_f1_119 (i0 : Int32) : Int32 := (if i0 < (8204 : Int32) then (own_f1_133 i0) else (if (8205 : Int32) < i0 then (own_f1_133 i0) else (1 : Int32)))
def own_f1_105 (i0 : Int32) : Int32 := (if i0 < (895 : Int32) then (own_f1_119 i0) else (if (8191 : Int32) < i0 then (own_f1_119 i0) else (1 : Int32)))
def own_f1_91 (i0 : Int32) : Int32 := (if i0 < (880 : Int32) then (own_f1_105 i0) else (if (893 : Int32) < i0 then (own_f1_105 i0) else (1 : Int32)))
def own_f1_77 (i0 : Int32) : Int32 := (if i0 < (248 : Int32) then (own_f1_91 i0) else (if (767 : Int32) < i0 then (own_f1_91 i0) else (1 : Int32)))
def own_f1_63 (i0 : Int32) : Int32 := (if i0 < (216 : Int32) then (own_f1_77 i0) else (if (246 : Int32) < i0 then (own_f1_77 i0) else (1 : Int32)))
def own_f1_31 (i0 : Int32) : Int32 := (if i0 = (95 : Int32) then (1 : Int32) else (if i0 = (58 : Int32) then (1 : Int32) else (0 : Int32)))
def own_f1_19 (i0 : Int32) : Int32 := (if i0 < (65 : Int32) then (own_f1_31 i0) else (if (90 : Int32) < i0 then (own_f1_31 i0) else (1 : Int32)))
def own_f1_0 (x0 : Int32) : Int32 := (if x0 < (128 : Int32) then (if x0 < (97 : Int32) then (own_f1_19 x0) else (if (122 : Int32) < x0 then (own_f1_19 x0) else (1 : Int32))) else (if x0 < (192 : Int32) then (own_f1_63 x0) else (if (214 : Int32) < x0 then (own_f1_63 x0) else (1 : Int32))))
set_option maxRecDepth 65536 in
set_option maxHeartbeats 4000000 in
theorem own_l1_198 {p : Program} {l : Launch} {e : Env} {s : State} {m : MethodId} {args : Array Value} {below : List Frame} {meth : Method} {c : Code} {T : State} {locs : List Loc} {Z : State} {a0 : Array Value} {h0 : Heap} {n0 : Nat}
    (X : Stand p l e ({ frames := 0, cells := 0, slots := 0, locals := 0 } : Room) s m args below meth c T locs 0 0) (hx : p.tables.exec = Jvm.exec) (hZ : Z.Warmed39 s.vm) (hw : ∀ d ∈ tables_1, d.before a0 Z = true) (hby : c.code = prog_65_method_8_code) (hml : c.maxLocals = 1) (hown : s.vm.findClass "com/example/sleyreed/sleyreed/xpath/XmlNames" = some m.cls) (hret : meth.sig.returnType = some .boolean) (hlk : meth.locks = false) (e0 : T.heap = h0) (N : Fr n0 locs) (Z0 : n0 ≤ h0.size)
    (i0 : Int32) {r : Int32} (hR : r = own_f1_198 i0) : own_Go p e below s ({ frames := 0, cells := 0, slots := 0, locals := 0 } : Room).cells ({ frames := 0, cells := 0, slots := 0, locals := 0 } : Room).slots (own_QP (.int r) h0 n0) (T.setTop (mkF m 198 #[.val (.int i0)] [])) := by
  unfold own_f1_198 at hR
  refine own_back (fun t k => XS.iloadN X.here hx rfl (hb hby own_d1_198) rfl k) ?_
  show own_Go _ _ _ _ _ _ _ (T.setTop (mkF m 199 #[.val (.int i0)] [(.int i0)]))
  refine own_back (fun t k => X.ldcInt hx hown (mvT hZ (hw _ (List.mem_of_getElem? (i := 23) rfl))) (g := (mkF m 199 #[.val (.int i0)] [(.int i0)])) rfl (hb hby own_d1_199) _ k) ?_
  show own_Go _ _ _ _ _ _ _ (T.setTop (mkF m 201 #[.val (.int i0)] [(.int (65536 : Int32)), (.int i0)]))
  by_cases hc201 : i0 < (65536 : Int32)
  · rw [if_pos hc201] at hR
    refine own_back (fun t k => XS.icmpYes X.here hx rfl (pc0 := 201) (pc' := 214) rfl (hb hby own_d1_201) rfl (tlt hc201).1 (by decide) (by decide) k) ?_
    show own_Go _ _ _ _ _ _ _ (T.setTop (mkF m 214 #[.val (.int i0)] []))
    refine own_back (fun t k => XS.iconst X.here hx rfl (hb hby own_d1_214) k) ?_
    show own_Go _ _ _ _ _ _ _ (T.setTop (mkF m 215 #[.val (.int i0)] [(.int (0 : Int32))]))
    subst hR
    exact own_retN X hx (t := .boolean) hret (by simp) (hb hby own_d1_215) hlk (by decide) ⟨rfl, N, e0⟩ (by decide) (by decide)
  · rw [if_neg hc201] at hR
    refine own_back (fun t k => XS.icmpNo X.here hx rfl (hb hby own_d1_201) rfl (flt hc201).1 k) ?_
    show own_Go _ _ _ _ _ _ _ (T.setTop (mkF m 204 #[.val (.int i0)] []))
    refine own_back (fun t k => XS.iloadN X.here hx rfl (hb hby own_d1_204) rfl k) ?_
    show own_Go _ _ _ _ _ _ _ (T.setTop (mkF m 205 #[.val (.int i0)] [(.int i0)]))
    refine own_back (fun t k => X.ldcInt hx hown (mvT hZ (hw _ (List.mem_of_getElem? (i := 28) rfl))) (g := (mkF m 205 #[.val (.int i0)] [(.int i0)])) rfl (hb hby own_d1_205) _ k) ?_
    show own_Go _ _ _ _ _ _ _ (T.setTop (mkF m 207 #[.val (.int i0)] [(.int (983039 : Int32)), (.int i0)]))
    by_cases hc207 : (983039 : Int32) < i0
    · rw [if_pos hc207] at hR
      refine own_back (fun t k => XS.icmpYes X.here hx rfl (pc0 := 207) (pc' := 214) rfl (hb hby own_d1_207) rfl (tlt hc207).2.2.1 (by decide) (by decide) k) ?_
      show own_Go _ _ _ _ _ _ _ (T.setTop (mkF m 214 #[.val (.int i0)] []))
      refine own_back (fun t k => XS.iconst X.here hx rfl (hb hby own_d1_214) k) ?_
      show own_Go _ _ _ _ _ _ _ (T.setTop (mkF m 215 #[.val (.int i0)] [(.int (0 : Int32))]))
      subst hR
      exact own_retN X hx (t := .boolean) hret (by simp) (hb hby own_d1_215) hlk (by decide) ⟨rfl, N, e0⟩ (by decide) (by decide)
    · rw [if_neg hc207] at hR
      refine own_back (fun t k => XS.icmpNo X.here hx rfl (hb hby own_d1_207) rfl (flt hc207).2.2.1 k) ?_
      show own_Go _ _ _ _ _ _ _ (T.setTop (mkF m 210 #[.val (.int i0)] []))
      refine own_back (fun t k => XS.iconst X.here hx rfl (hb hby own_d1_210) k) ?_
      show own_Go _ _ _ _ _ _ _ (T.setTop (mkF m 211 #[.val (.int i0)] [(.int (1 : Int32))]))
      refine own_back (fun t k => XS.goto X.here hx rfl (pc0 := 211) (pc' := 215) rfl (hb hby own_d1_211) (by decide) (by decide) k) ?_
      show own_Go _ _ _ _ _ _ _ (T.setTop (mkF m 215 #[.val (.int i0)] [(.int (1 : Int32))]))
      subst hR
      exact own_retN X hx (t := .boolean) hret (by simp) (hb hby own_d1_215) hlk (by decide) ⟨rfl, N, e0⟩ (by decide) (by decide)
set_option maxRecDepth 65536 in
set_option maxHeartbeats 4000000 in
theorem own_l1_186 {p : Program} {l : Launch} {e : Env} {s : State} {m : MethodId} {args : Array Value} {below : List Frame} {meth : Method} {c : Code} {T : State} {locs : List Loc} {Z : State} {a0 : Array Value} {h0 : Heap} {n0 : Nat}
    (X : Stand p l e ({ frames := 0, cells := 0, slots := 0, locals := 0 } : Room) s m args below meth c T locs 0 0) (hx : p.tables.exec = Jvm.exec) (hZ : Z.Warmed39 s.vm) (hw : ∀ d ∈ tables_1, d.before a0 Z = true) (hby : c.code = prog_65_method_8_code) (hml : c.maxLocals = 1) (hown : s.vm.findClass "com/example/sleyreed/sleyreed/xpath/XmlNames" = some m.cls) (hret : meth.sig.returnType = some .boolean) (hlk : meth.locks = false) (e0 : T.heap = h0) (N : Fr n0 locs) (Z0 : n0 ≤ h0.size)
    (i0 : Int32) {r : Int32} (hR : r = own_f1_186 i0) : own_Go p e below s ({ frames := 0, cells := 0, slots := 0, locals := 0 } : Room).cells ({ frames := 0, cells := 0, slots := 0, locals := 0 } : Room).slots (own_QP (.int r) h0 n0) (T.setTop (mkF m 186 #[.val (.int i0)] [])) := by
  unfold own_f1_186 at hR
  refine own_back (fun t k => XS.iloadN X.here hx rfl (hb hby own_d1_186) rfl k) ?_
  show own_Go _ _ _ _ _ _ _ (T.setTop (mkF m 187 #[.val (.int i0)] [(.int i0)]))
  refine own_back (fun t k => X.ldcInt hx hown (mvT hZ (hw _ (List.mem_of_getElem? (i := 22) rfl))) (g := (mkF m 187 #[.val (.int i0)] [(.int i0)])) rfl (hb hby own_d1_187) _ k) ?_
  show own_Go _ _ _ _ _ _ _ (T.setTop (mkF m 189 #[.val (.int i0)] [(.int (65008 : Int32)), (.int i0)]))
  by_cases hc189 : i0 < (65008 : Int32)
  · rw [if_pos hc189] at hR
    refine own_back (fun t k => XS.icmpYes X.here hx rfl (pc0 := 189) (pc' := 198) rfl (hb hby own_d1_189) rfl (tlt hc189).1 (by decide) (by decide) k) ?_
    show own_Go _ _ _ _ _ _ _ (T.setTop (mkF m 198 #[.val (.int i0)] []))
    exact own_l1_198 X hx hZ hw hby hml hown hret hlk e0 N Z0 i0 hR
  · rw [if_neg hc189] at hR
    refine own_back (fun t k => XS.icmpNo X.here hx rfl (hb hby own_d1_189) rfl (flt hc189).1 k) ?_
    show own_Go _ _ _ _ _ _ _ (T.setTop (mkF m 192 #[.val (.int i0)] []))
    refine own_back (fun t k => XS.iloadN X.here hx rfl (hb hby own_d1_192) rfl k) ?_
    show own_Go _ _ _ _ _ _ _ (T.setTop (mkF m 193 #[.val (.int i0)] [(.int i0)]))
    refine own_back (fun t k => X.ldcInt hx hown (mvT hZ (hw _ (List.mem_of_getElem? (i := 27) rfl))) (g := (mkF m 193 #[.val (.int i0)] [(.int i0)])) rfl (hb hby own_d1_193) _ k) ?_
    show own_Go _ _ _ _ _ _ _ (T.setTop (mkF m 195 #[.val (.int i0)] [(.int (65533 : Int32)), (.int i0)]))
    by_cases hc195 : (65533 : Int32) < i0
    · rw [if_pos hc195] at hR
      refine own_back (fun t k => XS.icmpNo X.here hx rfl (hb hby own_d1_195) rfl (tlt hc195).2.2.2 k) ?_
      show own_Go _ _ _ _ _ _ _ (T.setTop (mkF m 198 #[.val (.int i0)] []))
      exact own_l1_198 X hx hZ hw hby hml hown hret hlk e0 N Z0 i0 hR
    · rw [if_neg hc195] at hR
      refine own_back (fun t k => XS.icmpYes X.here hx rfl (pc0 := 195) (pc' := 210) rfl (hb hby own_d1_195) rfl (flt hc195).2.2.2 (by decide) (by decide) k) ?_
      show own_Go _ _ _ _ _ _ _ (T.setTop (mkF m 210 #[.val (.int i0)] []))
      refine own_back (fun t k => XS.iconst X.here hx rfl (hb hby own_d1_210) k) ?_
      show own_Go _ _ _ _ _ _ _ (T.setTop (mkF m 211 #[.val (.int i0)] [(.int (1 : Int32))]))
      refine own_back (fun t k => XS.goto X.here hx rfl (pc0 := 211) (pc' := 215) rfl (hb hby own_d1_211) (by decide) (by decide) k) ?_
      show own_Go _ _ _ _ _ _ _ (T.setTop (mkF m 215 #[.val (.int i0)] [(.int (1 : Int32))]))
      subst hR
      exact own_retN X hx (t := .boolean) hret (by simp) (hb hby own_d1_215) hlk (by decide) ⟨rfl, N, e0⟩ (by decide) (by decide)
set_option maxRecDepth 65536 in
set_option maxHeartbeats 4000000 in
theorem own_l1_174 {p : Program} {l : Launch} {e : Env} {s : State} {m : MethodId} {args : Array Value} {below : List Frame} {meth : Method} {c : Code} {T : State} {locs : List Loc} {Z : State} {a0 : Array Value} {h0 : Heap} {n0 : Nat}
    (X : Stand p l e ({ frames := 0, cells := 0, slots := 0, locals := 0 } : Room) s m args below meth c T locs 0 0) (hx : p.tables.exec = Jvm.exec) (hZ : Z.Warmed39 s.vm) (hw : ∀ d ∈ tables_1, d.before a0 Z = true) (hby : c.code = prog_65_method_8_code) (hml : c.maxLocals = 1) (hown : s.vm.findClass "com/example/sleyreed/sleyreed/xpath/XmlNames" = some m.cls) (hret : meth.sig.returnType = some .boolean) (hlk : meth.locks = false) (e0 : T.heap = h0) (N : Fr n0 locs) (Z0 : n0 ≤ h0.size)
    (i0 : Int32) {r : Int32} (hR : r = own_f1_174 i0) : own_Go p e below s ({ frames := 0, cells := 0, slots := 0, locals := 0 } : Room).cells ({ frames := 0, cells := 0, slots := 0, locals := 0 } : Room).slots (own_QP (.int r) h0 n0) (T.setTop (mkF m 174 #[.val (.int i0)] [])) := by
  unfold own_f1_174 at hR
  refine own_back (fun t k => XS.iloadN X.here hx rfl (hb hby own_d1_174) rfl k) ?_
  show own_Go _ _ _ _ _ _ _ (T.setTop (mkF m 175 #[.val (.int i0)] [(.int i0)]))
  refine own_back (fun t k => X.ldcInt hx hown (mvT hZ (hw _ (List.mem_of_getElem? (i := 21) rfl))) (g := (mkF m 175 #[.val (.int i0)] [(.int i0)])) rfl (hb hby own_d1_175) _ k) ?_
  show own_Go _ _ _ _ _ _ _ (T.setTop (mkF m 177 #[.val (.int i0)] [(.int (63744 : Int32)), (.int i0)]))
  by_cases hc177 : i0 < (63744 : Int32)
  · rw [if_pos hc177] at hR
    refine own_back (fun t k => XS.icmpYes X.here hx rfl (pc0 := 177) (pc' := 186) rfl (hb hby own_d1_177) rfl (tlt hc177).1 (by decide) (by decide) k) ?_
    show own_Go _ _ _ _ _ _ _ (T.setTop (mkF m 186 #[.val (.int i0)] []))
    exact own_l1_186 X hx hZ hw hby hml hown hret hlk e0 N Z0 i0 hR
  · rw [if_neg hc177] at hR
    refine own_back (fun t k => XS.icmpNo X.here hx rfl (hb hby own_d1_177) rfl (flt hc177).1 k) ?_
    show own_Go _ _ _ _ _ _ _ (T.setTop (mkF m 180 #[.val (.int i0)] []))
    refine own_back (fun t k => XS.iloadN X.here hx rfl (hb hby own_d1_180) rfl k) ?_
    show own_Go _ _ _ _ _ _ _ (T.setTop (mkF m 181 #[.val (.int i0)] [(.int i0)]))
    refine own_back (fun t k => X.ldcInt hx hown (mvT hZ (hw _ (List.mem_of_getElem? (i := 26) rfl))) (g := (mkF m 181 #[.val (.int i0)] [(.int i0)])) rfl (hb hby own_d1_181) _ k) ?_
    show own_Go _ _ _ _ _ _ _ (T.setTop (mkF m 183 #[.val (.int i0)] [(.int (64975 : Int32)), (.int i0)]))
    by_cases hc183 : (64975 : Int32) < i0
    · rw [if_pos hc183] at hR
      refine own_back (fun t k => XS.icmpNo X.here hx rfl (hb hby own_d1_183) rfl (tlt hc183).2.2.2 k) ?_
      show own_Go _ _ _ _ _ _ _ (T.setTop (mkF m 186 #[.val (.int i0)] []))
      exact own_l1_186 X hx hZ hw hby hml hown hret hlk e0 N Z0 i0 hR
    · rw [if_neg hc183] at hR
      refine own_back (fun t k => XS.icmpYes X.here hx rfl (pc0 := 183) (pc' := 210) rfl (hb hby own_d1_183) rfl (flt hc183).2.2.2 (by decide) (by decide) k) ?_
      show own_Go _ _ _ _ _ _ _ (T.setTop (mkF m 210 #[.val (.int i0)] []))
      refine own_back (fun t k => XS.iconst X.here hx rfl (hb hby own_d1_210) k) ?_
      show own_Go _ _ _ _ _ _ _ (T.setTop (mkF m 211 #[.val (.int i0)] [(.int (1 : Int32))]))
      refine own_back (fun t k => XS.goto X.here hx rfl (pc0 := 211) (pc' := 215) rfl (hb hby own_d1_211) (by decide) (by decide) k) ?_
      show own_Go _ _ _ _ _ _ _ (T.setTop (mkF m 215 #[.val (.int i0)] [(.int (1 : Int32))]))
      subst hR
      exact own_retN X hx (t := .boolean) hret (by simp) (hb hby own_d1_215) hlk (by decide) ⟨rfl, N, e0⟩ (by decide) (by decide)
set_option maxRecDepth 65536 in
set_option maxHeartbeats 4000000 in
theorem own_l1_161 {p : Program} {l : Launch} {e : Env} {s : State} {m : MethodId} {args : Array Value} {below : List Frame} {meth : Method} {c : Code} {T : State} {locs : List Loc} {Z : State} {a0 : Array Value} {h0 : Heap} {n0 : Nat}
    (X : Stand p l e ({ frames := 0, cells := 0, slots := 0, locals := 0 } : Room) s m args below meth c T locs 0 0) (hx : p.tables.exec = Jvm.exec) (hZ : Z.Warmed39 s.vm) (hw : ∀ d ∈ tables_1, d.before a0 Z = true) (hby : c.code = prog_65_method_8_code) (hml : c.maxLocals = 1) (hown : s.vm.findClass "com/example/sleyreed/sleyreed/xpath/XmlNames" = some m.cls) (hret : meth.sig.returnType = some .boolean) (hlk : meth.locks = false) (e0 : T.heap = h0) (N : Fr n0 locs) (Z0 : n0 ≤ h0.size)
    (i0 : Int32) {r : Int32} (hR : r = own_f1_161 i0) : own_Go p e below s ({ frames := 0, cells := 0, slots := 0, locals := 0 } : Room).cells ({ frames := 0, cells := 0, slots := 0, locals := 0 } : Room).slots (own_QP (.int r) h0 n0) (T.setTop (mkF m 161 #[.val (.int i0)] [])) := by
  unfold own_f1_161 at hR
  refine own_back (fun t k => XS.iloadN X.here hx rfl (hb hby own_d1_161) rfl k) ?_
  show own_Go _ _ _ _ _ _ _ (T.setTop (mkF m 162 #[.val (.int i0)] [(.int i0)]))
  refine own_back (fun t k => XS.sipush X.here hx rfl (hb hby own_d1_162) k) ?_
  show own_Go _ _ _ _ _ _ _ (T.setTop (mkF m 165 #[.val (.int i0)] [(.int (12289 : Int32)), (.int i0)]))
  by_cases hc165 : i0 < (12289 : Int32)
  · rw [if_pos hc165] at hR
    refine own_back (fun t k => XS.icmpYes X.here hx rfl (pc0 := 165) (pc' := 174) rfl (hb hby own_d1_165) rfl (tlt hc165).1 (by decide) (by decide) k) ?_
    show own_Go _ _ _ _ _ _ _ (T.setTop (mkF m 174 #[.val (.int i0)] []))
    exact own_l1_174 X hx hZ hw hby hml hown hret hlk e0 N Z0 i0 hR
  · rw [if_neg hc165] at hR
    refine own_back (fun t k => XS.icmpNo X.here hx rfl (hb hby own_d1_165) rfl (flt hc165).1 k) ?_
    show own_Go _ _ _ _ _ _ _ (T.setTop (mkF m 168 #[.val (.int i0)] []))
    refine own_back (fun t k => XS.iloadN X.here hx rfl (hb hby own_d1_168) rfl k) ?_
    show own_Go _ _ _ _ _ _ _ (T.setTop (mkF m 169 #[.val (.int i0)] [(.int i0)]))
    refine own_back (fun t k => X.ldcInt hx hown (mvT hZ (hw _ (List.mem_of_getElem? (i := 25) rfl))) (g := (mkF m 169 #[.val (.int i0)] [(.int i0)])) rfl (hb hby own_d1_169) _ k) ?_
    show own_Go _ _ _ _ _ _ _ (T.setTop (mkF m 171 #[.val (.int i0)] [(.int (55295 : Int32)), (.int i0)]))
    by_cases hc171 : (55295 : Int32) < i0
    · rw [if_pos hc171] at hR
      refine own_back (fun t k => XS.icmpNo X.here hx rfl (hb hby own_d1_171) rfl (tlt hc171).2.2.2 k) ?_
      show own_Go _ _ _ _ _ _ _ (T.setTop (mkF m 174 #[.val (.int i0)] []))
      exact own_l1_174 X hx hZ hw hby hml hown hret hlk e0 N Z0 i0 hR
    · rw [if_neg hc171] at hR
      refine own_back (fun t k => XS.icmpYes X.here hx rfl (pc0 := 171) (pc' := 210) rfl (hb hby own_d1_171) rfl (flt hc171).2.2.2 (by decide) (by decide) k) ?_
      show own_Go _ _ _ _ _ _ _ (T.setTop (mkF m 210 #[.val (.int i0)] []))
      refine own_back (fun t k => XS.iconst X.here hx rfl (hb hby own_d1_210) k) ?_
      show own_Go _ _ _ _ _ _ _ (T.setTop (mkF m 211 #[.val (.int i0)] [(.int (1 : Int32))]))
      refine own_back (fun t k => XS.goto X.here hx rfl (pc0 := 211) (pc' := 215) rfl (hb hby own_d1_211) (by decide) (by decide) k) ?_
      show own_Go _ _ _ _ _ _ _ (T.setTop (mkF m 215 #[.val (.int i0)] [(.int (1 : Int32))]))
      subst hR
      exact own_retN X hx (t := .boolean) hret (by simp) (hb hby own_d1_215) hlk (by decide) ⟨rfl, N, e0⟩ (by decide) (by decide)
set_option maxRecDepth 65536 in
set_option maxHeartbeats 4000000 in
theorem own_l1_147 {p : Program} {l : Launch} {e : Env} {s : State} {m : MethodId} {args : Array Value} {below : List Frame} {meth : Method} {c : Code} {T : State} {locs : List Loc} {Z : State} {a0 : Array Value} {h0 : Heap} {n0 : Nat}
    (X : Stand p l e ({ frames := 0, cells := 0, slots := 0, locals := 0 } : Room) s m args below meth c T locs 0 0) (hx : p.tables.exec = Jvm.exec) (hZ : Z.Warmed39 s.vm) (hw : ∀ d ∈ tables_1, d.before a0 Z = true) (hby : c.code = prog_65_method_8_code) (hml : c.maxLocals = 1) (hown : s.vm.findClass "com/example/sleyreed/sleyreed/xpath/XmlNames" = some m.cls) (hret : meth.sig.returnType = some .boolean) (hlk : meth.locks = false) (e0 : T.heap = h0) (N : Fr n0 locs) (Z0 : n0 ≤ h0.size)
    (i0 : Int32) {r : Int32} (hR : r = own_f1_147 i0) : own_Go p e below s ({ frames := 0, cells := 0, slots := 0, locals := 0 } : Room).cells ({ frames := 0, cells := 0, slots := 0, locals := 0 } : Room).slots (own_QP (.int r) h0 n0) (T.setTop (mkF m 147 #[.val (.int i0)] [])) := by
  unfold own_f1_147 at hR
  refine own_back (fun t k => XS.iloadN X.here hx rfl (hb hby own_d1_147) rfl k) ?_
  show own_Go _ _ _ _ _ _ _ (T.setTop (mkF m 148 #[.val (.int i0)] [(.int i0)]))
  refine own_back (fun t k => XS.sipush X.here hx rfl (hb hby own_d1_148) k) ?_
  show own_Go _ _ _ _ _ _ _ (T.setTop (mkF m 151 #[.val (.int i0)] [(.int (11264 : Int32)), (.int i0)]))
  by_cases hc151 : i0 < (11264 : Int32)
  · rw [if_pos hc151] at hR
    refine own_back (fun t k => XS.icmpYes X.here hx rfl (pc0 := 151) (pc' := 161) rfl (hb hby own_d1_151) rfl (tlt hc151).1 (by decide) (by decide) k) ?_
    show own_Go _ _ _ _ _ _ _ (T.setTop (mkF m 161 #[.val (.int i0)] []))
    exact own_l1_161 X hx hZ hw hby hml hown hret hlk e0 N Z0 i0 hR
  · rw [if_neg hc151] at hR
    refine own_back (fun t k => XS.icmpNo X.here hx rfl (hb hby own_d1_151) rfl (flt hc151).1 k) ?_
    show own_Go _ _ _ _ _ _ _ (T.setTop (mkF m 154 #[.val (.int i0)] []))
    refine own_back (fun t k => XS.iloadN X.here hx rfl (hb hby own_d1_154) rfl k) ?_
    show own_Go _ _ _ _ _ _ _ (T.setTop (mkF m 155 #[.val (.int i0)] [(.int i0)]))
    refine own_back (fun t k => XS.sipush X.here hx rfl (hb hby own_d1_155) k) ?_
    show own_Go _ _ _ _ _ _ _ (T.setTop (mkF m 158 #[.val (.int i0)] [(.int (12271 : Int32)), (.int i0)]))
    by_cases hc158 : (12271 : Int32) < i0
    · rw [if_pos hc158] at hR
      refine own_back (fun t k => XS.icmpNo X.here hx rfl (hb hby own_d1_158) rfl (tlt hc158).2.2.2 k) ?_
      show own_Go _ _ _ _ _ _ _ (T.setTop (mkF m 161 #[.val (.int i0)] []))
      exact own_l1_161 X hx hZ hw hby hml hown hret hlk e0 N Z0 i0 hR
    · rw [if_neg hc158] at hR
      refine own_back (fun t k => XS.icmpYes X.here hx rfl (pc0 := 158) (pc' := 210) rfl (hb hby own_d1_158) rfl (flt hc158).2.2.2 (by decide) (by decide) k) ?_
      show own_Go _ _ _ _ _ _ _ (T.setTop (mkF m 210 #[.val (.int i0)] []))
      refine own_back (fun t k => XS.iconst X.here hx rfl (hb hby own_d1_210) k) ?_
      show own_Go _ _ _ _ _ _ _ (T.setTop (mkF m 211 #[.val (.int i0)] [(.int (1 : Int32))]))
      refine own_back (fun t k => XS.goto X.here hx rfl (pc0 := 211) (pc' := 215) rfl (hb hby own_d1_211) (by decide) (by decide) k) ?_
      show own_Go _ _ _ _ _ _ _ (T.setTop (mkF m 215 #[.val (.int i0)] [(.int (1 : Int32))]))
      subst hR
      exact own_retN X hx (t := .boolean) hret (by simp) (hb hby own_d1_215) hlk (by decide) ⟨rfl, N, e0⟩ (by decide) (by decide)
set_option maxRecDepth 65536 in
set_option maxHeartbeats 4000000 in
theorem own_l1_133 {p : Program} {l : Launch} {e : Env} {s : State} {m : MethodId} {args : Array Value} {below : List Frame} {meth : Method} {c : Code} {T : State} {locs : List Loc} {Z : State} {a0 : Array Value} {h0 : Heap} {n0 : Nat}
    (X : Stand p l e ({ frames := 0, cells := 0, slots := 0, locals := 0 } : Room) s m args below meth c T locs 0 0) (hx : p.tables.exec = Jvm.exec) (hZ : Z.Warmed39 s.vm) (hw : ∀ d ∈ tables_1, d.before a0 Z = true) (hby : c.code = prog_65_method_8_code) (hml : c.maxLocals = 1) (hown : s.vm.findClass "com/example/sleyreed/sleyreed/xpath/XmlNames" = some m.cls) (hret : meth.sig.returnType = some .boolean) (hlk : meth.locks = false) (e0 : T.heap = h0) (N : Fr n0 locs) (Z0 : n0 ≤ h0.size)
    (i0 : Int32) {r : Int32} (hR : r = own_f1_133 i0) : own_Go p e below s ({ frames := 0, cells := 0, slots := 0, locals := 0 } : Room).cells ({ frames := 0, cells := 0, slots := 0, locals := 0 } : Room).slots (own_QP (.int r) h0 n0) (T.setTop (mkF m 133 #[.val (.int i0)] [])) := by
  unfold own_f1_133 at hR
  refine own_back (fun t k => XS.iloadN X.here hx rfl (hb hby own_d1_133) rfl k) ?_
  show own_Go _ _ _ _ _ _ _ (T.setTop (mkF m 134 #[.val (.int i0)] [(.int i0)]))
  refine own_back (fun t k => XS.sipush X.here hx rfl (hb hby own_d1_134) k) ?_
  show own_Go _ _ _ _ _ _ _ (T.setTop (mkF m 137 #[.val (.int i0)] [(.int (8304 : Int32)), (.int i0)]))
  by_cases hc137 : i0 < (8304 : Int32)
  · rw [if_pos hc137] at hR
    refine own_back (fun t k => XS.icmpYes X.here hx rfl (pc0 := 137) (pc' := 147) rfl (hb hby own_d1_137) rfl (tlt hc137).1 (by decide) (by decide) k) ?_
    show own_Go _ _ _ _ _ _ _ (T.setTop (mkF m 147 #[.val (.int i0)] []))
    exact own_l1_147 X hx hZ hw hby hml hown hret hlk e0 N Z0 i0 hR
  · rw [if_neg hc137] at hR
    refine own_back (fun t k => XS.icmpNo X.here hx rfl (hb hby own_d1_137) rfl (flt hc137).1 k) ?_
    show own_Go _ _ _ _ _ _ _ (T.setTop (mkF m 140 #[.val (.int i0)] []))
    refine own_back (fun t k => XS.iloadN X.here hx rfl (hb hby own_d1_140) rfl k) ?_
    show own_Go _ _ _ _ _ _ _ (T.setTop (mkF m 141 #[.val (.int i0)] [(.int i0)]))
    refine own_back (fun t k => XS.sipush X.here hx rfl (hb hby own_d1_141) k) ?_
    show own_Go _ _ _ _ _ _ _ (T.setTop (mkF m 144 #[.val (.int i0)] [(.int (8591 : Int32)), (.int i0)]))
    by_cases hc144 : (8591 : Int32) < i0
    · rw [if_pos hc144] at hR
      refine own_back (fun t k => XS.icmpNo X.here hx rfl (hb hby own_d1_144) rfl (tlt hc144).2.2.2 k) ?_
      show own_Go _ _ _ _ _ _ _ (T.setTop (mkF m 147 #[.val (.int i0)] []))
      exact own_l1_147 X hx hZ hw hby hml hown hret hlk e0 N Z0 i0 hR
    · rw [if_neg hc144] at hR
      refine own_back (fun t k => XS.icmpYes X.here hx rfl (pc0 := 144) (pc' := 210) rfl (hb hby own_d1_144) rfl (flt hc144).2.2.2 (by decide) (by decide) k) ?_
      show own_Go _ _ _ _ _ _ _ (T.setTop (mkF m 210 #[.val (.int i0)] []))
      refine own_back (fun t k => XS.iconst X.here hx rfl (hb hby own_d1_210) k) ?_
      show own_Go _ _ _ _ _ _ _ (T.setTop (mkF m 211 #[.val (.int i0)] [(.int (1 : Int32))]))
      refine own_back (fun t k => XS.goto X.here hx rfl (pc0 := 211) (pc' := 215) rfl (hb hby own_d1_211) (by decide) (by decide) k) ?_
      show own_Go _ _ _ _ _ _ _ (T.setTop (mkF m 215 #[.val (.int i0)] [(.int (1 : Int32))]))
      subst hR
      exact own_retN X hx (t := .boolean) hret (by simp) (hb hby own_d1_215) hlk (by decide) ⟨rfl, N, e0⟩ (by decide) (by decide)
set_option maxRecDepth 65536 in
set_option maxHeartbeats 4000000 in
theorem own_l1_119 {p : Program} {l : Launch} {e : Env} {s : State} {m : MethodId} {args : Array Value} {below : List Frame} {meth : Method} {c : Code} {T : State} {locs : List Loc} {Z : State} {a0 : Array Value} {h0 : Heap} {n0 : Nat}
    (X : Stand p l e ({ frames := 0, cells := 0, slots := 0, locals := 0 } : Room) s m args below meth c T locs 0 0) (hx : p.tables.exec = Jvm.exec) (hZ : Z.Warmed39 s.vm) (hw : ∀ d ∈ tables_1, d.before a0 Z = true) (hby : c.code = prog_65_method_8_code) (hml : c.maxLocals = 1) (hown : s.vm.findClass "com/example/sleyreed/sleyreed/xpath/XmlNames" = some m.cls) (hret : meth.sig.returnType = some .boolean) (hlk : meth.locks = false) (e0 : T.heap = h0) (N : Fr n0 locs) (Z0 : n0 ≤ h0.size)
    (i0 : Int32) {r : Int32} (hR : r = own_f1_119 i0) : own_Go p e below s ({ frames := 0, cells := 0, slots := 0, locals := 0 } : Room).cells ({ frames := 0, cells := 0, slots := 0, locals := 0 } : Room).slots (own_QP (.int r) h0 n0) (T.setTop (mkF m 119 #[.val (.int i0)] [])) := by
  unfold own_f1_119 at hR
  refine own_back (fun t k => XS.iloadN X.here hx rfl (hb hby own_d1_119) rfl k) ?_
  show own_Go _ _ _ _ _ _ _ (T.setTop (mkF m 120 #[.val (.int i0)] [(.int i0)]))
  refine own_back (fun t k => XS.sipush X.here hx rfl (hb hby own_d1_120) k) ?_
  show own_Go _ _ _ _ _ _ _ (T.setTop (mkF m 123 #[.val (.int i0)] [(.int (8204 : Int32)), (.int i0)]))
  by_cases hc123 : i0 < (8204 : Int32)
  · rw [if_pos hc123] at hR
    refine own_back (fun t k => XS.icmpYes X.here hx rfl (pc0 := 123) (pc' := 133) rfl (hb hby own_d1_123) rfl (tlt hc123).1 (by decide) (by decide) k) ?_
    show own_Go _ _ _ _ _ _ _ (T.setTop (mkF m 133 #[.val (.int i0)] []))
    exact own_l1_133 X hx hZ hw hby hml hown hret hlk e0 N Z0 i0 hR
  · rw [if_neg hc123] at hR
    refine own_back (fun t k => XS.icmpNo X.here hx rfl (hb hby own_d1_123) rfl (flt hc123).1 k) ?_
    show own_Go _ _ _ _ _ _ _ (T.setTop (mkF m 126 #[.val (.int i0)] []))
    refine own_back (fun t k => XS.iloadN X.here hx rfl (hb hby own_d1_126) rfl k) ?_
    show own_Go _ _ _ _ _ _ _ (T.setTop (mkF m 127 #[.val (.int i0)] [(.int i0)]))
    refine own_back (fun t k => XS.sipush X.here hx rfl (hb hby own_d1_127) k) ?_
    show own_Go _ _ _ _ _ _ _ (T.setTop (mkF m 130 #[.val (.int i0)] [(.int (8205 : Int32)), (.int i0)]))
    by_cases hc130 : (8205 : Int32) < i0
    · rw [if_pos hc130] at hR
      refine own_back (fun t k => XS.icmpNo X.here hx rfl (hb hby own_d1_130) rfl (tlt hc130).2.2.2 k) ?_
      show own_Go _ _ _ _ _ _ _ (T.setTop (mkF m 133 #[.val (.int i0)] []))
      exact own_l1_133 X hx hZ hw hby hml hown hret hlk e0 N Z0 i0 hR
    · rw [if_neg hc130] at hR
      refine own_back (fun t k => XS.icmpYes X.here hx rfl (pc0 := 130) (pc' := 210) rfl (hb hby own_d1_130) rfl (flt hc130).2.2.2 (by decide) (by decide) k) ?_
      show own_Go _ _ _ _ _ _ _ (T.setTop (mkF m 210 #[.val (.int i0)] []))
      refine own_back (fun t k => XS.iconst X.here hx rfl (hb hby own_d1_210) k) ?_
      show own_Go _ _ _ _ _ _ _ (T.setTop (mkF m 211 #[.val (.int i0)] [(.int (1 : Int32))]))
      refine own_back (fun t k => XS.goto X.here hx rfl (pc0 := 211) (pc' := 215) rfl (hb hby own_d1_211) (by decide) (by decide) k) ?_
      show own_Go _ _ _ _ _ _ _ (T.setTop (mkF m 215 #[.val (.int i0)] [(.int (1 : Int32))]))
      subst hR
      exact own_retN X hx (t := .boolean) hret (by simp) (hb hby own_d1_215) hlk (by decide) ⟨rfl, N, e0⟩ (by decide) (by decide)
set_option maxRecDepth 65536 in
set_option maxHeartbeats 4000000 in
theorem own_l1_105 {p : Program} {l : Launch} {e : Env} {s : State} {m : MethodId} {args : Array Value} {below : List Frame} {meth : Method} {c : Code} {T : State} {locs : List Loc} {Z : State} {a0 : Array Value} {h0 : Heap} {n0 : Nat}
    (X : Stand p l e ({ frames := 0, cells := 0, slots := 0, locals := 0 } : Room) s m args below meth c T locs 0 0) (hx : p.tables.exec = Jvm.exec) (hZ : Z.Warmed39 s.vm) (hw : ∀ d ∈ tables_1, d.before a0 Z = true) (hby : c.code = prog_65_method_8_code) (hml : c.maxLocals = 1) (hown : s.vm.findClass "com/example/sleyreed/sleyreed/xpath/XmlNames" = some m.cls) (hret : meth.sig.returnType = some .boolean) (hlk : meth.locks = false) (e0 : T.heap = h0) (N : Fr n0 locs) (Z0 : n0 ≤ h0.size)
    (i0 : Int32) {r : Int32} (hR : r = own_f1_105 i0) : own_Go p e below s ({ frames := 0, cells := 0, slots := 0, locals := 0 } : Room).cells ({ frames := 0, cells := 0, slots := 0, locals := 0 } : Room).slots (own_QP (.int r) h0 n0) (T.setTop (mkF m 105 #[.val (.int i0)] [])) := by
  unfold own_f1_105 at hR
  refine own_back (fun t k => XS.iloadN X.here hx rfl (hb hby own_d1_105) rfl k) ?_
  show own_Go _ _ _ _ _ _ _ (T.setTop (mkF m 106 #[.val (.int i0)] [(.int i0)]))
  refine own_back (fun t k => XS.sipush X.here hx rfl (hb hby own_d1_106) k) ?_
  show own_Go _ _ _ _ _ _ _ (T.setTop (mkF m 109 #[.val (.int i0)] [(.int (895 : Int32)), (.int i0)]))
  by_cases hc109 : i0 < (895 : Int32)
  · rw [if_pos hc109] at hR
    refine own_back (fun t k => XS.icmpYes X.here hx rfl (pc0 := 109) (pc' := 119) rfl (hb hby own_d1_109) rfl (tlt hc109).1 (by decide) (by decide) k) ?_
    show own_Go _ _ _ _ _ _ _ (T.setTop (mkF m 119 #[.val (.int i0)] []))
    exact own_l1_119 X hx hZ hw hby hml hown hret hlk e0 N Z0 i0 hR
  · rw [if_neg hc109] at hR
    refine own_back (fun t k => XS.icmpNo X.here hx rfl (hb hby own_d1_109) rfl (flt hc109).1 k) ?_
    show own_Go _ _ _ _ _ _ _ (T.setTop (mkF m 112 #[.val (.int i0)] []))
    refine own_back (fun t k => XS.iloadN X.here hx rfl (hb hby own_d1_112) rfl k) ?_
    show own_Go _ _ _ _ _ _ _ (T.setTop (mkF m 113 #[.val (.int i0)] [(.int i0)]))
    refine own_back (fun t k => XS.sipush X.here hx rfl (hb hby own_d1_113) k) ?_
    show own_Go _ _ _ _ _ _ _ (T.setTop (mkF m 116 #[.val (.int i0)] [(.int (8191 : Int32)), (.int i0)]))
    by_cases hc116 : (8191 : Int32) < i0
    · rw [if_pos hc116] at hR
      refine own_back (fun t k => XS.icmpNo X.here hx rfl (hb hby own_d1_116) rfl (tlt hc116).2.2.2 k) ?_
      show own_Go _ _ _ _ _ _ _ (T.setTop (mkF m 119 #[.val (.int i0)] []))
      exact own_l1_119 X hx hZ hw hby hml hown hret hlk e0 N Z0 i0 hR
    · rw [if_neg hc116] at hR
      refine own_back (fun t k => XS.icmpYes X.here hx rfl (pc0 := 116) (pc' := 210) rfl (hb hby own_d1_116) rfl (flt hc116).2.2.2 (by decide) (by decide) k) ?_
      show own_Go _ _ _ _ _ _ _ (T.setTop (mkF m 210 #[.val (.int i0)] []))
      refine own_back (fun t k => XS.iconst X.here hx rfl (hb hby own_d1_210) k) ?_
      show own_Go _ _ _ _ _ _ _ (T.setTop (mkF m 211 #[.val (.int i0)] [(.int (1 : Int32))]))
      refine own_back (fun t k => XS.goto X.here hx rfl (pc0 := 211) (pc' := 215) rfl (hb hby own_d1_211) (by decide) (by decide) k) ?_
      show own_Go _ _ _ _ _ _ _ (T.setTop (mkF m 215 #[.val (.int i0)] [(.int (1 : Int32))]))
      subst hR
      exact own_retN X hx (t := .boolean) hret (by simp) (hb hby own_d1_215) hlk (by decide) ⟨rfl, N, e0⟩ (by decide) (by decide)
set_option maxRecDepth 65536 in
set_option maxHeartbeats 4000000 in
theorem own_l1_91 {p : Program} {l : Launch} {e : Env} {s : State} {m : MethodId} {args : Array Value} {below : List Frame} {meth : Method} {c : Code} {T : State} {locs : List Loc} {Z : State} {a0 : Array Value} {h0 : Heap} {n0 : Nat}
    (X : Stand p l e ({ frames := 0, cells := 0, slots := 0, locals := 0 } : Room) s m args below meth c T locs 0 0) (hx : p.tables.exec = Jvm.exec) (hZ : Z.Warmed39 s.vm) (hw : ∀ d ∈ tables_1, d.before a0 Z = true) (hby : c.code = prog_65_method_8_code) (hml : c.maxLocals = 1) (hown : s.vm.findClass "com/example/sleyreed/sleyreed/xpath/XmlNames" = some m.cls) (hret : meth.sig.returnType = some .boolean) (hlk : meth.locks = false) (e0 : T.heap = h0) (N : Fr n0 locs) (Z0 : n0 ≤ h0.size)
    (i0 : Int32) {r : Int32} (hR : r = own_f1_91 i0) : own_Go p e below s ({ frames := 0, cells := 0, slots := 0, locals := 0 } : Room).cells ({ frames := 0, cells := 0, slots := 0, locals := 0 } : Room).slots (own_QP (.int r) h0 n0) (T.setTop (mkF m 91 #[.val (.int i0)] [])) := by
  unfold own_f1_91 at hR
  refine own_back (fun t k => XS.iloadN X.here hx rfl (hb hby own_d1_91) rfl k) ?_
  show own_Go _ _ _ _ _ _ _ (T.setTop (mkF m 92 #[.val (.int i0)] [(.int i0)]))
  refine own_back (fun t k => XS.sipush X.here hx rfl (hb hby own_d1_92) k) ?_
  show own_Go _ _ _ _ _ _ _ (T.setTop (mkF m 95 #[.val (.int i0)] [(.int (880 : Int32)), (.int i0)]))
  by_cases hc95 : i0 < (880 : Int32)
  · rw [if_pos hc95] at hR
    refine own_back (fun t k => XS.icmpYes X.here hx rfl (pc0 := 95) (pc' := 105) rfl (hb hby own_d1_95) rfl (tlt hc95).1 (by decide) (by decide) k) ?_
    show own_Go _ _ _ _ _ _ _ (T.setTop (mkF m 105 #[.val (.int i0)] []))
    exact own_l1_105 X hx hZ hw hby hml hown hret hlk e0 N Z0 i0 hR
  · rw [if_neg hc95] at hR
    refine own_back (fun t k => XS.icmpNo X.here hx rfl (hb hby own_d1_95) rfl (flt hc95).1 k) ?_
    show own_Go _ _ _ _ _ _ _ (T.setTop (mkF m 98 #[.val (.int i0)] []))
    refine own_back (fun t k => XS.iloadN X.here hx rfl (hb hby own_d1_98) rfl k) ?_
    show own_Go _ _ _ _ _ _ _ (T.setTop (mkF m 99 #[.val (.int i0)] [(.int i0)]))
    refine own_back (fun t k => XS.sipush X.here hx rfl (hb hby own_d1_99) k) ?_
    show own_Go _ _ _ _ _ _ _ (T.setTop (mkF m 102 #[.val (.int i0)] [(.int (893 : Int32)), (.int i0)]))
    by_cases hc102 : (893 : Int32) < i0
    · rw [if_pos hc102] at hR
      refine own_back (fun t k => XS.icmpNo X.here hx rfl (hb hby own_d1_102) rfl (tlt hc102).2.2.2 k) ?_
      show own_Go _ _ _ _ _ _ _ (T.setTop (mkF m 105 #[.val (.int i0)] []))
      exact own_l1_105 X hx hZ hw hby hml hown hret hlk e0 N Z0 i0 hR
    · rw [if_neg hc102] at hR
      refine own_back (fun t k => XS.icmpYes X.here hx rfl (pc0 := 102) (pc' := 210) rfl (hb hby own_d1_102) rfl (flt hc102).2.2.2 (by decide) (by decide) k) ?_
      show own_Go _ _ _ _ _ _ _ (T.setTop (mkF m 210 #[.val (.int i0)] []))
      refine own_back (fun t k => XS.iconst X.here hx rfl (hb hby own_d1_210) k) ?_
      show own_Go _ _ _ _ _ _ _ (T.setTop (mkF m 211 #[.val (.int i0)] [(.int (1 : Int32))]))
      refine own_back (fun t k => XS.goto X.here hx rfl (pc0 := 211) (pc' := 215) rfl (hb hby own_d1_211) (by decide) (by decide) k) ?_
      show own_Go _ _ _ _ _ _ _ (T.setTop (mkF m 215 #[.val (.int i0)] [(.int (1 : Int32))]))
      subst hR
      exact own_retN X hx (t := .boolean) hret (by simp) (hb hby own_d1_215) hlk (by decide) ⟨rfl, N, e0⟩ (by decide) (by decide)
set_option maxRecDepth 65536 in
set_option maxHeartbeats 4000000 in
theorem own_l1_77 {p : Program} {l : Launch} {e : Env} {s : State} {m : MethodId} {args : Array Value} {below : List Frame} {meth : Method} {c : Code} {T : State} {locs : List Loc} {Z : State} {a0 : Array Value} {h0 : Heap} {n0 : Nat}
    (X : Stand p l e ({ frames := 0, cells := 0, slots := 0, locals := 0 } : Room) s m args below meth c T locs 0 0) (hx : p.tables.exec = Jvm.exec) (hZ : Z.Warmed39 s.vm) (hw : ∀ d ∈ tables_1, d.before a0 Z = true) (hby : c.code = prog_65_method_8_code) (hml : c.maxLocals = 1) (hown : s.vm.findClass "com/example/sleyreed/sleyreed/xpath/XmlNames" = some m.cls) (hret : meth.sig.returnType = some .boolean) (hlk : meth.locks = false) (e0 : T.heap = h0) (N : Fr n0 locs) (Z0 : n0 ≤ h0.size)
    (i0 : Int32) {r : Int32} (hR : r = own_f1_77 i0) : own_Go p e below s ({ frames := 0, cells := 0, slots := 0, locals := 0 } : Room).cells ({ frames := 0, cells := 0, slots := 0, locals := 0 } : Room).slots (own_QP (.int r) h0 n0) (T.setTop (mkF m 77 #[.val (.int i0)] [])) := by
  unfold own_f1_77 at hR
  refine own_back (fun t k => XS.iloadN X.here hx rfl (hb hby own_d1_77) rfl k) ?_
  show own_Go _ _ _ _ _ _ _ (T.setTop (mkF m 78 #[.val (.int i0)] [(.int i0)]))
  refine own_back (fun t k => XS.sipush X.here hx rfl (hb hby own_d1_78) k) ?_
  show own_Go _ _ _ _ _ _ _ (T.setTop (mkF m 81 #[.val (.int i0)] [(.int (248 : Int32)), (.int i0)]))
  by_cases hc81 : i0 < (248 : Int32)
  · rw [if_pos hc81] at hR
    refine own_back (fun t k => XS.icmpYes X.here hx rfl (pc0 := 81) (pc' := 91) rfl (hb hby own_d1_81) rfl (tlt hc81).1 (by decide) (by decide) k) ?_
    show own_Go _ _ _ _ _ _ _ (T.setTop (mkF m 91 #[.val (.int i0)] []))
    exact own_l1_91 X hx hZ hw hby hml hown hret hlk e0 N Z0 i0 hR
  · rw [if_neg hc81] at hR
    refine own_back (fun t k => XS.icmpNo X.here hx rfl (hb hby own_d1_81) rfl (flt hc81).1 k) ?_
    show own_Go _ _ _ _ _ _ _ (T.setTop (mkF m 84 #[.val (.int i0)] []))
    refine own_back (fun t k => XS.iloadN X.here hx rfl (hb hby own_d1_84) rfl k) ?_
    show own_Go _ _ _ _ _ _ _ (T.setTop (mkF m 85 #[.val (.int i0)] [(.int i0)]))
    refine own_back (fun t k => XS.sipush X.here hx rfl (hb hby own_d1_85) k) ?_
    show own_Go _ _ _ _ _ _ _ (T.setTop (mkF m 88 #[.val (.int i0)] [(.int (767 : Int32)), (.int i0)]))
    by_cases hc88 : (767 : Int32) < i0
    · rw [if_pos hc88] at hR
      refine own_back (fun t k => XS.icmpNo X.here hx rfl (hb hby own_d1_88) rfl (tlt hc88).2.2.2 k) ?_
      show own_Go _ _ _ _ _ _ _ (T.setTop (mkF m 91 #[.val (.int i0)] []))
      exact own_l1_91 X hx hZ hw hby hml hown hret hlk e0 N Z0 i0 hR
    · rw [if_neg hc88] at hR
      refine own_back (fun t k => XS.icmpYes X.here hx rfl (pc0 := 88) (pc' := 210) rfl (hb hby own_d1_88) rfl (flt hc88).2.2.2 (by decide) (by decide) k) ?_
      show own_Go _ _ _ _ _ _ _ (T.setTop (mkF m 210 #[.val (.int i0)] []))
      refine own_back (fun t k => XS.iconst X.here hx rfl (hb hby own_d1_210) k) ?_
      show own_Go _ _ _ _ _ _ _ (T.setTop (mkF m 211 #[.val (.int i0)] [(.int (1 : Int32))]))
      refine own_back (fun t k => XS.goto X.here hx rfl (pc0 := 211) (pc' := 215) rfl (hb hby own_d1_211) (by decide) (by decide) k) ?_
      show own_Go _ _ _ _ _ _ _ (T.setTop (mkF m 215 #[.val (.int i0)] [(.int (1 : Int32))]))
      subst hR
      exact own_retN X hx (t := .boolean) hret (by simp) (hb hby own_d1_215) hlk (by decide) ⟨rfl, N, e0⟩ (by decide) (by decide)
set_option maxRecDepth 65536 in
set_option maxHeartbeats 4000000 in
theorem own_l1_63 {p : Program} {l : Launch} {e : Env} {s : State} {m : MethodId} {args : Array Value} {below : List Frame} {meth : Method} {c : Code} {T : State} {locs : List Loc} {Z : State} {a0 : Array Value} {h0 : Heap} {n0 : Nat}
    (X : Stand p l e ({ frames := 0, cells := 0, slots := 0, locals := 0 } : Room) s m args below meth c T locs 0 0) (hx : p.tables.exec = Jvm.exec) (hZ : Z.Warmed39 s.vm) (hw : ∀ d ∈ tables_1, d.before a0 Z = true) (hby : c.code = prog_65_method_8_code) (hml : c.maxLocals = 1) (hown : s.vm.findClass "com/example/sleyreed/sleyreed/xpath/XmlNames" = some m.cls) (hret : meth.sig.returnType = some .boolean) (hlk : meth.locks = false) (e0 : T.heap = h0) (N : Fr n0 locs) (Z0 : n0 ≤ h0.size)
    (i0 : Int32) {r : Int32} (hR : r = own_f1_63 i0) : own_Go p e below s ({ frames := 0, cells := 0, slots := 0, locals := 0 } : Room).cells ({ frames := 0, cells := 0, slots := 0, locals := 0 } : Room).slots (own_QP (.int r) h0 n0) (T.setTop (mkF m 63 #[.val (.int i0)] [])) := by
  unfold own_f1_63 at hR
  refine own_back (fun t k => XS.iloadN X.here hx rfl (hb hby own_d1_63) rfl k) ?_
  show own_Go _ _ _ _ _ _ _ (T.setTop (mkF m 64 #[.val (.int i0)] [(.int i0)]))
  refine own_back (fun t k => XS.sipush X.here hx rfl (hb hby own_d1_64) k) ?_
  show own_Go _ _ _ _ _ _ _ (T.setTop (mkF m 67 #[.val (.int i0)] [(.int (216 : Int32)), (.int i0)]))
  by_cases hc67 : i0 < (216 : Int32)
  · rw [if_pos hc67] at hR
    refine own_back (fun t k => XS.icmpYes X.here hx rfl (pc0 := 67) (pc' := 77) rfl (hb hby own_d1_67) rfl (tlt hc67).1 (by decide) (by decide) k) ?_
    show own_Go _ _ _ _ _ _ _ (T.setTop (mkF m 77 #[.val (.int i0)] []))
    exact own_l1_77 X hx hZ hw hby hml hown hret hlk e0 N Z0 i0 hR
  · rw [if_neg hc67] at hR
    refine own_back (fun t k => XS.icmpNo X.here hx rfl (hb hby own_d1_67) rfl (flt hc67).1 k) ?_
    show own_Go _ _ _ _ _ _ _ (T.setTop (mkF m 70 #[.val (.int i0)] []))
    refine own_back (fun t k => XS.iloadN X.here hx rfl (hb hby own_d1_70) rfl k) ?_
    show own_Go _ _ _ _ _ _ _ (T.setTop (mkF m 71 #[.val (.int i0)] [(.int i0)]))
    refine own_back (fun t k => XS.sipush X.here hx rfl (hb hby own_d1_71) k) ?_
    show own_Go _ _ _ _ _ _ _ (T.setTop (mkF m 74 #[.val (.int i0)] [(.int (246 : Int32)), (.int i0)]))
    by_cases hc74 : (246 : Int32) < i0
    · rw [if_pos hc74] at hR
      refine own_back (fun t k => XS.icmpNo X.here hx rfl (hb hby own_d1_74) rfl (tlt hc74).2.2.2 k) ?_
      show own_Go _ _ _ _ _ _ _ (T.setTop (mkF m 77 #[.val (.int i0)] []))
      exact own_l1_77 X hx hZ hw hby hml hown hret hlk e0 N Z0 i0 hR
    · rw [if_neg hc74] at hR
      refine own_back (fun t k => XS.icmpYes X.here hx rfl (pc0 := 74) (pc' := 210) rfl (hb hby own_d1_74) rfl (flt hc74).2.2.2 (by decide) (by decide) k) ?_
      show own_Go _ _ _ _ _ _ _ (T.setTop (mkF m 210 #[.val (.int i0)] []))
      refine own_back (fun t k => XS.iconst X.here hx rfl (hb hby own_d1_210) k) ?_
      show own_Go _ _ _ _ _ _ _ (T.setTop (mkF m 211 #[.val (.int i0)] [(.int (1 : Int32))]))
      refine own_back (fun t k => XS.goto X.here hx rfl (pc0 := 211) (pc' := 215) rfl (hb hby own_d1_211) (by decide) (by decide) k) ?_
      show own_Go _ _ _ _ _ _ _ (T.setTop (mkF m 215 #[.val (.int i0)] [(.int (1 : Int32))]))
      subst hR
      exact own_retN X hx (t := .boolean) hret (by simp) (hb hby own_d1_215) hlk (by decide) ⟨rfl, N, e0⟩ (by decide) (by decide)
set_option maxRecDepth 65536 in
set_option maxHeartbeats 4000000 in
theorem own_l1_31 {p : Program} {l : Launch} {e : Env} {s : State} {m : MethodId} {args : Array Value} {below : List Frame} {meth : Method} {c : Code} {T : State} {locs : List Loc} {Z : State} {a0 : Array Value} {h0 : Heap} {n0 : Nat}
    (X : Stand p l e ({ frames := 0, cells := 0, slots := 0, locals := 0 } : Room) s m args below meth c T locs 0 0) (hx : p.tables.exec = Jvm.exec) (hZ : Z.Warmed39 s.vm) (hw : ∀ d ∈ tables_1, d.before a0 Z = true) (hby : c.code = prog_65_method_8_code) (hml : c.maxLocals = 1) (hown : s.vm.findClass "com/example/sleyreed/sleyreed/xpath/XmlNames" = some m.cls) (hret : meth.sig.returnType = some .boolean) (hlk : meth.locks = false) (e0 : T.heap = h0) (N : Fr n0 locs) (Z0 : n0 ≤ h0.size)
    (i0 : Int32) {r : Int32} (hR : r = own_f1_31 i0) : own_Go p e below s ({ frames := 0, cells := 0, slots := 0, locals := 0 } : Room).cells ({ frames := 0, cells := 0, slots := 0, locals := 0 } : Room).slots (own_QP (.int r) h0 n0) (T.setTop (mkF m 31 #[.val (.int i0)] [])) := by
  unfold own_f1_31 at hR
  refine own_back (fun t k => XS.iloadN X.here hx rfl (hb hby own_d1_31) rfl k) ?_
  show own_Go _ _ _ _ _ _ _ (T.setTop (mkF m 32 #[.val (.int i0)] [(.int i0)]))
  refine own_back (fun t k => XS.bipush X.here hx rfl (hb hby own_d1_32) k) ?_
  show own_Go _ _ _ _ _ _ _ (T.setTop (mkF m 34 #[.val (.int i0)] [(.int (95 : Int32)), (.int i0)]))
  by_cases hc34 : i0 = (95 : Int32)
  · rw [if_pos hc34] at hR
    refine own_back (fun t k => XS.icmpYes X.here hx rfl (pc0 := 34) (pc' := 43) rfl (hb hby own_d1_34) rfl (teq hc34).1 (by decide) (by decide) k) ?_
    show own_Go _ _ _ _ _ _ _ (T.setTop (mkF m 43 #[.val (.int i0)] []))
    refine own_back (fun t k => XS.iconst X.here hx rfl (hb hby own_d1_43) k) ?_
    show own_Go _ _ _ _ _ _ _ (T.setTop (mkF m 44 #[.val (.int i0)] [(.int (1 : Int32))]))
    refine own_back (fun t k => XS.goto X.here hx rfl (pc0 := 44) (pc' := 48) rfl (hb hby own_d1_44) (by decide) (by decide) k) ?_
    show own_Go _ _ _ _ _ _ _ (T.setTop (mkF m 48 #[.val (.int i0)] [(.int (1 : Int32))]))
    subst hR
    exact own_retN X hx (t := .boolean) hret (by simp) (hb hby own_d1_48) hlk (by decide) ⟨rfl, N, e0⟩ (by decide) (by decide)
  · rw [if_neg hc34] at hR
    refine own_back (fun t k => XS.icmpNo X.here hx rfl (hb hby own_d1_34) rfl (feq hc34).1 k) ?_
    show own_Go _ _ _ _ _ _ _ (T.setTop (mkF m 37 #[.val (.int i0)] []))
    refine own_back (fun t k => XS.iloadN X.here hx rfl (hb hby own_d1_37) rfl k) ?_
    show own_Go _ _ _ _ _ _ _ (T.setTop (mkF m 38 #[.val (.int i0)] [(.int i0)]))
    refine own_back (fun t k => XS.bipush X.here hx rfl (hb hby own_d1_38) k) ?_
    show own_Go _ _ _ _ _ _ _ (T.setTop (mkF m 40 #[.val (.int i0)] [(.int (58 : Int32)), (.int i0)]))
    by_cases hc40 : i0 = (58 : Int32)
    · rw [if_pos hc40] at hR
      refine own_back (fun t k => XS.icmpNo X.here hx rfl (hb hby own_d1_40) rfl (teq hc40).2 k) ?_
      show own_Go _ _ _ _ _ _ _ (T.setTop (mkF m 43 #[.val (.int i0)] []))
      refine own_back (fun t k => XS.iconst X.here hx rfl (hb hby own_d1_43) k) ?_
      show own_Go _ _ _ _ _ _ _ (T.setTop (mkF m 44 #[.val (.int i0)] [(.int (1 : Int32))]))
      refine own_back (fun t k => XS.goto X.here hx rfl (pc0 := 44) (pc' := 48) rfl (hb hby own_d1_44) (by decide) (by decide) k) ?_
      show own_Go _ _ _ _ _ _ _ (T.setTop (mkF m 48 #[.val (.int i0)] [(.int (1 : Int32))]))
      subst hR
      exact own_retN X hx (t := .boolean) hret (by simp) (hb hby own_d1_48) hlk (by decide) ⟨rfl, N, e0⟩ (by decide) (by decide)
    · rw [if_neg hc40] at hR
      refine own_back (fun t k => XS.icmpYes X.here hx rfl (pc0 := 40) (pc' := 47) rfl (hb hby own_d1_40) rfl (feq hc40).2 (by decide) (by decide) k) ?_
      show own_Go _ _ _ _ _ _ _ (T.setTop (mkF m 47 #[.val (.int i0)] []))
      refine own_back (fun t k => XS.iconst X.here hx rfl (hb hby own_d1_47) k) ?_
      show own_Go _ _ _ _ _ _ _ (T.setTop (mkF m 48 #[.val (.int i0)] [(.int (0 : Int32))]))
      subst hR
      exact own_retN X hx (t := .boolean) hret (by simp) (hb hby own_d1_48) hlk (by decide) ⟨rfl, N, e0⟩ (by decide) (by decide)
set_option maxRecDepth 65536 in
set_option maxHeartbeats 4000000 in
theorem own_l1_19 {p : Program} {l : Launch} {e : Env} {s : State} {m : MethodId} {args : Array Value} {below : List Frame} {meth : Method} {c : Code} {T : State} {locs : List Loc} {Z : State} {a0 : Array Value} {h0 : Heap} {n0 : Nat}
    (X : Stand p l e ({ frames := 0, cells := 0, slots := 0, locals := 0 } : Room) s m args below meth c T locs 0 0) (hx : p.tables.exec = Jvm.exec) (hZ : Z.Warmed39 s.vm) (hw : ∀ d ∈ tables_1, d.before a0 Z = true) (hby : c.code = prog_65_method_8_code) (hml : c.maxLocals = 1) (hown : s.vm.findClass "com/example/sleyreed/sleyreed/xpath/XmlNames" = some m.cls) (hret : meth.sig.returnType = some .boolean) (hlk : meth.locks = false) (e0 : T.heap = h0) (N : Fr n0 locs) (Z0 : n0 ≤ h0.size)
    (i0 : Int32) {r : Int32} (hR : r = own_f1_19 i0) : own_Go p e below s ({ frames := 0, cells := 0, slots := 0, locals := 0 } : Room).cells ({ frames := 0, cells := 0, slots := 0, locals := 0 } : Room).slots (own_QP (.int r) h0 n0) (T.setTop (mkF m 19 #[.val (.int i0)] [])) := by
  unfold own_f1_19 at hR
  refine own_back (fun t k => XS.iloadN X.here hx rfl (hb hby own_d1_19) rfl k) ?_
  show own_Go _ _ _ _ _ _ _ (T.setTop (mkF m 20 #[.val (.int i0)] [(.int i0)]))
  refine own_back (fun t k => XS.bipush X.here hx rfl (hb hby own_d1_20) k) ?_
  show own_Go _ _ _ _ _ _ _ (T.setTop (mkF m 22 #[.val (.int i0)] [(.int (65 : Int32)), (.int i0)]))
  by_cases hc22 : i0 < (65 : Int32)
  · rw [if_pos hc22] at hR
    refine own_back (fun t k => XS.icmpYes X.here hx rfl (pc0 := 22) (pc' := 31) rfl (hb hby own_d1_22) rfl (tlt hc22).1 (by decide) (by decide) k) ?_
    show own_Go _ _ _ _ _ _ _ (T.setTop (mkF m 31 #[.val (.int i0)] []))
    exact own_l1_31 X hx hZ hw hby hml hown hret hlk e0 N Z0 i0 hR
  · rw [if_neg hc22] at hR
    refine own_back (fun t k => XS.icmpNo X.here hx rfl (hb hby own_d1_22) rfl (flt hc22).1 k) ?_
    show own_Go _ _ _ _ _ _ _ (T.setTop (mkF m 25 #[.val (.int i0)] []))
    refine own_back (fun t k => XS.iloadN X.here hx rfl (hb hby own_d1_25) rfl k) ?_
    show own_Go _ _ _ _ _ _ _ (T.setTop (mkF m 26 #[.val (.int i0)] [(.int i0)]))
    refine own_back (fun t k => XS.bipush X.here hx rfl (hb hby own_d1_26) k) ?_
    show own_Go _ _ _ _ _ _ _ (T.setTop (mkF m 28 #[.val (.int i0)] [(.int (90 : Int32)), (.int i0)]))
    by_cases hc28 : (90 : Int32) < i0
    · rw [if_pos hc28] at hR
      refine own_back (fun t k => XS.icmpNo X.here hx rfl (hb hby own_d1_28) rfl (tlt hc28).2.2.2 k) ?_
      show own_Go _ _ _ _ _ _ _ (T.setTop (mkF m 31 #[.val (.int i0)] []))
      exact own_l1_31 X hx hZ hw hby hml hown hret hlk e0 N Z0 i0 hR
    · rw [if_neg hc28] at hR
      refine own_back (fun t k => XS.icmpYes X.here hx rfl (pc0 := 28) (pc' := 43) rfl (hb hby own_d1_28) rfl (flt hc28).2.2.2 (by decide) (by decide) k) ?_
      show own_Go _ _ _ _ _ _ _ (T.setTop (mkF m 43 #[.val (.int i0)] []))
      refine own_back (fun t k => XS.iconst X.here hx rfl (hb hby own_d1_43) k) ?_
      show own_Go _ _ _ _ _ _ _ (T.setTop (mkF m 44 #[.val (.int i0)] [(.int (1 : Int32))]))
      refine own_back (fun t k => XS.goto X.here hx rfl (pc0 := 44) (pc' := 48) rfl (hb hby own_d1_44) (by decide) (by decide) k) ?_
      show own_Go _ _ _ _ _ _ _ (T.setTop (mkF m 48 #[.val (.int i0)] [(.int (1 : Int32))]))
      subst hR
      exact own_retN X hx (t := .boolean) hret (by simp) (hb hby own_d1_48) hlk (by decide) ⟨rfl, N, e0⟩ (by decide) (by decide)
set_option maxRecDepth 65536 in
set_option maxHeartbeats 4000000 in
theorem own_l1_0 {p : Program} {l : Launch} {e : Env} {s : State} {m : MethodId} {args : Array Value} {below : List Frame} {meth : Method} {c : Code} {T : State} {locs : List Loc} {Z : State} {a0 : Array Value} {h0 : Heap} {n0 : Nat}
    (X : Stand p l e ({ frames := 0, cells := 0, slots := 0, locals := 0 } : Room) s m args below meth c T locs 0 0) (hx : p.tables.exec = Jvm.exec) (hZ : Z.Warmed39 s.vm) (hw : ∀ d ∈ tables_1, d.before a0 Z = true) (hby : c.code = prog_65_method_8_code) (hml : c.maxLocals = 1) (hown : s.vm.findClass "com/example/sleyreed/sleyreed/xpath/XmlNames" = some m.cls) (hret : meth.sig.returnType = some .boolean) (hlk : meth.locks = false) (e0 : T.heap = h0) (N : Fr n0 locs) (Z0 : n0 ≤ h0.size)
    (x0 : Int32) {r : Int32} (hR : r = own_f1_0 x0) : own_Go p e below s ({ frames := 0, cells := 0, slots := 0, locals := 0 } : Room).cells ({ frames := 0, cells := 0, slots := 0, locals := 0 } : Room).slots (own_QP (.int r) h0 n0) (T.setTop (mkF m 0 #[.val (.int x0)] [])) := by
  unfold own_f1_0 at hR
  refine own_back (fun t k => XS.iloadN X.here hx rfl (hb hby own_d1_0) rfl k) ?_
  show own_Go _ _ _ _ _ _ _ (T.setTop (mkF m 1 #[.val (.int x0)] [(.int x0)]))
  refine own_back (fun t k => XS.sipush X.here hx rfl (hb hby own_d1_1) k) ?_
  show own_Go _ _ _ _ _ _ _ (T.setTop (mkF m 4 #[.val (.int x0)] [(.int (128 : Int32)), (.int x0)]))
  by_cases hc4 : x0 < (128 : Int32)
  · rw [if_pos hc4] at hR
    refine own_back (fun t k => XS.icmpNo X.here hx rfl (hb hby own_d1_4) rfl (tlt hc4).2.1 k) ?_
    show own_Go _ _ _ _ _ _ _ (T.setTop (mkF m 7 #[.val (.int x0)] []))
    refine own_back (fun t k => XS.iloadN X.here hx rfl (hb hby own_d1_7) rfl k) ?_
    show own_Go _ _ _ _ _ _ _ (T.setTop (mkF m 8 #[.val (.int x0)] [(.int x0)]))
    refine own_back (fun t k => XS.bipush X.here hx rfl (hb hby own_d1_8) k) ?_
    show own_Go _ _ _ _ _ _ _ (T.setTop (mkF m 10 #[.val (.int x0)] [(.int (97 : Int32)), (.int x0)]))
    by_cases hc10 : x0 < (97 : Int32)
    · rw [if_pos hc10] at hR
      refine own_back (fun t k => XS.icmpYes X.here hx rfl (pc0 := 10) (pc' := 19) rfl (hb hby own_d1_10) rfl (tlt hc10).1 (by decide) (by decide) k) ?_
      show own_Go _ _ _ _ _ _ _ (T.setTop (mkF m 19 #[.val (.int x0)] []))
      exact own_l1_19 X hx hZ hw hby hml hown hret hlk e0 N Z0 x0 hR
    · rw [if_neg hc10] at hR
      refine own_back (fun t k => XS.icmpNo X.here hx rfl (hb hby own_d1_10) rfl (flt hc10).1 k) ?_
      show own_Go _ _ _ _ _ _ _ (T.setTop (mkF m 13 #[.val (.int x0)] []))
      refine own_back (fun t k => XS.iloadN X.here hx rfl (hb hby own_d1_13) rfl k) ?_
      show own_Go _ _ _ _ _ _ _ (T.setTop (mkF m 14 #[.val (.int x0)] [(.int x0)]))
      refine own_back (fun t k => XS.bipush X.here hx rfl (hb hby own_d1_14) k) ?_
      show own_Go _ _ _ _ _ _ _ (T.setTop (mkF m 16 #[.val (.int x0)] [(.int (122 : Int32)), (.int x0)]))
      by_cases hc16 : (122 : Int32) < x0
      · rw [if_pos hc16] at hR
        refine own_back (fun t k => XS.icmpNo X.here hx rfl (hb hby own_d1_16) rfl (tlt hc16).2.2.2 k) ?_
        show own_Go _ _ _ _ _ _ _ (T.setTop (mkF m 19 #[.val (.int x0)] []))
        exact own_l1_19 X hx hZ hw hby hml hown hret hlk e0 N Z0 x0 hR
      · rw [if_neg hc16] at hR
        refine own_back (fun t k => XS.icmpYes X.here hx rfl (pc0 := 16) (pc' := 43) rfl (hb hby own_d1_16) rfl (flt hc16).2.2.2 (by decide) (by decide) k) ?_
        show own_Go _ _ _ _ _ _ _ (T.setTop (mkF m 43 #[.val (.int x0)] []))
        refine own_back (fun t k => XS.iconst X.here hx rfl (hb hby own_d1_43) k) ?_
        show own_Go _ _ _ _ _ _ _ (T.setTop (mkF m 44 #[.val (.int x0)] [(.int (1 : Int32))]))
        refine own_back (fun t k => XS.goto X.here hx rfl (pc0 := 44) (pc' := 48) rfl (hb hby own_d1_44) (by decide) (by decide) k) ?_
        show own_Go _ _ _ _ _ _ _ (T.setTop (mkF m 48 #[.val (.int x0)] [(.int (1 : Int32))]))
        subst hR
        exact own_retN X hx (t := .boolean) hret (by simp) (hb hby own_d1_48) hlk (by decide) ⟨rfl, N, e0⟩ (by decide) (by decide)
  · rw [if_neg hc4] at hR
    refine own_back (fun t k => XS.icmpYes X.here hx rfl (pc0 := 4) (pc' := 49) rfl (hb hby own_d1_4) rfl (flt hc4).2.1 (by decide) (by decide) k) ?_
    show own_Go _ _ _ _ _ _ _ (T.setTop (mkF m 49 #[.val (.int x0)] []))
    refine own_back (fun t k => XS.iloadN X.here hx rfl (hb hby own_d1_49) rfl k) ?_
    show own_Go _ _ _ _ _ _ _ (T.setTop (mkF m 50 #[.val (.int x0)] [(.int x0)]))
    refine own_back (fun t k => XS.sipush X.here hx rfl (hb hby own_d1_50) k) ?_
    show own_Go _ _ _ _ _ _ _ (T.setTop (mkF m 53 #[.val (.int x0)] [(.int (192 : Int32)), (.int x0)]))
    by_cases hc53 : x0 < (192 : Int32)
    · rw [if_pos hc53] at hR
      refine own_back (fun t k => XS.icmpYes X.here hx rfl (pc0 := 53) (pc' := 63) rfl (hb hby own_d1_53) rfl (tlt hc53).1 (by decide) (by decide) k) ?_
      show own_Go _ _ _ _ _ _ _ (T.setTop (mkF m 63 #[.val (.int x0)] []))
      exact own_l1_63 X hx hZ hw hby hml hown hret hlk e0 N Z0 x0 hR
    · rw [if_neg hc53] at hR
      refine own_back (fun t k => XS.icmpNo X.here hx rfl (hb hby own_d1_53) rfl (flt hc53).1 k) ?_
      show own_Go _ _ _ _ _ _ _ (T.setTop (mkF m 56 #[.val (.int x0)] []))
      refine own_back (fun t k => XS.iloadN X.here hx rfl (hb hby own_d1_56) rfl k) ?_
      show own_Go _ _ _ _ _ _ _ (T.setTop (mkF m 57 #[.val (.int x0)] [(.int x0)]))
      refine own_back (fun t k => XS.sipush X.here hx rfl (hb hby own_d1_57) k) ?_
      show own_Go _ _ _ _ _ _ _ (T.setTop (mkF m 60 #[.val (.int x0)] [(.int (214 : Int32)), (.int x0)]))
      by_cases hc60 : (214 : Int32) < x0
      · rw [if_pos hc60] at hR
        refine own_back (fun t k => XS.icmpNo X.here hx rfl (hb hby own_d1_60) rfl (tlt hc60).2.2.2 k) ?_
        show own_Go _ _ _ _ _ _ _ (T.setTop (mkF m 63 #[.val (.int x0)] []))
        exact own_l1_63 X hx hZ hw hby hml hown hret hlk e0 N Z0 x0 hR
      · rw [if_neg hc60] at hR
        refine own_back (fun t k => XS.icmpYes X.here hx rfl (pc0 := 60) (pc' := 210) rfl (hb hby own_d1_60) rfl (flt hc60).2.2.2 (by decide) (by decide) k) ?_
        show own_Go _ _ _ _ _ _ _ (T.setTop (mkF m 210 #[.val (.int x0)] []))
        refine own_back (fun t k => XS.iconst X.here hx rfl (hb hby own_d1_210) k) ?_
        show own_Go _ _ _ _ _ _ _ (T.setTop (mkF m 211 #[.val (.int x0)] [(.int (1 : Int32))]))
        refine own_back (fun t k => XS.goto X.here hx rfl (pc0 := 211) (pc' := 215) rfl (hb hby own_d1_211) (by decide) (by decide) k) ?_
        show own_Go _ _ _ _ _ _ _ (T.setTop (mkF m 215 #[.val (.int x0)] [(.int (1 : Int32))]))
        subst hR
        exact own_retN X hx (t := .boolean) hret (by simp) (hb hby own_d1_215) hlk (by decide) ⟨rfl, N, e0⟩ (by decide) (by decide)
theorem own_pn1 : plainName "com/example/sleyreed/sleyreed/xpath/XmlNames" = true := by first | (simp [plainName, overriddenIn]; done) | decide +kernel
theorem own_ef1 (m : MethodId) (x0 : Int32) : entryFrame m #[(.int x0)] 1 = mkF m 0 #[.val (.int x0)] [] := by first | (simp [entryFrame, mkF, argsToLocals, Value.category]; done) | rfl
set_option maxRecDepth 65536 in
set_option maxHeartbeats 4000000 in
theorem own_rm1 (l : Launch) (Z : State) (a0 : Array Value) (hw : ∀ d ∈ tables_1, d.before a0 Z = true) (ws : List Jvm.Cond) (x0 : Int32) (h0 : Heap) (n0 : Nat) (Z0 : n0 ≤ h0.size) :
    MetFree l (⟨"com/example/sleyreed/sleyreed/xpath/XmlNames", "isNameStartChar", "(I)Z"⟩ : MethodName) (head1 (Jvm.Cond.code (⟨"com/example/sleyreed/sleyreed/xpath/XmlNames", "isNameStartChar", "(I)Z"⟩ : MethodName) prog_65_method_8_code 1 (some .boolean) :: ws) ({ frames := 0, cells := 0, slots := 0, locals := 0 } : Room)) (fun a U => a = #[(.int x0)] ∧ Z.Warmed39 U.vm ∧ U.heap = h0) (fun _ _ _ _ _ => True) (fun _ U o U' => ∃ v L, o = .returned v ∧ own_QP (.int (own_f1_0 x0)) h0 n0 v U'.heap L ∧ FrameEnd U o U' L ({ frames := 0, cells := 0, slots := 0, locals := 0 } : Room).cells ({ frames := 0, cells := 0, slots := 0, locals := 0 } : Room).slots) := by
  refine MetFree.of_bodySF (plainFor_of_name own_pn1) hisR ?_
  intro p e s m args below meth c s₁ Bd hml0 hP hK
  obtain ⟨rfl, hZ, hh⟩ := hP
  have X0 : Stand p l e ({ frames := 0, cells := 0, slots := 0, locals := 0 } : Room) s m #[(.int x0)] below meth c s₁ [] 0 0 := Stand.of_body Bd
  have e0 : s₁.heap = h0 := by rw [← hh, Bd.state]; rfl
  refine own_back (s := s) (fun t k => castTop (own_ef1 m x0) k) ?_
  exact own_l1_0 X0 Bd.exec hZ hw Bd.bytes hml0 (findClass_of_methodNamed Bd.named) Bd.returns (BodyLoose.notSynchronized Bd) e0 (Fr.nil n0) Z0 x0 rfl
theorem own_pd0 : parseMethodDescriptor "(III)Z" = some ⟨[.int, .int, .int], some .boolean⟩ := by decide +kernel
/-! body 2: com/example/sleyreed/sleyreed/xpath/XmlNamesIsNameStartCharPinLaw.reference:(I)Z -/
theorem own_d2_0 : decode method_3_code 0 = .ok (.iload_n 0, 1) := by decide +kernel
theorem own_d2_1 : decode method_3_code 1 = .ok (.sipush 128, 3) := by decide +kernel
theorem own_d2_4 : decode method_3_code 4 = .ok (.if_icmp .ge 43, 3) := by decide +kernel
theorem own_d2_7 : decode method_3_code 7 = .ok (.iload_n 0, 1) := by decide +kernel
theorem own_d2_8 : decode method_3_code 8 = .ok (.bipush 97, 2) := by decide +kernel
theorem own_d2_10 : decode method_3_code 10 = .ok (.bipush 122, 2) := by decide +kernel
theorem own_d2_12 : decode method_3_code 12 = .ok (.invokestatic 7, 3) := by decide +kernel
theorem own_d2_15 : decode method_3_code 15 = .ok (.ifCond .ne 26, 3) := by decide +kernel
theorem own_d2_18 : decode method_3_code 18 = .ok (.iload_n 0, 1) := by decide +kernel
theorem own_d2_19 : decode method_3_code 19 = .ok (.bipush 65, 2) := by decide +kernel
theorem own_d2_21 : decode method_3_code 21 = .ok (.bipush 90, 2) := by decide +kernel
theorem own_d2_23 : decode method_3_code 23 = .ok (.invokestatic 7, 3) := by decide +kernel
theorem own_d2_26 : decode method_3_code 26 = .ok (.ifCond .ne 15, 3) := by decide +kernel
theorem own_d2_29 : decode method_3_code 29 = .ok (.iload_n 0, 1) := by decide +kernel
theorem own_d2_30 : decode method_3_code 30 = .ok (.bipush 95, 2) := by decide +kernel
theorem own_d2_32 : decode method_3_code 32 = .ok (.if_icmp .eq 9, 3) := by decide +kernel
theorem own_d2_35 : decode method_3_code 35 = .ok (.iload_n 0, 1) := by decide +kernel
theorem own_d2_36 : decode method_3_code 36 = .ok (.bipush 58, 2) := by decide +kernel
theorem own_d2_38 : decode method_3_code 38 = .ok (.if_icmp .ne 7, 3) := by decide +kernel
theorem own_d2_41 : decode method_3_code 41 = .ok (.iconst 1, 1) := by decide +kernel
theorem own_d2_42 : decode method_3_code 42 = .ok (.goto 4, 3) := by decide +kernel
theorem own_d2_45 : decode method_3_code 45 = .ok (.iconst 0, 1) := by decide +kernel
theorem own_d2_46 : decode method_3_code 46 = .ok (.ireturn, 1) := by decide +kernel
theorem own_d2_47 : decode method_3_code 47 = .ok (.iload_n 0, 1) := by decide +kernel
theorem own_d2_48 : decode method_3_code 48 = .ok (.ldc 13, 2) := by decide +kernel
theorem own_d2_50 : decode method_3_code 50 = .ok (.if_icmp .le 5, 3) := by decide +kernel
theorem own_d2_53 : decode method_3_code 53 = .ok (.iconst 0, 1) := by decide +kernel
theorem own_d2_54 : decode method_3_code 54 = .ok (.ireturn, 1) := by decide +kernel
theorem own_d2_55 : decode method_3_code 55 = .ok (.iload_n 0, 1) := by decide +kernel
theorem own_d2_56 : decode method_3_code 56 = .ok (.sipush 128, 3) := by decide +kernel
theorem own_d2_59 : decode method_3_code 59 = .ok (.sipush 191, 3) := by decide +kernel
theorem own_d2_62 : decode method_3_code 62 = .ok (.invokestatic 7, 3) := by decide +kernel
theorem own_d2_65 : decode method_3_code 65 = .ok (.ifCond .ne 122, 3) := by decide +kernel
theorem own_d2_68 : decode method_3_code 68 = .ok (.iload_n 0, 1) := by decide +kernel
theorem own_d2_69 : decode method_3_code 69 = .ok (.sipush 215, 3) := by decide +kernel
theorem own_d2_72 : decode method_3_code 72 = .ok (.if_icmp .eq 115, 3) := by decide +kernel
theorem own_d2_75 : decode method_3_code 75 = .ok (.iload_n 0, 1) := by decide +kernel
theorem own_d2_76 : decode method_3_code 76 = .ok (.sipush 247, 3) := by decide +kernel
theorem own_d2_79 : decode method_3_code 79 = .ok (.if_icmp .eq 108, 3) := by decide +kernel
theorem own_d2_82 : decode method_3_code 82 = .ok (.iload_n 0, 1) := by decide +kernel
theorem own_d2_83 : decode method_3_code 83 = .ok (.sipush 768, 3) := by decide +kernel
theorem own_d2_86 : decode method_3_code 86 = .ok (.sipush 879, 3) := by decide +kernel
theorem own_d2_89 : decode method_3_code 89 = .ok (.invokestatic 7, 3) := by decide +kernel
theorem own_d2_92 : decode method_3_code 92 = .ok (.ifCond .ne 95, 3) := by decide +kernel
theorem own_d2_95 : decode method_3_code 95 = .ok (.iload_n 0, 1) := by decide +kernel
theorem own_d2_96 : decode method_3_code 96 = .ok (.sipush 894, 3) := by decide +kernel
theorem own_d2_99 : decode method_3_code 99 = .ok (.if_icmp .eq 88, 3) := by decide +kernel
theorem own_d2_102 : decode method_3_code 102 = .ok (.iload_n 0, 1) := by decide +kernel
theorem own_d2_103 : decode method_3_code 103 = .ok (.sipush 8192, 3) := by decide +kernel
theorem own_d2_106 : decode method_3_code 106 = .ok (.sipush 8203, 3) := by decide +kernel
theorem own_d2_109 : decode method_3_code 109 = .ok (.invokestatic 7, 3) := by decide +kernel
theorem own_d2_112 : decode method_3_code 112 = .ok (.ifCond .ne 75, 3) := by decide +kernel
theorem own_d2_115 : decode method_3_code 115 = .ok (.iload_n 0, 1) := by decide +kernel
theorem own_d2_116 : decode method_3_code 116 = .ok (.sipush 8206, 3) := by decide +kernel
theorem own_d2_119 : decode method_3_code 119 = .ok (.sipush 8303, 3) := by decide +kernel
theorem own_d2_122 : decode method_3_code 122 = .ok (.invokestatic 7, 3) := by decide +kernel
theorem own_d2_125 : decode method_3_code 125 = .ok (.ifCond .ne 62, 3) := by decide +kernel
theorem own_d2_128 : decode method_3_code 128 = .ok (.iload_n 0, 1) := by decide +kernel
theorem own_d2_129 : decode method_3_code 129 = .ok (.sipush 8592, 3) := by decide +kernel
theorem own_d2_132 : decode method_3_code 132 = .ok (.sipush 11263, 3) := by decide +kernel
theorem own_d2_135 : decode method_3_code 135 = .ok (.invokestatic 7, 3) := by decide +kernel
theorem own_d2_138 : decode method_3_code 138 = .ok (.ifCond .ne 49, 3) := by decide +kernel
theorem own_d2_141 : decode method_3_code 141 = .ok (.iload_n 0, 1) := by decide +kernel
theorem own_d2_142 : decode method_3_code 142 = .ok (.sipush 12272, 3) := by decide +kernel
theorem own_d2_145 : decode method_3_code 145 = .ok (.sipush 12288, 3) := by decide +kernel
theorem own_d2_148 : decode method_3_code 148 = .ok (.invokestatic 7, 3) := by decide +kernel
theorem own_d2_151 : decode method_3_code 151 = .ok (.ifCond .ne 36, 3) := by decide +kernel
theorem own_d2_154 : decode method_3_code 154 = .ok (.iload_n 0, 1) := by decide +kernel
theorem own_d2_155 : decode method_3_code 155 = .ok (.ldc 14, 2) := by decide +kernel
theorem own_d2_157 : decode method_3_code 157 = .ok (.ldc 15, 2) := by decide +kernel
theorem own_d2_159 : decode method_3_code 159 = .ok (.invokestatic 7, 3) := by decide +kernel
theorem own_d2_162 : decode method_3_code 162 = .ok (.ifCond .ne 25, 3) := by decide +kernel
theorem own_d2_165 : decode method_3_code 165 = .ok (.iload_n 0, 1) := by decide +kernel
theorem own_d2_166 : decode method_3_code 166 = .ok (.ldc 16, 2) := by decide +kernel
theorem own_d2_168 : decode method_3_code 168 = .ok (.ldc 17, 2) := by decide +kernel
theorem own_d2_170 : decode method_3_code 170 = .ok (.invokestatic 7, 3) := by decide +kernel
theorem own_d2_173 : decode method_3_code 173 = .ok (.ifCond .ne 14, 3) := by decide +kernel
theorem own_d2_176 : decode method_3_code 176 = .ok (.iload_n 0, 1) := by decide +kernel
theorem own_d2_177 : decode method_3_code 177 = .ok (.ldc 18, 2) := by decide +kernel
theorem own_d2_179 : decode method_3_code 179 = .ok (.ldc 19, 2) := by decide +kernel
theorem own_d2_181 : decode method_3_code 181 = .ok (.invokestatic 7, 3) := by decide +kernel
theorem own_d2_184 : decode method_3_code 184 = .ok (.ifCond .eq 7, 3) := by decide +kernel
theorem own_d2_187 : decode method_3_code 187 = .ok (.iconst 1, 1) := by decide +kernel
theorem own_d2_188 : decode method_3_code 188 = .ok (.goto 4, 3) := by decide +kernel
theorem own_d2_191 : decode method_3_code 191 = .ok (.iconst 0, 1) := by decide +kernel
theorem own_d2_192 : decode method_3_code 192 = .ok (.istore_n 1, 1) := by decide +kernel
theorem own_d2_193 : decode method_3_code 193 = .ok (.iload_n 1, 1) := by decide +kernel
theorem own_d2_194 : decode method_3_code 194 = .ok (.ifCond .ne 7, 3) := by decide +kernel
theorem own_d2_197 : decode method_3_code 197 = .ok (.iconst 1, 1) := by decide +kernel
theorem own_d2_198 : decode method_3_code 198 = .ok (.goto 4, 3) := by decide +kernel
theorem own_d2_201 : decode method_3_code 201 = .ok (.iconst 0, 1) := by decide +kernel
theorem own_d2_202 : decode method_3_code 202 = .ok (.ireturn, 1) := by decide +kernel
def own_f2_192 (i0 : Int32) (t0 : Int32) : Int32 := (if t0 = (0 : Int32) then (1 : Int32) else (0 : Int32))
def own_f2_187 (i0 : Int32) : Int32 := (own_f2_192 i0 (1 : Int32))
def own_f2_0 (x0 : Int32) : Int32 := (if x0 < (128 : Int32) then (if (own_f3_0 x0 (97 : Int32) (122 : Int32)) = (0 : Int32) then (if (own_f3_0 x0 (65 : Int32) (90 : Int32)) = (0 : Int32) then (if x0 = (95 : Int32) then (1 : Int32) else (if x0 = (58 : Int32) then (1 : Int32) else (0 : Int32))) else (1 : Int32)) else (1 : Int32)) else (if (983039 : Int32) < x0 then (0 : Int32) else (if (own_f3_0 x0 (128 : Int32) (191 : Int32)) = (0 : Int32) then (if x0 = (215 : Int32) then (own_f2_187 x0) else (if x0 = (247 : Int32) then (own_f2_187 x0) else (if (own_f3_0 x0 (768 : Int32) (879 : Int32)) = (0 : Int32) then (if x0 = (894 : Int32) then (own_f2_187 x0) else (if (own_f3_0 x0 (8192 : Int32) (8203 : Int32)) = (0 : Int32) then (if (own_f3_0 x0 (8206 : Int32) (8303 : Int32)) = (0 : Int32) then (if (own_f3_0 x0 (8592 : Int32) (11263 : Int32)) = (0 : Int32) then (if (own_f3_0 x0 (12272 : Int32) (12288 : Int32)) = (0 : Int32) then (if (own_f3_0 x0 (55296 : Int32) (63743 : Int32)) = (0 : Int32) then (if (own_f3_0 x0 (64976 : Int32) (65007 : Int32)) = (0 : Int32) then (if (own_f3_0 x0 (65534 : Int32) (65535 : Int32)) = (0 : Int32) then (own_f2_192 x0 (0 : Int32)) else (own_f2_187 x0)) else (own_f2_187 x0)) else (own_f2_187 x0)) else (own_f2_187 x0)) else (own_f2_187 x0)) else (own_f2_187 x0)) else (own_f2_187 x0))) else (own_f2_187 x0)))) else (own_f2_187 x0))))
set_option maxRecDepth 65536 in
set_option maxHeartbeats 4000000 in
theorem own_l2_192 {p : Program} {l : Launch} {e : Env} {s : State} {m : MethodId} {args : Array Value} {below : List Frame} {meth : Method} {c : Code} {T : State} {locs : List Loc} {Z : State} {a0 : Array Value} {h0 : Heap} {n0 : Nat}
    (X : Stand p l e ({ frames := 1, cells := 0, slots := 0, locals := 14 } : Room) s m args below meth c T locs 0 0) (hx : p.tables.exec = Jvm.exec) (hZ : Z.Warmed39 s.vm) (hw : ∀ d ∈ tables_1, d.before a0 Z = true) (hby : c.code = method_3_code) (hml : c.maxLocals = 2) (hown : s.vm.findClass "com/example/sleyreed/sleyreed/xpath/XmlNamesIsNameStartCharPinLaw" = some m.cls) (hret : meth.sig.returnType = some .boolean) (hlk : meth.locks = false) (e0 : T.heap = h0) (N : Fr n0 locs) (Z0 : n0 ≤ h0.size)
    (i0 : Int32) (t0 : Int32) {r : Int32} (hR : r = own_f2_192 i0 t0) : own_Go p e below s ({ frames := 1, cells := 0, slots := 0, locals := 14 } : Room).cells ({ frames := 1, cells := 0, slots := 0, locals := 14 } : Room).slots (own_QP (.int r) h0 n0) (T.setTop (mkF m 192 #[.val (.int i0), .unset] [(.int t0)])) := by
  unfold own_f2_192 at hR
  refine own_back (fun t k => XS.istoreN X.here hx rfl (hb hby own_d2_192) rfl (l' := #[.val (.int i0), .val (.int t0)]) rfl k) ?_
  show own_Go _ _ _ _ _ _ _ (T.setTop (mkF m 193 #[.val (.int i0), .val (.int t0)] []))
  refine own_back (fun t k => XS.iloadN X.here hx rfl (hb hby own_d2_193) rfl k) ?_
  show own_Go _ _ _ _ _ _ _ (T.setTop (mkF m 194 #[.val (.int i0), .val (.int t0)] [(.int t0)]))
  by_cases hc194 : t0 = (0 : Int32)
  · rw [if_pos hc194] at hR
    refine own_back (fun t k => XS.ifNo X.here hx rfl (hb hby own_d2_194) rfl ((if0 _ _).trans (teq hc194).2) k) ?_
    show own_Go _ _ _ _ _ _ _ (T.setTop (mkF m 197 #[.val (.int i0), .val (.int t0)] []))
    refine own_back (fun t k => XS.iconst X.here hx rfl (hb hby own_d2_197) k) ?_
    show own_Go _ _ _ _ _ _ _ (T.setTop (mkF m 198 #[.val (.int i0), .val (.int t0)] [(.int (1 : Int32))]))
    refine own_back (fun t k => XS.goto X.here hx rfl (pc0 := 198) (pc' := 202) rfl (hb hby own_d2_198) (by decide) (by decide) k) ?_
    show own_Go _ _ _ _ _ _ _ (T.setTop (mkF m 202 #[.val (.int i0), .val (.int t0)] [(.int (1 : Int32))]))
    subst hR
    exact own_retN X hx (t := .boolean) hret (by simp) (hb hby own_d2_202) hlk (by decide) ⟨rfl, N, e0⟩ (by decide) (by decide)
  · rw [if_neg hc194] at hR
    refine own_back (fun t k => XS.ifYes X.here hx rfl (pc0 := 194) (pc' := 201) rfl (hb hby own_d2_194) rfl ((if0 _ _).trans (feq hc194).2) (by decide) (by decide) k) ?_
    show own_Go _ _ _ _ _ _ _ (T.setTop (mkF m 201 #[.val (.int i0), .val (.int t0)] []))
    refine own_back (fun t k => XS.iconst X.here hx rfl (hb hby own_d2_201) k) ?_
    show own_Go _ _ _ _ _ _ _ (T.setTop (mkF m 202 #[.val (.int i0), .val (.int t0)] [(.int (0 : Int32))]))
    subst hR
    exact own_retN X hx (t := .boolean) hret (by simp) (hb hby own_d2_202) hlk (by decide) ⟨rfl, N, e0⟩ (by decide) (by decide)
set_option maxRecDepth 65536 in
set_option maxHeartbeats 4000000 in
theorem own_l2_187 {p : Program} {l : Launch} {e : Env} {s : State} {m : MethodId} {args : Array Value} {below : List Frame} {meth : Method} {c : Code} {T : State} {locs : List Loc} {Z : State} {a0 : Array Value} {h0 : Heap} {n0 : Nat}
    (X : Stand p l e ({ frames := 1, cells := 0, slots := 0, locals := 14 } : Room) s m args below meth c T locs 0 0) (hx : p.tables.exec = Jvm.exec) (hZ : Z.Warmed39 s.vm) (hw : ∀ d ∈ tables_1, d.before a0 Z = true) (hby : c.code = method_3_code) (hml : c.maxLocals = 2) (hown : s.vm.findClass "com/example/sleyreed/sleyreed/xpath/XmlNamesIsNameStartCharPinLaw" = some m.cls) (hret : meth.sig.returnType = some .boolean) (hlk : meth.locks = false) (e0 : T.heap = h0) (N : Fr n0 locs) (Z0 : n0 ≤ h0.size)
    (i0 : Int32) {r : Int32} (hR : r = own_f2_187 i0) : own_Go p e below s ({ frames := 1, cells := 0, slots := 0, locals := 14 } : Room).cells ({ frames := 1, cells := 0, slots := 0, locals := 14 } : Room).slots (own_QP (.int r) h0 n0) (T.setTop (mkF m 187 #[.val (.int i0), .unset] [])) := by
  unfold own_f2_187 at hR
  refine own_back (fun t k => XS.iconst X.here hx rfl (hb hby own_d2_187) k) ?_
  show own_Go _ _ _ _ _ _ _ (T.setTop (mkF m 188 #[.val (.int i0), .unset] [(.int (1 : Int32))]))
  refine own_back (fun t k => XS.goto X.here hx rfl (pc0 := 188) (pc' := 192) rfl (hb hby own_d2_188) (by decide) (by decide) k) ?_
  show own_Go _ _ _ _ _ _ _ (T.setTop (mkF m 192 #[.val (.int i0), .unset] [(.int (1 : Int32))]))
  exact own_l2_192 X hx hZ hw hby hml hown hret hlk e0 N Z0 i0 (1 : Int32) hR
set_option maxRecDepth 65536 in
set_option maxHeartbeats 4000000 in
theorem own_l2_0 {p : Program} {l : Launch} {e : Env} {s : State} {m : MethodId} {args : Array Value} {below : List Frame} {meth : Method} {c : Code} {T : State} {locs : List Loc} {Z : State} {a0 : Array Value} {h0 : Heap} {n0 : Nat}
    (X : Stand p l e ({ frames := 1, cells := 0, slots := 0, locals := 14 } : Room) s m args below meth c T locs 0 0) (hx : p.tables.exec = Jvm.exec) (hZ : Z.Warmed39 s.vm) (hw : ∀ d ∈ tables_1, d.before a0 Z = true) (hby : c.code = method_3_code) (hml : c.maxLocals = 2) (hown : s.vm.findClass "com/example/sleyreed/sleyreed/xpath/XmlNamesIsNameStartCharPinLaw" = some m.cls) (hret : meth.sig.returnType = some .boolean) (hlk : meth.locks = false) (e0 : T.heap = h0) (N : Fr n0 locs) (Z0 : n0 ≤ h0.size)
    (x0 : Int32) {r : Int32} (hR : r = own_f2_0 x0) : own_Go p e below s ({ frames := 1, cells := 0, slots := 0, locals := 14 } : Room).cells ({ frames := 1, cells := 0, slots := 0, locals := 14 } : Room).slots (own_QP (.int r) h0 n0) (T.setTop (mkF m 0 #[.val (.int x0), .unset] [])) := by
  unfold own_f2_0 at hR
  refine own_back (fun t k => XS.iloadN X.here hx rfl (hb hby own_d2_0) rfl k) ?_
  show own_Go _ _ _ _ _ _ _ (T.setTop (mkF m 1 #[.val (.int x0), .unset] [(.int x0)]))
  refine own_back (fun t k => XS.sipush X.here hx rfl (hb hby own_d2_1) k) ?_
  show own_Go _ _ _ _ _ _ _ (T.setTop (mkF m 4 #[.val (.int x0), .unset] [(.int (128 : Int32)), (.int x0)]))
  by_cases hc4 : x0 < (128 : Int32)
  · rw [if_pos hc4] at hR
    refine own_back (fun t k => XS.icmpNo X.here hx rfl (hb hby own_d2_4) rfl (tlt hc4).2.1 k) ?_
    show own_Go _ _ _ _ _ _ _ (T.setTop (mkF m 7 #[.val (.int x0), .unset] []))
    refine own_back (fun t k => XS.iloadN X.here hx rfl (hb hby own_d2_7) rfl k) ?_
    show own_Go _ _ _ _ _ _ _ (T.setTop (mkF m 8 #[.val (.int x0), .unset] [(.int x0)]))
    refine own_back (fun t k => XS.bipush X.here hx rfl (hb hby own_d2_8) k) ?_
    show own_Go _ _ _ _ _ _ _ (T.setTop (mkF m 10 #[.val (.int x0), .unset] [(.int (97 : Int32)), (.int x0)]))
    refine own_back (fun t k => XS.bipush X.here hx rfl (hb hby own_d2_10) k) ?_
    show own_Go _ _ _ _ _ _ _ (T.setTop (mkF m 12 #[.val (.int x0), .unset] [(.int (122 : Int32)), (.int (97 : Int32)), (.int x0)]))
    obtain ⟨_, _, ⟨T1, L1, k1, n1⟩, -, X1, ⟨Lc1, hQ1, l1, y1, z1⟩, st1⟩ := Jvm.LawKit.callS X hx (y := (⟨"com/example/sleyreed/sleyreed/xpath/XmlNamesIsNameStartCharPinLaw", "in", "(III)Z"⟩ : MethodName)) hown (mvT hZ (hw _ (List.mem_of_getElem? (i := 18) rfl))) (mvT hZ (hw _ (List.mem_of_getElem? (i := 19) rfl))) (mvT hZ (hw _ (List.mem_of_getElem? (i := 16) rfl))) (mvT hZ (hw _ (List.mem_of_getElem? (i := 20) rfl))) (by decide) (backOf (W := 0) (own_rm3 l Z a0 hw [] x0 (97 : Int32) (122 : Int32) h0 n0 Z0) hZ (hw _ (List.mem_of_getElem? (i := 20) rfl)) (hw _ (List.mem_of_getElem? (i := 16) rfl)) (by decide) (by decide)) (g := (mkF m 12 #[.val (.int x0), .unset] [(.int (122 : Int32)), (.int (97 : Int32)), (.int x0)])) rfl (by rw [hml]; rfl) (argsL := [(.int x0), (.int (97 : Int32)), (.int (122 : Int32))]) (rest := []) (lenOf own_pd0 rfl) rfl (by show 2 * 0 + _ ≤ _; exact Nat.le_of_eq rfl) (hb hby own_d2_12) (fun _ _ => ⟨rfl, e0, (by decide : 0 + 0 ≤ _), (by decide : 0 + 0 ≤ _)⟩)
    dsimp only [Pt.U, Pt.locs, Pt.cells, Pt.slots] at X1 l1 y1 z1 st1 hQ1
    subst l1 y1 z1
    obtain ⟨rfl, N1q, e1⟩ := hQ1
    have N1 := Fr.app N N1q
    refine own_back (fun t k => st1 t k) ?_
    show own_Go _ _ _ _ _ _ _ (T1.setTop (mkF m 15 #[.val (.int x0), .unset] [(.int (own_f3_0 x0 (97 : Int32) (122 : Int32)))]))
    by_cases hc15 : (own_f3_0 x0 (97 : Int32) (122 : Int32)) = (0 : Int32)
    · rw [if_pos hc15] at hR
      refine own_back (fun t k => XS.ifNo X1.here hx rfl (hb hby own_d2_15) rfl ((if0 _ _).trans (teq hc15).2) k) ?_
      show own_Go _ _ _ _ _ _ _ (T1.setTop (mkF m 18 #[.val (.int x0), .unset] []))
      refine own_back (fun t k => XS.iloadN X1.here hx rfl (hb hby own_d2_18) rfl k) ?_
      show own_Go _ _ _ _ _ _ _ (T1.setTop (mkF m 19 #[.val (.int x0), .unset] [(.int x0)]))
      refine own_back (fun t k => XS.bipush X1.here hx rfl (hb hby own_d2_19) k) ?_
      show own_Go _ _ _ _ _ _ _ (T1.setTop (mkF m 21 #[.val (.int x0), .unset] [(.int (65 : Int32)), (.int x0)]))
      refine own_back (fun t k => XS.bipush X1.here hx rfl (hb hby own_d2_21) k) ?_
      show own_Go _ _ _ _ _ _ _ (T1.setTop (mkF m 23 #[.val (.int x0), .unset] [(.int (90 : Int32)), (.int (65 : Int32)), (.int x0)]))
      obtain ⟨_, _, ⟨T2, L2, k2, n2⟩, -, X2, ⟨Lc2, hQ2, l2, y2, z2⟩, st2⟩ := Jvm.LawKit.callS X1 hx (y := (⟨"com/example/sleyreed/sleyreed/xpath/XmlNamesIsNameStartCharPinLaw", "in", "(III)Z"⟩ : MethodName)) hown (mvT hZ (hw _ (List.mem_of_getElem? (i := 18) rfl))) (mvT hZ (hw _ (List.mem_of_getElem? (i := 19) rfl))) (mvT hZ (hw _ (List.mem_of_getElem? (i := 16) rfl))) (mvT hZ (hw _ (List.mem_of_getElem? (i := 20) rfl))) (by decide) (backOf (W := 0) (own_rm3 l Z a0 hw [] x0 (65 : Int32) (90 : Int32) h0 n0 Z0) hZ (hw _ (List.mem_of_getElem? (i := 20) rfl)) (hw _ (List.mem_of_getElem? (i := 16) rfl)) (by decide) (by decide)) (g := (mkF m 23 #[.val (.int x0), .unset] [(.int (90 : Int32)), (.int (65 : Int32)), (.int x0)])) rfl (by rw [hml]; rfl) (argsL := [(.int x0), (.int (65 : Int32)), (.int (90 : Int32))]) (rest := []) (lenOf own_pd0 rfl) rfl (by show 2 * 0 + _ ≤ _; exact Nat.le_of_eq rfl) (hb hby own_d2_23) (fun _ _ => ⟨rfl, e1, (by decide : 0 + 0 ≤ _), (by decide : 0 + 0 ≤ _)⟩)
      dsimp only [Pt.U, Pt.locs, Pt.cells, Pt.slots] at X2 l2 y2 z2 st2 hQ2
      subst l2 y2 z2
      obtain ⟨rfl, N2q, e2⟩ := hQ2
      have N2 := Fr.app N1 N2q
      refine own_back (fun t k => st2 t k) ?_
      show own_Go _ _ _ _ _ _ _ (T2.setTop (mkF m 26 #[.val (.int x0), .unset] [(.int (own_f3_0 x0 (65 : Int32) (90 : Int32)))]))
      by_cases hc26 : (own_f3_0 x0 (65 : Int32) (90 : Int32)) = (0 : Int32)
      · rw [if_pos hc26] at hR
        refine own_back (fun t k => XS.ifNo X2.here hx rfl (hb hby own_d2_26) rfl ((if0 _ _).trans (teq hc26).2) k) ?_
        show own_Go _ _ _ _ _ _ _ (T2.setTop (mkF m 29 #[.val (.int x0), .unset] []))
        refine own_back (fun t k => XS.iloadN X2.here hx rfl (hb hby own_d2_29) rfl k) ?_
        show own_Go _ _ _ _ _ _ _ (T2.setTop (mkF m 30 #[.val (.int x0), .unset] [(.int x0)]))
        refine own_back (fun t k => XS.bipush X2.here hx rfl (hb hby own_d2_30) k) ?_
        show own_Go _ _ _ _ _ _ _ (T2.setTop (mkF m 32 #[.val (.int x0), .unset] [(.int (95 : Int32)), (.int x0)]))
        by_cases hc32 : x0 = (95 : Int32)
        · rw [if_pos hc32] at hR
          refine own_back (fun t k => XS.icmpYes X2.here hx rfl (pc0 := 32) (pc' := 41) rfl (hb hby own_d2_32) rfl (teq hc32).1 (by decide) (by decide) k) ?_
          show own_Go _ _ _ _ _ _ _ (T2.setTop (mkF m 41 #[.val (.int x0), .unset] []))
          refine own_back (fun t k => XS.iconst X2.here hx rfl (hb hby own_d2_41) k) ?_
          show own_Go _ _ _ _ _ _ _ (T2.setTop (mkF m 42 #[.val (.int x0), .unset] [(.int (1 : Int32))]))
          refine own_back (fun t k => XS.goto X2.here hx rfl (pc0 := 42) (pc' := 46) rfl (hb hby own_d2_42) (by decide) (by decide) k) ?_
          show own_Go _ _ _ _ _ _ _ (T2.setTop (mkF m 46 #[.val (.int x0), .unset] [(.int (1 : Int32))]))
          subst hR
          exact own_retN X2 hx (t := .boolean) hret (by simp) (hb hby own_d2_46) hlk (by decide) ⟨rfl, N2, e2⟩ (by decide) (by decide)
        · rw [if_neg hc32] at hR
          refine own_back (fun t k => XS.icmpNo X2.here hx rfl (hb hby own_d2_32) rfl (feq hc32).1 k) ?_
          show own_Go _ _ _ _ _ _ _ (T2.setTop (mkF m 35 #[.val (.int x0), .unset] []))
          refine own_back (fun t k => XS.iloadN X2.here hx rfl (hb hby own_d2_35) rfl k) ?_
          show own_Go _ _ _ _ _ _ _ (T2.setTop (mkF m 36 #[.val (.int x0), .unset] [(.int x0)]))
          refine own_back (fun t k => XS.bipush X2.here hx rfl (hb hby own_d2_36) k) ?_
          show own_Go _ _ _ _ _ _ _ (T2.setTop (mkF m 38 #[.val (.int x0), .unset] [(.int (58 : Int32)), (.int x0)]))
          by_cases hc38 : x0 = (58 : Int32)
          · rw [if_pos hc38] at hR
            refine own_back (fun t k => XS.icmpNo X2.here hx rfl (hb hby own_d2_38) rfl (teq hc38).2 k) ?_
            show own_Go _ _ _ _ _ _ _ (T2.setTop (mkF m 41 #[.val (.int x0), .unset] []))
            refine own_back (fun t k => XS.iconst X2.here hx rfl (hb hby own_d2_41) k) ?_
            show own_Go _ _ _ _ _ _ _ (T2.setTop (mkF m 42 #[.val (.int x0), .unset] [(.int (1 : Int32))]))
            refine own_back (fun t k => XS.goto X2.here hx rfl (pc0 := 42) (pc' := 46) rfl (hb hby own_d2_42) (by decide) (by decide) k) ?_
            show own_Go _ _ _ _ _ _ _ (T2.setTop (mkF m 46 #[.val (.int x0), .unset] [(.int (1 : Int32))]))
            subst hR
            exact own_retN X2 hx (t := .boolean) hret (by simp) (hb hby own_d2_46) hlk (by decide) ⟨rfl, N2, e2⟩ (by decide) (by decide)
          · rw [if_neg hc38] at hR
            refine own_back (fun t k => XS.icmpYes X2.here hx rfl (pc0 := 38) (pc' := 45) rfl (hb hby own_d2_38) rfl (feq hc38).2 (by decide) (by decide) k) ?_
            show own_Go _ _ _ _ _ _ _ (T2.setTop (mkF m 45 #[.val (.int x0), .unset] []))
            refine own_back (fun t k => XS.iconst X2.here hx rfl (hb hby own_d2_45) k) ?_
            show own_Go _ _ _ _ _ _ _ (T2.setTop (mkF m 46 #[.val (.int x0), .unset] [(.int (0 : Int32))]))
            subst hR
            exact own_retN X2 hx (t := .boolean) hret (by simp) (hb hby own_d2_46) hlk (by decide) ⟨rfl, N2, e2⟩ (by decide) (by decide)
      · rw [if_neg hc26] at hR
        refine own_back (fun t k => XS.ifYes X2.here hx rfl (pc0 := 26) (pc' := 41) rfl (hb hby own_d2_26) rfl ((if0 _ _).trans (feq hc26).2) (by decide) (by decide) k) ?_
        show own_Go _ _ _ _ _ _ _ (T2.setTop (mkF m 41 #[.val (.int x0), .unset] []))
        refine own_back (fun t k => XS.iconst X2.here hx rfl (hb hby own_d2_41) k) ?_
        show own_Go _ _ _ _ _ _ _ (T2.setTop (mkF m 42 #[.val (.int x0), .unset] [(.int (1 : Int32))]))
        refine own_back (fun t k => XS.goto X2.here hx rfl (pc0 := 42) (pc' := 46) rfl (hb hby own_d2_42) (by decide) (by decide) k) ?_
        show own_Go _ _ _ _ _ _ _ (T2.setTop (mkF m 46 #[.val (.int x0), .unset] [(.int (1 : Int32))]))
        subst hR
        exact own_retN X2 hx (t := .boolean) hret (by simp) (hb hby own_d2_46) hlk (by decide) ⟨rfl, N2, e2⟩ (by decide) (by decide)
    · rw [if_neg hc15] at hR
      refine own_back (fun t k => XS.ifYes X1.here hx rfl (pc0 := 15) (pc' := 41) rfl (hb hby own_d2_15) rfl ((if0 _ _).trans (feq hc15).2) (by decide) (by decide) k) ?_
      show own_Go _ _ _ _ _ _ _ (T1.setTop (mkF m 41 #[.val (.int x0), .unset] []))
      refine own_back (fun t k => XS.iconst X1.here hx rfl (hb hby own_d2_41) k) ?_
      show own_Go _ _ _ _ _ _ _ (T1.setTop (mkF m 42 #[.val (.int x0), .unset] [(.int (1 : Int32))]))
      refine own_back (fun t k => XS.goto X1.here hx rfl (pc0 := 42) (pc' := 46) rfl (hb hby own_d2_42) (by decide) (by decide) k) ?_
      show own_Go _ _ _ _ _ _ _ (T1.setTop (mkF m 46 #[.val (.int x0), .unset] [(.int (1 : Int32))]))
      subst hR
      exact own_retN X1 hx (t := .boolean) hret (by simp) (hb hby own_d2_46) hlk (by decide) ⟨rfl, N1, e1⟩ (by decide) (by decide)
  · rw [if_neg hc4] at hR
    refine own_back (fun t k => XS.icmpYes X.here hx rfl (pc0 := 4) (pc' := 47) rfl (hb hby own_d2_4) rfl (flt hc4).2.1 (by decide) (by decide) k) ?_
    show own_Go _ _ _ _ _ _ _ (T.setTop (mkF m 47 #[.val (.int x0), .unset] []))
    refine own_back (fun t k => XS.iloadN X.here hx rfl (hb hby own_d2_47) rfl k) ?_
    show own_Go _ _ _ _ _ _ _ (T.setTop (mkF m 48 #[.val (.int x0), .unset] [(.int x0)]))
    refine own_back (fun t k => X.ldcInt hx hown (mvT hZ (hw _ (List.mem_of_getElem? (i := 24) rfl))) (g := (mkF m 48 #[.val (.int x0), .unset] [(.int x0)])) rfl (hb hby own_d2_48) _ k) ?_
    show own_Go _ _ _ _ _ _ _ (T.setTop (mkF m 50 #[.val (.int x0), .unset] [(.int (983039 : Int32)), (.int x0)]))
    by_cases hc50 : (983039 : Int32) < x0
    · rw [if_pos hc50] at hR
      refine own_back (fun t k => XS.icmpNo X.here hx rfl (hb hby own_d2_50) rfl (tlt hc50).2.2.2 k) ?_
      show own_Go _ _ _ _ _ _ _ (T.setTop (mkF m 53 #[.val (.int x0), .unset] []))
      refine own_back (fun t k => XS.iconst X.here hx rfl (hb hby own_d2_53) k) ?_
      show own_Go _ _ _ _ _ _ _ (T.setTop (mkF m 54 #[.val (.int x0), .unset] [(.int (0 : Int32))]))
      subst hR
      exact own_retN X hx (t := .boolean) hret (by simp) (hb hby own_d2_54) hlk (by decide) ⟨rfl, N, e0⟩ (by decide) (by decide)
    · rw [if_neg hc50] at hR
      refine own_back (fun t k => XS.icmpYes X.here hx rfl (pc0 := 50) (pc' := 55) rfl (hb hby own_d2_50) rfl (flt hc50).2.2.2 (by decide) (by decide) k) ?_
      show own_Go _ _ _ _ _ _ _ (T.setTop (mkF m 55 #[.val (.int x0), .unset] []))
      refine own_back (fun t k => XS.iloadN X.here hx rfl (hb hby own_d2_55) rfl k) ?_
      show own_Go _ _ _ _ _ _ _ (T.setTop (mkF m 56 #[.val (.int x0), .unset] [(.int x0)]))
      refine own_back (fun t k => XS.sipush X.here hx rfl (hb hby own_d2_56) k) ?_
      show own_Go _ _ _ _ _ _ _ (T.setTop (mkF m 59 #[.val (.int x0), .unset] [(.int (128 : Int32)), (.int x0)]))
      refine own_back (fun t k => XS.sipush X.here hx rfl (hb hby own_d2_59) k) ?_
      show own_Go _ _ _ _ _ _ _ (T.setTop (mkF m 62 #[.val (.int x0), .unset] [(.int (191 : Int32)), (.int (128 : Int32)), (.int x0)]))
      obtain ⟨_, _, ⟨T3, L3, k3, n3⟩, -, X3, ⟨Lc3, hQ3, l3, y3, z3⟩, st3⟩ := Jvm.LawKit.callS X hx (y := (⟨"com/example/sleyreed/sleyreed/xpath/XmlNamesIsNameStartCharPinLaw", "in", "(III)Z"⟩ : MethodName)) hown (mvT hZ (hw _ (List.mem_of_getElem? (i := 18) rfl))) (mvT hZ (hw _ (List.mem_of_getElem? (i := 19) rfl))) (mvT hZ (hw _ (List.mem_of_getElem? (i := 16) rfl))) (mvT hZ (hw _ (List.mem_of_getElem? (i := 20) rfl))) (by decide) (backOf (W := 0) (own_rm3 l Z a0 hw [] x0 (128 : Int32) (191 : Int32) h0 n0 Z0) hZ (hw _ (List.mem_of_getElem? (i := 20) rfl)) (hw _ (List.mem_of_getElem? (i := 16) rfl)) (by decide) (by decide)) (g := (mkF m 62 #[.val (.int x0), .unset] [(.int (191 : Int32)), (.int (128 : Int32)), (.int x0)])) rfl (by rw [hml]; rfl) (argsL := [(.int x0), (.int (128 : Int32)), (.int (191 : Int32))]) (rest := []) (lenOf own_pd0 rfl) rfl (by show 2 * 0 + _ ≤ _; exact Nat.le_of_eq rfl) (hb hby own_d2_62) (fun _ _ => ⟨rfl, e0, (by decide : 0 + 0 ≤ _), (by decide : 0 + 0 ≤ _)⟩)
      dsimp only [Pt.U, Pt.locs, Pt.cells, Pt.slots] at X3 l3 y3 z3 st3 hQ3
      subst l3 y3 z3
      obtain ⟨rfl, N3q, e3⟩ := hQ3
      have N3 := Fr.app N N3q
      refine own_back (fun t k => st3 t k) ?_
      show own_Go _ _ _ _ _ _ _ (T3.setTop (mkF m 65 #[.val (.int x0), .unset] [(.int (own_f3_0 x0 (128 : Int32) (191 : Int32)))]))
      by_cases hc65 : (own_f3_0 x0 (128 : Int32) (191 : Int32)) = (0 : Int32)
      · rw [if_pos hc65] at hR
        refine own_back (fun t k => XS.ifNo X3.here hx rfl (hb hby own_d2_65) rfl ((if0 _ _).trans (teq hc65).2) k) ?_
        show own_Go _ _ _ _ _ _ _ (T3.setTop (mkF m 68 #[.val (.int x0), .unset] []))
        refine own_back (fun t k => XS.iloadN X3.here hx rfl (hb hby own_d2_68) rfl k) ?_
        show own_Go _ _ _ _ _ _ _ (T3.setTop (mkF m 69 #[.val (.int x0), .unset] [(.int x0)]))
        refine own_back (fun t k => XS.sipush X3.here hx rfl (hb hby own_d2_69) k) ?_
        show own_Go _ _ _ _ _ _ _ (T3.setTop (mkF m 72 #[.val (.int x0), .unset] [(.int (215 : Int32)), (.int x0)]))
        by_cases hc72 : x0 = (215 : Int32)
        · rw [if_pos hc72] at hR
          refine own_back (fun t k => XS.icmpYes X3.here hx rfl (pc0 := 72) (pc' := 187) rfl (hb hby own_d2_72) rfl (teq hc72).1 (by decide) (by decide) k) ?_
          show own_Go _ _ _ _ _ _ _ (T3.setTop (mkF m 187 #[.val (.int x0), .unset] []))
          exact own_l2_187 X3 hx hZ hw hby hml hown hret hlk e3 N3 Z0 x0 hR
        · rw [if_neg hc72] at hR
          refine own_back (fun t k => XS.icmpNo X3.here hx rfl (hb hby own_d2_72) rfl (feq hc72).1 k) ?_
          show own_Go _ _ _ _ _ _ _ (T3.setTop (mkF m 75 #[.val (.int x0), .unset] []))
          refine own_back (fun t k => XS.iloadN X3.here hx rfl (hb hby own_d2_75) rfl k) ?_
          show own_Go _ _ _ _ _ _ _ (T3.setTop (mkF m 76 #[.val (.int x0), .unset] [(.int x0)]))
          refine own_back (fun t k => XS.sipush X3.here hx rfl (hb hby own_d2_76) k) ?_
          show own_Go _ _ _ _ _ _ _ (T3.setTop (mkF m 79 #[.val (.int x0), .unset] [(.int (247 : Int32)), (.int x0)]))
          by_cases hc79 : x0 = (247 : Int32)
          · rw [if_pos hc79] at hR
            refine own_back (fun t k => XS.icmpYes X3.here hx rfl (pc0 := 79) (pc' := 187) rfl (hb hby own_d2_79) rfl (teq hc79).1 (by decide) (by decide) k) ?_
            show own_Go _ _ _ _ _ _ _ (T3.setTop (mkF m 187 #[.val (.int x0), .unset] []))
            exact own_l2_187 X3 hx hZ hw hby hml hown hret hlk e3 N3 Z0 x0 hR
          · rw [if_neg hc79] at hR
            refine own_back (fun t k => XS.icmpNo X3.here hx rfl (hb hby own_d2_79) rfl (feq hc79).1 k) ?_
            show own_Go _ _ _ _ _ _ _ (T3.setTop (mkF m 82 #[.val (.int x0), .unset] []))
            refine own_back (fun t k => XS.iloadN X3.here hx rfl (hb hby own_d2_82) rfl k) ?_
            show own_Go _ _ _ _ _ _ _ (T3.setTop (mkF m 83 #[.val (.int x0), .unset] [(.int x0)]))
            refine own_back (fun t k => XS.sipush X3.here hx rfl (hb hby own_d2_83) k) ?_
            show own_Go _ _ _ _ _ _ _ (T3.setTop (mkF m 86 #[.val (.int x0), .unset] [(.int (768 : Int32)), (.int x0)]))
            refine own_back (fun t k => XS.sipush X3.here hx rfl (hb hby own_d2_86) k) ?_
            show own_Go _ _ _ _ _ _ _ (T3.setTop (mkF m 89 #[.val (.int x0), .unset] [(.int (879 : Int32)), (.int (768 : Int32)), (.int x0)]))
            obtain ⟨_, _, ⟨T4, L4, k4, n4⟩, -, X4, ⟨Lc4, hQ4, l4, y4, z4⟩, st4⟩ := Jvm.LawKit.callS X3 hx (y := (⟨"com/example/sleyreed/sleyreed/xpath/XmlNamesIsNameStartCharPinLaw", "in", "(III)Z"⟩ : MethodName)) hown (mvT hZ (hw _ (List.mem_of_getElem? (i := 18) rfl))) (mvT hZ (hw _ (List.mem_of_getElem? (i := 19) rfl))) (mvT hZ (hw _ (List.mem_of_getElem? (i := 16) rfl))) (mvT hZ (hw _ (List.mem_of_getElem? (i := 20) rfl))) (by decide) (backOf (W := 0) (own_rm3 l Z a0 hw [] x0 (768 : Int32) (879 : Int32) h0 n0 Z0) hZ (hw _ (List.mem_of_getElem? (i := 20) rfl)) (hw _ (List.mem_of_getElem? (i := 16) rfl)) (by decide) (by decide)) (g := (mkF m 89 #[.val (.int x0), .unset] [(.int (879 : Int32)), (.int (768 : Int32)), (.int x0)])) rfl (by rw [hml]; rfl) (argsL := [(.int x0), (.int (768 : Int32)), (.int (879 : Int32))]) (rest := []) (lenOf own_pd0 rfl) rfl (by show 2 * 0 + _ ≤ _; exact Nat.le_of_eq rfl) (hb hby own_d2_89) (fun _ _ => ⟨rfl, e3, (by decide : 0 + 0 ≤ _), (by decide : 0 + 0 ≤ _)⟩)
            dsimp only [Pt.U, Pt.locs, Pt.cells, Pt.slots] at X4 l4 y4 z4 st4 hQ4
            subst l4 y4 z4
            obtain ⟨rfl, N4q, e4⟩ := hQ4
            have N4 := Fr.app N3 N4q
            refine own_back (fun t k => st4 t k) ?_
            show own_Go _ _ _ _ _ _ _ (T4.setTop (mkF m 92 #[.val (.int x0), .unset] [(.int (own_f3_0 x0 (768 : Int32) (879 : Int32)))]))
            by_cases hc92 : (own_f3_0 x0 (768 : Int32) (879 : Int32)) = (0 : Int32)
            · rw [if_pos hc92] at hR
              refine own_back (fun t k => XS.ifNo X4.here hx rfl (hb hby own_d2_92) rfl ((if0 _ _).trans (teq hc92).2) k) ?_
              show own_Go _ _ _ _ _ _ _ (T4.setTop (mkF m 95 #[.val (.int x0), .unset] []))
              refine own_back (fun t k => XS.iloadN X4.here hx rfl (hb hby own_d2_95) rfl k) ?_
              show own_Go _ _ _ _ _ _ _ (T4.setTop (mkF m 96 #[.val (.int x0), .unset] [(.int x0)]))
              refine own_back (fun t k => XS.sipush X4.here hx rfl (hb hby own_d2_96) k) ?_
              show own_Go _ _ _ _ _ _ _ (T4.setTop (mkF m 99 #[.val (.int x0), .unset] [(.int (894 : Int32)), (.int x0)]))
              by_cases hc99 : x0 = (894 : Int32)
              · rw [if_pos hc99] at hR
                refine own_back (fun t k => XS.icmpYes X4.here hx rfl (pc0 := 99) (pc' := 187) rfl (hb hby own_d2_99) rfl (teq hc99).1 (by decide) (by decide) k) ?_
                show own_Go _ _ _ _ _ _ _ (T4.setTop (mkF m 187 #[.val (.int x0), .unset] []))
                exact own_l2_187 X4 hx hZ hw hby hml hown hret hlk e4 N4 Z0 x0 hR
              · rw [if_neg hc99] at hR
                refine own_back (fun t k => XS.icmpNo X4.here hx rfl (hb hby own_d2_99) rfl (feq hc99).1 k) ?_
                show own_Go _ _ _ _ _ _ _ (T4.setTop (mkF m 102 #[.val (.int x0), .unset] []))
                refine own_back (fun t k => XS.iloadN X4.here hx rfl (hb hby own_d2_102) rfl k) ?_
                show own_Go _ _ _ _ _ _ _ (T4.setTop (mkF m 103 #[.val (.int x0), .unset] [(.int x0)]))
                refine own_back (fun t k => XS.sipush X4.here hx rfl (hb hby own_d2_103) k) ?_
                show own_Go _ _ _ _ _ _ _ (T4.setTop (mkF m 106 #[.val (.int x0), .unset] [(.int (8192 : Int32)), (.int x0)]))
                refine own_back (fun t k => XS.sipush X4.here hx rfl (hb hby own_d2_106) k) ?_
                show own_Go _ _ _ _ _ _ _ (T4.setTop (mkF m 109 #[.val (.int x0), .unset] [(.int (8203 : Int32)), (.int (8192 : Int32)), (.int x0)]))
                obtain ⟨_, _, ⟨T5, L5, k5, n5⟩, -, X5, ⟨Lc5, hQ5, l5, y5, z5⟩, st5⟩ := Jvm.LawKit.callS X4 hx (y := (⟨"com/example/sleyreed/sleyreed/xpath/XmlNamesIsNameStartCharPinLaw", "in", "(III)Z"⟩ : MethodName)) hown (mvT hZ (hw _ (List.mem_of_getElem? (i := 18) rfl))) (mvT hZ (hw _ (List.mem_of_getElem? (i := 19) rfl))) (mvT hZ (hw _ (List.mem_of_getElem? (i := 16) rfl))) (mvT hZ (hw _ (List.mem_of_getElem? (i := 20) rfl))) (by decide) (backOf (W := 0) (own_rm3 l Z a0 hw [] x0 (8192 : Int32) (8203 : Int32) h0 n0 Z0) hZ (hw _ (List.mem_of_getElem? (i := 20) rfl)) (hw _ (List.mem_of_getElem? (i := 16) rfl)) (by decide) (by decide)) (g := (mkF m 109 #[.val (.int x0), .unset] [(.int (8203 : Int32)), (.int (8192 : Int32)), (.int x0)])) rfl (by rw [hml]; rfl) (argsL := [(.int x0), (.int (8192 : Int32)), (.int (8203 : Int32))]) (rest := []) (lenOf own_pd0 rfl) rfl (by show 2 * 0 + _ ≤ _; exact Nat.le_of_eq rfl) (hb hby own_d2_109) (fun _ _ => ⟨rfl, e4, (by decide : 0 + 0 ≤ _), (by decide : 0 + 0 ≤ _)⟩)
                dsimp only [Pt.U, Pt.locs, Pt.cells, Pt.slots] at X5 l5 y5 z5 st5 hQ5
                subst l5 y5 z5
                obtain ⟨rfl, N5q, e5⟩ := hQ5
                have N5 := Fr.app N4 N5q
                refine own_back (fun t k => st5 t k) ?_
                show own_Go _ _ _ _ _ _ _ (T5.setTop (mkF m 112 #[.val (.int x0), .unset] [(.int (own_f3_0 x0 (8192 : Int32) (8203 : Int32)))]))
                by_cases hc112 : (own_f3_0 x0 (8192 : Int32) (8203 : Int32)) = (0 : Int32)
                · rw [if_pos hc112] at hR
                  refine own_back (fun t k => XS.ifNo X5.here hx rfl (hb hby own_d2_112) rfl ((if0 _ _).trans (teq hc112).2) k) ?_
                  show own_Go _ _ _ _ _ _ _ (T5.setTop (mkF m 115 #[.val (.int x0), .unset] []))
                  refine own_back (fun t k => XS.iloadN X5.here hx rfl (hb hby own_d2_115) rfl k) ?_
                  show own_Go _ _ _ _ _ _ _ (T5.setTop (mkF m 116 #[.val (.int x0), .unset] [(.int x0)]))
                  refine own_back (fun t k => XS.sipush X5.here hx rfl (hb hby own_d2_116) k) ?_
                  show own_Go _ _ _ _ _ _ _ (T5.setTop (mkF m 119 #[.val (.int x0), .unset] [(.int (8206 : Int32)), (.int x0)]))
                  refine own_back (fun t k => XS.sipush X5.here hx rfl (hb hby own_d2_119) k) ?_
                  show own_Go _ _ _ _ _ _ _ (T5.setTop (mkF m 122 #[.val (.int x0), .unset] [(.int (8303 : Int32)), (.int (8206 : Int32)), (.int x0)]))
                  obtain ⟨_, _, ⟨T6, L6, k6, n6⟩, -, X6, ⟨Lc6, hQ6, l6, y6, z6⟩, st6⟩ := Jvm.LawKit.callS X5 hx (y := (⟨"com/example/sleyreed/sleyreed/xpath/XmlNamesIsNameStartCharPinLaw", "in", "(III)Z"⟩ : MethodName)) hown (mvT hZ (hw _ (List.mem_of_getElem? (i := 18) rfl))) (mvT hZ (hw _ (List.mem_of_getElem? (i := 19) rfl))) (mvT hZ (hw _ (List.mem_of_getElem? (i := 16) rfl))) (mvT hZ (hw _ (List.mem_of_getElem? (i := 20) rfl))) (by decide) (backOf (W := 0) (own_rm3 l Z a0 hw [] x0 (8206 : Int32) (8303 : Int32) h0 n0 Z0) hZ (hw _ (List.mem_of_getElem? (i := 20) rfl)) (hw _ (List.mem_of_getElem? (i := 16) rfl)) (by decide) (by decide)) (g := (mkF m 122 #[.val (.int x0), .unset] [(.int (8303 : Int32)), (.int (8206 : Int32)), (.int x0)])) rfl (by rw [hml]; rfl) (argsL := [(.int x0), (.int (8206 : Int32)), (.int (8303 : Int32))]) (rest := []) (lenOf own_pd0 rfl) rfl (by show 2 * 0 + _ ≤ _; exact Nat.le_of_eq rfl) (hb hby own_d2_122) (fun _ _ => ⟨rfl, e5, (by decide : 0 + 0 ≤ _), (by decide : 0 + 0 ≤ _)⟩)
                  dsimp only [Pt.U, Pt.locs, Pt.cells, Pt.slots] at X6 l6 y6 z6 st6 hQ6
                  subst l6 y6 z6
                  obtain ⟨rfl, N6q, e6⟩ := hQ6
                  have N6 := Fr.app N5 N6q
                  refine own_back (fun t k => st6 t k) ?_
                  show own_Go _ _ _ _ _ _ _ (T6.setTop (mkF m 125 #[.val (.int x0), .unset] [(.int (own_f3_0 x0 (8206 : Int32) (8303 : Int32)))]))
                  by_cases hc125 : (own_f3_0 x0 (8206 : Int32) (8303 : Int32)) = (0 : Int32)
                  · rw [if_pos hc125] at hR
                    refine own_back (fun t k => XS.ifNo X6.here hx rfl (hb hby own_d2_125) rfl ((if0 _ _).trans (teq hc125).2) k) ?_
                    show own_Go _ _ _ _ _ _ _ (T6.setTop (mkF m 128 #[.val (.int x0), .unset] []))
                    refine own_back (fun t k => XS.iloadN X6.here hx rfl (hb hby own_d2_128) rfl k) ?_
                    show own_Go _ _ _ _ _ _ _ (T6.setTop (mkF m 129 #[.val (.int x0), .unset] [(.int x0)]))
                    refine own_back (fun t k => XS.sipush X6.here hx rfl (hb hby own_d2_129) k) ?_
                    show own_Go _ _ _ _ _ _ _ (T6.setTop (mkF m 132 #[.val (.int x0), .unset] [(.int (8592 : Int32)), (.int x0)]))
                    refine own_back (fun t k => XS.sipush X6.here hx rfl (hb hby own_d2_132) k) ?_
                    show own_Go _ _ _ _ _ _ _ (T6.setTop (mkF m 135 #[.val (.int x0), .unset] [(.int (11263 : Int32)), (.int (8592 : Int32)), (.int x0)]))
                    obtain ⟨_, _, ⟨T7, L7, k7, n7⟩, -, X7, ⟨Lc7, hQ7, l7, y7, z7⟩, st7⟩ := Jvm.LawKit.callS X6 hx (y := (⟨"com/example/sleyreed/sleyreed/xpath/XmlNamesIsNameStartCharPinLaw", "in", "(III)Z"⟩ : MethodName)) hown (mvT hZ (hw _ (List.mem_of_getElem? (i := 18) rfl))) (mvT hZ (hw _ (List.mem_of_getElem? (i := 19) rfl))) (mvT hZ (hw _ (List.mem_of_getElem? (i := 16) rfl))) (mvT hZ (hw _ (List.mem_of_getElem? (i := 20) rfl))) (by decide) (backOf (W := 0) (own_rm3 l Z a0 hw [] x0 (8592 : Int32) (11263 : Int32) h0 n0 Z0) hZ (hw _ (List.mem_of_getElem? (i := 20) rfl)) (hw _ (List.mem_of_getElem? (i := 16) rfl)) (by decide) (by decide)) (g := (mkF m 135 #[.val (.int x0), .unset] [(.int (11263 : Int32)), (.int (8592 : Int32)), (.int x0)])) rfl (by rw [hml]; rfl) (argsL := [(.int x0), (.int (8592 : Int32)), (.int (11263 : Int32))]) (rest := []) (lenOf own_pd0 rfl) rfl (by show 2 * 0 + _ ≤ _; exact Nat.le_of_eq rfl) (hb hby own_d2_135) (fun _ _ => ⟨rfl, e6, (by decide : 0 + 0 ≤ _), (by decide : 0 + 0 ≤ _)⟩)
                    dsimp only [Pt.U, Pt.locs, Pt.cells, Pt.slots] at X7 l7 y7 z7 st7 hQ7
                    subst l7 y7 z7
                    obtain ⟨rfl, N7q, e7⟩ := hQ7
                    have N7 := Fr.app N6 N7q
                    refine own_back (fun t k => st7 t k) ?_
                    show own_Go _ _ _ _ _ _ _ (T7.setTop (mkF m 138 #[.val (.int x0), .unset] [(.int (own_f3_0 x0 (8592 : Int32) (11263 : Int32)))]))
                    by_cases hc138 : (own_f3_0 x0 (8592 : Int32) (11263 : Int32)) = (0 : Int32)
                    · rw [if_pos hc138] at hR
                      refine own_back (fun t k => XS.ifNo X7.here hx rfl (hb hby own_d2_138) rfl ((if0 _ _).trans (teq hc138).2) k) ?_
                      show own_Go _ _ _ _ _ _ _ (T7.setTop (mkF m 141 #[.val (.int x0), .unset] []))
                      refine own_back (fun t k => XS.iloadN X7.here hx rfl (hb hby own_d2_141) rfl k) ?_
                      show own_Go _ _ _ _ _ _ _ (T7.setTop (mkF m 142 #[.val (.int x0), .unset] [(.int x0)]))
                      refine own_back (fun t k => XS.sipush X7.here hx rfl (hb hby own_d2_142) k) ?_
                      show own_Go _ _ _ _ _ _ _ (T7.setTop (mkF m 145 #[.val (.int x0), .unset] [(.int (12272 : Int32)), (.int x0)]))
                      refine own_back (fun t k => XS.sipush X7.here hx rfl (hb hby own_d2_145) k) ?_
                      show own_Go _ _ _ _ _ _ _ (T7.setTop (mkF m 148 #[.val (.int x0), .unset] [(.int (12288 : Int32)), (.int (12272 : Int32)), (.int x0)]))
                      obtain ⟨_, _, ⟨T8, L8, k8, n8⟩, -, X8, ⟨Lc8, hQ8, l8, y8, z8⟩, st8⟩ := Jvm.LawKit.callS X7 hx (y := (⟨"com/example/sleyreed/sleyreed/xpath/XmlNamesIsNameStartCharPinLaw", "in", "(III)Z"⟩ : MethodName)) hown (mvT hZ (hw _ (List.mem_of_getElem? (i := 18) rfl))) (mvT hZ (hw _ (List.mem_of_getElem? (i := 19) rfl))) (mvT hZ (hw _ (List.mem_of_getElem? (i := 16) rfl))) (mvT hZ (hw _ (List.mem_of_getElem? (i := 20) rfl))) (by decide) (backOf (W := 0) (own_rm3 l Z a0 hw [] x0 (12272 : Int32) (12288 : Int32) h0 n0 Z0) hZ (hw _ (List.mem_of_getElem? (i := 20) rfl)) (hw _ (List.mem_of_getElem? (i := 16) rfl)) (by decide) (by decide)) (g := (mkF m 148 #[.val (.int x0), .unset] [(.int (12288 : Int32)), (.int (12272 : Int32)), (.int x0)])) rfl (by rw [hml]; rfl) (argsL := [(.int x0), (.int (12272 : Int32)), (.int (12288 : Int32))]) (rest := []) (lenOf own_pd0 rfl) rfl (by show 2 * 0 + _ ≤ _; exact Nat.le_of_eq rfl) (hb hby own_d2_148) (fun _ _ => ⟨rfl, e7, (by decide : 0 + 0 ≤ _), (by decide : 0 + 0 ≤ _)⟩)
                      dsimp only [Pt.U, Pt.locs, Pt.cells, Pt.slots] at X8 l8 y8 z8 st8 hQ8
                      subst l8 y8 z8
                      obtain ⟨rfl, N8q, e8⟩ := hQ8
                      have N8 := Fr.app N7 N8q
                      refine own_back (fun t k => st8 t k) ?_
                      show own_Go _ _ _ _ _ _ _ (T8.setTop (mkF m 151 #[.val (.int x0), .unset] [(.int (own_f3_0 x0 (12272 : Int32) (12288 : Int32)))]))
                      by_cases hc151 : (own_f3_0 x0 (12272 : Int32) (12288 : Int32)) = (0 : Int32)
                      · rw [if_pos hc151] at hR
                        refine own_back (fun t k => XS.ifNo X8.here hx rfl (hb hby own_d2_151) rfl ((if0 _ _).trans (teq hc151).2) k) ?_
                        show own_Go _ _ _ _ _ _ _ (T8.setTop (mkF m 154 #[.val (.int x0), .unset] []))
                        refine own_back (fun t k => XS.iloadN X8.here hx rfl (hb hby own_d2_154) rfl k) ?_
                        show own_Go _ _ _ _ _ _ _ (T8.setTop (mkF m 155 #[.val (.int x0), .unset] [(.int x0)]))
                        refine own_back (fun t k => X8.ldcInt hx hown (mvT hZ (hw _ (List.mem_of_getElem? (i := 1) rfl))) (g := (mkF m 155 #[.val (.int x0), .unset] [(.int x0)])) rfl (hb hby own_d2_155) _ k) ?_
                        show own_Go _ _ _ _ _ _ _ (T8.setTop (mkF m 157 #[.val (.int x0), .unset] [(.int (55296 : Int32)), (.int x0)]))
                        refine own_back (fun t k => X8.ldcInt hx hown (mvT hZ (hw _ (List.mem_of_getElem? (i := 29) rfl))) (g := (mkF m 157 #[.val (.int x0), .unset] [(.int (55296 : Int32)), (.int x0)])) rfl (hb hby own_d2_157) _ k) ?_
                        show own_Go _ _ _ _ _ _ _ (T8.setTop (mkF m 159 #[.val (.int x0), .unset] [(.int (63743 : Int32)), (.int (55296 : Int32)), (.int x0)]))
                        obtain ⟨_, _, ⟨T9, L9, k9, n9⟩, -, X9, ⟨Lc9, hQ9, l9, y9, z9⟩, st9⟩ := Jvm.LawKit.callS X8 hx (y := (⟨"com/example/sleyreed/sleyreed/xpath/XmlNamesIsNameStartCharPinLaw", "in", "(III)Z"⟩ : MethodName)) hown (mvT hZ (hw _ (List.mem_of_getElem? (i := 18) rfl))) (mvT hZ (hw _ (List.mem_of_getElem? (i := 19) rfl))) (mvT hZ (hw _ (List.mem_of_getElem? (i := 16) rfl))) (mvT hZ (hw _ (List.mem_of_getElem? (i := 20) rfl))) (by decide) (backOf (W := 0) (own_rm3 l Z a0 hw [] x0 (55296 : Int32) (63743 : Int32) h0 n0 Z0) hZ (hw _ (List.mem_of_getElem? (i := 20) rfl)) (hw _ (List.mem_of_getElem? (i := 16) rfl)) (by decide) (by decide)) (g := (mkF m 159 #[.val (.int x0), .unset] [(.int (63743 : Int32)), (.int (55296 : Int32)), (.int x0)])) rfl (by rw [hml]; rfl) (argsL := [(.int x0), (.int (55296 : Int32)), (.int (63743 : Int32))]) (rest := []) (lenOf own_pd0 rfl) rfl (by show 2 * 0 + _ ≤ _; exact Nat.le_of_eq rfl) (hb hby own_d2_159) (fun _ _ => ⟨rfl, e8, (by decide : 0 + 0 ≤ _), (by decide : 0 + 0 ≤ _)⟩)
                        dsimp only [Pt.U, Pt.locs, Pt.cells, Pt.slots] at X9 l9 y9 z9 st9 hQ9
                        subst l9 y9 z9
                        obtain ⟨rfl, N9q, e9⟩ := hQ9
                        have N9 := Fr.app N8 N9q
                        refine own_back (fun t k => st9 t k) ?_
                        show own_Go _ _ _ _ _ _ _ (T9.setTop (mkF m 162 #[.val (.int x0), .unset] [(.int (own_f3_0 x0 (55296 : Int32) (63743 : Int32)))]))
                        by_cases hc162 : (own_f3_0 x0 (55296 : Int32) (63743 : Int32)) = (0 : Int32)
                        · rw [if_pos hc162] at hR
                          refine own_back (fun t k => XS.ifNo X9.here hx rfl (hb hby own_d2_162) rfl ((if0 _ _).trans (teq hc162).2) k) ?_
                          show own_Go _ _ _ _ _ _ _ (T9.setTop (mkF m 165 #[.val (.int x0), .unset] []))
                          refine own_back (fun t k => XS.iloadN X9.here hx rfl (hb hby own_d2_165) rfl k) ?_
                          show own_Go _ _ _ _ _ _ _ (T9.setTop (mkF m 166 #[.val (.int x0), .unset] [(.int x0)]))
                          refine own_back (fun t k => X9.ldcInt hx hown (mvT hZ (hw _ (List.mem_of_getElem? (i := 3) rfl))) (g := (mkF m 166 #[.val (.int x0), .unset] [(.int x0)])) rfl (hb hby own_d2_166) _ k) ?_
                          show own_Go _ _ _ _ _ _ _ (T9.setTop (mkF m 168 #[.val (.int x0), .unset] [(.int (64976 : Int32)), (.int x0)]))
                          refine own_back (fun t k => X9.ldcInt hx hown (mvT hZ (hw _ (List.mem_of_getElem? (i := 30) rfl))) (g := (mkF m 168 #[.val (.int x0), .unset] [(.int (64976 : Int32)), (.int x0)])) rfl (hb hby own_d2_168) _ k) ?_
                          show own_Go _ _ _ _ _ _ _ (T9.setTop (mkF m 170 #[.val (.int x0), .unset] [(.int (65007 : Int32)), (.int (64976 : Int32)), (.int x0)]))
                          obtain ⟨_, _, ⟨T10, L10, k10, n10⟩, -, X10, ⟨Lc10, hQ10, l10, y10, z10⟩, st10⟩ := Jvm.LawKit.callS X9 hx (y := (⟨"com/example/sleyreed/sleyreed/xpath/XmlNamesIsNameStartCharPinLaw", "in", "(III)Z"⟩ : MethodName)) hown (mvT hZ (hw _ (List.mem_of_getElem? (i := 18) rfl))) (mvT hZ (hw _ (List.mem_of_getElem? (i := 19) rfl))) (mvT hZ (hw _ (List.mem_of_getElem? (i := 16) rfl))) (mvT hZ (hw _ (List.mem_of_getElem? (i := 20) rfl))) (by decide) (backOf (W := 0) (own_rm3 l Z a0 hw [] x0 (64976 : Int32) (65007 : Int32) h0 n0 Z0) hZ (hw _ (List.mem_of_getElem? (i := 20) rfl)) (hw _ (List.mem_of_getElem? (i := 16) rfl)) (by decide) (by decide)) (g := (mkF m 170 #[.val (.int x0), .unset] [(.int (65007 : Int32)), (.int (64976 : Int32)), (.int x0)])) rfl (by rw [hml]; rfl) (argsL := [(.int x0), (.int (64976 : Int32)), (.int (65007 : Int32))]) (rest := []) (lenOf own_pd0 rfl) rfl (by show 2 * 0 + _ ≤ _; exact Nat.le_of_eq rfl) (hb hby own_d2_170) (fun _ _ => ⟨rfl, e9, (by decide : 0 + 0 ≤ _), (by decide : 0 + 0 ≤ _)⟩)
                          dsimp only [Pt.U, Pt.locs, Pt.cells, Pt.slots] at X10 l10 y10 z10 st10 hQ10
                          subst l10 y10 z10
                          obtain ⟨rfl, N10q, e10⟩ := hQ10
                          have N10 := Fr.app N9 N10q
                          refine own_back (fun t k => st10 t k) ?_
                          show own_Go _ _ _ _ _ _ _ (T10.setTop (mkF m 173 #[.val (.int x0), .unset] [(.int (own_f3_0 x0 (64976 : Int32) (65007 : Int32)))]))
                          by_cases hc173 : (own_f3_0 x0 (64976 : Int32) (65007 : Int32)) = (0 : Int32)
                          · rw [if_pos hc173] at hR
                            refine own_back (fun t k => XS.ifNo X10.here hx rfl (hb hby own_d2_173) rfl ((if0 _ _).trans (teq hc173).2) k) ?_
                            show own_Go _ _ _ _ _ _ _ (T10.setTop (mkF m 176 #[.val (.int x0), .unset] []))
                            refine own_back (fun t k => XS.iloadN X10.here hx rfl (hb hby own_d2_176) rfl k) ?_
                            show own_Go _ _ _ _ _ _ _ (T10.setTop (mkF m 177 #[.val (.int x0), .unset] [(.int x0)]))
                            refine own_back (fun t k => X10.ldcInt hx hown (mvT hZ (hw _ (List.mem_of_getElem? (i := 5) rfl))) (g := (mkF m 177 #[.val (.int x0), .unset] [(.int x0)])) rfl (hb hby own_d2_177) _ k) ?_
                            show own_Go _ _ _ _ _ _ _ (T10.setTop (mkF m 179 #[.val (.int x0), .unset] [(.int (65534 : Int32)), (.int x0)]))
                            refine own_back (fun t k => X10.ldcInt hx hown (mvT hZ (hw _ (List.mem_of_getElem? (i := 31) rfl))) (g := (mkF m 179 #[.val (.int x0), .unset] [(.int (65534 : Int32)), (.int x0)])) rfl (hb hby own_d2_179) _ k) ?_
                            show own_Go _ _ _ _ _ _ _ (T10.setTop (mkF m 181 #[.val (.int x0), .unset] [(.int (65535 : Int32)), (.int (65534 : Int32)), (.int x0)]))
                            obtain ⟨_, _, ⟨T11, L11, k11, n11⟩, -, X11, ⟨Lc11, hQ11, l11, y11, z11⟩, st11⟩ := Jvm.LawKit.callS X10 hx (y := (⟨"com/example/sleyreed/sleyreed/xpath/XmlNamesIsNameStartCharPinLaw", "in", "(III)Z"⟩ : MethodName)) hown (mvT hZ (hw _ (List.mem_of_getElem? (i := 18) rfl))) (mvT hZ (hw _ (List.mem_of_getElem? (i := 19) rfl))) (mvT hZ (hw _ (List.mem_of_getElem? (i := 16) rfl))) (mvT hZ (hw _ (List.mem_of_getElem? (i := 20) rfl))) (by decide) (backOf (W := 0) (own_rm3 l Z a0 hw [] x0 (65534 : Int32) (65535 : Int32) h0 n0 Z0) hZ (hw _ (List.mem_of_getElem? (i := 20) rfl)) (hw _ (List.mem_of_getElem? (i := 16) rfl)) (by decide) (by decide)) (g := (mkF m 181 #[.val (.int x0), .unset] [(.int (65535 : Int32)), (.int (65534 : Int32)), (.int x0)])) rfl (by rw [hml]; rfl) (argsL := [(.int x0), (.int (65534 : Int32)), (.int (65535 : Int32))]) (rest := []) (lenOf own_pd0 rfl) rfl (by show 2 * 0 + _ ≤ _; exact Nat.le_of_eq rfl) (hb hby own_d2_181) (fun _ _ => ⟨rfl, e10, (by decide : 0 + 0 ≤ _), (by decide : 0 + 0 ≤ _)⟩)
                            dsimp only [Pt.U, Pt.locs, Pt.cells, Pt.slots] at X11 l11 y11 z11 st11 hQ11
                            subst l11 y11 z11
                            obtain ⟨rfl, N11q, e11⟩ := hQ11
                            have N11 := Fr.app N10 N11q
                            refine own_back (fun t k => st11 t k) ?_
                            show own_Go _ _ _ _ _ _ _ (T11.setTop (mkF m 184 #[.val (.int x0), .unset] [(.int (own_f3_0 x0 (65534 : Int32) (65535 : Int32)))]))
                            by_cases hc184 : (own_f3_0 x0 (65534 : Int32) (65535 : Int32)) = (0 : Int32)
                            · rw [if_pos hc184] at hR
                              refine own_back (fun t k => XS.ifYes X11.here hx rfl (pc0 := 184) (pc' := 191) rfl (hb hby own_d2_184) rfl ((if0 _ _).trans (teq hc184).1) (by decide) (by decide) k) ?_
                              show own_Go _ _ _ _ _ _ _ (T11.setTop (mkF m 191 #[.val (.int x0), .unset] []))
                              refine own_back (fun t k => XS.iconst X11.here hx rfl (hb hby own_d2_191) k) ?_
                              show own_Go _ _ _ _ _ _ _ (T11.setTop (mkF m 192 #[.val (.int x0), .unset] [(.int (0 : Int32))]))
                              exact own_l2_192 X11 hx hZ hw hby hml hown hret hlk e11 N11 Z0 x0 (0 : Int32) hR
                            · rw [if_neg hc184] at hR
                              refine own_back (fun t k => XS.ifNo X11.here hx rfl (hb hby own_d2_184) rfl ((if0 _ _).trans (feq hc184).1) k) ?_
                              show own_Go _ _ _ _ _ _ _ (T11.setTop (mkF m 187 #[.val (.int x0), .unset] []))
                              exact own_l2_187 X11 hx hZ hw hby hml hown hret hlk e11 N11 Z0 x0 hR
                          · rw [if_neg hc173] at hR
                            refine own_back (fun t k => XS.ifYes X10.here hx rfl (pc0 := 173) (pc' := 187) rfl (hb hby own_d2_173) rfl ((if0 _ _).trans (feq hc173).2) (by decide) (by decide) k) ?_
                            show own_Go _ _ _ _ _ _ _ (T10.setTop (mkF m 187 #[.val (.int x0), .unset] []))
                            exact own_l2_187 X10 hx hZ hw hby hml hown hret hlk e10 N10 Z0 x0 hR
                        · rw [if_neg hc162] at hR
                          refine own_back (fun t k => XS.ifYes X9.here hx rfl (pc0 := 162) (pc' := 187) rfl (hb hby own_d2_162) rfl ((if0 _ _).trans (feq hc162).2) (by decide) (by decide) k) ?_
                          show own_Go _ _ _ _ _ _ _ (T9.setTop (mkF m 187 #[.val (.int x0), .unset] []))
                          exact own_l2_187 X9 hx hZ hw hby hml hown hret hlk e9 N9 Z0 x0 hR
                      · rw [if_neg hc151] at hR
                        refine own_back (fun t k => XS.ifYes X8.here hx rfl (pc0 := 151) (pc' := 187) rfl (hb hby own_d2_151) rfl ((if0 _ _).trans (feq hc151).2) (by decide) (by decide) k) ?_
                        show own_Go _ _ _ _ _ _ _ (T8.setTop (mkF m 187 #[.val (.int x0), .unset] []))
                        exact own_l2_187 X8 hx hZ hw hby hml hown hret hlk e8 N8 Z0 x0 hR
                    · rw [if_neg hc138] at hR
                      refine own_back (fun t k => XS.ifYes X7.here hx rfl (pc0 := 138) (pc' := 187) rfl (hb hby own_d2_138) rfl ((if0 _ _).trans (feq hc138).2) (by decide) (by decide) k) ?_
                      show own_Go _ _ _ _ _ _ _ (T7.setTop (mkF m 187 #[.val (.int x0), .unset] []))
                      exact own_l2_187 X7 hx hZ hw hby hml hown hret hlk e7 N7 Z0 x0 hR
                  · rw [if_neg hc125] at hR
                    refine own_back (fun t k => XS.ifYes X6.here hx rfl (pc0 := 125) (pc' := 187) rfl (hb hby own_d2_125) rfl ((if0 _ _).trans (feq hc125).2) (by decide) (by decide) k) ?_
                    show own_Go _ _ _ _ _ _ _ (T6.setTop (mkF m 187 #[.val (.int x0), .unset] []))
                    exact own_l2_187 X6 hx hZ hw hby hml hown hret hlk e6 N6 Z0 x0 hR
                · rw [if_neg hc112] at hR
                  refine own_back (fun t k => XS.ifYes X5.here hx rfl (pc0 := 112) (pc' := 187) rfl (hb hby own_d2_112) rfl ((if0 _ _).trans (feq hc112).2) (by decide) (by decide) k) ?_
                  show own_Go _ _ _ _ _ _ _ (T5.setTop (mkF m 187 #[.val (.int x0), .unset] []))
                  exact own_l2_187 X5 hx hZ hw hby hml hown hret hlk e5 N5 Z0 x0 hR
            · rw [if_neg hc92] at hR
              refine own_back (fun t k => XS.ifYes X4.here hx rfl (pc0 := 92) (pc' := 187) rfl (hb hby own_d2_92) rfl ((if0 _ _).trans (feq hc92).2) (by decide) (by decide) k) ?_
              show own_Go _ _ _ _ _ _ _ (T4.setTop (mkF m 187 #[.val (.int x0), .unset] []))
              exact own_l2_187 X4 hx hZ hw hby hml hown hret hlk e4 N4 Z0 x0 hR
      · rw [if_neg hc65] at hR
        refine own_back (fun t k => XS.ifYes X3.here hx rfl (pc0 := 65) (pc' := 187) rfl (hb hby own_d2_65) rfl ((if0 _ _).trans (feq hc65).2) (by decide) (by decide) k) ?_
        show own_Go _ _ _ _ _ _ _ (T3.setTop (mkF m 187 #[.val (.int x0), .unset] []))
        exact own_l2_187 X3 hx hZ hw hby hml hown hret hlk e3 N3 Z0 x0 hR
theorem own_pn2 : plainName "com/example/sleyreed/sleyreed/xpath/XmlNamesIsNameStartCharPinLaw" = true := by first | (simp [plainName, overriddenIn]; done) | decide +kernel
theorem own_ef2 (m : MethodId) (x0 : Int32) : entryFrame m #[(.int x0)] 2 = mkF m 0 #[.val (.int x0), .unset] [] := by first | (simp [entryFrame, mkF, argsToLocals, Value.category]; done) | rfl
set_option maxRecDepth 65536 in
set_option maxHeartbeats 4000000 in
theorem own_rm2 (l : Launch) (Z : State) (a0 : Array Value) (hw : ∀ d ∈ tables_1, d.before a0 Z = true) (ws : List Jvm.Cond) (x0 : Int32) (h0 : Heap) (n0 : Nat) (Z0 : n0 ≤ h0.size) :
    MetFree l (⟨"com/example/sleyreed/sleyreed/xpath/XmlNamesIsNameStartCharPinLaw", "reference", "(I)Z"⟩ : MethodName) (head1 (Jvm.Cond.code (⟨"com/example/sleyreed/sleyreed/xpath/XmlNamesIsNameStartCharPinLaw", "reference", "(I)Z"⟩ : MethodName) method_3_code 2 (some .boolean) :: ws) ({ frames := 1, cells := 0, slots := 0, locals := 14 } : Room)) (fun a U => a = #[(.int x0)] ∧ Z.Warmed39 U.vm ∧ U.heap = h0) (fun _ _ _ _ _ => True) (fun _ U o U' => ∃ v L, o = .returned v ∧ own_QP (.int (own_f2_0 x0)) h0 n0 v U'.heap L ∧ FrameEnd U o U' L ({ frames := 1, cells := 0, slots := 0, locals := 14 } : Room).cells ({ frames := 1, cells := 0, slots := 0, locals := 14 } : Room).slots) := by
  refine MetFree.of_bodySF (plainFor_of_name own_pn2) hisR ?_
  intro p e s m args below meth c s₁ Bd hml0 hP hK
  obtain ⟨rfl, hZ, hh⟩ := hP
  have X0 : Stand p l e ({ frames := 1, cells := 0, slots := 0, locals := 14 } : Room) s m #[(.int x0)] below meth c s₁ [] 0 0 := Stand.of_body Bd
  have e0 : s₁.heap = h0 := by rw [← hh, Bd.state]; rfl
  refine own_back (s := s) (fun t k => castTop (own_ef2 m x0) k) ?_
  exact own_l2_0 X0 Bd.exec hZ hw Bd.bytes hml0 (findClass_of_methodNamed Bd.named) Bd.returns (BodyLoose.notSynchronized Bd) e0 (Fr.nil n0) Z0 x0 rfl
theorem own_pd1 : parseMethodDescriptor "(I)Z" = some ⟨[.int], some .boolean⟩ := by decide +kernel
/-! body 0: com/example/sleyreed/sleyreed/xpath/XmlNamesIsNameStartCharPinLaw.law:(III)Z -/
def own_f0_226 (F : Nat → Int32) (i0 : Int32) (i1 : Int32) (i2 : Int32) : Int32 := (if (i1 &&& (1 : Int32)) = (0 : Int32) then (if (own_f1_0 i0) = (own_f2_0 i0) then (1 : Int32) else (0 : Int32)) else (if (own_f1_0 ((F ((((i1.toUInt32 >>> ((1 : Int32) &&& 31).toUInt32).toInt32) &&& (1073741823 : Int32)) % (35 : Int32)).toNatClampNeg) + ((i2 &&& (3 : Int32)) - (2 : Int32)))) = (own_f2_0 ((F ((((i1.toUInt32 >>> ((1 : Int32) &&& 31).toUInt32).toInt32) &&& (1073741823 : Int32)) % (35 : Int32)).toNatClampNeg) + ((i2 &&& (3 : Int32)) - (2 : Int32)))) then (1 : Int32) else (0 : Int32)))
def own_f0_195 (F : Nat → Int32) (i0 : Int32) (i1 : Int32) (i2 : Int32) : Int32 := (own_f0_226 (own_put (own_put (own_put (own_put (own_put F 30 (65008 : Int32)) 31 (65534 : Int32)) 32 (65536 : Int32)) 33 (983040 : Int32)) 34 (1114112 : Int32)) i0 i1 i2)
def own_f0_163 (F : Nat → Int32) (i0 : Int32) (i1 : Int32) (i2 : Int32) : Int32 := (own_f0_195 (own_put (own_put (own_put (own_put (own_put F 25 (12272 : Int32)) 26 (12289 : Int32)) 27 (55296 : Int32)) 28 (63744 : Int32)) 29 (64976 : Int32)) i0 i1 i2)
def own_f0_128 (F : Nat → Int32) (i0 : Int32) (i1 : Int32) (i2 : Int32) : Int32 := (own_f0_163 (own_put (own_put (own_put (own_put (own_put F 20 (8204 : Int32)) 21 (8206 : Int32)) 22 (8304 : Int32)) 23 (8592 : Int32)) 24 (11264 : Int32)) i0 i1 i2)
def own_f0_93 (F : Nat → Int32) (i0 : Int32) (i1 : Int32) (i2 : Int32) : Int32 := (own_f0_128 (own_put (own_put (own_put (own_put (own_put F 15 (768 : Int32)) 16 (880 : Int32)) 17 (894 : Int32)) 18 (895 : Int32)) 19 (8192 : Int32)) i0 i1 i2)
def own_f0_58 (F : Nat → Int32) (i0 : Int32) (i1 : Int32) (i2 : Int32) : Int32 := (own_f0_93 (own_put (own_put (own_put (own_put (own_put F 10 (192 : Int32)) 11 (215 : Int32)) 12 (216 : Int32)) 13 (247 : Int32)) 14 (248 : Int32)) i0 i1 i2)
def own_f0_28 (F : Nat → Int32) (i0 : Int32) (i1 : Int32) (i2 : Int32) : Int32 := (own_f0_58 (own_put (own_put (own_put (own_put (own_put F 5 (95 : Int32)) 6 (96 : Int32)) 7 (97 : Int32)) 8 (123 : Int32)) 9 (128 : Int32)) i0 i1 i2)
def own_f0_0 (x0 : Int32) (x1 : Int32) (x2 : Int32) : Int32 := (own_f0_28 (own_put (own_put (own_put (own_put (own_put (fun _ => (0 : Int32)) 0 (0 : Int32)) 1 (58 : Int32)) 2 (59 : Int32)) 3 (65 : Int32)) 4 (91 : Int32)) x0 x1 x2)
set_option maxRecDepth 65536 in
set_option maxHeartbeats 4000000 in
theorem own_l0_226 {p : Program} {l : Launch} {e : Env} {s : State} {m : MethodId} {args : Array Value} {below : List Frame} {meth : Method} {c : Code} {T : State} {locs : List Loc} {Z : State} {a0 : Array Value} {h0 : Heap} {n0 : Nat}
    (X : Stand p l e room_1 s m args below meth c T locs 1 35) (hx : p.tables.exec = Jvm.exec) (hZ : Z.Warmed39 s.vm) (hw : ∀ d ∈ tables_1, d.before a0 Z = true) (hby : c.code = code) (hml : c.maxLocals = 6) (hown : s.vm.findClass "com/example/sleyreed/sleyreed/xpath/XmlNamesIsNameStartCharPinLaw" = some m.cls) (hret : meth.sig.returnType = some .boolean) (hlk : meth.locks = false) (e0 : T.heap = h0) (N : Fr n0 locs) (Z0 : n0 ≤ h0.size)
    (F : Nat → Int32) (i0 : Int32) (i1 : Int32) (i2 : Int32) (o3 : Addr) {r : Int32} (hR : r = own_f0_226 F i0 i1 i2) (VA : own_VA Z h0 o3 .int 35 (fun k => .int (F k))) (qo3 : n0 ≤ o3) : own_Go p e below s room_1.cells room_1.slots (own_QG (.int r) h0 n0) (T.setTop (mkF m 226 #[.val (.int i0), .val (.int i1), .val (.int i2), .val (.ref o3), .unset, .unset] [])) := by
  unfold own_f0_226 at hR
  refine own_back (fun t k => XS.iloadN X.here hx rfl (hb hby at_226) rfl k) ?_
  show own_Go _ _ _ _ _ _ _ (T.setTop (mkF m 227 #[.val (.int i0), .val (.int i1), .val (.int i2), .val (.ref o3), .unset, .unset] [(.int i1)]))
  refine own_back (fun t k => XS.iconst X.here hx rfl (hb hby at_227) k) ?_
  show own_Go _ _ _ _ _ _ _ (T.setTop (mkF m 228 #[.val (.int i0), .val (.int i1), .val (.int i2), .val (.ref o3), .unset, .unset] [(.int (1 : Int32)), (.int i1)]))
  refine own_back (fun t k => XS.iand X.here hx rfl (hb hby at_228) rfl k) ?_
  show own_Go _ _ _ _ _ _ _ (T.setTop (mkF m 229 #[.val (.int i0), .val (.int i1), .val (.int i2), .val (.ref o3), .unset, .unset] [(.int (i1 &&& (1 : Int32)))]))
  by_cases hc229 : (i1 &&& (1 : Int32)) = (0 : Int32)
  · rw [if_pos hc229] at hR
    refine own_back (fun t k => XS.ifNo X.here hx rfl (hb hby at_229) rfl ((if0 _ _).trans (teq hc229).2) k) ?_
    show own_Go _ _ _ _ _ _ _ (T.setTop (mkF m 232 #[.val (.int i0), .val (.int i1), .val (.int i2), .val (.ref o3), .unset, .unset] []))
    refine own_back (fun t k => XS.iloadN X.here hx rfl (hb hby at_232) rfl k) ?_
    show own_Go _ _ _ _ _ _ _ (T.setTop (mkF m 233 #[.val (.int i0), .val (.int i1), .val (.int i2), .val (.ref o3), .unset, .unset] [(.int i0)]))
    refine own_back (fun t k => XS.istore X.here hx rfl (hb hby at_233) rfl (l' := #[.val (.int i0), .val (.int i1), .val (.int i2), .val (.ref o3), .val (.int i0), .unset]) rfl k) ?_
    show own_Go _ _ _ _ _ _ _ (T.setTop (mkF m 235 #[.val (.int i0), .val (.int i1), .val (.int i2), .val (.ref o3), .val (.int i0), .unset] []))
    refine own_back (fun t k => XS.goto X.here hx rfl (pc0 := 235) (pc' := 261) rfl (hb hby at_235) (by decide) (by decide) k) ?_
    show own_Go _ _ _ _ _ _ _ (T.setTop (mkF m 261 #[.val (.int i0), .val (.int i1), .val (.int i2), .val (.ref o3), .val (.int i0), .unset] []))
    refine own_back (fun t k => XS.iload X.here hx rfl (hb hby at_261) rfl k) ?_
    show own_Go _ _ _ _ _ _ _ (T.setTop (mkF m 263 #[.val (.int i0), .val (.int i1), .val (.int i2), .val (.ref o3), .val (.int i0), .unset] [(.int i0)]))
    obtain ⟨_, _, ⟨T37, L37, k37, n37⟩, -, X37, ⟨Lc37, hQ37, l37, y37, z37⟩, st37⟩ := Jvm.LawKit.callS X hx (y := (⟨"com/example/sleyreed/sleyreed/xpath/XmlNames", "isNameStartChar", "(I)Z"⟩ : MethodName)) hown (mvT hZ (hw _ (List.mem_of_getElem? (i := 10) rfl))) (mvT hZ (hw _ (List.mem_of_getElem? (i := 11) rfl))) (mvT hZ (hw _ (List.mem_of_getElem? (i := 12) rfl))) (mvT hZ (hw _ (List.mem_of_getElem? (i := 13) rfl))) (by decide) (backOf (W := 0) (own_rm1 l Z a0 hw [] i0 h0 n0 Z0) hZ (hw _ (List.mem_of_getElem? (i := 13) rfl)) (hw _ (List.mem_of_getElem? (i := 12) rfl)) (by decide) (by decide)) (g := (mkF m 263 #[.val (.int i0), .val (.int i1), .val (.int i2), .val (.ref o3), .val (.int i0), .unset] [(.int i0)])) rfl (by rw [hml]; rfl) (argsL := [(.int i0)]) (rest := []) (lenOf own_pd1 rfl) rfl (by show 2 * 0 + _ ≤ _; exact Nat.le_of_eq rfl) (hb hby at_263) (fun _ _ => ⟨rfl, e0, (by decide : 1 + 0 ≤ _), (by decide : 35 + 0 ≤ _)⟩)
    dsimp only [Pt.U, Pt.locs, Pt.cells, Pt.slots] at X37 l37 y37 z37 st37 hQ37
    subst l37 y37 z37
    obtain ⟨rfl, N37q, e37⟩ := hQ37
    have N37 := Fr.app N N37q
    refine own_back (fun t k => st37 t k) ?_
    show own_Go _ _ _ _ _ _ _ (T37.setTop (mkF m 266 #[.val (.int i0), .val (.int i1), .val (.int i2), .val (.ref o3), .val (.int i0), .unset] [(.int (own_f1_0 i0))]))
    refine own_back (fun t k => XS.iload X37.here hx rfl (hb hby at_266) rfl k) ?_
    show own_Go _ _ _ _ _ _ _ (T37.setTop (mkF m 268 #[.val (.int i0), .val (.int i1), .val (.int i2), .val (.ref o3), .val (.int i0), .unset] [(.int i0), (.int (own_f1_0 i0))]))
    obtain ⟨_, _, ⟨T38, L38, k38, n38⟩, -, X38, ⟨Lc38, hQ38, l38, y38, z38⟩, st38⟩ := Jvm.LawKit.callS X37 hx (y := (⟨"com/example/sleyreed/sleyreed/xpath/XmlNamesIsNameStartCharPinLaw", "reference", "(I)Z"⟩ : MethodName)) hown (mvT hZ (hw _ (List.mem_of_getElem? (i := 14) rfl))) (mvT hZ (hw _ (List.mem_of_getElem? (i := 15) rfl))) (mvT hZ (hw _ (List.mem_of_getElem? (i := 16) rfl))) (mvT hZ (hw _ (List.mem_of_getElem? (i := 17) rfl))) (by decide) (backOf (W := 1) (own_rm2 l Z a0 hw [] i0 h0 n0 Z0) hZ (hw _ (List.mem_of_getElem? (i := 17) rfl)) (hw _ (List.mem_of_getElem? (i := 16) rfl)) (by decide) (by decide)) (g := (mkF m 268 #[.val (.int i0), .val (.int i1), .val (.int i2), .val (.ref o3), .val (.int i0), .unset] [(.int i0), (.int (own_f1_0 i0))])) rfl (by rw [hml]; rfl) (argsL := [(.int i0)]) (rest := [(.int (own_f1_0 i0))]) (lenOf own_pd1 rfl) rfl (by show 2 * 0 + _ ≤ _; exact Nat.le_of_eq rfl) (hb hby at_268) (fun _ _ => ⟨rfl, e37, (by decide : 1 + 0 ≤ _), (by decide : 35 + 0 ≤ _)⟩)
    dsimp only [Pt.U, Pt.locs, Pt.cells, Pt.slots] at X38 l38 y38 z38 st38 hQ38
    subst l38 y38 z38
    obtain ⟨rfl, N38q, e38⟩ := hQ38
    have N38 := Fr.app N37 N38q
    refine own_back (fun t k => st38 t k) ?_
    show own_Go _ _ _ _ _ _ _ (T38.setTop (mkF m 271 #[.val (.int i0), .val (.int i1), .val (.int i2), .val (.ref o3), .val (.int i0), .unset] [(.int (own_f2_0 i0)), (.int (own_f1_0 i0))]))
    by_cases hc271 : (own_f1_0 i0) = (own_f2_0 i0)
    · rw [if_pos hc271] at hR
      refine own_back (fun t k => XS.icmpNo X38.here hx rfl (hb hby at_271) rfl (teq hc271).2 k) ?_
      show own_Go _ _ _ _ _ _ _ (T38.setTop (mkF m 274 #[.val (.int i0), .val (.int i1), .val (.int i2), .val (.ref o3), .val (.int i0), .unset] []))
      refine own_back (fun t k => XS.iconst X38.here hx rfl (hb hby at_274) k) ?_
      show own_Go _ _ _ _ _ _ _ (T38.setTop (mkF m 275 #[.val (.int i0), .val (.int i1), .val (.int i2), .val (.ref o3), .val (.int i0), .unset] [(.int (1 : Int32))]))
      refine own_back (fun t k => XS.goto X38.here hx rfl (pc0 := 275) (pc' := 279) rfl (hb hby at_275) (by decide) (by decide) k) ?_
      show own_Go _ _ _ _ _ _ _ (T38.setTop (mkF m 279 #[.val (.int i0), .val (.int i1), .val (.int i2), .val (.ref o3), .val (.int i0), .unset] [(.int (1 : Int32))]))
      subst hR
      exact own_retN X38 hx (t := .boolean) hret (by simp) (hb hby at_279) hlk (by decide) ⟨rfl, N38, by rw [e38]; exact Z0⟩ (by decide) (by decide)
    · rw [if_neg hc271] at hR
      refine own_back (fun t k => XS.icmpYes X38.here hx rfl (pc0 := 271) (pc' := 278) rfl (hb hby at_271) rfl (feq hc271).2 (by decide) (by decide) k) ?_
      show own_Go _ _ _ _ _ _ _ (T38.setTop (mkF m 278 #[.val (.int i0), .val (.int i1), .val (.int i2), .val (.ref o3), .val (.int i0), .unset] []))
      refine own_back (fun t k => XS.iconst X38.here hx rfl (hb hby at_278) k) ?_
      show own_Go _ _ _ _ _ _ _ (T38.setTop (mkF m 279 #[.val (.int i0), .val (.int i1), .val (.int i2), .val (.ref o3), .val (.int i0), .unset] [(.int (0 : Int32))]))
      subst hR
      exact own_retN X38 hx (t := .boolean) hret (by simp) (hb hby at_279) hlk (by decide) ⟨rfl, N38, by rw [e38]; exact Z0⟩ (by decide) (by decide)
  · rw [if_neg hc229] at hR
    refine own_back (fun t k => XS.ifYes X.here hx rfl (pc0 := 229) (pc' := 238) rfl (hb hby at_229) rfl ((if0 _ _).trans (feq hc229).2) (by decide) (by decide) k) ?_
    show own_Go _ _ _ _ _ _ _ (T.setTop (mkF m 238 #[.val (.int i0), .val (.int i1), .val (.int i2), .val (.ref o3), .unset, .unset] []))
    refine own_back (fun t k => XS.iloadN X.here hx rfl (hb hby at_238) rfl k) ?_
    show own_Go _ _ _ _ _ _ _ (T.setTop (mkF m 239 #[.val (.int i0), .val (.int i1), .val (.int i2), .val (.ref o3), .unset, .unset] [(.int i1)]))
    refine own_back (fun t k => XS.iconst X.here hx rfl (hb hby at_239) k) ?_
    show own_Go _ _ _ _ _ _ _ (T.setTop (mkF m 240 #[.val (.int i0), .val (.int i1), .val (.int i2), .val (.ref o3), .unset, .unset] [(.int (1 : Int32)), (.int i1)]))
    refine own_back (fun t k => XS.iushr X.here hx rfl (hb hby at_240) rfl k) ?_
    show own_Go _ _ _ _ _ _ _ (T.setTop (mkF m 241 #[.val (.int i0), .val (.int i1), .val (.int i2), .val (.ref o3), .unset, .unset] [(.int ((i1.toUInt32 >>> ((1 : Int32) &&& 31).toUInt32).toInt32))]))
    refine own_back (fun t k => X.ldcInt hx hown (mvT hZ (hw _ (List.mem_of_getElem? (i := 9) rfl))) (g := (mkF m 241 #[.val (.int i0), .val (.int i1), .val (.int i2), .val (.ref o3), .unset, .unset] [(.int ((i1.toUInt32 >>> ((1 : Int32) &&& 31).toUInt32).toInt32))])) rfl (hb hby at_241) _ k) ?_
    show own_Go _ _ _ _ _ _ _ (T.setTop (mkF m 243 #[.val (.int i0), .val (.int i1), .val (.int i2), .val (.ref o3), .unset, .unset] [(.int (1073741823 : Int32)), (.int ((i1.toUInt32 >>> ((1 : Int32) &&& 31).toUInt32).toInt32))]))
    refine own_back (fun t k => XS.iand X.here hx rfl (hb hby at_243) rfl k) ?_
    show own_Go _ _ _ _ _ _ _ (T.setTop (mkF m 244 #[.val (.int i0), .val (.int i1), .val (.int i2), .val (.ref o3), .unset, .unset] [(.int (((i1.toUInt32 >>> ((1 : Int32) &&& 31).toUInt32).toInt32) &&& (1073741823 : Int32)))]))
    refine own_back (fun t k => XS.aloadN X.here hx rfl (hb hby at_244) rfl rfl k) ?_
    show own_Go _ _ _ _ _ _ _ (T.setTop (mkF m 245 #[.val (.int i0), .val (.int i1), .val (.int i2), .val (.ref o3), .unset, .unset] [(.ref o3), (.int (((i1.toUInt32 >>> ((1 : Int32) &&& 31).toUInt32).toInt32) &&& (1073741823 : Int32)))]))
    refine own_back (fun t k => own_len X hx hZ e0 VA (z := (35 : Int32)) (by decide) (g := (mkF m 245 #[.val (.int i0), .val (.int i1), .val (.int i2), .val (.ref o3), .unset, .unset] [(.ref o3), (.int (((i1.toUInt32 >>> ((1 : Int32) &&& 31).toUInt32).toInt32) &&& (1073741823 : Int32)))])) rfl rfl (hb hby at_245) t k) ?_
    show own_Go _ _ _ _ _ _ _ (T.setTop (mkF m 246 #[.val (.int i0), .val (.int i1), .val (.int i2), .val (.ref o3), .unset, .unset] [(.int (35 : Int32)), (.int (((i1.toUInt32 >>> ((1 : Int32) &&& 31).toUInt32).toInt32) &&& (1073741823 : Int32)))]))
    refine own_back (B := T.setTop (mkF m 247 #[.val (.int i0), .val (.int i1), .val (.int i2), .val (.ref o3), .unset, .unset] [(.int ((((i1.toUInt32 >>> ((1 : Int32) &&& 31).toUInt32).toInt32) &&& (1073741823 : Int32)) % (35 : Int32)))])) (fun t k => XS.irem X.here hx rfl (hb hby at_246) rfl (by decide) (by rw [irem_eq_mod]; exact k)) ?_
    show own_Go _ _ _ _ _ _ _ (T.setTop (mkF m 247 #[.val (.int i0), .val (.int i1), .val (.int i2), .val (.ref o3), .unset, .unset] [(.int ((((i1.toUInt32 >>> ((1 : Int32) &&& 31).toUInt32).toInt32) &&& (1073741823 : Int32)) % (35 : Int32)))]))
    refine own_back (fun t k => XS.istore X.here hx rfl (hb hby at_247) rfl (l' := #[.val (.int i0), .val (.int i1), .val (.int i2), .val (.ref o3), .unset, .val (.int ((((i1.toUInt32 >>> ((1 : Int32) &&& 31).toUInt32).toInt32) &&& (1073741823 : Int32)) % (35 : Int32)))]) rfl k) ?_
    show own_Go _ _ _ _ _ _ _ (T.setTop (mkF m 249 #[.val (.int i0), .val (.int i1), .val (.int i2), .val (.ref o3), .unset, .val (.int ((((i1.toUInt32 >>> ((1 : Int32) &&& 31).toUInt32).toInt32) &&& (1073741823 : Int32)) % (35 : Int32)))] []))
    refine own_back (fun t k => XS.aloadN X.here hx rfl (hb hby at_249) rfl rfl k) ?_
    show own_Go _ _ _ _ _ _ _ (T.setTop (mkF m 250 #[.val (.int i0), .val (.int i1), .val (.int i2), .val (.ref o3), .unset, .val (.int ((((i1.toUInt32 >>> ((1 : Int32) &&& 31).toUInt32).toInt32) &&& (1073741823 : Int32)) % (35 : Int32)))] [(.ref o3)]))
    refine own_back (fun t k => XS.iload X.here hx rfl (hb hby at_250) rfl k) ?_
    show own_Go _ _ _ _ _ _ _ (T.setTop (mkF m 252 #[.val (.int i0), .val (.int i1), .val (.int i2), .val (.ref o3), .unset, .val (.int ((((i1.toUInt32 >>> ((1 : Int32) &&& 31).toUInt32).toInt32) &&& (1073741823 : Int32)) % (35 : Int32)))] [(.int ((((i1.toUInt32 >>> ((1 : Int32) &&& 31).toUInt32).toInt32) &&& (1073741823 : Int32)) % (35 : Int32))), (.ref o3)]))
    refine own_back (fun t k => own_ldI X hx hZ e0 VA (j := ((((i1.toUInt32 >>> ((1 : Int32) &&& 31).toUInt32).toInt32) &&& (1073741823 : Int32)) % (35 : Int32))) (w := (F ((((i1.toUInt32 >>> ((1 : Int32) &&& 31).toUInt32).toInt32) &&& (1073741823 : Int32)) % (35 : Int32)).toNatClampNeg)) (own_idx i1) rfl (g := (mkF m 252 #[.val (.int i0), .val (.int i1), .val (.int i2), .val (.ref o3), .unset, .val (.int ((((i1.toUInt32 >>> ((1 : Int32) &&& 31).toUInt32).toInt32) &&& (1073741823 : Int32)) % (35 : Int32)))] [(.int ((((i1.toUInt32 >>> ((1 : Int32) &&& 31).toUInt32).toInt32) &&& (1073741823 : Int32)) % (35 : Int32))), (.ref o3)])) rfl rfl (hb hby at_252) t k) ?_
    show own_Go _ _ _ _ _ _ _ (T.setTop (mkF m 253 #[.val (.int i0), .val (.int i1), .val (.int i2), .val (.ref o3), .unset, .val (.int ((((i1.toUInt32 >>> ((1 : Int32) &&& 31).toUInt32).toInt32) &&& (1073741823 : Int32)) % (35 : Int32)))] [(.int (F ((((i1.toUInt32 >>> ((1 : Int32) &&& 31).toUInt32).toInt32) &&& (1073741823 : Int32)) % (35 : Int32)).toNatClampNeg))]))
    refine own_back (fun t k => XS.iloadN X.here hx rfl (hb hby at_253) rfl k) ?_
    show own_Go _ _ _ _ _ _ _ (T.setTop (mkF m 254 #[.val (.int i0), .val (.int i1), .val (.int i2), .val (.ref o3), .unset, .val (.int ((((i1.toUInt32 >>> ((1 : Int32) &&& 31).toUInt32).toInt32) &&& (1073741823 : Int32)) % (35 : Int32)))] [(.int i2), (.int (F ((((i1.toUInt32 >>> ((1 : Int32) &&& 31).toUInt32).toInt32) &&& (1073741823 : Int32)) % (35 : Int32)).toNatClampNeg))]))
    refine own_back (fun t k => XS.iconst X.here hx rfl (hb hby at_254) k) ?_
    show own_Go _ _ _ _ _ _ _ (T.setTop (mkF m 255 #[.val (.int i0), .val (.int i1), .val (.int i2), .val (.ref o3), .unset, .val (.int ((((i1.toUInt32 >>> ((1 : Int32) &&& 31).toUInt32).toInt32) &&& (1073741823 : Int32)) % (35 : Int32)))] [(.int (3 : Int32)), (.int i2), (.int (F ((((i1.toUInt32 >>> ((1 : Int32) &&& 31).toUInt32).toInt32) &&& (1073741823 : Int32)) % (35 : Int32)).toNatClampNeg))]))
    refine own_back (fun t k => XS.iand X.here hx rfl (hb hby at_255) rfl k) ?_
    show own_Go _ _ _ _ _ _ _ (T.setTop (mkF m 256 #[.val (.int i0), .val (.int i1), .val (.int i2), .val (.ref o3), .unset, .val (.int ((((i1.toUInt32 >>> ((1 : Int32) &&& 31).toUInt32).toInt32) &&& (1073741823 : Int32)) % (35 : Int32)))] [(.int (i2 &&& (3 : Int32))), (.int (F ((((i1.toUInt32 >>> ((1 : Int32) &&& 31).toUInt32).toInt32) &&& (1073741823 : Int32)) % (35 : Int32)).toNatClampNeg))]))
    refine own_back (fun t k => XS.iconst X.here hx rfl (hb hby at_256) k) ?_
    show own_Go _ _ _ _ _ _ _ (T.setTop (mkF m 257 #[.val (.int i0), .val (.int i1), .val (.int i2), .val (.ref o3), .unset, .val (.int ((((i1.toUInt32 >>> ((1 : Int32) &&& 31).toUInt32).toInt32) &&& (1073741823 : Int32)) % (35 : Int32)))] [(.int (2 : Int32)), (.int (i2 &&& (3 : Int32))), (.int (F ((((i1.toUInt32 >>> ((1 : Int32) &&& 31).toUInt32).toInt32) &&& (1073741823 : Int32)) % (35 : Int32)).toNatClampNeg))]))
    refine own_back (fun t k => XS.isub X.here hx rfl (hb hby at_257) rfl k) ?_
    show own_Go _ _ _ _ _ _ _ (T.setTop (mkF m 258 #[.val (.int i0), .val (.int i1), .val (.int i2), .val (.ref o3), .unset, .val (.int ((((i1.toUInt32 >>> ((1 : Int32) &&& 31).toUInt32).toInt32) &&& (1073741823 : Int32)) % (35 : Int32)))] [(.int ((i2 &&& (3 : Int32)) - (2 : Int32))), (.int (F ((((i1.toUInt32 >>> ((1 : Int32) &&& 31).toUInt32).toInt32) &&& (1073741823 : Int32)) % (35 : Int32)).toNatClampNeg))]))
    refine own_back (fun t k => XS.iadd X.here hx rfl (hb hby at_258) rfl k) ?_
    show own_Go _ _ _ _ _ _ _ (T.setTop (mkF m 259 #[.val (.int i0), .val (.int i1), .val (.int i2), .val (.ref o3), .unset, .val (.int ((((i1.toUInt32 >>> ((1 : Int32) &&& 31).toUInt32).toInt32) &&& (1073741823 : Int32)) % (35 : Int32)))] [(.int ((F ((((i1.toUInt32 >>> ((1 : Int32) &&& 31).toUInt32).toInt32) &&& (1073741823 : Int32)) % (35 : Int32)).toNatClampNeg) + ((i2 &&& (3 : Int32)) - (2 : Int32))))]))
    refine own_back (fun t k => XS.istore X.here hx rfl (hb hby at_259) rfl (l' := #[.val (.int i0), .val (.int i1), .val (.int i2), .val (.ref o3), .val (.int ((F ((((i1.toUInt32 >>> ((1 : Int32) &&& 31).toUInt32).toInt32) &&& (1073741823 : Int32)) % (35 : Int32)).toNatClampNeg) + ((i2 &&& (3 : Int32)) - (2 : Int32)))), .val (.int ((((i1.toUInt32 >>> ((1 : Int32) &&& 31).toUInt32).toInt32) &&& (1073741823 : Int32)) % (35 : Int32)))]) rfl k) ?_
    show own_Go _ _ _ _ _ _ _ (T.setTop (mkF m 261 #[.val (.int i0), .val (.int i1), .val (.int i2), .val (.ref o3), .val (.int ((F ((((i1.toUInt32 >>> ((1 : Int32) &&& 31).toUInt32).toInt32) &&& (1073741823 : Int32)) % (35 : Int32)).toNatClampNeg) + ((i2 &&& (3 : Int32)) - (2 : Int32)))), .val (.int ((((i1.toUInt32 >>> ((1 : Int32) &&& 31).toUInt32).toInt32) &&& (1073741823 : Int32)) % (35 : Int32)))] []))
    refine own_back (fun t k => XS.iload X.here hx rfl (hb hby at_261) rfl k) ?_
    show own_Go _ _ _ _ _ _ _ (T.setTop (mkF m 263 #[.val (.int i0), .val (.int i1), .val (.int i2), .val (.ref o3), .val (.int ((F ((((i1.toUInt32 >>> ((1 : Int32) &&& 31).toUInt32).toInt32) &&& (1073741823 : Int32)) % (35 : Int32)).toNatClampNeg) + ((i2 &&& (3 : Int32)) - (2 : Int32)))), .val (.int ((((i1.toUInt32 >>> ((1 : Int32) &&& 31).toUInt32).toInt32) &&& (1073741823 : Int32)) % (35 : Int32)))] [(.int ((F ((((i1.toUInt32 >>> ((1 : Int32) &&& 31).toUInt32).toInt32) &&& (1073741823 : Int32)) % (35 : Int32)).toNatClampNeg) + ((i2 &&& (3 : Int32)) - (2 : Int32))))]))
    obtain ⟨_, _, ⟨T39, L39, k39, n39⟩, -, X39, ⟨Lc39, hQ39, l39, y39, z39⟩, st39⟩ := Jvm.LawKit.callS X hx (y := (⟨"com/example/sleyreed/sleyreed/xpath/XmlNames", "isNameStartChar", "(I)Z"⟩ : MethodName)) hown (mvT hZ (hw _ (List.mem_of_getElem? (i := 10) rfl))) (mvT hZ (hw _ (List.mem_of_getElem? (i := 11) rfl))) (mvT hZ (hw _ (List.mem_of_getElem? (i := 12) rfl))) (mvT hZ (hw _ (List.mem_of_getElem? (i := 13) rfl))) (by decide) (backOf (W := 0) (own_rm1 l Z a0 hw [] ((F ((((i1.toUInt32 >>> ((1 : Int32) &&& 31).toUInt32).toInt32) &&& (1073741823 : Int32)) % (35 : Int32)).toNatClampNeg) + ((i2 &&& (3 : Int32)) - (2 : Int32))) h0 n0 Z0) hZ (hw _ (List.mem_of_getElem? (i := 13) rfl)) (hw _ (List.mem_of_getElem? (i := 12) rfl)) (by decide) (by decide)) (g := (mkF m 263 #[.val (.int i0), .val (.int i1), .val (.int i2), .val (.ref o3), .val (.int ((F ((((i1.toUInt32 >>> ((1 : Int32) &&& 31).toUInt32).toInt32) &&& (1073741823 : Int32)) % (35 : Int32)).toNatClampNeg) + ((i2 &&& (3 : Int32)) - (2 : Int32)))), .val (.int ((((i1.toUInt32 >>> ((1 : Int32) &&& 31).toUInt32).toInt32) &&& (1073741823 : Int32)) % (35 : Int32)))] [(.int ((F ((((i1.toUInt32 >>> ((1 : Int32) &&& 31).toUInt32).toInt32) &&& (1073741823 : Int32)) % (35 : Int32)).toNatClampNeg) + ((i2 &&& (3 : Int32)) - (2 : Int32))))])) rfl (by rw [hml]; rfl) (argsL := [(.int ((F ((((i1.toUInt32 >>> ((1 : Int32) &&& 31).toUInt32).toInt32) &&& (1073741823 : Int32)) % (35 : Int32)).toNatClampNeg) + ((i2 &&& (3 : Int32)) - (2 : Int32))))]) (rest := []) (lenOf own_pd1 rfl) rfl (by show 2 * 0 + _ ≤ _; exact Nat.le_of_eq rfl) (hb hby at_263) (fun _ _ => ⟨rfl, e0, (by decide : 1 + 0 ≤ _), (by decide : 35 + 0 ≤ _)⟩)
    dsimp only [Pt.U, Pt.locs, Pt.cells, Pt.slots] at X39 l39 y39 z39 st39 hQ39
    subst l39 y39 z39
    obtain ⟨rfl, N39q, e39⟩ := hQ39
    have N39 := Fr.app N N39q
    refine own_back (fun t k => st39 t k) ?_
    show own_Go _ _ _ _ _ _ _ (T39.setTop (mkF m 266 #[.val (.int i0), .val (.int i1), .val (.int i2), .val (.ref o3), .val (.int ((F ((((i1.toUInt32 >>> ((1 : Int32) &&& 31).toUInt32).toInt32) &&& (1073741823 : Int32)) % (35 : Int32)).toNatClampNeg) + ((i2 &&& (3 : Int32)) - (2 : Int32)))), .val (.int ((((i1.toUInt32 >>> ((1 : Int32) &&& 31).toUInt32).toInt32) &&& (1073741823 : Int32)) % (35 : Int32)))] [(.int (own_f1_0 ((F ((((i1.toUInt32 >>> ((1 : Int32) &&& 31).toUInt32).toInt32) &&& (1073741823 : Int32)) % (35 : Int32)).toNatClampNeg) + ((i2 &&& (3 : Int32)) - (2 : Int32)))))]))
    refine own_back (fun t k => XS.iload X39.here hx rfl (hb hby at_266) rfl k) ?_
    show own_Go _ _ _ _ _ _ _ (T39.setTop (mkF m 268 #[.val (.int i0), .val (.int i1), .val (.int i2), .val (.ref o3), .val (.int ((F ((((i1.toUInt32 >>> ((1 : Int32) &&& 31).toUInt32).toInt32) &&& (1073741823 : Int32)) % (35 : Int32)).toNatClampNeg) + ((i2 &&& (3 : Int32)) - (2 : Int32)))), .val (.int ((((i1.toUInt32 >>> ((1 : Int32) &&& 31).toUInt32).toInt32) &&& (1073741823 : Int32)) % (35 : Int32)))] [(.int ((F ((((i1.toUInt32 >>> ((1 : Int32) &&& 31).toUInt32).toInt32) &&& (1073741823 : Int32)) % (35 : Int32)).toNatClampNeg) + ((i2 &&& (3 : Int32)) - (2 : Int32)))), (.int (own_f1_0 ((F ((((i1.toUInt32 >>> ((1 : Int32) &&& 31).toUInt32).toInt32) &&& (1073741823 : Int32)) % (35 : Int32)).toNatClampNeg) + ((i2 &&& (3 : Int32)) - (2 : Int32)))))]))
    obtain ⟨_, _, ⟨T40, L40, k40, n40⟩, -, X40, ⟨Lc40, hQ40, l40, y40, z40⟩, st40⟩ := Jvm.LawKit.callS X39 hx (y := (⟨"com/example/sleyreed/sleyreed/xpath/XmlNamesIsNameStartCharPinLaw", "reference", "(I)Z"⟩ : MethodName)) hown (mvT hZ (hw _ (List.mem_of_getElem? (i := 14) rfl))) (mvT hZ (hw _ (List.mem_of_getElem? (i := 15) rfl))) (mvT hZ (hw _ (List.mem_of_getElem? (i := 16) rfl))) (mvT hZ (hw _ (List.mem_of_getElem? (i := 17) rfl))) (by decide) (backOf (W := 1) (own_rm2 l Z a0 hw [] ((F ((((i1.toUInt32 >>> ((1 : Int32) &&& 31).toUInt32).toInt32) &&& (1073741823 : Int32)) % (35 : Int32)).toNatClampNeg) + ((i2 &&& (3 : Int32)) - (2 : Int32))) h0 n0 Z0) hZ (hw _ (List.mem_of_getElem? (i := 17) rfl)) (hw _ (List.mem_of_getElem? (i := 16) rfl)) (by decide) (by decide)) (g := (mkF m 268 #[.val (.int i0), .val (.int i1), .val (.int i2), .val (.ref o3), .val (.int ((F ((((i1.toUInt32 >>> ((1 : Int32) &&& 31).toUInt32).toInt32) &&& (1073741823 : Int32)) % (35 : Int32)).toNatClampNeg) + ((i2 &&& (3 : Int32)) - (2 : Int32)))), .val (.int ((((i1.toUInt32 >>> ((1 : Int32) &&& 31).toUInt32).toInt32) &&& (1073741823 : Int32)) % (35 : Int32)))] [(.int ((F ((((i1.toUInt32 >>> ((1 : Int32) &&& 31).toUInt32).toInt32) &&& (1073741823 : Int32)) % (35 : Int32)).toNatClampNeg) + ((i2 &&& (3 : Int32)) - (2 : Int32)))), (.int (own_f1_0 ((F ((((i1.toUInt32 >>> ((1 : Int32) &&& 31).toUInt32).toInt32) &&& (1073741823 : Int32)) % (35 : Int32)).toNatClampNeg) + ((i2 &&& (3 : Int32)) - (2 : Int32)))))])) rfl (by rw [hml]; rfl) (argsL := [(.int ((F ((((i1.toUInt32 >>> ((1 : Int32) &&& 31).toUInt32).toInt32) &&& (1073741823 : Int32)) % (35 : Int32)).toNatClampNeg) + ((i2 &&& (3 : Int32)) - (2 : Int32))))]) (rest := [(.int (own_f1_0 ((F ((((i1.toUInt32 >>> ((1 : Int32) &&& 31).toUInt32).toInt32) &&& (1073741823 : Int32)) % (35 : Int32)).toNatClampNeg) + ((i2 &&& (3 : Int32)) - (2 : Int32)))))]) (lenOf own_pd1 rfl) rfl (by show 2 * 0 + _ ≤ _; exact Nat.le_of_eq rfl) (hb hby at_268) (fun _ _ => ⟨rfl, e39, (by decide : 1 + 0 ≤ _), (by decide : 35 + 0 ≤ _)⟩)
    dsimp only [Pt.U, Pt.locs, Pt.cells, Pt.slots] at X40 l40 y40 z40 st40 hQ40
    subst l40 y40 z40
    obtain ⟨rfl, N40q, e40⟩ := hQ40
    have N40 := Fr.app N39 N40q
    refine own_back (fun t k => st40 t k) ?_
    show own_Go _ _ _ _ _ _ _ (T40.setTop (mkF m 271 #[.val (.int i0), .val (.int i1), .val (.int i2), .val (.ref o3), .val (.int ((F ((((i1.toUInt32 >>> ((1 : Int32) &&& 31).toUInt32).toInt32) &&& (1073741823 : Int32)) % (35 : Int32)).toNatClampNeg) + ((i2 &&& (3 : Int32)) - (2 : Int32)))), .val (.int ((((i1.toUInt32 >>> ((1 : Int32) &&& 31).toUInt32).toInt32) &&& (1073741823 : Int32)) % (35 : Int32)))] [(.int (own_f2_0 ((F ((((i1.toUInt32 >>> ((1 : Int32) &&& 31).toUInt32).toInt32) &&& (1073741823 : Int32)) % (35 : Int32)).toNatClampNeg) + ((i2 &&& (3 : Int32)) - (2 : Int32))))), (.int (own_f1_0 ((F ((((i1.toUInt32 >>> ((1 : Int32) &&& 31).toUInt32).toInt32) &&& (1073741823 : Int32)) % (35 : Int32)).toNatClampNeg) + ((i2 &&& (3 : Int32)) - (2 : Int32)))))]))
    by_cases hc271 : (own_f1_0 ((F ((((i1.toUInt32 >>> ((1 : Int32) &&& 31).toUInt32).toInt32) &&& (1073741823 : Int32)) % (35 : Int32)).toNatClampNeg) + ((i2 &&& (3 : Int32)) - (2 : Int32)))) = (own_f2_0 ((F ((((i1.toUInt32 >>> ((1 : Int32) &&& 31).toUInt32).toInt32) &&& (1073741823 : Int32)) % (35 : Int32)).toNatClampNeg) + ((i2 &&& (3 : Int32)) - (2 : Int32))))
    · rw [if_pos hc271] at hR
      refine own_back (fun t k => XS.icmpNo X40.here hx rfl (hb hby at_271) rfl (teq hc271).2 k) ?_
      show own_Go _ _ _ _ _ _ _ (T40.setTop (mkF m 274 #[.val (.int i0), .val (.int i1), .val (.int i2), .val (.ref o3), .val (.int ((F ((((i1.toUInt32 >>> ((1 : Int32) &&& 31).toUInt32).toInt32) &&& (1073741823 : Int32)) % (35 : Int32)).toNatClampNeg) + ((i2 &&& (3 : Int32)) - (2 : Int32)))), .val (.int ((((i1.toUInt32 >>> ((1 : Int32) &&& 31).toUInt32).toInt32) &&& (1073741823 : Int32)) % (35 : Int32)))] []))
      refine own_back (fun t k => XS.iconst X40.here hx rfl (hb hby at_274) k) ?_
      show own_Go _ _ _ _ _ _ _ (T40.setTop (mkF m 275 #[.val (.int i0), .val (.int i1), .val (.int i2), .val (.ref o3), .val (.int ((F ((((i1.toUInt32 >>> ((1 : Int32) &&& 31).toUInt32).toInt32) &&& (1073741823 : Int32)) % (35 : Int32)).toNatClampNeg) + ((i2 &&& (3 : Int32)) - (2 : Int32)))), .val (.int ((((i1.toUInt32 >>> ((1 : Int32) &&& 31).toUInt32).toInt32) &&& (1073741823 : Int32)) % (35 : Int32)))] [(.int (1 : Int32))]))
      refine own_back (fun t k => XS.goto X40.here hx rfl (pc0 := 275) (pc' := 279) rfl (hb hby at_275) (by decide) (by decide) k) ?_
      show own_Go _ _ _ _ _ _ _ (T40.setTop (mkF m 279 #[.val (.int i0), .val (.int i1), .val (.int i2), .val (.ref o3), .val (.int ((F ((((i1.toUInt32 >>> ((1 : Int32) &&& 31).toUInt32).toInt32) &&& (1073741823 : Int32)) % (35 : Int32)).toNatClampNeg) + ((i2 &&& (3 : Int32)) - (2 : Int32)))), .val (.int ((((i1.toUInt32 >>> ((1 : Int32) &&& 31).toUInt32).toInt32) &&& (1073741823 : Int32)) % (35 : Int32)))] [(.int (1 : Int32))]))
      subst hR
      exact own_retN X40 hx (t := .boolean) hret (by simp) (hb hby at_279) hlk (by decide) ⟨rfl, N40, by rw [e40]; exact Z0⟩ (by decide) (by decide)
    · rw [if_neg hc271] at hR
      refine own_back (fun t k => XS.icmpYes X40.here hx rfl (pc0 := 271) (pc' := 278) rfl (hb hby at_271) rfl (feq hc271).2 (by decide) (by decide) k) ?_
      show own_Go _ _ _ _ _ _ _ (T40.setTop (mkF m 278 #[.val (.int i0), .val (.int i1), .val (.int i2), .val (.ref o3), .val (.int ((F ((((i1.toUInt32 >>> ((1 : Int32) &&& 31).toUInt32).toInt32) &&& (1073741823 : Int32)) % (35 : Int32)).toNatClampNeg) + ((i2 &&& (3 : Int32)) - (2 : Int32)))), .val (.int ((((i1.toUInt32 >>> ((1 : Int32) &&& 31).toUInt32).toInt32) &&& (1073741823 : Int32)) % (35 : Int32)))] []))
      refine own_back (fun t k => XS.iconst X40.here hx rfl (hb hby at_278) k) ?_
      show own_Go _ _ _ _ _ _ _ (T40.setTop (mkF m 279 #[.val (.int i0), .val (.int i1), .val (.int i2), .val (.ref o3), .val (.int ((F ((((i1.toUInt32 >>> ((1 : Int32) &&& 31).toUInt32).toInt32) &&& (1073741823 : Int32)) % (35 : Int32)).toNatClampNeg) + ((i2 &&& (3 : Int32)) - (2 : Int32)))), .val (.int ((((i1.toUInt32 >>> ((1 : Int32) &&& 31).toUInt32).toInt32) &&& (1073741823 : Int32)) % (35 : Int32)))] [(.int (0 : Int32))]))
      subst hR
      exact own_retN X40 hx (t := .boolean) hret (by simp) (hb hby at_279) hlk (by decide) ⟨rfl, N40, by rw [e40]; exact Z0⟩ (by decide) (by decide)
set_option maxRecDepth 65536 in
set_option maxHeartbeats 4000000 in
theorem own_l0_195 {p : Program} {l : Launch} {e : Env} {s : State} {m : MethodId} {args : Array Value} {below : List Frame} {meth : Method} {c : Code} {T : State} {locs : List Loc} {Z : State} {a0 : Array Value} {h0 : Heap} {n0 : Nat}
    (X : Stand p l e room_1 s m args below meth c T locs 1 35) (hx : p.tables.exec = Jvm.exec) (hZ : Z.Warmed39 s.vm) (hw : ∀ d ∈ tables_1, d.before a0 Z = true) (hby : c.code = code) (hml : c.maxLocals = 6) (hown : s.vm.findClass "com/example/sleyreed/sleyreed/xpath/XmlNamesIsNameStartCharPinLaw" = some m.cls) (hret : meth.sig.returnType = some .boolean) (hlk : meth.locks = false) (e0 : T.heap = h0) (N : Fr n0 locs) (Z0 : n0 ≤ h0.size)
    (F : Nat → Int32) (i0 : Int32) (i1 : Int32) (i2 : Int32) (t0 : Addr) {r : Int32} (hR : r = own_f0_195 F i0 i1 i2) (VA : own_VA Z h0 t0 .int 35 (fun k => .int (F k))) (qt0 : n0 ≤ t0) : own_Go p e below s room_1.cells room_1.slots (own_QG (.int r) h0 n0) (T.setTop (mkF m 195 #[.val (.int i0), .val (.int i1), .val (.int i2), .unset, .unset, .unset] [(.ref t0)])) := by
  unfold own_f0_195 at hR
  refine own_back (fun t k => XS.dup X.here hx rfl (hb hby at_195) rfl rfl k) ?_
  show own_Go _ _ _ _ _ _ _ (T.setTop (mkF m 196 #[.val (.int i0), .val (.int i1), .val (.int i2), .unset, .unset, .unset] [(.ref t0), (.ref t0)]))
  refine own_back (fun t k => XS.bipush X.here hx rfl (hb hby at_196) k) ?_
  show own_Go _ _ _ _ _ _ _ (T.setTop (mkF m 198 #[.val (.int i0), .val (.int i1), .val (.int i2), .unset, .unset, .unset] [(.int (30 : Int32)), (.ref t0), (.ref t0)]))
  refine own_back (fun t k => X.ldcInt hx hown (mvT hZ (hw _ (List.mem_of_getElem? (i := 4) rfl))) (g := (mkF m 198 #[.val (.int i0), .val (.int i1), .val (.int i2), .unset, .unset, .unset] [(.int (30 : Int32)), (.ref t0), (.ref t0)])) rfl (hb hby at_198) _ k) ?_
  show own_Go _ _ _ _ _ _ _ (T.setTop (mkF m 200 #[.val (.int i0), .val (.int i1), .val (.int i2), .unset, .unset, .unset] [(.int (65008 : Int32)), (.int (30 : Int32)), (.ref t0), (.ref t0)]))
  obtain ⟨T32, h32, X32, e32, W32, V32, st32⟩ := own_stF X hx hZ e0 VA 30 (by decide) (by decide) (g := (mkF m 200 #[.val (.int i0), .val (.int i1), .val (.int i2), .unset, .unset, .unset] [(.int (65008 : Int32)), (.int (30 : Int32)), (.ref t0), (.ref t0)])) rfl rfl (hb hby at_200)
  have N32 := Fr.snoc X32 N qt0
  have Z32 : n0 ≤ h32.size := Nat.le_trans Z0 (Keep.of_wr W32).1
  refine own_back (fun t k => st32 t k) ?_
  show own_Go _ _ _ _ _ _ _ (T32.setTop (mkF m 201 #[.val (.int i0), .val (.int i1), .val (.int i2), .unset, .unset, .unset] [(.ref t0)]))
  refine own_back (fun t k => XS.dup X32.here hx rfl (hb hby at_201) rfl rfl k) ?_
  show own_Go _ _ _ _ _ _ _ (T32.setTop (mkF m 202 #[.val (.int i0), .val (.int i1), .val (.int i2), .unset, .unset, .unset] [(.ref t0), (.ref t0)]))
  refine own_back (fun t k => XS.bipush X32.here hx rfl (hb hby at_202) k) ?_
  show own_Go _ _ _ _ _ _ _ (T32.setTop (mkF m 204 #[.val (.int i0), .val (.int i1), .val (.int i2), .unset, .unset, .unset] [(.int (31 : Int32)), (.ref t0), (.ref t0)]))
  refine own_back (fun t k => X32.ldcInt hx hown (mvT hZ (hw _ (List.mem_of_getElem? (i := 5) rfl))) (g := (mkF m 204 #[.val (.int i0), .val (.int i1), .val (.int i2), .unset, .unset, .unset] [(.int (31 : Int32)), (.ref t0), (.ref t0)])) rfl (hb hby at_204) _ k) ?_
  show own_Go _ _ _ _ _ _ _ (T32.setTop (mkF m 206 #[.val (.int i0), .val (.int i1), .val (.int i2), .unset, .unset, .unset] [(.int (65534 : Int32)), (.int (31 : Int32)), (.ref t0), (.ref t0)]))
  obtain ⟨T33, h33, X33, e33, W33, V33, st33⟩ := own_stF X32 hx hZ e32 V32 31 (by decide) (by decide) (g := (mkF m 206 #[.val (.int i0), .val (.int i1), .val (.int i2), .unset, .unset, .unset] [(.int (65534 : Int32)), (.int (31 : Int32)), (.ref t0), (.ref t0)])) rfl rfl (hb hby at_206)
  have N33 := Fr.snoc X33 N32 qt0
  have Z33 : n0 ≤ h33.size := Nat.le_trans Z32 (Keep.of_wr W33).1
  refine own_back (fun t k => st33 t k) ?_
  show own_Go _ _ _ _ _ _ _ (T33.setTop (mkF m 207 #[.val (.int i0), .val (.int i1), .val (.int i2), .unset, .unset, .unset] [(.ref t0)]))
  refine own_back (fun t k => XS.dup X33.here hx rfl (hb hby at_207) rfl rfl k) ?_
  show own_Go _ _ _ _ _ _ _ (T33.setTop (mkF m 208 #[.val (.int i0), .val (.int i1), .val (.int i2), .unset, .unset, .unset] [(.ref t0), (.ref t0)]))
  refine own_back (fun t k => XS.bipush X33.here hx rfl (hb hby at_208) k) ?_
  show own_Go _ _ _ _ _ _ _ (T33.setTop (mkF m 210 #[.val (.int i0), .val (.int i1), .val (.int i2), .unset, .unset, .unset] [(.int (32 : Int32)), (.ref t0), (.ref t0)]))
  refine own_back (fun t k => X33.ldcInt hx hown (mvT hZ (hw _ (List.mem_of_getElem? (i := 6) rfl))) (g := (mkF m 210 #[.val (.int i0), .val (.int i1), .val (.int i2), .unset, .unset, .unset] [(.int (32 : Int32)), (.ref t0), (.ref t0)])) rfl (hb hby at_210) _ k) ?_
  show own_Go _ _ _ _ _ _ _ (T33.setTop (mkF m 212 #[.val (.int i0), .val (.int i1), .val (.int i2), .unset, .unset, .unset] [(.int (65536 : Int32)), (.int (32 : Int32)), (.ref t0), (.ref t0)]))
  obtain ⟨T34, h34, X34, e34, W34, V34, st34⟩ := own_stF X33 hx hZ e33 V33 32 (by decide) (by decide) (g := (mkF m 212 #[.val (.int i0), .val (.int i1), .val (.int i2), .unset, .unset, .unset] [(.int (65536 : Int32)), (.int (32 : Int32)), (.ref t0), (.ref t0)])) rfl rfl (hb hby at_212)
  have N34 := Fr.snoc X34 N33 qt0
  have Z34 : n0 ≤ h34.size := Nat.le_trans Z33 (Keep.of_wr W34).1
  refine own_back (fun t k => st34 t k) ?_
  show own_Go _ _ _ _ _ _ _ (T34.setTop (mkF m 213 #[.val (.int i0), .val (.int i1), .val (.int i2), .unset, .unset, .unset] [(.ref t0)]))
  refine own_back (fun t k => XS.dup X34.here hx rfl (hb hby at_213) rfl rfl k) ?_
  show own_Go _ _ _ _ _ _ _ (T34.setTop (mkF m 214 #[.val (.int i0), .val (.int i1), .val (.int i2), .unset, .unset, .unset] [(.ref t0), (.ref t0)]))
  refine own_back (fun t k => XS.bipush X34.here hx rfl (hb hby at_214) k) ?_
  show own_Go _ _ _ _ _ _ _ (T34.setTop (mkF m 216 #[.val (.int i0), .val (.int i1), .val (.int i2), .unset, .unset, .unset] [(.int (33 : Int32)), (.ref t0), (.ref t0)]))
  refine own_back (fun t k => X34.ldcInt hx hown (mvT hZ (hw _ (List.mem_of_getElem? (i := 7) rfl))) (g := (mkF m 216 #[.val (.int i0), .val (.int i1), .val (.int i2), .unset, .unset, .unset] [(.int (33 : Int32)), (.ref t0), (.ref t0)])) rfl (hb hby at_216) _ k) ?_
  show own_Go _ _ _ _ _ _ _ (T34.setTop (mkF m 218 #[.val (.int i0), .val (.int i1), .val (.int i2), .unset, .unset, .unset] [(.int (983040 : Int32)), (.int (33 : Int32)), (.ref t0), (.ref t0)]))
  obtain ⟨T35, h35, X35, e35, W35, V35, st35⟩ := own_stF X34 hx hZ e34 V34 33 (by decide) (by decide) (g := (mkF m 218 #[.val (.int i0), .val (.int i1), .val (.int i2), .unset, .unset, .unset] [(.int (983040 : Int32)), (.int (33 : Int32)), (.ref t0), (.ref t0)])) rfl rfl (hb hby at_218)
  have N35 := Fr.snoc X35 N34 qt0
  have Z35 : n0 ≤ h35.size := Nat.le_trans Z34 (Keep.of_wr W35).1
  refine own_back (fun t k => st35 t k) ?_
  show own_Go _ _ _ _ _ _ _ (T35.setTop (mkF m 219 #[.val (.int i0), .val (.int i1), .val (.int i2), .unset, .unset, .unset] [(.ref t0)]))
  refine own_back (fun t k => XS.dup X35.here hx rfl (hb hby at_219) rfl rfl k) ?_
  show own_Go _ _ _ _ _ _ _ (T35.setTop (mkF m 220 #[.val (.int i0), .val (.int i1), .val (.int i2), .unset, .unset, .unset] [(.ref t0), (.ref t0)]))
  refine own_back (fun t k => XS.bipush X35.here hx rfl (hb hby at_220) k) ?_
  show own_Go _ _ _ _ _ _ _ (T35.setTop (mkF m 222 #[.val (.int i0), .val (.int i1), .val (.int i2), .unset, .unset, .unset] [(.int (34 : Int32)), (.ref t0), (.ref t0)]))
  refine own_back (fun t k => X35.ldcInt hx hown (mvT hZ (hw _ (List.mem_of_getElem? (i := 8) rfl))) (g := (mkF m 222 #[.val (.int i0), .val (.int i1), .val (.int i2), .unset, .unset, .unset] [(.int (34 : Int32)), (.ref t0), (.ref t0)])) rfl (hb hby at_222) _ k) ?_
  show own_Go _ _ _ _ _ _ _ (T35.setTop (mkF m 224 #[.val (.int i0), .val (.int i1), .val (.int i2), .unset, .unset, .unset] [(.int (1114112 : Int32)), (.int (34 : Int32)), (.ref t0), (.ref t0)]))
  obtain ⟨T36, h36, X36, e36, W36, V36, st36⟩ := own_stF X35 hx hZ e35 V35 34 (by decide) (by decide) (g := (mkF m 224 #[.val (.int i0), .val (.int i1), .val (.int i2), .unset, .unset, .unset] [(.int (1114112 : Int32)), (.int (34 : Int32)), (.ref t0), (.ref t0)])) rfl rfl (hb hby at_224)
  have N36 := Fr.snoc X36 N35 qt0
  have Z36 : n0 ≤ h36.size := Nat.le_trans Z35 (Keep.of_wr W36).1
  refine own_back (fun t k => st36 t k) ?_
  show own_Go _ _ _ _ _ _ _ (T36.setTop (mkF m 225 #[.val (.int i0), .val (.int i1), .val (.int i2), .unset, .unset, .unset] [(.ref t0)]))
  refine own_back (fun t k => XS.astoreN X36.here hx rfl (hb hby at_225) rfl rfl (l' := #[.val (.int i0), .val (.int i1), .val (.int i2), .val (.ref t0), .unset, .unset]) rfl k) ?_
  show own_Go _ _ _ _ _ _ _ (T36.setTop (mkF m 226 #[.val (.int i0), .val (.int i1), .val (.int i2), .val (.ref t0), .unset, .unset] []))
  exact own_l0_226 X36 hx hZ hw hby hml hown hret hlk e36 N36 Z36 (own_put (own_put (own_put (own_put (own_put F 30 (65008 : Int32)) 31 (65534 : Int32)) 32 (65536 : Int32)) 33 (983040 : Int32)) 34 (1114112 : Int32)) i0 i1 i2 t0 hR V36 qt0
set_option maxRecDepth 65536 in
set_option maxHeartbeats 4000000 in
theorem own_l0_163 {p : Program} {l : Launch} {e : Env} {s : State} {m : MethodId} {args : Array Value} {below : List Frame} {meth : Method} {c : Code} {T : State} {locs : List Loc} {Z : State} {a0 : Array Value} {h0 : Heap} {n0 : Nat}
    (X : Stand p l e room_1 s m args below meth c T locs 1 35) (hx : p.tables.exec = Jvm.exec) (hZ : Z.Warmed39 s.vm) (hw : ∀ d ∈ tables_1, d.before a0 Z = true) (hby : c.code = code) (hml : c.maxLocals = 6) (hown : s.vm.findClass "com/example/sleyreed/sleyreed/xpath/XmlNamesIsNameStartCharPinLaw" = some m.cls) (hret : meth.sig.returnType = some .boolean) (hlk : meth.locks = false) (e0 : T.heap = h0) (N : Fr n0 locs) (Z0 : n0 ≤ h0.size)
    (F : Nat → Int32) (i0 : Int32) (i1 : Int32) (i2 : Int32) (t0 : Addr) {r : Int32} (hR : r = own_f0_163 F i0 i1 i2) (VA : own_VA Z h0 t0 .int 35 (fun k => .int (F k))) (qt0 : n0 ≤ t0) : own_Go p e below s room_1.cells room_1.slots (own_QG (.int r) h0 n0) (T.setTop (mkF m 163 #[.val (.int i0), .val (.int i1), .val (.int i2), .unset, .unset, .unset] [(.ref t0)])) := by
  unfold own_f0_163 at hR
  refine own_back (fun t k => XS.dup X.here hx rfl (hb hby at_163) rfl rfl k) ?_
  show own_Go _ _ _ _ _ _ _ (T.setTop (mkF m 164 #[.val (.int i0), .val (.int i1), .val (.int i2), .unset, .unset, .unset] [(.ref t0), (.ref t0)]))
  refine own_back (fun t k => XS.bipush X.here hx rfl (hb hby at_164) k) ?_
  show own_Go _ _ _ _ _ _ _ (T.setTop (mkF m 166 #[.val (.int i0), .val (.int i1), .val (.int i2), .unset, .unset, .unset] [(.int (25 : Int32)), (.ref t0), (.ref t0)]))
  refine own_back (fun t k => XS.sipush X.here hx rfl (hb hby at_166) k) ?_
  show own_Go _ _ _ _ _ _ _ (T.setTop (mkF m 169 #[.val (.int i0), .val (.int i1), .val (.int i2), .unset, .unset, .unset] [(.int (12272 : Int32)), (.int (25 : Int32)), (.ref t0), (.ref t0)]))
  obtain ⟨T27, h27, X27, e27, W27, V27, st27⟩ := own_stF X hx hZ e0 VA 25 (by decide) (by decide) (g := (mkF m 169 #[.val (.int i0), .val (.int i1), .val (.int i2), .unset, .unset, .unset] [(.int (12272 : Int32)), (.int (25 : Int32)), (.ref t0), (.ref t0)])) rfl rfl (hb hby at_169)
  have N27 := Fr.snoc X27 N qt0
  have Z27 : n0 ≤ h27.size := Nat.le_trans Z0 (Keep.of_wr W27).1
  refine own_back (fun t k => st27 t k) ?_
  show own_Go _ _ _ _ _ _ _ (T27.setTop (mkF m 170 #[.val (.int i0), .val (.int i1), .val (.int i2), .unset, .unset, .unset] [(.ref t0)]))
  refine own_back (fun t k => XS.dup X27.here hx rfl (hb hby at_170) rfl rfl k) ?_
  show own_Go _ _ _ _ _ _ _ (T27.setTop (mkF m 171 #[.val (.int i0), .val (.int i1), .val (.int i2), .unset, .unset, .unset] [(.ref t0), (.ref t0)]))
  refine own_back (fun t k => XS.bipush X27.here hx rfl (hb hby at_171) k) ?_
  show own_Go _ _ _ _ _ _ _ (T27.setTop (mkF m 173 #[.val (.int i0), .val (.int i1), .val (.int i2), .unset, .unset, .unset] [(.int (26 : Int32)), (.ref t0), (.ref t0)]))
  refine own_back (fun t k => XS.sipush X27.here hx rfl (hb hby at_173) k) ?_
  show own_Go _ _ _ _ _ _ _ (T27.setTop (mkF m 176 #[.val (.int i0), .val (.int i1), .val (.int i2), .unset, .unset, .unset] [(.int (12289 : Int32)), (.int (26 : Int32)), (.ref t0), (.ref t0)]))
  obtain ⟨T28, h28, X28, e28, W28, V28, st28⟩ := own_stF X27 hx hZ e27 V27 26 (by decide) (by decide) (g := (mkF m 176 #[.val (.int i0), .val (.int i1), .val (.int i2), .unset, .unset, .unset] [(.int (12289 : Int32)), (.int (26 : Int32)), (.ref t0), (.ref t0)])) rfl rfl (hb hby at_176)
  have N28 := Fr.snoc X28 N27 qt0
  have Z28 : n0 ≤ h28.size := Nat.le_trans Z27 (Keep.of_wr W28).1
  refine own_back (fun t k => st28 t k) ?_
  show own_Go _ _ _ _ _ _ _ (T28.setTop (mkF m 177 #[.val (.int i0), .val (.int i1), .val (.int i2), .unset, .unset, .unset] [(.ref t0)]))
  refine own_back (fun t k => XS.dup X28.here hx rfl (hb hby at_177) rfl rfl k) ?_
  show own_Go _ _ _ _ _ _ _ (T28.setTop (mkF m 178 #[.val (.int i0), .val (.int i1), .val (.int i2), .unset, .unset, .unset] [(.ref t0), (.ref t0)]))
  refine own_back (fun t k => XS.bipush X28.here hx rfl (hb hby at_178) k) ?_
  show own_Go _ _ _ _ _ _ _ (T28.setTop (mkF m 180 #[.val (.int i0), .val (.int i1), .val (.int i2), .unset, .unset, .unset] [(.int (27 : Int32)), (.ref t0), (.ref t0)]))
  refine own_back (fun t k => X28.ldcInt hx hown (mvT hZ (hw _ (List.mem_of_getElem? (i := 1) rfl))) (g := (mkF m 180 #[.val (.int i0), .val (.int i1), .val (.int i2), .unset, .unset, .unset] [(.int (27 : Int32)), (.ref t0), (.ref t0)])) rfl (hb hby at_180) _ k) ?_
  show own_Go _ _ _ _ _ _ _ (T28.setTop (mkF m 182 #[.val (.int i0), .val (.int i1), .val (.int i2), .unset, .unset, .unset] [(.int (55296 : Int32)), (.int (27 : Int32)), (.ref t0), (.ref t0)]))
  obtain ⟨T29, h29, X29, e29, W29, V29, st29⟩ := own_stF X28 hx hZ e28 V28 27 (by decide) (by decide) (g := (mkF m 182 #[.val (.int i0), .val (.int i1), .val (.int i2), .unset, .unset, .unset] [(.int (55296 : Int32)), (.int (27 : Int32)), (.ref t0), (.ref t0)])) rfl rfl (hb hby at_182)
  have N29 := Fr.snoc X29 N28 qt0
  have Z29 : n0 ≤ h29.size := Nat.le_trans Z28 (Keep.of_wr W29).1
  refine own_back (fun t k => st29 t k) ?_
  show own_Go _ _ _ _ _ _ _ (T29.setTop (mkF m 183 #[.val (.int i0), .val (.int i1), .val (.int i2), .unset, .unset, .unset] [(.ref t0)]))
  refine own_back (fun t k => XS.dup X29.here hx rfl (hb hby at_183) rfl rfl k) ?_
  show own_Go _ _ _ _ _ _ _ (T29.setTop (mkF m 184 #[.val (.int i0), .val (.int i1), .val (.int i2), .unset, .unset, .unset] [(.ref t0), (.ref t0)]))
  refine own_back (fun t k => XS.bipush X29.here hx rfl (hb hby at_184) k) ?_
  show own_Go _ _ _ _ _ _ _ (T29.setTop (mkF m 186 #[.val (.int i0), .val (.int i1), .val (.int i2), .unset, .unset, .unset] [(.int (28 : Int32)), (.ref t0), (.ref t0)]))
  refine own_back (fun t k => X29.ldcInt hx hown (mvT hZ (hw _ (List.mem_of_getElem? (i := 2) rfl))) (g := (mkF m 186 #[.val (.int i0), .val (.int i1), .val (.int i2), .unset, .unset, .unset] [(.int (28 : Int32)), (.ref t0), (.ref t0)])) rfl (hb hby at_186) _ k) ?_
  show own_Go _ _ _ _ _ _ _ (T29.setTop (mkF m 188 #[.val (.int i0), .val (.int i1), .val (.int i2), .unset, .unset, .unset] [(.int (63744 : Int32)), (.int (28 : Int32)), (.ref t0), (.ref t0)]))
  obtain ⟨T30, h30, X30, e30, W30, V30, st30⟩ := own_stF X29 hx hZ e29 V29 28 (by decide) (by decide) (g := (mkF m 188 #[.val (.int i0), .val (.int i1), .val (.int i2), .unset, .unset, .unset] [(.int (63744 : Int32)), (.int (28 : Int32)), (.ref t0), (.ref t0)])) rfl rfl (hb hby at_188)
  have N30 := Fr.snoc X30 N29 qt0
  have Z30 : n0 ≤ h30.size := Nat.le_trans Z29 (Keep.of_wr W30).1
  refine own_back (fun t k => st30 t k) ?_
  show own_Go _ _ _ _ _ _ _ (T30.setTop (mkF m 189 #[.val (.int i0), .val (.int i1), .val (.int i2), .unset, .unset, .unset] [(.ref t0)]))
  refine own_back (fun t k => XS.dup X30.here hx rfl (hb hby at_189) rfl rfl k) ?_
  show own_Go _ _ _ _ _ _ _ (T30.setTop (mkF m 190 #[.val (.int i0), .val (.int i1), .val (.int i2), .unset, .unset, .unset] [(.ref t0), (.ref t0)]))
  refine own_back (fun t k => XS.bipush X30.here hx rfl (hb hby at_190) k) ?_
  show own_Go _ _ _ _ _ _ _ (T30.setTop (mkF m 192 #[.val (.int i0), .val (.int i1), .val (.int i2), .unset, .unset, .unset] [(.int (29 : Int32)), (.ref t0), (.ref t0)]))
  refine own_back (fun t k => X30.ldcInt hx hown (mvT hZ (hw _ (List.mem_of_getElem? (i := 3) rfl))) (g := (mkF m 192 #[.val (.int i0), .val (.int i1), .val (.int i2), .unset, .unset, .unset] [(.int (29 : Int32)), (.ref t0), (.ref t0)])) rfl (hb hby at_192) _ k) ?_
  show own_Go _ _ _ _ _ _ _ (T30.setTop (mkF m 194 #[.val (.int i0), .val (.int i1), .val (.int i2), .unset, .unset, .unset] [(.int (64976 : Int32)), (.int (29 : Int32)), (.ref t0), (.ref t0)]))
  obtain ⟨T31, h31, X31, e31, W31, V31, st31⟩ := own_stF X30 hx hZ e30 V30 29 (by decide) (by decide) (g := (mkF m 194 #[.val (.int i0), .val (.int i1), .val (.int i2), .unset, .unset, .unset] [(.int (64976 : Int32)), (.int (29 : Int32)), (.ref t0), (.ref t0)])) rfl rfl (hb hby at_194)
  have N31 := Fr.snoc X31 N30 qt0
  have Z31 : n0 ≤ h31.size := Nat.le_trans Z30 (Keep.of_wr W31).1
  refine own_back (fun t k => st31 t k) ?_
  show own_Go _ _ _ _ _ _ _ (T31.setTop (mkF m 195 #[.val (.int i0), .val (.int i1), .val (.int i2), .unset, .unset, .unset] [(.ref t0)]))
  exact own_l0_195 X31 hx hZ hw hby hml hown hret hlk e31 N31 Z31 (own_put (own_put (own_put (own_put (own_put F 25 (12272 : Int32)) 26 (12289 : Int32)) 27 (55296 : Int32)) 28 (63744 : Int32)) 29 (64976 : Int32)) i0 i1 i2 t0 hR V31 qt0
set_option maxRecDepth 65536 in
set_option maxHeartbeats 4000000 in
theorem own_l0_128 {p : Program} {l : Launch} {e : Env} {s : State} {m : MethodId} {args : Array Value} {below : List Frame} {meth : Method} {c : Code} {T : State} {locs : List Loc} {Z : State} {a0 : Array Value} {h0 : Heap} {n0 : Nat}
    (X : Stand p l e room_1 s m args below meth c T locs 1 35) (hx : p.tables.exec = Jvm.exec) (hZ : Z.Warmed39 s.vm) (hw : ∀ d ∈ tables_1, d.before a0 Z = true) (hby : c.code = code) (hml : c.maxLocals = 6) (hown : s.vm.findClass "com/example/sleyreed/sleyreed/xpath/XmlNamesIsNameStartCharPinLaw" = some m.cls) (hret : meth.sig.returnType = some .boolean) (hlk : meth.locks = false) (e0 : T.heap = h0) (N : Fr n0 locs) (Z0 : n0 ≤ h0.size)
    (F : Nat → Int32) (i0 : Int32) (i1 : Int32) (i2 : Int32) (t0 : Addr) {r : Int32} (hR : r = own_f0_128 F i0 i1 i2) (VA : own_VA Z h0 t0 .int 35 (fun k => .int (F k))) (qt0 : n0 ≤ t0) : own_Go p e below s room_1.cells room_1.slots (own_QG (.int r) h0 n0) (T.setTop (mkF m 128 #[.val (.int i0), .val (.int i1), .val (.int i2), .unset, .unset, .unset] [(.ref t0)])) := by
  unfold own_f0_128 at hR
  refine own_back (fun t k => XS.dup X.here hx rfl (hb hby at_128) rfl rfl k) ?_
  show own_Go _ _ _ _ _ _ _ (T.setTop (mkF m 129 #[.val (.int i0), .val (.int i1), .val (.int i2), .unset, .unset, .unset] [(.ref t0), (.ref t0)]))
  refine own_back (fun t k => XS.bipush X.here hx rfl (hb hby at_129) k) ?_
  show own_Go _ _ _ _ _ _ _ (T.setTop (mkF m 131 #[.val (.int i0), .val (.int i1), .val (.int i2), .unset, .unset, .unset] [(.int (20 : Int32)), (.ref t0), (.ref t0)]))
  refine own_back (fun t k => XS.sipush X.here hx rfl (hb hby at_131) k) ?_
  show own_Go _ _ _ _ _ _ _ (T.setTop (mkF m 134 #[.val (.int i0), .val (.int i1), .val (.int i2), .unset, .unset, .unset] [(.int (8204 : Int32)), (.int (20 : Int32)), (.ref t0), (.ref t0)]))
  obtain ⟨T22, h22, X22, e22, W22, V22, st22⟩ := own_stF X hx hZ e0 VA 20 (by decide) (by decide) (g := (mkF m 134 #[.val (.int i0), .val (.int i1), .val (.int i2), .unset, .unset, .unset] [(.int (8204 : Int32)), (.int (20 : Int32)), (.ref t0), (.ref t0)])) rfl rfl (hb hby at_134)
  have N22 := Fr.snoc X22 N qt0
  have Z22 : n0 ≤ h22.size := Nat.le_trans Z0 (Keep.of_wr W22).1
  refine own_back (fun t k => st22 t k) ?_
  show own_Go _ _ _ _ _ _ _ (T22.setTop (mkF m 135 #[.val (.int i0), .val (.int i1), .val (.int i2), .unset, .unset, .unset] [(.ref t0)]))
  refine own_back (fun t k => XS.dup X22.here hx rfl (hb hby at_135) rfl rfl k) ?_
  show own_Go _ _ _ _ _ _ _ (T22.setTop (mkF m 136 #[.val (.int i0), .val (.int i1), .val (.int i2), .unset, .unset, .unset] [(.ref t0), (.ref t0)]))
  refine own_back (fun t k => XS.bipush X22.here hx rfl (hb hby at_136) k) ?_
  show own_Go _ _ _ _ _ _ _ (T22.setTop (mkF m 138 #[.val (.int i0), .val (.int i1), .val (.int i2), .unset, .unset, .unset] [(.int (21 : Int32)), (.ref t0), (.ref t0)]))
  refine own_back (fun t k => XS.sipush X22.here hx rfl (hb hby at_138) k) ?_
  show own_Go _ _ _ _ _ _ _ (T22.setTop (mkF m 141 #[.val (.int i0), .val (.int i1), .val (.int i2), .unset, .unset, .unset] [(.int (8206 : Int32)), (.int (21 : Int32)), (.ref t0), (.ref t0)]))
  obtain ⟨T23, h23, X23, e23, W23, V23, st23⟩ := own_stF X22 hx hZ e22 V22 21 (by decide) (by decide) (g := (mkF m 141 #[.val (.int i0), .val (.int i1), .val (.int i2), .unset, .unset, .unset] [(.int (8206 : Int32)), (.int (21 : Int32)), (.ref t0), (.ref t0)])) rfl rfl (hb hby at_141)
  have N23 := Fr.snoc X23 N22 qt0
  have Z23 : n0 ≤ h23.size := Nat.le_trans Z22 (Keep.of_wr W23).1
  refine own_back (fun t k => st23 t k) ?_
  show own_Go _ _ _ _ _ _ _ (T23.setTop (mkF m 142 #[.val (.int i0), .val (.int i1), .val (.int i2), .unset, .unset, .unset] [(.ref t0)]))
  refine own_back (fun t k => XS.dup X23.here hx rfl (hb hby at_142) rfl rfl k) ?_
  show own_Go _ _ _ _ _ _ _ (T23.setTop (mkF m 143 #[.val (.int i0), .val (.int i1), .val (.int i2), .unset, .unset, .unset] [(.ref t0), (.ref t0)]))
  refine own_back (fun t k => XS.bipush X23.here hx rfl (hb hby at_143) k) ?_
  show own_Go _ _ _ _ _ _ _ (T23.setTop (mkF m 145 #[.val (.int i0), .val (.int i1), .val (.int i2), .unset, .unset, .unset] [(.int (22 : Int32)), (.ref t0), (.ref t0)]))
  refine own_back (fun t k => XS.sipush X23.here hx rfl (hb hby at_145) k) ?_
  show own_Go _ _ _ _ _ _ _ (T23.setTop (mkF m 148 #[.val (.int i0), .val (.int i1), .val (.int i2), .unset, .unset, .unset] [(.int (8304 : Int32)), (.int (22 : Int32)), (.ref t0), (.ref t0)]))
  obtain ⟨T24, h24, X24, e24, W24, V24, st24⟩ := own_stF X23 hx hZ e23 V23 22 (by decide) (by decide) (g := (mkF m 148 #[.val (.int i0), .val (.int i1), .val (.int i2), .unset, .unset, .unset] [(.int (8304 : Int32)), (.int (22 : Int32)), (.ref t0), (.ref t0)])) rfl rfl (hb hby at_148)
  have N24 := Fr.snoc X24 N23 qt0
  have Z24 : n0 ≤ h24.size := Nat.le_trans Z23 (Keep.of_wr W24).1
  refine own_back (fun t k => st24 t k) ?_
  show own_Go _ _ _ _ _ _ _ (T24.setTop (mkF m 149 #[.val (.int i0), .val (.int i1), .val (.int i2), .unset, .unset, .unset] [(.ref t0)]))
  refine own_back (fun t k => XS.dup X24.here hx rfl (hb hby at_149) rfl rfl k) ?_
  show own_Go _ _ _ _ _ _ _ (T24.setTop (mkF m 150 #[.val (.int i0), .val (.int i1), .val (.int i2), .unset, .unset, .unset] [(.ref t0), (.ref t0)]))
  refine own_back (fun t k => XS.bipush X24.here hx rfl (hb hby at_150) k) ?_
  show own_Go _ _ _ _ _ _ _ (T24.setTop (mkF m 152 #[.val (.int i0), .val (.int i1), .val (.int i2), .unset, .unset, .unset] [(.int (23 : Int32)), (.ref t0), (.ref t0)]))
  refine own_back (fun t k => XS.sipush X24.here hx rfl (hb hby at_152) k) ?_
  show own_Go _ _ _ _ _ _ _ (T24.setTop (mkF m 155 #[.val (.int i0), .val (.int i1), .val (.int i2), .unset, .unset, .unset] [(.int (8592 : Int32)), (.int (23 : Int32)), (.ref t0), (.ref t0)]))
  obtain ⟨T25, h25, X25, e25, W25, V25, st25⟩ := own_stF X24 hx hZ e24 V24 23 (by decide) (by decide) (g := (mkF m 155 #[.val (.int i0), .val (.int i1), .val (.int i2), .unset, .unset, .unset] [(.int (8592 : Int32)), (.int (23 : Int32)), (.ref t0), (.ref t0)])) rfl rfl (hb hby at_155)
  have N25 := Fr.snoc X25 N24 qt0
  have Z25 : n0 ≤ h25.size := Nat.le_trans Z24 (Keep.of_wr W25).1
  refine own_back (fun t k => st25 t k) ?_
  show own_Go _ _ _ _ _ _ _ (T25.setTop (mkF m 156 #[.val (.int i0), .val (.int i1), .val (.int i2), .unset, .unset, .unset] [(.ref t0)]))
  refine own_back (fun t k => XS.dup X25.here hx rfl (hb hby at_156) rfl rfl k) ?_
  show own_Go _ _ _ _ _ _ _ (T25.setTop (mkF m 157 #[.val (.int i0), .val (.int i1), .val (.int i2), .unset, .unset, .unset] [(.ref t0), (.ref t0)]))
  refine own_back (fun t k => XS.bipush X25.here hx rfl (hb hby at_157) k) ?_
  show own_Go _ _ _ _ _ _ _ (T25.setTop (mkF m 159 #[.val (.int i0), .val (.int i1), .val (.int i2), .unset, .unset, .unset] [(.int (24 : Int32)), (.ref t0), (.ref t0)]))
  refine own_back (fun t k => XS.sipush X25.here hx rfl (hb hby at_159) k) ?_
  show own_Go _ _ _ _ _ _ _ (T25.setTop (mkF m 162 #[.val (.int i0), .val (.int i1), .val (.int i2), .unset, .unset, .unset] [(.int (11264 : Int32)), (.int (24 : Int32)), (.ref t0), (.ref t0)]))
  obtain ⟨T26, h26, X26, e26, W26, V26, st26⟩ := own_stF X25 hx hZ e25 V25 24 (by decide) (by decide) (g := (mkF m 162 #[.val (.int i0), .val (.int i1), .val (.int i2), .unset, .unset, .unset] [(.int (11264 : Int32)), (.int (24 : Int32)), (.ref t0), (.ref t0)])) rfl rfl (hb hby at_162)
  have N26 := Fr.snoc X26 N25 qt0
  have Z26 : n0 ≤ h26.size := Nat.le_trans Z25 (Keep.of_wr W26).1
  refine own_back (fun t k => st26 t k) ?_
  show own_Go _ _ _ _ _ _ _ (T26.setTop (mkF m 163 #[.val (.int i0), .val (.int i1), .val (.int i2), .unset, .unset, .unset] [(.ref t0)]))
  exact own_l0_163 X26 hx hZ hw hby hml hown hret hlk e26 N26 Z26 (own_put (own_put (own_put (own_put (own_put F 20 (8204 : Int32)) 21 (8206 : Int32)) 22 (8304 : Int32)) 23 (8592 : Int32)) 24 (11264 : Int32)) i0 i1 i2 t0 hR V26 qt0
set_option maxRecDepth 65536 in
set_option maxHeartbeats 4000000 in
theorem own_l0_93 {p : Program} {l : Launch} {e : Env} {s : State} {m : MethodId} {args : Array Value} {below : List Frame} {meth : Method} {c : Code} {T : State} {locs : List Loc} {Z : State} {a0 : Array Value} {h0 : Heap} {n0 : Nat}
    (X : Stand p l e room_1 s m args below meth c T locs 1 35) (hx : p.tables.exec = Jvm.exec) (hZ : Z.Warmed39 s.vm) (hw : ∀ d ∈ tables_1, d.before a0 Z = true) (hby : c.code = code) (hml : c.maxLocals = 6) (hown : s.vm.findClass "com/example/sleyreed/sleyreed/xpath/XmlNamesIsNameStartCharPinLaw" = some m.cls) (hret : meth.sig.returnType = some .boolean) (hlk : meth.locks = false) (e0 : T.heap = h0) (N : Fr n0 locs) (Z0 : n0 ≤ h0.size)
    (F : Nat → Int32) (i0 : Int32) (i1 : Int32) (i2 : Int32) (t0 : Addr) {r : Int32} (hR : r = own_f0_93 F i0 i1 i2) (VA : own_VA Z h0 t0 .int 35 (fun k => .int (F k))) (qt0 : n0 ≤ t0) : own_Go p e below s room_1.cells room_1.slots (own_QG (.int r) h0 n0) (T.setTop (mkF m 93 #[.val (.int i0), .val (.int i1), .val (.int i2), .unset, .unset, .unset] [(.ref t0)])) := by
  unfold own_f0_93 at hR
  refine own_back (fun t k => XS.dup X.here hx rfl (hb hby at_93) rfl rfl k) ?_
  show own_Go _ _ _ _ _ _ _ (T.setTop (mkF m 94 #[.val (.int i0), .val (.int i1), .val (.int i2), .unset, .unset, .unset] [(.ref t0), (.ref t0)]))
  refine own_back (fun t k => XS.bipush X.here hx rfl (hb hby at_94) k) ?_
  show own_Go _ _ _ _ _ _ _ (T.setTop (mkF m 96 #[.val (.int i0), .val (.int i1), .val (.int i2), .unset, .unset, .unset] [(.int (15 : Int32)), (.ref t0), (.ref t0)]))
  refine own_back (fun t k => XS.sipush X.here hx rfl (hb hby at_96) k) ?_
  show own_Go _ _ _ _ _ _ _ (T.setTop (mkF m 99 #[.val (.int i0), .val (.int i1), .val (.int i2), .unset, .unset, .unset] [(.int (768 : Int32)), (.int (15 : Int32)), (.ref t0), (.ref t0)]))
  obtain ⟨T17, h17, X17, e17, W17, V17, st17⟩ := own_stF X hx hZ e0 VA 15 (by decide) (by decide) (g := (mkF m 99 #[.val (.int i0), .val (.int i1), .val (.int i2), .unset, .unset, .unset] [(.int (768 : Int32)), (.int (15 : Int32)), (.ref t0), (.ref t0)])) rfl rfl (hb hby at_99)
  have N17 := Fr.snoc X17 N qt0
  have Z17 : n0 ≤ h17.size := Nat.le_trans Z0 (Keep.of_wr W17).1
  refine own_back (fun t k => st17 t k) ?_
  show own_Go _ _ _ _ _ _ _ (T17.setTop (mkF m 100 #[.val (.int i0), .val (.int i1), .val (.int i2), .unset, .unset, .unset] [(.ref t0)]))
  refine own_back (fun t k => XS.dup X17.here hx rfl (hb hby at_100) rfl rfl k) ?_
  show own_Go _ _ _ _ _ _ _ (T17.setTop (mkF m 101 #[.val (.int i0), .val (.int i1), .val (.int i2), .unset, .unset, .unset] [(.ref t0), (.ref t0)]))
  refine own_back (fun t k => XS.bipush X17.here hx rfl (hb hby at_101) k) ?_
  show own_Go _ _ _ _ _ _ _ (T17.setTop (mkF m 103 #[.val (.int i0), .val (.int i1), .val (.int i2), .unset, .unset, .unset] [(.int (16 : Int32)), (.ref t0), (.ref t0)]))
  refine own_back (fun t k => XS.sipush X17.here hx rfl (hb hby at_103) k) ?_
  show own_Go _ _ _ _ _ _ _ (T17.setTop (mkF m 106 #[.val (.int i0), .val (.int i1), .val (.int i2), .unset, .unset, .unset] [(.int (880 : Int32)), (.int (16 : Int32)), (.ref t0), (.ref t0)]))
  obtain ⟨T18, h18, X18, e18, W18, V18, st18⟩ := own_stF X17 hx hZ e17 V17 16 (by decide) (by decide) (g := (mkF m 106 #[.val (.int i0), .val (.int i1), .val (.int i2), .unset, .unset, .unset] [(.int (880 : Int32)), (.int (16 : Int32)), (.ref t0), (.ref t0)])) rfl rfl (hb hby at_106)
  have N18 := Fr.snoc X18 N17 qt0
  have Z18 : n0 ≤ h18.size := Nat.le_trans Z17 (Keep.of_wr W18).1
  refine own_back (fun t k => st18 t k) ?_
  show own_Go _ _ _ _ _ _ _ (T18.setTop (mkF m 107 #[.val (.int i0), .val (.int i1), .val (.int i2), .unset, .unset, .unset] [(.ref t0)]))
  refine own_back (fun t k => XS.dup X18.here hx rfl (hb hby at_107) rfl rfl k) ?_
  show own_Go _ _ _ _ _ _ _ (T18.setTop (mkF m 108 #[.val (.int i0), .val (.int i1), .val (.int i2), .unset, .unset, .unset] [(.ref t0), (.ref t0)]))
  refine own_back (fun t k => XS.bipush X18.here hx rfl (hb hby at_108) k) ?_
  show own_Go _ _ _ _ _ _ _ (T18.setTop (mkF m 110 #[.val (.int i0), .val (.int i1), .val (.int i2), .unset, .unset, .unset] [(.int (17 : Int32)), (.ref t0), (.ref t0)]))
  refine own_back (fun t k => XS.sipush X18.here hx rfl (hb hby at_110) k) ?_
  show own_Go _ _ _ _ _ _ _ (T18.setTop (mkF m 113 #[.val (.int i0), .val (.int i1), .val (.int i2), .unset, .unset, .unset] [(.int (894 : Int32)), (.int (17 : Int32)), (.ref t0), (.ref t0)]))
  obtain ⟨T19, h19, X19, e19, W19, V19, st19⟩ := own_stF X18 hx hZ e18 V18 17 (by decide) (by decide) (g := (mkF m 113 #[.val (.int i0), .val (.int i1), .val (.int i2), .unset, .unset, .unset] [(.int (894 : Int32)), (.int (17 : Int32)), (.ref t0), (.ref t0)])) rfl rfl (hb hby at_113)
  have N19 := Fr.snoc X19 N18 qt0
  have Z19 : n0 ≤ h19.size := Nat.le_trans Z18 (Keep.of_wr W19).1
  refine own_back (fun t k => st19 t k) ?_
  show own_Go _ _ _ _ _ _ _ (T19.setTop (mkF m 114 #[.val (.int i0), .val (.int i1), .val (.int i2), .unset, .unset, .unset] [(.ref t0)]))
  refine own_back (fun t k => XS.dup X19.here hx rfl (hb hby at_114) rfl rfl k) ?_
  show own_Go _ _ _ _ _ _ _ (T19.setTop (mkF m 115 #[.val (.int i0), .val (.int i1), .val (.int i2), .unset, .unset, .unset] [(.ref t0), (.ref t0)]))
  refine own_back (fun t k => XS.bipush X19.here hx rfl (hb hby at_115) k) ?_
  show own_Go _ _ _ _ _ _ _ (T19.setTop (mkF m 117 #[.val (.int i0), .val (.int i1), .val (.int i2), .unset, .unset, .unset] [(.int (18 : Int32)), (.ref t0), (.ref t0)]))
  refine own_back (fun t k => XS.sipush X19.here hx rfl (hb hby at_117) k) ?_
  show own_Go _ _ _ _ _ _ _ (T19.setTop (mkF m 120 #[.val (.int i0), .val (.int i1), .val (.int i2), .unset, .unset, .unset] [(.int (895 : Int32)), (.int (18 : Int32)), (.ref t0), (.ref t0)]))
  obtain ⟨T20, h20, X20, e20, W20, V20, st20⟩ := own_stF X19 hx hZ e19 V19 18 (by decide) (by decide) (g := (mkF m 120 #[.val (.int i0), .val (.int i1), .val (.int i2), .unset, .unset, .unset] [(.int (895 : Int32)), (.int (18 : Int32)), (.ref t0), (.ref t0)])) rfl rfl (hb hby at_120)
  have N20 := Fr.snoc X20 N19 qt0
  have Z20 : n0 ≤ h20.size := Nat.le_trans Z19 (Keep.of_wr W20).1
  refine own_back (fun t k => st20 t k) ?_
  show own_Go _ _ _ _ _ _ _ (T20.setTop (mkF m 121 #[.val (.int i0), .val (.int i1), .val (.int i2), .unset, .unset, .unset] [(.ref t0)]))
  refine own_back (fun t k => XS.dup X20.here hx rfl (hb hby at_121) rfl rfl k) ?_
  show own_Go _ _ _ _ _ _ _ (T20.setTop (mkF m 122 #[.val (.int i0), .val (.int i1), .val (.int i2), .unset, .unset, .unset] [(.ref t0), (.ref t0)]))
  refine own_back (fun t k => XS.bipush X20.here hx rfl (hb hby at_122) k) ?_
  show own_Go _ _ _ _ _ _ _ (T20.setTop (mkF m 124 #[.val (.int i0), .val (.int i1), .val (.int i2), .unset, .unset, .unset] [(.int (19 : Int32)), (.ref t0), (.ref t0)]))
  refine own_back (fun t k => XS.sipush X20.here hx rfl (hb hby at_124) k) ?_
  show own_Go _ _ _ _ _ _ _ (T20.setTop (mkF m 127 #[.val (.int i0), .val (.int i1), .val (.int i2), .unset, .unset, .unset] [(.int (8192 : Int32)), (.int (19 : Int32)), (.ref t0), (.ref t0)]))
  obtain ⟨T21, h21, X21, e21, W21, V21, st21⟩ := own_stF X20 hx hZ e20 V20 19 (by decide) (by decide) (g := (mkF m 127 #[.val (.int i0), .val (.int i1), .val (.int i2), .unset, .unset, .unset] [(.int (8192 : Int32)), (.int (19 : Int32)), (.ref t0), (.ref t0)])) rfl rfl (hb hby at_127)
  have N21 := Fr.snoc X21 N20 qt0
  have Z21 : n0 ≤ h21.size := Nat.le_trans Z20 (Keep.of_wr W21).1
  refine own_back (fun t k => st21 t k) ?_
  show own_Go _ _ _ _ _ _ _ (T21.setTop (mkF m 128 #[.val (.int i0), .val (.int i1), .val (.int i2), .unset, .unset, .unset] [(.ref t0)]))
  exact own_l0_128 X21 hx hZ hw hby hml hown hret hlk e21 N21 Z21 (own_put (own_put (own_put (own_put (own_put F 15 (768 : Int32)) 16 (880 : Int32)) 17 (894 : Int32)) 18 (895 : Int32)) 19 (8192 : Int32)) i0 i1 i2 t0 hR V21 qt0
set_option maxRecDepth 65536 in
set_option maxHeartbeats 4000000 in
theorem own_l0_58 {p : Program} {l : Launch} {e : Env} {s : State} {m : MethodId} {args : Array Value} {below : List Frame} {meth : Method} {c : Code} {T : State} {locs : List Loc} {Z : State} {a0 : Array Value} {h0 : Heap} {n0 : Nat}
    (X : Stand p l e room_1 s m args below meth c T locs 1 35) (hx : p.tables.exec = Jvm.exec) (hZ : Z.Warmed39 s.vm) (hw : ∀ d ∈ tables_1, d.before a0 Z = true) (hby : c.code = code) (hml : c.maxLocals = 6) (hown : s.vm.findClass "com/example/sleyreed/sleyreed/xpath/XmlNamesIsNameStartCharPinLaw" = some m.cls) (hret : meth.sig.returnType = some .boolean) (hlk : meth.locks = false) (e0 : T.heap = h0) (N : Fr n0 locs) (Z0 : n0 ≤ h0.size)
    (F : Nat → Int32) (i0 : Int32) (i1 : Int32) (i2 : Int32) (t0 : Addr) {r : Int32} (hR : r = own_f0_58 F i0 i1 i2) (VA : own_VA Z h0 t0 .int 35 (fun k => .int (F k))) (qt0 : n0 ≤ t0) : own_Go p e below s room_1.cells room_1.slots (own_QG (.int r) h0 n0) (T.setTop (mkF m 58 #[.val (.int i0), .val (.int i1), .val (.int i2), .unset, .unset, .unset] [(.ref t0)])) := by
  unfold own_f0_58 at hR
  refine own_back (fun t k => XS.dup X.here hx rfl (hb hby at_58) rfl rfl k) ?_
  show own_Go _ _ _ _ _ _ _ (T.setTop (mkF m 59 #[.val (.int i0), .val (.int i1), .val (.int i2), .unset, .unset, .unset] [(.ref t0), (.ref t0)]))
  refine own_back (fun t k => XS.bipush X.here hx rfl (hb hby at_59) k) ?_
  show own_Go _ _ _ _ _ _ _ (T.setTop (mkF m 61 #[.val (.int i0), .val (.int i1), .val (.int i2), .unset, .unset, .unset] [(.int (10 : Int32)), (.ref t0), (.ref t0)]))
  refine own_back (fun t k => XS.sipush X.here hx rfl (hb hby at_61) k) ?_
  show own_Go _ _ _ _ _ _ _ (T.setTop (mkF m 64 #[.val (.int i0), .val (.int i1), .val (.int i2), .unset, .unset, .unset] [(.int (192 : Int32)), (.int (10 : Int32)), (.ref t0), (.ref t0)]))
  obtain ⟨T12, h12, X12, e12, W12, V12, st12⟩ := own_stF X hx hZ e0 VA 10 (by decide) (by decide) (g := (mkF m 64 #[.val (.int i0), .val (.int i1), .val (.int i2), .unset, .unset, .unset] [(.int (192 : Int32)), (.int (10 : Int32)), (.ref t0), (.ref t0)])) rfl rfl (hb hby at_64)
  have N12 := Fr.snoc X12 N qt0
  have Z12 : n0 ≤ h12.size := Nat.le_trans Z0 (Keep.of_wr W12).1
  refine own_back (fun t k => st12 t k) ?_
  show own_Go _ _ _ _ _ _ _ (T12.setTop (mkF m 65 #[.val (.int i0), .val (.int i1), .val (.int i2), .unset, .unset, .unset] [(.ref t0)]))
  refine own_back (fun t k => XS.dup X12.here hx rfl (hb hby at_65) rfl rfl k) ?_
  show own_Go _ _ _ _ _ _ _ (T12.setTop (mkF m 66 #[.val (.int i0), .val (.int i1), .val (.int i2), .unset, .unset, .unset] [(.ref t0), (.ref t0)]))
  refine own_back (fun t k => XS.bipush X12.here hx rfl (hb hby at_66) k) ?_
  show own_Go _ _ _ _ _ _ _ (T12.setTop (mkF m 68 #[.val (.int i0), .val (.int i1), .val (.int i2), .unset, .unset, .unset] [(.int (11 : Int32)), (.ref t0), (.ref t0)]))
  refine own_back (fun t k => XS.sipush X12.here hx rfl (hb hby at_68) k) ?_
  show own_Go _ _ _ _ _ _ _ (T12.setTop (mkF m 71 #[.val (.int i0), .val (.int i1), .val (.int i2), .unset, .unset, .unset] [(.int (215 : Int32)), (.int (11 : Int32)), (.ref t0), (.ref t0)]))
  obtain ⟨T13, h13, X13, e13, W13, V13, st13⟩ := own_stF X12 hx hZ e12 V12 11 (by decide) (by decide) (g := (mkF m 71 #[.val (.int i0), .val (.int i1), .val (.int i2), .unset, .unset, .unset] [(.int (215 : Int32)), (.int (11 : Int32)), (.ref t0), (.ref t0)])) rfl rfl (hb hby at_71)
  have N13 := Fr.snoc X13 N12 qt0
  have Z13 : n0 ≤ h13.size := Nat.le_trans Z12 (Keep.of_wr W13).1
  refine own_back (fun t k => st13 t k) ?_
  show own_Go _ _ _ _ _ _ _ (T13.setTop (mkF m 72 #[.val (.int i0), .val (.int i1), .val (.int i2), .unset, .unset, .unset] [(.ref t0)]))
  refine own_back (fun t k => XS.dup X13.here hx rfl (hb hby at_72) rfl rfl k) ?_
  show own_Go _ _ _ _ _ _ _ (T13.setTop (mkF m 73 #[.val (.int i0), .val (.int i1), .val (.int i2), .unset, .unset, .unset] [(.ref t0), (.ref t0)]))
  refine own_back (fun t k => XS.bipush X13.here hx rfl (hb hby at_73) k) ?_
  show own_Go _ _ _ _ _ _ _ (T13.setTop (mkF m 75 #[.val (.int i0), .val (.int i1), .val (.int i2), .unset, .unset, .unset] [(.int (12 : Int32)), (.ref t0), (.ref t0)]))
  refine own_back (fun t k => XS.sipush X13.here hx rfl (hb hby at_75) k) ?_
  show own_Go _ _ _ _ _ _ _ (T13.setTop (mkF m 78 #[.val (.int i0), .val (.int i1), .val (.int i2), .unset, .unset, .unset] [(.int (216 : Int32)), (.int (12 : Int32)), (.ref t0), (.ref t0)]))
  obtain ⟨T14, h14, X14, e14, W14, V14, st14⟩ := own_stF X13 hx hZ e13 V13 12 (by decide) (by decide) (g := (mkF m 78 #[.val (.int i0), .val (.int i1), .val (.int i2), .unset, .unset, .unset] [(.int (216 : Int32)), (.int (12 : Int32)), (.ref t0), (.ref t0)])) rfl rfl (hb hby at_78)
  have N14 := Fr.snoc X14 N13 qt0
  have Z14 : n0 ≤ h14.size := Nat.le_trans Z13 (Keep.of_wr W14).1
  refine own_back (fun t k => st14 t k) ?_
  show own_Go _ _ _ _ _ _ _ (T14.setTop (mkF m 79 #[.val (.int i0), .val (.int i1), .val (.int i2), .unset, .unset, .unset] [(.ref t0)]))
  refine own_back (fun t k => XS.dup X14.here hx rfl (hb hby at_79) rfl rfl k) ?_
  show own_Go _ _ _ _ _ _ _ (T14.setTop (mkF m 80 #[.val (.int i0), .val (.int i1), .val (.int i2), .unset, .unset, .unset] [(.ref t0), (.ref t0)]))
  refine own_back (fun t k => XS.bipush X14.here hx rfl (hb hby at_80) k) ?_
  show own_Go _ _ _ _ _ _ _ (T14.setTop (mkF m 82 #[.val (.int i0), .val (.int i1), .val (.int i2), .unset, .unset, .unset] [(.int (13 : Int32)), (.ref t0), (.ref t0)]))
  refine own_back (fun t k => XS.sipush X14.here hx rfl (hb hby at_82) k) ?_
  show own_Go _ _ _ _ _ _ _ (T14.setTop (mkF m 85 #[.val (.int i0), .val (.int i1), .val (.int i2), .unset, .unset, .unset] [(.int (247 : Int32)), (.int (13 : Int32)), (.ref t0), (.ref t0)]))
  obtain ⟨T15, h15, X15, e15, W15, V15, st15⟩ := own_stF X14 hx hZ e14 V14 13 (by decide) (by decide) (g := (mkF m 85 #[.val (.int i0), .val (.int i1), .val (.int i2), .unset, .unset, .unset] [(.int (247 : Int32)), (.int (13 : Int32)), (.ref t0), (.ref t0)])) rfl rfl (hb hby at_85)
  have N15 := Fr.snoc X15 N14 qt0
  have Z15 : n0 ≤ h15.size := Nat.le_trans Z14 (Keep.of_wr W15).1
  refine own_back (fun t k => st15 t k) ?_
  show own_Go _ _ _ _ _ _ _ (T15.setTop (mkF m 86 #[.val (.int i0), .val (.int i1), .val (.int i2), .unset, .unset, .unset] [(.ref t0)]))
  refine own_back (fun t k => XS.dup X15.here hx rfl (hb hby at_86) rfl rfl k) ?_
  show own_Go _ _ _ _ _ _ _ (T15.setTop (mkF m 87 #[.val (.int i0), .val (.int i1), .val (.int i2), .unset, .unset, .unset] [(.ref t0), (.ref t0)]))
  refine own_back (fun t k => XS.bipush X15.here hx rfl (hb hby at_87) k) ?_
  show own_Go _ _ _ _ _ _ _ (T15.setTop (mkF m 89 #[.val (.int i0), .val (.int i1), .val (.int i2), .unset, .unset, .unset] [(.int (14 : Int32)), (.ref t0), (.ref t0)]))
  refine own_back (fun t k => XS.sipush X15.here hx rfl (hb hby at_89) k) ?_
  show own_Go _ _ _ _ _ _ _ (T15.setTop (mkF m 92 #[.val (.int i0), .val (.int i1), .val (.int i2), .unset, .unset, .unset] [(.int (248 : Int32)), (.int (14 : Int32)), (.ref t0), (.ref t0)]))
  obtain ⟨T16, h16, X16, e16, W16, V16, st16⟩ := own_stF X15 hx hZ e15 V15 14 (by decide) (by decide) (g := (mkF m 92 #[.val (.int i0), .val (.int i1), .val (.int i2), .unset, .unset, .unset] [(.int (248 : Int32)), (.int (14 : Int32)), (.ref t0), (.ref t0)])) rfl rfl (hb hby at_92)
  have N16 := Fr.snoc X16 N15 qt0
  have Z16 : n0 ≤ h16.size := Nat.le_trans Z15 (Keep.of_wr W16).1
  refine own_back (fun t k => st16 t k) ?_
  show own_Go _ _ _ _ _ _ _ (T16.setTop (mkF m 93 #[.val (.int i0), .val (.int i1), .val (.int i2), .unset, .unset, .unset] [(.ref t0)]))
  exact own_l0_93 X16 hx hZ hw hby hml hown hret hlk e16 N16 Z16 (own_put (own_put (own_put (own_put (own_put F 10 (192 : Int32)) 11 (215 : Int32)) 12 (216 : Int32)) 13 (247 : Int32)) 14 (248 : Int32)) i0 i1 i2 t0 hR V16 qt0
set_option maxRecDepth 65536 in
set_option maxHeartbeats 4000000 in
theorem own_l0_28 {p : Program} {l : Launch} {e : Env} {s : State} {m : MethodId} {args : Array Value} {below : List Frame} {meth : Method} {c : Code} {T : State} {locs : List Loc} {Z : State} {a0 : Array Value} {h0 : Heap} {n0 : Nat}
    (X : Stand p l e room_1 s m args below meth c T locs 1 35) (hx : p.tables.exec = Jvm.exec) (hZ : Z.Warmed39 s.vm) (hw : ∀ d ∈ tables_1, d.before a0 Z = true) (hby : c.code = code) (hml : c.maxLocals = 6) (hown : s.vm.findClass "com/example/sleyreed/sleyreed/xpath/XmlNamesIsNameStartCharPinLaw" = some m.cls) (hret : meth.sig.returnType = some .boolean) (hlk : meth.locks = false) (e0 : T.heap = h0) (N : Fr n0 locs) (Z0 : n0 ≤ h0.size)
    (F : Nat → Int32) (i0 : Int32) (i1 : Int32) (i2 : Int32) (t0 : Addr) {r : Int32} (hR : r = own_f0_28 F i0 i1 i2) (VA : own_VA Z h0 t0 .int 35 (fun k => .int (F k))) (qt0 : n0 ≤ t0) : own_Go p e below s room_1.cells room_1.slots (own_QG (.int r) h0 n0) (T.setTop (mkF m 28 #[.val (.int i0), .val (.int i1), .val (.int i2), .unset, .unset, .unset] [(.ref t0)])) := by
  unfold own_f0_28 at hR
  refine own_back (fun t k => XS.dup X.here hx rfl (hb hby at_28) rfl rfl k) ?_
  show own_Go _ _ _ _ _ _ _ (T.setTop (mkF m 29 #[.val (.int i0), .val (.int i1), .val (.int i2), .unset, .unset, .unset] [(.ref t0), (.ref t0)]))
  refine own_back (fun t k => XS.iconst X.here hx rfl (hb hby at_29) k) ?_
  show own_Go _ _ _ _ _ _ _ (T.setTop (mkF m 30 #[.val (.int i0), .val (.int i1), .val (.int i2), .unset, .unset, .unset] [(.int (5 : Int32)), (.ref t0), (.ref t0)]))
  refine own_back (fun t k => XS.bipush X.here hx rfl (hb hby at_30) k) ?_
  show own_Go _ _ _ _ _ _ _ (T.setTop (mkF m 32 #[.val (.int i0), .val (.int i1), .val (.int i2), .unset, .unset, .unset] [(.int (95 : Int32)), (.int (5 : Int32)), (.ref t0), (.ref t0)]))
  obtain ⟨T7, h7, X7, e7, W7, V7, st7⟩ := own_stF X hx hZ e0 VA 5 (by decide) (by decide) (g := (mkF m 32 #[.val (.int i0), .val (.int i1), .val (.int i2), .unset, .unset, .unset] [(.int (95 : Int32)), (.int (5 : Int32)), (.ref t0), (.ref t0)])) rfl rfl (hb hby at_32)
  have N7 := Fr.snoc X7 N qt0
  have Z7 : n0 ≤ h7.size := Nat.le_trans Z0 (Keep.of_wr W7).1
  refine own_back (fun t k => st7 t k) ?_
  show own_Go _ _ _ _ _ _ _ (T7.setTop (mkF m 33 #[.val (.int i0), .val (.int i1), .val (.int i2), .unset, .unset, .unset] [(.ref t0)]))
  refine own_back (fun t k => XS.dup X7.here hx rfl (hb hby at_33) rfl rfl k) ?_
  show own_Go _ _ _ _ _ _ _ (T7.setTop (mkF m 34 #[.val (.int i0), .val (.int i1), .val (.int i2), .unset, .unset, .unset] [(.ref t0), (.ref t0)]))
  refine own_back (fun t k => XS.bipush X7.here hx rfl (hb hby at_34) k) ?_
  show own_Go _ _ _ _ _ _ _ (T7.setTop (mkF m 36 #[.val (.int i0), .val (.int i1), .val (.int i2), .unset, .unset, .unset] [(.int (6 : Int32)), (.ref t0), (.ref t0)]))
  refine own_back (fun t k => XS.bipush X7.here hx rfl (hb hby at_36) k) ?_
  show own_Go _ _ _ _ _ _ _ (T7.setTop (mkF m 38 #[.val (.int i0), .val (.int i1), .val (.int i2), .unset, .unset, .unset] [(.int (96 : Int32)), (.int (6 : Int32)), (.ref t0), (.ref t0)]))
  obtain ⟨T8, h8, X8, e8, W8, V8, st8⟩ := own_stF X7 hx hZ e7 V7 6 (by decide) (by decide) (g := (mkF m 38 #[.val (.int i0), .val (.int i1), .val (.int i2), .unset, .unset, .unset] [(.int (96 : Int32)), (.int (6 : Int32)), (.ref t0), (.ref t0)])) rfl rfl (hb hby at_38)
  have N8 := Fr.snoc X8 N7 qt0
  have Z8 : n0 ≤ h8.size := Nat.le_trans Z7 (Keep.of_wr W8).1
  refine own_back (fun t k => st8 t k) ?_
  show own_Go _ _ _ _ _ _ _ (T8.setTop (mkF m 39 #[.val (.int i0), .val (.int i1), .val (.int i2), .unset, .unset, .unset] [(.ref t0)]))
  refine own_back (fun t k => XS.dup X8.here hx rfl (hb hby at_39) rfl rfl k) ?_
  show own_Go _ _ _ _ _ _ _ (T8.setTop (mkF m 40 #[.val (.int i0), .val (.int i1), .val (.int i2), .unset, .unset, .unset] [(.ref t0), (.ref t0)]))
  refine own_back (fun t k => XS.bipush X8.here hx rfl (hb hby at_40) k) ?_
  show own_Go _ _ _ _ _ _ _ (T8.setTop (mkF m 42 #[.val (.int i0), .val (.int i1), .val (.int i2), .unset, .unset, .unset] [(.int (7 : Int32)), (.ref t0), (.ref t0)]))
  refine own_back (fun t k => XS.bipush X8.here hx rfl (hb hby at_42) k) ?_
  show own_Go _ _ _ _ _ _ _ (T8.setTop (mkF m 44 #[.val (.int i0), .val (.int i1), .val (.int i2), .unset, .unset, .unset] [(.int (97 : Int32)), (.int (7 : Int32)), (.ref t0), (.ref t0)]))
  obtain ⟨T9, h9, X9, e9, W9, V9, st9⟩ := own_stF X8 hx hZ e8 V8 7 (by decide) (by decide) (g := (mkF m 44 #[.val (.int i0), .val (.int i1), .val (.int i2), .unset, .unset, .unset] [(.int (97 : Int32)), (.int (7 : Int32)), (.ref t0), (.ref t0)])) rfl rfl (hb hby at_44)
  have N9 := Fr.snoc X9 N8 qt0
  have Z9 : n0 ≤ h9.size := Nat.le_trans Z8 (Keep.of_wr W9).1
  refine own_back (fun t k => st9 t k) ?_
  show own_Go _ _ _ _ _ _ _ (T9.setTop (mkF m 45 #[.val (.int i0), .val (.int i1), .val (.int i2), .unset, .unset, .unset] [(.ref t0)]))
  refine own_back (fun t k => XS.dup X9.here hx rfl (hb hby at_45) rfl rfl k) ?_
  show own_Go _ _ _ _ _ _ _ (T9.setTop (mkF m 46 #[.val (.int i0), .val (.int i1), .val (.int i2), .unset, .unset, .unset] [(.ref t0), (.ref t0)]))
  refine own_back (fun t k => XS.bipush X9.here hx rfl (hb hby at_46) k) ?_
  show own_Go _ _ _ _ _ _ _ (T9.setTop (mkF m 48 #[.val (.int i0), .val (.int i1), .val (.int i2), .unset, .unset, .unset] [(.int (8 : Int32)), (.ref t0), (.ref t0)]))
  refine own_back (fun t k => XS.bipush X9.here hx rfl (hb hby at_48) k) ?_
  show own_Go _ _ _ _ _ _ _ (T9.setTop (mkF m 50 #[.val (.int i0), .val (.int i1), .val (.int i2), .unset, .unset, .unset] [(.int (123 : Int32)), (.int (8 : Int32)), (.ref t0), (.ref t0)]))
  obtain ⟨T10, h10, X10, e10, W10, V10, st10⟩ := own_stF X9 hx hZ e9 V9 8 (by decide) (by decide) (g := (mkF m 50 #[.val (.int i0), .val (.int i1), .val (.int i2), .unset, .unset, .unset] [(.int (123 : Int32)), (.int (8 : Int32)), (.ref t0), (.ref t0)])) rfl rfl (hb hby at_50)
  have N10 := Fr.snoc X10 N9 qt0
  have Z10 : n0 ≤ h10.size := Nat.le_trans Z9 (Keep.of_wr W10).1
  refine own_back (fun t k => st10 t k) ?_
  show own_Go _ _ _ _ _ _ _ (T10.setTop (mkF m 51 #[.val (.int i0), .val (.int i1), .val (.int i2), .unset, .unset, .unset] [(.ref t0)]))
  refine own_back (fun t k => XS.dup X10.here hx rfl (hb hby at_51) rfl rfl k) ?_
  show own_Go _ _ _ _ _ _ _ (T10.setTop (mkF m 52 #[.val (.int i0), .val (.int i1), .val (.int i2), .unset, .unset, .unset] [(.ref t0), (.ref t0)]))
  refine own_back (fun t k => XS.bipush X10.here hx rfl (hb hby at_52) k) ?_
  show own_Go _ _ _ _ _ _ _ (T10.setTop (mkF m 54 #[.val (.int i0), .val (.int i1), .val (.int i2), .unset, .unset, .unset] [(.int (9 : Int32)), (.ref t0), (.ref t0)]))
  refine own_back (fun t k => XS.sipush X10.here hx rfl (hb hby at_54) k) ?_
  show own_Go _ _ _ _ _ _ _ (T10.setTop (mkF m 57 #[.val (.int i0), .val (.int i1), .val (.int i2), .unset, .unset, .unset] [(.int (128 : Int32)), (.int (9 : Int32)), (.ref t0), (.ref t0)]))
  obtain ⟨T11, h11, X11, e11, W11, V11, st11⟩ := own_stF X10 hx hZ e10 V10 9 (by decide) (by decide) (g := (mkF m 57 #[.val (.int i0), .val (.int i1), .val (.int i2), .unset, .unset, .unset] [(.int (128 : Int32)), (.int (9 : Int32)), (.ref t0), (.ref t0)])) rfl rfl (hb hby at_57)
  have N11 := Fr.snoc X11 N10 qt0
  have Z11 : n0 ≤ h11.size := Nat.le_trans Z10 (Keep.of_wr W11).1
  refine own_back (fun t k => st11 t k) ?_
  show own_Go _ _ _ _ _ _ _ (T11.setTop (mkF m 58 #[.val (.int i0), .val (.int i1), .val (.int i2), .unset, .unset, .unset] [(.ref t0)]))
  exact own_l0_58 X11 hx hZ hw hby hml hown hret hlk e11 N11 Z11 (own_put (own_put (own_put (own_put (own_put F 5 (95 : Int32)) 6 (96 : Int32)) 7 (97 : Int32)) 8 (123 : Int32)) 9 (128 : Int32)) i0 i1 i2 t0 hR V11 qt0
set_option maxRecDepth 65536 in
set_option maxHeartbeats 4000000 in
theorem own_l0_0 {p : Program} {l : Launch} {e : Env} {s : State} {m : MethodId} {args : Array Value} {below : List Frame} {meth : Method} {c : Code} {T : State} {locs : List Loc} {Z : State} {a0 : Array Value} {h0 : Heap} {n0 : Nat}
    (X : Stand p l e room_1 s m args below meth c T locs 0 0) (hx : p.tables.exec = Jvm.exec) (hZ : Z.Warmed39 s.vm) (hw : ∀ d ∈ tables_1, d.before a0 Z = true) (hby : c.code = code) (hml : c.maxLocals = 6) (hown : s.vm.findClass "com/example/sleyreed/sleyreed/xpath/XmlNamesIsNameStartCharPinLaw" = some m.cls) (hret : meth.sig.returnType = some .boolean) (hlk : meth.locks = false) (e0 : T.heap = h0) (N : Fr n0 locs) (Z0 : n0 ≤ h0.size)
    (x0 : Int32) (x1 : Int32) (x2 : Int32) {r : Int32} (hR : r = own_f0_0 x0 x1 x2) : own_Go p e below s room_1.cells room_1.slots (own_QG (.int r) h0 n0) (T.setTop (mkF m 0 #[.val (.int x0), .val (.int x1), .val (.int x2), .unset, .unset, .unset] [])) := by
  unfold own_f0_0 at hR
  refine own_back (fun t k => XS.bipush X.here hx rfl (hb hby at_0) k) ?_
  show own_Go _ _ _ _ _ _ _ (T.setTop (mkF m 2 #[.val (.int x0), .val (.int x1), .val (.int x2), .unset, .unset, .unset] [(.int (35 : Int32))]))
  obtain ⟨T1, h1, k1, X1, e1, E1, A1, st1⟩ := newP X hx hZ (hw _ (List.mem_of_getElem? (i := 0) rfl)) e0 (g := (mkF m 2 #[.val (.int x0), .val (.int x1), .val (.int x2), .unset, .unset, .unset] [(.int (35 : Int32))])) rfl (hb hby at_2) rfl (by decide) (cap := 35) (by decide) (by decide) (by decide) (by decide)
  obtain ⟨b1, g1⟩ : ∃ z, z = h0.size := ⟨_, rfl⟩
  rw [← g1] at A1 st1
  have V1 : own_VA Z h1 b1 .int 35 (fun _ => (.int (0 : Int32))) := own_VA_new A1 (by decide) (by decide) rfl
  have qb1 : n0 ≤ b1 := Nat.le_trans Z0 (Nat.le_of_eq g1.symm)
  have Z1 : n0 ≤ h1.size := Nat.le_trans Z0 E1.1
  refine own_back (fun t k => st1 t k) ?_
  show own_Go _ _ _ _ _ _ _ (T1.setTop (mkF m 4 #[.val (.int x0), .val (.int x1), .val (.int x2), .unset, .unset, .unset] [(.ref b1)]))
  refine own_back (fun t k => XS.dup X1.here hx rfl (hb hby at_4) rfl rfl k) ?_
  show own_Go _ _ _ _ _ _ _ (T1.setTop (mkF m 5 #[.val (.int x0), .val (.int x1), .val (.int x2), .unset, .unset, .unset] [(.ref b1), (.ref b1)]))
  refine own_back (fun t k => XS.iconst X1.here hx rfl (hb hby at_5) k) ?_
  show own_Go _ _ _ _ _ _ _ (T1.setTop (mkF m 6 #[.val (.int x0), .val (.int x1), .val (.int x2), .unset, .unset, .unset] [(.int (0 : Int32)), (.ref b1), (.ref b1)]))
  refine own_back (fun t k => XS.iconst X1.here hx rfl (hb hby at_6) k) ?_
  show own_Go _ _ _ _ _ _ _ (T1.setTop (mkF m 7 #[.val (.int x0), .val (.int x1), .val (.int x2), .unset, .unset, .unset] [(.int (0 : Int32)), (.int (0 : Int32)), (.ref b1), (.ref b1)]))
  obtain ⟨T2, h2, X2, e2, W2, V2, st2⟩ := own_stF X1 hx hZ e1 V1 0 (by decide) (by decide) (g := (mkF m 7 #[.val (.int x0), .val (.int x1), .val (.int x2), .unset, .unset, .unset] [(.int (0 : Int32)), (.int (0 : Int32)), (.ref b1), (.ref b1)])) rfl rfl (hb hby at_7)
  have N2 := Fr.snoc X2 N qb1
  have Z2 : n0 ≤ h2.size := Nat.le_trans Z1 (Keep.of_wr W2).1
  refine own_back (fun t k => st2 t k) ?_
  show own_Go _ _ _ _ _ _ _ (T2.setTop (mkF m 8 #[.val (.int x0), .val (.int x1), .val (.int x2), .unset, .unset, .unset] [(.ref b1)]))
  refine own_back (fun t k => XS.dup X2.here hx rfl (hb hby at_8) rfl rfl k) ?_
  show own_Go _ _ _ _ _ _ _ (T2.setTop (mkF m 9 #[.val (.int x0), .val (.int x1), .val (.int x2), .unset, .unset, .unset] [(.ref b1), (.ref b1)]))
  refine own_back (fun t k => XS.iconst X2.here hx rfl (hb hby at_9) k) ?_
  show own_Go _ _ _ _ _ _ _ (T2.setTop (mkF m 10 #[.val (.int x0), .val (.int x1), .val (.int x2), .unset, .unset, .unset] [(.int (1 : Int32)), (.ref b1), (.ref b1)]))
  refine own_back (fun t k => XS.bipush X2.here hx rfl (hb hby at_10) k) ?_
  show own_Go _ _ _ _ _ _ _ (T2.setTop (mkF m 12 #[.val (.int x0), .val (.int x1), .val (.int x2), .unset, .unset, .unset] [(.int (58 : Int32)), (.int (1 : Int32)), (.ref b1), (.ref b1)]))
  obtain ⟨T3, h3, X3, e3, W3, V3, st3⟩ := own_stF X2 hx hZ e2 V2 1 (by decide) (by decide) (g := (mkF m 12 #[.val (.int x0), .val (.int x1), .val (.int x2), .unset, .unset, .unset] [(.int (58 : Int32)), (.int (1 : Int32)), (.ref b1), (.ref b1)])) rfl rfl (hb hby at_12)
  have N3 := Fr.snoc X3 N2 qb1
  have Z3 : n0 ≤ h3.size := Nat.le_trans Z2 (Keep.of_wr W3).1
  refine own_back (fun t k => st3 t k) ?_
  show own_Go _ _ _ _ _ _ _ (T3.setTop (mkF m 13 #[.val (.int x0), .val (.int x1), .val (.int x2), .unset, .unset, .unset] [(.ref b1)]))
  refine own_back (fun t k => XS.dup X3.here hx rfl (hb hby at_13) rfl rfl k) ?_
  show own_Go _ _ _ _ _ _ _ (T3.setTop (mkF m 14 #[.val (.int x0), .val (.int x1), .val (.int x2), .unset, .unset, .unset] [(.ref b1), (.ref b1)]))
  refine own_back (fun t k => XS.iconst X3.here hx rfl (hb hby at_14) k) ?_
  show own_Go _ _ _ _ _ _ _ (T3.setTop (mkF m 15 #[.val (.int x0), .val (.int x1), .val (.int x2), .unset, .unset, .unset] [(.int (2 : Int32)), (.ref b1), (.ref b1)]))
  refine own_back (fun t k => XS.bipush X3.here hx rfl (hb hby at_15) k) ?_
  show own_Go _ _ _ _ _ _ _ (T3.setTop (mkF m 17 #[.val (.int x0), .val (.int x1), .val (.int x2), .unset, .unset, .unset] [(.int (59 : Int32)), (.int (2 : Int32)), (.ref b1), (.ref b1)]))
  obtain ⟨T4, h4, X4, e4, W4, V4, st4⟩ := own_stF X3 hx hZ e3 V3 2 (by decide) (by decide) (g := (mkF m 17 #[.val (.int x0), .val (.int x1), .val (.int x2), .unset, .unset, .unset] [(.int (59 : Int32)), (.int (2 : Int32)), (.ref b1), (.ref b1)])) rfl rfl (hb hby at_17)
  have N4 := Fr.snoc X4 N3 qb1
  have Z4 : n0 ≤ h4.size := Nat.le_trans Z3 (Keep.of_wr W4).1
  refine own_back (fun t k => st4 t k) ?_
  show own_Go _ _ _ _ _ _ _ (T4.setTop (mkF m 18 #[.val (.int x0), .val (.int x1), .val (.int x2), .unset, .unset, .unset] [(.ref b1)]))
  refine own_back (fun t k => XS.dup X4.here hx rfl (hb hby at_18) rfl rfl k) ?_
  show own_Go _ _ _ _ _ _ _ (T4.setTop (mkF m 19 #[.val (.int x0), .val (.int x1), .val (.int x2), .unset, .unset, .unset] [(.ref b1), (.ref b1)]))
  refine own_back (fun t k => XS.iconst X4.here hx rfl (hb hby at_19) k) ?_
  show own_Go _ _ _ _ _ _ _ (T4.setTop (mkF m 20 #[.val (.int x0), .val (.int x1), .val (.int x2), .unset, .unset, .unset] [(.int (3 : Int32)), (.ref b1), (.ref b1)]))
  refine own_back (fun t k => XS.bipush X4.here hx rfl (hb hby at_20) k) ?_
  show own_Go _ _ _ _ _ _ _ (T4.setTop (mkF m 22 #[.val (.int x0), .val (.int x1), .val (.int x2), .unset, .unset, .unset] [(.int (65 : Int32)), (.int (3 : Int32)), (.ref b1), (.ref b1)]))
  obtain ⟨T5, h5, X5, e5, W5, V5, st5⟩ := own_stF X4 hx hZ e4 V4 3 (by decide) (by decide) (g := (mkF m 22 #[.val (.int x0), .val (.int x1), .val (.int x2), .unset, .unset, .unset] [(.int (65 : Int32)), (.int (3 : Int32)), (.ref b1), (.ref b1)])) rfl rfl (hb hby at_22)
  have N5 := Fr.snoc X5 N4 qb1
  have Z5 : n0 ≤ h5.size := Nat.le_trans Z4 (Keep.of_wr W5).1
  refine own_back (fun t k => st5 t k) ?_
  show own_Go _ _ _ _ _ _ _ (T5.setTop (mkF m 23 #[.val (.int x0), .val (.int x1), .val (.int x2), .unset, .unset, .unset] [(.ref b1)]))
  refine own_back (fun t k => XS.dup X5.here hx rfl (hb hby at_23) rfl rfl k) ?_
  show own_Go _ _ _ _ _ _ _ (T5.setTop (mkF m 24 #[.val (.int x0), .val (.int x1), .val (.int x2), .unset, .unset, .unset] [(.ref b1), (.ref b1)]))
  refine own_back (fun t k => XS.iconst X5.here hx rfl (hb hby at_24) k) ?_
  show own_Go _ _ _ _ _ _ _ (T5.setTop (mkF m 25 #[.val (.int x0), .val (.int x1), .val (.int x2), .unset, .unset, .unset] [(.int (4 : Int32)), (.ref b1), (.ref b1)]))
  refine own_back (fun t k => XS.bipush X5.here hx rfl (hb hby at_25) k) ?_
  show own_Go _ _ _ _ _ _ _ (T5.setTop (mkF m 27 #[.val (.int x0), .val (.int x1), .val (.int x2), .unset, .unset, .unset] [(.int (91 : Int32)), (.int (4 : Int32)), (.ref b1), (.ref b1)]))
  obtain ⟨T6, h6, X6, e6, W6, V6, st6⟩ := own_stF X5 hx hZ e5 V5 4 (by decide) (by decide) (g := (mkF m 27 #[.val (.int x0), .val (.int x1), .val (.int x2), .unset, .unset, .unset] [(.int (91 : Int32)), (.int (4 : Int32)), (.ref b1), (.ref b1)])) rfl rfl (hb hby at_27)
  have N6 := Fr.snoc X6 N5 qb1
  have Z6 : n0 ≤ h6.size := Nat.le_trans Z5 (Keep.of_wr W6).1
  refine own_back (fun t k => st6 t k) ?_
  show own_Go _ _ _ _ _ _ _ (T6.setTop (mkF m 28 #[.val (.int x0), .val (.int x1), .val (.int x2), .unset, .unset, .unset] [(.ref b1)]))
  exact own_l0_28 X6 hx hZ hw hby hml hown hret hlk e6 N6 Z6 (own_put (own_put (own_put (own_put (own_put (fun _ => (0 : Int32)) 0 (0 : Int32)) 1 (58 : Int32)) 2 (59 : Int32)) 3 (65 : Int32)) 4 (91 : Int32)) x0 x1 x2 b1 hR V6 qb1
theorem own_pn0 : plainName "com/example/sleyreed/sleyreed/xpath/XmlNamesIsNameStartCharPinLaw" = true := by first | (simp [plainName, overriddenIn]; done) | decide +kernel
theorem own_ef0 (m : MethodId) (x0 : Int32) (x1 : Int32) (x2 : Int32) : entryFrame m #[(.int x0), (.int x1), (.int x2)] maxLocals = mkF m 0 #[.val (.int x0), .val (.int x1), .val (.int x2), .unset, .unset, .unset] [] := by first | (simp [entryFrame, mkF, argsToLocals, Value.category, maxLocals]; done) | rfl
set_option maxRecDepth 65536 in
set_option maxHeartbeats 4000000 in
theorem own_rm0 (l : Launch) (Z : State) (a0 : Array Value) (hw : ∀ d ∈ tables_1, d.before a0 Z = true) (ws : List Jvm.Cond) (x0 : Int32) (x1 : Int32) (x2 : Int32) (h0 : Heap) (n0 : Nat) (Z0 : n0 ≤ h0.size) :
    MetFree l x (head1 (Jvm.Cond.code x code maxLocals ret :: ws) room_1) (fun a U => a = #[(.int x0), (.int x1), (.int x2)] ∧ Z.Warmed39 U.vm ∧ U.heap = h0) (fun _ _ _ _ _ => True) (fun _ U o U' => ∃ v L, o = .returned v ∧ own_QG (.int (own_f0_0 x0 x1 x2)) h0 n0 v U'.heap L ∧ FrameEnd U o U' L room_1.cells room_1.slots) := by
  refine MetFree.of_bodySF (plainFor_of_name own_pn0) hisR ?_
  intro p e s m args below meth c s₁ Bd hml0 hP hK
  obtain ⟨rfl, hZ, hh⟩ := hP
  have X0 : Stand p l e room_1 s m #[(.int x0), (.int x1), (.int x2)] below meth c s₁ [] 0 0 := Stand.of_body Bd
  have e0 : s₁.heap = h0 := by rw [← hh, Bd.state]; rfl
  refine own_back (s := s) (fun t k => castTop (own_ef0 m x0 x1 x2) k) ?_
  exact own_l0_0 X0 Bd.exec hZ hw Bd.bytes hml0 (findClass_of_methodNamed Bd.named) Bd.returns (BodyLoose.notSynchronized Bd) e0 (Fr.nil n0) Z0 x0 x1 x2 rfl
theorem own_lo65 (x : Int32) : (x < (65 : Int32)) = (x.toInt < 65) := propext own_lt
theorem own_lo97 (x : Int32) : (x < (97 : Int32)) = (x.toInt < 97) := propext own_lt
theorem own_lo128 (x : Int32) : (x < (128 : Int32)) = (x.toInt < 128) := propext own_lt
theorem own_lo192 (x : Int32) : (x < (192 : Int32)) = (x.toInt < 192) := propext own_lt
theorem own_lo216 (x : Int32) : (x < (216 : Int32)) = (x.toInt < 216) := propext own_lt
theorem own_lo248 (x : Int32) : (x < (248 : Int32)) = (x.toInt < 248) := propext own_lt
theorem own_lo768 (x : Int32) : (x < (768 : Int32)) = (x.toInt < 768) := propext own_lt
theorem own_lo880 (x : Int32) : (x < (880 : Int32)) = (x.toInt < 880) := propext own_lt
theorem own_lo895 (x : Int32) : (x < (895 : Int32)) = (x.toInt < 895) := propext own_lt
theorem own_lo8192 (x : Int32) : (x < (8192 : Int32)) = (x.toInt < 8192) := propext own_lt
theorem own_lo8204 (x : Int32) : (x < (8204 : Int32)) = (x.toInt < 8204) := propext own_lt
theorem own_lo8206 (x : Int32) : (x < (8206 : Int32)) = (x.toInt < 8206) := propext own_lt
theorem own_lo8304 (x : Int32) : (x < (8304 : Int32)) = (x.toInt < 8304) := propext own_lt
theorem own_lo8592 (x : Int32) : (x < (8592 : Int32)) = (x.toInt < 8592) := propext own_lt
theorem own_lo11264 (x : Int32) : (x < (11264 : Int32)) = (x.toInt < 11264) := propext own_lt
theorem own_lo12272 (x : Int32) : (x < (12272 : Int32)) = (x.toInt < 12272) := propext own_lt
theorem own_lo12289 (x : Int32) : (x < (12289 : Int32)) = (x.toInt < 12289) := propext own_lt
theorem own_lo55296 (x : Int32) : (x < (55296 : Int32)) = (x.toInt < 55296) := propext own_lt
theorem own_lo63744 (x : Int32) : (x < (63744 : Int32)) = (x.toInt < 63744) := propext own_lt
theorem own_lo64976 (x : Int32) : (x < (64976 : Int32)) = (x.toInt < 64976) := propext own_lt
theorem own_lo65008 (x : Int32) : (x < (65008 : Int32)) = (x.toInt < 65008) := propext own_lt
theorem own_lo65534 (x : Int32) : (x < (65534 : Int32)) = (x.toInt < 65534) := propext own_lt
theorem own_lo65536 (x : Int32) : (x < (65536 : Int32)) = (x.toInt < 65536) := propext own_lt
theorem own_hi90 (x : Int32) : ((90 : Int32) < x) = (90 < x.toInt) := propext own_lt
theorem own_hi122 (x : Int32) : ((122 : Int32) < x) = (122 < x.toInt) := propext own_lt
theorem own_hi191 (x : Int32) : ((191 : Int32) < x) = (191 < x.toInt) := propext own_lt
theorem own_hi214 (x : Int32) : ((214 : Int32) < x) = (214 < x.toInt) := propext own_lt
theorem own_hi246 (x : Int32) : ((246 : Int32) < x) = (246 < x.toInt) := propext own_lt
theorem own_hi767 (x : Int32) : ((767 : Int32) < x) = (767 < x.toInt) := propext own_lt
theorem own_hi879 (x : Int32) : ((879 : Int32) < x) = (879 < x.toInt) := propext own_lt
theorem own_hi893 (x : Int32) : ((893 : Int32) < x) = (893 < x.toInt) := propext own_lt
theorem own_hi8191 (x : Int32) : ((8191 : Int32) < x) = (8191 < x.toInt) := propext own_lt
theorem own_hi8203 (x : Int32) : ((8203 : Int32) < x) = (8203 < x.toInt) := propext own_lt
theorem own_hi8205 (x : Int32) : ((8205 : Int32) < x) = (8205 < x.toInt) := propext own_lt
theorem own_hi8303 (x : Int32) : ((8303 : Int32) < x) = (8303 < x.toInt) := propext own_lt
theorem own_hi8591 (x : Int32) : ((8591 : Int32) < x) = (8591 < x.toInt) := propext own_lt
theorem own_hi11263 (x : Int32) : ((11263 : Int32) < x) = (11263 < x.toInt) := propext own_lt
theorem own_hi12271 (x : Int32) : ((12271 : Int32) < x) = (12271 < x.toInt) := propext own_lt
theorem own_hi12288 (x : Int32) : ((12288 : Int32) < x) = (12288 < x.toInt) := propext own_lt
theorem own_hi55295 (x : Int32) : ((55295 : Int32) < x) = (55295 < x.toInt) := propext own_lt
theorem own_hi63743 (x : Int32) : ((63743 : Int32) < x) = (63743 < x.toInt) := propext own_lt
theorem own_hi64975 (x : Int32) : ((64975 : Int32) < x) = (64975 < x.toInt) := propext own_lt
theorem own_hi65007 (x : Int32) : ((65007 : Int32) < x) = (65007 < x.toInt) := propext own_lt
theorem own_hi65533 (x : Int32) : ((65533 : Int32) < x) = (65533 < x.toInt) := propext own_lt
theorem own_hi65535 (x : Int32) : ((65535 : Int32) < x) = (65535 < x.toInt) := propext own_lt
theorem own_hi983039 (x : Int32) : ((983039 : Int32) < x) = (983039 < x.toInt) := propext own_lt
theorem own_eq58 (x : Int32) : (x = (58 : Int32)) = (x.toInt = 58) := propext ⟨fun q => by rw [q]; rfl, fun q => Int32.toInt_inj.mp (by rw [q]; rfl)⟩
theorem own_eq95 (x : Int32) : (x = (95 : Int32)) = (x.toInt = 95) := propext ⟨fun q => by rw [q]; rfl, fun q => Int32.toInt_inj.mp (by rw [q]; rfl)⟩
theorem own_eq215 (x : Int32) : (x = (215 : Int32)) = (x.toInt = 215) := propext ⟨fun q => by rw [q]; rfl, fun q => Int32.toInt_inj.mp (by rw [q]; rfl)⟩
theorem own_eq247 (x : Int32) : (x = (247 : Int32)) = (x.toInt = 247) := propext ⟨fun q => by rw [q]; rfl, fun q => Int32.toInt_inj.mp (by rw [q]; rfl)⟩
theorem own_eq894 (x : Int32) : (x = (894 : Int32)) = (x.toInt = 894) := propext ⟨fun q => by rw [q]; rfl, fun q => Int32.toInt_inj.mp (by rw [q]; rfl)⟩
theorem own_10 : ((1 : Int32) = 0) = False := by decide
theorem own_00 : ((0 : Int32) = 0) = True := by decide
theorem own_iv0 (x : Int32) (h2 : x.toInt < 58) : own_f1_0 x = own_f2_0 x := by
  have l65 : (x.toInt < 65) = True := eq_true (by omega)
  have l97 : (x.toInt < 97) = True := eq_true (by omega)
  have l128 : (x.toInt < 128) = True := eq_true (by omega)
  have l192 : (x.toInt < 192) = True := eq_true (by omega)
  have l216 : (x.toInt < 216) = True := eq_true (by omega)
  have l248 : (x.toInt < 248) = True := eq_true (by omega)
  have l768 : (x.toInt < 768) = True := eq_true (by omega)
  have l880 : (x.toInt < 880) = True := eq_true (by omega)
  have l895 : (x.toInt < 895) = True := eq_true (by omega)
  have l8192 : (x.toInt < 8192) = True := eq_true (by omega)
  have l8204 : (x.toInt < 8204) = True := eq_true (by omega)
  have l8206 : (x.toInt < 8206) = True := eq_true (by omega)
  have l8304 : (x.toInt < 8304) = True := eq_true (by omega)
  have l8592 : (x.toInt < 8592) = True := eq_true (by omega)
  have l11264 : (x.toInt < 11264) = True := eq_true (by omega)
  have l12272 : (x.toInt < 12272) = True := eq_true (by omega)
  have l12289 : (x.toInt < 12289) = True := eq_true (by omega)
  have l55296 : (x.toInt < 55296) = True := eq_true (by omega)
  have l63744 : (x.toInt < 63744) = True := eq_true (by omega)
  have l64976 : (x.toInt < 64976) = True := eq_true (by omega)
  have l65008 : (x.toInt < 65008) = True := eq_true (by omega)
  have l65534 : (x.toInt < 65534) = True := eq_true (by omega)
  have l65536 : (x.toInt < 65536) = True := eq_true (by omega)
  have u90 : (90 < x.toInt) = False := eq_false (by omega)
  have u122 : (122 < x.toInt) = False := eq_false (by omega)
  have u191 : (191 < x.toInt) = False := eq_false (by omega)
  have u214 : (214 < x.toInt) = False := eq_false (by omega)
  have u246 : (246 < x.toInt) = False := eq_false (by omega)
  have u767 : (767 < x.toInt) = False := eq_false (by omega)
  have u879 : (879 < x.toInt) = False := eq_false (by omega)
  have u893 : (893 < x.toInt) = False := eq_false (by omega)
  have u8191 : (8191 < x.toInt) = False := eq_false (by omega)
  have u8203 : (8203 < x.toInt) = False := eq_false (by omega)
  have u8205 : (8205 < x.toInt) = False := eq_false (by omega)
  have u8303 : (8303 < x.toInt) = False := eq_false (by omega)
  have u8591 : (8591 < x.toInt) = False := eq_false (by omega)
  have u11263 : (11263 < x.toInt) = False := eq_false (by omega)
  have u12271 : (12271 < x.toInt) = False := eq_false (by omega)
  have u12288 : (12288 < x.toInt) = False := eq_false (by omega)
  have u55295 : (55295 < x.toInt) = False := eq_false (by omega)
  have u63743 : (63743 < x.toInt) = False := eq_false (by omega)
  have u64975 : (64975 < x.toInt) = False := eq_false (by omega)
  have u65007 : (65007 < x.toInt) = False := eq_false (by omega)
  have u65533 : (65533 < x.toInt) = False := eq_false (by omega)
  have u65535 : (65535 < x.toInt) = False := eq_false (by omega)
  have u983039 : (983039 < x.toInt) = False := eq_false (by omega)
  have q58 : (x.toInt = 58) = False := eq_false (by omega)
  have q95 : (x.toInt = 95) = False := eq_false (by omega)
  have q215 : (x.toInt = 215) = False := eq_false (by omega)
  have q247 : (x.toInt = 247) = False := eq_false (by omega)
  have q894 : (x.toInt = 894) = False := eq_false (by omega)
  simp only [own_f1_198, own_f1_186, own_f1_174, own_f1_161, own_f1_147, own_f1_133, own_f1_119, own_f1_105, own_f1_91, own_f1_77, own_f1_63, own_f1_31, own_f1_19, own_f1_0, own_f2_192, own_f2_187, own_f2_0, own_f3_0, own_10, own_00, own_lo65, own_lo97, own_lo128, own_lo192, own_lo216, own_lo248, own_lo768, own_lo880, own_lo895, own_lo8192, own_lo8204, own_lo8206, own_lo8304, own_lo8592, own_lo11264, own_lo12272, own_lo12289, own_lo55296, own_lo63744, own_lo64976, own_lo65008, own_lo65534, own_lo65536, own_hi90, own_hi122, own_hi191, own_hi214, own_hi246, own_hi767, own_hi879, own_hi893, own_hi8191, own_hi8203, own_hi8205, own_hi8303, own_hi8591, own_hi11263, own_hi12271, own_hi12288, own_hi55295, own_hi63743, own_hi64975, own_hi65007, own_hi65533, own_hi65535, own_hi983039, own_eq58, own_eq95, own_eq215, own_eq247, own_eq894, l65, l97, l128, l192, l216, l248, l768, l880, l895, l8192, l8204, l8206, l8304, l8592, l11264, l12272, l12289, l55296, l63744, l64976, l65008, l65534, l65536, u90, u122, u191, u214, u246, u767, u879, u893, u8191, u8203, u8205, u8303, u8591, u11263, u12271, u12288, u55295, u63743, u64975, u65007, u65533, u65535, u983039, q58, q95, q215, q247, q894, if_true, if_false]
theorem own_iv1 (x : Int32) (h1 : 58 ≤ x.toInt) (h2 : x.toInt < 59) : own_f1_0 x = own_f2_0 x := by
  have l65 : (x.toInt < 65) = True := eq_true (by omega)
  have l97 : (x.toInt < 97) = True := eq_true (by omega)
  have l128 : (x.toInt < 128) = True := eq_true (by omega)
  have l192 : (x.toInt < 192) = True := eq_true (by omega)
  have l216 : (x.toInt < 216) = True := eq_true (by omega)
  have l248 : (x.toInt < 248) = True := eq_true (by omega)
  have l768 : (x.toInt < 768) = True := eq_true (by omega)
  have l880 : (x.toInt < 880) = True := eq_true (by omega)
  have l895 : (x.toInt < 895) = True := eq_true (by omega)
  have l8192 : (x.toInt < 8192) = True := eq_true (by omega)
  have l8204 : (x.toInt < 8204) = True := eq_true (by omega)
  have l8206 : (x.toInt < 8206) = True := eq_true (by omega)
  have l8304 : (x.toInt < 8304) = True := eq_true (by omega)
  have l8592 : (x.toInt < 8592) = True := eq_true (by omega)
  have l11264 : (x.toInt < 11264) = True := eq_true (by omega)
  have l12272 : (x.toInt < 12272) = True := eq_true (by omega)
  have l12289 : (x.toInt < 12289) = True := eq_true (by omega)
  have l55296 : (x.toInt < 55296) = True := eq_true (by omega)
  have l63744 : (x.toInt < 63744) = True := eq_true (by omega)
  have l64976 : (x.toInt < 64976) = True := eq_true (by omega)
  have l65008 : (x.toInt < 65008) = True := eq_true (by omega)
  have l65534 : (x.toInt < 65534) = True := eq_true (by omega)
  have l65536 : (x.toInt < 65536) = True := eq_true (by omega)
  have u90 : (90 < x.toInt) = False := eq_false (by omega)
  have u122 : (122 < x.toInt) = False := eq_false (by omega)
  have u191 : (191 < x.toInt) = False := eq_false (by omega)
  have u214 : (214 < x.toInt) = False := eq_false (by omega)
  have u246 : (246 < x.toInt) = False := eq_false (by omega)
  have u767 : (767 < x.toInt) = False := eq_false (by omega)
  have u879 : (879 < x.toInt) = False := eq_false (by omega)
  have u893 : (893 < x.toInt) = False := eq_false (by omega)
  have u8191 : (8191 < x.toInt) = False := eq_false (by omega)
  have u8203 : (8203 < x.toInt) = False := eq_false (by omega)
  have u8205 : (8205 < x.toInt) = False := eq_false (by omega)
  have u8303 : (8303 < x.toInt) = False := eq_false (by omega)
  have u8591 : (8591 < x.toInt) = False := eq_false (by omega)
  have u11263 : (11263 < x.toInt) = False := eq_false (by omega)
  have u12271 : (12271 < x.toInt) = False := eq_false (by omega)
  have u12288 : (12288 < x.toInt) = False := eq_false (by omega)
  have u55295 : (55295 < x.toInt) = False := eq_false (by omega)
  have u63743 : (63743 < x.toInt) = False := eq_false (by omega)
  have u64975 : (64975 < x.toInt) = False := eq_false (by omega)
  have u65007 : (65007 < x.toInt) = False := eq_false (by omega)
  have u65533 : (65533 < x.toInt) = False := eq_false (by omega)
  have u65535 : (65535 < x.toInt) = False := eq_false (by omega)
  have u983039 : (983039 < x.toInt) = False := eq_false (by omega)
  have q58 : (x.toInt = 58) = True := eq_true (by omega)
  have q95 : (x.toInt = 95) = False := eq_false (by omega)
  have q215 : (x.toInt = 215) = False := eq_false (by omega)
  have q247 : (x.toInt = 247) = False := eq_false (by omega)
  have q894 : (x.toInt = 894) = False := eq_false (by omega)
  simp only [own_f1_198, own_f1_186, own_f1_174, own_f1_161, own_f1_147, own_f1_133, own_f1_119, own_f1_105, own_f1_91, own_f1_77, own_f1_63, own_f1_31, own_f1_19, own_f1_0, own_f2_192, own_f2_187, own_f2_0, own_f3_0, own_10, own_00, own_lo65, own_lo97, own_lo128, own_lo192, own_lo216, own_lo248, own_lo768, own_lo880, own_lo895, own_lo8192, own_lo8204, own_lo8206, own_lo8304, own_lo8592, own_lo11264, own_lo12272, own_lo12289, own_lo55296, own_lo63744, own_lo64976, own_lo65008, own_lo65534, own_lo65536, own_hi90, own_hi122, own_hi191, own_hi214, own_hi246, own_hi767, own_hi879, own_hi893, own_hi8191, own_hi8203, own_hi8205, own_hi8303, own_hi8591, own_hi11263, own_hi12271, own_hi12288, own_hi55295, own_hi63743, own_hi64975, own_hi65007, own_hi65533, own_hi65535, own_hi983039, own_eq58, own_eq95, own_eq215, own_eq247, own_eq894, l65, l97, l128, l192, l216, l248, l768, l880, l895, l8192, l8204, l8206, l8304, l8592, l11264, l12272, l12289, l55296, l63744, l64976, l65008, l65534, l65536, u90, u122, u191, u214, u246, u767, u879, u893, u8191, u8203, u8205, u8303, u8591, u11263, u12271, u12288, u55295, u63743, u64975, u65007, u65533, u65535, u983039, q58, q95, q215, q247, q894, if_true, if_false]
theorem own_iv2 (x : Int32) (h1 : 59 ≤ x.toInt) (h2 : x.toInt < 65) : own_f1_0 x = own_f2_0 x := by
  have l65 : (x.toInt < 65) = True := eq_true (by omega)
  have l97 : (x.toInt < 97) = True := eq_true (by omega)
  have l128 : (x.toInt < 128) = True := eq_true (by omega)
  have l192 : (x.toInt < 192) = True := eq_true (by omega)
  have l216 : (x.toInt < 216) = True := eq_true (by omega)
  have l248 : (x.toInt < 248) = True := eq_true (by omega)
  have l768 : (x.toInt < 768) = True := eq_true (by omega)
  have l880 : (x.toInt < 880) = True := eq_true (by omega)
  have l895 : (x.toInt < 895) = True := eq_true (by omega)
  have l8192 : (x.toInt < 8192) = True := eq_true (by omega)
  have l8204 : (x.toInt < 8204) = True := eq_true (by omega)
  have l8206 : (x.toInt < 8206) = True := eq_true (by omega)
  have l8304 : (x.toInt < 8304) = True := eq_true (by omega)
  have l8592 : (x.toInt < 8592) = True := eq_true (by omega)
  have l11264 : (x.toInt < 11264) = True := eq_true (by omega)
  have l12272 : (x.toInt < 12272) = True := eq_true (by omega)
  have l12289 : (x.toInt < 12289) = True := eq_true (by omega)
  have l55296 : (x.toInt < 55296) = True := eq_true (by omega)
  have l63744 : (x.toInt < 63744) = True := eq_true (by omega)
  have l64976 : (x.toInt < 64976) = True := eq_true (by omega)
  have l65008 : (x.toInt < 65008) = True := eq_true (by omega)
  have l65534 : (x.toInt < 65534) = True := eq_true (by omega)
  have l65536 : (x.toInt < 65536) = True := eq_true (by omega)
  have u90 : (90 < x.toInt) = False := eq_false (by omega)
  have u122 : (122 < x.toInt) = False := eq_false (by omega)
  have u191 : (191 < x.toInt) = False := eq_false (by omega)
  have u214 : (214 < x.toInt) = False := eq_false (by omega)
  have u246 : (246 < x.toInt) = False := eq_false (by omega)
  have u767 : (767 < x.toInt) = False := eq_false (by omega)
  have u879 : (879 < x.toInt) = False := eq_false (by omega)
  have u893 : (893 < x.toInt) = False := eq_false (by omega)
  have u8191 : (8191 < x.toInt) = False := eq_false (by omega)
  have u8203 : (8203 < x.toInt) = False := eq_false (by omega)
  have u8205 : (8205 < x.toInt) = False := eq_false (by omega)
  have u8303 : (8303 < x.toInt) = False := eq_false (by omega)
  have u8591 : (8591 < x.toInt) = False := eq_false (by omega)
  have u11263 : (11263 < x.toInt) = False := eq_false (by omega)
  have u12271 : (12271 < x.toInt) = False := eq_false (by omega)
  have u12288 : (12288 < x.toInt) = False := eq_false (by omega)
  have u55295 : (55295 < x.toInt) = False := eq_false (by omega)
  have u63743 : (63743 < x.toInt) = False := eq_false (by omega)
  have u64975 : (64975 < x.toInt) = False := eq_false (by omega)
  have u65007 : (65007 < x.toInt) = False := eq_false (by omega)
  have u65533 : (65533 < x.toInt) = False := eq_false (by omega)
  have u65535 : (65535 < x.toInt) = False := eq_false (by omega)
  have u983039 : (983039 < x.toInt) = False := eq_false (by omega)
  have q58 : (x.toInt = 58) = False := eq_false (by omega)
  have q95 : (x.toInt = 95) = False := eq_false (by omega)
  have q215 : (x.toInt = 215) = False := eq_false (by omega)
  have q247 : (x.toInt = 247) = False := eq_false (by omega)
  have q894 : (x.toInt = 894) = False := eq_false (by omega)
  simp only [own_f1_198, own_f1_186, own_f1_174, own_f1_161, own_f1_147, own_f1_133, own_f1_119, own_f1_105, own_f1_91, own_f1_77, own_f1_63, own_f1_31, own_f1_19, own_f1_0, own_f2_192, own_f2_187, own_f2_0, own_f3_0, own_10, own_00, own_lo65, own_lo97, own_lo128, own_lo192, own_lo216, own_lo248, own_lo768, own_lo880, own_lo895, own_lo8192, own_lo8204, own_lo8206, own_lo8304, own_lo8592, own_lo11264, own_lo12272, own_lo12289, own_lo55296, own_lo63744, own_lo64976, own_lo65008, own_lo65534, own_lo65536, own_hi90, own_hi122, own_hi191, own_hi214, own_hi246, own_hi767, own_hi879, own_hi893, own_hi8191, own_hi8203, own_hi8205, own_hi8303, own_hi8591, own_hi11263, own_hi12271, own_hi12288, own_hi55295, own_hi63743, own_hi64975, own_hi65007, own_hi65533, own_hi65535, own_hi983039, own_eq58, own_eq95, own_eq215, own_eq247, own_eq894, l65, l97, l128, l192, l216, l248, l768, l880, l895, l8192, l8204, l8206, l8304, l8592, l11264, l12272, l12289, l55296, l63744, l64976, l65008, l65534, l65536, u90, u122, u191, u214, u246, u767, u879, u893, u8191, u8203, u8205, u8303, u8591, u11263, u12271, u12288, u55295, u63743, u64975, u65007, u65533, u65535, u983039, q58, q95, q215, q247, q894, if_true, if_false]
theorem own_iv3 (x : Int32) (h1 : 65 ≤ x.toInt) (h2 : x.toInt < 91) : own_f1_0 x = own_f2_0 x := by
  have l65 : (x.toInt < 65) = False := eq_false (by omega)
  have l97 : (x.toInt < 97) = True := eq_true (by omega)
  have l128 : (x.toInt < 128) = True := eq_true (by omega)
  have l192 : (x.toInt < 192) = True := eq_true (by omega)
  have l216 : (x.toInt < 216) = True := eq_true (by omega)
  have l248 : (x.toInt < 248) = True := eq_true (by omega)
  have l768 : (x.toInt < 768) = True := eq_true (by omega)
  have l880 : (x.toInt < 880) = True := eq_true (by omega)
  have l895 : (x.toInt < 895) = True := eq_true (by omega)
  have l8192 : (x.toInt < 8192) = True := eq_true (by omega)
  have l8204 : (x.toInt < 8204) = True := eq_true (by omega)
  have l8206 : (x.toInt < 8206) = True := eq_true (by omega)
  have l8304 : (x.toInt < 8304) = True := eq_true (by omega)
  have l8592 : (x.toInt < 8592) = True := eq_true (by omega)
  have l11264 : (x.toInt < 11264) = True := eq_true (by omega)
  have l12272 : (x.toInt < 12272) = True := eq_true (by omega)
  have l12289 : (x.toInt < 12289) = True := eq_true (by omega)
  have l55296 : (x.toInt < 55296) = True := eq_true (by omega)
  have l63744 : (x.toInt < 63744) = True := eq_true (by omega)
  have l64976 : (x.toInt < 64976) = True := eq_true (by omega)
  have l65008 : (x.toInt < 65008) = True := eq_true (by omega)
  have l65534 : (x.toInt < 65534) = True := eq_true (by omega)
  have l65536 : (x.toInt < 65536) = True := eq_true (by omega)
  have u90 : (90 < x.toInt) = False := eq_false (by omega)
  have u122 : (122 < x.toInt) = False := eq_false (by omega)
  have u191 : (191 < x.toInt) = False := eq_false (by omega)
  have u214 : (214 < x.toInt) = False := eq_false (by omega)
  have u246 : (246 < x.toInt) = False := eq_false (by omega)
  have u767 : (767 < x.toInt) = False := eq_false (by omega)
  have u879 : (879 < x.toInt) = False := eq_false (by omega)
  have u893 : (893 < x.toInt) = False := eq_false (by omega)
  have u8191 : (8191 < x.toInt) = False := eq_false (by omega)
  have u8203 : (8203 < x.toInt) = False := eq_false (by omega)
  have u8205 : (8205 < x.toInt) = False := eq_false (by omega)
  have u8303 : (8303 < x.toInt) = False := eq_false (by omega)
  have u8591 : (8591 < x.toInt) = False := eq_false (by omega)
  have u11263 : (11263 < x.toInt) = False := eq_false (by omega)
  have u12271 : (12271 < x.toInt) = False := eq_false (by omega)
  have u12288 : (12288 < x.toInt) = False := eq_false (by omega)
  have u55295 : (55295 < x.toInt) = False := eq_false (by omega)
  have u63743 : (63743 < x.toInt) = False := eq_false (by omega)
  have u64975 : (64975 < x.toInt) = False := eq_false (by omega)
  have u65007 : (65007 < x.toInt) = False := eq_false (by omega)
  have u65533 : (65533 < x.toInt) = False := eq_false (by omega)
  have u65535 : (65535 < x.toInt) = False := eq_false (by omega)
  have u983039 : (983039 < x.toInt) = False := eq_false (by omega)
  have q58 : (x.toInt = 58) = False := eq_false (by omega)
  have q95 : (x.toInt = 95) = False := eq_false (by omega)
  have q215 : (x.toInt = 215) = False := eq_false (by omega)
  have q247 : (x.toInt = 247) = False := eq_false (by omega)
  have q894 : (x.toInt = 894) = False := eq_false (by omega)
  simp only [own_f1_198, own_f1_186, own_f1_174, own_f1_161, own_f1_147, own_f1_133, own_f1_119, own_f1_105, own_f1_91, own_f1_77, own_f1_63, own_f1_31, own_f1_19, own_f1_0, own_f2_192, own_f2_187, own_f2_0, own_f3_0, own_10, own_00, own_lo65, own_lo97, own_lo128, own_lo192, own_lo216, own_lo248, own_lo768, own_lo880, own_lo895, own_lo8192, own_lo8204, own_lo8206, own_lo8304, own_lo8592, own_lo11264, own_lo12272, own_lo12289, own_lo55296, own_lo63744, own_lo64976, own_lo65008, own_lo65534, own_lo65536, own_hi90, own_hi122, own_hi191, own_hi214, own_hi246, own_hi767, own_hi879, own_hi893, own_hi8191, own_hi8203, own_hi8205, own_hi8303, own_hi8591, own_hi11263, own_hi12271, own_hi12288, own_hi55295, own_hi63743, own_hi64975, own_hi65007, own_hi65533, own_hi65535, own_hi983039, own_eq58, own_eq95, own_eq215, own_eq247, own_eq894, l65, l97, l128, l192, l216, l248, l768, l880, l895, l8192, l8204, l8206, l8304, l8592, l11264, l12272, l12289, l55296, l63744, l64976, l65008, l65534, l65536, u90, u122, u191, u214, u246, u767, u879, u893, u8191, u8203, u8205, u8303, u8591, u11263, u12271, u12288, u55295, u63743, u64975, u65007, u65533, u65535, u983039, q58, q95, q215, q247, q894, if_true, if_false]
theorem own_iv4 (x : Int32) (h1 : 91 ≤ x.toInt) (h2 : x.toInt < 95) : own_f1_0 x = own_f2_0 x := by
  have l65 : (x.toInt < 65) = False := eq_false (by omega)
  have l97 : (x.toInt < 97) = True := eq_true (by omega)
  have l128 : (x.toInt < 128) = True := eq_true (by omega)
  have l192 : (x.toInt < 192) = True := eq_true (by omega)
  have l216 : (x.toInt < 216) = True := eq_true (by omega)
  have l248 : (x.toInt < 248) = True := eq_true (by omega)
  have l768 : (x.toInt < 768) = True := eq_true (by omega)
  have l880 : (x.toInt < 880) = True := eq_true (by omega)
  have l895 : (x.toInt < 895) = True := eq_true (by omega)
  have l8192 : (x.toInt < 8192) = True := eq_true (by omega)
  have l8204 : (x.toInt < 8204) = True := eq_true (by omega)
  have l8206 : (x.toInt < 8206) = True := eq_true (by omega)
  have l8304 : (x.toInt < 8304) = True := eq_true (by omega)
  have l8592 : (x.toInt < 8592) = True := eq_true (by omega)
  have l11264 : (x.toInt < 11264) = True := eq_true (by omega)
  have l12272 : (x.toInt < 12272) = True := eq_true (by omega)
  have l12289 : (x.toInt < 12289) = True := eq_true (by omega)
  have l55296 : (x.toInt < 55296) = True := eq_true (by omega)
  have l63744 : (x.toInt < 63744) = True := eq_true (by omega)
  have l64976 : (x.toInt < 64976) = True := eq_true (by omega)
  have l65008 : (x.toInt < 65008) = True := eq_true (by omega)
  have l65534 : (x.toInt < 65534) = True := eq_true (by omega)
  have l65536 : (x.toInt < 65536) = True := eq_true (by omega)
  have u90 : (90 < x.toInt) = True := eq_true (by omega)
  have u122 : (122 < x.toInt) = False := eq_false (by omega)
  have u191 : (191 < x.toInt) = False := eq_false (by omega)
  have u214 : (214 < x.toInt) = False := eq_false (by omega)
  have u246 : (246 < x.toInt) = False := eq_false (by omega)
  have u767 : (767 < x.toInt) = False := eq_false (by omega)
  have u879 : (879 < x.toInt) = False := eq_false (by omega)
  have u893 : (893 < x.toInt) = False := eq_false (by omega)
  have u8191 : (8191 < x.toInt) = False := eq_false (by omega)
  have u8203 : (8203 < x.toInt) = False := eq_false (by omega)
  have u8205 : (8205 < x.toInt) = False := eq_false (by omega)
  have u8303 : (8303 < x.toInt) = False := eq_false (by omega)
  have u8591 : (8591 < x.toInt) = False := eq_false (by omega)
  have u11263 : (11263 < x.toInt) = False := eq_false (by omega)
  have u12271 : (12271 < x.toInt) = False := eq_false (by omega)
  have u12288 : (12288 < x.toInt) = False := eq_false (by omega)
  have u55295 : (55295 < x.toInt) = False := eq_false (by omega)
  have u63743 : (63743 < x.toInt) = False := eq_false (by omega)
  have u64975 : (64975 < x.toInt) = False := eq_false (by omega)
  have u65007 : (65007 < x.toInt) = False := eq_false (by omega)
  have u65533 : (65533 < x.toInt) = False := eq_false (by omega)
  have u65535 : (65535 < x.toInt) = False := eq_false (by omega)
  have u983039 : (983039 < x.toInt) = False := eq_false (by omega)
  have q58 : (x.toInt = 58) = False := eq_false (by omega)
  have q95 : (x.toInt = 95) = False := eq_false (by omega)
  have q215 : (x.toInt = 215) = False := eq_false (by omega)
  have q247 : (x.toInt = 247) = False := eq_false (by omega)
  have q894 : (x.toInt = 894) = False := eq_false (by omega)
  simp only [own_f1_198, own_f1_186, own_f1_174, own_f1_161, own_f1_147, own_f1_133, own_f1_119, own_f1_105, own_f1_91, own_f1_77, own_f1_63, own_f1_31, own_f1_19, own_f1_0, own_f2_192, own_f2_187, own_f2_0, own_f3_0, own_10, own_00, own_lo65, own_lo97, own_lo128, own_lo192, own_lo216, own_lo248, own_lo768, own_lo880, own_lo895, own_lo8192, own_lo8204, own_lo8206, own_lo8304, own_lo8592, own_lo11264, own_lo12272, own_lo12289, own_lo55296, own_lo63744, own_lo64976, own_lo65008, own_lo65534, own_lo65536, own_hi90, own_hi122, own_hi191, own_hi214, own_hi246, own_hi767, own_hi879, own_hi893, own_hi8191, own_hi8203, own_hi8205, own_hi8303, own_hi8591, own_hi11263, own_hi12271, own_hi12288, own_hi55295, own_hi63743, own_hi64975, own_hi65007, own_hi65533, own_hi65535, own_hi983039, own_eq58, own_eq95, own_eq215, own_eq247, own_eq894, l65, l97, l128, l192, l216, l248, l768, l880, l895, l8192, l8204, l8206, l8304, l8592, l11264, l12272, l12289, l55296, l63744, l64976, l65008, l65534, l65536, u90, u122, u191, u214, u246, u767, u879, u893, u8191, u8203, u8205, u8303, u8591, u11263, u12271, u12288, u55295, u63743, u64975, u65007, u65533, u65535, u983039, q58, q95, q215, q247, q894, if_true, if_false]
theorem own_iv5 (x : Int32) (h1 : 95 ≤ x.toInt) (h2 : x.toInt < 96) : own_f1_0 x = own_f2_0 x := by
  have l65 : (x.toInt < 65) = False := eq_false (by omega)
  have l97 : (x.toInt < 97) = True := eq_true (by omega)
  have l128 : (x.toInt < 128) = True := eq_true (by omega)
  have l192 : (x.toInt < 192) = True := eq_true (by omega)
  have l216 : (x.toInt < 216) = True := eq_true (by omega)
  have l248 : (x.toInt < 248) = True := eq_true (by omega)
  have l768 : (x.toInt < 768) = True := eq_true (by omega)
  have l880 : (x.toInt < 880) = True := eq_true (by omega)
  have l895 : (x.toInt < 895) = True := eq_true (by omega)
  have l8192 : (x.toInt < 8192) = True := eq_true (by omega)
  have l8204 : (x.toInt < 8204) = True := eq_true (by omega)
  have l8206 : (x.toInt < 8206) = True := eq_true (by omega)
  have l8304 : (x.toInt < 8304) = True := eq_true (by omega)
  have l8592 : (x.toInt < 8592) = True := eq_true (by omega)
  have l11264 : (x.toInt < 11264) = True := eq_true (by omega)
  have l12272 : (x.toInt < 12272) = True := eq_true (by omega)
  have l12289 : (x.toInt < 12289) = True := eq_true (by omega)
  have l55296 : (x.toInt < 55296) = True := eq_true (by omega)
  have l63744 : (x.toInt < 63744) = True := eq_true (by omega)
  have l64976 : (x.toInt < 64976) = True := eq_true (by omega)
  have l65008 : (x.toInt < 65008) = True := eq_true (by omega)
  have l65534 : (x.toInt < 65534) = True := eq_true (by omega)
  have l65536 : (x.toInt < 65536) = True := eq_true (by omega)
  have u90 : (90 < x.toInt) = True := eq_true (by omega)
  have u122 : (122 < x.toInt) = False := eq_false (by omega)
  have u191 : (191 < x.toInt) = False := eq_false (by omega)
  have u214 : (214 < x.toInt) = False := eq_false (by omega)
  have u246 : (246 < x.toInt) = False := eq_false (by omega)
  have u767 : (767 < x.toInt) = False := eq_false (by omega)
  have u879 : (879 < x.toInt) = False := eq_false (by omega)
  have u893 : (893 < x.toInt) = False := eq_false (by omega)
  have u8191 : (8191 < x.toInt) = False := eq_false (by omega)
  have u8203 : (8203 < x.toInt) = False := eq_false (by omega)
  have u8205 : (8205 < x.toInt) = False := eq_false (by omega)
  have u8303 : (8303 < x.toInt) = False := eq_false (by omega)
  have u8591 : (8591 < x.toInt) = False := eq_false (by omega)
  have u11263 : (11263 < x.toInt) = False := eq_false (by omega)
  have u12271 : (12271 < x.toInt) = False := eq_false (by omega)
  have u12288 : (12288 < x.toInt) = False := eq_false (by omega)
  have u55295 : (55295 < x.toInt) = False := eq_false (by omega)
  have u63743 : (63743 < x.toInt) = False := eq_false (by omega)
  have u64975 : (64975 < x.toInt) = False := eq_false (by omega)
  have u65007 : (65007 < x.toInt) = False := eq_false (by omega)
  have u65533 : (65533 < x.toInt) = False := eq_false (by omega)
  have u65535 : (65535 < x.toInt) = False := eq_false (by omega)
  have u983039 : (983039 < x.toInt) = False := eq_false (by omega)
  have q58 : (x.toInt = 58) = False := eq_false (by omega)
  have q95 : (x.toInt = 95) = True := eq_true (by omega)
  have q215 : (x.toInt = 215) = False := eq_false (by omega)
  have q247 : (x.toInt = 247) = False := eq_false (by omega)
  have q894 : (x.toInt = 894) = False := eq_false (by omega)
  simp only [own_f1_198, own_f1_186, own_f1_174, own_f1_161, own_f1_147, own_f1_133, own_f1_119, own_f1_105, own_f1_91, own_f1_77, own_f1_63, own_f1_31, own_f1_19, own_f1_0, own_f2_192, own_f2_187, own_f2_0, own_f3_0, own_10, own_00, own_lo65, own_lo97, own_lo128, own_lo192, own_lo216, own_lo248, own_lo768, own_lo880, own_lo895, own_lo8192, own_lo8204, own_lo8206, own_lo8304, own_lo8592, own_lo11264, own_lo12272, own_lo12289, own_lo55296, own_lo63744, own_lo64976, own_lo65008, own_lo65534, own_lo65536, own_hi90, own_hi122, own_hi191, own_hi214, own_hi246, own_hi767, own_hi879, own_hi893, own_hi8191, own_hi8203, own_hi8205, own_hi8303, own_hi8591, own_hi11263, own_hi12271, own_hi12288, own_hi55295, own_hi63743, own_hi64975, own_hi65007, own_hi65533, own_hi65535, own_hi983039, own_eq58, own_eq95, own_eq215, own_eq247, own_eq894, l65, l97, l128, l192, l216, l248, l768, l880, l895, l8192, l8204, l8206, l8304, l8592, l11264, l12272, l12289, l55296, l63744, l64976, l65008, l65534, l65536, u90, u122, u191, u214, u246, u767, u879, u893, u8191, u8203, u8205, u8303, u8591, u11263, u12271, u12288, u55295, u63743, u64975, u65007, u65533, u65535, u983039, q58, q95, q215, q247, q894, if_true, if_false]
theorem own_iv6 (x : Int32) (h1 : 96 ≤ x.toInt) (h2 : x.toInt < 97) : own_f1_0 x = own_f2_0 x := by
  have l65 : (x.toInt < 65) = False := eq_false (by omega)
  have l97 : (x.toInt < 97) = True := eq_true (by omega)
  have l128 : (x.toInt < 128) = True := eq_true (by omega)
  have l192 : (x.toInt < 192) = True := eq_true (by omega)
  have l216 : (x.toInt < 216) = True := eq_true (by omega)
  have l248 : (x.toInt < 248) = True := eq_true (by omega)
  have l768 : (x.toInt < 768) = True := eq_true (by omega)
  have l880 : (x.toInt < 880) = True := eq_true (by omega)
  have l895 : (x.toInt < 895) = True := eq_true (by omega)
  have l8192 : (x.toInt < 8192) = True := eq_true (by omega)
  have l8204 : (x.toInt < 8204) = True := eq_true (by omega)
  have l8206 : (x.toInt < 8206) = True := eq_true (by omega)
  have l8304 : (x.toInt < 8304) = True := eq_true (by omega)
  have l8592 : (x.toInt < 8592) = True := eq_true (by omega)
  have l11264 : (x.toInt < 11264) = True := eq_true (by omega)
  have l12272 : (x.toInt < 12272) = True := eq_true (by omega)
  have l12289 : (x.toInt < 12289) = True := eq_true (by omega)
  have l55296 : (x.toInt < 55296) = True := eq_true (by omega)
  have l63744 : (x.toInt < 63744) = True := eq_true (by omega)
  have l64976 : (x.toInt < 64976) = True := eq_true (by omega)
  have l65008 : (x.toInt < 65008) = True := eq_true (by omega)
  have l65534 : (x.toInt < 65534) = True := eq_true (by omega)
  have l65536 : (x.toInt < 65536) = True := eq_true (by omega)
  have u90 : (90 < x.toInt) = True := eq_true (by omega)
  have u122 : (122 < x.toInt) = False := eq_false (by omega)
  have u191 : (191 < x.toInt) = False := eq_false (by omega)
  have u214 : (214 < x.toInt) = False := eq_false (by omega)
  have u246 : (246 < x.toInt) = False := eq_false (by omega)
  have u767 : (767 < x.toInt) = False := eq_false (by omega)
  have u879 : (879 < x.toInt) = False := eq_false (by omega)
  have u893 : (893 < x.toInt) = False := eq_false (by omega)
  have u8191 : (8191 < x.toInt) = False := eq_false (by omega)
  have u8203 : (8203 < x.toInt) = False := eq_false (by omega)
  have u8205 : (8205 < x.toInt) = False := eq_false (by omega)
  have u8303 : (8303 < x.toInt) = False := eq_false (by omega)
  have u8591 : (8591 < x.toInt) = False := eq_false (by omega)
  have u11263 : (11263 < x.toInt) = False := eq_false (by omega)
  have u12271 : (12271 < x.toInt) = False := eq_false (by omega)
  have u12288 : (12288 < x.toInt) = False := eq_false (by omega)
  have u55295 : (55295 < x.toInt) = False := eq_false (by omega)
  have u63743 : (63743 < x.toInt) = False := eq_false (by omega)
  have u64975 : (64975 < x.toInt) = False := eq_false (by omega)
  have u65007 : (65007 < x.toInt) = False := eq_false (by omega)
  have u65533 : (65533 < x.toInt) = False := eq_false (by omega)
  have u65535 : (65535 < x.toInt) = False := eq_false (by omega)
  have u983039 : (983039 < x.toInt) = False := eq_false (by omega)
  have q58 : (x.toInt = 58) = False := eq_false (by omega)
  have q95 : (x.toInt = 95) = False := eq_false (by omega)
  have q215 : (x.toInt = 215) = False := eq_false (by omega)
  have q247 : (x.toInt = 247) = False := eq_false (by omega)
  have q894 : (x.toInt = 894) = False := eq_false (by omega)
  simp only [own_f1_198, own_f1_186, own_f1_174, own_f1_161, own_f1_147, own_f1_133, own_f1_119, own_f1_105, own_f1_91, own_f1_77, own_f1_63, own_f1_31, own_f1_19, own_f1_0, own_f2_192, own_f2_187, own_f2_0, own_f3_0, own_10, own_00, own_lo65, own_lo97, own_lo128, own_lo192, own_lo216, own_lo248, own_lo768, own_lo880, own_lo895, own_lo8192, own_lo8204, own_lo8206, own_lo8304, own_lo8592, own_lo11264, own_lo12272, own_lo12289, own_lo55296, own_lo63744, own_lo64976, own_lo65008, own_lo65534, own_lo65536, own_hi90, own_hi122, own_hi191, own_hi214, own_hi246, own_hi767, own_hi879, own_hi893, own_hi8191, own_hi8203, own_hi8205, own_hi8303, own_hi8591, own_hi11263, own_hi12271, own_hi12288, own_hi55295, own_hi63743, own_hi64975, own_hi65007, own_hi65533, own_hi65535, own_hi983039, own_eq58, own_eq95, own_eq215, own_eq247, own_eq894, l65, l97, l128, l192, l216, l248, l768, l880, l895, l8192, l8204, l8206, l8304, l8592, l11264, l12272, l12289, l55296, l63744, l64976, l65008, l65534, l65536, u90, u122, u191, u214, u246, u767, u879, u893, u8191, u8203, u8205, u8303, u8591, u11263, u12271, u12288, u55295, u63743, u64975, u65007, u65533, u65535, u983039, q58, q95, q215, q247, q894, if_true, if_false]
theorem own_iv7 (x : Int32) (h1 : 97 ≤ x.toInt) (h2 : x.toInt < 123) : own_f1_0 x = own_f2_0 x := by
  have l65 : (x.toInt < 65) = False := eq_false (by omega)
  have l97 : (x.toInt < 97) = False := eq_false (by omega)
  have l128 : (x.toInt < 128) = True := eq_true (by omega)
  have l192 : (x.toInt < 192) = True := eq_true (by omega)
  have l216 : (x.toInt < 216) = True := eq_true (by omega)
  have l248 : (x.toInt < 248) = True := eq_true (by omega)
  have l768 : (x.toInt < 768) = True := eq_true (by omega)
  have l880 : (x.toInt < 880) = True := eq_true (by omega)
  have l895 : (x.toInt < 895) = True := eq_true (by omega)
  have l8192 : (x.toInt < 8192) = True := eq_true (by omega)
  have l8204 : (x.toInt < 8204) = True := eq_true (by omega)
  have l8206 : (x.toInt < 8206) = True := eq_true (by omega)
  have l8304 : (x.toInt < 8304) = True := eq_true (by omega)
  have l8592 : (x.toInt < 8592) = True := eq_true (by omega)
  have l11264 : (x.toInt < 11264) = True := eq_true (by omega)
  have l12272 : (x.toInt < 12272) = True := eq_true (by omega)
  have l12289 : (x.toInt < 12289) = True := eq_true (by omega)
  have l55296 : (x.toInt < 55296) = True := eq_true (by omega)
  have l63744 : (x.toInt < 63744) = True := eq_true (by omega)
  have l64976 : (x.toInt < 64976) = True := eq_true (by omega)
  have l65008 : (x.toInt < 65008) = True := eq_true (by omega)
  have l65534 : (x.toInt < 65534) = True := eq_true (by omega)
  have l65536 : (x.toInt < 65536) = True := eq_true (by omega)
  have u90 : (90 < x.toInt) = True := eq_true (by omega)
  have u122 : (122 < x.toInt) = False := eq_false (by omega)
  have u191 : (191 < x.toInt) = False := eq_false (by omega)
  have u214 : (214 < x.toInt) = False := eq_false (by omega)
  have u246 : (246 < x.toInt) = False := eq_false (by omega)
  have u767 : (767 < x.toInt) = False := eq_false (by omega)
  have u879 : (879 < x.toInt) = False := eq_false (by omega)
  have u893 : (893 < x.toInt) = False := eq_false (by omega)
  have u8191 : (8191 < x.toInt) = False := eq_false (by omega)
  have u8203 : (8203 < x.toInt) = False := eq_false (by omega)
  have u8205 : (8205 < x.toInt) = False := eq_false (by omega)
  have u8303 : (8303 < x.toInt) = False := eq_false (by omega)
  have u8591 : (8591 < x.toInt) = False := eq_false (by omega)
  have u11263 : (11263 < x.toInt) = False := eq_false (by omega)
  have u12271 : (12271 < x.toInt) = False := eq_false (by omega)
  have u12288 : (12288 < x.toInt) = False := eq_false (by omega)
  have u55295 : (55295 < x.toInt) = False := eq_false (by omega)
  have u63743 : (63743 < x.toInt) = False := eq_false (by omega)
  have u64975 : (64975 < x.toInt) = False := eq_false (by omega)
  have u65007 : (65007 < x.toInt) = False := eq_false (by omega)
  have u65533 : (65533 < x.toInt) = False := eq_false (by omega)
  have u65535 : (65535 < x.toInt) = False := eq_false (by omega)
  have u983039 : (983039 < x.toInt) = False := eq_false (by omega)
  have q58 : (x.toInt = 58) = False := eq_false (by omega)
  have q95 : (x.toInt = 95) = False := eq_false (by omega)
  have q215 : (x.toInt = 215) = False := eq_false (by omega)
  have q247 : (x.toInt = 247) = False := eq_false (by omega)
  have q894 : (x.toInt = 894) = False := eq_false (by omega)
  simp only [own_f1_198, own_f1_186, own_f1_174, own_f1_161, own_f1_147, own_f1_133, own_f1_119, own_f1_105, own_f1_91, own_f1_77, own_f1_63, own_f1_31, own_f1_19, own_f1_0, own_f2_192, own_f2_187, own_f2_0, own_f3_0, own_10, own_00, own_lo65, own_lo97, own_lo128, own_lo192, own_lo216, own_lo248, own_lo768, own_lo880, own_lo895, own_lo8192, own_lo8204, own_lo8206, own_lo8304, own_lo8592, own_lo11264, own_lo12272, own_lo12289, own_lo55296, own_lo63744, own_lo64976, own_lo65008, own_lo65534, own_lo65536, own_hi90, own_hi122, own_hi191, own_hi214, own_hi246, own_hi767, own_hi879, own_hi893, own_hi8191, own_hi8203, own_hi8205, own_hi8303, own_hi8591, own_hi11263, own_hi12271, own_hi12288, own_hi55295, own_hi63743, own_hi64975, own_hi65007, own_hi65533, own_hi65535, own_hi983039, own_eq58, own_eq95, own_eq215, own_eq247, own_eq894, l65, l97, l128, l192, l216, l248, l768, l880, l895, l8192, l8204, l8206, l8304, l8592, l11264, l12272, l12289, l55296, l63744, l64976, l65008, l65534, l65536, u90, u122, u191, u214, u246, u767, u879, u893, u8191, u8203, u8205, u8303, u8591, u11263, u12271, u12288, u55295, u63743, u64975, u65007, u65533, u65535, u983039, q58, q95, q215, q247, q894, if_true, if_false]
theorem own_iv8 (x : Int32) (h1 : 123 ≤ x.toInt) (h2 : x.toInt < 128) : own_f1_0 x = own_f2_0 x := by
  have l65 : (x.toInt < 65) = False := eq_false (by omega)
  have l97 : (x.toInt < 97) = False := eq_false (by omega)
  have l128 : (x.toInt < 128) = True := eq_true (by omega)
  have l192 : (x.toInt < 192) = True := eq_true (by omega)
  have l216 : (x.toInt < 216) = True := eq_true (by omega)
  have l248 : (x.toInt < 248) = True := eq_true (by omega)
  have l768 : (x.toInt < 768) = True := eq_true (by omega)
  have l880 : (x.toInt < 880) = True := eq_true (by omega)
  have l895 : (x.toInt < 895) = True := eq_true (by omega)
  have l8192 : (x.toInt < 8192) = True := eq_true (by omega)
  have l8204 : (x.toInt < 8204) = True := eq_true (by omega)
  have l8206 : (x.toInt < 8206) = True := eq_true (by omega)
  have l8304 : (x.toInt < 8304) = True := eq_true (by omega)
  have l8592 : (x.toInt < 8592) = True := eq_true (by omega)
  have l11264 : (x.toInt < 11264) = True := eq_true (by omega)
  have l12272 : (x.toInt < 12272) = True := eq_true (by omega)
  have l12289 : (x.toInt < 12289) = True := eq_true (by omega)
  have l55296 : (x.toInt < 55296) = True := eq_true (by omega)
  have l63744 : (x.toInt < 63744) = True := eq_true (by omega)
  have l64976 : (x.toInt < 64976) = True := eq_true (by omega)
  have l65008 : (x.toInt < 65008) = True := eq_true (by omega)
  have l65534 : (x.toInt < 65534) = True := eq_true (by omega)
  have l65536 : (x.toInt < 65536) = True := eq_true (by omega)
  have u90 : (90 < x.toInt) = True := eq_true (by omega)
  have u122 : (122 < x.toInt) = True := eq_true (by omega)
  have u191 : (191 < x.toInt) = False := eq_false (by omega)
  have u214 : (214 < x.toInt) = False := eq_false (by omega)
  have u246 : (246 < x.toInt) = False := eq_false (by omega)
  have u767 : (767 < x.toInt) = False := eq_false (by omega)
  have u879 : (879 < x.toInt) = False := eq_false (by omega)
  have u893 : (893 < x.toInt) = False := eq_false (by omega)
  have u8191 : (8191 < x.toInt) = False := eq_false (by omega)
  have u8203 : (8203 < x.toInt) = False := eq_false (by omega)
  have u8205 : (8205 < x.toInt) = False := eq_false (by omega)
  have u8303 : (8303 < x.toInt) = False := eq_false (by omega)
  have u8591 : (8591 < x.toInt) = False := eq_false (by omega)
  have u11263 : (11263 < x.toInt) = False := eq_false (by omega)
  have u12271 : (12271 < x.toInt) = False := eq_false (by omega)
  have u12288 : (12288 < x.toInt) = False := eq_false (by omega)
  have u55295 : (55295 < x.toInt) = False := eq_false (by omega)
  have u63743 : (63743 < x.toInt) = False := eq_false (by omega)
  have u64975 : (64975 < x.toInt) = False := eq_false (by omega)
  have u65007 : (65007 < x.toInt) = False := eq_false (by omega)
  have u65533 : (65533 < x.toInt) = False := eq_false (by omega)
  have u65535 : (65535 < x.toInt) = False := eq_false (by omega)
  have u983039 : (983039 < x.toInt) = False := eq_false (by omega)
  have q58 : (x.toInt = 58) = False := eq_false (by omega)
  have q95 : (x.toInt = 95) = False := eq_false (by omega)
  have q215 : (x.toInt = 215) = False := eq_false (by omega)
  have q247 : (x.toInt = 247) = False := eq_false (by omega)
  have q894 : (x.toInt = 894) = False := eq_false (by omega)
  simp only [own_f1_198, own_f1_186, own_f1_174, own_f1_161, own_f1_147, own_f1_133, own_f1_119, own_f1_105, own_f1_91, own_f1_77, own_f1_63, own_f1_31, own_f1_19, own_f1_0, own_f2_192, own_f2_187, own_f2_0, own_f3_0, own_10, own_00, own_lo65, own_lo97, own_lo128, own_lo192, own_lo216, own_lo248, own_lo768, own_lo880, own_lo895, own_lo8192, own_lo8204, own_lo8206, own_lo8304, own_lo8592, own_lo11264, own_lo12272, own_lo12289, own_lo55296, own_lo63744, own_lo64976, own_lo65008, own_lo65534, own_lo65536, own_hi90, own_hi122, own_hi191, own_hi214, own_hi246, own_hi767, own_hi879, own_hi893, own_hi8191, own_hi8203, own_hi8205, own_hi8303, own_hi8591, own_hi11263, own_hi12271, own_hi12288, own_hi55295, own_hi63743, own_hi64975, own_hi65007, own_hi65533, own_hi65535, own_hi983039, own_eq58, own_eq95, own_eq215, own_eq247, own_eq894, l65, l97, l128, l192, l216, l248, l768, l880, l895, l8192, l8204, l8206, l8304, l8592, l11264, l12272, l12289, l55296, l63744, l64976, l65008, l65534, l65536, u90, u122, u191, u214, u246, u767, u879, u893, u8191, u8203, u8205, u8303, u8591, u11263, u12271, u12288, u55295, u63743, u64975, u65007, u65533, u65535, u983039, q58, q95, q215, q247, q894, if_true, if_false]
theorem own_iv9 (x : Int32) (h1 : 128 ≤ x.toInt) (h2 : x.toInt < 192) : own_f1_0 x = own_f2_0 x := by
  have l65 : (x.toInt < 65) = False := eq_false (by omega)
  have l97 : (x.toInt < 97) = False := eq_false (by omega)
  have l128 : (x.toInt < 128) = False := eq_false (by omega)
  have l192 : (x.toInt < 192) = True := eq_true (by omega)
  have l216 : (x.toInt < 216) = True := eq_true (by omega)
  have l248 : (x.toInt < 248) = True := eq_true (by omega)
  have l768 : (x.toInt < 768) = True := eq_true (by omega)
  have l880 : (x.toInt < 880) = True := eq_true (by omega)
  have l895 : (x.toInt < 895) = True := eq_true (by omega)
  have l8192 : (x.toInt < 8192) = True := eq_true (by omega)
  have l8204 : (x.toInt < 8204) = True := eq_true (by omega)
  have l8206 : (x.toInt < 8206) = True := eq_true (by omega)
  have l8304 : (x.toInt < 8304) = True := eq_true (by omega)
  have l8592 : (x.toInt < 8592) = True := eq_true (by omega)
  have l11264 : (x.toInt < 11264) = True := eq_true (by omega)
  have l12272 : (x.toInt < 12272) = True := eq_true (by omega)
  have l12289 : (x.toInt < 12289) = True := eq_true (by omega)
  have l55296 : (x.toInt < 55296) = True := eq_true (by omega)
  have l63744 : (x.toInt < 63744) = True := eq_true (by omega)
  have l64976 : (x.toInt < 64976) = True := eq_true (by omega)
  have l65008 : (x.toInt < 65008) = True := eq_true (by omega)
  have l65534 : (x.toInt < 65534) = True := eq_true (by omega)
  have l65536 : (x.toInt < 65536) = True := eq_true (by omega)
  have u90 : (90 < x.toInt) = True := eq_true (by omega)
  have u122 : (122 < x.toInt) = True := eq_true (by omega)
  have u191 : (191 < x.toInt) = False := eq_false (by omega)
  have u214 : (214 < x.toInt) = False := eq_false (by omega)
  have u246 : (246 < x.toInt) = False := eq_false (by omega)
  have u767 : (767 < x.toInt) = False := eq_false (by omega)
  have u879 : (879 < x.toInt) = False := eq_false (by omega)
  have u893 : (893 < x.toInt) = False := eq_false (by omega)
  have u8191 : (8191 < x.toInt) = False := eq_false (by omega)
  have u8203 : (8203 < x.toInt) = False := eq_false (by omega)
  have u8205 : (8205 < x.toInt) = False := eq_false (by omega)
  have u8303 : (8303 < x.toInt) = False := eq_false (by omega)
  have u8591 : (8591 < x.toInt) = False := eq_false (by omega)
  have u11263 : (11263 < x.toInt) = False := eq_false (by omega)
  have u12271 : (12271 < x.toInt) = False := eq_false (by omega)
  have u12288 : (12288 < x.toInt) = False := eq_false (by omega)
  have u55295 : (55295 < x.toInt) = False := eq_false (by omega)
  have u63743 : (63743 < x.toInt) = False := eq_false (by omega)
  have u64975 : (64975 < x.toInt) = False := eq_false (by omega)
  have u65007 : (65007 < x.toInt) = False := eq_false (by omega)
  have u65533 : (65533 < x.toInt) = False := eq_false (by omega)
  have u65535 : (65535 < x.toInt) = False := eq_false (by omega)
  have u983039 : (983039 < x.toInt) = False := eq_false (by omega)
  have q58 : (x.toInt = 58) = False := eq_false (by omega)
  have q95 : (x.toInt = 95) = False := eq_false (by omega)
  have q215 : (x.toInt = 215) = False := eq_false (by omega)
  have q247 : (x.toInt = 247) = False := eq_false (by omega)
  have q894 : (x.toInt = 894) = False := eq_false (by omega)
  simp only [own_f1_198, own_f1_186, own_f1_174, own_f1_161, own_f1_147, own_f1_133, own_f1_119, own_f1_105, own_f1_91, own_f1_77, own_f1_63, own_f1_31, own_f1_19, own_f1_0, own_f2_192, own_f2_187, own_f2_0, own_f3_0, own_10, own_00, own_lo65, own_lo97, own_lo128, own_lo192, own_lo216, own_lo248, own_lo768, own_lo880, own_lo895, own_lo8192, own_lo8204, own_lo8206, own_lo8304, own_lo8592, own_lo11264, own_lo12272, own_lo12289, own_lo55296, own_lo63744, own_lo64976, own_lo65008, own_lo65534, own_lo65536, own_hi90, own_hi122, own_hi191, own_hi214, own_hi246, own_hi767, own_hi879, own_hi893, own_hi8191, own_hi8203, own_hi8205, own_hi8303, own_hi8591, own_hi11263, own_hi12271, own_hi12288, own_hi55295, own_hi63743, own_hi64975, own_hi65007, own_hi65533, own_hi65535, own_hi983039, own_eq58, own_eq95, own_eq215, own_eq247, own_eq894, l65, l97, l128, l192, l216, l248, l768, l880, l895, l8192, l8204, l8206, l8304, l8592, l11264, l12272, l12289, l55296, l63744, l64976, l65008, l65534, l65536, u90, u122, u191, u214, u246, u767, u879, u893, u8191, u8203, u8205, u8303, u8591, u11263, u12271, u12288, u55295, u63743, u64975, u65007, u65533, u65535, u983039, q58, q95, q215, q247, q894, if_true, if_false]
theorem own_iv10 (x : Int32) (h1 : 192 ≤ x.toInt) (h2 : x.toInt < 215) : own_f1_0 x = own_f2_0 x := by
  have l65 : (x.toInt < 65) = False := eq_false (by omega)
  have l97 : (x.toInt < 97) = False := eq_false (by omega)
  have l128 : (x.toInt < 128) = False := eq_false (by omega)
  have l192 : (x.toInt < 192) = False := eq_false (by omega)
  have l216 : (x.toInt < 216) = True := eq_true (by omega)
  have l248 : (x.toInt < 248) = True := eq_true (by omega)
  have l768 : (x.toInt < 768) = True := eq_true (by omega)
  have l880 : (x.toInt < 880) = True := eq_true (by omega)
  have l895 : (x.toInt < 895) = True := eq_true (by omega)
  have l8192 : (x.toInt < 8192) = True := eq_true (by omega)
  have l8204 : (x.toInt < 8204) = True := eq_true (by omega)
  have l8206 : (x.toInt < 8206) = True := eq_true (by omega)
  have l8304 : (x.toInt < 8304) = True := eq_true (by omega)
  have l8592 : (x.toInt < 8592) = True := eq_true (by omega)
  have l11264 : (x.toInt < 11264) = True := eq_true (by omega)
  have l12272 : (x.toInt < 12272) = True := eq_true (by omega)
  have l12289 : (x.toInt < 12289) = True := eq_true (by omega)
  have l55296 : (x.toInt < 55296) = True := eq_true (by omega)
  have l63744 : (x.toInt < 63744) = True := eq_true (by omega)
  have l64976 : (x.toInt < 64976) = True := eq_true (by omega)
  have l65008 : (x.toInt < 65008) = True := eq_true (by omega)
  have l65534 : (x.toInt < 65534) = True := eq_true (by omega)
  have l65536 : (x.toInt < 65536) = True := eq_true (by omega)
  have u90 : (90 < x.toInt) = True := eq_true (by omega)
  have u122 : (122 < x.toInt) = True := eq_true (by omega)
  have u191 : (191 < x.toInt) = True := eq_true (by omega)
  have u214 : (214 < x.toInt) = False := eq_false (by omega)
  have u246 : (246 < x.toInt) = False := eq_false (by omega)
  have u767 : (767 < x.toInt) = False := eq_false (by omega)
  have u879 : (879 < x.toInt) = False := eq_false (by omega)
  have u893 : (893 < x.toInt) = False := eq_false (by omega)
  have u8191 : (8191 < x.toInt) = False := eq_false (by omega)
  have u8203 : (8203 < x.toInt) = False := eq_false (by omega)
  have u8205 : (8205 < x.toInt) = False := eq_false (by omega)
  have u8303 : (8303 < x.toInt) = False := eq_false (by omega)
  have u8591 : (8591 < x.toInt) = False := eq_false (by omega)
  have u11263 : (11263 < x.toInt) = False := eq_false (by omega)
  have u12271 : (12271 < x.toInt) = False := eq_false (by omega)
  have u12288 : (12288 < x.toInt) = False := eq_false (by omega)
  have u55295 : (55295 < x.toInt) = False := eq_false (by omega)
  have u63743 : (63743 < x.toInt) = False := eq_false (by omega)
  have u64975 : (64975 < x.toInt) = False := eq_false (by omega)
  have u65007 : (65007 < x.toInt) = False := eq_false (by omega)
  have u65533 : (65533 < x.toInt) = False := eq_false (by omega)
  have u65535 : (65535 < x.toInt) = False := eq_false (by omega)
  have u983039 : (983039 < x.toInt) = False := eq_false (by omega)
  have q58 : (x.toInt = 58) = False := eq_false (by omega)
  have q95 : (x.toInt = 95) = False := eq_false (by omega)
  have q215 : (x.toInt = 215) = False := eq_false (by omega)
  have q247 : (x.toInt = 247) = False := eq_false (by omega)
  have q894 : (x.toInt = 894) = False := eq_false (by omega)
  simp only [own_f1_198, own_f1_186, own_f1_174, own_f1_161, own_f1_147, own_f1_133, own_f1_119, own_f1_105, own_f1_91, own_f1_77, own_f1_63, own_f1_31, own_f1_19, own_f1_0, own_f2_192, own_f2_187, own_f2_0, own_f3_0, own_10, own_00, own_lo65, own_lo97, own_lo128, own_lo192, own_lo216, own_lo248, own_lo768, own_lo880, own_lo895, own_lo8192, own_lo8204, own_lo8206, own_lo8304, own_lo8592, own_lo11264, own_lo12272, own_lo12289, own_lo55296, own_lo63744, own_lo64976, own_lo65008, own_lo65534, own_lo65536, own_hi90, own_hi122, own_hi191, own_hi214, own_hi246, own_hi767, own_hi879, own_hi893, own_hi8191, own_hi8203, own_hi8205, own_hi8303, own_hi8591, own_hi11263, own_hi12271, own_hi12288, own_hi55295, own_hi63743, own_hi64975, own_hi65007, own_hi65533, own_hi65535, own_hi983039, own_eq58, own_eq95, own_eq215, own_eq247, own_eq894, l65, l97, l128, l192, l216, l248, l768, l880, l895, l8192, l8204, l8206, l8304, l8592, l11264, l12272, l12289, l55296, l63744, l64976, l65008, l65534, l65536, u90, u122, u191, u214, u246, u767, u879, u893, u8191, u8203, u8205, u8303, u8591, u11263, u12271, u12288, u55295, u63743, u64975, u65007, u65533, u65535, u983039, q58, q95, q215, q247, q894, if_true, if_false]
theorem own_iv11 (x : Int32) (h1 : 215 ≤ x.toInt) (h2 : x.toInt < 216) : own_f1_0 x = own_f2_0 x := by
  have l65 : (x.toInt < 65) = False := eq_false (by omega)
  have l97 : (x.toInt < 97) = False := eq_false (by omega)
  have l128 : (x.toInt < 128) = False := eq_false (by omega)
  have l192 : (x.toInt < 192) = False := eq_false (by omega)
  have l216 : (x.toInt < 216) = True := eq_true (by omega)
  have l248 : (x.toInt < 248) = True := eq_true (by omega)
  have l768 : (x.toInt < 768) = True := eq_true (by omega)
  have l880 : (x.toInt < 880) = True := eq_true (by omega)
  have l895 : (x.toInt < 895) = True := eq_true (by omega)
  have l8192 : (x.toInt < 8192) = True := eq_true (by omega)
  have l8204 : (x.toInt < 8204) = True := eq_true (by omega)
  have l8206 : (x.toInt < 8206) = True := eq_true (by omega)
  have l8304 : (x.toInt < 8304) = True := eq_true (by omega)
  have l8592 : (x.toInt < 8592) = True := eq_true (by omega)
  have l11264 : (x.toInt < 11264) = True := eq_true (by omega)
  have l12272 : (x.toInt < 12272) = True := eq_true (by omega)
  have l12289 : (x.toInt < 12289) = True := eq_true (by omega)
  have l55296 : (x.toInt < 55296) = True := eq_true (by omega)
  have l63744 : (x.toInt < 63744) = True := eq_true (by omega)
  have l64976 : (x.toInt < 64976) = True := eq_true (by omega)
  have l65008 : (x.toInt < 65008) = True := eq_true (by omega)
  have l65534 : (x.toInt < 65534) = True := eq_true (by omega)
  have l65536 : (x.toInt < 65536) = True := eq_true (by omega)
  have u90 : (90 < x.toInt) = True := eq_true (by omega)
  have u122 : (122 < x.toInt) = True := eq_true (by omega)
  have u191 : (191 < x.toInt) = True := eq_true (by omega)
  have u214 : (214 < x.toInt) = True := eq_true (by omega)
  have u246 : (246 < x.toInt) = False := eq_false (by omega)
  have u767 : (767 < x.toInt) = False := eq_false (by omega)
  have u879 : (879 < x.toInt) = False := eq_false (by omega)
  have u893 : (893 < x.toInt) = False := eq_false (by omega)
  have u8191 : (8191 < x.toInt) = False := eq_false (by omega)
  have u8203 : (8203 < x.toInt) = False := eq_false (by omega)
  have u8205 : (8205 < x.toInt) = False := eq_false (by omega)
  have u8303 : (8303 < x.toInt) = False := eq_false (by omega)
  have u8591 : (8591 < x.toInt) = False := eq_false (by omega)
  have u11263 : (11263 < x.toInt) = False := eq_false (by omega)
  have u12271 : (12271 < x.toInt) = False := eq_false (by omega)
  have u12288 : (12288 < x.toInt) = False := eq_false (by omega)
  have u55295 : (55295 < x.toInt) = False := eq_false (by omega)
  have u63743 : (63743 < x.toInt) = False := eq_false (by omega)
  have u64975 : (64975 < x.toInt) = False := eq_false (by omega)
  have u65007 : (65007 < x.toInt) = False := eq_false (by omega)
  have u65533 : (65533 < x.toInt) = False := eq_false (by omega)
  have u65535 : (65535 < x.toInt) = False := eq_false (by omega)
  have u983039 : (983039 < x.toInt) = False := eq_false (by omega)
  have q58 : (x.toInt = 58) = False := eq_false (by omega)
  have q95 : (x.toInt = 95) = False := eq_false (by omega)
  have q215 : (x.toInt = 215) = True := eq_true (by omega)
  have q247 : (x.toInt = 247) = False := eq_false (by omega)
  have q894 : (x.toInt = 894) = False := eq_false (by omega)
  simp only [own_f1_198, own_f1_186, own_f1_174, own_f1_161, own_f1_147, own_f1_133, own_f1_119, own_f1_105, own_f1_91, own_f1_77, own_f1_63, own_f1_31, own_f1_19, own_f1_0, own_f2_192, own_f2_187, own_f2_0, own_f3_0, own_10, own_00, own_lo65, own_lo97, own_lo128, own_lo192, own_lo216, own_lo248, own_lo768, own_lo880, own_lo895, own_lo8192, own_lo8204, own_lo8206, own_lo8304, own_lo8592, own_lo11264, own_lo12272, own_lo12289, own_lo55296, own_lo63744, own_lo64976, own_lo65008, own_lo65534, own_lo65536, own_hi90, own_hi122, own_hi191, own_hi214, own_hi246, own_hi767, own_hi879, own_hi893, own_hi8191, own_hi8203, own_hi8205, own_hi8303, own_hi8591, own_hi11263, own_hi12271, own_hi12288, own_hi55295, own_hi63743, own_hi64975, own_hi65007, own_hi65533, own_hi65535, own_hi983039, own_eq58, own_eq95, own_eq215, own_eq247, own_eq894, l65, l97, l128, l192, l216, l248, l768, l880, l895, l8192, l8204, l8206, l8304, l8592, l11264, l12272, l12289, l55296, l63744, l64976, l65008, l65534, l65536, u90, u122, u191, u214, u246, u767, u879, u893, u8191, u8203, u8205, u8303, u8591, u11263, u12271, u12288, u55295, u63743, u64975, u65007, u65533, u65535, u983039, q58, q95, q215, q247, q894, if_true, if_false]
theorem own_iv12 (x : Int32) (h1 : 216 ≤ x.toInt) (h2 : x.toInt < 247) : own_f1_0 x = own_f2_0 x := by
  have l65 : (x.toInt < 65) = False := eq_false (by omega)
  have l97 : (x.toInt < 97) = False := eq_false (by omega)
  have l128 : (x.toInt < 128) = False := eq_false (by omega)
  have l192 : (x.toInt < 192) = False := eq_false (by omega)
  have l216 : (x.toInt < 216) = False := eq_false (by omega)
  have l248 : (x.toInt < 248) = True := eq_true (by omega)
  have l768 : (x.toInt < 768) = True := eq_true (by omega)
  have l880 : (x.toInt < 880) = True := eq_true (by omega)
  have l895 : (x.toInt < 895) = True := eq_true (by omega)
  have l8192 : (x.toInt < 8192) = True := eq_true (by omega)
  have l8204 : (x.toInt < 8204) = True := eq_true (by omega)
  have l8206 : (x.toInt < 8206) = True := eq_true (by omega)
  have l8304 : (x.toInt < 8304) = True := eq_true (by omega)
  have l8592 : (x.toInt < 8592) = True := eq_true (by omega)
  have l11264 : (x.toInt < 11264) = True := eq_true (by omega)
  have l12272 : (x.toInt < 12272) = True := eq_true (by omega)
  have l12289 : (x.toInt < 12289) = True := eq_true (by omega)
  have l55296 : (x.toInt < 55296) = True := eq_true (by omega)
  have l63744 : (x.toInt < 63744) = True := eq_true (by omega)
  have l64976 : (x.toInt < 64976) = True := eq_true (by omega)
  have l65008 : (x.toInt < 65008) = True := eq_true (by omega)
  have l65534 : (x.toInt < 65534) = True := eq_true (by omega)
  have l65536 : (x.toInt < 65536) = True := eq_true (by omega)
  have u90 : (90 < x.toInt) = True := eq_true (by omega)
  have u122 : (122 < x.toInt) = True := eq_true (by omega)
  have u191 : (191 < x.toInt) = True := eq_true (by omega)
  have u214 : (214 < x.toInt) = True := eq_true (by omega)
  have u246 : (246 < x.toInt) = False := eq_false (by omega)
  have u767 : (767 < x.toInt) = False := eq_false (by omega)
  have u879 : (879 < x.toInt) = False := eq_false (by omega)
  have u893 : (893 < x.toInt) = False := eq_false (by omega)
  have u8191 : (8191 < x.toInt) = False := eq_false (by omega)
  have u8203 : (8203 < x.toInt) = False := eq_false (by omega)
  have u8205 : (8205 < x.toInt) = False := eq_false (by omega)
  have u8303 : (8303 < x.toInt) = False := eq_false (by omega)
  have u8591 : (8591 < x.toInt) = False := eq_false (by omega)
  have u11263 : (11263 < x.toInt) = False := eq_false (by omega)
  have u12271 : (12271 < x.toInt) = False := eq_false (by omega)
  have u12288 : (12288 < x.toInt) = False := eq_false (by omega)
  have u55295 : (55295 < x.toInt) = False := eq_false (by omega)
  have u63743 : (63743 < x.toInt) = False := eq_false (by omega)
  have u64975 : (64975 < x.toInt) = False := eq_false (by omega)
  have u65007 : (65007 < x.toInt) = False := eq_false (by omega)
  have u65533 : (65533 < x.toInt) = False := eq_false (by omega)
  have u65535 : (65535 < x.toInt) = False := eq_false (by omega)
  have u983039 : (983039 < x.toInt) = False := eq_false (by omega)
  have q58 : (x.toInt = 58) = False := eq_false (by omega)
  have q95 : (x.toInt = 95) = False := eq_false (by omega)
  have q215 : (x.toInt = 215) = False := eq_false (by omega)
  have q247 : (x.toInt = 247) = False := eq_false (by omega)
  have q894 : (x.toInt = 894) = False := eq_false (by omega)
  simp only [own_f1_198, own_f1_186, own_f1_174, own_f1_161, own_f1_147, own_f1_133, own_f1_119, own_f1_105, own_f1_91, own_f1_77, own_f1_63, own_f1_31, own_f1_19, own_f1_0, own_f2_192, own_f2_187, own_f2_0, own_f3_0, own_10, own_00, own_lo65, own_lo97, own_lo128, own_lo192, own_lo216, own_lo248, own_lo768, own_lo880, own_lo895, own_lo8192, own_lo8204, own_lo8206, own_lo8304, own_lo8592, own_lo11264, own_lo12272, own_lo12289, own_lo55296, own_lo63744, own_lo64976, own_lo65008, own_lo65534, own_lo65536, own_hi90, own_hi122, own_hi191, own_hi214, own_hi246, own_hi767, own_hi879, own_hi893, own_hi8191, own_hi8203, own_hi8205, own_hi8303, own_hi8591, own_hi11263, own_hi12271, own_hi12288, own_hi55295, own_hi63743, own_hi64975, own_hi65007, own_hi65533, own_hi65535, own_hi983039, own_eq58, own_eq95, own_eq215, own_eq247, own_eq894, l65, l97, l128, l192, l216, l248, l768, l880, l895, l8192, l8204, l8206, l8304, l8592, l11264, l12272, l12289, l55296, l63744, l64976, l65008, l65534, l65536, u90, u122, u191, u214, u246, u767, u879, u893, u8191, u8203, u8205, u8303, u8591, u11263, u12271, u12288, u55295, u63743, u64975, u65007, u65533, u65535, u983039, q58, q95, q215, q247, q894, if_true, if_false]
theorem own_iv13 (x : Int32) (h1 : 247 ≤ x.toInt) (h2 : x.toInt < 248) : own_f1_0 x = own_f2_0 x := by
  have l65 : (x.toInt < 65) = False := eq_false (by omega)
  have l97 : (x.toInt < 97) = False := eq_false (by omega)
  have l128 : (x.toInt < 128) = False := eq_false (by omega)
  have l192 : (x.toInt < 192) = False := eq_false (by omega)
  have l216 : (x.toInt < 216) = False := eq_false (by omega)
  have l248 : (x.toInt < 248) = True := eq_true (by omega)
  have l768 : (x.toInt < 768) = True := eq_true (by omega)
  have l880 : (x.toInt < 880) = True := eq_true (by omega)
  have l895 : (x.toInt < 895) = True := eq_true (by omega)
  have l8192 : (x.toInt < 8192) = True := eq_true (by omega)
  have l8204 : (x.toInt < 8204) = True := eq_true (by omega)
  have l8206 : (x.toInt < 8206) = True := eq_true (by omega)
  have l8304 : (x.toInt < 8304) = True := eq_true (by omega)
  have l8592 : (x.toInt < 8592) = True := eq_true (by omega)
  have l11264 : (x.toInt < 11264) = True := eq_true (by omega)
  have l12272 : (x.toInt < 12272) = True := eq_true (by omega)
  have l12289 : (x.toInt < 12289) = True := eq_true (by omega)
  have l55296 : (x.toInt < 55296) = True := eq_true (by omega)
  have l63744 : (x.toInt < 63744) = True := eq_true (by omega)
  have l64976 : (x.toInt < 64976) = True := eq_true (by omega)
  have l65008 : (x.toInt < 65008) = True := eq_true (by omega)
  have l65534 : (x.toInt < 65534) = True := eq_true (by omega)
  have l65536 : (x.toInt < 65536) = True := eq_true (by omega)
  have u90 : (90 < x.toInt) = True := eq_true (by omega)
  have u122 : (122 < x.toInt) = True := eq_true (by omega)
  have u191 : (191 < x.toInt) = True := eq_true (by omega)
  have u214 : (214 < x.toInt) = True := eq_true (by omega)
  have u246 : (246 < x.toInt) = True := eq_true (by omega)
  have u767 : (767 < x.toInt) = False := eq_false (by omega)
  have u879 : (879 < x.toInt) = False := eq_false (by omega)
  have u893 : (893 < x.toInt) = False := eq_false (by omega)
  have u8191 : (8191 < x.toInt) = False := eq_false (by omega)
  have u8203 : (8203 < x.toInt) = False := eq_false (by omega)
  have u8205 : (8205 < x.toInt) = False := eq_false (by omega)
  have u8303 : (8303 < x.toInt) = False := eq_false (by omega)
  have u8591 : (8591 < x.toInt) = False := eq_false (by omega)
  have u11263 : (11263 < x.toInt) = False := eq_false (by omega)
  have u12271 : (12271 < x.toInt) = False := eq_false (by omega)
  have u12288 : (12288 < x.toInt) = False := eq_false (by omega)
  have u55295 : (55295 < x.toInt) = False := eq_false (by omega)
  have u63743 : (63743 < x.toInt) = False := eq_false (by omega)
  have u64975 : (64975 < x.toInt) = False := eq_false (by omega)
  have u65007 : (65007 < x.toInt) = False := eq_false (by omega)
  have u65533 : (65533 < x.toInt) = False := eq_false (by omega)
  have u65535 : (65535 < x.toInt) = False := eq_false (by omega)
  have u983039 : (983039 < x.toInt) = False := eq_false (by omega)
  have q58 : (x.toInt = 58) = False := eq_false (by omega)
  have q95 : (x.toInt = 95) = False := eq_false (by omega)
  have q215 : (x.toInt = 215) = False := eq_false (by omega)
  have q247 : (x.toInt = 247) = True := eq_true (by omega)
  have q894 : (x.toInt = 894) = False := eq_false (by omega)
  simp only [own_f1_198, own_f1_186, own_f1_174, own_f1_161, own_f1_147, own_f1_133, own_f1_119, own_f1_105, own_f1_91, own_f1_77, own_f1_63, own_f1_31, own_f1_19, own_f1_0, own_f2_192, own_f2_187, own_f2_0, own_f3_0, own_10, own_00, own_lo65, own_lo97, own_lo128, own_lo192, own_lo216, own_lo248, own_lo768, own_lo880, own_lo895, own_lo8192, own_lo8204, own_lo8206, own_lo8304, own_lo8592, own_lo11264, own_lo12272, own_lo12289, own_lo55296, own_lo63744, own_lo64976, own_lo65008, own_lo65534, own_lo65536, own_hi90, own_hi122, own_hi191, own_hi214, own_hi246, own_hi767, own_hi879, own_hi893, own_hi8191, own_hi8203, own_hi8205, own_hi8303, own_hi8591, own_hi11263, own_hi12271, own_hi12288, own_hi55295, own_hi63743, own_hi64975, own_hi65007, own_hi65533, own_hi65535, own_hi983039, own_eq58, own_eq95, own_eq215, own_eq247, own_eq894, l65, l97, l128, l192, l216, l248, l768, l880, l895, l8192, l8204, l8206, l8304, l8592, l11264, l12272, l12289, l55296, l63744, l64976, l65008, l65534, l65536, u90, u122, u191, u214, u246, u767, u879, u893, u8191, u8203, u8205, u8303, u8591, u11263, u12271, u12288, u55295, u63743, u64975, u65007, u65533, u65535, u983039, q58, q95, q215, q247, q894, if_true, if_false]
theorem own_iv14 (x : Int32) (h1 : 248 ≤ x.toInt) (h2 : x.toInt < 768) : own_f1_0 x = own_f2_0 x := by
  have l65 : (x.toInt < 65) = False := eq_false (by omega)
  have l97 : (x.toInt < 97) = False := eq_false (by omega)
  have l128 : (x.toInt < 128) = False := eq_false (by omega)
  have l192 : (x.toInt < 192) = False := eq_false (by omega)
  have l216 : (x.toInt < 216) = False := eq_false (by omega)
  have l248 : (x.toInt < 248) = False := eq_false (by omega)
  have l768 : (x.toInt < 768) = True := eq_true (by omega)
  have l880 : (x.toInt < 880) = True := eq_true (by omega)
  have l895 : (x.toInt < 895) = True := eq_true (by omega)
  have l8192 : (x.toInt < 8192) = True := eq_true (by omega)
  have l8204 : (x.toInt < 8204) = True := eq_true (by omega)
  have l8206 : (x.toInt < 8206) = True := eq_true (by omega)
  have l8304 : (x.toInt < 8304) = True := eq_true (by omega)
  have l8592 : (x.toInt < 8592) = True := eq_true (by omega)
  have l11264 : (x.toInt < 11264) = True := eq_true (by omega)
  have l12272 : (x.toInt < 12272) = True := eq_true (by omega)
  have l12289 : (x.toInt < 12289) = True := eq_true (by omega)
  have l55296 : (x.toInt < 55296) = True := eq_true (by omega)
  have l63744 : (x.toInt < 63744) = True := eq_true (by omega)
  have l64976 : (x.toInt < 64976) = True := eq_true (by omega)
  have l65008 : (x.toInt < 65008) = True := eq_true (by omega)
  have l65534 : (x.toInt < 65534) = True := eq_true (by omega)
  have l65536 : (x.toInt < 65536) = True := eq_true (by omega)
  have u90 : (90 < x.toInt) = True := eq_true (by omega)
  have u122 : (122 < x.toInt) = True := eq_true (by omega)
  have u191 : (191 < x.toInt) = True := eq_true (by omega)
  have u214 : (214 < x.toInt) = True := eq_true (by omega)
  have u246 : (246 < x.toInt) = True := eq_true (by omega)
  have u767 : (767 < x.toInt) = False := eq_false (by omega)
  have u879 : (879 < x.toInt) = False := eq_false (by omega)
  have u893 : (893 < x.toInt) = False := eq_false (by omega)
  have u8191 : (8191 < x.toInt) = False := eq_false (by omega)
  have u8203 : (8203 < x.toInt) = False := eq_false (by omega)
  have u8205 : (8205 < x.toInt) = False := eq_false (by omega)
  have u8303 : (8303 < x.toInt) = False := eq_false (by omega)
  have u8591 : (8591 < x.toInt) = False := eq_false (by omega)
  have u11263 : (11263 < x.toInt) = False := eq_false (by omega)
  have u12271 : (12271 < x.toInt) = False := eq_false (by omega)
  have u12288 : (12288 < x.toInt) = False := eq_false (by omega)
  have u55295 : (55295 < x.toInt) = False := eq_false (by omega)
  have u63743 : (63743 < x.toInt) = False := eq_false (by omega)
  have u64975 : (64975 < x.toInt) = False := eq_false (by omega)
  have u65007 : (65007 < x.toInt) = False := eq_false (by omega)
  have u65533 : (65533 < x.toInt) = False := eq_false (by omega)
  have u65535 : (65535 < x.toInt) = False := eq_false (by omega)
  have u983039 : (983039 < x.toInt) = False := eq_false (by omega)
  have q58 : (x.toInt = 58) = False := eq_false (by omega)
  have q95 : (x.toInt = 95) = False := eq_false (by omega)
  have q215 : (x.toInt = 215) = False := eq_false (by omega)
  have q247 : (x.toInt = 247) = False := eq_false (by omega)
  have q894 : (x.toInt = 894) = False := eq_false (by omega)
  simp only [own_f1_198, own_f1_186, own_f1_174, own_f1_161, own_f1_147, own_f1_133, own_f1_119, own_f1_105, own_f1_91, own_f1_77, own_f1_63, own_f1_31, own_f1_19, own_f1_0, own_f2_192, own_f2_187, own_f2_0, own_f3_0, own_10, own_00, own_lo65, own_lo97, own_lo128, own_lo192, own_lo216, own_lo248, own_lo768, own_lo880, own_lo895, own_lo8192, own_lo8204, own_lo8206, own_lo8304, own_lo8592, own_lo11264, own_lo12272, own_lo12289, own_lo55296, own_lo63744, own_lo64976, own_lo65008, own_lo65534, own_lo65536, own_hi90, own_hi122, own_hi191, own_hi214, own_hi246, own_hi767, own_hi879, own_hi893, own_hi8191, own_hi8203, own_hi8205, own_hi8303, own_hi8591, own_hi11263, own_hi12271, own_hi12288, own_hi55295, own_hi63743, own_hi64975, own_hi65007, own_hi65533, own_hi65535, own_hi983039, own_eq58, own_eq95, own_eq215, own_eq247, own_eq894, l65, l97, l128, l192, l216, l248, l768, l880, l895, l8192, l8204, l8206, l8304, l8592, l11264, l12272, l12289, l55296, l63744, l64976, l65008, l65534, l65536, u90, u122, u191, u214, u246, u767, u879, u893, u8191, u8203, u8205, u8303, u8591, u11263, u12271, u12288, u55295, u63743, u64975, u65007, u65533, u65535, u983039, q58, q95, q215, q247, q894, if_true, if_false]
theorem own_iv15 (x : Int32) (h1 : 768 ≤ x.toInt) (h2 : x.toInt < 880) : own_f1_0 x = own_f2_0 x := by
  have l65 : (x.toInt < 65) = False := eq_false (by omega)
  have l97 : (x.toInt < 97) = False := eq_false (by omega)
  have l128 : (x.toInt < 128) = False := eq_false (by omega)
  have l192 : (x.toInt < 192) = False := eq_false (by omega)
  have l216 : (x.toInt < 216) = False := eq_false (by omega)
  have l248 : (x.toInt < 248) = False := eq_false (by omega)
  have l768 : (x.toInt < 768) = False := eq_false (by omega)
  have l880 : (x.toInt < 880) = True := eq_true (by omega)
  have l895 : (x.toInt < 895) = True := eq_true (by omega)
  have l8192 : (x.toInt < 8192) = True := eq_true (by omega)
  have l8204 : (x.toInt < 8204) = True := eq_true (by omega)
  have l8206 : (x.toInt < 8206) = True := eq_true (by omega)
  have l8304 : (x.toInt < 8304) = True := eq_true (by omega)
  have l8592 : (x.toInt < 8592) = True := eq_true (by omega)
  have l11264 : (x.toInt < 11264) = True := eq_true (by omega)
  have l12272 : (x.toInt < 12272) = True := eq_true (by omega)
  have l12289 : (x.toInt < 12289) = True := eq_true (by omega)
  have l55296 : (x.toInt < 55296) = True := eq_true (by omega)
  have l63744 : (x.toInt < 63744) = True := eq_true (by omega)
  have l64976 : (x.toInt < 64976) = True := eq_true (by omega)
  have l65008 : (x.toInt < 65008) = True := eq_true (by omega)
  have l65534 : (x.toInt < 65534) = True := eq_true (by omega)
  have l65536 : (x.toInt < 65536) = True := eq_true (by omega)
  have u90 : (90 < x.toInt) = True := eq_true (by omega)
  have u122 : (122 < x.toInt) = True := eq_true (by omega)
  have u191 : (191 < x.toInt) = True := eq_true (by omega)
  have u214 : (214 < x.toInt) = True := eq_true (by omega)
  have u246 : (246 < x.toInt) = True := eq_true (by omega)
  have u767 : (767 < x.toInt) = True := eq_true (by omega)
  have u879 : (879 < x.toInt) = False := eq_false (by omega)
  have u893 : (893 < x.toInt) = False := eq_false (by omega)
  have u8191 : (8191 < x.toInt) = False := eq_false (by omega)
  have u8203 : (8203 < x.toInt) = False := eq_false (by omega)
  have u8205 : (8205 < x.toInt) = False := eq_false (by omega)
  have u8303 : (8303 < x.toInt) = False := eq_false (by omega)
  have u8591 : (8591 < x.toInt) = False := eq_false (by omega)
  have u11263 : (11263 < x.toInt) = False := eq_false (by omega)
  have u12271 : (12271 < x.toInt) = False := eq_false (by omega)
  have u12288 : (12288 < x.toInt) = False := eq_false (by omega)
  have u55295 : (55295 < x.toInt) = False := eq_false (by omega)
  have u63743 : (63743 < x.toInt) = False := eq_false (by omega)
  have u64975 : (64975 < x.toInt) = False := eq_false (by omega)
  have u65007 : (65007 < x.toInt) = False := eq_false (by omega)
  have u65533 : (65533 < x.toInt) = False := eq_false (by omega)
  have u65535 : (65535 < x.toInt) = False := eq_false (by omega)
  have u983039 : (983039 < x.toInt) = False := eq_false (by omega)
  have q58 : (x.toInt = 58) = False := eq_false (by omega)
  have q95 : (x.toInt = 95) = False := eq_false (by omega)
  have q215 : (x.toInt = 215) = False := eq_false (by omega)
  have q247 : (x.toInt = 247) = False := eq_false (by omega)
  have q894 : (x.toInt = 894) = False := eq_false (by omega)
  simp only [own_f1_198, own_f1_186, own_f1_174, own_f1_161, own_f1_147, own_f1_133, own_f1_119, own_f1_105, own_f1_91, own_f1_77, own_f1_63, own_f1_31, own_f1_19, own_f1_0, own_f2_192, own_f2_187, own_f2_0, own_f3_0, own_10, own_00, own_lo65, own_lo97, own_lo128, own_lo192, own_lo216, own_lo248, own_lo768, own_lo880, own_lo895, own_lo8192, own_lo8204, own_lo8206, own_lo8304, own_lo8592, own_lo11264, own_lo12272, own_lo12289, own_lo55296, own_lo63744, own_lo64976, own_lo65008, own_lo65534, own_lo65536, own_hi90, own_hi122, own_hi191, own_hi214, own_hi246, own_hi767, own_hi879, own_hi893, own_hi8191, own_hi8203, own_hi8205, own_hi8303, own_hi8591, own_hi11263, own_hi12271, own_hi12288, own_hi55295, own_hi63743, own_hi64975, own_hi65007, own_hi65533, own_hi65535, own_hi983039, own_eq58, own_eq95, own_eq215, own_eq247, own_eq894, l65, l97, l128, l192, l216, l248, l768, l880, l895, l8192, l8204, l8206, l8304, l8592, l11264, l12272, l12289, l55296, l63744, l64976, l65008, l65534, l65536, u90, u122, u191, u214, u246, u767, u879, u893, u8191, u8203, u8205, u8303, u8591, u11263, u12271, u12288, u55295, u63743, u64975, u65007, u65533, u65535, u983039, q58, q95, q215, q247, q894, if_true, if_false]
theorem own_iv16 (x : Int32) (h1 : 880 ≤ x.toInt) (h2 : x.toInt < 894) : own_f1_0 x = own_f2_0 x := by
  have l65 : (x.toInt < 65) = False := eq_false (by omega)
  have l97 : (x.toInt < 97) = False := eq_false (by omega)
  have l128 : (x.toInt < 128) = False := eq_false (by omega)
  have l192 : (x.toInt < 192) = False := eq_false (by omega)
  have l216 : (x.toInt < 216) = False := eq_false (by omega)
  have l248 : (x.toInt < 248) = False := eq_false (by omega)
  have l768 : (x.toInt < 768) = False := eq_false (by omega)
  have l880 : (x.toInt < 880) = False := eq_false (by omega)
  have l895 : (x.toInt < 895) = True := eq_true (by omega)
  have l8192 : (x.toInt < 8192) = True := eq_true (by omega)
  have l8204 : (x.toInt < 8204) = True := eq_true (by omega)
  have l8206 : (x.toInt < 8206) = True := eq_true (by omega)
  have l8304 : (x.toInt < 8304) = True := eq_true (by omega)
  have l8592 : (x.toInt < 8592) = True := eq_true (by omega)
  have l11264 : (x.toInt < 11264) = True := eq_true (by omega)
  have l12272 : (x.toInt < 12272) = True := eq_true (by omega)
  have l12289 : (x.toInt < 12289) = True := eq_true (by omega)
  have l55296 : (x.toInt < 55296) = True := eq_true (by omega)
  have l63744 : (x.toInt < 63744) = True := eq_true (by omega)
  have l64976 : (x.toInt < 64976) = True := eq_true (by omega)
  have l65008 : (x.toInt < 65008) = True := eq_true (by omega)
  have l65534 : (x.toInt < 65534) = True := eq_true (by omega)
  have l65536 : (x.toInt < 65536) = True := eq_true (by omega)
  have u90 : (90 < x.toInt) = True := eq_true (by omega)
  have u122 : (122 < x.toInt) = True := eq_true (by omega)
  have u191 : (191 < x.toInt) = True := eq_true (by omega)
  have u214 : (214 < x.toInt) = True := eq_true (by omega)
  have u246 : (246 < x.toInt) = True := eq_true (by omega)
  have u767 : (767 < x.toInt) = True := eq_true (by omega)
  have u879 : (879 < x.toInt) = True := eq_true (by omega)
  have u893 : (893 < x.toInt) = False := eq_false (by omega)
  have u8191 : (8191 < x.toInt) = False := eq_false (by omega)
  have u8203 : (8203 < x.toInt) = False := eq_false (by omega)
  have u8205 : (8205 < x.toInt) = False := eq_false (by omega)
  have u8303 : (8303 < x.toInt) = False := eq_false (by omega)
  have u8591 : (8591 < x.toInt) = False := eq_false (by omega)
  have u11263 : (11263 < x.toInt) = False := eq_false (by omega)
  have u12271 : (12271 < x.toInt) = False := eq_false (by omega)
  have u12288 : (12288 < x.toInt) = False := eq_false (by omega)
  have u55295 : (55295 < x.toInt) = False := eq_false (by omega)
  have u63743 : (63743 < x.toInt) = False := eq_false (by omega)
  have u64975 : (64975 < x.toInt) = False := eq_false (by omega)
  have u65007 : (65007 < x.toInt) = False := eq_false (by omega)
  have u65533 : (65533 < x.toInt) = False := eq_false (by omega)
  have u65535 : (65535 < x.toInt) = False := eq_false (by omega)
  have u983039 : (983039 < x.toInt) = False := eq_false (by omega)
  have q58 : (x.toInt = 58) = False := eq_false (by omega)
  have q95 : (x.toInt = 95) = False := eq_false (by omega)
  have q215 : (x.toInt = 215) = False := eq_false (by omega)
  have q247 : (x.toInt = 247) = False := eq_false (by omega)
  have q894 : (x.toInt = 894) = False := eq_false (by omega)
  simp only [own_f1_198, own_f1_186, own_f1_174, own_f1_161, own_f1_147, own_f1_133, own_f1_119, own_f1_105, own_f1_91, own_f1_77, own_f1_63, own_f1_31, own_f1_19, own_f1_0, own_f2_192, own_f2_187, own_f2_0, own_f3_0, own_10, own_00, own_lo65, own_lo97, own_lo128, own_lo192, own_lo216, own_lo248, own_lo768, own_lo880, own_lo895, own_lo8192, own_lo8204, own_lo8206, own_lo8304, own_lo8592, own_lo11264, own_lo12272, own_lo12289, own_lo55296, own_lo63744, own_lo64976, own_lo65008, own_lo65534, own_lo65536, own_hi90, own_hi122, own_hi191, own_hi214, own_hi246, own_hi767, own_hi879, own_hi893, own_hi8191, own_hi8203, own_hi8205, own_hi8303, own_hi8591, own_hi11263, own_hi12271, own_hi12288, own_hi55295, own_hi63743, own_hi64975, own_hi65007, own_hi65533, own_hi65535, own_hi983039, own_eq58, own_eq95, own_eq215, own_eq247, own_eq894, l65, l97, l128, l192, l216, l248, l768, l880, l895, l8192, l8204, l8206, l8304, l8592, l11264, l12272, l12289, l55296, l63744, l64976, l65008, l65534, l65536, u90, u122, u191, u214, u246, u767, u879, u893, u8191, u8203, u8205, u8303, u8591, u11263, u12271, u12288, u55295, u63743, u64975, u65007, u65533, u65535, u983039, q58, q95, q215, q247, q894, if_true, if_false]
theorem own_iv17 (x : Int32) (h1 : 894 ≤ x.toInt) (h2 : x.toInt < 895) : own_f1_0 x = own_f2_0 x := by
  have l65 : (x.toInt < 65) = False := eq_false (by omega)
  have l97 : (x.toInt < 97) = False := eq_false (by omega)
  have l128 : (x.toInt < 128) = False := eq_false (by omega)
  have l192 : (x.toInt < 192) = False := eq_false (by omega)
  have l216 : (x.toInt < 216) = False := eq_false (by omega)
  have l248 : (x.toInt < 248) = False := eq_false (by omega)
  have l768 : (x.toInt < 768) = False := eq_false (by omega)
  have l880 : (x.toInt < 880) = False := eq_false (by omega)
  have l895 : (x.toInt < 895) = True := eq_true (by omega)
  have l8192 : (x.toInt < 8192) = True := eq_true (by omega)
  have l8204 : (x.toInt < 8204) = True := eq_true (by omega)
  have l8206 : (x.toInt < 8206) = True := eq_true (by omega)
  have l8304 : (x.toInt < 8304) = True := eq_true (by omega)
  have l8592 : (x.toInt < 8592) = True := eq_true (by omega)
  have l11264 : (x.toInt < 11264) = True := eq_true (by omega)
  have l12272 : (x.toInt < 12272) = True := eq_true (by omega)
  have l12289 : (x.toInt < 12289) = True := eq_true (by omega)
  have l55296 : (x.toInt < 55296) = True := eq_true (by omega)
  have l63744 : (x.toInt < 63744) = True := eq_true (by omega)
  have l64976 : (x.toInt < 64976) = True := eq_true (by omega)
  have l65008 : (x.toInt < 65008) = True := eq_true (by omega)
  have l65534 : (x.toInt < 65534) = True := eq_true (by omega)
  have l65536 : (x.toInt < 65536) = True := eq_true (by omega)
  have u90 : (90 < x.toInt) = True := eq_true (by omega)
  have u122 : (122 < x.toInt) = True := eq_true (by omega)
  have u191 : (191 < x.toInt) = True := eq_true (by omega)
  have u214 : (214 < x.toInt) = True := eq_true (by omega)
  have u246 : (246 < x.toInt) = True := eq_true (by omega)
  have u767 : (767 < x.toInt) = True := eq_true (by omega)
  have u879 : (879 < x.toInt) = True := eq_true (by omega)
  have u893 : (893 < x.toInt) = True := eq_true (by omega)
  have u8191 : (8191 < x.toInt) = False := eq_false (by omega)
  have u8203 : (8203 < x.toInt) = False := eq_false (by omega)
  have u8205 : (8205 < x.toInt) = False := eq_false (by omega)
  have u8303 : (8303 < x.toInt) = False := eq_false (by omega)
  have u8591 : (8591 < x.toInt) = False := eq_false (by omega)
  have u11263 : (11263 < x.toInt) = False := eq_false (by omega)
  have u12271 : (12271 < x.toInt) = False := eq_false (by omega)
  have u12288 : (12288 < x.toInt) = False := eq_false (by omega)
  have u55295 : (55295 < x.toInt) = False := eq_false (by omega)
  have u63743 : (63743 < x.toInt) = False := eq_false (by omega)
  have u64975 : (64975 < x.toInt) = False := eq_false (by omega)
  have u65007 : (65007 < x.toInt) = False := eq_false (by omega)
  have u65533 : (65533 < x.toInt) = False := eq_false (by omega)
  have u65535 : (65535 < x.toInt) = False := eq_false (by omega)
  have u983039 : (983039 < x.toInt) = False := eq_false (by omega)
  have q58 : (x.toInt = 58) = False := eq_false (by omega)
  have q95 : (x.toInt = 95) = False := eq_false (by omega)
  have q215 : (x.toInt = 215) = False := eq_false (by omega)
  have q247 : (x.toInt = 247) = False := eq_false (by omega)
  have q894 : (x.toInt = 894) = True := eq_true (by omega)
  simp only [own_f1_198, own_f1_186, own_f1_174, own_f1_161, own_f1_147, own_f1_133, own_f1_119, own_f1_105, own_f1_91, own_f1_77, own_f1_63, own_f1_31, own_f1_19, own_f1_0, own_f2_192, own_f2_187, own_f2_0, own_f3_0, own_10, own_00, own_lo65, own_lo97, own_lo128, own_lo192, own_lo216, own_lo248, own_lo768, own_lo880, own_lo895, own_lo8192, own_lo8204, own_lo8206, own_lo8304, own_lo8592, own_lo11264, own_lo12272, own_lo12289, own_lo55296, own_lo63744, own_lo64976, own_lo65008, own_lo65534, own_lo65536, own_hi90, own_hi122, own_hi191, own_hi214, own_hi246, own_hi767, own_hi879, own_hi893, own_hi8191, own_hi8203, own_hi8205, own_hi8303, own_hi8591, own_hi11263, own_hi12271, own_hi12288, own_hi55295, own_hi63743, own_hi64975, own_hi65007, own_hi65533, own_hi65535, own_hi983039, own_eq58, own_eq95, own_eq215, own_eq247, own_eq894, l65, l97, l128, l192, l216, l248, l768, l880, l895, l8192, l8204, l8206, l8304, l8592, l11264, l12272, l12289, l55296, l63744, l64976, l65008, l65534, l65536, u90, u122, u191, u214, u246, u767, u879, u893, u8191, u8203, u8205, u8303, u8591, u11263, u12271, u12288, u55295, u63743, u64975, u65007, u65533, u65535, u983039, q58, q95, q215, q247, q894, if_true, if_false]
theorem own_iv18 (x : Int32) (h1 : 895 ≤ x.toInt) (h2 : x.toInt < 8192) : own_f1_0 x = own_f2_0 x := by
  have l65 : (x.toInt < 65) = False := eq_false (by omega)
  have l97 : (x.toInt < 97) = False := eq_false (by omega)
  have l128 : (x.toInt < 128) = False := eq_false (by omega)
  have l192 : (x.toInt < 192) = False := eq_false (by omega)
  have l216 : (x.toInt < 216) = False := eq_false (by omega)
  have l248 : (x.toInt < 248) = False := eq_false (by omega)
  have l768 : (x.toInt < 768) = False := eq_false (by omega)
  have l880 : (x.toInt < 880) = False := eq_false (by omega)
  have l895 : (x.toInt < 895) = False := eq_false (by omega)
  have l8192 : (x.toInt < 8192) = True := eq_true (by omega)
  have l8204 : (x.toInt < 8204) = True := eq_true (by omega)
  have l8206 : (x.toInt < 8206) = True := eq_true (by omega)
  have l8304 : (x.toInt < 8304) = True := eq_true (by omega)
  have l8592 : (x.toInt < 8592) = True := eq_true (by omega)
  have l11264 : (x.toInt < 11264) = True := eq_true (by omega)
  have l12272 : (x.toInt < 12272) = True := eq_true (by omega)
  have l12289 : (x.toInt < 12289) = True := eq_true (by omega)
  have l55296 : (x.toInt < 55296) = True := eq_true (by omega)
  have l63744 : (x.toInt < 63744) = True := eq_true (by omega)
  have l64976 : (x.toInt < 64976) = True := eq_true (by omega)
  have l65008 : (x.toInt < 65008) = True := eq_true (by omega)
  have l65534 : (x.toInt < 65534) = True := eq_true (by omega)
  have l65536 : (x.toInt < 65536) = True := eq_true (by omega)
  have u90 : (90 < x.toInt) = True := eq_true (by omega)
  have u122 : (122 < x.toInt) = True := eq_true (by omega)
  have u191 : (191 < x.toInt) = True := eq_true (by omega)
  have u214 : (214 < x.toInt) = True := eq_true (by omega)
  have u246 : (246 < x.toInt) = True := eq_true (by omega)
  have u767 : (767 < x.toInt) = True := eq_true (by omega)
  have u879 : (879 < x.toInt) = True := eq_true (by omega)
  have u893 : (893 < x.toInt) = True := eq_true (by omega)
  have u8191 : (8191 < x.toInt) = False := eq_false (by omega)
  have u8203 : (8203 < x.toInt) = False := eq_false (by omega)
  have u8205 : (8205 < x.toInt) = False := eq_false (by omega)
  have u8303 : (8303 < x.toInt) = False := eq_false (by omega)
  have u8591 : (8591 < x.toInt) = False := eq_false (by omega)
  have u11263 : (11263 < x.toInt) = False := eq_false (by omega)
  have u12271 : (12271 < x.toInt) = False := eq_false (by omega)
  have u12288 : (12288 < x.toInt) = False := eq_false (by omega)
  have u55295 : (55295 < x.toInt) = False := eq_false (by omega)
  have u63743 : (63743 < x.toInt) = False := eq_false (by omega)
  have u64975 : (64975 < x.toInt) = False := eq_false (by omega)
  have u65007 : (65007 < x.toInt) = False := eq_false (by omega)
  have u65533 : (65533 < x.toInt) = False := eq_false (by omega)
  have u65535 : (65535 < x.toInt) = False := eq_false (by omega)
  have u983039 : (983039 < x.toInt) = False := eq_false (by omega)
  have q58 : (x.toInt = 58) = False := eq_false (by omega)
  have q95 : (x.toInt = 95) = False := eq_false (by omega)
  have q215 : (x.toInt = 215) = False := eq_false (by omega)
  have q247 : (x.toInt = 247) = False := eq_false (by omega)
  have q894 : (x.toInt = 894) = False := eq_false (by omega)
  simp only [own_f1_198, own_f1_186, own_f1_174, own_f1_161, own_f1_147, own_f1_133, own_f1_119, own_f1_105, own_f1_91, own_f1_77, own_f1_63, own_f1_31, own_f1_19, own_f1_0, own_f2_192, own_f2_187, own_f2_0, own_f3_0, own_10, own_00, own_lo65, own_lo97, own_lo128, own_lo192, own_lo216, own_lo248, own_lo768, own_lo880, own_lo895, own_lo8192, own_lo8204, own_lo8206, own_lo8304, own_lo8592, own_lo11264, own_lo12272, own_lo12289, own_lo55296, own_lo63744, own_lo64976, own_lo65008, own_lo65534, own_lo65536, own_hi90, own_hi122, own_hi191, own_hi214, own_hi246, own_hi767, own_hi879, own_hi893, own_hi8191, own_hi8203, own_hi8205, own_hi8303, own_hi8591, own_hi11263, own_hi12271, own_hi12288, own_hi55295, own_hi63743, own_hi64975, own_hi65007, own_hi65533, own_hi65535, own_hi983039, own_eq58, own_eq95, own_eq215, own_eq247, own_eq894, l65, l97, l128, l192, l216, l248, l768, l880, l895, l8192, l8204, l8206, l8304, l8592, l11264, l12272, l12289, l55296, l63744, l64976, l65008, l65534, l65536, u90, u122, u191, u214, u246, u767, u879, u893, u8191, u8203, u8205, u8303, u8591, u11263, u12271, u12288, u55295, u63743, u64975, u65007, u65533, u65535, u983039, q58, q95, q215, q247, q894, if_true, if_false]
theorem own_iv19 (x : Int32) (h1 : 8192 ≤ x.toInt) (h2 : x.toInt < 8204) : own_f1_0 x = own_f2_0 x := by
  have l65 : (x.toInt < 65) = False := eq_false (by omega)
  have l97 : (x.toInt < 97) = False := eq_false (by omega)
  have l128 : (x.toInt < 128) = False := eq_false (by omega)
  have l192 : (x.toInt < 192) = False := eq_false (by omega)
  have l216 : (x.toInt < 216) = False := eq_false (by omega)
  have l248 : (x.toInt < 248) = False := eq_false (by omega)
  have l768 : (x.toInt < 768) = False := eq_false (by omega)
  have l880 : (x.toInt < 880) = False := eq_false (by omega)
  have l895 : (x.toInt < 895) = False := eq_false (by omega)
  have l8192 : (x.toInt < 8192) = False := eq_false (by omega)
  have l8204 : (x.toInt < 8204) = True := eq_true (by omega)
  have l8206 : (x.toInt < 8206) = True := eq_true (by omega)
  have l8304 : (x.toInt < 8304) = True := eq_true (by omega)
  have l8592 : (x.toInt < 8592) = True := eq_true (by omega)
  have l11264 : (x.toInt < 11264) = True := eq_true (by omega)
  have l12272 : (x.toInt < 12272) = True := eq_true (by omega)
  have l12289 : (x.toInt < 12289) = True := eq_true (by omega)
  have l55296 : (x.toInt < 55296) = True := eq_true (by omega)
  have l63744 : (x.toInt < 63744) = True := eq_true (by omega)
  have l64976 : (x.toInt < 64976) = True := eq_true (by omega)
  have l65008 : (x.toInt < 65008) = True := eq_true (by omega)
  have l65534 : (x.toInt < 65534) = True := eq_true (by omega)
  have l65536 : (x.toInt < 65536) = True := eq_true (by omega)
  have u90 : (90 < x.toInt) = True := eq_true (by omega)
  have u122 : (122 < x.toInt) = True := eq_true (by omega)
  have u191 : (191 < x.toInt) = True := eq_true (by omega)
  have u214 : (214 < x.toInt) = True := eq_true (by omega)
  have u246 : (246 < x.toInt) = True := eq_true (by omega)
  have u767 : (767 < x.toInt) = True := eq_true (by omega)
  have u879 : (879 < x.toInt) = True := eq_true (by omega)
  have u893 : (893 < x.toInt) = True := eq_true (by omega)
  have u8191 : (8191 < x.toInt) = True := eq_true (by omega)
  have u8203 : (8203 < x.toInt) = False := eq_false (by omega)
  have u8205 : (8205 < x.toInt) = False := eq_false (by omega)
  have u8303 : (8303 < x.toInt) = False := eq_false (by omega)
  have u8591 : (8591 < x.toInt) = False := eq_false (by omega)
  have u11263 : (11263 < x.toInt) = False := eq_false (by omega)
  have u12271 : (12271 < x.toInt) = False := eq_false (by omega)
  have u12288 : (12288 < x.toInt) = False := eq_false (by omega)
  have u55295 : (55295 < x.toInt) = False := eq_false (by omega)
  have u63743 : (63743 < x.toInt) = False := eq_false (by omega)
  have u64975 : (64975 < x.toInt) = False := eq_false (by omega)
  have u65007 : (65007 < x.toInt) = False := eq_false (by omega)
  have u65533 : (65533 < x.toInt) = False := eq_false (by omega)
  have u65535 : (65535 < x.toInt) = False := eq_false (by omega)
  have u983039 : (983039 < x.toInt) = False := eq_false (by omega)
  have q58 : (x.toInt = 58) = False := eq_false (by omega)
  have q95 : (x.toInt = 95) = False := eq_false (by omega)
  have q215 : (x.toInt = 215) = False := eq_false (by omega)
  have q247 : (x.toInt = 247) = False := eq_false (by omega)
  have q894 : (x.toInt = 894) = False := eq_false (by omega)
  simp only [own_f1_198, own_f1_186, own_f1_174, own_f1_161, own_f1_147, own_f1_133, own_f1_119, own_f1_105, own_f1_91, own_f1_77, own_f1_63, own_f1_31, own_f1_19, own_f1_0, own_f2_192, own_f2_187, own_f2_0, own_f3_0, own_10, own_00, own_lo65, own_lo97, own_lo128, own_lo192, own_lo216, own_lo248, own_lo768, own_lo880, own_lo895, own_lo8192, own_lo8204, own_lo8206, own_lo8304, own_lo8592, own_lo11264, own_lo12272, own_lo12289, own_lo55296, own_lo63744, own_lo64976, own_lo65008, own_lo65534, own_lo65536, own_hi90, own_hi122, own_hi191, own_hi214, own_hi246, own_hi767, own_hi879, own_hi893, own_hi8191, own_hi8203, own_hi8205, own_hi8303, own_hi8591, own_hi11263, own_hi12271, own_hi12288, own_hi55295, own_hi63743, own_hi64975, own_hi65007, own_hi65533, own_hi65535, own_hi983039, own_eq58, own_eq95, own_eq215, own_eq247, own_eq894, l65, l97, l128, l192, l216, l248, l768, l880, l895, l8192, l8204, l8206, l8304, l8592, l11264, l12272, l12289, l55296, l63744, l64976, l65008, l65534, l65536, u90, u122, u191, u214, u246, u767, u879, u893, u8191, u8203, u8205, u8303, u8591, u11263, u12271, u12288, u55295, u63743, u64975, u65007, u65533, u65535, u983039, q58, q95, q215, q247, q894, if_true, if_false]
theorem own_iv20 (x : Int32) (h1 : 8204 ≤ x.toInt) (h2 : x.toInt < 8206) : own_f1_0 x = own_f2_0 x := by
  have l65 : (x.toInt < 65) = False := eq_false (by omega)
  have l97 : (x.toInt < 97) = False := eq_false (by omega)
  have l128 : (x.toInt < 128) = False := eq_false (by omega)
  have l192 : (x.toInt < 192) = False := eq_false (by omega)
  have l216 : (x.toInt < 216) = False := eq_false (by omega)
  have l248 : (x.toInt < 248) = False := eq_false (by omega)
  have l768 : (x.toInt < 768) = False := eq_false (by omega)
  have l880 : (x.toInt < 880) = False := eq_false (by omega)
  have l895 : (x.toInt < 895) = False := eq_false (by omega)
  have l8192 : (x.toInt < 8192) = False := eq_false (by omega)
  have l8204 : (x.toInt < 8204) = False := eq_false (by omega)
  have l8206 : (x.toInt < 8206) = True := eq_true (by omega)
  have l8304 : (x.toInt < 8304) = True := eq_true (by omega)
  have l8592 : (x.toInt < 8592) = True := eq_true (by omega)
  have l11264 : (x.toInt < 11264) = True := eq_true (by omega)
  have l12272 : (x.toInt < 12272) = True := eq_true (by omega)
  have l12289 : (x.toInt < 12289) = True := eq_true (by omega)
  have l55296 : (x.toInt < 55296) = True := eq_true (by omega)
  have l63744 : (x.toInt < 63744) = True := eq_true (by omega)
  have l64976 : (x.toInt < 64976) = True := eq_true (by omega)
  have l65008 : (x.toInt < 65008) = True := eq_true (by omega)
  have l65534 : (x.toInt < 65534) = True := eq_true (by omega)
  have l65536 : (x.toInt < 65536) = True := eq_true (by omega)
  have u90 : (90 < x.toInt) = True := eq_true (by omega)
  have u122 : (122 < x.toInt) = True := eq_true (by omega)
  have u191 : (191 < x.toInt) = True := eq_true (by omega)
  have u214 : (214 < x.toInt) = True := eq_true (by omega)
  have u246 : (246 < x.toInt) = True := eq_true (by omega)
  have u767 : (767 < x.toInt) = True := eq_true (by omega)
  have u879 : (879 < x.toInt) = True := eq_true (by omega)
  have u893 : (893 < x.toInt) = True := eq_true (by omega)
  have u8191 : (8191 < x.toInt) = True := eq_true (by omega)
  have u8203 : (8203 < x.toInt) = True := eq_true (by omega)
  have u8205 : (8205 < x.toInt) = False := eq_false (by omega)
  have u8303 : (8303 < x.toInt) = False := eq_false (by omega)
  have u8591 : (8591 < x.toInt) = False := eq_false (by omega)
  have u11263 : (11263 < x.toInt) = False := eq_false (by omega)
  have u12271 : (12271 < x.toInt) = False := eq_false (by omega)
  have u12288 : (12288 < x.toInt) = False := eq_false (by omega)
  have u55295 : (55295 < x.toInt) = False := eq_false (by omega)
  have u63743 : (63743 < x.toInt) = False := eq_false (by omega)
  have u64975 : (64975 < x.toInt) = False := eq_false (by omega)
  have u65007 : (65007 < x.toInt) = False := eq_false (by omega)
  have u65533 : (65533 < x.toInt) = False := eq_false (by omega)
  have u65535 : (65535 < x.toInt) = False := eq_false (by omega)
  have u983039 : (983039 < x.toInt) = False := eq_false (by omega)
  have q58 : (x.toInt = 58) = False := eq_false (by omega)
  have q95 : (x.toInt = 95) = False := eq_false (by omega)
  have q215 : (x.toInt = 215) = False := eq_false (by omega)
  have q247 : (x.toInt = 247) = False := eq_false (by omega)
  have q894 : (x.toInt = 894) = False := eq_false (by omega)
  simp only [own_f1_198, own_f1_186, own_f1_174, own_f1_161, own_f1_147, own_f1_133, own_f1_119, own_f1_105, own_f1_91, own_f1_77, own_f1_63, own_f1_31, own_f1_19, own_f1_0, own_f2_192, own_f2_187, own_f2_0, own_f3_0, own_10, own_00, own_lo65, own_lo97, own_lo128, own_lo192, own_lo216, own_lo248, own_lo768, own_lo880, own_lo895, own_lo8192, own_lo8204, own_lo8206, own_lo8304, own_lo8592, own_lo11264, own_lo12272, own_lo12289, own_lo55296, own_lo63744, own_lo64976, own_lo65008, own_lo65534, own_lo65536, own_hi90, own_hi122, own_hi191, own_hi214, own_hi246, own_hi767, own_hi879, own_hi893, own_hi8191, own_hi8203, own_hi8205, own_hi8303, own_hi8591, own_hi11263, own_hi12271, own_hi12288, own_hi55295, own_hi63743, own_hi64975, own_hi65007, own_hi65533, own_hi65535, own_hi983039, own_eq58, own_eq95, own_eq215, own_eq247, own_eq894, l65, l97, l128, l192, l216, l248, l768, l880, l895, l8192, l8204, l8206, l8304, l8592, l11264, l12272, l12289, l55296, l63744, l64976, l65008, l65534, l65536, u90, u122, u191, u214, u246, u767, u879, u893, u8191, u8203, u8205, u8303, u8591, u11263, u12271, u12288, u55295, u63743, u64975, u65007, u65533, u65535, u983039, q58, q95, q215, q247, q894, if_true, if_false]
theorem own_iv21 (x : Int32) (h1 : 8206 ≤ x.toInt) (h2 : x.toInt < 8304) : own_f1_0 x = own_f2_0 x := by
  have l65 : (x.toInt < 65) = False := eq_false (by omega)
  have l97 : (x.toInt < 97) = False := eq_false (by omega)
  have l128 : (x.toInt < 128) = False := eq_false (by omega)
  have l192 : (x.toInt < 192) = False := eq_false (by omega)
  have l216 : (x.toInt < 216) = False := eq_false (by omega)
  have l248 : (x.toInt < 248) = False := eq_false (by omega)
  have l768 : (x.toInt < 768) = False := eq_false (by omega)
  have l880 : (x.toInt < 880) = False := eq_false (by omega)
  have l895 : (x.toInt < 895) = False := eq_false (by omega)
  have l8192 : (x.toInt < 8192) = False := eq_false (by omega)
  have l8204 : (x.toInt < 8204) = False := eq_false (by omega)
  have l8206 : (x.toInt < 8206) = False := eq_false (by omega)
  have l8304 : (x.toInt < 8304) = True := eq_true (by omega)
  have l8592 : (x.toInt < 8592) = True := eq_true (by omega)
  have l11264 : (x.toInt < 11264) = True := eq_true (by omega)
  have l12272 : (x.toInt < 12272) = True := eq_true (by omega)
  have l12289 : (x.toInt < 12289) = True := eq_true (by omega)
  have l55296 : (x.toInt < 55296) = True := eq_true (by omega)
  have l63744 : (x.toInt < 63744) = True := eq_true (by omega)
  have l64976 : (x.toInt < 64976) = True := eq_true (by omega)
  have l65008 : (x.toInt < 65008) = True := eq_true (by omega)
  have l65534 : (x.toInt < 65534) = True := eq_true (by omega)
  have l65536 : (x.toInt < 65536) = True := eq_true (by omega)
  have u90 : (90 < x.toInt) = True := eq_true (by omega)
  have u122 : (122 < x.toInt) = True := eq_true (by omega)
  have u191 : (191 < x.toInt) = True := eq_true (by omega)
  have u214 : (214 < x.toInt) = True := eq_true (by omega)
  have u246 : (246 < x.toInt) = True := eq_true (by omega)
  have u767 : (767 < x.toInt) = True := eq_true (by omega)
  have u879 : (879 < x.toInt) = True := eq_true (by omega)
  have u893 : (893 < x.toInt) = True := eq_true (by omega)
  have u8191 : (8191 < x.toInt) = True := eq_true (by omega)
  have u8203 : (8203 < x.toInt) = True := eq_true (by omega)
  have u8205 : (8205 < x.toInt) = True := eq_true (by omega)
  have u8303 : (8303 < x.toInt) = False := eq_false (by omega)
  have u8591 : (8591 < x.toInt) = False := eq_false (by omega)
  have u11263 : (11263 < x.toInt) = False := eq_false (by omega)
  have u12271 : (12271 < x.toInt) = False := eq_false (by omega)
  have u12288 : (12288 < x.toInt) = False := eq_false (by omega)
  have u55295 : (55295 < x.toInt) = False := eq_false (by omega)
  have u63743 : (63743 < x.toInt) = False := eq_false (by omega)
  have u64975 : (64975 < x.toInt) = False := eq_false (by omega)
  have u65007 : (65007 < x.toInt) = False := eq_false (by omega)
  have u65533 : (65533 < x.toInt) = False := eq_false (by omega)
  have u65535 : (65535 < x.toInt) = False := eq_false (by omega)
  have u983039 : (983039 < x.toInt) = False := eq_false (by omega)
  have q58 : (x.toInt = 58) = False := eq_false (by omega)
  have q95 : (x.toInt = 95) = False := eq_false (by omega)
  have q215 : (x.toInt = 215) = False := eq_false (by omega)
  have q247 : (x.toInt = 247) = False := eq_false (by omega)
  have q894 : (x.toInt = 894) = False := eq_false (by omega)
  simp only [own_f1_198, own_f1_186, own_f1_174, own_f1_161, own_f1_147, own_f1_133, own_f1_119, own_f1_105, own_f1_91, own_f1_77, own_f1_63, own_f1_31, own_f1_19, own_f1_0, own_f2_192, own_f2_187, own_f2_0, own_f3_0, own_10, own_00, own_lo65, own_lo97, own_lo128, own_lo192, own_lo216, own_lo248, own_lo768, own_lo880, own_lo895, own_lo8192, own_lo8204, own_lo8206, own_lo8304, own_lo8592, own_lo11264, own_lo12272, own_lo12289, own_lo55296, own_lo63744, own_lo64976, own_lo65008, own_lo65534, own_lo65536, own_hi90, own_hi122, own_hi191, own_hi214, own_hi246, own_hi767, own_hi879, own_hi893, own_hi8191, own_hi8203, own_hi8205, own_hi8303, own_hi8591, own_hi11263, own_hi12271, own_hi12288, own_hi55295, own_hi63743, own_hi64975, own_hi65007, own_hi65533, own_hi65535, own_hi983039, own_eq58, own_eq95, own_eq215, own_eq247, own_eq894, l65, l97, l128, l192, l216, l248, l768, l880, l895, l8192, l8204, l8206, l8304, l8592, l11264, l12272, l12289, l55296, l63744, l64976, l65008, l65534, l65536, u90, u122, u191, u214, u246, u767, u879, u893, u8191, u8203, u8205, u8303, u8591, u11263, u12271, u12288, u55295, u63743, u64975, u65007, u65533, u65535, u983039, q58, q95, q215, q247, q894, if_true, if_false]
theorem own_iv22 (x : Int32) (h1 : 8304 ≤ x.toInt) (h2 : x.toInt < 8592) : own_f1_0 x = own_f2_0 x := by
  have l65 : (x.toInt < 65) = False := eq_false (by omega)
  have l97 : (x.toInt < 97) = False := eq_false (by omega)
  have l128 : (x.toInt < 128) = False := eq_false (by omega)
  have l192 : (x.toInt < 192) = False := eq_false (by omega)
  have l216 : (x.toInt < 216) = False := eq_false (by omega)
  have l248 : (x.toInt < 248) = False := eq_false (by omega)
  have l768 : (x.toInt < 768) = False := eq_false (by omega)
  have l880 : (x.toInt < 880) = False := eq_false (by omega)
  have l895 : (x.toInt < 895) = False := eq_false (by omega)
  have l8192 : (x.toInt < 8192) = False := eq_false (by omega)
  have l8204 : (x.toInt < 8204) = False := eq_false (by omega)
  have l8206 : (x.toInt < 8206) = False := eq_false (by omega)
  have l8304 : (x.toInt < 8304) = False := eq_false (by omega)
  have l8592 : (x.toInt < 8592) = True := eq_true (by omega)
  have l11264 : (x.toInt < 11264) = True := eq_true (by omega)
  have l12272 : (x.toInt < 12272) = True := eq_true (by omega)
  have l12289 : (x.toInt < 12289) = True := eq_true (by omega)
  have l55296 : (x.toInt < 55296) = True := eq_true (by omega)
  have l63744 : (x.toInt < 63744) = True := eq_true (by omega)
  have l64976 : (x.toInt < 64976) = True := eq_true (by omega)
  have l65008 : (x.toInt < 65008) = True := eq_true (by omega)
  have l65534 : (x.toInt < 65534) = True := eq_true (by omega)
  have l65536 : (x.toInt < 65536) = True := eq_true (by omega)
  have u90 : (90 < x.toInt) = True := eq_true (by omega)
  have u122 : (122 < x.toInt) = True := eq_true (by omega)
  have u191 : (191 < x.toInt) = True := eq_true (by omega)
  have u214 : (214 < x.toInt) = True := eq_true (by omega)
  have u246 : (246 < x.toInt) = True := eq_true (by omega)
  have u767 : (767 < x.toInt) = True := eq_true (by omega)
  have u879 : (879 < x.toInt) = True := eq_true (by omega)
  have u893 : (893 < x.toInt) = True := eq_true (by omega)
  have u8191 : (8191 < x.toInt) = True := eq_true (by omega)
  have u8203 : (8203 < x.toInt) = True := eq_true (by omega)
  have u8205 : (8205 < x.toInt) = True := eq_true (by omega)
  have u8303 : (8303 < x.toInt) = True := eq_true (by omega)
  have u8591 : (8591 < x.toInt) = False := eq_false (by omega)
  have u11263 : (11263 < x.toInt) = False := eq_false (by omega)
  have u12271 : (12271 < x.toInt) = False := eq_false (by omega)
  have u12288 : (12288 < x.toInt) = False := eq_false (by omega)
  have u55295 : (55295 < x.toInt) = False := eq_false (by omega)
  have u63743 : (63743 < x.toInt) = False := eq_false (by omega)
  have u64975 : (64975 < x.toInt) = False := eq_false (by omega)
  have u65007 : (65007 < x.toInt) = False := eq_false (by omega)
  have u65533 : (65533 < x.toInt) = False := eq_false (by omega)
  have u65535 : (65535 < x.toInt) = False := eq_false (by omega)
  have u983039 : (983039 < x.toInt) = False := eq_false (by omega)
  have q58 : (x.toInt = 58) = False := eq_false (by omega)
  have q95 : (x.toInt = 95) = False := eq_false (by omega)
  have q215 : (x.toInt = 215) = False := eq_false (by omega)
  have q247 : (x.toInt = 247) = False := eq_false (by omega)
  have q894 : (x.toInt = 894) = False := eq_false (by omega)
  simp only [own_f1_198, own_f1_186, own_f1_174, own_f1_161, own_f1_147, own_f1_133, own_f1_119, own_f1_105, own_f1_91, own_f1_77, own_f1_63, own_f1_31, own_f1_19, own_f1_0, own_f2_192, own_f2_187, own_f2_0, own_f3_0, own_10, own_00, own_lo65, own_lo97, own_lo128, own_lo192, own_lo216, own_lo248, own_lo768, own_lo880, own_lo895, own_lo8192, own_lo8204, own_lo8206, own_lo8304, own_lo8592, own_lo11264, own_lo12272, own_lo12289, own_lo55296, own_lo63744, own_lo64976, own_lo65008, own_lo65534, own_lo65536, own_hi90, own_hi122, own_hi191, own_hi214, own_hi246, own_hi767, own_hi879, own_hi893, own_hi8191, own_hi8203, own_hi8205, own_hi8303, own_hi8591, own_hi11263, own_hi12271, own_hi12288, own_hi55295, own_hi63743, own_hi64975, own_hi65007, own_hi65533, own_hi65535, own_hi983039, own_eq58, own_eq95, own_eq215, own_eq247, own_eq894, l65, l97, l128, l192, l216, l248, l768, l880, l895, l8192, l8204, l8206, l8304, l8592, l11264, l12272, l12289, l55296, l63744, l64976, l65008, l65534, l65536, u90, u122, u191, u214, u246, u767, u879, u893, u8191, u8203, u8205, u8303, u8591, u11263, u12271, u12288, u55295, u63743, u64975, u65007, u65533, u65535, u983039, q58, q95, q215, q247, q894, if_true, if_false]
theorem own_iv23 (x : Int32) (h1 : 8592 ≤ x.toInt) (h2 : x.toInt < 11264) : own_f1_0 x = own_f2_0 x := by
  have l65 : (x.toInt < 65) = False := eq_false (by omega)
  have l97 : (x.toInt < 97) = False := eq_false (by omega)
  have l128 : (x.toInt < 128) = False := eq_false (by omega)
  have l192 : (x.toInt < 192) = False := eq_false (by omega)
  have l216 : (x.toInt < 216) = False := eq_false (by omega)
  have l248 : (x.toInt < 248) = False := eq_false (by omega)
  have l768 : (x.toInt < 768) = False := eq_false (by omega)
  have l880 : (x.toInt < 880) = False := eq_false (by omega)
  have l895 : (x.toInt < 895) = False := eq_false (by omega)
  have l8192 : (x.toInt < 8192) = False := eq_false (by omega)
  have l8204 : (x.toInt < 8204) = False := eq_false (by omega)
  have l8206 : (x.toInt < 8206) = False := eq_false (by omega)
  have l8304 : (x.toInt < 8304) = False := eq_false (by omega)
  have l8592 : (x.toInt < 8592) = False := eq_false (by omega)
  have l11264 : (x.toInt < 11264) = True := eq_true (by omega)
  have l12272 : (x.toInt < 12272) = True := eq_true (by omega)
  have l12289 : (x.toInt < 12289) = True := eq_true (by omega)
  have l55296 : (x.toInt < 55296) = True := eq_true (by omega)
  have l63744 : (x.toInt < 63744) = True := eq_true (by omega)
  have l64976 : (x.toInt < 64976) = True := eq_true (by omega)
  have l65008 : (x.toInt < 65008) = True := eq_true (by omega)
  have l65534 : (x.toInt < 65534) = True := eq_true (by omega)
  have l65536 : (x.toInt < 65536) = True := eq_true (by omega)
  have u90 : (90 < x.toInt) = True := eq_true (by omega)
  have u122 : (122 < x.toInt) = True := eq_true (by omega)
  have u191 : (191 < x.toInt) = True := eq_true (by omega)
  have u214 : (214 < x.toInt) = True := eq_true (by omega)
  have u246 : (246 < x.toInt) = True := eq_true (by omega)
  have u767 : (767 < x.toInt) = True := eq_true (by omega)
  have u879 : (879 < x.toInt) = True := eq_true (by omega)
  have u893 : (893 < x.toInt) = True := eq_true (by omega)
  have u8191 : (8191 < x.toInt) = True := eq_true (by omega)
  have u8203 : (8203 < x.toInt) = True := eq_true (by omega)
  have u8205 : (8205 < x.toInt) = True := eq_true (by omega)
  have u8303 : (8303 < x.toInt) = True := eq_true (by omega)
  have u8591 : (8591 < x.toInt) = True := eq_true (by omega)
  have u11263 : (11263 < x.toInt) = False := eq_false (by omega)
  have u12271 : (12271 < x.toInt) = False := eq_false (by omega)
  have u12288 : (12288 < x.toInt) = False := eq_false (by omega)
  have u55295 : (55295 < x.toInt) = False := eq_false (by omega)
  have u63743 : (63743 < x.toInt) = False := eq_false (by omega)
  have u64975 : (64975 < x.toInt) = False := eq_false (by omega)
  have u65007 : (65007 < x.toInt) = False := eq_false (by omega)
  have u65533 : (65533 < x.toInt) = False := eq_false (by omega)
  have u65535 : (65535 < x.toInt) = False := eq_false (by omega)
  have u983039 : (983039 < x.toInt) = False := eq_false (by omega)
  have q58 : (x.toInt = 58) = False := eq_false (by omega)
  have q95 : (x.toInt = 95) = False := eq_false (by omega)
  have q215 : (x.toInt = 215) = False := eq_false (by omega)
  have q247 : (x.toInt = 247) = False := eq_false (by omega)
  have q894 : (x.toInt = 894) = False := eq_false (by omega)
  simp only [own_f1_198, own_f1_186, own_f1_174, own_f1_161, own_f1_147, own_f1_133, own_f1_119, own_f1_105, own_f1_91, own_f1_77, own_f1_63, own_f1_31, own_f1_19, own_f1_0, own_f2_192, own_f2_187, own_f2_0, own_f3_0, own_10, own_00, own_lo65, own_lo97, own_lo128, own_lo192, own_lo216, own_lo248, own_lo768, own_lo880, own_lo895, own_lo8192, own_lo8204, own_lo8206, own_lo8304, own_lo8592, own_lo11264, own_lo12272, own_lo12289, own_lo55296, own_lo63744, own_lo64976, own_lo65008, own_lo65534, own_lo65536, own_hi90, own_hi122, own_hi191, own_hi214, own_hi246, own_hi767, own_hi879, own_hi893, own_hi8191, own_hi8203, own_hi8205, own_hi8303, own_hi8591, own_hi11263, own_hi12271, own_hi12288, own_hi55295, own_hi63743, own_hi64975, own_hi65007, own_hi65533, own_hi65535, own_hi983039, own_eq58, own_eq95, own_eq215, own_eq247, own_eq894, l65, l97, l128, l192, l216, l248, l768, l880, l895, l8192, l8204, l8206, l8304, l8592, l11264, l12272, l12289, l55296, l63744, l64976, l65008, l65534, l65536, u90, u122, u191, u214, u246, u767, u879, u893, u8191, u8203, u8205, u8303, u8591, u11263, u12271, u12288, u55295, u63743, u64975, u65007, u65533, u65535, u983039, q58, q95, q215, q247, q894, if_true, if_false]
theorem own_iv24 (x : Int32) (h1 : 11264 ≤ x.toInt) (h2 : x.toInt < 12272) : own_f1_0 x = own_f2_0 x := by
  have l65 : (x.toInt < 65) = False := eq_false (by omega)
  have l97 : (x.toInt < 97) = False := eq_false (by omega)
  have l128 : (x.toInt < 128) = False := eq_false (by omega)
  have l192 : (x.toInt < 192) = False := eq_false (by omega)
  have l216 : (x.toInt < 216) = False := eq_false (by omega)
  have l248 : (x.toInt < 248) = False := eq_false (by omega)
  have l768 : (x.toInt < 768) = False := eq_false (by omega)
  have l880 : (x.toInt < 880) = False := eq_false (by omega)
  have l895 : (x.toInt < 895) = False := eq_false (by omega)
  have l8192 : (x.toInt < 8192) = False := eq_false (by omega)
  have l8204 : (x.toInt < 8204) = False := eq_false (by omega)
  have l8206 : (x.toInt < 8206) = False := eq_false (by omega)
  have l8304 : (x.toInt < 8304) = False := eq_false (by omega)
  have l8592 : (x.toInt < 8592) = False := eq_false (by omega)
  have l11264 : (x.toInt < 11264) = False := eq_false (by omega)
  have l12272 : (x.toInt < 12272) = True := eq_true (by omega)
  have l12289 : (x.toInt < 12289) = True := eq_true (by omega)
  have l55296 : (x.toInt < 55296) = True := eq_true (by omega)
  have l63744 : (x.toInt < 63744) = True := eq_true (by omega)
  have l64976 : (x.toInt < 64976) = True := eq_true (by omega)
  have l65008 : (x.toInt < 65008) = True := eq_true (by omega)
  have l65534 : (x.toInt < 65534) = True := eq_true (by omega)
  have l65536 : (x.toInt < 65536) = True := eq_true (by omega)
  have u90 : (90 < x.toInt) = True := eq_true (by omega)
  have u122 : (122 < x.toInt) = True := eq_true (by omega)
  have u191 : (191 < x.toInt) = True := eq_true (by omega)
  have u214 : (214 < x.toInt) = True := eq_true (by omega)
  have u246 : (246 < x.toInt) = True := eq_true (by omega)
  have u767 : (767 < x.toInt) = True := eq_true (by omega)
  have u879 : (879 < x.toInt) = True := eq_true (by omega)
  have u893 : (893 < x.toInt) = True := eq_true (by omega)
  have u8191 : (8191 < x.toInt) = True := eq_true (by omega)
  have u8203 : (8203 < x.toInt) = True := eq_true (by omega)
  have u8205 : (8205 < x.toInt) = True := eq_true (by omega)
  have u8303 : (8303 < x.toInt) = True := eq_true (by omega)
  have u8591 : (8591 < x.toInt) = True := eq_true (by omega)
  have u11263 : (11263 < x.toInt) = True := eq_true (by omega)
  have u12271 : (12271 < x.toInt) = False := eq_false (by omega)
  have u12288 : (12288 < x.toInt) = False := eq_false (by omega)
  have u55295 : (55295 < x.toInt) = False := eq_false (by omega)
  have u63743 : (63743 < x.toInt) = False := eq_false (by omega)
  have u64975 : (64975 < x.toInt) = False := eq_false (by omega)
  have u65007 : (65007 < x.toInt) = False := eq_false (by omega)
  have u65533 : (65533 < x.toInt) = False := eq_false (by omega)
  have u65535 : (65535 < x.toInt) = False := eq_false (by omega)
  have u983039 : (983039 < x.toInt) = False := eq_false (by omega)
  have q58 : (x.toInt = 58) = False := eq_false (by omega)
  have q95 : (x.toInt = 95) = False := eq_false (by omega)
  have q215 : (x.toInt = 215) = False := eq_false (by omega)
  have q247 : (x.toInt = 247) = False := eq_false (by omega)
  have q894 : (x.toInt = 894) = False := eq_false (by omega)
  simp only [own_f1_198, own_f1_186, own_f1_174, own_f1_161, own_f1_147, own_f1_133, own_f1_119, own_f1_105, own_f1_91, own_f1_77, own_f1_63, own_f1_31, own_f1_19, own_f1_0, own_f2_192, own_f2_187, own_f2_0, own_f3_0, own_10, own_00, own_lo65, own_lo97, own_lo128, own_lo192, own_lo216, own_lo248, own_lo768, own_lo880, own_lo895, own_lo8192, own_lo8204, own_lo8206, own_lo8304, own_lo8592, own_lo11264, own_lo12272, own_lo12289, own_lo55296, own_lo63744, own_lo64976, own_lo65008, own_lo65534, own_lo65536, own_hi90, own_hi122, own_hi191, own_hi214, own_hi246, own_hi767, own_hi879, own_hi893, own_hi8191, own_hi8203, own_hi8205, own_hi8303, own_hi8591, own_hi11263, own_hi12271, own_hi12288, own_hi55295, own_hi63743, own_hi64975, own_hi65007, own_hi65533, own_hi65535, own_hi983039, own_eq58, own_eq95, own_eq215, own_eq247, own_eq894, l65, l97, l128, l192, l216, l248, l768, l880, l895, l8192, l8204, l8206, l8304, l8592, l11264, l12272, l12289, l55296, l63744, l64976, l65008, l65534, l65536, u90, u122, u191, u214, u246, u767, u879, u893, u8191, u8203, u8205, u8303, u8591, u11263, u12271, u12288, u55295, u63743, u64975, u65007, u65533, u65535, u983039, q58, q95, q215, q247, q894, if_true, if_false]
theorem own_iv25 (x : Int32) (h1 : 12272 ≤ x.toInt) (h2 : x.toInt < 12289) : own_f1_0 x = own_f2_0 x := by
  have l65 : (x.toInt < 65) = False := eq_false (by omega)
  have l97 : (x.toInt < 97) = False := eq_false (by omega)
  have l128 : (x.toInt < 128) = False := eq_false (by omega)
  have l192 : (x.toInt < 192) = False := eq_false (by omega)
  have l216 : (x.toInt < 216) = False := eq_false (by omega)
  have l248 : (x.toInt < 248) = False := eq_false (by omega)
  have l768 : (x.toInt < 768) = False := eq_false (by omega)
  have l880 : (x.toInt < 880) = False := eq_false (by omega)
  have l895 : (x.toInt < 895) = False := eq_false (by omega)
  have l8192 : (x.toInt < 8192) = False := eq_false (by omega)
  have l8204 : (x.toInt < 8204) = False := eq_false (by omega)
  have l8206 : (x.toInt < 8206) = False := eq_false (by omega)
  have l8304 : (x.toInt < 8304) = False := eq_false (by omega)
  have l8592 : (x.toInt < 8592) = False := eq_false (by omega)
  have l11264 : (x.toInt < 11264) = False := eq_false (by omega)
  have l12272 : (x.toInt < 12272) = False := eq_false (by omega)
  have l12289 : (x.toInt < 12289) = True := eq_true (by omega)
  have l55296 : (x.toInt < 55296) = True := eq_true (by omega)
  have l63744 : (x.toInt < 63744) = True := eq_true (by omega)
  have l64976 : (x.toInt < 64976) = True := eq_true (by omega)
  have l65008 : (x.toInt < 65008) = True := eq_true (by omega)
  have l65534 : (x.toInt < 65534) = True := eq_true (by omega)
  have l65536 : (x.toInt < 65536) = True := eq_true (by omega)
  have u90 : (90 < x.toInt) = True := eq_true (by omega)
  have u122 : (122 < x.toInt) = True := eq_true (by omega)
  have u191 : (191 < x.toInt) = True := eq_true (by omega)
  have u214 : (214 < x.toInt) = True := eq_true (by omega)
  have u246 : (246 < x.toInt) = True := eq_true (by omega)
  have u767 : (767 < x.toInt) = True := eq_true (by omega)
  have u879 : (879 < x.toInt) = True := eq_true (by omega)
  have u893 : (893 < x.toInt) = True := eq_true (by omega)
  have u8191 : (8191 < x.toInt) = True := eq_true (by omega)
  have u8203 : (8203 < x.toInt) = True := eq_true (by omega)
  have u8205 : (8205 < x.toInt) = True := eq_true (by omega)
  have u8303 : (8303 < x.toInt) = True := eq_true (by omega)
  have u8591 : (8591 < x.toInt) = True := eq_true (by omega)
  have u11263 : (11263 < x.toInt) = True := eq_true (by omega)
  have u12271 : (12271 < x.toInt) = True := eq_true (by omega)
  have u12288 : (12288 < x.toInt) = False := eq_false (by omega)
  have u55295 : (55295 < x.toInt) = False := eq_false (by omega)
  have u63743 : (63743 < x.toInt) = False := eq_false (by omega)
  have u64975 : (64975 < x.toInt) = False := eq_false (by omega)
  have u65007 : (65007 < x.toInt) = False := eq_false (by omega)
  have u65533 : (65533 < x.toInt) = False := eq_false (by omega)
  have u65535 : (65535 < x.toInt) = False := eq_false (by omega)
  have u983039 : (983039 < x.toInt) = False := eq_false (by omega)
  have q58 : (x.toInt = 58) = False := eq_false (by omega)
  have q95 : (x.toInt = 95) = False := eq_false (by omega)
  have q215 : (x.toInt = 215) = False := eq_false (by omega)
  have q247 : (x.toInt = 247) = False := eq_false (by omega)
  have q894 : (x.toInt = 894) = False := eq_false (by omega)
  simp only [own_f1_198, own_f1_186, own_f1_174, own_f1_161, own_f1_147, own_f1_133, own_f1_119, own_f1_105, own_f1_91, own_f1_77, own_f1_63, own_f1_31, own_f1_19, own_f1_0, own_f2_192, own_f2_187, own_f2_0, own_f3_0, own_10, own_00, own_lo65, own_lo97, own_lo128, own_lo192, own_lo216, own_lo248, own_lo768, own_lo880, own_lo895, own_lo8192, own_lo8204, own_lo8206, own_lo8304, own_lo8592, own_lo11264, own_lo12272, own_lo12289, own_lo55296, own_lo63744, own_lo64976, own_lo65008, own_lo65534, own_lo65536, own_hi90, own_hi122, own_hi191, own_hi214, own_hi246, own_hi767, own_hi879, own_hi893, own_hi8191, own_hi8203, own_hi8205, own_hi8303, own_hi8591, own_hi11263, own_hi12271, own_hi12288, own_hi55295, own_hi63743, own_hi64975, own_hi65007, own_hi65533, own_hi65535, own_hi983039, own_eq58, own_eq95, own_eq215, own_eq247, own_eq894, l65, l97, l128, l192, l216, l248, l768, l880, l895, l8192, l8204, l8206, l8304, l8592, l11264, l12272, l12289, l55296, l63744, l64976, l65008, l65534, l65536, u90, u122, u191, u214, u246, u767, u879, u893, u8191, u8203, u8205, u8303, u8591, u11263, u12271, u12288, u55295, u63743, u64975, u65007, u65533, u65535, u983039, q58, q95, q215, q247, q894, if_true, if_false]
theorem own_iv26 (x : Int32) (h1 : 12289 ≤ x.toInt) (h2 : x.toInt < 55296) : own_f1_0 x = own_f2_0 x := by
  have l65 : (x.toInt < 65) = False := eq_false (by omega)
  have l97 : (x.toInt < 97) = False := eq_false (by omega)
  have l128 : (x.toInt < 128) = False := eq_false (by omega)
  have l192 : (x.toInt < 192) = False := eq_false (by omega)
  have l216 : (x.toInt < 216) = False := eq_false (by omega)
  have l248 : (x.toInt < 248) = False := eq_false (by omega)
  have l768 : (x.toInt < 768) = False := eq_false (by omega)
  have l880 : (x.toInt < 880) = False := eq_false (by omega)
  have l895 : (x.toInt < 895) = False := eq_false (by omega)
  have l8192 : (x.toInt < 8192) = False := eq_false (by omega)
  have l8204 : (x.toInt < 8204) = False := eq_false (by omega)
  have l8206 : (x.toInt < 8206) = False := eq_false (by omega)
  have l8304 : (x.toInt < 8304) = False := eq_false (by omega)
  have l8592 : (x.toInt < 8592) = False := eq_false (by omega)
  have l11264 : (x.toInt < 11264) = False := eq_false (by omega)
  have l12272 : (x.toInt < 12272) = False := eq_false (by omega)
  have l12289 : (x.toInt < 12289) = False := eq_false (by omega)
  have l55296 : (x.toInt < 55296) = True := eq_true (by omega)
  have l63744 : (x.toInt < 63744) = True := eq_true (by omega)
  have l64976 : (x.toInt < 64976) = True := eq_true (by omega)
  have l65008 : (x.toInt < 65008) = True := eq_true (by omega)
  have l65534 : (x.toInt < 65534) = True := eq_true (by omega)
  have l65536 : (x.toInt < 65536) = True := eq_true (by omega)
  have u90 : (90 < x.toInt) = True := eq_true (by omega)
  have u122 : (122 < x.toInt) = True := eq_true (by omega)
  have u191 : (191 < x.toInt) = True := eq_true (by omega)
  have u214 : (214 < x.toInt) = True := eq_true (by omega)
  have u246 : (246 < x.toInt) = True := eq_true (by omega)
  have u767 : (767 < x.toInt) = True := eq_true (by omega)
  have u879 : (879 < x.toInt) = True := eq_true (by omega)
  have u893 : (893 < x.toInt) = True := eq_true (by omega)
  have u8191 : (8191 < x.toInt) = True := eq_true (by omega)
  have u8203 : (8203 < x.toInt) = True := eq_true (by omega)
  have u8205 : (8205 < x.toInt) = True := eq_true (by omega)
  have u8303 : (8303 < x.toInt) = True := eq_true (by omega)
  have u8591 : (8591 < x.toInt) = True := eq_true (by omega)
  have u11263 : (11263 < x.toInt) = True := eq_true (by omega)
  have u12271 : (12271 < x.toInt) = True := eq_true (by omega)
  have u12288 : (12288 < x.toInt) = True := eq_true (by omega)
  have u55295 : (55295 < x.toInt) = False := eq_false (by omega)
  have u63743 : (63743 < x.toInt) = False := eq_false (by omega)
  have u64975 : (64975 < x.toInt) = False := eq_false (by omega)
  have u65007 : (65007 < x.toInt) = False := eq_false (by omega)
  have u65533 : (65533 < x.toInt) = False := eq_false (by omega)
  have u65535 : (65535 < x.toInt) = False := eq_false (by omega)
  have u983039 : (983039 < x.toInt) = False := eq_false (by omega)
  have q58 : (x.toInt = 58) = False := eq_false (by omega)
  have q95 : (x.toInt = 95) = False := eq_false (by omega)
  have q215 : (x.toInt = 215) = False := eq_false (by omega)
  have q247 : (x.toInt = 247) = False := eq_false (by omega)
  have q894 : (x.toInt = 894) = False := eq_false (by omega)
  simp only [own_f1_198, own_f1_186, own_f1_174, own_f1_161, own_f1_147, own_f1_133, own_f1_119, own_f1_105, own_f1_91, own_f1_77, own_f1_63, own_f1_31, own_f1_19, own_f1_0, own_f2_192, own_f2_187, own_f2_0, own_f3_0, own_10, own_00, own_lo65, own_lo97, own_lo128, own_lo192, own_lo216, own_lo248, own_lo768, own_lo880, own_lo895, own_lo8192, own_lo8204, own_lo8206, own_lo8304, own_lo8592, own_lo11264, own_lo12272, own_lo12289, own_lo55296, own_lo63744, own_lo64976, own_lo65008, own_lo65534, own_lo65536, own_hi90, own_hi122, own_hi191, own_hi214, own_hi246, own_hi767, own_hi879, own_hi893, own_hi8191, own_hi8203, own_hi8205, own_hi8303, own_hi8591, own_hi11263, own_hi12271, own_hi12288, own_hi55295, own_hi63743, own_hi64975, own_hi65007, own_hi65533, own_hi65535, own_hi983039, own_eq58, own_eq95, own_eq215, own_eq247, own_eq894, l65, l97, l128, l192, l216, l248, l768, l880, l895, l8192, l8204, l8206, l8304, l8592, l11264, l12272, l12289, l55296, l63744, l64976, l65008, l65534, l65536, u90, u122, u191, u214, u246, u767, u879, u893, u8191, u8203, u8205, u8303, u8591, u11263, u12271, u12288, u55295, u63743, u64975, u65007, u65533, u65535, u983039, q58, q95, q215, q247, q894, if_true, if_false]
theorem own_iv27 (x : Int32) (h1 : 55296 ≤ x.toInt) (h2 : x.toInt < 63744) : own_f1_0 x = own_f2_0 x := by
  have l65 : (x.toInt < 65) = False := eq_false (by omega)
  have l97 : (x.toInt < 97) = False := eq_false (by omega)
  have l128 : (x.toInt < 128) = False := eq_false (by omega)
  have l192 : (x.toInt < 192) = False := eq_false (by omega)
  have l216 : (x.toInt < 216) = False := eq_false (by omega)
  have l248 : (x.toInt < 248) = False := eq_false (by omega)
  have l768 : (x.toInt < 768) = False := eq_false (by omega)
  have l880 : (x.toInt < 880) = False := eq_false (by omega)
  have l895 : (x.toInt < 895) = False := eq_false (by omega)
  have l8192 : (x.toInt < 8192) = False := eq_false (by omega)
  have l8204 : (x.toInt < 8204) = False := eq_false (by omega)
  have l8206 : (x.toInt < 8206) = False := eq_false (by omega)
  have l8304 : (x.toInt < 8304) = False := eq_false (by omega)
  have l8592 : (x.toInt < 8592) = False := eq_false (by omega)
  have l11264 : (x.toInt < 11264) = False := eq_false (by omega)
  have l12272 : (x.toInt < 12272) = False := eq_false (by omega)
  have l12289 : (x.toInt < 12289) = False := eq_false (by omega)
  have l55296 : (x.toInt < 55296) = False := eq_false (by omega)
  have l63744 : (x.toInt < 63744) = True := eq_true (by omega)
  have l64976 : (x.toInt < 64976) = True := eq_true (by omega)
  have l65008 : (x.toInt < 65008) = True := eq_true (by omega)
  have l65534 : (x.toInt < 65534) = True := eq_true (by omega)
  have l65536 : (x.toInt < 65536) = True := eq_true (by omega)
  have u90 : (90 < x.toInt) = True := eq_true (by omega)
  have u122 : (122 < x.toInt) = True := eq_true (by omega)
  have u191 : (191 < x.toInt) = True := eq_true (by omega)
  have u214 : (214 < x.toInt) = True := eq_true (by omega)
  have u246 : (246 < x.toInt) = True := eq_true (by omega)
  have u767 : (767 < x.toInt) = True := eq_true (by omega)
  have u879 : (879 < x.toInt) = True := eq_true (by omega)
  have u893 : (893 < x.toInt) = True := eq_true (by omega)
  have u8191 : (8191 < x.toInt) = True := eq_true (by omega)
  have u8203 : (8203 < x.toInt) = True := eq_true (by omega)
  have u8205 : (8205 < x.toInt) = True := eq_true (by omega)
  have u8303 : (8303 < x.toInt) = True := eq_true (by omega)
  have u8591 : (8591 < x.toInt) = True := eq_true (by omega)
  have u11263 : (11263 < x.toInt) = True := eq_true (by omega)
  have u12271 : (12271 < x.toInt) = True := eq_true (by omega)
  have u12288 : (12288 < x.toInt) = True := eq_true (by omega)
  have u55295 : (55295 < x.toInt) = True := eq_true (by omega)
  have u63743 : (63743 < x.toInt) = False := eq_false (by omega)
  have u64975 : (64975 < x.toInt) = False := eq_false (by omega)
  have u65007 : (65007 < x.toInt) = False := eq_false (by omega)
  have u65533 : (65533 < x.toInt) = False := eq_false (by omega)
  have u65535 : (65535 < x.toInt) = False := eq_false (by omega)
  have u983039 : (983039 < x.toInt) = False := eq_false (by omega)
  have q58 : (x.toInt = 58) = False := eq_false (by omega)
  have q95 : (x.toInt = 95) = False := eq_false (by omega)
  have q215 : (x.toInt = 215) = False := eq_false (by omega)
  have q247 : (x.toInt = 247) = False := eq_false (by omega)
  have q894 : (x.toInt = 894) = False := eq_false (by omega)
  simp only [own_f1_198, own_f1_186, own_f1_174, own_f1_161, own_f1_147, own_f1_133, own_f1_119, own_f1_105, own_f1_91, own_f1_77, own_f1_63, own_f1_31, own_f1_19, own_f1_0, own_f2_192, own_f2_187, own_f2_0, own_f3_0, own_10, own_00, own_lo65, own_lo97, own_lo128, own_lo192, own_lo216, own_lo248, own_lo768, own_lo880, own_lo895, own_lo8192, own_lo8204, own_lo8206, own_lo8304, own_lo8592, own_lo11264, own_lo12272, own_lo12289, own_lo55296, own_lo63744, own_lo64976, own_lo65008, own_lo65534, own_lo65536, own_hi90, own_hi122, own_hi191, own_hi214, own_hi246, own_hi767, own_hi879, own_hi893, own_hi8191, own_hi8203, own_hi8205, own_hi8303, own_hi8591, own_hi11263, own_hi12271, own_hi12288, own_hi55295, own_hi63743, own_hi64975, own_hi65007, own_hi65533, own_hi65535, own_hi983039, own_eq58, own_eq95, own_eq215, own_eq247, own_eq894, l65, l97, l128, l192, l216, l248, l768, l880, l895, l8192, l8204, l8206, l8304, l8592, l11264, l12272, l12289, l55296, l63744, l64976, l65008, l65534, l65536, u90, u122, u191, u214, u246, u767, u879, u893, u8191, u8203, u8205, u8303, u8591, u11263, u12271, u12288, u55295, u63743, u64975, u65007, u65533, u65535, u983039, q58, q95, q215, q247, q894, if_true, if_false]
theorem own_iv28 (x : Int32) (h1 : 63744 ≤ x.toInt) (h2 : x.toInt < 64976) : own_f1_0 x = own_f2_0 x := by
  have l65 : (x.toInt < 65) = False := eq_false (by omega)
  have l97 : (x.toInt < 97) = False := eq_false (by omega)
  have l128 : (x.toInt < 128) = False := eq_false (by omega)
  have l192 : (x.toInt < 192) = False := eq_false (by omega)
  have l216 : (x.toInt < 216) = False := eq_false (by omega)
  have l248 : (x.toInt < 248) = False := eq_false (by omega)
  have l768 : (x.toInt < 768) = False := eq_false (by omega)
  have l880 : (x.toInt < 880) = False := eq_false (by omega)
  have l895 : (x.toInt < 895) = False := eq_false (by omega)
  have l8192 : (x.toInt < 8192) = False := eq_false (by omega)
  have l8204 : (x.toInt < 8204) = False := eq_false (by omega)
  have l8206 : (x.toInt < 8206) = False := eq_false (by omega)
  have l8304 : (x.toInt < 8304) = False := eq_false (by omega)
  have l8592 : (x.toInt < 8592) = False := eq_false (by omega)
  have l11264 : (x.toInt < 11264) = False := eq_false (by omega)
  have l12272 : (x.toInt < 12272) = False := eq_false (by omega)
  have l12289 : (x.toInt < 12289) = False := eq_false (by omega)
  have l55296 : (x.toInt < 55296) = False := eq_false (by omega)
  have l63744 : (x.toInt < 63744) = False := eq_false (by omega)
  have l64976 : (x.toInt < 64976) = True := eq_true (by omega)
  have l65008 : (x.toInt < 65008) = True := eq_true (by omega)
  have l65534 : (x.toInt < 65534) = True := eq_true (by omega)
  have l65536 : (x.toInt < 65536) = True := eq_true (by omega)
  have u90 : (90 < x.toInt) = True := eq_true (by omega)
  have u122 : (122 < x.toInt) = True := eq_true (by omega)
  have u191 : (191 < x.toInt) = True := eq_true (by omega)
  have u214 : (214 < x.toInt) = True := eq_true (by omega)
  have u246 : (246 < x.toInt) = True := eq_true (by omega)
  have u767 : (767 < x.toInt) = True := eq_true (by omega)
  have u879 : (879 < x.toInt) = True := eq_true (by omega)
  have u893 : (893 < x.toInt) = True := eq_true (by omega)
  have u8191 : (8191 < x.toInt) = True := eq_true (by omega)
  have u8203 : (8203 < x.toInt) = True := eq_true (by omega)
  have u8205 : (8205 < x.toInt) = True := eq_true (by omega)
  have u8303 : (8303 < x.toInt) = True := eq_true (by omega)
  have u8591 : (8591 < x.toInt) = True := eq_true (by omega)
  have u11263 : (11263 < x.toInt) = True := eq_true (by omega)
  have u12271 : (12271 < x.toInt) = True := eq_true (by omega)
  have u12288 : (12288 < x.toInt) = True := eq_true (by omega)
  have u55295 : (55295 < x.toInt) = True := eq_true (by omega)
  have u63743 : (63743 < x.toInt) = True := eq_true (by omega)
  have u64975 : (64975 < x.toInt) = False := eq_false (by omega)
  have u65007 : (65007 < x.toInt) = False := eq_false (by omega)
  have u65533 : (65533 < x.toInt) = False := eq_false (by omega)
  have u65535 : (65535 < x.toInt) = False := eq_false (by omega)
  have u983039 : (983039 < x.toInt) = False := eq_false (by omega)
  have q58 : (x.toInt = 58) = False := eq_false (by omega)
  have q95 : (x.toInt = 95) = False := eq_false (by omega)
  have q215 : (x.toInt = 215) = False := eq_false (by omega)
  have q247 : (x.toInt = 247) = False := eq_false (by omega)
  have q894 : (x.toInt = 894) = False := eq_false (by omega)
  simp only [own_f1_198, own_f1_186, own_f1_174, own_f1_161, own_f1_147, own_f1_133, own_f1_119, own_f1_105, own_f1_91, own_f1_77, own_f1_63, own_f1_31, own_f1_19, own_f1_0, own_f2_192, own_f2_187, own_f2_0, own_f3_0, own_10, own_00, own_lo65, own_lo97, own_lo128, own_lo192, own_lo216, own_lo248, own_lo768, own_lo880, own_lo895, own_lo8192, own_lo8204, own_lo8206, own_lo8304, own_lo8592, own_lo11264, own_lo12272, own_lo12289, own_lo55296, own_lo63744, own_lo64976, own_lo65008, own_lo65534, own_lo65536, own_hi90, own_hi122, own_hi191, own_hi214, own_hi246, own_hi767, own_hi879, own_hi893, own_hi8191, own_hi8203, own_hi8205, own_hi8303, own_hi8591, own_hi11263, own_hi12271, own_hi12288, own_hi55295, own_hi63743, own_hi64975, own_hi65007, own_hi65533, own_hi65535, own_hi983039, own_eq58, own_eq95, own_eq215, own_eq247, own_eq894, l65, l97, l128, l192, l216, l248, l768, l880, l895, l8192, l8204, l8206, l8304, l8592, l11264, l12272, l12289, l55296, l63744, l64976, l65008, l65534, l65536, u90, u122, u191, u214, u246, u767, u879, u893, u8191, u8203, u8205, u8303, u8591, u11263, u12271, u12288, u55295, u63743, u64975, u65007, u65533, u65535, u983039, q58, q95, q215, q247, q894, if_true, if_false]
theorem own_iv29 (x : Int32) (h1 : 64976 ≤ x.toInt) (h2 : x.toInt < 65008) : own_f1_0 x = own_f2_0 x := by
  have l65 : (x.toInt < 65) = False := eq_false (by omega)
  have l97 : (x.toInt < 97) = False := eq_false (by omega)
  have l128 : (x.toInt < 128) = False := eq_false (by omega)
  have l192 : (x.toInt < 192) = False := eq_false (by omega)
  have l216 : (x.toInt < 216) = False := eq_false (by omega)
  have l248 : (x.toInt < 248) = False := eq_false (by omega)
  have l768 : (x.toInt < 768) = False := eq_false (by omega)
  have l880 : (x.toInt < 880) = False := eq_false (by omega)
  have l895 : (x.toInt < 895) = False := eq_false (by omega)
  have l8192 : (x.toInt < 8192) = False := eq_false (by omega)
  have l8204 : (x.toInt < 8204) = False := eq_false (by omega)
  have l8206 : (x.toInt < 8206) = False := eq_false (by omega)
  have l8304 : (x.toInt < 8304) = False := eq_false (by omega)
  have l8592 : (x.toInt < 8592) = False := eq_false (by omega)
  have l11264 : (x.toInt < 11264) = False := eq_false (by omega)
  have l12272 : (x.toInt < 12272) = False := eq_false (by omega)
  have l12289 : (x.toInt < 12289) = False := eq_false (by omega)
  have l55296 : (x.toInt < 55296) = False := eq_false (by omega)
  have l63744 : (x.toInt < 63744) = False := eq_false (by omega)
  have l64976 : (x.toInt < 64976) = False := eq_false (by omega)
  have l65008 : (x.toInt < 65008) = True := eq_true (by omega)
  have l65534 : (x.toInt < 65534) = True := eq_true (by omega)
  have l65536 : (x.toInt < 65536) = True := eq_true (by omega)
  have u90 : (90 < x.toInt) = True := eq_true (by omega)
  have u122 : (122 < x.toInt) = True := eq_true (by omega)
  have u191 : (191 < x.toInt) = True := eq_true (by omega)
  have u214 : (214 < x.toInt) = True := eq_true (by omega)
  have u246 : (246 < x.toInt) = True := eq_true (by omega)
  have u767 : (767 < x.toInt) = True := eq_true (by omega)
  have u879 : (879 < x.toInt) = True := eq_true (by omega)
  have u893 : (893 < x.toInt) = True := eq_true (by omega)
  have u8191 : (8191 < x.toInt) = True := eq_true (by omega)
  have u8203 : (8203 < x.toInt) = True := eq_true (by omega)
  have u8205 : (8205 < x.toInt) = True := eq_true (by omega)
  have u8303 : (8303 < x.toInt) = True := eq_true (by omega)
  have u8591 : (8591 < x.toInt) = True := eq_true (by omega)
  have u11263 : (11263 < x.toInt) = True := eq_true (by omega)
  have u12271 : (12271 < x.toInt) = True := eq_true (by omega)
  have u12288 : (12288 < x.toInt) = True := eq_true (by omega)
  have u55295 : (55295 < x.toInt) = True := eq_true (by omega)
  have u63743 : (63743 < x.toInt) = True := eq_true (by omega)
  have u64975 : (64975 < x.toInt) = True := eq_true (by omega)
  have u65007 : (65007 < x.toInt) = False := eq_false (by omega)
  have u65533 : (65533 < x.toInt) = False := eq_false (by omega)
  have u65535 : (65535 < x.toInt) = False := eq_false (by omega)
  have u983039 : (983039 < x.toInt) = False := eq_false (by omega)
  have q58 : (x.toInt = 58) = False := eq_false (by omega)
  have q95 : (x.toInt = 95) = False := eq_false (by omega)
  have q215 : (x.toInt = 215) = False := eq_false (by omega)
  have q247 : (x.toInt = 247) = False := eq_false (by omega)
  have q894 : (x.toInt = 894) = False := eq_false (by omega)
  simp only [own_f1_198, own_f1_186, own_f1_174, own_f1_161, own_f1_147, own_f1_133, own_f1_119, own_f1_105, own_f1_91, own_f1_77, own_f1_63, own_f1_31, own_f1_19, own_f1_0, own_f2_192, own_f2_187, own_f2_0, own_f3_0, own_10, own_00, own_lo65, own_lo97, own_lo128, own_lo192, own_lo216, own_lo248, own_lo768, own_lo880, own_lo895, own_lo8192, own_lo8204, own_lo8206, own_lo8304, own_lo8592, own_lo11264, own_lo12272, own_lo12289, own_lo55296, own_lo63744, own_lo64976, own_lo65008, own_lo65534, own_lo65536, own_hi90, own_hi122, own_hi191, own_hi214, own_hi246, own_hi767, own_hi879, own_hi893, own_hi8191, own_hi8203, own_hi8205, own_hi8303, own_hi8591, own_hi11263, own_hi12271, own_hi12288, own_hi55295, own_hi63743, own_hi64975, own_hi65007, own_hi65533, own_hi65535, own_hi983039, own_eq58, own_eq95, own_eq215, own_eq247, own_eq894, l65, l97, l128, l192, l216, l248, l768, l880, l895, l8192, l8204, l8206, l8304, l8592, l11264, l12272, l12289, l55296, l63744, l64976, l65008, l65534, l65536, u90, u122, u191, u214, u246, u767, u879, u893, u8191, u8203, u8205, u8303, u8591, u11263, u12271, u12288, u55295, u63743, u64975, u65007, u65533, u65535, u983039, q58, q95, q215, q247, q894, if_true, if_false]
theorem own_iv30 (x : Int32) (h1 : 65008 ≤ x.toInt) (h2 : x.toInt < 65534) : own_f1_0 x = own_f2_0 x := by
  have l65 : (x.toInt < 65) = False := eq_false (by omega)
  have l97 : (x.toInt < 97) = False := eq_false (by omega)
  have l128 : (x.toInt < 128) = False := eq_false (by omega)
  have l192 : (x.toInt < 192) = False := eq_false (by omega)
  have l216 : (x.toInt < 216) = False := eq_false (by omega)
  have l248 : (x.toInt < 248) = False := eq_false (by omega)
  have l768 : (x.toInt < 768) = False := eq_false (by omega)
  have l880 : (x.toInt < 880) = False := eq_false (by omega)
  have l895 : (x.toInt < 895) = False := eq_false (by omega)
  have l8192 : (x.toInt < 8192) = False := eq_false (by omega)
  have l8204 : (x.toInt < 8204) = False := eq_false (by omega)
  have l8206 : (x.toInt < 8206) = False := eq_false (by omega)
  have l8304 : (x.toInt < 8304) = False := eq_false (by omega)
  have l8592 : (x.toInt < 8592) = False := eq_false (by omega)
  have l11264 : (x.toInt < 11264) = False := eq_false (by omega)
  have l12272 : (x.toInt < 12272) = False := eq_false (by omega)
  have l12289 : (x.toInt < 12289) = False := eq_false (by omega)
  have l55296 : (x.toInt < 55296) = False := eq_false (by omega)
  have l63744 : (x.toInt < 63744) = False := eq_false (by omega)
  have l64976 : (x.toInt < 64976) = False := eq_false (by omega)
  have l65008 : (x.toInt < 65008) = False := eq_false (by omega)
  have l65534 : (x.toInt < 65534) = True := eq_true (by omega)
  have l65536 : (x.toInt < 65536) = True := eq_true (by omega)
  have u90 : (90 < x.toInt) = True := eq_true (by omega)
  have u122 : (122 < x.toInt) = True := eq_true (by omega)
  have u191 : (191 < x.toInt) = True := eq_true (by omega)
  have u214 : (214 < x.toInt) = True := eq_true (by omega)
  have u246 : (246 < x.toInt) = True := eq_true (by omega)
  have u767 : (767 < x.toInt) = True := eq_true (by omega)
  have u879 : (879 < x.toInt) = True := eq_true (by omega)
  have u893 : (893 < x.toInt) = True := eq_true (by omega)
  have u8191 : (8191 < x.toInt) = True := eq_true (by omega)
  have u8203 : (8203 < x.toInt) = True := eq_true (by omega)
  have u8205 : (8205 < x.toInt) = True := eq_true (by omega)
  have u8303 : (8303 < x.toInt) = True := eq_true (by omega)
  have u8591 : (8591 < x.toInt) = True := eq_true (by omega)
  have u11263 : (11263 < x.toInt) = True := eq_true (by omega)
  have u12271 : (12271 < x.toInt) = True := eq_true (by omega)
  have u12288 : (12288 < x.toInt) = True := eq_true (by omega)
  have u55295 : (55295 < x.toInt) = True := eq_true (by omega)
  have u63743 : (63743 < x.toInt) = True := eq_true (by omega)
  have u64975 : (64975 < x.toInt) = True := eq_true (by omega)
  have u65007 : (65007 < x.toInt) = True := eq_true (by omega)
  have u65533 : (65533 < x.toInt) = False := eq_false (by omega)
  have u65535 : (65535 < x.toInt) = False := eq_false (by omega)
  have u983039 : (983039 < x.toInt) = False := eq_false (by omega)
  have q58 : (x.toInt = 58) = False := eq_false (by omega)
  have q95 : (x.toInt = 95) = False := eq_false (by omega)
  have q215 : (x.toInt = 215) = False := eq_false (by omega)
  have q247 : (x.toInt = 247) = False := eq_false (by omega)
  have q894 : (x.toInt = 894) = False := eq_false (by omega)
  simp only [own_f1_198, own_f1_186, own_f1_174, own_f1_161, own_f1_147, own_f1_133, own_f1_119, own_f1_105, own_f1_91, own_f1_77, own_f1_63, own_f1_31, own_f1_19, own_f1_0, own_f2_192, own_f2_187, own_f2_0, own_f3_0, own_10, own_00, own_lo65, own_lo97, own_lo128, own_lo192, own_lo216, own_lo248, own_lo768, own_lo880, own_lo895, own_lo8192, own_lo8204, own_lo8206, own_lo8304, own_lo8592, own_lo11264, own_lo12272, own_lo12289, own_lo55296, own_lo63744, own_lo64976, own_lo65008, own_lo65534, own_lo65536, own_hi90, own_hi122, own_hi191, own_hi214, own_hi246, own_hi767, own_hi879, own_hi893, own_hi8191, own_hi8203, own_hi8205, own_hi8303, own_hi8591, own_hi11263, own_hi12271, own_hi12288, own_hi55295, own_hi63743, own_hi64975, own_hi65007, own_hi65533, own_hi65535, own_hi983039, own_eq58, own_eq95, own_eq215, own_eq247, own_eq894, l65, l97, l128, l192, l216, l248, l768, l880, l895, l8192, l8204, l8206, l8304, l8592, l11264, l12272, l12289, l55296, l63744, l64976, l65008, l65534, l65536, u90, u122, u191, u214, u246, u767, u879, u893, u8191, u8203, u8205, u8303, u8591, u11263, u12271, u12288, u55295, u63743, u64975, u65007, u65533, u65535, u983039, q58, q95, q215, q247, q894, if_true, if_false]
theorem own_iv31 (x : Int32) (h1 : 65534 ≤ x.toInt) (h2 : x.toInt < 65536) : own_f1_0 x = own_f2_0 x := by
  have l65 : (x.toInt < 65) = False := eq_false (by omega)
  have l97 : (x.toInt < 97) = False := eq_false (by omega)
  have l128 : (x.toInt < 128) = False := eq_false (by omega)
  have l192 : (x.toInt < 192) = False := eq_false (by omega)
  have l216 : (x.toInt < 216) = False := eq_false (by omega)
  have l248 : (x.toInt < 248) = False := eq_false (by omega)
  have l768 : (x.toInt < 768) = False := eq_false (by omega)
  have l880 : (x.toInt < 880) = False := eq_false (by omega)
  have l895 : (x.toInt < 895) = False := eq_false (by omega)
  have l8192 : (x.toInt < 8192) = False := eq_false (by omega)
  have l8204 : (x.toInt < 8204) = False := eq_false (by omega)
  have l8206 : (x.toInt < 8206) = False := eq_false (by omega)
  have l8304 : (x.toInt < 8304) = False := eq_false (by omega)
  have l8592 : (x.toInt < 8592) = False := eq_false (by omega)
  have l11264 : (x.toInt < 11264) = False := eq_false (by omega)
  have l12272 : (x.toInt < 12272) = False := eq_false (by omega)
  have l12289 : (x.toInt < 12289) = False := eq_false (by omega)
  have l55296 : (x.toInt < 55296) = False := eq_false (by omega)
  have l63744 : (x.toInt < 63744) = False := eq_false (by omega)
  have l64976 : (x.toInt < 64976) = False := eq_false (by omega)
  have l65008 : (x.toInt < 65008) = False := eq_false (by omega)
  have l65534 : (x.toInt < 65534) = False := eq_false (by omega)
  have l65536 : (x.toInt < 65536) = True := eq_true (by omega)
  have u90 : (90 < x.toInt) = True := eq_true (by omega)
  have u122 : (122 < x.toInt) = True := eq_true (by omega)
  have u191 : (191 < x.toInt) = True := eq_true (by omega)
  have u214 : (214 < x.toInt) = True := eq_true (by omega)
  have u246 : (246 < x.toInt) = True := eq_true (by omega)
  have u767 : (767 < x.toInt) = True := eq_true (by omega)
  have u879 : (879 < x.toInt) = True := eq_true (by omega)
  have u893 : (893 < x.toInt) = True := eq_true (by omega)
  have u8191 : (8191 < x.toInt) = True := eq_true (by omega)
  have u8203 : (8203 < x.toInt) = True := eq_true (by omega)
  have u8205 : (8205 < x.toInt) = True := eq_true (by omega)
  have u8303 : (8303 < x.toInt) = True := eq_true (by omega)
  have u8591 : (8591 < x.toInt) = True := eq_true (by omega)
  have u11263 : (11263 < x.toInt) = True := eq_true (by omega)
  have u12271 : (12271 < x.toInt) = True := eq_true (by omega)
  have u12288 : (12288 < x.toInt) = True := eq_true (by omega)
  have u55295 : (55295 < x.toInt) = True := eq_true (by omega)
  have u63743 : (63743 < x.toInt) = True := eq_true (by omega)
  have u64975 : (64975 < x.toInt) = True := eq_true (by omega)
  have u65007 : (65007 < x.toInt) = True := eq_true (by omega)
  have u65533 : (65533 < x.toInt) = True := eq_true (by omega)
  have u65535 : (65535 < x.toInt) = False := eq_false (by omega)
  have u983039 : (983039 < x.toInt) = False := eq_false (by omega)
  have q58 : (x.toInt = 58) = False := eq_false (by omega)
  have q95 : (x.toInt = 95) = False := eq_false (by omega)
  have q215 : (x.toInt = 215) = False := eq_false (by omega)
  have q247 : (x.toInt = 247) = False := eq_false (by omega)
  have q894 : (x.toInt = 894) = False := eq_false (by omega)
  simp only [own_f1_198, own_f1_186, own_f1_174, own_f1_161, own_f1_147, own_f1_133, own_f1_119, own_f1_105, own_f1_91, own_f1_77, own_f1_63, own_f1_31, own_f1_19, own_f1_0, own_f2_192, own_f2_187, own_f2_0, own_f3_0, own_10, own_00, own_lo65, own_lo97, own_lo128, own_lo192, own_lo216, own_lo248, own_lo768, own_lo880, own_lo895, own_lo8192, own_lo8204, own_lo8206, own_lo8304, own_lo8592, own_lo11264, own_lo12272, own_lo12289, own_lo55296, own_lo63744, own_lo64976, own_lo65008, own_lo65534, own_lo65536, own_hi90, own_hi122, own_hi191, own_hi214, own_hi246, own_hi767, own_hi879, own_hi893, own_hi8191, own_hi8203, own_hi8205, own_hi8303, own_hi8591, own_hi11263, own_hi12271, own_hi12288, own_hi55295, own_hi63743, own_hi64975, own_hi65007, own_hi65533, own_hi65535, own_hi983039, own_eq58, own_eq95, own_eq215, own_eq247, own_eq894, l65, l97, l128, l192, l216, l248, l768, l880, l895, l8192, l8204, l8206, l8304, l8592, l11264, l12272, l12289, l55296, l63744, l64976, l65008, l65534, l65536, u90, u122, u191, u214, u246, u767, u879, u893, u8191, u8203, u8205, u8303, u8591, u11263, u12271, u12288, u55295, u63743, u64975, u65007, u65533, u65535, u983039, q58, q95, q215, q247, q894, if_true, if_false]
theorem own_iv32 (x : Int32) (h1 : 65536 ≤ x.toInt) (h2 : x.toInt < 983040) : own_f1_0 x = own_f2_0 x := by
  have l65 : (x.toInt < 65) = False := eq_false (by omega)
  have l97 : (x.toInt < 97) = False := eq_false (by omega)
  have l128 : (x.toInt < 128) = False := eq_false (by omega)
  have l192 : (x.toInt < 192) = False := eq_false (by omega)
  have l216 : (x.toInt < 216) = False := eq_false (by omega)
  have l248 : (x.toInt < 248) = False := eq_false (by omega)
  have l768 : (x.toInt < 768) = False := eq_false (by omega)
  have l880 : (x.toInt < 880) = False := eq_false (by omega)
  have l895 : (x.toInt < 895) = False := eq_false (by omega)
  have l8192 : (x.toInt < 8192) = False := eq_false (by omega)
  have l8204 : (x.toInt < 8204) = False := eq_false (by omega)
  have l8206 : (x.toInt < 8206) = False := eq_false (by omega)
  have l8304 : (x.toInt < 8304) = False := eq_false (by omega)
  have l8592 : (x.toInt < 8592) = False := eq_false (by omega)
  have l11264 : (x.toInt < 11264) = False := eq_false (by omega)
  have l12272 : (x.toInt < 12272) = False := eq_false (by omega)
  have l12289 : (x.toInt < 12289) = False := eq_false (by omega)
  have l55296 : (x.toInt < 55296) = False := eq_false (by omega)
  have l63744 : (x.toInt < 63744) = False := eq_false (by omega)
  have l64976 : (x.toInt < 64976) = False := eq_false (by omega)
  have l65008 : (x.toInt < 65008) = False := eq_false (by omega)
  have l65534 : (x.toInt < 65534) = False := eq_false (by omega)
  have l65536 : (x.toInt < 65536) = False := eq_false (by omega)
  have u90 : (90 < x.toInt) = True := eq_true (by omega)
  have u122 : (122 < x.toInt) = True := eq_true (by omega)
  have u191 : (191 < x.toInt) = True := eq_true (by omega)
  have u214 : (214 < x.toInt) = True := eq_true (by omega)
  have u246 : (246 < x.toInt) = True := eq_true (by omega)
  have u767 : (767 < x.toInt) = True := eq_true (by omega)
  have u879 : (879 < x.toInt) = True := eq_true (by omega)
  have u893 : (893 < x.toInt) = True := eq_true (by omega)
  have u8191 : (8191 < x.toInt) = True := eq_true (by omega)
  have u8203 : (8203 < x.toInt) = True := eq_true (by omega)
  have u8205 : (8205 < x.toInt) = True := eq_true (by omega)
  have u8303 : (8303 < x.toInt) = True := eq_true (by omega)
  have u8591 : (8591 < x.toInt) = True := eq_true (by omega)
  have u11263 : (11263 < x.toInt) = True := eq_true (by omega)
  have u12271 : (12271 < x.toInt) = True := eq_true (by omega)
  have u12288 : (12288 < x.toInt) = True := eq_true (by omega)
  have u55295 : (55295 < x.toInt) = True := eq_true (by omega)
  have u63743 : (63743 < x.toInt) = True := eq_true (by omega)
  have u64975 : (64975 < x.toInt) = True := eq_true (by omega)
  have u65007 : (65007 < x.toInt) = True := eq_true (by omega)
  have u65533 : (65533 < x.toInt) = True := eq_true (by omega)
  have u65535 : (65535 < x.toInt) = True := eq_true (by omega)
  have u983039 : (983039 < x.toInt) = False := eq_false (by omega)
  have q58 : (x.toInt = 58) = False := eq_false (by omega)
  have q95 : (x.toInt = 95) = False := eq_false (by omega)
  have q215 : (x.toInt = 215) = False := eq_false (by omega)
  have q247 : (x.toInt = 247) = False := eq_false (by omega)
  have q894 : (x.toInt = 894) = False := eq_false (by omega)
  simp only [own_f1_198, own_f1_186, own_f1_174, own_f1_161, own_f1_147, own_f1_133, own_f1_119, own_f1_105, own_f1_91, own_f1_77, own_f1_63, own_f1_31, own_f1_19, own_f1_0, own_f2_192, own_f2_187, own_f2_0, own_f3_0, own_10, own_00, own_lo65, own_lo97, own_lo128, own_lo192, own_lo216, own_lo248, own_lo768, own_lo880, own_lo895, own_lo8192, own_lo8204, own_lo8206, own_lo8304, own_lo8592, own_lo11264, own_lo12272, own_lo12289, own_lo55296, own_lo63744, own_lo64976, own_lo65008, own_lo65534, own_lo65536, own_hi90, own_hi122, own_hi191, own_hi214, own_hi246, own_hi767, own_hi879, own_hi893, own_hi8191, own_hi8203, own_hi8205, own_hi8303, own_hi8591, own_hi11263, own_hi12271, own_hi12288, own_hi55295, own_hi63743, own_hi64975, own_hi65007, own_hi65533, own_hi65535, own_hi983039, own_eq58, own_eq95, own_eq215, own_eq247, own_eq894, l65, l97, l128, l192, l216, l248, l768, l880, l895, l8192, l8204, l8206, l8304, l8592, l11264, l12272, l12289, l55296, l63744, l64976, l65008, l65534, l65536, u90, u122, u191, u214, u246, u767, u879, u893, u8191, u8203, u8205, u8303, u8591, u11263, u12271, u12288, u55295, u63743, u64975, u65007, u65533, u65535, u983039, q58, q95, q215, q247, q894, if_true, if_false]
theorem own_iv33 (x : Int32) (h1 : 983040 ≤ x.toInt) : own_f1_0 x = own_f2_0 x := by
  have l65 : (x.toInt < 65) = False := eq_false (by omega)
  have l97 : (x.toInt < 97) = False := eq_false (by omega)
  have l128 : (x.toInt < 128) = False := eq_false (by omega)
  have l192 : (x.toInt < 192) = False := eq_false (by omega)
  have l216 : (x.toInt < 216) = False := eq_false (by omega)
  have l248 : (x.toInt < 248) = False := eq_false (by omega)
  have l768 : (x.toInt < 768) = False := eq_false (by omega)
  have l880 : (x.toInt < 880) = False := eq_false (by omega)
  have l895 : (x.toInt < 895) = False := eq_false (by omega)
  have l8192 : (x.toInt < 8192) = False := eq_false (by omega)
  have l8204 : (x.toInt < 8204) = False := eq_false (by omega)
  have l8206 : (x.toInt < 8206) = False := eq_false (by omega)
  have l8304 : (x.toInt < 8304) = False := eq_false (by omega)
  have l8592 : (x.toInt < 8592) = False := eq_false (by omega)
  have l11264 : (x.toInt < 11264) = False := eq_false (by omega)
  have l12272 : (x.toInt < 12272) = False := eq_false (by omega)
  have l12289 : (x.toInt < 12289) = False := eq_false (by omega)
  have l55296 : (x.toInt < 55296) = False := eq_false (by omega)
  have l63744 : (x.toInt < 63744) = False := eq_false (by omega)
  have l64976 : (x.toInt < 64976) = False := eq_false (by omega)
  have l65008 : (x.toInt < 65008) = False := eq_false (by omega)
  have l65534 : (x.toInt < 65534) = False := eq_false (by omega)
  have l65536 : (x.toInt < 65536) = False := eq_false (by omega)
  have u90 : (90 < x.toInt) = True := eq_true (by omega)
  have u122 : (122 < x.toInt) = True := eq_true (by omega)
  have u191 : (191 < x.toInt) = True := eq_true (by omega)
  have u214 : (214 < x.toInt) = True := eq_true (by omega)
  have u246 : (246 < x.toInt) = True := eq_true (by omega)
  have u767 : (767 < x.toInt) = True := eq_true (by omega)
  have u879 : (879 < x.toInt) = True := eq_true (by omega)
  have u893 : (893 < x.toInt) = True := eq_true (by omega)
  have u8191 : (8191 < x.toInt) = True := eq_true (by omega)
  have u8203 : (8203 < x.toInt) = True := eq_true (by omega)
  have u8205 : (8205 < x.toInt) = True := eq_true (by omega)
  have u8303 : (8303 < x.toInt) = True := eq_true (by omega)
  have u8591 : (8591 < x.toInt) = True := eq_true (by omega)
  have u11263 : (11263 < x.toInt) = True := eq_true (by omega)
  have u12271 : (12271 < x.toInt) = True := eq_true (by omega)
  have u12288 : (12288 < x.toInt) = True := eq_true (by omega)
  have u55295 : (55295 < x.toInt) = True := eq_true (by omega)
  have u63743 : (63743 < x.toInt) = True := eq_true (by omega)
  have u64975 : (64975 < x.toInt) = True := eq_true (by omega)
  have u65007 : (65007 < x.toInt) = True := eq_true (by omega)
  have u65533 : (65533 < x.toInt) = True := eq_true (by omega)
  have u65535 : (65535 < x.toInt) = True := eq_true (by omega)
  have u983039 : (983039 < x.toInt) = True := eq_true (by omega)
  have q58 : (x.toInt = 58) = False := eq_false (by omega)
  have q95 : (x.toInt = 95) = False := eq_false (by omega)
  have q215 : (x.toInt = 215) = False := eq_false (by omega)
  have q247 : (x.toInt = 247) = False := eq_false (by omega)
  have q894 : (x.toInt = 894) = False := eq_false (by omega)
  simp only [own_f1_198, own_f1_186, own_f1_174, own_f1_161, own_f1_147, own_f1_133, own_f1_119, own_f1_105, own_f1_91, own_f1_77, own_f1_63, own_f1_31, own_f1_19, own_f1_0, own_f2_192, own_f2_187, own_f2_0, own_f3_0, own_10, own_00, own_lo65, own_lo97, own_lo128, own_lo192, own_lo216, own_lo248, own_lo768, own_lo880, own_lo895, own_lo8192, own_lo8204, own_lo8206, own_lo8304, own_lo8592, own_lo11264, own_lo12272, own_lo12289, own_lo55296, own_lo63744, own_lo64976, own_lo65008, own_lo65534, own_lo65536, own_hi90, own_hi122, own_hi191, own_hi214, own_hi246, own_hi767, own_hi879, own_hi893, own_hi8191, own_hi8203, own_hi8205, own_hi8303, own_hi8591, own_hi11263, own_hi12271, own_hi12288, own_hi55295, own_hi63743, own_hi64975, own_hi65007, own_hi65533, own_hi65535, own_hi983039, own_eq58, own_eq95, own_eq215, own_eq247, own_eq894, l65, l97, l128, l192, l216, l248, l768, l880, l895, l8192, l8204, l8206, l8304, l8592, l11264, l12272, l12289, l55296, l63744, l64976, l65008, l65534, l65536, u90, u122, u191, u214, u246, u767, u879, u893, u8191, u8203, u8205, u8303, u8591, u11263, u12271, u12288, u55295, u63743, u64975, u65007, u65533, u65535, u983039, q58, q95, q215, q247, q894, if_true, if_false]
theorem own_nsc (x : Int32) : own_f1_0 x = own_f2_0 x := by
  by_cases g0 : x.toInt < 58
  · exact own_iv0 x g0
  by_cases g1 : x.toInt < 59
  · exact own_iv1 x (by omega) g1
  by_cases g2 : x.toInt < 65
  · exact own_iv2 x (by omega) g2
  by_cases g3 : x.toInt < 91
  · exact own_iv3 x (by omega) g3
  by_cases g4 : x.toInt < 95
  · exact own_iv4 x (by omega) g4
  by_cases g5 : x.toInt < 96
  · exact own_iv5 x (by omega) g5
  by_cases g6 : x.toInt < 97
  · exact own_iv6 x (by omega) g6
  by_cases g7 : x.toInt < 123
  · exact own_iv7 x (by omega) g7
  by_cases g8 : x.toInt < 128
  · exact own_iv8 x (by omega) g8
  by_cases g9 : x.toInt < 192
  · exact own_iv9 x (by omega) g9
  by_cases g10 : x.toInt < 215
  · exact own_iv10 x (by omega) g10
  by_cases g11 : x.toInt < 216
  · exact own_iv11 x (by omega) g11
  by_cases g12 : x.toInt < 247
  · exact own_iv12 x (by omega) g12
  by_cases g13 : x.toInt < 248
  · exact own_iv13 x (by omega) g13
  by_cases g14 : x.toInt < 768
  · exact own_iv14 x (by omega) g14
  by_cases g15 : x.toInt < 880
  · exact own_iv15 x (by omega) g15
  by_cases g16 : x.toInt < 894
  · exact own_iv16 x (by omega) g16
  by_cases g17 : x.toInt < 895
  · exact own_iv17 x (by omega) g17
  by_cases g18 : x.toInt < 8192
  · exact own_iv18 x (by omega) g18
  by_cases g19 : x.toInt < 8204
  · exact own_iv19 x (by omega) g19
  by_cases g20 : x.toInt < 8206
  · exact own_iv20 x (by omega) g20
  by_cases g21 : x.toInt < 8304
  · exact own_iv21 x (by omega) g21
  by_cases g22 : x.toInt < 8592
  · exact own_iv22 x (by omega) g22
  by_cases g23 : x.toInt < 11264
  · exact own_iv23 x (by omega) g23
  by_cases g24 : x.toInt < 12272
  · exact own_iv24 x (by omega) g24
  by_cases g25 : x.toInt < 12289
  · exact own_iv25 x (by omega) g25
  by_cases g26 : x.toInt < 55296
  · exact own_iv26 x (by omega) g26
  by_cases g27 : x.toInt < 63744
  · exact own_iv27 x (by omega) g27
  by_cases g28 : x.toInt < 64976
  · exact own_iv28 x (by omega) g28
  by_cases g29 : x.toInt < 65008
  · exact own_iv29 x (by omega) g29
  by_cases g30 : x.toInt < 65534
  · exact own_iv30 x (by omega) g30
  by_cases g31 : x.toInt < 65536
  · exact own_iv31 x (by omega) g31
  by_cases g32 : x.toInt < 983040
  · exact own_iv32 x (by omega) g32
  exact own_iv33 x (by omega)
theorem own_plain (x y z : Int32) : own_f0_0 x y z = 1 := by
  unfold own_f0_0 own_f0_28 own_f0_58 own_f0_93 own_f0_128 own_f0_163 own_f0_195 own_f0_226
  rw [if_pos (own_nsc _), if_pos (own_nsc _), ite_self]
set_option maxRecDepth 65536 in
set_option maxHeartbeats 4000000 in
theorem own_comes {Post : Tables → Env → Array Value → State → Outcome → State → Prop} (hpost : ∀ tb e args s v u, (limb_1_1.after args s (.returned v) u = true ∧ limb_1_2.after args s (.returned v) u = true) → FrameEnd s (.returned v) u (Jvm.fieldLocs frame_1_writes args s ++ Jvm.arrayLocs frame_1_arrays args s ++ Jvm.staticLocs frame_1_statics s) 16 192 → Post tb e args s (.returned v) u) :
    ArmFor flags0 classFile x code maxLocals ret World_1 tables_1 room_1 Calls_1 rest_1 Pre_1 Post := by
  intro l hfl _ _ p e ha hc hk s m args below hf hA hF happ hP
  obtain ⟨hcalls, hrest, hpre⟩ := hP
  obtain ⟨-, -, -, hnamed, -, -, -, hat⟩ := (Spec.applies_iff hf).mp happ
  obtain ⟨hg, hn⟩ := and_e (Cond.before_iff.mp (show (Jvm.Cond.and given_1 narrow_1).before args s = true from hpre))
  obtain ⟨hcnt, hg0⟩ := and_e hg
  obtain ⟨ha0, hg1⟩ := and_e hg0
  obtain ⟨ha1, hg2⟩ := and_e hg1
  have ha2 := hg2
  obtain ⟨w0, w1, w2, rfl⟩ : ∃ w0 w1 w2 : Value, args = #[w0, w1, w2] := by
    have hs : args.size = 3 := by simpa [Cond.value, given_1] using hcnt
    obtain ⟨L⟩ := args
    match L, hs with
    | [w0, w1, w2], _ => exact ⟨w0, w1, w2, rfl⟩
  have hw := fun d (hd : d ∈ tables_1) => atoms_spec (ws := Jvm.Cond.code x code maxLocals ret :: tables_1) hat d (List.mem_cons_of_mem _ hd)
  obtain ⟨v0, ev0⟩ := is_v ha0
  obtain rfl : w0 = (.int v0) := Option.some.inj ev0
  obtain ⟨v1, ev1⟩ := is_v ha1
  obtain rfl : w1 = (.int v1) := Option.some.inj ev1
  obtain ⟨v2, ev2⟩ := is_v ha2
  obtain rfl : w2 = (.int v2) := Option.some.inj ev2
  obtain ⟨n, o, h1, h2, h3, _, L, rfl, ⟨rfl, N, _⟩, hq⟩ := own_rm0 l s _ hw tables_1 v0 v1 v2 s.heap s.heap.size (Nat.le_refl _) p e ha hc hk s m _ below hf ((Spec.applies_iff_loose hf).mp happ).1 ⟨rfl, State.Warmed39.refl s, rfl⟩ trivial
  refine ⟨n, _, h1, h2, h3, hpost _ _ _ _ _ _ ⟨Cond.after_iff.mpr rfl, Cond.after_iff.mpr (eq_i res_at (Term.int_eval (1)) (congrArg Value.int (own_plain v0 v1 v2)))⟩ ⟨hq.1, hq.2.1, (hq.2.2.sift fun y hy => Or.inr (N y hy)).mono (by decide) (by decide)⟩⟩
theorem main_1_1 : Claimed_1_1 := own_comes fun _ _ _ _ _ _ h hF => ⟨h.1, hF⟩
theorem main_1_2 : Claimed_1_2 := own_comes fun _ _ _ _ _ _ h hF => ⟨h.2, hF⟩
end Jvm.Pilot.@@N@@
namespace Jvm.Pilot.@@N@@
open Jvm Jvm.ClassFile Sem Op Lib Jvm.Free Jvm.Stand Jvm.Pilot.@@N@@.Jvm.D
/-! MADE BY PROGRAM (witnessworld.py) out of the Statement's table words and the real class files: 9 classes; the members and pool entries that the words name. The judged class is class 1, her method 3. -/
namespace start1
open Jvm.ClassFile
def u (s : String) : CpInfo := .utf8 (stringToUtf16 s)
/-- a pool by its gaps: so many unusable entries, then the entry; so many at the end -/
def gap : Nat → List CpInfo → List CpInfo
  | 0, r => r
  | n + 1, r => .unusable :: gap n r
def poolList (es : List (Nat × CpInfo)) (last : Nat) : List CpInfo := es.foldr (fun e r => gap e.1 (e.2 :: r)) (gap last [])
def pool (es : List (Nat × CpInfo)) (last : Nat) : Array CpInfo := ⟨poolList es last⟩
def fileOf (pool : Array CpInfo) (this : Nat) (attrs : Array Attribute := #[]) (ms : Array MethodInfo := #[]) (fl : Nat := 33) (sup : Nat := 0) (ifs : Array Nat := #[]) (fds : Array FieldInfo := #[]) : ClassFile where
  minorVersion := 0
  majorVersion := 65
  constantPool := pool
  accessFlags := fl
  thisClass := this
  superClass := sup
  interfaces := ifs
  fields := fds
  methods := ms
  attributes := attrs
def plain (name : String) (sup : Option ClassId) : Class where
  name := name
  kind := .ordinary
  loader := none
  accessFlags := 33
  super := sup
  interfaces := #[]
  cf := none
  fields := #[]
  methods := #[]
  instanceTypes := #[]
  staticTypes := #[]
  resolved := #[]
  callSites := []
  init := .initialized
  statics := none
  mirror := none

def pool0 : Array CpInfo := pool [(5, u "<init>"), (0, u "()V"), (1, .class_ 10), (1, u "java/lang/Object")] 113

def k0m0 : Method := { name := "<init>", desc := "()V", sig := { parameters := [], returnType := none }, accessFlags := 1, code := none }
/-- java/lang/Object -/
def k0 : Class := { plain "java/lang/Object" none with
  accessFlags := 33
  interfaces := #[]
  cf := some (fileOf pool0 8 #[] #[{ accessFlags := 1, nameIndex := 5, descriptorIndex := 6, attributes := #[] }] 33 0 #[] #[])
  fields := #[]
  methods := #[k0m0]
  instanceTypes := #[]
  staticTypes := #[]
  resolved := Array.replicate 124 none
  statics := none }

def pool1 : Array CpInfo := pool [(2, .class_ 4), (1, u "java/lang/Object"), (0, u "<init>"), (0, u "()V"), (0, .methodref 8 9), (0, .class_ 10), (0, .nameAndType 11 12), (0, u "com/example/sleyreed/sleyreed/xpath/XmlNamesIsNameStartCharPinLaw"), (0, u "in"), (0, u "(III)Z"), (0, .integer 983039), (0, .integer 55296), (0, .integer 63743), (0, .integer 64976), (0, .integer 65007), (0, .integer 65534), (0, .integer 65535), (0, .integer 63744), (0, .integer 65008), (0, .integer 65536), (0, .integer 983040), (0, .integer 1114112), (0, .integer 1073741823), (0, .methodref 27 28), (0, .class_ 29), (0, .nameAndType 30 31), (0, u "com/example/sleyreed/sleyreed/xpath/XmlNames"), (0, u "isNameStartChar"), (0, u "(I)Z"), (0, .methodref 8 33), (0, .nameAndType 34 31), (0, u "reference"), (3, u "law")] 4

def k1m0 : Method := { name := "<init>", desc := "()V", sig := { parameters := [], returnType := none }, accessFlags := 2, code := none }
def k1c1 : Code := { maxStack := 2, maxLocals := 3, code := method_2_code, exceptionTable := #[], attributes := #[] }
def k1m1 : Method := { name := "in", desc := "(III)Z", sig := { parameters := [.int, .int, .int], returnType := some .boolean }, accessFlags := 10, code := some k1c1 }
def k1c2 : Code := { maxStack := 3, maxLocals := 2, code := method_3_code, exceptionTable := #[], attributes := #[] }
def k1m2 : Method := { name := "reference", desc := "(I)Z", sig := { parameters := [.int], returnType := some .boolean }, accessFlags := 10, code := some k1c2 }
def k1c3 : Code := { maxStack := 4, maxLocals := 6, code := code, exceptionTable := #[], attributes := #[] }
def k1m3 : Method := { name := "law", desc := "(III)Z", sig := { parameters := [.int, .int, .int], returnType := some .boolean }, accessFlags := 9, code := some k1c3 }
/-- com/example/sleyreed/sleyreed/xpath/XmlNamesIsNameStartCharPinLaw -/
def k1 : Class := { plain "com/example/sleyreed/sleyreed/xpath/XmlNamesIsNameStartCharPinLaw" (some 0) with
  accessFlags := 49
  interfaces := #[]
  cf := some (fileOf pool1 8 #[] #[{ accessFlags := 2, nameIndex := 5, descriptorIndex := 6, attributes := #[] }, { accessFlags := 10, nameIndex := 11, descriptorIndex := 12, attributes := #[] }, { accessFlags := 10, nameIndex := 34, descriptorIndex := 31, attributes := #[] }, { accessFlags := 9, nameIndex := 38, descriptorIndex := 12, attributes := #[] }] 49 2 #[] #[])
  fields := #[]
  methods := #[k1m0, k1m1, k1m2, k1m3]
  instanceTypes := #[]
  staticTypes := #[]
  resolved := Array.replicate 43 none
  statics := none }

def pool2 : Array CpInfo := pool [(2, .class_ 4), (1, u "java/lang/Object"), (0, u "<init>"), (0, u "()V"), (36, .class_ 45), (1, u "com/example/sleyreed/sleyreed/xpath/XmlNames"), (1, u "(I)Z"), (15, .integer 55295), (0, .integer 63744), (0, .integer 64975), (0, .integer 65008), (0, .integer 65533), (0, .integer 65536), (0, .integer 983039), (2, u "isNameStartChar")] 53

def k2m0 : Method := { name := "<init>", desc := "()V", sig := { parameters := [], returnType := none }, accessFlags := 2, code := none }
def k2c1 : Code := { maxStack := 2, maxLocals := 1, code := prog_65_method_8_code, exceptionTable := #[], attributes := #[] }
def k2m1 : Method := { name := "isNameStartChar", desc := "(I)Z", sig := { parameters := [.int], returnType := some .boolean }, accessFlags := 9, code := some k2c1 }
/-- com/example/sleyreed/sleyreed/xpath/XmlNames -/
def k2 : Class := { plain "com/example/sleyreed/sleyreed/xpath/XmlNames" (some 0) with
  accessFlags := 49
  interfaces := #[]
  cf := some (fileOf pool2 43 #[] #[{ accessFlags := 2, nameIndex := 5, descriptorIndex := 6, attributes := #[] }, { accessFlags := 9, nameIndex := 72, descriptorIndex := 47, attributes := #[] }] 49 2 #[] #[])
  fields := #[]
  methods := #[k2m0, k2m1]
  instanceTypes := #[]
  staticTypes := #[]
  resolved := Array.replicate 126 none
  statics := none }

def pool3 : Array CpInfo := pool [(1, u "java/lang/Cloneable"), (0, .class_ 1), (0, u "java/lang/Object"), (0, .class_ 3)] 3

/-- java/lang/Cloneable -/
def k3 : Class := { plain "java/lang/Cloneable" (some 0) with
  accessFlags := 1537
  interfaces := #[]
  cf := some (fileOf pool3 2 #[] #[] 1537 4 #[] #[])
  fields := #[]
  methods := #[]
  instanceTypes := #[]
  staticTypes := #[]
  resolved := Array.replicate 8 none
  statics := none }

def pool4 : Array CpInfo := pool [(1, u "java/io/Serializable"), (0, .class_ 1), (0, u "java/lang/Object"), (0, .class_ 3)] 3

/-- java/io/Serializable -/
def k4 : Class := { plain "java/io/Serializable" (some 0) with
  accessFlags := 1537
  interfaces := #[]
  cf := some (fileOf pool4 2 #[] #[] 1537 4 #[] #[])
  fields := #[]
  methods := #[]
  instanceTypes := #[]
  staticTypes := #[]
  resolved := Array.replicate 8 none
  statics := none }

/-- the primitive byte -/
def k5 : Class := { plain "byte" none with kind := .primitive 'B', accessFlags := 0x411 }
/-- [B -/
def k6 : Class := { plain "[B" (some 0) with kind := .array 5 .byte, interfaces := #[3, 4], accessFlags := 1041 }

/-- the primitive int -/
def k7 : Class := { plain "int" none with kind := .primitive 'I', accessFlags := 0x411 }
/-- [I -/
def k8 : Class := { plain "[I" (some 0) with kind := .array 7 .int, interfaces := #[3, 4], accessFlags := 1041 }

def heap : Heap := #[]
def classes : Array Class := #[k0, k1, k2, k3, k4, k5, k6, k7, k8]
def interned : List (Array UInt16 × Addr) := []
def slotsUsed : Nat := 0
def theMethod : MethodId := ⟨1, 3⟩
def args0 : Array Value := #[.int 5, .int 7, .int 5]
def aboutOver (below : List Frame) : State where
  vm := { classes := classes, interned := interned.toArray }
  heap := heap
  slotsUsed := slotsUsed
  threads := #[{ frames := .invoking theMethod args0 :: below }]
def below0 : List Frame := [.native { method := ⟨0, 0⟩, args := #[] }]
def about1 : State := aboutOver below0
def p0 : Program := .bare "" "" ""
def e0 : Env := launch0.env 0 0 0
theorem w_frames : about1.frames = Frame.invoking theMethod args0 :: below0 := rfl
set_option maxRecDepth 65536 in
theorem w_args : argsFit about1.vm theMethod args0 = true := by decide +kernel
set_option maxRecDepth 65536 in
theorem w_heap : heapFits about1 = true := by decide +kernel
set_option maxRecDepth 65536 in
theorem w_runnable : about1.curStatus? = some .runnable := by decide +kernel
set_option maxRecDepth 65536 in
theorem w_alone : about1.alone = true := by decide +kernel
set_option maxRecDepth 65536 in
theorem w_named : about1.methodNamed? x = some theMethod := by decide +kernel
set_option maxRecDepth 65536 in
theorem w_hears : about1.hears theMethod below0 = true := by decide +kernel
set_option maxRecDepth 65536 in
theorem w_ripe : about1.ripe theMethod args0 below0 = true := by decide +kernel
theorem w_running : about1.status = .running := rfl
set_option maxRecDepth 65536 in
theorem w_room : about1.hasRoom e0.platform room_1 = true :=
  launch0.hasRoom_least _ room_1 (by decide +kernel) (by decide +kernel) (by decide +kernel) (by decide +kernel) (by decide +kernel) (by decide +kernel)
theorem allAtoms_all (ts : List Jvm.Cond) (a : Array Jvm.Value) (st : Jvm.State) : (allAtoms ts).before a st = ts.all (fun c => c.before a st) := by
  induction ts with
  | nil => rfl
  | cons c t ih =>
    show (Jvm.Cond.and c (allAtoms t)).before a st = _
    rw [Jvm.Cond.before_and, ih, List.all_cons]
def words1 : List Jvm.Cond := Jvm.Cond.code x code maxLocals ret :: tables_1
/-- a 'code' word, met by the world's own term for the bytes: nothing is compared byte by byte -/
theorem code_word {y : MethodName} {bytes : ByteArray} {mx : Nat} {rt : Option FieldType} {a : Array Value} {s : State} {m : MethodId} {meth : Method} {c : Code} (h1 : s.methodNamed? y = some m) (h2 : s.vm.method? m = some meth) (h3 : meth.code = some c) (h4 : c.code = bytes)
    (h5 : (c.maxLocals == mx && c.exceptionTable.isEmpty && decide (c.maxStack ≤ mostOperands) && decide (meth.sig.returnType = rt) && !meth.locks && decide (parseMethodDescriptor y.desc = some meth.sig)) = true) : (Jvm.Cond.code y bytes mx rt).before a s = true := by
  simp only [Bool.and_eq_true, beq_iff_eq, Bool.not_eq_true', decide_eq_true_eq] at h5
  obtain ⟨⟨⟨⟨⟨g1, g2⟩, g3⟩, g4⟩, g5⟩, g6⟩ := h5
  simp [Cond.before, Cond.holds, Cond.value, h1, h2, h3, h4, g1, g2, g3, g4, g5, g6]
def isCode : Jvm.Cond → Bool
  | .code _ _ _ _ => true
  | _ => false
theorem all_split {L : List Jvm.Cond} {P : Jvm.Cond → Bool} (h1 : L.all (fun c => isCode c || P c) = true) (h2 : ∀ c ∈ L.filter isCode, P c = true) : L.all P = true := by
  refine List.all_eq_true.mpr fun c hc => ?_
  have h := List.all_eq_true.mp h1 c hc
  rcases Bool.eq_false_or_eq_true (isCode c) with hi | hi
  · exact h2 c (List.mem_filter.mpr ⟨hc, hi⟩)
  · simpa [hi] using h
set_option maxRecDepth 65536 in
theorem w_c0 : (Jvm.Cond.code x code maxLocals ret).before args0 about1 = true := code_word (m := ⟨1, 3⟩) (meth := k1m3) (c := k1c3) (by decide +kernel) rfl rfl rfl (by decide +kernel)
set_option maxRecDepth 65536 in
theorem w_c1 : (Jvm.Cond.code ({ cls := "com/example/sleyreed/sleyreed/xpath/XmlNames", name := "isNameStartChar", desc := "(I)Z" } : Jvm.MethodName) prog_65_method_8_code (1 : Nat) (Option.some Jvm.ClassFile.FieldType.boolean)).before args0 about1 = true := code_word (m := ⟨2, 1⟩) (meth := k2m1) (c := k2c1) (by decide +kernel) rfl rfl rfl (by decide +kernel)
set_option maxRecDepth 65536 in
theorem w_c2 : (Jvm.Cond.code ({ cls := "com/example/sleyreed/sleyreed/xpath/XmlNamesIsNameStartCharPinLaw", name := "reference", desc := "(I)Z" } : Jvm.MethodName) method_3_code (2 : Nat) (Option.some Jvm.ClassFile.FieldType.boolean)).before args0 about1 = true := code_word (m := ⟨1, 2⟩) (meth := k1m2) (c := k1c2) (by decide +kernel) rfl rfl rfl (by decide +kernel)
set_option maxRecDepth 65536 in
theorem w_c3 : (Jvm.Cond.code ({ cls := "com/example/sleyreed/sleyreed/xpath/XmlNamesIsNameStartCharPinLaw", name := "in", desc := "(III)Z" } : Jvm.MethodName) method_2_code (3 : Nat) (Option.some Jvm.ClassFile.FieldType.boolean)).before args0 about1 = true := code_word (m := ⟨1, 1⟩) (meth := k1m1) (c := k1c1) (by decide +kernel) rfl rfl rfl (by decide +kernel)
def codes1 : List Jvm.Cond := [Jvm.Cond.code x code maxLocals ret, Jvm.Cond.code ({ cls := "com/example/sleyreed/sleyreed/xpath/XmlNames", name := "isNameStartChar", desc := "(I)Z" } : Jvm.MethodName) prog_65_method_8_code (1 : Nat) (Option.some Jvm.ClassFile.FieldType.boolean), Jvm.Cond.code ({ cls := "com/example/sleyreed/sleyreed/xpath/XmlNamesIsNameStartCharPinLaw", name := "reference", desc := "(I)Z" } : Jvm.MethodName) method_3_code (2 : Nat) (Option.some Jvm.ClassFile.FieldType.boolean), Jvm.Cond.code ({ cls := "com/example/sleyreed/sleyreed/xpath/XmlNamesIsNameStartCharPinLaw", name := "in", desc := "(III)Z" } : Jvm.MethodName) method_2_code (3 : Nat) (Option.some Jvm.ClassFile.FieldType.boolean)]
set_option maxRecDepth 65536 in
theorem codes_eq : words1.filter isCode = codes1 := rfl
theorem w_codes : ∀ c ∈ words1.filter isCode, c.before args0 about1 = true := by
  rw [codes_eq]
  intro c hc
  simp only [codes1, List.mem_cons, List.not_mem_nil, or_false] at hc
  rcases hc with rfl | rfl | rfl | rfl
  · exact w_c0
  · exact w_c1
  · exact w_c2
  · exact w_c3
set_option maxRecDepth 65536 in
theorem w_t1 : (words1.take 24).all (fun c => isCode c || c.before args0 about1) = true := by decide +kernel
set_option maxRecDepth 65536 in
theorem w_t2 : (words1.drop 24).all (fun c => isCode c || c.before args0 about1) = true := by decide +kernel
theorem w_tables : (allAtoms (Jvm.Cond.code x code maxLocals ret :: tables_1)).before args0 about1 = true := by
  rw [allAtoms_all]
  show words1.all (fun c => c.before args0 about1) = true
  refine all_split ?_ w_codes
  rw [← List.take_append_drop 24 words1, List.all_append, w_t1, w_t2]
  rfl
set_option maxRecDepth 65536 in
theorem w_case : (Jvm.Cond.and given_1 narrow_1).before args0 about1 = true := by decide +kernel
theorem w_applies : (headSpec (Jvm.Cond.code x code maxLocals ret :: tables_1) room_1).applies x e0.platform about1 = true :=
  (Spec.applies_iff w_frames).mpr ⟨w_running, w_runnable, w_alone, w_named, w_hears, w_ripe, w_room, w_tables⟩
theorem atStart : AtStart classFile x code maxLocals ret World_1 tables_1 room_1 Calls_1 rest_1 Pre_1 launch0 p0 e0 about1 theMethod args0 below0 :=
  ⟨lists_1, trivial, launch0.admits_env _ _ _, launch0.least_env, fairChoices_fair.cas, fairChoices_fair.clock, w_frames, w_args, w_heap, w_applies, trivial, trivial, w_case⟩
end start1
theorem witness_1 : WitnessClaimed_1 := ⟨start1.p0, start1.e0, start1.about1, start1.theMethod, start1.args0, start1.below0, start1.atStart⟩
end Jvm.Pilot.@@N@@
