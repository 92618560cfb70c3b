import JvmDerived
import JvmDerived.Pilot.@@N@@Statement
import JvmDerived.Pilot.@@N@@Code
set_option linter.unusedVariables false
set_option linter.unusedSimpArgs false
namespace Jvm.Pilot.@@N@@
open Jvm Jvm.ClassFile Sem Op Lib Jvm.Free Jvm.Stand Jvm.LawKit Jvm.RoadKit Bundle Jvm.Pilot.@@N@@.Jvm.D
/-- from the state A the run comes to the method's end, and Q says what it left -/
def own_Go (p : Program) (e : Env) (below : List Frame) (s : State) (K M : Nat) (Q : Option Value → Heap → List Loc → Prop) (A : State) : Prop :=
  ∃ s₂ o, Steps p.tables e below A s₂ ∧ s₂.status = .running ∧ Ended s₂ below o ∧ ∃ v L, o = .returned v ∧ Q v s₂.heap L ∧ FrameEnd s o s₂ L K M
theorem own_back {p : Program} {e : Env} {below : List Frame} {s : State} {K M : Nat} {Q : Option Value → Heap → List Loc → Prop} {A B : State} (h : ∀ t, Steps p.tables e below B t → Steps p.tables e below A t) (g : own_Go p e below s K M Q B) : own_Go p e below s K M Q A := by
  obtain ⟨s₂, o, h1, h2⟩ := g
  exact ⟨s₂, o, h _ h1, h2⟩
theorem own_retN {p : Program} {l : Launch} {e : Env} {R : Room} {s : State} {m : MethodId} {args : Array Value} {below : List Frame} {meth : Method} {c : Code} {T : State} {locs : List Loc} {cells slots K M : Nat} {Q : Option Value → Heap → List Loc → Prop}
    (X : Stand p l e R s m args below meth c T locs cells slots) (hx : p.tables.exec = Jvm.exec) {pc : Nat} {Ls : Array Slot} {z r : Int32} {t : FieldType} {rest : List Value} (hret : meth.sig.returnType = some t) (ht : t = .boolean ∨ t = .byte ∨ t = .char ∨ t = .short) (hd : decode c.code pc = .ok (.ireturn, 1)) (hlk : meth.locks = false)
    (hr : nar t z = r) (hq : Q (some (.int r)) T.heap locs) (hK : cells ≤ K) (hM : slots ≤ M) : own_Go p e below s K M Q (T.setTop (mkF m pc Ls (.int z :: rest))) := by
  subst hr
  obtain ⟨fs, hr, hrun, hended, hW, hsame⟩ := X.leave (v := some (.int (nar t z))) (fun h => by rw [hret] at h; cases h)
  exact ⟨_, _, retN X hx hret ht hd hr, hrun, hended, _, _, rfl, hq, ⟨_, rfl⟩, hW, hsame.mono hK hM⟩
theorem own_retI {p : Program} {l : Launch} {e : Env} {R : Room} {s : State} {m : MethodId} {args : Array Value} {below : List Frame} {meth : Method} {c : Code} {T : State} {locs : List Loc} {cells slots K M : Nat} {Q : Option Value → Heap → List Loc → Prop}
    (X : Stand p l e R s m args below meth c T locs cells slots) (hx : p.tables.exec = Jvm.exec) {pc : Nat} {Ls : Array Slot} {z : Int32} {rest : List Value} (hret : meth.sig.returnType = some .int) (hd : decode c.code pc = .ok (.ireturn, 1)) (hlk : meth.locks = false)
    (hq : Q (some (.int z)) T.heap locs) (hK : cells ≤ K) (hM : slots ≤ M) : own_Go p e below s K M Q (T.setTop (mkF m pc Ls (.int z :: rest))) := by
  obtain ⟨fs, hr, hrun, hended, hW, hsame⟩ := X.leave (v := some (.int z)) (fun h => by rw [hret] at h; cases h)
  refine ⟨_, _, ?_, hrun, hended, _, _, rfl, hq, ⟨_, rfl⟩, hW, hsame.mono hK hM⟩
  have hm' : T.vm.method? m = some meth := X.method'
  have hn : narrow .int (.int z) = .int z := rfl
  show Steps p.tables e below (T.setTop { method := m, pc := pc, locals := Ls, stack := _ :: rest, locked := none }) _
  jvm_step X.here [X.here.top, hx, hd, hm', hret, hn]
  first | (intro acts; rw [hr _ acts rfl rfl rfl]) | rw [hr _ _ rfl rfl rfl]
  exact Steps.refl _
theorem own_retJ {p : Program} {l : Launch} {e : Env} {R : Room} {s : State} {m : MethodId} {args : Array Value} {below : List Frame} {meth : Method} {c : Code} {T : State} {locs : List Loc} {cells slots K M : Nat} {Q : Option Value → Heap → List Loc → Prop}
    (X : Stand p l e R s m args below meth c T locs cells slots) (hx : p.tables.exec = Jvm.exec) {pc : Nat} {Ls : Array Slot} {z : Int64} (hret : meth.sig.returnType = some .long) (hd : decode c.code pc = .ok (.lreturn, 1)) (hlk : meth.locks = false)
    (hq : Q (some (.long z)) T.heap locs) (hK : cells ≤ K) (hM : slots ≤ M) : own_Go p e below s K M Q (T.setTop (mkF m pc Ls [.long z])) := by
  obtain ⟨fs, hr, hrun, hended, hW, hsame⟩ := X.leave (v := some (.long z)) (fun h => by rw [hret] at h; cases h)
  exact ⟨_, _, X.lreturnOut hx hret hd hr, hrun, hended, _, _, rfl, hq, ⟨_, rfl⟩, hW, hsame.mono hK hM⟩
theorem own_retV {p : Program} {l : Launch} {e : Env} {R : Room} {s : State} {m : MethodId} {args : Array Value} {below : List Frame} {meth : Method} {c : Code} {T : State} {locs : List Loc} {cells slots K M : Nat} {Q : Option Value → Heap → List Loc → Prop}
    (X : Stand p l e R s m args below meth c T locs cells slots) (hx : p.tables.exec = Jvm.exec) {pc : Nat} {Ls : Array Slot} (hret : meth.sig.returnType = none) (hd : decode c.code pc = .ok (.return_, 1)) (hlk : meth.locks = false)
    (hq : Q none T.heap locs) (hK : cells ≤ K) (hM : slots ≤ M) : own_Go p e below s K M Q (T.setTop (mkF m pc Ls [])) := by
  obtain ⟨fs, hr, hrun, hended, hW, hsame⟩ := X.leave (v := none) (fun _ => rfl)
  exact ⟨_, _, X.returnOut hx hret hd hr, hrun, hended, _, _, rfl, hq, ⟨_, rfl⟩, hW, hsame.mono hK hM⟩
/-- the value returned, nothing old written, the heap as it was -/
def own_QP (w : Value) (h0 : Heap) (n0 : Nat) (v : Option Value) (h : Heap) (L : List Loc) : Prop := v = some w ∧ Fr n0 L ∧ h = h0
/-- the value returned, nothing old written, the heap no shorter -/
def own_QG (w : Value) (h0 : Heap) (n0 : Nat) (v : Option Value) (h : Heap) (L : List Loc) : Prop := v = some w ∧ Fr n0 L ∧ n0 ≤ h.size
/-- an array of n components, f says what each holds -/
def own_VA (Z : State) (h : Heap) (a : Addr) (ty : FieldType) (n : Nat) (f : Nat → Value) : Prop := ∃ c : Cell, Arr Z h a c ty ∧ c.slots.size = n ∧ ∀ k, k < n → c.slots[k]? = some (f k)
theorem own_VA_new {Z : State} {h : Heap} {a : Addr} {k : ClassId} {ty : FieldType} {z : Int32} {n : Nat} {d : Value} (A : Arr Z h a (newA k ty z) ty) (hz : ¬ z < 0) (hn : z.toNatClampNeg = n) (hd : defaultValue ty = d) : own_VA Z h a ty n (fun _ => d) := by
  obtain ⟨c, A, -, S, -, H, -⟩ := Arv.new A hz
  subst hn hd
  exact ⟨c, A, S, fun i hi => H i (by rw [S]; exact hi)⟩
theorem own_VA_set {Z : State} {h h' : Heap} {a : Addr} {ty : FieldType} {n i : Nat} {f : Nat → Value} {v : Value} (V : own_VA Z h a ty n f) (W : Wr h h' a i v) (hi : i < n) : own_VA Z h' a ty n (fun q => if q = i then v else f q) := by
  obtain ⟨c, A, S, H⟩ := V
  refine ⟨_, A.same W, by rw [sz_set]; exact S, fun k hk => ?_⟩
  show (c.slots.setIfInBounds i v)[k]? = some (if k = i then v else f k)
  by_cases q : k = i
  · subst q; rw [if_pos rfl, Array.getElem?_setIfInBounds_self_of_lt (by omega)]
  · rw [if_neg q, Array.getElem?_setIfInBounds_ne (fun z => q z.symm)]; exact H k hk
theorem own_VA_congr {Z : State} {h : Heap} {a : Addr} {ty : FieldType} {n : Nat} {f g : Nat → Value} (V : own_VA Z h a ty n f) (q : ∀ k, k < n → f k = g k) : own_VA Z h a ty n g := by
  obtain ⟨c, A, S, H⟩ := V
  exact ⟨c, A, S, fun k hk => by rw [← q k hk]; exact H k hk⟩
theorem own_VA_ext {Z : State} {h h' : Heap} {a : Addr} {ty : FieldType} {n : Nat} {f : Nat → Value} (V : own_VA Z h a ty n f) (E : Ext h h') : own_VA Z h' a ty n f := by
  obtain ⟨c, A, S, H⟩ := V
  exact ⟨c, A.ext E, S, H⟩
theorem own_VA_other {Z : State} {h h' : Heap} {a b : Addr} {ty : FieldType} {n sl : Nat} {v : Value} {f : Nat → Value} (V : own_VA Z h a ty n f) (W : Wr h h' b sl v) (q : a ≠ b) : own_VA Z h' a ty n f := by
  obtain ⟨c, A, S, H⟩ := V
  exact ⟨c, A.other W q, S, H⟩
theorem own_VA_lt {Z : State} {h : Heap} {a : Addr} {ty : FieldType} {n : Nat} {f : Nat → Value} (V : own_VA Z h a ty n f) : a < h.size := by
  obtain ⟨c, A, -⟩ := V
  exact A.lt
theorem own_inb {j : Int32} {c : Cell} {n : Nat} (S : c.slots.size = n) (hj : ¬ j < 0 ∧ j.toNatClampNeg < n) : ¬ (j < 0 ∨ c.slots.size ≤ j.toNatClampNeg) := fun q => q.elim hj.1 fun y => by rw [S] at y; omega
section Arrays
variable {p : Program} {l : Launch} {e : Env} {R : Room} {s : State} {m : MethodId} {args : Array Value} {below : List Frame} {meth : Method} {c : Code} {T : State} {locs : List Loc} {cells slots : Nat} {Z : State} {h : Heap} {a : Addr} {n : Nat} {f : Nat → Value}
theorem own_stI (X : Stand p l e R s m args below meth c T locs cells slots) (hx : p.tables.exec = Jvm.exec) (hZ : Z.Warmed39 s.vm) (eT : T.heap = h) (V : own_VA Z h a .int n f) {j x : Int32} (i : Nat) (hj : ¬ j < 0 ∧ j.toNatClampNeg < n) (hi : j.toNatClampNeg = i) {g : JFrame} (hg : g.method = m) {rest : List Value} (hs : g.stack = .int x :: .int j :: .ref a :: rest) (hd : decode c.code g.pc = .ok (.iastore, 1)) :
    ∃ T' h', Stand p l e R s m args below meth c T' (locs ++ [⟨a, j.toNatClampNeg⟩]) cells slots ∧ T'.heap = h' ∧ Wr h h' a i (.int x) ∧ own_VA Z h' a .int n (fun q => if q = i then .int x else f q) ∧ ∀ target, Steps p.tables e below (T'.setTop { g with pc := g.pc + 1, stack := rest }) target → Steps p.tables e below (T.setTop g) target := by
  obtain ⟨cl, A, S, H⟩ := V
  obtain ⟨T', h', X', e', W, st⟩ := stI X hx hZ eT A (own_inb S hj) hg hs hd
  subst hi
  exact ⟨T', h', X', e', W, own_VA_set ⟨cl, A, S, H⟩ W hj.2, st⟩
theorem own_stB (X : Stand p l e R s m args below meth c T locs cells slots) (hx : p.tables.exec = Jvm.exec) (hZ : Z.Warmed39 s.vm) (eT : T.heap = h) (V : own_VA Z h a .byte n f) {j x : Int32} (i : Nat) (hj : ¬ j < 0 ∧ j.toNatClampNeg < n) (hi : j.toNatClampNeg = i) {g : JFrame} (hg : g.method = m) {rest : List Value} (hs : g.stack = .int x :: .int j :: .ref a :: rest) (hd : decode c.code g.pc = .ok (.bastore, 1)) :
    ∃ T' h', Stand p l e R s m args below meth c T' (locs ++ [⟨a, j.toNatClampNeg⟩]) cells slots ∧ T'.heap = h' ∧ Wr h h' a i (.int (x.toInt8.toInt32)) ∧ own_VA Z h' a .byte n (fun q => if q = i then .int (x.toInt8.toInt32) else f q) ∧ ∀ target, Steps p.tables e below (T'.setTop { g with pc := g.pc + 1, stack := rest }) target → Steps p.tables e below (T.setTop g) target := by
  obtain ⟨cl, A, S, H⟩ := V
  obtain ⟨T', h', X', e', W, st⟩ := stB X hx hZ eT A (own_inb S hj) hg hs hd
  subst hi
  exact ⟨T', h', X', e', W, own_VA_set ⟨cl, A, S, H⟩ W hj.2, st⟩
theorem own_stJ (X : Stand p l e R s m args below meth c T locs cells slots) (hx : p.tables.exec = Jvm.exec) (hZ : Z.Warmed39 s.vm) (eT : T.heap = h) (V : own_VA Z h a .long n f) {j : Int32} {x : Int64} (i : Nat) (hj : ¬ j < 0 ∧ j.toNatClampNeg < n) (hi : j.toNatClampNeg = i) {g : JFrame} (hg : g.method = m) {rest : List Value} (hs : g.stack = .long x :: .int j :: .ref a :: rest) (hd : decode c.code g.pc = .ok (.lastore, 1)) :
    ∃ T' h', Stand p l e R s m args below meth c T' (locs ++ [⟨a, j.toNatClampNeg⟩]) cells slots ∧ T'.heap = h' ∧ Wr h h' a i (.long x) ∧ own_VA Z h' a .long n (fun q => if q = i then .long x else f q) ∧ ∀ target, Steps p.tables e below (T'.setTop { g with pc := g.pc + 1, stack := rest }) target → Steps p.tables e below (T.setTop g) target := by
  obtain ⟨cl, A, S, H⟩ := V
  obtain ⟨T', h', X', e', W, st⟩ := stJ X hx hZ eT A (own_inb S hj) hg hs hd
  subst hi
  exact ⟨T', h', X', e', W, own_VA_set ⟨cl, A, S, H⟩ W hj.2, st⟩
theorem own_ldI (X : Stand p l e R s m args below meth c T locs cells slots) (hx : p.tables.exec = Jvm.exec) (hZ : Z.Warmed39 s.vm) (eT : T.heap = h) (V : own_VA Z h a .int n f) {j w : Int32} (hj : ¬ j < 0 ∧ j.toNatClampNeg < n) (hv : f j.toNatClampNeg = .int w) {g : JFrame} (hg : g.method = m) {rest : List Value} (hs : g.stack = .int j :: .ref a :: rest) (hd : decode c.code g.pc = .ok (.iaload, 1)) :
    ∀ target, Steps p.tables e below (T.setTop { g with pc := g.pc + 1, stack := .int w :: rest }) target → Steps p.tables e below (T.setTop g) target := by
  obtain ⟨cl, A, S, H⟩ := V
  exact fun t k => X.iaload hx (by rw [eT]; exact A.1) (State.isArrayOf_alike hZ.alike A.2.1) A.2.2 (own_inb S hj) (hv ▸ H _ hj.2) hg hs hd t k
theorem own_ldB (X : Stand p l e R s m args below meth c T locs cells slots) (hx : p.tables.exec = Jvm.exec) (hZ : Z.Warmed39 s.vm) (eT : T.heap = h) (V : own_VA Z h a .byte n f) {j w : Int32} (hj : ¬ j < 0 ∧ j.toNatClampNeg < n) (hv : f j.toNatClampNeg = .int w) {g : JFrame} (hg : g.method = m) {rest : List Value} (hs : g.stack = .int j :: .ref a :: rest) (hd : decode c.code g.pc = .ok (.baload, 1)) :
    ∀ target, Steps p.tables e below (T.setTop { g with pc := g.pc + 1, stack := .int w :: rest }) target → Steps p.tables e below (T.setTop g) target := by
  obtain ⟨cl, A, S, H⟩ := V
  exact fun t k => X.baloadBytes hx (by rw [eT]; exact A.1) (State.isArrayOf_alike hZ.alike A.2.1) A.2.2 (own_inb S hj) (hv ▸ H _ hj.2) hg hs hd t k
theorem own_ldJ (X : Stand p l e R s m args below meth c T locs cells slots) (hx : p.tables.exec = Jvm.exec) (hZ : Z.Warmed39 s.vm) (eT : T.heap = h) (V : own_VA Z h a .long n f) {j : Int32} {w : Int64} (hj : ¬ j < 0 ∧ j.toNatClampNeg < n) (hv : f j.toNatClampNeg = .long w) {g : JFrame} (hg : g.method = m) {rest : List Value} (hs : g.stack = .int j :: .ref a :: rest) (hd : decode c.code g.pc = .ok (.laload, 1)) :
    ∀ target, Steps p.tables e below (T.setTop { g with pc := g.pc + 1, stack := .long w :: rest }) target → Steps p.tables e below (T.setTop g) target := by
  obtain ⟨cl, A, S, H⟩ := V
  exact fun t k => X.laload hx (by rw [eT]; exact A.1) (State.isArrayOf_alike hZ.alike A.2.1) A.2.2 (own_inb S hj) (hv ▸ H _ hj.2) hg hs hd t k
theorem own_len (X : Stand p l e R s m args below meth c T locs cells slots) (hx : p.tables.exec = Jvm.exec) (hZ : Z.Warmed39 s.vm) (eT : T.heap = h) {ty : FieldType} (V : own_VA Z h a ty n f) {z : Int32} (hz : n.toInt32 = z) {g : JFrame} (hg : g.method = m) {rest : List Value} (hs : g.stack = .ref a :: rest) (hd : decode c.code g.pc = .ok (.arraylength, 1)) :
    ∀ target, Steps p.tables e below (T.setTop { g with pc := g.pc + 1, stack := .int z :: rest }) target → Steps p.tables e below (T.setTop g) target := by
  obtain ⟨cl, A, S, H⟩ := V
  subst hz S
  exact fun t k => X.arraylength hx (by rw [eT]; exact A.1) (State.isArrayOf_alike hZ.alike A.2.1) hg hs hd t k
end Arrays
theorem own_small {x : Int32} {k : Nat} (hk : k < 2147483648) (h1 : ¬ x < 0) (h2 : x.toInt < k) : ∃ n : Nat, n < k ∧ x = Int32.ofNat n := by
  have z : (0 : Int32).toInt = 0 := rfl
  rw [Int32.lt_iff_toInt_lt, z] at h1
  refine ⟨x.toInt.toNat, by omega, Int32.toInt_inj.mp ?_⟩
  rw [Int32.toInt_ofNat_of_lt (by omega)]
  omega
theorem own_lt {x y : Int32} : x < y ↔ x.toInt < y.toInt := Int32.lt_iff_toInt_lt
theorem own_ne {x : Int32} {k : Int} (c : Int32) (hc : c.toInt = k) (h : x.toInt ≠ k) : ¬ x = c := fun q => h (by rw [q]; exact hc)
theorem own_ix0 {x : Int32} (h : x = (0 : Int32) ∨ x = (1 : Int32)) : ¬ x < 0 ∧ x.toNatClampNeg < 5 := by rcases h with rfl | rfl <;> decide
theorem own_ix1 {x : Int32} (h : x = (0 : Int32) ∨ x = (1 : Int32)) : ¬ (x + (1 : Int32)) < 0 ∧ (x + (1 : Int32)).toNatClampNeg < 5 := by rcases h with rfl | rfl <;> decide
theorem own_ix2 {x : Int32} (h : x = (0 : Int32) ∨ x = (1 : Int32)) : ¬ (x + (2 : Int32)) < 0 ∧ (x + (2 : Int32)).toNatClampNeg < 5 := by rcases h with rfl | rfl <;> decide
theorem own_ix3 {x : Int32} (h : x = (0 : Int32) ∨ x = (1 : Int32)) : ¬ (x + (3 : Int32)) < 0 ∧ (x + (3 : Int32)).toNatClampNeg < 5 := by rcases h with rfl | rfl <;> decide
theorem own_at (x : Int32) : (x &&& (1 : Int32)) = (0 : Int32) ∨ (x &&& (1 : Int32)) = (1 : Int32) := by
  have e : (x &&& (1 : Int32)).toInt = x.toInt % 2 := c_mask x 1 1 (by decide) (by decide)
  by_cases h : x.toInt % 2 = 0
  · exact Or.inl (Int32.toInt_inj.mp (by rw [e, h]; rfl))
  · exact Or.inr (Int32.toInt_inj.mp (by rw [e]; show _ = (1 : Int); omega))
/-- the five octets, as they lie in the array -/
def own_o (x0 x1 x2 x3 x4 : Int32) (k : Nat) : Int32 := if k = 4 then ((x4.toInt8.toInt32).toInt8.toInt32) else if k = 3 then ((x3.toInt8.toInt32).toInt8.toInt32) else if k = 2 then ((x2.toInt8.toInt32).toInt8.toInt32) else if k = 1 then ((x1.toInt8.toInt32).toInt8.toInt32) else if k = 0 then ((x0.toInt8.toInt32).toInt8.toInt32) else (0 : Int32)
/-! body 3: com/example/frame_to_method/frametomethod/Utf8SequenceSizePinLaw.cont:(I)Z -/
theorem own_d3_0 : decode method_3_code 0 = .ok (.iload_n 0, 1) := by decide +kernel
theorem own_d3_1 : decode method_3_code 1 = .ok (.sipush 128, 3) := by decide +kernel
theorem own_d3_4 : decode method_3_code 4 = .ok (.if_icmp .lt 14, 3) := by decide +kernel
theorem own_d3_7 : decode method_3_code 7 = .ok (.iload_n 0, 1) := by decide +kernel
theorem own_d3_8 : decode method_3_code 8 = .ok (.sipush 191, 3) := by decide +kernel
theorem own_d3_11 : decode method_3_code 11 = .ok (.if_icmp .gt 7, 3) := by decide +kernel
theorem own_d3_14 : decode method_3_code 14 = .ok (.iconst 1, 1) := by decide +kernel
theorem own_d3_15 : decode method_3_code 15 = .ok (.goto 4, 3) := by decide +kernel
theorem own_d3_18 : decode method_3_code 18 = .ok (.iconst 0, 1) := by decide +kernel
theorem own_d3_19 : decode method_3_code 19 = .ok (.ireturn, 1) := by decide +kernel
def own_f3_0 (x0 : Int32) : Int32 := (if x0 < (128 : Int32) then (0 : Int32) else (if (191 : Int32) < x0 then (0 : Int32) else (1 : Int32)))
set_option maxRecDepth 65536 in
set_option maxHeartbeats 4000000 in
theorem own_l3_0 {p : Program} {l : Launch} {e : Env} {s : State} {m : MethodId} {args : Array Value} {below : List Frame} {meth : Method} {c : Code} {T : State} {locs : List Loc} {Z : State} {a0 : Array Value} {h0 : Heap} {n0 : Nat}
    (X : Stand p l e ({ frames := 0, cells := 0, slots := 0, locals := 0 } : Room) s m args below meth c T locs 0 0) (hx : p.tables.exec = Jvm.exec) (hZ : Z.Warmed39 s.vm) (hw : ∀ d ∈ tables_1, d.before a0 Z = true) (hby : c.code = method_3_code) (hml : c.maxLocals = 1) (hown : s.vm.findClass "com/example/frame_to_method/frametomethod/Utf8SequenceSizePinLaw" = some m.cls) (hret : meth.sig.returnType = some .boolean) (hlk : meth.locks = false) (e0 : T.heap = h0) (N : Fr n0 locs) (Z0 : n0 ≤ h0.size)
    (x0 : Int32) {r : Int32} (hR : r = own_f3_0 x0) : own_Go p e below s ({ frames := 0, cells := 0, slots := 0, locals := 0 } : Room).cells ({ frames := 0, cells := 0, slots := 0, locals := 0 } : Room).slots (own_QP (.int r) h0 n0) (T.setTop (mkF m 0 #[.val (.int x0)] [])) := by
  unfold own_f3_0 at hR
  refine own_back (fun t k => XS.iloadN X.here hx rfl (hb hby own_d3_0) rfl k) ?_
  show own_Go _ _ _ _ _ _ _ (T.setTop (mkF m 1 #[.val (.int x0)] [(.int x0)]))
  refine own_back (fun t k => XS.sipush X.here hx rfl (hb hby own_d3_1) k) ?_
  show own_Go _ _ _ _ _ _ _ (T.setTop (mkF m 4 #[.val (.int x0)] [(.int (128 : Int32)), (.int x0)]))
  by_cases hc4 : x0 < (128 : Int32)
  · rw [if_pos hc4] at hR
    refine own_back (fun t k => XS.icmpYes X.here hx rfl (pc0 := 4) (pc' := 18) rfl (hb hby own_d3_4) rfl (tlt hc4).1 (by decide) (by decide) k) ?_
    show own_Go _ _ _ _ _ _ _ (T.setTop (mkF m 18 #[.val (.int x0)] []))
    refine own_back (fun t k => XS.iconst X.here hx rfl (hb hby own_d3_18) k) ?_
    show own_Go _ _ _ _ _ _ _ (T.setTop (mkF m 19 #[.val (.int x0)] [(.int (0 : Int32))]))
    subst hR
    exact own_retN X hx (t := .boolean) hret (by simp) (hb hby own_d3_19) hlk (by decide) ⟨rfl, N, e0⟩ (by decide) (by decide)
  · rw [if_neg hc4] at hR
    refine own_back (fun t k => XS.icmpNo X.here hx rfl (hb hby own_d3_4) rfl (flt hc4).1 k) ?_
    show own_Go _ _ _ _ _ _ _ (T.setTop (mkF m 7 #[.val (.int x0)] []))
    refine own_back (fun t k => XS.iloadN X.here hx rfl (hb hby own_d3_7) rfl k) ?_
    show own_Go _ _ _ _ _ _ _ (T.setTop (mkF m 8 #[.val (.int x0)] [(.int x0)]))
    refine own_back (fun t k => XS.sipush X.here hx rfl (hb hby own_d3_8) k) ?_
    show own_Go _ _ _ _ _ _ _ (T.setTop (mkF m 11 #[.val (.int x0)] [(.int (191 : Int32)), (.int x0)]))
    by_cases hc11 : (191 : Int32) < x0
    · rw [if_pos hc11] at hR
      refine own_back (fun t k => XS.icmpYes X.here hx rfl (pc0 := 11) (pc' := 18) rfl (hb hby own_d3_11) rfl (tlt hc11).2.2.1 (by decide) (by decide) k) ?_
      show own_Go _ _ _ _ _ _ _ (T.setTop (mkF m 18 #[.val (.int x0)] []))
      refine own_back (fun t k => XS.iconst X.here hx rfl (hb hby own_d3_18) k) ?_
      show own_Go _ _ _ _ _ _ _ (T.setTop (mkF m 19 #[.val (.int x0)] [(.int (0 : Int32))]))
      subst hR
      exact own_retN X hx (t := .boolean) hret (by simp) (hb hby own_d3_19) hlk (by decide) ⟨rfl, N, e0⟩ (by decide) (by decide)
    · rw [if_neg hc11] at hR
      refine own_back (fun t k => XS.icmpNo X.here hx rfl (hb hby own_d3_11) rfl (flt hc11).2.2.1 k) ?_
      show own_Go _ _ _ _ _ _ _ (T.setTop (mkF m 14 #[.val (.int x0)] []))
      refine own_back (fun t k => XS.iconst X.here hx rfl (hb hby own_d3_14) k) ?_
      show own_Go _ _ _ _ _ _ _ (T.setTop (mkF m 15 #[.val (.int x0)] [(.int (1 : Int32))]))
      refine own_back (fun t k => XS.goto X.here hx rfl (pc0 := 15) (pc' := 19) rfl (hb hby own_d3_15) (by decide) (by decide) k) ?_
      show own_Go _ _ _ _ _ _ _ (T.setTop (mkF m 19 #[.val (.int x0)] [(.int (1 : Int32))]))
      subst hR
      exact own_retN X hx (t := .boolean) hret (by simp) (hb hby own_d3_19) hlk (by decide) ⟨rfl, N, e0⟩ (by decide) (by decide)
theorem own_pn3 : plainName "com/example/frame_to_method/frametomethod/Utf8SequenceSizePinLaw" = true := by first | (simp [plainName, overriddenIn]; done) | decide +kernel
theorem own_ef3 (m : MethodId) (x0 : Int32) : entryFrame m #[(.int x0)] 1 = mkF m 0 #[.val (.int x0)] [] := by first | (simp [entryFrame, mkF, argsToLocals, Value.category]; done) | rfl
set_option maxRecDepth 65536 in
set_option maxHeartbeats 4000000 in
theorem own_rm3 (l : Launch) (Z : State) (a0 : Array Value) (hw : ∀ d ∈ tables_1, d.before a0 Z = true) (ws : List Jvm.Cond) (x0 : Int32) (h0 : Heap) (n0 : Nat) (Z0 : n0 ≤ h0.size) :
    MetFree l (⟨"com/example/frame_to_method/frametomethod/Utf8SequenceSizePinLaw", "cont", "(I)Z"⟩ : MethodName) (head1 (Jvm.Cond.code (⟨"com/example/frame_to_method/frametomethod/Utf8SequenceSizePinLaw", "cont", "(I)Z"⟩ : MethodName) method_3_code 1 (some .boolean) :: ws) ({ frames := 0, cells := 0, slots := 0, locals := 0 } : Room)) (fun a U => a = #[(.int x0)] ∧ Z.Warmed39 U.vm ∧ U.heap = h0) (fun _ _ _ _ _ => True) (fun _ U o U' => ∃ v L, o = .returned v ∧ own_QP (.int (own_f3_0 x0)) h0 n0 v U'.heap L ∧ FrameEnd U o U' L ({ frames := 0, cells := 0, slots := 0, locals := 0 } : Room).cells ({ frames := 0, cells := 0, slots := 0, locals := 0 } : Room).slots) := by
  refine MetFree.of_bodySF (plainFor_of_name own_pn3) hisR ?_
  intro p e s m args below meth c s₁ Bd hml0 hP hK
  obtain ⟨rfl, hZ, hh⟩ := hP
  have X0 : Stand p l e ({ frames := 0, cells := 0, slots := 0, locals := 0 } : Room) s m #[(.int x0)] below meth c s₁ [] 0 0 := Stand.of_body Bd
  have e0 : s₁.heap = h0 := by rw [← hh, Bd.state]; rfl
  refine own_back (s := s) (fun t k => castTop (own_ef3 m x0) k) ?_
  exact own_l3_0 X0 Bd.exec hZ hw Bd.bytes hml0 (findClass_of_methodNamed Bd.named) Bd.returns (BodyLoose.notSynchronized Bd) e0 (Fr.nil n0) Z0 x0 rfl
theorem own_pd0 : parseMethodDescriptor "(I)Z" = some ⟨[.int], some .boolean⟩ := by decide +kernel
/-! body 1: com/example/frame_to_method/frametomethod/Utf8SequenceSizePinLaw.reference:([BII)I -/
theorem own_d1_0 : decode method_4_code 0 = .ok (.aload_n 0, 1) := by decide +kernel
theorem own_d1_1 : decode method_4_code 1 = .ok (.iload_n 1, 1) := by decide +kernel
theorem own_d1_2 : decode method_4_code 2 = .ok (.baload, 1) := by decide +kernel
theorem own_d1_3 : decode method_4_code 3 = .ok (.sipush 255, 3) := by decide +kernel
theorem own_d1_6 : decode method_4_code 6 = .ok (.iand, 1) := by decide +kernel
theorem own_d1_7 : decode method_4_code 7 = .ok (.istore_n 3, 1) := by decide +kernel
theorem own_d1_8 : decode method_4_code 8 = .ok (.aload_n 0, 1) := by decide +kernel
theorem own_d1_9 : decode method_4_code 9 = .ok (.iload_n 1, 1) := by decide +kernel
theorem own_d1_10 : decode method_4_code 10 = .ok (.iconst 1, 1) := by decide +kernel
theorem own_d1_11 : decode method_4_code 11 = .ok (.iadd, 1) := by decide +kernel
theorem own_d1_12 : decode method_4_code 12 = .ok (.baload, 1) := by decide +kernel
theorem own_d1_13 : decode method_4_code 13 = .ok (.sipush 255, 3) := by decide +kernel
theorem own_d1_16 : decode method_4_code 16 = .ok (.iand, 1) := by decide +kernel
theorem own_d1_17 : decode method_4_code 17 = .ok (.istore 4, 2) := by decide +kernel
theorem own_d1_19 : decode method_4_code 19 = .ok (.aload_n 0, 1) := by decide +kernel
theorem own_d1_20 : decode method_4_code 20 = .ok (.iload_n 1, 1) := by decide +kernel
theorem own_d1_21 : decode method_4_code 21 = .ok (.iconst 2, 1) := by decide +kernel
theorem own_d1_22 : decode method_4_code 22 = .ok (.iadd, 1) := by decide +kernel
theorem own_d1_23 : decode method_4_code 23 = .ok (.baload, 1) := by decide +kernel
theorem own_d1_24 : decode method_4_code 24 = .ok (.sipush 255, 3) := by decide +kernel
theorem own_d1_27 : decode method_4_code 27 = .ok (.iand, 1) := by decide +kernel
theorem own_d1_28 : decode method_4_code 28 = .ok (.istore 5, 2) := by decide +kernel
theorem own_d1_30 : decode method_4_code 30 = .ok (.aload_n 0, 1) := by decide +kernel
theorem own_d1_31 : decode method_4_code 31 = .ok (.iload_n 1, 1) := by decide +kernel
theorem own_d1_32 : decode method_4_code 32 = .ok (.iconst 3, 1) := by decide +kernel
theorem own_d1_33 : decode method_4_code 33 = .ok (.iadd, 1) := by decide +kernel
theorem own_d1_34 : decode method_4_code 34 = .ok (.baload, 1) := by decide +kernel
theorem own_d1_35 : decode method_4_code 35 = .ok (.sipush 255, 3) := by decide +kernel
theorem own_d1_38 : decode method_4_code 38 = .ok (.iand, 1) := by decide +kernel
theorem own_d1_39 : decode method_4_code 39 = .ok (.istore 6, 2) := by decide +kernel
theorem own_d1_41 : decode method_4_code 41 = .ok (.iload_n 3, 1) := by decide +kernel
theorem own_d1_42 : decode method_4_code 42 = .ok (.sipush 192, 3) := by decide +kernel
theorem own_d1_45 : decode method_4_code 45 = .ok (.if_icmp .lt 10, 3) := by decide +kernel
theorem own_d1_48 : decode method_4_code 48 = .ok (.iload_n 3, 1) := by decide +kernel
theorem own_d1_49 : decode method_4_code 49 = .ok (.sipush 247, 3) := by decide +kernel
theorem own_d1_52 : decode method_4_code 52 = .ok (.if_icmp .le 5, 3) := by decide +kernel
theorem own_d1_55 : decode method_4_code 55 = .ok (.iconst 0, 1) := by decide +kernel
theorem own_d1_56 : decode method_4_code 56 = .ok (.ireturn, 1) := by decide +kernel
theorem own_d1_57 : decode method_4_code 57 = .ok (.iload_n 3, 1) := by decide +kernel
theorem own_d1_58 : decode method_4_code 58 = .ok (.sipush 224, 3) := by decide +kernel
theorem own_d1_61 : decode method_4_code 61 = .ok (.if_icmp .ge 7, 3) := by decide +kernel
theorem own_d1_64 : decode method_4_code 64 = .ok (.iconst 2, 1) := by decide +kernel
theorem own_d1_65 : decode method_4_code 65 = .ok (.goto 15, 3) := by decide +kernel
theorem own_d1_68 : decode method_4_code 68 = .ok (.iload_n 3, 1) := by decide +kernel
theorem own_d1_69 : decode method_4_code 69 = .ok (.sipush 240, 3) := by decide +kernel
theorem own_d1_72 : decode method_4_code 72 = .ok (.if_icmp .ge 7, 3) := by decide +kernel
theorem own_d1_75 : decode method_4_code 75 = .ok (.iconst 3, 1) := by decide +kernel
theorem own_d1_76 : decode method_4_code 76 = .ok (.goto 4, 3) := by decide +kernel
theorem own_d1_79 : decode method_4_code 79 = .ok (.iconst 4, 1) := by decide +kernel
theorem own_d1_80 : decode method_4_code 80 = .ok (.istore 7, 2) := by decide +kernel
theorem own_d1_82 : decode method_4_code 82 = .ok (.iload_n 2, 1) := by decide +kernel
theorem own_d1_83 : decode method_4_code 83 = .ok (.iload_n 1, 1) := by decide +kernel
theorem own_d1_84 : decode method_4_code 84 = .ok (.isub, 1) := by decide +kernel
theorem own_d1_85 : decode method_4_code 85 = .ok (.iload 7, 2) := by decide +kernel
theorem own_d1_87 : decode method_4_code 87 = .ok (.if_icmp .ge 5, 3) := by decide +kernel
theorem own_d1_90 : decode method_4_code 90 = .ok (.iconst 0, 1) := by decide +kernel
theorem own_d1_91 : decode method_4_code 91 = .ok (.ireturn, 1) := by decide +kernel
theorem own_d1_92 : decode method_4_code 92 = .ok (.iload 4, 2) := by decide +kernel
theorem own_d1_94 : decode method_4_code 94 = .ok (.invokestatic 18, 3) := by decide +kernel
theorem own_d1_97 : decode method_4_code 97 = .ok (.ifCond .ne 5, 3) := by decide +kernel
theorem own_d1_100 : decode method_4_code 100 = .ok (.iconst 0, 1) := by decide +kernel
theorem own_d1_101 : decode method_4_code 101 = .ok (.ireturn, 1) := by decide +kernel
theorem own_d1_102 : decode method_4_code 102 = .ok (.iload 7, 2) := by decide +kernel
theorem own_d1_104 : decode method_4_code 104 = .ok (.iconst 3, 1) := by decide +kernel
theorem own_d1_105 : decode method_4_code 105 = .ok (.if_icmp .lt 13, 3) := by decide +kernel
theorem own_d1_108 : decode method_4_code 108 = .ok (.iload 5, 2) := by decide +kernel
theorem own_d1_110 : decode method_4_code 110 = .ok (.invokestatic 18, 3) := by decide +kernel
theorem own_d1_113 : decode method_4_code 113 = .ok (.ifCond .ne 5, 3) := by decide +kernel
theorem own_d1_116 : decode method_4_code 116 = .ok (.iconst 0, 1) := by decide +kernel
theorem own_d1_117 : decode method_4_code 117 = .ok (.ireturn, 1) := by decide +kernel
theorem own_d1_118 : decode method_4_code 118 = .ok (.iload 7, 2) := by decide +kernel
theorem own_d1_120 : decode method_4_code 120 = .ok (.iconst 4, 1) := by decide +kernel
theorem own_d1_121 : decode method_4_code 121 = .ok (.if_icmp .ne 13, 3) := by decide +kernel
theorem own_d1_124 : decode method_4_code 124 = .ok (.iload 6, 2) := by decide +kernel
theorem own_d1_126 : decode method_4_code 126 = .ok (.invokestatic 18, 3) := by decide +kernel
theorem own_d1_129 : decode method_4_code 129 = .ok (.ifCond .ne 5, 3) := by decide +kernel
theorem own_d1_132 : decode method_4_code 132 = .ok (.iconst 0, 1) := by decide +kernel
theorem own_d1_133 : decode method_4_code 133 = .ok (.ireturn, 1) := by decide +kernel
theorem own_d1_134 : decode method_4_code 134 = .ok (.iload 7, 2) := by decide +kernel
theorem own_d1_136 : decode method_4_code 136 = .ok (.iconst 2, 1) := by decide +kernel
theorem own_d1_137 : decode method_4_code 137 = .ok (.if_icmp .ne 26, 3) := by decide +kernel
theorem own_d1_140 : decode method_4_code 140 = .ok (.iload_n 3, 1) := by decide +kernel
theorem own_d1_141 : decode method_4_code 141 = .ok (.bipush 31, 2) := by decide +kernel
theorem own_d1_143 : decode method_4_code 143 = .ok (.iand, 1) := by decide +kernel
theorem own_d1_144 : decode method_4_code 144 = .ok (.bipush 6, 2) := by decide +kernel
theorem own_d1_146 : decode method_4_code 146 = .ok (.ishl, 1) := by decide +kernel
theorem own_d1_147 : decode method_4_code 147 = .ok (.iload 4, 2) := by decide +kernel
theorem own_d1_149 : decode method_4_code 149 = .ok (.bipush 63, 2) := by decide +kernel
theorem own_d1_151 : decode method_4_code 151 = .ok (.iand, 1) := by decide +kernel
theorem own_d1_152 : decode method_4_code 152 = .ok (.ior, 1) := by decide +kernel
theorem own_d1_153 : decode method_4_code 153 = .ok (.istore 8, 2) := by decide +kernel
theorem own_d1_155 : decode method_4_code 155 = .ok (.sipush 128, 3) := by decide +kernel
theorem own_d1_158 : decode method_4_code 158 = .ok (.istore 9, 2) := by decide +kernel
theorem own_d1_160 : decode method_4_code 160 = .ok (.goto 78, 3) := by decide +kernel
theorem own_d1_163 : decode method_4_code 163 = .ok (.iload 7, 2) := by decide +kernel
theorem own_d1_165 : decode method_4_code 165 = .ok (.iconst 3, 1) := by decide +kernel
theorem own_d1_166 : decode method_4_code 166 = .ok (.if_icmp .ne 35, 3) := by decide +kernel
theorem own_d1_169 : decode method_4_code 169 = .ok (.iload_n 3, 1) := by decide +kernel
theorem own_d1_170 : decode method_4_code 170 = .ok (.bipush 15, 2) := by decide +kernel
theorem own_d1_172 : decode method_4_code 172 = .ok (.iand, 1) := by decide +kernel
theorem own_d1_173 : decode method_4_code 173 = .ok (.bipush 12, 2) := by decide +kernel
theorem own_d1_175 : decode method_4_code 175 = .ok (.ishl, 1) := by decide +kernel
theorem own_d1_176 : decode method_4_code 176 = .ok (.iload 4, 2) := by decide +kernel
theorem own_d1_178 : decode method_4_code 178 = .ok (.bipush 63, 2) := by decide +kernel
theorem own_d1_180 : decode method_4_code 180 = .ok (.iand, 1) := by decide +kernel
theorem own_d1_181 : decode method_4_code 181 = .ok (.bipush 6, 2) := by decide +kernel
theorem own_d1_183 : decode method_4_code 183 = .ok (.ishl, 1) := by decide +kernel
theorem own_d1_184 : decode method_4_code 184 = .ok (.ior, 1) := by decide +kernel
theorem own_d1_185 : decode method_4_code 185 = .ok (.iload 5, 2) := by decide +kernel
theorem own_d1_187 : decode method_4_code 187 = .ok (.bipush 63, 2) := by decide +kernel
theorem own_d1_189 : decode method_4_code 189 = .ok (.iand, 1) := by decide +kernel
theorem own_d1_190 : decode method_4_code 190 = .ok (.ior, 1) := by decide +kernel
theorem own_d1_191 : decode method_4_code 191 = .ok (.istore 8, 2) := by decide +kernel
theorem own_d1_193 : decode method_4_code 193 = .ok (.sipush 2048, 3) := by decide +kernel
theorem own_d1_196 : decode method_4_code 196 = .ok (.istore 9, 2) := by decide +kernel
theorem own_d1_198 : decode method_4_code 198 = .ok (.goto 40, 3) := by decide +kernel
theorem own_d1_201 : decode method_4_code 201 = .ok (.iload_n 3, 1) := by decide +kernel
theorem own_d1_202 : decode method_4_code 202 = .ok (.bipush 7, 2) := by decide +kernel
theorem own_d1_204 : decode method_4_code 204 = .ok (.iand, 1) := by decide +kernel
theorem own_d1_205 : decode method_4_code 205 = .ok (.bipush 18, 2) := by decide +kernel
theorem own_d1_207 : decode method_4_code 207 = .ok (.ishl, 1) := by decide +kernel
theorem own_d1_208 : decode method_4_code 208 = .ok (.iload 4, 2) := by decide +kernel
theorem own_d1_210 : decode method_4_code 210 = .ok (.bipush 63, 2) := by decide +kernel
theorem own_d1_212 : decode method_4_code 212 = .ok (.iand, 1) := by decide +kernel
theorem own_d1_213 : decode method_4_code 213 = .ok (.bipush 12, 2) := by decide +kernel
theorem own_d1_215 : decode method_4_code 215 = .ok (.ishl, 1) := by decide +kernel
theorem own_d1_216 : decode method_4_code 216 = .ok (.ior, 1) := by decide +kernel
theorem own_d1_217 : decode method_4_code 217 = .ok (.iload 5, 2) := by decide +kernel
theorem own_d1_219 : decode method_4_code 219 = .ok (.bipush 63, 2) := by decide +kernel
theorem own_d1_221 : decode method_4_code 221 = .ok (.iand, 1) := by decide +kernel
theorem own_d1_222 : decode method_4_code 222 = .ok (.bipush 6, 2) := by decide +kernel
theorem own_d1_224 : decode method_4_code 224 = .ok (.ishl, 1) := by decide +kernel
theorem own_d1_225 : decode method_4_code 225 = .ok (.ior, 1) := by decide +kernel
theorem own_d1_226 : decode method_4_code 226 = .ok (.iload 6, 2) := by decide +kernel
theorem own_d1_228 : decode method_4_code 228 = .ok (.bipush 63, 2) := by decide +kernel
theorem own_d1_230 : decode method_4_code 230 = .ok (.iand, 1) := by decide +kernel
theorem own_d1_231 : decode method_4_code 231 = .ok (.ior, 1) := by decide +kernel
theorem own_d1_232 : decode method_4_code 232 = .ok (.istore 8, 2) := by decide +kernel
theorem own_d1_234 : decode method_4_code 234 = .ok (.ldc 22, 2) := by decide +kernel
theorem own_d1_236 : decode method_4_code 236 = .ok (.istore 9, 2) := by decide +kernel
theorem own_d1_238 : decode method_4_code 238 = .ok (.iload 8, 2) := by decide +kernel
theorem own_d1_240 : decode method_4_code 240 = .ok (.iload 9, 2) := by decide +kernel
theorem own_d1_242 : decode method_4_code 242 = .ok (.if_icmp .ge 5, 3) := by decide +kernel
theorem own_d1_245 : decode method_4_code 245 = .ok (.iconst 0, 1) := by decide +kernel
theorem own_d1_246 : decode method_4_code 246 = .ok (.ireturn, 1) := by decide +kernel
theorem own_d1_247 : decode method_4_code 247 = .ok (.iload 8, 2) := by decide +kernel
theorem own_d1_249 : decode method_4_code 249 = .ok (.ldc 23, 2) := by decide +kernel
theorem own_d1_251 : decode method_4_code 251 = .ok (.if_icmp .le 5, 3) := by decide +kernel
theorem own_d1_254 : decode method_4_code 254 = .ok (.iconst 0, 1) := by decide +kernel
theorem own_d1_255 : decode method_4_code 255 = .ok (.ireturn, 1) := by decide +kernel
theorem own_d1_256 : decode method_4_code 256 = .ok (.iload 8, 2) := by decide +kernel
theorem own_d1_258 : decode method_4_code 258 = .ok (.ldc 24, 2) := by decide +kernel
theorem own_d1_260 : decode method_4_code 260 = .ok (.if_icmp .lt 12, 3) := by decide +kernel
theorem own_d1_263 : decode method_4_code 263 = .ok (.iload 8, 2) := by decide +kernel
theorem own_d1_265 : decode method_4_code 265 = .ok (.ldc 25, 2) := by decide +kernel
theorem own_d1_267 : decode method_4_code 267 = .ok (.if_icmp .gt 5, 3) := by decide +kernel
theorem own_d1_270 : decode method_4_code 270 = .ok (.iconst 0, 1) := by decide +kernel
theorem own_d1_271 : decode method_4_code 271 = .ok (.ireturn, 1) := by decide +kernel
theorem own_d1_272 : decode method_4_code 272 = .ok (.iload 7, 2) := by decide +kernel
theorem own_d1_274 : decode method_4_code 274 = .ok (.ireturn, 1) := by decide +kernel
def own_f1_238 (oc : Nat → Int32) (x1 : Int32) (i2 : Int32) (i3 : Int32) (i4 : Int32) (i5 : Int32) (i6 : Int32) (i7 : Int32) (i8 : Int32) (i9 : Int32) : Int32 := (if i8 < i9 then (0 : Int32) else (if (1114111 : Int32) < i8 then (0 : Int32) else (if i8 < (55296 : Int32) then i7 else (if (57343 : Int32) < i8 then i7 else (0 : Int32)))))
def own_f1_134 (oc : Nat → Int32) (x1 : Int32) (i2 : Int32) (i3 : Int32) (i4 : Int32) (i5 : Int32) (i6 : Int32) (i7 : Int32) : Int32 := (if i7 = (2 : Int32) then (own_f1_238 oc x1 i2 i3 i4 i5 i6 i7 (((i3 &&& (31 : Int32)) <<< ((6 : Int32) &&& 31)) ||| (i4 &&& (63 : Int32))) (128 : Int32)) else (if i7 = (3 : Int32) then (own_f1_238 oc x1 i2 i3 i4 i5 i6 i7 ((((i3 &&& (15 : Int32)) <<< ((12 : Int32) &&& 31)) ||| ((i4 &&& (63 : Int32)) <<< ((6 : Int32) &&& 31))) ||| (i5 &&& (63 : Int32))) (2048 : Int32)) else (own_f1_238 oc x1 i2 i3 i4 i5 i6 i7 (((((i3 &&& (7 : Int32)) <<< ((18 : Int32) &&& 31)) ||| ((i4 &&& (63 : Int32)) <<< ((12 : Int32) &&& 31))) ||| ((i5 &&& (63 : Int32)) <<< ((6 : Int32) &&& 31))) ||| (i6 &&& (63 : Int32))) (65536 : Int32))))
def own_f1_118 (oc : Nat → Int32) (x1 : Int32) (i2 : Int32) (i3 : Int32) (i4 : Int32) (i5 : Int32) (i6 : Int32) (i7 : Int32) : Int32 := (if i7 = (4 : Int32) then (if (own_f3_0 i6) = (0 : Int32) then (0 : Int32) else (own_f1_134 oc x1 i2 i3 i4 i5 i6 i7)) else (own_f1_134 oc x1 i2 i3 i4 i5 i6 i7))
def own_f1_80 (oc : Nat → Int32) (x1 : Int32) (i2 : Int32) (i3 : Int32) (i4 : Int32) (i5 : Int32) (i6 : Int32) (t0 : Int32) : Int32 := (if (i2 - x1) < t0 then (0 : Int32) else (if (own_f3_0 i4) = (0 : Int32) then (0 : Int32) else (if t0 < (3 : Int32) then (own_f1_118 oc x1 i2 i3 i4 i5 i6 t0) else (if (own_f3_0 i5) = (0 : Int32) then (0 : Int32) else (own_f1_118 oc x1 i2 i3 i4 i5 i6 t0)))))
def own_f1_0 (oc : Nat → Int32) (x1 : Int32) (x2 : Int32) : Int32 := (if ((oc x1.toNatClampNeg) &&& (255 : Int32)) < (192 : Int32) then (0 : Int32) else (if (247 : Int32) < ((oc x1.toNatClampNeg) &&& (255 : Int32)) then (0 : Int32) else (if ((oc x1.toNatClampNeg) &&& (255 : Int32)) < (224 : Int32) then (own_f1_80 oc x1 x2 ((oc x1.toNatClampNeg) &&& (255 : Int32)) ((oc (x1 + (1 : Int32)).toNatClampNeg) &&& (255 : Int32)) ((oc (x1 + (2 : Int32)).toNatClampNeg) &&& (255 : Int32)) ((oc (x1 + (3 : Int32)).toNatClampNeg) &&& (255 : Int32)) (2 : Int32)) else (if ((oc x1.toNatClampNeg) &&& (255 : Int32)) < (240 : Int32) then (own_f1_80 oc x1 x2 ((oc x1.toNatClampNeg) &&& (255 : Int32)) ((oc (x1 + (1 : Int32)).toNatClampNeg) &&& (255 : Int32)) ((oc (x1 + (2 : Int32)).toNatClampNeg) &&& (255 : Int32)) ((oc (x1 + (3 : Int32)).toNatClampNeg) &&& (255 : Int32)) (3 : Int32)) else (own_f1_80 oc x1 x2 ((oc x1.toNatClampNeg) &&& (255 : Int32)) ((oc (x1 + (1 : Int32)).toNatClampNeg) &&& (255 : Int32)) ((oc (x1 + (2 : Int32)).toNatClampNeg) &&& (255 : Int32)) ((oc (x1 + (3 : Int32)).toNatClampNeg) &&& (255 : Int32)) (4 : Int32))))))
set_option maxRecDepth 65536 in
set_option maxHeartbeats 4000000 in
theorem own_l1_238 {p : Program} {l : Launch} {e : Env} {s : State} {m : MethodId} {args : Array Value} {below : List Frame} {meth : Method} {c : Code} {T : State} {locs : List Loc} {Z : State} {a0 : Array Value} {h0 : Heap} {n0 : Nat}
    (X : Stand p l e ({ frames := 1, cells := 0, slots := 0, locals := 12 } : Room) s m args below meth c T locs 0 0) (hx : p.tables.exec = Jvm.exec) (hZ : Z.Warmed39 s.vm) (hw : ∀ d ∈ tables_1, d.before a0 Z = true) (hby : c.code = method_4_code) (hml : c.maxLocals = 10) (hown : s.vm.findClass "com/example/frame_to_method/frametomethod/Utf8SequenceSizePinLaw" = some m.cls) (hret : meth.sig.returnType = some .int) (hlk : meth.locks = false) (e0 : T.heap = h0) (N : Fr n0 locs) (Z0 : n0 ≤ h0.size)
    (x0 : Addr) (oc : Nat → Int32) (x1 : Int32) (i2 : Int32) (i3 : Int32) (i4 : Int32) (i5 : Int32) (i6 : Int32) (i7 : Int32) (i8 : Int32) (i9 : Int32) {r : Int32} (hR : r = own_f1_238 oc x1 i2 i3 i4 i5 i6 i7 i8 i9) (VA : own_VA Z h0 x0 .byte 5 (fun k => .int (oc k))) (hat : x1 = (0 : Int32) ∨ x1 = (1 : Int32)) : own_Go p e below s ({ frames := 1, cells := 0, slots := 0, locals := 12 } : Room).cells ({ frames := 1, cells := 0, slots := 0, locals := 12 } : Room).slots (own_QP (.int r) h0 n0) (T.setTop (mkF m 238 #[.val (.ref x0), .val (.int x1), .val (.int i2), .val (.int i3), .val (.int i4), .val (.int i5), .val (.int i6), .val (.int i7), .val (.int i8), .val (.int i9)] [])) := by
  unfold own_f1_238 at hR
  refine own_back (fun t k => XS.iload X.here hx rfl (hb hby own_d1_238) rfl k) ?_
  show own_Go _ _ _ _ _ _ _ (T.setTop (mkF m 240 #[.val (.ref x0), .val (.int x1), .val (.int i2), .val (.int i3), .val (.int i4), .val (.int i5), .val (.int i6), .val (.int i7), .val (.int i8), .val (.int i9)] [(.int i8)]))
  refine own_back (fun t k => XS.iload X.here hx rfl (hb hby own_d1_240) rfl k) ?_
  show own_Go _ _ _ _ _ _ _ (T.setTop (mkF m 242 #[.val (.ref x0), .val (.int x1), .val (.int i2), .val (.int i3), .val (.int i4), .val (.int i5), .val (.int i6), .val (.int i7), .val (.int i8), .val (.int i9)] [(.int i9), (.int i8)]))
  by_cases hc242 : i8 < i9
  · rw [if_pos hc242] at hR
    refine own_back (fun t k => XS.icmpNo X.here hx rfl (hb hby own_d1_242) rfl (tlt hc242).2.1 k) ?_
    show own_Go _ _ _ _ _ _ _ (T.setTop (mkF m 245 #[.val (.ref x0), .val (.int x1), .val (.int i2), .val (.int i3), .val (.int i4), .val (.int i5), .val (.int i6), .val (.int i7), .val (.int i8), .val (.int i9)] []))
    refine own_back (fun t k => XS.iconst X.here hx rfl (hb hby own_d1_245) k) ?_
    show own_Go _ _ _ _ _ _ _ (T.setTop (mkF m 246 #[.val (.ref x0), .val (.int x1), .val (.int i2), .val (.int i3), .val (.int i4), .val (.int i5), .val (.int i6), .val (.int i7), .val (.int i8), .val (.int i9)] [(.int (0 : Int32))]))
    subst hR
    exact own_retI X hx hret (hb hby own_d1_246) hlk ⟨rfl, N, e0⟩ (by decide) (by decide)
  · rw [if_neg hc242] at hR
    refine own_back (fun t k => XS.icmpYes X.here hx rfl (pc0 := 242) (pc' := 247) rfl (hb hby own_d1_242) rfl (flt hc242).2.1 (by decide) (by decide) k) ?_
    show own_Go _ _ _ _ _ _ _ (T.setTop (mkF m 247 #[.val (.ref x0), .val (.int x1), .val (.int i2), .val (.int i3), .val (.int i4), .val (.int i5), .val (.int i6), .val (.int i7), .val (.int i8), .val (.int i9)] []))
    refine own_back (fun t k => XS.iload X.here hx rfl (hb hby own_d1_247) rfl k) ?_
    show own_Go _ _ _ _ _ _ _ (T.setTop (mkF m 249 #[.val (.ref x0), .val (.int x1), .val (.int i2), .val (.int i3), .val (.int i4), .val (.int i5), .val (.int i6), .val (.int i7), .val (.int i8), .val (.int i9)] [(.int i8)]))
    refine own_back (fun t k => X.ldcInt hx hown (mvT hZ (hw _ (List.mem_of_getElem? (i := 12) rfl))) (g := (mkF m 249 #[.val (.ref x0), .val (.int x1), .val (.int i2), .val (.int i3), .val (.int i4), .val (.int i5), .val (.int i6), .val (.int i7), .val (.int i8), .val (.int i9)] [(.int i8)])) rfl (hb hby own_d1_249) _ k) ?_
    show own_Go _ _ _ _ _ _ _ (T.setTop (mkF m 251 #[.val (.ref x0), .val (.int x1), .val (.int i2), .val (.int i3), .val (.int i4), .val (.int i5), .val (.int i6), .val (.int i7), .val (.int i8), .val (.int i9)] [(.int (1114111 : Int32)), (.int i8)]))
    by_cases hc251 : (1114111 : Int32) < i8
    · rw [if_pos hc251] at hR
      refine own_back (fun t k => XS.icmpNo X.here hx rfl (hb hby own_d1_251) rfl (tlt hc251).2.2.2 k) ?_
      show own_Go _ _ _ _ _ _ _ (T.setTop (mkF m 254 #[.val (.ref x0), .val (.int x1), .val (.int i2), .val (.int i3), .val (.int i4), .val (.int i5), .val (.int i6), .val (.int i7), .val (.int i8), .val (.int i9)] []))
      refine own_back (fun t k => XS.iconst X.here hx rfl (hb hby own_d1_254) k) ?_
      show own_Go _ _ _ _ _ _ _ (T.setTop (mkF m 255 #[.val (.ref x0), .val (.int x1), .val (.int i2), .val (.int i3), .val (.int i4), .val (.int i5), .val (.int i6), .val (.int i7), .val (.int i8), .val (.int i9)] [(.int (0 : Int32))]))
      subst hR
      exact own_retI X hx hret (hb hby own_d1_255) hlk ⟨rfl, N, e0⟩ (by decide) (by decide)
    · rw [if_neg hc251] at hR
      refine own_back (fun t k => XS.icmpYes X.here hx rfl (pc0 := 251) (pc' := 256) rfl (hb hby own_d1_251) rfl (flt hc251).2.2.2 (by decide) (by decide) k) ?_
      show own_Go _ _ _ _ _ _ _ (T.setTop (mkF m 256 #[.val (.ref x0), .val (.int x1), .val (.int i2), .val (.int i3), .val (.int i4), .val (.int i5), .val (.int i6), .val (.int i7), .val (.int i8), .val (.int i9)] []))
      refine own_back (fun t k => XS.iload X.here hx rfl (hb hby own_d1_256) rfl k) ?_
      show own_Go _ _ _ _ _ _ _ (T.setTop (mkF m 258 #[.val (.ref x0), .val (.int x1), .val (.int i2), .val (.int i3), .val (.int i4), .val (.int i5), .val (.int i6), .val (.int i7), .val (.int i8), .val (.int i9)] [(.int i8)]))
      refine own_back (fun t k => X.ldcInt hx hown (mvT hZ (hw _ (List.mem_of_getElem? (i := 13) rfl))) (g := (mkF m 258 #[.val (.ref x0), .val (.int x1), .val (.int i2), .val (.int i3), .val (.int i4), .val (.int i5), .val (.int i6), .val (.int i7), .val (.int i8), .val (.int i9)] [(.int i8)])) rfl (hb hby own_d1_258) _ k) ?_
      show own_Go _ _ _ _ _ _ _ (T.setTop (mkF m 260 #[.val (.ref x0), .val (.int x1), .val (.int i2), .val (.int i3), .val (.int i4), .val (.int i5), .val (.int i6), .val (.int i7), .val (.int i8), .val (.int i9)] [(.int (55296 : Int32)), (.int i8)]))
      by_cases hc260 : i8 < (55296 : Int32)
      · rw [if_pos hc260] at hR
        refine own_back (fun t k => XS.icmpYes X.here hx rfl (pc0 := 260) (pc' := 272) rfl (hb hby own_d1_260) rfl (tlt hc260).1 (by decide) (by decide) k) ?_
        show own_Go _ _ _ _ _ _ _ (T.setTop (mkF m 272 #[.val (.ref x0), .val (.int x1), .val (.int i2), .val (.int i3), .val (.int i4), .val (.int i5), .val (.int i6), .val (.int i7), .val (.int i8), .val (.int i9)] []))
        refine own_back (fun t k => XS.iload X.here hx rfl (hb hby own_d1_272) rfl k) ?_
        show own_Go _ _ _ _ _ _ _ (T.setTop (mkF m 274 #[.val (.ref x0), .val (.int x1), .val (.int i2), .val (.int i3), .val (.int i4), .val (.int i5), .val (.int i6), .val (.int i7), .val (.int i8), .val (.int i9)] [(.int i7)]))
        subst hR
        exact own_retI X hx hret (hb hby own_d1_274) hlk ⟨rfl, N, e0⟩ (by decide) (by decide)
      · rw [if_neg hc260] at hR
        refine own_back (fun t k => XS.icmpNo X.here hx rfl (hb hby own_d1_260) rfl (flt hc260).1 k) ?_
        show own_Go _ _ _ _ _ _ _ (T.setTop (mkF m 263 #[.val (.ref x0), .val (.int x1), .val (.int i2), .val (.int i3), .val (.int i4), .val (.int i5), .val (.int i6), .val (.int i7), .val (.int i8), .val (.int i9)] []))
        refine own_back (fun t k => XS.iload X.here hx rfl (hb hby own_d1_263) rfl k) ?_
        show own_Go _ _ _ _ _ _ _ (T.setTop (mkF m 265 #[.val (.ref x0), .val (.int x1), .val (.int i2), .val (.int i3), .val (.int i4), .val (.int i5), .val (.int i6), .val (.int i7), .val (.int i8), .val (.int i9)] [(.int i8)]))
        refine own_back (fun t k => X.ldcInt hx hown (mvT hZ (hw _ (List.mem_of_getElem? (i := 15) rfl))) (g := (mkF m 265 #[.val (.ref x0), .val (.int x1), .val (.int i2), .val (.int i3), .val (.int i4), .val (.int i5), .val (.int i6), .val (.int i7), .val (.int i8), .val (.int i9)] [(.int i8)])) rfl (hb hby own_d1_265) _ k) ?_
        show own_Go _ _ _ _ _ _ _ (T.setTop (mkF m 267 #[.val (.ref x0), .val (.int x1), .val (.int i2), .val (.int i3), .val (.int i4), .val (.int i5), .val (.int i6), .val (.int i7), .val (.int i8), .val (.int i9)] [(.int (57343 : Int32)), (.int i8)]))
        by_cases hc267 : (57343 : Int32) < i8
        · rw [if_pos hc267] at hR
          refine own_back (fun t k => XS.icmpYes X.here hx rfl (pc0 := 267) (pc' := 272) rfl (hb hby own_d1_267) rfl (tlt hc267).2.2.1 (by decide) (by decide) k) ?_
          show own_Go _ _ _ _ _ _ _ (T.setTop (mkF m 272 #[.val (.ref x0), .val (.int x1), .val (.int i2), .val (.int i3), .val (.int i4), .val (.int i5), .val (.int i6), .val (.int i7), .val (.int i8), .val (.int i9)] []))
          refine own_back (fun t k => XS.iload X.here hx rfl (hb hby own_d1_272) rfl k) ?_
          show own_Go _ _ _ _ _ _ _ (T.setTop (mkF m 274 #[.val (.ref x0), .val (.int x1), .val (.int i2), .val (.int i3), .val (.int i4), .val (.int i5), .val (.int i6), .val (.int i7), .val (.int i8), .val (.int i9)] [(.int i7)]))
          subst hR
          exact own_retI X hx hret (hb hby own_d1_274) hlk ⟨rfl, N, e0⟩ (by decide) (by decide)
        · rw [if_neg hc267] at hR
          refine own_back (fun t k => XS.icmpNo X.here hx rfl (hb hby own_d1_267) rfl (flt hc267).2.2.1 k) ?_
          show own_Go _ _ _ _ _ _ _ (T.setTop (mkF m 270 #[.val (.ref x0), .val (.int x1), .val (.int i2), .val (.int i3), .val (.int i4), .val (.int i5), .val (.int i6), .val (.int i7), .val (.int i8), .val (.int i9)] []))
          refine own_back (fun t k => XS.iconst X.here hx rfl (hb hby own_d1_270) k) ?_
          show own_Go _ _ _ _ _ _ _ (T.setTop (mkF m 271 #[.val (.ref x0), .val (.int x1), .val (.int i2), .val (.int i3), .val (.int i4), .val (.int i5), .val (.int i6), .val (.int i7), .val (.int i8), .val (.int i9)] [(.int (0 : Int32))]))
          subst hR
          exact own_retI X hx hret (hb hby own_d1_271) hlk ⟨rfl, N, e0⟩ (by decide) (by decide)
set_option maxRecDepth 65536 in
set_option maxHeartbeats 4000000 in
theorem own_l1_134 {p : Program} {l : Launch} {e : Env} {s : State} {m : MethodId} {args : Array Value} {below : List Frame} {meth : Method} {c : Code} {T : State} {locs : List Loc} {Z : State} {a0 : Array Value} {h0 : Heap} {n0 : Nat}
    (X : Stand p l e ({ frames := 1, cells := 0, slots := 0, locals := 12 } : Room) s m args below meth c T locs 0 0) (hx : p.tables.exec = Jvm.exec) (hZ : Z.Warmed39 s.vm) (hw : ∀ d ∈ tables_1, d.before a0 Z = true) (hby : c.code = method_4_code) (hml : c.maxLocals = 10) (hown : s.vm.findClass "com/example/frame_to_method/frametomethod/Utf8SequenceSizePinLaw" = some m.cls) (hret : meth.sig.returnType = some .int) (hlk : meth.locks = false) (e0 : T.heap = h0) (N : Fr n0 locs) (Z0 : n0 ≤ h0.size)
    (x0 : Addr) (oc : Nat → Int32) (x1 : Int32) (i2 : Int32) (i3 : Int32) (i4 : Int32) (i5 : Int32) (i6 : Int32) (i7 : Int32) {r : Int32} (hR : r = own_f1_134 oc x1 i2 i3 i4 i5 i6 i7) (VA : own_VA Z h0 x0 .byte 5 (fun k => .int (oc k))) (hat : x1 = (0 : Int32) ∨ x1 = (1 : Int32)) : own_Go p e below s ({ frames := 1, cells := 0, slots := 0, locals := 12 } : Room).cells ({ frames := 1, cells := 0, slots := 0, locals := 12 } : Room).slots (own_QP (.int r) h0 n0) (T.setTop (mkF m 134 #[.val (.ref x0), .val (.int x1), .val (.int i2), .val (.int i3), .val (.int i4), .val (.int i5), .val (.int i6), .val (.int i7), .unset, .unset] [])) := by
  unfold own_f1_134 at hR
  refine own_back (fun t k => XS.iload X.here hx rfl (hb hby own_d1_134) rfl k) ?_
  show own_Go _ _ _ _ _ _ _ (T.setTop (mkF m 136 #[.val (.ref x0), .val (.int x1), .val (.int i2), .val (.int i3), .val (.int i4), .val (.int i5), .val (.int i6), .val (.int i7), .unset, .unset] [(.int i7)]))
  refine own_back (fun t k => XS.iconst X.here hx rfl (hb hby own_d1_136) k) ?_
  show own_Go _ _ _ _ _ _ _ (T.setTop (mkF m 137 #[.val (.ref x0), .val (.int x1), .val (.int i2), .val (.int i3), .val (.int i4), .val (.int i5), .val (.int i6), .val (.int i7), .unset, .unset] [(.int (2 : Int32)), (.int i7)]))
  by_cases hc137 : i7 = (2 : Int32)
  · rw [if_pos hc137] at hR
    refine own_back (fun t k => XS.icmpNo X.here hx rfl (hb hby own_d1_137) rfl (teq hc137).2 k) ?_
    show own_Go _ _ _ _ _ _ _ (T.setTop (mkF m 140 #[.val (.ref x0), .val (.int x1), .val (.int i2), .val (.int i3), .val (.int i4), .val (.int i5), .val (.int i6), .val (.int i7), .unset, .unset] []))
    refine own_back (fun t k => XS.iloadN X.here hx rfl (hb hby own_d1_140) rfl k) ?_
    show own_Go _ _ _ _ _ _ _ (T.setTop (mkF m 141 #[.val (.ref x0), .val (.int x1), .val (.int i2), .val (.int i3), .val (.int i4), .val (.int i5), .val (.int i6), .val (.int i7), .unset, .unset] [(.int i3)]))
    refine own_back (fun t k => XS.bipush X.here hx rfl (hb hby own_d1_141) k) ?_
    show own_Go _ _ _ _ _ _ _ (T.setTop (mkF m 143 #[.val (.ref x0), .val (.int x1), .val (.int i2), .val (.int i3), .val (.int i4), .val (.int i5), .val (.int i6), .val (.int i7), .unset, .unset] [(.int (31 : Int32)), (.int i3)]))
    refine own_back (fun t k => XS.iand X.here hx rfl (hb hby own_d1_143) rfl k) ?_
    show own_Go _ _ _ _ _ _ _ (T.setTop (mkF m 144 #[.val (.ref x0), .val (.int x1), .val (.int i2), .val (.int i3), .val (.int i4), .val (.int i5), .val (.int i6), .val (.int i7), .unset, .unset] [(.int (i3 &&& (31 : Int32)))]))
    refine own_back (fun t k => XS.bipush X.here hx rfl (hb hby own_d1_144) k) ?_
    show own_Go _ _ _ _ _ _ _ (T.setTop (mkF m 146 #[.val (.ref x0), .val (.int x1), .val (.int i2), .val (.int i3), .val (.int i4), .val (.int i5), .val (.int i6), .val (.int i7), .unset, .unset] [(.int (6 : Int32)), (.int (i3 &&& (31 : Int32)))]))
    refine own_back (fun t k => XS.ishl X.here hx rfl (hb hby own_d1_146) rfl k) ?_
    show own_Go _ _ _ _ _ _ _ (T.setTop (mkF m 147 #[.val (.ref x0), .val (.int x1), .val (.int i2), .val (.int i3), .val (.int i4), .val (.int i5), .val (.int i6), .val (.int i7), .unset, .unset] [(.int ((i3 &&& (31 : Int32)) <<< ((6 : Int32) &&& 31)))]))
    refine own_back (fun t k => XS.iload X.here hx rfl (hb hby own_d1_147) rfl k) ?_
    show own_Go _ _ _ _ _ _ _ (T.setTop (mkF m 149 #[.val (.ref x0), .val (.int x1), .val (.int i2), .val (.int i3), .val (.int i4), .val (.int i5), .val (.int i6), .val (.int i7), .unset, .unset] [(.int i4), (.int ((i3 &&& (31 : Int32)) <<< ((6 : Int32) &&& 31)))]))
    refine own_back (fun t k => XS.bipush X.here hx rfl (hb hby own_d1_149) k) ?_
    show own_Go _ _ _ _ _ _ _ (T.setTop (mkF m 151 #[.val (.ref x0), .val (.int x1), .val (.int i2), .val (.int i3), .val (.int i4), .val (.int i5), .val (.int i6), .val (.int i7), .unset, .unset] [(.int (63 : Int32)), (.int i4), (.int ((i3 &&& (31 : Int32)) <<< ((6 : Int32) &&& 31)))]))
    refine own_back (fun t k => XS.iand X.here hx rfl (hb hby own_d1_151) rfl k) ?_
    show own_Go _ _ _ _ _ _ _ (T.setTop (mkF m 152 #[.val (.ref x0), .val (.int x1), .val (.int i2), .val (.int i3), .val (.int i4), .val (.int i5), .val (.int i6), .val (.int i7), .unset, .unset] [(.int (i4 &&& (63 : Int32))), (.int ((i3 &&& (31 : Int32)) <<< ((6 : Int32) &&& 31)))]))
    refine own_back (fun t k => XS.ior X.here hx rfl (hb hby own_d1_152) rfl k) ?_
    show own_Go _ _ _ _ _ _ _ (T.setTop (mkF m 153 #[.val (.ref x0), .val (.int x1), .val (.int i2), .val (.int i3), .val (.int i4), .val (.int i5), .val (.int i6), .val (.int i7), .unset, .unset] [(.int (((i3 &&& (31 : Int32)) <<< ((6 : Int32) &&& 31)) ||| (i4 &&& (63 : Int32))))]))
    refine own_back (fun t k => XS.istore X.here hx rfl (hb hby own_d1_153) rfl (l' := #[.val (.ref x0), .val (.int x1), .val (.int i2), .val (.int i3), .val (.int i4), .val (.int i5), .val (.int i6), .val (.int i7), .val (.int (((i3 &&& (31 : Int32)) <<< ((6 : Int32) &&& 31)) ||| (i4 &&& (63 : Int32)))), .unset]) rfl k) ?_
    show own_Go _ _ _ _ _ _ _ (T.setTop (mkF m 155 #[.val (.ref x0), .val (.int x1), .val (.int i2), .val (.int i3), .val (.int i4), .val (.int i5), .val (.int i6), .val (.int i7), .val (.int (((i3 &&& (31 : Int32)) <<< ((6 : Int32) &&& 31)) ||| (i4 &&& (63 : Int32)))), .unset] []))
    refine own_back (fun t k => XS.sipush X.here hx rfl (hb hby own_d1_155) k) ?_
    show own_Go _ _ _ _ _ _ _ (T.setTop (mkF m 158 #[.val (.ref x0), .val (.int x1), .val (.int i2), .val (.int i3), .val (.int i4), .val (.int i5), .val (.int i6), .val (.int i7), .val (.int (((i3 &&& (31 : Int32)) <<< ((6 : Int32) &&& 31)) ||| (i4 &&& (63 : Int32)))), .unset] [(.int (128 : Int32))]))
    refine own_back (fun t k => XS.istore X.here hx rfl (hb hby own_d1_158) rfl (l' := #[.val (.ref x0), .val (.int x1), .val (.int i2), .val (.int i3), .val (.int i4), .val (.int i5), .val (.int i6), .val (.int i7), .val (.int (((i3 &&& (31 : Int32)) <<< ((6 : Int32) &&& 31)) ||| (i4 &&& (63 : Int32)))), .val (.int (128 : Int32))]) rfl k) ?_
    show own_Go _ _ _ _ _ _ _ (T.setTop (mkF m 160 #[.val (.ref x0), .val (.int x1), .val (.int i2), .val (.int i3), .val (.int i4), .val (.int i5), .val (.int i6), .val (.int i7), .val (.int (((i3 &&& (31 : Int32)) <<< ((6 : Int32) &&& 31)) ||| (i4 &&& (63 : Int32)))), .val (.int (128 : Int32))] []))
    refine own_back (fun t k => XS.goto X.here hx rfl (pc0 := 160) (pc' := 238) rfl (hb hby own_d1_160) (by decide) (by decide) k) ?_
    show own_Go _ _ _ _ _ _ _ (T.setTop (mkF m 238 #[.val (.ref x0), .val (.int x1), .val (.int i2), .val (.int i3), .val (.int i4), .val (.int i5), .val (.int i6), .val (.int i7), .val (.int (((i3 &&& (31 : Int32)) <<< ((6 : Int32) &&& 31)) ||| (i4 &&& (63 : Int32)))), .val (.int (128 : Int32))] []))
    exact own_l1_238 X hx hZ hw hby hml hown hret hlk e0 N Z0 x0 oc x1 i2 i3 i4 i5 i6 i7 (((i3 &&& (31 : Int32)) <<< ((6 : Int32) &&& 31)) ||| (i4 &&& (63 : Int32))) (128 : Int32) hR VA hat
  · rw [if_neg hc137] at hR
    refine own_back (fun t k => XS.icmpYes X.here hx rfl (pc0 := 137) (pc' := 163) rfl (hb hby own_d1_137) rfl (feq hc137).2 (by decide) (by decide) k) ?_
    show own_Go _ _ _ _ _ _ _ (T.setTop (mkF m 163 #[.val (.ref x0), .val (.int x1), .val (.int i2), .val (.int i3), .val (.int i4), .val (.int i5), .val (.int i6), .val (.int i7), .unset, .unset] []))
    refine own_back (fun t k => XS.iload X.here hx rfl (hb hby own_d1_163) rfl k) ?_
    show own_Go _ _ _ _ _ _ _ (T.setTop (mkF m 165 #[.val (.ref x0), .val (.int x1), .val (.int i2), .val (.int i3), .val (.int i4), .val (.int i5), .val (.int i6), .val (.int i7), .unset, .unset] [(.int i7)]))
    refine own_back (fun t k => XS.iconst X.here hx rfl (hb hby own_d1_165) k) ?_
    show own_Go _ _ _ _ _ _ _ (T.setTop (mkF m 166 #[.val (.ref x0), .val (.int x1), .val (.int i2), .val (.int i3), .val (.int i4), .val (.int i5), .val (.int i6), .val (.int i7), .unset, .unset] [(.int (3 : Int32)), (.int i7)]))
    by_cases hc166 : i7 = (3 : Int32)
    · rw [if_pos hc166] at hR
      refine own_back (fun t k => XS.icmpNo X.here hx rfl (hb hby own_d1_166) rfl (teq hc166).2 k) ?_
      show own_Go _ _ _ _ _ _ _ (T.setTop (mkF m 169 #[.val (.ref x0), .val (.int x1), .val (.int i2), .val (.int i3), .val (.int i4), .val (.int i5), .val (.int i6), .val (.int i7), .unset, .unset] []))
      refine own_back (fun t k => XS.iloadN X.here hx rfl (hb hby own_d1_169) rfl k) ?_
      show own_Go _ _ _ _ _ _ _ (T.setTop (mkF m 170 #[.val (.ref x0), .val (.int x1), .val (.int i2), .val (.int i3), .val (.int i4), .val (.int i5), .val (.int i6), .val (.int i7), .unset, .unset] [(.int i3)]))
      refine own_back (fun t k => XS.bipush X.here hx rfl (hb hby own_d1_170) k) ?_
      show own_Go _ _ _ _ _ _ _ (T.setTop (mkF m 172 #[.val (.ref x0), .val (.int x1), .val (.int i2), .val (.int i3), .val (.int i4), .val (.int i5), .val (.int i6), .val (.int i7), .unset, .unset] [(.int (15 : Int32)), (.int i3)]))
      refine own_back (fun t k => XS.iand X.here hx rfl (hb hby own_d1_172) rfl k) ?_
      show own_Go _ _ _ _ _ _ _ (T.setTop (mkF m 173 #[.val (.ref x0), .val (.int x1), .val (.int i2), .val (.int i3), .val (.int i4), .val (.int i5), .val (.int i6), .val (.int i7), .unset, .unset] [(.int (i3 &&& (15 : Int32)))]))
      refine own_back (fun t k => XS.bipush X.here hx rfl (hb hby own_d1_173) k) ?_
      show own_Go _ _ _ _ _ _ _ (T.setTop (mkF m 175 #[.val (.ref x0), .val (.int x1), .val (.int i2), .val (.int i3), .val (.int i4), .val (.int i5), .val (.int i6), .val (.int i7), .unset, .unset] [(.int (12 : Int32)), (.int (i3 &&& (15 : Int32)))]))
      refine own_back (fun t k => XS.ishl X.here hx rfl (hb hby own_d1_175) rfl k) ?_
      show own_Go _ _ _ _ _ _ _ (T.setTop (mkF m 176 #[.val (.ref x0), .val (.int x1), .val (.int i2), .val (.int i3), .val (.int i4), .val (.int i5), .val (.int i6), .val (.int i7), .unset, .unset] [(.int ((i3 &&& (15 : Int32)) <<< ((12 : Int32) &&& 31)))]))
      refine own_back (fun t k => XS.iload X.here hx rfl (hb hby own_d1_176) rfl k) ?_
      show own_Go _ _ _ _ _ _ _ (T.setTop (mkF m 178 #[.val (.ref x0), .val (.int x1), .val (.int i2), .val (.int i3), .val (.int i4), .val (.int i5), .val (.int i6), .val (.int i7), .unset, .unset] [(.int i4), (.int ((i3 &&& (15 : Int32)) <<< ((12 : Int32) &&& 31)))]))
      refine own_back (fun t k => XS.bipush X.here hx rfl (hb hby own_d1_178) k) ?_
      show own_Go _ _ _ _ _ _ _ (T.setTop (mkF m 180 #[.val (.ref x0), .val (.int x1), .val (.int i2), .val (.int i3), .val (.int i4), .val (.int i5), .val (.int i6), .val (.int i7), .unset, .unset] [(.int (63 : Int32)), (.int i4), (.int ((i3 &&& (15 : Int32)) <<< ((12 : Int32) &&& 31)))]))
      refine own_back (fun t k => XS.iand X.here hx rfl (hb hby own_d1_180) rfl k) ?_
      show own_Go _ _ _ _ _ _ _ (T.setTop (mkF m 181 #[.val (.ref x0), .val (.int x1), .val (.int i2), .val (.int i3), .val (.int i4), .val (.int i5), .val (.int i6), .val (.int i7), .unset, .unset] [(.int (i4 &&& (63 : Int32))), (.int ((i3 &&& (15 : Int32)) <<< ((12 : Int32) &&& 31)))]))
      refine own_back (fun t k => XS.bipush X.here hx rfl (hb hby own_d1_181) k) ?_
      show own_Go _ _ _ _ _ _ _ (T.setTop (mkF m 183 #[.val (.ref x0), .val (.int x1), .val (.int i2), .val (.int i3), .val (.int i4), .val (.int i5), .val (.int i6), .val (.int i7), .unset, .unset] [(.int (6 : Int32)), (.int (i4 &&& (63 : Int32))), (.int ((i3 &&& (15 : Int32)) <<< ((12 : Int32) &&& 31)))]))
      refine own_back (fun t k => XS.ishl X.here hx rfl (hb hby own_d1_183) rfl k) ?_
      show own_Go _ _ _ _ _ _ _ (T.setTop (mkF m 184 #[.val (.ref x0), .val (.int x1), .val (.int i2), .val (.int i3), .val (.int i4), .val (.int i5), .val (.int i6), .val (.int i7), .unset, .unset] [(.int ((i4 &&& (63 : Int32)) <<< ((6 : Int32) &&& 31))), (.int ((i3 &&& (15 : Int32)) <<< ((12 : Int32) &&& 31)))]))
      refine own_back (fun t k => XS.ior X.here hx rfl (hb hby own_d1_184) rfl k) ?_
      show own_Go _ _ _ _ _ _ _ (T.setTop (mkF m 185 #[.val (.ref x0), .val (.int x1), .val (.int i2), .val (.int i3), .val (.int i4), .val (.int i5), .val (.int i6), .val (.int i7), .unset, .unset] [(.int (((i3 &&& (15 : Int32)) <<< ((12 : Int32) &&& 31)) ||| ((i4 &&& (63 : Int32)) <<< ((6 : Int32) &&& 31))))]))
      refine own_back (fun t k => XS.iload X.here hx rfl (hb hby own_d1_185) rfl k) ?_
      show own_Go _ _ _ _ _ _ _ (T.setTop (mkF m 187 #[.val (.ref x0), .val (.int x1), .val (.int i2), .val (.int i3), .val (.int i4), .val (.int i5), .val (.int i6), .val (.int i7), .unset, .unset] [(.int i5), (.int (((i3 &&& (15 : Int32)) <<< ((12 : Int32) &&& 31)) ||| ((i4 &&& (63 : Int32)) <<< ((6 : Int32) &&& 31))))]))
      refine own_back (fun t k => XS.bipush X.here hx rfl (hb hby own_d1_187) k) ?_
      show own_Go _ _ _ _ _ _ _ (T.setTop (mkF m 189 #[.val (.ref x0), .val (.int x1), .val (.int i2), .val (.int i3), .val (.int i4), .val (.int i5), .val (.int i6), .val (.int i7), .unset, .unset] [(.int (63 : Int32)), (.int i5), (.int (((i3 &&& (15 : Int32)) <<< ((12 : Int32) &&& 31)) ||| ((i4 &&& (63 : Int32)) <<< ((6 : Int32) &&& 31))))]))
      refine own_back (fun t k => XS.iand X.here hx rfl (hb hby own_d1_189) rfl k) ?_
      show own_Go _ _ _ _ _ _ _ (T.setTop (mkF m 190 #[.val (.ref x0), .val (.int x1), .val (.int i2), .val (.int i3), .val (.int i4), .val (.int i5), .val (.int i6), .val (.int i7), .unset, .unset] [(.int (i5 &&& (63 : Int32))), (.int (((i3 &&& (15 : Int32)) <<< ((12 : Int32) &&& 31)) ||| ((i4 &&& (63 : Int32)) <<< ((6 : Int32) &&& 31))))]))
      refine own_back (fun t k => XS.ior X.here hx rfl (hb hby own_d1_190) rfl k) ?_
      show own_Go _ _ _ _ _ _ _ (T.setTop (mkF m 191 #[.val (.ref x0), .val (.int x1), .val (.int i2), .val (.int i3), .val (.int i4), .val (.int i5), .val (.int i6), .val (.int i7), .unset, .unset] [(.int ((((i3 &&& (15 : Int32)) <<< ((12 : Int32) &&& 31)) ||| ((i4 &&& (63 : Int32)) <<< ((6 : Int32) &&& 31))) ||| (i5 &&& (63 : Int32))))]))
      refine own_back (fun t k => XS.istore X.here hx rfl (hb hby own_d1_191) rfl (l' := #[.val (.ref x0), .val (.int x1), .val (.int i2), .val (.int i3), .val (.int i4), .val (.int i5), .val (.int i6), .val (.int i7), .val (.int ((((i3 &&& (15 : Int32)) <<< ((12 : Int32) &&& 31)) ||| ((i4 &&& (63 : Int32)) <<< ((6 : Int32) &&& 31))) ||| (i5 &&& (63 : Int32)))), .unset]) rfl k) ?_
      show own_Go _ _ _ _ _ _ _ (T.setTop (mkF m 193 #[.val (.ref x0), .val (.int x1), .val (.int i2), .val (.int i3), .val (.int i4), .val (.int i5), .val (.int i6), .val (.int i7), .val (.int ((((i3 &&& (15 : Int32)) <<< ((12 : Int32) &&& 31)) ||| ((i4 &&& (63 : Int32)) <<< ((6 : Int32) &&& 31))) ||| (i5 &&& (63 : Int32)))), .unset] []))
      refine own_back (fun t k => XS.sipush X.here hx rfl (hb hby own_d1_193) k) ?_
      show own_Go _ _ _ _ _ _ _ (T.setTop (mkF m 196 #[.val (.ref x0), .val (.int x1), .val (.int i2), .val (.int i3), .val (.int i4), .val (.int i5), .val (.int i6), .val (.int i7), .val (.int ((((i3 &&& (15 : Int32)) <<< ((12 : Int32) &&& 31)) ||| ((i4 &&& (63 : Int32)) <<< ((6 : Int32) &&& 31))) ||| (i5 &&& (63 : Int32)))), .unset] [(.int (2048 : Int32))]))
      refine own_back (fun t k => XS.istore X.here hx rfl (hb hby own_d1_196) rfl (l' := #[.val (.ref x0), .val (.int x1), .val (.int i2), .val (.int i3), .val (.int i4), .val (.int i5), .val (.int i6), .val (.int i7), .val (.int ((((i3 &&& (15 : Int32)) <<< ((12 : Int32) &&& 31)) ||| ((i4 &&& (63 : Int32)) <<< ((6 : Int32) &&& 31))) ||| (i5 &&& (63 : Int32)))), .val (.int (2048 : Int32))]) rfl k) ?_
      show own_Go _ _ _ _ _ _ _ (T.setTop (mkF m 198 #[.val (.ref x0), .val (.int x1), .val (.int i2), .val (.int i3), .val (.int i4), .val (.int i5), .val (.int i6), .val (.int i7), .val (.int ((((i3 &&& (15 : Int32)) <<< ((12 : Int32) &&& 31)) ||| ((i4 &&& (63 : Int32)) <<< ((6 : Int32) &&& 31))) ||| (i5 &&& (63 : Int32)))), .val (.int (2048 : Int32))] []))
      refine own_back (fun t k => XS.goto X.here hx rfl (pc0 := 198) (pc' := 238) rfl (hb hby own_d1_198) (by decide) (by decide) k) ?_
      show own_Go _ _ _ _ _ _ _ (T.setTop (mkF m 238 #[.val (.ref x0), .val (.int x1), .val (.int i2), .val (.int i3), .val (.int i4), .val (.int i5), .val (.int i6), .val (.int i7), .val (.int ((((i3 &&& (15 : Int32)) <<< ((12 : Int32) &&& 31)) ||| ((i4 &&& (63 : Int32)) <<< ((6 : Int32) &&& 31))) ||| (i5 &&& (63 : Int32)))), .val (.int (2048 : Int32))] []))
      exact own_l1_238 X hx hZ hw hby hml hown hret hlk e0 N Z0 x0 oc x1 i2 i3 i4 i5 i6 i7 ((((i3 &&& (15 : Int32)) <<< ((12 : Int32) &&& 31)) ||| ((i4 &&& (63 : Int32)) <<< ((6 : Int32) &&& 31))) ||| (i5 &&& (63 : Int32))) (2048 : Int32) hR VA hat
    · rw [if_neg hc166] at hR
      refine own_back (fun t k => XS.icmpYes X.here hx rfl (pc0 := 166) (pc' := 201) rfl (hb hby own_d1_166) rfl (feq hc166).2 (by decide) (by decide) k) ?_
      show own_Go _ _ _ _ _ _ _ (T.setTop (mkF m 201 #[.val (.ref x0), .val (.int x1), .val (.int i2), .val (.int i3), .val (.int i4), .val (.int i5), .val (.int i6), .val (.int i7), .unset, .unset] []))
      refine own_back (fun t k => XS.iloadN X.here hx rfl (hb hby own_d1_201) rfl k) ?_
      show own_Go _ _ _ _ _ _ _ (T.setTop (mkF m 202 #[.val (.ref x0), .val (.int x1), .val (.int i2), .val (.int i3), .val (.int i4), .val (.int i5), .val (.int i6), .val (.int i7), .unset, .unset] [(.int i3)]))
      refine own_back (fun t k => XS.bipush X.here hx rfl (hb hby own_d1_202) k) ?_
      show own_Go _ _ _ _ _ _ _ (T.setTop (mkF m 204 #[.val (.ref x0), .val (.int x1), .val (.int i2), .val (.int i3), .val (.int i4), .val (.int i5), .val (.int i6), .val (.int i7), .unset, .unset] [(.int (7 : Int32)), (.int i3)]))
      refine own_back (fun t k => XS.iand X.here hx rfl (hb hby own_d1_204) rfl k) ?_
      show own_Go _ _ _ _ _ _ _ (T.setTop (mkF m 205 #[.val (.ref x0), .val (.int x1), .val (.int i2), .val (.int i3), .val (.int i4), .val (.int i5), .val (.int i6), .val (.int i7), .unset, .unset] [(.int (i3 &&& (7 : Int32)))]))
      refine own_back (fun t k => XS.bipush X.here hx rfl (hb hby own_d1_205) k) ?_
      show own_Go _ _ _ _ _ _ _ (T.setTop (mkF m 207 #[.val (.ref x0), .val (.int x1), .val (.int i2), .val (.int i3), .val (.int i4), .val (.int i5), .val (.int i6), .val (.int i7), .unset, .unset] [(.int (18 : Int32)), (.int (i3 &&& (7 : Int32)))]))
      refine own_back (fun t k => XS.ishl X.here hx rfl (hb hby own_d1_207) rfl k) ?_
      show own_Go _ _ _ _ _ _ _ (T.setTop (mkF m 208 #[.val (.ref x0), .val (.int x1), .val (.int i2), .val (.int i3), .val (.int i4), .val (.int i5), .val (.int i6), .val (.int i7), .unset, .unset] [(.int ((i3 &&& (7 : Int32)) <<< ((18 : Int32) &&& 31)))]))
      refine own_back (fun t k => XS.iload X.here hx rfl (hb hby own_d1_208) rfl k) ?_
      show own_Go _ _ _ _ _ _ _ (T.setTop (mkF m 210 #[.val (.ref x0), .val (.int x1), .val (.int i2), .val (.int i3), .val (.int i4), .val (.int i5), .val (.int i6), .val (.int i7), .unset, .unset] [(.int i4), (.int ((i3 &&& (7 : Int32)) <<< ((18 : Int32) &&& 31)))]))
      refine own_back (fun t k => XS.bipush X.here hx rfl (hb hby own_d1_210) k) ?_
      show own_Go _ _ _ _ _ _ _ (T.setTop (mkF m 212 #[.val (.ref x0), .val (.int x1), .val (.int i2), .val (.int i3), .val (.int i4), .val (.int i5), .val (.int i6), .val (.int i7), .unset, .unset] [(.int (63 : Int32)), (.int i4), (.int ((i3 &&& (7 : Int32)) <<< ((18 : Int32) &&& 31)))]))
      refine own_back (fun t k => XS.iand X.here hx rfl (hb hby own_d1_212) rfl k) ?_
      show own_Go _ _ _ _ _ _ _ (T.setTop (mkF m 213 #[.val (.ref x0), .val (.int x1), .val (.int i2), .val (.int i3), .val (.int i4), .val (.int i5), .val (.int i6), .val (.int i7), .unset, .unset] [(.int (i4 &&& (63 : Int32))), (.int ((i3 &&& (7 : Int32)) <<< ((18 : Int32) &&& 31)))]))
      refine own_back (fun t k => XS.bipush X.here hx rfl (hb hby own_d1_213) k) ?_
      show own_Go _ _ _ _ _ _ _ (T.setTop (mkF m 215 #[.val (.ref x0), .val (.int x1), .val (.int i2), .val (.int i3), .val (.int i4), .val (.int i5), .val (.int i6), .val (.int i7), .unset, .unset] [(.int (12 : Int32)), (.int (i4 &&& (63 : Int32))), (.int ((i3 &&& (7 : Int32)) <<< ((18 : Int32) &&& 31)))]))
      refine own_back (fun t k => XS.ishl X.here hx rfl (hb hby own_d1_215) rfl k) ?_
      show own_Go _ _ _ _ _ _ _ (T.setTop (mkF m 216 #[.val (.ref x0), .val (.int x1), .val (.int i2), .val (.int i3), .val (.int i4), .val (.int i5), .val (.int i6), .val (.int i7), .unset, .unset] [(.int ((i4 &&& (63 : Int32)) <<< ((12 : Int32) &&& 31))), (.int ((i3 &&& (7 : Int32)) <<< ((18 : Int32) &&& 31)))]))
      refine own_back (fun t k => XS.ior X.here hx rfl (hb hby own_d1_216) rfl k) ?_
      show own_Go _ _ _ _ _ _ _ (T.setTop (mkF m 217 #[.val (.ref x0), .val (.int x1), .val (.int i2), .val (.int i3), .val (.int i4), .val (.int i5), .val (.int i6), .val (.int i7), .unset, .unset] [(.int (((i3 &&& (7 : Int32)) <<< ((18 : Int32) &&& 31)) ||| ((i4 &&& (63 : Int32)) <<< ((12 : Int32) &&& 31))))]))
      refine own_back (fun t k => XS.iload X.here hx rfl (hb hby own_d1_217) rfl k) ?_
      show own_Go _ _ _ _ _ _ _ (T.setTop (mkF m 219 #[.val (.ref x0), .val (.int x1), .val (.int i2), .val (.int i3), .val (.int i4), .val (.int i5), .val (.int i6), .val (.int i7), .unset, .unset] [(.int i5), (.int (((i3 &&& (7 : Int32)) <<< ((18 : Int32) &&& 31)) ||| ((i4 &&& (63 : Int32)) <<< ((12 : Int32) &&& 31))))]))
      refine own_back (fun t k => XS.bipush X.here hx rfl (hb hby own_d1_219) k) ?_
      show own_Go _ _ _ _ _ _ _ (T.setTop (mkF m 221 #[.val (.ref x0), .val (.int x1), .val (.int i2), .val (.int i3), .val (.int i4), .val (.int i5), .val (.int i6), .val (.int i7), .unset, .unset] [(.int (63 : Int32)), (.int i5), (.int (((i3 &&& (7 : Int32)) <<< ((18 : Int32) &&& 31)) ||| ((i4 &&& (63 : Int32)) <<< ((12 : Int32) &&& 31))))]))
      refine own_back (fun t k => XS.iand X.here hx rfl (hb hby own_d1_221) rfl k) ?_
      show own_Go _ _ _ _ _ _ _ (T.setTop (mkF m 222 #[.val (.ref x0), .val (.int x1), .val (.int i2), .val (.int i3), .val (.int i4), .val (.int i5), .val (.int i6), .val (.int i7), .unset, .unset] [(.int (i5 &&& (63 : Int32))), (.int (((i3 &&& (7 : Int32)) <<< ((18 : Int32) &&& 31)) ||| ((i4 &&& (63 : Int32)) <<< ((12 : Int32) &&& 31))))]))
      refine own_back (fun t k => XS.bipush X.here hx rfl (hb hby own_d1_222) k) ?_
      show own_Go _ _ _ _ _ _ _ (T.setTop (mkF m 224 #[.val (.ref x0), .val (.int x1), .val (.int i2), .val (.int i3), .val (.int i4), .val (.int i5), .val (.int i6), .val (.int i7), .unset, .unset] [(.int (6 : Int32)), (.int (i5 &&& (63 : Int32))), (.int (((i3 &&& (7 : Int32)) <<< ((18 : Int32) &&& 31)) ||| ((i4 &&& (63 : Int32)) <<< ((12 : Int32) &&& 31))))]))
      refine own_back (fun t k => XS.ishl X.here hx rfl (hb hby own_d1_224) rfl k) ?_
      show own_Go _ _ _ _ _ _ _ (T.setTop (mkF m 225 #[.val (.ref x0), .val (.int x1), .val (.int i2), .val (.int i3), .val (.int i4), .val (.int i5), .val (.int i6), .val (.int i7), .unset, .unset] [(.int ((i5 &&& (63 : Int32)) <<< ((6 : Int32) &&& 31))), (.int (((i3 &&& (7 : Int32)) <<< ((18 : Int32) &&& 31)) ||| ((i4 &&& (63 : Int32)) <<< ((12 : Int32) &&& 31))))]))
      refine own_back (fun t k => XS.ior X.here hx rfl (hb hby own_d1_225) rfl k) ?_
      show own_Go _ _ _ _ _ _ _ (T.setTop (mkF m 226 #[.val (.ref x0), .val (.int x1), .val (.int i2), .val (.int i3), .val (.int i4), .val (.int i5), .val (.int i6), .val (.int i7), .unset, .unset] [(.int ((((i3 &&& (7 : Int32)) <<< ((18 : Int32) &&& 31)) ||| ((i4 &&& (63 : Int32)) <<< ((12 : Int32) &&& 31))) ||| ((i5 &&& (63 : Int32)) <<< ((6 : Int32) &&& 31))))]))
      refine own_back (fun t k => XS.iload X.here hx rfl (hb hby own_d1_226) rfl k) ?_
      show own_Go _ _ _ _ _ _ _ (T.setTop (mkF m 228 #[.val (.ref x0), .val (.int x1), .val (.int i2), .val (.int i3), .val (.int i4), .val (.int i5), .val (.int i6), .val (.int i7), .unset, .unset] [(.int i6), (.int ((((i3 &&& (7 : Int32)) <<< ((18 : Int32) &&& 31)) ||| ((i4 &&& (63 : Int32)) <<< ((12 : Int32) &&& 31))) ||| ((i5 &&& (63 : Int32)) <<< ((6 : Int32) &&& 31))))]))
      refine own_back (fun t k => XS.bipush X.here hx rfl (hb hby own_d1_228) k) ?_
      show own_Go _ _ _ _ _ _ _ (T.setTop (mkF m 230 #[.val (.ref x0), .val (.int x1), .val (.int i2), .val (.int i3), .val (.int i4), .val (.int i5), .val (.int i6), .val (.int i7), .unset, .unset] [(.int (63 : Int32)), (.int i6), (.int ((((i3 &&& (7 : Int32)) <<< ((18 : Int32) &&& 31)) ||| ((i4 &&& (63 : Int32)) <<< ((12 : Int32) &&& 31))) ||| ((i5 &&& (63 : Int32)) <<< ((6 : Int32) &&& 31))))]))
      refine own_back (fun t k => XS.iand X.here hx rfl (hb hby own_d1_230) rfl k) ?_
      show own_Go _ _ _ _ _ _ _ (T.setTop (mkF m 231 #[.val (.ref x0), .val (.int x1), .val (.int i2), .val (.int i3), .val (.int i4), .val (.int i5), .val (.int i6), .val (.int i7), .unset, .unset] [(.int (i6 &&& (63 : Int32))), (.int ((((i3 &&& (7 : Int32)) <<< ((18 : Int32) &&& 31)) ||| ((i4 &&& (63 : Int32)) <<< ((12 : Int32) &&& 31))) ||| ((i5 &&& (63 : Int32)) <<< ((6 : Int32) &&& 31))))]))
      refine own_back (fun t k => XS.ior X.here hx rfl (hb hby own_d1_231) rfl k) ?_
      show own_Go _ _ _ _ _ _ _ (T.setTop (mkF m 232 #[.val (.ref x0), .val (.int x1), .val (.int i2), .val (.int i3), .val (.int i4), .val (.int i5), .val (.int i6), .val (.int i7), .unset, .unset] [(.int (((((i3 &&& (7 : Int32)) <<< ((18 : Int32) &&& 31)) ||| ((i4 &&& (63 : Int32)) <<< ((12 : Int32) &&& 31))) ||| ((i5 &&& (63 : Int32)) <<< ((6 : Int32) &&& 31))) ||| (i6 &&& (63 : Int32))))]))
      refine own_back (fun t k => XS.istore X.here hx rfl (hb hby own_d1_232) rfl (l' := #[.val (.ref x0), .val (.int x1), .val (.int i2), .val (.int i3), .val (.int i4), .val (.int i5), .val (.int i6), .val (.int i7), .val (.int (((((i3 &&& (7 : Int32)) <<< ((18 : Int32) &&& 31)) ||| ((i4 &&& (63 : Int32)) <<< ((12 : Int32) &&& 31))) ||| ((i5 &&& (63 : Int32)) <<< ((6 : Int32) &&& 31))) ||| (i6 &&& (63 : Int32)))), .unset]) rfl k) ?_
      show own_Go _ _ _ _ _ _ _ (T.setTop (mkF m 234 #[.val (.ref x0), .val (.int x1), .val (.int i2), .val (.int i3), .val (.int i4), .val (.int i5), .val (.int i6), .val (.int i7), .val (.int (((((i3 &&& (7 : Int32)) <<< ((18 : Int32) &&& 31)) ||| ((i4 &&& (63 : Int32)) <<< ((12 : Int32) &&& 31))) ||| ((i5 &&& (63 : Int32)) <<< ((6 : Int32) &&& 31))) ||| (i6 &&& (63 : Int32)))), .unset] []))
      refine own_back (fun t k => X.ldcInt hx hown (mvT hZ (hw _ (List.mem_of_getElem? (i := 14) rfl))) (g := (mkF m 234 #[.val (.ref x0), .val (.int x1), .val (.int i2), .val (.int i3), .val (.int i4), .val (.int i5), .val (.int i6), .val (.int i7), .val (.int (((((i3 &&& (7 : Int32)) <<< ((18 : Int32) &&& 31)) ||| ((i4 &&& (63 : Int32)) <<< ((12 : Int32) &&& 31))) ||| ((i5 &&& (63 : Int32)) <<< ((6 : Int32) &&& 31))) ||| (i6 &&& (63 : Int32)))), .unset] [])) rfl (hb hby own_d1_234) _ k) ?_
      show own_Go _ _ _ _ _ _ _ (T.setTop (mkF m 236 #[.val (.ref x0), .val (.int x1), .val (.int i2), .val (.int i3), .val (.int i4), .val (.int i5), .val (.int i6), .val (.int i7), .val (.int (((((i3 &&& (7 : Int32)) <<< ((18 : Int32) &&& 31)) ||| ((i4 &&& (63 : Int32)) <<< ((12 : Int32) &&& 31))) ||| ((i5 &&& (63 : Int32)) <<< ((6 : Int32) &&& 31))) ||| (i6 &&& (63 : Int32)))), .unset] [(.int (65536 : Int32))]))
      refine own_back (fun t k => XS.istore X.here hx rfl (hb hby own_d1_236) rfl (l' := #[.val (.ref x0), .val (.int x1), .val (.int i2), .val (.int i3), .val (.int i4), .val (.int i5), .val (.int i6), .val (.int i7), .val (.int (((((i3 &&& (7 : Int32)) <<< ((18 : Int32) &&& 31)) ||| ((i4 &&& (63 : Int32)) <<< ((12 : Int32) &&& 31))) ||| ((i5 &&& (63 : Int32)) <<< ((6 : Int32) &&& 31))) ||| (i6 &&& (63 : Int32)))), .val (.int (65536 : Int32))]) rfl k) ?_
      show own_Go _ _ _ _ _ _ _ (T.setTop (mkF m 238 #[.val (.ref x0), .val (.int x1), .val (.int i2), .val (.int i3), .val (.int i4), .val (.int i5), .val (.int i6), .val (.int i7), .val (.int (((((i3 &&& (7 : Int32)) <<< ((18 : Int32) &&& 31)) ||| ((i4 &&& (63 : Int32)) <<< ((12 : Int32) &&& 31))) ||| ((i5 &&& (63 : Int32)) <<< ((6 : Int32) &&& 31))) ||| (i6 &&& (63 : Int32)))), .val (.int (65536 : Int32))] []))
      exact own_l1_238 X hx hZ hw hby hml hown hret hlk e0 N Z0 x0 oc x1 i2 i3 i4 i5 i6 i7 (((((i3 &&& (7 : Int32)) <<< ((18 : Int32) &&& 31)) ||| ((i4 &&& (63 : Int32)) <<< ((12 : Int32) &&& 31))) ||| ((i5 &&& (63 : Int32)) <<< ((6 : Int32) &&& 31))) ||| (i6 &&& (63 : Int32))) (65536 : Int32) hR VA hat
set_option maxRecDepth 65536 in
set_option maxHeartbeats 4000000 in
theorem own_l1_118 {p : Program} {l : Launch} {e : Env} {s : State} {m : MethodId} {args : Array Value} {below : List Frame} {meth : Method} {c : Code} {T : State} {locs : List Loc} {Z : State} {a0 : Array Value} {h0 : Heap} {n0 : Nat}
    (X : Stand p l e ({ frames := 1, cells := 0, slots := 0, locals := 12 } : Room) s m args below meth c T locs 0 0) (hx : p.tables.exec = Jvm.exec) (hZ : Z.Warmed39 s.vm) (hw : ∀ d ∈ tables_1, d.before a0 Z = true) (hby : c.code = method_4_code) (hml : c.maxLocals = 10) (hown : s.vm.findClass "com/example/frame_to_method/frametomethod/Utf8SequenceSizePinLaw" = some m.cls) (hret : meth.sig.returnType = some .int) (hlk : meth.locks = false) (e0 : T.heap = h0) (N : Fr n0 locs) (Z0 : n0 ≤ h0.size)
    (x0 : Addr) (oc : Nat → Int32) (x1 : Int32) (i2 : Int32) (i3 : Int32) (i4 : Int32) (i5 : Int32) (i6 : Int32) (i7 : Int32) {r : Int32} (hR : r = own_f1_118 oc x1 i2 i3 i4 i5 i6 i7) (VA : own_VA Z h0 x0 .byte 5 (fun k => .int (oc k))) (hat : x1 = (0 : Int32) ∨ x1 = (1 : Int32)) : own_Go p e below s ({ frames := 1, cells := 0, slots := 0, locals := 12 } : Room).cells ({ frames := 1, cells := 0, slots := 0, locals := 12 } : Room).slots (own_QP (.int r) h0 n0) (T.setTop (mkF m 118 #[.val (.ref x0), .val (.int x1), .val (.int i2), .val (.int i3), .val (.int i4), .val (.int i5), .val (.int i6), .val (.int i7), .unset, .unset] [])) := by
  unfold own_f1_118 at hR
  refine own_back (fun t k => XS.iload X.here hx rfl (hb hby own_d1_118) rfl k) ?_
  show own_Go _ _ _ _ _ _ _ (T.setTop (mkF m 120 #[.val (.ref x0), .val (.int x1), .val (.int i2), .val (.int i3), .val (.int i4), .val (.int i5), .val (.int i6), .val (.int i7), .unset, .unset] [(.int i7)]))
  refine own_back (fun t k => XS.iconst X.here hx rfl (hb hby own_d1_120) k) ?_
  show own_Go _ _ _ _ _ _ _ (T.setTop (mkF m 121 #[.val (.ref x0), .val (.int x1), .val (.int i2), .val (.int i3), .val (.int i4), .val (.int i5), .val (.int i6), .val (.int i7), .unset, .unset] [(.int (4 : Int32)), (.int i7)]))
  by_cases hc121 : i7 = (4 : Int32)
  · rw [if_pos hc121] at hR
    refine own_back (fun t k => XS.icmpNo X.here hx rfl (hb hby own_d1_121) rfl (teq hc121).2 k) ?_
    show own_Go _ _ _ _ _ _ _ (T.setTop (mkF m 124 #[.val (.ref x0), .val (.int x1), .val (.int i2), .val (.int i3), .val (.int i4), .val (.int i5), .val (.int i6), .val (.int i7), .unset, .unset] []))
    refine own_back (fun t k => XS.iload X.here hx rfl (hb hby own_d1_124) rfl k) ?_
    show own_Go _ _ _ _ _ _ _ (T.setTop (mkF m 126 #[.val (.ref x0), .val (.int x1), .val (.int i2), .val (.int i3), .val (.int i4), .val (.int i5), .val (.int i6), .val (.int i7), .unset, .unset] [(.int i6)]))
    obtain ⟨_, _, ⟨T3, L3, k3, n3⟩, -, X3, ⟨Lc3, hQ3, l3, y3, z3⟩, st3⟩ := Jvm.LawKit.callS X hx (y := (⟨"com/example/frame_to_method/frametomethod/Utf8SequenceSizePinLaw", "cont", "(I)Z"⟩ : MethodName)) hown (mvT hZ (hw _ (List.mem_of_getElem? (i := 9) rfl))) (mvT hZ (hw _ (List.mem_of_getElem? (i := 10) rfl))) (mvT hZ (hw _ (List.mem_of_getElem? (i := 3) rfl))) (mvT hZ (hw _ (List.mem_of_getElem? (i := 11) rfl))) (by decide) (backOf (W := 0) (own_rm3 l Z a0 hw [] i6 h0 n0 Z0) hZ (hw _ (List.mem_of_getElem? (i := 11) rfl)) (hw _ (List.mem_of_getElem? (i := 3) rfl)) (by decide) (by decide)) (g := (mkF m 126 #[.val (.ref x0), .val (.int x1), .val (.int i2), .val (.int i3), .val (.int i4), .val (.int i5), .val (.int i6), .val (.int i7), .unset, .unset] [(.int i6)])) rfl (by rw [hml]; rfl) (argsL := [(.int i6)]) (rest := []) (lenOf own_pd0 rfl) rfl (by show 2 * 0 + _ ≤ _; exact Nat.le_of_eq rfl) (hb hby own_d1_126) (fun _ _ => ⟨rfl, e0, (by decide : 0 + 0 ≤ _), (by decide : 0 + 0 ≤ _)⟩)
    dsimp only [Pt.U, Pt.locs, Pt.cells, Pt.slots] at X3 l3 y3 z3 st3 hQ3
    subst l3 y3 z3
    obtain ⟨rfl, N3q, e3⟩ := hQ3
    have N3 := Fr.app N N3q
    refine own_back (fun t k => st3 t k) ?_
    show own_Go _ _ _ _ _ _ _ (T3.setTop (mkF m 129 #[.val (.ref x0), .val (.int x1), .val (.int i2), .val (.int i3), .val (.int i4), .val (.int i5), .val (.int i6), .val (.int i7), .unset, .unset] [(.int (own_f3_0 i6))]))
    by_cases hc129 : (own_f3_0 i6) = (0 : Int32)
    · rw [if_pos hc129] at hR
      refine own_back (fun t k => XS.ifNo X3.here hx rfl (hb hby own_d1_129) rfl ((if0 _ _).trans (teq hc129).2) k) ?_
      show own_Go _ _ _ _ _ _ _ (T3.setTop (mkF m 132 #[.val (.ref x0), .val (.int x1), .val (.int i2), .val (.int i3), .val (.int i4), .val (.int i5), .val (.int i6), .val (.int i7), .unset, .unset] []))
      refine own_back (fun t k => XS.iconst X3.here hx rfl (hb hby own_d1_132) k) ?_
      show own_Go _ _ _ _ _ _ _ (T3.setTop (mkF m 133 #[.val (.ref x0), .val (.int x1), .val (.int i2), .val (.int i3), .val (.int i4), .val (.int i5), .val (.int i6), .val (.int i7), .unset, .unset] [(.int (0 : Int32))]))
      subst hR
      exact own_retI X3 hx hret (hb hby own_d1_133) hlk ⟨rfl, N3, e3⟩ (by decide) (by decide)
    · rw [if_neg hc129] at hR
      refine own_back (fun t k => XS.ifYes X3.here hx rfl (pc0 := 129) (pc' := 134) rfl (hb hby own_d1_129) rfl ((if0 _ _).trans (feq hc129).2) (by decide) (by decide) k) ?_
      show own_Go _ _ _ _ _ _ _ (T3.setTop (mkF m 134 #[.val (.ref x0), .val (.int x1), .val (.int i2), .val (.int i3), .val (.int i4), .val (.int i5), .val (.int i6), .val (.int i7), .unset, .unset] []))
      exact own_l1_134 X3 hx hZ hw hby hml hown hret hlk e3 N3 Z0 x0 oc x1 i2 i3 i4 i5 i6 i7 hR VA hat
  · rw [if_neg hc121] at hR
    refine own_back (fun t k => XS.icmpYes X.here hx rfl (pc0 := 121) (pc' := 134) rfl (hb hby own_d1_121) rfl (feq hc121).2 (by decide) (by decide) k) ?_
    show own_Go _ _ _ _ _ _ _ (T.setTop (mkF m 134 #[.val (.ref x0), .val (.int x1), .val (.int i2), .val (.int i3), .val (.int i4), .val (.int i5), .val (.int i6), .val (.int i7), .unset, .unset] []))
    exact own_l1_134 X hx hZ hw hby hml hown hret hlk e0 N Z0 x0 oc x1 i2 i3 i4 i5 i6 i7 hR VA hat
set_option maxRecDepth 65536 in
set_option maxHeartbeats 4000000 in
theorem own_l1_80 {p : Program} {l : Launch} {e : Env} {s : State} {m : MethodId} {args : Array Value} {below : List Frame} {meth : Method} {c : Code} {T : State} {locs : List Loc} {Z : State} {a0 : Array Value} {h0 : Heap} {n0 : Nat}
    (X : Stand p l e ({ frames := 1, cells := 0, slots := 0, locals := 12 } : Room) s m args below meth c T locs 0 0) (hx : p.tables.exec = Jvm.exec) (hZ : Z.Warmed39 s.vm) (hw : ∀ d ∈ tables_1, d.before a0 Z = true) (hby : c.code = method_4_code) (hml : c.maxLocals = 10) (hown : s.vm.findClass "com/example/frame_to_method/frametomethod/Utf8SequenceSizePinLaw" = some m.cls) (hret : meth.sig.returnType = some .int) (hlk : meth.locks = false) (e0 : T.heap = h0) (N : Fr n0 locs) (Z0 : n0 ≤ h0.size)
    (x0 : Addr) (oc : Nat → Int32) (x1 : Int32) (i2 : Int32) (i3 : Int32) (i4 : Int32) (i5 : Int32) (i6 : Int32) (t0 : Int32) {r : Int32} (hR : r = own_f1_80 oc x1 i2 i3 i4 i5 i6 t0) (VA : own_VA Z h0 x0 .byte 5 (fun k => .int (oc k))) (hat : x1 = (0 : Int32) ∨ x1 = (1 : Int32)) : own_Go p e below s ({ frames := 1, cells := 0, slots := 0, locals := 12 } : Room).cells ({ frames := 1, cells := 0, slots := 0, locals := 12 } : Room).slots (own_QP (.int r) h0 n0) (T.setTop (mkF m 80 #[.val (.ref x0), .val (.int x1), .val (.int i2), .val (.int i3), .val (.int i4), .val (.int i5), .val (.int i6), .unset, .unset, .unset] [(.int t0)])) := by
  unfold own_f1_80 at hR
  refine own_back (fun t k => XS.istore X.here hx rfl (hb hby own_d1_80) rfl (l' := #[.val (.ref x0), .val (.int x1), .val (.int i2), .val (.int i3), .val (.int i4), .val (.int i5), .val (.int i6), .val (.int t0), .unset, .unset]) rfl k) ?_
  show own_Go _ _ _ _ _ _ _ (T.setTop (mkF m 82 #[.val (.ref x0), .val (.int x1), .val (.int i2), .val (.int i3), .val (.int i4), .val (.int i5), .val (.int i6), .val (.int t0), .unset, .unset] []))
  refine own_back (fun t k => XS.iloadN X.here hx rfl (hb hby own_d1_82) rfl k) ?_
  show own_Go _ _ _ _ _ _ _ (T.setTop (mkF m 83 #[.val (.ref x0), .val (.int x1), .val (.int i2), .val (.int i3), .val (.int i4), .val (.int i5), .val (.int i6), .val (.int t0), .unset, .unset] [(.int i2)]))
  refine own_back (fun t k => XS.iloadN X.here hx rfl (hb hby own_d1_83) rfl k) ?_
  show own_Go _ _ _ _ _ _ _ (T.setTop (mkF m 84 #[.val (.ref x0), .val (.int x1), .val (.int i2), .val (.int i3), .val (.int i4), .val (.int i5), .val (.int i6), .val (.int t0), .unset, .unset] [(.int x1), (.int i2)]))
  refine own_back (fun t k => XS.isub X.here hx rfl (hb hby own_d1_84) rfl k) ?_
  show own_Go _ _ _ _ _ _ _ (T.setTop (mkF m 85 #[.val (.ref x0), .val (.int x1), .val (.int i2), .val (.int i3), .val (.int i4), .val (.int i5), .val (.int i6), .val (.int t0), .unset, .unset] [(.int (i2 - x1))]))
  refine own_back (fun t k => XS.iload X.here hx rfl (hb hby own_d1_85) rfl k) ?_
  show own_Go _ _ _ _ _ _ _ (T.setTop (mkF m 87 #[.val (.ref x0), .val (.int x1), .val (.int i2), .val (.int i3), .val (.int i4), .val (.int i5), .val (.int i6), .val (.int t0), .unset, .unset] [(.int t0), (.int (i2 - x1))]))
  by_cases hc87 : (i2 - x1) < t0
  · rw [if_pos hc87] at hR
    refine own_back (fun t k => XS.icmpNo X.here hx rfl (hb hby own_d1_87) rfl (tlt hc87).2.1 k) ?_
    show own_Go _ _ _ _ _ _ _ (T.setTop (mkF m 90 #[.val (.ref x0), .val (.int x1), .val (.int i2), .val (.int i3), .val (.int i4), .val (.int i5), .val (.int i6), .val (.int t0), .unset, .unset] []))
    refine own_back (fun t k => XS.iconst X.here hx rfl (hb hby own_d1_90) k) ?_
    show own_Go _ _ _ _ _ _ _ (T.setTop (mkF m 91 #[.val (.ref x0), .val (.int x1), .val (.int i2), .val (.int i3), .val (.int i4), .val (.int i5), .val (.int i6), .val (.int t0), .unset, .unset] [(.int (0 : Int32))]))
    subst hR
    exact own_retI X hx hret (hb hby own_d1_91) hlk ⟨rfl, N, e0⟩ (by decide) (by decide)
  · rw [if_neg hc87] at hR
    refine own_back (fun t k => XS.icmpYes X.here hx rfl (pc0 := 87) (pc' := 92) rfl (hb hby own_d1_87) rfl (flt hc87).2.1 (by decide) (by decide) k) ?_
    show own_Go _ _ _ _ _ _ _ (T.setTop (mkF m 92 #[.val (.ref x0), .val (.int x1), .val (.int i2), .val (.int i3), .val (.int i4), .val (.int i5), .val (.int i6), .val (.int t0), .unset, .unset] []))
    refine own_back (fun t k => XS.iload X.here hx rfl (hb hby own_d1_92) rfl k) ?_
    show own_Go _ _ _ _ _ _ _ (T.setTop (mkF m 94 #[.val (.ref x0), .val (.int x1), .val (.int i2), .val (.int i3), .val (.int i4), .val (.int i5), .val (.int i6), .val (.int t0), .unset, .unset] [(.int i4)]))
    obtain ⟨_, _, ⟨T1, L1, k1, n1⟩, -, X1, ⟨Lc1, hQ1, l1, y1, z1⟩, st1⟩ := Jvm.LawKit.callS X hx (y := (⟨"com/example/frame_to_method/frametomethod/Utf8SequenceSizePinLaw", "cont", "(I)Z"⟩ : MethodName)) hown (mvT hZ (hw _ (List.mem_of_getElem? (i := 9) rfl))) (mvT hZ (hw _ (List.mem_of_getElem? (i := 10) rfl))) (mvT hZ (hw _ (List.mem_of_getElem? (i := 3) rfl))) (mvT hZ (hw _ (List.mem_of_getElem? (i := 11) rfl))) (by decide) (backOf (W := 0) (own_rm3 l Z a0 hw [] i4 h0 n0 Z0) hZ (hw _ (List.mem_of_getElem? (i := 11) rfl)) (hw _ (List.mem_of_getElem? (i := 3) rfl)) (by decide) (by decide)) (g := (mkF m 94 #[.val (.ref x0), .val (.int x1), .val (.int i2), .val (.int i3), .val (.int i4), .val (.int i5), .val (.int i6), .val (.int t0), .unset, .unset] [(.int i4)])) rfl (by rw [hml]; rfl) (argsL := [(.int i4)]) (rest := []) (lenOf own_pd0 rfl) rfl (by show 2 * 0 + _ ≤ _; exact Nat.le_of_eq rfl) (hb hby own_d1_94) (fun _ _ => ⟨rfl, e0, (by decide : 0 + 0 ≤ _), (by decide : 0 + 0 ≤ _)⟩)
    dsimp only [Pt.U, Pt.locs, Pt.cells, Pt.slots] at X1 l1 y1 z1 st1 hQ1
    subst l1 y1 z1
    obtain ⟨rfl, N1q, e1⟩ := hQ1
    have N1 := Fr.app N N1q
    refine own_back (fun t k => st1 t k) ?_
    show own_Go _ _ _ _ _ _ _ (T1.setTop (mkF m 97 #[.val (.ref x0), .val (.int x1), .val (.int i2), .val (.int i3), .val (.int i4), .val (.int i5), .val (.int i6), .val (.int t0), .unset, .unset] [(.int (own_f3_0 i4))]))
    by_cases hc97 : (own_f3_0 i4) = (0 : Int32)
    · rw [if_pos hc97] at hR
      refine own_back (fun t k => XS.ifNo X1.here hx rfl (hb hby own_d1_97) rfl ((if0 _ _).trans (teq hc97).2) k) ?_
      show own_Go _ _ _ _ _ _ _ (T1.setTop (mkF m 100 #[.val (.ref x0), .val (.int x1), .val (.int i2), .val (.int i3), .val (.int i4), .val (.int i5), .val (.int i6), .val (.int t0), .unset, .unset] []))
      refine own_back (fun t k => XS.iconst X1.here hx rfl (hb hby own_d1_100) k) ?_
      show own_Go _ _ _ _ _ _ _ (T1.setTop (mkF m 101 #[.val (.ref x0), .val (.int x1), .val (.int i2), .val (.int i3), .val (.int i4), .val (.int i5), .val (.int i6), .val (.int t0), .unset, .unset] [(.int (0 : Int32))]))
      subst hR
      exact own_retI X1 hx hret (hb hby own_d1_101) hlk ⟨rfl, N1, e1⟩ (by decide) (by decide)
    · rw [if_neg hc97] at hR
      refine own_back (fun t k => XS.ifYes X1.here hx rfl (pc0 := 97) (pc' := 102) rfl (hb hby own_d1_97) rfl ((if0 _ _).trans (feq hc97).2) (by decide) (by decide) k) ?_
      show own_Go _ _ _ _ _ _ _ (T1.setTop (mkF m 102 #[.val (.ref x0), .val (.int x1), .val (.int i2), .val (.int i3), .val (.int i4), .val (.int i5), .val (.int i6), .val (.int t0), .unset, .unset] []))
      refine own_back (fun t k => XS.iload X1.here hx rfl (hb hby own_d1_102) rfl k) ?_
      show own_Go _ _ _ _ _ _ _ (T1.setTop (mkF m 104 #[.val (.ref x0), .val (.int x1), .val (.int i2), .val (.int i3), .val (.int i4), .val (.int i5), .val (.int i6), .val (.int t0), .unset, .unset] [(.int t0)]))
      refine own_back (fun t k => XS.iconst X1.here hx rfl (hb hby own_d1_104) k) ?_
      show own_Go _ _ _ _ _ _ _ (T1.setTop (mkF m 105 #[.val (.ref x0), .val (.int x1), .val (.int i2), .val (.int i3), .val (.int i4), .val (.int i5), .val (.int i6), .val (.int t0), .unset, .unset] [(.int (3 : Int32)), (.int t0)]))
      by_cases hc105 : t0 < (3 : Int32)
      · rw [if_pos hc105] at hR
        refine own_back (fun t k => XS.icmpYes X1.here hx rfl (pc0 := 105) (pc' := 118) rfl (hb hby own_d1_105) rfl (tlt hc105).1 (by decide) (by decide) k) ?_
        show own_Go _ _ _ _ _ _ _ (T1.setTop (mkF m 118 #[.val (.ref x0), .val (.int x1), .val (.int i2), .val (.int i3), .val (.int i4), .val (.int i5), .val (.int i6), .val (.int t0), .unset, .unset] []))
        exact own_l1_118 X1 hx hZ hw hby hml hown hret hlk e1 N1 Z0 x0 oc x1 i2 i3 i4 i5 i6 t0 hR VA hat
      · rw [if_neg hc105] at hR
        refine own_back (fun t k => XS.icmpNo X1.here hx rfl (hb hby own_d1_105) rfl (flt hc105).1 k) ?_
        show own_Go _ _ _ _ _ _ _ (T1.setTop (mkF m 108 #[.val (.ref x0), .val (.int x1), .val (.int i2), .val (.int i3), .val (.int i4), .val (.int i5), .val (.int i6), .val (.int t0), .unset, .unset] []))
        refine own_back (fun t k => XS.iload X1.here hx rfl (hb hby own_d1_108) rfl k) ?_
        show own_Go _ _ _ _ _ _ _ (T1.setTop (mkF m 110 #[.val (.ref x0), .val (.int x1), .val (.int i2), .val (.int i3), .val (.int i4), .val (.int i5), .val (.int i6), .val (.int t0), .unset, .unset] [(.int i5)]))
        obtain ⟨_, _, ⟨T2, L2, k2, n2⟩, -, X2, ⟨Lc2, hQ2, l2, y2, z2⟩, st2⟩ := Jvm.LawKit.callS X1 hx (y := (⟨"com/example/frame_to_method/frametomethod/Utf8SequenceSizePinLaw", "cont", "(I)Z"⟩ : MethodName)) hown (mvT hZ (hw _ (List.mem_of_getElem? (i := 9) rfl))) (mvT hZ (hw _ (List.mem_of_getElem? (i := 10) rfl))) (mvT hZ (hw _ (List.mem_of_getElem? (i := 3) rfl))) (mvT hZ (hw _ (List.mem_of_getElem? (i := 11) rfl))) (by decide) (backOf (W := 0) (own_rm3 l Z a0 hw [] i5 h0 n0 Z0) hZ (hw _ (List.mem_of_getElem? (i := 11) rfl)) (hw _ (List.mem_of_getElem? (i := 3) rfl)) (by decide) (by decide)) (g := (mkF m 110 #[.val (.ref x0), .val (.int x1), .val (.int i2), .val (.int i3), .val (.int i4), .val (.int i5), .val (.int i6), .val (.int t0), .unset, .unset] [(.int i5)])) rfl (by rw [hml]; rfl) (argsL := [(.int i5)]) (rest := []) (lenOf own_pd0 rfl) rfl (by show 2 * 0 + _ ≤ _; exact Nat.le_of_eq rfl) (hb hby own_d1_110) (fun _ _ => ⟨rfl, e1, (by decide : 0 + 0 ≤ _), (by decide : 0 + 0 ≤ _)⟩)
        dsimp only [Pt.U, Pt.locs, Pt.cells, Pt.slots] at X2 l2 y2 z2 st2 hQ2
        subst l2 y2 z2
        obtain ⟨rfl, N2q, e2⟩ := hQ2
        have N2 := Fr.app N1 N2q
        refine own_back (fun t k => st2 t k) ?_
        show own_Go _ _ _ _ _ _ _ (T2.setTop (mkF m 113 #[.val (.ref x0), .val (.int x1), .val (.int i2), .val (.int i3), .val (.int i4), .val (.int i5), .val (.int i6), .val (.int t0), .unset, .unset] [(.int (own_f3_0 i5))]))
        by_cases hc113 : (own_f3_0 i5) = (0 : Int32)
        · rw [if_pos hc113] at hR
          refine own_back (fun t k => XS.ifNo X2.here hx rfl (hb hby own_d1_113) rfl ((if0 _ _).trans (teq hc113).2) k) ?_
          show own_Go _ _ _ _ _ _ _ (T2.setTop (mkF m 116 #[.val (.ref x0), .val (.int x1), .val (.int i2), .val (.int i3), .val (.int i4), .val (.int i5), .val (.int i6), .val (.int t0), .unset, .unset] []))
          refine own_back (fun t k => XS.iconst X2.here hx rfl (hb hby own_d1_116) k) ?_
          show own_Go _ _ _ _ _ _ _ (T2.setTop (mkF m 117 #[.val (.ref x0), .val (.int x1), .val (.int i2), .val (.int i3), .val (.int i4), .val (.int i5), .val (.int i6), .val (.int t0), .unset, .unset] [(.int (0 : Int32))]))
          subst hR
          exact own_retI X2 hx hret (hb hby own_d1_117) hlk ⟨rfl, N2, e2⟩ (by decide) (by decide)
        · rw [if_neg hc113] at hR
          refine own_back (fun t k => XS.ifYes X2.here hx rfl (pc0 := 113) (pc' := 118) rfl (hb hby own_d1_113) rfl ((if0 _ _).trans (feq hc113).2) (by decide) (by decide) k) ?_
          show own_Go _ _ _ _ _ _ _ (T2.setTop (mkF m 118 #[.val (.ref x0), .val (.int x1), .val (.int i2), .val (.int i3), .val (.int i4), .val (.int i5), .val (.int i6), .val (.int t0), .unset, .unset] []))
          exact own_l1_118 X2 hx hZ hw hby hml hown hret hlk e2 N2 Z0 x0 oc x1 i2 i3 i4 i5 i6 t0 hR VA hat
set_option maxRecDepth 65536 in
set_option maxHeartbeats 4000000 in
theorem own_l1_0 {p : Program} {l : Launch} {e : Env} {s : State} {m : MethodId} {args : Array Value} {below : List Frame} {meth : Method} {c : Code} {T : State} {locs : List Loc} {Z : State} {a0 : Array Value} {h0 : Heap} {n0 : Nat}
    (X : Stand p l e ({ frames := 1, cells := 0, slots := 0, locals := 12 } : Room) s m args below meth c T locs 0 0) (hx : p.tables.exec = Jvm.exec) (hZ : Z.Warmed39 s.vm) (hw : ∀ d ∈ tables_1, d.before a0 Z = true) (hby : c.code = method_4_code) (hml : c.maxLocals = 10) (hown : s.vm.findClass "com/example/frame_to_method/frametomethod/Utf8SequenceSizePinLaw" = some m.cls) (hret : meth.sig.returnType = some .int) (hlk : meth.locks = false) (e0 : T.heap = h0) (N : Fr n0 locs) (Z0 : n0 ≤ h0.size)
    (x0 : Addr) (oc : Nat → Int32) (x1 : Int32) (x2 : Int32) {r : Int32} (hR : r = own_f1_0 oc x1 x2) (VA : own_VA Z h0 x0 .byte 5 (fun k => .int (oc k))) (hat : x1 = (0 : Int32) ∨ x1 = (1 : Int32)) : own_Go p e below s ({ frames := 1, cells := 0, slots := 0, locals := 12 } : Room).cells ({ frames := 1, cells := 0, slots := 0, locals := 12 } : Room).slots (own_QP (.int r) h0 n0) (T.setTop (mkF m 0 #[.val (.ref x0), .val (.int x1), .val (.int x2), .unset, .unset, .unset, .unset, .unset, .unset, .unset] [])) := by
  unfold own_f1_0 at hR
  refine own_back (fun t k => XS.aloadN X.here hx rfl (hb hby own_d1_0) rfl rfl k) ?_
  show own_Go _ _ _ _ _ _ _ (T.setTop (mkF m 1 #[.val (.ref x0), .val (.int x1), .val (.int x2), .unset, .unset, .unset, .unset, .unset, .unset, .unset] [(.ref x0)]))
  refine own_back (fun t k => XS.iloadN X.here hx rfl (hb hby own_d1_1) rfl k) ?_
  show own_Go _ _ _ _ _ _ _ (T.setTop (mkF m 2 #[.val (.ref x0), .val (.int x1), .val (.int x2), .unset, .unset, .unset, .unset, .unset, .unset, .unset] [(.int x1), (.ref x0)]))
  refine own_back (fun t k => own_ldB X hx hZ e0 VA (j := x1) (w := (oc x1.toNatClampNeg)) (own_ix0 hat) rfl (g := (mkF m 2 #[.val (.ref x0), .val (.int x1), .val (.int x2), .unset, .unset, .unset, .unset, .unset, .unset, .unset] [(.int x1), (.ref x0)])) rfl rfl (hb hby own_d1_2) t k) ?_
  show own_Go _ _ _ _ _ _ _ (T.setTop (mkF m 3 #[.val (.ref x0), .val (.int x1), .val (.int x2), .unset, .unset, .unset, .unset, .unset, .unset, .unset] [(.int (oc x1.toNatClampNeg))]))
  refine own_back (fun t k => XS.sipush X.here hx rfl (hb hby own_d1_3) k) ?_
  show own_Go _ _ _ _ _ _ _ (T.setTop (mkF m 6 #[.val (.ref x0), .val (.int x1), .val (.int x2), .unset, .unset, .unset, .unset, .unset, .unset, .unset] [(.int (255 : Int32)), (.int (oc x1.toNatClampNeg))]))
  refine own_back (fun t k => XS.iand X.here hx rfl (hb hby own_d1_6) rfl k) ?_
  show own_Go _ _ _ _ _ _ _ (T.setTop (mkF m 7 #[.val (.ref x0), .val (.int x1), .val (.int x2), .unset, .unset, .unset, .unset, .unset, .unset, .unset] [(.int ((oc x1.toNatClampNeg) &&& (255 : Int32)))]))
  refine own_back (fun t k => XS.istoreN X.here hx rfl (hb hby own_d1_7) rfl (l' := #[.val (.ref x0), .val (.int x1), .val (.int x2), .val (.int ((oc x1.toNatClampNeg) &&& (255 : Int32))), .unset, .unset, .unset, .unset, .unset, .unset]) rfl k) ?_
  show own_Go _ _ _ _ _ _ _ (T.setTop (mkF m 8 #[.val (.ref x0), .val (.int x1), .val (.int x2), .val (.int ((oc x1.toNatClampNeg) &&& (255 : Int32))), .unset, .unset, .unset, .unset, .unset, .unset] []))
  refine own_back (fun t k => XS.aloadN X.here hx rfl (hb hby own_d1_8) rfl rfl k) ?_
  show own_Go _ _ _ _ _ _ _ (T.setTop (mkF m 9 #[.val (.ref x0), .val (.int x1), .val (.int x2), .val (.int ((oc x1.toNatClampNeg) &&& (255 : Int32))), .unset, .unset, .unset, .unset, .unset, .unset] [(.ref x0)]))
  refine own_back (fun t k => XS.iloadN X.here hx rfl (hb hby own_d1_9) rfl k) ?_
  show own_Go _ _ _ _ _ _ _ (T.setTop (mkF m 10 #[.val (.ref x0), .val (.int x1), .val (.int x2), .val (.int ((oc x1.toNatClampNeg) &&& (255 : Int32))), .unset, .unset, .unset, .unset, .unset, .unset] [(.int x1), (.ref x0)]))
  refine own_back (fun t k => XS.iconst X.here hx rfl (hb hby own_d1_10) k) ?_
  show own_Go _ _ _ _ _ _ _ (T.setTop (mkF m 11 #[.val (.ref x0), .val (.int x1), .val (.int x2), .val (.int ((oc x1.toNatClampNeg) &&& (255 : Int32))), .unset, .unset, .unset, .unset, .unset, .unset] [(.int (1 : Int32)), (.int x1), (.ref x0)]))
  refine own_back (fun t k => XS.iadd X.here hx rfl (hb hby own_d1_11) rfl k) ?_
  show own_Go _ _ _ _ _ _ _ (T.setTop (mkF m 12 #[.val (.ref x0), .val (.int x1), .val (.int x2), .val (.int ((oc x1.toNatClampNeg) &&& (255 : Int32))), .unset, .unset, .unset, .unset, .unset, .unset] [(.int (x1 + (1 : Int32))), (.ref x0)]))
  refine own_back (fun t k => own_ldB X hx hZ e0 VA (j := (x1 + (1 : Int32))) (w := (oc (x1 + (1 : Int32)).toNatClampNeg)) (own_ix1 hat) rfl (g := (mkF m 12 #[.val (.ref x0), .val (.int x1), .val (.int x2), .val (.int ((oc x1.toNatClampNeg) &&& (255 : Int32))), .unset, .unset, .unset, .unset, .unset, .unset] [(.int (x1 + (1 : Int32))), (.ref x0)])) rfl rfl (hb hby own_d1_12) t k) ?_
  show own_Go _ _ _ _ _ _ _ (T.setTop (mkF m 13 #[.val (.ref x0), .val (.int x1), .val (.int x2), .val (.int ((oc x1.toNatClampNeg) &&& (255 : Int32))), .unset, .unset, .unset, .unset, .unset, .unset] [(.int (oc (x1 + (1 : Int32)).toNatClampNeg))]))
  refine own_back (fun t k => XS.sipush X.here hx rfl (hb hby own_d1_13) k) ?_
  show own_Go _ _ _ _ _ _ _ (T.setTop (mkF m 16 #[.val (.ref x0), .val (.int x1), .val (.int x2), .val (.int ((oc x1.toNatClampNeg) &&& (255 : Int32))), .unset, .unset, .unset, .unset, .unset, .unset] [(.int (255 : Int32)), (.int (oc (x1 + (1 : Int32)).toNatClampNeg))]))
  refine own_back (fun t k => XS.iand X.here hx rfl (hb hby own_d1_16) rfl k) ?_
  show own_Go _ _ _ _ _ _ _ (T.setTop (mkF m 17 #[.val (.ref x0), .val (.int x1), .val (.int x2), .val (.int ((oc x1.toNatClampNeg) &&& (255 : Int32))), .unset, .unset, .unset, .unset, .unset, .unset] [(.int ((oc (x1 + (1 : Int32)).toNatClampNeg) &&& (255 : Int32)))]))
  refine own_back (fun t k => XS.istore X.here hx rfl (hb hby own_d1_17) rfl (l' := #[.val (.ref x0), .val (.int x1), .val (.int x2), .val (.int ((oc x1.toNatClampNeg) &&& (255 : Int32))), .val (.int ((oc (x1 + (1 : Int32)).toNatClampNeg) &&& (255 : Int32))), .unset, .unset, .unset, .unset, .unset]) rfl k) ?_
  show own_Go _ _ _ _ _ _ _ (T.setTop (mkF m 19 #[.val (.ref x0), .val (.int x1), .val (.int x2), .val (.int ((oc x1.toNatClampNeg) &&& (255 : Int32))), .val (.int ((oc (x1 + (1 : Int32)).toNatClampNeg) &&& (255 : Int32))), .unset, .unset, .unset, .unset, .unset] []))
  refine own_back (fun t k => XS.aloadN X.here hx rfl (hb hby own_d1_19) rfl rfl k) ?_
  show own_Go _ _ _ _ _ _ _ (T.setTop (mkF m 20 #[.val (.ref x0), .val (.int x1), .val (.int x2), .val (.int ((oc x1.toNatClampNeg) &&& (255 : Int32))), .val (.int ((oc (x1 + (1 : Int32)).toNatClampNeg) &&& (255 : Int32))), .unset, .unset, .unset, .unset, .unset] [(.ref x0)]))
  refine own_back (fun t k => XS.iloadN X.here hx rfl (hb hby own_d1_20) rfl k) ?_
  show own_Go _ _ _ _ _ _ _ (T.setTop (mkF m 21 #[.val (.ref x0), .val (.int x1), .val (.int x2), .val (.int ((oc x1.toNatClampNeg) &&& (255 : Int32))), .val (.int ((oc (x1 + (1 : Int32)).toNatClampNeg) &&& (255 : Int32))), .unset, .unset, .unset, .unset, .unset] [(.int x1), (.ref x0)]))
  refine own_back (fun t k => XS.iconst X.here hx rfl (hb hby own_d1_21) k) ?_
  show own_Go _ _ _ _ _ _ _ (T.setTop (mkF m 22 #[.val (.ref x0), .val (.int x1), .val (.int x2), .val (.int ((oc x1.toNatClampNeg) &&& (255 : Int32))), .val (.int ((oc (x1 + (1 : Int32)).toNatClampNeg) &&& (255 : Int32))), .unset, .unset, .unset, .unset, .unset] [(.int (2 : Int32)), (.int x1), (.ref x0)]))
  refine own_back (fun t k => XS.iadd X.here hx rfl (hb hby own_d1_22) rfl k) ?_
  show own_Go _ _ _ _ _ _ _ (T.setTop (mkF m 23 #[.val (.ref x0), .val (.int x1), .val (.int x2), .val (.int ((oc x1.toNatClampNeg) &&& (255 : Int32))), .val (.int ((oc (x1 + (1 : Int32)).toNatClampNeg) &&& (255 : Int32))), .unset, .unset, .unset, .unset, .unset] [(.int (x1 + (2 : Int32))), (.ref x0)]))
  refine own_back (fun t k => own_ldB X hx hZ e0 VA (j := (x1 + (2 : Int32))) (w := (oc (x1 + (2 : Int32)).toNatClampNeg)) (own_ix2 hat) rfl (g := (mkF m 23 #[.val (.ref x0), .val (.int x1), .val (.int x2), .val (.int ((oc x1.toNatClampNeg) &&& (255 : Int32))), .val (.int ((oc (x1 + (1 : Int32)).toNatClampNeg) &&& (255 : Int32))), .unset, .unset, .unset, .unset, .unset] [(.int (x1 + (2 : Int32))), (.ref x0)])) rfl rfl (hb hby own_d1_23) t k) ?_
  show own_Go _ _ _ _ _ _ _ (T.setTop (mkF m 24 #[.val (.ref x0), .val (.int x1), .val (.int x2), .val (.int ((oc x1.toNatClampNeg) &&& (255 : Int32))), .val (.int ((oc (x1 + (1 : Int32)).toNatClampNeg) &&& (255 : Int32))), .unset, .unset, .unset, .unset, .unset] [(.int (oc (x1 + (2 : Int32)).toNatClampNeg))]))
  refine own_back (fun t k => XS.sipush X.here hx rfl (hb hby own_d1_24) k) ?_
  show own_Go _ _ _ _ _ _ _ (T.setTop (mkF m 27 #[.val (.ref x0), .val (.int x1), .val (.int x2), .val (.int ((oc x1.toNatClampNeg) &&& (255 : Int32))), .val (.int ((oc (x1 + (1 : Int32)).toNatClampNeg) &&& (255 : Int32))), .unset, .unset, .unset, .unset, .unset] [(.int (255 : Int32)), (.int (oc (x1 + (2 : Int32)).toNatClampNeg))]))
  refine own_back (fun t k => XS.iand X.here hx rfl (hb hby own_d1_27) rfl k) ?_
  show own_Go _ _ _ _ _ _ _ (T.setTop (mkF m 28 #[.val (.ref x0), .val (.int x1), .val (.int x2), .val (.int ((oc x1.toNatClampNeg) &&& (255 : Int32))), .val (.int ((oc (x1 + (1 : Int32)).toNatClampNeg) &&& (255 : Int32))), .unset, .unset, .unset, .unset, .unset] [(.int ((oc (x1 + (2 : Int32)).toNatClampNeg) &&& (255 : Int32)))]))
  refine own_back (fun t k => XS.istore X.here hx rfl (hb hby own_d1_28) rfl (l' := #[.val (.ref x0), .val (.int x1), .val (.int x2), .val (.int ((oc x1.toNatClampNeg) &&& (255 : Int32))), .val (.int ((oc (x1 + (1 : Int32)).toNatClampNeg) &&& (255 : Int32))), .val (.int ((oc (x1 + (2 : Int32)).toNatClampNeg) &&& (255 : Int32))), .unset, .unset, .unset, .unset]) rfl k) ?_
  show own_Go _ _ _ _ _ _ _ (T.setTop (mkF m 30 #[.val (.ref x0), .val (.int x1), .val (.int x2), .val (.int ((oc x1.toNatClampNeg) &&& (255 : Int32))), .val (.int ((oc (x1 + (1 : Int32)).toNatClampNeg) &&& (255 : Int32))), .val (.int ((oc (x1 + (2 : Int32)).toNatClampNeg) &&& (255 : Int32))), .unset, .unset, .unset, .unset] []))
  refine own_back (fun t k => XS.aloadN X.here hx rfl (hb hby own_d1_30) rfl rfl k) ?_
  show own_Go _ _ _ _ _ _ _ (T.setTop (mkF m 31 #[.val (.ref x0), .val (.int x1), .val (.int x2), .val (.int ((oc x1.toNatClampNeg) &&& (255 : Int32))), .val (.int ((oc (x1 + (1 : Int32)).toNatClampNeg) &&& (255 : Int32))), .val (.int ((oc (x1 + (2 : Int32)).toNatClampNeg) &&& (255 : Int32))), .unset, .unset, .unset, .unset] [(.ref x0)]))
  refine own_back (fun t k => XS.iloadN X.here hx rfl (hb hby own_d1_31) rfl k) ?_
  show own_Go _ _ _ _ _ _ _ (T.setTop (mkF m 32 #[.val (.ref x0), .val (.int x1), .val (.int x2), .val (.int ((oc x1.toNatClampNeg) &&& (255 : Int32))), .val (.int ((oc (x1 + (1 : Int32)).toNatClampNeg) &&& (255 : Int32))), .val (.int ((oc (x1 + (2 : Int32)).toNatClampNeg) &&& (255 : Int32))), .unset, .unset, .unset, .unset] [(.int x1), (.ref x0)]))
  refine own_back (fun t k => XS.iconst X.here hx rfl (hb hby own_d1_32) k) ?_
  show own_Go _ _ _ _ _ _ _ (T.setTop (mkF m 33 #[.val (.ref x0), .val (.int x1), .val (.int x2), .val (.int ((oc x1.toNatClampNeg) &&& (255 : Int32))), .val (.int ((oc (x1 + (1 : Int32)).toNatClampNeg) &&& (255 : Int32))), .val (.int ((oc (x1 + (2 : Int32)).toNatClampNeg) &&& (255 : Int32))), .unset, .unset, .unset, .unset] [(.int (3 : Int32)), (.int x1), (.ref x0)]))
  refine own_back (fun t k => XS.iadd X.here hx rfl (hb hby own_d1_33) rfl k) ?_
  show own_Go _ _ _ _ _ _ _ (T.setTop (mkF m 34 #[.val (.ref x0), .val (.int x1), .val (.int x2), .val (.int ((oc x1.toNatClampNeg) &&& (255 : Int32))), .val (.int ((oc (x1 + (1 : Int32)).toNatClampNeg) &&& (255 : Int32))), .val (.int ((oc (x1 + (2 : Int32)).toNatClampNeg) &&& (255 : Int32))), .unset, .unset, .unset, .unset] [(.int (x1 + (3 : Int32))), (.ref x0)]))
  refine own_back (fun t k => own_ldB X hx hZ e0 VA (j := (x1 + (3 : Int32))) (w := (oc (x1 + (3 : Int32)).toNatClampNeg)) (own_ix3 hat) rfl (g := (mkF m 34 #[.val (.ref x0), .val (.int x1), .val (.int x2), .val (.int ((oc x1.toNatClampNeg) &&& (255 : Int32))), .val (.int ((oc (x1 + (1 : Int32)).toNatClampNeg) &&& (255 : Int32))), .val (.int ((oc (x1 + (2 : Int32)).toNatClampNeg) &&& (255 : Int32))), .unset, .unset, .unset, .unset] [(.int (x1 + (3 : Int32))), (.ref x0)])) rfl rfl (hb hby own_d1_34) t k) ?_
  show own_Go _ _ _ _ _ _ _ (T.setTop (mkF m 35 #[.val (.ref x0), .val (.int x1), .val (.int x2), .val (.int ((oc x1.toNatClampNeg) &&& (255 : Int32))), .val (.int ((oc (x1 + (1 : Int32)).toNatClampNeg) &&& (255 : Int32))), .val (.int ((oc (x1 + (2 : Int32)).toNatClampNeg) &&& (255 : Int32))), .unset, .unset, .unset, .unset] [(.int (oc (x1 + (3 : Int32)).toNatClampNeg))]))
  refine own_back (fun t k => XS.sipush X.here hx rfl (hb hby own_d1_35) k) ?_
  show own_Go _ _ _ _ _ _ _ (T.setTop (mkF m 38 #[.val (.ref x0), .val (.int x1), .val (.int x2), .val (.int ((oc x1.toNatClampNeg) &&& (255 : Int32))), .val (.int ((oc (x1 + (1 : Int32)).toNatClampNeg) &&& (255 : Int32))), .val (.int ((oc (x1 + (2 : Int32)).toNatClampNeg) &&& (255 : Int32))), .unset, .unset, .unset, .unset] [(.int (255 : Int32)), (.int (oc (x1 + (3 : Int32)).toNatClampNeg))]))
  refine own_back (fun t k => XS.iand X.here hx rfl (hb hby own_d1_38) rfl k) ?_
  show own_Go _ _ _ _ _ _ _ (T.setTop (mkF m 39 #[.val (.ref x0), .val (.int x1), .val (.int x2), .val (.int ((oc x1.toNatClampNeg) &&& (255 : Int32))), .val (.int ((oc (x1 + (1 : Int32)).toNatClampNeg) &&& (255 : Int32))), .val (.int ((oc (x1 + (2 : Int32)).toNatClampNeg) &&& (255 : Int32))), .unset, .unset, .unset, .unset] [(.int ((oc (x1 + (3 : Int32)).toNatClampNeg) &&& (255 : Int32)))]))
  refine own_back (fun t k => XS.istore X.here hx rfl (hb hby own_d1_39) rfl (l' := #[.val (.ref x0), .val (.int x1), .val (.int x2), .val (.int ((oc x1.toNatClampNeg) &&& (255 : Int32))), .val (.int ((oc (x1 + (1 : Int32)).toNatClampNeg) &&& (255 : Int32))), .val (.int ((oc (x1 + (2 : Int32)).toNatClampNeg) &&& (255 : Int32))), .val (.int ((oc (x1 + (3 : Int32)).toNatClampNeg) &&& (255 : Int32))), .unset, .unset, .unset]) rfl k) ?_
  show own_Go _ _ _ _ _ _ _ (T.setTop (mkF m 41 #[.val (.ref x0), .val (.int x1), .val (.int x2), .val (.int ((oc x1.toNatClampNeg) &&& (255 : Int32))), .val (.int ((oc (x1 + (1 : Int32)).toNatClampNeg) &&& (255 : Int32))), .val (.int ((oc (x1 + (2 : Int32)).toNatClampNeg) &&& (255 : Int32))), .val (.int ((oc (x1 + (3 : Int32)).toNatClampNeg) &&& (255 : Int32))), .unset, .unset, .unset] []))
  refine own_back (fun t k => XS.iloadN X.here hx rfl (hb hby own_d1_41) rfl k) ?_
  show own_Go _ _ _ _ _ _ _ (T.setTop (mkF m 42 #[.val (.ref x0), .val (.int x1), .val (.int x2), .val (.int ((oc x1.toNatClampNeg) &&& (255 : Int32))), .val (.int ((oc (x1 + (1 : Int32)).toNatClampNeg) &&& (255 : Int32))), .val (.int ((oc (x1 + (2 : Int32)).toNatClampNeg) &&& (255 : Int32))), .val (.int ((oc (x1 + (3 : Int32)).toNatClampNeg) &&& (255 : Int32))), .unset, .unset, .unset] [(.int ((oc x1.toNatClampNeg) &&& (255 : Int32)))]))
  refine own_back (fun t k => XS.sipush X.here hx rfl (hb hby own_d1_42) k) ?_
  show own_Go _ _ _ _ _ _ _ (T.setTop (mkF m 45 #[.val (.ref x0), .val (.int x1), .val (.int x2), .val (.int ((oc x1.toNatClampNeg) &&& (255 : Int32))), .val (.int ((oc (x1 + (1 : Int32)).toNatClampNeg) &&& (255 : Int32))), .val (.int ((oc (x1 + (2 : Int32)).toNatClampNeg) &&& (255 : Int32))), .val (.int ((oc (x1 + (3 : Int32)).toNatClampNeg) &&& (255 : Int32))), .unset, .unset, .unset] [(.int (192 : Int32)), (.int ((oc x1.toNatClampNeg) &&& (255 : Int32)))]))
  by_cases hc45 : ((oc x1.toNatClampNeg) &&& (255 : Int32)) < (192 : Int32)
  · rw [if_pos hc45] at hR
    refine own_back (fun t k => XS.icmpYes X.here hx rfl (pc0 := 45) (pc' := 55) rfl (hb hby own_d1_45) rfl (tlt hc45).1 (by decide) (by decide) k) ?_
    show own_Go _ _ _ _ _ _ _ (T.setTop (mkF m 55 #[.val (.ref x0), .val (.int x1), .val (.int x2), .val (.int ((oc x1.toNatClampNeg) &&& (255 : Int32))), .val (.int ((oc (x1 + (1 : Int32)).toNatClampNeg) &&& (255 : Int32))), .val (.int ((oc (x1 + (2 : Int32)).toNatClampNeg) &&& (255 : Int32))), .val (.int ((oc (x1 + (3 : Int32)).toNatClampNeg) &&& (255 : Int32))), .unset, .unset, .unset] []))
    refine own_back (fun t k => XS.iconst X.here hx rfl (hb hby own_d1_55) k) ?_
    show own_Go _ _ _ _ _ _ _ (T.setTop (mkF m 56 #[.val (.ref x0), .val (.int x1), .val (.int x2), .val (.int ((oc x1.toNatClampNeg) &&& (255 : Int32))), .val (.int ((oc (x1 + (1 : Int32)).toNatClampNeg) &&& (255 : Int32))), .val (.int ((oc (x1 + (2 : Int32)).toNatClampNeg) &&& (255 : Int32))), .val (.int ((oc (x1 + (3 : Int32)).toNatClampNeg) &&& (255 : Int32))), .unset, .unset, .unset] [(.int (0 : Int32))]))
    subst hR
    exact own_retI X hx hret (hb hby own_d1_56) hlk ⟨rfl, N, e0⟩ (by decide) (by decide)
  · rw [if_neg hc45] at hR
    refine own_back (fun t k => XS.icmpNo X.here hx rfl (hb hby own_d1_45) rfl (flt hc45).1 k) ?_
    show own_Go _ _ _ _ _ _ _ (T.setTop (mkF m 48 #[.val (.ref x0), .val (.int x1), .val (.int x2), .val (.int ((oc x1.toNatClampNeg) &&& (255 : Int32))), .val (.int ((oc (x1 + (1 : Int32)).toNatClampNeg) &&& (255 : Int32))), .val (.int ((oc (x1 + (2 : Int32)).toNatClampNeg) &&& (255 : Int32))), .val (.int ((oc (x1 + (3 : Int32)).toNatClampNeg) &&& (255 : Int32))), .unset, .unset, .unset] []))
    refine own_back (fun t k => XS.iloadN X.here hx rfl (hb hby own_d1_48) rfl k) ?_
    show own_Go _ _ _ _ _ _ _ (T.setTop (mkF m 49 #[.val (.ref x0), .val (.int x1), .val (.int x2), .val (.int ((oc x1.toNatClampNeg) &&& (255 : Int32))), .val (.int ((oc (x1 + (1 : Int32)).toNatClampNeg) &&& (255 : Int32))), .val (.int ((oc (x1 + (2 : Int32)).toNatClampNeg) &&& (255 : Int32))), .val (.int ((oc (x1 + (3 : Int32)).toNatClampNeg) &&& (255 : Int32))), .unset, .unset, .unset] [(.int ((oc x1.toNatClampNeg) &&& (255 : Int32)))]))
    refine own_back (fun t k => XS.sipush X.here hx rfl (hb hby own_d1_49) k) ?_
    show own_Go _ _ _ _ _ _ _ (T.setTop (mkF m 52 #[.val (.ref x0), .val (.int x1), .val (.int x2), .val (.int ((oc x1.toNatClampNeg) &&& (255 : Int32))), .val (.int ((oc (x1 + (1 : Int32)).toNatClampNeg) &&& (255 : Int32))), .val (.int ((oc (x1 + (2 : Int32)).toNatClampNeg) &&& (255 : Int32))), .val (.int ((oc (x1 + (3 : Int32)).toNatClampNeg) &&& (255 : Int32))), .unset, .unset, .unset] [(.int (247 : Int32)), (.int ((oc x1.toNatClampNeg) &&& (255 : Int32)))]))
    by_cases hc52 : (247 : Int32) < ((oc x1.toNatClampNeg) &&& (255 : Int32))
    · rw [if_pos hc52] at hR
      refine own_back (fun t k => XS.icmpNo X.here hx rfl (hb hby own_d1_52) rfl (tlt hc52).2.2.2 k) ?_
      show own_Go _ _ _ _ _ _ _ (T.setTop (mkF m 55 #[.val (.ref x0), .val (.int x1), .val (.int x2), .val (.int ((oc x1.toNatClampNeg) &&& (255 : Int32))), .val (.int ((oc (x1 + (1 : Int32)).toNatClampNeg) &&& (255 : Int32))), .val (.int ((oc (x1 + (2 : Int32)).toNatClampNeg) &&& (255 : Int32))), .val (.int ((oc (x1 + (3 : Int32)).toNatClampNeg) &&& (255 : Int32))), .unset, .unset, .unset] []))
      refine own_back (fun t k => XS.iconst X.here hx rfl (hb hby own_d1_55) k) ?_
      show own_Go _ _ _ _ _ _ _ (T.setTop (mkF m 56 #[.val (.ref x0), .val (.int x1), .val (.int x2), .val (.int ((oc x1.toNatClampNeg) &&& (255 : Int32))), .val (.int ((oc (x1 + (1 : Int32)).toNatClampNeg) &&& (255 : Int32))), .val (.int ((oc (x1 + (2 : Int32)).toNatClampNeg) &&& (255 : Int32))), .val (.int ((oc (x1 + (3 : Int32)).toNatClampNeg) &&& (255 : Int32))), .unset, .unset, .unset] [(.int (0 : Int32))]))
      subst hR
      exact own_retI X hx hret (hb hby own_d1_56) hlk ⟨rfl, N, e0⟩ (by decide) (by decide)
    · rw [if_neg hc52] at hR
      refine own_back (fun t k => XS.icmpYes X.here hx rfl (pc0 := 52) (pc' := 57) rfl (hb hby own_d1_52) rfl (flt hc52).2.2.2 (by decide) (by decide) k) ?_
      show own_Go _ _ _ _ _ _ _ (T.setTop (mkF m 57 #[.val (.ref x0), .val (.int x1), .val (.int x2), .val (.int ((oc x1.toNatClampNeg) &&& (255 : Int32))), .val (.int ((oc (x1 + (1 : Int32)).toNatClampNeg) &&& (255 : Int32))), .val (.int ((oc (x1 + (2 : Int32)).toNatClampNeg) &&& (255 : Int32))), .val (.int ((oc (x1 + (3 : Int32)).toNatClampNeg) &&& (255 : Int32))), .unset, .unset, .unset] []))
      refine own_back (fun t k => XS.iloadN X.here hx rfl (hb hby own_d1_57) rfl k) ?_
      show own_Go _ _ _ _ _ _ _ (T.setTop (mkF m 58 #[.val (.ref x0), .val (.int x1), .val (.int x2), .val (.int ((oc x1.toNatClampNeg) &&& (255 : Int32))), .val (.int ((oc (x1 + (1 : Int32)).toNatClampNeg) &&& (255 : Int32))), .val (.int ((oc (x1 + (2 : Int32)).toNatClampNeg) &&& (255 : Int32))), .val (.int ((oc (x1 + (3 : Int32)).toNatClampNeg) &&& (255 : Int32))), .unset, .unset, .unset] [(.int ((oc x1.toNatClampNeg) &&& (255 : Int32)))]))
      refine own_back (fun t k => XS.sipush X.here hx rfl (hb hby own_d1_58) k) ?_
      show own_Go _ _ _ _ _ _ _ (T.setTop (mkF m 61 #[.val (.ref x0), .val (.int x1), .val (.int x2), .val (.int ((oc x1.toNatClampNeg) &&& (255 : Int32))), .val (.int ((oc (x1 + (1 : Int32)).toNatClampNeg) &&& (255 : Int32))), .val (.int ((oc (x1 + (2 : Int32)).toNatClampNeg) &&& (255 : Int32))), .val (.int ((oc (x1 + (3 : Int32)).toNatClampNeg) &&& (255 : Int32))), .unset, .unset, .unset] [(.int (224 : Int32)), (.int ((oc x1.toNatClampNeg) &&& (255 : Int32)))]))
      by_cases hc61 : ((oc x1.toNatClampNeg) &&& (255 : Int32)) < (224 : Int32)
      · rw [if_pos hc61] at hR
        refine own_back (fun t k => XS.icmpNo X.here hx rfl (hb hby own_d1_61) rfl (tlt hc61).2.1 k) ?_
        show own_Go _ _ _ _ _ _ _ (T.setTop (mkF m 64 #[.val (.ref x0), .val (.int x1), .val (.int x2), .val (.int ((oc x1.toNatClampNeg) &&& (255 : Int32))), .val (.int ((oc (x1 + (1 : Int32)).toNatClampNeg) &&& (255 : Int32))), .val (.int ((oc (x1 + (2 : Int32)).toNatClampNeg) &&& (255 : Int32))), .val (.int ((oc (x1 + (3 : Int32)).toNatClampNeg) &&& (255 : Int32))), .unset, .unset, .unset] []))
        refine own_back (fun t k => XS.iconst X.here hx rfl (hb hby own_d1_64) k) ?_
        show own_Go _ _ _ _ _ _ _ (T.setTop (mkF m 65 #[.val (.ref x0), .val (.int x1), .val (.int x2), .val (.int ((oc x1.toNatClampNeg) &&& (255 : Int32))), .val (.int ((oc (x1 + (1 : Int32)).toNatClampNeg) &&& (255 : Int32))), .val (.int ((oc (x1 + (2 : Int32)).toNatClampNeg) &&& (255 : Int32))), .val (.int ((oc (x1 + (3 : Int32)).toNatClampNeg) &&& (255 : Int32))), .unset, .unset, .unset] [(.int (2 : Int32))]))
        refine own_back (fun t k => XS.goto X.here hx rfl (pc0 := 65) (pc' := 80) rfl (hb hby own_d1_65) (by decide) (by decide) k) ?_
        show own_Go _ _ _ _ _ _ _ (T.setTop (mkF m 80 #[.val (.ref x0), .val (.int x1), .val (.int x2), .val (.int ((oc x1.toNatClampNeg) &&& (255 : Int32))), .val (.int ((oc (x1 + (1 : Int32)).toNatClampNeg) &&& (255 : Int32))), .val (.int ((oc (x1 + (2 : Int32)).toNatClampNeg) &&& (255 : Int32))), .val (.int ((oc (x1 + (3 : Int32)).toNatClampNeg) &&& (255 : Int32))), .unset, .unset, .unset] [(.int (2 : Int32))]))
        exact own_l1_80 X hx hZ hw hby hml hown hret hlk e0 N Z0 x0 oc x1 x2 ((oc x1.toNatClampNeg) &&& (255 : Int32)) ((oc (x1 + (1 : Int32)).toNatClampNeg) &&& (255 : Int32)) ((oc (x1 + (2 : Int32)).toNatClampNeg) &&& (255 : Int32)) ((oc (x1 + (3 : Int32)).toNatClampNeg) &&& (255 : Int32)) (2 : Int32) hR VA hat
      · rw [if_neg hc61] at hR
        refine own_back (fun t k => XS.icmpYes X.here hx rfl (pc0 := 61) (pc' := 68) rfl (hb hby own_d1_61) rfl (flt hc61).2.1 (by decide) (by decide) k) ?_
        show own_Go _ _ _ _ _ _ _ (T.setTop (mkF m 68 #[.val (.ref x0), .val (.int x1), .val (.int x2), .val (.int ((oc x1.toNatClampNeg) &&& (255 : Int32))), .val (.int ((oc (x1 + (1 : Int32)).toNatClampNeg) &&& (255 : Int32))), .val (.int ((oc (x1 + (2 : Int32)).toNatClampNeg) &&& (255 : Int32))), .val (.int ((oc (x1 + (3 : Int32)).toNatClampNeg) &&& (255 : Int32))), .unset, .unset, .unset] []))
        refine own_back (fun t k => XS.iloadN X.here hx rfl (hb hby own_d1_68) rfl k) ?_
        show own_Go _ _ _ _ _ _ _ (T.setTop (mkF m 69 #[.val (.ref x0), .val (.int x1), .val (.int x2), .val (.int ((oc x1.toNatClampNeg) &&& (255 : Int32))), .val (.int ((oc (x1 + (1 : Int32)).toNatClampNeg) &&& (255 : Int32))), .val (.int ((oc (x1 + (2 : Int32)).toNatClampNeg) &&& (255 : Int32))), .val (.int ((oc (x1 + (3 : Int32)).toNatClampNeg) &&& (255 : Int32))), .unset, .unset, .unset] [(.int ((oc x1.toNatClampNeg) &&& (255 : Int32)))]))
        refine own_back (fun t k => XS.sipush X.here hx rfl (hb hby own_d1_69) k) ?_
        show own_Go _ _ _ _ _ _ _ (T.setTop (mkF m 72 #[.val (.ref x0), .val (.int x1), .val (.int x2), .val (.int ((oc x1.toNatClampNeg) &&& (255 : Int32))), .val (.int ((oc (x1 + (1 : Int32)).toNatClampNeg) &&& (255 : Int32))), .val (.int ((oc (x1 + (2 : Int32)).toNatClampNeg) &&& (255 : Int32))), .val (.int ((oc (x1 + (3 : Int32)).toNatClampNeg) &&& (255 : Int32))), .unset, .unset, .unset] [(.int (240 : Int32)), (.int ((oc x1.toNatClampNeg) &&& (255 : Int32)))]))
        by_cases hc72 : ((oc x1.toNatClampNeg) &&& (255 : Int32)) < (240 : Int32)
        · rw [if_pos hc72] at hR
          refine own_back (fun t k => XS.icmpNo X.here hx rfl (hb hby own_d1_72) rfl (tlt hc72).2.1 k) ?_
          show own_Go _ _ _ _ _ _ _ (T.setTop (mkF m 75 #[.val (.ref x0), .val (.int x1), .val (.int x2), .val (.int ((oc x1.toNatClampNeg) &&& (255 : Int32))), .val (.int ((oc (x1 + (1 : Int32)).toNatClampNeg) &&& (255 : Int32))), .val (.int ((oc (x1 + (2 : Int32)).toNatClampNeg) &&& (255 : Int32))), .val (.int ((oc (x1 + (3 : Int32)).toNatClampNeg) &&& (255 : Int32))), .unset, .unset, .unset] []))
          refine own_back (fun t k => XS.iconst X.here hx rfl (hb hby own_d1_75) k) ?_
          show own_Go _ _ _ _ _ _ _ (T.setTop (mkF m 76 #[.val (.ref x0), .val (.int x1), .val (.int x2), .val (.int ((oc x1.toNatClampNeg) &&& (255 : Int32))), .val (.int ((oc (x1 + (1 : Int32)).toNatClampNeg) &&& (255 : Int32))), .val (.int ((oc (x1 + (2 : Int32)).toNatClampNeg) &&& (255 : Int32))), .val (.int ((oc (x1 + (3 : Int32)).toNatClampNeg) &&& (255 : Int32))), .unset, .unset, .unset] [(.int (3 : Int32))]))
          refine own_back (fun t k => XS.goto X.here hx rfl (pc0 := 76) (pc' := 80) rfl (hb hby own_d1_76) (by decide) (by decide) k) ?_
          show own_Go _ _ _ _ _ _ _ (T.setTop (mkF m 80 #[.val (.ref x0), .val (.int x1), .val (.int x2), .val (.int ((oc x1.toNatClampNeg) &&& (255 : Int32))), .val (.int ((oc (x1 + (1 : Int32)).toNatClampNeg) &&& (255 : Int32))), .val (.int ((oc (x1 + (2 : Int32)).toNatClampNeg) &&& (255 : Int32))), .val (.int ((oc (x1 + (3 : Int32)).toNatClampNeg) &&& (255 : Int32))), .unset, .unset, .unset] [(.int (3 : Int32))]))
          exact own_l1_80 X hx hZ hw hby hml hown hret hlk e0 N Z0 x0 oc x1 x2 ((oc x1.toNatClampNeg) &&& (255 : Int32)) ((oc (x1 + (1 : Int32)).toNatClampNeg) &&& (255 : Int32)) ((oc (x1 + (2 : Int32)).toNatClampNeg) &&& (255 : Int32)) ((oc (x1 + (3 : Int32)).toNatClampNeg) &&& (255 : Int32)) (3 : Int32) hR VA hat
        · rw [if_neg hc72] at hR
          refine own_back (fun t k => XS.icmpYes X.here hx rfl (pc0 := 72) (pc' := 79) rfl (hb hby own_d1_72) rfl (flt hc72).2.1 (by decide) (by decide) k) ?_
          show own_Go _ _ _ _ _ _ _ (T.setTop (mkF m 79 #[.val (.ref x0), .val (.int x1), .val (.int x2), .val (.int ((oc x1.toNatClampNeg) &&& (255 : Int32))), .val (.int ((oc (x1 + (1 : Int32)).toNatClampNeg) &&& (255 : Int32))), .val (.int ((oc (x1 + (2 : Int32)).toNatClampNeg) &&& (255 : Int32))), .val (.int ((oc (x1 + (3 : Int32)).toNatClampNeg) &&& (255 : Int32))), .unset, .unset, .unset] []))
          refine own_back (fun t k => XS.iconst X.here hx rfl (hb hby own_d1_79) k) ?_
          show own_Go _ _ _ _ _ _ _ (T.setTop (mkF m 80 #[.val (.ref x0), .val (.int x1), .val (.int x2), .val (.int ((oc x1.toNatClampNeg) &&& (255 : Int32))), .val (.int ((oc (x1 + (1 : Int32)).toNatClampNeg) &&& (255 : Int32))), .val (.int ((oc (x1 + (2 : Int32)).toNatClampNeg) &&& (255 : Int32))), .val (.int ((oc (x1 + (3 : Int32)).toNatClampNeg) &&& (255 : Int32))), .unset, .unset, .unset] [(.int (4 : Int32))]))
          exact own_l1_80 X hx hZ hw hby hml hown hret hlk e0 N Z0 x0 oc x1 x2 ((oc x1.toNatClampNeg) &&& (255 : Int32)) ((oc (x1 + (1 : Int32)).toNatClampNeg) &&& (255 : Int32)) ((oc (x1 + (2 : Int32)).toNatClampNeg) &&& (255 : Int32)) ((oc (x1 + (3 : Int32)).toNatClampNeg) &&& (255 : Int32)) (4 : Int32) hR VA hat
theorem own_pn1 : plainName "com/example/frame_to_method/frametomethod/Utf8SequenceSizePinLaw" = true := by first | (simp [plainName, overriddenIn]; done) | decide +kernel
theorem own_ef1 (m : MethodId) (x0 : Addr) (x1 : Int32) (x2 : Int32) : entryFrame m #[(.ref x0), (.int x1), (.int x2)] 10 = mkF m 0 #[.val (.ref x0), .val (.int x1), .val (.int x2), .unset, .unset, .unset, .unset, .unset, .unset, .unset] [] := by first | (simp [entryFrame, mkF, argsToLocals, Value.category]; done) | rfl
set_option maxRecDepth 65536 in
set_option maxHeartbeats 4000000 in
theorem own_rm1 (l : Launch) (Z : State) (a0 : Array Value) (hw : ∀ d ∈ tables_1, d.before a0 Z = true) (ws : List Jvm.Cond) (x0 : Addr) (x1 : Int32) (x2 : Int32) (oc : Nat → Int32) (h0 : Heap) (n0 : Nat) (Z0 : n0 ≤ h0.size) (VA : own_VA Z h0 x0 .byte 5 (fun k => .int (oc k))) (hat : x1 = (0 : Int32) ∨ x1 = (1 : Int32)) :
    MetFree l (⟨"com/example/frame_to_method/frametomethod/Utf8SequenceSizePinLaw", "reference", "([BII)I"⟩ : MethodName) (head1 (Jvm.Cond.code (⟨"com/example/frame_to_method/frametomethod/Utf8SequenceSizePinLaw", "reference", "([BII)I"⟩ : MethodName) method_4_code 10 (some .int) :: ws) ({ frames := 1, cells := 0, slots := 0, locals := 12 } : Room)) (fun a U => a = #[(.ref x0), (.int x1), (.int x2)] ∧ Z.Warmed39 U.vm ∧ U.heap = h0) (fun _ _ _ _ _ => True) (fun _ U o U' => ∃ v L, o = .returned v ∧ own_QP (.int (own_f1_0 oc x1 x2)) h0 n0 v U'.heap L ∧ FrameEnd U o U' L ({ frames := 1, cells := 0, slots := 0, locals := 12 } : Room).cells ({ frames := 1, cells := 0, slots := 0, locals := 12 } : Room).slots) := by
  refine MetFree.of_bodySF (plainFor_of_name own_pn1) hisR ?_
  intro p e s m args below meth c s₁ Bd hml0 hP hK
  obtain ⟨rfl, hZ, hh⟩ := hP
  have X0 : Stand p l e ({ frames := 1, cells := 0, slots := 0, locals := 12 } : Room) s m #[(.ref x0), (.int x1), (.int x2)] below meth c s₁ [] 0 0 := Stand.of_body Bd
  have e0 : s₁.heap = h0 := by rw [← hh, Bd.state]; rfl
  refine own_back (s := s) (fun t k => castTop (own_ef1 m x0 x1 x2) k) ?_
  exact own_l1_0 X0 Bd.exec hZ hw Bd.bytes hml0 (findClass_of_methodNamed Bd.named) Bd.returns (BodyLoose.notSynchronized Bd) e0 (Fr.nil n0) Z0 x0 oc x1 x2 rfl VA hat
/-! body 2: com/example/frame_to_method/frametomethod/Utf8.sequenceSize:([BII)I -/
theorem own_d2_0 : decode prog_134_method_2_code 0 = .ok (.aload_n 0, 1) := by decide +kernel
theorem own_d2_1 : decode prog_134_method_2_code 1 = .ok (.iload_n 1, 1) := by decide +kernel
theorem own_d2_2 : decode prog_134_method_2_code 2 = .ok (.baload, 1) := by decide +kernel
theorem own_d2_3 : decode prog_134_method_2_code 3 = .ok (.sipush 255, 3) := by decide +kernel
theorem own_d2_6 : decode prog_134_method_2_code 6 = .ok (.iand, 1) := by decide +kernel
theorem own_d2_7 : decode prog_134_method_2_code 7 = .ok (.istore_n 3, 1) := by decide +kernel
theorem own_d2_8 : decode prog_134_method_2_code 8 = .ok (.iload_n 3, 1) := by decide +kernel
theorem own_d2_9 : decode prog_134_method_2_code 9 = .ok (.sipush 194, 3) := by decide +kernel
theorem own_d2_12 : decode prog_134_method_2_code 12 = .ok (.if_icmp .lt 10, 3) := by decide +kernel
theorem own_d2_15 : decode prog_134_method_2_code 15 = .ok (.iload_n 3, 1) := by decide +kernel
theorem own_d2_16 : decode prog_134_method_2_code 16 = .ok (.sipush 244, 3) := by decide +kernel
theorem own_d2_19 : decode prog_134_method_2_code 19 = .ok (.if_icmp .le 5, 3) := by decide +kernel
theorem own_d2_22 : decode prog_134_method_2_code 22 = .ok (.iconst 0, 1) := by decide +kernel
theorem own_d2_23 : decode prog_134_method_2_code 23 = .ok (.ireturn, 1) := by decide +kernel
theorem own_d2_24 : decode prog_134_method_2_code 24 = .ok (.iload_n 3, 1) := by decide +kernel
theorem own_d2_25 : decode prog_134_method_2_code 25 = .ok (.sipush 224, 3) := by decide +kernel
theorem own_d2_28 : decode prog_134_method_2_code 28 = .ok (.if_icmp .ge 7, 3) := by decide +kernel
theorem own_d2_31 : decode prog_134_method_2_code 31 = .ok (.iconst 2, 1) := by decide +kernel
theorem own_d2_32 : decode prog_134_method_2_code 32 = .ok (.goto 15, 3) := by decide +kernel
theorem own_d2_35 : decode prog_134_method_2_code 35 = .ok (.iload_n 3, 1) := by decide +kernel
theorem own_d2_36 : decode prog_134_method_2_code 36 = .ok (.sipush 240, 3) := by decide +kernel
theorem own_d2_39 : decode prog_134_method_2_code 39 = .ok (.if_icmp .ge 7, 3) := by decide +kernel
theorem own_d2_42 : decode prog_134_method_2_code 42 = .ok (.iconst 3, 1) := by decide +kernel
theorem own_d2_43 : decode prog_134_method_2_code 43 = .ok (.goto 4, 3) := by decide +kernel
theorem own_d2_46 : decode prog_134_method_2_code 46 = .ok (.iconst 4, 1) := by decide +kernel
theorem own_d2_47 : decode prog_134_method_2_code 47 = .ok (.istore 4, 2) := by decide +kernel
theorem own_d2_49 : decode prog_134_method_2_code 49 = .ok (.iload_n 3, 1) := by decide +kernel
theorem own_d2_50 : decode prog_134_method_2_code 50 = .ok (.sipush 224, 3) := by decide +kernel
theorem own_d2_53 : decode prog_134_method_2_code 53 = .ok (.if_icmp .ne 9, 3) := by decide +kernel
theorem own_d2_56 : decode prog_134_method_2_code 56 = .ok (.sipush 160, 3) := by decide +kernel
theorem own_d2_59 : decode prog_134_method_2_code 59 = .ok (.goto 19, 3) := by decide +kernel
theorem own_d2_62 : decode prog_134_method_2_code 62 = .ok (.iload_n 3, 1) := by decide +kernel
theorem own_d2_63 : decode prog_134_method_2_code 63 = .ok (.sipush 240, 3) := by decide +kernel
theorem own_d2_66 : decode prog_134_method_2_code 66 = .ok (.if_icmp .ne 9, 3) := by decide +kernel
theorem own_d2_69 : decode prog_134_method_2_code 69 = .ok (.sipush 144, 3) := by decide +kernel
theorem own_d2_72 : decode prog_134_method_2_code 72 = .ok (.goto 6, 3) := by decide +kernel
theorem own_d2_75 : decode prog_134_method_2_code 75 = .ok (.sipush 128, 3) := by decide +kernel
theorem own_d2_78 : decode prog_134_method_2_code 78 = .ok (.istore 5, 2) := by decide +kernel
theorem own_d2_80 : decode prog_134_method_2_code 80 = .ok (.iload_n 3, 1) := by decide +kernel
theorem own_d2_81 : decode prog_134_method_2_code 81 = .ok (.sipush 237, 3) := by decide +kernel
theorem own_d2_84 : decode prog_134_method_2_code 84 = .ok (.if_icmp .ne 9, 3) := by decide +kernel
theorem own_d2_87 : decode prog_134_method_2_code 87 = .ok (.sipush 159, 3) := by decide +kernel
theorem own_d2_90 : decode prog_134_method_2_code 90 = .ok (.goto 19, 3) := by decide +kernel
theorem own_d2_93 : decode prog_134_method_2_code 93 = .ok (.iload_n 3, 1) := by decide +kernel
theorem own_d2_94 : decode prog_134_method_2_code 94 = .ok (.sipush 244, 3) := by decide +kernel
theorem own_d2_97 : decode prog_134_method_2_code 97 = .ok (.if_icmp .ne 9, 3) := by decide +kernel
theorem own_d2_100 : decode prog_134_method_2_code 100 = .ok (.sipush 143, 3) := by decide +kernel
theorem own_d2_103 : decode prog_134_method_2_code 103 = .ok (.goto 6, 3) := by decide +kernel
theorem own_d2_106 : decode prog_134_method_2_code 106 = .ok (.sipush 191, 3) := by decide +kernel
theorem own_d2_109 : decode prog_134_method_2_code 109 = .ok (.istore 6, 2) := by decide +kernel
theorem own_d2_111 : decode prog_134_method_2_code 111 = .ok (.iload_n 2, 1) := by decide +kernel
theorem own_d2_112 : decode prog_134_method_2_code 112 = .ok (.iload_n 1, 1) := by decide +kernel
theorem own_d2_113 : decode prog_134_method_2_code 113 = .ok (.isub, 1) := by decide +kernel
theorem own_d2_114 : decode prog_134_method_2_code 114 = .ok (.iload 4, 2) := by decide +kernel
theorem own_d2_116 : decode prog_134_method_2_code 116 = .ok (.if_icmp .ge 5, 3) := by decide +kernel
theorem own_d2_119 : decode prog_134_method_2_code 119 = .ok (.iconst 0, 1) := by decide +kernel
theorem own_d2_120 : decode prog_134_method_2_code 120 = .ok (.ireturn, 1) := by decide +kernel
theorem own_d2_121 : decode prog_134_method_2_code 121 = .ok (.aload_n 0, 1) := by decide +kernel
theorem own_d2_122 : decode prog_134_method_2_code 122 = .ok (.iload_n 1, 1) := by decide +kernel
theorem own_d2_123 : decode prog_134_method_2_code 123 = .ok (.iconst 1, 1) := by decide +kernel
theorem own_d2_124 : decode prog_134_method_2_code 124 = .ok (.iadd, 1) := by decide +kernel
theorem own_d2_125 : decode prog_134_method_2_code 125 = .ok (.baload, 1) := by decide +kernel
theorem own_d2_126 : decode prog_134_method_2_code 126 = .ok (.sipush 255, 3) := by decide +kernel
theorem own_d2_129 : decode prog_134_method_2_code 129 = .ok (.iand, 1) := by decide +kernel
theorem own_d2_130 : decode prog_134_method_2_code 130 = .ok (.istore 7, 2) := by decide +kernel
theorem own_d2_132 : decode prog_134_method_2_code 132 = .ok (.iload 7, 2) := by decide +kernel
theorem own_d2_134 : decode prog_134_method_2_code 134 = .ok (.iload 5, 2) := by decide +kernel
theorem own_d2_136 : decode prog_134_method_2_code 136 = .ok (.if_icmp .lt 10, 3) := by decide +kernel
theorem own_d2_139 : decode prog_134_method_2_code 139 = .ok (.iload 7, 2) := by decide +kernel
theorem own_d2_141 : decode prog_134_method_2_code 141 = .ok (.iload 6, 2) := by decide +kernel
theorem own_d2_143 : decode prog_134_method_2_code 143 = .ok (.if_icmp .le 5, 3) := by decide +kernel
theorem own_d2_146 : decode prog_134_method_2_code 146 = .ok (.iconst 0, 1) := by decide +kernel
theorem own_d2_147 : decode prog_134_method_2_code 147 = .ok (.ireturn, 1) := by decide +kernel
theorem own_d2_148 : decode prog_134_method_2_code 148 = .ok (.iload_n 1, 1) := by decide +kernel
theorem own_d2_149 : decode prog_134_method_2_code 149 = .ok (.iconst 2, 1) := by decide +kernel
theorem own_d2_150 : decode prog_134_method_2_code 150 = .ok (.iadd, 1) := by decide +kernel
theorem own_d2_151 : decode prog_134_method_2_code 151 = .ok (.istore 8, 2) := by decide +kernel
theorem own_d2_153 : decode prog_134_method_2_code 153 = .ok (.iload 8, 2) := by decide +kernel
theorem own_d2_155 : decode prog_134_method_2_code 155 = .ok (.iload_n 1, 1) := by decide +kernel
theorem own_d2_156 : decode prog_134_method_2_code 156 = .ok (.iload 4, 2) := by decide +kernel
theorem own_d2_158 : decode prog_134_method_2_code 158 = .ok (.iadd, 1) := by decide +kernel
theorem own_d2_159 : decode prog_134_method_2_code 159 = .ok (.if_icmp .ge 37, 3) := by decide +kernel
theorem own_d2_162 : decode prog_134_method_2_code 162 = .ok (.aload_n 0, 1) := by decide +kernel
theorem own_d2_163 : decode prog_134_method_2_code 163 = .ok (.iload 8, 2) := by decide +kernel
theorem own_d2_165 : decode prog_134_method_2_code 165 = .ok (.baload, 1) := by decide +kernel
theorem own_d2_166 : decode prog_134_method_2_code 166 = .ok (.sipush 255, 3) := by decide +kernel
theorem own_d2_169 : decode prog_134_method_2_code 169 = .ok (.iand, 1) := by decide +kernel
theorem own_d2_170 : decode prog_134_method_2_code 170 = .ok (.istore 9, 2) := by decide +kernel
theorem own_d2_172 : decode prog_134_method_2_code 172 = .ok (.iload 9, 2) := by decide +kernel
theorem own_d2_174 : decode prog_134_method_2_code 174 = .ok (.sipush 128, 3) := by decide +kernel
theorem own_d2_177 : decode prog_134_method_2_code 177 = .ok (.if_icmp .lt 11, 3) := by decide +kernel
theorem own_d2_180 : decode prog_134_method_2_code 180 = .ok (.iload 9, 2) := by decide +kernel
theorem own_d2_182 : decode prog_134_method_2_code 182 = .ok (.sipush 191, 3) := by decide +kernel
theorem own_d2_185 : decode prog_134_method_2_code 185 = .ok (.if_icmp .le 5, 3) := by decide +kernel
theorem own_d2_188 : decode prog_134_method_2_code 188 = .ok (.iconst 0, 1) := by decide +kernel
theorem own_d2_189 : decode prog_134_method_2_code 189 = .ok (.ireturn, 1) := by decide +kernel
theorem own_d2_190 : decode prog_134_method_2_code 190 = .ok (.iinc 8 1, 3) := by decide +kernel
theorem own_d2_193 : decode prog_134_method_2_code 193 = .ok (.goto (-40), 3) := by decide +kernel
theorem own_d2_196 : decode prog_134_method_2_code 196 = .ok (.iload 4, 2) := by decide +kernel
theorem own_d2_198 : decode prog_134_method_2_code 198 = .ok (.ireturn, 1) := by decide +kernel
def own_f2_109 (oc : Nat → Int32) (x1 : Int32) (i2 : Int32) (i3 : Int32) (i4 : Int32) (i5 : Int32) (t0 : Int32) : Int32 := (if (i2 - x1) < i4 then (0 : Int32) else (if ((oc (x1 + (1 : Int32)).toNatClampNeg) &&& (255 : Int32)) < i5 then (0 : Int32) else (if t0 < ((oc (x1 + (1 : Int32)).toNatClampNeg) &&& (255 : Int32)) then (0 : Int32) else (if i4 = (2 : Int32) then (if x1 = (0 : Int32) then (2 : Int32) else (2 : Int32)) else (if i4 = (3 : Int32) then (if x1 = (0 : Int32) then (if ((oc ((0 : Int32) + (2 : Int32)).toNatClampNeg) &&& (255 : Int32)) < (128 : Int32) then (0 : Int32) else (if (191 : Int32) < ((oc ((0 : Int32) + (2 : Int32)).toNatClampNeg) &&& (255 : Int32)) then (0 : Int32) else (3 : Int32))) else (if ((oc ((1 : Int32) + (2 : Int32)).toNatClampNeg) &&& (255 : Int32)) < (128 : Int32) then (0 : Int32) else (if (191 : Int32) < ((oc ((1 : Int32) + (2 : Int32)).toNatClampNeg) &&& (255 : Int32)) then (0 : Int32) else (3 : Int32)))) else (if x1 = (0 : Int32) then (if ((oc ((0 : Int32) + (2 : Int32)).toNatClampNeg) &&& (255 : Int32)) < (128 : Int32) then (0 : Int32) else (if (191 : Int32) < ((oc ((0 : Int32) + (2 : Int32)).toNatClampNeg) &&& (255 : Int32)) then (0 : Int32) else (if ((oc (((0 : Int32) + (2 : Int32)) + (1 : Int32)).toNatClampNeg) &&& (255 : Int32)) < (128 : Int32) then (0 : Int32) else (if (191 : Int32) < ((oc (((0 : Int32) + (2 : Int32)) + (1 : Int32)).toNatClampNeg) &&& (255 : Int32)) then (0 : Int32) else (4 : Int32))))) else (if ((oc ((1 : Int32) + (2 : Int32)).toNatClampNeg) &&& (255 : Int32)) < (128 : Int32) then (0 : Int32) else (if (191 : Int32) < ((oc ((1 : Int32) + (2 : Int32)).toNatClampNeg) &&& (255 : Int32)) then (0 : Int32) else (if ((oc (((1 : Int32) + (2 : Int32)) + (1 : Int32)).toNatClampNeg) &&& (255 : Int32)) < (128 : Int32) then (0 : Int32) else (if (191 : Int32) < ((oc (((1 : Int32) + (2 : Int32)) + (1 : Int32)).toNatClampNeg) &&& (255 : Int32)) then (0 : Int32) else (4 : Int32)))))))))))
def own_f2_78 (oc : Nat → Int32) (x1 : Int32) (i2 : Int32) (i3 : Int32) (i4 : Int32) (t0 : Int32) : Int32 := (if i3 = (237 : Int32) then (own_f2_109 oc x1 i2 i3 i4 t0 (159 : Int32)) else (if i3 = (244 : Int32) then (own_f2_109 oc x1 i2 i3 i4 t0 (143 : Int32)) else (own_f2_109 oc x1 i2 i3 i4 t0 (191 : Int32))))
def own_f2_47 (oc : Nat → Int32) (x1 : Int32) (i2 : Int32) (i3 : Int32) (t0 : Int32) : Int32 := (if i3 = (224 : Int32) then (own_f2_78 oc x1 i2 i3 t0 (160 : Int32)) else (if i3 = (240 : Int32) then (own_f2_78 oc x1 i2 i3 t0 (144 : Int32)) else (own_f2_78 oc x1 i2 i3 t0 (128 : Int32))))
def own_f2_0 (oc : Nat → Int32) (x1 : Int32) (x2 : Int32) : Int32 := (if ((oc x1.toNatClampNeg) &&& (255 : Int32)) < (194 : Int32) then (0 : Int32) else (if (244 : Int32) < ((oc x1.toNatClampNeg) &&& (255 : Int32)) then (0 : Int32) else (if ((oc x1.toNatClampNeg) &&& (255 : Int32)) < (224 : Int32) then (own_f2_47 oc x1 x2 ((oc x1.toNatClampNeg) &&& (255 : Int32)) (2 : Int32)) else (if ((oc x1.toNatClampNeg) &&& (255 : Int32)) < (240 : Int32) then (own_f2_47 oc x1 x2 ((oc x1.toNatClampNeg) &&& (255 : Int32)) (3 : Int32)) else (own_f2_47 oc x1 x2 ((oc x1.toNatClampNeg) &&& (255 : Int32)) (4 : Int32))))))
set_option maxRecDepth 65536 in
set_option maxHeartbeats 4000000 in
theorem own_l2_109 {p : Program} {l : Launch} {e : Env} {s : State} {m : MethodId} {args : Array Value} {below : List Frame} {meth : Method} {c : Code} {T : State} {locs : List Loc} {Z : State} {a0 : Array Value} {h0 : Heap} {n0 : Nat}
    (X : Stand p l e ({ frames := 0, cells := 0, slots := 0, locals := 0 } : Room) s m args below meth c T locs 0 0) (hx : p.tables.exec = Jvm.exec) (hZ : Z.Warmed39 s.vm) (hw : ∀ d ∈ tables_1, d.before a0 Z = true) (hby : c.code = prog_134_method_2_code) (hml : c.maxLocals = 10) (hown : s.vm.findClass "com/example/frame_to_method/frametomethod/Utf8" = some m.cls) (hret : meth.sig.returnType = some .int) (hlk : meth.locks = false) (e0 : T.heap = h0) (N : Fr n0 locs) (Z0 : n0 ≤ h0.size)
    (x0 : Addr) (oc : Nat → Int32) (x1 : Int32) (i2 : Int32) (i3 : Int32) (i4 : Int32) (i5 : Int32) (t0 : Int32) {r : Int32} (hR : r = own_f2_109 oc x1 i2 i3 i4 i5 t0) (VA : own_VA Z h0 x0 .byte 5 (fun k => .int (oc k))) (hat : x1 = (0 : Int32) ∨ x1 = (1 : Int32)) (hs : i4 = (2 : Int32) ∨ i4 = (3 : Int32) ∨ i4 = (4 : Int32)) : own_Go p e below s ({ frames := 0, cells := 0, slots := 0, locals := 0 } : Room).cells ({ frames := 0, cells := 0, slots := 0, locals := 0 } : Room).slots (own_QP (.int r) h0 n0) (T.setTop (mkF m 109 #[.val (.ref x0), .val (.int x1), .val (.int i2), .val (.int i3), .val (.int i4), .val (.int i5), .unset, .unset, .unset, .unset] [(.int t0)])) := by
  unfold own_f2_109 at hR
  refine own_back (fun t k => XS.istore X.here hx rfl (hb hby own_d2_109) rfl (l' := #[.val (.ref x0), .val (.int x1), .val (.int i2), .val (.int i3), .val (.int i4), .val (.int i5), .val (.int t0), .unset, .unset, .unset]) rfl k) ?_
  show own_Go _ _ _ _ _ _ _ (T.setTop (mkF m 111 #[.val (.ref x0), .val (.int x1), .val (.int i2), .val (.int i3), .val (.int i4), .val (.int i5), .val (.int t0), .unset, .unset, .unset] []))
  refine own_back (fun t k => XS.iloadN X.here hx rfl (hb hby own_d2_111) rfl k) ?_
  show own_Go _ _ _ _ _ _ _ (T.setTop (mkF m 112 #[.val (.ref x0), .val (.int x1), .val (.int i2), .val (.int i3), .val (.int i4), .val (.int i5), .val (.int t0), .unset, .unset, .unset] [(.int i2)]))
  refine own_back (fun t k => XS.iloadN X.here hx rfl (hb hby own_d2_112) rfl k) ?_
  show own_Go _ _ _ _ _ _ _ (T.setTop (mkF m 113 #[.val (.ref x0), .val (.int x1), .val (.int i2), .val (.int i3), .val (.int i4), .val (.int i5), .val (.int t0), .unset, .unset, .unset] [(.int x1), (.int i2)]))
  refine own_back (fun t k => XS.isub X.here hx rfl (hb hby own_d2_113) rfl k) ?_
  show own_Go _ _ _ _ _ _ _ (T.setTop (mkF m 114 #[.val (.ref x0), .val (.int x1), .val (.int i2), .val (.int i3), .val (.int i4), .val (.int i5), .val (.int t0), .unset, .unset, .unset] [(.int (i2 - x1))]))
  refine own_back (fun t k => XS.iload X.here hx rfl (hb hby own_d2_114) rfl k) ?_
  show own_Go _ _ _ _ _ _ _ (T.setTop (mkF m 116 #[.val (.ref x0), .val (.int x1), .val (.int i2), .val (.int i3), .val (.int i4), .val (.int i5), .val (.int t0), .unset, .unset, .unset] [(.int i4), (.int (i2 - x1))]))
  by_cases hc116 : (i2 - x1) < i4
  · rw [if_pos hc116] at hR
    refine own_back (fun t k => XS.icmpNo X.here hx rfl (hb hby own_d2_116) rfl (tlt hc116).2.1 k) ?_
    show own_Go _ _ _ _ _ _ _ (T.setTop (mkF m 119 #[.val (.ref x0), .val (.int x1), .val (.int i2), .val (.int i3), .val (.int i4), .val (.int i5), .val (.int t0), .unset, .unset, .unset] []))
    refine own_back (fun t k => XS.iconst X.here hx rfl (hb hby own_d2_119) k) ?_
    show own_Go _ _ _ _ _ _ _ (T.setTop (mkF m 120 #[.val (.ref x0), .val (.int x1), .val (.int i2), .val (.int i3), .val (.int i4), .val (.int i5), .val (.int t0), .unset, .unset, .unset] [(.int (0 : Int32))]))
    subst hR
    exact own_retI X hx hret (hb hby own_d2_120) hlk ⟨rfl, N, e0⟩ (by decide) (by decide)
  · rw [if_neg hc116] at hR
    refine own_back (fun t k => XS.icmpYes X.here hx rfl (pc0 := 116) (pc' := 121) rfl (hb hby own_d2_116) rfl (flt hc116).2.1 (by decide) (by decide) k) ?_
    show own_Go _ _ _ _ _ _ _ (T.setTop (mkF m 121 #[.val (.ref x0), .val (.int x1), .val (.int i2), .val (.int i3), .val (.int i4), .val (.int i5), .val (.int t0), .unset, .unset, .unset] []))
    refine own_back (fun t k => XS.aloadN X.here hx rfl (hb hby own_d2_121) rfl rfl k) ?_
    show own_Go _ _ _ _ _ _ _ (T.setTop (mkF m 122 #[.val (.ref x0), .val (.int x1), .val (.int i2), .val (.int i3), .val (.int i4), .val (.int i5), .val (.int t0), .unset, .unset, .unset] [(.ref x0)]))
    refine own_back (fun t k => XS.iloadN X.here hx rfl (hb hby own_d2_122) rfl k) ?_
    show own_Go _ _ _ _ _ _ _ (T.setTop (mkF m 123 #[.val (.ref x0), .val (.int x1), .val (.int i2), .val (.int i3), .val (.int i4), .val (.int i5), .val (.int t0), .unset, .unset, .unset] [(.int x1), (.ref x0)]))
    refine own_back (fun t k => XS.iconst X.here hx rfl (hb hby own_d2_123) k) ?_
    show own_Go _ _ _ _ _ _ _ (T.setTop (mkF m 124 #[.val (.ref x0), .val (.int x1), .val (.int i2), .val (.int i3), .val (.int i4), .val (.int i5), .val (.int t0), .unset, .unset, .unset] [(.int (1 : Int32)), (.int x1), (.ref x0)]))
    refine own_back (fun t k => XS.iadd X.here hx rfl (hb hby own_d2_124) rfl k) ?_
    show own_Go _ _ _ _ _ _ _ (T.setTop (mkF m 125 #[.val (.ref x0), .val (.int x1), .val (.int i2), .val (.int i3), .val (.int i4), .val (.int i5), .val (.int t0), .unset, .unset, .unset] [(.int (x1 + (1 : Int32))), (.ref x0)]))
    refine own_back (fun t k => own_ldB X hx hZ e0 VA (j := (x1 + (1 : Int32))) (w := (oc (x1 + (1 : Int32)).toNatClampNeg)) (own_ix1 hat) rfl (g := (mkF m 125 #[.val (.ref x0), .val (.int x1), .val (.int i2), .val (.int i3), .val (.int i4), .val (.int i5), .val (.int t0), .unset, .unset, .unset] [(.int (x1 + (1 : Int32))), (.ref x0)])) rfl rfl (hb hby own_d2_125) t k) ?_
    show own_Go _ _ _ _ _ _ _ (T.setTop (mkF m 126 #[.val (.ref x0), .val (.int x1), .val (.int i2), .val (.int i3), .val (.int i4), .val (.int i5), .val (.int t0), .unset, .unset, .unset] [(.int (oc (x1 + (1 : Int32)).toNatClampNeg))]))
    refine own_back (fun t k => XS.sipush X.here hx rfl (hb hby own_d2_126) k) ?_
    show own_Go _ _ _ _ _ _ _ (T.setTop (mkF m 129 #[.val (.ref x0), .val (.int x1), .val (.int i2), .val (.int i3), .val (.int i4), .val (.int i5), .val (.int t0), .unset, .unset, .unset] [(.int (255 : Int32)), (.int (oc (x1 + (1 : Int32)).toNatClampNeg))]))
    refine own_back (fun t k => XS.iand X.here hx rfl (hb hby own_d2_129) rfl k) ?_
    show own_Go _ _ _ _ _ _ _ (T.setTop (mkF m 130 #[.val (.ref x0), .val (.int x1), .val (.int i2), .val (.int i3), .val (.int i4), .val (.int i5), .val (.int t0), .unset, .unset, .unset] [(.int ((oc (x1 + (1 : Int32)).toNatClampNeg) &&& (255 : Int32)))]))
    refine own_back (fun t k => XS.istore X.here hx rfl (hb hby own_d2_130) rfl (l' := #[.val (.ref x0), .val (.int x1), .val (.int i2), .val (.int i3), .val (.int i4), .val (.int i5), .val (.int t0), .val (.int ((oc (x1 + (1 : Int32)).toNatClampNeg) &&& (255 : Int32))), .unset, .unset]) rfl k) ?_
    show own_Go _ _ _ _ _ _ _ (T.setTop (mkF m 132 #[.val (.ref x0), .val (.int x1), .val (.int i2), .val (.int i3), .val (.int i4), .val (.int i5), .val (.int t0), .val (.int ((oc (x1 + (1 : Int32)).toNatClampNeg) &&& (255 : Int32))), .unset, .unset] []))
    refine own_back (fun t k => XS.iload X.here hx rfl (hb hby own_d2_132) rfl k) ?_
    show own_Go _ _ _ _ _ _ _ (T.setTop (mkF m 134 #[.val (.ref x0), .val (.int x1), .val (.int i2), .val (.int i3), .val (.int i4), .val (.int i5), .val (.int t0), .val (.int ((oc (x1 + (1 : Int32)).toNatClampNeg) &&& (255 : Int32))), .unset, .unset] [(.int ((oc (x1 + (1 : Int32)).toNatClampNeg) &&& (255 : Int32)))]))
    refine own_back (fun t k => XS.iload X.here hx rfl (hb hby own_d2_134) rfl k) ?_
    show own_Go _ _ _ _ _ _ _ (T.setTop (mkF m 136 #[.val (.ref x0), .val (.int x1), .val (.int i2), .val (.int i3), .val (.int i4), .val (.int i5), .val (.int t0), .val (.int ((oc (x1 + (1 : Int32)).toNatClampNeg) &&& (255 : Int32))), .unset, .unset] [(.int i5), (.int ((oc (x1 + (1 : Int32)).toNatClampNeg) &&& (255 : Int32)))]))
    by_cases hc136 : ((oc (x1 + (1 : Int32)).toNatClampNeg) &&& (255 : Int32)) < i5
    · rw [if_pos hc136] at hR
      refine own_back (fun t k => XS.icmpYes X.here hx rfl (pc0 := 136) (pc' := 146) rfl (hb hby own_d2_136) rfl (tlt hc136).1 (by decide) (by decide) k) ?_
      show own_Go _ _ _ _ _ _ _ (T.setTop (mkF m 146 #[.val (.ref x0), .val (.int x1), .val (.int i2), .val (.int i3), .val (.int i4), .val (.int i5), .val (.int t0), .val (.int ((oc (x1 + (1 : Int32)).toNatClampNeg) &&& (255 : Int32))), .unset, .unset] []))
      refine own_back (fun t k => XS.iconst X.here hx rfl (hb hby own_d2_146) k) ?_
      show own_Go _ _ _ _ _ _ _ (T.setTop (mkF m 147 #[.val (.ref x0), .val (.int x1), .val (.int i2), .val (.int i3), .val (.int i4), .val (.int i5), .val (.int t0), .val (.int ((oc (x1 + (1 : Int32)).toNatClampNeg) &&& (255 : Int32))), .unset, .unset] [(.int (0 : Int32))]))
      subst hR
      exact own_retI X hx hret (hb hby own_d2_147) hlk ⟨rfl, N, e0⟩ (by decide) (by decide)
    · rw [if_neg hc136] at hR
      refine own_back (fun t k => XS.icmpNo X.here hx rfl (hb hby own_d2_136) rfl (flt hc136).1 k) ?_
      show own_Go _ _ _ _ _ _ _ (T.setTop (mkF m 139 #[.val (.ref x0), .val (.int x1), .val (.int i2), .val (.int i3), .val (.int i4), .val (.int i5), .val (.int t0), .val (.int ((oc (x1 + (1 : Int32)).toNatClampNeg) &&& (255 : Int32))), .unset, .unset] []))
      refine own_back (fun t k => XS.iload X.here hx rfl (hb hby own_d2_139) rfl k) ?_
      show own_Go _ _ _ _ _ _ _ (T.setTop (mkF m 141 #[.val (.ref x0), .val (.int x1), .val (.int i2), .val (.int i3), .val (.int i4), .val (.int i5), .val (.int t0), .val (.int ((oc (x1 + (1 : Int32)).toNatClampNeg) &&& (255 : Int32))), .unset, .unset] [(.int ((oc (x1 + (1 : Int32)).toNatClampNeg) &&& (255 : Int32)))]))
      refine own_back (fun t k => XS.iload X.here hx rfl (hb hby own_d2_141) rfl k) ?_
      show own_Go _ _ _ _ _ _ _ (T.setTop (mkF m 143 #[.val (.ref x0), .val (.int x1), .val (.int i2), .val (.int i3), .val (.int i4), .val (.int i5), .val (.int t0), .val (.int ((oc (x1 + (1 : Int32)).toNatClampNeg) &&& (255 : Int32))), .unset, .unset] [(.int t0), (.int ((oc (x1 + (1 : Int32)).toNatClampNeg) &&& (255 : Int32)))]))
      by_cases hc143 : t0 < ((oc (x1 + (1 : Int32)).toNatClampNeg) &&& (255 : Int32))
      · rw [if_pos hc143] at hR
        refine own_back (fun t k => XS.icmpNo X.here hx rfl (hb hby own_d2_143) rfl (tlt hc143).2.2.2 k) ?_
        show own_Go _ _ _ _ _ _ _ (T.setTop (mkF m 146 #[.val (.ref x0), .val (.int x1), .val (.int i2), .val (.int i3), .val (.int i4), .val (.int i5), .val (.int t0), .val (.int ((oc (x1 + (1 : Int32)).toNatClampNeg) &&& (255 : Int32))), .unset, .unset] []))
        refine own_back (fun t k => XS.iconst X.here hx rfl (hb hby own_d2_146) k) ?_
        show own_Go _ _ _ _ _ _ _ (T.setTop (mkF m 147 #[.val (.ref x0), .val (.int x1), .val (.int i2), .val (.int i3), .val (.int i4), .val (.int i5), .val (.int t0), .val (.int ((oc (x1 + (1 : Int32)).toNatClampNeg) &&& (255 : Int32))), .unset, .unset] [(.int (0 : Int32))]))
        subst hR
        exact own_retI X hx hret (hb hby own_d2_147) hlk ⟨rfl, N, e0⟩ (by decide) (by decide)
      · rw [if_neg hc143] at hR
        refine own_back (fun t k => XS.icmpYes X.here hx rfl (pc0 := 143) (pc' := 148) rfl (hb hby own_d2_143) rfl (flt hc143).2.2.2 (by decide) (by decide) k) ?_
        show own_Go _ _ _ _ _ _ _ (T.setTop (mkF m 148 #[.val (.ref x0), .val (.int x1), .val (.int i2), .val (.int i3), .val (.int i4), .val (.int i5), .val (.int t0), .val (.int ((oc (x1 + (1 : Int32)).toNatClampNeg) &&& (255 : Int32))), .unset, .unset] []))
        by_cases hqi4_2 : i4 = (2 : Int32)
        · rw [if_pos hqi4_2] at hR
          subst hqi4_2
          by_cases hqx1_0 : x1 = (0 : Int32)
          · rw [if_pos hqx1_0] at hR
            subst hqx1_0
            refine own_back (fun t k => XS.iloadN X.here hx rfl (hb hby own_d2_148) rfl k) ?_
            show own_Go _ _ _ _ _ _ _ (T.setTop (mkF m 149 #[.val (.ref x0), .val (.int (0 : Int32)), .val (.int i2), .val (.int i3), .val (.int (2 : Int32)), .val (.int i5), .val (.int t0), .val (.int ((oc ((0 : Int32) + (1 : Int32)).toNatClampNeg) &&& (255 : Int32))), .unset, .unset] [(.int (0 : Int32))]))
            refine own_back (fun t k => XS.iconst X.here hx rfl (hb hby own_d2_149) k) ?_
            show own_Go _ _ _ _ _ _ _ (T.setTop (mkF m 150 #[.val (.ref x0), .val (.int (0 : Int32)), .val (.int i2), .val (.int i3), .val (.int (2 : Int32)), .val (.int i5), .val (.int t0), .val (.int ((oc ((0 : Int32) + (1 : Int32)).toNatClampNeg) &&& (255 : Int32))), .unset, .unset] [(.int (2 : Int32)), (.int (0 : Int32))]))
            refine own_back (fun t k => XS.iadd X.here hx rfl (hb hby own_d2_150) rfl k) ?_
            show own_Go _ _ _ _ _ _ _ (T.setTop (mkF m 151 #[.val (.ref x0), .val (.int (0 : Int32)), .val (.int i2), .val (.int i3), .val (.int (2 : Int32)), .val (.int i5), .val (.int t0), .val (.int ((oc ((0 : Int32) + (1 : Int32)).toNatClampNeg) &&& (255 : Int32))), .unset, .unset] [(.int ((0 : Int32) + (2 : Int32)))]))
            refine own_back (fun t k => XS.istore X.here hx rfl (hb hby own_d2_151) rfl (l' := #[.val (.ref x0), .val (.int (0 : Int32)), .val (.int i2), .val (.int i3), .val (.int (2 : Int32)), .val (.int i5), .val (.int t0), .val (.int ((oc ((0 : Int32) + (1 : Int32)).toNatClampNeg) &&& (255 : Int32))), .val (.int ((0 : Int32) + (2 : Int32))), .unset]) rfl k) ?_
            show own_Go _ _ _ _ _ _ _ (T.setTop (mkF m 153 #[.val (.ref x0), .val (.int (0 : Int32)), .val (.int i2), .val (.int i3), .val (.int (2 : Int32)), .val (.int i5), .val (.int t0), .val (.int ((oc ((0 : Int32) + (1 : Int32)).toNatClampNeg) &&& (255 : Int32))), .val (.int ((0 : Int32) + (2 : Int32))), .unset] []))
            refine own_back (fun t k => XS.iload X.here hx rfl (hb hby own_d2_153) rfl k) ?_
            show own_Go _ _ _ _ _ _ _ (T.setTop (mkF m 155 #[.val (.ref x0), .val (.int (0 : Int32)), .val (.int i2), .val (.int i3), .val (.int (2 : Int32)), .val (.int i5), .val (.int t0), .val (.int ((oc ((0 : Int32) + (1 : Int32)).toNatClampNeg) &&& (255 : Int32))), .val (.int ((0 : Int32) + (2 : Int32))), .unset] [(.int ((0 : Int32) + (2 : Int32)))]))
            refine own_back (fun t k => XS.iloadN X.here hx rfl (hb hby own_d2_155) rfl k) ?_
            show own_Go _ _ _ _ _ _ _ (T.setTop (mkF m 156 #[.val (.ref x0), .val (.int (0 : Int32)), .val (.int i2), .val (.int i3), .val (.int (2 : Int32)), .val (.int i5), .val (.int t0), .val (.int ((oc ((0 : Int32) + (1 : Int32)).toNatClampNeg) &&& (255 : Int32))), .val (.int ((0 : Int32) + (2 : Int32))), .unset] [(.int (0 : Int32)), (.int ((0 : Int32) + (2 : Int32)))]))
            refine own_back (fun t k => XS.iload X.here hx rfl (hb hby own_d2_156) rfl k) ?_
            show own_Go _ _ _ _ _ _ _ (T.setTop (mkF m 158 #[.val (.ref x0), .val (.int (0 : Int32)), .val (.int i2), .val (.int i3), .val (.int (2 : Int32)), .val (.int i5), .val (.int t0), .val (.int ((oc ((0 : Int32) + (1 : Int32)).toNatClampNeg) &&& (255 : Int32))), .val (.int ((0 : Int32) + (2 : Int32))), .unset] [(.int (2 : Int32)), (.int (0 : Int32)), (.int ((0 : Int32) + (2 : Int32)))]))
            refine own_back (fun t k => XS.iadd X.here hx rfl (hb hby own_d2_158) rfl k) ?_
            show own_Go _ _ _ _ _ _ _ (T.setTop (mkF m 159 #[.val (.ref x0), .val (.int (0 : Int32)), .val (.int i2), .val (.int i3), .val (.int (2 : Int32)), .val (.int i5), .val (.int t0), .val (.int ((oc ((0 : Int32) + (1 : Int32)).toNatClampNeg) &&& (255 : Int32))), .val (.int ((0 : Int32) + (2 : Int32))), .unset] [(.int ((0 : Int32) + (2 : Int32))), (.int ((0 : Int32) + (2 : Int32)))]))
            refine own_back (fun t k => XS.icmpYes X.here hx rfl (pc0 := 159) (pc' := 196) rfl (hb hby own_d2_159) rfl (flt ((by decide) : ¬ (((0 : Int32) + (2 : Int32)) < ((0 : Int32) + (2 : Int32))))).2.1 (by decide) (by decide) k) ?_
            show own_Go _ _ _ _ _ _ _ (T.setTop (mkF m 196 #[.val (.ref x0), .val (.int (0 : Int32)), .val (.int i2), .val (.int i3), .val (.int (2 : Int32)), .val (.int i5), .val (.int t0), .val (.int ((oc ((0 : Int32) + (1 : Int32)).toNatClampNeg) &&& (255 : Int32))), .val (.int ((0 : Int32) + (2 : Int32))), .unset] []))
            refine own_back (fun t k => XS.iload X.here hx rfl (hb hby own_d2_196) rfl k) ?_
            show own_Go _ _ _ _ _ _ _ (T.setTop (mkF m 198 #[.val (.ref x0), .val (.int (0 : Int32)), .val (.int i2), .val (.int i3), .val (.int (2 : Int32)), .val (.int i5), .val (.int t0), .val (.int ((oc ((0 : Int32) + (1 : Int32)).toNatClampNeg) &&& (255 : Int32))), .val (.int ((0 : Int32) + (2 : Int32))), .unset] [(.int (2 : Int32))]))
            subst hR
            exact own_retI X hx hret (hb hby own_d2_198) hlk ⟨rfl, N, e0⟩ (by decide) (by decide)
          rw [if_neg hqx1_0] at hR
          obtain rfl : x1 = (1 : Int32) := by first | exact hat.resolve_left hqx1_0 | exact (hat.resolve_left hqx1_0).resolve_left hqx1_0
          refine own_back (fun t k => XS.iloadN X.here hx rfl (hb hby own_d2_148) rfl k) ?_
          show own_Go _ _ _ _ _ _ _ (T.setTop (mkF m 149 #[.val (.ref x0), .val (.int (1 : Int32)), .val (.int i2), .val (.int i3), .val (.int (2 : Int32)), .val (.int i5), .val (.int t0), .val (.int ((oc ((1 : Int32) + (1 : Int32)).toNatClampNeg) &&& (255 : Int32))), .unset, .unset] [(.int (1 : Int32))]))
          refine own_back (fun t k => XS.iconst X.here hx rfl (hb hby own_d2_149) k) ?_
          show own_Go _ _ _ _ _ _ _ (T.setTop (mkF m 150 #[.val (.ref x0), .val (.int (1 : Int32)), .val (.int i2), .val (.int i3), .val (.int (2 : Int32)), .val (.int i5), .val (.int t0), .val (.int ((oc ((1 : Int32) + (1 : Int32)).toNatClampNeg) &&& (255 : Int32))), .unset, .unset] [(.int (2 : Int32)), (.int (1 : Int32))]))
          refine own_back (fun t k => XS.iadd X.here hx rfl (hb hby own_d2_150) rfl k) ?_
          show own_Go _ _ _ _ _ _ _ (T.setTop (mkF m 151 #[.val (.ref x0), .val (.int (1 : Int32)), .val (.int i2), .val (.int i3), .val (.int (2 : Int32)), .val (.int i5), .val (.int t0), .val (.int ((oc ((1 : Int32) + (1 : Int32)).toNatClampNeg) &&& (255 : Int32))), .unset, .unset] [(.int ((1 : Int32) + (2 : Int32)))]))
          refine own_back (fun t k => XS.istore X.here hx rfl (hb hby own_d2_151) rfl (l' := #[.val (.ref x0), .val (.int (1 : Int32)), .val (.int i2), .val (.int i3), .val (.int (2 : Int32)), .val (.int i5), .val (.int t0), .val (.int ((oc ((1 : Int32) + (1 : Int32)).toNatClampNeg) &&& (255 : Int32))), .val (.int ((1 : Int32) + (2 : Int32))), .unset]) rfl k) ?_
          show own_Go _ _ _ _ _ _ _ (T.setTop (mkF m 153 #[.val (.ref x0), .val (.int (1 : Int32)), .val (.int i2), .val (.int i3), .val (.int (2 : Int32)), .val (.int i5), .val (.int t0), .val (.int ((oc ((1 : Int32) + (1 : Int32)).toNatClampNeg) &&& (255 : Int32))), .val (.int ((1 : Int32) + (2 : Int32))), .unset] []))
          refine own_back (fun t k => XS.iload X.here hx rfl (hb hby own_d2_153) rfl k) ?_
          show own_Go _ _ _ _ _ _ _ (T.setTop (mkF m 155 #[.val (.ref x0), .val (.int (1 : Int32)), .val (.int i2), .val (.int i3), .val (.int (2 : Int32)), .val (.int i5), .val (.int t0), .val (.int ((oc ((1 : Int32) + (1 : Int32)).toNatClampNeg) &&& (255 : Int32))), .val (.int ((1 : Int32) + (2 : Int32))), .unset] [(.int ((1 : Int32) + (2 : Int32)))]))
          refine own_back (fun t k => XS.iloadN X.here hx rfl (hb hby own_d2_155) rfl k) ?_
          show own_Go _ _ _ _ _ _ _ (T.setTop (mkF m 156 #[.val (.ref x0), .val (.int (1 : Int32)), .val (.int i2), .val (.int i3), .val (.int (2 : Int32)), .val (.int i5), .val (.int t0), .val (.int ((oc ((1 : Int32) + (1 : Int32)).toNatClampNeg) &&& (255 : Int32))), .val (.int ((1 : Int32) + (2 : Int32))), .unset] [(.int (1 : Int32)), (.int ((1 : Int32) + (2 : Int32)))]))
          refine own_back (fun t k => XS.iload X.here hx rfl (hb hby own_d2_156) rfl k) ?_
          show own_Go _ _ _ _ _ _ _ (T.setTop (mkF m 158 #[.val (.ref x0), .val (.int (1 : Int32)), .val (.int i2), .val (.int i3), .val (.int (2 : Int32)), .val (.int i5), .val (.int t0), .val (.int ((oc ((1 : Int32) + (1 : Int32)).toNatClampNeg) &&& (255 : Int32))), .val (.int ((1 : Int32) + (2 : Int32))), .unset] [(.int (2 : Int32)), (.int (1 : Int32)), (.int ((1 : Int32) + (2 : Int32)))]))
          refine own_back (fun t k => XS.iadd X.here hx rfl (hb hby own_d2_158) rfl k) ?_
          show own_Go _ _ _ _ _ _ _ (T.setTop (mkF m 159 #[.val (.ref x0), .val (.int (1 : Int32)), .val (.int i2), .val (.int i3), .val (.int (2 : Int32)), .val (.int i5), .val (.int t0), .val (.int ((oc ((1 : Int32) + (1 : Int32)).toNatClampNeg) &&& (255 : Int32))), .val (.int ((1 : Int32) + (2 : Int32))), .unset] [(.int ((1 : Int32) + (2 : Int32))), (.int ((1 : Int32) + (2 : Int32)))]))
          refine own_back (fun t k => XS.icmpYes X.here hx rfl (pc0 := 159) (pc' := 196) rfl (hb hby own_d2_159) rfl (flt ((by decide) : ¬ (((1 : Int32) + (2 : Int32)) < ((1 : Int32) + (2 : Int32))))).2.1 (by decide) (by decide) k) ?_
          show own_Go _ _ _ _ _ _ _ (T.setTop (mkF m 196 #[.val (.ref x0), .val (.int (1 : Int32)), .val (.int i2), .val (.int i3), .val (.int (2 : Int32)), .val (.int i5), .val (.int t0), .val (.int ((oc ((1 : Int32) + (1 : Int32)).toNatClampNeg) &&& (255 : Int32))), .val (.int ((1 : Int32) + (2 : Int32))), .unset] []))
          refine own_back (fun t k => XS.iload X.here hx rfl (hb hby own_d2_196) rfl k) ?_
          show own_Go _ _ _ _ _ _ _ (T.setTop (mkF m 198 #[.val (.ref x0), .val (.int (1 : Int32)), .val (.int i2), .val (.int i3), .val (.int (2 : Int32)), .val (.int i5), .val (.int t0), .val (.int ((oc ((1 : Int32) + (1 : Int32)).toNatClampNeg) &&& (255 : Int32))), .val (.int ((1 : Int32) + (2 : Int32))), .unset] [(.int (2 : Int32))]))
          subst hR
          exact own_retI X hx hret (hb hby own_d2_198) hlk ⟨rfl, N, e0⟩ (by decide) (by decide)
        rw [if_neg hqi4_2] at hR
        by_cases hqi4_3 : i4 = (3 : Int32)
        · rw [if_pos hqi4_3] at hR
          subst hqi4_3
          by_cases hqx1_0 : x1 = (0 : Int32)
          · rw [if_pos hqx1_0] at hR
            subst hqx1_0
            refine own_back (fun t k => XS.iloadN X.here hx rfl (hb hby own_d2_148) rfl k) ?_
            show own_Go _ _ _ _ _ _ _ (T.setTop (mkF m 149 #[.val (.ref x0), .val (.int (0 : Int32)), .val (.int i2), .val (.int i3), .val (.int (3 : Int32)), .val (.int i5), .val (.int t0), .val (.int ((oc ((0 : Int32) + (1 : Int32)).toNatClampNeg) &&& (255 : Int32))), .unset, .unset] [(.int (0 : Int32))]))
            refine own_back (fun t k => XS.iconst X.here hx rfl (hb hby own_d2_149) k) ?_
            show own_Go _ _ _ _ _ _ _ (T.setTop (mkF m 150 #[.val (.ref x0), .val (.int (0 : Int32)), .val (.int i2), .val (.int i3), .val (.int (3 : Int32)), .val (.int i5), .val (.int t0), .val (.int ((oc ((0 : Int32) + (1 : Int32)).toNatClampNeg) &&& (255 : Int32))), .unset, .unset] [(.int (2 : Int32)), (.int (0 : Int32))]))
            refine own_back (fun t k => XS.iadd X.here hx rfl (hb hby own_d2_150) rfl k) ?_
            show own_Go _ _ _ _ _ _ _ (T.setTop (mkF m 151 #[.val (.ref x0), .val (.int (0 : Int32)), .val (.int i2), .val (.int i3), .val (.int (3 : Int32)), .val (.int i5), .val (.int t0), .val (.int ((oc ((0 : Int32) + (1 : Int32)).toNatClampNeg) &&& (255 : Int32))), .unset, .unset] [(.int ((0 : Int32) + (2 : Int32)))]))
            refine own_back (fun t k => XS.istore X.here hx rfl (hb hby own_d2_151) rfl (l' := #[.val (.ref x0), .val (.int (0 : Int32)), .val (.int i2), .val (.int i3), .val (.int (3 : Int32)), .val (.int i5), .val (.int t0), .val (.int ((oc ((0 : Int32) + (1 : Int32)).toNatClampNeg) &&& (255 : Int32))), .val (.int ((0 : Int32) + (2 : Int32))), .unset]) rfl k) ?_
            show own_Go _ _ _ _ _ _ _ (T.setTop (mkF m 153 #[.val (.ref x0), .val (.int (0 : Int32)), .val (.int i2), .val (.int i3), .val (.int (3 : Int32)), .val (.int i5), .val (.int t0), .val (.int ((oc ((0 : Int32) + (1 : Int32)).toNatClampNeg) &&& (255 : Int32))), .val (.int ((0 : Int32) + (2 : Int32))), .unset] []))
            refine own_back (fun t k => XS.iload X.here hx rfl (hb hby own_d2_153) rfl k) ?_
            show own_Go _ _ _ _ _ _ _ (T.setTop (mkF m 155 #[.val (.ref x0), .val (.int (0 : Int32)), .val (.int i2), .val (.int i3), .val (.int (3 : Int32)), .val (.int i5), .val (.int t0), .val (.int ((oc ((0 : Int32) + (1 : Int32)).toNatClampNeg) &&& (255 : Int32))), .val (.int ((0 : Int32) + (2 : Int32))), .unset] [(.int ((0 : Int32) + (2 : Int32)))]))
            refine own_back (fun t k => XS.iloadN X.here hx rfl (hb hby own_d2_155) rfl k) ?_
            show own_Go _ _ _ _ _ _ _ (T.setTop (mkF m 156 #[.val (.ref x0), .val (.int (0 : Int32)), .val (.int i2), .val (.int i3), .val (.int (3 : Int32)), .val (.int i5), .val (.int t0), .val (.int ((oc ((0 : Int32) + (1 : Int32)).toNatClampNeg) &&& (255 : Int32))), .val (.int ((0 : Int32) + (2 : Int32))), .unset] [(.int (0 : Int32)), (.int ((0 : Int32) + (2 : Int32)))]))
            refine own_back (fun t k => XS.iload X.here hx rfl (hb hby own_d2_156) rfl k) ?_
            show own_Go _ _ _ _ _ _ _ (T.setTop (mkF m 158 #[.val (.ref x0), .val (.int (0 : Int32)), .val (.int i2), .val (.int i3), .val (.int (3 : Int32)), .val (.int i5), .val (.int t0), .val (.int ((oc ((0 : Int32) + (1 : Int32)).toNatClampNeg) &&& (255 : Int32))), .val (.int ((0 : Int32) + (2 : Int32))), .unset] [(.int (3 : Int32)), (.int (0 : Int32)), (.int ((0 : Int32) + (2 : Int32)))]))
            refine own_back (fun t k => XS.iadd X.here hx rfl (hb hby own_d2_158) rfl k) ?_
            show own_Go _ _ _ _ _ _ _ (T.setTop (mkF m 159 #[.val (.ref x0), .val (.int (0 : Int32)), .val (.int i2), .val (.int i3), .val (.int (3 : Int32)), .val (.int i5), .val (.int t0), .val (.int ((oc ((0 : Int32) + (1 : Int32)).toNatClampNeg) &&& (255 : Int32))), .val (.int ((0 : Int32) + (2 : Int32))), .unset] [(.int ((0 : Int32) + (3 : Int32))), (.int ((0 : Int32) + (2 : Int32)))]))
            refine own_back (fun t k => XS.icmpNo X.here hx rfl (hb hby own_d2_159) rfl (tlt ((by decide) : ((0 : Int32) + (2 : Int32)) < ((0 : Int32) + (3 : Int32)))).2.1 k) ?_
            show own_Go _ _ _ _ _ _ _ (T.setTop (mkF m 162 #[.val (.ref x0), .val (.int (0 : Int32)), .val (.int i2), .val (.int i3), .val (.int (3 : Int32)), .val (.int i5), .val (.int t0), .val (.int ((oc ((0 : Int32) + (1 : Int32)).toNatClampNeg) &&& (255 : Int32))), .val (.int ((0 : Int32) + (2 : Int32))), .unset] []))
            refine own_back (fun t k => XS.aloadN X.here hx rfl (hb hby own_d2_162) rfl rfl k) ?_
            show own_Go _ _ _ _ _ _ _ (T.setTop (mkF m 163 #[.val (.ref x0), .val (.int (0 : Int32)), .val (.int i2), .val (.int i3), .val (.int (3 : Int32)), .val (.int i5), .val (.int t0), .val (.int ((oc ((0 : Int32) + (1 : Int32)).toNatClampNeg) &&& (255 : Int32))), .val (.int ((0 : Int32) + (2 : Int32))), .unset] [(.ref x0)]))
            refine own_back (fun t k => XS.iload X.here hx rfl (hb hby own_d2_163) rfl k) ?_
            show own_Go _ _ _ _ _ _ _ (T.setTop (mkF m 165 #[.val (.ref x0), .val (.int (0 : Int32)), .val (.int i2), .val (.int i3), .val (.int (3 : Int32)), .val (.int i5), .val (.int t0), .val (.int ((oc ((0 : Int32) + (1 : Int32)).toNatClampNeg) &&& (255 : Int32))), .val (.int ((0 : Int32) + (2 : Int32))), .unset] [(.int ((0 : Int32) + (2 : Int32))), (.ref x0)]))
            refine own_back (fun t k => own_ldB X hx hZ e0 VA (j := ((0 : Int32) + (2 : Int32))) (w := (oc ((0 : Int32) + (2 : Int32)).toNatClampNeg)) (by decide) rfl (g := (mkF m 165 #[.val (.ref x0), .val (.int (0 : Int32)), .val (.int i2), .val (.int i3), .val (.int (3 : Int32)), .val (.int i5), .val (.int t0), .val (.int ((oc ((0 : Int32) + (1 : Int32)).toNatClampNeg) &&& (255 : Int32))), .val (.int ((0 : Int32) + (2 : Int32))), .unset] [(.int ((0 : Int32) + (2 : Int32))), (.ref x0)])) rfl rfl (hb hby own_d2_165) t k) ?_
            show own_Go _ _ _ _ _ _ _ (T.setTop (mkF m 166 #[.val (.ref x0), .val (.int (0 : Int32)), .val (.int i2), .val (.int i3), .val (.int (3 : Int32)), .val (.int i5), .val (.int t0), .val (.int ((oc ((0 : Int32) + (1 : Int32)).toNatClampNeg) &&& (255 : Int32))), .val (.int ((0 : Int32) + (2 : Int32))), .unset] [(.int (oc ((0 : Int32) + (2 : Int32)).toNatClampNeg))]))
            refine own_back (fun t k => XS.sipush X.here hx rfl (hb hby own_d2_166) k) ?_
            show own_Go _ _ _ _ _ _ _ (T.setTop (mkF m 169 #[.val (.ref x0), .val (.int (0 : Int32)), .val (.int i2), .val (.int i3), .val (.int (3 : Int32)), .val (.int i5), .val (.int t0), .val (.int ((oc ((0 : Int32) + (1 : Int32)).toNatClampNeg) &&& (255 : Int32))), .val (.int ((0 : Int32) + (2 : Int32))), .unset] [(.int (255 : Int32)), (.int (oc ((0 : Int32) + (2 : Int32)).toNatClampNeg))]))
            refine own_back (fun t k => XS.iand X.here hx rfl (hb hby own_d2_169) rfl k) ?_
            show own_Go _ _ _ _ _ _ _ (T.setTop (mkF m 170 #[.val (.ref x0), .val (.int (0 : Int32)), .val (.int i2), .val (.int i3), .val (.int (3 : Int32)), .val (.int i5), .val (.int t0), .val (.int ((oc ((0 : Int32) + (1 : Int32)).toNatClampNeg) &&& (255 : Int32))), .val (.int ((0 : Int32) + (2 : Int32))), .unset] [(.int ((oc ((0 : Int32) + (2 : Int32)).toNatClampNeg) &&& (255 : Int32)))]))
            refine own_back (fun t k => XS.istore X.here hx rfl (hb hby own_d2_170) rfl (l' := #[.val (.ref x0), .val (.int (0 : Int32)), .val (.int i2), .val (.int i3), .val (.int (3 : Int32)), .val (.int i5), .val (.int t0), .val (.int ((oc ((0 : Int32) + (1 : Int32)).toNatClampNeg) &&& (255 : Int32))), .val (.int ((0 : Int32) + (2 : Int32))), .val (.int ((oc ((0 : Int32) + (2 : Int32)).toNatClampNeg) &&& (255 : Int32)))]) rfl k) ?_
            show own_Go _ _ _ _ _ _ _ (T.setTop (mkF m 172 #[.val (.ref x0), .val (.int (0 : Int32)), .val (.int i2), .val (.int i3), .val (.int (3 : Int32)), .val (.int i5), .val (.int t0), .val (.int ((oc ((0 : Int32) + (1 : Int32)).toNatClampNeg) &&& (255 : Int32))), .val (.int ((0 : Int32) + (2 : Int32))), .val (.int ((oc ((0 : Int32) + (2 : Int32)).toNatClampNeg) &&& (255 : Int32)))] []))
            refine own_back (fun t k => XS.iload X.here hx rfl (hb hby own_d2_172) rfl k) ?_
            show own_Go _ _ _ _ _ _ _ (T.setTop (mkF m 174 #[.val (.ref x0), .val (.int (0 : Int32)), .val (.int i2), .val (.int i3), .val (.int (3 : Int32)), .val (.int i5), .val (.int t0), .val (.int ((oc ((0 : Int32) + (1 : Int32)).toNatClampNeg) &&& (255 : Int32))), .val (.int ((0 : Int32) + (2 : Int32))), .val (.int ((oc ((0 : Int32) + (2 : Int32)).toNatClampNeg) &&& (255 : Int32)))] [(.int ((oc ((0 : Int32) + (2 : Int32)).toNatClampNeg) &&& (255 : Int32)))]))
            refine own_back (fun t k => XS.sipush X.here hx rfl (hb hby own_d2_174) k) ?_
            show own_Go _ _ _ _ _ _ _ (T.setTop (mkF m 177 #[.val (.ref x0), .val (.int (0 : Int32)), .val (.int i2), .val (.int i3), .val (.int (3 : Int32)), .val (.int i5), .val (.int t0), .val (.int ((oc ((0 : Int32) + (1 : Int32)).toNatClampNeg) &&& (255 : Int32))), .val (.int ((0 : Int32) + (2 : Int32))), .val (.int ((oc ((0 : Int32) + (2 : Int32)).toNatClampNeg) &&& (255 : Int32)))] [(.int (128 : Int32)), (.int ((oc ((0 : Int32) + (2 : Int32)).toNatClampNeg) &&& (255 : Int32)))]))
            by_cases hc177 : ((oc ((0 : Int32) + (2 : Int32)).toNatClampNeg) &&& (255 : Int32)) < (128 : Int32)
            · rw [if_pos hc177] at hR
              refine own_back (fun t k => XS.icmpYes X.here hx rfl (pc0 := 177) (pc' := 188) rfl (hb hby own_d2_177) rfl (tlt hc177).1 (by decide) (by decide) k) ?_
              show own_Go _ _ _ _ _ _ _ (T.setTop (mkF m 188 #[.val (.ref x0), .val (.int (0 : Int32)), .val (.int i2), .val (.int i3), .val (.int (3 : Int32)), .val (.int i5), .val (.int t0), .val (.int ((oc ((0 : Int32) + (1 : Int32)).toNatClampNeg) &&& (255 : Int32))), .val (.int ((0 : Int32) + (2 : Int32))), .val (.int ((oc ((0 : Int32) + (2 : Int32)).toNatClampNeg) &&& (255 : Int32)))] []))
              refine own_back (fun t k => XS.iconst X.here hx rfl (hb hby own_d2_188) k) ?_
              show own_Go _ _ _ _ _ _ _ (T.setTop (mkF m 189 #[.val (.ref x0), .val (.int (0 : Int32)), .val (.int i2), .val (.int i3), .val (.int (3 : Int32)), .val (.int i5), .val (.int t0), .val (.int ((oc ((0 : Int32) + (1 : Int32)).toNatClampNeg) &&& (255 : Int32))), .val (.int ((0 : Int32) + (2 : Int32))), .val (.int ((oc ((0 : Int32) + (2 : Int32)).toNatClampNeg) &&& (255 : Int32)))] [(.int (0 : Int32))]))
              subst hR
              exact own_retI X hx hret (hb hby own_d2_189) hlk ⟨rfl, N, e0⟩ (by decide) (by decide)
            · rw [if_neg hc177] at hR
              refine own_back (fun t k => XS.icmpNo X.here hx rfl (hb hby own_d2_177) rfl (flt hc177).1 k) ?_
              show own_Go _ _ _ _ _ _ _ (T.setTop (mkF m 180 #[.val (.ref x0), .val (.int (0 : Int32)), .val (.int i2), .val (.int i3), .val (.int (3 : Int32)), .val (.int i5), .val (.int t0), .val (.int ((oc ((0 : Int32) + (1 : Int32)).toNatClampNeg) &&& (255 : Int32))), .val (.int ((0 : Int32) + (2 : Int32))), .val (.int ((oc ((0 : Int32) + (2 : Int32)).toNatClampNeg) &&& (255 : Int32)))] []))
              refine own_back (fun t k => XS.iload X.here hx rfl (hb hby own_d2_180) rfl k) ?_
              show own_Go _ _ _ _ _ _ _ (T.setTop (mkF m 182 #[.val (.ref x0), .val (.int (0 : Int32)), .val (.int i2), .val (.int i3), .val (.int (3 : Int32)), .val (.int i5), .val (.int t0), .val (.int ((oc ((0 : Int32) + (1 : Int32)).toNatClampNeg) &&& (255 : Int32))), .val (.int ((0 : Int32) + (2 : Int32))), .val (.int ((oc ((0 : Int32) + (2 : Int32)).toNatClampNeg) &&& (255 : Int32)))] [(.int ((oc ((0 : Int32) + (2 : Int32)).toNatClampNeg) &&& (255 : Int32)))]))
              refine own_back (fun t k => XS.sipush X.here hx rfl (hb hby own_d2_182) k) ?_
              show own_Go _ _ _ _ _ _ _ (T.setTop (mkF m 185 #[.val (.ref x0), .val (.int (0 : Int32)), .val (.int i2), .val (.int i3), .val (.int (3 : Int32)), .val (.int i5), .val (.int t0), .val (.int ((oc ((0 : Int32) + (1 : Int32)).toNatClampNeg) &&& (255 : Int32))), .val (.int ((0 : Int32) + (2 : Int32))), .val (.int ((oc ((0 : Int32) + (2 : Int32)).toNatClampNeg) &&& (255 : Int32)))] [(.int (191 : Int32)), (.int ((oc ((0 : Int32) + (2 : Int32)).toNatClampNeg) &&& (255 : Int32)))]))
              by_cases hc185 : (191 : Int32) < ((oc ((0 : Int32) + (2 : Int32)).toNatClampNeg) &&& (255 : Int32))
              · rw [if_pos hc185] at hR
                refine own_back (fun t k => XS.icmpNo X.here hx rfl (hb hby own_d2_185) rfl (tlt hc185).2.2.2 k) ?_
                show own_Go _ _ _ _ _ _ _ (T.setTop (mkF m 188 #[.val (.ref x0), .val (.int (0 : Int32)), .val (.int i2), .val (.int i3), .val (.int (3 : Int32)), .val (.int i5), .val (.int t0), .val (.int ((oc ((0 : Int32) + (1 : Int32)).toNatClampNeg) &&& (255 : Int32))), .val (.int ((0 : Int32) + (2 : Int32))), .val (.int ((oc ((0 : Int32) + (2 : Int32)).toNatClampNeg) &&& (255 : Int32)))] []))
                refine own_back (fun t k => XS.iconst X.here hx rfl (hb hby own_d2_188) k) ?_
                show own_Go _ _ _ _ _ _ _ (T.setTop (mkF m 189 #[.val (.ref x0), .val (.int (0 : Int32)), .val (.int i2), .val (.int i3), .val (.int (3 : Int32)), .val (.int i5), .val (.int t0), .val (.int ((oc ((0 : Int32) + (1 : Int32)).toNatClampNeg) &&& (255 : Int32))), .val (.int ((0 : Int32) + (2 : Int32))), .val (.int ((oc ((0 : Int32) + (2 : Int32)).toNatClampNeg) &&& (255 : Int32)))] [(.int (0 : Int32))]))
                subst hR
                exact own_retI X hx hret (hb hby own_d2_189) hlk ⟨rfl, N, e0⟩ (by decide) (by decide)
              · rw [if_neg hc185] at hR
                refine own_back (fun t k => XS.icmpYes X.here hx rfl (pc0 := 185) (pc' := 190) rfl (hb hby own_d2_185) rfl (flt hc185).2.2.2 (by decide) (by decide) k) ?_
                show own_Go _ _ _ _ _ _ _ (T.setTop (mkF m 190 #[.val (.ref x0), .val (.int (0 : Int32)), .val (.int i2), .val (.int i3), .val (.int (3 : Int32)), .val (.int i5), .val (.int t0), .val (.int ((oc ((0 : Int32) + (1 : Int32)).toNatClampNeg) &&& (255 : Int32))), .val (.int ((0 : Int32) + (2 : Int32))), .val (.int ((oc ((0 : Int32) + (2 : Int32)).toNatClampNeg) &&& (255 : Int32)))] []))
                refine own_back (fun t k => XS.iinc X.here hx rfl (hb hby own_d2_190) rfl (l' := #[.val (.ref x0), .val (.int (0 : Int32)), .val (.int i2), .val (.int i3), .val (.int (3 : Int32)), .val (.int i5), .val (.int t0), .val (.int ((oc ((0 : Int32) + (1 : Int32)).toNatClampNeg) &&& (255 : Int32))), .val (.int (((0 : Int32) + (2 : Int32)) + (1 : Int32))), .val (.int ((oc ((0 : Int32) + (2 : Int32)).toNatClampNeg) &&& (255 : Int32)))]) rfl k) ?_
                show own_Go _ _ _ _ _ _ _ (T.setTop (mkF m 193 #[.val (.ref x0), .val (.int (0 : Int32)), .val (.int i2), .val (.int i3), .val (.int (3 : Int32)), .val (.int i5), .val (.int t0), .val (.int ((oc ((0 : Int32) + (1 : Int32)).toNatClampNeg) &&& (255 : Int32))), .val (.int (((0 : Int32) + (2 : Int32)) + (1 : Int32))), .val (.int ((oc ((0 : Int32) + (2 : Int32)).toNatClampNeg) &&& (255 : Int32)))] []))
                refine own_back (fun t k => XS.goto X.here hx rfl (pc0 := 193) (pc' := 153) rfl (hb hby own_d2_193) (by decide) (by decide) k) ?_
                show own_Go _ _ _ _ _ _ _ (T.setTop (mkF m 153 #[.val (.ref x0), .val (.int (0 : Int32)), .val (.int i2), .val (.int i3), .val (.int (3 : Int32)), .val (.int i5), .val (.int t0), .val (.int ((oc ((0 : Int32) + (1 : Int32)).toNatClampNeg) &&& (255 : Int32))), .val (.int (((0 : Int32) + (2 : Int32)) + (1 : Int32))), .val (.int ((oc ((0 : Int32) + (2 : Int32)).toNatClampNeg) &&& (255 : Int32)))] []))
                refine own_back (fun t k => XS.iload X.here hx rfl (hb hby own_d2_153) rfl k) ?_
                show own_Go _ _ _ _ _ _ _ (T.setTop (mkF m 155 #[.val (.ref x0), .val (.int (0 : Int32)), .val (.int i2), .val (.int i3), .val (.int (3 : Int32)), .val (.int i5), .val (.int t0), .val (.int ((oc ((0 : Int32) + (1 : Int32)).toNatClampNeg) &&& (255 : Int32))), .val (.int (((0 : Int32) + (2 : Int32)) + (1 : Int32))), .val (.int ((oc ((0 : Int32) + (2 : Int32)).toNatClampNeg) &&& (255 : Int32)))] [(.int (((0 : Int32) + (2 : Int32)) + (1 : Int32)))]))
                refine own_back (fun t k => XS.iloadN X.here hx rfl (hb hby own_d2_155) rfl k) ?_
                show own_Go _ _ _ _ _ _ _ (T.setTop (mkF m 156 #[.val (.ref x0), .val (.int (0 : Int32)), .val (.int i2), .val (.int i3), .val (.int (3 : Int32)), .val (.int i5), .val (.int t0), .val (.int ((oc ((0 : Int32) + (1 : Int32)).toNatClampNeg) &&& (255 : Int32))), .val (.int (((0 : Int32) + (2 : Int32)) + (1 : Int32))), .val (.int ((oc ((0 : Int32) + (2 : Int32)).toNatClampNeg) &&& (255 : Int32)))] [(.int (0 : Int32)), (.int (((0 : Int32) + (2 : Int32)) + (1 : Int32)))]))
                refine own_back (fun t k => XS.iload X.here hx rfl (hb hby own_d2_156) rfl k) ?_
                show own_Go _ _ _ _ _ _ _ (T.setTop (mkF m 158 #[.val (.ref x0), .val (.int (0 : Int32)), .val (.int i2), .val (.int i3), .val (.int (3 : Int32)), .val (.int i5), .val (.int t0), .val (.int ((oc ((0 : Int32) + (1 : Int32)).toNatClampNeg) &&& (255 : Int32))), .val (.int (((0 : Int32) + (2 : Int32)) + (1 : Int32))), .val (.int ((oc ((0 : Int32) + (2 : Int32)).toNatClampNeg) &&& (255 : Int32)))] [(.int (3 : Int32)), (.int (0 : Int32)), (.int (((0 : Int32) + (2 : Int32)) + (1 : Int32)))]))
                refine own_back (fun t k => XS.iadd X.here hx rfl (hb hby own_d2_158) rfl k) ?_
                show own_Go _ _ _ _ _ _ _ (T.setTop (mkF m 159 #[.val (.ref x0), .val (.int (0 : Int32)), .val (.int i2), .val (.int i3), .val (.int (3 : Int32)), .val (.int i5), .val (.int t0), .val (.int ((oc ((0 : Int32) + (1 : Int32)).toNatClampNeg) &&& (255 : Int32))), .val (.int (((0 : Int32) + (2 : Int32)) + (1 : Int32))), .val (.int ((oc ((0 : Int32) + (2 : Int32)).toNatClampNeg) &&& (255 : Int32)))] [(.int ((0 : Int32) + (3 : Int32))), (.int (((0 : Int32) + (2 : Int32)) + (1 : Int32)))]))
                refine own_back (fun t k => XS.icmpYes X.here hx rfl (pc0 := 159) (pc' := 196) rfl (hb hby own_d2_159) rfl (flt ((by decide) : ¬ ((((0 : Int32) + (2 : Int32)) + (1 : Int32)) < ((0 : Int32) + (3 : Int32))))).2.1 (by decide) (by decide) k) ?_
                show own_Go _ _ _ _ _ _ _ (T.setTop (mkF m 196 #[.val (.ref x0), .val (.int (0 : Int32)), .val (.int i2), .val (.int i3), .val (.int (3 : Int32)), .val (.int i5), .val (.int t0), .val (.int ((oc ((0 : Int32) + (1 : Int32)).toNatClampNeg) &&& (255 : Int32))), .val (.int (((0 : Int32) + (2 : Int32)) + (1 : Int32))), .val (.int ((oc ((0 : Int32) + (2 : Int32)).toNatClampNeg) &&& (255 : Int32)))] []))
                refine own_back (fun t k => XS.iload X.here hx rfl (hb hby own_d2_196) rfl k) ?_
                show own_Go _ _ _ _ _ _ _ (T.setTop (mkF m 198 #[.val (.ref x0), .val (.int (0 : Int32)), .val (.int i2), .val (.int i3), .val (.int (3 : Int32)), .val (.int i5), .val (.int t0), .val (.int ((oc ((0 : Int32) + (1 : Int32)).toNatClampNeg) &&& (255 : Int32))), .val (.int (((0 : Int32) + (2 : Int32)) + (1 : Int32))), .val (.int ((oc ((0 : Int32) + (2 : Int32)).toNatClampNeg) &&& (255 : Int32)))] [(.int (3 : Int32))]))
                subst hR
                exact own_retI X hx hret (hb hby own_d2_198) hlk ⟨rfl, N, e0⟩ (by decide) (by decide)
          rw [if_neg hqx1_0] at hR
          obtain rfl : x1 = (1 : Int32) := by first | exact hat.resolve_left hqx1_0 | exact (hat.resolve_left hqx1_0).resolve_left hqx1_0
          refine own_back (fun t k => XS.iloadN X.here hx rfl (hb hby own_d2_148) rfl k) ?_
          show own_Go _ _ _ _ _ _ _ (T.setTop (mkF m 149 #[.val (.ref x0), .val (.int (1 : Int32)), .val (.int i2), .val (.int i3), .val (.int (3 : Int32)), .val (.int i5), .val (.int t0), .val (.int ((oc ((1 : Int32) + (1 : Int32)).toNatClampNeg) &&& (255 : Int32))), .unset, .unset] [(.int (1 : Int32))]))
          refine own_back (fun t k => XS.iconst X.here hx rfl (hb hby own_d2_149) k) ?_
          show own_Go _ _ _ _ _ _ _ (T.setTop (mkF m 150 #[.val (.ref x0), .val (.int (1 : Int32)), .val (.int i2), .val (.int i3), .val (.int (3 : Int32)), .val (.int i5), .val (.int t0), .val (.int ((oc ((1 : Int32) + (1 : Int32)).toNatClampNeg) &&& (255 : Int32))), .unset, .unset] [(.int (2 : Int32)), (.int (1 : Int32))]))
          refine own_back (fun t k => XS.iadd X.here hx rfl (hb hby own_d2_150) rfl k) ?_
          show own_Go _ _ _ _ _ _ _ (T.setTop (mkF m 151 #[.val (.ref x0), .val (.int (1 : Int32)), .val (.int i2), .val (.int i3), .val (.int (3 : Int32)), .val (.int i5), .val (.int t0), .val (.int ((oc ((1 : Int32) + (1 : Int32)).toNatClampNeg) &&& (255 : Int32))), .unset, .unset] [(.int ((1 : Int32) + (2 : Int32)))]))
          refine own_back (fun t k => XS.istore X.here hx rfl (hb hby own_d2_151) rfl (l' := #[.val (.ref x0), .val (.int (1 : Int32)), .val (.int i2), .val (.int i3), .val (.int (3 : Int32)), .val (.int i5), .val (.int t0), .val (.int ((oc ((1 : Int32) + (1 : Int32)).toNatClampNeg) &&& (255 : Int32))), .val (.int ((1 : Int32) + (2 : Int32))), .unset]) rfl k) ?_
          show own_Go _ _ _ _ _ _ _ (T.setTop (mkF m 153 #[.val (.ref x0), .val (.int (1 : Int32)), .val (.int i2), .val (.int i3), .val (.int (3 : Int32)), .val (.int i5), .val (.int t0), .val (.int ((oc ((1 : Int32) + (1 : Int32)).toNatClampNeg) &&& (255 : Int32))), .val (.int ((1 : Int32) + (2 : Int32))), .unset] []))
          refine own_back (fun t k => XS.iload X.here hx rfl (hb hby own_d2_153) rfl k) ?_
          show own_Go _ _ _ _ _ _ _ (T.setTop (mkF m 155 #[.val (.ref x0), .val (.int (1 : Int32)), .val (.int i2), .val (.int i3), .val (.int (3 : Int32)), .val (.int i5), .val (.int t0), .val (.int ((oc ((1 : Int32) + (1 : Int32)).toNatClampNeg) &&& (255 : Int32))), .val (.int ((1 : Int32) + (2 : Int32))), .unset] [(.int ((1 : Int32) + (2 : Int32)))]))
          refine own_back (fun t k => XS.iloadN X.here hx rfl (hb hby own_d2_155) rfl k) ?_
          show own_Go _ _ _ _ _ _ _ (T.setTop (mkF m 156 #[.val (.ref x0), .val (.int (1 : Int32)), .val (.int i2), .val (.int i3), .val (.int (3 : Int32)), .val (.int i5), .val (.int t0), .val (.int ((oc ((1 : Int32) + (1 : Int32)).toNatClampNeg) &&& (255 : Int32))), .val (.int ((1 : Int32) + (2 : Int32))), .unset] [(.int (1 : Int32)), (.int ((1 : Int32) + (2 : Int32)))]))
          refine own_back (fun t k => XS.iload X.here hx rfl (hb hby own_d2_156) rfl k) ?_
          show own_Go _ _ _ _ _ _ _ (T.setTop (mkF m 158 #[.val (.ref x0), .val (.int (1 : Int32)), .val (.int i2), .val (.int i3), .val (.int (3 : Int32)), .val (.int i5), .val (.int t0), .val (.int ((oc ((1 : Int32) + (1 : Int32)).toNatClampNeg) &&& (255 : Int32))), .val (.int ((1 : Int32) + (2 : Int32))), .unset] [(.int (3 : Int32)), (.int (1 : Int32)), (.int ((1 : Int32) + (2 : Int32)))]))
          refine own_back (fun t k => XS.iadd X.here hx rfl (hb hby own_d2_158) rfl k) ?_
          show own_Go _ _ _ _ _ _ _ (T.setTop (mkF m 159 #[.val (.ref x0), .val (.int (1 : Int32)), .val (.int i2), .val (.int i3), .val (.int (3 : Int32)), .val (.int i5), .val (.int t0), .val (.int ((oc ((1 : Int32) + (1 : Int32)).toNatClampNeg) &&& (255 : Int32))), .val (.int ((1 : Int32) + (2 : Int32))), .unset] [(.int ((1 : Int32) + (3 : Int32))), (.int ((1 : Int32) + (2 : Int32)))]))
          refine own_back (fun t k => XS.icmpNo X.here hx rfl (hb hby own_d2_159) rfl (tlt ((by decide) : ((1 : Int32) + (2 : Int32)) < ((1 : Int32) + (3 : Int32)))).2.1 k) ?_
          show own_Go _ _ _ _ _ _ _ (T.setTop (mkF m 162 #[.val (.ref x0), .val (.int (1 : Int32)), .val (.int i2), .val (.int i3), .val (.int (3 : Int32)), .val (.int i5), .val (.int t0), .val (.int ((oc ((1 : Int32) + (1 : Int32)).toNatClampNeg) &&& (255 : Int32))), .val (.int ((1 : Int32) + (2 : Int32))), .unset] []))
          refine own_back (fun t k => XS.aloadN X.here hx rfl (hb hby own_d2_162) rfl rfl k) ?_
          show own_Go _ _ _ _ _ _ _ (T.setTop (mkF m 163 #[.val (.ref x0), .val (.int (1 : Int32)), .val (.int i2), .val (.int i3), .val (.int (3 : Int32)), .val (.int i5), .val (.int t0), .val (.int ((oc ((1 : Int32) + (1 : Int32)).toNatClampNeg) &&& (255 : Int32))), .val (.int ((1 : Int32) + (2 : Int32))), .unset] [(.ref x0)]))
          refine own_back (fun t k => XS.iload X.here hx rfl (hb hby own_d2_163) rfl k) ?_
          show own_Go _ _ _ _ _ _ _ (T.setTop (mkF m 165 #[.val (.ref x0), .val (.int (1 : Int32)), .val (.int i2), .val (.int i3), .val (.int (3 : Int32)), .val (.int i5), .val (.int t0), .val (.int ((oc ((1 : Int32) + (1 : Int32)).toNatClampNeg) &&& (255 : Int32))), .val (.int ((1 : Int32) + (2 : Int32))), .unset] [(.int ((1 : Int32) + (2 : Int32))), (.ref x0)]))
          refine own_back (fun t k => own_ldB X hx hZ e0 VA (j := ((1 : Int32) + (2 : Int32))) (w := (oc ((1 : Int32) + (2 : Int32)).toNatClampNeg)) (by decide) rfl (g := (mkF m 165 #[.val (.ref x0), .val (.int (1 : Int32)), .val (.int i2), .val (.int i3), .val (.int (3 : Int32)), .val (.int i5), .val (.int t0), .val (.int ((oc ((1 : Int32) + (1 : Int32)).toNatClampNeg) &&& (255 : Int32))), .val (.int ((1 : Int32) + (2 : Int32))), .unset] [(.int ((1 : Int32) + (2 : Int32))), (.ref x0)])) rfl rfl (hb hby own_d2_165) t k) ?_
          show own_Go _ _ _ _ _ _ _ (T.setTop (mkF m 166 #[.val (.ref x0), .val (.int (1 : Int32)), .val (.int i2), .val (.int i3), .val (.int (3 : Int32)), .val (.int i5), .val (.int t0), .val (.int ((oc ((1 : Int32) + (1 : Int32)).toNatClampNeg) &&& (255 : Int32))), .val (.int ((1 : Int32) + (2 : Int32))), .unset] [(.int (oc ((1 : Int32) + (2 : Int32)).toNatClampNeg))]))
          refine own_back (fun t k => XS.sipush X.here hx rfl (hb hby own_d2_166) k) ?_
          show own_Go _ _ _ _ _ _ _ (T.setTop (mkF m 169 #[.val (.ref x0), .val (.int (1 : Int32)), .val (.int i2), .val (.int i3), .val (.int (3 : Int32)), .val (.int i5), .val (.int t0), .val (.int ((oc ((1 : Int32) + (1 : Int32)).toNatClampNeg) &&& (255 : Int32))), .val (.int ((1 : Int32) + (2 : Int32))), .unset] [(.int (255 : Int32)), (.int (oc ((1 : Int32) + (2 : Int32)).toNatClampNeg))]))
          refine own_back (fun t k => XS.iand X.here hx rfl (hb hby own_d2_169) rfl k) ?_
          show own_Go _ _ _ _ _ _ _ (T.setTop (mkF m 170 #[.val (.ref x0), .val (.int (1 : Int32)), .val (.int i2), .val (.int i3), .val (.int (3 : Int32)), .val (.int i5), .val (.int t0), .val (.int ((oc ((1 : Int32) + (1 : Int32)).toNatClampNeg) &&& (255 : Int32))), .val (.int ((1 : Int32) + (2 : Int32))), .unset] [(.int ((oc ((1 : Int32) + (2 : Int32)).toNatClampNeg) &&& (255 : Int32)))]))
          refine own_back (fun t k => XS.istore X.here hx rfl (hb hby own_d2_170) rfl (l' := #[.val (.ref x0), .val (.int (1 : Int32)), .val (.int i2), .val (.int i3), .val (.int (3 : Int32)), .val (.int i5), .val (.int t0), .val (.int ((oc ((1 : Int32) + (1 : Int32)).toNatClampNeg) &&& (255 : Int32))), .val (.int ((1 : Int32) + (2 : Int32))), .val (.int ((oc ((1 : Int32) + (2 : Int32)).toNatClampNeg) &&& (255 : Int32)))]) rfl k) ?_
          show own_Go _ _ _ _ _ _ _ (T.setTop (mkF m 172 #[.val (.ref x0), .val (.int (1 : Int32)), .val (.int i2), .val (.int i3), .val (.int (3 : Int32)), .val (.int i5), .val (.int t0), .val (.int ((oc ((1 : Int32) + (1 : Int32)).toNatClampNeg) &&& (255 : Int32))), .val (.int ((1 : Int32) + (2 : Int32))), .val (.int ((oc ((1 : Int32) + (2 : Int32)).toNatClampNeg) &&& (255 : Int32)))] []))
          refine own_back (fun t k => XS.iload X.here hx rfl (hb hby own_d2_172) rfl k) ?_
          show own_Go _ _ _ _ _ _ _ (T.setTop (mkF m 174 #[.val (.ref x0), .val (.int (1 : Int32)), .val (.int i2), .val (.int i3), .val (.int (3 : Int32)), .val (.int i5), .val (.int t0), .val (.int ((oc ((1 : Int32) + (1 : Int32)).toNatClampNeg) &&& (255 : Int32))), .val (.int ((1 : Int32) + (2 : Int32))), .val (.int ((oc ((1 : Int32) + (2 : Int32)).toNatClampNeg) &&& (255 : Int32)))] [(.int ((oc ((1 : Int32) + (2 : Int32)).toNatClampNeg) &&& (255 : Int32)))]))
          refine own_back (fun t k => XS.sipush X.here hx rfl (hb hby own_d2_174) k) ?_
          show own_Go _ _ _ _ _ _ _ (T.setTop (mkF m 177 #[.val (.ref x0), .val (.int (1 : Int32)), .val (.int i2), .val (.int i3), .val (.int (3 : Int32)), .val (.int i5), .val (.int t0), .val (.int ((oc ((1 : Int32) + (1 : Int32)).toNatClampNeg) &&& (255 : Int32))), .val (.int ((1 : Int32) + (2 : Int32))), .val (.int ((oc ((1 : Int32) + (2 : Int32)).toNatClampNeg) &&& (255 : Int32)))] [(.int (128 : Int32)), (.int ((oc ((1 : Int32) + (2 : Int32)).toNatClampNeg) &&& (255 : Int32)))]))
          by_cases hc177 : ((oc ((1 : Int32) + (2 : Int32)).toNatClampNeg) &&& (255 : Int32)) < (128 : Int32)
          · rw [if_pos hc177] at hR
            refine own_back (fun t k => XS.icmpYes X.here hx rfl (pc0 := 177) (pc' := 188) rfl (hb hby own_d2_177) rfl (tlt hc177).1 (by decide) (by decide) k) ?_
            show own_Go _ _ _ _ _ _ _ (T.setTop (mkF m 188 #[.val (.ref x0), .val (.int (1 : Int32)), .val (.int i2), .val (.int i3), .val (.int (3 : Int32)), .val (.int i5), .val (.int t0), .val (.int ((oc ((1 : Int32) + (1 : Int32)).toNatClampNeg) &&& (255 : Int32))), .val (.int ((1 : Int32) + (2 : Int32))), .val (.int ((oc ((1 : Int32) + (2 : Int32)).toNatClampNeg) &&& (255 : Int32)))] []))
            refine own_back (fun t k => XS.iconst X.here hx rfl (hb hby own_d2_188) k) ?_
            show own_Go _ _ _ _ _ _ _ (T.setTop (mkF m 189 #[.val (.ref x0), .val (.int (1 : Int32)), .val (.int i2), .val (.int i3), .val (.int (3 : Int32)), .val (.int i5), .val (.int t0), .val (.int ((oc ((1 : Int32) + (1 : Int32)).toNatClampNeg) &&& (255 : Int32))), .val (.int ((1 : Int32) + (2 : Int32))), .val (.int ((oc ((1 : Int32) + (2 : Int32)).toNatClampNeg) &&& (255 : Int32)))] [(.int (0 : Int32))]))
            subst hR
            exact own_retI X hx hret (hb hby own_d2_189) hlk ⟨rfl, N, e0⟩ (by decide) (by decide)
          · rw [if_neg hc177] at hR
            refine own_back (fun t k => XS.icmpNo X.here hx rfl (hb hby own_d2_177) rfl (flt hc177).1 k) ?_
            show own_Go _ _ _ _ _ _ _ (T.setTop (mkF m 180 #[.val (.ref x0), .val (.int (1 : Int32)), .val (.int i2), .val (.int i3), .val (.int (3 : Int32)), .val (.int i5), .val (.int t0), .val (.int ((oc ((1 : Int32) + (1 : Int32)).toNatClampNeg) &&& (255 : Int32))), .val (.int ((1 : Int32) + (2 : Int32))), .val (.int ((oc ((1 : Int32) + (2 : Int32)).toNatClampNeg) &&& (255 : Int32)))] []))
            refine own_back (fun t k => XS.iload X.here hx rfl (hb hby own_d2_180) rfl k) ?_
            show own_Go _ _ _ _ _ _ _ (T.setTop (mkF m 182 #[.val (.ref x0), .val (.int (1 : Int32)), .val (.int i2), .val (.int i3), .val (.int (3 : Int32)), .val (.int i5), .val (.int t0), .val (.int ((oc ((1 : Int32) + (1 : Int32)).toNatClampNeg) &&& (255 : Int32))), .val (.int ((1 : Int32) + (2 : Int32))), .val (.int ((oc ((1 : Int32) + (2 : Int32)).toNatClampNeg) &&& (255 : Int32)))] [(.int ((oc ((1 : Int32) + (2 : Int32)).toNatClampNeg) &&& (255 : Int32)))]))
            refine own_back (fun t k => XS.sipush X.here hx rfl (hb hby own_d2_182) k) ?_
            show own_Go _ _ _ _ _ _ _ (T.setTop (mkF m 185 #[.val (.ref x0), .val (.int (1 : Int32)), .val (.int i2), .val (.int i3), .val (.int (3 : Int32)), .val (.int i5), .val (.int t0), .val (.int ((oc ((1 : Int32) + (1 : Int32)).toNatClampNeg) &&& (255 : Int32))), .val (.int ((1 : Int32) + (2 : Int32))), .val (.int ((oc ((1 : Int32) + (2 : Int32)).toNatClampNeg) &&& (255 : Int32)))] [(.int (191 : Int32)), (.int ((oc ((1 : Int32) + (2 : Int32)).toNatClampNeg) &&& (255 : Int32)))]))
            by_cases hc185 : (191 : Int32) < ((oc ((1 : Int32) + (2 : Int32)).toNatClampNeg) &&& (255 : Int32))
            · rw [if_pos hc185] at hR
              refine own_back (fun t k => XS.icmpNo X.here hx rfl (hb hby own_d2_185) rfl (tlt hc185).2.2.2 k) ?_
              show own_Go _ _ _ _ _ _ _ (T.setTop (mkF m 188 #[.val (.ref x0), .val (.int (1 : Int32)), .val (.int i2), .val (.int i3), .val (.int (3 : Int32)), .val (.int i5), .val (.int t0), .val (.int ((oc ((1 : Int32) + (1 : Int32)).toNatClampNeg) &&& (255 : Int32))), .val (.int ((1 : Int32) + (2 : Int32))), .val (.int ((oc ((1 : Int32) + (2 : Int32)).toNatClampNeg) &&& (255 : Int32)))] []))
              refine own_back (fun t k => XS.iconst X.here hx rfl (hb hby own_d2_188) k) ?_
              show own_Go _ _ _ _ _ _ _ (T.setTop (mkF m 189 #[.val (.ref x0), .val (.int (1 : Int32)), .val (.int i2), .val (.int i3), .val (.int (3 : Int32)), .val (.int i5), .val (.int t0), .val (.int ((oc ((1 : Int32) + (1 : Int32)).toNatClampNeg) &&& (255 : Int32))), .val (.int ((1 : Int32) + (2 : Int32))), .val (.int ((oc ((1 : Int32) + (2 : Int32)).toNatClampNeg) &&& (255 : Int32)))] [(.int (0 : Int32))]))
              subst hR
              exact own_retI X hx hret (hb hby own_d2_189) hlk ⟨rfl, N, e0⟩ (by decide) (by decide)
            · rw [if_neg hc185] at hR
              refine own_back (fun t k => XS.icmpYes X.here hx rfl (pc0 := 185) (pc' := 190) rfl (hb hby own_d2_185) rfl (flt hc185).2.2.2 (by decide) (by decide) k) ?_
              show own_Go _ _ _ _ _ _ _ (T.setTop (mkF m 190 #[.val (.ref x0), .val (.int (1 : Int32)), .val (.int i2), .val (.int i3), .val (.int (3 : Int32)), .val (.int i5), .val (.int t0), .val (.int ((oc ((1 : Int32) + (1 : Int32)).toNatClampNeg) &&& (255 : Int32))), .val (.int ((1 : Int32) + (2 : Int32))), .val (.int ((oc ((1 : Int32) + (2 : Int32)).toNatClampNeg) &&& (255 : Int32)))] []))
              refine own_back (fun t k => XS.iinc X.here hx rfl (hb hby own_d2_190) rfl (l' := #[.val (.ref x0), .val (.int (1 : Int32)), .val (.int i2), .val (.int i3), .val (.int (3 : Int32)), .val (.int i5), .val (.int t0), .val (.int ((oc ((1 : Int32) + (1 : Int32)).toNatClampNeg) &&& (255 : Int32))), .val (.int (((1 : Int32) + (2 : Int32)) + (1 : Int32))), .val (.int ((oc ((1 : Int32) + (2 : Int32)).toNatClampNeg) &&& (255 : Int32)))]) rfl k) ?_
              show own_Go _ _ _ _ _ _ _ (T.setTop (mkF m 193 #[.val (.ref x0), .val (.int (1 : Int32)), .val (.int i2), .val (.int i3), .val (.int (3 : Int32)), .val (.int i5), .val (.int t0), .val (.int ((oc ((1 : Int32) + (1 : Int32)).toNatClampNeg) &&& (255 : Int32))), .val (.int (((1 : Int32) + (2 : Int32)) + (1 : Int32))), .val (.int ((oc ((1 : Int32) + (2 : Int32)).toNatClampNeg) &&& (255 : Int32)))] []))
              refine own_back (fun t k => XS.goto X.here hx rfl (pc0 := 193) (pc' := 153) rfl (hb hby own_d2_193) (by decide) (by decide) k) ?_
              show own_Go _ _ _ _ _ _ _ (T.setTop (mkF m 153 #[.val (.ref x0), .val (.int (1 : Int32)), .val (.int i2), .val (.int i3), .val (.int (3 : Int32)), .val (.int i5), .val (.int t0), .val (.int ((oc ((1 : Int32) + (1 : Int32)).toNatClampNeg) &&& (255 : Int32))), .val (.int (((1 : Int32) + (2 : Int32)) + (1 : Int32))), .val (.int ((oc ((1 : Int32) + (2 : Int32)).toNatClampNeg) &&& (255 : Int32)))] []))
              refine own_back (fun t k => XS.iload X.here hx rfl (hb hby own_d2_153) rfl k) ?_
              show own_Go _ _ _ _ _ _ _ (T.setTop (mkF m 155 #[.val (.ref x0), .val (.int (1 : Int32)), .val (.int i2), .val (.int i3), .val (.int (3 : Int32)), .val (.int i5), .val (.int t0), .val (.int ((oc ((1 : Int32) + (1 : Int32)).toNatClampNeg) &&& (255 : Int32))), .val (.int (((1 : Int32) + (2 : Int32)) + (1 : Int32))), .val (.int ((oc ((1 : Int32) + (2 : Int32)).toNatClampNeg) &&& (255 : Int32)))] [(.int (((1 : Int32) + (2 : Int32)) + (1 : Int32)))]))
              refine own_back (fun t k => XS.iloadN X.here hx rfl (hb hby own_d2_155) rfl k) ?_
              show own_Go _ _ _ _ _ _ _ (T.setTop (mkF m 156 #[.val (.ref x0), .val (.int (1 : Int32)), .val (.int i2), .val (.int i3), .val (.int (3 : Int32)), .val (.int i5), .val (.int t0), .val (.int ((oc ((1 : Int32) + (1 : Int32)).toNatClampNeg) &&& (255 : Int32))), .val (.int (((1 : Int32) + (2 : Int32)) + (1 : Int32))), .val (.int ((oc ((1 : Int32) + (2 : Int32)).toNatClampNeg) &&& (255 : Int32)))] [(.int (1 : Int32)), (.int (((1 : Int32) + (2 : Int32)) + (1 : Int32)))]))
              refine own_back (fun t k => XS.iload X.here hx rfl (hb hby own_d2_156) rfl k) ?_
              show own_Go _ _ _ _ _ _ _ (T.setTop (mkF m 158 #[.val (.ref x0), .val (.int (1 : Int32)), .val (.int i2), .val (.int i3), .val (.int (3 : Int32)), .val (.int i5), .val (.int t0), .val (.int ((oc ((1 : Int32) + (1 : Int32)).toNatClampNeg) &&& (255 : Int32))), .val (.int (((1 : Int32) + (2 : Int32)) + (1 : Int32))), .val (.int ((oc ((1 : Int32) + (2 : Int32)).toNatClampNeg) &&& (255 : Int32)))] [(.int (3 : Int32)), (.int (1 : Int32)), (.int (((1 : Int32) + (2 : Int32)) + (1 : Int32)))]))
              refine own_back (fun t k => XS.iadd X.here hx rfl (hb hby own_d2_158) rfl k) ?_
              show own_Go _ _ _ _ _ _ _ (T.setTop (mkF m 159 #[.val (.ref x0), .val (.int (1 : Int32)), .val (.int i2), .val (.int i3), .val (.int (3 : Int32)), .val (.int i5), .val (.int t0), .val (.int ((oc ((1 : Int32) + (1 : Int32)).toNatClampNeg) &&& (255 : Int32))), .val (.int (((1 : Int32) + (2 : Int32)) + (1 : Int32))), .val (.int ((oc ((1 : Int32) + (2 : Int32)).toNatClampNeg) &&& (255 : Int32)))] [(.int ((1 : Int32) + (3 : Int32))), (.int (((1 : Int32) + (2 : Int32)) + (1 : Int32)))]))
              refine own_back (fun t k => XS.icmpYes X.here hx rfl (pc0 := 159) (pc' := 196) rfl (hb hby own_d2_159) rfl (flt ((by decide) : ¬ ((((1 : Int32) + (2 : Int32)) + (1 : Int32)) < ((1 : Int32) + (3 : Int32))))).2.1 (by decide) (by decide) k) ?_
              show own_Go _ _ _ _ _ _ _ (T.setTop (mkF m 196 #[.val (.ref x0), .val (.int (1 : Int32)), .val (.int i2), .val (.int i3), .val (.int (3 : Int32)), .val (.int i5), .val (.int t0), .val (.int ((oc ((1 : Int32) + (1 : Int32)).toNatClampNeg) &&& (255 : Int32))), .val (.int (((1 : Int32) + (2 : Int32)) + (1 : Int32))), .val (.int ((oc ((1 : Int32) + (2 : Int32)).toNatClampNeg) &&& (255 : Int32)))] []))
              refine own_back (fun t k => XS.iload X.here hx rfl (hb hby own_d2_196) rfl k) ?_
              show own_Go _ _ _ _ _ _ _ (T.setTop (mkF m 198 #[.val (.ref x0), .val (.int (1 : Int32)), .val (.int i2), .val (.int i3), .val (.int (3 : Int32)), .val (.int i5), .val (.int t0), .val (.int ((oc ((1 : Int32) + (1 : Int32)).toNatClampNeg) &&& (255 : Int32))), .val (.int (((1 : Int32) + (2 : Int32)) + (1 : Int32))), .val (.int ((oc ((1 : Int32) + (2 : Int32)).toNatClampNeg) &&& (255 : Int32)))] [(.int (3 : Int32))]))
              subst hR
              exact own_retI X hx hret (hb hby own_d2_198) hlk ⟨rfl, N, e0⟩ (by decide) (by decide)
        rw [if_neg hqi4_3] at hR
        obtain rfl : i4 = (4 : Int32) := by first | exact hs.resolve_left hqi4_2 | exact (hs.resolve_left hqi4_2).resolve_left hqi4_3
        by_cases hqx1_0 : x1 = (0 : Int32)
        · rw [if_pos hqx1_0] at hR
          subst hqx1_0
          refine own_back (fun t k => XS.iloadN X.here hx rfl (hb hby own_d2_148) rfl k) ?_
          show own_Go _ _ _ _ _ _ _ (T.setTop (mkF m 149 #[.val (.ref x0), .val (.int (0 : Int32)), .val (.int i2), .val (.int i3), .val (.int (4 : Int32)), .val (.int i5), .val (.int t0), .val (.int ((oc ((0 : Int32) + (1 : Int32)).toNatClampNeg) &&& (255 : Int32))), .unset, .unset] [(.int (0 : Int32))]))
          refine own_back (fun t k => XS.iconst X.here hx rfl (hb hby own_d2_149) k) ?_
          show own_Go _ _ _ _ _ _ _ (T.setTop (mkF m 150 #[.val (.ref x0), .val (.int (0 : Int32)), .val (.int i2), .val (.int i3), .val (.int (4 : Int32)), .val (.int i5), .val (.int t0), .val (.int ((oc ((0 : Int32) + (1 : Int32)).toNatClampNeg) &&& (255 : Int32))), .unset, .unset] [(.int (2 : Int32)), (.int (0 : Int32))]))
          refine own_back (fun t k => XS.iadd X.here hx rfl (hb hby own_d2_150) rfl k) ?_
          show own_Go _ _ _ _ _ _ _ (T.setTop (mkF m 151 #[.val (.ref x0), .val (.int (0 : Int32)), .val (.int i2), .val (.int i3), .val (.int (4 : Int32)), .val (.int i5), .val (.int t0), .val (.int ((oc ((0 : Int32) + (1 : Int32)).toNatClampNeg) &&& (255 : Int32))), .unset, .unset] [(.int ((0 : Int32) + (2 : Int32)))]))
          refine own_back (fun t k => XS.istore X.here hx rfl (hb hby own_d2_151) rfl (l' := #[.val (.ref x0), .val (.int (0 : Int32)), .val (.int i2), .val (.int i3), .val (.int (4 : Int32)), .val (.int i5), .val (.int t0), .val (.int ((oc ((0 : Int32) + (1 : Int32)).toNatClampNeg) &&& (255 : Int32))), .val (.int ((0 : Int32) + (2 : Int32))), .unset]) rfl k) ?_
          show own_Go _ _ _ _ _ _ _ (T.setTop (mkF m 153 #[.val (.ref x0), .val (.int (0 : Int32)), .val (.int i2), .val (.int i3), .val (.int (4 : Int32)), .val (.int i5), .val (.int t0), .val (.int ((oc ((0 : Int32) + (1 : Int32)).toNatClampNeg) &&& (255 : Int32))), .val (.int ((0 : Int32) + (2 : Int32))), .unset] []))
          refine own_back (fun t k => XS.iload X.here hx rfl (hb hby own_d2_153) rfl k) ?_
          show own_Go _ _ _ _ _ _ _ (T.setTop (mkF m 155 #[.val (.ref x0), .val (.int (0 : Int32)), .val (.int i2), .val (.int i3), .val (.int (4 : Int32)), .val (.int i5), .val (.int t0), .val (.int ((oc ((0 : Int32) + (1 : Int32)).toNatClampNeg) &&& (255 : Int32))), .val (.int ((0 : Int32) + (2 : Int32))), .unset] [(.int ((0 : Int32) + (2 : Int32)))]))
          refine own_back (fun t k => XS.iloadN X.here hx rfl (hb hby own_d2_155) rfl k) ?_
          show own_Go _ _ _ _ _ _ _ (T.setTop (mkF m 156 #[.val (.ref x0), .val (.int (0 : Int32)), .val (.int i2), .val (.int i3), .val (.int (4 : Int32)), .val (.int i5), .val (.int t0), .val (.int ((oc ((0 : Int32) + (1 : Int32)).toNatClampNeg) &&& (255 : Int32))), .val (.int ((0 : Int32) + (2 : Int32))), .unset] [(.int (0 : Int32)), (.int ((0 : Int32) + (2 : Int32)))]))
          refine own_back (fun t k => XS.iload X.here hx rfl (hb hby own_d2_156) rfl k) ?_
          show own_Go _ _ _ _ _ _ _ (T.setTop (mkF m 158 #[.val (.ref x0), .val (.int (0 : Int32)), .val (.int i2), .val (.int i3), .val (.int (4 : Int32)), .val (.int i5), .val (.int t0), .val (.int ((oc ((0 : Int32) + (1 : Int32)).toNatClampNeg) &&& (255 : Int32))), .val (.int ((0 : Int32) + (2 : Int32))), .unset] [(.int (4 : Int32)), (.int (0 : Int32)), (.int ((0 : Int32) + (2 : Int32)))]))
          refine own_back (fun t k => XS.iadd X.here hx rfl (hb hby own_d2_158) rfl k) ?_
          show own_Go _ _ _ _ _ _ _ (T.setTop (mkF m 159 #[.val (.ref x0), .val (.int (0 : Int32)), .val (.int i2), .val (.int i3), .val (.int (4 : Int32)), .val (.int i5), .val (.int t0), .val (.int ((oc ((0 : Int32) + (1 : Int32)).toNatClampNeg) &&& (255 : Int32))), .val (.int ((0 : Int32) + (2 : Int32))), .unset] [(.int ((0 : Int32) + (4 : Int32))), (.int ((0 : Int32) + (2 : Int32)))]))
          refine own_back (fun t k => XS.icmpNo X.here hx rfl (hb hby own_d2_159) rfl (tlt ((by decide) : ((0 : Int32) + (2 : Int32)) < ((0 : Int32) + (4 : Int32)))).2.1 k) ?_
          show own_Go _ _ _ _ _ _ _ (T.setTop (mkF m 162 #[.val (.ref x0), .val (.int (0 : Int32)), .val (.int i2), .val (.int i3), .val (.int (4 : Int32)), .val (.int i5), .val (.int t0), .val (.int ((oc ((0 : Int32) + (1 : Int32)).toNatClampNeg) &&& (255 : Int32))), .val (.int ((0 : Int32) + (2 : Int32))), .unset] []))
          refine own_back (fun t k => XS.aloadN X.here hx rfl (hb hby own_d2_162) rfl rfl k) ?_
          show own_Go _ _ _ _ _ _ _ (T.setTop (mkF m 163 #[.val (.ref x0), .val (.int (0 : Int32)), .val (.int i2), .val (.int i3), .val (.int (4 : Int32)), .val (.int i5), .val (.int t0), .val (.int ((oc ((0 : Int32) + (1 : Int32)).toNatClampNeg) &&& (255 : Int32))), .val (.int ((0 : Int32) + (2 : Int32))), .unset] [(.ref x0)]))
          refine own_back (fun t k => XS.iload X.here hx rfl (hb hby own_d2_163) rfl k) ?_
          show own_Go _ _ _ _ _ _ _ (T.setTop (mkF m 165 #[.val (.ref x0), .val (.int (0 : Int32)), .val (.int i2), .val (.int i3), .val (.int (4 : Int32)), .val (.int i5), .val (.int t0), .val (.int ((oc ((0 : Int32) + (1 : Int32)).toNatClampNeg) &&& (255 : Int32))), .val (.int ((0 : Int32) + (2 : Int32))), .unset] [(.int ((0 : Int32) + (2 : Int32))), (.ref x0)]))
          refine own_back (fun t k => own_ldB X hx hZ e0 VA (j := ((0 : Int32) + (2 : Int32))) (w := (oc ((0 : Int32) + (2 : Int32)).toNatClampNeg)) (by decide) rfl (g := (mkF m 165 #[.val (.ref x0), .val (.int (0 : Int32)), .val (.int i2), .val (.int i3), .val (.int (4 : Int32)), .val (.int i5), .val (.int t0), .val (.int ((oc ((0 : Int32) + (1 : Int32)).toNatClampNeg) &&& (255 : Int32))), .val (.int ((0 : Int32) + (2 : Int32))), .unset] [(.int ((0 : Int32) + (2 : Int32))), (.ref x0)])) rfl rfl (hb hby own_d2_165) t k) ?_
          show own_Go _ _ _ _ _ _ _ (T.setTop (mkF m 166 #[.val (.ref x0), .val (.int (0 : Int32)), .val (.int i2), .val (.int i3), .val (.int (4 : Int32)), .val (.int i5), .val (.int t0), .val (.int ((oc ((0 : Int32) + (1 : Int32)).toNatClampNeg) &&& (255 : Int32))), .val (.int ((0 : Int32) + (2 : Int32))), .unset] [(.int (oc ((0 : Int32) + (2 : Int32)).toNatClampNeg))]))
          refine own_back (fun t k => XS.sipush X.here hx rfl (hb hby own_d2_166) k) ?_
          show own_Go _ _ _ _ _ _ _ (T.setTop (mkF m 169 #[.val (.ref x0), .val (.int (0 : Int32)), .val (.int i2), .val (.int i3), .val (.int (4 : Int32)), .val (.int i5), .val (.int t0), .val (.int ((oc ((0 : Int32) + (1 : Int32)).toNatClampNeg) &&& (255 : Int32))), .val (.int ((0 : Int32) + (2 : Int32))), .unset] [(.int (255 : Int32)), (.int (oc ((0 : Int32) + (2 : Int32)).toNatClampNeg))]))
          refine own_back (fun t k => XS.iand X.here hx rfl (hb hby own_d2_169) rfl k) ?_
          show own_Go _ _ _ _ _ _ _ (T.setTop (mkF m 170 #[.val (.ref x0), .val (.int (0 : Int32)), .val (.int i2), .val (.int i3), .val (.int (4 : Int32)), .val (.int i5), .val (.int t0), .val (.int ((oc ((0 : Int32) + (1 : Int32)).toNatClampNeg) &&& (255 : Int32))), .val (.int ((0 : Int32) + (2 : Int32))), .unset] [(.int ((oc ((0 : Int32) + (2 : Int32)).toNatClampNeg) &&& (255 : Int32)))]))
          refine own_back (fun t k => XS.istore X.here hx rfl (hb hby own_d2_170) rfl (l' := #[.val (.ref x0), .val (.int (0 : Int32)), .val (.int i2), .val (.int i3), .val (.int (4 : Int32)), .val (.int i5), .val (.int t0), .val (.int ((oc ((0 : Int32) + (1 : Int32)).toNatClampNeg) &&& (255 : Int32))), .val (.int ((0 : Int32) + (2 : Int32))), .val (.int ((oc ((0 : Int32) + (2 : Int32)).toNatClampNeg) &&& (255 : Int32)))]) rfl k) ?_
          show own_Go _ _ _ _ _ _ _ (T.setTop (mkF m 172 #[.val (.ref x0), .val (.int (0 : Int32)), .val (.int i2), .val (.int i3), .val (.int (4 : Int32)), .val (.int i5), .val (.int t0), .val (.int ((oc ((0 : Int32) + (1 : Int32)).toNatClampNeg) &&& (255 : Int32))), .val (.int ((0 : Int32) + (2 : Int32))), .val (.int ((oc ((0 : Int32) + (2 : Int32)).toNatClampNeg) &&& (255 : Int32)))] []))
          refine own_back (fun t k => XS.iload X.here hx rfl (hb hby own_d2_172) rfl k) ?_
          show own_Go _ _ _ _ _ _ _ (T.setTop (mkF m 174 #[.val (.ref x0), .val (.int (0 : Int32)), .val (.int i2), .val (.int i3), .val (.int (4 : Int32)), .val (.int i5), .val (.int t0), .val (.int ((oc ((0 : Int32) + (1 : Int32)).toNatClampNeg) &&& (255 : Int32))), .val (.int ((0 : Int32) + (2 : Int32))), .val (.int ((oc ((0 : Int32) + (2 : Int32)).toNatClampNeg) &&& (255 : Int32)))] [(.int ((oc ((0 : Int32) + (2 : Int32)).toNatClampNeg) &&& (255 : Int32)))]))
          refine own_back (fun t k => XS.sipush X.here hx rfl (hb hby own_d2_174) k) ?_
          show own_Go _ _ _ _ _ _ _ (T.setTop (mkF m 177 #[.val (.ref x0), .val (.int (0 : Int32)), .val (.int i2), .val (.int i3), .val (.int (4 : Int32)), .val (.int i5), .val (.int t0), .val (.int ((oc ((0 : Int32) + (1 : Int32)).toNatClampNeg) &&& (255 : Int32))), .val (.int ((0 : Int32) + (2 : Int32))), .val (.int ((oc ((0 : Int32) + (2 : Int32)).toNatClampNeg) &&& (255 : Int32)))] [(.int (128 : Int32)), (.int ((oc ((0 : Int32) + (2 : Int32)).toNatClampNeg) &&& (255 : Int32)))]))
          by_cases hc177 : ((oc ((0 : Int32) + (2 : Int32)).toNatClampNeg) &&& (255 : Int32)) < (128 : Int32)
          · rw [if_pos hc177] at hR
            refine own_back (fun t k => XS.icmpYes X.here hx rfl (pc0 := 177) (pc' := 188) rfl (hb hby own_d2_177) rfl (tlt hc177).1 (by decide) (by decide) k) ?_
            show own_Go _ _ _ _ _ _ _ (T.setTop (mkF m 188 #[.val (.ref x0), .val (.int (0 : Int32)), .val (.int i2), .val (.int i3), .val (.int (4 : Int32)), .val (.int i5), .val (.int t0), .val (.int ((oc ((0 : Int32) + (1 : Int32)).toNatClampNeg) &&& (255 : Int32))), .val (.int ((0 : Int32) + (2 : Int32))), .val (.int ((oc ((0 : Int32) + (2 : Int32)).toNatClampNeg) &&& (255 : Int32)))] []))
            refine own_back (fun t k => XS.iconst X.here hx rfl (hb hby own_d2_188) k) ?_
            show own_Go _ _ _ _ _ _ _ (T.setTop (mkF m 189 #[.val (.ref x0), .val (.int (0 : Int32)), .val (.int i2), .val (.int i3), .val (.int (4 : Int32)), .val (.int i5), .val (.int t0), .val (.int ((oc ((0 : Int32) + (1 : Int32)).toNatClampNeg) &&& (255 : Int32))), .val (.int ((0 : Int32) + (2 : Int32))), .val (.int ((oc ((0 : Int32) + (2 : Int32)).toNatClampNeg) &&& (255 : Int32)))] [(.int (0 : Int32))]))
            subst hR
            exact own_retI X hx hret (hb hby own_d2_189) hlk ⟨rfl, N, e0⟩ (by decide) (by decide)
          · rw [if_neg hc177] at hR
            refine own_back (fun t k => XS.icmpNo X.here hx rfl (hb hby own_d2_177) rfl (flt hc177).1 k) ?_
            show own_Go _ _ _ _ _ _ _ (T.setTop (mkF m 180 #[.val (.ref x0), .val (.int (0 : Int32)), .val (.int i2), .val (.int i3), .val (.int (4 : Int32)), .val (.int i5), .val (.int t0), .val (.int ((oc ((0 : Int32) + (1 : Int32)).toNatClampNeg) &&& (255 : Int32))), .val (.int ((0 : Int32) + (2 : Int32))), .val (.int ((oc ((0 : Int32) + (2 : Int32)).toNatClampNeg) &&& (255 : Int32)))] []))
            refine own_back (fun t k => XS.iload X.here hx rfl (hb hby own_d2_180) rfl k) ?_
            show own_Go _ _ _ _ _ _ _ (T.setTop (mkF m 182 #[.val (.ref x0), .val (.int (0 : Int32)), .val (.int i2), .val (.int i3), .val (.int (4 : Int32)), .val (.int i5), .val (.int t0), .val (.int ((oc ((0 : Int32) + (1 : Int32)).toNatClampNeg) &&& (255 : Int32))), .val (.int ((0 : Int32) + (2 : Int32))), .val (.int ((oc ((0 : Int32) + (2 : Int32)).toNatClampNeg) &&& (255 : Int32)))] [(.int ((oc ((0 : Int32) + (2 : Int32)).toNatClampNeg) &&& (255 : Int32)))]))
            refine own_back (fun t k => XS.sipush X.here hx rfl (hb hby own_d2_182) k) ?_
            show own_Go _ _ _ _ _ _ _ (T.setTop (mkF m 185 #[.val (.ref x0), .val (.int (0 : Int32)), .val (.int i2), .val (.int i3), .val (.int (4 : Int32)), .val (.int i5), .val (.int t0), .val (.int ((oc ((0 : Int32) + (1 : Int32)).toNatClampNeg) &&& (255 : Int32))), .val (.int ((0 : Int32) + (2 : Int32))), .val (.int ((oc ((0 : Int32) + (2 : Int32)).toNatClampNeg) &&& (255 : Int32)))] [(.int (191 : Int32)), (.int ((oc ((0 : Int32) + (2 : Int32)).toNatClampNeg) &&& (255 : Int32)))]))
            by_cases hc185 : (191 : Int32) < ((oc ((0 : Int32) + (2 : Int32)).toNatClampNeg) &&& (255 : Int32))
            · rw [if_pos hc185] at hR
              refine own_back (fun t k => XS.icmpNo X.here hx rfl (hb hby own_d2_185) rfl (tlt hc185).2.2.2 k) ?_
              show own_Go _ _ _ _ _ _ _ (T.setTop (mkF m 188 #[.val (.ref x0), .val (.int (0 : Int32)), .val (.int i2), .val (.int i3), .val (.int (4 : Int32)), .val (.int i5), .val (.int t0), .val (.int ((oc ((0 : Int32) + (1 : Int32)).toNatClampNeg) &&& (255 : Int32))), .val (.int ((0 : Int32) + (2 : Int32))), .val (.int ((oc ((0 : Int32) + (2 : Int32)).toNatClampNeg) &&& (255 : Int32)))] []))
              refine own_back (fun t k => XS.iconst X.here hx rfl (hb hby own_d2_188) k) ?_
              show own_Go _ _ _ _ _ _ _ (T.setTop (mkF m 189 #[.val (.ref x0), .val (.int (0 : Int32)), .val (.int i2), .val (.int i3), .val (.int (4 : Int32)), .val (.int i5), .val (.int t0), .val (.int ((oc ((0 : Int32) + (1 : Int32)).toNatClampNeg) &&& (255 : Int32))), .val (.int ((0 : Int32) + (2 : Int32))), .val (.int ((oc ((0 : Int32) + (2 : Int32)).toNatClampNeg) &&& (255 : Int32)))] [(.int (0 : Int32))]))
              subst hR
              exact own_retI X hx hret (hb hby own_d2_189) hlk ⟨rfl, N, e0⟩ (by decide) (by decide)
            · rw [if_neg hc185] at hR
              refine own_back (fun t k => XS.icmpYes X.here hx rfl (pc0 := 185) (pc' := 190) rfl (hb hby own_d2_185) rfl (flt hc185).2.2.2 (by decide) (by decide) k) ?_
              show own_Go _ _ _ _ _ _ _ (T.setTop (mkF m 190 #[.val (.ref x0), .val (.int (0 : Int32)), .val (.int i2), .val (.int i3), .val (.int (4 : Int32)), .val (.int i5), .val (.int t0), .val (.int ((oc ((0 : Int32) + (1 : Int32)).toNatClampNeg) &&& (255 : Int32))), .val (.int ((0 : Int32) + (2 : Int32))), .val (.int ((oc ((0 : Int32) + (2 : Int32)).toNatClampNeg) &&& (255 : Int32)))] []))
              refine own_back (fun t k => XS.iinc X.here hx rfl (hb hby own_d2_190) rfl (l' := #[.val (.ref x0), .val (.int (0 : Int32)), .val (.int i2), .val (.int i3), .val (.int (4 : Int32)), .val (.int i5), .val (.int t0), .val (.int ((oc ((0 : Int32) + (1 : Int32)).toNatClampNeg) &&& (255 : Int32))), .val (.int (((0 : Int32) + (2 : Int32)) + (1 : Int32))), .val (.int ((oc ((0 : Int32) + (2 : Int32)).toNatClampNeg) &&& (255 : Int32)))]) rfl k) ?_
              show own_Go _ _ _ _ _ _ _ (T.setTop (mkF m 193 #[.val (.ref x0), .val (.int (0 : Int32)), .val (.int i2), .val (.int i3), .val (.int (4 : Int32)), .val (.int i5), .val (.int t0), .val (.int ((oc ((0 : Int32) + (1 : Int32)).toNatClampNeg) &&& (255 : Int32))), .val (.int (((0 : Int32) + (2 : Int32)) + (1 : Int32))), .val (.int ((oc ((0 : Int32) + (2 : Int32)).toNatClampNeg) &&& (255 : Int32)))] []))
              refine own_back (fun t k => XS.goto X.here hx rfl (pc0 := 193) (pc' := 153) rfl (hb hby own_d2_193) (by decide) (by decide) k) ?_
              show own_Go _ _ _ _ _ _ _ (T.setTop (mkF m 153 #[.val (.ref x0), .val (.int (0 : Int32)), .val (.int i2), .val (.int i3), .val (.int (4 : Int32)), .val (.int i5), .val (.int t0), .val (.int ((oc ((0 : Int32) + (1 : Int32)).toNatClampNeg) &&& (255 : Int32))), .val (.int (((0 : Int32) + (2 : Int32)) + (1 : Int32))), .val (.int ((oc ((0 : Int32) + (2 : Int32)).toNatClampNeg) &&& (255 : Int32)))] []))
              refine own_back (fun t k => XS.iload X.here hx rfl (hb hby own_d2_153) rfl k) ?_
              show own_Go _ _ _ _ _ _ _ (T.setTop (mkF m 155 #[.val (.ref x0), .val (.int (0 : Int32)), .val (.int i2), .val (.int i3), .val (.int (4 : Int32)), .val (.int i5), .val (.int t0), .val (.int ((oc ((0 : Int32) + (1 : Int32)).toNatClampNeg) &&& (255 : Int32))), .val (.int (((0 : Int32) + (2 : Int32)) + (1 : Int32))), .val (.int ((oc ((0 : Int32) + (2 : Int32)).toNatClampNeg) &&& (255 : Int32)))] [(.int (((0 : Int32) + (2 : Int32)) + (1 : Int32)))]))
              refine own_back (fun t k => XS.iloadN X.here hx rfl (hb hby own_d2_155) rfl k) ?_
              show own_Go _ _ _ _ _ _ _ (T.setTop (mkF m 156 #[.val (.ref x0), .val (.int (0 : Int32)), .val (.int i2), .val (.int i3), .val (.int (4 : Int32)), .val (.int i5), .val (.int t0), .val (.int ((oc ((0 : Int32) + (1 : Int32)).toNatClampNeg) &&& (255 : Int32))), .val (.int (((0 : Int32) + (2 : Int32)) + (1 : Int32))), .val (.int ((oc ((0 : Int32) + (2 : Int32)).toNatClampNeg) &&& (255 : Int32)))] [(.int (0 : Int32)), (.int (((0 : Int32) + (2 : Int32)) + (1 : Int32)))]))
              refine own_back (fun t k => XS.iload X.here hx rfl (hb hby own_d2_156) rfl k) ?_
              show own_Go _ _ _ _ _ _ _ (T.setTop (mkF m 158 #[.val (.ref x0), .val (.int (0 : Int32)), .val (.int i2), .val (.int i3), .val (.int (4 : Int32)), .val (.int i5), .val (.int t0), .val (.int ((oc ((0 : Int32) + (1 : Int32)).toNatClampNeg) &&& (255 : Int32))), .val (.int (((0 : Int32) + (2 : Int32)) + (1 : Int32))), .val (.int ((oc ((0 : Int32) + (2 : Int32)).toNatClampNeg) &&& (255 : Int32)))] [(.int (4 : Int32)), (.int (0 : Int32)), (.int (((0 : Int32) + (2 : Int32)) + (1 : Int32)))]))
              refine own_back (fun t k => XS.iadd X.here hx rfl (hb hby own_d2_158) rfl k) ?_
              show own_Go _ _ _ _ _ _ _ (T.setTop (mkF m 159 #[.val (.ref x0), .val (.int (0 : Int32)), .val (.int i2), .val (.int i3), .val (.int (4 : Int32)), .val (.int i5), .val (.int t0), .val (.int ((oc ((0 : Int32) + (1 : Int32)).toNatClampNeg) &&& (255 : Int32))), .val (.int (((0 : Int32) + (2 : Int32)) + (1 : Int32))), .val (.int ((oc ((0 : Int32) + (2 : Int32)).toNatClampNeg) &&& (255 : Int32)))] [(.int ((0 : Int32) + (4 : Int32))), (.int (((0 : Int32) + (2 : Int32)) + (1 : Int32)))]))
              refine own_back (fun t k => XS.icmpNo X.here hx rfl (hb hby own_d2_159) rfl (tlt ((by decide) : (((0 : Int32) + (2 : Int32)) + (1 : Int32)) < ((0 : Int32) + (4 : Int32)))).2.1 k) ?_
              show own_Go _ _ _ _ _ _ _ (T.setTop (mkF m 162 #[.val (.ref x0), .val (.int (0 : Int32)), .val (.int i2), .val (.int i3), .val (.int (4 : Int32)), .val (.int i5), .val (.int t0), .val (.int ((oc ((0 : Int32) + (1 : Int32)).toNatClampNeg) &&& (255 : Int32))), .val (.int (((0 : Int32) + (2 : Int32)) + (1 : Int32))), .val (.int ((oc ((0 : Int32) + (2 : Int32)).toNatClampNeg) &&& (255 : Int32)))] []))
              refine own_back (fun t k => XS.aloadN X.here hx rfl (hb hby own_d2_162) rfl rfl k) ?_
              show own_Go _ _ _ _ _ _ _ (T.setTop (mkF m 163 #[.val (.ref x0), .val (.int (0 : Int32)), .val (.int i2), .val (.int i3), .val (.int (4 : Int32)), .val (.int i5), .val (.int t0), .val (.int ((oc ((0 : Int32) + (1 : Int32)).toNatClampNeg) &&& (255 : Int32))), .val (.int (((0 : Int32) + (2 : Int32)) + (1 : Int32))), .val (.int ((oc ((0 : Int32) + (2 : Int32)).toNatClampNeg) &&& (255 : Int32)))] [(.ref x0)]))
              refine own_back (fun t k => XS.iload X.here hx rfl (hb hby own_d2_163) rfl k) ?_
              show own_Go _ _ _ _ _ _ _ (T.setTop (mkF m 165 #[.val (.ref x0), .val (.int (0 : Int32)), .val (.int i2), .val (.int i3), .val (.int (4 : Int32)), .val (.int i5), .val (.int t0), .val (.int ((oc ((0 : Int32) + (1 : Int32)).toNatClampNeg) &&& (255 : Int32))), .val (.int (((0 : Int32) + (2 : Int32)) + (1 : Int32))), .val (.int ((oc ((0 : Int32) + (2 : Int32)).toNatClampNeg) &&& (255 : Int32)))] [(.int (((0 : Int32) + (2 : Int32)) + (1 : Int32))), (.ref x0)]))
              refine own_back (fun t k => own_ldB X hx hZ e0 VA (j := (((0 : Int32) + (2 : Int32)) + (1 : Int32))) (w := (oc (((0 : Int32) + (2 : Int32)) + (1 : Int32)).toNatClampNeg)) (by decide) rfl (g := (mkF m 165 #[.val (.ref x0), .val (.int (0 : Int32)), .val (.int i2), .val (.int i3), .val (.int (4 : Int32)), .val (.int i5), .val (.int t0), .val (.int ((oc ((0 : Int32) + (1 : Int32)).toNatClampNeg) &&& (255 : Int32))), .val (.int (((0 : Int32) + (2 : Int32)) + (1 : Int32))), .val (.int ((oc ((0 : Int32) + (2 : Int32)).toNatClampNeg) &&& (255 : Int32)))] [(.int (((0 : Int32) + (2 : Int32)) + (1 : Int32))), (.ref x0)])) rfl rfl (hb hby own_d2_165) t k) ?_
              show own_Go _ _ _ _ _ _ _ (T.setTop (mkF m 166 #[.val (.ref x0), .val (.int (0 : Int32)), .val (.int i2), .val (.int i3), .val (.int (4 : Int32)), .val (.int i5), .val (.int t0), .val (.int ((oc ((0 : Int32) + (1 : Int32)).toNatClampNeg) &&& (255 : Int32))), .val (.int (((0 : Int32) + (2 : Int32)) + (1 : Int32))), .val (.int ((oc ((0 : Int32) + (2 : Int32)).toNatClampNeg) &&& (255 : Int32)))] [(.int (oc (((0 : Int32) + (2 : Int32)) + (1 : Int32)).toNatClampNeg))]))
              refine own_back (fun t k => XS.sipush X.here hx rfl (hb hby own_d2_166) k) ?_
              show own_Go _ _ _ _ _ _ _ (T.setTop (mkF m 169 #[.val (.ref x0), .val (.int (0 : Int32)), .val (.int i2), .val (.int i3), .val (.int (4 : Int32)), .val (.int i5), .val (.int t0), .val (.int ((oc ((0 : Int32) + (1 : Int32)).toNatClampNeg) &&& (255 : Int32))), .val (.int (((0 : Int32) + (2 : Int32)) + (1 : Int32))), .val (.int ((oc ((0 : Int32) + (2 : Int32)).toNatClampNeg) &&& (255 : Int32)))] [(.int (255 : Int32)), (.int (oc (((0 : Int32) + (2 : Int32)) + (1 : Int32)).toNatClampNeg))]))
              refine own_back (fun t k => XS.iand X.here hx rfl (hb hby own_d2_169) rfl k) ?_
              show own_Go _ _ _ _ _ _ _ (T.setTop (mkF m 170 #[.val (.ref x0), .val (.int (0 : Int32)), .val (.int i2), .val (.int i3), .val (.int (4 : Int32)), .val (.int i5), .val (.int t0), .val (.int ((oc ((0 : Int32) + (1 : Int32)).toNatClampNeg) &&& (255 : Int32))), .val (.int (((0 : Int32) + (2 : Int32)) + (1 : Int32))), .val (.int ((oc ((0 : Int32) + (2 : Int32)).toNatClampNeg) &&& (255 : Int32)))] [(.int ((oc (((0 : Int32) + (2 : Int32)) + (1 : Int32)).toNatClampNeg) &&& (255 : Int32)))]))
              refine own_back (fun t k => XS.istore X.here hx rfl (hb hby own_d2_170) rfl (l' := #[.val (.ref x0), .val (.int (0 : Int32)), .val (.int i2), .val (.int i3), .val (.int (4 : Int32)), .val (.int i5), .val (.int t0), .val (.int ((oc ((0 : Int32) + (1 : Int32)).toNatClampNeg) &&& (255 : Int32))), .val (.int (((0 : Int32) + (2 : Int32)) + (1 : Int32))), .val (.int ((oc (((0 : Int32) + (2 : Int32)) + (1 : Int32)).toNatClampNeg) &&& (255 : Int32)))]) rfl k) ?_
              show own_Go _ _ _ _ _ _ _ (T.setTop (mkF m 172 #[.val (.ref x0), .val (.int (0 : Int32)), .val (.int i2), .val (.int i3), .val (.int (4 : Int32)), .val (.int i5), .val (.int t0), .val (.int ((oc ((0 : Int32) + (1 : Int32)).toNatClampNeg) &&& (255 : Int32))), .val (.int (((0 : Int32) + (2 : Int32)) + (1 : Int32))), .val (.int ((oc (((0 : Int32) + (2 : Int32)) + (1 : Int32)).toNatClampNeg) &&& (255 : Int32)))] []))
              refine own_back (fun t k => XS.iload X.here hx rfl (hb hby own_d2_172) rfl k) ?_
              show own_Go _ _ _ _ _ _ _ (T.setTop (mkF m 174 #[.val (.ref x0), .val (.int (0 : Int32)), .val (.int i2), .val (.int i3), .val (.int (4 : Int32)), .val (.int i5), .val (.int t0), .val (.int ((oc ((0 : Int32) + (1 : Int32)).toNatClampNeg) &&& (255 : Int32))), .val (.int (((0 : Int32) + (2 : Int32)) + (1 : Int32))), .val (.int ((oc (((0 : Int32) + (2 : Int32)) + (1 : Int32)).toNatClampNeg) &&& (255 : Int32)))] [(.int ((oc (((0 : Int32) + (2 : Int32)) + (1 : Int32)).toNatClampNeg) &&& (255 : Int32)))]))
              refine own_back (fun t k => XS.sipush X.here hx rfl (hb hby own_d2_174) k) ?_
              show own_Go _ _ _ _ _ _ _ (T.setTop (mkF m 177 #[.val (.ref x0), .val (.int (0 : Int32)), .val (.int i2), .val (.int i3), .val (.int (4 : Int32)), .val (.int i5), .val (.int t0), .val (.int ((oc ((0 : Int32) + (1 : Int32)).toNatClampNeg) &&& (255 : Int32))), .val (.int (((0 : Int32) + (2 : Int32)) + (1 : Int32))), .val (.int ((oc (((0 : Int32) + (2 : Int32)) + (1 : Int32)).toNatClampNeg) &&& (255 : Int32)))] [(.int (128 : Int32)), (.int ((oc (((0 : Int32) + (2 : Int32)) + (1 : Int32)).toNatClampNeg) &&& (255 : Int32)))]))
              by_cases hc177 : ((oc (((0 : Int32) + (2 : Int32)) + (1 : Int32)).toNatClampNeg) &&& (255 : Int32)) < (128 : Int32)
              · rw [if_pos hc177] at hR
                refine own_back (fun t k => XS.icmpYes X.here hx rfl (pc0 := 177) (pc' := 188) rfl (hb hby own_d2_177) rfl (tlt hc177).1 (by decide) (by decide) k) ?_
                show own_Go _ _ _ _ _ _ _ (T.setTop (mkF m 188 #[.val (.ref x0), .val (.int (0 : Int32)), .val (.int i2), .val (.int i3), .val (.int (4 : Int32)), .val (.int i5), .val (.int t0), .val (.int ((oc ((0 : Int32) + (1 : Int32)).toNatClampNeg) &&& (255 : Int32))), .val (.int (((0 : Int32) + (2 : Int32)) + (1 : Int32))), .val (.int ((oc (((0 : Int32) + (2 : Int32)) + (1 : Int32)).toNatClampNeg) &&& (255 : Int32)))] []))
                refine own_back (fun t k => XS.iconst X.here hx rfl (hb hby own_d2_188) k) ?_
                show own_Go _ _ _ _ _ _ _ (T.setTop (mkF m 189 #[.val (.ref x0), .val (.int (0 : Int32)), .val (.int i2), .val (.int i3), .val (.int (4 : Int32)), .val (.int i5), .val (.int t0), .val (.int ((oc ((0 : Int32) + (1 : Int32)).toNatClampNeg) &&& (255 : Int32))), .val (.int (((0 : Int32) + (2 : Int32)) + (1 : Int32))), .val (.int ((oc (((0 : Int32) + (2 : Int32)) + (1 : Int32)).toNatClampNeg) &&& (255 : Int32)))] [(.int (0 : Int32))]))
                subst hR
                exact own_retI X hx hret (hb hby own_d2_189) hlk ⟨rfl, N, e0⟩ (by decide) (by decide)
              · rw [if_neg hc177] at hR
                refine own_back (fun t k => XS.icmpNo X.here hx rfl (hb hby own_d2_177) rfl (flt hc177).1 k) ?_
                show own_Go _ _ _ _ _ _ _ (T.setTop (mkF m 180 #[.val (.ref x0), .val (.int (0 : Int32)), .val (.int i2), .val (.int i3), .val (.int (4 : Int32)), .val (.int i5), .val (.int t0), .val (.int ((oc ((0 : Int32) + (1 : Int32)).toNatClampNeg) &&& (255 : Int32))), .val (.int (((0 : Int32) + (2 : Int32)) + (1 : Int32))), .val (.int ((oc (((0 : Int32) + (2 : Int32)) + (1 : Int32)).toNatClampNeg) &&& (255 : Int32)))] []))
                refine own_back (fun t k => XS.iload X.here hx rfl (hb hby own_d2_180) rfl k) ?_
                show own_Go _ _ _ _ _ _ _ (T.setTop (mkF m 182 #[.val (.ref x0), .val (.int (0 : Int32)), .val (.int i2), .val (.int i3), .val (.int (4 : Int32)), .val (.int i5), .val (.int t0), .val (.int ((oc ((0 : Int32) + (1 : Int32)).toNatClampNeg) &&& (255 : Int32))), .val (.int (((0 : Int32) + (2 : Int32)) + (1 : Int32))), .val (.int ((oc (((0 : Int32) + (2 : Int32)) + (1 : Int32)).toNatClampNeg) &&& (255 : Int32)))] [(.int ((oc (((0 : Int32) + (2 : Int32)) + (1 : Int32)).toNatClampNeg) &&& (255 : Int32)))]))
                refine own_back (fun t k => XS.sipush X.here hx rfl (hb hby own_d2_182) k) ?_
                show own_Go _ _ _ _ _ _ _ (T.setTop (mkF m 185 #[.val (.ref x0), .val (.int (0 : Int32)), .val (.int i2), .val (.int i3), .val (.int (4 : Int32)), .val (.int i5), .val (.int t0), .val (.int ((oc ((0 : Int32) + (1 : Int32)).toNatClampNeg) &&& (255 : Int32))), .val (.int (((0 : Int32) + (2 : Int32)) + (1 : Int32))), .val (.int ((oc (((0 : Int32) + (2 : Int32)) + (1 : Int32)).toNatClampNeg) &&& (255 : Int32)))] [(.int (191 : Int32)), (.int ((oc (((0 : Int32) + (2 : Int32)) + (1 : Int32)).toNatClampNeg) &&& (255 : Int32)))]))
                by_cases hc185 : (191 : Int32) < ((oc (((0 : Int32) + (2 : Int32)) + (1 : Int32)).toNatClampNeg) &&& (255 : Int32))
                · rw [if_pos hc185] at hR
                  refine own_back (fun t k => XS.icmpNo X.here hx rfl (hb hby own_d2_185) rfl (tlt hc185).2.2.2 k) ?_
                  show own_Go _ _ _ _ _ _ _ (T.setTop (mkF m 188 #[.val (.ref x0), .val (.int (0 : Int32)), .val (.int i2), .val (.int i3), .val (.int (4 : Int32)), .val (.int i5), .val (.int t0), .val (.int ((oc ((0 : Int32) + (1 : Int32)).toNatClampNeg) &&& (255 : Int32))), .val (.int (((0 : Int32) + (2 : Int32)) + (1 : Int32))), .val (.int ((oc (((0 : Int32) + (2 : Int32)) + (1 : Int32)).toNatClampNeg) &&& (255 : Int32)))] []))
                  refine own_back (fun t k => XS.iconst X.here hx rfl (hb hby own_d2_188) k) ?_
                  show own_Go _ _ _ _ _ _ _ (T.setTop (mkF m 189 #[.val (.ref x0), .val (.int (0 : Int32)), .val (.int i2), .val (.int i3), .val (.int (4 : Int32)), .val (.int i5), .val (.int t0), .val (.int ((oc ((0 : Int32) + (1 : Int32)).toNatClampNeg) &&& (255 : Int32))), .val (.int (((0 : Int32) + (2 : Int32)) + (1 : Int32))), .val (.int ((oc (((0 : Int32) + (2 : Int32)) + (1 : Int32)).toNatClampNeg) &&& (255 : Int32)))] [(.int (0 : Int32))]))
                  subst hR
                  exact own_retI X hx hret (hb hby own_d2_189) hlk ⟨rfl, N, e0⟩ (by decide) (by decide)
                · rw [if_neg hc185] at hR
                  refine own_back (fun t k => XS.icmpYes X.here hx rfl (pc0 := 185) (pc' := 190) rfl (hb hby own_d2_185) rfl (flt hc185).2.2.2 (by decide) (by decide) k) ?_
                  show own_Go _ _ _ _ _ _ _ (T.setTop (mkF m 190 #[.val (.ref x0), .val (.int (0 : Int32)), .val (.int i2), .val (.int i3), .val (.int (4 : Int32)), .val (.int i5), .val (.int t0), .val (.int ((oc ((0 : Int32) + (1 : Int32)).toNatClampNeg) &&& (255 : Int32))), .val (.int (((0 : Int32) + (2 : Int32)) + (1 : Int32))), .val (.int ((oc (((0 : Int32) + (2 : Int32)) + (1 : Int32)).toNatClampNeg) &&& (255 : Int32)))] []))
                  refine own_back (fun t k => XS.iinc X.here hx rfl (hb hby own_d2_190) rfl (l' := #[.val (.ref x0), .val (.int (0 : Int32)), .val (.int i2), .val (.int i3), .val (.int (4 : Int32)), .val (.int i5), .val (.int t0), .val (.int ((oc ((0 : Int32) + (1 : Int32)).toNatClampNeg) &&& (255 : Int32))), .val (.int ((((0 : Int32) + (2 : Int32)) + (1 : Int32)) + (1 : Int32))), .val (.int ((oc (((0 : Int32) + (2 : Int32)) + (1 : Int32)).toNatClampNeg) &&& (255 : Int32)))]) rfl k) ?_
                  show own_Go _ _ _ _ _ _ _ (T.setTop (mkF m 193 #[.val (.ref x0), .val (.int (0 : Int32)), .val (.int i2), .val (.int i3), .val (.int (4 : Int32)), .val (.int i5), .val (.int t0), .val (.int ((oc ((0 : Int32) + (1 : Int32)).toNatClampNeg) &&& (255 : Int32))), .val (.int ((((0 : Int32) + (2 : Int32)) + (1 : Int32)) + (1 : Int32))), .val (.int ((oc (((0 : Int32) + (2 : Int32)) + (1 : Int32)).toNatClampNeg) &&& (255 : Int32)))] []))
                  refine own_back (fun t k => XS.goto X.here hx rfl (pc0 := 193) (pc' := 153) rfl (hb hby own_d2_193) (by decide) (by decide) k) ?_
                  show own_Go _ _ _ _ _ _ _ (T.setTop (mkF m 153 #[.val (.ref x0), .val (.int (0 : Int32)), .val (.int i2), .val (.int i3), .val (.int (4 : Int32)), .val (.int i5), .val (.int t0), .val (.int ((oc ((0 : Int32) + (1 : Int32)).toNatClampNeg) &&& (255 : Int32))), .val (.int ((((0 : Int32) + (2 : Int32)) + (1 : Int32)) + (1 : Int32))), .val (.int ((oc (((0 : Int32) + (2 : Int32)) + (1 : Int32)).toNatClampNeg) &&& (255 : Int32)))] []))
                  refine own_back (fun t k => XS.iload X.here hx rfl (hb hby own_d2_153) rfl k) ?_
                  show own_Go _ _ _ _ _ _ _ (T.setTop (mkF m 155 #[.val (.ref x0), .val (.int (0 : Int32)), .val (.int i2), .val (.int i3), .val (.int (4 : Int32)), .val (.int i5), .val (.int t0), .val (.int ((oc ((0 : Int32) + (1 : Int32)).toNatClampNeg) &&& (255 : Int32))), .val (.int ((((0 : Int32) + (2 : Int32)) + (1 : Int32)) + (1 : Int32))), .val (.int ((oc (((0 : Int32) + (2 : Int32)) + (1 : Int32)).toNatClampNeg) &&& (255 : Int32)))] [(.int ((((0 : Int32) + (2 : Int32)) + (1 : Int32)) + (1 : Int32)))]))
                  refine own_back (fun t k => XS.iloadN X.here hx rfl (hb hby own_d2_155) rfl k) ?_
                  show own_Go _ _ _ _ _ _ _ (T.setTop (mkF m 156 #[.val (.ref x0), .val (.int (0 : Int32)), .val (.int i2), .val (.int i3), .val (.int (4 : Int32)), .val (.int i5), .val (.int t0), .val (.int ((oc ((0 : Int32) + (1 : Int32)).toNatClampNeg) &&& (255 : Int32))), .val (.int ((((0 : Int32) + (2 : Int32)) + (1 : Int32)) + (1 : Int32))), .val (.int ((oc (((0 : Int32) + (2 : Int32)) + (1 : Int32)).toNatClampNeg) &&& (255 : Int32)))] [(.int (0 : Int32)), (.int ((((0 : Int32) + (2 : Int32)) + (1 : Int32)) + (1 : Int32)))]))
                  refine own_back (fun t k => XS.iload X.here hx rfl (hb hby own_d2_156) rfl k) ?_
                  show own_Go _ _ _ _ _ _ _ (T.setTop (mkF m 158 #[.val (.ref x0), .val (.int (0 : Int32)), .val (.int i2), .val (.int i3), .val (.int (4 : Int32)), .val (.int i5), .val (.int t0), .val (.int ((oc ((0 : Int32) + (1 : Int32)).toNatClampNeg) &&& (255 : Int32))), .val (.int ((((0 : Int32) + (2 : Int32)) + (1 : Int32)) + (1 : Int32))), .val (.int ((oc (((0 : Int32) + (2 : Int32)) + (1 : Int32)).toNatClampNeg) &&& (255 : Int32)))] [(.int (4 : Int32)), (.int (0 : Int32)), (.int ((((0 : Int32) + (2 : Int32)) + (1 : Int32)) + (1 : Int32)))]))
                  refine own_back (fun t k => XS.iadd X.here hx rfl (hb hby own_d2_158) rfl k) ?_
                  show own_Go _ _ _ _ _ _ _ (T.setTop (mkF m 159 #[.val (.ref x0), .val (.int (0 : Int32)), .val (.int i2), .val (.int i3), .val (.int (4 : Int32)), .val (.int i5), .val (.int t0), .val (.int ((oc ((0 : Int32) + (1 : Int32)).toNatClampNeg) &&& (255 : Int32))), .val (.int ((((0 : Int32) + (2 : Int32)) + (1 : Int32)) + (1 : Int32))), .val (.int ((oc (((0 : Int32) + (2 : Int32)) + (1 : Int32)).toNatClampNeg) &&& (255 : Int32)))] [(.int ((0 : Int32) + (4 : Int32))), (.int ((((0 : Int32) + (2 : Int32)) + (1 : Int32)) + (1 : Int32)))]))
                  refine own_back (fun t k => XS.icmpYes X.here hx rfl (pc0 := 159) (pc' := 196) rfl (hb hby own_d2_159) rfl (flt ((by decide) : ¬ (((((0 : Int32) + (2 : Int32)) + (1 : Int32)) + (1 : Int32)) < ((0 : Int32) + (4 : Int32))))).2.1 (by decide) (by decide) k) ?_
                  show own_Go _ _ _ _ _ _ _ (T.setTop (mkF m 196 #[.val (.ref x0), .val (.int (0 : Int32)), .val (.int i2), .val (.int i3), .val (.int (4 : Int32)), .val (.int i5), .val (.int t0), .val (.int ((oc ((0 : Int32) + (1 : Int32)).toNatClampNeg) &&& (255 : Int32))), .val (.int ((((0 : Int32) + (2 : Int32)) + (1 : Int32)) + (1 : Int32))), .val (.int ((oc (((0 : Int32) + (2 : Int32)) + (1 : Int32)).toNatClampNeg) &&& (255 : Int32)))] []))
                  refine own_back (fun t k => XS.iload X.here hx rfl (hb hby own_d2_196) rfl k) ?_
                  show own_Go _ _ _ _ _ _ _ (T.setTop (mkF m 198 #[.val (.ref x0), .val (.int (0 : Int32)), .val (.int i2), .val (.int i3), .val (.int (4 : Int32)), .val (.int i5), .val (.int t0), .val (.int ((oc ((0 : Int32) + (1 : Int32)).toNatClampNeg) &&& (255 : Int32))), .val (.int ((((0 : Int32) + (2 : Int32)) + (1 : Int32)) + (1 : Int32))), .val (.int ((oc (((0 : Int32) + (2 : Int32)) + (1 : Int32)).toNatClampNeg) &&& (255 : Int32)))] [(.int (4 : Int32))]))
                  subst hR
                  exact own_retI X hx hret (hb hby own_d2_198) hlk ⟨rfl, N, e0⟩ (by decide) (by decide)
        rw [if_neg hqx1_0] at hR
        obtain rfl : x1 = (1 : Int32) := by first | exact hat.resolve_left hqx1_0 | exact (hat.resolve_left hqx1_0).resolve_left hqx1_0
        refine own_back (fun t k => XS.iloadN X.here hx rfl (hb hby own_d2_148) rfl k) ?_
        show own_Go _ _ _ _ _ _ _ (T.setTop (mkF m 149 #[.val (.ref x0), .val (.int (1 : Int32)), .val (.int i2), .val (.int i3), .val (.int (4 : Int32)), .val (.int i5), .val (.int t0), .val (.int ((oc ((1 : Int32) + (1 : Int32)).toNatClampNeg) &&& (255 : Int32))), .unset, .unset] [(.int (1 : Int32))]))
        refine own_back (fun t k => XS.iconst X.here hx rfl (hb hby own_d2_149) k) ?_
        show own_Go _ _ _ _ _ _ _ (T.setTop (mkF m 150 #[.val (.ref x0), .val (.int (1 : Int32)), .val (.int i2), .val (.int i3), .val (.int (4 : Int32)), .val (.int i5), .val (.int t0), .val (.int ((oc ((1 : Int32) + (1 : Int32)).toNatClampNeg) &&& (255 : Int32))), .unset, .unset] [(.int (2 : Int32)), (.int (1 : Int32))]))
        refine own_back (fun t k => XS.iadd X.here hx rfl (hb hby own_d2_150) rfl k) ?_
        show own_Go _ _ _ _ _ _ _ (T.setTop (mkF m 151 #[.val (.ref x0), .val (.int (1 : Int32)), .val (.int i2), .val (.int i3), .val (.int (4 : Int32)), .val (.int i5), .val (.int t0), .val (.int ((oc ((1 : Int32) + (1 : Int32)).toNatClampNeg) &&& (255 : Int32))), .unset, .unset] [(.int ((1 : Int32) + (2 : Int32)))]))
        refine own_back (fun t k => XS.istore X.here hx rfl (hb hby own_d2_151) rfl (l' := #[.val (.ref x0), .val (.int (1 : Int32)), .val (.int i2), .val (.int i3), .val (.int (4 : Int32)), .val (.int i5), .val (.int t0), .val (.int ((oc ((1 : Int32) + (1 : Int32)).toNatClampNeg) &&& (255 : Int32))), .val (.int ((1 : Int32) + (2 : Int32))), .unset]) rfl k) ?_
        show own_Go _ _ _ _ _ _ _ (T.setTop (mkF m 153 #[.val (.ref x0), .val (.int (1 : Int32)), .val (.int i2), .val (.int i3), .val (.int (4 : Int32)), .val (.int i5), .val (.int t0), .val (.int ((oc ((1 : Int32) + (1 : Int32)).toNatClampNeg) &&& (255 : Int32))), .val (.int ((1 : Int32) + (2 : Int32))), .unset] []))
        refine own_back (fun t k => XS.iload X.here hx rfl (hb hby own_d2_153) rfl k) ?_
        show own_Go _ _ _ _ _ _ _ (T.setTop (mkF m 155 #[.val (.ref x0), .val (.int (1 : Int32)), .val (.int i2), .val (.int i3), .val (.int (4 : Int32)), .val (.int i5), .val (.int t0), .val (.int ((oc ((1 : Int32) + (1 : Int32)).toNatClampNeg) &&& (255 : Int32))), .val (.int ((1 : Int32) + (2 : Int32))), .unset] [(.int ((1 : Int32) + (2 : Int32)))]))
        refine own_back (fun t k => XS.iloadN X.here hx rfl (hb hby own_d2_155) rfl k) ?_
        show own_Go _ _ _ _ _ _ _ (T.setTop (mkF m 156 #[.val (.ref x0), .val (.int (1 : Int32)), .val (.int i2), .val (.int i3), .val (.int (4 : Int32)), .val (.int i5), .val (.int t0), .val (.int ((oc ((1 : Int32) + (1 : Int32)).toNatClampNeg) &&& (255 : Int32))), .val (.int ((1 : Int32) + (2 : Int32))), .unset] [(.int (1 : Int32)), (.int ((1 : Int32) + (2 : Int32)))]))
        refine own_back (fun t k => XS.iload X.here hx rfl (hb hby own_d2_156) rfl k) ?_
        show own_Go _ _ _ _ _ _ _ (T.setTop (mkF m 158 #[.val (.ref x0), .val (.int (1 : Int32)), .val (.int i2), .val (.int i3), .val (.int (4 : Int32)), .val (.int i5), .val (.int t0), .val (.int ((oc ((1 : Int32) + (1 : Int32)).toNatClampNeg) &&& (255 : Int32))), .val (.int ((1 : Int32) + (2 : Int32))), .unset] [(.int (4 : Int32)), (.int (1 : Int32)), (.int ((1 : Int32) + (2 : Int32)))]))
        refine own_back (fun t k => XS.iadd X.here hx rfl (hb hby own_d2_158) rfl k) ?_
        show own_Go _ _ _ _ _ _ _ (T.setTop (mkF m 159 #[.val (.ref x0), .val (.int (1 : Int32)), .val (.int i2), .val (.int i3), .val (.int (4 : Int32)), .val (.int i5), .val (.int t0), .val (.int ((oc ((1 : Int32) + (1 : Int32)).toNatClampNeg) &&& (255 : Int32))), .val (.int ((1 : Int32) + (2 : Int32))), .unset] [(.int ((1 : Int32) + (4 : Int32))), (.int ((1 : Int32) + (2 : Int32)))]))
        refine own_back (fun t k => XS.icmpNo X.here hx rfl (hb hby own_d2_159) rfl (tlt ((by decide) : ((1 : Int32) + (2 : Int32)) < ((1 : Int32) + (4 : Int32)))).2.1 k) ?_
        show own_Go _ _ _ _ _ _ _ (T.setTop (mkF m 162 #[.val (.ref x0), .val (.int (1 : Int32)), .val (.int i2), .val (.int i3), .val (.int (4 : Int32)), .val (.int i5), .val (.int t0), .val (.int ((oc ((1 : Int32) + (1 : Int32)).toNatClampNeg) &&& (255 : Int32))), .val (.int ((1 : Int32) + (2 : Int32))), .unset] []))
        refine own_back (fun t k => XS.aloadN X.here hx rfl (hb hby own_d2_162) rfl rfl k) ?_
        show own_Go _ _ _ _ _ _ _ (T.setTop (mkF m 163 #[.val (.ref x0), .val (.int (1 : Int32)), .val (.int i2), .val (.int i3), .val (.int (4 : Int32)), .val (.int i5), .val (.int t0), .val (.int ((oc ((1 : Int32) + (1 : Int32)).toNatClampNeg) &&& (255 : Int32))), .val (.int ((1 : Int32) + (2 : Int32))), .unset] [(.ref x0)]))
        refine own_back (fun t k => XS.iload X.here hx rfl (hb hby own_d2_163) rfl k) ?_
        show own_Go _ _ _ _ _ _ _ (T.setTop (mkF m 165 #[.val (.ref x0), .val (.int (1 : Int32)), .val (.int i2), .val (.int i3), .val (.int (4 : Int32)), .val (.int i5), .val (.int t0), .val (.int ((oc ((1 : Int32) + (1 : Int32)).toNatClampNeg) &&& (255 : Int32))), .val (.int ((1 : Int32) + (2 : Int32))), .unset] [(.int ((1 : Int32) + (2 : Int32))), (.ref x0)]))
        refine own_back (fun t k => own_ldB X hx hZ e0 VA (j := ((1 : Int32) + (2 : Int32))) (w := (oc ((1 : Int32) + (2 : Int32)).toNatClampNeg)) (by decide) rfl (g := (mkF m 165 #[.val (.ref x0), .val (.int (1 : Int32)), .val (.int i2), .val (.int i3), .val (.int (4 : Int32)), .val (.int i5), .val (.int t0), .val (.int ((oc ((1 : Int32) + (1 : Int32)).toNatClampNeg) &&& (255 : Int32))), .val (.int ((1 : Int32) + (2 : Int32))), .unset] [(.int ((1 : Int32) + (2 : Int32))), (.ref x0)])) rfl rfl (hb hby own_d2_165) t k) ?_
        show own_Go _ _ _ _ _ _ _ (T.setTop (mkF m 166 #[.val (.ref x0), .val (.int (1 : Int32)), .val (.int i2), .val (.int i3), .val (.int (4 : Int32)), .val (.int i5), .val (.int t0), .val (.int ((oc ((1 : Int32) + (1 : Int32)).toNatClampNeg) &&& (255 : Int32))), .val (.int ((1 : Int32) + (2 : Int32))), .unset] [(.int (oc ((1 : Int32) + (2 : Int32)).toNatClampNeg))]))
        refine own_back (fun t k => XS.sipush X.here hx rfl (hb hby own_d2_166) k) ?_
        show own_Go _ _ _ _ _ _ _ (T.setTop (mkF m 169 #[.val (.ref x0), .val (.int (1 : Int32)), .val (.int i2), .val (.int i3), .val (.int (4 : Int32)), .val (.int i5), .val (.int t0), .val (.int ((oc ((1 : Int32) + (1 : Int32)).toNatClampNeg) &&& (255 : Int32))), .val (.int ((1 : Int32) + (2 : Int32))), .unset] [(.int (255 : Int32)), (.int (oc ((1 : Int32) + (2 : Int32)).toNatClampNeg))]))
        refine own_back (fun t k => XS.iand X.here hx rfl (hb hby own_d2_169) rfl k) ?_
        show own_Go _ _ _ _ _ _ _ (T.setTop (mkF m 170 #[.val (.ref x0), .val (.int (1 : Int32)), .val (.int i2), .val (.int i3), .val (.int (4 : Int32)), .val (.int i5), .val (.int t0), .val (.int ((oc ((1 : Int32) + (1 : Int32)).toNatClampNeg) &&& (255 : Int32))), .val (.int ((1 : Int32) + (2 : Int32))), .unset] [(.int ((oc ((1 : Int32) + (2 : Int32)).toNatClampNeg) &&& (255 : Int32)))]))
        refine own_back (fun t k => XS.istore X.here hx rfl (hb hby own_d2_170) rfl (l' := #[.val (.ref x0), .val (.int (1 : Int32)), .val (.int i2), .val (.int i3), .val (.int (4 : Int32)), .val (.int i5), .val (.int t0), .val (.int ((oc ((1 : Int32) + (1 : Int32)).toNatClampNeg) &&& (255 : Int32))), .val (.int ((1 : Int32) + (2 : Int32))), .val (.int ((oc ((1 : Int32) + (2 : Int32)).toNatClampNeg) &&& (255 : Int32)))]) rfl k) ?_
        show own_Go _ _ _ _ _ _ _ (T.setTop (mkF m 172 #[.val (.ref x0), .val (.int (1 : Int32)), .val (.int i2), .val (.int i3), .val (.int (4 : Int32)), .val (.int i5), .val (.int t0), .val (.int ((oc ((1 : Int32) + (1 : Int32)).toNatClampNeg) &&& (255 : Int32))), .val (.int ((1 : Int32) + (2 : Int32))), .val (.int ((oc ((1 : Int32) + (2 : Int32)).toNatClampNeg) &&& (255 : Int32)))] []))
        refine own_back (fun t k => XS.iload X.here hx rfl (hb hby own_d2_172) rfl k) ?_
        show own_Go _ _ _ _ _ _ _ (T.setTop (mkF m 174 #[.val (.ref x0), .val (.int (1 : Int32)), .val (.int i2), .val (.int i3), .val (.int (4 : Int32)), .val (.int i5), .val (.int t0), .val (.int ((oc ((1 : Int32) + (1 : Int32)).toNatClampNeg) &&& (255 : Int32))), .val (.int ((1 : Int32) + (2 : Int32))), .val (.int ((oc ((1 : Int32) + (2 : Int32)).toNatClampNeg) &&& (255 : Int32)))] [(.int ((oc ((1 : Int32) + (2 : Int32)).toNatClampNeg) &&& (255 : Int32)))]))
        refine own_back (fun t k => XS.sipush X.here hx rfl (hb hby own_d2_174) k) ?_
        show own_Go _ _ _ _ _ _ _ (T.setTop (mkF m 177 #[.val (.ref x0), .val (.int (1 : Int32)), .val (.int i2), .val (.int i3), .val (.int (4 : Int32)), .val (.int i5), .val (.int t0), .val (.int ((oc ((1 : Int32) + (1 : Int32)).toNatClampNeg) &&& (255 : Int32))), .val (.int ((1 : Int32) + (2 : Int32))), .val (.int ((oc ((1 : Int32) + (2 : Int32)).toNatClampNeg) &&& (255 : Int32)))] [(.int (128 : Int32)), (.int ((oc ((1 : Int32) + (2 : Int32)).toNatClampNeg) &&& (255 : Int32)))]))
        by_cases hc177 : ((oc ((1 : Int32) + (2 : Int32)).toNatClampNeg) &&& (255 : Int32)) < (128 : Int32)
        · rw [if_pos hc177] at hR
          refine own_back (fun t k => XS.icmpYes X.here hx rfl (pc0 := 177) (pc' := 188) rfl (hb hby own_d2_177) rfl (tlt hc177).1 (by decide) (by decide) k) ?_
          show own_Go _ _ _ _ _ _ _ (T.setTop (mkF m 188 #[.val (.ref x0), .val (.int (1 : Int32)), .val (.int i2), .val (.int i3), .val (.int (4 : Int32)), .val (.int i5), .val (.int t0), .val (.int ((oc ((1 : Int32) + (1 : Int32)).toNatClampNeg) &&& (255 : Int32))), .val (.int ((1 : Int32) + (2 : Int32))), .val (.int ((oc ((1 : Int32) + (2 : Int32)).toNatClampNeg) &&& (255 : Int32)))] []))
          refine own_back (fun t k => XS.iconst X.here hx rfl (hb hby own_d2_188) k) ?_
          show own_Go _ _ _ _ _ _ _ (T.setTop (mkF m 189 #[.val (.ref x0), .val (.int (1 : Int32)), .val (.int i2), .val (.int i3), .val (.int (4 : Int32)), .val (.int i5), .val (.int t0), .val (.int ((oc ((1 : Int32) + (1 : Int32)).toNatClampNeg) &&& (255 : Int32))), .val (.int ((1 : Int32) + (2 : Int32))), .val (.int ((oc ((1 : Int32) + (2 : Int32)).toNatClampNeg) &&& (255 : Int32)))] [(.int (0 : Int32))]))
          subst hR
          exact own_retI X hx hret (hb hby own_d2_189) hlk ⟨rfl, N, e0⟩ (by decide) (by decide)
        · rw [if_neg hc177] at hR
          refine own_back (fun t k => XS.icmpNo X.here hx rfl (hb hby own_d2_177) rfl (flt hc177).1 k) ?_
          show own_Go _ _ _ _ _ _ _ (T.setTop (mkF m 180 #[.val (.ref x0), .val (.int (1 : Int32)), .val (.int i2), .val (.int i3), .val (.int (4 : Int32)), .val (.int i5), .val (.int t0), .val (.int ((oc ((1 : Int32) + (1 : Int32)).toNatClampNeg) &&& (255 : Int32))), .val (.int ((1 : Int32) + (2 : Int32))), .val (.int ((oc ((1 : Int32) + (2 : Int32)).toNatClampNeg) &&& (255 : Int32)))] []))
          refine own_back (fun t k => XS.iload X.here hx rfl (hb hby own_d2_180) rfl k) ?_
          show own_Go _ _ _ _ _ _ _ (T.setTop (mkF m 182 #[.val (.ref x0), .val (.int (1 : Int32)), .val (.int i2), .val (.int i3), .val (.int (4 : Int32)), .val (.int i5), .val (.int t0), .val (.int ((oc ((1 : Int32) + (1 : Int32)).toNatClampNeg) &&& (255 : Int32))), .val (.int ((1 : Int32) + (2 : Int32))), .val (.int ((oc ((1 : Int32) + (2 : Int32)).toNatClampNeg) &&& (255 : Int32)))] [(.int ((oc ((1 : Int32) + (2 : Int32)).toNatClampNeg) &&& (255 : Int32)))]))
          refine own_back (fun t k => XS.sipush X.here hx rfl (hb hby own_d2_182) k) ?_
          show own_Go _ _ _ _ _ _ _ (T.setTop (mkF m 185 #[.val (.ref x0), .val (.int (1 : Int32)), .val (.int i2), .val (.int i3), .val (.int (4 : Int32)), .val (.int i5), .val (.int t0), .val (.int ((oc ((1 : Int32) + (1 : Int32)).toNatClampNeg) &&& (255 : Int32))), .val (.int ((1 : Int32) + (2 : Int32))), .val (.int ((oc ((1 : Int32) + (2 : Int32)).toNatClampNeg) &&& (255 : Int32)))] [(.int (191 : Int32)), (.int ((oc ((1 : Int32) + (2 : Int32)).toNatClampNeg) &&& (255 : Int32)))]))
          by_cases hc185 : (191 : Int32) < ((oc ((1 : Int32) + (2 : Int32)).toNatClampNeg) &&& (255 : Int32))
          · rw [if_pos hc185] at hR
            refine own_back (fun t k => XS.icmpNo X.here hx rfl (hb hby own_d2_185) rfl (tlt hc185).2.2.2 k) ?_
            show own_Go _ _ _ _ _ _ _ (T.setTop (mkF m 188 #[.val (.ref x0), .val (.int (1 : Int32)), .val (.int i2), .val (.int i3), .val (.int (4 : Int32)), .val (.int i5), .val (.int t0), .val (.int ((oc ((1 : Int32) + (1 : Int32)).toNatClampNeg) &&& (255 : Int32))), .val (.int ((1 : Int32) + (2 : Int32))), .val (.int ((oc ((1 : Int32) + (2 : Int32)).toNatClampNeg) &&& (255 : Int32)))] []))
            refine own_back (fun t k => XS.iconst X.here hx rfl (hb hby own_d2_188) k) ?_
            show own_Go _ _ _ _ _ _ _ (T.setTop (mkF m 189 #[.val (.ref x0), .val (.int (1 : Int32)), .val (.int i2), .val (.int i3), .val (.int (4 : Int32)), .val (.int i5), .val (.int t0), .val (.int ((oc ((1 : Int32) + (1 : Int32)).toNatClampNeg) &&& (255 : Int32))), .val (.int ((1 : Int32) + (2 : Int32))), .val (.int ((oc ((1 : Int32) + (2 : Int32)).toNatClampNeg) &&& (255 : Int32)))] [(.int (0 : Int32))]))
            subst hR
            exact own_retI X hx hret (hb hby own_d2_189) hlk ⟨rfl, N, e0⟩ (by decide) (by decide)
          · rw [if_neg hc185] at hR
            refine own_back (fun t k => XS.icmpYes X.here hx rfl (pc0 := 185) (pc' := 190) rfl (hb hby own_d2_185) rfl (flt hc185).2.2.2 (by decide) (by decide) k) ?_
            show own_Go _ _ _ _ _ _ _ (T.setTop (mkF m 190 #[.val (.ref x0), .val (.int (1 : Int32)), .val (.int i2), .val (.int i3), .val (.int (4 : Int32)), .val (.int i5), .val (.int t0), .val (.int ((oc ((1 : Int32) + (1 : Int32)).toNatClampNeg) &&& (255 : Int32))), .val (.int ((1 : Int32) + (2 : Int32))), .val (.int ((oc ((1 : Int32) + (2 : Int32)).toNatClampNeg) &&& (255 : Int32)))] []))
            refine own_back (fun t k => XS.iinc X.here hx rfl (hb hby own_d2_190) rfl (l' := #[.val (.ref x0), .val (.int (1 : Int32)), .val (.int i2), .val (.int i3), .val (.int (4 : Int32)), .val (.int i5), .val (.int t0), .val (.int ((oc ((1 : Int32) + (1 : Int32)).toNatClampNeg) &&& (255 : Int32))), .val (.int (((1 : Int32) + (2 : Int32)) + (1 : Int32))), .val (.int ((oc ((1 : Int32) + (2 : Int32)).toNatClampNeg) &&& (255 : Int32)))]) rfl k) ?_
            show own_Go _ _ _ _ _ _ _ (T.setTop (mkF m 193 #[.val (.ref x0), .val (.int (1 : Int32)), .val (.int i2), .val (.int i3), .val (.int (4 : Int32)), .val (.int i5), .val (.int t0), .val (.int ((oc ((1 : Int32) + (1 : Int32)).toNatClampNeg) &&& (255 : Int32))), .val (.int (((1 : Int32) + (2 : Int32)) + (1 : Int32))), .val (.int ((oc ((1 : Int32) + (2 : Int32)).toNatClampNeg) &&& (255 : Int32)))] []))
            refine own_back (fun t k => XS.goto X.here hx rfl (pc0 := 193) (pc' := 153) rfl (hb hby own_d2_193) (by decide) (by decide) k) ?_
            show own_Go _ _ _ _ _ _ _ (T.setTop (mkF m 153 #[.val (.ref x0), .val (.int (1 : Int32)), .val (.int i2), .val (.int i3), .val (.int (4 : Int32)), .val (.int i5), .val (.int t0), .val (.int ((oc ((1 : Int32) + (1 : Int32)).toNatClampNeg) &&& (255 : Int32))), .val (.int (((1 : Int32) + (2 : Int32)) + (1 : Int32))), .val (.int ((oc ((1 : Int32) + (2 : Int32)).toNatClampNeg) &&& (255 : Int32)))] []))
            refine own_back (fun t k => XS.iload X.here hx rfl (hb hby own_d2_153) rfl k) ?_
            show own_Go _ _ _ _ _ _ _ (T.setTop (mkF m 155 #[.val (.ref x0), .val (.int (1 : Int32)), .val (.int i2), .val (.int i3), .val (.int (4 : Int32)), .val (.int i5), .val (.int t0), .val (.int ((oc ((1 : Int32) + (1 : Int32)).toNatClampNeg) &&& (255 : Int32))), .val (.int (((1 : Int32) + (2 : Int32)) + (1 : Int32))), .val (.int ((oc ((1 : Int32) + (2 : Int32)).toNatClampNeg) &&& (255 : Int32)))] [(.int (((1 : Int32) + (2 : Int32)) + (1 : Int32)))]))
            refine own_back (fun t k => XS.iloadN X.here hx rfl (hb hby own_d2_155) rfl k) ?_
            show own_Go _ _ _ _ _ _ _ (T.setTop (mkF m 156 #[.val (.ref x0), .val (.int (1 : Int32)), .val (.int i2), .val (.int i3), .val (.int (4 : Int32)), .val (.int i5), .val (.int t0), .val (.int ((oc ((1 : Int32) + (1 : Int32)).toNatClampNeg) &&& (255 : Int32))), .val (.int (((1 : Int32) + (2 : Int32)) + (1 : Int32))), .val (.int ((oc ((1 : Int32) + (2 : Int32)).toNatClampNeg) &&& (255 : Int32)))] [(.int (1 : Int32)), (.int (((1 : Int32) + (2 : Int32)) + (1 : Int32)))]))
            refine own_back (fun t k => XS.iload X.here hx rfl (hb hby own_d2_156) rfl k) ?_
            show own_Go _ _ _ _ _ _ _ (T.setTop (mkF m 158 #[.val (.ref x0), .val (.int (1 : Int32)), .val (.int i2), .val (.int i3), .val (.int (4 : Int32)), .val (.int i5), .val (.int t0), .val (.int ((oc ((1 : Int32) + (1 : Int32)).toNatClampNeg) &&& (255 : Int32))), .val (.int (((1 : Int32) + (2 : Int32)) + (1 : Int32))), .val (.int ((oc ((1 : Int32) + (2 : Int32)).toNatClampNeg) &&& (255 : Int32)))] [(.int (4 : Int32)), (.int (1 : Int32)), (.int (((1 : Int32) + (2 : Int32)) + (1 : Int32)))]))
            refine own_back (fun t k => XS.iadd X.here hx rfl (hb hby own_d2_158) rfl k) ?_
            show own_Go _ _ _ _ _ _ _ (T.setTop (mkF m 159 #[.val (.ref x0), .val (.int (1 : Int32)), .val (.int i2), .val (.int i3), .val (.int (4 : Int32)), .val (.int i5), .val (.int t0), .val (.int ((oc ((1 : Int32) + (1 : Int32)).toNatClampNeg) &&& (255 : Int32))), .val (.int (((1 : Int32) + (2 : Int32)) + (1 : Int32))), .val (.int ((oc ((1 : Int32) + (2 : Int32)).toNatClampNeg) &&& (255 : Int32)))] [(.int ((1 : Int32) + (4 : Int32))), (.int (((1 : Int32) + (2 : Int32)) + (1 : Int32)))]))
            refine own_back (fun t k => XS.icmpNo X.here hx rfl (hb hby own_d2_159) rfl (tlt ((by decide) : (((1 : Int32) + (2 : Int32)) + (1 : Int32)) < ((1 : Int32) + (4 : Int32)))).2.1 k) ?_
            show own_Go _ _ _ _ _ _ _ (T.setTop (mkF m 162 #[.val (.ref x0), .val (.int (1 : Int32)), .val (.int i2), .val (.int i3), .val (.int (4 : Int32)), .val (.int i5), .val (.int t0), .val (.int ((oc ((1 : Int32) + (1 : Int32)).toNatClampNeg) &&& (255 : Int32))), .val (.int (((1 : Int32) + (2 : Int32)) + (1 : Int32))), .val (.int ((oc ((1 : Int32) + (2 : Int32)).toNatClampNeg) &&& (255 : Int32)))] []))
            refine own_back (fun t k => XS.aloadN X.here hx rfl (hb hby own_d2_162) rfl rfl k) ?_
            show own_Go _ _ _ _ _ _ _ (T.setTop (mkF m 163 #[.val (.ref x0), .val (.int (1 : Int32)), .val (.int i2), .val (.int i3), .val (.int (4 : Int32)), .val (.int i5), .val (.int t0), .val (.int ((oc ((1 : Int32) + (1 : Int32)).toNatClampNeg) &&& (255 : Int32))), .val (.int (((1 : Int32) + (2 : Int32)) + (1 : Int32))), .val (.int ((oc ((1 : Int32) + (2 : Int32)).toNatClampNeg) &&& (255 : Int32)))] [(.ref x0)]))
            refine own_back (fun t k => XS.iload X.here hx rfl (hb hby own_d2_163) rfl k) ?_
            show own_Go _ _ _ _ _ _ _ (T.setTop (mkF m 165 #[.val (.ref x0), .val (.int (1 : Int32)), .val (.int i2), .val (.int i3), .val (.int (4 : Int32)), .val (.int i5), .val (.int t0), .val (.int ((oc ((1 : Int32) + (1 : Int32)).toNatClampNeg) &&& (255 : Int32))), .val (.int (((1 : Int32) + (2 : Int32)) + (1 : Int32))), .val (.int ((oc ((1 : Int32) + (2 : Int32)).toNatClampNeg) &&& (255 : Int32)))] [(.int (((1 : Int32) + (2 : Int32)) + (1 : Int32))), (.ref x0)]))
            refine own_back (fun t k => own_ldB X hx hZ e0 VA (j := (((1 : Int32) + (2 : Int32)) + (1 : Int32))) (w := (oc (((1 : Int32) + (2 : Int32)) + (1 : Int32)).toNatClampNeg)) (by decide) rfl (g := (mkF m 165 #[.val (.ref x0), .val (.int (1 : Int32)), .val (.int i2), .val (.int i3), .val (.int (4 : Int32)), .val (.int i5), .val (.int t0), .val (.int ((oc ((1 : Int32) + (1 : Int32)).toNatClampNeg) &&& (255 : Int32))), .val (.int (((1 : Int32) + (2 : Int32)) + (1 : Int32))), .val (.int ((oc ((1 : Int32) + (2 : Int32)).toNatClampNeg) &&& (255 : Int32)))] [(.int (((1 : Int32) + (2 : Int32)) + (1 : Int32))), (.ref x0)])) rfl rfl (hb hby own_d2_165) t k) ?_
            show own_Go _ _ _ _ _ _ _ (T.setTop (mkF m 166 #[.val (.ref x0), .val (.int (1 : Int32)), .val (.int i2), .val (.int i3), .val (.int (4 : Int32)), .val (.int i5), .val (.int t0), .val (.int ((oc ((1 : Int32) + (1 : Int32)).toNatClampNeg) &&& (255 : Int32))), .val (.int (((1 : Int32) + (2 : Int32)) + (1 : Int32))), .val (.int ((oc ((1 : Int32) + (2 : Int32)).toNatClampNeg) &&& (255 : Int32)))] [(.int (oc (((1 : Int32) + (2 : Int32)) + (1 : Int32)).toNatClampNeg))]))
            refine own_back (fun t k => XS.sipush X.here hx rfl (hb hby own_d2_166) k) ?_
            show own_Go _ _ _ _ _ _ _ (T.setTop (mkF m 169 #[.val (.ref x0), .val (.int (1 : Int32)), .val (.int i2), .val (.int i3), .val (.int (4 : Int32)), .val (.int i5), .val (.int t0), .val (.int ((oc ((1 : Int32) + (1 : Int32)).toNatClampNeg) &&& (255 : Int32))), .val (.int (((1 : Int32) + (2 : Int32)) + (1 : Int32))), .val (.int ((oc ((1 : Int32) + (2 : Int32)).toNatClampNeg) &&& (255 : Int32)))] [(.int (255 : Int32)), (.int (oc (((1 : Int32) + (2 : Int32)) + (1 : Int32)).toNatClampNeg))]))
            refine own_back (fun t k => XS.iand X.here hx rfl (hb hby own_d2_169) rfl k) ?_
            show own_Go _ _ _ _ _ _ _ (T.setTop (mkF m 170 #[.val (.ref x0), .val (.int (1 : Int32)), .val (.int i2), .val (.int i3), .val (.int (4 : Int32)), .val (.int i5), .val (.int t0), .val (.int ((oc ((1 : Int32) + (1 : Int32)).toNatClampNeg) &&& (255 : Int32))), .val (.int (((1 : Int32) + (2 : Int32)) + (1 : Int32))), .val (.int ((oc ((1 : Int32) + (2 : Int32)).toNatClampNeg) &&& (255 : Int32)))] [(.int ((oc (((1 : Int32) + (2 : Int32)) + (1 : Int32)).toNatClampNeg) &&& (255 : Int32)))]))
            refine own_back (fun t k => XS.istore X.here hx rfl (hb hby own_d2_170) rfl (l' := #[.val (.ref x0), .val (.int (1 : Int32)), .val (.int i2), .val (.int i3), .val (.int (4 : Int32)), .val (.int i5), .val (.int t0), .val (.int ((oc ((1 : Int32) + (1 : Int32)).toNatClampNeg) &&& (255 : Int32))), .val (.int (((1 : Int32) + (2 : Int32)) + (1 : Int32))), .val (.int ((oc (((1 : Int32) + (2 : Int32)) + (1 : Int32)).toNatClampNeg) &&& (255 : Int32)))]) rfl k) ?_
            show own_Go _ _ _ _ _ _ _ (T.setTop (mkF m 172 #[.val (.ref x0), .val (.int (1 : Int32)), .val (.int i2), .val (.int i3), .val (.int (4 : Int32)), .val (.int i5), .val (.int t0), .val (.int ((oc ((1 : Int32) + (1 : Int32)).toNatClampNeg) &&& (255 : Int32))), .val (.int (((1 : Int32) + (2 : Int32)) + (1 : Int32))), .val (.int ((oc (((1 : Int32) + (2 : Int32)) + (1 : Int32)).toNatClampNeg) &&& (255 : Int32)))] []))
            refine own_back (fun t k => XS.iload X.here hx rfl (hb hby own_d2_172) rfl k) ?_
            show own_Go _ _ _ _ _ _ _ (T.setTop (mkF m 174 #[.val (.ref x0), .val (.int (1 : Int32)), .val (.int i2), .val (.int i3), .val (.int (4 : Int32)), .val (.int i5), .val (.int t0), .val (.int ((oc ((1 : Int32) + (1 : Int32)).toNatClampNeg) &&& (255 : Int32))), .val (.int (((1 : Int32) + (2 : Int32)) + (1 : Int32))), .val (.int ((oc (((1 : Int32) + (2 : Int32)) + (1 : Int32)).toNatClampNeg) &&& (255 : Int32)))] [(.int ((oc (((1 : Int32) + (2 : Int32)) + (1 : Int32)).toNatClampNeg) &&& (255 : Int32)))]))
            refine own_back (fun t k => XS.sipush X.here hx rfl (hb hby own_d2_174) k) ?_
            show own_Go _ _ _ _ _ _ _ (T.setTop (mkF m 177 #[.val (.ref x0), .val (.int (1 : Int32)), .val (.int i2), .val (.int i3), .val (.int (4 : Int32)), .val (.int i5), .val (.int t0), .val (.int ((oc ((1 : Int32) + (1 : Int32)).toNatClampNeg) &&& (255 : Int32))), .val (.int (((1 : Int32) + (2 : Int32)) + (1 : Int32))), .val (.int ((oc (((1 : Int32) + (2 : Int32)) + (1 : Int32)).toNatClampNeg) &&& (255 : Int32)))] [(.int (128 : Int32)), (.int ((oc (((1 : Int32) + (2 : Int32)) + (1 : Int32)).toNatClampNeg) &&& (255 : Int32)))]))
            by_cases hc177 : ((oc (((1 : Int32) + (2 : Int32)) + (1 : Int32)).toNatClampNeg) &&& (255 : Int32)) < (128 : Int32)
            · rw [if_pos hc177] at hR
              refine own_back (fun t k => XS.icmpYes X.here hx rfl (pc0 := 177) (pc' := 188) rfl (hb hby own_d2_177) rfl (tlt hc177).1 (by decide) (by decide) k) ?_
              show own_Go _ _ _ _ _ _ _ (T.setTop (mkF m 188 #[.val (.ref x0), .val (.int (1 : Int32)), .val (.int i2), .val (.int i3), .val (.int (4 : Int32)), .val (.int i5), .val (.int t0), .val (.int ((oc ((1 : Int32) + (1 : Int32)).toNatClampNeg) &&& (255 : Int32))), .val (.int (((1 : Int32) + (2 : Int32)) + (1 : Int32))), .val (.int ((oc (((1 : Int32) + (2 : Int32)) + (1 : Int32)).toNatClampNeg) &&& (255 : Int32)))] []))
              refine own_back (fun t k => XS.iconst X.here hx rfl (hb hby own_d2_188) k) ?_
              show own_Go _ _ _ _ _ _ _ (T.setTop (mkF m 189 #[.val (.ref x0), .val (.int (1 : Int32)), .val (.int i2), .val (.int i3), .val (.int (4 : Int32)), .val (.int i5), .val (.int t0), .val (.int ((oc ((1 : Int32) + (1 : Int32)).toNatClampNeg) &&& (255 : Int32))), .val (.int (((1 : Int32) + (2 : Int32)) + (1 : Int32))), .val (.int ((oc (((1 : Int32) + (2 : Int32)) + (1 : Int32)).toNatClampNeg) &&& (255 : Int32)))] [(.int (0 : Int32))]))
              subst hR
              exact own_retI X hx hret (hb hby own_d2_189) hlk ⟨rfl, N, e0⟩ (by decide) (by decide)
            · rw [if_neg hc177] at hR
              refine own_back (fun t k => XS.icmpNo X.here hx rfl (hb hby own_d2_177) rfl (flt hc177).1 k) ?_
              show own_Go _ _ _ _ _ _ _ (T.setTop (mkF m 180 #[.val (.ref x0), .val (.int (1 : Int32)), .val (.int i2), .val (.int i3), .val (.int (4 : Int32)), .val (.int i5), .val (.int t0), .val (.int ((oc ((1 : Int32) + (1 : Int32)).toNatClampNeg) &&& (255 : Int32))), .val (.int (((1 : Int32) + (2 : Int32)) + (1 : Int32))), .val (.int ((oc (((1 : Int32) + (2 : Int32)) + (1 : Int32)).toNatClampNeg) &&& (255 : Int32)))] []))
              refine own_back (fun t k => XS.iload X.here hx rfl (hb hby own_d2_180) rfl k) ?_
              show own_Go _ _ _ _ _ _ _ (T.setTop (mkF m 182 #[.val (.ref x0), .val (.int (1 : Int32)), .val (.int i2), .val (.int i3), .val (.int (4 : Int32)), .val (.int i5), .val (.int t0), .val (.int ((oc ((1 : Int32) + (1 : Int32)).toNatClampNeg) &&& (255 : Int32))), .val (.int (((1 : Int32) + (2 : Int32)) + (1 : Int32))), .val (.int ((oc (((1 : Int32) + (2 : Int32)) + (1 : Int32)).toNatClampNeg) &&& (255 : Int32)))] [(.int ((oc (((1 : Int32) + (2 : Int32)) + (1 : Int32)).toNatClampNeg) &&& (255 : Int32)))]))
              refine own_back (fun t k => XS.sipush X.here hx rfl (hb hby own_d2_182) k) ?_
              show own_Go _ _ _ _ _ _ _ (T.setTop (mkF m 185 #[.val (.ref x0), .val (.int (1 : Int32)), .val (.int i2), .val (.int i3), .val (.int (4 : Int32)), .val (.int i5), .val (.int t0), .val (.int ((oc ((1 : Int32) + (1 : Int32)).toNatClampNeg) &&& (255 : Int32))), .val (.int (((1 : Int32) + (2 : Int32)) + (1 : Int32))), .val (.int ((oc (((1 : Int32) + (2 : Int32)) + (1 : Int32)).toNatClampNeg) &&& (255 : Int32)))] [(.int (191 : Int32)), (.int ((oc (((1 : Int32) + (2 : Int32)) + (1 : Int32)).toNatClampNeg) &&& (255 : Int32)))]))
              by_cases hc185 : (191 : Int32) < ((oc (((1 : Int32) + (2 : Int32)) + (1 : Int32)).toNatClampNeg) &&& (255 : Int32))
              · rw [if_pos hc185] at hR
                refine own_back (fun t k => XS.icmpNo X.here hx rfl (hb hby own_d2_185) rfl (tlt hc185).2.2.2 k) ?_
                show own_Go _ _ _ _ _ _ _ (T.setTop (mkF m 188 #[.val (.ref x0), .val (.int (1 : Int32)), .val (.int i2), .val (.int i3), .val (.int (4 : Int32)), .val (.int i5), .val (.int t0), .val (.int ((oc ((1 : Int32) + (1 : Int32)).toNatClampNeg) &&& (255 : Int32))), .val (.int (((1 : Int32) + (2 : Int32)) + (1 : Int32))), .val (.int ((oc (((1 : Int32) + (2 : Int32)) + (1 : Int32)).toNatClampNeg) &&& (255 : Int32)))] []))
                refine own_back (fun t k => XS.iconst X.here hx rfl (hb hby own_d2_188) k) ?_
                show own_Go _ _ _ _ _ _ _ (T.setTop (mkF m 189 #[.val (.ref x0), .val (.int (1 : Int32)), .val (.int i2), .val (.int i3), .val (.int (4 : Int32)), .val (.int i5), .val (.int t0), .val (.int ((oc ((1 : Int32) + (1 : Int32)).toNatClampNeg) &&& (255 : Int32))), .val (.int (((1 : Int32) + (2 : Int32)) + (1 : Int32))), .val (.int ((oc (((1 : Int32) + (2 : Int32)) + (1 : Int32)).toNatClampNeg) &&& (255 : Int32)))] [(.int (0 : Int32))]))
                subst hR
                exact own_retI X hx hret (hb hby own_d2_189) hlk ⟨rfl, N, e0⟩ (by decide) (by decide)
              · rw [if_neg hc185] at hR
                refine own_back (fun t k => XS.icmpYes X.here hx rfl (pc0 := 185) (pc' := 190) rfl (hb hby own_d2_185) rfl (flt hc185).2.2.2 (by decide) (by decide) k) ?_
                show own_Go _ _ _ _ _ _ _ (T.setTop (mkF m 190 #[.val (.ref x0), .val (.int (1 : Int32)), .val (.int i2), .val (.int i3), .val (.int (4 : Int32)), .val (.int i5), .val (.int t0), .val (.int ((oc ((1 : Int32) + (1 : Int32)).toNatClampNeg) &&& (255 : Int32))), .val (.int (((1 : Int32) + (2 : Int32)) + (1 : Int32))), .val (.int ((oc (((1 : Int32) + (2 : Int32)) + (1 : Int32)).toNatClampNeg) &&& (255 : Int32)))] []))
                refine own_back (fun t k => XS.iinc X.here hx rfl (hb hby own_d2_190) rfl (l' := #[.val (.ref x0), .val (.int (1 : Int32)), .val (.int i2), .val (.int i3), .val (.int (4 : Int32)), .val (.int i5), .val (.int t0), .val (.int ((oc ((1 : Int32) + (1 : Int32)).toNatClampNeg) &&& (255 : Int32))), .val (.int ((((1 : Int32) + (2 : Int32)) + (1 : Int32)) + (1 : Int32))), .val (.int ((oc (((1 : Int32) + (2 : Int32)) + (1 : Int32)).toNatClampNeg) &&& (255 : Int32)))]) rfl k) ?_
                show own_Go _ _ _ _ _ _ _ (T.setTop (mkF m 193 #[.val (.ref x0), .val (.int (1 : Int32)), .val (.int i2), .val (.int i3), .val (.int (4 : Int32)), .val (.int i5), .val (.int t0), .val (.int ((oc ((1 : Int32) + (1 : Int32)).toNatClampNeg) &&& (255 : Int32))), .val (.int ((((1 : Int32) + (2 : Int32)) + (1 : Int32)) + (1 : Int32))), .val (.int ((oc (((1 : Int32) + (2 : Int32)) + (1 : Int32)).toNatClampNeg) &&& (255 : Int32)))] []))
                refine own_back (fun t k => XS.goto X.here hx rfl (pc0 := 193) (pc' := 153) rfl (hb hby own_d2_193) (by decide) (by decide) k) ?_
                show own_Go _ _ _ _ _ _ _ (T.setTop (mkF m 153 #[.val (.ref x0), .val (.int (1 : Int32)), .val (.int i2), .val (.int i3), .val (.int (4 : Int32)), .val (.int i5), .val (.int t0), .val (.int ((oc ((1 : Int32) + (1 : Int32)).toNatClampNeg) &&& (255 : Int32))), .val (.int ((((1 : Int32) + (2 : Int32)) + (1 : Int32)) + (1 : Int32))), .val (.int ((oc (((1 : Int32) + (2 : Int32)) + (1 : Int32)).toNatClampNeg) &&& (255 : Int32)))] []))
                refine own_back (fun t k => XS.iload X.here hx rfl (hb hby own_d2_153) rfl k) ?_
                show own_Go _ _ _ _ _ _ _ (T.setTop (mkF m 155 #[.val (.ref x0), .val (.int (1 : Int32)), .val (.int i2), .val (.int i3), .val (.int (4 : Int32)), .val (.int i5), .val (.int t0), .val (.int ((oc ((1 : Int32) + (1 : Int32)).toNatClampNeg) &&& (255 : Int32))), .val (.int ((((1 : Int32) + (2 : Int32)) + (1 : Int32)) + (1 : Int32))), .val (.int ((oc (((1 : Int32) + (2 : Int32)) + (1 : Int32)).toNatClampNeg) &&& (255 : Int32)))] [(.int ((((1 : Int32) + (2 : Int32)) + (1 : Int32)) + (1 : Int32)))]))
                refine own_back (fun t k => XS.iloadN X.here hx rfl (hb hby own_d2_155) rfl k) ?_
                show own_Go _ _ _ _ _ _ _ (T.setTop (mkF m 156 #[.val (.ref x0), .val (.int (1 : Int32)), .val (.int i2), .val (.int i3), .val (.int (4 : Int32)), .val (.int i5), .val (.int t0), .val (.int ((oc ((1 : Int32) + (1 : Int32)).toNatClampNeg) &&& (255 : Int32))), .val (.int ((((1 : Int32) + (2 : Int32)) + (1 : Int32)) + (1 : Int32))), .val (.int ((oc (((1 : Int32) + (2 : Int32)) + (1 : Int32)).toNatClampNeg) &&& (255 : Int32)))] [(.int (1 : Int32)), (.int ((((1 : Int32) + (2 : Int32)) + (1 : Int32)) + (1 : Int32)))]))
                refine own_back (fun t k => XS.iload X.here hx rfl (hb hby own_d2_156) rfl k) ?_
                show own_Go _ _ _ _ _ _ _ (T.setTop (mkF m 158 #[.val (.ref x0), .val (.int (1 : Int32)), .val (.int i2), .val (.int i3), .val (.int (4 : Int32)), .val (.int i5), .val (.int t0), .val (.int ((oc ((1 : Int32) + (1 : Int32)).toNatClampNeg) &&& (255 : Int32))), .val (.int ((((1 : Int32) + (2 : Int32)) + (1 : Int32)) + (1 : Int32))), .val (.int ((oc (((1 : Int32) + (2 : Int32)) + (1 : Int32)).toNatClampNeg) &&& (255 : Int32)))] [(.int (4 : Int32)), (.int (1 : Int32)), (.int ((((1 : Int32) + (2 : Int32)) + (1 : Int32)) + (1 : Int32)))]))
                refine own_back (fun t k => XS.iadd X.here hx rfl (hb hby own_d2_158) rfl k) ?_
                show own_Go _ _ _ _ _ _ _ (T.setTop (mkF m 159 #[.val (.ref x0), .val (.int (1 : Int32)), .val (.int i2), .val (.int i3), .val (.int (4 : Int32)), .val (.int i5), .val (.int t0), .val (.int ((oc ((1 : Int32) + (1 : Int32)).toNatClampNeg) &&& (255 : Int32))), .val (.int ((((1 : Int32) + (2 : Int32)) + (1 : Int32)) + (1 : Int32))), .val (.int ((oc (((1 : Int32) + (2 : Int32)) + (1 : Int32)).toNatClampNeg) &&& (255 : Int32)))] [(.int ((1 : Int32) + (4 : Int32))), (.int ((((1 : Int32) + (2 : Int32)) + (1 : Int32)) + (1 : Int32)))]))
                refine own_back (fun t k => XS.icmpYes X.here hx rfl (pc0 := 159) (pc' := 196) rfl (hb hby own_d2_159) rfl (flt ((by decide) : ¬ (((((1 : Int32) + (2 : Int32)) + (1 : Int32)) + (1 : Int32)) < ((1 : Int32) + (4 : Int32))))).2.1 (by decide) (by decide) k) ?_
                show own_Go _ _ _ _ _ _ _ (T.setTop (mkF m 196 #[.val (.ref x0), .val (.int (1 : Int32)), .val (.int i2), .val (.int i3), .val (.int (4 : Int32)), .val (.int i5), .val (.int t0), .val (.int ((oc ((1 : Int32) + (1 : Int32)).toNatClampNeg) &&& (255 : Int32))), .val (.int ((((1 : Int32) + (2 : Int32)) + (1 : Int32)) + (1 : Int32))), .val (.int ((oc (((1 : Int32) + (2 : Int32)) + (1 : Int32)).toNatClampNeg) &&& (255 : Int32)))] []))
                refine own_back (fun t k => XS.iload X.here hx rfl (hb hby own_d2_196) rfl k) ?_
                show own_Go _ _ _ _ _ _ _ (T.setTop (mkF m 198 #[.val (.ref x0), .val (.int (1 : Int32)), .val (.int i2), .val (.int i3), .val (.int (4 : Int32)), .val (.int i5), .val (.int t0), .val (.int ((oc ((1 : Int32) + (1 : Int32)).toNatClampNeg) &&& (255 : Int32))), .val (.int ((((1 : Int32) + (2 : Int32)) + (1 : Int32)) + (1 : Int32))), .val (.int ((oc (((1 : Int32) + (2 : Int32)) + (1 : Int32)).toNatClampNeg) &&& (255 : Int32)))] [(.int (4 : Int32))]))
                subst hR
                exact own_retI X hx hret (hb hby own_d2_198) hlk ⟨rfl, N, e0⟩ (by decide) (by decide)
set_option maxRecDepth 65536 in
set_option maxHeartbeats 4000000 in
theorem own_l2_78 {p : Program} {l : Launch} {e : Env} {s : State} {m : MethodId} {args : Array Value} {below : List Frame} {meth : Method} {c : Code} {T : State} {locs : List Loc} {Z : State} {a0 : Array Value} {h0 : Heap} {n0 : Nat}
    (X : Stand p l e ({ frames := 0, cells := 0, slots := 0, locals := 0 } : Room) s m args below meth c T locs 0 0) (hx : p.tables.exec = Jvm.exec) (hZ : Z.Warmed39 s.vm) (hw : ∀ d ∈ tables_1, d.before a0 Z = true) (hby : c.code = prog_134_method_2_code) (hml : c.maxLocals = 10) (hown : s.vm.findClass "com/example/frame_to_method/frametomethod/Utf8" = some m.cls) (hret : meth.sig.returnType = some .int) (hlk : meth.locks = false) (e0 : T.heap = h0) (N : Fr n0 locs) (Z0 : n0 ≤ h0.size)
    (x0 : Addr) (oc : Nat → Int32) (x1 : Int32) (i2 : Int32) (i3 : Int32) (i4 : Int32) (t0 : Int32) {r : Int32} (hR : r = own_f2_78 oc x1 i2 i3 i4 t0) (VA : own_VA Z h0 x0 .byte 5 (fun k => .int (oc k))) (hat : x1 = (0 : Int32) ∨ x1 = (1 : Int32)) (hs : i4 = (2 : Int32) ∨ i4 = (3 : Int32) ∨ i4 = (4 : Int32)) : own_Go p e below s ({ frames := 0, cells := 0, slots := 0, locals := 0 } : Room).cells ({ frames := 0, cells := 0, slots := 0, locals := 0 } : Room).slots (own_QP (.int r) h0 n0) (T.setTop (mkF m 78 #[.val (.ref x0), .val (.int x1), .val (.int i2), .val (.int i3), .val (.int i4), .unset, .unset, .unset, .unset, .unset] [(.int t0)])) := by
  unfold own_f2_78 at hR
  refine own_back (fun t k => XS.istore X.here hx rfl (hb hby own_d2_78) rfl (l' := #[.val (.ref x0), .val (.int x1), .val (.int i2), .val (.int i3), .val (.int i4), .val (.int t0), .unset, .unset, .unset, .unset]) rfl k) ?_
  show own_Go _ _ _ _ _ _ _ (T.setTop (mkF m 80 #[.val (.ref x0), .val (.int x1), .val (.int i2), .val (.int i3), .val (.int i4), .val (.int t0), .unset, .unset, .unset, .unset] []))
  refine own_back (fun t k => XS.iloadN X.here hx rfl (hb hby own_d2_80) rfl k) ?_
  show own_Go _ _ _ _ _ _ _ (T.setTop (mkF m 81 #[.val (.ref x0), .val (.int x1), .val (.int i2), .val (.int i3), .val (.int i4), .val (.int t0), .unset, .unset, .unset, .unset] [(.int i3)]))
  refine own_back (fun t k => XS.sipush X.here hx rfl (hb hby own_d2_81) k) ?_
  show own_Go _ _ _ _ _ _ _ (T.setTop (mkF m 84 #[.val (.ref x0), .val (.int x1), .val (.int i2), .val (.int i3), .val (.int i4), .val (.int t0), .unset, .unset, .unset, .unset] [(.int (237 : Int32)), (.int i3)]))
  by_cases hc84 : i3 = (237 : Int32)
  · rw [if_pos hc84] at hR
    refine own_back (fun t k => XS.icmpNo X.here hx rfl (hb hby own_d2_84) rfl (teq hc84).2 k) ?_
    show own_Go _ _ _ _ _ _ _ (T.setTop (mkF m 87 #[.val (.ref x0), .val (.int x1), .val (.int i2), .val (.int i3), .val (.int i4), .val (.int t0), .unset, .unset, .unset, .unset] []))
    refine own_back (fun t k => XS.sipush X.here hx rfl (hb hby own_d2_87) k) ?_
    show own_Go _ _ _ _ _ _ _ (T.setTop (mkF m 90 #[.val (.ref x0), .val (.int x1), .val (.int i2), .val (.int i3), .val (.int i4), .val (.int t0), .unset, .unset, .unset, .unset] [(.int (159 : Int32))]))
    refine own_back (fun t k => XS.goto X.here hx rfl (pc0 := 90) (pc' := 109) rfl (hb hby own_d2_90) (by decide) (by decide) k) ?_
    show own_Go _ _ _ _ _ _ _ (T.setTop (mkF m 109 #[.val (.ref x0), .val (.int x1), .val (.int i2), .val (.int i3), .val (.int i4), .val (.int t0), .unset, .unset, .unset, .unset] [(.int (159 : Int32))]))
    exact own_l2_109 X hx hZ hw hby hml hown hret hlk e0 N Z0 x0 oc x1 i2 i3 i4 t0 (159 : Int32) hR VA hat (by first | decide | assumption)
  · rw [if_neg hc84] at hR
    refine own_back (fun t k => XS.icmpYes X.here hx rfl (pc0 := 84) (pc' := 93) rfl (hb hby own_d2_84) rfl (feq hc84).2 (by decide) (by decide) k) ?_
    show own_Go _ _ _ _ _ _ _ (T.setTop (mkF m 93 #[.val (.ref x0), .val (.int x1), .val (.int i2), .val (.int i3), .val (.int i4), .val (.int t0), .unset, .unset, .unset, .unset] []))
    refine own_back (fun t k => XS.iloadN X.here hx rfl (hb hby own_d2_93) rfl k) ?_
    show own_Go _ _ _ _ _ _ _ (T.setTop (mkF m 94 #[.val (.ref x0), .val (.int x1), .val (.int i2), .val (.int i3), .val (.int i4), .val (.int t0), .unset, .unset, .unset, .unset] [(.int i3)]))
    refine own_back (fun t k => XS.sipush X.here hx rfl (hb hby own_d2_94) k) ?_
    show own_Go _ _ _ _ _ _ _ (T.setTop (mkF m 97 #[.val (.ref x0), .val (.int x1), .val (.int i2), .val (.int i3), .val (.int i4), .val (.int t0), .unset, .unset, .unset, .unset] [(.int (244 : Int32)), (.int i3)]))
    by_cases hc97 : i3 = (244 : Int32)
    · rw [if_pos hc97] at hR
      refine own_back (fun t k => XS.icmpNo X.here hx rfl (hb hby own_d2_97) rfl (teq hc97).2 k) ?_
      show own_Go _ _ _ _ _ _ _ (T.setTop (mkF m 100 #[.val (.ref x0), .val (.int x1), .val (.int i2), .val (.int i3), .val (.int i4), .val (.int t0), .unset, .unset, .unset, .unset] []))
      refine own_back (fun t k => XS.sipush X.here hx rfl (hb hby own_d2_100) k) ?_
      show own_Go _ _ _ _ _ _ _ (T.setTop (mkF m 103 #[.val (.ref x0), .val (.int x1), .val (.int i2), .val (.int i3), .val (.int i4), .val (.int t0), .unset, .unset, .unset, .unset] [(.int (143 : Int32))]))
      refine own_back (fun t k => XS.goto X.here hx rfl (pc0 := 103) (pc' := 109) rfl (hb hby own_d2_103) (by decide) (by decide) k) ?_
      show own_Go _ _ _ _ _ _ _ (T.setTop (mkF m 109 #[.val (.ref x0), .val (.int x1), .val (.int i2), .val (.int i3), .val (.int i4), .val (.int t0), .unset, .unset, .unset, .unset] [(.int (143 : Int32))]))
      exact own_l2_109 X hx hZ hw hby hml hown hret hlk e0 N Z0 x0 oc x1 i2 i3 i4 t0 (143 : Int32) hR VA hat (by first | decide | assumption)
    · rw [if_neg hc97] at hR
      refine own_back (fun t k => XS.icmpYes X.here hx rfl (pc0 := 97) (pc' := 106) rfl (hb hby own_d2_97) rfl (feq hc97).2 (by decide) (by decide) k) ?_
      show own_Go _ _ _ _ _ _ _ (T.setTop (mkF m 106 #[.val (.ref x0), .val (.int x1), .val (.int i2), .val (.int i3), .val (.int i4), .val (.int t0), .unset, .unset, .unset, .unset] []))
      refine own_back (fun t k => XS.sipush X.here hx rfl (hb hby own_d2_106) k) ?_
      show own_Go _ _ _ _ _ _ _ (T.setTop (mkF m 109 #[.val (.ref x0), .val (.int x1), .val (.int i2), .val (.int i3), .val (.int i4), .val (.int t0), .unset, .unset, .unset, .unset] [(.int (191 : Int32))]))
      exact own_l2_109 X hx hZ hw hby hml hown hret hlk e0 N Z0 x0 oc x1 i2 i3 i4 t0 (191 : Int32) hR VA hat (by first | decide | assumption)
set_option maxRecDepth 65536 in
set_option maxHeartbeats 4000000 in
theorem own_l2_47 {p : Program} {l : Launch} {e : Env} {s : State} {m : MethodId} {args : Array Value} {below : List Frame} {meth : Method} {c : Code} {T : State} {locs : List Loc} {Z : State} {a0 : Array Value} {h0 : Heap} {n0 : Nat}
    (X : Stand p l e ({ frames := 0, cells := 0, slots := 0, locals := 0 } : Room) s m args below meth c T locs 0 0) (hx : p.tables.exec = Jvm.exec) (hZ : Z.Warmed39 s.vm) (hw : ∀ d ∈ tables_1, d.before a0 Z = true) (hby : c.code = prog_134_method_2_code) (hml : c.maxLocals = 10) (hown : s.vm.findClass "com/example/frame_to_method/frametomethod/Utf8" = some m.cls) (hret : meth.sig.returnType = some .int) (hlk : meth.locks = false) (e0 : T.heap = h0) (N : Fr n0 locs) (Z0 : n0 ≤ h0.size)
    (x0 : Addr) (oc : Nat → Int32) (x1 : Int32) (i2 : Int32) (i3 : Int32) (t0 : Int32) {r : Int32} (hR : r = own_f2_47 oc x1 i2 i3 t0) (VA : own_VA Z h0 x0 .byte 5 (fun k => .int (oc k))) (hat : x1 = (0 : Int32) ∨ x1 = (1 : Int32)) (hs : t0 = (2 : Int32) ∨ t0 = (3 : Int32) ∨ t0 = (4 : Int32)) : own_Go p e below s ({ frames := 0, cells := 0, slots := 0, locals := 0 } : Room).cells ({ frames := 0, cells := 0, slots := 0, locals := 0 } : Room).slots (own_QP (.int r) h0 n0) (T.setTop (mkF m 47 #[.val (.ref x0), .val (.int x1), .val (.int i2), .val (.int i3), .unset, .unset, .unset, .unset, .unset, .unset] [(.int t0)])) := by
  unfold own_f2_47 at hR
  refine own_back (fun t k => XS.istore X.here hx rfl (hb hby own_d2_47) rfl (l' := #[.val (.ref x0), .val (.int x1), .val (.int i2), .val (.int i3), .val (.int t0), .unset, .unset, .unset, .unset, .unset]) rfl k) ?_
  show own_Go _ _ _ _ _ _ _ (T.setTop (mkF m 49 #[.val (.ref x0), .val (.int x1), .val (.int i2), .val (.int i3), .val (.int t0), .unset, .unset, .unset, .unset, .unset] []))
  refine own_back (fun t k => XS.iloadN X.here hx rfl (hb hby own_d2_49) rfl k) ?_
  show own_Go _ _ _ _ _ _ _ (T.setTop (mkF m 50 #[.val (.ref x0), .val (.int x1), .val (.int i2), .val (.int i3), .val (.int t0), .unset, .unset, .unset, .unset, .unset] [(.int i3)]))
  refine own_back (fun t k => XS.sipush X.here hx rfl (hb hby own_d2_50) k) ?_
  show own_Go _ _ _ _ _ _ _ (T.setTop (mkF m 53 #[.val (.ref x0), .val (.int x1), .val (.int i2), .val (.int i3), .val (.int t0), .unset, .unset, .unset, .unset, .unset] [(.int (224 : Int32)), (.int i3)]))
  by_cases hc53 : i3 = (224 : Int32)
  · rw [if_pos hc53] at hR
    refine own_back (fun t k => XS.icmpNo X.here hx rfl (hb hby own_d2_53) rfl (teq hc53).2 k) ?_
    show own_Go _ _ _ _ _ _ _ (T.setTop (mkF m 56 #[.val (.ref x0), .val (.int x1), .val (.int i2), .val (.int i3), .val (.int t0), .unset, .unset, .unset, .unset, .unset] []))
    refine own_back (fun t k => XS.sipush X.here hx rfl (hb hby own_d2_56) k) ?_
    show own_Go _ _ _ _ _ _ _ (T.setTop (mkF m 59 #[.val (.ref x0), .val (.int x1), .val (.int i2), .val (.int i3), .val (.int t0), .unset, .unset, .unset, .unset, .unset] [(.int (160 : Int32))]))
    refine own_back (fun t k => XS.goto X.here hx rfl (pc0 := 59) (pc' := 78) rfl (hb hby own_d2_59) (by decide) (by decide) k) ?_
    show own_Go _ _ _ _ _ _ _ (T.setTop (mkF m 78 #[.val (.ref x0), .val (.int x1), .val (.int i2), .val (.int i3), .val (.int t0), .unset, .unset, .unset, .unset, .unset] [(.int (160 : Int32))]))
    exact own_l2_78 X hx hZ hw hby hml hown hret hlk e0 N Z0 x0 oc x1 i2 i3 t0 (160 : Int32) hR VA hat (by first | decide | assumption)
  · rw [if_neg hc53] at hR
    refine own_back (fun t k => XS.icmpYes X.here hx rfl (pc0 := 53) (pc' := 62) rfl (hb hby own_d2_53) rfl (feq hc53).2 (by decide) (by decide) k) ?_
    show own_Go _ _ _ _ _ _ _ (T.setTop (mkF m 62 #[.val (.ref x0), .val (.int x1), .val (.int i2), .val (.int i3), .val (.int t0), .unset, .unset, .unset, .unset, .unset] []))
    refine own_back (fun t k => XS.iloadN X.here hx rfl (hb hby own_d2_62) rfl k) ?_
    show own_Go _ _ _ _ _ _ _ (T.setTop (mkF m 63 #[.val (.ref x0), .val (.int x1), .val (.int i2), .val (.int i3), .val (.int t0), .unset, .unset, .unset, .unset, .unset] [(.int i3)]))
    refine own_back (fun t k => XS.sipush X.here hx rfl (hb hby own_d2_63) k) ?_
    show own_Go _ _ _ _ _ _ _ (T.setTop (mkF m 66 #[.val (.ref x0), .val (.int x1), .val (.int i2), .val (.int i3), .val (.int t0), .unset, .unset, .unset, .unset, .unset] [(.int (240 : Int32)), (.int i3)]))
    by_cases hc66 : i3 = (240 : Int32)
    · rw [if_pos hc66] at hR
      refine own_back (fun t k => XS.icmpNo X.here hx rfl (hb hby own_d2_66) rfl (teq hc66).2 k) ?_
      show own_Go _ _ _ _ _ _ _ (T.setTop (mkF m 69 #[.val (.ref x0), .val (.int x1), .val (.int i2), .val (.int i3), .val (.int t0), .unset, .unset, .unset, .unset, .unset] []))
      refine own_back (fun t k => XS.sipush X.here hx rfl (hb hby own_d2_69) k) ?_
      show own_Go _ _ _ _ _ _ _ (T.setTop (mkF m 72 #[.val (.ref x0), .val (.int x1), .val (.int i2), .val (.int i3), .val (.int t0), .unset, .unset, .unset, .unset, .unset] [(.int (144 : Int32))]))
      refine own_back (fun t k => XS.goto X.here hx rfl (pc0 := 72) (pc' := 78) rfl (hb hby own_d2_72) (by decide) (by decide) k) ?_
      show own_Go _ _ _ _ _ _ _ (T.setTop (mkF m 78 #[.val (.ref x0), .val (.int x1), .val (.int i2), .val (.int i3), .val (.int t0), .unset, .unset, .unset, .unset, .unset] [(.int (144 : Int32))]))
      exact own_l2_78 X hx hZ hw hby hml hown hret hlk e0 N Z0 x0 oc x1 i2 i3 t0 (144 : Int32) hR VA hat (by first | decide | assumption)
    · rw [if_neg hc66] at hR
      refine own_back (fun t k => XS.icmpYes X.here hx rfl (pc0 := 66) (pc' := 75) rfl (hb hby own_d2_66) rfl (feq hc66).2 (by decide) (by decide) k) ?_
      show own_Go _ _ _ _ _ _ _ (T.setTop (mkF m 75 #[.val (.ref x0), .val (.int x1), .val (.int i2), .val (.int i3), .val (.int t0), .unset, .unset, .unset, .unset, .unset] []))
      refine own_back (fun t k => XS.sipush X.here hx rfl (hb hby own_d2_75) k) ?_
      show own_Go _ _ _ _ _ _ _ (T.setTop (mkF m 78 #[.val (.ref x0), .val (.int x1), .val (.int i2), .val (.int i3), .val (.int t0), .unset, .unset, .unset, .unset, .unset] [(.int (128 : Int32))]))
      exact own_l2_78 X hx hZ hw hby hml hown hret hlk e0 N Z0 x0 oc x1 i2 i3 t0 (128 : Int32) hR VA hat (by first | decide | assumption)
set_option maxRecDepth 65536 in
set_option maxHeartbeats 4000000 in
theorem own_l2_0 {p : Program} {l : Launch} {e : Env} {s : State} {m : MethodId} {args : Array Value} {below : List Frame} {meth : Method} {c : Code} {T : State} {locs : List Loc} {Z : State} {a0 : Array Value} {h0 : Heap} {n0 : Nat}
    (X : Stand p l e ({ frames := 0, cells := 0, slots := 0, locals := 0 } : Room) s m args below meth c T locs 0 0) (hx : p.tables.exec = Jvm.exec) (hZ : Z.Warmed39 s.vm) (hw : ∀ d ∈ tables_1, d.before a0 Z = true) (hby : c.code = prog_134_method_2_code) (hml : c.maxLocals = 10) (hown : s.vm.findClass "com/example/frame_to_method/frametomethod/Utf8" = some m.cls) (hret : meth.sig.returnType = some .int) (hlk : meth.locks = false) (e0 : T.heap = h0) (N : Fr n0 locs) (Z0 : n0 ≤ h0.size)
    (x0 : Addr) (oc : Nat → Int32) (x1 : Int32) (x2 : Int32) {r : Int32} (hR : r = own_f2_0 oc x1 x2) (VA : own_VA Z h0 x0 .byte 5 (fun k => .int (oc k))) (hat : x1 = (0 : Int32) ∨ x1 = (1 : Int32)) : own_Go p e below s ({ frames := 0, cells := 0, slots := 0, locals := 0 } : Room).cells ({ frames := 0, cells := 0, slots := 0, locals := 0 } : Room).slots (own_QP (.int r) h0 n0) (T.setTop (mkF m 0 #[.val (.ref x0), .val (.int x1), .val (.int x2), .unset, .unset, .unset, .unset, .unset, .unset, .unset] [])) := by
  unfold own_f2_0 at hR
  refine own_back (fun t k => XS.aloadN X.here hx rfl (hb hby own_d2_0) rfl rfl k) ?_
  show own_Go _ _ _ _ _ _ _ (T.setTop (mkF m 1 #[.val (.ref x0), .val (.int x1), .val (.int x2), .unset, .unset, .unset, .unset, .unset, .unset, .unset] [(.ref x0)]))
  refine own_back (fun t k => XS.iloadN X.here hx rfl (hb hby own_d2_1) rfl k) ?_
  show own_Go _ _ _ _ _ _ _ (T.setTop (mkF m 2 #[.val (.ref x0), .val (.int x1), .val (.int x2), .unset, .unset, .unset, .unset, .unset, .unset, .unset] [(.int x1), (.ref x0)]))
  refine own_back (fun t k => own_ldB X hx hZ e0 VA (j := x1) (w := (oc x1.toNatClampNeg)) (own_ix0 hat) rfl (g := (mkF m 2 #[.val (.ref x0), .val (.int x1), .val (.int x2), .unset, .unset, .unset, .unset, .unset, .unset, .unset] [(.int x1), (.ref x0)])) rfl rfl (hb hby own_d2_2) t k) ?_
  show own_Go _ _ _ _ _ _ _ (T.setTop (mkF m 3 #[.val (.ref x0), .val (.int x1), .val (.int x2), .unset, .unset, .unset, .unset, .unset, .unset, .unset] [(.int (oc x1.toNatClampNeg))]))
  refine own_back (fun t k => XS.sipush X.here hx rfl (hb hby own_d2_3) k) ?_
  show own_Go _ _ _ _ _ _ _ (T.setTop (mkF m 6 #[.val (.ref x0), .val (.int x1), .val (.int x2), .unset, .unset, .unset, .unset, .unset, .unset, .unset] [(.int (255 : Int32)), (.int (oc x1.toNatClampNeg))]))
  refine own_back (fun t k => XS.iand X.here hx rfl (hb hby own_d2_6) rfl k) ?_
  show own_Go _ _ _ _ _ _ _ (T.setTop (mkF m 7 #[.val (.ref x0), .val (.int x1), .val (.int x2), .unset, .unset, .unset, .unset, .unset, .unset, .unset] [(.int ((oc x1.toNatClampNeg) &&& (255 : Int32)))]))
  refine own_back (fun t k => XS.istoreN X.here hx rfl (hb hby own_d2_7) rfl (l' := #[.val (.ref x0), .val (.int x1), .val (.int x2), .val (.int ((oc x1.toNatClampNeg) &&& (255 : Int32))), .unset, .unset, .unset, .unset, .unset, .unset]) rfl k) ?_
  show own_Go _ _ _ _ _ _ _ (T.setTop (mkF m 8 #[.val (.ref x0), .val (.int x1), .val (.int x2), .val (.int ((oc x1.toNatClampNeg) &&& (255 : Int32))), .unset, .unset, .unset, .unset, .unset, .unset] []))
  refine own_back (fun t k => XS.iloadN X.here hx rfl (hb hby own_d2_8) rfl k) ?_
  show own_Go _ _ _ _ _ _ _ (T.setTop (mkF m 9 #[.val (.ref x0), .val (.int x1), .val (.int x2), .val (.int ((oc x1.toNatClampNeg) &&& (255 : Int32))), .unset, .unset, .unset, .unset, .unset, .unset] [(.int ((oc x1.toNatClampNeg) &&& (255 : Int32)))]))
  refine own_back (fun t k => XS.sipush X.here hx rfl (hb hby own_d2_9) k) ?_
  show own_Go _ _ _ _ _ _ _ (T.setTop (mkF m 12 #[.val (.ref x0), .val (.int x1), .val (.int x2), .val (.int ((oc x1.toNatClampNeg) &&& (255 : Int32))), .unset, .unset, .unset, .unset, .unset, .unset] [(.int (194 : Int32)), (.int ((oc x1.toNatClampNeg) &&& (255 : Int32)))]))
  by_cases hc12 : ((oc x1.toNatClampNeg) &&& (255 : Int32)) < (194 : Int32)
  · rw [if_pos hc12] at hR
    refine own_back (fun t k => XS.icmpYes X.here hx rfl (pc0 := 12) (pc' := 22) rfl (hb hby own_d2_12) rfl (tlt hc12).1 (by decide) (by decide) k) ?_
    show own_Go _ _ _ _ _ _ _ (T.setTop (mkF m 22 #[.val (.ref x0), .val (.int x1), .val (.int x2), .val (.int ((oc x1.toNatClampNeg) &&& (255 : Int32))), .unset, .unset, .unset, .unset, .unset, .unset] []))
    refine own_back (fun t k => XS.iconst X.here hx rfl (hb hby own_d2_22) k) ?_
    show own_Go _ _ _ _ _ _ _ (T.setTop (mkF m 23 #[.val (.ref x0), .val (.int x1), .val (.int x2), .val (.int ((oc x1.toNatClampNeg) &&& (255 : Int32))), .unset, .unset, .unset, .unset, .unset, .unset] [(.int (0 : Int32))]))
    subst hR
    exact own_retI X hx hret (hb hby own_d2_23) hlk ⟨rfl, N, e0⟩ (by decide) (by decide)
  · rw [if_neg hc12] at hR
    refine own_back (fun t k => XS.icmpNo X.here hx rfl (hb hby own_d2_12) rfl (flt hc12).1 k) ?_
    show own_Go _ _ _ _ _ _ _ (T.setTop (mkF m 15 #[.val (.ref x0), .val (.int x1), .val (.int x2), .val (.int ((oc x1.toNatClampNeg) &&& (255 : Int32))), .unset, .unset, .unset, .unset, .unset, .unset] []))
    refine own_back (fun t k => XS.iloadN X.here hx rfl (hb hby own_d2_15) rfl k) ?_
    show own_Go _ _ _ _ _ _ _ (T.setTop (mkF m 16 #[.val (.ref x0), .val (.int x1), .val (.int x2), .val (.int ((oc x1.toNatClampNeg) &&& (255 : Int32))), .unset, .unset, .unset, .unset, .unset, .unset] [(.int ((oc x1.toNatClampNeg) &&& (255 : Int32)))]))
    refine own_back (fun t k => XS.sipush X.here hx rfl (hb hby own_d2_16) k) ?_
    show own_Go _ _ _ _ _ _ _ (T.setTop (mkF m 19 #[.val (.ref x0), .val (.int x1), .val (.int x2), .val (.int ((oc x1.toNatClampNeg) &&& (255 : Int32))), .unset, .unset, .unset, .unset, .unset, .unset] [(.int (244 : Int32)), (.int ((oc x1.toNatClampNeg) &&& (255 : Int32)))]))
    by_cases hc19 : (244 : Int32) < ((oc x1.toNatClampNeg) &&& (255 : Int32))
    · rw [if_pos hc19] at hR
      refine own_back (fun t k => XS.icmpNo X.here hx rfl (hb hby own_d2_19) rfl (tlt hc19).2.2.2 k) ?_
      show own_Go _ _ _ _ _ _ _ (T.setTop (mkF m 22 #[.val (.ref x0), .val (.int x1), .val (.int x2), .val (.int ((oc x1.toNatClampNeg) &&& (255 : Int32))), .unset, .unset, .unset, .unset, .unset, .unset] []))
      refine own_back (fun t k => XS.iconst X.here hx rfl (hb hby own_d2_22) k) ?_
      show own_Go _ _ _ _ _ _ _ (T.setTop (mkF m 23 #[.val (.ref x0), .val (.int x1), .val (.int x2), .val (.int ((oc x1.toNatClampNeg) &&& (255 : Int32))), .unset, .unset, .unset, .unset, .unset, .unset] [(.int (0 : Int32))]))
      subst hR
      exact own_retI X hx hret (hb hby own_d2_23) hlk ⟨rfl, N, e0⟩ (by decide) (by decide)
    · rw [if_neg hc19] at hR
      refine own_back (fun t k => XS.icmpYes X.here hx rfl (pc0 := 19) (pc' := 24) rfl (hb hby own_d2_19) rfl (flt hc19).2.2.2 (by decide) (by decide) k) ?_
      show own_Go _ _ _ _ _ _ _ (T.setTop (mkF m 24 #[.val (.ref x0), .val (.int x1), .val (.int x2), .val (.int ((oc x1.toNatClampNeg) &&& (255 : Int32))), .unset, .unset, .unset, .unset, .unset, .unset] []))
      refine own_back (fun t k => XS.iloadN X.here hx rfl (hb hby own_d2_24) rfl k) ?_
      show own_Go _ _ _ _ _ _ _ (T.setTop (mkF m 25 #[.val (.ref x0), .val (.int x1), .val (.int x2), .val (.int ((oc x1.toNatClampNeg) &&& (255 : Int32))), .unset, .unset, .unset, .unset, .unset, .unset] [(.int ((oc x1.toNatClampNeg) &&& (255 : Int32)))]))
      refine own_back (fun t k => XS.sipush X.here hx rfl (hb hby own_d2_25) k) ?_
      show own_Go _ _ _ _ _ _ _ (T.setTop (mkF m 28 #[.val (.ref x0), .val (.int x1), .val (.int x2), .val (.int ((oc x1.toNatClampNeg) &&& (255 : Int32))), .unset, .unset, .unset, .unset, .unset, .unset] [(.int (224 : Int32)), (.int ((oc x1.toNatClampNeg) &&& (255 : Int32)))]))
      by_cases hc28 : ((oc x1.toNatClampNeg) &&& (255 : Int32)) < (224 : Int32)
      · rw [if_pos hc28] at hR
        refine own_back (fun t k => XS.icmpNo X.here hx rfl (hb hby own_d2_28) rfl (tlt hc28).2.1 k) ?_
        show own_Go _ _ _ _ _ _ _ (T.setTop (mkF m 31 #[.val (.ref x0), .val (.int x1), .val (.int x2), .val (.int ((oc x1.toNatClampNeg) &&& (255 : Int32))), .unset, .unset, .unset, .unset, .unset, .unset] []))
        refine own_back (fun t k => XS.iconst X.here hx rfl (hb hby own_d2_31) k) ?_
        show own_Go _ _ _ _ _ _ _ (T.setTop (mkF m 32 #[.val (.ref x0), .val (.int x1), .val (.int x2), .val (.int ((oc x1.toNatClampNeg) &&& (255 : Int32))), .unset, .unset, .unset, .unset, .unset, .unset] [(.int (2 : Int32))]))
        refine own_back (fun t k => XS.goto X.here hx rfl (pc0 := 32) (pc' := 47) rfl (hb hby own_d2_32) (by decide) (by decide) k) ?_
        show own_Go _ _ _ _ _ _ _ (T.setTop (mkF m 47 #[.val (.ref x0), .val (.int x1), .val (.int x2), .val (.int ((oc x1.toNatClampNeg) &&& (255 : Int32))), .unset, .unset, .unset, .unset, .unset, .unset] [(.int (2 : Int32))]))
        exact own_l2_47 X hx hZ hw hby hml hown hret hlk e0 N Z0 x0 oc x1 x2 ((oc x1.toNatClampNeg) &&& (255 : Int32)) (2 : Int32) hR VA hat (by first | decide | assumption)
      · rw [if_neg hc28] at hR
        refine own_back (fun t k => XS.icmpYes X.here hx rfl (pc0 := 28) (pc' := 35) rfl (hb hby own_d2_28) rfl (flt hc28).2.1 (by decide) (by decide) k) ?_
        show own_Go _ _ _ _ _ _ _ (T.setTop (mkF m 35 #[.val (.ref x0), .val (.int x1), .val (.int x2), .val (.int ((oc x1.toNatClampNeg) &&& (255 : Int32))), .unset, .unset, .unset, .unset, .unset, .unset] []))
        refine own_back (fun t k => XS.iloadN X.here hx rfl (hb hby own_d2_35) rfl k) ?_
        show own_Go _ _ _ _ _ _ _ (T.setTop (mkF m 36 #[.val (.ref x0), .val (.int x1), .val (.int x2), .val (.int ((oc x1.toNatClampNeg) &&& (255 : Int32))), .unset, .unset, .unset, .unset, .unset, .unset] [(.int ((oc x1.toNatClampNeg) &&& (255 : Int32)))]))
        refine own_back (fun t k => XS.sipush X.here hx rfl (hb hby own_d2_36) k) ?_
        show own_Go _ _ _ _ _ _ _ (T.setTop (mkF m 39 #[.val (.ref x0), .val (.int x1), .val (.int x2), .val (.int ((oc x1.toNatClampNeg) &&& (255 : Int32))), .unset, .unset, .unset, .unset, .unset, .unset] [(.int (240 : Int32)), (.int ((oc x1.toNatClampNeg) &&& (255 : Int32)))]))
        by_cases hc39 : ((oc x1.toNatClampNeg) &&& (255 : Int32)) < (240 : Int32)
        · rw [if_pos hc39] at hR
          refine own_back (fun t k => XS.icmpNo X.here hx rfl (hb hby own_d2_39) rfl (tlt hc39).2.1 k) ?_
          show own_Go _ _ _ _ _ _ _ (T.setTop (mkF m 42 #[.val (.ref x0), .val (.int x1), .val (.int x2), .val (.int ((oc x1.toNatClampNeg) &&& (255 : Int32))), .unset, .unset, .unset, .unset, .unset, .unset] []))
          refine own_back (fun t k => XS.iconst X.here hx rfl (hb hby own_d2_42) k) ?_
          show own_Go _ _ _ _ _ _ _ (T.setTop (mkF m 43 #[.val (.ref x0), .val (.int x1), .val (.int x2), .val (.int ((oc x1.toNatClampNeg) &&& (255 : Int32))), .unset, .unset, .unset, .unset, .unset, .unset] [(.int (3 : Int32))]))
          refine own_back (fun t k => XS.goto X.here hx rfl (pc0 := 43) (pc' := 47) rfl (hb hby own_d2_43) (by decide) (by decide) k) ?_
          show own_Go _ _ _ _ _ _ _ (T.setTop (mkF m 47 #[.val (.ref x0), .val (.int x1), .val (.int x2), .val (.int ((oc x1.toNatClampNeg) &&& (255 : Int32))), .unset, .unset, .unset, .unset, .unset, .unset] [(.int (3 : Int32))]))
          exact own_l2_47 X hx hZ hw hby hml hown hret hlk e0 N Z0 x0 oc x1 x2 ((oc x1.toNatClampNeg) &&& (255 : Int32)) (3 : Int32) hR VA hat (by first | decide | assumption)
        · rw [if_neg hc39] at hR
          refine own_back (fun t k => XS.icmpYes X.here hx rfl (pc0 := 39) (pc' := 46) rfl (hb hby own_d2_39) rfl (flt hc39).2.1 (by decide) (by decide) k) ?_
          show own_Go _ _ _ _ _ _ _ (T.setTop (mkF m 46 #[.val (.ref x0), .val (.int x1), .val (.int x2), .val (.int ((oc x1.toNatClampNeg) &&& (255 : Int32))), .unset, .unset, .unset, .unset, .unset, .unset] []))
          refine own_back (fun t k => XS.iconst X.here hx rfl (hb hby own_d2_46) k) ?_
          show own_Go _ _ _ _ _ _ _ (T.setTop (mkF m 47 #[.val (.ref x0), .val (.int x1), .val (.int x2), .val (.int ((oc x1.toNatClampNeg) &&& (255 : Int32))), .unset, .unset, .unset, .unset, .unset, .unset] [(.int (4 : Int32))]))
          exact own_l2_47 X hx hZ hw hby hml hown hret hlk e0 N Z0 x0 oc x1 x2 ((oc x1.toNatClampNeg) &&& (255 : Int32)) (4 : Int32) hR VA hat (by first | decide | assumption)
theorem own_pn2 : plainName "com/example/frame_to_method/frametomethod/Utf8" = true := by first | (simp [plainName, overriddenIn]; done) | decide +kernel
theorem own_ef2 (m : MethodId) (x0 : Addr) (x1 : Int32) (x2 : Int32) : entryFrame m #[(.ref x0), (.int x1), (.int x2)] 10 = mkF m 0 #[.val (.ref x0), .val (.int x1), .val (.int x2), .unset, .unset, .unset, .unset, .unset, .unset, .unset] [] := by first | (simp [entryFrame, mkF, argsToLocals, Value.category]; done) | rfl
set_option maxRecDepth 65536 in
set_option maxHeartbeats 4000000 in
theorem own_rm2 (l : Launch) (Z : State) (a0 : Array Value) (hw : ∀ d ∈ tables_1, d.before a0 Z = true) (ws : List Jvm.Cond) (x0 : Addr) (x1 : Int32) (x2 : Int32) (oc : Nat → Int32) (h0 : Heap) (n0 : Nat) (Z0 : n0 ≤ h0.size) (VA : own_VA Z h0 x0 .byte 5 (fun k => .int (oc k))) (hat : x1 = (0 : Int32) ∨ x1 = (1 : Int32)) :
    MetFree l (⟨"com/example/frame_to_method/frametomethod/Utf8", "sequenceSize", "([BII)I"⟩ : MethodName) (head1 (Jvm.Cond.code (⟨"com/example/frame_to_method/frametomethod/Utf8", "sequenceSize", "([BII)I"⟩ : MethodName) prog_134_method_2_code 10 (some .int) :: ws) ({ frames := 0, cells := 0, slots := 0, locals := 0 } : Room)) (fun a U => a = #[(.ref x0), (.int x1), (.int x2)] ∧ Z.Warmed39 U.vm ∧ U.heap = h0) (fun _ _ _ _ _ => True) (fun _ U o U' => ∃ v L, o = .returned v ∧ own_QP (.int (own_f2_0 oc x1 x2)) h0 n0 v U'.heap L ∧ FrameEnd U o U' L ({ frames := 0, cells := 0, slots := 0, locals := 0 } : Room).cells ({ frames := 0, cells := 0, slots := 0, locals := 0 } : Room).slots) := by
  refine MetFree.of_bodySF (plainFor_of_name own_pn2) hisR ?_
  intro p e s m args below meth c s₁ Bd hml0 hP hK
  obtain ⟨rfl, hZ, hh⟩ := hP
  have X0 : Stand p l e ({ frames := 0, cells := 0, slots := 0, locals := 0 } : Room) s m #[(.ref x0), (.int x1), (.int x2)] below meth c s₁ [] 0 0 := Stand.of_body Bd
  have e0 : s₁.heap = h0 := by rw [← hh, Bd.state]; rfl
  refine own_back (s := s) (fun t k => castTop (own_ef2 m x0 x1 x2) k) ?_
  exact own_l2_0 X0 Bd.exec hZ hw Bd.bytes hml0 (findClass_of_methodNamed Bd.named) Bd.returns (BodyLoose.notSynchronized Bd) e0 (Fr.nil n0) Z0 x0 oc x1 x2 rfl VA hat
theorem own_pd1 : parseMethodDescriptor "([BII)I" = some ⟨[(.array .byte), .int, .int], some .int⟩ := by decide +kernel
/-! body 0: com/example/frame_to_method/frametomethod/Utf8SequenceSizePinLaw.law:(IIIIII)Z -/
def own_f0_0 (x0 : Int32) (x1 : Int32) (x2 : Int32) (x3 : Int32) (x4 : Int32) (x5 : Int32) : Int32 := (if (own_f2_0 (own_o x0 x1 x2 x3 x4) (x5 &&& (1 : Int32)) (((x5 &&& (1 : Int32)) + (1 : Int32)) + (((x5.toUInt32 >>> ((1 : Int32) &&& 31).toUInt32).toInt32) &&& (3 : Int32)))) = (own_f1_0 (own_o x0 x1 x2 x3 x4) (x5 &&& (1 : Int32)) (((x5 &&& (1 : Int32)) + (1 : Int32)) + (((x5.toUInt32 >>> ((1 : Int32) &&& 31).toUInt32).toInt32) &&& (3 : Int32)))) then (1 : Int32) else (0 : Int32))
set_option maxRecDepth 65536 in
set_option maxHeartbeats 20000000 in
theorem own_l0_0 {p : Program} {l : Launch} {e : Env} {s : State} {m : MethodId} {args : Array Value} {below : List Frame} {meth : Method} {c : Code} {T : State} {locs : List Loc} {Z : State} {a0 : Array Value} {h0 : Heap} {n0 : Nat}
    (X : Stand p l e room_1 s m args below meth c T locs 0 0) (hx : p.tables.exec = Jvm.exec) (hZ : Z.Warmed39 s.vm) (hw : ∀ d ∈ tables_1, d.before a0 Z = true) (hby : c.code = code) (hml : c.maxLocals = 10) (hown : s.vm.findClass "com/example/frame_to_method/frametomethod/Utf8SequenceSizePinLaw" = some m.cls) (hret : meth.sig.returnType = some .boolean) (hlk : meth.locks = false) (e0 : T.heap = h0) (N : Fr n0 locs) (Z0 : n0 ≤ h0.size)
    (x0 : Int32) (x1 : Int32) (x2 : Int32) (x3 : Int32) (x4 : Int32) (x5 : Int32) {r : Int32} (hR : r = own_f0_0 x0 x1 x2 x3 x4 x5) : own_Go p e below s room_1.cells room_1.slots (own_QG (.int r) h0 n0) (T.setTop (mkF m 0 #[.val (.int x0), .val (.int x1), .val (.int x2), .val (.int x3), .val (.int x4), .val (.int x5), .unset, .unset, .unset, .unset] [])) := by
  unfold own_f0_0 at hR
  refine own_back (fun t k => XS.iconst X.here hx rfl (hb hby at_0) k) ?_
  show own_Go _ _ _ _ _ _ _ (T.setTop (mkF m 1 #[.val (.int x0), .val (.int x1), .val (.int x2), .val (.int x3), .val (.int x4), .val (.int x5), .unset, .unset, .unset, .unset] [(.int (5 : Int32))]))
  obtain ⟨T1, h1, k1, X1, e1, E1, A1, st1⟩ := newP X hx hZ (hw _ (List.mem_of_getElem? (i := 0) rfl)) e0 (g := (mkF m 1 #[.val (.int x0), .val (.int x1), .val (.int x2), .val (.int x3), .val (.int x4), .val (.int x5), .unset, .unset, .unset, .unset] [(.int (5 : Int32))])) rfl (hb hby at_1) rfl (by decide) (cap := 5) (by decide) (by decide) (by decide) (by decide)
  obtain ⟨b1, g1⟩ : ∃ z, z = h0.size := ⟨_, rfl⟩
  rw [← g1] at A1 st1
  have V1 : own_VA Z h1 b1 .byte 5 (fun _ => (.int (0 : Int32))) := own_VA_new A1 (by decide) (by decide) rfl
  have qb1 : n0 ≤ b1 := Nat.le_trans Z0 (Nat.le_of_eq g1.symm)
  have Z1 : n0 ≤ h1.size := Nat.le_trans Z0 E1.1
  refine own_back (fun t k => st1 t k) ?_
  show own_Go _ _ _ _ _ _ _ (T1.setTop (mkF m 3 #[.val (.int x0), .val (.int x1), .val (.int x2), .val (.int x3), .val (.int x4), .val (.int x5), .unset, .unset, .unset, .unset] [(.ref b1)]))
  refine own_back (fun t k => XS.astore X1.here hx rfl (hb hby at_3) rfl rfl (l' := #[.val (.int x0), .val (.int x1), .val (.int x2), .val (.int x3), .val (.int x4), .val (.int x5), .val (.ref b1), .unset, .unset, .unset]) rfl k) ?_
  show own_Go _ _ _ _ _ _ _ (T1.setTop (mkF m 5 #[.val (.int x0), .val (.int x1), .val (.int x2), .val (.int x3), .val (.int x4), .val (.int x5), .val (.ref b1), .unset, .unset, .unset] []))
  refine own_back (fun t k => XS.aload X1.here hx rfl (hb hby at_5) rfl rfl k) ?_
  show own_Go _ _ _ _ _ _ _ (T1.setTop (mkF m 7 #[.val (.int x0), .val (.int x1), .val (.int x2), .val (.int x3), .val (.int x4), .val (.int x5), .val (.ref b1), .unset, .unset, .unset] [(.ref b1)]))
  refine own_back (fun t k => XS.iconst X1.here hx rfl (hb hby at_7) k) ?_
  show own_Go _ _ _ _ _ _ _ (T1.setTop (mkF m 8 #[.val (.int x0), .val (.int x1), .val (.int x2), .val (.int x3), .val (.int x4), .val (.int x5), .val (.ref b1), .unset, .unset, .unset] [(.int (0 : Int32)), (.ref b1)]))
  refine own_back (fun t k => XS.iloadN X1.here hx rfl (hb hby at_8) rfl k) ?_
  show own_Go _ _ _ _ _ _ _ (T1.setTop (mkF m 9 #[.val (.int x0), .val (.int x1), .val (.int x2), .val (.int x3), .val (.int x4), .val (.int x5), .val (.ref b1), .unset, .unset, .unset] [(.int x0), (.int (0 : Int32)), (.ref b1)]))
  refine own_back (fun t k => XS.i2b X1.here hx rfl (hb hby at_9) rfl k) ?_
  show own_Go _ _ _ _ _ _ _ (T1.setTop (mkF m 10 #[.val (.int x0), .val (.int x1), .val (.int x2), .val (.int x3), .val (.int x4), .val (.int x5), .val (.ref b1), .unset, .unset, .unset] [(.int (x0.toInt8.toInt32)), (.int (0 : Int32)), (.ref b1)]))
  obtain ⟨T2, h2, X2, e2, W2, V2, st2⟩ := own_stB X1 hx hZ e1 V1 0 (by decide) (by decide) (g := (mkF m 10 #[.val (.int x0), .val (.int x1), .val (.int x2), .val (.int x3), .val (.int x4), .val (.int x5), .val (.ref b1), .unset, .unset, .unset] [(.int (x0.toInt8.toInt32)), (.int (0 : Int32)), (.ref b1)])) rfl rfl (hb hby at_10)
  have N2 := Fr.snoc X2 N qb1
  have Z2 : n0 ≤ h2.size := Nat.le_trans Z1 (Keep.of_wr W2).1
  refine own_back (fun t k => st2 t k) ?_
  show own_Go _ _ _ _ _ _ _ (T2.setTop (mkF m 11 #[.val (.int x0), .val (.int x1), .val (.int x2), .val (.int x3), .val (.int x4), .val (.int x5), .val (.ref b1), .unset, .unset, .unset] []))
  refine own_back (fun t k => XS.aload X2.here hx rfl (hb hby at_11) rfl rfl k) ?_
  show own_Go _ _ _ _ _ _ _ (T2.setTop (mkF m 13 #[.val (.int x0), .val (.int x1), .val (.int x2), .val (.int x3), .val (.int x4), .val (.int x5), .val (.ref b1), .unset, .unset, .unset] [(.ref b1)]))
  refine own_back (fun t k => XS.iconst X2.here hx rfl (hb hby at_13) k) ?_
  show own_Go _ _ _ _ _ _ _ (T2.setTop (mkF m 14 #[.val (.int x0), .val (.int x1), .val (.int x2), .val (.int x3), .val (.int x4), .val (.int x5), .val (.ref b1), .unset, .unset, .unset] [(.int (1 : Int32)), (.ref b1)]))
  refine own_back (fun t k => XS.iloadN X2.here hx rfl (hb hby at_14) rfl k) ?_
  show own_Go _ _ _ _ _ _ _ (T2.setTop (mkF m 15 #[.val (.int x0), .val (.int x1), .val (.int x2), .val (.int x3), .val (.int x4), .val (.int x5), .val (.ref b1), .unset, .unset, .unset] [(.int x1), (.int (1 : Int32)), (.ref b1)]))
  refine own_back (fun t k => XS.i2b X2.here hx rfl (hb hby at_15) rfl k) ?_
  show own_Go _ _ _ _ _ _ _ (T2.setTop (mkF m 16 #[.val (.int x0), .val (.int x1), .val (.int x2), .val (.int x3), .val (.int x4), .val (.int x5), .val (.ref b1), .unset, .unset, .unset] [(.int (x1.toInt8.toInt32)), (.int (1 : Int32)), (.ref b1)]))
  obtain ⟨T3, h3, X3, e3, W3, V3, st3⟩ := own_stB X2 hx hZ e2 V2 1 (by decide) (by decide) (g := (mkF m 16 #[.val (.int x0), .val (.int x1), .val (.int x2), .val (.int x3), .val (.int x4), .val (.int x5), .val (.ref b1), .unset, .unset, .unset] [(.int (x1.toInt8.toInt32)), (.int (1 : Int32)), (.ref b1)])) rfl rfl (hb hby at_16)
  have N3 := Fr.snoc X3 N2 qb1
  have Z3 : n0 ≤ h3.size := Nat.le_trans Z2 (Keep.of_wr W3).1
  refine own_back (fun t k => st3 t k) ?_
  show own_Go _ _ _ _ _ _ _ (T3.setTop (mkF m 17 #[.val (.int x0), .val (.int x1), .val (.int x2), .val (.int x3), .val (.int x4), .val (.int x5), .val (.ref b1), .unset, .unset, .unset] []))
  refine own_back (fun t k => XS.aload X3.here hx rfl (hb hby at_17) rfl rfl k) ?_
  show own_Go _ _ _ _ _ _ _ (T3.setTop (mkF m 19 #[.val (.int x0), .val (.int x1), .val (.int x2), .val (.int x3), .val (.int x4), .val (.int x5), .val (.ref b1), .unset, .unset, .unset] [(.ref b1)]))
  refine own_back (fun t k => XS.iconst X3.here hx rfl (hb hby at_19) k) ?_
  show own_Go _ _ _ _ _ _ _ (T3.setTop (mkF m 20 #[.val (.int x0), .val (.int x1), .val (.int x2), .val (.int x3), .val (.int x4), .val (.int x5), .val (.ref b1), .unset, .unset, .unset] [(.int (2 : Int32)), (.ref b1)]))
  refine own_back (fun t k => XS.iloadN X3.here hx rfl (hb hby at_20) rfl k) ?_
  show own_Go _ _ _ _ _ _ _ (T3.setTop (mkF m 21 #[.val (.int x0), .val (.int x1), .val (.int x2), .val (.int x3), .val (.int x4), .val (.int x5), .val (.ref b1), .unset, .unset, .unset] [(.int x2), (.int (2 : Int32)), (.ref b1)]))
  refine own_back (fun t k => XS.i2b X3.here hx rfl (hb hby at_21) rfl k) ?_
  show own_Go _ _ _ _ _ _ _ (T3.setTop (mkF m 22 #[.val (.int x0), .val (.int x1), .val (.int x2), .val (.int x3), .val (.int x4), .val (.int x5), .val (.ref b1), .unset, .unset, .unset] [(.int (x2.toInt8.toInt32)), (.int (2 : Int32)), (.ref b1)]))
  obtain ⟨T4, h4, X4, e4, W4, V4, st4⟩ := own_stB X3 hx hZ e3 V3 2 (by decide) (by decide) (g := (mkF m 22 #[.val (.int x0), .val (.int x1), .val (.int x2), .val (.int x3), .val (.int x4), .val (.int x5), .val (.ref b1), .unset, .unset, .unset] [(.int (x2.toInt8.toInt32)), (.int (2 : Int32)), (.ref b1)])) rfl rfl (hb hby at_22)
  have N4 := Fr.snoc X4 N3 qb1
  have Z4 : n0 ≤ h4.size := Nat.le_trans Z3 (Keep.of_wr W4).1
  refine own_back (fun t k => st4 t k) ?_
  show own_Go _ _ _ _ _ _ _ (T4.setTop (mkF m 23 #[.val (.int x0), .val (.int x1), .val (.int x2), .val (.int x3), .val (.int x4), .val (.int x5), .val (.ref b1), .unset, .unset, .unset] []))
  refine own_back (fun t k => XS.aload X4.here hx rfl (hb hby at_23) rfl rfl k) ?_
  show own_Go _ _ _ _ _ _ _ (T4.setTop (mkF m 25 #[.val (.int x0), .val (.int x1), .val (.int x2), .val (.int x3), .val (.int x4), .val (.int x5), .val (.ref b1), .unset, .unset, .unset] [(.ref b1)]))
  refine own_back (fun t k => XS.iconst X4.here hx rfl (hb hby at_25) k) ?_
  show own_Go _ _ _ _ _ _ _ (T4.setTop (mkF m 26 #[.val (.int x0), .val (.int x1), .val (.int x2), .val (.int x3), .val (.int x4), .val (.int x5), .val (.ref b1), .unset, .unset, .unset] [(.int (3 : Int32)), (.ref b1)]))
  refine own_back (fun t k => XS.iloadN X4.here hx rfl (hb hby at_26) rfl k) ?_
  show own_Go _ _ _ _ _ _ _ (T4.setTop (mkF m 27 #[.val (.int x0), .val (.int x1), .val (.int x2), .val (.int x3), .val (.int x4), .val (.int x5), .val (.ref b1), .unset, .unset, .unset] [(.int x3), (.int (3 : Int32)), (.ref b1)]))
  refine own_back (fun t k => XS.i2b X4.here hx rfl (hb hby at_27) rfl k) ?_
  show own_Go _ _ _ _ _ _ _ (T4.setTop (mkF m 28 #[.val (.int x0), .val (.int x1), .val (.int x2), .val (.int x3), .val (.int x4), .val (.int x5), .val (.ref b1), .unset, .unset, .unset] [(.int (x3.toInt8.toInt32)), (.int (3 : Int32)), (.ref b1)]))
  obtain ⟨T5, h5, X5, e5, W5, V5, st5⟩ := own_stB X4 hx hZ e4 V4 3 (by decide) (by decide) (g := (mkF m 28 #[.val (.int x0), .val (.int x1), .val (.int x2), .val (.int x3), .val (.int x4), .val (.int x5), .val (.ref b1), .unset, .unset, .unset] [(.int (x3.toInt8.toInt32)), (.int (3 : Int32)), (.ref b1)])) rfl rfl (hb hby at_28)
  have N5 := Fr.snoc X5 N4 qb1
  have Z5 : n0 ≤ h5.size := Nat.le_trans Z4 (Keep.of_wr W5).1
  refine own_back (fun t k => st5 t k) ?_
  show own_Go _ _ _ _ _ _ _ (T5.setTop (mkF m 29 #[.val (.int x0), .val (.int x1), .val (.int x2), .val (.int x3), .val (.int x4), .val (.int x5), .val (.ref b1), .unset, .unset, .unset] []))
  refine own_back (fun t k => XS.aload X5.here hx rfl (hb hby at_29) rfl rfl k) ?_
  show own_Go _ _ _ _ _ _ _ (T5.setTop (mkF m 31 #[.val (.int x0), .val (.int x1), .val (.int x2), .val (.int x3), .val (.int x4), .val (.int x5), .val (.ref b1), .unset, .unset, .unset] [(.ref b1)]))
  refine own_back (fun t k => XS.iconst X5.here hx rfl (hb hby at_31) k) ?_
  show own_Go _ _ _ _ _ _ _ (T5.setTop (mkF m 32 #[.val (.int x0), .val (.int x1), .val (.int x2), .val (.int x3), .val (.int x4), .val (.int x5), .val (.ref b1), .unset, .unset, .unset] [(.int (4 : Int32)), (.ref b1)]))
  refine own_back (fun t k => XS.iload X5.here hx rfl (hb hby at_32) rfl k) ?_
  show own_Go _ _ _ _ _ _ _ (T5.setTop (mkF m 34 #[.val (.int x0), .val (.int x1), .val (.int x2), .val (.int x3), .val (.int x4), .val (.int x5), .val (.ref b1), .unset, .unset, .unset] [(.int x4), (.int (4 : Int32)), (.ref b1)]))
  refine own_back (fun t k => XS.i2b X5.here hx rfl (hb hby at_34) rfl k) ?_
  show own_Go _ _ _ _ _ _ _ (T5.setTop (mkF m 35 #[.val (.int x0), .val (.int x1), .val (.int x2), .val (.int x3), .val (.int x4), .val (.int x5), .val (.ref b1), .unset, .unset, .unset] [(.int (x4.toInt8.toInt32)), (.int (4 : Int32)), (.ref b1)]))
  obtain ⟨T6, h6, X6, e6, W6, V6, st6⟩ := own_stB X5 hx hZ e5 V5 4 (by decide) (by decide) (g := (mkF m 35 #[.val (.int x0), .val (.int x1), .val (.int x2), .val (.int x3), .val (.int x4), .val (.int x5), .val (.ref b1), .unset, .unset, .unset] [(.int (x4.toInt8.toInt32)), (.int (4 : Int32)), (.ref b1)])) rfl rfl (hb hby at_35)
  have N6 := Fr.snoc X6 N5 qb1
  have Z6 : n0 ≤ h6.size := Nat.le_trans Z5 (Keep.of_wr W6).1
  refine own_back (fun t k => st6 t k) ?_
  show own_Go _ _ _ _ _ _ _ (T6.setTop (mkF m 36 #[.val (.int x0), .val (.int x1), .val (.int x2), .val (.int x3), .val (.int x4), .val (.int x5), .val (.ref b1), .unset, .unset, .unset] []))
  refine own_back (fun t k => XS.iload X6.here hx rfl (hb hby at_36) rfl k) ?_
  show own_Go _ _ _ _ _ _ _ (T6.setTop (mkF m 38 #[.val (.int x0), .val (.int x1), .val (.int x2), .val (.int x3), .val (.int x4), .val (.int x5), .val (.ref b1), .unset, .unset, .unset] [(.int x5)]))
  refine own_back (fun t k => XS.iconst X6.here hx rfl (hb hby at_38) k) ?_
  show own_Go _ _ _ _ _ _ _ (T6.setTop (mkF m 39 #[.val (.int x0), .val (.int x1), .val (.int x2), .val (.int x3), .val (.int x4), .val (.int x5), .val (.ref b1), .unset, .unset, .unset] [(.int (1 : Int32)), (.int x5)]))
  refine own_back (fun t k => XS.iand X6.here hx rfl (hb hby at_39) rfl k) ?_
  show own_Go _ _ _ _ _ _ _ (T6.setTop (mkF m 40 #[.val (.int x0), .val (.int x1), .val (.int x2), .val (.int x3), .val (.int x4), .val (.int x5), .val (.ref b1), .unset, .unset, .unset] [(.int (x5 &&& (1 : Int32)))]))
  refine own_back (fun t k => XS.istore X6.here hx rfl (hb hby at_40) rfl (l' := #[.val (.int x0), .val (.int x1), .val (.int x2), .val (.int x3), .val (.int x4), .val (.int x5), .val (.ref b1), .val (.int (x5 &&& (1 : Int32))), .unset, .unset]) rfl k) ?_
  show own_Go _ _ _ _ _ _ _ (T6.setTop (mkF m 42 #[.val (.int x0), .val (.int x1), .val (.int x2), .val (.int x3), .val (.int x4), .val (.int x5), .val (.ref b1), .val (.int (x5 &&& (1 : Int32))), .unset, .unset] []))
  refine own_back (fun t k => XS.iload X6.here hx rfl (hb hby at_42) rfl k) ?_
  show own_Go _ _ _ _ _ _ _ (T6.setTop (mkF m 44 #[.val (.int x0), .val (.int x1), .val (.int x2), .val (.int x3), .val (.int x4), .val (.int x5), .val (.ref b1), .val (.int (x5 &&& (1 : Int32))), .unset, .unset] [(.int (x5 &&& (1 : Int32)))]))
  refine own_back (fun t k => XS.iconst X6.here hx rfl (hb hby at_44) k) ?_
  show own_Go _ _ _ _ _ _ _ (T6.setTop (mkF m 45 #[.val (.int x0), .val (.int x1), .val (.int x2), .val (.int x3), .val (.int x4), .val (.int x5), .val (.ref b1), .val (.int (x5 &&& (1 : Int32))), .unset, .unset] [(.int (1 : Int32)), (.int (x5 &&& (1 : Int32)))]))
  refine own_back (fun t k => XS.iadd X6.here hx rfl (hb hby at_45) rfl k) ?_
  show own_Go _ _ _ _ _ _ _ (T6.setTop (mkF m 46 #[.val (.int x0), .val (.int x1), .val (.int x2), .val (.int x3), .val (.int x4), .val (.int x5), .val (.ref b1), .val (.int (x5 &&& (1 : Int32))), .unset, .unset] [(.int ((x5 &&& (1 : Int32)) + (1 : Int32)))]))
  refine own_back (fun t k => XS.iload X6.here hx rfl (hb hby at_46) rfl k) ?_
  show own_Go _ _ _ _ _ _ _ (T6.setTop (mkF m 48 #[.val (.int x0), .val (.int x1), .val (.int x2), .val (.int x3), .val (.int x4), .val (.int x5), .val (.ref b1), .val (.int (x5 &&& (1 : Int32))), .unset, .unset] [(.int x5), (.int ((x5 &&& (1 : Int32)) + (1 : Int32)))]))
  refine own_back (fun t k => XS.iconst X6.here hx rfl (hb hby at_48) k) ?_
  show own_Go _ _ _ _ _ _ _ (T6.setTop (mkF m 49 #[.val (.int x0), .val (.int x1), .val (.int x2), .val (.int x3), .val (.int x4), .val (.int x5), .val (.ref b1), .val (.int (x5 &&& (1 : Int32))), .unset, .unset] [(.int (1 : Int32)), (.int x5), (.int ((x5 &&& (1 : Int32)) + (1 : Int32)))]))
  refine own_back (fun t k => XS.iushr X6.here hx rfl (hb hby at_49) rfl k) ?_
  show own_Go _ _ _ _ _ _ _ (T6.setTop (mkF m 50 #[.val (.int x0), .val (.int x1), .val (.int x2), .val (.int x3), .val (.int x4), .val (.int x5), .val (.ref b1), .val (.int (x5 &&& (1 : Int32))), .unset, .unset] [(.int ((x5.toUInt32 >>> ((1 : Int32) &&& 31).toUInt32).toInt32)), (.int ((x5 &&& (1 : Int32)) + (1 : Int32)))]))
  refine own_back (fun t k => XS.iconst X6.here hx rfl (hb hby at_50) k) ?_
  show own_Go _ _ _ _ _ _ _ (T6.setTop (mkF m 51 #[.val (.int x0), .val (.int x1), .val (.int x2), .val (.int x3), .val (.int x4), .val (.int x5), .val (.ref b1), .val (.int (x5 &&& (1 : Int32))), .unset, .unset] [(.int (3 : Int32)), (.int ((x5.toUInt32 >>> ((1 : Int32) &&& 31).toUInt32).toInt32)), (.int ((x5 &&& (1 : Int32)) + (1 : Int32)))]))
  refine own_back (fun t k => XS.iand X6.here hx rfl (hb hby at_51) rfl k) ?_
  show own_Go _ _ _ _ _ _ _ (T6.setTop (mkF m 52 #[.val (.int x0), .val (.int x1), .val (.int x2), .val (.int x3), .val (.int x4), .val (.int x5), .val (.ref b1), .val (.int (x5 &&& (1 : Int32))), .unset, .unset] [(.int (((x5.toUInt32 >>> ((1 : Int32) &&& 31).toUInt32).toInt32) &&& (3 : Int32))), (.int ((x5 &&& (1 : Int32)) + (1 : Int32)))]))
  refine own_back (fun t k => XS.iadd X6.here hx rfl (hb hby at_52) rfl k) ?_
  show own_Go _ _ _ _ _ _ _ (T6.setTop (mkF m 53 #[.val (.int x0), .val (.int x1), .val (.int x2), .val (.int x3), .val (.int x4), .val (.int x5), .val (.ref b1), .val (.int (x5 &&& (1 : Int32))), .unset, .unset] [(.int (((x5 &&& (1 : Int32)) + (1 : Int32)) + (((x5.toUInt32 >>> ((1 : Int32) &&& 31).toUInt32).toInt32) &&& (3 : Int32))))]))
  refine own_back (fun t k => XS.istore X6.here hx rfl (hb hby at_53) rfl (l' := #[.val (.int x0), .val (.int x1), .val (.int x2), .val (.int x3), .val (.int x4), .val (.int x5), .val (.ref b1), .val (.int (x5 &&& (1 : Int32))), .val (.int (((x5 &&& (1 : Int32)) + (1 : Int32)) + (((x5.toUInt32 >>> ((1 : Int32) &&& 31).toUInt32).toInt32) &&& (3 : Int32)))), .unset]) rfl k) ?_
  show own_Go _ _ _ _ _ _ _ (T6.setTop (mkF m 55 #[.val (.int x0), .val (.int x1), .val (.int x2), .val (.int x3), .val (.int x4), .val (.int x5), .val (.ref b1), .val (.int (x5 &&& (1 : Int32))), .val (.int (((x5 &&& (1 : Int32)) + (1 : Int32)) + (((x5.toUInt32 >>> ((1 : Int32) &&& 31).toUInt32).toInt32) &&& (3 : Int32)))), .unset] []))
  refine own_back (fun t k => XS.aload X6.here hx rfl (hb hby at_55) rfl rfl k) ?_
  show own_Go _ _ _ _ _ _ _ (T6.setTop (mkF m 57 #[.val (.int x0), .val (.int x1), .val (.int x2), .val (.int x3), .val (.int x4), .val (.int x5), .val (.ref b1), .val (.int (x5 &&& (1 : Int32))), .val (.int (((x5 &&& (1 : Int32)) + (1 : Int32)) + (((x5.toUInt32 >>> ((1 : Int32) &&& 31).toUInt32).toInt32) &&& (3 : Int32)))), .unset] [(.ref b1)]))
  refine own_back (fun t k => XS.iload X6.here hx rfl (hb hby at_57) rfl k) ?_
  show own_Go _ _ _ _ _ _ _ (T6.setTop (mkF m 59 #[.val (.int x0), .val (.int x1), .val (.int x2), .val (.int x3), .val (.int x4), .val (.int x5), .val (.ref b1), .val (.int (x5 &&& (1 : Int32))), .val (.int (((x5 &&& (1 : Int32)) + (1 : Int32)) + (((x5.toUInt32 >>> ((1 : Int32) &&& 31).toUInt32).toInt32) &&& (3 : Int32)))), .unset] [(.int (x5 &&& (1 : Int32))), (.ref b1)]))
  refine own_back (fun t k => XS.iload X6.here hx rfl (hb hby at_59) rfl k) ?_
  show own_Go _ _ _ _ _ _ _ (T6.setTop (mkF m 61 #[.val (.int x0), .val (.int x1), .val (.int x2), .val (.int x3), .val (.int x4), .val (.int x5), .val (.ref b1), .val (.int (x5 &&& (1 : Int32))), .val (.int (((x5 &&& (1 : Int32)) + (1 : Int32)) + (((x5.toUInt32 >>> ((1 : Int32) &&& 31).toUInt32).toInt32) &&& (3 : Int32)))), .unset] [(.int (((x5 &&& (1 : Int32)) + (1 : Int32)) + (((x5.toUInt32 >>> ((1 : Int32) &&& 31).toUInt32).toInt32) &&& (3 : Int32)))), (.int (x5 &&& (1 : Int32))), (.ref b1)]))
  obtain ⟨_, _, ⟨T7, L7, k7, n7⟩, -, X7, ⟨Lc7, hQ7, l7, y7, z7⟩, st7⟩ := Jvm.LawKit.callS X6 hx (y := (⟨"com/example/frame_to_method/frametomethod/Utf8SequenceSizePinLaw", "reference", "([BII)I"⟩ : MethodName)) hown (mvT hZ (hw _ (List.mem_of_getElem? (i := 1) rfl))) (mvT hZ (hw _ (List.mem_of_getElem? (i := 2) rfl))) (mvT hZ (hw _ (List.mem_of_getElem? (i := 3) rfl))) (mvT hZ (hw _ (List.mem_of_getElem? (i := 4) rfl))) (by decide) (backOf (W := 0) (own_rm1 l Z a0 hw [] b1 (x5 &&& (1 : Int32)) (((x5 &&& (1 : Int32)) + (1 : Int32)) + (((x5.toUInt32 >>> ((1 : Int32) &&& 31).toUInt32).toInt32) &&& (3 : Int32))) (own_o x0 x1 x2 x3 x4) h6 n0 Z6 (own_VA_congr (g := fun k => .int (own_o x0 x1 x2 x3 x4 k)) V6 (by intro k hk; match k, hk with | 0, _ => rfl | 1, _ => rfl | 2, _ => rfl | 3, _ => rfl | 4, _ => rfl)) (own_at x5)) hZ (hw _ (List.mem_of_getElem? (i := 4) rfl)) (hw _ (List.mem_of_getElem? (i := 3) rfl)) (by decide) (by decide)) (g := (mkF m 61 #[.val (.int x0), .val (.int x1), .val (.int x2), .val (.int x3), .val (.int x4), .val (.int x5), .val (.ref b1), .val (.int (x5 &&& (1 : Int32))), .val (.int (((x5 &&& (1 : Int32)) + (1 : Int32)) + (((x5.toUInt32 >>> ((1 : Int32) &&& 31).toUInt32).toInt32) &&& (3 : Int32)))), .unset] [(.int (((x5 &&& (1 : Int32)) + (1 : Int32)) + (((x5.toUInt32 >>> ((1 : Int32) &&& 31).toUInt32).toInt32) &&& (3 : Int32)))), (.int (x5 &&& (1 : Int32))), (.ref b1)])) rfl (by rw [hml]; rfl) (argsL := [(.ref b1), (.int (x5 &&& (1 : Int32))), (.int (((x5 &&& (1 : Int32)) + (1 : Int32)) + (((x5.toUInt32 >>> ((1 : Int32) &&& 31).toUInt32).toInt32) &&& (3 : Int32))))]) (rest := []) (lenOf own_pd1 rfl) rfl (by show 2 * 0 + _ ≤ _; exact Nat.le_of_eq rfl) (hb hby at_61) (fun _ _ => ⟨rfl, e6, (by decide : 1 + 0 ≤ _), (by decide : 5 + 0 ≤ _)⟩)
  dsimp only [Pt.U, Pt.locs, Pt.cells, Pt.slots] at X7 l7 y7 z7 st7 hQ7
  subst l7 y7 z7
  obtain ⟨rfl, N7q, e7⟩ := hQ7
  have N7 := Fr.app N6 N7q
  refine own_back (fun t k => st7 t k) ?_
  show own_Go _ _ _ _ _ _ _ (T7.setTop (mkF m 64 #[.val (.int x0), .val (.int x1), .val (.int x2), .val (.int x3), .val (.int x4), .val (.int x5), .val (.ref b1), .val (.int (x5 &&& (1 : Int32))), .val (.int (((x5 &&& (1 : Int32)) + (1 : Int32)) + (((x5.toUInt32 >>> ((1 : Int32) &&& 31).toUInt32).toInt32) &&& (3 : Int32)))), .unset] [(.int (own_f1_0 (own_o x0 x1 x2 x3 x4) (x5 &&& (1 : Int32)) (((x5 &&& (1 : Int32)) + (1 : Int32)) + (((x5.toUInt32 >>> ((1 : Int32) &&& 31).toUInt32).toInt32) &&& (3 : Int32)))))]))
  refine own_back (fun t k => XS.istore X7.here hx rfl (hb hby at_64) rfl (l' := #[.val (.int x0), .val (.int x1), .val (.int x2), .val (.int x3), .val (.int x4), .val (.int x5), .val (.ref b1), .val (.int (x5 &&& (1 : Int32))), .val (.int (((x5 &&& (1 : Int32)) + (1 : Int32)) + (((x5.toUInt32 >>> ((1 : Int32) &&& 31).toUInt32).toInt32) &&& (3 : Int32)))), .val (.int (own_f1_0 (own_o x0 x1 x2 x3 x4) (x5 &&& (1 : Int32)) (((x5 &&& (1 : Int32)) + (1 : Int32)) + (((x5.toUInt32 >>> ((1 : Int32) &&& 31).toUInt32).toInt32) &&& (3 : Int32)))))]) rfl k) ?_
  show own_Go _ _ _ _ _ _ _ (T7.setTop (mkF m 66 #[.val (.int x0), .val (.int x1), .val (.int x2), .val (.int x3), .val (.int x4), .val (.int x5), .val (.ref b1), .val (.int (x5 &&& (1 : Int32))), .val (.int (((x5 &&& (1 : Int32)) + (1 : Int32)) + (((x5.toUInt32 >>> ((1 : Int32) &&& 31).toUInt32).toInt32) &&& (3 : Int32)))), .val (.int (own_f1_0 (own_o x0 x1 x2 x3 x4) (x5 &&& (1 : Int32)) (((x5 &&& (1 : Int32)) + (1 : Int32)) + (((x5.toUInt32 >>> ((1 : Int32) &&& 31).toUInt32).toInt32) &&& (3 : Int32)))))] []))
  refine own_back (fun t k => XS.aload X7.here hx rfl (hb hby at_66) rfl rfl k) ?_
  show own_Go _ _ _ _ _ _ _ (T7.setTop (mkF m 68 #[.val (.int x0), .val (.int x1), .val (.int x2), .val (.int x3), .val (.int x4), .val (.int x5), .val (.ref b1), .val (.int (x5 &&& (1 : Int32))), .val (.int (((x5 &&& (1 : Int32)) + (1 : Int32)) + (((x5.toUInt32 >>> ((1 : Int32) &&& 31).toUInt32).toInt32) &&& (3 : Int32)))), .val (.int (own_f1_0 (own_o x0 x1 x2 x3 x4) (x5 &&& (1 : Int32)) (((x5 &&& (1 : Int32)) + (1 : Int32)) + (((x5.toUInt32 >>> ((1 : Int32) &&& 31).toUInt32).toInt32) &&& (3 : Int32)))))] [(.ref b1)]))
  refine own_back (fun t k => XS.iload X7.here hx rfl (hb hby at_68) rfl k) ?_
  show own_Go _ _ _ _ _ _ _ (T7.setTop (mkF m 70 #[.val (.int x0), .val (.int x1), .val (.int x2), .val (.int x3), .val (.int x4), .val (.int x5), .val (.ref b1), .val (.int (x5 &&& (1 : Int32))), .val (.int (((x5 &&& (1 : Int32)) + (1 : Int32)) + (((x5.toUInt32 >>> ((1 : Int32) &&& 31).toUInt32).toInt32) &&& (3 : Int32)))), .val (.int (own_f1_0 (own_o x0 x1 x2 x3 x4) (x5 &&& (1 : Int32)) (((x5 &&& (1 : Int32)) + (1 : Int32)) + (((x5.toUInt32 >>> ((1 : Int32) &&& 31).toUInt32).toInt32) &&& (3 : Int32)))))] [(.int (x5 &&& (1 : Int32))), (.ref b1)]))
  refine own_back (fun t k => XS.iload X7.here hx rfl (hb hby at_70) rfl k) ?_
  show own_Go _ _ _ _ _ _ _ (T7.setTop (mkF m 72 #[.val (.int x0), .val (.int x1), .val (.int x2), .val (.int x3), .val (.int x4), .val (.int x5), .val (.ref b1), .val (.int (x5 &&& (1 : Int32))), .val (.int (((x5 &&& (1 : Int32)) + (1 : Int32)) + (((x5.toUInt32 >>> ((1 : Int32) &&& 31).toUInt32).toInt32) &&& (3 : Int32)))), .val (.int (own_f1_0 (own_o x0 x1 x2 x3 x4) (x5 &&& (1 : Int32)) (((x5 &&& (1 : Int32)) + (1 : Int32)) + (((x5.toUInt32 >>> ((1 : Int32) &&& 31).toUInt32).toInt32) &&& (3 : Int32)))))] [(.int (((x5 &&& (1 : Int32)) + (1 : Int32)) + (((x5.toUInt32 >>> ((1 : Int32) &&& 31).toUInt32).toInt32) &&& (3 : Int32)))), (.int (x5 &&& (1 : Int32))), (.ref b1)]))
  obtain ⟨_, _, ⟨T8, L8, k8, n8⟩, -, X8, ⟨Lc8, hQ8, l8, y8, z8⟩, st8⟩ := Jvm.LawKit.callS X7 hx (y := (⟨"com/example/frame_to_method/frametomethod/Utf8", "sequenceSize", "([BII)I"⟩ : MethodName)) hown (mvT hZ (hw _ (List.mem_of_getElem? (i := 5) rfl))) (mvT hZ (hw _ (List.mem_of_getElem? (i := 6) rfl))) (mvT hZ (hw _ (List.mem_of_getElem? (i := 7) rfl))) (mvT hZ (hw _ (List.mem_of_getElem? (i := 8) rfl))) (by decide) (backOf (W := 0) (own_rm2 l Z a0 hw [] b1 (x5 &&& (1 : Int32)) (((x5 &&& (1 : Int32)) + (1 : Int32)) + (((x5.toUInt32 >>> ((1 : Int32) &&& 31).toUInt32).toInt32) &&& (3 : Int32))) (own_o x0 x1 x2 x3 x4) h6 n0 Z6 (own_VA_congr (g := fun k => .int (own_o x0 x1 x2 x3 x4 k)) V6 (by intro k hk; match k, hk with | 0, _ => rfl | 1, _ => rfl | 2, _ => rfl | 3, _ => rfl | 4, _ => rfl)) (own_at x5)) hZ (hw _ (List.mem_of_getElem? (i := 8) rfl)) (hw _ (List.mem_of_getElem? (i := 7) rfl)) (by decide) (by decide)) (g := (mkF m 72 #[.val (.int x0), .val (.int x1), .val (.int x2), .val (.int x3), .val (.int x4), .val (.int x5), .val (.ref b1), .val (.int (x5 &&& (1 : Int32))), .val (.int (((x5 &&& (1 : Int32)) + (1 : Int32)) + (((x5.toUInt32 >>> ((1 : Int32) &&& 31).toUInt32).toInt32) &&& (3 : Int32)))), .val (.int (own_f1_0 (own_o x0 x1 x2 x3 x4) (x5 &&& (1 : Int32)) (((x5 &&& (1 : Int32)) + (1 : Int32)) + (((x5.toUInt32 >>> ((1 : Int32) &&& 31).toUInt32).toInt32) &&& (3 : Int32)))))] [(.int (((x5 &&& (1 : Int32)) + (1 : Int32)) + (((x5.toUInt32 >>> ((1 : Int32) &&& 31).toUInt32).toInt32) &&& (3 : Int32)))), (.int (x5 &&& (1 : Int32))), (.ref b1)])) rfl (by rw [hml]; rfl) (argsL := [(.ref b1), (.int (x5 &&& (1 : Int32))), (.int (((x5 &&& (1 : Int32)) + (1 : Int32)) + (((x5.toUInt32 >>> ((1 : Int32) &&& 31).toUInt32).toInt32) &&& (3 : Int32))))]) (rest := []) (lenOf own_pd1 rfl) rfl (by show 2 * 0 + _ ≤ _; exact Nat.le_of_eq rfl) (hb hby at_72) (fun _ _ => ⟨rfl, e7, (by decide : 1 + 0 ≤ _), (by decide : 5 + 0 ≤ _)⟩)
  dsimp only [Pt.U, Pt.locs, Pt.cells, Pt.slots] at X8 l8 y8 z8 st8 hQ8
  subst l8 y8 z8
  obtain ⟨rfl, N8q, e8⟩ := hQ8
  have N8 := Fr.app N7 N8q
  refine own_back (fun t k => st8 t k) ?_
  show own_Go _ _ _ _ _ _ _ (T8.setTop (mkF m 75 #[.val (.int x0), .val (.int x1), .val (.int x2), .val (.int x3), .val (.int x4), .val (.int x5), .val (.ref b1), .val (.int (x5 &&& (1 : Int32))), .val (.int (((x5 &&& (1 : Int32)) + (1 : Int32)) + (((x5.toUInt32 >>> ((1 : Int32) &&& 31).toUInt32).toInt32) &&& (3 : Int32)))), .val (.int (own_f1_0 (own_o x0 x1 x2 x3 x4) (x5 &&& (1 : Int32)) (((x5 &&& (1 : Int32)) + (1 : Int32)) + (((x5.toUInt32 >>> ((1 : Int32) &&& 31).toUInt32).toInt32) &&& (3 : Int32)))))] [(.int (own_f2_0 (own_o x0 x1 x2 x3 x4) (x5 &&& (1 : Int32)) (((x5 &&& (1 : Int32)) + (1 : Int32)) + (((x5.toUInt32 >>> ((1 : Int32) &&& 31).toUInt32).toInt32) &&& (3 : Int32)))))]))
  refine own_back (fun t k => XS.iload X8.here hx rfl (hb hby at_75) rfl k) ?_
  show own_Go _ _ _ _ _ _ _ (T8.setTop (mkF m 77 #[.val (.int x0), .val (.int x1), .val (.int x2), .val (.int x3), .val (.int x4), .val (.int x5), .val (.ref b1), .val (.int (x5 &&& (1 : Int32))), .val (.int (((x5 &&& (1 : Int32)) + (1 : Int32)) + (((x5.toUInt32 >>> ((1 : Int32) &&& 31).toUInt32).toInt32) &&& (3 : Int32)))), .val (.int (own_f1_0 (own_o x0 x1 x2 x3 x4) (x5 &&& (1 : Int32)) (((x5 &&& (1 : Int32)) + (1 : Int32)) + (((x5.toUInt32 >>> ((1 : Int32) &&& 31).toUInt32).toInt32) &&& (3 : Int32)))))] [(.int (own_f1_0 (own_o x0 x1 x2 x3 x4) (x5 &&& (1 : Int32)) (((x5 &&& (1 : Int32)) + (1 : Int32)) + (((x5.toUInt32 >>> ((1 : Int32) &&& 31).toUInt32).toInt32) &&& (3 : Int32))))), (.int (own_f2_0 (own_o x0 x1 x2 x3 x4) (x5 &&& (1 : Int32)) (((x5 &&& (1 : Int32)) + (1 : Int32)) + (((x5.toUInt32 >>> ((1 : Int32) &&& 31).toUInt32).toInt32) &&& (3 : Int32)))))]))
  by_cases hc77 : (own_f2_0 (own_o x0 x1 x2 x3 x4) (x5 &&& (1 : Int32)) (((x5 &&& (1 : Int32)) + (1 : Int32)) + (((x5.toUInt32 >>> ((1 : Int32) &&& 31).toUInt32).toInt32) &&& (3 : Int32)))) = (own_f1_0 (own_o x0 x1 x2 x3 x4) (x5 &&& (1 : Int32)) (((x5 &&& (1 : Int32)) + (1 : Int32)) + (((x5.toUInt32 >>> ((1 : Int32) &&& 31).toUInt32).toInt32) &&& (3 : Int32))))
  · rw [if_pos hc77] at hR
    refine own_back (fun t k => XS.icmpNo X8.here hx rfl (hb hby at_77) rfl (teq hc77).2 k) ?_
    show own_Go _ _ _ _ _ _ _ (T8.setTop (mkF m 80 #[.val (.int x0), .val (.int x1), .val (.int x2), .val (.int x3), .val (.int x4), .val (.int x5), .val (.ref b1), .val (.int (x5 &&& (1 : Int32))), .val (.int (((x5 &&& (1 : Int32)) + (1 : Int32)) + (((x5.toUInt32 >>> ((1 : Int32) &&& 31).toUInt32).toInt32) &&& (3 : Int32)))), .val (.int (own_f1_0 (own_o x0 x1 x2 x3 x4) (x5 &&& (1 : Int32)) (((x5 &&& (1 : Int32)) + (1 : Int32)) + (((x5.toUInt32 >>> ((1 : Int32) &&& 31).toUInt32).toInt32) &&& (3 : Int32)))))] []))
    refine own_back (fun t k => XS.iconst X8.here hx rfl (hb hby at_80) k) ?_
    show own_Go _ _ _ _ _ _ _ (T8.setTop (mkF m 81 #[.val (.int x0), .val (.int x1), .val (.int x2), .val (.int x3), .val (.int x4), .val (.int x5), .val (.ref b1), .val (.int (x5 &&& (1 : Int32))), .val (.int (((x5 &&& (1 : Int32)) + (1 : Int32)) + (((x5.toUInt32 >>> ((1 : Int32) &&& 31).toUInt32).toInt32) &&& (3 : Int32)))), .val (.int (own_f1_0 (own_o x0 x1 x2 x3 x4) (x5 &&& (1 : Int32)) (((x5 &&& (1 : Int32)) + (1 : Int32)) + (((x5.toUInt32 >>> ((1 : Int32) &&& 31).toUInt32).toInt32) &&& (3 : Int32)))))] [(.int (1 : Int32))]))
    refine own_back (fun t k => XS.goto X8.here hx rfl (pc0 := 81) (pc' := 85) rfl (hb hby at_81) (by decide) (by decide) k) ?_
    show own_Go _ _ _ _ _ _ _ (T8.setTop (mkF m 85 #[.val (.int x0), .val (.int x1), .val (.int x2), .val (.int x3), .val (.int x4), .val (.int x5), .val (.ref b1), .val (.int (x5 &&& (1 : Int32))), .val (.int (((x5 &&& (1 : Int32)) + (1 : Int32)) + (((x5.toUInt32 >>> ((1 : Int32) &&& 31).toUInt32).toInt32) &&& (3 : Int32)))), .val (.int (own_f1_0 (own_o x0 x1 x2 x3 x4) (x5 &&& (1 : Int32)) (((x5 &&& (1 : Int32)) + (1 : Int32)) + (((x5.toUInt32 >>> ((1 : Int32) &&& 31).toUInt32).toInt32) &&& (3 : Int32)))))] [(.int (1 : Int32))]))
    subst hR
    exact own_retN X8 hx (t := .boolean) hret (by simp) (hb hby at_85) hlk (by decide) ⟨rfl, N8, by rw [e8]; exact Z6⟩ (by decide) (by decide)
  · rw [if_neg hc77] at hR
    refine own_back (fun t k => XS.icmpYes X8.here hx rfl (pc0 := 77) (pc' := 84) rfl (hb hby at_77) rfl (feq hc77).2 (by decide) (by decide) k) ?_
    show own_Go _ _ _ _ _ _ _ (T8.setTop (mkF m 84 #[.val (.int x0), .val (.int x1), .val (.int x2), .val (.int x3), .val (.int x4), .val (.int x5), .val (.ref b1), .val (.int (x5 &&& (1 : Int32))), .val (.int (((x5 &&& (1 : Int32)) + (1 : Int32)) + (((x5.toUInt32 >>> ((1 : Int32) &&& 31).toUInt32).toInt32) &&& (3 : Int32)))), .val (.int (own_f1_0 (own_o x0 x1 x2 x3 x4) (x5 &&& (1 : Int32)) (((x5 &&& (1 : Int32)) + (1 : Int32)) + (((x5.toUInt32 >>> ((1 : Int32) &&& 31).toUInt32).toInt32) &&& (3 : Int32)))))] []))
    refine own_back (fun t k => XS.iconst X8.here hx rfl (hb hby at_84) k) ?_
    show own_Go _ _ _ _ _ _ _ (T8.setTop (mkF m 85 #[.val (.int x0), .val (.int x1), .val (.int x2), .val (.int x3), .val (.int x4), .val (.int x5), .val (.ref b1), .val (.int (x5 &&& (1 : Int32))), .val (.int (((x5 &&& (1 : Int32)) + (1 : Int32)) + (((x5.toUInt32 >>> ((1 : Int32) &&& 31).toUInt32).toInt32) &&& (3 : Int32)))), .val (.int (own_f1_0 (own_o x0 x1 x2 x3 x4) (x5 &&& (1 : Int32)) (((x5 &&& (1 : Int32)) + (1 : Int32)) + (((x5.toUInt32 >>> ((1 : Int32) &&& 31).toUInt32).toInt32) &&& (3 : Int32)))))] [(.int (0 : Int32))]))
    subst hR
    exact own_retN X8 hx (t := .boolean) hret (by simp) (hb hby at_85) hlk (by decide) ⟨rfl, N8, by rw [e8]; exact Z6⟩ (by decide) (by decide)
theorem own_pn0 : plainName "com/example/frame_to_method/frametomethod/Utf8SequenceSizePinLaw" = true := by first | (simp [plainName, overriddenIn]; done) | decide +kernel
theorem own_ef0 (m : MethodId) (x0 : Int32) (x1 : Int32) (x2 : Int32) (x3 : Int32) (x4 : Int32) (x5 : Int32) : entryFrame m #[(.int x0), (.int x1), (.int x2), (.int x3), (.int x4), (.int x5)] maxLocals = mkF m 0 #[.val (.int x0), .val (.int x1), .val (.int x2), .val (.int x3), .val (.int x4), .val (.int x5), .unset, .unset, .unset, .unset] [] := by first | (simp [entryFrame, mkF, argsToLocals, Value.category, maxLocals]; done) | rfl
set_option maxRecDepth 65536 in
set_option maxHeartbeats 4000000 in
theorem own_rm0 (l : Launch) (Z : State) (a0 : Array Value) (hw : ∀ d ∈ tables_1, d.before a0 Z = true) (ws : List Jvm.Cond) (x0 : Int32) (x1 : Int32) (x2 : Int32) (x3 : Int32) (x4 : Int32) (x5 : Int32) (h0 : Heap) (n0 : Nat) (Z0 : n0 ≤ h0.size) :
    MetFree l x (head1 (Jvm.Cond.code x code maxLocals ret :: ws) room_1) (fun a U => a = #[(.int x0), (.int x1), (.int x2), (.int x3), (.int x4), (.int x5)] ∧ Z.Warmed39 U.vm ∧ U.heap = h0) (fun _ _ _ _ _ => True) (fun _ U o U' => ∃ v L, o = .returned v ∧ own_QG (.int (own_f0_0 x0 x1 x2 x3 x4 x5)) h0 n0 v U'.heap L ∧ FrameEnd U o U' L room_1.cells room_1.slots) := by
  refine MetFree.of_bodySF (plainFor_of_name own_pn0) hisR ?_
  intro p e s m args below meth c s₁ Bd hml0 hP hK
  obtain ⟨rfl, hZ, hh⟩ := hP
  have X0 : Stand p l e room_1 s m #[(.int x0), (.int x1), (.int x2), (.int x3), (.int x4), (.int x5)] below meth c s₁ [] 0 0 := Stand.of_body Bd
  have e0 : s₁.heap = h0 := by rw [← hh, Bd.state]; rfl
  refine own_back (s := s) (fun t k => castTop (own_ef0 m x0 x1 x2 x3 x4 x5) k) ?_
  exact own_l0_0 X0 Bd.exec hZ hw Bd.bytes hml0 (findClass_of_methodNamed Bd.named) Bd.returns (BodyLoose.notSynchronized Bd) e0 (Fr.nil n0) Z0 x0 x1 x2 x3 x4 x5 rfl
theorem own_cp2 (a b : Int32) : (((a &&& (31 : Int32)) <<< ((6 : Int32) &&& 31)) ||| (b &&& (63 : Int32))).toInt = (a.toInt % 32) * 64 + b.toInt % 64 := by
  have m1 : (a &&& (31 : Int32)).toInt = a.toInt % 32 := c_mask a 31 5 (by decide) (by decide)
  have m2 : (b &&& (63 : Int32)).toInt = b.toInt % 64 := c_mask b 63 6 (by decide) (by decide)
  have s1 : (((a &&& (31 : Int32)) <<< ((6 : Int32) &&& 31)).toInt - (a &&& (31 : Int32)).toInt * 64) % 4294967296 = 0 := c_ishl (a &&& (31 : Int32)) 6 6 (by decide)
  have r1 := rng32 ((a &&& (31 : Int32)) <<< ((6 : Int32) &&& 31))
  generalize ((a &&& (31 : Int32)) <<< ((6 : Int32) &&& 31)) = A at *
  generalize (b &&& (63 : Int32)) = Bb at *
  have e1 : A.toInt = (a.toInt % 32) * 64 := by omega
  have o := c_or A Bb 6 (by decide) 64 rfl (by omega) (by omega) (by omega)
  have r := rng32 (A ||| Bb)
  omega
theorem own_cp3 (a b c : Int32) : ((((a &&& (15 : Int32)) <<< ((12 : Int32) &&& 31)) ||| ((b &&& (63 : Int32)) <<< ((6 : Int32) &&& 31))) ||| (c &&& (63 : Int32))).toInt = (a.toInt % 16) * 4096 + (b.toInt % 64) * 64 + c.toInt % 64 := by
  have m1 : (a &&& (15 : Int32)).toInt = a.toInt % 16 := c_mask a 15 4 (by decide) (by decide)
  have m2 : (b &&& (63 : Int32)).toInt = b.toInt % 64 := c_mask b 63 6 (by decide) (by decide)
  have m3 : (c &&& (63 : Int32)).toInt = c.toInt % 64 := c_mask c 63 6 (by decide) (by decide)
  have s1 : (((a &&& (15 : Int32)) <<< ((12 : Int32) &&& 31)).toInt - (a &&& (15 : Int32)).toInt * 4096) % 4294967296 = 0 := c_ishl (a &&& (15 : Int32)) 12 12 (by decide)
  have r1 := rng32 ((a &&& (15 : Int32)) <<< ((12 : Int32) &&& 31))
  have s2 : (((b &&& (63 : Int32)) <<< ((6 : Int32) &&& 31)).toInt - (b &&& (63 : Int32)).toInt * 64) % 4294967296 = 0 := c_ishl (b &&& (63 : Int32)) 6 6 (by decide)
  have r2 := rng32 ((b &&& (63 : Int32)) <<< ((6 : Int32) &&& 31))
  generalize ((a &&& (15 : Int32)) <<< ((12 : Int32) &&& 31)) = A at *
  generalize ((b &&& (63 : Int32)) <<< ((6 : Int32) &&& 31)) = Bb at *
  generalize (c &&& (63 : Int32)) = Cc at *
  have e1 : A.toInt = (a.toInt % 16) * 4096 := by omega
  have e2 : Bb.toInt = (b.toInt % 64) * 64 := by omega
  have o := c_or A Bb 12 (by decide) 4096 rfl (by omega) (by omega) (by omega)
  have r := rng32 (A ||| Bb)
  have e3 : (A ||| Bb).toInt = A.toInt + Bb.toInt := by omega
  have o2 := c_or (A ||| Bb) Cc 6 (by decide) 64 rfl (by omega) (by omega) (by omega)
  have r2 := rng32 ((A ||| Bb) ||| Cc)
  omega
theorem own_cp4 (a b c d : Int32) : (((((a &&& (7 : Int32)) <<< ((18 : Int32) &&& 31)) ||| ((b &&& (63 : Int32)) <<< ((12 : Int32) &&& 31))) ||| ((c &&& (63 : Int32)) <<< ((6 : Int32) &&& 31))) ||| (d &&& (63 : Int32))).toInt = (a.toInt % 8) * 262144 + (b.toInt % 64) * 4096 + (c.toInt % 64) * 64 + d.toInt % 64 := by
  have m1 : (a &&& (7 : Int32)).toInt = a.toInt % 8 := c_mask a 7 3 (by decide) (by decide)
  have m2 : (b &&& (63 : Int32)).toInt = b.toInt % 64 := c_mask b 63 6 (by decide) (by decide)
  have m3 : (c &&& (63 : Int32)).toInt = c.toInt % 64 := c_mask c 63 6 (by decide) (by decide)
  have m4 : (d &&& (63 : Int32)).toInt = d.toInt % 64 := c_mask d 63 6 (by decide) (by decide)
  have s1 : (((a &&& (7 : Int32)) <<< ((18 : Int32) &&& 31)).toInt - (a &&& (7 : Int32)).toInt * 262144) % 4294967296 = 0 := c_ishl (a &&& (7 : Int32)) 18 18 (by decide)
  have r1 := rng32 ((a &&& (7 : Int32)) <<< ((18 : Int32) &&& 31))
  have s2 : (((b &&& (63 : Int32)) <<< ((12 : Int32) &&& 31)).toInt - (b &&& (63 : Int32)).toInt * 4096) % 4294967296 = 0 := c_ishl (b &&& (63 : Int32)) 12 12 (by decide)
  have r2 := rng32 ((b &&& (63 : Int32)) <<< ((12 : Int32) &&& 31))
  have s3 : (((c &&& (63 : Int32)) <<< ((6 : Int32) &&& 31)).toInt - (c &&& (63 : Int32)).toInt * 64) % 4294967296 = 0 := c_ishl (c &&& (63 : Int32)) 6 6 (by decide)
  have r3 := rng32 ((c &&& (63 : Int32)) <<< ((6 : Int32) &&& 31))
  generalize ((a &&& (7 : Int32)) <<< ((18 : Int32) &&& 31)) = A at *
  generalize ((b &&& (63 : Int32)) <<< ((12 : Int32) &&& 31)) = Bb at *
  generalize ((c &&& (63 : Int32)) <<< ((6 : Int32) &&& 31)) = Cc at *
  generalize (d &&& (63 : Int32)) = Dd at *
  have e1 : A.toInt = (a.toInt % 8) * 262144 := by omega
  have e2 : Bb.toInt = (b.toInt % 64) * 4096 := by omega
  have e2' : Cc.toInt = (c.toInt % 64) * 64 := by omega
  have o := c_or A Bb 18 (by decide) 262144 rfl (by omega) (by omega) (by omega)
  have r := rng32 (A ||| Bb)
  have e3 : (A ||| Bb).toInt = A.toInt + Bb.toInt := by omega
  have o2 := c_or (A ||| Bb) Cc 12 (by decide) 4096 rfl (by omega) (by omega) (by omega)
  have r2 := rng32 ((A ||| Bb) ||| Cc)
  have e4 : ((A ||| Bb) ||| Cc).toInt = A.toInt + Bb.toInt + Cc.toInt := by omega
  have o3 := c_or ((A ||| Bb) ||| Cc) Dd 6 (by decide) 64 rfl (by omega) (by omega) (by omega)
  have r4 := rng32 (((A ||| Bb) ||| Cc) ||| Dd)
  omega
def own_S (c1 c2 c3 d i4 i5 t0 : Int32) : Int32 := if d < i4 then 0 else if c1 < i5 then 0 else if t0 < c1 then 0 else if i4 = 2 then 2 else if c2 < 128 then 0 else if 191 < c2 then 0 else if i4 = 3 then 3 else if c3 < 128 then 0 else if 191 < c3 then 0 else 4
theorem own_g109 (oc : Nat → Int32) (x1 i2 i3 i4 i5 t0 : Int32) (hat : x1 = (0 : Int32) ∨ x1 = (1 : Int32)) (hs : i4 = (2 : Int32) ∨ i4 = (3 : Int32) ∨ i4 = (4 : Int32)) :
    own_f2_109 oc x1 i2 i3 i4 i5 t0 = own_S ((oc (x1 + (1 : Int32)).toNatClampNeg) &&& (255 : Int32)) ((oc (x1 + (2 : Int32)).toNatClampNeg) &&& (255 : Int32)) ((oc (x1 + (3 : Int32)).toNatClampNeg) &&& (255 : Int32)) (i2 - x1) i4 i5 t0 := by
  have e0 : (((0 : Int32) + (2 : Int32)) + (1 : Int32)).toNatClampNeg = ((0 : Int32) + (3 : Int32)).toNatClampNeg := rfl
  have e1 : (((1 : Int32) + (2 : Int32)) + (1 : Int32)).toNatClampNeg = ((1 : Int32) + (3 : Int32)).toNatClampNeg := rfl
  have n10 : ¬ (1 : Int32) = 0 := by decide
  have n32 : ¬ (3 : Int32) = 2 := by decide
  have n42 : ¬ (4 : Int32) = 2 := by decide
  have n43 : ¬ (4 : Int32) = 3 := by decide
  unfold own_f2_109 own_S
  rw [e0, e1]
  rcases hat with rfl | rfl <;> rcases hs with rfl | rfl | rfl <;> simp only [if_pos, if_neg, n10, n32, n42, n43, not_false_iff, if_true, if_false, eq_self]
theorem own_b (x : Int32) : 0 ≤ (x &&& (255 : Int32)).toInt ∧ (x &&& (255 : Int32)).toInt < 256 := by
  have e : (x &&& (255 : Int32)).toInt = x.toInt % 256 := c_mask x 255 8 (by decide) (by decide)
  omega
theorem own_e1 : ((1 : Int32) = 0) = False := by decide
theorem own_e2 : ((3 : Int32) = 2) = False := by decide
theorem own_e3 : ((4 : Int32) = 2) = False := by decide
theorem own_e4 : ((4 : Int32) = 3) = False := by decide
theorem own_e5 : ((2 : Int32) = 3) = False := by decide
theorem own_e6 : ((2 : Int32) = 4) = False := by decide
theorem own_e7 : ((3 : Int32) = 4) = False := by decide
theorem own_cont (x : Int32) : (own_f3_0 x = 0) = (x.toInt < 128 ∨ 191 < x.toInt) := by
  have z1 : (128 : Int32).toInt = 128 := rfl
  have z2 : (191 : Int32).toInt = 191 := rfl
  unfold own_f3_0
  simp only [Int32.lt_iff_toInt_lt, z1, z2]
  by_cases h1 : x.toInt < 128
  · simp only [h1, if_true, true_or]
  · by_cases h2 : 191 < x.toInt
    · simp only [h1, h2, if_true, if_false, or_true]
    · simp only [h1, h2, if_false, own_e1, or_false]


set_option maxHeartbeats 4000000 in
theorem own_k0 (oc : Nat → Int32) (x1 i2 a b c d : Int32) (h1 : 192 ≤ a.toInt) (h2 : a.toInt ≤ 193) (b1 : 0 ≤ b.toInt ∧ b.toInt < 256) (c1 : 0 ≤ c.toInt ∧ c.toInt < 256) (d1 : 0 ≤ d.toInt ∧ d.toInt < 256) : (0 : Int32) = own_f1_80 oc x1 i2 a b c d 2 := by
  have z2 : (2 : Int32).toInt = 2 := rfl
  have z3 : (3 : Int32).toInt = 3 := rfl
  have z4 : (4 : Int32).toInt = 4 := rfl
  have z128 : (128 : Int32).toInt = 128 := rfl
  have z191 : (191 : Int32).toInt = 191 := rfl
  have z2048 : (2048 : Int32).toInt = 2048 := rfl
  have z55296 : (55296 : Int32).toInt = 55296 := rfl
  have z57343 : (57343 : Int32).toInt = 57343 := rfl
  have z65536 : (65536 : Int32).toInt = 65536 := rfl
  have z1114111 : (1114111 : Int32).toInt = 1114111 := rfl
  unfold own_f1_80 own_f1_118 own_f1_134 own_f1_238
  simp only [own_cont, Int32.lt_iff_toInt_lt, own_cp2, own_cp3, own_cp4, own_e1, own_e2, own_e3, own_e4, own_e5, own_e6, own_e7, if_true, if_false, eq_self, z2, z3, z4, z128, z191, z2048, z55296, z57343, z65536, z1114111]
  generalize (i2 - x1).toInt = D
  generalize a.toInt = A at *
  generalize b.toInt = Bb at *
  generalize c.toInt = Cc at *
  generalize d.toInt = Dd at *
  by_cases q1 : D < 2
  · simp only [q1, if_true]
  by_cases q2 : Bb < 128 ∨ 191 < Bb
  · simp only [q1, q2, if_true, if_false]
    repeat' split
    all_goals first | rfl | omega
  simp only [q1, q2, if_false]
  repeat' split
  all_goals first | rfl | omega
set_option maxHeartbeats 4000000 in
theorem own_k1 (oc : Nat → Int32) (x1 i2 a b c d : Int32) (h1 : 194 ≤ a.toInt) (h2 : a.toInt ≤ 223) (b1 : 0 ≤ b.toInt ∧ b.toInt < 256) (c1 : 0 ≤ c.toInt ∧ c.toInt < 256) (d1 : 0 ≤ d.toInt ∧ d.toInt < 256) : own_S b c d (i2 - x1) 2 128 191 = own_f1_80 oc x1 i2 a b c d 2 := by
  have z2 : (2 : Int32).toInt = 2 := rfl
  have z3 : (3 : Int32).toInt = 3 := rfl
  have z4 : (4 : Int32).toInt = 4 := rfl
  have z128 : (128 : Int32).toInt = 128 := rfl
  have z191 : (191 : Int32).toInt = 191 := rfl
  have z2048 : (2048 : Int32).toInt = 2048 := rfl
  have z55296 : (55296 : Int32).toInt = 55296 := rfl
  have z57343 : (57343 : Int32).toInt = 57343 := rfl
  have z65536 : (65536 : Int32).toInt = 65536 := rfl
  have z1114111 : (1114111 : Int32).toInt = 1114111 := rfl
  unfold own_S own_f1_80 own_f1_118 own_f1_134 own_f1_238
  simp only [own_cont, Int32.lt_iff_toInt_lt, own_cp2, own_cp3, own_cp4, own_e1, own_e2, own_e3, own_e4, own_e5, own_e6, own_e7, if_true, if_false, eq_self, z2, z3, z4, z128, z191, z2048, z55296, z57343, z65536, z1114111]
  generalize (i2 - x1).toInt = D
  generalize a.toInt = A at *
  generalize b.toInt = Bb at *
  generalize c.toInt = Cc at *
  generalize d.toInt = Dd at *
  by_cases q1 : D < 2
  · simp only [q1, if_true]
  by_cases q2 : Bb < 128 ∨ 191 < Bb
  · simp only [q1, q2, if_true, if_false]
    repeat' split
    all_goals first | rfl | omega
  simp only [q1, q2, if_false]
  repeat' split
  all_goals first | rfl | omega
set_option maxHeartbeats 4000000 in
theorem own_k2 (oc : Nat → Int32) (x1 i2 a b c d : Int32) (h1 : 224 ≤ a.toInt) (h2 : a.toInt ≤ 224) (b1 : 0 ≤ b.toInt ∧ b.toInt < 256) (c1 : 0 ≤ c.toInt ∧ c.toInt < 256) (d1 : 0 ≤ d.toInt ∧ d.toInt < 256) : own_S b c d (i2 - x1) 3 160 191 = own_f1_80 oc x1 i2 a b c d 3 := by
  have z2 : (2 : Int32).toInt = 2 := rfl
  have z3 : (3 : Int32).toInt = 3 := rfl
  have z4 : (4 : Int32).toInt = 4 := rfl
  have z128 : (128 : Int32).toInt = 128 := rfl
  have z160 : (160 : Int32).toInt = 160 := rfl
  have z191 : (191 : Int32).toInt = 191 := rfl
  have z2048 : (2048 : Int32).toInt = 2048 := rfl
  have z55296 : (55296 : Int32).toInt = 55296 := rfl
  have z57343 : (57343 : Int32).toInt = 57343 := rfl
  have z65536 : (65536 : Int32).toInt = 65536 := rfl
  have z1114111 : (1114111 : Int32).toInt = 1114111 := rfl
  unfold own_S own_f1_80 own_f1_118 own_f1_134 own_f1_238
  simp only [own_cont, Int32.lt_iff_toInt_lt, own_cp2, own_cp3, own_cp4, own_e1, own_e2, own_e3, own_e4, own_e5, own_e6, own_e7, if_true, if_false, eq_self, z2, z3, z4, z128, z160, z191, z2048, z55296, z57343, z65536, z1114111]
  generalize (i2 - x1).toInt = D
  generalize a.toInt = A at *
  generalize b.toInt = Bb at *
  generalize c.toInt = Cc at *
  generalize d.toInt = Dd at *
  by_cases q1 : D < 3
  · simp only [q1, if_true]
  by_cases q2 : Bb < 128 ∨ 191 < Bb
  · simp only [q1, q2, if_true, if_false]
    repeat' split
    all_goals first | rfl | omega
  by_cases q3 : Cc < 128 ∨ 191 < Cc
  · simp only [q1, q2, q3, if_true, if_false]
    repeat' split
    all_goals first | rfl | omega
  simp only [q1, q2, q3, if_false]
  repeat' split
  all_goals first | rfl | omega
set_option maxHeartbeats 4000000 in
theorem own_k3 (oc : Nat → Int32) (x1 i2 a b c d : Int32) (h1 : 225 ≤ a.toInt) (h2 : a.toInt ≤ 236) (b1 : 0 ≤ b.toInt ∧ b.toInt < 256) (c1 : 0 ≤ c.toInt ∧ c.toInt < 256) (d1 : 0 ≤ d.toInt ∧ d.toInt < 256) : own_S b c d (i2 - x1) 3 128 191 = own_f1_80 oc x1 i2 a b c d 3 := by
  have z2 : (2 : Int32).toInt = 2 := rfl
  have z3 : (3 : Int32).toInt = 3 := rfl
  have z4 : (4 : Int32).toInt = 4 := rfl
  have z128 : (128 : Int32).toInt = 128 := rfl
  have z191 : (191 : Int32).toInt = 191 := rfl
  have z2048 : (2048 : Int32).toInt = 2048 := rfl
  have z55296 : (55296 : Int32).toInt = 55296 := rfl
  have z57343 : (57343 : Int32).toInt = 57343 := rfl
  have z65536 : (65536 : Int32).toInt = 65536 := rfl
  have z1114111 : (1114111 : Int32).toInt = 1114111 := rfl
  unfold own_S own_f1_80 own_f1_118 own_f1_134 own_f1_238
  simp only [own_cont, Int32.lt_iff_toInt_lt, own_cp2, own_cp3, own_cp4, own_e1, own_e2, own_e3, own_e4, own_e5, own_e6, own_e7, if_true, if_false, eq_self, z2, z3, z4, z128, z191, z2048, z55296, z57343, z65536, z1114111]
  generalize (i2 - x1).toInt = D
  generalize a.toInt = A at *
  generalize b.toInt = Bb at *
  generalize c.toInt = Cc at *
  generalize d.toInt = Dd at *
  by_cases q1 : D < 3
  · simp only [q1, if_true]
  by_cases q2 : Bb < 128 ∨ 191 < Bb
  · simp only [q1, q2, if_true, if_false]
    repeat' split
    all_goals first | rfl | omega
  by_cases q3 : Cc < 128 ∨ 191 < Cc
  · simp only [q1, q2, q3, if_true, if_false]
    repeat' split
    all_goals first | rfl | omega
  simp only [q1, q2, q3, if_false]
  repeat' split
  all_goals first | rfl | omega
set_option maxHeartbeats 4000000 in
theorem own_k4 (oc : Nat → Int32) (x1 i2 a b c d : Int32) (h1 : 237 ≤ a.toInt) (h2 : a.toInt ≤ 237) (b1 : 0 ≤ b.toInt ∧ b.toInt < 256) (c1 : 0 ≤ c.toInt ∧ c.toInt < 256) (d1 : 0 ≤ d.toInt ∧ d.toInt < 256) : own_S b c d (i2 - x1) 3 128 159 = own_f1_80 oc x1 i2 a b c d 3 := by
  have z2 : (2 : Int32).toInt = 2 := rfl
  have z3 : (3 : Int32).toInt = 3 := rfl
  have z4 : (4 : Int32).toInt = 4 := rfl
  have z128 : (128 : Int32).toInt = 128 := rfl
  have z159 : (159 : Int32).toInt = 159 := rfl
  have z191 : (191 : Int32).toInt = 191 := rfl
  have z2048 : (2048 : Int32).toInt = 2048 := rfl
  have z55296 : (55296 : Int32).toInt = 55296 := rfl
  have z57343 : (57343 : Int32).toInt = 57343 := rfl
  have z65536 : (65536 : Int32).toInt = 65536 := rfl
  have z1114111 : (1114111 : Int32).toInt = 1114111 := rfl
  unfold own_S own_f1_80 own_f1_118 own_f1_134 own_f1_238
  simp only [own_cont, Int32.lt_iff_toInt_lt, own_cp2, own_cp3, own_cp4, own_e1, own_e2, own_e3, own_e4, own_e5, own_e6, own_e7, if_true, if_false, eq_self, z2, z3, z4, z128, z159, z191, z2048, z55296, z57343, z65536, z1114111]
  generalize (i2 - x1).toInt = D
  generalize a.toInt = A at *
  generalize b.toInt = Bb at *
  generalize c.toInt = Cc at *
  generalize d.toInt = Dd at *
  by_cases q1 : D < 3
  · simp only [q1, if_true]
  by_cases q2 : Bb < 128 ∨ 191 < Bb
  · simp only [q1, q2, if_true, if_false]
    repeat' split
    all_goals first | rfl | omega
  by_cases q3 : Cc < 128 ∨ 191 < Cc
  · simp only [q1, q2, q3, if_true, if_false]
    repeat' split
    all_goals first | rfl | omega
  simp only [q1, q2, q3, if_false]
  repeat' split
  all_goals first | rfl | omega
set_option maxHeartbeats 4000000 in
theorem own_k5 (oc : Nat → Int32) (x1 i2 a b c d : Int32) (h1 : 238 ≤ a.toInt) (h2 : a.toInt ≤ 239) (b1 : 0 ≤ b.toInt ∧ b.toInt < 256) (c1 : 0 ≤ c.toInt ∧ c.toInt < 256) (d1 : 0 ≤ d.toInt ∧ d.toInt < 256) : own_S b c d (i2 - x1) 3 128 191 = own_f1_80 oc x1 i2 a b c d 3 := by
  have z2 : (2 : Int32).toInt = 2 := rfl
  have z3 : (3 : Int32).toInt = 3 := rfl
  have z4 : (4 : Int32).toInt = 4 := rfl
  have z128 : (128 : Int32).toInt = 128 := rfl
  have z191 : (191 : Int32).toInt = 191 := rfl
  have z2048 : (2048 : Int32).toInt = 2048 := rfl
  have z55296 : (55296 : Int32).toInt = 55296 := rfl
  have z57343 : (57343 : Int32).toInt = 57343 := rfl
  have z65536 : (65536 : Int32).toInt = 65536 := rfl
  have z1114111 : (1114111 : Int32).toInt = 1114111 := rfl
  unfold own_S own_f1_80 own_f1_118 own_f1_134 own_f1_238
  simp only [own_cont, Int32.lt_iff_toInt_lt, own_cp2, own_cp3, own_cp4, own_e1, own_e2, own_e3, own_e4, own_e5, own_e6, own_e7, if_true, if_false, eq_self, z2, z3, z4, z128, z191, z2048, z55296, z57343, z65536, z1114111]
  generalize (i2 - x1).toInt = D
  generalize a.toInt = A at *
  generalize b.toInt = Bb at *
  generalize c.toInt = Cc at *
  generalize d.toInt = Dd at *
  by_cases q1 : D < 3
  · simp only [q1, if_true]
  by_cases q2 : Bb < 128 ∨ 191 < Bb
  · simp only [q1, q2, if_true, if_false]
    repeat' split
    all_goals first | rfl | omega
  by_cases q3 : Cc < 128 ∨ 191 < Cc
  · simp only [q1, q2, q3, if_true, if_false]
    repeat' split
    all_goals first | rfl | omega
  simp only [q1, q2, q3, if_false]
  repeat' split
  all_goals first | rfl | omega
set_option maxHeartbeats 4000000 in
theorem own_k6 (oc : Nat → Int32) (x1 i2 a b c d : Int32) (h1 : 240 ≤ a.toInt) (h2 : a.toInt ≤ 240) (b1 : 0 ≤ b.toInt ∧ b.toInt < 256) (c1 : 0 ≤ c.toInt ∧ c.toInt < 256) (d1 : 0 ≤ d.toInt ∧ d.toInt < 256) : own_S b c d (i2 - x1) 4 144 191 = own_f1_80 oc x1 i2 a b c d 4 := by
  have z2 : (2 : Int32).toInt = 2 := rfl
  have z3 : (3 : Int32).toInt = 3 := rfl
  have z4 : (4 : Int32).toInt = 4 := rfl
  have z128 : (128 : Int32).toInt = 128 := rfl
  have z144 : (144 : Int32).toInt = 144 := rfl
  have z191 : (191 : Int32).toInt = 191 := rfl
  have z2048 : (2048 : Int32).toInt = 2048 := rfl
  have z55296 : (55296 : Int32).toInt = 55296 := rfl
  have z57343 : (57343 : Int32).toInt = 57343 := rfl
  have z65536 : (65536 : Int32).toInt = 65536 := rfl
  have z1114111 : (1114111 : Int32).toInt = 1114111 := rfl
  unfold own_S own_f1_80 own_f1_118 own_f1_134 own_f1_238
  simp only [own_cont, Int32.lt_iff_toInt_lt, own_cp2, own_cp3, own_cp4, own_e1, own_e2, own_e3, own_e4, own_e5, own_e6, own_e7, if_true, if_false, eq_self, z2, z3, z4, z128, z144, z191, z2048, z55296, z57343, z65536, z1114111]
  generalize (i2 - x1).toInt = D
  generalize a.toInt = A at *
  generalize b.toInt = Bb at *
  generalize c.toInt = Cc at *
  generalize d.toInt = Dd at *
  by_cases q1 : D < 4
  · simp only [q1, if_true]
  by_cases q2 : Bb < 128 ∨ 191 < Bb
  · simp only [q1, q2, if_true, if_false]
    repeat' split
    all_goals first | rfl | omega
  by_cases q3 : Cc < 128 ∨ 191 < Cc
  · simp only [q1, q2, q3, if_true, if_false]
    repeat' split
    all_goals first | rfl | omega
  by_cases q4 : Dd < 128 ∨ 191 < Dd
  · simp only [q1, q2, q3, q4, if_true, if_false]
    repeat' split
    all_goals first | rfl | omega
  simp only [q1, q2, q3, q4, if_false]
  repeat' split
  all_goals first | rfl | omega
set_option maxHeartbeats 4000000 in
theorem own_k7 (oc : Nat → Int32) (x1 i2 a b c d : Int32) (h1 : 241 ≤ a.toInt) (h2 : a.toInt ≤ 243) (b1 : 0 ≤ b.toInt ∧ b.toInt < 256) (c1 : 0 ≤ c.toInt ∧ c.toInt < 256) (d1 : 0 ≤ d.toInt ∧ d.toInt < 256) : own_S b c d (i2 - x1) 4 128 191 = own_f1_80 oc x1 i2 a b c d 4 := by
  have z2 : (2 : Int32).toInt = 2 := rfl
  have z3 : (3 : Int32).toInt = 3 := rfl
  have z4 : (4 : Int32).toInt = 4 := rfl
  have z128 : (128 : Int32).toInt = 128 := rfl
  have z191 : (191 : Int32).toInt = 191 := rfl
  have z2048 : (2048 : Int32).toInt = 2048 := rfl
  have z55296 : (55296 : Int32).toInt = 55296 := rfl
  have z57343 : (57343 : Int32).toInt = 57343 := rfl
  have z65536 : (65536 : Int32).toInt = 65536 := rfl
  have z1114111 : (1114111 : Int32).toInt = 1114111 := rfl
  unfold own_S own_f1_80 own_f1_118 own_f1_134 own_f1_238
  simp only [own_cont, Int32.lt_iff_toInt_lt, own_cp2, own_cp3, own_cp4, own_e1, own_e2, own_e3, own_e4, own_e5, own_e6, own_e7, if_true, if_false, eq_self, z2, z3, z4, z128, z191, z2048, z55296, z57343, z65536, z1114111]
  generalize (i2 - x1).toInt = D
  generalize a.toInt = A at *
  generalize b.toInt = Bb at *
  generalize c.toInt = Cc at *
  generalize d.toInt = Dd at *
  by_cases q1 : D < 4
  · simp only [q1, if_true]
  by_cases q2 : Bb < 128 ∨ 191 < Bb
  · simp only [q1, q2, if_true, if_false]
    repeat' split
    all_goals first | rfl | omega
  by_cases q3 : Cc < 128 ∨ 191 < Cc
  · simp only [q1, q2, q3, if_true, if_false]
    repeat' split
    all_goals first | rfl | omega
  by_cases q4 : Dd < 128 ∨ 191 < Dd
  · simp only [q1, q2, q3, q4, if_true, if_false]
    repeat' split
    all_goals first | rfl | omega
  simp only [q1, q2, q3, q4, if_false]
  repeat' split
  all_goals first | rfl | omega
set_option maxHeartbeats 4000000 in
theorem own_k8 (oc : Nat → Int32) (x1 i2 a b c d : Int32) (h1 : 244 ≤ a.toInt) (h2 : a.toInt ≤ 244) (b1 : 0 ≤ b.toInt ∧ b.toInt < 256) (c1 : 0 ≤ c.toInt ∧ c.toInt < 256) (d1 : 0 ≤ d.toInt ∧ d.toInt < 256) : own_S b c d (i2 - x1) 4 128 143 = own_f1_80 oc x1 i2 a b c d 4 := by
  have z2 : (2 : Int32).toInt = 2 := rfl
  have z3 : (3 : Int32).toInt = 3 := rfl
  have z4 : (4 : Int32).toInt = 4 := rfl
  have z128 : (128 : Int32).toInt = 128 := rfl
  have z143 : (143 : Int32).toInt = 143 := rfl
  have z191 : (191 : Int32).toInt = 191 := rfl
  have z2048 : (2048 : Int32).toInt = 2048 := rfl
  have z55296 : (55296 : Int32).toInt = 55296 := rfl
  have z57343 : (57343 : Int32).toInt = 57343 := rfl
  have z65536 : (65536 : Int32).toInt = 65536 := rfl
  have z1114111 : (1114111 : Int32).toInt = 1114111 := rfl
  unfold own_S own_f1_80 own_f1_118 own_f1_134 own_f1_238
  simp only [own_cont, Int32.lt_iff_toInt_lt, own_cp2, own_cp3, own_cp4, own_e1, own_e2, own_e3, own_e4, own_e5, own_e6, own_e7, if_true, if_false, eq_self, z2, z3, z4, z128, z143, z191, z2048, z55296, z57343, z65536, z1114111]
  generalize (i2 - x1).toInt = D
  generalize a.toInt = A at *
  generalize b.toInt = Bb at *
  generalize c.toInt = Cc at *
  generalize d.toInt = Dd at *
  by_cases q1 : D < 4
  · simp only [q1, if_true]
  by_cases q2 : Bb < 128 ∨ 191 < Bb
  · simp only [q1, q2, if_true, if_false]
    repeat' split
    all_goals first | rfl | omega
  by_cases q3 : Cc < 128 ∨ 191 < Cc
  · simp only [q1, q2, q3, if_true, if_false]
    repeat' split
    all_goals first | rfl | omega
  by_cases q4 : Dd < 128 ∨ 191 < Dd
  · simp only [q1, q2, q3, q4, if_true, if_false]
    repeat' split
    all_goals first | rfl | omega
  simp only [q1, q2, q3, q4, if_false]
  repeat' split
  all_goals first | rfl | omega
set_option maxHeartbeats 4000000 in
theorem own_k9 (oc : Nat → Int32) (x1 i2 a b c d : Int32) (h1 : 245 ≤ a.toInt) (h2 : a.toInt ≤ 247) (b1 : 0 ≤ b.toInt ∧ b.toInt < 256) (c1 : 0 ≤ c.toInt ∧ c.toInt < 256) (d1 : 0 ≤ d.toInt ∧ d.toInt < 256) : (0 : Int32) = own_f1_80 oc x1 i2 a b c d 4 := by
  have z2 : (2 : Int32).toInt = 2 := rfl
  have z3 : (3 : Int32).toInt = 3 := rfl
  have z4 : (4 : Int32).toInt = 4 := rfl
  have z128 : (128 : Int32).toInt = 128 := rfl
  have z191 : (191 : Int32).toInt = 191 := rfl
  have z2048 : (2048 : Int32).toInt = 2048 := rfl
  have z55296 : (55296 : Int32).toInt = 55296 := rfl
  have z57343 : (57343 : Int32).toInt = 57343 := rfl
  have z65536 : (65536 : Int32).toInt = 65536 := rfl
  have z1114111 : (1114111 : Int32).toInt = 1114111 := rfl
  unfold own_f1_80 own_f1_118 own_f1_134 own_f1_238
  simp only [own_cont, Int32.lt_iff_toInt_lt, own_cp2, own_cp3, own_cp4, own_e1, own_e2, own_e3, own_e4, own_e5, own_e6, own_e7, if_true, if_false, eq_self, z2, z3, z4, z128, z191, z2048, z55296, z57343, z65536, z1114111]
  generalize (i2 - x1).toInt = D
  generalize a.toInt = A at *
  generalize b.toInt = Bb at *
  generalize c.toInt = Cc at *
  generalize d.toInt = Dd at *
  by_cases q1 : D < 4
  · simp only [q1, if_true]
  by_cases q2 : Bb < 128 ∨ 191 < Bb
  · simp only [q1, q2, if_true, if_false]
    repeat' split
    all_goals first | rfl | omega
  by_cases q3 : Cc < 128 ∨ 191 < Cc
  · simp only [q1, q2, q3, if_true, if_false]
    repeat' split
    all_goals first | rfl | omega
  by_cases q4 : Dd < 128 ∨ 191 < Dd
  · simp only [q1, q2, q3, q4, if_true, if_false]
    repeat' split
    all_goals first | rfl | omega
  simp only [q1, q2, q3, q4, if_false]
  repeat' split
  all_goals first | rfl | omega
set_option maxHeartbeats 4000000 in
theorem own_seq (oc : Nat → Int32) (x1 x2 : Int32) (hat : x1 = (0 : Int32) ∨ x1 = (1 : Int32)) : own_f2_0 oc x1 x2 = own_f1_0 oc x1 x2 := by
  have B0 := own_b (oc x1.toNatClampNeg)
  have B1 := own_b (oc (x1 + (1 : Int32)).toNatClampNeg)
  have B2 := own_b (oc (x1 + (2 : Int32)).toNatClampNeg)
  have B3 := own_b (oc (x1 + (3 : Int32)).toNatClampNeg)
  have g := fun i4 i5 t0 i3 hs => own_g109 oc x1 x2 i3 i4 i5 t0 hat hs
  unfold own_f2_0 own_f1_0
  generalize (oc x1.toNatClampNeg) &&& (255 : Int32) = a at *
  generalize (oc (x1 + (1 : Int32)).toNatClampNeg) &&& (255 : Int32) = b at *
  generalize (oc (x1 + (2 : Int32)).toNatClampNeg) &&& (255 : Int32) = c at *
  generalize (oc (x1 + (3 : Int32)).toNatClampNeg) &&& (255 : Int32) = d at *
  have n : ∀ (k : Int32) (z : Int), k.toInt = z → a.toInt ≠ z → ¬ a = k := fun k z hk hz q => hz (by rw [q]; exact hk)
  have lt : ∀ (k : Int32) (z : Int), k.toInt = z → a.toInt < z → a < k := fun k z hk hz => own_lt.mpr (by rw [hk]; exact hz)
  have ge : ∀ (k : Int32) (z : Int), k.toInt = z → ¬ a.toInt < z → ¬ a < k := fun k z hk hz q => hz (by rw [← hk]; exact own_lt.mp q)
  have gt : ∀ (k : Int32) (z : Int), k.toInt = z → z < a.toInt → k < a := fun k z hk hz => own_lt.mpr (by rw [hk]; exact hz)
  have le : ∀ (k : Int32) (z : Int), k.toInt = z → ¬ z < a.toInt → ¬ k < a := fun k z hk hz q => hz (by rw [← hk]; exact own_lt.mp q)
  by_cases p0 : a.toInt < 192
  · rw [if_pos (lt 194 194 rfl (by omega)), if_pos (lt 192 192 rfl (by omega))]
  by_cases p1 : 247 < a.toInt
  · rw [if_neg (ge 194 194 rfl (by omega)), if_pos (gt 244 244 rfl (by omega)), if_neg (ge 192 192 rfl (by omega)), if_pos (gt 247 247 rfl (by omega))]
  rw [if_neg (ge 192 192 rfl (by omega)), if_neg (le 247 247 rfl (by omega))]
  by_cases r0 : a.toInt ≤ 193
  · skip
    rw [if_pos (lt 194 194 rfl (by omega)), if_pos (lt 224 224 rfl (by omega))]
    exact own_k0 oc x1 x2 a b c d (by omega) (by omega) B1 B2 B3
  by_cases r1 : a.toInt ≤ 223
  · skip
    rw [if_neg (ge 194 194 rfl (by omega)), if_neg (le 244 244 rfl (by omega)), if_pos (lt 224 224 rfl (by omega)), if_pos (lt 224 224 rfl (by omega))]
    unfold own_f2_47
    rw [if_neg (n 224 224 rfl (by omega)), if_neg (n 240 240 rfl (by omega))]
    unfold own_f2_78
    rw [if_neg (n 237 237 rfl (by omega)), if_neg (n 244 244 rfl (by omega)), g _ _ _ _ (by decide)]
    exact own_k1 oc x1 x2 a b c d (by omega) (by omega) B1 B2 B3
  by_cases r2 : a.toInt ≤ 224
  · skip
    rw [if_neg (ge 194 194 rfl (by omega)), if_neg (le 244 244 rfl (by omega)), if_neg (ge 224 224 rfl (by omega)), if_pos (lt 240 240 rfl (by omega)), if_neg (ge 224 224 rfl (by omega)), if_pos (lt 240 240 rfl (by omega))]
    unfold own_f2_47
    rw [if_pos (Int32.toInt_inj.mp (show a.toInt = 224 by omega))]
    unfold own_f2_78
    rw [if_neg (n 237 237 rfl (by omega)), if_neg (n 244 244 rfl (by omega)), g _ _ _ _ (by decide)]
    exact own_k2 oc x1 x2 a b c d (by omega) (by omega) B1 B2 B3
  by_cases r3 : a.toInt ≤ 236
  · skip
    rw [if_neg (ge 194 194 rfl (by omega)), if_neg (le 244 244 rfl (by omega)), if_neg (ge 224 224 rfl (by omega)), if_pos (lt 240 240 rfl (by omega)), if_neg (ge 224 224 rfl (by omega)), if_pos (lt 240 240 rfl (by omega))]
    unfold own_f2_47
    rw [if_neg (n 224 224 rfl (by omega)), if_neg (n 240 240 rfl (by omega))]
    unfold own_f2_78
    rw [if_neg (n 237 237 rfl (by omega)), if_neg (n 244 244 rfl (by omega)), g _ _ _ _ (by decide)]
    exact own_k3 oc x1 x2 a b c d (by omega) (by omega) B1 B2 B3
  by_cases r4 : a.toInt ≤ 237
  · skip
    rw [if_neg (ge 194 194 rfl (by omega)), if_neg (le 244 244 rfl (by omega)), if_neg (ge 224 224 rfl (by omega)), if_pos (lt 240 240 rfl (by omega)), if_neg (ge 224 224 rfl (by omega)), if_pos (lt 240 240 rfl (by omega))]
    unfold own_f2_47
    rw [if_neg (n 224 224 rfl (by omega)), if_neg (n 240 240 rfl (by omega))]
    unfold own_f2_78
    rw [if_pos (Int32.toInt_inj.mp (show a.toInt = 237 by omega)), g _ _ _ _ (by decide)]
    exact own_k4 oc x1 x2 a b c d (by omega) (by omega) B1 B2 B3
  by_cases r5 : a.toInt ≤ 239
  · skip
    rw [if_neg (ge 194 194 rfl (by omega)), if_neg (le 244 244 rfl (by omega)), if_neg (ge 224 224 rfl (by omega)), if_pos (lt 240 240 rfl (by omega)), if_neg (ge 224 224 rfl (by omega)), if_pos (lt 240 240 rfl (by omega))]
    unfold own_f2_47
    rw [if_neg (n 224 224 rfl (by omega)), if_neg (n 240 240 rfl (by omega))]
    unfold own_f2_78
    rw [if_neg (n 237 237 rfl (by omega)), if_neg (n 244 244 rfl (by omega)), g _ _ _ _ (by decide)]
    exact own_k5 oc x1 x2 a b c d (by omega) (by omega) B1 B2 B3
  by_cases r6 : a.toInt ≤ 240
  · skip
    rw [if_neg (ge 194 194 rfl (by omega)), if_neg (le 244 244 rfl (by omega)), if_neg (ge 224 224 rfl (by omega)), if_neg (ge 240 240 rfl (by omega)), if_neg (ge 224 224 rfl (by omega)), if_neg (ge 240 240 rfl (by omega))]
    unfold own_f2_47
    rw [if_neg (n 224 224 rfl (by omega)), if_pos (Int32.toInt_inj.mp (show a.toInt = 240 by omega))]
    unfold own_f2_78
    rw [if_neg (n 237 237 rfl (by omega)), if_neg (n 244 244 rfl (by omega)), g _ _ _ _ (by decide)]
    exact own_k6 oc x1 x2 a b c d (by omega) (by omega) B1 B2 B3
  by_cases r7 : a.toInt ≤ 243
  · skip
    rw [if_neg (ge 194 194 rfl (by omega)), if_neg (le 244 244 rfl (by omega)), if_neg (ge 224 224 rfl (by omega)), if_neg (ge 240 240 rfl (by omega)), if_neg (ge 224 224 rfl (by omega)), if_neg (ge 240 240 rfl (by omega))]
    unfold own_f2_47
    rw [if_neg (n 224 224 rfl (by omega)), if_neg (n 240 240 rfl (by omega))]
    unfold own_f2_78
    rw [if_neg (n 237 237 rfl (by omega)), if_neg (n 244 244 rfl (by omega)), g _ _ _ _ (by decide)]
    exact own_k7 oc x1 x2 a b c d (by omega) (by omega) B1 B2 B3
  by_cases r8 : a.toInt ≤ 244
  · skip
    rw [if_neg (ge 194 194 rfl (by omega)), if_neg (le 244 244 rfl (by omega)), if_neg (ge 224 224 rfl (by omega)), if_neg (ge 240 240 rfl (by omega)), if_neg (ge 224 224 rfl (by omega)), if_neg (ge 240 240 rfl (by omega))]
    unfold own_f2_47
    rw [if_neg (n 224 224 rfl (by omega)), if_neg (n 240 240 rfl (by omega))]
    unfold own_f2_78
    rw [if_neg (n 237 237 rfl (by omega)), if_pos (Int32.toInt_inj.mp (show a.toInt = 244 by omega)), g _ _ _ _ (by decide)]
    exact own_k8 oc x1 x2 a b c d (by omega) (by omega) B1 B2 B3
  rw [if_neg (ge 194 194 rfl (by omega)), if_pos (gt 244 244 rfl (by omega)), if_neg (ge 224 224 rfl (by omega)), if_neg (ge 240 240 rfl (by omega))]
  exact own_k9 oc x1 x2 a b c d (by omega) (by omega) B1 B2 B3
theorem own_plain (x0 x1 x2 x3 x4 x5 : Int32) : own_f0_0 x0 x1 x2 x3 x4 x5 = 1 := by
  unfold own_f0_0
  rw [if_pos (own_seq _ _ _ (own_at x5))]
set_option maxRecDepth 65536 in
set_option maxHeartbeats 4000000 in
theorem own_comes {Post : Tables → Env → Array Value → State → Outcome → State → Prop} (hpost : ∀ tb e args s v u, (limb_1_1.after args s (.returned v) u = true ∧ limb_1_2.after args s (.returned v) u = true) → FrameEnd s (.returned v) u (Jvm.fieldLocs frame_1_writes args s ++ Jvm.arrayLocs frame_1_arrays args s ++ Jvm.staticLocs frame_1_statics s) 16 128 → Post tb e args s (.returned v) u) :
    ArmFor flags0 classFile x code maxLocals ret World_1 tables_1 room_1 Calls_1 rest_1 Pre_1 Post := by
  intro l hfl _ _ p e ha hc hk s m args below hf hA hF happ hP
  obtain ⟨hcalls, hrest, hpre⟩ := hP
  obtain ⟨-, -, -, hnamed, -, -, -, hat⟩ := (Spec.applies_iff hf).mp happ
  obtain ⟨hg, hn⟩ := and_e (Cond.before_iff.mp (show (Jvm.Cond.and given_1 narrow_1).before args s = true from hpre))
  obtain ⟨hcnt, hg0⟩ := and_e hg
  obtain ⟨ha0, hg1⟩ := and_e hg0
  obtain ⟨ha1, hg2⟩ := and_e hg1
  obtain ⟨ha2, hg3⟩ := and_e hg2
  obtain ⟨ha3, hg4⟩ := and_e hg3
  obtain ⟨ha4, hg5⟩ := and_e hg4
  have ha5 := hg5
  obtain ⟨w0, w1, w2, w3, w4, w5, rfl⟩ : ∃ w0 w1 w2 w3 w4 w5 : Value, args = #[w0, w1, w2, w3, w4, w5] := by
    have hs : args.size = 6 := by simpa [Cond.value, given_1] using hcnt
    obtain ⟨L⟩ := args
    match L, hs with
    | [w0, w1, w2, w3, w4, w5], _ => exact ⟨w0, w1, w2, w3, w4, w5, rfl⟩
  have hw := fun d (hd : d ∈ tables_1) => atoms_spec (ws := Jvm.Cond.code x code maxLocals ret :: tables_1) hat d (List.mem_cons_of_mem _ hd)
  obtain ⟨v0, ev0⟩ := is_v ha0
  obtain rfl : w0 = (.int v0) := Option.some.inj ev0
  obtain ⟨v1, ev1⟩ := is_v ha1
  obtain rfl : w1 = (.int v1) := Option.some.inj ev1
  obtain ⟨v2, ev2⟩ := is_v ha2
  obtain rfl : w2 = (.int v2) := Option.some.inj ev2
  obtain ⟨v3, ev3⟩ := is_v ha3
  obtain rfl : w3 = (.int v3) := Option.some.inj ev3
  obtain ⟨v4, ev4⟩ := is_v ha4
  obtain rfl : w4 = (.int v4) := Option.some.inj ev4
  obtain ⟨v5, ev5⟩ := is_v ha5
  obtain rfl : w5 = (.int v5) := Option.some.inj ev5
  obtain ⟨n, o, h1, h2, h3, _, L, rfl, ⟨rfl, N, _⟩, hq⟩ := own_rm0 l s _ hw tables_1 v0 v1 v2 v3 v4 v5 s.heap s.heap.size (Nat.le_refl _) p e ha hc hk s m _ below hf ((Spec.applies_iff_loose hf).mp happ).1 ⟨rfl, State.Warmed39.refl s, rfl⟩ trivial
  refine ⟨n, _, h1, h2, h3, hpost _ _ _ _ _ _ ⟨Cond.after_iff.mpr rfl, Cond.after_iff.mpr (eq_i res_at (Term.int_eval (1)) (congrArg Value.int (own_plain v0 v1 v2 v3 v4 v5)))⟩ ⟨hq.1, hq.2.1, (hq.2.2.sift fun y hy => Or.inr (N y hy)).mono (by decide) (by decide)⟩⟩
theorem main_1_1 : Claimed_1_1 := own_comes fun _ _ _ _ _ _ h hF => ⟨h.1, hF⟩
theorem main_1_2 : Claimed_1_2 := own_comes fun _ _ _ _ _ _ h hF => ⟨h.2, hF⟩
end Jvm.Pilot.@@N@@
namespace Jvm.Pilot.@@N@@
open Jvm Jvm.ClassFile Sem Op Lib Jvm.Free Jvm.Stand Jvm.Pilot.@@N@@.Jvm.D
/-! MADE BY PROGRAM (witnessworld.py) out of the Statement's table words and the real class files: 9 classes; the members and pool entries that the words name. The judged class is class 1, her method 1. -/
namespace start1
open Jvm.ClassFile
def u (s : String) : CpInfo := .utf8 (stringToUtf16 s)
/-- a pool by its gaps: so many unusable entries, then the entry; so many at the end -/
def gap : Nat → List CpInfo → List CpInfo
  | 0, r => r
  | n + 1, r => .unusable :: gap n r
def poolList (es : List (Nat × CpInfo)) (last : Nat) : List CpInfo := es.foldr (fun e r => gap e.1 (e.2 :: r)) (gap last [])
def pool (es : List (Nat × CpInfo)) (last : Nat) : Array CpInfo := ⟨poolList es last⟩
def fileOf (pool : Array CpInfo) (this : Nat) (attrs : Array Attribute := #[]) (ms : Array MethodInfo := #[]) (fl : Nat := 33) (sup : Nat := 0) (ifs : Array Nat := #[]) (fds : Array FieldInfo := #[]) : ClassFile where
  minorVersion := 0
  majorVersion := 65
  constantPool := pool
  accessFlags := fl
  thisClass := this
  superClass := sup
  interfaces := ifs
  fields := fds
  methods := ms
  attributes := attrs
def plain (name : String) (sup : Option ClassId) : Class where
  name := name
  kind := .ordinary
  loader := none
  accessFlags := 33
  super := sup
  interfaces := #[]
  cf := none
  fields := #[]
  methods := #[]
  instanceTypes := #[]
  staticTypes := #[]
  resolved := #[]
  callSites := []
  init := .initialized
  statics := none
  mirror := none

def pool0 : Array CpInfo := pool [(5, u "<init>"), (0, u "()V"), (1, .class_ 10), (1, u "java/lang/Object")] 113

def k0m0 : Method := { name := "<init>", desc := "()V", sig := { parameters := [], returnType := none }, accessFlags := 1, code := none }
/-- java/lang/Object -/
def k0 : Class := { plain "java/lang/Object" none with
  accessFlags := 33
  interfaces := #[]
  cf := some (fileOf pool0 8 #[] #[{ accessFlags := 1, nameIndex := 5, descriptorIndex := 6, attributes := #[] }] 33 0 #[] #[])
  fields := #[]
  methods := #[k0m0]
  instanceTypes := #[]
  staticTypes := #[]
  resolved := Array.replicate 124 none
  statics := none }

def pool1 : Array CpInfo := pool [(2, .class_ 4), (1, u "java/lang/Object"), (0, u "<init>"), (0, u "()V"), (0, .methodref 8 9), (0, .class_ 10), (0, .nameAndType 11 12), (0, u "com/example/frame_to_method/frametomethod/Utf8SequenceSizePinLaw"), (0, u "reference"), (0, u "([BII)I"), (0, .methodref 14 15), (0, .class_ 16), (0, .nameAndType 17 12), (0, u "com/example/frame_to_method/frametomethod/Utf8"), (0, u "sequenceSize"), (0, .methodref 8 19), (0, .nameAndType 20 21), (0, u "cont"), (0, u "(I)Z"), (0, .integer 65536), (0, .integer 1114111), (0, .integer 55296), (0, .integer 57343), (2, u "law"), (0, u "(IIIIII)Z")] 5

def k1m0 : Method := { name := "<init>", desc := "()V", sig := { parameters := [], returnType := none }, accessFlags := 1, code := none }
def k1c1 : Code := { maxStack := 3, maxLocals := 10, code := code, exceptionTable := #[], attributes := #[] }
def k1m1 : Method := { name := "law", desc := "(IIIIII)Z", sig := { parameters := [.int, .int, .int, .int, .int, .int], returnType := some .boolean }, accessFlags := 9, code := some k1c1 }
def k1c2 : Code := { maxStack := 2, maxLocals := 1, code := method_3_code, exceptionTable := #[], attributes := #[] }
def k1m2 : Method := { name := "cont", desc := "(I)Z", sig := { parameters := [.int], returnType := some .boolean }, accessFlags := 10, code := some k1c2 }
def k1c3 : Code := { maxStack := 3, maxLocals := 10, code := method_4_code, exceptionTable := #[], attributes := #[] }
def k1m3 : Method := { name := "reference", desc := "([BII)I", sig := { parameters := [(.array .byte), .int, .int], returnType := some .int }, accessFlags := 10, code := some k1c3 }
/-- com/example/frame_to_method/frametomethod/Utf8SequenceSizePinLaw -/
def k1 : Class := { plain "com/example/frame_to_method/frametomethod/Utf8SequenceSizePinLaw" (some 0) with
  accessFlags := 49
  interfaces := #[]
  cf := some (fileOf pool1 8 #[] #[{ accessFlags := 1, nameIndex := 5, descriptorIndex := 6, attributes := #[] }, { accessFlags := 9, nameIndex := 28, descriptorIndex := 29, attributes := #[] }, { accessFlags := 10, nameIndex := 20, descriptorIndex := 21, attributes := #[] }, { accessFlags := 10, nameIndex := 11, descriptorIndex := 12, attributes := #[] }] 49 2 #[] #[])
  fields := #[]
  methods := #[k1m0, k1m1, k1m2, k1m3]
  instanceTypes := #[]
  staticTypes := #[]
  resolved := Array.replicate 35 none
  statics := none }

def pool2 : Array CpInfo := pool [(2, .class_ 4), (1, u "java/lang/Object"), (0, u "<init>"), (0, u "()V"), (0, .class_ 8), (0, u "com/example/frame_to_method/frametomethod/Utf8"), (2, u "sequenceSize"), (0, u "([BII)I"), (10, u "CONTINUATION_LOW"), (0, u "I"), (2, u "CONTINUATION_HIGH")] 8

def k2m0 : Method := { name := "<init>", desc := "()V", sig := { parameters := [], returnType := none }, accessFlags := 2, code := none }
def k2c1 : Code := { maxStack := 3, maxLocals := 10, code := prog_134_method_2_code, exceptionTable := #[], attributes := #[] }
def k2m1 : Method := { name := "sequenceSize", desc := "([BII)I", sig := { parameters := [(.array .byte), .int, .int], returnType := some .int }, accessFlags := 8, code := some k2c1 }
/-- com/example/frame_to_method/frametomethod/Utf8 -/
def k2 : Class := { plain "com/example/frame_to_method/frametomethod/Utf8" (some 0) with
  accessFlags := 48
  interfaces := #[]
  cf := some (fileOf pool2 7 #[] #[{ accessFlags := 2, nameIndex := 5, descriptorIndex := 6, attributes := #[] }, { accessFlags := 8, nameIndex := 11, descriptorIndex := 12, attributes := #[] }] 48 2 #[] #[{ accessFlags := 26, nameIndex := 23, descriptorIndex := 24, attributes := #[] }, { accessFlags := 26, nameIndex := 27, descriptorIndex := 24, attributes := #[] }])
  fields := #[{ name := "CONTINUATION_LOW", type := .int, accessFlags := 26, slot := 0, constantValue := 0 }, { name := "CONTINUATION_HIGH", type := .int, accessFlags := 26, slot := 1, constantValue := 0 }]
  methods := #[k2m0, k2m1]
  instanceTypes := #[]
  staticTypes := #[.int, .int]
  resolved := Array.replicate 36 none
  statics := none }

def pool3 : Array CpInfo := pool [(1, u "java/lang/Cloneable"), (0, .class_ 1), (0, u "java/lang/Object"), (0, .class_ 3)] 3

/-- java/lang/Cloneable -/
def k3 : Class := { plain "java/lang/Cloneable" (some 0) with
  accessFlags := 1537
  interfaces := #[]
  cf := some (fileOf pool3 2 #[] #[] 1537 4 #[] #[])
  fields := #[]
  methods := #[]
  instanceTypes := #[]
  staticTypes := #[]
  resolved := Array.replicate 8 none
  statics := none }

def pool4 : Array CpInfo := pool [(1, u "java/io/Serializable"), (0, .class_ 1), (0, u "java/lang/Object"), (0, .class_ 3)] 3

/-- java/io/Serializable -/
def k4 : Class := { plain "java/io/Serializable" (some 0) with
  accessFlags := 1537
  interfaces := #[]
  cf := some (fileOf pool4 2 #[] #[] 1537 4 #[] #[])
  fields := #[]
  methods := #[]
  instanceTypes := #[]
  staticTypes := #[]
  resolved := Array.replicate 8 none
  statics := none }

/-- the primitive byte -/
def k5 : Class := { plain "byte" none with kind := .primitive 'B', accessFlags := 0x411 }
/-- [B -/
def k6 : Class := { plain "[B" (some 0) with kind := .array 5 .byte, interfaces := #[3, 4], accessFlags := 1041 }

/-- the primitive int -/
def k7 : Class := { plain "int" none with kind := .primitive 'I', accessFlags := 0x411 }
/-- [I -/
def k8 : Class := { plain "[I" (some 0) with kind := .array 7 .int, interfaces := #[3, 4], accessFlags := 1041 }

def heap : Heap := #[]
def classes : Array Class := #[k0, k1, k2, k3, k4, k5, k6, k7, k8]
def interned : List (Array UInt16 × Addr) := []
def slotsUsed : Nat := 0
def theMethod : MethodId := ⟨1, 1⟩
def args0 : Array Value := #[.int 5, .int 7, .int 5, .int 7, .int 5, .int 7]
def aboutOver (below : List Frame) : State where
  vm := { classes := classes, interned := interned.toArray }
  heap := heap
  slotsUsed := slotsUsed
  threads := #[{ frames := .invoking theMethod args0 :: below }]
def below0 : List Frame := [.native { method := ⟨0, 0⟩, args := #[] }]
def about1 : State := aboutOver below0
def p0 : Program := .bare "" "" ""
def e0 : Env := launch0.env 0 0 0
theorem w_frames : about1.frames = Frame.invoking theMethod args0 :: below0 := rfl
set_option maxRecDepth 65536 in
theorem w_args : argsFit about1.vm theMethod args0 = true := by decide +kernel
set_option maxRecDepth 65536 in
theorem w_heap : heapFits about1 = true := by decide +kernel
set_option maxRecDepth 65536 in
theorem w_runnable : about1.curStatus? = some .runnable := by decide +kernel
set_option maxRecDepth 65536 in
theorem w_alone : about1.alone = true := by decide +kernel
set_option maxRecDepth 65536 in
theorem w_named : about1.methodNamed? x = some theMethod := by decide +kernel
set_option maxRecDepth 65536 in
theorem w_hears : about1.hears theMethod below0 = true := by decide +kernel
set_option maxRecDepth 65536 in
theorem w_ripe : about1.ripe theMethod args0 below0 = true := by decide +kernel
theorem w_running : about1.status = .running := rfl
set_option maxRecDepth 65536 in
theorem w_room : about1.hasRoom e0.platform room_1 = true :=
  launch0.hasRoom_least _ room_1 (by decide +kernel) (by decide +kernel) (by decide +kernel) (by decide +kernel) (by decide +kernel) (by decide +kernel)
theorem allAtoms_all (ts : List Jvm.Cond) (a : Array Jvm.Value) (st : Jvm.State) : (allAtoms ts).before a st = ts.all (fun c => c.before a st) := by
  induction ts with
  | nil => rfl
  | cons c t ih =>
    show (Jvm.Cond.and c (allAtoms t)).before a st = _
    rw [Jvm.Cond.before_and, ih, List.all_cons]
def words1 : List Jvm.Cond := Jvm.Cond.code x code maxLocals ret :: tables_1
/-- a 'code' word, met by the world's own term for the bytes: nothing is compared byte by byte -/
theorem code_word {y : MethodName} {bytes : ByteArray} {mx : Nat} {rt : Option FieldType} {a : Array Value} {s : State} {m : MethodId} {meth : Method} {c : Code} (h1 : s.methodNamed? y = some m) (h2 : s.vm.method? m = some meth) (h3 : meth.code = some c) (h4 : c.code = bytes)
    (h5 : (c.maxLocals == mx && c.exceptionTable.isEmpty && decide (c.maxStack ≤ mostOperands) && decide (meth.sig.returnType = rt) && !meth.locks && decide (parseMethodDescriptor y.desc = some meth.sig)) = true) : (Jvm.Cond.code y bytes mx rt).before a s = true := by
  simp only [Bool.and_eq_true, beq_iff_eq, Bool.not_eq_true', decide_eq_true_eq] at h5
  obtain ⟨⟨⟨⟨⟨g1, g2⟩, g3⟩, g4⟩, g5⟩, g6⟩ := h5
  simp [Cond.before, Cond.holds, Cond.value, h1, h2, h3, h4, g1, g2, g3, g4, g5, g6]
def isCode : Jvm.Cond → Bool
  | .code _ _ _ _ => true
  | _ => false
theorem all_split {L : List Jvm.Cond} {P : Jvm.Cond → Bool} (h1 : L.all (fun c => isCode c || P c) = true) (h2 : ∀ c ∈ L.filter isCode, P c = true) : L.all P = true := by
  refine List.all_eq_true.mpr fun c hc => ?_
  have h := List.all_eq_true.mp h1 c hc
  rcases Bool.eq_false_or_eq_true (isCode c) with hi | hi
  · exact h2 c (List.mem_filter.mpr ⟨hc, hi⟩)
  · simpa [hi] using h
set_option maxRecDepth 65536 in
theorem w_c0 : (Jvm.Cond.code x code maxLocals ret).before args0 about1 = true := code_word (m := ⟨1, 1⟩) (meth := k1m1) (c := k1c1) (by decide +kernel) rfl rfl rfl (by decide +kernel)
set_option maxRecDepth 65536 in
theorem w_c1 : (Jvm.Cond.code ({ cls := "com/example/frame_to_method/frametomethod/Utf8SequenceSizePinLaw", name := "reference", desc := "([BII)I" } : Jvm.MethodName) method_4_code (10 : Nat) (Option.some Jvm.ClassFile.FieldType.int)).before args0 about1 = true := code_word (m := ⟨1, 3⟩) (meth := k1m3) (c := k1c3) (by decide +kernel) rfl rfl rfl (by decide +kernel)
set_option maxRecDepth 65536 in
theorem w_c2 : (Jvm.Cond.code ({ cls := "com/example/frame_to_method/frametomethod/Utf8", name := "sequenceSize", desc := "([BII)I" } : Jvm.MethodName) prog_134_method_2_code (10 : Nat) (Option.some Jvm.ClassFile.FieldType.int)).before args0 about1 = true := code_word (m := ⟨2, 1⟩) (meth := k2m1) (c := k2c1) (by decide +kernel) rfl rfl rfl (by decide +kernel)
set_option maxRecDepth 65536 in
theorem w_c3 : (Jvm.Cond.code ({ cls := "com/example/frame_to_method/frametomethod/Utf8SequenceSizePinLaw", name := "cont", desc := "(I)Z" } : Jvm.MethodName) method_3_code (1 : Nat) (Option.some Jvm.ClassFile.FieldType.boolean)).before args0 about1 = true := code_word (m := ⟨1, 2⟩) (meth := k1m2) (c := k1c2) (by decide +kernel) rfl rfl rfl (by decide +kernel)
def codes1 : List Jvm.Cond := [Jvm.Cond.code x code maxLocals ret, Jvm.Cond.code ({ cls := "com/example/frame_to_method/frametomethod/Utf8SequenceSizePinLaw", name := "reference", desc := "([BII)I" } : Jvm.MethodName) method_4_code (10 : Nat) (Option.some Jvm.ClassFile.FieldType.int), Jvm.Cond.code ({ cls := "com/example/frame_to_method/frametomethod/Utf8", name := "sequenceSize", desc := "([BII)I" } : Jvm.MethodName) prog_134_method_2_code (10 : Nat) (Option.some Jvm.ClassFile.FieldType.int), Jvm.Cond.code ({ cls := "com/example/frame_to_method/frametomethod/Utf8SequenceSizePinLaw", name := "cont", desc := "(I)Z" } : Jvm.MethodName) method_3_code (1 : Nat) (Option.some Jvm.ClassFile.FieldType.boolean)]
set_option maxRecDepth 65536 in
theorem codes_eq : words1.filter isCode = codes1 := rfl
theorem w_codes : ∀ c ∈ words1.filter isCode, c.before args0 about1 = true := by
  rw [codes_eq]
  intro c hc
  simp only [codes1, List.mem_cons, List.not_mem_nil, or_false] at hc
  rcases hc with rfl | rfl | rfl | rfl
  · exact w_c0
  · exact w_c1
  · exact w_c2
  · exact w_c3
set_option maxRecDepth 65536 in
theorem w_t1 : words1.all (fun c => isCode c || c.before args0 about1) = true := by decide +kernel
theorem w_tables : (allAtoms (Jvm.Cond.code x code maxLocals ret :: tables_1)).before args0 about1 = true := by
  rw [allAtoms_all]
  show words1.all (fun c => c.before args0 about1) = true
  refine all_split ?_ w_codes
  rw [w_t1]
set_option maxRecDepth 65536 in
theorem w_case : (Jvm.Cond.and given_1 narrow_1).before args0 about1 = true := by decide +kernel
theorem w_applies : (headSpec (Jvm.Cond.code x code maxLocals ret :: tables_1) room_1).applies x e0.platform about1 = true :=
  (Spec.applies_iff w_frames).mpr ⟨w_running, w_runnable, w_alone, w_named, w_hears, w_ripe, w_room, w_tables⟩
theorem atStart : AtStart classFile x code maxLocals ret World_1 tables_1 room_1 Calls_1 rest_1 Pre_1 launch0 p0 e0 about1 theMethod args0 below0 :=
  ⟨lists_1, trivial, launch0.admits_env _ _ _, launch0.least_env, fairChoices_fair.cas, fairChoices_fair.clock, w_frames, w_args, w_heap, w_applies, trivial, trivial, w_case⟩
end start1
theorem witness_1 : WitnessClaimed_1 := ⟨start1.p0, start1.e0, start1.about1, start1.theMethod, start1.args0, start1.below0, start1.atStart⟩
end Jvm.Pilot.@@N@@
