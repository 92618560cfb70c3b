import JvmDerived
import JvmDerived.Pilot.@@N@@Statement
import JvmDerived.Pilot.@@N@@Code
set_option linter.unusedVariables false
set_option linter.unusedSimpArgs false
namespace Jvm.Pilot.@@N@@
open Jvm Jvm.ClassFile Sem Op Lib Jvm.Free Jvm.Stand Jvm.LawKit Jvm.RoadKit Bundle Jvm.Pilot.@@N@@.Jvm.D
/-- from the state A the run comes to the method's end, and Q says what it left -/
def own_Go (p : Program) (e : Env) (below : List Frame) (s : State) (K M : Nat) (Q : Option Value → Heap → List Loc → Prop) (A : State) : Prop :=
  ∃ s₂ o, Steps p.tables e below A s₂ ∧ s₂.status = .running ∧ Ended s₂ below o ∧ ∃ v L, o = .returned v ∧ Q v s₂.heap L ∧ FrameEnd s o s₂ L K M
theorem own_back {p : Program} {e : Env} {below : List Frame} {s : State} {K M : Nat} {Q : Option Value → Heap → List Loc → Prop} {A B : State} (h : ∀ t, Steps p.tables e below B t → Steps p.tables e below A t) (g : own_Go p e below s K M Q B) : own_Go p e below s K M Q A := by
  obtain ⟨s₂, o, h1, h2⟩ := g
  exact ⟨s₂, o, h _ h1, h2⟩
theorem own_retN {p : Program} {l : Launch} {e : Env} {R : Room} {s : State} {m : MethodId} {args : Array Value} {below : List Frame} {meth : Method} {c : Code} {T : State} {locs : List Loc} {cells slots K M : Nat} {Q : Option Value → Heap → List Loc → Prop}
    (X : Stand p l e R s m args below meth c T locs cells slots) (hx : p.tables.exec = Jvm.exec) {pc : Nat} {Ls : Array Slot} {z r : Int32} {t : FieldType} {rest : List Value} (hret : meth.sig.returnType = some t) (ht : t = .boolean ∨ t = .byte ∨ t = .char ∨ t = .short) (hd : decode c.code pc = .ok (.ireturn, 1)) (hlk : meth.locks = false)
    (hr : nar t z = r) (hq : Q (some (.int r)) T.heap locs) (hK : cells ≤ K) (hM : slots ≤ M) : own_Go p e below s K M Q (T.setTop (mkF m pc Ls (.int z :: rest))) := by
  subst hr
  obtain ⟨fs, hr, hrun, hended, hW, hsame⟩ := X.leave (v := some (.int (nar t z))) (fun h => by rw [hret] at h; cases h)
  exact ⟨_, _, retN X hx hret ht hd hr, hrun, hended, _, _, rfl, hq, ⟨_, rfl⟩, hW, hsame.mono hK hM⟩
theorem own_retI {p : Program} {l : Launch} {e : Env} {R : Room} {s : State} {m : MethodId} {args : Array Value} {below : List Frame} {meth : Method} {c : Code} {T : State} {locs : List Loc} {cells slots K M : Nat} {Q : Option Value → Heap → List Loc → Prop}
    (X : Stand p l e R s m args below meth c T locs cells slots) (hx : p.tables.exec = Jvm.exec) {pc : Nat} {Ls : Array Slot} {z : Int32} {rest : List Value} (hret : meth.sig.returnType = some .int) (hd : decode c.code pc = .ok (.ireturn, 1)) (hlk : meth.locks = false)
    (hq : Q (some (.int z)) T.heap locs) (hK : cells ≤ K) (hM : slots ≤ M) : own_Go p e below s K M Q (T.setTop (mkF m pc Ls (.int z :: rest))) := by
  obtain ⟨fs, hr, hrun, hended, hW, hsame⟩ := X.leave (v := some (.int z)) (fun h => by rw [hret] at h; cases h)
  refine ⟨_, _, ?_, hrun, hended, _, _, rfl, hq, ⟨_, rfl⟩, hW, hsame.mono hK hM⟩
  have hm' : T.vm.method? m = some meth := X.method'
  have hn : narrow .int (.int z) = .int z := rfl
  show Steps p.tables e below (T.setTop { method := m, pc := pc, locals := Ls, stack := _ :: rest, locked := none }) _
  jvm_step X.here [X.here.top, hx, hd, hm', hret, hn]
  first | (intro acts; rw [hr _ acts rfl rfl rfl]) | rw [hr _ _ rfl rfl rfl]
  exact Steps.refl _
theorem own_retJ {p : Program} {l : Launch} {e : Env} {R : Room} {s : State} {m : MethodId} {args : Array Value} {below : List Frame} {meth : Method} {c : Code} {T : State} {locs : List Loc} {cells slots K M : Nat} {Q : Option Value → Heap → List Loc → Prop}
    (X : Stand p l e R s m args below meth c T locs cells slots) (hx : p.tables.exec = Jvm.exec) {pc : Nat} {Ls : Array Slot} {z : Int64} (hret : meth.sig.returnType = some .long) (hd : decode c.code pc = .ok (.lreturn, 1)) (hlk : meth.locks = false)
    (hq : Q (some (.long z)) T.heap locs) (hK : cells ≤ K) (hM : slots ≤ M) : own_Go p e below s K M Q (T.setTop (mkF m pc Ls [.long z])) := by
  obtain ⟨fs, hr, hrun, hended, hW, hsame⟩ := X.leave (v := some (.long z)) (fun h => by rw [hret] at h; cases h)
  exact ⟨_, _, X.lreturnOut hx hret hd hr, hrun, hended, _, _, rfl, hq, ⟨_, rfl⟩, hW, hsame.mono hK hM⟩
theorem own_retV {p : Program} {l : Launch} {e : Env} {R : Room} {s : State} {m : MethodId} {args : Array Value} {below : List Frame} {meth : Method} {c : Code} {T : State} {locs : List Loc} {cells slots K M : Nat} {Q : Option Value → Heap → List Loc → Prop}
    (X : Stand p l e R s m args below meth c T locs cells slots) (hx : p.tables.exec = Jvm.exec) {pc : Nat} {Ls : Array Slot} (hret : meth.sig.returnType = none) (hd : decode c.code pc = .ok (.return_, 1)) (hlk : meth.locks = false)
    (hq : Q none T.heap locs) (hK : cells ≤ K) (hM : slots ≤ M) : own_Go p e below s K M Q (T.setTop (mkF m pc Ls [])) := by
  obtain ⟨fs, hr, hrun, hended, hW, hsame⟩ := X.leave (v := none) (fun _ => rfl)
  exact ⟨_, _, X.returnOut hx hret hd hr, hrun, hended, _, _, rfl, hq, ⟨_, rfl⟩, hW, hsame.mono hK hM⟩
/-- the value returned, nothing old written, the heap as it was -/
def own_QP (w : Value) (h0 : Heap) (n0 : Nat) (v : Option Value) (h : Heap) (L : List Loc) : Prop := v = some w ∧ Fr n0 L ∧ h = h0
/-- the value returned, nothing old written, the heap no shorter -/
def own_QG (w : Value) (h0 : Heap) (n0 : Nat) (v : Option Value) (h : Heap) (L : List Loc) : Prop := v = some w ∧ Fr n0 L ∧ n0 ≤ h.size
/-- an array of n components, f says what each holds -/
def own_VA (Z : State) (h : Heap) (a : Addr) (ty : FieldType) (n : Nat) (f : Nat → Value) : Prop := ∃ c : Cell, Arr Z h a c ty ∧ c.slots.size = n ∧ ∀ k, k < n → c.slots[k]? = some (f k)
theorem own_VA_new {Z : State} {h : Heap} {a : Addr} {k : ClassId} {ty : FieldType} {z : Int32} {n : Nat} {d : Value} (A : Arr Z h a (newA k ty z) ty) (hz : ¬ z < 0) (hn : z.toNatClampNeg = n) (hd : defaultValue ty = d) : own_VA Z h a ty n (fun _ => d) := by
  obtain ⟨c, A, -, S, -, H, -⟩ := Arv.new A hz
  subst hn hd
  exact ⟨c, A, S, fun i hi => H i (by rw [S]; exact hi)⟩
theorem own_VA_set {Z : State} {h h' : Heap} {a : Addr} {ty : FieldType} {n i : Nat} {f : Nat → Value} {v : Value} (V : own_VA Z h a ty n f) (W : Wr h h' a i v) (hi : i < n) : own_VA Z h' a ty n (fun q => if q = i then v else f q) := by
  obtain ⟨c, A, S, H⟩ := V
  refine ⟨_, A.same W, by rw [sz_set]; exact S, fun k hk => ?_⟩
  show (c.slots.setIfInBounds i v)[k]? = some (if k = i then v else f k)
  by_cases q : k = i
  · subst q; rw [if_pos rfl, Array.getElem?_setIfInBounds_self_of_lt (by omega)]
  · rw [if_neg q, Array.getElem?_setIfInBounds_ne (fun z => q z.symm)]; exact H k hk
theorem own_VA_congr {Z : State} {h : Heap} {a : Addr} {ty : FieldType} {n : Nat} {f g : Nat → Value} (V : own_VA Z h a ty n f) (q : ∀ k, k < n → f k = g k) : own_VA Z h a ty n g := by
  obtain ⟨c, A, S, H⟩ := V
  exact ⟨c, A, S, fun k hk => by rw [← q k hk]; exact H k hk⟩
theorem own_VA_ext {Z : State} {h h' : Heap} {a : Addr} {ty : FieldType} {n : Nat} {f : Nat → Value} (V : own_VA Z h a ty n f) (E : Ext h h') : own_VA Z h' a ty n f := by
  obtain ⟨c, A, S, H⟩ := V
  exact ⟨c, A.ext E, S, H⟩
theorem own_VA_other {Z : State} {h h' : Heap} {a b : Addr} {ty : FieldType} {n sl : Nat} {v : Value} {f : Nat → Value} (V : own_VA Z h a ty n f) (W : Wr h h' b sl v) (q : a ≠ b) : own_VA Z h' a ty n f := by
  obtain ⟨c, A, S, H⟩ := V
  exact ⟨c, A.other W q, S, H⟩
theorem own_VA_lt {Z : State} {h : Heap} {a : Addr} {ty : FieldType} {n : Nat} {f : Nat → Value} (V : own_VA Z h a ty n f) : a < h.size := by
  obtain ⟨c, A, -⟩ := V
  exact A.lt
theorem own_inb {j : Int32} {c : Cell} {n : Nat} (S : c.slots.size = n) (hj : ¬ j < 0 ∧ j.toNatClampNeg < n) : ¬ (j < 0 ∨ c.slots.size ≤ j.toNatClampNeg) := fun q => q.elim hj.1 fun y => by rw [S] at y; omega
section Arrays
variable {p : Program} {l : Launch} {e : Env} {R : Room} {s : State} {m : MethodId} {args : Array Value} {below : List Frame} {meth : Method} {c : Code} {T : State} {locs : List Loc} {cells slots : Nat} {Z : State} {h : Heap} {a : Addr} {n : Nat} {f : Nat → Value}
theorem own_stI (X : Stand p l e R s m args below meth c T locs cells slots) (hx : p.tables.exec = Jvm.exec) (hZ : Z.Warmed39 s.vm) (eT : T.heap = h) (V : own_VA Z h a .int n f) {j x : Int32} (i : Nat) (hj : ¬ j < 0 ∧ j.toNatClampNeg < n) (hi : j.toNatClampNeg = i) {g : JFrame} (hg : g.method = m) {rest : List Value} (hs : g.stack = .int x :: .int j :: .ref a :: rest) (hd : decode c.code g.pc = .ok (.iastore, 1)) :
    ∃ T' h', Stand p l e R s m args below meth c T' (locs ++ [⟨a, j.toNatClampNeg⟩]) cells slots ∧ T'.heap = h' ∧ Wr h h' a i (.int x) ∧ own_VA Z h' a .int n (fun q => if q = i then .int x else f q) ∧ ∀ target, Steps p.tables e below (T'.setTop { g with pc := g.pc + 1, stack := rest }) target → Steps p.tables e below (T.setTop g) target := by
  obtain ⟨cl, A, S, H⟩ := V
  obtain ⟨T', h', X', e', W, st⟩ := stI X hx hZ eT A (own_inb S hj) hg hs hd
  subst hi
  exact ⟨T', h', X', e', W, own_VA_set ⟨cl, A, S, H⟩ W hj.2, st⟩
theorem own_stB (X : Stand p l e R s m args below meth c T locs cells slots) (hx : p.tables.exec = Jvm.exec) (hZ : Z.Warmed39 s.vm) (eT : T.heap = h) (V : own_VA Z h a .byte n f) {j x : Int32} (i : Nat) (hj : ¬ j < 0 ∧ j.toNatClampNeg < n) (hi : j.toNatClampNeg = i) {g : JFrame} (hg : g.method = m) {rest : List Value} (hs : g.stack = .int x :: .int j :: .ref a :: rest) (hd : decode c.code g.pc = .ok (.bastore, 1)) :
    ∃ T' h', Stand p l e R s m args below meth c T' (locs ++ [⟨a, j.toNatClampNeg⟩]) cells slots ∧ T'.heap = h' ∧ Wr h h' a i (.int (x.toInt8.toInt32)) ∧ own_VA Z h' a .byte n (fun q => if q = i then .int (x.toInt8.toInt32) else f q) ∧ ∀ target, Steps p.tables e below (T'.setTop { g with pc := g.pc + 1, stack := rest }) target → Steps p.tables e below (T.setTop g) target := by
  obtain ⟨cl, A, S, H⟩ := V
  obtain ⟨T', h', X', e', W, st⟩ := stB X hx hZ eT A (own_inb S hj) hg hs hd
  subst hi
  exact ⟨T', h', X', e', W, own_VA_set ⟨cl, A, S, H⟩ W hj.2, st⟩
theorem own_stJ (X : Stand p l e R s m args below meth c T locs cells slots) (hx : p.tables.exec = Jvm.exec) (hZ : Z.Warmed39 s.vm) (eT : T.heap = h) (V : own_VA Z h a .long n f) {j : Int32} {x : Int64} (i : Nat) (hj : ¬ j < 0 ∧ j.toNatClampNeg < n) (hi : j.toNatClampNeg = i) {g : JFrame} (hg : g.method = m) {rest : List Value} (hs : g.stack = .long x :: .int j :: .ref a :: rest) (hd : decode c.code g.pc = .ok (.lastore, 1)) :
    ∃ T' h', Stand p l e R s m args below meth c T' (locs ++ [⟨a, j.toNatClampNeg⟩]) cells slots ∧ T'.heap = h' ∧ Wr h h' a i (.long x) ∧ own_VA Z h' a .long n (fun q => if q = i then .long x else f q) ∧ ∀ target, Steps p.tables e below (T'.setTop { g with pc := g.pc + 1, stack := rest }) target → Steps p.tables e below (T.setTop g) target := by
  obtain ⟨cl, A, S, H⟩ := V
  obtain ⟨T', h', X', e', W, st⟩ := stJ X hx hZ eT A (own_inb S hj) hg hs hd
  subst hi
  exact ⟨T', h', X', e', W, own_VA_set ⟨cl, A, S, H⟩ W hj.2, st⟩
theorem own_ldI (X : Stand p l e R s m args below meth c T locs cells slots) (hx : p.tables.exec = Jvm.exec) (hZ : Z.Warmed39 s.vm) (eT : T.heap = h) (V : own_VA Z h a .int n f) {j w : Int32} (hj : ¬ j < 0 ∧ j.toNatClampNeg < n) (hv : f j.toNatClampNeg = .int w) {g : JFrame} (hg : g.method = m) {rest : List Value} (hs : g.stack = .int j :: .ref a :: rest) (hd : decode c.code g.pc = .ok (.iaload, 1)) :
    ∀ target, Steps p.tables e below (T.setTop { g with pc := g.pc + 1, stack := .int w :: rest }) target → Steps p.tables e below (T.setTop g) target := by
  obtain ⟨cl, A, S, H⟩ := V
  exact fun t k => X.iaload hx (by rw [eT]; exact A.1) (State.isArrayOf_alike hZ.alike A.2.1) A.2.2 (own_inb S hj) (hv ▸ H _ hj.2) hg hs hd t k
theorem own_ldB (X : Stand p l e R s m args below meth c T locs cells slots) (hx : p.tables.exec = Jvm.exec) (hZ : Z.Warmed39 s.vm) (eT : T.heap = h) (V : own_VA Z h a .byte n f) {j w : Int32} (hj : ¬ j < 0 ∧ j.toNatClampNeg < n) (hv : f j.toNatClampNeg = .int w) {g : JFrame} (hg : g.method = m) {rest : List Value} (hs : g.stack = .int j :: .ref a :: rest) (hd : decode c.code g.pc = .ok (.baload, 1)) :
    ∀ target, Steps p.tables e below (T.setTop { g with pc := g.pc + 1, stack := .int w :: rest }) target → Steps p.tables e below (T.setTop g) target := by
  obtain ⟨cl, A, S, H⟩ := V
  exact fun t k => X.baloadBytes hx (by rw [eT]; exact A.1) (State.isArrayOf_alike hZ.alike A.2.1) A.2.2 (own_inb S hj) (hv ▸ H _ hj.2) hg hs hd t k
theorem own_ldJ (X : Stand p l e R s m args below meth c T locs cells slots) (hx : p.tables.exec = Jvm.exec) (hZ : Z.Warmed39 s.vm) (eT : T.heap = h) (V : own_VA Z h a .long n f) {j : Int32} {w : Int64} (hj : ¬ j < 0 ∧ j.toNatClampNeg < n) (hv : f j.toNatClampNeg = .long w) {g : JFrame} (hg : g.method = m) {rest : List Value} (hs : g.stack = .int j :: .ref a :: rest) (hd : decode c.code g.pc = .ok (.laload, 1)) :
    ∀ target, Steps p.tables e below (T.setTop { g with pc := g.pc + 1, stack := .long w :: rest }) target → Steps p.tables e below (T.setTop g) target := by
  obtain ⟨cl, A, S, H⟩ := V
  exact fun t k => X.laload hx (by rw [eT]; exact A.1) (State.isArrayOf_alike hZ.alike A.2.1) A.2.2 (own_inb S hj) (hv ▸ H _ hj.2) hg hs hd t k
/-- a store into an array of ints, told by its function -/
def own_put (F : Nat → Int32) (i : Nat) (x : Int32) : Nat → Int32 := fun q => if q = i then x else F q
theorem own_stF {F : Nat → Int32} (X : Stand p l e R s m args below meth c T locs cells slots) (hx : p.tables.exec = Jvm.exec) (hZ : Z.Warmed39 s.vm) (eT : T.heap = h) (V : own_VA Z h a .int n (fun k => .int (F k))) {j x : Int32} (i : Nat) (hj : ¬ j < 0 ∧ j.toNatClampNeg < n) (hi : j.toNatClampNeg = i) {g : JFrame} (hg : g.method = m) {rest : List Value} (hs : g.stack = .int x :: .int j :: .ref a :: rest) (hd : decode c.code g.pc = .ok (.iastore, 1)) :
    ∃ T' h', Stand p l e R s m args below meth c T' (locs ++ [⟨a, j.toNatClampNeg⟩]) cells slots ∧ T'.heap = h' ∧ Wr h h' a i (.int x) ∧ own_VA Z h' a .int n (fun k => .int (own_put F i x k)) ∧ ∀ target, Steps p.tables e below (T'.setTop { g with pc := g.pc + 1, stack := rest }) target → Steps p.tables e below (T.setTop g) target := by
  obtain ⟨T', h', X', e', W, V', st⟩ := own_stI X hx hZ eT V i hj hi hg hs hd
  refine ⟨T', h', X', e', W, own_VA_congr V' (fun k _ => ?_), st⟩
  show (if k = i then Value.int x else Value.int (F k)) = Value.int (if k = i then x else F k)
  by_cases q : k = i
  · rw [if_pos q, if_pos q]
  · rw [if_neg q, if_neg q]
theorem own_len (X : Stand p l e R s m args below meth c T locs cells slots) (hx : p.tables.exec = Jvm.exec) (hZ : Z.Warmed39 s.vm) (eT : T.heap = h) {ty : FieldType} (V : own_VA Z h a ty n f) {z : Int32} (hz : n.toInt32 = z) {g : JFrame} (hg : g.method = m) {rest : List Value} (hs : g.stack = .ref a :: rest) (hd : decode c.code g.pc = .ok (.arraylength, 1)) :
    ∀ target, Steps p.tables e below (T.setTop { g with pc := g.pc + 1, stack := .int z :: rest }) target → Steps p.tables e below (T.setTop g) target := by
  obtain ⟨cl, A, S, H⟩ := V
  subst hz S
  exact fun t k => X.arraylength hx (by rw [eT]; exact A.1) (State.isArrayOf_alike hZ.alike A.2.1) hg hs hd t k
end Arrays
theorem own_small {x : Int32} {k : Nat} (hk : k < 2147483648) (h1 : ¬ x < 0) (h2 : x.toInt < k) : ∃ n : Nat, n < k ∧ x = Int32.ofNat n := by
  have z : (0 : Int32).toInt = 0 := rfl
  rw [Int32.lt_iff_toInt_lt, z] at h1
  refine ⟨x.toInt.toNat, by omega, Int32.toInt_inj.mp ?_⟩
  rw [Int32.toInt_ofNat_of_lt (by omega)]
  omega
theorem own_lt {x y : Int32} : x < y ↔ x.toInt < y.toInt := Int32.lt_iff_toInt_lt
theorem own_ne {x : Int32} {k : Int} (c : Int32) (hc : c.toInt = k) (h : x.toInt ≠ k) : ¬ x = c := fun q => h (by rw [q]; exact hc)

theorem own_clamp {k : Nat} (h : k < 2147483648) : ¬ Int32.ofNat k < 0 ∧ (Int32.ofNat k).toNatClampNeg = k := by
  have e := Int32.toInt_ofNat_of_lt (n := k) (by omega)
  have z : (0 : Int32).toInt = 0 := rfl
  refine ⟨fun q => by have := own_lt.mp q; omega, ?_⟩
  show (Int32.ofNat k).toInt.toNat = k
  omega
theorem own_in {k n : Nat} (h : k < n) (hn : n < 2147483648) : ¬ Int32.ofNat k < 0 ∧ (Int32.ofNat k).toNatClampNeg < n := ⟨(own_clamp (by omega)).1, by rw [(own_clamp (by omega)).2]; exact h⟩
theorem own_shr {k : Nat} (h : k < 2147483648) : (Int32.ofNat k) >>> ((6 : Int32) &&& 31) = Int32.ofNat (k / 64) := by
  have q : ((Int32.ofNat k) >>> ((6 : Int32) &&& 31)).toInt = (Int32.ofNat k).toInt / 64 := c_ishr (Int32.ofNat k) 6 6 (by decide)
  rw [← Int32.toInt_inj, q, Int32.toInt_ofNat_of_lt (by omega), Int32.toInt_ofNat_of_lt (by omega)]
  omega
theorem own_plus (k j : Nat) : Int32.ofNat k + Int32.ofNat j = Int32.ofNat (k + j) := (Int32.ofNat_add k j).symm
/-- a PositionCounts: its two arrays and what they hold -/
def own_PC (Z : State) (h : Heap) (n0 : Nat) (x aB aW : Addr) (N : Nat) (B : Nat → Int64) (W : Nat → Int32) : Prop :=
  Exa Z h x "com/example/furl/furl/tree/PositionCounts" ∧ Fld Z h x "com/example/furl/furl/tree/PositionCounts" "bits" "[J" (.ref aB) ∧ Fld Z h x "com/example/furl/furl/tree/PositionCounts" "words" "[I" (.ref aW) ∧ own_VA Z h aB .long N (fun k => .long (B k)) ∧ own_VA Z h aW .int (N + 1) (fun k => .int (W k)) ∧ n0 ≤ aB ∧ n0 ≤ aW ∧ x ≠ aB ∧ x ≠ aW ∧ aB ≠ aW
section PC
variable {Z : State} {h h' : Heap} {n0 : Nat} {x aB aW : Addr} {N : Nat} {B : Nat → Int64} {W : Nat → Int32}
theorem own_PC_B (P : own_PC Z h n0 x aB aW N B W) {i : Nat} {v : Int64} (w : Wr h h' aB i (.long v)) (hi : i < N) : own_PC Z h' n0 x aB aW N (fun k => if k = i then v else B k) W := by
  obtain ⟨E, F1, F2, V1, V2, g1, g2, n1, n2, n3⟩ := P
  refine ⟨E.wr w, F1.other w (Or.inl n1), F2.other w (Or.inl n1), own_VA_congr (own_VA_set V1 w hi) (fun k _ => ?_), own_VA_other V2 w n3.symm, g1, g2, n1, n2, n3⟩
  show (if k = i then Value.long v else Value.long (B k)) = Value.long (if k = i then v else B k)
  by_cases q : k = i
  · rw [if_pos q, if_pos q]
  · rw [if_neg q, if_neg q]
theorem own_PC_W (P : own_PC Z h n0 x aB aW N B W) {i : Nat} {v : Int32} (w : Wr h h' aW i (.int v)) (hi : i < N + 1) : own_PC Z h' n0 x aB aW N B (fun k => if k = i then v else W k) := by
  obtain ⟨E, F1, F2, V1, V2, g1, g2, n1, n2, n3⟩ := P
  refine ⟨E.wr w, F1.other w (Or.inl n2), F2.other w (Or.inl n2), own_VA_other V1 w n3, own_VA_congr (own_VA_set V2 w hi) (fun k _ => ?_), g1, g2, n1, n2, n3⟩
  show (if k = i then Value.int v else Value.int (W k)) = Value.int (if k = i then v else W k)
  by_cases q : k = i
  · rw [if_pos q, if_pos q]
  · rw [if_neg q, if_neg q]
theorem own_PC_congr (P : own_PC Z h n0 x aB aW N B W) {W' : Nat → Int32} (q : ∀ k, k < N + 1 → W k = W' k) : own_PC Z h n0 x aB aW N B W' := by
  obtain ⟨E, F1, F2, V1, V2, r⟩ := P
  exact ⟨E, F1, F2, V1, own_VA_congr V2 (fun k hk => by show Value.int (W k) = Value.int (W' k); rw [q k hk]), r⟩
end PC
/-- the lowest bit of a small number; the way up in the tree -/
def own_low (i : Nat) : Nat := ((Int32.ofNat i) &&& (-(Int32.ofNat i))).toInt.toNat
theorem own_low_ok {i : Nat} (h1 : 1 ≤ i) (h2 : i ≤ 16) : 1 ≤ own_low i ∧ own_low i ≤ 16 ∧ Int32.ofNat i + ((Int32.ofNat i) &&& (-(Int32.ofNat i))) = Int32.ofNat (i + own_low i) :=
  (by decide +kernel : ∀ i : Fin 17, 1 ≤ i.val → 1 ≤ own_low i.val ∧ own_low i.val ≤ 16 ∧ Int32.ofNat i.val + ((Int32.ofNat i.val) &&& (-(Int32.ofNat i.val))) = Int32.ofNat (i.val + own_low i.val)) ⟨i, by omega⟩ h1
def own_up : Nat → Nat → Nat → Bool
  | 0, _, _ => false
  | k + 1, i, j => i == j || own_up k (i + own_low i) j
theorem own_up_lt (k : Nat) : ∀ i j, j < i → own_up k i j = false := by
  induction k with
  | zero => intro i j _; rfl
  | succ k ih =>
    intro i j h
    show (i == j || own_up k (i + own_low i) j) = false
    rw [ih _ _ (by omega), Bool.or_false]
    exact beq_false_of_ne (by omega)
/-- a position's bit turned over; the counts on its way up changed -/
def own_tog (B : Nat → Int64) (x : Int32) : Nat → Int64 := fun k => if k = x.toNatClampNeg / 64 then B (x.toNatClampNeg / 64) ^^^ ((1 : Int64) <<< (x &&& 0x3f).toInt64) else B k
def own_fen (W : Nat → Int32) (k i : Nat) (ch : Int32) : Nat → Int32 := fun j => if own_up k i j then W j + ch else W j
/-- the counts when the position x changes by ch -/
def own_cnt (W : Nat → Int32) (x ch : Int32) : Nat → Int32 := own_fen W 20 (x.toNatClampNeg / 64 + 1) ch
/-- a position within N words -/
def own_ok (N : Nat) (x : Int32) : Prop := ¬ x < 0 ∧ x.toNatClampNeg / 64 < N
theorem own_hp {x : Int32} (h : ¬ x < 0) : x = Int32.ofNat x.toNatClampNeg := by
  have z : (0 : Int32).toInt = 0 := rfl
  have g : ¬ x.toInt < 0 := fun q => h (own_lt.mpr (by omega))
  have r := rng32 x
  have e : x.toNatClampNeg = x.toInt.toNat := rfl
  rw [← Int32.toInt_inj, Int32.toInt_ofNat_of_lt (by omega)]
  omega
theorem own_hb (x : Int32) : x.toNatClampNeg < 2147483648 := by
  have r := rng32 x
  show x.toInt.toNat < 2147483648
  omega
def own_QA (Z : State) (n0 : Nat) (x aB aW : Addr) (N : Nat) (B : Nat → Int64) (W : Nat → Int32) (v : Option Value) (h : Heap) (L : List Loc) : Prop := v = none ∧ Fr n0 L ∧ n0 ≤ h.size ∧ own_PC Z h n0 x aB aW N B W

/-! the constructor (lawwalk's print, filled in) -/
theorem d1_0 : decode prog_112_method_1_code 0 = .ok (.aload_n 0, 1) := by decide +kernel
theorem d1_1 : decode prog_112_method_1_code 1 = .ok (.invokespecial 1, 3) := by decide +kernel
theorem d1_4 : decode prog_112_method_1_code 4 = .ok (.aload_n 0, 1) := by decide +kernel
theorem d1_5 : decode prog_112_method_1_code 5 = .ok (.iload_n 1, 1) := by decide +kernel
theorem d1_6 : decode prog_112_method_1_code 6 = .ok (.bipush 63, 2) := by decide +kernel
theorem d1_8 : decode prog_112_method_1_code 8 = .ok (.iadd, 1) := by decide +kernel
theorem d1_9 : decode prog_112_method_1_code 9 = .ok (.bipush 6, 2) := by decide +kernel
theorem d1_11 : decode prog_112_method_1_code 11 = .ok (.ishr, 1) := by decide +kernel
theorem d1_12 : decode prog_112_method_1_code 12 = .ok (.newarray .long, 2) := by decide +kernel
theorem d1_14 : decode prog_112_method_1_code 14 = .ok (.putfield 7, 3) := by decide +kernel
theorem d1_17 : decode prog_112_method_1_code 17 = .ok (.aload_n 0, 1) := by decide +kernel
theorem d1_18 : decode prog_112_method_1_code 18 = .ok (.aload_n 0, 1) := by decide +kernel
theorem d1_19 : decode prog_112_method_1_code 19 = .ok (.getfield 7, 3) := by decide +kernel
theorem d1_22 : decode prog_112_method_1_code 22 = .ok (.arraylength, 1) := by decide +kernel
theorem d1_23 : decode prog_112_method_1_code 23 = .ok (.iconst 1, 1) := by decide +kernel
theorem d1_24 : decode prog_112_method_1_code 24 = .ok (.iadd, 1) := by decide +kernel
theorem d1_25 : decode prog_112_method_1_code 25 = .ok (.newarray .int, 2) := by decide +kernel
theorem d1_27 : decode prog_112_method_1_code 27 = .ok (.putfield 13, 3) := by decide +kernel
theorem d1_30 : decode prog_112_method_1_code 30 = .ok (.return_, 1) := by decide +kernel
theorem pn_1 : plainName "com/example/furl/furl/tree/PositionCounts" = true := by first | (simp [plainName, overriddenIn]; done) | decide +kernel
theorem ef_1 (m : MethodId) (x0 : Addr) (x1 : Int32) : entryFrame m #[(.ref x0), (.int x1)] 2 = mkF m 0 #[.val (.ref x0), .val (.int x1)] [] := by first | (simp [entryFrame, mkF, argsToLocals, Value.category]; done) | rfl
def Q1 (Z : State) (a1 : Addr) (p2 : Int32) (u_bits_a1 : Value) (u_words_a1 : Value) (NN : Nat) (h0 : Heap) (n0 : Nat) (v : Option Value) (h : Heap) (L : List Loc) : Prop := v = none ∧ Fr n0 L ∧ n0 ≤ h.size ∧ ∃ aB aW, own_PC Z h n0 a1 aB aW NN (fun _ => 0) (fun _ => 0)
set_option maxRecDepth 65536 in
set_option maxHeartbeats 40000000 in
theorem rm1 (l : Launch) (Z : State) (a0 : Array Value) (hw : ∀ d ∈ tables_1, d.before a0 Z = true) (ws : List Jvm.Cond) (a1 : Addr) (p2 : Int32) (u_bits_a1 : Value) (u_words_a1 : Value) (NN : Nat) (h0 : Heap) (n0 : Nat) (Z0 : n0 ≤ h0.size) (E_a1 : Exa Z h0 a1 "com/example/furl/furl/tree/PositionCounts") (F_bits_a1 : Fld Z h0 a1 "com/example/furl/furl/tree/PositionCounts" "bits" "[J" u_bits_a1) (g_a1 : n0 ≤ a1) (F_words_a1 : Fld Z h0 a1 "com/example/furl/furl/tree/PositionCounts" "words" "[I" u_words_a1) (hNN : ((p2 + (63 : Int32)) >>> ((6 : Int32) &&& 31)) = Int32.ofNat NN) (hcap : NN ≤ 8) :
    MetFree l (⟨"com/example/furl/furl/tree/PositionCounts", "<init>", "(I)V"⟩ : MethodName) (head1 (Jvm.Cond.code (⟨"com/example/furl/furl/tree/PositionCounts", "<init>", "(I)V"⟩ : MethodName) prog_112_method_1_code 2 none :: ws) ({ frames := 1, cells := 2, slots := 17, locals := 12 } : Room)) (fun a U => a = #[(.ref a1), (.int p2)] ∧ Z.Warmed39 U.vm ∧ U.heap = h0) (fun _ _ _ _ _ => True) (fun _ U o U' => ∃ v L, o = .returned v ∧ Q1 Z a1 p2 u_bits_a1 u_words_a1 NN h0 n0 v U'.heap L ∧ FrameEnd U o U' L ({ frames := 1, cells := 2, slots := 17, locals := 12 } : Room).cells ({ frames := 1, cells := 2, slots := 17, locals := 12 } : Room).slots) := by
  refine MetFree.of_bodySF (plainFor_of_name pn_1) hisR ?_
  intro p e s m args below meth c s₁ Bd hml0 hP hK
  obtain ⟨rfl, hZ, hh⟩ := hP
  have hx := Bd.exec
  have hby := Bd.bytes
  have hml : c.maxLocals = 2 := hml0
  have hown : s.vm.findClass "com/example/furl/furl/tree/PositionCounts" = some m.cls := findClass_of_methodNamed Bd.named
  have hnm := (name_of_methodNamed Bd.named Bd.method).1
  have X0 : Stand p l e ({ frames := 1, cells := 2, slots := 17, locals := 12 } : Room) s m #[(.ref a1), (.int p2)] below meth c s₁ [] 0 0 := Stand.of_body Bd
  have e0 : s₁.heap = h0 := by rw [← hh, Bd.state]; rfl
  have N0 := Fr.nil n0
  have pre0 : ∀ t, Steps p.tables e below (s₁.setTop (mkF m 0 #[.val (.ref a1), .val (.int p2)] [])) t → Steps p.tables e below (s₁.setTop (entryFrame m #[(.ref a1), (.int p2)] 2)) t := fun t k => castTop (ef_1 m a1 p2) k
  obtain ⟨T3, X3, e3, st3⟩ := initO X0 hx hZ hown (hw _ (List.mem_of_getElem? (i := 7) rfl)) (hw _ (List.mem_of_getElem? (i := 8) rfl)) (hw _ (List.mem_of_getElem? (i := 9) rfl)) e0 (g := (mkF m 1 #[.val (.ref a1), .val (.int p2)] [(.ref a1)])) rfl (by rw [hml]; rfl) rfl (hb hby d1_1) (by decide) (W := 0) (by show 2 * 0 + _ ≤ _; exact Nat.le_of_eq rfl) (by decide)
  have hn1 : ¬ ((p2 + (63 : Int32)) >>> ((6 : Int32) &&& 31)) < 0 := by rw [hNN]; exact (own_clamp (by omega)).1
  have hl0 : ((p2 + (63 : Int32)) >>> ((6 : Int32) &&& 31)).toNatClampNeg = NN := by rw [hNN]; exact (own_clamp (by omega)).2
  have hl1 : ((p2 + (63 : Int32)) >>> ((6 : Int32) &&& 31)).toNatClampNeg ≤ 8 := by rw [hl0]; exact hcap
  have hn2 : ¬ (((p2 + (63 : Int32)) >>> ((6 : Int32) &&& 31)) + (1 : Int32)) < 0 := by rw [hNN, show Int32.ofNat NN + 1 = Int32.ofNat (NN + 1) from own_plus NN 1]; exact (own_clamp (k := NN + 1) (by omega)).1
  have hl2 : (((p2 + (63 : Int32)) >>> ((6 : Int32) &&& 31)) + (1 : Int32)).toNatClampNeg = NN + 1 := by rw [hNN, show Int32.ofNat NN + 1 = Int32.ofNat (NN + 1) from own_plus NN 1]; exact (own_clamp (k := NN + 1) (by omega)).2
  have hl3 : (((p2 + (63 : Int32)) >>> ((6 : Int32) &&& 31)) + (1 : Int32)).toNatClampNeg ≤ 9 := by rw [hl2]; omega
  obtain ⟨T4, h4, k4, X4, e4, E4, A4, st4⟩ := newP X3 hx hZ (hw _ (List.mem_of_getElem? (i := 10) rfl)) e3 (g := (mkF m 12 #[.val (.ref a1), .val (.int p2)] [(.int ((p2 + (63 : Int32)) >>> ((6 : Int32) &&& 31))), (.ref a1)])) rfl (hb hby d1_12) rfl hn1 (cap := 8) hl1 (by decide) (by decide) (by decide)
  obtain ⟨b4, g4⟩ : ∃ z, z = h0.size := ⟨_, rfl⟩
  rw [← g4] at A4 st4
  have V_b4 := Arv.new A4 hn1
  have VB4 : own_VA Z h4 b4 .long NN (fun _ => .long (0 : Int64)) := own_VA_new A4 hn1 hl0 rfl
  have ne4 : a1 ≠ b4 := Nat.ne_of_lt (Nat.lt_of_lt_of_le E_a1.lt (Nat.le_of_eq g4.symm))
  have g_b4 : n0 ≤ b4 := Nat.le_trans Z0 (Nat.le_of_eq g4.symm)
  have sz_b4 : h0.size ≤ b4 := (Nat.le_trans (Keep.refl h0 [a1]).1 (Nat.le_of_eq g4.symm))
  have K4 : Keep h0 h4 [a1] := (Keep.refl h0 [a1]).ext E4
  obtain ⟨T5, h5, X5, e5, W5, st5⟩ := putF X4 hx hZ hown (host := "") (Or.inl (hw _ (List.mem_of_getElem? (i := 11) rfl))) Via.refl e4 (F_bits_a1.ext E4) (E_a1.ext E4) (Or.inr ⟨(hw _ (List.mem_of_getElem? (i := 12) rfl)), rfl, hnm⟩) (hw _ (List.mem_of_getElem? (i := 2) rfl)) (ty := (.array .long)) (by decide) rfl rfl (g := (mkF m 14 #[.val (.ref a1), .val (.int p2)] [(.ref b4), (.ref a1)])) rfl rfl (hb hby d1_14)
  have Fw5 := (F_bits_a1.ext E4).same W5
  have K5 : Keep h0 h5 [a1] := K4.wr W5 (Or.inl (List.mem_of_getElem? (i := 0) rfl))
  have N5 := Fr.snoc X5 N0 g_a1
  obtain ⟨T6, X6, e6, st6⟩ := getF X5 hx hZ hown (host := "") (Or.inl (hw _ (List.mem_of_getElem? (i := 11) rfl))) Via.refl e5 Fw5 (g := (mkF m 19 #[.val (.ref a1), .val (.int p2)] [(.ref a1), (.ref a1)])) rfl rfl (hb hby d1_19)
  obtain ⟨cl_b4_22, Ar_b4, -, S_b4, N_b4, -, -⟩ := (V_b4.other W5 (Ne.symm (Nat.ne_of_lt (Nat.lt_of_lt_of_le E_a1.lt (Nat.le_of_eq g4.symm)))))
  obtain ⟨T7, h7, k7, X7, e7, E7, A7, st7⟩ := newP X6 hx hZ (hw _ (List.mem_of_getElem? (i := 13) rfl)) e6 (g := (mkF m 25 #[.val (.ref a1), .val (.int p2)] [(.int (((p2 + (63 : Int32)) >>> ((6 : Int32) &&& 31)) + (1 : Int32))), (.ref a1)])) rfl (hb hby d1_25) rfl hn2 (cap := 9) hl3 (by decide) (by decide) (by decide)
  obtain ⟨b7, g7⟩ : ∃ z, z = h5.size := ⟨_, rfl⟩
  rw [← g7] at A7 st7
  have VB5 := own_VA_other VB4 W5 ne4.symm
  have VB7 := own_VA_ext VB5 E7
  have VW7 : own_VA Z h7 b7 .int (NN + 1) (fun _ => .int (0 : Int32)) := own_VA_new A7 hn2 hl2 rfl
  have ne7 : a1 ≠ b7 := Nat.ne_of_lt (Nat.lt_of_lt_of_le ((E_a1.ext E4).wr W5).lt (Nat.le_of_eq g7.symm))
  have ne47 : b4 ≠ b7 := Nat.ne_of_lt (Nat.lt_of_lt_of_le (own_VA_lt VB5) (Nat.le_of_eq g7.symm))
  have g_b7 : n0 ≤ b7 := Nat.le_trans (Nat.le_trans (Nat.le_trans Z0 E4.1) (Keep.of_wr W5).1) (Nat.le_of_eq g7.symm)
  have sz_b7 : h0.size ≤ b7 := (Nat.le_trans K5.1 (Nat.le_of_eq g7.symm))
  have K7 : Keep h0 h7 [a1] := K5.ext E7
  obtain ⟨T8, h8, X8, e8, W8, st8⟩ := putF X7 hx hZ hown (host := "") (Or.inl (hw _ (List.mem_of_getElem? (i := 14) rfl))) Via.refl e7 (((F_words_a1.ext E4).other W5 (Or.inr (slot_ne (Or.inr (hw _ (List.mem_of_getElem? (i := 15) rfl))) (Or.inr (hw _ (List.mem_of_getElem? (i := 12) rfl))) (by decide) (t := (.array .int)) (t' := (.array .long)) (by decide) (by decide)))).ext E7) (((E_a1.ext E4).wr W5).ext E7) (Or.inr ⟨(hw _ (List.mem_of_getElem? (i := 15) rfl)), rfl, hnm⟩) (hw _ (List.mem_of_getElem? (i := 2) rfl)) (ty := (.array .int)) (by decide) rfl rfl (g := (mkF m 27 #[.val (.ref a1), .val (.int p2)] [(.ref b7), (.ref a1)])) rfl rfl (hb hby d1_27)
  have Fw8 := (((F_words_a1.ext E4).other W5 (Or.inr (slot_ne (Or.inr (hw _ (List.mem_of_getElem? (i := 15) rfl))) (Or.inr (hw _ (List.mem_of_getElem? (i := 12) rfl))) (by decide) (t := (.array .int)) (t' := (.array .long)) (by decide) (by decide)))).ext E7).same W8
  have K8 : Keep h0 h8 [a1] := K7.wr W8 (Or.inl (List.mem_of_getElem? (i := 0) rfl))
  have N8 := Fr.snoc X8 N5 g_a1
  obtain ⟨fs, hr, hrun, hended, hW, hsame⟩ := X8.leave (v := none) (fun _ => rfl)
  refine ⟨_, _, pre0 _ ?_, hrun, hended, _, _, rfl, ?_, ⟨_, rfl⟩, hW, hsame.mono (by decide) (by decide)⟩
  · show Steps p.tables e below (s₁.setTop (mkF m 0 #[.val (.ref a1), .val (.int p2)] [])) _
    refine XS.aloadN X0.here hx rfl (hb hby d1_0) rfl rfl ?_
    show Steps p.tables e below (s₁.setTop (mkF m 1 #[.val (.ref a1), .val (.int p2)] [(.ref a1)])) _
    refine st3 _ ?_
    show Steps p.tables e below (T3.setTop (mkF m 4 #[.val (.ref a1), .val (.int p2)] [])) _
    refine XS.aloadN X3.here hx rfl (hb hby d1_4) rfl rfl ?_
    show Steps p.tables e below (T3.setTop (mkF m 5 #[.val (.ref a1), .val (.int p2)] [(.ref a1)])) _
    refine XS.iloadN X3.here hx rfl (hb hby d1_5) rfl ?_
    show Steps p.tables e below (T3.setTop (mkF m 6 #[.val (.ref a1), .val (.int p2)] [(.int p2), (.ref a1)])) _
    refine XS.bipush X3.here hx rfl (hb hby d1_6) ?_
    show Steps p.tables e below (T3.setTop (mkF m 8 #[.val (.ref a1), .val (.int p2)] [(.int (63 : Int32)), (.int p2), (.ref a1)])) _
    refine XS.iadd X3.here hx rfl (hb hby d1_8) rfl ?_
    show Steps p.tables e below (T3.setTop (mkF m 9 #[.val (.ref a1), .val (.int p2)] [(.int (p2 + (63 : Int32))), (.ref a1)])) _
    refine XS.bipush X3.here hx rfl (hb hby d1_9) ?_
    show Steps p.tables e below (T3.setTop (mkF m 11 #[.val (.ref a1), .val (.int p2)] [(.int (6 : Int32)), (.int (p2 + (63 : Int32))), (.ref a1)])) _
    refine XS.ishr X3.here hx rfl (hb hby d1_11) rfl ?_
    show Steps p.tables e below (T3.setTop (mkF m 12 #[.val (.ref a1), .val (.int p2)] [(.int ((p2 + (63 : Int32)) >>> ((6 : Int32) &&& 31))), (.ref a1)])) _
    refine st4 _ ?_
    show Steps p.tables e below (T4.setTop (mkF m 14 #[.val (.ref a1), .val (.int p2)] [(.ref b4), (.ref a1)])) _
    refine st5 _ ?_
    show Steps p.tables e below (T5.setTop (mkF m 17 #[.val (.ref a1), .val (.int p2)] [])) _
    refine XS.aloadN X5.here hx rfl (hb hby d1_17) rfl rfl ?_
    show Steps p.tables e below (T5.setTop (mkF m 18 #[.val (.ref a1), .val (.int p2)] [(.ref a1)])) _
    refine XS.aloadN X5.here hx rfl (hb hby d1_18) rfl rfl ?_
    show Steps p.tables e below (T5.setTop (mkF m 19 #[.val (.ref a1), .val (.int p2)] [(.ref a1), (.ref a1)])) _
    refine st6 _ ?_
    show Steps p.tables e below (T6.setTop (mkF m 22 #[.val (.ref a1), .val (.int p2)] [(.ref b4), (.ref a1)])) _
    refine X6.arraylength hx (by rw [e6]; exact Ar_b4.1) (State.isArrayOf_alike hZ.alike Ar_b4.2.1) (g := (mkF m 22 #[.val (.ref a1), .val (.int p2)] [(.ref b4), (.ref a1)])) rfl rfl (hb hby d1_22) _ ?_
    rw [len_of S_b4 N_b4]
    show Steps p.tables e below (T6.setTop (mkF m 23 #[.val (.ref a1), .val (.int p2)] [(.int ((p2 + (63 : Int32)) >>> ((6 : Int32) &&& 31))), (.ref a1)])) _
    refine XS.iconst X6.here hx rfl (hb hby d1_23) ?_
    show Steps p.tables e below (T6.setTop (mkF m 24 #[.val (.ref a1), .val (.int p2)] [(.int (1 : Int32)), (.int ((p2 + (63 : Int32)) >>> ((6 : Int32) &&& 31))), (.ref a1)])) _
    refine XS.iadd X6.here hx rfl (hb hby d1_24) rfl ?_
    show Steps p.tables e below (T6.setTop (mkF m 25 #[.val (.ref a1), .val (.int p2)] [(.int (((p2 + (63 : Int32)) >>> ((6 : Int32) &&& 31)) + (1 : Int32))), (.ref a1)])) _
    refine st7 _ ?_
    show Steps p.tables e below (T7.setTop (mkF m 27 #[.val (.ref a1), .val (.int p2)] [(.ref b7), (.ref a1)])) _
    refine st8 _ ?_
    show Steps p.tables e below (T8.setTop (mkF m 30 #[.val (.ref a1), .val (.int p2)] [])) _
    exact X8.returnOut hx Bd.returns (hb hby d1_30) hr
  · show Q1 Z a1 p2 u_bits_a1 u_words_a1 NN h0 n0 _ T8.heap _
    rw [e8]
    exact ⟨rfl, N8, Nat.le_trans Z0 K8.1, b4, b7, ((((E_a1.ext E4).wr W5).ext E7).wr W8), ((Fw5.ext E7).other W8 (Or.inr (slot_ne (Or.inr (hw _ (List.mem_of_getElem? (i := 12) rfl))) (Or.inr (hw _ (List.mem_of_getElem? (i := 15) rfl))) (by decide) (t := (.array .long)) (t' := (.array .int)) (by decide) (by decide)))), Fw8, own_VA_other VB7 W8 ne4.symm, own_VA_other VW7 W8 ne7.symm, g_b4, g_b7, ne4, ne7, ne47⟩
theorem own_sh6 {x : Int32} (h : ¬ x < 0) : x >>> ((6 : Int32) &&& 31) = Int32.ofNat (x.toNatClampNeg / 64) := by
  have q := own_shr (own_hb x)
  rw [← own_hp h] at q
  exact q
theorem own_ixp {x : Int32} {N : Nat} (h : own_ok N x) (hM : N ≤ 16) : ¬ (x >>> ((6 : Int32) &&& 31)) < 0 ∧ (x >>> ((6 : Int32) &&& 31)).toNatClampNeg < N := by
  rw [own_sh6 h.1]; exact own_in h.2 (by omega)
/-! body 5: com/example/furl/furl/tree/PositionCounts.contains:(I)Z -/
theorem own_d5_0 : decode prog_112_method_3_code 0 = .ok (.aload_n 0, 1) := by decide +kernel
theorem own_d5_1 : decode prog_112_method_3_code 1 = .ok (.getfield 7, 3) := by decide +kernel
theorem own_d5_4 : decode prog_112_method_3_code 4 = .ok (.iload_n 1, 1) := by decide +kernel
theorem own_d5_5 : decode prog_112_method_3_code 5 = .ok (.bipush 6, 2) := by decide +kernel
theorem own_d5_7 : decode prog_112_method_3_code 7 = .ok (.ishr, 1) := by decide +kernel
theorem own_d5_8 : decode prog_112_method_3_code 8 = .ok (.laload, 1) := by decide +kernel
theorem own_d5_9 : decode prog_112_method_3_code 9 = .ok (.lconst 1, 1) := by decide +kernel
theorem own_d5_10 : decode prog_112_method_3_code 10 = .ok (.iload_n 1, 1) := by decide +kernel
theorem own_d5_11 : decode prog_112_method_3_code 11 = .ok (.lshl, 1) := by decide +kernel
theorem own_d5_12 : decode prog_112_method_3_code 12 = .ok (.land, 1) := by decide +kernel
theorem own_d5_13 : decode prog_112_method_3_code 13 = .ok (.lconst 0, 1) := by decide +kernel
theorem own_d5_14 : decode prog_112_method_3_code 14 = .ok (.lcmp, 1) := by decide +kernel
theorem own_d5_15 : decode prog_112_method_3_code 15 = .ok (.ifCond .eq 7, 3) := by decide +kernel
theorem own_d5_18 : decode prog_112_method_3_code 18 = .ok (.iconst 1, 1) := by decide +kernel
theorem own_d5_19 : decode prog_112_method_3_code 19 = .ok (.goto 4, 3) := by decide +kernel
theorem own_d5_22 : decode prog_112_method_3_code 22 = .ok (.iconst 0, 1) := by decide +kernel
theorem own_d5_23 : decode prog_112_method_3_code 23 = .ok (.ireturn, 1) := by decide +kernel
def own_f5_0 (B : Nat → Int64) (x1 : Int32) : Int32 := (if (lcmpW ((B (x1 >>> ((6 : Int32) &&& 31)).toNatClampNeg) &&& ((1 : Int64) <<< (x1 &&& 0x3f).toInt64)) (0 : Int64)) = (0 : Int32) then (0 : Int32) else (1 : Int32))
set_option maxRecDepth 65536 in
set_option maxHeartbeats 4000000 in
theorem own_l5_0 {p : Program} {l : Launch} {e : Env} {s : State} {m : MethodId} {args : Array Value} {below : List Frame} {meth : Method} {c : Code} {T : State} {locs : List Loc} {Z : State} {a0 : Array Value} {h0 : Heap} {n0 : Nat}
    (X : Stand p l e ({ frames := 0, cells := 0, slots := 0, locals := 0 } : Room) s m args below meth c T locs 0 0) (hx : p.tables.exec = Jvm.exec) (hZ : Z.Warmed39 s.vm) (hw : ∀ d ∈ tables_1, d.before a0 Z = true) (hby : c.code = prog_112_method_3_code) (hml : c.maxLocals = 2) (hown : s.vm.findClass "com/example/furl/furl/tree/PositionCounts" = some m.cls) (hret : meth.sig.returnType = some .boolean) (hlk : meth.locks = false) (e0 : T.heap = h0) (N : Fr n0 locs) (Z0 : n0 ≤ h0.size)
    (x0 : Addr) (aB : Addr) (NN : Nat) (B : Nat → Int64) (x1 : Int32) {r : Int32} (hR : r = own_f5_0 B x1) (F0 : Fld Z h0 x0 "com/example/furl/furl/tree/PositionCounts" "bits" "[J" (.ref aB)) (VA : own_VA Z h0 aB .long NN (fun k => .long (B k))) (hok : own_ok NN x1) (hM : NN ≤ 16) : own_Go p e below s ({ frames := 0, cells := 0, slots := 0, locals := 0 } : Room).cells ({ frames := 0, cells := 0, slots := 0, locals := 0 } : Room).slots (own_QP (.int r) h0 n0) (T.setTop (mkF m 0 #[.val (.ref x0), .val (.int x1)] [])) := by
  unfold own_f5_0 at hR
  refine own_back (fun t k => XS.aloadN X.here hx rfl (hb hby own_d5_0) rfl rfl k) ?_
  show own_Go _ _ _ _ _ _ _ (T.setTop (mkF m 1 #[.val (.ref x0), .val (.int x1)] [(.ref x0)]))
  obtain ⟨T1, X1, e1, st1⟩ := getF X hx hZ hown (host := "") (Or.inl (hw _ (List.mem_of_getElem? (i := 11) rfl))) Via.refl e0 F0 (g := (mkF m 1 #[.val (.ref x0), .val (.int x1)] [(.ref x0)])) rfl rfl (hb hby own_d5_1)
  refine own_back (fun t k => st1 t k) ?_
  show own_Go _ _ _ _ _ _ _ (T1.setTop (mkF m 4 #[.val (.ref x0), .val (.int x1)] [(.ref aB)]))
  refine own_back (fun t k => XS.iloadN X1.here hx rfl (hb hby own_d5_4) rfl k) ?_
  show own_Go _ _ _ _ _ _ _ (T1.setTop (mkF m 5 #[.val (.ref x0), .val (.int x1)] [(.int x1), (.ref aB)]))
  refine own_back (fun t k => XS.bipush X1.here hx rfl (hb hby own_d5_5) k) ?_
  show own_Go _ _ _ _ _ _ _ (T1.setTop (mkF m 7 #[.val (.ref x0), .val (.int x1)] [(.int (6 : Int32)), (.int x1), (.ref aB)]))
  refine own_back (fun t k => XS.ishr X1.here hx rfl (hb hby own_d5_7) rfl k) ?_
  show own_Go _ _ _ _ _ _ _ (T1.setTop (mkF m 8 #[.val (.ref x0), .val (.int x1)] [(.int (x1 >>> ((6 : Int32) &&& 31))), (.ref aB)]))
  refine own_back (fun t k => own_ldJ X1 hx hZ e1 VA (j := (x1 >>> ((6 : Int32) &&& 31))) (w := (B (x1 >>> ((6 : Int32) &&& 31)).toNatClampNeg)) (own_ixp hok hM) rfl (g := (mkF m 8 #[.val (.ref x0), .val (.int x1)] [(.int (x1 >>> ((6 : Int32) &&& 31))), (.ref aB)])) rfl rfl (hb hby own_d5_8) t k) ?_
  show own_Go _ _ _ _ _ _ _ (T1.setTop (mkF m 9 #[.val (.ref x0), .val (.int x1)] [(.long (B (x1 >>> ((6 : Int32) &&& 31)).toNatClampNeg))]))
  refine own_back (fun t k => XS.lconst X1.here hx rfl (hb hby own_d5_9) k) ?_
  show own_Go _ _ _ _ _ _ _ (T1.setTop (mkF m 10 #[.val (.ref x0), .val (.int x1)] [(.long (1 : Int64)), (.long (B (x1 >>> ((6 : Int32) &&& 31)).toNatClampNeg))]))
  refine own_back (fun t k => XS.iloadN X1.here hx rfl (hb hby own_d5_10) rfl k) ?_
  show own_Go _ _ _ _ _ _ _ (T1.setTop (mkF m 11 #[.val (.ref x0), .val (.int x1)] [(.int x1), (.long (1 : Int64)), (.long (B (x1 >>> ((6 : Int32) &&& 31)).toNatClampNeg))]))
  refine own_back (fun t k => XS.lshl X1.here hx rfl (hb hby own_d5_11) rfl k) ?_
  show own_Go _ _ _ _ _ _ _ (T1.setTop (mkF m 12 #[.val (.ref x0), .val (.int x1)] [(.long ((1 : Int64) <<< (x1 &&& 0x3f).toInt64)), (.long (B (x1 >>> ((6 : Int32) &&& 31)).toNatClampNeg))]))
  refine own_back (fun t k => XS.land X1.here hx rfl (hb hby own_d5_12) rfl k) ?_
  show own_Go _ _ _ _ _ _ _ (T1.setTop (mkF m 13 #[.val (.ref x0), .val (.int x1)] [(.long ((B (x1 >>> ((6 : Int32) &&& 31)).toNatClampNeg) &&& ((1 : Int64) <<< (x1 &&& 0x3f).toInt64)))]))
  refine own_back (fun t k => XS.lconst X1.here hx rfl (hb hby own_d5_13) k) ?_
  show own_Go _ _ _ _ _ _ _ (T1.setTop (mkF m 14 #[.val (.ref x0), .val (.int x1)] [(.long (0 : Int64)), (.long ((B (x1 >>> ((6 : Int32) &&& 31)).toNatClampNeg) &&& ((1 : Int64) <<< (x1 &&& 0x3f).toInt64)))]))
  refine own_back (fun t k => XS.lcmp X1.here hx rfl (hb hby own_d5_14) rfl k) ?_
  show own_Go _ _ _ _ _ _ _ (T1.setTop (mkF m 15 #[.val (.ref x0), .val (.int x1)] [(.int (lcmpW ((B (x1 >>> ((6 : Int32) &&& 31)).toNatClampNeg) &&& ((1 : Int64) <<< (x1 &&& 0x3f).toInt64)) (0 : Int64)))]))
  by_cases hc15 : (lcmpW ((B (x1 >>> ((6 : Int32) &&& 31)).toNatClampNeg) &&& ((1 : Int64) <<< (x1 &&& 0x3f).toInt64)) (0 : Int64)) = (0 : Int32)
  · rw [if_pos hc15] at hR
    refine own_back (fun t k => XS.ifYes X1.here hx rfl (pc0 := 15) (pc' := 22) rfl (hb hby own_d5_15) rfl ((if0 _ _).trans (teq hc15).1) (by decide) (by decide) k) ?_
    show own_Go _ _ _ _ _ _ _ (T1.setTop (mkF m 22 #[.val (.ref x0), .val (.int x1)] []))
    refine own_back (fun t k => XS.iconst X1.here hx rfl (hb hby own_d5_22) k) ?_
    show own_Go _ _ _ _ _ _ _ (T1.setTop (mkF m 23 #[.val (.ref x0), .val (.int x1)] [(.int (0 : Int32))]))
    subst hR
    exact own_retN X1 hx (t := .boolean) hret (by simp) (hb hby own_d5_23) hlk (by decide) ⟨rfl, N, e1⟩ (by decide) (by decide)
  · rw [if_neg hc15] at hR
    refine own_back (fun t k => XS.ifNo X1.here hx rfl (hb hby own_d5_15) rfl ((if0 _ _).trans (feq hc15).1) k) ?_
    show own_Go _ _ _ _ _ _ _ (T1.setTop (mkF m 18 #[.val (.ref x0), .val (.int x1)] []))
    refine own_back (fun t k => XS.iconst X1.here hx rfl (hb hby own_d5_18) k) ?_
    show own_Go _ _ _ _ _ _ _ (T1.setTop (mkF m 19 #[.val (.ref x0), .val (.int x1)] [(.int (1 : Int32))]))
    refine own_back (fun t k => XS.goto X1.here hx rfl (pc0 := 19) (pc' := 23) rfl (hb hby own_d5_19) (by decide) (by decide) k) ?_
    show own_Go _ _ _ _ _ _ _ (T1.setTop (mkF m 23 #[.val (.ref x0), .val (.int x1)] [(.int (1 : Int32))]))
    subst hR
    exact own_retN X1 hx (t := .boolean) hret (by simp) (hb hby own_d5_23) hlk (by decide) ⟨rfl, N, e1⟩ (by decide) (by decide)
theorem own_pn5 : plainName "com/example/furl/furl/tree/PositionCounts" = true := by first | (simp [plainName, overriddenIn]; done) | decide +kernel
theorem own_ef5 (m : MethodId) (x0 : Addr) (x1 : Int32) : entryFrame m #[(.ref x0), (.int x1)] 2 = mkF m 0 #[.val (.ref x0), .val (.int x1)] [] := by first | (simp [entryFrame, mkF, argsToLocals, Value.category]; done) | rfl
set_option maxRecDepth 65536 in
set_option maxHeartbeats 4000000 in
theorem own_rm5 (l : Launch) (Z : State) (a0 : Array Value) (hw : ∀ d ∈ tables_1, d.before a0 Z = true) (ws : List Jvm.Cond) (x0 : Addr) (x1 : Int32) (aB : Addr) (NN : Nat) (B : Nat → Int64) (h0 : Heap) (n0 : Nat) (Z0 : n0 ≤ h0.size) (F0 : Fld Z h0 x0 "com/example/furl/furl/tree/PositionCounts" "bits" "[J" (.ref aB)) (VA : own_VA Z h0 aB .long NN (fun k => .long (B k))) (hok : own_ok NN x1) (hM : NN ≤ 16) :
    MetFree l (⟨"com/example/furl/furl/tree/PositionCounts", "contains", "(I)Z"⟩ : MethodName) (head1 (Jvm.Cond.code (⟨"com/example/furl/furl/tree/PositionCounts", "contains", "(I)Z"⟩ : MethodName) prog_112_method_3_code 2 (some .boolean) :: ws) ({ frames := 0, cells := 0, slots := 0, locals := 0 } : Room)) (fun a U => a = #[(.ref x0), (.int x1)] ∧ Z.Warmed39 U.vm ∧ U.heap = h0) (fun _ _ _ _ _ => True) (fun _ U o U' => ∃ v L, o = .returned v ∧ own_QP (.int (own_f5_0 B x1)) h0 n0 v U'.heap L ∧ FrameEnd U o U' L ({ frames := 0, cells := 0, slots := 0, locals := 0 } : Room).cells ({ frames := 0, cells := 0, slots := 0, locals := 0 } : Room).slots) := by
  refine MetFree.of_bodySF (plainFor_of_name own_pn5) hisR ?_
  intro p e s m args below meth c s₁ Bd hml0 hP hK
  obtain ⟨rfl, hZ, hh⟩ := hP
  have X0 : Stand p l e ({ frames := 0, cells := 0, slots := 0, locals := 0 } : Room) s m #[(.ref x0), (.int x1)] below meth c s₁ [] 0 0 := Stand.of_body Bd
  have e0 : s₁.heap = h0 := by rw [← hh, Bd.state]; rfl
  refine own_back (s := s) (fun t k => castTop (own_ef5 m x0 x1) k) ?_
  exact own_l5_0 X0 Bd.exec hZ hw Bd.bytes hml0 (findClass_of_methodNamed Bd.named) Bd.returns (BodyLoose.notSynchronized Bd) e0 (Fr.nil n0) Z0 x0 aB NN B x1 rfl F0 VA hok hM
/-! add -/
theorem own_d3_0 : decode prog_112_method_2_code 0 = .ok (.aload_n 0, 1) := by decide +kernel
theorem own_d3_1 : decode prog_112_method_2_code 1 = .ok (.getfield 7, 3) := by decide +kernel
theorem own_d3_4 : decode prog_112_method_2_code 4 = .ok (.iload_n 1, 1) := by decide +kernel
theorem own_d3_5 : decode prog_112_method_2_code 5 = .ok (.bipush 6, 2) := by decide +kernel
theorem own_d3_7 : decode prog_112_method_2_code 7 = .ok (.ishr, 1) := by decide +kernel
theorem own_d3_8 : decode prog_112_method_2_code 8 = .ok (.dup2, 1) := by decide +kernel
theorem own_d3_9 : decode prog_112_method_2_code 9 = .ok (.laload, 1) := by decide +kernel
theorem own_d3_10 : decode prog_112_method_2_code 10 = .ok (.lconst 1, 1) := by decide +kernel
theorem own_d3_11 : decode prog_112_method_2_code 11 = .ok (.iload_n 1, 1) := by decide +kernel
theorem own_d3_12 : decode prog_112_method_2_code 12 = .ok (.lshl, 1) := by decide +kernel
theorem own_d3_13 : decode prog_112_method_2_code 13 = .ok (.lxor, 1) := by decide +kernel
theorem own_d3_14 : decode prog_112_method_2_code 14 = .ok (.lastore, 1) := by decide +kernel
theorem own_d3_15 : decode prog_112_method_2_code 15 = .ok (.iload_n 1, 1) := by decide +kernel
theorem own_d3_16 : decode prog_112_method_2_code 16 = .ok (.bipush 6, 2) := by decide +kernel
theorem own_d3_18 : decode prog_112_method_2_code 18 = .ok (.ishr, 1) := by decide +kernel
theorem own_d3_19 : decode prog_112_method_2_code 19 = .ok (.iconst 1, 1) := by decide +kernel
theorem own_d3_20 : decode prog_112_method_2_code 20 = .ok (.iadd, 1) := by decide +kernel
theorem own_d3_21 : decode prog_112_method_2_code 21 = .ok (.istore_n 3, 1) := by decide +kernel
theorem own_d3_22 : decode prog_112_method_2_code 22 = .ok (.iload_n 3, 1) := by decide +kernel
theorem own_d3_23 : decode prog_112_method_2_code 23 = .ok (.aload_n 0, 1) := by decide +kernel
theorem own_d3_24 : decode prog_112_method_2_code 24 = .ok (.getfield 13, 3) := by decide +kernel
theorem own_d3_27 : decode prog_112_method_2_code 27 = .ok (.arraylength, 1) := by decide +kernel
theorem own_d3_28 : decode prog_112_method_2_code 28 = .ok (.if_icmp .ge 23, 3) := by decide +kernel
theorem own_d3_31 : decode prog_112_method_2_code 31 = .ok (.aload_n 0, 1) := by decide +kernel
theorem own_d3_32 : decode prog_112_method_2_code 32 = .ok (.getfield 13, 3) := by decide +kernel
theorem own_d3_35 : decode prog_112_method_2_code 35 = .ok (.iload_n 3, 1) := by decide +kernel
theorem own_d3_36 : decode prog_112_method_2_code 36 = .ok (.dup2, 1) := by decide +kernel
theorem own_d3_37 : decode prog_112_method_2_code 37 = .ok (.iaload, 1) := by decide +kernel
theorem own_d3_38 : decode prog_112_method_2_code 38 = .ok (.iload_n 2, 1) := by decide +kernel
theorem own_d3_39 : decode prog_112_method_2_code 39 = .ok (.iadd, 1) := by decide +kernel
theorem own_d3_40 : decode prog_112_method_2_code 40 = .ok (.iastore, 1) := by decide +kernel
theorem own_d3_41 : decode prog_112_method_2_code 41 = .ok (.iload_n 3, 1) := by decide +kernel
theorem own_d3_42 : decode prog_112_method_2_code 42 = .ok (.iload_n 3, 1) := by decide +kernel
theorem own_d3_43 : decode prog_112_method_2_code 43 = .ok (.iload_n 3, 1) := by decide +kernel
theorem own_d3_44 : decode prog_112_method_2_code 44 = .ok (.ineg, 1) := by decide +kernel
theorem own_d3_45 : decode prog_112_method_2_code 45 = .ok (.iand, 1) := by decide +kernel
theorem own_d3_46 : decode prog_112_method_2_code 46 = .ok (.iadd, 1) := by decide +kernel
theorem own_d3_47 : decode prog_112_method_2_code 47 = .ok (.istore_n 3, 1) := by decide +kernel
theorem own_d3_48 : decode prog_112_method_2_code 48 = .ok (.goto (-26), 3) := by decide +kernel
theorem own_d3_51 : decode prog_112_method_2_code 51 = .ok (.return_, 1) := by decide +kernel
set_option maxRecDepth 65536 in
set_option maxHeartbeats 4000000 in
theorem own_l3_22 {p : Program} {l : Launch} {e : Env} {s : State} {m : MethodId} {args : Array Value} {below : List Frame} {meth : Method} {c : Code} {Z : State} {a0 : Array Value} {n0 : Nat} (hx : p.tables.exec = Jvm.exec) (hZ : Z.Warmed39 s.vm) (hw : ∀ d ∈ tables_1, d.before a0 Z = true) (hby : c.code = prog_112_method_2_code) (hml : c.maxLocals = 4) (hown : s.vm.findClass "com/example/furl/furl/tree/PositionCounts" = some m.cls) (hret : meth.sig.returnType = none) (hlk : meth.locks = false) (x0 aB aW : Addr) (x1 x2 : Int32) (NN : Nat) (hNN : NN ≤ 16) (B : Nat → Int64) (k : Nat) : ∀ (i : Nat) (W : Nat → Int32) (T : State) (locs : List Loc) (h0 : Heap), 1 ≤ i → i ≤ 64 → NN < i + k → Stand p l e ({ frames := 0, cells := 0, slots := 0, locals := 0 } : Room) s m args below meth c T locs 0 0 → T.heap = h0 → Fr n0 locs → n0 ≤ h0.size → own_PC Z h0 n0 x0 aB aW NN B W →
      own_Go p e below s 0 0 (own_QA Z n0 x0 aB aW NN B (own_fen W k i x2)) (T.setTop (mkF m 22 #[.val (.ref x0), .val (.int x1), .val (.int x2), .val (.int (Int32.ofNat i))] [])) := by
  induction k with
  | zero =>
    intro i W T locs h0 hi hi2 hk X e0 N Z0 HP
    refine own_back (fun t k => XS.iloadN X.here hx rfl (hb hby own_d3_22) rfl k) ?_
    show own_Go _ _ _ _ _ _ _ (T.setTop (mkF m 23 #[.val (.ref x0), .val (.int x1), .val (.int x2), .val (.int (Int32.ofNat i))] [(.int (Int32.ofNat i))]))
    refine own_back (fun t k => XS.aloadN X.here hx rfl (hb hby own_d3_23) rfl rfl k) ?_
    show own_Go _ _ _ _ _ _ _ (T.setTop (mkF m 24 #[.val (.ref x0), .val (.int x1), .val (.int x2), .val (.int (Int32.ofNat i))] [(.ref x0), (.int (Int32.ofNat i))]))
    obtain ⟨T1, X1, e1, st1⟩ := getF X hx hZ hown (host := "") (Or.inl (hw _ (List.mem_of_getElem? (i := 14) rfl))) Via.refl e0 HP.2.2.1 (g := (mkF m 24 #[.val (.ref x0), .val (.int x1), .val (.int x2), .val (.int (Int32.ofNat i))] [(.ref x0), (.int (Int32.ofNat i))])) rfl rfl (hb hby own_d3_24)
    refine own_back (fun t k => st1 t k) ?_
    show own_Go _ _ _ _ _ _ _ (T1.setTop (mkF m 27 #[.val (.ref x0), .val (.int x1), .val (.int x2), .val (.int (Int32.ofNat i))] [(.ref aW), (.int (Int32.ofNat i))]))
    refine own_back (fun t k => own_len X1 hx hZ e1 HP.2.2.2.2.1 (z := Int32.ofNat (NN + 1)) rfl (g := (mkF m 27 #[.val (.ref x0), .val (.int x1), .val (.int x2), .val (.int (Int32.ofNat i))] [(.ref aW), (.int (Int32.ofNat i))])) rfl rfl (hb hby own_d3_27) t k) ?_
    show own_Go _ _ _ _ _ _ _ (T1.setTop (mkF m 28 #[.val (.ref x0), .val (.int x1), .val (.int x2), .val (.int (Int32.ofNat i))] [(.int (Int32.ofNat (NN + 1))), (.int (Int32.ofNat i))]))
    have hc : ¬ (Int32.ofNat i < Int32.ofNat (NN + 1)) := fun q => by have := own_lt.mp q; rw [Int32.toInt_ofNat_of_lt (by omega), Int32.toInt_ofNat_of_lt (by omega)] at this; omega
    have HQ : own_PC Z h0 n0 x0 aB aW NN B (own_fen W 0 i x2) := HP
    refine own_back (fun t k => XS.icmpYes X1.here hx rfl (pc0 := 28) (pc' := 51) rfl (hb hby own_d3_28) rfl (flt hc).2.1 (by decide) (by decide) k) ?_
    show own_Go _ _ _ _ _ _ _ (T1.setTop (mkF m 51 #[.val (.ref x0), .val (.int x1), .val (.int x2), .val (.int (Int32.ofNat i))] []))
    exact own_retV X1 hx hret (hb hby own_d3_51) hlk ⟨rfl, N, by rw [e1]; exact Z0, by rw [e1]; exact HQ⟩ (by decide) (by decide)
  | succ k ih =>
    intro i W T locs h0 hi hi2 hk X e0 N Z0 HP
    refine own_back (fun t k => XS.iloadN X.here hx rfl (hb hby own_d3_22) rfl k) ?_
    show own_Go _ _ _ _ _ _ _ (T.setTop (mkF m 23 #[.val (.ref x0), .val (.int x1), .val (.int x2), .val (.int (Int32.ofNat i))] [(.int (Int32.ofNat i))]))
    refine own_back (fun t k => XS.aloadN X.here hx rfl (hb hby own_d3_23) rfl rfl k) ?_
    show own_Go _ _ _ _ _ _ _ (T.setTop (mkF m 24 #[.val (.ref x0), .val (.int x1), .val (.int x2), .val (.int (Int32.ofNat i))] [(.ref x0), (.int (Int32.ofNat i))]))
    obtain ⟨T1, X1, e1, st1⟩ := getF X hx hZ hown (host := "") (Or.inl (hw _ (List.mem_of_getElem? (i := 14) rfl))) Via.refl e0 HP.2.2.1 (g := (mkF m 24 #[.val (.ref x0), .val (.int x1), .val (.int x2), .val (.int (Int32.ofNat i))] [(.ref x0), (.int (Int32.ofNat i))])) rfl rfl (hb hby own_d3_24)
    refine own_back (fun t k => st1 t k) ?_
    show own_Go _ _ _ _ _ _ _ (T1.setTop (mkF m 27 #[.val (.ref x0), .val (.int x1), .val (.int x2), .val (.int (Int32.ofNat i))] [(.ref aW), (.int (Int32.ofNat i))]))
    refine own_back (fun t k => own_len X1 hx hZ e1 HP.2.2.2.2.1 (z := Int32.ofNat (NN + 1)) rfl (g := (mkF m 27 #[.val (.ref x0), .val (.int x1), .val (.int x2), .val (.int (Int32.ofNat i))] [(.ref aW), (.int (Int32.ofNat i))])) rfl rfl (hb hby own_d3_27) t k) ?_
    show own_Go _ _ _ _ _ _ _ (T1.setTop (mkF m 28 #[.val (.ref x0), .val (.int x1), .val (.int x2), .val (.int (Int32.ofNat i))] [(.int (Int32.ofNat (NN + 1))), (.int (Int32.ofNat i))]))
    by_cases hlt : i < NN + 1
    · have hc : Int32.ofNat i < Int32.ofNat (NN + 1) := own_lt.mpr (by rw [Int32.toInt_ofNat_of_lt (by omega), Int32.toInt_ofNat_of_lt (by omega)]; omega)
      have lo := own_low_ok hi (by omega)
      refine own_back (fun t k => XS.icmpNo X1.here hx rfl (hb hby own_d3_28) rfl (tlt hc).2.1 k) ?_
      show own_Go _ _ _ _ _ _ _ (T1.setTop (mkF m 31 #[.val (.ref x0), .val (.int x1), .val (.int x2), .val (.int (Int32.ofNat i))] []))
      refine own_back (fun t k => XS.aloadN X1.here hx rfl (hb hby own_d3_31) rfl rfl k) ?_
      show own_Go _ _ _ _ _ _ _ (T1.setTop (mkF m 32 #[.val (.ref x0), .val (.int x1), .val (.int x2), .val (.int (Int32.ofNat i))] [(.ref x0)]))
      obtain ⟨T2, X2, e2, st2⟩ := getF X1 hx hZ hown (host := "") (Or.inl (hw _ (List.mem_of_getElem? (i := 14) rfl))) Via.refl e1 HP.2.2.1 (g := (mkF m 32 #[.val (.ref x0), .val (.int x1), .val (.int x2), .val (.int (Int32.ofNat i))] [(.ref x0)])) rfl rfl (hb hby own_d3_32)
      refine own_back (fun t k => st2 t k) ?_
      show own_Go _ _ _ _ _ _ _ (T2.setTop (mkF m 35 #[.val (.ref x0), .val (.int x1), .val (.int x2), .val (.int (Int32.ofNat i))] [(.ref aW)]))
      refine own_back (fun t k => XS.iloadN X2.here hx rfl (hb hby own_d3_35) rfl k) ?_
      show own_Go _ _ _ _ _ _ _ (T2.setTop (mkF m 36 #[.val (.ref x0), .val (.int x1), .val (.int x2), .val (.int (Int32.ofNat i))] [(.int (Int32.ofNat i)), (.ref aW)]))
      refine own_back (fun t k => Jvm.Free.XT.dup2 X2.here hx rfl (hb hby own_d3_36) rfl rfl rfl k) ?_
      show own_Go _ _ _ _ _ _ _ (T2.setTop (mkF m 37 #[.val (.ref x0), .val (.int x1), .val (.int x2), .val (.int (Int32.ofNat i))] [(.int (Int32.ofNat i)), (.ref aW), (.int (Int32.ofNat i)), (.ref aW)]))
      refine own_back (fun t k => own_ldI X2 hx hZ e2 HP.2.2.2.2.1 (j := Int32.ofNat i) (w := W i) (own_in hlt (by omega)) (by rw [(own_clamp (by omega)).2]) (g := (mkF m 37 #[.val (.ref x0), .val (.int x1), .val (.int x2), .val (.int (Int32.ofNat i))] [(.int (Int32.ofNat i)), (.ref aW), (.int (Int32.ofNat i)), (.ref aW)])) rfl rfl (hb hby own_d3_37) t k) ?_
      show own_Go _ _ _ _ _ _ _ (T2.setTop (mkF m 38 #[.val (.ref x0), .val (.int x1), .val (.int x2), .val (.int (Int32.ofNat i))] [(.int (W i)), (.int (Int32.ofNat i)), (.ref aW)]))
      refine own_back (fun t k => XS.iloadN X2.here hx rfl (hb hby own_d3_38) rfl k) ?_
      show own_Go _ _ _ _ _ _ _ (T2.setTop (mkF m 39 #[.val (.ref x0), .val (.int x1), .val (.int x2), .val (.int (Int32.ofNat i))] [(.int x2), (.int (W i)), (.int (Int32.ofNat i)), (.ref aW)]))
      refine own_back (fun t k => XS.iadd X2.here hx rfl (hb hby own_d3_39) rfl k) ?_
      show own_Go _ _ _ _ _ _ _ (T2.setTop (mkF m 40 #[.val (.ref x0), .val (.int x1), .val (.int x2), .val (.int (Int32.ofNat i))] [(.int (W i + x2)), (.int (Int32.ofNat i)), (.ref aW)]))
      obtain ⟨T3, h3, X3, e3, W3, -, st3⟩ := own_stI X2 hx hZ e2 HP.2.2.2.2.1 i (own_in hlt (by omega)) (own_clamp (by omega)).2 (g := (mkF m 40 #[.val (.ref x0), .val (.int x1), .val (.int x2), .val (.int (Int32.ofNat i))] [(.int (W i + x2)), (.int (Int32.ofNat i)), (.ref aW)])) rfl rfl (hb hby own_d3_40)
      have N3 := Fr.snoc X3 N HP.2.2.2.2.2.2.1
      have Z3 : n0 ≤ h3.size := Nat.le_trans Z0 (Keep.of_wr W3).1
      have HP3 := own_PC_W HP W3 hlt
      refine own_back (fun t k => st3 t k) ?_
      show own_Go _ _ _ _ _ _ _ (T3.setTop (mkF m 41 #[.val (.ref x0), .val (.int x1), .val (.int x2), .val (.int (Int32.ofNat i))] []))
      refine own_back (fun t k => XS.iloadN X3.here hx rfl (hb hby own_d3_41) rfl k) ?_
      show own_Go _ _ _ _ _ _ _ (T3.setTop (mkF m 42 #[.val (.ref x0), .val (.int x1), .val (.int x2), .val (.int (Int32.ofNat i))] [(.int (Int32.ofNat i))]))
      refine own_back (fun t k => XS.iloadN X3.here hx rfl (hb hby own_d3_42) rfl k) ?_
      show own_Go _ _ _ _ _ _ _ (T3.setTop (mkF m 43 #[.val (.ref x0), .val (.int x1), .val (.int x2), .val (.int (Int32.ofNat i))] [(.int (Int32.ofNat i)), (.int (Int32.ofNat i))]))
      refine own_back (fun t k => XS.iloadN X3.here hx rfl (hb hby own_d3_43) rfl k) ?_
      show own_Go _ _ _ _ _ _ _ (T3.setTop (mkF m 44 #[.val (.ref x0), .val (.int x1), .val (.int x2), .val (.int (Int32.ofNat i))] [(.int (Int32.ofNat i)), (.int (Int32.ofNat i)), (.int (Int32.ofNat i))]))
      refine own_back (fun t k => XS.ineg X3.here hx rfl (hb hby own_d3_44) rfl k) ?_
      show own_Go _ _ _ _ _ _ _ (T3.setTop (mkF m 45 #[.val (.ref x0), .val (.int x1), .val (.int x2), .val (.int (Int32.ofNat i))] [(.int (-(Int32.ofNat i))), (.int (Int32.ofNat i)), (.int (Int32.ofNat i))]))
      refine own_back (fun t k => XS.iand X3.here hx rfl (hb hby own_d3_45) rfl k) ?_
      show own_Go _ _ _ _ _ _ _ (T3.setTop (mkF m 46 #[.val (.ref x0), .val (.int x1), .val (.int x2), .val (.int (Int32.ofNat i))] [(.int ((Int32.ofNat i) &&& (-(Int32.ofNat i)))), (.int (Int32.ofNat i))]))
      refine own_back (fun t k => XS.iadd X3.here hx rfl (hb hby own_d3_46) rfl k) ?_
      show own_Go _ _ _ _ _ _ _ (T3.setTop (mkF m 47 #[.val (.ref x0), .val (.int x1), .val (.int x2), .val (.int (Int32.ofNat i))] [(.int (Int32.ofNat i + ((Int32.ofNat i) &&& (-(Int32.ofNat i)))))]))
      rw [lo.2.2]
      refine own_back (fun t k => XS.istoreN X3.here hx rfl (hb hby own_d3_47) rfl (l' := #[.val (.ref x0), .val (.int x1), .val (.int x2), .val (.int (Int32.ofNat (i + own_low i)))]) rfl k) ?_
      show own_Go _ _ _ _ _ _ _ (T3.setTop (mkF m 48 #[.val (.ref x0), .val (.int x1), .val (.int x2), .val (.int (Int32.ofNat (i + own_low i)))] []))
      refine own_back (fun t k => XS.goto X3.here hx rfl (pc0 := 48) (pc' := 22) rfl (hb hby own_d3_48) (by decide) (by decide) k) ?_
      show own_Go _ _ _ _ _ _ _ (T3.setTop (mkF m 22 #[.val (.ref x0), .val (.int x1), .val (.int x2), .val (.int (Int32.ofNat (i + own_low i)))] []))
      have G := ih (i + own_low i) _ T3 _ h3 (by omega) (by omega) (by omega) X3 e3 N3 Z3 HP3
      obtain ⟨s₂, o, g1, g2, g3, v, L, g4, ⟨g5, g6, g7, g8⟩, g9⟩ := G
      refine ⟨s₂, o, g1, g2, g3, v, L, g4, ⟨g5, g6, g7, own_PC_congr g8 (fun j hj => ?_)⟩, g9⟩
      show (if own_up k (i + own_low i) j = true then (if j = i then W i + x2 else W j) + x2 else (if j = i then W i + x2 else W j)) = (if (i == j || own_up k (i + own_low i) j) = true then W j + x2 else W j)
      by_cases q : j = i
      · subst q
        rw [own_up_lt k _ _ (by omega), if_neg (by decide), if_pos rfl, beq_self_eq_true, Bool.true_or, if_pos rfl]
      · rw [if_neg q, beq_false_of_ne (fun z => q z.symm), Bool.false_or]
    · have hc : ¬ (Int32.ofNat i < Int32.ofNat (NN + 1)) := fun q => by have := own_lt.mp q; rw [Int32.toInt_ofNat_of_lt (by omega), Int32.toInt_ofNat_of_lt (by omega)] at this; omega
      have HQ : own_PC Z h0 n0 x0 aB aW NN B (own_fen W (k + 1) i x2) := own_PC_congr HP (fun j hj => by
        show W j = if own_up (k + 1) i j = true then W j + x2 else W j
        rw [own_up_lt _ _ _ (by omega), if_neg (by decide)])
      refine own_back (fun t k => XS.icmpYes X1.here hx rfl (pc0 := 28) (pc' := 51) rfl (hb hby own_d3_28) rfl (flt hc).2.1 (by decide) (by decide) k) ?_
      show own_Go _ _ _ _ _ _ _ (T1.setTop (mkF m 51 #[.val (.ref x0), .val (.int x1), .val (.int x2), .val (.int (Int32.ofNat i))] []))
      exact own_retV X1 hx hret (hb hby own_d3_51) hlk ⟨rfl, N, by rw [e1]; exact Z0, by rw [e1]; exact HQ⟩ (by decide) (by decide)
theorem own_pn3 : plainName "com/example/furl/furl/tree/PositionCounts" = true := by first | (simp [plainName, overriddenIn]; done) | decide +kernel
theorem own_ef3 (m : MethodId) (x0 : Addr) (x1 x2 : Int32) : entryFrame m #[(.ref x0), (.int x1), (.int x2)] 4 = (mkF m 0 #[.val (.ref x0), .val (.int x1), .val (.int x2), .unset] []) := by first | (simp [entryFrame, mkF, argsToLocals, Value.category]; done) | rfl
set_option maxRecDepth 65536 in
set_option maxHeartbeats 4000000 in
theorem own_rm3 (l : Launch) (Z : State) (a0 : Array Value) (hw : ∀ d ∈ tables_1, d.before a0 Z = true) (ws : List Jvm.Cond) (x0 : Addr) (x1 x2 : Int32) (aB aW : Addr) (NN : Nat) (B : Nat → Int64) (W : Nat → Int32) (h0 : Heap) (n0 : Nat) (Z0 : n0 ≤ h0.size) (HP : own_PC Z h0 n0 x0 aB aW NN B W) (hNN : NN ≤ 16) (hok : own_ok NN x1) :
    MetFree l (⟨"com/example/furl/furl/tree/PositionCounts", "add", "(II)V"⟩ : MethodName) (head1 (Jvm.Cond.code (⟨"com/example/furl/furl/tree/PositionCounts", "add", "(II)V"⟩ : MethodName) prog_112_method_2_code 4 none :: ws) ({ frames := 0, cells := 0, slots := 0, locals := 0 } : Room)) (fun a U => a = #[(.ref x0), (.int x1), (.int x2)] ∧ Z.Warmed39 U.vm ∧ U.heap = h0) (fun _ _ _ _ _ => True) (fun _ U o U' => ∃ v L, o = .returned v ∧ own_QA Z n0 x0 aB aW NN (own_tog B x1) (own_cnt W x1 x2) v U'.heap L ∧ FrameEnd U o U' L ({ frames := 0, cells := 0, slots := 0, locals := 0 } : Room).cells ({ frames := 0, cells := 0, slots := 0, locals := 0 } : Room).slots) := by
  refine MetFree.of_bodySF (plainFor_of_name own_pn3) hisR ?_
  intro p e s m args below meth c T Bd hml0 hP hK
  obtain ⟨rfl, hZ, hh⟩ := hP
  have hx := Bd.exec
  have hby := Bd.bytes
  have hown : s.vm.findClass "com/example/furl/furl/tree/PositionCounts" = some m.cls := findClass_of_methodNamed Bd.named
  have X : Stand p l e ({ frames := 0, cells := 0, slots := 0, locals := 0 } : Room) s m #[(.ref x0), (.int x1), (.int x2)] below meth c T [] 0 0 := Stand.of_body Bd
  have e0 : T.heap = h0 := by rw [← hh, Bd.state]; rfl
  have N := Fr.nil n0
  have hbb := own_hb x1
  have hN := hok.2
  have hsh : x1 >>> ((6 : Int32) &&& 31) = Int32.ofNat (x1.toNatClampNeg / 64) := by
    have q := own_shr hbb
    rw [← own_hp hok.1] at q
    exact q
  refine own_back (s := s) (Q := own_QA Z n0 x0 aB aW NN (own_tog B x1) (own_cnt W x1 x2)) (fun t k => castTop (own_ef3 m x0 x1 x2) k) ?_
  refine own_back (fun t k => XS.aloadN X.here hx rfl (hb hby own_d3_0) rfl rfl k) ?_
  show own_Go _ _ _ _ _ _ _ (T.setTop (mkF m 1 #[.val (.ref x0), .val (.int x1), .val (.int x2), .unset] [(.ref x0)]))
  obtain ⟨T1, X1, e1, st1⟩ := getF X hx hZ hown (host := "") (Or.inl (hw _ (List.mem_of_getElem? (i := 11) rfl))) Via.refl e0 HP.2.1 (g := (mkF m 1 #[.val (.ref x0), .val (.int x1), .val (.int x2), .unset] [(.ref x0)])) rfl rfl (hb hby own_d3_1)
  refine own_back (fun t k => st1 t k) ?_
  show own_Go _ _ _ _ _ _ _ (T1.setTop (mkF m 4 #[.val (.ref x0), .val (.int x1), .val (.int x2), .unset] [(.ref aB)]))
  refine own_back (fun t k => XS.iloadN X1.here hx rfl (hb hby own_d3_4) rfl k) ?_
  show own_Go _ _ _ _ _ _ _ (T1.setTop (mkF m 5 #[.val (.ref x0), .val (.int x1), .val (.int x2), .unset] [(.int x1), (.ref aB)]))
  refine own_back (fun t k => XS.bipush X1.here hx rfl (hb hby own_d3_5) k) ?_
  show own_Go _ _ _ _ _ _ _ (T1.setTop (mkF m 7 #[.val (.ref x0), .val (.int x1), .val (.int x2), .unset] [(.int (6 : Int32)), (.int x1), (.ref aB)]))
  refine own_back (fun t k => XS.ishr X1.here hx rfl (hb hby own_d3_7) rfl k) ?_
  show own_Go _ _ _ _ _ _ _ (T1.setTop (mkF m 8 #[.val (.ref x0), .val (.int x1), .val (.int x2), .unset] [(.int (x1 >>> ((6 : Int32) &&& 31))), (.ref aB)]))
  rw [hsh]
  show own_Go _ _ _ _ _ _ _ (T1.setTop (mkF m 8 #[.val (.ref x0), .val (.int x1), .val (.int x2), .unset] [(.int (Int32.ofNat (x1.toNatClampNeg / 64))), (.ref aB)]))
  refine own_back (fun t k => Jvm.Free.XT.dup2 X1.here hx rfl (hb hby own_d3_8) rfl rfl rfl k) ?_
  show own_Go _ _ _ _ _ _ _ (T1.setTop (mkF m 9 #[.val (.ref x0), .val (.int x1), .val (.int x2), .unset] [(.int (Int32.ofNat (x1.toNatClampNeg / 64))), (.ref aB), (.int (Int32.ofNat (x1.toNatClampNeg / 64))), (.ref aB)]))
  refine own_back (fun t k => own_ldJ X1 hx hZ e1 HP.2.2.2.1 (j := Int32.ofNat (x1.toNatClampNeg / 64)) (w := B (x1.toNatClampNeg / 64)) (own_in hN (by omega)) (by rw [(own_clamp (by omega)).2]) (g := (mkF m 9 #[.val (.ref x0), .val (.int x1), .val (.int x2), .unset] [(.int (Int32.ofNat (x1.toNatClampNeg / 64))), (.ref aB), (.int (Int32.ofNat (x1.toNatClampNeg / 64))), (.ref aB)])) rfl rfl (hb hby own_d3_9) t k) ?_
  show own_Go _ _ _ _ _ _ _ (T1.setTop (mkF m 10 #[.val (.ref x0), .val (.int x1), .val (.int x2), .unset] [(.long (B (x1.toNatClampNeg / 64))), (.int (Int32.ofNat (x1.toNatClampNeg / 64))), (.ref aB)]))
  refine own_back (fun t k => XS.lconst X1.here hx rfl (hb hby own_d3_10) k) ?_
  show own_Go _ _ _ _ _ _ _ (T1.setTop (mkF m 11 #[.val (.ref x0), .val (.int x1), .val (.int x2), .unset] [(.long (1 : Int64)), (.long (B (x1.toNatClampNeg / 64))), (.int (Int32.ofNat (x1.toNatClampNeg / 64))), (.ref aB)]))
  refine own_back (fun t k => XS.iloadN X1.here hx rfl (hb hby own_d3_11) rfl k) ?_
  show own_Go _ _ _ _ _ _ _ (T1.setTop (mkF m 12 #[.val (.ref x0), .val (.int x1), .val (.int x2), .unset] [(.int x1), (.long (1 : Int64)), (.long (B (x1.toNatClampNeg / 64))), (.int (Int32.ofNat (x1.toNatClampNeg / 64))), (.ref aB)]))
  refine own_back (fun t k => XS.lshl X1.here hx rfl (hb hby own_d3_12) rfl k) ?_
  show own_Go _ _ _ _ _ _ _ (T1.setTop (mkF m 13 #[.val (.ref x0), .val (.int x1), .val (.int x2), .unset] [(.long ((1 : Int64) <<< (x1 &&& 0x3f).toInt64)), (.long (B (x1.toNatClampNeg / 64))), (.int (Int32.ofNat (x1.toNatClampNeg / 64))), (.ref aB)]))
  refine own_back (fun t k => XS.lxor X1.here hx rfl (hb hby own_d3_13) rfl k) ?_
  show own_Go _ _ _ _ _ _ _ (T1.setTop (mkF m 14 #[.val (.ref x0), .val (.int x1), .val (.int x2), .unset] [(.long (B (x1.toNatClampNeg / 64) ^^^ ((1 : Int64) <<< (x1 &&& 0x3f).toInt64))), (.int (Int32.ofNat (x1.toNatClampNeg / 64))), (.ref aB)]))
  obtain ⟨T2, h2, X2, e2, W2, -, st2⟩ := own_stJ X1 hx hZ e1 HP.2.2.2.1 (x1.toNatClampNeg / 64) (own_in hN (by omega)) (own_clamp (by omega)).2 (g := (mkF m 14 #[.val (.ref x0), .val (.int x1), .val (.int x2), .unset] [(.long (B (x1.toNatClampNeg / 64) ^^^ ((1 : Int64) <<< (x1 &&& 0x3f).toInt64))), (.int (Int32.ofNat (x1.toNatClampNeg / 64))), (.ref aB)])) rfl rfl (hb hby own_d3_14)
  have N2 := Fr.snoc X2 N HP.2.2.2.2.2.1
  have Z2 : n0 ≤ h2.size := Nat.le_trans Z0 (Keep.of_wr W2).1
  have HP2 : own_PC Z h2 n0 x0 aB aW NN (own_tog B x1) W := own_PC_B HP W2 hN
  refine own_back (fun t k => st2 t k) ?_
  show own_Go _ _ _ _ _ _ _ (T2.setTop (mkF m 15 #[.val (.ref x0), .val (.int x1), .val (.int x2), .unset] []))
  refine own_back (fun t k => XS.iloadN X2.here hx rfl (hb hby own_d3_15) rfl k) ?_
  show own_Go _ _ _ _ _ _ _ (T2.setTop (mkF m 16 #[.val (.ref x0), .val (.int x1), .val (.int x2), .unset] [(.int x1)]))
  refine own_back (fun t k => XS.bipush X2.here hx rfl (hb hby own_d3_16) k) ?_
  show own_Go _ _ _ _ _ _ _ (T2.setTop (mkF m 18 #[.val (.ref x0), .val (.int x1), .val (.int x2), .unset] [(.int (6 : Int32)), (.int x1)]))
  refine own_back (fun t k => XS.ishr X2.here hx rfl (hb hby own_d3_18) rfl k) ?_
  show own_Go _ _ _ _ _ _ _ (T2.setTop (mkF m 19 #[.val (.ref x0), .val (.int x1), .val (.int x2), .unset] [(.int (x1 >>> ((6 : Int32) &&& 31)))]))
  rw [hsh]
  show own_Go _ _ _ _ _ _ _ (T2.setTop (mkF m 19 #[.val (.ref x0), .val (.int x1), .val (.int x2), .unset] [(.int (Int32.ofNat (x1.toNatClampNeg / 64)))]))
  refine own_back (fun t k => XS.iconst X2.here hx rfl (hb hby own_d3_19) k) ?_
  show own_Go _ _ _ _ _ _ _ (T2.setTop (mkF m 20 #[.val (.ref x0), .val (.int x1), .val (.int x2), .unset] [(.int (1 : Int32)), (.int (Int32.ofNat (x1.toNatClampNeg / 64)))]))
  refine own_back (fun t k => XS.iadd X2.here hx rfl (hb hby own_d3_20) rfl k) ?_
  show own_Go _ _ _ _ _ _ _ (T2.setTop (mkF m 21 #[.val (.ref x0), .val (.int x1), .val (.int x2), .unset] [(.int (Int32.ofNat (x1.toNatClampNeg / 64) + Int32.ofNat 1))]))
  rw [own_plus]
  refine own_back (fun t k => XS.istoreN X2.here hx rfl (hb hby own_d3_21) rfl (l' := #[.val (.ref x0), .val (.int x1), .val (.int x2), .val (.int (Int32.ofNat (x1.toNatClampNeg / 64 + 1)))]) rfl k) ?_
  show own_Go _ _ _ _ _ _ _ (T2.setTop (mkF m 22 #[.val (.ref x0), .val (.int x1), .val (.int x2), .val (.int (Int32.ofNat (x1.toNatClampNeg / 64 + 1)))] []))
  exact own_l3_22 hx hZ hw hby hml0 hown Bd.returns (BodyLoose.notSynchronized Bd) x0 aB aW x1 x2 NN hNN (own_tog B x1) 20 (x1.toNatClampNeg / 64 + 1) W T2 _ h2 (by omega) (by omega) (by omega) X2 e2 N2 Z2 HP2
theorem own_nn0 {x : Int32} (h : 0 ≤ x.toInt) : ¬ x < 0 ∧ (x.toNatClampNeg : Int) = x.toInt := by
  have z : (0 : Int32).toInt = 0 := rfl
  refine ⟨fun q => by have := own_lt.mp q; omega, ?_⟩
  show ((x.toInt.toNat : Nat) : Int) = x.toInt
  omega
theorem own_max (y : Int32) : 0 ≤ (y &&& (2147483647 : Int32)).toInt := by
  have e : (y &&& (2147483647 : Int32)).toInt = y.toInt % 2147483648 := c_mask y 2147483647 31 (by decide) (by decide)
  omega
/-- a remainder as a place below the divisor -/
theorem own_rem (y c : Int32) (hc : 1 ≤ c.toInt) : ¬ ((y &&& (2147483647 : Int32)) % c) < 0 ∧ (((y &&& (2147483647 : Int32)) % c).toNatClampNeg : Int) < c.toInt := by
  have r := (c_iremV (y &&& (2147483647 : Int32)) c).1 (own_max y) (by omega)
  have e := own_nn0 r.1
  exact ⟨e.1, by omega⟩
theorem own_len6 {c : Int32} (h : ¬ c < 0) (h2 : c.toNatClampNeg ≤ 2000) : (c + (63 : Int32)) >>> ((6 : Int32) &&& 31) = Int32.ofNat ((c.toNatClampNeg + 63) / 64) := by
  have q := own_shr (k := c.toNatClampNeg + 63) (by omega)
  rw [← own_plus, ← own_hp h] at q
  exact q
/-! body 7: java/lang/Long.bitCount:(J)I -/
theorem own_d7_0 : decode jdk_35_method_50_code 0 = .ok (.lload_n 0, 1) := by decide +kernel
theorem own_d7_1 : decode jdk_35_method_50_code 1 = .ok (.lload_n 0, 1) := by decide +kernel
theorem own_d7_2 : decode jdk_35_method_50_code 2 = .ok (.iconst 1, 1) := by decide +kernel
theorem own_d7_3 : decode jdk_35_method_50_code 3 = .ok (.lushr, 1) := by decide +kernel
theorem own_d7_4 : decode jdk_35_method_50_code 4 = .ok (.ldc2_w 314, 3) := by decide +kernel
theorem own_d7_7 : decode jdk_35_method_50_code 7 = .ok (.land, 1) := by decide +kernel
theorem own_d7_8 : decode jdk_35_method_50_code 8 = .ok (.lsub, 1) := by decide +kernel
theorem own_d7_9 : decode jdk_35_method_50_code 9 = .ok (.lstore_n 0, 1) := by decide +kernel
theorem own_d7_10 : decode jdk_35_method_50_code 10 = .ok (.lload_n 0, 1) := by decide +kernel
theorem own_d7_11 : decode jdk_35_method_50_code 11 = .ok (.ldc2_w 316, 3) := by decide +kernel
theorem own_d7_14 : decode jdk_35_method_50_code 14 = .ok (.land, 1) := by decide +kernel
theorem own_d7_15 : decode jdk_35_method_50_code 15 = .ok (.lload_n 0, 1) := by decide +kernel
theorem own_d7_16 : decode jdk_35_method_50_code 16 = .ok (.iconst 2, 1) := by decide +kernel
theorem own_d7_17 : decode jdk_35_method_50_code 17 = .ok (.lushr, 1) := by decide +kernel
theorem own_d7_18 : decode jdk_35_method_50_code 18 = .ok (.ldc2_w 316, 3) := by decide +kernel
theorem own_d7_21 : decode jdk_35_method_50_code 21 = .ok (.land, 1) := by decide +kernel
theorem own_d7_22 : decode jdk_35_method_50_code 22 = .ok (.ladd, 1) := by decide +kernel
theorem own_d7_23 : decode jdk_35_method_50_code 23 = .ok (.lstore_n 0, 1) := by decide +kernel
theorem own_d7_24 : decode jdk_35_method_50_code 24 = .ok (.lload_n 0, 1) := by decide +kernel
theorem own_d7_25 : decode jdk_35_method_50_code 25 = .ok (.lload_n 0, 1) := by decide +kernel
theorem own_d7_26 : decode jdk_35_method_50_code 26 = .ok (.iconst 4, 1) := by decide +kernel
theorem own_d7_27 : decode jdk_35_method_50_code 27 = .ok (.lushr, 1) := by decide +kernel
theorem own_d7_28 : decode jdk_35_method_50_code 28 = .ok (.ladd, 1) := by decide +kernel
theorem own_d7_29 : decode jdk_35_method_50_code 29 = .ok (.ldc2_w 318, 3) := by decide +kernel
theorem own_d7_32 : decode jdk_35_method_50_code 32 = .ok (.land, 1) := by decide +kernel
theorem own_d7_33 : decode jdk_35_method_50_code 33 = .ok (.lstore_n 0, 1) := by decide +kernel
theorem own_d7_34 : decode jdk_35_method_50_code 34 = .ok (.lload_n 0, 1) := by decide +kernel
theorem own_d7_35 : decode jdk_35_method_50_code 35 = .ok (.lload_n 0, 1) := by decide +kernel
theorem own_d7_36 : decode jdk_35_method_50_code 36 = .ok (.bipush 8, 2) := by decide +kernel
theorem own_d7_38 : decode jdk_35_method_50_code 38 = .ok (.lushr, 1) := by decide +kernel
theorem own_d7_39 : decode jdk_35_method_50_code 39 = .ok (.ladd, 1) := by decide +kernel
theorem own_d7_40 : decode jdk_35_method_50_code 40 = .ok (.lstore_n 0, 1) := by decide +kernel
theorem own_d7_41 : decode jdk_35_method_50_code 41 = .ok (.lload_n 0, 1) := by decide +kernel
theorem own_d7_42 : decode jdk_35_method_50_code 42 = .ok (.lload_n 0, 1) := by decide +kernel
theorem own_d7_43 : decode jdk_35_method_50_code 43 = .ok (.bipush 16, 2) := by decide +kernel
theorem own_d7_45 : decode jdk_35_method_50_code 45 = .ok (.lushr, 1) := by decide +kernel
theorem own_d7_46 : decode jdk_35_method_50_code 46 = .ok (.ladd, 1) := by decide +kernel
theorem own_d7_47 : decode jdk_35_method_50_code 47 = .ok (.lstore_n 0, 1) := by decide +kernel
theorem own_d7_48 : decode jdk_35_method_50_code 48 = .ok (.lload_n 0, 1) := by decide +kernel
theorem own_d7_49 : decode jdk_35_method_50_code 49 = .ok (.lload_n 0, 1) := by decide +kernel
theorem own_d7_50 : decode jdk_35_method_50_code 50 = .ok (.bipush 32, 2) := by decide +kernel
theorem own_d7_52 : decode jdk_35_method_50_code 52 = .ok (.lushr, 1) := by decide +kernel
theorem own_d7_53 : decode jdk_35_method_50_code 53 = .ok (.ladd, 1) := by decide +kernel
theorem own_d7_54 : decode jdk_35_method_50_code 54 = .ok (.lstore_n 0, 1) := by decide +kernel
theorem own_d7_55 : decode jdk_35_method_50_code 55 = .ok (.lload_n 0, 1) := by decide +kernel
theorem own_d7_56 : decode jdk_35_method_50_code 56 = .ok (.l2i, 1) := by decide +kernel
theorem own_d7_57 : decode jdk_35_method_50_code 57 = .ok (.bipush 127, 2) := by decide +kernel
theorem own_d7_59 : decode jdk_35_method_50_code 59 = .ok (.iand, 1) := by decide +kernel
theorem own_d7_60 : decode jdk_35_method_50_code 60 = .ok (.ireturn, 1) := by decide +kernel
def own_f7_55 (i0 : Int64) : Int32 := ((i0.toInt32) &&& (127 : Int32))
def own_f7_48 (i0 : Int64) : Int32 := (own_f7_55 (i0 + ((i0.toUInt64 >>> ((32 : Int32) &&& 0x3f).toInt64.toUInt64).toInt64)))
def own_f7_41 (i0 : Int64) : Int32 := (own_f7_48 (i0 + ((i0.toUInt64 >>> ((16 : Int32) &&& 0x3f).toInt64.toUInt64).toInt64)))
def own_f7_34 (i0 : Int64) : Int32 := (own_f7_41 (i0 + ((i0.toUInt64 >>> ((8 : Int32) &&& 0x3f).toInt64.toUInt64).toInt64)))
def own_f7_24 (i0 : Int64) : Int32 := (own_f7_34 ((i0 + ((i0.toUInt64 >>> ((4 : Int32) &&& 0x3f).toInt64.toUInt64).toInt64)) &&& (1085102592571150095 : Int64)))
def own_f7_10 (i0 : Int64) : Int32 := (own_f7_24 ((i0 &&& (3689348814741910323 : Int64)) + (((i0.toUInt64 >>> ((2 : Int32) &&& 0x3f).toInt64.toUInt64).toInt64) &&& (3689348814741910323 : Int64))))
def own_f7_0 (x0 : Int64) : Int32 := (own_f7_10 (x0 - (((x0.toUInt64 >>> ((1 : Int32) &&& 0x3f).toInt64.toUInt64).toInt64) &&& (6148914691236517205 : Int64))))
set_option maxRecDepth 65536 in
set_option maxHeartbeats 4000000 in
theorem own_l7_55 {p : Program} {l : Launch} {e : Env} {s : State} {m : MethodId} {args : Array Value} {below : List Frame} {meth : Method} {c : Code} {T : State} {locs : List Loc} {Z : State} {a0 : Array Value} {h0 : Heap} {n0 : Nat}
    (X : Stand p l e ({ frames := 0, cells := 0, slots := 0, locals := 0 } : Room) s m args below meth c T locs 0 0) (hx : p.tables.exec = Jvm.exec) (hZ : Z.Warmed39 s.vm) (hw : ∀ d ∈ tables_1, d.before a0 Z = true) (hby : c.code = jdk_35_method_50_code) (hml : c.maxLocals = 2) (hown : s.vm.findClass "java/lang/Long" = some m.cls) (hret : meth.sig.returnType = some .int) (hlk : meth.locks = false) (e0 : T.heap = h0) (N : Fr n0 locs) (Z0 : n0 ≤ h0.size)
    (i0 : Int64) {r : Int32} (hR : r = own_f7_55 i0) : own_Go p e below s ({ frames := 0, cells := 0, slots := 0, locals := 0 } : Room).cells ({ frames := 0, cells := 0, slots := 0, locals := 0 } : Room).slots (own_QP (.int r) h0 n0) (T.setTop (mkF m 55 #[.val (.long i0), .second] [])) := by
  unfold own_f7_55 at hR
  refine own_back (fun t k => XS.lloadN X.here hx rfl (hb hby own_d7_55) rfl k) ?_
  show own_Go _ _ _ _ _ _ _ (T.setTop (mkF m 56 #[.val (.long i0), .second] [(.long i0)]))
  refine own_back (fun t k => XS.l2i X.here hx rfl (hb hby own_d7_56) rfl k) ?_
  show own_Go _ _ _ _ _ _ _ (T.setTop (mkF m 57 #[.val (.long i0), .second] [(.int (i0.toInt32))]))
  refine own_back (fun t k => XS.bipush X.here hx rfl (hb hby own_d7_57) k) ?_
  show own_Go _ _ _ _ _ _ _ (T.setTop (mkF m 59 #[.val (.long i0), .second] [(.int (127 : Int32)), (.int (i0.toInt32))]))
  refine own_back (fun t k => XS.iand X.here hx rfl (hb hby own_d7_59) rfl k) ?_
  show own_Go _ _ _ _ _ _ _ (T.setTop (mkF m 60 #[.val (.long i0), .second] [(.int ((i0.toInt32) &&& (127 : Int32)))]))
  subst hR
  exact own_retI X hx hret (hb hby own_d7_60) hlk ⟨rfl, N, e0⟩ (by decide) (by decide)
set_option maxRecDepth 65536 in
set_option maxHeartbeats 4000000 in
theorem own_l7_48 {p : Program} {l : Launch} {e : Env} {s : State} {m : MethodId} {args : Array Value} {below : List Frame} {meth : Method} {c : Code} {T : State} {locs : List Loc} {Z : State} {a0 : Array Value} {h0 : Heap} {n0 : Nat}
    (X : Stand p l e ({ frames := 0, cells := 0, slots := 0, locals := 0 } : Room) s m args below meth c T locs 0 0) (hx : p.tables.exec = Jvm.exec) (hZ : Z.Warmed39 s.vm) (hw : ∀ d ∈ tables_1, d.before a0 Z = true) (hby : c.code = jdk_35_method_50_code) (hml : c.maxLocals = 2) (hown : s.vm.findClass "java/lang/Long" = some m.cls) (hret : meth.sig.returnType = some .int) (hlk : meth.locks = false) (e0 : T.heap = h0) (N : Fr n0 locs) (Z0 : n0 ≤ h0.size)
    (i0 : Int64) {r : Int32} (hR : r = own_f7_48 i0) : own_Go p e below s ({ frames := 0, cells := 0, slots := 0, locals := 0 } : Room).cells ({ frames := 0, cells := 0, slots := 0, locals := 0 } : Room).slots (own_QP (.int r) h0 n0) (T.setTop (mkF m 48 #[.val (.long i0), .second] [])) := by
  unfold own_f7_48 at hR
  refine own_back (fun t k => XS.lloadN X.here hx rfl (hb hby own_d7_48) rfl k) ?_
  show own_Go _ _ _ _ _ _ _ (T.setTop (mkF m 49 #[.val (.long i0), .second] [(.long i0)]))
  refine own_back (fun t k => XS.lloadN X.here hx rfl (hb hby own_d7_49) rfl k) ?_
  show own_Go _ _ _ _ _ _ _ (T.setTop (mkF m 50 #[.val (.long i0), .second] [(.long i0), (.long i0)]))
  refine own_back (fun t k => XS.bipush X.here hx rfl (hb hby own_d7_50) k) ?_
  show own_Go _ _ _ _ _ _ _ (T.setTop (mkF m 52 #[.val (.long i0), .second] [(.int (32 : Int32)), (.long i0), (.long i0)]))
  refine own_back (fun t k => XS.lushr X.here hx rfl (hb hby own_d7_52) rfl k) ?_
  show own_Go _ _ _ _ _ _ _ (T.setTop (mkF m 53 #[.val (.long i0), .second] [(.long ((i0.toUInt64 >>> ((32 : Int32) &&& 0x3f).toInt64.toUInt64).toInt64)), (.long i0)]))
  refine own_back (fun t k => XS.ladd X.here hx rfl (hb hby own_d7_53) rfl k) ?_
  show own_Go _ _ _ _ _ _ _ (T.setTop (mkF m 54 #[.val (.long i0), .second] [(.long (i0 + ((i0.toUInt64 >>> ((32 : Int32) &&& 0x3f).toInt64.toUInt64).toInt64)))]))
  refine own_back (fun t k => XS.lstoreN X.here hx rfl (hb hby own_d7_54) rfl (l' := #[.val (.long (i0 + ((i0.toUInt64 >>> ((32 : Int32) &&& 0x3f).toInt64.toUInt64).toInt64))), .second]) rfl k) ?_
  show own_Go _ _ _ _ _ _ _ (T.setTop (mkF m 55 #[.val (.long (i0 + ((i0.toUInt64 >>> ((32 : Int32) &&& 0x3f).toInt64.toUInt64).toInt64))), .second] []))
  exact own_l7_55 X hx hZ hw hby hml hown hret hlk e0 N Z0 (i0 + ((i0.toUInt64 >>> ((32 : Int32) &&& 0x3f).toInt64.toUInt64).toInt64)) hR
set_option maxRecDepth 65536 in
set_option maxHeartbeats 4000000 in
theorem own_l7_41 {p : Program} {l : Launch} {e : Env} {s : State} {m : MethodId} {args : Array Value} {below : List Frame} {meth : Method} {c : Code} {T : State} {locs : List Loc} {Z : State} {a0 : Array Value} {h0 : Heap} {n0 : Nat}
    (X : Stand p l e ({ frames := 0, cells := 0, slots := 0, locals := 0 } : Room) s m args below meth c T locs 0 0) (hx : p.tables.exec = Jvm.exec) (hZ : Z.Warmed39 s.vm) (hw : ∀ d ∈ tables_1, d.before a0 Z = true) (hby : c.code = jdk_35_method_50_code) (hml : c.maxLocals = 2) (hown : s.vm.findClass "java/lang/Long" = some m.cls) (hret : meth.sig.returnType = some .int) (hlk : meth.locks = false) (e0 : T.heap = h0) (N : Fr n0 locs) (Z0 : n0 ≤ h0.size)
    (i0 : Int64) {r : Int32} (hR : r = own_f7_41 i0) : own_Go p e below s ({ frames := 0, cells := 0, slots := 0, locals := 0 } : Room).cells ({ frames := 0, cells := 0, slots := 0, locals := 0 } : Room).slots (own_QP (.int r) h0 n0) (T.setTop (mkF m 41 #[.val (.long i0), .second] [])) := by
  unfold own_f7_41 at hR
  refine own_back (fun t k => XS.lloadN X.here hx rfl (hb hby own_d7_41) rfl k) ?_
  show own_Go _ _ _ _ _ _ _ (T.setTop (mkF m 42 #[.val (.long i0), .second] [(.long i0)]))
  refine own_back (fun t k => XS.lloadN X.here hx rfl (hb hby own_d7_42) rfl k) ?_
  show own_Go _ _ _ _ _ _ _ (T.setTop (mkF m 43 #[.val (.long i0), .second] [(.long i0), (.long i0)]))
  refine own_back (fun t k => XS.bipush X.here hx rfl (hb hby own_d7_43) k) ?_
  show own_Go _ _ _ _ _ _ _ (T.setTop (mkF m 45 #[.val (.long i0), .second] [(.int (16 : Int32)), (.long i0), (.long i0)]))
  refine own_back (fun t k => XS.lushr X.here hx rfl (hb hby own_d7_45) rfl k) ?_
  show own_Go _ _ _ _ _ _ _ (T.setTop (mkF m 46 #[.val (.long i0), .second] [(.long ((i0.toUInt64 >>> ((16 : Int32) &&& 0x3f).toInt64.toUInt64).toInt64)), (.long i0)]))
  refine own_back (fun t k => XS.ladd X.here hx rfl (hb hby own_d7_46) rfl k) ?_
  show own_Go _ _ _ _ _ _ _ (T.setTop (mkF m 47 #[.val (.long i0), .second] [(.long (i0 + ((i0.toUInt64 >>> ((16 : Int32) &&& 0x3f).toInt64.toUInt64).toInt64)))]))
  refine own_back (fun t k => XS.lstoreN X.here hx rfl (hb hby own_d7_47) rfl (l' := #[.val (.long (i0 + ((i0.toUInt64 >>> ((16 : Int32) &&& 0x3f).toInt64.toUInt64).toInt64))), .second]) rfl k) ?_
  show own_Go _ _ _ _ _ _ _ (T.setTop (mkF m 48 #[.val (.long (i0 + ((i0.toUInt64 >>> ((16 : Int32) &&& 0x3f).toInt64.toUInt64).toInt64))), .second] []))
  exact own_l7_48 X hx hZ hw hby hml hown hret hlk e0 N Z0 (i0 + ((i0.toUInt64 >>> ((16 : Int32) &&& 0x3f).toInt64.toUInt64).toInt64)) hR
set_option maxRecDepth 65536 in
set_option maxHeartbeats 4000000 in
theorem own_l7_34 {p : Program} {l : Launch} {e : Env} {s : State} {m : MethodId} {args : Array Value} {below : List Frame} {meth : Method} {c : Code} {T : State} {locs : List Loc} {Z : State} {a0 : Array Value} {h0 : Heap} {n0 : Nat}
    (X : Stand p l e ({ frames := 0, cells := 0, slots := 0, locals := 0 } : Room) s m args below meth c T locs 0 0) (hx : p.tables.exec = Jvm.exec) (hZ : Z.Warmed39 s.vm) (hw : ∀ d ∈ tables_1, d.before a0 Z = true) (hby : c.code = jdk_35_method_50_code) (hml : c.maxLocals = 2) (hown : s.vm.findClass "java/lang/Long" = some m.cls) (hret : meth.sig.returnType = some .int) (hlk : meth.locks = false) (e0 : T.heap = h0) (N : Fr n0 locs) (Z0 : n0 ≤ h0.size)
    (i0 : Int64) {r : Int32} (hR : r = own_f7_34 i0) : own_Go p e below s ({ frames := 0, cells := 0, slots := 0, locals := 0 } : Room).cells ({ frames := 0, cells := 0, slots := 0, locals := 0 } : Room).slots (own_QP (.int r) h0 n0) (T.setTop (mkF m 34 #[.val (.long i0), .second] [])) := by
  unfold own_f7_34 at hR
  refine own_back (fun t k => XS.lloadN X.here hx rfl (hb hby own_d7_34) rfl k) ?_
  show own_Go _ _ _ _ _ _ _ (T.setTop (mkF m 35 #[.val (.long i0), .second] [(.long i0)]))
  refine own_back (fun t k => XS.lloadN X.here hx rfl (hb hby own_d7_35) rfl k) ?_
  show own_Go _ _ _ _ _ _ _ (T.setTop (mkF m 36 #[.val (.long i0), .second] [(.long i0), (.long i0)]))
  refine own_back (fun t k => XS.bipush X.here hx rfl (hb hby own_d7_36) k) ?_
  show own_Go _ _ _ _ _ _ _ (T.setTop (mkF m 38 #[.val (.long i0), .second] [(.int (8 : Int32)), (.long i0), (.long i0)]))
  refine own_back (fun t k => XS.lushr X.here hx rfl (hb hby own_d7_38) rfl k) ?_
  show own_Go _ _ _ _ _ _ _ (T.setTop (mkF m 39 #[.val (.long i0), .second] [(.long ((i0.toUInt64 >>> ((8 : Int32) &&& 0x3f).toInt64.toUInt64).toInt64)), (.long i0)]))
  refine own_back (fun t k => XS.ladd X.here hx rfl (hb hby own_d7_39) rfl k) ?_
  show own_Go _ _ _ _ _ _ _ (T.setTop (mkF m 40 #[.val (.long i0), .second] [(.long (i0 + ((i0.toUInt64 >>> ((8 : Int32) &&& 0x3f).toInt64.toUInt64).toInt64)))]))
  refine own_back (fun t k => XS.lstoreN X.here hx rfl (hb hby own_d7_40) rfl (l' := #[.val (.long (i0 + ((i0.toUInt64 >>> ((8 : Int32) &&& 0x3f).toInt64.toUInt64).toInt64))), .second]) rfl k) ?_
  show own_Go _ _ _ _ _ _ _ (T.setTop (mkF m 41 #[.val (.long (i0 + ((i0.toUInt64 >>> ((8 : Int32) &&& 0x3f).toInt64.toUInt64).toInt64))), .second] []))
  exact own_l7_41 X hx hZ hw hby hml hown hret hlk e0 N Z0 (i0 + ((i0.toUInt64 >>> ((8 : Int32) &&& 0x3f).toInt64.toUInt64).toInt64)) hR
set_option maxRecDepth 65536 in
set_option maxHeartbeats 4000000 in
theorem own_l7_24 {p : Program} {l : Launch} {e : Env} {s : State} {m : MethodId} {args : Array Value} {below : List Frame} {meth : Method} {c : Code} {T : State} {locs : List Loc} {Z : State} {a0 : Array Value} {h0 : Heap} {n0 : Nat}
    (X : Stand p l e ({ frames := 0, cells := 0, slots := 0, locals := 0 } : Room) s m args below meth c T locs 0 0) (hx : p.tables.exec = Jvm.exec) (hZ : Z.Warmed39 s.vm) (hw : ∀ d ∈ tables_1, d.before a0 Z = true) (hby : c.code = jdk_35_method_50_code) (hml : c.maxLocals = 2) (hown : s.vm.findClass "java/lang/Long" = some m.cls) (hret : meth.sig.returnType = some .int) (hlk : meth.locks = false) (e0 : T.heap = h0) (N : Fr n0 locs) (Z0 : n0 ≤ h0.size)
    (i0 : Int64) {r : Int32} (hR : r = own_f7_24 i0) : own_Go p e below s ({ frames := 0, cells := 0, slots := 0, locals := 0 } : Room).cells ({ frames := 0, cells := 0, slots := 0, locals := 0 } : Room).slots (own_QP (.int r) h0 n0) (T.setTop (mkF m 24 #[.val (.long i0), .second] [])) := by
  unfold own_f7_24 at hR
  refine own_back (fun t k => XS.lloadN X.here hx rfl (hb hby own_d7_24) rfl k) ?_
  show own_Go _ _ _ _ _ _ _ (T.setTop (mkF m 25 #[.val (.long i0), .second] [(.long i0)]))
  refine own_back (fun t k => XS.lloadN X.here hx rfl (hb hby own_d7_25) rfl k) ?_
  show own_Go _ _ _ _ _ _ _ (T.setTop (mkF m 26 #[.val (.long i0), .second] [(.long i0), (.long i0)]))
  refine own_back (fun t k => XS.iconst X.here hx rfl (hb hby own_d7_26) k) ?_
  show own_Go _ _ _ _ _ _ _ (T.setTop (mkF m 27 #[.val (.long i0), .second] [(.int (4 : Int32)), (.long i0), (.long i0)]))
  refine own_back (fun t k => XS.lushr X.here hx rfl (hb hby own_d7_27) rfl k) ?_
  show own_Go _ _ _ _ _ _ _ (T.setTop (mkF m 28 #[.val (.long i0), .second] [(.long ((i0.toUInt64 >>> ((4 : Int32) &&& 0x3f).toInt64.toUInt64).toInt64)), (.long i0)]))
  refine own_back (fun t k => XS.ladd X.here hx rfl (hb hby own_d7_28) rfl k) ?_
  show own_Go _ _ _ _ _ _ _ (T.setTop (mkF m 29 #[.val (.long i0), .second] [(.long (i0 + ((i0.toUInt64 >>> ((4 : Int32) &&& 0x3f).toInt64.toUInt64).toInt64)))]))
  refine own_back (fun t k => X.ldc2Long hx hown (mvT hZ (hw _ (List.mem_of_getElem? (i := 42) rfl))) (g := (mkF m 29 #[.val (.long i0), .second] [(.long (i0 + ((i0.toUInt64 >>> ((4 : Int32) &&& 0x3f).toInt64.toUInt64).toInt64)))])) rfl (hb hby own_d7_29) _ k) ?_
  show own_Go _ _ _ _ _ _ _ (T.setTop (mkF m 32 #[.val (.long i0), .second] [(.long (1085102592571150095 : Int64)), (.long (i0 + ((i0.toUInt64 >>> ((4 : Int32) &&& 0x3f).toInt64.toUInt64).toInt64)))]))
  refine own_back (fun t k => XS.land X.here hx rfl (hb hby own_d7_32) rfl k) ?_
  show own_Go _ _ _ _ _ _ _ (T.setTop (mkF m 33 #[.val (.long i0), .second] [(.long ((i0 + ((i0.toUInt64 >>> ((4 : Int32) &&& 0x3f).toInt64.toUInt64).toInt64)) &&& (1085102592571150095 : Int64)))]))
  refine own_back (fun t k => XS.lstoreN X.here hx rfl (hb hby own_d7_33) rfl (l' := #[.val (.long ((i0 + ((i0.toUInt64 >>> ((4 : Int32) &&& 0x3f).toInt64.toUInt64).toInt64)) &&& (1085102592571150095 : Int64))), .second]) rfl k) ?_
  show own_Go _ _ _ _ _ _ _ (T.setTop (mkF m 34 #[.val (.long ((i0 + ((i0.toUInt64 >>> ((4 : Int32) &&& 0x3f).toInt64.toUInt64).toInt64)) &&& (1085102592571150095 : Int64))), .second] []))
  exact own_l7_34 X hx hZ hw hby hml hown hret hlk e0 N Z0 ((i0 + ((i0.toUInt64 >>> ((4 : Int32) &&& 0x3f).toInt64.toUInt64).toInt64)) &&& (1085102592571150095 : Int64)) hR
set_option maxRecDepth 65536 in
set_option maxHeartbeats 4000000 in
theorem own_l7_10 {p : Program} {l : Launch} {e : Env} {s : State} {m : MethodId} {args : Array Value} {below : List Frame} {meth : Method} {c : Code} {T : State} {locs : List Loc} {Z : State} {a0 : Array Value} {h0 : Heap} {n0 : Nat}
    (X : Stand p l e ({ frames := 0, cells := 0, slots := 0, locals := 0 } : Room) s m args below meth c T locs 0 0) (hx : p.tables.exec = Jvm.exec) (hZ : Z.Warmed39 s.vm) (hw : ∀ d ∈ tables_1, d.before a0 Z = true) (hby : c.code = jdk_35_method_50_code) (hml : c.maxLocals = 2) (hown : s.vm.findClass "java/lang/Long" = some m.cls) (hret : meth.sig.returnType = some .int) (hlk : meth.locks = false) (e0 : T.heap = h0) (N : Fr n0 locs) (Z0 : n0 ≤ h0.size)
    (i0 : Int64) {r : Int32} (hR : r = own_f7_10 i0) : own_Go p e below s ({ frames := 0, cells := 0, slots := 0, locals := 0 } : Room).cells ({ frames := 0, cells := 0, slots := 0, locals := 0 } : Room).slots (own_QP (.int r) h0 n0) (T.setTop (mkF m 10 #[.val (.long i0), .second] [])) := by
  unfold own_f7_10 at hR
  refine own_back (fun t k => XS.lloadN X.here hx rfl (hb hby own_d7_10) rfl k) ?_
  show own_Go _ _ _ _ _ _ _ (T.setTop (mkF m 11 #[.val (.long i0), .second] [(.long i0)]))
  refine own_back (fun t k => X.ldc2Long hx hown (mvT hZ (hw _ (List.mem_of_getElem? (i := 41) rfl))) (g := (mkF m 11 #[.val (.long i0), .second] [(.long i0)])) rfl (hb hby own_d7_11) _ k) ?_
  show own_Go _ _ _ _ _ _ _ (T.setTop (mkF m 14 #[.val (.long i0), .second] [(.long (3689348814741910323 : Int64)), (.long i0)]))
  refine own_back (fun t k => XS.land X.here hx rfl (hb hby own_d7_14) rfl k) ?_
  show own_Go _ _ _ _ _ _ _ (T.setTop (mkF m 15 #[.val (.long i0), .second] [(.long (i0 &&& (3689348814741910323 : Int64)))]))
  refine own_back (fun t k => XS.lloadN X.here hx rfl (hb hby own_d7_15) rfl k) ?_
  show own_Go _ _ _ _ _ _ _ (T.setTop (mkF m 16 #[.val (.long i0), .second] [(.long i0), (.long (i0 &&& (3689348814741910323 : Int64)))]))
  refine own_back (fun t k => XS.iconst X.here hx rfl (hb hby own_d7_16) k) ?_
  show own_Go _ _ _ _ _ _ _ (T.setTop (mkF m 17 #[.val (.long i0), .second] [(.int (2 : Int32)), (.long i0), (.long (i0 &&& (3689348814741910323 : Int64)))]))
  refine own_back (fun t k => XS.lushr X.here hx rfl (hb hby own_d7_17) rfl k) ?_
  show own_Go _ _ _ _ _ _ _ (T.setTop (mkF m 18 #[.val (.long i0), .second] [(.long ((i0.toUInt64 >>> ((2 : Int32) &&& 0x3f).toInt64.toUInt64).toInt64)), (.long (i0 &&& (3689348814741910323 : Int64)))]))
  refine own_back (fun t k => X.ldc2Long hx hown (mvT hZ (hw _ (List.mem_of_getElem? (i := 41) rfl))) (g := (mkF m 18 #[.val (.long i0), .second] [(.long ((i0.toUInt64 >>> ((2 : Int32) &&& 0x3f).toInt64.toUInt64).toInt64)), (.long (i0 &&& (3689348814741910323 : Int64)))])) rfl (hb hby own_d7_18) _ k) ?_
  show own_Go _ _ _ _ _ _ _ (T.setTop (mkF m 21 #[.val (.long i0), .second] [(.long (3689348814741910323 : Int64)), (.long ((i0.toUInt64 >>> ((2 : Int32) &&& 0x3f).toInt64.toUInt64).toInt64)), (.long (i0 &&& (3689348814741910323 : Int64)))]))
  refine own_back (fun t k => XS.land X.here hx rfl (hb hby own_d7_21) rfl k) ?_
  show own_Go _ _ _ _ _ _ _ (T.setTop (mkF m 22 #[.val (.long i0), .second] [(.long (((i0.toUInt64 >>> ((2 : Int32) &&& 0x3f).toInt64.toUInt64).toInt64) &&& (3689348814741910323 : Int64))), (.long (i0 &&& (3689348814741910323 : Int64)))]))
  refine own_back (fun t k => XS.ladd X.here hx rfl (hb hby own_d7_22) rfl k) ?_
  show own_Go _ _ _ _ _ _ _ (T.setTop (mkF m 23 #[.val (.long i0), .second] [(.long ((i0 &&& (3689348814741910323 : Int64)) + (((i0.toUInt64 >>> ((2 : Int32) &&& 0x3f).toInt64.toUInt64).toInt64) &&& (3689348814741910323 : Int64))))]))
  refine own_back (fun t k => XS.lstoreN X.here hx rfl (hb hby own_d7_23) rfl (l' := #[.val (.long ((i0 &&& (3689348814741910323 : Int64)) + (((i0.toUInt64 >>> ((2 : Int32) &&& 0x3f).toInt64.toUInt64).toInt64) &&& (3689348814741910323 : Int64)))), .second]) rfl k) ?_
  show own_Go _ _ _ _ _ _ _ (T.setTop (mkF m 24 #[.val (.long ((i0 &&& (3689348814741910323 : Int64)) + (((i0.toUInt64 >>> ((2 : Int32) &&& 0x3f).toInt64.toUInt64).toInt64) &&& (3689348814741910323 : Int64)))), .second] []))
  exact own_l7_24 X hx hZ hw hby hml hown hret hlk e0 N Z0 ((i0 &&& (3689348814741910323 : Int64)) + (((i0.toUInt64 >>> ((2 : Int32) &&& 0x3f).toInt64.toUInt64).toInt64) &&& (3689348814741910323 : Int64))) hR
set_option maxRecDepth 65536 in
set_option maxHeartbeats 4000000 in
theorem own_l7_0 {p : Program} {l : Launch} {e : Env} {s : State} {m : MethodId} {args : Array Value} {below : List Frame} {meth : Method} {c : Code} {T : State} {locs : List Loc} {Z : State} {a0 : Array Value} {h0 : Heap} {n0 : Nat}
    (X : Stand p l e ({ frames := 0, cells := 0, slots := 0, locals := 0 } : Room) s m args below meth c T locs 0 0) (hx : p.tables.exec = Jvm.exec) (hZ : Z.Warmed39 s.vm) (hw : ∀ d ∈ tables_1, d.before a0 Z = true) (hby : c.code = jdk_35_method_50_code) (hml : c.maxLocals = 2) (hown : s.vm.findClass "java/lang/Long" = some m.cls) (hret : meth.sig.returnType = some .int) (hlk : meth.locks = false) (e0 : T.heap = h0) (N : Fr n0 locs) (Z0 : n0 ≤ h0.size)
    (x0 : Int64) {r : Int32} (hR : r = own_f7_0 x0) : own_Go p e below s ({ frames := 0, cells := 0, slots := 0, locals := 0 } : Room).cells ({ frames := 0, cells := 0, slots := 0, locals := 0 } : Room).slots (own_QP (.int r) h0 n0) (T.setTop (mkF m 0 #[.val (.long x0), .second] [])) := by
  unfold own_f7_0 at hR
  refine own_back (fun t k => XS.lloadN X.here hx rfl (hb hby own_d7_0) rfl k) ?_
  show own_Go _ _ _ _ _ _ _ (T.setTop (mkF m 1 #[.val (.long x0), .second] [(.long x0)]))
  refine own_back (fun t k => XS.lloadN X.here hx rfl (hb hby own_d7_1) rfl k) ?_
  show own_Go _ _ _ _ _ _ _ (T.setTop (mkF m 2 #[.val (.long x0), .second] [(.long x0), (.long x0)]))
  refine own_back (fun t k => XS.iconst X.here hx rfl (hb hby own_d7_2) k) ?_
  show own_Go _ _ _ _ _ _ _ (T.setTop (mkF m 3 #[.val (.long x0), .second] [(.int (1 : Int32)), (.long x0), (.long x0)]))
  refine own_back (fun t k => XS.lushr X.here hx rfl (hb hby own_d7_3) rfl k) ?_
  show own_Go _ _ _ _ _ _ _ (T.setTop (mkF m 4 #[.val (.long x0), .second] [(.long ((x0.toUInt64 >>> ((1 : Int32) &&& 0x3f).toInt64.toUInt64).toInt64)), (.long x0)]))
  refine own_back (fun t k => X.ldc2Long hx hown (mvT hZ (hw _ (List.mem_of_getElem? (i := 40) rfl))) (g := (mkF m 4 #[.val (.long x0), .second] [(.long ((x0.toUInt64 >>> ((1 : Int32) &&& 0x3f).toInt64.toUInt64).toInt64)), (.long x0)])) rfl (hb hby own_d7_4) _ k) ?_
  show own_Go _ _ _ _ _ _ _ (T.setTop (mkF m 7 #[.val (.long x0), .second] [(.long (6148914691236517205 : Int64)), (.long ((x0.toUInt64 >>> ((1 : Int32) &&& 0x3f).toInt64.toUInt64).toInt64)), (.long x0)]))
  refine own_back (fun t k => XS.land X.here hx rfl (hb hby own_d7_7) rfl k) ?_
  show own_Go _ _ _ _ _ _ _ (T.setTop (mkF m 8 #[.val (.long x0), .second] [(.long (((x0.toUInt64 >>> ((1 : Int32) &&& 0x3f).toInt64.toUInt64).toInt64) &&& (6148914691236517205 : Int64))), (.long x0)]))
  refine own_back (fun t k => XS.lsub X.here hx rfl (hb hby own_d7_8) rfl k) ?_
  show own_Go _ _ _ _ _ _ _ (T.setTop (mkF m 9 #[.val (.long x0), .second] [(.long (x0 - (((x0.toUInt64 >>> ((1 : Int32) &&& 0x3f).toInt64.toUInt64).toInt64) &&& (6148914691236517205 : Int64))))]))
  refine own_back (fun t k => XS.lstoreN X.here hx rfl (hb hby own_d7_9) rfl (l' := #[.val (.long (x0 - (((x0.toUInt64 >>> ((1 : Int32) &&& 0x3f).toInt64.toUInt64).toInt64) &&& (6148914691236517205 : Int64)))), .second]) rfl k) ?_
  show own_Go _ _ _ _ _ _ _ (T.setTop (mkF m 10 #[.val (.long (x0 - (((x0.toUInt64 >>> ((1 : Int32) &&& 0x3f).toInt64.toUInt64).toInt64) &&& (6148914691236517205 : Int64)))), .second] []))
  exact own_l7_10 X hx hZ hw hby hml hown hret hlk e0 N Z0 (x0 - (((x0.toUInt64 >>> ((1 : Int32) &&& 0x3f).toInt64.toUInt64).toInt64) &&& (6148914691236517205 : Int64))) hR
theorem own_pn7 : plainName "java/lang/Long" = true := by first | (simp [plainName, overriddenIn]; done) | decide +kernel
theorem own_ef7 (m : MethodId) (x0 : Int64) : entryFrame m #[(.long x0)] 2 = mkF m 0 #[.val (.long x0), .second] [] := by first | (simp [entryFrame, mkF, argsToLocals, Value.category]; done) | rfl
set_option maxRecDepth 65536 in
set_option maxHeartbeats 4000000 in
theorem own_rm7 (l : Launch) (Z : State) (a0 : Array Value) (hw : ∀ d ∈ tables_1, d.before a0 Z = true) (ws : List Jvm.Cond) (x0 : Int64) (h0 : Heap) (n0 : Nat) (Z0 : n0 ≤ h0.size) :
    MetFree l (⟨"java/lang/Long", "bitCount", "(J)I"⟩ : MethodName) (head1 (Jvm.Cond.code (⟨"java/lang/Long", "bitCount", "(J)I"⟩ : MethodName) jdk_35_method_50_code 2 (some .int) :: ws) ({ frames := 0, cells := 0, slots := 0, locals := 0 } : Room)) (fun a U => a = #[(.long x0)] ∧ Z.Warmed39 U.vm ∧ U.heap = h0) (fun _ _ _ _ _ => True) (fun _ U o U' => ∃ v L, o = .returned v ∧ own_QP (.int (own_f7_0 x0)) h0 n0 v U'.heap L ∧ FrameEnd U o U' L ({ frames := 0, cells := 0, slots := 0, locals := 0 } : Room).cells ({ frames := 0, cells := 0, slots := 0, locals := 0 } : Room).slots) := by
  refine MetFree.of_bodySF (plainFor_of_name own_pn7) hisR ?_
  intro p e s m args below meth c s₁ Bd hml0 hP hK
  obtain ⟨rfl, hZ, hh⟩ := hP
  have X0 : Stand p l e ({ frames := 0, cells := 0, slots := 0, locals := 0 } : Room) s m #[(.long x0)] below meth c s₁ [] 0 0 := Stand.of_body Bd
  have e0 : s₁.heap = h0 := by rw [← hh, Bd.state]; rfl
  refine own_back (s := s) (fun t k => castTop (own_ef7 m x0) k) ?_
  exact own_l7_0 X0 Bd.exec hZ hw Bd.bytes hml0 (findClass_of_methodNamed Bd.named) Bd.returns (BodyLoose.notSynchronized Bd) e0 (Fr.nil n0) Z0 x0 rfl
/-- the number without its lowest bit; the sum on the way down -/
def own_prv (d : Nat) : Nat := ((Int32.ofNat d) &&& (Int32.ofNat d - (1 : Int32))).toInt.toNat
theorem own_prv_ok {d : Nat} (h1 : 1 ≤ d) (h2 : d ≤ 16) : own_prv d < d ∧ (Int32.ofNat d) &&& (Int32.ofNat d - (1 : Int32)) = Int32.ofNat (own_prv d) :=
  (by decide +kernel : ∀ d : Fin 17, 1 ≤ d.val → own_prv d.val < d.val ∧ (Int32.ofNat d.val) &&& (Int32.ofNat d.val - (1 : Int32)) = Int32.ofNat (own_prv d.val)) ⟨d, by omega⟩ h1
def own_dn (W : Nat → Int32) : Nat → Nat → Int32 → Int32
  | 0, _, acc => acc
  | k + 1, d, acc => if d = 0 then acc else own_dn W k (own_prv d) (acc + W d)
theorem own_ixq {x : Int32} {N : Nat} (h : ¬ x < 0) (hc : (x >>> ((6 : Int32) &&& 31)) < Int32.ofNat N) (hM : N ≤ 16) : ¬ (x >>> ((6 : Int32) &&& 31)) < 0 ∧ (x >>> ((6 : Int32) &&& 31)).toNatClampNeg < N := by
  have hb := own_hb x
  rw [own_sh6 h] at hc ⊢
  have q := own_lt.mp hc
  rw [Int32.toInt_ofNat_of_lt (by omega), Int32.toInt_ofNat_of_lt (by omega)] at q
  exact own_in (by omega) (by omega)
theorem own_e8_37 : decode prog_112_method_5_code 37 = .ok (.iload 4, 2) := by decide +kernel
theorem own_e8_39 : decode prog_112_method_5_code 39 = .ok (.ifCond .le 25, 3) := by decide +kernel
theorem own_e8_42 : decode prog_112_method_5_code 42 = .ok (.iload_n 3, 1) := by decide +kernel
theorem own_e8_43 : decode prog_112_method_5_code 43 = .ok (.aload_n 0, 1) := by decide +kernel
theorem own_e8_44 : decode prog_112_method_5_code 44 = .ok (.getfield 13, 3) := by decide +kernel
theorem own_e8_47 : decode prog_112_method_5_code 47 = .ok (.iload 4, 2) := by decide +kernel
theorem own_e8_49 : decode prog_112_method_5_code 49 = .ok (.iaload, 1) := by decide +kernel
theorem own_e8_50 : decode prog_112_method_5_code 50 = .ok (.iadd, 1) := by decide +kernel
theorem own_e8_51 : decode prog_112_method_5_code 51 = .ok (.istore_n 3, 1) := by decide +kernel
theorem own_e8_52 : decode prog_112_method_5_code 52 = .ok (.iload 4, 2) := by decide +kernel
theorem own_e8_54 : decode prog_112_method_5_code 54 = .ok (.iload 4, 2) := by decide +kernel
theorem own_e8_56 : decode prog_112_method_5_code 56 = .ok (.iconst 1, 1) := by decide +kernel
theorem own_e8_57 : decode prog_112_method_5_code 57 = .ok (.isub, 1) := by decide +kernel
theorem own_e8_58 : decode prog_112_method_5_code 58 = .ok (.iand, 1) := by decide +kernel
theorem own_e8_59 : decode prog_112_method_5_code 59 = .ok (.istore 4, 2) := by decide +kernel
theorem own_e8_61 : decode prog_112_method_5_code 61 = .ok (.goto (-24), 3) := by decide +kernel
theorem own_e8_64 : decode prog_112_method_5_code 64 = .ok (.iload_n 3, 1) := by decide +kernel
theorem own_e8_65 : decode prog_112_method_5_code 65 = .ok (.ireturn, 1) := by decide +kernel
set_option maxRecDepth 65536 in
set_option maxHeartbeats 4000000 in
theorem own_l8_37 {p : Program} {l : Launch} {e : Env} {s : State} {m : MethodId} {args : Array Value} {below : List Frame} {meth : Method} {c : Code} {Z : State} {a0 : Array Value} {h0 : Heap} {n0 : Nat} (hx : p.tables.exec = Jvm.exec) (hZ : Z.Warmed39 s.vm) (hw : ∀ d ∈ tables_1, d.before a0 Z = true) (hby : c.code = prog_112_method_5_code) (hown : s.vm.findClass "com/example/furl/furl/tree/PositionCounts" = some m.cls) (hret : meth.sig.returnType = some .int) (hlk : meth.locks = false) (x0 aB aW : Addr) (x1 i2 : Int32) (NN : Nat) (hM : NN ≤ 16) (B : Nat → Int64) (W : Nat → Int32) (HP : own_PC Z h0 n0 x0 aB aW NN B W) (k : Nat) :
    ∀ (d : Nat) (acc : Int32) (T : State) (locs : List Loc), d ≤ NN → d ≤ k → Stand p l e ({ frames := 1, cells := 0, slots := 0, locals := 13 } : Room) s m args below meth c T locs 0 0 → T.heap = h0 → Fr n0 locs → own_Go p e below s ({ frames := 1, cells := 0, slots := 0, locals := 13 } : Room).cells ({ frames := 1, cells := 0, slots := 0, locals := 13 } : Room).slots (own_QP (.int (own_dn W k d acc)) h0 n0) (T.setTop (mkF m 37 #[.val (.ref x0), .val (.int x1), .val (.int i2), .val (.int acc), .val (.int (Int32.ofNat d))] [])) := by
  induction k with
  | zero =>
    intro d acc T locs hd hk X e0 N
    obtain rfl : d = 0 := by omega
    have hc : ¬ ((0 : Int32) < Int32.ofNat 0) := by decide
    refine own_back (fun t k => XS.iload X.here hx rfl (hb hby own_e8_37) rfl k) ?_
    show own_Go _ _ _ _ _ _ _ (T.setTop (mkF m 39 #[.val (.ref x0), .val (.int x1), .val (.int i2), .val (.int acc), .val (.int (Int32.ofNat 0))] [(.int (Int32.ofNat 0))]))
    refine own_back (fun t k => XS.ifYes X.here hx rfl (pc0 := 39) (pc' := 64) rfl (hb hby own_e8_39) rfl ((if0 _ _).trans (flt hc).2.2.2) (by decide) (by decide) k) ?_
    show own_Go _ _ _ _ _ _ _ (T.setTop (mkF m 64 #[.val (.ref x0), .val (.int x1), .val (.int i2), .val (.int acc), .val (.int (Int32.ofNat 0))] []))
    refine own_back (fun t k => XS.iloadN X.here hx rfl (hb hby own_e8_64) rfl k) ?_
    show own_Go _ _ _ _ _ _ _ (T.setTop (mkF m 65 #[.val (.ref x0), .val (.int x1), .val (.int i2), .val (.int acc), .val (.int (Int32.ofNat 0))] [(.int acc)]))
    exact own_retI X hx hret (hb hby own_e8_65) hlk ⟨rfl, N, e0⟩ (by decide) (by decide)
  | succ k ih =>
    intro d acc T locs hd hk X e0 N
    by_cases q : d = 0
    · subst q
      have hc : ¬ ((0 : Int32) < Int32.ofNat 0) := by decide
      refine own_back (fun t k => XS.iload X.here hx rfl (hb hby own_e8_37) rfl k) ?_
      show own_Go _ _ _ _ _ _ _ (T.setTop (mkF m 39 #[.val (.ref x0), .val (.int x1), .val (.int i2), .val (.int acc), .val (.int (Int32.ofNat 0))] [(.int (Int32.ofNat 0))]))
      refine own_back (fun t k => XS.ifYes X.here hx rfl (pc0 := 39) (pc' := 64) rfl (hb hby own_e8_39) rfl ((if0 _ _).trans (flt hc).2.2.2) (by decide) (by decide) k) ?_
      show own_Go _ _ _ _ _ _ _ (T.setTop (mkF m 64 #[.val (.ref x0), .val (.int x1), .val (.int i2), .val (.int acc), .val (.int (Int32.ofNat 0))] []))
      refine own_back (fun t k => XS.iloadN X.here hx rfl (hb hby own_e8_64) rfl k) ?_
      show own_Go _ _ _ _ _ _ _ (T.setTop (mkF m 65 #[.val (.ref x0), .val (.int x1), .val (.int i2), .val (.int acc), .val (.int (Int32.ofNat 0))] [(.int acc)]))
      exact own_retI X hx hret (hb hby own_e8_65) hlk ⟨rfl, N, e0⟩ (by decide) (by decide)
    · have hc : (0 : Int32) < Int32.ofNat d := own_lt.mpr (by rw [Int32.toInt_ofNat_of_lt (by omega), show (0 : Int32).toInt = 0 from rfl]; omega)
      have pv := own_prv_ok (d := d) (by omega) (by omega)
      have G : own_dn W (k + 1) d acc = own_dn W k (own_prv d) (acc + W d) := by show (if d = 0 then acc else _) = _; rw [if_neg q]
      rw [G]
      refine own_back (fun t k => XS.iload X.here hx rfl (hb hby own_e8_37) rfl k) ?_
      show own_Go _ _ _ _ _ _ _ (T.setTop (mkF m 39 #[.val (.ref x0), .val (.int x1), .val (.int i2), .val (.int acc), .val (.int (Int32.ofNat d))] [(.int (Int32.ofNat d))]))
      refine own_back (fun t k => XS.ifNo X.here hx rfl (hb hby own_e8_39) rfl ((if0 _ _).trans (tlt hc).2.2.2) k) ?_
      show own_Go _ _ _ _ _ _ _ (T.setTop (mkF m 42 #[.val (.ref x0), .val (.int x1), .val (.int i2), .val (.int acc), .val (.int (Int32.ofNat d))] []))
      refine own_back (fun t k => XS.iloadN X.here hx rfl (hb hby own_e8_42) rfl k) ?_
      show own_Go _ _ _ _ _ _ _ (T.setTop (mkF m 43 #[.val (.ref x0), .val (.int x1), .val (.int i2), .val (.int acc), .val (.int (Int32.ofNat d))] [(.int acc)]))
      refine own_back (fun t k => XS.aloadN X.here hx rfl (hb hby own_e8_43) rfl rfl k) ?_
      show own_Go _ _ _ _ _ _ _ (T.setTop (mkF m 44 #[.val (.ref x0), .val (.int x1), .val (.int i2), .val (.int acc), .val (.int (Int32.ofNat d))] [(.ref x0), (.int acc)]))
      obtain ⟨T1, X1, e1, st1⟩ := getF X hx hZ hown (host := "") (Or.inl (hw _ (List.mem_of_getElem? (i := 14) rfl))) Via.refl e0 HP.2.2.1 (g := (mkF m 44 #[.val (.ref x0), .val (.int x1), .val (.int i2), .val (.int acc), .val (.int (Int32.ofNat d))] [(.ref x0), (.int acc)])) rfl rfl (hb hby own_e8_44)
      refine own_back (fun t k => st1 t k) ?_
      show own_Go _ _ _ _ _ _ _ (T1.setTop (mkF m 47 #[.val (.ref x0), .val (.int x1), .val (.int i2), .val (.int acc), .val (.int (Int32.ofNat d))] [(.ref aW), (.int acc)]))
      refine own_back (fun t k => XS.iload X1.here hx rfl (hb hby own_e8_47) rfl k) ?_
      show own_Go _ _ _ _ _ _ _ (T1.setTop (mkF m 49 #[.val (.ref x0), .val (.int x1), .val (.int i2), .val (.int acc), .val (.int (Int32.ofNat d))] [(.int (Int32.ofNat d)), (.ref aW), (.int acc)]))
      refine own_back (fun t k => own_ldI X1 hx hZ e1 HP.2.2.2.2.1 (j := Int32.ofNat d) (w := W d) (own_in (by omega) (by omega)) (by rw [(own_clamp (by omega)).2]) (g := (mkF m 49 #[.val (.ref x0), .val (.int x1), .val (.int i2), .val (.int acc), .val (.int (Int32.ofNat d))] [(.int (Int32.ofNat d)), (.ref aW), (.int acc)])) rfl rfl (hb hby own_e8_49) t k) ?_
      show own_Go _ _ _ _ _ _ _ (T1.setTop (mkF m 50 #[.val (.ref x0), .val (.int x1), .val (.int i2), .val (.int acc), .val (.int (Int32.ofNat d))] [(.int (W d)), (.int acc)]))
      refine own_back (fun t k => XS.iadd X1.here hx rfl (hb hby own_e8_50) rfl k) ?_
      show own_Go _ _ _ _ _ _ _ (T1.setTop (mkF m 51 #[.val (.ref x0), .val (.int x1), .val (.int i2), .val (.int acc), .val (.int (Int32.ofNat d))] [(.int (acc + W d))]))
      refine own_back (fun t k => XS.istoreN X1.here hx rfl (hb hby own_e8_51) rfl (l' := #[.val (.ref x0), .val (.int x1), .val (.int i2), .val (.int (acc + W d)), .val (.int (Int32.ofNat d))]) rfl k) ?_
      show own_Go _ _ _ _ _ _ _ (T1.setTop (mkF m 52 #[.val (.ref x0), .val (.int x1), .val (.int i2), .val (.int (acc + W d)), .val (.int (Int32.ofNat d))] []))
      refine own_back (fun t k => XS.iload X1.here hx rfl (hb hby own_e8_52) rfl k) ?_
      show own_Go _ _ _ _ _ _ _ (T1.setTop (mkF m 54 #[.val (.ref x0), .val (.int x1), .val (.int i2), .val (.int (acc + W d)), .val (.int (Int32.ofNat d))] [(.int (Int32.ofNat d))]))
      refine own_back (fun t k => XS.iload X1.here hx rfl (hb hby own_e8_54) rfl k) ?_
      show own_Go _ _ _ _ _ _ _ (T1.setTop (mkF m 56 #[.val (.ref x0), .val (.int x1), .val (.int i2), .val (.int (acc + W d)), .val (.int (Int32.ofNat d))] [(.int (Int32.ofNat d)), (.int (Int32.ofNat d))]))
      refine own_back (fun t k => XS.iconst X1.here hx rfl (hb hby own_e8_56) k) ?_
      show own_Go _ _ _ _ _ _ _ (T1.setTop (mkF m 57 #[.val (.ref x0), .val (.int x1), .val (.int i2), .val (.int (acc + W d)), .val (.int (Int32.ofNat d))] [(.int (1 : Int32)), (.int (Int32.ofNat d)), (.int (Int32.ofNat d))]))
      refine own_back (fun t k => XS.isub X1.here hx rfl (hb hby own_e8_57) rfl k) ?_
      show own_Go _ _ _ _ _ _ _ (T1.setTop (mkF m 58 #[.val (.ref x0), .val (.int x1), .val (.int i2), .val (.int (acc + W d)), .val (.int (Int32.ofNat d))] [(.int (Int32.ofNat d - (1 : Int32))), (.int (Int32.ofNat d))]))
      refine own_back (fun t k => XS.iand X1.here hx rfl (hb hby own_e8_58) rfl k) ?_
      show own_Go _ _ _ _ _ _ _ (T1.setTop (mkF m 59 #[.val (.ref x0), .val (.int x1), .val (.int i2), .val (.int (acc + W d)), .val (.int (Int32.ofNat d))] [(.int ((Int32.ofNat d) &&& (Int32.ofNat d - (1 : Int32))))]))
      rw [pv.2]
      refine own_back (fun t k => XS.istore X1.here hx rfl (hb hby own_e8_59) rfl (l' := #[.val (.ref x0), .val (.int x1), .val (.int i2), .val (.int (acc + W d)), .val (.int (Int32.ofNat (own_prv d)))]) rfl k) ?_
      show own_Go _ _ _ _ _ _ _ (T1.setTop (mkF m 61 #[.val (.ref x0), .val (.int x1), .val (.int i2), .val (.int (acc + W d)), .val (.int (Int32.ofNat (own_prv d)))] []))
      refine own_back (fun t k => XS.goto X1.here hx rfl (pc0 := 61) (pc' := 37) rfl (hb hby own_e8_61) (by decide) (by decide) k) ?_
      show own_Go _ _ _ _ _ _ _ (T1.setTop (mkF m 37 #[.val (.ref x0), .val (.int x1), .val (.int i2), .val (.int (acc + W d)), .val (.int (Int32.ofNat (own_prv d)))] []))
      exact ih (own_prv d) (acc + W d) T1 locs (by omega) (by omega) X1 e1 N
theorem own_pd0 : parseMethodDescriptor "(J)I" = some ⟨[.long], some .int⟩ := by decide +kernel
/-! body 8: com/example/furl/furl/tree/PositionCounts.before:(I)I -/
theorem own_d8_0 : decode prog_112_method_5_code 0 = .ok (.iload_n 1, 1) := by decide +kernel
theorem own_d8_1 : decode prog_112_method_5_code 1 = .ok (.bipush 6, 2) := by decide +kernel
theorem own_d8_3 : decode prog_112_method_5_code 3 = .ok (.ishr, 1) := by decide +kernel
theorem own_d8_4 : decode prog_112_method_5_code 4 = .ok (.istore_n 2, 1) := by decide +kernel
theorem own_d8_5 : decode prog_112_method_5_code 5 = .ok (.iload_n 2, 1) := by decide +kernel
theorem own_d8_6 : decode prog_112_method_5_code 6 = .ok (.aload_n 0, 1) := by decide +kernel
theorem own_d8_7 : decode prog_112_method_5_code 7 = .ok (.getfield 7, 3) := by decide +kernel
theorem own_d8_10 : decode prog_112_method_5_code 10 = .ok (.arraylength, 1) := by decide +kernel
theorem own_d8_11 : decode prog_112_method_5_code 11 = .ok (.if_icmp .ge 21, 3) := by decide +kernel
theorem own_d8_14 : decode prog_112_method_5_code 14 = .ok (.aload_n 0, 1) := by decide +kernel
theorem own_d8_15 : decode prog_112_method_5_code 15 = .ok (.getfield 7, 3) := by decide +kernel
theorem own_d8_18 : decode prog_112_method_5_code 18 = .ok (.iload_n 2, 1) := by decide +kernel
theorem own_d8_19 : decode prog_112_method_5_code 19 = .ok (.laload, 1) := by decide +kernel
theorem own_d8_20 : decode prog_112_method_5_code 20 = .ok (.lconst 1, 1) := by decide +kernel
theorem own_d8_21 : decode prog_112_method_5_code 21 = .ok (.iload_n 1, 1) := by decide +kernel
theorem own_d8_22 : decode prog_112_method_5_code 22 = .ok (.lshl, 1) := by decide +kernel
theorem own_d8_23 : decode prog_112_method_5_code 23 = .ok (.lconst 1, 1) := by decide +kernel
theorem own_d8_24 : decode prog_112_method_5_code 24 = .ok (.lsub, 1) := by decide +kernel
theorem own_d8_25 : decode prog_112_method_5_code 25 = .ok (.land, 1) := by decide +kernel
theorem own_d8_26 : decode prog_112_method_5_code 26 = .ok (.invokestatic 19, 3) := by decide +kernel
theorem own_d8_29 : decode prog_112_method_5_code 29 = .ok (.goto 4, 3) := by decide +kernel
theorem own_d8_32 : decode prog_112_method_5_code 32 = .ok (.iconst 0, 1) := by decide +kernel
theorem own_d8_33 : decode prog_112_method_5_code 33 = .ok (.istore_n 3, 1) := by decide +kernel
theorem own_d8_34 : decode prog_112_method_5_code 34 = .ok (.iload_n 2, 1) := by decide +kernel
theorem own_d8_35 : decode prog_112_method_5_code 35 = .ok (.istore 4, 2) := by decide +kernel
def own_f8_0 (NN : Nat) (B : Nat → Int64) (W : Nat → Int32) (x1 : Int32) : Int32 := (if (x1 >>> ((6 : Int32) &&& 31)) < (Int32.ofNat NN) then (own_dn W 20 (x1.toNatClampNeg / 64) (own_f7_0 ((B (x1 >>> ((6 : Int32) &&& 31)).toNatClampNeg) &&& (((1 : Int64) <<< (x1 &&& 0x3f).toInt64) - (1 : Int64))))) else (own_dn W 20 (x1.toNatClampNeg / 64) (0 : Int32)))
set_option maxRecDepth 65536 in
set_option maxHeartbeats 4000000 in
theorem own_l8_0 {p : Program} {l : Launch} {e : Env} {s : State} {m : MethodId} {args : Array Value} {below : List Frame} {meth : Method} {c : Code} {T : State} {locs : List Loc} {Z : State} {a0 : Array Value} {h0 : Heap} {n0 : Nat}
    (X : Stand p l e ({ frames := 1, cells := 0, slots := 0, locals := 13 } : Room) s m args below meth c T locs 0 0) (hx : p.tables.exec = Jvm.exec) (hZ : Z.Warmed39 s.vm) (hw : ∀ d ∈ tables_1, d.before a0 Z = true) (hby : c.code = prog_112_method_5_code) (hml : c.maxLocals = 5) (hown : s.vm.findClass "com/example/furl/furl/tree/PositionCounts" = some m.cls) (hret : meth.sig.returnType = some .int) (hlk : meth.locks = false) (e0 : T.heap = h0) (N : Fr n0 locs) (Z0 : n0 ≤ h0.size)
    (x0 : Addr) (aB : Addr) (aW : Addr) (NN : Nat) (B : Nat → Int64) (W : Nat → Int32) (x1 : Int32) {r : Int32} (hR : r = own_f8_0 NN B W x1) (HP : own_PC Z h0 n0 x0 aB aW NN B W) (h0x : ¬ x1 < 0) (hxN : x1.toNatClampNeg / 64 ≤ NN) (hM : NN ≤ 16) : own_Go p e below s ({ frames := 1, cells := 0, slots := 0, locals := 13 } : Room).cells ({ frames := 1, cells := 0, slots := 0, locals := 13 } : Room).slots (own_QP (.int r) h0 n0) (T.setTop (mkF m 0 #[.val (.ref x0), .val (.int x1), .unset, .unset, .unset] [])) := by
  unfold own_f8_0 at hR
  refine own_back (fun t k => XS.iloadN X.here hx rfl (hb hby own_d8_0) rfl k) ?_
  show own_Go _ _ _ _ _ _ _ (T.setTop (mkF m 1 #[.val (.ref x0), .val (.int x1), .unset, .unset, .unset] [(.int x1)]))
  refine own_back (fun t k => XS.bipush X.here hx rfl (hb hby own_d8_1) k) ?_
  show own_Go _ _ _ _ _ _ _ (T.setTop (mkF m 3 #[.val (.ref x0), .val (.int x1), .unset, .unset, .unset] [(.int (6 : Int32)), (.int x1)]))
  refine own_back (fun t k => XS.ishr X.here hx rfl (hb hby own_d8_3) rfl k) ?_
  show own_Go _ _ _ _ _ _ _ (T.setTop (mkF m 4 #[.val (.ref x0), .val (.int x1), .unset, .unset, .unset] [(.int (x1 >>> ((6 : Int32) &&& 31)))]))
  refine own_back (fun t k => XS.istoreN X.here hx rfl (hb hby own_d8_4) rfl (l' := #[.val (.ref x0), .val (.int x1), .val (.int (x1 >>> ((6 : Int32) &&& 31))), .unset, .unset]) rfl k) ?_
  show own_Go _ _ _ _ _ _ _ (T.setTop (mkF m 5 #[.val (.ref x0), .val (.int x1), .val (.int (x1 >>> ((6 : Int32) &&& 31))), .unset, .unset] []))
  refine own_back (fun t k => XS.iloadN X.here hx rfl (hb hby own_d8_5) rfl k) ?_
  show own_Go _ _ _ _ _ _ _ (T.setTop (mkF m 6 #[.val (.ref x0), .val (.int x1), .val (.int (x1 >>> ((6 : Int32) &&& 31))), .unset, .unset] [(.int (x1 >>> ((6 : Int32) &&& 31)))]))
  refine own_back (fun t k => XS.aloadN X.here hx rfl (hb hby own_d8_6) rfl rfl k) ?_
  show own_Go _ _ _ _ _ _ _ (T.setTop (mkF m 7 #[.val (.ref x0), .val (.int x1), .val (.int (x1 >>> ((6 : Int32) &&& 31))), .unset, .unset] [(.ref x0), (.int (x1 >>> ((6 : Int32) &&& 31)))]))
  obtain ⟨T1, X1, e1, st1⟩ := getF X hx hZ hown (host := "") (Or.inl (hw _ (List.mem_of_getElem? (i := 11) rfl))) Via.refl e0 HP.2.1 (g := (mkF m 7 #[.val (.ref x0), .val (.int x1), .val (.int (x1 >>> ((6 : Int32) &&& 31))), .unset, .unset] [(.ref x0), (.int (x1 >>> ((6 : Int32) &&& 31)))])) rfl rfl (hb hby own_d8_7)
  refine own_back (fun t k => st1 t k) ?_
  show own_Go _ _ _ _ _ _ _ (T1.setTop (mkF m 10 #[.val (.ref x0), .val (.int x1), .val (.int (x1 >>> ((6 : Int32) &&& 31))), .unset, .unset] [(.ref aB), (.int (x1 >>> ((6 : Int32) &&& 31)))]))
  refine own_back (fun t k => own_len X1 hx hZ e1 HP.2.2.2.1 (z := (Int32.ofNat NN)) rfl (g := (mkF m 10 #[.val (.ref x0), .val (.int x1), .val (.int (x1 >>> ((6 : Int32) &&& 31))), .unset, .unset] [(.ref aB), (.int (x1 >>> ((6 : Int32) &&& 31)))])) rfl rfl (hb hby own_d8_10) t k) ?_
  show own_Go _ _ _ _ _ _ _ (T1.setTop (mkF m 11 #[.val (.ref x0), .val (.int x1), .val (.int (x1 >>> ((6 : Int32) &&& 31))), .unset, .unset] [(.int (Int32.ofNat NN)), (.int (x1 >>> ((6 : Int32) &&& 31)))]))
  by_cases hc11 : (x1 >>> ((6 : Int32) &&& 31)) < (Int32.ofNat NN)
  · rw [if_pos hc11] at hR
    refine own_back (fun t k => XS.icmpNo X1.here hx rfl (hb hby own_d8_11) rfl (tlt hc11).2.1 k) ?_
    show own_Go _ _ _ _ _ _ _ (T1.setTop (mkF m 14 #[.val (.ref x0), .val (.int x1), .val (.int (x1 >>> ((6 : Int32) &&& 31))), .unset, .unset] []))
    refine own_back (fun t k => XS.aloadN X1.here hx rfl (hb hby own_d8_14) rfl rfl k) ?_
    show own_Go _ _ _ _ _ _ _ (T1.setTop (mkF m 15 #[.val (.ref x0), .val (.int x1), .val (.int (x1 >>> ((6 : Int32) &&& 31))), .unset, .unset] [(.ref x0)]))
    obtain ⟨T2, X2, e2, st2⟩ := getF X1 hx hZ hown (host := "") (Or.inl (hw _ (List.mem_of_getElem? (i := 11) rfl))) Via.refl e1 HP.2.1 (g := (mkF m 15 #[.val (.ref x0), .val (.int x1), .val (.int (x1 >>> ((6 : Int32) &&& 31))), .unset, .unset] [(.ref x0)])) rfl rfl (hb hby own_d8_15)
    refine own_back (fun t k => st2 t k) ?_
    show own_Go _ _ _ _ _ _ _ (T2.setTop (mkF m 18 #[.val (.ref x0), .val (.int x1), .val (.int (x1 >>> ((6 : Int32) &&& 31))), .unset, .unset] [(.ref aB)]))
    refine own_back (fun t k => XS.iloadN X2.here hx rfl (hb hby own_d8_18) rfl k) ?_
    show own_Go _ _ _ _ _ _ _ (T2.setTop (mkF m 19 #[.val (.ref x0), .val (.int x1), .val (.int (x1 >>> ((6 : Int32) &&& 31))), .unset, .unset] [(.int (x1 >>> ((6 : Int32) &&& 31))), (.ref aB)]))
    refine own_back (fun t k => own_ldJ X2 hx hZ e2 HP.2.2.2.1 (j := (x1 >>> ((6 : Int32) &&& 31))) (w := (B (x1 >>> ((6 : Int32) &&& 31)).toNatClampNeg)) (own_ixq h0x hc11 hM) rfl (g := (mkF m 19 #[.val (.ref x0), .val (.int x1), .val (.int (x1 >>> ((6 : Int32) &&& 31))), .unset, .unset] [(.int (x1 >>> ((6 : Int32) &&& 31))), (.ref aB)])) rfl rfl (hb hby own_d8_19) t k) ?_
    show own_Go _ _ _ _ _ _ _ (T2.setTop (mkF m 20 #[.val (.ref x0), .val (.int x1), .val (.int (x1 >>> ((6 : Int32) &&& 31))), .unset, .unset] [(.long (B (x1 >>> ((6 : Int32) &&& 31)).toNatClampNeg))]))
    refine own_back (fun t k => XS.lconst X2.here hx rfl (hb hby own_d8_20) k) ?_
    show own_Go _ _ _ _ _ _ _ (T2.setTop (mkF m 21 #[.val (.ref x0), .val (.int x1), .val (.int (x1 >>> ((6 : Int32) &&& 31))), .unset, .unset] [(.long (1 : Int64)), (.long (B (x1 >>> ((6 : Int32) &&& 31)).toNatClampNeg))]))
    refine own_back (fun t k => XS.iloadN X2.here hx rfl (hb hby own_d8_21) rfl k) ?_
    show own_Go _ _ _ _ _ _ _ (T2.setTop (mkF m 22 #[.val (.ref x0), .val (.int x1), .val (.int (x1 >>> ((6 : Int32) &&& 31))), .unset, .unset] [(.int x1), (.long (1 : Int64)), (.long (B (x1 >>> ((6 : Int32) &&& 31)).toNatClampNeg))]))
    refine own_back (fun t k => XS.lshl X2.here hx rfl (hb hby own_d8_22) rfl k) ?_
    show own_Go _ _ _ _ _ _ _ (T2.setTop (mkF m 23 #[.val (.ref x0), .val (.int x1), .val (.int (x1 >>> ((6 : Int32) &&& 31))), .unset, .unset] [(.long ((1 : Int64) <<< (x1 &&& 0x3f).toInt64)), (.long (B (x1 >>> ((6 : Int32) &&& 31)).toNatClampNeg))]))
    refine own_back (fun t k => XS.lconst X2.here hx rfl (hb hby own_d8_23) k) ?_
    show own_Go _ _ _ _ _ _ _ (T2.setTop (mkF m 24 #[.val (.ref x0), .val (.int x1), .val (.int (x1 >>> ((6 : Int32) &&& 31))), .unset, .unset] [(.long (1 : Int64)), (.long ((1 : Int64) <<< (x1 &&& 0x3f).toInt64)), (.long (B (x1 >>> ((6 : Int32) &&& 31)).toNatClampNeg))]))
    refine own_back (fun t k => XS.lsub X2.here hx rfl (hb hby own_d8_24) rfl k) ?_
    show own_Go _ _ _ _ _ _ _ (T2.setTop (mkF m 25 #[.val (.ref x0), .val (.int x1), .val (.int (x1 >>> ((6 : Int32) &&& 31))), .unset, .unset] [(.long (((1 : Int64) <<< (x1 &&& 0x3f).toInt64) - (1 : Int64))), (.long (B (x1 >>> ((6 : Int32) &&& 31)).toNatClampNeg))]))
    refine own_back (fun t k => XS.land X2.here hx rfl (hb hby own_d8_25) rfl k) ?_
    show own_Go _ _ _ _ _ _ _ (T2.setTop (mkF m 26 #[.val (.ref x0), .val (.int x1), .val (.int (x1 >>> ((6 : Int32) &&& 31))), .unset, .unset] [(.long ((B (x1 >>> ((6 : Int32) &&& 31)).toNatClampNeg) &&& (((1 : Int64) <<< (x1 &&& 0x3f).toInt64) - (1 : Int64))))]))
    obtain ⟨_, _, ⟨T3, L3, k3, n3⟩, -, X3, ⟨Lc3, hQ3, l3, y3, z3⟩, st3⟩ := Jvm.LawKit.callS X2 hx (y := (⟨"java/lang/Long", "bitCount", "(J)I"⟩ : MethodName)) hown (mvT hZ (hw _ (List.mem_of_getElem? (i := 36) rfl))) (mvT hZ (hw _ (List.mem_of_getElem? (i := 37) rfl))) (mvT hZ (hw _ (List.mem_of_getElem? (i := 38) rfl))) (mvT hZ (hw _ (List.mem_of_getElem? (i := 39) rfl))) (by decide) (backOf (W := 0) (own_rm7 l Z a0 hw [] ((B (x1 >>> ((6 : Int32) &&& 31)).toNatClampNeg) &&& (((1 : Int64) <<< (x1 &&& 0x3f).toInt64) - (1 : Int64))) h0 n0 Z0) hZ (hw _ (List.mem_of_getElem? (i := 39) rfl)) (hw _ (List.mem_of_getElem? (i := 38) rfl)) (by decide) (by decide)) (g := (mkF m 26 #[.val (.ref x0), .val (.int x1), .val (.int (x1 >>> ((6 : Int32) &&& 31))), .unset, .unset] [(.long ((B (x1 >>> ((6 : Int32) &&& 31)).toNatClampNeg) &&& (((1 : Int64) <<< (x1 &&& 0x3f).toInt64) - (1 : Int64))))])) rfl (by rw [hml]; rfl) (argsL := [(.long ((B (x1 >>> ((6 : Int32) &&& 31)).toNatClampNeg) &&& (((1 : Int64) <<< (x1 &&& 0x3f).toInt64) - (1 : Int64))))]) (rest := []) (lenOf own_pd0 rfl) rfl (by show 2 * 0 + _ ≤ _; exact Nat.le_of_eq rfl) (hb hby own_d8_26) (fun _ _ => ⟨rfl, e2, (by decide : 0 + 0 ≤ _), (by decide : 0 + 0 ≤ _)⟩)
    dsimp only [Pt.U, Pt.locs, Pt.cells, Pt.slots] at X3 l3 y3 z3 st3 hQ3
    subst l3 y3 z3
    obtain ⟨rfl, N3q, e3⟩ := hQ3
    have N3 := Fr.app N N3q
    refine own_back (fun t k => st3 t k) ?_
    show own_Go _ _ _ _ _ _ _ (T3.setTop (mkF m 29 #[.val (.ref x0), .val (.int x1), .val (.int (x1 >>> ((6 : Int32) &&& 31))), .unset, .unset] [(.int (own_f7_0 ((B (x1 >>> ((6 : Int32) &&& 31)).toNatClampNeg) &&& (((1 : Int64) <<< (x1 &&& 0x3f).toInt64) - (1 : Int64)))))]))
    refine own_back (fun t k => XS.goto X3.here hx rfl (pc0 := 29) (pc' := 33) rfl (hb hby own_d8_29) (by decide) (by decide) k) ?_
    show own_Go _ _ _ _ _ _ _ (T3.setTop (mkF m 33 #[.val (.ref x0), .val (.int x1), .val (.int (x1 >>> ((6 : Int32) &&& 31))), .unset, .unset] [(.int (own_f7_0 ((B (x1 >>> ((6 : Int32) &&& 31)).toNatClampNeg) &&& (((1 : Int64) <<< (x1 &&& 0x3f).toInt64) - (1 : Int64)))))]))
    refine own_back (fun t k => XS.istoreN X3.here hx rfl (hb hby own_d8_33) rfl (l' := #[.val (.ref x0), .val (.int x1), .val (.int (x1 >>> ((6 : Int32) &&& 31))), .val (.int (own_f7_0 ((B (x1 >>> ((6 : Int32) &&& 31)).toNatClampNeg) &&& (((1 : Int64) <<< (x1 &&& 0x3f).toInt64) - (1 : Int64))))), .unset]) rfl k) ?_
    show own_Go _ _ _ _ _ _ _ (T3.setTop (mkF m 34 #[.val (.ref x0), .val (.int x1), .val (.int (x1 >>> ((6 : Int32) &&& 31))), .val (.int (own_f7_0 ((B (x1 >>> ((6 : Int32) &&& 31)).toNatClampNeg) &&& (((1 : Int64) <<< (x1 &&& 0x3f).toInt64) - (1 : Int64))))), .unset] []))
    refine own_back (fun t k => XS.iloadN X3.here hx rfl (hb hby own_d8_34) rfl k) ?_
    show own_Go _ _ _ _ _ _ _ (T3.setTop (mkF m 35 #[.val (.ref x0), .val (.int x1), .val (.int (x1 >>> ((6 : Int32) &&& 31))), .val (.int (own_f7_0 ((B (x1 >>> ((6 : Int32) &&& 31)).toNatClampNeg) &&& (((1 : Int64) <<< (x1 &&& 0x3f).toInt64) - (1 : Int64))))), .unset] [(.int (x1 >>> ((6 : Int32) &&& 31)))]))
    refine own_back (fun t k => XS.istore X3.here hx rfl (hb hby own_d8_35) rfl (l' := #[.val (.ref x0), .val (.int x1), .val (.int (x1 >>> ((6 : Int32) &&& 31))), .val (.int (own_f7_0 ((B (x1 >>> ((6 : Int32) &&& 31)).toNatClampNeg) &&& (((1 : Int64) <<< (x1 &&& 0x3f).toInt64) - (1 : Int64))))), .val (.int (x1 >>> ((6 : Int32) &&& 31)))]) rfl k) ?_
    show own_Go _ _ _ _ _ _ _ (T3.setTop (mkF m 37 #[.val (.ref x0), .val (.int x1), .val (.int (x1 >>> ((6 : Int32) &&& 31))), .val (.int (own_f7_0 ((B (x1 >>> ((6 : Int32) &&& 31)).toNatClampNeg) &&& (((1 : Int64) <<< (x1 &&& 0x3f).toInt64) - (1 : Int64))))), .val (.int (x1 >>> ((6 : Int32) &&& 31)))] []))
    subst hR
    have G := own_l8_37 hx hZ hw hby hown hret hlk x0 aB aW x1 (x1 >>> ((6 : Int32) &&& 31)) NN hM B W HP 20 (x1.toNatClampNeg / 64) (own_f7_0 ((B (x1 >>> ((6 : Int32) &&& 31)).toNatClampNeg) &&& (((1 : Int64) <<< (x1 &&& 0x3f).toInt64) - (1 : Int64)))) T3 _ hxN (by omega) X3 e3 N3
    rw [← own_sh6 h0x] at G
    exact G
  · rw [if_neg hc11] at hR
    refine own_back (fun t k => XS.icmpYes X1.here hx rfl (pc0 := 11) (pc' := 32) rfl (hb hby own_d8_11) rfl (flt hc11).2.1 (by decide) (by decide) k) ?_
    show own_Go _ _ _ _ _ _ _ (T1.setTop (mkF m 32 #[.val (.ref x0), .val (.int x1), .val (.int (x1 >>> ((6 : Int32) &&& 31))), .unset, .unset] []))
    refine own_back (fun t k => XS.iconst X1.here hx rfl (hb hby own_d8_32) k) ?_
    show own_Go _ _ _ _ _ _ _ (T1.setTop (mkF m 33 #[.val (.ref x0), .val (.int x1), .val (.int (x1 >>> ((6 : Int32) &&& 31))), .unset, .unset] [(.int (0 : Int32))]))
    refine own_back (fun t k => XS.istoreN X1.here hx rfl (hb hby own_d8_33) rfl (l' := #[.val (.ref x0), .val (.int x1), .val (.int (x1 >>> ((6 : Int32) &&& 31))), .val (.int (0 : Int32)), .unset]) rfl k) ?_
    show own_Go _ _ _ _ _ _ _ (T1.setTop (mkF m 34 #[.val (.ref x0), .val (.int x1), .val (.int (x1 >>> ((6 : Int32) &&& 31))), .val (.int (0 : Int32)), .unset] []))
    refine own_back (fun t k => XS.iloadN X1.here hx rfl (hb hby own_d8_34) rfl k) ?_
    show own_Go _ _ _ _ _ _ _ (T1.setTop (mkF m 35 #[.val (.ref x0), .val (.int x1), .val (.int (x1 >>> ((6 : Int32) &&& 31))), .val (.int (0 : Int32)), .unset] [(.int (x1 >>> ((6 : Int32) &&& 31)))]))
    refine own_back (fun t k => XS.istore X1.here hx rfl (hb hby own_d8_35) rfl (l' := #[.val (.ref x0), .val (.int x1), .val (.int (x1 >>> ((6 : Int32) &&& 31))), .val (.int (0 : Int32)), .val (.int (x1 >>> ((6 : Int32) &&& 31)))]) rfl k) ?_
    show own_Go _ _ _ _ _ _ _ (T1.setTop (mkF m 37 #[.val (.ref x0), .val (.int x1), .val (.int (x1 >>> ((6 : Int32) &&& 31))), .val (.int (0 : Int32)), .val (.int (x1 >>> ((6 : Int32) &&& 31)))] []))
    subst hR
    have G := own_l8_37 hx hZ hw hby hown hret hlk x0 aB aW x1 (x1 >>> ((6 : Int32) &&& 31)) NN hM B W HP 20 (x1.toNatClampNeg / 64) (0 : Int32) T1 _ hxN (by omega) X1 e1 N
    rw [← own_sh6 h0x] at G
    exact G
theorem own_pn8 : plainName "com/example/furl/furl/tree/PositionCounts" = true := by first | (simp [plainName, overriddenIn]; done) | decide +kernel
theorem own_ef8 (m : MethodId) (x0 : Addr) (x1 : Int32) : entryFrame m #[(.ref x0), (.int x1)] 5 = mkF m 0 #[.val (.ref x0), .val (.int x1), .unset, .unset, .unset] [] := by first | (simp [entryFrame, mkF, argsToLocals, Value.category]; done) | rfl
set_option maxRecDepth 65536 in
set_option maxHeartbeats 4000000 in
theorem own_rm8 (l : Launch) (Z : State) (a0 : Array Value) (hw : ∀ d ∈ tables_1, d.before a0 Z = true) (ws : List Jvm.Cond) (x0 : Addr) (x1 : Int32) (aB : Addr) (aW : Addr) (NN : Nat) (B : Nat → Int64) (W : Nat → Int32) (h0 : Heap) (n0 : Nat) (Z0 : n0 ≤ h0.size) (HP : own_PC Z h0 n0 x0 aB aW NN B W) (h0x : ¬ x1 < 0) (hxN : x1.toNatClampNeg / 64 ≤ NN) (hM : NN ≤ 16) :
    MetFree l (⟨"com/example/furl/furl/tree/PositionCounts", "before", "(I)I"⟩ : MethodName) (head1 (Jvm.Cond.code (⟨"com/example/furl/furl/tree/PositionCounts", "before", "(I)I"⟩ : MethodName) prog_112_method_5_code 5 (some .int) :: ws) ({ frames := 1, cells := 0, slots := 0, locals := 13 } : Room)) (fun a U => a = #[(.ref x0), (.int x1)] ∧ Z.Warmed39 U.vm ∧ U.heap = h0) (fun _ _ _ _ _ => True) (fun _ U o U' => ∃ v L, o = .returned v ∧ own_QP (.int (own_f8_0 NN B W x1)) h0 n0 v U'.heap L ∧ FrameEnd U o U' L ({ frames := 1, cells := 0, slots := 0, locals := 13 } : Room).cells ({ frames := 1, cells := 0, slots := 0, locals := 13 } : Room).slots) := by
  refine MetFree.of_bodySF (plainFor_of_name own_pn8) hisR ?_
  intro p e s m args below meth c s₁ Bd hml0 hP hK
  obtain ⟨rfl, hZ, hh⟩ := hP
  have X0 : Stand p l e ({ frames := 1, cells := 0, slots := 0, locals := 13 } : Room) s m #[(.ref x0), (.int x1)] below meth c s₁ [] 0 0 := Stand.of_body Bd
  have e0 : s₁.heap = h0 := by rw [← hh, Bd.state]; rfl
  refine own_back (s := s) (fun t k => castTop (own_ef8 m x0 x1) k) ?_
  exact own_l8_0 X0 Bd.exec hZ hw Bd.bytes hml0 (findClass_of_methodNamed Bd.named) Bd.returns (BodyLoose.notSynchronized Bd) e0 (Fr.nil n0) Z0 x0 aB aW NN B W x1 rfl HP h0x hxN hM
theorem own_selb {Z s : State} {a0 args : Array Value} (hZ : Z.Warmed39 s.vm) (hw : ∀ d ∈ tables_1, d.before a0 Z = true) : (Jvm.Cond.selects "com/example/furl/furl/tree/PositionCounts" ({ cls := "com/example/furl/furl/tree/PositionCounts", name := "before", desc := "(I)I" } : Jvm.MethodName) ({ cls := "com/example/furl/furl/tree/PositionCounts", name := "before", desc := "(I)I" } : Jvm.MethodName)).before args s = true := by
  have h : (Jvm.Cond.selects "com/example/furl/furl/tree/PositionCounts" ({ cls := "com/example/furl/furl/tree/PositionCounts", name := "contains", desc := "(I)Z" } : Jvm.MethodName) ({ cls := "com/example/furl/furl/tree/PositionCounts", name := "contains", desc := "(I)Z" } : Jvm.MethodName)).before args s = true := mvT hZ (hw _ (List.mem_of_getElem? (i := 28) rfl))
  obtain ⟨c, r, m, h1, -, h3, -, mk, h4, h5⟩ := Cond.selects_spec h
  have f : s.vm.findClass "com/example/furl/furl/tree/PositionCounts" = some m.cls := findClass_of_methodNamed h3
  have g := Cond.privateMethod_at (mvP hZ (hw _ (List.mem_of_getElem? (i := 45) rfl)) (args := #[]))
  have i : (Jvm.Cond.instanceMethod ({ cls := "com/example/furl/furl/tree/PositionCounts", name := "before", desc := "(I)I" } : Jvm.MethodName)).before args s = true := mvT hZ (hw _ (List.mem_of_getElem? (i := 44) rfl))
  exact selects_self_of_private (y := ({ cls := "com/example/furl/furl/tree/PositionCounts", name := "before", desc := "(I)I" } : Jvm.MethodName)) f h4 h5 g i (by decide)
theorem own_ixr {x y : Int32} {N : Nat} (h : ¬ x < 0) (hc : x < y) (hy : y.toNatClampNeg ≤ 64 * N) (hM : N ≤ 16) : ¬ (x >>> ((6 : Int32) &&& 31)) < 0 ∧ (x >>> ((6 : Int32) &&& 31)).toNatClampNeg < N := by
  have q := own_lt.mp hc
  have e1 : x.toNatClampNeg = x.toInt.toNat := rfl
  have e2 : y.toNatClampNeg = y.toInt.toNat := rfl
  have z : (0 : Int32).toInt = 0 := rfl
  have g : ¬ x.toInt < 0 := fun q => h (own_lt.mpr (by omega))
  rw [own_sh6 h]
  exact own_in (by omega) (by omega)
theorem own_lt64 {x y : Int32} {N : Nat} (h : ¬ x < 0) (hc : x < y) (hy : y.toNatClampNeg ≤ 64 * N) : x.toNatClampNeg / 64 ≤ N := by
  have q := own_lt.mp hc
  have e1 : x.toNatClampNeg = x.toInt.toNat := rfl
  have e2 : y.toNatClampNeg = y.toInt.toNat := rfl
  omega
theorem own_pd1 : parseMethodDescriptor "(I)I" = some ⟨[.int], some .int⟩ := by decide +kernel
/-! body 6: com/example/furl/furl/tree/PositionCounts.in:(II)I -/
theorem own_d6_0 : decode prog_112_method_4_code 0 = .ok (.iload_n 1, 1) := by decide +kernel
theorem own_d6_1 : decode prog_112_method_4_code 1 = .ok (.iload_n 2, 1) := by decide +kernel
theorem own_d6_2 : decode prog_112_method_4_code 2 = .ok (.if_icmp .lt 8, 3) := by decide +kernel
theorem own_d6_5 : decode prog_112_method_4_code 5 = .ok (.iconst 0, 1) := by decide +kernel
theorem own_d6_6 : decode prog_112_method_4_code 6 = .ok (.istore_n 3, 1) := by decide +kernel
theorem own_d6_7 : decode prog_112_method_4_code 7 = .ok (.goto 55, 3) := by decide +kernel
theorem own_d6_10 : decode prog_112_method_4_code 10 = .ok (.iload_n 1, 1) := by decide +kernel
theorem own_d6_11 : decode prog_112_method_4_code 11 = .ok (.bipush 6, 2) := by decide +kernel
theorem own_d6_13 : decode prog_112_method_4_code 13 = .ok (.ishr, 1) := by decide +kernel
theorem own_d6_14 : decode prog_112_method_4_code 14 = .ok (.iload_n 2, 1) := by decide +kernel
theorem own_d6_15 : decode prog_112_method_4_code 15 = .ok (.iconst 1, 1) := by decide +kernel
theorem own_d6_16 : decode prog_112_method_4_code 16 = .ok (.isub, 1) := by decide +kernel
theorem own_d6_17 : decode prog_112_method_4_code 17 = .ok (.bipush 6, 2) := by decide +kernel
theorem own_d6_19 : decode prog_112_method_4_code 19 = .ok (.ishr, 1) := by decide +kernel
theorem own_d6_20 : decode prog_112_method_4_code 20 = .ok (.if_icmp .ne 30, 3) := by decide +kernel
theorem own_d6_23 : decode prog_112_method_4_code 23 = .ok (.aload_n 0, 1) := by decide +kernel
theorem own_d6_24 : decode prog_112_method_4_code 24 = .ok (.getfield 7, 3) := by decide +kernel
theorem own_d6_27 : decode prog_112_method_4_code 27 = .ok (.iload_n 1, 1) := by decide +kernel
theorem own_d6_28 : decode prog_112_method_4_code 28 = .ok (.bipush 6, 2) := by decide +kernel
theorem own_d6_30 : decode prog_112_method_4_code 30 = .ok (.ishr, 1) := by decide +kernel
theorem own_d6_31 : decode prog_112_method_4_code 31 = .ok (.laload, 1) := by decide +kernel
theorem own_d6_32 : decode prog_112_method_4_code 32 = .ok (.ldc2_w 17, 3) := by decide +kernel
theorem own_d6_35 : decode prog_112_method_4_code 35 = .ok (.iload_n 2, 1) := by decide +kernel
theorem own_d6_36 : decode prog_112_method_4_code 36 = .ok (.iload_n 1, 1) := by decide +kernel
theorem own_d6_37 : decode prog_112_method_4_code 37 = .ok (.isub, 1) := by decide +kernel
theorem own_d6_38 : decode prog_112_method_4_code 38 = .ok (.ineg, 1) := by decide +kernel
theorem own_d6_39 : decode prog_112_method_4_code 39 = .ok (.lushr, 1) := by decide +kernel
theorem own_d6_40 : decode prog_112_method_4_code 40 = .ok (.iload_n 1, 1) := by decide +kernel
theorem own_d6_41 : decode prog_112_method_4_code 41 = .ok (.lshl, 1) := by decide +kernel
theorem own_d6_42 : decode prog_112_method_4_code 42 = .ok (.land, 1) := by decide +kernel
theorem own_d6_43 : decode prog_112_method_4_code 43 = .ok (.invokestatic 19, 3) := by decide +kernel
theorem own_d6_46 : decode prog_112_method_4_code 46 = .ok (.istore_n 3, 1) := by decide +kernel
theorem own_d6_47 : decode prog_112_method_4_code 47 = .ok (.goto 15, 3) := by decide +kernel
theorem own_d6_50 : decode prog_112_method_4_code 50 = .ok (.aload_n 0, 1) := by decide +kernel
theorem own_d6_51 : decode prog_112_method_4_code 51 = .ok (.iload_n 2, 1) := by decide +kernel
theorem own_d6_52 : decode prog_112_method_4_code 52 = .ok (.invokevirtual 25, 3) := by decide +kernel
theorem own_d6_55 : decode prog_112_method_4_code 55 = .ok (.aload_n 0, 1) := by decide +kernel
theorem own_d6_56 : decode prog_112_method_4_code 56 = .ok (.iload_n 1, 1) := by decide +kernel
theorem own_d6_57 : decode prog_112_method_4_code 57 = .ok (.invokevirtual 25, 3) := by decide +kernel
theorem own_d6_60 : decode prog_112_method_4_code 60 = .ok (.isub, 1) := by decide +kernel
theorem own_d6_61 : decode prog_112_method_4_code 61 = .ok (.istore_n 3, 1) := by decide +kernel
theorem own_d6_62 : decode prog_112_method_4_code 62 = .ok (.iload_n 3, 1) := by decide +kernel
theorem own_d6_63 : decode prog_112_method_4_code 63 = .ok (.ireturn, 1) := by decide +kernel
def own_f6_0 (NN : Nat) (B : Nat → Int64) (W : Nat → Int32) (x1 : Int32) (x2 : Int32) : Int32 := (if x1 < x2 then (if (x1 >>> ((6 : Int32) &&& 31)) = ((x2 - (1 : Int32)) >>> ((6 : Int32) &&& 31)) then (own_f7_0 ((B (x1 >>> ((6 : Int32) &&& 31)).toNatClampNeg) &&& ((((-1 : Int64).toUInt64 >>> ((-(x2 - x1)) &&& 0x3f).toInt64.toUInt64).toInt64) <<< (x1 &&& 0x3f).toInt64))) else ((own_f8_0 NN B W x2) - (own_f8_0 NN B W x1))) else (0 : Int32))
set_option maxRecDepth 65536 in
set_option maxHeartbeats 4000000 in
theorem own_l6_0 {p : Program} {l : Launch} {e : Env} {s : State} {m : MethodId} {args : Array Value} {below : List Frame} {meth : Method} {c : Code} {T : State} {locs : List Loc} {Z : State} {a0 : Array Value} {h0 : Heap} {n0 : Nat}
    (X : Stand p l e ({ frames := 2, cells := 0, slots := 0, locals := 30 } : Room) s m args below meth c T locs 0 0) (hx : p.tables.exec = Jvm.exec) (hZ : Z.Warmed39 s.vm) (hw : ∀ d ∈ tables_1, d.before a0 Z = true) (hby : c.code = prog_112_method_4_code) (hml : c.maxLocals = 4) (hown : s.vm.findClass "com/example/furl/furl/tree/PositionCounts" = some m.cls) (hret : meth.sig.returnType = some .int) (hlk : meth.locks = false) (e0 : T.heap = h0) (N : Fr n0 locs) (Z0 : n0 ≤ h0.size)
    (x0 : Addr) (aB : Addr) (aW : Addr) (NN : Nat) (B : Nat → Int64) (W : Nat → Int32) (x1 : Int32) (x2 : Int32) {r : Int32} (hR : r = own_f6_0 NN B W x1 x2) (HP : own_PC Z h0 n0 x0 aB aW NN B W) (h1x : ¬ x1 < 0) (h2x : ¬ x2 < 0) (h2N : x2.toNatClampNeg ≤ 64 * NN) (hM : NN ≤ 16) : own_Go p e below s ({ frames := 2, cells := 0, slots := 0, locals := 30 } : Room).cells ({ frames := 2, cells := 0, slots := 0, locals := 30 } : Room).slots (own_QP (.int r) h0 n0) (T.setTop (mkF m 0 #[.val (.ref x0), .val (.int x1), .val (.int x2), .unset] [])) := by
  unfold own_f6_0 at hR
  refine own_back (fun t k => XS.iloadN X.here hx rfl (hb hby own_d6_0) rfl k) ?_
  show own_Go _ _ _ _ _ _ _ (T.setTop (mkF m 1 #[.val (.ref x0), .val (.int x1), .val (.int x2), .unset] [(.int x1)]))
  refine own_back (fun t k => XS.iloadN X.here hx rfl (hb hby own_d6_1) rfl k) ?_
  show own_Go _ _ _ _ _ _ _ (T.setTop (mkF m 2 #[.val (.ref x0), .val (.int x1), .val (.int x2), .unset] [(.int x2), (.int x1)]))
  by_cases hc2 : x1 < x2
  · rw [if_pos hc2] at hR
    refine own_back (fun t k => XS.icmpYes X.here hx rfl (pc0 := 2) (pc' := 10) rfl (hb hby own_d6_2) rfl (tlt hc2).1 (by decide) (by decide) k) ?_
    show own_Go _ _ _ _ _ _ _ (T.setTop (mkF m 10 #[.val (.ref x0), .val (.int x1), .val (.int x2), .unset] []))
    refine own_back (fun t k => XS.iloadN X.here hx rfl (hb hby own_d6_10) rfl k) ?_
    show own_Go _ _ _ _ _ _ _ (T.setTop (mkF m 11 #[.val (.ref x0), .val (.int x1), .val (.int x2), .unset] [(.int x1)]))
    refine own_back (fun t k => XS.bipush X.here hx rfl (hb hby own_d6_11) k) ?_
    show own_Go _ _ _ _ _ _ _ (T.setTop (mkF m 13 #[.val (.ref x0), .val (.int x1), .val (.int x2), .unset] [(.int (6 : Int32)), (.int x1)]))
    refine own_back (fun t k => XS.ishr X.here hx rfl (hb hby own_d6_13) rfl k) ?_
    show own_Go _ _ _ _ _ _ _ (T.setTop (mkF m 14 #[.val (.ref x0), .val (.int x1), .val (.int x2), .unset] [(.int (x1 >>> ((6 : Int32) &&& 31)))]))
    refine own_back (fun t k => XS.iloadN X.here hx rfl (hb hby own_d6_14) rfl k) ?_
    show own_Go _ _ _ _ _ _ _ (T.setTop (mkF m 15 #[.val (.ref x0), .val (.int x1), .val (.int x2), .unset] [(.int x2), (.int (x1 >>> ((6 : Int32) &&& 31)))]))
    refine own_back (fun t k => XS.iconst X.here hx rfl (hb hby own_d6_15) k) ?_
    show own_Go _ _ _ _ _ _ _ (T.setTop (mkF m 16 #[.val (.ref x0), .val (.int x1), .val (.int x2), .unset] [(.int (1 : Int32)), (.int x2), (.int (x1 >>> ((6 : Int32) &&& 31)))]))
    refine own_back (fun t k => XS.isub X.here hx rfl (hb hby own_d6_16) rfl k) ?_
    show own_Go _ _ _ _ _ _ _ (T.setTop (mkF m 17 #[.val (.ref x0), .val (.int x1), .val (.int x2), .unset] [(.int (x2 - (1 : Int32))), (.int (x1 >>> ((6 : Int32) &&& 31)))]))
    refine own_back (fun t k => XS.bipush X.here hx rfl (hb hby own_d6_17) k) ?_
    show own_Go _ _ _ _ _ _ _ (T.setTop (mkF m 19 #[.val (.ref x0), .val (.int x1), .val (.int x2), .unset] [(.int (6 : Int32)), (.int (x2 - (1 : Int32))), (.int (x1 >>> ((6 : Int32) &&& 31)))]))
    refine own_back (fun t k => XS.ishr X.here hx rfl (hb hby own_d6_19) rfl k) ?_
    show own_Go _ _ _ _ _ _ _ (T.setTop (mkF m 20 #[.val (.ref x0), .val (.int x1), .val (.int x2), .unset] [(.int ((x2 - (1 : Int32)) >>> ((6 : Int32) &&& 31))), (.int (x1 >>> ((6 : Int32) &&& 31)))]))
    by_cases hc20 : (x1 >>> ((6 : Int32) &&& 31)) = ((x2 - (1 : Int32)) >>> ((6 : Int32) &&& 31))
    · rw [if_pos hc20] at hR
      refine own_back (fun t k => XS.icmpNo X.here hx rfl (hb hby own_d6_20) rfl (teq hc20).2 k) ?_
      show own_Go _ _ _ _ _ _ _ (T.setTop (mkF m 23 #[.val (.ref x0), .val (.int x1), .val (.int x2), .unset] []))
      refine own_back (fun t k => XS.aloadN X.here hx rfl (hb hby own_d6_23) rfl rfl k) ?_
      show own_Go _ _ _ _ _ _ _ (T.setTop (mkF m 24 #[.val (.ref x0), .val (.int x1), .val (.int x2), .unset] [(.ref x0)]))
      obtain ⟨T1, X1, e1, st1⟩ := getF X hx hZ hown (host := "") (Or.inl (hw _ (List.mem_of_getElem? (i := 11) rfl))) Via.refl e0 HP.2.1 (g := (mkF m 24 #[.val (.ref x0), .val (.int x1), .val (.int x2), .unset] [(.ref x0)])) rfl rfl (hb hby own_d6_24)
      refine own_back (fun t k => st1 t k) ?_
      show own_Go _ _ _ _ _ _ _ (T1.setTop (mkF m 27 #[.val (.ref x0), .val (.int x1), .val (.int x2), .unset] [(.ref aB)]))
      refine own_back (fun t k => XS.iloadN X1.here hx rfl (hb hby own_d6_27) rfl k) ?_
      show own_Go _ _ _ _ _ _ _ (T1.setTop (mkF m 28 #[.val (.ref x0), .val (.int x1), .val (.int x2), .unset] [(.int x1), (.ref aB)]))
      refine own_back (fun t k => XS.bipush X1.here hx rfl (hb hby own_d6_28) k) ?_
      show own_Go _ _ _ _ _ _ _ (T1.setTop (mkF m 30 #[.val (.ref x0), .val (.int x1), .val (.int x2), .unset] [(.int (6 : Int32)), (.int x1), (.ref aB)]))
      refine own_back (fun t k => XS.ishr X1.here hx rfl (hb hby own_d6_30) rfl k) ?_
      show own_Go _ _ _ _ _ _ _ (T1.setTop (mkF m 31 #[.val (.ref x0), .val (.int x1), .val (.int x2), .unset] [(.int (x1 >>> ((6 : Int32) &&& 31))), (.ref aB)]))
      refine own_back (fun t k => own_ldJ X1 hx hZ e1 HP.2.2.2.1 (j := (x1 >>> ((6 : Int32) &&& 31))) (w := (B (x1 >>> ((6 : Int32) &&& 31)).toNatClampNeg)) (own_ixr h1x hc2 h2N hM) rfl (g := (mkF m 31 #[.val (.ref x0), .val (.int x1), .val (.int x2), .unset] [(.int (x1 >>> ((6 : Int32) &&& 31))), (.ref aB)])) rfl rfl (hb hby own_d6_31) t k) ?_
      show own_Go _ _ _ _ _ _ _ (T1.setTop (mkF m 32 #[.val (.ref x0), .val (.int x1), .val (.int x2), .unset] [(.long (B (x1 >>> ((6 : Int32) &&& 31)).toNatClampNeg))]))
      refine own_back (fun t k => X1.ldc2Long hx hown (mvT hZ (hw _ (List.mem_of_getElem? (i := 35) rfl))) (g := (mkF m 32 #[.val (.ref x0), .val (.int x1), .val (.int x2), .unset] [(.long (B (x1 >>> ((6 : Int32) &&& 31)).toNatClampNeg))])) rfl (hb hby own_d6_32) _ k) ?_
      show own_Go _ _ _ _ _ _ _ (T1.setTop (mkF m 35 #[.val (.ref x0), .val (.int x1), .val (.int x2), .unset] [(.long (-1 : Int64)), (.long (B (x1 >>> ((6 : Int32) &&& 31)).toNatClampNeg))]))
      refine own_back (fun t k => XS.iloadN X1.here hx rfl (hb hby own_d6_35) rfl k) ?_
      show own_Go _ _ _ _ _ _ _ (T1.setTop (mkF m 36 #[.val (.ref x0), .val (.int x1), .val (.int x2), .unset] [(.int x2), (.long (-1 : Int64)), (.long (B (x1 >>> ((6 : Int32) &&& 31)).toNatClampNeg))]))
      refine own_back (fun t k => XS.iloadN X1.here hx rfl (hb hby own_d6_36) rfl k) ?_
      show own_Go _ _ _ _ _ _ _ (T1.setTop (mkF m 37 #[.val (.ref x0), .val (.int x1), .val (.int x2), .unset] [(.int x1), (.int x2), (.long (-1 : Int64)), (.long (B (x1 >>> ((6 : Int32) &&& 31)).toNatClampNeg))]))
      refine own_back (fun t k => XS.isub X1.here hx rfl (hb hby own_d6_37) rfl k) ?_
      show own_Go _ _ _ _ _ _ _ (T1.setTop (mkF m 38 #[.val (.ref x0), .val (.int x1), .val (.int x2), .unset] [(.int (x2 - x1)), (.long (-1 : Int64)), (.long (B (x1 >>> ((6 : Int32) &&& 31)).toNatClampNeg))]))
      refine own_back (fun t k => XS.ineg X1.here hx rfl (hb hby own_d6_38) rfl k) ?_
      show own_Go _ _ _ _ _ _ _ (T1.setTop (mkF m 39 #[.val (.ref x0), .val (.int x1), .val (.int x2), .unset] [(.int (-(x2 - x1))), (.long (-1 : Int64)), (.long (B (x1 >>> ((6 : Int32) &&& 31)).toNatClampNeg))]))
      refine own_back (fun t k => XS.lushr X1.here hx rfl (hb hby own_d6_39) rfl k) ?_
      show own_Go _ _ _ _ _ _ _ (T1.setTop (mkF m 40 #[.val (.ref x0), .val (.int x1), .val (.int x2), .unset] [(.long (((-1 : Int64).toUInt64 >>> ((-(x2 - x1)) &&& 0x3f).toInt64.toUInt64).toInt64)), (.long (B (x1 >>> ((6 : Int32) &&& 31)).toNatClampNeg))]))
      refine own_back (fun t k => XS.iloadN X1.here hx rfl (hb hby own_d6_40) rfl k) ?_
      show own_Go _ _ _ _ _ _ _ (T1.setTop (mkF m 41 #[.val (.ref x0), .val (.int x1), .val (.int x2), .unset] [(.int x1), (.long (((-1 : Int64).toUInt64 >>> ((-(x2 - x1)) &&& 0x3f).toInt64.toUInt64).toInt64)), (.long (B (x1 >>> ((6 : Int32) &&& 31)).toNatClampNeg))]))
      refine own_back (fun t k => XS.lshl X1.here hx rfl (hb hby own_d6_41) rfl k) ?_
      show own_Go _ _ _ _ _ _ _ (T1.setTop (mkF m 42 #[.val (.ref x0), .val (.int x1), .val (.int x2), .unset] [(.long ((((-1 : Int64).toUInt64 >>> ((-(x2 - x1)) &&& 0x3f).toInt64.toUInt64).toInt64) <<< (x1 &&& 0x3f).toInt64)), (.long (B (x1 >>> ((6 : Int32) &&& 31)).toNatClampNeg))]))
      refine own_back (fun t k => XS.land X1.here hx rfl (hb hby own_d6_42) rfl k) ?_
      show own_Go _ _ _ _ _ _ _ (T1.setTop (mkF m 43 #[.val (.ref x0), .val (.int x1), .val (.int x2), .unset] [(.long ((B (x1 >>> ((6 : Int32) &&& 31)).toNatClampNeg) &&& ((((-1 : Int64).toUInt64 >>> ((-(x2 - x1)) &&& 0x3f).toInt64.toUInt64).toInt64) <<< (x1 &&& 0x3f).toInt64)))]))
      obtain ⟨_, _, ⟨T2, L2, k2, n2⟩, -, X2, ⟨Lc2, hQ2, l2, y2, z2⟩, st2⟩ := Jvm.LawKit.callS X1 hx (y := (⟨"java/lang/Long", "bitCount", "(J)I"⟩ : MethodName)) hown (mvT hZ (hw _ (List.mem_of_getElem? (i := 36) rfl))) (mvT hZ (hw _ (List.mem_of_getElem? (i := 37) rfl))) (mvT hZ (hw _ (List.mem_of_getElem? (i := 38) rfl))) (mvT hZ (hw _ (List.mem_of_getElem? (i := 39) rfl))) (by decide) (backOf (W := 0) (own_rm7 l Z a0 hw [] ((B (x1 >>> ((6 : Int32) &&& 31)).toNatClampNeg) &&& ((((-1 : Int64).toUInt64 >>> ((-(x2 - x1)) &&& 0x3f).toInt64.toUInt64).toInt64) <<< (x1 &&& 0x3f).toInt64)) h0 n0 Z0) hZ (hw _ (List.mem_of_getElem? (i := 39) rfl)) (hw _ (List.mem_of_getElem? (i := 38) rfl)) (by decide) (by decide)) (g := (mkF m 43 #[.val (.ref x0), .val (.int x1), .val (.int x2), .unset] [(.long ((B (x1 >>> ((6 : Int32) &&& 31)).toNatClampNeg) &&& ((((-1 : Int64).toUInt64 >>> ((-(x2 - x1)) &&& 0x3f).toInt64.toUInt64).toInt64) <<< (x1 &&& 0x3f).toInt64)))])) rfl (by rw [hml]; rfl) (argsL := [(.long ((B (x1 >>> ((6 : Int32) &&& 31)).toNatClampNeg) &&& ((((-1 : Int64).toUInt64 >>> ((-(x2 - x1)) &&& 0x3f).toInt64.toUInt64).toInt64) <<< (x1 &&& 0x3f).toInt64)))]) (rest := []) (lenOf own_pd0 rfl) rfl (by show 2 * 0 + _ ≤ _; exact Nat.le_of_eq rfl) (hb hby own_d6_43) (fun _ _ => ⟨rfl, e1, (by decide : 0 + 0 ≤ _), (by decide : 0 + 0 ≤ _)⟩)
      dsimp only [Pt.U, Pt.locs, Pt.cells, Pt.slots] at X2 l2 y2 z2 st2 hQ2
      subst l2 y2 z2
      obtain ⟨rfl, N2q, e2⟩ := hQ2
      have N2 := Fr.app N N2q
      refine own_back (fun t k => st2 t k) ?_
      show own_Go _ _ _ _ _ _ _ (T2.setTop (mkF m 46 #[.val (.ref x0), .val (.int x1), .val (.int x2), .unset] [(.int (own_f7_0 ((B (x1 >>> ((6 : Int32) &&& 31)).toNatClampNeg) &&& ((((-1 : Int64).toUInt64 >>> ((-(x2 - x1)) &&& 0x3f).toInt64.toUInt64).toInt64) <<< (x1 &&& 0x3f).toInt64))))]))
      refine own_back (fun t k => XS.istoreN X2.here hx rfl (hb hby own_d6_46) rfl (l' := #[.val (.ref x0), .val (.int x1), .val (.int x2), .val (.int (own_f7_0 ((B (x1 >>> ((6 : Int32) &&& 31)).toNatClampNeg) &&& ((((-1 : Int64).toUInt64 >>> ((-(x2 - x1)) &&& 0x3f).toInt64.toUInt64).toInt64) <<< (x1 &&& 0x3f).toInt64))))]) rfl k) ?_
      show own_Go _ _ _ _ _ _ _ (T2.setTop (mkF m 47 #[.val (.ref x0), .val (.int x1), .val (.int x2), .val (.int (own_f7_0 ((B (x1 >>> ((6 : Int32) &&& 31)).toNatClampNeg) &&& ((((-1 : Int64).toUInt64 >>> ((-(x2 - x1)) &&& 0x3f).toInt64.toUInt64).toInt64) <<< (x1 &&& 0x3f).toInt64))))] []))
      refine own_back (fun t k => XS.goto X2.here hx rfl (pc0 := 47) (pc' := 62) rfl (hb hby own_d6_47) (by decide) (by decide) k) ?_
      show own_Go _ _ _ _ _ _ _ (T2.setTop (mkF m 62 #[.val (.ref x0), .val (.int x1), .val (.int x2), .val (.int (own_f7_0 ((B (x1 >>> ((6 : Int32) &&& 31)).toNatClampNeg) &&& ((((-1 : Int64).toUInt64 >>> ((-(x2 - x1)) &&& 0x3f).toInt64.toUInt64).toInt64) <<< (x1 &&& 0x3f).toInt64))))] []))
      refine own_back (fun t k => XS.iloadN X2.here hx rfl (hb hby own_d6_62) rfl k) ?_
      show own_Go _ _ _ _ _ _ _ (T2.setTop (mkF m 63 #[.val (.ref x0), .val (.int x1), .val (.int x2), .val (.int (own_f7_0 ((B (x1 >>> ((6 : Int32) &&& 31)).toNatClampNeg) &&& ((((-1 : Int64).toUInt64 >>> ((-(x2 - x1)) &&& 0x3f).toInt64.toUInt64).toInt64) <<< (x1 &&& 0x3f).toInt64))))] [(.int (own_f7_0 ((B (x1 >>> ((6 : Int32) &&& 31)).toNatClampNeg) &&& ((((-1 : Int64).toUInt64 >>> ((-(x2 - x1)) &&& 0x3f).toInt64.toUInt64).toInt64) <<< (x1 &&& 0x3f).toInt64))))]))
      subst hR
      exact own_retI X2 hx hret (hb hby own_d6_63) hlk ⟨rfl, N2, e2⟩ (by decide) (by decide)
    · rw [if_neg hc20] at hR
      refine own_back (fun t k => XS.icmpYes X.here hx rfl (pc0 := 20) (pc' := 50) rfl (hb hby own_d6_20) rfl (feq hc20).2 (by decide) (by decide) k) ?_
      show own_Go _ _ _ _ _ _ _ (T.setTop (mkF m 50 #[.val (.ref x0), .val (.int x1), .val (.int x2), .unset] []))
      refine own_back (fun t k => XS.aloadN X.here hx rfl (hb hby own_d6_50) rfl rfl k) ?_
      show own_Go _ _ _ _ _ _ _ (T.setTop (mkF m 51 #[.val (.ref x0), .val (.int x1), .val (.int x2), .unset] [(.ref x0)]))
      refine own_back (fun t k => XS.iloadN X.here hx rfl (hb hby own_d6_51) rfl k) ?_
      show own_Go _ _ _ _ _ _ _ (T.setTop (mkF m 52 #[.val (.ref x0), .val (.int x1), .val (.int x2), .unset] [(.int x2), (.ref x0)]))
      obtain ⟨cq3, q3, q3'⟩ := HP.1.cell
      obtain ⟨_, _, ⟨T3, L3, k3, n3⟩, -, X3, ⟨Lc3, hQ3, l3, y3, z3⟩, st3⟩ := X.privateBack hx (y := (⟨"com/example/furl/furl/tree/PositionCounts", "before", "(I)I"⟩ : MethodName)) hown (mvT hZ (hw _ (List.mem_of_getElem? (i := 43) rfl))) (mvT hZ (hw _ (List.mem_of_getElem? (i := 44) rfl))) (own_selb hZ hw) (Cond.privateMethod_at (mvP hZ (hw _ (List.mem_of_getElem? (i := 45) rfl)) (args := #[]))) (mvT hZ (hw _ (List.mem_of_getElem? (i := 46) rfl))) (by decide) (backOf (W := 0) (own_rm8 l Z a0 hw [] x0 x2 aB aW NN B W h0 n0 Z0 HP h2x (by omega) hM) hZ (hw _ (List.mem_of_getElem? (i := 46) rfl)) (hw _ (List.mem_of_getElem? (i := 3) rfl)) (by decide) (by decide)) (g := (mkF m 52 #[.val (.ref x0), .val (.int x1), .val (.int x2), .unset] [(.int x2), (.ref x0)])) rfl (by rw [hml]; rfl) (Steps.refl _) (a := x0) (by rw [e0]; exact q3) q3' (argsL := [(.int x2)]) (rest := []) (lenOf own_pd1 rfl) rfl (by show 2 * 0 + _ ≤ _; exact Nat.le_of_eq rfl) (hb hby own_d6_52) (fun _ _ => ⟨rfl, e0, (by decide : 0 + 0 ≤ _), (by decide : 0 + 0 ≤ _)⟩)
      dsimp only [Pt.U, Pt.locs, Pt.cells, Pt.slots] at X3 l3 y3 z3 st3 hQ3
      subst l3 y3 z3
      obtain ⟨rfl, N3q, e3⟩ := hQ3
      have N3 := Fr.app N N3q
      refine own_back (fun t k => st3.trans k) ?_
      show own_Go _ _ _ _ _ _ _ (T3.setTop (mkF m 55 #[.val (.ref x0), .val (.int x1), .val (.int x2), .unset] [(.int (own_f8_0 NN B W x2))]))
      refine own_back (fun t k => XS.aloadN X3.here hx rfl (hb hby own_d6_55) rfl rfl k) ?_
      show own_Go _ _ _ _ _ _ _ (T3.setTop (mkF m 56 #[.val (.ref x0), .val (.int x1), .val (.int x2), .unset] [(.ref x0), (.int (own_f8_0 NN B W x2))]))
      refine own_back (fun t k => XS.iloadN X3.here hx rfl (hb hby own_d6_56) rfl k) ?_
      show own_Go _ _ _ _ _ _ _ (T3.setTop (mkF m 57 #[.val (.ref x0), .val (.int x1), .val (.int x2), .unset] [(.int x1), (.ref x0), (.int (own_f8_0 NN B W x2))]))
      obtain ⟨cq4, q4, q4'⟩ := HP.1.cell
      obtain ⟨_, _, ⟨T4, L4, k4, n4⟩, -, X4, ⟨Lc4, hQ4, l4, y4, z4⟩, st4⟩ := X3.privateBack hx (y := (⟨"com/example/furl/furl/tree/PositionCounts", "before", "(I)I"⟩ : MethodName)) hown (mvT hZ (hw _ (List.mem_of_getElem? (i := 43) rfl))) (mvT hZ (hw _ (List.mem_of_getElem? (i := 44) rfl))) (own_selb hZ hw) (Cond.privateMethod_at (mvP hZ (hw _ (List.mem_of_getElem? (i := 45) rfl)) (args := #[]))) (mvT hZ (hw _ (List.mem_of_getElem? (i := 46) rfl))) (by decide) (backOf (W := 1) (own_rm8 l Z a0 hw [] x0 x1 aB aW NN B W h0 n0 Z0 HP h1x (own_lt64 h1x hc2 h2N) hM) hZ (hw _ (List.mem_of_getElem? (i := 46) rfl)) (hw _ (List.mem_of_getElem? (i := 3) rfl)) (by decide) (by decide)) (g := (mkF m 57 #[.val (.ref x0), .val (.int x1), .val (.int x2), .unset] [(.int x1), (.ref x0), (.int (own_f8_0 NN B W x2))])) rfl (by rw [hml]; rfl) (Steps.refl _) (a := x0) (by rw [e3]; exact q4) q4' (argsL := [(.int x1)]) (rest := [(.int (own_f8_0 NN B W x2))]) (lenOf own_pd1 rfl) rfl (by show 2 * 0 + _ ≤ _; exact Nat.le_of_eq rfl) (hb hby own_d6_57) (fun _ _ => ⟨rfl, e3, (by decide : 0 + 0 ≤ _), (by decide : 0 + 0 ≤ _)⟩)
      dsimp only [Pt.U, Pt.locs, Pt.cells, Pt.slots] at X4 l4 y4 z4 st4 hQ4
      subst l4 y4 z4
      obtain ⟨rfl, N4q, e4⟩ := hQ4
      have N4 := Fr.app N3 N4q
      refine own_back (fun t k => st4.trans k) ?_
      show own_Go _ _ _ _ _ _ _ (T4.setTop (mkF m 60 #[.val (.ref x0), .val (.int x1), .val (.int x2), .unset] [(.int (own_f8_0 NN B W x1)), (.int (own_f8_0 NN B W x2))]))
      refine own_back (fun t k => XS.isub X4.here hx rfl (hb hby own_d6_60) rfl k) ?_
      show own_Go _ _ _ _ _ _ _ (T4.setTop (mkF m 61 #[.val (.ref x0), .val (.int x1), .val (.int x2), .unset] [(.int ((own_f8_0 NN B W x2) - (own_f8_0 NN B W x1)))]))
      refine own_back (fun t k => XS.istoreN X4.here hx rfl (hb hby own_d6_61) rfl (l' := #[.val (.ref x0), .val (.int x1), .val (.int x2), .val (.int ((own_f8_0 NN B W x2) - (own_f8_0 NN B W x1)))]) rfl k) ?_
      show own_Go _ _ _ _ _ _ _ (T4.setTop (mkF m 62 #[.val (.ref x0), .val (.int x1), .val (.int x2), .val (.int ((own_f8_0 NN B W x2) - (own_f8_0 NN B W x1)))] []))
      refine own_back (fun t k => XS.iloadN X4.here hx rfl (hb hby own_d6_62) rfl k) ?_
      show own_Go _ _ _ _ _ _ _ (T4.setTop (mkF m 63 #[.val (.ref x0), .val (.int x1), .val (.int x2), .val (.int ((own_f8_0 NN B W x2) - (own_f8_0 NN B W x1)))] [(.int ((own_f8_0 NN B W x2) - (own_f8_0 NN B W x1)))]))
      subst hR
      exact own_retI X4 hx hret (hb hby own_d6_63) hlk ⟨rfl, N4, e4⟩ (by decide) (by decide)
  · rw [if_neg hc2] at hR
    refine own_back (fun t k => XS.icmpNo X.here hx rfl (hb hby own_d6_2) rfl (flt hc2).1 k) ?_
    show own_Go _ _ _ _ _ _ _ (T.setTop (mkF m 5 #[.val (.ref x0), .val (.int x1), .val (.int x2), .unset] []))
    refine own_back (fun t k => XS.iconst X.here hx rfl (hb hby own_d6_5) k) ?_
    show own_Go _ _ _ _ _ _ _ (T.setTop (mkF m 6 #[.val (.ref x0), .val (.int x1), .val (.int x2), .unset] [(.int (0 : Int32))]))
    refine own_back (fun t k => XS.istoreN X.here hx rfl (hb hby own_d6_6) rfl (l' := #[.val (.ref x0), .val (.int x1), .val (.int x2), .val (.int (0 : Int32))]) rfl k) ?_
    show own_Go _ _ _ _ _ _ _ (T.setTop (mkF m 7 #[.val (.ref x0), .val (.int x1), .val (.int x2), .val (.int (0 : Int32))] []))
    refine own_back (fun t k => XS.goto X.here hx rfl (pc0 := 7) (pc' := 62) rfl (hb hby own_d6_7) (by decide) (by decide) k) ?_
    show own_Go _ _ _ _ _ _ _ (T.setTop (mkF m 62 #[.val (.ref x0), .val (.int x1), .val (.int x2), .val (.int (0 : Int32))] []))
    refine own_back (fun t k => XS.iloadN X.here hx rfl (hb hby own_d6_62) rfl k) ?_
    show own_Go _ _ _ _ _ _ _ (T.setTop (mkF m 63 #[.val (.ref x0), .val (.int x1), .val (.int x2), .val (.int (0 : Int32))] [(.int (0 : Int32))]))
    subst hR
    exact own_retI X hx hret (hb hby own_d6_63) hlk ⟨rfl, N, e0⟩ (by decide) (by decide)
theorem own_pn6 : plainName "com/example/furl/furl/tree/PositionCounts" = true := by first | (simp [plainName, overriddenIn]; done) | decide +kernel
theorem own_ef6 (m : MethodId) (x0 : Addr) (x1 : Int32) (x2 : Int32) : entryFrame m #[(.ref x0), (.int x1), (.int x2)] 4 = mkF m 0 #[.val (.ref x0), .val (.int x1), .val (.int x2), .unset] [] := by first | (simp [entryFrame, mkF, argsToLocals, Value.category]; done) | rfl
set_option maxRecDepth 65536 in
set_option maxHeartbeats 4000000 in
theorem own_rm6 (l : Launch) (Z : State) (a0 : Array Value) (hw : ∀ d ∈ tables_1, d.before a0 Z = true) (ws : List Jvm.Cond) (x0 : Addr) (x1 : Int32) (x2 : Int32) (aB : Addr) (aW : Addr) (NN : Nat) (B : Nat → Int64) (W : Nat → Int32) (h0 : Heap) (n0 : Nat) (Z0 : n0 ≤ h0.size) (HP : own_PC Z h0 n0 x0 aB aW NN B W) (h1x : ¬ x1 < 0) (h2x : ¬ x2 < 0) (h2N : x2.toNatClampNeg ≤ 64 * NN) (hM : NN ≤ 16) :
    MetFree l (⟨"com/example/furl/furl/tree/PositionCounts", "in", "(II)I"⟩ : MethodName) (head1 (Jvm.Cond.code (⟨"com/example/furl/furl/tree/PositionCounts", "in", "(II)I"⟩ : MethodName) prog_112_method_4_code 4 (some .int) :: ws) ({ frames := 2, cells := 0, slots := 0, locals := 30 } : Room)) (fun a U => a = #[(.ref x0), (.int x1), (.int x2)] ∧ Z.Warmed39 U.vm ∧ U.heap = h0) (fun _ _ _ _ _ => True) (fun _ U o U' => ∃ v L, o = .returned v ∧ own_QP (.int (own_f6_0 NN B W x1 x2)) h0 n0 v U'.heap L ∧ FrameEnd U o U' L ({ frames := 2, cells := 0, slots := 0, locals := 30 } : Room).cells ({ frames := 2, cells := 0, slots := 0, locals := 30 } : Room).slots) := by
  refine MetFree.of_bodySF (plainFor_of_name own_pn6) hisR ?_
  intro p e s m args below meth c s₁ Bd hml0 hP hK
  obtain ⟨rfl, hZ, hh⟩ := hP
  have X0 : Stand p l e ({ frames := 2, cells := 0, slots := 0, locals := 30 } : Room) s m #[(.ref x0), (.int x1), (.int x2)] below meth c s₁ [] 0 0 := Stand.of_body Bd
  have e0 : s₁.heap = h0 := by rw [← hh, Bd.state]; rfl
  refine own_back (s := s) (fun t k => castTop (own_ef6 m x0 x1 x2) k) ?_
  exact own_l6_0 X0 Bd.exec hZ hw Bd.bytes hml0 (findClass_of_methodNamed Bd.named) Bd.returns (BodyLoose.notSynchronized Bd) e0 (Fr.nil n0) Z0 x0 aB aW NN B W x1 x2 rfl HP h1x h2x h2N hM
/-! body 4: com/example/furl/furl/tree/PositionCountsAddPinLaw.hit:(ZIII)I -/
theorem own_d4_0 : decode method_2_code 0 = .ok (.iload_n 0, 1) := by decide +kernel
theorem own_d4_1 : decode method_2_code 1 = .ok (.ifCond .eq 17, 3) := by decide +kernel
theorem own_d4_4 : decode method_2_code 4 = .ok (.iload_n 2, 1) := by decide +kernel
theorem own_d4_5 : decode method_2_code 5 = .ok (.iload_n 1, 1) := by decide +kernel
theorem own_d4_6 : decode method_2_code 6 = .ok (.if_icmp .gt 12, 3) := by decide +kernel
theorem own_d4_9 : decode method_2_code 9 = .ok (.iload_n 1, 1) := by decide +kernel
theorem own_d4_10 : decode method_2_code 10 = .ok (.iload_n 3, 1) := by decide +kernel
theorem own_d4_11 : decode method_2_code 11 = .ok (.if_icmp .ge 7, 3) := by decide +kernel
theorem own_d4_14 : decode method_2_code 14 = .ok (.iconst 1, 1) := by decide +kernel
theorem own_d4_15 : decode method_2_code 15 = .ok (.goto 4, 3) := by decide +kernel
theorem own_d4_18 : decode method_2_code 18 = .ok (.iconst 0, 1) := by decide +kernel
theorem own_d4_19 : decode method_2_code 19 = .ok (.ireturn, 1) := by decide +kernel
def own_f4_0 (x0 : Int32) (x1 : Int32) (x2 : Int32) (x3 : Int32) : Int32 := (if x0 = (0 : Int32) then (0 : Int32) else (if x1 < x2 then (0 : Int32) else (if x1 < x3 then (1 : Int32) else (0 : Int32))))
set_option maxRecDepth 65536 in
set_option maxHeartbeats 4000000 in
theorem own_l4_0 {p : Program} {l : Launch} {e : Env} {s : State} {m : MethodId} {args : Array Value} {below : List Frame} {meth : Method} {c : Code} {T : State} {locs : List Loc} {Z : State} {a0 : Array Value} {h0 : Heap} {n0 : Nat}
    (X : Stand p l e ({ frames := 0, cells := 0, slots := 0, locals := 0 } : Room) s m args below meth c T locs 0 0) (hx : p.tables.exec = Jvm.exec) (hZ : Z.Warmed39 s.vm) (hw : ∀ d ∈ tables_1, d.before a0 Z = true) (hby : c.code = method_2_code) (hml : c.maxLocals = 4) (hown : s.vm.findClass "com/example/furl/furl/tree/PositionCountsAddPinLaw" = some m.cls) (hret : meth.sig.returnType = some .int) (hlk : meth.locks = false) (e0 : T.heap = h0) (N : Fr n0 locs) (Z0 : n0 ≤ h0.size)
    (x0 : Int32) (x1 : Int32) (x2 : Int32) (x3 : Int32) {r : Int32} (hR : r = own_f4_0 x0 x1 x2 x3) : own_Go p e below s ({ frames := 0, cells := 0, slots := 0, locals := 0 } : Room).cells ({ frames := 0, cells := 0, slots := 0, locals := 0 } : Room).slots (own_QP (.int r) h0 n0) (T.setTop (mkF m 0 #[.val (.int x0), .val (.int x1), .val (.int x2), .val (.int x3)] [])) := by
  unfold own_f4_0 at hR
  refine own_back (fun t k => XS.iloadN X.here hx rfl (hb hby own_d4_0) rfl k) ?_
  show own_Go _ _ _ _ _ _ _ (T.setTop (mkF m 1 #[.val (.int x0), .val (.int x1), .val (.int x2), .val (.int x3)] [(.int x0)]))
  by_cases hc1 : x0 = (0 : Int32)
  · rw [if_pos hc1] at hR
    refine own_back (fun t k => XS.ifYes X.here hx rfl (pc0 := 1) (pc' := 18) rfl (hb hby own_d4_1) rfl ((if0 _ _).trans (teq hc1).1) (by decide) (by decide) k) ?_
    show own_Go _ _ _ _ _ _ _ (T.setTop (mkF m 18 #[.val (.int x0), .val (.int x1), .val (.int x2), .val (.int x3)] []))
    refine own_back (fun t k => XS.iconst X.here hx rfl (hb hby own_d4_18) k) ?_
    show own_Go _ _ _ _ _ _ _ (T.setTop (mkF m 19 #[.val (.int x0), .val (.int x1), .val (.int x2), .val (.int x3)] [(.int (0 : Int32))]))
    subst hR
    exact own_retI X hx hret (hb hby own_d4_19) hlk ⟨rfl, N, e0⟩ (by decide) (by decide)
  · rw [if_neg hc1] at hR
    refine own_back (fun t k => XS.ifNo X.here hx rfl (hb hby own_d4_1) rfl ((if0 _ _).trans (feq hc1).1) k) ?_
    show own_Go _ _ _ _ _ _ _ (T.setTop (mkF m 4 #[.val (.int x0), .val (.int x1), .val (.int x2), .val (.int x3)] []))
    refine own_back (fun t k => XS.iloadN X.here hx rfl (hb hby own_d4_4) rfl k) ?_
    show own_Go _ _ _ _ _ _ _ (T.setTop (mkF m 5 #[.val (.int x0), .val (.int x1), .val (.int x2), .val (.int x3)] [(.int x2)]))
    refine own_back (fun t k => XS.iloadN X.here hx rfl (hb hby own_d4_5) rfl k) ?_
    show own_Go _ _ _ _ _ _ _ (T.setTop (mkF m 6 #[.val (.int x0), .val (.int x1), .val (.int x2), .val (.int x3)] [(.int x1), (.int x2)]))
    by_cases hc6 : x1 < x2
    · rw [if_pos hc6] at hR
      refine own_back (fun t k => XS.icmpYes X.here hx rfl (pc0 := 6) (pc' := 18) rfl (hb hby own_d4_6) rfl (tlt hc6).2.2.1 (by decide) (by decide) k) ?_
      show own_Go _ _ _ _ _ _ _ (T.setTop (mkF m 18 #[.val (.int x0), .val (.int x1), .val (.int x2), .val (.int x3)] []))
      refine own_back (fun t k => XS.iconst X.here hx rfl (hb hby own_d4_18) k) ?_
      show own_Go _ _ _ _ _ _ _ (T.setTop (mkF m 19 #[.val (.int x0), .val (.int x1), .val (.int x2), .val (.int x3)] [(.int (0 : Int32))]))
      subst hR
      exact own_retI X hx hret (hb hby own_d4_19) hlk ⟨rfl, N, e0⟩ (by decide) (by decide)
    · rw [if_neg hc6] at hR
      refine own_back (fun t k => XS.icmpNo X.here hx rfl (hb hby own_d4_6) rfl (flt hc6).2.2.1 k) ?_
      show own_Go _ _ _ _ _ _ _ (T.setTop (mkF m 9 #[.val (.int x0), .val (.int x1), .val (.int x2), .val (.int x3)] []))
      refine own_back (fun t k => XS.iloadN X.here hx rfl (hb hby own_d4_9) rfl k) ?_
      show own_Go _ _ _ _ _ _ _ (T.setTop (mkF m 10 #[.val (.int x0), .val (.int x1), .val (.int x2), .val (.int x3)] [(.int x1)]))
      refine own_back (fun t k => XS.iloadN X.here hx rfl (hb hby own_d4_10) rfl k) ?_
      show own_Go _ _ _ _ _ _ _ (T.setTop (mkF m 11 #[.val (.int x0), .val (.int x1), .val (.int x2), .val (.int x3)] [(.int x3), (.int x1)]))
      by_cases hc11 : x1 < x3
      · rw [if_pos hc11] at hR
        refine own_back (fun t k => XS.icmpNo X.here hx rfl (hb hby own_d4_11) rfl (tlt hc11).2.1 k) ?_
        show own_Go _ _ _ _ _ _ _ (T.setTop (mkF m 14 #[.val (.int x0), .val (.int x1), .val (.int x2), .val (.int x3)] []))
        refine own_back (fun t k => XS.iconst X.here hx rfl (hb hby own_d4_14) k) ?_
        show own_Go _ _ _ _ _ _ _ (T.setTop (mkF m 15 #[.val (.int x0), .val (.int x1), .val (.int x2), .val (.int x3)] [(.int (1 : Int32))]))
        refine own_back (fun t k => XS.goto X.here hx rfl (pc0 := 15) (pc' := 19) rfl (hb hby own_d4_15) (by decide) (by decide) k) ?_
        show own_Go _ _ _ _ _ _ _ (T.setTop (mkF m 19 #[.val (.int x0), .val (.int x1), .val (.int x2), .val (.int x3)] [(.int (1 : Int32))]))
        subst hR
        exact own_retI X hx hret (hb hby own_d4_19) hlk ⟨rfl, N, e0⟩ (by decide) (by decide)
      · rw [if_neg hc11] at hR
        refine own_back (fun t k => XS.icmpYes X.here hx rfl (pc0 := 11) (pc' := 18) rfl (hb hby own_d4_11) rfl (flt hc11).2.1 (by decide) (by decide) k) ?_
        show own_Go _ _ _ _ _ _ _ (T.setTop (mkF m 18 #[.val (.int x0), .val (.int x1), .val (.int x2), .val (.int x3)] []))
        refine own_back (fun t k => XS.iconst X.here hx rfl (hb hby own_d4_18) k) ?_
        show own_Go _ _ _ _ _ _ _ (T.setTop (mkF m 19 #[.val (.int x0), .val (.int x1), .val (.int x2), .val (.int x3)] [(.int (0 : Int32))]))
        subst hR
        exact own_retI X hx hret (hb hby own_d4_19) hlk ⟨rfl, N, e0⟩ (by decide) (by decide)
theorem own_pn4 : plainName "com/example/furl/furl/tree/PositionCountsAddPinLaw" = true := by first | (simp [plainName, overriddenIn]; done) | decide +kernel
theorem own_ef4 (m : MethodId) (x0 : Int32) (x1 : Int32) (x2 : Int32) (x3 : Int32) : entryFrame m #[(.int x0), (.int x1), (.int x2), (.int x3)] 4 = mkF m 0 #[.val (.int x0), .val (.int x1), .val (.int x2), .val (.int x3)] [] := by first | (simp [entryFrame, mkF, argsToLocals, Value.category]; done) | rfl
set_option maxRecDepth 65536 in
set_option maxHeartbeats 4000000 in
theorem own_rm4 (l : Launch) (Z : State) (a0 : Array Value) (hw : ∀ d ∈ tables_1, d.before a0 Z = true) (ws : List Jvm.Cond) (x0 : Int32) (x1 : Int32) (x2 : Int32) (x3 : Int32) (h0 : Heap) (n0 : Nat) (Z0 : n0 ≤ h0.size) :
    MetFree l (⟨"com/example/furl/furl/tree/PositionCountsAddPinLaw", "hit", "(ZIII)I"⟩ : MethodName) (head1 (Jvm.Cond.code (⟨"com/example/furl/furl/tree/PositionCountsAddPinLaw", "hit", "(ZIII)I"⟩ : MethodName) method_2_code 4 (some .int) :: ws) ({ frames := 0, cells := 0, slots := 0, locals := 0 } : Room)) (fun a U => a = #[(.int x0), (.int x1), (.int x2), (.int x3)] ∧ Z.Warmed39 U.vm ∧ U.heap = h0) (fun _ _ _ _ _ => True) (fun _ U o U' => ∃ v L, o = .returned v ∧ own_QP (.int (own_f4_0 x0 x1 x2 x3)) h0 n0 v U'.heap L ∧ FrameEnd U o U' L ({ frames := 0, cells := 0, slots := 0, locals := 0 } : Room).cells ({ frames := 0, cells := 0, slots := 0, locals := 0 } : Room).slots) := by
  refine MetFree.of_bodySF (plainFor_of_name own_pn4) hisR ?_
  intro p e s m args below meth c s₁ Bd hml0 hP hK
  obtain ⟨rfl, hZ, hh⟩ := hP
  have X0 : Stand p l e ({ frames := 0, cells := 0, slots := 0, locals := 0 } : Room) s m #[(.int x0), (.int x1), (.int x2), (.int x3)] below meth c s₁ [] 0 0 := Stand.of_body Bd
  have e0 : s₁.heap = h0 := by rw [← hh, Bd.state]; rfl
  refine own_back (s := s) (fun t k => castTop (own_ef4 m x0 x1 x2 x3) k) ?_
  exact own_l4_0 X0 Bd.exec hZ hw Bd.bytes hml0 (findClass_of_methodNamed Bd.named) Bd.returns (BodyLoose.notSynchronized Bd) e0 (Fr.nil n0) Z0 x0 x1 x2 x3 rfl
def own_rg1 (i6 i7 i8 : Int32) : Prop := ¬ i6 < 0 ∧ 1 ≤ i6.toNatClampNeg ∧ i6.toNatClampNeg ≤ 512 ∧ (¬ i7 < 0 ∧ i7.toNatClampNeg < i6.toNatClampNeg) ∧ (¬ i8 < 0 ∧ i8.toNatClampNeg < i6.toNatClampNeg)
theorem own_c (x : Int32) : 1 ≤ ((1 : Int32) + (x &&& (511 : Int32))).toInt ∧ ((1 : Int32) + (x &&& (511 : Int32))).toInt ≤ 512 := by
  have e : (x &&& (511 : Int32)).toInt = x.toInt % 512 := c_mask x 511 9 (by decide) (by decide)
  have a := c_iadd 1 (x &&& (511 : Int32))
  have r := rng32 (1 + (x &&& (511 : Int32)))
  have z : (1 : Int32).toInt = 1 := rfl
  omega
theorem own_cnz (x : Int32) : ((1 : Int32) + (x &&& (511 : Int32))) ≠ 0 := fun q => by
  have a := own_c x
  rw [q] at a
  exact absurd a.1 (by decide)
theorem own_rg1_in (x a b : Int32) : own_rg1 ((1 : Int32) + (x &&& (511 : Int32))) ((a &&& (2147483647 : Int32)) % ((1 : Int32) + (x &&& (511 : Int32)))) ((b &&& (2147483647 : Int32)) % ((1 : Int32) + (x &&& (511 : Int32)))) := by
  have hc := own_c x
  generalize (1 : Int32) + (x &&& (511 : Int32)) = c at *
  have n := own_nn0 (x := c) (by omega)
  have ra := own_rem a c hc.1
  have rb := own_rem b c hc.1
  exact ⟨n.1, by omega, by omega, ⟨ra.1, by omega⟩, ⟨rb.1, by omega⟩⟩
theorem own_nn1 {x : Int32} (h : ¬ x < 0) : (x.toNatClampNeg : Int) = x.toInt := by
  have z : (0 : Int32).toInt = 0 := rfl
  have g : ¬ x.toInt < 0 := fun q => h (own_lt.mpr (by omega))
  show ((x.toInt.toNat : Nat) : Int) = x.toInt
  omega
theorem own_up1 {i6 i7 i8 : Int32} (h : own_rg1 i6 i7 i8) : (i6 + (1 : Int32)).toInt = i6.toInt + 1 ∧ 1 ≤ i6.toInt ∧ i6.toInt ≤ 512 := by
  obtain ⟨h0, h1, h2, -⟩ := h
  have e := own_nn1 h0
  have a := c_iadd i6 1
  have r := rng32 (i6 + 1)
  have z : (1 : Int32).toInt = 1 := rfl
  omega
theorem own_nz1 {i6 i7 i8 : Int32} (h : own_rg1 i6 i7 i8) : i6 ≠ 0 := fun q => by
  have a := (own_up1 h).2.1
  rw [q] at a
  exact absurd a (by decide)
theorem own_nz2 {i6 i7 i8 : Int32} (h : own_rg1 i6 i7 i8) : i6 + (1 : Int32) ≠ 0 := fun q => by
  have a := own_up1 h
  rw [q] at a
  have z : (0 : Int32).toInt = 0 := rfl
  omega
def own_rg2 (N : Nat) (i6 i7 i8 i12 i13 i14 : Int32) : Prop := N ≤ 8 ∧ own_ok N i7 ∧ own_ok N i8 ∧ own_ok N i12 ∧ (¬ i13 < 0 ∧ i13.toNatClampNeg ≤ 64 * N) ∧ (¬ i14 < 0 ∧ i14.toNatClampNeg ≤ 64 * N) ∧ (¬ i6 < 0 ∧ i6.toNatClampNeg ≤ 64 * N)
theorem own_rg2_of {i6 i7 i8 : Int32} (h : own_rg1 i6 i7 i8) (a b c : Int32) : own_rg2 ((i6.toNatClampNeg + 63) / 64) i6 i7 i8 ((a &&& (2147483647 : Int32)) % i6) ((b &&& (2147483647 : Int32)) % (i6 + (1 : Int32))) ((c &&& (2147483647 : Int32)) % (i6 + (1 : Int32))) := by
  have u := own_up1 h
  obtain ⟨h0, h1, h2, h3, h4⟩ := h
  have e := own_nn1 h0
  have ra := own_rem a i6 (by omega)
  have rb := own_rem b (i6 + (1 : Int32)) (by omega)
  have rc := own_rem c (i6 + (1 : Int32)) (by omega)
  exact ⟨by omega, ⟨h3.1, by omega⟩, ⟨h4.1, by omega⟩, ⟨ra.1, by omega⟩, ⟨rb.1, by omega⟩, ⟨rc.1, by omega⟩, ⟨h0, by omega⟩⟩
theorem own_pd2 : parseMethodDescriptor "(I)V" = some ⟨[.int], none⟩ := by decide +kernel
theorem own_pd3 : parseMethodDescriptor "(II)V" = some ⟨[.int, .int], none⟩ := by decide +kernel
theorem own_pd4 : parseMethodDescriptor "(ZIII)I" = some ⟨[.boolean, .int, .int, .int], some .int⟩ := by decide +kernel
theorem own_pd5 : parseMethodDescriptor "(I)Z" = some ⟨[.int], some .boolean⟩ := by decide +kernel
theorem own_pd6 : parseMethodDescriptor "(II)I" = some ⟨[.int, .int], some .int⟩ := by decide +kernel
/-! body 0: com/example/furl/furl/tree/PositionCountsAddPinLaw.law:(IIIIII)Z -/
def own_f0_390 (NN : Nat) (B : Nat → Int64) (W : Nat → Int32) (i0 : Int32) (i1 : Int32) (i2 : Int32) (i3 : Int32) (i4 : Int32) (i5 : Int32) (i6 : Int32) (i7 : Int32) (i8 : Int32) (i9 : Int32) (i10 : Int32) (i11 : Int32) (i12 : Int32) (i13 : Int32) (i14 : Int32) (i16 : Int32) (i17 : Int32) (i18 : Int32) (i19 : Int32) (i20 : Int32) (i21 : Int32) (i22 : Int32) (i23 : Int32) (i24 : Int32) (t0 : Int32) : Int32 := (if i21 = (0 : Int32) then (0 : Int32) else (if i22 = (0 : Int32) then (0 : Int32) else (if i23 = (0 : Int32) then (0 : Int32) else (if i24 = (0 : Int32) then (0 : Int32) else (if t0 = (0 : Int32) then (0 : Int32) else (1 : Int32))))))
def own_f0_370 (NN : Nat) (B : Nat → Int64) (W : Nat → Int32) (i0 : Int32) (i1 : Int32) (i2 : Int32) (i3 : Int32) (i4 : Int32) (i5 : Int32) (i6 : Int32) (i7 : Int32) (i8 : Int32) (i9 : Int32) (i10 : Int32) (i11 : Int32) (i12 : Int32) (i13 : Int32) (i14 : Int32) (i16 : Int32) (i17 : Int32) (i18 : Int32) (i19 : Int32) (i20 : Int32) (i21 : Int32) (i22 : Int32) (i23 : Int32) (t0 : Int32) : Int32 := (if (own_f6_0 NN B W (0 : Int32) i6) = i20 then (own_f0_390 NN B W i0 i1 i2 i3 i4 i5 i6 i7 i8 i9 i10 i11 i12 i13 i14 i16 i17 i18 i19 i20 i21 i22 i23 t0 (1 : Int32)) else (own_f0_390 NN B W i0 i1 i2 i3 i4 i5 i6 i7 i8 i9 i10 i11 i12 i13 i14 i16 i17 i18 i19 i20 i21 i22 i23 t0 (0 : Int32)))
def own_f0_349 (NN : Nat) (B : Nat → Int64) (W : Nat → Int32) (i0 : Int32) (i1 : Int32) (i2 : Int32) (i3 : Int32) (i4 : Int32) (i5 : Int32) (i6 : Int32) (i7 : Int32) (i8 : Int32) (i9 : Int32) (i10 : Int32) (i11 : Int32) (i12 : Int32) (i13 : Int32) (i14 : Int32) (i16 : Int32) (i17 : Int32) (i18 : Int32) (i19 : Int32) (i20 : Int32) (i21 : Int32) (i22 : Int32) (t0 : Int32) : Int32 := (if (own_f6_0 NN B W i13 i14) = i19 then (own_f0_370 NN B W i0 i1 i2 i3 i4 i5 i6 i7 i8 i9 i10 i11 i12 i13 i14 i16 i17 i18 i19 i20 i21 i22 t0 (1 : Int32)) else (own_f0_370 NN B W i0 i1 i2 i3 i4 i5 i6 i7 i8 i9 i10 i11 i12 i13 i14 i16 i17 i18 i19 i20 i21 i22 t0 (0 : Int32)))
def own_f0_330 (NN : Nat) (B : Nat → Int64) (W : Nat → Int32) (i0 : Int32) (i1 : Int32) (i2 : Int32) (i3 : Int32) (i4 : Int32) (i5 : Int32) (i6 : Int32) (i7 : Int32) (i8 : Int32) (i9 : Int32) (i10 : Int32) (i11 : Int32) (i12 : Int32) (i13 : Int32) (i14 : Int32) (i16 : Int32) (i17 : Int32) (i18 : Int32) (i19 : Int32) (i20 : Int32) (i21 : Int32) (t0 : Int32) : Int32 := (if (own_f5_0 B i12) = i18 then (own_f0_349 NN B W i0 i1 i2 i3 i4 i5 i6 i7 i8 i9 i10 i11 i12 i13 i14 i16 i17 i18 i19 i20 i21 t0 (1 : Int32)) else (own_f0_349 NN B W i0 i1 i2 i3 i4 i5 i6 i7 i8 i9 i10 i11 i12 i13 i14 i16 i17 i18 i19 i20 i21 t0 (0 : Int32)))
def own_f0_311 (NN : Nat) (B : Nat → Int64) (W : Nat → Int32) (i0 : Int32) (i1 : Int32) (i2 : Int32) (i3 : Int32) (i4 : Int32) (i5 : Int32) (i6 : Int32) (i7 : Int32) (i8 : Int32) (i9 : Int32) (i10 : Int32) (i11 : Int32) (i12 : Int32) (i13 : Int32) (i14 : Int32) (i16 : Int32) (i17 : Int32) (i18 : Int32) (i19 : Int32) (i20 : Int32) (t0 : Int32) : Int32 := (if (own_f5_0 B i8) = i17 then (own_f0_330 NN B W i0 i1 i2 i3 i4 i5 i6 i7 i8 i9 i10 i11 i12 i13 i14 i16 i17 i18 i19 i20 t0 (1 : Int32)) else (own_f0_330 NN B W i0 i1 i2 i3 i4 i5 i6 i7 i8 i9 i10 i11 i12 i13 i14 i16 i17 i18 i19 i20 t0 (0 : Int32)))
def own_f0_291 (NN : Nat) (B : Nat → Int64) (W : Nat → Int32) (i0 : Int32) (i1 : Int32) (i2 : Int32) (i3 : Int32) (i4 : Int32) (i5 : Int32) (i6 : Int32) (i7 : Int32) (i8 : Int32) (i9 : Int32) (i10 : Int32) (i11 : Int32) (i12 : Int32) (i13 : Int32) (i14 : Int32) (i16 : Int32) (i17 : Int32) (i18 : Int32) (i19 : Int32) (t0 : Int32) (t1 : Int32) : Int32 := (if (own_f5_0 B i7) = i16 then (own_f0_311 NN B W i0 i1 i2 i3 i4 i5 i6 i7 i8 i9 i10 i11 i12 i13 i14 i16 i17 i18 i19 (t1 + t0) (1 : Int32)) else (own_f0_311 NN B W i0 i1 i2 i3 i4 i5 i6 i7 i8 i9 i10 i11 i12 i13 i14 i16 i17 i18 i19 (t1 + t0) (0 : Int32)))
def own_f0_290 (NN : Nat) (B : Nat → Int64) (W : Nat → Int32) (i0 : Int32) (i1 : Int32) (i2 : Int32) (i3 : Int32) (i4 : Int32) (i5 : Int32) (i6 : Int32) (i7 : Int32) (i8 : Int32) (i9 : Int32) (i10 : Int32) (i11 : Int32) (i12 : Int32) (i13 : Int32) (i14 : Int32) (i16 : Int32) (i17 : Int32) (i18 : Int32) (i19 : Int32) (t0 : Int32) : Int32 := (own_f0_291 NN B W i0 i1 i2 i3 i4 i5 i6 i7 i8 i9 i10 i11 i12 i13 i14 i16 i17 i18 i19 (0 : Int32) t0)
def own_f0_276 (NN : Nat) (B : Nat → Int64) (W : Nat → Int32) (i0 : Int32) (i1 : Int32) (i2 : Int32) (i3 : Int32) (i4 : Int32) (i5 : Int32) (i6 : Int32) (i7 : Int32) (i8 : Int32) (i9 : Int32) (i10 : Int32) (i11 : Int32) (i12 : Int32) (i13 : Int32) (i14 : Int32) (i16 : Int32) (i17 : Int32) (i18 : Int32) (i19 : Int32) (t0 : Int32) : Int32 := (if i9 = (0 : Int32) then (own_f0_290 NN B W i0 i1 i2 i3 i4 i5 i6 i7 i8 i9 i10 i11 i12 i13 i14 i16 i17 i18 i19 t0) else (if i17 = (0 : Int32) then (own_f0_290 NN B W i0 i1 i2 i3 i4 i5 i6 i7 i8 i9 i10 i11 i12 i13 i14 i16 i17 i18 i19 t0) else (own_f0_291 NN B W i0 i1 i2 i3 i4 i5 i6 i7 i8 i9 i10 i11 i12 i13 i14 i16 i17 i18 i19 (1 : Int32) t0)))
def own_f0_263 (NN : Nat) (B : Nat → Int64) (W : Nat → Int32) (i0 : Int32) (i1 : Int32) (i2 : Int32) (i3 : Int32) (i4 : Int32) (i5 : Int32) (i6 : Int32) (i7 : Int32) (i8 : Int32) (i9 : Int32) (i10 : Int32) (i11 : Int32) (i12 : Int32) (i13 : Int32) (i14 : Int32) (i16 : Int32) (i17 : Int32) (i18 : Int32) (t0 : Int32) (t1 : Int32) : Int32 := (if i16 = (0 : Int32) then (own_f0_276 NN B W i0 i1 i2 i3 i4 i5 i6 i7 i8 i9 i10 i11 i12 i13 i14 i16 i17 i18 (t1 + t0) (0 : Int32)) else (own_f0_276 NN B W i0 i1 i2 i3 i4 i5 i6 i7 i8 i9 i10 i11 i12 i13 i14 i16 i17 i18 (t1 + t0) (1 : Int32)))
def own_f0_230 (NN : Nat) (B : Nat → Int64) (W : Nat → Int32) (i0 : Int32) (i1 : Int32) (i2 : Int32) (i3 : Int32) (i4 : Int32) (i5 : Int32) (i6 : Int32) (i7 : Int32) (i8 : Int32) (i9 : Int32) (i10 : Int32) (i11 : Int32) (i12 : Int32) (i13 : Int32) (i14 : Int32) (i16 : Int32) (i17 : Int32) (t0 : Int32) : Int32 := (if i9 = (0 : Int32) then (own_f0_263 NN B W i0 i1 i2 i3 i4 i5 i6 i7 i8 i9 i10 i11 i12 i13 i14 i16 i17 t0 (0 : Int32) (own_f4_0 i16 i7 i13 i14)) else (own_f0_263 NN B W i0 i1 i2 i3 i4 i5 i6 i7 i8 i9 i10 i11 i12 i13 i14 i16 i17 t0 (own_f4_0 i17 i8 i13 i14) (own_f4_0 i16 i7 i13 i14)))
def own_f0_229 (NN : Nat) (B : Nat → Int64) (W : Nat → Int32) (i0 : Int32) (i1 : Int32) (i2 : Int32) (i3 : Int32) (i4 : Int32) (i5 : Int32) (i6 : Int32) (i7 : Int32) (i8 : Int32) (i9 : Int32) (i10 : Int32) (i11 : Int32) (i12 : Int32) (i13 : Int32) (i14 : Int32) (i16 : Int32) (i17 : Int32) : Int32 := (own_f0_230 NN B W i0 i1 i2 i3 i4 i5 i6 i7 i8 i9 i10 i11 i12 i13 i14 i16 i17 (0 : Int32))
def own_f0_225 (NN : Nat) (B : Nat → Int64) (W : Nat → Int32) (i0 : Int32) (i1 : Int32) (i2 : Int32) (i3 : Int32) (i4 : Int32) (i5 : Int32) (i6 : Int32) (i7 : Int32) (i8 : Int32) (i9 : Int32) (i10 : Int32) (i11 : Int32) (i12 : Int32) (i13 : Int32) (i14 : Int32) (i16 : Int32) (i17 : Int32) : Int32 := (own_f0_230 NN B W i0 i1 i2 i3 i4 i5 i6 i7 i8 i9 i10 i11 i12 i13 i14 i16 i17 (1 : Int32))
def own_f0_213 (NN : Nat) (B : Nat → Int64) (W : Nat → Int32) (i0 : Int32) (i1 : Int32) (i2 : Int32) (i3 : Int32) (i4 : Int32) (i5 : Int32) (i6 : Int32) (i7 : Int32) (i8 : Int32) (i9 : Int32) (i10 : Int32) (i11 : Int32) (i12 : Int32) (i13 : Int32) (i14 : Int32) (i16 : Int32) (i17 : Int32) : Int32 := (if i12 = i8 then (if i17 = (0 : Int32) then (own_f0_229 NN B W i0 i1 i2 i3 i4 i5 i6 i7 i8 i9 i10 i11 i12 i13 i14 i16 i17) else (own_f0_225 NN B W i0 i1 i2 i3 i4 i5 i6 i7 i8 i9 i10 i11 i12 i13 i14 i16 i17)) else (own_f0_229 NN B W i0 i1 i2 i3 i4 i5 i6 i7 i8 i9 i10 i11 i12 i13 i14 i16 i17))
def own_f0_199 (NN : Nat) (B : Nat → Int64) (W : Nat → Int32) (i0 : Int32) (i1 : Int32) (i2 : Int32) (i3 : Int32) (i4 : Int32) (i5 : Int32) (i6 : Int32) (i7 : Int32) (i8 : Int32) (i9 : Int32) (i10 : Int32) (i11 : Int32) (i12 : Int32) (i13 : Int32) (i14 : Int32) (i16 : Int32) (t0 : Int32) : Int32 := (if i12 = i7 then (if i16 = (0 : Int32) then (own_f0_213 NN B W i0 i1 i2 i3 i4 i5 i6 i7 i8 i9 i10 i11 i12 i13 i14 i16 t0) else (own_f0_225 NN B W i0 i1 i2 i3 i4 i5 i6 i7 i8 i9 i10 i11 i12 i13 i14 i16 t0)) else (own_f0_213 NN B W i0 i1 i2 i3 i4 i5 i6 i7 i8 i9 i10 i11 i12 i13 i14 i16 t0))
def own_f0_177 (NN : Nat) (B : Nat → Int64) (W : Nat → Int32) (i0 : Int32) (i1 : Int32) (i2 : Int32) (i3 : Int32) (i4 : Int32) (i5 : Int32) (i6 : Int32) (i7 : Int32) (i8 : Int32) (i9 : Int32) (i10 : Int32) (i11 : Int32) (i12 : Int32) (i13 : Int32) (i14 : Int32) (t0 : Int32) : Int32 := (if i9 = (0 : Int32) then (own_f0_199 NN B W i0 i1 i2 i3 i4 i5 i6 i7 i8 i9 i10 i11 i12 i13 i14 t0 t0) else (if i11 = (0 : Int32) then (own_f0_199 NN B W i0 i1 i2 i3 i4 i5 i6 i7 i8 i9 i10 i11 i12 i13 i14 t0 (1 : Int32)) else (own_f0_199 NN B W i0 i1 i2 i3 i4 i5 i6 i7 i8 i9 i10 i11 i12 i13 i14 t0 (0 : Int32))))
def own_f0_167 (NN : Nat) (B : Nat → Int64) (W : Nat → Int32) (i0 : Int32) (i1 : Int32) (i2 : Int32) (i3 : Int32) (i4 : Int32) (i5 : Int32) (i6 : Int32) (i7 : Int32) (i8 : Int32) (i9 : Int32) (i10 : Int32) (i11 : Int32) (i12 : Int32) (i13 : Int32) (i14 : Int32) : Int32 := (if i10 = (0 : Int32) then (own_f0_177 NN B W i0 i1 i2 i3 i4 i5 i6 i7 i8 i9 i10 i11 i12 i13 i14 (1 : Int32)) else (own_f0_177 NN B W i0 i1 i2 i3 i4 i5 i6 i7 i8 i9 i10 i11 i12 i13 i14 (0 : Int32)))
def own_f0_154 (NN : Nat) (B : Nat → Int64) (W : Nat → Int32) (i0 : Int32) (i1 : Int32) (i2 : Int32) (i3 : Int32) (i4 : Int32) (i5 : Int32) (i6 : Int32) (i7 : Int32) (i8 : Int32) (i9 : Int32) (i10 : Int32) (i11 : Int32) (i12 : Int32) (i13 : Int32) (i14 : Int32) : Int32 := (if i11 = (0 : Int32) then (own_f0_167 NN B W i0 i1 i2 i3 i4 i5 i6 i7 i8 i9 i10 i11 i12 i13 i14) else (own_f0_167 NN (own_tog B i8) (own_cnt W i8 (-1 : Int32)) i0 i1 i2 i3 i4 i5 i6 i7 i8 i9 i10 i11 i12 i13 i14))
def own_f0_141 (NN : Nat) (B : Nat → Int64) (W : Nat → Int32) (i0 : Int32) (i1 : Int32) (i2 : Int32) (i3 : Int32) (i4 : Int32) (i5 : Int32) (i6 : Int32) (i7 : Int32) (i8 : Int32) (i9 : Int32) (i10 : Int32) (i11 : Int32) (i12 : Int32) (i13 : Int32) (i14 : Int32) : Int32 := (if i10 = (0 : Int32) then (own_f0_154 NN B W i0 i1 i2 i3 i4 i5 i6 i7 i8 i9 i10 i11 i12 i13 i14) else (own_f0_154 NN (own_tog B i7) (own_cnt W i7 (-1 : Int32)) i0 i1 i2 i3 i4 i5 i6 i7 i8 i9 i10 i11 i12 i13 i14))
def own_f0_72 (i0 : Int32) (i1 : Int32) (i2 : Int32) (i3 : Int32) (i4 : Int32) (i5 : Int32) (i6 : Int32) (i7 : Int32) (i8 : Int32) (i9 : Int32) (i10 : Int32) (t0 : Int32) : Int32 := (if i9 = (0 : Int32) then (own_f0_141 ((i6.toNatClampNeg + 63) / 64) (own_tog (fun _ => (0 : Int64)) i7) (own_cnt (fun _ => (0 : Int32)) i7 (1 : Int32)) i0 i1 i2 i3 i4 i5 i6 i7 i8 i9 i10 t0 ((((i5.toUInt32 >>> ((2 : Int32) &&& 31).toUInt32).toInt32) &&& (2147483647 : Int32)) % i6) ((i3 &&& (2147483647 : Int32)) % (i6 + (1 : Int32))) ((i4 &&& (2147483647 : Int32)) % (i6 + (1 : Int32)))) else (own_f0_141 ((i6.toNatClampNeg + 63) / 64) (own_tog (own_tog (fun _ => (0 : Int64)) i7) i8) (own_cnt (own_cnt (fun _ => (0 : Int32)) i7 (1 : Int32)) i8 (1 : Int32)) i0 i1 i2 i3 i4 i5 i6 i7 i8 i9 i10 t0 ((((i5.toUInt32 >>> ((2 : Int32) &&& 31).toUInt32).toInt32) &&& (2147483647 : Int32)) % i6) ((i3 &&& (2147483647 : Int32)) % (i6 + (1 : Int32))) ((i4 &&& (2147483647 : Int32)) % (i6 + (1 : Int32)))))
def own_f0_71 (i0 : Int32) (i1 : Int32) (i2 : Int32) (i3 : Int32) (i4 : Int32) (i5 : Int32) (i6 : Int32) (i7 : Int32) (i8 : Int32) (i9 : Int32) (i10 : Int32) : Int32 := (own_f0_72 i0 i1 i2 i3 i4 i5 i6 i7 i8 i9 i10 (0 : Int32))
def own_f0_53 (i0 : Int32) (i1 : Int32) (i2 : Int32) (i3 : Int32) (i4 : Int32) (i5 : Int32) (i6 : Int32) (i7 : Int32) (i8 : Int32) (i9 : Int32) (t0 : Int32) : Int32 := (if i9 = (0 : Int32) then (own_f0_71 i0 i1 i2 i3 i4 i5 i6 i7 i8 i9 t0) else (if (i5 &&& (2 : Int32)) = (0 : Int32) then (own_f0_71 i0 i1 i2 i3 i4 i5 i6 i7 i8 i9 t0) else (own_f0_72 i0 i1 i2 i3 i4 i5 i6 i7 i8 i9 t0 (1 : Int32))))
def own_f0_39 (i0 : Int32) (i1 : Int32) (i2 : Int32) (i3 : Int32) (i4 : Int32) (i5 : Int32) (i6 : Int32) (i7 : Int32) (i8 : Int32) (t0 : Int32) : Int32 := (if (i5 &&& (1 : Int32)) = (0 : Int32) then (own_f0_53 i0 i1 i2 i3 i4 i5 i6 i7 i8 t0 (0 : Int32)) else (own_f0_53 i0 i1 i2 i3 i4 i5 i6 i7 i8 t0 (1 : Int32)))
def own_f0_0 (x0 : Int32) (x1 : Int32) (x2 : Int32) (x3 : Int32) (x4 : Int32) (x5 : Int32) : Int32 := (if ((x2 &&& (2147483647 : Int32)) % ((1 : Int32) + (x0 &&& (511 : Int32)))) = ((x1 &&& (2147483647 : Int32)) % ((1 : Int32) + (x0 &&& (511 : Int32)))) then (own_f0_39 x0 x1 x2 x3 x4 x5 ((1 : Int32) + (x0 &&& (511 : Int32))) ((x1 &&& (2147483647 : Int32)) % ((1 : Int32) + (x0 &&& (511 : Int32)))) ((x2 &&& (2147483647 : Int32)) % ((1 : Int32) + (x0 &&& (511 : Int32)))) (0 : Int32)) else (own_f0_39 x0 x1 x2 x3 x4 x5 ((1 : Int32) + (x0 &&& (511 : Int32))) ((x1 &&& (2147483647 : Int32)) % ((1 : Int32) + (x0 &&& (511 : Int32)))) ((x2 &&& (2147483647 : Int32)) % ((1 : Int32) + (x0 &&& (511 : Int32)))) (1 : Int32)))
set_option maxRecDepth 65536 in
set_option maxHeartbeats 4000000 in
theorem own_l0_390 {p : Program} {l : Launch} {e : Env} {s : State} {m : MethodId} {args : Array Value} {below : List Frame} {meth : Method} {c : Code} {T : State} {locs : List Loc} {Z : State} {a0 : Array Value} {h0 : Heap} {n0 : Nat}
    (X : Stand p l e room_1 s m args below meth c T locs 3 19) (hx : p.tables.exec = Jvm.exec) (hZ : Z.Warmed39 s.vm) (hw : ∀ d ∈ tables_1, d.before a0 Z = true) (hby : c.code = code) (hml : c.maxLocals = 26) (hown : s.vm.findClass "com/example/furl/furl/tree/PositionCountsAddPinLaw" = some m.cls) (hret : meth.sig.returnType = some .boolean) (hlk : meth.locks = false) (e0 : T.heap = h0) (N : Fr n0 locs) (Z0 : n0 ≤ h0.size)
    (aB : Addr) (aW : Addr) (NN : Nat) (B : Nat → Int64) (W : Nat → Int32) (i0 : Int32) (i1 : Int32) (i2 : Int32) (i3 : Int32) (i4 : Int32) (i5 : Int32) (i6 : Int32) (i7 : Int32) (i8 : Int32) (i9 : Int32) (i10 : Int32) (i11 : Int32) (i12 : Int32) (i13 : Int32) (i14 : Int32) (o15 : Addr) (i16 : Int32) (i17 : Int32) (i18 : Int32) (i19 : Int32) (i20 : Int32) (i21 : Int32) (i22 : Int32) (i23 : Int32) (i24 : Int32) (t0 : Int32) {r : Int32} (hR : r = own_f0_390 NN B W i0 i1 i2 i3 i4 i5 i6 i7 i8 i9 i10 i11 i12 i13 i14 i16 i17 i18 i19 i20 i21 i22 i23 i24 t0) (HP : own_PC Z h0 n0 o15 aB aW NN B W) (HR2 : own_rg2 NN i6 i7 i8 i12 i13 i14) : own_Go p e below s room_1.cells room_1.slots (own_QG (.int r) h0 n0) (T.setTop (mkF m 390 #[.val (.int i0), .val (.int i1), .val (.int i2), .val (.int i3), .val (.int i4), .val (.int i5), .val (.int i6), .val (.int i7), .val (.int i8), .val (.int i9), .val (.int i10), .val (.int i11), .val (.int i12), .val (.int i13), .val (.int i14), .val (.ref o15), .val (.int i16), .val (.int i17), .val (.int i18), .val (.int i19), .val (.int i20), .val (.int i21), .val (.int i22), .val (.int i23), .val (.int i24), .unset] [(.int t0)])) := by
  unfold own_f0_390 at hR
  refine own_back (fun t k => XS.istore X.here hx rfl (hb hby at_390) rfl (l' := #[.val (.int i0), .val (.int i1), .val (.int i2), .val (.int i3), .val (.int i4), .val (.int i5), .val (.int i6), .val (.int i7), .val (.int i8), .val (.int i9), .val (.int i10), .val (.int i11), .val (.int i12), .val (.int i13), .val (.int i14), .val (.ref o15), .val (.int i16), .val (.int i17), .val (.int i18), .val (.int i19), .val (.int i20), .val (.int i21), .val (.int i22), .val (.int i23), .val (.int i24), .val (.int t0)]) rfl k) ?_
  show own_Go _ _ _ _ _ _ _ (T.setTop (mkF m 392 #[.val (.int i0), .val (.int i1), .val (.int i2), .val (.int i3), .val (.int i4), .val (.int i5), .val (.int i6), .val (.int i7), .val (.int i8), .val (.int i9), .val (.int i10), .val (.int i11), .val (.int i12), .val (.int i13), .val (.int i14), .val (.ref o15), .val (.int i16), .val (.int i17), .val (.int i18), .val (.int i19), .val (.int i20), .val (.int i21), .val (.int i22), .val (.int i23), .val (.int i24), .val (.int t0)] []))
  refine own_back (fun t k => XS.iload X.here hx rfl (hb hby at_392) rfl k) ?_
  show own_Go _ _ _ _ _ _ _ (T.setTop (mkF m 394 #[.val (.int i0), .val (.int i1), .val (.int i2), .val (.int i3), .val (.int i4), .val (.int i5), .val (.int i6), .val (.int i7), .val (.int i8), .val (.int i9), .val (.int i10), .val (.int i11), .val (.int i12), .val (.int i13), .val (.int i14), .val (.ref o15), .val (.int i16), .val (.int i17), .val (.int i18), .val (.int i19), .val (.int i20), .val (.int i21), .val (.int i22), .val (.int i23), .val (.int i24), .val (.int t0)] [(.int i21)]))
  by_cases hc394 : i21 = (0 : Int32)
  · rw [if_pos hc394] at hR
    refine own_back (fun t k => XS.ifYes X.here hx rfl (pc0 := 394) (pc' := 421) rfl (hb hby at_394) rfl ((if0 _ _).trans (teq hc394).1) (by decide) (by decide) k) ?_
    show own_Go _ _ _ _ _ _ _ (T.setTop (mkF m 421 #[.val (.int i0), .val (.int i1), .val (.int i2), .val (.int i3), .val (.int i4), .val (.int i5), .val (.int i6), .val (.int i7), .val (.int i8), .val (.int i9), .val (.int i10), .val (.int i11), .val (.int i12), .val (.int i13), .val (.int i14), .val (.ref o15), .val (.int i16), .val (.int i17), .val (.int i18), .val (.int i19), .val (.int i20), .val (.int i21), .val (.int i22), .val (.int i23), .val (.int i24), .val (.int t0)] []))
    refine own_back (fun t k => XS.iconst X.here hx rfl (hb hby at_421) k) ?_
    show own_Go _ _ _ _ _ _ _ (T.setTop (mkF m 422 #[.val (.int i0), .val (.int i1), .val (.int i2), .val (.int i3), .val (.int i4), .val (.int i5), .val (.int i6), .val (.int i7), .val (.int i8), .val (.int i9), .val (.int i10), .val (.int i11), .val (.int i12), .val (.int i13), .val (.int i14), .val (.ref o15), .val (.int i16), .val (.int i17), .val (.int i18), .val (.int i19), .val (.int i20), .val (.int i21), .val (.int i22), .val (.int i23), .val (.int i24), .val (.int t0)] [(.int (0 : Int32))]))
    subst hR
    exact own_retN X hx (t := .boolean) hret (by simp) (hb hby at_422) hlk (by decide) ⟨rfl, N, by rw [e0]; exact Z0⟩ (by decide) (by decide)
  · rw [if_neg hc394] at hR
    refine own_back (fun t k => XS.ifNo X.here hx rfl (hb hby at_394) rfl ((if0 _ _).trans (feq hc394).1) k) ?_
    show own_Go _ _ _ _ _ _ _ (T.setTop (mkF m 397 #[.val (.int i0), .val (.int i1), .val (.int i2), .val (.int i3), .val (.int i4), .val (.int i5), .val (.int i6), .val (.int i7), .val (.int i8), .val (.int i9), .val (.int i10), .val (.int i11), .val (.int i12), .val (.int i13), .val (.int i14), .val (.ref o15), .val (.int i16), .val (.int i17), .val (.int i18), .val (.int i19), .val (.int i20), .val (.int i21), .val (.int i22), .val (.int i23), .val (.int i24), .val (.int t0)] []))
    refine own_back (fun t k => XS.iload X.here hx rfl (hb hby at_397) rfl k) ?_
    show own_Go _ _ _ _ _ _ _ (T.setTop (mkF m 399 #[.val (.int i0), .val (.int i1), .val (.int i2), .val (.int i3), .val (.int i4), .val (.int i5), .val (.int i6), .val (.int i7), .val (.int i8), .val (.int i9), .val (.int i10), .val (.int i11), .val (.int i12), .val (.int i13), .val (.int i14), .val (.ref o15), .val (.int i16), .val (.int i17), .val (.int i18), .val (.int i19), .val (.int i20), .val (.int i21), .val (.int i22), .val (.int i23), .val (.int i24), .val (.int t0)] [(.int i22)]))
    by_cases hc399 : i22 = (0 : Int32)
    · rw [if_pos hc399] at hR
      refine own_back (fun t k => XS.ifYes X.here hx rfl (pc0 := 399) (pc' := 421) rfl (hb hby at_399) rfl ((if0 _ _).trans (teq hc399).1) (by decide) (by decide) k) ?_
      show own_Go _ _ _ _ _ _ _ (T.setTop (mkF m 421 #[.val (.int i0), .val (.int i1), .val (.int i2), .val (.int i3), .val (.int i4), .val (.int i5), .val (.int i6), .val (.int i7), .val (.int i8), .val (.int i9), .val (.int i10), .val (.int i11), .val (.int i12), .val (.int i13), .val (.int i14), .val (.ref o15), .val (.int i16), .val (.int i17), .val (.int i18), .val (.int i19), .val (.int i20), .val (.int i21), .val (.int i22), .val (.int i23), .val (.int i24), .val (.int t0)] []))
      refine own_back (fun t k => XS.iconst X.here hx rfl (hb hby at_421) k) ?_
      show own_Go _ _ _ _ _ _ _ (T.setTop (mkF m 422 #[.val (.int i0), .val (.int i1), .val (.int i2), .val (.int i3), .val (.int i4), .val (.int i5), .val (.int i6), .val (.int i7), .val (.int i8), .val (.int i9), .val (.int i10), .val (.int i11), .val (.int i12), .val (.int i13), .val (.int i14), .val (.ref o15), .val (.int i16), .val (.int i17), .val (.int i18), .val (.int i19), .val (.int i20), .val (.int i21), .val (.int i22), .val (.int i23), .val (.int i24), .val (.int t0)] [(.int (0 : Int32))]))
      subst hR
      exact own_retN X hx (t := .boolean) hret (by simp) (hb hby at_422) hlk (by decide) ⟨rfl, N, by rw [e0]; exact Z0⟩ (by decide) (by decide)
    · rw [if_neg hc399] at hR
      refine own_back (fun t k => XS.ifNo X.here hx rfl (hb hby at_399) rfl ((if0 _ _).trans (feq hc399).1) k) ?_
      show own_Go _ _ _ _ _ _ _ (T.setTop (mkF m 402 #[.val (.int i0), .val (.int i1), .val (.int i2), .val (.int i3), .val (.int i4), .val (.int i5), .val (.int i6), .val (.int i7), .val (.int i8), .val (.int i9), .val (.int i10), .val (.int i11), .val (.int i12), .val (.int i13), .val (.int i14), .val (.ref o15), .val (.int i16), .val (.int i17), .val (.int i18), .val (.int i19), .val (.int i20), .val (.int i21), .val (.int i22), .val (.int i23), .val (.int i24), .val (.int t0)] []))
      refine own_back (fun t k => XS.iload X.here hx rfl (hb hby at_402) rfl k) ?_
      show own_Go _ _ _ _ _ _ _ (T.setTop (mkF m 404 #[.val (.int i0), .val (.int i1), .val (.int i2), .val (.int i3), .val (.int i4), .val (.int i5), .val (.int i6), .val (.int i7), .val (.int i8), .val (.int i9), .val (.int i10), .val (.int i11), .val (.int i12), .val (.int i13), .val (.int i14), .val (.ref o15), .val (.int i16), .val (.int i17), .val (.int i18), .val (.int i19), .val (.int i20), .val (.int i21), .val (.int i22), .val (.int i23), .val (.int i24), .val (.int t0)] [(.int i23)]))
      by_cases hc404 : i23 = (0 : Int32)
      · rw [if_pos hc404] at hR
        refine own_back (fun t k => XS.ifYes X.here hx rfl (pc0 := 404) (pc' := 421) rfl (hb hby at_404) rfl ((if0 _ _).trans (teq hc404).1) (by decide) (by decide) k) ?_
        show own_Go _ _ _ _ _ _ _ (T.setTop (mkF m 421 #[.val (.int i0), .val (.int i1), .val (.int i2), .val (.int i3), .val (.int i4), .val (.int i5), .val (.int i6), .val (.int i7), .val (.int i8), .val (.int i9), .val (.int i10), .val (.int i11), .val (.int i12), .val (.int i13), .val (.int i14), .val (.ref o15), .val (.int i16), .val (.int i17), .val (.int i18), .val (.int i19), .val (.int i20), .val (.int i21), .val (.int i22), .val (.int i23), .val (.int i24), .val (.int t0)] []))
        refine own_back (fun t k => XS.iconst X.here hx rfl (hb hby at_421) k) ?_
        show own_Go _ _ _ _ _ _ _ (T.setTop (mkF m 422 #[.val (.int i0), .val (.int i1), .val (.int i2), .val (.int i3), .val (.int i4), .val (.int i5), .val (.int i6), .val (.int i7), .val (.int i8), .val (.int i9), .val (.int i10), .val (.int i11), .val (.int i12), .val (.int i13), .val (.int i14), .val (.ref o15), .val (.int i16), .val (.int i17), .val (.int i18), .val (.int i19), .val (.int i20), .val (.int i21), .val (.int i22), .val (.int i23), .val (.int i24), .val (.int t0)] [(.int (0 : Int32))]))
        subst hR
        exact own_retN X hx (t := .boolean) hret (by simp) (hb hby at_422) hlk (by decide) ⟨rfl, N, by rw [e0]; exact Z0⟩ (by decide) (by decide)
      · rw [if_neg hc404] at hR
        refine own_back (fun t k => XS.ifNo X.here hx rfl (hb hby at_404) rfl ((if0 _ _).trans (feq hc404).1) k) ?_
        show own_Go _ _ _ _ _ _ _ (T.setTop (mkF m 407 #[.val (.int i0), .val (.int i1), .val (.int i2), .val (.int i3), .val (.int i4), .val (.int i5), .val (.int i6), .val (.int i7), .val (.int i8), .val (.int i9), .val (.int i10), .val (.int i11), .val (.int i12), .val (.int i13), .val (.int i14), .val (.ref o15), .val (.int i16), .val (.int i17), .val (.int i18), .val (.int i19), .val (.int i20), .val (.int i21), .val (.int i22), .val (.int i23), .val (.int i24), .val (.int t0)] []))
        refine own_back (fun t k => XS.iload X.here hx rfl (hb hby at_407) rfl k) ?_
        show own_Go _ _ _ _ _ _ _ (T.setTop (mkF m 409 #[.val (.int i0), .val (.int i1), .val (.int i2), .val (.int i3), .val (.int i4), .val (.int i5), .val (.int i6), .val (.int i7), .val (.int i8), .val (.int i9), .val (.int i10), .val (.int i11), .val (.int i12), .val (.int i13), .val (.int i14), .val (.ref o15), .val (.int i16), .val (.int i17), .val (.int i18), .val (.int i19), .val (.int i20), .val (.int i21), .val (.int i22), .val (.int i23), .val (.int i24), .val (.int t0)] [(.int i24)]))
        by_cases hc409 : i24 = (0 : Int32)
        · rw [if_pos hc409] at hR
          refine own_back (fun t k => XS.ifYes X.here hx rfl (pc0 := 409) (pc' := 421) rfl (hb hby at_409) rfl ((if0 _ _).trans (teq hc409).1) (by decide) (by decide) k) ?_
          show own_Go _ _ _ _ _ _ _ (T.setTop (mkF m 421 #[.val (.int i0), .val (.int i1), .val (.int i2), .val (.int i3), .val (.int i4), .val (.int i5), .val (.int i6), .val (.int i7), .val (.int i8), .val (.int i9), .val (.int i10), .val (.int i11), .val (.int i12), .val (.int i13), .val (.int i14), .val (.ref o15), .val (.int i16), .val (.int i17), .val (.int i18), .val (.int i19), .val (.int i20), .val (.int i21), .val (.int i22), .val (.int i23), .val (.int i24), .val (.int t0)] []))
          refine own_back (fun t k => XS.iconst X.here hx rfl (hb hby at_421) k) ?_
          show own_Go _ _ _ _ _ _ _ (T.setTop (mkF m 422 #[.val (.int i0), .val (.int i1), .val (.int i2), .val (.int i3), .val (.int i4), .val (.int i5), .val (.int i6), .val (.int i7), .val (.int i8), .val (.int i9), .val (.int i10), .val (.int i11), .val (.int i12), .val (.int i13), .val (.int i14), .val (.ref o15), .val (.int i16), .val (.int i17), .val (.int i18), .val (.int i19), .val (.int i20), .val (.int i21), .val (.int i22), .val (.int i23), .val (.int i24), .val (.int t0)] [(.int (0 : Int32))]))
          subst hR
          exact own_retN X hx (t := .boolean) hret (by simp) (hb hby at_422) hlk (by decide) ⟨rfl, N, by rw [e0]; exact Z0⟩ (by decide) (by decide)
        · rw [if_neg hc409] at hR
          refine own_back (fun t k => XS.ifNo X.here hx rfl (hb hby at_409) rfl ((if0 _ _).trans (feq hc409).1) k) ?_
          show own_Go _ _ _ _ _ _ _ (T.setTop (mkF m 412 #[.val (.int i0), .val (.int i1), .val (.int i2), .val (.int i3), .val (.int i4), .val (.int i5), .val (.int i6), .val (.int i7), .val (.int i8), .val (.int i9), .val (.int i10), .val (.int i11), .val (.int i12), .val (.int i13), .val (.int i14), .val (.ref o15), .val (.int i16), .val (.int i17), .val (.int i18), .val (.int i19), .val (.int i20), .val (.int i21), .val (.int i22), .val (.int i23), .val (.int i24), .val (.int t0)] []))
          refine own_back (fun t k => XS.iload X.here hx rfl (hb hby at_412) rfl k) ?_
          show own_Go _ _ _ _ _ _ _ (T.setTop (mkF m 414 #[.val (.int i0), .val (.int i1), .val (.int i2), .val (.int i3), .val (.int i4), .val (.int i5), .val (.int i6), .val (.int i7), .val (.int i8), .val (.int i9), .val (.int i10), .val (.int i11), .val (.int i12), .val (.int i13), .val (.int i14), .val (.ref o15), .val (.int i16), .val (.int i17), .val (.int i18), .val (.int i19), .val (.int i20), .val (.int i21), .val (.int i22), .val (.int i23), .val (.int i24), .val (.int t0)] [(.int t0)]))
          by_cases hc414 : t0 = (0 : Int32)
          · rw [if_pos hc414] at hR
            refine own_back (fun t k => XS.ifYes X.here hx rfl (pc0 := 414) (pc' := 421) rfl (hb hby at_414) rfl ((if0 _ _).trans (teq hc414).1) (by decide) (by decide) k) ?_
            show own_Go _ _ _ _ _ _ _ (T.setTop (mkF m 421 #[.val (.int i0), .val (.int i1), .val (.int i2), .val (.int i3), .val (.int i4), .val (.int i5), .val (.int i6), .val (.int i7), .val (.int i8), .val (.int i9), .val (.int i10), .val (.int i11), .val (.int i12), .val (.int i13), .val (.int i14), .val (.ref o15), .val (.int i16), .val (.int i17), .val (.int i18), .val (.int i19), .val (.int i20), .val (.int i21), .val (.int i22), .val (.int i23), .val (.int i24), .val (.int t0)] []))
            refine own_back (fun t k => XS.iconst X.here hx rfl (hb hby at_421) k) ?_
            show own_Go _ _ _ _ _ _ _ (T.setTop (mkF m 422 #[.val (.int i0), .val (.int i1), .val (.int i2), .val (.int i3), .val (.int i4), .val (.int i5), .val (.int i6), .val (.int i7), .val (.int i8), .val (.int i9), .val (.int i10), .val (.int i11), .val (.int i12), .val (.int i13), .val (.int i14), .val (.ref o15), .val (.int i16), .val (.int i17), .val (.int i18), .val (.int i19), .val (.int i20), .val (.int i21), .val (.int i22), .val (.int i23), .val (.int i24), .val (.int t0)] [(.int (0 : Int32))]))
            subst hR
            exact own_retN X hx (t := .boolean) hret (by simp) (hb hby at_422) hlk (by decide) ⟨rfl, N, by rw [e0]; exact Z0⟩ (by decide) (by decide)
          · rw [if_neg hc414] at hR
            refine own_back (fun t k => XS.ifNo X.here hx rfl (hb hby at_414) rfl ((if0 _ _).trans (feq hc414).1) k) ?_
            show own_Go _ _ _ _ _ _ _ (T.setTop (mkF m 417 #[.val (.int i0), .val (.int i1), .val (.int i2), .val (.int i3), .val (.int i4), .val (.int i5), .val (.int i6), .val (.int i7), .val (.int i8), .val (.int i9), .val (.int i10), .val (.int i11), .val (.int i12), .val (.int i13), .val (.int i14), .val (.ref o15), .val (.int i16), .val (.int i17), .val (.int i18), .val (.int i19), .val (.int i20), .val (.int i21), .val (.int i22), .val (.int i23), .val (.int i24), .val (.int t0)] []))
            refine own_back (fun t k => XS.iconst X.here hx rfl (hb hby at_417) k) ?_
            show own_Go _ _ _ _ _ _ _ (T.setTop (mkF m 418 #[.val (.int i0), .val (.int i1), .val (.int i2), .val (.int i3), .val (.int i4), .val (.int i5), .val (.int i6), .val (.int i7), .val (.int i8), .val (.int i9), .val (.int i10), .val (.int i11), .val (.int i12), .val (.int i13), .val (.int i14), .val (.ref o15), .val (.int i16), .val (.int i17), .val (.int i18), .val (.int i19), .val (.int i20), .val (.int i21), .val (.int i22), .val (.int i23), .val (.int i24), .val (.int t0)] [(.int (1 : Int32))]))
            refine own_back (fun t k => XS.goto X.here hx rfl (pc0 := 418) (pc' := 422) rfl (hb hby at_418) (by decide) (by decide) k) ?_
            show own_Go _ _ _ _ _ _ _ (T.setTop (mkF m 422 #[.val (.int i0), .val (.int i1), .val (.int i2), .val (.int i3), .val (.int i4), .val (.int i5), .val (.int i6), .val (.int i7), .val (.int i8), .val (.int i9), .val (.int i10), .val (.int i11), .val (.int i12), .val (.int i13), .val (.int i14), .val (.ref o15), .val (.int i16), .val (.int i17), .val (.int i18), .val (.int i19), .val (.int i20), .val (.int i21), .val (.int i22), .val (.int i23), .val (.int i24), .val (.int t0)] [(.int (1 : Int32))]))
            subst hR
            exact own_retN X hx (t := .boolean) hret (by simp) (hb hby at_422) hlk (by decide) ⟨rfl, N, by rw [e0]; exact Z0⟩ (by decide) (by decide)
set_option maxRecDepth 65536 in
set_option maxHeartbeats 4000000 in
theorem own_l0_370 {p : Program} {l : Launch} {e : Env} {s : State} {m : MethodId} {args : Array Value} {below : List Frame} {meth : Method} {c : Code} {T : State} {locs : List Loc} {Z : State} {a0 : Array Value} {h0 : Heap} {n0 : Nat}
    (X : Stand p l e room_1 s m args below meth c T locs 3 19) (hx : p.tables.exec = Jvm.exec) (hZ : Z.Warmed39 s.vm) (hw : ∀ d ∈ tables_1, d.before a0 Z = true) (hby : c.code = code) (hml : c.maxLocals = 26) (hown : s.vm.findClass "com/example/furl/furl/tree/PositionCountsAddPinLaw" = some m.cls) (hret : meth.sig.returnType = some .boolean) (hlk : meth.locks = false) (e0 : T.heap = h0) (N : Fr n0 locs) (Z0 : n0 ≤ h0.size)
    (aB : Addr) (aW : Addr) (NN : Nat) (B : Nat → Int64) (W : Nat → Int32) (i0 : Int32) (i1 : Int32) (i2 : Int32) (i3 : Int32) (i4 : Int32) (i5 : Int32) (i6 : Int32) (i7 : Int32) (i8 : Int32) (i9 : Int32) (i10 : Int32) (i11 : Int32) (i12 : Int32) (i13 : Int32) (i14 : Int32) (o15 : Addr) (i16 : Int32) (i17 : Int32) (i18 : Int32) (i19 : Int32) (i20 : Int32) (i21 : Int32) (i22 : Int32) (i23 : Int32) (t0 : Int32) {r : Int32} (hR : r = own_f0_370 NN B W i0 i1 i2 i3 i4 i5 i6 i7 i8 i9 i10 i11 i12 i13 i14 i16 i17 i18 i19 i20 i21 i22 i23 t0) (HP : own_PC Z h0 n0 o15 aB aW NN B W) (HR2 : own_rg2 NN i6 i7 i8 i12 i13 i14) : own_Go p e below s room_1.cells room_1.slots (own_QG (.int r) h0 n0) (T.setTop (mkF m 370 #[.val (.int i0), .val (.int i1), .val (.int i2), .val (.int i3), .val (.int i4), .val (.int i5), .val (.int i6), .val (.int i7), .val (.int i8), .val (.int i9), .val (.int i10), .val (.int i11), .val (.int i12), .val (.int i13), .val (.int i14), .val (.ref o15), .val (.int i16), .val (.int i17), .val (.int i18), .val (.int i19), .val (.int i20), .val (.int i21), .val (.int i22), .val (.int i23), .unset, .unset] [(.int t0)])) := by
  unfold own_f0_370 at hR
  refine own_back (fun t k => XS.istore X.here hx rfl (hb hby at_370) rfl (l' := #[.val (.int i0), .val (.int i1), .val (.int i2), .val (.int i3), .val (.int i4), .val (.int i5), .val (.int i6), .val (.int i7), .val (.int i8), .val (.int i9), .val (.int i10), .val (.int i11), .val (.int i12), .val (.int i13), .val (.int i14), .val (.ref o15), .val (.int i16), .val (.int i17), .val (.int i18), .val (.int i19), .val (.int i20), .val (.int i21), .val (.int i22), .val (.int i23), .val (.int t0), .unset]) rfl k) ?_
  show own_Go _ _ _ _ _ _ _ (T.setTop (mkF m 372 #[.val (.int i0), .val (.int i1), .val (.int i2), .val (.int i3), .val (.int i4), .val (.int i5), .val (.int i6), .val (.int i7), .val (.int i8), .val (.int i9), .val (.int i10), .val (.int i11), .val (.int i12), .val (.int i13), .val (.int i14), .val (.ref o15), .val (.int i16), .val (.int i17), .val (.int i18), .val (.int i19), .val (.int i20), .val (.int i21), .val (.int i22), .val (.int i23), .val (.int t0), .unset] []))
  refine own_back (fun t k => XS.aload X.here hx rfl (hb hby at_372) rfl rfl k) ?_
  show own_Go _ _ _ _ _ _ _ (T.setTop (mkF m 374 #[.val (.int i0), .val (.int i1), .val (.int i2), .val (.int i3), .val (.int i4), .val (.int i5), .val (.int i6), .val (.int i7), .val (.int i8), .val (.int i9), .val (.int i10), .val (.int i11), .val (.int i12), .val (.int i13), .val (.int i14), .val (.ref o15), .val (.int i16), .val (.int i17), .val (.int i18), .val (.int i19), .val (.int i20), .val (.int i21), .val (.int i22), .val (.int i23), .val (.int t0), .unset] [(.ref o15)]))
  refine own_back (fun t k => XS.iconst X.here hx rfl (hb hby at_374) k) ?_
  show own_Go _ _ _ _ _ _ _ (T.setTop (mkF m 375 #[.val (.int i0), .val (.int i1), .val (.int i2), .val (.int i3), .val (.int i4), .val (.int i5), .val (.int i6), .val (.int i7), .val (.int i8), .val (.int i9), .val (.int i10), .val (.int i11), .val (.int i12), .val (.int i13), .val (.int i14), .val (.ref o15), .val (.int i16), .val (.int i17), .val (.int i18), .val (.int i19), .val (.int i20), .val (.int i21), .val (.int i22), .val (.int i23), .val (.int t0), .unset] [(.int (0 : Int32)), (.ref o15)]))
  refine own_back (fun t k => XS.iload X.here hx rfl (hb hby at_375) rfl k) ?_
  show own_Go _ _ _ _ _ _ _ (T.setTop (mkF m 377 #[.val (.int i0), .val (.int i1), .val (.int i2), .val (.int i3), .val (.int i4), .val (.int i5), .val (.int i6), .val (.int i7), .val (.int i8), .val (.int i9), .val (.int i10), .val (.int i11), .val (.int i12), .val (.int i13), .val (.int i14), .val (.ref o15), .val (.int i16), .val (.int i17), .val (.int i18), .val (.int i19), .val (.int i20), .val (.int i21), .val (.int i22), .val (.int i23), .val (.int t0), .unset] [(.int i6), (.int (0 : Int32)), (.ref o15)]))
  obtain ⟨cq13, kq13, q13a, q13b, q13c⟩ := isOf hZ e0 HP.1
  obtain ⟨_, _, ⟨T13, L13, k13, n13⟩, -, X13, ⟨Lc13, hQ13, l13, y13, z13⟩, st13⟩ := X.virtualBack hx (y := (⟨"com/example/furl/furl/tree/PositionCounts", "in", "(II)I"⟩ : MethodName)) (z := (⟨"com/example/furl/furl/tree/PositionCounts", "in", "(II)I"⟩ : MethodName)) hown (mvT hZ (hw _ (List.mem_of_getElem? (i := 30) rfl))) (mvT hZ (hw _ (List.mem_of_getElem? (i := 31) rfl))) (notFace_of_selects (args := #[]) (mvT hZ (hw _ (List.mem_of_getElem? (i := 33) rfl)))) (mvT hZ (hw _ (List.mem_of_getElem? (i := 33) rfl))) (mvT hZ (hw _ (List.mem_of_getElem? (i := 32) rfl))) (by decide) (backOf (W := 0) (own_rm6 l Z a0 hw [] o15 (0 : Int32) i6 aB aW NN B W h0 n0 Z0 HP (by decide) HR2.2.2.2.2.2.2.1 HR2.2.2.2.2.2.2.2 (Nat.le_trans HR2.1 (by decide))) hZ (hw _ (List.mem_of_getElem? (i := 34) rfl)) (hw _ (List.mem_of_getElem? (i := 3) rfl)) (by decide) (by decide)) q13a q13c (g := (mkF m 377 #[.val (.int i0), .val (.int i1), .val (.int i2), .val (.int i3), .val (.int i4), .val (.int i5), .val (.int i6), .val (.int i7), .val (.int i8), .val (.int i9), .val (.int i10), .val (.int i11), .val (.int i12), .val (.int i13), .val (.int i14), .val (.ref o15), .val (.int i16), .val (.int i17), .val (.int i18), .val (.int i19), .val (.int i20), .val (.int i21), .val (.int i22), .val (.int i23), .val (.int t0), .unset] [(.int i6), (.int (0 : Int32)), (.ref o15)])) rfl (by rw [hml]; rfl) (Steps.refl _) (argsL := [(.int (0 : Int32)), (.int i6)]) (rest := []) (lenOf own_pd6 rfl) rfl (by show 2 * 0 + _ ≤ _; exact Nat.le_of_eq rfl) (hb hby at_377) (fun _ _ => ⟨rfl, e0, (by decide : 3 + 0 ≤ _), (by decide : 19 + 0 ≤ _)⟩)
  dsimp only [Pt.U, Pt.locs, Pt.cells, Pt.slots] at X13 l13 y13 z13 st13 hQ13
  subst l13 y13 z13
  obtain ⟨rfl, N13q, e13⟩ := hQ13
  have N13 := Fr.app N N13q
  refine own_back (fun t k => st13.trans k) ?_
  show own_Go _ _ _ _ _ _ _ (T13.setTop (mkF m 380 #[.val (.int i0), .val (.int i1), .val (.int i2), .val (.int i3), .val (.int i4), .val (.int i5), .val (.int i6), .val (.int i7), .val (.int i8), .val (.int i9), .val (.int i10), .val (.int i11), .val (.int i12), .val (.int i13), .val (.int i14), .val (.ref o15), .val (.int i16), .val (.int i17), .val (.int i18), .val (.int i19), .val (.int i20), .val (.int i21), .val (.int i22), .val (.int i23), .val (.int t0), .unset] [(.int (own_f6_0 NN B W (0 : Int32) i6))]))
  refine own_back (fun t k => XS.iload X13.here hx rfl (hb hby at_380) rfl k) ?_
  show own_Go _ _ _ _ _ _ _ (T13.setTop (mkF m 382 #[.val (.int i0), .val (.int i1), .val (.int i2), .val (.int i3), .val (.int i4), .val (.int i5), .val (.int i6), .val (.int i7), .val (.int i8), .val (.int i9), .val (.int i10), .val (.int i11), .val (.int i12), .val (.int i13), .val (.int i14), .val (.ref o15), .val (.int i16), .val (.int i17), .val (.int i18), .val (.int i19), .val (.int i20), .val (.int i21), .val (.int i22), .val (.int i23), .val (.int t0), .unset] [(.int i20), (.int (own_f6_0 NN B W (0 : Int32) i6))]))
  by_cases hc382 : (own_f6_0 NN B W (0 : Int32) i6) = i20
  · rw [if_pos hc382] at hR
    refine own_back (fun t k => XS.icmpNo X13.here hx rfl (hb hby at_382) rfl (teq hc382).2 k) ?_
    show own_Go _ _ _ _ _ _ _ (T13.setTop (mkF m 385 #[.val (.int i0), .val (.int i1), .val (.int i2), .val (.int i3), .val (.int i4), .val (.int i5), .val (.int i6), .val (.int i7), .val (.int i8), .val (.int i9), .val (.int i10), .val (.int i11), .val (.int i12), .val (.int i13), .val (.int i14), .val (.ref o15), .val (.int i16), .val (.int i17), .val (.int i18), .val (.int i19), .val (.int i20), .val (.int i21), .val (.int i22), .val (.int i23), .val (.int t0), .unset] []))
    refine own_back (fun t k => XS.iconst X13.here hx rfl (hb hby at_385) k) ?_
    show own_Go _ _ _ _ _ _ _ (T13.setTop (mkF m 386 #[.val (.int i0), .val (.int i1), .val (.int i2), .val (.int i3), .val (.int i4), .val (.int i5), .val (.int i6), .val (.int i7), .val (.int i8), .val (.int i9), .val (.int i10), .val (.int i11), .val (.int i12), .val (.int i13), .val (.int i14), .val (.ref o15), .val (.int i16), .val (.int i17), .val (.int i18), .val (.int i19), .val (.int i20), .val (.int i21), .val (.int i22), .val (.int i23), .val (.int t0), .unset] [(.int (1 : Int32))]))
    refine own_back (fun t k => XS.goto X13.here hx rfl (pc0 := 386) (pc' := 390) rfl (hb hby at_386) (by decide) (by decide) k) ?_
    show own_Go _ _ _ _ _ _ _ (T13.setTop (mkF m 390 #[.val (.int i0), .val (.int i1), .val (.int i2), .val (.int i3), .val (.int i4), .val (.int i5), .val (.int i6), .val (.int i7), .val (.int i8), .val (.int i9), .val (.int i10), .val (.int i11), .val (.int i12), .val (.int i13), .val (.int i14), .val (.ref o15), .val (.int i16), .val (.int i17), .val (.int i18), .val (.int i19), .val (.int i20), .val (.int i21), .val (.int i22), .val (.int i23), .val (.int t0), .unset] [(.int (1 : Int32))]))
    exact own_l0_390 X13 hx hZ hw hby hml hown hret hlk e13 N13 Z0 aB aW NN B W i0 i1 i2 i3 i4 i5 i6 i7 i8 i9 i10 i11 i12 i13 i14 o15 i16 i17 i18 i19 i20 i21 i22 i23 t0 (1 : Int32) hR HP HR2
  · rw [if_neg hc382] at hR
    refine own_back (fun t k => XS.icmpYes X13.here hx rfl (pc0 := 382) (pc' := 389) rfl (hb hby at_382) rfl (feq hc382).2 (by decide) (by decide) k) ?_
    show own_Go _ _ _ _ _ _ _ (T13.setTop (mkF m 389 #[.val (.int i0), .val (.int i1), .val (.int i2), .val (.int i3), .val (.int i4), .val (.int i5), .val (.int i6), .val (.int i7), .val (.int i8), .val (.int i9), .val (.int i10), .val (.int i11), .val (.int i12), .val (.int i13), .val (.int i14), .val (.ref o15), .val (.int i16), .val (.int i17), .val (.int i18), .val (.int i19), .val (.int i20), .val (.int i21), .val (.int i22), .val (.int i23), .val (.int t0), .unset] []))
    refine own_back (fun t k => XS.iconst X13.here hx rfl (hb hby at_389) k) ?_
    show own_Go _ _ _ _ _ _ _ (T13.setTop (mkF m 390 #[.val (.int i0), .val (.int i1), .val (.int i2), .val (.int i3), .val (.int i4), .val (.int i5), .val (.int i6), .val (.int i7), .val (.int i8), .val (.int i9), .val (.int i10), .val (.int i11), .val (.int i12), .val (.int i13), .val (.int i14), .val (.ref o15), .val (.int i16), .val (.int i17), .val (.int i18), .val (.int i19), .val (.int i20), .val (.int i21), .val (.int i22), .val (.int i23), .val (.int t0), .unset] [(.int (0 : Int32))]))
    exact own_l0_390 X13 hx hZ hw hby hml hown hret hlk e13 N13 Z0 aB aW NN B W i0 i1 i2 i3 i4 i5 i6 i7 i8 i9 i10 i11 i12 i13 i14 o15 i16 i17 i18 i19 i20 i21 i22 i23 t0 (0 : Int32) hR HP HR2
set_option maxRecDepth 65536 in
set_option maxHeartbeats 4000000 in
theorem own_l0_349 {p : Program} {l : Launch} {e : Env} {s : State} {m : MethodId} {args : Array Value} {below : List Frame} {meth : Method} {c : Code} {T : State} {locs : List Loc} {Z : State} {a0 : Array Value} {h0 : Heap} {n0 : Nat}
    (X : Stand p l e room_1 s m args below meth c T locs 3 19) (hx : p.tables.exec = Jvm.exec) (hZ : Z.Warmed39 s.vm) (hw : ∀ d ∈ tables_1, d.before a0 Z = true) (hby : c.code = code) (hml : c.maxLocals = 26) (hown : s.vm.findClass "com/example/furl/furl/tree/PositionCountsAddPinLaw" = some m.cls) (hret : meth.sig.returnType = some .boolean) (hlk : meth.locks = false) (e0 : T.heap = h0) (N : Fr n0 locs) (Z0 : n0 ≤ h0.size)
    (aB : Addr) (aW : Addr) (NN : Nat) (B : Nat → Int64) (W : Nat → Int32) (i0 : Int32) (i1 : Int32) (i2 : Int32) (i3 : Int32) (i4 : Int32) (i5 : Int32) (i6 : Int32) (i7 : Int32) (i8 : Int32) (i9 : Int32) (i10 : Int32) (i11 : Int32) (i12 : Int32) (i13 : Int32) (i14 : Int32) (o15 : Addr) (i16 : Int32) (i17 : Int32) (i18 : Int32) (i19 : Int32) (i20 : Int32) (i21 : Int32) (i22 : Int32) (t0 : Int32) {r : Int32} (hR : r = own_f0_349 NN B W i0 i1 i2 i3 i4 i5 i6 i7 i8 i9 i10 i11 i12 i13 i14 i16 i17 i18 i19 i20 i21 i22 t0) (HP : own_PC Z h0 n0 o15 aB aW NN B W) (HR2 : own_rg2 NN i6 i7 i8 i12 i13 i14) : own_Go p e below s room_1.cells room_1.slots (own_QG (.int r) h0 n0) (T.setTop (mkF m 349 #[.val (.int i0), .val (.int i1), .val (.int i2), .val (.int i3), .val (.int i4), .val (.int i5), .val (.int i6), .val (.int i7), .val (.int i8), .val (.int i9), .val (.int i10), .val (.int i11), .val (.int i12), .val (.int i13), .val (.int i14), .val (.ref o15), .val (.int i16), .val (.int i17), .val (.int i18), .val (.int i19), .val (.int i20), .val (.int i21), .val (.int i22), .unset, .unset, .unset] [(.int t0)])) := by
  unfold own_f0_349 at hR
  refine own_back (fun t k => XS.istore X.here hx rfl (hb hby at_349) rfl (l' := #[.val (.int i0), .val (.int i1), .val (.int i2), .val (.int i3), .val (.int i4), .val (.int i5), .val (.int i6), .val (.int i7), .val (.int i8), .val (.int i9), .val (.int i10), .val (.int i11), .val (.int i12), .val (.int i13), .val (.int i14), .val (.ref o15), .val (.int i16), .val (.int i17), .val (.int i18), .val (.int i19), .val (.int i20), .val (.int i21), .val (.int i22), .val (.int t0), .unset, .unset]) rfl k) ?_
  show own_Go _ _ _ _ _ _ _ (T.setTop (mkF m 351 #[.val (.int i0), .val (.int i1), .val (.int i2), .val (.int i3), .val (.int i4), .val (.int i5), .val (.int i6), .val (.int i7), .val (.int i8), .val (.int i9), .val (.int i10), .val (.int i11), .val (.int i12), .val (.int i13), .val (.int i14), .val (.ref o15), .val (.int i16), .val (.int i17), .val (.int i18), .val (.int i19), .val (.int i20), .val (.int i21), .val (.int i22), .val (.int t0), .unset, .unset] []))
  refine own_back (fun t k => XS.aload X.here hx rfl (hb hby at_351) rfl rfl k) ?_
  show own_Go _ _ _ _ _ _ _ (T.setTop (mkF m 353 #[.val (.int i0), .val (.int i1), .val (.int i2), .val (.int i3), .val (.int i4), .val (.int i5), .val (.int i6), .val (.int i7), .val (.int i8), .val (.int i9), .val (.int i10), .val (.int i11), .val (.int i12), .val (.int i13), .val (.int i14), .val (.ref o15), .val (.int i16), .val (.int i17), .val (.int i18), .val (.int i19), .val (.int i20), .val (.int i21), .val (.int i22), .val (.int t0), .unset, .unset] [(.ref o15)]))
  refine own_back (fun t k => XS.iload X.here hx rfl (hb hby at_353) rfl k) ?_
  show own_Go _ _ _ _ _ _ _ (T.setTop (mkF m 355 #[.val (.int i0), .val (.int i1), .val (.int i2), .val (.int i3), .val (.int i4), .val (.int i5), .val (.int i6), .val (.int i7), .val (.int i8), .val (.int i9), .val (.int i10), .val (.int i11), .val (.int i12), .val (.int i13), .val (.int i14), .val (.ref o15), .val (.int i16), .val (.int i17), .val (.int i18), .val (.int i19), .val (.int i20), .val (.int i21), .val (.int i22), .val (.int t0), .unset, .unset] [(.int i13), (.ref o15)]))
  refine own_back (fun t k => XS.iload X.here hx rfl (hb hby at_355) rfl k) ?_
  show own_Go _ _ _ _ _ _ _ (T.setTop (mkF m 357 #[.val (.int i0), .val (.int i1), .val (.int i2), .val (.int i3), .val (.int i4), .val (.int i5), .val (.int i6), .val (.int i7), .val (.int i8), .val (.int i9), .val (.int i10), .val (.int i11), .val (.int i12), .val (.int i13), .val (.int i14), .val (.ref o15), .val (.int i16), .val (.int i17), .val (.int i18), .val (.int i19), .val (.int i20), .val (.int i21), .val (.int i22), .val (.int t0), .unset, .unset] [(.int i14), (.int i13), (.ref o15)]))
  obtain ⟨cq12, kq12, q12a, q12b, q12c⟩ := isOf hZ e0 HP.1
  obtain ⟨_, _, ⟨T12, L12, k12, n12⟩, -, X12, ⟨Lc12, hQ12, l12, y12, z12⟩, st12⟩ := X.virtualBack hx (y := (⟨"com/example/furl/furl/tree/PositionCounts", "in", "(II)I"⟩ : MethodName)) (z := (⟨"com/example/furl/furl/tree/PositionCounts", "in", "(II)I"⟩ : MethodName)) hown (mvT hZ (hw _ (List.mem_of_getElem? (i := 30) rfl))) (mvT hZ (hw _ (List.mem_of_getElem? (i := 31) rfl))) (notFace_of_selects (args := #[]) (mvT hZ (hw _ (List.mem_of_getElem? (i := 33) rfl)))) (mvT hZ (hw _ (List.mem_of_getElem? (i := 33) rfl))) (mvT hZ (hw _ (List.mem_of_getElem? (i := 32) rfl))) (by decide) (backOf (W := 0) (own_rm6 l Z a0 hw [] o15 i13 i14 aB aW NN B W h0 n0 Z0 HP HR2.2.2.2.2.1.1 HR2.2.2.2.2.2.1.1 HR2.2.2.2.2.2.1.2 (Nat.le_trans HR2.1 (by decide))) hZ (hw _ (List.mem_of_getElem? (i := 34) rfl)) (hw _ (List.mem_of_getElem? (i := 3) rfl)) (by decide) (by decide)) q12a q12c (g := (mkF m 357 #[.val (.int i0), .val (.int i1), .val (.int i2), .val (.int i3), .val (.int i4), .val (.int i5), .val (.int i6), .val (.int i7), .val (.int i8), .val (.int i9), .val (.int i10), .val (.int i11), .val (.int i12), .val (.int i13), .val (.int i14), .val (.ref o15), .val (.int i16), .val (.int i17), .val (.int i18), .val (.int i19), .val (.int i20), .val (.int i21), .val (.int i22), .val (.int t0), .unset, .unset] [(.int i14), (.int i13), (.ref o15)])) rfl (by rw [hml]; rfl) (Steps.refl _) (argsL := [(.int i13), (.int i14)]) (rest := []) (lenOf own_pd6 rfl) rfl (by show 2 * 0 + _ ≤ _; exact Nat.le_of_eq rfl) (hb hby at_357) (fun _ _ => ⟨rfl, e0, (by decide : 3 + 0 ≤ _), (by decide : 19 + 0 ≤ _)⟩)
  dsimp only [Pt.U, Pt.locs, Pt.cells, Pt.slots] at X12 l12 y12 z12 st12 hQ12
  subst l12 y12 z12
  obtain ⟨rfl, N12q, e12⟩ := hQ12
  have N12 := Fr.app N N12q
  refine own_back (fun t k => st12.trans k) ?_
  show own_Go _ _ _ _ _ _ _ (T12.setTop (mkF m 360 #[.val (.int i0), .val (.int i1), .val (.int i2), .val (.int i3), .val (.int i4), .val (.int i5), .val (.int i6), .val (.int i7), .val (.int i8), .val (.int i9), .val (.int i10), .val (.int i11), .val (.int i12), .val (.int i13), .val (.int i14), .val (.ref o15), .val (.int i16), .val (.int i17), .val (.int i18), .val (.int i19), .val (.int i20), .val (.int i21), .val (.int i22), .val (.int t0), .unset, .unset] [(.int (own_f6_0 NN B W i13 i14))]))
  refine own_back (fun t k => XS.iload X12.here hx rfl (hb hby at_360) rfl k) ?_
  show own_Go _ _ _ _ _ _ _ (T12.setTop (mkF m 362 #[.val (.int i0), .val (.int i1), .val (.int i2), .val (.int i3), .val (.int i4), .val (.int i5), .val (.int i6), .val (.int i7), .val (.int i8), .val (.int i9), .val (.int i10), .val (.int i11), .val (.int i12), .val (.int i13), .val (.int i14), .val (.ref o15), .val (.int i16), .val (.int i17), .val (.int i18), .val (.int i19), .val (.int i20), .val (.int i21), .val (.int i22), .val (.int t0), .unset, .unset] [(.int i19), (.int (own_f6_0 NN B W i13 i14))]))
  by_cases hc362 : (own_f6_0 NN B W i13 i14) = i19
  · rw [if_pos hc362] at hR
    refine own_back (fun t k => XS.icmpNo X12.here hx rfl (hb hby at_362) rfl (teq hc362).2 k) ?_
    show own_Go _ _ _ _ _ _ _ (T12.setTop (mkF m 365 #[.val (.int i0), .val (.int i1), .val (.int i2), .val (.int i3), .val (.int i4), .val (.int i5), .val (.int i6), .val (.int i7), .val (.int i8), .val (.int i9), .val (.int i10), .val (.int i11), .val (.int i12), .val (.int i13), .val (.int i14), .val (.ref o15), .val (.int i16), .val (.int i17), .val (.int i18), .val (.int i19), .val (.int i20), .val (.int i21), .val (.int i22), .val (.int t0), .unset, .unset] []))
    refine own_back (fun t k => XS.iconst X12.here hx rfl (hb hby at_365) k) ?_
    show own_Go _ _ _ _ _ _ _ (T12.setTop (mkF m 366 #[.val (.int i0), .val (.int i1), .val (.int i2), .val (.int i3), .val (.int i4), .val (.int i5), .val (.int i6), .val (.int i7), .val (.int i8), .val (.int i9), .val (.int i10), .val (.int i11), .val (.int i12), .val (.int i13), .val (.int i14), .val (.ref o15), .val (.int i16), .val (.int i17), .val (.int i18), .val (.int i19), .val (.int i20), .val (.int i21), .val (.int i22), .val (.int t0), .unset, .unset] [(.int (1 : Int32))]))
    refine own_back (fun t k => XS.goto X12.here hx rfl (pc0 := 366) (pc' := 370) rfl (hb hby at_366) (by decide) (by decide) k) ?_
    show own_Go _ _ _ _ _ _ _ (T12.setTop (mkF m 370 #[.val (.int i0), .val (.int i1), .val (.int i2), .val (.int i3), .val (.int i4), .val (.int i5), .val (.int i6), .val (.int i7), .val (.int i8), .val (.int i9), .val (.int i10), .val (.int i11), .val (.int i12), .val (.int i13), .val (.int i14), .val (.ref o15), .val (.int i16), .val (.int i17), .val (.int i18), .val (.int i19), .val (.int i20), .val (.int i21), .val (.int i22), .val (.int t0), .unset, .unset] [(.int (1 : Int32))]))
    exact own_l0_370 X12 hx hZ hw hby hml hown hret hlk e12 N12 Z0 aB aW NN B W i0 i1 i2 i3 i4 i5 i6 i7 i8 i9 i10 i11 i12 i13 i14 o15 i16 i17 i18 i19 i20 i21 i22 t0 (1 : Int32) hR HP HR2
  · rw [if_neg hc362] at hR
    refine own_back (fun t k => XS.icmpYes X12.here hx rfl (pc0 := 362) (pc' := 369) rfl (hb hby at_362) rfl (feq hc362).2 (by decide) (by decide) k) ?_
    show own_Go _ _ _ _ _ _ _ (T12.setTop (mkF m 369 #[.val (.int i0), .val (.int i1), .val (.int i2), .val (.int i3), .val (.int i4), .val (.int i5), .val (.int i6), .val (.int i7), .val (.int i8), .val (.int i9), .val (.int i10), .val (.int i11), .val (.int i12), .val (.int i13), .val (.int i14), .val (.ref o15), .val (.int i16), .val (.int i17), .val (.int i18), .val (.int i19), .val (.int i20), .val (.int i21), .val (.int i22), .val (.int t0), .unset, .unset] []))
    refine own_back (fun t k => XS.iconst X12.here hx rfl (hb hby at_369) k) ?_
    show own_Go _ _ _ _ _ _ _ (T12.setTop (mkF m 370 #[.val (.int i0), .val (.int i1), .val (.int i2), .val (.int i3), .val (.int i4), .val (.int i5), .val (.int i6), .val (.int i7), .val (.int i8), .val (.int i9), .val (.int i10), .val (.int i11), .val (.int i12), .val (.int i13), .val (.int i14), .val (.ref o15), .val (.int i16), .val (.int i17), .val (.int i18), .val (.int i19), .val (.int i20), .val (.int i21), .val (.int i22), .val (.int t0), .unset, .unset] [(.int (0 : Int32))]))
    exact own_l0_370 X12 hx hZ hw hby hml hown hret hlk e12 N12 Z0 aB aW NN B W i0 i1 i2 i3 i4 i5 i6 i7 i8 i9 i10 i11 i12 i13 i14 o15 i16 i17 i18 i19 i20 i21 i22 t0 (0 : Int32) hR HP HR2
set_option maxRecDepth 65536 in
set_option maxHeartbeats 4000000 in
theorem own_l0_330 {p : Program} {l : Launch} {e : Env} {s : State} {m : MethodId} {args : Array Value} {below : List Frame} {meth : Method} {c : Code} {T : State} {locs : List Loc} {Z : State} {a0 : Array Value} {h0 : Heap} {n0 : Nat}
    (X : Stand p l e room_1 s m args below meth c T locs 3 19) (hx : p.tables.exec = Jvm.exec) (hZ : Z.Warmed39 s.vm) (hw : ∀ d ∈ tables_1, d.before a0 Z = true) (hby : c.code = code) (hml : c.maxLocals = 26) (hown : s.vm.findClass "com/example/furl/furl/tree/PositionCountsAddPinLaw" = some m.cls) (hret : meth.sig.returnType = some .boolean) (hlk : meth.locks = false) (e0 : T.heap = h0) (N : Fr n0 locs) (Z0 : n0 ≤ h0.size)
    (aB : Addr) (aW : Addr) (NN : Nat) (B : Nat → Int64) (W : Nat → Int32) (i0 : Int32) (i1 : Int32) (i2 : Int32) (i3 : Int32) (i4 : Int32) (i5 : Int32) (i6 : Int32) (i7 : Int32) (i8 : Int32) (i9 : Int32) (i10 : Int32) (i11 : Int32) (i12 : Int32) (i13 : Int32) (i14 : Int32) (o15 : Addr) (i16 : Int32) (i17 : Int32) (i18 : Int32) (i19 : Int32) (i20 : Int32) (i21 : Int32) (t0 : Int32) {r : Int32} (hR : r = own_f0_330 NN B W i0 i1 i2 i3 i4 i5 i6 i7 i8 i9 i10 i11 i12 i13 i14 i16 i17 i18 i19 i20 i21 t0) (HP : own_PC Z h0 n0 o15 aB aW NN B W) (HR2 : own_rg2 NN i6 i7 i8 i12 i13 i14) : own_Go p e below s room_1.cells room_1.slots (own_QG (.int r) h0 n0) (T.setTop (mkF m 330 #[.val (.int i0), .val (.int i1), .val (.int i2), .val (.int i3), .val (.int i4), .val (.int i5), .val (.int i6), .val (.int i7), .val (.int i8), .val (.int i9), .val (.int i10), .val (.int i11), .val (.int i12), .val (.int i13), .val (.int i14), .val (.ref o15), .val (.int i16), .val (.int i17), .val (.int i18), .val (.int i19), .val (.int i20), .val (.int i21), .unset, .unset, .unset, .unset] [(.int t0)])) := by
  unfold own_f0_330 at hR
  refine own_back (fun t k => XS.istore X.here hx rfl (hb hby at_330) rfl (l' := #[.val (.int i0), .val (.int i1), .val (.int i2), .val (.int i3), .val (.int i4), .val (.int i5), .val (.int i6), .val (.int i7), .val (.int i8), .val (.int i9), .val (.int i10), .val (.int i11), .val (.int i12), .val (.int i13), .val (.int i14), .val (.ref o15), .val (.int i16), .val (.int i17), .val (.int i18), .val (.int i19), .val (.int i20), .val (.int i21), .val (.int t0), .unset, .unset, .unset]) rfl k) ?_
  show own_Go _ _ _ _ _ _ _ (T.setTop (mkF m 332 #[.val (.int i0), .val (.int i1), .val (.int i2), .val (.int i3), .val (.int i4), .val (.int i5), .val (.int i6), .val (.int i7), .val (.int i8), .val (.int i9), .val (.int i10), .val (.int i11), .val (.int i12), .val (.int i13), .val (.int i14), .val (.ref o15), .val (.int i16), .val (.int i17), .val (.int i18), .val (.int i19), .val (.int i20), .val (.int i21), .val (.int t0), .unset, .unset, .unset] []))
  refine own_back (fun t k => XS.aload X.here hx rfl (hb hby at_332) rfl rfl k) ?_
  show own_Go _ _ _ _ _ _ _ (T.setTop (mkF m 334 #[.val (.int i0), .val (.int i1), .val (.int i2), .val (.int i3), .val (.int i4), .val (.int i5), .val (.int i6), .val (.int i7), .val (.int i8), .val (.int i9), .val (.int i10), .val (.int i11), .val (.int i12), .val (.int i13), .val (.int i14), .val (.ref o15), .val (.int i16), .val (.int i17), .val (.int i18), .val (.int i19), .val (.int i20), .val (.int i21), .val (.int t0), .unset, .unset, .unset] [(.ref o15)]))
  refine own_back (fun t k => XS.iload X.here hx rfl (hb hby at_334) rfl k) ?_
  show own_Go _ _ _ _ _ _ _ (T.setTop (mkF m 336 #[.val (.int i0), .val (.int i1), .val (.int i2), .val (.int i3), .val (.int i4), .val (.int i5), .val (.int i6), .val (.int i7), .val (.int i8), .val (.int i9), .val (.int i10), .val (.int i11), .val (.int i12), .val (.int i13), .val (.int i14), .val (.ref o15), .val (.int i16), .val (.int i17), .val (.int i18), .val (.int i19), .val (.int i20), .val (.int i21), .val (.int t0), .unset, .unset, .unset] [(.int i12), (.ref o15)]))
  obtain ⟨cq11, kq11, q11a, q11b, q11c⟩ := isOf hZ e0 HP.1
  obtain ⟨_, _, ⟨T11, L11, k11, n11⟩, -, X11, ⟨Lc11, hQ11, l11, y11, z11⟩, st11⟩ := X.virtualBack hx (y := (⟨"com/example/furl/furl/tree/PositionCounts", "contains", "(I)Z"⟩ : MethodName)) (z := (⟨"com/example/furl/furl/tree/PositionCounts", "contains", "(I)Z"⟩ : MethodName)) hown (mvT hZ (hw _ (List.mem_of_getElem? (i := 25) rfl))) (mvT hZ (hw _ (List.mem_of_getElem? (i := 26) rfl))) (notFace_of_selects (args := #[]) (mvT hZ (hw _ (List.mem_of_getElem? (i := 28) rfl)))) (mvT hZ (hw _ (List.mem_of_getElem? (i := 28) rfl))) (mvT hZ (hw _ (List.mem_of_getElem? (i := 27) rfl))) (by decide) (backOf (W := 0) (own_rm5 l Z a0 hw [] o15 i12 aB NN B h0 n0 Z0 HP.2.1 HP.2.2.2.1 HR2.2.2.2.1 (Nat.le_trans HR2.1 (by decide))) hZ (hw _ (List.mem_of_getElem? (i := 29) rfl)) (hw _ (List.mem_of_getElem? (i := 3) rfl)) (by decide) (by decide)) q11a q11c (g := (mkF m 336 #[.val (.int i0), .val (.int i1), .val (.int i2), .val (.int i3), .val (.int i4), .val (.int i5), .val (.int i6), .val (.int i7), .val (.int i8), .val (.int i9), .val (.int i10), .val (.int i11), .val (.int i12), .val (.int i13), .val (.int i14), .val (.ref o15), .val (.int i16), .val (.int i17), .val (.int i18), .val (.int i19), .val (.int i20), .val (.int i21), .val (.int t0), .unset, .unset, .unset] [(.int i12), (.ref o15)])) rfl (by rw [hml]; rfl) (Steps.refl _) (argsL := [(.int i12)]) (rest := []) (lenOf own_pd5 rfl) rfl (by show 2 * 0 + _ ≤ _; exact Nat.le_of_eq rfl) (hb hby at_336) (fun _ _ => ⟨rfl, e0, (by decide : 3 + 0 ≤ _), (by decide : 19 + 0 ≤ _)⟩)
  dsimp only [Pt.U, Pt.locs, Pt.cells, Pt.slots] at X11 l11 y11 z11 st11 hQ11
  subst l11 y11 z11
  obtain ⟨rfl, N11q, e11⟩ := hQ11
  have N11 := Fr.app N N11q
  refine own_back (fun t k => st11.trans k) ?_
  show own_Go _ _ _ _ _ _ _ (T11.setTop (mkF m 339 #[.val (.int i0), .val (.int i1), .val (.int i2), .val (.int i3), .val (.int i4), .val (.int i5), .val (.int i6), .val (.int i7), .val (.int i8), .val (.int i9), .val (.int i10), .val (.int i11), .val (.int i12), .val (.int i13), .val (.int i14), .val (.ref o15), .val (.int i16), .val (.int i17), .val (.int i18), .val (.int i19), .val (.int i20), .val (.int i21), .val (.int t0), .unset, .unset, .unset] [(.int (own_f5_0 B i12))]))
  refine own_back (fun t k => XS.iload X11.here hx rfl (hb hby at_339) rfl k) ?_
  show own_Go _ _ _ _ _ _ _ (T11.setTop (mkF m 341 #[.val (.int i0), .val (.int i1), .val (.int i2), .val (.int i3), .val (.int i4), .val (.int i5), .val (.int i6), .val (.int i7), .val (.int i8), .val (.int i9), .val (.int i10), .val (.int i11), .val (.int i12), .val (.int i13), .val (.int i14), .val (.ref o15), .val (.int i16), .val (.int i17), .val (.int i18), .val (.int i19), .val (.int i20), .val (.int i21), .val (.int t0), .unset, .unset, .unset] [(.int i18), (.int (own_f5_0 B i12))]))
  by_cases hc341 : (own_f5_0 B i12) = i18
  · rw [if_pos hc341] at hR
    refine own_back (fun t k => XS.icmpNo X11.here hx rfl (hb hby at_341) rfl (teq hc341).2 k) ?_
    show own_Go _ _ _ _ _ _ _ (T11.setTop (mkF m 344 #[.val (.int i0), .val (.int i1), .val (.int i2), .val (.int i3), .val (.int i4), .val (.int i5), .val (.int i6), .val (.int i7), .val (.int i8), .val (.int i9), .val (.int i10), .val (.int i11), .val (.int i12), .val (.int i13), .val (.int i14), .val (.ref o15), .val (.int i16), .val (.int i17), .val (.int i18), .val (.int i19), .val (.int i20), .val (.int i21), .val (.int t0), .unset, .unset, .unset] []))
    refine own_back (fun t k => XS.iconst X11.here hx rfl (hb hby at_344) k) ?_
    show own_Go _ _ _ _ _ _ _ (T11.setTop (mkF m 345 #[.val (.int i0), .val (.int i1), .val (.int i2), .val (.int i3), .val (.int i4), .val (.int i5), .val (.int i6), .val (.int i7), .val (.int i8), .val (.int i9), .val (.int i10), .val (.int i11), .val (.int i12), .val (.int i13), .val (.int i14), .val (.ref o15), .val (.int i16), .val (.int i17), .val (.int i18), .val (.int i19), .val (.int i20), .val (.int i21), .val (.int t0), .unset, .unset, .unset] [(.int (1 : Int32))]))
    refine own_back (fun t k => XS.goto X11.here hx rfl (pc0 := 345) (pc' := 349) rfl (hb hby at_345) (by decide) (by decide) k) ?_
    show own_Go _ _ _ _ _ _ _ (T11.setTop (mkF m 349 #[.val (.int i0), .val (.int i1), .val (.int i2), .val (.int i3), .val (.int i4), .val (.int i5), .val (.int i6), .val (.int i7), .val (.int i8), .val (.int i9), .val (.int i10), .val (.int i11), .val (.int i12), .val (.int i13), .val (.int i14), .val (.ref o15), .val (.int i16), .val (.int i17), .val (.int i18), .val (.int i19), .val (.int i20), .val (.int i21), .val (.int t0), .unset, .unset, .unset] [(.int (1 : Int32))]))
    exact own_l0_349 X11 hx hZ hw hby hml hown hret hlk e11 N11 Z0 aB aW NN B W i0 i1 i2 i3 i4 i5 i6 i7 i8 i9 i10 i11 i12 i13 i14 o15 i16 i17 i18 i19 i20 i21 t0 (1 : Int32) hR HP HR2
  · rw [if_neg hc341] at hR
    refine own_back (fun t k => XS.icmpYes X11.here hx rfl (pc0 := 341) (pc' := 348) rfl (hb hby at_341) rfl (feq hc341).2 (by decide) (by decide) k) ?_
    show own_Go _ _ _ _ _ _ _ (T11.setTop (mkF m 348 #[.val (.int i0), .val (.int i1), .val (.int i2), .val (.int i3), .val (.int i4), .val (.int i5), .val (.int i6), .val (.int i7), .val (.int i8), .val (.int i9), .val (.int i10), .val (.int i11), .val (.int i12), .val (.int i13), .val (.int i14), .val (.ref o15), .val (.int i16), .val (.int i17), .val (.int i18), .val (.int i19), .val (.int i20), .val (.int i21), .val (.int t0), .unset, .unset, .unset] []))
    refine own_back (fun t k => XS.iconst X11.here hx rfl (hb hby at_348) k) ?_
    show own_Go _ _ _ _ _ _ _ (T11.setTop (mkF m 349 #[.val (.int i0), .val (.int i1), .val (.int i2), .val (.int i3), .val (.int i4), .val (.int i5), .val (.int i6), .val (.int i7), .val (.int i8), .val (.int i9), .val (.int i10), .val (.int i11), .val (.int i12), .val (.int i13), .val (.int i14), .val (.ref o15), .val (.int i16), .val (.int i17), .val (.int i18), .val (.int i19), .val (.int i20), .val (.int i21), .val (.int t0), .unset, .unset, .unset] [(.int (0 : Int32))]))
    exact own_l0_349 X11 hx hZ hw hby hml hown hret hlk e11 N11 Z0 aB aW NN B W i0 i1 i2 i3 i4 i5 i6 i7 i8 i9 i10 i11 i12 i13 i14 o15 i16 i17 i18 i19 i20 i21 t0 (0 : Int32) hR HP HR2
set_option maxRecDepth 65536 in
set_option maxHeartbeats 4000000 in
theorem own_l0_311 {p : Program} {l : Launch} {e : Env} {s : State} {m : MethodId} {args : Array Value} {below : List Frame} {meth : Method} {c : Code} {T : State} {locs : List Loc} {Z : State} {a0 : Array Value} {h0 : Heap} {n0 : Nat}
    (X : Stand p l e room_1 s m args below meth c T locs 3 19) (hx : p.tables.exec = Jvm.exec) (hZ : Z.Warmed39 s.vm) (hw : ∀ d ∈ tables_1, d.before a0 Z = true) (hby : c.code = code) (hml : c.maxLocals = 26) (hown : s.vm.findClass "com/example/furl/furl/tree/PositionCountsAddPinLaw" = some m.cls) (hret : meth.sig.returnType = some .boolean) (hlk : meth.locks = false) (e0 : T.heap = h0) (N : Fr n0 locs) (Z0 : n0 ≤ h0.size)
    (aB : Addr) (aW : Addr) (NN : Nat) (B : Nat → Int64) (W : Nat → Int32) (i0 : Int32) (i1 : Int32) (i2 : Int32) (i3 : Int32) (i4 : Int32) (i5 : Int32) (i6 : Int32) (i7 : Int32) (i8 : Int32) (i9 : Int32) (i10 : Int32) (i11 : Int32) (i12 : Int32) (i13 : Int32) (i14 : Int32) (o15 : Addr) (i16 : Int32) (i17 : Int32) (i18 : Int32) (i19 : Int32) (i20 : Int32) (t0 : Int32) {r : Int32} (hR : r = own_f0_311 NN B W i0 i1 i2 i3 i4 i5 i6 i7 i8 i9 i10 i11 i12 i13 i14 i16 i17 i18 i19 i20 t0) (HP : own_PC Z h0 n0 o15 aB aW NN B W) (HR2 : own_rg2 NN i6 i7 i8 i12 i13 i14) : own_Go p e below s room_1.cells room_1.slots (own_QG (.int r) h0 n0) (T.setTop (mkF m 311 #[.val (.int i0), .val (.int i1), .val (.int i2), .val (.int i3), .val (.int i4), .val (.int i5), .val (.int i6), .val (.int i7), .val (.int i8), .val (.int i9), .val (.int i10), .val (.int i11), .val (.int i12), .val (.int i13), .val (.int i14), .val (.ref o15), .val (.int i16), .val (.int i17), .val (.int i18), .val (.int i19), .val (.int i20), .unset, .unset, .unset, .unset, .unset] [(.int t0)])) := by
  unfold own_f0_311 at hR
  refine own_back (fun t k => XS.istore X.here hx rfl (hb hby at_311) rfl (l' := #[.val (.int i0), .val (.int i1), .val (.int i2), .val (.int i3), .val (.int i4), .val (.int i5), .val (.int i6), .val (.int i7), .val (.int i8), .val (.int i9), .val (.int i10), .val (.int i11), .val (.int i12), .val (.int i13), .val (.int i14), .val (.ref o15), .val (.int i16), .val (.int i17), .val (.int i18), .val (.int i19), .val (.int i20), .val (.int t0), .unset, .unset, .unset, .unset]) rfl k) ?_
  show own_Go _ _ _ _ _ _ _ (T.setTop (mkF m 313 #[.val (.int i0), .val (.int i1), .val (.int i2), .val (.int i3), .val (.int i4), .val (.int i5), .val (.int i6), .val (.int i7), .val (.int i8), .val (.int i9), .val (.int i10), .val (.int i11), .val (.int i12), .val (.int i13), .val (.int i14), .val (.ref o15), .val (.int i16), .val (.int i17), .val (.int i18), .val (.int i19), .val (.int i20), .val (.int t0), .unset, .unset, .unset, .unset] []))
  refine own_back (fun t k => XS.aload X.here hx rfl (hb hby at_313) rfl rfl k) ?_
  show own_Go _ _ _ _ _ _ _ (T.setTop (mkF m 315 #[.val (.int i0), .val (.int i1), .val (.int i2), .val (.int i3), .val (.int i4), .val (.int i5), .val (.int i6), .val (.int i7), .val (.int i8), .val (.int i9), .val (.int i10), .val (.int i11), .val (.int i12), .val (.int i13), .val (.int i14), .val (.ref o15), .val (.int i16), .val (.int i17), .val (.int i18), .val (.int i19), .val (.int i20), .val (.int t0), .unset, .unset, .unset, .unset] [(.ref o15)]))
  refine own_back (fun t k => XS.iload X.here hx rfl (hb hby at_315) rfl k) ?_
  show own_Go _ _ _ _ _ _ _ (T.setTop (mkF m 317 #[.val (.int i0), .val (.int i1), .val (.int i2), .val (.int i3), .val (.int i4), .val (.int i5), .val (.int i6), .val (.int i7), .val (.int i8), .val (.int i9), .val (.int i10), .val (.int i11), .val (.int i12), .val (.int i13), .val (.int i14), .val (.ref o15), .val (.int i16), .val (.int i17), .val (.int i18), .val (.int i19), .val (.int i20), .val (.int t0), .unset, .unset, .unset, .unset] [(.int i8), (.ref o15)]))
  obtain ⟨cq10, kq10, q10a, q10b, q10c⟩ := isOf hZ e0 HP.1
  obtain ⟨_, _, ⟨T10, L10, k10, n10⟩, -, X10, ⟨Lc10, hQ10, l10, y10, z10⟩, st10⟩ := X.virtualBack hx (y := (⟨"com/example/furl/furl/tree/PositionCounts", "contains", "(I)Z"⟩ : MethodName)) (z := (⟨"com/example/furl/furl/tree/PositionCounts", "contains", "(I)Z"⟩ : MethodName)) hown (mvT hZ (hw _ (List.mem_of_getElem? (i := 25) rfl))) (mvT hZ (hw _ (List.mem_of_getElem? (i := 26) rfl))) (notFace_of_selects (args := #[]) (mvT hZ (hw _ (List.mem_of_getElem? (i := 28) rfl)))) (mvT hZ (hw _ (List.mem_of_getElem? (i := 28) rfl))) (mvT hZ (hw _ (List.mem_of_getElem? (i := 27) rfl))) (by decide) (backOf (W := 0) (own_rm5 l Z a0 hw [] o15 i8 aB NN B h0 n0 Z0 HP.2.1 HP.2.2.2.1 HR2.2.2.1 (Nat.le_trans HR2.1 (by decide))) hZ (hw _ (List.mem_of_getElem? (i := 29) rfl)) (hw _ (List.mem_of_getElem? (i := 3) rfl)) (by decide) (by decide)) q10a q10c (g := (mkF m 317 #[.val (.int i0), .val (.int i1), .val (.int i2), .val (.int i3), .val (.int i4), .val (.int i5), .val (.int i6), .val (.int i7), .val (.int i8), .val (.int i9), .val (.int i10), .val (.int i11), .val (.int i12), .val (.int i13), .val (.int i14), .val (.ref o15), .val (.int i16), .val (.int i17), .val (.int i18), .val (.int i19), .val (.int i20), .val (.int t0), .unset, .unset, .unset, .unset] [(.int i8), (.ref o15)])) rfl (by rw [hml]; rfl) (Steps.refl _) (argsL := [(.int i8)]) (rest := []) (lenOf own_pd5 rfl) rfl (by show 2 * 0 + _ ≤ _; exact Nat.le_of_eq rfl) (hb hby at_317) (fun _ _ => ⟨rfl, e0, (by decide : 3 + 0 ≤ _), (by decide : 19 + 0 ≤ _)⟩)
  dsimp only [Pt.U, Pt.locs, Pt.cells, Pt.slots] at X10 l10 y10 z10 st10 hQ10
  subst l10 y10 z10
  obtain ⟨rfl, N10q, e10⟩ := hQ10
  have N10 := Fr.app N N10q
  refine own_back (fun t k => st10.trans k) ?_
  show own_Go _ _ _ _ _ _ _ (T10.setTop (mkF m 320 #[.val (.int i0), .val (.int i1), .val (.int i2), .val (.int i3), .val (.int i4), .val (.int i5), .val (.int i6), .val (.int i7), .val (.int i8), .val (.int i9), .val (.int i10), .val (.int i11), .val (.int i12), .val (.int i13), .val (.int i14), .val (.ref o15), .val (.int i16), .val (.int i17), .val (.int i18), .val (.int i19), .val (.int i20), .val (.int t0), .unset, .unset, .unset, .unset] [(.int (own_f5_0 B i8))]))
  refine own_back (fun t k => XS.iload X10.here hx rfl (hb hby at_320) rfl k) ?_
  show own_Go _ _ _ _ _ _ _ (T10.setTop (mkF m 322 #[.val (.int i0), .val (.int i1), .val (.int i2), .val (.int i3), .val (.int i4), .val (.int i5), .val (.int i6), .val (.int i7), .val (.int i8), .val (.int i9), .val (.int i10), .val (.int i11), .val (.int i12), .val (.int i13), .val (.int i14), .val (.ref o15), .val (.int i16), .val (.int i17), .val (.int i18), .val (.int i19), .val (.int i20), .val (.int t0), .unset, .unset, .unset, .unset] [(.int i17), (.int (own_f5_0 B i8))]))
  by_cases hc322 : (own_f5_0 B i8) = i17
  · rw [if_pos hc322] at hR
    refine own_back (fun t k => XS.icmpNo X10.here hx rfl (hb hby at_322) rfl (teq hc322).2 k) ?_
    show own_Go _ _ _ _ _ _ _ (T10.setTop (mkF m 325 #[.val (.int i0), .val (.int i1), .val (.int i2), .val (.int i3), .val (.int i4), .val (.int i5), .val (.int i6), .val (.int i7), .val (.int i8), .val (.int i9), .val (.int i10), .val (.int i11), .val (.int i12), .val (.int i13), .val (.int i14), .val (.ref o15), .val (.int i16), .val (.int i17), .val (.int i18), .val (.int i19), .val (.int i20), .val (.int t0), .unset, .unset, .unset, .unset] []))
    refine own_back (fun t k => XS.iconst X10.here hx rfl (hb hby at_325) k) ?_
    show own_Go _ _ _ _ _ _ _ (T10.setTop (mkF m 326 #[.val (.int i0), .val (.int i1), .val (.int i2), .val (.int i3), .val (.int i4), .val (.int i5), .val (.int i6), .val (.int i7), .val (.int i8), .val (.int i9), .val (.int i10), .val (.int i11), .val (.int i12), .val (.int i13), .val (.int i14), .val (.ref o15), .val (.int i16), .val (.int i17), .val (.int i18), .val (.int i19), .val (.int i20), .val (.int t0), .unset, .unset, .unset, .unset] [(.int (1 : Int32))]))
    refine own_back (fun t k => XS.goto X10.here hx rfl (pc0 := 326) (pc' := 330) rfl (hb hby at_326) (by decide) (by decide) k) ?_
    show own_Go _ _ _ _ _ _ _ (T10.setTop (mkF m 330 #[.val (.int i0), .val (.int i1), .val (.int i2), .val (.int i3), .val (.int i4), .val (.int i5), .val (.int i6), .val (.int i7), .val (.int i8), .val (.int i9), .val (.int i10), .val (.int i11), .val (.int i12), .val (.int i13), .val (.int i14), .val (.ref o15), .val (.int i16), .val (.int i17), .val (.int i18), .val (.int i19), .val (.int i20), .val (.int t0), .unset, .unset, .unset, .unset] [(.int (1 : Int32))]))
    exact own_l0_330 X10 hx hZ hw hby hml hown hret hlk e10 N10 Z0 aB aW NN B W i0 i1 i2 i3 i4 i5 i6 i7 i8 i9 i10 i11 i12 i13 i14 o15 i16 i17 i18 i19 i20 t0 (1 : Int32) hR HP HR2
  · rw [if_neg hc322] at hR
    refine own_back (fun t k => XS.icmpYes X10.here hx rfl (pc0 := 322) (pc' := 329) rfl (hb hby at_322) rfl (feq hc322).2 (by decide) (by decide) k) ?_
    show own_Go _ _ _ _ _ _ _ (T10.setTop (mkF m 329 #[.val (.int i0), .val (.int i1), .val (.int i2), .val (.int i3), .val (.int i4), .val (.int i5), .val (.int i6), .val (.int i7), .val (.int i8), .val (.int i9), .val (.int i10), .val (.int i11), .val (.int i12), .val (.int i13), .val (.int i14), .val (.ref o15), .val (.int i16), .val (.int i17), .val (.int i18), .val (.int i19), .val (.int i20), .val (.int t0), .unset, .unset, .unset, .unset] []))
    refine own_back (fun t k => XS.iconst X10.here hx rfl (hb hby at_329) k) ?_
    show own_Go _ _ _ _ _ _ _ (T10.setTop (mkF m 330 #[.val (.int i0), .val (.int i1), .val (.int i2), .val (.int i3), .val (.int i4), .val (.int i5), .val (.int i6), .val (.int i7), .val (.int i8), .val (.int i9), .val (.int i10), .val (.int i11), .val (.int i12), .val (.int i13), .val (.int i14), .val (.ref o15), .val (.int i16), .val (.int i17), .val (.int i18), .val (.int i19), .val (.int i20), .val (.int t0), .unset, .unset, .unset, .unset] [(.int (0 : Int32))]))
    exact own_l0_330 X10 hx hZ hw hby hml hown hret hlk e10 N10 Z0 aB aW NN B W i0 i1 i2 i3 i4 i5 i6 i7 i8 i9 i10 i11 i12 i13 i14 o15 i16 i17 i18 i19 i20 t0 (0 : Int32) hR HP HR2
set_option maxRecDepth 65536 in
set_option maxHeartbeats 4000000 in
theorem own_l0_291 {p : Program} {l : Launch} {e : Env} {s : State} {m : MethodId} {args : Array Value} {below : List Frame} {meth : Method} {c : Code} {T : State} {locs : List Loc} {Z : State} {a0 : Array Value} {h0 : Heap} {n0 : Nat}
    (X : Stand p l e room_1 s m args below meth c T locs 3 19) (hx : p.tables.exec = Jvm.exec) (hZ : Z.Warmed39 s.vm) (hw : ∀ d ∈ tables_1, d.before a0 Z = true) (hby : c.code = code) (hml : c.maxLocals = 26) (hown : s.vm.findClass "com/example/furl/furl/tree/PositionCountsAddPinLaw" = some m.cls) (hret : meth.sig.returnType = some .boolean) (hlk : meth.locks = false) (e0 : T.heap = h0) (N : Fr n0 locs) (Z0 : n0 ≤ h0.size)
    (aB : Addr) (aW : Addr) (NN : Nat) (B : Nat → Int64) (W : Nat → Int32) (i0 : Int32) (i1 : Int32) (i2 : Int32) (i3 : Int32) (i4 : Int32) (i5 : Int32) (i6 : Int32) (i7 : Int32) (i8 : Int32) (i9 : Int32) (i10 : Int32) (i11 : Int32) (i12 : Int32) (i13 : Int32) (i14 : Int32) (o15 : Addr) (i16 : Int32) (i17 : Int32) (i18 : Int32) (i19 : Int32) (t0 : Int32) (t1 : Int32) {r : Int32} (hR : r = own_f0_291 NN B W i0 i1 i2 i3 i4 i5 i6 i7 i8 i9 i10 i11 i12 i13 i14 i16 i17 i18 i19 t0 t1) (HP : own_PC Z h0 n0 o15 aB aW NN B W) (HR2 : own_rg2 NN i6 i7 i8 i12 i13 i14) : own_Go p e below s room_1.cells room_1.slots (own_QG (.int r) h0 n0) (T.setTop (mkF m 291 #[.val (.int i0), .val (.int i1), .val (.int i2), .val (.int i3), .val (.int i4), .val (.int i5), .val (.int i6), .val (.int i7), .val (.int i8), .val (.int i9), .val (.int i10), .val (.int i11), .val (.int i12), .val (.int i13), .val (.int i14), .val (.ref o15), .val (.int i16), .val (.int i17), .val (.int i18), .val (.int i19), .unset, .unset, .unset, .unset, .unset, .unset] [(.int t0), (.int t1)])) := by
  unfold own_f0_291 at hR
  refine own_back (fun t k => XS.iadd X.here hx rfl (hb hby at_291) rfl k) ?_
  show own_Go _ _ _ _ _ _ _ (T.setTop (mkF m 292 #[.val (.int i0), .val (.int i1), .val (.int i2), .val (.int i3), .val (.int i4), .val (.int i5), .val (.int i6), .val (.int i7), .val (.int i8), .val (.int i9), .val (.int i10), .val (.int i11), .val (.int i12), .val (.int i13), .val (.int i14), .val (.ref o15), .val (.int i16), .val (.int i17), .val (.int i18), .val (.int i19), .unset, .unset, .unset, .unset, .unset, .unset] [(.int (t1 + t0))]))
  refine own_back (fun t k => XS.istore X.here hx rfl (hb hby at_292) rfl (l' := #[.val (.int i0), .val (.int i1), .val (.int i2), .val (.int i3), .val (.int i4), .val (.int i5), .val (.int i6), .val (.int i7), .val (.int i8), .val (.int i9), .val (.int i10), .val (.int i11), .val (.int i12), .val (.int i13), .val (.int i14), .val (.ref o15), .val (.int i16), .val (.int i17), .val (.int i18), .val (.int i19), .val (.int (t1 + t0)), .unset, .unset, .unset, .unset, .unset]) rfl k) ?_
  show own_Go _ _ _ _ _ _ _ (T.setTop (mkF m 294 #[.val (.int i0), .val (.int i1), .val (.int i2), .val (.int i3), .val (.int i4), .val (.int i5), .val (.int i6), .val (.int i7), .val (.int i8), .val (.int i9), .val (.int i10), .val (.int i11), .val (.int i12), .val (.int i13), .val (.int i14), .val (.ref o15), .val (.int i16), .val (.int i17), .val (.int i18), .val (.int i19), .val (.int (t1 + t0)), .unset, .unset, .unset, .unset, .unset] []))
  refine own_back (fun t k => XS.aload X.here hx rfl (hb hby at_294) rfl rfl k) ?_
  show own_Go _ _ _ _ _ _ _ (T.setTop (mkF m 296 #[.val (.int i0), .val (.int i1), .val (.int i2), .val (.int i3), .val (.int i4), .val (.int i5), .val (.int i6), .val (.int i7), .val (.int i8), .val (.int i9), .val (.int i10), .val (.int i11), .val (.int i12), .val (.int i13), .val (.int i14), .val (.ref o15), .val (.int i16), .val (.int i17), .val (.int i18), .val (.int i19), .val (.int (t1 + t0)), .unset, .unset, .unset, .unset, .unset] [(.ref o15)]))
  refine own_back (fun t k => XS.iload X.here hx rfl (hb hby at_296) rfl k) ?_
  show own_Go _ _ _ _ _ _ _ (T.setTop (mkF m 298 #[.val (.int i0), .val (.int i1), .val (.int i2), .val (.int i3), .val (.int i4), .val (.int i5), .val (.int i6), .val (.int i7), .val (.int i8), .val (.int i9), .val (.int i10), .val (.int i11), .val (.int i12), .val (.int i13), .val (.int i14), .val (.ref o15), .val (.int i16), .val (.int i17), .val (.int i18), .val (.int i19), .val (.int (t1 + t0)), .unset, .unset, .unset, .unset, .unset] [(.int i7), (.ref o15)]))
  obtain ⟨cq9, kq9, q9a, q9b, q9c⟩ := isOf hZ e0 HP.1
  obtain ⟨_, _, ⟨T9, L9, k9, n9⟩, -, X9, ⟨Lc9, hQ9, l9, y9, z9⟩, st9⟩ := X.virtualBack hx (y := (⟨"com/example/furl/furl/tree/PositionCounts", "contains", "(I)Z"⟩ : MethodName)) (z := (⟨"com/example/furl/furl/tree/PositionCounts", "contains", "(I)Z"⟩ : MethodName)) hown (mvT hZ (hw _ (List.mem_of_getElem? (i := 25) rfl))) (mvT hZ (hw _ (List.mem_of_getElem? (i := 26) rfl))) (notFace_of_selects (args := #[]) (mvT hZ (hw _ (List.mem_of_getElem? (i := 28) rfl)))) (mvT hZ (hw _ (List.mem_of_getElem? (i := 28) rfl))) (mvT hZ (hw _ (List.mem_of_getElem? (i := 27) rfl))) (by decide) (backOf (W := 0) (own_rm5 l Z a0 hw [] o15 i7 aB NN B h0 n0 Z0 HP.2.1 HP.2.2.2.1 HR2.2.1 (Nat.le_trans HR2.1 (by decide))) hZ (hw _ (List.mem_of_getElem? (i := 29) rfl)) (hw _ (List.mem_of_getElem? (i := 3) rfl)) (by decide) (by decide)) q9a q9c (g := (mkF m 298 #[.val (.int i0), .val (.int i1), .val (.int i2), .val (.int i3), .val (.int i4), .val (.int i5), .val (.int i6), .val (.int i7), .val (.int i8), .val (.int i9), .val (.int i10), .val (.int i11), .val (.int i12), .val (.int i13), .val (.int i14), .val (.ref o15), .val (.int i16), .val (.int i17), .val (.int i18), .val (.int i19), .val (.int (t1 + t0)), .unset, .unset, .unset, .unset, .unset] [(.int i7), (.ref o15)])) rfl (by rw [hml]; rfl) (Steps.refl _) (argsL := [(.int i7)]) (rest := []) (lenOf own_pd5 rfl) rfl (by show 2 * 0 + _ ≤ _; exact Nat.le_of_eq rfl) (hb hby at_298) (fun _ _ => ⟨rfl, e0, (by decide : 3 + 0 ≤ _), (by decide : 19 + 0 ≤ _)⟩)
  dsimp only [Pt.U, Pt.locs, Pt.cells, Pt.slots] at X9 l9 y9 z9 st9 hQ9
  subst l9 y9 z9
  obtain ⟨rfl, N9q, e9⟩ := hQ9
  have N9 := Fr.app N N9q
  refine own_back (fun t k => st9.trans k) ?_
  show own_Go _ _ _ _ _ _ _ (T9.setTop (mkF m 301 #[.val (.int i0), .val (.int i1), .val (.int i2), .val (.int i3), .val (.int i4), .val (.int i5), .val (.int i6), .val (.int i7), .val (.int i8), .val (.int i9), .val (.int i10), .val (.int i11), .val (.int i12), .val (.int i13), .val (.int i14), .val (.ref o15), .val (.int i16), .val (.int i17), .val (.int i18), .val (.int i19), .val (.int (t1 + t0)), .unset, .unset, .unset, .unset, .unset] [(.int (own_f5_0 B i7))]))
  refine own_back (fun t k => XS.iload X9.here hx rfl (hb hby at_301) rfl k) ?_
  show own_Go _ _ _ _ _ _ _ (T9.setTop (mkF m 303 #[.val (.int i0), .val (.int i1), .val (.int i2), .val (.int i3), .val (.int i4), .val (.int i5), .val (.int i6), .val (.int i7), .val (.int i8), .val (.int i9), .val (.int i10), .val (.int i11), .val (.int i12), .val (.int i13), .val (.int i14), .val (.ref o15), .val (.int i16), .val (.int i17), .val (.int i18), .val (.int i19), .val (.int (t1 + t0)), .unset, .unset, .unset, .unset, .unset] [(.int i16), (.int (own_f5_0 B i7))]))
  by_cases hc303 : (own_f5_0 B i7) = i16
  · rw [if_pos hc303] at hR
    refine own_back (fun t k => XS.icmpNo X9.here hx rfl (hb hby at_303) rfl (teq hc303).2 k) ?_
    show own_Go _ _ _ _ _ _ _ (T9.setTop (mkF m 306 #[.val (.int i0), .val (.int i1), .val (.int i2), .val (.int i3), .val (.int i4), .val (.int i5), .val (.int i6), .val (.int i7), .val (.int i8), .val (.int i9), .val (.int i10), .val (.int i11), .val (.int i12), .val (.int i13), .val (.int i14), .val (.ref o15), .val (.int i16), .val (.int i17), .val (.int i18), .val (.int i19), .val (.int (t1 + t0)), .unset, .unset, .unset, .unset, .unset] []))
    refine own_back (fun t k => XS.iconst X9.here hx rfl (hb hby at_306) k) ?_
    show own_Go _ _ _ _ _ _ _ (T9.setTop (mkF m 307 #[.val (.int i0), .val (.int i1), .val (.int i2), .val (.int i3), .val (.int i4), .val (.int i5), .val (.int i6), .val (.int i7), .val (.int i8), .val (.int i9), .val (.int i10), .val (.int i11), .val (.int i12), .val (.int i13), .val (.int i14), .val (.ref o15), .val (.int i16), .val (.int i17), .val (.int i18), .val (.int i19), .val (.int (t1 + t0)), .unset, .unset, .unset, .unset, .unset] [(.int (1 : Int32))]))
    refine own_back (fun t k => XS.goto X9.here hx rfl (pc0 := 307) (pc' := 311) rfl (hb hby at_307) (by decide) (by decide) k) ?_
    show own_Go _ _ _ _ _ _ _ (T9.setTop (mkF m 311 #[.val (.int i0), .val (.int i1), .val (.int i2), .val (.int i3), .val (.int i4), .val (.int i5), .val (.int i6), .val (.int i7), .val (.int i8), .val (.int i9), .val (.int i10), .val (.int i11), .val (.int i12), .val (.int i13), .val (.int i14), .val (.ref o15), .val (.int i16), .val (.int i17), .val (.int i18), .val (.int i19), .val (.int (t1 + t0)), .unset, .unset, .unset, .unset, .unset] [(.int (1 : Int32))]))
    exact own_l0_311 X9 hx hZ hw hby hml hown hret hlk e9 N9 Z0 aB aW NN B W i0 i1 i2 i3 i4 i5 i6 i7 i8 i9 i10 i11 i12 i13 i14 o15 i16 i17 i18 i19 (t1 + t0) (1 : Int32) hR HP HR2
  · rw [if_neg hc303] at hR
    refine own_back (fun t k => XS.icmpYes X9.here hx rfl (pc0 := 303) (pc' := 310) rfl (hb hby at_303) rfl (feq hc303).2 (by decide) (by decide) k) ?_
    show own_Go _ _ _ _ _ _ _ (T9.setTop (mkF m 310 #[.val (.int i0), .val (.int i1), .val (.int i2), .val (.int i3), .val (.int i4), .val (.int i5), .val (.int i6), .val (.int i7), .val (.int i8), .val (.int i9), .val (.int i10), .val (.int i11), .val (.int i12), .val (.int i13), .val (.int i14), .val (.ref o15), .val (.int i16), .val (.int i17), .val (.int i18), .val (.int i19), .val (.int (t1 + t0)), .unset, .unset, .unset, .unset, .unset] []))
    refine own_back (fun t k => XS.iconst X9.here hx rfl (hb hby at_310) k) ?_
    show own_Go _ _ _ _ _ _ _ (T9.setTop (mkF m 311 #[.val (.int i0), .val (.int i1), .val (.int i2), .val (.int i3), .val (.int i4), .val (.int i5), .val (.int i6), .val (.int i7), .val (.int i8), .val (.int i9), .val (.int i10), .val (.int i11), .val (.int i12), .val (.int i13), .val (.int i14), .val (.ref o15), .val (.int i16), .val (.int i17), .val (.int i18), .val (.int i19), .val (.int (t1 + t0)), .unset, .unset, .unset, .unset, .unset] [(.int (0 : Int32))]))
    exact own_l0_311 X9 hx hZ hw hby hml hown hret hlk e9 N9 Z0 aB aW NN B W i0 i1 i2 i3 i4 i5 i6 i7 i8 i9 i10 i11 i12 i13 i14 o15 i16 i17 i18 i19 (t1 + t0) (0 : Int32) hR HP HR2
set_option maxRecDepth 65536 in
set_option maxHeartbeats 4000000 in
theorem own_l0_290 {p : Program} {l : Launch} {e : Env} {s : State} {m : MethodId} {args : Array Value} {below : List Frame} {meth : Method} {c : Code} {T : State} {locs : List Loc} {Z : State} {a0 : Array Value} {h0 : Heap} {n0 : Nat}
    (X : Stand p l e room_1 s m args below meth c T locs 3 19) (hx : p.tables.exec = Jvm.exec) (hZ : Z.Warmed39 s.vm) (hw : ∀ d ∈ tables_1, d.before a0 Z = true) (hby : c.code = code) (hml : c.maxLocals = 26) (hown : s.vm.findClass "com/example/furl/furl/tree/PositionCountsAddPinLaw" = some m.cls) (hret : meth.sig.returnType = some .boolean) (hlk : meth.locks = false) (e0 : T.heap = h0) (N : Fr n0 locs) (Z0 : n0 ≤ h0.size)
    (aB : Addr) (aW : Addr) (NN : Nat) (B : Nat → Int64) (W : Nat → Int32) (i0 : Int32) (i1 : Int32) (i2 : Int32) (i3 : Int32) (i4 : Int32) (i5 : Int32) (i6 : Int32) (i7 : Int32) (i8 : Int32) (i9 : Int32) (i10 : Int32) (i11 : Int32) (i12 : Int32) (i13 : Int32) (i14 : Int32) (o15 : Addr) (i16 : Int32) (i17 : Int32) (i18 : Int32) (i19 : Int32) (t0 : Int32) {r : Int32} (hR : r = own_f0_290 NN B W i0 i1 i2 i3 i4 i5 i6 i7 i8 i9 i10 i11 i12 i13 i14 i16 i17 i18 i19 t0) (HP : own_PC Z h0 n0 o15 aB aW NN B W) (HR2 : own_rg2 NN i6 i7 i8 i12 i13 i14) : own_Go p e below s room_1.cells room_1.slots (own_QG (.int r) h0 n0) (T.setTop (mkF m 290 #[.val (.int i0), .val (.int i1), .val (.int i2), .val (.int i3), .val (.int i4), .val (.int i5), .val (.int i6), .val (.int i7), .val (.int i8), .val (.int i9), .val (.int i10), .val (.int i11), .val (.int i12), .val (.int i13), .val (.int i14), .val (.ref o15), .val (.int i16), .val (.int i17), .val (.int i18), .val (.int i19), .unset, .unset, .unset, .unset, .unset, .unset] [(.int t0)])) := by
  unfold own_f0_290 at hR
  refine own_back (fun t k => XS.iconst X.here hx rfl (hb hby at_290) k) ?_
  show own_Go _ _ _ _ _ _ _ (T.setTop (mkF m 291 #[.val (.int i0), .val (.int i1), .val (.int i2), .val (.int i3), .val (.int i4), .val (.int i5), .val (.int i6), .val (.int i7), .val (.int i8), .val (.int i9), .val (.int i10), .val (.int i11), .val (.int i12), .val (.int i13), .val (.int i14), .val (.ref o15), .val (.int i16), .val (.int i17), .val (.int i18), .val (.int i19), .unset, .unset, .unset, .unset, .unset, .unset] [(.int (0 : Int32)), (.int t0)]))
  exact own_l0_291 X hx hZ hw hby hml hown hret hlk e0 N Z0 aB aW NN B W i0 i1 i2 i3 i4 i5 i6 i7 i8 i9 i10 i11 i12 i13 i14 o15 i16 i17 i18 i19 (0 : Int32) t0 hR HP HR2
set_option maxRecDepth 65536 in
set_option maxHeartbeats 4000000 in
theorem own_l0_276 {p : Program} {l : Launch} {e : Env} {s : State} {m : MethodId} {args : Array Value} {below : List Frame} {meth : Method} {c : Code} {T : State} {locs : List Loc} {Z : State} {a0 : Array Value} {h0 : Heap} {n0 : Nat}
    (X : Stand p l e room_1 s m args below meth c T locs 3 19) (hx : p.tables.exec = Jvm.exec) (hZ : Z.Warmed39 s.vm) (hw : ∀ d ∈ tables_1, d.before a0 Z = true) (hby : c.code = code) (hml : c.maxLocals = 26) (hown : s.vm.findClass "com/example/furl/furl/tree/PositionCountsAddPinLaw" = some m.cls) (hret : meth.sig.returnType = some .boolean) (hlk : meth.locks = false) (e0 : T.heap = h0) (N : Fr n0 locs) (Z0 : n0 ≤ h0.size)
    (aB : Addr) (aW : Addr) (NN : Nat) (B : Nat → Int64) (W : Nat → Int32) (i0 : Int32) (i1 : Int32) (i2 : Int32) (i3 : Int32) (i4 : Int32) (i5 : Int32) (i6 : Int32) (i7 : Int32) (i8 : Int32) (i9 : Int32) (i10 : Int32) (i11 : Int32) (i12 : Int32) (i13 : Int32) (i14 : Int32) (o15 : Addr) (i16 : Int32) (i17 : Int32) (i18 : Int32) (i19 : Int32) (t0 : Int32) {r : Int32} (hR : r = own_f0_276 NN B W i0 i1 i2 i3 i4 i5 i6 i7 i8 i9 i10 i11 i12 i13 i14 i16 i17 i18 i19 t0) (HP : own_PC Z h0 n0 o15 aB aW NN B W) (HR2 : own_rg2 NN i6 i7 i8 i12 i13 i14) : own_Go p e below s room_1.cells room_1.slots (own_QG (.int r) h0 n0) (T.setTop (mkF m 276 #[.val (.int i0), .val (.int i1), .val (.int i2), .val (.int i3), .val (.int i4), .val (.int i5), .val (.int i6), .val (.int i7), .val (.int i8), .val (.int i9), .val (.int i10), .val (.int i11), .val (.int i12), .val (.int i13), .val (.int i14), .val (.ref o15), .val (.int i16), .val (.int i17), .val (.int i18), .val (.int i19), .unset, .unset, .unset, .unset, .unset, .unset] [(.int t0)])) := by
  unfold own_f0_276 at hR
  refine own_back (fun t k => XS.iload X.here hx rfl (hb hby at_276) rfl k) ?_
  show own_Go _ _ _ _ _ _ _ (T.setTop (mkF m 278 #[.val (.int i0), .val (.int i1), .val (.int i2), .val (.int i3), .val (.int i4), .val (.int i5), .val (.int i6), .val (.int i7), .val (.int i8), .val (.int i9), .val (.int i10), .val (.int i11), .val (.int i12), .val (.int i13), .val (.int i14), .val (.ref o15), .val (.int i16), .val (.int i17), .val (.int i18), .val (.int i19), .unset, .unset, .unset, .unset, .unset, .unset] [(.int i9), (.int t0)]))
  by_cases hc278 : i9 = (0 : Int32)
  · rw [if_pos hc278] at hR
    refine own_back (fun t k => XS.ifYes X.here hx rfl (pc0 := 278) (pc' := 290) rfl (hb hby at_278) rfl ((if0 _ _).trans (teq hc278).1) (by decide) (by decide) k) ?_
    show own_Go _ _ _ _ _ _ _ (T.setTop (mkF m 290 #[.val (.int i0), .val (.int i1), .val (.int i2), .val (.int i3), .val (.int i4), .val (.int i5), .val (.int i6), .val (.int i7), .val (.int i8), .val (.int i9), .val (.int i10), .val (.int i11), .val (.int i12), .val (.int i13), .val (.int i14), .val (.ref o15), .val (.int i16), .val (.int i17), .val (.int i18), .val (.int i19), .unset, .unset, .unset, .unset, .unset, .unset] [(.int t0)]))
    exact own_l0_290 X hx hZ hw hby hml hown hret hlk e0 N Z0 aB aW NN B W i0 i1 i2 i3 i4 i5 i6 i7 i8 i9 i10 i11 i12 i13 i14 o15 i16 i17 i18 i19 t0 hR HP HR2
  · rw [if_neg hc278] at hR
    refine own_back (fun t k => XS.ifNo X.here hx rfl (hb hby at_278) rfl ((if0 _ _).trans (feq hc278).1) k) ?_
    show own_Go _ _ _ _ _ _ _ (T.setTop (mkF m 281 #[.val (.int i0), .val (.int i1), .val (.int i2), .val (.int i3), .val (.int i4), .val (.int i5), .val (.int i6), .val (.int i7), .val (.int i8), .val (.int i9), .val (.int i10), .val (.int i11), .val (.int i12), .val (.int i13), .val (.int i14), .val (.ref o15), .val (.int i16), .val (.int i17), .val (.int i18), .val (.int i19), .unset, .unset, .unset, .unset, .unset, .unset] [(.int t0)]))
    refine own_back (fun t k => XS.iload X.here hx rfl (hb hby at_281) rfl k) ?_
    show own_Go _ _ _ _ _ _ _ (T.setTop (mkF m 283 #[.val (.int i0), .val (.int i1), .val (.int i2), .val (.int i3), .val (.int i4), .val (.int i5), .val (.int i6), .val (.int i7), .val (.int i8), .val (.int i9), .val (.int i10), .val (.int i11), .val (.int i12), .val (.int i13), .val (.int i14), .val (.ref o15), .val (.int i16), .val (.int i17), .val (.int i18), .val (.int i19), .unset, .unset, .unset, .unset, .unset, .unset] [(.int i17), (.int t0)]))
    by_cases hc283 : i17 = (0 : Int32)
    · rw [if_pos hc283] at hR
      refine own_back (fun t k => XS.ifYes X.here hx rfl (pc0 := 283) (pc' := 290) rfl (hb hby at_283) rfl ((if0 _ _).trans (teq hc283).1) (by decide) (by decide) k) ?_
      show own_Go _ _ _ _ _ _ _ (T.setTop (mkF m 290 #[.val (.int i0), .val (.int i1), .val (.int i2), .val (.int i3), .val (.int i4), .val (.int i5), .val (.int i6), .val (.int i7), .val (.int i8), .val (.int i9), .val (.int i10), .val (.int i11), .val (.int i12), .val (.int i13), .val (.int i14), .val (.ref o15), .val (.int i16), .val (.int i17), .val (.int i18), .val (.int i19), .unset, .unset, .unset, .unset, .unset, .unset] [(.int t0)]))
      exact own_l0_290 X hx hZ hw hby hml hown hret hlk e0 N Z0 aB aW NN B W i0 i1 i2 i3 i4 i5 i6 i7 i8 i9 i10 i11 i12 i13 i14 o15 i16 i17 i18 i19 t0 hR HP HR2
    · rw [if_neg hc283] at hR
      refine own_back (fun t k => XS.ifNo X.here hx rfl (hb hby at_283) rfl ((if0 _ _).trans (feq hc283).1) k) ?_
      show own_Go _ _ _ _ _ _ _ (T.setTop (mkF m 286 #[.val (.int i0), .val (.int i1), .val (.int i2), .val (.int i3), .val (.int i4), .val (.int i5), .val (.int i6), .val (.int i7), .val (.int i8), .val (.int i9), .val (.int i10), .val (.int i11), .val (.int i12), .val (.int i13), .val (.int i14), .val (.ref o15), .val (.int i16), .val (.int i17), .val (.int i18), .val (.int i19), .unset, .unset, .unset, .unset, .unset, .unset] [(.int t0)]))
      refine own_back (fun t k => XS.iconst X.here hx rfl (hb hby at_286) k) ?_
      show own_Go _ _ _ _ _ _ _ (T.setTop (mkF m 287 #[.val (.int i0), .val (.int i1), .val (.int i2), .val (.int i3), .val (.int i4), .val (.int i5), .val (.int i6), .val (.int i7), .val (.int i8), .val (.int i9), .val (.int i10), .val (.int i11), .val (.int i12), .val (.int i13), .val (.int i14), .val (.ref o15), .val (.int i16), .val (.int i17), .val (.int i18), .val (.int i19), .unset, .unset, .unset, .unset, .unset, .unset] [(.int (1 : Int32)), (.int t0)]))
      refine own_back (fun t k => XS.goto X.here hx rfl (pc0 := 287) (pc' := 291) rfl (hb hby at_287) (by decide) (by decide) k) ?_
      show own_Go _ _ _ _ _ _ _ (T.setTop (mkF m 291 #[.val (.int i0), .val (.int i1), .val (.int i2), .val (.int i3), .val (.int i4), .val (.int i5), .val (.int i6), .val (.int i7), .val (.int i8), .val (.int i9), .val (.int i10), .val (.int i11), .val (.int i12), .val (.int i13), .val (.int i14), .val (.ref o15), .val (.int i16), .val (.int i17), .val (.int i18), .val (.int i19), .unset, .unset, .unset, .unset, .unset, .unset] [(.int (1 : Int32)), (.int t0)]))
      exact own_l0_291 X hx hZ hw hby hml hown hret hlk e0 N Z0 aB aW NN B W i0 i1 i2 i3 i4 i5 i6 i7 i8 i9 i10 i11 i12 i13 i14 o15 i16 i17 i18 i19 (1 : Int32) t0 hR HP HR2
set_option maxRecDepth 65536 in
set_option maxHeartbeats 4000000 in
theorem own_l0_263 {p : Program} {l : Launch} {e : Env} {s : State} {m : MethodId} {args : Array Value} {below : List Frame} {meth : Method} {c : Code} {T : State} {locs : List Loc} {Z : State} {a0 : Array Value} {h0 : Heap} {n0 : Nat}
    (X : Stand p l e room_1 s m args below meth c T locs 3 19) (hx : p.tables.exec = Jvm.exec) (hZ : Z.Warmed39 s.vm) (hw : ∀ d ∈ tables_1, d.before a0 Z = true) (hby : c.code = code) (hml : c.maxLocals = 26) (hown : s.vm.findClass "com/example/furl/furl/tree/PositionCountsAddPinLaw" = some m.cls) (hret : meth.sig.returnType = some .boolean) (hlk : meth.locks = false) (e0 : T.heap = h0) (N : Fr n0 locs) (Z0 : n0 ≤ h0.size)
    (aB : Addr) (aW : Addr) (NN : Nat) (B : Nat → Int64) (W : Nat → Int32) (i0 : Int32) (i1 : Int32) (i2 : Int32) (i3 : Int32) (i4 : Int32) (i5 : Int32) (i6 : Int32) (i7 : Int32) (i8 : Int32) (i9 : Int32) (i10 : Int32) (i11 : Int32) (i12 : Int32) (i13 : Int32) (i14 : Int32) (o15 : Addr) (i16 : Int32) (i17 : Int32) (i18 : Int32) (t0 : Int32) (t1 : Int32) {r : Int32} (hR : r = own_f0_263 NN B W i0 i1 i2 i3 i4 i5 i6 i7 i8 i9 i10 i11 i12 i13 i14 i16 i17 i18 t0 t1) (HP : own_PC Z h0 n0 o15 aB aW NN B W) (HR2 : own_rg2 NN i6 i7 i8 i12 i13 i14) : own_Go p e below s room_1.cells room_1.slots (own_QG (.int r) h0 n0) (T.setTop (mkF m 263 #[.val (.int i0), .val (.int i1), .val (.int i2), .val (.int i3), .val (.int i4), .val (.int i5), .val (.int i6), .val (.int i7), .val (.int i8), .val (.int i9), .val (.int i10), .val (.int i11), .val (.int i12), .val (.int i13), .val (.int i14), .val (.ref o15), .val (.int i16), .val (.int i17), .val (.int i18), .unset, .unset, .unset, .unset, .unset, .unset, .unset] [(.int t0), (.int t1)])) := by
  unfold own_f0_263 at hR
  refine own_back (fun t k => XS.iadd X.here hx rfl (hb hby at_263) rfl k) ?_
  show own_Go _ _ _ _ _ _ _ (T.setTop (mkF m 264 #[.val (.int i0), .val (.int i1), .val (.int i2), .val (.int i3), .val (.int i4), .val (.int i5), .val (.int i6), .val (.int i7), .val (.int i8), .val (.int i9), .val (.int i10), .val (.int i11), .val (.int i12), .val (.int i13), .val (.int i14), .val (.ref o15), .val (.int i16), .val (.int i17), .val (.int i18), .unset, .unset, .unset, .unset, .unset, .unset, .unset] [(.int (t1 + t0))]))
  refine own_back (fun t k => XS.istore X.here hx rfl (hb hby at_264) rfl (l' := #[.val (.int i0), .val (.int i1), .val (.int i2), .val (.int i3), .val (.int i4), .val (.int i5), .val (.int i6), .val (.int i7), .val (.int i8), .val (.int i9), .val (.int i10), .val (.int i11), .val (.int i12), .val (.int i13), .val (.int i14), .val (.ref o15), .val (.int i16), .val (.int i17), .val (.int i18), .val (.int (t1 + t0)), .unset, .unset, .unset, .unset, .unset, .unset]) rfl k) ?_
  show own_Go _ _ _ _ _ _ _ (T.setTop (mkF m 266 #[.val (.int i0), .val (.int i1), .val (.int i2), .val (.int i3), .val (.int i4), .val (.int i5), .val (.int i6), .val (.int i7), .val (.int i8), .val (.int i9), .val (.int i10), .val (.int i11), .val (.int i12), .val (.int i13), .val (.int i14), .val (.ref o15), .val (.int i16), .val (.int i17), .val (.int i18), .val (.int (t1 + t0)), .unset, .unset, .unset, .unset, .unset, .unset] []))
  refine own_back (fun t k => XS.iload X.here hx rfl (hb hby at_266) rfl k) ?_
  show own_Go _ _ _ _ _ _ _ (T.setTop (mkF m 268 #[.val (.int i0), .val (.int i1), .val (.int i2), .val (.int i3), .val (.int i4), .val (.int i5), .val (.int i6), .val (.int i7), .val (.int i8), .val (.int i9), .val (.int i10), .val (.int i11), .val (.int i12), .val (.int i13), .val (.int i14), .val (.ref o15), .val (.int i16), .val (.int i17), .val (.int i18), .val (.int (t1 + t0)), .unset, .unset, .unset, .unset, .unset, .unset] [(.int i16)]))
  by_cases hc268 : i16 = (0 : Int32)
  · rw [if_pos hc268] at hR
    refine own_back (fun t k => XS.ifYes X.here hx rfl (pc0 := 268) (pc' := 275) rfl (hb hby at_268) rfl ((if0 _ _).trans (teq hc268).1) (by decide) (by decide) k) ?_
    show own_Go _ _ _ _ _ _ _ (T.setTop (mkF m 275 #[.val (.int i0), .val (.int i1), .val (.int i2), .val (.int i3), .val (.int i4), .val (.int i5), .val (.int i6), .val (.int i7), .val (.int i8), .val (.int i9), .val (.int i10), .val (.int i11), .val (.int i12), .val (.int i13), .val (.int i14), .val (.ref o15), .val (.int i16), .val (.int i17), .val (.int i18), .val (.int (t1 + t0)), .unset, .unset, .unset, .unset, .unset, .unset] []))
    refine own_back (fun t k => XS.iconst X.here hx rfl (hb hby at_275) k) ?_
    show own_Go _ _ _ _ _ _ _ (T.setTop (mkF m 276 #[.val (.int i0), .val (.int i1), .val (.int i2), .val (.int i3), .val (.int i4), .val (.int i5), .val (.int i6), .val (.int i7), .val (.int i8), .val (.int i9), .val (.int i10), .val (.int i11), .val (.int i12), .val (.int i13), .val (.int i14), .val (.ref o15), .val (.int i16), .val (.int i17), .val (.int i18), .val (.int (t1 + t0)), .unset, .unset, .unset, .unset, .unset, .unset] [(.int (0 : Int32))]))
    exact own_l0_276 X hx hZ hw hby hml hown hret hlk e0 N Z0 aB aW NN B W i0 i1 i2 i3 i4 i5 i6 i7 i8 i9 i10 i11 i12 i13 i14 o15 i16 i17 i18 (t1 + t0) (0 : Int32) hR HP HR2
  · rw [if_neg hc268] at hR
    refine own_back (fun t k => XS.ifNo X.here hx rfl (hb hby at_268) rfl ((if0 _ _).trans (feq hc268).1) k) ?_
    show own_Go _ _ _ _ _ _ _ (T.setTop (mkF m 271 #[.val (.int i0), .val (.int i1), .val (.int i2), .val (.int i3), .val (.int i4), .val (.int i5), .val (.int i6), .val (.int i7), .val (.int i8), .val (.int i9), .val (.int i10), .val (.int i11), .val (.int i12), .val (.int i13), .val (.int i14), .val (.ref o15), .val (.int i16), .val (.int i17), .val (.int i18), .val (.int (t1 + t0)), .unset, .unset, .unset, .unset, .unset, .unset] []))
    refine own_back (fun t k => XS.iconst X.here hx rfl (hb hby at_271) k) ?_
    show own_Go _ _ _ _ _ _ _ (T.setTop (mkF m 272 #[.val (.int i0), .val (.int i1), .val (.int i2), .val (.int i3), .val (.int i4), .val (.int i5), .val (.int i6), .val (.int i7), .val (.int i8), .val (.int i9), .val (.int i10), .val (.int i11), .val (.int i12), .val (.int i13), .val (.int i14), .val (.ref o15), .val (.int i16), .val (.int i17), .val (.int i18), .val (.int (t1 + t0)), .unset, .unset, .unset, .unset, .unset, .unset] [(.int (1 : Int32))]))
    refine own_back (fun t k => XS.goto X.here hx rfl (pc0 := 272) (pc' := 276) rfl (hb hby at_272) (by decide) (by decide) k) ?_
    show own_Go _ _ _ _ _ _ _ (T.setTop (mkF m 276 #[.val (.int i0), .val (.int i1), .val (.int i2), .val (.int i3), .val (.int i4), .val (.int i5), .val (.int i6), .val (.int i7), .val (.int i8), .val (.int i9), .val (.int i10), .val (.int i11), .val (.int i12), .val (.int i13), .val (.int i14), .val (.ref o15), .val (.int i16), .val (.int i17), .val (.int i18), .val (.int (t1 + t0)), .unset, .unset, .unset, .unset, .unset, .unset] [(.int (1 : Int32))]))
    exact own_l0_276 X hx hZ hw hby hml hown hret hlk e0 N Z0 aB aW NN B W i0 i1 i2 i3 i4 i5 i6 i7 i8 i9 i10 i11 i12 i13 i14 o15 i16 i17 i18 (t1 + t0) (1 : Int32) hR HP HR2
set_option maxRecDepth 65536 in
set_option maxHeartbeats 4000000 in
theorem own_l0_230 {p : Program} {l : Launch} {e : Env} {s : State} {m : MethodId} {args : Array Value} {below : List Frame} {meth : Method} {c : Code} {T : State} {locs : List Loc} {Z : State} {a0 : Array Value} {h0 : Heap} {n0 : Nat}
    (X : Stand p l e room_1 s m args below meth c T locs 3 19) (hx : p.tables.exec = Jvm.exec) (hZ : Z.Warmed39 s.vm) (hw : ∀ d ∈ tables_1, d.before a0 Z = true) (hby : c.code = code) (hml : c.maxLocals = 26) (hown : s.vm.findClass "com/example/furl/furl/tree/PositionCountsAddPinLaw" = some m.cls) (hret : meth.sig.returnType = some .boolean) (hlk : meth.locks = false) (e0 : T.heap = h0) (N : Fr n0 locs) (Z0 : n0 ≤ h0.size)
    (aB : Addr) (aW : Addr) (NN : Nat) (B : Nat → Int64) (W : Nat → Int32) (i0 : Int32) (i1 : Int32) (i2 : Int32) (i3 : Int32) (i4 : Int32) (i5 : Int32) (i6 : Int32) (i7 : Int32) (i8 : Int32) (i9 : Int32) (i10 : Int32) (i11 : Int32) (i12 : Int32) (i13 : Int32) (i14 : Int32) (o15 : Addr) (i16 : Int32) (i17 : Int32) (t0 : Int32) {r : Int32} (hR : r = own_f0_230 NN B W i0 i1 i2 i3 i4 i5 i6 i7 i8 i9 i10 i11 i12 i13 i14 i16 i17 t0) (HP : own_PC Z h0 n0 o15 aB aW NN B W) (HR2 : own_rg2 NN i6 i7 i8 i12 i13 i14) : own_Go p e below s room_1.cells room_1.slots (own_QG (.int r) h0 n0) (T.setTop (mkF m 230 #[.val (.int i0), .val (.int i1), .val (.int i2), .val (.int i3), .val (.int i4), .val (.int i5), .val (.int i6), .val (.int i7), .val (.int i8), .val (.int i9), .val (.int i10), .val (.int i11), .val (.int i12), .val (.int i13), .val (.int i14), .val (.ref o15), .val (.int i16), .val (.int i17), .unset, .unset, .unset, .unset, .unset, .unset, .unset, .unset] [(.int t0)])) := by
  unfold own_f0_230 at hR
  refine own_back (fun t k => XS.istore X.here hx rfl (hb hby at_230) rfl (l' := #[.val (.int i0), .val (.int i1), .val (.int i2), .val (.int i3), .val (.int i4), .val (.int i5), .val (.int i6), .val (.int i7), .val (.int i8), .val (.int i9), .val (.int i10), .val (.int i11), .val (.int i12), .val (.int i13), .val (.int i14), .val (.ref o15), .val (.int i16), .val (.int i17), .val (.int t0), .unset, .unset, .unset, .unset, .unset, .unset, .unset]) rfl k) ?_
  show own_Go _ _ _ _ _ _ _ (T.setTop (mkF m 232 #[.val (.int i0), .val (.int i1), .val (.int i2), .val (.int i3), .val (.int i4), .val (.int i5), .val (.int i6), .val (.int i7), .val (.int i8), .val (.int i9), .val (.int i10), .val (.int i11), .val (.int i12), .val (.int i13), .val (.int i14), .val (.ref o15), .val (.int i16), .val (.int i17), .val (.int t0), .unset, .unset, .unset, .unset, .unset, .unset, .unset] []))
  refine own_back (fun t k => XS.iload X.here hx rfl (hb hby at_232) rfl k) ?_
  show own_Go _ _ _ _ _ _ _ (T.setTop (mkF m 234 #[.val (.int i0), .val (.int i1), .val (.int i2), .val (.int i3), .val (.int i4), .val (.int i5), .val (.int i6), .val (.int i7), .val (.int i8), .val (.int i9), .val (.int i10), .val (.int i11), .val (.int i12), .val (.int i13), .val (.int i14), .val (.ref o15), .val (.int i16), .val (.int i17), .val (.int t0), .unset, .unset, .unset, .unset, .unset, .unset, .unset] [(.int i16)]))
  refine own_back (fun t k => XS.iload X.here hx rfl (hb hby at_234) rfl k) ?_
  show own_Go _ _ _ _ _ _ _ (T.setTop (mkF m 236 #[.val (.int i0), .val (.int i1), .val (.int i2), .val (.int i3), .val (.int i4), .val (.int i5), .val (.int i6), .val (.int i7), .val (.int i8), .val (.int i9), .val (.int i10), .val (.int i11), .val (.int i12), .val (.int i13), .val (.int i14), .val (.ref o15), .val (.int i16), .val (.int i17), .val (.int t0), .unset, .unset, .unset, .unset, .unset, .unset, .unset] [(.int i7), (.int i16)]))
  refine own_back (fun t k => XS.iload X.here hx rfl (hb hby at_236) rfl k) ?_
  show own_Go _ _ _ _ _ _ _ (T.setTop (mkF m 238 #[.val (.int i0), .val (.int i1), .val (.int i2), .val (.int i3), .val (.int i4), .val (.int i5), .val (.int i6), .val (.int i7), .val (.int i8), .val (.int i9), .val (.int i10), .val (.int i11), .val (.int i12), .val (.int i13), .val (.int i14), .val (.ref o15), .val (.int i16), .val (.int i17), .val (.int t0), .unset, .unset, .unset, .unset, .unset, .unset, .unset] [(.int i13), (.int i7), (.int i16)]))
  refine own_back (fun t k => XS.iload X.here hx rfl (hb hby at_238) rfl k) ?_
  show own_Go _ _ _ _ _ _ _ (T.setTop (mkF m 240 #[.val (.int i0), .val (.int i1), .val (.int i2), .val (.int i3), .val (.int i4), .val (.int i5), .val (.int i6), .val (.int i7), .val (.int i8), .val (.int i9), .val (.int i10), .val (.int i11), .val (.int i12), .val (.int i13), .val (.int i14), .val (.ref o15), .val (.int i16), .val (.int i17), .val (.int t0), .unset, .unset, .unset, .unset, .unset, .unset, .unset] [(.int i14), (.int i13), (.int i7), (.int i16)]))
  obtain ⟨_, _, ⟨T7, L7, k7, n7⟩, -, X7, ⟨Lc7, hQ7, l7, y7, z7⟩, st7⟩ := Jvm.LawKit.callS X hx (y := (⟨"com/example/furl/furl/tree/PositionCountsAddPinLaw", "hit", "(ZIII)I"⟩ : MethodName)) hown (mvT hZ (hw _ (List.mem_of_getElem? (i := 21) rfl))) (mvT hZ (hw _ (List.mem_of_getElem? (i := 22) rfl))) (mvT hZ (hw _ (List.mem_of_getElem? (i := 23) rfl))) (mvT hZ (hw _ (List.mem_of_getElem? (i := 24) rfl))) (by decide) (backOf (W := 0) (own_rm4 l Z a0 hw [] i16 i7 i13 i14 h0 n0 Z0) hZ (hw _ (List.mem_of_getElem? (i := 24) rfl)) (hw _ (List.mem_of_getElem? (i := 23) rfl)) (by decide) (by decide)) (g := (mkF m 240 #[.val (.int i0), .val (.int i1), .val (.int i2), .val (.int i3), .val (.int i4), .val (.int i5), .val (.int i6), .val (.int i7), .val (.int i8), .val (.int i9), .val (.int i10), .val (.int i11), .val (.int i12), .val (.int i13), .val (.int i14), .val (.ref o15), .val (.int i16), .val (.int i17), .val (.int t0), .unset, .unset, .unset, .unset, .unset, .unset, .unset] [(.int i14), (.int i13), (.int i7), (.int i16)])) rfl (by rw [hml]; rfl) (argsL := [(.int i16), (.int i7), (.int i13), (.int i14)]) (rest := []) (lenOf own_pd4 rfl) rfl (by show 2 * 0 + _ ≤ _; exact Nat.le_of_eq rfl) (hb hby at_240) (fun _ _ => ⟨rfl, e0, (by decide : 3 + 0 ≤ _), (by decide : 19 + 0 ≤ _)⟩)
  dsimp only [Pt.U, Pt.locs, Pt.cells, Pt.slots] at X7 l7 y7 z7 st7 hQ7
  subst l7 y7 z7
  obtain ⟨rfl, N7q, e7⟩ := hQ7
  have N7 := Fr.app N N7q
  refine own_back (fun t k => st7 t k) ?_
  show own_Go _ _ _ _ _ _ _ (T7.setTop (mkF m 243 #[.val (.int i0), .val (.int i1), .val (.int i2), .val (.int i3), .val (.int i4), .val (.int i5), .val (.int i6), .val (.int i7), .val (.int i8), .val (.int i9), .val (.int i10), .val (.int i11), .val (.int i12), .val (.int i13), .val (.int i14), .val (.ref o15), .val (.int i16), .val (.int i17), .val (.int t0), .unset, .unset, .unset, .unset, .unset, .unset, .unset] [(.int (own_f4_0 i16 i7 i13 i14))]))
  refine own_back (fun t k => XS.iload X7.here hx rfl (hb hby at_243) rfl k) ?_
  show own_Go _ _ _ _ _ _ _ (T7.setTop (mkF m 245 #[.val (.int i0), .val (.int i1), .val (.int i2), .val (.int i3), .val (.int i4), .val (.int i5), .val (.int i6), .val (.int i7), .val (.int i8), .val (.int i9), .val (.int i10), .val (.int i11), .val (.int i12), .val (.int i13), .val (.int i14), .val (.ref o15), .val (.int i16), .val (.int i17), .val (.int t0), .unset, .unset, .unset, .unset, .unset, .unset, .unset] [(.int i9), (.int (own_f4_0 i16 i7 i13 i14))]))
  by_cases hc245 : i9 = (0 : Int32)
  · rw [if_pos hc245] at hR
    refine own_back (fun t k => XS.ifYes X7.here hx rfl (pc0 := 245) (pc' := 262) rfl (hb hby at_245) rfl ((if0 _ _).trans (teq hc245).1) (by decide) (by decide) k) ?_
    show own_Go _ _ _ _ _ _ _ (T7.setTop (mkF m 262 #[.val (.int i0), .val (.int i1), .val (.int i2), .val (.int i3), .val (.int i4), .val (.int i5), .val (.int i6), .val (.int i7), .val (.int i8), .val (.int i9), .val (.int i10), .val (.int i11), .val (.int i12), .val (.int i13), .val (.int i14), .val (.ref o15), .val (.int i16), .val (.int i17), .val (.int t0), .unset, .unset, .unset, .unset, .unset, .unset, .unset] [(.int (own_f4_0 i16 i7 i13 i14))]))
    refine own_back (fun t k => XS.iconst X7.here hx rfl (hb hby at_262) k) ?_
    show own_Go _ _ _ _ _ _ _ (T7.setTop (mkF m 263 #[.val (.int i0), .val (.int i1), .val (.int i2), .val (.int i3), .val (.int i4), .val (.int i5), .val (.int i6), .val (.int i7), .val (.int i8), .val (.int i9), .val (.int i10), .val (.int i11), .val (.int i12), .val (.int i13), .val (.int i14), .val (.ref o15), .val (.int i16), .val (.int i17), .val (.int t0), .unset, .unset, .unset, .unset, .unset, .unset, .unset] [(.int (0 : Int32)), (.int (own_f4_0 i16 i7 i13 i14))]))
    exact own_l0_263 X7 hx hZ hw hby hml hown hret hlk e7 N7 Z0 aB aW NN B W i0 i1 i2 i3 i4 i5 i6 i7 i8 i9 i10 i11 i12 i13 i14 o15 i16 i17 t0 (0 : Int32) (own_f4_0 i16 i7 i13 i14) hR HP HR2
  · rw [if_neg hc245] at hR
    refine own_back (fun t k => XS.ifNo X7.here hx rfl (hb hby at_245) rfl ((if0 _ _).trans (feq hc245).1) k) ?_
    show own_Go _ _ _ _ _ _ _ (T7.setTop (mkF m 248 #[.val (.int i0), .val (.int i1), .val (.int i2), .val (.int i3), .val (.int i4), .val (.int i5), .val (.int i6), .val (.int i7), .val (.int i8), .val (.int i9), .val (.int i10), .val (.int i11), .val (.int i12), .val (.int i13), .val (.int i14), .val (.ref o15), .val (.int i16), .val (.int i17), .val (.int t0), .unset, .unset, .unset, .unset, .unset, .unset, .unset] [(.int (own_f4_0 i16 i7 i13 i14))]))
    refine own_back (fun t k => XS.iload X7.here hx rfl (hb hby at_248) rfl k) ?_
    show own_Go _ _ _ _ _ _ _ (T7.setTop (mkF m 250 #[.val (.int i0), .val (.int i1), .val (.int i2), .val (.int i3), .val (.int i4), .val (.int i5), .val (.int i6), .val (.int i7), .val (.int i8), .val (.int i9), .val (.int i10), .val (.int i11), .val (.int i12), .val (.int i13), .val (.int i14), .val (.ref o15), .val (.int i16), .val (.int i17), .val (.int t0), .unset, .unset, .unset, .unset, .unset, .unset, .unset] [(.int i17), (.int (own_f4_0 i16 i7 i13 i14))]))
    refine own_back (fun t k => XS.iload X7.here hx rfl (hb hby at_250) rfl k) ?_
    show own_Go _ _ _ _ _ _ _ (T7.setTop (mkF m 252 #[.val (.int i0), .val (.int i1), .val (.int i2), .val (.int i3), .val (.int i4), .val (.int i5), .val (.int i6), .val (.int i7), .val (.int i8), .val (.int i9), .val (.int i10), .val (.int i11), .val (.int i12), .val (.int i13), .val (.int i14), .val (.ref o15), .val (.int i16), .val (.int i17), .val (.int t0), .unset, .unset, .unset, .unset, .unset, .unset, .unset] [(.int i8), (.int i17), (.int (own_f4_0 i16 i7 i13 i14))]))
    refine own_back (fun t k => XS.iload X7.here hx rfl (hb hby at_252) rfl k) ?_
    show own_Go _ _ _ _ _ _ _ (T7.setTop (mkF m 254 #[.val (.int i0), .val (.int i1), .val (.int i2), .val (.int i3), .val (.int i4), .val (.int i5), .val (.int i6), .val (.int i7), .val (.int i8), .val (.int i9), .val (.int i10), .val (.int i11), .val (.int i12), .val (.int i13), .val (.int i14), .val (.ref o15), .val (.int i16), .val (.int i17), .val (.int t0), .unset, .unset, .unset, .unset, .unset, .unset, .unset] [(.int i13), (.int i8), (.int i17), (.int (own_f4_0 i16 i7 i13 i14))]))
    refine own_back (fun t k => XS.iload X7.here hx rfl (hb hby at_254) rfl k) ?_
    show own_Go _ _ _ _ _ _ _ (T7.setTop (mkF m 256 #[.val (.int i0), .val (.int i1), .val (.int i2), .val (.int i3), .val (.int i4), .val (.int i5), .val (.int i6), .val (.int i7), .val (.int i8), .val (.int i9), .val (.int i10), .val (.int i11), .val (.int i12), .val (.int i13), .val (.int i14), .val (.ref o15), .val (.int i16), .val (.int i17), .val (.int t0), .unset, .unset, .unset, .unset, .unset, .unset, .unset] [(.int i14), (.int i13), (.int i8), (.int i17), (.int (own_f4_0 i16 i7 i13 i14))]))
    obtain ⟨_, _, ⟨T8, L8, k8, n8⟩, -, X8, ⟨Lc8, hQ8, l8, y8, z8⟩, st8⟩ := Jvm.LawKit.callS X7 hx (y := (⟨"com/example/furl/furl/tree/PositionCountsAddPinLaw", "hit", "(ZIII)I"⟩ : MethodName)) hown (mvT hZ (hw _ (List.mem_of_getElem? (i := 21) rfl))) (mvT hZ (hw _ (List.mem_of_getElem? (i := 22) rfl))) (mvT hZ (hw _ (List.mem_of_getElem? (i := 23) rfl))) (mvT hZ (hw _ (List.mem_of_getElem? (i := 24) rfl))) (by decide) (backOf (W := 1) (own_rm4 l Z a0 hw [] i17 i8 i13 i14 h0 n0 Z0) hZ (hw _ (List.mem_of_getElem? (i := 24) rfl)) (hw _ (List.mem_of_getElem? (i := 23) rfl)) (by decide) (by decide)) (g := (mkF m 256 #[.val (.int i0), .val (.int i1), .val (.int i2), .val (.int i3), .val (.int i4), .val (.int i5), .val (.int i6), .val (.int i7), .val (.int i8), .val (.int i9), .val (.int i10), .val (.int i11), .val (.int i12), .val (.int i13), .val (.int i14), .val (.ref o15), .val (.int i16), .val (.int i17), .val (.int t0), .unset, .unset, .unset, .unset, .unset, .unset, .unset] [(.int i14), (.int i13), (.int i8), (.int i17), (.int (own_f4_0 i16 i7 i13 i14))])) rfl (by rw [hml]; rfl) (argsL := [(.int i17), (.int i8), (.int i13), (.int i14)]) (rest := [(.int (own_f4_0 i16 i7 i13 i14))]) (lenOf own_pd4 rfl) rfl (by show 2 * 0 + _ ≤ _; exact Nat.le_of_eq rfl) (hb hby at_256) (fun _ _ => ⟨rfl, e7, (by decide : 3 + 0 ≤ _), (by decide : 19 + 0 ≤ _)⟩)
    dsimp only [Pt.U, Pt.locs, Pt.cells, Pt.slots] at X8 l8 y8 z8 st8 hQ8
    subst l8 y8 z8
    obtain ⟨rfl, N8q, e8⟩ := hQ8
    have N8 := Fr.app N7 N8q
    refine own_back (fun t k => st8 t k) ?_
    show own_Go _ _ _ _ _ _ _ (T8.setTop (mkF m 259 #[.val (.int i0), .val (.int i1), .val (.int i2), .val (.int i3), .val (.int i4), .val (.int i5), .val (.int i6), .val (.int i7), .val (.int i8), .val (.int i9), .val (.int i10), .val (.int i11), .val (.int i12), .val (.int i13), .val (.int i14), .val (.ref o15), .val (.int i16), .val (.int i17), .val (.int t0), .unset, .unset, .unset, .unset, .unset, .unset, .unset] [(.int (own_f4_0 i17 i8 i13 i14)), (.int (own_f4_0 i16 i7 i13 i14))]))
    refine own_back (fun t k => XS.goto X8.here hx rfl (pc0 := 259) (pc' := 263) rfl (hb hby at_259) (by decide) (by decide) k) ?_
    show own_Go _ _ _ _ _ _ _ (T8.setTop (mkF m 263 #[.val (.int i0), .val (.int i1), .val (.int i2), .val (.int i3), .val (.int i4), .val (.int i5), .val (.int i6), .val (.int i7), .val (.int i8), .val (.int i9), .val (.int i10), .val (.int i11), .val (.int i12), .val (.int i13), .val (.int i14), .val (.ref o15), .val (.int i16), .val (.int i17), .val (.int t0), .unset, .unset, .unset, .unset, .unset, .unset, .unset] [(.int (own_f4_0 i17 i8 i13 i14)), (.int (own_f4_0 i16 i7 i13 i14))]))
    exact own_l0_263 X8 hx hZ hw hby hml hown hret hlk e8 N8 Z0 aB aW NN B W i0 i1 i2 i3 i4 i5 i6 i7 i8 i9 i10 i11 i12 i13 i14 o15 i16 i17 t0 (own_f4_0 i17 i8 i13 i14) (own_f4_0 i16 i7 i13 i14) hR HP HR2
set_option maxRecDepth 65536 in
set_option maxHeartbeats 4000000 in
theorem own_l0_229 {p : Program} {l : Launch} {e : Env} {s : State} {m : MethodId} {args : Array Value} {below : List Frame} {meth : Method} {c : Code} {T : State} {locs : List Loc} {Z : State} {a0 : Array Value} {h0 : Heap} {n0 : Nat}
    (X : Stand p l e room_1 s m args below meth c T locs 3 19) (hx : p.tables.exec = Jvm.exec) (hZ : Z.Warmed39 s.vm) (hw : ∀ d ∈ tables_1, d.before a0 Z = true) (hby : c.code = code) (hml : c.maxLocals = 26) (hown : s.vm.findClass "com/example/furl/furl/tree/PositionCountsAddPinLaw" = some m.cls) (hret : meth.sig.returnType = some .boolean) (hlk : meth.locks = false) (e0 : T.heap = h0) (N : Fr n0 locs) (Z0 : n0 ≤ h0.size)
    (aB : Addr) (aW : Addr) (NN : Nat) (B : Nat → Int64) (W : Nat → Int32) (i0 : Int32) (i1 : Int32) (i2 : Int32) (i3 : Int32) (i4 : Int32) (i5 : Int32) (i6 : Int32) (i7 : Int32) (i8 : Int32) (i9 : Int32) (i10 : Int32) (i11 : Int32) (i12 : Int32) (i13 : Int32) (i14 : Int32) (o15 : Addr) (i16 : Int32) (i17 : Int32) {r : Int32} (hR : r = own_f0_229 NN B W i0 i1 i2 i3 i4 i5 i6 i7 i8 i9 i10 i11 i12 i13 i14 i16 i17) (HP : own_PC Z h0 n0 o15 aB aW NN B W) (HR2 : own_rg2 NN i6 i7 i8 i12 i13 i14) : own_Go p e below s room_1.cells room_1.slots (own_QG (.int r) h0 n0) (T.setTop (mkF m 229 #[.val (.int i0), .val (.int i1), .val (.int i2), .val (.int i3), .val (.int i4), .val (.int i5), .val (.int i6), .val (.int i7), .val (.int i8), .val (.int i9), .val (.int i10), .val (.int i11), .val (.int i12), .val (.int i13), .val (.int i14), .val (.ref o15), .val (.int i16), .val (.int i17), .unset, .unset, .unset, .unset, .unset, .unset, .unset, .unset] [])) := by
  unfold own_f0_229 at hR
  refine own_back (fun t k => XS.iconst X.here hx rfl (hb hby at_229) k) ?_
  show own_Go _ _ _ _ _ _ _ (T.setTop (mkF m 230 #[.val (.int i0), .val (.int i1), .val (.int i2), .val (.int i3), .val (.int i4), .val (.int i5), .val (.int i6), .val (.int i7), .val (.int i8), .val (.int i9), .val (.int i10), .val (.int i11), .val (.int i12), .val (.int i13), .val (.int i14), .val (.ref o15), .val (.int i16), .val (.int i17), .unset, .unset, .unset, .unset, .unset, .unset, .unset, .unset] [(.int (0 : Int32))]))
  exact own_l0_230 X hx hZ hw hby hml hown hret hlk e0 N Z0 aB aW NN B W i0 i1 i2 i3 i4 i5 i6 i7 i8 i9 i10 i11 i12 i13 i14 o15 i16 i17 (0 : Int32) hR HP HR2
set_option maxRecDepth 65536 in
set_option maxHeartbeats 4000000 in
theorem own_l0_225 {p : Program} {l : Launch} {e : Env} {s : State} {m : MethodId} {args : Array Value} {below : List Frame} {meth : Method} {c : Code} {T : State} {locs : List Loc} {Z : State} {a0 : Array Value} {h0 : Heap} {n0 : Nat}
    (X : Stand p l e room_1 s m args below meth c T locs 3 19) (hx : p.tables.exec = Jvm.exec) (hZ : Z.Warmed39 s.vm) (hw : ∀ d ∈ tables_1, d.before a0 Z = true) (hby : c.code = code) (hml : c.maxLocals = 26) (hown : s.vm.findClass "com/example/furl/furl/tree/PositionCountsAddPinLaw" = some m.cls) (hret : meth.sig.returnType = some .boolean) (hlk : meth.locks = false) (e0 : T.heap = h0) (N : Fr n0 locs) (Z0 : n0 ≤ h0.size)
    (aB : Addr) (aW : Addr) (NN : Nat) (B : Nat → Int64) (W : Nat → Int32) (i0 : Int32) (i1 : Int32) (i2 : Int32) (i3 : Int32) (i4 : Int32) (i5 : Int32) (i6 : Int32) (i7 : Int32) (i8 : Int32) (i9 : Int32) (i10 : Int32) (i11 : Int32) (i12 : Int32) (i13 : Int32) (i14 : Int32) (o15 : Addr) (i16 : Int32) (i17 : Int32) {r : Int32} (hR : r = own_f0_225 NN B W i0 i1 i2 i3 i4 i5 i6 i7 i8 i9 i10 i11 i12 i13 i14 i16 i17) (HP : own_PC Z h0 n0 o15 aB aW NN B W) (HR2 : own_rg2 NN i6 i7 i8 i12 i13 i14) : own_Go p e below s room_1.cells room_1.slots (own_QG (.int r) h0 n0) (T.setTop (mkF m 225 #[.val (.int i0), .val (.int i1), .val (.int i2), .val (.int i3), .val (.int i4), .val (.int i5), .val (.int i6), .val (.int i7), .val (.int i8), .val (.int i9), .val (.int i10), .val (.int i11), .val (.int i12), .val (.int i13), .val (.int i14), .val (.ref o15), .val (.int i16), .val (.int i17), .unset, .unset, .unset, .unset, .unset, .unset, .unset, .unset] [])) := by
  unfold own_f0_225 at hR
  refine own_back (fun t k => XS.iconst X.here hx rfl (hb hby at_225) k) ?_
  show own_Go _ _ _ _ _ _ _ (T.setTop (mkF m 226 #[.val (.int i0), .val (.int i1), .val (.int i2), .val (.int i3), .val (.int i4), .val (.int i5), .val (.int i6), .val (.int i7), .val (.int i8), .val (.int i9), .val (.int i10), .val (.int i11), .val (.int i12), .val (.int i13), .val (.int i14), .val (.ref o15), .val (.int i16), .val (.int i17), .unset, .unset, .unset, .unset, .unset, .unset, .unset, .unset] [(.int (1 : Int32))]))
  refine own_back (fun t k => XS.goto X.here hx rfl (pc0 := 226) (pc' := 230) rfl (hb hby at_226) (by decide) (by decide) k) ?_
  show own_Go _ _ _ _ _ _ _ (T.setTop (mkF m 230 #[.val (.int i0), .val (.int i1), .val (.int i2), .val (.int i3), .val (.int i4), .val (.int i5), .val (.int i6), .val (.int i7), .val (.int i8), .val (.int i9), .val (.int i10), .val (.int i11), .val (.int i12), .val (.int i13), .val (.int i14), .val (.ref o15), .val (.int i16), .val (.int i17), .unset, .unset, .unset, .unset, .unset, .unset, .unset, .unset] [(.int (1 : Int32))]))
  exact own_l0_230 X hx hZ hw hby hml hown hret hlk e0 N Z0 aB aW NN B W i0 i1 i2 i3 i4 i5 i6 i7 i8 i9 i10 i11 i12 i13 i14 o15 i16 i17 (1 : Int32) hR HP HR2
set_option maxRecDepth 65536 in
set_option maxHeartbeats 4000000 in
theorem own_l0_213 {p : Program} {l : Launch} {e : Env} {s : State} {m : MethodId} {args : Array Value} {below : List Frame} {meth : Method} {c : Code} {T : State} {locs : List Loc} {Z : State} {a0 : Array Value} {h0 : Heap} {n0 : Nat}
    (X : Stand p l e room_1 s m args below meth c T locs 3 19) (hx : p.tables.exec = Jvm.exec) (hZ : Z.Warmed39 s.vm) (hw : ∀ d ∈ tables_1, d.before a0 Z = true) (hby : c.code = code) (hml : c.maxLocals = 26) (hown : s.vm.findClass "com/example/furl/furl/tree/PositionCountsAddPinLaw" = some m.cls) (hret : meth.sig.returnType = some .boolean) (hlk : meth.locks = false) (e0 : T.heap = h0) (N : Fr n0 locs) (Z0 : n0 ≤ h0.size)
    (aB : Addr) (aW : Addr) (NN : Nat) (B : Nat → Int64) (W : Nat → Int32) (i0 : Int32) (i1 : Int32) (i2 : Int32) (i3 : Int32) (i4 : Int32) (i5 : Int32) (i6 : Int32) (i7 : Int32) (i8 : Int32) (i9 : Int32) (i10 : Int32) (i11 : Int32) (i12 : Int32) (i13 : Int32) (i14 : Int32) (o15 : Addr) (i16 : Int32) (i17 : Int32) {r : Int32} (hR : r = own_f0_213 NN B W i0 i1 i2 i3 i4 i5 i6 i7 i8 i9 i10 i11 i12 i13 i14 i16 i17) (HP : own_PC Z h0 n0 o15 aB aW NN B W) (HR2 : own_rg2 NN i6 i7 i8 i12 i13 i14) : own_Go p e below s room_1.cells room_1.slots (own_QG (.int r) h0 n0) (T.setTop (mkF m 213 #[.val (.int i0), .val (.int i1), .val (.int i2), .val (.int i3), .val (.int i4), .val (.int i5), .val (.int i6), .val (.int i7), .val (.int i8), .val (.int i9), .val (.int i10), .val (.int i11), .val (.int i12), .val (.int i13), .val (.int i14), .val (.ref o15), .val (.int i16), .val (.int i17), .unset, .unset, .unset, .unset, .unset, .unset, .unset, .unset] [])) := by
  unfold own_f0_213 at hR
  refine own_back (fun t k => XS.iload X.here hx rfl (hb hby at_213) rfl k) ?_
  show own_Go _ _ _ _ _ _ _ (T.setTop (mkF m 215 #[.val (.int i0), .val (.int i1), .val (.int i2), .val (.int i3), .val (.int i4), .val (.int i5), .val (.int i6), .val (.int i7), .val (.int i8), .val (.int i9), .val (.int i10), .val (.int i11), .val (.int i12), .val (.int i13), .val (.int i14), .val (.ref o15), .val (.int i16), .val (.int i17), .unset, .unset, .unset, .unset, .unset, .unset, .unset, .unset] [(.int i12)]))
  refine own_back (fun t k => XS.iload X.here hx rfl (hb hby at_215) rfl k) ?_
  show own_Go _ _ _ _ _ _ _ (T.setTop (mkF m 217 #[.val (.int i0), .val (.int i1), .val (.int i2), .val (.int i3), .val (.int i4), .val (.int i5), .val (.int i6), .val (.int i7), .val (.int i8), .val (.int i9), .val (.int i10), .val (.int i11), .val (.int i12), .val (.int i13), .val (.int i14), .val (.ref o15), .val (.int i16), .val (.int i17), .unset, .unset, .unset, .unset, .unset, .unset, .unset, .unset] [(.int i8), (.int i12)]))
  by_cases hc217 : i12 = i8
  · rw [if_pos hc217] at hR
    refine own_back (fun t k => XS.icmpNo X.here hx rfl (hb hby at_217) rfl (teq hc217).2 k) ?_
    show own_Go _ _ _ _ _ _ _ (T.setTop (mkF m 220 #[.val (.int i0), .val (.int i1), .val (.int i2), .val (.int i3), .val (.int i4), .val (.int i5), .val (.int i6), .val (.int i7), .val (.int i8), .val (.int i9), .val (.int i10), .val (.int i11), .val (.int i12), .val (.int i13), .val (.int i14), .val (.ref o15), .val (.int i16), .val (.int i17), .unset, .unset, .unset, .unset, .unset, .unset, .unset, .unset] []))
    refine own_back (fun t k => XS.iload X.here hx rfl (hb hby at_220) rfl k) ?_
    show own_Go _ _ _ _ _ _ _ (T.setTop (mkF m 222 #[.val (.int i0), .val (.int i1), .val (.int i2), .val (.int i3), .val (.int i4), .val (.int i5), .val (.int i6), .val (.int i7), .val (.int i8), .val (.int i9), .val (.int i10), .val (.int i11), .val (.int i12), .val (.int i13), .val (.int i14), .val (.ref o15), .val (.int i16), .val (.int i17), .unset, .unset, .unset, .unset, .unset, .unset, .unset, .unset] [(.int i17)]))
    by_cases hc222 : i17 = (0 : Int32)
    · rw [if_pos hc222] at hR
      refine own_back (fun t k => XS.ifYes X.here hx rfl (pc0 := 222) (pc' := 229) rfl (hb hby at_222) rfl ((if0 _ _).trans (teq hc222).1) (by decide) (by decide) k) ?_
      show own_Go _ _ _ _ _ _ _ (T.setTop (mkF m 229 #[.val (.int i0), .val (.int i1), .val (.int i2), .val (.int i3), .val (.int i4), .val (.int i5), .val (.int i6), .val (.int i7), .val (.int i8), .val (.int i9), .val (.int i10), .val (.int i11), .val (.int i12), .val (.int i13), .val (.int i14), .val (.ref o15), .val (.int i16), .val (.int i17), .unset, .unset, .unset, .unset, .unset, .unset, .unset, .unset] []))
      exact own_l0_229 X hx hZ hw hby hml hown hret hlk e0 N Z0 aB aW NN B W i0 i1 i2 i3 i4 i5 i6 i7 i8 i9 i10 i11 i12 i13 i14 o15 i16 i17 hR HP HR2
    · rw [if_neg hc222] at hR
      refine own_back (fun t k => XS.ifNo X.here hx rfl (hb hby at_222) rfl ((if0 _ _).trans (feq hc222).1) k) ?_
      show own_Go _ _ _ _ _ _ _ (T.setTop (mkF m 225 #[.val (.int i0), .val (.int i1), .val (.int i2), .val (.int i3), .val (.int i4), .val (.int i5), .val (.int i6), .val (.int i7), .val (.int i8), .val (.int i9), .val (.int i10), .val (.int i11), .val (.int i12), .val (.int i13), .val (.int i14), .val (.ref o15), .val (.int i16), .val (.int i17), .unset, .unset, .unset, .unset, .unset, .unset, .unset, .unset] []))
      exact own_l0_225 X hx hZ hw hby hml hown hret hlk e0 N Z0 aB aW NN B W i0 i1 i2 i3 i4 i5 i6 i7 i8 i9 i10 i11 i12 i13 i14 o15 i16 i17 hR HP HR2
  · rw [if_neg hc217] at hR
    refine own_back (fun t k => XS.icmpYes X.here hx rfl (pc0 := 217) (pc' := 229) rfl (hb hby at_217) rfl (feq hc217).2 (by decide) (by decide) k) ?_
    show own_Go _ _ _ _ _ _ _ (T.setTop (mkF m 229 #[.val (.int i0), .val (.int i1), .val (.int i2), .val (.int i3), .val (.int i4), .val (.int i5), .val (.int i6), .val (.int i7), .val (.int i8), .val (.int i9), .val (.int i10), .val (.int i11), .val (.int i12), .val (.int i13), .val (.int i14), .val (.ref o15), .val (.int i16), .val (.int i17), .unset, .unset, .unset, .unset, .unset, .unset, .unset, .unset] []))
    exact own_l0_229 X hx hZ hw hby hml hown hret hlk e0 N Z0 aB aW NN B W i0 i1 i2 i3 i4 i5 i6 i7 i8 i9 i10 i11 i12 i13 i14 o15 i16 i17 hR HP HR2
set_option maxRecDepth 65536 in
set_option maxHeartbeats 4000000 in
theorem own_l0_199 {p : Program} {l : Launch} {e : Env} {s : State} {m : MethodId} {args : Array Value} {below : List Frame} {meth : Method} {c : Code} {T : State} {locs : List Loc} {Z : State} {a0 : Array Value} {h0 : Heap} {n0 : Nat}
    (X : Stand p l e room_1 s m args below meth c T locs 3 19) (hx : p.tables.exec = Jvm.exec) (hZ : Z.Warmed39 s.vm) (hw : ∀ d ∈ tables_1, d.before a0 Z = true) (hby : c.code = code) (hml : c.maxLocals = 26) (hown : s.vm.findClass "com/example/furl/furl/tree/PositionCountsAddPinLaw" = some m.cls) (hret : meth.sig.returnType = some .boolean) (hlk : meth.locks = false) (e0 : T.heap = h0) (N : Fr n0 locs) (Z0 : n0 ≤ h0.size)
    (aB : Addr) (aW : Addr) (NN : Nat) (B : Nat → Int64) (W : Nat → Int32) (i0 : Int32) (i1 : Int32) (i2 : Int32) (i3 : Int32) (i4 : Int32) (i5 : Int32) (i6 : Int32) (i7 : Int32) (i8 : Int32) (i9 : Int32) (i10 : Int32) (i11 : Int32) (i12 : Int32) (i13 : Int32) (i14 : Int32) (o15 : Addr) (i16 : Int32) (t0 : Int32) {r : Int32} (hR : r = own_f0_199 NN B W i0 i1 i2 i3 i4 i5 i6 i7 i8 i9 i10 i11 i12 i13 i14 i16 t0) (HP : own_PC Z h0 n0 o15 aB aW NN B W) (HR2 : own_rg2 NN i6 i7 i8 i12 i13 i14) : own_Go p e below s room_1.cells room_1.slots (own_QG (.int r) h0 n0) (T.setTop (mkF m 199 #[.val (.int i0), .val (.int i1), .val (.int i2), .val (.int i3), .val (.int i4), .val (.int i5), .val (.int i6), .val (.int i7), .val (.int i8), .val (.int i9), .val (.int i10), .val (.int i11), .val (.int i12), .val (.int i13), .val (.int i14), .val (.ref o15), .val (.int i16), .unset, .unset, .unset, .unset, .unset, .unset, .unset, .unset, .unset] [(.int t0)])) := by
  unfold own_f0_199 at hR
  refine own_back (fun t k => XS.istore X.here hx rfl (hb hby at_199) rfl (l' := #[.val (.int i0), .val (.int i1), .val (.int i2), .val (.int i3), .val (.int i4), .val (.int i5), .val (.int i6), .val (.int i7), .val (.int i8), .val (.int i9), .val (.int i10), .val (.int i11), .val (.int i12), .val (.int i13), .val (.int i14), .val (.ref o15), .val (.int i16), .val (.int t0), .unset, .unset, .unset, .unset, .unset, .unset, .unset, .unset]) rfl k) ?_
  show own_Go _ _ _ _ _ _ _ (T.setTop (mkF m 201 #[.val (.int i0), .val (.int i1), .val (.int i2), .val (.int i3), .val (.int i4), .val (.int i5), .val (.int i6), .val (.int i7), .val (.int i8), .val (.int i9), .val (.int i10), .val (.int i11), .val (.int i12), .val (.int i13), .val (.int i14), .val (.ref o15), .val (.int i16), .val (.int t0), .unset, .unset, .unset, .unset, .unset, .unset, .unset, .unset] []))
  refine own_back (fun t k => XS.iload X.here hx rfl (hb hby at_201) rfl k) ?_
  show own_Go _ _ _ _ _ _ _ (T.setTop (mkF m 203 #[.val (.int i0), .val (.int i1), .val (.int i2), .val (.int i3), .val (.int i4), .val (.int i5), .val (.int i6), .val (.int i7), .val (.int i8), .val (.int i9), .val (.int i10), .val (.int i11), .val (.int i12), .val (.int i13), .val (.int i14), .val (.ref o15), .val (.int i16), .val (.int t0), .unset, .unset, .unset, .unset, .unset, .unset, .unset, .unset] [(.int i12)]))
  refine own_back (fun t k => XS.iload X.here hx rfl (hb hby at_203) rfl k) ?_
  show own_Go _ _ _ _ _ _ _ (T.setTop (mkF m 205 #[.val (.int i0), .val (.int i1), .val (.int i2), .val (.int i3), .val (.int i4), .val (.int i5), .val (.int i6), .val (.int i7), .val (.int i8), .val (.int i9), .val (.int i10), .val (.int i11), .val (.int i12), .val (.int i13), .val (.int i14), .val (.ref o15), .val (.int i16), .val (.int t0), .unset, .unset, .unset, .unset, .unset, .unset, .unset, .unset] [(.int i7), (.int i12)]))
  by_cases hc205 : i12 = i7
  · rw [if_pos hc205] at hR
    refine own_back (fun t k => XS.icmpNo X.here hx rfl (hb hby at_205) rfl (teq hc205).2 k) ?_
    show own_Go _ _ _ _ _ _ _ (T.setTop (mkF m 208 #[.val (.int i0), .val (.int i1), .val (.int i2), .val (.int i3), .val (.int i4), .val (.int i5), .val (.int i6), .val (.int i7), .val (.int i8), .val (.int i9), .val (.int i10), .val (.int i11), .val (.int i12), .val (.int i13), .val (.int i14), .val (.ref o15), .val (.int i16), .val (.int t0), .unset, .unset, .unset, .unset, .unset, .unset, .unset, .unset] []))
    refine own_back (fun t k => XS.iload X.here hx rfl (hb hby at_208) rfl k) ?_
    show own_Go _ _ _ _ _ _ _ (T.setTop (mkF m 210 #[.val (.int i0), .val (.int i1), .val (.int i2), .val (.int i3), .val (.int i4), .val (.int i5), .val (.int i6), .val (.int i7), .val (.int i8), .val (.int i9), .val (.int i10), .val (.int i11), .val (.int i12), .val (.int i13), .val (.int i14), .val (.ref o15), .val (.int i16), .val (.int t0), .unset, .unset, .unset, .unset, .unset, .unset, .unset, .unset] [(.int i16)]))
    by_cases hc210 : i16 = (0 : Int32)
    · rw [if_pos hc210] at hR
      refine own_back (fun t k => XS.ifNo X.here hx rfl (hb hby at_210) rfl ((if0 _ _).trans (teq hc210).2) k) ?_
      show own_Go _ _ _ _ _ _ _ (T.setTop (mkF m 213 #[.val (.int i0), .val (.int i1), .val (.int i2), .val (.int i3), .val (.int i4), .val (.int i5), .val (.int i6), .val (.int i7), .val (.int i8), .val (.int i9), .val (.int i10), .val (.int i11), .val (.int i12), .val (.int i13), .val (.int i14), .val (.ref o15), .val (.int i16), .val (.int t0), .unset, .unset, .unset, .unset, .unset, .unset, .unset, .unset] []))
      exact own_l0_213 X hx hZ hw hby hml hown hret hlk e0 N Z0 aB aW NN B W i0 i1 i2 i3 i4 i5 i6 i7 i8 i9 i10 i11 i12 i13 i14 o15 i16 t0 hR HP HR2
    · rw [if_neg hc210] at hR
      refine own_back (fun t k => XS.ifYes X.here hx rfl (pc0 := 210) (pc' := 225) rfl (hb hby at_210) rfl ((if0 _ _).trans (feq hc210).2) (by decide) (by decide) k) ?_
      show own_Go _ _ _ _ _ _ _ (T.setTop (mkF m 225 #[.val (.int i0), .val (.int i1), .val (.int i2), .val (.int i3), .val (.int i4), .val (.int i5), .val (.int i6), .val (.int i7), .val (.int i8), .val (.int i9), .val (.int i10), .val (.int i11), .val (.int i12), .val (.int i13), .val (.int i14), .val (.ref o15), .val (.int i16), .val (.int t0), .unset, .unset, .unset, .unset, .unset, .unset, .unset, .unset] []))
      exact own_l0_225 X hx hZ hw hby hml hown hret hlk e0 N Z0 aB aW NN B W i0 i1 i2 i3 i4 i5 i6 i7 i8 i9 i10 i11 i12 i13 i14 o15 i16 t0 hR HP HR2
  · rw [if_neg hc205] at hR
    refine own_back (fun t k => XS.icmpYes X.here hx rfl (pc0 := 205) (pc' := 213) rfl (hb hby at_205) rfl (feq hc205).2 (by decide) (by decide) k) ?_
    show own_Go _ _ _ _ _ _ _ (T.setTop (mkF m 213 #[.val (.int i0), .val (.int i1), .val (.int i2), .val (.int i3), .val (.int i4), .val (.int i5), .val (.int i6), .val (.int i7), .val (.int i8), .val (.int i9), .val (.int i10), .val (.int i11), .val (.int i12), .val (.int i13), .val (.int i14), .val (.ref o15), .val (.int i16), .val (.int t0), .unset, .unset, .unset, .unset, .unset, .unset, .unset, .unset] []))
    exact own_l0_213 X hx hZ hw hby hml hown hret hlk e0 N Z0 aB aW NN B W i0 i1 i2 i3 i4 i5 i6 i7 i8 i9 i10 i11 i12 i13 i14 o15 i16 t0 hR HP HR2
set_option maxRecDepth 65536 in
set_option maxHeartbeats 4000000 in
theorem own_l0_177 {p : Program} {l : Launch} {e : Env} {s : State} {m : MethodId} {args : Array Value} {below : List Frame} {meth : Method} {c : Code} {T : State} {locs : List Loc} {Z : State} {a0 : Array Value} {h0 : Heap} {n0 : Nat}
    (X : Stand p l e room_1 s m args below meth c T locs 3 19) (hx : p.tables.exec = Jvm.exec) (hZ : Z.Warmed39 s.vm) (hw : ∀ d ∈ tables_1, d.before a0 Z = true) (hby : c.code = code) (hml : c.maxLocals = 26) (hown : s.vm.findClass "com/example/furl/furl/tree/PositionCountsAddPinLaw" = some m.cls) (hret : meth.sig.returnType = some .boolean) (hlk : meth.locks = false) (e0 : T.heap = h0) (N : Fr n0 locs) (Z0 : n0 ≤ h0.size)
    (aB : Addr) (aW : Addr) (NN : Nat) (B : Nat → Int64) (W : Nat → Int32) (i0 : Int32) (i1 : Int32) (i2 : Int32) (i3 : Int32) (i4 : Int32) (i5 : Int32) (i6 : Int32) (i7 : Int32) (i8 : Int32) (i9 : Int32) (i10 : Int32) (i11 : Int32) (i12 : Int32) (i13 : Int32) (i14 : Int32) (o15 : Addr) (t0 : Int32) {r : Int32} (hR : r = own_f0_177 NN B W i0 i1 i2 i3 i4 i5 i6 i7 i8 i9 i10 i11 i12 i13 i14 t0) (HP : own_PC Z h0 n0 o15 aB aW NN B W) (HR2 : own_rg2 NN i6 i7 i8 i12 i13 i14) : own_Go p e below s room_1.cells room_1.slots (own_QG (.int r) h0 n0) (T.setTop (mkF m 177 #[.val (.int i0), .val (.int i1), .val (.int i2), .val (.int i3), .val (.int i4), .val (.int i5), .val (.int i6), .val (.int i7), .val (.int i8), .val (.int i9), .val (.int i10), .val (.int i11), .val (.int i12), .val (.int i13), .val (.int i14), .val (.ref o15), .unset, .unset, .unset, .unset, .unset, .unset, .unset, .unset, .unset, .unset] [(.int t0)])) := by
  unfold own_f0_177 at hR
  refine own_back (fun t k => XS.istore X.here hx rfl (hb hby at_177) rfl (l' := #[.val (.int i0), .val (.int i1), .val (.int i2), .val (.int i3), .val (.int i4), .val (.int i5), .val (.int i6), .val (.int i7), .val (.int i8), .val (.int i9), .val (.int i10), .val (.int i11), .val (.int i12), .val (.int i13), .val (.int i14), .val (.ref o15), .val (.int t0), .unset, .unset, .unset, .unset, .unset, .unset, .unset, .unset, .unset]) rfl k) ?_
  show own_Go _ _ _ _ _ _ _ (T.setTop (mkF m 179 #[.val (.int i0), .val (.int i1), .val (.int i2), .val (.int i3), .val (.int i4), .val (.int i5), .val (.int i6), .val (.int i7), .val (.int i8), .val (.int i9), .val (.int i10), .val (.int i11), .val (.int i12), .val (.int i13), .val (.int i14), .val (.ref o15), .val (.int t0), .unset, .unset, .unset, .unset, .unset, .unset, .unset, .unset, .unset] []))
  refine own_back (fun t k => XS.iload X.here hx rfl (hb hby at_179) rfl k) ?_
  show own_Go _ _ _ _ _ _ _ (T.setTop (mkF m 181 #[.val (.int i0), .val (.int i1), .val (.int i2), .val (.int i3), .val (.int i4), .val (.int i5), .val (.int i6), .val (.int i7), .val (.int i8), .val (.int i9), .val (.int i10), .val (.int i11), .val (.int i12), .val (.int i13), .val (.int i14), .val (.ref o15), .val (.int t0), .unset, .unset, .unset, .unset, .unset, .unset, .unset, .unset, .unset] [(.int i9)]))
  by_cases hc181 : i9 = (0 : Int32)
  · rw [if_pos hc181] at hR
    refine own_back (fun t k => XS.ifYes X.here hx rfl (pc0 := 181) (pc' := 197) rfl (hb hby at_181) rfl ((if0 _ _).trans (teq hc181).1) (by decide) (by decide) k) ?_
    show own_Go _ _ _ _ _ _ _ (T.setTop (mkF m 197 #[.val (.int i0), .val (.int i1), .val (.int i2), .val (.int i3), .val (.int i4), .val (.int i5), .val (.int i6), .val (.int i7), .val (.int i8), .val (.int i9), .val (.int i10), .val (.int i11), .val (.int i12), .val (.int i13), .val (.int i14), .val (.ref o15), .val (.int t0), .unset, .unset, .unset, .unset, .unset, .unset, .unset, .unset, .unset] []))
    refine own_back (fun t k => XS.iload X.here hx rfl (hb hby at_197) rfl k) ?_
    show own_Go _ _ _ _ _ _ _ (T.setTop (mkF m 199 #[.val (.int i0), .val (.int i1), .val (.int i2), .val (.int i3), .val (.int i4), .val (.int i5), .val (.int i6), .val (.int i7), .val (.int i8), .val (.int i9), .val (.int i10), .val (.int i11), .val (.int i12), .val (.int i13), .val (.int i14), .val (.ref o15), .val (.int t0), .unset, .unset, .unset, .unset, .unset, .unset, .unset, .unset, .unset] [(.int t0)]))
    exact own_l0_199 X hx hZ hw hby hml hown hret hlk e0 N Z0 aB aW NN B W i0 i1 i2 i3 i4 i5 i6 i7 i8 i9 i10 i11 i12 i13 i14 o15 t0 t0 hR HP HR2
  · rw [if_neg hc181] at hR
    refine own_back (fun t k => XS.ifNo X.here hx rfl (hb hby at_181) rfl ((if0 _ _).trans (feq hc181).1) k) ?_
    show own_Go _ _ _ _ _ _ _ (T.setTop (mkF m 184 #[.val (.int i0), .val (.int i1), .val (.int i2), .val (.int i3), .val (.int i4), .val (.int i5), .val (.int i6), .val (.int i7), .val (.int i8), .val (.int i9), .val (.int i10), .val (.int i11), .val (.int i12), .val (.int i13), .val (.int i14), .val (.ref o15), .val (.int t0), .unset, .unset, .unset, .unset, .unset, .unset, .unset, .unset, .unset] []))
    refine own_back (fun t k => XS.iload X.here hx rfl (hb hby at_184) rfl k) ?_
    show own_Go _ _ _ _ _ _ _ (T.setTop (mkF m 186 #[.val (.int i0), .val (.int i1), .val (.int i2), .val (.int i3), .val (.int i4), .val (.int i5), .val (.int i6), .val (.int i7), .val (.int i8), .val (.int i9), .val (.int i10), .val (.int i11), .val (.int i12), .val (.int i13), .val (.int i14), .val (.ref o15), .val (.int t0), .unset, .unset, .unset, .unset, .unset, .unset, .unset, .unset, .unset] [(.int i11)]))
    by_cases hc186 : i11 = (0 : Int32)
    · rw [if_pos hc186] at hR
      refine own_back (fun t k => XS.ifNo X.here hx rfl (hb hby at_186) rfl ((if0 _ _).trans (teq hc186).2) k) ?_
      show own_Go _ _ _ _ _ _ _ (T.setTop (mkF m 189 #[.val (.int i0), .val (.int i1), .val (.int i2), .val (.int i3), .val (.int i4), .val (.int i5), .val (.int i6), .val (.int i7), .val (.int i8), .val (.int i9), .val (.int i10), .val (.int i11), .val (.int i12), .val (.int i13), .val (.int i14), .val (.ref o15), .val (.int t0), .unset, .unset, .unset, .unset, .unset, .unset, .unset, .unset, .unset] []))
      refine own_back (fun t k => XS.iconst X.here hx rfl (hb hby at_189) k) ?_
      show own_Go _ _ _ _ _ _ _ (T.setTop (mkF m 190 #[.val (.int i0), .val (.int i1), .val (.int i2), .val (.int i3), .val (.int i4), .val (.int i5), .val (.int i6), .val (.int i7), .val (.int i8), .val (.int i9), .val (.int i10), .val (.int i11), .val (.int i12), .val (.int i13), .val (.int i14), .val (.ref o15), .val (.int t0), .unset, .unset, .unset, .unset, .unset, .unset, .unset, .unset, .unset] [(.int (1 : Int32))]))
      refine own_back (fun t k => XS.goto X.here hx rfl (pc0 := 190) (pc' := 199) rfl (hb hby at_190) (by decide) (by decide) k) ?_
      show own_Go _ _ _ _ _ _ _ (T.setTop (mkF m 199 #[.val (.int i0), .val (.int i1), .val (.int i2), .val (.int i3), .val (.int i4), .val (.int i5), .val (.int i6), .val (.int i7), .val (.int i8), .val (.int i9), .val (.int i10), .val (.int i11), .val (.int i12), .val (.int i13), .val (.int i14), .val (.ref o15), .val (.int t0), .unset, .unset, .unset, .unset, .unset, .unset, .unset, .unset, .unset] [(.int (1 : Int32))]))
      exact own_l0_199 X hx hZ hw hby hml hown hret hlk e0 N Z0 aB aW NN B W i0 i1 i2 i3 i4 i5 i6 i7 i8 i9 i10 i11 i12 i13 i14 o15 t0 (1 : Int32) hR HP HR2
    · rw [if_neg hc186] at hR
      refine own_back (fun t k => XS.ifYes X.here hx rfl (pc0 := 186) (pc' := 193) rfl (hb hby at_186) rfl ((if0 _ _).trans (feq hc186).2) (by decide) (by decide) k) ?_
      show own_Go _ _ _ _ _ _ _ (T.setTop (mkF m 193 #[.val (.int i0), .val (.int i1), .val (.int i2), .val (.int i3), .val (.int i4), .val (.int i5), .val (.int i6), .val (.int i7), .val (.int i8), .val (.int i9), .val (.int i10), .val (.int i11), .val (.int i12), .val (.int i13), .val (.int i14), .val (.ref o15), .val (.int t0), .unset, .unset, .unset, .unset, .unset, .unset, .unset, .unset, .unset] []))
      refine own_back (fun t k => XS.iconst X.here hx rfl (hb hby at_193) k) ?_
      show own_Go _ _ _ _ _ _ _ (T.setTop (mkF m 194 #[.val (.int i0), .val (.int i1), .val (.int i2), .val (.int i3), .val (.int i4), .val (.int i5), .val (.int i6), .val (.int i7), .val (.int i8), .val (.int i9), .val (.int i10), .val (.int i11), .val (.int i12), .val (.int i13), .val (.int i14), .val (.ref o15), .val (.int t0), .unset, .unset, .unset, .unset, .unset, .unset, .unset, .unset, .unset] [(.int (0 : Int32))]))
      refine own_back (fun t k => XS.goto X.here hx rfl (pc0 := 194) (pc' := 199) rfl (hb hby at_194) (by decide) (by decide) k) ?_
      show own_Go _ _ _ _ _ _ _ (T.setTop (mkF m 199 #[.val (.int i0), .val (.int i1), .val (.int i2), .val (.int i3), .val (.int i4), .val (.int i5), .val (.int i6), .val (.int i7), .val (.int i8), .val (.int i9), .val (.int i10), .val (.int i11), .val (.int i12), .val (.int i13), .val (.int i14), .val (.ref o15), .val (.int t0), .unset, .unset, .unset, .unset, .unset, .unset, .unset, .unset, .unset] [(.int (0 : Int32))]))
      exact own_l0_199 X hx hZ hw hby hml hown hret hlk e0 N Z0 aB aW NN B W i0 i1 i2 i3 i4 i5 i6 i7 i8 i9 i10 i11 i12 i13 i14 o15 t0 (0 : Int32) hR HP HR2
set_option maxRecDepth 65536 in
set_option maxHeartbeats 4000000 in
theorem own_l0_167 {p : Program} {l : Launch} {e : Env} {s : State} {m : MethodId} {args : Array Value} {below : List Frame} {meth : Method} {c : Code} {T : State} {locs : List Loc} {Z : State} {a0 : Array Value} {h0 : Heap} {n0 : Nat}
    (X : Stand p l e room_1 s m args below meth c T locs 3 19) (hx : p.tables.exec = Jvm.exec) (hZ : Z.Warmed39 s.vm) (hw : ∀ d ∈ tables_1, d.before a0 Z = true) (hby : c.code = code) (hml : c.maxLocals = 26) (hown : s.vm.findClass "com/example/furl/furl/tree/PositionCountsAddPinLaw" = some m.cls) (hret : meth.sig.returnType = some .boolean) (hlk : meth.locks = false) (e0 : T.heap = h0) (N : Fr n0 locs) (Z0 : n0 ≤ h0.size)
    (aB : Addr) (aW : Addr) (NN : Nat) (B : Nat → Int64) (W : Nat → Int32) (i0 : Int32) (i1 : Int32) (i2 : Int32) (i3 : Int32) (i4 : Int32) (i5 : Int32) (i6 : Int32) (i7 : Int32) (i8 : Int32) (i9 : Int32) (i10 : Int32) (i11 : Int32) (i12 : Int32) (i13 : Int32) (i14 : Int32) (o15 : Addr) {r : Int32} (hR : r = own_f0_167 NN B W i0 i1 i2 i3 i4 i5 i6 i7 i8 i9 i10 i11 i12 i13 i14) (HP : own_PC Z h0 n0 o15 aB aW NN B W) (HR2 : own_rg2 NN i6 i7 i8 i12 i13 i14) : own_Go p e below s room_1.cells room_1.slots (own_QG (.int r) h0 n0) (T.setTop (mkF m 167 #[.val (.int i0), .val (.int i1), .val (.int i2), .val (.int i3), .val (.int i4), .val (.int i5), .val (.int i6), .val (.int i7), .val (.int i8), .val (.int i9), .val (.int i10), .val (.int i11), .val (.int i12), .val (.int i13), .val (.int i14), .val (.ref o15), .unset, .unset, .unset, .unset, .unset, .unset, .unset, .unset, .unset, .unset] [])) := by
  unfold own_f0_167 at hR
  refine own_back (fun t k => XS.iload X.here hx rfl (hb hby at_167) rfl k) ?_
  show own_Go _ _ _ _ _ _ _ (T.setTop (mkF m 169 #[.val (.int i0), .val (.int i1), .val (.int i2), .val (.int i3), .val (.int i4), .val (.int i5), .val (.int i6), .val (.int i7), .val (.int i8), .val (.int i9), .val (.int i10), .val (.int i11), .val (.int i12), .val (.int i13), .val (.int i14), .val (.ref o15), .unset, .unset, .unset, .unset, .unset, .unset, .unset, .unset, .unset, .unset] [(.int i10)]))
  by_cases hc169 : i10 = (0 : Int32)
  · rw [if_pos hc169] at hR
    refine own_back (fun t k => XS.ifNo X.here hx rfl (hb hby at_169) rfl ((if0 _ _).trans (teq hc169).2) k) ?_
    show own_Go _ _ _ _ _ _ _ (T.setTop (mkF m 172 #[.val (.int i0), .val (.int i1), .val (.int i2), .val (.int i3), .val (.int i4), .val (.int i5), .val (.int i6), .val (.int i7), .val (.int i8), .val (.int i9), .val (.int i10), .val (.int i11), .val (.int i12), .val (.int i13), .val (.int i14), .val (.ref o15), .unset, .unset, .unset, .unset, .unset, .unset, .unset, .unset, .unset, .unset] []))
    refine own_back (fun t k => XS.iconst X.here hx rfl (hb hby at_172) k) ?_
    show own_Go _ _ _ _ _ _ _ (T.setTop (mkF m 173 #[.val (.int i0), .val (.int i1), .val (.int i2), .val (.int i3), .val (.int i4), .val (.int i5), .val (.int i6), .val (.int i7), .val (.int i8), .val (.int i9), .val (.int i10), .val (.int i11), .val (.int i12), .val (.int i13), .val (.int i14), .val (.ref o15), .unset, .unset, .unset, .unset, .unset, .unset, .unset, .unset, .unset, .unset] [(.int (1 : Int32))]))
    refine own_back (fun t k => XS.goto X.here hx rfl (pc0 := 173) (pc' := 177) rfl (hb hby at_173) (by decide) (by decide) k) ?_
    show own_Go _ _ _ _ _ _ _ (T.setTop (mkF m 177 #[.val (.int i0), .val (.int i1), .val (.int i2), .val (.int i3), .val (.int i4), .val (.int i5), .val (.int i6), .val (.int i7), .val (.int i8), .val (.int i9), .val (.int i10), .val (.int i11), .val (.int i12), .val (.int i13), .val (.int i14), .val (.ref o15), .unset, .unset, .unset, .unset, .unset, .unset, .unset, .unset, .unset, .unset] [(.int (1 : Int32))]))
    exact own_l0_177 X hx hZ hw hby hml hown hret hlk e0 N Z0 aB aW NN B W i0 i1 i2 i3 i4 i5 i6 i7 i8 i9 i10 i11 i12 i13 i14 o15 (1 : Int32) hR HP HR2
  · rw [if_neg hc169] at hR
    refine own_back (fun t k => XS.ifYes X.here hx rfl (pc0 := 169) (pc' := 176) rfl (hb hby at_169) rfl ((if0 _ _).trans (feq hc169).2) (by decide) (by decide) k) ?_
    show own_Go _ _ _ _ _ _ _ (T.setTop (mkF m 176 #[.val (.int i0), .val (.int i1), .val (.int i2), .val (.int i3), .val (.int i4), .val (.int i5), .val (.int i6), .val (.int i7), .val (.int i8), .val (.int i9), .val (.int i10), .val (.int i11), .val (.int i12), .val (.int i13), .val (.int i14), .val (.ref o15), .unset, .unset, .unset, .unset, .unset, .unset, .unset, .unset, .unset, .unset] []))
    refine own_back (fun t k => XS.iconst X.here hx rfl (hb hby at_176) k) ?_
    show own_Go _ _ _ _ _ _ _ (T.setTop (mkF m 177 #[.val (.int i0), .val (.int i1), .val (.int i2), .val (.int i3), .val (.int i4), .val (.int i5), .val (.int i6), .val (.int i7), .val (.int i8), .val (.int i9), .val (.int i10), .val (.int i11), .val (.int i12), .val (.int i13), .val (.int i14), .val (.ref o15), .unset, .unset, .unset, .unset, .unset, .unset, .unset, .unset, .unset, .unset] [(.int (0 : Int32))]))
    exact own_l0_177 X hx hZ hw hby hml hown hret hlk e0 N Z0 aB aW NN B W i0 i1 i2 i3 i4 i5 i6 i7 i8 i9 i10 i11 i12 i13 i14 o15 (0 : Int32) hR HP HR2
set_option maxRecDepth 65536 in
set_option maxHeartbeats 4000000 in
theorem own_l0_154 {p : Program} {l : Launch} {e : Env} {s : State} {m : MethodId} {args : Array Value} {below : List Frame} {meth : Method} {c : Code} {T : State} {locs : List Loc} {Z : State} {a0 : Array Value} {h0 : Heap} {n0 : Nat}
    (X : Stand p l e room_1 s m args below meth c T locs 3 19) (hx : p.tables.exec = Jvm.exec) (hZ : Z.Warmed39 s.vm) (hw : ∀ d ∈ tables_1, d.before a0 Z = true) (hby : c.code = code) (hml : c.maxLocals = 26) (hown : s.vm.findClass "com/example/furl/furl/tree/PositionCountsAddPinLaw" = some m.cls) (hret : meth.sig.returnType = some .boolean) (hlk : meth.locks = false) (e0 : T.heap = h0) (N : Fr n0 locs) (Z0 : n0 ≤ h0.size)
    (aB : Addr) (aW : Addr) (NN : Nat) (B : Nat → Int64) (W : Nat → Int32) (i0 : Int32) (i1 : Int32) (i2 : Int32) (i3 : Int32) (i4 : Int32) (i5 : Int32) (i6 : Int32) (i7 : Int32) (i8 : Int32) (i9 : Int32) (i10 : Int32) (i11 : Int32) (i12 : Int32) (i13 : Int32) (i14 : Int32) (o15 : Addr) {r : Int32} (hR : r = own_f0_154 NN B W i0 i1 i2 i3 i4 i5 i6 i7 i8 i9 i10 i11 i12 i13 i14) (HP : own_PC Z h0 n0 o15 aB aW NN B W) (HR2 : own_rg2 NN i6 i7 i8 i12 i13 i14) : own_Go p e below s room_1.cells room_1.slots (own_QG (.int r) h0 n0) (T.setTop (mkF m 154 #[.val (.int i0), .val (.int i1), .val (.int i2), .val (.int i3), .val (.int i4), .val (.int i5), .val (.int i6), .val (.int i7), .val (.int i8), .val (.int i9), .val (.int i10), .val (.int i11), .val (.int i12), .val (.int i13), .val (.int i14), .val (.ref o15), .unset, .unset, .unset, .unset, .unset, .unset, .unset, .unset, .unset, .unset] [])) := by
  unfold own_f0_154 at hR
  refine own_back (fun t k => XS.iload X.here hx rfl (hb hby at_154) rfl k) ?_
  show own_Go _ _ _ _ _ _ _ (T.setTop (mkF m 156 #[.val (.int i0), .val (.int i1), .val (.int i2), .val (.int i3), .val (.int i4), .val (.int i5), .val (.int i6), .val (.int i7), .val (.int i8), .val (.int i9), .val (.int i10), .val (.int i11), .val (.int i12), .val (.int i13), .val (.int i14), .val (.ref o15), .unset, .unset, .unset, .unset, .unset, .unset, .unset, .unset, .unset, .unset] [(.int i11)]))
  by_cases hc156 : i11 = (0 : Int32)
  · rw [if_pos hc156] at hR
    refine own_back (fun t k => XS.ifYes X.here hx rfl (pc0 := 156) (pc' := 167) rfl (hb hby at_156) rfl ((if0 _ _).trans (teq hc156).1) (by decide) (by decide) k) ?_
    show own_Go _ _ _ _ _ _ _ (T.setTop (mkF m 167 #[.val (.int i0), .val (.int i1), .val (.int i2), .val (.int i3), .val (.int i4), .val (.int i5), .val (.int i6), .val (.int i7), .val (.int i8), .val (.int i9), .val (.int i10), .val (.int i11), .val (.int i12), .val (.int i13), .val (.int i14), .val (.ref o15), .unset, .unset, .unset, .unset, .unset, .unset, .unset, .unset, .unset, .unset] []))
    exact own_l0_167 X hx hZ hw hby hml hown hret hlk e0 N Z0 aB aW NN B W i0 i1 i2 i3 i4 i5 i6 i7 i8 i9 i10 i11 i12 i13 i14 o15 hR HP HR2
  · rw [if_neg hc156] at hR
    refine own_back (fun t k => XS.ifNo X.here hx rfl (hb hby at_156) rfl ((if0 _ _).trans (feq hc156).1) k) ?_
    show own_Go _ _ _ _ _ _ _ (T.setTop (mkF m 159 #[.val (.int i0), .val (.int i1), .val (.int i2), .val (.int i3), .val (.int i4), .val (.int i5), .val (.int i6), .val (.int i7), .val (.int i8), .val (.int i9), .val (.int i10), .val (.int i11), .val (.int i12), .val (.int i13), .val (.int i14), .val (.ref o15), .unset, .unset, .unset, .unset, .unset, .unset, .unset, .unset, .unset, .unset] []))
    refine own_back (fun t k => XS.aload X.here hx rfl (hb hby at_159) rfl rfl k) ?_
    show own_Go _ _ _ _ _ _ _ (T.setTop (mkF m 161 #[.val (.int i0), .val (.int i1), .val (.int i2), .val (.int i3), .val (.int i4), .val (.int i5), .val (.int i6), .val (.int i7), .val (.int i8), .val (.int i9), .val (.int i10), .val (.int i11), .val (.int i12), .val (.int i13), .val (.int i14), .val (.ref o15), .unset, .unset, .unset, .unset, .unset, .unset, .unset, .unset, .unset, .unset] [(.ref o15)]))
    refine own_back (fun t k => XS.iload X.here hx rfl (hb hby at_161) rfl k) ?_
    show own_Go _ _ _ _ _ _ _ (T.setTop (mkF m 163 #[.val (.int i0), .val (.int i1), .val (.int i2), .val (.int i3), .val (.int i4), .val (.int i5), .val (.int i6), .val (.int i7), .val (.int i8), .val (.int i9), .val (.int i10), .val (.int i11), .val (.int i12), .val (.int i13), .val (.int i14), .val (.ref o15), .unset, .unset, .unset, .unset, .unset, .unset, .unset, .unset, .unset, .unset] [(.int i8), (.ref o15)]))
    refine own_back (fun t k => XS.iconst X.here hx rfl (hb hby at_163) k) ?_
    show own_Go _ _ _ _ _ _ _ (T.setTop (mkF m 164 #[.val (.int i0), .val (.int i1), .val (.int i2), .val (.int i3), .val (.int i4), .val (.int i5), .val (.int i6), .val (.int i7), .val (.int i8), .val (.int i9), .val (.int i10), .val (.int i11), .val (.int i12), .val (.int i13), .val (.int i14), .val (.ref o15), .unset, .unset, .unset, .unset, .unset, .unset, .unset, .unset, .unset, .unset] [(.int (-1 : Int32)), (.int i8), (.ref o15)]))
    obtain ⟨cq6, kq6, q6a, q6b, q6c⟩ := isOf hZ e0 HP.1
    obtain ⟨_, _, ⟨T6, L6, k6, n6⟩, -, X6, ⟨Lc6, hQ6, l6, y6, z6⟩, st6⟩ := X.virtualBack hx (y := (⟨"com/example/furl/furl/tree/PositionCounts", "add", "(II)V"⟩ : MethodName)) (z := (⟨"com/example/furl/furl/tree/PositionCounts", "add", "(II)V"⟩ : MethodName)) hown (mvT hZ (hw _ (List.mem_of_getElem? (i := 16) rfl))) (mvT hZ (hw _ (List.mem_of_getElem? (i := 17) rfl))) (notFace_of_selects (args := #[]) (mvT hZ (hw _ (List.mem_of_getElem? (i := 19) rfl)))) (mvT hZ (hw _ (List.mem_of_getElem? (i := 19) rfl))) (mvT hZ (hw _ (List.mem_of_getElem? (i := 18) rfl))) (by decide) (backOf (W := 0) (own_rm3 l Z a0 hw [] o15 i8 (-1 : Int32) aB aW NN B W h0 n0 Z0 HP (Nat.le_trans HR2.1 (by decide)) HR2.2.2.1) hZ (hw _ (List.mem_of_getElem? (i := 20) rfl)) (hw _ (List.mem_of_getElem? (i := 3) rfl)) (by decide) (by decide)) q6a q6c (g := (mkF m 164 #[.val (.int i0), .val (.int i1), .val (.int i2), .val (.int i3), .val (.int i4), .val (.int i5), .val (.int i6), .val (.int i7), .val (.int i8), .val (.int i9), .val (.int i10), .val (.int i11), .val (.int i12), .val (.int i13), .val (.int i14), .val (.ref o15), .unset, .unset, .unset, .unset, .unset, .unset, .unset, .unset, .unset, .unset] [(.int (-1 : Int32)), (.int i8), (.ref o15)])) rfl (by rw [hml]; rfl) (Steps.refl _) (argsL := [(.int i8), (.int (-1 : Int32))]) (rest := []) (lenOf own_pd3 rfl) rfl (by show 2 * 0 + _ ≤ _; exact Nat.le_of_eq rfl) (hb hby at_164) (fun _ _ => ⟨rfl, e0, (by decide : 3 + 0 ≤ _), (by decide : 19 + 0 ≤ _)⟩)
    dsimp only [Pt.U, Pt.locs, Pt.cells, Pt.slots] at X6 l6 y6 z6 st6 hQ6
    subst l6 y6 z6
    obtain ⟨rfl, N6q, Z6, HP6⟩ := hQ6
    have N6 := Fr.app N N6q
    refine own_back (fun t k => st6.trans k) ?_
    show own_Go _ _ _ _ _ _ _ (T6.setTop (mkF m 167 #[.val (.int i0), .val (.int i1), .val (.int i2), .val (.int i3), .val (.int i4), .val (.int i5), .val (.int i6), .val (.int i7), .val (.int i8), .val (.int i9), .val (.int i10), .val (.int i11), .val (.int i12), .val (.int i13), .val (.int i14), .val (.ref o15), .unset, .unset, .unset, .unset, .unset, .unset, .unset, .unset, .unset, .unset] []))
    exact own_l0_167 X6 hx hZ hw hby hml hown hret hlk rfl N6 Z6 aB aW NN (own_tog B i8) (own_cnt W i8 (-1 : Int32)) i0 i1 i2 i3 i4 i5 i6 i7 i8 i9 i10 i11 i12 i13 i14 o15 hR HP6 HR2
set_option maxRecDepth 65536 in
set_option maxHeartbeats 4000000 in
theorem own_l0_141 {p : Program} {l : Launch} {e : Env} {s : State} {m : MethodId} {args : Array Value} {below : List Frame} {meth : Method} {c : Code} {T : State} {locs : List Loc} {Z : State} {a0 : Array Value} {h0 : Heap} {n0 : Nat}
    (X : Stand p l e room_1 s m args below meth c T locs 3 19) (hx : p.tables.exec = Jvm.exec) (hZ : Z.Warmed39 s.vm) (hw : ∀ d ∈ tables_1, d.before a0 Z = true) (hby : c.code = code) (hml : c.maxLocals = 26) (hown : s.vm.findClass "com/example/furl/furl/tree/PositionCountsAddPinLaw" = some m.cls) (hret : meth.sig.returnType = some .boolean) (hlk : meth.locks = false) (e0 : T.heap = h0) (N : Fr n0 locs) (Z0 : n0 ≤ h0.size)
    (aB : Addr) (aW : Addr) (NN : Nat) (B : Nat → Int64) (W : Nat → Int32) (i0 : Int32) (i1 : Int32) (i2 : Int32) (i3 : Int32) (i4 : Int32) (i5 : Int32) (i6 : Int32) (i7 : Int32) (i8 : Int32) (i9 : Int32) (i10 : Int32) (i11 : Int32) (i12 : Int32) (i13 : Int32) (i14 : Int32) (o15 : Addr) {r : Int32} (hR : r = own_f0_141 NN B W i0 i1 i2 i3 i4 i5 i6 i7 i8 i9 i10 i11 i12 i13 i14) (HP : own_PC Z h0 n0 o15 aB aW NN B W) (HR2 : own_rg2 NN i6 i7 i8 i12 i13 i14) : own_Go p e below s room_1.cells room_1.slots (own_QG (.int r) h0 n0) (T.setTop (mkF m 141 #[.val (.int i0), .val (.int i1), .val (.int i2), .val (.int i3), .val (.int i4), .val (.int i5), .val (.int i6), .val (.int i7), .val (.int i8), .val (.int i9), .val (.int i10), .val (.int i11), .val (.int i12), .val (.int i13), .val (.int i14), .val (.ref o15), .unset, .unset, .unset, .unset, .unset, .unset, .unset, .unset, .unset, .unset] [])) := by
  unfold own_f0_141 at hR
  refine own_back (fun t k => XS.iload X.here hx rfl (hb hby at_141) rfl k) ?_
  show own_Go _ _ _ _ _ _ _ (T.setTop (mkF m 143 #[.val (.int i0), .val (.int i1), .val (.int i2), .val (.int i3), .val (.int i4), .val (.int i5), .val (.int i6), .val (.int i7), .val (.int i8), .val (.int i9), .val (.int i10), .val (.int i11), .val (.int i12), .val (.int i13), .val (.int i14), .val (.ref o15), .unset, .unset, .unset, .unset, .unset, .unset, .unset, .unset, .unset, .unset] [(.int i10)]))
  by_cases hc143 : i10 = (0 : Int32)
  · rw [if_pos hc143] at hR
    refine own_back (fun t k => XS.ifYes X.here hx rfl (pc0 := 143) (pc' := 154) rfl (hb hby at_143) rfl ((if0 _ _).trans (teq hc143).1) (by decide) (by decide) k) ?_
    show own_Go _ _ _ _ _ _ _ (T.setTop (mkF m 154 #[.val (.int i0), .val (.int i1), .val (.int i2), .val (.int i3), .val (.int i4), .val (.int i5), .val (.int i6), .val (.int i7), .val (.int i8), .val (.int i9), .val (.int i10), .val (.int i11), .val (.int i12), .val (.int i13), .val (.int i14), .val (.ref o15), .unset, .unset, .unset, .unset, .unset, .unset, .unset, .unset, .unset, .unset] []))
    exact own_l0_154 X hx hZ hw hby hml hown hret hlk e0 N Z0 aB aW NN B W i0 i1 i2 i3 i4 i5 i6 i7 i8 i9 i10 i11 i12 i13 i14 o15 hR HP HR2
  · rw [if_neg hc143] at hR
    refine own_back (fun t k => XS.ifNo X.here hx rfl (hb hby at_143) rfl ((if0 _ _).trans (feq hc143).1) k) ?_
    show own_Go _ _ _ _ _ _ _ (T.setTop (mkF m 146 #[.val (.int i0), .val (.int i1), .val (.int i2), .val (.int i3), .val (.int i4), .val (.int i5), .val (.int i6), .val (.int i7), .val (.int i8), .val (.int i9), .val (.int i10), .val (.int i11), .val (.int i12), .val (.int i13), .val (.int i14), .val (.ref o15), .unset, .unset, .unset, .unset, .unset, .unset, .unset, .unset, .unset, .unset] []))
    refine own_back (fun t k => XS.aload X.here hx rfl (hb hby at_146) rfl rfl k) ?_
    show own_Go _ _ _ _ _ _ _ (T.setTop (mkF m 148 #[.val (.int i0), .val (.int i1), .val (.int i2), .val (.int i3), .val (.int i4), .val (.int i5), .val (.int i6), .val (.int i7), .val (.int i8), .val (.int i9), .val (.int i10), .val (.int i11), .val (.int i12), .val (.int i13), .val (.int i14), .val (.ref o15), .unset, .unset, .unset, .unset, .unset, .unset, .unset, .unset, .unset, .unset] [(.ref o15)]))
    refine own_back (fun t k => XS.iload X.here hx rfl (hb hby at_148) rfl k) ?_
    show own_Go _ _ _ _ _ _ _ (T.setTop (mkF m 150 #[.val (.int i0), .val (.int i1), .val (.int i2), .val (.int i3), .val (.int i4), .val (.int i5), .val (.int i6), .val (.int i7), .val (.int i8), .val (.int i9), .val (.int i10), .val (.int i11), .val (.int i12), .val (.int i13), .val (.int i14), .val (.ref o15), .unset, .unset, .unset, .unset, .unset, .unset, .unset, .unset, .unset, .unset] [(.int i7), (.ref o15)]))
    refine own_back (fun t k => XS.iconst X.here hx rfl (hb hby at_150) k) ?_
    show own_Go _ _ _ _ _ _ _ (T.setTop (mkF m 151 #[.val (.int i0), .val (.int i1), .val (.int i2), .val (.int i3), .val (.int i4), .val (.int i5), .val (.int i6), .val (.int i7), .val (.int i8), .val (.int i9), .val (.int i10), .val (.int i11), .val (.int i12), .val (.int i13), .val (.int i14), .val (.ref o15), .unset, .unset, .unset, .unset, .unset, .unset, .unset, .unset, .unset, .unset] [(.int (-1 : Int32)), (.int i7), (.ref o15)]))
    obtain ⟨cq5, kq5, q5a, q5b, q5c⟩ := isOf hZ e0 HP.1
    obtain ⟨_, _, ⟨T5, L5, k5, n5⟩, -, X5, ⟨Lc5, hQ5, l5, y5, z5⟩, st5⟩ := X.virtualBack hx (y := (⟨"com/example/furl/furl/tree/PositionCounts", "add", "(II)V"⟩ : MethodName)) (z := (⟨"com/example/furl/furl/tree/PositionCounts", "add", "(II)V"⟩ : MethodName)) hown (mvT hZ (hw _ (List.mem_of_getElem? (i := 16) rfl))) (mvT hZ (hw _ (List.mem_of_getElem? (i := 17) rfl))) (notFace_of_selects (args := #[]) (mvT hZ (hw _ (List.mem_of_getElem? (i := 19) rfl)))) (mvT hZ (hw _ (List.mem_of_getElem? (i := 19) rfl))) (mvT hZ (hw _ (List.mem_of_getElem? (i := 18) rfl))) (by decide) (backOf (W := 0) (own_rm3 l Z a0 hw [] o15 i7 (-1 : Int32) aB aW NN B W h0 n0 Z0 HP (Nat.le_trans HR2.1 (by decide)) HR2.2.1) hZ (hw _ (List.mem_of_getElem? (i := 20) rfl)) (hw _ (List.mem_of_getElem? (i := 3) rfl)) (by decide) (by decide)) q5a q5c (g := (mkF m 151 #[.val (.int i0), .val (.int i1), .val (.int i2), .val (.int i3), .val (.int i4), .val (.int i5), .val (.int i6), .val (.int i7), .val (.int i8), .val (.int i9), .val (.int i10), .val (.int i11), .val (.int i12), .val (.int i13), .val (.int i14), .val (.ref o15), .unset, .unset, .unset, .unset, .unset, .unset, .unset, .unset, .unset, .unset] [(.int (-1 : Int32)), (.int i7), (.ref o15)])) rfl (by rw [hml]; rfl) (Steps.refl _) (argsL := [(.int i7), (.int (-1 : Int32))]) (rest := []) (lenOf own_pd3 rfl) rfl (by show 2 * 0 + _ ≤ _; exact Nat.le_of_eq rfl) (hb hby at_151) (fun _ _ => ⟨rfl, e0, (by decide : 3 + 0 ≤ _), (by decide : 19 + 0 ≤ _)⟩)
    dsimp only [Pt.U, Pt.locs, Pt.cells, Pt.slots] at X5 l5 y5 z5 st5 hQ5
    subst l5 y5 z5
    obtain ⟨rfl, N5q, Z5, HP5⟩ := hQ5
    have N5 := Fr.app N N5q
    refine own_back (fun t k => st5.trans k) ?_
    show own_Go _ _ _ _ _ _ _ (T5.setTop (mkF m 154 #[.val (.int i0), .val (.int i1), .val (.int i2), .val (.int i3), .val (.int i4), .val (.int i5), .val (.int i6), .val (.int i7), .val (.int i8), .val (.int i9), .val (.int i10), .val (.int i11), .val (.int i12), .val (.int i13), .val (.int i14), .val (.ref o15), .unset, .unset, .unset, .unset, .unset, .unset, .unset, .unset, .unset, .unset] []))
    exact own_l0_154 X5 hx hZ hw hby hml hown hret hlk rfl N5 Z5 aB aW NN (own_tog B i7) (own_cnt W i7 (-1 : Int32)) i0 i1 i2 i3 i4 i5 i6 i7 i8 i9 i10 i11 i12 i13 i14 o15 hR HP5 HR2
set_option maxRecDepth 65536 in
set_option maxHeartbeats 4000000 in
theorem own_l0_72 {p : Program} {l : Launch} {e : Env} {s : State} {m : MethodId} {args : Array Value} {below : List Frame} {meth : Method} {c : Code} {T : State} {locs : List Loc} {Z : State} {a0 : Array Value} {h0 : Heap} {n0 : Nat}
    (X : Stand p l e room_1 s m args below meth c T locs 0 0) (hx : p.tables.exec = Jvm.exec) (hZ : Z.Warmed39 s.vm) (hw : ∀ d ∈ tables_1, d.before a0 Z = true) (hby : c.code = code) (hml : c.maxLocals = 26) (hown : s.vm.findClass "com/example/furl/furl/tree/PositionCountsAddPinLaw" = some m.cls) (hret : meth.sig.returnType = some .boolean) (hlk : meth.locks = false) (e0 : T.heap = h0) (N : Fr n0 locs) (Z0 : n0 ≤ h0.size)
    (i0 : Int32) (i1 : Int32) (i2 : Int32) (i3 : Int32) (i4 : Int32) (i5 : Int32) (i6 : Int32) (i7 : Int32) (i8 : Int32) (i9 : Int32) (i10 : Int32) (t0 : Int32) {r : Int32} (hR : r = own_f0_72 i0 i1 i2 i3 i4 i5 i6 i7 i8 i9 i10 t0) (HR : own_rg1 i6 i7 i8) : own_Go p e below s room_1.cells room_1.slots (own_QG (.int r) h0 n0) (T.setTop (mkF m 72 #[.val (.int i0), .val (.int i1), .val (.int i2), .val (.int i3), .val (.int i4), .val (.int i5), .val (.int i6), .val (.int i7), .val (.int i8), .val (.int i9), .val (.int i10), .unset, .unset, .unset, .unset, .unset, .unset, .unset, .unset, .unset, .unset, .unset, .unset, .unset, .unset, .unset] [(.int t0)])) := by
  unfold own_f0_72 at hR
  refine own_back (fun t k => XS.istore X.here hx rfl (hb hby at_72) rfl (l' := #[.val (.int i0), .val (.int i1), .val (.int i2), .val (.int i3), .val (.int i4), .val (.int i5), .val (.int i6), .val (.int i7), .val (.int i8), .val (.int i9), .val (.int i10), .val (.int t0), .unset, .unset, .unset, .unset, .unset, .unset, .unset, .unset, .unset, .unset, .unset, .unset, .unset, .unset]) rfl k) ?_
  show own_Go _ _ _ _ _ _ _ (T.setTop (mkF m 74 #[.val (.int i0), .val (.int i1), .val (.int i2), .val (.int i3), .val (.int i4), .val (.int i5), .val (.int i6), .val (.int i7), .val (.int i8), .val (.int i9), .val (.int i10), .val (.int t0), .unset, .unset, .unset, .unset, .unset, .unset, .unset, .unset, .unset, .unset, .unset, .unset, .unset, .unset] []))
  refine own_back (fun t k => XS.iload X.here hx rfl (hb hby at_74) rfl k) ?_
  show own_Go _ _ _ _ _ _ _ (T.setTop (mkF m 76 #[.val (.int i0), .val (.int i1), .val (.int i2), .val (.int i3), .val (.int i4), .val (.int i5), .val (.int i6), .val (.int i7), .val (.int i8), .val (.int i9), .val (.int i10), .val (.int t0), .unset, .unset, .unset, .unset, .unset, .unset, .unset, .unset, .unset, .unset, .unset, .unset, .unset, .unset] [(.int i5)]))
  refine own_back (fun t k => XS.iconst X.here hx rfl (hb hby at_76) k) ?_
  show own_Go _ _ _ _ _ _ _ (T.setTop (mkF m 77 #[.val (.int i0), .val (.int i1), .val (.int i2), .val (.int i3), .val (.int i4), .val (.int i5), .val (.int i6), .val (.int i7), .val (.int i8), .val (.int i9), .val (.int i10), .val (.int t0), .unset, .unset, .unset, .unset, .unset, .unset, .unset, .unset, .unset, .unset, .unset, .unset, .unset, .unset] [(.int (2 : Int32)), (.int i5)]))
  refine own_back (fun t k => XS.iushr X.here hx rfl (hb hby at_77) rfl k) ?_
  show own_Go _ _ _ _ _ _ _ (T.setTop (mkF m 78 #[.val (.int i0), .val (.int i1), .val (.int i2), .val (.int i3), .val (.int i4), .val (.int i5), .val (.int i6), .val (.int i7), .val (.int i8), .val (.int i9), .val (.int i10), .val (.int t0), .unset, .unset, .unset, .unset, .unset, .unset, .unset, .unset, .unset, .unset, .unset, .unset, .unset, .unset] [(.int ((i5.toUInt32 >>> ((2 : Int32) &&& 31).toUInt32).toInt32))]))
  refine own_back (fun t k => X.ldcInt hx hown (mvT hZ (hw _ (List.mem_of_getElem? (i := 0) rfl))) (g := (mkF m 78 #[.val (.int i0), .val (.int i1), .val (.int i2), .val (.int i3), .val (.int i4), .val (.int i5), .val (.int i6), .val (.int i7), .val (.int i8), .val (.int i9), .val (.int i10), .val (.int t0), .unset, .unset, .unset, .unset, .unset, .unset, .unset, .unset, .unset, .unset, .unset, .unset, .unset, .unset] [(.int ((i5.toUInt32 >>> ((2 : Int32) &&& 31).toUInt32).toInt32))])) rfl (hb hby at_78) _ k) ?_
  show own_Go _ _ _ _ _ _ _ (T.setTop (mkF m 80 #[.val (.int i0), .val (.int i1), .val (.int i2), .val (.int i3), .val (.int i4), .val (.int i5), .val (.int i6), .val (.int i7), .val (.int i8), .val (.int i9), .val (.int i10), .val (.int t0), .unset, .unset, .unset, .unset, .unset, .unset, .unset, .unset, .unset, .unset, .unset, .unset, .unset, .unset] [(.int (2147483647 : Int32)), (.int ((i5.toUInt32 >>> ((2 : Int32) &&& 31).toUInt32).toInt32))]))
  refine own_back (fun t k => XS.iand X.here hx rfl (hb hby at_80) rfl k) ?_
  show own_Go _ _ _ _ _ _ _ (T.setTop (mkF m 81 #[.val (.int i0), .val (.int i1), .val (.int i2), .val (.int i3), .val (.int i4), .val (.int i5), .val (.int i6), .val (.int i7), .val (.int i8), .val (.int i9), .val (.int i10), .val (.int t0), .unset, .unset, .unset, .unset, .unset, .unset, .unset, .unset, .unset, .unset, .unset, .unset, .unset, .unset] [(.int (((i5.toUInt32 >>> ((2 : Int32) &&& 31).toUInt32).toInt32) &&& (2147483647 : Int32)))]))
  refine own_back (fun t k => XS.iload X.here hx rfl (hb hby at_81) rfl k) ?_
  show own_Go _ _ _ _ _ _ _ (T.setTop (mkF m 83 #[.val (.int i0), .val (.int i1), .val (.int i2), .val (.int i3), .val (.int i4), .val (.int i5), .val (.int i6), .val (.int i7), .val (.int i8), .val (.int i9), .val (.int i10), .val (.int t0), .unset, .unset, .unset, .unset, .unset, .unset, .unset, .unset, .unset, .unset, .unset, .unset, .unset, .unset] [(.int i6), (.int (((i5.toUInt32 >>> ((2 : Int32) &&& 31).toUInt32).toInt32) &&& (2147483647 : Int32)))]))
  refine own_back (B := T.setTop (mkF m 84 #[.val (.int i0), .val (.int i1), .val (.int i2), .val (.int i3), .val (.int i4), .val (.int i5), .val (.int i6), .val (.int i7), .val (.int i8), .val (.int i9), .val (.int i10), .val (.int t0), .unset, .unset, .unset, .unset, .unset, .unset, .unset, .unset, .unset, .unset, .unset, .unset, .unset, .unset] [(.int ((((i5.toUInt32 >>> ((2 : Int32) &&& 31).toUInt32).toInt32) &&& (2147483647 : Int32)) % i6))])) (fun t k => XS.irem X.here hx rfl (hb hby at_83) rfl (own_nz1 HR) (by rw [irem_eq_mod]; exact k)) ?_
  show own_Go _ _ _ _ _ _ _ (T.setTop (mkF m 84 #[.val (.int i0), .val (.int i1), .val (.int i2), .val (.int i3), .val (.int i4), .val (.int i5), .val (.int i6), .val (.int i7), .val (.int i8), .val (.int i9), .val (.int i10), .val (.int t0), .unset, .unset, .unset, .unset, .unset, .unset, .unset, .unset, .unset, .unset, .unset, .unset, .unset, .unset] [(.int ((((i5.toUInt32 >>> ((2 : Int32) &&& 31).toUInt32).toInt32) &&& (2147483647 : Int32)) % i6))]))
  refine own_back (fun t k => XS.istore X.here hx rfl (hb hby at_84) rfl (l' := #[.val (.int i0), .val (.int i1), .val (.int i2), .val (.int i3), .val (.int i4), .val (.int i5), .val (.int i6), .val (.int i7), .val (.int i8), .val (.int i9), .val (.int i10), .val (.int t0), .val (.int ((((i5.toUInt32 >>> ((2 : Int32) &&& 31).toUInt32).toInt32) &&& (2147483647 : Int32)) % i6)), .unset, .unset, .unset, .unset, .unset, .unset, .unset, .unset, .unset, .unset, .unset, .unset, .unset]) rfl k) ?_
  show own_Go _ _ _ _ _ _ _ (T.setTop (mkF m 86 #[.val (.int i0), .val (.int i1), .val (.int i2), .val (.int i3), .val (.int i4), .val (.int i5), .val (.int i6), .val (.int i7), .val (.int i8), .val (.int i9), .val (.int i10), .val (.int t0), .val (.int ((((i5.toUInt32 >>> ((2 : Int32) &&& 31).toUInt32).toInt32) &&& (2147483647 : Int32)) % i6)), .unset, .unset, .unset, .unset, .unset, .unset, .unset, .unset, .unset, .unset, .unset, .unset, .unset] []))
  refine own_back (fun t k => XS.iloadN X.here hx rfl (hb hby at_86) rfl k) ?_
  show own_Go _ _ _ _ _ _ _ (T.setTop (mkF m 87 #[.val (.int i0), .val (.int i1), .val (.int i2), .val (.int i3), .val (.int i4), .val (.int i5), .val (.int i6), .val (.int i7), .val (.int i8), .val (.int i9), .val (.int i10), .val (.int t0), .val (.int ((((i5.toUInt32 >>> ((2 : Int32) &&& 31).toUInt32).toInt32) &&& (2147483647 : Int32)) % i6)), .unset, .unset, .unset, .unset, .unset, .unset, .unset, .unset, .unset, .unset, .unset, .unset, .unset] [(.int i3)]))
  refine own_back (fun t k => X.ldcInt hx hown (mvT hZ (hw _ (List.mem_of_getElem? (i := 0) rfl))) (g := (mkF m 87 #[.val (.int i0), .val (.int i1), .val (.int i2), .val (.int i3), .val (.int i4), .val (.int i5), .val (.int i6), .val (.int i7), .val (.int i8), .val (.int i9), .val (.int i10), .val (.int t0), .val (.int ((((i5.toUInt32 >>> ((2 : Int32) &&& 31).toUInt32).toInt32) &&& (2147483647 : Int32)) % i6)), .unset, .unset, .unset, .unset, .unset, .unset, .unset, .unset, .unset, .unset, .unset, .unset, .unset] [(.int i3)])) rfl (hb hby at_87) _ k) ?_
  show own_Go _ _ _ _ _ _ _ (T.setTop (mkF m 89 #[.val (.int i0), .val (.int i1), .val (.int i2), .val (.int i3), .val (.int i4), .val (.int i5), .val (.int i6), .val (.int i7), .val (.int i8), .val (.int i9), .val (.int i10), .val (.int t0), .val (.int ((((i5.toUInt32 >>> ((2 : Int32) &&& 31).toUInt32).toInt32) &&& (2147483647 : Int32)) % i6)), .unset, .unset, .unset, .unset, .unset, .unset, .unset, .unset, .unset, .unset, .unset, .unset, .unset] [(.int (2147483647 : Int32)), (.int i3)]))
  refine own_back (fun t k => XS.iand X.here hx rfl (hb hby at_89) rfl k) ?_
  show own_Go _ _ _ _ _ _ _ (T.setTop (mkF m 90 #[.val (.int i0), .val (.int i1), .val (.int i2), .val (.int i3), .val (.int i4), .val (.int i5), .val (.int i6), .val (.int i7), .val (.int i8), .val (.int i9), .val (.int i10), .val (.int t0), .val (.int ((((i5.toUInt32 >>> ((2 : Int32) &&& 31).toUInt32).toInt32) &&& (2147483647 : Int32)) % i6)), .unset, .unset, .unset, .unset, .unset, .unset, .unset, .unset, .unset, .unset, .unset, .unset, .unset] [(.int (i3 &&& (2147483647 : Int32)))]))
  refine own_back (fun t k => XS.iload X.here hx rfl (hb hby at_90) rfl k) ?_
  show own_Go _ _ _ _ _ _ _ (T.setTop (mkF m 92 #[.val (.int i0), .val (.int i1), .val (.int i2), .val (.int i3), .val (.int i4), .val (.int i5), .val (.int i6), .val (.int i7), .val (.int i8), .val (.int i9), .val (.int i10), .val (.int t0), .val (.int ((((i5.toUInt32 >>> ((2 : Int32) &&& 31).toUInt32).toInt32) &&& (2147483647 : Int32)) % i6)), .unset, .unset, .unset, .unset, .unset, .unset, .unset, .unset, .unset, .unset, .unset, .unset, .unset] [(.int i6), (.int (i3 &&& (2147483647 : Int32)))]))
  refine own_back (fun t k => XS.iconst X.here hx rfl (hb hby at_92) k) ?_
  show own_Go _ _ _ _ _ _ _ (T.setTop (mkF m 93 #[.val (.int i0), .val (.int i1), .val (.int i2), .val (.int i3), .val (.int i4), .val (.int i5), .val (.int i6), .val (.int i7), .val (.int i8), .val (.int i9), .val (.int i10), .val (.int t0), .val (.int ((((i5.toUInt32 >>> ((2 : Int32) &&& 31).toUInt32).toInt32) &&& (2147483647 : Int32)) % i6)), .unset, .unset, .unset, .unset, .unset, .unset, .unset, .unset, .unset, .unset, .unset, .unset, .unset] [(.int (1 : Int32)), (.int i6), (.int (i3 &&& (2147483647 : Int32)))]))
  refine own_back (fun t k => XS.iadd X.here hx rfl (hb hby at_93) rfl k) ?_
  show own_Go _ _ _ _ _ _ _ (T.setTop (mkF m 94 #[.val (.int i0), .val (.int i1), .val (.int i2), .val (.int i3), .val (.int i4), .val (.int i5), .val (.int i6), .val (.int i7), .val (.int i8), .val (.int i9), .val (.int i10), .val (.int t0), .val (.int ((((i5.toUInt32 >>> ((2 : Int32) &&& 31).toUInt32).toInt32) &&& (2147483647 : Int32)) % i6)), .unset, .unset, .unset, .unset, .unset, .unset, .unset, .unset, .unset, .unset, .unset, .unset, .unset] [(.int (i6 + (1 : Int32))), (.int (i3 &&& (2147483647 : Int32)))]))
  refine own_back (B := T.setTop (mkF m 95 #[.val (.int i0), .val (.int i1), .val (.int i2), .val (.int i3), .val (.int i4), .val (.int i5), .val (.int i6), .val (.int i7), .val (.int i8), .val (.int i9), .val (.int i10), .val (.int t0), .val (.int ((((i5.toUInt32 >>> ((2 : Int32) &&& 31).toUInt32).toInt32) &&& (2147483647 : Int32)) % i6)), .unset, .unset, .unset, .unset, .unset, .unset, .unset, .unset, .unset, .unset, .unset, .unset, .unset] [(.int ((i3 &&& (2147483647 : Int32)) % (i6 + (1 : Int32))))])) (fun t k => XS.irem X.here hx rfl (hb hby at_94) rfl (own_nz2 HR) (by rw [irem_eq_mod]; exact k)) ?_
  show own_Go _ _ _ _ _ _ _ (T.setTop (mkF m 95 #[.val (.int i0), .val (.int i1), .val (.int i2), .val (.int i3), .val (.int i4), .val (.int i5), .val (.int i6), .val (.int i7), .val (.int i8), .val (.int i9), .val (.int i10), .val (.int t0), .val (.int ((((i5.toUInt32 >>> ((2 : Int32) &&& 31).toUInt32).toInt32) &&& (2147483647 : Int32)) % i6)), .unset, .unset, .unset, .unset, .unset, .unset, .unset, .unset, .unset, .unset, .unset, .unset, .unset] [(.int ((i3 &&& (2147483647 : Int32)) % (i6 + (1 : Int32))))]))
  refine own_back (fun t k => XS.istore X.here hx rfl (hb hby at_95) rfl (l' := #[.val (.int i0), .val (.int i1), .val (.int i2), .val (.int i3), .val (.int i4), .val (.int i5), .val (.int i6), .val (.int i7), .val (.int i8), .val (.int i9), .val (.int i10), .val (.int t0), .val (.int ((((i5.toUInt32 >>> ((2 : Int32) &&& 31).toUInt32).toInt32) &&& (2147483647 : Int32)) % i6)), .val (.int ((i3 &&& (2147483647 : Int32)) % (i6 + (1 : Int32)))), .unset, .unset, .unset, .unset, .unset, .unset, .unset, .unset, .unset, .unset, .unset, .unset]) rfl k) ?_
  show own_Go _ _ _ _ _ _ _ (T.setTop (mkF m 97 #[.val (.int i0), .val (.int i1), .val (.int i2), .val (.int i3), .val (.int i4), .val (.int i5), .val (.int i6), .val (.int i7), .val (.int i8), .val (.int i9), .val (.int i10), .val (.int t0), .val (.int ((((i5.toUInt32 >>> ((2 : Int32) &&& 31).toUInt32).toInt32) &&& (2147483647 : Int32)) % i6)), .val (.int ((i3 &&& (2147483647 : Int32)) % (i6 + (1 : Int32)))), .unset, .unset, .unset, .unset, .unset, .unset, .unset, .unset, .unset, .unset, .unset, .unset] []))
  refine own_back (fun t k => XS.iload X.here hx rfl (hb hby at_97) rfl k) ?_
  show own_Go _ _ _ _ _ _ _ (T.setTop (mkF m 99 #[.val (.int i0), .val (.int i1), .val (.int i2), .val (.int i3), .val (.int i4), .val (.int i5), .val (.int i6), .val (.int i7), .val (.int i8), .val (.int i9), .val (.int i10), .val (.int t0), .val (.int ((((i5.toUInt32 >>> ((2 : Int32) &&& 31).toUInt32).toInt32) &&& (2147483647 : Int32)) % i6)), .val (.int ((i3 &&& (2147483647 : Int32)) % (i6 + (1 : Int32)))), .unset, .unset, .unset, .unset, .unset, .unset, .unset, .unset, .unset, .unset, .unset, .unset] [(.int i4)]))
  refine own_back (fun t k => X.ldcInt hx hown (mvT hZ (hw _ (List.mem_of_getElem? (i := 0) rfl))) (g := (mkF m 99 #[.val (.int i0), .val (.int i1), .val (.int i2), .val (.int i3), .val (.int i4), .val (.int i5), .val (.int i6), .val (.int i7), .val (.int i8), .val (.int i9), .val (.int i10), .val (.int t0), .val (.int ((((i5.toUInt32 >>> ((2 : Int32) &&& 31).toUInt32).toInt32) &&& (2147483647 : Int32)) % i6)), .val (.int ((i3 &&& (2147483647 : Int32)) % (i6 + (1 : Int32)))), .unset, .unset, .unset, .unset, .unset, .unset, .unset, .unset, .unset, .unset, .unset, .unset] [(.int i4)])) rfl (hb hby at_99) _ k) ?_
  show own_Go _ _ _ _ _ _ _ (T.setTop (mkF m 101 #[.val (.int i0), .val (.int i1), .val (.int i2), .val (.int i3), .val (.int i4), .val (.int i5), .val (.int i6), .val (.int i7), .val (.int i8), .val (.int i9), .val (.int i10), .val (.int t0), .val (.int ((((i5.toUInt32 >>> ((2 : Int32) &&& 31).toUInt32).toInt32) &&& (2147483647 : Int32)) % i6)), .val (.int ((i3 &&& (2147483647 : Int32)) % (i6 + (1 : Int32)))), .unset, .unset, .unset, .unset, .unset, .unset, .unset, .unset, .unset, .unset, .unset, .unset] [(.int (2147483647 : Int32)), (.int i4)]))
  refine own_back (fun t k => XS.iand X.here hx rfl (hb hby at_101) rfl k) ?_
  show own_Go _ _ _ _ _ _ _ (T.setTop (mkF m 102 #[.val (.int i0), .val (.int i1), .val (.int i2), .val (.int i3), .val (.int i4), .val (.int i5), .val (.int i6), .val (.int i7), .val (.int i8), .val (.int i9), .val (.int i10), .val (.int t0), .val (.int ((((i5.toUInt32 >>> ((2 : Int32) &&& 31).toUInt32).toInt32) &&& (2147483647 : Int32)) % i6)), .val (.int ((i3 &&& (2147483647 : Int32)) % (i6 + (1 : Int32)))), .unset, .unset, .unset, .unset, .unset, .unset, .unset, .unset, .unset, .unset, .unset, .unset] [(.int (i4 &&& (2147483647 : Int32)))]))
  refine own_back (fun t k => XS.iload X.here hx rfl (hb hby at_102) rfl k) ?_
  show own_Go _ _ _ _ _ _ _ (T.setTop (mkF m 104 #[.val (.int i0), .val (.int i1), .val (.int i2), .val (.int i3), .val (.int i4), .val (.int i5), .val (.int i6), .val (.int i7), .val (.int i8), .val (.int i9), .val (.int i10), .val (.int t0), .val (.int ((((i5.toUInt32 >>> ((2 : Int32) &&& 31).toUInt32).toInt32) &&& (2147483647 : Int32)) % i6)), .val (.int ((i3 &&& (2147483647 : Int32)) % (i6 + (1 : Int32)))), .unset, .unset, .unset, .unset, .unset, .unset, .unset, .unset, .unset, .unset, .unset, .unset] [(.int i6), (.int (i4 &&& (2147483647 : Int32)))]))
  refine own_back (fun t k => XS.iconst X.here hx rfl (hb hby at_104) k) ?_
  show own_Go _ _ _ _ _ _ _ (T.setTop (mkF m 105 #[.val (.int i0), .val (.int i1), .val (.int i2), .val (.int i3), .val (.int i4), .val (.int i5), .val (.int i6), .val (.int i7), .val (.int i8), .val (.int i9), .val (.int i10), .val (.int t0), .val (.int ((((i5.toUInt32 >>> ((2 : Int32) &&& 31).toUInt32).toInt32) &&& (2147483647 : Int32)) % i6)), .val (.int ((i3 &&& (2147483647 : Int32)) % (i6 + (1 : Int32)))), .unset, .unset, .unset, .unset, .unset, .unset, .unset, .unset, .unset, .unset, .unset, .unset] [(.int (1 : Int32)), (.int i6), (.int (i4 &&& (2147483647 : Int32)))]))
  refine own_back (fun t k => XS.iadd X.here hx rfl (hb hby at_105) rfl k) ?_
  show own_Go _ _ _ _ _ _ _ (T.setTop (mkF m 106 #[.val (.int i0), .val (.int i1), .val (.int i2), .val (.int i3), .val (.int i4), .val (.int i5), .val (.int i6), .val (.int i7), .val (.int i8), .val (.int i9), .val (.int i10), .val (.int t0), .val (.int ((((i5.toUInt32 >>> ((2 : Int32) &&& 31).toUInt32).toInt32) &&& (2147483647 : Int32)) % i6)), .val (.int ((i3 &&& (2147483647 : Int32)) % (i6 + (1 : Int32)))), .unset, .unset, .unset, .unset, .unset, .unset, .unset, .unset, .unset, .unset, .unset, .unset] [(.int (i6 + (1 : Int32))), (.int (i4 &&& (2147483647 : Int32)))]))
  refine own_back (B := T.setTop (mkF m 107 #[.val (.int i0), .val (.int i1), .val (.int i2), .val (.int i3), .val (.int i4), .val (.int i5), .val (.int i6), .val (.int i7), .val (.int i8), .val (.int i9), .val (.int i10), .val (.int t0), .val (.int ((((i5.toUInt32 >>> ((2 : Int32) &&& 31).toUInt32).toInt32) &&& (2147483647 : Int32)) % i6)), .val (.int ((i3 &&& (2147483647 : Int32)) % (i6 + (1 : Int32)))), .unset, .unset, .unset, .unset, .unset, .unset, .unset, .unset, .unset, .unset, .unset, .unset] [(.int ((i4 &&& (2147483647 : Int32)) % (i6 + (1 : Int32))))])) (fun t k => XS.irem X.here hx rfl (hb hby at_106) rfl (own_nz2 HR) (by rw [irem_eq_mod]; exact k)) ?_
  show own_Go _ _ _ _ _ _ _ (T.setTop (mkF m 107 #[.val (.int i0), .val (.int i1), .val (.int i2), .val (.int i3), .val (.int i4), .val (.int i5), .val (.int i6), .val (.int i7), .val (.int i8), .val (.int i9), .val (.int i10), .val (.int t0), .val (.int ((((i5.toUInt32 >>> ((2 : Int32) &&& 31).toUInt32).toInt32) &&& (2147483647 : Int32)) % i6)), .val (.int ((i3 &&& (2147483647 : Int32)) % (i6 + (1 : Int32)))), .unset, .unset, .unset, .unset, .unset, .unset, .unset, .unset, .unset, .unset, .unset, .unset] [(.int ((i4 &&& (2147483647 : Int32)) % (i6 + (1 : Int32))))]))
  refine own_back (fun t k => XS.istore X.here hx rfl (hb hby at_107) rfl (l' := #[.val (.int i0), .val (.int i1), .val (.int i2), .val (.int i3), .val (.int i4), .val (.int i5), .val (.int i6), .val (.int i7), .val (.int i8), .val (.int i9), .val (.int i10), .val (.int t0), .val (.int ((((i5.toUInt32 >>> ((2 : Int32) &&& 31).toUInt32).toInt32) &&& (2147483647 : Int32)) % i6)), .val (.int ((i3 &&& (2147483647 : Int32)) % (i6 + (1 : Int32)))), .val (.int ((i4 &&& (2147483647 : Int32)) % (i6 + (1 : Int32)))), .unset, .unset, .unset, .unset, .unset, .unset, .unset, .unset, .unset, .unset, .unset]) rfl k) ?_
  show own_Go _ _ _ _ _ _ _ (T.setTop (mkF m 109 #[.val (.int i0), .val (.int i1), .val (.int i2), .val (.int i3), .val (.int i4), .val (.int i5), .val (.int i6), .val (.int i7), .val (.int i8), .val (.int i9), .val (.int i10), .val (.int t0), .val (.int ((((i5.toUInt32 >>> ((2 : Int32) &&& 31).toUInt32).toInt32) &&& (2147483647 : Int32)) % i6)), .val (.int ((i3 &&& (2147483647 : Int32)) % (i6 + (1 : Int32)))), .val (.int ((i4 &&& (2147483647 : Int32)) % (i6 + (1 : Int32)))), .unset, .unset, .unset, .unset, .unset, .unset, .unset, .unset, .unset, .unset, .unset] []))
  obtain ⟨T1, h1, X1, e1, E1, A1, D1, -, st1⟩ := newO X hx hZ hown (hw _ (List.mem_of_getElem? (i := 1) rfl)) (hw _ (List.mem_of_getElem? (i := 2) rfl)) (hw _ (List.mem_of_getElem? (i := 3) rfl)) e0 (g := (mkF m 109 #[.val (.int i0), .val (.int i1), .val (.int i2), .val (.int i3), .val (.int i4), .val (.int i5), .val (.int i6), .val (.int i7), .val (.int i8), .val (.int i9), .val (.int i10), .val (.int t0), .val (.int ((((i5.toUInt32 >>> ((2 : Int32) &&& 31).toUInt32).toInt32) &&& (2147483647 : Int32)) % i6)), .val (.int ((i3 &&& (2147483647 : Int32)) % (i6 + (1 : Int32)))), .val (.int ((i4 &&& (2147483647 : Int32)) % (i6 + (1 : Int32)))), .unset, .unset, .unset, .unset, .unset, .unset, .unset, .unset, .unset, .unset, .unset] [])) rfl (hb hby at_109) (by decide) (by decide)
  obtain ⟨b1, g1⟩ : ∃ z, z = h0.size := ⟨_, rfl⟩
  rw [← g1] at A1 D1 st1
  have F1a : Fld Z h1 b1 "com/example/furl/furl/tree/PositionCounts" "bits" "[J" .null := D1 (Or.inr (hw _ (List.mem_of_getElem? (i := 12) rfl))) (ty := .array .long) (by decide)
  have F1b : Fld Z h1 b1 "com/example/furl/furl/tree/PositionCounts" "words" "[I" .null := D1 (Or.inr (hw _ (List.mem_of_getElem? (i := 15) rfl))) (ty := .array .int) (by decide)
  have q1 : n0 ≤ b1 := Nat.le_trans Z0 (Nat.le_of_eq g1.symm)
  have Z1 : n0 ≤ h1.size := Nat.le_trans Z0 E1.1
  refine own_back (fun t k => st1 t k) ?_
  show own_Go _ _ _ _ _ _ _ (T1.setTop (mkF m 112 #[.val (.int i0), .val (.int i1), .val (.int i2), .val (.int i3), .val (.int i4), .val (.int i5), .val (.int i6), .val (.int i7), .val (.int i8), .val (.int i9), .val (.int i10), .val (.int t0), .val (.int ((((i5.toUInt32 >>> ((2 : Int32) &&& 31).toUInt32).toInt32) &&& (2147483647 : Int32)) % i6)), .val (.int ((i3 &&& (2147483647 : Int32)) % (i6 + (1 : Int32)))), .val (.int ((i4 &&& (2147483647 : Int32)) % (i6 + (1 : Int32)))), .unset, .unset, .unset, .unset, .unset, .unset, .unset, .unset, .unset, .unset, .unset] [(.ref b1)]))
  refine own_back (fun t k => XS.dup X1.here hx rfl (hb hby at_112) rfl rfl k) ?_
  show own_Go _ _ _ _ _ _ _ (T1.setTop (mkF m 113 #[.val (.int i0), .val (.int i1), .val (.int i2), .val (.int i3), .val (.int i4), .val (.int i5), .val (.int i6), .val (.int i7), .val (.int i8), .val (.int i9), .val (.int i10), .val (.int t0), .val (.int ((((i5.toUInt32 >>> ((2 : Int32) &&& 31).toUInt32).toInt32) &&& (2147483647 : Int32)) % i6)), .val (.int ((i3 &&& (2147483647 : Int32)) % (i6 + (1 : Int32)))), .val (.int ((i4 &&& (2147483647 : Int32)) % (i6 + (1 : Int32)))), .unset, .unset, .unset, .unset, .unset, .unset, .unset, .unset, .unset, .unset, .unset] [(.ref b1), (.ref b1)]))
  refine own_back (fun t k => XS.iload X1.here hx rfl (hb hby at_113) rfl k) ?_
  show own_Go _ _ _ _ _ _ _ (T1.setTop (mkF m 115 #[.val (.int i0), .val (.int i1), .val (.int i2), .val (.int i3), .val (.int i4), .val (.int i5), .val (.int i6), .val (.int i7), .val (.int i8), .val (.int i9), .val (.int i10), .val (.int t0), .val (.int ((((i5.toUInt32 >>> ((2 : Int32) &&& 31).toUInt32).toInt32) &&& (2147483647 : Int32)) % i6)), .val (.int ((i3 &&& (2147483647 : Int32)) % (i6 + (1 : Int32)))), .val (.int ((i4 &&& (2147483647 : Int32)) % (i6 + (1 : Int32)))), .unset, .unset, .unset, .unset, .unset, .unset, .unset, .unset, .unset, .unset, .unset] [(.int i6), (.ref b1), (.ref b1)]))
  obtain ⟨_, _, ⟨T2, L2, k2, n2⟩, -, X2, ⟨Lc2, hQ2, l2, y2, z2⟩, st2⟩ := X1.specialBack hx (y := (⟨"com/example/furl/furl/tree/PositionCounts", "<init>", "(I)V"⟩ : MethodName)) rfl hown (mvT hZ (hw _ (List.mem_of_getElem? (i := 4) rfl))) (mvT hZ (hw _ (List.mem_of_getElem? (i := 5) rfl))) (mvT hZ (hw _ (List.mem_of_getElem? (i := 6) rfl))) (by decide) (backOf (W := 1) (rm1 l Z a0 hw [] b1 i6 .null .null ((i6.toNatClampNeg + 63) / 64) h1 n0 Z1 A1 F1a q1 F1b (own_len6 HR.1 (by have := HR.2.2.1; omega)) (by have := HR.2.2.1; omega)) hZ (hw _ (List.mem_of_getElem? (i := 6) rfl)) (hw _ (List.mem_of_getElem? (i := 3) rfl)) (by decide) (by decide)) (g := (mkF m 115 #[.val (.int i0), .val (.int i1), .val (.int i2), .val (.int i3), .val (.int i4), .val (.int i5), .val (.int i6), .val (.int i7), .val (.int i8), .val (.int i9), .val (.int i10), .val (.int t0), .val (.int ((((i5.toUInt32 >>> ((2 : Int32) &&& 31).toUInt32).toInt32) &&& (2147483647 : Int32)) % i6)), .val (.int ((i3 &&& (2147483647 : Int32)) % (i6 + (1 : Int32)))), .val (.int ((i4 &&& (2147483647 : Int32)) % (i6 + (1 : Int32)))), .unset, .unset, .unset, .unset, .unset, .unset, .unset, .unset, .unset, .unset, .unset] [(.int i6), (.ref b1), (.ref b1)])) rfl (by rw [hml]; rfl) (Steps.refl _) (a := b1) (argsL := [(.int i6)]) (rest := [(.ref b1)]) (lenOf own_pd2 rfl) rfl (by show 2 * 0 + _ ≤ _; exact Nat.le_of_eq rfl) (hb hby at_115) (fun _ _ => ⟨rfl, e1, (by decide : 1 + 2 ≤ _), (by decide : 2 + 17 ≤ _)⟩)
  dsimp only [Pt.U, Pt.locs, Pt.cells, Pt.slots] at X2 l2 y2 z2 st2 hQ2
  subst l2 y2 z2
  obtain ⟨rfl, N2q, Z2, aB2, aW2, HP2⟩ := hQ2
  have N2 := Fr.app N N2q
  refine own_back (fun t k => st2.trans k) ?_
  have HR2 := own_rg2_of HR ((i5.toUInt32 >>> ((2 : Int32) &&& 31).toUInt32).toInt32) i3 i4
  show own_Go _ _ _ _ _ _ _ (T2.setTop (mkF m 118 #[.val (.int i0), .val (.int i1), .val (.int i2), .val (.int i3), .val (.int i4), .val (.int i5), .val (.int i6), .val (.int i7), .val (.int i8), .val (.int i9), .val (.int i10), .val (.int t0), .val (.int ((((i5.toUInt32 >>> ((2 : Int32) &&& 31).toUInt32).toInt32) &&& (2147483647 : Int32)) % i6)), .val (.int ((i3 &&& (2147483647 : Int32)) % (i6 + (1 : Int32)))), .val (.int ((i4 &&& (2147483647 : Int32)) % (i6 + (1 : Int32)))), .unset, .unset, .unset, .unset, .unset, .unset, .unset, .unset, .unset, .unset, .unset] [(.ref b1)]))
  refine own_back (fun t k => XS.astore X2.here hx rfl (hb hby at_118) rfl rfl (l' := #[.val (.int i0), .val (.int i1), .val (.int i2), .val (.int i3), .val (.int i4), .val (.int i5), .val (.int i6), .val (.int i7), .val (.int i8), .val (.int i9), .val (.int i10), .val (.int t0), .val (.int ((((i5.toUInt32 >>> ((2 : Int32) &&& 31).toUInt32).toInt32) &&& (2147483647 : Int32)) % i6)), .val (.int ((i3 &&& (2147483647 : Int32)) % (i6 + (1 : Int32)))), .val (.int ((i4 &&& (2147483647 : Int32)) % (i6 + (1 : Int32)))), .val (.ref b1), .unset, .unset, .unset, .unset, .unset, .unset, .unset, .unset, .unset, .unset]) rfl k) ?_
  show own_Go _ _ _ _ _ _ _ (T2.setTop (mkF m 120 #[.val (.int i0), .val (.int i1), .val (.int i2), .val (.int i3), .val (.int i4), .val (.int i5), .val (.int i6), .val (.int i7), .val (.int i8), .val (.int i9), .val (.int i10), .val (.int t0), .val (.int ((((i5.toUInt32 >>> ((2 : Int32) &&& 31).toUInt32).toInt32) &&& (2147483647 : Int32)) % i6)), .val (.int ((i3 &&& (2147483647 : Int32)) % (i6 + (1 : Int32)))), .val (.int ((i4 &&& (2147483647 : Int32)) % (i6 + (1 : Int32)))), .val (.ref b1), .unset, .unset, .unset, .unset, .unset, .unset, .unset, .unset, .unset, .unset] []))
  refine own_back (fun t k => XS.aload X2.here hx rfl (hb hby at_120) rfl rfl k) ?_
  show own_Go _ _ _ _ _ _ _ (T2.setTop (mkF m 122 #[.val (.int i0), .val (.int i1), .val (.int i2), .val (.int i3), .val (.int i4), .val (.int i5), .val (.int i6), .val (.int i7), .val (.int i8), .val (.int i9), .val (.int i10), .val (.int t0), .val (.int ((((i5.toUInt32 >>> ((2 : Int32) &&& 31).toUInt32).toInt32) &&& (2147483647 : Int32)) % i6)), .val (.int ((i3 &&& (2147483647 : Int32)) % (i6 + (1 : Int32)))), .val (.int ((i4 &&& (2147483647 : Int32)) % (i6 + (1 : Int32)))), .val (.ref b1), .unset, .unset, .unset, .unset, .unset, .unset, .unset, .unset, .unset, .unset] [(.ref b1)]))
  refine own_back (fun t k => XS.iload X2.here hx rfl (hb hby at_122) rfl k) ?_
  show own_Go _ _ _ _ _ _ _ (T2.setTop (mkF m 124 #[.val (.int i0), .val (.int i1), .val (.int i2), .val (.int i3), .val (.int i4), .val (.int i5), .val (.int i6), .val (.int i7), .val (.int i8), .val (.int i9), .val (.int i10), .val (.int t0), .val (.int ((((i5.toUInt32 >>> ((2 : Int32) &&& 31).toUInt32).toInt32) &&& (2147483647 : Int32)) % i6)), .val (.int ((i3 &&& (2147483647 : Int32)) % (i6 + (1 : Int32)))), .val (.int ((i4 &&& (2147483647 : Int32)) % (i6 + (1 : Int32)))), .val (.ref b1), .unset, .unset, .unset, .unset, .unset, .unset, .unset, .unset, .unset, .unset] [(.int i7), (.ref b1)]))
  refine own_back (fun t k => XS.iconst X2.here hx rfl (hb hby at_124) k) ?_
  show own_Go _ _ _ _ _ _ _ (T2.setTop (mkF m 125 #[.val (.int i0), .val (.int i1), .val (.int i2), .val (.int i3), .val (.int i4), .val (.int i5), .val (.int i6), .val (.int i7), .val (.int i8), .val (.int i9), .val (.int i10), .val (.int t0), .val (.int ((((i5.toUInt32 >>> ((2 : Int32) &&& 31).toUInt32).toInt32) &&& (2147483647 : Int32)) % i6)), .val (.int ((i3 &&& (2147483647 : Int32)) % (i6 + (1 : Int32)))), .val (.int ((i4 &&& (2147483647 : Int32)) % (i6 + (1 : Int32)))), .val (.ref b1), .unset, .unset, .unset, .unset, .unset, .unset, .unset, .unset, .unset, .unset] [(.int (1 : Int32)), (.int i7), (.ref b1)]))
  obtain ⟨cq3, kq3, q3a, q3b, q3c⟩ := isOf hZ rfl HP2.1
  obtain ⟨_, _, ⟨T3, L3, k3, n3⟩, -, X3, ⟨Lc3, hQ3, l3, y3, z3⟩, st3⟩ := X2.virtualBack hx (y := (⟨"com/example/furl/furl/tree/PositionCounts", "add", "(II)V"⟩ : MethodName)) (z := (⟨"com/example/furl/furl/tree/PositionCounts", "add", "(II)V"⟩ : MethodName)) hown (mvT hZ (hw _ (List.mem_of_getElem? (i := 16) rfl))) (mvT hZ (hw _ (List.mem_of_getElem? (i := 17) rfl))) (notFace_of_selects (args := #[]) (mvT hZ (hw _ (List.mem_of_getElem? (i := 19) rfl)))) (mvT hZ (hw _ (List.mem_of_getElem? (i := 19) rfl))) (mvT hZ (hw _ (List.mem_of_getElem? (i := 18) rfl))) (by decide) (backOf (W := 0) (own_rm3 l Z a0 hw [] b1 i7 (1 : Int32) aB2 aW2 ((i6.toNatClampNeg + 63) / 64) (fun _ => (0 : Int64)) (fun _ => (0 : Int32)) T2.heap n0 Z2 HP2 (Nat.le_trans HR2.1 (by decide)) HR2.2.1) hZ (hw _ (List.mem_of_getElem? (i := 20) rfl)) (hw _ (List.mem_of_getElem? (i := 3) rfl)) (by decide) (by decide)) q3a q3c (g := (mkF m 125 #[.val (.int i0), .val (.int i1), .val (.int i2), .val (.int i3), .val (.int i4), .val (.int i5), .val (.int i6), .val (.int i7), .val (.int i8), .val (.int i9), .val (.int i10), .val (.int t0), .val (.int ((((i5.toUInt32 >>> ((2 : Int32) &&& 31).toUInt32).toInt32) &&& (2147483647 : Int32)) % i6)), .val (.int ((i3 &&& (2147483647 : Int32)) % (i6 + (1 : Int32)))), .val (.int ((i4 &&& (2147483647 : Int32)) % (i6 + (1 : Int32)))), .val (.ref b1), .unset, .unset, .unset, .unset, .unset, .unset, .unset, .unset, .unset, .unset] [(.int (1 : Int32)), (.int i7), (.ref b1)])) rfl (by rw [hml]; rfl) (Steps.refl _) (argsL := [(.int i7), (.int (1 : Int32))]) (rest := []) (lenOf own_pd3 rfl) rfl (by show 2 * 0 + _ ≤ _; exact Nat.le_of_eq rfl) (hb hby at_125) (fun _ _ => ⟨rfl, rfl, (by decide : 3 + 0 ≤ _), (by decide : 19 + 0 ≤ _)⟩)
  dsimp only [Pt.U, Pt.locs, Pt.cells, Pt.slots] at X3 l3 y3 z3 st3 hQ3
  subst l3 y3 z3
  obtain ⟨rfl, N3q, Z3, HP3⟩ := hQ3
  have N3 := Fr.app N2 N3q
  refine own_back (fun t k => st3.trans k) ?_
  show own_Go _ _ _ _ _ _ _ (T3.setTop (mkF m 128 #[.val (.int i0), .val (.int i1), .val (.int i2), .val (.int i3), .val (.int i4), .val (.int i5), .val (.int i6), .val (.int i7), .val (.int i8), .val (.int i9), .val (.int i10), .val (.int t0), .val (.int ((((i5.toUInt32 >>> ((2 : Int32) &&& 31).toUInt32).toInt32) &&& (2147483647 : Int32)) % i6)), .val (.int ((i3 &&& (2147483647 : Int32)) % (i6 + (1 : Int32)))), .val (.int ((i4 &&& (2147483647 : Int32)) % (i6 + (1 : Int32)))), .val (.ref b1), .unset, .unset, .unset, .unset, .unset, .unset, .unset, .unset, .unset, .unset] []))
  refine own_back (fun t k => XS.iload X3.here hx rfl (hb hby at_128) rfl k) ?_
  show own_Go _ _ _ _ _ _ _ (T3.setTop (mkF m 130 #[.val (.int i0), .val (.int i1), .val (.int i2), .val (.int i3), .val (.int i4), .val (.int i5), .val (.int i6), .val (.int i7), .val (.int i8), .val (.int i9), .val (.int i10), .val (.int t0), .val (.int ((((i5.toUInt32 >>> ((2 : Int32) &&& 31).toUInt32).toInt32) &&& (2147483647 : Int32)) % i6)), .val (.int ((i3 &&& (2147483647 : Int32)) % (i6 + (1 : Int32)))), .val (.int ((i4 &&& (2147483647 : Int32)) % (i6 + (1 : Int32)))), .val (.ref b1), .unset, .unset, .unset, .unset, .unset, .unset, .unset, .unset, .unset, .unset] [(.int i9)]))
  by_cases hc130 : i9 = (0 : Int32)
  · rw [if_pos hc130] at hR
    refine own_back (fun t k => XS.ifYes X3.here hx rfl (pc0 := 130) (pc' := 141) rfl (hb hby at_130) rfl ((if0 _ _).trans (teq hc130).1) (by decide) (by decide) k) ?_
    show own_Go _ _ _ _ _ _ _ (T3.setTop (mkF m 141 #[.val (.int i0), .val (.int i1), .val (.int i2), .val (.int i3), .val (.int i4), .val (.int i5), .val (.int i6), .val (.int i7), .val (.int i8), .val (.int i9), .val (.int i10), .val (.int t0), .val (.int ((((i5.toUInt32 >>> ((2 : Int32) &&& 31).toUInt32).toInt32) &&& (2147483647 : Int32)) % i6)), .val (.int ((i3 &&& (2147483647 : Int32)) % (i6 + (1 : Int32)))), .val (.int ((i4 &&& (2147483647 : Int32)) % (i6 + (1 : Int32)))), .val (.ref b1), .unset, .unset, .unset, .unset, .unset, .unset, .unset, .unset, .unset, .unset] []))
    exact own_l0_141 X3 hx hZ hw hby hml hown hret hlk rfl N3 Z3 aB2 aW2 ((i6.toNatClampNeg + 63) / 64) (own_tog (fun _ => (0 : Int64)) i7) (own_cnt (fun _ => (0 : Int32)) i7 (1 : Int32)) i0 i1 i2 i3 i4 i5 i6 i7 i8 i9 i10 t0 ((((i5.toUInt32 >>> ((2 : Int32) &&& 31).toUInt32).toInt32) &&& (2147483647 : Int32)) % i6) ((i3 &&& (2147483647 : Int32)) % (i6 + (1 : Int32))) ((i4 &&& (2147483647 : Int32)) % (i6 + (1 : Int32))) b1 hR HP3 HR2
  · rw [if_neg hc130] at hR
    refine own_back (fun t k => XS.ifNo X3.here hx rfl (hb hby at_130) rfl ((if0 _ _).trans (feq hc130).1) k) ?_
    show own_Go _ _ _ _ _ _ _ (T3.setTop (mkF m 133 #[.val (.int i0), .val (.int i1), .val (.int i2), .val (.int i3), .val (.int i4), .val (.int i5), .val (.int i6), .val (.int i7), .val (.int i8), .val (.int i9), .val (.int i10), .val (.int t0), .val (.int ((((i5.toUInt32 >>> ((2 : Int32) &&& 31).toUInt32).toInt32) &&& (2147483647 : Int32)) % i6)), .val (.int ((i3 &&& (2147483647 : Int32)) % (i6 + (1 : Int32)))), .val (.int ((i4 &&& (2147483647 : Int32)) % (i6 + (1 : Int32)))), .val (.ref b1), .unset, .unset, .unset, .unset, .unset, .unset, .unset, .unset, .unset, .unset] []))
    refine own_back (fun t k => XS.aload X3.here hx rfl (hb hby at_133) rfl rfl k) ?_
    show own_Go _ _ _ _ _ _ _ (T3.setTop (mkF m 135 #[.val (.int i0), .val (.int i1), .val (.int i2), .val (.int i3), .val (.int i4), .val (.int i5), .val (.int i6), .val (.int i7), .val (.int i8), .val (.int i9), .val (.int i10), .val (.int t0), .val (.int ((((i5.toUInt32 >>> ((2 : Int32) &&& 31).toUInt32).toInt32) &&& (2147483647 : Int32)) % i6)), .val (.int ((i3 &&& (2147483647 : Int32)) % (i6 + (1 : Int32)))), .val (.int ((i4 &&& (2147483647 : Int32)) % (i6 + (1 : Int32)))), .val (.ref b1), .unset, .unset, .unset, .unset, .unset, .unset, .unset, .unset, .unset, .unset] [(.ref b1)]))
    refine own_back (fun t k => XS.iload X3.here hx rfl (hb hby at_135) rfl k) ?_
    show own_Go _ _ _ _ _ _ _ (T3.setTop (mkF m 137 #[.val (.int i0), .val (.int i1), .val (.int i2), .val (.int i3), .val (.int i4), .val (.int i5), .val (.int i6), .val (.int i7), .val (.int i8), .val (.int i9), .val (.int i10), .val (.int t0), .val (.int ((((i5.toUInt32 >>> ((2 : Int32) &&& 31).toUInt32).toInt32) &&& (2147483647 : Int32)) % i6)), .val (.int ((i3 &&& (2147483647 : Int32)) % (i6 + (1 : Int32)))), .val (.int ((i4 &&& (2147483647 : Int32)) % (i6 + (1 : Int32)))), .val (.ref b1), .unset, .unset, .unset, .unset, .unset, .unset, .unset, .unset, .unset, .unset] [(.int i8), (.ref b1)]))
    refine own_back (fun t k => XS.iconst X3.here hx rfl (hb hby at_137) k) ?_
    show own_Go _ _ _ _ _ _ _ (T3.setTop (mkF m 138 #[.val (.int i0), .val (.int i1), .val (.int i2), .val (.int i3), .val (.int i4), .val (.int i5), .val (.int i6), .val (.int i7), .val (.int i8), .val (.int i9), .val (.int i10), .val (.int t0), .val (.int ((((i5.toUInt32 >>> ((2 : Int32) &&& 31).toUInt32).toInt32) &&& (2147483647 : Int32)) % i6)), .val (.int ((i3 &&& (2147483647 : Int32)) % (i6 + (1 : Int32)))), .val (.int ((i4 &&& (2147483647 : Int32)) % (i6 + (1 : Int32)))), .val (.ref b1), .unset, .unset, .unset, .unset, .unset, .unset, .unset, .unset, .unset, .unset] [(.int (1 : Int32)), (.int i8), (.ref b1)]))
    obtain ⟨cq4, kq4, q4a, q4b, q4c⟩ := isOf hZ rfl HP3.1
    obtain ⟨_, _, ⟨T4, L4, k4, n4⟩, -, X4, ⟨Lc4, hQ4, l4, y4, z4⟩, st4⟩ := X3.virtualBack hx (y := (⟨"com/example/furl/furl/tree/PositionCounts", "add", "(II)V"⟩ : MethodName)) (z := (⟨"com/example/furl/furl/tree/PositionCounts", "add", "(II)V"⟩ : MethodName)) hown (mvT hZ (hw _ (List.mem_of_getElem? (i := 16) rfl))) (mvT hZ (hw _ (List.mem_of_getElem? (i := 17) rfl))) (notFace_of_selects (args := #[]) (mvT hZ (hw _ (List.mem_of_getElem? (i := 19) rfl)))) (mvT hZ (hw _ (List.mem_of_getElem? (i := 19) rfl))) (mvT hZ (hw _ (List.mem_of_getElem? (i := 18) rfl))) (by decide) (backOf (W := 0) (own_rm3 l Z a0 hw [] b1 i8 (1 : Int32) aB2 aW2 ((i6.toNatClampNeg + 63) / 64) (own_tog (fun _ => (0 : Int64)) i7) (own_cnt (fun _ => (0 : Int32)) i7 (1 : Int32)) T3.heap n0 Z3 HP3 (Nat.le_trans HR2.1 (by decide)) HR2.2.2.1) hZ (hw _ (List.mem_of_getElem? (i := 20) rfl)) (hw _ (List.mem_of_getElem? (i := 3) rfl)) (by decide) (by decide)) q4a q4c (g := (mkF m 138 #[.val (.int i0), .val (.int i1), .val (.int i2), .val (.int i3), .val (.int i4), .val (.int i5), .val (.int i6), .val (.int i7), .val (.int i8), .val (.int i9), .val (.int i10), .val (.int t0), .val (.int ((((i5.toUInt32 >>> ((2 : Int32) &&& 31).toUInt32).toInt32) &&& (2147483647 : Int32)) % i6)), .val (.int ((i3 &&& (2147483647 : Int32)) % (i6 + (1 : Int32)))), .val (.int ((i4 &&& (2147483647 : Int32)) % (i6 + (1 : Int32)))), .val (.ref b1), .unset, .unset, .unset, .unset, .unset, .unset, .unset, .unset, .unset, .unset] [(.int (1 : Int32)), (.int i8), (.ref b1)])) rfl (by rw [hml]; rfl) (Steps.refl _) (argsL := [(.int i8), (.int (1 : Int32))]) (rest := []) (lenOf own_pd3 rfl) rfl (by show 2 * 0 + _ ≤ _; exact Nat.le_of_eq rfl) (hb hby at_138) (fun _ _ => ⟨rfl, rfl, (by decide : 3 + 0 ≤ _), (by decide : 19 + 0 ≤ _)⟩)
    dsimp only [Pt.U, Pt.locs, Pt.cells, Pt.slots] at X4 l4 y4 z4 st4 hQ4
    subst l4 y4 z4
    obtain ⟨rfl, N4q, Z4, HP4⟩ := hQ4
    have N4 := Fr.app N3 N4q
    refine own_back (fun t k => st4.trans k) ?_
    show own_Go _ _ _ _ _ _ _ (T4.setTop (mkF m 141 #[.val (.int i0), .val (.int i1), .val (.int i2), .val (.int i3), .val (.int i4), .val (.int i5), .val (.int i6), .val (.int i7), .val (.int i8), .val (.int i9), .val (.int i10), .val (.int t0), .val (.int ((((i5.toUInt32 >>> ((2 : Int32) &&& 31).toUInt32).toInt32) &&& (2147483647 : Int32)) % i6)), .val (.int ((i3 &&& (2147483647 : Int32)) % (i6 + (1 : Int32)))), .val (.int ((i4 &&& (2147483647 : Int32)) % (i6 + (1 : Int32)))), .val (.ref b1), .unset, .unset, .unset, .unset, .unset, .unset, .unset, .unset, .unset, .unset] []))
    exact own_l0_141 X4 hx hZ hw hby hml hown hret hlk rfl N4 Z4 aB2 aW2 ((i6.toNatClampNeg + 63) / 64) (own_tog (own_tog (fun _ => (0 : Int64)) i7) i8) (own_cnt (own_cnt (fun _ => (0 : Int32)) i7 (1 : Int32)) i8 (1 : Int32)) i0 i1 i2 i3 i4 i5 i6 i7 i8 i9 i10 t0 ((((i5.toUInt32 >>> ((2 : Int32) &&& 31).toUInt32).toInt32) &&& (2147483647 : Int32)) % i6) ((i3 &&& (2147483647 : Int32)) % (i6 + (1 : Int32))) ((i4 &&& (2147483647 : Int32)) % (i6 + (1 : Int32))) b1 hR HP4 HR2
set_option maxRecDepth 65536 in
set_option maxHeartbeats 4000000 in
theorem own_l0_71 {p : Program} {l : Launch} {e : Env} {s : State} {m : MethodId} {args : Array Value} {below : List Frame} {meth : Method} {c : Code} {T : State} {locs : List Loc} {Z : State} {a0 : Array Value} {h0 : Heap} {n0 : Nat}
    (X : Stand p l e room_1 s m args below meth c T locs 0 0) (hx : p.tables.exec = Jvm.exec) (hZ : Z.Warmed39 s.vm) (hw : ∀ d ∈ tables_1, d.before a0 Z = true) (hby : c.code = code) (hml : c.maxLocals = 26) (hown : s.vm.findClass "com/example/furl/furl/tree/PositionCountsAddPinLaw" = some m.cls) (hret : meth.sig.returnType = some .boolean) (hlk : meth.locks = false) (e0 : T.heap = h0) (N : Fr n0 locs) (Z0 : n0 ≤ h0.size)
    (i0 : Int32) (i1 : Int32) (i2 : Int32) (i3 : Int32) (i4 : Int32) (i5 : Int32) (i6 : Int32) (i7 : Int32) (i8 : Int32) (i9 : Int32) (i10 : Int32) {r : Int32} (hR : r = own_f0_71 i0 i1 i2 i3 i4 i5 i6 i7 i8 i9 i10) (HR : own_rg1 i6 i7 i8) : own_Go p e below s room_1.cells room_1.slots (own_QG (.int r) h0 n0) (T.setTop (mkF m 71 #[.val (.int i0), .val (.int i1), .val (.int i2), .val (.int i3), .val (.int i4), .val (.int i5), .val (.int i6), .val (.int i7), .val (.int i8), .val (.int i9), .val (.int i10), .unset, .unset, .unset, .unset, .unset, .unset, .unset, .unset, .unset, .unset, .unset, .unset, .unset, .unset, .unset] [])) := by
  unfold own_f0_71 at hR
  refine own_back (fun t k => XS.iconst X.here hx rfl (hb hby at_71) k) ?_
  show own_Go _ _ _ _ _ _ _ (T.setTop (mkF m 72 #[.val (.int i0), .val (.int i1), .val (.int i2), .val (.int i3), .val (.int i4), .val (.int i5), .val (.int i6), .val (.int i7), .val (.int i8), .val (.int i9), .val (.int i10), .unset, .unset, .unset, .unset, .unset, .unset, .unset, .unset, .unset, .unset, .unset, .unset, .unset, .unset, .unset] [(.int (0 : Int32))]))
  exact own_l0_72 X hx hZ hw hby hml hown hret hlk e0 N Z0 i0 i1 i2 i3 i4 i5 i6 i7 i8 i9 i10 (0 : Int32) hR (by first | decide | assumption)
set_option maxRecDepth 65536 in
set_option maxHeartbeats 4000000 in
theorem own_l0_53 {p : Program} {l : Launch} {e : Env} {s : State} {m : MethodId} {args : Array Value} {below : List Frame} {meth : Method} {c : Code} {T : State} {locs : List Loc} {Z : State} {a0 : Array Value} {h0 : Heap} {n0 : Nat}
    (X : Stand p l e room_1 s m args below meth c T locs 0 0) (hx : p.tables.exec = Jvm.exec) (hZ : Z.Warmed39 s.vm) (hw : ∀ d ∈ tables_1, d.before a0 Z = true) (hby : c.code = code) (hml : c.maxLocals = 26) (hown : s.vm.findClass "com/example/furl/furl/tree/PositionCountsAddPinLaw" = some m.cls) (hret : meth.sig.returnType = some .boolean) (hlk : meth.locks = false) (e0 : T.heap = h0) (N : Fr n0 locs) (Z0 : n0 ≤ h0.size)
    (i0 : Int32) (i1 : Int32) (i2 : Int32) (i3 : Int32) (i4 : Int32) (i5 : Int32) (i6 : Int32) (i7 : Int32) (i8 : Int32) (i9 : Int32) (t0 : Int32) {r : Int32} (hR : r = own_f0_53 i0 i1 i2 i3 i4 i5 i6 i7 i8 i9 t0) (HR : own_rg1 i6 i7 i8) : own_Go p e below s room_1.cells room_1.slots (own_QG (.int r) h0 n0) (T.setTop (mkF m 53 #[.val (.int i0), .val (.int i1), .val (.int i2), .val (.int i3), .val (.int i4), .val (.int i5), .val (.int i6), .val (.int i7), .val (.int i8), .val (.int i9), .unset, .unset, .unset, .unset, .unset, .unset, .unset, .unset, .unset, .unset, .unset, .unset, .unset, .unset, .unset, .unset] [(.int t0)])) := by
  unfold own_f0_53 at hR
  refine own_back (fun t k => XS.istore X.here hx rfl (hb hby at_53) rfl (l' := #[.val (.int i0), .val (.int i1), .val (.int i2), .val (.int i3), .val (.int i4), .val (.int i5), .val (.int i6), .val (.int i7), .val (.int i8), .val (.int i9), .val (.int t0), .unset, .unset, .unset, .unset, .unset, .unset, .unset, .unset, .unset, .unset, .unset, .unset, .unset, .unset, .unset]) rfl k) ?_
  show own_Go _ _ _ _ _ _ _ (T.setTop (mkF m 55 #[.val (.int i0), .val (.int i1), .val (.int i2), .val (.int i3), .val (.int i4), .val (.int i5), .val (.int i6), .val (.int i7), .val (.int i8), .val (.int i9), .val (.int t0), .unset, .unset, .unset, .unset, .unset, .unset, .unset, .unset, .unset, .unset, .unset, .unset, .unset, .unset, .unset] []))
  refine own_back (fun t k => XS.iload X.here hx rfl (hb hby at_55) rfl k) ?_
  show own_Go _ _ _ _ _ _ _ (T.setTop (mkF m 57 #[.val (.int i0), .val (.int i1), .val (.int i2), .val (.int i3), .val (.int i4), .val (.int i5), .val (.int i6), .val (.int i7), .val (.int i8), .val (.int i9), .val (.int t0), .unset, .unset, .unset, .unset, .unset, .unset, .unset, .unset, .unset, .unset, .unset, .unset, .unset, .unset, .unset] [(.int i9)]))
  by_cases hc57 : i9 = (0 : Int32)
  · rw [if_pos hc57] at hR
    refine own_back (fun t k => XS.ifYes X.here hx rfl (pc0 := 57) (pc' := 71) rfl (hb hby at_57) rfl ((if0 _ _).trans (teq hc57).1) (by decide) (by decide) k) ?_
    show own_Go _ _ _ _ _ _ _ (T.setTop (mkF m 71 #[.val (.int i0), .val (.int i1), .val (.int i2), .val (.int i3), .val (.int i4), .val (.int i5), .val (.int i6), .val (.int i7), .val (.int i8), .val (.int i9), .val (.int t0), .unset, .unset, .unset, .unset, .unset, .unset, .unset, .unset, .unset, .unset, .unset, .unset, .unset, .unset, .unset] []))
    exact own_l0_71 X hx hZ hw hby hml hown hret hlk e0 N Z0 i0 i1 i2 i3 i4 i5 i6 i7 i8 i9 t0 hR (by first | decide | assumption)
  · rw [if_neg hc57] at hR
    refine own_back (fun t k => XS.ifNo X.here hx rfl (hb hby at_57) rfl ((if0 _ _).trans (feq hc57).1) k) ?_
    show own_Go _ _ _ _ _ _ _ (T.setTop (mkF m 60 #[.val (.int i0), .val (.int i1), .val (.int i2), .val (.int i3), .val (.int i4), .val (.int i5), .val (.int i6), .val (.int i7), .val (.int i8), .val (.int i9), .val (.int t0), .unset, .unset, .unset, .unset, .unset, .unset, .unset, .unset, .unset, .unset, .unset, .unset, .unset, .unset, .unset] []))
    refine own_back (fun t k => XS.iload X.here hx rfl (hb hby at_60) rfl k) ?_
    show own_Go _ _ _ _ _ _ _ (T.setTop (mkF m 62 #[.val (.int i0), .val (.int i1), .val (.int i2), .val (.int i3), .val (.int i4), .val (.int i5), .val (.int i6), .val (.int i7), .val (.int i8), .val (.int i9), .val (.int t0), .unset, .unset, .unset, .unset, .unset, .unset, .unset, .unset, .unset, .unset, .unset, .unset, .unset, .unset, .unset] [(.int i5)]))
    refine own_back (fun t k => XS.iconst X.here hx rfl (hb hby at_62) k) ?_
    show own_Go _ _ _ _ _ _ _ (T.setTop (mkF m 63 #[.val (.int i0), .val (.int i1), .val (.int i2), .val (.int i3), .val (.int i4), .val (.int i5), .val (.int i6), .val (.int i7), .val (.int i8), .val (.int i9), .val (.int t0), .unset, .unset, .unset, .unset, .unset, .unset, .unset, .unset, .unset, .unset, .unset, .unset, .unset, .unset, .unset] [(.int (2 : Int32)), (.int i5)]))
    refine own_back (fun t k => XS.iand X.here hx rfl (hb hby at_63) rfl k) ?_
    show own_Go _ _ _ _ _ _ _ (T.setTop (mkF m 64 #[.val (.int i0), .val (.int i1), .val (.int i2), .val (.int i3), .val (.int i4), .val (.int i5), .val (.int i6), .val (.int i7), .val (.int i8), .val (.int i9), .val (.int t0), .unset, .unset, .unset, .unset, .unset, .unset, .unset, .unset, .unset, .unset, .unset, .unset, .unset, .unset, .unset] [(.int (i5 &&& (2 : Int32)))]))
    by_cases hc64 : (i5 &&& (2 : Int32)) = (0 : Int32)
    · rw [if_pos hc64] at hR
      refine own_back (fun t k => XS.ifYes X.here hx rfl (pc0 := 64) (pc' := 71) rfl (hb hby at_64) rfl ((if0 _ _).trans (teq hc64).1) (by decide) (by decide) k) ?_
      show own_Go _ _ _ _ _ _ _ (T.setTop (mkF m 71 #[.val (.int i0), .val (.int i1), .val (.int i2), .val (.int i3), .val (.int i4), .val (.int i5), .val (.int i6), .val (.int i7), .val (.int i8), .val (.int i9), .val (.int t0), .unset, .unset, .unset, .unset, .unset, .unset, .unset, .unset, .unset, .unset, .unset, .unset, .unset, .unset, .unset] []))
      exact own_l0_71 X hx hZ hw hby hml hown hret hlk e0 N Z0 i0 i1 i2 i3 i4 i5 i6 i7 i8 i9 t0 hR (by first | decide | assumption)
    · rw [if_neg hc64] at hR
      refine own_back (fun t k => XS.ifNo X.here hx rfl (hb hby at_64) rfl ((if0 _ _).trans (feq hc64).1) k) ?_
      show own_Go _ _ _ _ _ _ _ (T.setTop (mkF m 67 #[.val (.int i0), .val (.int i1), .val (.int i2), .val (.int i3), .val (.int i4), .val (.int i5), .val (.int i6), .val (.int i7), .val (.int i8), .val (.int i9), .val (.int t0), .unset, .unset, .unset, .unset, .unset, .unset, .unset, .unset, .unset, .unset, .unset, .unset, .unset, .unset, .unset] []))
      refine own_back (fun t k => XS.iconst X.here hx rfl (hb hby at_67) k) ?_
      show own_Go _ _ _ _ _ _ _ (T.setTop (mkF m 68 #[.val (.int i0), .val (.int i1), .val (.int i2), .val (.int i3), .val (.int i4), .val (.int i5), .val (.int i6), .val (.int i7), .val (.int i8), .val (.int i9), .val (.int t0), .unset, .unset, .unset, .unset, .unset, .unset, .unset, .unset, .unset, .unset, .unset, .unset, .unset, .unset, .unset] [(.int (1 : Int32))]))
      refine own_back (fun t k => XS.goto X.here hx rfl (pc0 := 68) (pc' := 72) rfl (hb hby at_68) (by decide) (by decide) k) ?_
      show own_Go _ _ _ _ _ _ _ (T.setTop (mkF m 72 #[.val (.int i0), .val (.int i1), .val (.int i2), .val (.int i3), .val (.int i4), .val (.int i5), .val (.int i6), .val (.int i7), .val (.int i8), .val (.int i9), .val (.int t0), .unset, .unset, .unset, .unset, .unset, .unset, .unset, .unset, .unset, .unset, .unset, .unset, .unset, .unset, .unset] [(.int (1 : Int32))]))
      exact own_l0_72 X hx hZ hw hby hml hown hret hlk e0 N Z0 i0 i1 i2 i3 i4 i5 i6 i7 i8 i9 t0 (1 : Int32) hR (by first | decide | assumption)
set_option maxRecDepth 65536 in
set_option maxHeartbeats 4000000 in
theorem own_l0_39 {p : Program} {l : Launch} {e : Env} {s : State} {m : MethodId} {args : Array Value} {below : List Frame} {meth : Method} {c : Code} {T : State} {locs : List Loc} {Z : State} {a0 : Array Value} {h0 : Heap} {n0 : Nat}
    (X : Stand p l e room_1 s m args below meth c T locs 0 0) (hx : p.tables.exec = Jvm.exec) (hZ : Z.Warmed39 s.vm) (hw : ∀ d ∈ tables_1, d.before a0 Z = true) (hby : c.code = code) (hml : c.maxLocals = 26) (hown : s.vm.findClass "com/example/furl/furl/tree/PositionCountsAddPinLaw" = some m.cls) (hret : meth.sig.returnType = some .boolean) (hlk : meth.locks = false) (e0 : T.heap = h0) (N : Fr n0 locs) (Z0 : n0 ≤ h0.size)
    (i0 : Int32) (i1 : Int32) (i2 : Int32) (i3 : Int32) (i4 : Int32) (i5 : Int32) (i6 : Int32) (i7 : Int32) (i8 : Int32) (t0 : Int32) {r : Int32} (hR : r = own_f0_39 i0 i1 i2 i3 i4 i5 i6 i7 i8 t0) (HR : own_rg1 i6 i7 i8) : own_Go p e below s room_1.cells room_1.slots (own_QG (.int r) h0 n0) (T.setTop (mkF m 39 #[.val (.int i0), .val (.int i1), .val (.int i2), .val (.int i3), .val (.int i4), .val (.int i5), .val (.int i6), .val (.int i7), .val (.int i8), .unset, .unset, .unset, .unset, .unset, .unset, .unset, .unset, .unset, .unset, .unset, .unset, .unset, .unset, .unset, .unset, .unset] [(.int t0)])) := by
  unfold own_f0_39 at hR
  refine own_back (fun t k => XS.istore X.here hx rfl (hb hby at_39) rfl (l' := #[.val (.int i0), .val (.int i1), .val (.int i2), .val (.int i3), .val (.int i4), .val (.int i5), .val (.int i6), .val (.int i7), .val (.int i8), .val (.int t0), .unset, .unset, .unset, .unset, .unset, .unset, .unset, .unset, .unset, .unset, .unset, .unset, .unset, .unset, .unset, .unset]) rfl k) ?_
  show own_Go _ _ _ _ _ _ _ (T.setTop (mkF m 41 #[.val (.int i0), .val (.int i1), .val (.int i2), .val (.int i3), .val (.int i4), .val (.int i5), .val (.int i6), .val (.int i7), .val (.int i8), .val (.int t0), .unset, .unset, .unset, .unset, .unset, .unset, .unset, .unset, .unset, .unset, .unset, .unset, .unset, .unset, .unset, .unset] []))
  refine own_back (fun t k => XS.iload X.here hx rfl (hb hby at_41) rfl k) ?_
  show own_Go _ _ _ _ _ _ _ (T.setTop (mkF m 43 #[.val (.int i0), .val (.int i1), .val (.int i2), .val (.int i3), .val (.int i4), .val (.int i5), .val (.int i6), .val (.int i7), .val (.int i8), .val (.int t0), .unset, .unset, .unset, .unset, .unset, .unset, .unset, .unset, .unset, .unset, .unset, .unset, .unset, .unset, .unset, .unset] [(.int i5)]))
  refine own_back (fun t k => XS.iconst X.here hx rfl (hb hby at_43) k) ?_
  show own_Go _ _ _ _ _ _ _ (T.setTop (mkF m 44 #[.val (.int i0), .val (.int i1), .val (.int i2), .val (.int i3), .val (.int i4), .val (.int i5), .val (.int i6), .val (.int i7), .val (.int i8), .val (.int t0), .unset, .unset, .unset, .unset, .unset, .unset, .unset, .unset, .unset, .unset, .unset, .unset, .unset, .unset, .unset, .unset] [(.int (1 : Int32)), (.int i5)]))
  refine own_back (fun t k => XS.iand X.here hx rfl (hb hby at_44) rfl k) ?_
  show own_Go _ _ _ _ _ _ _ (T.setTop (mkF m 45 #[.val (.int i0), .val (.int i1), .val (.int i2), .val (.int i3), .val (.int i4), .val (.int i5), .val (.int i6), .val (.int i7), .val (.int i8), .val (.int t0), .unset, .unset, .unset, .unset, .unset, .unset, .unset, .unset, .unset, .unset, .unset, .unset, .unset, .unset, .unset, .unset] [(.int (i5 &&& (1 : Int32)))]))
  by_cases hc45 : (i5 &&& (1 : Int32)) = (0 : Int32)
  · rw [if_pos hc45] at hR
    refine own_back (fun t k => XS.ifYes X.here hx rfl (pc0 := 45) (pc' := 52) rfl (hb hby at_45) rfl ((if0 _ _).trans (teq hc45).1) (by decide) (by decide) k) ?_
    show own_Go _ _ _ _ _ _ _ (T.setTop (mkF m 52 #[.val (.int i0), .val (.int i1), .val (.int i2), .val (.int i3), .val (.int i4), .val (.int i5), .val (.int i6), .val (.int i7), .val (.int i8), .val (.int t0), .unset, .unset, .unset, .unset, .unset, .unset, .unset, .unset, .unset, .unset, .unset, .unset, .unset, .unset, .unset, .unset] []))
    refine own_back (fun t k => XS.iconst X.here hx rfl (hb hby at_52) k) ?_
    show own_Go _ _ _ _ _ _ _ (T.setTop (mkF m 53 #[.val (.int i0), .val (.int i1), .val (.int i2), .val (.int i3), .val (.int i4), .val (.int i5), .val (.int i6), .val (.int i7), .val (.int i8), .val (.int t0), .unset, .unset, .unset, .unset, .unset, .unset, .unset, .unset, .unset, .unset, .unset, .unset, .unset, .unset, .unset, .unset] [(.int (0 : Int32))]))
    exact own_l0_53 X hx hZ hw hby hml hown hret hlk e0 N Z0 i0 i1 i2 i3 i4 i5 i6 i7 i8 t0 (0 : Int32) hR (by first | decide | assumption)
  · rw [if_neg hc45] at hR
    refine own_back (fun t k => XS.ifNo X.here hx rfl (hb hby at_45) rfl ((if0 _ _).trans (feq hc45).1) k) ?_
    show own_Go _ _ _ _ _ _ _ (T.setTop (mkF m 48 #[.val (.int i0), .val (.int i1), .val (.int i2), .val (.int i3), .val (.int i4), .val (.int i5), .val (.int i6), .val (.int i7), .val (.int i8), .val (.int t0), .unset, .unset, .unset, .unset, .unset, .unset, .unset, .unset, .unset, .unset, .unset, .unset, .unset, .unset, .unset, .unset] []))
    refine own_back (fun t k => XS.iconst X.here hx rfl (hb hby at_48) k) ?_
    show own_Go _ _ _ _ _ _ _ (T.setTop (mkF m 49 #[.val (.int i0), .val (.int i1), .val (.int i2), .val (.int i3), .val (.int i4), .val (.int i5), .val (.int i6), .val (.int i7), .val (.int i8), .val (.int t0), .unset, .unset, .unset, .unset, .unset, .unset, .unset, .unset, .unset, .unset, .unset, .unset, .unset, .unset, .unset, .unset] [(.int (1 : Int32))]))
    refine own_back (fun t k => XS.goto X.here hx rfl (pc0 := 49) (pc' := 53) rfl (hb hby at_49) (by decide) (by decide) k) ?_
    show own_Go _ _ _ _ _ _ _ (T.setTop (mkF m 53 #[.val (.int i0), .val (.int i1), .val (.int i2), .val (.int i3), .val (.int i4), .val (.int i5), .val (.int i6), .val (.int i7), .val (.int i8), .val (.int t0), .unset, .unset, .unset, .unset, .unset, .unset, .unset, .unset, .unset, .unset, .unset, .unset, .unset, .unset, .unset, .unset] [(.int (1 : Int32))]))
    exact own_l0_53 X hx hZ hw hby hml hown hret hlk e0 N Z0 i0 i1 i2 i3 i4 i5 i6 i7 i8 t0 (1 : Int32) hR (by first | decide | assumption)
set_option maxRecDepth 65536 in
set_option maxHeartbeats 4000000 in
theorem own_l0_0 {p : Program} {l : Launch} {e : Env} {s : State} {m : MethodId} {args : Array Value} {below : List Frame} {meth : Method} {c : Code} {T : State} {locs : List Loc} {Z : State} {a0 : Array Value} {h0 : Heap} {n0 : Nat}
    (X : Stand p l e room_1 s m args below meth c T locs 0 0) (hx : p.tables.exec = Jvm.exec) (hZ : Z.Warmed39 s.vm) (hw : ∀ d ∈ tables_1, d.before a0 Z = true) (hby : c.code = code) (hml : c.maxLocals = 26) (hown : s.vm.findClass "com/example/furl/furl/tree/PositionCountsAddPinLaw" = some m.cls) (hret : meth.sig.returnType = some .boolean) (hlk : meth.locks = false) (e0 : T.heap = h0) (N : Fr n0 locs) (Z0 : n0 ≤ h0.size)
    (x0 : Int32) (x1 : Int32) (x2 : Int32) (x3 : Int32) (x4 : Int32) (x5 : Int32) {r : Int32} (hR : r = own_f0_0 x0 x1 x2 x3 x4 x5) : own_Go p e below s room_1.cells room_1.slots (own_QG (.int r) h0 n0) (T.setTop (mkF m 0 #[.val (.int x0), .val (.int x1), .val (.int x2), .val (.int x3), .val (.int x4), .val (.int x5), .unset, .unset, .unset, .unset, .unset, .unset, .unset, .unset, .unset, .unset, .unset, .unset, .unset, .unset, .unset, .unset, .unset, .unset, .unset, .unset] [])) := by
  unfold own_f0_0 at hR
  refine own_back (fun t k => XS.iconst X.here hx rfl (hb hby at_0) k) ?_
  show own_Go _ _ _ _ _ _ _ (T.setTop (mkF m 1 #[.val (.int x0), .val (.int x1), .val (.int x2), .val (.int x3), .val (.int x4), .val (.int x5), .unset, .unset, .unset, .unset, .unset, .unset, .unset, .unset, .unset, .unset, .unset, .unset, .unset, .unset, .unset, .unset, .unset, .unset, .unset, .unset] [(.int (1 : Int32))]))
  refine own_back (fun t k => XS.iloadN X.here hx rfl (hb hby at_1) rfl k) ?_
  show own_Go _ _ _ _ _ _ _ (T.setTop (mkF m 2 #[.val (.int x0), .val (.int x1), .val (.int x2), .val (.int x3), .val (.int x4), .val (.int x5), .unset, .unset, .unset, .unset, .unset, .unset, .unset, .unset, .unset, .unset, .unset, .unset, .unset, .unset, .unset, .unset, .unset, .unset, .unset, .unset] [(.int x0), (.int (1 : Int32))]))
  refine own_back (fun t k => XS.sipush X.here hx rfl (hb hby at_2) k) ?_
  show own_Go _ _ _ _ _ _ _ (T.setTop (mkF m 5 #[.val (.int x0), .val (.int x1), .val (.int x2), .val (.int x3), .val (.int x4), .val (.int x5), .unset, .unset, .unset, .unset, .unset, .unset, .unset, .unset, .unset, .unset, .unset, .unset, .unset, .unset, .unset, .unset, .unset, .unset, .unset, .unset] [(.int (511 : Int32)), (.int x0), (.int (1 : Int32))]))
  refine own_back (fun t k => XS.iand X.here hx rfl (hb hby at_5) rfl k) ?_
  show own_Go _ _ _ _ _ _ _ (T.setTop (mkF m 6 #[.val (.int x0), .val (.int x1), .val (.int x2), .val (.int x3), .val (.int x4), .val (.int x5), .unset, .unset, .unset, .unset, .unset, .unset, .unset, .unset, .unset, .unset, .unset, .unset, .unset, .unset, .unset, .unset, .unset, .unset, .unset, .unset] [(.int (x0 &&& (511 : Int32))), (.int (1 : Int32))]))
  refine own_back (fun t k => XS.iadd X.here hx rfl (hb hby at_6) rfl k) ?_
  show own_Go _ _ _ _ _ _ _ (T.setTop (mkF m 7 #[.val (.int x0), .val (.int x1), .val (.int x2), .val (.int x3), .val (.int x4), .val (.int x5), .unset, .unset, .unset, .unset, .unset, .unset, .unset, .unset, .unset, .unset, .unset, .unset, .unset, .unset, .unset, .unset, .unset, .unset, .unset, .unset] [(.int ((1 : Int32) + (x0 &&& (511 : Int32))))]))
  refine own_back (fun t k => XS.istore X.here hx rfl (hb hby at_7) rfl (l' := #[.val (.int x0), .val (.int x1), .val (.int x2), .val (.int x3), .val (.int x4), .val (.int x5), .val (.int ((1 : Int32) + (x0 &&& (511 : Int32)))), .unset, .unset, .unset, .unset, .unset, .unset, .unset, .unset, .unset, .unset, .unset, .unset, .unset, .unset, .unset, .unset, .unset, .unset, .unset]) rfl k) ?_
  show own_Go _ _ _ _ _ _ _ (T.setTop (mkF m 9 #[.val (.int x0), .val (.int x1), .val (.int x2), .val (.int x3), .val (.int x4), .val (.int x5), .val (.int ((1 : Int32) + (x0 &&& (511 : Int32)))), .unset, .unset, .unset, .unset, .unset, .unset, .unset, .unset, .unset, .unset, .unset, .unset, .unset, .unset, .unset, .unset, .unset, .unset, .unset] []))
  refine own_back (fun t k => XS.iloadN X.here hx rfl (hb hby at_9) rfl k) ?_
  show own_Go _ _ _ _ _ _ _ (T.setTop (mkF m 10 #[.val (.int x0), .val (.int x1), .val (.int x2), .val (.int x3), .val (.int x4), .val (.int x5), .val (.int ((1 : Int32) + (x0 &&& (511 : Int32)))), .unset, .unset, .unset, .unset, .unset, .unset, .unset, .unset, .unset, .unset, .unset, .unset, .unset, .unset, .unset, .unset, .unset, .unset, .unset] [(.int x1)]))
  refine own_back (fun t k => X.ldcInt hx hown (mvT hZ (hw _ (List.mem_of_getElem? (i := 0) rfl))) (g := (mkF m 10 #[.val (.int x0), .val (.int x1), .val (.int x2), .val (.int x3), .val (.int x4), .val (.int x5), .val (.int ((1 : Int32) + (x0 &&& (511 : Int32)))), .unset, .unset, .unset, .unset, .unset, .unset, .unset, .unset, .unset, .unset, .unset, .unset, .unset, .unset, .unset, .unset, .unset, .unset, .unset] [(.int x1)])) rfl (hb hby at_10) _ k) ?_
  show own_Go _ _ _ _ _ _ _ (T.setTop (mkF m 12 #[.val (.int x0), .val (.int x1), .val (.int x2), .val (.int x3), .val (.int x4), .val (.int x5), .val (.int ((1 : Int32) + (x0 &&& (511 : Int32)))), .unset, .unset, .unset, .unset, .unset, .unset, .unset, .unset, .unset, .unset, .unset, .unset, .unset, .unset, .unset, .unset, .unset, .unset, .unset] [(.int (2147483647 : Int32)), (.int x1)]))
  refine own_back (fun t k => XS.iand X.here hx rfl (hb hby at_12) rfl k) ?_
  show own_Go _ _ _ _ _ _ _ (T.setTop (mkF m 13 #[.val (.int x0), .val (.int x1), .val (.int x2), .val (.int x3), .val (.int x4), .val (.int x5), .val (.int ((1 : Int32) + (x0 &&& (511 : Int32)))), .unset, .unset, .unset, .unset, .unset, .unset, .unset, .unset, .unset, .unset, .unset, .unset, .unset, .unset, .unset, .unset, .unset, .unset, .unset] [(.int (x1 &&& (2147483647 : Int32)))]))
  refine own_back (fun t k => XS.iload X.here hx rfl (hb hby at_13) rfl k) ?_
  show own_Go _ _ _ _ _ _ _ (T.setTop (mkF m 15 #[.val (.int x0), .val (.int x1), .val (.int x2), .val (.int x3), .val (.int x4), .val (.int x5), .val (.int ((1 : Int32) + (x0 &&& (511 : Int32)))), .unset, .unset, .unset, .unset, .unset, .unset, .unset, .unset, .unset, .unset, .unset, .unset, .unset, .unset, .unset, .unset, .unset, .unset, .unset] [(.int ((1 : Int32) + (x0 &&& (511 : Int32)))), (.int (x1 &&& (2147483647 : Int32)))]))
  refine own_back (B := T.setTop (mkF m 16 #[.val (.int x0), .val (.int x1), .val (.int x2), .val (.int x3), .val (.int x4), .val (.int x5), .val (.int ((1 : Int32) + (x0 &&& (511 : Int32)))), .unset, .unset, .unset, .unset, .unset, .unset, .unset, .unset, .unset, .unset, .unset, .unset, .unset, .unset, .unset, .unset, .unset, .unset, .unset] [(.int ((x1 &&& (2147483647 : Int32)) % ((1 : Int32) + (x0 &&& (511 : Int32)))))])) (fun t k => XS.irem X.here hx rfl (hb hby at_15) rfl (own_cnz x0) (by rw [irem_eq_mod]; exact k)) ?_
  show own_Go _ _ _ _ _ _ _ (T.setTop (mkF m 16 #[.val (.int x0), .val (.int x1), .val (.int x2), .val (.int x3), .val (.int x4), .val (.int x5), .val (.int ((1 : Int32) + (x0 &&& (511 : Int32)))), .unset, .unset, .unset, .unset, .unset, .unset, .unset, .unset, .unset, .unset, .unset, .unset, .unset, .unset, .unset, .unset, .unset, .unset, .unset] [(.int ((x1 &&& (2147483647 : Int32)) % ((1 : Int32) + (x0 &&& (511 : Int32)))))]))
  refine own_back (fun t k => XS.istore X.here hx rfl (hb hby at_16) rfl (l' := #[.val (.int x0), .val (.int x1), .val (.int x2), .val (.int x3), .val (.int x4), .val (.int x5), .val (.int ((1 : Int32) + (x0 &&& (511 : Int32)))), .val (.int ((x1 &&& (2147483647 : Int32)) % ((1 : Int32) + (x0 &&& (511 : Int32))))), .unset, .unset, .unset, .unset, .unset, .unset, .unset, .unset, .unset, .unset, .unset, .unset, .unset, .unset, .unset, .unset, .unset, .unset]) rfl k) ?_
  show own_Go _ _ _ _ _ _ _ (T.setTop (mkF m 18 #[.val (.int x0), .val (.int x1), .val (.int x2), .val (.int x3), .val (.int x4), .val (.int x5), .val (.int ((1 : Int32) + (x0 &&& (511 : Int32)))), .val (.int ((x1 &&& (2147483647 : Int32)) % ((1 : Int32) + (x0 &&& (511 : Int32))))), .unset, .unset, .unset, .unset, .unset, .unset, .unset, .unset, .unset, .unset, .unset, .unset, .unset, .unset, .unset, .unset, .unset, .unset] []))
  refine own_back (fun t k => XS.iloadN X.here hx rfl (hb hby at_18) rfl k) ?_
  show own_Go _ _ _ _ _ _ _ (T.setTop (mkF m 19 #[.val (.int x0), .val (.int x1), .val (.int x2), .val (.int x3), .val (.int x4), .val (.int x5), .val (.int ((1 : Int32) + (x0 &&& (511 : Int32)))), .val (.int ((x1 &&& (2147483647 : Int32)) % ((1 : Int32) + (x0 &&& (511 : Int32))))), .unset, .unset, .unset, .unset, .unset, .unset, .unset, .unset, .unset, .unset, .unset, .unset, .unset, .unset, .unset, .unset, .unset, .unset] [(.int x2)]))
  refine own_back (fun t k => X.ldcInt hx hown (mvT hZ (hw _ (List.mem_of_getElem? (i := 0) rfl))) (g := (mkF m 19 #[.val (.int x0), .val (.int x1), .val (.int x2), .val (.int x3), .val (.int x4), .val (.int x5), .val (.int ((1 : Int32) + (x0 &&& (511 : Int32)))), .val (.int ((x1 &&& (2147483647 : Int32)) % ((1 : Int32) + (x0 &&& (511 : Int32))))), .unset, .unset, .unset, .unset, .unset, .unset, .unset, .unset, .unset, .unset, .unset, .unset, .unset, .unset, .unset, .unset, .unset, .unset] [(.int x2)])) rfl (hb hby at_19) _ k) ?_
  show own_Go _ _ _ _ _ _ _ (T.setTop (mkF m 21 #[.val (.int x0), .val (.int x1), .val (.int x2), .val (.int x3), .val (.int x4), .val (.int x5), .val (.int ((1 : Int32) + (x0 &&& (511 : Int32)))), .val (.int ((x1 &&& (2147483647 : Int32)) % ((1 : Int32) + (x0 &&& (511 : Int32))))), .unset, .unset, .unset, .unset, .unset, .unset, .unset, .unset, .unset, .unset, .unset, .unset, .unset, .unset, .unset, .unset, .unset, .unset] [(.int (2147483647 : Int32)), (.int x2)]))
  refine own_back (fun t k => XS.iand X.here hx rfl (hb hby at_21) rfl k) ?_
  show own_Go _ _ _ _ _ _ _ (T.setTop (mkF m 22 #[.val (.int x0), .val (.int x1), .val (.int x2), .val (.int x3), .val (.int x4), .val (.int x5), .val (.int ((1 : Int32) + (x0 &&& (511 : Int32)))), .val (.int ((x1 &&& (2147483647 : Int32)) % ((1 : Int32) + (x0 &&& (511 : Int32))))), .unset, .unset, .unset, .unset, .unset, .unset, .unset, .unset, .unset, .unset, .unset, .unset, .unset, .unset, .unset, .unset, .unset, .unset] [(.int (x2 &&& (2147483647 : Int32)))]))
  refine own_back (fun t k => XS.iload X.here hx rfl (hb hby at_22) rfl k) ?_
  show own_Go _ _ _ _ _ _ _ (T.setTop (mkF m 24 #[.val (.int x0), .val (.int x1), .val (.int x2), .val (.int x3), .val (.int x4), .val (.int x5), .val (.int ((1 : Int32) + (x0 &&& (511 : Int32)))), .val (.int ((x1 &&& (2147483647 : Int32)) % ((1 : Int32) + (x0 &&& (511 : Int32))))), .unset, .unset, .unset, .unset, .unset, .unset, .unset, .unset, .unset, .unset, .unset, .unset, .unset, .unset, .unset, .unset, .unset, .unset] [(.int ((1 : Int32) + (x0 &&& (511 : Int32)))), (.int (x2 &&& (2147483647 : Int32)))]))
  refine own_back (B := T.setTop (mkF m 25 #[.val (.int x0), .val (.int x1), .val (.int x2), .val (.int x3), .val (.int x4), .val (.int x5), .val (.int ((1 : Int32) + (x0 &&& (511 : Int32)))), .val (.int ((x1 &&& (2147483647 : Int32)) % ((1 : Int32) + (x0 &&& (511 : Int32))))), .unset, .unset, .unset, .unset, .unset, .unset, .unset, .unset, .unset, .unset, .unset, .unset, .unset, .unset, .unset, .unset, .unset, .unset] [(.int ((x2 &&& (2147483647 : Int32)) % ((1 : Int32) + (x0 &&& (511 : Int32)))))])) (fun t k => XS.irem X.here hx rfl (hb hby at_24) rfl (own_cnz x0) (by rw [irem_eq_mod]; exact k)) ?_
  show own_Go _ _ _ _ _ _ _ (T.setTop (mkF m 25 #[.val (.int x0), .val (.int x1), .val (.int x2), .val (.int x3), .val (.int x4), .val (.int x5), .val (.int ((1 : Int32) + (x0 &&& (511 : Int32)))), .val (.int ((x1 &&& (2147483647 : Int32)) % ((1 : Int32) + (x0 &&& (511 : Int32))))), .unset, .unset, .unset, .unset, .unset, .unset, .unset, .unset, .unset, .unset, .unset, .unset, .unset, .unset, .unset, .unset, .unset, .unset] [(.int ((x2 &&& (2147483647 : Int32)) % ((1 : Int32) + (x0 &&& (511 : Int32)))))]))
  refine own_back (fun t k => XS.istore X.here hx rfl (hb hby at_25) rfl (l' := #[.val (.int x0), .val (.int x1), .val (.int x2), .val (.int x3), .val (.int x4), .val (.int x5), .val (.int ((1 : Int32) + (x0 &&& (511 : Int32)))), .val (.int ((x1 &&& (2147483647 : Int32)) % ((1 : Int32) + (x0 &&& (511 : Int32))))), .val (.int ((x2 &&& (2147483647 : Int32)) % ((1 : Int32) + (x0 &&& (511 : Int32))))), .unset, .unset, .unset, .unset, .unset, .unset, .unset, .unset, .unset, .unset, .unset, .unset, .unset, .unset, .unset, .unset, .unset]) rfl k) ?_
  show own_Go _ _ _ _ _ _ _ (T.setTop (mkF m 27 #[.val (.int x0), .val (.int x1), .val (.int x2), .val (.int x3), .val (.int x4), .val (.int x5), .val (.int ((1 : Int32) + (x0 &&& (511 : Int32)))), .val (.int ((x1 &&& (2147483647 : Int32)) % ((1 : Int32) + (x0 &&& (511 : Int32))))), .val (.int ((x2 &&& (2147483647 : Int32)) % ((1 : Int32) + (x0 &&& (511 : Int32))))), .unset, .unset, .unset, .unset, .unset, .unset, .unset, .unset, .unset, .unset, .unset, .unset, .unset, .unset, .unset, .unset, .unset] []))
  refine own_back (fun t k => XS.iload X.here hx rfl (hb hby at_27) rfl k) ?_
  show own_Go _ _ _ _ _ _ _ (T.setTop (mkF m 29 #[.val (.int x0), .val (.int x1), .val (.int x2), .val (.int x3), .val (.int x4), .val (.int x5), .val (.int ((1 : Int32) + (x0 &&& (511 : Int32)))), .val (.int ((x1 &&& (2147483647 : Int32)) % ((1 : Int32) + (x0 &&& (511 : Int32))))), .val (.int ((x2 &&& (2147483647 : Int32)) % ((1 : Int32) + (x0 &&& (511 : Int32))))), .unset, .unset, .unset, .unset, .unset, .unset, .unset, .unset, .unset, .unset, .unset, .unset, .unset, .unset, .unset, .unset, .unset] [(.int ((x2 &&& (2147483647 : Int32)) % ((1 : Int32) + (x0 &&& (511 : Int32)))))]))
  refine own_back (fun t k => XS.iload X.here hx rfl (hb hby at_29) rfl k) ?_
  show own_Go _ _ _ _ _ _ _ (T.setTop (mkF m 31 #[.val (.int x0), .val (.int x1), .val (.int x2), .val (.int x3), .val (.int x4), .val (.int x5), .val (.int ((1 : Int32) + (x0 &&& (511 : Int32)))), .val (.int ((x1 &&& (2147483647 : Int32)) % ((1 : Int32) + (x0 &&& (511 : Int32))))), .val (.int ((x2 &&& (2147483647 : Int32)) % ((1 : Int32) + (x0 &&& (511 : Int32))))), .unset, .unset, .unset, .unset, .unset, .unset, .unset, .unset, .unset, .unset, .unset, .unset, .unset, .unset, .unset, .unset, .unset] [(.int ((x1 &&& (2147483647 : Int32)) % ((1 : Int32) + (x0 &&& (511 : Int32))))), (.int ((x2 &&& (2147483647 : Int32)) % ((1 : Int32) + (x0 &&& (511 : Int32)))))]))
  by_cases hc31 : ((x2 &&& (2147483647 : Int32)) % ((1 : Int32) + (x0 &&& (511 : Int32)))) = ((x1 &&& (2147483647 : Int32)) % ((1 : Int32) + (x0 &&& (511 : Int32))))
  · rw [if_pos hc31] at hR
    refine own_back (fun t k => XS.icmpYes X.here hx rfl (pc0 := 31) (pc' := 38) rfl (hb hby at_31) rfl (teq hc31).1 (by decide) (by decide) k) ?_
    show own_Go _ _ _ _ _ _ _ (T.setTop (mkF m 38 #[.val (.int x0), .val (.int x1), .val (.int x2), .val (.int x3), .val (.int x4), .val (.int x5), .val (.int ((1 : Int32) + (x0 &&& (511 : Int32)))), .val (.int ((x1 &&& (2147483647 : Int32)) % ((1 : Int32) + (x0 &&& (511 : Int32))))), .val (.int ((x2 &&& (2147483647 : Int32)) % ((1 : Int32) + (x0 &&& (511 : Int32))))), .unset, .unset, .unset, .unset, .unset, .unset, .unset, .unset, .unset, .unset, .unset, .unset, .unset, .unset, .unset, .unset, .unset] []))
    refine own_back (fun t k => XS.iconst X.here hx rfl (hb hby at_38) k) ?_
    show own_Go _ _ _ _ _ _ _ (T.setTop (mkF m 39 #[.val (.int x0), .val (.int x1), .val (.int x2), .val (.int x3), .val (.int x4), .val (.int x5), .val (.int ((1 : Int32) + (x0 &&& (511 : Int32)))), .val (.int ((x1 &&& (2147483647 : Int32)) % ((1 : Int32) + (x0 &&& (511 : Int32))))), .val (.int ((x2 &&& (2147483647 : Int32)) % ((1 : Int32) + (x0 &&& (511 : Int32))))), .unset, .unset, .unset, .unset, .unset, .unset, .unset, .unset, .unset, .unset, .unset, .unset, .unset, .unset, .unset, .unset, .unset] [(.int (0 : Int32))]))
    exact own_l0_39 X hx hZ hw hby hml hown hret hlk e0 N Z0 x0 x1 x2 x3 x4 x5 ((1 : Int32) + (x0 &&& (511 : Int32))) ((x1 &&& (2147483647 : Int32)) % ((1 : Int32) + (x0 &&& (511 : Int32)))) ((x2 &&& (2147483647 : Int32)) % ((1 : Int32) + (x0 &&& (511 : Int32)))) (0 : Int32) hR (own_rg1_in _ _ _)
  · rw [if_neg hc31] at hR
    refine own_back (fun t k => XS.icmpNo X.here hx rfl (hb hby at_31) rfl (feq hc31).1 k) ?_
    show own_Go _ _ _ _ _ _ _ (T.setTop (mkF m 34 #[.val (.int x0), .val (.int x1), .val (.int x2), .val (.int x3), .val (.int x4), .val (.int x5), .val (.int ((1 : Int32) + (x0 &&& (511 : Int32)))), .val (.int ((x1 &&& (2147483647 : Int32)) % ((1 : Int32) + (x0 &&& (511 : Int32))))), .val (.int ((x2 &&& (2147483647 : Int32)) % ((1 : Int32) + (x0 &&& (511 : Int32))))), .unset, .unset, .unset, .unset, .unset, .unset, .unset, .unset, .unset, .unset, .unset, .unset, .unset, .unset, .unset, .unset, .unset] []))
    refine own_back (fun t k => XS.iconst X.here hx rfl (hb hby at_34) k) ?_
    show own_Go _ _ _ _ _ _ _ (T.setTop (mkF m 35 #[.val (.int x0), .val (.int x1), .val (.int x2), .val (.int x3), .val (.int x4), .val (.int x5), .val (.int ((1 : Int32) + (x0 &&& (511 : Int32)))), .val (.int ((x1 &&& (2147483647 : Int32)) % ((1 : Int32) + (x0 &&& (511 : Int32))))), .val (.int ((x2 &&& (2147483647 : Int32)) % ((1 : Int32) + (x0 &&& (511 : Int32))))), .unset, .unset, .unset, .unset, .unset, .unset, .unset, .unset, .unset, .unset, .unset, .unset, .unset, .unset, .unset, .unset, .unset] [(.int (1 : Int32))]))
    refine own_back (fun t k => XS.goto X.here hx rfl (pc0 := 35) (pc' := 39) rfl (hb hby at_35) (by decide) (by decide) k) ?_
    show own_Go _ _ _ _ _ _ _ (T.setTop (mkF m 39 #[.val (.int x0), .val (.int x1), .val (.int x2), .val (.int x3), .val (.int x4), .val (.int x5), .val (.int ((1 : Int32) + (x0 &&& (511 : Int32)))), .val (.int ((x1 &&& (2147483647 : Int32)) % ((1 : Int32) + (x0 &&& (511 : Int32))))), .val (.int ((x2 &&& (2147483647 : Int32)) % ((1 : Int32) + (x0 &&& (511 : Int32))))), .unset, .unset, .unset, .unset, .unset, .unset, .unset, .unset, .unset, .unset, .unset, .unset, .unset, .unset, .unset, .unset, .unset] [(.int (1 : Int32))]))
    exact own_l0_39 X hx hZ hw hby hml hown hret hlk e0 N Z0 x0 x1 x2 x3 x4 x5 ((1 : Int32) + (x0 &&& (511 : Int32))) ((x1 &&& (2147483647 : Int32)) % ((1 : Int32) + (x0 &&& (511 : Int32)))) ((x2 &&& (2147483647 : Int32)) % ((1 : Int32) + (x0 &&& (511 : Int32)))) (1 : Int32) hR (own_rg1_in _ _ _)
theorem own_pn0 : plainName "com/example/furl/furl/tree/PositionCountsAddPinLaw" = true := by first | (simp [plainName, overriddenIn]; done) | decide +kernel
theorem own_ef0 (m : MethodId) (x0 : Int32) (x1 : Int32) (x2 : Int32) (x3 : Int32) (x4 : Int32) (x5 : Int32) : entryFrame m #[(.int x0), (.int x1), (.int x2), (.int x3), (.int x4), (.int x5)] maxLocals = mkF m 0 #[.val (.int x0), .val (.int x1), .val (.int x2), .val (.int x3), .val (.int x4), .val (.int x5), .unset, .unset, .unset, .unset, .unset, .unset, .unset, .unset, .unset, .unset, .unset, .unset, .unset, .unset, .unset, .unset, .unset, .unset, .unset, .unset] [] := by first | (simp [entryFrame, mkF, argsToLocals, Value.category, maxLocals]; done) | rfl
set_option maxRecDepth 65536 in
set_option maxHeartbeats 4000000 in
theorem own_rm0 (l : Launch) (Z : State) (a0 : Array Value) (hw : ∀ d ∈ tables_1, d.before a0 Z = true) (ws : List Jvm.Cond) (x0 : Int32) (x1 : Int32) (x2 : Int32) (x3 : Int32) (x4 : Int32) (x5 : Int32) (h0 : Heap) (n0 : Nat) (Z0 : n0 ≤ h0.size) :
    MetFree l x (head1 (Jvm.Cond.code x code maxLocals ret :: ws) room_1) (fun a U => a = #[(.int x0), (.int x1), (.int x2), (.int x3), (.int x4), (.int x5)] ∧ Z.Warmed39 U.vm ∧ U.heap = h0) (fun _ _ _ _ _ => True) (fun _ U o U' => ∃ v L, o = .returned v ∧ own_QG (.int (own_f0_0 x0 x1 x2 x3 x4 x5)) h0 n0 v U'.heap L ∧ FrameEnd U o U' L room_1.cells room_1.slots) := by
  refine MetFree.of_bodySF (plainFor_of_name own_pn0) hisR ?_
  intro p e s m args below meth c s₁ Bd hml0 hP hK
  obtain ⟨rfl, hZ, hh⟩ := hP
  have X0 : Stand p l e room_1 s m #[(.int x0), (.int x1), (.int x2), (.int x3), (.int x4), (.int x5)] below meth c s₁ [] 0 0 := Stand.of_body Bd
  have e0 : s₁.heap = h0 := by rw [← hh, Bd.state]; rfl
  refine own_back (s := s) (fun t k => castTop (own_ef0 m x0 x1 x2 x3 x4 x5) k) ?_
  exact own_l0_0 X0 Bd.exec hZ hw Bd.bytes hml0 (findClass_of_methodNamed Bd.named) Bd.returns (BodyLoose.notSynchronized Bd) e0 (Fr.nil n0) Z0 x0 x1 x2 x3 x4 x5 rfl
theorem own_nb (N n : Nat) : N &&& 2 ^ n = 0 ↔ N.testBit n = false := by
  constructor
  · intro h
    have q : (N &&& 2 ^ n).testBit n = false := by rw [h, Nat.zero_testBit]
    rwa [Nat.testBit_and, Nat.testBit_two_pow_self, Bool.and_true] at q
  · intro h
    refine Nat.eq_of_testBit_eq fun i => ?_
    rw [Nat.testBit_and, Nat.zero_testBit]
    by_cases q : n = i
    · rw [← q, h, Bool.false_and]
    · rw [Nat.testBit_two_pow_of_ne q, Bool.and_false]
/-- a nonnegative int's bits are its number's -/
theorem own_nat {x : Int32} (h : ¬ x < 0) : x.toBitVec.toNat = x.toNatClampNeg := by
  have z : (0 : Int32).toInt = 0 := rfl
  have g : ¬ x.toInt < 0 := fun q => h (own_lt.mpr (by omega))
  have e : x.toNatClampNeg = x.toBitVec.toInt.toNat := rfl
  have g' : ¬ x.toBitVec.toInt < 0 := g
  rw [e]
  rw [BitVec.toInt_eq_toNat_cond] at g' ⊢
  have := x.toBitVec.isLt
  split at g' <;> split <;> omega
theorem own_one_shl {x : Int32} (h : ¬ x < 0) : ((1 : Int64) <<< (x &&& 0x3f).toInt64).toBitVec.toNat = 2 ^ (x.toNatClampNeg % 64) := by
  obtain ⟨e1, hn⟩ := sm64 x (x.toNatClampNeg % 64) (by rw [own_nat h])
  show (1#64 <<< ((x &&& 0x3f).toInt64.toBitVec.smod 64)).toNat = _
  rw [BitVec.shiftLeft_eq', e1, smod64 _ hn, BitVec.toNat_shiftLeft, Nat.shiftLeft_eq, show (1#64).toNat = 1 from rfl, Nat.one_mul]
  exact Nat.mod_eq_of_lt (Nat.pow_lt_pow_right (by decide) hn)
/-- whether the position x is counted -/
def own_mem (B : Nat → Int64) (x : Int32) : Bool := (B (x.toNatClampNeg / 64)).toBitVec.toNat.testBit (x.toNatClampNeg % 64)
theorem own_has (B : Nat → Int64) {x : Int32} (h : ¬ x < 0) : own_f5_0 B x = if own_mem B x = true then (1 : Int32) else (0 : Int32) := by
  unfold own_f5_0 own_mem
  rw [own_sh6 h, (own_clamp (by have := own_hb x; omega)).2]
  have k : (B (x.toNatClampNeg / 64) &&& ((1 : Int64) <<< (x &&& 0x3f).toInt64)) = 0 ↔ (B (x.toNatClampNeg / 64)).toBitVec.toNat.testBit (x.toNatClampNeg % 64) = false := by
    rw [← Int64.toBitVec_inj, ← BitVec.toNat_inj, ← own_nb, ← own_one_shl h]
    show ((B (x.toNatClampNeg / 64)).toBitVec &&& ((1 : Int64) <<< (x &&& 0x3f).toInt64).toBitVec).toNat = 0 ↔ _
    rw [BitVec.toNat_and]
  by_cases c : (B (x.toNatClampNeg / 64) &&& ((1 : Int64) <<< (x &&& 0x3f).toInt64)) = 0
  · rw [if_pos ((lw_eq _ _).mpr c), k.mp c, if_neg (by decide)]
  · rw [if_neg (fun q => c ((lw_eq _ _).mp q)), if_pos]
    exact Bool.of_not_eq_false fun q => c (k.mpr q)
theorem own_mem0 (x : Int32) : own_mem (fun _ => (0 : Int64)) x = false := by
  show Nat.testBit 0 _ = false
  exact Nat.zero_testBit _
theorem own_inj {x y : Int32} (hx : ¬ x < 0) (hy : ¬ y < 0) (h : x.toNatClampNeg = y.toNatClampNeg) : x = y := by rw [own_hp hx, own_hp hy, h]
theorem own_mem_tog (B : Nat → Int64) {x y : Int32} (hx : ¬ x < 0) (hy : ¬ y < 0) : own_mem (own_tog B x) y = (own_mem B y ^^ decide (y = x)) := by
  unfold own_mem own_tog
  by_cases q : y.toNatClampNeg / 64 = x.toNatClampNeg / 64
  · rw [if_pos q]
    show ((B (x.toNatClampNeg / 64)).toBitVec ^^^ ((1 : Int64) <<< (x &&& 0x3f).toInt64).toBitVec).toNat.testBit _ = _
    rw [BitVec.toNat_xor, Nat.testBit_xor, own_one_shl hx, q, Nat.testBit_two_pow]
    congr 1
    by_cases r : y = x
    · subst r; simp
    · have : ¬ x.toNatClampNeg % 64 = y.toNatClampNeg % 64 := fun z => r (own_inj hy hx (by omega))
      simp [this, r]
  · rw [if_neg q]
    have r : ¬ y = x := fun z => q (by rw [z])
    simp [r]
theorem own_bc0 : own_f7_0 0 = 0 := by decide +kernel
theorem own_bc1 : ∀ i : Fin 64, own_f7_0 (Int64.ofBitVec (BitVec.ofNat 64 (2 ^ i.val))) = 1 := by decide +kernel
theorem own_bc2 : ∀ i j : Fin 64, i ≠ j → own_f7_0 (Int64.ofBitVec (BitVec.ofNat 64 (2 ^ i.val ^^^ 2 ^ j.val))) = 2 := by decide +kernel
theorem own_fw : ∀ i d : Fin 9, 1 ≤ i.val → own_dn (fun j => if own_up 20 i.val j = true then (1 : Int32) else 0) 20 d.val 0 = if i.val ≤ d.val then (1 : Int32) else 0 := by decide +kernel
/-- one bit, or none -/
def own_pw (s : Bool) (i : Nat) : Nat := if s = true then 2 ^ i else 0
def own_b1 (s : Bool) : Int32 := if s = true then 1 else 0
theorem own_bc {x : Int64} {s t : Bool} {i j : Nat} (hi : i < 64) (hj : j < 64) (hx : x.toBitVec.toNat = own_pw s i ^^^ own_pw t j) (hd : s = true → t = true → i ≠ j) : own_f7_0 x = own_b1 s + own_b1 t := by
  have e : x = Int64.ofBitVec (BitVec.ofNat 64 (own_pw s i ^^^ own_pw t j)) := by
    rw [← hx, ← Int64.toBitVec_inj, BitVec.ofNat_toNat]
    show x.toBitVec = BitVec.setWidth 64 x.toBitVec
    simp
  rw [e]
  cases s <;> cases t
  · rw [show own_pw false i ^^^ own_pw false j = 0 by simp [own_pw]]
    exact own_bc0
  · have q := own_bc1 ⟨j, hj⟩
    simpa [own_pw, own_b1] using q
  · have q := own_bc1 ⟨i, hi⟩
    simpa [own_pw, own_b1] using q
  · have q := own_bc2 ⟨i, hi⟩ ⟨j, hj⟩ (fun z => hd rfl rfl (Fin.val_eq_of_eq z))
    exact q
theorem own_pw_and (s : Bool) (i M : Nat) : own_pw s i &&& M = own_pw (s && M.testBit i) i := by
  cases s
  · simp [own_pw]
  · unfold own_pw
    rw [if_pos rfl, Bool.true_and]
    refine Nat.eq_of_testBit_eq fun k => ?_
    rw [Nat.testBit_and]
    by_cases q : i = k
    · subst q
      rw [Nat.testBit_two_pow_self, Bool.true_and]
      cases h : M.testBit i
      · simp
      · rw [if_pos rfl, Nat.testBit_two_pow_self]
    · rw [Nat.testBit_two_pow_of_ne q, Bool.false_and]
      cases h : M.testBit i
      · simp
      · rw [if_pos rfl, Nat.testBit_two_pow_of_ne q]
theorem own_xor_and (a b c : Nat) : (a ^^^ b) &&& c = (a &&& c) ^^^ (b &&& c) := by
  refine Nat.eq_of_testBit_eq fun k => ?_
  simp only [Nat.testBit_and, Nat.testBit_xor]
  cases a.testBit k <;> cases b.testBit k <;> cases c.testBit k <;> rfl
/-- which of the positions p and q are counted -/
def own_rep (N : Nat) (B : Nat → Int64) (W : Nat → Int32) (a b : Bool) (p q : Int32) : Prop :=
  (∀ k, k < N → (B k).toBitVec.toNat = own_pw (a && p.toNatClampNeg / 64 == k) (p.toNatClampNeg % 64) ^^^ own_pw (b && q.toNatClampNeg / 64 == k) (q.toNatClampNeg % 64)) ∧
  (∀ j, j ≤ N → W j = own_b1 (a && own_up 20 (p.toNatClampNeg / 64 + 1) j) + own_b1 (b && own_up 20 (q.toNatClampNeg / 64 + 1) j))
theorem own_rep_nil (N : Nat) (p q : Int32) : own_rep N (fun _ => 0) (fun _ => 0) false false p q := ⟨fun k _ => by simp [own_pw], fun j _ => by simp [own_b1]⟩
theorem own_rep_sym {N : Nat} {B : Nat → Int64} {W : Nat → Int32} {a b : Bool} {p q : Int32} (h : own_rep N B W a b p q) : own_rep N B W b a q p :=
  ⟨fun k hk => by rw [h.1 k hk, Nat.xor_comm], fun j hj => by rw [h.2 j hj, Int32.add_comm]⟩
theorem own_rep_flip {N : Nat} {B : Nat → Int64} {W : Nat → Int32} {a b : Bool} {p q ch : Int32} (h : own_rep N B W a b p q) (hp : ¬ p < 0) (hc : own_b1 a + ch = own_b1 (!a)) : own_rep N (own_tog B p) (own_cnt W p ch) (!a) b p q := by
  refine ⟨fun k hk => ?_, fun j hj => ?_⟩
  · have hB := h.1 k hk
    unfold own_tog
    by_cases r : k = p.toNatClampNeg / 64
    · rw [if_pos r, ← r]
      show ((B k).toBitVec ^^^ ((1 : Int64) <<< (p &&& 0x3f).toInt64).toBitVec).toNat = _
      rw [BitVec.toNat_xor, own_one_shl hp, hB, ← r, beq_self_eq_true, Bool.and_true, Bool.and_true, Nat.xor_comm (own_pw a _), Nat.xor_assoc, Nat.xor_comm]
      congr 1
      cases a <;> simp [own_pw]
    · rw [if_neg r, hB, beq_false_of_ne (fun z => r z.symm), Bool.and_false, Bool.and_false]
  · have hW := h.2 j hj
    unfold own_cnt own_fen
    cases u : own_up 20 (p.toNatClampNeg / 64 + 1) j
    · rw [if_neg (by decide), hW, u, Bool.and_false, Bool.and_false]
    · rw [if_pos rfl, hW, u, Bool.and_true, Bool.and_true, ← hc, Int32.add_assoc, Int32.add_comm _ ch, ← Int32.add_assoc]
theorem own_rep_in {N : Nat} {B : Nat → Int64} {W : Nat → Int32} {b : Bool} {p q : Int32} (h : own_rep N B W false b p q) (hp : ¬ p < 0) : own_rep N (own_tog B p) (own_cnt W p (1 : Int32)) true b p q := own_rep_flip h hp (by decide)
theorem own_rep_out {N : Nat} {B : Nat → Int64} {W : Nat → Int32} {b : Bool} {p q : Int32} (h : own_rep N B W true b p q) (hp : ¬ p < 0) : own_rep N (own_tog B p) (own_cnt W p (-1 : Int32)) false b p q := own_rep_flip h hp (by decide)
/-- the positions apart, where both are counted; each within N words -/
def own_apart (N : Nat) (a b : Bool) (p q : Int32) : Prop := own_ok N p ∧ own_ok N q ∧ (a = true → b = true → p ≠ q)
theorem own_apart' {N : Nat} {a b : Bool} {p q : Int32} (h : own_apart N a b p q) : a = true → b = true → p.toNatClampNeg ≠ q.toNatClampNeg := fun h1 h2 z => h.2.2 h1 h2 (own_inj h.1.1 h.2.1.1 z)
theorem own_bcm {N : Nat} {B : Nat → Int64} {W : Nat → Int32} {a b : Bool} {p q : Int32} (h : own_rep N B W a b p q) (ha : own_apart N a b p q) {k : Nat} (hk : k < N) (M : Int64) :
    own_f7_0 (B k &&& M) = own_b1 (a && p.toNatClampNeg / 64 == k && M.toBitVec.toNat.testBit (p.toNatClampNeg % 64)) + own_b1 (b && q.toNatClampNeg / 64 == k && M.toBitVec.toNat.testBit (q.toNatClampNeg % 64)) := by
  refine own_bc (i := p.toNatClampNeg % 64) (j := q.toNatClampNeg % 64) (Nat.mod_lt _ (by decide)) (Nat.mod_lt _ (by decide)) ?_ ?_
  · show ((B k).toBitVec &&& M.toBitVec).toNat = _
    rw [BitVec.toNat_and, h.1 k hk, own_xor_and, own_pw_and, own_pw_and]
  · intro h1 h2 z
    simp only [Bool.and_eq_true, beq_iff_eq] at h1 h2
    exact own_apart' ha h1.1.1 h2.1.1 (by omega)
theorem own_mask1 {x : Int32} (h : ¬ x < 0) (i : Nat) : (((1 : Int64) <<< (x &&& 0x3f).toInt64) - (1 : Int64)).toBitVec.toNat.testBit i = decide (i < x.toNatClampNeg % 64) := by
  have e : (((1 : Int64) <<< (x &&& 0x3f).toInt64) - (1 : Int64)).toBitVec.toNat = 2 ^ (x.toNatClampNeg % 64) - 1 := by
    show (((1 : Int64) <<< (x &&& 0x3f).toInt64).toBitVec - 1#64).toNat = _
    rw [BitVec.toNat_sub, own_one_shl h, show (1#64).toNat = 1 from rfl]
    have q : 2 ^ (x.toNatClampNeg % 64) < 2 ^ 64 := Nat.pow_lt_pow_right (by decide) (Nat.mod_lt _ (by decide))
    have r : 0 < 2 ^ (x.toNatClampNeg % 64) := Nat.pow_pos (by decide)
    omega
  rw [e, Nat.testBit_two_pow_sub_one]
theorem own_mask2 {x : Int32} (h : ¬ x < 0) (q : Int32) (s : Nat) (hs : q.toBitVec.toNat % 64 = s) (i : Nat) (hi : i < 64) : ((((-1 : Int64).toUInt64 >>> (q &&& 0x3f).toInt64.toUInt64).toInt64) <<< (x &&& 0x3f).toInt64).toBitVec.toNat.testBit i = (decide (x.toNatClampNeg % 64 ≤ i) && decide (s + (i - x.toNatClampNeg % 64) < 64)) := by
  obtain ⟨e1, hn⟩ := sm64 x (x.toNatClampNeg % 64) (by rw [own_nat h])
  obtain ⟨e2, hn2⟩ := sm64 q s hs
  show (((-1 : Int64).toBitVec >>> ((q &&& 0x3f).toInt64.toBitVec % 64)) <<< ((x &&& 0x3f).toInt64.toBitVec.smod 64)).toNat.testBit i = _
  have z : s % 2 ^ 64 % ((64 : BitVec 64)).toNat = s := by show s % 2 ^ 64 % 64 = s; omega
  rw [BitVec.shiftLeft_eq', e1, smod64 _ hn, BitVec.toNat_shiftLeft, BitVec.ushiftRight_eq', BitVec.toNat_ushiftRight, BitVec.toNat_umod, e2, BitVec.toNat_ofNat, z, Nat.testBit_mod_two_pow, Nat.testBit_shiftLeft, Nat.testBit_shiftRight, show (-1 : Int64).toBitVec.toNat = 2 ^ 64 - 1 from rfl, Nat.testBit_two_pow_sub_one]
  simp [hi]
theorem own_dn_add {N : Nat} (hN : N ≤ 16) {W W1 W2 : Nat → Int32} (hW : ∀ j, j ≤ N → W j = W1 j + W2 j) (k : Nat) : ∀ d acc a1 a2, d ≤ N → acc = a1 + a2 → own_dn W k d acc = own_dn W1 k d a1 + own_dn W2 k d a2 := by
  induction k with
  | zero => intro d acc a1 a2 _ h; exact h
  | succ k ih =>
    intro d acc a1 a2 hd h
    show (if d = 0 then acc else own_dn W k (own_prv d) (acc + W d)) = (if d = 0 then a1 else own_dn W1 k (own_prv d) (a1 + W1 d)) + (if d = 0 then a2 else own_dn W2 k (own_prv d) (a2 + W2 d))
    by_cases q : d = 0
    · rw [if_pos q, if_pos q, if_pos q]; exact h
    · rw [if_neg q, if_neg q, if_neg q]
      have pv := own_prv_ok (d := d) (by omega) (by omega)
      refine ih _ _ _ _ (by omega) ?_
      rw [h, hW d hd, Int32.add_assoc, Int32.add_assoc a1]
      congr 1
      rw [← Int32.add_assoc, Int32.add_comm a2, Int32.add_assoc]
theorem own_dn_const (k : Nat) : ∀ d acc, own_dn (fun _ => 0) k d acc = acc := by
  induction k with
  | zero => intro d acc; rfl
  | succ k ih =>
    intro d acc
    show (if d = 0 then acc else own_dn (fun _ => 0) k (own_prv d) (acc + 0)) = acc
    rw [ih, Int32.add_zero, ite_self]
theorem own_dn1 (a : Bool) {i d : Nat} (h1 : 1 ≤ i) (h2 : i ≤ 8) (h3 : d ≤ 8) : own_dn (fun j => own_b1 (a && own_up 20 i j)) 20 d 0 = own_b1 (a && decide (i ≤ d)) := by
  cases a
  · exact own_dn_const 20 d 0
  · have q := own_fw ⟨i, by omega⟩ ⟨d, by omega⟩ h1
    have e : (fun j => own_b1 (true && own_up 20 i j)) = (fun j => if own_up 20 i j = true then (1 : Int32) else 0) := rfl
    rw [e]
    refine q.trans ?_
    show (if i ≤ d then (1 : Int32) else 0) = own_b1 (true && decide (i ≤ d))
    by_cases r : i ≤ d
    · simp [own_b1, r]
    · simp [own_b1, r]
theorem own_dnW {N : Nat} {B : Nat → Int64} {W : Nat → Int32} {a b : Bool} {p q : Int32} (h : own_rep N B W a b p q) (ha : own_apart N a b p q) (hN : N ≤ 8) {d : Nat} (hd : d ≤ N) (acc : Int32) :
    own_dn W 20 d acc = acc + (own_b1 (a && decide (p.toNatClampNeg / 64 + 1 ≤ d)) + own_b1 (b && decide (q.toNatClampNeg / 64 + 1 ≤ d))) := by
  have h1 := ha.1.2
  have h2 := ha.2.1.2
  rw [own_dn_add (N := N) (by omega) (W1 := fun _ => 0) (W2 := W) (fun j _ => (Int32.zero_add _).symm) 20 d acc acc 0 hd (Int32.add_zero _).symm, own_dn_const]
  congr 1
  rw [own_dn_add (N := N) (by omega) h.2 20 d 0 0 0 hd rfl, own_dn1 a (by omega) (by omega) (by omega), own_dn1 b (by omega) (by omega) (by omega)]
theorem own_part (a : Bool) (P X : Nat) : own_b1 (a && P / 64 == X / 64 && decide (P % 64 < X % 64)) + own_b1 (a && decide (P / 64 + 1 ≤ X / 64)) = own_b1 (a && decide (P < X)) := by
  cases a
  · rfl
  · by_cases h1 : P / 64 = X / 64
    · by_cases h2 : P % 64 < X % 64
      · have h3 : P < X := by omega
        have h4 : ¬ P / 64 + 1 ≤ X / 64 := by omega
        simp [own_b1, h1, h2, h3]
      · have h3 : ¬ P < X := by omega
        simp [own_b1, h1, h2, h3]
    · by_cases h2 : P / 64 + 1 ≤ X / 64
      · have h3 : P < X := by omega
        simp [own_b1, h1, h2, h3]
      · have h3 : ¬ P < X := by omega
        simp [own_b1, h1, h2, h3]
theorem own_swap (a b c d : Int32) : (a + b) + (c + d) = (a + c) + (b + d) := by
  rw [Int32.add_assoc, Int32.add_assoc]
  congr 1
  rw [← Int32.add_assoc, Int32.add_comm b, Int32.add_assoc]
theorem own_bef {N : Nat} {B : Nat → Int64} {W : Nat → Int32} {a b : Bool} {p q : Int32} (h : own_rep N B W a b p q) (ha : own_apart N a b p q) (hN : N ≤ 8) {x : Int32} (hx : ¬ x < 0) (hxN : x.toNatClampNeg / 64 ≤ N) :
    own_f8_0 N B W x = own_b1 (a && decide (p.toNatClampNeg < x.toNatClampNeg)) + own_b1 (b && decide (q.toNatClampNeg < x.toNatClampNeg)) := by
  have hb := own_hb x
  have h1 := ha.1.2
  have h2 := ha.2.1.2
  unfold own_f8_0
  rw [own_sh6 hx, (own_clamp (by omega)).2]
  by_cases c : Int32.ofNat (x.toNatClampNeg / 64) < Int32.ofNat N
  · have c' := own_lt.mp c
    rw [Int32.toInt_ofNat_of_lt (by omega), Int32.toInt_ofNat_of_lt (by omega)] at c'
    rw [if_pos c, own_dnW h ha hN hxN, own_bcm h ha (by omega), own_mask1 hx, own_mask1 hx, own_swap, own_part, own_part]
  · have c' : ¬ x.toNatClampNeg / 64 < N := fun z => c (own_lt.mpr (by rw [Int32.toInt_ofNat_of_lt (by omega), Int32.toInt_ofNat_of_lt (by omega)]; omega))
    rw [if_neg c, own_dnW h ha hN hxN, Int32.zero_add]
    have e1 : decide (p.toNatClampNeg / 64 + 1 ≤ x.toNatClampNeg / 64) = decide (p.toNatClampNeg < x.toNatClampNeg) := decide_eq_decide.mpr (by omega)
    have e2 : decide (q.toNatClampNeg / 64 + 1 ≤ x.toNatClampNeg / 64) = decide (q.toNatClampNeg < x.toNatClampNeg) := decide_eq_decide.mpr (by omega)
    rw [e1, e2]
theorem own_gap (a : Bool) {P F T : Nat} (h : F < T) : own_b1 (a && decide (P < T)) = own_b1 (a && decide (P < F)) + own_b1 (a && decide (F ≤ P ∧ P < T)) := by
  cases a
  · rfl
  · by_cases h1 : P < F
    · rw [decide_eq_true (show P < T by omega), decide_eq_true h1, decide_eq_false (show ¬ (F ≤ P ∧ P < T) by omega)]; rfl
    · by_cases h2 : P < T
      · rw [decide_eq_true h2, decide_eq_false h1, decide_eq_true (show F ≤ P ∧ P < T by omega)]; rfl
      · rw [decide_eq_false h2, decide_eq_false h1, decide_eq_false (show ¬ (F ≤ P ∧ P < T) by omega)]; rfl
theorem own_cancel (a b c d : Int32) : ((a + b) + (c + d)) - (a + c) = b + d := by
  rw [own_swap, Int32.add_comm, Int32.add_sub_cancel]
theorem own_ltN {x y : Int32} (hx : ¬ x < 0) (hy : ¬ y < 0) : x < y ↔ x.toNatClampNeg < y.toNatClampNeg := by
  have e1 := own_nn1 hx
  have e2 := own_nn1 hy
  rw [own_lt]
  omega
theorem own_inv {N : Nat} {B : Nat → Int64} {W : Nat → Int32} {a b : Bool} {p q : Int32} (h : own_rep N B W a b p q) (ha : own_apart N a b p q) (hN : N ≤ 8) {f t : Int32} (hf : ¬ f < 0) (ht : ¬ t < 0) (htN : t.toNatClampNeg ≤ 64 * N) :
    own_f6_0 N B W f t = own_b1 (a && decide (f.toNatClampNeg ≤ p.toNatClampNeg ∧ p.toNatClampNeg < t.toNatClampNeg)) + own_b1 (b && decide (f.toNatClampNeg ≤ q.toNatClampNeg ∧ q.toNatClampNeg < t.toNatClampNeg)) := by
  have hbf := own_hb f
  have hbt := own_hb t
  have ef := own_nn1 hf
  have et := own_nn1 ht
  unfold own_f6_0
  by_cases c : f < t
  · have c' := (own_ltN hf ht).mp c
    rw [if_pos c]
    have z1 : (1 : Int32).toInt = 1 := rfl
    have s1 := c_isub t 1
    have r1 := rng32 (t - 1)
    have g1 : (t - 1).toInt = t.toInt - 1 := by omega
    have n1 := own_nn0 (x := t - 1) (by omega)
    have n2 : (t - (1 : Int32)).toNatClampNeg = t.toNatClampNeg - 1 := by have := n1.2; omega
    rw [own_sh6 hf, own_sh6 n1.1, n2, (own_clamp (by omega)).2]
    by_cases e : f.toNatClampNeg / 64 = (t.toNatClampNeg - 1) / 64
    · rw [if_pos (by rw [e])]
      have s2 := c_isub t f
      have r2 := rng32 (t - f)
      have g2 : (t - f).toInt = t.toInt - f.toInt := by omega
      have s3 := c_ineg (t - f)
      have r3 := rng32 (-(t - f))
      have g3 : (-(t - f)).toInt = f.toInt - t.toInt := by omega
      have hs : (-(t - f)).toBitVec.toNat % 64 = 64 - (t.toNatClampNeg - f.toNatClampNeg) := by
        have k : (-(t - f)).toInt = (-(t - f)).toBitVec.toInt := rfl
        rw [k, BitVec.toInt_eq_toNat_cond] at g3
        have := (-(t - f)).toBitVec.isLt
        split at g3 <;> omega
      rw [own_bcm h ha (by omega), own_mask2 hf _ _ hs _ (Nat.mod_lt _ (by decide)), own_mask2 hf _ _ hs _ (Nat.mod_lt _ (by decide))]
      have k : ∀ (a : Bool) (P : Nat), (a && P / 64 == f.toNatClampNeg / 64 && (decide (f.toNatClampNeg % 64 ≤ P % 64) && decide (64 - (t.toNatClampNeg - f.toNatClampNeg) + (P % 64 - f.toNatClampNeg % 64) < 64))) = (a && decide (f.toNatClampNeg ≤ P ∧ P < t.toNatClampNeg)) := by
        intro a P
        rw [Bool.and_assoc]
        congr 1
        rw [Bool.eq_iff_iff]
        simp only [Bool.and_eq_true, beq_iff_eq, decide_eq_true_eq]
        omega
      rw [k, k]
    · rw [if_neg (fun z => e (by have := congrArg Int32.toNatClampNeg z; rwa [(own_clamp (by omega)).2, (own_clamp (by omega)).2] at this)), own_bef h ha hN ht (by omega), own_bef h ha hN hf (by omega), own_gap a c', own_gap b c', own_cancel]
  · have c' : ¬ f.toNatClampNeg < t.toNatClampNeg := fun z => c ((own_ltN hf ht).mpr z)
    rw [if_neg c]
    have k1 : ¬ (f.toNatClampNeg ≤ p.toNatClampNeg ∧ p.toNatClampNeg < t.toNatClampNeg) := by omega
    have k2 : ¬ (f.toNatClampNeg ≤ q.toNatClampNeg ∧ q.toNatClampNeg < t.toNatClampNeg) := by omega
    rw [decide_eq_false k1, decide_eq_false k2, Bool.and_false, Bool.and_false]
    rfl
theorem own_pw_bit (s : Bool) (i j : Nat) : (own_pw s i).testBit j = (s && decide (i = j)) := by
  cases s
  · simp [own_pw]
  · show (2 ^ i).testBit j = _
    rw [Nat.testBit_two_pow, Bool.true_and]
theorem own_con {N : Nat} {B : Nat → Int64} {W : Nat → Int32} {a b : Bool} {p q : Int32} (h : own_rep N B W a b p q) (ha : own_apart N a b p q) {x : Int32} (hx : own_ok N x) :
    own_f5_0 B x = own_b1 ((a && decide (x = p)) || (b && decide (x = q))) := by
  rw [own_has B hx.1]
  have k : own_mem B x = ((a && decide (x = p)) || (b && decide (x = q))) := by
    unfold own_mem
    rw [h.1 _ hx.2, Nat.testBit_xor, own_pw_bit, own_pw_bit]
    have e : ∀ {y : Int32}, own_ok N y → (y.toNatClampNeg / 64 == x.toNatClampNeg / 64 && decide (y.toNatClampNeg % 64 = x.toNatClampNeg % 64)) = decide (x = y) := by
      intro y hy
      rw [Bool.eq_iff_iff]
      simp only [Bool.and_eq_true, beq_iff_eq, decide_eq_true_eq]
      constructor
      · intro z; exact own_inj hx.1 hy.1 (by omega)
      · intro z; rw [z]; exact ⟨rfl, rfl⟩
    rw [Bool.and_assoc, Bool.and_assoc, e ha.1, e ha.2.1]
    have d := ha.2.2
    cases a <;> cases b <;> simp
    have d' := d rfl rfl
    by_cases u : x = p
    · have v : ¬ x = q := fun w => d' (u.symm.trans w)
      simp [u, v]
      intro w
      exact d' w
    · simp [u]
  rw [k]
  rfl
theorem own_hit1 {x f t : Int32} (hx : ¬ x < 0) (hf : ¬ f < 0) (ht : ¬ t < 0) (a : Bool) : own_f4_0 (own_b1 a) x f t = own_b1 (a && decide (f.toNatClampNeg ≤ x.toNatClampNeg ∧ x.toNatClampNeg < t.toNatClampNeg)) := by
  have e1 := own_ltN hx hf
  have e2 := own_ltN hx ht
  unfold own_f4_0
  cases a
  · rw [if_pos (by decide)]; rfl
  · rw [if_neg (by decide)]
    by_cases c1 : x < f
    · rw [if_pos c1, decide_eq_false (fun z => by have := e1.mp c1; omega)]; rfl
    · rw [if_neg c1]
      have c1' : ¬ x.toNatClampNeg < f.toNatClampNeg := fun z => c1 (e1.mpr z)
      by_cases c2 : x < t
      · rw [if_pos c2, decide_eq_true (show f.toNatClampNeg ≤ x.toNatClampNeg ∧ x.toNatClampNeg < t.toNatClampNeg from ⟨by omega, e2.mp c2⟩)]; rfl
      · rw [if_neg c2, decide_eq_false (fun z => c2 (e2.mpr z.2))]; rfl
theorem own_chain {N : Nat} {B : Nat → Int64} {W : Nat → Int32} {i0 i1 i2 i3 i4 i5 i6 i7 i8 i9 i10 i11 i12 i13 i14 i16 i17 i18 i19 t0 t1 : Int32} (c7 : own_f5_0 B i7 = i16) (c8 : own_f5_0 B i8 = i17) (c12 : own_f5_0 B i12 = i18) (v1 : own_f6_0 N B W i13 i14 = i19) (v2 : own_f6_0 N B W (0 : Int32) i6 = t1 + t0) :
    own_f0_291 N B W i0 i1 i2 i3 i4 i5 i6 i7 i8 i9 i10 i11 i12 i13 i14 i16 i17 i18 i19 t0 t1 = 1 := by
  unfold own_f0_291
  rw [if_pos c7]
  unfold own_f0_311
  rw [if_pos c8]
  unfold own_f0_330
  rw [if_pos c12]
  unfold own_f0_349
  rw [if_pos v1]
  unfold own_f0_370
  rw [if_pos v2]
  unfold own_f0_390
  rw [if_neg (by decide), if_neg (by decide), if_neg (by decide), if_neg (by decide), if_neg (by decide)]
theorem own_b1n : ¬ own_b1 true = 0 := by decide
theorem own_b1z : own_b1 false = 0 := rfl
theorem own_chain2 {N : Nat} {B : Nat → Int64} {W : Nat → Int32} {i0 i1 i2 i3 i4 i5 i6 i7 i8 i9 i10 i11 i12 i13 i14 i18 : Int32} {a c : Bool} (c7 : own_f5_0 B i7 = own_b1 a) (c8 : own_f5_0 B i8 = own_b1 c) (c12 : own_f5_0 B i12 = i18)
    (v1 : own_f6_0 N B W i13 i14 = own_f4_0 (own_b1 a) i7 i13 i14 + (if i9 = (0 : Int32) then (0 : Int32) else own_f4_0 (own_b1 c) i8 i13 i14)) (v2 : own_f6_0 N B W (0 : Int32) i6 = own_b1 a + (if i9 = (0 : Int32) then (0 : Int32) else own_b1 c)) :
    own_f0_230 N B W i0 i1 i2 i3 i4 i5 i6 i7 i8 i9 i10 i11 i12 i13 i14 (own_b1 a) (own_b1 c) i18 = 1 := by
  have e1 : (1 : Int32) = own_b1 true := rfl
  unfold own_f0_230
  by_cases d : i9 = 0
  · rw [if_pos d] at v1 v2 ⊢
    unfold own_f0_263
    cases a
    · rw [if_pos own_b1z]
      unfold own_f0_276 own_f0_290
      rw [if_pos d]
      exact own_chain c7 c8 c12 v1 v2
    · rw [if_neg own_b1n]
      unfold own_f0_276 own_f0_290
      rw [if_pos d]
      exact own_chain c7 c8 c12 v1 v2
  · rw [if_neg d] at v1 v2 ⊢
    unfold own_f0_263
    cases a
    · rw [if_pos own_b1z]
      unfold own_f0_276 own_f0_290
      rw [if_neg d]
      cases c
      · rw [if_pos own_b1z]
        exact own_chain c7 c8 c12 v1 v2
      · rw [if_neg own_b1n]
        exact own_chain c7 c8 c12 v1 v2
    · rw [if_neg own_b1n]
      unfold own_f0_276 own_f0_290
      rw [if_neg d]
      cases c
      · rw [if_pos own_b1z]
        exact own_chain c7 c8 c12 v1 v2
      · rw [if_neg own_b1n]
        exact own_chain c7 c8 c12 v1 v2
theorem own_chain3 {N : Nat} {B : Nat → Int64} {W : Nat → Int32} {i0 i1 i2 i3 i4 i5 i6 i7 i8 i9 i10 i11 i12 i13 i14 : Int32} {a c : Bool} (c7 : own_f5_0 B i7 = own_b1 a) (c8 : own_f5_0 B i8 = own_b1 c) (c12 : own_f5_0 B i12 = own_b1 ((a && decide (i12 = i7)) || (c && decide (i12 = i8))))
    (v1 : own_f6_0 N B W i13 i14 = own_f4_0 (own_b1 a) i7 i13 i14 + (if i9 = (0 : Int32) then (0 : Int32) else own_f4_0 (own_b1 c) i8 i13 i14)) (v2 : own_f6_0 N B W (0 : Int32) i6 = own_b1 a + (if i9 = (0 : Int32) then (0 : Int32) else own_b1 c)) :
    own_f0_199 N B W i0 i1 i2 i3 i4 i5 i6 i7 i8 i9 i10 i11 i12 i13 i14 (own_b1 a) (own_b1 c) = 1 := by
  have F : ∀ s : Bool, ((a && decide (i12 = i7)) || (c && decide (i12 = i8))) = s → own_f0_230 N B W i0 i1 i2 i3 i4 i5 i6 i7 i8 i9 i10 i11 i12 i13 i14 (own_b1 a) (own_b1 c) (own_b1 s) = 1 := fun s hs => own_chain2 c7 c8 (by rw [c12, hs]) v1 v2
  have Z : ((a && decide (i12 = i7)) || (c && decide (i12 = i8))) = false → own_f0_229 N B W i0 i1 i2 i3 i4 i5 i6 i7 i8 i9 i10 i11 i12 i13 i14 (own_b1 a) (own_b1 c) = 1 := fun hs => by
    unfold own_f0_229
    exact F false hs
  have O : ((a && decide (i12 = i7)) || (c && decide (i12 = i8))) = true → own_f0_225 N B W i0 i1 i2 i3 i4 i5 i6 i7 i8 i9 i10 i11 i12 i13 i14 (own_b1 a) (own_b1 c) = 1 := fun hs => by
    unfold own_f0_225
    exact F true hs
  have Y : (a && decide (i12 = i7)) = false → own_f0_213 N B W i0 i1 i2 i3 i4 i5 i6 i7 i8 i9 i10 i11 i12 i13 i14 (own_b1 a) (own_b1 c) = 1 := fun hs => by
    unfold own_f0_213
    by_cases r : i12 = i8
    · rw [if_pos r]
      cases c
      · rw [if_pos own_b1z]
        exact Z (by rw [hs, decide_eq_true r]; rfl)
      · rw [if_neg own_b1n]
        exact O (by rw [hs, decide_eq_true r]; rfl)
    · rw [if_neg r]
      exact Z (by rw [hs, decide_eq_false r, Bool.and_false]; rfl)
  unfold own_f0_199
  by_cases r : i12 = i7
  · rw [if_pos r]
    cases a
    · rw [if_pos own_b1z]
      exact Y rfl
    · rw [if_neg own_b1n]
      exact O (by rw [decide_eq_true r]; rfl)
  · rw [if_neg r]
    exact Y (by rw [decide_eq_false r, Bool.and_false])
/-- the law's end: what it has counted is what it looks for -/
theorem own_fin {N : Nat} {B : Nat → Int64} {W : Nat → Int32} {a b : Bool} {i0 i1 i2 i3 i4 i5 i6 i7 i8 i9 i10 i11 i12 i13 i14 : Int32} (h : own_rep N B W a b i7 i8) (HR : own_rg2 N i6 i7 i8 i12 i13 i14) (h7 : i7.toNatClampNeg < i6.toNatClampNeg) (h8 : i8.toNatClampNeg < i6.toNatClampNeg)
    (h10 : i10 = own_b1 (!a)) (h9 : (i9 = 0 ∧ b = false ∧ i8 = i7) ∨ (i9 = 1 ∧ i8 ≠ i7 ∧ i11 = own_b1 (!b))) : own_f0_167 N B W i0 i1 i2 i3 i4 i5 i6 i7 i8 i9 i10 i11 i12 i13 i14 = 1 := by
  obtain ⟨hN, o7, o8, o12, ⟨n13, m13⟩, ⟨n14, m14⟩, ⟨n6, m6⟩⟩ := HR
  have ha : own_apart N a b i7 i8 := ⟨o7, o8, fun _ hb z => by
    rcases h9 with ⟨_, q, _⟩ | ⟨_, q, _⟩
    · rw [q] at hb; cases hb
    · exact q z.symm⟩
  have c7 := own_con h ha o7
  have c8 := own_con h ha o8
  have c12 := own_con h ha o12
  have v1 := own_inv h ha hN n13 n14 m14
  have v2 := own_inv h ha hN (f := (0 : Int32)) (by decide) n6 m6
  have z0 : (0 : Int32).toNatClampNeg = 0 := rfl
  rw [decide_eq_true (show (0 : Int32).toNatClampNeg ≤ i7.toNatClampNeg ∧ i7.toNatClampNeg < i6.toNatClampNeg by rw [z0]; exact ⟨Nat.zero_le _, h7⟩), decide_eq_true (show (0 : Int32).toNatClampNeg ≤ i8.toNatClampNeg ∧ i8.toNatClampNeg < i6.toNatClampNeg by rw [z0]; exact ⟨Nat.zero_le _, h8⟩), Bool.and_true, Bool.and_true] at v2
  rw [← own_hit1 o7.1 n13 n14 a, ← own_hit1 o8.1 n13 n14 b] at v1
  rw [decide_eq_true (rfl : i7 = i7), Bool.and_true] at c7
  rw [decide_eq_true (rfl : i8 = i8), Bool.and_true] at c8
  have na : own_b1 (!a) = 0 ↔ a = true := by cases a <;> decide
  have nb : own_b1 (!b) = 0 ↔ b = true := by cases b <;> decide
  unfold own_f0_167
  rcases h9 with ⟨h9, rfl, h78⟩ | ⟨h9, hne, h11⟩
  · rw [h78] at c8 c7
    rw [Bool.false_and, Bool.or_false] at c7 c12
    rw [Bool.or_false, decide_eq_true (rfl : i7 = i7), Bool.and_true] at c8
    have v1' : own_f6_0 N B W i13 i14 = own_f4_0 (own_b1 a) i7 i13 i14 + (if i9 = (0 : Int32) then (0 : Int32) else own_f4_0 (own_b1 a) i8 i13 i14) := by
      rw [v1, if_pos h9, own_hit1 o8.1 n13 n14 false]; rfl
    have v2' : own_f6_0 N B W (0 : Int32) i6 = own_b1 a + (if i9 = (0 : Int32) then (0 : Int32) else own_b1 a) := by rw [v2, if_pos h9]; rfl
    have c12' : own_f5_0 B i12 = own_b1 ((a && decide (i12 = i7)) || (a && decide (i12 = i8))) := by rw [c12, h78, Bool.or_self]
    have G := fun j10 => own_chain3 (i0 := i0) (i1 := i1) (i2 := i2) (i3 := i3) (i4 := i4) (i5 := i5) (i10 := j10) (i11 := i11) c7 (by rw [h78]; exact c8) c12' v1' v2'
    by_cases r : i10 = 0
    · rw [if_pos r]
      unfold own_f0_177
      rw [if_pos h9]
      have t : a = true := na.mp (h10 ▸ r)
      subst t
      exact G i10
    · rw [if_neg r]
      unfold own_f0_177
      rw [if_pos h9]
      have t : a = false := Bool.of_not_eq_true fun z => r (h10 ▸ na.mpr z)
      subst t
      exact G i10
  · have hn9 : ¬ i9 = 0 := by rw [h9]; decide
    have hne' : ¬ i7 = i8 := fun z => hne z.symm
    rw [decide_eq_false hne', Bool.and_false, Bool.or_false] at c7
    rw [decide_eq_false hne, Bool.and_false, Bool.false_or] at c8
    have v1' : own_f6_0 N B W i13 i14 = own_f4_0 (own_b1 a) i7 i13 i14 + (if i9 = (0 : Int32) then (0 : Int32) else own_f4_0 (own_b1 b) i8 i13 i14) := by rw [v1, if_neg hn9]
    have v2' : own_f6_0 N B W (0 : Int32) i6 = own_b1 a + (if i9 = (0 : Int32) then (0 : Int32) else own_b1 b) := by rw [v2, if_neg hn9]
    have G := own_chain3 (i0 := i0) (i1 := i1) (i2 := i2) (i3 := i3) (i4 := i4) (i5 := i5) (i10 := i10) (i11 := i11) c7 c8 c12 v1' v2'
    have K : ∀ x, own_b1 a = x → own_f0_177 N B W i0 i1 i2 i3 i4 i5 i6 i7 i8 i9 i10 i11 i12 i13 i14 x = 1 := fun x hx => by
      subst hx
      unfold own_f0_177
      rw [if_neg hn9]
      by_cases r : i11 = 0
      · rw [if_pos r]
        have t : b = true := nb.mp (h11 ▸ r)
        subst t
        exact G
      · rw [if_neg r]
        have t : b = false := Bool.of_not_eq_true fun z => r (h11 ▸ nb.mpr z)
        subst t
        exact G
    by_cases r : i10 = 0
    · rw [if_pos r]
      have t : a = true := na.mp (h10 ▸ r)
      exact K 1 (by rw [t]; rfl)
    · rw [if_neg r]
      have t : a = false := Bool.of_not_eq_true fun z => r (h10 ▸ na.mpr z)
      exact K 0 (by rw [t]; rfl)
theorem own_p72 {i0 i1 i2 i3 i4 i5 i6 i7 i8 i9 i10 t0 : Int32} (HR : own_rg1 i6 i7 i8) (h9 : (i9 = 0 ∧ t0 = 0 ∧ i8 = i7) ∨ (i9 = 1 ∧ i8 ≠ i7 ∧ (t0 = 0 ∨ t0 = 1))) (h10 : i10 = 0 ∨ i10 = 1) : own_f0_72 i0 i1 i2 i3 i4 i5 i6 i7 i8 i9 i10 t0 = 1 := by
  have R2 := fun a b c => own_rg2_of HR a b c
  obtain ⟨-, -, -, ⟨p7, l7⟩, ⟨p8, l8⟩⟩ := HR
  have n10 : ¬ (1 : Int32) = 0 := by decide
  unfold own_f0_72 own_f0_141 own_f0_154
  rcases h9 with ⟨rfl, rfl, h78⟩ | ⟨rfl, hne, ht⟩
  · rw [if_pos rfl]
    rcases h10 with rfl | rfl
    · rw [if_pos rfl, if_pos rfl]
      exact own_fin (a := true) (b := false) (own_rep_in (own_rep_nil _ _ _) p7) (R2 _ _ _) l7 l8 rfl (Or.inl ⟨rfl, rfl, h78⟩)
    · rw [if_neg n10, if_pos rfl]
      exact own_fin (a := false) (b := false) (own_rep_out (own_rep_in (own_rep_nil _ _ _) p7) p7) (R2 _ _ _) l7 l8 rfl (Or.inl ⟨rfl, rfl, h78⟩)
  · rw [if_neg n10]
    have r1 := fun N => own_rep_sym (own_rep_in (own_rep_sym (own_rep_in (own_rep_nil N i7 i8) p7)) p8)
    rcases h10 with rfl | rfl
    · rw [if_pos rfl]
      rcases ht with rfl | rfl
      · rw [if_pos rfl]
        exact own_fin (a := true) (b := true) (r1 _) (R2 _ _ _) l7 l8 rfl (Or.inr ⟨rfl, hne, rfl⟩)
      · rw [if_neg n10]
        exact own_fin (a := true) (b := false) (own_rep_sym (own_rep_out (own_rep_sym (r1 _)) p8)) (R2 _ _ _) l7 l8 rfl (Or.inr ⟨rfl, hne, rfl⟩)
    · rw [if_neg n10]
      have r2 := fun N => own_rep_out (r1 N) p7
      rcases ht with rfl | rfl
      · rw [if_pos rfl]
        exact own_fin (a := false) (b := true) (r2 _) (R2 _ _ _) l7 l8 rfl (Or.inr ⟨rfl, hne, rfl⟩)
      · rw [if_neg n10]
        exact own_fin (a := false) (b := false) (own_rep_sym (own_rep_out (own_rep_sym (r2 _)) p8)) (R2 _ _ _) l7 l8 rfl (Or.inr ⟨rfl, hne, rfl⟩)
theorem own_p39 {i0 i1 i2 i3 i4 i5 i6 i7 i8 t0 : Int32} (HR : own_rg1 i6 i7 i8) (h9 : (t0 = 0 ∧ i8 = i7) ∨ (t0 = 1 ∧ i8 ≠ i7)) : own_f0_39 i0 i1 i2 i3 i4 i5 i6 i7 i8 t0 = 1 := by
  have n10 : ¬ (1 : Int32) = 0 := by decide
  have K : ∀ x : Int32, x = 0 ∨ x = 1 → own_f0_53 i0 i1 i2 i3 i4 i5 i6 i7 i8 t0 x = 1 := fun x hx => by
    unfold own_f0_53 own_f0_71
    rcases h9 with ⟨rfl, h78⟩ | ⟨rfl, hne⟩
    · rw [if_pos rfl]
      exact own_p72 HR (Or.inl ⟨rfl, rfl, h78⟩) hx
    · rw [if_neg n10]
      by_cases r : (i5 &&& (2 : Int32)) = 0
      · rw [if_pos r]
        exact own_p72 HR (Or.inr ⟨rfl, hne, Or.inl rfl⟩) hx
      · rw [if_neg r]
        exact own_p72 HR (Or.inr ⟨rfl, hne, Or.inr rfl⟩) hx
  unfold own_f0_39
  rw [K 0 (Or.inl rfl), K 1 (Or.inr rfl), ite_self]
theorem own_plain (x0 x1 x2 x3 x4 x5 : Int32) : own_f0_0 x0 x1 x2 x3 x4 x5 = 1 := by
  unfold own_f0_0
  by_cases r : ((x2 &&& (2147483647 : Int32)) % ((1 : Int32) + (x0 &&& (511 : Int32)))) = ((x1 &&& (2147483647 : Int32)) % ((1 : Int32) + (x0 &&& (511 : Int32))))
  · rw [if_pos r]
    exact own_p39 (own_rg1_in _ _ _) (Or.inl ⟨rfl, r⟩)
  · rw [if_neg r]
    exact own_p39 (own_rg1_in _ _ _) (Or.inr ⟨rfl, r⟩)
set_option maxRecDepth 65536 in
set_option maxHeartbeats 4000000 in
theorem own_comes {Post : Tables → Env → Array Value → State → Outcome → State → Prop} (hpost : ∀ tb e args s v u, (limb_1_1.after args s (.returned v) u = true ∧ limb_1_2.after args s (.returned v) u = true) → FrameEnd s (.returned v) u (Jvm.fieldLocs frame_1_writes args s ++ Jvm.arrayLocs frame_1_arrays args s ++ Jvm.staticLocs frame_1_statics s) 16 128 → Post tb e args s (.returned v) u) :
    ArmFor flags0 classFile x code maxLocals ret World_1 tables_1 room_1 Calls_1 rest_1 Pre_1 Post := by
  intro l hfl _ _ p e ha hc hk s m args below hf hA hF happ hP
  obtain ⟨hcalls, hrest, hpre⟩ := hP
  obtain ⟨-, -, -, hnamed, -, -, -, hat⟩ := (Spec.applies_iff hf).mp happ
  obtain ⟨hg, hn⟩ := and_e (Cond.before_iff.mp (show (Jvm.Cond.and given_1 narrow_1).before args s = true from hpre))
  obtain ⟨hcnt, hg0⟩ := and_e hg
  obtain ⟨ha0, hg1⟩ := and_e hg0
  obtain ⟨ha1, hg2⟩ := and_e hg1
  obtain ⟨ha2, hg3⟩ := and_e hg2
  obtain ⟨ha3, hg4⟩ := and_e hg3
  obtain ⟨ha4, hg5⟩ := and_e hg4
  have ha5 := hg5
  obtain ⟨w0, w1, w2, w3, w4, w5, rfl⟩ : ∃ w0 w1 w2 w3 w4 w5 : Value, args = #[w0, w1, w2, w3, w4, w5] := by
    have hs : args.size = 6 := by simpa [Cond.value, given_1] using hcnt
    obtain ⟨L⟩ := args
    match L, hs with
    | [w0, w1, w2, w3, w4, w5], _ => exact ⟨w0, w1, w2, w3, w4, w5, rfl⟩
  have hw := fun d (hd : d ∈ tables_1) => atoms_spec (ws := Jvm.Cond.code x code maxLocals ret :: tables_1) hat d (List.mem_cons_of_mem _ hd)
  obtain ⟨v0, ev0⟩ := is_v ha0
  obtain rfl : w0 = (.int v0) := Option.some.inj ev0
  obtain ⟨v1, ev1⟩ := is_v ha1
  obtain rfl : w1 = (.int v1) := Option.some.inj ev1
  obtain ⟨v2, ev2⟩ := is_v ha2
  obtain rfl : w2 = (.int v2) := Option.some.inj ev2
  obtain ⟨v3, ev3⟩ := is_v ha3
  obtain rfl : w3 = (.int v3) := Option.some.inj ev3
  obtain ⟨v4, ev4⟩ := is_v ha4
  obtain rfl : w4 = (.int v4) := Option.some.inj ev4
  obtain ⟨v5, ev5⟩ := is_v ha5
  obtain rfl : w5 = (.int v5) := Option.some.inj ev5
  obtain ⟨n, o, h1, h2, h3, _, L, rfl, ⟨rfl, N, _⟩, hq⟩ := own_rm0 l s _ hw tables_1 v0 v1 v2 v3 v4 v5 s.heap s.heap.size (Nat.le_refl _) p e ha hc hk s m _ below hf ((Spec.applies_iff_loose hf).mp happ).1 ⟨rfl, State.Warmed39.refl s, rfl⟩ trivial
  refine ⟨n, _, h1, h2, h3, hpost _ _ _ _ _ _ ⟨Cond.after_iff.mpr rfl, Cond.after_iff.mpr (eq_i res_at (Term.int_eval (1)) (congrArg Value.int (own_plain v0 v1 v2 v3 v4 v5)))⟩ ⟨hq.1, hq.2.1, (hq.2.2.sift fun y hy => Or.inr (N y hy)).mono (by decide) (by decide)⟩⟩
theorem main_1_1 : Claimed_1_1 := own_comes fun _ _ _ _ _ _ h hF => ⟨h.1, hF⟩
theorem main_1_2 : Claimed_1_2 := own_comes fun _ _ _ _ _ _ h hF => ⟨h.2, hF⟩
end Jvm.Pilot.@@N@@
namespace Jvm.Pilot.@@N@@
open Jvm Jvm.ClassFile Sem Op Lib Jvm.Free Jvm.Stand Jvm.Pilot.@@N@@.Jvm.D
/-! MADE BY PROGRAM (witnessworld.py) out of the Statement's table words and the real class files: 16 classes; the members and pool entries that the words name. The judged class is class 1, her method 2. -/
namespace start1
open Jvm.ClassFile
def u (s : String) : CpInfo := .utf8 (stringToUtf16 s)
/-- a pool by its gaps: so many unusable entries, then the entry; so many at the end -/
def gap : Nat → List CpInfo → List CpInfo
  | 0, r => r
  | n + 1, r => .unusable :: gap n r
def poolList (es : List (Nat × CpInfo)) (last : Nat) : List CpInfo := es.foldr (fun e r => gap e.1 (e.2 :: r)) (gap last [])
def pool (es : List (Nat × CpInfo)) (last : Nat) : Array CpInfo := ⟨poolList es last⟩
def fileOf (pool : Array CpInfo) (this : Nat) (attrs : Array Attribute := #[]) (ms : Array MethodInfo := #[]) (fl : Nat := 33) (sup : Nat := 0) (ifs : Array Nat := #[]) (fds : Array FieldInfo := #[]) : ClassFile where
  minorVersion := 0
  majorVersion := 65
  constantPool := pool
  accessFlags := fl
  thisClass := this
  superClass := sup
  interfaces := ifs
  fields := fds
  methods := ms
  attributes := attrs
def plain (name : String) (sup : Option ClassId) : Class where
  name := name
  kind := .ordinary
  loader := none
  accessFlags := 33
  super := sup
  interfaces := #[]
  cf := none
  fields := #[]
  methods := #[]
  instanceTypes := #[]
  staticTypes := #[]
  resolved := #[]
  callSites := []
  init := .initialized
  statics := none
  mirror := none

def pool0 : Array CpInfo := pool [(5, u "<init>"), (0, u "()V"), (1, .class_ 10), (1, u "java/lang/Object")] 113

def k0c0 : Code := { maxStack := 0, maxLocals := 1, code := object_method_1_code, exceptionTable := #[], attributes := #[] }
def k0m0 : Method := { name := "<init>", desc := "()V", sig := { parameters := [], returnType := none }, accessFlags := 1, code := some k0c0 }
/-- java/lang/Object -/
def k0 : Class := { plain "java/lang/Object" none with
  accessFlags := 33
  interfaces := #[]
  cf := some (fileOf pool0 8 #[] #[{ accessFlags := 1, nameIndex := 5, descriptorIndex := 6, attributes := #[] }] 33 0 #[] #[])
  fields := #[]
  methods := #[k0m0]
  instanceTypes := #[]
  staticTypes := #[]
  resolved := Array.replicate 124 none
  statics := none }

def pool1 : Array CpInfo := pool [(2, .class_ 4), (1, u "java/lang/Object"), (0, u "<init>"), (0, u "()V"), (0, .integer 2147483647), (0, .class_ 9), (0, u "com/example/furl/furl/tree/PositionCounts"), (0, .methodref 8 11), (0, .nameAndType 5 12), (0, u "(I)V"), (0, .methodref 8 14), (0, .nameAndType 15 16), (0, u "add"), (0, u "(II)V"), (0, .methodref 18 19), (0, .class_ 20), (0, .nameAndType 21 22), (0, u "com/example/furl/furl/tree/PositionCountsAddPinLaw"), (0, u "hit"), (0, u "(ZIII)I"), (0, .methodref 8 24), (0, .nameAndType 25 26), (0, u "contains"), (0, u "(I)Z"), (0, .methodref 8 28), (0, .nameAndType 29 30), (0, u "in"), (0, u "(II)I"), (3, u "law"), (0, u "(IIIIII)Z")] 2

def k1m0 : Method := { name := "<init>", desc := "()V", sig := { parameters := [], returnType := none }, accessFlags := 1, code := none }
def k1c1 : Code := { maxStack := 2, maxLocals := 4, code := method_2_code, exceptionTable := #[], attributes := #[] }
def k1m1 : Method := { name := "hit", desc := "(ZIII)I", sig := { parameters := [.boolean, .int, .int, .int], returnType := some .int }, accessFlags := 10, code := some k1c1 }
def k1c2 : Code := { maxStack := 5, maxLocals := 26, code := code, exceptionTable := #[], attributes := #[] }
def k1m2 : Method := { name := "law", desc := "(IIIIII)Z", sig := { parameters := [.int, .int, .int, .int, .int, .int], returnType := some .boolean }, accessFlags := 9, code := some k1c2 }
/-- com/example/furl/furl/tree/PositionCountsAddPinLaw -/
def k1 : Class := { plain "com/example/furl/furl/tree/PositionCountsAddPinLaw" (some 0) with
  accessFlags := 49
  interfaces := #[]
  cf := some (fileOf pool1 18 #[] #[{ accessFlags := 1, nameIndex := 5, descriptorIndex := 6, attributes := #[] }, { accessFlags := 10, nameIndex := 21, descriptorIndex := 22, attributes := #[] }, { accessFlags := 9, nameIndex := 34, descriptorIndex := 35, attributes := #[] }] 49 2 #[] #[])
  fields := #[]
  methods := #[k1m0, k1m1, k1m2]
  instanceTypes := #[]
  staticTypes := #[]
  resolved := Array.replicate 38 none
  statics := none }

def pool2 : Array CpInfo := pool [(1, .methodref 2 3), (0, .class_ 4), (0, .nameAndType 5 6), (0, u "java/lang/Object"), (0, u "<init>"), (0, u "()V"), (0, .fieldref 8 9), (0, .class_ 10), (0, .nameAndType 11 12), (0, u "com/example/furl/furl/tree/PositionCounts"), (0, u "bits"), (0, u "[J"), (0, .fieldref 8 14), (0, .nameAndType 15 16), (0, u "words"), (0, u "[I"), (0, .long 18446744073709551615), (1, .methodref 20 21), (0, .class_ 22), (0, .nameAndType 23 24), (0, u "java/lang/Long"), (0, u "bitCount"), (0, u "(J)I"), (0, .methodref 8 26), (0, .nameAndType 27 28), (0, u "before"), (0, u "(I)I"), (0, u "(I)V"), (2, u "add"), (0, u "(II)V"), (1, u "contains"), (0, u "(I)Z"), (0, u "in"), (0, u "(II)I")] 2

def k2c0 : Code := { maxStack := 3, maxLocals := 2, code := prog_112_method_1_code, exceptionTable := #[], attributes := #[] }
def k2m0 : Method := { name := "<init>", desc := "(I)V", sig := { parameters := [.int], returnType := none }, accessFlags := 0, code := some k2c0 }
def k2c1 : Code := { maxStack := 7, maxLocals := 4, code := prog_112_method_2_code, exceptionTable := #[], attributes := #[] }
def k2m1 : Method := { name := "add", desc := "(II)V", sig := { parameters := [.int, .int], returnType := none }, accessFlags := 0, code := some k2c1 }
def k2c2 : Code := { maxStack := 5, maxLocals := 2, code := prog_112_method_3_code, exceptionTable := #[], attributes := #[] }
def k2m2 : Method := { name := "contains", desc := "(I)Z", sig := { parameters := [.int], returnType := some .boolean }, accessFlags := 0, code := some k2c2 }
def k2c3 : Code := { maxStack := 6, maxLocals := 4, code := prog_112_method_4_code, exceptionTable := #[], attributes := #[] }
def k2m3 : Method := { name := "in", desc := "(II)I", sig := { parameters := [.int, .int], returnType := some .int }, accessFlags := 0, code := some k2c3 }
def k2c4 : Code := { maxStack := 6, maxLocals := 5, code := prog_112_method_5_code, exceptionTable := #[], attributes := #[] }
def k2m4 : Method := { name := "before", desc := "(I)I", sig := { parameters := [.int], returnType := some .int }, accessFlags := 2, code := some k2c4 }
/-- com/example/furl/furl/tree/PositionCounts -/
def k2 : Class := { plain "com/example/furl/furl/tree/PositionCounts" (some 0) with
  accessFlags := 48
  interfaces := #[]
  cf := some (fileOf pool2 8 #[] #[{ accessFlags := 0, nameIndex := 5, descriptorIndex := 29, attributes := #[] }, { accessFlags := 0, nameIndex := 32, descriptorIndex := 33, attributes := #[] }, { accessFlags := 0, nameIndex := 35, descriptorIndex := 36, attributes := #[] }, { accessFlags := 0, nameIndex := 37, descriptorIndex := 38, attributes := #[] }, { accessFlags := 2, nameIndex := 27, descriptorIndex := 28, attributes := #[] }] 48 2 #[] #[{ accessFlags := 18, nameIndex := 11, descriptorIndex := 12, attributes := #[] }, { accessFlags := 18, nameIndex := 15, descriptorIndex := 16, attributes := #[] }])
  fields := #[{ name := "bits", type := (.array .long), accessFlags := 18, slot := 0, constantValue := 0 }, { name := "words", type := (.array .int), accessFlags := 18, slot := 1, constantValue := 0 }]
  methods := #[k2m0, k2m1, k2m2, k2m3, k2m4]
  instanceTypes := #[(.array .long), (.array .int)]
  staticTypes := #[]
  resolved := Array.replicate 41 none
  statics := none }

def pool3 : Array CpInfo := pool [(1, .class_ 2), (0, u "java/io/Serializable"), (0, .class_ 4), (0, u "java/lang/Object")] 2

/-- java/io/Serializable -/
def k3 : Class := { plain "java/io/Serializable" (some 0) with
  accessFlags := 1537
  interfaces := #[]
  cf := some (fileOf pool3 1 #[] #[] 1537 3 #[] #[])
  fields := #[]
  methods := #[]
  instanceTypes := #[]
  staticTypes := #[]
  resolved := Array.replicate 7 none
  statics := none }

def pool4 : Array CpInfo := pool [(2, .class_ 4), (1, u "java/lang/Object"), (0, u "<init>"), (0, u "()V"), (1, .class_ 10), (1, u "java/lang/Number"), (2, .class_ 14), (0, u "java/io/Serializable"), (0, u "serialVersionUID"), (0, u "J")] 20

def k4m0 : Method := { name := "<init>", desc := "()V", sig := { parameters := [], returnType := none }, accessFlags := 1, code := none }
/-- java/lang/Number -/
def k4 : Class := { plain "java/lang/Number" (some 0) with
  accessFlags := 1057
  interfaces := #[3]
  cf := some (fileOf pool4 8 #[] #[{ accessFlags := 1, nameIndex := 5, descriptorIndex := 6, attributes := #[] }] 1057 2 #[13] #[{ accessFlags := 26, nameIndex := 15, descriptorIndex := 16, attributes := #[] }])
  fields := #[{ name := "serialVersionUID", type := .long, accessFlags := 26, slot := 0, constantValue := 0 }]
  methods := #[k4m0]
  instanceTypes := #[]
  staticTypes := #[.long]
  resolved := Array.replicate 37 none
  statics := none }

def pool5 : Array CpInfo := pool [(1, .class_ 2), (0, u "java/lang/Comparable"), (0, .class_ 4), (0, u "java/lang/Object")] 7

/-- java/lang/Comparable -/
def k5 : Class := { plain "java/lang/Comparable" (some 0) with
  accessFlags := 1537
  interfaces := #[]
  cf := some (fileOf pool5 1 #[] #[] 1537 3 #[] #[])
  fields := #[]
  methods := #[]
  instanceTypes := #[]
  staticTypes := #[]
  resolved := Array.replicate 12 none
  statics := none }

def pool6 : Array CpInfo := pool [(1, .class_ 2), (0, u "java/lang/constant/Constable"), (0, .class_ 4), (0, u "java/lang/Object")] 6

/-- java/lang/constant/Constable -/
def k6 : Class := { plain "java/lang/constant/Constable" (some 0) with
  accessFlags := 1537
  interfaces := #[]
  cf := some (fileOf pool6 1 #[] #[] 1537 3 #[] #[])
  fields := #[]
  methods := #[]
  instanceTypes := #[]
  staticTypes := #[]
  resolved := Array.replicate 11 none
  statics := none }

def pool7 : Array CpInfo := pool [(1, .class_ 2), (0, u "java/lang/constant/ConstantDesc"), (0, .class_ 4), (0, u "java/lang/Object")] 32

/-- java/lang/constant/ConstantDesc -/
def k7 : Class := { plain "java/lang/constant/ConstantDesc" (some 0) with
  accessFlags := 1537
  interfaces := #[]
  cf := some (fileOf pool7 1 #[] #[] 1537 3 #[] #[])
  fields := #[]
  methods := #[]
  instanceTypes := #[]
  staticTypes := #[]
  resolved := Array.replicate 37 none
  statics := none }

def pool8 : Array CpInfo := pool [(1, .class_ 2), (0, u "java/lang/Long"), (98, u "(J)I"), (133, .class_ 237), (1, u "java/lang/Long$LongCache"), (33, .class_ 272), (0, u "java/lang/Number"), (2, u "value"), (0, u "J"), (37, .long 6148914691236517205), (1, .long 3689348814741910323), (1, .long 1085102592571150095), (42, u "TYPE"), (0, u "Ljava/lang/Class;"), (0, .class_ 364), (0, u "java/lang/Comparable"), (0, .class_ 366), (0, u "java/lang/constant/Constable"), (0, .class_ 368), (0, u "java/lang/constant/ConstantDesc"), (0, u "MIN_VALUE"), (1, u "MAX_VALUE"), (4, u "SIZE"), (0, u "I"), (1, u "BYTES"), (1, u "serialVersionUID"), (94, u "bitCount")] 47

def k8c0 : Code := { maxStack := 6, maxLocals := 2, code := jdk_35_method_50_code, exceptionTable := #[], attributes := #[] }
def k8m0 : Method := { name := "bitCount", desc := "(J)I", sig := { parameters := [.long], returnType := some .int }, accessFlags := 9, code := some k8c0 }
/-- java/lang/Long -/
def k8 : Class := { plain "java/lang/Long" (some 4) with
  accessFlags := 49
  interfaces := #[5, 6, 7]
  cf := some (fileOf pool8 1 #[.nestMembers #[235]] #[{ accessFlags := 9, nameIndex := 476, descriptorIndex := 101, attributes := #[] }] 49 271 #[363, 365, 367] #[{ accessFlags := 25, nameIndex := 369, descriptorIndex := 276, attributes := #[] }, { accessFlags := 25, nameIndex := 371, descriptorIndex := 276, attributes := #[] }, { accessFlags := 25, nameIndex := 361, descriptorIndex := 362, attributes := #[] }, { accessFlags := 18, nameIndex := 275, descriptorIndex := 276, attributes := #[] }, { accessFlags := 25, nameIndex := 376, descriptorIndex := 377, attributes := #[] }, { accessFlags := 25, nameIndex := 379, descriptorIndex := 377, attributes := #[] }, { accessFlags := 26, nameIndex := 381, descriptorIndex := 276, attributes := #[] }])
  fields := #[{ name := "MIN_VALUE", type := .long, accessFlags := 25, slot := 0, constantValue := 0 }, { name := "MAX_VALUE", type := .long, accessFlags := 25, slot := 1, constantValue := 0 }, { name := "TYPE", type := (.object "java/lang/Class"), accessFlags := 25, slot := 2, constantValue := 0 }, { name := "value", type := .long, accessFlags := 18, slot := 0, constantValue := 0 }, { name := "SIZE", type := .int, accessFlags := 25, slot := 3, constantValue := 0 }, { name := "BYTES", type := .int, accessFlags := 25, slot := 4, constantValue := 0 }, { name := "serialVersionUID", type := .long, accessFlags := 26, slot := 5, constantValue := 0 }]
  methods := #[k8m0]
  instanceTypes := #[.long]
  staticTypes := #[.long, .long, (.object "java/lang/Class"), .int, .int, .long]
  resolved := Array.replicate 524 none
  statics := none }

def pool9 : Array CpInfo := pool [(1, u "java/lang/Cloneable"), (0, .class_ 1), (0, u "java/lang/Object"), (0, .class_ 3)] 3

/-- java/lang/Cloneable -/
def k9 : Class := { plain "java/lang/Cloneable" (some 0) with
  accessFlags := 1537
  interfaces := #[]
  cf := some (fileOf pool9 2 #[] #[] 1537 4 #[] #[])
  fields := #[]
  methods := #[]
  instanceTypes := #[]
  staticTypes := #[]
  resolved := Array.replicate 8 none
  statics := none }

/-- the primitive byte -/
def k10 : Class := { plain "byte" none with kind := .primitive 'B', accessFlags := 0x411 }
/-- [B -/
def k11 : Class := { plain "[B" (some 0) with kind := .array 10 .byte, interfaces := #[9, 3], accessFlags := 1041 }

/-- the primitive int -/
def k12 : Class := { plain "int" none with kind := .primitive 'I', accessFlags := 0x411 }
/-- [I -/
def k13 : Class := { plain "[I" (some 0) with kind := .array 12 .int, interfaces := #[9, 3], accessFlags := 1041 }

/-- the primitive long -/
def k14 : Class := { plain "long" none with kind := .primitive 'J', accessFlags := 0x411 }
/-- [J -/
def k15 : Class := { plain "[J" (some 0) with kind := .array 14 .long, interfaces := #[9, 3], accessFlags := 1041 }

def heap : Heap := #[]
def classes : Array Class := #[k0, k1, k2, k3, k4, k5, k6, k7, k8, k9, k10, k11, k12, k13, k14, k15]
def interned : List (Array UInt16 × Addr) := []
def slotsUsed : Nat := 0
def theMethod : MethodId := ⟨1, 2⟩
def args0 : Array Value := #[.int 5, .int 7, .int 5, .int 7, .int 5, .int 3]
def aboutOver (below : List Frame) : State where
  vm := { classes := classes, interned := interned.toArray }
  heap := heap
  slotsUsed := slotsUsed
  threads := #[{ frames := .invoking theMethod args0 :: below }]
def below0 : List Frame := [.native { method := ⟨0, 0⟩, args := #[] }]
def about1 : State := aboutOver below0
def p0 : Program := .bare "" "" ""
def e0 : Env := launch0.env 0 0 0
theorem w_frames : about1.frames = Frame.invoking theMethod args0 :: below0 := rfl
set_option maxRecDepth 65536 in
theorem w_args : argsFit about1.vm theMethod args0 = true := by decide +kernel
set_option maxRecDepth 65536 in
theorem w_heap : heapFits about1 = true := by decide +kernel
set_option maxRecDepth 65536 in
theorem w_runnable : about1.curStatus? = some .runnable := by decide +kernel
set_option maxRecDepth 65536 in
theorem w_alone : about1.alone = true := by decide +kernel
set_option maxRecDepth 65536 in
theorem w_named : about1.methodNamed? x = some theMethod := by decide +kernel
set_option maxRecDepth 65536 in
theorem w_hears : about1.hears theMethod below0 = true := by decide +kernel
set_option maxRecDepth 65536 in
theorem w_ripe : about1.ripe theMethod args0 below0 = true := by decide +kernel
theorem w_running : about1.status = .running := rfl
set_option maxRecDepth 65536 in
theorem w_room : about1.hasRoom e0.platform room_1 = true :=
  launch0.hasRoom_least _ room_1 (by decide +kernel) (by decide +kernel) (by decide +kernel) (by decide +kernel) (by decide +kernel) (by decide +kernel)
theorem allAtoms_all (ts : List Jvm.Cond) (a : Array Jvm.Value) (st : Jvm.State) : (allAtoms ts).before a st = ts.all (fun c => c.before a st) := by
  induction ts with
  | nil => rfl
  | cons c t ih =>
    show (Jvm.Cond.and c (allAtoms t)).before a st = _
    rw [Jvm.Cond.before_and, ih, List.all_cons]
def words1 : List Jvm.Cond := Jvm.Cond.code x code maxLocals ret :: tables_1
/-- a 'code' word, met by the world's own term for the bytes: nothing is compared byte by byte -/
theorem code_word {y : MethodName} {bytes : ByteArray} {mx : Nat} {rt : Option FieldType} {a : Array Value} {s : State} {m : MethodId} {meth : Method} {c : Code} (h1 : s.methodNamed? y = some m) (h2 : s.vm.method? m = some meth) (h3 : meth.code = some c) (h4 : c.code = bytes)
    (h5 : (c.maxLocals == mx && c.exceptionTable.isEmpty && decide (c.maxStack ≤ mostOperands) && decide (meth.sig.returnType = rt) && !meth.locks && decide (parseMethodDescriptor y.desc = some meth.sig)) = true) : (Jvm.Cond.code y bytes mx rt).before a s = true := by
  simp only [Bool.and_eq_true, beq_iff_eq, Bool.not_eq_true', decide_eq_true_eq] at h5
  obtain ⟨⟨⟨⟨⟨g1, g2⟩, g3⟩, g4⟩, g5⟩, g6⟩ := h5
  simp [Cond.before, Cond.holds, Cond.value, h1, h2, h3, h4, g1, g2, g3, g4, g5, g6]
def isCode : Jvm.Cond → Bool
  | .code _ _ _ _ => true
  | _ => false
theorem all_split {L : List Jvm.Cond} {P : Jvm.Cond → Bool} (h1 : L.all (fun c => isCode c || P c) = true) (h2 : ∀ c ∈ L.filter isCode, P c = true) : L.all P = true := by
  refine List.all_eq_true.mpr fun c hc => ?_
  have h := List.all_eq_true.mp h1 c hc
  rcases Bool.eq_false_or_eq_true (isCode c) with hi | hi
  · exact h2 c (List.mem_filter.mpr ⟨hc, hi⟩)
  · simpa [hi] using h
set_option maxRecDepth 65536 in
theorem w_c0 : (Jvm.Cond.code x code maxLocals ret).before args0 about1 = true := code_word (m := ⟨1, 2⟩) (meth := k1m2) (c := k1c2) (by decide +kernel) rfl rfl rfl (by decide +kernel)
set_option maxRecDepth 65536 in
theorem w_c1 : (Jvm.Cond.code ({ cls := "com/example/furl/furl/tree/PositionCounts", name := "<init>", desc := "(I)V" } : Jvm.MethodName) prog_112_method_1_code (2 : Nat) (Option.none : Option Jvm.ClassFile.FieldType)).before args0 about1 = true := code_word (m := ⟨2, 0⟩) (meth := k2m0) (c := k2c0) (by decide +kernel) rfl rfl rfl (by decide +kernel)
set_option maxRecDepth 65536 in
theorem w_c2 : (Jvm.Cond.code ({ cls := "java/lang/Object", name := "<init>", desc := "()V" } : Jvm.MethodName) object_method_1_code (1 : Nat) (Option.none : Option Jvm.ClassFile.FieldType)).before args0 about1 = true := code_word (m := ⟨0, 0⟩) (meth := k0m0) (c := k0c0) (by decide +kernel) rfl rfl rfl (by decide +kernel)
set_option maxRecDepth 65536 in
theorem w_c3 : (Jvm.Cond.code ({ cls := "com/example/furl/furl/tree/PositionCounts", name := "add", desc := "(II)V" } : Jvm.MethodName) prog_112_method_2_code (4 : Nat) (Option.none : Option Jvm.ClassFile.FieldType)).before args0 about1 = true := code_word (m := ⟨2, 1⟩) (meth := k2m1) (c := k2c1) (by decide +kernel) rfl rfl rfl (by decide +kernel)
set_option maxRecDepth 65536 in
theorem w_c4 : (Jvm.Cond.code ({ cls := "com/example/furl/furl/tree/PositionCountsAddPinLaw", name := "hit", desc := "(ZIII)I" } : Jvm.MethodName) method_2_code (4 : Nat) (Option.some Jvm.ClassFile.FieldType.int)).before args0 about1 = true := code_word (m := ⟨1, 1⟩) (meth := k1m1) (c := k1c1) (by decide +kernel) rfl rfl rfl (by decide +kernel)
set_option maxRecDepth 65536 in
theorem w_c5 : (Jvm.Cond.code ({ cls := "com/example/furl/furl/tree/PositionCounts", name := "contains", desc := "(I)Z" } : Jvm.MethodName) prog_112_method_3_code (2 : Nat) (Option.some Jvm.ClassFile.FieldType.boolean)).before args0 about1 = true := code_word (m := ⟨2, 2⟩) (meth := k2m2) (c := k2c2) (by decide +kernel) rfl rfl rfl (by decide +kernel)
set_option maxRecDepth 65536 in
theorem w_c6 : (Jvm.Cond.code ({ cls := "com/example/furl/furl/tree/PositionCounts", name := "in", desc := "(II)I" } : Jvm.MethodName) prog_112_method_4_code (4 : Nat) (Option.some Jvm.ClassFile.FieldType.int)).before args0 about1 = true := code_word (m := ⟨2, 3⟩) (meth := k2m3) (c := k2c3) (by decide +kernel) rfl rfl rfl (by decide +kernel)
set_option maxRecDepth 65536 in
theorem w_c7 : (Jvm.Cond.code ({ cls := "java/lang/Long", name := "bitCount", desc := "(J)I" } : Jvm.MethodName) jdk_35_method_50_code (2 : Nat) (Option.some Jvm.ClassFile.FieldType.int)).before args0 about1 = true := code_word (m := ⟨8, 0⟩) (meth := k8m0) (c := k8c0) (by decide +kernel) rfl rfl rfl (by decide +kernel)
set_option maxRecDepth 65536 in
theorem w_c8 : (Jvm.Cond.code ({ cls := "com/example/furl/furl/tree/PositionCounts", name := "before", desc := "(I)I" } : Jvm.MethodName) prog_112_method_5_code (5 : Nat) (Option.some Jvm.ClassFile.FieldType.int)).before args0 about1 = true := code_word (m := ⟨2, 4⟩) (meth := k2m4) (c := k2c4) (by decide +kernel) rfl rfl rfl (by decide +kernel)
def codes1 : List Jvm.Cond := [Jvm.Cond.code x code maxLocals ret, Jvm.Cond.code ({ cls := "com/example/furl/furl/tree/PositionCounts", name := "<init>", desc := "(I)V" } : Jvm.MethodName) prog_112_method_1_code (2 : Nat) (Option.none : Option Jvm.ClassFile.FieldType), Jvm.Cond.code ({ cls := "java/lang/Object", name := "<init>", desc := "()V" } : Jvm.MethodName) object_method_1_code (1 : Nat) (Option.none : Option Jvm.ClassFile.FieldType), Jvm.Cond.code ({ cls := "com/example/furl/furl/tree/PositionCounts", name := "add", desc := "(II)V" } : Jvm.MethodName) prog_112_method_2_code (4 : Nat) (Option.none : Option Jvm.ClassFile.FieldType), Jvm.Cond.code ({ cls := "com/example/furl/furl/tree/PositionCountsAddPinLaw", name := "hit", desc := "(ZIII)I" } : Jvm.MethodName) method_2_code (4 : Nat) (Option.some Jvm.ClassFile.FieldType.int), Jvm.Cond.code ({ cls := "com/example/furl/furl/tree/PositionCounts", name := "contains", desc := "(I)Z" } : Jvm.MethodName) prog_112_method_3_code (2 : Nat) (Option.some Jvm.ClassFile.FieldType.boolean), Jvm.Cond.code ({ cls := "com/example/furl/furl/tree/PositionCounts", name := "in", desc := "(II)I" } : Jvm.MethodName) prog_112_method_4_code (4 : Nat) (Option.some Jvm.ClassFile.FieldType.int), Jvm.Cond.code ({ cls := "java/lang/Long", name := "bitCount", desc := "(J)I" } : Jvm.MethodName) jdk_35_method_50_code (2 : Nat) (Option.some Jvm.ClassFile.FieldType.int), Jvm.Cond.code ({ cls := "com/example/furl/furl/tree/PositionCounts", name := "before", desc := "(I)I" } : Jvm.MethodName) prog_112_method_5_code (5 : Nat) (Option.some Jvm.ClassFile.FieldType.int)]
set_option maxRecDepth 65536 in
theorem codes_eq : words1.filter isCode = codes1 := rfl
theorem w_codes : ∀ c ∈ words1.filter isCode, c.before args0 about1 = true := by
  rw [codes_eq]
  intro c hc
  simp only [codes1, List.mem_cons, List.not_mem_nil, or_false] at hc
  rcases hc with rfl | rfl | rfl | rfl | rfl | rfl | rfl | rfl | rfl
  · exact w_c0
  · exact w_c1
  · exact w_c2
  · exact w_c3
  · exact w_c4
  · exact w_c5
  · exact w_c6
  · exact w_c7
  · exact w_c8
set_option maxRecDepth 65536 in
theorem w_t1 : (words1.take 24).all (fun c => isCode c || c.before args0 about1) = true := by decide +kernel
set_option maxRecDepth 65536 in
theorem w_t2 : (words1.drop 24).all (fun c => isCode c || c.before args0 about1) = true := by decide +kernel
theorem w_tables : (allAtoms (Jvm.Cond.code x code maxLocals ret :: tables_1)).before args0 about1 = true := by
  rw [allAtoms_all]
  show words1.all (fun c => c.before args0 about1) = true
  refine all_split ?_ w_codes
  rw [← List.take_append_drop 24 words1, List.all_append, w_t1, w_t2]
  rfl
set_option maxRecDepth 65536 in
theorem w_case : (Jvm.Cond.and given_1 narrow_1).before args0 about1 = true := by decide +kernel
theorem w_applies : (headSpec (Jvm.Cond.code x code maxLocals ret :: tables_1) room_1).applies x e0.platform about1 = true :=
  (Spec.applies_iff w_frames).mpr ⟨w_running, w_runnable, w_alone, w_named, w_hears, w_ripe, w_room, w_tables⟩
theorem atStart : AtStart classFile x code maxLocals ret World_1 tables_1 room_1 Calls_1 rest_1 Pre_1 launch0 p0 e0 about1 theMethod args0 below0 :=
  ⟨lists_1, trivial, launch0.admits_env _ _ _, launch0.least_env, fairChoices_fair.cas, fairChoices_fair.clock, w_frames, w_args, w_heap, w_applies, trivial, trivial, w_case⟩
end start1
theorem witness_1 : WitnessClaimed_1 := ⟨start1.p0, start1.e0, start1.about1, start1.theMethod, start1.args0, start1.below0, start1.atStart⟩
end Jvm.Pilot.@@N@@
