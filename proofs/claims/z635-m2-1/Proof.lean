import JvmDerived
import JvmDerived.Pilot.@@N@@Statement
import JvmDerived.Pilot.@@N@@Code
set_option linter.unusedVariables false
set_option linter.unusedSimpArgs false
namespace Jvm.Pilot.@@N@@
open Jvm Jvm.ClassFile Sem Op Lib Jvm.Free Jvm.Stand Jvm.LawKit Jvm.RoadKit Bundle Jvm.Pilot.@@N@@.Jvm.D
/-- from the state A the run comes to the method's end, and Q says what it left -/
def own_Go (p : Program) (e : Env) (below : List Frame) (s : State) (K M : Nat) (Q : Option Value → Heap → List Loc → Prop) (A : State) : Prop :=
  ∃ s₂ o, Steps p.tables e below A s₂ ∧ s₂.status = .running ∧ Ended s₂ below o ∧ ∃ v L, o = .returned v ∧ Q v s₂.heap L ∧ FrameEnd s o s₂ L K M
theorem own_back {p : Program} {e : Env} {below : List Frame} {s : State} {K M : Nat} {Q : Option Value → Heap → List Loc → Prop} {A B : State} (h : ∀ t, Steps p.tables e below B t → Steps p.tables e below A t) (g : own_Go p e below s K M Q B) : own_Go p e below s K M Q A := by
  obtain ⟨s₂, o, h1, h2⟩ := g
  exact ⟨s₂, o, h _ h1, h2⟩
theorem own_retN {p : Program} {l : Launch} {e : Env} {R : Room} {s : State} {m : MethodId} {args : Array Value} {below : List Frame} {meth : Method} {c : Code} {T : State} {locs : List Loc} {cells slots K M : Nat} {Q : Option Value → Heap → List Loc → Prop}
    (X : Stand p l e R s m args below meth c T locs cells slots) (hx : p.tables.exec = Jvm.exec) {pc : Nat} {Ls : Array Slot} {z r : Int32} {t : FieldType} {rest : List Value} (hret : meth.sig.returnType = some t) (ht : t = .boolean ∨ t = .byte ∨ t = .char ∨ t = .short) (hd : decode c.code pc = .ok (.ireturn, 1)) (hlk : meth.locks = false)
    (hr : nar t z = r) (hq : Q (some (.int r)) T.heap locs) (hK : cells ≤ K) (hM : slots ≤ M) : own_Go p e below s K M Q (T.setTop (mkF m pc Ls (.int z :: rest))) := by
  subst hr
  obtain ⟨fs, hr, hrun, hended, hW, hsame⟩ := X.leave (v := some (.int (nar t z))) (fun h => by rw [hret] at h; cases h)
  exact ⟨_, _, retN X hx hret ht hd hr, hrun, hended, _, _, rfl, hq, ⟨_, rfl⟩, hW, hsame.mono hK hM⟩
theorem own_retI {p : Program} {l : Launch} {e : Env} {R : Room} {s : State} {m : MethodId} {args : Array Value} {below : List Frame} {meth : Method} {c : Code} {T : State} {locs : List Loc} {cells slots K M : Nat} {Q : Option Value → Heap → List Loc → Prop}
    (X : Stand p l e R s m args below meth c T locs cells slots) (hx : p.tables.exec = Jvm.exec) {pc : Nat} {Ls : Array Slot} {z : Int32} {rest : List Value} (hret : meth.sig.returnType = some .int) (hd : decode c.code pc = .ok (.ireturn, 1)) (hlk : meth.locks = false)
    (hq : Q (some (.int z)) T.heap locs) (hK : cells ≤ K) (hM : slots ≤ M) : own_Go p e below s K M Q (T.setTop (mkF m pc Ls (.int z :: rest))) := by
  obtain ⟨fs, hr, hrun, hended, hW, hsame⟩ := X.leave (v := some (.int z)) (fun h => by rw [hret] at h; cases h)
  refine ⟨_, _, ?_, hrun, hended, _, _, rfl, hq, ⟨_, rfl⟩, hW, hsame.mono hK hM⟩
  have hm' : T.vm.method? m = some meth := X.method'
  have hn : narrow .int (.int z) = .int z := rfl
  show Steps p.tables e below (T.setTop { method := m, pc := pc, locals := Ls, stack := _ :: rest, locked := none }) _
  jvm_step X.here [X.here.top, hx, hd, hm', hret, hn]
  first | (intro acts; rw [hr _ acts rfl rfl rfl]) | rw [hr _ _ rfl rfl rfl]
  exact Steps.refl _
theorem own_retJ {p : Program} {l : Launch} {e : Env} {R : Room} {s : State} {m : MethodId} {args : Array Value} {below : List Frame} {meth : Method} {c : Code} {T : State} {locs : List Loc} {cells slots K M : Nat} {Q : Option Value → Heap → List Loc → Prop}
    (X : Stand p l e R s m args below meth c T locs cells slots) (hx : p.tables.exec = Jvm.exec) {pc : Nat} {Ls : Array Slot} {z : Int64} (hret : meth.sig.returnType = some .long) (hd : decode c.code pc = .ok (.lreturn, 1)) (hlk : meth.locks = false)
    (hq : Q (some (.long z)) T.heap locs) (hK : cells ≤ K) (hM : slots ≤ M) : own_Go p e below s K M Q (T.setTop (mkF m pc Ls [.long z])) := by
  obtain ⟨fs, hr, hrun, hended, hW, hsame⟩ := X.leave (v := some (.long z)) (fun h => by rw [hret] at h; cases h)
  exact ⟨_, _, X.lreturnOut hx hret hd hr, hrun, hended, _, _, rfl, hq, ⟨_, rfl⟩, hW, hsame.mono hK hM⟩
theorem own_retV {p : Program} {l : Launch} {e : Env} {R : Room} {s : State} {m : MethodId} {args : Array Value} {below : List Frame} {meth : Method} {c : Code} {T : State} {locs : List Loc} {cells slots K M : Nat} {Q : Option Value → Heap → List Loc → Prop}
    (X : Stand p l e R s m args below meth c T locs cells slots) (hx : p.tables.exec = Jvm.exec) {pc : Nat} {Ls : Array Slot} (hret : meth.sig.returnType = none) (hd : decode c.code pc = .ok (.return_, 1)) (hlk : meth.locks = false)
    (hq : Q none T.heap locs) (hK : cells ≤ K) (hM : slots ≤ M) : own_Go p e below s K M Q (T.setTop (mkF m pc Ls [])) := by
  obtain ⟨fs, hr, hrun, hended, hW, hsame⟩ := X.leave (v := none) (fun _ => rfl)
  exact ⟨_, _, X.returnOut hx hret hd hr, hrun, hended, _, _, rfl, hq, ⟨_, rfl⟩, hW, hsame.mono hK hM⟩
/-- the value returned, nothing old written, the heap as it was -/
def own_QP (w : Value) (h0 : Heap) (n0 : Nat) (v : Option Value) (h : Heap) (L : List Loc) : Prop := v = some w ∧ Fr n0 L ∧ h = h0
/-- the value returned, nothing old written, the heap no shorter -/
def own_QG (w : Value) (h0 : Heap) (n0 : Nat) (v : Option Value) (h : Heap) (L : List Loc) : Prop := v = some w ∧ Fr n0 L ∧ n0 ≤ h.size
/-- an array of n components, f says what each holds -/
def own_VA (Z : State) (h : Heap) (a : Addr) (ty : FieldType) (n : Nat) (f : Nat → Value) : Prop := ∃ c : Cell, Arr Z h a c ty ∧ c.slots.size = n ∧ ∀ k, k < n → c.slots[k]? = some (f k)
theorem own_VA_new {Z : State} {h : Heap} {a : Addr} {k : ClassId} {ty : FieldType} {z : Int32} {n : Nat} {d : Value} (A : Arr Z h a (newA k ty z) ty) (hz : ¬ z < 0) (hn : z.toNatClampNeg = n) (hd : defaultValue ty = d) : own_VA Z h a ty n (fun _ => d) := by
  obtain ⟨c, A, -, S, -, H, -⟩ := Arv.new A hz
  subst hn hd
  exact ⟨c, A, S, fun i hi => H i (by rw [S]; exact hi)⟩
theorem own_VA_set {Z : State} {h h' : Heap} {a : Addr} {ty : FieldType} {n i : Nat} {f : Nat → Value} {v : Value} (V : own_VA Z h a ty n f) (W : Wr h h' a i v) (hi : i < n) : own_VA Z h' a ty n (fun q => if q = i then v else f q) := by
  obtain ⟨c, A, S, H⟩ := V
  refine ⟨_, A.same W, by rw [sz_set]; exact S, fun k hk => ?_⟩
  show (c.slots.setIfInBounds i v)[k]? = some (if k = i then v else f k)
  by_cases q : k = i
  · subst q; rw [if_pos rfl, Array.getElem?_setIfInBounds_self_of_lt (by omega)]
  · rw [if_neg q, Array.getElem?_setIfInBounds_ne (fun z => q z.symm)]; exact H k hk
theorem own_VA_congr {Z : State} {h : Heap} {a : Addr} {ty : FieldType} {n : Nat} {f g : Nat → Value} (V : own_VA Z h a ty n f) (q : ∀ k, k < n → f k = g k) : own_VA Z h a ty n g := by
  obtain ⟨c, A, S, H⟩ := V
  exact ⟨c, A, S, fun k hk => by rw [← q k hk]; exact H k hk⟩
theorem own_VA_ext {Z : State} {h h' : Heap} {a : Addr} {ty : FieldType} {n : Nat} {f : Nat → Value} (V : own_VA Z h a ty n f) (E : Ext h h') : own_VA Z h' a ty n f := by
  obtain ⟨c, A, S, H⟩ := V
  exact ⟨c, A.ext E, S, H⟩
theorem own_VA_other {Z : State} {h h' : Heap} {a b : Addr} {ty : FieldType} {n sl : Nat} {v : Value} {f : Nat → Value} (V : own_VA Z h a ty n f) (W : Wr h h' b sl v) (q : a ≠ b) : own_VA Z h' a ty n f := by
  obtain ⟨c, A, S, H⟩ := V
  exact ⟨c, A.other W q, S, H⟩
theorem own_VA_lt {Z : State} {h : Heap} {a : Addr} {ty : FieldType} {n : Nat} {f : Nat → Value} (V : own_VA Z h a ty n f) : a < h.size := by
  obtain ⟨c, A, -⟩ := V
  exact A.lt
theorem own_inb {j : Int32} {c : Cell} {n : Nat} (S : c.slots.size = n) (hj : ¬ j < 0 ∧ j.toNatClampNeg < n) : ¬ (j < 0 ∨ c.slots.size ≤ j.toNatClampNeg) := fun q => q.elim hj.1 fun y => by rw [S] at y; omega
section Arrays
variable {p : Program} {l : Launch} {e : Env} {R : Room} {s : State} {m : MethodId} {args : Array Value} {below : List Frame} {meth : Method} {c : Code} {T : State} {locs : List Loc} {cells slots : Nat} {Z : State} {h : Heap} {a : Addr} {n : Nat} {f : Nat → Value}
theorem own_stI (X : Stand p l e R s m args below meth c T locs cells slots) (hx : p.tables.exec = Jvm.exec) (hZ : Z.Warmed39 s.vm) (eT : T.heap = h) (V : own_VA Z h a .int n f) {j x : Int32} (i : Nat) (hj : ¬ j < 0 ∧ j.toNatClampNeg < n) (hi : j.toNatClampNeg = i) {g : JFrame} (hg : g.method = m) {rest : List Value} (hs : g.stack = .int x :: .int j :: .ref a :: rest) (hd : decode c.code g.pc = .ok (.iastore, 1)) :
    ∃ T' h', Stand p l e R s m args below meth c T' (locs ++ [⟨a, j.toNatClampNeg⟩]) cells slots ∧ T'.heap = h' ∧ Wr h h' a i (.int x) ∧ own_VA Z h' a .int n (fun q => if q = i then .int x else f q) ∧ ∀ target, Steps p.tables e below (T'.setTop { g with pc := g.pc + 1, stack := rest }) target → Steps p.tables e below (T.setTop g) target := by
  obtain ⟨cl, A, S, H⟩ := V
  obtain ⟨T', h', X', e', W, st⟩ := stI X hx hZ eT A (own_inb S hj) hg hs hd
  subst hi
  exact ⟨T', h', X', e', W, own_VA_set ⟨cl, A, S, H⟩ W hj.2, st⟩
theorem own_stB (X : Stand p l e R s m args below meth c T locs cells slots) (hx : p.tables.exec = Jvm.exec) (hZ : Z.Warmed39 s.vm) (eT : T.heap = h) (V : own_VA Z h a .byte n f) {j x : Int32} (i : Nat) (hj : ¬ j < 0 ∧ j.toNatClampNeg < n) (hi : j.toNatClampNeg = i) {g : JFrame} (hg : g.method = m) {rest : List Value} (hs : g.stack = .int x :: .int j :: .ref a :: rest) (hd : decode c.code g.pc = .ok (.bastore, 1)) :
    ∃ T' h', Stand p l e R s m args below meth c T' (locs ++ [⟨a, j.toNatClampNeg⟩]) cells slots ∧ T'.heap = h' ∧ Wr h h' a i (.int (x.toInt8.toInt32)) ∧ own_VA Z h' a .byte n (fun q => if q = i then .int (x.toInt8.toInt32) else f q) ∧ ∀ target, Steps p.tables e below (T'.setTop { g with pc := g.pc + 1, stack := rest }) target → Steps p.tables e below (T.setTop g) target := by
  obtain ⟨cl, A, S, H⟩ := V
  obtain ⟨T', h', X', e', W, st⟩ := stB X hx hZ eT A (own_inb S hj) hg hs hd
  subst hi
  exact ⟨T', h', X', e', W, own_VA_set ⟨cl, A, S, H⟩ W hj.2, st⟩
theorem own_stJ (X : Stand p l e R s m args below meth c T locs cells slots) (hx : p.tables.exec = Jvm.exec) (hZ : Z.Warmed39 s.vm) (eT : T.heap = h) (V : own_VA Z h a .long n f) {j : Int32} {x : Int64} (i : Nat) (hj : ¬ j < 0 ∧ j.toNatClampNeg < n) (hi : j.toNatClampNeg = i) {g : JFrame} (hg : g.method = m) {rest : List Value} (hs : g.stack = .long x :: .int j :: .ref a :: rest) (hd : decode c.code g.pc = .ok (.lastore, 1)) :
    ∃ T' h', Stand p l e R s m args below meth c T' (locs ++ [⟨a, j.toNatClampNeg⟩]) cells slots ∧ T'.heap = h' ∧ Wr h h' a i (.long x) ∧ own_VA Z h' a .long n (fun q => if q = i then .long x else f q) ∧ ∀ target, Steps p.tables e below (T'.setTop { g with pc := g.pc + 1, stack := rest }) target → Steps p.tables e below (T.setTop g) target := by
  obtain ⟨cl, A, S, H⟩ := V
  obtain ⟨T', h', X', e', W, st⟩ := stJ X hx hZ eT A (own_inb S hj) hg hs hd
  subst hi
  exact ⟨T', h', X', e', W, own_VA_set ⟨cl, A, S, H⟩ W hj.2, st⟩
theorem own_ldI (X : Stand p l e R s m args below meth c T locs cells slots) (hx : p.tables.exec = Jvm.exec) (hZ : Z.Warmed39 s.vm) (eT : T.heap = h) (V : own_VA Z h a .int n f) {j w : Int32} (hj : ¬ j < 0 ∧ j.toNatClampNeg < n) (hv : f j.toNatClampNeg = .int w) {g : JFrame} (hg : g.method = m) {rest : List Value} (hs : g.stack = .int j :: .ref a :: rest) (hd : decode c.code g.pc = .ok (.iaload, 1)) :
    ∀ target, Steps p.tables e below (T.setTop { g with pc := g.pc + 1, stack := .int w :: rest }) target → Steps p.tables e below (T.setTop g) target := by
  obtain ⟨cl, A, S, H⟩ := V
  exact fun t k => X.iaload hx (by rw [eT]; exact A.1) (State.isArrayOf_alike hZ.alike A.2.1) A.2.2 (own_inb S hj) (hv ▸ H _ hj.2) hg hs hd t k
theorem own_ldB (X : Stand p l e R s m args below meth c T locs cells slots) (hx : p.tables.exec = Jvm.exec) (hZ : Z.Warmed39 s.vm) (eT : T.heap = h) (V : own_VA Z h a .byte n f) {j w : Int32} (hj : ¬ j < 0 ∧ j.toNatClampNeg < n) (hv : f j.toNatClampNeg = .int w) {g : JFrame} (hg : g.method = m) {rest : List Value} (hs : g.stack = .int j :: .ref a :: rest) (hd : decode c.code g.pc = .ok (.baload, 1)) :
    ∀ target, Steps p.tables e below (T.setTop { g with pc := g.pc + 1, stack := .int w :: rest }) target → Steps p.tables e below (T.setTop g) target := by
  obtain ⟨cl, A, S, H⟩ := V
  exact fun t k => X.baloadBytes hx (by rw [eT]; exact A.1) (State.isArrayOf_alike hZ.alike A.2.1) A.2.2 (own_inb S hj) (hv ▸ H _ hj.2) hg hs hd t k
theorem own_ldJ (X : Stand p l e R s m args below meth c T locs cells slots) (hx : p.tables.exec = Jvm.exec) (hZ : Z.Warmed39 s.vm) (eT : T.heap = h) (V : own_VA Z h a .long n f) {j : Int32} {w : Int64} (hj : ¬ j < 0 ∧ j.toNatClampNeg < n) (hv : f j.toNatClampNeg = .long w) {g : JFrame} (hg : g.method = m) {rest : List Value} (hs : g.stack = .int j :: .ref a :: rest) (hd : decode c.code g.pc = .ok (.laload, 1)) :
    ∀ target, Steps p.tables e below (T.setTop { g with pc := g.pc + 1, stack := .long w :: rest }) target → Steps p.tables e below (T.setTop g) target := by
  obtain ⟨cl, A, S, H⟩ := V
  exact fun t k => X.laload hx (by rw [eT]; exact A.1) (State.isArrayOf_alike hZ.alike A.2.1) A.2.2 (own_inb S hj) (hv ▸ H _ hj.2) hg hs hd t k
/-- a store into an array of ints, told by its function -/
def own_put (F : Nat → Int32) (i : Nat) (x : Int32) : Nat → Int32 := fun q => if q = i then x else F q
theorem own_stF {F : Nat → Int32} (X : Stand p l e R s m args below meth c T locs cells slots) (hx : p.tables.exec = Jvm.exec) (hZ : Z.Warmed39 s.vm) (eT : T.heap = h) (V : own_VA Z h a .int n (fun k => .int (F k))) {j x : Int32} (i : Nat) (hj : ¬ j < 0 ∧ j.toNatClampNeg < n) (hi : j.toNatClampNeg = i) {g : JFrame} (hg : g.method = m) {rest : List Value} (hs : g.stack = .int x :: .int j :: .ref a :: rest) (hd : decode c.code g.pc = .ok (.iastore, 1)) :
    ∃ T' h', Stand p l e R s m args below meth c T' (locs ++ [⟨a, j.toNatClampNeg⟩]) cells slots ∧ T'.heap = h' ∧ Wr h h' a i (.int x) ∧ own_VA Z h' a .int n (fun k => .int (own_put F i x k)) ∧ ∀ target, Steps p.tables e below (T'.setTop { g with pc := g.pc + 1, stack := rest }) target → Steps p.tables e below (T.setTop g) target := by
  obtain ⟨T', h', X', e', W, V', st⟩ := own_stI X hx hZ eT V i hj hi hg hs hd
  refine ⟨T', h', X', e', W, own_VA_congr V' (fun k _ => ?_), st⟩
  show (if k = i then Value.int x else Value.int (F k)) = Value.int (if k = i then x else F k)
  by_cases q : k = i
  · rw [if_pos q, if_pos q]
  · rw [if_neg q, if_neg q]
theorem own_len (X : Stand p l e R s m args below meth c T locs cells slots) (hx : p.tables.exec = Jvm.exec) (hZ : Z.Warmed39 s.vm) (eT : T.heap = h) {ty : FieldType} (V : own_VA Z h a ty n f) {z : Int32} (hz : n.toInt32 = z) {g : JFrame} (hg : g.method = m) {rest : List Value} (hs : g.stack = .ref a :: rest) (hd : decode c.code g.pc = .ok (.arraylength, 1)) :
    ∀ target, Steps p.tables e below (T.setTop { g with pc := g.pc + 1, stack := .int z :: rest }) target → Steps p.tables e below (T.setTop g) target := by
  obtain ⟨cl, A, S, H⟩ := V
  subst hz S
  exact fun t k => X.arraylength hx (by rw [eT]; exact A.1) (State.isArrayOf_alike hZ.alike A.2.1) hg hs hd t k
end Arrays
theorem own_small {x : Int32} {k : Nat} (hk : k < 2147483648) (h1 : ¬ x < 0) (h2 : x.toInt < k) : ∃ n : Nat, n < k ∧ x = Int32.ofNat n := by
  have z : (0 : Int32).toInt = 0 := rfl
  rw [Int32.lt_iff_toInt_lt, z] at h1
  refine ⟨x.toInt.toNat, by omega, Int32.toInt_inj.mp ?_⟩
  rw [Int32.toInt_ofNat_of_lt (by omega)]
  omega
theorem own_lt {x y : Int32} : x < y ↔ x.toInt < y.toInt := Int32.lt_iff_toInt_lt
theorem own_ne {x : Int32} {k : Int} (c : Int32) (hc : c.toInt = k) (h : x.toInt ≠ k) : ¬ x = c := fun q => h (by rw [q]; exact hc)

theorem own_clamp {k : Nat} (h : k < 2147483648) : ¬ Int32.ofNat k < 0 ∧ (Int32.ofNat k).toNatClampNeg = k := by
  have e := Int32.toInt_ofNat_of_lt (n := k) (by omega)
  have z : (0 : Int32).toInt = 0 := rfl
  refine ⟨fun q => by have := own_lt.mp q; omega, ?_⟩
  show (Int32.ofNat k).toInt.toNat = k
  omega
theorem own_in {k n : Nat} (h : k < n) (hn : n < 2147483648) : ¬ Int32.ofNat k < 0 ∧ (Int32.ofNat k).toNatClampNeg < n := ⟨(own_clamp (by omega)).1, by rw [(own_clamp (by omega)).2]; exact h⟩
theorem own_shr {k : Nat} (h : k < 2147483648) : (Int32.ofNat k) >>> ((6 : Int32) &&& 31) = Int32.ofNat (k / 64) := by
  have q : ((Int32.ofNat k) >>> ((6 : Int32) &&& 31)).toInt = (Int32.ofNat k).toInt / 64 := c_ishr (Int32.ofNat k) 6 6 (by decide)
  rw [← Int32.toInt_inj, q, Int32.toInt_ofNat_of_lt (by omega), Int32.toInt_ofNat_of_lt (by omega)]
  omega
theorem own_plus (k j : Nat) : Int32.ofNat k + Int32.ofNat j = Int32.ofNat (k + j) := (Int32.ofNat_add k j).symm
/-- a PositionCounts: its two arrays and what they hold -/
def own_PC (Z : State) (h : Heap) (n0 : Nat) (x aB aW : Addr) (N : Nat) (B : Nat → Int64) (W : Nat → Int32) : Prop :=
  Exa Z h x "com/example/furl/furl/tree/PositionCounts" ∧ Fld Z h x "com/example/furl/furl/tree/PositionCounts" "bits" "[J" (.ref aB) ∧ Fld Z h x "com/example/furl/furl/tree/PositionCounts" "words" "[I" (.ref aW) ∧ own_VA Z h aB .long N (fun k => .long (B k)) ∧ own_VA Z h aW .int (N + 1) (fun k => .int (W k)) ∧ n0 ≤ aB ∧ n0 ≤ aW ∧ x ≠ aB ∧ x ≠ aW ∧ aB ≠ aW
section PC
variable {Z : State} {h h' : Heap} {n0 : Nat} {x aB aW : Addr} {N : Nat} {B : Nat → Int64} {W : Nat → Int32}
theorem own_PC_B (P : own_PC Z h n0 x aB aW N B W) {i : Nat} {v : Int64} (w : Wr h h' aB i (.long v)) (hi : i < N) : own_PC Z h' n0 x aB aW N (fun k => if k = i then v else B k) W := by
  obtain ⟨E, F1, F2, V1, V2, g1, g2, n1, n2, n3⟩ := P
  refine ⟨E.wr w, F1.other w (Or.inl n1), F2.other w (Or.inl n1), own_VA_congr (own_VA_set V1 w hi) (fun k _ => ?_), own_VA_other V2 w n3.symm, g1, g2, n1, n2, n3⟩
  show (if k = i then Value.long v else Value.long (B k)) = Value.long (if k = i then v else B k)
  by_cases q : k = i
  · rw [if_pos q, if_pos q]
  · rw [if_neg q, if_neg q]
theorem own_PC_W (P : own_PC Z h n0 x aB aW N B W) {i : Nat} {v : Int32} (w : Wr h h' aW i (.int v)) (hi : i < N + 1) : own_PC Z h' n0 x aB aW N B (fun k => if k = i then v else W k) := by
  obtain ⟨E, F1, F2, V1, V2, g1, g2, n1, n2, n3⟩ := P
  refine ⟨E.wr w, F1.other w (Or.inl n2), F2.other w (Or.inl n2), own_VA_other V1 w n3, own_VA_congr (own_VA_set V2 w hi) (fun k _ => ?_), g1, g2, n1, n2, n3⟩
  show (if k = i then Value.int v else Value.int (W k)) = Value.int (if k = i then v else W k)
  by_cases q : k = i
  · rw [if_pos q, if_pos q]
  · rw [if_neg q, if_neg q]
theorem own_PC_congr (P : own_PC Z h n0 x aB aW N B W) {W' : Nat → Int32} (q : ∀ k, k < N + 1 → W k = W' k) : own_PC Z h n0 x aB aW N B W' := by
  obtain ⟨E, F1, F2, V1, V2, r⟩ := P
  exact ⟨E, F1, F2, V1, own_VA_congr V2 (fun k hk => by show Value.int (W k) = Value.int (W' k); rw [q k hk]), r⟩
end PC
/-- the lowest bit of a small number; the way up in the tree -/
def own_low (i : Nat) : Nat := ((Int32.ofNat i) &&& (-(Int32.ofNat i))).toInt.toNat
theorem own_low_ok {i : Nat} (h1 : 1 ≤ i) (h2 : i ≤ 16) : 1 ≤ own_low i ∧ own_low i ≤ 16 ∧ Int32.ofNat i + ((Int32.ofNat i) &&& (-(Int32.ofNat i))) = Int32.ofNat (i + own_low i) :=
  (by decide +kernel : ∀ i : Fin 17, 1 ≤ i.val → 1 ≤ own_low i.val ∧ own_low i.val ≤ 16 ∧ Int32.ofNat i.val + ((Int32.ofNat i.val) &&& (-(Int32.ofNat i.val))) = Int32.ofNat (i.val + own_low i.val)) ⟨i, by omega⟩ h1
def own_up : Nat → Nat → Nat → Bool
  | 0, _, _ => false
  | k + 1, i, j => i == j || own_up k (i + own_low i) j
theorem own_up_lt (k : Nat) : ∀ i j, j < i → own_up k i j = false := by
  induction k with
  | zero => intro i j _; rfl
  | succ k ih =>
    intro i j h
    show (i == j || own_up k (i + own_low i) j) = false
    rw [ih _ _ (by omega), Bool.or_false]
    exact beq_false_of_ne (by omega)
/-- a position's bit turned over; the counts on its way up changed -/
def own_tog (B : Nat → Int64) (x : Int32) : Nat → Int64 := fun k => if k = x.toNatClampNeg / 64 then B (x.toNatClampNeg / 64) ^^^ ((1 : Int64) <<< (x &&& 0x3f).toInt64) else B k
def own_fen (W : Nat → Int32) (k i : Nat) (ch : Int32) : Nat → Int32 := fun j => if own_up k i j then W j + ch else W j
/-- the counts when the position x changes by ch -/
def own_cnt (W : Nat → Int32) (x ch : Int32) : Nat → Int32 := own_fen W 20 (x.toNatClampNeg / 64 + 1) ch
/-- a position within N words -/
def own_ok (N : Nat) (x : Int32) : Prop := ¬ x < 0 ∧ x.toNatClampNeg / 64 < N
theorem own_hp {x : Int32} (h : ¬ x < 0) : x = Int32.ofNat x.toNatClampNeg := by
  have z : (0 : Int32).toInt = 0 := rfl
  have g : ¬ x.toInt < 0 := fun q => h (own_lt.mpr (by omega))
  have r := rng32 x
  have e : x.toNatClampNeg = x.toInt.toNat := rfl
  rw [← Int32.toInt_inj, Int32.toInt_ofNat_of_lt (by omega)]
  omega
theorem own_hb (x : Int32) : x.toNatClampNeg < 2147483648 := by
  have r := rng32 x
  show x.toInt.toNat < 2147483648
  omega
def own_QA (Z : State) (n0 : Nat) (x aB aW : Addr) (N : Nat) (B : Nat → Int64) (W : Nat → Int32) (v : Option Value) (h : Heap) (L : List Loc) : Prop := v = none ∧ Fr n0 L ∧ n0 ≤ h.size ∧ own_PC Z h n0 x aB aW N B W

/-! the constructor (lawwalk's print, filled in) -/
theorem d1_0 : decode prog_112_method_1_code 0 = .ok (.aload_n 0, 1) := by decide +kernel
theorem d1_1 : decode prog_112_method_1_code 1 = .ok (.invokespecial 1, 3) := by decide +kernel
theorem d1_4 : decode prog_112_method_1_code 4 = .ok (.aload_n 0, 1) := by decide +kernel
theorem d1_5 : decode prog_112_method_1_code 5 = .ok (.iload_n 1, 1) := by decide +kernel
theorem d1_6 : decode prog_112_method_1_code 6 = .ok (.bipush 63, 2) := by decide +kernel
theorem d1_8 : decode prog_112_method_1_code 8 = .ok (.iadd, 1) := by decide +kernel
theorem d1_9 : decode prog_112_method_1_code 9 = .ok (.bipush 6, 2) := by decide +kernel
theorem d1_11 : decode prog_112_method_1_code 11 = .ok (.ishr, 1) := by decide +kernel
theorem d1_12 : decode prog_112_method_1_code 12 = .ok (.newarray .long, 2) := by decide +kernel
theorem d1_14 : decode prog_112_method_1_code 14 = .ok (.putfield 7, 3) := by decide +kernel
theorem d1_17 : decode prog_112_method_1_code 17 = .ok (.aload_n 0, 1) := by decide +kernel
theorem d1_18 : decode prog_112_method_1_code 18 = .ok (.aload_n 0, 1) := by decide +kernel
theorem d1_19 : decode prog_112_method_1_code 19 = .ok (.getfield 7, 3) := by decide +kernel
theorem d1_22 : decode prog_112_method_1_code 22 = .ok (.arraylength, 1) := by decide +kernel
theorem d1_23 : decode prog_112_method_1_code 23 = .ok (.iconst 1, 1) := by decide +kernel
theorem d1_24 : decode prog_112_method_1_code 24 = .ok (.iadd, 1) := by decide +kernel
theorem d1_25 : decode prog_112_method_1_code 25 = .ok (.newarray .int, 2) := by decide +kernel
theorem d1_27 : decode prog_112_method_1_code 27 = .ok (.putfield 13, 3) := by decide +kernel
theorem d1_30 : decode prog_112_method_1_code 30 = .ok (.return_, 1) := by decide +kernel
theorem pn_1 : plainName "com/example/furl/furl/tree/PositionCounts" = true := by first | (simp [plainName, overriddenIn]; done) | decide +kernel
theorem ef_1 (m : MethodId) (x0 : Addr) (x1 : Int32) : entryFrame m #[(.ref x0), (.int x1)] 2 = mkF m 0 #[.val (.ref x0), .val (.int x1)] [] := by first | (simp [entryFrame, mkF, argsToLocals, Value.category]; done) | rfl
def Q1 (Z : State) (a1 : Addr) (p2 : Int32) (u_bits_a1 : Value) (u_words_a1 : Value) (NN : Nat) (h0 : Heap) (n0 : Nat) (v : Option Value) (h : Heap) (L : List Loc) : Prop := v = none ∧ Fr n0 L ∧ n0 ≤ h.size ∧ ∃ aB aW, own_PC Z h n0 a1 aB aW NN (fun _ => 0) (fun _ => 0)
set_option maxRecDepth 65536 in
set_option maxHeartbeats 40000000 in
theorem rm1 (l : Launch) (Z : State) (a0 : Array Value) (hw : ∀ d ∈ tables_1, d.before a0 Z = true) (ws : List Jvm.Cond) (a1 : Addr) (p2 : Int32) (u_bits_a1 : Value) (u_words_a1 : Value) (NN : Nat) (h0 : Heap) (n0 : Nat) (Z0 : n0 ≤ h0.size) (E_a1 : Exa Z h0 a1 "com/example/furl/furl/tree/PositionCounts") (F_bits_a1 : Fld Z h0 a1 "com/example/furl/furl/tree/PositionCounts" "bits" "[J" u_bits_a1) (g_a1 : n0 ≤ a1) (F_words_a1 : Fld Z h0 a1 "com/example/furl/furl/tree/PositionCounts" "words" "[I" u_words_a1) (hNN : ((p2 + (63 : Int32)) >>> ((6 : Int32) &&& 31)) = Int32.ofNat NN) (hcap : NN ≤ 16) :
    MetFree l (⟨"com/example/furl/furl/tree/PositionCounts", "<init>", "(I)V"⟩ : MethodName) (head1 (Jvm.Cond.code (⟨"com/example/furl/furl/tree/PositionCounts", "<init>", "(I)V"⟩ : MethodName) prog_112_method_1_code 2 none :: ws) ({ frames := 1, cells := 2, slots := 33, locals := 12 } : Room)) (fun a U => a = #[(.ref a1), (.int p2)] ∧ Z.Warmed39 U.vm ∧ U.heap = h0) (fun _ _ _ _ _ => True) (fun _ U o U' => ∃ v L, o = .returned v ∧ Q1 Z a1 p2 u_bits_a1 u_words_a1 NN h0 n0 v U'.heap L ∧ FrameEnd U o U' L ({ frames := 1, cells := 2, slots := 33, locals := 12 } : Room).cells ({ frames := 1, cells := 2, slots := 33, locals := 12 } : Room).slots) := by
  refine MetFree.of_bodySF (plainFor_of_name pn_1) hisR ?_
  intro p e s m args below meth c s₁ Bd hml0 hP hK
  obtain ⟨rfl, hZ, hh⟩ := hP
  have hx := Bd.exec
  have hby := Bd.bytes
  have hml : c.maxLocals = 2 := hml0
  have hown : s.vm.findClass "com/example/furl/furl/tree/PositionCounts" = some m.cls := findClass_of_methodNamed Bd.named
  have hnm := (name_of_methodNamed Bd.named Bd.method).1
  have X0 : Stand p l e ({ frames := 1, cells := 2, slots := 33, locals := 12 } : Room) s m #[(.ref a1), (.int p2)] below meth c s₁ [] 0 0 := Stand.of_body Bd
  have e0 : s₁.heap = h0 := by rw [← hh, Bd.state]; rfl
  have N0 := Fr.nil n0
  have pre0 : ∀ t, Steps p.tables e below (s₁.setTop (mkF m 0 #[.val (.ref a1), .val (.int p2)] [])) t → Steps p.tables e below (s₁.setTop (entryFrame m #[(.ref a1), (.int p2)] 2)) t := fun t k => castTop (ef_1 m a1 p2) k
  obtain ⟨T3, X3, e3, st3⟩ := initO X0 hx hZ hown (hw _ (List.mem_of_getElem? (i := 7) rfl)) (hw _ (List.mem_of_getElem? (i := 8) rfl)) (hw _ (List.mem_of_getElem? (i := 9) rfl)) e0 (g := (mkF m 1 #[.val (.ref a1), .val (.int p2)] [(.ref a1)])) rfl (by rw [hml]; rfl) rfl (hb hby d1_1) (by decide) (W := 0) (by show 2 * 0 + _ ≤ _; exact Nat.le_of_eq rfl) (by decide)
  have hn1 : ¬ ((p2 + (63 : Int32)) >>> ((6 : Int32) &&& 31)) < 0 := by rw [hNN]; exact (own_clamp (by omega)).1
  have hl0 : ((p2 + (63 : Int32)) >>> ((6 : Int32) &&& 31)).toNatClampNeg = NN := by rw [hNN]; exact (own_clamp (by omega)).2
  have hl1 : ((p2 + (63 : Int32)) >>> ((6 : Int32) &&& 31)).toNatClampNeg ≤ 16 := by rw [hl0]; exact hcap
  have hn2 : ¬ (((p2 + (63 : Int32)) >>> ((6 : Int32) &&& 31)) + (1 : Int32)) < 0 := by rw [hNN, show Int32.ofNat NN + 1 = Int32.ofNat (NN + 1) from own_plus NN 1]; exact (own_clamp (k := NN + 1) (by omega)).1
  have hl2 : (((p2 + (63 : Int32)) >>> ((6 : Int32) &&& 31)) + (1 : Int32)).toNatClampNeg = NN + 1 := by rw [hNN, show Int32.ofNat NN + 1 = Int32.ofNat (NN + 1) from own_plus NN 1]; exact (own_clamp (k := NN + 1) (by omega)).2
  have hl3 : (((p2 + (63 : Int32)) >>> ((6 : Int32) &&& 31)) + (1 : Int32)).toNatClampNeg ≤ 17 := by rw [hl2]; omega
  obtain ⟨T4, h4, k4, X4, e4, E4, A4, st4⟩ := newP X3 hx hZ (hw _ (List.mem_of_getElem? (i := 10) rfl)) e3 (g := (mkF m 12 #[.val (.ref a1), .val (.int p2)] [(.int ((p2 + (63 : Int32)) >>> ((6 : Int32) &&& 31))), (.ref a1)])) rfl (hb hby d1_12) rfl hn1 (cap := 16) hl1 (by decide) (by decide) (by decide)
  obtain ⟨b4, g4⟩ : ∃ z, z = h0.size := ⟨_, rfl⟩
  rw [← g4] at A4 st4
  have V_b4 := Arv.new A4 hn1
  have VB4 : own_VA Z h4 b4 .long NN (fun _ => .long (0 : Int64)) := own_VA_new A4 hn1 hl0 rfl
  have ne4 : a1 ≠ b4 := Nat.ne_of_lt (Nat.lt_of_lt_of_le E_a1.lt (Nat.le_of_eq g4.symm))
  have g_b4 : n0 ≤ b4 := Nat.le_trans Z0 (Nat.le_of_eq g4.symm)
  have sz_b4 : h0.size ≤ b4 := (Nat.le_trans (Keep.refl h0 [a1]).1 (Nat.le_of_eq g4.symm))
  have K4 : Keep h0 h4 [a1] := (Keep.refl h0 [a1]).ext E4
  obtain ⟨T5, h5, X5, e5, W5, st5⟩ := putF X4 hx hZ hown (host := "") (Or.inl (hw _ (List.mem_of_getElem? (i := 11) rfl))) Via.refl e4 (F_bits_a1.ext E4) (E_a1.ext E4) (Or.inr ⟨(hw _ (List.mem_of_getElem? (i := 12) rfl)), rfl, hnm⟩) (hw _ (List.mem_of_getElem? (i := 2) rfl)) (ty := (.array .long)) (by decide) rfl rfl (g := (mkF m 14 #[.val (.ref a1), .val (.int p2)] [(.ref b4), (.ref a1)])) rfl rfl (hb hby d1_14)
  have Fw5 := (F_bits_a1.ext E4).same W5
  have K5 : Keep h0 h5 [a1] := K4.wr W5 (Or.inl (List.mem_of_getElem? (i := 0) rfl))
  have N5 := Fr.snoc X5 N0 g_a1
  obtain ⟨T6, X6, e6, st6⟩ := getF X5 hx hZ hown (host := "") (Or.inl (hw _ (List.mem_of_getElem? (i := 11) rfl))) Via.refl e5 Fw5 (g := (mkF m 19 #[.val (.ref a1), .val (.int p2)] [(.ref a1), (.ref a1)])) rfl rfl (hb hby d1_19)
  obtain ⟨cl_b4_22, Ar_b4, -, S_b4, N_b4, -, -⟩ := (V_b4.other W5 (Ne.symm (Nat.ne_of_lt (Nat.lt_of_lt_of_le E_a1.lt (Nat.le_of_eq g4.symm)))))
  obtain ⟨T7, h7, k7, X7, e7, E7, A7, st7⟩ := newP X6 hx hZ (hw _ (List.mem_of_getElem? (i := 13) rfl)) e6 (g := (mkF m 25 #[.val (.ref a1), .val (.int p2)] [(.int (((p2 + (63 : Int32)) >>> ((6 : Int32) &&& 31)) + (1 : Int32))), (.ref a1)])) rfl (hb hby d1_25) rfl hn2 (cap := 17) hl3 (by decide) (by decide) (by decide)
  obtain ⟨b7, g7⟩ : ∃ z, z = h5.size := ⟨_, rfl⟩
  rw [← g7] at A7 st7
  have VB5 := own_VA_other VB4 W5 ne4.symm
  have VB7 := own_VA_ext VB5 E7
  have VW7 : own_VA Z h7 b7 .int (NN + 1) (fun _ => .int (0 : Int32)) := own_VA_new A7 hn2 hl2 rfl
  have ne7 : a1 ≠ b7 := Nat.ne_of_lt (Nat.lt_of_lt_of_le ((E_a1.ext E4).wr W5).lt (Nat.le_of_eq g7.symm))
  have ne47 : b4 ≠ b7 := Nat.ne_of_lt (Nat.lt_of_lt_of_le (own_VA_lt VB5) (Nat.le_of_eq g7.symm))
  have g_b7 : n0 ≤ b7 := Nat.le_trans (Nat.le_trans (Nat.le_trans Z0 E4.1) (Keep.of_wr W5).1) (Nat.le_of_eq g7.symm)
  have sz_b7 : h0.size ≤ b7 := (Nat.le_trans K5.1 (Nat.le_of_eq g7.symm))
  have K7 : Keep h0 h7 [a1] := K5.ext E7
  obtain ⟨T8, h8, X8, e8, W8, st8⟩ := putF X7 hx hZ hown (host := "") (Or.inl (hw _ (List.mem_of_getElem? (i := 14) rfl))) Via.refl e7 (((F_words_a1.ext E4).other W5 (Or.inr (slot_ne (Or.inr (hw _ (List.mem_of_getElem? (i := 15) rfl))) (Or.inr (hw _ (List.mem_of_getElem? (i := 12) rfl))) (by decide) (t := (.array .int)) (t' := (.array .long)) (by decide) (by decide)))).ext E7) (((E_a1.ext E4).wr W5).ext E7) (Or.inr ⟨(hw _ (List.mem_of_getElem? (i := 15) rfl)), rfl, hnm⟩) (hw _ (List.mem_of_getElem? (i := 2) rfl)) (ty := (.array .int)) (by decide) rfl rfl (g := (mkF m 27 #[.val (.ref a1), .val (.int p2)] [(.ref b7), (.ref a1)])) rfl rfl (hb hby d1_27)
  have Fw8 := (((F_words_a1.ext E4).other W5 (Or.inr (slot_ne (Or.inr (hw _ (List.mem_of_getElem? (i := 15) rfl))) (Or.inr (hw _ (List.mem_of_getElem? (i := 12) rfl))) (by decide) (t := (.array .int)) (t' := (.array .long)) (by decide) (by decide)))).ext E7).same W8
  have K8 : Keep h0 h8 [a1] := K7.wr W8 (Or.inl (List.mem_of_getElem? (i := 0) rfl))
  have N8 := Fr.snoc X8 N5 g_a1
  obtain ⟨fs, hr, hrun, hended, hW, hsame⟩ := X8.leave (v := none) (fun _ => rfl)
  refine ⟨_, _, pre0 _ ?_, hrun, hended, _, _, rfl, ?_, ⟨_, rfl⟩, hW, hsame.mono (by decide) (by decide)⟩
  · show Steps p.tables e below (s₁.setTop (mkF m 0 #[.val (.ref a1), .val (.int p2)] [])) _
    refine XS.aloadN X0.here hx rfl (hb hby d1_0) rfl rfl ?_
    show Steps p.tables e below (s₁.setTop (mkF m 1 #[.val (.ref a1), .val (.int p2)] [(.ref a1)])) _
    refine st3 _ ?_
    show Steps p.tables e below (T3.setTop (mkF m 4 #[.val (.ref a1), .val (.int p2)] [])) _
    refine XS.aloadN X3.here hx rfl (hb hby d1_4) rfl rfl ?_
    show Steps p.tables e below (T3.setTop (mkF m 5 #[.val (.ref a1), .val (.int p2)] [(.ref a1)])) _
    refine XS.iloadN X3.here hx rfl (hb hby d1_5) rfl ?_
    show Steps p.tables e below (T3.setTop (mkF m 6 #[.val (.ref a1), .val (.int p2)] [(.int p2), (.ref a1)])) _
    refine XS.bipush X3.here hx rfl (hb hby d1_6) ?_
    show Steps p.tables e below (T3.setTop (mkF m 8 #[.val (.ref a1), .val (.int p2)] [(.int (63 : Int32)), (.int p2), (.ref a1)])) _
    refine XS.iadd X3.here hx rfl (hb hby d1_8) rfl ?_
    show Steps p.tables e below (T3.setTop (mkF m 9 #[.val (.ref a1), .val (.int p2)] [(.int (p2 + (63 : Int32))), (.ref a1)])) _
    refine XS.bipush X3.here hx rfl (hb hby d1_9) ?_
    show Steps p.tables e below (T3.setTop (mkF m 11 #[.val (.ref a1), .val (.int p2)] [(.int (6 : Int32)), (.int (p2 + (63 : Int32))), (.ref a1)])) _
    refine XS.ishr X3.here hx rfl (hb hby d1_11) rfl ?_
    show Steps p.tables e below (T3.setTop (mkF m 12 #[.val (.ref a1), .val (.int p2)] [(.int ((p2 + (63 : Int32)) >>> ((6 : Int32) &&& 31))), (.ref a1)])) _
    refine st4 _ ?_
    show Steps p.tables e below (T4.setTop (mkF m 14 #[.val (.ref a1), .val (.int p2)] [(.ref b4), (.ref a1)])) _
    refine st5 _ ?_
    show Steps p.tables e below (T5.setTop (mkF m 17 #[.val (.ref a1), .val (.int p2)] [])) _
    refine XS.aloadN X5.here hx rfl (hb hby d1_17) rfl rfl ?_
    show Steps p.tables e below (T5.setTop (mkF m 18 #[.val (.ref a1), .val (.int p2)] [(.ref a1)])) _
    refine XS.aloadN X5.here hx rfl (hb hby d1_18) rfl rfl ?_
    show Steps p.tables e below (T5.setTop (mkF m 19 #[.val (.ref a1), .val (.int p2)] [(.ref a1), (.ref a1)])) _
    refine st6 _ ?_
    show Steps p.tables e below (T6.setTop (mkF m 22 #[.val (.ref a1), .val (.int p2)] [(.ref b4), (.ref a1)])) _
    refine X6.arraylength hx (by rw [e6]; exact Ar_b4.1) (State.isArrayOf_alike hZ.alike Ar_b4.2.1) (g := (mkF m 22 #[.val (.ref a1), .val (.int p2)] [(.ref b4), (.ref a1)])) rfl rfl (hb hby d1_22) _ ?_
    rw [len_of S_b4 N_b4]
    show Steps p.tables e below (T6.setTop (mkF m 23 #[.val (.ref a1), .val (.int p2)] [(.int ((p2 + (63 : Int32)) >>> ((6 : Int32) &&& 31))), (.ref a1)])) _
    refine XS.iconst X6.here hx rfl (hb hby d1_23) ?_
    show Steps p.tables e below (T6.setTop (mkF m 24 #[.val (.ref a1), .val (.int p2)] [(.int (1 : Int32)), (.int ((p2 + (63 : Int32)) >>> ((6 : Int32) &&& 31))), (.ref a1)])) _
    refine XS.iadd X6.here hx rfl (hb hby d1_24) rfl ?_
    show Steps p.tables e below (T6.setTop (mkF m 25 #[.val (.ref a1), .val (.int p2)] [(.int (((p2 + (63 : Int32)) >>> ((6 : Int32) &&& 31)) + (1 : Int32))), (.ref a1)])) _
    refine st7 _ ?_
    show Steps p.tables e below (T7.setTop (mkF m 27 #[.val (.ref a1), .val (.int p2)] [(.ref b7), (.ref a1)])) _
    refine st8 _ ?_
    show Steps p.tables e below (T8.setTop (mkF m 30 #[.val (.ref a1), .val (.int p2)] [])) _
    exact X8.returnOut hx Bd.returns (hb hby d1_30) hr
  · show Q1 Z a1 p2 u_bits_a1 u_words_a1 NN h0 n0 _ T8.heap _
    rw [e8]
    exact ⟨rfl, N8, Nat.le_trans Z0 K8.1, b4, b7, ((((E_a1.ext E4).wr W5).ext E7).wr W8), ((Fw5.ext E7).other W8 (Or.inr (slot_ne (Or.inr (hw _ (List.mem_of_getElem? (i := 12) rfl))) (Or.inr (hw _ (List.mem_of_getElem? (i := 15) rfl))) (by decide) (t := (.array .long)) (t' := (.array .int)) (by decide) (by decide)))), Fw8, own_VA_other VB7 W8 ne4.symm, own_VA_other VW7 W8 ne7.symm, g_b4, g_b7, ne4, ne7, ne47⟩
theorem own_sh6 {x : Int32} (h : ¬ x < 0) : x >>> ((6 : Int32) &&& 31) = Int32.ofNat (x.toNatClampNeg / 64) := by
  have q := own_shr (own_hb x)
  rw [← own_hp h] at q
  exact q
theorem own_ixp {x : Int32} {N : Nat} (h : own_ok N x) (hM : N ≤ 16) : ¬ (x >>> ((6 : Int32) &&& 31)) < 0 ∧ (x >>> ((6 : Int32) &&& 31)).toNatClampNeg < N := by
  rw [own_sh6 h.1]; exact own_in h.2 (by omega)
/-! body 3: com/example/furl/furl/tree/PositionCounts.contains:(I)Z -/
theorem own_d3_0 : decode prog_112_method_3_code 0 = .ok (.aload_n 0, 1) := by decide +kernel
theorem own_d3_1 : decode prog_112_method_3_code 1 = .ok (.getfield 7, 3) := by decide +kernel
theorem own_d3_4 : decode prog_112_method_3_code 4 = .ok (.iload_n 1, 1) := by decide +kernel
theorem own_d3_5 : decode prog_112_method_3_code 5 = .ok (.bipush 6, 2) := by decide +kernel
theorem own_d3_7 : decode prog_112_method_3_code 7 = .ok (.ishr, 1) := by decide +kernel
theorem own_d3_8 : decode prog_112_method_3_code 8 = .ok (.laload, 1) := by decide +kernel
theorem own_d3_9 : decode prog_112_method_3_code 9 = .ok (.lconst 1, 1) := by decide +kernel
theorem own_d3_10 : decode prog_112_method_3_code 10 = .ok (.iload_n 1, 1) := by decide +kernel
theorem own_d3_11 : decode prog_112_method_3_code 11 = .ok (.lshl, 1) := by decide +kernel
theorem own_d3_12 : decode prog_112_method_3_code 12 = .ok (.land, 1) := by decide +kernel
theorem own_d3_13 : decode prog_112_method_3_code 13 = .ok (.lconst 0, 1) := by decide +kernel
theorem own_d3_14 : decode prog_112_method_3_code 14 = .ok (.lcmp, 1) := by decide +kernel
theorem own_d3_15 : decode prog_112_method_3_code 15 = .ok (.ifCond .eq 7, 3) := by decide +kernel
theorem own_d3_18 : decode prog_112_method_3_code 18 = .ok (.iconst 1, 1) := by decide +kernel
theorem own_d3_19 : decode prog_112_method_3_code 19 = .ok (.goto 4, 3) := by decide +kernel
theorem own_d3_22 : decode prog_112_method_3_code 22 = .ok (.iconst 0, 1) := by decide +kernel
theorem own_d3_23 : decode prog_112_method_3_code 23 = .ok (.ireturn, 1) := by decide +kernel
def own_f3_0 (B : Nat → Int64) (x1 : Int32) : Int32 := (if (lcmpW ((B (x1 >>> ((6 : Int32) &&& 31)).toNatClampNeg) &&& ((1 : Int64) <<< (x1 &&& 0x3f).toInt64)) (0 : Int64)) = (0 : Int32) then (0 : Int32) else (1 : Int32))
set_option maxRecDepth 65536 in
set_option maxHeartbeats 4000000 in
theorem own_l3_0 {p : Program} {l : Launch} {e : Env} {s : State} {m : MethodId} {args : Array Value} {below : List Frame} {meth : Method} {c : Code} {T : State} {locs : List Loc} {Z : State} {a0 : Array Value} {h0 : Heap} {n0 : Nat}
    (X : Stand p l e ({ frames := 0, cells := 0, slots := 0, locals := 0 } : Room) s m args below meth c T locs 0 0) (hx : p.tables.exec = Jvm.exec) (hZ : Z.Warmed39 s.vm) (hw : ∀ d ∈ tables_1, d.before a0 Z = true) (hby : c.code = prog_112_method_3_code) (hml : c.maxLocals = 2) (hown : s.vm.findClass "com/example/furl/furl/tree/PositionCounts" = some m.cls) (hret : meth.sig.returnType = some .boolean) (hlk : meth.locks = false) (e0 : T.heap = h0) (N : Fr n0 locs) (Z0 : n0 ≤ h0.size)
    (x0 : Addr) (aB : Addr) (NN : Nat) (B : Nat → Int64) (x1 : Int32) {r : Int32} (hR : r = own_f3_0 B x1) (F0 : Fld Z h0 x0 "com/example/furl/furl/tree/PositionCounts" "bits" "[J" (.ref aB)) (VA : own_VA Z h0 aB .long NN (fun k => .long (B k))) (hok : own_ok NN x1) (hM : NN ≤ 16) : own_Go p e below s ({ frames := 0, cells := 0, slots := 0, locals := 0 } : Room).cells ({ frames := 0, cells := 0, slots := 0, locals := 0 } : Room).slots (own_QP (.int r) h0 n0) (T.setTop (mkF m 0 #[.val (.ref x0), .val (.int x1)] [])) := by
  unfold own_f3_0 at hR
  refine own_back (fun t k => XS.aloadN X.here hx rfl (hb hby own_d3_0) rfl rfl k) ?_
  show own_Go _ _ _ _ _ _ _ (T.setTop (mkF m 1 #[.val (.ref x0), .val (.int x1)] [(.ref x0)]))
  obtain ⟨T1, X1, e1, st1⟩ := getF X hx hZ hown (host := "") (Or.inl (hw _ (List.mem_of_getElem? (i := 11) rfl))) Via.refl e0 F0 (g := (mkF m 1 #[.val (.ref x0), .val (.int x1)] [(.ref x0)])) rfl rfl (hb hby own_d3_1)
  refine own_back (fun t k => st1 t k) ?_
  show own_Go _ _ _ _ _ _ _ (T1.setTop (mkF m 4 #[.val (.ref x0), .val (.int x1)] [(.ref aB)]))
  refine own_back (fun t k => XS.iloadN X1.here hx rfl (hb hby own_d3_4) rfl k) ?_
  show own_Go _ _ _ _ _ _ _ (T1.setTop (mkF m 5 #[.val (.ref x0), .val (.int x1)] [(.int x1), (.ref aB)]))
  refine own_back (fun t k => XS.bipush X1.here hx rfl (hb hby own_d3_5) k) ?_
  show own_Go _ _ _ _ _ _ _ (T1.setTop (mkF m 7 #[.val (.ref x0), .val (.int x1)] [(.int (6 : Int32)), (.int x1), (.ref aB)]))
  refine own_back (fun t k => XS.ishr X1.here hx rfl (hb hby own_d3_7) rfl k) ?_
  show own_Go _ _ _ _ _ _ _ (T1.setTop (mkF m 8 #[.val (.ref x0), .val (.int x1)] [(.int (x1 >>> ((6 : Int32) &&& 31))), (.ref aB)]))
  refine own_back (fun t k => own_ldJ X1 hx hZ e1 VA (j := (x1 >>> ((6 : Int32) &&& 31))) (w := (B (x1 >>> ((6 : Int32) &&& 31)).toNatClampNeg)) (own_ixp hok hM) rfl (g := (mkF m 8 #[.val (.ref x0), .val (.int x1)] [(.int (x1 >>> ((6 : Int32) &&& 31))), (.ref aB)])) rfl rfl (hb hby own_d3_8) t k) ?_
  show own_Go _ _ _ _ _ _ _ (T1.setTop (mkF m 9 #[.val (.ref x0), .val (.int x1)] [(.long (B (x1 >>> ((6 : Int32) &&& 31)).toNatClampNeg))]))
  refine own_back (fun t k => XS.lconst X1.here hx rfl (hb hby own_d3_9) k) ?_
  show own_Go _ _ _ _ _ _ _ (T1.setTop (mkF m 10 #[.val (.ref x0), .val (.int x1)] [(.long (1 : Int64)), (.long (B (x1 >>> ((6 : Int32) &&& 31)).toNatClampNeg))]))
  refine own_back (fun t k => XS.iloadN X1.here hx rfl (hb hby own_d3_10) rfl k) ?_
  show own_Go _ _ _ _ _ _ _ (T1.setTop (mkF m 11 #[.val (.ref x0), .val (.int x1)] [(.int x1), (.long (1 : Int64)), (.long (B (x1 >>> ((6 : Int32) &&& 31)).toNatClampNeg))]))
  refine own_back (fun t k => XS.lshl X1.here hx rfl (hb hby own_d3_11) rfl k) ?_
  show own_Go _ _ _ _ _ _ _ (T1.setTop (mkF m 12 #[.val (.ref x0), .val (.int x1)] [(.long ((1 : Int64) <<< (x1 &&& 0x3f).toInt64)), (.long (B (x1 >>> ((6 : Int32) &&& 31)).toNatClampNeg))]))
  refine own_back (fun t k => XS.land X1.here hx rfl (hb hby own_d3_12) rfl k) ?_
  show own_Go _ _ _ _ _ _ _ (T1.setTop (mkF m 13 #[.val (.ref x0), .val (.int x1)] [(.long ((B (x1 >>> ((6 : Int32) &&& 31)).toNatClampNeg) &&& ((1 : Int64) <<< (x1 &&& 0x3f).toInt64)))]))
  refine own_back (fun t k => XS.lconst X1.here hx rfl (hb hby own_d3_13) k) ?_
  show own_Go _ _ _ _ _ _ _ (T1.setTop (mkF m 14 #[.val (.ref x0), .val (.int x1)] [(.long (0 : Int64)), (.long ((B (x1 >>> ((6 : Int32) &&& 31)).toNatClampNeg) &&& ((1 : Int64) <<< (x1 &&& 0x3f).toInt64)))]))
  refine own_back (fun t k => XS.lcmp X1.here hx rfl (hb hby own_d3_14) rfl k) ?_
  show own_Go _ _ _ _ _ _ _ (T1.setTop (mkF m 15 #[.val (.ref x0), .val (.int x1)] [(.int (lcmpW ((B (x1 >>> ((6 : Int32) &&& 31)).toNatClampNeg) &&& ((1 : Int64) <<< (x1 &&& 0x3f).toInt64)) (0 : Int64)))]))
  by_cases hc15 : (lcmpW ((B (x1 >>> ((6 : Int32) &&& 31)).toNatClampNeg) &&& ((1 : Int64) <<< (x1 &&& 0x3f).toInt64)) (0 : Int64)) = (0 : Int32)
  · rw [if_pos hc15] at hR
    refine own_back (fun t k => XS.ifYes X1.here hx rfl (pc0 := 15) (pc' := 22) rfl (hb hby own_d3_15) rfl ((if0 _ _).trans (teq hc15).1) (by decide) (by decide) k) ?_
    show own_Go _ _ _ _ _ _ _ (T1.setTop (mkF m 22 #[.val (.ref x0), .val (.int x1)] []))
    refine own_back (fun t k => XS.iconst X1.here hx rfl (hb hby own_d3_22) k) ?_
    show own_Go _ _ _ _ _ _ _ (T1.setTop (mkF m 23 #[.val (.ref x0), .val (.int x1)] [(.int (0 : Int32))]))
    subst hR
    exact own_retN X1 hx (t := .boolean) hret (by simp) (hb hby own_d3_23) hlk (by decide) ⟨rfl, N, e1⟩ (by decide) (by decide)
  · rw [if_neg hc15] at hR
    refine own_back (fun t k => XS.ifNo X1.here hx rfl (hb hby own_d3_15) rfl ((if0 _ _).trans (feq hc15).1) k) ?_
    show own_Go _ _ _ _ _ _ _ (T1.setTop (mkF m 18 #[.val (.ref x0), .val (.int x1)] []))
    refine own_back (fun t k => XS.iconst X1.here hx rfl (hb hby own_d3_18) k) ?_
    show own_Go _ _ _ _ _ _ _ (T1.setTop (mkF m 19 #[.val (.ref x0), .val (.int x1)] [(.int (1 : Int32))]))
    refine own_back (fun t k => XS.goto X1.here hx rfl (pc0 := 19) (pc' := 23) rfl (hb hby own_d3_19) (by decide) (by decide) k) ?_
    show own_Go _ _ _ _ _ _ _ (T1.setTop (mkF m 23 #[.val (.ref x0), .val (.int x1)] [(.int (1 : Int32))]))
    subst hR
    exact own_retN X1 hx (t := .boolean) hret (by simp) (hb hby own_d3_23) hlk (by decide) ⟨rfl, N, e1⟩ (by decide) (by decide)
theorem own_pn3 : plainName "com/example/furl/furl/tree/PositionCounts" = true := by first | (simp [plainName, overriddenIn]; done) | decide +kernel
theorem own_ef3 (m : MethodId) (x0 : Addr) (x1 : Int32) : entryFrame m #[(.ref x0), (.int x1)] 2 = mkF m 0 #[.val (.ref x0), .val (.int x1)] [] := by first | (simp [entryFrame, mkF, argsToLocals, Value.category]; done) | rfl
set_option maxRecDepth 65536 in
set_option maxHeartbeats 4000000 in
theorem own_rm3 (l : Launch) (Z : State) (a0 : Array Value) (hw : ∀ d ∈ tables_1, d.before a0 Z = true) (ws : List Jvm.Cond) (x0 : Addr) (x1 : Int32) (aB : Addr) (NN : Nat) (B : Nat → Int64) (h0 : Heap) (n0 : Nat) (Z0 : n0 ≤ h0.size) (F0 : Fld Z h0 x0 "com/example/furl/furl/tree/PositionCounts" "bits" "[J" (.ref aB)) (VA : own_VA Z h0 aB .long NN (fun k => .long (B k))) (hok : own_ok NN x1) (hM : NN ≤ 16) :
    MetFree l (⟨"com/example/furl/furl/tree/PositionCounts", "contains", "(I)Z"⟩ : MethodName) (head1 (Jvm.Cond.code (⟨"com/example/furl/furl/tree/PositionCounts", "contains", "(I)Z"⟩ : MethodName) prog_112_method_3_code 2 (some .boolean) :: ws) ({ frames := 0, cells := 0, slots := 0, locals := 0 } : Room)) (fun a U => a = #[(.ref x0), (.int x1)] ∧ Z.Warmed39 U.vm ∧ U.heap = h0) (fun _ _ _ _ _ => True) (fun _ U o U' => ∃ v L, o = .returned v ∧ own_QP (.int (own_f3_0 B x1)) h0 n0 v U'.heap L ∧ FrameEnd U o U' L ({ frames := 0, cells := 0, slots := 0, locals := 0 } : Room).cells ({ frames := 0, cells := 0, slots := 0, locals := 0 } : Room).slots) := by
  refine MetFree.of_bodySF (plainFor_of_name own_pn3) hisR ?_
  intro p e s m args below meth c s₁ Bd hml0 hP hK
  obtain ⟨rfl, hZ, hh⟩ := hP
  have X0 : Stand p l e ({ frames := 0, cells := 0, slots := 0, locals := 0 } : Room) s m #[(.ref x0), (.int x1)] below meth c s₁ [] 0 0 := Stand.of_body Bd
  have e0 : s₁.heap = h0 := by rw [← hh, Bd.state]; rfl
  refine own_back (s := s) (fun t k => castTop (own_ef3 m x0 x1) k) ?_
  exact own_l3_0 X0 Bd.exec hZ hw Bd.bytes hml0 (findClass_of_methodNamed Bd.named) Bd.returns (BodyLoose.notSynchronized Bd) e0 (Fr.nil n0) Z0 x0 aB NN B x1 rfl F0 VA hok hM
/-! add -/
theorem own_d4_0 : decode prog_112_method_2_code 0 = .ok (.aload_n 0, 1) := by decide +kernel
theorem own_d4_1 : decode prog_112_method_2_code 1 = .ok (.getfield 7, 3) := by decide +kernel
theorem own_d4_4 : decode prog_112_method_2_code 4 = .ok (.iload_n 1, 1) := by decide +kernel
theorem own_d4_5 : decode prog_112_method_2_code 5 = .ok (.bipush 6, 2) := by decide +kernel
theorem own_d4_7 : decode prog_112_method_2_code 7 = .ok (.ishr, 1) := by decide +kernel
theorem own_d4_8 : decode prog_112_method_2_code 8 = .ok (.dup2, 1) := by decide +kernel
theorem own_d4_9 : decode prog_112_method_2_code 9 = .ok (.laload, 1) := by decide +kernel
theorem own_d4_10 : decode prog_112_method_2_code 10 = .ok (.lconst 1, 1) := by decide +kernel
theorem own_d4_11 : decode prog_112_method_2_code 11 = .ok (.iload_n 1, 1) := by decide +kernel
theorem own_d4_12 : decode prog_112_method_2_code 12 = .ok (.lshl, 1) := by decide +kernel
theorem own_d4_13 : decode prog_112_method_2_code 13 = .ok (.lxor, 1) := by decide +kernel
theorem own_d4_14 : decode prog_112_method_2_code 14 = .ok (.lastore, 1) := by decide +kernel
theorem own_d4_15 : decode prog_112_method_2_code 15 = .ok (.iload_n 1, 1) := by decide +kernel
theorem own_d4_16 : decode prog_112_method_2_code 16 = .ok (.bipush 6, 2) := by decide +kernel
theorem own_d4_18 : decode prog_112_method_2_code 18 = .ok (.ishr, 1) := by decide +kernel
theorem own_d4_19 : decode prog_112_method_2_code 19 = .ok (.iconst 1, 1) := by decide +kernel
theorem own_d4_20 : decode prog_112_method_2_code 20 = .ok (.iadd, 1) := by decide +kernel
theorem own_d4_21 : decode prog_112_method_2_code 21 = .ok (.istore_n 3, 1) := by decide +kernel
theorem own_d4_22 : decode prog_112_method_2_code 22 = .ok (.iload_n 3, 1) := by decide +kernel
theorem own_d4_23 : decode prog_112_method_2_code 23 = .ok (.aload_n 0, 1) := by decide +kernel
theorem own_d4_24 : decode prog_112_method_2_code 24 = .ok (.getfield 13, 3) := by decide +kernel
theorem own_d4_27 : decode prog_112_method_2_code 27 = .ok (.arraylength, 1) := by decide +kernel
theorem own_d4_28 : decode prog_112_method_2_code 28 = .ok (.if_icmp .ge 23, 3) := by decide +kernel
theorem own_d4_31 : decode prog_112_method_2_code 31 = .ok (.aload_n 0, 1) := by decide +kernel
theorem own_d4_32 : decode prog_112_method_2_code 32 = .ok (.getfield 13, 3) := by decide +kernel
theorem own_d4_35 : decode prog_112_method_2_code 35 = .ok (.iload_n 3, 1) := by decide +kernel
theorem own_d4_36 : decode prog_112_method_2_code 36 = .ok (.dup2, 1) := by decide +kernel
theorem own_d4_37 : decode prog_112_method_2_code 37 = .ok (.iaload, 1) := by decide +kernel
theorem own_d4_38 : decode prog_112_method_2_code 38 = .ok (.iload_n 2, 1) := by decide +kernel
theorem own_d4_39 : decode prog_112_method_2_code 39 = .ok (.iadd, 1) := by decide +kernel
theorem own_d4_40 : decode prog_112_method_2_code 40 = .ok (.iastore, 1) := by decide +kernel
theorem own_d4_41 : decode prog_112_method_2_code 41 = .ok (.iload_n 3, 1) := by decide +kernel
theorem own_d4_42 : decode prog_112_method_2_code 42 = .ok (.iload_n 3, 1) := by decide +kernel
theorem own_d4_43 : decode prog_112_method_2_code 43 = .ok (.iload_n 3, 1) := by decide +kernel
theorem own_d4_44 : decode prog_112_method_2_code 44 = .ok (.ineg, 1) := by decide +kernel
theorem own_d4_45 : decode prog_112_method_2_code 45 = .ok (.iand, 1) := by decide +kernel
theorem own_d4_46 : decode prog_112_method_2_code 46 = .ok (.iadd, 1) := by decide +kernel
theorem own_d4_47 : decode prog_112_method_2_code 47 = .ok (.istore_n 3, 1) := by decide +kernel
theorem own_d4_48 : decode prog_112_method_2_code 48 = .ok (.goto (-26), 3) := by decide +kernel
theorem own_d4_51 : decode prog_112_method_2_code 51 = .ok (.return_, 1) := by decide +kernel
set_option maxRecDepth 65536 in
set_option maxHeartbeats 4000000 in
theorem own_l4_22 {p : Program} {l : Launch} {e : Env} {s : State} {m : MethodId} {args : Array Value} {below : List Frame} {meth : Method} {c : Code} {Z : State} {a0 : Array Value} {n0 : Nat} (hx : p.tables.exec = Jvm.exec) (hZ : Z.Warmed39 s.vm) (hw : ∀ d ∈ tables_1, d.before a0 Z = true) (hby : c.code = prog_112_method_2_code) (hml : c.maxLocals = 4) (hown : s.vm.findClass "com/example/furl/furl/tree/PositionCounts" = some m.cls) (hret : meth.sig.returnType = none) (hlk : meth.locks = false) (x0 aB aW : Addr) (x1 x2 : Int32) (NN : Nat) (hNN : NN ≤ 16) (B : Nat → Int64) (k : Nat) : ∀ (i : Nat) (W : Nat → Int32) (T : State) (locs : List Loc) (h0 : Heap), 1 ≤ i → i ≤ 64 → NN < i + k → Stand p l e ({ frames := 0, cells := 0, slots := 0, locals := 0 } : Room) s m args below meth c T locs 0 0 → T.heap = h0 → Fr n0 locs → n0 ≤ h0.size → own_PC Z h0 n0 x0 aB aW NN B W →
      own_Go p e below s 0 0 (own_QA Z n0 x0 aB aW NN B (own_fen W k i x2)) (T.setTop (mkF m 22 #[.val (.ref x0), .val (.int x1), .val (.int x2), .val (.int (Int32.ofNat i))] [])) := by
  induction k with
  | zero =>
    intro i W T locs h0 hi hi2 hk X e0 N Z0 HP
    refine own_back (fun t k => XS.iloadN X.here hx rfl (hb hby own_d4_22) rfl k) ?_
    show own_Go _ _ _ _ _ _ _ (T.setTop (mkF m 23 #[.val (.ref x0), .val (.int x1), .val (.int x2), .val (.int (Int32.ofNat i))] [(.int (Int32.ofNat i))]))
    refine own_back (fun t k => XS.aloadN X.here hx rfl (hb hby own_d4_23) rfl rfl k) ?_
    show own_Go _ _ _ _ _ _ _ (T.setTop (mkF m 24 #[.val (.ref x0), .val (.int x1), .val (.int x2), .val (.int (Int32.ofNat i))] [(.ref x0), (.int (Int32.ofNat i))]))
    obtain ⟨T1, X1, e1, st1⟩ := getF X hx hZ hown (host := "") (Or.inl (hw _ (List.mem_of_getElem? (i := 14) rfl))) Via.refl e0 HP.2.2.1 (g := (mkF m 24 #[.val (.ref x0), .val (.int x1), .val (.int x2), .val (.int (Int32.ofNat i))] [(.ref x0), (.int (Int32.ofNat i))])) rfl rfl (hb hby own_d4_24)
    refine own_back (fun t k => st1 t k) ?_
    show own_Go _ _ _ _ _ _ _ (T1.setTop (mkF m 27 #[.val (.ref x0), .val (.int x1), .val (.int x2), .val (.int (Int32.ofNat i))] [(.ref aW), (.int (Int32.ofNat i))]))
    refine own_back (fun t k => own_len X1 hx hZ e1 HP.2.2.2.2.1 (z := Int32.ofNat (NN + 1)) rfl (g := (mkF m 27 #[.val (.ref x0), .val (.int x1), .val (.int x2), .val (.int (Int32.ofNat i))] [(.ref aW), (.int (Int32.ofNat i))])) rfl rfl (hb hby own_d4_27) t k) ?_
    show own_Go _ _ _ _ _ _ _ (T1.setTop (mkF m 28 #[.val (.ref x0), .val (.int x1), .val (.int x2), .val (.int (Int32.ofNat i))] [(.int (Int32.ofNat (NN + 1))), (.int (Int32.ofNat i))]))
    have hc : ¬ (Int32.ofNat i < Int32.ofNat (NN + 1)) := fun q => by have := own_lt.mp q; rw [Int32.toInt_ofNat_of_lt (by omega), Int32.toInt_ofNat_of_lt (by omega)] at this; omega
    have HQ : own_PC Z h0 n0 x0 aB aW NN B (own_fen W 0 i x2) := HP
    refine own_back (fun t k => XS.icmpYes X1.here hx rfl (pc0 := 28) (pc' := 51) rfl (hb hby own_d4_28) rfl (flt hc).2.1 (by decide) (by decide) k) ?_
    show own_Go _ _ _ _ _ _ _ (T1.setTop (mkF m 51 #[.val (.ref x0), .val (.int x1), .val (.int x2), .val (.int (Int32.ofNat i))] []))
    exact own_retV X1 hx hret (hb hby own_d4_51) hlk ⟨rfl, N, by rw [e1]; exact Z0, by rw [e1]; exact HQ⟩ (by decide) (by decide)
  | succ k ih =>
    intro i W T locs h0 hi hi2 hk X e0 N Z0 HP
    refine own_back (fun t k => XS.iloadN X.here hx rfl (hb hby own_d4_22) rfl k) ?_
    show own_Go _ _ _ _ _ _ _ (T.setTop (mkF m 23 #[.val (.ref x0), .val (.int x1), .val (.int x2), .val (.int (Int32.ofNat i))] [(.int (Int32.ofNat i))]))
    refine own_back (fun t k => XS.aloadN X.here hx rfl (hb hby own_d4_23) rfl rfl k) ?_
    show own_Go _ _ _ _ _ _ _ (T.setTop (mkF m 24 #[.val (.ref x0), .val (.int x1), .val (.int x2), .val (.int (Int32.ofNat i))] [(.ref x0), (.int (Int32.ofNat i))]))
    obtain ⟨T1, X1, e1, st1⟩ := getF X hx hZ hown (host := "") (Or.inl (hw _ (List.mem_of_getElem? (i := 14) rfl))) Via.refl e0 HP.2.2.1 (g := (mkF m 24 #[.val (.ref x0), .val (.int x1), .val (.int x2), .val (.int (Int32.ofNat i))] [(.ref x0), (.int (Int32.ofNat i))])) rfl rfl (hb hby own_d4_24)
    refine own_back (fun t k => st1 t k) ?_
    show own_Go _ _ _ _ _ _ _ (T1.setTop (mkF m 27 #[.val (.ref x0), .val (.int x1), .val (.int x2), .val (.int (Int32.ofNat i))] [(.ref aW), (.int (Int32.ofNat i))]))
    refine own_back (fun t k => own_len X1 hx hZ e1 HP.2.2.2.2.1 (z := Int32.ofNat (NN + 1)) rfl (g := (mkF m 27 #[.val (.ref x0), .val (.int x1), .val (.int x2), .val (.int (Int32.ofNat i))] [(.ref aW), (.int (Int32.ofNat i))])) rfl rfl (hb hby own_d4_27) t k) ?_
    show own_Go _ _ _ _ _ _ _ (T1.setTop (mkF m 28 #[.val (.ref x0), .val (.int x1), .val (.int x2), .val (.int (Int32.ofNat i))] [(.int (Int32.ofNat (NN + 1))), (.int (Int32.ofNat i))]))
    by_cases hlt : i < NN + 1
    · have hc : Int32.ofNat i < Int32.ofNat (NN + 1) := own_lt.mpr (by rw [Int32.toInt_ofNat_of_lt (by omega), Int32.toInt_ofNat_of_lt (by omega)]; omega)
      have lo := own_low_ok hi (by omega)
      refine own_back (fun t k => XS.icmpNo X1.here hx rfl (hb hby own_d4_28) rfl (tlt hc).2.1 k) ?_
      show own_Go _ _ _ _ _ _ _ (T1.setTop (mkF m 31 #[.val (.ref x0), .val (.int x1), .val (.int x2), .val (.int (Int32.ofNat i))] []))
      refine own_back (fun t k => XS.aloadN X1.here hx rfl (hb hby own_d4_31) rfl rfl k) ?_
      show own_Go _ _ _ _ _ _ _ (T1.setTop (mkF m 32 #[.val (.ref x0), .val (.int x1), .val (.int x2), .val (.int (Int32.ofNat i))] [(.ref x0)]))
      obtain ⟨T2, X2, e2, st2⟩ := getF X1 hx hZ hown (host := "") (Or.inl (hw _ (List.mem_of_getElem? (i := 14) rfl))) Via.refl e1 HP.2.2.1 (g := (mkF m 32 #[.val (.ref x0), .val (.int x1), .val (.int x2), .val (.int (Int32.ofNat i))] [(.ref x0)])) rfl rfl (hb hby own_d4_32)
      refine own_back (fun t k => st2 t k) ?_
      show own_Go _ _ _ _ _ _ _ (T2.setTop (mkF m 35 #[.val (.ref x0), .val (.int x1), .val (.int x2), .val (.int (Int32.ofNat i))] [(.ref aW)]))
      refine own_back (fun t k => XS.iloadN X2.here hx rfl (hb hby own_d4_35) rfl k) ?_
      show own_Go _ _ _ _ _ _ _ (T2.setTop (mkF m 36 #[.val (.ref x0), .val (.int x1), .val (.int x2), .val (.int (Int32.ofNat i))] [(.int (Int32.ofNat i)), (.ref aW)]))
      refine own_back (fun t k => Jvm.Free.XT.dup2 X2.here hx rfl (hb hby own_d4_36) rfl rfl rfl k) ?_
      show own_Go _ _ _ _ _ _ _ (T2.setTop (mkF m 37 #[.val (.ref x0), .val (.int x1), .val (.int x2), .val (.int (Int32.ofNat i))] [(.int (Int32.ofNat i)), (.ref aW), (.int (Int32.ofNat i)), (.ref aW)]))
      refine own_back (fun t k => own_ldI X2 hx hZ e2 HP.2.2.2.2.1 (j := Int32.ofNat i) (w := W i) (own_in hlt (by omega)) (by rw [(own_clamp (by omega)).2]) (g := (mkF m 37 #[.val (.ref x0), .val (.int x1), .val (.int x2), .val (.int (Int32.ofNat i))] [(.int (Int32.ofNat i)), (.ref aW), (.int (Int32.ofNat i)), (.ref aW)])) rfl rfl (hb hby own_d4_37) t k) ?_
      show own_Go _ _ _ _ _ _ _ (T2.setTop (mkF m 38 #[.val (.ref x0), .val (.int x1), .val (.int x2), .val (.int (Int32.ofNat i))] [(.int (W i)), (.int (Int32.ofNat i)), (.ref aW)]))
      refine own_back (fun t k => XS.iloadN X2.here hx rfl (hb hby own_d4_38) rfl k) ?_
      show own_Go _ _ _ _ _ _ _ (T2.setTop (mkF m 39 #[.val (.ref x0), .val (.int x1), .val (.int x2), .val (.int (Int32.ofNat i))] [(.int x2), (.int (W i)), (.int (Int32.ofNat i)), (.ref aW)]))
      refine own_back (fun t k => XS.iadd X2.here hx rfl (hb hby own_d4_39) rfl k) ?_
      show own_Go _ _ _ _ _ _ _ (T2.setTop (mkF m 40 #[.val (.ref x0), .val (.int x1), .val (.int x2), .val (.int (Int32.ofNat i))] [(.int (W i + x2)), (.int (Int32.ofNat i)), (.ref aW)]))
      obtain ⟨T3, h3, X3, e3, W3, -, st3⟩ := own_stI X2 hx hZ e2 HP.2.2.2.2.1 i (own_in hlt (by omega)) (own_clamp (by omega)).2 (g := (mkF m 40 #[.val (.ref x0), .val (.int x1), .val (.int x2), .val (.int (Int32.ofNat i))] [(.int (W i + x2)), (.int (Int32.ofNat i)), (.ref aW)])) rfl rfl (hb hby own_d4_40)
      have N3 := Fr.snoc X3 N HP.2.2.2.2.2.2.1
      have Z3 : n0 ≤ h3.size := Nat.le_trans Z0 (Keep.of_wr W3).1
      have HP3 := own_PC_W HP W3 hlt
      refine own_back (fun t k => st3 t k) ?_
      show own_Go _ _ _ _ _ _ _ (T3.setTop (mkF m 41 #[.val (.ref x0), .val (.int x1), .val (.int x2), .val (.int (Int32.ofNat i))] []))
      refine own_back (fun t k => XS.iloadN X3.here hx rfl (hb hby own_d4_41) rfl k) ?_
      show own_Go _ _ _ _ _ _ _ (T3.setTop (mkF m 42 #[.val (.ref x0), .val (.int x1), .val (.int x2), .val (.int (Int32.ofNat i))] [(.int (Int32.ofNat i))]))
      refine own_back (fun t k => XS.iloadN X3.here hx rfl (hb hby own_d4_42) rfl k) ?_
      show own_Go _ _ _ _ _ _ _ (T3.setTop (mkF m 43 #[.val (.ref x0), .val (.int x1), .val (.int x2), .val (.int (Int32.ofNat i))] [(.int (Int32.ofNat i)), (.int (Int32.ofNat i))]))
      refine own_back (fun t k => XS.iloadN X3.here hx rfl (hb hby own_d4_43) rfl k) ?_
      show own_Go _ _ _ _ _ _ _ (T3.setTop (mkF m 44 #[.val (.ref x0), .val (.int x1), .val (.int x2), .val (.int (Int32.ofNat i))] [(.int (Int32.ofNat i)), (.int (Int32.ofNat i)), (.int (Int32.ofNat i))]))
      refine own_back (fun t k => XS.ineg X3.here hx rfl (hb hby own_d4_44) rfl k) ?_
      show own_Go _ _ _ _ _ _ _ (T3.setTop (mkF m 45 #[.val (.ref x0), .val (.int x1), .val (.int x2), .val (.int (Int32.ofNat i))] [(.int (-(Int32.ofNat i))), (.int (Int32.ofNat i)), (.int (Int32.ofNat i))]))
      refine own_back (fun t k => XS.iand X3.here hx rfl (hb hby own_d4_45) rfl k) ?_
      show own_Go _ _ _ _ _ _ _ (T3.setTop (mkF m 46 #[.val (.ref x0), .val (.int x1), .val (.int x2), .val (.int (Int32.ofNat i))] [(.int ((Int32.ofNat i) &&& (-(Int32.ofNat i)))), (.int (Int32.ofNat i))]))
      refine own_back (fun t k => XS.iadd X3.here hx rfl (hb hby own_d4_46) rfl k) ?_
      show own_Go _ _ _ _ _ _ _ (T3.setTop (mkF m 47 #[.val (.ref x0), .val (.int x1), .val (.int x2), .val (.int (Int32.ofNat i))] [(.int (Int32.ofNat i + ((Int32.ofNat i) &&& (-(Int32.ofNat i)))))]))
      rw [lo.2.2]
      refine own_back (fun t k => XS.istoreN X3.here hx rfl (hb hby own_d4_47) rfl (l' := #[.val (.ref x0), .val (.int x1), .val (.int x2), .val (.int (Int32.ofNat (i + own_low i)))]) rfl k) ?_
      show own_Go _ _ _ _ _ _ _ (T3.setTop (mkF m 48 #[.val (.ref x0), .val (.int x1), .val (.int x2), .val (.int (Int32.ofNat (i + own_low i)))] []))
      refine own_back (fun t k => XS.goto X3.here hx rfl (pc0 := 48) (pc' := 22) rfl (hb hby own_d4_48) (by decide) (by decide) k) ?_
      show own_Go _ _ _ _ _ _ _ (T3.setTop (mkF m 22 #[.val (.ref x0), .val (.int x1), .val (.int x2), .val (.int (Int32.ofNat (i + own_low i)))] []))
      have G := ih (i + own_low i) _ T3 _ h3 (by omega) (by omega) (by omega) X3 e3 N3 Z3 HP3
      obtain ⟨s₂, o, g1, g2, g3, v, L, g4, ⟨g5, g6, g7, g8⟩, g9⟩ := G
      refine ⟨s₂, o, g1, g2, g3, v, L, g4, ⟨g5, g6, g7, own_PC_congr g8 (fun j hj => ?_)⟩, g9⟩
      show (if own_up k (i + own_low i) j = true then (if j = i then W i + x2 else W j) + x2 else (if j = i then W i + x2 else W j)) = (if (i == j || own_up k (i + own_low i) j) = true then W j + x2 else W j)
      by_cases q : j = i
      · subst q
        rw [own_up_lt k _ _ (by omega), if_neg (by decide), if_pos rfl, beq_self_eq_true, Bool.true_or, if_pos rfl]
      · rw [if_neg q, beq_false_of_ne (fun z => q z.symm), Bool.false_or]
    · have hc : ¬ (Int32.ofNat i < Int32.ofNat (NN + 1)) := fun q => by have := own_lt.mp q; rw [Int32.toInt_ofNat_of_lt (by omega), Int32.toInt_ofNat_of_lt (by omega)] at this; omega
      have HQ : own_PC Z h0 n0 x0 aB aW NN B (own_fen W (k + 1) i x2) := own_PC_congr HP (fun j hj => by
        show W j = if own_up (k + 1) i j = true then W j + x2 else W j
        rw [own_up_lt _ _ _ (by omega), if_neg (by decide)])
      refine own_back (fun t k => XS.icmpYes X1.here hx rfl (pc0 := 28) (pc' := 51) rfl (hb hby own_d4_28) rfl (flt hc).2.1 (by decide) (by decide) k) ?_
      show own_Go _ _ _ _ _ _ _ (T1.setTop (mkF m 51 #[.val (.ref x0), .val (.int x1), .val (.int x2), .val (.int (Int32.ofNat i))] []))
      exact own_retV X1 hx hret (hb hby own_d4_51) hlk ⟨rfl, N, by rw [e1]; exact Z0, by rw [e1]; exact HQ⟩ (by decide) (by decide)
theorem own_pn4 : plainName "com/example/furl/furl/tree/PositionCounts" = true := by first | (simp [plainName, overriddenIn]; done) | decide +kernel
theorem own_ef4 (m : MethodId) (x0 : Addr) (x1 x2 : Int32) : entryFrame m #[(.ref x0), (.int x1), (.int x2)] 4 = (mkF m 0 #[.val (.ref x0), .val (.int x1), .val (.int x2), .unset] []) := by first | (simp [entryFrame, mkF, argsToLocals, Value.category]; done) | rfl
set_option maxRecDepth 65536 in
set_option maxHeartbeats 4000000 in
theorem own_rm4 (l : Launch) (Z : State) (a0 : Array Value) (hw : ∀ d ∈ tables_1, d.before a0 Z = true) (ws : List Jvm.Cond) (x0 : Addr) (x1 x2 : Int32) (aB aW : Addr) (NN : Nat) (B : Nat → Int64) (W : Nat → Int32) (h0 : Heap) (n0 : Nat) (Z0 : n0 ≤ h0.size) (HP : own_PC Z h0 n0 x0 aB aW NN B W) (hNN : NN ≤ 16) (hok : own_ok NN x1) :
    MetFree l (⟨"com/example/furl/furl/tree/PositionCounts", "add", "(II)V"⟩ : MethodName) (head1 (Jvm.Cond.code (⟨"com/example/furl/furl/tree/PositionCounts", "add", "(II)V"⟩ : MethodName) prog_112_method_2_code 4 none :: ws) ({ frames := 0, cells := 0, slots := 0, locals := 0 } : Room)) (fun a U => a = #[(.ref x0), (.int x1), (.int x2)] ∧ Z.Warmed39 U.vm ∧ U.heap = h0) (fun _ _ _ _ _ => True) (fun _ U o U' => ∃ v L, o = .returned v ∧ own_QA Z n0 x0 aB aW NN (own_tog B x1) (own_cnt W x1 x2) v U'.heap L ∧ FrameEnd U o U' L ({ frames := 0, cells := 0, slots := 0, locals := 0 } : Room).cells ({ frames := 0, cells := 0, slots := 0, locals := 0 } : Room).slots) := by
  refine MetFree.of_bodySF (plainFor_of_name own_pn4) hisR ?_
  intro p e s m args below meth c T Bd hml0 hP hK
  obtain ⟨rfl, hZ, hh⟩ := hP
  have hx := Bd.exec
  have hby := Bd.bytes
  have hown : s.vm.findClass "com/example/furl/furl/tree/PositionCounts" = some m.cls := findClass_of_methodNamed Bd.named
  have X : Stand p l e ({ frames := 0, cells := 0, slots := 0, locals := 0 } : Room) s m #[(.ref x0), (.int x1), (.int x2)] below meth c T [] 0 0 := Stand.of_body Bd
  have e0 : T.heap = h0 := by rw [← hh, Bd.state]; rfl
  have N := Fr.nil n0
  have hbb := own_hb x1
  have hN := hok.2
  have hsh : x1 >>> ((6 : Int32) &&& 31) = Int32.ofNat (x1.toNatClampNeg / 64) := by
    have q := own_shr hbb
    rw [← own_hp hok.1] at q
    exact q
  refine own_back (s := s) (Q := own_QA Z n0 x0 aB aW NN (own_tog B x1) (own_cnt W x1 x2)) (fun t k => castTop (own_ef4 m x0 x1 x2) k) ?_
  refine own_back (fun t k => XS.aloadN X.here hx rfl (hb hby own_d4_0) rfl rfl k) ?_
  show own_Go _ _ _ _ _ _ _ (T.setTop (mkF m 1 #[.val (.ref x0), .val (.int x1), .val (.int x2), .unset] [(.ref x0)]))
  obtain ⟨T1, X1, e1, st1⟩ := getF X hx hZ hown (host := "") (Or.inl (hw _ (List.mem_of_getElem? (i := 11) rfl))) Via.refl e0 HP.2.1 (g := (mkF m 1 #[.val (.ref x0), .val (.int x1), .val (.int x2), .unset] [(.ref x0)])) rfl rfl (hb hby own_d4_1)
  refine own_back (fun t k => st1 t k) ?_
  show own_Go _ _ _ _ _ _ _ (T1.setTop (mkF m 4 #[.val (.ref x0), .val (.int x1), .val (.int x2), .unset] [(.ref aB)]))
  refine own_back (fun t k => XS.iloadN X1.here hx rfl (hb hby own_d4_4) rfl k) ?_
  show own_Go _ _ _ _ _ _ _ (T1.setTop (mkF m 5 #[.val (.ref x0), .val (.int x1), .val (.int x2), .unset] [(.int x1), (.ref aB)]))
  refine own_back (fun t k => XS.bipush X1.here hx rfl (hb hby own_d4_5) k) ?_
  show own_Go _ _ _ _ _ _ _ (T1.setTop (mkF m 7 #[.val (.ref x0), .val (.int x1), .val (.int x2), .unset] [(.int (6 : Int32)), (.int x1), (.ref aB)]))
  refine own_back (fun t k => XS.ishr X1.here hx rfl (hb hby own_d4_7) rfl k) ?_
  show own_Go _ _ _ _ _ _ _ (T1.setTop (mkF m 8 #[.val (.ref x0), .val (.int x1), .val (.int x2), .unset] [(.int (x1 >>> ((6 : Int32) &&& 31))), (.ref aB)]))
  rw [hsh]
  show own_Go _ _ _ _ _ _ _ (T1.setTop (mkF m 8 #[.val (.ref x0), .val (.int x1), .val (.int x2), .unset] [(.int (Int32.ofNat (x1.toNatClampNeg / 64))), (.ref aB)]))
  refine own_back (fun t k => Jvm.Free.XT.dup2 X1.here hx rfl (hb hby own_d4_8) rfl rfl rfl k) ?_
  show own_Go _ _ _ _ _ _ _ (T1.setTop (mkF m 9 #[.val (.ref x0), .val (.int x1), .val (.int x2), .unset] [(.int (Int32.ofNat (x1.toNatClampNeg / 64))), (.ref aB), (.int (Int32.ofNat (x1.toNatClampNeg / 64))), (.ref aB)]))
  refine own_back (fun t k => own_ldJ X1 hx hZ e1 HP.2.2.2.1 (j := Int32.ofNat (x1.toNatClampNeg / 64)) (w := B (x1.toNatClampNeg / 64)) (own_in hN (by omega)) (by rw [(own_clamp (by omega)).2]) (g := (mkF m 9 #[.val (.ref x0), .val (.int x1), .val (.int x2), .unset] [(.int (Int32.ofNat (x1.toNatClampNeg / 64))), (.ref aB), (.int (Int32.ofNat (x1.toNatClampNeg / 64))), (.ref aB)])) rfl rfl (hb hby own_d4_9) t k) ?_
  show own_Go _ _ _ _ _ _ _ (T1.setTop (mkF m 10 #[.val (.ref x0), .val (.int x1), .val (.int x2), .unset] [(.long (B (x1.toNatClampNeg / 64))), (.int (Int32.ofNat (x1.toNatClampNeg / 64))), (.ref aB)]))
  refine own_back (fun t k => XS.lconst X1.here hx rfl (hb hby own_d4_10) k) ?_
  show own_Go _ _ _ _ _ _ _ (T1.setTop (mkF m 11 #[.val (.ref x0), .val (.int x1), .val (.int x2), .unset] [(.long (1 : Int64)), (.long (B (x1.toNatClampNeg / 64))), (.int (Int32.ofNat (x1.toNatClampNeg / 64))), (.ref aB)]))
  refine own_back (fun t k => XS.iloadN X1.here hx rfl (hb hby own_d4_11) rfl k) ?_
  show own_Go _ _ _ _ _ _ _ (T1.setTop (mkF m 12 #[.val (.ref x0), .val (.int x1), .val (.int x2), .unset] [(.int x1), (.long (1 : Int64)), (.long (B (x1.toNatClampNeg / 64))), (.int (Int32.ofNat (x1.toNatClampNeg / 64))), (.ref aB)]))
  refine own_back (fun t k => XS.lshl X1.here hx rfl (hb hby own_d4_12) rfl k) ?_
  show own_Go _ _ _ _ _ _ _ (T1.setTop (mkF m 13 #[.val (.ref x0), .val (.int x1), .val (.int x2), .unset] [(.long ((1 : Int64) <<< (x1 &&& 0x3f).toInt64)), (.long (B (x1.toNatClampNeg / 64))), (.int (Int32.ofNat (x1.toNatClampNeg / 64))), (.ref aB)]))
  refine own_back (fun t k => XS.lxor X1.here hx rfl (hb hby own_d4_13) rfl k) ?_
  show own_Go _ _ _ _ _ _ _ (T1.setTop (mkF m 14 #[.val (.ref x0), .val (.int x1), .val (.int x2), .unset] [(.long (B (x1.toNatClampNeg / 64) ^^^ ((1 : Int64) <<< (x1 &&& 0x3f).toInt64))), (.int (Int32.ofNat (x1.toNatClampNeg / 64))), (.ref aB)]))
  obtain ⟨T2, h2, X2, e2, W2, -, st2⟩ := own_stJ X1 hx hZ e1 HP.2.2.2.1 (x1.toNatClampNeg / 64) (own_in hN (by omega)) (own_clamp (by omega)).2 (g := (mkF m 14 #[.val (.ref x0), .val (.int x1), .val (.int x2), .unset] [(.long (B (x1.toNatClampNeg / 64) ^^^ ((1 : Int64) <<< (x1 &&& 0x3f).toInt64))), (.int (Int32.ofNat (x1.toNatClampNeg / 64))), (.ref aB)])) rfl rfl (hb hby own_d4_14)
  have N2 := Fr.snoc X2 N HP.2.2.2.2.2.1
  have Z2 : n0 ≤ h2.size := Nat.le_trans Z0 (Keep.of_wr W2).1
  have HP2 : own_PC Z h2 n0 x0 aB aW NN (own_tog B x1) W := own_PC_B HP W2 hN
  refine own_back (fun t k => st2 t k) ?_
  show own_Go _ _ _ _ _ _ _ (T2.setTop (mkF m 15 #[.val (.ref x0), .val (.int x1), .val (.int x2), .unset] []))
  refine own_back (fun t k => XS.iloadN X2.here hx rfl (hb hby own_d4_15) rfl k) ?_
  show own_Go _ _ _ _ _ _ _ (T2.setTop (mkF m 16 #[.val (.ref x0), .val (.int x1), .val (.int x2), .unset] [(.int x1)]))
  refine own_back (fun t k => XS.bipush X2.here hx rfl (hb hby own_d4_16) k) ?_
  show own_Go _ _ _ _ _ _ _ (T2.setTop (mkF m 18 #[.val (.ref x0), .val (.int x1), .val (.int x2), .unset] [(.int (6 : Int32)), (.int x1)]))
  refine own_back (fun t k => XS.ishr X2.here hx rfl (hb hby own_d4_18) rfl k) ?_
  show own_Go _ _ _ _ _ _ _ (T2.setTop (mkF m 19 #[.val (.ref x0), .val (.int x1), .val (.int x2), .unset] [(.int (x1 >>> ((6 : Int32) &&& 31)))]))
  rw [hsh]
  show own_Go _ _ _ _ _ _ _ (T2.setTop (mkF m 19 #[.val (.ref x0), .val (.int x1), .val (.int x2), .unset] [(.int (Int32.ofNat (x1.toNatClampNeg / 64)))]))
  refine own_back (fun t k => XS.iconst X2.here hx rfl (hb hby own_d4_19) k) ?_
  show own_Go _ _ _ _ _ _ _ (T2.setTop (mkF m 20 #[.val (.ref x0), .val (.int x1), .val (.int x2), .unset] [(.int (1 : Int32)), (.int (Int32.ofNat (x1.toNatClampNeg / 64)))]))
  refine own_back (fun t k => XS.iadd X2.here hx rfl (hb hby own_d4_20) rfl k) ?_
  show own_Go _ _ _ _ _ _ _ (T2.setTop (mkF m 21 #[.val (.ref x0), .val (.int x1), .val (.int x2), .unset] [(.int (Int32.ofNat (x1.toNatClampNeg / 64) + Int32.ofNat 1))]))
  rw [own_plus]
  refine own_back (fun t k => XS.istoreN X2.here hx rfl (hb hby own_d4_21) rfl (l' := #[.val (.ref x0), .val (.int x1), .val (.int x2), .val (.int (Int32.ofNat (x1.toNatClampNeg / 64 + 1)))]) rfl k) ?_
  show own_Go _ _ _ _ _ _ _ (T2.setTop (mkF m 22 #[.val (.ref x0), .val (.int x1), .val (.int x2), .val (.int (Int32.ofNat (x1.toNatClampNeg / 64 + 1)))] []))
  exact own_l4_22 hx hZ hw hby hml0 hown Bd.returns (BodyLoose.notSynchronized Bd) x0 aB aW x1 x2 NN hNN (own_tog B x1) 20 (x1.toNatClampNeg / 64 + 1) W T2 _ h2 (by omega) (by omega) (by omega) X2 e2 N2 Z2 HP2
theorem own_nn0 {x : Int32} (h : 0 ≤ x.toInt) : ¬ x < 0 ∧ (x.toNatClampNeg : Int) = x.toInt := by
  have z : (0 : Int32).toInt = 0 := rfl
  refine ⟨fun q => by have := own_lt.mp q; omega, ?_⟩
  show ((x.toInt.toNat : Nat) : Int) = x.toInt
  omega
theorem own_max (y : Int32) : 0 ≤ (y &&& (2147483647 : Int32)).toInt := by
  have e : (y &&& (2147483647 : Int32)).toInt = y.toInt % 2147483648 := c_mask y 2147483647 31 (by decide) (by decide)
  omega
/-- a remainder as a place below the divisor -/
theorem own_rem (y c : Int32) (hc : 1 ≤ c.toInt) : ¬ ((y &&& (2147483647 : Int32)) % c) < 0 ∧ (((y &&& (2147483647 : Int32)) % c).toNatClampNeg : Int) < c.toInt := by
  have r := (c_iremV (y &&& (2147483647 : Int32)) c).1 (own_max y) (by omega)
  have e := own_nn0 r.1
  exact ⟨e.1, by omega⟩
theorem own_len6 {c : Int32} (h : ¬ c < 0) (h2 : c.toNatClampNeg ≤ 2000) : (c + (63 : Int32)) >>> ((6 : Int32) &&& 31) = Int32.ofNat ((c.toNatClampNeg + 63) / 64) := by
  have q := own_shr (k := c.toNatClampNeg + 63) (by omega)
  rw [← own_plus, ← own_hp h] at q
  exact q
def own_rng (i5 i6 i7 i9 : Int32) : Prop := ¬ i5 < 0 ∧ 1 ≤ i5.toNatClampNeg ∧ i5.toNatClampNeg ≤ 1024 ∧ (¬ i6 < 0 ∧ i6.toNatClampNeg < i5.toNatClampNeg) ∧ (¬ i7 < 0 ∧ i7.toNatClampNeg < i5.toNatClampNeg) ∧ (¬ i9 < 0 ∧ i9.toNatClampNeg < i5.toNatClampNeg)
theorem own_c (x : Int32) : 1 ≤ ((x &&& (1023 : Int32)) + (1 : Int32)).toInt ∧ ((x &&& (1023 : Int32)) + (1 : Int32)).toInt ≤ 1024 := by
  have e : (x &&& (1023 : Int32)).toInt = x.toInt % 1024 := c_mask x 1023 10 (by decide) (by decide)
  have a := c_iadd (x &&& (1023 : Int32)) 1
  have r := rng32 ((x &&& (1023 : Int32)) + 1)
  have z : (1 : Int32).toInt = 1 := rfl
  omega
theorem own_cnz (x : Int32) : ((x &&& (1023 : Int32)) + (1 : Int32)) ≠ 0 := fun q => by
  have a := own_c x
  rw [q] at a
  exact absurd a.1 (by decide)
theorem own_rng_in (x a b d : Int32) : own_rng ((x &&& (1023 : Int32)) + (1 : Int32)) ((a &&& (2147483647 : Int32)) % ((x &&& (1023 : Int32)) + (1 : Int32))) ((b &&& (2147483647 : Int32)) % ((x &&& (1023 : Int32)) + (1 : Int32))) ((d &&& (2147483647 : Int32)) % ((x &&& (1023 : Int32)) + (1 : Int32))) := by
  have hc := own_c x
  generalize (x &&& (1023 : Int32)) + (1 : Int32) = c at *
  have n := own_nn0 (x := c) (by omega)
  have ra := own_rem a c hc.1
  have rb := own_rem b c hc.1
  have rd := own_rem d c hc.1
  exact ⟨n.1, by omega, by omega, ⟨ra.1, by omega⟩, ⟨rb.1, by omega⟩, ⟨rd.1, by omega⟩⟩
def own_r2 (N : Nat) (i6 i7 i9 : Int32) : Prop := N ≤ 16 ∧ own_ok N i6 ∧ own_ok N i7 ∧ own_ok N i9
theorem own_r2_of {i5 i6 i7 i9 : Int32} (h : own_rng i5 i6 i7 i9) : own_r2 ((i5.toNatClampNeg + 63) / 64) i6 i7 i9 := by
  obtain ⟨h0, h1, h2, h3, h4, h5⟩ := h
  exact ⟨by omega, ⟨h3.1, by omega⟩, ⟨h4.1, by omega⟩, ⟨h5.1, by omega⟩⟩
theorem own_pd0 : parseMethodDescriptor "(I)V" = some ⟨[.int], none⟩ := by decide +kernel
theorem own_pd1 : parseMethodDescriptor "(I)Z" = some ⟨[.int], some .boolean⟩ := by decide +kernel
theorem own_pd2 : parseMethodDescriptor "(II)V" = some ⟨[.int, .int], none⟩ := by decide +kernel
/-! body 0: com/example/furl/furl/tree/PositionCountsContainsPinLaw.law:(IIIII)Z -/
def own_f0_177 (i0 : Int32) (i1 : Int32) (i2 : Int32) (i3 : Int32) (i4 : Int32) (i5 : Int32) (i6 : Int32) (i7 : Int32) (i8 : Int32) (i9 : Int32) (i10 : Int32) (i12 : Int32) (i13 : Int32) (t0 : Int32) : Int32 := (if i12 = (0 : Int32) then (if i13 = t0 then (1 : Int32) else (0 : Int32)) else (0 : Int32))
def own_f0_176 (i0 : Int32) (i1 : Int32) (i2 : Int32) (i3 : Int32) (i4 : Int32) (i5 : Int32) (i6 : Int32) (i7 : Int32) (i8 : Int32) (i9 : Int32) (i10 : Int32) (i12 : Int32) (i13 : Int32) : Int32 := (own_f0_177 i0 i1 i2 i3 i4 i5 i6 i7 i8 i9 i10 i12 i13 (0 : Int32))
def own_f0_172 (i0 : Int32) (i1 : Int32) (i2 : Int32) (i3 : Int32) (i4 : Int32) (i5 : Int32) (i6 : Int32) (i7 : Int32) (i8 : Int32) (i9 : Int32) (i10 : Int32) (i12 : Int32) (i13 : Int32) : Int32 := (own_f0_177 i0 i1 i2 i3 i4 i5 i6 i7 i8 i9 i10 i12 i13 (1 : Int32))
def own_f0_158 (i0 : Int32) (i1 : Int32) (i2 : Int32) (i3 : Int32) (i4 : Int32) (i5 : Int32) (i6 : Int32) (i7 : Int32) (i8 : Int32) (i9 : Int32) (i10 : Int32) (i12 : Int32) (i13 : Int32) : Int32 := (if i9 = i7 then (if i7 = i6 then (own_f0_176 i0 i1 i2 i3 i4 i5 i6 i7 i8 i9 i10 i12 i13) else (own_f0_172 i0 i1 i2 i3 i4 i5 i6 i7 i8 i9 i10 i12 i13)) else (own_f0_176 i0 i1 i2 i3 i4 i5 i6 i7 i8 i9 i10 i12 i13))
def own_f0_137 (B : Nat → Int64) (i0 : Int32) (i1 : Int32) (i2 : Int32) (i3 : Int32) (i4 : Int32) (i5 : Int32) (i6 : Int32) (i7 : Int32) (i8 : Int32) (i9 : Int32) (i10 : Int32) (i12 : Int32) : Int32 := (if i9 = i6 then (if i10 = (0 : Int32) then (own_f0_172 i0 i1 i2 i3 i4 i5 i6 i7 i8 i9 i10 i12 (own_f3_0 B i9)) else (own_f0_158 i0 i1 i2 i3 i4 i5 i6 i7 i8 i9 i10 i12 (own_f3_0 B i9))) else (own_f0_158 i0 i1 i2 i3 i4 i5 i6 i7 i8 i9 i10 i12 (own_f3_0 B i9)))
def own_f0_124 (B : Nat → Int64) (i0 : Int32) (i1 : Int32) (i2 : Int32) (i3 : Int32) (i4 : Int32) (i5 : Int32) (i6 : Int32) (i7 : Int32) (i8 : Int32) (i9 : Int32) (i10 : Int32) (i12 : Int32) : Int32 := (if i10 = (0 : Int32) then (own_f0_137 B i0 i1 i2 i3 i4 i5 i6 i7 i8 i9 i10 i12) else (own_f0_137 (own_tog B i6) i0 i1 i2 i3 i4 i5 i6 i7 i8 i9 i10 i12))
def own_f0_79 (i0 : Int32) (i1 : Int32) (i2 : Int32) (i3 : Int32) (i4 : Int32) (i5 : Int32) (i6 : Int32) (i7 : Int32) (i8 : Int32) (i9 : Int32) (t0 : Int32) : Int32 := (if i7 = i6 then (own_f0_124 (own_tog (fun _ => (0 : Int64)) i6) i0 i1 i2 i3 i4 i5 i6 i7 i8 i9 t0 (own_f3_0 (fun _ => (0 : Int64)) i9)) else (own_f0_124 (own_tog (own_tog (fun _ => (0 : Int64)) i6) i7) i0 i1 i2 i3 i4 i5 i6 i7 i8 i9 t0 (own_f3_0 (fun _ => (0 : Int64)) i9)))
def own_f0_67 (i0 : Int32) (i1 : Int32) (i2 : Int32) (i3 : Int32) (i4 : Int32) (i5 : Int32) (i6 : Int32) (i7 : Int32) (i8 : Int32) (i9 : Int32) : Int32 := (if (i4 &&& (4 : Int32)) = (0 : Int32) then (own_f0_79 i0 i1 i2 i3 i4 i5 i6 i7 i8 i9 (0 : Int32)) else (own_f0_79 i0 i1 i2 i3 i4 i5 i6 i7 i8 i9 (1 : Int32)))
def own_f0_0 (x0 : Int32) (x1 : Int32) (x2 : Int32) (x3 : Int32) (x4 : Int32) : Int32 := (if (x4 &&& (3 : Int32)) = (0 : Int32) then (own_f0_67 x0 x1 x2 x3 x4 ((x0 &&& (1023 : Int32)) + (1 : Int32)) ((x1 &&& (2147483647 : Int32)) % ((x0 &&& (1023 : Int32)) + (1 : Int32))) ((x2 &&& (2147483647 : Int32)) % ((x0 &&& (1023 : Int32)) + (1 : Int32))) (x4 &&& (3 : Int32)) ((x1 &&& (2147483647 : Int32)) % ((x0 &&& (1023 : Int32)) + (1 : Int32)))) else (if (x4 &&& (3 : Int32)) = (1 : Int32) then (own_f0_67 x0 x1 x2 x3 x4 ((x0 &&& (1023 : Int32)) + (1 : Int32)) ((x1 &&& (2147483647 : Int32)) % ((x0 &&& (1023 : Int32)) + (1 : Int32))) ((x2 &&& (2147483647 : Int32)) % ((x0 &&& (1023 : Int32)) + (1 : Int32))) (x4 &&& (3 : Int32)) ((x2 &&& (2147483647 : Int32)) % ((x0 &&& (1023 : Int32)) + (1 : Int32)))) else (own_f0_67 x0 x1 x2 x3 x4 ((x0 &&& (1023 : Int32)) + (1 : Int32)) ((x1 &&& (2147483647 : Int32)) % ((x0 &&& (1023 : Int32)) + (1 : Int32))) ((x2 &&& (2147483647 : Int32)) % ((x0 &&& (1023 : Int32)) + (1 : Int32))) (x4 &&& (3 : Int32)) ((x3 &&& (2147483647 : Int32)) % ((x0 &&& (1023 : Int32)) + (1 : Int32))))))
set_option maxRecDepth 65536 in
set_option maxHeartbeats 4000000 in
theorem own_l0_177 {p : Program} {l : Launch} {e : Env} {s : State} {m : MethodId} {args : Array Value} {below : List Frame} {meth : Method} {c : Code} {T : State} {locs : List Loc} {Z : State} {a0 : Array Value} {h0 : Heap} {n0 : Nat}
    (X : Stand p l e room_1 s m args below meth c T locs 3 35) (hx : p.tables.exec = Jvm.exec) (hZ : Z.Warmed39 s.vm) (hw : ∀ d ∈ tables_1, d.before a0 Z = true) (hby : c.code = code) (hml : c.maxLocals = 15) (hown : s.vm.findClass "com/example/furl/furl/tree/PositionCountsContainsPinLaw" = some m.cls) (hret : meth.sig.returnType = some .boolean) (hlk : meth.locks = false) (e0 : T.heap = h0) (N : Fr n0 locs) (Z0 : n0 ≤ h0.size)
    (i0 : Int32) (i1 : Int32) (i2 : Int32) (i3 : Int32) (i4 : Int32) (i5 : Int32) (i6 : Int32) (i7 : Int32) (i8 : Int32) (i9 : Int32) (i10 : Int32) (o11 : Addr) (i12 : Int32) (i13 : Int32) (t0 : Int32) {r : Int32} (hR : r = own_f0_177 i0 i1 i2 i3 i4 i5 i6 i7 i8 i9 i10 i12 i13 t0) : own_Go p e below s room_1.cells room_1.slots (own_QG (.int r) h0 n0) (T.setTop (mkF m 177 #[.val (.int i0), .val (.int i1), .val (.int i2), .val (.int i3), .val (.int i4), .val (.int i5), .val (.int i6), .val (.int i7), .val (.int i8), .val (.int i9), .val (.int i10), .val (.ref o11), .val (.int i12), .val (.int i13), .unset] [(.int t0)])) := by
  unfold own_f0_177 at hR
  refine own_back (fun t k => XS.istore X.here hx rfl (hb hby at_177) rfl (l' := #[.val (.int i0), .val (.int i1), .val (.int i2), .val (.int i3), .val (.int i4), .val (.int i5), .val (.int i6), .val (.int i7), .val (.int i8), .val (.int i9), .val (.int i10), .val (.ref o11), .val (.int i12), .val (.int i13), .val (.int t0)]) rfl k) ?_
  show own_Go _ _ _ _ _ _ _ (T.setTop (mkF m 179 #[.val (.int i0), .val (.int i1), .val (.int i2), .val (.int i3), .val (.int i4), .val (.int i5), .val (.int i6), .val (.int i7), .val (.int i8), .val (.int i9), .val (.int i10), .val (.ref o11), .val (.int i12), .val (.int i13), .val (.int t0)] []))
  refine own_back (fun t k => XS.iload X.here hx rfl (hb hby at_179) rfl k) ?_
  show own_Go _ _ _ _ _ _ _ (T.setTop (mkF m 181 #[.val (.int i0), .val (.int i1), .val (.int i2), .val (.int i3), .val (.int i4), .val (.int i5), .val (.int i6), .val (.int i7), .val (.int i8), .val (.int i9), .val (.int i10), .val (.ref o11), .val (.int i12), .val (.int i13), .val (.int t0)] [(.int i12)]))
  by_cases hc181 : i12 = (0 : Int32)
  · rw [if_pos hc181] at hR
    refine own_back (fun t k => XS.ifNo X.here hx rfl (hb hby at_181) rfl ((if0 _ _).trans (teq hc181).2) k) ?_
    show own_Go _ _ _ _ _ _ _ (T.setTop (mkF m 184 #[.val (.int i0), .val (.int i1), .val (.int i2), .val (.int i3), .val (.int i4), .val (.int i5), .val (.int i6), .val (.int i7), .val (.int i8), .val (.int i9), .val (.int i10), .val (.ref o11), .val (.int i12), .val (.int i13), .val (.int t0)] []))
    refine own_back (fun t k => XS.iload X.here hx rfl (hb hby at_184) rfl k) ?_
    show own_Go _ _ _ _ _ _ _ (T.setTop (mkF m 186 #[.val (.int i0), .val (.int i1), .val (.int i2), .val (.int i3), .val (.int i4), .val (.int i5), .val (.int i6), .val (.int i7), .val (.int i8), .val (.int i9), .val (.int i10), .val (.ref o11), .val (.int i12), .val (.int i13), .val (.int t0)] [(.int i13)]))
    refine own_back (fun t k => XS.iload X.here hx rfl (hb hby at_186) rfl k) ?_
    show own_Go _ _ _ _ _ _ _ (T.setTop (mkF m 188 #[.val (.int i0), .val (.int i1), .val (.int i2), .val (.int i3), .val (.int i4), .val (.int i5), .val (.int i6), .val (.int i7), .val (.int i8), .val (.int i9), .val (.int i10), .val (.ref o11), .val (.int i12), .val (.int i13), .val (.int t0)] [(.int t0), (.int i13)]))
    by_cases hc188 : i13 = t0
    · rw [if_pos hc188] at hR
      refine own_back (fun t k => XS.icmpNo X.here hx rfl (hb hby at_188) rfl (teq hc188).2 k) ?_
      show own_Go _ _ _ _ _ _ _ (T.setTop (mkF m 191 #[.val (.int i0), .val (.int i1), .val (.int i2), .val (.int i3), .val (.int i4), .val (.int i5), .val (.int i6), .val (.int i7), .val (.int i8), .val (.int i9), .val (.int i10), .val (.ref o11), .val (.int i12), .val (.int i13), .val (.int t0)] []))
      refine own_back (fun t k => XS.iconst X.here hx rfl (hb hby at_191) k) ?_
      show own_Go _ _ _ _ _ _ _ (T.setTop (mkF m 192 #[.val (.int i0), .val (.int i1), .val (.int i2), .val (.int i3), .val (.int i4), .val (.int i5), .val (.int i6), .val (.int i7), .val (.int i8), .val (.int i9), .val (.int i10), .val (.ref o11), .val (.int i12), .val (.int i13), .val (.int t0)] [(.int (1 : Int32))]))
      refine own_back (fun t k => XS.goto X.here hx rfl (pc0 := 192) (pc' := 196) rfl (hb hby at_192) (by decide) (by decide) k) ?_
      show own_Go _ _ _ _ _ _ _ (T.setTop (mkF m 196 #[.val (.int i0), .val (.int i1), .val (.int i2), .val (.int i3), .val (.int i4), .val (.int i5), .val (.int i6), .val (.int i7), .val (.int i8), .val (.int i9), .val (.int i10), .val (.ref o11), .val (.int i12), .val (.int i13), .val (.int t0)] [(.int (1 : Int32))]))
      subst hR
      exact own_retN X hx (t := .boolean) hret (by simp) (hb hby at_196) hlk (by decide) ⟨rfl, N, by rw [e0]; exact Z0⟩ (by decide) (by decide)
    · rw [if_neg hc188] at hR
      refine own_back (fun t k => XS.icmpYes X.here hx rfl (pc0 := 188) (pc' := 195) rfl (hb hby at_188) rfl (feq hc188).2 (by decide) (by decide) k) ?_
      show own_Go _ _ _ _ _ _ _ (T.setTop (mkF m 195 #[.val (.int i0), .val (.int i1), .val (.int i2), .val (.int i3), .val (.int i4), .val (.int i5), .val (.int i6), .val (.int i7), .val (.int i8), .val (.int i9), .val (.int i10), .val (.ref o11), .val (.int i12), .val (.int i13), .val (.int t0)] []))
      refine own_back (fun t k => XS.iconst X.here hx rfl (hb hby at_195) k) ?_
      show own_Go _ _ _ _ _ _ _ (T.setTop (mkF m 196 #[.val (.int i0), .val (.int i1), .val (.int i2), .val (.int i3), .val (.int i4), .val (.int i5), .val (.int i6), .val (.int i7), .val (.int i8), .val (.int i9), .val (.int i10), .val (.ref o11), .val (.int i12), .val (.int i13), .val (.int t0)] [(.int (0 : Int32))]))
      subst hR
      exact own_retN X hx (t := .boolean) hret (by simp) (hb hby at_196) hlk (by decide) ⟨rfl, N, by rw [e0]; exact Z0⟩ (by decide) (by decide)
  · rw [if_neg hc181] at hR
    refine own_back (fun t k => XS.ifYes X.here hx rfl (pc0 := 181) (pc' := 195) rfl (hb hby at_181) rfl ((if0 _ _).trans (feq hc181).2) (by decide) (by decide) k) ?_
    show own_Go _ _ _ _ _ _ _ (T.setTop (mkF m 195 #[.val (.int i0), .val (.int i1), .val (.int i2), .val (.int i3), .val (.int i4), .val (.int i5), .val (.int i6), .val (.int i7), .val (.int i8), .val (.int i9), .val (.int i10), .val (.ref o11), .val (.int i12), .val (.int i13), .val (.int t0)] []))
    refine own_back (fun t k => XS.iconst X.here hx rfl (hb hby at_195) k) ?_
    show own_Go _ _ _ _ _ _ _ (T.setTop (mkF m 196 #[.val (.int i0), .val (.int i1), .val (.int i2), .val (.int i3), .val (.int i4), .val (.int i5), .val (.int i6), .val (.int i7), .val (.int i8), .val (.int i9), .val (.int i10), .val (.ref o11), .val (.int i12), .val (.int i13), .val (.int t0)] [(.int (0 : Int32))]))
    subst hR
    exact own_retN X hx (t := .boolean) hret (by simp) (hb hby at_196) hlk (by decide) ⟨rfl, N, by rw [e0]; exact Z0⟩ (by decide) (by decide)
set_option maxRecDepth 65536 in
set_option maxHeartbeats 4000000 in
theorem own_l0_176 {p : Program} {l : Launch} {e : Env} {s : State} {m : MethodId} {args : Array Value} {below : List Frame} {meth : Method} {c : Code} {T : State} {locs : List Loc} {Z : State} {a0 : Array Value} {h0 : Heap} {n0 : Nat}
    (X : Stand p l e room_1 s m args below meth c T locs 3 35) (hx : p.tables.exec = Jvm.exec) (hZ : Z.Warmed39 s.vm) (hw : ∀ d ∈ tables_1, d.before a0 Z = true) (hby : c.code = code) (hml : c.maxLocals = 15) (hown : s.vm.findClass "com/example/furl/furl/tree/PositionCountsContainsPinLaw" = some m.cls) (hret : meth.sig.returnType = some .boolean) (hlk : meth.locks = false) (e0 : T.heap = h0) (N : Fr n0 locs) (Z0 : n0 ≤ h0.size)
    (i0 : Int32) (i1 : Int32) (i2 : Int32) (i3 : Int32) (i4 : Int32) (i5 : Int32) (i6 : Int32) (i7 : Int32) (i8 : Int32) (i9 : Int32) (i10 : Int32) (o11 : Addr) (i12 : Int32) (i13 : Int32) {r : Int32} (hR : r = own_f0_176 i0 i1 i2 i3 i4 i5 i6 i7 i8 i9 i10 i12 i13) : own_Go p e below s room_1.cells room_1.slots (own_QG (.int r) h0 n0) (T.setTop (mkF m 176 #[.val (.int i0), .val (.int i1), .val (.int i2), .val (.int i3), .val (.int i4), .val (.int i5), .val (.int i6), .val (.int i7), .val (.int i8), .val (.int i9), .val (.int i10), .val (.ref o11), .val (.int i12), .val (.int i13), .unset] [])) := by
  unfold own_f0_176 at hR
  refine own_back (fun t k => XS.iconst X.here hx rfl (hb hby at_176) k) ?_
  show own_Go _ _ _ _ _ _ _ (T.setTop (mkF m 177 #[.val (.int i0), .val (.int i1), .val (.int i2), .val (.int i3), .val (.int i4), .val (.int i5), .val (.int i6), .val (.int i7), .val (.int i8), .val (.int i9), .val (.int i10), .val (.ref o11), .val (.int i12), .val (.int i13), .unset] [(.int (0 : Int32))]))
  exact own_l0_177 X hx hZ hw hby hml hown hret hlk e0 N Z0 i0 i1 i2 i3 i4 i5 i6 i7 i8 i9 i10 o11 i12 i13 (0 : Int32) hR
set_option maxRecDepth 65536 in
set_option maxHeartbeats 4000000 in
theorem own_l0_172 {p : Program} {l : Launch} {e : Env} {s : State} {m : MethodId} {args : Array Value} {below : List Frame} {meth : Method} {c : Code} {T : State} {locs : List Loc} {Z : State} {a0 : Array Value} {h0 : Heap} {n0 : Nat}
    (X : Stand p l e room_1 s m args below meth c T locs 3 35) (hx : p.tables.exec = Jvm.exec) (hZ : Z.Warmed39 s.vm) (hw : ∀ d ∈ tables_1, d.before a0 Z = true) (hby : c.code = code) (hml : c.maxLocals = 15) (hown : s.vm.findClass "com/example/furl/furl/tree/PositionCountsContainsPinLaw" = some m.cls) (hret : meth.sig.returnType = some .boolean) (hlk : meth.locks = false) (e0 : T.heap = h0) (N : Fr n0 locs) (Z0 : n0 ≤ h0.size)
    (i0 : Int32) (i1 : Int32) (i2 : Int32) (i3 : Int32) (i4 : Int32) (i5 : Int32) (i6 : Int32) (i7 : Int32) (i8 : Int32) (i9 : Int32) (i10 : Int32) (o11 : Addr) (i12 : Int32) (i13 : Int32) {r : Int32} (hR : r = own_f0_172 i0 i1 i2 i3 i4 i5 i6 i7 i8 i9 i10 i12 i13) : own_Go p e below s room_1.cells room_1.slots (own_QG (.int r) h0 n0) (T.setTop (mkF m 172 #[.val (.int i0), .val (.int i1), .val (.int i2), .val (.int i3), .val (.int i4), .val (.int i5), .val (.int i6), .val (.int i7), .val (.int i8), .val (.int i9), .val (.int i10), .val (.ref o11), .val (.int i12), .val (.int i13), .unset] [])) := by
  unfold own_f0_172 at hR
  refine own_back (fun t k => XS.iconst X.here hx rfl (hb hby at_172) k) ?_
  show own_Go _ _ _ _ _ _ _ (T.setTop (mkF m 173 #[.val (.int i0), .val (.int i1), .val (.int i2), .val (.int i3), .val (.int i4), .val (.int i5), .val (.int i6), .val (.int i7), .val (.int i8), .val (.int i9), .val (.int i10), .val (.ref o11), .val (.int i12), .val (.int i13), .unset] [(.int (1 : Int32))]))
  refine own_back (fun t k => XS.goto X.here hx rfl (pc0 := 173) (pc' := 177) rfl (hb hby at_173) (by decide) (by decide) k) ?_
  show own_Go _ _ _ _ _ _ _ (T.setTop (mkF m 177 #[.val (.int i0), .val (.int i1), .val (.int i2), .val (.int i3), .val (.int i4), .val (.int i5), .val (.int i6), .val (.int i7), .val (.int i8), .val (.int i9), .val (.int i10), .val (.ref o11), .val (.int i12), .val (.int i13), .unset] [(.int (1 : Int32))]))
  exact own_l0_177 X hx hZ hw hby hml hown hret hlk e0 N Z0 i0 i1 i2 i3 i4 i5 i6 i7 i8 i9 i10 o11 i12 i13 (1 : Int32) hR
set_option maxRecDepth 65536 in
set_option maxHeartbeats 4000000 in
theorem own_l0_158 {p : Program} {l : Launch} {e : Env} {s : State} {m : MethodId} {args : Array Value} {below : List Frame} {meth : Method} {c : Code} {T : State} {locs : List Loc} {Z : State} {a0 : Array Value} {h0 : Heap} {n0 : Nat}
    (X : Stand p l e room_1 s m args below meth c T locs 3 35) (hx : p.tables.exec = Jvm.exec) (hZ : Z.Warmed39 s.vm) (hw : ∀ d ∈ tables_1, d.before a0 Z = true) (hby : c.code = code) (hml : c.maxLocals = 15) (hown : s.vm.findClass "com/example/furl/furl/tree/PositionCountsContainsPinLaw" = some m.cls) (hret : meth.sig.returnType = some .boolean) (hlk : meth.locks = false) (e0 : T.heap = h0) (N : Fr n0 locs) (Z0 : n0 ≤ h0.size)
    (i0 : Int32) (i1 : Int32) (i2 : Int32) (i3 : Int32) (i4 : Int32) (i5 : Int32) (i6 : Int32) (i7 : Int32) (i8 : Int32) (i9 : Int32) (i10 : Int32) (o11 : Addr) (i12 : Int32) (i13 : Int32) {r : Int32} (hR : r = own_f0_158 i0 i1 i2 i3 i4 i5 i6 i7 i8 i9 i10 i12 i13) : own_Go p e below s room_1.cells room_1.slots (own_QG (.int r) h0 n0) (T.setTop (mkF m 158 #[.val (.int i0), .val (.int i1), .val (.int i2), .val (.int i3), .val (.int i4), .val (.int i5), .val (.int i6), .val (.int i7), .val (.int i8), .val (.int i9), .val (.int i10), .val (.ref o11), .val (.int i12), .val (.int i13), .unset] [])) := by
  unfold own_f0_158 at hR
  refine own_back (fun t k => XS.iload X.here hx rfl (hb hby at_158) rfl k) ?_
  show own_Go _ _ _ _ _ _ _ (T.setTop (mkF m 160 #[.val (.int i0), .val (.int i1), .val (.int i2), .val (.int i3), .val (.int i4), .val (.int i5), .val (.int i6), .val (.int i7), .val (.int i8), .val (.int i9), .val (.int i10), .val (.ref o11), .val (.int i12), .val (.int i13), .unset] [(.int i9)]))
  refine own_back (fun t k => XS.iload X.here hx rfl (hb hby at_160) rfl k) ?_
  show own_Go _ _ _ _ _ _ _ (T.setTop (mkF m 162 #[.val (.int i0), .val (.int i1), .val (.int i2), .val (.int i3), .val (.int i4), .val (.int i5), .val (.int i6), .val (.int i7), .val (.int i8), .val (.int i9), .val (.int i10), .val (.ref o11), .val (.int i12), .val (.int i13), .unset] [(.int i7), (.int i9)]))
  by_cases hc162 : i9 = i7
  · rw [if_pos hc162] at hR
    refine own_back (fun t k => XS.icmpNo X.here hx rfl (hb hby at_162) rfl (teq hc162).2 k) ?_
    show own_Go _ _ _ _ _ _ _ (T.setTop (mkF m 165 #[.val (.int i0), .val (.int i1), .val (.int i2), .val (.int i3), .val (.int i4), .val (.int i5), .val (.int i6), .val (.int i7), .val (.int i8), .val (.int i9), .val (.int i10), .val (.ref o11), .val (.int i12), .val (.int i13), .unset] []))
    refine own_back (fun t k => XS.iload X.here hx rfl (hb hby at_165) rfl k) ?_
    show own_Go _ _ _ _ _ _ _ (T.setTop (mkF m 167 #[.val (.int i0), .val (.int i1), .val (.int i2), .val (.int i3), .val (.int i4), .val (.int i5), .val (.int i6), .val (.int i7), .val (.int i8), .val (.int i9), .val (.int i10), .val (.ref o11), .val (.int i12), .val (.int i13), .unset] [(.int i7)]))
    refine own_back (fun t k => XS.iload X.here hx rfl (hb hby at_167) rfl k) ?_
    show own_Go _ _ _ _ _ _ _ (T.setTop (mkF m 169 #[.val (.int i0), .val (.int i1), .val (.int i2), .val (.int i3), .val (.int i4), .val (.int i5), .val (.int i6), .val (.int i7), .val (.int i8), .val (.int i9), .val (.int i10), .val (.ref o11), .val (.int i12), .val (.int i13), .unset] [(.int i6), (.int i7)]))
    by_cases hc169 : i7 = i6
    · rw [if_pos hc169] at hR
      refine own_back (fun t k => XS.icmpYes X.here hx rfl (pc0 := 169) (pc' := 176) rfl (hb hby at_169) rfl (teq hc169).1 (by decide) (by decide) k) ?_
      show own_Go _ _ _ _ _ _ _ (T.setTop (mkF m 176 #[.val (.int i0), .val (.int i1), .val (.int i2), .val (.int i3), .val (.int i4), .val (.int i5), .val (.int i6), .val (.int i7), .val (.int i8), .val (.int i9), .val (.int i10), .val (.ref o11), .val (.int i12), .val (.int i13), .unset] []))
      exact own_l0_176 X hx hZ hw hby hml hown hret hlk e0 N Z0 i0 i1 i2 i3 i4 i5 i6 i7 i8 i9 i10 o11 i12 i13 hR
    · rw [if_neg hc169] at hR
      refine own_back (fun t k => XS.icmpNo X.here hx rfl (hb hby at_169) rfl (feq hc169).1 k) ?_
      show own_Go _ _ _ _ _ _ _ (T.setTop (mkF m 172 #[.val (.int i0), .val (.int i1), .val (.int i2), .val (.int i3), .val (.int i4), .val (.int i5), .val (.int i6), .val (.int i7), .val (.int i8), .val (.int i9), .val (.int i10), .val (.ref o11), .val (.int i12), .val (.int i13), .unset] []))
      exact own_l0_172 X hx hZ hw hby hml hown hret hlk e0 N Z0 i0 i1 i2 i3 i4 i5 i6 i7 i8 i9 i10 o11 i12 i13 hR
  · rw [if_neg hc162] at hR
    refine own_back (fun t k => XS.icmpYes X.here hx rfl (pc0 := 162) (pc' := 176) rfl (hb hby at_162) rfl (feq hc162).2 (by decide) (by decide) k) ?_
    show own_Go _ _ _ _ _ _ _ (T.setTop (mkF m 176 #[.val (.int i0), .val (.int i1), .val (.int i2), .val (.int i3), .val (.int i4), .val (.int i5), .val (.int i6), .val (.int i7), .val (.int i8), .val (.int i9), .val (.int i10), .val (.ref o11), .val (.int i12), .val (.int i13), .unset] []))
    exact own_l0_176 X hx hZ hw hby hml hown hret hlk e0 N Z0 i0 i1 i2 i3 i4 i5 i6 i7 i8 i9 i10 o11 i12 i13 hR
set_option maxRecDepth 65536 in
set_option maxHeartbeats 4000000 in
theorem own_l0_137 {p : Program} {l : Launch} {e : Env} {s : State} {m : MethodId} {args : Array Value} {below : List Frame} {meth : Method} {c : Code} {T : State} {locs : List Loc} {Z : State} {a0 : Array Value} {h0 : Heap} {n0 : Nat}
    (X : Stand p l e room_1 s m args below meth c T locs 3 35) (hx : p.tables.exec = Jvm.exec) (hZ : Z.Warmed39 s.vm) (hw : ∀ d ∈ tables_1, d.before a0 Z = true) (hby : c.code = code) (hml : c.maxLocals = 15) (hown : s.vm.findClass "com/example/furl/furl/tree/PositionCountsContainsPinLaw" = some m.cls) (hret : meth.sig.returnType = some .boolean) (hlk : meth.locks = false) (e0 : T.heap = h0) (N : Fr n0 locs) (Z0 : n0 ≤ h0.size)
    (aB : Addr) (aW : Addr) (NN : Nat) (B : Nat → Int64) (W : Nat → Int32) (i0 : Int32) (i1 : Int32) (i2 : Int32) (i3 : Int32) (i4 : Int32) (i5 : Int32) (i6 : Int32) (i7 : Int32) (i8 : Int32) (i9 : Int32) (i10 : Int32) (o11 : Addr) (i12 : Int32) {r : Int32} (hR : r = own_f0_137 B i0 i1 i2 i3 i4 i5 i6 i7 i8 i9 i10 i12) (HP : own_PC Z h0 n0 o11 aB aW NN B W) (HR2 : own_r2 NN i6 i7 i9) : own_Go p e below s room_1.cells room_1.slots (own_QG (.int r) h0 n0) (T.setTop (mkF m 137 #[.val (.int i0), .val (.int i1), .val (.int i2), .val (.int i3), .val (.int i4), .val (.int i5), .val (.int i6), .val (.int i7), .val (.int i8), .val (.int i9), .val (.int i10), .val (.ref o11), .val (.int i12), .unset, .unset] [])) := by
  unfold own_f0_137 at hR
  refine own_back (fun t k => XS.aload X.here hx rfl (hb hby at_137) rfl rfl k) ?_
  show own_Go _ _ _ _ _ _ _ (T.setTop (mkF m 139 #[.val (.int i0), .val (.int i1), .val (.int i2), .val (.int i3), .val (.int i4), .val (.int i5), .val (.int i6), .val (.int i7), .val (.int i8), .val (.int i9), .val (.int i10), .val (.ref o11), .val (.int i12), .unset, .unset] [(.ref o11)]))
  refine own_back (fun t k => XS.iload X.here hx rfl (hb hby at_139) rfl k) ?_
  show own_Go _ _ _ _ _ _ _ (T.setTop (mkF m 141 #[.val (.int i0), .val (.int i1), .val (.int i2), .val (.int i3), .val (.int i4), .val (.int i5), .val (.int i6), .val (.int i7), .val (.int i8), .val (.int i9), .val (.int i10), .val (.ref o11), .val (.int i12), .unset, .unset] [(.int i9), (.ref o11)]))
  obtain ⟨cq7, kq7, q7a, q7b, q7c⟩ := isOf hZ e0 HP.1
  obtain ⟨_, _, ⟨T7, L7, k7, n7⟩, -, X7, ⟨Lc7, hQ7, l7, y7, z7⟩, st7⟩ := X.virtualBack hx (y := (⟨"com/example/furl/furl/tree/PositionCounts", "contains", "(I)Z"⟩ : MethodName)) (z := (⟨"com/example/furl/furl/tree/PositionCounts", "contains", "(I)Z"⟩ : MethodName)) hown (mvT hZ (hw _ (List.mem_of_getElem? (i := 16) rfl))) (mvT hZ (hw _ (List.mem_of_getElem? (i := 17) rfl))) (notFace_of_selects (args := #[]) (mvT hZ (hw _ (List.mem_of_getElem? (i := 19) rfl)))) (mvT hZ (hw _ (List.mem_of_getElem? (i := 19) rfl))) (mvT hZ (hw _ (List.mem_of_getElem? (i := 18) rfl))) (by decide) (backOf (W := 0) (own_rm3 l Z a0 hw [] o11 i9 aB NN B h0 n0 Z0 HP.2.1 HP.2.2.2.1 HR2.2.2.2 HR2.1) hZ (hw _ (List.mem_of_getElem? (i := 20) rfl)) (hw _ (List.mem_of_getElem? (i := 3) rfl)) (by decide) (by decide)) q7a q7c (g := (mkF m 141 #[.val (.int i0), .val (.int i1), .val (.int i2), .val (.int i3), .val (.int i4), .val (.int i5), .val (.int i6), .val (.int i7), .val (.int i8), .val (.int i9), .val (.int i10), .val (.ref o11), .val (.int i12), .unset, .unset] [(.int i9), (.ref o11)])) rfl (by rw [hml]; rfl) (Steps.refl _) (argsL := [(.int i9)]) (rest := []) (lenOf own_pd1 rfl) rfl (by show 2 * 0 + _ ≤ _; exact Nat.le_of_eq rfl) (hb hby at_141) (fun _ _ => ⟨rfl, e0, (by decide : 3 + 0 ≤ _), (by decide : 35 + 0 ≤ _)⟩)
  dsimp only [Pt.U, Pt.locs, Pt.cells, Pt.slots] at X7 l7 y7 z7 st7 hQ7
  subst l7 y7 z7
  obtain ⟨rfl, N7q, e7⟩ := hQ7
  have N7 := Fr.app N N7q
  refine own_back (fun t k => st7.trans k) ?_
  show own_Go _ _ _ _ _ _ _ (T7.setTop (mkF m 144 #[.val (.int i0), .val (.int i1), .val (.int i2), .val (.int i3), .val (.int i4), .val (.int i5), .val (.int i6), .val (.int i7), .val (.int i8), .val (.int i9), .val (.int i10), .val (.ref o11), .val (.int i12), .unset, .unset] [(.int (own_f3_0 B i9))]))
  refine own_back (fun t k => XS.istore X7.here hx rfl (hb hby at_144) rfl (l' := #[.val (.int i0), .val (.int i1), .val (.int i2), .val (.int i3), .val (.int i4), .val (.int i5), .val (.int i6), .val (.int i7), .val (.int i8), .val (.int i9), .val (.int i10), .val (.ref o11), .val (.int i12), .val (.int (own_f3_0 B i9)), .unset]) rfl k) ?_
  show own_Go _ _ _ _ _ _ _ (T7.setTop (mkF m 146 #[.val (.int i0), .val (.int i1), .val (.int i2), .val (.int i3), .val (.int i4), .val (.int i5), .val (.int i6), .val (.int i7), .val (.int i8), .val (.int i9), .val (.int i10), .val (.ref o11), .val (.int i12), .val (.int (own_f3_0 B i9)), .unset] []))
  refine own_back (fun t k => XS.iload X7.here hx rfl (hb hby at_146) rfl k) ?_
  show own_Go _ _ _ _ _ _ _ (T7.setTop (mkF m 148 #[.val (.int i0), .val (.int i1), .val (.int i2), .val (.int i3), .val (.int i4), .val (.int i5), .val (.int i6), .val (.int i7), .val (.int i8), .val (.int i9), .val (.int i10), .val (.ref o11), .val (.int i12), .val (.int (own_f3_0 B i9)), .unset] [(.int i9)]))
  refine own_back (fun t k => XS.iload X7.here hx rfl (hb hby at_148) rfl k) ?_
  show own_Go _ _ _ _ _ _ _ (T7.setTop (mkF m 150 #[.val (.int i0), .val (.int i1), .val (.int i2), .val (.int i3), .val (.int i4), .val (.int i5), .val (.int i6), .val (.int i7), .val (.int i8), .val (.int i9), .val (.int i10), .val (.ref o11), .val (.int i12), .val (.int (own_f3_0 B i9)), .unset] [(.int i6), (.int i9)]))
  by_cases hc150 : i9 = i6
  · rw [if_pos hc150] at hR
    refine own_back (fun t k => XS.icmpNo X7.here hx rfl (hb hby at_150) rfl (teq hc150).2 k) ?_
    show own_Go _ _ _ _ _ _ _ (T7.setTop (mkF m 153 #[.val (.int i0), .val (.int i1), .val (.int i2), .val (.int i3), .val (.int i4), .val (.int i5), .val (.int i6), .val (.int i7), .val (.int i8), .val (.int i9), .val (.int i10), .val (.ref o11), .val (.int i12), .val (.int (own_f3_0 B i9)), .unset] []))
    refine own_back (fun t k => XS.iload X7.here hx rfl (hb hby at_153) rfl k) ?_
    show own_Go _ _ _ _ _ _ _ (T7.setTop (mkF m 155 #[.val (.int i0), .val (.int i1), .val (.int i2), .val (.int i3), .val (.int i4), .val (.int i5), .val (.int i6), .val (.int i7), .val (.int i8), .val (.int i9), .val (.int i10), .val (.ref o11), .val (.int i12), .val (.int (own_f3_0 B i9)), .unset] [(.int i10)]))
    by_cases hc155 : i10 = (0 : Int32)
    · rw [if_pos hc155] at hR
      refine own_back (fun t k => XS.ifYes X7.here hx rfl (pc0 := 155) (pc' := 172) rfl (hb hby at_155) rfl ((if0 _ _).trans (teq hc155).1) (by decide) (by decide) k) ?_
      show own_Go _ _ _ _ _ _ _ (T7.setTop (mkF m 172 #[.val (.int i0), .val (.int i1), .val (.int i2), .val (.int i3), .val (.int i4), .val (.int i5), .val (.int i6), .val (.int i7), .val (.int i8), .val (.int i9), .val (.int i10), .val (.ref o11), .val (.int i12), .val (.int (own_f3_0 B i9)), .unset] []))
      exact own_l0_172 X7 hx hZ hw hby hml hown hret hlk e7 N7 Z0 i0 i1 i2 i3 i4 i5 i6 i7 i8 i9 i10 o11 i12 (own_f3_0 B i9) hR
    · rw [if_neg hc155] at hR
      refine own_back (fun t k => XS.ifNo X7.here hx rfl (hb hby at_155) rfl ((if0 _ _).trans (feq hc155).1) k) ?_
      show own_Go _ _ _ _ _ _ _ (T7.setTop (mkF m 158 #[.val (.int i0), .val (.int i1), .val (.int i2), .val (.int i3), .val (.int i4), .val (.int i5), .val (.int i6), .val (.int i7), .val (.int i8), .val (.int i9), .val (.int i10), .val (.ref o11), .val (.int i12), .val (.int (own_f3_0 B i9)), .unset] []))
      exact own_l0_158 X7 hx hZ hw hby hml hown hret hlk e7 N7 Z0 i0 i1 i2 i3 i4 i5 i6 i7 i8 i9 i10 o11 i12 (own_f3_0 B i9) hR
  · rw [if_neg hc150] at hR
    refine own_back (fun t k => XS.icmpYes X7.here hx rfl (pc0 := 150) (pc' := 158) rfl (hb hby at_150) rfl (feq hc150).2 (by decide) (by decide) k) ?_
    show own_Go _ _ _ _ _ _ _ (T7.setTop (mkF m 158 #[.val (.int i0), .val (.int i1), .val (.int i2), .val (.int i3), .val (.int i4), .val (.int i5), .val (.int i6), .val (.int i7), .val (.int i8), .val (.int i9), .val (.int i10), .val (.ref o11), .val (.int i12), .val (.int (own_f3_0 B i9)), .unset] []))
    exact own_l0_158 X7 hx hZ hw hby hml hown hret hlk e7 N7 Z0 i0 i1 i2 i3 i4 i5 i6 i7 i8 i9 i10 o11 i12 (own_f3_0 B i9) hR
set_option maxRecDepth 65536 in
set_option maxHeartbeats 4000000 in
theorem own_l0_124 {p : Program} {l : Launch} {e : Env} {s : State} {m : MethodId} {args : Array Value} {below : List Frame} {meth : Method} {c : Code} {T : State} {locs : List Loc} {Z : State} {a0 : Array Value} {h0 : Heap} {n0 : Nat}
    (X : Stand p l e room_1 s m args below meth c T locs 3 35) (hx : p.tables.exec = Jvm.exec) (hZ : Z.Warmed39 s.vm) (hw : ∀ d ∈ tables_1, d.before a0 Z = true) (hby : c.code = code) (hml : c.maxLocals = 15) (hown : s.vm.findClass "com/example/furl/furl/tree/PositionCountsContainsPinLaw" = some m.cls) (hret : meth.sig.returnType = some .boolean) (hlk : meth.locks = false) (e0 : T.heap = h0) (N : Fr n0 locs) (Z0 : n0 ≤ h0.size)
    (aB : Addr) (aW : Addr) (NN : Nat) (B : Nat → Int64) (W : Nat → Int32) (i0 : Int32) (i1 : Int32) (i2 : Int32) (i3 : Int32) (i4 : Int32) (i5 : Int32) (i6 : Int32) (i7 : Int32) (i8 : Int32) (i9 : Int32) (i10 : Int32) (o11 : Addr) (i12 : Int32) {r : Int32} (hR : r = own_f0_124 B i0 i1 i2 i3 i4 i5 i6 i7 i8 i9 i10 i12) (HP : own_PC Z h0 n0 o11 aB aW NN B W) (HR2 : own_r2 NN i6 i7 i9) : own_Go p e below s room_1.cells room_1.slots (own_QG (.int r) h0 n0) (T.setTop (mkF m 124 #[.val (.int i0), .val (.int i1), .val (.int i2), .val (.int i3), .val (.int i4), .val (.int i5), .val (.int i6), .val (.int i7), .val (.int i8), .val (.int i9), .val (.int i10), .val (.ref o11), .val (.int i12), .unset, .unset] [])) := by
  unfold own_f0_124 at hR
  refine own_back (fun t k => XS.iload X.here hx rfl (hb hby at_124) rfl k) ?_
  show own_Go _ _ _ _ _ _ _ (T.setTop (mkF m 126 #[.val (.int i0), .val (.int i1), .val (.int i2), .val (.int i3), .val (.int i4), .val (.int i5), .val (.int i6), .val (.int i7), .val (.int i8), .val (.int i9), .val (.int i10), .val (.ref o11), .val (.int i12), .unset, .unset] [(.int i10)]))
  by_cases hc126 : i10 = (0 : Int32)
  · rw [if_pos hc126] at hR
    refine own_back (fun t k => XS.ifYes X.here hx rfl (pc0 := 126) (pc' := 137) rfl (hb hby at_126) rfl ((if0 _ _).trans (teq hc126).1) (by decide) (by decide) k) ?_
    show own_Go _ _ _ _ _ _ _ (T.setTop (mkF m 137 #[.val (.int i0), .val (.int i1), .val (.int i2), .val (.int i3), .val (.int i4), .val (.int i5), .val (.int i6), .val (.int i7), .val (.int i8), .val (.int i9), .val (.int i10), .val (.ref o11), .val (.int i12), .unset, .unset] []))
    exact own_l0_137 X hx hZ hw hby hml hown hret hlk e0 N Z0 aB aW NN B W i0 i1 i2 i3 i4 i5 i6 i7 i8 i9 i10 o11 i12 hR HP HR2
  · rw [if_neg hc126] at hR
    refine own_back (fun t k => XS.ifNo X.here hx rfl (hb hby at_126) rfl ((if0 _ _).trans (feq hc126).1) k) ?_
    show own_Go _ _ _ _ _ _ _ (T.setTop (mkF m 129 #[.val (.int i0), .val (.int i1), .val (.int i2), .val (.int i3), .val (.int i4), .val (.int i5), .val (.int i6), .val (.int i7), .val (.int i8), .val (.int i9), .val (.int i10), .val (.ref o11), .val (.int i12), .unset, .unset] []))
    refine own_back (fun t k => XS.aload X.here hx rfl (hb hby at_129) rfl rfl k) ?_
    show own_Go _ _ _ _ _ _ _ (T.setTop (mkF m 131 #[.val (.int i0), .val (.int i1), .val (.int i2), .val (.int i3), .val (.int i4), .val (.int i5), .val (.int i6), .val (.int i7), .val (.int i8), .val (.int i9), .val (.int i10), .val (.ref o11), .val (.int i12), .unset, .unset] [(.ref o11)]))
    refine own_back (fun t k => XS.iload X.here hx rfl (hb hby at_131) rfl k) ?_
    show own_Go _ _ _ _ _ _ _ (T.setTop (mkF m 133 #[.val (.int i0), .val (.int i1), .val (.int i2), .val (.int i3), .val (.int i4), .val (.int i5), .val (.int i6), .val (.int i7), .val (.int i8), .val (.int i9), .val (.int i10), .val (.ref o11), .val (.int i12), .unset, .unset] [(.int i6), (.ref o11)]))
    refine own_back (fun t k => XS.iconst X.here hx rfl (hb hby at_133) k) ?_
    show own_Go _ _ _ _ _ _ _ (T.setTop (mkF m 134 #[.val (.int i0), .val (.int i1), .val (.int i2), .val (.int i3), .val (.int i4), .val (.int i5), .val (.int i6), .val (.int i7), .val (.int i8), .val (.int i9), .val (.int i10), .val (.ref o11), .val (.int i12), .unset, .unset] [(.int (-1 : Int32)), (.int i6), (.ref o11)]))
    obtain ⟨cq6, kq6, q6a, q6b, q6c⟩ := isOf hZ e0 HP.1
    obtain ⟨_, _, ⟨T6, L6, k6, n6⟩, -, X6, ⟨Lc6, hQ6, l6, y6, z6⟩, st6⟩ := X.virtualBack hx (y := (⟨"com/example/furl/furl/tree/PositionCounts", "add", "(II)V"⟩ : MethodName)) (z := (⟨"com/example/furl/furl/tree/PositionCounts", "add", "(II)V"⟩ : MethodName)) hown (mvT hZ (hw _ (List.mem_of_getElem? (i := 21) rfl))) (mvT hZ (hw _ (List.mem_of_getElem? (i := 22) rfl))) (notFace_of_selects (args := #[]) (mvT hZ (hw _ (List.mem_of_getElem? (i := 24) rfl)))) (mvT hZ (hw _ (List.mem_of_getElem? (i := 24) rfl))) (mvT hZ (hw _ (List.mem_of_getElem? (i := 23) rfl))) (by decide) (backOf (W := 0) (own_rm4 l Z a0 hw [] o11 i6 (-1 : Int32) aB aW NN B W h0 n0 Z0 HP HR2.1 HR2.2.1) hZ (hw _ (List.mem_of_getElem? (i := 25) rfl)) (hw _ (List.mem_of_getElem? (i := 3) rfl)) (by decide) (by decide)) q6a q6c (g := (mkF m 134 #[.val (.int i0), .val (.int i1), .val (.int i2), .val (.int i3), .val (.int i4), .val (.int i5), .val (.int i6), .val (.int i7), .val (.int i8), .val (.int i9), .val (.int i10), .val (.ref o11), .val (.int i12), .unset, .unset] [(.int (-1 : Int32)), (.int i6), (.ref o11)])) rfl (by rw [hml]; rfl) (Steps.refl _) (argsL := [(.int i6), (.int (-1 : Int32))]) (rest := []) (lenOf own_pd2 rfl) rfl (by show 2 * 0 + _ ≤ _; exact Nat.le_of_eq rfl) (hb hby at_134) (fun _ _ => ⟨rfl, e0, (by decide : 3 + 0 ≤ _), (by decide : 35 + 0 ≤ _)⟩)
    dsimp only [Pt.U, Pt.locs, Pt.cells, Pt.slots] at X6 l6 y6 z6 st6 hQ6
    subst l6 y6 z6
    obtain ⟨rfl, N6q, Z6, HP6⟩ := hQ6
    have N6 := Fr.app N N6q
    refine own_back (fun t k => st6.trans k) ?_
    show own_Go _ _ _ _ _ _ _ (T6.setTop (mkF m 137 #[.val (.int i0), .val (.int i1), .val (.int i2), .val (.int i3), .val (.int i4), .val (.int i5), .val (.int i6), .val (.int i7), .val (.int i8), .val (.int i9), .val (.int i10), .val (.ref o11), .val (.int i12), .unset, .unset] []))
    exact own_l0_137 X6 hx hZ hw hby hml hown hret hlk rfl N6 Z6 aB aW NN (own_tog B i6) (own_cnt W i6 (-1 : Int32)) i0 i1 i2 i3 i4 i5 i6 i7 i8 i9 i10 o11 i12 hR HP6 HR2
set_option maxRecDepth 65536 in
set_option maxHeartbeats 4000000 in
theorem own_l0_79 {p : Program} {l : Launch} {e : Env} {s : State} {m : MethodId} {args : Array Value} {below : List Frame} {meth : Method} {c : Code} {T : State} {locs : List Loc} {Z : State} {a0 : Array Value} {h0 : Heap} {n0 : Nat}
    (X : Stand p l e room_1 s m args below meth c T locs 0 0) (hx : p.tables.exec = Jvm.exec) (hZ : Z.Warmed39 s.vm) (hw : ∀ d ∈ tables_1, d.before a0 Z = true) (hby : c.code = code) (hml : c.maxLocals = 15) (hown : s.vm.findClass "com/example/furl/furl/tree/PositionCountsContainsPinLaw" = some m.cls) (hret : meth.sig.returnType = some .boolean) (hlk : meth.locks = false) (e0 : T.heap = h0) (N : Fr n0 locs) (Z0 : n0 ≤ h0.size)
    (i0 : Int32) (i1 : Int32) (i2 : Int32) (i3 : Int32) (i4 : Int32) (i5 : Int32) (i6 : Int32) (i7 : Int32) (i8 : Int32) (i9 : Int32) (t0 : Int32) {r : Int32} (hR : r = own_f0_79 i0 i1 i2 i3 i4 i5 i6 i7 i8 i9 t0) (HR : own_rng i5 i6 i7 i9) : own_Go p e below s room_1.cells room_1.slots (own_QG (.int r) h0 n0) (T.setTop (mkF m 79 #[.val (.int i0), .val (.int i1), .val (.int i2), .val (.int i3), .val (.int i4), .val (.int i5), .val (.int i6), .val (.int i7), .val (.int i8), .val (.int i9), .unset, .unset, .unset, .unset, .unset] [(.int t0)])) := by
  unfold own_f0_79 at hR
  refine own_back (fun t k => XS.istore X.here hx rfl (hb hby at_79) rfl (l' := #[.val (.int i0), .val (.int i1), .val (.int i2), .val (.int i3), .val (.int i4), .val (.int i5), .val (.int i6), .val (.int i7), .val (.int i8), .val (.int i9), .val (.int t0), .unset, .unset, .unset, .unset]) rfl k) ?_
  show own_Go _ _ _ _ _ _ _ (T.setTop (mkF m 81 #[.val (.int i0), .val (.int i1), .val (.int i2), .val (.int i3), .val (.int i4), .val (.int i5), .val (.int i6), .val (.int i7), .val (.int i8), .val (.int i9), .val (.int t0), .unset, .unset, .unset, .unset] []))
  obtain ⟨T1, h1, X1, e1, E1, A1, D1, -, st1⟩ := newO X hx hZ hown (hw _ (List.mem_of_getElem? (i := 1) rfl)) (hw _ (List.mem_of_getElem? (i := 2) rfl)) (hw _ (List.mem_of_getElem? (i := 3) rfl)) e0 (g := (mkF m 81 #[.val (.int i0), .val (.int i1), .val (.int i2), .val (.int i3), .val (.int i4), .val (.int i5), .val (.int i6), .val (.int i7), .val (.int i8), .val (.int i9), .val (.int t0), .unset, .unset, .unset, .unset] [])) rfl (hb hby at_81) (by decide) (by decide)
  obtain ⟨b1, g1⟩ : ∃ z, z = h0.size := ⟨_, rfl⟩
  rw [← g1] at A1 D1 st1
  have F1a : Fld Z h1 b1 "com/example/furl/furl/tree/PositionCounts" "bits" "[J" .null := D1 (Or.inr (hw _ (List.mem_of_getElem? (i := 12) rfl))) (ty := .array .long) (by decide)
  have F1b : Fld Z h1 b1 "com/example/furl/furl/tree/PositionCounts" "words" "[I" .null := D1 (Or.inr (hw _ (List.mem_of_getElem? (i := 15) rfl))) (ty := .array .int) (by decide)
  have q1 : n0 ≤ b1 := Nat.le_trans Z0 (Nat.le_of_eq g1.symm)
  have Z1 : n0 ≤ h1.size := Nat.le_trans Z0 E1.1
  refine own_back (fun t k => st1 t k) ?_
  show own_Go _ _ _ _ _ _ _ (T1.setTop (mkF m 84 #[.val (.int i0), .val (.int i1), .val (.int i2), .val (.int i3), .val (.int i4), .val (.int i5), .val (.int i6), .val (.int i7), .val (.int i8), .val (.int i9), .val (.int t0), .unset, .unset, .unset, .unset] [(.ref b1)]))
  refine own_back (fun t k => XS.dup X1.here hx rfl (hb hby at_84) rfl rfl k) ?_
  show own_Go _ _ _ _ _ _ _ (T1.setTop (mkF m 85 #[.val (.int i0), .val (.int i1), .val (.int i2), .val (.int i3), .val (.int i4), .val (.int i5), .val (.int i6), .val (.int i7), .val (.int i8), .val (.int i9), .val (.int t0), .unset, .unset, .unset, .unset] [(.ref b1), (.ref b1)]))
  refine own_back (fun t k => XS.iload X1.here hx rfl (hb hby at_85) rfl k) ?_
  show own_Go _ _ _ _ _ _ _ (T1.setTop (mkF m 87 #[.val (.int i0), .val (.int i1), .val (.int i2), .val (.int i3), .val (.int i4), .val (.int i5), .val (.int i6), .val (.int i7), .val (.int i8), .val (.int i9), .val (.int t0), .unset, .unset, .unset, .unset] [(.int i5), (.ref b1), (.ref b1)]))
  obtain ⟨_, _, ⟨T2, L2, k2, n2⟩, -, X2, ⟨Lc2, hQ2, l2, y2, z2⟩, st2⟩ := X1.specialBack hx (y := (⟨"com/example/furl/furl/tree/PositionCounts", "<init>", "(I)V"⟩ : MethodName)) rfl hown (mvT hZ (hw _ (List.mem_of_getElem? (i := 4) rfl))) (mvT hZ (hw _ (List.mem_of_getElem? (i := 5) rfl))) (mvT hZ (hw _ (List.mem_of_getElem? (i := 6) rfl))) (by decide) (backOf (W := 1) (rm1 l Z a0 hw [] b1 i5 .null .null ((i5.toNatClampNeg + 63) / 64) h1 n0 Z1 A1 F1a q1 F1b (own_len6 HR.1 (by have := HR.2.2.1; omega)) (by have := HR.2.2.1; omega)) hZ (hw _ (List.mem_of_getElem? (i := 6) rfl)) (hw _ (List.mem_of_getElem? (i := 3) rfl)) (by decide) (by decide)) (g := (mkF m 87 #[.val (.int i0), .val (.int i1), .val (.int i2), .val (.int i3), .val (.int i4), .val (.int i5), .val (.int i6), .val (.int i7), .val (.int i8), .val (.int i9), .val (.int t0), .unset, .unset, .unset, .unset] [(.int i5), (.ref b1), (.ref b1)])) rfl (by rw [hml]; rfl) (Steps.refl _) (a := b1) (argsL := [(.int i5)]) (rest := [(.ref b1)]) (lenOf own_pd0 rfl) rfl (by show 2 * 0 + _ ≤ _; exact Nat.le_of_eq rfl) (hb hby at_87) (fun _ _ => ⟨rfl, e1, (by decide : 1 + 2 ≤ _), (by decide : 2 + 33 ≤ _)⟩)
  dsimp only [Pt.U, Pt.locs, Pt.cells, Pt.slots] at X2 l2 y2 z2 st2 hQ2
  subst l2 y2 z2
  obtain ⟨rfl, N2q, Z2, aB2, aW2, HP2⟩ := hQ2
  have N2 := Fr.app N N2q
  refine own_back (fun t k => st2.trans k) ?_
  show own_Go _ _ _ _ _ _ _ (T2.setTop (mkF m 90 #[.val (.int i0), .val (.int i1), .val (.int i2), .val (.int i3), .val (.int i4), .val (.int i5), .val (.int i6), .val (.int i7), .val (.int i8), .val (.int i9), .val (.int t0), .unset, .unset, .unset, .unset] [(.ref b1)]))
  refine own_back (fun t k => XS.astore X2.here hx rfl (hb hby at_90) rfl rfl (l' := #[.val (.int i0), .val (.int i1), .val (.int i2), .val (.int i3), .val (.int i4), .val (.int i5), .val (.int i6), .val (.int i7), .val (.int i8), .val (.int i9), .val (.int t0), .val (.ref b1), .unset, .unset, .unset]) rfl k) ?_
  show own_Go _ _ _ _ _ _ _ (T2.setTop (mkF m 92 #[.val (.int i0), .val (.int i1), .val (.int i2), .val (.int i3), .val (.int i4), .val (.int i5), .val (.int i6), .val (.int i7), .val (.int i8), .val (.int i9), .val (.int t0), .val (.ref b1), .unset, .unset, .unset] []))
  refine own_back (fun t k => XS.aload X2.here hx rfl (hb hby at_92) rfl rfl k) ?_
  show own_Go _ _ _ _ _ _ _ (T2.setTop (mkF m 94 #[.val (.int i0), .val (.int i1), .val (.int i2), .val (.int i3), .val (.int i4), .val (.int i5), .val (.int i6), .val (.int i7), .val (.int i8), .val (.int i9), .val (.int t0), .val (.ref b1), .unset, .unset, .unset] [(.ref b1)]))
  refine own_back (fun t k => XS.iload X2.here hx rfl (hb hby at_94) rfl k) ?_
  show own_Go _ _ _ _ _ _ _ (T2.setTop (mkF m 96 #[.val (.int i0), .val (.int i1), .val (.int i2), .val (.int i3), .val (.int i4), .val (.int i5), .val (.int i6), .val (.int i7), .val (.int i8), .val (.int i9), .val (.int t0), .val (.ref b1), .unset, .unset, .unset] [(.int i9), (.ref b1)]))
  obtain ⟨cq3, kq3, q3a, q3b, q3c⟩ := isOf hZ rfl HP2.1
  obtain ⟨_, _, ⟨T3, L3, k3, n3⟩, -, X3, ⟨Lc3, hQ3, l3, y3, z3⟩, st3⟩ := X2.virtualBack hx (y := (⟨"com/example/furl/furl/tree/PositionCounts", "contains", "(I)Z"⟩ : MethodName)) (z := (⟨"com/example/furl/furl/tree/PositionCounts", "contains", "(I)Z"⟩ : MethodName)) hown (mvT hZ (hw _ (List.mem_of_getElem? (i := 16) rfl))) (mvT hZ (hw _ (List.mem_of_getElem? (i := 17) rfl))) (notFace_of_selects (args := #[]) (mvT hZ (hw _ (List.mem_of_getElem? (i := 19) rfl)))) (mvT hZ (hw _ (List.mem_of_getElem? (i := 19) rfl))) (mvT hZ (hw _ (List.mem_of_getElem? (i := 18) rfl))) (by decide) (backOf (W := 0) (own_rm3 l Z a0 hw [] b1 i9 aB2 ((i5.toNatClampNeg + 63) / 64) (fun _ => (0 : Int64)) T2.heap n0 Z2 HP2.2.1 HP2.2.2.2.1 (own_r2_of HR).2.2.2 (own_r2_of HR).1) hZ (hw _ (List.mem_of_getElem? (i := 20) rfl)) (hw _ (List.mem_of_getElem? (i := 3) rfl)) (by decide) (by decide)) q3a q3c (g := (mkF m 96 #[.val (.int i0), .val (.int i1), .val (.int i2), .val (.int i3), .val (.int i4), .val (.int i5), .val (.int i6), .val (.int i7), .val (.int i8), .val (.int i9), .val (.int t0), .val (.ref b1), .unset, .unset, .unset] [(.int i9), (.ref b1)])) rfl (by rw [hml]; rfl) (Steps.refl _) (argsL := [(.int i9)]) (rest := []) (lenOf own_pd1 rfl) rfl (by show 2 * 0 + _ ≤ _; exact Nat.le_of_eq rfl) (hb hby at_96) (fun _ _ => ⟨rfl, rfl, (by decide : 3 + 0 ≤ _), (by decide : 35 + 0 ≤ _)⟩)
  dsimp only [Pt.U, Pt.locs, Pt.cells, Pt.slots] at X3 l3 y3 z3 st3 hQ3
  subst l3 y3 z3
  obtain ⟨rfl, N3q, e3⟩ := hQ3
  have N3 := Fr.app N2 N3q
  refine own_back (fun t k => st3.trans k) ?_
  show own_Go _ _ _ _ _ _ _ (T3.setTop (mkF m 99 #[.val (.int i0), .val (.int i1), .val (.int i2), .val (.int i3), .val (.int i4), .val (.int i5), .val (.int i6), .val (.int i7), .val (.int i8), .val (.int i9), .val (.int t0), .val (.ref b1), .unset, .unset, .unset] [(.int (own_f3_0 (fun _ => (0 : Int64)) i9))]))
  refine own_back (fun t k => XS.istore X3.here hx rfl (hb hby at_99) rfl (l' := #[.val (.int i0), .val (.int i1), .val (.int i2), .val (.int i3), .val (.int i4), .val (.int i5), .val (.int i6), .val (.int i7), .val (.int i8), .val (.int i9), .val (.int t0), .val (.ref b1), .val (.int (own_f3_0 (fun _ => (0 : Int64)) i9)), .unset, .unset]) rfl k) ?_
  show own_Go _ _ _ _ _ _ _ (T3.setTop (mkF m 101 #[.val (.int i0), .val (.int i1), .val (.int i2), .val (.int i3), .val (.int i4), .val (.int i5), .val (.int i6), .val (.int i7), .val (.int i8), .val (.int i9), .val (.int t0), .val (.ref b1), .val (.int (own_f3_0 (fun _ => (0 : Int64)) i9)), .unset, .unset] []))
  refine own_back (fun t k => XS.aload X3.here hx rfl (hb hby at_101) rfl rfl k) ?_
  show own_Go _ _ _ _ _ _ _ (T3.setTop (mkF m 103 #[.val (.int i0), .val (.int i1), .val (.int i2), .val (.int i3), .val (.int i4), .val (.int i5), .val (.int i6), .val (.int i7), .val (.int i8), .val (.int i9), .val (.int t0), .val (.ref b1), .val (.int (own_f3_0 (fun _ => (0 : Int64)) i9)), .unset, .unset] [(.ref b1)]))
  refine own_back (fun t k => XS.iload X3.here hx rfl (hb hby at_103) rfl k) ?_
  show own_Go _ _ _ _ _ _ _ (T3.setTop (mkF m 105 #[.val (.int i0), .val (.int i1), .val (.int i2), .val (.int i3), .val (.int i4), .val (.int i5), .val (.int i6), .val (.int i7), .val (.int i8), .val (.int i9), .val (.int t0), .val (.ref b1), .val (.int (own_f3_0 (fun _ => (0 : Int64)) i9)), .unset, .unset] [(.int i6), (.ref b1)]))
  refine own_back (fun t k => XS.iconst X3.here hx rfl (hb hby at_105) k) ?_
  show own_Go _ _ _ _ _ _ _ (T3.setTop (mkF m 106 #[.val (.int i0), .val (.int i1), .val (.int i2), .val (.int i3), .val (.int i4), .val (.int i5), .val (.int i6), .val (.int i7), .val (.int i8), .val (.int i9), .val (.int t0), .val (.ref b1), .val (.int (own_f3_0 (fun _ => (0 : Int64)) i9)), .unset, .unset] [(.int (1 : Int32)), (.int i6), (.ref b1)]))
  obtain ⟨cq4, kq4, q4a, q4b, q4c⟩ := isOf hZ e3 HP2.1
  obtain ⟨_, _, ⟨T4, L4, k4, n4⟩, -, X4, ⟨Lc4, hQ4, l4, y4, z4⟩, st4⟩ := X3.virtualBack hx (y := (⟨"com/example/furl/furl/tree/PositionCounts", "add", "(II)V"⟩ : MethodName)) (z := (⟨"com/example/furl/furl/tree/PositionCounts", "add", "(II)V"⟩ : MethodName)) hown (mvT hZ (hw _ (List.mem_of_getElem? (i := 21) rfl))) (mvT hZ (hw _ (List.mem_of_getElem? (i := 22) rfl))) (notFace_of_selects (args := #[]) (mvT hZ (hw _ (List.mem_of_getElem? (i := 24) rfl)))) (mvT hZ (hw _ (List.mem_of_getElem? (i := 24) rfl))) (mvT hZ (hw _ (List.mem_of_getElem? (i := 23) rfl))) (by decide) (backOf (W := 0) (own_rm4 l Z a0 hw [] b1 i6 (1 : Int32) aB2 aW2 ((i5.toNatClampNeg + 63) / 64) (fun _ => (0 : Int64)) (fun _ => (0 : Int32)) T2.heap n0 Z2 HP2 (own_r2_of HR).1 (own_r2_of HR).2.1) hZ (hw _ (List.mem_of_getElem? (i := 25) rfl)) (hw _ (List.mem_of_getElem? (i := 3) rfl)) (by decide) (by decide)) q4a q4c (g := (mkF m 106 #[.val (.int i0), .val (.int i1), .val (.int i2), .val (.int i3), .val (.int i4), .val (.int i5), .val (.int i6), .val (.int i7), .val (.int i8), .val (.int i9), .val (.int t0), .val (.ref b1), .val (.int (own_f3_0 (fun _ => (0 : Int64)) i9)), .unset, .unset] [(.int (1 : Int32)), (.int i6), (.ref b1)])) rfl (by rw [hml]; rfl) (Steps.refl _) (argsL := [(.int i6), (.int (1 : Int32))]) (rest := []) (lenOf own_pd2 rfl) rfl (by show 2 * 0 + _ ≤ _; exact Nat.le_of_eq rfl) (hb hby at_106) (fun _ _ => ⟨rfl, e3, (by decide : 3 + 0 ≤ _), (by decide : 35 + 0 ≤ _)⟩)
  dsimp only [Pt.U, Pt.locs, Pt.cells, Pt.slots] at X4 l4 y4 z4 st4 hQ4
  subst l4 y4 z4
  obtain ⟨rfl, N4q, Z4, HP4⟩ := hQ4
  have N4 := Fr.app N3 N4q
  refine own_back (fun t k => st4.trans k) ?_
  show own_Go _ _ _ _ _ _ _ (T4.setTop (mkF m 109 #[.val (.int i0), .val (.int i1), .val (.int i2), .val (.int i3), .val (.int i4), .val (.int i5), .val (.int i6), .val (.int i7), .val (.int i8), .val (.int i9), .val (.int t0), .val (.ref b1), .val (.int (own_f3_0 (fun _ => (0 : Int64)) i9)), .unset, .unset] []))
  refine own_back (fun t k => XS.iload X4.here hx rfl (hb hby at_109) rfl k) ?_
  show own_Go _ _ _ _ _ _ _ (T4.setTop (mkF m 111 #[.val (.int i0), .val (.int i1), .val (.int i2), .val (.int i3), .val (.int i4), .val (.int i5), .val (.int i6), .val (.int i7), .val (.int i8), .val (.int i9), .val (.int t0), .val (.ref b1), .val (.int (own_f3_0 (fun _ => (0 : Int64)) i9)), .unset, .unset] [(.int i7)]))
  refine own_back (fun t k => XS.iload X4.here hx rfl (hb hby at_111) rfl k) ?_
  show own_Go _ _ _ _ _ _ _ (T4.setTop (mkF m 113 #[.val (.int i0), .val (.int i1), .val (.int i2), .val (.int i3), .val (.int i4), .val (.int i5), .val (.int i6), .val (.int i7), .val (.int i8), .val (.int i9), .val (.int t0), .val (.ref b1), .val (.int (own_f3_0 (fun _ => (0 : Int64)) i9)), .unset, .unset] [(.int i6), (.int i7)]))
  by_cases hc113 : i7 = i6
  · rw [if_pos hc113] at hR
    refine own_back (fun t k => XS.icmpYes X4.here hx rfl (pc0 := 113) (pc' := 124) rfl (hb hby at_113) rfl (teq hc113).1 (by decide) (by decide) k) ?_
    show own_Go _ _ _ _ _ _ _ (T4.setTop (mkF m 124 #[.val (.int i0), .val (.int i1), .val (.int i2), .val (.int i3), .val (.int i4), .val (.int i5), .val (.int i6), .val (.int i7), .val (.int i8), .val (.int i9), .val (.int t0), .val (.ref b1), .val (.int (own_f3_0 (fun _ => (0 : Int64)) i9)), .unset, .unset] []))
    exact own_l0_124 X4 hx hZ hw hby hml hown hret hlk rfl N4 Z4 aB2 aW2 ((i5.toNatClampNeg + 63) / 64) (own_tog (fun _ => (0 : Int64)) i6) (own_cnt (fun _ => (0 : Int32)) i6 (1 : Int32)) i0 i1 i2 i3 i4 i5 i6 i7 i8 i9 t0 b1 (own_f3_0 (fun _ => (0 : Int64)) i9) hR HP4 (own_r2_of HR)
  · rw [if_neg hc113] at hR
    refine own_back (fun t k => XS.icmpNo X4.here hx rfl (hb hby at_113) rfl (feq hc113).1 k) ?_
    show own_Go _ _ _ _ _ _ _ (T4.setTop (mkF m 116 #[.val (.int i0), .val (.int i1), .val (.int i2), .val (.int i3), .val (.int i4), .val (.int i5), .val (.int i6), .val (.int i7), .val (.int i8), .val (.int i9), .val (.int t0), .val (.ref b1), .val (.int (own_f3_0 (fun _ => (0 : Int64)) i9)), .unset, .unset] []))
    refine own_back (fun t k => XS.aload X4.here hx rfl (hb hby at_116) rfl rfl k) ?_
    show own_Go _ _ _ _ _ _ _ (T4.setTop (mkF m 118 #[.val (.int i0), .val (.int i1), .val (.int i2), .val (.int i3), .val (.int i4), .val (.int i5), .val (.int i6), .val (.int i7), .val (.int i8), .val (.int i9), .val (.int t0), .val (.ref b1), .val (.int (own_f3_0 (fun _ => (0 : Int64)) i9)), .unset, .unset] [(.ref b1)]))
    refine own_back (fun t k => XS.iload X4.here hx rfl (hb hby at_118) rfl k) ?_
    show own_Go _ _ _ _ _ _ _ (T4.setTop (mkF m 120 #[.val (.int i0), .val (.int i1), .val (.int i2), .val (.int i3), .val (.int i4), .val (.int i5), .val (.int i6), .val (.int i7), .val (.int i8), .val (.int i9), .val (.int t0), .val (.ref b1), .val (.int (own_f3_0 (fun _ => (0 : Int64)) i9)), .unset, .unset] [(.int i7), (.ref b1)]))
    refine own_back (fun t k => XS.iconst X4.here hx rfl (hb hby at_120) k) ?_
    show own_Go _ _ _ _ _ _ _ (T4.setTop (mkF m 121 #[.val (.int i0), .val (.int i1), .val (.int i2), .val (.int i3), .val (.int i4), .val (.int i5), .val (.int i6), .val (.int i7), .val (.int i8), .val (.int i9), .val (.int t0), .val (.ref b1), .val (.int (own_f3_0 (fun _ => (0 : Int64)) i9)), .unset, .unset] [(.int (1 : Int32)), (.int i7), (.ref b1)]))
    obtain ⟨cq5, kq5, q5a, q5b, q5c⟩ := isOf hZ rfl HP4.1
    obtain ⟨_, _, ⟨T5, L5, k5, n5⟩, -, X5, ⟨Lc5, hQ5, l5, y5, z5⟩, st5⟩ := X4.virtualBack hx (y := (⟨"com/example/furl/furl/tree/PositionCounts", "add", "(II)V"⟩ : MethodName)) (z := (⟨"com/example/furl/furl/tree/PositionCounts", "add", "(II)V"⟩ : MethodName)) hown (mvT hZ (hw _ (List.mem_of_getElem? (i := 21) rfl))) (mvT hZ (hw _ (List.mem_of_getElem? (i := 22) rfl))) (notFace_of_selects (args := #[]) (mvT hZ (hw _ (List.mem_of_getElem? (i := 24) rfl)))) (mvT hZ (hw _ (List.mem_of_getElem? (i := 24) rfl))) (mvT hZ (hw _ (List.mem_of_getElem? (i := 23) rfl))) (by decide) (backOf (W := 0) (own_rm4 l Z a0 hw [] b1 i7 (1 : Int32) aB2 aW2 ((i5.toNatClampNeg + 63) / 64) (own_tog (fun _ => (0 : Int64)) i6) (own_cnt (fun _ => (0 : Int32)) i6 (1 : Int32)) T4.heap n0 Z4 HP4 (own_r2_of HR).1 (own_r2_of HR).2.2.1) hZ (hw _ (List.mem_of_getElem? (i := 25) rfl)) (hw _ (List.mem_of_getElem? (i := 3) rfl)) (by decide) (by decide)) q5a q5c (g := (mkF m 121 #[.val (.int i0), .val (.int i1), .val (.int i2), .val (.int i3), .val (.int i4), .val (.int i5), .val (.int i6), .val (.int i7), .val (.int i8), .val (.int i9), .val (.int t0), .val (.ref b1), .val (.int (own_f3_0 (fun _ => (0 : Int64)) i9)), .unset, .unset] [(.int (1 : Int32)), (.int i7), (.ref b1)])) rfl (by rw [hml]; rfl) (Steps.refl _) (argsL := [(.int i7), (.int (1 : Int32))]) (rest := []) (lenOf own_pd2 rfl) rfl (by show 2 * 0 + _ ≤ _; exact Nat.le_of_eq rfl) (hb hby at_121) (fun _ _ => ⟨rfl, rfl, (by decide : 3 + 0 ≤ _), (by decide : 35 + 0 ≤ _)⟩)
    dsimp only [Pt.U, Pt.locs, Pt.cells, Pt.slots] at X5 l5 y5 z5 st5 hQ5
    subst l5 y5 z5
    obtain ⟨rfl, N5q, Z5, HP5⟩ := hQ5
    have N5 := Fr.app N4 N5q
    refine own_back (fun t k => st5.trans k) ?_
    show own_Go _ _ _ _ _ _ _ (T5.setTop (mkF m 124 #[.val (.int i0), .val (.int i1), .val (.int i2), .val (.int i3), .val (.int i4), .val (.int i5), .val (.int i6), .val (.int i7), .val (.int i8), .val (.int i9), .val (.int t0), .val (.ref b1), .val (.int (own_f3_0 (fun _ => (0 : Int64)) i9)), .unset, .unset] []))
    exact own_l0_124 X5 hx hZ hw hby hml hown hret hlk rfl N5 Z5 aB2 aW2 ((i5.toNatClampNeg + 63) / 64) (own_tog (own_tog (fun _ => (0 : Int64)) i6) i7) (own_cnt (own_cnt (fun _ => (0 : Int32)) i6 (1 : Int32)) i7 (1 : Int32)) i0 i1 i2 i3 i4 i5 i6 i7 i8 i9 t0 b1 (own_f3_0 (fun _ => (0 : Int64)) i9) hR HP5 (own_r2_of HR)
set_option maxRecDepth 65536 in
set_option maxHeartbeats 4000000 in
theorem own_l0_67 {p : Program} {l : Launch} {e : Env} {s : State} {m : MethodId} {args : Array Value} {below : List Frame} {meth : Method} {c : Code} {T : State} {locs : List Loc} {Z : State} {a0 : Array Value} {h0 : Heap} {n0 : Nat}
    (X : Stand p l e room_1 s m args below meth c T locs 0 0) (hx : p.tables.exec = Jvm.exec) (hZ : Z.Warmed39 s.vm) (hw : ∀ d ∈ tables_1, d.before a0 Z = true) (hby : c.code = code) (hml : c.maxLocals = 15) (hown : s.vm.findClass "com/example/furl/furl/tree/PositionCountsContainsPinLaw" = some m.cls) (hret : meth.sig.returnType = some .boolean) (hlk : meth.locks = false) (e0 : T.heap = h0) (N : Fr n0 locs) (Z0 : n0 ≤ h0.size)
    (i0 : Int32) (i1 : Int32) (i2 : Int32) (i3 : Int32) (i4 : Int32) (i5 : Int32) (i6 : Int32) (i7 : Int32) (i8 : Int32) (i9 : Int32) {r : Int32} (hR : r = own_f0_67 i0 i1 i2 i3 i4 i5 i6 i7 i8 i9) (HR : own_rng i5 i6 i7 i9) : own_Go p e below s room_1.cells room_1.slots (own_QG (.int r) h0 n0) (T.setTop (mkF m 67 #[.val (.int i0), .val (.int i1), .val (.int i2), .val (.int i3), .val (.int i4), .val (.int i5), .val (.int i6), .val (.int i7), .val (.int i8), .val (.int i9), .unset, .unset, .unset, .unset, .unset] [])) := by
  unfold own_f0_67 at hR
  refine own_back (fun t k => XS.iload X.here hx rfl (hb hby at_67) rfl k) ?_
  show own_Go _ _ _ _ _ _ _ (T.setTop (mkF m 69 #[.val (.int i0), .val (.int i1), .val (.int i2), .val (.int i3), .val (.int i4), .val (.int i5), .val (.int i6), .val (.int i7), .val (.int i8), .val (.int i9), .unset, .unset, .unset, .unset, .unset] [(.int i4)]))
  refine own_back (fun t k => XS.iconst X.here hx rfl (hb hby at_69) k) ?_
  show own_Go _ _ _ _ _ _ _ (T.setTop (mkF m 70 #[.val (.int i0), .val (.int i1), .val (.int i2), .val (.int i3), .val (.int i4), .val (.int i5), .val (.int i6), .val (.int i7), .val (.int i8), .val (.int i9), .unset, .unset, .unset, .unset, .unset] [(.int (4 : Int32)), (.int i4)]))
  refine own_back (fun t k => XS.iand X.here hx rfl (hb hby at_70) rfl k) ?_
  show own_Go _ _ _ _ _ _ _ (T.setTop (mkF m 71 #[.val (.int i0), .val (.int i1), .val (.int i2), .val (.int i3), .val (.int i4), .val (.int i5), .val (.int i6), .val (.int i7), .val (.int i8), .val (.int i9), .unset, .unset, .unset, .unset, .unset] [(.int (i4 &&& (4 : Int32)))]))
  by_cases hc71 : (i4 &&& (4 : Int32)) = (0 : Int32)
  · rw [if_pos hc71] at hR
    refine own_back (fun t k => XS.ifYes X.here hx rfl (pc0 := 71) (pc' := 78) rfl (hb hby at_71) rfl ((if0 _ _).trans (teq hc71).1) (by decide) (by decide) k) ?_
    show own_Go _ _ _ _ _ _ _ (T.setTop (mkF m 78 #[.val (.int i0), .val (.int i1), .val (.int i2), .val (.int i3), .val (.int i4), .val (.int i5), .val (.int i6), .val (.int i7), .val (.int i8), .val (.int i9), .unset, .unset, .unset, .unset, .unset] []))
    refine own_back (fun t k => XS.iconst X.here hx rfl (hb hby at_78) k) ?_
    show own_Go _ _ _ _ _ _ _ (T.setTop (mkF m 79 #[.val (.int i0), .val (.int i1), .val (.int i2), .val (.int i3), .val (.int i4), .val (.int i5), .val (.int i6), .val (.int i7), .val (.int i8), .val (.int i9), .unset, .unset, .unset, .unset, .unset] [(.int (0 : Int32))]))
    exact own_l0_79 X hx hZ hw hby hml hown hret hlk e0 N Z0 i0 i1 i2 i3 i4 i5 i6 i7 i8 i9 (0 : Int32) hR (by first | decide | assumption)
  · rw [if_neg hc71] at hR
    refine own_back (fun t k => XS.ifNo X.here hx rfl (hb hby at_71) rfl ((if0 _ _).trans (feq hc71).1) k) ?_
    show own_Go _ _ _ _ _ _ _ (T.setTop (mkF m 74 #[.val (.int i0), .val (.int i1), .val (.int i2), .val (.int i3), .val (.int i4), .val (.int i5), .val (.int i6), .val (.int i7), .val (.int i8), .val (.int i9), .unset, .unset, .unset, .unset, .unset] []))
    refine own_back (fun t k => XS.iconst X.here hx rfl (hb hby at_74) k) ?_
    show own_Go _ _ _ _ _ _ _ (T.setTop (mkF m 75 #[.val (.int i0), .val (.int i1), .val (.int i2), .val (.int i3), .val (.int i4), .val (.int i5), .val (.int i6), .val (.int i7), .val (.int i8), .val (.int i9), .unset, .unset, .unset, .unset, .unset] [(.int (1 : Int32))]))
    refine own_back (fun t k => XS.goto X.here hx rfl (pc0 := 75) (pc' := 79) rfl (hb hby at_75) (by decide) (by decide) k) ?_
    show own_Go _ _ _ _ _ _ _ (T.setTop (mkF m 79 #[.val (.int i0), .val (.int i1), .val (.int i2), .val (.int i3), .val (.int i4), .val (.int i5), .val (.int i6), .val (.int i7), .val (.int i8), .val (.int i9), .unset, .unset, .unset, .unset, .unset] [(.int (1 : Int32))]))
    exact own_l0_79 X hx hZ hw hby hml hown hret hlk e0 N Z0 i0 i1 i2 i3 i4 i5 i6 i7 i8 i9 (1 : Int32) hR (by first | decide | assumption)
set_option maxRecDepth 65536 in
set_option maxHeartbeats 4000000 in
theorem own_l0_0 {p : Program} {l : Launch} {e : Env} {s : State} {m : MethodId} {args : Array Value} {below : List Frame} {meth : Method} {c : Code} {T : State} {locs : List Loc} {Z : State} {a0 : Array Value} {h0 : Heap} {n0 : Nat}
    (X : Stand p l e room_1 s m args below meth c T locs 0 0) (hx : p.tables.exec = Jvm.exec) (hZ : Z.Warmed39 s.vm) (hw : ∀ d ∈ tables_1, d.before a0 Z = true) (hby : c.code = code) (hml : c.maxLocals = 15) (hown : s.vm.findClass "com/example/furl/furl/tree/PositionCountsContainsPinLaw" = some m.cls) (hret : meth.sig.returnType = some .boolean) (hlk : meth.locks = false) (e0 : T.heap = h0) (N : Fr n0 locs) (Z0 : n0 ≤ h0.size)
    (x0 : Int32) (x1 : Int32) (x2 : Int32) (x3 : Int32) (x4 : Int32) {r : Int32} (hR : r = own_f0_0 x0 x1 x2 x3 x4) : own_Go p e below s room_1.cells room_1.slots (own_QG (.int r) h0 n0) (T.setTop (mkF m 0 #[.val (.int x0), .val (.int x1), .val (.int x2), .val (.int x3), .val (.int x4), .unset, .unset, .unset, .unset, .unset, .unset, .unset, .unset, .unset, .unset] [])) := by
  unfold own_f0_0 at hR
  refine own_back (fun t k => XS.iloadN X.here hx rfl (hb hby at_0) rfl k) ?_
  show own_Go _ _ _ _ _ _ _ (T.setTop (mkF m 1 #[.val (.int x0), .val (.int x1), .val (.int x2), .val (.int x3), .val (.int x4), .unset, .unset, .unset, .unset, .unset, .unset, .unset, .unset, .unset, .unset] [(.int x0)]))
  refine own_back (fun t k => XS.sipush X.here hx rfl (hb hby at_1) k) ?_
  show own_Go _ _ _ _ _ _ _ (T.setTop (mkF m 4 #[.val (.int x0), .val (.int x1), .val (.int x2), .val (.int x3), .val (.int x4), .unset, .unset, .unset, .unset, .unset, .unset, .unset, .unset, .unset, .unset] [(.int (1023 : Int32)), (.int x0)]))
  refine own_back (fun t k => XS.iand X.here hx rfl (hb hby at_4) rfl k) ?_
  show own_Go _ _ _ _ _ _ _ (T.setTop (mkF m 5 #[.val (.int x0), .val (.int x1), .val (.int x2), .val (.int x3), .val (.int x4), .unset, .unset, .unset, .unset, .unset, .unset, .unset, .unset, .unset, .unset] [(.int (x0 &&& (1023 : Int32)))]))
  refine own_back (fun t k => XS.iconst X.here hx rfl (hb hby at_5) k) ?_
  show own_Go _ _ _ _ _ _ _ (T.setTop (mkF m 6 #[.val (.int x0), .val (.int x1), .val (.int x2), .val (.int x3), .val (.int x4), .unset, .unset, .unset, .unset, .unset, .unset, .unset, .unset, .unset, .unset] [(.int (1 : Int32)), (.int (x0 &&& (1023 : Int32)))]))
  refine own_back (fun t k => XS.iadd X.here hx rfl (hb hby at_6) rfl k) ?_
  show own_Go _ _ _ _ _ _ _ (T.setTop (mkF m 7 #[.val (.int x0), .val (.int x1), .val (.int x2), .val (.int x3), .val (.int x4), .unset, .unset, .unset, .unset, .unset, .unset, .unset, .unset, .unset, .unset] [(.int ((x0 &&& (1023 : Int32)) + (1 : Int32)))]))
  refine own_back (fun t k => XS.istore X.here hx rfl (hb hby at_7) rfl (l' := #[.val (.int x0), .val (.int x1), .val (.int x2), .val (.int x3), .val (.int x4), .val (.int ((x0 &&& (1023 : Int32)) + (1 : Int32))), .unset, .unset, .unset, .unset, .unset, .unset, .unset, .unset, .unset]) rfl k) ?_
  show own_Go _ _ _ _ _ _ _ (T.setTop (mkF m 9 #[.val (.int x0), .val (.int x1), .val (.int x2), .val (.int x3), .val (.int x4), .val (.int ((x0 &&& (1023 : Int32)) + (1 : Int32))), .unset, .unset, .unset, .unset, .unset, .unset, .unset, .unset, .unset] []))
  refine own_back (fun t k => XS.iloadN X.here hx rfl (hb hby at_9) rfl k) ?_
  show own_Go _ _ _ _ _ _ _ (T.setTop (mkF m 10 #[.val (.int x0), .val (.int x1), .val (.int x2), .val (.int x3), .val (.int x4), .val (.int ((x0 &&& (1023 : Int32)) + (1 : Int32))), .unset, .unset, .unset, .unset, .unset, .unset, .unset, .unset, .unset] [(.int x1)]))
  refine own_back (fun t k => X.ldcInt hx hown (mvT hZ (hw _ (List.mem_of_getElem? (i := 0) rfl))) (g := (mkF m 10 #[.val (.int x0), .val (.int x1), .val (.int x2), .val (.int x3), .val (.int x4), .val (.int ((x0 &&& (1023 : Int32)) + (1 : Int32))), .unset, .unset, .unset, .unset, .unset, .unset, .unset, .unset, .unset] [(.int x1)])) rfl (hb hby at_10) _ k) ?_
  show own_Go _ _ _ _ _ _ _ (T.setTop (mkF m 12 #[.val (.int x0), .val (.int x1), .val (.int x2), .val (.int x3), .val (.int x4), .val (.int ((x0 &&& (1023 : Int32)) + (1 : Int32))), .unset, .unset, .unset, .unset, .unset, .unset, .unset, .unset, .unset] [(.int (2147483647 : Int32)), (.int x1)]))
  refine own_back (fun t k => XS.iand X.here hx rfl (hb hby at_12) rfl k) ?_
  show own_Go _ _ _ _ _ _ _ (T.setTop (mkF m 13 #[.val (.int x0), .val (.int x1), .val (.int x2), .val (.int x3), .val (.int x4), .val (.int ((x0 &&& (1023 : Int32)) + (1 : Int32))), .unset, .unset, .unset, .unset, .unset, .unset, .unset, .unset, .unset] [(.int (x1 &&& (2147483647 : Int32)))]))
  refine own_back (fun t k => XS.iload X.here hx rfl (hb hby at_13) rfl k) ?_
  show own_Go _ _ _ _ _ _ _ (T.setTop (mkF m 15 #[.val (.int x0), .val (.int x1), .val (.int x2), .val (.int x3), .val (.int x4), .val (.int ((x0 &&& (1023 : Int32)) + (1 : Int32))), .unset, .unset, .unset, .unset, .unset, .unset, .unset, .unset, .unset] [(.int ((x0 &&& (1023 : Int32)) + (1 : Int32))), (.int (x1 &&& (2147483647 : Int32)))]))
  refine own_back (B := T.setTop (mkF m 16 #[.val (.int x0), .val (.int x1), .val (.int x2), .val (.int x3), .val (.int x4), .val (.int ((x0 &&& (1023 : Int32)) + (1 : Int32))), .unset, .unset, .unset, .unset, .unset, .unset, .unset, .unset, .unset] [(.int ((x1 &&& (2147483647 : Int32)) % ((x0 &&& (1023 : Int32)) + (1 : Int32))))])) (fun t k => XS.irem X.here hx rfl (hb hby at_15) rfl (own_cnz x0) (by rw [irem_eq_mod]; exact k)) ?_
  show own_Go _ _ _ _ _ _ _ (T.setTop (mkF m 16 #[.val (.int x0), .val (.int x1), .val (.int x2), .val (.int x3), .val (.int x4), .val (.int ((x0 &&& (1023 : Int32)) + (1 : Int32))), .unset, .unset, .unset, .unset, .unset, .unset, .unset, .unset, .unset] [(.int ((x1 &&& (2147483647 : Int32)) % ((x0 &&& (1023 : Int32)) + (1 : Int32))))]))
  refine own_back (fun t k => XS.istore X.here hx rfl (hb hby at_16) rfl (l' := #[.val (.int x0), .val (.int x1), .val (.int x2), .val (.int x3), .val (.int x4), .val (.int ((x0 &&& (1023 : Int32)) + (1 : Int32))), .val (.int ((x1 &&& (2147483647 : Int32)) % ((x0 &&& (1023 : Int32)) + (1 : Int32)))), .unset, .unset, .unset, .unset, .unset, .unset, .unset, .unset]) rfl k) ?_
  show own_Go _ _ _ _ _ _ _ (T.setTop (mkF m 18 #[.val (.int x0), .val (.int x1), .val (.int x2), .val (.int x3), .val (.int x4), .val (.int ((x0 &&& (1023 : Int32)) + (1 : Int32))), .val (.int ((x1 &&& (2147483647 : Int32)) % ((x0 &&& (1023 : Int32)) + (1 : Int32)))), .unset, .unset, .unset, .unset, .unset, .unset, .unset, .unset] []))
  refine own_back (fun t k => XS.iloadN X.here hx rfl (hb hby at_18) rfl k) ?_
  show own_Go _ _ _ _ _ _ _ (T.setTop (mkF m 19 #[.val (.int x0), .val (.int x1), .val (.int x2), .val (.int x3), .val (.int x4), .val (.int ((x0 &&& (1023 : Int32)) + (1 : Int32))), .val (.int ((x1 &&& (2147483647 : Int32)) % ((x0 &&& (1023 : Int32)) + (1 : Int32)))), .unset, .unset, .unset, .unset, .unset, .unset, .unset, .unset] [(.int x2)]))
  refine own_back (fun t k => X.ldcInt hx hown (mvT hZ (hw _ (List.mem_of_getElem? (i := 0) rfl))) (g := (mkF m 19 #[.val (.int x0), .val (.int x1), .val (.int x2), .val (.int x3), .val (.int x4), .val (.int ((x0 &&& (1023 : Int32)) + (1 : Int32))), .val (.int ((x1 &&& (2147483647 : Int32)) % ((x0 &&& (1023 : Int32)) + (1 : Int32)))), .unset, .unset, .unset, .unset, .unset, .unset, .unset, .unset] [(.int x2)])) rfl (hb hby at_19) _ k) ?_
  show own_Go _ _ _ _ _ _ _ (T.setTop (mkF m 21 #[.val (.int x0), .val (.int x1), .val (.int x2), .val (.int x3), .val (.int x4), .val (.int ((x0 &&& (1023 : Int32)) + (1 : Int32))), .val (.int ((x1 &&& (2147483647 : Int32)) % ((x0 &&& (1023 : Int32)) + (1 : Int32)))), .unset, .unset, .unset, .unset, .unset, .unset, .unset, .unset] [(.int (2147483647 : Int32)), (.int x2)]))
  refine own_back (fun t k => XS.iand X.here hx rfl (hb hby at_21) rfl k) ?_
  show own_Go _ _ _ _ _ _ _ (T.setTop (mkF m 22 #[.val (.int x0), .val (.int x1), .val (.int x2), .val (.int x3), .val (.int x4), .val (.int ((x0 &&& (1023 : Int32)) + (1 : Int32))), .val (.int ((x1 &&& (2147483647 : Int32)) % ((x0 &&& (1023 : Int32)) + (1 : Int32)))), .unset, .unset, .unset, .unset, .unset, .unset, .unset, .unset] [(.int (x2 &&& (2147483647 : Int32)))]))
  refine own_back (fun t k => XS.iload X.here hx rfl (hb hby at_22) rfl k) ?_
  show own_Go _ _ _ _ _ _ _ (T.setTop (mkF m 24 #[.val (.int x0), .val (.int x1), .val (.int x2), .val (.int x3), .val (.int x4), .val (.int ((x0 &&& (1023 : Int32)) + (1 : Int32))), .val (.int ((x1 &&& (2147483647 : Int32)) % ((x0 &&& (1023 : Int32)) + (1 : Int32)))), .unset, .unset, .unset, .unset, .unset, .unset, .unset, .unset] [(.int ((x0 &&& (1023 : Int32)) + (1 : Int32))), (.int (x2 &&& (2147483647 : Int32)))]))
  refine own_back (B := T.setTop (mkF m 25 #[.val (.int x0), .val (.int x1), .val (.int x2), .val (.int x3), .val (.int x4), .val (.int ((x0 &&& (1023 : Int32)) + (1 : Int32))), .val (.int ((x1 &&& (2147483647 : Int32)) % ((x0 &&& (1023 : Int32)) + (1 : Int32)))), .unset, .unset, .unset, .unset, .unset, .unset, .unset, .unset] [(.int ((x2 &&& (2147483647 : Int32)) % ((x0 &&& (1023 : Int32)) + (1 : Int32))))])) (fun t k => XS.irem X.here hx rfl (hb hby at_24) rfl (own_cnz x0) (by rw [irem_eq_mod]; exact k)) ?_
  show own_Go _ _ _ _ _ _ _ (T.setTop (mkF m 25 #[.val (.int x0), .val (.int x1), .val (.int x2), .val (.int x3), .val (.int x4), .val (.int ((x0 &&& (1023 : Int32)) + (1 : Int32))), .val (.int ((x1 &&& (2147483647 : Int32)) % ((x0 &&& (1023 : Int32)) + (1 : Int32)))), .unset, .unset, .unset, .unset, .unset, .unset, .unset, .unset] [(.int ((x2 &&& (2147483647 : Int32)) % ((x0 &&& (1023 : Int32)) + (1 : Int32))))]))
  refine own_back (fun t k => XS.istore X.here hx rfl (hb hby at_25) rfl (l' := #[.val (.int x0), .val (.int x1), .val (.int x2), .val (.int x3), .val (.int x4), .val (.int ((x0 &&& (1023 : Int32)) + (1 : Int32))), .val (.int ((x1 &&& (2147483647 : Int32)) % ((x0 &&& (1023 : Int32)) + (1 : Int32)))), .val (.int ((x2 &&& (2147483647 : Int32)) % ((x0 &&& (1023 : Int32)) + (1 : Int32)))), .unset, .unset, .unset, .unset, .unset, .unset, .unset]) rfl k) ?_
  show own_Go _ _ _ _ _ _ _ (T.setTop (mkF m 27 #[.val (.int x0), .val (.int x1), .val (.int x2), .val (.int x3), .val (.int x4), .val (.int ((x0 &&& (1023 : Int32)) + (1 : Int32))), .val (.int ((x1 &&& (2147483647 : Int32)) % ((x0 &&& (1023 : Int32)) + (1 : Int32)))), .val (.int ((x2 &&& (2147483647 : Int32)) % ((x0 &&& (1023 : Int32)) + (1 : Int32)))), .unset, .unset, .unset, .unset, .unset, .unset, .unset] []))
  refine own_back (fun t k => XS.iload X.here hx rfl (hb hby at_27) rfl k) ?_
  show own_Go _ _ _ _ _ _ _ (T.setTop (mkF m 29 #[.val (.int x0), .val (.int x1), .val (.int x2), .val (.int x3), .val (.int x4), .val (.int ((x0 &&& (1023 : Int32)) + (1 : Int32))), .val (.int ((x1 &&& (2147483647 : Int32)) % ((x0 &&& (1023 : Int32)) + (1 : Int32)))), .val (.int ((x2 &&& (2147483647 : Int32)) % ((x0 &&& (1023 : Int32)) + (1 : Int32)))), .unset, .unset, .unset, .unset, .unset, .unset, .unset] [(.int x4)]))
  refine own_back (fun t k => XS.iconst X.here hx rfl (hb hby at_29) k) ?_
  show own_Go _ _ _ _ _ _ _ (T.setTop (mkF m 30 #[.val (.int x0), .val (.int x1), .val (.int x2), .val (.int x3), .val (.int x4), .val (.int ((x0 &&& (1023 : Int32)) + (1 : Int32))), .val (.int ((x1 &&& (2147483647 : Int32)) % ((x0 &&& (1023 : Int32)) + (1 : Int32)))), .val (.int ((x2 &&& (2147483647 : Int32)) % ((x0 &&& (1023 : Int32)) + (1 : Int32)))), .unset, .unset, .unset, .unset, .unset, .unset, .unset] [(.int (3 : Int32)), (.int x4)]))
  refine own_back (fun t k => XS.iand X.here hx rfl (hb hby at_30) rfl k) ?_
  show own_Go _ _ _ _ _ _ _ (T.setTop (mkF m 31 #[.val (.int x0), .val (.int x1), .val (.int x2), .val (.int x3), .val (.int x4), .val (.int ((x0 &&& (1023 : Int32)) + (1 : Int32))), .val (.int ((x1 &&& (2147483647 : Int32)) % ((x0 &&& (1023 : Int32)) + (1 : Int32)))), .val (.int ((x2 &&& (2147483647 : Int32)) % ((x0 &&& (1023 : Int32)) + (1 : Int32)))), .unset, .unset, .unset, .unset, .unset, .unset, .unset] [(.int (x4 &&& (3 : Int32)))]))
  refine own_back (fun t k => XS.istore X.here hx rfl (hb hby at_31) rfl (l' := #[.val (.int x0), .val (.int x1), .val (.int x2), .val (.int x3), .val (.int x4), .val (.int ((x0 &&& (1023 : Int32)) + (1 : Int32))), .val (.int ((x1 &&& (2147483647 : Int32)) % ((x0 &&& (1023 : Int32)) + (1 : Int32)))), .val (.int ((x2 &&& (2147483647 : Int32)) % ((x0 &&& (1023 : Int32)) + (1 : Int32)))), .val (.int (x4 &&& (3 : Int32))), .unset, .unset, .unset, .unset, .unset, .unset]) rfl k) ?_
  show own_Go _ _ _ _ _ _ _ (T.setTop (mkF m 33 #[.val (.int x0), .val (.int x1), .val (.int x2), .val (.int x3), .val (.int x4), .val (.int ((x0 &&& (1023 : Int32)) + (1 : Int32))), .val (.int ((x1 &&& (2147483647 : Int32)) % ((x0 &&& (1023 : Int32)) + (1 : Int32)))), .val (.int ((x2 &&& (2147483647 : Int32)) % ((x0 &&& (1023 : Int32)) + (1 : Int32)))), .val (.int (x4 &&& (3 : Int32))), .unset, .unset, .unset, .unset, .unset, .unset] []))
  refine own_back (fun t k => XS.iload X.here hx rfl (hb hby at_33) rfl k) ?_
  show own_Go _ _ _ _ _ _ _ (T.setTop (mkF m 35 #[.val (.int x0), .val (.int x1), .val (.int x2), .val (.int x3), .val (.int x4), .val (.int ((x0 &&& (1023 : Int32)) + (1 : Int32))), .val (.int ((x1 &&& (2147483647 : Int32)) % ((x0 &&& (1023 : Int32)) + (1 : Int32)))), .val (.int ((x2 &&& (2147483647 : Int32)) % ((x0 &&& (1023 : Int32)) + (1 : Int32)))), .val (.int (x4 &&& (3 : Int32))), .unset, .unset, .unset, .unset, .unset, .unset] [(.int (x4 &&& (3 : Int32)))]))
  by_cases hc35 : (x4 &&& (3 : Int32)) = (0 : Int32)
  · rw [if_pos hc35] at hR
    refine own_back (fun t k => XS.ifNo X.here hx rfl (hb hby at_35) rfl ((if0 _ _).trans (teq hc35).2) k) ?_
    show own_Go _ _ _ _ _ _ _ (T.setTop (mkF m 38 #[.val (.int x0), .val (.int x1), .val (.int x2), .val (.int x3), .val (.int x4), .val (.int ((x0 &&& (1023 : Int32)) + (1 : Int32))), .val (.int ((x1 &&& (2147483647 : Int32)) % ((x0 &&& (1023 : Int32)) + (1 : Int32)))), .val (.int ((x2 &&& (2147483647 : Int32)) % ((x0 &&& (1023 : Int32)) + (1 : Int32)))), .val (.int (x4 &&& (3 : Int32))), .unset, .unset, .unset, .unset, .unset, .unset] []))
    refine own_back (fun t k => XS.iload X.here hx rfl (hb hby at_38) rfl k) ?_
    show own_Go _ _ _ _ _ _ _ (T.setTop (mkF m 40 #[.val (.int x0), .val (.int x1), .val (.int x2), .val (.int x3), .val (.int x4), .val (.int ((x0 &&& (1023 : Int32)) + (1 : Int32))), .val (.int ((x1 &&& (2147483647 : Int32)) % ((x0 &&& (1023 : Int32)) + (1 : Int32)))), .val (.int ((x2 &&& (2147483647 : Int32)) % ((x0 &&& (1023 : Int32)) + (1 : Int32)))), .val (.int (x4 &&& (3 : Int32))), .unset, .unset, .unset, .unset, .unset, .unset] [(.int ((x1 &&& (2147483647 : Int32)) % ((x0 &&& (1023 : Int32)) + (1 : Int32))))]))
    refine own_back (fun t k => XS.istore X.here hx rfl (hb hby at_40) rfl (l' := #[.val (.int x0), .val (.int x1), .val (.int x2), .val (.int x3), .val (.int x4), .val (.int ((x0 &&& (1023 : Int32)) + (1 : Int32))), .val (.int ((x1 &&& (2147483647 : Int32)) % ((x0 &&& (1023 : Int32)) + (1 : Int32)))), .val (.int ((x2 &&& (2147483647 : Int32)) % ((x0 &&& (1023 : Int32)) + (1 : Int32)))), .val (.int (x4 &&& (3 : Int32))), .val (.int ((x1 &&& (2147483647 : Int32)) % ((x0 &&& (1023 : Int32)) + (1 : Int32)))), .unset, .unset, .unset, .unset, .unset]) rfl k) ?_
    show own_Go _ _ _ _ _ _ _ (T.setTop (mkF m 42 #[.val (.int x0), .val (.int x1), .val (.int x2), .val (.int x3), .val (.int x4), .val (.int ((x0 &&& (1023 : Int32)) + (1 : Int32))), .val (.int ((x1 &&& (2147483647 : Int32)) % ((x0 &&& (1023 : Int32)) + (1 : Int32)))), .val (.int ((x2 &&& (2147483647 : Int32)) % ((x0 &&& (1023 : Int32)) + (1 : Int32)))), .val (.int (x4 &&& (3 : Int32))), .val (.int ((x1 &&& (2147483647 : Int32)) % ((x0 &&& (1023 : Int32)) + (1 : Int32)))), .unset, .unset, .unset, .unset, .unset] []))
    refine own_back (fun t k => XS.goto X.here hx rfl (pc0 := 42) (pc' := 67) rfl (hb hby at_42) (by decide) (by decide) k) ?_
    show own_Go _ _ _ _ _ _ _ (T.setTop (mkF m 67 #[.val (.int x0), .val (.int x1), .val (.int x2), .val (.int x3), .val (.int x4), .val (.int ((x0 &&& (1023 : Int32)) + (1 : Int32))), .val (.int ((x1 &&& (2147483647 : Int32)) % ((x0 &&& (1023 : Int32)) + (1 : Int32)))), .val (.int ((x2 &&& (2147483647 : Int32)) % ((x0 &&& (1023 : Int32)) + (1 : Int32)))), .val (.int (x4 &&& (3 : Int32))), .val (.int ((x1 &&& (2147483647 : Int32)) % ((x0 &&& (1023 : Int32)) + (1 : Int32)))), .unset, .unset, .unset, .unset, .unset] []))
    exact own_l0_67 X hx hZ hw hby hml hown hret hlk e0 N Z0 x0 x1 x2 x3 x4 ((x0 &&& (1023 : Int32)) + (1 : Int32)) ((x1 &&& (2147483647 : Int32)) % ((x0 &&& (1023 : Int32)) + (1 : Int32))) ((x2 &&& (2147483647 : Int32)) % ((x0 &&& (1023 : Int32)) + (1 : Int32))) (x4 &&& (3 : Int32)) ((x1 &&& (2147483647 : Int32)) % ((x0 &&& (1023 : Int32)) + (1 : Int32))) hR (own_rng_in _ _ _ _)
  · rw [if_neg hc35] at hR
    refine own_back (fun t k => XS.ifYes X.here hx rfl (pc0 := 35) (pc' := 45) rfl (hb hby at_35) rfl ((if0 _ _).trans (feq hc35).2) (by decide) (by decide) k) ?_
    show own_Go _ _ _ _ _ _ _ (T.setTop (mkF m 45 #[.val (.int x0), .val (.int x1), .val (.int x2), .val (.int x3), .val (.int x4), .val (.int ((x0 &&& (1023 : Int32)) + (1 : Int32))), .val (.int ((x1 &&& (2147483647 : Int32)) % ((x0 &&& (1023 : Int32)) + (1 : Int32)))), .val (.int ((x2 &&& (2147483647 : Int32)) % ((x0 &&& (1023 : Int32)) + (1 : Int32)))), .val (.int (x4 &&& (3 : Int32))), .unset, .unset, .unset, .unset, .unset, .unset] []))
    refine own_back (fun t k => XS.iload X.here hx rfl (hb hby at_45) rfl k) ?_
    show own_Go _ _ _ _ _ _ _ (T.setTop (mkF m 47 #[.val (.int x0), .val (.int x1), .val (.int x2), .val (.int x3), .val (.int x4), .val (.int ((x0 &&& (1023 : Int32)) + (1 : Int32))), .val (.int ((x1 &&& (2147483647 : Int32)) % ((x0 &&& (1023 : Int32)) + (1 : Int32)))), .val (.int ((x2 &&& (2147483647 : Int32)) % ((x0 &&& (1023 : Int32)) + (1 : Int32)))), .val (.int (x4 &&& (3 : Int32))), .unset, .unset, .unset, .unset, .unset, .unset] [(.int (x4 &&& (3 : Int32)))]))
    refine own_back (fun t k => XS.iconst X.here hx rfl (hb hby at_47) k) ?_
    show own_Go _ _ _ _ _ _ _ (T.setTop (mkF m 48 #[.val (.int x0), .val (.int x1), .val (.int x2), .val (.int x3), .val (.int x4), .val (.int ((x0 &&& (1023 : Int32)) + (1 : Int32))), .val (.int ((x1 &&& (2147483647 : Int32)) % ((x0 &&& (1023 : Int32)) + (1 : Int32)))), .val (.int ((x2 &&& (2147483647 : Int32)) % ((x0 &&& (1023 : Int32)) + (1 : Int32)))), .val (.int (x4 &&& (3 : Int32))), .unset, .unset, .unset, .unset, .unset, .unset] [(.int (1 : Int32)), (.int (x4 &&& (3 : Int32)))]))
    by_cases hc48 : (x4 &&& (3 : Int32)) = (1 : Int32)
    · rw [if_pos hc48] at hR
      refine own_back (fun t k => XS.icmpNo X.here hx rfl (hb hby at_48) rfl (teq hc48).2 k) ?_
      show own_Go _ _ _ _ _ _ _ (T.setTop (mkF m 51 #[.val (.int x0), .val (.int x1), .val (.int x2), .val (.int x3), .val (.int x4), .val (.int ((x0 &&& (1023 : Int32)) + (1 : Int32))), .val (.int ((x1 &&& (2147483647 : Int32)) % ((x0 &&& (1023 : Int32)) + (1 : Int32)))), .val (.int ((x2 &&& (2147483647 : Int32)) % ((x0 &&& (1023 : Int32)) + (1 : Int32)))), .val (.int (x4 &&& (3 : Int32))), .unset, .unset, .unset, .unset, .unset, .unset] []))
      refine own_back (fun t k => XS.iload X.here hx rfl (hb hby at_51) rfl k) ?_
      show own_Go _ _ _ _ _ _ _ (T.setTop (mkF m 53 #[.val (.int x0), .val (.int x1), .val (.int x2), .val (.int x3), .val (.int x4), .val (.int ((x0 &&& (1023 : Int32)) + (1 : Int32))), .val (.int ((x1 &&& (2147483647 : Int32)) % ((x0 &&& (1023 : Int32)) + (1 : Int32)))), .val (.int ((x2 &&& (2147483647 : Int32)) % ((x0 &&& (1023 : Int32)) + (1 : Int32)))), .val (.int (x4 &&& (3 : Int32))), .unset, .unset, .unset, .unset, .unset, .unset] [(.int ((x2 &&& (2147483647 : Int32)) % ((x0 &&& (1023 : Int32)) + (1 : Int32))))]))
      refine own_back (fun t k => XS.istore X.here hx rfl (hb hby at_53) rfl (l' := #[.val (.int x0), .val (.int x1), .val (.int x2), .val (.int x3), .val (.int x4), .val (.int ((x0 &&& (1023 : Int32)) + (1 : Int32))), .val (.int ((x1 &&& (2147483647 : Int32)) % ((x0 &&& (1023 : Int32)) + (1 : Int32)))), .val (.int ((x2 &&& (2147483647 : Int32)) % ((x0 &&& (1023 : Int32)) + (1 : Int32)))), .val (.int (x4 &&& (3 : Int32))), .val (.int ((x2 &&& (2147483647 : Int32)) % ((x0 &&& (1023 : Int32)) + (1 : Int32)))), .unset, .unset, .unset, .unset, .unset]) rfl k) ?_
      show own_Go _ _ _ _ _ _ _ (T.setTop (mkF m 55 #[.val (.int x0), .val (.int x1), .val (.int x2), .val (.int x3), .val (.int x4), .val (.int ((x0 &&& (1023 : Int32)) + (1 : Int32))), .val (.int ((x1 &&& (2147483647 : Int32)) % ((x0 &&& (1023 : Int32)) + (1 : Int32)))), .val (.int ((x2 &&& (2147483647 : Int32)) % ((x0 &&& (1023 : Int32)) + (1 : Int32)))), .val (.int (x4 &&& (3 : Int32))), .val (.int ((x2 &&& (2147483647 : Int32)) % ((x0 &&& (1023 : Int32)) + (1 : Int32)))), .unset, .unset, .unset, .unset, .unset] []))
      refine own_back (fun t k => XS.goto X.here hx rfl (pc0 := 55) (pc' := 67) rfl (hb hby at_55) (by decide) (by decide) k) ?_
      show own_Go _ _ _ _ _ _ _ (T.setTop (mkF m 67 #[.val (.int x0), .val (.int x1), .val (.int x2), .val (.int x3), .val (.int x4), .val (.int ((x0 &&& (1023 : Int32)) + (1 : Int32))), .val (.int ((x1 &&& (2147483647 : Int32)) % ((x0 &&& (1023 : Int32)) + (1 : Int32)))), .val (.int ((x2 &&& (2147483647 : Int32)) % ((x0 &&& (1023 : Int32)) + (1 : Int32)))), .val (.int (x4 &&& (3 : Int32))), .val (.int ((x2 &&& (2147483647 : Int32)) % ((x0 &&& (1023 : Int32)) + (1 : Int32)))), .unset, .unset, .unset, .unset, .unset] []))
      exact own_l0_67 X hx hZ hw hby hml hown hret hlk e0 N Z0 x0 x1 x2 x3 x4 ((x0 &&& (1023 : Int32)) + (1 : Int32)) ((x1 &&& (2147483647 : Int32)) % ((x0 &&& (1023 : Int32)) + (1 : Int32))) ((x2 &&& (2147483647 : Int32)) % ((x0 &&& (1023 : Int32)) + (1 : Int32))) (x4 &&& (3 : Int32)) ((x2 &&& (2147483647 : Int32)) % ((x0 &&& (1023 : Int32)) + (1 : Int32))) hR (own_rng_in _ _ _ _)
    · rw [if_neg hc48] at hR
      refine own_back (fun t k => XS.icmpYes X.here hx rfl (pc0 := 48) (pc' := 58) rfl (hb hby at_48) rfl (feq hc48).2 (by decide) (by decide) k) ?_
      show own_Go _ _ _ _ _ _ _ (T.setTop (mkF m 58 #[.val (.int x0), .val (.int x1), .val (.int x2), .val (.int x3), .val (.int x4), .val (.int ((x0 &&& (1023 : Int32)) + (1 : Int32))), .val (.int ((x1 &&& (2147483647 : Int32)) % ((x0 &&& (1023 : Int32)) + (1 : Int32)))), .val (.int ((x2 &&& (2147483647 : Int32)) % ((x0 &&& (1023 : Int32)) + (1 : Int32)))), .val (.int (x4 &&& (3 : Int32))), .unset, .unset, .unset, .unset, .unset, .unset] []))
      refine own_back (fun t k => XS.iloadN X.here hx rfl (hb hby at_58) rfl k) ?_
      show own_Go _ _ _ _ _ _ _ (T.setTop (mkF m 59 #[.val (.int x0), .val (.int x1), .val (.int x2), .val (.int x3), .val (.int x4), .val (.int ((x0 &&& (1023 : Int32)) + (1 : Int32))), .val (.int ((x1 &&& (2147483647 : Int32)) % ((x0 &&& (1023 : Int32)) + (1 : Int32)))), .val (.int ((x2 &&& (2147483647 : Int32)) % ((x0 &&& (1023 : Int32)) + (1 : Int32)))), .val (.int (x4 &&& (3 : Int32))), .unset, .unset, .unset, .unset, .unset, .unset] [(.int x3)]))
      refine own_back (fun t k => X.ldcInt hx hown (mvT hZ (hw _ (List.mem_of_getElem? (i := 0) rfl))) (g := (mkF m 59 #[.val (.int x0), .val (.int x1), .val (.int x2), .val (.int x3), .val (.int x4), .val (.int ((x0 &&& (1023 : Int32)) + (1 : Int32))), .val (.int ((x1 &&& (2147483647 : Int32)) % ((x0 &&& (1023 : Int32)) + (1 : Int32)))), .val (.int ((x2 &&& (2147483647 : Int32)) % ((x0 &&& (1023 : Int32)) + (1 : Int32)))), .val (.int (x4 &&& (3 : Int32))), .unset, .unset, .unset, .unset, .unset, .unset] [(.int x3)])) rfl (hb hby at_59) _ k) ?_
      show own_Go _ _ _ _ _ _ _ (T.setTop (mkF m 61 #[.val (.int x0), .val (.int x1), .val (.int x2), .val (.int x3), .val (.int x4), .val (.int ((x0 &&& (1023 : Int32)) + (1 : Int32))), .val (.int ((x1 &&& (2147483647 : Int32)) % ((x0 &&& (1023 : Int32)) + (1 : Int32)))), .val (.int ((x2 &&& (2147483647 : Int32)) % ((x0 &&& (1023 : Int32)) + (1 : Int32)))), .val (.int (x4 &&& (3 : Int32))), .unset, .unset, .unset, .unset, .unset, .unset] [(.int (2147483647 : Int32)), (.int x3)]))
      refine own_back (fun t k => XS.iand X.here hx rfl (hb hby at_61) rfl k) ?_
      show own_Go _ _ _ _ _ _ _ (T.setTop (mkF m 62 #[.val (.int x0), .val (.int x1), .val (.int x2), .val (.int x3), .val (.int x4), .val (.int ((x0 &&& (1023 : Int32)) + (1 : Int32))), .val (.int ((x1 &&& (2147483647 : Int32)) % ((x0 &&& (1023 : Int32)) + (1 : Int32)))), .val (.int ((x2 &&& (2147483647 : Int32)) % ((x0 &&& (1023 : Int32)) + (1 : Int32)))), .val (.int (x4 &&& (3 : Int32))), .unset, .unset, .unset, .unset, .unset, .unset] [(.int (x3 &&& (2147483647 : Int32)))]))
      refine own_back (fun t k => XS.iload X.here hx rfl (hb hby at_62) rfl k) ?_
      show own_Go _ _ _ _ _ _ _ (T.setTop (mkF m 64 #[.val (.int x0), .val (.int x1), .val (.int x2), .val (.int x3), .val (.int x4), .val (.int ((x0 &&& (1023 : Int32)) + (1 : Int32))), .val (.int ((x1 &&& (2147483647 : Int32)) % ((x0 &&& (1023 : Int32)) + (1 : Int32)))), .val (.int ((x2 &&& (2147483647 : Int32)) % ((x0 &&& (1023 : Int32)) + (1 : Int32)))), .val (.int (x4 &&& (3 : Int32))), .unset, .unset, .unset, .unset, .unset, .unset] [(.int ((x0 &&& (1023 : Int32)) + (1 : Int32))), (.int (x3 &&& (2147483647 : Int32)))]))
      refine own_back (B := T.setTop (mkF m 65 #[.val (.int x0), .val (.int x1), .val (.int x2), .val (.int x3), .val (.int x4), .val (.int ((x0 &&& (1023 : Int32)) + (1 : Int32))), .val (.int ((x1 &&& (2147483647 : Int32)) % ((x0 &&& (1023 : Int32)) + (1 : Int32)))), .val (.int ((x2 &&& (2147483647 : Int32)) % ((x0 &&& (1023 : Int32)) + (1 : Int32)))), .val (.int (x4 &&& (3 : Int32))), .unset, .unset, .unset, .unset, .unset, .unset] [(.int ((x3 &&& (2147483647 : Int32)) % ((x0 &&& (1023 : Int32)) + (1 : Int32))))])) (fun t k => XS.irem X.here hx rfl (hb hby at_64) rfl (own_cnz x0) (by rw [irem_eq_mod]; exact k)) ?_
      show own_Go _ _ _ _ _ _ _ (T.setTop (mkF m 65 #[.val (.int x0), .val (.int x1), .val (.int x2), .val (.int x3), .val (.int x4), .val (.int ((x0 &&& (1023 : Int32)) + (1 : Int32))), .val (.int ((x1 &&& (2147483647 : Int32)) % ((x0 &&& (1023 : Int32)) + (1 : Int32)))), .val (.int ((x2 &&& (2147483647 : Int32)) % ((x0 &&& (1023 : Int32)) + (1 : Int32)))), .val (.int (x4 &&& (3 : Int32))), .unset, .unset, .unset, .unset, .unset, .unset] [(.int ((x3 &&& (2147483647 : Int32)) % ((x0 &&& (1023 : Int32)) + (1 : Int32))))]))
      refine own_back (fun t k => XS.istore X.here hx rfl (hb hby at_65) rfl (l' := #[.val (.int x0), .val (.int x1), .val (.int x2), .val (.int x3), .val (.int x4), .val (.int ((x0 &&& (1023 : Int32)) + (1 : Int32))), .val (.int ((x1 &&& (2147483647 : Int32)) % ((x0 &&& (1023 : Int32)) + (1 : Int32)))), .val (.int ((x2 &&& (2147483647 : Int32)) % ((x0 &&& (1023 : Int32)) + (1 : Int32)))), .val (.int (x4 &&& (3 : Int32))), .val (.int ((x3 &&& (2147483647 : Int32)) % ((x0 &&& (1023 : Int32)) + (1 : Int32)))), .unset, .unset, .unset, .unset, .unset]) rfl k) ?_
      show own_Go _ _ _ _ _ _ _ (T.setTop (mkF m 67 #[.val (.int x0), .val (.int x1), .val (.int x2), .val (.int x3), .val (.int x4), .val (.int ((x0 &&& (1023 : Int32)) + (1 : Int32))), .val (.int ((x1 &&& (2147483647 : Int32)) % ((x0 &&& (1023 : Int32)) + (1 : Int32)))), .val (.int ((x2 &&& (2147483647 : Int32)) % ((x0 &&& (1023 : Int32)) + (1 : Int32)))), .val (.int (x4 &&& (3 : Int32))), .val (.int ((x3 &&& (2147483647 : Int32)) % ((x0 &&& (1023 : Int32)) + (1 : Int32)))), .unset, .unset, .unset, .unset, .unset] []))
      exact own_l0_67 X hx hZ hw hby hml hown hret hlk e0 N Z0 x0 x1 x2 x3 x4 ((x0 &&& (1023 : Int32)) + (1 : Int32)) ((x1 &&& (2147483647 : Int32)) % ((x0 &&& (1023 : Int32)) + (1 : Int32))) ((x2 &&& (2147483647 : Int32)) % ((x0 &&& (1023 : Int32)) + (1 : Int32))) (x4 &&& (3 : Int32)) ((x3 &&& (2147483647 : Int32)) % ((x0 &&& (1023 : Int32)) + (1 : Int32))) hR (own_rng_in _ _ _ _)
theorem own_pn0 : plainName "com/example/furl/furl/tree/PositionCountsContainsPinLaw" = true := by first | (simp [plainName, overriddenIn]; done) | decide +kernel
theorem own_ef0 (m : MethodId) (x0 : Int32) (x1 : Int32) (x2 : Int32) (x3 : Int32) (x4 : Int32) : entryFrame m #[(.int x0), (.int x1), (.int x2), (.int x3), (.int x4)] maxLocals = mkF m 0 #[.val (.int x0), .val (.int x1), .val (.int x2), .val (.int x3), .val (.int x4), .unset, .unset, .unset, .unset, .unset, .unset, .unset, .unset, .unset, .unset] [] := by first | (simp [entryFrame, mkF, argsToLocals, Value.category, maxLocals]; done) | rfl
set_option maxRecDepth 65536 in
set_option maxHeartbeats 4000000 in
theorem own_rm0 (l : Launch) (Z : State) (a0 : Array Value) (hw : ∀ d ∈ tables_1, d.before a0 Z = true) (ws : List Jvm.Cond) (x0 : Int32) (x1 : Int32) (x2 : Int32) (x3 : Int32) (x4 : Int32) (h0 : Heap) (n0 : Nat) (Z0 : n0 ≤ h0.size) :
    MetFree l x (head1 (Jvm.Cond.code x code maxLocals ret :: ws) room_1) (fun a U => a = #[(.int x0), (.int x1), (.int x2), (.int x3), (.int x4)] ∧ Z.Warmed39 U.vm ∧ U.heap = h0) (fun _ _ _ _ _ => True) (fun _ U o U' => ∃ v L, o = .returned v ∧ own_QG (.int (own_f0_0 x0 x1 x2 x3 x4)) h0 n0 v U'.heap L ∧ FrameEnd U o U' L room_1.cells room_1.slots) := by
  refine MetFree.of_bodySF (plainFor_of_name own_pn0) hisR ?_
  intro p e s m args below meth c s₁ Bd hml0 hP hK
  obtain ⟨rfl, hZ, hh⟩ := hP
  have X0 : Stand p l e room_1 s m #[(.int x0), (.int x1), (.int x2), (.int x3), (.int x4)] below meth c s₁ [] 0 0 := Stand.of_body Bd
  have e0 : s₁.heap = h0 := by rw [← hh, Bd.state]; rfl
  refine own_back (s := s) (fun t k => castTop (own_ef0 m x0 x1 x2 x3 x4) k) ?_
  exact own_l0_0 X0 Bd.exec hZ hw Bd.bytes hml0 (findClass_of_methodNamed Bd.named) Bd.returns (BodyLoose.notSynchronized Bd) e0 (Fr.nil n0) Z0 x0 x1 x2 x3 x4 rfl
theorem own_nb (N n : Nat) : N &&& 2 ^ n = 0 ↔ N.testBit n = false := by
  constructor
  · intro h
    have q : (N &&& 2 ^ n).testBit n = false := by rw [h, Nat.zero_testBit]
    rwa [Nat.testBit_and, Nat.testBit_two_pow_self, Bool.and_true] at q
  · intro h
    refine Nat.eq_of_testBit_eq fun i => ?_
    rw [Nat.testBit_and, Nat.zero_testBit]
    by_cases q : n = i
    · rw [← q, h, Bool.false_and]
    · rw [Nat.testBit_two_pow_of_ne q, Bool.and_false]
/-- a nonnegative int's bits are its number's -/
theorem own_nat {x : Int32} (h : ¬ x < 0) : x.toBitVec.toNat = x.toNatClampNeg := by
  have z : (0 : Int32).toInt = 0 := rfl
  have g : ¬ x.toInt < 0 := fun q => h (own_lt.mpr (by omega))
  have e : x.toNatClampNeg = x.toBitVec.toInt.toNat := rfl
  have g' : ¬ x.toBitVec.toInt < 0 := g
  rw [e]
  rw [BitVec.toInt_eq_toNat_cond] at g' ⊢
  have := x.toBitVec.isLt
  split at g' <;> split <;> omega
theorem own_one_shl {x : Int32} (h : ¬ x < 0) : ((1 : Int64) <<< (x &&& 0x3f).toInt64).toBitVec.toNat = 2 ^ (x.toNatClampNeg % 64) := by
  obtain ⟨e1, hn⟩ := sm64 x (x.toNatClampNeg % 64) (by rw [own_nat h])
  show (1#64 <<< ((x &&& 0x3f).toInt64.toBitVec.smod 64)).toNat = _
  rw [BitVec.shiftLeft_eq', e1, smod64 _ hn, BitVec.toNat_shiftLeft, Nat.shiftLeft_eq, show (1#64).toNat = 1 from rfl, Nat.one_mul]
  exact Nat.mod_eq_of_lt (Nat.pow_lt_pow_right (by decide) hn)
/-- whether the position x is counted -/
def own_mem (B : Nat → Int64) (x : Int32) : Bool := (B (x.toNatClampNeg / 64)).toBitVec.toNat.testBit (x.toNatClampNeg % 64)
theorem own_has (B : Nat → Int64) {x : Int32} (h : ¬ x < 0) : own_f3_0 B x = if own_mem B x = true then (1 : Int32) else (0 : Int32) := by
  unfold own_f3_0 own_mem
  rw [own_sh6 h, (own_clamp (by have := own_hb x; omega)).2]
  have k : (B (x.toNatClampNeg / 64) &&& ((1 : Int64) <<< (x &&& 0x3f).toInt64)) = 0 ↔ (B (x.toNatClampNeg / 64)).toBitVec.toNat.testBit (x.toNatClampNeg % 64) = false := by
    rw [← Int64.toBitVec_inj, ← BitVec.toNat_inj, ← own_nb, ← own_one_shl h]
    show ((B (x.toNatClampNeg / 64)).toBitVec &&& ((1 : Int64) <<< (x &&& 0x3f).toInt64).toBitVec).toNat = 0 ↔ _
    rw [BitVec.toNat_and]
  by_cases c : (B (x.toNatClampNeg / 64) &&& ((1 : Int64) <<< (x &&& 0x3f).toInt64)) = 0
  · rw [if_pos ((lw_eq _ _).mpr c), k.mp c, if_neg (by decide)]
  · rw [if_neg (fun q => c ((lw_eq _ _).mp q)), if_pos]
    exact Bool.of_not_eq_false fun q => c (k.mpr q)
theorem own_mem0 (x : Int32) : own_mem (fun _ => (0 : Int64)) x = false := by
  show Nat.testBit 0 _ = false
  exact Nat.zero_testBit _
theorem own_inj {x y : Int32} (hx : ¬ x < 0) (hy : ¬ y < 0) (h : x.toNatClampNeg = y.toNatClampNeg) : x = y := by rw [own_hp hx, own_hp hy, h]
theorem own_mem_tog (B : Nat → Int64) {x y : Int32} (hx : ¬ x < 0) (hy : ¬ y < 0) : own_mem (own_tog B x) y = (own_mem B y ^^ decide (y = x)) := by
  unfold own_mem own_tog
  by_cases q : y.toNatClampNeg / 64 = x.toNatClampNeg / 64
  · rw [if_pos q]
    show ((B (x.toNatClampNeg / 64)).toBitVec ^^^ ((1 : Int64) <<< (x &&& 0x3f).toInt64).toBitVec).toNat.testBit _ = _
    rw [BitVec.toNat_xor, Nat.testBit_xor, own_one_shl hx, q, Nat.testBit_two_pow]
    congr 1
    by_cases r : y = x
    · subst r; simp
    · have : ¬ x.toNatClampNeg % 64 = y.toNatClampNeg % 64 := fun z => r (own_inj hy hx (by omega))
      simp [this, r]
  · rw [if_neg q]
    have r : ¬ y = x := fun z => q (by rw [z])
    simp [r]
theorem own_p79 (i0 i1 i2 i3 i4 i5 i6 i7 i8 i9 t0 : Int32) (HR : own_rng i5 i6 i7 i9) : own_f0_79 i0 i1 i2 i3 i4 i5 i6 i7 i8 i9 t0 = 1 := by
  obtain ⟨-, -, -, ⟨h6, -⟩, ⟨h7, -⟩, ⟨h9, -⟩⟩ := HR
  unfold own_f0_79 own_f0_124 own_f0_137 own_f0_158 own_f0_172 own_f0_176 own_f0_177
  simp only [own_has _ h9, own_mem_tog _ h6 h9, own_mem_tog _ h7 h9, own_mem0]
  by_cases a : i7 = i6
  · subst a
    by_cases b : t0 = 0 <;> by_cases c : i9 = i7 <;> simp [b, c]
  · by_cases b : t0 = 0 <;> by_cases c : i9 = i6
    · have d : ¬ i6 = i7 := fun z => a z.symm
      subst c
      simp [b, a, d]
    · by_cases d : i9 = i7 <;> simp [a, b, c, d]
    · have d : ¬ i6 = i7 := fun z => a z.symm
      subst c
      simp [b, a, d]
    · by_cases d : i9 = i7 <;> simp [a, b, c, d]
theorem own_plain (x0 x1 x2 x3 x4 : Int32) : own_f0_0 x0 x1 x2 x3 x4 = 1 := by
  unfold own_f0_0 own_f0_67
  simp only [own_p79 _ _ _ _ _ _ _ _ _ _ _ (own_rng_in _ _ _ _), ite_self]
set_option maxRecDepth 65536 in
set_option maxHeartbeats 4000000 in
theorem own_comes {Post : Tables → Env → Array Value → State → Outcome → State → Prop} (hpost : ∀ tb e args s v u, (limb_1_1.after args s (.returned v) u = true ∧ limb_1_2.after args s (.returned v) u = true) → FrameEnd s (.returned v) u (Jvm.fieldLocs frame_1_writes args s ++ Jvm.arrayLocs frame_1_arrays args s ++ Jvm.staticLocs frame_1_statics s) 16 192 → Post tb e args s (.returned v) u) :
    ArmFor flags0 classFile x code maxLocals ret World_1 tables_1 room_1 Calls_1 rest_1 Pre_1 Post := by
  intro l hfl _ _ p e ha hc hk s m args below hf hA hF happ hP
  obtain ⟨hcalls, hrest, hpre⟩ := hP
  obtain ⟨-, -, -, hnamed, -, -, -, hat⟩ := (Spec.applies_iff hf).mp happ
  obtain ⟨hg, hn⟩ := and_e (Cond.before_iff.mp (show (Jvm.Cond.and given_1 narrow_1).before args s = true from hpre))
  obtain ⟨hcnt, hg0⟩ := and_e hg
  obtain ⟨ha0, hg1⟩ := and_e hg0
  obtain ⟨ha1, hg2⟩ := and_e hg1
  obtain ⟨ha2, hg3⟩ := and_e hg2
  obtain ⟨ha3, hg4⟩ := and_e hg3
  have ha4 := hg4
  obtain ⟨w0, w1, w2, w3, w4, rfl⟩ : ∃ w0 w1 w2 w3 w4 : Value, args = #[w0, w1, w2, w3, w4] := by
    have hs : args.size = 5 := by simpa [Cond.value, given_1] using hcnt
    obtain ⟨L⟩ := args
    match L, hs with
    | [w0, w1, w2, w3, w4], _ => exact ⟨w0, w1, w2, w3, w4, rfl⟩
  have hw := fun d (hd : d ∈ tables_1) => atoms_spec (ws := Jvm.Cond.code x code maxLocals ret :: tables_1) hat d (List.mem_cons_of_mem _ hd)
  obtain ⟨v0, ev0⟩ := is_v ha0
  obtain rfl : w0 = (.int v0) := Option.some.inj ev0
  obtain ⟨v1, ev1⟩ := is_v ha1
  obtain rfl : w1 = (.int v1) := Option.some.inj ev1
  obtain ⟨v2, ev2⟩ := is_v ha2
  obtain rfl : w2 = (.int v2) := Option.some.inj ev2
  obtain ⟨v3, ev3⟩ := is_v ha3
  obtain rfl : w3 = (.int v3) := Option.some.inj ev3
  obtain ⟨v4, ev4⟩ := is_v ha4
  obtain rfl : w4 = (.int v4) := Option.some.inj ev4
  obtain ⟨n, o, h1, h2, h3, _, L, rfl, ⟨rfl, N, _⟩, hq⟩ := own_rm0 l s _ hw tables_1 v0 v1 v2 v3 v4 s.heap s.heap.size (Nat.le_refl _) p e ha hc hk s m _ below hf ((Spec.applies_iff_loose hf).mp happ).1 ⟨rfl, State.Warmed39.refl s, rfl⟩ trivial
  refine ⟨n, _, h1, h2, h3, hpost _ _ _ _ _ _ ⟨Cond.after_iff.mpr rfl, Cond.after_iff.mpr (eq_i res_at (Term.int_eval (1)) (congrArg Value.int (own_plain v0 v1 v2 v3 v4)))⟩ ⟨hq.1, hq.2.1, (hq.2.2.sift fun y hy => Or.inr (N y hy)).mono (by decide) (by decide)⟩⟩
theorem main_1_1 : Claimed_1_1 := own_comes fun _ _ _ _ _ _ h hF => ⟨h.1, hF⟩
theorem main_1_2 : Claimed_1_2 := own_comes fun _ _ _ _ _ _ h hF => ⟨h.2, hF⟩
end Jvm.Pilot.@@N@@
namespace Jvm.Pilot.@@N@@
open Jvm Jvm.ClassFile Sem Op Lib Jvm.Free Jvm.Stand Jvm.Pilot.@@N@@.Jvm.D
/-! MADE BY PROGRAM (witnessworld.py) out of the Statement's table words and the real class files: 11 classes; the members and pool entries that the words name. The judged class is class 1, her method 1. -/
namespace start1
open Jvm.ClassFile
def u (s : String) : CpInfo := .utf8 (stringToUtf16 s)
/-- a pool by its gaps: so many unusable entries, then the entry; so many at the end -/
def gap : Nat → List CpInfo → List CpInfo
  | 0, r => r
  | n + 1, r => .unusable :: gap n r
def poolList (es : List (Nat × CpInfo)) (last : Nat) : List CpInfo := es.foldr (fun e r => gap e.1 (e.2 :: r)) (gap last [])
def pool (es : List (Nat × CpInfo)) (last : Nat) : Array CpInfo := ⟨poolList es last⟩
def fileOf (pool : Array CpInfo) (this : Nat) (attrs : Array Attribute := #[]) (ms : Array MethodInfo := #[]) (fl : Nat := 33) (sup : Nat := 0) (ifs : Array Nat := #[]) (fds : Array FieldInfo := #[]) : ClassFile where
  minorVersion := 0
  majorVersion := 65
  constantPool := pool
  accessFlags := fl
  thisClass := this
  superClass := sup
  interfaces := ifs
  fields := fds
  methods := ms
  attributes := attrs
def plain (name : String) (sup : Option ClassId) : Class where
  name := name
  kind := .ordinary
  loader := none
  accessFlags := 33
  super := sup
  interfaces := #[]
  cf := none
  fields := #[]
  methods := #[]
  instanceTypes := #[]
  staticTypes := #[]
  resolved := #[]
  callSites := []
  init := .initialized
  statics := none
  mirror := none

def pool0 : Array CpInfo := pool [(5, u "<init>"), (0, u "()V"), (1, .class_ 10), (1, u "java/lang/Object")] 113

def k0c0 : Code := { maxStack := 0, maxLocals := 1, code := object_method_1_code, exceptionTable := #[], attributes := #[] }
def k0m0 : Method := { name := "<init>", desc := "()V", sig := { parameters := [], returnType := none }, accessFlags := 1, code := some k0c0 }
/-- java/lang/Object -/
def k0 : Class := { plain "java/lang/Object" none with
  accessFlags := 33
  interfaces := #[]
  cf := some (fileOf pool0 8 #[] #[{ accessFlags := 1, nameIndex := 5, descriptorIndex := 6, attributes := #[] }] 33 0 #[] #[])
  fields := #[]
  methods := #[k0m0]
  instanceTypes := #[]
  staticTypes := #[]
  resolved := Array.replicate 124 none
  statics := none }

def pool1 : Array CpInfo := pool [(2, .class_ 4), (1, u "java/lang/Object"), (0, u "<init>"), (0, u "()V"), (0, .integer 2147483647), (0, .class_ 9), (0, u "com/example/furl/furl/tree/PositionCounts"), (0, .methodref 8 11), (0, .nameAndType 5 12), (0, u "(I)V"), (0, .methodref 8 14), (0, .nameAndType 15 16), (0, u "contains"), (0, u "(I)Z"), (0, .methodref 8 18), (0, .nameAndType 19 20), (0, u "add"), (0, u "(II)V"), (0, .class_ 22), (0, u "com/example/furl/furl/tree/PositionCountsContainsPinLaw"), (2, u "law"), (0, u "(IIIII)Z")] 3

def k1m0 : Method := { name := "<init>", desc := "()V", sig := { parameters := [], returnType := none }, accessFlags := 1, code := none }
def k1c1 : Code := { maxStack := 3, maxLocals := 15, code := code, exceptionTable := #[], attributes := #[] }
def k1m1 : Method := { name := "law", desc := "(IIIII)Z", sig := { parameters := [.int, .int, .int, .int, .int], returnType := some .boolean }, accessFlags := 9, code := some k1c1 }
/-- com/example/furl/furl/tree/PositionCountsContainsPinLaw -/
def k1 : Class := { plain "com/example/furl/furl/tree/PositionCountsContainsPinLaw" (some 0) with
  accessFlags := 49
  interfaces := #[]
  cf := some (fileOf pool1 21 #[] #[{ accessFlags := 1, nameIndex := 5, descriptorIndex := 6, attributes := #[] }, { accessFlags := 9, nameIndex := 25, descriptorIndex := 26, attributes := #[] }] 49 2 #[] #[])
  fields := #[]
  methods := #[k1m0, k1m1]
  instanceTypes := #[]
  staticTypes := #[]
  resolved := Array.replicate 30 none
  statics := none }

def pool2 : Array CpInfo := pool [(1, .methodref 2 3), (0, .class_ 4), (0, .nameAndType 5 6), (0, u "java/lang/Object"), (0, u "<init>"), (0, u "()V"), (0, .fieldref 8 9), (0, .class_ 10), (0, .nameAndType 11 12), (0, u "com/example/furl/furl/tree/PositionCounts"), (0, u "bits"), (0, u "[J"), (0, .fieldref 8 14), (0, .nameAndType 15 16), (0, u "words"), (0, u "[I"), (12, u "(I)V"), (2, u "add"), (0, u "(II)V"), (1, u "contains"), (0, u "(I)Z")] 4

def k2c0 : Code := { maxStack := 3, maxLocals := 2, code := prog_112_method_1_code, exceptionTable := #[], attributes := #[] }
def k2m0 : Method := { name := "<init>", desc := "(I)V", sig := { parameters := [.int], returnType := none }, accessFlags := 0, code := some k2c0 }
def k2c1 : Code := { maxStack := 7, maxLocals := 4, code := prog_112_method_2_code, exceptionTable := #[], attributes := #[] }
def k2m1 : Method := { name := "add", desc := "(II)V", sig := { parameters := [.int, .int], returnType := none }, accessFlags := 0, code := some k2c1 }
def k2c2 : Code := { maxStack := 5, maxLocals := 2, code := prog_112_method_3_code, exceptionTable := #[], attributes := #[] }
def k2m2 : Method := { name := "contains", desc := "(I)Z", sig := { parameters := [.int], returnType := some .boolean }, accessFlags := 0, code := some k2c2 }
/-- com/example/furl/furl/tree/PositionCounts -/
def k2 : Class := { plain "com/example/furl/furl/tree/PositionCounts" (some 0) with
  accessFlags := 48
  interfaces := #[]
  cf := some (fileOf pool2 8 #[] #[{ accessFlags := 0, nameIndex := 5, descriptorIndex := 29, attributes := #[] }, { accessFlags := 0, nameIndex := 32, descriptorIndex := 33, attributes := #[] }, { accessFlags := 0, nameIndex := 35, descriptorIndex := 36, attributes := #[] }] 48 2 #[] #[{ accessFlags := 18, nameIndex := 11, descriptorIndex := 12, attributes := #[] }, { accessFlags := 18, nameIndex := 15, descriptorIndex := 16, attributes := #[] }])
  fields := #[{ name := "bits", type := (.array .long), accessFlags := 18, slot := 0, constantValue := 0 }, { name := "words", type := (.array .int), accessFlags := 18, slot := 1, constantValue := 0 }]
  methods := #[k2m0, k2m1, k2m2]
  instanceTypes := #[(.array .long), (.array .int)]
  staticTypes := #[]
  resolved := Array.replicate 41 none
  statics := none }

def pool3 : Array CpInfo := pool [(1, u "java/lang/Cloneable"), (0, .class_ 1), (0, u "java/lang/Object"), (0, .class_ 3)] 3

/-- java/lang/Cloneable -/
def k3 : Class := { plain "java/lang/Cloneable" (some 0) with
  accessFlags := 1537
  interfaces := #[]
  cf := some (fileOf pool3 2 #[] #[] 1537 4 #[] #[])
  fields := #[]
  methods := #[]
  instanceTypes := #[]
  staticTypes := #[]
  resolved := Array.replicate 8 none
  statics := none }

def pool4 : Array CpInfo := pool [(1, u "java/io/Serializable"), (0, .class_ 1), (0, u "java/lang/Object"), (0, .class_ 3)] 3

/-- java/io/Serializable -/
def k4 : Class := { plain "java/io/Serializable" (some 0) with
  accessFlags := 1537
  interfaces := #[]
  cf := some (fileOf pool4 2 #[] #[] 1537 4 #[] #[])
  fields := #[]
  methods := #[]
  instanceTypes := #[]
  staticTypes := #[]
  resolved := Array.replicate 8 none
  statics := none }

/-- the primitive byte -/
def k5 : Class := { plain "byte" none with kind := .primitive 'B', accessFlags := 0x411 }
/-- [B -/
def k6 : Class := { plain "[B" (some 0) with kind := .array 5 .byte, interfaces := #[3, 4], accessFlags := 1041 }

/-- the primitive int -/
def k7 : Class := { plain "int" none with kind := .primitive 'I', accessFlags := 0x411 }
/-- [I -/
def k8 : Class := { plain "[I" (some 0) with kind := .array 7 .int, interfaces := #[3, 4], accessFlags := 1041 }

/-- the primitive long -/
def k9 : Class := { plain "long" none with kind := .primitive 'J', accessFlags := 0x411 }
/-- [J -/
def k10 : Class := { plain "[J" (some 0) with kind := .array 9 .long, interfaces := #[3, 4], accessFlags := 1041 }

def heap : Heap := #[]
def classes : Array Class := #[k0, k1, k2, k3, k4, k5, k6, k7, k8, k9, k10]
def interned : List (Array UInt16 × Addr) := []
def slotsUsed : Nat := 0
def theMethod : MethodId := ⟨1, 1⟩
def args0 : Array Value := #[.int 5, .int 7, .int 5, .int 7, .int 5]
def aboutOver (below : List Frame) : State where
  vm := { classes := classes, interned := interned.toArray }
  heap := heap
  slotsUsed := slotsUsed
  threads := #[{ frames := .invoking theMethod args0 :: below }]
def below0 : List Frame := [.native { method := ⟨0, 0⟩, args := #[] }]
def about1 : State := aboutOver below0
def p0 : Program := .bare "" "" ""
def e0 : Env := launch0.env 0 0 0
theorem w_frames : about1.frames = Frame.invoking theMethod args0 :: below0 := rfl
set_option maxRecDepth 65536 in
theorem w_args : argsFit about1.vm theMethod args0 = true := by decide +kernel
set_option maxRecDepth 65536 in
theorem w_heap : heapFits about1 = true := by decide +kernel
set_option maxRecDepth 65536 in
theorem w_runnable : about1.curStatus? = some .runnable := by decide +kernel
set_option maxRecDepth 65536 in
theorem w_alone : about1.alone = true := by decide +kernel
set_option maxRecDepth 65536 in
theorem w_named : about1.methodNamed? x = some theMethod := by decide +kernel
set_option maxRecDepth 65536 in
theorem w_hears : about1.hears theMethod below0 = true := by decide +kernel
set_option maxRecDepth 65536 in
theorem w_ripe : about1.ripe theMethod args0 below0 = true := by decide +kernel
theorem w_running : about1.status = .running := rfl
set_option maxRecDepth 65536 in
theorem w_room : about1.hasRoom e0.platform room_1 = true :=
  launch0.hasRoom_least _ room_1 (by decide +kernel) (by decide +kernel) (by decide +kernel) (by decide +kernel) (by decide +kernel) (by decide +kernel)
theorem allAtoms_all (ts : List Jvm.Cond) (a : Array Jvm.Value) (st : Jvm.State) : (allAtoms ts).before a st = ts.all (fun c => c.before a st) := by
  induction ts with
  | nil => rfl
  | cons c t ih =>
    show (Jvm.Cond.and c (allAtoms t)).before a st = _
    rw [Jvm.Cond.before_and, ih, List.all_cons]
def words1 : List Jvm.Cond := Jvm.Cond.code x code maxLocals ret :: tables_1
/-- a 'code' word, met by the world's own term for the bytes: nothing is compared byte by byte -/
theorem code_word {y : MethodName} {bytes : ByteArray} {mx : Nat} {rt : Option FieldType} {a : Array Value} {s : State} {m : MethodId} {meth : Method} {c : Code} (h1 : s.methodNamed? y = some m) (h2 : s.vm.method? m = some meth) (h3 : meth.code = some c) (h4 : c.code = bytes)
    (h5 : (c.maxLocals == mx && c.exceptionTable.isEmpty && decide (c.maxStack ≤ mostOperands) && decide (meth.sig.returnType = rt) && !meth.locks && decide (parseMethodDescriptor y.desc = some meth.sig)) = true) : (Jvm.Cond.code y bytes mx rt).before a s = true := by
  simp only [Bool.and_eq_true, beq_iff_eq, Bool.not_eq_true', decide_eq_true_eq] at h5
  obtain ⟨⟨⟨⟨⟨g1, g2⟩, g3⟩, g4⟩, g5⟩, g6⟩ := h5
  simp [Cond.before, Cond.holds, Cond.value, h1, h2, h3, h4, g1, g2, g3, g4, g5, g6]
def isCode : Jvm.Cond → Bool
  | .code _ _ _ _ => true
  | _ => false
theorem all_split {L : List Jvm.Cond} {P : Jvm.Cond → Bool} (h1 : L.all (fun c => isCode c || P c) = true) (h2 : ∀ c ∈ L.filter isCode, P c = true) : L.all P = true := by
  refine List.all_eq_true.mpr fun c hc => ?_
  have h := List.all_eq_true.mp h1 c hc
  rcases Bool.eq_false_or_eq_true (isCode c) with hi | hi
  · exact h2 c (List.mem_filter.mpr ⟨hc, hi⟩)
  · simpa [hi] using h
set_option maxRecDepth 65536 in
theorem w_c0 : (Jvm.Cond.code x code maxLocals ret).before args0 about1 = true := code_word (m := ⟨1, 1⟩) (meth := k1m1) (c := k1c1) (by decide +kernel) rfl rfl rfl (by decide +kernel)
set_option maxRecDepth 65536 in
theorem w_c1 : (Jvm.Cond.code ({ cls := "com/example/furl/furl/tree/PositionCounts", name := "<init>", desc := "(I)V" } : Jvm.MethodName) prog_112_method_1_code (2 : Nat) (Option.none : Option Jvm.ClassFile.FieldType)).before args0 about1 = true := code_word (m := ⟨2, 0⟩) (meth := k2m0) (c := k2c0) (by decide +kernel) rfl rfl rfl (by decide +kernel)
set_option maxRecDepth 65536 in
theorem w_c2 : (Jvm.Cond.code ({ cls := "java/lang/Object", name := "<init>", desc := "()V" } : Jvm.MethodName) object_method_1_code (1 : Nat) (Option.none : Option Jvm.ClassFile.FieldType)).before args0 about1 = true := code_word (m := ⟨0, 0⟩) (meth := k0m0) (c := k0c0) (by decide +kernel) rfl rfl rfl (by decide +kernel)
set_option maxRecDepth 65536 in
theorem w_c3 : (Jvm.Cond.code ({ cls := "com/example/furl/furl/tree/PositionCounts", name := "contains", desc := "(I)Z" } : Jvm.MethodName) prog_112_method_3_code (2 : Nat) (Option.some Jvm.ClassFile.FieldType.boolean)).before args0 about1 = true := code_word (m := ⟨2, 2⟩) (meth := k2m2) (c := k2c2) (by decide +kernel) rfl rfl rfl (by decide +kernel)
set_option maxRecDepth 65536 in
theorem w_c4 : (Jvm.Cond.code ({ cls := "com/example/furl/furl/tree/PositionCounts", name := "add", desc := "(II)V" } : Jvm.MethodName) prog_112_method_2_code (4 : Nat) (Option.none : Option Jvm.ClassFile.FieldType)).before args0 about1 = true := code_word (m := ⟨2, 1⟩) (meth := k2m1) (c := k2c1) (by decide +kernel) rfl rfl rfl (by decide +kernel)
def codes1 : List Jvm.Cond := [Jvm.Cond.code x code maxLocals ret, Jvm.Cond.code ({ cls := "com/example/furl/furl/tree/PositionCounts", name := "<init>", desc := "(I)V" } : Jvm.MethodName) prog_112_method_1_code (2 : Nat) (Option.none : Option Jvm.ClassFile.FieldType), Jvm.Cond.code ({ cls := "java/lang/Object", name := "<init>", desc := "()V" } : Jvm.MethodName) object_method_1_code (1 : Nat) (Option.none : Option Jvm.ClassFile.FieldType), Jvm.Cond.code ({ cls := "com/example/furl/furl/tree/PositionCounts", name := "contains", desc := "(I)Z" } : Jvm.MethodName) prog_112_method_3_code (2 : Nat) (Option.some Jvm.ClassFile.FieldType.boolean), Jvm.Cond.code ({ cls := "com/example/furl/furl/tree/PositionCounts", name := "add", desc := "(II)V" } : Jvm.MethodName) prog_112_method_2_code (4 : Nat) (Option.none : Option Jvm.ClassFile.FieldType)]
set_option maxRecDepth 65536 in
theorem codes_eq : words1.filter isCode = codes1 := rfl
theorem w_codes : ∀ c ∈ words1.filter isCode, c.before args0 about1 = true := by
  rw [codes_eq]
  intro c hc
  simp only [codes1, List.mem_cons, List.not_mem_nil, or_false] at hc
  rcases hc with rfl | rfl | rfl | rfl | rfl
  · exact w_c0
  · exact w_c1
  · exact w_c2
  · exact w_c3
  · exact w_c4
set_option maxRecDepth 65536 in
theorem w_t1 : (words1.take 24).all (fun c => isCode c || c.before args0 about1) = true := by decide +kernel
set_option maxRecDepth 65536 in
theorem w_t2 : (words1.drop 24).all (fun c => isCode c || c.before args0 about1) = true := by decide +kernel
theorem w_tables : (allAtoms (Jvm.Cond.code x code maxLocals ret :: tables_1)).before args0 about1 = true := by
  rw [allAtoms_all]
  show words1.all (fun c => c.before args0 about1) = true
  refine all_split ?_ w_codes
  rw [← List.take_append_drop 24 words1, List.all_append, w_t1, w_t2]
  rfl
set_option maxRecDepth 65536 in
theorem w_case : (Jvm.Cond.and given_1 narrow_1).before args0 about1 = true := by decide +kernel
theorem w_applies : (headSpec (Jvm.Cond.code x code maxLocals ret :: tables_1) room_1).applies x e0.platform about1 = true :=
  (Spec.applies_iff w_frames).mpr ⟨w_running, w_runnable, w_alone, w_named, w_hears, w_ripe, w_room, w_tables⟩
theorem atStart : AtStart classFile x code maxLocals ret World_1 tables_1 room_1 Calls_1 rest_1 Pre_1 launch0 p0 e0 about1 theMethod args0 below0 :=
  ⟨lists_1, trivial, launch0.admits_env _ _ _, launch0.least_env, fairChoices_fair.cas, fairChoices_fair.clock, w_frames, w_args, w_heap, w_applies, trivial, trivial, w_case⟩
end start1
theorem witness_1 : WitnessClaimed_1 := ⟨start1.p0, start1.e0, start1.about1, start1.theMethod, start1.args0, start1.below0, start1.atStart⟩
end Jvm.Pilot.@@N@@
