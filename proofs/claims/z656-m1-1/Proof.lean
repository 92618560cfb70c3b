import JvmDerived
import JvmDerived.Pilot.@@N@@Statement
import JvmDerived.Pilot.@@N@@Code
set_option linter.unusedVariables false
set_option linter.unusedSimpArgs false
namespace Jvm.Pilot.@@N@@
open Jvm Jvm.ClassFile Sem Op Lib Jvm.Free Jvm.Stand Jvm.LawKit Jvm.RoadKit Bundle Jvm.Pilot.@@N@@.Jvm.D
/-- from the state A the run comes to the method's end, and Q says what it left -/
def own_Go (p : Program) (e : Env) (below : List Frame) (s : State) (K M : Nat) (Q : Option Value → Heap → List Loc → Prop) (A : State) : Prop :=
  ∃ s₂ o, Steps p.tables e below A s₂ ∧ s₂.status = .running ∧ Ended s₂ below o ∧ ∃ v L, o = .returned v ∧ Q v s₂.heap L ∧ FrameEnd s o s₂ L K M
theorem own_back {p : Program} {e : Env} {below : List Frame} {s : State} {K M : Nat} {Q : Option Value → Heap → List Loc → Prop} {A B : State} (h : ∀ t, Steps p.tables e below B t → Steps p.tables e below A t) (g : own_Go p e below s K M Q B) : own_Go p e below s K M Q A := by
  obtain ⟨s₂, o, h1, h2⟩ := g
  exact ⟨s₂, o, h _ h1, h2⟩
theorem own_retN {p : Program} {l : Launch} {e : Env} {R : Room} {s : State} {m : MethodId} {args : Array Value} {below : List Frame} {meth : Method} {c : Code} {T : State} {locs : List Loc} {cells slots K M : Nat} {Q : Option Value → Heap → List Loc → Prop}
    (X : Stand p l e R s m args below meth c T locs cells slots) (hx : p.tables.exec = Jvm.exec) {pc : Nat} {Ls : Array Slot} {z r : Int32} {t : FieldType} {rest : List Value} (hret : meth.sig.returnType = some t) (ht : t = .boolean ∨ t = .byte ∨ t = .char ∨ t = .short) (hd : decode c.code pc = .ok (.ireturn, 1)) (hlk : meth.locks = false)
    (hr : nar t z = r) (hq : Q (some (.int r)) T.heap locs) (hK : cells ≤ K) (hM : slots ≤ M) : own_Go p e below s K M Q (T.setTop (mkF m pc Ls (.int z :: rest))) := by
  subst hr
  obtain ⟨fs, hr, hrun, hended, hW, hsame⟩ := X.leave (v := some (.int (nar t z))) (fun h => by rw [hret] at h; cases h)
  exact ⟨_, _, retN X hx hret ht hd hr, hrun, hended, _, _, rfl, hq, ⟨_, rfl⟩, hW, hsame.mono hK hM⟩
theorem own_retI {p : Program} {l : Launch} {e : Env} {R : Room} {s : State} {m : MethodId} {args : Array Value} {below : List Frame} {meth : Method} {c : Code} {T : State} {locs : List Loc} {cells slots K M : Nat} {Q : Option Value → Heap → List Loc → Prop}
    (X : Stand p l e R s m args below meth c T locs cells slots) (hx : p.tables.exec = Jvm.exec) {pc : Nat} {Ls : Array Slot} {z : Int32} {rest : List Value} (hret : meth.sig.returnType = some .int) (hd : decode c.code pc = .ok (.ireturn, 1)) (hlk : meth.locks = false)
    (hq : Q (some (.int z)) T.heap locs) (hK : cells ≤ K) (hM : slots ≤ M) : own_Go p e below s K M Q (T.setTop (mkF m pc Ls (.int z :: rest))) := by
  obtain ⟨fs, hr, hrun, hended, hW, hsame⟩ := X.leave (v := some (.int z)) (fun h => by rw [hret] at h; cases h)
  refine ⟨_, _, ?_, hrun, hended, _, _, rfl, hq, ⟨_, rfl⟩, hW, hsame.mono hK hM⟩
  have hm' : T.vm.method? m = some meth := X.method'
  have hn : narrow .int (.int z) = .int z := rfl
  show Steps p.tables e below (T.setTop { method := m, pc := pc, locals := Ls, stack := _ :: rest, locked := none }) _
  jvm_step X.here [X.here.top, hx, hd, hm', hret, hn]
  first | (intro acts; rw [hr _ acts rfl rfl rfl]) | rw [hr _ _ rfl rfl rfl]
  exact Steps.refl _
theorem own_retJ {p : Program} {l : Launch} {e : Env} {R : Room} {s : State} {m : MethodId} {args : Array Value} {below : List Frame} {meth : Method} {c : Code} {T : State} {locs : List Loc} {cells slots K M : Nat} {Q : Option Value → Heap → List Loc → Prop}
    (X : Stand p l e R s m args below meth c T locs cells slots) (hx : p.tables.exec = Jvm.exec) {pc : Nat} {Ls : Array Slot} {z : Int64} (hret : meth.sig.returnType = some .long) (hd : decode c.code pc = .ok (.lreturn, 1)) (hlk : meth.locks = false)
    (hq : Q (some (.long z)) T.heap locs) (hK : cells ≤ K) (hM : slots ≤ M) : own_Go p e below s K M Q (T.setTop (mkF m pc Ls [.long z])) := by
  obtain ⟨fs, hr, hrun, hended, hW, hsame⟩ := X.leave (v := some (.long z)) (fun h => by rw [hret] at h; cases h)
  exact ⟨_, _, X.lreturnOut hx hret hd hr, hrun, hended, _, _, rfl, hq, ⟨_, rfl⟩, hW, hsame.mono hK hM⟩
theorem own_retV {p : Program} {l : Launch} {e : Env} {R : Room} {s : State} {m : MethodId} {args : Array Value} {below : List Frame} {meth : Method} {c : Code} {T : State} {locs : List Loc} {cells slots K M : Nat} {Q : Option Value → Heap → List Loc → Prop}
    (X : Stand p l e R s m args below meth c T locs cells slots) (hx : p.tables.exec = Jvm.exec) {pc : Nat} {Ls : Array Slot} (hret : meth.sig.returnType = none) (hd : decode c.code pc = .ok (.return_, 1)) (hlk : meth.locks = false)
    (hq : Q none T.heap locs) (hK : cells ≤ K) (hM : slots ≤ M) : own_Go p e below s K M Q (T.setTop (mkF m pc Ls [])) := by
  obtain ⟨fs, hr, hrun, hended, hW, hsame⟩ := X.leave (v := none) (fun _ => rfl)
  exact ⟨_, _, X.returnOut hx hret hd hr, hrun, hended, _, _, rfl, hq, ⟨_, rfl⟩, hW, hsame.mono hK hM⟩
/-- the value returned, nothing old written, the heap as it was -/
def own_QP (w : Value) (h0 : Heap) (n0 : Nat) (v : Option Value) (h : Heap) (L : List Loc) : Prop := v = some w ∧ Fr n0 L ∧ h = h0
/-- the value returned, nothing old written, the heap no shorter -/
def own_QG (w : Value) (h0 : Heap) (n0 : Nat) (v : Option Value) (h : Heap) (L : List Loc) : Prop := v = some w ∧ Fr n0 L ∧ n0 ≤ h.size
/-- an array of n components, f says what each holds -/
def own_VA (Z : State) (h : Heap) (a : Addr) (ty : FieldType) (n : Nat) (f : Nat → Value) : Prop := ∃ c : Cell, Arr Z h a c ty ∧ c.slots.size = n ∧ ∀ k, k < n → c.slots[k]? = some (f k)
theorem own_VA_new {Z : State} {h : Heap} {a : Addr} {k : ClassId} {ty : FieldType} {z : Int32} {n : Nat} {d : Value} (A : Arr Z h a (newA k ty z) ty) (hz : ¬ z < 0) (hn : z.toNatClampNeg = n) (hd : defaultValue ty = d) : own_VA Z h a ty n (fun _ => d) := by
  obtain ⟨c, A, -, S, -, H, -⟩ := Arv.new A hz
  subst hn hd
  exact ⟨c, A, S, fun i hi => H i (by rw [S]; exact hi)⟩
theorem own_VA_set {Z : State} {h h' : Heap} {a : Addr} {ty : FieldType} {n i : Nat} {f : Nat → Value} {v : Value} (V : own_VA Z h a ty n f) (W : Wr h h' a i v) (hi : i < n) : own_VA Z h' a ty n (fun q => if q = i then v else f q) := by
  obtain ⟨c, A, S, H⟩ := V
  refine ⟨_, A.same W, by rw [sz_set]; exact S, fun k hk => ?_⟩
  show (c.slots.setIfInBounds i v)[k]? = some (if k = i then v else f k)
  by_cases q : k = i
  · subst q; rw [if_pos rfl, Array.getElem?_setIfInBounds_self_of_lt (by omega)]
  · rw [if_neg q, Array.getElem?_setIfInBounds_ne (fun z => q z.symm)]; exact H k hk
theorem own_VA_congr {Z : State} {h : Heap} {a : Addr} {ty : FieldType} {n : Nat} {f g : Nat → Value} (V : own_VA Z h a ty n f) (q : ∀ k, k < n → f k = g k) : own_VA Z h a ty n g := by
  obtain ⟨c, A, S, H⟩ := V
  exact ⟨c, A, S, fun k hk => by rw [← q k hk]; exact H k hk⟩
theorem own_VA_ext {Z : State} {h h' : Heap} {a : Addr} {ty : FieldType} {n : Nat} {f : Nat → Value} (V : own_VA Z h a ty n f) (E : Ext h h') : own_VA Z h' a ty n f := by
  obtain ⟨c, A, S, H⟩ := V
  exact ⟨c, A.ext E, S, H⟩
theorem own_VA_other {Z : State} {h h' : Heap} {a b : Addr} {ty : FieldType} {n sl : Nat} {v : Value} {f : Nat → Value} (V : own_VA Z h a ty n f) (W : Wr h h' b sl v) (q : a ≠ b) : own_VA Z h' a ty n f := by
  obtain ⟨c, A, S, H⟩ := V
  exact ⟨c, A.other W q, S, H⟩
theorem own_VA_lt {Z : State} {h : Heap} {a : Addr} {ty : FieldType} {n : Nat} {f : Nat → Value} (V : own_VA Z h a ty n f) : a < h.size := by
  obtain ⟨c, A, -⟩ := V
  exact A.lt
theorem own_inb {j : Int32} {c : Cell} {n : Nat} (S : c.slots.size = n) (hj : ¬ j < 0 ∧ j.toNatClampNeg < n) : ¬ (j < 0 ∨ c.slots.size ≤ j.toNatClampNeg) := fun q => q.elim hj.1 fun y => by rw [S] at y; omega
section Arrays
variable {p : Program} {l : Launch} {e : Env} {R : Room} {s : State} {m : MethodId} {args : Array Value} {below : List Frame} {meth : Method} {c : Code} {T : State} {locs : List Loc} {cells slots : Nat} {Z : State} {h : Heap} {a : Addr} {n : Nat} {f : Nat → Value}
theorem own_stI (X : Stand p l e R s m args below meth c T locs cells slots) (hx : p.tables.exec = Jvm.exec) (hZ : Z.Warmed39 s.vm) (eT : T.heap = h) (V : own_VA Z h a .int n f) {j x : Int32} (i : Nat) (hj : ¬ j < 0 ∧ j.toNatClampNeg < n) (hi : j.toNatClampNeg = i) {g : JFrame} (hg : g.method = m) {rest : List Value} (hs : g.stack = .int x :: .int j :: .ref a :: rest) (hd : decode c.code g.pc = .ok (.iastore, 1)) :
    ∃ T' h', Stand p l e R s m args below meth c T' (locs ++ [⟨a, j.toNatClampNeg⟩]) cells slots ∧ T'.heap = h' ∧ Wr h h' a i (.int x) ∧ own_VA Z h' a .int n (fun q => if q = i then .int x else f q) ∧ ∀ target, Steps p.tables e below (T'.setTop { g with pc := g.pc + 1, stack := rest }) target → Steps p.tables e below (T.setTop g) target := by
  obtain ⟨cl, A, S, H⟩ := V
  obtain ⟨T', h', X', e', W, st⟩ := stI X hx hZ eT A (own_inb S hj) hg hs hd
  subst hi
  exact ⟨T', h', X', e', W, own_VA_set ⟨cl, A, S, H⟩ W hj.2, st⟩
theorem own_stB (X : Stand p l e R s m args below meth c T locs cells slots) (hx : p.tables.exec = Jvm.exec) (hZ : Z.Warmed39 s.vm) (eT : T.heap = h) (V : own_VA Z h a .byte n f) {j x : Int32} (i : Nat) (hj : ¬ j < 0 ∧ j.toNatClampNeg < n) (hi : j.toNatClampNeg = i) {g : JFrame} (hg : g.method = m) {rest : List Value} (hs : g.stack = .int x :: .int j :: .ref a :: rest) (hd : decode c.code g.pc = .ok (.bastore, 1)) :
    ∃ T' h', Stand p l e R s m args below meth c T' (locs ++ [⟨a, j.toNatClampNeg⟩]) cells slots ∧ T'.heap = h' ∧ Wr h h' a i (.int (x.toInt8.toInt32)) ∧ own_VA Z h' a .byte n (fun q => if q = i then .int (x.toInt8.toInt32) else f q) ∧ ∀ target, Steps p.tables e below (T'.setTop { g with pc := g.pc + 1, stack := rest }) target → Steps p.tables e below (T.setTop g) target := by
  obtain ⟨cl, A, S, H⟩ := V
  obtain ⟨T', h', X', e', W, st⟩ := stB X hx hZ eT A (own_inb S hj) hg hs hd
  subst hi
  exact ⟨T', h', X', e', W, own_VA_set ⟨cl, A, S, H⟩ W hj.2, st⟩
theorem own_stJ (X : Stand p l e R s m args below meth c T locs cells slots) (hx : p.tables.exec = Jvm.exec) (hZ : Z.Warmed39 s.vm) (eT : T.heap = h) (V : own_VA Z h a .long n f) {j : Int32} {x : Int64} (i : Nat) (hj : ¬ j < 0 ∧ j.toNatClampNeg < n) (hi : j.toNatClampNeg = i) {g : JFrame} (hg : g.method = m) {rest : List Value} (hs : g.stack = .long x :: .int j :: .ref a :: rest) (hd : decode c.code g.pc = .ok (.lastore, 1)) :
    ∃ T' h', Stand p l e R s m args below meth c T' (locs ++ [⟨a, j.toNatClampNeg⟩]) cells slots ∧ T'.heap = h' ∧ Wr h h' a i (.long x) ∧ own_VA Z h' a .long n (fun q => if q = i then .long x else f q) ∧ ∀ target, Steps p.tables e below (T'.setTop { g with pc := g.pc + 1, stack := rest }) target → Steps p.tables e below (T.setTop g) target := by
  obtain ⟨cl, A, S, H⟩ := V
  obtain ⟨T', h', X', e', W, st⟩ := stJ X hx hZ eT A (own_inb S hj) hg hs hd
  subst hi
  exact ⟨T', h', X', e', W, own_VA_set ⟨cl, A, S, H⟩ W hj.2, st⟩
theorem own_ldI (X : Stand p l e R s m args below meth c T locs cells slots) (hx : p.tables.exec = Jvm.exec) (hZ : Z.Warmed39 s.vm) (eT : T.heap = h) (V : own_VA Z h a .int n f) {j w : Int32} (hj : ¬ j < 0 ∧ j.toNatClampNeg < n) (hv : f j.toNatClampNeg = .int w) {g : JFrame} (hg : g.method = m) {rest : List Value} (hs : g.stack = .int j :: .ref a :: rest) (hd : decode c.code g.pc = .ok (.iaload, 1)) :
    ∀ target, Steps p.tables e below (T.setTop { g with pc := g.pc + 1, stack := .int w :: rest }) target → Steps p.tables e below (T.setTop g) target := by
  obtain ⟨cl, A, S, H⟩ := V
  exact fun t k => X.iaload hx (by rw [eT]; exact A.1) (State.isArrayOf_alike hZ.alike A.2.1) A.2.2 (own_inb S hj) (hv ▸ H _ hj.2) hg hs hd t k
theorem own_ldB (X : Stand p l e R s m args below meth c T locs cells slots) (hx : p.tables.exec = Jvm.exec) (hZ : Z.Warmed39 s.vm) (eT : T.heap = h) (V : own_VA Z h a .byte n f) {j w : Int32} (hj : ¬ j < 0 ∧ j.toNatClampNeg < n) (hv : f j.toNatClampNeg = .int w) {g : JFrame} (hg : g.method = m) {rest : List Value} (hs : g.stack = .int j :: .ref a :: rest) (hd : decode c.code g.pc = .ok (.baload, 1)) :
    ∀ target, Steps p.tables e below (T.setTop { g with pc := g.pc + 1, stack := .int w :: rest }) target → Steps p.tables e below (T.setTop g) target := by
  obtain ⟨cl, A, S, H⟩ := V
  exact fun t k => X.baloadBytes hx (by rw [eT]; exact A.1) (State.isArrayOf_alike hZ.alike A.2.1) A.2.2 (own_inb S hj) (hv ▸ H _ hj.2) hg hs hd t k
theorem own_ldJ (X : Stand p l e R s m args below meth c T locs cells slots) (hx : p.tables.exec = Jvm.exec) (hZ : Z.Warmed39 s.vm) (eT : T.heap = h) (V : own_VA Z h a .long n f) {j : Int32} {w : Int64} (hj : ¬ j < 0 ∧ j.toNatClampNeg < n) (hv : f j.toNatClampNeg = .long w) {g : JFrame} (hg : g.method = m) {rest : List Value} (hs : g.stack = .int j :: .ref a :: rest) (hd : decode c.code g.pc = .ok (.laload, 1)) :
    ∀ target, Steps p.tables e below (T.setTop { g with pc := g.pc + 1, stack := .long w :: rest }) target → Steps p.tables e below (T.setTop g) target := by
  obtain ⟨cl, A, S, H⟩ := V
  exact fun t k => X.laload hx (by rw [eT]; exact A.1) (State.isArrayOf_alike hZ.alike A.2.1) A.2.2 (own_inb S hj) (hv ▸ H _ hj.2) hg hs hd t k
theorem own_len (X : Stand p l e R s m args below meth c T locs cells slots) (hx : p.tables.exec = Jvm.exec) (hZ : Z.Warmed39 s.vm) (eT : T.heap = h) {ty : FieldType} (V : own_VA Z h a ty n f) {z : Int32} (hz : n.toInt32 = z) {g : JFrame} (hg : g.method = m) {rest : List Value} (hs : g.stack = .ref a :: rest) (hd : decode c.code g.pc = .ok (.arraylength, 1)) :
    ∀ target, Steps p.tables e below (T.setTop { g with pc := g.pc + 1, stack := .int z :: rest }) target → Steps p.tables e below (T.setTop g) target := by
  obtain ⟨cl, A, S, H⟩ := V
  subst hz S
  exact fun t k => X.arraylength hx (by rw [eT]; exact A.1) (State.isArrayOf_alike hZ.alike A.2.1) hg hs hd t k
end Arrays
theorem own_and15 (x : Int32) : ¬ (x &&& (15 : Int32)) < 0 ∧ (x &&& (15 : Int32)).toNatClampNeg < 16 := by
  have e : (x &&& (15 : Int32)).toInt = x.toInt % 16 := c_mask x 15 4 (by decide) (by decide)
  have z : (0 : Int32).toInt = 0 := rfl
  refine ⟨by rw [Int32.lt_iff_toInt_lt, z]; omega, ?_⟩
  show (x &&& (15 : Int32)).toInt.toNat < 16
  omega
/-! body 1: kartoteka/BibtexIsSpacePinLaw.pick:(I)I -/
theorem own_d1_0 : decode method_3_code 0 = .ok (.bipush 16, 2) := by decide +kernel
theorem own_d1_2 : decode method_3_code 2 = .ok (.newarray .int, 2) := by decide +kernel
theorem own_d1_4 : decode method_3_code 4 = .ok (.dup, 1) := by decide +kernel
theorem own_d1_5 : decode method_3_code 5 = .ok (.iconst 0, 1) := by decide +kernel
theorem own_d1_6 : decode method_3_code 6 = .ok (.bipush 32, 2) := by decide +kernel
theorem own_d1_8 : decode method_3_code 8 = .ok (.iastore, 1) := by decide +kernel
theorem own_d1_9 : decode method_3_code 9 = .ok (.dup, 1) := by decide +kernel
theorem own_d1_10 : decode method_3_code 10 = .ok (.iconst 1, 1) := by decide +kernel
theorem own_d1_11 : decode method_3_code 11 = .ok (.bipush 9, 2) := by decide +kernel
theorem own_d1_13 : decode method_3_code 13 = .ok (.iastore, 1) := by decide +kernel
theorem own_d1_14 : decode method_3_code 14 = .ok (.dup, 1) := by decide +kernel
theorem own_d1_15 : decode method_3_code 15 = .ok (.iconst 2, 1) := by decide +kernel
theorem own_d1_16 : decode method_3_code 16 = .ok (.bipush 10, 2) := by decide +kernel
theorem own_d1_18 : decode method_3_code 18 = .ok (.iastore, 1) := by decide +kernel
theorem own_d1_19 : decode method_3_code 19 = .ok (.dup, 1) := by decide +kernel
theorem own_d1_20 : decode method_3_code 20 = .ok (.iconst 3, 1) := by decide +kernel
theorem own_d1_21 : decode method_3_code 21 = .ok (.bipush 13, 2) := by decide +kernel
theorem own_d1_23 : decode method_3_code 23 = .ok (.iastore, 1) := by decide +kernel
theorem own_d1_24 : decode method_3_code 24 = .ok (.dup, 1) := by decide +kernel
theorem own_d1_25 : decode method_3_code 25 = .ok (.iconst 4, 1) := by decide +kernel
theorem own_d1_26 : decode method_3_code 26 = .ok (.bipush 8, 2) := by decide +kernel
theorem own_d1_28 : decode method_3_code 28 = .ok (.iastore, 1) := by decide +kernel
theorem own_d1_29 : decode method_3_code 29 = .ok (.dup, 1) := by decide +kernel
theorem own_d1_30 : decode method_3_code 30 = .ok (.iconst 5, 1) := by decide +kernel
theorem own_d1_31 : decode method_3_code 31 = .ok (.bipush 11, 2) := by decide +kernel
theorem own_d1_33 : decode method_3_code 33 = .ok (.iastore, 1) := by decide +kernel
theorem own_d1_34 : decode method_3_code 34 = .ok (.dup, 1) := by decide +kernel
theorem own_d1_35 : decode method_3_code 35 = .ok (.bipush 6, 2) := by decide +kernel
theorem own_d1_37 : decode method_3_code 37 = .ok (.bipush 12, 2) := by decide +kernel
theorem own_d1_39 : decode method_3_code 39 = .ok (.iastore, 1) := by decide +kernel
theorem own_d1_40 : decode method_3_code 40 = .ok (.dup, 1) := by decide +kernel
theorem own_d1_41 : decode method_3_code 41 = .ok (.bipush 7, 2) := by decide +kernel
theorem own_d1_43 : decode method_3_code 43 = .ok (.bipush 14, 2) := by decide +kernel
theorem own_d1_45 : decode method_3_code 45 = .ok (.iastore, 1) := by decide +kernel
theorem own_d1_46 : decode method_3_code 46 = .ok (.dup, 1) := by decide +kernel
theorem own_d1_47 : decode method_3_code 47 = .ok (.bipush 8, 2) := by decide +kernel
theorem own_d1_49 : decode method_3_code 49 = .ok (.bipush 31, 2) := by decide +kernel
theorem own_d1_51 : decode method_3_code 51 = .ok (.iastore, 1) := by decide +kernel
theorem own_d1_52 : decode method_3_code 52 = .ok (.dup, 1) := by decide +kernel
theorem own_d1_53 : decode method_3_code 53 = .ok (.bipush 9, 2) := by decide +kernel
theorem own_d1_55 : decode method_3_code 55 = .ok (.bipush 33, 2) := by decide +kernel
theorem own_d1_57 : decode method_3_code 57 = .ok (.iastore, 1) := by decide +kernel
theorem own_d1_58 : decode method_3_code 58 = .ok (.dup, 1) := by decide +kernel
theorem own_d1_59 : decode method_3_code 59 = .ok (.bipush 10, 2) := by decide +kernel
theorem own_d1_61 : decode method_3_code 61 = .ok (.iconst 0, 1) := by decide +kernel
theorem own_d1_62 : decode method_3_code 62 = .ok (.iastore, 1) := by decide +kernel
theorem own_d1_63 : decode method_3_code 63 = .ok (.dup, 1) := by decide +kernel
theorem own_d1_64 : decode method_3_code 64 = .ok (.bipush 11, 2) := by decide +kernel
theorem own_d1_66 : decode method_3_code 66 = .ok (.iconst (-1), 1) := by decide +kernel
theorem own_d1_67 : decode method_3_code 67 = .ok (.iastore, 1) := by decide +kernel
theorem own_d1_68 : decode method_3_code 68 = .ok (.dup, 1) := by decide +kernel
theorem own_d1_69 : decode method_3_code 69 = .ok (.bipush 12, 2) := by decide +kernel
theorem own_d1_71 : decode method_3_code 71 = .ok (.sipush 288, 3) := by decide +kernel
theorem own_d1_74 : decode method_3_code 74 = .ok (.iastore, 1) := by decide +kernel
theorem own_d1_75 : decode method_3_code 75 = .ok (.dup, 1) := by decide +kernel
theorem own_d1_76 : decode method_3_code 76 = .ok (.bipush 13, 2) := by decide +kernel
theorem own_d1_78 : decode method_3_code 78 = .ok (.sipush 133, 3) := by decide +kernel
theorem own_d1_81 : decode method_3_code 81 = .ok (.iastore, 1) := by decide +kernel
theorem own_d1_82 : decode method_3_code 82 = .ok (.dup, 1) := by decide +kernel
theorem own_d1_83 : decode method_3_code 83 = .ok (.bipush 14, 2) := by decide +kernel
theorem own_d1_85 : decode method_3_code 85 = .ok (.sipush 160, 3) := by decide +kernel
theorem own_d1_88 : decode method_3_code 88 = .ok (.iastore, 1) := by decide +kernel
theorem own_d1_89 : decode method_3_code 89 = .ok (.dup, 1) := by decide +kernel
theorem own_d1_90 : decode method_3_code 90 = .ok (.bipush 15, 2) := by decide +kernel
theorem own_d1_92 : decode method_3_code 92 = .ok (.ldc 9, 2) := by decide +kernel
theorem own_d1_94 : decode method_3_code 94 = .ok (.iastore, 1) := by decide +kernel
theorem own_d1_95 : decode method_3_code 95 = .ok (.astore_n 1, 1) := by decide +kernel
theorem own_d1_96 : decode method_3_code 96 = .ok (.aload_n 1, 1) := by decide +kernel
theorem own_d1_97 : decode method_3_code 97 = .ok (.iload_n 0, 1) := by decide +kernel
theorem own_d1_98 : decode method_3_code 98 = .ok (.bipush 15, 2) := by decide +kernel
theorem own_d1_100 : decode method_3_code 100 = .ok (.iand, 1) := by decide +kernel
theorem own_d1_101 : decode method_3_code 101 = .ok (.iaload, 1) := by decide +kernel
theorem own_d1_102 : decode method_3_code 102 = .ok (.ireturn, 1) := by decide +kernel
def own_tab1 (k : Nat) : Int32 := [(32 : Int32), (9 : Int32), (10 : Int32), (13 : Int32), (8 : Int32), (11 : Int32), (12 : Int32), (14 : Int32), (31 : Int32), (33 : Int32), (0 : Int32), (-1 : Int32), (288 : Int32), (133 : Int32), (160 : Int32), (65568 : Int32)].getD k 0
def own_f1_0 (x0 : Int32) : Int32 := (own_tab1 (x0 &&& (15 : Int32)).toNatClampNeg)
set_option maxRecDepth 65536 in
set_option maxHeartbeats 4000000 in
theorem own_l1_0 {p : Program} {l : Launch} {e : Env} {s : State} {m : MethodId} {args : Array Value} {below : List Frame} {meth : Method} {c : Code} {T : State} {locs : List Loc} {Z : State} {a0 : Array Value} {h0 : Heap} {n0 : Nat}
    (X : Stand p l e ({ frames := 0, cells := 1, slots := 16, locals := 0 } : Room) s m args below meth c T locs 0 0) (hx : p.tables.exec = Jvm.exec) (hZ : Z.Warmed39 s.vm) (hw : ∀ d ∈ tables_1, d.before a0 Z = true) (hby : c.code = method_3_code) (hml : c.maxLocals = 2) (hown : s.vm.findClass "kartoteka/BibtexIsSpacePinLaw" = some m.cls) (hret : meth.sig.returnType = some .int) (hlk : meth.locks = false) (e0 : T.heap = h0) (N : Fr n0 locs) (Z0 : n0 ≤ h0.size)
    (x0 : Int32) {r : Int32} (hR : r = own_f1_0 x0) : own_Go p e below s ({ frames := 0, cells := 1, slots := 16, locals := 0 } : Room).cells ({ frames := 0, cells := 1, slots := 16, locals := 0 } : Room).slots (own_QG (.int r) h0 n0) (T.setTop (mkF m 0 #[.val (.int x0), .unset] [])) := by
  unfold own_f1_0 at hR
  refine own_back (fun t k => XS.bipush X.here hx rfl (hb hby own_d1_0) k) ?_
  show own_Go _ _ _ _ _ _ _ (T.setTop (mkF m 2 #[.val (.int x0), .unset] [(.int (16 : Int32))]))
  obtain ⟨T1, h1, k1, X1, e1, E1, A1, st1⟩ := newP X hx hZ (hw _ (List.mem_of_getElem? (i := 4) rfl)) e0 (g := (mkF m 2 #[.val (.int x0), .unset] [(.int (16 : Int32))])) rfl (hb hby own_d1_2) rfl (by decide) (cap := 16) (by decide) (by decide) (by decide) (by decide)
  obtain ⟨b1, g1⟩ : ∃ z, z = h0.size := ⟨_, rfl⟩
  rw [← g1] at A1 st1
  have V1 : own_VA Z h1 b1 .int 16 (fun _ => (.int (0 : Int32))) := own_VA_new A1 (by decide) (by decide) rfl
  have qb1 : n0 ≤ b1 := Nat.le_trans Z0 (Nat.le_of_eq g1.symm)
  have Z1 : n0 ≤ h1.size := Nat.le_trans Z0 E1.1
  refine own_back (fun t k => st1 t k) ?_
  show own_Go _ _ _ _ _ _ _ (T1.setTop (mkF m 4 #[.val (.int x0), .unset] [(.ref b1)]))
  refine own_back (fun t k => XS.dup X1.here hx rfl (hb hby own_d1_4) rfl rfl k) ?_
  show own_Go _ _ _ _ _ _ _ (T1.setTop (mkF m 5 #[.val (.int x0), .unset] [(.ref b1), (.ref b1)]))
  refine own_back (fun t k => XS.iconst X1.here hx rfl (hb hby own_d1_5) k) ?_
  show own_Go _ _ _ _ _ _ _ (T1.setTop (mkF m 6 #[.val (.int x0), .unset] [(.int (0 : Int32)), (.ref b1), (.ref b1)]))
  refine own_back (fun t k => XS.bipush X1.here hx rfl (hb hby own_d1_6) k) ?_
  show own_Go _ _ _ _ _ _ _ (T1.setTop (mkF m 8 #[.val (.int x0), .unset] [(.int (32 : Int32)), (.int (0 : Int32)), (.ref b1), (.ref b1)]))
  obtain ⟨T2, h2, X2, e2, W2, V2, st2⟩ := own_stI X1 hx hZ e1 V1 0 (by decide) (by decide) (g := (mkF m 8 #[.val (.int x0), .unset] [(.int (32 : Int32)), (.int (0 : Int32)), (.ref b1), (.ref b1)])) rfl rfl (hb hby own_d1_8)
  have N2 := Fr.snoc X2 N qb1
  have Z2 : n0 ≤ h2.size := Nat.le_trans Z1 (Keep.of_wr W2).1
  refine own_back (fun t k => st2 t k) ?_
  show own_Go _ _ _ _ _ _ _ (T2.setTop (mkF m 9 #[.val (.int x0), .unset] [(.ref b1)]))
  refine own_back (fun t k => XS.dup X2.here hx rfl (hb hby own_d1_9) rfl rfl k) ?_
  show own_Go _ _ _ _ _ _ _ (T2.setTop (mkF m 10 #[.val (.int x0), .unset] [(.ref b1), (.ref b1)]))
  refine own_back (fun t k => XS.iconst X2.here hx rfl (hb hby own_d1_10) k) ?_
  show own_Go _ _ _ _ _ _ _ (T2.setTop (mkF m 11 #[.val (.int x0), .unset] [(.int (1 : Int32)), (.ref b1), (.ref b1)]))
  refine own_back (fun t k => XS.bipush X2.here hx rfl (hb hby own_d1_11) k) ?_
  show own_Go _ _ _ _ _ _ _ (T2.setTop (mkF m 13 #[.val (.int x0), .unset] [(.int (9 : Int32)), (.int (1 : Int32)), (.ref b1), (.ref b1)]))
  obtain ⟨T3, h3, X3, e3, W3, V3, st3⟩ := own_stI X2 hx hZ e2 V2 1 (by decide) (by decide) (g := (mkF m 13 #[.val (.int x0), .unset] [(.int (9 : Int32)), (.int (1 : Int32)), (.ref b1), (.ref b1)])) rfl rfl (hb hby own_d1_13)
  have N3 := Fr.snoc X3 N2 qb1
  have Z3 : n0 ≤ h3.size := Nat.le_trans Z2 (Keep.of_wr W3).1
  refine own_back (fun t k => st3 t k) ?_
  show own_Go _ _ _ _ _ _ _ (T3.setTop (mkF m 14 #[.val (.int x0), .unset] [(.ref b1)]))
  refine own_back (fun t k => XS.dup X3.here hx rfl (hb hby own_d1_14) rfl rfl k) ?_
  show own_Go _ _ _ _ _ _ _ (T3.setTop (mkF m 15 #[.val (.int x0), .unset] [(.ref b1), (.ref b1)]))
  refine own_back (fun t k => XS.iconst X3.here hx rfl (hb hby own_d1_15) k) ?_
  show own_Go _ _ _ _ _ _ _ (T3.setTop (mkF m 16 #[.val (.int x0), .unset] [(.int (2 : Int32)), (.ref b1), (.ref b1)]))
  refine own_back (fun t k => XS.bipush X3.here hx rfl (hb hby own_d1_16) k) ?_
  show own_Go _ _ _ _ _ _ _ (T3.setTop (mkF m 18 #[.val (.int x0), .unset] [(.int (10 : Int32)), (.int (2 : Int32)), (.ref b1), (.ref b1)]))
  obtain ⟨T4, h4, X4, e4, W4, V4, st4⟩ := own_stI X3 hx hZ e3 V3 2 (by decide) (by decide) (g := (mkF m 18 #[.val (.int x0), .unset] [(.int (10 : Int32)), (.int (2 : Int32)), (.ref b1), (.ref b1)])) rfl rfl (hb hby own_d1_18)
  have N4 := Fr.snoc X4 N3 qb1
  have Z4 : n0 ≤ h4.size := Nat.le_trans Z3 (Keep.of_wr W4).1
  refine own_back (fun t k => st4 t k) ?_
  show own_Go _ _ _ _ _ _ _ (T4.setTop (mkF m 19 #[.val (.int x0), .unset] [(.ref b1)]))
  refine own_back (fun t k => XS.dup X4.here hx rfl (hb hby own_d1_19) rfl rfl k) ?_
  show own_Go _ _ _ _ _ _ _ (T4.setTop (mkF m 20 #[.val (.int x0), .unset] [(.ref b1), (.ref b1)]))
  refine own_back (fun t k => XS.iconst X4.here hx rfl (hb hby own_d1_20) k) ?_
  show own_Go _ _ _ _ _ _ _ (T4.setTop (mkF m 21 #[.val (.int x0), .unset] [(.int (3 : Int32)), (.ref b1), (.ref b1)]))
  refine own_back (fun t k => XS.bipush X4.here hx rfl (hb hby own_d1_21) k) ?_
  show own_Go _ _ _ _ _ _ _ (T4.setTop (mkF m 23 #[.val (.int x0), .unset] [(.int (13 : Int32)), (.int (3 : Int32)), (.ref b1), (.ref b1)]))
  obtain ⟨T5, h5, X5, e5, W5, V5, st5⟩ := own_stI X4 hx hZ e4 V4 3 (by decide) (by decide) (g := (mkF m 23 #[.val (.int x0), .unset] [(.int (13 : Int32)), (.int (3 : Int32)), (.ref b1), (.ref b1)])) rfl rfl (hb hby own_d1_23)
  have N5 := Fr.snoc X5 N4 qb1
  have Z5 : n0 ≤ h5.size := Nat.le_trans Z4 (Keep.of_wr W5).1
  refine own_back (fun t k => st5 t k) ?_
  show own_Go _ _ _ _ _ _ _ (T5.setTop (mkF m 24 #[.val (.int x0), .unset] [(.ref b1)]))
  refine own_back (fun t k => XS.dup X5.here hx rfl (hb hby own_d1_24) rfl rfl k) ?_
  show own_Go _ _ _ _ _ _ _ (T5.setTop (mkF m 25 #[.val (.int x0), .unset] [(.ref b1), (.ref b1)]))
  refine own_back (fun t k => XS.iconst X5.here hx rfl (hb hby own_d1_25) k) ?_
  show own_Go _ _ _ _ _ _ _ (T5.setTop (mkF m 26 #[.val (.int x0), .unset] [(.int (4 : Int32)), (.ref b1), (.ref b1)]))
  refine own_back (fun t k => XS.bipush X5.here hx rfl (hb hby own_d1_26) k) ?_
  show own_Go _ _ _ _ _ _ _ (T5.setTop (mkF m 28 #[.val (.int x0), .unset] [(.int (8 : Int32)), (.int (4 : Int32)), (.ref b1), (.ref b1)]))
  obtain ⟨T6, h6, X6, e6, W6, V6, st6⟩ := own_stI X5 hx hZ e5 V5 4 (by decide) (by decide) (g := (mkF m 28 #[.val (.int x0), .unset] [(.int (8 : Int32)), (.int (4 : Int32)), (.ref b1), (.ref b1)])) rfl rfl (hb hby own_d1_28)
  have N6 := Fr.snoc X6 N5 qb1
  have Z6 : n0 ≤ h6.size := Nat.le_trans Z5 (Keep.of_wr W6).1
  refine own_back (fun t k => st6 t k) ?_
  show own_Go _ _ _ _ _ _ _ (T6.setTop (mkF m 29 #[.val (.int x0), .unset] [(.ref b1)]))
  refine own_back (fun t k => XS.dup X6.here hx rfl (hb hby own_d1_29) rfl rfl k) ?_
  show own_Go _ _ _ _ _ _ _ (T6.setTop (mkF m 30 #[.val (.int x0), .unset] [(.ref b1), (.ref b1)]))
  refine own_back (fun t k => XS.iconst X6.here hx rfl (hb hby own_d1_30) k) ?_
  show own_Go _ _ _ _ _ _ _ (T6.setTop (mkF m 31 #[.val (.int x0), .unset] [(.int (5 : Int32)), (.ref b1), (.ref b1)]))
  refine own_back (fun t k => XS.bipush X6.here hx rfl (hb hby own_d1_31) k) ?_
  show own_Go _ _ _ _ _ _ _ (T6.setTop (mkF m 33 #[.val (.int x0), .unset] [(.int (11 : Int32)), (.int (5 : Int32)), (.ref b1), (.ref b1)]))
  obtain ⟨T7, h7, X7, e7, W7, V7, st7⟩ := own_stI X6 hx hZ e6 V6 5 (by decide) (by decide) (g := (mkF m 33 #[.val (.int x0), .unset] [(.int (11 : Int32)), (.int (5 : Int32)), (.ref b1), (.ref b1)])) rfl rfl (hb hby own_d1_33)
  have N7 := Fr.snoc X7 N6 qb1
  have Z7 : n0 ≤ h7.size := Nat.le_trans Z6 (Keep.of_wr W7).1
  refine own_back (fun t k => st7 t k) ?_
  show own_Go _ _ _ _ _ _ _ (T7.setTop (mkF m 34 #[.val (.int x0), .unset] [(.ref b1)]))
  refine own_back (fun t k => XS.dup X7.here hx rfl (hb hby own_d1_34) rfl rfl k) ?_
  show own_Go _ _ _ _ _ _ _ (T7.setTop (mkF m 35 #[.val (.int x0), .unset] [(.ref b1), (.ref b1)]))
  refine own_back (fun t k => XS.bipush X7.here hx rfl (hb hby own_d1_35) k) ?_
  show own_Go _ _ _ _ _ _ _ (T7.setTop (mkF m 37 #[.val (.int x0), .unset] [(.int (6 : Int32)), (.ref b1), (.ref b1)]))
  refine own_back (fun t k => XS.bipush X7.here hx rfl (hb hby own_d1_37) k) ?_
  show own_Go _ _ _ _ _ _ _ (T7.setTop (mkF m 39 #[.val (.int x0), .unset] [(.int (12 : Int32)), (.int (6 : Int32)), (.ref b1), (.ref b1)]))
  obtain ⟨T8, h8, X8, e8, W8, V8, st8⟩ := own_stI X7 hx hZ e7 V7 6 (by decide) (by decide) (g := (mkF m 39 #[.val (.int x0), .unset] [(.int (12 : Int32)), (.int (6 : Int32)), (.ref b1), (.ref b1)])) rfl rfl (hb hby own_d1_39)
  have N8 := Fr.snoc X8 N7 qb1
  have Z8 : n0 ≤ h8.size := Nat.le_trans Z7 (Keep.of_wr W8).1
  refine own_back (fun t k => st8 t k) ?_
  show own_Go _ _ _ _ _ _ _ (T8.setTop (mkF m 40 #[.val (.int x0), .unset] [(.ref b1)]))
  refine own_back (fun t k => XS.dup X8.here hx rfl (hb hby own_d1_40) rfl rfl k) ?_
  show own_Go _ _ _ _ _ _ _ (T8.setTop (mkF m 41 #[.val (.int x0), .unset] [(.ref b1), (.ref b1)]))
  refine own_back (fun t k => XS.bipush X8.here hx rfl (hb hby own_d1_41) k) ?_
  show own_Go _ _ _ _ _ _ _ (T8.setTop (mkF m 43 #[.val (.int x0), .unset] [(.int (7 : Int32)), (.ref b1), (.ref b1)]))
  refine own_back (fun t k => XS.bipush X8.here hx rfl (hb hby own_d1_43) k) ?_
  show own_Go _ _ _ _ _ _ _ (T8.setTop (mkF m 45 #[.val (.int x0), .unset] [(.int (14 : Int32)), (.int (7 : Int32)), (.ref b1), (.ref b1)]))
  obtain ⟨T9, h9, X9, e9, W9, V9, st9⟩ := own_stI X8 hx hZ e8 V8 7 (by decide) (by decide) (g := (mkF m 45 #[.val (.int x0), .unset] [(.int (14 : Int32)), (.int (7 : Int32)), (.ref b1), (.ref b1)])) rfl rfl (hb hby own_d1_45)
  have N9 := Fr.snoc X9 N8 qb1
  have Z9 : n0 ≤ h9.size := Nat.le_trans Z8 (Keep.of_wr W9).1
  refine own_back (fun t k => st9 t k) ?_
  show own_Go _ _ _ _ _ _ _ (T9.setTop (mkF m 46 #[.val (.int x0), .unset] [(.ref b1)]))
  refine own_back (fun t k => XS.dup X9.here hx rfl (hb hby own_d1_46) rfl rfl k) ?_
  show own_Go _ _ _ _ _ _ _ (T9.setTop (mkF m 47 #[.val (.int x0), .unset] [(.ref b1), (.ref b1)]))
  refine own_back (fun t k => XS.bipush X9.here hx rfl (hb hby own_d1_47) k) ?_
  show own_Go _ _ _ _ _ _ _ (T9.setTop (mkF m 49 #[.val (.int x0), .unset] [(.int (8 : Int32)), (.ref b1), (.ref b1)]))
  refine own_back (fun t k => XS.bipush X9.here hx rfl (hb hby own_d1_49) k) ?_
  show own_Go _ _ _ _ _ _ _ (T9.setTop (mkF m 51 #[.val (.int x0), .unset] [(.int (31 : Int32)), (.int (8 : Int32)), (.ref b1), (.ref b1)]))
  obtain ⟨T10, h10, X10, e10, W10, V10, st10⟩ := own_stI X9 hx hZ e9 V9 8 (by decide) (by decide) (g := (mkF m 51 #[.val (.int x0), .unset] [(.int (31 : Int32)), (.int (8 : Int32)), (.ref b1), (.ref b1)])) rfl rfl (hb hby own_d1_51)
  have N10 := Fr.snoc X10 N9 qb1
  have Z10 : n0 ≤ h10.size := Nat.le_trans Z9 (Keep.of_wr W10).1
  refine own_back (fun t k => st10 t k) ?_
  show own_Go _ _ _ _ _ _ _ (T10.setTop (mkF m 52 #[.val (.int x0), .unset] [(.ref b1)]))
  refine own_back (fun t k => XS.dup X10.here hx rfl (hb hby own_d1_52) rfl rfl k) ?_
  show own_Go _ _ _ _ _ _ _ (T10.setTop (mkF m 53 #[.val (.int x0), .unset] [(.ref b1), (.ref b1)]))
  refine own_back (fun t k => XS.bipush X10.here hx rfl (hb hby own_d1_53) k) ?_
  show own_Go _ _ _ _ _ _ _ (T10.setTop (mkF m 55 #[.val (.int x0), .unset] [(.int (9 : Int32)), (.ref b1), (.ref b1)]))
  refine own_back (fun t k => XS.bipush X10.here hx rfl (hb hby own_d1_55) k) ?_
  show own_Go _ _ _ _ _ _ _ (T10.setTop (mkF m 57 #[.val (.int x0), .unset] [(.int (33 : Int32)), (.int (9 : Int32)), (.ref b1), (.ref b1)]))
  obtain ⟨T11, h11, X11, e11, W11, V11, st11⟩ := own_stI X10 hx hZ e10 V10 9 (by decide) (by decide) (g := (mkF m 57 #[.val (.int x0), .unset] [(.int (33 : Int32)), (.int (9 : Int32)), (.ref b1), (.ref b1)])) rfl rfl (hb hby own_d1_57)
  have N11 := Fr.snoc X11 N10 qb1
  have Z11 : n0 ≤ h11.size := Nat.le_trans Z10 (Keep.of_wr W11).1
  refine own_back (fun t k => st11 t k) ?_
  show own_Go _ _ _ _ _ _ _ (T11.setTop (mkF m 58 #[.val (.int x0), .unset] [(.ref b1)]))
  refine own_back (fun t k => XS.dup X11.here hx rfl (hb hby own_d1_58) rfl rfl k) ?_
  show own_Go _ _ _ _ _ _ _ (T11.setTop (mkF m 59 #[.val (.int x0), .unset] [(.ref b1), (.ref b1)]))
  refine own_back (fun t k => XS.bipush X11.here hx rfl (hb hby own_d1_59) k) ?_
  show own_Go _ _ _ _ _ _ _ (T11.setTop (mkF m 61 #[.val (.int x0), .unset] [(.int (10 : Int32)), (.ref b1), (.ref b1)]))
  refine own_back (fun t k => XS.iconst X11.here hx rfl (hb hby own_d1_61) k) ?_
  show own_Go _ _ _ _ _ _ _ (T11.setTop (mkF m 62 #[.val (.int x0), .unset] [(.int (0 : Int32)), (.int (10 : Int32)), (.ref b1), (.ref b1)]))
  obtain ⟨T12, h12, X12, e12, W12, V12, st12⟩ := own_stI X11 hx hZ e11 V11 10 (by decide) (by decide) (g := (mkF m 62 #[.val (.int x0), .unset] [(.int (0 : Int32)), (.int (10 : Int32)), (.ref b1), (.ref b1)])) rfl rfl (hb hby own_d1_62)
  have N12 := Fr.snoc X12 N11 qb1
  have Z12 : n0 ≤ h12.size := Nat.le_trans Z11 (Keep.of_wr W12).1
  refine own_back (fun t k => st12 t k) ?_
  show own_Go _ _ _ _ _ _ _ (T12.setTop (mkF m 63 #[.val (.int x0), .unset] [(.ref b1)]))
  refine own_back (fun t k => XS.dup X12.here hx rfl (hb hby own_d1_63) rfl rfl k) ?_
  show own_Go _ _ _ _ _ _ _ (T12.setTop (mkF m 64 #[.val (.int x0), .unset] [(.ref b1), (.ref b1)]))
  refine own_back (fun t k => XS.bipush X12.here hx rfl (hb hby own_d1_64) k) ?_
  show own_Go _ _ _ _ _ _ _ (T12.setTop (mkF m 66 #[.val (.int x0), .unset] [(.int (11 : Int32)), (.ref b1), (.ref b1)]))
  refine own_back (fun t k => XS.iconst X12.here hx rfl (hb hby own_d1_66) k) ?_
  show own_Go _ _ _ _ _ _ _ (T12.setTop (mkF m 67 #[.val (.int x0), .unset] [(.int (-1 : Int32)), (.int (11 : Int32)), (.ref b1), (.ref b1)]))
  obtain ⟨T13, h13, X13, e13, W13, V13, st13⟩ := own_stI X12 hx hZ e12 V12 11 (by decide) (by decide) (g := (mkF m 67 #[.val (.int x0), .unset] [(.int (-1 : Int32)), (.int (11 : Int32)), (.ref b1), (.ref b1)])) rfl rfl (hb hby own_d1_67)
  have N13 := Fr.snoc X13 N12 qb1
  have Z13 : n0 ≤ h13.size := Nat.le_trans Z12 (Keep.of_wr W13).1
  refine own_back (fun t k => st13 t k) ?_
  show own_Go _ _ _ _ _ _ _ (T13.setTop (mkF m 68 #[.val (.int x0), .unset] [(.ref b1)]))
  refine own_back (fun t k => XS.dup X13.here hx rfl (hb hby own_d1_68) rfl rfl k) ?_
  show own_Go _ _ _ _ _ _ _ (T13.setTop (mkF m 69 #[.val (.int x0), .unset] [(.ref b1), (.ref b1)]))
  refine own_back (fun t k => XS.bipush X13.here hx rfl (hb hby own_d1_69) k) ?_
  show own_Go _ _ _ _ _ _ _ (T13.setTop (mkF m 71 #[.val (.int x0), .unset] [(.int (12 : Int32)), (.ref b1), (.ref b1)]))
  refine own_back (fun t k => XS.sipush X13.here hx rfl (hb hby own_d1_71) k) ?_
  show own_Go _ _ _ _ _ _ _ (T13.setTop (mkF m 74 #[.val (.int x0), .unset] [(.int (288 : Int32)), (.int (12 : Int32)), (.ref b1), (.ref b1)]))
  obtain ⟨T14, h14, X14, e14, W14, V14, st14⟩ := own_stI X13 hx hZ e13 V13 12 (by decide) (by decide) (g := (mkF m 74 #[.val (.int x0), .unset] [(.int (288 : Int32)), (.int (12 : Int32)), (.ref b1), (.ref b1)])) rfl rfl (hb hby own_d1_74)
  have N14 := Fr.snoc X14 N13 qb1
  have Z14 : n0 ≤ h14.size := Nat.le_trans Z13 (Keep.of_wr W14).1
  refine own_back (fun t k => st14 t k) ?_
  show own_Go _ _ _ _ _ _ _ (T14.setTop (mkF m 75 #[.val (.int x0), .unset] [(.ref b1)]))
  refine own_back (fun t k => XS.dup X14.here hx rfl (hb hby own_d1_75) rfl rfl k) ?_
  show own_Go _ _ _ _ _ _ _ (T14.setTop (mkF m 76 #[.val (.int x0), .unset] [(.ref b1), (.ref b1)]))
  refine own_back (fun t k => XS.bipush X14.here hx rfl (hb hby own_d1_76) k) ?_
  show own_Go _ _ _ _ _ _ _ (T14.setTop (mkF m 78 #[.val (.int x0), .unset] [(.int (13 : Int32)), (.ref b1), (.ref b1)]))
  refine own_back (fun t k => XS.sipush X14.here hx rfl (hb hby own_d1_78) k) ?_
  show own_Go _ _ _ _ _ _ _ (T14.setTop (mkF m 81 #[.val (.int x0), .unset] [(.int (133 : Int32)), (.int (13 : Int32)), (.ref b1), (.ref b1)]))
  obtain ⟨T15, h15, X15, e15, W15, V15, st15⟩ := own_stI X14 hx hZ e14 V14 13 (by decide) (by decide) (g := (mkF m 81 #[.val (.int x0), .unset] [(.int (133 : Int32)), (.int (13 : Int32)), (.ref b1), (.ref b1)])) rfl rfl (hb hby own_d1_81)
  have N15 := Fr.snoc X15 N14 qb1
  have Z15 : n0 ≤ h15.size := Nat.le_trans Z14 (Keep.of_wr W15).1
  refine own_back (fun t k => st15 t k) ?_
  show own_Go _ _ _ _ _ _ _ (T15.setTop (mkF m 82 #[.val (.int x0), .unset] [(.ref b1)]))
  refine own_back (fun t k => XS.dup X15.here hx rfl (hb hby own_d1_82) rfl rfl k) ?_
  show own_Go _ _ _ _ _ _ _ (T15.setTop (mkF m 83 #[.val (.int x0), .unset] [(.ref b1), (.ref b1)]))
  refine own_back (fun t k => XS.bipush X15.here hx rfl (hb hby own_d1_83) k) ?_
  show own_Go _ _ _ _ _ _ _ (T15.setTop (mkF m 85 #[.val (.int x0), .unset] [(.int (14 : Int32)), (.ref b1), (.ref b1)]))
  refine own_back (fun t k => XS.sipush X15.here hx rfl (hb hby own_d1_85) k) ?_
  show own_Go _ _ _ _ _ _ _ (T15.setTop (mkF m 88 #[.val (.int x0), .unset] [(.int (160 : Int32)), (.int (14 : Int32)), (.ref b1), (.ref b1)]))
  obtain ⟨T16, h16, X16, e16, W16, V16, st16⟩ := own_stI X15 hx hZ e15 V15 14 (by decide) (by decide) (g := (mkF m 88 #[.val (.int x0), .unset] [(.int (160 : Int32)), (.int (14 : Int32)), (.ref b1), (.ref b1)])) rfl rfl (hb hby own_d1_88)
  have N16 := Fr.snoc X16 N15 qb1
  have Z16 : n0 ≤ h16.size := Nat.le_trans Z15 (Keep.of_wr W16).1
  refine own_back (fun t k => st16 t k) ?_
  show own_Go _ _ _ _ _ _ _ (T16.setTop (mkF m 89 #[.val (.int x0), .unset] [(.ref b1)]))
  refine own_back (fun t k => XS.dup X16.here hx rfl (hb hby own_d1_89) rfl rfl k) ?_
  show own_Go _ _ _ _ _ _ _ (T16.setTop (mkF m 90 #[.val (.int x0), .unset] [(.ref b1), (.ref b1)]))
  refine own_back (fun t k => XS.bipush X16.here hx rfl (hb hby own_d1_90) k) ?_
  show own_Go _ _ _ _ _ _ _ (T16.setTop (mkF m 92 #[.val (.int x0), .unset] [(.int (15 : Int32)), (.ref b1), (.ref b1)]))
  refine own_back (fun t k => X16.ldcInt hx hown (mvT hZ (hw _ (List.mem_of_getElem? (i := 5) rfl))) (g := (mkF m 92 #[.val (.int x0), .unset] [(.int (15 : Int32)), (.ref b1), (.ref b1)])) rfl (hb hby own_d1_92) _ k) ?_
  show own_Go _ _ _ _ _ _ _ (T16.setTop (mkF m 94 #[.val (.int x0), .unset] [(.int (65568 : Int32)), (.int (15 : Int32)), (.ref b1), (.ref b1)]))
  obtain ⟨T17, h17, X17, e17, W17, V17, st17⟩ := own_stI X16 hx hZ e16 V16 15 (by decide) (by decide) (g := (mkF m 94 #[.val (.int x0), .unset] [(.int (65568 : Int32)), (.int (15 : Int32)), (.ref b1), (.ref b1)])) rfl rfl (hb hby own_d1_94)
  have N17 := Fr.snoc X17 N16 qb1
  have Z17 : n0 ≤ h17.size := Nat.le_trans Z16 (Keep.of_wr W17).1
  refine own_back (fun t k => st17 t k) ?_
  show own_Go _ _ _ _ _ _ _ (T17.setTop (mkF m 95 #[.val (.int x0), .unset] [(.ref b1)]))
  refine own_back (fun t k => XS.astoreN X17.here hx rfl (hb hby own_d1_95) rfl rfl (l' := #[.val (.int x0), .val (.ref b1)]) rfl k) ?_
  have Vb1 := own_VA_congr (g := fun k => .int (own_tab1 k)) V17 (by decide +kernel)
  show own_Go _ _ _ _ _ _ _ (T17.setTop (mkF m 96 #[.val (.int x0), .val (.ref b1)] []))
  refine own_back (fun t k => XS.aloadN X17.here hx rfl (hb hby own_d1_96) rfl rfl k) ?_
  show own_Go _ _ _ _ _ _ _ (T17.setTop (mkF m 97 #[.val (.int x0), .val (.ref b1)] [(.ref b1)]))
  refine own_back (fun t k => XS.iloadN X17.here hx rfl (hb hby own_d1_97) rfl k) ?_
  show own_Go _ _ _ _ _ _ _ (T17.setTop (mkF m 98 #[.val (.int x0), .val (.ref b1)] [(.int x0), (.ref b1)]))
  refine own_back (fun t k => XS.bipush X17.here hx rfl (hb hby own_d1_98) k) ?_
  show own_Go _ _ _ _ _ _ _ (T17.setTop (mkF m 100 #[.val (.int x0), .val (.ref b1)] [(.int (15 : Int32)), (.int x0), (.ref b1)]))
  refine own_back (fun t k => XS.iand X17.here hx rfl (hb hby own_d1_100) rfl k) ?_
  show own_Go _ _ _ _ _ _ _ (T17.setTop (mkF m 101 #[.val (.int x0), .val (.ref b1)] [(.int (x0 &&& (15 : Int32))), (.ref b1)]))
  refine own_back (fun t k => own_ldI X17 hx hZ e17 Vb1 (j := (x0 &&& (15 : Int32))) (w := (own_tab1 (x0 &&& (15 : Int32)).toNatClampNeg)) (own_and15 x0) rfl (g := (mkF m 101 #[.val (.int x0), .val (.ref b1)] [(.int (x0 &&& (15 : Int32))), (.ref b1)])) rfl rfl (hb hby own_d1_101) t k) ?_
  show own_Go _ _ _ _ _ _ _ (T17.setTop (mkF m 102 #[.val (.int x0), .val (.ref b1)] [(.int (own_tab1 (x0 &&& (15 : Int32)).toNatClampNeg))]))
  subst hR
  exact own_retI X17 hx hret (hb hby own_d1_102) hlk ⟨rfl, N17, by rw [e17]; exact Z17⟩ (by decide) (by decide)
theorem own_pn1 : plainName "kartoteka/BibtexIsSpacePinLaw" = true := by first | (simp [plainName, overriddenIn]; done) | decide +kernel
theorem own_ef1 (m : MethodId) (x0 : Int32) : entryFrame m #[(.int x0)] 2 = mkF m 0 #[.val (.int x0), .unset] [] := by first | (simp [entryFrame, mkF, argsToLocals, Value.category]; done) | rfl
set_option maxRecDepth 65536 in
set_option maxHeartbeats 4000000 in
theorem own_rm1 (l : Launch) (Z : State) (a0 : Array Value) (hw : ∀ d ∈ tables_1, d.before a0 Z = true) (ws : List Jvm.Cond) (x0 : Int32) (h0 : Heap) (n0 : Nat) (Z0 : n0 ≤ h0.size) :
    MetFree l (⟨"kartoteka/BibtexIsSpacePinLaw", "pick", "(I)I"⟩ : MethodName) (head1 (Jvm.Cond.code (⟨"kartoteka/BibtexIsSpacePinLaw", "pick", "(I)I"⟩ : MethodName) method_3_code 2 (some .int) :: ws) ({ frames := 0, cells := 1, slots := 16, locals := 0 } : Room)) (fun a U => a = #[(.int x0)] ∧ Z.Warmed39 U.vm ∧ U.heap = h0) (fun _ _ _ _ _ => True) (fun _ U o U' => ∃ v L, o = .returned v ∧ own_QG (.int (own_f1_0 x0)) h0 n0 v U'.heap L ∧ FrameEnd U o U' L ({ frames := 0, cells := 1, slots := 16, locals := 0 } : Room).cells ({ frames := 0, cells := 1, slots := 16, locals := 0 } : Room).slots) := by
  refine MetFree.of_bodySF (plainFor_of_name own_pn1) hisR ?_
  intro p e s m args below meth c s₁ Bd hml0 hP hK
  obtain ⟨rfl, hZ, hh⟩ := hP
  have X0 : Stand p l e ({ frames := 0, cells := 1, slots := 16, locals := 0 } : Room) s m #[(.int x0)] below meth c s₁ [] 0 0 := Stand.of_body Bd
  have e0 : s₁.heap = h0 := by rw [← hh, Bd.state]; rfl
  refine own_back (s := s) (fun t k => castTop (own_ef1 m x0) k) ?_
  exact own_l1_0 X0 Bd.exec hZ hw Bd.bytes hml0 (findClass_of_methodNamed Bd.named) Bd.returns (BodyLoose.notSynchronized Bd) e0 (Fr.nil n0) Z0 x0 rfl
/-! body 2: kartoteka/Bibtex.isSpace:(I)Z -/
theorem own_d2_0 : decode prog_5_method_15_code 0 = .ok (.iload_n 0, 1) := by decide +kernel
theorem own_d2_1 : decode prog_5_method_15_code 1 = .ok (.bipush 32, 2) := by decide +kernel
theorem own_d2_3 : decode prog_5_method_15_code 3 = .ok (.if_icmp .eq 21, 3) := by decide +kernel
theorem own_d2_6 : decode prog_5_method_15_code 6 = .ok (.iload_n 0, 1) := by decide +kernel
theorem own_d2_7 : decode prog_5_method_15_code 7 = .ok (.bipush 9, 2) := by decide +kernel
theorem own_d2_9 : decode prog_5_method_15_code 9 = .ok (.if_icmp .eq 15, 3) := by decide +kernel
theorem own_d2_12 : decode prog_5_method_15_code 12 = .ok (.iload_n 0, 1) := by decide +kernel
theorem own_d2_13 : decode prog_5_method_15_code 13 = .ok (.bipush 10, 2) := by decide +kernel
theorem own_d2_15 : decode prog_5_method_15_code 15 = .ok (.if_icmp .eq 9, 3) := by decide +kernel
theorem own_d2_18 : decode prog_5_method_15_code 18 = .ok (.iload_n 0, 1) := by decide +kernel
theorem own_d2_19 : decode prog_5_method_15_code 19 = .ok (.bipush 13, 2) := by decide +kernel
theorem own_d2_21 : decode prog_5_method_15_code 21 = .ok (.if_icmp .ne 7, 3) := by decide +kernel
theorem own_d2_24 : decode prog_5_method_15_code 24 = .ok (.iconst 1, 1) := by decide +kernel
theorem own_d2_25 : decode prog_5_method_15_code 25 = .ok (.goto 4, 3) := by decide +kernel
theorem own_d2_28 : decode prog_5_method_15_code 28 = .ok (.iconst 0, 1) := by decide +kernel
theorem own_d2_29 : decode prog_5_method_15_code 29 = .ok (.ireturn, 1) := by decide +kernel
def own_f2_0 (x0 : Int32) : Int32 := (if x0 = (32 : Int32) then (1 : Int32) else (if x0 = (9 : Int32) then (1 : Int32) else (if x0 = (10 : Int32) then (1 : Int32) else (if x0 = (13 : Int32) then (1 : Int32) else (0 : Int32)))))
set_option maxRecDepth 65536 in
set_option maxHeartbeats 4000000 in
theorem own_l2_0 {p : Program} {l : Launch} {e : Env} {s : State} {m : MethodId} {args : Array Value} {below : List Frame} {meth : Method} {c : Code} {T : State} {locs : List Loc} {Z : State} {a0 : Array Value} {h0 : Heap} {n0 : Nat}
    (X : Stand p l e ({ frames := 0, cells := 0, slots := 0, locals := 0 } : Room) s m args below meth c T locs 0 0) (hx : p.tables.exec = Jvm.exec) (hZ : Z.Warmed39 s.vm) (hw : ∀ d ∈ tables_1, d.before a0 Z = true) (hby : c.code = prog_5_method_15_code) (hml : c.maxLocals = 1) (hown : s.vm.findClass "kartoteka/Bibtex" = some m.cls) (hret : meth.sig.returnType = some .boolean) (hlk : meth.locks = false) (e0 : T.heap = h0) (N : Fr n0 locs) (Z0 : n0 ≤ h0.size)
    (x0 : Int32) {r : Int32} (hR : r = own_f2_0 x0) : own_Go p e below s ({ frames := 0, cells := 0, slots := 0, locals := 0 } : Room).cells ({ frames := 0, cells := 0, slots := 0, locals := 0 } : Room).slots (own_QP (.int r) h0 n0) (T.setTop (mkF m 0 #[.val (.int x0)] [])) := by
  unfold own_f2_0 at hR
  refine own_back (fun t k => XS.iloadN X.here hx rfl (hb hby own_d2_0) rfl k) ?_
  show own_Go _ _ _ _ _ _ _ (T.setTop (mkF m 1 #[.val (.int x0)] [(.int x0)]))
  refine own_back (fun t k => XS.bipush X.here hx rfl (hb hby own_d2_1) k) ?_
  show own_Go _ _ _ _ _ _ _ (T.setTop (mkF m 3 #[.val (.int x0)] [(.int (32 : Int32)), (.int x0)]))
  by_cases hc3 : x0 = (32 : Int32)
  · rw [if_pos hc3] at hR
    refine own_back (fun t k => XS.icmpYes X.here hx rfl (pc0 := 3) (pc' := 24) rfl (hb hby own_d2_3) rfl (teq hc3).1 (by decide) (by decide) k) ?_
    show own_Go _ _ _ _ _ _ _ (T.setTop (mkF m 24 #[.val (.int x0)] []))
    refine own_back (fun t k => XS.iconst X.here hx rfl (hb hby own_d2_24) k) ?_
    show own_Go _ _ _ _ _ _ _ (T.setTop (mkF m 25 #[.val (.int x0)] [(.int (1 : Int32))]))
    refine own_back (fun t k => XS.goto X.here hx rfl (pc0 := 25) (pc' := 29) rfl (hb hby own_d2_25) (by decide) (by decide) k) ?_
    show own_Go _ _ _ _ _ _ _ (T.setTop (mkF m 29 #[.val (.int x0)] [(.int (1 : Int32))]))
    subst hR
    exact own_retN X hx (t := .boolean) hret (by simp) (hb hby own_d2_29) hlk (by decide) ⟨rfl, N, e0⟩ (by decide) (by decide)
  · rw [if_neg hc3] at hR
    refine own_back (fun t k => XS.icmpNo X.here hx rfl (hb hby own_d2_3) rfl (feq hc3).1 k) ?_
    show own_Go _ _ _ _ _ _ _ (T.setTop (mkF m 6 #[.val (.int x0)] []))
    refine own_back (fun t k => XS.iloadN X.here hx rfl (hb hby own_d2_6) rfl k) ?_
    show own_Go _ _ _ _ _ _ _ (T.setTop (mkF m 7 #[.val (.int x0)] [(.int x0)]))
    refine own_back (fun t k => XS.bipush X.here hx rfl (hb hby own_d2_7) k) ?_
    show own_Go _ _ _ _ _ _ _ (T.setTop (mkF m 9 #[.val (.int x0)] [(.int (9 : Int32)), (.int x0)]))
    by_cases hc9 : x0 = (9 : Int32)
    · rw [if_pos hc9] at hR
      refine own_back (fun t k => XS.icmpYes X.here hx rfl (pc0 := 9) (pc' := 24) rfl (hb hby own_d2_9) rfl (teq hc9).1 (by decide) (by decide) k) ?_
      show own_Go _ _ _ _ _ _ _ (T.setTop (mkF m 24 #[.val (.int x0)] []))
      refine own_back (fun t k => XS.iconst X.here hx rfl (hb hby own_d2_24) k) ?_
      show own_Go _ _ _ _ _ _ _ (T.setTop (mkF m 25 #[.val (.int x0)] [(.int (1 : Int32))]))
      refine own_back (fun t k => XS.goto X.here hx rfl (pc0 := 25) (pc' := 29) rfl (hb hby own_d2_25) (by decide) (by decide) k) ?_
      show own_Go _ _ _ _ _ _ _ (T.setTop (mkF m 29 #[.val (.int x0)] [(.int (1 : Int32))]))
      subst hR
      exact own_retN X hx (t := .boolean) hret (by simp) (hb hby own_d2_29) hlk (by decide) ⟨rfl, N, e0⟩ (by decide) (by decide)
    · rw [if_neg hc9] at hR
      refine own_back (fun t k => XS.icmpNo X.here hx rfl (hb hby own_d2_9) rfl (feq hc9).1 k) ?_
      show own_Go _ _ _ _ _ _ _ (T.setTop (mkF m 12 #[.val (.int x0)] []))
      refine own_back (fun t k => XS.iloadN X.here hx rfl (hb hby own_d2_12) rfl k) ?_
      show own_Go _ _ _ _ _ _ _ (T.setTop (mkF m 13 #[.val (.int x0)] [(.int x0)]))
      refine own_back (fun t k => XS.bipush X.here hx rfl (hb hby own_d2_13) k) ?_
      show own_Go _ _ _ _ _ _ _ (T.setTop (mkF m 15 #[.val (.int x0)] [(.int (10 : Int32)), (.int x0)]))
      by_cases hc15 : x0 = (10 : Int32)
      · rw [if_pos hc15] at hR
        refine own_back (fun t k => XS.icmpYes X.here hx rfl (pc0 := 15) (pc' := 24) rfl (hb hby own_d2_15) rfl (teq hc15).1 (by decide) (by decide) k) ?_
        show own_Go _ _ _ _ _ _ _ (T.setTop (mkF m 24 #[.val (.int x0)] []))
        refine own_back (fun t k => XS.iconst X.here hx rfl (hb hby own_d2_24) k) ?_
        show own_Go _ _ _ _ _ _ _ (T.setTop (mkF m 25 #[.val (.int x0)] [(.int (1 : Int32))]))
        refine own_back (fun t k => XS.goto X.here hx rfl (pc0 := 25) (pc' := 29) rfl (hb hby own_d2_25) (by decide) (by decide) k) ?_
        show own_Go _ _ _ _ _ _ _ (T.setTop (mkF m 29 #[.val (.int x0)] [(.int (1 : Int32))]))
        subst hR
        exact own_retN X hx (t := .boolean) hret (by simp) (hb hby own_d2_29) hlk (by decide) ⟨rfl, N, e0⟩ (by decide) (by decide)
      · rw [if_neg hc15] at hR
        refine own_back (fun t k => XS.icmpNo X.here hx rfl (hb hby own_d2_15) rfl (feq hc15).1 k) ?_
        show own_Go _ _ _ _ _ _ _ (T.setTop (mkF m 18 #[.val (.int x0)] []))
        refine own_back (fun t k => XS.iloadN X.here hx rfl (hb hby own_d2_18) rfl k) ?_
        show own_Go _ _ _ _ _ _ _ (T.setTop (mkF m 19 #[.val (.int x0)] [(.int x0)]))
        refine own_back (fun t k => XS.bipush X.here hx rfl (hb hby own_d2_19) k) ?_
        show own_Go _ _ _ _ _ _ _ (T.setTop (mkF m 21 #[.val (.int x0)] [(.int (13 : Int32)), (.int x0)]))
        by_cases hc21 : x0 = (13 : Int32)
        · rw [if_pos hc21] at hR
          refine own_back (fun t k => XS.icmpNo X.here hx rfl (hb hby own_d2_21) rfl (teq hc21).2 k) ?_
          show own_Go _ _ _ _ _ _ _ (T.setTop (mkF m 24 #[.val (.int x0)] []))
          refine own_back (fun t k => XS.iconst X.here hx rfl (hb hby own_d2_24) k) ?_
          show own_Go _ _ _ _ _ _ _ (T.setTop (mkF m 25 #[.val (.int x0)] [(.int (1 : Int32))]))
          refine own_back (fun t k => XS.goto X.here hx rfl (pc0 := 25) (pc' := 29) rfl (hb hby own_d2_25) (by decide) (by decide) k) ?_
          show own_Go _ _ _ _ _ _ _ (T.setTop (mkF m 29 #[.val (.int x0)] [(.int (1 : Int32))]))
          subst hR
          exact own_retN X hx (t := .boolean) hret (by simp) (hb hby own_d2_29) hlk (by decide) ⟨rfl, N, e0⟩ (by decide) (by decide)
        · rw [if_neg hc21] at hR
          refine own_back (fun t k => XS.icmpYes X.here hx rfl (pc0 := 21) (pc' := 28) rfl (hb hby own_d2_21) rfl (feq hc21).2 (by decide) (by decide) k) ?_
          show own_Go _ _ _ _ _ _ _ (T.setTop (mkF m 28 #[.val (.int x0)] []))
          refine own_back (fun t k => XS.iconst X.here hx rfl (hb hby own_d2_28) k) ?_
          show own_Go _ _ _ _ _ _ _ (T.setTop (mkF m 29 #[.val (.int x0)] [(.int (0 : Int32))]))
          subst hR
          exact own_retN X hx (t := .boolean) hret (by simp) (hb hby own_d2_29) hlk (by decide) ⟨rfl, N, e0⟩ (by decide) (by decide)
theorem own_pn2 : plainName "kartoteka/Bibtex" = true := by first | (simp [plainName, overriddenIn]; done) | decide +kernel
theorem own_ef2 (m : MethodId) (x0 : Int32) : entryFrame m #[(.int x0)] 1 = mkF m 0 #[.val (.int x0)] [] := by first | (simp [entryFrame, mkF, argsToLocals, Value.category]; done) | rfl
set_option maxRecDepth 65536 in
set_option maxHeartbeats 4000000 in
theorem own_rm2 (l : Launch) (Z : State) (a0 : Array Value) (hw : ∀ d ∈ tables_1, d.before a0 Z = true) (ws : List Jvm.Cond) (x0 : Int32) (h0 : Heap) (n0 : Nat) (Z0 : n0 ≤ h0.size) :
    MetFree l (⟨"kartoteka/Bibtex", "isSpace", "(I)Z"⟩ : MethodName) (head1 (Jvm.Cond.code (⟨"kartoteka/Bibtex", "isSpace", "(I)Z"⟩ : MethodName) prog_5_method_15_code 1 (some .boolean) :: ws) ({ frames := 0, cells := 0, slots := 0, locals := 0 } : Room)) (fun a U => a = #[(.int x0)] ∧ Z.Warmed39 U.vm ∧ U.heap = h0) (fun _ _ _ _ _ => True) (fun _ U o U' => ∃ v L, o = .returned v ∧ own_QP (.int (own_f2_0 x0)) h0 n0 v U'.heap L ∧ FrameEnd U o U' L ({ frames := 0, cells := 0, slots := 0, locals := 0 } : Room).cells ({ frames := 0, cells := 0, slots := 0, locals := 0 } : Room).slots) := by
  refine MetFree.of_bodySF (plainFor_of_name own_pn2) hisR ?_
  intro p e s m args below meth c s₁ Bd hml0 hP hK
  obtain ⟨rfl, hZ, hh⟩ := hP
  have X0 : Stand p l e ({ frames := 0, cells := 0, slots := 0, locals := 0 } : Room) s m #[(.int x0)] below meth c s₁ [] 0 0 := Stand.of_body Bd
  have e0 : s₁.heap = h0 := by rw [← hh, Bd.state]; rfl
  refine own_back (s := s) (fun t k => castTop (own_ef2 m x0) k) ?_
  exact own_l2_0 X0 Bd.exec hZ hw Bd.bytes hml0 (findClass_of_methodNamed Bd.named) Bd.returns (BodyLoose.notSynchronized Bd) e0 (Fr.nil n0) Z0 x0 rfl
/-! body 3: kartoteka/BibtexIsSpacePinLaw.reference:(I)Z -/
theorem own_d3_0 : decode method_2_code 0 = .ok (.ldc2_w 7, 3) := by decide +kernel
theorem own_d3_3 : decode method_2_code 3 = .ok (.lstore_n 1, 1) := by decide +kernel
theorem own_d3_4 : decode method_2_code 4 = .ok (.iload_n 0, 1) := by decide +kernel
theorem own_d3_5 : decode method_2_code 5 = .ok (.ifCond .lt 23, 3) := by decide +kernel
theorem own_d3_8 : decode method_2_code 8 = .ok (.iload_n 0, 1) := by decide +kernel
theorem own_d3_9 : decode method_2_code 9 = .ok (.bipush 64, 2) := by decide +kernel
theorem own_d3_11 : decode method_2_code 11 = .ok (.if_icmp .ge 17, 3) := by decide +kernel
theorem own_d3_14 : decode method_2_code 14 = .ok (.lconst 1, 1) := by decide +kernel
theorem own_d3_15 : decode method_2_code 15 = .ok (.iload_n 0, 1) := by decide +kernel
theorem own_d3_16 : decode method_2_code 16 = .ok (.lshl, 1) := by decide +kernel
theorem own_d3_17 : decode method_2_code 17 = .ok (.lload_n 1, 1) := by decide +kernel
theorem own_d3_18 : decode method_2_code 18 = .ok (.land, 1) := by decide +kernel
theorem own_d3_19 : decode method_2_code 19 = .ok (.lconst 0, 1) := by decide +kernel
theorem own_d3_20 : decode method_2_code 20 = .ok (.lcmp, 1) := by decide +kernel
theorem own_d3_21 : decode method_2_code 21 = .ok (.ifCond .eq 7, 3) := by decide +kernel
theorem own_d3_24 : decode method_2_code 24 = .ok (.iconst 1, 1) := by decide +kernel
theorem own_d3_25 : decode method_2_code 25 = .ok (.goto 4, 3) := by decide +kernel
theorem own_d3_28 : decode method_2_code 28 = .ok (.iconst 0, 1) := by decide +kernel
theorem own_d3_29 : decode method_2_code 29 = .ok (.ireturn, 1) := by decide +kernel
def own_f3_0 (x0 : Int32) : Int32 := (if x0 < (0 : Int32) then (0 : Int32) else (if x0 < (64 : Int32) then (if (lcmpW (((1 : Int64) <<< (x0 &&& 0x3f).toInt64) &&& (4294977024 : Int64)) (0 : Int64)) = (0 : Int32) then (0 : Int32) else (1 : Int32)) else (0 : Int32)))
set_option maxRecDepth 65536 in
set_option maxHeartbeats 4000000 in
theorem own_l3_0 {p : Program} {l : Launch} {e : Env} {s : State} {m : MethodId} {args : Array Value} {below : List Frame} {meth : Method} {c : Code} {T : State} {locs : List Loc} {Z : State} {a0 : Array Value} {h0 : Heap} {n0 : Nat}
    (X : Stand p l e ({ frames := 0, cells := 0, slots := 0, locals := 0 } : Room) s m args below meth c T locs 0 0) (hx : p.tables.exec = Jvm.exec) (hZ : Z.Warmed39 s.vm) (hw : ∀ d ∈ tables_1, d.before a0 Z = true) (hby : c.code = method_2_code) (hml : c.maxLocals = 3) (hown : s.vm.findClass "kartoteka/BibtexIsSpacePinLaw" = some m.cls) (hret : meth.sig.returnType = some .boolean) (hlk : meth.locks = false) (e0 : T.heap = h0) (N : Fr n0 locs) (Z0 : n0 ≤ h0.size)
    (x0 : Int32) {r : Int32} (hR : r = own_f3_0 x0) : own_Go p e below s ({ frames := 0, cells := 0, slots := 0, locals := 0 } : Room).cells ({ frames := 0, cells := 0, slots := 0, locals := 0 } : Room).slots (own_QP (.int r) h0 n0) (T.setTop (mkF m 0 #[.val (.int x0), .unset, .unset] [])) := by
  unfold own_f3_0 at hR
  refine own_back (fun t k => X.ldc2Long hx hown (mvT hZ (hw _ (List.mem_of_getElem? (i := 13) rfl))) (g := (mkF m 0 #[.val (.int x0), .unset, .unset] [])) rfl (hb hby own_d3_0) _ k) ?_
  show own_Go _ _ _ _ _ _ _ (T.setTop (mkF m 3 #[.val (.int x0), .unset, .unset] [(.long (4294977024 : Int64))]))
  refine own_back (fun t k => XS.lstoreN X.here hx rfl (hb hby own_d3_3) rfl (l' := #[.val (.int x0), .val (.long (4294977024 : Int64)), .second]) rfl k) ?_
  show own_Go _ _ _ _ _ _ _ (T.setTop (mkF m 4 #[.val (.int x0), .val (.long (4294977024 : Int64)), .second] []))
  refine own_back (fun t k => XS.iloadN X.here hx rfl (hb hby own_d3_4) rfl k) ?_
  show own_Go _ _ _ _ _ _ _ (T.setTop (mkF m 5 #[.val (.int x0), .val (.long (4294977024 : Int64)), .second] [(.int x0)]))
  by_cases hc5 : x0 < (0 : Int32)
  · rw [if_pos hc5] at hR
    refine own_back (fun t k => XS.ifYes X.here hx rfl (pc0 := 5) (pc' := 28) rfl (hb hby own_d3_5) rfl ((if0 _ _).trans (tlt hc5).1) (by decide) (by decide) k) ?_
    show own_Go _ _ _ _ _ _ _ (T.setTop (mkF m 28 #[.val (.int x0), .val (.long (4294977024 : Int64)), .second] []))
    refine own_back (fun t k => XS.iconst X.here hx rfl (hb hby own_d3_28) k) ?_
    show own_Go _ _ _ _ _ _ _ (T.setTop (mkF m 29 #[.val (.int x0), .val (.long (4294977024 : Int64)), .second] [(.int (0 : Int32))]))
    subst hR
    exact own_retN X hx (t := .boolean) hret (by simp) (hb hby own_d3_29) hlk (by decide) ⟨rfl, N, e0⟩ (by decide) (by decide)
  · rw [if_neg hc5] at hR
    refine own_back (fun t k => XS.ifNo X.here hx rfl (hb hby own_d3_5) rfl ((if0 _ _).trans (flt hc5).1) k) ?_
    show own_Go _ _ _ _ _ _ _ (T.setTop (mkF m 8 #[.val (.int x0), .val (.long (4294977024 : Int64)), .second] []))
    refine own_back (fun t k => XS.iloadN X.here hx rfl (hb hby own_d3_8) rfl k) ?_
    show own_Go _ _ _ _ _ _ _ (T.setTop (mkF m 9 #[.val (.int x0), .val (.long (4294977024 : Int64)), .second] [(.int x0)]))
    refine own_back (fun t k => XS.bipush X.here hx rfl (hb hby own_d3_9) k) ?_
    show own_Go _ _ _ _ _ _ _ (T.setTop (mkF m 11 #[.val (.int x0), .val (.long (4294977024 : Int64)), .second] [(.int (64 : Int32)), (.int x0)]))
    by_cases hc11 : x0 < (64 : Int32)
    · rw [if_pos hc11] at hR
      refine own_back (fun t k => XS.icmpNo X.here hx rfl (hb hby own_d3_11) rfl (tlt hc11).2.1 k) ?_
      show own_Go _ _ _ _ _ _ _ (T.setTop (mkF m 14 #[.val (.int x0), .val (.long (4294977024 : Int64)), .second] []))
      refine own_back (fun t k => XS.lconst X.here hx rfl (hb hby own_d3_14) k) ?_
      show own_Go _ _ _ _ _ _ _ (T.setTop (mkF m 15 #[.val (.int x0), .val (.long (4294977024 : Int64)), .second] [(.long (1 : Int64))]))
      refine own_back (fun t k => XS.iloadN X.here hx rfl (hb hby own_d3_15) rfl k) ?_
      show own_Go _ _ _ _ _ _ _ (T.setTop (mkF m 16 #[.val (.int x0), .val (.long (4294977024 : Int64)), .second] [(.int x0), (.long (1 : Int64))]))
      refine own_back (fun t k => XS.lshl X.here hx rfl (hb hby own_d3_16) rfl k) ?_
      show own_Go _ _ _ _ _ _ _ (T.setTop (mkF m 17 #[.val (.int x0), .val (.long (4294977024 : Int64)), .second] [(.long ((1 : Int64) <<< (x0 &&& 0x3f).toInt64))]))
      refine own_back (fun t k => XS.lloadN X.here hx rfl (hb hby own_d3_17) rfl k) ?_
      show own_Go _ _ _ _ _ _ _ (T.setTop (mkF m 18 #[.val (.int x0), .val (.long (4294977024 : Int64)), .second] [(.long (4294977024 : Int64)), (.long ((1 : Int64) <<< (x0 &&& 0x3f).toInt64))]))
      refine own_back (fun t k => XS.land X.here hx rfl (hb hby own_d3_18) rfl k) ?_
      show own_Go _ _ _ _ _ _ _ (T.setTop (mkF m 19 #[.val (.int x0), .val (.long (4294977024 : Int64)), .second] [(.long (((1 : Int64) <<< (x0 &&& 0x3f).toInt64) &&& (4294977024 : Int64)))]))
      refine own_back (fun t k => XS.lconst X.here hx rfl (hb hby own_d3_19) k) ?_
      show own_Go _ _ _ _ _ _ _ (T.setTop (mkF m 20 #[.val (.int x0), .val (.long (4294977024 : Int64)), .second] [(.long (0 : Int64)), (.long (((1 : Int64) <<< (x0 &&& 0x3f).toInt64) &&& (4294977024 : Int64)))]))
      refine own_back (fun t k => XS.lcmp X.here hx rfl (hb hby own_d3_20) rfl k) ?_
      show own_Go _ _ _ _ _ _ _ (T.setTop (mkF m 21 #[.val (.int x0), .val (.long (4294977024 : Int64)), .second] [(.int (lcmpW (((1 : Int64) <<< (x0 &&& 0x3f).toInt64) &&& (4294977024 : Int64)) (0 : Int64)))]))
      by_cases hc21 : (lcmpW (((1 : Int64) <<< (x0 &&& 0x3f).toInt64) &&& (4294977024 : Int64)) (0 : Int64)) = (0 : Int32)
      · rw [if_pos hc21] at hR
        refine own_back (fun t k => XS.ifYes X.here hx rfl (pc0 := 21) (pc' := 28) rfl (hb hby own_d3_21) rfl ((if0 _ _).trans (teq hc21).1) (by decide) (by decide) k) ?_
        show own_Go _ _ _ _ _ _ _ (T.setTop (mkF m 28 #[.val (.int x0), .val (.long (4294977024 : Int64)), .second] []))
        refine own_back (fun t k => XS.iconst X.here hx rfl (hb hby own_d3_28) k) ?_
        show own_Go _ _ _ _ _ _ _ (T.setTop (mkF m 29 #[.val (.int x0), .val (.long (4294977024 : Int64)), .second] [(.int (0 : Int32))]))
        subst hR
        exact own_retN X hx (t := .boolean) hret (by simp) (hb hby own_d3_29) hlk (by decide) ⟨rfl, N, e0⟩ (by decide) (by decide)
      · rw [if_neg hc21] at hR
        refine own_back (fun t k => XS.ifNo X.here hx rfl (hb hby own_d3_21) rfl ((if0 _ _).trans (feq hc21).1) k) ?_
        show own_Go _ _ _ _ _ _ _ (T.setTop (mkF m 24 #[.val (.int x0), .val (.long (4294977024 : Int64)), .second] []))
        refine own_back (fun t k => XS.iconst X.here hx rfl (hb hby own_d3_24) k) ?_
        show own_Go _ _ _ _ _ _ _ (T.setTop (mkF m 25 #[.val (.int x0), .val (.long (4294977024 : Int64)), .second] [(.int (1 : Int32))]))
        refine own_back (fun t k => XS.goto X.here hx rfl (pc0 := 25) (pc' := 29) rfl (hb hby own_d3_25) (by decide) (by decide) k) ?_
        show own_Go _ _ _ _ _ _ _ (T.setTop (mkF m 29 #[.val (.int x0), .val (.long (4294977024 : Int64)), .second] [(.int (1 : Int32))]))
        subst hR
        exact own_retN X hx (t := .boolean) hret (by simp) (hb hby own_d3_29) hlk (by decide) ⟨rfl, N, e0⟩ (by decide) (by decide)
    · rw [if_neg hc11] at hR
      refine own_back (fun t k => XS.icmpYes X.here hx rfl (pc0 := 11) (pc' := 28) rfl (hb hby own_d3_11) rfl (flt hc11).2.1 (by decide) (by decide) k) ?_
      show own_Go _ _ _ _ _ _ _ (T.setTop (mkF m 28 #[.val (.int x0), .val (.long (4294977024 : Int64)), .second] []))
      refine own_back (fun t k => XS.iconst X.here hx rfl (hb hby own_d3_28) k) ?_
      show own_Go _ _ _ _ _ _ _ (T.setTop (mkF m 29 #[.val (.int x0), .val (.long (4294977024 : Int64)), .second] [(.int (0 : Int32))]))
      subst hR
      exact own_retN X hx (t := .boolean) hret (by simp) (hb hby own_d3_29) hlk (by decide) ⟨rfl, N, e0⟩ (by decide) (by decide)
theorem own_pn3 : plainName "kartoteka/BibtexIsSpacePinLaw" = true := by first | (simp [plainName, overriddenIn]; done) | decide +kernel
theorem own_ef3 (m : MethodId) (x0 : Int32) : entryFrame m #[(.int x0)] 3 = mkF m 0 #[.val (.int x0), .unset, .unset] [] := by first | (simp [entryFrame, mkF, argsToLocals, Value.category]; done) | rfl
set_option maxRecDepth 65536 in
set_option maxHeartbeats 4000000 in
theorem own_rm3 (l : Launch) (Z : State) (a0 : Array Value) (hw : ∀ d ∈ tables_1, d.before a0 Z = true) (ws : List Jvm.Cond) (x0 : Int32) (h0 : Heap) (n0 : Nat) (Z0 : n0 ≤ h0.size) :
    MetFree l (⟨"kartoteka/BibtexIsSpacePinLaw", "reference", "(I)Z"⟩ : MethodName) (head1 (Jvm.Cond.code (⟨"kartoteka/BibtexIsSpacePinLaw", "reference", "(I)Z"⟩ : MethodName) method_2_code 3 (some .boolean) :: ws) ({ frames := 0, cells := 0, slots := 0, locals := 0 } : Room)) (fun a U => a = #[(.int x0)] ∧ Z.Warmed39 U.vm ∧ U.heap = h0) (fun _ _ _ _ _ => True) (fun _ U o U' => ∃ v L, o = .returned v ∧ own_QP (.int (own_f3_0 x0)) h0 n0 v U'.heap L ∧ FrameEnd U o U' L ({ frames := 0, cells := 0, slots := 0, locals := 0 } : Room).cells ({ frames := 0, cells := 0, slots := 0, locals := 0 } : Room).slots) := by
  refine MetFree.of_bodySF (plainFor_of_name own_pn3) hisR ?_
  intro p e s m args below meth c s₁ Bd hml0 hP hK
  obtain ⟨rfl, hZ, hh⟩ := hP
  have X0 : Stand p l e ({ frames := 0, cells := 0, slots := 0, locals := 0 } : Room) s m #[(.int x0)] below meth c s₁ [] 0 0 := Stand.of_body Bd
  have e0 : s₁.heap = h0 := by rw [← hh, Bd.state]; rfl
  refine own_back (s := s) (fun t k => castTop (own_ef3 m x0) k) ?_
  exact own_l3_0 X0 Bd.exec hZ hw Bd.bytes hml0 (findClass_of_methodNamed Bd.named) Bd.returns (BodyLoose.notSynchronized Bd) e0 (Fr.nil n0) Z0 x0 rfl
theorem own_pd0 : parseMethodDescriptor "(I)I" = some ⟨[.int], some .int⟩ := by decide +kernel
theorem own_pd1 : parseMethodDescriptor "(I)Z" = some ⟨[.int], some .boolean⟩ := by decide +kernel
/-! body 0: kartoteka/BibtexIsSpacePinLaw.law:(II)Z -/
def own_f0_0 (x0 : Int32) (x1 : Int32) : Int32 := (if (own_f2_0 x0) = (own_f3_0 x0) then (if (own_f2_0 (own_f1_0 x1)) = (own_f3_0 (own_f1_0 x1)) then (1 : Int32) else (0 : Int32)) else (0 : Int32))
set_option maxRecDepth 65536 in
set_option maxHeartbeats 4000000 in
theorem own_l0_0 {p : Program} {l : Launch} {e : Env} {s : State} {m : MethodId} {args : Array Value} {below : List Frame} {meth : Method} {c : Code} {T : State} {locs : List Loc} {Z : State} {a0 : Array Value} {h0 : Heap} {n0 : Nat}
    (X : Stand p l e room_1 s m args below meth c T locs 0 0) (hx : p.tables.exec = Jvm.exec) (hZ : Z.Warmed39 s.vm) (hw : ∀ d ∈ tables_1, d.before a0 Z = true) (hby : c.code = code) (hml : c.maxLocals = 3) (hown : s.vm.findClass "kartoteka/BibtexIsSpacePinLaw" = some m.cls) (hret : meth.sig.returnType = some .boolean) (hlk : meth.locks = false) (e0 : T.heap = h0) (N : Fr n0 locs) (Z0 : n0 ≤ h0.size)
    (x0 : Int32) (x1 : Int32) {r : Int32} (hR : r = own_f0_0 x0 x1) : own_Go p e below s room_1.cells room_1.slots (own_QG (.int r) h0 n0) (T.setTop (mkF m 0 #[.val (.int x0), .val (.int x1), .unset] [])) := by
  unfold own_f0_0 at hR
  refine own_back (fun t k => XS.iloadN X.here hx rfl (hb hby at_0) rfl k) ?_
  show own_Go _ _ _ _ _ _ _ (T.setTop (mkF m 1 #[.val (.int x0), .val (.int x1), .unset] [(.int x1)]))
  obtain ⟨_, _, ⟨T1, L1, k1, n1⟩, -, X1, ⟨Lc1, hQ1, l1, y1, z1⟩, st1⟩ := Jvm.LawKit.callS X hx (y := (⟨"kartoteka/BibtexIsSpacePinLaw", "pick", "(I)I"⟩ : MethodName)) hown (mvT hZ (hw _ (List.mem_of_getElem? (i := 0) rfl))) (mvT hZ (hw _ (List.mem_of_getElem? (i := 1) rfl))) (mvT hZ (hw _ (List.mem_of_getElem? (i := 2) rfl))) (mvT hZ (hw _ (List.mem_of_getElem? (i := 3) rfl))) (by decide) (backOf (W := 0) (own_rm1 l Z a0 hw [] x1 h0 n0 Z0) hZ (hw _ (List.mem_of_getElem? (i := 3) rfl)) (hw _ (List.mem_of_getElem? (i := 2) rfl)) (by decide) (by decide)) (g := (mkF m 1 #[.val (.int x0), .val (.int x1), .unset] [(.int x1)])) rfl (by rw [hml]; rfl) (argsL := [(.int x1)]) (rest := []) (lenOf own_pd0 rfl) rfl (by show 2 * 0 + _ ≤ _; exact Nat.le_of_eq rfl) (hb hby at_1) (fun _ _ => ⟨rfl, e0, (by decide : 0 + 1 ≤ _), (by decide : 0 + 16 ≤ _)⟩)
  dsimp only [Pt.U, Pt.locs, Pt.cells, Pt.slots] at X1 l1 y1 z1 st1 hQ1
  subst l1 y1 z1
  obtain ⟨rfl, N1q, e1⟩ := hQ1
  have N1 := Fr.app N N1q
  refine own_back (fun t k => st1 t k) ?_
  show own_Go _ _ _ _ _ _ _ (T1.setTop (mkF m 4 #[.val (.int x0), .val (.int x1), .unset] [(.int (own_f1_0 x1))]))
  refine own_back (fun t k => XS.istoreN X1.here hx rfl (hb hby at_4) rfl (l' := #[.val (.int x0), .val (.int x1), .val (.int (own_f1_0 x1))]) rfl k) ?_
  show own_Go _ _ _ _ _ _ _ (T1.setTop (mkF m 5 #[.val (.int x0), .val (.int x1), .val (.int (own_f1_0 x1))] []))
  refine own_back (fun t k => XS.iloadN X1.here hx rfl (hb hby at_5) rfl k) ?_
  show own_Go _ _ _ _ _ _ _ (T1.setTop (mkF m 6 #[.val (.int x0), .val (.int x1), .val (.int (own_f1_0 x1))] [(.int x0)]))
  obtain ⟨_, _, ⟨T2, L2, k2, n2⟩, -, X2, ⟨Lc2, hQ2, l2, y2, z2⟩, st2⟩ := Jvm.LawKit.callS X1 hx (y := (⟨"kartoteka/Bibtex", "isSpace", "(I)Z"⟩ : MethodName)) hown (mvT hZ (hw _ (List.mem_of_getElem? (i := 6) rfl))) (mvT hZ (hw _ (List.mem_of_getElem? (i := 7) rfl))) (mvT hZ (hw _ (List.mem_of_getElem? (i := 8) rfl))) (mvT hZ (hw _ (List.mem_of_getElem? (i := 9) rfl))) (by decide) (backOf (W := 0) (own_rm2 l Z a0 hw [] x0 T1.heap n0 e1) hZ (hw _ (List.mem_of_getElem? (i := 9) rfl)) (hw _ (List.mem_of_getElem? (i := 8) rfl)) (by decide) (by decide)) (g := (mkF m 6 #[.val (.int x0), .val (.int x1), .val (.int (own_f1_0 x1))] [(.int x0)])) rfl (by rw [hml]; rfl) (argsL := [(.int x0)]) (rest := []) (lenOf own_pd1 rfl) rfl (by show 2 * 0 + _ ≤ _; exact Nat.le_of_eq rfl) (hb hby at_6) (fun _ _ => ⟨rfl, rfl, (by decide : 1 + 0 ≤ _), (by decide : 16 + 0 ≤ _)⟩)
  dsimp only [Pt.U, Pt.locs, Pt.cells, Pt.slots] at X2 l2 y2 z2 st2 hQ2
  subst l2 y2 z2
  obtain ⟨rfl, N2q, e2⟩ := hQ2
  have N2 := Fr.app N1 N2q
  refine own_back (fun t k => st2 t k) ?_
  show own_Go _ _ _ _ _ _ _ (T2.setTop (mkF m 9 #[.val (.int x0), .val (.int x1), .val (.int (own_f1_0 x1))] [(.int (own_f2_0 x0))]))
  refine own_back (fun t k => XS.iloadN X2.here hx rfl (hb hby at_9) rfl k) ?_
  show own_Go _ _ _ _ _ _ _ (T2.setTop (mkF m 10 #[.val (.int x0), .val (.int x1), .val (.int (own_f1_0 x1))] [(.int x0), (.int (own_f2_0 x0))]))
  obtain ⟨_, _, ⟨T3, L3, k3, n3⟩, -, X3, ⟨Lc3, hQ3, l3, y3, z3⟩, st3⟩ := Jvm.LawKit.callS X2 hx (y := (⟨"kartoteka/BibtexIsSpacePinLaw", "reference", "(I)Z"⟩ : MethodName)) hown (mvT hZ (hw _ (List.mem_of_getElem? (i := 10) rfl))) (mvT hZ (hw _ (List.mem_of_getElem? (i := 11) rfl))) (mvT hZ (hw _ (List.mem_of_getElem? (i := 2) rfl))) (mvT hZ (hw _ (List.mem_of_getElem? (i := 12) rfl))) (by decide) (backOf (W := 1) (own_rm3 l Z a0 hw [] x0 T1.heap n0 e1) hZ (hw _ (List.mem_of_getElem? (i := 12) rfl)) (hw _ (List.mem_of_getElem? (i := 2) rfl)) (by decide) (by decide)) (g := (mkF m 10 #[.val (.int x0), .val (.int x1), .val (.int (own_f1_0 x1))] [(.int x0), (.int (own_f2_0 x0))])) rfl (by rw [hml]; rfl) (argsL := [(.int x0)]) (rest := [(.int (own_f2_0 x0))]) (lenOf own_pd1 rfl) rfl (by show 2 * 0 + _ ≤ _; exact Nat.le_of_eq rfl) (hb hby at_10) (fun _ _ => ⟨rfl, e2, (by decide : 1 + 0 ≤ _), (by decide : 16 + 0 ≤ _)⟩)
  dsimp only [Pt.U, Pt.locs, Pt.cells, Pt.slots] at X3 l3 y3 z3 st3 hQ3
  subst l3 y3 z3
  obtain ⟨rfl, N3q, e3⟩ := hQ3
  have N3 := Fr.app N2 N3q
  refine own_back (fun t k => st3 t k) ?_
  show own_Go _ _ _ _ _ _ _ (T3.setTop (mkF m 13 #[.val (.int x0), .val (.int x1), .val (.int (own_f1_0 x1))] [(.int (own_f3_0 x0)), (.int (own_f2_0 x0))]))
  by_cases hc13 : (own_f2_0 x0) = (own_f3_0 x0)
  · rw [if_pos hc13] at hR
    refine own_back (fun t k => XS.icmpNo X3.here hx rfl (hb hby at_13) rfl (teq hc13).2 k) ?_
    show own_Go _ _ _ _ _ _ _ (T3.setTop (mkF m 16 #[.val (.int x0), .val (.int x1), .val (.int (own_f1_0 x1))] []))
    refine own_back (fun t k => XS.iloadN X3.here hx rfl (hb hby at_16) rfl k) ?_
    show own_Go _ _ _ _ _ _ _ (T3.setTop (mkF m 17 #[.val (.int x0), .val (.int x1), .val (.int (own_f1_0 x1))] [(.int (own_f1_0 x1))]))
    obtain ⟨_, _, ⟨T4, L4, k4, n4⟩, -, X4, ⟨Lc4, hQ4, l4, y4, z4⟩, st4⟩ := Jvm.LawKit.callS X3 hx (y := (⟨"kartoteka/Bibtex", "isSpace", "(I)Z"⟩ : MethodName)) hown (mvT hZ (hw _ (List.mem_of_getElem? (i := 6) rfl))) (mvT hZ (hw _ (List.mem_of_getElem? (i := 7) rfl))) (mvT hZ (hw _ (List.mem_of_getElem? (i := 8) rfl))) (mvT hZ (hw _ (List.mem_of_getElem? (i := 9) rfl))) (by decide) (backOf (W := 0) (own_rm2 l Z a0 hw [] (own_f1_0 x1) T1.heap n0 e1) hZ (hw _ (List.mem_of_getElem? (i := 9) rfl)) (hw _ (List.mem_of_getElem? (i := 8) rfl)) (by decide) (by decide)) (g := (mkF m 17 #[.val (.int x0), .val (.int x1), .val (.int (own_f1_0 x1))] [(.int (own_f1_0 x1))])) rfl (by rw [hml]; rfl) (argsL := [(.int (own_f1_0 x1))]) (rest := []) (lenOf own_pd1 rfl) rfl (by show 2 * 0 + _ ≤ _; exact Nat.le_of_eq rfl) (hb hby at_17) (fun _ _ => ⟨rfl, e3, (by decide : 1 + 0 ≤ _), (by decide : 16 + 0 ≤ _)⟩)
    dsimp only [Pt.U, Pt.locs, Pt.cells, Pt.slots] at X4 l4 y4 z4 st4 hQ4
    subst l4 y4 z4
    obtain ⟨rfl, N4q, e4⟩ := hQ4
    have N4 := Fr.app N3 N4q
    refine own_back (fun t k => st4 t k) ?_
    show own_Go _ _ _ _ _ _ _ (T4.setTop (mkF m 20 #[.val (.int x0), .val (.int x1), .val (.int (own_f1_0 x1))] [(.int (own_f2_0 (own_f1_0 x1)))]))
    refine own_back (fun t k => XS.iloadN X4.here hx rfl (hb hby at_20) rfl k) ?_
    show own_Go _ _ _ _ _ _ _ (T4.setTop (mkF m 21 #[.val (.int x0), .val (.int x1), .val (.int (own_f1_0 x1))] [(.int (own_f1_0 x1)), (.int (own_f2_0 (own_f1_0 x1)))]))
    obtain ⟨_, _, ⟨T5, L5, k5, n5⟩, -, X5, ⟨Lc5, hQ5, l5, y5, z5⟩, st5⟩ := Jvm.LawKit.callS X4 hx (y := (⟨"kartoteka/BibtexIsSpacePinLaw", "reference", "(I)Z"⟩ : MethodName)) hown (mvT hZ (hw _ (List.mem_of_getElem? (i := 10) rfl))) (mvT hZ (hw _ (List.mem_of_getElem? (i := 11) rfl))) (mvT hZ (hw _ (List.mem_of_getElem? (i := 2) rfl))) (mvT hZ (hw _ (List.mem_of_getElem? (i := 12) rfl))) (by decide) (backOf (W := 1) (own_rm3 l Z a0 hw [] (own_f1_0 x1) T1.heap n0 e1) hZ (hw _ (List.mem_of_getElem? (i := 12) rfl)) (hw _ (List.mem_of_getElem? (i := 2) rfl)) (by decide) (by decide)) (g := (mkF m 21 #[.val (.int x0), .val (.int x1), .val (.int (own_f1_0 x1))] [(.int (own_f1_0 x1)), (.int (own_f2_0 (own_f1_0 x1)))])) rfl (by rw [hml]; rfl) (argsL := [(.int (own_f1_0 x1))]) (rest := [(.int (own_f2_0 (own_f1_0 x1)))]) (lenOf own_pd1 rfl) rfl (by show 2 * 0 + _ ≤ _; exact Nat.le_of_eq rfl) (hb hby at_21) (fun _ _ => ⟨rfl, e4, (by decide : 1 + 0 ≤ _), (by decide : 16 + 0 ≤ _)⟩)
    dsimp only [Pt.U, Pt.locs, Pt.cells, Pt.slots] at X5 l5 y5 z5 st5 hQ5
    subst l5 y5 z5
    obtain ⟨rfl, N5q, e5⟩ := hQ5
    have N5 := Fr.app N4 N5q
    refine own_back (fun t k => st5 t k) ?_
    show own_Go _ _ _ _ _ _ _ (T5.setTop (mkF m 24 #[.val (.int x0), .val (.int x1), .val (.int (own_f1_0 x1))] [(.int (own_f3_0 (own_f1_0 x1))), (.int (own_f2_0 (own_f1_0 x1)))]))
    by_cases hc24 : (own_f2_0 (own_f1_0 x1)) = (own_f3_0 (own_f1_0 x1))
    · rw [if_pos hc24] at hR
      refine own_back (fun t k => XS.icmpNo X5.here hx rfl (hb hby at_24) rfl (teq hc24).2 k) ?_
      show own_Go _ _ _ _ _ _ _ (T5.setTop (mkF m 27 #[.val (.int x0), .val (.int x1), .val (.int (own_f1_0 x1))] []))
      refine own_back (fun t k => XS.iconst X5.here hx rfl (hb hby at_27) k) ?_
      show own_Go _ _ _ _ _ _ _ (T5.setTop (mkF m 28 #[.val (.int x0), .val (.int x1), .val (.int (own_f1_0 x1))] [(.int (1 : Int32))]))
      refine own_back (fun t k => XS.goto X5.here hx rfl (pc0 := 28) (pc' := 32) rfl (hb hby at_28) (by decide) (by decide) k) ?_
      show own_Go _ _ _ _ _ _ _ (T5.setTop (mkF m 32 #[.val (.int x0), .val (.int x1), .val (.int (own_f1_0 x1))] [(.int (1 : Int32))]))
      subst hR
      exact own_retN X5 hx (t := .boolean) hret (by simp) (hb hby at_32) hlk (by decide) ⟨rfl, N5, by rw [e5]; exact e1⟩ (by decide) (by decide)
    · rw [if_neg hc24] at hR
      refine own_back (fun t k => XS.icmpYes X5.here hx rfl (pc0 := 24) (pc' := 31) rfl (hb hby at_24) rfl (feq hc24).2 (by decide) (by decide) k) ?_
      show own_Go _ _ _ _ _ _ _ (T5.setTop (mkF m 31 #[.val (.int x0), .val (.int x1), .val (.int (own_f1_0 x1))] []))
      refine own_back (fun t k => XS.iconst X5.here hx rfl (hb hby at_31) k) ?_
      show own_Go _ _ _ _ _ _ _ (T5.setTop (mkF m 32 #[.val (.int x0), .val (.int x1), .val (.int (own_f1_0 x1))] [(.int (0 : Int32))]))
      subst hR
      exact own_retN X5 hx (t := .boolean) hret (by simp) (hb hby at_32) hlk (by decide) ⟨rfl, N5, by rw [e5]; exact e1⟩ (by decide) (by decide)
  · rw [if_neg hc13] at hR
    refine own_back (fun t k => XS.icmpYes X3.here hx rfl (pc0 := 13) (pc' := 31) rfl (hb hby at_13) rfl (feq hc13).2 (by decide) (by decide) k) ?_
    show own_Go _ _ _ _ _ _ _ (T3.setTop (mkF m 31 #[.val (.int x0), .val (.int x1), .val (.int (own_f1_0 x1))] []))
    refine own_back (fun t k => XS.iconst X3.here hx rfl (hb hby at_31) k) ?_
    show own_Go _ _ _ _ _ _ _ (T3.setTop (mkF m 32 #[.val (.int x0), .val (.int x1), .val (.int (own_f1_0 x1))] [(.int (0 : Int32))]))
    subst hR
    exact own_retN X3 hx (t := .boolean) hret (by simp) (hb hby at_32) hlk (by decide) ⟨rfl, N3, by rw [e3]; exact e1⟩ (by decide) (by decide)
theorem own_pn0 : plainName "kartoteka/BibtexIsSpacePinLaw" = true := by first | (simp [plainName, overriddenIn]; done) | decide +kernel
theorem own_ef0 (m : MethodId) (x0 : Int32) (x1 : Int32) : entryFrame m #[(.int x0), (.int x1)] maxLocals = mkF m 0 #[.val (.int x0), .val (.int x1), .unset] [] := by first | (simp [entryFrame, mkF, argsToLocals, Value.category, maxLocals]; done) | rfl
set_option maxRecDepth 65536 in
set_option maxHeartbeats 4000000 in
theorem own_rm0 (l : Launch) (Z : State) (a0 : Array Value) (hw : ∀ d ∈ tables_1, d.before a0 Z = true) (ws : List Jvm.Cond) (x0 : Int32) (x1 : Int32) (h0 : Heap) (n0 : Nat) (Z0 : n0 ≤ h0.size) :
    MetFree l x (head1 (Jvm.Cond.code x code maxLocals ret :: ws) room_1) (fun a U => a = #[(.int x0), (.int x1)] ∧ Z.Warmed39 U.vm ∧ U.heap = h0) (fun _ _ _ _ _ => True) (fun _ U o U' => ∃ v L, o = .returned v ∧ own_QG (.int (own_f0_0 x0 x1)) h0 n0 v U'.heap L ∧ FrameEnd U o U' L room_1.cells room_1.slots) := by
  refine MetFree.of_bodySF (plainFor_of_name own_pn0) hisR ?_
  intro p e s m args below meth c s₁ Bd hml0 hP hK
  obtain ⟨rfl, hZ, hh⟩ := hP
  have X0 : Stand p l e room_1 s m #[(.int x0), (.int x1)] below meth c s₁ [] 0 0 := Stand.of_body Bd
  have e0 : s₁.heap = h0 := by rw [← hh, Bd.state]; rfl
  refine own_back (s := s) (fun t k => castTop (own_ef0 m x0 x1) k) ?_
  exact own_l0_0 X0 Bd.exec hZ hw Bd.bytes hml0 (findClass_of_methodNamed Bd.named) Bd.returns (BodyLoose.notSynchronized Bd) e0 (Fr.nil n0) Z0 x0 x1 rfl
theorem own_small {x : Int32} {k : Nat} (hk : k < 2147483648) (h1 : ¬ x < 0) (h2 : x.toInt < k) : ∃ n : Nat, n < k ∧ x = Int32.ofNat n := by
  have z : (0 : Int32).toInt = 0 := rfl
  rw [Int32.lt_iff_toInt_lt, z] at h1
  refine ⟨x.toInt.toNat, by omega, Int32.toInt_inj.mp ?_⟩
  rw [Int32.toInt_ofNat_of_lt (by omega)]
  omega
theorem own_lt {x y : Int32} : x < y ↔ x.toInt < y.toInt := Int32.lt_iff_toInt_lt
theorem own_ne {x : Int32} {k : Int} (c : Int32) (hc : c.toInt = k) (h : x.toInt ≠ k) : ¬ x = c := fun q => h (by rw [q]; exact hc)
theorem own_ws (x : Int32) : own_f2_0 x = own_f3_0 x := by
  by_cases h1 : x < 0
  · have z := own_lt.mp h1
    have z0 : (0 : Int32).toInt = 0 := rfl
    unfold own_f2_0 own_f3_0
    rw [if_neg (own_ne (k := 32) 32 rfl (by omega)), if_neg (own_ne (k := 9) 9 rfl (by omega)), if_neg (own_ne (k := 10) 10 rfl (by omega)), if_neg (own_ne (k := 13) 13 rfl (by omega)), if_pos h1]
  · by_cases h2 : x.toInt < 64
    · obtain ⟨n, hn, rfl⟩ := own_small (k := 64) (by decide) h1 h2
      exact (by decide +kernel : ∀ n : Fin 64, own_f2_0 (Int32.ofNat n.val) = own_f3_0 (Int32.ofNat n.val)) ⟨n, hn⟩
    · unfold own_f2_0 own_f3_0
      rw [if_neg (own_ne (k := 32) 32 rfl (by omega)), if_neg (own_ne (k := 9) 9 rfl (by omega)), if_neg (own_ne (k := 10) 10 rfl (by omega)), if_neg (own_ne (k := 13) 13 rfl (by omega)), if_neg h1]
      rw [if_neg (fun q => h2 (own_lt.mp q))]
theorem own_plain (x y : Int32) : own_f0_0 x y = 1 := by
  unfold own_f0_0
  rw [if_pos (own_ws _), if_pos (own_ws _)]
set_option maxRecDepth 65536 in
set_option maxHeartbeats 4000000 in
theorem own_comes {Post : Tables → Env → Array Value → State → Outcome → State → Prop} (hpost : ∀ tb e args s v u, (limb_1_1.after args s (.returned v) u = true ∧ limb_1_2.after args s (.returned v) u = true) → FrameEnd s (.returned v) u (Jvm.fieldLocs frame_1_writes args s ++ Jvm.arrayLocs frame_1_arrays args s ++ Jvm.staticLocs frame_1_statics s) 16 128 → Post tb e args s (.returned v) u) :
    ArmFor flags0 classFile x code maxLocals ret World_1 tables_1 room_1 Calls_1 rest_1 Pre_1 Post := by
  intro l hfl _ _ p e ha hc hk s m args below hf hA hF happ hP
  obtain ⟨hcalls, hrest, hpre⟩ := hP
  obtain ⟨-, -, -, hnamed, -, -, -, hat⟩ := (Spec.applies_iff hf).mp happ
  obtain ⟨hg, hn⟩ := and_e (Cond.before_iff.mp (show (Jvm.Cond.and given_1 narrow_1).before args s = true from hpre))
  obtain ⟨hcnt, hg0⟩ := and_e hg
  obtain ⟨ha0, hg1⟩ := and_e hg0
  have ha1 := hg1
  obtain ⟨w0, w1, rfl⟩ : ∃ w0 w1 : Value, args = #[w0, w1] := by
    have hs : args.size = 2 := by simpa [Cond.value, given_1] using hcnt
    obtain ⟨L⟩ := args
    match L, hs with
    | [w0, w1], _ => exact ⟨w0, w1, rfl⟩
  have hw := fun d (hd : d ∈ tables_1) => atoms_spec (ws := Jvm.Cond.code x code maxLocals ret :: tables_1) hat d (List.mem_cons_of_mem _ hd)
  obtain ⟨v0, ev0⟩ := is_v ha0
  obtain rfl : w0 = (.int v0) := Option.some.inj ev0
  obtain ⟨v1, ev1⟩ := is_v ha1
  obtain rfl : w1 = (.int v1) := Option.some.inj ev1
  obtain ⟨n, o, h1, h2, h3, _, L, rfl, ⟨rfl, N, _⟩, hq⟩ := own_rm0 l s _ hw tables_1 v0 v1 s.heap s.heap.size (Nat.le_refl _) p e ha hc hk s m _ below hf ((Spec.applies_iff_loose hf).mp happ).1 ⟨rfl, State.Warmed39.refl s, rfl⟩ trivial
  refine ⟨n, _, h1, h2, h3, hpost _ _ _ _ _ _ ⟨Cond.after_iff.mpr rfl, Cond.after_iff.mpr (eq_i res_at (Term.int_eval (1)) (congrArg Value.int (own_plain v0 v1)))⟩ ⟨hq.1, hq.2.1, (hq.2.2.sift fun y hy => Or.inr (N y hy)).mono (by decide) (by decide)⟩⟩
theorem main_1_1 : Claimed_1_1 := own_comes fun _ _ _ _ _ _ h hF => ⟨h.1, hF⟩
theorem main_1_2 : Claimed_1_2 := own_comes fun _ _ _ _ _ _ h hF => ⟨h.2, hF⟩
end Jvm.Pilot.@@N@@
namespace Jvm.Pilot.@@N@@
open Jvm Jvm.ClassFile Sem Op Lib Jvm.Free Jvm.Stand Jvm.Pilot.@@N@@.Jvm.D
/-! MADE BY PROGRAM (witnessworld.py) out of the Statement's table words and the real class files: 9 classes; the members and pool entries that the words name. The judged class is class 1, her method 3. -/
namespace start1
open Jvm.ClassFile
def u (s : String) : CpInfo := .utf8 (stringToUtf16 s)
/-- a pool by its gaps: so many unusable entries, then the entry; so many at the end -/
def gap : Nat → List CpInfo → List CpInfo
  | 0, r => r
  | n + 1, r => .unusable :: gap n r
def poolList (es : List (Nat × CpInfo)) (last : Nat) : List CpInfo := es.foldr (fun e r => gap e.1 (e.2 :: r)) (gap last [])
def pool (es : List (Nat × CpInfo)) (last : Nat) : Array CpInfo := ⟨poolList es last⟩
def fileOf (pool : Array CpInfo) (this : Nat) (attrs : Array Attribute := #[]) (ms : Array MethodInfo := #[]) (fl : Nat := 33) (sup : Nat := 0) (ifs : Array Nat := #[]) (fds : Array FieldInfo := #[]) : ClassFile where
  minorVersion := 0
  majorVersion := 65
  constantPool := pool
  accessFlags := fl
  thisClass := this
  superClass := sup
  interfaces := ifs
  fields := fds
  methods := ms
  attributes := attrs
def plain (name : String) (sup : Option ClassId) : Class where
  name := name
  kind := .ordinary
  loader := none
  accessFlags := 33
  super := sup
  interfaces := #[]
  cf := none
  fields := #[]
  methods := #[]
  instanceTypes := #[]
  staticTypes := #[]
  resolved := #[]
  callSites := []
  init := .initialized
  statics := none
  mirror := none

def pool0 : Array CpInfo := pool [(5, u "<init>"), (0, u "()V"), (1, .class_ 10), (1, u "java/lang/Object")] 113

def k0m0 : Method := { name := "<init>", desc := "()V", sig := { parameters := [], returnType := none }, accessFlags := 1, code := none }
/-- java/lang/Object -/
def k0 : Class := { plain "java/lang/Object" none with
  accessFlags := 33
  interfaces := #[]
  cf := some (fileOf pool0 8 #[] #[{ accessFlags := 1, nameIndex := 5, descriptorIndex := 6, attributes := #[] }] 33 0 #[] #[])
  fields := #[]
  methods := #[k0m0]
  instanceTypes := #[]
  staticTypes := #[]
  resolved := Array.replicate 124 none
  statics := none }

def pool1 : Array CpInfo := pool [(2, .class_ 4), (1, u "java/lang/Object"), (0, u "<init>"), (0, u "()V"), (0, .long 4294977024), (1, .integer 65568), (0, .methodref 11 12), (0, .class_ 13), (0, .nameAndType 14 15), (0, u "kartoteka/BibtexIsSpacePinLaw"), (0, u "pick"), (0, u "(I)I"), (0, .methodref 17 18), (0, .class_ 19), (0, .nameAndType 20 21), (0, u "kartoteka/Bibtex"), (0, u "isSpace"), (0, u "(I)Z"), (0, .methodref 11 23), (0, .nameAndType 24 21), (0, u "reference"), (3, u "law"), (0, u "(II)Z")] 2

def k1m0 : Method := { name := "<init>", desc := "()V", sig := { parameters := [], returnType := none }, accessFlags := 1, code := none }
def k1c1 : Code := { maxStack := 4, maxLocals := 3, code := method_2_code, exceptionTable := #[], attributes := #[] }
def k1m1 : Method := { name := "reference", desc := "(I)Z", sig := { parameters := [.int], returnType := some .boolean }, accessFlags := 10, code := some k1c1 }
def k1c2 : Code := { maxStack := 4, maxLocals := 2, code := method_3_code, exceptionTable := #[], attributes := #[] }
def k1m2 : Method := { name := "pick", desc := "(I)I", sig := { parameters := [.int], returnType := some .int }, accessFlags := 10, code := some k1c2 }
def k1c3 : Code := { maxStack := 2, maxLocals := 3, code := code, exceptionTable := #[], attributes := #[] }
def k1m3 : Method := { name := "law", desc := "(II)Z", sig := { parameters := [.int, .int], returnType := some .boolean }, accessFlags := 9, code := some k1c3 }
/-- kartoteka/BibtexIsSpacePinLaw -/
def k1 : Class := { plain "kartoteka/BibtexIsSpacePinLaw" (some 0) with
  accessFlags := 49
  interfaces := #[]
  cf := some (fileOf pool1 11 #[] #[{ accessFlags := 1, nameIndex := 5, descriptorIndex := 6, attributes := #[] }, { accessFlags := 10, nameIndex := 24, descriptorIndex := 21, attributes := #[] }, { accessFlags := 10, nameIndex := 14, descriptorIndex := 15, attributes := #[] }, { accessFlags := 9, nameIndex := 28, descriptorIndex := 29, attributes := #[] }] 49 2 #[] #[])
  fields := #[]
  methods := #[k1m0, k1m1, k1m2, k1m3]
  instanceTypes := #[]
  staticTypes := #[]
  resolved := Array.replicate 32 none
  statics := none }

def pool2 : Array CpInfo := pool [(4, .class_ 6), (1, u "java/lang/Object"), (3, .class_ 12), (1, u "kartoteka/Bibtex"), (0, u "text"), (0, u "Ljava/lang/String;"), (2, u "strings"), (0, u "Lkartoteka/BibtexStrings;"), (5, u "position"), (0, u "I"), (22, .class_ 49), (0, u "kartoteka/Bibtex$SyntaxException"), (9, u "room"), (0, u "J"), (4, u "pastRoom"), (84, u "isSpace"), (0, u "(I)Z"), (82, u "BOUND")] 64

def k2c0 : Code := { maxStack := 2, maxLocals := 1, code := prog_5_method_15_code, exceptionTable := #[], attributes := #[] }
def k2m0 : Method := { name := "isSpace", desc := "(I)Z", sig := { parameters := [.int], returnType := some .boolean }, accessFlags := 8, code := some k2c0 }
/-- kartoteka/Bibtex -/
def k2 : Class := { plain "kartoteka/Bibtex" (some 0) with
  accessFlags := 48
  interfaces := #[]
  cf := some (fileOf pool2 10 #[.nestMembers #[48]] #[{ accessFlags := 8, nameIndex := 150, descriptorIndex := 151, attributes := #[] }] 48 4 #[] #[{ accessFlags := 26, nameIndex := 234, descriptorIndex := 14, attributes := #[] }, { accessFlags := 18, nameIndex := 13, descriptorIndex := 14, attributes := #[] }, { accessFlags := 18, nameIndex := 17, descriptorIndex := 18, attributes := #[] }, { accessFlags := 2, nameIndex := 24, descriptorIndex := 25, attributes := #[] }, { accessFlags := 2, nameIndex := 59, descriptorIndex := 60, attributes := #[] }, { accessFlags := 2, nameIndex := 65, descriptorIndex := 14, attributes := #[] }])
  fields := #[{ name := "BOUND", type := (.object "java/lang/String"), accessFlags := 26, slot := 0, constantValue := 0 }, { name := "text", type := (.object "java/lang/String"), accessFlags := 18, slot := 0, constantValue := 0 }, { name := "strings", type := (.object "kartoteka/BibtexStrings"), accessFlags := 18, slot := 1, constantValue := 0 }, { name := "position", type := .int, accessFlags := 2, slot := 2, constantValue := 0 }, { name := "room", type := .long, accessFlags := 2, slot := 3, constantValue := 0 }, { name := "pastRoom", type := (.object "java/lang/String"), accessFlags := 2, slot := 4, constantValue := 0 }]
  methods := #[k2m0]
  instanceTypes := #[(.object "java/lang/String"), (.object "kartoteka/BibtexStrings"), .int, .long, (.object "java/lang/String")]
  staticTypes := #[(.object "java/lang/String")]
  resolved := Array.replicate 299 none
  statics := none }

def pool3 : Array CpInfo := pool [(1, u "java/lang/Cloneable"), (0, .class_ 1), (0, u "java/lang/Object"), (0, .class_ 3)] 3

/-- java/lang/Cloneable -/
def k3 : Class := { plain "java/lang/Cloneable" (some 0) with
  accessFlags := 1537
  interfaces := #[]
  cf := some (fileOf pool3 2 #[] #[] 1537 4 #[] #[])
  fields := #[]
  methods := #[]
  instanceTypes := #[]
  staticTypes := #[]
  resolved := Array.replicate 8 none
  statics := none }

def pool4 : Array CpInfo := pool [(1, u "java/io/Serializable"), (0, .class_ 1), (0, u "java/lang/Object"), (0, .class_ 3)] 3

/-- java/io/Serializable -/
def k4 : Class := { plain "java/io/Serializable" (some 0) with
  accessFlags := 1537
  interfaces := #[]
  cf := some (fileOf pool4 2 #[] #[] 1537 4 #[] #[])
  fields := #[]
  methods := #[]
  instanceTypes := #[]
  staticTypes := #[]
  resolved := Array.replicate 8 none
  statics := none }

/-- the primitive byte -/
def k5 : Class := { plain "byte" none with kind := .primitive 'B', accessFlags := 0x411 }
/-- [B -/
def k6 : Class := { plain "[B" (some 0) with kind := .array 5 .byte, interfaces := #[3, 4], accessFlags := 1041 }

/-- the primitive int -/
def k7 : Class := { plain "int" none with kind := .primitive 'I', accessFlags := 0x411 }
/-- [I -/
def k8 : Class := { plain "[I" (some 0) with kind := .array 7 .int, interfaces := #[3, 4], accessFlags := 1041 }

def heap : Heap := #[]
def classes : Array Class := #[k0, k1, k2, k3, k4, k5, k6, k7, k8]
def interned : List (Array UInt16 × Addr) := []
def slotsUsed : Nat := 0
def theMethod : MethodId := ⟨1, 3⟩
def args0 : Array Value := #[.int 5, .int 7]
def aboutOver (below : List Frame) : State where
  vm := { classes := classes, interned := interned.toArray }
  heap := heap
  slotsUsed := slotsUsed
  threads := #[{ frames := .invoking theMethod args0 :: below }]
def below0 : List Frame := [.native { method := ⟨0, 0⟩, args := #[] }]
def about1 : State := aboutOver below0
def p0 : Program := .bare "" "" ""
def e0 : Env := launch0.env 0 0 0
theorem w_frames : about1.frames = Frame.invoking theMethod args0 :: below0 := rfl
set_option maxRecDepth 65536 in
theorem w_args : argsFit about1.vm theMethod args0 = true := by decide +kernel
set_option maxRecDepth 65536 in
theorem w_heap : heapFits about1 = true := by decide +kernel
set_option maxRecDepth 65536 in
theorem w_runnable : about1.curStatus? = some .runnable := by decide +kernel
set_option maxRecDepth 65536 in
theorem w_alone : about1.alone = true := by decide +kernel
set_option maxRecDepth 65536 in
theorem w_named : about1.methodNamed? x = some theMethod := by decide +kernel
set_option maxRecDepth 65536 in
theorem w_hears : about1.hears theMethod below0 = true := by decide +kernel
set_option maxRecDepth 65536 in
theorem w_ripe : about1.ripe theMethod args0 below0 = true := by decide +kernel
theorem w_running : about1.status = .running := rfl
set_option maxRecDepth 65536 in
theorem w_room : about1.hasRoom e0.platform room_1 = true :=
  launch0.hasRoom_least _ room_1 (by decide +kernel) (by decide +kernel) (by decide +kernel) (by decide +kernel) (by decide +kernel) (by decide +kernel)
theorem allAtoms_all (ts : List Jvm.Cond) (a : Array Jvm.Value) (st : Jvm.State) : (allAtoms ts).before a st = ts.all (fun c => c.before a st) := by
  induction ts with
  | nil => rfl
  | cons c t ih =>
    show (Jvm.Cond.and c (allAtoms t)).before a st = _
    rw [Jvm.Cond.before_and, ih, List.all_cons]
def words1 : List Jvm.Cond := Jvm.Cond.code x code maxLocals ret :: tables_1
/-- a 'code' word, met by the world's own term for the bytes: nothing is compared byte by byte -/
theorem code_word {y : MethodName} {bytes : ByteArray} {mx : Nat} {rt : Option FieldType} {a : Array Value} {s : State} {m : MethodId} {meth : Method} {c : Code} (h1 : s.methodNamed? y = some m) (h2 : s.vm.method? m = some meth) (h3 : meth.code = some c) (h4 : c.code = bytes)
    (h5 : (c.maxLocals == mx && c.exceptionTable.isEmpty && decide (c.maxStack ≤ mostOperands) && decide (meth.sig.returnType = rt) && !meth.locks && decide (parseMethodDescriptor y.desc = some meth.sig)) = true) : (Jvm.Cond.code y bytes mx rt).before a s = true := by
  simp only [Bool.and_eq_true, beq_iff_eq, Bool.not_eq_true', decide_eq_true_eq] at h5
  obtain ⟨⟨⟨⟨⟨g1, g2⟩, g3⟩, g4⟩, g5⟩, g6⟩ := h5
  simp [Cond.before, Cond.holds, Cond.value, h1, h2, h3, h4, g1, g2, g3, g4, g5, g6]
def isCode : Jvm.Cond → Bool
  | .code _ _ _ _ => true
  | _ => false
theorem all_split {L : List Jvm.Cond} {P : Jvm.Cond → Bool} (h1 : L.all (fun c => isCode c || P c) = true) (h2 : ∀ c ∈ L.filter isCode, P c = true) : L.all P = true := by
  refine List.all_eq_true.mpr fun c hc => ?_
  have h := List.all_eq_true.mp h1 c hc
  rcases Bool.eq_false_or_eq_true (isCode c) with hi | hi
  · exact h2 c (List.mem_filter.mpr ⟨hc, hi⟩)
  · simpa [hi] using h
set_option maxRecDepth 65536 in
theorem w_c0 : (Jvm.Cond.code x code maxLocals ret).before args0 about1 = true := code_word (m := ⟨1, 3⟩) (meth := k1m3) (c := k1c3) (by decide +kernel) rfl rfl rfl (by decide +kernel)
set_option maxRecDepth 65536 in
theorem w_c1 : (Jvm.Cond.code ({ cls := "kartoteka/BibtexIsSpacePinLaw", name := "pick", desc := "(I)I" } : Jvm.MethodName) method_3_code (2 : Nat) (Option.some Jvm.ClassFile.FieldType.int)).before args0 about1 = true := code_word (m := ⟨1, 2⟩) (meth := k1m2) (c := k1c2) (by decide +kernel) rfl rfl rfl (by decide +kernel)
set_option maxRecDepth 65536 in
theorem w_c2 : (Jvm.Cond.code ({ cls := "kartoteka/Bibtex", name := "isSpace", desc := "(I)Z" } : Jvm.MethodName) prog_5_method_15_code (1 : Nat) (Option.some Jvm.ClassFile.FieldType.boolean)).before args0 about1 = true := code_word (m := ⟨2, 0⟩) (meth := k2m0) (c := k2c0) (by decide +kernel) rfl rfl rfl (by decide +kernel)
set_option maxRecDepth 65536 in
theorem w_c3 : (Jvm.Cond.code ({ cls := "kartoteka/BibtexIsSpacePinLaw", name := "reference", desc := "(I)Z" } : Jvm.MethodName) method_2_code (3 : Nat) (Option.some Jvm.ClassFile.FieldType.boolean)).before args0 about1 = true := code_word (m := ⟨1, 1⟩) (meth := k1m1) (c := k1c1) (by decide +kernel) rfl rfl rfl (by decide +kernel)
def codes1 : List Jvm.Cond := [Jvm.Cond.code x code maxLocals ret, Jvm.Cond.code ({ cls := "kartoteka/BibtexIsSpacePinLaw", name := "pick", desc := "(I)I" } : Jvm.MethodName) method_3_code (2 : Nat) (Option.some Jvm.ClassFile.FieldType.int), Jvm.Cond.code ({ cls := "kartoteka/Bibtex", name := "isSpace", desc := "(I)Z" } : Jvm.MethodName) prog_5_method_15_code (1 : Nat) (Option.some Jvm.ClassFile.FieldType.boolean), Jvm.Cond.code ({ cls := "kartoteka/BibtexIsSpacePinLaw", name := "reference", desc := "(I)Z" } : Jvm.MethodName) method_2_code (3 : Nat) (Option.some Jvm.ClassFile.FieldType.boolean)]
set_option maxRecDepth 65536 in
theorem codes_eq : words1.filter isCode = codes1 := rfl
theorem w_codes : ∀ c ∈ words1.filter isCode, c.before args0 about1 = true := by
  rw [codes_eq]
  intro c hc
  simp only [codes1, List.mem_cons, List.not_mem_nil, or_false] at hc
  rcases hc with rfl | rfl | rfl | rfl
  · exact w_c0
  · exact w_c1
  · exact w_c2
  · exact w_c3
set_option maxRecDepth 65536 in
theorem w_t1 : words1.all (fun c => isCode c || c.before args0 about1) = true := by decide +kernel
theorem w_tables : (allAtoms (Jvm.Cond.code x code maxLocals ret :: tables_1)).before args0 about1 = true := by
  rw [allAtoms_all]
  show words1.all (fun c => c.before args0 about1) = true
  refine all_split ?_ w_codes
  rw [w_t1]
set_option maxRecDepth 65536 in
theorem w_case : (Jvm.Cond.and given_1 narrow_1).before args0 about1 = true := by decide +kernel
theorem w_applies : (headSpec (Jvm.Cond.code x code maxLocals ret :: tables_1) room_1).applies x e0.platform about1 = true :=
  (Spec.applies_iff w_frames).mpr ⟨w_running, w_runnable, w_alone, w_named, w_hears, w_ripe, w_room, w_tables⟩
theorem atStart : AtStart classFile x code maxLocals ret World_1 tables_1 room_1 Calls_1 rest_1 Pre_1 launch0 p0 e0 about1 theMethod args0 below0 :=
  ⟨lists_1, trivial, launch0.admits_env _ _ _, launch0.least_env, fairChoices_fair.cas, fairChoices_fair.clock, w_frames, w_args, w_heap, w_applies, trivial, trivial, w_case⟩
end start1
theorem witness_1 : WitnessClaimed_1 := ⟨start1.p0, start1.e0, start1.about1, start1.theMethod, start1.args0, start1.below0, start1.atStart⟩
end Jvm.Pilot.@@N@@
