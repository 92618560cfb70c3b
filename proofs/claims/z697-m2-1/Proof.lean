import JvmDerived
import JvmDerived.Pilot.@@N@@Statement
import JvmDerived.Pilot.@@N@@Code
set_option linter.unusedVariables false
set_option linter.unusedSimpArgs false
namespace Jvm.Pilot.@@N@@
open Jvm Jvm.ClassFile Sem Op Lib Jvm.Free Jvm.Stand Jvm.LawKit Jvm.RoadKit Bundle Jvm.Pilot.@@N@@.Jvm.D
/-- from the state A the run comes to the method's end, and Q says what it left -/
def own_Go (p : Program) (e : Env) (below : List Frame) (s : State) (K M : Nat) (Q : Option Value → Heap → List Loc → Prop) (A : State) : Prop :=
  ∃ s₂ o, Steps p.tables e below A s₂ ∧ s₂.status = .running ∧ Ended s₂ below o ∧ ∃ v L, o = .returned v ∧ Q v s₂.heap L ∧ FrameEnd s o s₂ L K M
theorem own_back {p : Program} {e : Env} {below : List Frame} {s : State} {K M : Nat} {Q : Option Value → Heap → List Loc → Prop} {A B : State} (h : ∀ t, Steps p.tables e below B t → Steps p.tables e below A t) (g : own_Go p e below s K M Q B) : own_Go p e below s K M Q A := by
  obtain ⟨s₂, o, h1, h2⟩ := g
  exact ⟨s₂, o, h _ h1, h2⟩
theorem own_retN {p : Program} {l : Launch} {e : Env} {R : Room} {s : State} {m : MethodId} {args : Array Value} {below : List Frame} {meth : Method} {c : Code} {T : State} {locs : List Loc} {cells slots K M : Nat} {Q : Option Value → Heap → List Loc → Prop}
    (X : Stand p l e R s m args below meth c T locs cells slots) (hx : p.tables.exec = Jvm.exec) {pc : Nat} {Ls : Array Slot} {z r : Int32} {t : FieldType} {rest : List Value} (hret : meth.sig.returnType = some t) (ht : t = .boolean ∨ t = .byte ∨ t = .char ∨ t = .short) (hd : decode c.code pc = .ok (.ireturn, 1)) (hlk : meth.locks = false)
    (hr : nar t z = r) (hq : Q (some (.int r)) T.heap locs) (hK : cells ≤ K) (hM : slots ≤ M) : own_Go p e below s K M Q (T.setTop (mkF m pc Ls (.int z :: rest))) := by
  subst hr
  obtain ⟨fs, hr, hrun, hended, hW, hsame⟩ := X.leave (v := some (.int (nar t z))) (fun h => by rw [hret] at h; cases h)
  exact ⟨_, _, retN X hx hret ht hd hr, hrun, hended, _, _, rfl, hq, ⟨_, rfl⟩, hW, hsame.mono hK hM⟩
theorem own_retI {p : Program} {l : Launch} {e : Env} {R : Room} {s : State} {m : MethodId} {args : Array Value} {below : List Frame} {meth : Method} {c : Code} {T : State} {locs : List Loc} {cells slots K M : Nat} {Q : Option Value → Heap → List Loc → Prop}
    (X : Stand p l e R s m args below meth c T locs cells slots) (hx : p.tables.exec = Jvm.exec) {pc : Nat} {Ls : Array Slot} {z : Int32} {rest : List Value} (hret : meth.sig.returnType = some .int) (hd : decode c.code pc = .ok (.ireturn, 1)) (hlk : meth.locks = false)
    (hq : Q (some (.int z)) T.heap locs) (hK : cells ≤ K) (hM : slots ≤ M) : own_Go p e below s K M Q (T.setTop (mkF m pc Ls (.int z :: rest))) := by
  obtain ⟨fs, hr, hrun, hended, hW, hsame⟩ := X.leave (v := some (.int z)) (fun h => by rw [hret] at h; cases h)
  refine ⟨_, _, ?_, hrun, hended, _, _, rfl, hq, ⟨_, rfl⟩, hW, hsame.mono hK hM⟩
  have hm' : T.vm.method? m = some meth := X.method'
  have hn : narrow .int (.int z) = .int z := rfl
  show Steps p.tables e below (T.setTop { method := m, pc := pc, locals := Ls, stack := _ :: rest, locked := none }) _
  jvm_step X.here [X.here.top, hx, hd, hm', hret, hn]
  first | (intro acts; rw [hr _ acts rfl rfl rfl]) | rw [hr _ _ rfl rfl rfl]
  exact Steps.refl _
theorem own_retJ {p : Program} {l : Launch} {e : Env} {R : Room} {s : State} {m : MethodId} {args : Array Value} {below : List Frame} {meth : Method} {c : Code} {T : State} {locs : List Loc} {cells slots K M : Nat} {Q : Option Value → Heap → List Loc → Prop}
    (X : Stand p l e R s m args below meth c T locs cells slots) (hx : p.tables.exec = Jvm.exec) {pc : Nat} {Ls : Array Slot} {z : Int64} (hret : meth.sig.returnType = some .long) (hd : decode c.code pc = .ok (.lreturn, 1)) (hlk : meth.locks = false)
    (hq : Q (some (.long z)) T.heap locs) (hK : cells ≤ K) (hM : slots ≤ M) : own_Go p e below s K M Q (T.setTop (mkF m pc Ls [.long z])) := by
  obtain ⟨fs, hr, hrun, hended, hW, hsame⟩ := X.leave (v := some (.long z)) (fun h => by rw [hret] at h; cases h)
  exact ⟨_, _, X.lreturnOut hx hret hd hr, hrun, hended, _, _, rfl, hq, ⟨_, rfl⟩, hW, hsame.mono hK hM⟩
theorem own_retV {p : Program} {l : Launch} {e : Env} {R : Room} {s : State} {m : MethodId} {args : Array Value} {below : List Frame} {meth : Method} {c : Code} {T : State} {locs : List Loc} {cells slots K M : Nat} {Q : Option Value → Heap → List Loc → Prop}
    (X : Stand p l e R s m args below meth c T locs cells slots) (hx : p.tables.exec = Jvm.exec) {pc : Nat} {Ls : Array Slot} (hret : meth.sig.returnType = none) (hd : decode c.code pc = .ok (.return_, 1)) (hlk : meth.locks = false)
    (hq : Q none T.heap locs) (hK : cells ≤ K) (hM : slots ≤ M) : own_Go p e below s K M Q (T.setTop (mkF m pc Ls [])) := by
  obtain ⟨fs, hr, hrun, hended, hW, hsame⟩ := X.leave (v := none) (fun _ => rfl)
  exact ⟨_, _, X.returnOut hx hret hd hr, hrun, hended, _, _, rfl, hq, ⟨_, rfl⟩, hW, hsame.mono hK hM⟩
/-- the value returned, nothing old written, the heap as it was -/
def own_QP (w : Value) (h0 : Heap) (n0 : Nat) (v : Option Value) (h : Heap) (L : List Loc) : Prop := v = some w ∧ Fr n0 L ∧ h = h0
/-- the value returned, nothing old written, the heap no shorter -/
def own_QG (w : Value) (h0 : Heap) (n0 : Nat) (v : Option Value) (h : Heap) (L : List Loc) : Prop := v = some w ∧ Fr n0 L ∧ n0 ≤ h.size
/-- an array of n components, f says what each holds -/
def own_VA (Z : State) (h : Heap) (a : Addr) (ty : FieldType) (n : Nat) (f : Nat → Value) : Prop := ∃ c : Cell, Arr Z h a c ty ∧ c.slots.size = n ∧ ∀ k, k < n → c.slots[k]? = some (f k)
theorem own_VA_new {Z : State} {h : Heap} {a : Addr} {k : ClassId} {ty : FieldType} {z : Int32} {n : Nat} {d : Value} (A : Arr Z h a (newA k ty z) ty) (hz : ¬ z < 0) (hn : z.toNatClampNeg = n) (hd : defaultValue ty = d) : own_VA Z h a ty n (fun _ => d) := by
  obtain ⟨c, A, -, S, -, H, -⟩ := Arv.new A hz
  subst hn hd
  exact ⟨c, A, S, fun i hi => H i (by rw [S]; exact hi)⟩
theorem own_VA_set {Z : State} {h h' : Heap} {a : Addr} {ty : FieldType} {n i : Nat} {f : Nat → Value} {v : Value} (V : own_VA Z h a ty n f) (W : Wr h h' a i v) (hi : i < n) : own_VA Z h' a ty n (fun q => if q = i then v else f q) := by
  obtain ⟨c, A, S, H⟩ := V
  refine ⟨_, A.same W, by rw [sz_set]; exact S, fun k hk => ?_⟩
  show (c.slots.setIfInBounds i v)[k]? = some (if k = i then v else f k)
  by_cases q : k = i
  · subst q; rw [if_pos rfl, Array.getElem?_setIfInBounds_self_of_lt (by omega)]
  · rw [if_neg q, Array.getElem?_setIfInBounds_ne (fun z => q z.symm)]; exact H k hk
theorem own_VA_congr {Z : State} {h : Heap} {a : Addr} {ty : FieldType} {n : Nat} {f g : Nat → Value} (V : own_VA Z h a ty n f) (q : ∀ k, k < n → f k = g k) : own_VA Z h a ty n g := by
  obtain ⟨c, A, S, H⟩ := V
  exact ⟨c, A, S, fun k hk => by rw [← q k hk]; exact H k hk⟩
theorem own_VA_ext {Z : State} {h h' : Heap} {a : Addr} {ty : FieldType} {n : Nat} {f : Nat → Value} (V : own_VA Z h a ty n f) (E : Ext h h') : own_VA Z h' a ty n f := by
  obtain ⟨c, A, S, H⟩ := V
  exact ⟨c, A.ext E, S, H⟩
theorem own_VA_other {Z : State} {h h' : Heap} {a b : Addr} {ty : FieldType} {n sl : Nat} {v : Value} {f : Nat → Value} (V : own_VA Z h a ty n f) (W : Wr h h' b sl v) (q : a ≠ b) : own_VA Z h' a ty n f := by
  obtain ⟨c, A, S, H⟩ := V
  exact ⟨c, A.other W q, S, H⟩
theorem own_VA_lt {Z : State} {h : Heap} {a : Addr} {ty : FieldType} {n : Nat} {f : Nat → Value} (V : own_VA Z h a ty n f) : a < h.size := by
  obtain ⟨c, A, -⟩ := V
  exact A.lt
theorem own_inb {j : Int32} {c : Cell} {n : Nat} (S : c.slots.size = n) (hj : ¬ j < 0 ∧ j.toNatClampNeg < n) : ¬ (j < 0 ∨ c.slots.size ≤ j.toNatClampNeg) := fun q => q.elim hj.1 fun y => by rw [S] at y; omega
section Arrays
variable {p : Program} {l : Launch} {e : Env} {R : Room} {s : State} {m : MethodId} {args : Array Value} {below : List Frame} {meth : Method} {c : Code} {T : State} {locs : List Loc} {cells slots : Nat} {Z : State} {h : Heap} {a : Addr} {n : Nat} {f : Nat → Value}
theorem own_stI (X : Stand p l e R s m args below meth c T locs cells slots) (hx : p.tables.exec = Jvm.exec) (hZ : Z.Warmed39 s.vm) (eT : T.heap = h) (V : own_VA Z h a .int n f) {j x : Int32} (i : Nat) (hj : ¬ j < 0 ∧ j.toNatClampNeg < n) (hi : j.toNatClampNeg = i) {g : JFrame} (hg : g.method = m) {rest : List Value} (hs : g.stack = .int x :: .int j :: .ref a :: rest) (hd : decode c.code g.pc = .ok (.iastore, 1)) :
    ∃ T' h', Stand p l e R s m args below meth c T' (locs ++ [⟨a, j.toNatClampNeg⟩]) cells slots ∧ T'.heap = h' ∧ Wr h h' a i (.int x) ∧ own_VA Z h' a .int n (fun q => if q = i then .int x else f q) ∧ ∀ target, Steps p.tables e below (T'.setTop { g with pc := g.pc + 1, stack := rest }) target → Steps p.tables e below (T.setTop g) target := by
  obtain ⟨cl, A, S, H⟩ := V
  obtain ⟨T', h', X', e', W, st⟩ := stI X hx hZ eT A (own_inb S hj) hg hs hd
  subst hi
  exact ⟨T', h', X', e', W, own_VA_set ⟨cl, A, S, H⟩ W hj.2, st⟩
theorem own_stB (X : Stand p l e R s m args below meth c T locs cells slots) (hx : p.tables.exec = Jvm.exec) (hZ : Z.Warmed39 s.vm) (eT : T.heap = h) (V : own_VA Z h a .byte n f) {j x : Int32} (i : Nat) (hj : ¬ j < 0 ∧ j.toNatClampNeg < n) (hi : j.toNatClampNeg = i) {g : JFrame} (hg : g.method = m) {rest : List Value} (hs : g.stack = .int x :: .int j :: .ref a :: rest) (hd : decode c.code g.pc = .ok (.bastore, 1)) :
    ∃ T' h', Stand p l e R s m args below meth c T' (locs ++ [⟨a, j.toNatClampNeg⟩]) cells slots ∧ T'.heap = h' ∧ Wr h h' a i (.int (x.toInt8.toInt32)) ∧ own_VA Z h' a .byte n (fun q => if q = i then .int (x.toInt8.toInt32) else f q) ∧ ∀ target, Steps p.tables e below (T'.setTop { g with pc := g.pc + 1, stack := rest }) target → Steps p.tables e below (T.setTop g) target := by
  obtain ⟨cl, A, S, H⟩ := V
  obtain ⟨T', h', X', e', W, st⟩ := stB X hx hZ eT A (own_inb S hj) hg hs hd
  subst hi
  exact ⟨T', h', X', e', W, own_VA_set ⟨cl, A, S, H⟩ W hj.2, st⟩
theorem own_stJ (X : Stand p l e R s m args below meth c T locs cells slots) (hx : p.tables.exec = Jvm.exec) (hZ : Z.Warmed39 s.vm) (eT : T.heap = h) (V : own_VA Z h a .long n f) {j : Int32} {x : Int64} (i : Nat) (hj : ¬ j < 0 ∧ j.toNatClampNeg < n) (hi : j.toNatClampNeg = i) {g : JFrame} (hg : g.method = m) {rest : List Value} (hs : g.stack = .long x :: .int j :: .ref a :: rest) (hd : decode c.code g.pc = .ok (.lastore, 1)) :
    ∃ T' h', Stand p l e R s m args below meth c T' (locs ++ [⟨a, j.toNatClampNeg⟩]) cells slots ∧ T'.heap = h' ∧ Wr h h' a i (.long x) ∧ own_VA Z h' a .long n (fun q => if q = i then .long x else f q) ∧ ∀ target, Steps p.tables e below (T'.setTop { g with pc := g.pc + 1, stack := rest }) target → Steps p.tables e below (T.setTop g) target := by
  obtain ⟨cl, A, S, H⟩ := V
  obtain ⟨T', h', X', e', W, st⟩ := stJ X hx hZ eT A (own_inb S hj) hg hs hd
  subst hi
  exact ⟨T', h', X', e', W, own_VA_set ⟨cl, A, S, H⟩ W hj.2, st⟩
theorem own_ldI (X : Stand p l e R s m args below meth c T locs cells slots) (hx : p.tables.exec = Jvm.exec) (hZ : Z.Warmed39 s.vm) (eT : T.heap = h) (V : own_VA Z h a .int n f) {j w : Int32} (hj : ¬ j < 0 ∧ j.toNatClampNeg < n) (hv : f j.toNatClampNeg = .int w) {g : JFrame} (hg : g.method = m) {rest : List Value} (hs : g.stack = .int j :: .ref a :: rest) (hd : decode c.code g.pc = .ok (.iaload, 1)) :
    ∀ target, Steps p.tables e below (T.setTop { g with pc := g.pc + 1, stack := .int w :: rest }) target → Steps p.tables e below (T.setTop g) target := by
  obtain ⟨cl, A, S, H⟩ := V
  exact fun t k => X.iaload hx (by rw [eT]; exact A.1) (State.isArrayOf_alike hZ.alike A.2.1) A.2.2 (own_inb S hj) (hv ▸ H _ hj.2) hg hs hd t k
theorem own_ldB (X : Stand p l e R s m args below meth c T locs cells slots) (hx : p.tables.exec = Jvm.exec) (hZ : Z.Warmed39 s.vm) (eT : T.heap = h) (V : own_VA Z h a .byte n f) {j w : Int32} (hj : ¬ j < 0 ∧ j.toNatClampNeg < n) (hv : f j.toNatClampNeg = .int w) {g : JFrame} (hg : g.method = m) {rest : List Value} (hs : g.stack = .int j :: .ref a :: rest) (hd : decode c.code g.pc = .ok (.baload, 1)) :
    ∀ target, Steps p.tables e below (T.setTop { g with pc := g.pc + 1, stack := .int w :: rest }) target → Steps p.tables e below (T.setTop g) target := by
  obtain ⟨cl, A, S, H⟩ := V
  exact fun t k => X.baloadBytes hx (by rw [eT]; exact A.1) (State.isArrayOf_alike hZ.alike A.2.1) A.2.2 (own_inb S hj) (hv ▸ H _ hj.2) hg hs hd t k
theorem own_ldJ (X : Stand p l e R s m args below meth c T locs cells slots) (hx : p.tables.exec = Jvm.exec) (hZ : Z.Warmed39 s.vm) (eT : T.heap = h) (V : own_VA Z h a .long n f) {j : Int32} {w : Int64} (hj : ¬ j < 0 ∧ j.toNatClampNeg < n) (hv : f j.toNatClampNeg = .long w) {g : JFrame} (hg : g.method = m) {rest : List Value} (hs : g.stack = .int j :: .ref a :: rest) (hd : decode c.code g.pc = .ok (.laload, 1)) :
    ∀ target, Steps p.tables e below (T.setTop { g with pc := g.pc + 1, stack := .long w :: rest }) target → Steps p.tables e below (T.setTop g) target := by
  obtain ⟨cl, A, S, H⟩ := V
  exact fun t k => X.laload hx (by rw [eT]; exact A.1) (State.isArrayOf_alike hZ.alike A.2.1) A.2.2 (own_inb S hj) (hv ▸ H _ hj.2) hg hs hd t k
theorem own_len (X : Stand p l e R s m args below meth c T locs cells slots) (hx : p.tables.exec = Jvm.exec) (hZ : Z.Warmed39 s.vm) (eT : T.heap = h) {ty : FieldType} (V : own_VA Z h a ty n f) {z : Int32} (hz : n.toInt32 = z) {g : JFrame} (hg : g.method = m) {rest : List Value} (hs : g.stack = .ref a :: rest) (hd : decode c.code g.pc = .ok (.arraylength, 1)) :
    ∀ target, Steps p.tables e below (T.setTop { g with pc := g.pc + 1, stack := .int z :: rest }) target → Steps p.tables e below (T.setTop g) target := by
  obtain ⟨cl, A, S, H⟩ := V
  subst hz S
  exact fun t k => X.arraylength hx (by rw [eT]; exact A.1) (State.isArrayOf_alike hZ.alike A.2.1) hg hs hd t k
end Arrays
theorem own_small {x : Int32} {k : Nat} (hk : k < 2147483648) (h1 : ¬ x < 0) (h2 : x.toInt < k) : ∃ n : Nat, n < k ∧ x = Int32.ofNat n := by
  have z : (0 : Int32).toInt = 0 := rfl
  rw [Int32.lt_iff_toInt_lt, z] at h1
  refine ⟨x.toInt.toNat, by omega, Int32.toInt_inj.mp ?_⟩
  rw [Int32.toInt_ofNat_of_lt (by omega)]
  omega
theorem own_lt {x y : Int32} : x < y ↔ x.toInt < y.toInt := Int32.lt_iff_toInt_lt
theorem own_ne {x : Int32} {k : Int} (c : Int32) (hc : c.toInt = k) (h : x.toInt ≠ k) : ¬ x = c := fun q => h (by rw [q]; exact hc)
theorem own_byte (x : Int32) : ∃ n : Nat, n < 256 ∧ (x &&& (255 : Int32)) = Int32.ofNat n := by
  have e : (x &&& (255 : Int32)).toInt = x.toInt % 256 := c_mask x 255 8 (by decide) (by decide)
  have z : (0 : Int32).toInt = 0 := rfl
  exact own_small (k := 256) (by decide) (fun q => by have := own_lt.mp q; omega) (by omega)
theorem own_idx (x : Int32) : ¬ ((((x &&& (255 : Int32)).toUInt32 >>> ((4 : Int32) &&& 31).toUInt32).toInt32) < 0) ∧ (((x &&& (255 : Int32)).toUInt32 >>> ((4 : Int32) &&& 31).toUInt32).toInt32).toNatClampNeg < 16 := by
  obtain ⟨n, hn, e⟩ := own_byte x
  rw [e]
  exact (by decide +kernel : ∀ n : Fin 256, ¬ ((((Int32.ofNat n.val).toUInt32 >>> ((4 : Int32) &&& 31).toUInt32).toInt32) < 0) ∧ (((Int32.ofNat n.val).toUInt32 >>> ((4 : Int32) &&& 31).toUInt32).toInt32).toNatClampNeg < 16) ⟨n, hn⟩
/-! body 1: com/example/frame_to_method/frametomethod/FieldType.codeWidth:(I)I -/
theorem own_d1_0 : decode prog_50_method_13_code 0 = .ok (.iload_n 0, 1) := by decide +kernel
theorem own_d1_1 : decode prog_50_method_13_code 1 = .ok (.iconst 4, 1) := by decide +kernel
theorem own_d1_2 : decode prog_50_method_13_code 2 = .ok (.ishr, 1) := by decide +kernel
theorem own_d1_3 : decode prog_50_method_13_code 3 = .ok (.istore_n 1, 1) := by decide +kernel
theorem own_d1_4 : decode prog_50_method_13_code 4 = .ok (.iload_n 1, 1) := by decide +kernel
theorem own_d1_5 : decode prog_50_method_13_code 5 = .ok (.bipush 8, 2) := by decide +kernel
theorem own_d1_7 : decode prog_50_method_13_code 7 = .ok (.if_icmp .ge 7, 3) := by decide +kernel
theorem own_d1_10 : decode prog_50_method_13_code 10 = .ok (.iconst 1, 1) := by decide +kernel
theorem own_d1_11 : decode prog_50_method_13_code 11 = .ok (.iload_n 1, 1) := by decide +kernel
theorem own_d1_12 : decode prog_50_method_13_code 12 = .ok (.ishl, 1) := by decide +kernel
theorem own_d1_13 : decode prog_50_method_13_code 13 = .ok (.ireturn, 1) := by decide +kernel
theorem own_d1_14 : decode prog_50_method_13_code 14 = .ok (.iload_n 1, 1) := by decide +kernel
theorem own_d1_15 : decode prog_50_method_13_code 15 = .ok (.tableswitch 63 8 14 #[41, 41, 41, 59, 50, 54, 59], 41) := by decide +kernel
theorem own_d1_56 : decode prog_50_method_13_code 56 = .ok (.iconst 1, 1) := by decide +kernel
theorem own_d1_57 : decode prog_50_method_13_code 57 = .ok (.iload_n 1, 1) := by decide +kernel
theorem own_d1_58 : decode prog_50_method_13_code 58 = .ok (.bipush 8, 2) := by decide +kernel
theorem own_d1_60 : decode prog_50_method_13_code 60 = .ok (.isub, 1) := by decide +kernel
theorem own_d1_61 : decode prog_50_method_13_code 61 = .ok (.ishl, 1) := by decide +kernel
theorem own_d1_62 : decode prog_50_method_13_code 62 = .ok (.goto 17, 3) := by decide +kernel
theorem own_d1_65 : decode prog_50_method_13_code 65 = .ok (.iconst 5, 1) := by decide +kernel
theorem own_d1_66 : decode prog_50_method_13_code 66 = .ok (.goto 13, 3) := by decide +kernel
theorem own_d1_69 : decode prog_50_method_13_code 69 = .ok (.bipush 9, 2) := by decide +kernel
theorem own_d1_71 : decode prog_50_method_13_code 71 = .ok (.goto 8, 3) := by decide +kernel
theorem own_d1_74 : decode prog_50_method_13_code 74 = .ok (.iconst (-1), 1) := by decide +kernel
theorem own_d1_75 : decode prog_50_method_13_code 75 = .ok (.goto 4, 3) := by decide +kernel
theorem own_d1_78 : decode prog_50_method_13_code 78 = .ok (.iconst 0, 1) := by decide +kernel
theorem own_d1_79 : decode prog_50_method_13_code 79 = .ok (.ireturn, 1) := by decide +kernel
theorem own_sw_out15 {x : Int32} (h0 : ¬ x = (8 : Int32)) (h1 : ¬ x = (9 : Int32)) (h2 : ¬ x = (10 : Int32)) (h3 : ¬ x = (11 : Int32)) (h4 : ¬ x = (12 : Int32)) (h5 : ¬ x = (13 : Int32)) (h6 : ¬ x = (14 : Int32)) : x.toInt < 8 ∨ x.toInt > 14 := by
  have g0 : x.toInt ≠ 8 := fun q => h0 (Int32.toInt_inj.mp (by rw [q]; rfl))
  have g1 : x.toInt ≠ 9 := fun q => h1 (Int32.toInt_inj.mp (by rw [q]; rfl))
  have g2 : x.toInt ≠ 10 := fun q => h2 (Int32.toInt_inj.mp (by rw [q]; rfl))
  have g3 : x.toInt ≠ 11 := fun q => h3 (Int32.toInt_inj.mp (by rw [q]; rfl))
  have g4 : x.toInt ≠ 12 := fun q => h4 (Int32.toInt_inj.mp (by rw [q]; rfl))
  have g5 : x.toInt ≠ 13 := fun q => h5 (Int32.toInt_inj.mp (by rw [q]; rfl))
  have g6 : x.toInt ≠ 14 := fun q => h6 (Int32.toInt_inj.mp (by rw [q]; rfl))
  omega
def own_f1_0 (x0 : Int32) : Int32 := (if (x0 >>> ((4 : Int32) &&& 31)) < (8 : Int32) then ((1 : Int32) <<< ((x0 >>> ((4 : Int32) &&& 31)) &&& 31)) else (if (x0 >>> ((4 : Int32) &&& 31)) = (8 : Int32) then ((1 : Int32) <<< (((x0 >>> ((4 : Int32) &&& 31)) - (8 : Int32)) &&& 31)) else (if (x0 >>> ((4 : Int32) &&& 31)) = (9 : Int32) then ((1 : Int32) <<< (((x0 >>> ((4 : Int32) &&& 31)) - (8 : Int32)) &&& 31)) else (if (x0 >>> ((4 : Int32) &&& 31)) = (10 : Int32) then ((1 : Int32) <<< (((x0 >>> ((4 : Int32) &&& 31)) - (8 : Int32)) &&& 31)) else (if (x0 >>> ((4 : Int32) &&& 31)) = (11 : Int32) then (-1 : Int32) else (if (x0 >>> ((4 : Int32) &&& 31)) = (12 : Int32) then (5 : Int32) else (if (x0 >>> ((4 : Int32) &&& 31)) = (13 : Int32) then (9 : Int32) else (if (x0 >>> ((4 : Int32) &&& 31)) = (14 : Int32) then (-1 : Int32) else (0 : Int32)))))))))
set_option maxRecDepth 65536 in
set_option maxHeartbeats 4000000 in
theorem own_l1_0 {p : Program} {l : Launch} {e : Env} {s : State} {m : MethodId} {args : Array Value} {below : List Frame} {meth : Method} {c : Code} {T : State} {locs : List Loc} {Z : State} {a0 : Array Value} {h0 : Heap} {n0 : Nat}
    (X : Stand p l e ({ frames := 0, cells := 0, slots := 0, locals := 0 } : Room) s m args below meth c T locs 0 0) (hx : p.tables.exec = Jvm.exec) (hZ : Z.Warmed39 s.vm) (hw : ∀ d ∈ tables_1, d.before a0 Z = true) (hby : c.code = prog_50_method_13_code) (hml : c.maxLocals = 2) (hown : s.vm.findClass "com/example/frame_to_method/frametomethod/FieldType" = some m.cls) (hret : meth.sig.returnType = some .int) (hlk : meth.locks = false) (e0 : T.heap = h0) (N : Fr n0 locs) (Z0 : n0 ≤ h0.size)
    (x0 : Int32) {r : Int32} (hR : r = own_f1_0 x0) : own_Go p e below s ({ frames := 0, cells := 0, slots := 0, locals := 0 } : Room).cells ({ frames := 0, cells := 0, slots := 0, locals := 0 } : Room).slots (own_QP (.int r) h0 n0) (T.setTop (mkF m 0 #[.val (.int x0), .unset] [])) := by
  unfold own_f1_0 at hR
  refine own_back (fun t k => XS.iloadN X.here hx rfl (hb hby own_d1_0) rfl k) ?_
  show own_Go _ _ _ _ _ _ _ (T.setTop (mkF m 1 #[.val (.int x0), .unset] [(.int x0)]))
  refine own_back (fun t k => XS.iconst X.here hx rfl (hb hby own_d1_1) k) ?_
  show own_Go _ _ _ _ _ _ _ (T.setTop (mkF m 2 #[.val (.int x0), .unset] [(.int (4 : Int32)), (.int x0)]))
  refine own_back (fun t k => XS.ishr X.here hx rfl (hb hby own_d1_2) rfl k) ?_
  show own_Go _ _ _ _ _ _ _ (T.setTop (mkF m 3 #[.val (.int x0), .unset] [(.int (x0 >>> ((4 : Int32) &&& 31)))]))
  refine own_back (fun t k => XS.istoreN X.here hx rfl (hb hby own_d1_3) rfl (l' := #[.val (.int x0), .val (.int (x0 >>> ((4 : Int32) &&& 31)))]) rfl k) ?_
  show own_Go _ _ _ _ _ _ _ (T.setTop (mkF m 4 #[.val (.int x0), .val (.int (x0 >>> ((4 : Int32) &&& 31)))] []))
  refine own_back (fun t k => XS.iloadN X.here hx rfl (hb hby own_d1_4) rfl k) ?_
  show own_Go _ _ _ _ _ _ _ (T.setTop (mkF m 5 #[.val (.int x0), .val (.int (x0 >>> ((4 : Int32) &&& 31)))] [(.int (x0 >>> ((4 : Int32) &&& 31)))]))
  refine own_back (fun t k => XS.bipush X.here hx rfl (hb hby own_d1_5) k) ?_
  show own_Go _ _ _ _ _ _ _ (T.setTop (mkF m 7 #[.val (.int x0), .val (.int (x0 >>> ((4 : Int32) &&& 31)))] [(.int (8 : Int32)), (.int (x0 >>> ((4 : Int32) &&& 31)))]))
  by_cases hc7 : (x0 >>> ((4 : Int32) &&& 31)) < (8 : Int32)
  · rw [if_pos hc7] at hR
    refine own_back (fun t k => XS.icmpNo X.here hx rfl (hb hby own_d1_7) rfl (tlt hc7).2.1 k) ?_
    show own_Go _ _ _ _ _ _ _ (T.setTop (mkF m 10 #[.val (.int x0), .val (.int (x0 >>> ((4 : Int32) &&& 31)))] []))
    refine own_back (fun t k => XS.iconst X.here hx rfl (hb hby own_d1_10) k) ?_
    show own_Go _ _ _ _ _ _ _ (T.setTop (mkF m 11 #[.val (.int x0), .val (.int (x0 >>> ((4 : Int32) &&& 31)))] [(.int (1 : Int32))]))
    refine own_back (fun t k => XS.iloadN X.here hx rfl (hb hby own_d1_11) rfl k) ?_
    show own_Go _ _ _ _ _ _ _ (T.setTop (mkF m 12 #[.val (.int x0), .val (.int (x0 >>> ((4 : Int32) &&& 31)))] [(.int (x0 >>> ((4 : Int32) &&& 31))), (.int (1 : Int32))]))
    refine own_back (fun t k => XS.ishl X.here hx rfl (hb hby own_d1_12) rfl k) ?_
    show own_Go _ _ _ _ _ _ _ (T.setTop (mkF m 13 #[.val (.int x0), .val (.int (x0 >>> ((4 : Int32) &&& 31)))] [(.int ((1 : Int32) <<< ((x0 >>> ((4 : Int32) &&& 31)) &&& 31)))]))
    subst hR
    exact own_retI X hx hret (hb hby own_d1_13) hlk ⟨rfl, N, e0⟩ (by decide) (by decide)
  · rw [if_neg hc7] at hR
    refine own_back (fun t k => XS.icmpYes X.here hx rfl (pc0 := 7) (pc' := 14) rfl (hb hby own_d1_7) rfl (flt hc7).2.1 (by decide) (by decide) k) ?_
    show own_Go _ _ _ _ _ _ _ (T.setTop (mkF m 14 #[.val (.int x0), .val (.int (x0 >>> ((4 : Int32) &&& 31)))] []))
    refine own_back (fun t k => XS.iloadN X.here hx rfl (hb hby own_d1_14) rfl k) ?_
    show own_Go _ _ _ _ _ _ _ (T.setTop (mkF m 15 #[.val (.int x0), .val (.int (x0 >>> ((4 : Int32) &&& 31)))] [(.int (x0 >>> ((4 : Int32) &&& 31)))]))
    by_cases hs15_0 : (x0 >>> ((4 : Int32) &&& 31)) = (8 : Int32)
    · rw [if_pos hs15_0] at hR
      refine own_back (fun t k => XS.tswIn X.here hx rfl (pc0 := 15) (pc' := 56) (o := 41) rfl (hb hby own_d1_15) rfl (by rw [hs15_0]; decide) (by rw [hs15_0]; rfl) (by decide) (by decide) k) ?_
      show own_Go _ _ _ _ _ _ _ (T.setTop (mkF m 56 #[.val (.int x0), .val (.int (x0 >>> ((4 : Int32) &&& 31)))] []))
      refine own_back (fun t k => XS.iconst X.here hx rfl (hb hby own_d1_56) k) ?_
      show own_Go _ _ _ _ _ _ _ (T.setTop (mkF m 57 #[.val (.int x0), .val (.int (x0 >>> ((4 : Int32) &&& 31)))] [(.int (1 : Int32))]))
      refine own_back (fun t k => XS.iloadN X.here hx rfl (hb hby own_d1_57) rfl k) ?_
      show own_Go _ _ _ _ _ _ _ (T.setTop (mkF m 58 #[.val (.int x0), .val (.int (x0 >>> ((4 : Int32) &&& 31)))] [(.int (x0 >>> ((4 : Int32) &&& 31))), (.int (1 : Int32))]))
      refine own_back (fun t k => XS.bipush X.here hx rfl (hb hby own_d1_58) k) ?_
      show own_Go _ _ _ _ _ _ _ (T.setTop (mkF m 60 #[.val (.int x0), .val (.int (x0 >>> ((4 : Int32) &&& 31)))] [(.int (8 : Int32)), (.int (x0 >>> ((4 : Int32) &&& 31))), (.int (1 : Int32))]))
      refine own_back (fun t k => XS.isub X.here hx rfl (hb hby own_d1_60) rfl k) ?_
      show own_Go _ _ _ _ _ _ _ (T.setTop (mkF m 61 #[.val (.int x0), .val (.int (x0 >>> ((4 : Int32) &&& 31)))] [(.int ((x0 >>> ((4 : Int32) &&& 31)) - (8 : Int32))), (.int (1 : Int32))]))
      refine own_back (fun t k => XS.ishl X.here hx rfl (hb hby own_d1_61) rfl k) ?_
      show own_Go _ _ _ _ _ _ _ (T.setTop (mkF m 62 #[.val (.int x0), .val (.int (x0 >>> ((4 : Int32) &&& 31)))] [(.int ((1 : Int32) <<< (((x0 >>> ((4 : Int32) &&& 31)) - (8 : Int32)) &&& 31)))]))
      refine own_back (fun t k => XS.goto X.here hx rfl (pc0 := 62) (pc' := 79) rfl (hb hby own_d1_62) (by decide) (by decide) k) ?_
      show own_Go _ _ _ _ _ _ _ (T.setTop (mkF m 79 #[.val (.int x0), .val (.int (x0 >>> ((4 : Int32) &&& 31)))] [(.int ((1 : Int32) <<< (((x0 >>> ((4 : Int32) &&& 31)) - (8 : Int32)) &&& 31)))]))
      subst hR
      exact own_retI X hx hret (hb hby own_d1_79) hlk ⟨rfl, N, e0⟩ (by decide) (by decide)
    rw [if_neg hs15_0] at hR
    by_cases hs15_1 : (x0 >>> ((4 : Int32) &&& 31)) = (9 : Int32)
    · rw [if_pos hs15_1] at hR
      refine own_back (fun t k => XS.tswIn X.here hx rfl (pc0 := 15) (pc' := 56) (o := 41) rfl (hb hby own_d1_15) rfl (by rw [hs15_1]; decide) (by rw [hs15_1]; rfl) (by decide) (by decide) k) ?_
      show own_Go _ _ _ _ _ _ _ (T.setTop (mkF m 56 #[.val (.int x0), .val (.int (x0 >>> ((4 : Int32) &&& 31)))] []))
      refine own_back (fun t k => XS.iconst X.here hx rfl (hb hby own_d1_56) k) ?_
      show own_Go _ _ _ _ _ _ _ (T.setTop (mkF m 57 #[.val (.int x0), .val (.int (x0 >>> ((4 : Int32) &&& 31)))] [(.int (1 : Int32))]))
      refine own_back (fun t k => XS.iloadN X.here hx rfl (hb hby own_d1_57) rfl k) ?_
      show own_Go _ _ _ _ _ _ _ (T.setTop (mkF m 58 #[.val (.int x0), .val (.int (x0 >>> ((4 : Int32) &&& 31)))] [(.int (x0 >>> ((4 : Int32) &&& 31))), (.int (1 : Int32))]))
      refine own_back (fun t k => XS.bipush X.here hx rfl (hb hby own_d1_58) k) ?_
      show own_Go _ _ _ _ _ _ _ (T.setTop (mkF m 60 #[.val (.int x0), .val (.int (x0 >>> ((4 : Int32) &&& 31)))] [(.int (8 : Int32)), (.int (x0 >>> ((4 : Int32) &&& 31))), (.int (1 : Int32))]))
      refine own_back (fun t k => XS.isub X.here hx rfl (hb hby own_d1_60) rfl k) ?_
      show own_Go _ _ _ _ _ _ _ (T.setTop (mkF m 61 #[.val (.int x0), .val (.int (x0 >>> ((4 : Int32) &&& 31)))] [(.int ((x0 >>> ((4 : Int32) &&& 31)) - (8 : Int32))), (.int (1 : Int32))]))
      refine own_back (fun t k => XS.ishl X.here hx rfl (hb hby own_d1_61) rfl k) ?_
      show own_Go _ _ _ _ _ _ _ (T.setTop (mkF m 62 #[.val (.int x0), .val (.int (x0 >>> ((4 : Int32) &&& 31)))] [(.int ((1 : Int32) <<< (((x0 >>> ((4 : Int32) &&& 31)) - (8 : Int32)) &&& 31)))]))
      refine own_back (fun t k => XS.goto X.here hx rfl (pc0 := 62) (pc' := 79) rfl (hb hby own_d1_62) (by decide) (by decide) k) ?_
      show own_Go _ _ _ _ _ _ _ (T.setTop (mkF m 79 #[.val (.int x0), .val (.int (x0 >>> ((4 : Int32) &&& 31)))] [(.int ((1 : Int32) <<< (((x0 >>> ((4 : Int32) &&& 31)) - (8 : Int32)) &&& 31)))]))
      subst hR
      exact own_retI X hx hret (hb hby own_d1_79) hlk ⟨rfl, N, e0⟩ (by decide) (by decide)
    rw [if_neg hs15_1] at hR
    by_cases hs15_2 : (x0 >>> ((4 : Int32) &&& 31)) = (10 : Int32)
    · rw [if_pos hs15_2] at hR
      refine own_back (fun t k => XS.tswIn X.here hx rfl (pc0 := 15) (pc' := 56) (o := 41) rfl (hb hby own_d1_15) rfl (by rw [hs15_2]; decide) (by rw [hs15_2]; rfl) (by decide) (by decide) k) ?_
      show own_Go _ _ _ _ _ _ _ (T.setTop (mkF m 56 #[.val (.int x0), .val (.int (x0 >>> ((4 : Int32) &&& 31)))] []))
      refine own_back (fun t k => XS.iconst X.here hx rfl (hb hby own_d1_56) k) ?_
      show own_Go _ _ _ _ _ _ _ (T.setTop (mkF m 57 #[.val (.int x0), .val (.int (x0 >>> ((4 : Int32) &&& 31)))] [(.int (1 : Int32))]))
      refine own_back (fun t k => XS.iloadN X.here hx rfl (hb hby own_d1_57) rfl k) ?_
      show own_Go _ _ _ _ _ _ _ (T.setTop (mkF m 58 #[.val (.int x0), .val (.int (x0 >>> ((4 : Int32) &&& 31)))] [(.int (x0 >>> ((4 : Int32) &&& 31))), (.int (1 : Int32))]))
      refine own_back (fun t k => XS.bipush X.here hx rfl (hb hby own_d1_58) k) ?_
      show own_Go _ _ _ _ _ _ _ (T.setTop (mkF m 60 #[.val (.int x0), .val (.int (x0 >>> ((4 : Int32) &&& 31)))] [(.int (8 : Int32)), (.int (x0 >>> ((4 : Int32) &&& 31))), (.int (1 : Int32))]))
      refine own_back (fun t k => XS.isub X.here hx rfl (hb hby own_d1_60) rfl k) ?_
      show own_Go _ _ _ _ _ _ _ (T.setTop (mkF m 61 #[.val (.int x0), .val (.int (x0 >>> ((4 : Int32) &&& 31)))] [(.int ((x0 >>> ((4 : Int32) &&& 31)) - (8 : Int32))), (.int (1 : Int32))]))
      refine own_back (fun t k => XS.ishl X.here hx rfl (hb hby own_d1_61) rfl k) ?_
      show own_Go _ _ _ _ _ _ _ (T.setTop (mkF m 62 #[.val (.int x0), .val (.int (x0 >>> ((4 : Int32) &&& 31)))] [(.int ((1 : Int32) <<< (((x0 >>> ((4 : Int32) &&& 31)) - (8 : Int32)) &&& 31)))]))
      refine own_back (fun t k => XS.goto X.here hx rfl (pc0 := 62) (pc' := 79) rfl (hb hby own_d1_62) (by decide) (by decide) k) ?_
      show own_Go _ _ _ _ _ _ _ (T.setTop (mkF m 79 #[.val (.int x0), .val (.int (x0 >>> ((4 : Int32) &&& 31)))] [(.int ((1 : Int32) <<< (((x0 >>> ((4 : Int32) &&& 31)) - (8 : Int32)) &&& 31)))]))
      subst hR
      exact own_retI X hx hret (hb hby own_d1_79) hlk ⟨rfl, N, e0⟩ (by decide) (by decide)
    rw [if_neg hs15_2] at hR
    by_cases hs15_3 : (x0 >>> ((4 : Int32) &&& 31)) = (11 : Int32)
    · rw [if_pos hs15_3] at hR
      refine own_back (fun t k => XS.tswIn X.here hx rfl (pc0 := 15) (pc' := 74) (o := 59) rfl (hb hby own_d1_15) rfl (by rw [hs15_3]; decide) (by rw [hs15_3]; rfl) (by decide) (by decide) k) ?_
      show own_Go _ _ _ _ _ _ _ (T.setTop (mkF m 74 #[.val (.int x0), .val (.int (x0 >>> ((4 : Int32) &&& 31)))] []))
      refine own_back (fun t k => XS.iconst X.here hx rfl (hb hby own_d1_74) k) ?_
      show own_Go _ _ _ _ _ _ _ (T.setTop (mkF m 75 #[.val (.int x0), .val (.int (x0 >>> ((4 : Int32) &&& 31)))] [(.int (-1 : Int32))]))
      refine own_back (fun t k => XS.goto X.here hx rfl (pc0 := 75) (pc' := 79) rfl (hb hby own_d1_75) (by decide) (by decide) k) ?_
      show own_Go _ _ _ _ _ _ _ (T.setTop (mkF m 79 #[.val (.int x0), .val (.int (x0 >>> ((4 : Int32) &&& 31)))] [(.int (-1 : Int32))]))
      subst hR
      exact own_retI X hx hret (hb hby own_d1_79) hlk ⟨rfl, N, e0⟩ (by decide) (by decide)
    rw [if_neg hs15_3] at hR
    by_cases hs15_4 : (x0 >>> ((4 : Int32) &&& 31)) = (12 : Int32)
    · rw [if_pos hs15_4] at hR
      refine own_back (fun t k => XS.tswIn X.here hx rfl (pc0 := 15) (pc' := 65) (o := 50) rfl (hb hby own_d1_15) rfl (by rw [hs15_4]; decide) (by rw [hs15_4]; rfl) (by decide) (by decide) k) ?_
      show own_Go _ _ _ _ _ _ _ (T.setTop (mkF m 65 #[.val (.int x0), .val (.int (x0 >>> ((4 : Int32) &&& 31)))] []))
      refine own_back (fun t k => XS.iconst X.here hx rfl (hb hby own_d1_65) k) ?_
      show own_Go _ _ _ _ _ _ _ (T.setTop (mkF m 66 #[.val (.int x0), .val (.int (x0 >>> ((4 : Int32) &&& 31)))] [(.int (5 : Int32))]))
      refine own_back (fun t k => XS.goto X.here hx rfl (pc0 := 66) (pc' := 79) rfl (hb hby own_d1_66) (by decide) (by decide) k) ?_
      show own_Go _ _ _ _ _ _ _ (T.setTop (mkF m 79 #[.val (.int x0), .val (.int (x0 >>> ((4 : Int32) &&& 31)))] [(.int (5 : Int32))]))
      subst hR
      exact own_retI X hx hret (hb hby own_d1_79) hlk ⟨rfl, N, e0⟩ (by decide) (by decide)
    rw [if_neg hs15_4] at hR
    by_cases hs15_5 : (x0 >>> ((4 : Int32) &&& 31)) = (13 : Int32)
    · rw [if_pos hs15_5] at hR
      refine own_back (fun t k => XS.tswIn X.here hx rfl (pc0 := 15) (pc' := 69) (o := 54) rfl (hb hby own_d1_15) rfl (by rw [hs15_5]; decide) (by rw [hs15_5]; rfl) (by decide) (by decide) k) ?_
      show own_Go _ _ _ _ _ _ _ (T.setTop (mkF m 69 #[.val (.int x0), .val (.int (x0 >>> ((4 : Int32) &&& 31)))] []))
      refine own_back (fun t k => XS.bipush X.here hx rfl (hb hby own_d1_69) k) ?_
      show own_Go _ _ _ _ _ _ _ (T.setTop (mkF m 71 #[.val (.int x0), .val (.int (x0 >>> ((4 : Int32) &&& 31)))] [(.int (9 : Int32))]))
      refine own_back (fun t k => XS.goto X.here hx rfl (pc0 := 71) (pc' := 79) rfl (hb hby own_d1_71) (by decide) (by decide) k) ?_
      show own_Go _ _ _ _ _ _ _ (T.setTop (mkF m 79 #[.val (.int x0), .val (.int (x0 >>> ((4 : Int32) &&& 31)))] [(.int (9 : Int32))]))
      subst hR
      exact own_retI X hx hret (hb hby own_d1_79) hlk ⟨rfl, N, e0⟩ (by decide) (by decide)
    rw [if_neg hs15_5] at hR
    by_cases hs15_6 : (x0 >>> ((4 : Int32) &&& 31)) = (14 : Int32)
    · rw [if_pos hs15_6] at hR
      refine own_back (fun t k => XS.tswIn X.here hx rfl (pc0 := 15) (pc' := 74) (o := 59) rfl (hb hby own_d1_15) rfl (by rw [hs15_6]; decide) (by rw [hs15_6]; rfl) (by decide) (by decide) k) ?_
      show own_Go _ _ _ _ _ _ _ (T.setTop (mkF m 74 #[.val (.int x0), .val (.int (x0 >>> ((4 : Int32) &&& 31)))] []))
      refine own_back (fun t k => XS.iconst X.here hx rfl (hb hby own_d1_74) k) ?_
      show own_Go _ _ _ _ _ _ _ (T.setTop (mkF m 75 #[.val (.int x0), .val (.int (x0 >>> ((4 : Int32) &&& 31)))] [(.int (-1 : Int32))]))
      refine own_back (fun t k => XS.goto X.here hx rfl (pc0 := 75) (pc' := 79) rfl (hb hby own_d1_75) (by decide) (by decide) k) ?_
      show own_Go _ _ _ _ _ _ _ (T.setTop (mkF m 79 #[.val (.int x0), .val (.int (x0 >>> ((4 : Int32) &&& 31)))] [(.int (-1 : Int32))]))
      subst hR
      exact own_retI X hx hret (hb hby own_d1_79) hlk ⟨rfl, N, e0⟩ (by decide) (by decide)
    rw [if_neg hs15_6] at hR
    refine own_back (fun t k => XS.tswOut X.here hx rfl (pc0 := 15) (pc' := 78) rfl (hb hby own_d1_15) rfl (own_sw_out15 hs15_0 hs15_1 hs15_2 hs15_3 hs15_4 hs15_5 hs15_6) (by decide) (by decide) k) ?_
    show own_Go _ _ _ _ _ _ _ (T.setTop (mkF m 78 #[.val (.int x0), .val (.int (x0 >>> ((4 : Int32) &&& 31)))] []))
    refine own_back (fun t k => XS.iconst X.here hx rfl (hb hby own_d1_78) k) ?_
    show own_Go _ _ _ _ _ _ _ (T.setTop (mkF m 79 #[.val (.int x0), .val (.int (x0 >>> ((4 : Int32) &&& 31)))] [(.int (0 : Int32))]))
    subst hR
    exact own_retI X hx hret (hb hby own_d1_79) hlk ⟨rfl, N, e0⟩ (by decide) (by decide)
theorem own_pn1 : plainName "com/example/frame_to_method/frametomethod/FieldType" = true := by first | (simp [plainName, overriddenIn]; done) | decide +kernel
theorem own_ef1 (m : MethodId) (x0 : Int32) : entryFrame m #[(.int x0)] 2 = mkF m 0 #[.val (.int x0), .unset] [] := by first | (simp [entryFrame, mkF, argsToLocals, Value.category]; done) | rfl
set_option maxRecDepth 65536 in
set_option maxHeartbeats 4000000 in
theorem own_rm1 (l : Launch) (Z : State) (a0 : Array Value) (hw : ∀ d ∈ tables_1, d.before a0 Z = true) (ws : List Jvm.Cond) (x0 : Int32) (h0 : Heap) (n0 : Nat) (Z0 : n0 ≤ h0.size) :
    MetFree l (⟨"com/example/frame_to_method/frametomethod/FieldType", "codeWidth", "(I)I"⟩ : MethodName) (head1 (Jvm.Cond.code (⟨"com/example/frame_to_method/frametomethod/FieldType", "codeWidth", "(I)I"⟩ : MethodName) prog_50_method_13_code 2 (some .int) :: ws) ({ frames := 0, cells := 0, slots := 0, locals := 0 } : Room)) (fun a U => a = #[(.int x0)] ∧ Z.Warmed39 U.vm ∧ U.heap = h0) (fun _ _ _ _ _ => True) (fun _ U o U' => ∃ v L, o = .returned v ∧ own_QP (.int (own_f1_0 x0)) h0 n0 v U'.heap L ∧ FrameEnd U o U' L ({ frames := 0, cells := 0, slots := 0, locals := 0 } : Room).cells ({ frames := 0, cells := 0, slots := 0, locals := 0 } : Room).slots) := by
  refine MetFree.of_bodySF (plainFor_of_name own_pn1) hisR ?_
  intro p e s m args below meth c s₁ Bd hml0 hP hK
  obtain ⟨rfl, hZ, hh⟩ := hP
  have X0 : Stand p l e ({ frames := 0, cells := 0, slots := 0, locals := 0 } : Room) s m #[(.int x0)] below meth c s₁ [] 0 0 := Stand.of_body Bd
  have e0 : s₁.heap = h0 := by rw [← hh, Bd.state]; rfl
  refine own_back (s := s) (fun t k => castTop (own_ef1 m x0) k) ?_
  exact own_l1_0 X0 Bd.exec hZ hw Bd.bytes hml0 (findClass_of_methodNamed Bd.named) Bd.returns (BodyLoose.notSynchronized Bd) e0 (Fr.nil n0) Z0 x0 rfl
theorem own_pd0 : parseMethodDescriptor "(I)I" = some ⟨[.int], some .int⟩ := by decide +kernel
/-! body 0: com/example/frame_to_method/frametomethod/FieldTypeCodeWidthPinLaw.law:(I)Z -/
def own_tab0 (k : Nat) : Int32 := [(1 : Int32), (2 : Int32), (4 : Int32), (8 : Int32), (16 : Int32), (32 : Int32), (64 : Int32), (128 : Int32), (1 : Int32), (2 : Int32), (4 : Int32), (-1 : Int32), (5 : Int32), (9 : Int32), (-1 : Int32), (0 : Int32)].getD k 0
def own_f0_0 (x0 : Int32) : Int32 := (if (own_f1_0 (x0 &&& (255 : Int32))) = (own_tab0 (((x0 &&& (255 : Int32)).toUInt32 >>> ((4 : Int32) &&& 31).toUInt32).toInt32).toNatClampNeg) then (1 : Int32) else (0 : Int32))
set_option maxRecDepth 65536 in
set_option maxHeartbeats 4000000 in
theorem own_l0_0 {p : Program} {l : Launch} {e : Env} {s : State} {m : MethodId} {args : Array Value} {below : List Frame} {meth : Method} {c : Code} {T : State} {locs : List Loc} {Z : State} {a0 : Array Value} {h0 : Heap} {n0 : Nat}
    (X : Stand p l e room_1 s m args below meth c T locs 0 0) (hx : p.tables.exec = Jvm.exec) (hZ : Z.Warmed39 s.vm) (hw : ∀ d ∈ tables_1, d.before a0 Z = true) (hby : c.code = code) (hml : c.maxLocals = 4) (hown : s.vm.findClass "com/example/frame_to_method/frametomethod/FieldTypeCodeWidthPinLaw" = some m.cls) (hret : meth.sig.returnType = some .boolean) (hlk : meth.locks = false) (e0 : T.heap = h0) (N : Fr n0 locs) (Z0 : n0 ≤ h0.size)
    (x0 : Int32) {r : Int32} (hR : r = own_f0_0 x0) : own_Go p e below s room_1.cells room_1.slots (own_QG (.int r) h0 n0) (T.setTop (mkF m 0 #[.val (.int x0), .unset, .unset, .unset] [])) := by
  unfold own_f0_0 at hR
  refine own_back (fun t k => XS.iloadN X.here hx rfl (hb hby at_0) rfl k) ?_
  show own_Go _ _ _ _ _ _ _ (T.setTop (mkF m 1 #[.val (.int x0), .unset, .unset, .unset] [(.int x0)]))
  refine own_back (fun t k => XS.sipush X.here hx rfl (hb hby at_1) k) ?_
  show own_Go _ _ _ _ _ _ _ (T.setTop (mkF m 4 #[.val (.int x0), .unset, .unset, .unset] [(.int (255 : Int32)), (.int x0)]))
  refine own_back (fun t k => XS.iand X.here hx rfl (hb hby at_4) rfl k) ?_
  show own_Go _ _ _ _ _ _ _ (T.setTop (mkF m 5 #[.val (.int x0), .unset, .unset, .unset] [(.int (x0 &&& (255 : Int32)))]))
  refine own_back (fun t k => XS.istoreN X.here hx rfl (hb hby at_5) rfl (l' := #[.val (.int x0), .val (.int (x0 &&& (255 : Int32))), .unset, .unset]) rfl k) ?_
  show own_Go _ _ _ _ _ _ _ (T.setTop (mkF m 6 #[.val (.int x0), .val (.int (x0 &&& (255 : Int32))), .unset, .unset] []))
  refine own_back (fun t k => XS.iloadN X.here hx rfl (hb hby at_6) rfl k) ?_
  show own_Go _ _ _ _ _ _ _ (T.setTop (mkF m 7 #[.val (.int x0), .val (.int (x0 &&& (255 : Int32))), .unset, .unset] [(.int (x0 &&& (255 : Int32)))]))
  refine own_back (fun t k => XS.iconst X.here hx rfl (hb hby at_7) k) ?_
  show own_Go _ _ _ _ _ _ _ (T.setTop (mkF m 8 #[.val (.int x0), .val (.int (x0 &&& (255 : Int32))), .unset, .unset] [(.int (4 : Int32)), (.int (x0 &&& (255 : Int32)))]))
  refine own_back (fun t k => XS.iushr X.here hx rfl (hb hby at_8) rfl k) ?_
  show own_Go _ _ _ _ _ _ _ (T.setTop (mkF m 9 #[.val (.int x0), .val (.int (x0 &&& (255 : Int32))), .unset, .unset] [(.int (((x0 &&& (255 : Int32)).toUInt32 >>> ((4 : Int32) &&& 31).toUInt32).toInt32))]))
  refine own_back (fun t k => XS.istoreN X.here hx rfl (hb hby at_9) rfl (l' := #[.val (.int x0), .val (.int (x0 &&& (255 : Int32))), .val (.int (((x0 &&& (255 : Int32)).toUInt32 >>> ((4 : Int32) &&& 31).toUInt32).toInt32)), .unset]) rfl k) ?_
  show own_Go _ _ _ _ _ _ _ (T.setTop (mkF m 10 #[.val (.int x0), .val (.int (x0 &&& (255 : Int32))), .val (.int (((x0 &&& (255 : Int32)).toUInt32 >>> ((4 : Int32) &&& 31).toUInt32).toInt32)), .unset] []))
  refine own_back (fun t k => XS.bipush X.here hx rfl (hb hby at_10) k) ?_
  show own_Go _ _ _ _ _ _ _ (T.setTop (mkF m 12 #[.val (.int x0), .val (.int (x0 &&& (255 : Int32))), .val (.int (((x0 &&& (255 : Int32)).toUInt32 >>> ((4 : Int32) &&& 31).toUInt32).toInt32)), .unset] [(.int (16 : Int32))]))
  obtain ⟨T1, h1, k1, X1, e1, E1, A1, st1⟩ := newP X hx hZ (hw _ (List.mem_of_getElem? (i := 0) rfl)) e0 (g := (mkF m 12 #[.val (.int x0), .val (.int (x0 &&& (255 : Int32))), .val (.int (((x0 &&& (255 : Int32)).toUInt32 >>> ((4 : Int32) &&& 31).toUInt32).toInt32)), .unset] [(.int (16 : Int32))])) rfl (hb hby at_12) rfl (by decide) (cap := 16) (by decide) (by decide) (by decide) (by decide)
  obtain ⟨b1, g1⟩ : ∃ z, z = h0.size := ⟨_, rfl⟩
  rw [← g1] at A1 st1
  have V1 : own_VA Z h1 b1 .int 16 (fun _ => (.int (0 : Int32))) := own_VA_new A1 (by decide) (by decide) rfl
  have qb1 : n0 ≤ b1 := Nat.le_trans Z0 (Nat.le_of_eq g1.symm)
  have Z1 : n0 ≤ h1.size := Nat.le_trans Z0 E1.1
  refine own_back (fun t k => st1 t k) ?_
  show own_Go _ _ _ _ _ _ _ (T1.setTop (mkF m 14 #[.val (.int x0), .val (.int (x0 &&& (255 : Int32))), .val (.int (((x0 &&& (255 : Int32)).toUInt32 >>> ((4 : Int32) &&& 31).toUInt32).toInt32)), .unset] [(.ref b1)]))
  refine own_back (fun t k => XS.dup X1.here hx rfl (hb hby at_14) rfl rfl k) ?_
  show own_Go _ _ _ _ _ _ _ (T1.setTop (mkF m 15 #[.val (.int x0), .val (.int (x0 &&& (255 : Int32))), .val (.int (((x0 &&& (255 : Int32)).toUInt32 >>> ((4 : Int32) &&& 31).toUInt32).toInt32)), .unset] [(.ref b1), (.ref b1)]))
  refine own_back (fun t k => XS.iconst X1.here hx rfl (hb hby at_15) k) ?_
  show own_Go _ _ _ _ _ _ _ (T1.setTop (mkF m 16 #[.val (.int x0), .val (.int (x0 &&& (255 : Int32))), .val (.int (((x0 &&& (255 : Int32)).toUInt32 >>> ((4 : Int32) &&& 31).toUInt32).toInt32)), .unset] [(.int (0 : Int32)), (.ref b1), (.ref b1)]))
  refine own_back (fun t k => XS.iconst X1.here hx rfl (hb hby at_16) k) ?_
  show own_Go _ _ _ _ _ _ _ (T1.setTop (mkF m 17 #[.val (.int x0), .val (.int (x0 &&& (255 : Int32))), .val (.int (((x0 &&& (255 : Int32)).toUInt32 >>> ((4 : Int32) &&& 31).toUInt32).toInt32)), .unset] [(.int (1 : Int32)), (.int (0 : Int32)), (.ref b1), (.ref b1)]))
  obtain ⟨T2, h2, X2, e2, W2, V2, st2⟩ := own_stI X1 hx hZ e1 V1 0 (by decide) (by decide) (g := (mkF m 17 #[.val (.int x0), .val (.int (x0 &&& (255 : Int32))), .val (.int (((x0 &&& (255 : Int32)).toUInt32 >>> ((4 : Int32) &&& 31).toUInt32).toInt32)), .unset] [(.int (1 : Int32)), (.int (0 : Int32)), (.ref b1), (.ref b1)])) rfl rfl (hb hby at_17)
  have N2 := Fr.snoc X2 N qb1
  have Z2 : n0 ≤ h2.size := Nat.le_trans Z1 (Keep.of_wr W2).1
  refine own_back (fun t k => st2 t k) ?_
  show own_Go _ _ _ _ _ _ _ (T2.setTop (mkF m 18 #[.val (.int x0), .val (.int (x0 &&& (255 : Int32))), .val (.int (((x0 &&& (255 : Int32)).toUInt32 >>> ((4 : Int32) &&& 31).toUInt32).toInt32)), .unset] [(.ref b1)]))
  refine own_back (fun t k => XS.dup X2.here hx rfl (hb hby at_18) rfl rfl k) ?_
  show own_Go _ _ _ _ _ _ _ (T2.setTop (mkF m 19 #[.val (.int x0), .val (.int (x0 &&& (255 : Int32))), .val (.int (((x0 &&& (255 : Int32)).toUInt32 >>> ((4 : Int32) &&& 31).toUInt32).toInt32)), .unset] [(.ref b1), (.ref b1)]))
  refine own_back (fun t k => XS.iconst X2.here hx rfl (hb hby at_19) k) ?_
  show own_Go _ _ _ _ _ _ _ (T2.setTop (mkF m 20 #[.val (.int x0), .val (.int (x0 &&& (255 : Int32))), .val (.int (((x0 &&& (255 : Int32)).toUInt32 >>> ((4 : Int32) &&& 31).toUInt32).toInt32)), .unset] [(.int (1 : Int32)), (.ref b1), (.ref b1)]))
  refine own_back (fun t k => XS.iconst X2.here hx rfl (hb hby at_20) k) ?_
  show own_Go _ _ _ _ _ _ _ (T2.setTop (mkF m 21 #[.val (.int x0), .val (.int (x0 &&& (255 : Int32))), .val (.int (((x0 &&& (255 : Int32)).toUInt32 >>> ((4 : Int32) &&& 31).toUInt32).toInt32)), .unset] [(.int (2 : Int32)), (.int (1 : Int32)), (.ref b1), (.ref b1)]))
  obtain ⟨T3, h3, X3, e3, W3, V3, st3⟩ := own_stI X2 hx hZ e2 V2 1 (by decide) (by decide) (g := (mkF m 21 #[.val (.int x0), .val (.int (x0 &&& (255 : Int32))), .val (.int (((x0 &&& (255 : Int32)).toUInt32 >>> ((4 : Int32) &&& 31).toUInt32).toInt32)), .unset] [(.int (2 : Int32)), (.int (1 : Int32)), (.ref b1), (.ref b1)])) rfl rfl (hb hby at_21)
  have N3 := Fr.snoc X3 N2 qb1
  have Z3 : n0 ≤ h3.size := Nat.le_trans Z2 (Keep.of_wr W3).1
  refine own_back (fun t k => st3 t k) ?_
  show own_Go _ _ _ _ _ _ _ (T3.setTop (mkF m 22 #[.val (.int x0), .val (.int (x0 &&& (255 : Int32))), .val (.int (((x0 &&& (255 : Int32)).toUInt32 >>> ((4 : Int32) &&& 31).toUInt32).toInt32)), .unset] [(.ref b1)]))
  refine own_back (fun t k => XS.dup X3.here hx rfl (hb hby at_22) rfl rfl k) ?_
  show own_Go _ _ _ _ _ _ _ (T3.setTop (mkF m 23 #[.val (.int x0), .val (.int (x0 &&& (255 : Int32))), .val (.int (((x0 &&& (255 : Int32)).toUInt32 >>> ((4 : Int32) &&& 31).toUInt32).toInt32)), .unset] [(.ref b1), (.ref b1)]))
  refine own_back (fun t k => XS.iconst X3.here hx rfl (hb hby at_23) k) ?_
  show own_Go _ _ _ _ _ _ _ (T3.setTop (mkF m 24 #[.val (.int x0), .val (.int (x0 &&& (255 : Int32))), .val (.int (((x0 &&& (255 : Int32)).toUInt32 >>> ((4 : Int32) &&& 31).toUInt32).toInt32)), .unset] [(.int (2 : Int32)), (.ref b1), (.ref b1)]))
  refine own_back (fun t k => XS.iconst X3.here hx rfl (hb hby at_24) k) ?_
  show own_Go _ _ _ _ _ _ _ (T3.setTop (mkF m 25 #[.val (.int x0), .val (.int (x0 &&& (255 : Int32))), .val (.int (((x0 &&& (255 : Int32)).toUInt32 >>> ((4 : Int32) &&& 31).toUInt32).toInt32)), .unset] [(.int (4 : Int32)), (.int (2 : Int32)), (.ref b1), (.ref b1)]))
  obtain ⟨T4, h4, X4, e4, W4, V4, st4⟩ := own_stI X3 hx hZ e3 V3 2 (by decide) (by decide) (g := (mkF m 25 #[.val (.int x0), .val (.int (x0 &&& (255 : Int32))), .val (.int (((x0 &&& (255 : Int32)).toUInt32 >>> ((4 : Int32) &&& 31).toUInt32).toInt32)), .unset] [(.int (4 : Int32)), (.int (2 : Int32)), (.ref b1), (.ref b1)])) rfl rfl (hb hby at_25)
  have N4 := Fr.snoc X4 N3 qb1
  have Z4 : n0 ≤ h4.size := Nat.le_trans Z3 (Keep.of_wr W4).1
  refine own_back (fun t k => st4 t k) ?_
  show own_Go _ _ _ _ _ _ _ (T4.setTop (mkF m 26 #[.val (.int x0), .val (.int (x0 &&& (255 : Int32))), .val (.int (((x0 &&& (255 : Int32)).toUInt32 >>> ((4 : Int32) &&& 31).toUInt32).toInt32)), .unset] [(.ref b1)]))
  refine own_back (fun t k => XS.dup X4.here hx rfl (hb hby at_26) rfl rfl k) ?_
  show own_Go _ _ _ _ _ _ _ (T4.setTop (mkF m 27 #[.val (.int x0), .val (.int (x0 &&& (255 : Int32))), .val (.int (((x0 &&& (255 : Int32)).toUInt32 >>> ((4 : Int32) &&& 31).toUInt32).toInt32)), .unset] [(.ref b1), (.ref b1)]))
  refine own_back (fun t k => XS.iconst X4.here hx rfl (hb hby at_27) k) ?_
  show own_Go _ _ _ _ _ _ _ (T4.setTop (mkF m 28 #[.val (.int x0), .val (.int (x0 &&& (255 : Int32))), .val (.int (((x0 &&& (255 : Int32)).toUInt32 >>> ((4 : Int32) &&& 31).toUInt32).toInt32)), .unset] [(.int (3 : Int32)), (.ref b1), (.ref b1)]))
  refine own_back (fun t k => XS.bipush X4.here hx rfl (hb hby at_28) k) ?_
  show own_Go _ _ _ _ _ _ _ (T4.setTop (mkF m 30 #[.val (.int x0), .val (.int (x0 &&& (255 : Int32))), .val (.int (((x0 &&& (255 : Int32)).toUInt32 >>> ((4 : Int32) &&& 31).toUInt32).toInt32)), .unset] [(.int (8 : Int32)), (.int (3 : Int32)), (.ref b1), (.ref b1)]))
  obtain ⟨T5, h5, X5, e5, W5, V5, st5⟩ := own_stI X4 hx hZ e4 V4 3 (by decide) (by decide) (g := (mkF m 30 #[.val (.int x0), .val (.int (x0 &&& (255 : Int32))), .val (.int (((x0 &&& (255 : Int32)).toUInt32 >>> ((4 : Int32) &&& 31).toUInt32).toInt32)), .unset] [(.int (8 : Int32)), (.int (3 : Int32)), (.ref b1), (.ref b1)])) rfl rfl (hb hby at_30)
  have N5 := Fr.snoc X5 N4 qb1
  have Z5 : n0 ≤ h5.size := Nat.le_trans Z4 (Keep.of_wr W5).1
  refine own_back (fun t k => st5 t k) ?_
  show own_Go _ _ _ _ _ _ _ (T5.setTop (mkF m 31 #[.val (.int x0), .val (.int (x0 &&& (255 : Int32))), .val (.int (((x0 &&& (255 : Int32)).toUInt32 >>> ((4 : Int32) &&& 31).toUInt32).toInt32)), .unset] [(.ref b1)]))
  refine own_back (fun t k => XS.dup X5.here hx rfl (hb hby at_31) rfl rfl k) ?_
  show own_Go _ _ _ _ _ _ _ (T5.setTop (mkF m 32 #[.val (.int x0), .val (.int (x0 &&& (255 : Int32))), .val (.int (((x0 &&& (255 : Int32)).toUInt32 >>> ((4 : Int32) &&& 31).toUInt32).toInt32)), .unset] [(.ref b1), (.ref b1)]))
  refine own_back (fun t k => XS.iconst X5.here hx rfl (hb hby at_32) k) ?_
  show own_Go _ _ _ _ _ _ _ (T5.setTop (mkF m 33 #[.val (.int x0), .val (.int (x0 &&& (255 : Int32))), .val (.int (((x0 &&& (255 : Int32)).toUInt32 >>> ((4 : Int32) &&& 31).toUInt32).toInt32)), .unset] [(.int (4 : Int32)), (.ref b1), (.ref b1)]))
  refine own_back (fun t k => XS.bipush X5.here hx rfl (hb hby at_33) k) ?_
  show own_Go _ _ _ _ _ _ _ (T5.setTop (mkF m 35 #[.val (.int x0), .val (.int (x0 &&& (255 : Int32))), .val (.int (((x0 &&& (255 : Int32)).toUInt32 >>> ((4 : Int32) &&& 31).toUInt32).toInt32)), .unset] [(.int (16 : Int32)), (.int (4 : Int32)), (.ref b1), (.ref b1)]))
  obtain ⟨T6, h6, X6, e6, W6, V6, st6⟩ := own_stI X5 hx hZ e5 V5 4 (by decide) (by decide) (g := (mkF m 35 #[.val (.int x0), .val (.int (x0 &&& (255 : Int32))), .val (.int (((x0 &&& (255 : Int32)).toUInt32 >>> ((4 : Int32) &&& 31).toUInt32).toInt32)), .unset] [(.int (16 : Int32)), (.int (4 : Int32)), (.ref b1), (.ref b1)])) rfl rfl (hb hby at_35)
  have N6 := Fr.snoc X6 N5 qb1
  have Z6 : n0 ≤ h6.size := Nat.le_trans Z5 (Keep.of_wr W6).1
  refine own_back (fun t k => st6 t k) ?_
  show own_Go _ _ _ _ _ _ _ (T6.setTop (mkF m 36 #[.val (.int x0), .val (.int (x0 &&& (255 : Int32))), .val (.int (((x0 &&& (255 : Int32)).toUInt32 >>> ((4 : Int32) &&& 31).toUInt32).toInt32)), .unset] [(.ref b1)]))
  refine own_back (fun t k => XS.dup X6.here hx rfl (hb hby at_36) rfl rfl k) ?_
  show own_Go _ _ _ _ _ _ _ (T6.setTop (mkF m 37 #[.val (.int x0), .val (.int (x0 &&& (255 : Int32))), .val (.int (((x0 &&& (255 : Int32)).toUInt32 >>> ((4 : Int32) &&& 31).toUInt32).toInt32)), .unset] [(.ref b1), (.ref b1)]))
  refine own_back (fun t k => XS.iconst X6.here hx rfl (hb hby at_37) k) ?_
  show own_Go _ _ _ _ _ _ _ (T6.setTop (mkF m 38 #[.val (.int x0), .val (.int (x0 &&& (255 : Int32))), .val (.int (((x0 &&& (255 : Int32)).toUInt32 >>> ((4 : Int32) &&& 31).toUInt32).toInt32)), .unset] [(.int (5 : Int32)), (.ref b1), (.ref b1)]))
  refine own_back (fun t k => XS.bipush X6.here hx rfl (hb hby at_38) k) ?_
  show own_Go _ _ _ _ _ _ _ (T6.setTop (mkF m 40 #[.val (.int x0), .val (.int (x0 &&& (255 : Int32))), .val (.int (((x0 &&& (255 : Int32)).toUInt32 >>> ((4 : Int32) &&& 31).toUInt32).toInt32)), .unset] [(.int (32 : Int32)), (.int (5 : Int32)), (.ref b1), (.ref b1)]))
  obtain ⟨T7, h7, X7, e7, W7, V7, st7⟩ := own_stI X6 hx hZ e6 V6 5 (by decide) (by decide) (g := (mkF m 40 #[.val (.int x0), .val (.int (x0 &&& (255 : Int32))), .val (.int (((x0 &&& (255 : Int32)).toUInt32 >>> ((4 : Int32) &&& 31).toUInt32).toInt32)), .unset] [(.int (32 : Int32)), (.int (5 : Int32)), (.ref b1), (.ref b1)])) rfl rfl (hb hby at_40)
  have N7 := Fr.snoc X7 N6 qb1
  have Z7 : n0 ≤ h7.size := Nat.le_trans Z6 (Keep.of_wr W7).1
  refine own_back (fun t k => st7 t k) ?_
  show own_Go _ _ _ _ _ _ _ (T7.setTop (mkF m 41 #[.val (.int x0), .val (.int (x0 &&& (255 : Int32))), .val (.int (((x0 &&& (255 : Int32)).toUInt32 >>> ((4 : Int32) &&& 31).toUInt32).toInt32)), .unset] [(.ref b1)]))
  refine own_back (fun t k => XS.dup X7.here hx rfl (hb hby at_41) rfl rfl k) ?_
  show own_Go _ _ _ _ _ _ _ (T7.setTop (mkF m 42 #[.val (.int x0), .val (.int (x0 &&& (255 : Int32))), .val (.int (((x0 &&& (255 : Int32)).toUInt32 >>> ((4 : Int32) &&& 31).toUInt32).toInt32)), .unset] [(.ref b1), (.ref b1)]))
  refine own_back (fun t k => XS.bipush X7.here hx rfl (hb hby at_42) k) ?_
  show own_Go _ _ _ _ _ _ _ (T7.setTop (mkF m 44 #[.val (.int x0), .val (.int (x0 &&& (255 : Int32))), .val (.int (((x0 &&& (255 : Int32)).toUInt32 >>> ((4 : Int32) &&& 31).toUInt32).toInt32)), .unset] [(.int (6 : Int32)), (.ref b1), (.ref b1)]))
  refine own_back (fun t k => XS.bipush X7.here hx rfl (hb hby at_44) k) ?_
  show own_Go _ _ _ _ _ _ _ (T7.setTop (mkF m 46 #[.val (.int x0), .val (.int (x0 &&& (255 : Int32))), .val (.int (((x0 &&& (255 : Int32)).toUInt32 >>> ((4 : Int32) &&& 31).toUInt32).toInt32)), .unset] [(.int (64 : Int32)), (.int (6 : Int32)), (.ref b1), (.ref b1)]))
  obtain ⟨T8, h8, X8, e8, W8, V8, st8⟩ := own_stI X7 hx hZ e7 V7 6 (by decide) (by decide) (g := (mkF m 46 #[.val (.int x0), .val (.int (x0 &&& (255 : Int32))), .val (.int (((x0 &&& (255 : Int32)).toUInt32 >>> ((4 : Int32) &&& 31).toUInt32).toInt32)), .unset] [(.int (64 : Int32)), (.int (6 : Int32)), (.ref b1), (.ref b1)])) rfl rfl (hb hby at_46)
  have N8 := Fr.snoc X8 N7 qb1
  have Z8 : n0 ≤ h8.size := Nat.le_trans Z7 (Keep.of_wr W8).1
  refine own_back (fun t k => st8 t k) ?_
  show own_Go _ _ _ _ _ _ _ (T8.setTop (mkF m 47 #[.val (.int x0), .val (.int (x0 &&& (255 : Int32))), .val (.int (((x0 &&& (255 : Int32)).toUInt32 >>> ((4 : Int32) &&& 31).toUInt32).toInt32)), .unset] [(.ref b1)]))
  refine own_back (fun t k => XS.dup X8.here hx rfl (hb hby at_47) rfl rfl k) ?_
  show own_Go _ _ _ _ _ _ _ (T8.setTop (mkF m 48 #[.val (.int x0), .val (.int (x0 &&& (255 : Int32))), .val (.int (((x0 &&& (255 : Int32)).toUInt32 >>> ((4 : Int32) &&& 31).toUInt32).toInt32)), .unset] [(.ref b1), (.ref b1)]))
  refine own_back (fun t k => XS.bipush X8.here hx rfl (hb hby at_48) k) ?_
  show own_Go _ _ _ _ _ _ _ (T8.setTop (mkF m 50 #[.val (.int x0), .val (.int (x0 &&& (255 : Int32))), .val (.int (((x0 &&& (255 : Int32)).toUInt32 >>> ((4 : Int32) &&& 31).toUInt32).toInt32)), .unset] [(.int (7 : Int32)), (.ref b1), (.ref b1)]))
  refine own_back (fun t k => XS.sipush X8.here hx rfl (hb hby at_50) k) ?_
  show own_Go _ _ _ _ _ _ _ (T8.setTop (mkF m 53 #[.val (.int x0), .val (.int (x0 &&& (255 : Int32))), .val (.int (((x0 &&& (255 : Int32)).toUInt32 >>> ((4 : Int32) &&& 31).toUInt32).toInt32)), .unset] [(.int (128 : Int32)), (.int (7 : Int32)), (.ref b1), (.ref b1)]))
  obtain ⟨T9, h9, X9, e9, W9, V9, st9⟩ := own_stI X8 hx hZ e8 V8 7 (by decide) (by decide) (g := (mkF m 53 #[.val (.int x0), .val (.int (x0 &&& (255 : Int32))), .val (.int (((x0 &&& (255 : Int32)).toUInt32 >>> ((4 : Int32) &&& 31).toUInt32).toInt32)), .unset] [(.int (128 : Int32)), (.int (7 : Int32)), (.ref b1), (.ref b1)])) rfl rfl (hb hby at_53)
  have N9 := Fr.snoc X9 N8 qb1
  have Z9 : n0 ≤ h9.size := Nat.le_trans Z8 (Keep.of_wr W9).1
  refine own_back (fun t k => st9 t k) ?_
  show own_Go _ _ _ _ _ _ _ (T9.setTop (mkF m 54 #[.val (.int x0), .val (.int (x0 &&& (255 : Int32))), .val (.int (((x0 &&& (255 : Int32)).toUInt32 >>> ((4 : Int32) &&& 31).toUInt32).toInt32)), .unset] [(.ref b1)]))
  refine own_back (fun t k => XS.dup X9.here hx rfl (hb hby at_54) rfl rfl k) ?_
  show own_Go _ _ _ _ _ _ _ (T9.setTop (mkF m 55 #[.val (.int x0), .val (.int (x0 &&& (255 : Int32))), .val (.int (((x0 &&& (255 : Int32)).toUInt32 >>> ((4 : Int32) &&& 31).toUInt32).toInt32)), .unset] [(.ref b1), (.ref b1)]))
  refine own_back (fun t k => XS.bipush X9.here hx rfl (hb hby at_55) k) ?_
  show own_Go _ _ _ _ _ _ _ (T9.setTop (mkF m 57 #[.val (.int x0), .val (.int (x0 &&& (255 : Int32))), .val (.int (((x0 &&& (255 : Int32)).toUInt32 >>> ((4 : Int32) &&& 31).toUInt32).toInt32)), .unset] [(.int (8 : Int32)), (.ref b1), (.ref b1)]))
  refine own_back (fun t k => XS.iconst X9.here hx rfl (hb hby at_57) k) ?_
  show own_Go _ _ _ _ _ _ _ (T9.setTop (mkF m 58 #[.val (.int x0), .val (.int (x0 &&& (255 : Int32))), .val (.int (((x0 &&& (255 : Int32)).toUInt32 >>> ((4 : Int32) &&& 31).toUInt32).toInt32)), .unset] [(.int (1 : Int32)), (.int (8 : Int32)), (.ref b1), (.ref b1)]))
  obtain ⟨T10, h10, X10, e10, W10, V10, st10⟩ := own_stI X9 hx hZ e9 V9 8 (by decide) (by decide) (g := (mkF m 58 #[.val (.int x0), .val (.int (x0 &&& (255 : Int32))), .val (.int (((x0 &&& (255 : Int32)).toUInt32 >>> ((4 : Int32) &&& 31).toUInt32).toInt32)), .unset] [(.int (1 : Int32)), (.int (8 : Int32)), (.ref b1), (.ref b1)])) rfl rfl (hb hby at_58)
  have N10 := Fr.snoc X10 N9 qb1
  have Z10 : n0 ≤ h10.size := Nat.le_trans Z9 (Keep.of_wr W10).1
  refine own_back (fun t k => st10 t k) ?_
  show own_Go _ _ _ _ _ _ _ (T10.setTop (mkF m 59 #[.val (.int x0), .val (.int (x0 &&& (255 : Int32))), .val (.int (((x0 &&& (255 : Int32)).toUInt32 >>> ((4 : Int32) &&& 31).toUInt32).toInt32)), .unset] [(.ref b1)]))
  refine own_back (fun t k => XS.dup X10.here hx rfl (hb hby at_59) rfl rfl k) ?_
  show own_Go _ _ _ _ _ _ _ (T10.setTop (mkF m 60 #[.val (.int x0), .val (.int (x0 &&& (255 : Int32))), .val (.int (((x0 &&& (255 : Int32)).toUInt32 >>> ((4 : Int32) &&& 31).toUInt32).toInt32)), .unset] [(.ref b1), (.ref b1)]))
  refine own_back (fun t k => XS.bipush X10.here hx rfl (hb hby at_60) k) ?_
  show own_Go _ _ _ _ _ _ _ (T10.setTop (mkF m 62 #[.val (.int x0), .val (.int (x0 &&& (255 : Int32))), .val (.int (((x0 &&& (255 : Int32)).toUInt32 >>> ((4 : Int32) &&& 31).toUInt32).toInt32)), .unset] [(.int (9 : Int32)), (.ref b1), (.ref b1)]))
  refine own_back (fun t k => XS.iconst X10.here hx rfl (hb hby at_62) k) ?_
  show own_Go _ _ _ _ _ _ _ (T10.setTop (mkF m 63 #[.val (.int x0), .val (.int (x0 &&& (255 : Int32))), .val (.int (((x0 &&& (255 : Int32)).toUInt32 >>> ((4 : Int32) &&& 31).toUInt32).toInt32)), .unset] [(.int (2 : Int32)), (.int (9 : Int32)), (.ref b1), (.ref b1)]))
  obtain ⟨T11, h11, X11, e11, W11, V11, st11⟩ := own_stI X10 hx hZ e10 V10 9 (by decide) (by decide) (g := (mkF m 63 #[.val (.int x0), .val (.int (x0 &&& (255 : Int32))), .val (.int (((x0 &&& (255 : Int32)).toUInt32 >>> ((4 : Int32) &&& 31).toUInt32).toInt32)), .unset] [(.int (2 : Int32)), (.int (9 : Int32)), (.ref b1), (.ref b1)])) rfl rfl (hb hby at_63)
  have N11 := Fr.snoc X11 N10 qb1
  have Z11 : n0 ≤ h11.size := Nat.le_trans Z10 (Keep.of_wr W11).1
  refine own_back (fun t k => st11 t k) ?_
  show own_Go _ _ _ _ _ _ _ (T11.setTop (mkF m 64 #[.val (.int x0), .val (.int (x0 &&& (255 : Int32))), .val (.int (((x0 &&& (255 : Int32)).toUInt32 >>> ((4 : Int32) &&& 31).toUInt32).toInt32)), .unset] [(.ref b1)]))
  refine own_back (fun t k => XS.dup X11.here hx rfl (hb hby at_64) rfl rfl k) ?_
  show own_Go _ _ _ _ _ _ _ (T11.setTop (mkF m 65 #[.val (.int x0), .val (.int (x0 &&& (255 : Int32))), .val (.int (((x0 &&& (255 : Int32)).toUInt32 >>> ((4 : Int32) &&& 31).toUInt32).toInt32)), .unset] [(.ref b1), (.ref b1)]))
  refine own_back (fun t k => XS.bipush X11.here hx rfl (hb hby at_65) k) ?_
  show own_Go _ _ _ _ _ _ _ (T11.setTop (mkF m 67 #[.val (.int x0), .val (.int (x0 &&& (255 : Int32))), .val (.int (((x0 &&& (255 : Int32)).toUInt32 >>> ((4 : Int32) &&& 31).toUInt32).toInt32)), .unset] [(.int (10 : Int32)), (.ref b1), (.ref b1)]))
  refine own_back (fun t k => XS.iconst X11.here hx rfl (hb hby at_67) k) ?_
  show own_Go _ _ _ _ _ _ _ (T11.setTop (mkF m 68 #[.val (.int x0), .val (.int (x0 &&& (255 : Int32))), .val (.int (((x0 &&& (255 : Int32)).toUInt32 >>> ((4 : Int32) &&& 31).toUInt32).toInt32)), .unset] [(.int (4 : Int32)), (.int (10 : Int32)), (.ref b1), (.ref b1)]))
  obtain ⟨T12, h12, X12, e12, W12, V12, st12⟩ := own_stI X11 hx hZ e11 V11 10 (by decide) (by decide) (g := (mkF m 68 #[.val (.int x0), .val (.int (x0 &&& (255 : Int32))), .val (.int (((x0 &&& (255 : Int32)).toUInt32 >>> ((4 : Int32) &&& 31).toUInt32).toInt32)), .unset] [(.int (4 : Int32)), (.int (10 : Int32)), (.ref b1), (.ref b1)])) rfl rfl (hb hby at_68)
  have N12 := Fr.snoc X12 N11 qb1
  have Z12 : n0 ≤ h12.size := Nat.le_trans Z11 (Keep.of_wr W12).1
  refine own_back (fun t k => st12 t k) ?_
  show own_Go _ _ _ _ _ _ _ (T12.setTop (mkF m 69 #[.val (.int x0), .val (.int (x0 &&& (255 : Int32))), .val (.int (((x0 &&& (255 : Int32)).toUInt32 >>> ((4 : Int32) &&& 31).toUInt32).toInt32)), .unset] [(.ref b1)]))
  refine own_back (fun t k => XS.dup X12.here hx rfl (hb hby at_69) rfl rfl k) ?_
  show own_Go _ _ _ _ _ _ _ (T12.setTop (mkF m 70 #[.val (.int x0), .val (.int (x0 &&& (255 : Int32))), .val (.int (((x0 &&& (255 : Int32)).toUInt32 >>> ((4 : Int32) &&& 31).toUInt32).toInt32)), .unset] [(.ref b1), (.ref b1)]))
  refine own_back (fun t k => XS.bipush X12.here hx rfl (hb hby at_70) k) ?_
  show own_Go _ _ _ _ _ _ _ (T12.setTop (mkF m 72 #[.val (.int x0), .val (.int (x0 &&& (255 : Int32))), .val (.int (((x0 &&& (255 : Int32)).toUInt32 >>> ((4 : Int32) &&& 31).toUInt32).toInt32)), .unset] [(.int (11 : Int32)), (.ref b1), (.ref b1)]))
  refine own_back (fun t k => XS.iconst X12.here hx rfl (hb hby at_72) k) ?_
  show own_Go _ _ _ _ _ _ _ (T12.setTop (mkF m 73 #[.val (.int x0), .val (.int (x0 &&& (255 : Int32))), .val (.int (((x0 &&& (255 : Int32)).toUInt32 >>> ((4 : Int32) &&& 31).toUInt32).toInt32)), .unset] [(.int (-1 : Int32)), (.int (11 : Int32)), (.ref b1), (.ref b1)]))
  obtain ⟨T13, h13, X13, e13, W13, V13, st13⟩ := own_stI X12 hx hZ e12 V12 11 (by decide) (by decide) (g := (mkF m 73 #[.val (.int x0), .val (.int (x0 &&& (255 : Int32))), .val (.int (((x0 &&& (255 : Int32)).toUInt32 >>> ((4 : Int32) &&& 31).toUInt32).toInt32)), .unset] [(.int (-1 : Int32)), (.int (11 : Int32)), (.ref b1), (.ref b1)])) rfl rfl (hb hby at_73)
  have N13 := Fr.snoc X13 N12 qb1
  have Z13 : n0 ≤ h13.size := Nat.le_trans Z12 (Keep.of_wr W13).1
  refine own_back (fun t k => st13 t k) ?_
  show own_Go _ _ _ _ _ _ _ (T13.setTop (mkF m 74 #[.val (.int x0), .val (.int (x0 &&& (255 : Int32))), .val (.int (((x0 &&& (255 : Int32)).toUInt32 >>> ((4 : Int32) &&& 31).toUInt32).toInt32)), .unset] [(.ref b1)]))
  refine own_back (fun t k => XS.dup X13.here hx rfl (hb hby at_74) rfl rfl k) ?_
  show own_Go _ _ _ _ _ _ _ (T13.setTop (mkF m 75 #[.val (.int x0), .val (.int (x0 &&& (255 : Int32))), .val (.int (((x0 &&& (255 : Int32)).toUInt32 >>> ((4 : Int32) &&& 31).toUInt32).toInt32)), .unset] [(.ref b1), (.ref b1)]))
  refine own_back (fun t k => XS.bipush X13.here hx rfl (hb hby at_75) k) ?_
  show own_Go _ _ _ _ _ _ _ (T13.setTop (mkF m 77 #[.val (.int x0), .val (.int (x0 &&& (255 : Int32))), .val (.int (((x0 &&& (255 : Int32)).toUInt32 >>> ((4 : Int32) &&& 31).toUInt32).toInt32)), .unset] [(.int (12 : Int32)), (.ref b1), (.ref b1)]))
  refine own_back (fun t k => XS.iconst X13.here hx rfl (hb hby at_77) k) ?_
  show own_Go _ _ _ _ _ _ _ (T13.setTop (mkF m 78 #[.val (.int x0), .val (.int (x0 &&& (255 : Int32))), .val (.int (((x0 &&& (255 : Int32)).toUInt32 >>> ((4 : Int32) &&& 31).toUInt32).toInt32)), .unset] [(.int (5 : Int32)), (.int (12 : Int32)), (.ref b1), (.ref b1)]))
  obtain ⟨T14, h14, X14, e14, W14, V14, st14⟩ := own_stI X13 hx hZ e13 V13 12 (by decide) (by decide) (g := (mkF m 78 #[.val (.int x0), .val (.int (x0 &&& (255 : Int32))), .val (.int (((x0 &&& (255 : Int32)).toUInt32 >>> ((4 : Int32) &&& 31).toUInt32).toInt32)), .unset] [(.int (5 : Int32)), (.int (12 : Int32)), (.ref b1), (.ref b1)])) rfl rfl (hb hby at_78)
  have N14 := Fr.snoc X14 N13 qb1
  have Z14 : n0 ≤ h14.size := Nat.le_trans Z13 (Keep.of_wr W14).1
  refine own_back (fun t k => st14 t k) ?_
  show own_Go _ _ _ _ _ _ _ (T14.setTop (mkF m 79 #[.val (.int x0), .val (.int (x0 &&& (255 : Int32))), .val (.int (((x0 &&& (255 : Int32)).toUInt32 >>> ((4 : Int32) &&& 31).toUInt32).toInt32)), .unset] [(.ref b1)]))
  refine own_back (fun t k => XS.dup X14.here hx rfl (hb hby at_79) rfl rfl k) ?_
  show own_Go _ _ _ _ _ _ _ (T14.setTop (mkF m 80 #[.val (.int x0), .val (.int (x0 &&& (255 : Int32))), .val (.int (((x0 &&& (255 : Int32)).toUInt32 >>> ((4 : Int32) &&& 31).toUInt32).toInt32)), .unset] [(.ref b1), (.ref b1)]))
  refine own_back (fun t k => XS.bipush X14.here hx rfl (hb hby at_80) k) ?_
  show own_Go _ _ _ _ _ _ _ (T14.setTop (mkF m 82 #[.val (.int x0), .val (.int (x0 &&& (255 : Int32))), .val (.int (((x0 &&& (255 : Int32)).toUInt32 >>> ((4 : Int32) &&& 31).toUInt32).toInt32)), .unset] [(.int (13 : Int32)), (.ref b1), (.ref b1)]))
  refine own_back (fun t k => XS.bipush X14.here hx rfl (hb hby at_82) k) ?_
  show own_Go _ _ _ _ _ _ _ (T14.setTop (mkF m 84 #[.val (.int x0), .val (.int (x0 &&& (255 : Int32))), .val (.int (((x0 &&& (255 : Int32)).toUInt32 >>> ((4 : Int32) &&& 31).toUInt32).toInt32)), .unset] [(.int (9 : Int32)), (.int (13 : Int32)), (.ref b1), (.ref b1)]))
  obtain ⟨T15, h15, X15, e15, W15, V15, st15⟩ := own_stI X14 hx hZ e14 V14 13 (by decide) (by decide) (g := (mkF m 84 #[.val (.int x0), .val (.int (x0 &&& (255 : Int32))), .val (.int (((x0 &&& (255 : Int32)).toUInt32 >>> ((4 : Int32) &&& 31).toUInt32).toInt32)), .unset] [(.int (9 : Int32)), (.int (13 : Int32)), (.ref b1), (.ref b1)])) rfl rfl (hb hby at_84)
  have N15 := Fr.snoc X15 N14 qb1
  have Z15 : n0 ≤ h15.size := Nat.le_trans Z14 (Keep.of_wr W15).1
  refine own_back (fun t k => st15 t k) ?_
  show own_Go _ _ _ _ _ _ _ (T15.setTop (mkF m 85 #[.val (.int x0), .val (.int (x0 &&& (255 : Int32))), .val (.int (((x0 &&& (255 : Int32)).toUInt32 >>> ((4 : Int32) &&& 31).toUInt32).toInt32)), .unset] [(.ref b1)]))
  refine own_back (fun t k => XS.dup X15.here hx rfl (hb hby at_85) rfl rfl k) ?_
  show own_Go _ _ _ _ _ _ _ (T15.setTop (mkF m 86 #[.val (.int x0), .val (.int (x0 &&& (255 : Int32))), .val (.int (((x0 &&& (255 : Int32)).toUInt32 >>> ((4 : Int32) &&& 31).toUInt32).toInt32)), .unset] [(.ref b1), (.ref b1)]))
  refine own_back (fun t k => XS.bipush X15.here hx rfl (hb hby at_86) k) ?_
  show own_Go _ _ _ _ _ _ _ (T15.setTop (mkF m 88 #[.val (.int x0), .val (.int (x0 &&& (255 : Int32))), .val (.int (((x0 &&& (255 : Int32)).toUInt32 >>> ((4 : Int32) &&& 31).toUInt32).toInt32)), .unset] [(.int (14 : Int32)), (.ref b1), (.ref b1)]))
  refine own_back (fun t k => XS.iconst X15.here hx rfl (hb hby at_88) k) ?_
  show own_Go _ _ _ _ _ _ _ (T15.setTop (mkF m 89 #[.val (.int x0), .val (.int (x0 &&& (255 : Int32))), .val (.int (((x0 &&& (255 : Int32)).toUInt32 >>> ((4 : Int32) &&& 31).toUInt32).toInt32)), .unset] [(.int (-1 : Int32)), (.int (14 : Int32)), (.ref b1), (.ref b1)]))
  obtain ⟨T16, h16, X16, e16, W16, V16, st16⟩ := own_stI X15 hx hZ e15 V15 14 (by decide) (by decide) (g := (mkF m 89 #[.val (.int x0), .val (.int (x0 &&& (255 : Int32))), .val (.int (((x0 &&& (255 : Int32)).toUInt32 >>> ((4 : Int32) &&& 31).toUInt32).toInt32)), .unset] [(.int (-1 : Int32)), (.int (14 : Int32)), (.ref b1), (.ref b1)])) rfl rfl (hb hby at_89)
  have N16 := Fr.snoc X16 N15 qb1
  have Z16 : n0 ≤ h16.size := Nat.le_trans Z15 (Keep.of_wr W16).1
  refine own_back (fun t k => st16 t k) ?_
  show own_Go _ _ _ _ _ _ _ (T16.setTop (mkF m 90 #[.val (.int x0), .val (.int (x0 &&& (255 : Int32))), .val (.int (((x0 &&& (255 : Int32)).toUInt32 >>> ((4 : Int32) &&& 31).toUInt32).toInt32)), .unset] [(.ref b1)]))
  refine own_back (fun t k => XS.dup X16.here hx rfl (hb hby at_90) rfl rfl k) ?_
  show own_Go _ _ _ _ _ _ _ (T16.setTop (mkF m 91 #[.val (.int x0), .val (.int (x0 &&& (255 : Int32))), .val (.int (((x0 &&& (255 : Int32)).toUInt32 >>> ((4 : Int32) &&& 31).toUInt32).toInt32)), .unset] [(.ref b1), (.ref b1)]))
  refine own_back (fun t k => XS.bipush X16.here hx rfl (hb hby at_91) k) ?_
  show own_Go _ _ _ _ _ _ _ (T16.setTop (mkF m 93 #[.val (.int x0), .val (.int (x0 &&& (255 : Int32))), .val (.int (((x0 &&& (255 : Int32)).toUInt32 >>> ((4 : Int32) &&& 31).toUInt32).toInt32)), .unset] [(.int (15 : Int32)), (.ref b1), (.ref b1)]))
  refine own_back (fun t k => XS.iconst X16.here hx rfl (hb hby at_93) k) ?_
  show own_Go _ _ _ _ _ _ _ (T16.setTop (mkF m 94 #[.val (.int x0), .val (.int (x0 &&& (255 : Int32))), .val (.int (((x0 &&& (255 : Int32)).toUInt32 >>> ((4 : Int32) &&& 31).toUInt32).toInt32)), .unset] [(.int (0 : Int32)), (.int (15 : Int32)), (.ref b1), (.ref b1)]))
  obtain ⟨T17, h17, X17, e17, W17, V17, st17⟩ := own_stI X16 hx hZ e16 V16 15 (by decide) (by decide) (g := (mkF m 94 #[.val (.int x0), .val (.int (x0 &&& (255 : Int32))), .val (.int (((x0 &&& (255 : Int32)).toUInt32 >>> ((4 : Int32) &&& 31).toUInt32).toInt32)), .unset] [(.int (0 : Int32)), (.int (15 : Int32)), (.ref b1), (.ref b1)])) rfl rfl (hb hby at_94)
  have N17 := Fr.snoc X17 N16 qb1
  have Z17 : n0 ≤ h17.size := Nat.le_trans Z16 (Keep.of_wr W17).1
  refine own_back (fun t k => st17 t k) ?_
  show own_Go _ _ _ _ _ _ _ (T17.setTop (mkF m 95 #[.val (.int x0), .val (.int (x0 &&& (255 : Int32))), .val (.int (((x0 &&& (255 : Int32)).toUInt32 >>> ((4 : Int32) &&& 31).toUInt32).toInt32)), .unset] [(.ref b1)]))
  refine own_back (fun t k => XS.astoreN X17.here hx rfl (hb hby at_95) rfl rfl (l' := #[.val (.int x0), .val (.int (x0 &&& (255 : Int32))), .val (.int (((x0 &&& (255 : Int32)).toUInt32 >>> ((4 : Int32) &&& 31).toUInt32).toInt32)), .val (.ref b1)]) rfl k) ?_
  have Vb1 := own_VA_congr (g := fun k => .int (own_tab0 k)) V17 (by decide +kernel)
  show own_Go _ _ _ _ _ _ _ (T17.setTop (mkF m 96 #[.val (.int x0), .val (.int (x0 &&& (255 : Int32))), .val (.int (((x0 &&& (255 : Int32)).toUInt32 >>> ((4 : Int32) &&& 31).toUInt32).toInt32)), .val (.ref b1)] []))
  refine own_back (fun t k => XS.iloadN X17.here hx rfl (hb hby at_96) rfl k) ?_
  show own_Go _ _ _ _ _ _ _ (T17.setTop (mkF m 97 #[.val (.int x0), .val (.int (x0 &&& (255 : Int32))), .val (.int (((x0 &&& (255 : Int32)).toUInt32 >>> ((4 : Int32) &&& 31).toUInt32).toInt32)), .val (.ref b1)] [(.int (x0 &&& (255 : Int32)))]))
  obtain ⟨_, _, ⟨T18, L18, k18, n18⟩, -, X18, ⟨Lc18, hQ18, l18, y18, z18⟩, st18⟩ := Jvm.LawKit.callS X17 hx (y := (⟨"com/example/frame_to_method/frametomethod/FieldType", "codeWidth", "(I)I"⟩ : MethodName)) hown (mvT hZ (hw _ (List.mem_of_getElem? (i := 1) rfl))) (mvT hZ (hw _ (List.mem_of_getElem? (i := 2) rfl))) (mvT hZ (hw _ (List.mem_of_getElem? (i := 3) rfl))) (mvT hZ (hw _ (List.mem_of_getElem? (i := 4) rfl))) (by decide) (backOf (W := 0) (own_rm1 l Z a0 hw [] (x0 &&& (255 : Int32)) h17 n0 Z17) hZ (hw _ (List.mem_of_getElem? (i := 4) rfl)) (hw _ (List.mem_of_getElem? (i := 3) rfl)) (by decide) (by decide)) (g := (mkF m 97 #[.val (.int x0), .val (.int (x0 &&& (255 : Int32))), .val (.int (((x0 &&& (255 : Int32)).toUInt32 >>> ((4 : Int32) &&& 31).toUInt32).toInt32)), .val (.ref b1)] [(.int (x0 &&& (255 : Int32)))])) rfl (by rw [hml]; rfl) (argsL := [(.int (x0 &&& (255 : Int32)))]) (rest := []) (lenOf own_pd0 rfl) rfl (by show 2 * 0 + _ ≤ _; exact Nat.le_of_eq rfl) (hb hby at_97) (fun _ _ => ⟨rfl, e17, (by decide : 1 + 0 ≤ _), (by decide : 16 + 0 ≤ _)⟩)
  dsimp only [Pt.U, Pt.locs, Pt.cells, Pt.slots] at X18 l18 y18 z18 st18 hQ18
  subst l18 y18 z18
  obtain ⟨rfl, N18q, e18⟩ := hQ18
  have N18 := Fr.app N17 N18q
  refine own_back (fun t k => st18 t k) ?_
  show own_Go _ _ _ _ _ _ _ (T18.setTop (mkF m 100 #[.val (.int x0), .val (.int (x0 &&& (255 : Int32))), .val (.int (((x0 &&& (255 : Int32)).toUInt32 >>> ((4 : Int32) &&& 31).toUInt32).toInt32)), .val (.ref b1)] [(.int (own_f1_0 (x0 &&& (255 : Int32))))]))
  refine own_back (fun t k => XS.aloadN X18.here hx rfl (hb hby at_100) rfl rfl k) ?_
  show own_Go _ _ _ _ _ _ _ (T18.setTop (mkF m 101 #[.val (.int x0), .val (.int (x0 &&& (255 : Int32))), .val (.int (((x0 &&& (255 : Int32)).toUInt32 >>> ((4 : Int32) &&& 31).toUInt32).toInt32)), .val (.ref b1)] [(.ref b1), (.int (own_f1_0 (x0 &&& (255 : Int32))))]))
  refine own_back (fun t k => XS.iloadN X18.here hx rfl (hb hby at_101) rfl k) ?_
  show own_Go _ _ _ _ _ _ _ (T18.setTop (mkF m 102 #[.val (.int x0), .val (.int (x0 &&& (255 : Int32))), .val (.int (((x0 &&& (255 : Int32)).toUInt32 >>> ((4 : Int32) &&& 31).toUInt32).toInt32)), .val (.ref b1)] [(.int (((x0 &&& (255 : Int32)).toUInt32 >>> ((4 : Int32) &&& 31).toUInt32).toInt32)), (.ref b1), (.int (own_f1_0 (x0 &&& (255 : Int32))))]))
  refine own_back (fun t k => own_ldI X18 hx hZ e18 Vb1 (j := (((x0 &&& (255 : Int32)).toUInt32 >>> ((4 : Int32) &&& 31).toUInt32).toInt32)) (w := (own_tab0 (((x0 &&& (255 : Int32)).toUInt32 >>> ((4 : Int32) &&& 31).toUInt32).toInt32).toNatClampNeg)) (own_idx x0) rfl (g := (mkF m 102 #[.val (.int x0), .val (.int (x0 &&& (255 : Int32))), .val (.int (((x0 &&& (255 : Int32)).toUInt32 >>> ((4 : Int32) &&& 31).toUInt32).toInt32)), .val (.ref b1)] [(.int (((x0 &&& (255 : Int32)).toUInt32 >>> ((4 : Int32) &&& 31).toUInt32).toInt32)), (.ref b1), (.int (own_f1_0 (x0 &&& (255 : Int32))))])) rfl rfl (hb hby at_102) t k) ?_
  show own_Go _ _ _ _ _ _ _ (T18.setTop (mkF m 103 #[.val (.int x0), .val (.int (x0 &&& (255 : Int32))), .val (.int (((x0 &&& (255 : Int32)).toUInt32 >>> ((4 : Int32) &&& 31).toUInt32).toInt32)), .val (.ref b1)] [(.int (own_tab0 (((x0 &&& (255 : Int32)).toUInt32 >>> ((4 : Int32) &&& 31).toUInt32).toInt32).toNatClampNeg)), (.int (own_f1_0 (x0 &&& (255 : Int32))))]))
  by_cases hc103 : (own_f1_0 (x0 &&& (255 : Int32))) = (own_tab0 (((x0 &&& (255 : Int32)).toUInt32 >>> ((4 : Int32) &&& 31).toUInt32).toInt32).toNatClampNeg)
  · rw [if_pos hc103] at hR
    refine own_back (fun t k => XS.icmpNo X18.here hx rfl (hb hby at_103) rfl (teq hc103).2 k) ?_
    show own_Go _ _ _ _ _ _ _ (T18.setTop (mkF m 106 #[.val (.int x0), .val (.int (x0 &&& (255 : Int32))), .val (.int (((x0 &&& (255 : Int32)).toUInt32 >>> ((4 : Int32) &&& 31).toUInt32).toInt32)), .val (.ref b1)] []))
    refine own_back (fun t k => XS.iconst X18.here hx rfl (hb hby at_106) k) ?_
    show own_Go _ _ _ _ _ _ _ (T18.setTop (mkF m 107 #[.val (.int x0), .val (.int (x0 &&& (255 : Int32))), .val (.int (((x0 &&& (255 : Int32)).toUInt32 >>> ((4 : Int32) &&& 31).toUInt32).toInt32)), .val (.ref b1)] [(.int (1 : Int32))]))
    refine own_back (fun t k => XS.goto X18.here hx rfl (pc0 := 107) (pc' := 111) rfl (hb hby at_107) (by decide) (by decide) k) ?_
    show own_Go _ _ _ _ _ _ _ (T18.setTop (mkF m 111 #[.val (.int x0), .val (.int (x0 &&& (255 : Int32))), .val (.int (((x0 &&& (255 : Int32)).toUInt32 >>> ((4 : Int32) &&& 31).toUInt32).toInt32)), .val (.ref b1)] [(.int (1 : Int32))]))
    subst hR
    exact own_retN X18 hx (t := .boolean) hret (by simp) (hb hby at_111) hlk (by decide) ⟨rfl, N18, by rw [e18]; exact Z17⟩ (by decide) (by decide)
  · rw [if_neg hc103] at hR
    refine own_back (fun t k => XS.icmpYes X18.here hx rfl (pc0 := 103) (pc' := 110) rfl (hb hby at_103) rfl (feq hc103).2 (by decide) (by decide) k) ?_
    show own_Go _ _ _ _ _ _ _ (T18.setTop (mkF m 110 #[.val (.int x0), .val (.int (x0 &&& (255 : Int32))), .val (.int (((x0 &&& (255 : Int32)).toUInt32 >>> ((4 : Int32) &&& 31).toUInt32).toInt32)), .val (.ref b1)] []))
    refine own_back (fun t k => XS.iconst X18.here hx rfl (hb hby at_110) k) ?_
    show own_Go _ _ _ _ _ _ _ (T18.setTop (mkF m 111 #[.val (.int x0), .val (.int (x0 &&& (255 : Int32))), .val (.int (((x0 &&& (255 : Int32)).toUInt32 >>> ((4 : Int32) &&& 31).toUInt32).toInt32)), .val (.ref b1)] [(.int (0 : Int32))]))
    subst hR
    exact own_retN X18 hx (t := .boolean) hret (by simp) (hb hby at_111) hlk (by decide) ⟨rfl, N18, by rw [e18]; exact Z17⟩ (by decide) (by decide)
theorem own_pn0 : plainName "com/example/frame_to_method/frametomethod/FieldTypeCodeWidthPinLaw" = true := by first | (simp [plainName, overriddenIn]; done) | decide +kernel
theorem own_ef0 (m : MethodId) (x0 : Int32) : entryFrame m #[(.int x0)] maxLocals = mkF m 0 #[.val (.int x0), .unset, .unset, .unset] [] := by first | (simp [entryFrame, mkF, argsToLocals, Value.category, maxLocals]; done) | rfl
set_option maxRecDepth 65536 in
set_option maxHeartbeats 4000000 in
theorem own_rm0 (l : Launch) (Z : State) (a0 : Array Value) (hw : ∀ d ∈ tables_1, d.before a0 Z = true) (ws : List Jvm.Cond) (x0 : Int32) (h0 : Heap) (n0 : Nat) (Z0 : n0 ≤ h0.size) :
    MetFree l x (head1 (Jvm.Cond.code x code maxLocals ret :: ws) room_1) (fun a U => a = #[(.int x0)] ∧ Z.Warmed39 U.vm ∧ U.heap = h0) (fun _ _ _ _ _ => True) (fun _ U o U' => ∃ v L, o = .returned v ∧ own_QG (.int (own_f0_0 x0)) h0 n0 v U'.heap L ∧ FrameEnd U o U' L room_1.cells room_1.slots) := by
  refine MetFree.of_bodySF (plainFor_of_name own_pn0) hisR ?_
  intro p e s m args below meth c s₁ Bd hml0 hP hK
  obtain ⟨rfl, hZ, hh⟩ := hP
  have X0 : Stand p l e room_1 s m #[(.int x0)] below meth c s₁ [] 0 0 := Stand.of_body Bd
  have e0 : s₁.heap = h0 := by rw [← hh, Bd.state]; rfl
  refine own_back (s := s) (fun t k => castTop (own_ef0 m x0) k) ?_
  exact own_l0_0 X0 Bd.exec hZ hw Bd.bytes hml0 (findClass_of_methodNamed Bd.named) Bd.returns (BodyLoose.notSynchronized Bd) e0 (Fr.nil n0) Z0 x0 rfl
theorem own_plain (x : Int32) : own_f0_0 x = 1 := by
  obtain ⟨n, hn, e⟩ := own_byte x
  unfold own_f0_0
  rw [e, if_pos ((by decide +kernel : ∀ n : Fin 256, own_f1_0 (Int32.ofNat n.val) = own_tab0 (((Int32.ofNat n.val).toUInt32 >>> ((4 : Int32) &&& 31).toUInt32).toInt32).toNatClampNeg) ⟨n, hn⟩)]
set_option maxRecDepth 65536 in
set_option maxHeartbeats 4000000 in
theorem own_comes {Post : Tables → Env → Array Value → State → Outcome → State → Prop} (hpost : ∀ tb e args s v u, (limb_1_1.after args s (.returned v) u = true ∧ limb_1_2.after args s (.returned v) u = true) → FrameEnd s (.returned v) u (Jvm.fieldLocs frame_1_writes args s ++ Jvm.arrayLocs frame_1_arrays args s ++ Jvm.staticLocs frame_1_statics s) 16 128 → Post tb e args s (.returned v) u) :
    ArmFor flags0 classFile x code maxLocals ret World_1 tables_1 room_1 Calls_1 rest_1 Pre_1 Post := by
  intro l hfl _ _ p e ha hc hk s m args below hf hA hF happ hP
  obtain ⟨hcalls, hrest, hpre⟩ := hP
  obtain ⟨-, -, -, hnamed, -, -, -, hat⟩ := (Spec.applies_iff hf).mp happ
  obtain ⟨hg, hn⟩ := and_e (Cond.before_iff.mp (show (Jvm.Cond.and given_1 narrow_1).before args s = true from hpre))
  obtain ⟨hcnt, hg0⟩ := and_e hg
  have ha0 := hg0
  obtain ⟨w0, rfl⟩ : ∃ w0 : Value, args = #[w0] := by
    have hs : args.size = 1 := by simpa [Cond.value, given_1] using hcnt
    obtain ⟨L⟩ := args
    match L, hs with
    | [w0], _ => exact ⟨w0, rfl⟩
  have hw := fun d (hd : d ∈ tables_1) => atoms_spec (ws := Jvm.Cond.code x code maxLocals ret :: tables_1) hat d (List.mem_cons_of_mem _ hd)
  obtain ⟨v0, ev0⟩ := is_v ha0
  obtain rfl : w0 = (.int v0) := Option.some.inj ev0
  obtain ⟨n, o, h1, h2, h3, _, L, rfl, ⟨rfl, N, _⟩, hq⟩ := own_rm0 l s _ hw tables_1 v0 s.heap s.heap.size (Nat.le_refl _) p e ha hc hk s m _ below hf ((Spec.applies_iff_loose hf).mp happ).1 ⟨rfl, State.Warmed39.refl s, rfl⟩ trivial
  refine ⟨n, _, h1, h2, h3, hpost _ _ _ _ _ _ ⟨Cond.after_iff.mpr rfl, Cond.after_iff.mpr (eq_i res_at (Term.int_eval (1)) (congrArg Value.int (own_plain v0)))⟩ ⟨hq.1, hq.2.1, (hq.2.2.sift fun y hy => Or.inr (N y hy)).mono (by decide) (by decide)⟩⟩
theorem main_1_1 : Claimed_1_1 := own_comes fun _ _ _ _ _ _ h hF => ⟨h.1, hF⟩
theorem main_1_2 : Claimed_1_2 := own_comes fun _ _ _ _ _ _ h hF => ⟨h.2, hF⟩
end Jvm.Pilot.@@N@@
namespace Jvm.Pilot.@@N@@
open Jvm Jvm.ClassFile Sem Op Lib Jvm.Free Jvm.Stand Jvm.Pilot.@@N@@.Jvm.D
/-! MADE BY PROGRAM (witnessworld.py) out of the Statement's table words and the real class files: 12 classes; the members and pool entries that the words name. The judged class is class 1, her method 1. -/
namespace start1
open Jvm.ClassFile
def u (s : String) : CpInfo := .utf8 (stringToUtf16 s)
/-- a pool by its gaps: so many unusable entries, then the entry; so many at the end -/
def gap : Nat → List CpInfo → List CpInfo
  | 0, r => r
  | n + 1, r => .unusable :: gap n r
def poolList (es : List (Nat × CpInfo)) (last : Nat) : List CpInfo := es.foldr (fun e r => gap e.1 (e.2 :: r)) (gap last [])
def pool (es : List (Nat × CpInfo)) (last : Nat) : Array CpInfo := ⟨poolList es last⟩
def fileOf (pool : Array CpInfo) (this : Nat) (attrs : Array Attribute := #[]) (ms : Array MethodInfo := #[]) (fl : Nat := 33) (sup : Nat := 0) (ifs : Array Nat := #[]) (fds : Array FieldInfo := #[]) : ClassFile where
  minorVersion := 0
  majorVersion := 65
  constantPool := pool
  accessFlags := fl
  thisClass := this
  superClass := sup
  interfaces := ifs
  fields := fds
  methods := ms
  attributes := attrs
def plain (name : String) (sup : Option ClassId) : Class where
  name := name
  kind := .ordinary
  loader := none
  accessFlags := 33
  super := sup
  interfaces := #[]
  cf := none
  fields := #[]
  methods := #[]
  instanceTypes := #[]
  staticTypes := #[]
  resolved := #[]
  callSites := []
  init := .initialized
  statics := none
  mirror := none

def pool0 : Array CpInfo := pool [(5, u "<init>"), (0, u "()V"), (1, .class_ 10), (1, u "java/lang/Object")] 113

def k0m0 : Method := { name := "<init>", desc := "()V", sig := { parameters := [], returnType := none }, accessFlags := 1, code := none }
/-- java/lang/Object -/
def k0 : Class := { plain "java/lang/Object" none with
  accessFlags := 33
  interfaces := #[]
  cf := some (fileOf pool0 8 #[] #[{ accessFlags := 1, nameIndex := 5, descriptorIndex := 6, attributes := #[] }] 33 0 #[] #[])
  fields := #[]
  methods := #[k0m0]
  instanceTypes := #[]
  staticTypes := #[]
  resolved := Array.replicate 124 none
  statics := none }

def pool1 : Array CpInfo := pool [(2, .class_ 4), (1, u "java/lang/Object"), (0, u "<init>"), (0, u "()V"), (0, .methodref 8 9), (0, .class_ 10), (0, .nameAndType 11 12), (0, u "com/example/frame_to_method/frametomethod/FieldType"), (0, u "codeWidth"), (0, u "(I)I"), (0, .class_ 14), (0, u "com/example/frame_to_method/frametomethod/FieldTypeCodeWidthPinLaw"), (2, u "law"), (0, u "(I)Z")] 5

def k1m0 : Method := { name := "<init>", desc := "()V", sig := { parameters := [], returnType := none }, accessFlags := 2, code := none }
def k1c1 : Code := { maxStack := 4, maxLocals := 4, code := code, exceptionTable := #[], attributes := #[] }
def k1m1 : Method := { name := "law", desc := "(I)Z", sig := { parameters := [.int], returnType := some .boolean }, accessFlags := 9, code := some k1c1 }
/-- com/example/frame_to_method/frametomethod/FieldTypeCodeWidthPinLaw -/
def k1 : Class := { plain "com/example/frame_to_method/frametomethod/FieldTypeCodeWidthPinLaw" (some 0) with
  accessFlags := 49
  interfaces := #[]
  cf := some (fileOf pool1 13 #[] #[{ accessFlags := 2, nameIndex := 5, descriptorIndex := 6, attributes := #[] }, { accessFlags := 9, nameIndex := 17, descriptorIndex := 18, attributes := #[] }] 49 2 #[] #[])
  fields := #[]
  methods := #[k1m0, k1m1]
  instanceTypes := #[]
  staticTypes := #[]
  resolved := Array.replicate 24 none
  statics := none }

def pool2 : Array CpInfo := pool [(1, .class_ 2), (0, u "java/lang/constant/Constable"), (0, .class_ 4), (0, u "java/lang/Object")] 6

/-- java/lang/constant/Constable -/
def k2 : Class := { plain "java/lang/constant/Constable" (some 0) with
  accessFlags := 1537
  interfaces := #[]
  cf := some (fileOf pool2 1 #[] #[] 1537 3 #[] #[])
  fields := #[]
  methods := #[]
  instanceTypes := #[]
  staticTypes := #[]
  resolved := Array.replicate 11 none
  statics := none }

def pool3 : Array CpInfo := pool [(1, .class_ 2), (0, u "java/lang/Comparable"), (0, .class_ 4), (0, u "java/lang/Object")] 7

/-- java/lang/Comparable -/
def k3 : Class := { plain "java/lang/Comparable" (some 0) with
  accessFlags := 1537
  interfaces := #[]
  cf := some (fileOf pool3 1 #[] #[] 1537 3 #[] #[])
  fields := #[]
  methods := #[]
  instanceTypes := #[]
  staticTypes := #[]
  resolved := Array.replicate 12 none
  statics := none }

def pool4 : Array CpInfo := pool [(1, .class_ 2), (0, u "java/io/Serializable"), (0, .class_ 4), (0, u "java/lang/Object")] 2

/-- java/io/Serializable -/
def k4 : Class := { plain "java/io/Serializable" (some 0) with
  accessFlags := 1537
  interfaces := #[]
  cf := some (fileOf pool4 1 #[] #[] 1537 3 #[] #[])
  fields := #[]
  methods := #[]
  instanceTypes := #[]
  staticTypes := #[]
  resolved := Array.replicate 7 none
  statics := none }

def pool5 : Array CpInfo := pool [(2, .class_ 4), (1, u "java/lang/Enum"), (0, u "name"), (0, u "Ljava/lang/String;"), (2, u "ordinal"), (0, u "I"), (1, .class_ 14), (1, u "java/lang/Object"), (4, u "hash"), (86, .class_ 108), (1, u "java/lang/Enum$EnumDesc"), (2, .class_ 112), (0, u "java/lang/constant/Constable"), (0, .class_ 114), (0, u "java/lang/Comparable"), (0, .class_ 116), (0, u "java/io/Serializable")] 87

/-- java/lang/Enum -/
def k5 : Class := { plain "java/lang/Enum" (some 0) with
  accessFlags := 1057
  interfaces := #[2, 3, 4]
  cf := some (fileOf pool5 2 #[.nestMembers #[106]] #[] 1057 12 #[111, 113, 115] #[{ accessFlags := 18, nameIndex := 5, descriptorIndex := 6, attributes := #[] }, { accessFlags := 18, nameIndex := 9, descriptorIndex := 10, attributes := #[] }, { accessFlags := 2, nameIndex := 19, descriptorIndex := 10, attributes := #[] }])
  fields := #[{ name := "name", type := (.object "java/lang/String"), accessFlags := 18, slot := 0, constantValue := 0 }, { name := "ordinal", type := .int, accessFlags := 18, slot := 1, constantValue := 0 }, { name := "hash", type := .int, accessFlags := 2, slot := 2, constantValue := 0 }]
  methods := #[]
  instanceTypes := #[(.object "java/lang/String"), .int, .int]
  staticTypes := #[]
  resolved := Array.replicate 204 none
  statics := none }

def pool6 : Array CpInfo := pool [(1, .class_ 2), (0, u "com/example/frame_to_method/frametomethod/FieldType"), (2, u "BIT"), (0, u "Lcom/example/frame_to_method/frametomethod/FieldType;"), (2, u "OCTET"), (2, u "SHORT"), (2, u "LONG"), (2, u "LONGLONG"), (2, u "SHORTSTR"), (2, u "LONGSTR"), (2, u "TIMESTAMP"), (2, u "TABLE"), (2, u "REMAINDER"), (2, u "BIN8"), (2, u "INT8"), (2, u "UINT8"), (2, u "CHAR"), (2, u "BOOLEAN"), (2, u "BIN16"), (2, u "INT16"), (2, u "UINT16"), (2, u "BIN32"), (2, u "INT32"), (2, u "UINT32"), (2, u "FLOAT"), (2, u "CHAR_UTF32"), (2, u "SEQUENCE_NO"), (2, u "BIN64"), (2, u "INT64"), (2, u "UINT64"), (2, u "DOUBLE"), (2, u "DATETIME"), (2, u "BIN128"), (2, u "UUID"), (2, u "BIN256"), (2, u "BIN512"), (2, u "BIN1024"), (2, u "VBIN8"), (2, u "STR8_LATIN"), (2, u "STR8"), (2, u "STR8_UTF16"), (2, u "VBIN16"), (2, u "STR16_LATIN"), (2, u "STR16"), (2, u "STR16_UTF16"), (2, u "BYTE_RANGES"), (2, u "SEQUENCE_SET"), (2, u "VBIN32"), (2, u "MAP"), (2, u "LIST"), (2, u "ARRAY"), (2, u "STRUCT32"), (2, u "BIN40"), (2, u "DEC32"), (2, u "BIN72"), (2, u "DEC64"), (2, u "VOID"), (2, u "STRUCT"), (2, u "$VALUES"), (0, u "[Lcom/example/frame_to_method/frametomethod/FieldType;"), (6, .class_ 181), (1, u "java/lang/Enum"), (8, u "kind"), (0, u "Lcom/example/frame_to_method/frametomethod/FieldType$Kind;"), (2, u "size"), (0, u "I"), (20, u "grammars"), (0, u "Ljava/util/Set;"), (22, u "label"), (0, u "Ljava/lang/String;"), (50, .class_ 294), (1, u "com/example/frame_to_method/frametomethod/FieldType$Kind"), (21, u "codeWidth"), (0, u "(I)I"), (364, u "SHORTSTR_MAX"), (2, u "CODES"), (1, u "RANGE_SHIFT"), (1, u "FIXED_RANGES"), (1, u "VARIABLE_RANGE_1"), (0, u "VARIABLE_RANGE_4"), (1, u "RESERVED_RANGE_1"), (1, u "FIXED_5_RANGE"), (1, u "FIXED_9_RANGE"), (1, u "RESERVED_RANGE_2"), (1, u "DECIMAL_SCALE_MAX")] 100

def k6c0 : Code := { maxStack := 3, maxLocals := 2, code := prog_50_method_13_code, exceptionTable := #[], attributes := #[] }
def k6m0 : Method := { name := "codeWidth", desc := "(I)I", sig := { parameters := [.int], returnType := some .int }, accessFlags := 8, code := some k6c0 }
/-- com/example/frame_to_method/frametomethod/FieldType -/
def k6 : Class := { plain "com/example/frame_to_method/frametomethod/FieldType" (some 5) with
  accessFlags := 16433
  interfaces := #[]
  cf := some (fileOf pool6 1 #[.nestMembers #[292]] #[{ accessFlags := 8, nameIndex := 316, descriptorIndex := 317, attributes := #[] }] 16433 179 #[] #[{ accessFlags := 16409, nameIndex := 5, descriptorIndex := 6, attributes := #[] }, { accessFlags := 16409, nameIndex := 9, descriptorIndex := 6, attributes := #[] }, { accessFlags := 16409, nameIndex := 12, descriptorIndex := 6, attributes := #[] }, { accessFlags := 16409, nameIndex := 15, descriptorIndex := 6, attributes := #[] }, { accessFlags := 16409, nameIndex := 18, descriptorIndex := 6, attributes := #[] }, { accessFlags := 16409, nameIndex := 21, descriptorIndex := 6, attributes := #[] }, { accessFlags := 16409, nameIndex := 24, descriptorIndex := 6, attributes := #[] }, { accessFlags := 16409, nameIndex := 27, descriptorIndex := 6, attributes := #[] }, { accessFlags := 16409, nameIndex := 30, descriptorIndex := 6, attributes := #[] }, { accessFlags := 16409, nameIndex := 33, descriptorIndex := 6, attributes := #[] }, { accessFlags := 16409, nameIndex := 36, descriptorIndex := 6, attributes := #[] }, { accessFlags := 16409, nameIndex := 39, descriptorIndex := 6, attributes := #[] }, { accessFlags := 16409, nameIndex := 42, descriptorIndex := 6, attributes := #[] }, { accessFlags := 16409, nameIndex := 45, descriptorIndex := 6, attributes := #[] }, { accessFlags := 16409, nameIndex := 48, descriptorIndex := 6, attributes := #[] }, { accessFlags := 16409, nameIndex := 51, descriptorIndex := 6, attributes := #[] }, { accessFlags := 16409, nameIndex := 54, descriptorIndex := 6, attributes := #[] }, { accessFlags := 16409, nameIndex := 57, descriptorIndex := 6, attributes := #[] }, { accessFlags := 16409, nameIndex := 60, descriptorIndex := 6, attributes := #[] }, { accessFlags := 16409, nameIndex := 63, descriptorIndex := 6, attributes := #[] }, { accessFlags := 16409, nameIndex := 66, descriptorIndex := 6, attributes := #[] }, { accessFlags := 16409, nameIndex := 69, descriptorIndex := 6, attributes := #[] }, { accessFlags := 16409, nameIndex := 72, descriptorIndex := 6, attributes := #[] }, { accessFlags := 16409, nameIndex := 75, descriptorIndex := 6, attributes := #[] }, { accessFlags := 16409, nameIndex := 78, descriptorIndex := 6, attributes := #[] }, { accessFlags := 16409, nameIndex := 81, descriptorIndex := 6, attributes := #[] }, { accessFlags := 16409, nameIndex := 84, descriptorIndex := 6, attributes := #[] }, { accessFlags := 16409, nameIndex := 87, descriptorIndex := 6, attributes := #[] }, { accessFlags := 16409, nameIndex := 90, descriptorIndex := 6, attributes := #[] }, { accessFlags := 16409, nameIndex := 93, descriptorIndex := 6, attributes := #[] }, { accessFlags := 16409, nameIndex := 96, descriptorIndex := 6, attributes := #[] }, { accessFlags := 16409, nameIndex := 99, descriptorIndex := 6, attributes := #[] }, { accessFlags := 16409, nameIndex := 102, descriptorIndex := 6, attributes := #[] }, { accessFlags := 16409, nameIndex := 105, descriptorIndex := 6, attributes := #[] }, { accessFlags := 16409, nameIndex := 108, descriptorIndex := 6, attributes := #[] }, { accessFlags := 16409, nameIndex := 111, descriptorIndex := 6, attributes := #[] }, { accessFlags := 16409, nameIndex := 114, descriptorIndex := 6, attributes := #[] }, { accessFlags := 16409, nameIndex := 117, descriptorIndex := 6, attributes := #[] }, { accessFlags := 16409, nameIndex := 120, descriptorIndex := 6, attributes := #[] }, { accessFlags := 16409, nameIndex := 123, descriptorIndex := 6, attributes := #[] }, { accessFlags := 16409, nameIndex := 126, descriptorIndex := 6, attributes := #[] }, { accessFlags := 16409, nameIndex := 129, descriptorIndex := 6, attributes := #[] }, { accessFlags := 16409, nameIndex := 132, descriptorIndex := 6, attributes := #[] }, { accessFlags := 16409, nameIndex := 135, descriptorIndex := 6, attributes := #[] }, { accessFlags := 16409, nameIndex := 138, descriptorIndex := 6, attributes := #[] }, { accessFlags := 16409, nameIndex := 141, descriptorIndex := 6, attributes := #[] }, { accessFlags := 16409, nameIndex := 144, descriptorIndex := 6, attributes := #[] }, { accessFlags := 16409, nameIndex := 147, descriptorIndex := 6, attributes := #[] }, { accessFlags := 16409, nameIndex := 150, descriptorIndex := 6, attributes := #[] }, { accessFlags := 16409, nameIndex := 153, descriptorIndex := 6, attributes := #[] }, { accessFlags := 16409, nameIndex := 156, descriptorIndex := 6, attributes := #[] }, { accessFlags := 16409, nameIndex := 159, descriptorIndex := 6, attributes := #[] }, { accessFlags := 16409, nameIndex := 162, descriptorIndex := 6, attributes := #[] }, { accessFlags := 16409, nameIndex := 165, descriptorIndex := 6, attributes := #[] }, { accessFlags := 16409, nameIndex := 168, descriptorIndex := 6, attributes := #[] }, { accessFlags := 24, nameIndex := 682, descriptorIndex := 195, attributes := #[] }, { accessFlags := 26, nameIndex := 685, descriptorIndex := 195, attributes := #[] }, { accessFlags := 26, nameIndex := 687, descriptorIndex := 195, attributes := #[] }, { accessFlags := 26, nameIndex := 689, descriptorIndex := 195, attributes := #[] }, { accessFlags := 26, nameIndex := 691, descriptorIndex := 195, attributes := #[] }, { accessFlags := 26, nameIndex := 692, descriptorIndex := 195, attributes := #[] }, { accessFlags := 26, nameIndex := 694, descriptorIndex := 195, attributes := #[] }, { accessFlags := 26, nameIndex := 696, descriptorIndex := 195, attributes := #[] }, { accessFlags := 26, nameIndex := 698, descriptorIndex := 195, attributes := #[] }, { accessFlags := 26, nameIndex := 700, descriptorIndex := 195, attributes := #[] }, { accessFlags := 26, nameIndex := 702, descriptorIndex := 195, attributes := #[] }, { accessFlags := 18, nameIndex := 190, descriptorIndex := 191, attributes := #[] }, { accessFlags := 18, nameIndex := 194, descriptorIndex := 195, attributes := #[] }, { accessFlags := 18, nameIndex := 216, descriptorIndex := 217, attributes := #[] }, { accessFlags := 18, nameIndex := 240, descriptorIndex := 241, attributes := #[] }, { accessFlags := 4122, nameIndex := 171, descriptorIndex := 172, attributes := #[] }])
  fields := #[{ name := "BIT", type := (.object "com/example/frame_to_method/frametomethod/FieldType"), accessFlags := 16409, slot := 0, constantValue := 0 }, { name := "OCTET", type := (.object "com/example/frame_to_method/frametomethod/FieldType"), accessFlags := 16409, slot := 1, constantValue := 0 }, { name := "SHORT", type := (.object "com/example/frame_to_method/frametomethod/FieldType"), accessFlags := 16409, slot := 2, constantValue := 0 }, { name := "LONG", type := (.object "com/example/frame_to_method/frametomethod/FieldType"), accessFlags := 16409, slot := 3, constantValue := 0 }, { name := "LONGLONG", type := (.object "com/example/frame_to_method/frametomethod/FieldType"), accessFlags := 16409, slot := 4, constantValue := 0 }, { name := "SHORTSTR", type := (.object "com/example/frame_to_method/frametomethod/FieldType"), accessFlags := 16409, slot := 5, constantValue := 0 }, { name := "LONGSTR", type := (.object "com/example/frame_to_method/frametomethod/FieldType"), accessFlags := 16409, slot := 6, constantValue := 0 }, { name := "TIMESTAMP", type := (.object "com/example/frame_to_method/frametomethod/FieldType"), accessFlags := 16409, slot := 7, constantValue := 0 }, { name := "TABLE", type := (.object "com/example/frame_to_method/frametomethod/FieldType"), accessFlags := 16409, slot := 8, constantValue := 0 }, { name := "REMAINDER", type := (.object "com/example/frame_to_method/frametomethod/FieldType"), accessFlags := 16409, slot := 9, constantValue := 0 }, { name := "BIN8", type := (.object "com/example/frame_to_method/frametomethod/FieldType"), accessFlags := 16409, slot := 10, constantValue := 0 }, { name := "INT8", type := (.object "com/example/frame_to_method/frametomethod/FieldType"), accessFlags := 16409, slot := 11, constantValue := 0 }, { name := "UINT8", type := (.object "com/example/frame_to_method/frametomethod/FieldType"), accessFlags := 16409, slot := 12, constantValue := 0 }, { name := "CHAR", type := (.object "com/example/frame_to_method/frametomethod/FieldType"), accessFlags := 16409, slot := 13, constantValue := 0 }, { name := "BOOLEAN", type := (.object "com/example/frame_to_method/frametomethod/FieldType"), accessFlags := 16409, slot := 14, constantValue := 0 }, { name := "BIN16", type := (.object "com/example/frame_to_method/frametomethod/FieldType"), accessFlags := 16409, slot := 15, constantValue := 0 }, { name := "INT16", type := (.object "com/example/frame_to_method/frametomethod/FieldType"), accessFlags := 16409, slot := 16, constantValue := 0 }, { name := "UINT16", type := (.object "com/example/frame_to_method/frametomethod/FieldType"), accessFlags := 16409, slot := 17, constantValue := 0 }, { name := "BIN32", type := (.object "com/example/frame_to_method/frametomethod/FieldType"), accessFlags := 16409, slot := 18, constantValue := 0 }, { name := "INT32", type := (.object "com/example/frame_to_method/frametomethod/FieldType"), accessFlags := 16409, slot := 19, constantValue := 0 }, { name := "UINT32", type := (.object "com/example/frame_to_method/frametomethod/FieldType"), accessFlags := 16409, slot := 20, constantValue := 0 }, { name := "FLOAT", type := (.object "com/example/frame_to_method/frametomethod/FieldType"), accessFlags := 16409, slot := 21, constantValue := 0 }, { name := "CHAR_UTF32", type := (.object "com/example/frame_to_method/frametomethod/FieldType"), accessFlags := 16409, slot := 22, constantValue := 0 }, { name := "SEQUENCE_NO", type := (.object "com/example/frame_to_method/frametomethod/FieldType"), accessFlags := 16409, slot := 23, constantValue := 0 }, { name := "BIN64", type := (.object "com/example/frame_to_method/frametomethod/FieldType"), accessFlags := 16409, slot := 24, constantValue := 0 }, { name := "INT64", type := (.object "com/example/frame_to_method/frametomethod/FieldType"), accessFlags := 16409, slot := 25, constantValue := 0 }, { name := "UINT64", type := (.object "com/example/frame_to_method/frametomethod/FieldType"), accessFlags := 16409, slot := 26, constantValue := 0 }, { name := "DOUBLE", type := (.object "com/example/frame_to_method/frametomethod/FieldType"), accessFlags := 16409, slot := 27, constantValue := 0 }, { name := "DATETIME", type := (.object "com/example/frame_to_method/frametomethod/FieldType"), accessFlags := 16409, slot := 28, constantValue := 0 }, { name := "BIN128", type := (.object "com/example/frame_to_method/frametomethod/FieldType"), accessFlags := 16409, slot := 29, constantValue := 0 }, { name := "UUID", type := (.object "com/example/frame_to_method/frametomethod/FieldType"), accessFlags := 16409, slot := 30, constantValue := 0 }, { name := "BIN256", type := (.object "com/example/frame_to_method/frametomethod/FieldType"), accessFlags := 16409, slot := 31, constantValue := 0 }, { name := "BIN512", type := (.object "com/example/frame_to_method/frametomethod/FieldType"), accessFlags := 16409, slot := 32, constantValue := 0 }, { name := "BIN1024", type := (.object "com/example/frame_to_method/frametomethod/FieldType"), accessFlags := 16409, slot := 33, constantValue := 0 }, { name := "VBIN8", type := (.object "com/example/frame_to_method/frametomethod/FieldType"), accessFlags := 16409, slot := 34, constantValue := 0 }, { name := "STR8_LATIN", type := (.object "com/example/frame_to_method/frametomethod/FieldType"), accessFlags := 16409, slot := 35, constantValue := 0 }, { name := "STR8", type := (.object "com/example/frame_to_method/frametomethod/FieldType"), accessFlags := 16409, slot := 36, constantValue := 0 }, { name := "STR8_UTF16", type := (.object "com/example/frame_to_method/frametomethod/FieldType"), accessFlags := 16409, slot := 37, constantValue := 0 }, { name := "VBIN16", type := (.object "com/example/frame_to_method/frametomethod/FieldType"), accessFlags := 16409, slot := 38, constantValue := 0 }, { name := "STR16_LATIN", type := (.object "com/example/frame_to_method/frametomethod/FieldType"), accessFlags := 16409, slot := 39, constantValue := 0 }, { name := "STR16", type := (.object "com/example/frame_to_method/frametomethod/FieldType"), accessFlags := 16409, slot := 40, constantValue := 0 }, { name := "STR16_UTF16", type := (.object "com/example/frame_to_method/frametomethod/FieldType"), accessFlags := 16409, slot := 41, constantValue := 0 }, { name := "BYTE_RANGES", type := (.object "com/example/frame_to_method/frametomethod/FieldType"), accessFlags := 16409, slot := 42, constantValue := 0 }, { name := "SEQUENCE_SET", type := (.object "com/example/frame_to_method/frametomethod/FieldType"), accessFlags := 16409, slot := 43, constantValue := 0 }, { name := "VBIN32", type := (.object "com/example/frame_to_method/frametomethod/FieldType"), accessFlags := 16409, slot := 44, constantValue := 0 }, { name := "MAP", type := (.object "com/example/frame_to_method/frametomethod/FieldType"), accessFlags := 16409, slot := 45, constantValue := 0 }, { name := "LIST", type := (.object "com/example/frame_to_method/frametomethod/FieldType"), accessFlags := 16409, slot := 46, constantValue := 0 }, { name := "ARRAY", type := (.object "com/example/frame_to_method/frametomethod/FieldType"), accessFlags := 16409, slot := 47, constantValue := 0 }, { name := "STRUCT32", type := (.object "com/example/frame_to_method/frametomethod/FieldType"), accessFlags := 16409, slot := 48, constantValue := 0 }, { name := "BIN40", type := (.object "com/example/frame_to_method/frametomethod/FieldType"), accessFlags := 16409, slot := 49, constantValue := 0 }, { name := "DEC32", type := (.object "com/example/frame_to_method/frametomethod/FieldType"), accessFlags := 16409, slot := 50, constantValue := 0 }, { name := "BIN72", type := (.object "com/example/frame_to_method/frametomethod/FieldType"), accessFlags := 16409, slot := 51, constantValue := 0 }, { name := "DEC64", type := (.object "com/example/frame_to_method/frametomethod/FieldType"), accessFlags := 16409, slot := 52, constantValue := 0 }, { name := "VOID", type := (.object "com/example/frame_to_method/frametomethod/FieldType"), accessFlags := 16409, slot := 53, constantValue := 0 }, { name := "STRUCT", type := (.object "com/example/frame_to_method/frametomethod/FieldType"), accessFlags := 16409, slot := 54, constantValue := 0 }, { name := "SHORTSTR_MAX", type := .int, accessFlags := 24, slot := 55, constantValue := 0 }, { name := "CODES", type := .int, accessFlags := 26, slot := 56, constantValue := 0 }, { name := "RANGE_SHIFT", type := .int, accessFlags := 26, slot := 57, constantValue := 0 }, { name := "FIXED_RANGES", type := .int, accessFlags := 26, slot := 58, constantValue := 0 }, { name := "VARIABLE_RANGE_1", type := .int, accessFlags := 26, slot := 59, constantValue := 0 }, { name := "VARIABLE_RANGE_4", type := .int, accessFlags := 26, slot := 60, constantValue := 0 }, { name := "RESERVED_RANGE_1", type := .int, accessFlags := 26, slot := 61, constantValue := 0 }, { name := "FIXED_5_RANGE", type := .int, accessFlags := 26, slot := 62, constantValue := 0 }, { name := "FIXED_9_RANGE", type := .int, accessFlags := 26, slot := 63, constantValue := 0 }, { name := "RESERVED_RANGE_2", type := .int, accessFlags := 26, slot := 64, constantValue := 0 }, { name := "DECIMAL_SCALE_MAX", type := .int, accessFlags := 26, slot := 65, constantValue := 0 }, { name := "kind", type := (.object "com/example/frame_to_method/frametomethod/FieldType$Kind"), accessFlags := 18, slot := 3, constantValue := 0 }, { name := "size", type := .int, accessFlags := 18, slot := 4, constantValue := 0 }, { name := "grammars", type := (.object "java/util/Set"), accessFlags := 18, slot := 5, constantValue := 0 }, { name := "label", type := (.object "java/lang/String"), accessFlags := 18, slot := 6, constantValue := 0 }, { name := "$VALUES", type := (.array (.object "com/example/frame_to_method/frametomethod/FieldType")), accessFlags := 4122, slot := 66, constantValue := 0 }]
  methods := #[k6m0]
  instanceTypes := #[(.object "java/lang/String"), .int, .int, (.object "com/example/frame_to_method/frametomethod/FieldType$Kind"), .int, (.object "java/util/Set"), (.object "java/lang/String")]
  staticTypes := #[(.object "com/example/frame_to_method/frametomethod/FieldType"), (.object "com/example/frame_to_method/frametomethod/FieldType"), (.object "com/example/frame_to_method/frametomethod/FieldType"), (.object "com/example/frame_to_method/frametomethod/FieldType"), (.object "com/example/frame_to_method/frametomethod/FieldType"), (.object "com/example/frame_to_method/frametomethod/FieldType"), (.object "com/example/frame_to_method/frametomethod/FieldType"), (.object "com/example/frame_to_method/frametomethod/FieldType"), (.object "com/example/frame_to_method/frametomethod/FieldType"), (.object "com/example/frame_to_method/frametomethod/FieldType"), (.object "com/example/frame_to_method/frametomethod/FieldType"), (.object "com/example/frame_to_method/frametomethod/FieldType"), (.object "com/example/frame_to_method/frametomethod/FieldType"), (.object "com/example/frame_to_method/frametomethod/FieldType"), (.object "com/example/frame_to_method/frametomethod/FieldType"), (.object "com/example/frame_to_method/frametomethod/FieldType"), (.object "com/example/frame_to_method/frametomethod/FieldType"), (.object "com/example/frame_to_method/frametomethod/FieldType"), (.object "com/example/frame_to_method/frametomethod/FieldType"), (.object "com/example/frame_to_method/frametomethod/FieldType"), (.object "com/example/frame_to_method/frametomethod/FieldType"), (.object "com/example/frame_to_method/frametomethod/FieldType"), (.object "com/example/frame_to_method/frametomethod/FieldType"), (.object "com/example/frame_to_method/frametomethod/FieldType"), (.object "com/example/frame_to_method/frametomethod/FieldType"), (.object "com/example/frame_to_method/frametomethod/FieldType"), (.object "com/example/frame_to_method/frametomethod/FieldType"), (.object "com/example/frame_to_method/frametomethod/FieldType"), (.object "com/example/frame_to_method/frametomethod/FieldType"), (.object "com/example/frame_to_method/frametomethod/FieldType"), (.object "com/example/frame_to_method/frametomethod/FieldType"), (.object "com/example/frame_to_method/frametomethod/FieldType"), (.object "com/example/frame_to_method/frametomethod/FieldType"), (.object "com/example/frame_to_method/frametomethod/FieldType"), (.object "com/example/frame_to_method/frametomethod/FieldType"), (.object "com/example/frame_to_method/frametomethod/FieldType"), (.object "com/example/frame_to_method/frametomethod/FieldType"), (.object "com/example/frame_to_method/frametomethod/FieldType"), (.object "com/example/frame_to_method/frametomethod/FieldType"), (.object "com/example/frame_to_method/frametomethod/FieldType"), (.object "com/example/frame_to_method/frametomethod/FieldType"), (.object "com/example/frame_to_method/frametomethod/FieldType"), (.object "com/example/frame_to_method/frametomethod/FieldType"), (.object "com/example/frame_to_method/frametomethod/FieldType"), (.object "com/example/frame_to_method/frametomethod/FieldType"), (.object "com/example/frame_to_method/frametomethod/FieldType"), (.object "com/example/frame_to_method/frametomethod/FieldType"), (.object "com/example/frame_to_method/frametomethod/FieldType"), (.object "com/example/frame_to_method/frametomethod/FieldType"), (.object "com/example/frame_to_method/frametomethod/FieldType"), (.object "com/example/frame_to_method/frametomethod/FieldType"), (.object "com/example/frame_to_method/frametomethod/FieldType"), (.object "com/example/frame_to_method/frametomethod/FieldType"), (.object "com/example/frame_to_method/frametomethod/FieldType"), (.object "com/example/frame_to_method/frametomethod/FieldType"), .int, .int, .int, .int, .int, .int, .int, .int, .int, .int, .int, (.array (.object "com/example/frame_to_method/frametomethod/FieldType"))]
  resolved := Array.replicate 803 none
  statics := none }

def pool7 : Array CpInfo := pool [(1, u "java/lang/Cloneable"), (0, .class_ 1), (0, u "java/lang/Object"), (0, .class_ 3)] 3

/-- java/lang/Cloneable -/
def k7 : Class := { plain "java/lang/Cloneable" (some 0) with
  accessFlags := 1537
  interfaces := #[]
  cf := some (fileOf pool7 2 #[] #[] 1537 4 #[] #[])
  fields := #[]
  methods := #[]
  instanceTypes := #[]
  staticTypes := #[]
  resolved := Array.replicate 8 none
  statics := none }

/-- the primitive byte -/
def k8 : Class := { plain "byte" none with kind := .primitive 'B', accessFlags := 0x411 }
/-- [B -/
def k9 : Class := { plain "[B" (some 0) with kind := .array 8 .byte, interfaces := #[7, 4], accessFlags := 1041 }

/-- the primitive int -/
def k10 : Class := { plain "int" none with kind := .primitive 'I', accessFlags := 0x411 }
/-- [I -/
def k11 : Class := { plain "[I" (some 0) with kind := .array 10 .int, interfaces := #[7, 4], accessFlags := 1041 }

def heap : Heap := #[]
def classes : Array Class := #[k0, k1, k2, k3, k4, k5, k6, k7, k8, k9, k10, k11]
def interned : List (Array UInt16 × Addr) := []
def slotsUsed : Nat := 0
def theMethod : MethodId := ⟨1, 1⟩
def args0 : Array Value := #[.int 5]
def aboutOver (below : List Frame) : State where
  vm := { classes := classes, interned := interned.toArray }
  heap := heap
  slotsUsed := slotsUsed
  threads := #[{ frames := .invoking theMethod args0 :: below }]
def below0 : List Frame := [.native { method := ⟨0, 0⟩, args := #[] }]
def about1 : State := aboutOver below0
def p0 : Program := .bare "" "" ""
def e0 : Env := launch0.env 0 0 0
theorem w_frames : about1.frames = Frame.invoking theMethod args0 :: below0 := rfl
set_option maxRecDepth 65536 in
theorem w_args : argsFit about1.vm theMethod args0 = true := by decide +kernel
set_option maxRecDepth 65536 in
theorem w_heap : heapFits about1 = true := by decide +kernel
set_option maxRecDepth 65536 in
theorem w_runnable : about1.curStatus? = some .runnable := by decide +kernel
set_option maxRecDepth 65536 in
theorem w_alone : about1.alone = true := by decide +kernel
set_option maxRecDepth 65536 in
theorem w_named : about1.methodNamed? x = some theMethod := by decide +kernel
set_option maxRecDepth 65536 in
theorem w_hears : about1.hears theMethod below0 = true := by decide +kernel
set_option maxRecDepth 65536 in
theorem w_ripe : about1.ripe theMethod args0 below0 = true := by decide +kernel
theorem w_running : about1.status = .running := rfl
set_option maxRecDepth 65536 in
theorem w_room : about1.hasRoom e0.platform room_1 = true :=
  launch0.hasRoom_least _ room_1 (by decide +kernel) (by decide +kernel) (by decide +kernel) (by decide +kernel) (by decide +kernel) (by decide +kernel)
theorem allAtoms_all (ts : List Jvm.Cond) (a : Array Jvm.Value) (st : Jvm.State) : (allAtoms ts).before a st = ts.all (fun c => c.before a st) := by
  induction ts with
  | nil => rfl
  | cons c t ih =>
    show (Jvm.Cond.and c (allAtoms t)).before a st = _
    rw [Jvm.Cond.before_and, ih, List.all_cons]
def words1 : List Jvm.Cond := Jvm.Cond.code x code maxLocals ret :: tables_1
/-- a 'code' word, met by the world's own term for the bytes: nothing is compared byte by byte -/
theorem code_word {y : MethodName} {bytes : ByteArray} {mx : Nat} {rt : Option FieldType} {a : Array Value} {s : State} {m : MethodId} {meth : Method} {c : Code} (h1 : s.methodNamed? y = some m) (h2 : s.vm.method? m = some meth) (h3 : meth.code = some c) (h4 : c.code = bytes)
    (h5 : (c.maxLocals == mx && c.exceptionTable.isEmpty && decide (c.maxStack ≤ mostOperands) && decide (meth.sig.returnType = rt) && !meth.locks && decide (parseMethodDescriptor y.desc = some meth.sig)) = true) : (Jvm.Cond.code y bytes mx rt).before a s = true := by
  simp only [Bool.and_eq_true, beq_iff_eq, Bool.not_eq_true', decide_eq_true_eq] at h5
  obtain ⟨⟨⟨⟨⟨g1, g2⟩, g3⟩, g4⟩, g5⟩, g6⟩ := h5
  simp [Cond.before, Cond.holds, Cond.value, h1, h2, h3, h4, g1, g2, g3, g4, g5, g6]
def isCode : Jvm.Cond → Bool
  | .code _ _ _ _ => true
  | _ => false
theorem all_split {L : List Jvm.Cond} {P : Jvm.Cond → Bool} (h1 : L.all (fun c => isCode c || P c) = true) (h2 : ∀ c ∈ L.filter isCode, P c = true) : L.all P = true := by
  refine List.all_eq_true.mpr fun c hc => ?_
  have h := List.all_eq_true.mp h1 c hc
  rcases Bool.eq_false_or_eq_true (isCode c) with hi | hi
  · exact h2 c (List.mem_filter.mpr ⟨hc, hi⟩)
  · simpa [hi] using h
set_option maxRecDepth 65536 in
theorem w_c0 : (Jvm.Cond.code x code maxLocals ret).before args0 about1 = true := code_word (m := ⟨1, 1⟩) (meth := k1m1) (c := k1c1) (by decide +kernel) rfl rfl rfl (by decide +kernel)
set_option maxRecDepth 65536 in
theorem w_c1 : (Jvm.Cond.code ({ cls := "com/example/frame_to_method/frametomethod/FieldType", name := "codeWidth", desc := "(I)I" } : Jvm.MethodName) prog_50_method_13_code (2 : Nat) (Option.some Jvm.ClassFile.FieldType.int)).before args0 about1 = true := code_word (m := ⟨6, 0⟩) (meth := k6m0) (c := k6c0) (by decide +kernel) rfl rfl rfl (by decide +kernel)
def codes1 : List Jvm.Cond := [Jvm.Cond.code x code maxLocals ret, Jvm.Cond.code ({ cls := "com/example/frame_to_method/frametomethod/FieldType", name := "codeWidth", desc := "(I)I" } : Jvm.MethodName) prog_50_method_13_code (2 : Nat) (Option.some Jvm.ClassFile.FieldType.int)]
set_option maxRecDepth 65536 in
theorem codes_eq : words1.filter isCode = codes1 := rfl
theorem w_codes : ∀ c ∈ words1.filter isCode, c.before args0 about1 = true := by
  rw [codes_eq]
  intro c hc
  simp only [codes1, List.mem_cons, List.not_mem_nil, or_false] at hc
  rcases hc with rfl | rfl
  · exact w_c0
  · exact w_c1
set_option maxRecDepth 65536 in
theorem w_t1 : words1.all (fun c => isCode c || c.before args0 about1) = true := by decide +kernel
theorem w_tables : (allAtoms (Jvm.Cond.code x code maxLocals ret :: tables_1)).before args0 about1 = true := by
  rw [allAtoms_all]
  show words1.all (fun c => c.before args0 about1) = true
  refine all_split ?_ w_codes
  rw [w_t1]
set_option maxRecDepth 65536 in
theorem w_case : (Jvm.Cond.and given_1 narrow_1).before args0 about1 = true := by decide +kernel
theorem w_applies : (headSpec (Jvm.Cond.code x code maxLocals ret :: tables_1) room_1).applies x e0.platform about1 = true :=
  (Spec.applies_iff w_frames).mpr ⟨w_running, w_runnable, w_alone, w_named, w_hears, w_ripe, w_room, w_tables⟩
theorem atStart : AtStart classFile x code maxLocals ret World_1 tables_1 room_1 Calls_1 rest_1 Pre_1 launch0 p0 e0 about1 theMethod args0 below0 :=
  ⟨lists_1, trivial, launch0.admits_env _ _ _, launch0.least_env, fairChoices_fair.cas, fairChoices_fair.clock, w_frames, w_args, w_heap, w_applies, trivial, trivial, w_case⟩
end start1
theorem witness_1 : WitnessClaimed_1 := ⟨start1.p0, start1.e0, start1.about1, start1.theMethod, start1.args0, start1.below0, start1.atStart⟩
end Jvm.Pilot.@@N@@
