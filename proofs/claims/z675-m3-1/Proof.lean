import JvmDerived
import JvmDerived.Pilot.@@N@@Statement
import JvmDerived.Pilot.@@N@@Code
set_option linter.unusedVariables false
set_option linter.unusedSimpArgs false
namespace Jvm.Pilot.@@N@@
open Jvm Jvm.ClassFile Sem Op Lib Jvm.Free Jvm.Stand Jvm.LawKit Jvm.RoadKit Bundle Jvm.Pilot.@@N@@.Jvm.D
/-- from the state A the run comes to the method's end, and Q says what it left -/
def own_Go (p : Program) (e : Env) (below : List Frame) (s : State) (K M : Nat) (Q : Option Value → Heap → List Loc → Prop) (A : State) : Prop :=
  ∃ s₂ o, Steps p.tables e below A s₂ ∧ s₂.status = .running ∧ Ended s₂ below o ∧ ∃ v L, o = .returned v ∧ Q v s₂.heap L ∧ FrameEnd s o s₂ L K M
theorem own_back {p : Program} {e : Env} {below : List Frame} {s : State} {K M : Nat} {Q : Option Value → Heap → List Loc → Prop} {A B : State} (h : ∀ t, Steps p.tables e below B t → Steps p.tables e below A t) (g : own_Go p e below s K M Q B) : own_Go p e below s K M Q A := by
  obtain ⟨s₂, o, h1, h2⟩ := g
  exact ⟨s₂, o, h _ h1, h2⟩
theorem own_retN {p : Program} {l : Launch} {e : Env} {R : Room} {s : State} {m : MethodId} {args : Array Value} {below : List Frame} {meth : Method} {c : Code} {T : State} {locs : List Loc} {cells slots K M : Nat} {Q : Option Value → Heap → List Loc → Prop}
    (X : Stand p l e R s m args below meth c T locs cells slots) (hx : p.tables.exec = Jvm.exec) {pc : Nat} {Ls : Array Slot} {z r : Int32} {t : FieldType} {rest : List Value} (hret : meth.sig.returnType = some t) (ht : t = .boolean ∨ t = .byte ∨ t = .char ∨ t = .short) (hd : decode c.code pc = .ok (.ireturn, 1)) (hlk : meth.locks = false)
    (hr : nar t z = r) (hq : Q (some (.int r)) T.heap locs) (hK : cells ≤ K) (hM : slots ≤ M) : own_Go p e below s K M Q (T.setTop (mkF m pc Ls (.int z :: rest))) := by
  subst hr
  obtain ⟨fs, hr, hrun, hended, hW, hsame⟩ := X.leave (v := some (.int (nar t z))) (fun h => by rw [hret] at h; cases h)
  exact ⟨_, _, retN X hx hret ht hd hr, hrun, hended, _, _, rfl, hq, ⟨_, rfl⟩, hW, hsame.mono hK hM⟩
theorem own_retI {p : Program} {l : Launch} {e : Env} {R : Room} {s : State} {m : MethodId} {args : Array Value} {below : List Frame} {meth : Method} {c : Code} {T : State} {locs : List Loc} {cells slots K M : Nat} {Q : Option Value → Heap → List Loc → Prop}
    (X : Stand p l e R s m args below meth c T locs cells slots) (hx : p.tables.exec = Jvm.exec) {pc : Nat} {Ls : Array Slot} {z : Int32} {rest : List Value} (hret : meth.sig.returnType = some .int) (hd : decode c.code pc = .ok (.ireturn, 1)) (hlk : meth.locks = false)
    (hq : Q (some (.int z)) T.heap locs) (hK : cells ≤ K) (hM : slots ≤ M) : own_Go p e below s K M Q (T.setTop (mkF m pc Ls (.int z :: rest))) := by
  obtain ⟨fs, hr, hrun, hended, hW, hsame⟩ := X.leave (v := some (.int z)) (fun h => by rw [hret] at h; cases h)
  refine ⟨_, _, ?_, hrun, hended, _, _, rfl, hq, ⟨_, rfl⟩, hW, hsame.mono hK hM⟩
  have hm' : T.vm.method? m = some meth := X.method'
  have hn : narrow .int (.int z) = .int z := rfl
  show Steps p.tables e below (T.setTop { method := m, pc := pc, locals := Ls, stack := _ :: rest, locked := none }) _
  jvm_step X.here [X.here.top, hx, hd, hm', hret, hn]
  first | (intro acts; rw [hr _ acts rfl rfl rfl]) | rw [hr _ _ rfl rfl rfl]
  exact Steps.refl _
theorem own_retJ {p : Program} {l : Launch} {e : Env} {R : Room} {s : State} {m : MethodId} {args : Array Value} {below : List Frame} {meth : Method} {c : Code} {T : State} {locs : List Loc} {cells slots K M : Nat} {Q : Option Value → Heap → List Loc → Prop}
    (X : Stand p l e R s m args below meth c T locs cells slots) (hx : p.tables.exec = Jvm.exec) {pc : Nat} {Ls : Array Slot} {z : Int64} (hret : meth.sig.returnType = some .long) (hd : decode c.code pc = .ok (.lreturn, 1)) (hlk : meth.locks = false)
    (hq : Q (some (.long z)) T.heap locs) (hK : cells ≤ K) (hM : slots ≤ M) : own_Go p e below s K M Q (T.setTop (mkF m pc Ls [.long z])) := by
  obtain ⟨fs, hr, hrun, hended, hW, hsame⟩ := X.leave (v := some (.long z)) (fun h => by rw [hret] at h; cases h)
  exact ⟨_, _, X.lreturnOut hx hret hd hr, hrun, hended, _, _, rfl, hq, ⟨_, rfl⟩, hW, hsame.mono hK hM⟩
theorem own_retV {p : Program} {l : Launch} {e : Env} {R : Room} {s : State} {m : MethodId} {args : Array Value} {below : List Frame} {meth : Method} {c : Code} {T : State} {locs : List Loc} {cells slots K M : Nat} {Q : Option Value → Heap → List Loc → Prop}
    (X : Stand p l e R s m args below meth c T locs cells slots) (hx : p.tables.exec = Jvm.exec) {pc : Nat} {Ls : Array Slot} (hret : meth.sig.returnType = none) (hd : decode c.code pc = .ok (.return_, 1)) (hlk : meth.locks = false)
    (hq : Q none T.heap locs) (hK : cells ≤ K) (hM : slots ≤ M) : own_Go p e below s K M Q (T.setTop (mkF m pc Ls [])) := by
  obtain ⟨fs, hr, hrun, hended, hW, hsame⟩ := X.leave (v := none) (fun _ => rfl)
  exact ⟨_, _, X.returnOut hx hret hd hr, hrun, hended, _, _, rfl, hq, ⟨_, rfl⟩, hW, hsame.mono hK hM⟩
/-- the value returned, nothing old written, the heap as it was -/
def own_QP (w : Value) (h0 : Heap) (n0 : Nat) (v : Option Value) (h : Heap) (L : List Loc) : Prop := v = some w ∧ Fr n0 L ∧ h = h0
/-- the value returned, nothing old written, the heap no shorter -/
def own_QG (w : Value) (h0 : Heap) (n0 : Nat) (v : Option Value) (h : Heap) (L : List Loc) : Prop := v = some w ∧ Fr n0 L ∧ n0 ≤ h.size
theorem own_small {x : Int32} {k : Nat} (hk : k < 2147483648) (h1 : ¬ x < 0) (h2 : x.toInt < k) : ∃ n : Nat, n < k ∧ x = Int32.ofNat n := by
  have z : (0 : Int32).toInt = 0 := rfl
  rw [Int32.lt_iff_toInt_lt, z] at h1
  refine ⟨x.toInt.toNat, by omega, Int32.toInt_inj.mp ?_⟩
  rw [Int32.toInt_ofNat_of_lt (by omega)]
  omega
theorem own_lt {x y : Int32} : x < y ↔ x.toInt < y.toInt := Int32.lt_iff_toInt_lt
theorem own_ne {x : Int32} {k : Int} (c : Int32) (hc : c.toInt = k) (h : x.toInt ≠ k) : ¬ x = c := fun q => h (by rw [q]; exact hc)
theorem own_pos {x : Int32} (h : ¬ (x &&& (2147483647 : Int32)) = (0 : Int32)) : (0 : Int32) < (x &&& (2147483647 : Int32)) := by
  have e : (x &&& (2147483647 : Int32)).toInt = x.toInt % 2147483648 := c_mask x 2147483647 31 (by decide) (by decide)
  have z : (0 : Int32).toInt = 0 := rfl
  have h' : (x &&& (2147483647 : Int32)).toInt ≠ 0 := fun q => h (Int32.toInt_inj.mp (by rw [q]; rfl))
  rw [Int32.lt_iff_toInt_lt, z]
  omega
/-! body 2: com/example/measured_commit/measuredcommit/TransactionSettings.requireTimeout:(I)I -/
theorem own_d2_0 : decode prog_63_method_13_code 0 = .ok (.iload_n 0, 1) := by decide +kernel
theorem own_d2_1 : decode prog_63_method_13_code 1 = .ok (.ifCond .gt 17, 3) := by decide +kernel
theorem own_d2_18 : decode prog_63_method_13_code 18 = .ok (.iload_n 0, 1) := by decide +kernel
theorem own_d2_19 : decode prog_63_method_13_code 19 = .ok (.ireturn, 1) := by decide +kernel
def own_f2_0 (x0 : Int32) : Int32 := x0
set_option maxRecDepth 65536 in
set_option maxHeartbeats 4000000 in
theorem own_l2_0 {p : Program} {l : Launch} {e : Env} {s : State} {m : MethodId} {args : Array Value} {below : List Frame} {meth : Method} {c : Code} {T : State} {locs : List Loc} {Z : State} {a0 : Array Value} {h0 : Heap} {n0 : Nat}
    (X : Stand p l e ({ frames := 0, cells := 0, slots := 0, locals := 0 } : Room) s m args below meth c T locs 0 0) (hx : p.tables.exec = Jvm.exec) (hZ : Z.Warmed39 s.vm) (hw : ∀ d ∈ tables_1, d.before a0 Z = true) (hby : c.code = prog_63_method_13_code) (hml : c.maxLocals = 1) (hown : s.vm.findClass "com/example/measured_commit/measuredcommit/TransactionSettings" = some m.cls) (hret : meth.sig.returnType = some .int) (hlk : meth.locks = false) (e0 : T.heap = h0) (N : Fr n0 locs) (Z0 : n0 ≤ h0.size)
    (x0 : Int32) {r : Int32} (hR : r = own_f2_0 x0) (hp1 : (0 : Int32) < x0) : own_Go p e below s ({ frames := 0, cells := 0, slots := 0, locals := 0 } : Room).cells ({ frames := 0, cells := 0, slots := 0, locals := 0 } : Room).slots (own_QP (.int r) h0 n0) (T.setTop (mkF m 0 #[.val (.int x0)] [])) := by
  unfold own_f2_0 at hR
  refine own_back (fun t k => XS.iloadN X.here hx rfl (hb hby own_d2_0) rfl k) ?_
  show own_Go _ _ _ _ _ _ _ (T.setTop (mkF m 1 #[.val (.int x0)] [(.int x0)]))
  refine own_back (fun t k => XS.ifYes X.here hx rfl (pc0 := 1) (pc' := 18) rfl (hb hby own_d2_1) rfl ((if0 _ _).trans (tlt hp1).2.2.1) (by decide) (by decide) k) ?_
  show own_Go _ _ _ _ _ _ _ (T.setTop (mkF m 18 #[.val (.int x0)] []))
  refine own_back (fun t k => XS.iloadN X.here hx rfl (hb hby own_d2_18) rfl k) ?_
  show own_Go _ _ _ _ _ _ _ (T.setTop (mkF m 19 #[.val (.int x0)] [(.int x0)]))
  subst hR
  exact own_retI X hx hret (hb hby own_d2_19) hlk ⟨rfl, N, e0⟩ (by decide) (by decide)
theorem own_pn2 : plainName "com/example/measured_commit/measuredcommit/TransactionSettings" = true := by first | (simp [plainName, overriddenIn]; done) | decide +kernel
theorem own_ef2 (m : MethodId) (x0 : Int32) : entryFrame m #[(.int x0)] 1 = mkF m 0 #[.val (.int x0)] [] := by first | (simp [entryFrame, mkF, argsToLocals, Value.category]; done) | rfl
set_option maxRecDepth 65536 in
set_option maxHeartbeats 4000000 in
theorem own_rm2 (l : Launch) (Z : State) (a0 : Array Value) (hw : ∀ d ∈ tables_1, d.before a0 Z = true) (ws : List Jvm.Cond) (x0 : Int32) (h0 : Heap) (n0 : Nat) (Z0 : n0 ≤ h0.size) (hp1 : (0 : Int32) < x0) :
    MetFree l (⟨"com/example/measured_commit/measuredcommit/TransactionSettings", "requireTimeout", "(I)I"⟩ : MethodName) (head1 (Jvm.Cond.code (⟨"com/example/measured_commit/measuredcommit/TransactionSettings", "requireTimeout", "(I)I"⟩ : MethodName) prog_63_method_13_code 1 (some .int) :: ws) ({ frames := 0, cells := 0, slots := 0, locals := 0 } : Room)) (fun a U => a = #[(.int x0)] ∧ Z.Warmed39 U.vm ∧ U.heap = h0) (fun _ _ _ _ _ => True) (fun _ U o U' => ∃ v L, o = .returned v ∧ own_QP (.int (own_f2_0 x0)) h0 n0 v U'.heap L ∧ FrameEnd U o U' L ({ frames := 0, cells := 0, slots := 0, locals := 0 } : Room).cells ({ frames := 0, cells := 0, slots := 0, locals := 0 } : Room).slots) := by
  refine MetFree.of_bodySF (plainFor_of_name own_pn2) hisR ?_
  intro p e s m args below meth c s₁ Bd hml0 hP hK
  obtain ⟨rfl, hZ, hh⟩ := hP
  have X0 : Stand p l e ({ frames := 0, cells := 0, slots := 0, locals := 0 } : Room) s m #[(.int x0)] below meth c s₁ [] 0 0 := Stand.of_body Bd
  have e0 : s₁.heap = h0 := by rw [← hh, Bd.state]; rfl
  refine own_back (s := s) (fun t k => castTop (own_ef2 m x0) k) ?_
  exact own_l2_0 X0 Bd.exec hZ hw Bd.bytes hml0 (findClass_of_methodNamed Bd.named) Bd.returns (BodyLoose.notSynchronized Bd) e0 (Fr.nil n0) Z0 x0 rfl hp1
/-! the constructor and 'of' (lawwalk's print, filled in) -/
theorem d3_0 : decode prog_8_method_1_code 0 = .ok (.aload_n 0, 1) := by decide +kernel
theorem d3_1 : decode prog_8_method_1_code 1 = .ok (.invokespecial 1, 3) := by decide +kernel
theorem d3_4 : decode prog_8_method_1_code 4 = .ok (.aload_n 0, 1) := by decide +kernel
theorem d3_5 : decode prog_8_method_1_code 5 = .ok (.lload_n 1, 1) := by decide +kernel
theorem d3_6 : decode prog_8_method_1_code 6 = .ok (.putfield 7, 3) := by decide +kernel
theorem d3_9 : decode prog_8_method_1_code 9 = .ok (.aload_n 0, 1) := by decide +kernel
theorem d3_10 : decode prog_8_method_1_code 10 = .ok (.iload_n 3, 1) := by decide +kernel
theorem d3_11 : decode prog_8_method_1_code 11 = .ok (.putfield 13, 3) := by decide +kernel
theorem d3_14 : decode prog_8_method_1_code 14 = .ok (.return_, 1) := by decide +kernel
theorem pn_3 : plainName "com/example/measured_commit/measuredcommit/Deadline" = true := by first | (simp [plainName, overriddenIn]; done) | decide +kernel
theorem ef_3 (m : MethodId) (x0 : Addr) (x1 : Int64) (x2 : Int32) : entryFrame m #[(.ref x0), (.long x1), (.int x2)] 4 = mkF m 0 #[.val (.ref x0), .val (.long x1), .second, .val (.int x2)] [] := by first | (simp [entryFrame, mkF, argsToLocals, Value.category]; done) | rfl
def Q3 (Z : State) (a1 : Addr) (q2 : Int64) (p3 : Int32) (u_deadlineNanos_a1 : Value) (u_timeoutSeconds_a1 : Value) (h0 : Heap) (n0 : Nat) (v : Option Value) (h : Heap) (L : List Loc) : Prop := v = none ∧ Fr n0 L ∧ Keep h0 h [a1] ∧ Exa Z h a1 "com/example/measured_commit/measuredcommit/Deadline" ∧ Fld Z h a1 "com/example/measured_commit/measuredcommit/Deadline" "deadlineNanos" "J" (.long q2) ∧ Fld Z h a1 "com/example/measured_commit/measuredcommit/Deadline" "timeoutSeconds" "I" (.int p3)
set_option maxRecDepth 65536 in
set_option maxHeartbeats 40000000 in
theorem rm3 (l : Launch) (Z : State) (a0 : Array Value) (hw : ∀ d ∈ tables_1, d.before a0 Z = true) (ws : List Jvm.Cond) (a1 : Addr) (q2 : Int64) (p3 : Int32) (u_deadlineNanos_a1 : Value) (u_timeoutSeconds_a1 : Value) (h0 : Heap) (n0 : Nat) (Z0 : n0 ≤ h0.size) (E_a1 : Exa Z h0 a1 "com/example/measured_commit/measuredcommit/Deadline") (F_deadlineNanos_a1 : Fld Z h0 a1 "com/example/measured_commit/measuredcommit/Deadline" "deadlineNanos" "J" u_deadlineNanos_a1) (g_a1 : n0 ≤ a1) (F_timeoutSeconds_a1 : Fld Z h0 a1 "com/example/measured_commit/measuredcommit/Deadline" "timeoutSeconds" "I" u_timeoutSeconds_a1) :
    MetFree l (⟨"com/example/measured_commit/measuredcommit/Deadline", "<init>", "(JI)V"⟩ : MethodName) (head1 (Jvm.Cond.code (⟨"com/example/measured_commit/measuredcommit/Deadline", "<init>", "(JI)V"⟩ : MethodName) prog_8_method_1_code 4 none :: ws) ({ frames := 1, cells := 0, slots := 0, locals := 12 } : Room)) (fun a U => a = #[(.ref a1), (.long q2), (.int p3)] ∧ Z.Warmed39 U.vm ∧ U.heap = h0) (fun _ _ _ _ _ => True) (fun _ U o U' => ∃ v L, o = .returned v ∧ Q3 Z a1 q2 p3 u_deadlineNanos_a1 u_timeoutSeconds_a1 h0 n0 v U'.heap L ∧ FrameEnd U o U' L ({ frames := 1, cells := 0, slots := 0, locals := 12 } : Room).cells ({ frames := 1, cells := 0, slots := 0, locals := 12 } : Room).slots) := by
  refine MetFree.of_bodySF (plainFor_of_name pn_3) hisR ?_
  intro p e s m args below meth c s₁ Bd hml0 hP hK
  obtain ⟨rfl, hZ, hh⟩ := hP
  have hx := Bd.exec
  have hby := Bd.bytes
  have hml : c.maxLocals = 4 := hml0
  have hown : s.vm.findClass "com/example/measured_commit/measuredcommit/Deadline" = some m.cls := findClass_of_methodNamed Bd.named
  have hnm := (name_of_methodNamed Bd.named Bd.method).1
  have X0 : Stand p l e ({ frames := 1, cells := 0, slots := 0, locals := 12 } : Room) s m #[(.ref a1), (.long q2), (.int p3)] below meth c s₁ [] 0 0 := Stand.of_body Bd
  have e0 : s₁.heap = h0 := by rw [← hh, Bd.state]; rfl
  have N0 := Fr.nil n0
  have pre0 : ∀ t, Steps p.tables e below (s₁.setTop (mkF m 0 #[.val (.ref a1), .val (.long q2), .second, .val (.int p3)] [])) t → Steps p.tables e below (s₁.setTop (entryFrame m #[(.ref a1), (.long q2), (.int p3)] 4)) t := fun t k => castTop (ef_3 m a1 q2 p3) k
  obtain ⟨T4, X4, e4, st4⟩ := initO X0 hx hZ hown (hw _ (List.mem_of_getElem? (i := 16) rfl)) (hw _ (List.mem_of_getElem? (i := 17) rfl)) (hw _ (List.mem_of_getElem? (i := 18) rfl)) e0 (g := (mkF m 1 #[.val (.ref a1), .val (.long q2), .second, .val (.int p3)] [(.ref a1)])) rfl (by rw [hml]; rfl) rfl (hb hby d3_1) (by decide) (W := 0) (by show 2 * 0 + _ ≤ _; exact Nat.le_of_eq rfl) (by decide)
  obtain ⟨T5, h5, X5, e5, W5, st5⟩ := putF X4 hx hZ hown (host := "") (Or.inl (hw _ (List.mem_of_getElem? (i := 19) rfl))) Via.refl e4 F_deadlineNanos_a1 E_a1 (Or.inr ⟨(hw _ (List.mem_of_getElem? (i := 20) rfl)), rfl, hnm⟩) (hw _ (List.mem_of_getElem? (i := 7) rfl)) (ty := .long) (by decide) rfl rfl (g := (mkF m 6 #[.val (.ref a1), .val (.long q2), .second, .val (.int p3)] [(.long q2), (.ref a1)])) rfl rfl (hb hby d3_6)
  have Fw5 := F_deadlineNanos_a1.same W5
  have K5 : Keep h0 h5 [a1] := (Keep.refl h0 [a1]).wr W5 (Or.inl (List.mem_of_getElem? (i := 0) rfl))
  have N5 := Fr.snoc X5 N0 g_a1
  obtain ⟨T6, h6, X6, e6, W6, st6⟩ := putF X5 hx hZ hown (host := "") (Or.inl (hw _ (List.mem_of_getElem? (i := 21) rfl))) Via.refl e5 (F_timeoutSeconds_a1.other W5 (Or.inr (slot_ne (Or.inr (hw _ (List.mem_of_getElem? (i := 22) rfl))) (Or.inr (hw _ (List.mem_of_getElem? (i := 20) rfl))) (by decide) (t := .int) (t' := .long) (by decide) (by decide)))) (E_a1.wr W5) (Or.inr ⟨(hw _ (List.mem_of_getElem? (i := 22) rfl)), rfl, hnm⟩) (hw _ (List.mem_of_getElem? (i := 7) rfl)) (ty := .int) (by decide) rfl rfl (g := (mkF m 11 #[.val (.ref a1), .val (.long q2), .second, .val (.int p3)] [(.int p3), (.ref a1)])) rfl rfl (hb hby d3_11)
  have Fw6 := (F_timeoutSeconds_a1.other W5 (Or.inr (slot_ne (Or.inr (hw _ (List.mem_of_getElem? (i := 22) rfl))) (Or.inr (hw _ (List.mem_of_getElem? (i := 20) rfl))) (by decide) (t := .int) (t' := .long) (by decide) (by decide)))).same W6
  have K6 : Keep h0 h6 [a1] := K5.wr W6 (Or.inl (List.mem_of_getElem? (i := 0) rfl))
  have N6 := Fr.snoc X6 N5 g_a1
  obtain ⟨fs, hr, hrun, hended, hW, hsame⟩ := X6.leave (v := none) (fun _ => rfl)
  refine ⟨_, _, pre0 _ ?_, hrun, hended, _, _, rfl, ?_, ⟨_, rfl⟩, hW, hsame.mono (by decide) (by decide)⟩
  · show Steps p.tables e below (s₁.setTop (mkF m 0 #[.val (.ref a1), .val (.long q2), .second, .val (.int p3)] [])) _
    refine XS.aloadN X0.here hx rfl (hb hby d3_0) rfl rfl ?_
    show Steps p.tables e below (s₁.setTop (mkF m 1 #[.val (.ref a1), .val (.long q2), .second, .val (.int p3)] [(.ref a1)])) _
    refine st4 _ ?_
    show Steps p.tables e below (T4.setTop (mkF m 4 #[.val (.ref a1), .val (.long q2), .second, .val (.int p3)] [])) _
    refine XS.aloadN X4.here hx rfl (hb hby d3_4) rfl rfl ?_
    show Steps p.tables e below (T4.setTop (mkF m 5 #[.val (.ref a1), .val (.long q2), .second, .val (.int p3)] [(.ref a1)])) _
    refine XS.lloadN X4.here hx rfl (hb hby d3_5) rfl ?_
    show Steps p.tables e below (T4.setTop (mkF m 6 #[.val (.ref a1), .val (.long q2), .second, .val (.int p3)] [(.long q2), (.ref a1)])) _
    refine st5 _ ?_
    show Steps p.tables e below (T5.setTop (mkF m 9 #[.val (.ref a1), .val (.long q2), .second, .val (.int p3)] [])) _
    refine XS.aloadN X5.here hx rfl (hb hby d3_9) rfl rfl ?_
    show Steps p.tables e below (T5.setTop (mkF m 10 #[.val (.ref a1), .val (.long q2), .second, .val (.int p3)] [(.ref a1)])) _
    refine XS.iloadN X5.here hx rfl (hb hby d3_10) rfl ?_
    show Steps p.tables e below (T5.setTop (mkF m 11 #[.val (.ref a1), .val (.long q2), .second, .val (.int p3)] [(.int p3), (.ref a1)])) _
    refine st6 _ ?_
    show Steps p.tables e below (T6.setTop (mkF m 14 #[.val (.ref a1), .val (.long q2), .second, .val (.int p3)] [])) _
    exact X6.returnOut hx Bd.returns (hb hby d3_14) hr
  · show Q3 Z a1 q2 p3 u_deadlineNanos_a1 u_timeoutSeconds_a1 h0 n0 _ T6.heap _
    rw [e6]
    exact ⟨rfl, N6, K6, ((E_a1.wr W5).wr W6), (Fw5.other W6 (Or.inr (slot_ne (Or.inr (hw _ (List.mem_of_getElem? (i := 20) rfl))) (Or.inr (hw _ (List.mem_of_getElem? (i := 22) rfl))) (by decide) (t := .long) (t' := .int) (by decide) (by decide)))), Fw6⟩
theorem d1_0 : decode prog_8_method_2_code 0 = .ok (.new 8, 3) := by decide +kernel
theorem d1_3 : decode prog_8_method_2_code 3 = .ok (.dup, 1) := by decide +kernel
theorem d1_4 : decode prog_8_method_2_code 4 = .ok (.lload_n 0, 1) := by decide +kernel
theorem d1_5 : decode prog_8_method_2_code 5 = .ok (.iload_n 2, 1) := by decide +kernel
theorem d1_6 : decode prog_8_method_2_code 6 = .ok (.invokestatic 17, 3) := by decide +kernel
theorem d1_9 : decode prog_8_method_2_code 9 = .ok (.i2l, 1) := by decide +kernel
theorem d1_10 : decode prog_8_method_2_code 10 = .ok (.ldc2_w 23, 3) := by decide +kernel
theorem d1_13 : decode prog_8_method_2_code 13 = .ok (.lmul, 1) := by decide +kernel
theorem d1_14 : decode prog_8_method_2_code 14 = .ok (.ladd, 1) := by decide +kernel
theorem d1_15 : decode prog_8_method_2_code 15 = .ok (.iload_n 2, 1) := by decide +kernel
theorem d1_16 : decode prog_8_method_2_code 16 = .ok (.invokespecial 25, 3) := by decide +kernel
theorem d1_19 : decode prog_8_method_2_code 19 = .ok (.areturn, 1) := by decide +kernel
theorem pn_1 : plainName "com/example/measured_commit/measuredcommit/Deadline" = true := by first | (simp [plainName, overriddenIn]; done) | decide +kernel
theorem pd_1_1 : parseMethodDescriptor "(I)I" = some ⟨[.int], some .int⟩ := by decide +kernel
theorem pd_1_2 : parseMethodDescriptor "(JI)V" = some ⟨[.long, .int], none⟩ := by decide +kernel
theorem ef_1 (m : MethodId) (x0 : Int64) (x1 : Int32) : entryFrame m #[(.long x0), (.int x1)] 3 = mkF m 0 #[.val (.long x0), .second, .val (.int x1)] [] := by first | (simp [entryFrame, mkF, argsToLocals, Value.category]; done) | rfl
def Q1 (Z : State) (q1 : Int64) (p2 : Int32) (h0 : Heap) (n0 : Nat) (v : Option Value) (h : Heap) (L : List Loc) : Prop := ∃ b3 : Addr, v = some (.ref b3) ∧ Fr n0 L ∧ n0 ≤ h.size ∧ Exa Z h b3 "com/example/measured_commit/measuredcommit/Deadline" ∧ Fld Z h b3 "com/example/measured_commit/measuredcommit/Deadline" "deadlineNanos" "J" (.long (q1 + (p2.toInt64 * (1000000000 : Int64)))) ∧ Fld Z h b3 "com/example/measured_commit/measuredcommit/Deadline" "timeoutSeconds" "I" (.int p2)
set_option maxRecDepth 65536 in
set_option maxHeartbeats 40000000 in
theorem rm1 (l : Launch) (Z : State) (a0 : Array Value) (hw : ∀ d ∈ tables_1, d.before a0 Z = true) (ws : List Jvm.Cond) (q1 : Int64) (p2 : Int32) (h0 : Heap) (n0 : Nat) (Z0 : n0 ≤ h0.size) (hpos : (0 : Int32) < p2) :
    MetFree l (⟨"com/example/measured_commit/measuredcommit/Deadline", "of", "(JI)Lcom/example/measured_commit/measuredcommit/Deadline;"⟩ : MethodName) (head1 (Jvm.Cond.code (⟨"com/example/measured_commit/measuredcommit/Deadline", "of", "(JI)Lcom/example/measured_commit/measuredcommit/Deadline;"⟩ : MethodName) prog_8_method_2_code 3 (some (.object "com/example/measured_commit/measuredcommit/Deadline")) :: ws) ({ frames := 2, cells := 1, slots := 2, locals := 28 } : Room)) (fun a U => a = #[(.long q1), (.int p2)] ∧ Z.Warmed39 U.vm ∧ U.heap = h0) (fun _ _ _ _ _ => True) (fun _ U o U' => ∃ v L, o = .returned v ∧ Q1 Z q1 p2 h0 n0 v U'.heap L ∧ FrameEnd U o U' L ({ frames := 2, cells := 1, slots := 2, locals := 28 } : Room).cells ({ frames := 2, cells := 1, slots := 2, locals := 28 } : Room).slots) := by
  refine MetFree.of_bodySF (plainFor_of_name pn_1) hisR ?_
  intro p e s m args below meth c s₁ Bd hml0 hP hK
  obtain ⟨rfl, hZ, hh⟩ := hP
  have hx := Bd.exec
  have hby := Bd.bytes
  have hml : c.maxLocals = 3 := hml0
  have hown : s.vm.findClass "com/example/measured_commit/measuredcommit/Deadline" = some m.cls := findClass_of_methodNamed Bd.named
  have hnm := (name_of_methodNamed Bd.named Bd.method).1
  have X0 : Stand p l e ({ frames := 2, cells := 1, slots := 2, locals := 28 } : Room) s m #[(.long q1), (.int p2)] below meth c s₁ [] 0 0 := Stand.of_body Bd
  have e0 : s₁.heap = h0 := by rw [← hh, Bd.state]; rfl
  have N0 := Fr.nil n0
  have pre0 : ∀ t, Steps p.tables e below (s₁.setTop (mkF m 0 #[.val (.long q1), .second, .val (.int p2)] [])) t → Steps p.tables e below (s₁.setTop (entryFrame m #[(.long q1), (.int p2)] 3)) t := fun t k => castTop (ef_1 m q1 p2) k
  obtain ⟨T3, h3, X3, e3, E3, A3, D3, -, st3⟩ := newO X0 hx hZ hown (hw _ (List.mem_of_getElem? (i := 6) rfl)) (hw _ (List.mem_of_getElem? (i := 7) rfl)) (hw _ (List.mem_of_getElem? (i := 4) rfl)) e0 (g := (mkF m 0 #[.val (.long q1), .second, .val (.int p2)] [])) rfl (hb hby d1_0) (by decide) (by decide)
  obtain ⟨b3, g3⟩ : ∃ z, z = h0.size := ⟨_, rfl⟩
  rw [← g3] at A3 D3 st3
  have F_deadlineNanos_b3 : Fld Z h3 b3 "com/example/measured_commit/measuredcommit/Deadline" "deadlineNanos" "J" (.long (0 : Int64)) := D3 (Or.inr (hw _ (List.mem_of_getElem? (i := 20) rfl))) (ty := .long) (by decide)
  have F_timeoutSeconds_b3 : Fld Z h3 b3 "com/example/measured_commit/measuredcommit/Deadline" "timeoutSeconds" "I" (.int (0 : Int32)) := D3 (Or.inr (hw _ (List.mem_of_getElem? (i := 22) rfl))) (ty := .int) (by decide)
  have E_b3 := A3
  have g_b3 : n0 ≤ b3 := Nat.le_trans Z0 (Nat.le_of_eq g3.symm)
  have sz_b3 : h0.size ≤ b3 := (Nat.le_trans (Keep.refl h0 []).1 (Nat.le_of_eq g3.symm))
  have K3 : Keep h0 h3 [] := (Keep.refl h0 []).ext E3
  obtain ⟨_, _, ⟨T4, L4, k4, n4⟩, -, X4, ⟨Lc4, hQ4, l4, y4, z4⟩, st4⟩ := Jvm.LawKit.callS X3 hx (y := (⟨"com/example/measured_commit/measuredcommit/TransactionSettings", "requireTimeout", "(I)I"⟩ : MethodName)) hown (mvT hZ (hw _ (List.mem_of_getElem? (i := 8) rfl))) (mvT hZ (hw _ (List.mem_of_getElem? (i := 9) rfl))) (mvT hZ (hw _ (List.mem_of_getElem? (i := 10) rfl))) (mvT hZ (hw _ (List.mem_of_getElem? (i := 11) rfl))) (by decide) (backOf (W := 4) (own_rm2 l Z a0 hw [] p2 h3 n0 (Nat.le_trans Z0 E3.1) hpos) hZ (hw _ (List.mem_of_getElem? (i := 11) rfl)) (hw _ (List.mem_of_getElem? (i := 10) rfl)) (by decide) (by decide)) (g := (mkF m 6 #[.val (.long q1), .second, .val (.int p2)] [(.int p2), (.long q1), (.ref b3), (.ref b3)])) rfl (by rw [hml]; rfl) (argsL := [(.int p2)]) (rest := [(.long q1), (.ref b3), (.ref b3)]) (lenOf pd_1_1 rfl) rfl (by show 2 * 0 + _ ≤ _; exact Nat.le_of_eq rfl) (hb hby d1_6) (fun _ _ => ⟨rfl, e3, (by decide : 1 + 0 ≤ _), (by decide : 2 + 0 ≤ _)⟩)
  dsimp only [Pt.U, Pt.locs, Pt.cells, Pt.slots] at X4 l4 y4 z4 st4 hQ4
  subst l4 y4 z4
  obtain ⟨rfl, N4q, e4⟩ := hQ4
  subst e4
  have N4 := Fr.app N0 N4q
  obtain ⟨_, _, ⟨T5, L5, k5, n5⟩, -, X5, ⟨Lc5, hQ5, l5, y5, z5⟩, st5⟩ := X4.specialBack hx (y := (⟨"com/example/measured_commit/measuredcommit/Deadline", "<init>", "(JI)V"⟩ : MethodName)) rfl hown (mvT hZ (hw _ (List.mem_of_getElem? (i := 13) rfl))) (mvT hZ (hw _ (List.mem_of_getElem? (i := 14) rfl))) (mvT hZ (hw _ (List.mem_of_getElem? (i := 15) rfl))) (by decide) (backOf (W := 1) (rm3 l Z a0 hw [] b3 (q1 + (((own_f2_0 p2).toInt64) * (1000000000 : Int64))) p2 (.long (0 : Int64)) (.int (0 : Int32)) T4.heap n0 (Nat.le_trans Z0 E3.1) E_b3 F_deadlineNanos_b3 g_b3 F_timeoutSeconds_b3) hZ (hw _ (List.mem_of_getElem? (i := 15) rfl)) (hw _ (List.mem_of_getElem? (i := 4) rfl)) (by decide) (by decide)) (g := (mkF m 16 #[.val (.long q1), .second, .val (.int p2)] [(.int p2), (.long (q1 + (((own_f2_0 p2).toInt64) * (1000000000 : Int64)))), (.ref b3), (.ref b3)])) rfl (by rw [hml]; rfl) (Steps.refl _) (a := b3) (argsL := [(.long (q1 + (((own_f2_0 p2).toInt64) * (1000000000 : Int64)))), (.int p2)]) (rest := [(.ref b3)]) (lenOf pd_1_2 rfl) rfl (by show 2 * 0 + _ ≤ _; exact Nat.le_of_eq rfl) (hb hby d1_16) (fun _ _ => ⟨rfl, rfl, (by decide : 1 + 0 ≤ _), (by decide : 2 + 0 ≤ _)⟩)
  dsimp only [Pt.U, Pt.locs, Pt.cells, Pt.slots] at X5 l5 y5 z5 st5 hQ5
  subst l5 y5 z5
  obtain ⟨rfl, N5q, K5, E5, F51, F52⟩ := hQ5
  have N5 := Fr.app N4 N5q
  obtain ⟨fs, hr, hrun, hended, hW, hsame⟩ := X5.leave (v := some (.ref b3)) (fun h => by rw [Bd.returns] at h; cases h)
  refine ⟨_, _, pre0 _ ?_, hrun, hended, _, _, rfl, ?_, ⟨_, rfl⟩, hW, hsame.mono (by decide) (by decide)⟩
  · show Steps p.tables e below (s₁.setTop (mkF m 0 #[.val (.long q1), .second, .val (.int p2)] [])) _
    refine st3 _ ?_
    show Steps p.tables e below (T3.setTop (mkF m 3 #[.val (.long q1), .second, .val (.int p2)] [(.ref b3)])) _
    refine XS.dup X3.here hx rfl (hb hby d1_3) rfl rfl ?_
    show Steps p.tables e below (T3.setTop (mkF m 4 #[.val (.long q1), .second, .val (.int p2)] [(.ref b3), (.ref b3)])) _
    refine XS.lloadN X3.here hx rfl (hb hby d1_4) rfl ?_
    show Steps p.tables e below (T3.setTop (mkF m 5 #[.val (.long q1), .second, .val (.int p2)] [(.long q1), (.ref b3), (.ref b3)])) _
    refine XS.iloadN X3.here hx rfl (hb hby d1_5) rfl ?_
    show Steps p.tables e below (T3.setTop (mkF m 6 #[.val (.long q1), .second, .val (.int p2)] [(.int p2), (.long q1), (.ref b3), (.ref b3)])) _
    refine st4 _ ?_
    show Steps p.tables e below (T4.setTop (mkF m 9 #[.val (.long q1), .second, .val (.int p2)] [(.int (own_f2_0 p2)), (.long q1), (.ref b3), (.ref b3)])) _
    refine XS.i2l X4.here hx rfl (hb hby d1_9) rfl ?_
    show Steps p.tables e below (T4.setTop (mkF m 10 #[.val (.long q1), .second, .val (.int p2)] [(.long ((own_f2_0 p2).toInt64)), (.long q1), (.ref b3), (.ref b3)])) _
    refine X4.ldc2Long hx hown (mvT hZ (hw _ (List.mem_of_getElem? (i := 12) rfl))) (g := (mkF m 10 #[.val (.long q1), .second, .val (.int p2)] [(.long ((own_f2_0 p2).toInt64)), (.long q1), (.ref b3), (.ref b3)])) rfl (hb hby d1_10) _ ?_
    show Steps p.tables e below (T4.setTop (mkF m 13 #[.val (.long q1), .second, .val (.int p2)] [(.long (1000000000 : Int64)), (.long ((own_f2_0 p2).toInt64)), (.long q1), (.ref b3), (.ref b3)])) _
    refine XS.lmul X4.here hx rfl (hb hby d1_13) rfl ?_
    show Steps p.tables e below (T4.setTop (mkF m 14 #[.val (.long q1), .second, .val (.int p2)] [(.long (((own_f2_0 p2).toInt64) * (1000000000 : Int64))), (.long q1), (.ref b3), (.ref b3)])) _
    refine XS.ladd X4.here hx rfl (hb hby d1_14) rfl ?_
    show Steps p.tables e below (T4.setTop (mkF m 15 #[.val (.long q1), .second, .val (.int p2)] [(.long (q1 + (((own_f2_0 p2).toInt64) * (1000000000 : Int64)))), (.ref b3), (.ref b3)])) _
    refine XS.iloadN X4.here hx rfl (hb hby d1_15) rfl ?_
    show Steps p.tables e below (T4.setTop (mkF m 16 #[.val (.long q1), .second, .val (.int p2)] [(.int p2), (.long (q1 + (((own_f2_0 p2).toInt64) * (1000000000 : Int64)))), (.ref b3), (.ref b3)])) _
    refine st5.trans ?_
    show Steps p.tables e below (T5.setTop (mkF m 19 #[.val (.long q1), .second, .val (.int p2)] [(.ref b3)])) _
    jvm_step X5.here [X5.here.top, hx, (hb hby d1_19), X5.method', Bd.returns, Value.isRef, FieldType.isReference]
    first | (intro acts; rw [hr _ acts rfl rfl rfl]) | rw [hr _ _ rfl rfl rfl]
    exact Steps.refl _
  · show Q1 Z q1 p2 h0 n0 _ T5.heap _
    exact ⟨b3, rfl, N5, Nat.le_trans (Nat.le_trans Z0 E3.1) K5.1, E5, F51, F52⟩
/-! body 5: com/example/measured_commit/measuredcommit/Deadline.timeoutSeconds:()I -/
theorem own_d5_0 : decode prog_8_method_3_code 0 = .ok (.aload_n 0, 1) := by decide +kernel
theorem own_d5_1 : decode prog_8_method_3_code 1 = .ok (.getfield 13, 3) := by decide +kernel
theorem own_d5_4 : decode prog_8_method_3_code 4 = .ok (.ireturn, 1) := by decide +kernel
def own_f5_0 (w0 : Int32) : Int32 := w0
set_option maxRecDepth 65536 in
set_option maxHeartbeats 4000000 in
theorem own_l5_0 {p : Program} {l : Launch} {e : Env} {s : State} {m : MethodId} {args : Array Value} {below : List Frame} {meth : Method} {c : Code} {T : State} {locs : List Loc} {Z : State} {a0 : Array Value} {h0 : Heap} {n0 : Nat}
    (X : Stand p l e ({ frames := 0, cells := 0, slots := 0, locals := 0 } : Room) s m args below meth c T locs 0 0) (hx : p.tables.exec = Jvm.exec) (hZ : Z.Warmed39 s.vm) (hw : ∀ d ∈ tables_1, d.before a0 Z = true) (hby : c.code = prog_8_method_3_code) (hml : c.maxLocals = 1) (hown : s.vm.findClass "com/example/measured_commit/measuredcommit/Deadline" = some m.cls) (hret : meth.sig.returnType = some .int) (hlk : meth.locks = false) (e0 : T.heap = h0) (N : Fr n0 locs) (Z0 : n0 ≤ h0.size)
    (x0 : Addr) (w0 : Int32) {r : Int32} (hR : r = own_f5_0 w0) (F0 : Fld Z h0 x0 "com/example/measured_commit/measuredcommit/Deadline" "timeoutSeconds" "I" (.int w0)) : own_Go p e below s ({ frames := 0, cells := 0, slots := 0, locals := 0 } : Room).cells ({ frames := 0, cells := 0, slots := 0, locals := 0 } : Room).slots (own_QP (.int r) h0 n0) (T.setTop (mkF m 0 #[.val (.ref x0)] [])) := by
  unfold own_f5_0 at hR
  refine own_back (fun t k => XS.aloadN X.here hx rfl (hb hby own_d5_0) rfl rfl k) ?_
  show own_Go _ _ _ _ _ _ _ (T.setTop (mkF m 1 #[.val (.ref x0)] [(.ref x0)]))
  obtain ⟨T1, X1, e1, st1⟩ := getF X hx hZ hown (host := "") (Or.inl (hw _ (List.mem_of_getElem? (i := 21) rfl))) Via.refl e0 F0 (g := (mkF m 1 #[.val (.ref x0)] [(.ref x0)])) rfl rfl (hb hby own_d5_1)
  refine own_back (fun t k => st1 t k) ?_
  show own_Go _ _ _ _ _ _ _ (T1.setTop (mkF m 4 #[.val (.ref x0)] [(.int w0)]))
  subst hR
  exact own_retI X1 hx hret (hb hby own_d5_4) hlk ⟨rfl, N, e1⟩ (by decide) (by decide)
theorem own_pn5 : plainName "com/example/measured_commit/measuredcommit/Deadline" = true := by first | (simp [plainName, overriddenIn]; done) | decide +kernel
theorem own_ef5 (m : MethodId) (x0 : Addr) : entryFrame m #[(.ref x0)] 1 = mkF m 0 #[.val (.ref x0)] [] := by first | (simp [entryFrame, mkF, argsToLocals, Value.category]; done) | rfl
set_option maxRecDepth 65536 in
set_option maxHeartbeats 4000000 in
theorem own_rm5 (l : Launch) (Z : State) (a0 : Array Value) (hw : ∀ d ∈ tables_1, d.before a0 Z = true) (ws : List Jvm.Cond) (x0 : Addr) (w0 : Int32) (h0 : Heap) (n0 : Nat) (Z0 : n0 ≤ h0.size) (F0 : Fld Z h0 x0 "com/example/measured_commit/measuredcommit/Deadline" "timeoutSeconds" "I" (.int w0)) :
    MetFree l (⟨"com/example/measured_commit/measuredcommit/Deadline", "timeoutSeconds", "()I"⟩ : MethodName) (head1 (Jvm.Cond.code (⟨"com/example/measured_commit/measuredcommit/Deadline", "timeoutSeconds", "()I"⟩ : MethodName) prog_8_method_3_code 1 (some .int) :: ws) ({ frames := 0, cells := 0, slots := 0, locals := 0 } : Room)) (fun a U => a = #[(.ref x0)] ∧ Z.Warmed39 U.vm ∧ U.heap = h0) (fun _ _ _ _ _ => True) (fun _ U o U' => ∃ v L, o = .returned v ∧ own_QP (.int (own_f5_0 w0)) h0 n0 v U'.heap L ∧ FrameEnd U o U' L ({ frames := 0, cells := 0, slots := 0, locals := 0 } : Room).cells ({ frames := 0, cells := 0, slots := 0, locals := 0 } : Room).slots) := by
  refine MetFree.of_bodySF (plainFor_of_name own_pn5) hisR ?_
  intro p e s m args below meth c s₁ Bd hml0 hP hK
  obtain ⟨rfl, hZ, hh⟩ := hP
  have X0 : Stand p l e ({ frames := 0, cells := 0, slots := 0, locals := 0 } : Room) s m #[(.ref x0)] below meth c s₁ [] 0 0 := Stand.of_body Bd
  have e0 : s₁.heap = h0 := by rw [← hh, Bd.state]; rfl
  refine own_back (s := s) (fun t k => castTop (own_ef5 m x0) k) ?_
  exact own_l5_0 X0 Bd.exec hZ hw Bd.bytes hml0 (findClass_of_methodNamed Bd.named) Bd.returns (BodyLoose.notSynchronized Bd) e0 (Fr.nil n0) Z0 x0 w0 rfl F0
/-! body 6: com/example/measured_commit/measuredcommit/Deadline.hasPassed:(J)Z -/
theorem own_d6_0 : decode prog_8_method_5_code 0 = .ok (.aload_n 0, 1) := by decide +kernel
theorem own_d6_1 : decode prog_8_method_5_code 1 = .ok (.getfield 7, 3) := by decide +kernel
theorem own_d6_4 : decode prog_8_method_5_code 4 = .ok (.lload_n 1, 1) := by decide +kernel
theorem own_d6_5 : decode prog_8_method_5_code 5 = .ok (.lsub, 1) := by decide +kernel
theorem own_d6_6 : decode prog_8_method_5_code 6 = .ok (.lconst 0, 1) := by decide +kernel
theorem own_d6_7 : decode prog_8_method_5_code 7 = .ok (.lcmp, 1) := by decide +kernel
theorem own_d6_8 : decode prog_8_method_5_code 8 = .ok (.ifCond .gt 7, 3) := by decide +kernel
theorem own_d6_11 : decode prog_8_method_5_code 11 = .ok (.iconst 1, 1) := by decide +kernel
theorem own_d6_12 : decode prog_8_method_5_code 12 = .ok (.goto 4, 3) := by decide +kernel
theorem own_d6_15 : decode prog_8_method_5_code 15 = .ok (.iconst 0, 1) := by decide +kernel
theorem own_d6_16 : decode prog_8_method_5_code 16 = .ok (.ireturn, 1) := by decide +kernel
def own_f6_0 (w0 : Int64) (x1 : Int64) : Int32 := (if (0 : Int32) < (lcmpW (w0 - x1) (0 : Int64)) then (0 : Int32) else (1 : Int32))
set_option maxRecDepth 65536 in
set_option maxHeartbeats 4000000 in
theorem own_l6_0 {p : Program} {l : Launch} {e : Env} {s : State} {m : MethodId} {args : Array Value} {below : List Frame} {meth : Method} {c : Code} {T : State} {locs : List Loc} {Z : State} {a0 : Array Value} {h0 : Heap} {n0 : Nat}
    (X : Stand p l e ({ frames := 0, cells := 0, slots := 0, locals := 0 } : Room) s m args below meth c T locs 0 0) (hx : p.tables.exec = Jvm.exec) (hZ : Z.Warmed39 s.vm) (hw : ∀ d ∈ tables_1, d.before a0 Z = true) (hby : c.code = prog_8_method_5_code) (hml : c.maxLocals = 3) (hown : s.vm.findClass "com/example/measured_commit/measuredcommit/Deadline" = some m.cls) (hret : meth.sig.returnType = some .boolean) (hlk : meth.locks = false) (e0 : T.heap = h0) (N : Fr n0 locs) (Z0 : n0 ≤ h0.size)
    (x0 : Addr) (w0 : Int64) (x1 : Int64) {r : Int32} (hR : r = own_f6_0 w0 x1) (F0 : Fld Z h0 x0 "com/example/measured_commit/measuredcommit/Deadline" "deadlineNanos" "J" (.long w0)) : own_Go p e below s ({ frames := 0, cells := 0, slots := 0, locals := 0 } : Room).cells ({ frames := 0, cells := 0, slots := 0, locals := 0 } : Room).slots (own_QP (.int r) h0 n0) (T.setTop (mkF m 0 #[.val (.ref x0), .val (.long x1), .second] [])) := by
  unfold own_f6_0 at hR
  refine own_back (fun t k => XS.aloadN X.here hx rfl (hb hby own_d6_0) rfl rfl k) ?_
  show own_Go _ _ _ _ _ _ _ (T.setTop (mkF m 1 #[.val (.ref x0), .val (.long x1), .second] [(.ref x0)]))
  obtain ⟨T1, X1, e1, st1⟩ := getF X hx hZ hown (host := "") (Or.inl (hw _ (List.mem_of_getElem? (i := 19) rfl))) Via.refl e0 F0 (g := (mkF m 1 #[.val (.ref x0), .val (.long x1), .second] [(.ref x0)])) rfl rfl (hb hby own_d6_1)
  refine own_back (fun t k => st1 t k) ?_
  show own_Go _ _ _ _ _ _ _ (T1.setTop (mkF m 4 #[.val (.ref x0), .val (.long x1), .second] [(.long w0)]))
  refine own_back (fun t k => XS.lloadN X1.here hx rfl (hb hby own_d6_4) rfl k) ?_
  show own_Go _ _ _ _ _ _ _ (T1.setTop (mkF m 5 #[.val (.ref x0), .val (.long x1), .second] [(.long x1), (.long w0)]))
  refine own_back (fun t k => XS.lsub X1.here hx rfl (hb hby own_d6_5) rfl k) ?_
  show own_Go _ _ _ _ _ _ _ (T1.setTop (mkF m 6 #[.val (.ref x0), .val (.long x1), .second] [(.long (w0 - x1))]))
  refine own_back (fun t k => XS.lconst X1.here hx rfl (hb hby own_d6_6) k) ?_
  show own_Go _ _ _ _ _ _ _ (T1.setTop (mkF m 7 #[.val (.ref x0), .val (.long x1), .second] [(.long (0 : Int64)), (.long (w0 - x1))]))
  refine own_back (fun t k => XS.lcmp X1.here hx rfl (hb hby own_d6_7) rfl k) ?_
  show own_Go _ _ _ _ _ _ _ (T1.setTop (mkF m 8 #[.val (.ref x0), .val (.long x1), .second] [(.int (lcmpW (w0 - x1) (0 : Int64)))]))
  by_cases hc8 : (0 : Int32) < (lcmpW (w0 - x1) (0 : Int64))
  · rw [if_pos hc8] at hR
    refine own_back (fun t k => XS.ifYes X1.here hx rfl (pc0 := 8) (pc' := 15) rfl (hb hby own_d6_8) rfl ((if0 _ _).trans (tlt hc8).2.2.1) (by decide) (by decide) k) ?_
    show own_Go _ _ _ _ _ _ _ (T1.setTop (mkF m 15 #[.val (.ref x0), .val (.long x1), .second] []))
    refine own_back (fun t k => XS.iconst X1.here hx rfl (hb hby own_d6_15) k) ?_
    show own_Go _ _ _ _ _ _ _ (T1.setTop (mkF m 16 #[.val (.ref x0), .val (.long x1), .second] [(.int (0 : Int32))]))
    subst hR
    exact own_retN X1 hx (t := .boolean) hret (by simp) (hb hby own_d6_16) hlk (by decide) ⟨rfl, N, e1⟩ (by decide) (by decide)
  · rw [if_neg hc8] at hR
    refine own_back (fun t k => XS.ifNo X1.here hx rfl (hb hby own_d6_8) rfl ((if0 _ _).trans (flt hc8).2.2.1) k) ?_
    show own_Go _ _ _ _ _ _ _ (T1.setTop (mkF m 11 #[.val (.ref x0), .val (.long x1), .second] []))
    refine own_back (fun t k => XS.iconst X1.here hx rfl (hb hby own_d6_11) k) ?_
    show own_Go _ _ _ _ _ _ _ (T1.setTop (mkF m 12 #[.val (.ref x0), .val (.long x1), .second] [(.int (1 : Int32))]))
    refine own_back (fun t k => XS.goto X1.here hx rfl (pc0 := 12) (pc' := 16) rfl (hb hby own_d6_12) (by decide) (by decide) k) ?_
    show own_Go _ _ _ _ _ _ _ (T1.setTop (mkF m 16 #[.val (.ref x0), .val (.long x1), .second] [(.int (1 : Int32))]))
    subst hR
    exact own_retN X1 hx (t := .boolean) hret (by simp) (hb hby own_d6_16) hlk (by decide) ⟨rfl, N, e1⟩ (by decide) (by decide)
theorem own_pn6 : plainName "com/example/measured_commit/measuredcommit/Deadline" = true := by first | (simp [plainName, overriddenIn]; done) | decide +kernel
theorem own_ef6 (m : MethodId) (x0 : Addr) (x1 : Int64) : entryFrame m #[(.ref x0), (.long x1)] 3 = mkF m 0 #[.val (.ref x0), .val (.long x1), .second] [] := by first | (simp [entryFrame, mkF, argsToLocals, Value.category]; done) | rfl
set_option maxRecDepth 65536 in
set_option maxHeartbeats 4000000 in
theorem own_rm6 (l : Launch) (Z : State) (a0 : Array Value) (hw : ∀ d ∈ tables_1, d.before a0 Z = true) (ws : List Jvm.Cond) (x0 : Addr) (x1 : Int64) (w0 : Int64) (h0 : Heap) (n0 : Nat) (Z0 : n0 ≤ h0.size) (F0 : Fld Z h0 x0 "com/example/measured_commit/measuredcommit/Deadline" "deadlineNanos" "J" (.long w0)) :
    MetFree l (⟨"com/example/measured_commit/measuredcommit/Deadline", "hasPassed", "(J)Z"⟩ : MethodName) (head1 (Jvm.Cond.code (⟨"com/example/measured_commit/measuredcommit/Deadline", "hasPassed", "(J)Z"⟩ : MethodName) prog_8_method_5_code 3 (some .boolean) :: ws) ({ frames := 0, cells := 0, slots := 0, locals := 0 } : Room)) (fun a U => a = #[(.ref x0), (.long x1)] ∧ Z.Warmed39 U.vm ∧ U.heap = h0) (fun _ _ _ _ _ => True) (fun _ U o U' => ∃ v L, o = .returned v ∧ own_QP (.int (own_f6_0 w0 x1)) h0 n0 v U'.heap L ∧ FrameEnd U o U' L ({ frames := 0, cells := 0, slots := 0, locals := 0 } : Room).cells ({ frames := 0, cells := 0, slots := 0, locals := 0 } : Room).slots) := by
  refine MetFree.of_bodySF (plainFor_of_name own_pn6) hisR ?_
  intro p e s m args below meth c s₁ Bd hml0 hP hK
  obtain ⟨rfl, hZ, hh⟩ := hP
  have X0 : Stand p l e ({ frames := 0, cells := 0, slots := 0, locals := 0 } : Room) s m #[(.ref x0), (.long x1)] below meth c s₁ [] 0 0 := Stand.of_body Bd
  have e0 : s₁.heap = h0 := by rw [← hh, Bd.state]; rfl
  refine own_back (s := s) (fun t k => castTop (own_ef6 m x0 x1) k) ?_
  exact own_l6_0 X0 Bd.exec hZ hw Bd.bytes hml0 (findClass_of_methodNamed Bd.named) Bd.returns (BodyLoose.notSynchronized Bd) e0 (Fr.nil n0) Z0 x0 w0 x1 rfl F0
/-! body 7: com/example/measured_commit/measuredcommit/Deadline.queryTimeoutSeconds:(JI)I -/
theorem own_d7_0 : decode prog_8_method_6_code 0 = .ok (.iload_n 3, 1) := by decide +kernel
theorem own_d7_1 : decode prog_8_method_6_code 1 = .ok (.ifCond .ge 17, 3) := by decide +kernel
theorem own_d7_18 : decode prog_8_method_6_code 18 = .ok (.aload_n 0, 1) := by decide +kernel
theorem own_d7_19 : decode prog_8_method_6_code 19 = .ok (.getfield 7, 3) := by decide +kernel
theorem own_d7_22 : decode prog_8_method_6_code 22 = .ok (.lload_n 1, 1) := by decide +kernel
theorem own_d7_23 : decode prog_8_method_6_code 23 = .ok (.lsub, 1) := by decide +kernel
theorem own_d7_24 : decode prog_8_method_6_code 24 = .ok (.lstore 4, 2) := by decide +kernel
theorem own_d7_26 : decode prog_8_method_6_code 26 = .ok (.lload 4, 2) := by decide +kernel
theorem own_d7_28 : decode prog_8_method_6_code 28 = .ok (.lconst 0, 1) := by decide +kernel
theorem own_d7_29 : decode prog_8_method_6_code 29 = .ok (.lcmp, 1) := by decide +kernel
theorem own_d7_30 : decode prog_8_method_6_code 30 = .ok (.ifCond .gt 19, 3) := by decide +kernel
theorem own_d7_49 : decode prog_8_method_6_code 49 = .ok (.lload 4, 2) := by decide +kernel
theorem own_d7_51 : decode prog_8_method_6_code 51 = .ok (.ldc2_w 23, 3) := by decide +kernel
theorem own_d7_54 : decode prog_8_method_6_code 54 = .ok (.ladd, 1) := by decide +kernel
theorem own_d7_55 : decode prog_8_method_6_code 55 = .ok (.lconst 1, 1) := by decide +kernel
theorem own_d7_56 : decode prog_8_method_6_code 56 = .ok (.lsub, 1) := by decide +kernel
theorem own_d7_57 : decode prog_8_method_6_code 57 = .ok (.ldc2_w 23, 3) := by decide +kernel
theorem own_d7_60 : decode prog_8_method_6_code 60 = .ok (.ldiv, 1) := by decide +kernel
theorem own_d7_61 : decode prog_8_method_6_code 61 = .ok (.l2i, 1) := by decide +kernel
theorem own_d7_62 : decode prog_8_method_6_code 62 = .ok (.istore 6, 2) := by decide +kernel
theorem own_d7_64 : decode prog_8_method_6_code 64 = .ok (.iload_n 3, 1) := by decide +kernel
theorem own_d7_65 : decode prog_8_method_6_code 65 = .ok (.ifCond .ne 10, 3) := by decide +kernel
theorem own_d7_68 : decode prog_8_method_6_code 68 = .ok (.iload 6, 2) := by decide +kernel
theorem own_d7_70 : decode prog_8_method_6_code 70 = .ok (.istore 7, 2) := by decide +kernel
theorem own_d7_72 : decode prog_8_method_6_code 72 = .ok (.goto 11, 3) := by decide +kernel
theorem own_d7_83 : decode prog_8_method_6_code 83 = .ok (.iload 7, 2) := by decide +kernel
theorem own_d7_85 : decode prog_8_method_6_code 85 = .ok (.ireturn, 1) := by decide +kernel
def own_f7_0 (w0 : Int64) (x1 : Int64) (x2 : Int32) : Int32 := (((((w0 - x1) + (1000000000 : Int64)) - (1 : Int64)) / (1000000000 : Int64)).toInt32)
set_option maxRecDepth 65536 in
set_option maxHeartbeats 4000000 in
theorem own_l7_0 {p : Program} {l : Launch} {e : Env} {s : State} {m : MethodId} {args : Array Value} {below : List Frame} {meth : Method} {c : Code} {T : State} {locs : List Loc} {Z : State} {a0 : Array Value} {h0 : Heap} {n0 : Nat}
    (X : Stand p l e ({ frames := 0, cells := 0, slots := 0, locals := 0 } : Room) s m args below meth c T locs 0 0) (hx : p.tables.exec = Jvm.exec) (hZ : Z.Warmed39 s.vm) (hw : ∀ d ∈ tables_1, d.before a0 Z = true) (hby : c.code = prog_8_method_6_code) (hml : c.maxLocals = 8) (hown : s.vm.findClass "com/example/measured_commit/measuredcommit/Deadline" = some m.cls) (hret : meth.sig.returnType = some .int) (hlk : meth.locks = false) (e0 : T.heap = h0) (N : Fr n0 locs) (Z0 : n0 ≤ h0.size)
    (x0 : Addr) (w0 : Int64) (x1 : Int64) (x2 : Int32) {r : Int32} (hR : r = own_f7_0 w0 x1 x2) (F0 : Fld Z h0 x0 "com/example/measured_commit/measuredcommit/Deadline" "deadlineNanos" "J" (.long w0)) (hp1 : ¬ (x2 < (0 : Int32))) (hp30 : (0 : Int32) < (lcmpW (w0 - x1) (0 : Int64))) (hp65 : x2 = (0 : Int32)) : own_Go p e below s ({ frames := 0, cells := 0, slots := 0, locals := 0 } : Room).cells ({ frames := 0, cells := 0, slots := 0, locals := 0 } : Room).slots (own_QP (.int r) h0 n0) (T.setTop (mkF m 0 #[.val (.ref x0), .val (.long x1), .second, .val (.int x2), .unset, .unset, .unset, .unset] [])) := by
  unfold own_f7_0 at hR
  refine own_back (fun t k => XS.iloadN X.here hx rfl (hb hby own_d7_0) rfl k) ?_
  show own_Go _ _ _ _ _ _ _ (T.setTop (mkF m 1 #[.val (.ref x0), .val (.long x1), .second, .val (.int x2), .unset, .unset, .unset, .unset] [(.int x2)]))
  refine own_back (fun t k => XS.ifYes X.here hx rfl (pc0 := 1) (pc' := 18) rfl (hb hby own_d7_1) rfl ((if0 _ _).trans (flt hp1).2.1) (by decide) (by decide) k) ?_
  show own_Go _ _ _ _ _ _ _ (T.setTop (mkF m 18 #[.val (.ref x0), .val (.long x1), .second, .val (.int x2), .unset, .unset, .unset, .unset] []))
  refine own_back (fun t k => XS.aloadN X.here hx rfl (hb hby own_d7_18) rfl rfl k) ?_
  show own_Go _ _ _ _ _ _ _ (T.setTop (mkF m 19 #[.val (.ref x0), .val (.long x1), .second, .val (.int x2), .unset, .unset, .unset, .unset] [(.ref x0)]))
  obtain ⟨T1, X1, e1, st1⟩ := getF X hx hZ hown (host := "") (Or.inl (hw _ (List.mem_of_getElem? (i := 19) rfl))) Via.refl e0 F0 (g := (mkF m 19 #[.val (.ref x0), .val (.long x1), .second, .val (.int x2), .unset, .unset, .unset, .unset] [(.ref x0)])) rfl rfl (hb hby own_d7_19)
  refine own_back (fun t k => st1 t k) ?_
  show own_Go _ _ _ _ _ _ _ (T1.setTop (mkF m 22 #[.val (.ref x0), .val (.long x1), .second, .val (.int x2), .unset, .unset, .unset, .unset] [(.long w0)]))
  refine own_back (fun t k => XS.lloadN X1.here hx rfl (hb hby own_d7_22) rfl k) ?_
  show own_Go _ _ _ _ _ _ _ (T1.setTop (mkF m 23 #[.val (.ref x0), .val (.long x1), .second, .val (.int x2), .unset, .unset, .unset, .unset] [(.long x1), (.long w0)]))
  refine own_back (fun t k => XS.lsub X1.here hx rfl (hb hby own_d7_23) rfl k) ?_
  show own_Go _ _ _ _ _ _ _ (T1.setTop (mkF m 24 #[.val (.ref x0), .val (.long x1), .second, .val (.int x2), .unset, .unset, .unset, .unset] [(.long (w0 - x1))]))
  refine own_back (fun t k => XS.lstore X1.here hx rfl (hb hby own_d7_24) rfl (l' := #[.val (.ref x0), .val (.long x1), .second, .val (.int x2), .val (.long (w0 - x1)), .second, .unset, .unset]) rfl k) ?_
  show own_Go _ _ _ _ _ _ _ (T1.setTop (mkF m 26 #[.val (.ref x0), .val (.long x1), .second, .val (.int x2), .val (.long (w0 - x1)), .second, .unset, .unset] []))
  refine own_back (fun t k => XS.lload X1.here hx rfl (hb hby own_d7_26) rfl k) ?_
  show own_Go _ _ _ _ _ _ _ (T1.setTop (mkF m 28 #[.val (.ref x0), .val (.long x1), .second, .val (.int x2), .val (.long (w0 - x1)), .second, .unset, .unset] [(.long (w0 - x1))]))
  refine own_back (fun t k => XS.lconst X1.here hx rfl (hb hby own_d7_28) k) ?_
  show own_Go _ _ _ _ _ _ _ (T1.setTop (mkF m 29 #[.val (.ref x0), .val (.long x1), .second, .val (.int x2), .val (.long (w0 - x1)), .second, .unset, .unset] [(.long (0 : Int64)), (.long (w0 - x1))]))
  refine own_back (fun t k => XS.lcmp X1.here hx rfl (hb hby own_d7_29) rfl k) ?_
  show own_Go _ _ _ _ _ _ _ (T1.setTop (mkF m 30 #[.val (.ref x0), .val (.long x1), .second, .val (.int x2), .val (.long (w0 - x1)), .second, .unset, .unset] [(.int (lcmpW (w0 - x1) (0 : Int64)))]))
  refine own_back (fun t k => XS.ifYes X1.here hx rfl (pc0 := 30) (pc' := 49) rfl (hb hby own_d7_30) rfl ((if0 _ _).trans (tlt hp30).2.2.1) (by decide) (by decide) k) ?_
  show own_Go _ _ _ _ _ _ _ (T1.setTop (mkF m 49 #[.val (.ref x0), .val (.long x1), .second, .val (.int x2), .val (.long (w0 - x1)), .second, .unset, .unset] []))
  refine own_back (fun t k => XS.lload X1.here hx rfl (hb hby own_d7_49) rfl k) ?_
  show own_Go _ _ _ _ _ _ _ (T1.setTop (mkF m 51 #[.val (.ref x0), .val (.long x1), .second, .val (.int x2), .val (.long (w0 - x1)), .second, .unset, .unset] [(.long (w0 - x1))]))
  refine own_back (fun t k => X1.ldc2Long hx hown (mvT hZ (hw _ (List.mem_of_getElem? (i := 12) rfl))) (g := (mkF m 51 #[.val (.ref x0), .val (.long x1), .second, .val (.int x2), .val (.long (w0 - x1)), .second, .unset, .unset] [(.long (w0 - x1))])) rfl (hb hby own_d7_51) _ k) ?_
  show own_Go _ _ _ _ _ _ _ (T1.setTop (mkF m 54 #[.val (.ref x0), .val (.long x1), .second, .val (.int x2), .val (.long (w0 - x1)), .second, .unset, .unset] [(.long (1000000000 : Int64)), (.long (w0 - x1))]))
  refine own_back (fun t k => XS.ladd X1.here hx rfl (hb hby own_d7_54) rfl k) ?_
  show own_Go _ _ _ _ _ _ _ (T1.setTop (mkF m 55 #[.val (.ref x0), .val (.long x1), .second, .val (.int x2), .val (.long (w0 - x1)), .second, .unset, .unset] [(.long ((w0 - x1) + (1000000000 : Int64)))]))
  refine own_back (fun t k => XS.lconst X1.here hx rfl (hb hby own_d7_55) k) ?_
  show own_Go _ _ _ _ _ _ _ (T1.setTop (mkF m 56 #[.val (.ref x0), .val (.long x1), .second, .val (.int x2), .val (.long (w0 - x1)), .second, .unset, .unset] [(.long (1 : Int64)), (.long ((w0 - x1) + (1000000000 : Int64)))]))
  refine own_back (fun t k => XS.lsub X1.here hx rfl (hb hby own_d7_56) rfl k) ?_
  show own_Go _ _ _ _ _ _ _ (T1.setTop (mkF m 57 #[.val (.ref x0), .val (.long x1), .second, .val (.int x2), .val (.long (w0 - x1)), .second, .unset, .unset] [(.long (((w0 - x1) + (1000000000 : Int64)) - (1 : Int64)))]))
  refine own_back (fun t k => X1.ldc2Long hx hown (mvT hZ (hw _ (List.mem_of_getElem? (i := 12) rfl))) (g := (mkF m 57 #[.val (.ref x0), .val (.long x1), .second, .val (.int x2), .val (.long (w0 - x1)), .second, .unset, .unset] [(.long (((w0 - x1) + (1000000000 : Int64)) - (1 : Int64)))])) rfl (hb hby own_d7_57) _ k) ?_
  show own_Go _ _ _ _ _ _ _ (T1.setTop (mkF m 60 #[.val (.ref x0), .val (.long x1), .second, .val (.int x2), .val (.long (w0 - x1)), .second, .unset, .unset] [(.long (1000000000 : Int64)), (.long (((w0 - x1) + (1000000000 : Int64)) - (1 : Int64)))]))
  refine own_back (fun t k => XS.ldiv X1.here hx rfl (hb hby own_d7_60) rfl (by decide) k) ?_
  show own_Go _ _ _ _ _ _ _ (T1.setTop (mkF m 61 #[.val (.ref x0), .val (.long x1), .second, .val (.int x2), .val (.long (w0 - x1)), .second, .unset, .unset] [(.long ((((w0 - x1) + (1000000000 : Int64)) - (1 : Int64)) / (1000000000 : Int64)))]))
  refine own_back (fun t k => XS.l2i X1.here hx rfl (hb hby own_d7_61) rfl k) ?_
  show own_Go _ _ _ _ _ _ _ (T1.setTop (mkF m 62 #[.val (.ref x0), .val (.long x1), .second, .val (.int x2), .val (.long (w0 - x1)), .second, .unset, .unset] [(.int (((((w0 - x1) + (1000000000 : Int64)) - (1 : Int64)) / (1000000000 : Int64)).toInt32))]))
  refine own_back (fun t k => XS.istore X1.here hx rfl (hb hby own_d7_62) rfl (l' := #[.val (.ref x0), .val (.long x1), .second, .val (.int x2), .val (.long (w0 - x1)), .second, .val (.int (((((w0 - x1) + (1000000000 : Int64)) - (1 : Int64)) / (1000000000 : Int64)).toInt32)), .unset]) rfl k) ?_
  show own_Go _ _ _ _ _ _ _ (T1.setTop (mkF m 64 #[.val (.ref x0), .val (.long x1), .second, .val (.int x2), .val (.long (w0 - x1)), .second, .val (.int (((((w0 - x1) + (1000000000 : Int64)) - (1 : Int64)) / (1000000000 : Int64)).toInt32)), .unset] []))
  refine own_back (fun t k => XS.iloadN X1.here hx rfl (hb hby own_d7_64) rfl k) ?_
  show own_Go _ _ _ _ _ _ _ (T1.setTop (mkF m 65 #[.val (.ref x0), .val (.long x1), .second, .val (.int x2), .val (.long (w0 - x1)), .second, .val (.int (((((w0 - x1) + (1000000000 : Int64)) - (1 : Int64)) / (1000000000 : Int64)).toInt32)), .unset] [(.int x2)]))
  refine own_back (fun t k => XS.ifNo X1.here hx rfl (hb hby own_d7_65) rfl ((if0 _ _).trans (teq hp65).2) k) ?_
  show own_Go _ _ _ _ _ _ _ (T1.setTop (mkF m 68 #[.val (.ref x0), .val (.long x1), .second, .val (.int x2), .val (.long (w0 - x1)), .second, .val (.int (((((w0 - x1) + (1000000000 : Int64)) - (1 : Int64)) / (1000000000 : Int64)).toInt32)), .unset] []))
  refine own_back (fun t k => XS.iload X1.here hx rfl (hb hby own_d7_68) rfl k) ?_
  show own_Go _ _ _ _ _ _ _ (T1.setTop (mkF m 70 #[.val (.ref x0), .val (.long x1), .second, .val (.int x2), .val (.long (w0 - x1)), .second, .val (.int (((((w0 - x1) + (1000000000 : Int64)) - (1 : Int64)) / (1000000000 : Int64)).toInt32)), .unset] [(.int (((((w0 - x1) + (1000000000 : Int64)) - (1 : Int64)) / (1000000000 : Int64)).toInt32))]))
  refine own_back (fun t k => XS.istore X1.here hx rfl (hb hby own_d7_70) rfl (l' := #[.val (.ref x0), .val (.long x1), .second, .val (.int x2), .val (.long (w0 - x1)), .second, .val (.int (((((w0 - x1) + (1000000000 : Int64)) - (1 : Int64)) / (1000000000 : Int64)).toInt32)), .val (.int (((((w0 - x1) + (1000000000 : Int64)) - (1 : Int64)) / (1000000000 : Int64)).toInt32))]) rfl k) ?_
  show own_Go _ _ _ _ _ _ _ (T1.setTop (mkF m 72 #[.val (.ref x0), .val (.long x1), .second, .val (.int x2), .val (.long (w0 - x1)), .second, .val (.int (((((w0 - x1) + (1000000000 : Int64)) - (1 : Int64)) / (1000000000 : Int64)).toInt32)), .val (.int (((((w0 - x1) + (1000000000 : Int64)) - (1 : Int64)) / (1000000000 : Int64)).toInt32))] []))
  refine own_back (fun t k => XS.goto X1.here hx rfl (pc0 := 72) (pc' := 83) rfl (hb hby own_d7_72) (by decide) (by decide) k) ?_
  show own_Go _ _ _ _ _ _ _ (T1.setTop (mkF m 83 #[.val (.ref x0), .val (.long x1), .second, .val (.int x2), .val (.long (w0 - x1)), .second, .val (.int (((((w0 - x1) + (1000000000 : Int64)) - (1 : Int64)) / (1000000000 : Int64)).toInt32)), .val (.int (((((w0 - x1) + (1000000000 : Int64)) - (1 : Int64)) / (1000000000 : Int64)).toInt32))] []))
  refine own_back (fun t k => XS.iload X1.here hx rfl (hb hby own_d7_83) rfl k) ?_
  show own_Go _ _ _ _ _ _ _ (T1.setTop (mkF m 85 #[.val (.ref x0), .val (.long x1), .second, .val (.int x2), .val (.long (w0 - x1)), .second, .val (.int (((((w0 - x1) + (1000000000 : Int64)) - (1 : Int64)) / (1000000000 : Int64)).toInt32)), .val (.int (((((w0 - x1) + (1000000000 : Int64)) - (1 : Int64)) / (1000000000 : Int64)).toInt32))] [(.int (((((w0 - x1) + (1000000000 : Int64)) - (1 : Int64)) / (1000000000 : Int64)).toInt32))]))
  subst hR
  exact own_retI X1 hx hret (hb hby own_d7_85) hlk ⟨rfl, N, e1⟩ (by decide) (by decide)
theorem own_pn7 : plainName "com/example/measured_commit/measuredcommit/Deadline" = true := by first | (simp [plainName, overriddenIn]; done) | decide +kernel
theorem own_ef7 (m : MethodId) (x0 : Addr) (x1 : Int64) (x2 : Int32) : entryFrame m #[(.ref x0), (.long x1), (.int x2)] 8 = mkF m 0 #[.val (.ref x0), .val (.long x1), .second, .val (.int x2), .unset, .unset, .unset, .unset] [] := by first | (simp [entryFrame, mkF, argsToLocals, Value.category]; done) | rfl
set_option maxRecDepth 65536 in
set_option maxHeartbeats 4000000 in
theorem own_rm7 (l : Launch) (Z : State) (a0 : Array Value) (hw : ∀ d ∈ tables_1, d.before a0 Z = true) (ws : List Jvm.Cond) (x0 : Addr) (x1 : Int64) (x2 : Int32) (w0 : Int64) (h0 : Heap) (n0 : Nat) (Z0 : n0 ≤ h0.size) (F0 : Fld Z h0 x0 "com/example/measured_commit/measuredcommit/Deadline" "deadlineNanos" "J" (.long w0)) (hp1 : ¬ (x2 < (0 : Int32))) (hp30 : (0 : Int32) < (lcmpW (w0 - x1) (0 : Int64))) (hp65 : x2 = (0 : Int32)) :
    MetFree l (⟨"com/example/measured_commit/measuredcommit/Deadline", "queryTimeoutSeconds", "(JI)I"⟩ : MethodName) (head1 (Jvm.Cond.code (⟨"com/example/measured_commit/measuredcommit/Deadline", "queryTimeoutSeconds", "(JI)I"⟩ : MethodName) prog_8_method_6_code 8 (some .int) :: ws) ({ frames := 0, cells := 0, slots := 0, locals := 0 } : Room)) (fun a U => a = #[(.ref x0), (.long x1), (.int x2)] ∧ Z.Warmed39 U.vm ∧ U.heap = h0) (fun _ _ _ _ _ => True) (fun _ U o U' => ∃ v L, o = .returned v ∧ own_QP (.int (own_f7_0 w0 x1 x2)) h0 n0 v U'.heap L ∧ FrameEnd U o U' L ({ frames := 0, cells := 0, slots := 0, locals := 0 } : Room).cells ({ frames := 0, cells := 0, slots := 0, locals := 0 } : Room).slots) := by
  refine MetFree.of_bodySF (plainFor_of_name own_pn7) hisR ?_
  intro p e s m args below meth c s₁ Bd hml0 hP hK
  obtain ⟨rfl, hZ, hh⟩ := hP
  have X0 : Stand p l e ({ frames := 0, cells := 0, slots := 0, locals := 0 } : Room) s m #[(.ref x0), (.long x1), (.int x2)] below meth c s₁ [] 0 0 := Stand.of_body Bd
  have e0 : s₁.heap = h0 := by rw [← hh, Bd.state]; rfl
  refine own_back (s := s) (fun t k => castTop (own_ef7 m x0 x1 x2) k) ?_
  exact own_l7_0 X0 Bd.exec hZ hw Bd.bytes hml0 (findClass_of_methodNamed Bd.named) Bd.returns (BodyLoose.notSynchronized Bd) e0 (Fr.nil n0) Z0 x0 w0 x1 x2 rfl F0 hp1 hp30 hp65
theorem own_one (E : Int64) : (E - (E - 1)).toInt = 1 := by
  have a := c_lsub E 1
  have b := c_lsub E (E - 1)
  have r := rng64 (E - (E - 1))
  have z : (1 : Int64).toInt = 1 := rfl
  omega
theorem own_nil (E : Int64) : (E - E).toInt = 0 := by
  have b := c_lsub E E
  have r := rng64 (E - E)
  omega
theorem own_span (S : Int64) {t : Int32} (ht : (0 : Int32) < t) : ((S + (t.toInt64 * (1000000000 : Int64))) - S).toInt = t.toInt * 1000000000 := by
  have z : (0 : Int32).toInt = 0 := rfl
  have h := own_lt.mp ht
  have g := rng32 t
  have a : ((t.toInt64 * (1000000000 : Int64)).toInt - t.toInt64.toInt * 1000000000) % 18446744073709551616 = 0 := c_lmul t.toInt64 1000000000
  rw [c_i2l] at a
  have ra := rng64 (t.toInt64 * (1000000000 : Int64))
  have b := c_ladd S (t.toInt64 * (1000000000 : Int64))
  have c := c_lsub (S + (t.toInt64 * (1000000000 : Int64))) S
  have r := rng64 ((S + (t.toInt64 * (1000000000 : Int64))) - S)
  omega
theorem own_left (S : Int64) {t : Int32} (ht : (0 : Int32) < t) : 0 < ((S + (t.toInt64 * (1000000000 : Int64))) - S).toInt := by
  have z : (0 : Int32).toInt = 0 := rfl
  have h := own_lt.mp ht
  rw [own_span S ht]
  omega
theorem own_gt {x : Int64} (h : 0 < x.toInt) : (0 : Int32) < lcmpW x (0 : Int64) := (lw_gt _ _).mpr (Int64.lt_iff_toInt_lt.mpr h)
theorem own_hp0 (E : Int64) : own_f6_0 E (E - (1 : Int64)) = 0 := by
  unfold own_f6_0
  rw [if_pos (own_gt (by have := own_one E; omega))]
theorem own_hp1 (E : Int64) : ¬ own_f6_0 E E = 0 := by
  unfold own_f6_0
  rw [if_neg (fun q => by have := Int64.lt_iff_toInt_lt.mp ((lw_gt _ _).mp q); have z := own_nil E; have z0 : (0 : Int64).toInt = 0 := rfl; omega)]
  decide
theorem own_up (x : Int64) (h : 0 < x.toInt) (h' : x.toInt ≤ 2147483647000000000) : ((((x + (1000000000 : Int64)) - (1 : Int64)) / (1000000000 : Int64)).toInt32).toInt = (x.toInt + 999999999) / 1000000000 := by
  have z9 : (1000000000 : Int64).toInt = 1000000000 := rfl
  have z1 : (1 : Int64).toInt = 1 := rfl
  have a := c_ladd x 1000000000
  have ra := rng64 (x + 1000000000)
  have b := c_lsub (x + 1000000000) 1
  have rb := rng64 ((x + 1000000000) - 1)
  have e : ((x + 1000000000) - 1).toInt = x.toInt + 999999999 := by omega
  have d := (c_ldiv ((x + 1000000000) - 1) 1000000000 1000000000 rfl (by decide)).1 (by omega)
  have f := c_l2i (((x + 1000000000) - 1) / 1000000000)
  have rf := rng32 (((x + 1000000000) - 1) / 1000000000).toInt32
  rw [e] at d
  clear a ra b rb e z9 z1
  generalize (((x + 1000000000) - 1) / 1000000000).toInt32.toInt = A at *
  generalize (((x + 1000000000) - 1) / 1000000000).toInt = Bq at *
  omega
theorem own_q1 (S : Int64) {t : Int32} (ht : (0 : Int32) < t) : own_f7_0 (S + (t.toInt64 * (1000000000 : Int64))) S (0 : Int32) = t := by
  have z : (0 : Int32).toInt = 0 := rfl
  have h := own_lt.mp ht
  have g := rng32 t
  have sp := own_span S ht
  unfold own_f7_0
  have u := own_up ((S + (t.toInt64 * (1000000000 : Int64))) - S) (by omega) (by omega)
  rw [← Int32.toInt_inj, u, sp]
  omega
theorem own_q2 (E : Int64) : own_f7_0 E (E - (1 : Int64)) (0 : Int32) = 1 := by
  have o := own_one E
  unfold own_f7_0
  have u := own_up (E - (E - 1)) (by omega) (by omega)
  rw [← Int32.toInt_inj, u, o]
  rfl
theorem own_pd0 : parseMethodDescriptor "(JI)Lcom/example/measured_commit/measuredcommit/Deadline;" = some ⟨[.long, .int], some (.object "com/example/measured_commit/measuredcommit/Deadline")⟩ := by decide +kernel
theorem own_pd1 : parseMethodDescriptor "()I" = some ⟨[], some .int⟩ := by decide +kernel
theorem own_pd2 : parseMethodDescriptor "(J)Z" = some ⟨[.long], some .boolean⟩ := by decide +kernel
theorem own_pd3 : parseMethodDescriptor "(JI)I" = some ⟨[.long, .int], some .int⟩ := by decide +kernel
/-! body 0: com/example/measured_commit/measuredcommit/DeadlineOfPinLaw.law:(JI)Z -/
def own_f0_0 (x0 : Int64) (x1 : Int32) : Int32 := (if (x1 &&& (2147483647 : Int32)) = (0 : Int32) then (1 : Int32) else (1 : Int32))
set_option maxRecDepth 65536 in
set_option maxHeartbeats 20000000 in
theorem own_l0_0 {p : Program} {l : Launch} {e : Env} {s : State} {m : MethodId} {args : Array Value} {below : List Frame} {meth : Method} {c : Code} {T : State} {locs : List Loc} {Z : State} {a0 : Array Value} {h0 : Heap} {n0 : Nat}
    (X : Stand p l e room_1 s m args below meth c T locs 0 0) (hx : p.tables.exec = Jvm.exec) (hZ : Z.Warmed39 s.vm) (hw : ∀ d ∈ tables_1, d.before a0 Z = true) (hby : c.code = code) (hml : c.maxLocals = 10) (hown : s.vm.findClass "com/example/measured_commit/measuredcommit/DeadlineOfPinLaw" = some m.cls) (hret : meth.sig.returnType = some .boolean) (hlk : meth.locks = false) (e0 : T.heap = h0) (N : Fr n0 locs) (Z0 : n0 ≤ h0.size)
    (x0 : Int64) (x1 : Int32) {r : Int32} (hR : r = own_f0_0 x0 x1) : own_Go p e below s room_1.cells room_1.slots (own_QG (.int r) h0 n0) (T.setTop (mkF m 0 #[.val (.long x0), .second, .val (.int x1), .unset, .unset, .unset, .unset, .unset, .unset, .unset] [])) := by
  unfold own_f0_0 at hR
  refine own_back (fun t k => XS.iloadN X.here hx rfl (hb hby at_0) rfl k) ?_
  show own_Go _ _ _ _ _ _ _ (T.setTop (mkF m 1 #[.val (.long x0), .second, .val (.int x1), .unset, .unset, .unset, .unset, .unset, .unset, .unset] [(.int x1)]))
  refine own_back (fun t k => X.ldcInt hx hown (mvT hZ (hw _ (List.mem_of_getElem? (i := 0) rfl))) (g := (mkF m 1 #[.val (.long x0), .second, .val (.int x1), .unset, .unset, .unset, .unset, .unset, .unset, .unset] [(.int x1)])) rfl (hb hby at_1) _ k) ?_
  show own_Go _ _ _ _ _ _ _ (T.setTop (mkF m 3 #[.val (.long x0), .second, .val (.int x1), .unset, .unset, .unset, .unset, .unset, .unset, .unset] [(.int (2147483647 : Int32)), (.int x1)]))
  refine own_back (fun t k => XS.iand X.here hx rfl (hb hby at_3) rfl k) ?_
  show own_Go _ _ _ _ _ _ _ (T.setTop (mkF m 4 #[.val (.long x0), .second, .val (.int x1), .unset, .unset, .unset, .unset, .unset, .unset, .unset] [(.int (x1 &&& (2147483647 : Int32)))]))
  refine own_back (fun t k => XS.istoreN X.here hx rfl (hb hby at_4) rfl (l' := #[.val (.long x0), .second, .val (.int x1), .val (.int (x1 &&& (2147483647 : Int32))), .unset, .unset, .unset, .unset, .unset, .unset]) rfl k) ?_
  show own_Go _ _ _ _ _ _ _ (T.setTop (mkF m 5 #[.val (.long x0), .second, .val (.int x1), .val (.int (x1 &&& (2147483647 : Int32))), .unset, .unset, .unset, .unset, .unset, .unset] []))
  refine own_back (fun t k => XS.iloadN X.here hx rfl (hb hby at_5) rfl k) ?_
  show own_Go _ _ _ _ _ _ _ (T.setTop (mkF m 6 #[.val (.long x0), .second, .val (.int x1), .val (.int (x1 &&& (2147483647 : Int32))), .unset, .unset, .unset, .unset, .unset, .unset] [(.int (x1 &&& (2147483647 : Int32)))]))
  by_cases hc6 : (x1 &&& (2147483647 : Int32)) = (0 : Int32)
  · rw [if_pos hc6] at hR
    refine own_back (fun t k => XS.ifNo X.here hx rfl (hb hby at_6) rfl ((if0 _ _).trans (teq hc6).2) k) ?_
    show own_Go _ _ _ _ _ _ _ (T.setTop (mkF m 9 #[.val (.long x0), .second, .val (.int x1), .val (.int (x1 &&& (2147483647 : Int32))), .unset, .unset, .unset, .unset, .unset, .unset] []))
    refine own_back (fun t k => XS.iconst X.here hx rfl (hb hby at_9) k) ?_
    show own_Go _ _ _ _ _ _ _ (T.setTop (mkF m 10 #[.val (.long x0), .second, .val (.int x1), .val (.int (x1 &&& (2147483647 : Int32))), .unset, .unset, .unset, .unset, .unset, .unset] [(.int (1 : Int32))]))
    refine own_back (fun t k => XS.istoreN X.here hx rfl (hb hby at_10) rfl (l' := #[.val (.long x0), .second, .val (.int x1), .val (.int (1 : Int32)), .unset, .unset, .unset, .unset, .unset, .unset]) rfl k) ?_
    show own_Go _ _ _ _ _ _ _ (T.setTop (mkF m 11 #[.val (.long x0), .second, .val (.int x1), .val (.int (1 : Int32)), .unset, .unset, .unset, .unset, .unset, .unset] []))
    refine own_back (fun t k => XS.iloadN X.here hx rfl (hb hby at_11) rfl k) ?_
    show own_Go _ _ _ _ _ _ _ (T.setTop (mkF m 12 #[.val (.long x0), .second, .val (.int x1), .val (.int (1 : Int32)), .unset, .unset, .unset, .unset, .unset, .unset] [(.int (1 : Int32))]))
    refine own_back (fun t k => XS.i2l X.here hx rfl (hb hby at_12) rfl k) ?_
    show own_Go _ _ _ _ _ _ _ (T.setTop (mkF m 13 #[.val (.long x0), .second, .val (.int x1), .val (.int (1 : Int32)), .unset, .unset, .unset, .unset, .unset, .unset] [(.long ((1 : Int32).toInt64))]))
    refine own_back (fun t k => X.ldc2Long hx hown (mvT hZ (hw _ (List.mem_of_getElem? (i := 1) rfl))) (g := (mkF m 13 #[.val (.long x0), .second, .val (.int x1), .val (.int (1 : Int32)), .unset, .unset, .unset, .unset, .unset, .unset] [(.long ((1 : Int32).toInt64))])) rfl (hb hby at_13) _ k) ?_
    show own_Go _ _ _ _ _ _ _ (T.setTop (mkF m 16 #[.val (.long x0), .second, .val (.int x1), .val (.int (1 : Int32)), .unset, .unset, .unset, .unset, .unset, .unset] [(.long (1000000000 : Int64)), (.long ((1 : Int32).toInt64))]))
    refine own_back (fun t k => XS.lmul X.here hx rfl (hb hby at_16) rfl k) ?_
    show own_Go _ _ _ _ _ _ _ (T.setTop (mkF m 17 #[.val (.long x0), .second, .val (.int x1), .val (.int (1 : Int32)), .unset, .unset, .unset, .unset, .unset, .unset] [(.long (((1 : Int32).toInt64) * (1000000000 : Int64)))]))
    refine own_back (fun t k => XS.lstore X.here hx rfl (hb hby at_17) rfl (l' := #[.val (.long x0), .second, .val (.int x1), .val (.int (1 : Int32)), .val (.long (((1 : Int32).toInt64) * (1000000000 : Int64))), .second, .unset, .unset, .unset, .unset]) rfl k) ?_
    show own_Go _ _ _ _ _ _ _ (T.setTop (mkF m 19 #[.val (.long x0), .second, .val (.int x1), .val (.int (1 : Int32)), .val (.long (((1 : Int32).toInt64) * (1000000000 : Int64))), .second, .unset, .unset, .unset, .unset] []))
    refine own_back (fun t k => XS.lloadN X.here hx rfl (hb hby at_19) rfl k) ?_
    show own_Go _ _ _ _ _ _ _ (T.setTop (mkF m 20 #[.val (.long x0), .second, .val (.int x1), .val (.int (1 : Int32)), .val (.long (((1 : Int32).toInt64) * (1000000000 : Int64))), .second, .unset, .unset, .unset, .unset] [(.long x0)]))
    refine own_back (fun t k => XS.lload X.here hx rfl (hb hby at_20) rfl k) ?_
    show own_Go _ _ _ _ _ _ _ (T.setTop (mkF m 22 #[.val (.long x0), .second, .val (.int x1), .val (.int (1 : Int32)), .val (.long (((1 : Int32).toInt64) * (1000000000 : Int64))), .second, .unset, .unset, .unset, .unset] [(.long (((1 : Int32).toInt64) * (1000000000 : Int64))), (.long x0)]))
    refine own_back (fun t k => XS.ladd X.here hx rfl (hb hby at_22) rfl k) ?_
    show own_Go _ _ _ _ _ _ _ (T.setTop (mkF m 23 #[.val (.long x0), .second, .val (.int x1), .val (.int (1 : Int32)), .val (.long (((1 : Int32).toInt64) * (1000000000 : Int64))), .second, .unset, .unset, .unset, .unset] [(.long (x0 + (((1 : Int32).toInt64) * (1000000000 : Int64))))]))
    refine own_back (fun t k => XS.lstore X.here hx rfl (hb hby at_23) rfl (l' := #[.val (.long x0), .second, .val (.int x1), .val (.int (1 : Int32)), .val (.long (((1 : Int32).toInt64) * (1000000000 : Int64))), .second, .val (.long (x0 + (((1 : Int32).toInt64) * (1000000000 : Int64)))), .second, .unset, .unset]) rfl k) ?_
    show own_Go _ _ _ _ _ _ _ (T.setTop (mkF m 25 #[.val (.long x0), .second, .val (.int x1), .val (.int (1 : Int32)), .val (.long (((1 : Int32).toInt64) * (1000000000 : Int64))), .second, .val (.long (x0 + (((1 : Int32).toInt64) * (1000000000 : Int64)))), .second, .unset, .unset] []))
    refine own_back (fun t k => XS.lloadN X.here hx rfl (hb hby at_25) rfl k) ?_
    show own_Go _ _ _ _ _ _ _ (T.setTop (mkF m 26 #[.val (.long x0), .second, .val (.int x1), .val (.int (1 : Int32)), .val (.long (((1 : Int32).toInt64) * (1000000000 : Int64))), .second, .val (.long (x0 + (((1 : Int32).toInt64) * (1000000000 : Int64)))), .second, .unset, .unset] [(.long x0)]))
    refine own_back (fun t k => XS.iloadN X.here hx rfl (hb hby at_26) rfl k) ?_
    show own_Go _ _ _ _ _ _ _ (T.setTop (mkF m 27 #[.val (.long x0), .second, .val (.int x1), .val (.int (1 : Int32)), .val (.long (((1 : Int32).toInt64) * (1000000000 : Int64))), .second, .val (.long (x0 + (((1 : Int32).toInt64) * (1000000000 : Int64)))), .second, .unset, .unset] [(.int (1 : Int32)), (.long x0)]))
    obtain ⟨_, _, ⟨T1, L1, k1, n1⟩, -, X1, ⟨Lc1, hQ1, l1, y1, z1⟩, st1⟩ := Jvm.LawKit.callS X hx (y := (⟨"com/example/measured_commit/measuredcommit/Deadline", "of", "(JI)Lcom/example/measured_commit/measuredcommit/Deadline;"⟩ : MethodName)) hown (mvT hZ (hw _ (List.mem_of_getElem? (i := 2) rfl))) (mvT hZ (hw _ (List.mem_of_getElem? (i := 3) rfl))) (mvT hZ (hw _ (List.mem_of_getElem? (i := 4) rfl))) (mvT hZ (hw _ (List.mem_of_getElem? (i := 5) rfl))) (by decide) (backOf (W := 0) (rm1 l Z a0 hw [] x0 (1 : Int32) h0 n0 Z0 (by first | exact own_pos hc6 | decide : (0 : Int32) < (1 : Int32))) hZ (hw _ (List.mem_of_getElem? (i := 5) rfl)) (hw _ (List.mem_of_getElem? (i := 4) rfl)) (by decide) (by decide)) (g := (mkF m 27 #[.val (.long x0), .second, .val (.int x1), .val (.int (1 : Int32)), .val (.long (((1 : Int32).toInt64) * (1000000000 : Int64))), .second, .val (.long (x0 + (((1 : Int32).toInt64) * (1000000000 : Int64)))), .second, .unset, .unset] [(.int (1 : Int32)), (.long x0)])) rfl (by rw [hml]; rfl) (argsL := [(.long x0), (.int (1 : Int32))]) (rest := []) (lenOf own_pd0 rfl) rfl (by show 2 * 0 + _ ≤ _; exact Nat.le_of_eq rfl) (hb hby at_27) (fun _ _ => ⟨rfl, e0, (by decide : 0 + 1 ≤ _), (by decide : 0 + 2 ≤ _)⟩)
    dsimp only [Pt.U, Pt.locs, Pt.cells, Pt.slots] at X1 l1 y1 z1 st1 hQ1
    subst l1 y1 z1
    obtain ⟨b1, rfl, N1q, Z1, A1, F1a, F1b⟩ := hQ1
    have N1 := Fr.app N N1q
    refine own_back (fun t k => st1 t k) ?_
    show own_Go _ _ _ _ _ _ _ (T1.setTop (mkF m 30 #[.val (.long x0), .second, .val (.int x1), .val (.int (1 : Int32)), .val (.long (((1 : Int32).toInt64) * (1000000000 : Int64))), .second, .val (.long (x0 + (((1 : Int32).toInt64) * (1000000000 : Int64)))), .second, .unset, .unset] [(.ref b1)]))
    refine own_back (fun t k => XS.astore X1.here hx rfl (hb hby at_30) rfl rfl (l' := #[.val (.long x0), .second, .val (.int x1), .val (.int (1 : Int32)), .val (.long (((1 : Int32).toInt64) * (1000000000 : Int64))), .second, .val (.long (x0 + (((1 : Int32).toInt64) * (1000000000 : Int64)))), .second, .val (.ref b1), .unset]) rfl k) ?_
    show own_Go _ _ _ _ _ _ _ (T1.setTop (mkF m 32 #[.val (.long x0), .second, .val (.int x1), .val (.int (1 : Int32)), .val (.long (((1 : Int32).toInt64) * (1000000000 : Int64))), .second, .val (.long (x0 + (((1 : Int32).toInt64) * (1000000000 : Int64)))), .second, .val (.ref b1), .unset] []))
    refine own_back (fun t k => XS.aload X1.here hx rfl (hb hby at_32) rfl rfl k) ?_
    show own_Go _ _ _ _ _ _ _ (T1.setTop (mkF m 34 #[.val (.long x0), .second, .val (.int x1), .val (.int (1 : Int32)), .val (.long (((1 : Int32).toInt64) * (1000000000 : Int64))), .second, .val (.long (x0 + (((1 : Int32).toInt64) * (1000000000 : Int64)))), .second, .val (.ref b1), .unset] [(.ref b1)]))
    obtain ⟨cq2, kq2, q2a, q2b, q2c⟩ := isOf hZ rfl A1
    obtain ⟨_, _, ⟨T2, L2, k2, n2⟩, -, X2, ⟨Lc2, hQ2, l2, y2, z2⟩, st2⟩ := X1.virtualBack hx (y := (⟨"com/example/measured_commit/measuredcommit/Deadline", "timeoutSeconds", "()I"⟩ : MethodName)) (z := (⟨"com/example/measured_commit/measuredcommit/Deadline", "timeoutSeconds", "()I"⟩ : MethodName)) hown (mvT hZ (hw _ (List.mem_of_getElem? (i := 23) rfl))) (mvT hZ (hw _ (List.mem_of_getElem? (i := 24) rfl))) (notFace_of_selects (args := #[]) (mvT hZ (hw _ (List.mem_of_getElem? (i := 26) rfl)))) (mvT hZ (hw _ (List.mem_of_getElem? (i := 26) rfl))) (mvT hZ (hw _ (List.mem_of_getElem? (i := 25) rfl))) (by decide) (backOf (W := 0) (own_rm5 l Z a0 hw [] b1 (1 : Int32) T1.heap n0 Z1 F1b) hZ (hw _ (List.mem_of_getElem? (i := 27) rfl)) (hw _ (List.mem_of_getElem? (i := 4) rfl)) (by decide) (by decide)) q2a q2c (g := (mkF m 34 #[.val (.long x0), .second, .val (.int x1), .val (.int (1 : Int32)), .val (.long (((1 : Int32).toInt64) * (1000000000 : Int64))), .second, .val (.long (x0 + (((1 : Int32).toInt64) * (1000000000 : Int64)))), .second, .val (.ref b1), .unset] [(.ref b1)])) rfl (by rw [hml]; rfl) (Steps.refl _) (argsL := []) (rest := []) (lenOf own_pd1 rfl) rfl (by show 2 * 0 + _ ≤ _; exact Nat.le_of_eq rfl) (hb hby at_34) (fun _ _ => ⟨rfl, rfl, (by decide : 1 + 0 ≤ _), (by decide : 2 + 0 ≤ _)⟩)
    dsimp only [Pt.U, Pt.locs, Pt.cells, Pt.slots] at X2 l2 y2 z2 st2 hQ2
    subst l2 y2 z2
    obtain ⟨rfl, N2q, e2⟩ := hQ2
    have N2 := Fr.app N1 N2q
    refine own_back (fun t k => st2.trans k) ?_
    show own_Go _ _ _ _ _ _ _ (T2.setTop (mkF m 37 #[.val (.long x0), .second, .val (.int x1), .val (.int (1 : Int32)), .val (.long (((1 : Int32).toInt64) * (1000000000 : Int64))), .second, .val (.long (x0 + (((1 : Int32).toInt64) * (1000000000 : Int64)))), .second, .val (.ref b1), .unset] [(.int (own_f5_0 (1 : Int32)))]))
    refine own_back (fun t k => XS.iloadN X2.here hx rfl (hb hby at_37) rfl k) ?_
    show own_Go _ _ _ _ _ _ _ (T2.setTop (mkF m 38 #[.val (.long x0), .second, .val (.int x1), .val (.int (1 : Int32)), .val (.long (((1 : Int32).toInt64) * (1000000000 : Int64))), .second, .val (.long (x0 + (((1 : Int32).toInt64) * (1000000000 : Int64)))), .second, .val (.ref b1), .unset] [(.int (1 : Int32)), (.int (own_f5_0 (1 : Int32)))]))
    refine own_back (fun t k => XS.icmpNo X2.here hx rfl (hb hby at_38) rfl (teq (rfl : (own_f5_0 (1 : Int32)) = (1 : Int32))).2 k) ?_
    show own_Go _ _ _ _ _ _ _ (T2.setTop (mkF m 41 #[.val (.long x0), .second, .val (.int x1), .val (.int (1 : Int32)), .val (.long (((1 : Int32).toInt64) * (1000000000 : Int64))), .second, .val (.long (x0 + (((1 : Int32).toInt64) * (1000000000 : Int64)))), .second, .val (.ref b1), .unset] []))
    refine own_back (fun t k => XS.iconst X2.here hx rfl (hb hby at_41) k) ?_
    show own_Go _ _ _ _ _ _ _ (T2.setTop (mkF m 42 #[.val (.long x0), .second, .val (.int x1), .val (.int (1 : Int32)), .val (.long (((1 : Int32).toInt64) * (1000000000 : Int64))), .second, .val (.long (x0 + (((1 : Int32).toInt64) * (1000000000 : Int64)))), .second, .val (.ref b1), .unset] [(.int (1 : Int32))]))
    refine own_back (fun t k => XS.goto X2.here hx rfl (pc0 := 42) (pc' := 46) rfl (hb hby at_42) (by decide) (by decide) k) ?_
    show own_Go _ _ _ _ _ _ _ (T2.setTop (mkF m 46 #[.val (.long x0), .second, .val (.int x1), .val (.int (1 : Int32)), .val (.long (((1 : Int32).toInt64) * (1000000000 : Int64))), .second, .val (.long (x0 + (((1 : Int32).toInt64) * (1000000000 : Int64)))), .second, .val (.ref b1), .unset] [(.int (1 : Int32))]))
    refine own_back (fun t k => XS.istore X2.here hx rfl (hb hby at_46) rfl (l' := #[.val (.long x0), .second, .val (.int x1), .val (.int (1 : Int32)), .val (.long (((1 : Int32).toInt64) * (1000000000 : Int64))), .second, .val (.long (x0 + (((1 : Int32).toInt64) * (1000000000 : Int64)))), .second, .val (.ref b1), .val (.int (1 : Int32))]) rfl k) ?_
    show own_Go _ _ _ _ _ _ _ (T2.setTop (mkF m 48 #[.val (.long x0), .second, .val (.int x1), .val (.int (1 : Int32)), .val (.long (((1 : Int32).toInt64) * (1000000000 : Int64))), .second, .val (.long (x0 + (((1 : Int32).toInt64) * (1000000000 : Int64)))), .second, .val (.ref b1), .val (.int (1 : Int32))] []))
    refine own_back (fun t k => XS.iload X2.here hx rfl (hb hby at_48) rfl k) ?_
    show own_Go _ _ _ _ _ _ _ (T2.setTop (mkF m 50 #[.val (.long x0), .second, .val (.int x1), .val (.int (1 : Int32)), .val (.long (((1 : Int32).toInt64) * (1000000000 : Int64))), .second, .val (.long (x0 + (((1 : Int32).toInt64) * (1000000000 : Int64)))), .second, .val (.ref b1), .val (.int (1 : Int32))] [(.int (1 : Int32))]))
    refine own_back (fun t k => XS.ifNo X2.here hx rfl (hb hby at_50) rfl ((if0 _ _).trans (feq ((by decide) : ¬ ((1 : Int32) = (0 : Int32)))).1) k) ?_
    show own_Go _ _ _ _ _ _ _ (T2.setTop (mkF m 53 #[.val (.long x0), .second, .val (.int x1), .val (.int (1 : Int32)), .val (.long (((1 : Int32).toInt64) * (1000000000 : Int64))), .second, .val (.long (x0 + (((1 : Int32).toInt64) * (1000000000 : Int64)))), .second, .val (.ref b1), .val (.int (1 : Int32))] []))
    refine own_back (fun t k => XS.aload X2.here hx rfl (hb hby at_53) rfl rfl k) ?_
    show own_Go _ _ _ _ _ _ _ (T2.setTop (mkF m 55 #[.val (.long x0), .second, .val (.int x1), .val (.int (1 : Int32)), .val (.long (((1 : Int32).toInt64) * (1000000000 : Int64))), .second, .val (.long (x0 + (((1 : Int32).toInt64) * (1000000000 : Int64)))), .second, .val (.ref b1), .val (.int (1 : Int32))] [(.ref b1)]))
    refine own_back (fun t k => XS.lload X2.here hx rfl (hb hby at_55) rfl k) ?_
    show own_Go _ _ _ _ _ _ _ (T2.setTop (mkF m 57 #[.val (.long x0), .second, .val (.int x1), .val (.int (1 : Int32)), .val (.long (((1 : Int32).toInt64) * (1000000000 : Int64))), .second, .val (.long (x0 + (((1 : Int32).toInt64) * (1000000000 : Int64)))), .second, .val (.ref b1), .val (.int (1 : Int32))] [(.long (x0 + (((1 : Int32).toInt64) * (1000000000 : Int64)))), (.ref b1)]))
    refine own_back (fun t k => XS.lconst X2.here hx rfl (hb hby at_57) k) ?_
    show own_Go _ _ _ _ _ _ _ (T2.setTop (mkF m 58 #[.val (.long x0), .second, .val (.int x1), .val (.int (1 : Int32)), .val (.long (((1 : Int32).toInt64) * (1000000000 : Int64))), .second, .val (.long (x0 + (((1 : Int32).toInt64) * (1000000000 : Int64)))), .second, .val (.ref b1), .val (.int (1 : Int32))] [(.long (1 : Int64)), (.long (x0 + (((1 : Int32).toInt64) * (1000000000 : Int64)))), (.ref b1)]))
    refine own_back (fun t k => XS.lsub X2.here hx rfl (hb hby at_58) rfl k) ?_
    show own_Go _ _ _ _ _ _ _ (T2.setTop (mkF m 59 #[.val (.long x0), .second, .val (.int x1), .val (.int (1 : Int32)), .val (.long (((1 : Int32).toInt64) * (1000000000 : Int64))), .second, .val (.long (x0 + (((1 : Int32).toInt64) * (1000000000 : Int64)))), .second, .val (.ref b1), .val (.int (1 : Int32))] [(.long ((x0 + (((1 : Int32).toInt64) * (1000000000 : Int64))) - (1 : Int64))), (.ref b1)]))
    obtain ⟨cq3, kq3, q3a, q3b, q3c⟩ := isOf hZ e2 A1
    obtain ⟨_, _, ⟨T3, L3, k3, n3⟩, -, X3, ⟨Lc3, hQ3, l3, y3, z3⟩, st3⟩ := X2.virtualBack hx (y := (⟨"com/example/measured_commit/measuredcommit/Deadline", "hasPassed", "(J)Z"⟩ : MethodName)) (z := (⟨"com/example/measured_commit/measuredcommit/Deadline", "hasPassed", "(J)Z"⟩ : MethodName)) hown (mvT hZ (hw _ (List.mem_of_getElem? (i := 28) rfl))) (mvT hZ (hw _ (List.mem_of_getElem? (i := 29) rfl))) (notFace_of_selects (args := #[]) (mvT hZ (hw _ (List.mem_of_getElem? (i := 31) rfl)))) (mvT hZ (hw _ (List.mem_of_getElem? (i := 31) rfl))) (mvT hZ (hw _ (List.mem_of_getElem? (i := 30) rfl))) (by decide) (backOf (W := 0) (own_rm6 l Z a0 hw [] b1 ((x0 + (((1 : Int32).toInt64) * (1000000000 : Int64))) - (1 : Int64)) (x0 + ((1 : Int32).toInt64 * (1000000000 : Int64))) T1.heap n0 Z1 F1a) hZ (hw _ (List.mem_of_getElem? (i := 32) rfl)) (hw _ (List.mem_of_getElem? (i := 4) rfl)) (by decide) (by decide)) q3a q3c (g := (mkF m 59 #[.val (.long x0), .second, .val (.int x1), .val (.int (1 : Int32)), .val (.long (((1 : Int32).toInt64) * (1000000000 : Int64))), .second, .val (.long (x0 + (((1 : Int32).toInt64) * (1000000000 : Int64)))), .second, .val (.ref b1), .val (.int (1 : Int32))] [(.long ((x0 + (((1 : Int32).toInt64) * (1000000000 : Int64))) - (1 : Int64))), (.ref b1)])) rfl (by rw [hml]; rfl) (Steps.refl _) (argsL := [(.long ((x0 + (((1 : Int32).toInt64) * (1000000000 : Int64))) - (1 : Int64)))]) (rest := []) (lenOf own_pd2 rfl) rfl (by show 2 * 0 + _ ≤ _; exact Nat.le_of_eq rfl) (hb hby at_59) (fun _ _ => ⟨rfl, e2, (by decide : 1 + 0 ≤ _), (by decide : 2 + 0 ≤ _)⟩)
    dsimp only [Pt.U, Pt.locs, Pt.cells, Pt.slots] at X3 l3 y3 z3 st3 hQ3
    subst l3 y3 z3
    obtain ⟨rfl, N3q, e3⟩ := hQ3
    have N3 := Fr.app N2 N3q
    refine own_back (fun t k => st3.trans k) ?_
    show own_Go _ _ _ _ _ _ _ (T3.setTop (mkF m 62 #[.val (.long x0), .second, .val (.int x1), .val (.int (1 : Int32)), .val (.long (((1 : Int32).toInt64) * (1000000000 : Int64))), .second, .val (.long (x0 + (((1 : Int32).toInt64) * (1000000000 : Int64)))), .second, .val (.ref b1), .val (.int (1 : Int32))] [(.int (own_f6_0 (x0 + ((1 : Int32).toInt64 * (1000000000 : Int64))) ((x0 + (((1 : Int32).toInt64) * (1000000000 : Int64))) - (1 : Int64))))]))
    refine own_back (fun t k => XS.ifNo X3.here hx rfl (hb hby at_62) rfl ((if0 _ _).trans (teq ((own_hp0 _) : (own_f6_0 (x0 + ((1 : Int32).toInt64 * (1000000000 : Int64))) ((x0 + (((1 : Int32).toInt64) * (1000000000 : Int64))) - (1 : Int64))) = (0 : Int32))).2) k) ?_
    show own_Go _ _ _ _ _ _ _ (T3.setTop (mkF m 65 #[.val (.long x0), .second, .val (.int x1), .val (.int (1 : Int32)), .val (.long (((1 : Int32).toInt64) * (1000000000 : Int64))), .second, .val (.long (x0 + (((1 : Int32).toInt64) * (1000000000 : Int64)))), .second, .val (.ref b1), .val (.int (1 : Int32))] []))
    refine own_back (fun t k => XS.iconst X3.here hx rfl (hb hby at_65) k) ?_
    show own_Go _ _ _ _ _ _ _ (T3.setTop (mkF m 66 #[.val (.long x0), .second, .val (.int x1), .val (.int (1 : Int32)), .val (.long (((1 : Int32).toInt64) * (1000000000 : Int64))), .second, .val (.long (x0 + (((1 : Int32).toInt64) * (1000000000 : Int64)))), .second, .val (.ref b1), .val (.int (1 : Int32))] [(.int (1 : Int32))]))
    refine own_back (fun t k => XS.goto X3.here hx rfl (pc0 := 66) (pc' := 70) rfl (hb hby at_66) (by decide) (by decide) k) ?_
    show own_Go _ _ _ _ _ _ _ (T3.setTop (mkF m 70 #[.val (.long x0), .second, .val (.int x1), .val (.int (1 : Int32)), .val (.long (((1 : Int32).toInt64) * (1000000000 : Int64))), .second, .val (.long (x0 + (((1 : Int32).toInt64) * (1000000000 : Int64)))), .second, .val (.ref b1), .val (.int (1 : Int32))] [(.int (1 : Int32))]))
    refine own_back (fun t k => XS.istore X3.here hx rfl (hb hby at_70) rfl (l' := #[.val (.long x0), .second, .val (.int x1), .val (.int (1 : Int32)), .val (.long (((1 : Int32).toInt64) * (1000000000 : Int64))), .second, .val (.long (x0 + (((1 : Int32).toInt64) * (1000000000 : Int64)))), .second, .val (.ref b1), .val (.int (1 : Int32))]) rfl k) ?_
    show own_Go _ _ _ _ _ _ _ (T3.setTop (mkF m 72 #[.val (.long x0), .second, .val (.int x1), .val (.int (1 : Int32)), .val (.long (((1 : Int32).toInt64) * (1000000000 : Int64))), .second, .val (.long (x0 + (((1 : Int32).toInt64) * (1000000000 : Int64)))), .second, .val (.ref b1), .val (.int (1 : Int32))] []))
    refine own_back (fun t k => XS.iload X3.here hx rfl (hb hby at_72) rfl k) ?_
    show own_Go _ _ _ _ _ _ _ (T3.setTop (mkF m 74 #[.val (.long x0), .second, .val (.int x1), .val (.int (1 : Int32)), .val (.long (((1 : Int32).toInt64) * (1000000000 : Int64))), .second, .val (.long (x0 + (((1 : Int32).toInt64) * (1000000000 : Int64)))), .second, .val (.ref b1), .val (.int (1 : Int32))] [(.int (1 : Int32))]))
    refine own_back (fun t k => XS.ifNo X3.here hx rfl (hb hby at_74) rfl ((if0 _ _).trans (feq ((by decide) : ¬ ((1 : Int32) = (0 : Int32)))).1) k) ?_
    show own_Go _ _ _ _ _ _ _ (T3.setTop (mkF m 77 #[.val (.long x0), .second, .val (.int x1), .val (.int (1 : Int32)), .val (.long (((1 : Int32).toInt64) * (1000000000 : Int64))), .second, .val (.long (x0 + (((1 : Int32).toInt64) * (1000000000 : Int64)))), .second, .val (.ref b1), .val (.int (1 : Int32))] []))
    refine own_back (fun t k => XS.aload X3.here hx rfl (hb hby at_77) rfl rfl k) ?_
    show own_Go _ _ _ _ _ _ _ (T3.setTop (mkF m 79 #[.val (.long x0), .second, .val (.int x1), .val (.int (1 : Int32)), .val (.long (((1 : Int32).toInt64) * (1000000000 : Int64))), .second, .val (.long (x0 + (((1 : Int32).toInt64) * (1000000000 : Int64)))), .second, .val (.ref b1), .val (.int (1 : Int32))] [(.ref b1)]))
    refine own_back (fun t k => XS.lload X3.here hx rfl (hb hby at_79) rfl k) ?_
    show own_Go _ _ _ _ _ _ _ (T3.setTop (mkF m 81 #[.val (.long x0), .second, .val (.int x1), .val (.int (1 : Int32)), .val (.long (((1 : Int32).toInt64) * (1000000000 : Int64))), .second, .val (.long (x0 + (((1 : Int32).toInt64) * (1000000000 : Int64)))), .second, .val (.ref b1), .val (.int (1 : Int32))] [(.long (x0 + (((1 : Int32).toInt64) * (1000000000 : Int64)))), (.ref b1)]))
    obtain ⟨cq4, kq4, q4a, q4b, q4c⟩ := isOf hZ e3 A1
    obtain ⟨_, _, ⟨T4, L4, k4, n4⟩, -, X4, ⟨Lc4, hQ4, l4, y4, z4⟩, st4⟩ := X3.virtualBack hx (y := (⟨"com/example/measured_commit/measuredcommit/Deadline", "hasPassed", "(J)Z"⟩ : MethodName)) (z := (⟨"com/example/measured_commit/measuredcommit/Deadline", "hasPassed", "(J)Z"⟩ : MethodName)) hown (mvT hZ (hw _ (List.mem_of_getElem? (i := 28) rfl))) (mvT hZ (hw _ (List.mem_of_getElem? (i := 29) rfl))) (notFace_of_selects (args := #[]) (mvT hZ (hw _ (List.mem_of_getElem? (i := 31) rfl)))) (mvT hZ (hw _ (List.mem_of_getElem? (i := 31) rfl))) (mvT hZ (hw _ (List.mem_of_getElem? (i := 30) rfl))) (by decide) (backOf (W := 0) (own_rm6 l Z a0 hw [] b1 (x0 + (((1 : Int32).toInt64) * (1000000000 : Int64))) (x0 + ((1 : Int32).toInt64 * (1000000000 : Int64))) T1.heap n0 Z1 F1a) hZ (hw _ (List.mem_of_getElem? (i := 32) rfl)) (hw _ (List.mem_of_getElem? (i := 4) rfl)) (by decide) (by decide)) q4a q4c (g := (mkF m 81 #[.val (.long x0), .second, .val (.int x1), .val (.int (1 : Int32)), .val (.long (((1 : Int32).toInt64) * (1000000000 : Int64))), .second, .val (.long (x0 + (((1 : Int32).toInt64) * (1000000000 : Int64)))), .second, .val (.ref b1), .val (.int (1 : Int32))] [(.long (x0 + (((1 : Int32).toInt64) * (1000000000 : Int64)))), (.ref b1)])) rfl (by rw [hml]; rfl) (Steps.refl _) (argsL := [(.long (x0 + (((1 : Int32).toInt64) * (1000000000 : Int64))))]) (rest := []) (lenOf own_pd2 rfl) rfl (by show 2 * 0 + _ ≤ _; exact Nat.le_of_eq rfl) (hb hby at_81) (fun _ _ => ⟨rfl, e3, (by decide : 1 + 0 ≤ _), (by decide : 2 + 0 ≤ _)⟩)
    dsimp only [Pt.U, Pt.locs, Pt.cells, Pt.slots] at X4 l4 y4 z4 st4 hQ4
    subst l4 y4 z4
    obtain ⟨rfl, N4q, e4⟩ := hQ4
    have N4 := Fr.app N3 N4q
    refine own_back (fun t k => st4.trans k) ?_
    show own_Go _ _ _ _ _ _ _ (T4.setTop (mkF m 84 #[.val (.long x0), .second, .val (.int x1), .val (.int (1 : Int32)), .val (.long (((1 : Int32).toInt64) * (1000000000 : Int64))), .second, .val (.long (x0 + (((1 : Int32).toInt64) * (1000000000 : Int64)))), .second, .val (.ref b1), .val (.int (1 : Int32))] [(.int (own_f6_0 (x0 + ((1 : Int32).toInt64 * (1000000000 : Int64))) (x0 + (((1 : Int32).toInt64) * (1000000000 : Int64)))))]))
    refine own_back (fun t k => XS.ifNo X4.here hx rfl (hb hby at_84) rfl ((if0 _ _).trans (feq ((own_hp1 _) : ¬ ((own_f6_0 (x0 + ((1 : Int32).toInt64 * (1000000000 : Int64))) (x0 + (((1 : Int32).toInt64) * (1000000000 : Int64)))) = (0 : Int32)))).1) k) ?_
    show own_Go _ _ _ _ _ _ _ (T4.setTop (mkF m 87 #[.val (.long x0), .second, .val (.int x1), .val (.int (1 : Int32)), .val (.long (((1 : Int32).toInt64) * (1000000000 : Int64))), .second, .val (.long (x0 + (((1 : Int32).toInt64) * (1000000000 : Int64)))), .second, .val (.ref b1), .val (.int (1 : Int32))] []))
    refine own_back (fun t k => XS.iconst X4.here hx rfl (hb hby at_87) k) ?_
    show own_Go _ _ _ _ _ _ _ (T4.setTop (mkF m 88 #[.val (.long x0), .second, .val (.int x1), .val (.int (1 : Int32)), .val (.long (((1 : Int32).toInt64) * (1000000000 : Int64))), .second, .val (.long (x0 + (((1 : Int32).toInt64) * (1000000000 : Int64)))), .second, .val (.ref b1), .val (.int (1 : Int32))] [(.int (1 : Int32))]))
    refine own_back (fun t k => XS.goto X4.here hx rfl (pc0 := 88) (pc' := 92) rfl (hb hby at_88) (by decide) (by decide) k) ?_
    show own_Go _ _ _ _ _ _ _ (T4.setTop (mkF m 92 #[.val (.long x0), .second, .val (.int x1), .val (.int (1 : Int32)), .val (.long (((1 : Int32).toInt64) * (1000000000 : Int64))), .second, .val (.long (x0 + (((1 : Int32).toInt64) * (1000000000 : Int64)))), .second, .val (.ref b1), .val (.int (1 : Int32))] [(.int (1 : Int32))]))
    refine own_back (fun t k => XS.istore X4.here hx rfl (hb hby at_92) rfl (l' := #[.val (.long x0), .second, .val (.int x1), .val (.int (1 : Int32)), .val (.long (((1 : Int32).toInt64) * (1000000000 : Int64))), .second, .val (.long (x0 + (((1 : Int32).toInt64) * (1000000000 : Int64)))), .second, .val (.ref b1), .val (.int (1 : Int32))]) rfl k) ?_
    show own_Go _ _ _ _ _ _ _ (T4.setTop (mkF m 94 #[.val (.long x0), .second, .val (.int x1), .val (.int (1 : Int32)), .val (.long (((1 : Int32).toInt64) * (1000000000 : Int64))), .second, .val (.long (x0 + (((1 : Int32).toInt64) * (1000000000 : Int64)))), .second, .val (.ref b1), .val (.int (1 : Int32))] []))
    refine own_back (fun t k => XS.iload X4.here hx rfl (hb hby at_94) rfl k) ?_
    show own_Go _ _ _ _ _ _ _ (T4.setTop (mkF m 96 #[.val (.long x0), .second, .val (.int x1), .val (.int (1 : Int32)), .val (.long (((1 : Int32).toInt64) * (1000000000 : Int64))), .second, .val (.long (x0 + (((1 : Int32).toInt64) * (1000000000 : Int64)))), .second, .val (.ref b1), .val (.int (1 : Int32))] [(.int (1 : Int32))]))
    refine own_back (fun t k => XS.ifNo X4.here hx rfl (hb hby at_96) rfl ((if0 _ _).trans (feq ((by decide) : ¬ ((1 : Int32) = (0 : Int32)))).1) k) ?_
    show own_Go _ _ _ _ _ _ _ (T4.setTop (mkF m 99 #[.val (.long x0), .second, .val (.int x1), .val (.int (1 : Int32)), .val (.long (((1 : Int32).toInt64) * (1000000000 : Int64))), .second, .val (.long (x0 + (((1 : Int32).toInt64) * (1000000000 : Int64)))), .second, .val (.ref b1), .val (.int (1 : Int32))] []))
    refine own_back (fun t k => XS.aload X4.here hx rfl (hb hby at_99) rfl rfl k) ?_
    show own_Go _ _ _ _ _ _ _ (T4.setTop (mkF m 101 #[.val (.long x0), .second, .val (.int x1), .val (.int (1 : Int32)), .val (.long (((1 : Int32).toInt64) * (1000000000 : Int64))), .second, .val (.long (x0 + (((1 : Int32).toInt64) * (1000000000 : Int64)))), .second, .val (.ref b1), .val (.int (1 : Int32))] [(.ref b1)]))
    refine own_back (fun t k => XS.lloadN X4.here hx rfl (hb hby at_101) rfl k) ?_
    show own_Go _ _ _ _ _ _ _ (T4.setTop (mkF m 102 #[.val (.long x0), .second, .val (.int x1), .val (.int (1 : Int32)), .val (.long (((1 : Int32).toInt64) * (1000000000 : Int64))), .second, .val (.long (x0 + (((1 : Int32).toInt64) * (1000000000 : Int64)))), .second, .val (.ref b1), .val (.int (1 : Int32))] [(.long x0), (.ref b1)]))
    refine own_back (fun t k => XS.iconst X4.here hx rfl (hb hby at_102) k) ?_
    show own_Go _ _ _ _ _ _ _ (T4.setTop (mkF m 103 #[.val (.long x0), .second, .val (.int x1), .val (.int (1 : Int32)), .val (.long (((1 : Int32).toInt64) * (1000000000 : Int64))), .second, .val (.long (x0 + (((1 : Int32).toInt64) * (1000000000 : Int64)))), .second, .val (.ref b1), .val (.int (1 : Int32))] [(.int (0 : Int32)), (.long x0), (.ref b1)]))
    obtain ⟨cq5, kq5, q5a, q5b, q5c⟩ := isOf hZ e4 A1
    obtain ⟨_, _, ⟨T5, L5, k5, n5⟩, -, X5, ⟨Lc5, hQ5, l5, y5, z5⟩, st5⟩ := X4.virtualBack hx (y := (⟨"com/example/measured_commit/measuredcommit/Deadline", "queryTimeoutSeconds", "(JI)I"⟩ : MethodName)) (z := (⟨"com/example/measured_commit/measuredcommit/Deadline", "queryTimeoutSeconds", "(JI)I"⟩ : MethodName)) hown (mvT hZ (hw _ (List.mem_of_getElem? (i := 33) rfl))) (mvT hZ (hw _ (List.mem_of_getElem? (i := 34) rfl))) (notFace_of_selects (args := #[]) (mvT hZ (hw _ (List.mem_of_getElem? (i := 36) rfl)))) (mvT hZ (hw _ (List.mem_of_getElem? (i := 36) rfl))) (mvT hZ (hw _ (List.mem_of_getElem? (i := 35) rfl))) (by decide) (backOf (W := 0) (own_rm7 l Z a0 hw [] b1 x0 (0 : Int32) (x0 + ((1 : Int32).toInt64 * (1000000000 : Int64))) T1.heap n0 Z1 F1a (by decide) (own_gt (own_left _ (by first | exact own_pos hc6 | decide : (0 : Int32) < (1 : Int32)))) rfl) hZ (hw _ (List.mem_of_getElem? (i := 37) rfl)) (hw _ (List.mem_of_getElem? (i := 4) rfl)) (by decide) (by decide)) q5a q5c (g := (mkF m 103 #[.val (.long x0), .second, .val (.int x1), .val (.int (1 : Int32)), .val (.long (((1 : Int32).toInt64) * (1000000000 : Int64))), .second, .val (.long (x0 + (((1 : Int32).toInt64) * (1000000000 : Int64)))), .second, .val (.ref b1), .val (.int (1 : Int32))] [(.int (0 : Int32)), (.long x0), (.ref b1)])) rfl (by rw [hml]; rfl) (Steps.refl _) (argsL := [(.long x0), (.int (0 : Int32))]) (rest := []) (lenOf own_pd3 rfl) rfl (by show 2 * 0 + _ ≤ _; exact Nat.le_of_eq rfl) (hb hby at_103) (fun _ _ => ⟨rfl, e4, (by decide : 1 + 0 ≤ _), (by decide : 2 + 0 ≤ _)⟩)
    dsimp only [Pt.U, Pt.locs, Pt.cells, Pt.slots] at X5 l5 y5 z5 st5 hQ5
    subst l5 y5 z5
    obtain ⟨rfl, N5q, e5⟩ := hQ5
    have N5 := Fr.app N4 N5q
    refine own_back (fun t k => st5.trans k) ?_
    show own_Go _ _ _ _ _ _ _ (T5.setTop (mkF m 106 #[.val (.long x0), .second, .val (.int x1), .val (.int (1 : Int32)), .val (.long (((1 : Int32).toInt64) * (1000000000 : Int64))), .second, .val (.long (x0 + (((1 : Int32).toInt64) * (1000000000 : Int64)))), .second, .val (.ref b1), .val (.int (1 : Int32))] [(.int (own_f7_0 (x0 + ((1 : Int32).toInt64 * (1000000000 : Int64))) x0 (0 : Int32)))]))
    refine own_back (fun t k => XS.iloadN X5.here hx rfl (hb hby at_106) rfl k) ?_
    show own_Go _ _ _ _ _ _ _ (T5.setTop (mkF m 107 #[.val (.long x0), .second, .val (.int x1), .val (.int (1 : Int32)), .val (.long (((1 : Int32).toInt64) * (1000000000 : Int64))), .second, .val (.long (x0 + (((1 : Int32).toInt64) * (1000000000 : Int64)))), .second, .val (.ref b1), .val (.int (1 : Int32))] [(.int (1 : Int32)), (.int (own_f7_0 (x0 + ((1 : Int32).toInt64 * (1000000000 : Int64))) x0 (0 : Int32)))]))
    refine own_back (fun t k => XS.icmpNo X5.here hx rfl (hb hby at_107) rfl (teq ((own_q1 _ (by first | exact own_pos hc6 | decide : (0 : Int32) < (1 : Int32))) : (own_f7_0 (x0 + ((1 : Int32).toInt64 * (1000000000 : Int64))) x0 (0 : Int32)) = (1 : Int32))).2 k) ?_
    show own_Go _ _ _ _ _ _ _ (T5.setTop (mkF m 110 #[.val (.long x0), .second, .val (.int x1), .val (.int (1 : Int32)), .val (.long (((1 : Int32).toInt64) * (1000000000 : Int64))), .second, .val (.long (x0 + (((1 : Int32).toInt64) * (1000000000 : Int64)))), .second, .val (.ref b1), .val (.int (1 : Int32))] []))
    refine own_back (fun t k => XS.iconst X5.here hx rfl (hb hby at_110) k) ?_
    show own_Go _ _ _ _ _ _ _ (T5.setTop (mkF m 111 #[.val (.long x0), .second, .val (.int x1), .val (.int (1 : Int32)), .val (.long (((1 : Int32).toInt64) * (1000000000 : Int64))), .second, .val (.long (x0 + (((1 : Int32).toInt64) * (1000000000 : Int64)))), .second, .val (.ref b1), .val (.int (1 : Int32))] [(.int (1 : Int32))]))
    refine own_back (fun t k => XS.goto X5.here hx rfl (pc0 := 111) (pc' := 115) rfl (hb hby at_111) (by decide) (by decide) k) ?_
    show own_Go _ _ _ _ _ _ _ (T5.setTop (mkF m 115 #[.val (.long x0), .second, .val (.int x1), .val (.int (1 : Int32)), .val (.long (((1 : Int32).toInt64) * (1000000000 : Int64))), .second, .val (.long (x0 + (((1 : Int32).toInt64) * (1000000000 : Int64)))), .second, .val (.ref b1), .val (.int (1 : Int32))] [(.int (1 : Int32))]))
    refine own_back (fun t k => XS.istore X5.here hx rfl (hb hby at_115) rfl (l' := #[.val (.long x0), .second, .val (.int x1), .val (.int (1 : Int32)), .val (.long (((1 : Int32).toInt64) * (1000000000 : Int64))), .second, .val (.long (x0 + (((1 : Int32).toInt64) * (1000000000 : Int64)))), .second, .val (.ref b1), .val (.int (1 : Int32))]) rfl k) ?_
    show own_Go _ _ _ _ _ _ _ (T5.setTop (mkF m 117 #[.val (.long x0), .second, .val (.int x1), .val (.int (1 : Int32)), .val (.long (((1 : Int32).toInt64) * (1000000000 : Int64))), .second, .val (.long (x0 + (((1 : Int32).toInt64) * (1000000000 : Int64)))), .second, .val (.ref b1), .val (.int (1 : Int32))] []))
    refine own_back (fun t k => XS.iload X5.here hx rfl (hb hby at_117) rfl k) ?_
    show own_Go _ _ _ _ _ _ _ (T5.setTop (mkF m 119 #[.val (.long x0), .second, .val (.int x1), .val (.int (1 : Int32)), .val (.long (((1 : Int32).toInt64) * (1000000000 : Int64))), .second, .val (.long (x0 + (((1 : Int32).toInt64) * (1000000000 : Int64)))), .second, .val (.ref b1), .val (.int (1 : Int32))] [(.int (1 : Int32))]))
    refine own_back (fun t k => XS.ifNo X5.here hx rfl (hb hby at_119) rfl ((if0 _ _).trans (feq ((by decide) : ¬ ((1 : Int32) = (0 : Int32)))).1) k) ?_
    show own_Go _ _ _ _ _ _ _ (T5.setTop (mkF m 122 #[.val (.long x0), .second, .val (.int x1), .val (.int (1 : Int32)), .val (.long (((1 : Int32).toInt64) * (1000000000 : Int64))), .second, .val (.long (x0 + (((1 : Int32).toInt64) * (1000000000 : Int64)))), .second, .val (.ref b1), .val (.int (1 : Int32))] []))
    refine own_back (fun t k => XS.aload X5.here hx rfl (hb hby at_122) rfl rfl k) ?_
    show own_Go _ _ _ _ _ _ _ (T5.setTop (mkF m 124 #[.val (.long x0), .second, .val (.int x1), .val (.int (1 : Int32)), .val (.long (((1 : Int32).toInt64) * (1000000000 : Int64))), .second, .val (.long (x0 + (((1 : Int32).toInt64) * (1000000000 : Int64)))), .second, .val (.ref b1), .val (.int (1 : Int32))] [(.ref b1)]))
    refine own_back (fun t k => XS.lload X5.here hx rfl (hb hby at_124) rfl k) ?_
    show own_Go _ _ _ _ _ _ _ (T5.setTop (mkF m 126 #[.val (.long x0), .second, .val (.int x1), .val (.int (1 : Int32)), .val (.long (((1 : Int32).toInt64) * (1000000000 : Int64))), .second, .val (.long (x0 + (((1 : Int32).toInt64) * (1000000000 : Int64)))), .second, .val (.ref b1), .val (.int (1 : Int32))] [(.long (x0 + (((1 : Int32).toInt64) * (1000000000 : Int64)))), (.ref b1)]))
    refine own_back (fun t k => XS.lconst X5.here hx rfl (hb hby at_126) k) ?_
    show own_Go _ _ _ _ _ _ _ (T5.setTop (mkF m 127 #[.val (.long x0), .second, .val (.int x1), .val (.int (1 : Int32)), .val (.long (((1 : Int32).toInt64) * (1000000000 : Int64))), .second, .val (.long (x0 + (((1 : Int32).toInt64) * (1000000000 : Int64)))), .second, .val (.ref b1), .val (.int (1 : Int32))] [(.long (1 : Int64)), (.long (x0 + (((1 : Int32).toInt64) * (1000000000 : Int64)))), (.ref b1)]))
    refine own_back (fun t k => XS.lsub X5.here hx rfl (hb hby at_127) rfl k) ?_
    show own_Go _ _ _ _ _ _ _ (T5.setTop (mkF m 128 #[.val (.long x0), .second, .val (.int x1), .val (.int (1 : Int32)), .val (.long (((1 : Int32).toInt64) * (1000000000 : Int64))), .second, .val (.long (x0 + (((1 : Int32).toInt64) * (1000000000 : Int64)))), .second, .val (.ref b1), .val (.int (1 : Int32))] [(.long ((x0 + (((1 : Int32).toInt64) * (1000000000 : Int64))) - (1 : Int64))), (.ref b1)]))
    refine own_back (fun t k => XS.iconst X5.here hx rfl (hb hby at_128) k) ?_
    show own_Go _ _ _ _ _ _ _ (T5.setTop (mkF m 129 #[.val (.long x0), .second, .val (.int x1), .val (.int (1 : Int32)), .val (.long (((1 : Int32).toInt64) * (1000000000 : Int64))), .second, .val (.long (x0 + (((1 : Int32).toInt64) * (1000000000 : Int64)))), .second, .val (.ref b1), .val (.int (1 : Int32))] [(.int (0 : Int32)), (.long ((x0 + (((1 : Int32).toInt64) * (1000000000 : Int64))) - (1 : Int64))), (.ref b1)]))
    obtain ⟨cq6, kq6, q6a, q6b, q6c⟩ := isOf hZ e5 A1
    obtain ⟨_, _, ⟨T6, L6, k6, n6⟩, -, X6, ⟨Lc6, hQ6, l6, y6, z6⟩, st6⟩ := X5.virtualBack hx (y := (⟨"com/example/measured_commit/measuredcommit/Deadline", "queryTimeoutSeconds", "(JI)I"⟩ : MethodName)) (z := (⟨"com/example/measured_commit/measuredcommit/Deadline", "queryTimeoutSeconds", "(JI)I"⟩ : MethodName)) hown (mvT hZ (hw _ (List.mem_of_getElem? (i := 33) rfl))) (mvT hZ (hw _ (List.mem_of_getElem? (i := 34) rfl))) (notFace_of_selects (args := #[]) (mvT hZ (hw _ (List.mem_of_getElem? (i := 36) rfl)))) (mvT hZ (hw _ (List.mem_of_getElem? (i := 36) rfl))) (mvT hZ (hw _ (List.mem_of_getElem? (i := 35) rfl))) (by decide) (backOf (W := 0) (own_rm7 l Z a0 hw [] b1 ((x0 + (((1 : Int32).toInt64) * (1000000000 : Int64))) - (1 : Int64)) (0 : Int32) (x0 + ((1 : Int32).toInt64 * (1000000000 : Int64))) T1.heap n0 Z1 F1a (by decide) (own_gt (by rw [own_one]; decide)) rfl) hZ (hw _ (List.mem_of_getElem? (i := 37) rfl)) (hw _ (List.mem_of_getElem? (i := 4) rfl)) (by decide) (by decide)) q6a q6c (g := (mkF m 129 #[.val (.long x0), .second, .val (.int x1), .val (.int (1 : Int32)), .val (.long (((1 : Int32).toInt64) * (1000000000 : Int64))), .second, .val (.long (x0 + (((1 : Int32).toInt64) * (1000000000 : Int64)))), .second, .val (.ref b1), .val (.int (1 : Int32))] [(.int (0 : Int32)), (.long ((x0 + (((1 : Int32).toInt64) * (1000000000 : Int64))) - (1 : Int64))), (.ref b1)])) rfl (by rw [hml]; rfl) (Steps.refl _) (argsL := [(.long ((x0 + (((1 : Int32).toInt64) * (1000000000 : Int64))) - (1 : Int64))), (.int (0 : Int32))]) (rest := []) (lenOf own_pd3 rfl) rfl (by show 2 * 0 + _ ≤ _; exact Nat.le_of_eq rfl) (hb hby at_129) (fun _ _ => ⟨rfl, e5, (by decide : 1 + 0 ≤ _), (by decide : 2 + 0 ≤ _)⟩)
    dsimp only [Pt.U, Pt.locs, Pt.cells, Pt.slots] at X6 l6 y6 z6 st6 hQ6
    subst l6 y6 z6
    obtain ⟨rfl, N6q, e6⟩ := hQ6
    have N6 := Fr.app N5 N6q
    refine own_back (fun t k => st6.trans k) ?_
    show own_Go _ _ _ _ _ _ _ (T6.setTop (mkF m 132 #[.val (.long x0), .second, .val (.int x1), .val (.int (1 : Int32)), .val (.long (((1 : Int32).toInt64) * (1000000000 : Int64))), .second, .val (.long (x0 + (((1 : Int32).toInt64) * (1000000000 : Int64)))), .second, .val (.ref b1), .val (.int (1 : Int32))] [(.int (own_f7_0 (x0 + ((1 : Int32).toInt64 * (1000000000 : Int64))) ((x0 + (((1 : Int32).toInt64) * (1000000000 : Int64))) - (1 : Int64)) (0 : Int32)))]))
    refine own_back (fun t k => XS.iconst X6.here hx rfl (hb hby at_132) k) ?_
    show own_Go _ _ _ _ _ _ _ (T6.setTop (mkF m 133 #[.val (.long x0), .second, .val (.int x1), .val (.int (1 : Int32)), .val (.long (((1 : Int32).toInt64) * (1000000000 : Int64))), .second, .val (.long (x0 + (((1 : Int32).toInt64) * (1000000000 : Int64)))), .second, .val (.ref b1), .val (.int (1 : Int32))] [(.int (1 : Int32)), (.int (own_f7_0 (x0 + ((1 : Int32).toInt64 * (1000000000 : Int64))) ((x0 + (((1 : Int32).toInt64) * (1000000000 : Int64))) - (1 : Int64)) (0 : Int32)))]))
    refine own_back (fun t k => XS.icmpNo X6.here hx rfl (hb hby at_133) rfl (teq ((own_q2 _) : (own_f7_0 (x0 + ((1 : Int32).toInt64 * (1000000000 : Int64))) ((x0 + (((1 : Int32).toInt64) * (1000000000 : Int64))) - (1 : Int64)) (0 : Int32)) = (1 : Int32))).2 k) ?_
    show own_Go _ _ _ _ _ _ _ (T6.setTop (mkF m 136 #[.val (.long x0), .second, .val (.int x1), .val (.int (1 : Int32)), .val (.long (((1 : Int32).toInt64) * (1000000000 : Int64))), .second, .val (.long (x0 + (((1 : Int32).toInt64) * (1000000000 : Int64)))), .second, .val (.ref b1), .val (.int (1 : Int32))] []))
    refine own_back (fun t k => XS.iconst X6.here hx rfl (hb hby at_136) k) ?_
    show own_Go _ _ _ _ _ _ _ (T6.setTop (mkF m 137 #[.val (.long x0), .second, .val (.int x1), .val (.int (1 : Int32)), .val (.long (((1 : Int32).toInt64) * (1000000000 : Int64))), .second, .val (.long (x0 + (((1 : Int32).toInt64) * (1000000000 : Int64)))), .second, .val (.ref b1), .val (.int (1 : Int32))] [(.int (1 : Int32))]))
    refine own_back (fun t k => XS.goto X6.here hx rfl (pc0 := 137) (pc' := 141) rfl (hb hby at_137) (by decide) (by decide) k) ?_
    show own_Go _ _ _ _ _ _ _ (T6.setTop (mkF m 141 #[.val (.long x0), .second, .val (.int x1), .val (.int (1 : Int32)), .val (.long (((1 : Int32).toInt64) * (1000000000 : Int64))), .second, .val (.long (x0 + (((1 : Int32).toInt64) * (1000000000 : Int64)))), .second, .val (.ref b1), .val (.int (1 : Int32))] [(.int (1 : Int32))]))
    refine own_back (fun t k => XS.istore X6.here hx rfl (hb hby at_141) rfl (l' := #[.val (.long x0), .second, .val (.int x1), .val (.int (1 : Int32)), .val (.long (((1 : Int32).toInt64) * (1000000000 : Int64))), .second, .val (.long (x0 + (((1 : Int32).toInt64) * (1000000000 : Int64)))), .second, .val (.ref b1), .val (.int (1 : Int32))]) rfl k) ?_
    show own_Go _ _ _ _ _ _ _ (T6.setTop (mkF m 143 #[.val (.long x0), .second, .val (.int x1), .val (.int (1 : Int32)), .val (.long (((1 : Int32).toInt64) * (1000000000 : Int64))), .second, .val (.long (x0 + (((1 : Int32).toInt64) * (1000000000 : Int64)))), .second, .val (.ref b1), .val (.int (1 : Int32))] []))
    refine own_back (fun t k => XS.iload X6.here hx rfl (hb hby at_143) rfl k) ?_
    show own_Go _ _ _ _ _ _ _ (T6.setTop (mkF m 145 #[.val (.long x0), .second, .val (.int x1), .val (.int (1 : Int32)), .val (.long (((1 : Int32).toInt64) * (1000000000 : Int64))), .second, .val (.long (x0 + (((1 : Int32).toInt64) * (1000000000 : Int64)))), .second, .val (.ref b1), .val (.int (1 : Int32))] [(.int (1 : Int32))]))
    subst hR
    exact own_retN X6 hx (t := .boolean) hret (by simp) (hb hby at_145) hlk (by decide) ⟨rfl, N6, by rw [e6]; exact Z1⟩ (by decide) (by decide)
  · rw [if_neg hc6] at hR
    refine own_back (fun t k => XS.ifYes X.here hx rfl (pc0 := 6) (pc' := 11) rfl (hb hby at_6) rfl ((if0 _ _).trans (feq hc6).2) (by decide) (by decide) k) ?_
    show own_Go _ _ _ _ _ _ _ (T.setTop (mkF m 11 #[.val (.long x0), .second, .val (.int x1), .val (.int (x1 &&& (2147483647 : Int32))), .unset, .unset, .unset, .unset, .unset, .unset] []))
    refine own_back (fun t k => XS.iloadN X.here hx rfl (hb hby at_11) rfl k) ?_
    show own_Go _ _ _ _ _ _ _ (T.setTop (mkF m 12 #[.val (.long x0), .second, .val (.int x1), .val (.int (x1 &&& (2147483647 : Int32))), .unset, .unset, .unset, .unset, .unset, .unset] [(.int (x1 &&& (2147483647 : Int32)))]))
    refine own_back (fun t k => XS.i2l X.here hx rfl (hb hby at_12) rfl k) ?_
    show own_Go _ _ _ _ _ _ _ (T.setTop (mkF m 13 #[.val (.long x0), .second, .val (.int x1), .val (.int (x1 &&& (2147483647 : Int32))), .unset, .unset, .unset, .unset, .unset, .unset] [(.long ((x1 &&& (2147483647 : Int32)).toInt64))]))
    refine own_back (fun t k => X.ldc2Long hx hown (mvT hZ (hw _ (List.mem_of_getElem? (i := 1) rfl))) (g := (mkF m 13 #[.val (.long x0), .second, .val (.int x1), .val (.int (x1 &&& (2147483647 : Int32))), .unset, .unset, .unset, .unset, .unset, .unset] [(.long ((x1 &&& (2147483647 : Int32)).toInt64))])) rfl (hb hby at_13) _ k) ?_
    show own_Go _ _ _ _ _ _ _ (T.setTop (mkF m 16 #[.val (.long x0), .second, .val (.int x1), .val (.int (x1 &&& (2147483647 : Int32))), .unset, .unset, .unset, .unset, .unset, .unset] [(.long (1000000000 : Int64)), (.long ((x1 &&& (2147483647 : Int32)).toInt64))]))
    refine own_back (fun t k => XS.lmul X.here hx rfl (hb hby at_16) rfl k) ?_
    show own_Go _ _ _ _ _ _ _ (T.setTop (mkF m 17 #[.val (.long x0), .second, .val (.int x1), .val (.int (x1 &&& (2147483647 : Int32))), .unset, .unset, .unset, .unset, .unset, .unset] [(.long (((x1 &&& (2147483647 : Int32)).toInt64) * (1000000000 : Int64)))]))
    refine own_back (fun t k => XS.lstore X.here hx rfl (hb hby at_17) rfl (l' := #[.val (.long x0), .second, .val (.int x1), .val (.int (x1 &&& (2147483647 : Int32))), .val (.long (((x1 &&& (2147483647 : Int32)).toInt64) * (1000000000 : Int64))), .second, .unset, .unset, .unset, .unset]) rfl k) ?_
    show own_Go _ _ _ _ _ _ _ (T.setTop (mkF m 19 #[.val (.long x0), .second, .val (.int x1), .val (.int (x1 &&& (2147483647 : Int32))), .val (.long (((x1 &&& (2147483647 : Int32)).toInt64) * (1000000000 : Int64))), .second, .unset, .unset, .unset, .unset] []))
    refine own_back (fun t k => XS.lloadN X.here hx rfl (hb hby at_19) rfl k) ?_
    show own_Go _ _ _ _ _ _ _ (T.setTop (mkF m 20 #[.val (.long x0), .second, .val (.int x1), .val (.int (x1 &&& (2147483647 : Int32))), .val (.long (((x1 &&& (2147483647 : Int32)).toInt64) * (1000000000 : Int64))), .second, .unset, .unset, .unset, .unset] [(.long x0)]))
    refine own_back (fun t k => XS.lload X.here hx rfl (hb hby at_20) rfl k) ?_
    show own_Go _ _ _ _ _ _ _ (T.setTop (mkF m 22 #[.val (.long x0), .second, .val (.int x1), .val (.int (x1 &&& (2147483647 : Int32))), .val (.long (((x1 &&& (2147483647 : Int32)).toInt64) * (1000000000 : Int64))), .second, .unset, .unset, .unset, .unset] [(.long (((x1 &&& (2147483647 : Int32)).toInt64) * (1000000000 : Int64))), (.long x0)]))
    refine own_back (fun t k => XS.ladd X.here hx rfl (hb hby at_22) rfl k) ?_
    show own_Go _ _ _ _ _ _ _ (T.setTop (mkF m 23 #[.val (.long x0), .second, .val (.int x1), .val (.int (x1 &&& (2147483647 : Int32))), .val (.long (((x1 &&& (2147483647 : Int32)).toInt64) * (1000000000 : Int64))), .second, .unset, .unset, .unset, .unset] [(.long (x0 + (((x1 &&& (2147483647 : Int32)).toInt64) * (1000000000 : Int64))))]))
    refine own_back (fun t k => XS.lstore X.here hx rfl (hb hby at_23) rfl (l' := #[.val (.long x0), .second, .val (.int x1), .val (.int (x1 &&& (2147483647 : Int32))), .val (.long (((x1 &&& (2147483647 : Int32)).toInt64) * (1000000000 : Int64))), .second, .val (.long (x0 + (((x1 &&& (2147483647 : Int32)).toInt64) * (1000000000 : Int64)))), .second, .unset, .unset]) rfl k) ?_
    show own_Go _ _ _ _ _ _ _ (T.setTop (mkF m 25 #[.val (.long x0), .second, .val (.int x1), .val (.int (x1 &&& (2147483647 : Int32))), .val (.long (((x1 &&& (2147483647 : Int32)).toInt64) * (1000000000 : Int64))), .second, .val (.long (x0 + (((x1 &&& (2147483647 : Int32)).toInt64) * (1000000000 : Int64)))), .second, .unset, .unset] []))
    refine own_back (fun t k => XS.lloadN X.here hx rfl (hb hby at_25) rfl k) ?_
    show own_Go _ _ _ _ _ _ _ (T.setTop (mkF m 26 #[.val (.long x0), .second, .val (.int x1), .val (.int (x1 &&& (2147483647 : Int32))), .val (.long (((x1 &&& (2147483647 : Int32)).toInt64) * (1000000000 : Int64))), .second, .val (.long (x0 + (((x1 &&& (2147483647 : Int32)).toInt64) * (1000000000 : Int64)))), .second, .unset, .unset] [(.long x0)]))
    refine own_back (fun t k => XS.iloadN X.here hx rfl (hb hby at_26) rfl k) ?_
    show own_Go _ _ _ _ _ _ _ (T.setTop (mkF m 27 #[.val (.long x0), .second, .val (.int x1), .val (.int (x1 &&& (2147483647 : Int32))), .val (.long (((x1 &&& (2147483647 : Int32)).toInt64) * (1000000000 : Int64))), .second, .val (.long (x0 + (((x1 &&& (2147483647 : Int32)).toInt64) * (1000000000 : Int64)))), .second, .unset, .unset] [(.int (x1 &&& (2147483647 : Int32))), (.long x0)]))
    obtain ⟨_, _, ⟨T7, L7, k7, n7⟩, -, X7, ⟨Lc7, hQ7, l7, y7, z7⟩, st7⟩ := Jvm.LawKit.callS X hx (y := (⟨"com/example/measured_commit/measuredcommit/Deadline", "of", "(JI)Lcom/example/measured_commit/measuredcommit/Deadline;"⟩ : MethodName)) hown (mvT hZ (hw _ (List.mem_of_getElem? (i := 2) rfl))) (mvT hZ (hw _ (List.mem_of_getElem? (i := 3) rfl))) (mvT hZ (hw _ (List.mem_of_getElem? (i := 4) rfl))) (mvT hZ (hw _ (List.mem_of_getElem? (i := 5) rfl))) (by decide) (backOf (W := 0) (rm1 l Z a0 hw [] x0 (x1 &&& (2147483647 : Int32)) h0 n0 Z0 (by first | exact own_pos hc6 | decide : (0 : Int32) < (x1 &&& (2147483647 : Int32)))) hZ (hw _ (List.mem_of_getElem? (i := 5) rfl)) (hw _ (List.mem_of_getElem? (i := 4) rfl)) (by decide) (by decide)) (g := (mkF m 27 #[.val (.long x0), .second, .val (.int x1), .val (.int (x1 &&& (2147483647 : Int32))), .val (.long (((x1 &&& (2147483647 : Int32)).toInt64) * (1000000000 : Int64))), .second, .val (.long (x0 + (((x1 &&& (2147483647 : Int32)).toInt64) * (1000000000 : Int64)))), .second, .unset, .unset] [(.int (x1 &&& (2147483647 : Int32))), (.long x0)])) rfl (by rw [hml]; rfl) (argsL := [(.long x0), (.int (x1 &&& (2147483647 : Int32)))]) (rest := []) (lenOf own_pd0 rfl) rfl (by show 2 * 0 + _ ≤ _; exact Nat.le_of_eq rfl) (hb hby at_27) (fun _ _ => ⟨rfl, e0, (by decide : 0 + 1 ≤ _), (by decide : 0 + 2 ≤ _)⟩)
    dsimp only [Pt.U, Pt.locs, Pt.cells, Pt.slots] at X7 l7 y7 z7 st7 hQ7
    subst l7 y7 z7
    obtain ⟨b7, rfl, N7q, Z7, A7, F7a, F7b⟩ := hQ7
    have N7 := Fr.app N N7q
    refine own_back (fun t k => st7 t k) ?_
    show own_Go _ _ _ _ _ _ _ (T7.setTop (mkF m 30 #[.val (.long x0), .second, .val (.int x1), .val (.int (x1 &&& (2147483647 : Int32))), .val (.long (((x1 &&& (2147483647 : Int32)).toInt64) * (1000000000 : Int64))), .second, .val (.long (x0 + (((x1 &&& (2147483647 : Int32)).toInt64) * (1000000000 : Int64)))), .second, .unset, .unset] [(.ref b7)]))
    refine own_back (fun t k => XS.astore X7.here hx rfl (hb hby at_30) rfl rfl (l' := #[.val (.long x0), .second, .val (.int x1), .val (.int (x1 &&& (2147483647 : Int32))), .val (.long (((x1 &&& (2147483647 : Int32)).toInt64) * (1000000000 : Int64))), .second, .val (.long (x0 + (((x1 &&& (2147483647 : Int32)).toInt64) * (1000000000 : Int64)))), .second, .val (.ref b7), .unset]) rfl k) ?_
    show own_Go _ _ _ _ _ _ _ (T7.setTop (mkF m 32 #[.val (.long x0), .second, .val (.int x1), .val (.int (x1 &&& (2147483647 : Int32))), .val (.long (((x1 &&& (2147483647 : Int32)).toInt64) * (1000000000 : Int64))), .second, .val (.long (x0 + (((x1 &&& (2147483647 : Int32)).toInt64) * (1000000000 : Int64)))), .second, .val (.ref b7), .unset] []))
    refine own_back (fun t k => XS.aload X7.here hx rfl (hb hby at_32) rfl rfl k) ?_
    show own_Go _ _ _ _ _ _ _ (T7.setTop (mkF m 34 #[.val (.long x0), .second, .val (.int x1), .val (.int (x1 &&& (2147483647 : Int32))), .val (.long (((x1 &&& (2147483647 : Int32)).toInt64) * (1000000000 : Int64))), .second, .val (.long (x0 + (((x1 &&& (2147483647 : Int32)).toInt64) * (1000000000 : Int64)))), .second, .val (.ref b7), .unset] [(.ref b7)]))
    obtain ⟨cq8, kq8, q8a, q8b, q8c⟩ := isOf hZ rfl A7
    obtain ⟨_, _, ⟨T8, L8, k8, n8⟩, -, X8, ⟨Lc8, hQ8, l8, y8, z8⟩, st8⟩ := X7.virtualBack hx (y := (⟨"com/example/measured_commit/measuredcommit/Deadline", "timeoutSeconds", "()I"⟩ : MethodName)) (z := (⟨"com/example/measured_commit/measuredcommit/Deadline", "timeoutSeconds", "()I"⟩ : MethodName)) hown (mvT hZ (hw _ (List.mem_of_getElem? (i := 23) rfl))) (mvT hZ (hw _ (List.mem_of_getElem? (i := 24) rfl))) (notFace_of_selects (args := #[]) (mvT hZ (hw _ (List.mem_of_getElem? (i := 26) rfl)))) (mvT hZ (hw _ (List.mem_of_getElem? (i := 26) rfl))) (mvT hZ (hw _ (List.mem_of_getElem? (i := 25) rfl))) (by decide) (backOf (W := 0) (own_rm5 l Z a0 hw [] b7 (x1 &&& (2147483647 : Int32)) T7.heap n0 Z7 F7b) hZ (hw _ (List.mem_of_getElem? (i := 27) rfl)) (hw _ (List.mem_of_getElem? (i := 4) rfl)) (by decide) (by decide)) q8a q8c (g := (mkF m 34 #[.val (.long x0), .second, .val (.int x1), .val (.int (x1 &&& (2147483647 : Int32))), .val (.long (((x1 &&& (2147483647 : Int32)).toInt64) * (1000000000 : Int64))), .second, .val (.long (x0 + (((x1 &&& (2147483647 : Int32)).toInt64) * (1000000000 : Int64)))), .second, .val (.ref b7), .unset] [(.ref b7)])) rfl (by rw [hml]; rfl) (Steps.refl _) (argsL := []) (rest := []) (lenOf own_pd1 rfl) rfl (by show 2 * 0 + _ ≤ _; exact Nat.le_of_eq rfl) (hb hby at_34) (fun _ _ => ⟨rfl, rfl, (by decide : 1 + 0 ≤ _), (by decide : 2 + 0 ≤ _)⟩)
    dsimp only [Pt.U, Pt.locs, Pt.cells, Pt.slots] at X8 l8 y8 z8 st8 hQ8
    subst l8 y8 z8
    obtain ⟨rfl, N8q, e8⟩ := hQ8
    have N8 := Fr.app N7 N8q
    refine own_back (fun t k => st8.trans k) ?_
    show own_Go _ _ _ _ _ _ _ (T8.setTop (mkF m 37 #[.val (.long x0), .second, .val (.int x1), .val (.int (x1 &&& (2147483647 : Int32))), .val (.long (((x1 &&& (2147483647 : Int32)).toInt64) * (1000000000 : Int64))), .second, .val (.long (x0 + (((x1 &&& (2147483647 : Int32)).toInt64) * (1000000000 : Int64)))), .second, .val (.ref b7), .unset] [(.int (own_f5_0 (x1 &&& (2147483647 : Int32))))]))
    refine own_back (fun t k => XS.iloadN X8.here hx rfl (hb hby at_37) rfl k) ?_
    show own_Go _ _ _ _ _ _ _ (T8.setTop (mkF m 38 #[.val (.long x0), .second, .val (.int x1), .val (.int (x1 &&& (2147483647 : Int32))), .val (.long (((x1 &&& (2147483647 : Int32)).toInt64) * (1000000000 : Int64))), .second, .val (.long (x0 + (((x1 &&& (2147483647 : Int32)).toInt64) * (1000000000 : Int64)))), .second, .val (.ref b7), .unset] [(.int (x1 &&& (2147483647 : Int32))), (.int (own_f5_0 (x1 &&& (2147483647 : Int32))))]))
    refine own_back (fun t k => XS.icmpNo X8.here hx rfl (hb hby at_38) rfl (teq (rfl : (own_f5_0 (x1 &&& (2147483647 : Int32))) = (x1 &&& (2147483647 : Int32)))).2 k) ?_
    show own_Go _ _ _ _ _ _ _ (T8.setTop (mkF m 41 #[.val (.long x0), .second, .val (.int x1), .val (.int (x1 &&& (2147483647 : Int32))), .val (.long (((x1 &&& (2147483647 : Int32)).toInt64) * (1000000000 : Int64))), .second, .val (.long (x0 + (((x1 &&& (2147483647 : Int32)).toInt64) * (1000000000 : Int64)))), .second, .val (.ref b7), .unset] []))
    refine own_back (fun t k => XS.iconst X8.here hx rfl (hb hby at_41) k) ?_
    show own_Go _ _ _ _ _ _ _ (T8.setTop (mkF m 42 #[.val (.long x0), .second, .val (.int x1), .val (.int (x1 &&& (2147483647 : Int32))), .val (.long (((x1 &&& (2147483647 : Int32)).toInt64) * (1000000000 : Int64))), .second, .val (.long (x0 + (((x1 &&& (2147483647 : Int32)).toInt64) * (1000000000 : Int64)))), .second, .val (.ref b7), .unset] [(.int (1 : Int32))]))
    refine own_back (fun t k => XS.goto X8.here hx rfl (pc0 := 42) (pc' := 46) rfl (hb hby at_42) (by decide) (by decide) k) ?_
    show own_Go _ _ _ _ _ _ _ (T8.setTop (mkF m 46 #[.val (.long x0), .second, .val (.int x1), .val (.int (x1 &&& (2147483647 : Int32))), .val (.long (((x1 &&& (2147483647 : Int32)).toInt64) * (1000000000 : Int64))), .second, .val (.long (x0 + (((x1 &&& (2147483647 : Int32)).toInt64) * (1000000000 : Int64)))), .second, .val (.ref b7), .unset] [(.int (1 : Int32))]))
    refine own_back (fun t k => XS.istore X8.here hx rfl (hb hby at_46) rfl (l' := #[.val (.long x0), .second, .val (.int x1), .val (.int (x1 &&& (2147483647 : Int32))), .val (.long (((x1 &&& (2147483647 : Int32)).toInt64) * (1000000000 : Int64))), .second, .val (.long (x0 + (((x1 &&& (2147483647 : Int32)).toInt64) * (1000000000 : Int64)))), .second, .val (.ref b7), .val (.int (1 : Int32))]) rfl k) ?_
    show own_Go _ _ _ _ _ _ _ (T8.setTop (mkF m 48 #[.val (.long x0), .second, .val (.int x1), .val (.int (x1 &&& (2147483647 : Int32))), .val (.long (((x1 &&& (2147483647 : Int32)).toInt64) * (1000000000 : Int64))), .second, .val (.long (x0 + (((x1 &&& (2147483647 : Int32)).toInt64) * (1000000000 : Int64)))), .second, .val (.ref b7), .val (.int (1 : Int32))] []))
    refine own_back (fun t k => XS.iload X8.here hx rfl (hb hby at_48) rfl k) ?_
    show own_Go _ _ _ _ _ _ _ (T8.setTop (mkF m 50 #[.val (.long x0), .second, .val (.int x1), .val (.int (x1 &&& (2147483647 : Int32))), .val (.long (((x1 &&& (2147483647 : Int32)).toInt64) * (1000000000 : Int64))), .second, .val (.long (x0 + (((x1 &&& (2147483647 : Int32)).toInt64) * (1000000000 : Int64)))), .second, .val (.ref b7), .val (.int (1 : Int32))] [(.int (1 : Int32))]))
    refine own_back (fun t k => XS.ifNo X8.here hx rfl (hb hby at_50) rfl ((if0 _ _).trans (feq ((by decide) : ¬ ((1 : Int32) = (0 : Int32)))).1) k) ?_
    show own_Go _ _ _ _ _ _ _ (T8.setTop (mkF m 53 #[.val (.long x0), .second, .val (.int x1), .val (.int (x1 &&& (2147483647 : Int32))), .val (.long (((x1 &&& (2147483647 : Int32)).toInt64) * (1000000000 : Int64))), .second, .val (.long (x0 + (((x1 &&& (2147483647 : Int32)).toInt64) * (1000000000 : Int64)))), .second, .val (.ref b7), .val (.int (1 : Int32))] []))
    refine own_back (fun t k => XS.aload X8.here hx rfl (hb hby at_53) rfl rfl k) ?_
    show own_Go _ _ _ _ _ _ _ (T8.setTop (mkF m 55 #[.val (.long x0), .second, .val (.int x1), .val (.int (x1 &&& (2147483647 : Int32))), .val (.long (((x1 &&& (2147483647 : Int32)).toInt64) * (1000000000 : Int64))), .second, .val (.long (x0 + (((x1 &&& (2147483647 : Int32)).toInt64) * (1000000000 : Int64)))), .second, .val (.ref b7), .val (.int (1 : Int32))] [(.ref b7)]))
    refine own_back (fun t k => XS.lload X8.here hx rfl (hb hby at_55) rfl k) ?_
    show own_Go _ _ _ _ _ _ _ (T8.setTop (mkF m 57 #[.val (.long x0), .second, .val (.int x1), .val (.int (x1 &&& (2147483647 : Int32))), .val (.long (((x1 &&& (2147483647 : Int32)).toInt64) * (1000000000 : Int64))), .second, .val (.long (x0 + (((x1 &&& (2147483647 : Int32)).toInt64) * (1000000000 : Int64)))), .second, .val (.ref b7), .val (.int (1 : Int32))] [(.long (x0 + (((x1 &&& (2147483647 : Int32)).toInt64) * (1000000000 : Int64)))), (.ref b7)]))
    refine own_back (fun t k => XS.lconst X8.here hx rfl (hb hby at_57) k) ?_
    show own_Go _ _ _ _ _ _ _ (T8.setTop (mkF m 58 #[.val (.long x0), .second, .val (.int x1), .val (.int (x1 &&& (2147483647 : Int32))), .val (.long (((x1 &&& (2147483647 : Int32)).toInt64) * (1000000000 : Int64))), .second, .val (.long (x0 + (((x1 &&& (2147483647 : Int32)).toInt64) * (1000000000 : Int64)))), .second, .val (.ref b7), .val (.int (1 : Int32))] [(.long (1 : Int64)), (.long (x0 + (((x1 &&& (2147483647 : Int32)).toInt64) * (1000000000 : Int64)))), (.ref b7)]))
    refine own_back (fun t k => XS.lsub X8.here hx rfl (hb hby at_58) rfl k) ?_
    show own_Go _ _ _ _ _ _ _ (T8.setTop (mkF m 59 #[.val (.long x0), .second, .val (.int x1), .val (.int (x1 &&& (2147483647 : Int32))), .val (.long (((x1 &&& (2147483647 : Int32)).toInt64) * (1000000000 : Int64))), .second, .val (.long (x0 + (((x1 &&& (2147483647 : Int32)).toInt64) * (1000000000 : Int64)))), .second, .val (.ref b7), .val (.int (1 : Int32))] [(.long ((x0 + (((x1 &&& (2147483647 : Int32)).toInt64) * (1000000000 : Int64))) - (1 : Int64))), (.ref b7)]))
    obtain ⟨cq9, kq9, q9a, q9b, q9c⟩ := isOf hZ e8 A7
    obtain ⟨_, _, ⟨T9, L9, k9, n9⟩, -, X9, ⟨Lc9, hQ9, l9, y9, z9⟩, st9⟩ := X8.virtualBack hx (y := (⟨"com/example/measured_commit/measuredcommit/Deadline", "hasPassed", "(J)Z"⟩ : MethodName)) (z := (⟨"com/example/measured_commit/measuredcommit/Deadline", "hasPassed", "(J)Z"⟩ : MethodName)) hown (mvT hZ (hw _ (List.mem_of_getElem? (i := 28) rfl))) (mvT hZ (hw _ (List.mem_of_getElem? (i := 29) rfl))) (notFace_of_selects (args := #[]) (mvT hZ (hw _ (List.mem_of_getElem? (i := 31) rfl)))) (mvT hZ (hw _ (List.mem_of_getElem? (i := 31) rfl))) (mvT hZ (hw _ (List.mem_of_getElem? (i := 30) rfl))) (by decide) (backOf (W := 0) (own_rm6 l Z a0 hw [] b7 ((x0 + (((x1 &&& (2147483647 : Int32)).toInt64) * (1000000000 : Int64))) - (1 : Int64)) (x0 + ((x1 &&& (2147483647 : Int32)).toInt64 * (1000000000 : Int64))) T7.heap n0 Z7 F7a) hZ (hw _ (List.mem_of_getElem? (i := 32) rfl)) (hw _ (List.mem_of_getElem? (i := 4) rfl)) (by decide) (by decide)) q9a q9c (g := (mkF m 59 #[.val (.long x0), .second, .val (.int x1), .val (.int (x1 &&& (2147483647 : Int32))), .val (.long (((x1 &&& (2147483647 : Int32)).toInt64) * (1000000000 : Int64))), .second, .val (.long (x0 + (((x1 &&& (2147483647 : Int32)).toInt64) * (1000000000 : Int64)))), .second, .val (.ref b7), .val (.int (1 : Int32))] [(.long ((x0 + (((x1 &&& (2147483647 : Int32)).toInt64) * (1000000000 : Int64))) - (1 : Int64))), (.ref b7)])) rfl (by rw [hml]; rfl) (Steps.refl _) (argsL := [(.long ((x0 + (((x1 &&& (2147483647 : Int32)).toInt64) * (1000000000 : Int64))) - (1 : Int64)))]) (rest := []) (lenOf own_pd2 rfl) rfl (by show 2 * 0 + _ ≤ _; exact Nat.le_of_eq rfl) (hb hby at_59) (fun _ _ => ⟨rfl, e8, (by decide : 1 + 0 ≤ _), (by decide : 2 + 0 ≤ _)⟩)
    dsimp only [Pt.U, Pt.locs, Pt.cells, Pt.slots] at X9 l9 y9 z9 st9 hQ9
    subst l9 y9 z9
    obtain ⟨rfl, N9q, e9⟩ := hQ9
    have N9 := Fr.app N8 N9q
    refine own_back (fun t k => st9.trans k) ?_
    show own_Go _ _ _ _ _ _ _ (T9.setTop (mkF m 62 #[.val (.long x0), .second, .val (.int x1), .val (.int (x1 &&& (2147483647 : Int32))), .val (.long (((x1 &&& (2147483647 : Int32)).toInt64) * (1000000000 : Int64))), .second, .val (.long (x0 + (((x1 &&& (2147483647 : Int32)).toInt64) * (1000000000 : Int64)))), .second, .val (.ref b7), .val (.int (1 : Int32))] [(.int (own_f6_0 (x0 + ((x1 &&& (2147483647 : Int32)).toInt64 * (1000000000 : Int64))) ((x0 + (((x1 &&& (2147483647 : Int32)).toInt64) * (1000000000 : Int64))) - (1 : Int64))))]))
    refine own_back (fun t k => XS.ifNo X9.here hx rfl (hb hby at_62) rfl ((if0 _ _).trans (teq ((own_hp0 _) : (own_f6_0 (x0 + ((x1 &&& (2147483647 : Int32)).toInt64 * (1000000000 : Int64))) ((x0 + (((x1 &&& (2147483647 : Int32)).toInt64) * (1000000000 : Int64))) - (1 : Int64))) = (0 : Int32))).2) k) ?_
    show own_Go _ _ _ _ _ _ _ (T9.setTop (mkF m 65 #[.val (.long x0), .second, .val (.int x1), .val (.int (x1 &&& (2147483647 : Int32))), .val (.long (((x1 &&& (2147483647 : Int32)).toInt64) * (1000000000 : Int64))), .second, .val (.long (x0 + (((x1 &&& (2147483647 : Int32)).toInt64) * (1000000000 : Int64)))), .second, .val (.ref b7), .val (.int (1 : Int32))] []))
    refine own_back (fun t k => XS.iconst X9.here hx rfl (hb hby at_65) k) ?_
    show own_Go _ _ _ _ _ _ _ (T9.setTop (mkF m 66 #[.val (.long x0), .second, .val (.int x1), .val (.int (x1 &&& (2147483647 : Int32))), .val (.long (((x1 &&& (2147483647 : Int32)).toInt64) * (1000000000 : Int64))), .second, .val (.long (x0 + (((x1 &&& (2147483647 : Int32)).toInt64) * (1000000000 : Int64)))), .second, .val (.ref b7), .val (.int (1 : Int32))] [(.int (1 : Int32))]))
    refine own_back (fun t k => XS.goto X9.here hx rfl (pc0 := 66) (pc' := 70) rfl (hb hby at_66) (by decide) (by decide) k) ?_
    show own_Go _ _ _ _ _ _ _ (T9.setTop (mkF m 70 #[.val (.long x0), .second, .val (.int x1), .val (.int (x1 &&& (2147483647 : Int32))), .val (.long (((x1 &&& (2147483647 : Int32)).toInt64) * (1000000000 : Int64))), .second, .val (.long (x0 + (((x1 &&& (2147483647 : Int32)).toInt64) * (1000000000 : Int64)))), .second, .val (.ref b7), .val (.int (1 : Int32))] [(.int (1 : Int32))]))
    refine own_back (fun t k => XS.istore X9.here hx rfl (hb hby at_70) rfl (l' := #[.val (.long x0), .second, .val (.int x1), .val (.int (x1 &&& (2147483647 : Int32))), .val (.long (((x1 &&& (2147483647 : Int32)).toInt64) * (1000000000 : Int64))), .second, .val (.long (x0 + (((x1 &&& (2147483647 : Int32)).toInt64) * (1000000000 : Int64)))), .second, .val (.ref b7), .val (.int (1 : Int32))]) rfl k) ?_
    show own_Go _ _ _ _ _ _ _ (T9.setTop (mkF m 72 #[.val (.long x0), .second, .val (.int x1), .val (.int (x1 &&& (2147483647 : Int32))), .val (.long (((x1 &&& (2147483647 : Int32)).toInt64) * (1000000000 : Int64))), .second, .val (.long (x0 + (((x1 &&& (2147483647 : Int32)).toInt64) * (1000000000 : Int64)))), .second, .val (.ref b7), .val (.int (1 : Int32))] []))
    refine own_back (fun t k => XS.iload X9.here hx rfl (hb hby at_72) rfl k) ?_
    show own_Go _ _ _ _ _ _ _ (T9.setTop (mkF m 74 #[.val (.long x0), .second, .val (.int x1), .val (.int (x1 &&& (2147483647 : Int32))), .val (.long (((x1 &&& (2147483647 : Int32)).toInt64) * (1000000000 : Int64))), .second, .val (.long (x0 + (((x1 &&& (2147483647 : Int32)).toInt64) * (1000000000 : Int64)))), .second, .val (.ref b7), .val (.int (1 : Int32))] [(.int (1 : Int32))]))
    refine own_back (fun t k => XS.ifNo X9.here hx rfl (hb hby at_74) rfl ((if0 _ _).trans (feq ((by decide) : ¬ ((1 : Int32) = (0 : Int32)))).1) k) ?_
    show own_Go _ _ _ _ _ _ _ (T9.setTop (mkF m 77 #[.val (.long x0), .second, .val (.int x1), .val (.int (x1 &&& (2147483647 : Int32))), .val (.long (((x1 &&& (2147483647 : Int32)).toInt64) * (1000000000 : Int64))), .second, .val (.long (x0 + (((x1 &&& (2147483647 : Int32)).toInt64) * (1000000000 : Int64)))), .second, .val (.ref b7), .val (.int (1 : Int32))] []))
    refine own_back (fun t k => XS.aload X9.here hx rfl (hb hby at_77) rfl rfl k) ?_
    show own_Go _ _ _ _ _ _ _ (T9.setTop (mkF m 79 #[.val (.long x0), .second, .val (.int x1), .val (.int (x1 &&& (2147483647 : Int32))), .val (.long (((x1 &&& (2147483647 : Int32)).toInt64) * (1000000000 : Int64))), .second, .val (.long (x0 + (((x1 &&& (2147483647 : Int32)).toInt64) * (1000000000 : Int64)))), .second, .val (.ref b7), .val (.int (1 : Int32))] [(.ref b7)]))
    refine own_back (fun t k => XS.lload X9.here hx rfl (hb hby at_79) rfl k) ?_
    show own_Go _ _ _ _ _ _ _ (T9.setTop (mkF m 81 #[.val (.long x0), .second, .val (.int x1), .val (.int (x1 &&& (2147483647 : Int32))), .val (.long (((x1 &&& (2147483647 : Int32)).toInt64) * (1000000000 : Int64))), .second, .val (.long (x0 + (((x1 &&& (2147483647 : Int32)).toInt64) * (1000000000 : Int64)))), .second, .val (.ref b7), .val (.int (1 : Int32))] [(.long (x0 + (((x1 &&& (2147483647 : Int32)).toInt64) * (1000000000 : Int64)))), (.ref b7)]))
    obtain ⟨cq10, kq10, q10a, q10b, q10c⟩ := isOf hZ e9 A7
    obtain ⟨_, _, ⟨T10, L10, k10, n10⟩, -, X10, ⟨Lc10, hQ10, l10, y10, z10⟩, st10⟩ := X9.virtualBack hx (y := (⟨"com/example/measured_commit/measuredcommit/Deadline", "hasPassed", "(J)Z"⟩ : MethodName)) (z := (⟨"com/example/measured_commit/measuredcommit/Deadline", "hasPassed", "(J)Z"⟩ : MethodName)) hown (mvT hZ (hw _ (List.mem_of_getElem? (i := 28) rfl))) (mvT hZ (hw _ (List.mem_of_getElem? (i := 29) rfl))) (notFace_of_selects (args := #[]) (mvT hZ (hw _ (List.mem_of_getElem? (i := 31) rfl)))) (mvT hZ (hw _ (List.mem_of_getElem? (i := 31) rfl))) (mvT hZ (hw _ (List.mem_of_getElem? (i := 30) rfl))) (by decide) (backOf (W := 0) (own_rm6 l Z a0 hw [] b7 (x0 + (((x1 &&& (2147483647 : Int32)).toInt64) * (1000000000 : Int64))) (x0 + ((x1 &&& (2147483647 : Int32)).toInt64 * (1000000000 : Int64))) T7.heap n0 Z7 F7a) hZ (hw _ (List.mem_of_getElem? (i := 32) rfl)) (hw _ (List.mem_of_getElem? (i := 4) rfl)) (by decide) (by decide)) q10a q10c (g := (mkF m 81 #[.val (.long x0), .second, .val (.int x1), .val (.int (x1 &&& (2147483647 : Int32))), .val (.long (((x1 &&& (2147483647 : Int32)).toInt64) * (1000000000 : Int64))), .second, .val (.long (x0 + (((x1 &&& (2147483647 : Int32)).toInt64) * (1000000000 : Int64)))), .second, .val (.ref b7), .val (.int (1 : Int32))] [(.long (x0 + (((x1 &&& (2147483647 : Int32)).toInt64) * (1000000000 : Int64)))), (.ref b7)])) rfl (by rw [hml]; rfl) (Steps.refl _) (argsL := [(.long (x0 + (((x1 &&& (2147483647 : Int32)).toInt64) * (1000000000 : Int64))))]) (rest := []) (lenOf own_pd2 rfl) rfl (by show 2 * 0 + _ ≤ _; exact Nat.le_of_eq rfl) (hb hby at_81) (fun _ _ => ⟨rfl, e9, (by decide : 1 + 0 ≤ _), (by decide : 2 + 0 ≤ _)⟩)
    dsimp only [Pt.U, Pt.locs, Pt.cells, Pt.slots] at X10 l10 y10 z10 st10 hQ10
    subst l10 y10 z10
    obtain ⟨rfl, N10q, e10⟩ := hQ10
    have N10 := Fr.app N9 N10q
    refine own_back (fun t k => st10.trans k) ?_
    show own_Go _ _ _ _ _ _ _ (T10.setTop (mkF m 84 #[.val (.long x0), .second, .val (.int x1), .val (.int (x1 &&& (2147483647 : Int32))), .val (.long (((x1 &&& (2147483647 : Int32)).toInt64) * (1000000000 : Int64))), .second, .val (.long (x0 + (((x1 &&& (2147483647 : Int32)).toInt64) * (1000000000 : Int64)))), .second, .val (.ref b7), .val (.int (1 : Int32))] [(.int (own_f6_0 (x0 + ((x1 &&& (2147483647 : Int32)).toInt64 * (1000000000 : Int64))) (x0 + (((x1 &&& (2147483647 : Int32)).toInt64) * (1000000000 : Int64)))))]))
    refine own_back (fun t k => XS.ifNo X10.here hx rfl (hb hby at_84) rfl ((if0 _ _).trans (feq ((own_hp1 _) : ¬ ((own_f6_0 (x0 + ((x1 &&& (2147483647 : Int32)).toInt64 * (1000000000 : Int64))) (x0 + (((x1 &&& (2147483647 : Int32)).toInt64) * (1000000000 : Int64)))) = (0 : Int32)))).1) k) ?_
    show own_Go _ _ _ _ _ _ _ (T10.setTop (mkF m 87 #[.val (.long x0), .second, .val (.int x1), .val (.int (x1 &&& (2147483647 : Int32))), .val (.long (((x1 &&& (2147483647 : Int32)).toInt64) * (1000000000 : Int64))), .second, .val (.long (x0 + (((x1 &&& (2147483647 : Int32)).toInt64) * (1000000000 : Int64)))), .second, .val (.ref b7), .val (.int (1 : Int32))] []))
    refine own_back (fun t k => XS.iconst X10.here hx rfl (hb hby at_87) k) ?_
    show own_Go _ _ _ _ _ _ _ (T10.setTop (mkF m 88 #[.val (.long x0), .second, .val (.int x1), .val (.int (x1 &&& (2147483647 : Int32))), .val (.long (((x1 &&& (2147483647 : Int32)).toInt64) * (1000000000 : Int64))), .second, .val (.long (x0 + (((x1 &&& (2147483647 : Int32)).toInt64) * (1000000000 : Int64)))), .second, .val (.ref b7), .val (.int (1 : Int32))] [(.int (1 : Int32))]))
    refine own_back (fun t k => XS.goto X10.here hx rfl (pc0 := 88) (pc' := 92) rfl (hb hby at_88) (by decide) (by decide) k) ?_
    show own_Go _ _ _ _ _ _ _ (T10.setTop (mkF m 92 #[.val (.long x0), .second, .val (.int x1), .val (.int (x1 &&& (2147483647 : Int32))), .val (.long (((x1 &&& (2147483647 : Int32)).toInt64) * (1000000000 : Int64))), .second, .val (.long (x0 + (((x1 &&& (2147483647 : Int32)).toInt64) * (1000000000 : Int64)))), .second, .val (.ref b7), .val (.int (1 : Int32))] [(.int (1 : Int32))]))
    refine own_back (fun t k => XS.istore X10.here hx rfl (hb hby at_92) rfl (l' := #[.val (.long x0), .second, .val (.int x1), .val (.int (x1 &&& (2147483647 : Int32))), .val (.long (((x1 &&& (2147483647 : Int32)).toInt64) * (1000000000 : Int64))), .second, .val (.long (x0 + (((x1 &&& (2147483647 : Int32)).toInt64) * (1000000000 : Int64)))), .second, .val (.ref b7), .val (.int (1 : Int32))]) rfl k) ?_
    show own_Go _ _ _ _ _ _ _ (T10.setTop (mkF m 94 #[.val (.long x0), .second, .val (.int x1), .val (.int (x1 &&& (2147483647 : Int32))), .val (.long (((x1 &&& (2147483647 : Int32)).toInt64) * (1000000000 : Int64))), .second, .val (.long (x0 + (((x1 &&& (2147483647 : Int32)).toInt64) * (1000000000 : Int64)))), .second, .val (.ref b7), .val (.int (1 : Int32))] []))
    refine own_back (fun t k => XS.iload X10.here hx rfl (hb hby at_94) rfl k) ?_
    show own_Go _ _ _ _ _ _ _ (T10.setTop (mkF m 96 #[.val (.long x0), .second, .val (.int x1), .val (.int (x1 &&& (2147483647 : Int32))), .val (.long (((x1 &&& (2147483647 : Int32)).toInt64) * (1000000000 : Int64))), .second, .val (.long (x0 + (((x1 &&& (2147483647 : Int32)).toInt64) * (1000000000 : Int64)))), .second, .val (.ref b7), .val (.int (1 : Int32))] [(.int (1 : Int32))]))
    refine own_back (fun t k => XS.ifNo X10.here hx rfl (hb hby at_96) rfl ((if0 _ _).trans (feq ((by decide) : ¬ ((1 : Int32) = (0 : Int32)))).1) k) ?_
    show own_Go _ _ _ _ _ _ _ (T10.setTop (mkF m 99 #[.val (.long x0), .second, .val (.int x1), .val (.int (x1 &&& (2147483647 : Int32))), .val (.long (((x1 &&& (2147483647 : Int32)).toInt64) * (1000000000 : Int64))), .second, .val (.long (x0 + (((x1 &&& (2147483647 : Int32)).toInt64) * (1000000000 : Int64)))), .second, .val (.ref b7), .val (.int (1 : Int32))] []))
    refine own_back (fun t k => XS.aload X10.here hx rfl (hb hby at_99) rfl rfl k) ?_
    show own_Go _ _ _ _ _ _ _ (T10.setTop (mkF m 101 #[.val (.long x0), .second, .val (.int x1), .val (.int (x1 &&& (2147483647 : Int32))), .val (.long (((x1 &&& (2147483647 : Int32)).toInt64) * (1000000000 : Int64))), .second, .val (.long (x0 + (((x1 &&& (2147483647 : Int32)).toInt64) * (1000000000 : Int64)))), .second, .val (.ref b7), .val (.int (1 : Int32))] [(.ref b7)]))
    refine own_back (fun t k => XS.lloadN X10.here hx rfl (hb hby at_101) rfl k) ?_
    show own_Go _ _ _ _ _ _ _ (T10.setTop (mkF m 102 #[.val (.long x0), .second, .val (.int x1), .val (.int (x1 &&& (2147483647 : Int32))), .val (.long (((x1 &&& (2147483647 : Int32)).toInt64) * (1000000000 : Int64))), .second, .val (.long (x0 + (((x1 &&& (2147483647 : Int32)).toInt64) * (1000000000 : Int64)))), .second, .val (.ref b7), .val (.int (1 : Int32))] [(.long x0), (.ref b7)]))
    refine own_back (fun t k => XS.iconst X10.here hx rfl (hb hby at_102) k) ?_
    show own_Go _ _ _ _ _ _ _ (T10.setTop (mkF m 103 #[.val (.long x0), .second, .val (.int x1), .val (.int (x1 &&& (2147483647 : Int32))), .val (.long (((x1 &&& (2147483647 : Int32)).toInt64) * (1000000000 : Int64))), .second, .val (.long (x0 + (((x1 &&& (2147483647 : Int32)).toInt64) * (1000000000 : Int64)))), .second, .val (.ref b7), .val (.int (1 : Int32))] [(.int (0 : Int32)), (.long x0), (.ref b7)]))
    obtain ⟨cq11, kq11, q11a, q11b, q11c⟩ := isOf hZ e10 A7
    obtain ⟨_, _, ⟨T11, L11, k11, n11⟩, -, X11, ⟨Lc11, hQ11, l11, y11, z11⟩, st11⟩ := X10.virtualBack hx (y := (⟨"com/example/measured_commit/measuredcommit/Deadline", "queryTimeoutSeconds", "(JI)I"⟩ : MethodName)) (z := (⟨"com/example/measured_commit/measuredcommit/Deadline", "queryTimeoutSeconds", "(JI)I"⟩ : MethodName)) hown (mvT hZ (hw _ (List.mem_of_getElem? (i := 33) rfl))) (mvT hZ (hw _ (List.mem_of_getElem? (i := 34) rfl))) (notFace_of_selects (args := #[]) (mvT hZ (hw _ (List.mem_of_getElem? (i := 36) rfl)))) (mvT hZ (hw _ (List.mem_of_getElem? (i := 36) rfl))) (mvT hZ (hw _ (List.mem_of_getElem? (i := 35) rfl))) (by decide) (backOf (W := 0) (own_rm7 l Z a0 hw [] b7 x0 (0 : Int32) (x0 + ((x1 &&& (2147483647 : Int32)).toInt64 * (1000000000 : Int64))) T7.heap n0 Z7 F7a (by decide) (own_gt (own_left _ (by first | exact own_pos hc6 | decide : (0 : Int32) < (x1 &&& (2147483647 : Int32))))) rfl) hZ (hw _ (List.mem_of_getElem? (i := 37) rfl)) (hw _ (List.mem_of_getElem? (i := 4) rfl)) (by decide) (by decide)) q11a q11c (g := (mkF m 103 #[.val (.long x0), .second, .val (.int x1), .val (.int (x1 &&& (2147483647 : Int32))), .val (.long (((x1 &&& (2147483647 : Int32)).toInt64) * (1000000000 : Int64))), .second, .val (.long (x0 + (((x1 &&& (2147483647 : Int32)).toInt64) * (1000000000 : Int64)))), .second, .val (.ref b7), .val (.int (1 : Int32))] [(.int (0 : Int32)), (.long x0), (.ref b7)])) rfl (by rw [hml]; rfl) (Steps.refl _) (argsL := [(.long x0), (.int (0 : Int32))]) (rest := []) (lenOf own_pd3 rfl) rfl (by show 2 * 0 + _ ≤ _; exact Nat.le_of_eq rfl) (hb hby at_103) (fun _ _ => ⟨rfl, e10, (by decide : 1 + 0 ≤ _), (by decide : 2 + 0 ≤ _)⟩)
    dsimp only [Pt.U, Pt.locs, Pt.cells, Pt.slots] at X11 l11 y11 z11 st11 hQ11
    subst l11 y11 z11
    obtain ⟨rfl, N11q, e11⟩ := hQ11
    have N11 := Fr.app N10 N11q
    refine own_back (fun t k => st11.trans k) ?_
    show own_Go _ _ _ _ _ _ _ (T11.setTop (mkF m 106 #[.val (.long x0), .second, .val (.int x1), .val (.int (x1 &&& (2147483647 : Int32))), .val (.long (((x1 &&& (2147483647 : Int32)).toInt64) * (1000000000 : Int64))), .second, .val (.long (x0 + (((x1 &&& (2147483647 : Int32)).toInt64) * (1000000000 : Int64)))), .second, .val (.ref b7), .val (.int (1 : Int32))] [(.int (own_f7_0 (x0 + ((x1 &&& (2147483647 : Int32)).toInt64 * (1000000000 : Int64))) x0 (0 : Int32)))]))
    refine own_back (fun t k => XS.iloadN X11.here hx rfl (hb hby at_106) rfl k) ?_
    show own_Go _ _ _ _ _ _ _ (T11.setTop (mkF m 107 #[.val (.long x0), .second, .val (.int x1), .val (.int (x1 &&& (2147483647 : Int32))), .val (.long (((x1 &&& (2147483647 : Int32)).toInt64) * (1000000000 : Int64))), .second, .val (.long (x0 + (((x1 &&& (2147483647 : Int32)).toInt64) * (1000000000 : Int64)))), .second, .val (.ref b7), .val (.int (1 : Int32))] [(.int (x1 &&& (2147483647 : Int32))), (.int (own_f7_0 (x0 + ((x1 &&& (2147483647 : Int32)).toInt64 * (1000000000 : Int64))) x0 (0 : Int32)))]))
    refine own_back (fun t k => XS.icmpNo X11.here hx rfl (hb hby at_107) rfl (teq ((own_q1 _ (by first | exact own_pos hc6 | decide : (0 : Int32) < (x1 &&& (2147483647 : Int32)))) : (own_f7_0 (x0 + ((x1 &&& (2147483647 : Int32)).toInt64 * (1000000000 : Int64))) x0 (0 : Int32)) = (x1 &&& (2147483647 : Int32)))).2 k) ?_
    show own_Go _ _ _ _ _ _ _ (T11.setTop (mkF m 110 #[.val (.long x0), .second, .val (.int x1), .val (.int (x1 &&& (2147483647 : Int32))), .val (.long (((x1 &&& (2147483647 : Int32)).toInt64) * (1000000000 : Int64))), .second, .val (.long (x0 + (((x1 &&& (2147483647 : Int32)).toInt64) * (1000000000 : Int64)))), .second, .val (.ref b7), .val (.int (1 : Int32))] []))
    refine own_back (fun t k => XS.iconst X11.here hx rfl (hb hby at_110) k) ?_
    show own_Go _ _ _ _ _ _ _ (T11.setTop (mkF m 111 #[.val (.long x0), .second, .val (.int x1), .val (.int (x1 &&& (2147483647 : Int32))), .val (.long (((x1 &&& (2147483647 : Int32)).toInt64) * (1000000000 : Int64))), .second, .val (.long (x0 + (((x1 &&& (2147483647 : Int32)).toInt64) * (1000000000 : Int64)))), .second, .val (.ref b7), .val (.int (1 : Int32))] [(.int (1 : Int32))]))
    refine own_back (fun t k => XS.goto X11.here hx rfl (pc0 := 111) (pc' := 115) rfl (hb hby at_111) (by decide) (by decide) k) ?_
    show own_Go _ _ _ _ _ _ _ (T11.setTop (mkF m 115 #[.val (.long x0), .second, .val (.int x1), .val (.int (x1 &&& (2147483647 : Int32))), .val (.long (((x1 &&& (2147483647 : Int32)).toInt64) * (1000000000 : Int64))), .second, .val (.long (x0 + (((x1 &&& (2147483647 : Int32)).toInt64) * (1000000000 : Int64)))), .second, .val (.ref b7), .val (.int (1 : Int32))] [(.int (1 : Int32))]))
    refine own_back (fun t k => XS.istore X11.here hx rfl (hb hby at_115) rfl (l' := #[.val (.long x0), .second, .val (.int x1), .val (.int (x1 &&& (2147483647 : Int32))), .val (.long (((x1 &&& (2147483647 : Int32)).toInt64) * (1000000000 : Int64))), .second, .val (.long (x0 + (((x1 &&& (2147483647 : Int32)).toInt64) * (1000000000 : Int64)))), .second, .val (.ref b7), .val (.int (1 : Int32))]) rfl k) ?_
    show own_Go _ _ _ _ _ _ _ (T11.setTop (mkF m 117 #[.val (.long x0), .second, .val (.int x1), .val (.int (x1 &&& (2147483647 : Int32))), .val (.long (((x1 &&& (2147483647 : Int32)).toInt64) * (1000000000 : Int64))), .second, .val (.long (x0 + (((x1 &&& (2147483647 : Int32)).toInt64) * (1000000000 : Int64)))), .second, .val (.ref b7), .val (.int (1 : Int32))] []))
    refine own_back (fun t k => XS.iload X11.here hx rfl (hb hby at_117) rfl k) ?_
    show own_Go _ _ _ _ _ _ _ (T11.setTop (mkF m 119 #[.val (.long x0), .second, .val (.int x1), .val (.int (x1 &&& (2147483647 : Int32))), .val (.long (((x1 &&& (2147483647 : Int32)).toInt64) * (1000000000 : Int64))), .second, .val (.long (x0 + (((x1 &&& (2147483647 : Int32)).toInt64) * (1000000000 : Int64)))), .second, .val (.ref b7), .val (.int (1 : Int32))] [(.int (1 : Int32))]))
    refine own_back (fun t k => XS.ifNo X11.here hx rfl (hb hby at_119) rfl ((if0 _ _).trans (feq ((by decide) : ¬ ((1 : Int32) = (0 : Int32)))).1) k) ?_
    show own_Go _ _ _ _ _ _ _ (T11.setTop (mkF m 122 #[.val (.long x0), .second, .val (.int x1), .val (.int (x1 &&& (2147483647 : Int32))), .val (.long (((x1 &&& (2147483647 : Int32)).toInt64) * (1000000000 : Int64))), .second, .val (.long (x0 + (((x1 &&& (2147483647 : Int32)).toInt64) * (1000000000 : Int64)))), .second, .val (.ref b7), .val (.int (1 : Int32))] []))
    refine own_back (fun t k => XS.aload X11.here hx rfl (hb hby at_122) rfl rfl k) ?_
    show own_Go _ _ _ _ _ _ _ (T11.setTop (mkF m 124 #[.val (.long x0), .second, .val (.int x1), .val (.int (x1 &&& (2147483647 : Int32))), .val (.long (((x1 &&& (2147483647 : Int32)).toInt64) * (1000000000 : Int64))), .second, .val (.long (x0 + (((x1 &&& (2147483647 : Int32)).toInt64) * (1000000000 : Int64)))), .second, .val (.ref b7), .val (.int (1 : Int32))] [(.ref b7)]))
    refine own_back (fun t k => XS.lload X11.here hx rfl (hb hby at_124) rfl k) ?_
    show own_Go _ _ _ _ _ _ _ (T11.setTop (mkF m 126 #[.val (.long x0), .second, .val (.int x1), .val (.int (x1 &&& (2147483647 : Int32))), .val (.long (((x1 &&& (2147483647 : Int32)).toInt64) * (1000000000 : Int64))), .second, .val (.long (x0 + (((x1 &&& (2147483647 : Int32)).toInt64) * (1000000000 : Int64)))), .second, .val (.ref b7), .val (.int (1 : Int32))] [(.long (x0 + (((x1 &&& (2147483647 : Int32)).toInt64) * (1000000000 : Int64)))), (.ref b7)]))
    refine own_back (fun t k => XS.lconst X11.here hx rfl (hb hby at_126) k) ?_
    show own_Go _ _ _ _ _ _ _ (T11.setTop (mkF m 127 #[.val (.long x0), .second, .val (.int x1), .val (.int (x1 &&& (2147483647 : Int32))), .val (.long (((x1 &&& (2147483647 : Int32)).toInt64) * (1000000000 : Int64))), .second, .val (.long (x0 + (((x1 &&& (2147483647 : Int32)).toInt64) * (1000000000 : Int64)))), .second, .val (.ref b7), .val (.int (1 : Int32))] [(.long (1 : Int64)), (.long (x0 + (((x1 &&& (2147483647 : Int32)).toInt64) * (1000000000 : Int64)))), (.ref b7)]))
    refine own_back (fun t k => XS.lsub X11.here hx rfl (hb hby at_127) rfl k) ?_
    show own_Go _ _ _ _ _ _ _ (T11.setTop (mkF m 128 #[.val (.long x0), .second, .val (.int x1), .val (.int (x1 &&& (2147483647 : Int32))), .val (.long (((x1 &&& (2147483647 : Int32)).toInt64) * (1000000000 : Int64))), .second, .val (.long (x0 + (((x1 &&& (2147483647 : Int32)).toInt64) * (1000000000 : Int64)))), .second, .val (.ref b7), .val (.int (1 : Int32))] [(.long ((x0 + (((x1 &&& (2147483647 : Int32)).toInt64) * (1000000000 : Int64))) - (1 : Int64))), (.ref b7)]))
    refine own_back (fun t k => XS.iconst X11.here hx rfl (hb hby at_128) k) ?_
    show own_Go _ _ _ _ _ _ _ (T11.setTop (mkF m 129 #[.val (.long x0), .second, .val (.int x1), .val (.int (x1 &&& (2147483647 : Int32))), .val (.long (((x1 &&& (2147483647 : Int32)).toInt64) * (1000000000 : Int64))), .second, .val (.long (x0 + (((x1 &&& (2147483647 : Int32)).toInt64) * (1000000000 : Int64)))), .second, .val (.ref b7), .val (.int (1 : Int32))] [(.int (0 : Int32)), (.long ((x0 + (((x1 &&& (2147483647 : Int32)).toInt64) * (1000000000 : Int64))) - (1 : Int64))), (.ref b7)]))
    obtain ⟨cq12, kq12, q12a, q12b, q12c⟩ := isOf hZ e11 A7
    obtain ⟨_, _, ⟨T12, L12, k12, n12⟩, -, X12, ⟨Lc12, hQ12, l12, y12, z12⟩, st12⟩ := X11.virtualBack hx (y := (⟨"com/example/measured_commit/measuredcommit/Deadline", "queryTimeoutSeconds", "(JI)I"⟩ : MethodName)) (z := (⟨"com/example/measured_commit/measuredcommit/Deadline", "queryTimeoutSeconds", "(JI)I"⟩ : MethodName)) hown (mvT hZ (hw _ (List.mem_of_getElem? (i := 33) rfl))) (mvT hZ (hw _ (List.mem_of_getElem? (i := 34) rfl))) (notFace_of_selects (args := #[]) (mvT hZ (hw _ (List.mem_of_getElem? (i := 36) rfl)))) (mvT hZ (hw _ (List.mem_of_getElem? (i := 36) rfl))) (mvT hZ (hw _ (List.mem_of_getElem? (i := 35) rfl))) (by decide) (backOf (W := 0) (own_rm7 l Z a0 hw [] b7 ((x0 + (((x1 &&& (2147483647 : Int32)).toInt64) * (1000000000 : Int64))) - (1 : Int64)) (0 : Int32) (x0 + ((x1 &&& (2147483647 : Int32)).toInt64 * (1000000000 : Int64))) T7.heap n0 Z7 F7a (by decide) (own_gt (by rw [own_one]; decide)) rfl) hZ (hw _ (List.mem_of_getElem? (i := 37) rfl)) (hw _ (List.mem_of_getElem? (i := 4) rfl)) (by decide) (by decide)) q12a q12c (g := (mkF m 129 #[.val (.long x0), .second, .val (.int x1), .val (.int (x1 &&& (2147483647 : Int32))), .val (.long (((x1 &&& (2147483647 : Int32)).toInt64) * (1000000000 : Int64))), .second, .val (.long (x0 + (((x1 &&& (2147483647 : Int32)).toInt64) * (1000000000 : Int64)))), .second, .val (.ref b7), .val (.int (1 : Int32))] [(.int (0 : Int32)), (.long ((x0 + (((x1 &&& (2147483647 : Int32)).toInt64) * (1000000000 : Int64))) - (1 : Int64))), (.ref b7)])) rfl (by rw [hml]; rfl) (Steps.refl _) (argsL := [(.long ((x0 + (((x1 &&& (2147483647 : Int32)).toInt64) * (1000000000 : Int64))) - (1 : Int64))), (.int (0 : Int32))]) (rest := []) (lenOf own_pd3 rfl) rfl (by show 2 * 0 + _ ≤ _; exact Nat.le_of_eq rfl) (hb hby at_129) (fun _ _ => ⟨rfl, e11, (by decide : 1 + 0 ≤ _), (by decide : 2 + 0 ≤ _)⟩)
    dsimp only [Pt.U, Pt.locs, Pt.cells, Pt.slots] at X12 l12 y12 z12 st12 hQ12
    subst l12 y12 z12
    obtain ⟨rfl, N12q, e12⟩ := hQ12
    have N12 := Fr.app N11 N12q
    refine own_back (fun t k => st12.trans k) ?_
    show own_Go _ _ _ _ _ _ _ (T12.setTop (mkF m 132 #[.val (.long x0), .second, .val (.int x1), .val (.int (x1 &&& (2147483647 : Int32))), .val (.long (((x1 &&& (2147483647 : Int32)).toInt64) * (1000000000 : Int64))), .second, .val (.long (x0 + (((x1 &&& (2147483647 : Int32)).toInt64) * (1000000000 : Int64)))), .second, .val (.ref b7), .val (.int (1 : Int32))] [(.int (own_f7_0 (x0 + ((x1 &&& (2147483647 : Int32)).toInt64 * (1000000000 : Int64))) ((x0 + (((x1 &&& (2147483647 : Int32)).toInt64) * (1000000000 : Int64))) - (1 : Int64)) (0 : Int32)))]))
    refine own_back (fun t k => XS.iconst X12.here hx rfl (hb hby at_132) k) ?_
    show own_Go _ _ _ _ _ _ _ (T12.setTop (mkF m 133 #[.val (.long x0), .second, .val (.int x1), .val (.int (x1 &&& (2147483647 : Int32))), .val (.long (((x1 &&& (2147483647 : Int32)).toInt64) * (1000000000 : Int64))), .second, .val (.long (x0 + (((x1 &&& (2147483647 : Int32)).toInt64) * (1000000000 : Int64)))), .second, .val (.ref b7), .val (.int (1 : Int32))] [(.int (1 : Int32)), (.int (own_f7_0 (x0 + ((x1 &&& (2147483647 : Int32)).toInt64 * (1000000000 : Int64))) ((x0 + (((x1 &&& (2147483647 : Int32)).toInt64) * (1000000000 : Int64))) - (1 : Int64)) (0 : Int32)))]))
    refine own_back (fun t k => XS.icmpNo X12.here hx rfl (hb hby at_133) rfl (teq ((own_q2 _) : (own_f7_0 (x0 + ((x1 &&& (2147483647 : Int32)).toInt64 * (1000000000 : Int64))) ((x0 + (((x1 &&& (2147483647 : Int32)).toInt64) * (1000000000 : Int64))) - (1 : Int64)) (0 : Int32)) = (1 : Int32))).2 k) ?_
    show own_Go _ _ _ _ _ _ _ (T12.setTop (mkF m 136 #[.val (.long x0), .second, .val (.int x1), .val (.int (x1 &&& (2147483647 : Int32))), .val (.long (((x1 &&& (2147483647 : Int32)).toInt64) * (1000000000 : Int64))), .second, .val (.long (x0 + (((x1 &&& (2147483647 : Int32)).toInt64) * (1000000000 : Int64)))), .second, .val (.ref b7), .val (.int (1 : Int32))] []))
    refine own_back (fun t k => XS.iconst X12.here hx rfl (hb hby at_136) k) ?_
    show own_Go _ _ _ _ _ _ _ (T12.setTop (mkF m 137 #[.val (.long x0), .second, .val (.int x1), .val (.int (x1 &&& (2147483647 : Int32))), .val (.long (((x1 &&& (2147483647 : Int32)).toInt64) * (1000000000 : Int64))), .second, .val (.long (x0 + (((x1 &&& (2147483647 : Int32)).toInt64) * (1000000000 : Int64)))), .second, .val (.ref b7), .val (.int (1 : Int32))] [(.int (1 : Int32))]))
    refine own_back (fun t k => XS.goto X12.here hx rfl (pc0 := 137) (pc' := 141) rfl (hb hby at_137) (by decide) (by decide) k) ?_
    show own_Go _ _ _ _ _ _ _ (T12.setTop (mkF m 141 #[.val (.long x0), .second, .val (.int x1), .val (.int (x1 &&& (2147483647 : Int32))), .val (.long (((x1 &&& (2147483647 : Int32)).toInt64) * (1000000000 : Int64))), .second, .val (.long (x0 + (((x1 &&& (2147483647 : Int32)).toInt64) * (1000000000 : Int64)))), .second, .val (.ref b7), .val (.int (1 : Int32))] [(.int (1 : Int32))]))
    refine own_back (fun t k => XS.istore X12.here hx rfl (hb hby at_141) rfl (l' := #[.val (.long x0), .second, .val (.int x1), .val (.int (x1 &&& (2147483647 : Int32))), .val (.long (((x1 &&& (2147483647 : Int32)).toInt64) * (1000000000 : Int64))), .second, .val (.long (x0 + (((x1 &&& (2147483647 : Int32)).toInt64) * (1000000000 : Int64)))), .second, .val (.ref b7), .val (.int (1 : Int32))]) rfl k) ?_
    show own_Go _ _ _ _ _ _ _ (T12.setTop (mkF m 143 #[.val (.long x0), .second, .val (.int x1), .val (.int (x1 &&& (2147483647 : Int32))), .val (.long (((x1 &&& (2147483647 : Int32)).toInt64) * (1000000000 : Int64))), .second, .val (.long (x0 + (((x1 &&& (2147483647 : Int32)).toInt64) * (1000000000 : Int64)))), .second, .val (.ref b7), .val (.int (1 : Int32))] []))
    refine own_back (fun t k => XS.iload X12.here hx rfl (hb hby at_143) rfl k) ?_
    show own_Go _ _ _ _ _ _ _ (T12.setTop (mkF m 145 #[.val (.long x0), .second, .val (.int x1), .val (.int (x1 &&& (2147483647 : Int32))), .val (.long (((x1 &&& (2147483647 : Int32)).toInt64) * (1000000000 : Int64))), .second, .val (.long (x0 + (((x1 &&& (2147483647 : Int32)).toInt64) * (1000000000 : Int64)))), .second, .val (.ref b7), .val (.int (1 : Int32))] [(.int (1 : Int32))]))
    subst hR
    exact own_retN X12 hx (t := .boolean) hret (by simp) (hb hby at_145) hlk (by decide) ⟨rfl, N12, by rw [e12]; exact Z7⟩ (by decide) (by decide)
theorem own_pn0 : plainName "com/example/measured_commit/measuredcommit/DeadlineOfPinLaw" = true := by first | (simp [plainName, overriddenIn]; done) | decide +kernel
theorem own_ef0 (m : MethodId) (x0 : Int64) (x1 : Int32) : entryFrame m #[(.long x0), (.int x1)] maxLocals = mkF m 0 #[.val (.long x0), .second, .val (.int x1), .unset, .unset, .unset, .unset, .unset, .unset, .unset] [] := by first | (simp [entryFrame, mkF, argsToLocals, Value.category, maxLocals]; done) | rfl
set_option maxRecDepth 65536 in
set_option maxHeartbeats 4000000 in
theorem own_rm0 (l : Launch) (Z : State) (a0 : Array Value) (hw : ∀ d ∈ tables_1, d.before a0 Z = true) (ws : List Jvm.Cond) (x0 : Int64) (x1 : Int32) (h0 : Heap) (n0 : Nat) (Z0 : n0 ≤ h0.size) :
    MetFree l x (head1 (Jvm.Cond.code x code maxLocals ret :: ws) room_1) (fun a U => a = #[(.long x0), (.int x1)] ∧ Z.Warmed39 U.vm ∧ U.heap = h0) (fun _ _ _ _ _ => True) (fun _ U o U' => ∃ v L, o = .returned v ∧ own_QG (.int (own_f0_0 x0 x1)) h0 n0 v U'.heap L ∧ FrameEnd U o U' L room_1.cells room_1.slots) := by
  refine MetFree.of_bodySF (plainFor_of_name own_pn0) hisR ?_
  intro p e s m args below meth c s₁ Bd hml0 hP hK
  obtain ⟨rfl, hZ, hh⟩ := hP
  have X0 : Stand p l e room_1 s m #[(.long x0), (.int x1)] below meth c s₁ [] 0 0 := Stand.of_body Bd
  have e0 : s₁.heap = h0 := by rw [← hh, Bd.state]; rfl
  refine own_back (s := s) (fun t k => castTop (own_ef0 m x0 x1) k) ?_
  exact own_l0_0 X0 Bd.exec hZ hw Bd.bytes hml0 (findClass_of_methodNamed Bd.named) Bd.returns (BodyLoose.notSynchronized Bd) e0 (Fr.nil n0) Z0 x0 x1 rfl
theorem own_plain (x : Int64) (y : Int32) : own_f0_0 x y = 1 := by
  unfold own_f0_0
  rw [ite_self]
set_option maxRecDepth 65536 in
set_option maxHeartbeats 4000000 in
theorem own_comes {Post : Tables → Env → Array Value → State → Outcome → State → Prop} (hpost : ∀ tb e args s v u, (limb_1_1.after args s (.returned v) u = true ∧ limb_1_2.after args s (.returned v) u = true) → FrameEnd s (.returned v) u (Jvm.fieldLocs frame_1_writes args s ++ Jvm.arrayLocs frame_1_arrays args s ++ Jvm.staticLocs frame_1_statics s) 16 128 → Post tb e args s (.returned v) u) :
    ArmFor flags0 classFile x code maxLocals ret World_1 tables_1 room_1 Calls_1 rest_1 Pre_1 Post := by
  intro l hfl _ _ p e ha hc hk s m args below hf hA hF happ hP
  obtain ⟨hcalls, hrest, hpre⟩ := hP
  obtain ⟨-, -, -, hnamed, -, -, -, hat⟩ := (Spec.applies_iff hf).mp happ
  obtain ⟨hg, hn⟩ := and_e (Cond.before_iff.mp (show (Jvm.Cond.and given_1 narrow_1).before args s = true from hpre))
  obtain ⟨hcnt, hg0⟩ := and_e hg
  obtain ⟨ha0, hg1⟩ := and_e hg0
  have ha1 := hg1
  obtain ⟨w0, w1, rfl⟩ : ∃ w0 w1 : Value, args = #[w0, w1] := by
    have hs : args.size = 2 := by simpa [Cond.value, given_1] using hcnt
    obtain ⟨L⟩ := args
    match L, hs with
    | [w0, w1], _ => exact ⟨w0, w1, rfl⟩
  have hw := fun d (hd : d ∈ tables_1) => atoms_spec (ws := Jvm.Cond.code x code maxLocals ret :: tables_1) hat d (List.mem_cons_of_mem _ hd)
  obtain ⟨v0, ev0⟩ := isL_v ha0
  obtain rfl : w0 = (.long v0) := Option.some.inj ev0
  obtain ⟨v1, ev1⟩ := is_v ha1
  obtain rfl : w1 = (.int v1) := Option.some.inj ev1
  obtain ⟨n, o, h1, h2, h3, _, L, rfl, ⟨rfl, N, _⟩, hq⟩ := own_rm0 l s _ hw tables_1 v0 v1 s.heap s.heap.size (Nat.le_refl _) p e ha hc hk s m _ below hf ((Spec.applies_iff_loose hf).mp happ).1 ⟨rfl, State.Warmed39.refl s, rfl⟩ trivial
  refine ⟨n, _, h1, h2, h3, hpost _ _ _ _ _ _ ⟨Cond.after_iff.mpr rfl, Cond.after_iff.mpr (eq_i res_at (Term.int_eval (1)) (congrArg Value.int (own_plain v0 v1)))⟩ ⟨hq.1, hq.2.1, (hq.2.2.sift fun y hy => Or.inr (N y hy)).mono (by decide) (by decide)⟩⟩
theorem main_1_1 : Claimed_1_1 := own_comes fun _ _ _ _ _ _ h hF => ⟨h.1, hF⟩
theorem main_1_2 : Claimed_1_2 := own_comes fun _ _ _ _ _ _ h hF => ⟨h.2, hF⟩
end Jvm.Pilot.@@N@@
namespace Jvm.Pilot.@@N@@
open Jvm Jvm.ClassFile Sem Op Lib Jvm.Free Jvm.Stand Jvm.Pilot.@@N@@.Jvm.D
/-! MADE BY PROGRAM (witnessworld.py) out of the Statement's table words and the real class files: 10 classes; the members and pool entries that the words name. The judged class is class 1, her method 1. -/
namespace start1
open Jvm.ClassFile
def u (s : String) : CpInfo := .utf8 (stringToUtf16 s)
/-- a pool by its gaps: so many unusable entries, then the entry; so many at the end -/
def gap : Nat → List CpInfo → List CpInfo
  | 0, r => r
  | n + 1, r => .unusable :: gap n r
def poolList (es : List (Nat × CpInfo)) (last : Nat) : List CpInfo := es.foldr (fun e r => gap e.1 (e.2 :: r)) (gap last [])
def pool (es : List (Nat × CpInfo)) (last : Nat) : Array CpInfo := ⟨poolList es last⟩
def fileOf (pool : Array CpInfo) (this : Nat) (attrs : Array Attribute := #[]) (ms : Array MethodInfo := #[]) (fl : Nat := 33) (sup : Nat := 0) (ifs : Array Nat := #[]) (fds : Array FieldInfo := #[]) : ClassFile where
  minorVersion := 0
  majorVersion := 65
  constantPool := pool
  accessFlags := fl
  thisClass := this
  superClass := sup
  interfaces := ifs
  fields := fds
  methods := ms
  attributes := attrs
def plain (name : String) (sup : Option ClassId) : Class where
  name := name
  kind := .ordinary
  loader := none
  accessFlags := 33
  super := sup
  interfaces := #[]
  cf := none
  fields := #[]
  methods := #[]
  instanceTypes := #[]
  staticTypes := #[]
  resolved := #[]
  callSites := []
  init := .initialized
  statics := none
  mirror := none

def pool0 : Array CpInfo := pool [(5, u "<init>"), (0, u "()V"), (1, .class_ 10), (1, u "java/lang/Object")] 113

def k0c0 : Code := { maxStack := 0, maxLocals := 1, code := object_method_1_code, exceptionTable := #[], attributes := #[] }
def k0m0 : Method := { name := "<init>", desc := "()V", sig := { parameters := [], returnType := none }, accessFlags := 1, code := some k0c0 }
/-- java/lang/Object -/
def k0 : Class := { plain "java/lang/Object" none with
  accessFlags := 33
  interfaces := #[]
  cf := some (fileOf pool0 8 #[] #[{ accessFlags := 1, nameIndex := 5, descriptorIndex := 6, attributes := #[] }] 33 0 #[] #[])
  fields := #[]
  methods := #[k0m0]
  instanceTypes := #[]
  staticTypes := #[]
  resolved := Array.replicate 124 none
  statics := none }

def pool1 : Array CpInfo := pool [(2, .class_ 4), (1, u "java/lang/Object"), (0, u "<init>"), (0, u "()V"), (0, .integer 2147483647), (0, .long 1000000000), (1, .methodref 11 12), (0, .class_ 13), (0, .nameAndType 14 15), (0, u "com/example/measured_commit/measuredcommit/Deadline"), (0, u "of"), (0, u "(JI)Lcom/example/measured_commit/measuredcommit/Deadline;"), (0, .methodref 11 17), (0, .nameAndType 18 19), (0, u "timeoutSeconds"), (0, u "()I"), (0, .methodref 11 21), (0, .nameAndType 22 23), (0, u "hasPassed"), (0, u "(J)Z"), (0, .methodref 11 25), (0, .nameAndType 26 27), (0, u "queryTimeoutSeconds"), (0, u "(JI)I"), (0, .class_ 29), (0, u "com/example/measured_commit/measuredcommit/DeadlineOfPinLaw"), (2, u "law"), (0, u "(JI)Z")] 3

def k1m0 : Method := { name := "<init>", desc := "()V", sig := { parameters := [], returnType := none }, accessFlags := 1, code := none }
def k1c1 : Code := { maxStack := 5, maxLocals := 10, code := code, exceptionTable := #[], attributes := #[] }
def k1m1 : Method := { name := "law", desc := "(JI)Z", sig := { parameters := [.long, .int], returnType := some .boolean }, accessFlags := 9, code := some k1c1 }
/-- com/example/measured_commit/measuredcommit/DeadlineOfPinLaw -/
def k1 : Class := { plain "com/example/measured_commit/measuredcommit/DeadlineOfPinLaw" (some 0) with
  accessFlags := 49
  interfaces := #[]
  cf := some (fileOf pool1 28 #[] #[{ accessFlags := 1, nameIndex := 5, descriptorIndex := 6, attributes := #[] }, { accessFlags := 9, nameIndex := 32, descriptorIndex := 33, attributes := #[] }] 49 2 #[] #[])
  fields := #[]
  methods := #[k1m0, k1m1]
  instanceTypes := #[]
  staticTypes := #[]
  resolved := Array.replicate 37 none
  statics := none }

def pool2 : Array CpInfo := pool [(1, .methodref 2 3), (0, .class_ 4), (0, .nameAndType 5 6), (0, u "java/lang/Object"), (0, u "<init>"), (0, u "()V"), (0, .fieldref 8 9), (0, .class_ 10), (0, .nameAndType 11 12), (0, u "com/example/measured_commit/measuredcommit/Deadline"), (0, u "deadlineNanos"), (0, u "J"), (0, .fieldref 8 14), (0, .nameAndType 15 16), (0, u "timeoutSeconds"), (0, u "I"), (0, .methodref 18 19), (0, .class_ 20), (0, .nameAndType 21 22), (0, u "com/example/measured_commit/measuredcommit/TransactionSettings"), (0, u "requireTimeout"), (0, u "(I)I"), (0, .long 1000000000), (1, .methodref 8 26), (0, .nameAndType 5 27), (0, u "(JI)V"), (21, u "NANOS_PER_SECOND"), (3, u "of"), (0, u "(JI)Lcom/example/measured_commit/measuredcommit/Deadline;"), (0, u "()I"), (3, u "hasPassed"), (0, u "(J)Z"), (0, u "queryTimeoutSeconds"), (0, u "(JI)I")] 19

def k2c0 : Code := { maxStack := 3, maxLocals := 4, code := prog_8_method_1_code, exceptionTable := #[], attributes := #[] }
def k2m0 : Method := { name := "<init>", desc := "(JI)V", sig := { parameters := [.long, .int], returnType := none }, accessFlags := 2, code := some k2c0 }
def k2c1 : Code := { maxStack := 8, maxLocals := 3, code := prog_8_method_2_code, exceptionTable := #[], attributes := #[] }
def k2m1 : Method := { name := "of", desc := "(JI)Lcom/example/measured_commit/measuredcommit/Deadline;", sig := { parameters := [.long, .int], returnType := some (.object "com/example/measured_commit/measuredcommit/Deadline") }, accessFlags := 8, code := some k2c1 }
def k2c2 : Code := { maxStack := 1, maxLocals := 1, code := prog_8_method_3_code, exceptionTable := #[], attributes := #[] }
def k2m2 : Method := { name := "timeoutSeconds", desc := "()I", sig := { parameters := [], returnType := some .int }, accessFlags := 0, code := some k2c2 }
def k2c3 : Code := { maxStack := 4, maxLocals := 3, code := prog_8_method_5_code, exceptionTable := #[], attributes := #[] }
def k2m3 : Method := { name := "hasPassed", desc := "(J)Z", sig := { parameters := [.long], returnType := some .boolean }, accessFlags := 0, code := some k2c3 }
def k2c4 : Code := { maxStack := 4, maxLocals := 8, code := prog_8_method_6_code, exceptionTable := #[], attributes := #[] }
def k2m4 : Method := { name := "queryTimeoutSeconds", desc := "(JI)I", sig := { parameters := [.long, .int], returnType := some .int }, accessFlags := 0, code := some k2c4 }
/-- com/example/measured_commit/measuredcommit/Deadline -/
def k2 : Class := { plain "com/example/measured_commit/measuredcommit/Deadline" (some 0) with
  accessFlags := 48
  interfaces := #[]
  cf := some (fileOf pool2 8 #[] #[{ accessFlags := 2, nameIndex := 5, descriptorIndex := 27, attributes := #[] }, { accessFlags := 8, nameIndex := 53, descriptorIndex := 54, attributes := #[] }, { accessFlags := 0, nameIndex := 15, descriptorIndex := 55, attributes := #[] }, { accessFlags := 0, nameIndex := 59, descriptorIndex := 60, attributes := #[] }, { accessFlags := 0, nameIndex := 61, descriptorIndex := 62, attributes := #[] }] 48 2 #[] #[{ accessFlags := 26, nameIndex := 49, descriptorIndex := 12, attributes := #[] }, { accessFlags := 18, nameIndex := 11, descriptorIndex := 12, attributes := #[] }, { accessFlags := 18, nameIndex := 15, descriptorIndex := 16, attributes := #[] }])
  fields := #[{ name := "NANOS_PER_SECOND", type := .long, accessFlags := 26, slot := 0, constantValue := 0 }, { name := "deadlineNanos", type := .long, accessFlags := 18, slot := 0, constantValue := 0 }, { name := "timeoutSeconds", type := .int, accessFlags := 18, slot := 1, constantValue := 0 }]
  methods := #[k2m0, k2m1, k2m2, k2m3, k2m4]
  instanceTypes := #[.long, .int]
  staticTypes := #[.long]
  resolved := Array.replicate 82 none
  statics := none }

def pool3 : Array CpInfo := pool [(2, .class_ 4), (1, u "java/lang/Object"), (3, .class_ 10), (1, u "com/example/measured_commit/measuredcommit/TransactionSettings"), (0, u "propagation"), (0, u "Lcom/example/measured_commit/measuredcommit/Propagation;"), (2, u "isolation"), (0, u "Lcom/example/measured_commit/measuredcommit/Isolation;"), (2, u "readOnly"), (0, u "Ljava/lang/Boolean;"), (2, u "timeout"), (0, u "Ljava/lang/Integer;"), (2, u "commitOn"), (0, u "Ljava/util/List;"), (2, u "DECLARING_NOTHING"), (0, u "[Lcom/example/measured_commit/measuredcommit/TransactionSettings;"), (27, u "requireTimeout"), (0, u "(I)I")] 141

def k3c0 : Code := { maxStack := 3, maxLocals := 1, code := prog_63_method_13_code, exceptionTable := #[], attributes := #[] }
def k3m0 : Method := { name := "requireTimeout", desc := "(I)I", sig := { parameters := [.int], returnType := some .int }, accessFlags := 8, code := some k3c0 }
/-- com/example/measured_commit/measuredcommit/TransactionSettings -/
def k3 : Class := { plain "com/example/measured_commit/measuredcommit/TransactionSettings" (some 0) with
  accessFlags := 49
  interfaces := #[]
  cf := some (fileOf pool3 8 #[] #[{ accessFlags := 8, nameIndex := 60, descriptorIndex := 61, attributes := #[] }] 49 2 #[] #[{ accessFlags := 26, nameIndex := 31, descriptorIndex := 32, attributes := #[] }, { accessFlags := 18, nameIndex := 11, descriptorIndex := 12, attributes := #[] }, { accessFlags := 18, nameIndex := 15, descriptorIndex := 16, attributes := #[] }, { accessFlags := 18, nameIndex := 19, descriptorIndex := 20, attributes := #[] }, { accessFlags := 18, nameIndex := 23, descriptorIndex := 24, attributes := #[] }, { accessFlags := 18, nameIndex := 27, descriptorIndex := 28, attributes := #[] }])
  fields := #[{ name := "DECLARING_NOTHING", type := (.array (.object "com/example/measured_commit/measuredcommit/TransactionSettings")), accessFlags := 26, slot := 0, constantValue := 0 }, { name := "propagation", type := (.object "com/example/measured_commit/measuredcommit/Propagation"), accessFlags := 18, slot := 0, constantValue := 0 }, { name := "isolation", type := (.object "com/example/measured_commit/measuredcommit/Isolation"), accessFlags := 18, slot := 1, constantValue := 0 }, { name := "readOnly", type := (.object "java/lang/Boolean"), accessFlags := 18, slot := 2, constantValue := 0 }, { name := "timeout", type := (.object "java/lang/Integer"), accessFlags := 18, slot := 3, constantValue := 0 }, { name := "commitOn", type := (.object "java/util/List"), accessFlags := 18, slot := 4, constantValue := 0 }]
  methods := #[k3m0]
  instanceTypes := #[(.object "com/example/measured_commit/measuredcommit/Propagation"), (.object "com/example/measured_commit/measuredcommit/Isolation"), (.object "java/lang/Boolean"), (.object "java/lang/Integer"), (.object "java/util/List")]
  staticTypes := #[(.array (.object "com/example/measured_commit/measuredcommit/TransactionSettings"))]
  resolved := Array.replicate 203 none
  statics := none }

def pool4 : Array CpInfo := pool [(1, u "java/lang/Cloneable"), (0, .class_ 1), (0, u "java/lang/Object"), (0, .class_ 3)] 3

/-- java/lang/Cloneable -/
def k4 : Class := { plain "java/lang/Cloneable" (some 0) with
  accessFlags := 1537
  interfaces := #[]
  cf := some (fileOf pool4 2 #[] #[] 1537 4 #[] #[])
  fields := #[]
  methods := #[]
  instanceTypes := #[]
  staticTypes := #[]
  resolved := Array.replicate 8 none
  statics := none }

def pool5 : Array CpInfo := pool [(1, u "java/io/Serializable"), (0, .class_ 1), (0, u "java/lang/Object"), (0, .class_ 3)] 3

/-- java/io/Serializable -/
def k5 : Class := { plain "java/io/Serializable" (some 0) with
  accessFlags := 1537
  interfaces := #[]
  cf := some (fileOf pool5 2 #[] #[] 1537 4 #[] #[])
  fields := #[]
  methods := #[]
  instanceTypes := #[]
  staticTypes := #[]
  resolved := Array.replicate 8 none
  statics := none }

/-- the primitive byte -/
def k6 : Class := { plain "byte" none with kind := .primitive 'B', accessFlags := 0x411 }
/-- [B -/
def k7 : Class := { plain "[B" (some 0) with kind := .array 6 .byte, interfaces := #[4, 5], accessFlags := 1041 }

/-- the primitive int -/
def k8 : Class := { plain "int" none with kind := .primitive 'I', accessFlags := 0x411 }
/-- [I -/
def k9 : Class := { plain "[I" (some 0) with kind := .array 8 .int, interfaces := #[4, 5], accessFlags := 1041 }

def heap : Heap := #[]
def classes : Array Class := #[k0, k1, k2, k3, k4, k5, k6, k7, k8, k9]
def interned : List (Array UInt16 × Addr) := []
def slotsUsed : Nat := 0
def theMethod : MethodId := ⟨1, 1⟩
def args0 : Array Value := #[.long 5, .int 7]
def aboutOver (below : List Frame) : State where
  vm := { classes := classes, interned := interned.toArray }
  heap := heap
  slotsUsed := slotsUsed
  threads := #[{ frames := .invoking theMethod args0 :: below }]
def below0 : List Frame := [.native { method := ⟨0, 0⟩, args := #[] }]
def about1 : State := aboutOver below0
def p0 : Program := .bare "" "" ""
def e0 : Env := launch0.env 0 0 0
theorem w_frames : about1.frames = Frame.invoking theMethod args0 :: below0 := rfl
set_option maxRecDepth 65536 in
theorem w_args : argsFit about1.vm theMethod args0 = true := by decide +kernel
set_option maxRecDepth 65536 in
theorem w_heap : heapFits about1 = true := by decide +kernel
set_option maxRecDepth 65536 in
theorem w_runnable : about1.curStatus? = some .runnable := by decide +kernel
set_option maxRecDepth 65536 in
theorem w_alone : about1.alone = true := by decide +kernel
set_option maxRecDepth 65536 in
theorem w_named : about1.methodNamed? x = some theMethod := by decide +kernel
set_option maxRecDepth 65536 in
theorem w_hears : about1.hears theMethod below0 = true := by decide +kernel
set_option maxRecDepth 65536 in
theorem w_ripe : about1.ripe theMethod args0 below0 = true := by decide +kernel
theorem w_running : about1.status = .running := rfl
set_option maxRecDepth 65536 in
theorem w_room : about1.hasRoom e0.platform room_1 = true :=
  launch0.hasRoom_least _ room_1 (by decide +kernel) (by decide +kernel) (by decide +kernel) (by decide +kernel) (by decide +kernel) (by decide +kernel)
theorem allAtoms_all (ts : List Jvm.Cond) (a : Array Jvm.Value) (st : Jvm.State) : (allAtoms ts).before a st = ts.all (fun c => c.before a st) := by
  induction ts with
  | nil => rfl
  | cons c t ih =>
    show (Jvm.Cond.and c (allAtoms t)).before a st = _
    rw [Jvm.Cond.before_and, ih, List.all_cons]
def words1 : List Jvm.Cond := Jvm.Cond.code x code maxLocals ret :: tables_1
/-- a 'code' word, met by the world's own term for the bytes: nothing is compared byte by byte -/
theorem code_word {y : MethodName} {bytes : ByteArray} {mx : Nat} {rt : Option FieldType} {a : Array Value} {s : State} {m : MethodId} {meth : Method} {c : Code} (h1 : s.methodNamed? y = some m) (h2 : s.vm.method? m = some meth) (h3 : meth.code = some c) (h4 : c.code = bytes)
    (h5 : (c.maxLocals == mx && c.exceptionTable.isEmpty && decide (c.maxStack ≤ mostOperands) && decide (meth.sig.returnType = rt) && !meth.locks && decide (parseMethodDescriptor y.desc = some meth.sig)) = true) : (Jvm.Cond.code y bytes mx rt).before a s = true := by
  simp only [Bool.and_eq_true, beq_iff_eq, Bool.not_eq_true', decide_eq_true_eq] at h5
  obtain ⟨⟨⟨⟨⟨g1, g2⟩, g3⟩, g4⟩, g5⟩, g6⟩ := h5
  simp [Cond.before, Cond.holds, Cond.value, h1, h2, h3, h4, g1, g2, g3, g4, g5, g6]
def isCode : Jvm.Cond → Bool
  | .code _ _ _ _ => true
  | _ => false
theorem all_split {L : List Jvm.Cond} {P : Jvm.Cond → Bool} (h1 : L.all (fun c => isCode c || P c) = true) (h2 : ∀ c ∈ L.filter isCode, P c = true) : L.all P = true := by
  refine List.all_eq_true.mpr fun c hc => ?_
  have h := List.all_eq_true.mp h1 c hc
  rcases Bool.eq_false_or_eq_true (isCode c) with hi | hi
  · exact h2 c (List.mem_filter.mpr ⟨hc, hi⟩)
  · simpa [hi] using h
set_option maxRecDepth 65536 in
theorem w_c0 : (Jvm.Cond.code x code maxLocals ret).before args0 about1 = true := code_word (m := ⟨1, 1⟩) (meth := k1m1) (c := k1c1) (by decide +kernel) rfl rfl rfl (by decide +kernel)
set_option maxRecDepth 65536 in
theorem w_c1 : (Jvm.Cond.code ({ cls := "com/example/measured_commit/measuredcommit/Deadline", name := "of", desc := "(JI)Lcom/example/measured_commit/measuredcommit/Deadline;" } : Jvm.MethodName) prog_8_method_2_code (3 : Nat) (Option.some (Jvm.ClassFile.FieldType.object "com/example/measured_commit/measuredcommit/Deadline"))).before args0 about1 = true := code_word (m := ⟨2, 1⟩) (meth := k2m1) (c := k2c1) (by decide +kernel) rfl rfl rfl (by decide +kernel)
set_option maxRecDepth 65536 in
theorem w_c2 : (Jvm.Cond.code ({ cls := "com/example/measured_commit/measuredcommit/TransactionSettings", name := "requireTimeout", desc := "(I)I" } : Jvm.MethodName) prog_63_method_13_code (1 : Nat) (Option.some Jvm.ClassFile.FieldType.int)).before args0 about1 = true := code_word (m := ⟨3, 0⟩) (meth := k3m0) (c := k3c0) (by decide +kernel) rfl rfl rfl (by decide +kernel)
set_option maxRecDepth 65536 in
theorem w_c3 : (Jvm.Cond.code ({ cls := "com/example/measured_commit/measuredcommit/Deadline", name := "<init>", desc := "(JI)V" } : Jvm.MethodName) prog_8_method_1_code (4 : Nat) (Option.none : Option Jvm.ClassFile.FieldType)).before args0 about1 = true := code_word (m := ⟨2, 0⟩) (meth := k2m0) (c := k2c0) (by decide +kernel) rfl rfl rfl (by decide +kernel)
set_option maxRecDepth 65536 in
theorem w_c4 : (Jvm.Cond.code ({ cls := "java/lang/Object", name := "<init>", desc := "()V" } : Jvm.MethodName) object_method_1_code (1 : Nat) (Option.none : Option Jvm.ClassFile.FieldType)).before args0 about1 = true := code_word (m := ⟨0, 0⟩) (meth := k0m0) (c := k0c0) (by decide +kernel) rfl rfl rfl (by decide +kernel)
set_option maxRecDepth 65536 in
theorem w_c5 : (Jvm.Cond.code ({ cls := "com/example/measured_commit/measuredcommit/Deadline", name := "timeoutSeconds", desc := "()I" } : Jvm.MethodName) prog_8_method_3_code (1 : Nat) (Option.some Jvm.ClassFile.FieldType.int)).before args0 about1 = true := code_word (m := ⟨2, 2⟩) (meth := k2m2) (c := k2c2) (by decide +kernel) rfl rfl rfl (by decide +kernel)
set_option maxRecDepth 65536 in
theorem w_c6 : (Jvm.Cond.code ({ cls := "com/example/measured_commit/measuredcommit/Deadline", name := "hasPassed", desc := "(J)Z" } : Jvm.MethodName) prog_8_method_5_code (3 : Nat) (Option.some Jvm.ClassFile.FieldType.boolean)).before args0 about1 = true := code_word (m := ⟨2, 3⟩) (meth := k2m3) (c := k2c3) (by decide +kernel) rfl rfl rfl (by decide +kernel)
set_option maxRecDepth 65536 in
theorem w_c7 : (Jvm.Cond.code ({ cls := "com/example/measured_commit/measuredcommit/Deadline", name := "queryTimeoutSeconds", desc := "(JI)I" } : Jvm.MethodName) prog_8_method_6_code (8 : Nat) (Option.some Jvm.ClassFile.FieldType.int)).before args0 about1 = true := code_word (m := ⟨2, 4⟩) (meth := k2m4) (c := k2c4) (by decide +kernel) rfl rfl rfl (by decide +kernel)
def codes1 : List Jvm.Cond := [Jvm.Cond.code x code maxLocals ret, Jvm.Cond.code ({ cls := "com/example/measured_commit/measuredcommit/Deadline", name := "of", desc := "(JI)Lcom/example/measured_commit/measuredcommit/Deadline;" } : Jvm.MethodName) prog_8_method_2_code (3 : Nat) (Option.some (Jvm.ClassFile.FieldType.object "com/example/measured_commit/measuredcommit/Deadline")), Jvm.Cond.code ({ cls := "com/example/measured_commit/measuredcommit/TransactionSettings", name := "requireTimeout", desc := "(I)I" } : Jvm.MethodName) prog_63_method_13_code (1 : Nat) (Option.some Jvm.ClassFile.FieldType.int), Jvm.Cond.code ({ cls := "com/example/measured_commit/measuredcommit/Deadline", name := "<init>", desc := "(JI)V" } : Jvm.MethodName) prog_8_method_1_code (4 : Nat) (Option.none : Option Jvm.ClassFile.FieldType), Jvm.Cond.code ({ cls := "java/lang/Object", name := "<init>", desc := "()V" } : Jvm.MethodName) object_method_1_code (1 : Nat) (Option.none : Option Jvm.ClassFile.FieldType), Jvm.Cond.code ({ cls := "com/example/measured_commit/measuredcommit/Deadline", name := "timeoutSeconds", desc := "()I" } : Jvm.MethodName) prog_8_method_3_code (1 : Nat) (Option.some Jvm.ClassFile.FieldType.int), Jvm.Cond.code ({ cls := "com/example/measured_commit/measuredcommit/Deadline", name := "hasPassed", desc := "(J)Z" } : Jvm.MethodName) prog_8_method_5_code (3 : Nat) (Option.some Jvm.ClassFile.FieldType.boolean), Jvm.Cond.code ({ cls := "com/example/measured_commit/measuredcommit/Deadline", name := "queryTimeoutSeconds", desc := "(JI)I" } : Jvm.MethodName) prog_8_method_6_code (8 : Nat) (Option.some Jvm.ClassFile.FieldType.int)]
set_option maxRecDepth 65536 in
theorem codes_eq : words1.filter isCode = codes1 := rfl
theorem w_codes : ∀ c ∈ words1.filter isCode, c.before args0 about1 = true := by
  rw [codes_eq]
  intro c hc
  simp only [codes1, List.mem_cons, List.not_mem_nil, or_false] at hc
  rcases hc with rfl | rfl | rfl | rfl | rfl | rfl | rfl | rfl
  · exact w_c0
  · exact w_c1
  · exact w_c2
  · exact w_c3
  · exact w_c4
  · exact w_c5
  · exact w_c6
  · exact w_c7
set_option maxRecDepth 65536 in
theorem w_t1 : (words1.take 24).all (fun c => isCode c || c.before args0 about1) = true := by decide +kernel
set_option maxRecDepth 65536 in
theorem w_t2 : (words1.drop 24).all (fun c => isCode c || c.before args0 about1) = true := by decide +kernel
theorem w_tables : (allAtoms (Jvm.Cond.code x code maxLocals ret :: tables_1)).before args0 about1 = true := by
  rw [allAtoms_all]
  show words1.all (fun c => c.before args0 about1) = true
  refine all_split ?_ w_codes
  rw [← List.take_append_drop 24 words1, List.all_append, w_t1, w_t2]
  rfl
set_option maxRecDepth 65536 in
theorem w_case : (Jvm.Cond.and given_1 narrow_1).before args0 about1 = true := by decide +kernel
theorem w_applies : (headSpec (Jvm.Cond.code x code maxLocals ret :: tables_1) room_1).applies x e0.platform about1 = true :=
  (Spec.applies_iff w_frames).mpr ⟨w_running, w_runnable, w_alone, w_named, w_hears, w_ripe, w_room, w_tables⟩
theorem atStart : AtStart classFile x code maxLocals ret World_1 tables_1 room_1 Calls_1 rest_1 Pre_1 launch0 p0 e0 about1 theMethod args0 below0 :=
  ⟨lists_1, trivial, launch0.admits_env _ _ _, launch0.least_env, fairChoices_fair.cas, fairChoices_fair.clock, w_frames, w_args, w_heap, w_applies, trivial, trivial, w_case⟩
end start1
theorem witness_1 : WitnessClaimed_1 := ⟨start1.p0, start1.e0, start1.about1, start1.theMethod, start1.args0, start1.below0, start1.atStart⟩
end Jvm.Pilot.@@N@@
