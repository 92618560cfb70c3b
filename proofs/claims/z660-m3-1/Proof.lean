import JvmDerived
import JvmDerived.Pilot.@@N@@Statement
import JvmDerived.Pilot.@@N@@Code
set_option linter.unusedVariables false
set_option linter.unusedSimpArgs false
namespace Jvm.Pilot.@@N@@
open Jvm Jvm.ClassFile Sem Op Lib Jvm.Free Jvm.Stand Jvm.LawKit Jvm.RoadKit Bundle Jvm.Pilot.@@N@@.Jvm.D
/-- from the state A the run comes to the method's end, and Q says what it left -/
def own_Go (p : Program) (e : Env) (below : List Frame) (s : State) (K M : Nat) (Q : Option Value → Heap → List Loc → Prop) (A : State) : Prop :=
  ∃ s₂ o, Steps p.tables e below A s₂ ∧ s₂.status = .running ∧ Ended s₂ below o ∧ ∃ v L, o = .returned v ∧ Q v s₂.heap L ∧ FrameEnd s o s₂ L K M
theorem own_back {p : Program} {e : Env} {below : List Frame} {s : State} {K M : Nat} {Q : Option Value → Heap → List Loc → Prop} {A B : State} (h : ∀ t, Steps p.tables e below B t → Steps p.tables e below A t) (g : own_Go p e below s K M Q B) : own_Go p e below s K M Q A := by
  obtain ⟨s₂, o, h1, h2⟩ := g
  exact ⟨s₂, o, h _ h1, h2⟩
theorem own_retN {p : Program} {l : Launch} {e : Env} {R : Room} {s : State} {m : MethodId} {args : Array Value} {below : List Frame} {meth : Method} {c : Code} {T : State} {locs : List Loc} {cells slots K M : Nat} {Q : Option Value → Heap → List Loc → Prop}
    (X : Stand p l e R s m args below meth c T locs cells slots) (hx : p.tables.exec = Jvm.exec) {pc : Nat} {Ls : Array Slot} {z r : Int32} {t : FieldType} {rest : List Value} (hret : meth.sig.returnType = some t) (ht : t = .boolean ∨ t = .byte ∨ t = .char ∨ t = .short) (hd : decode c.code pc = .ok (.ireturn, 1)) (hlk : meth.locks = false)
    (hr : nar t z = r) (hq : Q (some (.int r)) T.heap locs) (hK : cells ≤ K) (hM : slots ≤ M) : own_Go p e below s K M Q (T.setTop (mkF m pc Ls (.int z :: rest))) := by
  subst hr
  obtain ⟨fs, hr, hrun, hended, hW, hsame⟩ := X.leave (v := some (.int (nar t z))) (fun h => by rw [hret] at h; cases h)
  exact ⟨_, _, retN X hx hret ht hd hr, hrun, hended, _, _, rfl, hq, ⟨_, rfl⟩, hW, hsame.mono hK hM⟩
theorem own_retI {p : Program} {l : Launch} {e : Env} {R : Room} {s : State} {m : MethodId} {args : Array Value} {below : List Frame} {meth : Method} {c : Code} {T : State} {locs : List Loc} {cells slots K M : Nat} {Q : Option Value → Heap → List Loc → Prop}
    (X : Stand p l e R s m args below meth c T locs cells slots) (hx : p.tables.exec = Jvm.exec) {pc : Nat} {Ls : Array Slot} {z : Int32} {rest : List Value} (hret : meth.sig.returnType = some .int) (hd : decode c.code pc = .ok (.ireturn, 1)) (hlk : meth.locks = false)
    (hq : Q (some (.int z)) T.heap locs) (hK : cells ≤ K) (hM : slots ≤ M) : own_Go p e below s K M Q (T.setTop (mkF m pc Ls (.int z :: rest))) := by
  obtain ⟨fs, hr, hrun, hended, hW, hsame⟩ := X.leave (v := some (.int z)) (fun h => by rw [hret] at h; cases h)
  refine ⟨_, _, ?_, hrun, hended, _, _, rfl, hq, ⟨_, rfl⟩, hW, hsame.mono hK hM⟩
  have hm' : T.vm.method? m = some meth := X.method'
  have hn : narrow .int (.int z) = .int z := rfl
  show Steps p.tables e below (T.setTop { method := m, pc := pc, locals := Ls, stack := _ :: rest, locked := none }) _
  jvm_step X.here [X.here.top, hx, hd, hm', hret, hn]
  first | (intro acts; rw [hr _ acts rfl rfl rfl]) | rw [hr _ _ rfl rfl rfl]
  exact Steps.refl _
theorem own_retJ {p : Program} {l : Launch} {e : Env} {R : Room} {s : State} {m : MethodId} {args : Array Value} {below : List Frame} {meth : Method} {c : Code} {T : State} {locs : List Loc} {cells slots K M : Nat} {Q : Option Value → Heap → List Loc → Prop}
    (X : Stand p l e R s m args below meth c T locs cells slots) (hx : p.tables.exec = Jvm.exec) {pc : Nat} {Ls : Array Slot} {z : Int64} (hret : meth.sig.returnType = some .long) (hd : decode c.code pc = .ok (.lreturn, 1)) (hlk : meth.locks = false)
    (hq : Q (some (.long z)) T.heap locs) (hK : cells ≤ K) (hM : slots ≤ M) : own_Go p e below s K M Q (T.setTop (mkF m pc Ls [.long z])) := by
  obtain ⟨fs, hr, hrun, hended, hW, hsame⟩ := X.leave (v := some (.long z)) (fun h => by rw [hret] at h; cases h)
  exact ⟨_, _, X.lreturnOut hx hret hd hr, hrun, hended, _, _, rfl, hq, ⟨_, rfl⟩, hW, hsame.mono hK hM⟩
theorem own_retV {p : Program} {l : Launch} {e : Env} {R : Room} {s : State} {m : MethodId} {args : Array Value} {below : List Frame} {meth : Method} {c : Code} {T : State} {locs : List Loc} {cells slots K M : Nat} {Q : Option Value → Heap → List Loc → Prop}
    (X : Stand p l e R s m args below meth c T locs cells slots) (hx : p.tables.exec = Jvm.exec) {pc : Nat} {Ls : Array Slot} (hret : meth.sig.returnType = none) (hd : decode c.code pc = .ok (.return_, 1)) (hlk : meth.locks = false)
    (hq : Q none T.heap locs) (hK : cells ≤ K) (hM : slots ≤ M) : own_Go p e below s K M Q (T.setTop (mkF m pc Ls [])) := by
  obtain ⟨fs, hr, hrun, hended, hW, hsame⟩ := X.leave (v := none) (fun _ => rfl)
  exact ⟨_, _, X.returnOut hx hret hd hr, hrun, hended, _, _, rfl, hq, ⟨_, rfl⟩, hW, hsame.mono hK hM⟩
/-- the value returned, nothing old written, the heap as it was -/
def own_QP (w : Value) (h0 : Heap) (n0 : Nat) (v : Option Value) (h : Heap) (L : List Loc) : Prop := v = some w ∧ Fr n0 L ∧ h = h0
/-- the value returned, nothing old written, the heap no shorter -/
def own_QG (w : Value) (h0 : Heap) (n0 : Nat) (v : Option Value) (h : Heap) (L : List Loc) : Prop := v = some w ∧ Fr n0 L ∧ n0 ≤ h.size
/-! body 1: com/example/turnstile_chain/turnstilechain/patterns/SweepTable.move:(III)J -/
theorem own_d1_0 : decode prog_56_method_23_code 0 = .ok (.iload_n 0, 1) := by decide +kernel
theorem own_d1_1 : decode prog_56_method_23_code 1 = .ok (.i2l, 1) := by decide +kernel
theorem own_d1_2 : decode prog_56_method_23_code 2 = .ok (.bipush 16, 2) := by decide +kernel
theorem own_d1_4 : decode prog_56_method_23_code 4 = .ok (.lshl, 1) := by decide +kernel
theorem own_d1_5 : decode prog_56_method_23_code 5 = .ok (.iload_n 1, 1) := by decide +kernel
theorem own_d1_6 : decode prog_56_method_23_code 6 = .ok (.i2l, 1) := by decide +kernel
theorem own_d1_7 : decode prog_56_method_23_code 7 = .ok (.bipush 32, 2) := by decide +kernel
theorem own_d1_9 : decode prog_56_method_23_code 9 = .ok (.lshl, 1) := by decide +kernel
theorem own_d1_10 : decode prog_56_method_23_code 10 = .ok (.lor, 1) := by decide +kernel
theorem own_d1_11 : decode prog_56_method_23_code 11 = .ok (.iload_n 2, 1) := by decide +kernel
theorem own_d1_12 : decode prog_56_method_23_code 12 = .ok (.i2l, 1) := by decide +kernel
theorem own_d1_13 : decode prog_56_method_23_code 13 = .ok (.ldc2_w 336, 3) := by decide +kernel
theorem own_d1_16 : decode prog_56_method_23_code 16 = .ok (.land, 1) := by decide +kernel
theorem own_d1_17 : decode prog_56_method_23_code 17 = .ok (.bipush 48, 2) := by decide +kernel
theorem own_d1_19 : decode prog_56_method_23_code 19 = .ok (.lshl, 1) := by decide +kernel
theorem own_d1_20 : decode prog_56_method_23_code 20 = .ok (.lor, 1) := by decide +kernel
theorem own_d1_21 : decode prog_56_method_23_code 21 = .ok (.lreturn, 1) := by decide +kernel
def own_f1_0 (x0 : Int32) (x1 : Int32) (x2 : Int32) : Int64 := ((((x0.toInt64) <<< ((16 : Int32) &&& 0x3f).toInt64) ||| ((x1.toInt64) <<< ((32 : Int32) &&& 0x3f).toInt64)) ||| (((x2.toInt64) &&& (65535 : Int64)) <<< ((48 : Int32) &&& 0x3f).toInt64))
set_option maxRecDepth 65536 in
set_option maxHeartbeats 4000000 in
theorem own_l1_0 {p : Program} {l : Launch} {e : Env} {s : State} {m : MethodId} {args : Array Value} {below : List Frame} {meth : Method} {c : Code} {T : State} {locs : List Loc} {Z : State} {a0 : Array Value} {h0 : Heap} {n0 : Nat}
    (X : Stand p l e ({ frames := 0, cells := 0, slots := 0, locals := 0 } : Room) s m args below meth c T locs 0 0) (hx : p.tables.exec = Jvm.exec) (hZ : Z.Warmed39 s.vm) (hw : ∀ d ∈ tables_1, d.before a0 Z = true) (hby : c.code = prog_56_method_23_code) (hml : c.maxLocals = 3) (hown : s.vm.findClass "com/example/turnstile_chain/turnstilechain/patterns/SweepTable" = some m.cls) (hret : meth.sig.returnType = some .long) (hlk : meth.locks = false) (e0 : T.heap = h0) (N : Fr n0 locs) (Z0 : n0 ≤ h0.size)
    (x0 : Int32) (x1 : Int32) (x2 : Int32) {r : Int64} (hR : r = own_f1_0 x0 x1 x2) : own_Go p e below s ({ frames := 0, cells := 0, slots := 0, locals := 0 } : Room).cells ({ frames := 0, cells := 0, slots := 0, locals := 0 } : Room).slots (own_QP (.long r) h0 n0) (T.setTop (mkF m 0 #[.val (.int x0), .val (.int x1), .val (.int x2)] [])) := by
  unfold own_f1_0 at hR
  refine own_back (fun t k => XS.iloadN X.here hx rfl (hb hby own_d1_0) rfl k) ?_
  show own_Go _ _ _ _ _ _ _ (T.setTop (mkF m 1 #[.val (.int x0), .val (.int x1), .val (.int x2)] [(.int x0)]))
  refine own_back (fun t k => XS.i2l X.here hx rfl (hb hby own_d1_1) rfl k) ?_
  show own_Go _ _ _ _ _ _ _ (T.setTop (mkF m 2 #[.val (.int x0), .val (.int x1), .val (.int x2)] [(.long (x0.toInt64))]))
  refine own_back (fun t k => XS.bipush X.here hx rfl (hb hby own_d1_2) k) ?_
  show own_Go _ _ _ _ _ _ _ (T.setTop (mkF m 4 #[.val (.int x0), .val (.int x1), .val (.int x2)] [(.int (16 : Int32)), (.long (x0.toInt64))]))
  refine own_back (fun t k => XS.lshl X.here hx rfl (hb hby own_d1_4) rfl k) ?_
  show own_Go _ _ _ _ _ _ _ (T.setTop (mkF m 5 #[.val (.int x0), .val (.int x1), .val (.int x2)] [(.long ((x0.toInt64) <<< ((16 : Int32) &&& 0x3f).toInt64))]))
  refine own_back (fun t k => XS.iloadN X.here hx rfl (hb hby own_d1_5) rfl k) ?_
  show own_Go _ _ _ _ _ _ _ (T.setTop (mkF m 6 #[.val (.int x0), .val (.int x1), .val (.int x2)] [(.int x1), (.long ((x0.toInt64) <<< ((16 : Int32) &&& 0x3f).toInt64))]))
  refine own_back (fun t k => XS.i2l X.here hx rfl (hb hby own_d1_6) rfl k) ?_
  show own_Go _ _ _ _ _ _ _ (T.setTop (mkF m 7 #[.val (.int x0), .val (.int x1), .val (.int x2)] [(.long (x1.toInt64)), (.long ((x0.toInt64) <<< ((16 : Int32) &&& 0x3f).toInt64))]))
  refine own_back (fun t k => XS.bipush X.here hx rfl (hb hby own_d1_7) k) ?_
  show own_Go _ _ _ _ _ _ _ (T.setTop (mkF m 9 #[.val (.int x0), .val (.int x1), .val (.int x2)] [(.int (32 : Int32)), (.long (x1.toInt64)), (.long ((x0.toInt64) <<< ((16 : Int32) &&& 0x3f).toInt64))]))
  refine own_back (fun t k => XS.lshl X.here hx rfl (hb hby own_d1_9) rfl k) ?_
  show own_Go _ _ _ _ _ _ _ (T.setTop (mkF m 10 #[.val (.int x0), .val (.int x1), .val (.int x2)] [(.long ((x1.toInt64) <<< ((32 : Int32) &&& 0x3f).toInt64)), (.long ((x0.toInt64) <<< ((16 : Int32) &&& 0x3f).toInt64))]))
  refine own_back (fun t k => XS.lor X.here hx rfl (hb hby own_d1_10) rfl k) ?_
  show own_Go _ _ _ _ _ _ _ (T.setTop (mkF m 11 #[.val (.int x0), .val (.int x1), .val (.int x2)] [(.long (((x0.toInt64) <<< ((16 : Int32) &&& 0x3f).toInt64) ||| ((x1.toInt64) <<< ((32 : Int32) &&& 0x3f).toInt64)))]))
  refine own_back (fun t k => XS.iloadN X.here hx rfl (hb hby own_d1_11) rfl k) ?_
  show own_Go _ _ _ _ _ _ _ (T.setTop (mkF m 12 #[.val (.int x0), .val (.int x1), .val (.int x2)] [(.int x2), (.long (((x0.toInt64) <<< ((16 : Int32) &&& 0x3f).toInt64) ||| ((x1.toInt64) <<< ((32 : Int32) &&& 0x3f).toInt64)))]))
  refine own_back (fun t k => XS.i2l X.here hx rfl (hb hby own_d1_12) rfl k) ?_
  show own_Go _ _ _ _ _ _ _ (T.setTop (mkF m 13 #[.val (.int x0), .val (.int x1), .val (.int x2)] [(.long (x2.toInt64)), (.long (((x0.toInt64) <<< ((16 : Int32) &&& 0x3f).toInt64) ||| ((x1.toInt64) <<< ((32 : Int32) &&& 0x3f).toInt64)))]))
  refine own_back (fun t k => X.ldc2Long hx hown (mvT hZ (hw _ (List.mem_of_getElem? (i := 6) rfl))) (g := (mkF m 13 #[.val (.int x0), .val (.int x1), .val (.int x2)] [(.long (x2.toInt64)), (.long (((x0.toInt64) <<< ((16 : Int32) &&& 0x3f).toInt64) ||| ((x1.toInt64) <<< ((32 : Int32) &&& 0x3f).toInt64)))])) rfl (hb hby own_d1_13) _ k) ?_
  show own_Go _ _ _ _ _ _ _ (T.setTop (mkF m 16 #[.val (.int x0), .val (.int x1), .val (.int x2)] [(.long (65535 : Int64)), (.long (x2.toInt64)), (.long (((x0.toInt64) <<< ((16 : Int32) &&& 0x3f).toInt64) ||| ((x1.toInt64) <<< ((32 : Int32) &&& 0x3f).toInt64)))]))
  refine own_back (fun t k => XS.land X.here hx rfl (hb hby own_d1_16) rfl k) ?_
  show own_Go _ _ _ _ _ _ _ (T.setTop (mkF m 17 #[.val (.int x0), .val (.int x1), .val (.int x2)] [(.long ((x2.toInt64) &&& (65535 : Int64))), (.long (((x0.toInt64) <<< ((16 : Int32) &&& 0x3f).toInt64) ||| ((x1.toInt64) <<< ((32 : Int32) &&& 0x3f).toInt64)))]))
  refine own_back (fun t k => XS.bipush X.here hx rfl (hb hby own_d1_17) k) ?_
  show own_Go _ _ _ _ _ _ _ (T.setTop (mkF m 19 #[.val (.int x0), .val (.int x1), .val (.int x2)] [(.int (48 : Int32)), (.long ((x2.toInt64) &&& (65535 : Int64))), (.long (((x0.toInt64) <<< ((16 : Int32) &&& 0x3f).toInt64) ||| ((x1.toInt64) <<< ((32 : Int32) &&& 0x3f).toInt64)))]))
  refine own_back (fun t k => XS.lshl X.here hx rfl (hb hby own_d1_19) rfl k) ?_
  show own_Go _ _ _ _ _ _ _ (T.setTop (mkF m 20 #[.val (.int x0), .val (.int x1), .val (.int x2)] [(.long (((x2.toInt64) &&& (65535 : Int64)) <<< ((48 : Int32) &&& 0x3f).toInt64)), (.long (((x0.toInt64) <<< ((16 : Int32) &&& 0x3f).toInt64) ||| ((x1.toInt64) <<< ((32 : Int32) &&& 0x3f).toInt64)))]))
  refine own_back (fun t k => XS.lor X.here hx rfl (hb hby own_d1_20) rfl k) ?_
  show own_Go _ _ _ _ _ _ _ (T.setTop (mkF m 21 #[.val (.int x0), .val (.int x1), .val (.int x2)] [(.long ((((x0.toInt64) <<< ((16 : Int32) &&& 0x3f).toInt64) ||| ((x1.toInt64) <<< ((32 : Int32) &&& 0x3f).toInt64)) ||| (((x2.toInt64) &&& (65535 : Int64)) <<< ((48 : Int32) &&& 0x3f).toInt64)))]))
  subst hR
  exact own_retJ X hx hret (hb hby own_d1_21) hlk ⟨rfl, N, e0⟩ (by decide) (by decide)
theorem own_pn1 : plainName "com/example/turnstile_chain/turnstilechain/patterns/SweepTable" = true := by first | (simp [plainName, overriddenIn]; done) | decide +kernel
theorem own_ef1 (m : MethodId) (x0 : Int32) (x1 : Int32) (x2 : Int32) : entryFrame m #[(.int x0), (.int x1), (.int x2)] 3 = mkF m 0 #[.val (.int x0), .val (.int x1), .val (.int x2)] [] := by first | (simp [entryFrame, mkF, argsToLocals, Value.category]; done) | rfl
set_option maxRecDepth 65536 in
set_option maxHeartbeats 4000000 in
theorem own_rm1 (l : Launch) (Z : State) (a0 : Array Value) (hw : ∀ d ∈ tables_1, d.before a0 Z = true) (ws : List Jvm.Cond) (x0 : Int32) (x1 : Int32) (x2 : Int32) (h0 : Heap) (n0 : Nat) (Z0 : n0 ≤ h0.size) :
    MetFree l (⟨"com/example/turnstile_chain/turnstilechain/patterns/SweepTable", "move", "(III)J"⟩ : MethodName) (head1 (Jvm.Cond.code (⟨"com/example/turnstile_chain/turnstilechain/patterns/SweepTable", "move", "(III)J"⟩ : MethodName) prog_56_method_23_code 3 (some .long) :: ws) ({ frames := 0, cells := 0, slots := 0, locals := 0 } : Room)) (fun a U => a = #[(.int x0), (.int x1), (.int x2)] ∧ Z.Warmed39 U.vm ∧ U.heap = h0) (fun _ _ _ _ _ => True) (fun _ U o U' => ∃ v L, o = .returned v ∧ own_QP (.long (own_f1_0 x0 x1 x2)) h0 n0 v U'.heap L ∧ FrameEnd U o U' L ({ frames := 0, cells := 0, slots := 0, locals := 0 } : Room).cells ({ frames := 0, cells := 0, slots := 0, locals := 0 } : Room).slots) := by
  refine MetFree.of_bodySF (plainFor_of_name own_pn1) hisR ?_
  intro p e s m args below meth c s₁ Bd hml0 hP hK
  obtain ⟨rfl, hZ, hh⟩ := hP
  have X0 : Stand p l e ({ frames := 0, cells := 0, slots := 0, locals := 0 } : Room) s m #[(.int x0), (.int x1), (.int x2)] below meth c s₁ [] 0 0 := Stand.of_body Bd
  have e0 : s₁.heap = h0 := by rw [← hh, Bd.state]; rfl
  refine own_back (s := s) (fun t k => castTop (own_ef1 m x0 x1 x2) k) ?_
  exact own_l1_0 X0 Bd.exec hZ hw Bd.bytes hml0 (findClass_of_methodNamed Bd.named) Bd.returns (BodyLoose.notSynchronized Bd) e0 (Fr.nil n0) Z0 x0 x1 x2 rfl
/-! body 2: com/example/turnstile_chain/turnstilechain/patterns/SweepTable.topAfter:(JI)I -/
theorem own_d2_0 : decode prog_56_method_32_code 0 = .ok (.lload_n 0, 1) := by decide +kernel
theorem own_d2_1 : decode prog_56_method_32_code 1 = .ok (.ldc2_w 338, 3) := by decide +kernel
theorem own_d2_4 : decode prog_56_method_32_code 4 = .ok (.land, 1) := by decide +kernel
theorem own_d2_5 : decode prog_56_method_32_code 5 = .ok (.lconst 0, 1) := by decide +kernel
theorem own_d2_6 : decode prog_56_method_32_code 6 = .ok (.lcmp, 1) := by decide +kernel
theorem own_d2_7 : decode prog_56_method_32_code 7 = .ok (.ifCond .eq 11, 3) := by decide +kernel
theorem own_d2_10 : decode prog_56_method_32_code 10 = .ok (.lload_n 0, 1) := by decide +kernel
theorem own_d2_11 : decode prog_56_method_32_code 11 = .ok (.bipush 48, 2) := by decide +kernel
theorem own_d2_13 : decode prog_56_method_32_code 13 = .ok (.lushr, 1) := by decide +kernel
theorem own_d2_14 : decode prog_56_method_32_code 14 = .ok (.l2i, 1) := by decide +kernel
theorem own_d2_15 : decode prog_56_method_32_code 15 = .ok (.goto 11, 3) := by decide +kernel
theorem own_d2_18 : decode prog_56_method_32_code 18 = .ok (.iload_n 2, 1) := by decide +kernel
theorem own_d2_19 : decode prog_56_method_32_code 19 = .ok (.lload_n 0, 1) := by decide +kernel
theorem own_d2_20 : decode prog_56_method_32_code 20 = .ok (.bipush 48, 2) := by decide +kernel
theorem own_d2_22 : decode prog_56_method_32_code 22 = .ok (.lushr, 1) := by decide +kernel
theorem own_d2_23 : decode prog_56_method_32_code 23 = .ok (.l2i, 1) := by decide +kernel
theorem own_d2_24 : decode prog_56_method_32_code 24 = .ok (.i2s, 1) := by decide +kernel
theorem own_d2_25 : decode prog_56_method_32_code 25 = .ok (.iadd, 1) := by decide +kernel
theorem own_d2_26 : decode prog_56_method_32_code 26 = .ok (.ireturn, 1) := by decide +kernel
def own_f2_0 (x0 : Int64) (x1 : Int32) : Int32 := (if (lcmpW (x0 &&& (256 : Int64)) (0 : Int64)) = (0 : Int32) then (x1 + ((((x0.toUInt64 >>> ((48 : Int32) &&& 0x3f).toInt64.toUInt64).toInt64).toInt32).toInt16.toInt32)) else (((x0.toUInt64 >>> ((48 : Int32) &&& 0x3f).toInt64.toUInt64).toInt64).toInt32))
set_option maxRecDepth 65536 in
set_option maxHeartbeats 4000000 in
theorem own_l2_0 {p : Program} {l : Launch} {e : Env} {s : State} {m : MethodId} {args : Array Value} {below : List Frame} {meth : Method} {c : Code} {T : State} {locs : List Loc} {Z : State} {a0 : Array Value} {h0 : Heap} {n0 : Nat}
    (X : Stand p l e ({ frames := 0, cells := 0, slots := 0, locals := 0 } : Room) s m args below meth c T locs 0 0) (hx : p.tables.exec = Jvm.exec) (hZ : Z.Warmed39 s.vm) (hw : ∀ d ∈ tables_1, d.before a0 Z = true) (hby : c.code = prog_56_method_32_code) (hml : c.maxLocals = 3) (hown : s.vm.findClass "com/example/turnstile_chain/turnstilechain/patterns/SweepTable" = some m.cls) (hret : meth.sig.returnType = some .int) (hlk : meth.locks = false) (e0 : T.heap = h0) (N : Fr n0 locs) (Z0 : n0 ≤ h0.size)
    (x0 : Int64) (x1 : Int32) {r : Int32} (hR : r = own_f2_0 x0 x1) : own_Go p e below s ({ frames := 0, cells := 0, slots := 0, locals := 0 } : Room).cells ({ frames := 0, cells := 0, slots := 0, locals := 0 } : Room).slots (own_QP (.int r) h0 n0) (T.setTop (mkF m 0 #[.val (.long x0), .second, .val (.int x1)] [])) := by
  unfold own_f2_0 at hR
  refine own_back (fun t k => XS.lloadN X.here hx rfl (hb hby own_d2_0) rfl k) ?_
  show own_Go _ _ _ _ _ _ _ (T.setTop (mkF m 1 #[.val (.long x0), .second, .val (.int x1)] [(.long x0)]))
  refine own_back (fun t k => X.ldc2Long hx hown (mvT hZ (hw _ (List.mem_of_getElem? (i := 10) rfl))) (g := (mkF m 1 #[.val (.long x0), .second, .val (.int x1)] [(.long x0)])) rfl (hb hby own_d2_1) _ k) ?_
  show own_Go _ _ _ _ _ _ _ (T.setTop (mkF m 4 #[.val (.long x0), .second, .val (.int x1)] [(.long (256 : Int64)), (.long x0)]))
  refine own_back (fun t k => XS.land X.here hx rfl (hb hby own_d2_4) rfl k) ?_
  show own_Go _ _ _ _ _ _ _ (T.setTop (mkF m 5 #[.val (.long x0), .second, .val (.int x1)] [(.long (x0 &&& (256 : Int64)))]))
  refine own_back (fun t k => XS.lconst X.here hx rfl (hb hby own_d2_5) k) ?_
  show own_Go _ _ _ _ _ _ _ (T.setTop (mkF m 6 #[.val (.long x0), .second, .val (.int x1)] [(.long (0 : Int64)), (.long (x0 &&& (256 : Int64)))]))
  refine own_back (fun t k => XS.lcmp X.here hx rfl (hb hby own_d2_6) rfl k) ?_
  show own_Go _ _ _ _ _ _ _ (T.setTop (mkF m 7 #[.val (.long x0), .second, .val (.int x1)] [(.int (lcmpW (x0 &&& (256 : Int64)) (0 : Int64)))]))
  by_cases hc7 : (lcmpW (x0 &&& (256 : Int64)) (0 : Int64)) = (0 : Int32)
  · rw [if_pos hc7] at hR
    refine own_back (fun t k => XS.ifYes X.here hx rfl (pc0 := 7) (pc' := 18) rfl (hb hby own_d2_7) rfl ((if0 _ _).trans (teq hc7).1) (by decide) (by decide) k) ?_
    show own_Go _ _ _ _ _ _ _ (T.setTop (mkF m 18 #[.val (.long x0), .second, .val (.int x1)] []))
    refine own_back (fun t k => XS.iloadN X.here hx rfl (hb hby own_d2_18) rfl k) ?_
    show own_Go _ _ _ _ _ _ _ (T.setTop (mkF m 19 #[.val (.long x0), .second, .val (.int x1)] [(.int x1)]))
    refine own_back (fun t k => XS.lloadN X.here hx rfl (hb hby own_d2_19) rfl k) ?_
    show own_Go _ _ _ _ _ _ _ (T.setTop (mkF m 20 #[.val (.long x0), .second, .val (.int x1)] [(.long x0), (.int x1)]))
    refine own_back (fun t k => XS.bipush X.here hx rfl (hb hby own_d2_20) k) ?_
    show own_Go _ _ _ _ _ _ _ (T.setTop (mkF m 22 #[.val (.long x0), .second, .val (.int x1)] [(.int (48 : Int32)), (.long x0), (.int x1)]))
    refine own_back (fun t k => XS.lushr X.here hx rfl (hb hby own_d2_22) rfl k) ?_
    show own_Go _ _ _ _ _ _ _ (T.setTop (mkF m 23 #[.val (.long x0), .second, .val (.int x1)] [(.long ((x0.toUInt64 >>> ((48 : Int32) &&& 0x3f).toInt64.toUInt64).toInt64)), (.int x1)]))
    refine own_back (fun t k => XS.l2i X.here hx rfl (hb hby own_d2_23) rfl k) ?_
    show own_Go _ _ _ _ _ _ _ (T.setTop (mkF m 24 #[.val (.long x0), .second, .val (.int x1)] [(.int (((x0.toUInt64 >>> ((48 : Int32) &&& 0x3f).toInt64.toUInt64).toInt64).toInt32)), (.int x1)]))
    refine own_back (fun t k => XS.i2s X.here hx rfl (hb hby own_d2_24) rfl k) ?_
    show own_Go _ _ _ _ _ _ _ (T.setTop (mkF m 25 #[.val (.long x0), .second, .val (.int x1)] [(.int ((((x0.toUInt64 >>> ((48 : Int32) &&& 0x3f).toInt64.toUInt64).toInt64).toInt32).toInt16.toInt32)), (.int x1)]))
    refine own_back (fun t k => XS.iadd X.here hx rfl (hb hby own_d2_25) rfl k) ?_
    show own_Go _ _ _ _ _ _ _ (T.setTop (mkF m 26 #[.val (.long x0), .second, .val (.int x1)] [(.int (x1 + ((((x0.toUInt64 >>> ((48 : Int32) &&& 0x3f).toInt64.toUInt64).toInt64).toInt32).toInt16.toInt32)))]))
    subst hR
    exact own_retI X hx hret (hb hby own_d2_26) hlk ⟨rfl, N, e0⟩ (by decide) (by decide)
  · rw [if_neg hc7] at hR
    refine own_back (fun t k => XS.ifNo X.here hx rfl (hb hby own_d2_7) rfl ((if0 _ _).trans (feq hc7).1) k) ?_
    show own_Go _ _ _ _ _ _ _ (T.setTop (mkF m 10 #[.val (.long x0), .second, .val (.int x1)] []))
    refine own_back (fun t k => XS.lloadN X.here hx rfl (hb hby own_d2_10) rfl k) ?_
    show own_Go _ _ _ _ _ _ _ (T.setTop (mkF m 11 #[.val (.long x0), .second, .val (.int x1)] [(.long x0)]))
    refine own_back (fun t k => XS.bipush X.here hx rfl (hb hby own_d2_11) k) ?_
    show own_Go _ _ _ _ _ _ _ (T.setTop (mkF m 13 #[.val (.long x0), .second, .val (.int x1)] [(.int (48 : Int32)), (.long x0)]))
    refine own_back (fun t k => XS.lushr X.here hx rfl (hb hby own_d2_13) rfl k) ?_
    show own_Go _ _ _ _ _ _ _ (T.setTop (mkF m 14 #[.val (.long x0), .second, .val (.int x1)] [(.long ((x0.toUInt64 >>> ((48 : Int32) &&& 0x3f).toInt64.toUInt64).toInt64))]))
    refine own_back (fun t k => XS.l2i X.here hx rfl (hb hby own_d2_14) rfl k) ?_
    show own_Go _ _ _ _ _ _ _ (T.setTop (mkF m 15 #[.val (.long x0), .second, .val (.int x1)] [(.int (((x0.toUInt64 >>> ((48 : Int32) &&& 0x3f).toInt64.toUInt64).toInt64).toInt32))]))
    refine own_back (fun t k => XS.goto X.here hx rfl (pc0 := 15) (pc' := 26) rfl (hb hby own_d2_15) (by decide) (by decide) k) ?_
    show own_Go _ _ _ _ _ _ _ (T.setTop (mkF m 26 #[.val (.long x0), .second, .val (.int x1)] [(.int (((x0.toUInt64 >>> ((48 : Int32) &&& 0x3f).toInt64.toUInt64).toInt64).toInt32))]))
    subst hR
    exact own_retI X hx hret (hb hby own_d2_26) hlk ⟨rfl, N, e0⟩ (by decide) (by decide)
theorem own_pn2 : plainName "com/example/turnstile_chain/turnstilechain/patterns/SweepTable" = true := by first | (simp [plainName, overriddenIn]; done) | decide +kernel
theorem own_ef2 (m : MethodId) (x0 : Int64) (x1 : Int32) : entryFrame m #[(.long x0), (.int x1)] 3 = mkF m 0 #[.val (.long x0), .second, .val (.int x1)] [] := by first | (simp [entryFrame, mkF, argsToLocals, Value.category]; done) | rfl
set_option maxRecDepth 65536 in
set_option maxHeartbeats 4000000 in
theorem own_rm2 (l : Launch) (Z : State) (a0 : Array Value) (hw : ∀ d ∈ tables_1, d.before a0 Z = true) (ws : List Jvm.Cond) (x0 : Int64) (x1 : Int32) (h0 : Heap) (n0 : Nat) (Z0 : n0 ≤ h0.size) :
    MetFree l (⟨"com/example/turnstile_chain/turnstilechain/patterns/SweepTable", "topAfter", "(JI)I"⟩ : MethodName) (head1 (Jvm.Cond.code (⟨"com/example/turnstile_chain/turnstilechain/patterns/SweepTable", "topAfter", "(JI)I"⟩ : MethodName) prog_56_method_32_code 3 (some .int) :: ws) ({ frames := 0, cells := 0, slots := 0, locals := 0 } : Room)) (fun a U => a = #[(.long x0), (.int x1)] ∧ Z.Warmed39 U.vm ∧ U.heap = h0) (fun _ _ _ _ _ => True) (fun _ U o U' => ∃ v L, o = .returned v ∧ own_QP (.int (own_f2_0 x0 x1)) h0 n0 v U'.heap L ∧ FrameEnd U o U' L ({ frames := 0, cells := 0, slots := 0, locals := 0 } : Room).cells ({ frames := 0, cells := 0, slots := 0, locals := 0 } : Room).slots) := by
  refine MetFree.of_bodySF (plainFor_of_name own_pn2) hisR ?_
  intro p e s m args below meth c s₁ Bd hml0 hP hK
  obtain ⟨rfl, hZ, hh⟩ := hP
  have X0 : Stand p l e ({ frames := 0, cells := 0, slots := 0, locals := 0 } : Room) s m #[(.long x0), (.int x1)] below meth c s₁ [] 0 0 := Stand.of_body Bd
  have e0 : s₁.heap = h0 := by rw [← hh, Bd.state]; rfl
  refine own_back (s := s) (fun t k => castTop (own_ef2 m x0 x1) k) ?_
  exact own_l2_0 X0 Bd.exec hZ hw Bd.bytes hml0 (findClass_of_methodNamed Bd.named) Bd.returns (BodyLoose.notSynchronized Bd) e0 (Fr.nil n0) Z0 x0 x1 rfl
theorem own_pd0 : parseMethodDescriptor "(III)J" = some ⟨[.int, .int, .int], some .long⟩ := by decide +kernel
/-! body 3: com/example/turnstile_chain/turnstilechain/patterns/SweepTable.moveTo:(III)J -/
theorem own_d3_0 : decode prog_56_method_24_code 0 = .ok (.ldc2_w 338, 3) := by decide +kernel
theorem own_d3_3 : decode prog_56_method_24_code 3 = .ok (.iload_n 0, 1) := by decide +kernel
theorem own_d3_4 : decode prog_56_method_24_code 4 = .ok (.iload_n 1, 1) := by decide +kernel
theorem own_d3_5 : decode prog_56_method_24_code 5 = .ok (.iload_n 2, 1) := by decide +kernel
theorem own_d3_6 : decode prog_56_method_24_code 6 = .ok (.invokestatic 340, 3) := by decide +kernel
theorem own_d3_9 : decode prog_56_method_24_code 9 = .ok (.lor, 1) := by decide +kernel
theorem own_d3_10 : decode prog_56_method_24_code 10 = .ok (.lreturn, 1) := by decide +kernel
def own_f3_0 (x0 : Int32) (x1 : Int32) (x2 : Int32) : Int64 := ((256 : Int64) ||| (own_f1_0 x0 x1 x2))
set_option maxRecDepth 65536 in
set_option maxHeartbeats 4000000 in
theorem own_l3_0 {p : Program} {l : Launch} {e : Env} {s : State} {m : MethodId} {args : Array Value} {below : List Frame} {meth : Method} {c : Code} {T : State} {locs : List Loc} {Z : State} {a0 : Array Value} {h0 : Heap} {n0 : Nat}
    (X : Stand p l e ({ frames := 1, cells := 0, slots := 0, locals := 16 } : Room) s m args below meth c T locs 0 0) (hx : p.tables.exec = Jvm.exec) (hZ : Z.Warmed39 s.vm) (hw : ∀ d ∈ tables_1, d.before a0 Z = true) (hby : c.code = prog_56_method_24_code) (hml : c.maxLocals = 3) (hown : s.vm.findClass "com/example/turnstile_chain/turnstilechain/patterns/SweepTable" = some m.cls) (hret : meth.sig.returnType = some .long) (hlk : meth.locks = false) (e0 : T.heap = h0) (N : Fr n0 locs) (Z0 : n0 ≤ h0.size)
    (x0 : Int32) (x1 : Int32) (x2 : Int32) {r : Int64} (hR : r = own_f3_0 x0 x1 x2) : own_Go p e below s ({ frames := 1, cells := 0, slots := 0, locals := 16 } : Room).cells ({ frames := 1, cells := 0, slots := 0, locals := 16 } : Room).slots (own_QP (.long r) h0 n0) (T.setTop (mkF m 0 #[.val (.int x0), .val (.int x1), .val (.int x2)] [])) := by
  unfold own_f3_0 at hR
  refine own_back (fun t k => X.ldc2Long hx hown (mvT hZ (hw _ (List.mem_of_getElem? (i := 10) rfl))) (g := (mkF m 0 #[.val (.int x0), .val (.int x1), .val (.int x2)] [])) rfl (hb hby own_d3_0) _ k) ?_
  show own_Go _ _ _ _ _ _ _ (T.setTop (mkF m 3 #[.val (.int x0), .val (.int x1), .val (.int x2)] [(.long (256 : Int64))]))
  refine own_back (fun t k => XS.iloadN X.here hx rfl (hb hby own_d3_3) rfl k) ?_
  show own_Go _ _ _ _ _ _ _ (T.setTop (mkF m 4 #[.val (.int x0), .val (.int x1), .val (.int x2)] [(.int x0), (.long (256 : Int64))]))
  refine own_back (fun t k => XS.iloadN X.here hx rfl (hb hby own_d3_4) rfl k) ?_
  show own_Go _ _ _ _ _ _ _ (T.setTop (mkF m 5 #[.val (.int x0), .val (.int x1), .val (.int x2)] [(.int x1), (.int x0), (.long (256 : Int64))]))
  refine own_back (fun t k => XS.iloadN X.here hx rfl (hb hby own_d3_5) rfl k) ?_
  show own_Go _ _ _ _ _ _ _ (T.setTop (mkF m 6 #[.val (.int x0), .val (.int x1), .val (.int x2)] [(.int x2), (.int x1), (.int x0), (.long (256 : Int64))]))
  obtain ⟨_, _, ⟨T1, L1, k1, n1⟩, -, X1, ⟨Lc1, hQ1, l1, y1, z1⟩, st1⟩ := Jvm.LawKit.callS X hx (y := (⟨"com/example/turnstile_chain/turnstilechain/patterns/SweepTable", "move", "(III)J"⟩ : MethodName)) hown (mvT hZ (hw _ (List.mem_of_getElem? (i := 14) rfl))) (mvT hZ (hw _ (List.mem_of_getElem? (i := 3) rfl))) (mvT hZ (hw _ (List.mem_of_getElem? (i := 4) rfl))) (mvT hZ (hw _ (List.mem_of_getElem? (i := 5) rfl))) (by decide) (backOf (W := 2) (own_rm1 l Z a0 hw [] x0 x1 x2 h0 n0 Z0) hZ (hw _ (List.mem_of_getElem? (i := 5) rfl)) (hw _ (List.mem_of_getElem? (i := 4) rfl)) (by decide) (by decide)) (g := (mkF m 6 #[.val (.int x0), .val (.int x1), .val (.int x2)] [(.int x2), (.int x1), (.int x0), (.long (256 : Int64))])) rfl (by rw [hml]; rfl) (argsL := [(.int x0), (.int x1), (.int x2)]) (rest := [(.long (256 : Int64))]) (lenOf own_pd0 rfl) rfl (by show 2 * 0 + _ ≤ _; exact Nat.le_of_eq rfl) (hb hby own_d3_6) (fun _ _ => ⟨rfl, e0, (by decide : 0 + 0 ≤ _), (by decide : 0 + 0 ≤ _)⟩)
  dsimp only [Pt.U, Pt.locs, Pt.cells, Pt.slots] at X1 l1 y1 z1 st1 hQ1
  subst l1 y1 z1
  obtain ⟨rfl, N1q, e1⟩ := hQ1
  have N1 := Fr.app N N1q
  refine own_back (fun t k => st1 t k) ?_
  show own_Go _ _ _ _ _ _ _ (T1.setTop (mkF m 9 #[.val (.int x0), .val (.int x1), .val (.int x2)] [(.long (own_f1_0 x0 x1 x2)), (.long (256 : Int64))]))
  refine own_back (fun t k => XS.lor X1.here hx rfl (hb hby own_d3_9) rfl k) ?_
  show own_Go _ _ _ _ _ _ _ (T1.setTop (mkF m 10 #[.val (.int x0), .val (.int x1), .val (.int x2)] [(.long ((256 : Int64) ||| (own_f1_0 x0 x1 x2)))]))
  subst hR
  exact own_retJ X1 hx hret (hb hby own_d3_10) hlk ⟨rfl, N1, e1⟩ (by decide) (by decide)
theorem own_pn3 : plainName "com/example/turnstile_chain/turnstilechain/patterns/SweepTable" = true := by first | (simp [plainName, overriddenIn]; done) | decide +kernel
theorem own_ef3 (m : MethodId) (x0 : Int32) (x1 : Int32) (x2 : Int32) : entryFrame m #[(.int x0), (.int x1), (.int x2)] 3 = mkF m 0 #[.val (.int x0), .val (.int x1), .val (.int x2)] [] := by first | (simp [entryFrame, mkF, argsToLocals, Value.category]; done) | rfl
set_option maxRecDepth 65536 in
set_option maxHeartbeats 4000000 in
theorem own_rm3 (l : Launch) (Z : State) (a0 : Array Value) (hw : ∀ d ∈ tables_1, d.before a0 Z = true) (ws : List Jvm.Cond) (x0 : Int32) (x1 : Int32) (x2 : Int32) (h0 : Heap) (n0 : Nat) (Z0 : n0 ≤ h0.size) :
    MetFree l (⟨"com/example/turnstile_chain/turnstilechain/patterns/SweepTable", "moveTo", "(III)J"⟩ : MethodName) (head1 (Jvm.Cond.code (⟨"com/example/turnstile_chain/turnstilechain/patterns/SweepTable", "moveTo", "(III)J"⟩ : MethodName) prog_56_method_24_code 3 (some .long) :: ws) ({ frames := 1, cells := 0, slots := 0, locals := 16 } : Room)) (fun a U => a = #[(.int x0), (.int x1), (.int x2)] ∧ Z.Warmed39 U.vm ∧ U.heap = h0) (fun _ _ _ _ _ => True) (fun _ U o U' => ∃ v L, o = .returned v ∧ own_QP (.long (own_f3_0 x0 x1 x2)) h0 n0 v U'.heap L ∧ FrameEnd U o U' L ({ frames := 1, cells := 0, slots := 0, locals := 16 } : Room).cells ({ frames := 1, cells := 0, slots := 0, locals := 16 } : Room).slots) := by
  refine MetFree.of_bodySF (plainFor_of_name own_pn3) hisR ?_
  intro p e s m args below meth c s₁ Bd hml0 hP hK
  obtain ⟨rfl, hZ, hh⟩ := hP
  have X0 : Stand p l e ({ frames := 1, cells := 0, slots := 0, locals := 16 } : Room) s m #[(.int x0), (.int x1), (.int x2)] below meth c s₁ [] 0 0 := Stand.of_body Bd
  have e0 : s₁.heap = h0 := by rw [← hh, Bd.state]; rfl
  refine own_back (s := s) (fun t k => castTop (own_ef3 m x0 x1 x2) k) ?_
  exact own_l3_0 X0 Bd.exec hZ hw Bd.bytes hml0 (findClass_of_methodNamed Bd.named) Bd.returns (BodyLoose.notSynchronized Bd) e0 (Fr.nil n0) Z0 x0 x1 x2 rfl
theorem own_pd1 : parseMethodDescriptor "(JI)I" = some ⟨[.long, .int], some .int⟩ := by decide +kernel
/-! body 0: com/example/turnstile_chain/turnstilechain/patterns/SweepTableTopAfterPinLaw.law:(IIIII)Z -/
def own_f0_24 (i0 : Int32) (i1 : Int32) (i2 : Int32) (i3 : Int32) (i4 : Int32) (i5 : Int32) (i6 : Int32) (t0 : Int32) : Int32 := (if t0 = (0 : Int32) then (if (own_f2_0 ((own_f1_0 i5 i6 (i2 % (32768 : Int32))) ||| ((((i4.toUInt32 >>> ((1 : Int32) &&& 31).toUInt32).toInt32) &&& (255 : Int32)).toInt64)) i3) = (i3 + (i2 % (32768 : Int32))) then (1 : Int32) else (0 : Int32)) else (if (own_f2_0 ((own_f3_0 i5 i6 (i2 &&& (65535 : Int32))) ||| ((((i4.toUInt32 >>> ((1 : Int32) &&& 31).toUInt32).toInt32) &&& (255 : Int32)).toInt64)) i3) = (i2 &&& (65535 : Int32)) then (1 : Int32) else (0 : Int32)))
def own_f0_0 (x0 : Int32) (x1 : Int32) (x2 : Int32) (x3 : Int32) (x4 : Int32) : Int32 := (if (x4 &&& (1 : Int32)) = (0 : Int32) then (own_f0_24 x0 x1 x2 x3 x4 (x0 &&& (65535 : Int32)) (x1 &&& (65535 : Int32)) (0 : Int32)) else (own_f0_24 x0 x1 x2 x3 x4 (x0 &&& (65535 : Int32)) (x1 &&& (65535 : Int32)) (1 : Int32)))
set_option maxRecDepth 65536 in
set_option maxHeartbeats 4000000 in
theorem own_l0_24 {p : Program} {l : Launch} {e : Env} {s : State} {m : MethodId} {args : Array Value} {below : List Frame} {meth : Method} {c : Code} {T : State} {locs : List Loc} {Z : State} {a0 : Array Value} {h0 : Heap} {n0 : Nat}
    (X : Stand p l e room_1 s m args below meth c T locs 0 0) (hx : p.tables.exec = Jvm.exec) (hZ : Z.Warmed39 s.vm) (hw : ∀ d ∈ tables_1, d.before a0 Z = true) (hby : c.code = code) (hml : c.maxLocals = 12) (hown : s.vm.findClass "com/example/turnstile_chain/turnstilechain/patterns/SweepTableTopAfterPinLaw" = some m.cls) (hret : meth.sig.returnType = some .boolean) (hlk : meth.locks = false) (e0 : T.heap = h0) (N : Fr n0 locs) (Z0 : n0 ≤ h0.size)
    (i0 : Int32) (i1 : Int32) (i2 : Int32) (i3 : Int32) (i4 : Int32) (i5 : Int32) (i6 : Int32) (t0 : Int32) {r : Int32} (hR : r = own_f0_24 i0 i1 i2 i3 i4 i5 i6 t0) : own_Go p e below s room_1.cells room_1.slots (own_QP (.int r) h0 n0) (T.setTop (mkF m 24 #[.val (.int i0), .val (.int i1), .val (.int i2), .val (.int i3), .val (.int i4), .val (.int i5), .val (.int i6), .unset, .unset, .unset, .unset, .unset] [(.int t0)])) := by
  unfold own_f0_24 at hR
  refine own_back (fun t k => XS.istore X.here hx rfl (hb hby at_24) rfl (l' := #[.val (.int i0), .val (.int i1), .val (.int i2), .val (.int i3), .val (.int i4), .val (.int i5), .val (.int i6), .val (.int t0), .unset, .unset, .unset, .unset]) rfl k) ?_
  show own_Go _ _ _ _ _ _ _ (T.setTop (mkF m 26 #[.val (.int i0), .val (.int i1), .val (.int i2), .val (.int i3), .val (.int i4), .val (.int i5), .val (.int i6), .val (.int t0), .unset, .unset, .unset, .unset] []))
  refine own_back (fun t k => XS.iload X.here hx rfl (hb hby at_26) rfl k) ?_
  show own_Go _ _ _ _ _ _ _ (T.setTop (mkF m 28 #[.val (.int i0), .val (.int i1), .val (.int i2), .val (.int i3), .val (.int i4), .val (.int i5), .val (.int i6), .val (.int t0), .unset, .unset, .unset, .unset] [(.int i4)]))
  refine own_back (fun t k => XS.iconst X.here hx rfl (hb hby at_28) k) ?_
  show own_Go _ _ _ _ _ _ _ (T.setTop (mkF m 29 #[.val (.int i0), .val (.int i1), .val (.int i2), .val (.int i3), .val (.int i4), .val (.int i5), .val (.int i6), .val (.int t0), .unset, .unset, .unset, .unset] [(.int (1 : Int32)), (.int i4)]))
  refine own_back (fun t k => XS.iushr X.here hx rfl (hb hby at_29) rfl k) ?_
  show own_Go _ _ _ _ _ _ _ (T.setTop (mkF m 30 #[.val (.int i0), .val (.int i1), .val (.int i2), .val (.int i3), .val (.int i4), .val (.int i5), .val (.int i6), .val (.int t0), .unset, .unset, .unset, .unset] [(.int ((i4.toUInt32 >>> ((1 : Int32) &&& 31).toUInt32).toInt32))]))
  refine own_back (fun t k => XS.sipush X.here hx rfl (hb hby at_30) k) ?_
  show own_Go _ _ _ _ _ _ _ (T.setTop (mkF m 33 #[.val (.int i0), .val (.int i1), .val (.int i2), .val (.int i3), .val (.int i4), .val (.int i5), .val (.int i6), .val (.int t0), .unset, .unset, .unset, .unset] [(.int (255 : Int32)), (.int ((i4.toUInt32 >>> ((1 : Int32) &&& 31).toUInt32).toInt32))]))
  refine own_back (fun t k => XS.iand X.here hx rfl (hb hby at_33) rfl k) ?_
  show own_Go _ _ _ _ _ _ _ (T.setTop (mkF m 34 #[.val (.int i0), .val (.int i1), .val (.int i2), .val (.int i3), .val (.int i4), .val (.int i5), .val (.int i6), .val (.int t0), .unset, .unset, .unset, .unset] [(.int (((i4.toUInt32 >>> ((1 : Int32) &&& 31).toUInt32).toInt32) &&& (255 : Int32)))]))
  refine own_back (fun t k => XS.istore X.here hx rfl (hb hby at_34) rfl (l' := #[.val (.int i0), .val (.int i1), .val (.int i2), .val (.int i3), .val (.int i4), .val (.int i5), .val (.int i6), .val (.int t0), .val (.int (((i4.toUInt32 >>> ((1 : Int32) &&& 31).toUInt32).toInt32) &&& (255 : Int32))), .unset, .unset, .unset]) rfl k) ?_
  show own_Go _ _ _ _ _ _ _ (T.setTop (mkF m 36 #[.val (.int i0), .val (.int i1), .val (.int i2), .val (.int i3), .val (.int i4), .val (.int i5), .val (.int i6), .val (.int t0), .val (.int (((i4.toUInt32 >>> ((1 : Int32) &&& 31).toUInt32).toInt32) &&& (255 : Int32))), .unset, .unset, .unset] []))
  refine own_back (fun t k => XS.iload X.here hx rfl (hb hby at_36) rfl k) ?_
  show own_Go _ _ _ _ _ _ _ (T.setTop (mkF m 38 #[.val (.int i0), .val (.int i1), .val (.int i2), .val (.int i3), .val (.int i4), .val (.int i5), .val (.int i6), .val (.int t0), .val (.int (((i4.toUInt32 >>> ((1 : Int32) &&& 31).toUInt32).toInt32) &&& (255 : Int32))), .unset, .unset, .unset] [(.int t0)]))
  by_cases hc38 : t0 = (0 : Int32)
  · rw [if_pos hc38] at hR
    refine own_back (fun t k => XS.ifYes X.here hx rfl (pc0 := 38) (pc' := 79) rfl (hb hby at_38) rfl ((if0 _ _).trans (teq hc38).1) (by decide) (by decide) k) ?_
    show own_Go _ _ _ _ _ _ _ (T.setTop (mkF m 79 #[.val (.int i0), .val (.int i1), .val (.int i2), .val (.int i3), .val (.int i4), .val (.int i5), .val (.int i6), .val (.int t0), .val (.int (((i4.toUInt32 >>> ((1 : Int32) &&& 31).toUInt32).toInt32) &&& (255 : Int32))), .unset, .unset, .unset] []))
    refine own_back (fun t k => XS.iloadN X.here hx rfl (hb hby at_79) rfl k) ?_
    show own_Go _ _ _ _ _ _ _ (T.setTop (mkF m 80 #[.val (.int i0), .val (.int i1), .val (.int i2), .val (.int i3), .val (.int i4), .val (.int i5), .val (.int i6), .val (.int t0), .val (.int (((i4.toUInt32 >>> ((1 : Int32) &&& 31).toUInt32).toInt32) &&& (255 : Int32))), .unset, .unset, .unset] [(.int i2)]))
    refine own_back (fun t k => X.ldcInt hx hown (mvT hZ (hw _ (List.mem_of_getElem? (i := 1) rfl))) (g := (mkF m 80 #[.val (.int i0), .val (.int i1), .val (.int i2), .val (.int i3), .val (.int i4), .val (.int i5), .val (.int i6), .val (.int t0), .val (.int (((i4.toUInt32 >>> ((1 : Int32) &&& 31).toUInt32).toInt32) &&& (255 : Int32))), .unset, .unset, .unset] [(.int i2)])) rfl (hb hby at_80) _ k) ?_
    show own_Go _ _ _ _ _ _ _ (T.setTop (mkF m 82 #[.val (.int i0), .val (.int i1), .val (.int i2), .val (.int i3), .val (.int i4), .val (.int i5), .val (.int i6), .val (.int t0), .val (.int (((i4.toUInt32 >>> ((1 : Int32) &&& 31).toUInt32).toInt32) &&& (255 : Int32))), .unset, .unset, .unset] [(.int (32768 : Int32)), (.int i2)]))
    refine own_back (B := T.setTop (mkF m 83 #[.val (.int i0), .val (.int i1), .val (.int i2), .val (.int i3), .val (.int i4), .val (.int i5), .val (.int i6), .val (.int t0), .val (.int (((i4.toUInt32 >>> ((1 : Int32) &&& 31).toUInt32).toInt32) &&& (255 : Int32))), .unset, .unset, .unset] [(.int (i2 % (32768 : Int32)))])) (fun t k => XS.irem X.here hx rfl (hb hby at_82) rfl (by decide) (by rw [irem_eq_mod]; exact k)) ?_
    show own_Go _ _ _ _ _ _ _ (T.setTop (mkF m 83 #[.val (.int i0), .val (.int i1), .val (.int i2), .val (.int i3), .val (.int i4), .val (.int i5), .val (.int i6), .val (.int t0), .val (.int (((i4.toUInt32 >>> ((1 : Int32) &&& 31).toUInt32).toInt32) &&& (255 : Int32))), .unset, .unset, .unset] [(.int (i2 % (32768 : Int32)))]))
    refine own_back (fun t k => XS.istore X.here hx rfl (hb hby at_83) rfl (l' := #[.val (.int i0), .val (.int i1), .val (.int i2), .val (.int i3), .val (.int i4), .val (.int i5), .val (.int i6), .val (.int t0), .val (.int (((i4.toUInt32 >>> ((1 : Int32) &&& 31).toUInt32).toInt32) &&& (255 : Int32))), .val (.int (i2 % (32768 : Int32))), .unset, .unset]) rfl k) ?_
    show own_Go _ _ _ _ _ _ _ (T.setTop (mkF m 85 #[.val (.int i0), .val (.int i1), .val (.int i2), .val (.int i3), .val (.int i4), .val (.int i5), .val (.int i6), .val (.int t0), .val (.int (((i4.toUInt32 >>> ((1 : Int32) &&& 31).toUInt32).toInt32) &&& (255 : Int32))), .val (.int (i2 % (32768 : Int32))), .unset, .unset] []))
    refine own_back (fun t k => XS.iload X.here hx rfl (hb hby at_85) rfl k) ?_
    show own_Go _ _ _ _ _ _ _ (T.setTop (mkF m 87 #[.val (.int i0), .val (.int i1), .val (.int i2), .val (.int i3), .val (.int i4), .val (.int i5), .val (.int i6), .val (.int t0), .val (.int (((i4.toUInt32 >>> ((1 : Int32) &&& 31).toUInt32).toInt32) &&& (255 : Int32))), .val (.int (i2 % (32768 : Int32))), .unset, .unset] [(.int i5)]))
    refine own_back (fun t k => XS.iload X.here hx rfl (hb hby at_87) rfl k) ?_
    show own_Go _ _ _ _ _ _ _ (T.setTop (mkF m 89 #[.val (.int i0), .val (.int i1), .val (.int i2), .val (.int i3), .val (.int i4), .val (.int i5), .val (.int i6), .val (.int t0), .val (.int (((i4.toUInt32 >>> ((1 : Int32) &&& 31).toUInt32).toInt32) &&& (255 : Int32))), .val (.int (i2 % (32768 : Int32))), .unset, .unset] [(.int i6), (.int i5)]))
    refine own_back (fun t k => XS.iload X.here hx rfl (hb hby at_89) rfl k) ?_
    show own_Go _ _ _ _ _ _ _ (T.setTop (mkF m 91 #[.val (.int i0), .val (.int i1), .val (.int i2), .val (.int i3), .val (.int i4), .val (.int i5), .val (.int i6), .val (.int t0), .val (.int (((i4.toUInt32 >>> ((1 : Int32) &&& 31).toUInt32).toInt32) &&& (255 : Int32))), .val (.int (i2 % (32768 : Int32))), .unset, .unset] [(.int (i2 % (32768 : Int32))), (.int i6), (.int i5)]))
    obtain ⟨_, _, ⟨T1, L1, k1, n1⟩, -, X1, ⟨Lc1, hQ1, l1, y1, z1⟩, st1⟩ := Jvm.LawKit.callS X hx (y := (⟨"com/example/turnstile_chain/turnstilechain/patterns/SweepTable", "move", "(III)J"⟩ : MethodName)) hown (mvT hZ (hw _ (List.mem_of_getElem? (i := 2) rfl))) (mvT hZ (hw _ (List.mem_of_getElem? (i := 3) rfl))) (mvT hZ (hw _ (List.mem_of_getElem? (i := 4) rfl))) (mvT hZ (hw _ (List.mem_of_getElem? (i := 5) rfl))) (by decide) (backOf (W := 0) (own_rm1 l Z a0 hw [] i5 i6 (i2 % (32768 : Int32)) h0 n0 Z0) hZ (hw _ (List.mem_of_getElem? (i := 5) rfl)) (hw _ (List.mem_of_getElem? (i := 4) rfl)) (by decide) (by decide)) (g := (mkF m 91 #[.val (.int i0), .val (.int i1), .val (.int i2), .val (.int i3), .val (.int i4), .val (.int i5), .val (.int i6), .val (.int t0), .val (.int (((i4.toUInt32 >>> ((1 : Int32) &&& 31).toUInt32).toInt32) &&& (255 : Int32))), .val (.int (i2 % (32768 : Int32))), .unset, .unset] [(.int (i2 % (32768 : Int32))), (.int i6), (.int i5)])) rfl (by rw [hml]; rfl) (argsL := [(.int i5), (.int i6), (.int (i2 % (32768 : Int32)))]) (rest := []) (lenOf own_pd0 rfl) rfl (by show 2 * 0 + _ ≤ _; exact Nat.le_of_eq rfl) (hb hby at_91) (fun _ _ => ⟨rfl, e0, (by decide : 0 + 0 ≤ _), (by decide : 0 + 0 ≤ _)⟩)
    dsimp only [Pt.U, Pt.locs, Pt.cells, Pt.slots] at X1 l1 y1 z1 st1 hQ1
    subst l1 y1 z1
    obtain ⟨rfl, N1q, e1⟩ := hQ1
    have N1 := Fr.app N N1q
    refine own_back (fun t k => st1 t k) ?_
    show own_Go _ _ _ _ _ _ _ (T1.setTop (mkF m 94 #[.val (.int i0), .val (.int i1), .val (.int i2), .val (.int i3), .val (.int i4), .val (.int i5), .val (.int i6), .val (.int t0), .val (.int (((i4.toUInt32 >>> ((1 : Int32) &&& 31).toUInt32).toInt32) &&& (255 : Int32))), .val (.int (i2 % (32768 : Int32))), .unset, .unset] [(.long (own_f1_0 i5 i6 (i2 % (32768 : Int32))))]))
    refine own_back (fun t k => XS.iload X1.here hx rfl (hb hby at_94) rfl k) ?_
    show own_Go _ _ _ _ _ _ _ (T1.setTop (mkF m 96 #[.val (.int i0), .val (.int i1), .val (.int i2), .val (.int i3), .val (.int i4), .val (.int i5), .val (.int i6), .val (.int t0), .val (.int (((i4.toUInt32 >>> ((1 : Int32) &&& 31).toUInt32).toInt32) &&& (255 : Int32))), .val (.int (i2 % (32768 : Int32))), .unset, .unset] [(.int (((i4.toUInt32 >>> ((1 : Int32) &&& 31).toUInt32).toInt32) &&& (255 : Int32))), (.long (own_f1_0 i5 i6 (i2 % (32768 : Int32))))]))
    refine own_back (fun t k => XS.i2l X1.here hx rfl (hb hby at_96) rfl k) ?_
    show own_Go _ _ _ _ _ _ _ (T1.setTop (mkF m 97 #[.val (.int i0), .val (.int i1), .val (.int i2), .val (.int i3), .val (.int i4), .val (.int i5), .val (.int i6), .val (.int t0), .val (.int (((i4.toUInt32 >>> ((1 : Int32) &&& 31).toUInt32).toInt32) &&& (255 : Int32))), .val (.int (i2 % (32768 : Int32))), .unset, .unset] [(.long ((((i4.toUInt32 >>> ((1 : Int32) &&& 31).toUInt32).toInt32) &&& (255 : Int32)).toInt64)), (.long (own_f1_0 i5 i6 (i2 % (32768 : Int32))))]))
    refine own_back (fun t k => XS.lor X1.here hx rfl (hb hby at_97) rfl k) ?_
    show own_Go _ _ _ _ _ _ _ (T1.setTop (mkF m 98 #[.val (.int i0), .val (.int i1), .val (.int i2), .val (.int i3), .val (.int i4), .val (.int i5), .val (.int i6), .val (.int t0), .val (.int (((i4.toUInt32 >>> ((1 : Int32) &&& 31).toUInt32).toInt32) &&& (255 : Int32))), .val (.int (i2 % (32768 : Int32))), .unset, .unset] [(.long ((own_f1_0 i5 i6 (i2 % (32768 : Int32))) ||| ((((i4.toUInt32 >>> ((1 : Int32) &&& 31).toUInt32).toInt32) &&& (255 : Int32)).toInt64)))]))
    refine own_back (fun t k => XS.lstore X1.here hx rfl (hb hby at_98) rfl (l' := #[.val (.int i0), .val (.int i1), .val (.int i2), .val (.int i3), .val (.int i4), .val (.int i5), .val (.int i6), .val (.int t0), .val (.int (((i4.toUInt32 >>> ((1 : Int32) &&& 31).toUInt32).toInt32) &&& (255 : Int32))), .val (.int (i2 % (32768 : Int32))), .val (.long ((own_f1_0 i5 i6 (i2 % (32768 : Int32))) ||| ((((i4.toUInt32 >>> ((1 : Int32) &&& 31).toUInt32).toInt32) &&& (255 : Int32)).toInt64))), .second]) rfl k) ?_
    show own_Go _ _ _ _ _ _ _ (T1.setTop (mkF m 100 #[.val (.int i0), .val (.int i1), .val (.int i2), .val (.int i3), .val (.int i4), .val (.int i5), .val (.int i6), .val (.int t0), .val (.int (((i4.toUInt32 >>> ((1 : Int32) &&& 31).toUInt32).toInt32) &&& (255 : Int32))), .val (.int (i2 % (32768 : Int32))), .val (.long ((own_f1_0 i5 i6 (i2 % (32768 : Int32))) ||| ((((i4.toUInt32 >>> ((1 : Int32) &&& 31).toUInt32).toInt32) &&& (255 : Int32)).toInt64))), .second] []))
    refine own_back (fun t k => XS.lload X1.here hx rfl (hb hby at_100) rfl k) ?_
    show own_Go _ _ _ _ _ _ _ (T1.setTop (mkF m 102 #[.val (.int i0), .val (.int i1), .val (.int i2), .val (.int i3), .val (.int i4), .val (.int i5), .val (.int i6), .val (.int t0), .val (.int (((i4.toUInt32 >>> ((1 : Int32) &&& 31).toUInt32).toInt32) &&& (255 : Int32))), .val (.int (i2 % (32768 : Int32))), .val (.long ((own_f1_0 i5 i6 (i2 % (32768 : Int32))) ||| ((((i4.toUInt32 >>> ((1 : Int32) &&& 31).toUInt32).toInt32) &&& (255 : Int32)).toInt64))), .second] [(.long ((own_f1_0 i5 i6 (i2 % (32768 : Int32))) ||| ((((i4.toUInt32 >>> ((1 : Int32) &&& 31).toUInt32).toInt32) &&& (255 : Int32)).toInt64)))]))
    refine own_back (fun t k => XS.iloadN X1.here hx rfl (hb hby at_102) rfl k) ?_
    show own_Go _ _ _ _ _ _ _ (T1.setTop (mkF m 103 #[.val (.int i0), .val (.int i1), .val (.int i2), .val (.int i3), .val (.int i4), .val (.int i5), .val (.int i6), .val (.int t0), .val (.int (((i4.toUInt32 >>> ((1 : Int32) &&& 31).toUInt32).toInt32) &&& (255 : Int32))), .val (.int (i2 % (32768 : Int32))), .val (.long ((own_f1_0 i5 i6 (i2 % (32768 : Int32))) ||| ((((i4.toUInt32 >>> ((1 : Int32) &&& 31).toUInt32).toInt32) &&& (255 : Int32)).toInt64))), .second] [(.int i3), (.long ((own_f1_0 i5 i6 (i2 % (32768 : Int32))) ||| ((((i4.toUInt32 >>> ((1 : Int32) &&& 31).toUInt32).toInt32) &&& (255 : Int32)).toInt64)))]))
    obtain ⟨_, _, ⟨T2, L2, k2, n2⟩, -, X2, ⟨Lc2, hQ2, l2, y2, z2⟩, st2⟩ := Jvm.LawKit.callS X1 hx (y := (⟨"com/example/turnstile_chain/turnstilechain/patterns/SweepTable", "topAfter", "(JI)I"⟩ : MethodName)) hown (mvT hZ (hw _ (List.mem_of_getElem? (i := 7) rfl))) (mvT hZ (hw _ (List.mem_of_getElem? (i := 8) rfl))) (mvT hZ (hw _ (List.mem_of_getElem? (i := 4) rfl))) (mvT hZ (hw _ (List.mem_of_getElem? (i := 9) rfl))) (by decide) (backOf (W := 0) (own_rm2 l Z a0 hw [] ((own_f1_0 i5 i6 (i2 % (32768 : Int32))) ||| ((((i4.toUInt32 >>> ((1 : Int32) &&& 31).toUInt32).toInt32) &&& (255 : Int32)).toInt64)) i3 h0 n0 Z0) hZ (hw _ (List.mem_of_getElem? (i := 9) rfl)) (hw _ (List.mem_of_getElem? (i := 4) rfl)) (by decide) (by decide)) (g := (mkF m 103 #[.val (.int i0), .val (.int i1), .val (.int i2), .val (.int i3), .val (.int i4), .val (.int i5), .val (.int i6), .val (.int t0), .val (.int (((i4.toUInt32 >>> ((1 : Int32) &&& 31).toUInt32).toInt32) &&& (255 : Int32))), .val (.int (i2 % (32768 : Int32))), .val (.long ((own_f1_0 i5 i6 (i2 % (32768 : Int32))) ||| ((((i4.toUInt32 >>> ((1 : Int32) &&& 31).toUInt32).toInt32) &&& (255 : Int32)).toInt64))), .second] [(.int i3), (.long ((own_f1_0 i5 i6 (i2 % (32768 : Int32))) ||| ((((i4.toUInt32 >>> ((1 : Int32) &&& 31).toUInt32).toInt32) &&& (255 : Int32)).toInt64)))])) rfl (by rw [hml]; rfl) (argsL := [(.long ((own_f1_0 i5 i6 (i2 % (32768 : Int32))) ||| ((((i4.toUInt32 >>> ((1 : Int32) &&& 31).toUInt32).toInt32) &&& (255 : Int32)).toInt64))), (.int i3)]) (rest := []) (lenOf own_pd1 rfl) rfl (by show 2 * 0 + _ ≤ _; exact Nat.le_of_eq rfl) (hb hby at_103) (fun _ _ => ⟨rfl, e1, (by decide : 0 + 0 ≤ _), (by decide : 0 + 0 ≤ _)⟩)
    dsimp only [Pt.U, Pt.locs, Pt.cells, Pt.slots] at X2 l2 y2 z2 st2 hQ2
    subst l2 y2 z2
    obtain ⟨rfl, N2q, e2⟩ := hQ2
    have N2 := Fr.app N1 N2q
    refine own_back (fun t k => st2 t k) ?_
    show own_Go _ _ _ _ _ _ _ (T2.setTop (mkF m 106 #[.val (.int i0), .val (.int i1), .val (.int i2), .val (.int i3), .val (.int i4), .val (.int i5), .val (.int i6), .val (.int t0), .val (.int (((i4.toUInt32 >>> ((1 : Int32) &&& 31).toUInt32).toInt32) &&& (255 : Int32))), .val (.int (i2 % (32768 : Int32))), .val (.long ((own_f1_0 i5 i6 (i2 % (32768 : Int32))) ||| ((((i4.toUInt32 >>> ((1 : Int32) &&& 31).toUInt32).toInt32) &&& (255 : Int32)).toInt64))), .second] [(.int (own_f2_0 ((own_f1_0 i5 i6 (i2 % (32768 : Int32))) ||| ((((i4.toUInt32 >>> ((1 : Int32) &&& 31).toUInt32).toInt32) &&& (255 : Int32)).toInt64)) i3))]))
    refine own_back (fun t k => XS.iloadN X2.here hx rfl (hb hby at_106) rfl k) ?_
    show own_Go _ _ _ _ _ _ _ (T2.setTop (mkF m 107 #[.val (.int i0), .val (.int i1), .val (.int i2), .val (.int i3), .val (.int i4), .val (.int i5), .val (.int i6), .val (.int t0), .val (.int (((i4.toUInt32 >>> ((1 : Int32) &&& 31).toUInt32).toInt32) &&& (255 : Int32))), .val (.int (i2 % (32768 : Int32))), .val (.long ((own_f1_0 i5 i6 (i2 % (32768 : Int32))) ||| ((((i4.toUInt32 >>> ((1 : Int32) &&& 31).toUInt32).toInt32) &&& (255 : Int32)).toInt64))), .second] [(.int i3), (.int (own_f2_0 ((own_f1_0 i5 i6 (i2 % (32768 : Int32))) ||| ((((i4.toUInt32 >>> ((1 : Int32) &&& 31).toUInt32).toInt32) &&& (255 : Int32)).toInt64)) i3))]))
    refine own_back (fun t k => XS.iload X2.here hx rfl (hb hby at_107) rfl k) ?_
    show own_Go _ _ _ _ _ _ _ (T2.setTop (mkF m 109 #[.val (.int i0), .val (.int i1), .val (.int i2), .val (.int i3), .val (.int i4), .val (.int i5), .val (.int i6), .val (.int t0), .val (.int (((i4.toUInt32 >>> ((1 : Int32) &&& 31).toUInt32).toInt32) &&& (255 : Int32))), .val (.int (i2 % (32768 : Int32))), .val (.long ((own_f1_0 i5 i6 (i2 % (32768 : Int32))) ||| ((((i4.toUInt32 >>> ((1 : Int32) &&& 31).toUInt32).toInt32) &&& (255 : Int32)).toInt64))), .second] [(.int (i2 % (32768 : Int32))), (.int i3), (.int (own_f2_0 ((own_f1_0 i5 i6 (i2 % (32768 : Int32))) ||| ((((i4.toUInt32 >>> ((1 : Int32) &&& 31).toUInt32).toInt32) &&& (255 : Int32)).toInt64)) i3))]))
    refine own_back (fun t k => XS.iadd X2.here hx rfl (hb hby at_109) rfl k) ?_
    show own_Go _ _ _ _ _ _ _ (T2.setTop (mkF m 110 #[.val (.int i0), .val (.int i1), .val (.int i2), .val (.int i3), .val (.int i4), .val (.int i5), .val (.int i6), .val (.int t0), .val (.int (((i4.toUInt32 >>> ((1 : Int32) &&& 31).toUInt32).toInt32) &&& (255 : Int32))), .val (.int (i2 % (32768 : Int32))), .val (.long ((own_f1_0 i5 i6 (i2 % (32768 : Int32))) ||| ((((i4.toUInt32 >>> ((1 : Int32) &&& 31).toUInt32).toInt32) &&& (255 : Int32)).toInt64))), .second] [(.int (i3 + (i2 % (32768 : Int32)))), (.int (own_f2_0 ((own_f1_0 i5 i6 (i2 % (32768 : Int32))) ||| ((((i4.toUInt32 >>> ((1 : Int32) &&& 31).toUInt32).toInt32) &&& (255 : Int32)).toInt64)) i3))]))
    by_cases hc110 : (own_f2_0 ((own_f1_0 i5 i6 (i2 % (32768 : Int32))) ||| ((((i4.toUInt32 >>> ((1 : Int32) &&& 31).toUInt32).toInt32) &&& (255 : Int32)).toInt64)) i3) = (i3 + (i2 % (32768 : Int32)))
    · rw [if_pos hc110] at hR
      refine own_back (fun t k => XS.icmpNo X2.here hx rfl (hb hby at_110) rfl (teq hc110).2 k) ?_
      show own_Go _ _ _ _ _ _ _ (T2.setTop (mkF m 113 #[.val (.int i0), .val (.int i1), .val (.int i2), .val (.int i3), .val (.int i4), .val (.int i5), .val (.int i6), .val (.int t0), .val (.int (((i4.toUInt32 >>> ((1 : Int32) &&& 31).toUInt32).toInt32) &&& (255 : Int32))), .val (.int (i2 % (32768 : Int32))), .val (.long ((own_f1_0 i5 i6 (i2 % (32768 : Int32))) ||| ((((i4.toUInt32 >>> ((1 : Int32) &&& 31).toUInt32).toInt32) &&& (255 : Int32)).toInt64))), .second] []))
      refine own_back (fun t k => XS.iconst X2.here hx rfl (hb hby at_113) k) ?_
      show own_Go _ _ _ _ _ _ _ (T2.setTop (mkF m 114 #[.val (.int i0), .val (.int i1), .val (.int i2), .val (.int i3), .val (.int i4), .val (.int i5), .val (.int i6), .val (.int t0), .val (.int (((i4.toUInt32 >>> ((1 : Int32) &&& 31).toUInt32).toInt32) &&& (255 : Int32))), .val (.int (i2 % (32768 : Int32))), .val (.long ((own_f1_0 i5 i6 (i2 % (32768 : Int32))) ||| ((((i4.toUInt32 >>> ((1 : Int32) &&& 31).toUInt32).toInt32) &&& (255 : Int32)).toInt64))), .second] [(.int (1 : Int32))]))
      refine own_back (fun t k => XS.goto X2.here hx rfl (pc0 := 114) (pc' := 118) rfl (hb hby at_114) (by decide) (by decide) k) ?_
      show own_Go _ _ _ _ _ _ _ (T2.setTop (mkF m 118 #[.val (.int i0), .val (.int i1), .val (.int i2), .val (.int i3), .val (.int i4), .val (.int i5), .val (.int i6), .val (.int t0), .val (.int (((i4.toUInt32 >>> ((1 : Int32) &&& 31).toUInt32).toInt32) &&& (255 : Int32))), .val (.int (i2 % (32768 : Int32))), .val (.long ((own_f1_0 i5 i6 (i2 % (32768 : Int32))) ||| ((((i4.toUInt32 >>> ((1 : Int32) &&& 31).toUInt32).toInt32) &&& (255 : Int32)).toInt64))), .second] [(.int (1 : Int32))]))
      subst hR
      exact own_retN X2 hx (t := .boolean) hret (by simp) (hb hby at_118) hlk (by decide) ⟨rfl, N2, e2⟩ (by decide) (by decide)
    · rw [if_neg hc110] at hR
      refine own_back (fun t k => XS.icmpYes X2.here hx rfl (pc0 := 110) (pc' := 117) rfl (hb hby at_110) rfl (feq hc110).2 (by decide) (by decide) k) ?_
      show own_Go _ _ _ _ _ _ _ (T2.setTop (mkF m 117 #[.val (.int i0), .val (.int i1), .val (.int i2), .val (.int i3), .val (.int i4), .val (.int i5), .val (.int i6), .val (.int t0), .val (.int (((i4.toUInt32 >>> ((1 : Int32) &&& 31).toUInt32).toInt32) &&& (255 : Int32))), .val (.int (i2 % (32768 : Int32))), .val (.long ((own_f1_0 i5 i6 (i2 % (32768 : Int32))) ||| ((((i4.toUInt32 >>> ((1 : Int32) &&& 31).toUInt32).toInt32) &&& (255 : Int32)).toInt64))), .second] []))
      refine own_back (fun t k => XS.iconst X2.here hx rfl (hb hby at_117) k) ?_
      show own_Go _ _ _ _ _ _ _ (T2.setTop (mkF m 118 #[.val (.int i0), .val (.int i1), .val (.int i2), .val (.int i3), .val (.int i4), .val (.int i5), .val (.int i6), .val (.int t0), .val (.int (((i4.toUInt32 >>> ((1 : Int32) &&& 31).toUInt32).toInt32) &&& (255 : Int32))), .val (.int (i2 % (32768 : Int32))), .val (.long ((own_f1_0 i5 i6 (i2 % (32768 : Int32))) ||| ((((i4.toUInt32 >>> ((1 : Int32) &&& 31).toUInt32).toInt32) &&& (255 : Int32)).toInt64))), .second] [(.int (0 : Int32))]))
      subst hR
      exact own_retN X2 hx (t := .boolean) hret (by simp) (hb hby at_118) hlk (by decide) ⟨rfl, N2, e2⟩ (by decide) (by decide)
  · rw [if_neg hc38] at hR
    refine own_back (fun t k => XS.ifNo X.here hx rfl (hb hby at_38) rfl ((if0 _ _).trans (feq hc38).1) k) ?_
    show own_Go _ _ _ _ _ _ _ (T.setTop (mkF m 41 #[.val (.int i0), .val (.int i1), .val (.int i2), .val (.int i3), .val (.int i4), .val (.int i5), .val (.int i6), .val (.int t0), .val (.int (((i4.toUInt32 >>> ((1 : Int32) &&& 31).toUInt32).toInt32) &&& (255 : Int32))), .unset, .unset, .unset] []))
    refine own_back (fun t k => XS.iloadN X.here hx rfl (hb hby at_41) rfl k) ?_
    show own_Go _ _ _ _ _ _ _ (T.setTop (mkF m 42 #[.val (.int i0), .val (.int i1), .val (.int i2), .val (.int i3), .val (.int i4), .val (.int i5), .val (.int i6), .val (.int t0), .val (.int (((i4.toUInt32 >>> ((1 : Int32) &&& 31).toUInt32).toInt32) &&& (255 : Int32))), .unset, .unset, .unset] [(.int i2)]))
    refine own_back (fun t k => X.ldcInt hx hown (mvT hZ (hw _ (List.mem_of_getElem? (i := 0) rfl))) (g := (mkF m 42 #[.val (.int i0), .val (.int i1), .val (.int i2), .val (.int i3), .val (.int i4), .val (.int i5), .val (.int i6), .val (.int t0), .val (.int (((i4.toUInt32 >>> ((1 : Int32) &&& 31).toUInt32).toInt32) &&& (255 : Int32))), .unset, .unset, .unset] [(.int i2)])) rfl (hb hby at_42) _ k) ?_
    show own_Go _ _ _ _ _ _ _ (T.setTop (mkF m 44 #[.val (.int i0), .val (.int i1), .val (.int i2), .val (.int i3), .val (.int i4), .val (.int i5), .val (.int i6), .val (.int t0), .val (.int (((i4.toUInt32 >>> ((1 : Int32) &&& 31).toUInt32).toInt32) &&& (255 : Int32))), .unset, .unset, .unset] [(.int (65535 : Int32)), (.int i2)]))
    refine own_back (fun t k => XS.iand X.here hx rfl (hb hby at_44) rfl k) ?_
    show own_Go _ _ _ _ _ _ _ (T.setTop (mkF m 45 #[.val (.int i0), .val (.int i1), .val (.int i2), .val (.int i3), .val (.int i4), .val (.int i5), .val (.int i6), .val (.int t0), .val (.int (((i4.toUInt32 >>> ((1 : Int32) &&& 31).toUInt32).toInt32) &&& (255 : Int32))), .unset, .unset, .unset] [(.int (i2 &&& (65535 : Int32)))]))
    refine own_back (fun t k => XS.istore X.here hx rfl (hb hby at_45) rfl (l' := #[.val (.int i0), .val (.int i1), .val (.int i2), .val (.int i3), .val (.int i4), .val (.int i5), .val (.int i6), .val (.int t0), .val (.int (((i4.toUInt32 >>> ((1 : Int32) &&& 31).toUInt32).toInt32) &&& (255 : Int32))), .val (.int (i2 &&& (65535 : Int32))), .unset, .unset]) rfl k) ?_
    show own_Go _ _ _ _ _ _ _ (T.setTop (mkF m 47 #[.val (.int i0), .val (.int i1), .val (.int i2), .val (.int i3), .val (.int i4), .val (.int i5), .val (.int i6), .val (.int t0), .val (.int (((i4.toUInt32 >>> ((1 : Int32) &&& 31).toUInt32).toInt32) &&& (255 : Int32))), .val (.int (i2 &&& (65535 : Int32))), .unset, .unset] []))
    refine own_back (fun t k => XS.iload X.here hx rfl (hb hby at_47) rfl k) ?_
    show own_Go _ _ _ _ _ _ _ (T.setTop (mkF m 49 #[.val (.int i0), .val (.int i1), .val (.int i2), .val (.int i3), .val (.int i4), .val (.int i5), .val (.int i6), .val (.int t0), .val (.int (((i4.toUInt32 >>> ((1 : Int32) &&& 31).toUInt32).toInt32) &&& (255 : Int32))), .val (.int (i2 &&& (65535 : Int32))), .unset, .unset] [(.int i5)]))
    refine own_back (fun t k => XS.iload X.here hx rfl (hb hby at_49) rfl k) ?_
    show own_Go _ _ _ _ _ _ _ (T.setTop (mkF m 51 #[.val (.int i0), .val (.int i1), .val (.int i2), .val (.int i3), .val (.int i4), .val (.int i5), .val (.int i6), .val (.int t0), .val (.int (((i4.toUInt32 >>> ((1 : Int32) &&& 31).toUInt32).toInt32) &&& (255 : Int32))), .val (.int (i2 &&& (65535 : Int32))), .unset, .unset] [(.int i6), (.int i5)]))
    refine own_back (fun t k => XS.iload X.here hx rfl (hb hby at_51) rfl k) ?_
    show own_Go _ _ _ _ _ _ _ (T.setTop (mkF m 53 #[.val (.int i0), .val (.int i1), .val (.int i2), .val (.int i3), .val (.int i4), .val (.int i5), .val (.int i6), .val (.int t0), .val (.int (((i4.toUInt32 >>> ((1 : Int32) &&& 31).toUInt32).toInt32) &&& (255 : Int32))), .val (.int (i2 &&& (65535 : Int32))), .unset, .unset] [(.int (i2 &&& (65535 : Int32))), (.int i6), (.int i5)]))
    obtain ⟨_, _, ⟨T3, L3, k3, n3⟩, -, X3, ⟨Lc3, hQ3, l3, y3, z3⟩, st3⟩ := Jvm.LawKit.callS X hx (y := (⟨"com/example/turnstile_chain/turnstilechain/patterns/SweepTable", "moveTo", "(III)J"⟩ : MethodName)) hown (mvT hZ (hw _ (List.mem_of_getElem? (i := 11) rfl))) (mvT hZ (hw _ (List.mem_of_getElem? (i := 12) rfl))) (mvT hZ (hw _ (List.mem_of_getElem? (i := 4) rfl))) (mvT hZ (hw _ (List.mem_of_getElem? (i := 13) rfl))) (by decide) (backOf (W := 0) (own_rm3 l Z a0 hw [] i5 i6 (i2 &&& (65535 : Int32)) h0 n0 Z0) hZ (hw _ (List.mem_of_getElem? (i := 13) rfl)) (hw _ (List.mem_of_getElem? (i := 4) rfl)) (by decide) (by decide)) (g := (mkF m 53 #[.val (.int i0), .val (.int i1), .val (.int i2), .val (.int i3), .val (.int i4), .val (.int i5), .val (.int i6), .val (.int t0), .val (.int (((i4.toUInt32 >>> ((1 : Int32) &&& 31).toUInt32).toInt32) &&& (255 : Int32))), .val (.int (i2 &&& (65535 : Int32))), .unset, .unset] [(.int (i2 &&& (65535 : Int32))), (.int i6), (.int i5)])) rfl (by rw [hml]; rfl) (argsL := [(.int i5), (.int i6), (.int (i2 &&& (65535 : Int32)))]) (rest := []) (lenOf own_pd0 rfl) rfl (by show 2 * 0 + _ ≤ _; exact Nat.le_of_eq rfl) (hb hby at_53) (fun _ _ => ⟨rfl, e0, (by decide : 0 + 0 ≤ _), (by decide : 0 + 0 ≤ _)⟩)
    dsimp only [Pt.U, Pt.locs, Pt.cells, Pt.slots] at X3 l3 y3 z3 st3 hQ3
    subst l3 y3 z3
    obtain ⟨rfl, N3q, e3⟩ := hQ3
    have N3 := Fr.app N N3q
    refine own_back (fun t k => st3 t k) ?_
    show own_Go _ _ _ _ _ _ _ (T3.setTop (mkF m 56 #[.val (.int i0), .val (.int i1), .val (.int i2), .val (.int i3), .val (.int i4), .val (.int i5), .val (.int i6), .val (.int t0), .val (.int (((i4.toUInt32 >>> ((1 : Int32) &&& 31).toUInt32).toInt32) &&& (255 : Int32))), .val (.int (i2 &&& (65535 : Int32))), .unset, .unset] [(.long (own_f3_0 i5 i6 (i2 &&& (65535 : Int32))))]))
    refine own_back (fun t k => XS.iload X3.here hx rfl (hb hby at_56) rfl k) ?_
    show own_Go _ _ _ _ _ _ _ (T3.setTop (mkF m 58 #[.val (.int i0), .val (.int i1), .val (.int i2), .val (.int i3), .val (.int i4), .val (.int i5), .val (.int i6), .val (.int t0), .val (.int (((i4.toUInt32 >>> ((1 : Int32) &&& 31).toUInt32).toInt32) &&& (255 : Int32))), .val (.int (i2 &&& (65535 : Int32))), .unset, .unset] [(.int (((i4.toUInt32 >>> ((1 : Int32) &&& 31).toUInt32).toInt32) &&& (255 : Int32))), (.long (own_f3_0 i5 i6 (i2 &&& (65535 : Int32))))]))
    refine own_back (fun t k => XS.i2l X3.here hx rfl (hb hby at_58) rfl k) ?_
    show own_Go _ _ _ _ _ _ _ (T3.setTop (mkF m 59 #[.val (.int i0), .val (.int i1), .val (.int i2), .val (.int i3), .val (.int i4), .val (.int i5), .val (.int i6), .val (.int t0), .val (.int (((i4.toUInt32 >>> ((1 : Int32) &&& 31).toUInt32).toInt32) &&& (255 : Int32))), .val (.int (i2 &&& (65535 : Int32))), .unset, .unset] [(.long ((((i4.toUInt32 >>> ((1 : Int32) &&& 31).toUInt32).toInt32) &&& (255 : Int32)).toInt64)), (.long (own_f3_0 i5 i6 (i2 &&& (65535 : Int32))))]))
    refine own_back (fun t k => XS.lor X3.here hx rfl (hb hby at_59) rfl k) ?_
    show own_Go _ _ _ _ _ _ _ (T3.setTop (mkF m 60 #[.val (.int i0), .val (.int i1), .val (.int i2), .val (.int i3), .val (.int i4), .val (.int i5), .val (.int i6), .val (.int t0), .val (.int (((i4.toUInt32 >>> ((1 : Int32) &&& 31).toUInt32).toInt32) &&& (255 : Int32))), .val (.int (i2 &&& (65535 : Int32))), .unset, .unset] [(.long ((own_f3_0 i5 i6 (i2 &&& (65535 : Int32))) ||| ((((i4.toUInt32 >>> ((1 : Int32) &&& 31).toUInt32).toInt32) &&& (255 : Int32)).toInt64)))]))
    refine own_back (fun t k => XS.lstore X3.here hx rfl (hb hby at_60) rfl (l' := #[.val (.int i0), .val (.int i1), .val (.int i2), .val (.int i3), .val (.int i4), .val (.int i5), .val (.int i6), .val (.int t0), .val (.int (((i4.toUInt32 >>> ((1 : Int32) &&& 31).toUInt32).toInt32) &&& (255 : Int32))), .val (.int (i2 &&& (65535 : Int32))), .val (.long ((own_f3_0 i5 i6 (i2 &&& (65535 : Int32))) ||| ((((i4.toUInt32 >>> ((1 : Int32) &&& 31).toUInt32).toInt32) &&& (255 : Int32)).toInt64))), .second]) rfl k) ?_
    show own_Go _ _ _ _ _ _ _ (T3.setTop (mkF m 62 #[.val (.int i0), .val (.int i1), .val (.int i2), .val (.int i3), .val (.int i4), .val (.int i5), .val (.int i6), .val (.int t0), .val (.int (((i4.toUInt32 >>> ((1 : Int32) &&& 31).toUInt32).toInt32) &&& (255 : Int32))), .val (.int (i2 &&& (65535 : Int32))), .val (.long ((own_f3_0 i5 i6 (i2 &&& (65535 : Int32))) ||| ((((i4.toUInt32 >>> ((1 : Int32) &&& 31).toUInt32).toInt32) &&& (255 : Int32)).toInt64))), .second] []))
    refine own_back (fun t k => XS.lload X3.here hx rfl (hb hby at_62) rfl k) ?_
    show own_Go _ _ _ _ _ _ _ (T3.setTop (mkF m 64 #[.val (.int i0), .val (.int i1), .val (.int i2), .val (.int i3), .val (.int i4), .val (.int i5), .val (.int i6), .val (.int t0), .val (.int (((i4.toUInt32 >>> ((1 : Int32) &&& 31).toUInt32).toInt32) &&& (255 : Int32))), .val (.int (i2 &&& (65535 : Int32))), .val (.long ((own_f3_0 i5 i6 (i2 &&& (65535 : Int32))) ||| ((((i4.toUInt32 >>> ((1 : Int32) &&& 31).toUInt32).toInt32) &&& (255 : Int32)).toInt64))), .second] [(.long ((own_f3_0 i5 i6 (i2 &&& (65535 : Int32))) ||| ((((i4.toUInt32 >>> ((1 : Int32) &&& 31).toUInt32).toInt32) &&& (255 : Int32)).toInt64)))]))
    refine own_back (fun t k => XS.iloadN X3.here hx rfl (hb hby at_64) rfl k) ?_
    show own_Go _ _ _ _ _ _ _ (T3.setTop (mkF m 65 #[.val (.int i0), .val (.int i1), .val (.int i2), .val (.int i3), .val (.int i4), .val (.int i5), .val (.int i6), .val (.int t0), .val (.int (((i4.toUInt32 >>> ((1 : Int32) &&& 31).toUInt32).toInt32) &&& (255 : Int32))), .val (.int (i2 &&& (65535 : Int32))), .val (.long ((own_f3_0 i5 i6 (i2 &&& (65535 : Int32))) ||| ((((i4.toUInt32 >>> ((1 : Int32) &&& 31).toUInt32).toInt32) &&& (255 : Int32)).toInt64))), .second] [(.int i3), (.long ((own_f3_0 i5 i6 (i2 &&& (65535 : Int32))) ||| ((((i4.toUInt32 >>> ((1 : Int32) &&& 31).toUInt32).toInt32) &&& (255 : Int32)).toInt64)))]))
    obtain ⟨_, _, ⟨T4, L4, k4, n4⟩, -, X4, ⟨Lc4, hQ4, l4, y4, z4⟩, st4⟩ := Jvm.LawKit.callS X3 hx (y := (⟨"com/example/turnstile_chain/turnstilechain/patterns/SweepTable", "topAfter", "(JI)I"⟩ : MethodName)) hown (mvT hZ (hw _ (List.mem_of_getElem? (i := 7) rfl))) (mvT hZ (hw _ (List.mem_of_getElem? (i := 8) rfl))) (mvT hZ (hw _ (List.mem_of_getElem? (i := 4) rfl))) (mvT hZ (hw _ (List.mem_of_getElem? (i := 9) rfl))) (by decide) (backOf (W := 0) (own_rm2 l Z a0 hw [] ((own_f3_0 i5 i6 (i2 &&& (65535 : Int32))) ||| ((((i4.toUInt32 >>> ((1 : Int32) &&& 31).toUInt32).toInt32) &&& (255 : Int32)).toInt64)) i3 h0 n0 Z0) hZ (hw _ (List.mem_of_getElem? (i := 9) rfl)) (hw _ (List.mem_of_getElem? (i := 4) rfl)) (by decide) (by decide)) (g := (mkF m 65 #[.val (.int i0), .val (.int i1), .val (.int i2), .val (.int i3), .val (.int i4), .val (.int i5), .val (.int i6), .val (.int t0), .val (.int (((i4.toUInt32 >>> ((1 : Int32) &&& 31).toUInt32).toInt32) &&& (255 : Int32))), .val (.int (i2 &&& (65535 : Int32))), .val (.long ((own_f3_0 i5 i6 (i2 &&& (65535 : Int32))) ||| ((((i4.toUInt32 >>> ((1 : Int32) &&& 31).toUInt32).toInt32) &&& (255 : Int32)).toInt64))), .second] [(.int i3), (.long ((own_f3_0 i5 i6 (i2 &&& (65535 : Int32))) ||| ((((i4.toUInt32 >>> ((1 : Int32) &&& 31).toUInt32).toInt32) &&& (255 : Int32)).toInt64)))])) rfl (by rw [hml]; rfl) (argsL := [(.long ((own_f3_0 i5 i6 (i2 &&& (65535 : Int32))) ||| ((((i4.toUInt32 >>> ((1 : Int32) &&& 31).toUInt32).toInt32) &&& (255 : Int32)).toInt64))), (.int i3)]) (rest := []) (lenOf own_pd1 rfl) rfl (by show 2 * 0 + _ ≤ _; exact Nat.le_of_eq rfl) (hb hby at_65) (fun _ _ => ⟨rfl, e3, (by decide : 0 + 0 ≤ _), (by decide : 0 + 0 ≤ _)⟩)
    dsimp only [Pt.U, Pt.locs, Pt.cells, Pt.slots] at X4 l4 y4 z4 st4 hQ4
    subst l4 y4 z4
    obtain ⟨rfl, N4q, e4⟩ := hQ4
    have N4 := Fr.app N3 N4q
    refine own_back (fun t k => st4 t k) ?_
    show own_Go _ _ _ _ _ _ _ (T4.setTop (mkF m 68 #[.val (.int i0), .val (.int i1), .val (.int i2), .val (.int i3), .val (.int i4), .val (.int i5), .val (.int i6), .val (.int t0), .val (.int (((i4.toUInt32 >>> ((1 : Int32) &&& 31).toUInt32).toInt32) &&& (255 : Int32))), .val (.int (i2 &&& (65535 : Int32))), .val (.long ((own_f3_0 i5 i6 (i2 &&& (65535 : Int32))) ||| ((((i4.toUInt32 >>> ((1 : Int32) &&& 31).toUInt32).toInt32) &&& (255 : Int32)).toInt64))), .second] [(.int (own_f2_0 ((own_f3_0 i5 i6 (i2 &&& (65535 : Int32))) ||| ((((i4.toUInt32 >>> ((1 : Int32) &&& 31).toUInt32).toInt32) &&& (255 : Int32)).toInt64)) i3))]))
    refine own_back (fun t k => XS.iload X4.here hx rfl (hb hby at_68) rfl k) ?_
    show own_Go _ _ _ _ _ _ _ (T4.setTop (mkF m 70 #[.val (.int i0), .val (.int i1), .val (.int i2), .val (.int i3), .val (.int i4), .val (.int i5), .val (.int i6), .val (.int t0), .val (.int (((i4.toUInt32 >>> ((1 : Int32) &&& 31).toUInt32).toInt32) &&& (255 : Int32))), .val (.int (i2 &&& (65535 : Int32))), .val (.long ((own_f3_0 i5 i6 (i2 &&& (65535 : Int32))) ||| ((((i4.toUInt32 >>> ((1 : Int32) &&& 31).toUInt32).toInt32) &&& (255 : Int32)).toInt64))), .second] [(.int (i2 &&& (65535 : Int32))), (.int (own_f2_0 ((own_f3_0 i5 i6 (i2 &&& (65535 : Int32))) ||| ((((i4.toUInt32 >>> ((1 : Int32) &&& 31).toUInt32).toInt32) &&& (255 : Int32)).toInt64)) i3))]))
    by_cases hc70 : (own_f2_0 ((own_f3_0 i5 i6 (i2 &&& (65535 : Int32))) ||| ((((i4.toUInt32 >>> ((1 : Int32) &&& 31).toUInt32).toInt32) &&& (255 : Int32)).toInt64)) i3) = (i2 &&& (65535 : Int32))
    · rw [if_pos hc70] at hR
      refine own_back (fun t k => XS.icmpNo X4.here hx rfl (hb hby at_70) rfl (teq hc70).2 k) ?_
      show own_Go _ _ _ _ _ _ _ (T4.setTop (mkF m 73 #[.val (.int i0), .val (.int i1), .val (.int i2), .val (.int i3), .val (.int i4), .val (.int i5), .val (.int i6), .val (.int t0), .val (.int (((i4.toUInt32 >>> ((1 : Int32) &&& 31).toUInt32).toInt32) &&& (255 : Int32))), .val (.int (i2 &&& (65535 : Int32))), .val (.long ((own_f3_0 i5 i6 (i2 &&& (65535 : Int32))) ||| ((((i4.toUInt32 >>> ((1 : Int32) &&& 31).toUInt32).toInt32) &&& (255 : Int32)).toInt64))), .second] []))
      refine own_back (fun t k => XS.iconst X4.here hx rfl (hb hby at_73) k) ?_
      show own_Go _ _ _ _ _ _ _ (T4.setTop (mkF m 74 #[.val (.int i0), .val (.int i1), .val (.int i2), .val (.int i3), .val (.int i4), .val (.int i5), .val (.int i6), .val (.int t0), .val (.int (((i4.toUInt32 >>> ((1 : Int32) &&& 31).toUInt32).toInt32) &&& (255 : Int32))), .val (.int (i2 &&& (65535 : Int32))), .val (.long ((own_f3_0 i5 i6 (i2 &&& (65535 : Int32))) ||| ((((i4.toUInt32 >>> ((1 : Int32) &&& 31).toUInt32).toInt32) &&& (255 : Int32)).toInt64))), .second] [(.int (1 : Int32))]))
      refine own_back (fun t k => XS.goto X4.here hx rfl (pc0 := 74) (pc' := 78) rfl (hb hby at_74) (by decide) (by decide) k) ?_
      show own_Go _ _ _ _ _ _ _ (T4.setTop (mkF m 78 #[.val (.int i0), .val (.int i1), .val (.int i2), .val (.int i3), .val (.int i4), .val (.int i5), .val (.int i6), .val (.int t0), .val (.int (((i4.toUInt32 >>> ((1 : Int32) &&& 31).toUInt32).toInt32) &&& (255 : Int32))), .val (.int (i2 &&& (65535 : Int32))), .val (.long ((own_f3_0 i5 i6 (i2 &&& (65535 : Int32))) ||| ((((i4.toUInt32 >>> ((1 : Int32) &&& 31).toUInt32).toInt32) &&& (255 : Int32)).toInt64))), .second] [(.int (1 : Int32))]))
      subst hR
      exact own_retN X4 hx (t := .boolean) hret (by simp) (hb hby at_78) hlk (by decide) ⟨rfl, N4, e4⟩ (by decide) (by decide)
    · rw [if_neg hc70] at hR
      refine own_back (fun t k => XS.icmpYes X4.here hx rfl (pc0 := 70) (pc' := 77) rfl (hb hby at_70) rfl (feq hc70).2 (by decide) (by decide) k) ?_
      show own_Go _ _ _ _ _ _ _ (T4.setTop (mkF m 77 #[.val (.int i0), .val (.int i1), .val (.int i2), .val (.int i3), .val (.int i4), .val (.int i5), .val (.int i6), .val (.int t0), .val (.int (((i4.toUInt32 >>> ((1 : Int32) &&& 31).toUInt32).toInt32) &&& (255 : Int32))), .val (.int (i2 &&& (65535 : Int32))), .val (.long ((own_f3_0 i5 i6 (i2 &&& (65535 : Int32))) ||| ((((i4.toUInt32 >>> ((1 : Int32) &&& 31).toUInt32).toInt32) &&& (255 : Int32)).toInt64))), .second] []))
      refine own_back (fun t k => XS.iconst X4.here hx rfl (hb hby at_77) k) ?_
      show own_Go _ _ _ _ _ _ _ (T4.setTop (mkF m 78 #[.val (.int i0), .val (.int i1), .val (.int i2), .val (.int i3), .val (.int i4), .val (.int i5), .val (.int i6), .val (.int t0), .val (.int (((i4.toUInt32 >>> ((1 : Int32) &&& 31).toUInt32).toInt32) &&& (255 : Int32))), .val (.int (i2 &&& (65535 : Int32))), .val (.long ((own_f3_0 i5 i6 (i2 &&& (65535 : Int32))) ||| ((((i4.toUInt32 >>> ((1 : Int32) &&& 31).toUInt32).toInt32) &&& (255 : Int32)).toInt64))), .second] [(.int (0 : Int32))]))
      subst hR
      exact own_retN X4 hx (t := .boolean) hret (by simp) (hb hby at_78) hlk (by decide) ⟨rfl, N4, e4⟩ (by decide) (by decide)
set_option maxRecDepth 65536 in
set_option maxHeartbeats 4000000 in
theorem own_l0_0 {p : Program} {l : Launch} {e : Env} {s : State} {m : MethodId} {args : Array Value} {below : List Frame} {meth : Method} {c : Code} {T : State} {locs : List Loc} {Z : State} {a0 : Array Value} {h0 : Heap} {n0 : Nat}
    (X : Stand p l e room_1 s m args below meth c T locs 0 0) (hx : p.tables.exec = Jvm.exec) (hZ : Z.Warmed39 s.vm) (hw : ∀ d ∈ tables_1, d.before a0 Z = true) (hby : c.code = code) (hml : c.maxLocals = 12) (hown : s.vm.findClass "com/example/turnstile_chain/turnstilechain/patterns/SweepTableTopAfterPinLaw" = some m.cls) (hret : meth.sig.returnType = some .boolean) (hlk : meth.locks = false) (e0 : T.heap = h0) (N : Fr n0 locs) (Z0 : n0 ≤ h0.size)
    (x0 : Int32) (x1 : Int32) (x2 : Int32) (x3 : Int32) (x4 : Int32) {r : Int32} (hR : r = own_f0_0 x0 x1 x2 x3 x4) : own_Go p e below s room_1.cells room_1.slots (own_QP (.int r) h0 n0) (T.setTop (mkF m 0 #[.val (.int x0), .val (.int x1), .val (.int x2), .val (.int x3), .val (.int x4), .unset, .unset, .unset, .unset, .unset, .unset, .unset] [])) := by
  unfold own_f0_0 at hR
  refine own_back (fun t k => XS.iloadN X.here hx rfl (hb hby at_0) rfl k) ?_
  show own_Go _ _ _ _ _ _ _ (T.setTop (mkF m 1 #[.val (.int x0), .val (.int x1), .val (.int x2), .val (.int x3), .val (.int x4), .unset, .unset, .unset, .unset, .unset, .unset, .unset] [(.int x0)]))
  refine own_back (fun t k => X.ldcInt hx hown (mvT hZ (hw _ (List.mem_of_getElem? (i := 0) rfl))) (g := (mkF m 1 #[.val (.int x0), .val (.int x1), .val (.int x2), .val (.int x3), .val (.int x4), .unset, .unset, .unset, .unset, .unset, .unset, .unset] [(.int x0)])) rfl (hb hby at_1) _ k) ?_
  show own_Go _ _ _ _ _ _ _ (T.setTop (mkF m 3 #[.val (.int x0), .val (.int x1), .val (.int x2), .val (.int x3), .val (.int x4), .unset, .unset, .unset, .unset, .unset, .unset, .unset] [(.int (65535 : Int32)), (.int x0)]))
  refine own_back (fun t k => XS.iand X.here hx rfl (hb hby at_3) rfl k) ?_
  show own_Go _ _ _ _ _ _ _ (T.setTop (mkF m 4 #[.val (.int x0), .val (.int x1), .val (.int x2), .val (.int x3), .val (.int x4), .unset, .unset, .unset, .unset, .unset, .unset, .unset] [(.int (x0 &&& (65535 : Int32)))]))
  refine own_back (fun t k => XS.istore X.here hx rfl (hb hby at_4) rfl (l' := #[.val (.int x0), .val (.int x1), .val (.int x2), .val (.int x3), .val (.int x4), .val (.int (x0 &&& (65535 : Int32))), .unset, .unset, .unset, .unset, .unset, .unset]) rfl k) ?_
  show own_Go _ _ _ _ _ _ _ (T.setTop (mkF m 6 #[.val (.int x0), .val (.int x1), .val (.int x2), .val (.int x3), .val (.int x4), .val (.int (x0 &&& (65535 : Int32))), .unset, .unset, .unset, .unset, .unset, .unset] []))
  refine own_back (fun t k => XS.iloadN X.here hx rfl (hb hby at_6) rfl k) ?_
  show own_Go _ _ _ _ _ _ _ (T.setTop (mkF m 7 #[.val (.int x0), .val (.int x1), .val (.int x2), .val (.int x3), .val (.int x4), .val (.int (x0 &&& (65535 : Int32))), .unset, .unset, .unset, .unset, .unset, .unset] [(.int x1)]))
  refine own_back (fun t k => X.ldcInt hx hown (mvT hZ (hw _ (List.mem_of_getElem? (i := 0) rfl))) (g := (mkF m 7 #[.val (.int x0), .val (.int x1), .val (.int x2), .val (.int x3), .val (.int x4), .val (.int (x0 &&& (65535 : Int32))), .unset, .unset, .unset, .unset, .unset, .unset] [(.int x1)])) rfl (hb hby at_7) _ k) ?_
  show own_Go _ _ _ _ _ _ _ (T.setTop (mkF m 9 #[.val (.int x0), .val (.int x1), .val (.int x2), .val (.int x3), .val (.int x4), .val (.int (x0 &&& (65535 : Int32))), .unset, .unset, .unset, .unset, .unset, .unset] [(.int (65535 : Int32)), (.int x1)]))
  refine own_back (fun t k => XS.iand X.here hx rfl (hb hby at_9) rfl k) ?_
  show own_Go _ _ _ _ _ _ _ (T.setTop (mkF m 10 #[.val (.int x0), .val (.int x1), .val (.int x2), .val (.int x3), .val (.int x4), .val (.int (x0 &&& (65535 : Int32))), .unset, .unset, .unset, .unset, .unset, .unset] [(.int (x1 &&& (65535 : Int32)))]))
  refine own_back (fun t k => XS.istore X.here hx rfl (hb hby at_10) rfl (l' := #[.val (.int x0), .val (.int x1), .val (.int x2), .val (.int x3), .val (.int x4), .val (.int (x0 &&& (65535 : Int32))), .val (.int (x1 &&& (65535 : Int32))), .unset, .unset, .unset, .unset, .unset]) rfl k) ?_
  show own_Go _ _ _ _ _ _ _ (T.setTop (mkF m 12 #[.val (.int x0), .val (.int x1), .val (.int x2), .val (.int x3), .val (.int x4), .val (.int (x0 &&& (65535 : Int32))), .val (.int (x1 &&& (65535 : Int32))), .unset, .unset, .unset, .unset, .unset] []))
  refine own_back (fun t k => XS.iload X.here hx rfl (hb hby at_12) rfl k) ?_
  show own_Go _ _ _ _ _ _ _ (T.setTop (mkF m 14 #[.val (.int x0), .val (.int x1), .val (.int x2), .val (.int x3), .val (.int x4), .val (.int (x0 &&& (65535 : Int32))), .val (.int (x1 &&& (65535 : Int32))), .unset, .unset, .unset, .unset, .unset] [(.int x4)]))
  refine own_back (fun t k => XS.iconst X.here hx rfl (hb hby at_14) k) ?_
  show own_Go _ _ _ _ _ _ _ (T.setTop (mkF m 15 #[.val (.int x0), .val (.int x1), .val (.int x2), .val (.int x3), .val (.int x4), .val (.int (x0 &&& (65535 : Int32))), .val (.int (x1 &&& (65535 : Int32))), .unset, .unset, .unset, .unset, .unset] [(.int (1 : Int32)), (.int x4)]))
  refine own_back (fun t k => XS.iand X.here hx rfl (hb hby at_15) rfl k) ?_
  show own_Go _ _ _ _ _ _ _ (T.setTop (mkF m 16 #[.val (.int x0), .val (.int x1), .val (.int x2), .val (.int x3), .val (.int x4), .val (.int (x0 &&& (65535 : Int32))), .val (.int (x1 &&& (65535 : Int32))), .unset, .unset, .unset, .unset, .unset] [(.int (x4 &&& (1 : Int32)))]))
  by_cases hc16 : (x4 &&& (1 : Int32)) = (0 : Int32)
  · rw [if_pos hc16] at hR
    refine own_back (fun t k => XS.ifYes X.here hx rfl (pc0 := 16) (pc' := 23) rfl (hb hby at_16) rfl ((if0 _ _).trans (teq hc16).1) (by decide) (by decide) k) ?_
    show own_Go _ _ _ _ _ _ _ (T.setTop (mkF m 23 #[.val (.int x0), .val (.int x1), .val (.int x2), .val (.int x3), .val (.int x4), .val (.int (x0 &&& (65535 : Int32))), .val (.int (x1 &&& (65535 : Int32))), .unset, .unset, .unset, .unset, .unset] []))
    refine own_back (fun t k => XS.iconst X.here hx rfl (hb hby at_23) k) ?_
    show own_Go _ _ _ _ _ _ _ (T.setTop (mkF m 24 #[.val (.int x0), .val (.int x1), .val (.int x2), .val (.int x3), .val (.int x4), .val (.int (x0 &&& (65535 : Int32))), .val (.int (x1 &&& (65535 : Int32))), .unset, .unset, .unset, .unset, .unset] [(.int (0 : Int32))]))
    exact own_l0_24 X hx hZ hw hby hml hown hret hlk e0 N Z0 x0 x1 x2 x3 x4 (x0 &&& (65535 : Int32)) (x1 &&& (65535 : Int32)) (0 : Int32) hR
  · rw [if_neg hc16] at hR
    refine own_back (fun t k => XS.ifNo X.here hx rfl (hb hby at_16) rfl ((if0 _ _).trans (feq hc16).1) k) ?_
    show own_Go _ _ _ _ _ _ _ (T.setTop (mkF m 19 #[.val (.int x0), .val (.int x1), .val (.int x2), .val (.int x3), .val (.int x4), .val (.int (x0 &&& (65535 : Int32))), .val (.int (x1 &&& (65535 : Int32))), .unset, .unset, .unset, .unset, .unset] []))
    refine own_back (fun t k => XS.iconst X.here hx rfl (hb hby at_19) k) ?_
    show own_Go _ _ _ _ _ _ _ (T.setTop (mkF m 20 #[.val (.int x0), .val (.int x1), .val (.int x2), .val (.int x3), .val (.int x4), .val (.int (x0 &&& (65535 : Int32))), .val (.int (x1 &&& (65535 : Int32))), .unset, .unset, .unset, .unset, .unset] [(.int (1 : Int32))]))
    refine own_back (fun t k => XS.goto X.here hx rfl (pc0 := 20) (pc' := 24) rfl (hb hby at_20) (by decide) (by decide) k) ?_
    show own_Go _ _ _ _ _ _ _ (T.setTop (mkF m 24 #[.val (.int x0), .val (.int x1), .val (.int x2), .val (.int x3), .val (.int x4), .val (.int (x0 &&& (65535 : Int32))), .val (.int (x1 &&& (65535 : Int32))), .unset, .unset, .unset, .unset, .unset] [(.int (1 : Int32))]))
    exact own_l0_24 X hx hZ hw hby hml hown hret hlk e0 N Z0 x0 x1 x2 x3 x4 (x0 &&& (65535 : Int32)) (x1 &&& (65535 : Int32)) (1 : Int32) hR
theorem own_pn0 : plainName "com/example/turnstile_chain/turnstilechain/patterns/SweepTableTopAfterPinLaw" = true := by first | (simp [plainName, overriddenIn]; done) | decide +kernel
theorem own_ef0 (m : MethodId) (x0 : Int32) (x1 : Int32) (x2 : Int32) (x3 : Int32) (x4 : Int32) : entryFrame m #[(.int x0), (.int x1), (.int x2), (.int x3), (.int x4)] maxLocals = mkF m 0 #[.val (.int x0), .val (.int x1), .val (.int x2), .val (.int x3), .val (.int x4), .unset, .unset, .unset, .unset, .unset, .unset, .unset] [] := by first | (simp [entryFrame, mkF, argsToLocals, Value.category, maxLocals]; done) | rfl
set_option maxRecDepth 65536 in
set_option maxHeartbeats 4000000 in
theorem own_rm0 (l : Launch) (Z : State) (a0 : Array Value) (hw : ∀ d ∈ tables_1, d.before a0 Z = true) (ws : List Jvm.Cond) (x0 : Int32) (x1 : Int32) (x2 : Int32) (x3 : Int32) (x4 : Int32) (h0 : Heap) (n0 : Nat) (Z0 : n0 ≤ h0.size) :
    MetFree l x (head1 (Jvm.Cond.code x code maxLocals ret :: ws) room_1) (fun a U => a = #[(.int x0), (.int x1), (.int x2), (.int x3), (.int x4)] ∧ Z.Warmed39 U.vm ∧ U.heap = h0) (fun _ _ _ _ _ => True) (fun _ U o U' => ∃ v L, o = .returned v ∧ own_QP (.int (own_f0_0 x0 x1 x2 x3 x4)) h0 n0 v U'.heap L ∧ FrameEnd U o U' L room_1.cells room_1.slots) := by
  refine MetFree.of_bodySF (plainFor_of_name own_pn0) hisR ?_
  intro p e s m args below meth c s₁ Bd hml0 hP hK
  obtain ⟨rfl, hZ, hh⟩ := hP
  have X0 : Stand p l e room_1 s m #[(.int x0), (.int x1), (.int x2), (.int x3), (.int x4)] below meth c s₁ [] 0 0 := Stand.of_body Bd
  have e0 : s₁.heap = h0 := by rw [← hh, Bd.state]; rfl
  refine own_back (s := s) (fun t k => castTop (own_ef0 m x0 x1 x2 x3 x4) k) ?_
  exact own_l0_0 X0 Bd.exec hZ hw Bd.bytes hml0 (findClass_of_methodNamed Bd.named) Bd.returns (BodyLoose.notSynchronized Bd) e0 (Fr.nil n0) Z0 x0 x1 x2 x3 x4 rfl
theorem own_small {x : Int32} {k : Nat} (hk : k < 2147483648) (h1 : ¬ x < 0) (h2 : x.toInt < k) : ∃ n : Nat, n < k ∧ x = Int32.ofNat n := by
  have z : (0 : Int32).toInt = 0 := rfl
  rw [Int32.lt_iff_toInt_lt, z] at h1
  refine ⟨x.toInt.toNat, by omega, Int32.toInt_inj.mp ?_⟩
  rw [Int32.toInt_ofNat_of_lt (by omega)]
  omega
theorem own_lt {x y : Int32} : x < y ↔ x.toInt < y.toInt := Int32.lt_iff_toInt_lt
theorem own_ne {x : Int32} {k : Int} (c : Int32) (hc : c.toInt = k) (h : x.toInt ≠ k) : ¬ x = c := fun q => h (by rw [q]; exact hc)
theorem own_nb (N n : Nat) : N &&& 2 ^ n = 0 ↔ N.testBit n = false := by
  constructor
  · intro h
    have q : (N &&& 2 ^ n).testBit n = false := by rw [h, Nat.zero_testBit]
    rwa [Nat.testBit_and, Nat.testBit_two_pow_self, Bool.and_true] at q
  · intro h
    refine Nat.eq_of_testBit_eq fun i => ?_
    rw [Nat.testBit_and, Nat.zero_testBit]
    by_cases q : n = i
    · rw [← q, h, Bool.false_and]
    · rw [Nat.testBit_two_pow_of_ne q, Bool.and_false]
theorem own_nb1 (N n : Nat) : (N >>> n) &&& 1 = 1 ↔ N.testBit n = true := by
  rw [Nat.testBit_eq_decide_div_mod_eq, Nat.and_one_is_mod, Nat.shiftRight_eq_div_pow, decide_eq_true_eq]
theorem own_bit8 (w : Int64) : w &&& 256 = 0 ↔ w.toInt % 512 < 256 := by
  have hn : w.toInt % 512 = ((w.toBitVec.toNat % 512 : Nat) : Int) := by
    show w.toBitVec.toInt % 512 = _
    rw [BitVec.toInt_eq_toNat_cond]
    split <;> omega
  rw [hn, ← Int64.toBitVec_inj, ← BitVec.toNat_inj]
  show (w.toBitVec &&& 256#64).toNat = 0 ↔ _
  rw [BitVec.toNat_and, show (256#64).toNat = 2 ^ 8 from rfl, own_nb, Nat.testBit_eq_decide_div_mod_eq, decide_eq_false_iff_not]
  omega
/-- a move's word, by its parts -/
theorem own_move (a b s : Int32) (ha : 0 ≤ a.toInt) (ha' : a.toInt < 65536) (hb : 0 ≤ b.toInt) (hb' : b.toInt < 65536) :
    ((own_f1_0 a b s).toInt - (a.toInt * 65536 + b.toInt * 4294967296 + (s.toInt % 65536) * 281474976710656)) % 18446744073709551616 = 0 := by
  unfold own_f1_0
  have a1 : (a.toInt64 <<< ((16 : Int32) &&& 0x3f).toInt64).toInt = a.toInt * 65536 := by
    have q : ((a.toInt64 <<< ((16 : Int32) &&& 0x3f).toInt64).toInt - a.toInt64.toInt * 65536) % 18446744073709551616 = 0 := c_lshl a.toInt64 16 16 (by decide)
    have r := rng64 (a.toInt64 <<< ((16 : Int32) &&& 0x3f).toInt64)
    rw [c_i2l] at q
    omega
  have b1 : (b.toInt64 <<< ((32 : Int32) &&& 0x3f).toInt64).toInt = b.toInt * 4294967296 := by
    have q : ((b.toInt64 <<< ((32 : Int32) &&& 0x3f).toInt64).toInt - b.toInt64.toInt * 4294967296) % 18446744073709551616 = 0 := c_lshl b.toInt64 32 32 (by decide)
    have r := rng64 (b.toInt64 <<< ((32 : Int32) &&& 0x3f).toInt64)
    rw [c_i2l] at q
    omega
  have s1 : (((s.toInt64 &&& (65535 : Int64)) <<< ((48 : Int32) &&& 0x3f).toInt64).toInt - (s.toInt % 65536) * 281474976710656) % 18446744073709551616 = 0 := by
    have q : (((s.toInt64 &&& (65535 : Int64)) <<< ((48 : Int32) &&& 0x3f).toInt64).toInt - (s.toInt64 &&& (65535 : Int64)).toInt * 281474976710656) % 18446744073709551616 = 0 := c_lshl (s.toInt64 &&& (65535 : Int64)) 48 48 (by decide)
    have r : (s.toInt64 &&& (65535 : Int64)).toInt = s.toInt64.toInt % 65536 := c_maskL s.toInt64 65535 16 (by decide) (by decide)
    rw [r, c_i2l] at q
    exact q
  generalize (a.toInt64 <<< ((16 : Int32) &&& 0x3f).toInt64) = A at *
  generalize (b.toInt64 <<< ((32 : Int32) &&& 0x3f).toInt64) = Bb at *
  generalize ((s.toInt64 &&& (65535 : Int64)) <<< ((48 : Int32) &&& 0x3f).toInt64) = S at *
  have o1 := c_orL' A Bb 32 (by decide) 4294967296 rfl (by omega) (by omega) (by omega)
  have r1 := rng64 (A ||| Bb)
  have e1 : (A ||| Bb).toInt = A.toInt + Bb.toInt := by omega
  have o2 := c_orL' (A ||| Bb) S 48 (by decide) 281474976710656 rfl (by omega) (by omega) (by omega)
  omega
theorem own_num (y : Int32) : 0 ≤ ((y &&& (255 : Int32)).toInt64).toInt ∧ ((y &&& (255 : Int32)).toInt64).toInt < 256 := by
  have e : (y &&& (255 : Int32)).toInt = y.toInt % 256 := c_mask y 255 8 (by decide) (by decide)
  rw [c_i2l]
  omega
theorem own_m16 (y : Int32) : (y &&& (65535 : Int32)).toInt = y.toInt % 65536 := c_mask y 65535 16 (by decide) (by decide)
/-- the top behind a move's word: the word's highest 16 bits -/
theorem own_high (w : Int64) : (((w.toUInt64 >>> ((48 : Int32) &&& 0x3f).toInt64.toUInt64).toInt64).toInt32).toInt = (w.toInt % 18446744073709551616) / 281474976710656 := by
  have q : ((w.toUInt64 >>> ((48 : Int32) &&& 0x3f).toInt64.toUInt64).toInt64).toInt = (w.toInt % 18446744073709551616) / 281474976710656 := c_lushr w 48 48 (by decide) (by decide)
  have r := c_l2i ((w.toUInt64 >>> ((48 : Int32) &&& 0x3f).toInt64.toUInt64).toInt64)
  have t := rng32 (((w.toUInt64 >>> ((48 : Int32) &&& 0x3f).toInt64.toUInt64).toInt64).toInt32)
  omega
theorem own_shift (a b s n : Int32) (top : Int32) (ha : 0 ≤ a.toInt) (ha' : a.toInt < 65536) (hb : 0 ≤ b.toInt) (hb' : b.toInt < 65536) :
    own_f2_0 (own_f1_0 a b (s % (32768 : Int32)) ||| (n &&& (255 : Int32)).toInt64) top = top + s % (32768 : Int32) := by
  have mv := own_move a b (s % (32768 : Int32)) ha ha' hb hb'
  have nn := own_num n
  generalize (n &&& (255 : Int32)).toInt64 = N at *
  generalize own_f1_0 a b (s % (32768 : Int32)) = M at *
  have o := c_orL M N 8 (by decide) 256 rfl (by omega) (by omega) (by omega)
  have r := rng64 (M ||| N)
  have hi := own_high (M ||| N)
  have t : (M ||| N) &&& 256 = 0 := (own_bit8 _).mpr (by omega)
  unfold own_f2_0
  rw [if_pos ((lw_eq _ _).mpr t)]
  congr 1
  rw [← Int32.toInt_inj]
  have k := c_i2s (((M ||| N).toUInt64 >>> ((48 : Int32) &&& 0x3f).toInt64.toUInt64).toInt64).toInt32
  have d := c_irem s 32768 32768 rfl
  generalize (((M ||| N).toUInt64 >>> ((48 : Int32) &&& 0x3f).toInt64.toUInt64).toInt64).toInt32 = W at *
  by_cases q : 0 ≤ s.toInt
  · have d1 := d.1 q
    omega
  · have d1 := d.2 (by omega)
    omega
theorem own_sets (a b s n : Int32) (top : Int32) (ha : 0 ≤ a.toInt) (ha' : a.toInt < 65536) (hb : 0 ≤ b.toInt) (hb' : b.toInt < 65536) :
    own_f2_0 (own_f3_0 a b (s &&& (65535 : Int32)) ||| (n &&& (255 : Int32)).toInt64) top = s &&& (65535 : Int32) := by
  have mv := own_move a b (s &&& (65535 : Int32)) ha ha' hb hb'
  have nn := own_num n
  have ms := own_m16 s
  unfold own_f3_0
  generalize (n &&& (255 : Int32)).toInt64 = N at *
  generalize own_f1_0 a b (s &&& (65535 : Int32)) = M at *
  have z : (256 : Int64).toInt = 256 := rfl
  have o1 := c_orL' (256 : Int64) M 16 (by decide) 65536 rfl (by omega) (by omega) (by omega)
  have r1 := rng64 ((256 : Int64) ||| M)
  have o := c_orL ((256 : Int64) ||| M) N 8 (by decide) 256 rfl (by omega) (by omega) (by omega)
  have r := rng64 (((256 : Int64) ||| M) ||| N)
  have hi := own_high (((256 : Int64) ||| M) ||| N)
  have t : ¬ (((256 : Int64) ||| M) ||| N) &&& 256 = 0 := fun q => by
    have := (own_bit8 _).mp q
    omega
  unfold own_f2_0
  rw [if_neg (fun q => t ((lw_eq _ _).mp q)), ← Int32.toInt_inj, hi, ms]
  omega
theorem own_plain (x0 x1 x2 x3 x4 : Int32) : own_f0_0 x0 x1 x2 x3 x4 = 1 := by
  have a := own_m16 x0
  have b := own_m16 x1
  unfold own_f0_0
  by_cases h : (x4 &&& (1 : Int32)) = (0 : Int32)
  · rw [if_pos h]
    unfold own_f0_24
    rw [if_pos rfl, if_pos (own_shift _ _ _ _ _ (by omega) (by omega) (by omega) (by omega))]
  · rw [if_neg h]
    unfold own_f0_24
    rw [if_neg (by decide), if_pos (own_sets _ _ _ _ _ (by omega) (by omega) (by omega) (by omega))]
set_option maxRecDepth 65536 in
set_option maxHeartbeats 4000000 in
theorem own_comes {Post : Tables → Env → Array Value → State → Outcome → State → Prop} (hpost : ∀ tb e args s v u, (limb_1_1.after args s (.returned v) u = true ∧ limb_1_2.after args s (.returned v) u = true) → FrameEnd s (.returned v) u (Jvm.fieldLocs frame_1_writes args s ++ Jvm.arrayLocs frame_1_arrays args s ++ Jvm.staticLocs frame_1_statics s) 0 0 → Post tb e args s (.returned v) u) :
    ArmFor flags0 classFile x code maxLocals ret World_1 tables_1 room_1 Calls_1 rest_1 Pre_1 Post := by
  intro l hfl _ _ p e ha hc hk s m args below hf hA hF happ hP
  obtain ⟨hcalls, hrest, hpre⟩ := hP
  obtain ⟨-, -, -, hnamed, -, -, -, hat⟩ := (Spec.applies_iff hf).mp happ
  obtain ⟨hg, hn⟩ := and_e (Cond.before_iff.mp (show (Jvm.Cond.and given_1 narrow_1).before args s = true from hpre))
  obtain ⟨hcnt, hg0⟩ := and_e hg
  obtain ⟨ha0, hg1⟩ := and_e hg0
  obtain ⟨ha1, hg2⟩ := and_e hg1
  obtain ⟨ha2, hg3⟩ := and_e hg2
  obtain ⟨ha3, hg4⟩ := and_e hg3
  have ha4 := hg4
  obtain ⟨w0, w1, w2, w3, w4, rfl⟩ : ∃ w0 w1 w2 w3 w4 : Value, args = #[w0, w1, w2, w3, w4] := by
    have hs : args.size = 5 := by simpa [Cond.value, given_1] using hcnt
    obtain ⟨L⟩ := args
    match L, hs with
    | [w0, w1, w2, w3, w4], _ => exact ⟨w0, w1, w2, w3, w4, rfl⟩
  have hw := fun d (hd : d ∈ tables_1) => atoms_spec (ws := Jvm.Cond.code x code maxLocals ret :: tables_1) hat d (List.mem_cons_of_mem _ hd)
  obtain ⟨v0, ev0⟩ := is_v ha0
  obtain rfl : w0 = (.int v0) := Option.some.inj ev0
  obtain ⟨v1, ev1⟩ := is_v ha1
  obtain rfl : w1 = (.int v1) := Option.some.inj ev1
  obtain ⟨v2, ev2⟩ := is_v ha2
  obtain rfl : w2 = (.int v2) := Option.some.inj ev2
  obtain ⟨v3, ev3⟩ := is_v ha3
  obtain rfl : w3 = (.int v3) := Option.some.inj ev3
  obtain ⟨v4, ev4⟩ := is_v ha4
  obtain rfl : w4 = (.int v4) := Option.some.inj ev4
  obtain ⟨n, o, h1, h2, h3, _, L, rfl, ⟨rfl, N, _⟩, hq⟩ := own_rm0 l s _ hw tables_1 v0 v1 v2 v3 v4 s.heap s.heap.size (Nat.le_refl _) p e ha hc hk s m _ below hf ((Spec.applies_iff_loose hf).mp happ).1 ⟨rfl, State.Warmed39.refl s, rfl⟩ trivial
  refine ⟨n, _, h1, h2, h3, hpost _ _ _ _ _ _ ⟨Cond.after_iff.mpr rfl, Cond.after_iff.mpr (eq_i res_at (Term.int_eval (1)) (congrArg Value.int (own_plain v0 v1 v2 v3 v4)))⟩ ⟨hq.1, hq.2.1, (hq.2.2.sift fun y hy => Or.inr (N y hy)).mono (by decide) (by decide)⟩⟩
theorem main_1_1 : Claimed_1_1 := own_comes fun _ _ _ _ _ _ h hF => ⟨h.1, hF⟩
theorem main_1_2 : Claimed_1_2 := own_comes fun _ _ _ _ _ _ h hF => ⟨h.2, hF⟩
end Jvm.Pilot.@@N@@
namespace Jvm.Pilot.@@N@@
open Jvm Jvm.ClassFile Sem Op Lib Jvm.Free Jvm.Stand Jvm.Pilot.@@N@@.Jvm.D
/-! MADE BY PROGRAM (witnessworld.py) out of the Statement's table words and the real class files: 9 classes; the members and pool entries that the words name. The judged class is class 1, her method 1. -/
namespace start1
open Jvm.ClassFile
def u (s : String) : CpInfo := .utf8 (stringToUtf16 s)
/-- a pool by its gaps: so many unusable entries, then the entry; so many at the end -/
def gap : Nat → List CpInfo → List CpInfo
  | 0, r => r
  | n + 1, r => .unusable :: gap n r
def poolList (es : List (Nat × CpInfo)) (last : Nat) : List CpInfo := es.foldr (fun e r => gap e.1 (e.2 :: r)) (gap last [])
def pool (es : List (Nat × CpInfo)) (last : Nat) : Array CpInfo := ⟨poolList es last⟩
def fileOf (pool : Array CpInfo) (this : Nat) (attrs : Array Attribute := #[]) (ms : Array MethodInfo := #[]) (fl : Nat := 33) (sup : Nat := 0) (ifs : Array Nat := #[]) (fds : Array FieldInfo := #[]) : ClassFile where
  minorVersion := 0
  majorVersion := 65
  constantPool := pool
  accessFlags := fl
  thisClass := this
  superClass := sup
  interfaces := ifs
  fields := fds
  methods := ms
  attributes := attrs
def plain (name : String) (sup : Option ClassId) : Class where
  name := name
  kind := .ordinary
  loader := none
  accessFlags := 33
  super := sup
  interfaces := #[]
  cf := none
  fields := #[]
  methods := #[]
  instanceTypes := #[]
  staticTypes := #[]
  resolved := #[]
  callSites := []
  init := .initialized
  statics := none
  mirror := none

def pool0 : Array CpInfo := pool [(5, u "<init>"), (0, u "()V"), (1, .class_ 10), (1, u "java/lang/Object")] 113

def k0m0 : Method := { name := "<init>", desc := "()V", sig := { parameters := [], returnType := none }, accessFlags := 1, code := none }
/-- java/lang/Object -/
def k0 : Class := { plain "java/lang/Object" none with
  accessFlags := 33
  interfaces := #[]
  cf := some (fileOf pool0 8 #[] #[{ accessFlags := 1, nameIndex := 5, descriptorIndex := 6, attributes := #[] }] 33 0 #[] #[])
  fields := #[]
  methods := #[k0m0]
  instanceTypes := #[]
  staticTypes := #[]
  resolved := Array.replicate 124 none
  statics := none }

def pool1 : Array CpInfo := pool [(2, .class_ 4), (1, u "java/lang/Object"), (0, u "<init>"), (0, u "()V"), (0, .integer 65535), (0, .methodref 9 10), (0, .class_ 11), (0, .nameAndType 12 13), (0, u "com/example/turnstile_chain/turnstilechain/patterns/SweepTable"), (0, u "moveTo"), (0, u "(III)J"), (0, .methodref 9 15), (0, .nameAndType 16 17), (0, u "topAfter"), (0, u "(JI)I"), (0, .integer 32768), (0, .methodref 9 20), (0, .nameAndType 21 13), (0, u "move"), (0, .class_ 23), (0, u "com/example/turnstile_chain/turnstilechain/patterns/SweepTableTopAfterPinLaw"), (2, u "law"), (0, u "(IIIII)Z")] 3

def k1m0 : Method := { name := "<init>", desc := "()V", sig := { parameters := [], returnType := none }, accessFlags := 2, code := none }
def k1c1 : Code := { maxStack := 4, maxLocals := 12, code := code, exceptionTable := #[], attributes := #[] }
def k1m1 : Method := { name := "law", desc := "(IIIII)Z", sig := { parameters := [.int, .int, .int, .int, .int], returnType := some .boolean }, accessFlags := 9, code := some k1c1 }
/-- com/example/turnstile_chain/turnstilechain/patterns/SweepTableTopAfterPinLaw -/
def k1 : Class := { plain "com/example/turnstile_chain/turnstilechain/patterns/SweepTableTopAfterPinLaw" (some 0) with
  accessFlags := 49
  interfaces := #[]
  cf := some (fileOf pool1 22 #[] #[{ accessFlags := 2, nameIndex := 5, descriptorIndex := 6, attributes := #[] }, { accessFlags := 9, nameIndex := 26, descriptorIndex := 27, attributes := #[] }] 49 2 #[] #[])
  fields := #[]
  methods := #[k1m0, k1m1]
  instanceTypes := #[]
  staticTypes := #[]
  resolved := Array.replicate 31 none
  statics := none }

def pool2 : Array CpInfo := pool [(1, .class_ 2), (0, u "com/example/turnstile_chain/turnstilechain/patterns/SweepTable"), (5, .class_ 10), (1, u "java/lang/Object"), (4, u "classes"), (0, u "[B"), (2, u "groups"), (5, u "classOfKind"), (0, u "Ljava/util/Map;"), (2, u "groupOfSets"), (2, u "farEnds"), (0, u "[I"), (2, u "program"), (0, u "Lcom/example/turnstile_chain/turnstilechain/patterns/SegmentProgram;"), (22, u "nears"), (0, u "I"), (11, u "quietChars"), (0, u "[J"), (5, u "befores"), (5, u "answers"), (2, u "rows"), (26, u "window"), (11, u "words"), (3, u "counts"), (0, u "Lcom/example/turnstile_chain/turnstilechain/patterns/CountLayout;"), (12, u "classCount"), (2, u "spareClass"), (2, u "columns"), (2, u "classChars"), (11, u "pastAscii"), (0, u "Lcom/example/turnstile_chain/turnstilechain/patterns/CodePointBlocks;"), (8, u "longest"), (2, u "afterPcs"), (2, u "afterWords"), (17, u "mostRoom"), (2, u "emptyTop"), (108, u "MOST_ANSWERED"), (5, u "generation"), (0, u "Lcom/example/turnstile_chain/turnstilechain/patterns/SweepTable$Generation;"), (0, .class_ 322), (0, u "com/example/turnstile_chain/turnstilechain/patterns/SweepTable$Generation"), (13, .long 65535), (1, .long 256), (1, .methodref 1 341), (0, .nameAndType 342 343), (0, u "move"), (0, u "(III)J"), (11, u "STILL"), (0, u "J"), (20, u "NUMBERS"), (0, u "Ljava/lang/invoke/VarHandle;"), (3, u "MOVES"), (0, u "NONE"), (2, u "DEAD"), (1, u "EVERY_TOP"), (0, u "ASCII"), (1, u "FIRST_ROOM"), (1, u "MOST_ROOM"), (0, u "MOST_SLOTS"), (1, u "MOST_COLUMNS"), (1, u "MOST_WORDS"), (1, u "MOST_WINDOW_WORDS"), (1, u "TO_TOP"), (0, u "SPARE_CLASSES"), (1, u "MOST_BLOCKS"), (1, u "BMP_BLOCK_WORDS"), (0, u "BMP_BLOCK_SHIFT"), (30, u "moveTo"), (7, u "topAfter"), (0, u "(JI)I"), (8, .class_ 458), (0, u "com/example/turnstile_chain/turnstilechain/patterns/SweepTable$Value")] 23

def k2c0 : Code := { maxStack := 6, maxLocals := 3, code := prog_56_method_23_code, exceptionTable := #[], attributes := #[] }
def k2m0 : Method := { name := "move", desc := "(III)J", sig := { parameters := [.int, .int, .int], returnType := some .long }, accessFlags := 8, code := some k2c0 }
def k2c1 : Code := { maxStack := 5, maxLocals := 3, code := prog_56_method_24_code, exceptionTable := #[], attributes := #[] }
def k2m1 : Method := { name := "moveTo", desc := "(III)J", sig := { parameters := [.int, .int, .int], returnType := some .long }, accessFlags := 8, code := some k2c1 }
def k2c2 : Code := { maxStack := 4, maxLocals := 3, code := prog_56_method_32_code, exceptionTable := #[], attributes := #[] }
def k2m2 : Method := { name := "topAfter", desc := "(JI)I", sig := { parameters := [.long, .int], returnType := some .int }, accessFlags := 8, code := some k2c2 }
/-- com/example/turnstile_chain/turnstilechain/patterns/SweepTable -/
def k2 : Class := { plain "com/example/turnstile_chain/turnstilechain/patterns/SweepTable" (some 0) with
  accessFlags := 48
  interfaces := #[]
  cf := some (fileOf pool2 1 #[.nestMembers #[457, 321]] #[{ accessFlags := 8, nameIndex := 342, descriptorIndex := 343, attributes := #[] }, { accessFlags := 8, nameIndex := 439, descriptorIndex := 343, attributes := #[] }, { accessFlags := 8, nameIndex := 447, descriptorIndex := 448, attributes := #[] }] 48 8 #[] #[{ accessFlags := 24, nameIndex := 383, descriptorIndex := 61, attributes := #[] }, { accessFlags := 24, nameIndex := 386, descriptorIndex := 61, attributes := #[] }, { accessFlags := 24, nameIndex := 388, descriptorIndex := 61, attributes := #[] }, { accessFlags := 24, nameIndex := 355, descriptorIndex := 356, attributes := #[] }, { accessFlags := 26, nameIndex := 389, descriptorIndex := 61, attributes := #[] }, { accessFlags := 26, nameIndex := 391, descriptorIndex := 61, attributes := #[] }, { accessFlags := 26, nameIndex := 393, descriptorIndex := 61, attributes := #[] }, { accessFlags := 26, nameIndex := 394, descriptorIndex := 61, attributes := #[] }, { accessFlags := 26, nameIndex := 396, descriptorIndex := 61, attributes := #[] }, { accessFlags := 26, nameIndex := 398, descriptorIndex := 61, attributes := #[] }, { accessFlags := 26, nameIndex := 400, descriptorIndex := 61, attributes := #[] }, { accessFlags := 26, nameIndex := 313, descriptorIndex := 61, attributes := #[] }, { accessFlags := 26, nameIndex := 402, descriptorIndex := 356, attributes := #[] }, { accessFlags := 26, nameIndex := 403, descriptorIndex := 61, attributes := #[] }, { accessFlags := 26, nameIndex := 405, descriptorIndex := 61, attributes := #[] }, { accessFlags := 26, nameIndex := 407, descriptorIndex := 61, attributes := #[] }, { accessFlags := 26, nameIndex := 408, descriptorIndex := 61, attributes := #[] }, { accessFlags := 26, nameIndex := 377, descriptorIndex := 378, attributes := #[] }, { accessFlags := 26, nameIndex := 382, descriptorIndex := 378, attributes := #[] }, { accessFlags := 18, nameIndex := 36, descriptorIndex := 37, attributes := #[] }, { accessFlags := 18, nameIndex := 15, descriptorIndex := 16, attributes := #[] }, { accessFlags := 18, nameIndex := 19, descriptorIndex := 16, attributes := #[] }, { accessFlags := 18, nameIndex := 25, descriptorIndex := 26, attributes := #[] }, { accessFlags := 18, nameIndex := 29, descriptorIndex := 26, attributes := #[] }, { accessFlags := 18, nameIndex := 146, descriptorIndex := 61, attributes := #[] }, { accessFlags := 2, nameIndex := 149, descriptorIndex := 61, attributes := #[] }, { accessFlags := 18, nameIndex := 167, descriptorIndex := 168, attributes := #[] }, { accessFlags := 18, nameIndex := 155, descriptorIndex := 74, attributes := #[] }, { accessFlags := 18, nameIndex := 60, descriptorIndex := 61, attributes := #[] }, { accessFlags := 18, nameIndex := 32, descriptorIndex := 33, attributes := #[] }, { accessFlags := 18, nameIndex := 73, descriptorIndex := 74, attributes := #[] }, { accessFlags := 18, nameIndex := 80, descriptorIndex := 61, attributes := #[] }, { accessFlags := 18, nameIndex := 86, descriptorIndex := 61, attributes := #[] }, { accessFlags := 18, nameIndex := 89, descriptorIndex := 61, attributes := #[] }, { accessFlags := 18, nameIndex := 152, descriptorIndex := 61, attributes := #[] }, { accessFlags := 18, nameIndex := 180, descriptorIndex := 33, attributes := #[] }, { accessFlags := 18, nameIndex := 183, descriptorIndex := 33, attributes := #[] }, { accessFlags := 18, nameIndex := 128, descriptorIndex := 61, attributes := #[] }, { accessFlags := 18, nameIndex := 132, descriptorIndex := 133, attributes := #[] }, { accessFlags := 18, nameIndex := 177, descriptorIndex := 61, attributes := #[] }, { accessFlags := 18, nameIndex := 201, descriptorIndex := 61, attributes := #[] }, { accessFlags := 18, nameIndex := 116, descriptorIndex := 61, attributes := #[] }, { accessFlags := 18, nameIndex := 204, descriptorIndex := 61, attributes := #[] }, { accessFlags := 66, nameIndex := 319, descriptorIndex := 320, attributes := #[] }])
  fields := #[{ name := "NONE", type := .int, accessFlags := 24, slot := 0, constantValue := 0 }, { name := "DEAD", type := .int, accessFlags := 24, slot := 1, constantValue := 0 }, { name := "EVERY_TOP", type := .int, accessFlags := 24, slot := 2, constantValue := 0 }, { name := "STILL", type := .long, accessFlags := 24, slot := 3, constantValue := 0 }, { name := "ASCII", type := .int, accessFlags := 26, slot := 4, constantValue := 0 }, { name := "FIRST_ROOM", type := .int, accessFlags := 26, slot := 5, constantValue := 0 }, { name := "MOST_ROOM", type := .int, accessFlags := 26, slot := 6, constantValue := 0 }, { name := "MOST_SLOTS", type := .int, accessFlags := 26, slot := 7, constantValue := 0 }, { name := "MOST_COLUMNS", type := .int, accessFlags := 26, slot := 8, constantValue := 0 }, { name := "MOST_WORDS", type := .int, accessFlags := 26, slot := 9, constantValue := 0 }, { name := "MOST_WINDOW_WORDS", type := .int, accessFlags := 26, slot := 10, constantValue := 0 }, { name := "MOST_ANSWERED", type := .int, accessFlags := 26, slot := 11, constantValue := 0 }, { name := "TO_TOP", type := .long, accessFlags := 26, slot := 12, constantValue := 0 }, { name := "SPARE_CLASSES", type := .int, accessFlags := 26, slot := 13, constantValue := 0 }, { name := "MOST_BLOCKS", type := .int, accessFlags := 26, slot := 14, constantValue := 0 }, { name := "BMP_BLOCK_WORDS", type := .int, accessFlags := 26, slot := 15, constantValue := 0 }, { name := "BMP_BLOCK_SHIFT", type := .int, accessFlags := 26, slot := 16, constantValue := 0 }, { name := "NUMBERS", type := (.object "java/lang/invoke/VarHandle"), accessFlags := 26, slot := 17, constantValue := 0 }, { name := "MOVES", type := (.object "java/lang/invoke/VarHandle"), accessFlags := 26, slot := 18, constantValue := 0 }, { name := "program", type := (.object "com/example/turnstile_chain/turnstilechain/patterns/SegmentProgram"), accessFlags := 18, slot := 0, constantValue := 0 }, { name := "classes", type := (.array .byte), accessFlags := 18, slot := 1, constantValue := 0 }, { name := "groups", type := (.array .byte), accessFlags := 18, slot := 2, constantValue := 0 }, { name := "classOfKind", type := (.object "java/util/Map"), accessFlags := 18, slot := 3, constantValue := 0 }, { name := "groupOfSets", type := (.object "java/util/Map"), accessFlags := 18, slot := 4, constantValue := 0 }, { name := "classCount", type := .int, accessFlags := 18, slot := 5, constantValue := 0 }, { name := "spareClass", type := .int, accessFlags := 2, slot := 6, constantValue := 0 }, { name := "pastAscii", type := (.object "com/example/turnstile_chain/turnstilechain/patterns/CodePointBlocks"), accessFlags := 18, slot := 7, constantValue := 0 }, { name := "classChars", type := (.array .long), accessFlags := 18, slot := 8, constantValue := 0 }, { name := "nears", type := .int, accessFlags := 18, slot := 9, constantValue := 0 }, { name := "farEnds", type := (.array .int), accessFlags := 18, slot := 10, constantValue := 0 }, { name := "quietChars", type := (.array .long), accessFlags := 18, slot := 11, constantValue := 0 }, { name := "befores", type := .int, accessFlags := 18, slot := 12, constantValue := 0 }, { name := "answers", type := .int, accessFlags := 18, slot := 13, constantValue := 0 }, { name := "rows", type := .int, accessFlags := 18, slot := 14, constantValue := 0 }, { name := "columns", type := .int, accessFlags := 18, slot := 15, constantValue := 0 }, { name := "afterPcs", type := (.array .int), accessFlags := 18, slot := 16, constantValue := 0 }, { name := "afterWords", type := (.array .int), accessFlags := 18, slot := 17, constantValue := 0 }, { name := "words", type := .int, accessFlags := 18, slot := 18, constantValue := 0 }, { name := "counts", type := (.object "com/example/turnstile_chain/turnstilechain/patterns/CountLayout"), accessFlags := 18, slot := 19, constantValue := 0 }, { name := "longest", type := .int, accessFlags := 18, slot := 20, constantValue := 0 }, { name := "mostRoom", type := .int, accessFlags := 18, slot := 21, constantValue := 0 }, { name := "window", type := .int, accessFlags := 18, slot := 22, constantValue := 0 }, { name := "emptyTop", type := .int, accessFlags := 18, slot := 23, constantValue := 0 }, { name := "generation", type := (.object "com/example/turnstile_chain/turnstilechain/patterns/SweepTable$Generation"), accessFlags := 66, slot := 24, constantValue := 0 }]
  methods := #[k2m0, k2m1, k2m2]
  instanceTypes := #[(.object "com/example/turnstile_chain/turnstilechain/patterns/SegmentProgram"), (.array .byte), (.array .byte), (.object "java/util/Map"), (.object "java/util/Map"), .int, .int, (.object "com/example/turnstile_chain/turnstilechain/patterns/CodePointBlocks"), (.array .long), .int, (.array .int), (.array .long), .int, .int, .int, .int, (.array .int), (.array .int), .int, (.object "com/example/turnstile_chain/turnstilechain/patterns/CountLayout"), .int, .int, .int, .int, (.object "com/example/turnstile_chain/turnstilechain/patterns/SweepTable$Generation")]
  staticTypes := #[.int, .int, .int, .long, .int, .int, .int, .int, .int, .int, .int, .int, .long, .int, .int, .int, .int, (.object "java/lang/invoke/VarHandle"), (.object "java/lang/invoke/VarHandle")]
  resolved := Array.replicate 482 none
  statics := none }

def pool3 : Array CpInfo := pool [(1, u "java/lang/Cloneable"), (0, .class_ 1), (0, u "java/lang/Object"), (0, .class_ 3)] 3

/-- java/lang/Cloneable -/
def k3 : Class := { plain "java/lang/Cloneable" (some 0) with
  accessFlags := 1537
  interfaces := #[]
  cf := some (fileOf pool3 2 #[] #[] 1537 4 #[] #[])
  fields := #[]
  methods := #[]
  instanceTypes := #[]
  staticTypes := #[]
  resolved := Array.replicate 8 none
  statics := none }

def pool4 : Array CpInfo := pool [(1, u "java/io/Serializable"), (0, .class_ 1), (0, u "java/lang/Object"), (0, .class_ 3)] 3

/-- java/io/Serializable -/
def k4 : Class := { plain "java/io/Serializable" (some 0) with
  accessFlags := 1537
  interfaces := #[]
  cf := some (fileOf pool4 2 #[] #[] 1537 4 #[] #[])
  fields := #[]
  methods := #[]
  instanceTypes := #[]
  staticTypes := #[]
  resolved := Array.replicate 8 none
  statics := none }

/-- the primitive byte -/
def k5 : Class := { plain "byte" none with kind := .primitive 'B', accessFlags := 0x411 }
/-- [B -/
def k6 : Class := { plain "[B" (some 0) with kind := .array 5 .byte, interfaces := #[3, 4], accessFlags := 1041 }

/-- the primitive int -/
def k7 : Class := { plain "int" none with kind := .primitive 'I', accessFlags := 0x411 }
/-- [I -/
def k8 : Class := { plain "[I" (some 0) with kind := .array 7 .int, interfaces := #[3, 4], accessFlags := 1041 }

def heap : Heap := #[]
def classes : Array Class := #[k0, k1, k2, k3, k4, k5, k6, k7, k8]
def interned : List (Array UInt16 × Addr) := []
def slotsUsed : Nat := 0
def theMethod : MethodId := ⟨1, 1⟩
def args0 : Array Value := #[.int 1, .int 2, .int 3, .int 4, .int 5]
def aboutOver (below : List Frame) : State where
  vm := { classes := classes, interned := interned.toArray }
  heap := heap
  slotsUsed := slotsUsed
  threads := #[{ frames := .invoking theMethod args0 :: below }]
def below0 : List Frame := [.native { method := ⟨0, 0⟩, args := #[] }]
def about1 : State := aboutOver below0
def p0 : Program := .bare "" "" ""
def e0 : Env := launch0.env 0 0 0
theorem w_frames : about1.frames = Frame.invoking theMethod args0 :: below0 := rfl
set_option maxRecDepth 65536 in
theorem w_args : argsFit about1.vm theMethod args0 = true := by decide +kernel
set_option maxRecDepth 65536 in
theorem w_heap : heapFits about1 = true := by decide +kernel
set_option maxRecDepth 65536 in
theorem w_runnable : about1.curStatus? = some .runnable := by decide +kernel
set_option maxRecDepth 65536 in
theorem w_alone : about1.alone = true := by decide +kernel
set_option maxRecDepth 65536 in
theorem w_named : about1.methodNamed? x = some theMethod := by decide +kernel
set_option maxRecDepth 65536 in
theorem w_hears : about1.hears theMethod below0 = true := by decide +kernel
set_option maxRecDepth 65536 in
theorem w_ripe : about1.ripe theMethod args0 below0 = true := by decide +kernel
theorem w_running : about1.status = .running := rfl
set_option maxRecDepth 65536 in
theorem w_room : about1.hasRoom e0.platform room_1 = true :=
  launch0.hasRoom_least _ room_1 (by decide +kernel) (by decide +kernel) (by decide +kernel) (by decide +kernel) (by decide +kernel) (by decide +kernel)
theorem allAtoms_all (ts : List Jvm.Cond) (a : Array Jvm.Value) (st : Jvm.State) : (allAtoms ts).before a st = ts.all (fun c => c.before a st) := by
  induction ts with
  | nil => rfl
  | cons c t ih =>
    show (Jvm.Cond.and c (allAtoms t)).before a st = _
    rw [Jvm.Cond.before_and, ih, List.all_cons]
def words1 : List Jvm.Cond := Jvm.Cond.code x code maxLocals ret :: tables_1
/-- a 'code' word, met by the world's own term for the bytes: nothing is compared byte by byte -/
theorem code_word {y : MethodName} {bytes : ByteArray} {mx : Nat} {rt : Option FieldType} {a : Array Value} {s : State} {m : MethodId} {meth : Method} {c : Code} (h1 : s.methodNamed? y = some m) (h2 : s.vm.method? m = some meth) (h3 : meth.code = some c) (h4 : c.code = bytes)
    (h5 : (c.maxLocals == mx && c.exceptionTable.isEmpty && decide (c.maxStack ≤ mostOperands) && decide (meth.sig.returnType = rt) && !meth.locks && decide (parseMethodDescriptor y.desc = some meth.sig)) = true) : (Jvm.Cond.code y bytes mx rt).before a s = true := by
  simp only [Bool.and_eq_true, beq_iff_eq, Bool.not_eq_true', decide_eq_true_eq] at h5
  obtain ⟨⟨⟨⟨⟨g1, g2⟩, g3⟩, g4⟩, g5⟩, g6⟩ := h5
  simp [Cond.before, Cond.holds, Cond.value, h1, h2, h3, h4, g1, g2, g3, g4, g5, g6]
def isCode : Jvm.Cond → Bool
  | .code _ _ _ _ => true
  | _ => false
theorem all_split {L : List Jvm.Cond} {P : Jvm.Cond → Bool} (h1 : L.all (fun c => isCode c || P c) = true) (h2 : ∀ c ∈ L.filter isCode, P c = true) : L.all P = true := by
  refine List.all_eq_true.mpr fun c hc => ?_
  have h := List.all_eq_true.mp h1 c hc
  rcases Bool.eq_false_or_eq_true (isCode c) with hi | hi
  · exact h2 c (List.mem_filter.mpr ⟨hc, hi⟩)
  · simpa [hi] using h
set_option maxRecDepth 65536 in
theorem w_c0 : (Jvm.Cond.code x code maxLocals ret).before args0 about1 = true := code_word (m := ⟨1, 1⟩) (meth := k1m1) (c := k1c1) (by decide +kernel) rfl rfl rfl (by decide +kernel)
set_option maxRecDepth 65536 in
theorem w_c1 : (Jvm.Cond.code ({ cls := "com/example/turnstile_chain/turnstilechain/patterns/SweepTable", name := "move", desc := "(III)J" } : Jvm.MethodName) prog_56_method_23_code (3 : Nat) (Option.some Jvm.ClassFile.FieldType.long)).before args0 about1 = true := code_word (m := ⟨2, 0⟩) (meth := k2m0) (c := k2c0) (by decide +kernel) rfl rfl rfl (by decide +kernel)
set_option maxRecDepth 65536 in
theorem w_c2 : (Jvm.Cond.code ({ cls := "com/example/turnstile_chain/turnstilechain/patterns/SweepTable", name := "topAfter", desc := "(JI)I" } : Jvm.MethodName) prog_56_method_32_code (3 : Nat) (Option.some Jvm.ClassFile.FieldType.int)).before args0 about1 = true := code_word (m := ⟨2, 2⟩) (meth := k2m2) (c := k2c2) (by decide +kernel) rfl rfl rfl (by decide +kernel)
set_option maxRecDepth 65536 in
theorem w_c3 : (Jvm.Cond.code ({ cls := "com/example/turnstile_chain/turnstilechain/patterns/SweepTable", name := "moveTo", desc := "(III)J" } : Jvm.MethodName) prog_56_method_24_code (3 : Nat) (Option.some Jvm.ClassFile.FieldType.long)).before args0 about1 = true := code_word (m := ⟨2, 1⟩) (meth := k2m1) (c := k2c1) (by decide +kernel) rfl rfl rfl (by decide +kernel)
def codes1 : List Jvm.Cond := [Jvm.Cond.code x code maxLocals ret, Jvm.Cond.code ({ cls := "com/example/turnstile_chain/turnstilechain/patterns/SweepTable", name := "move", desc := "(III)J" } : Jvm.MethodName) prog_56_method_23_code (3 : Nat) (Option.some Jvm.ClassFile.FieldType.long), Jvm.Cond.code ({ cls := "com/example/turnstile_chain/turnstilechain/patterns/SweepTable", name := "topAfter", desc := "(JI)I" } : Jvm.MethodName) prog_56_method_32_code (3 : Nat) (Option.some Jvm.ClassFile.FieldType.int), Jvm.Cond.code ({ cls := "com/example/turnstile_chain/turnstilechain/patterns/SweepTable", name := "moveTo", desc := "(III)J" } : Jvm.MethodName) prog_56_method_24_code (3 : Nat) (Option.some Jvm.ClassFile.FieldType.long)]
set_option maxRecDepth 65536 in
theorem codes_eq : words1.filter isCode = codes1 := rfl
theorem w_codes : ∀ c ∈ words1.filter isCode, c.before args0 about1 = true := by
  rw [codes_eq]
  intro c hc
  simp only [codes1, List.mem_cons, List.not_mem_nil, or_false] at hc
  rcases hc with rfl | rfl | rfl | rfl
  · exact w_c0
  · exact w_c1
  · exact w_c2
  · exact w_c3
set_option maxRecDepth 65536 in
theorem w_t1 : words1.all (fun c => isCode c || c.before args0 about1) = true := by decide +kernel
theorem w_tables : (allAtoms (Jvm.Cond.code x code maxLocals ret :: tables_1)).before args0 about1 = true := by
  rw [allAtoms_all]
  show words1.all (fun c => c.before args0 about1) = true
  refine all_split ?_ w_codes
  rw [w_t1]
set_option maxRecDepth 65536 in
theorem w_case : (Jvm.Cond.and given_1 narrow_1).before args0 about1 = true := by decide +kernel
theorem w_applies : (headSpec (Jvm.Cond.code x code maxLocals ret :: tables_1) room_1).applies x e0.platform about1 = true :=
  (Spec.applies_iff w_frames).mpr ⟨w_running, w_runnable, w_alone, w_named, w_hears, w_ripe, w_room, w_tables⟩
theorem atStart : AtStart classFile x code maxLocals ret World_1 tables_1 room_1 Calls_1 rest_1 Pre_1 launch0 p0 e0 about1 theMethod args0 below0 :=
  ⟨lists_1, trivial, launch0.admits_env _ _ _, launch0.least_env, fairChoices_fair.cas, fairChoices_fair.clock, w_frames, w_args, w_heap, w_applies, trivial, trivial, w_case⟩
end start1
theorem witness_1 : WitnessClaimed_1 := ⟨start1.p0, start1.e0, start1.about1, start1.theMethod, start1.args0, start1.below0, start1.atStart⟩
end Jvm.Pilot.@@N@@
