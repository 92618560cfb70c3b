import JvmDerived
import JvmDerived.Pilot.@@N@@Statement
import JvmDerived.Pilot.@@N@@Code
set_option linter.unusedVariables false
set_option linter.unusedSimpArgs false
namespace Jvm.Pilot.@@N@@
open Jvm Jvm.ClassFile Sem Op Lib Jvm.Free Jvm.Stand Jvm.LawKit Jvm.RoadKit Bundle Jvm.Pilot.@@N@@.Jvm.D
/-- from the state A the run comes to the method's end, and Q says what it left -/
def own_Go (p : Program) (e : Env) (below : List Frame) (s : State) (K M : Nat) (Q : Option Value → Heap → List Loc → Prop) (A : State) : Prop :=
  ∃ s₂ o, Steps p.tables e below A s₂ ∧ s₂.status = .running ∧ Ended s₂ below o ∧ ∃ v L, o = .returned v ∧ Q v s₂.heap L ∧ FrameEnd s o s₂ L K M
theorem own_back {p : Program} {e : Env} {below : List Frame} {s : State} {K M : Nat} {Q : Option Value → Heap → List Loc → Prop} {A B : State} (h : ∀ t, Steps p.tables e below B t → Steps p.tables e below A t) (g : own_Go p e below s K M Q B) : own_Go p e below s K M Q A := by
  obtain ⟨s₂, o, h1, h2⟩ := g
  exact ⟨s₂, o, h _ h1, h2⟩
theorem own_retN {p : Program} {l : Launch} {e : Env} {R : Room} {s : State} {m : MethodId} {args : Array Value} {below : List Frame} {meth : Method} {c : Code} {T : State} {locs : List Loc} {cells slots K M : Nat} {Q : Option Value → Heap → List Loc → Prop}
    (X : Stand p l e R s m args below meth c T locs cells slots) (hx : p.tables.exec = Jvm.exec) {pc : Nat} {Ls : Array Slot} {z r : Int32} {t : FieldType} {rest : List Value} (hret : meth.sig.returnType = some t) (ht : t = .boolean ∨ t = .byte ∨ t = .char ∨ t = .short) (hd : decode c.code pc = .ok (.ireturn, 1)) (hlk : meth.locks = false)
    (hr : nar t z = r) (hq : Q (some (.int r)) T.heap locs) (hK : cells ≤ K) (hM : slots ≤ M) : own_Go p e below s K M Q (T.setTop (mkF m pc Ls (.int z :: rest))) := by
  subst hr
  obtain ⟨fs, hr, hrun, hended, hW, hsame⟩ := X.leave (v := some (.int (nar t z))) (fun h => by rw [hret] at h; cases h)
  exact ⟨_, _, retN X hx hret ht hd hr, hrun, hended, _, _, rfl, hq, ⟨_, rfl⟩, hW, hsame.mono hK hM⟩
theorem own_retI {p : Program} {l : Launch} {e : Env} {R : Room} {s : State} {m : MethodId} {args : Array Value} {below : List Frame} {meth : Method} {c : Code} {T : State} {locs : List Loc} {cells slots K M : Nat} {Q : Option Value → Heap → List Loc → Prop}
    (X : Stand p l e R s m args below meth c T locs cells slots) (hx : p.tables.exec = Jvm.exec) {pc : Nat} {Ls : Array Slot} {z : Int32} {rest : List Value} (hret : meth.sig.returnType = some .int) (hd : decode c.code pc = .ok (.ireturn, 1)) (hlk : meth.locks = false)
    (hq : Q (some (.int z)) T.heap locs) (hK : cells ≤ K) (hM : slots ≤ M) : own_Go p e below s K M Q (T.setTop (mkF m pc Ls (.int z :: rest))) := by
  obtain ⟨fs, hr, hrun, hended, hW, hsame⟩ := X.leave (v := some (.int z)) (fun h => by rw [hret] at h; cases h)
  refine ⟨_, _, ?_, hrun, hended, _, _, rfl, hq, ⟨_, rfl⟩, hW, hsame.mono hK hM⟩
  have hm' : T.vm.method? m = some meth := X.method'
  have hn : narrow .int (.int z) = .int z := rfl
  show Steps p.tables e below (T.setTop { method := m, pc := pc, locals := Ls, stack := _ :: rest, locked := none }) _
  jvm_step X.here [X.here.top, hx, hd, hm', hret, hn]
  first | (intro acts; rw [hr _ acts rfl rfl rfl]) | rw [hr _ _ rfl rfl rfl]
  exact Steps.refl _
theorem own_retJ {p : Program} {l : Launch} {e : Env} {R : Room} {s : State} {m : MethodId} {args : Array Value} {below : List Frame} {meth : Method} {c : Code} {T : State} {locs : List Loc} {cells slots K M : Nat} {Q : Option Value → Heap → List Loc → Prop}
    (X : Stand p l e R s m args below meth c T locs cells slots) (hx : p.tables.exec = Jvm.exec) {pc : Nat} {Ls : Array Slot} {z : Int64} (hret : meth.sig.returnType = some .long) (hd : decode c.code pc = .ok (.lreturn, 1)) (hlk : meth.locks = false)
    (hq : Q (some (.long z)) T.heap locs) (hK : cells ≤ K) (hM : slots ≤ M) : own_Go p e below s K M Q (T.setTop (mkF m pc Ls [.long z])) := by
  obtain ⟨fs, hr, hrun, hended, hW, hsame⟩ := X.leave (v := some (.long z)) (fun h => by rw [hret] at h; cases h)
  exact ⟨_, _, X.lreturnOut hx hret hd hr, hrun, hended, _, _, rfl, hq, ⟨_, rfl⟩, hW, hsame.mono hK hM⟩
theorem own_retV {p : Program} {l : Launch} {e : Env} {R : Room} {s : State} {m : MethodId} {args : Array Value} {below : List Frame} {meth : Method} {c : Code} {T : State} {locs : List Loc} {cells slots K M : Nat} {Q : Option Value → Heap → List Loc → Prop}
    (X : Stand p l e R s m args below meth c T locs cells slots) (hx : p.tables.exec = Jvm.exec) {pc : Nat} {Ls : Array Slot} (hret : meth.sig.returnType = none) (hd : decode c.code pc = .ok (.return_, 1)) (hlk : meth.locks = false)
    (hq : Q none T.heap locs) (hK : cells ≤ K) (hM : slots ≤ M) : own_Go p e below s K M Q (T.setTop (mkF m pc Ls [])) := by
  obtain ⟨fs, hr, hrun, hended, hW, hsame⟩ := X.leave (v := none) (fun _ => rfl)
  exact ⟨_, _, X.returnOut hx hret hd hr, hrun, hended, _, _, rfl, hq, ⟨_, rfl⟩, hW, hsame.mono hK hM⟩
/-- the value returned, nothing old written, the heap as it was -/
def own_QP (w : Value) (h0 : Heap) (n0 : Nat) (v : Option Value) (h : Heap) (L : List Loc) : Prop := v = some w ∧ Fr n0 L ∧ h = h0
/-- the value returned, nothing old written, the heap no shorter -/
def own_QG (w : Value) (h0 : Heap) (n0 : Nat) (v : Option Value) (h : Heap) (L : List Loc) : Prop := v = some w ∧ Fr n0 L ∧ n0 ≤ h.size
/-! body 1: kartoteka/Json.isWhitespace:(I)Z -/
theorem own_d1_0 : decode prog_26_method_16_code 0 = .ok (.iload_n 0, 1) := by decide +kernel
theorem own_d1_1 : decode prog_26_method_16_code 1 = .ok (.bipush 32, 2) := by decide +kernel
theorem own_d1_3 : decode prog_26_method_16_code 3 = .ok (.if_icmp .eq 21, 3) := by decide +kernel
theorem own_d1_6 : decode prog_26_method_16_code 6 = .ok (.iload_n 0, 1) := by decide +kernel
theorem own_d1_7 : decode prog_26_method_16_code 7 = .ok (.bipush 9, 2) := by decide +kernel
theorem own_d1_9 : decode prog_26_method_16_code 9 = .ok (.if_icmp .eq 15, 3) := by decide +kernel
theorem own_d1_12 : decode prog_26_method_16_code 12 = .ok (.iload_n 0, 1) := by decide +kernel
theorem own_d1_13 : decode prog_26_method_16_code 13 = .ok (.bipush 10, 2) := by decide +kernel
theorem own_d1_15 : decode prog_26_method_16_code 15 = .ok (.if_icmp .eq 9, 3) := by decide +kernel
theorem own_d1_18 : decode prog_26_method_16_code 18 = .ok (.iload_n 0, 1) := by decide +kernel
theorem own_d1_19 : decode prog_26_method_16_code 19 = .ok (.bipush 13, 2) := by decide +kernel
theorem own_d1_21 : decode prog_26_method_16_code 21 = .ok (.if_icmp .ne 7, 3) := by decide +kernel
theorem own_d1_24 : decode prog_26_method_16_code 24 = .ok (.iconst 1, 1) := by decide +kernel
theorem own_d1_25 : decode prog_26_method_16_code 25 = .ok (.goto 4, 3) := by decide +kernel
theorem own_d1_28 : decode prog_26_method_16_code 28 = .ok (.iconst 0, 1) := by decide +kernel
theorem own_d1_29 : decode prog_26_method_16_code 29 = .ok (.ireturn, 1) := by decide +kernel
def own_f1_0 (x0 : Int32) : Int32 := (if x0 = (32 : Int32) then (1 : Int32) else (if x0 = (9 : Int32) then (1 : Int32) else (if x0 = (10 : Int32) then (1 : Int32) else (if x0 = (13 : Int32) then (1 : Int32) else (0 : Int32)))))
set_option maxRecDepth 65536 in
set_option maxHeartbeats 4000000 in
theorem own_l1_0 {p : Program} {l : Launch} {e : Env} {s : State} {m : MethodId} {args : Array Value} {below : List Frame} {meth : Method} {c : Code} {T : State} {locs : List Loc} {Z : State} {a0 : Array Value} {h0 : Heap} {n0 : Nat}
    (X : Stand p l e ({ frames := 0, cells := 0, slots := 0, locals := 0 } : Room) s m args below meth c T locs 0 0) (hx : p.tables.exec = Jvm.exec) (hZ : Z.Warmed39 s.vm) (hw : ∀ d ∈ tables_1, d.before a0 Z = true) (hby : c.code = prog_26_method_16_code) (hml : c.maxLocals = 1) (hown : s.vm.findClass "kartoteka/Json" = some m.cls) (hret : meth.sig.returnType = some .boolean) (hlk : meth.locks = false) (e0 : T.heap = h0) (N : Fr n0 locs) (Z0 : n0 ≤ h0.size)
    (x0 : Int32) {r : Int32} (hR : r = own_f1_0 x0) : own_Go p e below s ({ frames := 0, cells := 0, slots := 0, locals := 0 } : Room).cells ({ frames := 0, cells := 0, slots := 0, locals := 0 } : Room).slots (own_QP (.int r) h0 n0) (T.setTop (mkF m 0 #[.val (.int x0)] [])) := by
  unfold own_f1_0 at hR
  refine own_back (fun t k => XS.iloadN X.here hx rfl (hb hby own_d1_0) rfl k) ?_
  show own_Go _ _ _ _ _ _ _ (T.setTop (mkF m 1 #[.val (.int x0)] [(.int x0)]))
  refine own_back (fun t k => XS.bipush X.here hx rfl (hb hby own_d1_1) k) ?_
  show own_Go _ _ _ _ _ _ _ (T.setTop (mkF m 3 #[.val (.int x0)] [(.int (32 : Int32)), (.int x0)]))
  by_cases hc3 : x0 = (32 : Int32)
  · rw [if_pos hc3] at hR
    refine own_back (fun t k => XS.icmpYes X.here hx rfl (pc0 := 3) (pc' := 24) rfl (hb hby own_d1_3) rfl (teq hc3).1 (by decide) (by decide) k) ?_
    show own_Go _ _ _ _ _ _ _ (T.setTop (mkF m 24 #[.val (.int x0)] []))
    refine own_back (fun t k => XS.iconst X.here hx rfl (hb hby own_d1_24) k) ?_
    show own_Go _ _ _ _ _ _ _ (T.setTop (mkF m 25 #[.val (.int x0)] [(.int (1 : Int32))]))
    refine own_back (fun t k => XS.goto X.here hx rfl (pc0 := 25) (pc' := 29) rfl (hb hby own_d1_25) (by decide) (by decide) k) ?_
    show own_Go _ _ _ _ _ _ _ (T.setTop (mkF m 29 #[.val (.int x0)] [(.int (1 : Int32))]))
    subst hR
    exact own_retN X hx (t := .boolean) hret (by simp) (hb hby own_d1_29) hlk (by decide) ⟨rfl, N, e0⟩ (by decide) (by decide)
  · rw [if_neg hc3] at hR
    refine own_back (fun t k => XS.icmpNo X.here hx rfl (hb hby own_d1_3) rfl (feq hc3).1 k) ?_
    show own_Go _ _ _ _ _ _ _ (T.setTop (mkF m 6 #[.val (.int x0)] []))
    refine own_back (fun t k => XS.iloadN X.here hx rfl (hb hby own_d1_6) rfl k) ?_
    show own_Go _ _ _ _ _ _ _ (T.setTop (mkF m 7 #[.val (.int x0)] [(.int x0)]))
    refine own_back (fun t k => XS.bipush X.here hx rfl (hb hby own_d1_7) k) ?_
    show own_Go _ _ _ _ _ _ _ (T.setTop (mkF m 9 #[.val (.int x0)] [(.int (9 : Int32)), (.int x0)]))
    by_cases hc9 : x0 = (9 : Int32)
    · rw [if_pos hc9] at hR
      refine own_back (fun t k => XS.icmpYes X.here hx rfl (pc0 := 9) (pc' := 24) rfl (hb hby own_d1_9) rfl (teq hc9).1 (by decide) (by decide) k) ?_
      show own_Go _ _ _ _ _ _ _ (T.setTop (mkF m 24 #[.val (.int x0)] []))
      refine own_back (fun t k => XS.iconst X.here hx rfl (hb hby own_d1_24) k) ?_
      show own_Go _ _ _ _ _ _ _ (T.setTop (mkF m 25 #[.val (.int x0)] [(.int (1 : Int32))]))
      refine own_back (fun t k => XS.goto X.here hx rfl (pc0 := 25) (pc' := 29) rfl (hb hby own_d1_25) (by decide) (by decide) k) ?_
      show own_Go _ _ _ _ _ _ _ (T.setTop (mkF m 29 #[.val (.int x0)] [(.int (1 : Int32))]))
      subst hR
      exact own_retN X hx (t := .boolean) hret (by simp) (hb hby own_d1_29) hlk (by decide) ⟨rfl, N, e0⟩ (by decide) (by decide)
    · rw [if_neg hc9] at hR
      refine own_back (fun t k => XS.icmpNo X.here hx rfl (hb hby own_d1_9) rfl (feq hc9).1 k) ?_
      show own_Go _ _ _ _ _ _ _ (T.setTop (mkF m 12 #[.val (.int x0)] []))
      refine own_back (fun t k => XS.iloadN X.here hx rfl (hb hby own_d1_12) rfl k) ?_
      show own_Go _ _ _ _ _ _ _ (T.setTop (mkF m 13 #[.val (.int x0)] [(.int x0)]))
      refine own_back (fun t k => XS.bipush X.here hx rfl (hb hby own_d1_13) k) ?_
      show own_Go _ _ _ _ _ _ _ (T.setTop (mkF m 15 #[.val (.int x0)] [(.int (10 : Int32)), (.int x0)]))
      by_cases hc15 : x0 = (10 : Int32)
      · rw [if_pos hc15] at hR
        refine own_back (fun t k => XS.icmpYes X.here hx rfl (pc0 := 15) (pc' := 24) rfl (hb hby own_d1_15) rfl (teq hc15).1 (by decide) (by decide) k) ?_
        show own_Go _ _ _ _ _ _ _ (T.setTop (mkF m 24 #[.val (.int x0)] []))
        refine own_back (fun t k => XS.iconst X.here hx rfl (hb hby own_d1_24) k) ?_
        show own_Go _ _ _ _ _ _ _ (T.setTop (mkF m 25 #[.val (.int x0)] [(.int (1 : Int32))]))
        refine own_back (fun t k => XS.goto X.here hx rfl (pc0 := 25) (pc' := 29) rfl (hb hby own_d1_25) (by decide) (by decide) k) ?_
        show own_Go _ _ _ _ _ _ _ (T.setTop (mkF m 29 #[.val (.int x0)] [(.int (1 : Int32))]))
        subst hR
        exact own_retN X hx (t := .boolean) hret (by simp) (hb hby own_d1_29) hlk (by decide) ⟨rfl, N, e0⟩ (by decide) (by decide)
      · rw [if_neg hc15] at hR
        refine own_back (fun t k => XS.icmpNo X.here hx rfl (hb hby own_d1_15) rfl (feq hc15).1 k) ?_
        show own_Go _ _ _ _ _ _ _ (T.setTop (mkF m 18 #[.val (.int x0)] []))
        refine own_back (fun t k => XS.iloadN X.here hx rfl (hb hby own_d1_18) rfl k) ?_
        show own_Go _ _ _ _ _ _ _ (T.setTop (mkF m 19 #[.val (.int x0)] [(.int x0)]))
        refine own_back (fun t k => XS.bipush X.here hx rfl (hb hby own_d1_19) k) ?_
        show own_Go _ _ _ _ _ _ _ (T.setTop (mkF m 21 #[.val (.int x0)] [(.int (13 : Int32)), (.int x0)]))
        by_cases hc21 : x0 = (13 : Int32)
        · rw [if_pos hc21] at hR
          refine own_back (fun t k => XS.icmpNo X.here hx rfl (hb hby own_d1_21) rfl (teq hc21).2 k) ?_
          show own_Go _ _ _ _ _ _ _ (T.setTop (mkF m 24 #[.val (.int x0)] []))
          refine own_back (fun t k => XS.iconst X.here hx rfl (hb hby own_d1_24) k) ?_
          show own_Go _ _ _ _ _ _ _ (T.setTop (mkF m 25 #[.val (.int x0)] [(.int (1 : Int32))]))
          refine own_back (fun t k => XS.goto X.here hx rfl (pc0 := 25) (pc' := 29) rfl (hb hby own_d1_25) (by decide) (by decide) k) ?_
          show own_Go _ _ _ _ _ _ _ (T.setTop (mkF m 29 #[.val (.int x0)] [(.int (1 : Int32))]))
          subst hR
          exact own_retN X hx (t := .boolean) hret (by simp) (hb hby own_d1_29) hlk (by decide) ⟨rfl, N, e0⟩ (by decide) (by decide)
        · rw [if_neg hc21] at hR
          refine own_back (fun t k => XS.icmpYes X.here hx rfl (pc0 := 21) (pc' := 28) rfl (hb hby own_d1_21) rfl (feq hc21).2 (by decide) (by decide) k) ?_
          show own_Go _ _ _ _ _ _ _ (T.setTop (mkF m 28 #[.val (.int x0)] []))
          refine own_back (fun t k => XS.iconst X.here hx rfl (hb hby own_d1_28) k) ?_
          show own_Go _ _ _ _ _ _ _ (T.setTop (mkF m 29 #[.val (.int x0)] [(.int (0 : Int32))]))
          subst hR
          exact own_retN X hx (t := .boolean) hret (by simp) (hb hby own_d1_29) hlk (by decide) ⟨rfl, N, e0⟩ (by decide) (by decide)
theorem own_pn1 : plainName "kartoteka/Json" = true := by first | (simp [plainName, overriddenIn]; done) | decide +kernel
theorem own_ef1 (m : MethodId) (x0 : Int32) : entryFrame m #[(.int x0)] 1 = mkF m 0 #[.val (.int x0)] [] := by first | (simp [entryFrame, mkF, argsToLocals, Value.category]; done) | rfl
set_option maxRecDepth 65536 in
set_option maxHeartbeats 4000000 in
theorem own_rm1 (l : Launch) (Z : State) (a0 : Array Value) (hw : ∀ d ∈ tables_1, d.before a0 Z = true) (ws : List Jvm.Cond) (x0 : Int32) (h0 : Heap) (n0 : Nat) (Z0 : n0 ≤ h0.size) :
    MetFree l (⟨"kartoteka/Json", "isWhitespace", "(I)Z"⟩ : MethodName) (head1 (Jvm.Cond.code (⟨"kartoteka/Json", "isWhitespace", "(I)Z"⟩ : MethodName) prog_26_method_16_code 1 (some .boolean) :: ws) ({ frames := 0, cells := 0, slots := 0, locals := 0 } : Room)) (fun a U => a = #[(.int x0)] ∧ Z.Warmed39 U.vm ∧ U.heap = h0) (fun _ _ _ _ _ => True) (fun _ U o U' => ∃ v L, o = .returned v ∧ own_QP (.int (own_f1_0 x0)) h0 n0 v U'.heap L ∧ FrameEnd U o U' L ({ frames := 0, cells := 0, slots := 0, locals := 0 } : Room).cells ({ frames := 0, cells := 0, slots := 0, locals := 0 } : Room).slots) := by
  refine MetFree.of_bodySF (plainFor_of_name own_pn1) hisR ?_
  intro p e s m args below meth c s₁ Bd hml0 hP hK
  obtain ⟨rfl, hZ, hh⟩ := hP
  have X0 : Stand p l e ({ frames := 0, cells := 0, slots := 0, locals := 0 } : Room) s m #[(.int x0)] below meth c s₁ [] 0 0 := Stand.of_body Bd
  have e0 : s₁.heap = h0 := by rw [← hh, Bd.state]; rfl
  refine own_back (s := s) (fun t k => castTop (own_ef1 m x0) k) ?_
  exact own_l1_0 X0 Bd.exec hZ hw Bd.bytes hml0 (findClass_of_methodNamed Bd.named) Bd.returns (BodyLoose.notSynchronized Bd) e0 (Fr.nil n0) Z0 x0 rfl
/-! body 2: kartoteka/JsonIsWhitespacePinLaw.ref:(I)Z -/
theorem own_d2_0 : decode method_2_code 0 = .ok (.iload_n 0, 1) := by decide +kernel
theorem own_d2_1 : decode method_2_code 1 = .ok (.ifCond .lt 9, 3) := by decide +kernel
theorem own_d2_4 : decode method_2_code 4 = .ok (.iload_n 0, 1) := by decide +kernel
theorem own_d2_5 : decode method_2_code 5 = .ok (.bipush 32, 2) := by decide +kernel
theorem own_d2_7 : decode method_2_code 7 = .ok (.if_icmp .le 5, 3) := by decide +kernel
theorem own_d2_10 : decode method_2_code 10 = .ok (.iconst 0, 1) := by decide +kernel
theorem own_d2_11 : decode method_2_code 11 = .ok (.ireturn, 1) := by decide +kernel
theorem own_d2_12 : decode method_2_code 12 = .ok (.ldc2_w 7, 3) := by decide +kernel
theorem own_d2_15 : decode method_2_code 15 = .ok (.lstore_n 1, 1) := by decide +kernel
theorem own_d2_16 : decode method_2_code 16 = .ok (.lload_n 1, 1) := by decide +kernel
theorem own_d2_17 : decode method_2_code 17 = .ok (.iload_n 0, 1) := by decide +kernel
theorem own_d2_18 : decode method_2_code 18 = .ok (.lushr, 1) := by decide +kernel
theorem own_d2_19 : decode method_2_code 19 = .ok (.lconst 1, 1) := by decide +kernel
theorem own_d2_20 : decode method_2_code 20 = .ok (.land, 1) := by decide +kernel
theorem own_d2_21 : decode method_2_code 21 = .ok (.lconst 1, 1) := by decide +kernel
theorem own_d2_22 : decode method_2_code 22 = .ok (.lcmp, 1) := by decide +kernel
theorem own_d2_23 : decode method_2_code 23 = .ok (.ifCond .ne 7, 3) := by decide +kernel
theorem own_d2_26 : decode method_2_code 26 = .ok (.iconst 1, 1) := by decide +kernel
theorem own_d2_27 : decode method_2_code 27 = .ok (.goto 4, 3) := by decide +kernel
theorem own_d2_30 : decode method_2_code 30 = .ok (.iconst 0, 1) := by decide +kernel
theorem own_d2_31 : decode method_2_code 31 = .ok (.ireturn, 1) := by decide +kernel
def own_f2_0 (x0 : Int32) : Int32 := (if x0 < (0 : Int32) then (0 : Int32) else (if (32 : Int32) < x0 then (0 : Int32) else (if (lcmpW ((((4294977024 : Int64).toUInt64 >>> (x0 &&& 0x3f).toInt64.toUInt64).toInt64) &&& (1 : Int64)) (1 : Int64)) = (0 : Int32) then (1 : Int32) else (0 : Int32))))
set_option maxRecDepth 65536 in
set_option maxHeartbeats 4000000 in
theorem own_l2_0 {p : Program} {l : Launch} {e : Env} {s : State} {m : MethodId} {args : Array Value} {below : List Frame} {meth : Method} {c : Code} {T : State} {locs : List Loc} {Z : State} {a0 : Array Value} {h0 : Heap} {n0 : Nat}
    (X : Stand p l e ({ frames := 0, cells := 0, slots := 0, locals := 0 } : Room) s m args below meth c T locs 0 0) (hx : p.tables.exec = Jvm.exec) (hZ : Z.Warmed39 s.vm) (hw : ∀ d ∈ tables_1, d.before a0 Z = true) (hby : c.code = method_2_code) (hml : c.maxLocals = 3) (hown : s.vm.findClass "kartoteka/JsonIsWhitespacePinLaw" = some m.cls) (hret : meth.sig.returnType = some .boolean) (hlk : meth.locks = false) (e0 : T.heap = h0) (N : Fr n0 locs) (Z0 : n0 ≤ h0.size)
    (x0 : Int32) {r : Int32} (hR : r = own_f2_0 x0) : own_Go p e below s ({ frames := 0, cells := 0, slots := 0, locals := 0 } : Room).cells ({ frames := 0, cells := 0, slots := 0, locals := 0 } : Room).slots (own_QP (.int r) h0 n0) (T.setTop (mkF m 0 #[.val (.int x0), .unset, .unset] [])) := by
  unfold own_f2_0 at hR
  refine own_back (fun t k => XS.iloadN X.here hx rfl (hb hby own_d2_0) rfl k) ?_
  show own_Go _ _ _ _ _ _ _ (T.setTop (mkF m 1 #[.val (.int x0), .unset, .unset] [(.int x0)]))
  by_cases hc1 : x0 < (0 : Int32)
  · rw [if_pos hc1] at hR
    refine own_back (fun t k => XS.ifYes X.here hx rfl (pc0 := 1) (pc' := 10) rfl (hb hby own_d2_1) rfl ((if0 _ _).trans (tlt hc1).1) (by decide) (by decide) k) ?_
    show own_Go _ _ _ _ _ _ _ (T.setTop (mkF m 10 #[.val (.int x0), .unset, .unset] []))
    refine own_back (fun t k => XS.iconst X.here hx rfl (hb hby own_d2_10) k) ?_
    show own_Go _ _ _ _ _ _ _ (T.setTop (mkF m 11 #[.val (.int x0), .unset, .unset] [(.int (0 : Int32))]))
    subst hR
    exact own_retN X hx (t := .boolean) hret (by simp) (hb hby own_d2_11) hlk (by decide) ⟨rfl, N, e0⟩ (by decide) (by decide)
  · rw [if_neg hc1] at hR
    refine own_back (fun t k => XS.ifNo X.here hx rfl (hb hby own_d2_1) rfl ((if0 _ _).trans (flt hc1).1) k) ?_
    show own_Go _ _ _ _ _ _ _ (T.setTop (mkF m 4 #[.val (.int x0), .unset, .unset] []))
    refine own_back (fun t k => XS.iloadN X.here hx rfl (hb hby own_d2_4) rfl k) ?_
    show own_Go _ _ _ _ _ _ _ (T.setTop (mkF m 5 #[.val (.int x0), .unset, .unset] [(.int x0)]))
    refine own_back (fun t k => XS.bipush X.here hx rfl (hb hby own_d2_5) k) ?_
    show own_Go _ _ _ _ _ _ _ (T.setTop (mkF m 7 #[.val (.int x0), .unset, .unset] [(.int (32 : Int32)), (.int x0)]))
    by_cases hc7 : (32 : Int32) < x0
    · rw [if_pos hc7] at hR
      refine own_back (fun t k => XS.icmpNo X.here hx rfl (hb hby own_d2_7) rfl (tlt hc7).2.2.2 k) ?_
      show own_Go _ _ _ _ _ _ _ (T.setTop (mkF m 10 #[.val (.int x0), .unset, .unset] []))
      refine own_back (fun t k => XS.iconst X.here hx rfl (hb hby own_d2_10) k) ?_
      show own_Go _ _ _ _ _ _ _ (T.setTop (mkF m 11 #[.val (.int x0), .unset, .unset] [(.int (0 : Int32))]))
      subst hR
      exact own_retN X hx (t := .boolean) hret (by simp) (hb hby own_d2_11) hlk (by decide) ⟨rfl, N, e0⟩ (by decide) (by decide)
    · rw [if_neg hc7] at hR
      refine own_back (fun t k => XS.icmpYes X.here hx rfl (pc0 := 7) (pc' := 12) rfl (hb hby own_d2_7) rfl (flt hc7).2.2.2 (by decide) (by decide) k) ?_
      show own_Go _ _ _ _ _ _ _ (T.setTop (mkF m 12 #[.val (.int x0), .unset, .unset] []))
      refine own_back (fun t k => X.ldc2Long hx hown (mvT hZ (hw _ (List.mem_of_getElem? (i := 8) rfl))) (g := (mkF m 12 #[.val (.int x0), .unset, .unset] [])) rfl (hb hby own_d2_12) _ k) ?_
      show own_Go _ _ _ _ _ _ _ (T.setTop (mkF m 15 #[.val (.int x0), .unset, .unset] [(.long (4294977024 : Int64))]))
      refine own_back (fun t k => XS.lstoreN X.here hx rfl (hb hby own_d2_15) rfl (l' := #[.val (.int x0), .val (.long (4294977024 : Int64)), .second]) rfl k) ?_
      show own_Go _ _ _ _ _ _ _ (T.setTop (mkF m 16 #[.val (.int x0), .val (.long (4294977024 : Int64)), .second] []))
      refine own_back (fun t k => XS.lloadN X.here hx rfl (hb hby own_d2_16) rfl k) ?_
      show own_Go _ _ _ _ _ _ _ (T.setTop (mkF m 17 #[.val (.int x0), .val (.long (4294977024 : Int64)), .second] [(.long (4294977024 : Int64))]))
      refine own_back (fun t k => XS.iloadN X.here hx rfl (hb hby own_d2_17) rfl k) ?_
      show own_Go _ _ _ _ _ _ _ (T.setTop (mkF m 18 #[.val (.int x0), .val (.long (4294977024 : Int64)), .second] [(.int x0), (.long (4294977024 : Int64))]))
      refine own_back (fun t k => XS.lushr X.here hx rfl (hb hby own_d2_18) rfl k) ?_
      show own_Go _ _ _ _ _ _ _ (T.setTop (mkF m 19 #[.val (.int x0), .val (.long (4294977024 : Int64)), .second] [(.long (((4294977024 : Int64).toUInt64 >>> (x0 &&& 0x3f).toInt64.toUInt64).toInt64))]))
      refine own_back (fun t k => XS.lconst X.here hx rfl (hb hby own_d2_19) k) ?_
      show own_Go _ _ _ _ _ _ _ (T.setTop (mkF m 20 #[.val (.int x0), .val (.long (4294977024 : Int64)), .second] [(.long (1 : Int64)), (.long (((4294977024 : Int64).toUInt64 >>> (x0 &&& 0x3f).toInt64.toUInt64).toInt64))]))
      refine own_back (fun t k => XS.land X.here hx rfl (hb hby own_d2_20) rfl k) ?_
      show own_Go _ _ _ _ _ _ _ (T.setTop (mkF m 21 #[.val (.int x0), .val (.long (4294977024 : Int64)), .second] [(.long ((((4294977024 : Int64).toUInt64 >>> (x0 &&& 0x3f).toInt64.toUInt64).toInt64) &&& (1 : Int64)))]))
      refine own_back (fun t k => XS.lconst X.here hx rfl (hb hby own_d2_21) k) ?_
      show own_Go _ _ _ _ _ _ _ (T.setTop (mkF m 22 #[.val (.int x0), .val (.long (4294977024 : Int64)), .second] [(.long (1 : Int64)), (.long ((((4294977024 : Int64).toUInt64 >>> (x0 &&& 0x3f).toInt64.toUInt64).toInt64) &&& (1 : Int64)))]))
      refine own_back (fun t k => XS.lcmp X.here hx rfl (hb hby own_d2_22) rfl k) ?_
      show own_Go _ _ _ _ _ _ _ (T.setTop (mkF m 23 #[.val (.int x0), .val (.long (4294977024 : Int64)), .second] [(.int (lcmpW ((((4294977024 : Int64).toUInt64 >>> (x0 &&& 0x3f).toInt64.toUInt64).toInt64) &&& (1 : Int64)) (1 : Int64)))]))
      by_cases hc23 : (lcmpW ((((4294977024 : Int64).toUInt64 >>> (x0 &&& 0x3f).toInt64.toUInt64).toInt64) &&& (1 : Int64)) (1 : Int64)) = (0 : Int32)
      · rw [if_pos hc23] at hR
        refine own_back (fun t k => XS.ifNo X.here hx rfl (hb hby own_d2_23) rfl ((if0 _ _).trans (teq hc23).2) k) ?_
        show own_Go _ _ _ _ _ _ _ (T.setTop (mkF m 26 #[.val (.int x0), .val (.long (4294977024 : Int64)), .second] []))
        refine own_back (fun t k => XS.iconst X.here hx rfl (hb hby own_d2_26) k) ?_
        show own_Go _ _ _ _ _ _ _ (T.setTop (mkF m 27 #[.val (.int x0), .val (.long (4294977024 : Int64)), .second] [(.int (1 : Int32))]))
        refine own_back (fun t k => XS.goto X.here hx rfl (pc0 := 27) (pc' := 31) rfl (hb hby own_d2_27) (by decide) (by decide) k) ?_
        show own_Go _ _ _ _ _ _ _ (T.setTop (mkF m 31 #[.val (.int x0), .val (.long (4294977024 : Int64)), .second] [(.int (1 : Int32))]))
        subst hR
        exact own_retN X hx (t := .boolean) hret (by simp) (hb hby own_d2_31) hlk (by decide) ⟨rfl, N, e0⟩ (by decide) (by decide)
      · rw [if_neg hc23] at hR
        refine own_back (fun t k => XS.ifYes X.here hx rfl (pc0 := 23) (pc' := 30) rfl (hb hby own_d2_23) rfl ((if0 _ _).trans (feq hc23).2) (by decide) (by decide) k) ?_
        show own_Go _ _ _ _ _ _ _ (T.setTop (mkF m 30 #[.val (.int x0), .val (.long (4294977024 : Int64)), .second] []))
        refine own_back (fun t k => XS.iconst X.here hx rfl (hb hby own_d2_30) k) ?_
        show own_Go _ _ _ _ _ _ _ (T.setTop (mkF m 31 #[.val (.int x0), .val (.long (4294977024 : Int64)), .second] [(.int (0 : Int32))]))
        subst hR
        exact own_retN X hx (t := .boolean) hret (by simp) (hb hby own_d2_31) hlk (by decide) ⟨rfl, N, e0⟩ (by decide) (by decide)
theorem own_pn2 : plainName "kartoteka/JsonIsWhitespacePinLaw" = true := by first | (simp [plainName, overriddenIn]; done) | decide +kernel
theorem own_ef2 (m : MethodId) (x0 : Int32) : entryFrame m #[(.int x0)] 3 = mkF m 0 #[.val (.int x0), .unset, .unset] [] := by first | (simp [entryFrame, mkF, argsToLocals, Value.category]; done) | rfl
set_option maxRecDepth 65536 in
set_option maxHeartbeats 4000000 in
theorem own_rm2 (l : Launch) (Z : State) (a0 : Array Value) (hw : ∀ d ∈ tables_1, d.before a0 Z = true) (ws : List Jvm.Cond) (x0 : Int32) (h0 : Heap) (n0 : Nat) (Z0 : n0 ≤ h0.size) :
    MetFree l (⟨"kartoteka/JsonIsWhitespacePinLaw", "ref", "(I)Z"⟩ : MethodName) (head1 (Jvm.Cond.code (⟨"kartoteka/JsonIsWhitespacePinLaw", "ref", "(I)Z"⟩ : MethodName) method_2_code 3 (some .boolean) :: ws) ({ frames := 0, cells := 0, slots := 0, locals := 0 } : Room)) (fun a U => a = #[(.int x0)] ∧ Z.Warmed39 U.vm ∧ U.heap = h0) (fun _ _ _ _ _ => True) (fun _ U o U' => ∃ v L, o = .returned v ∧ own_QP (.int (own_f2_0 x0)) h0 n0 v U'.heap L ∧ FrameEnd U o U' L ({ frames := 0, cells := 0, slots := 0, locals := 0 } : Room).cells ({ frames := 0, cells := 0, slots := 0, locals := 0 } : Room).slots) := by
  refine MetFree.of_bodySF (plainFor_of_name own_pn2) hisR ?_
  intro p e s m args below meth c s₁ Bd hml0 hP hK
  obtain ⟨rfl, hZ, hh⟩ := hP
  have X0 : Stand p l e ({ frames := 0, cells := 0, slots := 0, locals := 0 } : Room) s m #[(.int x0)] below meth c s₁ [] 0 0 := Stand.of_body Bd
  have e0 : s₁.heap = h0 := by rw [← hh, Bd.state]; rfl
  refine own_back (s := s) (fun t k => castTop (own_ef2 m x0) k) ?_
  exact own_l2_0 X0 Bd.exec hZ hw Bd.bytes hml0 (findClass_of_methodNamed Bd.named) Bd.returns (BodyLoose.notSynchronized Bd) e0 (Fr.nil n0) Z0 x0 rfl
theorem own_pd0 : parseMethodDescriptor "(I)Z" = some ⟨[.int], some .boolean⟩ := by decide +kernel
/-! body 0: kartoteka/JsonIsWhitespacePinLaw.law:(II)Z -/
def own_f0_41 (i0 : Int32) (i1 : Int32) (i2 : Int32) (i3 : Int32) (t0 : Int32) : Int32 := (if i3 = (0 : Int32) then (0 : Int32) else (if t0 = (0 : Int32) then (0 : Int32) else (1 : Int32)))
def own_f0_24 (i0 : Int32) (i1 : Int32) (i2 : Int32) (t0 : Int32) : Int32 := (if (own_f1_0 i2) = (own_f2_0 i2) then (own_f0_41 i0 i1 i2 t0 (1 : Int32)) else (own_f0_41 i0 i1 i2 t0 (0 : Int32)))
def own_f0_0 (x0 : Int32) (x1 : Int32) : Int32 := (if (own_f1_0 x0) = (own_f2_0 x0) then (own_f0_24 x0 x1 ((x1 &&& (63 : Int32)) - (8 : Int32)) (1 : Int32)) else (own_f0_24 x0 x1 ((x1 &&& (63 : Int32)) - (8 : Int32)) (0 : Int32)))
set_option maxRecDepth 65536 in
set_option maxHeartbeats 4000000 in
theorem own_l0_41 {p : Program} {l : Launch} {e : Env} {s : State} {m : MethodId} {args : Array Value} {below : List Frame} {meth : Method} {c : Code} {T : State} {locs : List Loc} {Z : State} {a0 : Array Value} {h0 : Heap} {n0 : Nat}
    (X : Stand p l e room_1 s m args below meth c T locs 0 0) (hx : p.tables.exec = Jvm.exec) (hZ : Z.Warmed39 s.vm) (hw : ∀ d ∈ tables_1, d.before a0 Z = true) (hby : c.code = code) (hml : c.maxLocals = 5) (hown : s.vm.findClass "kartoteka/JsonIsWhitespacePinLaw" = some m.cls) (hret : meth.sig.returnType = some .boolean) (hlk : meth.locks = false) (e0 : T.heap = h0) (N : Fr n0 locs) (Z0 : n0 ≤ h0.size)
    (i0 : Int32) (i1 : Int32) (i2 : Int32) (i3 : Int32) (t0 : Int32) {r : Int32} (hR : r = own_f0_41 i0 i1 i2 i3 t0) : own_Go p e below s room_1.cells room_1.slots (own_QP (.int r) h0 n0) (T.setTop (mkF m 41 #[.val (.int i0), .val (.int i1), .val (.int i2), .val (.int i3), .unset] [(.int t0)])) := by
  unfold own_f0_41 at hR
  refine own_back (fun t k => XS.istore X.here hx rfl (hb hby at_41) rfl (l' := #[.val (.int i0), .val (.int i1), .val (.int i2), .val (.int i3), .val (.int t0)]) rfl k) ?_
  show own_Go _ _ _ _ _ _ _ (T.setTop (mkF m 43 #[.val (.int i0), .val (.int i1), .val (.int i2), .val (.int i3), .val (.int t0)] []))
  refine own_back (fun t k => XS.iloadN X.here hx rfl (hb hby at_43) rfl k) ?_
  show own_Go _ _ _ _ _ _ _ (T.setTop (mkF m 44 #[.val (.int i0), .val (.int i1), .val (.int i2), .val (.int i3), .val (.int t0)] [(.int i3)]))
  by_cases hc44 : i3 = (0 : Int32)
  · rw [if_pos hc44] at hR
    refine own_back (fun t k => XS.ifYes X.here hx rfl (pc0 := 44) (pc' := 56) rfl (hb hby at_44) rfl ((if0 _ _).trans (teq hc44).1) (by decide) (by decide) k) ?_
    show own_Go _ _ _ _ _ _ _ (T.setTop (mkF m 56 #[.val (.int i0), .val (.int i1), .val (.int i2), .val (.int i3), .val (.int t0)] []))
    refine own_back (fun t k => XS.iconst X.here hx rfl (hb hby at_56) k) ?_
    show own_Go _ _ _ _ _ _ _ (T.setTop (mkF m 57 #[.val (.int i0), .val (.int i1), .val (.int i2), .val (.int i3), .val (.int t0)] [(.int (0 : Int32))]))
    subst hR
    exact own_retN X hx (t := .boolean) hret (by simp) (hb hby at_57) hlk (by decide) ⟨rfl, N, e0⟩ (by decide) (by decide)
  · rw [if_neg hc44] at hR
    refine own_back (fun t k => XS.ifNo X.here hx rfl (hb hby at_44) rfl ((if0 _ _).trans (feq hc44).1) k) ?_
    show own_Go _ _ _ _ _ _ _ (T.setTop (mkF m 47 #[.val (.int i0), .val (.int i1), .val (.int i2), .val (.int i3), .val (.int t0)] []))
    refine own_back (fun t k => XS.iload X.here hx rfl (hb hby at_47) rfl k) ?_
    show own_Go _ _ _ _ _ _ _ (T.setTop (mkF m 49 #[.val (.int i0), .val (.int i1), .val (.int i2), .val (.int i3), .val (.int t0)] [(.int t0)]))
    by_cases hc49 : t0 = (0 : Int32)
    · rw [if_pos hc49] at hR
      refine own_back (fun t k => XS.ifYes X.here hx rfl (pc0 := 49) (pc' := 56) rfl (hb hby at_49) rfl ((if0 _ _).trans (teq hc49).1) (by decide) (by decide) k) ?_
      show own_Go _ _ _ _ _ _ _ (T.setTop (mkF m 56 #[.val (.int i0), .val (.int i1), .val (.int i2), .val (.int i3), .val (.int t0)] []))
      refine own_back (fun t k => XS.iconst X.here hx rfl (hb hby at_56) k) ?_
      show own_Go _ _ _ _ _ _ _ (T.setTop (mkF m 57 #[.val (.int i0), .val (.int i1), .val (.int i2), .val (.int i3), .val (.int t0)] [(.int (0 : Int32))]))
      subst hR
      exact own_retN X hx (t := .boolean) hret (by simp) (hb hby at_57) hlk (by decide) ⟨rfl, N, e0⟩ (by decide) (by decide)
    · rw [if_neg hc49] at hR
      refine own_back (fun t k => XS.ifNo X.here hx rfl (hb hby at_49) rfl ((if0 _ _).trans (feq hc49).1) k) ?_
      show own_Go _ _ _ _ _ _ _ (T.setTop (mkF m 52 #[.val (.int i0), .val (.int i1), .val (.int i2), .val (.int i3), .val (.int t0)] []))
      refine own_back (fun t k => XS.iconst X.here hx rfl (hb hby at_52) k) ?_
      show own_Go _ _ _ _ _ _ _ (T.setTop (mkF m 53 #[.val (.int i0), .val (.int i1), .val (.int i2), .val (.int i3), .val (.int t0)] [(.int (1 : Int32))]))
      refine own_back (fun t k => XS.goto X.here hx rfl (pc0 := 53) (pc' := 57) rfl (hb hby at_53) (by decide) (by decide) k) ?_
      show own_Go _ _ _ _ _ _ _ (T.setTop (mkF m 57 #[.val (.int i0), .val (.int i1), .val (.int i2), .val (.int i3), .val (.int t0)] [(.int (1 : Int32))]))
      subst hR
      exact own_retN X hx (t := .boolean) hret (by simp) (hb hby at_57) hlk (by decide) ⟨rfl, N, e0⟩ (by decide) (by decide)
set_option maxRecDepth 65536 in
set_option maxHeartbeats 4000000 in
theorem own_l0_24 {p : Program} {l : Launch} {e : Env} {s : State} {m : MethodId} {args : Array Value} {below : List Frame} {meth : Method} {c : Code} {T : State} {locs : List Loc} {Z : State} {a0 : Array Value} {h0 : Heap} {n0 : Nat}
    (X : Stand p l e room_1 s m args below meth c T locs 0 0) (hx : p.tables.exec = Jvm.exec) (hZ : Z.Warmed39 s.vm) (hw : ∀ d ∈ tables_1, d.before a0 Z = true) (hby : c.code = code) (hml : c.maxLocals = 5) (hown : s.vm.findClass "kartoteka/JsonIsWhitespacePinLaw" = some m.cls) (hret : meth.sig.returnType = some .boolean) (hlk : meth.locks = false) (e0 : T.heap = h0) (N : Fr n0 locs) (Z0 : n0 ≤ h0.size)
    (i0 : Int32) (i1 : Int32) (i2 : Int32) (t0 : Int32) {r : Int32} (hR : r = own_f0_24 i0 i1 i2 t0) : own_Go p e below s room_1.cells room_1.slots (own_QP (.int r) h0 n0) (T.setTop (mkF m 24 #[.val (.int i0), .val (.int i1), .val (.int i2), .unset, .unset] [(.int t0)])) := by
  unfold own_f0_24 at hR
  refine own_back (fun t k => XS.istoreN X.here hx rfl (hb hby at_24) rfl (l' := #[.val (.int i0), .val (.int i1), .val (.int i2), .val (.int t0), .unset]) rfl k) ?_
  show own_Go _ _ _ _ _ _ _ (T.setTop (mkF m 25 #[.val (.int i0), .val (.int i1), .val (.int i2), .val (.int t0), .unset] []))
  refine own_back (fun t k => XS.iloadN X.here hx rfl (hb hby at_25) rfl k) ?_
  show own_Go _ _ _ _ _ _ _ (T.setTop (mkF m 26 #[.val (.int i0), .val (.int i1), .val (.int i2), .val (.int t0), .unset] [(.int i2)]))
  obtain ⟨_, _, ⟨T3, L3, k3, n3⟩, -, X3, ⟨Lc3, hQ3, l3, y3, z3⟩, st3⟩ := Jvm.LawKit.callS X hx (y := (⟨"kartoteka/Json", "isWhitespace", "(I)Z"⟩ : MethodName)) hown (mvT hZ (hw _ (List.mem_of_getElem? (i := 0) rfl))) (mvT hZ (hw _ (List.mem_of_getElem? (i := 1) rfl))) (mvT hZ (hw _ (List.mem_of_getElem? (i := 2) rfl))) (mvT hZ (hw _ (List.mem_of_getElem? (i := 3) rfl))) (by decide) (backOf (W := 0) (own_rm1 l Z a0 hw [] i2 h0 n0 Z0) hZ (hw _ (List.mem_of_getElem? (i := 3) rfl)) (hw _ (List.mem_of_getElem? (i := 2) rfl)) (by decide) (by decide)) (g := (mkF m 26 #[.val (.int i0), .val (.int i1), .val (.int i2), .val (.int t0), .unset] [(.int i2)])) rfl (by rw [hml]; rfl) (argsL := [(.int i2)]) (rest := []) (lenOf own_pd0 rfl) rfl (by show 2 * 0 + _ ≤ _; exact Nat.le_of_eq rfl) (hb hby at_26) (fun _ _ => ⟨rfl, e0, (by decide : 0 + 0 ≤ _), (by decide : 0 + 0 ≤ _)⟩)
  dsimp only [Pt.U, Pt.locs, Pt.cells, Pt.slots] at X3 l3 y3 z3 st3 hQ3
  subst l3 y3 z3
  obtain ⟨rfl, N3q, e3⟩ := hQ3
  have N3 := Fr.app N N3q
  refine own_back (fun t k => st3 t k) ?_
  show own_Go _ _ _ _ _ _ _ (T3.setTop (mkF m 29 #[.val (.int i0), .val (.int i1), .val (.int i2), .val (.int t0), .unset] [(.int (own_f1_0 i2))]))
  refine own_back (fun t k => XS.iloadN X3.here hx rfl (hb hby at_29) rfl k) ?_
  show own_Go _ _ _ _ _ _ _ (T3.setTop (mkF m 30 #[.val (.int i0), .val (.int i1), .val (.int i2), .val (.int t0), .unset] [(.int i2), (.int (own_f1_0 i2))]))
  obtain ⟨_, _, ⟨T4, L4, k4, n4⟩, -, X4, ⟨Lc4, hQ4, l4, y4, z4⟩, st4⟩ := Jvm.LawKit.callS X3 hx (y := (⟨"kartoteka/JsonIsWhitespacePinLaw", "ref", "(I)Z"⟩ : MethodName)) hown (mvT hZ (hw _ (List.mem_of_getElem? (i := 4) rfl))) (mvT hZ (hw _ (List.mem_of_getElem? (i := 5) rfl))) (mvT hZ (hw _ (List.mem_of_getElem? (i := 6) rfl))) (mvT hZ (hw _ (List.mem_of_getElem? (i := 7) rfl))) (by decide) (backOf (W := 1) (own_rm2 l Z a0 hw [] i2 h0 n0 Z0) hZ (hw _ (List.mem_of_getElem? (i := 7) rfl)) (hw _ (List.mem_of_getElem? (i := 6) rfl)) (by decide) (by decide)) (g := (mkF m 30 #[.val (.int i0), .val (.int i1), .val (.int i2), .val (.int t0), .unset] [(.int i2), (.int (own_f1_0 i2))])) rfl (by rw [hml]; rfl) (argsL := [(.int i2)]) (rest := [(.int (own_f1_0 i2))]) (lenOf own_pd0 rfl) rfl (by show 2 * 0 + _ ≤ _; exact Nat.le_of_eq rfl) (hb hby at_30) (fun _ _ => ⟨rfl, e3, (by decide : 0 + 0 ≤ _), (by decide : 0 + 0 ≤ _)⟩)
  dsimp only [Pt.U, Pt.locs, Pt.cells, Pt.slots] at X4 l4 y4 z4 st4 hQ4
  subst l4 y4 z4
  obtain ⟨rfl, N4q, e4⟩ := hQ4
  have N4 := Fr.app N3 N4q
  refine own_back (fun t k => st4 t k) ?_
  show own_Go _ _ _ _ _ _ _ (T4.setTop (mkF m 33 #[.val (.int i0), .val (.int i1), .val (.int i2), .val (.int t0), .unset] [(.int (own_f2_0 i2)), (.int (own_f1_0 i2))]))
  by_cases hc33 : (own_f1_0 i2) = (own_f2_0 i2)
  · rw [if_pos hc33] at hR
    refine own_back (fun t k => XS.icmpNo X4.here hx rfl (hb hby at_33) rfl (teq hc33).2 k) ?_
    show own_Go _ _ _ _ _ _ _ (T4.setTop (mkF m 36 #[.val (.int i0), .val (.int i1), .val (.int i2), .val (.int t0), .unset] []))
    refine own_back (fun t k => XS.iconst X4.here hx rfl (hb hby at_36) k) ?_
    show own_Go _ _ _ _ _ _ _ (T4.setTop (mkF m 37 #[.val (.int i0), .val (.int i1), .val (.int i2), .val (.int t0), .unset] [(.int (1 : Int32))]))
    refine own_back (fun t k => XS.goto X4.here hx rfl (pc0 := 37) (pc' := 41) rfl (hb hby at_37) (by decide) (by decide) k) ?_
    show own_Go _ _ _ _ _ _ _ (T4.setTop (mkF m 41 #[.val (.int i0), .val (.int i1), .val (.int i2), .val (.int t0), .unset] [(.int (1 : Int32))]))
    exact own_l0_41 X4 hx hZ hw hby hml hown hret hlk e4 N4 Z0 i0 i1 i2 t0 (1 : Int32) hR
  · rw [if_neg hc33] at hR
    refine own_back (fun t k => XS.icmpYes X4.here hx rfl (pc0 := 33) (pc' := 40) rfl (hb hby at_33) rfl (feq hc33).2 (by decide) (by decide) k) ?_
    show own_Go _ _ _ _ _ _ _ (T4.setTop (mkF m 40 #[.val (.int i0), .val (.int i1), .val (.int i2), .val (.int t0), .unset] []))
    refine own_back (fun t k => XS.iconst X4.here hx rfl (hb hby at_40) k) ?_
    show own_Go _ _ _ _ _ _ _ (T4.setTop (mkF m 41 #[.val (.int i0), .val (.int i1), .val (.int i2), .val (.int t0), .unset] [(.int (0 : Int32))]))
    exact own_l0_41 X4 hx hZ hw hby hml hown hret hlk e4 N4 Z0 i0 i1 i2 t0 (0 : Int32) hR
set_option maxRecDepth 65536 in
set_option maxHeartbeats 4000000 in
theorem own_l0_0 {p : Program} {l : Launch} {e : Env} {s : State} {m : MethodId} {args : Array Value} {below : List Frame} {meth : Method} {c : Code} {T : State} {locs : List Loc} {Z : State} {a0 : Array Value} {h0 : Heap} {n0 : Nat}
    (X : Stand p l e room_1 s m args below meth c T locs 0 0) (hx : p.tables.exec = Jvm.exec) (hZ : Z.Warmed39 s.vm) (hw : ∀ d ∈ tables_1, d.before a0 Z = true) (hby : c.code = code) (hml : c.maxLocals = 5) (hown : s.vm.findClass "kartoteka/JsonIsWhitespacePinLaw" = some m.cls) (hret : meth.sig.returnType = some .boolean) (hlk : meth.locks = false) (e0 : T.heap = h0) (N : Fr n0 locs) (Z0 : n0 ≤ h0.size)
    (x0 : Int32) (x1 : Int32) {r : Int32} (hR : r = own_f0_0 x0 x1) : own_Go p e below s room_1.cells room_1.slots (own_QP (.int r) h0 n0) (T.setTop (mkF m 0 #[.val (.int x0), .val (.int x1), .unset, .unset, .unset] [])) := by
  unfold own_f0_0 at hR
  refine own_back (fun t k => XS.iloadN X.here hx rfl (hb hby at_0) rfl k) ?_
  show own_Go _ _ _ _ _ _ _ (T.setTop (mkF m 1 #[.val (.int x0), .val (.int x1), .unset, .unset, .unset] [(.int x1)]))
  refine own_back (fun t k => XS.bipush X.here hx rfl (hb hby at_1) k) ?_
  show own_Go _ _ _ _ _ _ _ (T.setTop (mkF m 3 #[.val (.int x0), .val (.int x1), .unset, .unset, .unset] [(.int (63 : Int32)), (.int x1)]))
  refine own_back (fun t k => XS.iand X.here hx rfl (hb hby at_3) rfl k) ?_
  show own_Go _ _ _ _ _ _ _ (T.setTop (mkF m 4 #[.val (.int x0), .val (.int x1), .unset, .unset, .unset] [(.int (x1 &&& (63 : Int32)))]))
  refine own_back (fun t k => XS.bipush X.here hx rfl (hb hby at_4) k) ?_
  show own_Go _ _ _ _ _ _ _ (T.setTop (mkF m 6 #[.val (.int x0), .val (.int x1), .unset, .unset, .unset] [(.int (8 : Int32)), (.int (x1 &&& (63 : Int32)))]))
  refine own_back (fun t k => XS.isub X.here hx rfl (hb hby at_6) rfl k) ?_
  show own_Go _ _ _ _ _ _ _ (T.setTop (mkF m 7 #[.val (.int x0), .val (.int x1), .unset, .unset, .unset] [(.int ((x1 &&& (63 : Int32)) - (8 : Int32)))]))
  refine own_back (fun t k => XS.istoreN X.here hx rfl (hb hby at_7) rfl (l' := #[.val (.int x0), .val (.int x1), .val (.int ((x1 &&& (63 : Int32)) - (8 : Int32))), .unset, .unset]) rfl k) ?_
  show own_Go _ _ _ _ _ _ _ (T.setTop (mkF m 8 #[.val (.int x0), .val (.int x1), .val (.int ((x1 &&& (63 : Int32)) - (8 : Int32))), .unset, .unset] []))
  refine own_back (fun t k => XS.iloadN X.here hx rfl (hb hby at_8) rfl k) ?_
  show own_Go _ _ _ _ _ _ _ (T.setTop (mkF m 9 #[.val (.int x0), .val (.int x1), .val (.int ((x1 &&& (63 : Int32)) - (8 : Int32))), .unset, .unset] [(.int x0)]))
  obtain ⟨_, _, ⟨T1, L1, k1, n1⟩, -, X1, ⟨Lc1, hQ1, l1, y1, z1⟩, st1⟩ := Jvm.LawKit.callS X hx (y := (⟨"kartoteka/Json", "isWhitespace", "(I)Z"⟩ : MethodName)) hown (mvT hZ (hw _ (List.mem_of_getElem? (i := 0) rfl))) (mvT hZ (hw _ (List.mem_of_getElem? (i := 1) rfl))) (mvT hZ (hw _ (List.mem_of_getElem? (i := 2) rfl))) (mvT hZ (hw _ (List.mem_of_getElem? (i := 3) rfl))) (by decide) (backOf (W := 0) (own_rm1 l Z a0 hw [] x0 h0 n0 Z0) hZ (hw _ (List.mem_of_getElem? (i := 3) rfl)) (hw _ (List.mem_of_getElem? (i := 2) rfl)) (by decide) (by decide)) (g := (mkF m 9 #[.val (.int x0), .val (.int x1), .val (.int ((x1 &&& (63 : Int32)) - (8 : Int32))), .unset, .unset] [(.int x0)])) rfl (by rw [hml]; rfl) (argsL := [(.int x0)]) (rest := []) (lenOf own_pd0 rfl) rfl (by show 2 * 0 + _ ≤ _; exact Nat.le_of_eq rfl) (hb hby at_9) (fun _ _ => ⟨rfl, e0, (by decide : 0 + 0 ≤ _), (by decide : 0 + 0 ≤ _)⟩)
  dsimp only [Pt.U, Pt.locs, Pt.cells, Pt.slots] at X1 l1 y1 z1 st1 hQ1
  subst l1 y1 z1
  obtain ⟨rfl, N1q, e1⟩ := hQ1
  have N1 := Fr.app N N1q
  refine own_back (fun t k => st1 t k) ?_
  show own_Go _ _ _ _ _ _ _ (T1.setTop (mkF m 12 #[.val (.int x0), .val (.int x1), .val (.int ((x1 &&& (63 : Int32)) - (8 : Int32))), .unset, .unset] [(.int (own_f1_0 x0))]))
  refine own_back (fun t k => XS.iloadN X1.here hx rfl (hb hby at_12) rfl k) ?_
  show own_Go _ _ _ _ _ _ _ (T1.setTop (mkF m 13 #[.val (.int x0), .val (.int x1), .val (.int ((x1 &&& (63 : Int32)) - (8 : Int32))), .unset, .unset] [(.int x0), (.int (own_f1_0 x0))]))
  obtain ⟨_, _, ⟨T2, L2, k2, n2⟩, -, X2, ⟨Lc2, hQ2, l2, y2, z2⟩, st2⟩ := Jvm.LawKit.callS X1 hx (y := (⟨"kartoteka/JsonIsWhitespacePinLaw", "ref", "(I)Z"⟩ : MethodName)) hown (mvT hZ (hw _ (List.mem_of_getElem? (i := 4) rfl))) (mvT hZ (hw _ (List.mem_of_getElem? (i := 5) rfl))) (mvT hZ (hw _ (List.mem_of_getElem? (i := 6) rfl))) (mvT hZ (hw _ (List.mem_of_getElem? (i := 7) rfl))) (by decide) (backOf (W := 1) (own_rm2 l Z a0 hw [] x0 h0 n0 Z0) hZ (hw _ (List.mem_of_getElem? (i := 7) rfl)) (hw _ (List.mem_of_getElem? (i := 6) rfl)) (by decide) (by decide)) (g := (mkF m 13 #[.val (.int x0), .val (.int x1), .val (.int ((x1 &&& (63 : Int32)) - (8 : Int32))), .unset, .unset] [(.int x0), (.int (own_f1_0 x0))])) rfl (by rw [hml]; rfl) (argsL := [(.int x0)]) (rest := [(.int (own_f1_0 x0))]) (lenOf own_pd0 rfl) rfl (by show 2 * 0 + _ ≤ _; exact Nat.le_of_eq rfl) (hb hby at_13) (fun _ _ => ⟨rfl, e1, (by decide : 0 + 0 ≤ _), (by decide : 0 + 0 ≤ _)⟩)
  dsimp only [Pt.U, Pt.locs, Pt.cells, Pt.slots] at X2 l2 y2 z2 st2 hQ2
  subst l2 y2 z2
  obtain ⟨rfl, N2q, e2⟩ := hQ2
  have N2 := Fr.app N1 N2q
  refine own_back (fun t k => st2 t k) ?_
  show own_Go _ _ _ _ _ _ _ (T2.setTop (mkF m 16 #[.val (.int x0), .val (.int x1), .val (.int ((x1 &&& (63 : Int32)) - (8 : Int32))), .unset, .unset] [(.int (own_f2_0 x0)), (.int (own_f1_0 x0))]))
  by_cases hc16 : (own_f1_0 x0) = (own_f2_0 x0)
  · rw [if_pos hc16] at hR
    refine own_back (fun t k => XS.icmpNo X2.here hx rfl (hb hby at_16) rfl (teq hc16).2 k) ?_
    show own_Go _ _ _ _ _ _ _ (T2.setTop (mkF m 19 #[.val (.int x0), .val (.int x1), .val (.int ((x1 &&& (63 : Int32)) - (8 : Int32))), .unset, .unset] []))
    refine own_back (fun t k => XS.iconst X2.here hx rfl (hb hby at_19) k) ?_
    show own_Go _ _ _ _ _ _ _ (T2.setTop (mkF m 20 #[.val (.int x0), .val (.int x1), .val (.int ((x1 &&& (63 : Int32)) - (8 : Int32))), .unset, .unset] [(.int (1 : Int32))]))
    refine own_back (fun t k => XS.goto X2.here hx rfl (pc0 := 20) (pc' := 24) rfl (hb hby at_20) (by decide) (by decide) k) ?_
    show own_Go _ _ _ _ _ _ _ (T2.setTop (mkF m 24 #[.val (.int x0), .val (.int x1), .val (.int ((x1 &&& (63 : Int32)) - (8 : Int32))), .unset, .unset] [(.int (1 : Int32))]))
    exact own_l0_24 X2 hx hZ hw hby hml hown hret hlk e2 N2 Z0 x0 x1 ((x1 &&& (63 : Int32)) - (8 : Int32)) (1 : Int32) hR
  · rw [if_neg hc16] at hR
    refine own_back (fun t k => XS.icmpYes X2.here hx rfl (pc0 := 16) (pc' := 23) rfl (hb hby at_16) rfl (feq hc16).2 (by decide) (by decide) k) ?_
    show own_Go _ _ _ _ _ _ _ (T2.setTop (mkF m 23 #[.val (.int x0), .val (.int x1), .val (.int ((x1 &&& (63 : Int32)) - (8 : Int32))), .unset, .unset] []))
    refine own_back (fun t k => XS.iconst X2.here hx rfl (hb hby at_23) k) ?_
    show own_Go _ _ _ _ _ _ _ (T2.setTop (mkF m 24 #[.val (.int x0), .val (.int x1), .val (.int ((x1 &&& (63 : Int32)) - (8 : Int32))), .unset, .unset] [(.int (0 : Int32))]))
    exact own_l0_24 X2 hx hZ hw hby hml hown hret hlk e2 N2 Z0 x0 x1 ((x1 &&& (63 : Int32)) - (8 : Int32)) (0 : Int32) hR
theorem own_pn0 : plainName "kartoteka/JsonIsWhitespacePinLaw" = true := by first | (simp [plainName, overriddenIn]; done) | decide +kernel
theorem own_ef0 (m : MethodId) (x0 : Int32) (x1 : Int32) : entryFrame m #[(.int x0), (.int x1)] maxLocals = mkF m 0 #[.val (.int x0), .val (.int x1), .unset, .unset, .unset] [] := by first | (simp [entryFrame, mkF, argsToLocals, Value.category, maxLocals]; done) | rfl
set_option maxRecDepth 65536 in
set_option maxHeartbeats 4000000 in
theorem own_rm0 (l : Launch) (Z : State) (a0 : Array Value) (hw : ∀ d ∈ tables_1, d.before a0 Z = true) (ws : List Jvm.Cond) (x0 : Int32) (x1 : Int32) (h0 : Heap) (n0 : Nat) (Z0 : n0 ≤ h0.size) :
    MetFree l x (head1 (Jvm.Cond.code x code maxLocals ret :: ws) room_1) (fun a U => a = #[(.int x0), (.int x1)] ∧ Z.Warmed39 U.vm ∧ U.heap = h0) (fun _ _ _ _ _ => True) (fun _ U o U' => ∃ v L, o = .returned v ∧ own_QP (.int (own_f0_0 x0 x1)) h0 n0 v U'.heap L ∧ FrameEnd U o U' L room_1.cells room_1.slots) := by
  refine MetFree.of_bodySF (plainFor_of_name own_pn0) hisR ?_
  intro p e s m args below meth c s₁ Bd hml0 hP hK
  obtain ⟨rfl, hZ, hh⟩ := hP
  have X0 : Stand p l e room_1 s m #[(.int x0), (.int x1)] below meth c s₁ [] 0 0 := Stand.of_body Bd
  have e0 : s₁.heap = h0 := by rw [← hh, Bd.state]; rfl
  refine own_back (s := s) (fun t k => castTop (own_ef0 m x0 x1) k) ?_
  exact own_l0_0 X0 Bd.exec hZ hw Bd.bytes hml0 (findClass_of_methodNamed Bd.named) Bd.returns (BodyLoose.notSynchronized Bd) e0 (Fr.nil n0) Z0 x0 x1 rfl
theorem own_small {x : Int32} {k : Nat} (hk : k < 2147483648) (h1 : ¬ x < 0) (h2 : x.toInt < k) : ∃ n : Nat, n < k ∧ x = Int32.ofNat n := by
  have z : (0 : Int32).toInt = 0 := rfl
  rw [Int32.lt_iff_toInt_lt, z] at h1
  refine ⟨x.toInt.toNat, by omega, Int32.toInt_inj.mp ?_⟩
  rw [Int32.toInt_ofNat_of_lt (by omega)]
  omega
theorem own_lt {x y : Int32} : x < y ↔ x.toInt < y.toInt := Int32.lt_iff_toInt_lt
theorem own_ne {x : Int32} {k : Int} (c : Int32) (hc : c.toInt = k) (h : x.toInt ≠ k) : ¬ x = c := fun q => h (by rw [q]; exact hc)
theorem own_ws (x : Int32) : own_f1_0 x = own_f2_0 x := by
  by_cases h1 : x < 0
  · have z := own_lt.mp h1
    have z0 : (0 : Int32).toInt = 0 := rfl
    unfold own_f1_0 own_f2_0
    rw [if_neg (own_ne (k := 32) 32 rfl (by omega)), if_neg (own_ne (k := 9) 9 rfl (by omega)), if_neg (own_ne (k := 10) 10 rfl (by omega)), if_neg (own_ne (k := 13) 13 rfl (by omega)), if_pos h1]
  · by_cases h2 : x.toInt < 33
    · obtain ⟨n, hn, rfl⟩ := own_small (k := 33) (by decide) h1 h2
      exact (by decide +kernel : ∀ n : Fin 33, own_f1_0 (Int32.ofNat n.val) = own_f2_0 (Int32.ofNat n.val)) ⟨n, hn⟩
    · unfold own_f1_0 own_f2_0
      rw [if_neg (own_ne (k := 32) 32 rfl (by omega)), if_neg (own_ne (k := 9) 9 rfl (by omega)), if_neg (own_ne (k := 10) 10 rfl (by omega)), if_neg (own_ne (k := 13) 13 rfl (by omega)), if_neg h1]
      rw [if_pos (own_lt.mpr (by have z : (32 : Int32).toInt = 32 := rfl; omega))]
theorem own_plain (x y : Int32) : own_f0_0 x y = 1 := by
  unfold own_f0_0
  rw [if_pos (own_ws _)]
  unfold own_f0_24
  rw [if_pos (own_ws _)]
  unfold own_f0_41
  rw [if_neg (by decide), if_neg (by decide)]
set_option maxRecDepth 65536 in
set_option maxHeartbeats 4000000 in
theorem own_comes {Post : Tables → Env → Array Value → State → Outcome → State → Prop} (hpost : ∀ tb e args s v u, (limb_1_1.after args s (.returned v) u = true ∧ limb_1_2.after args s (.returned v) u = true) → FrameEnd s (.returned v) u (Jvm.fieldLocs frame_1_writes args s ++ Jvm.arrayLocs frame_1_arrays args s ++ Jvm.staticLocs frame_1_statics s) 0 0 → Post tb e args s (.returned v) u) :
    ArmFor flags0 classFile x code maxLocals ret World_1 tables_1 room_1 Calls_1 rest_1 Pre_1 Post := by
  intro l hfl _ _ p e ha hc hk s m args below hf hA hF happ hP
  obtain ⟨hcalls, hrest, hpre⟩ := hP
  obtain ⟨-, -, -, hnamed, -, -, -, hat⟩ := (Spec.applies_iff hf).mp happ
  obtain ⟨hg, hn⟩ := and_e (Cond.before_iff.mp (show (Jvm.Cond.and given_1 narrow_1).before args s = true from hpre))
  obtain ⟨hcnt, hg0⟩ := and_e hg
  obtain ⟨ha0, hg1⟩ := and_e hg0
  have ha1 := hg1
  obtain ⟨w0, w1, rfl⟩ : ∃ w0 w1 : Value, args = #[w0, w1] := by
    have hs : args.size = 2 := by simpa [Cond.value, given_1] using hcnt
    obtain ⟨L⟩ := args
    match L, hs with
    | [w0, w1], _ => exact ⟨w0, w1, rfl⟩
  have hw := fun d (hd : d ∈ tables_1) => atoms_spec (ws := Jvm.Cond.code x code maxLocals ret :: tables_1) hat d (List.mem_cons_of_mem _ hd)
  obtain ⟨v0, ev0⟩ := is_v ha0
  obtain rfl : w0 = (.int v0) := Option.some.inj ev0
  obtain ⟨v1, ev1⟩ := is_v ha1
  obtain rfl : w1 = (.int v1) := Option.some.inj ev1
  obtain ⟨n, o, h1, h2, h3, _, L, rfl, ⟨rfl, N, _⟩, hq⟩ := own_rm0 l s _ hw tables_1 v0 v1 s.heap s.heap.size (Nat.le_refl _) p e ha hc hk s m _ below hf ((Spec.applies_iff_loose hf).mp happ).1 ⟨rfl, State.Warmed39.refl s, rfl⟩ trivial
  refine ⟨n, _, h1, h2, h3, hpost _ _ _ _ _ _ ⟨Cond.after_iff.mpr rfl, Cond.after_iff.mpr (eq_i res_at (Term.int_eval (1)) (congrArg Value.int (own_plain v0 v1)))⟩ ⟨hq.1, hq.2.1, (hq.2.2.sift fun y hy => Or.inr (N y hy)).mono (by decide) (by decide)⟩⟩
theorem main_1_1 : Claimed_1_1 := own_comes fun _ _ _ _ _ _ h hF => ⟨h.1, hF⟩
theorem main_1_2 : Claimed_1_2 := own_comes fun _ _ _ _ _ _ h hF => ⟨h.2, hF⟩
end Jvm.Pilot.@@N@@
namespace Jvm.Pilot.@@N@@
open Jvm Jvm.ClassFile Sem Op Lib Jvm.Free Jvm.Stand Jvm.Pilot.@@N@@.Jvm.D
/-! MADE BY PROGRAM (witnessworld.py) out of the Statement's table words and the real class files: 9 classes; the members and pool entries that the words name. The judged class is class 1, her method 2. -/
namespace start1
open Jvm.ClassFile
def u (s : String) : CpInfo := .utf8 (stringToUtf16 s)
/-- a pool by its gaps: so many unusable entries, then the entry; so many at the end -/
def gap : Nat → List CpInfo → List CpInfo
  | 0, r => r
  | n + 1, r => .unusable :: gap n r
def poolList (es : List (Nat × CpInfo)) (last : Nat) : List CpInfo := es.foldr (fun e r => gap e.1 (e.2 :: r)) (gap last [])
def pool (es : List (Nat × CpInfo)) (last : Nat) : Array CpInfo := ⟨poolList es last⟩
def fileOf (pool : Array CpInfo) (this : Nat) (attrs : Array Attribute := #[]) (ms : Array MethodInfo := #[]) (fl : Nat := 33) (sup : Nat := 0) (ifs : Array Nat := #[]) (fds : Array FieldInfo := #[]) : ClassFile where
  minorVersion := 0
  majorVersion := 65
  constantPool := pool
  accessFlags := fl
  thisClass := this
  superClass := sup
  interfaces := ifs
  fields := fds
  methods := ms
  attributes := attrs
def plain (name : String) (sup : Option ClassId) : Class where
  name := name
  kind := .ordinary
  loader := none
  accessFlags := 33
  super := sup
  interfaces := #[]
  cf := none
  fields := #[]
  methods := #[]
  instanceTypes := #[]
  staticTypes := #[]
  resolved := #[]
  callSites := []
  init := .initialized
  statics := none
  mirror := none

def pool0 : Array CpInfo := pool [(5, u "<init>"), (0, u "()V"), (1, .class_ 10), (1, u "java/lang/Object")] 113

def k0m0 : Method := { name := "<init>", desc := "()V", sig := { parameters := [], returnType := none }, accessFlags := 1, code := none }
/-- java/lang/Object -/
def k0 : Class := { plain "java/lang/Object" none with
  accessFlags := 33
  interfaces := #[]
  cf := some (fileOf pool0 8 #[] #[{ accessFlags := 1, nameIndex := 5, descriptorIndex := 6, attributes := #[] }] 33 0 #[] #[])
  fields := #[]
  methods := #[k0m0]
  instanceTypes := #[]
  staticTypes := #[]
  resolved := Array.replicate 124 none
  statics := none }

def pool1 : Array CpInfo := pool [(2, .class_ 4), (1, u "java/lang/Object"), (0, u "<init>"), (0, u "()V"), (0, .long 4294977024), (1, .methodref 10 11), (0, .class_ 12), (0, .nameAndType 13 14), (0, u "kartoteka/Json"), (0, u "isWhitespace"), (0, u "(I)Z"), (0, .methodref 16 17), (0, .class_ 18), (0, .nameAndType 19 14), (0, u "kartoteka/JsonIsWhitespacePinLaw"), (0, u "ref"), (3, u "law"), (0, u "(II)Z")] 2

def k1m0 : Method := { name := "<init>", desc := "()V", sig := { parameters := [], returnType := none }, accessFlags := 2, code := none }
def k1c1 : Code := { maxStack := 4, maxLocals := 3, code := method_2_code, exceptionTable := #[], attributes := #[] }
def k1m1 : Method := { name := "ref", desc := "(I)Z", sig := { parameters := [.int], returnType := some .boolean }, accessFlags := 10, code := some k1c1 }
def k1c2 : Code := { maxStack := 2, maxLocals := 5, code := code, exceptionTable := #[], attributes := #[] }
def k1m2 : Method := { name := "law", desc := "(II)Z", sig := { parameters := [.int, .int], returnType := some .boolean }, accessFlags := 9, code := some k1c2 }
/-- kartoteka/JsonIsWhitespacePinLaw -/
def k1 : Class := { plain "kartoteka/JsonIsWhitespacePinLaw" (some 0) with
  accessFlags := 49
  interfaces := #[]
  cf := some (fileOf pool1 16 #[] #[{ accessFlags := 2, nameIndex := 5, descriptorIndex := 6, attributes := #[] }, { accessFlags := 10, nameIndex := 19, descriptorIndex := 14, attributes := #[] }, { accessFlags := 9, nameIndex := 23, descriptorIndex := 24, attributes := #[] }] 49 2 #[] #[])
  fields := #[]
  methods := #[k1m0, k1m1, k1m2]
  instanceTypes := #[]
  staticTypes := #[]
  resolved := Array.replicate 27 none
  statics := none }

def pool2 : Array CpInfo := pool [(2, .class_ 4), (1, u "java/lang/Object"), (3, .class_ 10), (1, u "kartoteka/Json"), (0, u "text"), (0, u "Ljava/lang/String;"), (12, u "position"), (0, u "I"), (22, .class_ 50), (0, u "kartoteka/Json$Numeral"), (108, u "depth"), (62, u "isWhitespace"), (0, u "(I)Z"), (2, .class_ 227), (0, u "kartoteka/Json$SyntaxException"), (11, u "MAX_DEPTH")] 45

def k2c0 : Code := { maxStack := 2, maxLocals := 1, code := prog_26_method_16_code, exceptionTable := #[], attributes := #[] }
def k2m0 : Method := { name := "isWhitespace", desc := "(I)Z", sig := { parameters := [.int], returnType := some .boolean }, accessFlags := 8, code := some k2c0 }
/-- kartoteka/Json -/
def k2 : Class := { plain "kartoteka/Json" (some 0) with
  accessFlags := 48
  interfaces := #[]
  cf := some (fileOf pool2 8 #[.nestMembers #[226, 49]] #[{ accessFlags := 8, nameIndex := 222, descriptorIndex := 223, attributes := #[] }] 48 2 #[] #[{ accessFlags := 24, nameIndex := 239, descriptorIndex := 26, attributes := #[] }, { accessFlags := 18, nameIndex := 11, descriptorIndex := 12, attributes := #[] }, { accessFlags := 2, nameIndex := 25, descriptorIndex := 26, attributes := #[] }, { accessFlags := 2, nameIndex := 159, descriptorIndex := 26, attributes := #[] }])
  fields := #[{ name := "MAX_DEPTH", type := .int, accessFlags := 24, slot := 0, constantValue := 0 }, { name := "text", type := (.object "java/lang/String"), accessFlags := 18, slot := 0, constantValue := 0 }, { name := "position", type := .int, accessFlags := 2, slot := 1, constantValue := 0 }, { name := "depth", type := .int, accessFlags := 2, slot := 2, constantValue := 0 }]
  methods := #[k2m0]
  instanceTypes := #[(.object "java/lang/String"), .int, .int]
  staticTypes := #[.int]
  resolved := Array.replicate 285 none
  statics := none }

def pool3 : Array CpInfo := pool [(1, u "java/lang/Cloneable"), (0, .class_ 1), (0, u "java/lang/Object"), (0, .class_ 3)] 3

/-- java/lang/Cloneable -/
def k3 : Class := { plain "java/lang/Cloneable" (some 0) with
  accessFlags := 1537
  interfaces := #[]
  cf := some (fileOf pool3 2 #[] #[] 1537 4 #[] #[])
  fields := #[]
  methods := #[]
  instanceTypes := #[]
  staticTypes := #[]
  resolved := Array.replicate 8 none
  statics := none }

def pool4 : Array CpInfo := pool [(1, u "java/io/Serializable"), (0, .class_ 1), (0, u "java/lang/Object"), (0, .class_ 3)] 3

/-- java/io/Serializable -/
def k4 : Class := { plain "java/io/Serializable" (some 0) with
  accessFlags := 1537
  interfaces := #[]
  cf := some (fileOf pool4 2 #[] #[] 1537 4 #[] #[])
  fields := #[]
  methods := #[]
  instanceTypes := #[]
  staticTypes := #[]
  resolved := Array.replicate 8 none
  statics := none }

/-- the primitive byte -/
def k5 : Class := { plain "byte" none with kind := .primitive 'B', accessFlags := 0x411 }
/-- [B -/
def k6 : Class := { plain "[B" (some 0) with kind := .array 5 .byte, interfaces := #[3, 4], accessFlags := 1041 }

/-- the primitive int -/
def k7 : Class := { plain "int" none with kind := .primitive 'I', accessFlags := 0x411 }
/-- [I -/
def k8 : Class := { plain "[I" (some 0) with kind := .array 7 .int, interfaces := #[3, 4], accessFlags := 1041 }

def heap : Heap := #[]
def classes : Array Class := #[k0, k1, k2, k3, k4, k5, k6, k7, k8]
def interned : List (Array UInt16 × Addr) := []
def slotsUsed : Nat := 0
def theMethod : MethodId := ⟨1, 2⟩
def args0 : Array Value := #[.int 5, .int 7]
def aboutOver (below : List Frame) : State where
  vm := { classes := classes, interned := interned.toArray }
  heap := heap
  slotsUsed := slotsUsed
  threads := #[{ frames := .invoking theMethod args0 :: below }]
def below0 : List Frame := [.native { method := ⟨0, 0⟩, args := #[] }]
def about1 : State := aboutOver below0
def p0 : Program := .bare "" "" ""
def e0 : Env := launch0.env 0 0 0
theorem w_frames : about1.frames = Frame.invoking theMethod args0 :: below0 := rfl
set_option maxRecDepth 65536 in
theorem w_args : argsFit about1.vm theMethod args0 = true := by decide +kernel
set_option maxRecDepth 65536 in
theorem w_heap : heapFits about1 = true := by decide +kernel
set_option maxRecDepth 65536 in
theorem w_runnable : about1.curStatus? = some .runnable := by decide +kernel
set_option maxRecDepth 65536 in
theorem w_alone : about1.alone = true := by decide +kernel
set_option maxRecDepth 65536 in
theorem w_named : about1.methodNamed? x = some theMethod := by decide +kernel
set_option maxRecDepth 65536 in
theorem w_hears : about1.hears theMethod below0 = true := by decide +kernel
set_option maxRecDepth 65536 in
theorem w_ripe : about1.ripe theMethod args0 below0 = true := by decide +kernel
theorem w_running : about1.status = .running := rfl
set_option maxRecDepth 65536 in
theorem w_room : about1.hasRoom e0.platform room_1 = true :=
  launch0.hasRoom_least _ room_1 (by decide +kernel) (by decide +kernel) (by decide +kernel) (by decide +kernel) (by decide +kernel) (by decide +kernel)
theorem allAtoms_all (ts : List Jvm.Cond) (a : Array Jvm.Value) (st : Jvm.State) : (allAtoms ts).before a st = ts.all (fun c => c.before a st) := by
  induction ts with
  | nil => rfl
  | cons c t ih =>
    show (Jvm.Cond.and c (allAtoms t)).before a st = _
    rw [Jvm.Cond.before_and, ih, List.all_cons]
def words1 : List Jvm.Cond := Jvm.Cond.code x code maxLocals ret :: tables_1
/-- a 'code' word, met by the world's own term for the bytes: nothing is compared byte by byte -/
theorem code_word {y : MethodName} {bytes : ByteArray} {mx : Nat} {rt : Option FieldType} {a : Array Value} {s : State} {m : MethodId} {meth : Method} {c : Code} (h1 : s.methodNamed? y = some m) (h2 : s.vm.method? m = some meth) (h3 : meth.code = some c) (h4 : c.code = bytes)
    (h5 : (c.maxLocals == mx && c.exceptionTable.isEmpty && decide (c.maxStack ≤ mostOperands) && decide (meth.sig.returnType = rt) && !meth.locks && decide (parseMethodDescriptor y.desc = some meth.sig)) = true) : (Jvm.Cond.code y bytes mx rt).before a s = true := by
  simp only [Bool.and_eq_true, beq_iff_eq, Bool.not_eq_true', decide_eq_true_eq] at h5
  obtain ⟨⟨⟨⟨⟨g1, g2⟩, g3⟩, g4⟩, g5⟩, g6⟩ := h5
  simp [Cond.before, Cond.holds, Cond.value, h1, h2, h3, h4, g1, g2, g3, g4, g5, g6]
def isCode : Jvm.Cond → Bool
  | .code _ _ _ _ => true
  | _ => false
theorem all_split {L : List Jvm.Cond} {P : Jvm.Cond → Bool} (h1 : L.all (fun c => isCode c || P c) = true) (h2 : ∀ c ∈ L.filter isCode, P c = true) : L.all P = true := by
  refine List.all_eq_true.mpr fun c hc => ?_
  have h := List.all_eq_true.mp h1 c hc
  rcases Bool.eq_false_or_eq_true (isCode c) with hi | hi
  · exact h2 c (List.mem_filter.mpr ⟨hc, hi⟩)
  · simpa [hi] using h
set_option maxRecDepth 65536 in
theorem w_c0 : (Jvm.Cond.code x code maxLocals ret).before args0 about1 = true := code_word (m := ⟨1, 2⟩) (meth := k1m2) (c := k1c2) (by decide +kernel) rfl rfl rfl (by decide +kernel)
set_option maxRecDepth 65536 in
theorem w_c1 : (Jvm.Cond.code ({ cls := "kartoteka/Json", name := "isWhitespace", desc := "(I)Z" } : Jvm.MethodName) prog_26_method_16_code (1 : Nat) (Option.some Jvm.ClassFile.FieldType.boolean)).before args0 about1 = true := code_word (m := ⟨2, 0⟩) (meth := k2m0) (c := k2c0) (by decide +kernel) rfl rfl rfl (by decide +kernel)
set_option maxRecDepth 65536 in
theorem w_c2 : (Jvm.Cond.code ({ cls := "kartoteka/JsonIsWhitespacePinLaw", name := "ref", desc := "(I)Z" } : Jvm.MethodName) method_2_code (3 : Nat) (Option.some Jvm.ClassFile.FieldType.boolean)).before args0 about1 = true := code_word (m := ⟨1, 1⟩) (meth := k1m1) (c := k1c1) (by decide +kernel) rfl rfl rfl (by decide +kernel)
def codes1 : List Jvm.Cond := [Jvm.Cond.code x code maxLocals ret, Jvm.Cond.code ({ cls := "kartoteka/Json", name := "isWhitespace", desc := "(I)Z" } : Jvm.MethodName) prog_26_method_16_code (1 : Nat) (Option.some Jvm.ClassFile.FieldType.boolean), Jvm.Cond.code ({ cls := "kartoteka/JsonIsWhitespacePinLaw", name := "ref", desc := "(I)Z" } : Jvm.MethodName) method_2_code (3 : Nat) (Option.some Jvm.ClassFile.FieldType.boolean)]
set_option maxRecDepth 65536 in
theorem codes_eq : words1.filter isCode = codes1 := rfl
theorem w_codes : ∀ c ∈ words1.filter isCode, c.before args0 about1 = true := by
  rw [codes_eq]
  intro c hc
  simp only [codes1, List.mem_cons, List.not_mem_nil, or_false] at hc
  rcases hc with rfl | rfl | rfl
  · exact w_c0
  · exact w_c1
  · exact w_c2
set_option maxRecDepth 65536 in
theorem w_t1 : words1.all (fun c => isCode c || c.before args0 about1) = true := by decide +kernel
theorem w_tables : (allAtoms (Jvm.Cond.code x code maxLocals ret :: tables_1)).before args0 about1 = true := by
  rw [allAtoms_all]
  show words1.all (fun c => c.before args0 about1) = true
  refine all_split ?_ w_codes
  rw [w_t1]
set_option maxRecDepth 65536 in
theorem w_case : (Jvm.Cond.and given_1 narrow_1).before args0 about1 = true := by decide +kernel
theorem w_applies : (headSpec (Jvm.Cond.code x code maxLocals ret :: tables_1) room_1).applies x e0.platform about1 = true :=
  (Spec.applies_iff w_frames).mpr ⟨w_running, w_runnable, w_alone, w_named, w_hears, w_ripe, w_room, w_tables⟩
theorem atStart : AtStart classFile x code maxLocals ret World_1 tables_1 room_1 Calls_1 rest_1 Pre_1 launch0 p0 e0 about1 theMethod args0 below0 :=
  ⟨lists_1, trivial, launch0.admits_env _ _ _, launch0.least_env, fairChoices_fair.cas, fairChoices_fair.clock, w_frames, w_args, w_heap, w_applies, trivial, trivial, w_case⟩
end start1
theorem witness_1 : WitnessClaimed_1 := ⟨start1.p0, start1.e0, start1.about1, start1.theMethod, start1.args0, start1.below0, start1.atStart⟩
end Jvm.Pilot.@@N@@
