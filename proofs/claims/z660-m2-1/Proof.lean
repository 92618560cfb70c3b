import JvmDerived
import JvmDerived.Pilot.@@N@@Statement
import JvmDerived.Pilot.@@N@@Code
set_option linter.unusedVariables false
set_option linter.unusedSimpArgs false
namespace Jvm.Pilot.@@N@@
open Jvm Jvm.ClassFile Sem Op Lib Jvm.Free Jvm.Stand Jvm.LawKit Jvm.RoadKit Bundle Jvm.Pilot.@@N@@.Jvm.D
/-- from the state A the run comes to the method's end, and Q says what it left -/
def own_Go (p : Program) (e : Env) (below : List Frame) (s : State) (K M : Nat) (Q : Option Value → Heap → List Loc → Prop) (A : State) : Prop :=
  ∃ s₂ o, Steps p.tables e below A s₂ ∧ s₂.status = .running ∧ Ended s₂ below o ∧ ∃ v L, o = .returned v ∧ Q v s₂.heap L ∧ FrameEnd s o s₂ L K M
theorem own_back {p : Program} {e : Env} {below : List Frame} {s : State} {K M : Nat} {Q : Option Value → Heap → List Loc → Prop} {A B : State} (h : ∀ t, Steps p.tables e below B t → Steps p.tables e below A t) (g : own_Go p e below s K M Q B) : own_Go p e below s K M Q A := by
  obtain ⟨s₂, o, h1, h2⟩ := g
  exact ⟨s₂, o, h _ h1, h2⟩
theorem own_retN {p : Program} {l : Launch} {e : Env} {R : Room} {s : State} {m : MethodId} {args : Array Value} {below : List Frame} {meth : Method} {c : Code} {T : State} {locs : List Loc} {cells slots K M : Nat} {Q : Option Value → Heap → List Loc → Prop}
    (X : Stand p l e R s m args below meth c T locs cells slots) (hx : p.tables.exec = Jvm.exec) {pc : Nat} {Ls : Array Slot} {z r : Int32} {t : FieldType} {rest : List Value} (hret : meth.sig.returnType = some t) (ht : t = .boolean ∨ t = .byte ∨ t = .char ∨ t = .short) (hd : decode c.code pc = .ok (.ireturn, 1)) (hlk : meth.locks = false)
    (hr : nar t z = r) (hq : Q (some (.int r)) T.heap locs) (hK : cells ≤ K) (hM : slots ≤ M) : own_Go p e below s K M Q (T.setTop (mkF m pc Ls (.int z :: rest))) := by
  subst hr
  obtain ⟨fs, hr, hrun, hended, hW, hsame⟩ := X.leave (v := some (.int (nar t z))) (fun h => by rw [hret] at h; cases h)
  exact ⟨_, _, retN X hx hret ht hd hr, hrun, hended, _, _, rfl, hq, ⟨_, rfl⟩, hW, hsame.mono hK hM⟩
theorem own_retI {p : Program} {l : Launch} {e : Env} {R : Room} {s : State} {m : MethodId} {args : Array Value} {below : List Frame} {meth : Method} {c : Code} {T : State} {locs : List Loc} {cells slots K M : Nat} {Q : Option Value → Heap → List Loc → Prop}
    (X : Stand p l e R s m args below meth c T locs cells slots) (hx : p.tables.exec = Jvm.exec) {pc : Nat} {Ls : Array Slot} {z : Int32} {rest : List Value} (hret : meth.sig.returnType = some .int) (hd : decode c.code pc = .ok (.ireturn, 1)) (hlk : meth.locks = false)
    (hq : Q (some (.int z)) T.heap locs) (hK : cells ≤ K) (hM : slots ≤ M) : own_Go p e below s K M Q (T.setTop (mkF m pc Ls (.int z :: rest))) := by
  obtain ⟨fs, hr, hrun, hended, hW, hsame⟩ := X.leave (v := some (.int z)) (fun h => by rw [hret] at h; cases h)
  refine ⟨_, _, ?_, hrun, hended, _, _, rfl, hq, ⟨_, rfl⟩, hW, hsame.mono hK hM⟩
  have hm' : T.vm.method? m = some meth := X.method'
  have hn : narrow .int (.int z) = .int z := rfl
  show Steps p.tables e below (T.setTop { method := m, pc := pc, locals := Ls, stack := _ :: rest, locked := none }) _
  jvm_step X.here [X.here.top, hx, hd, hm', hret, hn]
  first | (intro acts; rw [hr _ acts rfl rfl rfl]) | rw [hr _ _ rfl rfl rfl]
  exact Steps.refl _
theorem own_retJ {p : Program} {l : Launch} {e : Env} {R : Room} {s : State} {m : MethodId} {args : Array Value} {below : List Frame} {meth : Method} {c : Code} {T : State} {locs : List Loc} {cells slots K M : Nat} {Q : Option Value → Heap → List Loc → Prop}
    (X : Stand p l e R s m args below meth c T locs cells slots) (hx : p.tables.exec = Jvm.exec) {pc : Nat} {Ls : Array Slot} {z : Int64} (hret : meth.sig.returnType = some .long) (hd : decode c.code pc = .ok (.lreturn, 1)) (hlk : meth.locks = false)
    (hq : Q (some (.long z)) T.heap locs) (hK : cells ≤ K) (hM : slots ≤ M) : own_Go p e below s K M Q (T.setTop (mkF m pc Ls [.long z])) := by
  obtain ⟨fs, hr, hrun, hended, hW, hsame⟩ := X.leave (v := some (.long z)) (fun h => by rw [hret] at h; cases h)
  exact ⟨_, _, X.lreturnOut hx hret hd hr, hrun, hended, _, _, rfl, hq, ⟨_, rfl⟩, hW, hsame.mono hK hM⟩
theorem own_retV {p : Program} {l : Launch} {e : Env} {R : Room} {s : State} {m : MethodId} {args : Array Value} {below : List Frame} {meth : Method} {c : Code} {T : State} {locs : List Loc} {cells slots K M : Nat} {Q : Option Value → Heap → List Loc → Prop}
    (X : Stand p l e R s m args below meth c T locs cells slots) (hx : p.tables.exec = Jvm.exec) {pc : Nat} {Ls : Array Slot} (hret : meth.sig.returnType = none) (hd : decode c.code pc = .ok (.return_, 1)) (hlk : meth.locks = false)
    (hq : Q none T.heap locs) (hK : cells ≤ K) (hM : slots ≤ M) : own_Go p e below s K M Q (T.setTop (mkF m pc Ls [])) := by
  obtain ⟨fs, hr, hrun, hended, hW, hsame⟩ := X.leave (v := none) (fun _ => rfl)
  exact ⟨_, _, X.returnOut hx hret hd hr, hrun, hended, _, _, rfl, hq, ⟨_, rfl⟩, hW, hsame.mono hK hM⟩
/-- the value returned, nothing old written, the heap as it was -/
def own_QP (w : Value) (h0 : Heap) (n0 : Nat) (v : Option Value) (h : Heap) (L : List Loc) : Prop := v = some w ∧ Fr n0 L ∧ h = h0
/-- the value returned, nothing old written, the heap no shorter -/
def own_QG (w : Value) (h0 : Heap) (n0 : Nat) (v : Option Value) (h : Heap) (L : List Loc) : Prop := v = some w ∧ Fr n0 L ∧ n0 ≤ h.size
/-! body 1: com/example/turnstile_chain/turnstilechain/patterns/CodePointSetIsAsciiOfPinLaw.reference:(CJJ)Z -/
theorem own_d1_0 : decode method_3_code 0 = .ok (.iload_n 0, 1) := by decide +kernel
theorem own_d1_1 : decode method_3_code 1 = .ok (.istore 5, 2) := by decide +kernel
theorem own_d1_3 : decode method_3_code 3 = .ok (.iload 5, 2) := by decide +kernel
theorem own_d1_5 : decode method_3_code 5 = .ok (.sipush 128, 3) := by decide +kernel
theorem own_d1_8 : decode method_3_code 8 = .ok (.if_icmp .lt 5, 3) := by decide +kernel
theorem own_d1_11 : decode method_3_code 11 = .ok (.iconst 0, 1) := by decide +kernel
theorem own_d1_12 : decode method_3_code 12 = .ok (.ireturn, 1) := by decide +kernel
theorem own_d1_13 : decode method_3_code 13 = .ok (.iload 5, 2) := by decide +kernel
theorem own_d1_15 : decode method_3_code 15 = .ok (.bipush 64, 2) := by decide +kernel
theorem own_d1_17 : decode method_3_code 17 = .ok (.if_icmp .lt 23, 3) := by decide +kernel
theorem own_d1_20 : decode method_3_code 20 = .ok (.lload_n 3, 1) := by decide +kernel
theorem own_d1_21 : decode method_3_code 21 = .ok (.iload 5, 2) := by decide +kernel
theorem own_d1_23 : decode method_3_code 23 = .ok (.bipush 64, 2) := by decide +kernel
theorem own_d1_25 : decode method_3_code 25 = .ok (.isub, 1) := by decide +kernel
theorem own_d1_26 : decode method_3_code 26 = .ok (.lushr, 1) := by decide +kernel
theorem own_d1_27 : decode method_3_code 27 = .ok (.lconst 1, 1) := by decide +kernel
theorem own_d1_28 : decode method_3_code 28 = .ok (.land, 1) := by decide +kernel
theorem own_d1_29 : decode method_3_code 29 = .ok (.lconst 1, 1) := by decide +kernel
theorem own_d1_30 : decode method_3_code 30 = .ok (.lcmp, 1) := by decide +kernel
theorem own_d1_31 : decode method_3_code 31 = .ok (.ifCond .ne 7, 3) := by decide +kernel
theorem own_d1_34 : decode method_3_code 34 = .ok (.iconst 1, 1) := by decide +kernel
theorem own_d1_35 : decode method_3_code 35 = .ok (.goto 4, 3) := by decide +kernel
theorem own_d1_38 : decode method_3_code 38 = .ok (.iconst 0, 1) := by decide +kernel
theorem own_d1_39 : decode method_3_code 39 = .ok (.ireturn, 1) := by decide +kernel
theorem own_d1_40 : decode method_3_code 40 = .ok (.lload_n 1, 1) := by decide +kernel
theorem own_d1_41 : decode method_3_code 41 = .ok (.iload 5, 2) := by decide +kernel
theorem own_d1_43 : decode method_3_code 43 = .ok (.lushr, 1) := by decide +kernel
theorem own_d1_44 : decode method_3_code 44 = .ok (.lconst 1, 1) := by decide +kernel
theorem own_d1_45 : decode method_3_code 45 = .ok (.land, 1) := by decide +kernel
theorem own_d1_46 : decode method_3_code 46 = .ok (.lconst 1, 1) := by decide +kernel
theorem own_d1_47 : decode method_3_code 47 = .ok (.lcmp, 1) := by decide +kernel
theorem own_d1_48 : decode method_3_code 48 = .ok (.ifCond .ne 7, 3) := by decide +kernel
theorem own_d1_51 : decode method_3_code 51 = .ok (.iconst 1, 1) := by decide +kernel
theorem own_d1_52 : decode method_3_code 52 = .ok (.goto 4, 3) := by decide +kernel
theorem own_d1_55 : decode method_3_code 55 = .ok (.iconst 0, 1) := by decide +kernel
theorem own_d1_56 : decode method_3_code 56 = .ok (.ireturn, 1) := by decide +kernel
def own_f1_0 (x0 : Int32) (x1 : Int64) (x2 : Int64) : Int32 := (if x0 < (128 : Int32) then (if x0 < (64 : Int32) then (if (lcmpW (((x1.toUInt64 >>> (x0 &&& 0x3f).toInt64.toUInt64).toInt64) &&& (1 : Int64)) (1 : Int64)) = (0 : Int32) then (1 : Int32) else (0 : Int32)) else (if (lcmpW (((x2.toUInt64 >>> ((x0 - (64 : Int32)) &&& 0x3f).toInt64.toUInt64).toInt64) &&& (1 : Int64)) (1 : Int64)) = (0 : Int32) then (1 : Int32) else (0 : Int32))) else (0 : Int32))
set_option maxRecDepth 65536 in
set_option maxHeartbeats 4000000 in
theorem own_l1_0 {p : Program} {l : Launch} {e : Env} {s : State} {m : MethodId} {args : Array Value} {below : List Frame} {meth : Method} {c : Code} {T : State} {locs : List Loc} {Z : State} {a0 : Array Value} {h0 : Heap} {n0 : Nat}
    (X : Stand p l e ({ frames := 0, cells := 0, slots := 0, locals := 0 } : Room) s m args below meth c T locs 0 0) (hx : p.tables.exec = Jvm.exec) (hZ : Z.Warmed39 s.vm) (hw : ∀ d ∈ tables_1, d.before a0 Z = true) (hby : c.code = method_3_code) (hml : c.maxLocals = 6) (hown : s.vm.findClass "com/example/turnstile_chain/turnstilechain/patterns/CodePointSetIsAsciiOfPinLaw" = some m.cls) (hret : meth.sig.returnType = some .boolean) (hlk : meth.locks = false) (e0 : T.heap = h0) (N : Fr n0 locs) (Z0 : n0 ≤ h0.size)
    (x0 : Int32) (x1 : Int64) (x2 : Int64) {r : Int32} (hR : r = own_f1_0 x0 x1 x2) : own_Go p e below s ({ frames := 0, cells := 0, slots := 0, locals := 0 } : Room).cells ({ frames := 0, cells := 0, slots := 0, locals := 0 } : Room).slots (own_QP (.int r) h0 n0) (T.setTop (mkF m 0 #[.val (.int x0), .val (.long x1), .second, .val (.long x2), .second, .unset] [])) := by
  unfold own_f1_0 at hR
  refine own_back (fun t k => XS.iloadN X.here hx rfl (hb hby own_d1_0) rfl k) ?_
  show own_Go _ _ _ _ _ _ _ (T.setTop (mkF m 1 #[.val (.int x0), .val (.long x1), .second, .val (.long x2), .second, .unset] [(.int x0)]))
  refine own_back (fun t k => XS.istore X.here hx rfl (hb hby own_d1_1) rfl (l' := #[.val (.int x0), .val (.long x1), .second, .val (.long x2), .second, .val (.int x0)]) rfl k) ?_
  show own_Go _ _ _ _ _ _ _ (T.setTop (mkF m 3 #[.val (.int x0), .val (.long x1), .second, .val (.long x2), .second, .val (.int x0)] []))
  refine own_back (fun t k => XS.iload X.here hx rfl (hb hby own_d1_3) rfl k) ?_
  show own_Go _ _ _ _ _ _ _ (T.setTop (mkF m 5 #[.val (.int x0), .val (.long x1), .second, .val (.long x2), .second, .val (.int x0)] [(.int x0)]))
  refine own_back (fun t k => XS.sipush X.here hx rfl (hb hby own_d1_5) k) ?_
  show own_Go _ _ _ _ _ _ _ (T.setTop (mkF m 8 #[.val (.int x0), .val (.long x1), .second, .val (.long x2), .second, .val (.int x0)] [(.int (128 : Int32)), (.int x0)]))
  by_cases hc8 : x0 < (128 : Int32)
  · rw [if_pos hc8] at hR
    refine own_back (fun t k => XS.icmpYes X.here hx rfl (pc0 := 8) (pc' := 13) rfl (hb hby own_d1_8) rfl (tlt hc8).1 (by decide) (by decide) k) ?_
    show own_Go _ _ _ _ _ _ _ (T.setTop (mkF m 13 #[.val (.int x0), .val (.long x1), .second, .val (.long x2), .second, .val (.int x0)] []))
    refine own_back (fun t k => XS.iload X.here hx rfl (hb hby own_d1_13) rfl k) ?_
    show own_Go _ _ _ _ _ _ _ (T.setTop (mkF m 15 #[.val (.int x0), .val (.long x1), .second, .val (.long x2), .second, .val (.int x0)] [(.int x0)]))
    refine own_back (fun t k => XS.bipush X.here hx rfl (hb hby own_d1_15) k) ?_
    show own_Go _ _ _ _ _ _ _ (T.setTop (mkF m 17 #[.val (.int x0), .val (.long x1), .second, .val (.long x2), .second, .val (.int x0)] [(.int (64 : Int32)), (.int x0)]))
    by_cases hc17 : x0 < (64 : Int32)
    · rw [if_pos hc17] at hR
      refine own_back (fun t k => XS.icmpYes X.here hx rfl (pc0 := 17) (pc' := 40) rfl (hb hby own_d1_17) rfl (tlt hc17).1 (by decide) (by decide) k) ?_
      show own_Go _ _ _ _ _ _ _ (T.setTop (mkF m 40 #[.val (.int x0), .val (.long x1), .second, .val (.long x2), .second, .val (.int x0)] []))
      refine own_back (fun t k => XS.lloadN X.here hx rfl (hb hby own_d1_40) rfl k) ?_
      show own_Go _ _ _ _ _ _ _ (T.setTop (mkF m 41 #[.val (.int x0), .val (.long x1), .second, .val (.long x2), .second, .val (.int x0)] [(.long x1)]))
      refine own_back (fun t k => XS.iload X.here hx rfl (hb hby own_d1_41) rfl k) ?_
      show own_Go _ _ _ _ _ _ _ (T.setTop (mkF m 43 #[.val (.int x0), .val (.long x1), .second, .val (.long x2), .second, .val (.int x0)] [(.int x0), (.long x1)]))
      refine own_back (fun t k => XS.lushr X.here hx rfl (hb hby own_d1_43) rfl k) ?_
      show own_Go _ _ _ _ _ _ _ (T.setTop (mkF m 44 #[.val (.int x0), .val (.long x1), .second, .val (.long x2), .second, .val (.int x0)] [(.long ((x1.toUInt64 >>> (x0 &&& 0x3f).toInt64.toUInt64).toInt64))]))
      refine own_back (fun t k => XS.lconst X.here hx rfl (hb hby own_d1_44) k) ?_
      show own_Go _ _ _ _ _ _ _ (T.setTop (mkF m 45 #[.val (.int x0), .val (.long x1), .second, .val (.long x2), .second, .val (.int x0)] [(.long (1 : Int64)), (.long ((x1.toUInt64 >>> (x0 &&& 0x3f).toInt64.toUInt64).toInt64))]))
      refine own_back (fun t k => XS.land X.here hx rfl (hb hby own_d1_45) rfl k) ?_
      show own_Go _ _ _ _ _ _ _ (T.setTop (mkF m 46 #[.val (.int x0), .val (.long x1), .second, .val (.long x2), .second, .val (.int x0)] [(.long (((x1.toUInt64 >>> (x0 &&& 0x3f).toInt64.toUInt64).toInt64) &&& (1 : Int64)))]))
      refine own_back (fun t k => XS.lconst X.here hx rfl (hb hby own_d1_46) k) ?_
      show own_Go _ _ _ _ _ _ _ (T.setTop (mkF m 47 #[.val (.int x0), .val (.long x1), .second, .val (.long x2), .second, .val (.int x0)] [(.long (1 : Int64)), (.long (((x1.toUInt64 >>> (x0 &&& 0x3f).toInt64.toUInt64).toInt64) &&& (1 : Int64)))]))
      refine own_back (fun t k => XS.lcmp X.here hx rfl (hb hby own_d1_47) rfl k) ?_
      show own_Go _ _ _ _ _ _ _ (T.setTop (mkF m 48 #[.val (.int x0), .val (.long x1), .second, .val (.long x2), .second, .val (.int x0)] [(.int (lcmpW (((x1.toUInt64 >>> (x0 &&& 0x3f).toInt64.toUInt64).toInt64) &&& (1 : Int64)) (1 : Int64)))]))
      by_cases hc48 : (lcmpW (((x1.toUInt64 >>> (x0 &&& 0x3f).toInt64.toUInt64).toInt64) &&& (1 : Int64)) (1 : Int64)) = (0 : Int32)
      · rw [if_pos hc48] at hR
        refine own_back (fun t k => XS.ifNo X.here hx rfl (hb hby own_d1_48) rfl ((if0 _ _).trans (teq hc48).2) k) ?_
        show own_Go _ _ _ _ _ _ _ (T.setTop (mkF m 51 #[.val (.int x0), .val (.long x1), .second, .val (.long x2), .second, .val (.int x0)] []))
        refine own_back (fun t k => XS.iconst X.here hx rfl (hb hby own_d1_51) k) ?_
        show own_Go _ _ _ _ _ _ _ (T.setTop (mkF m 52 #[.val (.int x0), .val (.long x1), .second, .val (.long x2), .second, .val (.int x0)] [(.int (1 : Int32))]))
        refine own_back (fun t k => XS.goto X.here hx rfl (pc0 := 52) (pc' := 56) rfl (hb hby own_d1_52) (by decide) (by decide) k) ?_
        show own_Go _ _ _ _ _ _ _ (T.setTop (mkF m 56 #[.val (.int x0), .val (.long x1), .second, .val (.long x2), .second, .val (.int x0)] [(.int (1 : Int32))]))
        subst hR
        exact own_retN X hx (t := .boolean) hret (by simp) (hb hby own_d1_56) hlk (by decide) ⟨rfl, N, e0⟩ (by decide) (by decide)
      · rw [if_neg hc48] at hR
        refine own_back (fun t k => XS.ifYes X.here hx rfl (pc0 := 48) (pc' := 55) rfl (hb hby own_d1_48) rfl ((if0 _ _).trans (feq hc48).2) (by decide) (by decide) k) ?_
        show own_Go _ _ _ _ _ _ _ (T.setTop (mkF m 55 #[.val (.int x0), .val (.long x1), .second, .val (.long x2), .second, .val (.int x0)] []))
        refine own_back (fun t k => XS.iconst X.here hx rfl (hb hby own_d1_55) k) ?_
        show own_Go _ _ _ _ _ _ _ (T.setTop (mkF m 56 #[.val (.int x0), .val (.long x1), .second, .val (.long x2), .second, .val (.int x0)] [(.int (0 : Int32))]))
        subst hR
        exact own_retN X hx (t := .boolean) hret (by simp) (hb hby own_d1_56) hlk (by decide) ⟨rfl, N, e0⟩ (by decide) (by decide)
    · rw [if_neg hc17] at hR
      refine own_back (fun t k => XS.icmpNo X.here hx rfl (hb hby own_d1_17) rfl (flt hc17).1 k) ?_
      show own_Go _ _ _ _ _ _ _ (T.setTop (mkF m 20 #[.val (.int x0), .val (.long x1), .second, .val (.long x2), .second, .val (.int x0)] []))
      refine own_back (fun t k => XS.lloadN X.here hx rfl (hb hby own_d1_20) rfl k) ?_
      show own_Go _ _ _ _ _ _ _ (T.setTop (mkF m 21 #[.val (.int x0), .val (.long x1), .second, .val (.long x2), .second, .val (.int x0)] [(.long x2)]))
      refine own_back (fun t k => XS.iload X.here hx rfl (hb hby own_d1_21) rfl k) ?_
      show own_Go _ _ _ _ _ _ _ (T.setTop (mkF m 23 #[.val (.int x0), .val (.long x1), .second, .val (.long x2), .second, .val (.int x0)] [(.int x0), (.long x2)]))
      refine own_back (fun t k => XS.bipush X.here hx rfl (hb hby own_d1_23) k) ?_
      show own_Go _ _ _ _ _ _ _ (T.setTop (mkF m 25 #[.val (.int x0), .val (.long x1), .second, .val (.long x2), .second, .val (.int x0)] [(.int (64 : Int32)), (.int x0), (.long x2)]))
      refine own_back (fun t k => XS.isub X.here hx rfl (hb hby own_d1_25) rfl k) ?_
      show own_Go _ _ _ _ _ _ _ (T.setTop (mkF m 26 #[.val (.int x0), .val (.long x1), .second, .val (.long x2), .second, .val (.int x0)] [(.int (x0 - (64 : Int32))), (.long x2)]))
      refine own_back (fun t k => XS.lushr X.here hx rfl (hb hby own_d1_26) rfl k) ?_
      show own_Go _ _ _ _ _ _ _ (T.setTop (mkF m 27 #[.val (.int x0), .val (.long x1), .second, .val (.long x2), .second, .val (.int x0)] [(.long ((x2.toUInt64 >>> ((x0 - (64 : Int32)) &&& 0x3f).toInt64.toUInt64).toInt64))]))
      refine own_back (fun t k => XS.lconst X.here hx rfl (hb hby own_d1_27) k) ?_
      show own_Go _ _ _ _ _ _ _ (T.setTop (mkF m 28 #[.val (.int x0), .val (.long x1), .second, .val (.long x2), .second, .val (.int x0)] [(.long (1 : Int64)), (.long ((x2.toUInt64 >>> ((x0 - (64 : Int32)) &&& 0x3f).toInt64.toUInt64).toInt64))]))
      refine own_back (fun t k => XS.land X.here hx rfl (hb hby own_d1_28) rfl k) ?_
      show own_Go _ _ _ _ _ _ _ (T.setTop (mkF m 29 #[.val (.int x0), .val (.long x1), .second, .val (.long x2), .second, .val (.int x0)] [(.long (((x2.toUInt64 >>> ((x0 - (64 : Int32)) &&& 0x3f).toInt64.toUInt64).toInt64) &&& (1 : Int64)))]))
      refine own_back (fun t k => XS.lconst X.here hx rfl (hb hby own_d1_29) k) ?_
      show own_Go _ _ _ _ _ _ _ (T.setTop (mkF m 30 #[.val (.int x0), .val (.long x1), .second, .val (.long x2), .second, .val (.int x0)] [(.long (1 : Int64)), (.long (((x2.toUInt64 >>> ((x0 - (64 : Int32)) &&& 0x3f).toInt64.toUInt64).toInt64) &&& (1 : Int64)))]))
      refine own_back (fun t k => XS.lcmp X.here hx rfl (hb hby own_d1_30) rfl k) ?_
      show own_Go _ _ _ _ _ _ _ (T.setTop (mkF m 31 #[.val (.int x0), .val (.long x1), .second, .val (.long x2), .second, .val (.int x0)] [(.int (lcmpW (((x2.toUInt64 >>> ((x0 - (64 : Int32)) &&& 0x3f).toInt64.toUInt64).toInt64) &&& (1 : Int64)) (1 : Int64)))]))
      by_cases hc31 : (lcmpW (((x2.toUInt64 >>> ((x0 - (64 : Int32)) &&& 0x3f).toInt64.toUInt64).toInt64) &&& (1 : Int64)) (1 : Int64)) = (0 : Int32)
      · rw [if_pos hc31] at hR
        refine own_back (fun t k => XS.ifNo X.here hx rfl (hb hby own_d1_31) rfl ((if0 _ _).trans (teq hc31).2) k) ?_
        show own_Go _ _ _ _ _ _ _ (T.setTop (mkF m 34 #[.val (.int x0), .val (.long x1), .second, .val (.long x2), .second, .val (.int x0)] []))
        refine own_back (fun t k => XS.iconst X.here hx rfl (hb hby own_d1_34) k) ?_
        show own_Go _ _ _ _ _ _ _ (T.setTop (mkF m 35 #[.val (.int x0), .val (.long x1), .second, .val (.long x2), .second, .val (.int x0)] [(.int (1 : Int32))]))
        refine own_back (fun t k => XS.goto X.here hx rfl (pc0 := 35) (pc' := 39) rfl (hb hby own_d1_35) (by decide) (by decide) k) ?_
        show own_Go _ _ _ _ _ _ _ (T.setTop (mkF m 39 #[.val (.int x0), .val (.long x1), .second, .val (.long x2), .second, .val (.int x0)] [(.int (1 : Int32))]))
        subst hR
        exact own_retN X hx (t := .boolean) hret (by simp) (hb hby own_d1_39) hlk (by decide) ⟨rfl, N, e0⟩ (by decide) (by decide)
      · rw [if_neg hc31] at hR
        refine own_back (fun t k => XS.ifYes X.here hx rfl (pc0 := 31) (pc' := 38) rfl (hb hby own_d1_31) rfl ((if0 _ _).trans (feq hc31).2) (by decide) (by decide) k) ?_
        show own_Go _ _ _ _ _ _ _ (T.setTop (mkF m 38 #[.val (.int x0), .val (.long x1), .second, .val (.long x2), .second, .val (.int x0)] []))
        refine own_back (fun t k => XS.iconst X.here hx rfl (hb hby own_d1_38) k) ?_
        show own_Go _ _ _ _ _ _ _ (T.setTop (mkF m 39 #[.val (.int x0), .val (.long x1), .second, .val (.long x2), .second, .val (.int x0)] [(.int (0 : Int32))]))
        subst hR
        exact own_retN X hx (t := .boolean) hret (by simp) (hb hby own_d1_39) hlk (by decide) ⟨rfl, N, e0⟩ (by decide) (by decide)
  · rw [if_neg hc8] at hR
    refine own_back (fun t k => XS.icmpNo X.here hx rfl (hb hby own_d1_8) rfl (flt hc8).1 k) ?_
    show own_Go _ _ _ _ _ _ _ (T.setTop (mkF m 11 #[.val (.int x0), .val (.long x1), .second, .val (.long x2), .second, .val (.int x0)] []))
    refine own_back (fun t k => XS.iconst X.here hx rfl (hb hby own_d1_11) k) ?_
    show own_Go _ _ _ _ _ _ _ (T.setTop (mkF m 12 #[.val (.int x0), .val (.long x1), .second, .val (.long x2), .second, .val (.int x0)] [(.int (0 : Int32))]))
    subst hR
    exact own_retN X hx (t := .boolean) hret (by simp) (hb hby own_d1_12) hlk (by decide) ⟨rfl, N, e0⟩ (by decide) (by decide)
theorem own_pn1 : plainName "com/example/turnstile_chain/turnstilechain/patterns/CodePointSetIsAsciiOfPinLaw" = true := by first | (simp [plainName, overriddenIn]; done) | decide +kernel
theorem own_ef1 (m : MethodId) (x0 : Int32) (x1 : Int64) (x2 : Int64) : entryFrame m #[(.int x0), (.long x1), (.long x2)] 6 = mkF m 0 #[.val (.int x0), .val (.long x1), .second, .val (.long x2), .second, .unset] [] := by first | (simp [entryFrame, mkF, argsToLocals, Value.category]; done) | rfl
set_option maxRecDepth 65536 in
set_option maxHeartbeats 4000000 in
theorem own_rm1 (l : Launch) (Z : State) (a0 : Array Value) (hw : ∀ d ∈ tables_1, d.before a0 Z = true) (ws : List Jvm.Cond) (x0 : Int32) (x1 : Int64) (x2 : Int64) (h0 : Heap) (n0 : Nat) (Z0 : n0 ≤ h0.size) :
    MetFree l (⟨"com/example/turnstile_chain/turnstilechain/patterns/CodePointSetIsAsciiOfPinLaw", "reference", "(CJJ)Z"⟩ : MethodName) (head1 (Jvm.Cond.code (⟨"com/example/turnstile_chain/turnstilechain/patterns/CodePointSetIsAsciiOfPinLaw", "reference", "(CJJ)Z"⟩ : MethodName) method_3_code 6 (some .boolean) :: ws) ({ frames := 0, cells := 0, slots := 0, locals := 0 } : Room)) (fun a U => a = #[(.int x0), (.long x1), (.long x2)] ∧ Z.Warmed39 U.vm ∧ U.heap = h0) (fun _ _ _ _ _ => True) (fun _ U o U' => ∃ v L, o = .returned v ∧ own_QP (.int (own_f1_0 x0 x1 x2)) h0 n0 v U'.heap L ∧ FrameEnd U o U' L ({ frames := 0, cells := 0, slots := 0, locals := 0 } : Room).cells ({ frames := 0, cells := 0, slots := 0, locals := 0 } : Room).slots) := by
  refine MetFree.of_bodySF (plainFor_of_name own_pn1) hisR ?_
  intro p e s m args below meth c s₁ Bd hml0 hP hK
  obtain ⟨rfl, hZ, hh⟩ := hP
  have X0 : Stand p l e ({ frames := 0, cells := 0, slots := 0, locals := 0 } : Room) s m #[(.int x0), (.long x1), (.long x2)] below meth c s₁ [] 0 0 := Stand.of_body Bd
  have e0 : s₁.heap = h0 := by rw [← hh, Bd.state]; rfl
  refine own_back (s := s) (fun t k => castTop (own_ef1 m x0 x1 x2) k) ?_
  exact own_l1_0 X0 Bd.exec hZ hw Bd.bytes hml0 (findClass_of_methodNamed Bd.named) Bd.returns (BodyLoose.notSynchronized Bd) e0 (Fr.nil n0) Z0 x0 x1 x2 rfl
/-! body 2: com/example/turnstile_chain/turnstilechain/patterns/CodePointSet.isAsciiOf:(CJJ)Z -/
theorem own_d2_0 : decode prog_16_method_9_code 0 = .ok (.iload_n 0, 1) := by decide +kernel
theorem own_d2_1 : decode prog_16_method_9_code 1 = .ok (.bipush 64, 2) := by decide +kernel
theorem own_d2_3 : decode prog_16_method_9_code 3 = .ok (.if_icmp .ge 7, 3) := by decide +kernel
theorem own_d2_6 : decode prog_16_method_9_code 6 = .ok (.lload_n 1, 1) := by decide +kernel
theorem own_d2_7 : decode prog_16_method_9_code 7 = .ok (.goto 4, 3) := by decide +kernel
theorem own_d2_10 : decode prog_16_method_9_code 10 = .ok (.lload_n 3, 1) := by decide +kernel
theorem own_d2_11 : decode prog_16_method_9_code 11 = .ok (.lstore 5, 2) := by decide +kernel
theorem own_d2_13 : decode prog_16_method_9_code 13 = .ok (.iload_n 0, 1) := by decide +kernel
theorem own_d2_14 : decode prog_16_method_9_code 14 = .ok (.sipush 128, 3) := by decide +kernel
theorem own_d2_17 : decode prog_16_method_9_code 17 = .ok (.if_icmp .ge 18, 3) := by decide +kernel
theorem own_d2_20 : decode prog_16_method_9_code 20 = .ok (.lload 5, 2) := by decide +kernel
theorem own_d2_22 : decode prog_16_method_9_code 22 = .ok (.lconst 1, 1) := by decide +kernel
theorem own_d2_23 : decode prog_16_method_9_code 23 = .ok (.iload_n 0, 1) := by decide +kernel
theorem own_d2_24 : decode prog_16_method_9_code 24 = .ok (.lshl, 1) := by decide +kernel
theorem own_d2_25 : decode prog_16_method_9_code 25 = .ok (.land, 1) := by decide +kernel
theorem own_d2_26 : decode prog_16_method_9_code 26 = .ok (.lconst 0, 1) := by decide +kernel
theorem own_d2_27 : decode prog_16_method_9_code 27 = .ok (.lcmp, 1) := by decide +kernel
theorem own_d2_28 : decode prog_16_method_9_code 28 = .ok (.ifCond .eq 7, 3) := by decide +kernel
theorem own_d2_31 : decode prog_16_method_9_code 31 = .ok (.iconst 1, 1) := by decide +kernel
theorem own_d2_32 : decode prog_16_method_9_code 32 = .ok (.goto 4, 3) := by decide +kernel
theorem own_d2_35 : decode prog_16_method_9_code 35 = .ok (.iconst 0, 1) := by decide +kernel
theorem own_d2_36 : decode prog_16_method_9_code 36 = .ok (.ireturn, 1) := by decide +kernel
def own_f2_11 (i0 : Int32) (i1 : Int64) (i3 : Int64) (t0 : Int64) : Int32 := (if i0 < (128 : Int32) then (if (lcmpW (t0 &&& ((1 : Int64) <<< (i0 &&& 0x3f).toInt64)) (0 : Int64)) = (0 : Int32) then (0 : Int32) else (1 : Int32)) else (0 : Int32))
def own_f2_0 (x0 : Int32) (x1 : Int64) (x2 : Int64) : Int32 := (if x0 < (64 : Int32) then (own_f2_11 x0 x1 x2 x1) else (own_f2_11 x0 x1 x2 x2))
set_option maxRecDepth 65536 in
set_option maxHeartbeats 4000000 in
theorem own_l2_11 {p : Program} {l : Launch} {e : Env} {s : State} {m : MethodId} {args : Array Value} {below : List Frame} {meth : Method} {c : Code} {T : State} {locs : List Loc} {Z : State} {a0 : Array Value} {h0 : Heap} {n0 : Nat}
    (X : Stand p l e ({ frames := 0, cells := 0, slots := 0, locals := 0 } : Room) s m args below meth c T locs 0 0) (hx : p.tables.exec = Jvm.exec) (hZ : Z.Warmed39 s.vm) (hw : ∀ d ∈ tables_1, d.before a0 Z = true) (hby : c.code = prog_16_method_9_code) (hml : c.maxLocals = 7) (hown : s.vm.findClass "com/example/turnstile_chain/turnstilechain/patterns/CodePointSet" = some m.cls) (hret : meth.sig.returnType = some .boolean) (hlk : meth.locks = false) (e0 : T.heap = h0) (N : Fr n0 locs) (Z0 : n0 ≤ h0.size)
    (i0 : Int32) (i1 : Int64) (i3 : Int64) (t0 : Int64) {r : Int32} (hR : r = own_f2_11 i0 i1 i3 t0) : own_Go p e below s ({ frames := 0, cells := 0, slots := 0, locals := 0 } : Room).cells ({ frames := 0, cells := 0, slots := 0, locals := 0 } : Room).slots (own_QP (.int r) h0 n0) (T.setTop (mkF m 11 #[.val (.int i0), .val (.long i1), .second, .val (.long i3), .second, .unset, .unset] [(.long t0)])) := by
  unfold own_f2_11 at hR
  refine own_back (fun t k => XS.lstore X.here hx rfl (hb hby own_d2_11) rfl (l' := #[.val (.int i0), .val (.long i1), .second, .val (.long i3), .second, .val (.long t0), .second]) rfl k) ?_
  show own_Go _ _ _ _ _ _ _ (T.setTop (mkF m 13 #[.val (.int i0), .val (.long i1), .second, .val (.long i3), .second, .val (.long t0), .second] []))
  refine own_back (fun t k => XS.iloadN X.here hx rfl (hb hby own_d2_13) rfl k) ?_
  show own_Go _ _ _ _ _ _ _ (T.setTop (mkF m 14 #[.val (.int i0), .val (.long i1), .second, .val (.long i3), .second, .val (.long t0), .second] [(.int i0)]))
  refine own_back (fun t k => XS.sipush X.here hx rfl (hb hby own_d2_14) k) ?_
  show own_Go _ _ _ _ _ _ _ (T.setTop (mkF m 17 #[.val (.int i0), .val (.long i1), .second, .val (.long i3), .second, .val (.long t0), .second] [(.int (128 : Int32)), (.int i0)]))
  by_cases hc17 : i0 < (128 : Int32)
  · rw [if_pos hc17] at hR
    refine own_back (fun t k => XS.icmpNo X.here hx rfl (hb hby own_d2_17) rfl (tlt hc17).2.1 k) ?_
    show own_Go _ _ _ _ _ _ _ (T.setTop (mkF m 20 #[.val (.int i0), .val (.long i1), .second, .val (.long i3), .second, .val (.long t0), .second] []))
    refine own_back (fun t k => XS.lload X.here hx rfl (hb hby own_d2_20) rfl k) ?_
    show own_Go _ _ _ _ _ _ _ (T.setTop (mkF m 22 #[.val (.int i0), .val (.long i1), .second, .val (.long i3), .second, .val (.long t0), .second] [(.long t0)]))
    refine own_back (fun t k => XS.lconst X.here hx rfl (hb hby own_d2_22) k) ?_
    show own_Go _ _ _ _ _ _ _ (T.setTop (mkF m 23 #[.val (.int i0), .val (.long i1), .second, .val (.long i3), .second, .val (.long t0), .second] [(.long (1 : Int64)), (.long t0)]))
    refine own_back (fun t k => XS.iloadN X.here hx rfl (hb hby own_d2_23) rfl k) ?_
    show own_Go _ _ _ _ _ _ _ (T.setTop (mkF m 24 #[.val (.int i0), .val (.long i1), .second, .val (.long i3), .second, .val (.long t0), .second] [(.int i0), (.long (1 : Int64)), (.long t0)]))
    refine own_back (fun t k => XS.lshl X.here hx rfl (hb hby own_d2_24) rfl k) ?_
    show own_Go _ _ _ _ _ _ _ (T.setTop (mkF m 25 #[.val (.int i0), .val (.long i1), .second, .val (.long i3), .second, .val (.long t0), .second] [(.long ((1 : Int64) <<< (i0 &&& 0x3f).toInt64)), (.long t0)]))
    refine own_back (fun t k => XS.land X.here hx rfl (hb hby own_d2_25) rfl k) ?_
    show own_Go _ _ _ _ _ _ _ (T.setTop (mkF m 26 #[.val (.int i0), .val (.long i1), .second, .val (.long i3), .second, .val (.long t0), .second] [(.long (t0 &&& ((1 : Int64) <<< (i0 &&& 0x3f).toInt64)))]))
    refine own_back (fun t k => XS.lconst X.here hx rfl (hb hby own_d2_26) k) ?_
    show own_Go _ _ _ _ _ _ _ (T.setTop (mkF m 27 #[.val (.int i0), .val (.long i1), .second, .val (.long i3), .second, .val (.long t0), .second] [(.long (0 : Int64)), (.long (t0 &&& ((1 : Int64) <<< (i0 &&& 0x3f).toInt64)))]))
    refine own_back (fun t k => XS.lcmp X.here hx rfl (hb hby own_d2_27) rfl k) ?_
    show own_Go _ _ _ _ _ _ _ (T.setTop (mkF m 28 #[.val (.int i0), .val (.long i1), .second, .val (.long i3), .second, .val (.long t0), .second] [(.int (lcmpW (t0 &&& ((1 : Int64) <<< (i0 &&& 0x3f).toInt64)) (0 : Int64)))]))
    by_cases hc28 : (lcmpW (t0 &&& ((1 : Int64) <<< (i0 &&& 0x3f).toInt64)) (0 : Int64)) = (0 : Int32)
    · rw [if_pos hc28] at hR
      refine own_back (fun t k => XS.ifYes X.here hx rfl (pc0 := 28) (pc' := 35) rfl (hb hby own_d2_28) rfl ((if0 _ _).trans (teq hc28).1) (by decide) (by decide) k) ?_
      show own_Go _ _ _ _ _ _ _ (T.setTop (mkF m 35 #[.val (.int i0), .val (.long i1), .second, .val (.long i3), .second, .val (.long t0), .second] []))
      refine own_back (fun t k => XS.iconst X.here hx rfl (hb hby own_d2_35) k) ?_
      show own_Go _ _ _ _ _ _ _ (T.setTop (mkF m 36 #[.val (.int i0), .val (.long i1), .second, .val (.long i3), .second, .val (.long t0), .second] [(.int (0 : Int32))]))
      subst hR
      exact own_retN X hx (t := .boolean) hret (by simp) (hb hby own_d2_36) hlk (by decide) ⟨rfl, N, e0⟩ (by decide) (by decide)
    · rw [if_neg hc28] at hR
      refine own_back (fun t k => XS.ifNo X.here hx rfl (hb hby own_d2_28) rfl ((if0 _ _).trans (feq hc28).1) k) ?_
      show own_Go _ _ _ _ _ _ _ (T.setTop (mkF m 31 #[.val (.int i0), .val (.long i1), .second, .val (.long i3), .second, .val (.long t0), .second] []))
      refine own_back (fun t k => XS.iconst X.here hx rfl (hb hby own_d2_31) k) ?_
      show own_Go _ _ _ _ _ _ _ (T.setTop (mkF m 32 #[.val (.int i0), .val (.long i1), .second, .val (.long i3), .second, .val (.long t0), .second] [(.int (1 : Int32))]))
      refine own_back (fun t k => XS.goto X.here hx rfl (pc0 := 32) (pc' := 36) rfl (hb hby own_d2_32) (by decide) (by decide) k) ?_
      show own_Go _ _ _ _ _ _ _ (T.setTop (mkF m 36 #[.val (.int i0), .val (.long i1), .second, .val (.long i3), .second, .val (.long t0), .second] [(.int (1 : Int32))]))
      subst hR
      exact own_retN X hx (t := .boolean) hret (by simp) (hb hby own_d2_36) hlk (by decide) ⟨rfl, N, e0⟩ (by decide) (by decide)
  · rw [if_neg hc17] at hR
    refine own_back (fun t k => XS.icmpYes X.here hx rfl (pc0 := 17) (pc' := 35) rfl (hb hby own_d2_17) rfl (flt hc17).2.1 (by decide) (by decide) k) ?_
    show own_Go _ _ _ _ _ _ _ (T.setTop (mkF m 35 #[.val (.int i0), .val (.long i1), .second, .val (.long i3), .second, .val (.long t0), .second] []))
    refine own_back (fun t k => XS.iconst X.here hx rfl (hb hby own_d2_35) k) ?_
    show own_Go _ _ _ _ _ _ _ (T.setTop (mkF m 36 #[.val (.int i0), .val (.long i1), .second, .val (.long i3), .second, .val (.long t0), .second] [(.int (0 : Int32))]))
    subst hR
    exact own_retN X hx (t := .boolean) hret (by simp) (hb hby own_d2_36) hlk (by decide) ⟨rfl, N, e0⟩ (by decide) (by decide)
set_option maxRecDepth 65536 in
set_option maxHeartbeats 4000000 in
theorem own_l2_0 {p : Program} {l : Launch} {e : Env} {s : State} {m : MethodId} {args : Array Value} {below : List Frame} {meth : Method} {c : Code} {T : State} {locs : List Loc} {Z : State} {a0 : Array Value} {h0 : Heap} {n0 : Nat}
    (X : Stand p l e ({ frames := 0, cells := 0, slots := 0, locals := 0 } : Room) s m args below meth c T locs 0 0) (hx : p.tables.exec = Jvm.exec) (hZ : Z.Warmed39 s.vm) (hw : ∀ d ∈ tables_1, d.before a0 Z = true) (hby : c.code = prog_16_method_9_code) (hml : c.maxLocals = 7) (hown : s.vm.findClass "com/example/turnstile_chain/turnstilechain/patterns/CodePointSet" = some m.cls) (hret : meth.sig.returnType = some .boolean) (hlk : meth.locks = false) (e0 : T.heap = h0) (N : Fr n0 locs) (Z0 : n0 ≤ h0.size)
    (x0 : Int32) (x1 : Int64) (x2 : Int64) {r : Int32} (hR : r = own_f2_0 x0 x1 x2) : own_Go p e below s ({ frames := 0, cells := 0, slots := 0, locals := 0 } : Room).cells ({ frames := 0, cells := 0, slots := 0, locals := 0 } : Room).slots (own_QP (.int r) h0 n0) (T.setTop (mkF m 0 #[.val (.int x0), .val (.long x1), .second, .val (.long x2), .second, .unset, .unset] [])) := by
  unfold own_f2_0 at hR
  refine own_back (fun t k => XS.iloadN X.here hx rfl (hb hby own_d2_0) rfl k) ?_
  show own_Go _ _ _ _ _ _ _ (T.setTop (mkF m 1 #[.val (.int x0), .val (.long x1), .second, .val (.long x2), .second, .unset, .unset] [(.int x0)]))
  refine own_back (fun t k => XS.bipush X.here hx rfl (hb hby own_d2_1) k) ?_
  show own_Go _ _ _ _ _ _ _ (T.setTop (mkF m 3 #[.val (.int x0), .val (.long x1), .second, .val (.long x2), .second, .unset, .unset] [(.int (64 : Int32)), (.int x0)]))
  by_cases hc3 : x0 < (64 : Int32)
  · rw [if_pos hc3] at hR
    refine own_back (fun t k => XS.icmpNo X.here hx rfl (hb hby own_d2_3) rfl (tlt hc3).2.1 k) ?_
    show own_Go _ _ _ _ _ _ _ (T.setTop (mkF m 6 #[.val (.int x0), .val (.long x1), .second, .val (.long x2), .second, .unset, .unset] []))
    refine own_back (fun t k => XS.lloadN X.here hx rfl (hb hby own_d2_6) rfl k) ?_
    show own_Go _ _ _ _ _ _ _ (T.setTop (mkF m 7 #[.val (.int x0), .val (.long x1), .second, .val (.long x2), .second, .unset, .unset] [(.long x1)]))
    refine own_back (fun t k => XS.goto X.here hx rfl (pc0 := 7) (pc' := 11) rfl (hb hby own_d2_7) (by decide) (by decide) k) ?_
    show own_Go _ _ _ _ _ _ _ (T.setTop (mkF m 11 #[.val (.int x0), .val (.long x1), .second, .val (.long x2), .second, .unset, .unset] [(.long x1)]))
    exact own_l2_11 X hx hZ hw hby hml hown hret hlk e0 N Z0 x0 x1 x2 x1 hR
  · rw [if_neg hc3] at hR
    refine own_back (fun t k => XS.icmpYes X.here hx rfl (pc0 := 3) (pc' := 10) rfl (hb hby own_d2_3) rfl (flt hc3).2.1 (by decide) (by decide) k) ?_
    show own_Go _ _ _ _ _ _ _ (T.setTop (mkF m 10 #[.val (.int x0), .val (.long x1), .second, .val (.long x2), .second, .unset, .unset] []))
    refine own_back (fun t k => XS.lloadN X.here hx rfl (hb hby own_d2_10) rfl k) ?_
    show own_Go _ _ _ _ _ _ _ (T.setTop (mkF m 11 #[.val (.int x0), .val (.long x1), .second, .val (.long x2), .second, .unset, .unset] [(.long x2)]))
    exact own_l2_11 X hx hZ hw hby hml hown hret hlk e0 N Z0 x0 x1 x2 x2 hR
theorem own_pn2 : plainName "com/example/turnstile_chain/turnstilechain/patterns/CodePointSet" = true := by first | (simp [plainName, overriddenIn]; done) | decide +kernel
theorem own_ef2 (m : MethodId) (x0 : Int32) (x1 : Int64) (x2 : Int64) : entryFrame m #[(.int x0), (.long x1), (.long x2)] 7 = mkF m 0 #[.val (.int x0), .val (.long x1), .second, .val (.long x2), .second, .unset, .unset] [] := by first | (simp [entryFrame, mkF, argsToLocals, Value.category]; done) | rfl
set_option maxRecDepth 65536 in
set_option maxHeartbeats 4000000 in
theorem own_rm2 (l : Launch) (Z : State) (a0 : Array Value) (hw : ∀ d ∈ tables_1, d.before a0 Z = true) (ws : List Jvm.Cond) (x0 : Int32) (x1 : Int64) (x2 : Int64) (h0 : Heap) (n0 : Nat) (Z0 : n0 ≤ h0.size) :
    MetFree l (⟨"com/example/turnstile_chain/turnstilechain/patterns/CodePointSet", "isAsciiOf", "(CJJ)Z"⟩ : MethodName) (head1 (Jvm.Cond.code (⟨"com/example/turnstile_chain/turnstilechain/patterns/CodePointSet", "isAsciiOf", "(CJJ)Z"⟩ : MethodName) prog_16_method_9_code 7 (some .boolean) :: ws) ({ frames := 0, cells := 0, slots := 0, locals := 0 } : Room)) (fun a U => a = #[(.int x0), (.long x1), (.long x2)] ∧ Z.Warmed39 U.vm ∧ U.heap = h0) (fun _ _ _ _ _ => True) (fun _ U o U' => ∃ v L, o = .returned v ∧ own_QP (.int (own_f2_0 x0 x1 x2)) h0 n0 v U'.heap L ∧ FrameEnd U o U' L ({ frames := 0, cells := 0, slots := 0, locals := 0 } : Room).cells ({ frames := 0, cells := 0, slots := 0, locals := 0 } : Room).slots) := by
  refine MetFree.of_bodySF (plainFor_of_name own_pn2) hisR ?_
  intro p e s m args below meth c s₁ Bd hml0 hP hK
  obtain ⟨rfl, hZ, hh⟩ := hP
  have X0 : Stand p l e ({ frames := 0, cells := 0, slots := 0, locals := 0 } : Room) s m #[(.int x0), (.long x1), (.long x2)] below meth c s₁ [] 0 0 := Stand.of_body Bd
  have e0 : s₁.heap = h0 := by rw [← hh, Bd.state]; rfl
  refine own_back (s := s) (fun t k => castTop (own_ef2 m x0 x1 x2) k) ?_
  exact own_l2_0 X0 Bd.exec hZ hw Bd.bytes hml0 (findClass_of_methodNamed Bd.named) Bd.returns (BodyLoose.notSynchronized Bd) e0 (Fr.nil n0) Z0 x0 x1 x2 rfl
theorem own_pd0 : parseMethodDescriptor "(CJJ)Z" = some ⟨[.char, .long, .long], some .boolean⟩ := by decide +kernel
/-! body 0: com/example/turnstile_chain/turnstilechain/patterns/CodePointSetIsAsciiOfPinLaw.law:(IIJJ)Z -/
def own_f0_16 (i0 : Int32) (i1 : Int32) (i2 : Int64) (i4 : Int64) (t0 : Int32) : Int32 := (if (own_f2_0 t0 i2 i4) = (own_f1_0 t0 i2 i4) then (1 : Int32) else (0 : Int32))
def own_f0_0 (x0 : Int32) (x1 : Int32) (x2 : Int64) (x3 : Int64) : Int32 := (if (x1 &&& (1 : Int32)) = (0 : Int32) then (own_f0_16 x0 x1 x2 x3 (x0.toUInt32.toUInt16.toUInt32.toInt32)) else (own_f0_16 x0 x1 x2 x3 ((x0 &&& (127 : Int32)).toUInt32.toUInt16.toUInt32.toInt32)))
set_option maxRecDepth 65536 in
set_option maxHeartbeats 4000000 in
theorem own_l0_16 {p : Program} {l : Launch} {e : Env} {s : State} {m : MethodId} {args : Array Value} {below : List Frame} {meth : Method} {c : Code} {T : State} {locs : List Loc} {Z : State} {a0 : Array Value} {h0 : Heap} {n0 : Nat}
    (X : Stand p l e room_1 s m args below meth c T locs 0 0) (hx : p.tables.exec = Jvm.exec) (hZ : Z.Warmed39 s.vm) (hw : ∀ d ∈ tables_1, d.before a0 Z = true) (hby : c.code = code) (hml : c.maxLocals = 8) (hown : s.vm.findClass "com/example/turnstile_chain/turnstilechain/patterns/CodePointSetIsAsciiOfPinLaw" = some m.cls) (hret : meth.sig.returnType = some .boolean) (hlk : meth.locks = false) (e0 : T.heap = h0) (N : Fr n0 locs) (Z0 : n0 ≤ h0.size)
    (i0 : Int32) (i1 : Int32) (i2 : Int64) (i4 : Int64) (t0 : Int32) {r : Int32} (hR : r = own_f0_16 i0 i1 i2 i4 t0) : own_Go p e below s room_1.cells room_1.slots (own_QP (.int r) h0 n0) (T.setTop (mkF m 16 #[.val (.int i0), .val (.int i1), .val (.long i2), .second, .val (.long i4), .second, .unset, .unset] [(.int t0)])) := by
  unfold own_f0_16 at hR
  refine own_back (fun t k => XS.istore X.here hx rfl (hb hby at_16) rfl (l' := #[.val (.int i0), .val (.int i1), .val (.long i2), .second, .val (.long i4), .second, .val (.int t0), .unset]) rfl k) ?_
  show own_Go _ _ _ _ _ _ _ (T.setTop (mkF m 18 #[.val (.int i0), .val (.int i1), .val (.long i2), .second, .val (.long i4), .second, .val (.int t0), .unset] []))
  refine own_back (fun t k => XS.iload X.here hx rfl (hb hby at_18) rfl k) ?_
  show own_Go _ _ _ _ _ _ _ (T.setTop (mkF m 20 #[.val (.int i0), .val (.int i1), .val (.long i2), .second, .val (.long i4), .second, .val (.int t0), .unset] [(.int t0)]))
  refine own_back (fun t k => XS.lloadN X.here hx rfl (hb hby at_20) rfl k) ?_
  show own_Go _ _ _ _ _ _ _ (T.setTop (mkF m 21 #[.val (.int i0), .val (.int i1), .val (.long i2), .second, .val (.long i4), .second, .val (.int t0), .unset] [(.long i2), (.int t0)]))
  refine own_back (fun t k => XS.lload X.here hx rfl (hb hby at_21) rfl k) ?_
  show own_Go _ _ _ _ _ _ _ (T.setTop (mkF m 23 #[.val (.int i0), .val (.int i1), .val (.long i2), .second, .val (.long i4), .second, .val (.int t0), .unset] [(.long i4), (.long i2), (.int t0)]))
  obtain ⟨_, _, ⟨T1, L1, k1, n1⟩, -, X1, ⟨Lc1, hQ1, l1, y1, z1⟩, st1⟩ := Jvm.LawKit.callS X hx (y := (⟨"com/example/turnstile_chain/turnstilechain/patterns/CodePointSetIsAsciiOfPinLaw", "reference", "(CJJ)Z"⟩ : MethodName)) hown (mvT hZ (hw _ (List.mem_of_getElem? (i := 0) rfl))) (mvT hZ (hw _ (List.mem_of_getElem? (i := 1) rfl))) (mvT hZ (hw _ (List.mem_of_getElem? (i := 2) rfl))) (mvT hZ (hw _ (List.mem_of_getElem? (i := 3) rfl))) (by decide) (backOf (W := 0) (own_rm1 l Z a0 hw [] t0 i2 i4 h0 n0 Z0) hZ (hw _ (List.mem_of_getElem? (i := 3) rfl)) (hw _ (List.mem_of_getElem? (i := 2) rfl)) (by decide) (by decide)) (g := (mkF m 23 #[.val (.int i0), .val (.int i1), .val (.long i2), .second, .val (.long i4), .second, .val (.int t0), .unset] [(.long i4), (.long i2), (.int t0)])) rfl (by rw [hml]; rfl) (argsL := [(.int t0), (.long i2), (.long i4)]) (rest := []) (lenOf own_pd0 rfl) rfl (by show 2 * 0 + _ ≤ _; exact Nat.le_of_eq rfl) (hb hby at_23) (fun _ _ => ⟨rfl, e0, (by decide : 0 + 0 ≤ _), (by decide : 0 + 0 ≤ _)⟩)
  dsimp only [Pt.U, Pt.locs, Pt.cells, Pt.slots] at X1 l1 y1 z1 st1 hQ1
  subst l1 y1 z1
  obtain ⟨rfl, N1q, e1⟩ := hQ1
  have N1 := Fr.app N N1q
  refine own_back (fun t k => st1 t k) ?_
  show own_Go _ _ _ _ _ _ _ (T1.setTop (mkF m 26 #[.val (.int i0), .val (.int i1), .val (.long i2), .second, .val (.long i4), .second, .val (.int t0), .unset] [(.int (own_f1_0 t0 i2 i4))]))
  refine own_back (fun t k => XS.istore X1.here hx rfl (hb hby at_26) rfl (l' := #[.val (.int i0), .val (.int i1), .val (.long i2), .second, .val (.long i4), .second, .val (.int t0), .val (.int (own_f1_0 t0 i2 i4))]) rfl k) ?_
  show own_Go _ _ _ _ _ _ _ (T1.setTop (mkF m 28 #[.val (.int i0), .val (.int i1), .val (.long i2), .second, .val (.long i4), .second, .val (.int t0), .val (.int (own_f1_0 t0 i2 i4))] []))
  refine own_back (fun t k => XS.iload X1.here hx rfl (hb hby at_28) rfl k) ?_
  show own_Go _ _ _ _ _ _ _ (T1.setTop (mkF m 30 #[.val (.int i0), .val (.int i1), .val (.long i2), .second, .val (.long i4), .second, .val (.int t0), .val (.int (own_f1_0 t0 i2 i4))] [(.int t0)]))
  refine own_back (fun t k => XS.lloadN X1.here hx rfl (hb hby at_30) rfl k) ?_
  show own_Go _ _ _ _ _ _ _ (T1.setTop (mkF m 31 #[.val (.int i0), .val (.int i1), .val (.long i2), .second, .val (.long i4), .second, .val (.int t0), .val (.int (own_f1_0 t0 i2 i4))] [(.long i2), (.int t0)]))
  refine own_back (fun t k => XS.lload X1.here hx rfl (hb hby at_31) rfl k) ?_
  show own_Go _ _ _ _ _ _ _ (T1.setTop (mkF m 33 #[.val (.int i0), .val (.int i1), .val (.long i2), .second, .val (.long i4), .second, .val (.int t0), .val (.int (own_f1_0 t0 i2 i4))] [(.long i4), (.long i2), (.int t0)]))
  obtain ⟨_, _, ⟨T2, L2, k2, n2⟩, -, X2, ⟨Lc2, hQ2, l2, y2, z2⟩, st2⟩ := Jvm.LawKit.callS X1 hx (y := (⟨"com/example/turnstile_chain/turnstilechain/patterns/CodePointSet", "isAsciiOf", "(CJJ)Z"⟩ : MethodName)) hown (mvT hZ (hw _ (List.mem_of_getElem? (i := 4) rfl))) (mvT hZ (hw _ (List.mem_of_getElem? (i := 5) rfl))) (mvT hZ (hw _ (List.mem_of_getElem? (i := 6) rfl))) (mvT hZ (hw _ (List.mem_of_getElem? (i := 7) rfl))) (by decide) (backOf (W := 0) (own_rm2 l Z a0 hw [] t0 i2 i4 h0 n0 Z0) hZ (hw _ (List.mem_of_getElem? (i := 7) rfl)) (hw _ (List.mem_of_getElem? (i := 6) rfl)) (by decide) (by decide)) (g := (mkF m 33 #[.val (.int i0), .val (.int i1), .val (.long i2), .second, .val (.long i4), .second, .val (.int t0), .val (.int (own_f1_0 t0 i2 i4))] [(.long i4), (.long i2), (.int t0)])) rfl (by rw [hml]; rfl) (argsL := [(.int t0), (.long i2), (.long i4)]) (rest := []) (lenOf own_pd0 rfl) rfl (by show 2 * 0 + _ ≤ _; exact Nat.le_of_eq rfl) (hb hby at_33) (fun _ _ => ⟨rfl, e1, (by decide : 0 + 0 ≤ _), (by decide : 0 + 0 ≤ _)⟩)
  dsimp only [Pt.U, Pt.locs, Pt.cells, Pt.slots] at X2 l2 y2 z2 st2 hQ2
  subst l2 y2 z2
  obtain ⟨rfl, N2q, e2⟩ := hQ2
  have N2 := Fr.app N1 N2q
  refine own_back (fun t k => st2 t k) ?_
  show own_Go _ _ _ _ _ _ _ (T2.setTop (mkF m 36 #[.val (.int i0), .val (.int i1), .val (.long i2), .second, .val (.long i4), .second, .val (.int t0), .val (.int (own_f1_0 t0 i2 i4))] [(.int (own_f2_0 t0 i2 i4))]))
  refine own_back (fun t k => XS.iload X2.here hx rfl (hb hby at_36) rfl k) ?_
  show own_Go _ _ _ _ _ _ _ (T2.setTop (mkF m 38 #[.val (.int i0), .val (.int i1), .val (.long i2), .second, .val (.long i4), .second, .val (.int t0), .val (.int (own_f1_0 t0 i2 i4))] [(.int (own_f1_0 t0 i2 i4)), (.int (own_f2_0 t0 i2 i4))]))
  by_cases hc38 : (own_f2_0 t0 i2 i4) = (own_f1_0 t0 i2 i4)
  · rw [if_pos hc38] at hR
    refine own_back (fun t k => XS.icmpNo X2.here hx rfl (hb hby at_38) rfl (teq hc38).2 k) ?_
    show own_Go _ _ _ _ _ _ _ (T2.setTop (mkF m 41 #[.val (.int i0), .val (.int i1), .val (.long i2), .second, .val (.long i4), .second, .val (.int t0), .val (.int (own_f1_0 t0 i2 i4))] []))
    refine own_back (fun t k => XS.iconst X2.here hx rfl (hb hby at_41) k) ?_
    show own_Go _ _ _ _ _ _ _ (T2.setTop (mkF m 42 #[.val (.int i0), .val (.int i1), .val (.long i2), .second, .val (.long i4), .second, .val (.int t0), .val (.int (own_f1_0 t0 i2 i4))] [(.int (1 : Int32))]))
    refine own_back (fun t k => XS.goto X2.here hx rfl (pc0 := 42) (pc' := 46) rfl (hb hby at_42) (by decide) (by decide) k) ?_
    show own_Go _ _ _ _ _ _ _ (T2.setTop (mkF m 46 #[.val (.int i0), .val (.int i1), .val (.long i2), .second, .val (.long i4), .second, .val (.int t0), .val (.int (own_f1_0 t0 i2 i4))] [(.int (1 : Int32))]))
    subst hR
    exact own_retN X2 hx (t := .boolean) hret (by simp) (hb hby at_46) hlk (by decide) ⟨rfl, N2, e2⟩ (by decide) (by decide)
  · rw [if_neg hc38] at hR
    refine own_back (fun t k => XS.icmpYes X2.here hx rfl (pc0 := 38) (pc' := 45) rfl (hb hby at_38) rfl (feq hc38).2 (by decide) (by decide) k) ?_
    show own_Go _ _ _ _ _ _ _ (T2.setTop (mkF m 45 #[.val (.int i0), .val (.int i1), .val (.long i2), .second, .val (.long i4), .second, .val (.int t0), .val (.int (own_f1_0 t0 i2 i4))] []))
    refine own_back (fun t k => XS.iconst X2.here hx rfl (hb hby at_45) k) ?_
    show own_Go _ _ _ _ _ _ _ (T2.setTop (mkF m 46 #[.val (.int i0), .val (.int i1), .val (.long i2), .second, .val (.long i4), .second, .val (.int t0), .val (.int (own_f1_0 t0 i2 i4))] [(.int (0 : Int32))]))
    subst hR
    exact own_retN X2 hx (t := .boolean) hret (by simp) (hb hby at_46) hlk (by decide) ⟨rfl, N2, e2⟩ (by decide) (by decide)
set_option maxRecDepth 65536 in
set_option maxHeartbeats 4000000 in
theorem own_l0_0 {p : Program} {l : Launch} {e : Env} {s : State} {m : MethodId} {args : Array Value} {below : List Frame} {meth : Method} {c : Code} {T : State} {locs : List Loc} {Z : State} {a0 : Array Value} {h0 : Heap} {n0 : Nat}
    (X : Stand p l e room_1 s m args below meth c T locs 0 0) (hx : p.tables.exec = Jvm.exec) (hZ : Z.Warmed39 s.vm) (hw : ∀ d ∈ tables_1, d.before a0 Z = true) (hby : c.code = code) (hml : c.maxLocals = 8) (hown : s.vm.findClass "com/example/turnstile_chain/turnstilechain/patterns/CodePointSetIsAsciiOfPinLaw" = some m.cls) (hret : meth.sig.returnType = some .boolean) (hlk : meth.locks = false) (e0 : T.heap = h0) (N : Fr n0 locs) (Z0 : n0 ≤ h0.size)
    (x0 : Int32) (x1 : Int32) (x2 : Int64) (x3 : Int64) {r : Int32} (hR : r = own_f0_0 x0 x1 x2 x3) : own_Go p e below s room_1.cells room_1.slots (own_QP (.int r) h0 n0) (T.setTop (mkF m 0 #[.val (.int x0), .val (.int x1), .val (.long x2), .second, .val (.long x3), .second, .unset, .unset] [])) := by
  unfold own_f0_0 at hR
  refine own_back (fun t k => XS.iloadN X.here hx rfl (hb hby at_0) rfl k) ?_
  show own_Go _ _ _ _ _ _ _ (T.setTop (mkF m 1 #[.val (.int x0), .val (.int x1), .val (.long x2), .second, .val (.long x3), .second, .unset, .unset] [(.int x1)]))
  refine own_back (fun t k => XS.iconst X.here hx rfl (hb hby at_1) k) ?_
  show own_Go _ _ _ _ _ _ _ (T.setTop (mkF m 2 #[.val (.int x0), .val (.int x1), .val (.long x2), .second, .val (.long x3), .second, .unset, .unset] [(.int (1 : Int32)), (.int x1)]))
  refine own_back (fun t k => XS.iand X.here hx rfl (hb hby at_2) rfl k) ?_
  show own_Go _ _ _ _ _ _ _ (T.setTop (mkF m 3 #[.val (.int x0), .val (.int x1), .val (.long x2), .second, .val (.long x3), .second, .unset, .unset] [(.int (x1 &&& (1 : Int32)))]))
  by_cases hc3 : (x1 &&& (1 : Int32)) = (0 : Int32)
  · rw [if_pos hc3] at hR
    refine own_back (fun t k => XS.ifYes X.here hx rfl (pc0 := 3) (pc' := 14) rfl (hb hby at_3) rfl ((if0 _ _).trans (teq hc3).1) (by decide) (by decide) k) ?_
    show own_Go _ _ _ _ _ _ _ (T.setTop (mkF m 14 #[.val (.int x0), .val (.int x1), .val (.long x2), .second, .val (.long x3), .second, .unset, .unset] []))
    refine own_back (fun t k => XS.iloadN X.here hx rfl (hb hby at_14) rfl k) ?_
    show own_Go _ _ _ _ _ _ _ (T.setTop (mkF m 15 #[.val (.int x0), .val (.int x1), .val (.long x2), .second, .val (.long x3), .second, .unset, .unset] [(.int x0)]))
    refine own_back (fun t k => XS.i2c X.here hx rfl (hb hby at_15) rfl k) ?_
    show own_Go _ _ _ _ _ _ _ (T.setTop (mkF m 16 #[.val (.int x0), .val (.int x1), .val (.long x2), .second, .val (.long x3), .second, .unset, .unset] [(.int (x0.toUInt32.toUInt16.toUInt32.toInt32))]))
    exact own_l0_16 X hx hZ hw hby hml hown hret hlk e0 N Z0 x0 x1 x2 x3 (x0.toUInt32.toUInt16.toUInt32.toInt32) hR
  · rw [if_neg hc3] at hR
    refine own_back (fun t k => XS.ifNo X.here hx rfl (hb hby at_3) rfl ((if0 _ _).trans (feq hc3).1) k) ?_
    show own_Go _ _ _ _ _ _ _ (T.setTop (mkF m 6 #[.val (.int x0), .val (.int x1), .val (.long x2), .second, .val (.long x3), .second, .unset, .unset] []))
    refine own_back (fun t k => XS.iloadN X.here hx rfl (hb hby at_6) rfl k) ?_
    show own_Go _ _ _ _ _ _ _ (T.setTop (mkF m 7 #[.val (.int x0), .val (.int x1), .val (.long x2), .second, .val (.long x3), .second, .unset, .unset] [(.int x0)]))
    refine own_back (fun t k => XS.bipush X.here hx rfl (hb hby at_7) k) ?_
    show own_Go _ _ _ _ _ _ _ (T.setTop (mkF m 9 #[.val (.int x0), .val (.int x1), .val (.long x2), .second, .val (.long x3), .second, .unset, .unset] [(.int (127 : Int32)), (.int x0)]))
    refine own_back (fun t k => XS.iand X.here hx rfl (hb hby at_9) rfl k) ?_
    show own_Go _ _ _ _ _ _ _ (T.setTop (mkF m 10 #[.val (.int x0), .val (.int x1), .val (.long x2), .second, .val (.long x3), .second, .unset, .unset] [(.int (x0 &&& (127 : Int32)))]))
    refine own_back (fun t k => XS.i2c X.here hx rfl (hb hby at_10) rfl k) ?_
    show own_Go _ _ _ _ _ _ _ (T.setTop (mkF m 11 #[.val (.int x0), .val (.int x1), .val (.long x2), .second, .val (.long x3), .second, .unset, .unset] [(.int ((x0 &&& (127 : Int32)).toUInt32.toUInt16.toUInt32.toInt32))]))
    refine own_back (fun t k => XS.goto X.here hx rfl (pc0 := 11) (pc' := 16) rfl (hb hby at_11) (by decide) (by decide) k) ?_
    show own_Go _ _ _ _ _ _ _ (T.setTop (mkF m 16 #[.val (.int x0), .val (.int x1), .val (.long x2), .second, .val (.long x3), .second, .unset, .unset] [(.int ((x0 &&& (127 : Int32)).toUInt32.toUInt16.toUInt32.toInt32))]))
    exact own_l0_16 X hx hZ hw hby hml hown hret hlk e0 N Z0 x0 x1 x2 x3 ((x0 &&& (127 : Int32)).toUInt32.toUInt16.toUInt32.toInt32) hR
theorem own_pn0 : plainName "com/example/turnstile_chain/turnstilechain/patterns/CodePointSetIsAsciiOfPinLaw" = true := by first | (simp [plainName, overriddenIn]; done) | decide +kernel
theorem own_ef0 (m : MethodId) (x0 : Int32) (x1 : Int32) (x2 : Int64) (x3 : Int64) : entryFrame m #[(.int x0), (.int x1), (.long x2), (.long x3)] maxLocals = mkF m 0 #[.val (.int x0), .val (.int x1), .val (.long x2), .second, .val (.long x3), .second, .unset, .unset] [] := by first | (simp [entryFrame, mkF, argsToLocals, Value.category, maxLocals]; done) | rfl
set_option maxRecDepth 65536 in
set_option maxHeartbeats 4000000 in
theorem own_rm0 (l : Launch) (Z : State) (a0 : Array Value) (hw : ∀ d ∈ tables_1, d.before a0 Z = true) (ws : List Jvm.Cond) (x0 : Int32) (x1 : Int32) (x2 : Int64) (x3 : Int64) (h0 : Heap) (n0 : Nat) (Z0 : n0 ≤ h0.size) :
    MetFree l x (head1 (Jvm.Cond.code x code maxLocals ret :: ws) room_1) (fun a U => a = #[(.int x0), (.int x1), (.long x2), (.long x3)] ∧ Z.Warmed39 U.vm ∧ U.heap = h0) (fun _ _ _ _ _ => True) (fun _ U o U' => ∃ v L, o = .returned v ∧ own_QP (.int (own_f0_0 x0 x1 x2 x3)) h0 n0 v U'.heap L ∧ FrameEnd U o U' L room_1.cells room_1.slots) := by
  refine MetFree.of_bodySF (plainFor_of_name own_pn0) hisR ?_
  intro p e s m args below meth c s₁ Bd hml0 hP hK
  obtain ⟨rfl, hZ, hh⟩ := hP
  have X0 : Stand p l e room_1 s m #[(.int x0), (.int x1), (.long x2), (.long x3)] below meth c s₁ [] 0 0 := Stand.of_body Bd
  have e0 : s₁.heap = h0 := by rw [← hh, Bd.state]; rfl
  refine own_back (s := s) (fun t k => castTop (own_ef0 m x0 x1 x2 x3) k) ?_
  exact own_l0_0 X0 Bd.exec hZ hw Bd.bytes hml0 (findClass_of_methodNamed Bd.named) Bd.returns (BodyLoose.notSynchronized Bd) e0 (Fr.nil n0) Z0 x0 x1 x2 x3 rfl
theorem own_small {x : Int32} {k : Nat} (hk : k < 2147483648) (h1 : ¬ x < 0) (h2 : x.toInt < k) : ∃ n : Nat, n < k ∧ x = Int32.ofNat n := by
  have z : (0 : Int32).toInt = 0 := rfl
  rw [Int32.lt_iff_toInt_lt, z] at h1
  refine ⟨x.toInt.toNat, by omega, Int32.toInt_inj.mp ?_⟩
  rw [Int32.toInt_ofNat_of_lt (by omega)]
  omega
theorem own_lt {x y : Int32} : x < y ↔ x.toInt < y.toInt := Int32.lt_iff_toInt_lt
theorem own_ne {x : Int32} {k : Int} (c : Int32) (hc : c.toInt = k) (h : x.toInt ≠ k) : ¬ x = c := fun q => h (by rw [q]; exact hc)
theorem own_nb (N n : Nat) : N &&& 2 ^ n = 0 ↔ N.testBit n = false := by
  constructor
  · intro h
    have q : (N &&& 2 ^ n).testBit n = false := by rw [h, Nat.zero_testBit]
    rwa [Nat.testBit_and, Nat.testBit_two_pow_self, Bool.and_true] at q
  · intro h
    refine Nat.eq_of_testBit_eq fun i => ?_
    rw [Nat.testBit_and, Nat.zero_testBit]
    by_cases q : n = i
    · rw [← q, h, Bool.false_and]
    · rw [Nat.testBit_two_pow_of_ne q, Bool.and_false]
theorem own_nb1 (N n : Nat) : (N >>> n) &&& 1 = 1 ↔ N.testBit n = true := by
  rw [Nat.testBit_eq_decide_div_mod_eq, Nat.and_one_is_mod, Nat.shiftRight_eq_div_pow, decide_eq_true_eq]
theorem own_bit (w : Int64) (q : Int32) (n : Nat) (hq : q.toBitVec.toNat % 64 = n) : (w &&& ((1 : Int64) <<< (q &&& 0x3f).toInt64)) = 0 ↔ ¬ ((w.toUInt64 >>> (q &&& 0x3f).toInt64.toUInt64).toInt64 &&& (1 : Int64)) = 1 := by
  obtain ⟨e1, hn⟩ := sm64 q n hq
  have h1 : (w &&& ((1 : Int64) <<< (q &&& 0x3f).toInt64)) = 0 ↔ w.toBitVec.toNat &&& 2 ^ n = 0 := by
    rw [← Int64.toBitVec_inj, ← BitVec.toNat_inj]
    show (w.toBitVec &&& (1#64 <<< ((q &&& 0x3f).toInt64.toBitVec.smod 64))).toNat = 0 ↔ _
    rw [BitVec.toNat_and, BitVec.shiftLeft_eq', e1, smod64 n hn, BitVec.toNat_shiftLeft, Nat.shiftLeft_eq]
    have z : (1#64).toNat * 2 ^ n % 2 ^ 64 = 2 ^ n := by
      rw [show (1#64).toNat = 1 from rfl, Nat.one_mul]
      exact Nat.mod_eq_of_lt (Nat.pow_lt_pow_right (by decide) hn)
    rw [z]
  have h2 : ((w.toUInt64 >>> (q &&& 0x3f).toInt64.toUInt64).toInt64 &&& (1 : Int64)) = 1 ↔ (w.toBitVec.toNat >>> n) &&& 1 = 1 := by
    rw [← Int64.toBitVec_inj, ← BitVec.toNat_inj]
    show ((w.toBitVec >>> ((q &&& 0x3f).toInt64.toBitVec % 64)) &&& 1#64).toNat = 1 ↔ _
    rw [BitVec.toNat_and, BitVec.ushiftRight_eq', BitVec.toNat_ushiftRight, BitVec.toNat_umod, e1, BitVec.toNat_ofNat]
    have z : n % 2 ^ 64 % (64#64).toNat = n := by show n % 2 ^ 64 % 64 = n; omega
    rw [show ((64 : BitVec 64)).toNat = (64#64).toNat from rfl, z]
    exact Iff.rfl
  rw [h1, h2, own_nb, own_nb1]
  cases w.toBitVec.toNat.testBit n <;> simp
theorem own_same (x : Int32) (lo hi : Int64) (h0 : ¬ x < 0) : own_f2_0 x lo hi = own_f1_0 x lo hi := by
  have z0 : (0 : Int32).toInt = 0 := rfl
  have z64 : (64 : Int32).toInt = 64 := rfl
  have z128 : (128 : Int32).toInt = 128 := rfl
  have g0 : ¬ x.toInt < 0 := fun q => h0 (own_lt.mpr (by omega))
  unfold own_f2_0 own_f1_0 own_f2_11
  by_cases h2 : x < 128
  · have g2 := own_lt.mp h2
    by_cases h1 : x < 64
    · rw [if_pos h1, if_pos h2, if_pos h2, if_pos h1]
      have b := own_bit lo x (x.toBitVec.toNat % 64) rfl
      by_cases c : (lo &&& ((1 : Int64) <<< (x &&& 0x3f).toInt64)) = 0
      · rw [if_pos ((lw_eq _ _).mpr c), if_neg (fun q => (b.mp c) ((lw_eq _ _).mp q))]
      · rw [if_neg (fun q => c ((lw_eq _ _).mp q)), if_pos ((lw_eq _ _).mpr (Classical.byContradiction fun q => c (b.mpr q)))]
    · rw [if_neg h1, if_pos h2, if_pos h2, if_neg h1]
      have e : (x - 64) &&& 0x3f = x &&& 0x3f := by
        have k1 : ((x - 64) &&& 0x3f).toInt = (x - 64).toInt % 64 := c_mask (x - 64) 63 6 (by decide) (by decide)
        have k2 : (x &&& 0x3f).toInt = x.toInt % 64 := c_mask x 63 6 (by decide) (by decide)
        have k3 := c_isub x 64
        rw [← Int32.toInt_inj, k1, k2]
        rw [z64] at k3
        omega
      rw [e]
      have b := own_bit hi x (x.toBitVec.toNat % 64) rfl
      by_cases c : (hi &&& ((1 : Int64) <<< (x &&& 0x3f).toInt64)) = 0
      · rw [if_pos ((lw_eq _ _).mpr c), if_neg (fun q => (b.mp c) ((lw_eq _ _).mp q))]
      · rw [if_neg (fun q => c ((lw_eq _ _).mp q)), if_pos ((lw_eq _ _).mpr (Classical.byContradiction fun q => c (b.mpr q)))]
  · simp only [if_neg h2, ite_self]
theorem own_char (x : Int32) : ¬ x.toUInt32.toUInt16.toUInt32.toInt32 < 0 := fun q => by
  have z0 : (0 : Int32).toInt = 0 := rfl
  have a := own_lt.mp q
  have b := c_i2c x
  omega
theorem own_plain (x y : Int32) (lo hi : Int64) : own_f0_0 x y lo hi = 1 := by
  unfold own_f0_0 own_f0_16
  rw [if_pos (own_same _ _ _ (own_char _)), if_pos (own_same _ _ _ (own_char _)), ite_self]
set_option maxRecDepth 65536 in
set_option maxHeartbeats 4000000 in
theorem own_comes {Post : Tables → Env → Array Value → State → Outcome → State → Prop} (hpost : ∀ tb e args s v u, (limb_1_1.after args s (.returned v) u = true ∧ limb_1_2.after args s (.returned v) u = true) → FrameEnd s (.returned v) u (Jvm.fieldLocs frame_1_writes args s ++ Jvm.arrayLocs frame_1_arrays args s ++ Jvm.staticLocs frame_1_statics s) 0 0 → Post tb e args s (.returned v) u) :
    ArmFor flags0 classFile x code maxLocals ret World_1 tables_1 room_1 Calls_1 rest_1 Pre_1 Post := by
  intro l hfl _ _ p e ha hc hk s m args below hf hA hF happ hP
  obtain ⟨hcalls, hrest, hpre⟩ := hP
  obtain ⟨-, -, -, hnamed, -, -, -, hat⟩ := (Spec.applies_iff hf).mp happ
  obtain ⟨hg, hn⟩ := and_e (Cond.before_iff.mp (show (Jvm.Cond.and given_1 narrow_1).before args s = true from hpre))
  obtain ⟨hcnt, hg0⟩ := and_e hg
  obtain ⟨ha0, hg1⟩ := and_e hg0
  obtain ⟨ha1, hg2⟩ := and_e hg1
  obtain ⟨ha2, hg3⟩ := and_e hg2
  have ha3 := hg3
  obtain ⟨w0, w1, w2, w3, rfl⟩ : ∃ w0 w1 w2 w3 : Value, args = #[w0, w1, w2, w3] := by
    have hs : args.size = 4 := by simpa [Cond.value, given_1] using hcnt
    obtain ⟨L⟩ := args
    match L, hs with
    | [w0, w1, w2, w3], _ => exact ⟨w0, w1, w2, w3, rfl⟩
  have hw := fun d (hd : d ∈ tables_1) => atoms_spec (ws := Jvm.Cond.code x code maxLocals ret :: tables_1) hat d (List.mem_cons_of_mem _ hd)
  obtain ⟨v0, ev0⟩ := is_v ha0
  obtain rfl : w0 = (.int v0) := Option.some.inj ev0
  obtain ⟨v1, ev1⟩ := is_v ha1
  obtain rfl : w1 = (.int v1) := Option.some.inj ev1
  obtain ⟨v2, ev2⟩ := isL_v ha2
  obtain rfl : w2 = (.long v2) := Option.some.inj ev2
  obtain ⟨v3, ev3⟩ := isL_v ha3
  obtain rfl : w3 = (.long v3) := Option.some.inj ev3
  obtain ⟨n, o, h1, h2, h3, _, L, rfl, ⟨rfl, N, _⟩, hq⟩ := own_rm0 l s _ hw tables_1 v0 v1 v2 v3 s.heap s.heap.size (Nat.le_refl _) p e ha hc hk s m _ below hf ((Spec.applies_iff_loose hf).mp happ).1 ⟨rfl, State.Warmed39.refl s, rfl⟩ trivial
  refine ⟨n, _, h1, h2, h3, hpost _ _ _ _ _ _ ⟨Cond.after_iff.mpr rfl, Cond.after_iff.mpr (eq_i res_at (Term.int_eval (1)) (congrArg Value.int (own_plain v0 v1 v2 v3)))⟩ ⟨hq.1, hq.2.1, (hq.2.2.sift fun y hy => Or.inr (N y hy)).mono (by decide) (by decide)⟩⟩
theorem main_1_1 : Claimed_1_1 := own_comes fun _ _ _ _ _ _ h hF => ⟨h.1, hF⟩
theorem main_1_2 : Claimed_1_2 := own_comes fun _ _ _ _ _ _ h hF => ⟨h.2, hF⟩
end Jvm.Pilot.@@N@@
namespace Jvm.Pilot.@@N@@
open Jvm Jvm.ClassFile Sem Op Lib Jvm.Free Jvm.Stand Jvm.Pilot.@@N@@.Jvm.D
/-! MADE BY PROGRAM (witnessworld.py) out of the Statement's table words and the real class files: 9 classes; the members and pool entries that the words name. The judged class is class 1, her method 1. -/
namespace start1
open Jvm.ClassFile
def u (s : String) : CpInfo := .utf8 (stringToUtf16 s)
/-- a pool by its gaps: so many unusable entries, then the entry; so many at the end -/
def gap : Nat → List CpInfo → List CpInfo
  | 0, r => r
  | n + 1, r => .unusable :: gap n r
def poolList (es : List (Nat × CpInfo)) (last : Nat) : List CpInfo := es.foldr (fun e r => gap e.1 (e.2 :: r)) (gap last [])
def pool (es : List (Nat × CpInfo)) (last : Nat) : Array CpInfo := ⟨poolList es last⟩
def fileOf (pool : Array CpInfo) (this : Nat) (attrs : Array Attribute := #[]) (ms : Array MethodInfo := #[]) (fl : Nat := 33) (sup : Nat := 0) (ifs : Array Nat := #[]) (fds : Array FieldInfo := #[]) : ClassFile where
  minorVersion := 0
  majorVersion := 65
  constantPool := pool
  accessFlags := fl
  thisClass := this
  superClass := sup
  interfaces := ifs
  fields := fds
  methods := ms
  attributes := attrs
def plain (name : String) (sup : Option ClassId) : Class where
  name := name
  kind := .ordinary
  loader := none
  accessFlags := 33
  super := sup
  interfaces := #[]
  cf := none
  fields := #[]
  methods := #[]
  instanceTypes := #[]
  staticTypes := #[]
  resolved := #[]
  callSites := []
  init := .initialized
  statics := none
  mirror := none

def pool0 : Array CpInfo := pool [(5, u "<init>"), (0, u "()V"), (1, .class_ 10), (1, u "java/lang/Object")] 113

def k0m0 : Method := { name := "<init>", desc := "()V", sig := { parameters := [], returnType := none }, accessFlags := 1, code := none }
/-- java/lang/Object -/
def k0 : Class := { plain "java/lang/Object" none with
  accessFlags := 33
  interfaces := #[]
  cf := some (fileOf pool0 8 #[] #[{ accessFlags := 1, nameIndex := 5, descriptorIndex := 6, attributes := #[] }] 33 0 #[] #[])
  fields := #[]
  methods := #[k0m0]
  instanceTypes := #[]
  staticTypes := #[]
  resolved := Array.replicate 124 none
  statics := none }

def pool1 : Array CpInfo := pool [(2, .class_ 4), (1, u "java/lang/Object"), (0, u "<init>"), (0, u "()V"), (0, .methodref 8 9), (0, .class_ 10), (0, .nameAndType 11 12), (0, u "com/example/turnstile_chain/turnstilechain/patterns/CodePointSetIsAsciiOfPinLaw"), (0, u "reference"), (0, u "(CJJ)Z"), (0, .methodref 14 15), (0, .class_ 16), (0, .nameAndType 17 12), (0, u "com/example/turnstile_chain/turnstilechain/patterns/CodePointSet"), (0, u "isAsciiOf"), (2, u "law"), (0, u "(IIJJ)Z")] 3

def k1m0 : Method := { name := "<init>", desc := "()V", sig := { parameters := [], returnType := none }, accessFlags := 1, code := none }
def k1c1 : Code := { maxStack := 5, maxLocals := 8, code := code, exceptionTable := #[], attributes := #[] }
def k1m1 : Method := { name := "law", desc := "(IIJJ)Z", sig := { parameters := [.int, .int, .long, .long], returnType := some .boolean }, accessFlags := 9, code := some k1c1 }
def k1c2 : Code := { maxStack := 4, maxLocals := 6, code := method_3_code, exceptionTable := #[], attributes := #[] }
def k1m2 : Method := { name := "reference", desc := "(CJJ)Z", sig := { parameters := [.char, .long, .long], returnType := some .boolean }, accessFlags := 10, code := some k1c2 }
/-- com/example/turnstile_chain/turnstilechain/patterns/CodePointSetIsAsciiOfPinLaw -/
def k1 : Class := { plain "com/example/turnstile_chain/turnstilechain/patterns/CodePointSetIsAsciiOfPinLaw" (some 0) with
  accessFlags := 49
  interfaces := #[]
  cf := some (fileOf pool1 8 #[] #[{ accessFlags := 1, nameIndex := 5, descriptorIndex := 6, attributes := #[] }, { accessFlags := 9, nameIndex := 20, descriptorIndex := 21, attributes := #[] }, { accessFlags := 10, nameIndex := 11, descriptorIndex := 12, attributes := #[] }] 49 2 #[] #[])
  fields := #[]
  methods := #[k1m0, k1m1, k1m2]
  instanceTypes := #[]
  staticTypes := #[]
  resolved := Array.replicate 25 none
  statics := none }

def pool2 : Array CpInfo := pool [(2, .class_ 4), (1, u "java/lang/Object"), (3, .class_ 10), (1, u "com/example/turnstile_chain/turnstilechain/patterns/CodePointSet"), (0, u "element"), (0, u "Ljava/util/regex/Pattern;"), (2, u "ascii"), (0, u "[J"), (11, u "members"), (0, u "Lcom/example/turnstile_chain/turnstilechain/patterns/CodePointBlocks;"), (8, u "ASCII_CHARS"), (0, u "Ljava/lang/String;"), (60, u "isAsciiOf"), (0, u "(CJJ)Z"), (22, u "ANY"), (0, u "Lcom/example/turnstile_chain/turnstilechain/patterns/CodePointSet;"), (3, u "ASCII"), (0, u "I"), (2, u "MOST_BLOCKS")] 42

def k2c0 : Code := { maxStack := 5, maxLocals := 7, code := prog_16_method_9_code, exceptionTable := #[], attributes := #[] }
def k2m0 : Method := { name := "isAsciiOf", desc := "(CJJ)Z", sig := { parameters := [.char, .long, .long], returnType := some .boolean }, accessFlags := 8, code := some k2c0 }
/-- com/example/turnstile_chain/turnstilechain/patterns/CodePointSet -/
def k2 : Class := { plain "com/example/turnstile_chain/turnstilechain/patterns/CodePointSet" (some 0) with
  accessFlags := 48
  interfaces := #[]
  cf := some (fileOf pool2 8 #[] #[{ accessFlags := 8, nameIndex := 100, descriptorIndex := 101, attributes := #[] }] 48 2 #[] #[{ accessFlags := 24, nameIndex := 124, descriptorIndex := 125, attributes := #[] }, { accessFlags := 26, nameIndex := 129, descriptorIndex := 130, attributes := #[] }, { accessFlags := 26, nameIndex := 38, descriptorIndex := 39, attributes := #[] }, { accessFlags := 26, nameIndex := 133, descriptorIndex := 130, attributes := #[] }, { accessFlags := 18, nameIndex := 11, descriptorIndex := 12, attributes := #[] }, { accessFlags := 18, nameIndex := 15, descriptorIndex := 16, attributes := #[] }, { accessFlags := 18, nameIndex := 28, descriptorIndex := 29, attributes := #[] }])
  fields := #[{ name := "ANY", type := (.object "com/example/turnstile_chain/turnstilechain/patterns/CodePointSet"), accessFlags := 24, slot := 0, constantValue := 0 }, { name := "ASCII", type := .int, accessFlags := 26, slot := 1, constantValue := 0 }, { name := "ASCII_CHARS", type := (.object "java/lang/String"), accessFlags := 26, slot := 2, constantValue := 0 }, { name := "MOST_BLOCKS", type := .int, accessFlags := 26, slot := 3, constantValue := 0 }, { name := "element", type := (.object "java/util/regex/Pattern"), accessFlags := 18, slot := 0, constantValue := 0 }, { name := "ascii", type := (.array .long), accessFlags := 18, slot := 1, constantValue := 0 }, { name := "members", type := (.object "com/example/turnstile_chain/turnstilechain/patterns/CodePointBlocks"), accessFlags := 18, slot := 2, constantValue := 0 }]
  methods := #[k2m0]
  instanceTypes := #[(.object "java/util/regex/Pattern"), (.array .long), (.object "com/example/turnstile_chain/turnstilechain/patterns/CodePointBlocks")]
  staticTypes := #[(.object "com/example/turnstile_chain/turnstilechain/patterns/CodePointSet"), .int, (.object "java/lang/String"), .int]
  resolved := Array.replicate 176 none
  statics := none }

def pool3 : Array CpInfo := pool [(1, u "java/lang/Cloneable"), (0, .class_ 1), (0, u "java/lang/Object"), (0, .class_ 3)] 3

/-- java/lang/Cloneable -/
def k3 : Class := { plain "java/lang/Cloneable" (some 0) with
  accessFlags := 1537
  interfaces := #[]
  cf := some (fileOf pool3 2 #[] #[] 1537 4 #[] #[])
  fields := #[]
  methods := #[]
  instanceTypes := #[]
  staticTypes := #[]
  resolved := Array.replicate 8 none
  statics := none }

def pool4 : Array CpInfo := pool [(1, u "java/io/Serializable"), (0, .class_ 1), (0, u "java/lang/Object"), (0, .class_ 3)] 3

/-- java/io/Serializable -/
def k4 : Class := { plain "java/io/Serializable" (some 0) with
  accessFlags := 1537
  interfaces := #[]
  cf := some (fileOf pool4 2 #[] #[] 1537 4 #[] #[])
  fields := #[]
  methods := #[]
  instanceTypes := #[]
  staticTypes := #[]
  resolved := Array.replicate 8 none
  statics := none }

/-- the primitive byte -/
def k5 : Class := { plain "byte" none with kind := .primitive 'B', accessFlags := 0x411 }
/-- [B -/
def k6 : Class := { plain "[B" (some 0) with kind := .array 5 .byte, interfaces := #[3, 4], accessFlags := 1041 }

/-- the primitive int -/
def k7 : Class := { plain "int" none with kind := .primitive 'I', accessFlags := 0x411 }
/-- [I -/
def k8 : Class := { plain "[I" (some 0) with kind := .array 7 .int, interfaces := #[3, 4], accessFlags := 1041 }

def heap : Heap := #[]
def classes : Array Class := #[k0, k1, k2, k3, k4, k5, k6, k7, k8]
def interned : List (Array UInt16 × Addr) := []
def slotsUsed : Nat := 0
def theMethod : MethodId := ⟨1, 1⟩
def args0 : Array Value := #[.int 65, .int 0, .long 5, .long 7]
def aboutOver (below : List Frame) : State where
  vm := { classes := classes, interned := interned.toArray }
  heap := heap
  slotsUsed := slotsUsed
  threads := #[{ frames := .invoking theMethod args0 :: below }]
def below0 : List Frame := [.native { method := ⟨0, 0⟩, args := #[] }]
def about1 : State := aboutOver below0
def p0 : Program := .bare "" "" ""
def e0 : Env := launch0.env 0 0 0
theorem w_frames : about1.frames = Frame.invoking theMethod args0 :: below0 := rfl
set_option maxRecDepth 65536 in
theorem w_args : argsFit about1.vm theMethod args0 = true := by decide +kernel
set_option maxRecDepth 65536 in
theorem w_heap : heapFits about1 = true := by decide +kernel
set_option maxRecDepth 65536 in
theorem w_runnable : about1.curStatus? = some .runnable := by decide +kernel
set_option maxRecDepth 65536 in
theorem w_alone : about1.alone = true := by decide +kernel
set_option maxRecDepth 65536 in
theorem w_named : about1.methodNamed? x = some theMethod := by decide +kernel
set_option maxRecDepth 65536 in
theorem w_hears : about1.hears theMethod below0 = true := by decide +kernel
set_option maxRecDepth 65536 in
theorem w_ripe : about1.ripe theMethod args0 below0 = true := by decide +kernel
theorem w_running : about1.status = .running := rfl
set_option maxRecDepth 65536 in
theorem w_room : about1.hasRoom e0.platform room_1 = true :=
  launch0.hasRoom_least _ room_1 (by decide +kernel) (by decide +kernel) (by decide +kernel) (by decide +kernel) (by decide +kernel) (by decide +kernel)
theorem allAtoms_all (ts : List Jvm.Cond) (a : Array Jvm.Value) (st : Jvm.State) : (allAtoms ts).before a st = ts.all (fun c => c.before a st) := by
  induction ts with
  | nil => rfl
  | cons c t ih =>
    show (Jvm.Cond.and c (allAtoms t)).before a st = _
    rw [Jvm.Cond.before_and, ih, List.all_cons]
def words1 : List Jvm.Cond := Jvm.Cond.code x code maxLocals ret :: tables_1
/-- a 'code' word, met by the world's own term for the bytes: nothing is compared byte by byte -/
theorem code_word {y : MethodName} {bytes : ByteArray} {mx : Nat} {rt : Option FieldType} {a : Array Value} {s : State} {m : MethodId} {meth : Method} {c : Code} (h1 : s.methodNamed? y = some m) (h2 : s.vm.method? m = some meth) (h3 : meth.code = some c) (h4 : c.code = bytes)
    (h5 : (c.maxLocals == mx && c.exceptionTable.isEmpty && decide (c.maxStack ≤ mostOperands) && decide (meth.sig.returnType = rt) && !meth.locks && decide (parseMethodDescriptor y.desc = some meth.sig)) = true) : (Jvm.Cond.code y bytes mx rt).before a s = true := by
  simp only [Bool.and_eq_true, beq_iff_eq, Bool.not_eq_true', decide_eq_true_eq] at h5
  obtain ⟨⟨⟨⟨⟨g1, g2⟩, g3⟩, g4⟩, g5⟩, g6⟩ := h5
  simp [Cond.before, Cond.holds, Cond.value, h1, h2, h3, h4, g1, g2, g3, g4, g5, g6]
def isCode : Jvm.Cond → Bool
  | .code _ _ _ _ => true
  | _ => false
theorem all_split {L : List Jvm.Cond} {P : Jvm.Cond → Bool} (h1 : L.all (fun c => isCode c || P c) = true) (h2 : ∀ c ∈ L.filter isCode, P c = true) : L.all P = true := by
  refine List.all_eq_true.mpr fun c hc => ?_
  have h := List.all_eq_true.mp h1 c hc
  rcases Bool.eq_false_or_eq_true (isCode c) with hi | hi
  · exact h2 c (List.mem_filter.mpr ⟨hc, hi⟩)
  · simpa [hi] using h
set_option maxRecDepth 65536 in
theorem w_c0 : (Jvm.Cond.code x code maxLocals ret).before args0 about1 = true := code_word (m := ⟨1, 1⟩) (meth := k1m1) (c := k1c1) (by decide +kernel) rfl rfl rfl (by decide +kernel)
set_option maxRecDepth 65536 in
theorem w_c1 : (Jvm.Cond.code ({ cls := "com/example/turnstile_chain/turnstilechain/patterns/CodePointSetIsAsciiOfPinLaw", name := "reference", desc := "(CJJ)Z" } : Jvm.MethodName) method_3_code (6 : Nat) (Option.some Jvm.ClassFile.FieldType.boolean)).before args0 about1 = true := code_word (m := ⟨1, 2⟩) (meth := k1m2) (c := k1c2) (by decide +kernel) rfl rfl rfl (by decide +kernel)
set_option maxRecDepth 65536 in
theorem w_c2 : (Jvm.Cond.code ({ cls := "com/example/turnstile_chain/turnstilechain/patterns/CodePointSet", name := "isAsciiOf", desc := "(CJJ)Z" } : Jvm.MethodName) prog_16_method_9_code (7 : Nat) (Option.some Jvm.ClassFile.FieldType.boolean)).before args0 about1 = true := code_word (m := ⟨2, 0⟩) (meth := k2m0) (c := k2c0) (by decide +kernel) rfl rfl rfl (by decide +kernel)
def codes1 : List Jvm.Cond := [Jvm.Cond.code x code maxLocals ret, Jvm.Cond.code ({ cls := "com/example/turnstile_chain/turnstilechain/patterns/CodePointSetIsAsciiOfPinLaw", name := "reference", desc := "(CJJ)Z" } : Jvm.MethodName) method_3_code (6 : Nat) (Option.some Jvm.ClassFile.FieldType.boolean), Jvm.Cond.code ({ cls := "com/example/turnstile_chain/turnstilechain/patterns/CodePointSet", name := "isAsciiOf", desc := "(CJJ)Z" } : Jvm.MethodName) prog_16_method_9_code (7 : Nat) (Option.some Jvm.ClassFile.FieldType.boolean)]
set_option maxRecDepth 65536 in
theorem codes_eq : words1.filter isCode = codes1 := rfl
theorem w_codes : ∀ c ∈ words1.filter isCode, c.before args0 about1 = true := by
  rw [codes_eq]
  intro c hc
  simp only [codes1, List.mem_cons, List.not_mem_nil, or_false] at hc
  rcases hc with rfl | rfl | rfl
  · exact w_c0
  · exact w_c1
  · exact w_c2
set_option maxRecDepth 65536 in
theorem w_t1 : words1.all (fun c => isCode c || c.before args0 about1) = true := by decide +kernel
theorem w_tables : (allAtoms (Jvm.Cond.code x code maxLocals ret :: tables_1)).before args0 about1 = true := by
  rw [allAtoms_all]
  show words1.all (fun c => c.before args0 about1) = true
  refine all_split ?_ w_codes
  rw [w_t1]
set_option maxRecDepth 65536 in
theorem w_case : (Jvm.Cond.and given_1 narrow_1).before args0 about1 = true := by decide +kernel
theorem w_applies : (headSpec (Jvm.Cond.code x code maxLocals ret :: tables_1) room_1).applies x e0.platform about1 = true :=
  (Spec.applies_iff w_frames).mpr ⟨w_running, w_runnable, w_alone, w_named, w_hears, w_ripe, w_room, w_tables⟩
theorem atStart : AtStart classFile x code maxLocals ret World_1 tables_1 room_1 Calls_1 rest_1 Pre_1 launch0 p0 e0 about1 theMethod args0 below0 :=
  ⟨lists_1, trivial, launch0.admits_env _ _ _, launch0.least_env, fairChoices_fair.cas, fairChoices_fair.clock, w_frames, w_args, w_heap, w_applies, trivial, trivial, w_case⟩
end start1
theorem witness_1 : WitnessClaimed_1 := ⟨start1.p0, start1.e0, start1.about1, start1.theMethod, start1.args0, start1.below0, start1.atStart⟩
end Jvm.Pilot.@@N@@
