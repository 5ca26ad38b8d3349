import JvmDerived
import JvmDerived.Pilot.@@N@@Statement
import JvmDerived.Pilot.@@N@@Code
set_option linter.unusedVariables false
set_option linter.unusedSimpArgs false
namespace Jvm.RoadKit
open Sem ClassFile Op Lib Jvm.Stand Jvm.Free Jvm.LawKit
section New
variable {p : Program} {l : Launch} {e : Env} {R : Room} {s : State} {m : MethodId} {args : Array Value} {below : List Frame} {meth : Method} {c : Code} {T : State} {locs : List Loc} {cells slots : Nat}
theorem retI (X : Stand p l e R s m args below meth c T locs cells slots) (hx : p.tables.exec = Jvm.exec) {pc : Nat} {Ls : Array Slot} {z : Int32} {rest : List Value} (hret : meth.sig.returnType = some .int) (hd : decode c.code pc = .ok (.ireturn, 1)) {fs : List Frame}
    (hl : ∀ (f : JFrame) (acts : List Action), f.method = m → f.locked = none → f.entered = [] → (doReturn e (T.setTop f) acts (some (.int z))).1 = T.setFrames fs) : Steps p.tables e below (T.setTop (mkF m pc Ls (.int z :: rest))) (T.setFrames fs) := by
  have hm' : T.vm.method? m = some meth := X.method'
  have hn : narrow .int (.int z) = .int z := rfl
  show Steps p.tables e below (T.setTop { method := m, pc := pc, locals := Ls, stack := _ :: rest, locked := none }) _
  jvm_step X.here [X.here.top, hx, hd, hm', hret, hn]
  first | (intro acts; rw [hl _ acts rfl rfl rfl]) | rw [hl _ _ rfl rfl rfl]
  exact Steps.refl _
end New
end Jvm.RoadKit
namespace Jvm.Pilot.@@N@@
open Jvm Jvm.ClassFile Sem Op Lib Jvm.Free Jvm.Stand Jvm.LawKit Jvm.RoadKit Bundle Jvm.Pilot.@@N@@.Jvm.D
theorem own_irem (x y : Int32) : x - (x / y) * y = x % y := by
  apply Int32.toInt_inj.mp
  have h1 := Int32.le_toInt (x % y)
  have h2 := Int32.toInt_lt (x % y)
  rw [Int32.toInt_sub, Int32.toInt_mul, Int32.toInt_div, Int.bmod_mul_bmod, Int.sub_bmod_bmod, Int.mul_comm (x.toInt.tdiv y.toInt), ← Int.tmod_def, ← Int32.toInt_mod]
  exact Int.bmod_eq_of_le_mul_two (by omega) (by omega)
theorem own_eqI {args : Array Value} {first s : State} {o : Option Outcome} {idx : List Nat} {t : Term} {k : Int32} (h : (Cond.eq t (.int k)).value args first o s idx = some true) : t.eval args first o idx s = some (.int k) :=
  Cond.eq_int (by simp [Cond.holds, h]) (Term.int_eval _)
def own_Gl (Z : State) (wH wF wU : Addr) : Prop := Sta Z Z.heap "com/example/frugal_nets/frugalnets/check/Verdict" "HOLDS" "Lcom/example/frugal_nets/frugalnets/check/Verdict;" (.ref wH) ∧ Sta Z Z.heap "com/example/frugal_nets/frugalnets/check/Verdict" "FAILS" "Lcom/example/frugal_nets/frugalnets/check/Verdict;" (.ref wF) ∧ Sta Z Z.heap "com/example/frugal_nets/frugalnets/check/Verdict" "UNKNOWN" "Lcom/example/frugal_nets/frugalnets/check/Verdict;" (.ref wU) ∧ Exa Z Z.heap wH "com/example/frugal_nets/frugalnets/check/Verdict" ∧ Exa Z Z.heap wF "com/example/frugal_nets/frugalnets/check/Verdict" ∧ Exa Z Z.heap wU "com/example/frugal_nets/frugalnets/check/Verdict"
theorem own_mod3 (x z : Int32) (h : z = (x &&& 2147483647) % 3) : z = 0 ∨ z = 1 ∨ z = 2 := by
  have h1 := c_and x 2147483647 (by decide)
  have h2 := (c_irem (x &&& 2147483647) 3 3 (by decide)).1 h1.1
  rw [← h] at h2
  simp only [← Int32.toInt_inj]
  have e0 : (0 : Int32).toInt = 0 := by decide
  have e1 : (1 : Int32).toInt = 1 := by decide
  have e2 : (2 : Int32).toInt = 2 := by decide
  omega
theorem own_ef1 (m : MethodId) (x0 : Addr) : entryFrame m #[(.ref x0)] 2 = mkF m 0 #[.val (.ref x0), .unset] [] := by first | (simp [entryFrame, mkF, argsToLocals, Value.category]; done) | rfl
theorem own_pn0 : plainName "com/example/frugal_nets/frugalnets/check/Verdict" = true := by first | (simp [plainName, overriddenIn]; done) | decide +kernel
theorem own_d1_0 : decode prog_26_method_5_code 0 = .ok (.aload_n 0, 1) := by decide +kernel
theorem own_d1_1 : decode prog_26_method_5_code 1 = .ok (.getstatic 3, 3) := by decide +kernel
theorem own_d1_4 : decode prog_26_method_5_code 4 = .ok (.if_acmp .ne 10, 3) := by decide +kernel
theorem own_d1_7 : decode prog_26_method_5_code 7 = .ok (.getstatic 7, 3) := by decide +kernel
theorem own_d1_10 : decode prog_26_method_5_code 10 = .ok (.astore_n 1, 1) := by decide +kernel
theorem own_d1_11 : decode prog_26_method_5_code 11 = .ok (.goto 21, 3) := by decide +kernel
theorem own_d1_32 : decode prog_26_method_5_code 32 = .ok (.aload_n 1, 1) := by decide +kernel
theorem own_d1_33 : decode prog_26_method_5_code 33 = .ok (.areturn, 1) := by decide +kernel
theorem own_d1_14 : decode prog_26_method_5_code 14 = .ok (.aload_n 0, 1) := by decide +kernel
theorem own_d1_15 : decode prog_26_method_5_code 15 = .ok (.getstatic 7, 3) := by decide +kernel
theorem own_d1_18 : decode prog_26_method_5_code 18 = .ok (.if_acmp .ne 10, 3) := by decide +kernel
theorem own_d1_21 : decode prog_26_method_5_code 21 = .ok (.getstatic 3, 3) := by decide +kernel
theorem own_d1_24 : decode prog_26_method_5_code 24 = .ok (.astore_n 1, 1) := by decide +kernel
theorem own_d1_25 : decode prog_26_method_5_code 25 = .ok (.goto 7, 3) := by decide +kernel
theorem own_d1_28 : decode prog_26_method_5_code 28 = .ok (.getstatic 10, 3) := by decide +kernel
theorem own_d1_31 : decode prog_26_method_5_code 31 = .ok (.astore_n 1, 1) := by decide +kernel
def own_Q_rmNeg (Z : State) (a1 r : Addr) (wH wF wU : Addr) (h0 : Heap) (n0 : Nat) (v : Option Value) (h : Heap) (L : List Loc) : Prop := v = some (.ref r) ∧ Fr n0 L ∧ h = h0
set_option maxRecDepth 65536 in
set_option maxHeartbeats 40000000 in
theorem rmNeg (l : Launch) (Z : State) (a0 : Array Value) (hw : ∀ d ∈ tables_1, d.before a0 Z = true) (ws : List Jvm.Cond) (a1 r : Addr) (wH wF wU : Addr) (h0 : Heap) (n0 : Nat) (O0 : Old Z n0 h0) (G : own_Gl Z wH wF wU) (hr : (if a1 = wH then wF else if a1 = wF then wH else wU) = r) :
    MetFree l (⟨"com/example/frugal_nets/frugalnets/check/Verdict", "negated", "()Lcom/example/frugal_nets/frugalnets/check/Verdict;"⟩ : MethodName) (head1 (Jvm.Cond.code (⟨"com/example/frugal_nets/frugalnets/check/Verdict", "negated", "()Lcom/example/frugal_nets/frugalnets/check/Verdict;"⟩ : MethodName) prog_26_method_5_code 2 (some (.object "com/example/frugal_nets/frugalnets/check/Verdict")) :: ws) ({ frames := 0, cells := 0, slots := 0, locals := 0 } : Room)) (fun a U => a = #[(.ref a1)] ∧ Z.Warmed39 U.vm ∧ U.heap = h0) (fun _ _ _ _ _ => True) (fun _ U o U' => ∃ v L, o = .returned v ∧ own_Q_rmNeg Z a1 r wH wF wU h0 n0 v U'.heap L ∧ FrameEnd U o U' L ({ frames := 0, cells := 0, slots := 0, locals := 0 } : Room).cells ({ frames := 0, cells := 0, slots := 0, locals := 0 } : Room).slots) := by
  refine MetFree.of_bodySF (plainFor_of_name own_pn0) hisR ?_
  intro p e s m args below meth c s₁ Bd hml0 hP hK
  obtain ⟨rfl, hZ, hh⟩ := hP
  have hx := Bd.exec
  have hby := Bd.bytes
  have hml : c.maxLocals = 2 := hml0
  have hown : s.vm.findClass "com/example/frugal_nets/frugalnets/check/Verdict" = some m.cls := findClass_of_methodNamed Bd.named
  have hnm := (name_of_methodNamed Bd.named Bd.method).1
  have X0 : Stand p l e ({ frames := 0, cells := 0, slots := 0, locals := 0 } : Room) s m #[(.ref a1)] below meth c s₁ [] 0 0 := Stand.of_body Bd
  have e0 : s₁.heap = h0 := by rw [← hh, Bd.state]; rfl
  have N0 := Fr.nil n0
  have Z0 : n0 ≤ h0.size := O0.1 ▸ O0.2.1
  have g0 : ∀ t, Steps p.tables e below (s₁.setTop (mkF m 0 #[.val (.ref a1), .unset] [])) t → Steps p.tables e below (s₁.setTop (entryFrame m #[(.ref a1)] 2)) t := fun t k => castTop (own_ef1 m (a1)) k
  have G0 := G
  obtain ⟨S_HOLDS, S_FAILS, S_UNKNOWN, Ex_HOLDS, Ex_FAILS, Ex_UNKNOWN⟩ := G
  obtain ⟨T1, X1, e1, st1⟩ := getS2 X0 hx hZ hown (host := "") (Or.inl (hw _ (List.mem_of_getElem? (i := 16) rfl))) Via.refl e0 (S_HOLDS.ext O0.2) (g := (mkF m 1 #[.val (.ref a1), .unset] [(.ref a1)])) rfl (hb hby own_d1_1)
  have g3 : ∀ t, Steps p.tables e below (T1.setTop (mkF m 4 #[.val (.ref a1), .unset] [(.ref wH), (.ref a1)])) t → Steps p.tables e below (s₁.setTop (entryFrame m #[(.ref a1)] 2)) t := by
    intro t k
    refine g0 t ?_
    show Steps p.tables e below (s₁.setTop (mkF m 0 #[.val (.ref a1), .unset] [])) _
    refine XS.aloadN X0.here hx rfl (hb hby own_d1_0) rfl rfl ?_
    show Steps p.tables e below (s₁.setTop (mkF m 1 #[.val (.ref a1), .unset] [(.ref a1)])) _
    refine st1 _ ?_
    exact k
  by_cases hc2 : a1 = wH
  · obtain ⟨T4, X4, e4, st4⟩ := getS2 X1 hx hZ hown (host := "") (Or.inl (hw _ (List.mem_of_getElem? (i := 17) rfl))) Via.refl e1 (S_FAILS.ext O0.2) (g := (mkF m 7 #[.val (.ref a1), .unset] [])) rfl (hb hby own_d1_7)
    have g5 : ∀ t, Steps p.tables e below (T4.setTop (mkF m 33 #[.val (.ref a1), .val (.ref wF)] [(.ref wF)])) t → Steps p.tables e below (s₁.setTop (entryFrame m #[(.ref a1)] 2)) t := by
      intro t k
      refine g3 t ?_
      show Steps p.tables e below (T1.setTop (mkF m 4 #[.val (.ref a1), .unset] [(.ref wH), (.ref a1)])) _
      refine Jvm.RoadKit.acmp (g := (mkF m 4 #[.val (.ref a1), .unset] [(.ref wH), (.ref a1)])) X1 hx rfl rfl rfl (pc0 := 4) (pc' := 7) (same := true) rfl (hb hby own_d1_4) rfl (decide_eq_true (congrArg Value.ref hc2)) (by decide) (by decide) ?_
      show Steps p.tables e below (T1.setTop (mkF m 7 #[.val (.ref a1), .unset] [])) _
      refine st4 _ ?_
      show Steps p.tables e below (T4.setTop (mkF m 10 #[.val (.ref a1), .unset] [(.ref wF)])) _
      refine XS.astoreN X4.here hx rfl (hb hby own_d1_10) rfl rfl (l' := #[.val (.ref a1), .val (.ref wF)]) rfl ?_
      show Steps p.tables e below (T4.setTop (mkF m 11 #[.val (.ref a1), .val (.ref wF)] [])) _
      refine XS.goto X4.here hx rfl (pc0 := 11) (pc' := 32) rfl (hb hby own_d1_11) (by decide) (by decide) ?_
      show Steps p.tables e below (T4.setTop (mkF m 32 #[.val (.ref a1), .val (.ref wF)] [])) _
      refine XS.aloadN X4.here hx rfl (hb hby own_d1_32) rfl rfl ?_
      exact k
    obtain ⟨fs, hrt, hrun, hended, hW, hsame⟩ := X4.leave (v := some (.ref wF)) (fun h => by rw [Bd.returns] at h; cases h)
    refine ⟨_, _, g5 _ ?_, hrun, hended, _, _, rfl, ?_, ⟨_, rfl⟩, hW, hsame.mono (by decide) (by decide)⟩
    · show Steps p.tables e below (T4.setTop (mkF m 33 #[.val (.ref a1), .val (.ref wF)] [(.ref wF)])) _
      jvm_step X4.here [X4.here.top, hx, (hb hby own_d1_33), X4.method', Bd.returns, Value.isRef, FieldType.isReference]
      first | (intro acts; rw [hrt _ acts rfl rfl rfl]) | rw [hrt _ _ rfl rfl rfl]
      exact Steps.refl _
    · show own_Q_rmNeg Z a1 r wH wF wU h0 n0 _ T4.heap _
      rw [e4]
      exact ⟨by rw [← hr, if_pos hc2], N0, rfl⟩
  · obtain ⟨T6, X6, e6, st6⟩ := getS2 X1 hx hZ hown (host := "") (Or.inl (hw _ (List.mem_of_getElem? (i := 17) rfl))) Via.refl e1 (S_FAILS.ext O0.2) (g := (mkF m 15 #[.val (.ref a1), .unset] [(.ref a1)])) rfl (hb hby own_d1_15)
    have g8 : ∀ t, Steps p.tables e below (T6.setTop (mkF m 18 #[.val (.ref a1), .unset] [(.ref wF), (.ref a1)])) t → Steps p.tables e below (s₁.setTop (entryFrame m #[(.ref a1)] 2)) t := by
      intro t k
      refine g3 t ?_
      show Steps p.tables e below (T1.setTop (mkF m 4 #[.val (.ref a1), .unset] [(.ref wH), (.ref a1)])) _
      refine Jvm.RoadKit.acmp (g := (mkF m 4 #[.val (.ref a1), .unset] [(.ref wH), (.ref a1)])) X1 hx rfl rfl rfl (pc0 := 4) (pc' := 14) (same := false) rfl (hb hby own_d1_4) rfl (decide_eq_false fun q => hc2 (Value.ref.inj q)) (by decide) (by decide) ?_
      show Steps p.tables e below (T1.setTop (mkF m 14 #[.val (.ref a1), .unset] [])) _
      refine XS.aloadN X1.here hx rfl (hb hby own_d1_14) rfl rfl ?_
      show Steps p.tables e below (T1.setTop (mkF m 15 #[.val (.ref a1), .unset] [(.ref a1)])) _
      refine st6 _ ?_
      exact k
    by_cases hc7 : a1 = wF
    · obtain ⟨T9, X9, e9, st9⟩ := getS2 X6 hx hZ hown (host := "") (Or.inl (hw _ (List.mem_of_getElem? (i := 16) rfl))) Via.refl e6 (S_HOLDS.ext O0.2) (g := (mkF m 21 #[.val (.ref a1), .unset] [])) rfl (hb hby own_d1_21)
      have g10 : ∀ t, Steps p.tables e below (T9.setTop (mkF m 33 #[.val (.ref a1), .val (.ref wH)] [(.ref wH)])) t → Steps p.tables e below (s₁.setTop (entryFrame m #[(.ref a1)] 2)) t := by
        intro t k
        refine g8 t ?_
        show Steps p.tables e below (T6.setTop (mkF m 18 #[.val (.ref a1), .unset] [(.ref wF), (.ref a1)])) _
        refine Jvm.RoadKit.acmp (g := (mkF m 18 #[.val (.ref a1), .unset] [(.ref wF), (.ref a1)])) X6 hx rfl rfl rfl (pc0 := 18) (pc' := 21) (same := true) rfl (hb hby own_d1_18) rfl (decide_eq_true (congrArg Value.ref hc7)) (by decide) (by decide) ?_
        show Steps p.tables e below (T6.setTop (mkF m 21 #[.val (.ref a1), .unset] [])) _
        refine st9 _ ?_
        show Steps p.tables e below (T9.setTop (mkF m 24 #[.val (.ref a1), .unset] [(.ref wH)])) _
        refine XS.astoreN X9.here hx rfl (hb hby own_d1_24) rfl rfl (l' := #[.val (.ref a1), .val (.ref wH)]) rfl ?_
        show Steps p.tables e below (T9.setTop (mkF m 25 #[.val (.ref a1), .val (.ref wH)] [])) _
        refine XS.goto X9.here hx rfl (pc0 := 25) (pc' := 32) rfl (hb hby own_d1_25) (by decide) (by decide) ?_
        show Steps p.tables e below (T9.setTop (mkF m 32 #[.val (.ref a1), .val (.ref wH)] [])) _
        refine XS.aloadN X9.here hx rfl (hb hby own_d1_32) rfl rfl ?_
        exact k
      obtain ⟨fs, hrt, hrun, hended, hW, hsame⟩ := X9.leave (v := some (.ref wH)) (fun h => by rw [Bd.returns] at h; cases h)
      refine ⟨_, _, g10 _ ?_, hrun, hended, _, _, rfl, ?_, ⟨_, rfl⟩, hW, hsame.mono (by decide) (by decide)⟩
      · show Steps p.tables e below (T9.setTop (mkF m 33 #[.val (.ref a1), .val (.ref wH)] [(.ref wH)])) _
        jvm_step X9.here [X9.here.top, hx, (hb hby own_d1_33), X9.method', Bd.returns, Value.isRef, FieldType.isReference]
        first | (intro acts; rw [hrt _ acts rfl rfl rfl]) | rw [hrt _ _ rfl rfl rfl]
        exact Steps.refl _
      · show own_Q_rmNeg Z a1 r wH wF wU h0 n0 _ T9.heap _
        rw [e9]
        exact ⟨by rw [← hr, if_neg hc2, if_pos hc7], N0, rfl⟩
    · obtain ⟨T11, X11, e11, st11⟩ := getS2 X6 hx hZ hown (host := "") (Or.inl (hw _ (List.mem_of_getElem? (i := 21) rfl))) Via.refl e6 (S_UNKNOWN.ext O0.2) (g := (mkF m 28 #[.val (.ref a1), .unset] [])) rfl (hb hby own_d1_28)
      have g12 : ∀ t, Steps p.tables e below (T11.setTop (mkF m 33 #[.val (.ref a1), .val (.ref wU)] [(.ref wU)])) t → Steps p.tables e below (s₁.setTop (entryFrame m #[(.ref a1)] 2)) t := by
        intro t k
        refine g8 t ?_
        show Steps p.tables e below (T6.setTop (mkF m 18 #[.val (.ref a1), .unset] [(.ref wF), (.ref a1)])) _
        refine Jvm.RoadKit.acmp (g := (mkF m 18 #[.val (.ref a1), .unset] [(.ref wF), (.ref a1)])) X6 hx rfl rfl rfl (pc0 := 18) (pc' := 28) (same := false) rfl (hb hby own_d1_18) rfl (decide_eq_false fun q => hc7 (Value.ref.inj q)) (by decide) (by decide) ?_
        show Steps p.tables e below (T6.setTop (mkF m 28 #[.val (.ref a1), .unset] [])) _
        refine st11 _ ?_
        show Steps p.tables e below (T11.setTop (mkF m 31 #[.val (.ref a1), .unset] [(.ref wU)])) _
        refine XS.astoreN X11.here hx rfl (hb hby own_d1_31) rfl rfl (l' := #[.val (.ref a1), .val (.ref wU)]) rfl ?_
        show Steps p.tables e below (T11.setTop (mkF m 32 #[.val (.ref a1), .val (.ref wU)] [])) _
        refine XS.aloadN X11.here hx rfl (hb hby own_d1_32) rfl rfl ?_
        exact k
      obtain ⟨fs, hrt, hrun, hended, hW, hsame⟩ := X11.leave (v := some (.ref wU)) (fun h => by rw [Bd.returns] at h; cases h)
      refine ⟨_, _, g12 _ ?_, hrun, hended, _, _, rfl, ?_, ⟨_, rfl⟩, hW, hsame.mono (by decide) (by decide)⟩
      · show Steps p.tables e below (T11.setTop (mkF m 33 #[.val (.ref a1), .val (.ref wU)] [(.ref wU)])) _
        jvm_step X11.here [X11.here.top, hx, (hb hby own_d1_33), X11.method', Bd.returns, Value.isRef, FieldType.isReference]
        first | (intro acts; rw [hrt _ acts rfl rfl rfl]) | rw [hrt _ _ rfl rfl rfl]
        exact Steps.refl _
      · show own_Q_rmNeg Z a1 r wH wF wU h0 n0 _ T11.heap _
        rw [e11]
        exact ⟨by rw [← hr, if_neg hc2, if_neg hc7], N0, rfl⟩
theorem own_ef2 (m : MethodId) (x0 : Int32) : entryFrame m #[(.int x0)] 1 = mkF m 0 #[.val (.int x0)] [] := by first | (simp [entryFrame, mkF, argsToLocals, Value.category]; done) | rfl
theorem own_d2_0 : decode prog_26_method_4_code 0 = .ok (.iload_n 0, 1) := by decide +kernel
theorem own_d2_1 : decode prog_26_method_4_code 1 = .ok (.ifCond .eq 9, 3) := by decide +kernel
theorem own_d2_10 : decode prog_26_method_4_code 10 = .ok (.getstatic 7, 3) := by decide +kernel
theorem own_d2_13 : decode prog_26_method_4_code 13 = .ok (.areturn, 1) := by decide +kernel
theorem own_d2_4 : decode prog_26_method_4_code 4 = .ok (.getstatic 3, 3) := by decide +kernel
theorem own_d2_7 : decode prog_26_method_4_code 7 = .ok (.goto 6, 3) := by decide +kernel
def own_Q_rmOf (Z : State) (p1 : Int32) (r : Addr) (wH wF wU : Addr) (h0 : Heap) (n0 : Nat) (v : Option Value) (h : Heap) (L : List Loc) : Prop := v = some (.ref r) ∧ Fr n0 L ∧ h = h0
set_option maxRecDepth 65536 in
set_option maxHeartbeats 40000000 in
theorem rmOf (l : Launch) (Z : State) (a0 : Array Value) (hw : ∀ d ∈ tables_1, d.before a0 Z = true) (ws : List Jvm.Cond) (p1 : Int32) (r : Addr) (wH wF wU : Addr) (h0 : Heap) (n0 : Nat) (O0 : Old Z n0 h0) (G : own_Gl Z wH wF wU) (hr : (if p1 = (0 : Int32) then wF else wH) = r) :
    MetFree l (⟨"com/example/frugal_nets/frugalnets/check/Verdict", "of", "(Z)Lcom/example/frugal_nets/frugalnets/check/Verdict;"⟩ : MethodName) (head1 (Jvm.Cond.code (⟨"com/example/frugal_nets/frugalnets/check/Verdict", "of", "(Z)Lcom/example/frugal_nets/frugalnets/check/Verdict;"⟩ : MethodName) prog_26_method_4_code 1 (some (.object "com/example/frugal_nets/frugalnets/check/Verdict")) :: ws) ({ frames := 0, cells := 0, slots := 0, locals := 0 } : Room)) (fun a U => a = #[(.int p1)] ∧ Z.Warmed39 U.vm ∧ U.heap = h0) (fun _ _ _ _ _ => True) (fun _ U o U' => ∃ v L, o = .returned v ∧ own_Q_rmOf Z p1 r wH wF wU h0 n0 v U'.heap L ∧ FrameEnd U o U' L ({ frames := 0, cells := 0, slots := 0, locals := 0 } : Room).cells ({ frames := 0, cells := 0, slots := 0, locals := 0 } : Room).slots) := by
  refine MetFree.of_bodySF (plainFor_of_name own_pn0) hisR ?_
  intro p e s m args below meth c s₁ Bd hml0 hP hK
  obtain ⟨rfl, hZ, hh⟩ := hP
  have hx := Bd.exec
  have hby := Bd.bytes
  have hml : c.maxLocals = 1 := hml0
  have hown : s.vm.findClass "com/example/frugal_nets/frugalnets/check/Verdict" = some m.cls := findClass_of_methodNamed Bd.named
  have hnm := (name_of_methodNamed Bd.named Bd.method).1
  have X0 : Stand p l e ({ frames := 0, cells := 0, slots := 0, locals := 0 } : Room) s m #[(.int p1)] below meth c s₁ [] 0 0 := Stand.of_body Bd
  have e0 : s₁.heap = h0 := by rw [← hh, Bd.state]; rfl
  have N0 := Fr.nil n0
  have Z0 : n0 ≤ h0.size := O0.1 ▸ O0.2.1
  have g0 : ∀ t, Steps p.tables e below (s₁.setTop (mkF m 0 #[.val (.int p1)] [])) t → Steps p.tables e below (s₁.setTop (entryFrame m #[(.int p1)] 1)) t := fun t k => castTop (own_ef2 m (p1)) k
  have G0 := G
  obtain ⟨S_HOLDS, S_FAILS, S_UNKNOWN, Ex_HOLDS, Ex_FAILS, Ex_UNKNOWN⟩ := G
  have g2 : ∀ t, Steps p.tables e below (s₁.setTop (mkF m 1 #[.val (.int p1)] [(.int p1)])) t → Steps p.tables e below (s₁.setTop (entryFrame m #[(.int p1)] 1)) t := by
    intro t k
    refine g0 t ?_
    show Steps p.tables e below (s₁.setTop (mkF m 0 #[.val (.int p1)] [])) _
    refine XS.iloadN X0.here hx rfl (hb hby own_d2_0) rfl ?_
    exact k
  by_cases hc1 : p1 = (0 : Int32)
  · obtain ⟨T3, X3, e3, st3⟩ := getS2 X0 hx hZ hown (host := "") (Or.inl (hw _ (List.mem_of_getElem? (i := 17) rfl))) Via.refl e0 (S_FAILS.ext O0.2) (g := (mkF m 10 #[.val (.int p1)] [])) rfl (hb hby own_d2_10)
    have g4 : ∀ t, Steps p.tables e below (T3.setTop (mkF m 13 #[.val (.int p1)] [(.ref wF)])) t → Steps p.tables e below (s₁.setTop (entryFrame m #[(.int p1)] 1)) t := by
      intro t k
      refine g2 t ?_
      show Steps p.tables e below (s₁.setTop (mkF m 1 #[.val (.int p1)] [(.int p1)])) _
      refine XS.ifYes X0.here hx rfl (pc0 := 1) (pc' := 10) rfl (hb hby own_d2_1) rfl ((if0 _ _).trans (teq hc1).1) (by decide) (by decide) ?_
      show Steps p.tables e below (s₁.setTop (mkF m 10 #[.val (.int p1)] [])) _
      refine st3 _ ?_
      exact k
    obtain ⟨fs, hrt, hrun, hended, hW, hsame⟩ := X3.leave (v := some (.ref wF)) (fun h => by rw [Bd.returns] at h; cases h)
    refine ⟨_, _, g4 _ ?_, hrun, hended, _, _, rfl, ?_, ⟨_, rfl⟩, hW, hsame.mono (by decide) (by decide)⟩
    · show Steps p.tables e below (T3.setTop (mkF m 13 #[.val (.int p1)] [(.ref wF)])) _
      jvm_step X3.here [X3.here.top, hx, (hb hby own_d2_13), X3.method', Bd.returns, Value.isRef, FieldType.isReference]
      first | (intro acts; rw [hrt _ acts rfl rfl rfl]) | rw [hrt _ _ rfl rfl rfl]
      exact Steps.refl _
    · show own_Q_rmOf Z p1 r wH wF wU h0 n0 _ T3.heap _
      rw [e3]
      exact ⟨by rw [← hr, if_pos hc1], N0, rfl⟩
  · obtain ⟨T5, X5, e5, st5⟩ := getS2 X0 hx hZ hown (host := "") (Or.inl (hw _ (List.mem_of_getElem? (i := 16) rfl))) Via.refl e0 (S_HOLDS.ext O0.2) (g := (mkF m 4 #[.val (.int p1)] [])) rfl (hb hby own_d2_4)
    have g6 : ∀ t, Steps p.tables e below (T5.setTop (mkF m 13 #[.val (.int p1)] [(.ref wH)])) t → Steps p.tables e below (s₁.setTop (entryFrame m #[(.int p1)] 1)) t := by
      intro t k
      refine g2 t ?_
      show Steps p.tables e below (s₁.setTop (mkF m 1 #[.val (.int p1)] [(.int p1)])) _
      refine XS.ifNo X0.here hx rfl (hb hby own_d2_1) rfl ((if0 _ _).trans (feq hc1).1) ?_
      show Steps p.tables e below (s₁.setTop (mkF m 4 #[.val (.int p1)] [])) _
      refine st5 _ ?_
      show Steps p.tables e below (T5.setTop (mkF m 7 #[.val (.int p1)] [(.ref wH)])) _
      refine XS.goto X5.here hx rfl (pc0 := 7) (pc' := 13) rfl (hb hby own_d2_7) (by decide) (by decide) ?_
      exact k
    obtain ⟨fs, hrt, hrun, hended, hW, hsame⟩ := X5.leave (v := some (.ref wH)) (fun h => by rw [Bd.returns] at h; cases h)
    refine ⟨_, _, g6 _ ?_, hrun, hended, _, _, rfl, ?_, ⟨_, rfl⟩, hW, hsame.mono (by decide) (by decide)⟩
    · show Steps p.tables e below (T5.setTop (mkF m 13 #[.val (.int p1)] [(.ref wH)])) _
      jvm_step X5.here [X5.here.top, hx, (hb hby own_d2_13), X5.method', Bd.returns, Value.isRef, FieldType.isReference]
      first | (intro acts; rw [hrt _ acts rfl rfl rfl]) | rw [hrt _ _ rfl rfl rfl]
      exact Steps.refl _
    · show own_Q_rmOf Z p1 r wH wF wU h0 n0 _ T5.heap _
      rw [e5]
      exact ⟨by rw [← hr, if_neg hc1], N0, rfl⟩
theorem own_ef3 (m : MethodId) (x0 : Int32) (x1 : Int32) : entryFrame m #[(.int x0), (.int x1)] maxLocals = mkF m 0 #[.val (.int x0), .val (.int x1), .unset, .unset, .unset, .unset, .unset, .unset, .unset, .unset] [] := by first | (simp [entryFrame, mkF, argsToLocals, Value.category, maxLocals]; done) | rfl
theorem own_pn1 : plainName "com/example/frugal_nets/frugalnets/check/VerdictNegatedPinLaw" = true := by first | (simp [plainName, overriddenIn]; done) | decide +kernel
theorem own_pd0 : parseMethodDescriptor "()Lcom/example/frugal_nets/frugalnets/check/Verdict;" = some ⟨[], some (.object "com/example/frugal_nets/frugalnets/check/Verdict")⟩ := by decide +kernel
theorem own_pd1 : parseMethodDescriptor "(Z)Lcom/example/frugal_nets/frugalnets/check/Verdict;" = some ⟨[.boolean], some (.object "com/example/frugal_nets/frugalnets/check/Verdict")⟩ := by decide +kernel
def own_Q_rm0 (Z : State) (p1 p2 : Int32) (wH wF wU : Addr) (h0 : Heap) (n0 : Nat) (v : Option Value) (h : Heap) (L : List Loc) : Prop := v = some (.int (1 : Int32)) ∧ Fr n0 L
set_option maxRecDepth 65536 in
set_option maxHeartbeats 40000000 in
theorem rm0 (l : Launch) (Z : State) (a0 : Array Value) (hw : ∀ d ∈ tables_1, d.before a0 Z = true) (ws : List Jvm.Cond) (p1 p2 : Int32) (wH wF wU : Addr) (h0 : Heap) (n0 : Nat) (O0 : Old Z n0 h0) (G : own_Gl Z wH wF wU) (hHF : wH ≠ wF) (hHU : wH ≠ wU) (hFU : wF ≠ wU) :
    MetFree l x (head1 (Jvm.Cond.code x code maxLocals ret :: ws) room_1) (fun a U => a = #[(.int p1), (.int p2)] ∧ Z.Warmed39 U.vm ∧ U.heap = h0) (fun _ _ _ _ _ => True) (fun _ U o U' => ∃ v L, o = .returned v ∧ own_Q_rm0 Z p1 p2 wH wF wU h0 n0 v U'.heap L ∧ FrameEnd U o U' L room_1.cells room_1.slots) := by
  refine MetFree.of_bodySF (plainFor_of_name own_pn1) hisR ?_
  intro p e s m args below meth c s₁ Bd hml0 hP hK
  obtain ⟨rfl, hZ, hh⟩ := hP
  have hx := Bd.exec
  have hby := Bd.bytes
  have hml : c.maxLocals = 10 := hml0
  have hown : s.vm.findClass "com/example/frugal_nets/frugalnets/check/VerdictNegatedPinLaw" = some m.cls := findClass_of_methodNamed Bd.named
  have hnm := (name_of_methodNamed Bd.named Bd.method).1
  have X0 : Stand p l e room_1 s m #[(.int p1), (.int p2)] below meth c s₁ [] 0 0 := Stand.of_body Bd
  have e0 : s₁.heap = h0 := by rw [← hh, Bd.state]; rfl
  have N0 := Fr.nil n0
  have Z0 : n0 ≤ h0.size := O0.1 ▸ O0.2.1
  have g0 : ∀ t, Steps p.tables e below (s₁.setTop (mkF m 0 #[.val (.int p1), .val (.int p2), .unset, .unset, .unset, .unset, .unset, .unset, .unset, .unset] [])) t → Steps p.tables e below (s₁.setTop (entryFrame m #[(.int p1), (.int p2)] maxLocals)) t := fun t k => castTop (own_ef3 m (p1) (p2)) k
  have G0 := G
  obtain ⟨S_HOLDS, S_FAILS, S_UNKNOWN, Ex_HOLDS, Ex_FAILS, Ex_UNKNOWN⟩ := G
  obtain ⟨T1, h1, k1, X1, e1, E1, A1, Ov1, st1⟩ := newR X0 hx hZ hown (hw _ (List.mem_of_getElem? (i := 0) rfl)) (hw _ (List.mem_of_getElem? (i := 1) rfl)) e0 (g := (mkF m 1 #[.val (.int p1), .val (.int p2), .unset, .unset, .unset, .unset, .unset, .unset, .unset, .unset] [(.int (3 : Int32))])) rfl (hb hby at_1) rfl (by decide) (cap := 3) (by decide) (by decide) (by decide) (by decide)
  obtain ⟨b1, q_b1⟩ : ∃ z, z = h0.size := ⟨_, rfl⟩
  rw [← q_b1] at A1 st1
  have sz_b1 : h0.size ≤ b1 := Nat.le_of_eq q_b1.symm
  have gz_b1 : n0 ≤ b1 := Nat.le_trans Z0 sz_b1
  have V1 : Arv Z h1 b1 k1 (.object "com/example/frugal_nets/frugalnets/check/Verdict") (3 : Int32) [.null, .null, .null] .null := (Arv.new A1 (by decide)).pad (pad_rep [] .null 3)
  have o2 : Old Z n0 h1 := (Old.ext O0 E1)
  obtain ⟨T3, X3, e3, st3⟩ := getS2 X1 hx hZ hown (host := "") (Or.inl (hw _ (List.mem_of_getElem? (i := 2) rfl))) Via.refl e1 (S_HOLDS.ext o2.2) (g := (mkF m 6 #[.val (.int p1), .val (.int p2), .unset, .unset, .unset, .unset, .unset, .unset, .unset, .unset] [(.int (0 : Int32)), (.ref b1), (.ref b1)])) rfl (hb hby at_6)
  obtain ⟨c4, Ar4, cq4, S4, Nn4, Hh4, Gg4⟩ := id V1
  have hin4 : ¬ ((0 : Int32) < 0 ∨ c4.slots.size ≤ ((0 : Int32)).toNatClampNeg) := inb_of S4 ⟨by decide, by decide⟩
  obtain ⟨T5, h5, X5, e5, W5, st5⟩ := stR X3 hx hZ e3 Ar4 (j := (0 : Int32)) hin4 rfl (Sto.ofV Ar4 cq4 Ov1 (Ins.self (Ex_HOLDS.ext o2.2))) (g := (mkF m 9 #[.val (.int p1), .val (.int p2), .unset, .unset, .unset, .unset, .unset, .unset, .unset, .unset] [(.ref wH), (.int (0 : Int32)), (.ref b1), (.ref b1)])) rfl rfl (hb hby at_9)
  have V5 := Arv.set Ar4 cq4 S4 Nn4 Hh4 Gg4 rfl W5 0 rfl (Nat.le_of_ble_eq_true rfl)
  have V5a : Arv Z h5 b1 k1 (.object "com/example/frugal_nets/frugalnets/check/Verdict") (3 : Int32) [(.ref wH), .null, .null] .null := V5
  have N5 := Fr.snoc X5 N0 gz_b1
  have o6 : Old Z n0 h5 := (Old.wr o2 W5 gz_b1)
  obtain ⟨T7, X7, e7, st7⟩ := getS2 X5 hx hZ hown (host := "") (Or.inl (hw _ (List.mem_of_getElem? (i := 6) rfl))) Via.refl e5 (S_FAILS.ext o6.2) (g := (mkF m 12 #[.val (.int p1), .val (.int p2), .unset, .unset, .unset, .unset, .unset, .unset, .unset, .unset] [(.int (1 : Int32)), (.ref b1), (.ref b1)])) rfl (hb hby at_12)
  obtain ⟨c8, Ar8, cq8, S8, Nn8, Hh8, Gg8⟩ := id V5a
  have hin8 : ¬ ((1 : Int32) < 0 ∨ c8.slots.size ≤ ((1 : Int32)).toNatClampNeg) := inb_of S8 ⟨by decide, by decide⟩
  obtain ⟨T9, h9, X9, e9, W9, st9⟩ := stR X7 hx hZ e7 Ar8 (j := (1 : Int32)) hin8 rfl (Sto.ofV Ar8 cq8 Ov1 (Ins.self (Ex_FAILS.ext o6.2))) (g := (mkF m 15 #[.val (.int p1), .val (.int p2), .unset, .unset, .unset, .unset, .unset, .unset, .unset, .unset] [(.ref wF), (.int (1 : Int32)), (.ref b1), (.ref b1)])) rfl rfl (hb hby at_15)
  have V9 := Arv.set Ar8 cq8 S8 Nn8 Hh8 Gg8 rfl W9 1 rfl (Nat.le_of_ble_eq_true rfl)
  have V9a : Arv Z h9 b1 k1 (.object "com/example/frugal_nets/frugalnets/check/Verdict") (3 : Int32) [(.ref wH), (.ref wF), .null] .null := V9
  have N9 := Fr.snoc X9 N5 gz_b1
  have o10 : Old Z n0 h9 := (Old.wr o6 W9 gz_b1)
  obtain ⟨T11, X11, e11, st11⟩ := getS2 X9 hx hZ hown (host := "") (Or.inl (hw _ (List.mem_of_getElem? (i := 8) rfl))) Via.refl e9 (S_UNKNOWN.ext o10.2) (g := (mkF m 18 #[.val (.int p1), .val (.int p2), .unset, .unset, .unset, .unset, .unset, .unset, .unset, .unset] [(.int (2 : Int32)), (.ref b1), (.ref b1)])) rfl (hb hby at_18)
  obtain ⟨c12, Ar12, cq12, S12, Nn12, Hh12, Gg12⟩ := id V9a
  have hin12 : ¬ ((2 : Int32) < 0 ∨ c12.slots.size ≤ ((2 : Int32)).toNatClampNeg) := inb_of S12 ⟨by decide, by decide⟩
  obtain ⟨T13, h13, X13, e13, W13, st13⟩ := stR X11 hx hZ e11 Ar12 (j := (2 : Int32)) hin12 rfl (Sto.ofV Ar12 cq12 Ov1 (Ins.self (Ex_UNKNOWN.ext o10.2))) (g := (mkF m 21 #[.val (.int p1), .val (.int p2), .unset, .unset, .unset, .unset, .unset, .unset, .unset, .unset] [(.ref wU), (.int (2 : Int32)), (.ref b1), (.ref b1)])) rfl rfl (hb hby at_21)
  have V13 := Arv.set Ar12 cq12 S12 Nn12 Hh12 Gg12 rfl W13 2 rfl (Nat.le_of_ble_eq_true rfl)
  have V13a : Arv Z h13 b1 k1 (.object "com/example/frugal_nets/frugalnets/check/Verdict") (3 : Int32) [(.ref wH), (.ref wF), (.ref wU)] .null := V13
  have N13 := Fr.snoc X13 N9 gz_b1
  obtain ⟨ix, hv_ix⟩ : ∃ z : Int32, z = ((p1 &&& (2147483647 : Int32)) % (3 : Int32)) := ⟨_, rfl⟩
  have g14 : ∀ t, Steps p.tables e below (T13.setTop (mkF m 30 #[.val (.int p1), .val (.int p2), .val (.ref b1), .unset, .unset, .unset, .unset, .unset, .unset, .unset] [(.int ix), (.ref b1)])) t → Steps p.tables e below (s₁.setTop (entryFrame m #[(.int p1), (.int p2)] maxLocals)) t := by
    intro t k
    rw [hv_ix] at k
    refine g0 t ?_
    show Steps p.tables e below (s₁.setTop (mkF m 0 #[.val (.int p1), .val (.int p2), .unset, .unset, .unset, .unset, .unset, .unset, .unset, .unset] [])) _
    refine XS.iconst X0.here hx rfl (hb hby at_0) ?_
    show Steps p.tables e below (s₁.setTop (mkF m 1 #[.val (.int p1), .val (.int p2), .unset, .unset, .unset, .unset, .unset, .unset, .unset, .unset] [(.int (3 : Int32))])) _
    refine st1 _ ?_
    show Steps p.tables e below (T1.setTop (mkF m 4 #[.val (.int p1), .val (.int p2), .unset, .unset, .unset, .unset, .unset, .unset, .unset, .unset] [(.ref b1)])) _
    refine XS.dup X1.here hx rfl (hb hby at_4) rfl rfl ?_
    show Steps p.tables e below (T1.setTop (mkF m 5 #[.val (.int p1), .val (.int p2), .unset, .unset, .unset, .unset, .unset, .unset, .unset, .unset] [(.ref b1), (.ref b1)])) _
    refine XS.iconst X1.here hx rfl (hb hby at_5) ?_
    show Steps p.tables e below (T1.setTop (mkF m 6 #[.val (.int p1), .val (.int p2), .unset, .unset, .unset, .unset, .unset, .unset, .unset, .unset] [(.int (0 : Int32)), (.ref b1), (.ref b1)])) _
    refine st3 _ ?_
    show Steps p.tables e below (T3.setTop (mkF m 9 #[.val (.int p1), .val (.int p2), .unset, .unset, .unset, .unset, .unset, .unset, .unset, .unset] [(.ref wH), (.int (0 : Int32)), (.ref b1), (.ref b1)])) _
    refine st5 _ ?_
    show Steps p.tables e below (T5.setTop (mkF m 10 #[.val (.int p1), .val (.int p2), .unset, .unset, .unset, .unset, .unset, .unset, .unset, .unset] [(.ref b1)])) _
    refine XS.dup X5.here hx rfl (hb hby at_10) rfl rfl ?_
    show Steps p.tables e below (T5.setTop (mkF m 11 #[.val (.int p1), .val (.int p2), .unset, .unset, .unset, .unset, .unset, .unset, .unset, .unset] [(.ref b1), (.ref b1)])) _
    refine XS.iconst X5.here hx rfl (hb hby at_11) ?_
    show Steps p.tables e below (T5.setTop (mkF m 12 #[.val (.int p1), .val (.int p2), .unset, .unset, .unset, .unset, .unset, .unset, .unset, .unset] [(.int (1 : Int32)), (.ref b1), (.ref b1)])) _
    refine st7 _ ?_
    show Steps p.tables e below (T7.setTop (mkF m 15 #[.val (.int p1), .val (.int p2), .unset, .unset, .unset, .unset, .unset, .unset, .unset, .unset] [(.ref wF), (.int (1 : Int32)), (.ref b1), (.ref b1)])) _
    refine st9 _ ?_
    show Steps p.tables e below (T9.setTop (mkF m 16 #[.val (.int p1), .val (.int p2), .unset, .unset, .unset, .unset, .unset, .unset, .unset, .unset] [(.ref b1)])) _
    refine XS.dup X9.here hx rfl (hb hby at_16) rfl rfl ?_
    show Steps p.tables e below (T9.setTop (mkF m 17 #[.val (.int p1), .val (.int p2), .unset, .unset, .unset, .unset, .unset, .unset, .unset, .unset] [(.ref b1), (.ref b1)])) _
    refine XS.iconst X9.here hx rfl (hb hby at_17) ?_
    show Steps p.tables e below (T9.setTop (mkF m 18 #[.val (.int p1), .val (.int p2), .unset, .unset, .unset, .unset, .unset, .unset, .unset, .unset] [(.int (2 : Int32)), (.ref b1), (.ref b1)])) _
    refine st11 _ ?_
    show Steps p.tables e below (T11.setTop (mkF m 21 #[.val (.int p1), .val (.int p2), .unset, .unset, .unset, .unset, .unset, .unset, .unset, .unset] [(.ref wU), (.int (2 : Int32)), (.ref b1), (.ref b1)])) _
    refine st13 _ ?_
    show Steps p.tables e below (T13.setTop (mkF m 22 #[.val (.int p1), .val (.int p2), .unset, .unset, .unset, .unset, .unset, .unset, .unset, .unset] [(.ref b1)])) _
    refine XS.astoreN X13.here hx rfl (hb hby at_22) rfl rfl (l' := #[.val (.int p1), .val (.int p2), .val (.ref b1), .unset, .unset, .unset, .unset, .unset, .unset, .unset]) rfl ?_
    show Steps p.tables e below (T13.setTop (mkF m 23 #[.val (.int p1), .val (.int p2), .val (.ref b1), .unset, .unset, .unset, .unset, .unset, .unset, .unset] [])) _
    refine XS.aloadN X13.here hx rfl (hb hby at_23) rfl rfl ?_
    show Steps p.tables e below (T13.setTop (mkF m 24 #[.val (.int p1), .val (.int p2), .val (.ref b1), .unset, .unset, .unset, .unset, .unset, .unset, .unset] [(.ref b1)])) _
    refine XS.iloadN X13.here hx rfl (hb hby at_24) rfl ?_
    show Steps p.tables e below (T13.setTop (mkF m 25 #[.val (.int p1), .val (.int p2), .val (.ref b1), .unset, .unset, .unset, .unset, .unset, .unset, .unset] [(.int p1), (.ref b1)])) _
    refine X13.ldcInt hx hown (mvT hZ (hw _ (List.mem_of_getElem? (i := 10) rfl))) (g := (mkF m 25 #[.val (.int p1), .val (.int p2), .val (.ref b1), .unset, .unset, .unset, .unset, .unset, .unset, .unset] [(.int p1), (.ref b1)])) rfl (hb hby at_25) _ ?_
    show Steps p.tables e below (T13.setTop (mkF m 27 #[.val (.int p1), .val (.int p2), .val (.ref b1), .unset, .unset, .unset, .unset, .unset, .unset, .unset] [(.int (2147483647 : Int32)), (.int p1), (.ref b1)])) _
    refine XS.iand X13.here hx rfl (hb hby at_27) rfl ?_
    show Steps p.tables e below (T13.setTop (mkF m 28 #[.val (.int p1), .val (.int p2), .val (.ref b1), .unset, .unset, .unset, .unset, .unset, .unset, .unset] [(.int (p1 &&& (2147483647 : Int32))), (.ref b1)])) _
    refine XS.iconst X13.here hx rfl (hb hby at_28) ?_
    show Steps p.tables e below (T13.setTop (mkF m 29 #[.val (.int p1), .val (.int p2), .val (.ref b1), .unset, .unset, .unset, .unset, .unset, .unset, .unset] [(.int (3 : Int32)), (.int (p1 &&& (2147483647 : Int32))), (.ref b1)])) _
    refine XS.irem X13.here hx rfl (hb hby at_29) rfl (by decide) ?_
    rw [own_irem]
    exact k
  rcases (own_mod3 _ _ hv_ix : ix = (0 : Int32) ∨ ix = (1 : Int32) ∨ ix = (2 : Int32)) with rfl | rfl | rfl
  · skip
    obtain ⟨c15, Ar15, cq15, S15, Nn15, Hh15, Gg15⟩ := id V13a
    have hin15 : ¬ ((0 : Int32) < 0 ∨ c15.slots.size ≤ ((0 : Int32)).toNatClampNeg) := inb_of S15 ⟨by decide, by decide⟩
    have hat15 : c15.slots[((0 : Int32)).toNatClampNeg]? = some (.ref wH) := Has.at Hh15 hin15 rfl
    have o16 : Old Z n0 h13 := (Old.wr o10 W13 gz_b1)
    obtain ⟨cq17, kq17, q17a, q17b, q17c⟩ := isOf hZ e13 (Ex_HOLDS.ext o16.2)
    obtain ⟨_, _, ⟨T17, L17, k17, n17⟩, -, X17, ⟨Lc17, hQ17, l17, y17, z17⟩, st17⟩ := X13.virtualBack hx (y := (⟨"com/example/frugal_nets/frugalnets/check/Verdict", "negated", "()Lcom/example/frugal_nets/frugalnets/check/Verdict;"⟩ : MethodName)) (z := (⟨"com/example/frugal_nets/frugalnets/check/Verdict", "negated", "()Lcom/example/frugal_nets/frugalnets/check/Verdict;"⟩ : MethodName)) hown (mvT hZ (hw _ (List.mem_of_getElem? (i := 11) rfl))) (mvT hZ (hw _ (List.mem_of_getElem? (i := 12) rfl))) (notFace_of_selects (args := #[]) (mvT hZ (hw _ (List.mem_of_getElem? (i := 14) rfl)))) (mvT hZ (hw _ (List.mem_of_getElem? (i := 14) rfl))) (mvT hZ (hw _ (List.mem_of_getElem? (i := 13) rfl))) (by decide) (backOf (W := 0) (rmNeg l Z a0 hw [] wH wF wH wF wU h13 n0 o16 G0 (by simp [hHF, hHU, hFU, Ne.symm hHF, Ne.symm hHU, Ne.symm hFU])) hZ (hw _ (List.mem_of_getElem? (i := 15) rfl)) (hw _ (List.mem_of_getElem? (i := 3) rfl)) (by decide) (by decide)) q17a q17c (g := (mkF m 33 #[.val (.int p1), .val (.int p2), .val (.ref b1), .val (.ref wH), .unset, .unset, .unset, .unset, .unset, .unset] [(.ref wH)])) rfl (by rw [hml]; rfl) (Steps.refl _) (argsL := []) (rest := []) (lenOf own_pd0 rfl) rfl (by show 2 * 0 + _ ≤ _; exact Nat.le_of_eq rfl) (hb hby at_33) (fun _ _ => ⟨rfl, e13, (by decide : 1 + 0 ≤ _), (by decide : 3 + 0 ≤ _)⟩)
    dsimp only [Pt.U, Pt.locs, Pt.cells, Pt.slots] at X17 l17 y17 z17 st17 hQ17
    subst l17 y17 z17
    obtain ⟨rfl, Nq17, e17⟩ := hQ17
    have N17 := Fr.app N13 Nq17
    obtain ⟨T18, X18, e18, st18⟩ := getS2 X17 hx hZ hown (host := "") (Or.inl (hw _ (List.mem_of_getElem? (i := 8) rfl))) Via.refl e17 (S_UNKNOWN.ext o16.2) (g := (mkF m 46 #[.val (.int p1), .val (.int p2), .val (.ref b1), .val (.ref wH), .val (.ref wF), .unset, .unset, .unset, .unset, .unset] [(.ref wH)])) rfl (hb hby at_46)
    have hc19 : ¬ (wH = wU) := hHU
    obtain ⟨T20, X20, e20, st20⟩ := getS2 X18 hx hZ hown (host := "") (Or.inl (hw _ (List.mem_of_getElem? (i := 8) rfl))) Via.refl e18 (S_UNKNOWN.ext o16.2) (g := (mkF m 59 #[.val (.int p1), .val (.int p2), .val (.ref b1), .val (.ref wH), .val (.ref wF), .unset, .unset, .unset, .unset, .unset] [(.ref wF), (.int (0 : Int32))])) rfl (hb hby at_59)
    have hc21 : ¬ (wF = wU) := hFU
    obtain ⟨T22, X22, e22, st22⟩ := getS2 X20 hx hZ hown (host := "") (Or.inl (hw _ (List.mem_of_getElem? (i := 2) rfl))) Via.refl e20 (S_HOLDS.ext o16.2) (g := (mkF m 81 #[.val (.int p1), .val (.int p2), .val (.ref b1), .val (.ref wH), .val (.ref wF), .val (.int (1 : Int32)), .unset, .unset, .unset, .unset] [(.ref wH)])) rfl (hb hby at_81)
    obtain ⟨T23, X23, e23, st23⟩ := getS2 X22 hx hZ hown (host := "") (Or.inl (hw _ (List.mem_of_getElem? (i := 6) rfl))) Via.refl e22 (S_FAILS.ext o16.2) (g := (mkF m 94 #[.val (.int p1), .val (.int p2), .val (.ref b1), .val (.ref wH), .val (.ref wF), .val (.int (1 : Int32)), .unset, .unset, .unset, .unset] [(.ref wF), (.int (1 : Int32))])) rfl (hb hby at_94)
    obtain ⟨cq24, kq24, q24a, q24b, q24c⟩ := isOf hZ e23 (Ex_FAILS.ext o16.2)
    obtain ⟨_, _, ⟨T24, L24, k24, n24⟩, -, X24, ⟨Lc24, hQ24, l24, y24, z24⟩, st24⟩ := X23.virtualBack hx (y := (⟨"com/example/frugal_nets/frugalnets/check/Verdict", "negated", "()Lcom/example/frugal_nets/frugalnets/check/Verdict;"⟩ : MethodName)) (z := (⟨"com/example/frugal_nets/frugalnets/check/Verdict", "negated", "()Lcom/example/frugal_nets/frugalnets/check/Verdict;"⟩ : MethodName)) hown (mvT hZ (hw _ (List.mem_of_getElem? (i := 11) rfl))) (mvT hZ (hw _ (List.mem_of_getElem? (i := 12) rfl))) (notFace_of_selects (args := #[]) (mvT hZ (hw _ (List.mem_of_getElem? (i := 14) rfl)))) (mvT hZ (hw _ (List.mem_of_getElem? (i := 14) rfl))) (mvT hZ (hw _ (List.mem_of_getElem? (i := 13) rfl))) (by decide) (backOf (W := 0) (rmNeg l Z a0 hw [] wF wH wH wF wU h13 n0 o16 G0 (by simp [hHF, hHU, hFU, Ne.symm hHF, Ne.symm hHU, Ne.symm hFU])) hZ (hw _ (List.mem_of_getElem? (i := 15) rfl)) (hw _ (List.mem_of_getElem? (i := 3) rfl)) (by decide) (by decide)) q24a q24c (g := (mkF m 117 #[.val (.int p1), .val (.int p2), .val (.ref b1), .val (.ref wH), .val (.ref wF), .val (.int (1 : Int32)), .val (.int (1 : Int32)), .unset, .unset, .unset] [(.ref wF)])) rfl (by rw [hml]; rfl) (Steps.refl _) (argsL := []) (rest := []) (lenOf own_pd0 rfl) rfl (by show 2 * 0 + _ ≤ _; exact Nat.le_of_eq rfl) (hb hby at_117) (fun _ _ => ⟨rfl, e23, (by decide : 1 + 0 ≤ _), (by decide : 3 + 0 ≤ _)⟩)
    dsimp only [Pt.U, Pt.locs, Pt.cells, Pt.slots] at X24 l24 y24 z24 st24 hQ24
    subst l24 y24 z24
    obtain ⟨rfl, Nq24, e24⟩ := hQ24
    have N24 := Fr.app N17 Nq24
    have g26 : ∀ t, Steps p.tables e below (T24.setTop (mkF m 134 #[.val (.int p1), .val (.int p2), .val (.ref b1), .val (.ref wH), .val (.ref wF), .val (.int (1 : Int32)), .val (.int (1 : Int32)), .val (.int (1 : Int32)), .unset, .unset] [(.int (p2 &&& (1 : Int32)))])) t → Steps p.tables e below (s₁.setTop (entryFrame m #[(.int p1), (.int p2)] maxLocals)) t := by
      intro t k
      refine g14 t ?_
      show Steps p.tables e below (T13.setTop (mkF m 30 #[.val (.int p1), .val (.int p2), .val (.ref b1), .unset, .unset, .unset, .unset, .unset, .unset, .unset] [(.int (0 : Int32)), (.ref b1)])) _
      refine X13.aaload hx (j := (0 : Int32)) (v := (.ref wH)) (by rw [e13]; exact Ar15.1) (State.isArrayOf_alike hZ.alike Ar15.2.1) rfl Ar15.2.2 hin15 hat15 (g := (mkF m 30 #[.val (.int p1), .val (.int p2), .val (.ref b1), .unset, .unset, .unset, .unset, .unset, .unset, .unset] [(.int (0 : Int32)), (.ref b1)])) rfl rfl (hb hby at_30) _ ?_
      show Steps p.tables e below (T13.setTop (mkF m 31 #[.val (.int p1), .val (.int p2), .val (.ref b1), .unset, .unset, .unset, .unset, .unset, .unset, .unset] [(.ref wH)])) _
      refine XS.astoreN X13.here hx rfl (hb hby at_31) rfl rfl (l' := #[.val (.int p1), .val (.int p2), .val (.ref b1), .val (.ref wH), .unset, .unset, .unset, .unset, .unset, .unset]) rfl ?_
      show Steps p.tables e below (T13.setTop (mkF m 32 #[.val (.int p1), .val (.int p2), .val (.ref b1), .val (.ref wH), .unset, .unset, .unset, .unset, .unset, .unset] [])) _
      refine XS.aloadN X13.here hx rfl (hb hby at_32) rfl rfl ?_
      show Steps p.tables e below (T13.setTop (mkF m 33 #[.val (.int p1), .val (.int p2), .val (.ref b1), .val (.ref wH), .unset, .unset, .unset, .unset, .unset, .unset] [(.ref wH)])) _
      refine st17.trans ?_
      show Steps p.tables e below (T17.setTop (mkF m 36 #[.val (.int p1), .val (.int p2), .val (.ref b1), .val (.ref wH), .unset, .unset, .unset, .unset, .unset, .unset] [(.ref wF)])) _
      refine XS.astore X17.here hx rfl (hb hby at_36) rfl rfl (l' := #[.val (.int p1), .val (.int p2), .val (.ref b1), .val (.ref wH), .val (.ref wF), .unset, .unset, .unset, .unset, .unset]) rfl ?_
      show Steps p.tables e below (T17.setTop (mkF m 38 #[.val (.int p1), .val (.int p2), .val (.ref b1), .val (.ref wH), .val (.ref wF), .unset, .unset, .unset, .unset, .unset] [])) _
      refine XS.aload X17.here hx rfl (hb hby at_38) rfl rfl ?_
      show Steps p.tables e below (T17.setTop (mkF m 40 #[.val (.int p1), .val (.int p2), .val (.ref b1), .val (.ref wH), .val (.ref wF), .unset, .unset, .unset, .unset, .unset] [(.ref wF)])) _
      refine XS.ifnonnullYes X17.here hx rfl (pc0 := 40) (pc' := 45) rfl (hb hby at_40) rfl (by decide) (by decide) ?_
      show Steps p.tables e below (T17.setTop (mkF m 45 #[.val (.int p1), .val (.int p2), .val (.ref b1), .val (.ref wH), .val (.ref wF), .unset, .unset, .unset, .unset, .unset] [])) _
      refine XS.aloadN X17.here hx rfl (hb hby at_45) rfl rfl ?_
      show Steps p.tables e below (T17.setTop (mkF m 46 #[.val (.int p1), .val (.int p2), .val (.ref b1), .val (.ref wH), .val (.ref wF), .unset, .unset, .unset, .unset, .unset] [(.ref wH)])) _
      refine st18 _ ?_
      show Steps p.tables e below (T18.setTop (mkF m 49 #[.val (.int p1), .val (.int p2), .val (.ref b1), .val (.ref wH), .val (.ref wF), .unset, .unset, .unset, .unset, .unset] [(.ref wU), (.ref wH)])) _
      refine Jvm.RoadKit.acmp (g := (mkF m 49 #[.val (.int p1), .val (.int p2), .val (.ref b1), .val (.ref wH), .val (.ref wF), .unset, .unset, .unset, .unset, .unset] [(.ref wU), (.ref wH)])) X18 hx rfl rfl rfl (pc0 := 49) (pc' := 56) (same := false) rfl (hb hby at_49) rfl (decide_eq_false fun q => hc19 (Value.ref.inj q)) (by decide) (by decide) ?_
      show Steps p.tables e below (T18.setTop (mkF m 56 #[.val (.int p1), .val (.int p2), .val (.ref b1), .val (.ref wH), .val (.ref wF), .unset, .unset, .unset, .unset, .unset] [])) _
      refine XS.iconst X18.here hx rfl (hb hby at_56) ?_
      show Steps p.tables e below (T18.setTop (mkF m 57 #[.val (.int p1), .val (.int p2), .val (.ref b1), .val (.ref wH), .val (.ref wF), .unset, .unset, .unset, .unset, .unset] [(.int (0 : Int32))])) _
      refine XS.aload X18.here hx rfl (hb hby at_57) rfl rfl ?_
      show Steps p.tables e below (T18.setTop (mkF m 59 #[.val (.int p1), .val (.int p2), .val (.ref b1), .val (.ref wH), .val (.ref wF), .unset, .unset, .unset, .unset, .unset] [(.ref wF), (.int (0 : Int32))])) _
      refine st20 _ ?_
      show Steps p.tables e below (T20.setTop (mkF m 62 #[.val (.int p1), .val (.int p2), .val (.ref b1), .val (.ref wH), .val (.ref wF), .unset, .unset, .unset, .unset, .unset] [(.ref wU), (.ref wF), (.int (0 : Int32))])) _
      refine Jvm.RoadKit.acmp (g := (mkF m 62 #[.val (.int p1), .val (.int p2), .val (.ref b1), .val (.ref wH), .val (.ref wF), .unset, .unset, .unset, .unset, .unset] [(.ref wU), (.ref wF), (.int (0 : Int32))])) X20 hx rfl rfl rfl (pc0 := 62) (pc' := 69) (same := false) rfl (hb hby at_62) rfl (decide_eq_false fun q => hc21 (Value.ref.inj q)) (by decide) (by decide) ?_
      show Steps p.tables e below (T20.setTop (mkF m 69 #[.val (.int p1), .val (.int p2), .val (.ref b1), .val (.ref wH), .val (.ref wF), .unset, .unset, .unset, .unset, .unset] [(.int (0 : Int32))])) _
      refine XS.iconst X20.here hx rfl (hb hby at_69) ?_
      show Steps p.tables e below (T20.setTop (mkF m 70 #[.val (.int p1), .val (.int p2), .val (.ref b1), .val (.ref wH), .val (.ref wF), .unset, .unset, .unset, .unset, .unset] [(.int (0 : Int32)), (.int (0 : Int32))])) _
      refine XS.icmpNo X20.here hx rfl (hb hby at_70) rfl (teq (by decide : (0 : Int32) = (0 : Int32))).2 ?_
      show Steps p.tables e below (T20.setTop (mkF m 73 #[.val (.int p1), .val (.int p2), .val (.ref b1), .val (.ref wH), .val (.ref wF), .unset, .unset, .unset, .unset, .unset] [])) _
      refine XS.iconst X20.here hx rfl (hb hby at_73) ?_
      show Steps p.tables e below (T20.setTop (mkF m 74 #[.val (.int p1), .val (.int p2), .val (.ref b1), .val (.ref wH), .val (.ref wF), .unset, .unset, .unset, .unset, .unset] [(.int (1 : Int32))])) _
      refine XS.goto X20.here hx rfl (pc0 := 74) (pc' := 78) rfl (hb hby at_74) (by decide) (by decide) ?_
      show Steps p.tables e below (T20.setTop (mkF m 78 #[.val (.int p1), .val (.int p2), .val (.ref b1), .val (.ref wH), .val (.ref wF), .unset, .unset, .unset, .unset, .unset] [(.int (1 : Int32))])) _
      refine XS.istore X20.here hx rfl (hb hby at_78) rfl (l' := #[.val (.int p1), .val (.int p2), .val (.ref b1), .val (.ref wH), .val (.ref wF), .val (.int (1 : Int32)), .unset, .unset, .unset, .unset]) rfl ?_
      show Steps p.tables e below (T20.setTop (mkF m 80 #[.val (.int p1), .val (.int p2), .val (.ref b1), .val (.ref wH), .val (.ref wF), .val (.int (1 : Int32)), .unset, .unset, .unset, .unset] [])) _
      refine XS.aloadN X20.here hx rfl (hb hby at_80) rfl rfl ?_
      show Steps p.tables e below (T20.setTop (mkF m 81 #[.val (.int p1), .val (.int p2), .val (.ref b1), .val (.ref wH), .val (.ref wF), .val (.int (1 : Int32)), .unset, .unset, .unset, .unset] [(.ref wH)])) _
      refine st22 _ ?_
      show Steps p.tables e below (T22.setTop (mkF m 84 #[.val (.int p1), .val (.int p2), .val (.ref b1), .val (.ref wH), .val (.ref wF), .val (.int (1 : Int32)), .unset, .unset, .unset, .unset] [(.ref wH), (.ref wH)])) _
      refine Jvm.RoadKit.acmp (g := (mkF m 84 #[.val (.int p1), .val (.int p2), .val (.ref b1), .val (.ref wH), .val (.ref wF), .val (.int (1 : Int32)), .unset, .unset, .unset, .unset] [(.ref wH), (.ref wH)])) X22 hx rfl rfl rfl (pc0 := 84) (pc' := 87) (same := true) rfl (hb hby at_84) rfl (decide_eq_true rfl) (by decide) (by decide) ?_
      show Steps p.tables e below (T22.setTop (mkF m 87 #[.val (.int p1), .val (.int p2), .val (.ref b1), .val (.ref wH), .val (.ref wF), .val (.int (1 : Int32)), .unset, .unset, .unset, .unset] [])) _
      refine XS.iconst X22.here hx rfl (hb hby at_87) ?_
      show Steps p.tables e below (T22.setTop (mkF m 88 #[.val (.int p1), .val (.int p2), .val (.ref b1), .val (.ref wH), .val (.ref wF), .val (.int (1 : Int32)), .unset, .unset, .unset, .unset] [(.int (1 : Int32))])) _
      refine XS.goto X22.here hx rfl (pc0 := 88) (pc' := 92) rfl (hb hby at_88) (by decide) (by decide) ?_
      show Steps p.tables e below (T22.setTop (mkF m 92 #[.val (.int p1), .val (.int p2), .val (.ref b1), .val (.ref wH), .val (.ref wF), .val (.int (1 : Int32)), .unset, .unset, .unset, .unset] [(.int (1 : Int32))])) _
      refine XS.aload X22.here hx rfl (hb hby at_92) rfl rfl ?_
      show Steps p.tables e below (T22.setTop (mkF m 94 #[.val (.int p1), .val (.int p2), .val (.ref b1), .val (.ref wH), .val (.ref wF), .val (.int (1 : Int32)), .unset, .unset, .unset, .unset] [(.ref wF), (.int (1 : Int32))])) _
      refine st23 _ ?_
      show Steps p.tables e below (T23.setTop (mkF m 97 #[.val (.int p1), .val (.int p2), .val (.ref b1), .val (.ref wH), .val (.ref wF), .val (.int (1 : Int32)), .unset, .unset, .unset, .unset] [(.ref wF), (.ref wF), (.int (1 : Int32))])) _
      refine Jvm.RoadKit.acmp (g := (mkF m 97 #[.val (.int p1), .val (.int p2), .val (.ref b1), .val (.ref wH), .val (.ref wF), .val (.int (1 : Int32)), .unset, .unset, .unset, .unset] [(.ref wF), (.ref wF), (.int (1 : Int32))])) X23 hx rfl rfl rfl (pc0 := 97) (pc' := 100) (same := true) rfl (hb hby at_97) rfl (decide_eq_true rfl) (by decide) (by decide) ?_
      show Steps p.tables e below (T23.setTop (mkF m 100 #[.val (.int p1), .val (.int p2), .val (.ref b1), .val (.ref wH), .val (.ref wF), .val (.int (1 : Int32)), .unset, .unset, .unset, .unset] [(.int (1 : Int32))])) _
      refine XS.iconst X23.here hx rfl (hb hby at_100) ?_
      show Steps p.tables e below (T23.setTop (mkF m 101 #[.val (.int p1), .val (.int p2), .val (.ref b1), .val (.ref wH), .val (.ref wF), .val (.int (1 : Int32)), .unset, .unset, .unset, .unset] [(.int (1 : Int32)), (.int (1 : Int32))])) _
      refine XS.goto X23.here hx rfl (pc0 := 101) (pc' := 105) rfl (hb hby at_101) (by decide) (by decide) ?_
      show Steps p.tables e below (T23.setTop (mkF m 105 #[.val (.int p1), .val (.int p2), .val (.ref b1), .val (.ref wH), .val (.ref wF), .val (.int (1 : Int32)), .unset, .unset, .unset, .unset] [(.int (1 : Int32)), (.int (1 : Int32))])) _
      refine XS.icmpNo X23.here hx rfl (hb hby at_105) rfl (teq (by decide : (1 : Int32) = (1 : Int32))).2 ?_
      show Steps p.tables e below (T23.setTop (mkF m 108 #[.val (.int p1), .val (.int p2), .val (.ref b1), .val (.ref wH), .val (.ref wF), .val (.int (1 : Int32)), .unset, .unset, .unset, .unset] [])) _
      refine XS.iconst X23.here hx rfl (hb hby at_108) ?_
      show Steps p.tables e below (T23.setTop (mkF m 109 #[.val (.int p1), .val (.int p2), .val (.ref b1), .val (.ref wH), .val (.ref wF), .val (.int (1 : Int32)), .unset, .unset, .unset, .unset] [(.int (1 : Int32))])) _
      refine XS.goto X23.here hx rfl (pc0 := 109) (pc' := 113) rfl (hb hby at_109) (by decide) (by decide) ?_
      show Steps p.tables e below (T23.setTop (mkF m 113 #[.val (.int p1), .val (.int p2), .val (.ref b1), .val (.ref wH), .val (.ref wF), .val (.int (1 : Int32)), .unset, .unset, .unset, .unset] [(.int (1 : Int32))])) _
      refine XS.istore X23.here hx rfl (hb hby at_113) rfl (l' := #[.val (.int p1), .val (.int p2), .val (.ref b1), .val (.ref wH), .val (.ref wF), .val (.int (1 : Int32)), .val (.int (1 : Int32)), .unset, .unset, .unset]) rfl ?_
      show Steps p.tables e below (T23.setTop (mkF m 115 #[.val (.int p1), .val (.int p2), .val (.ref b1), .val (.ref wH), .val (.ref wF), .val (.int (1 : Int32)), .val (.int (1 : Int32)), .unset, .unset, .unset] [])) _
      refine XS.aload X23.here hx rfl (hb hby at_115) rfl rfl ?_
      show Steps p.tables e below (T23.setTop (mkF m 117 #[.val (.int p1), .val (.int p2), .val (.ref b1), .val (.ref wH), .val (.ref wF), .val (.int (1 : Int32)), .val (.int (1 : Int32)), .unset, .unset, .unset] [(.ref wF)])) _
      refine st24.trans ?_
      show Steps p.tables e below (T24.setTop (mkF m 120 #[.val (.int p1), .val (.int p2), .val (.ref b1), .val (.ref wH), .val (.ref wF), .val (.int (1 : Int32)), .val (.int (1 : Int32)), .unset, .unset, .unset] [(.ref wH)])) _
      refine XS.aloadN X24.here hx rfl (hb hby at_120) rfl rfl ?_
      show Steps p.tables e below (T24.setTop (mkF m 121 #[.val (.int p1), .val (.int p2), .val (.ref b1), .val (.ref wH), .val (.ref wF), .val (.int (1 : Int32)), .val (.int (1 : Int32)), .unset, .unset, .unset] [(.ref wH), (.ref wH)])) _
      refine Jvm.RoadKit.acmp (g := (mkF m 121 #[.val (.int p1), .val (.int p2), .val (.ref b1), .val (.ref wH), .val (.ref wF), .val (.int (1 : Int32)), .val (.int (1 : Int32)), .unset, .unset, .unset] [(.ref wH), (.ref wH)])) X24 hx rfl rfl rfl (pc0 := 121) (pc' := 124) (same := true) rfl (hb hby at_121) rfl (decide_eq_true rfl) (by decide) (by decide) ?_
      show Steps p.tables e below (T24.setTop (mkF m 124 #[.val (.int p1), .val (.int p2), .val (.ref b1), .val (.ref wH), .val (.ref wF), .val (.int (1 : Int32)), .val (.int (1 : Int32)), .unset, .unset, .unset] [])) _
      refine XS.iconst X24.here hx rfl (hb hby at_124) ?_
      show Steps p.tables e below (T24.setTop (mkF m 125 #[.val (.int p1), .val (.int p2), .val (.ref b1), .val (.ref wH), .val (.ref wF), .val (.int (1 : Int32)), .val (.int (1 : Int32)), .unset, .unset, .unset] [(.int (1 : Int32))])) _
      refine XS.goto X24.here hx rfl (pc0 := 125) (pc' := 129) rfl (hb hby at_125) (by decide) (by decide) ?_
      show Steps p.tables e below (T24.setTop (mkF m 129 #[.val (.int p1), .val (.int p2), .val (.ref b1), .val (.ref wH), .val (.ref wF), .val (.int (1 : Int32)), .val (.int (1 : Int32)), .unset, .unset, .unset] [(.int (1 : Int32))])) _
      refine XS.istore X24.here hx rfl (hb hby at_129) rfl (l' := #[.val (.int p1), .val (.int p2), .val (.ref b1), .val (.ref wH), .val (.ref wF), .val (.int (1 : Int32)), .val (.int (1 : Int32)), .val (.int (1 : Int32)), .unset, .unset]) rfl ?_
      show Steps p.tables e below (T24.setTop (mkF m 131 #[.val (.int p1), .val (.int p2), .val (.ref b1), .val (.ref wH), .val (.ref wF), .val (.int (1 : Int32)), .val (.int (1 : Int32)), .val (.int (1 : Int32)), .unset, .unset] [])) _
      refine XS.iloadN X24.here hx rfl (hb hby at_131) rfl ?_
      show Steps p.tables e below (T24.setTop (mkF m 132 #[.val (.int p1), .val (.int p2), .val (.ref b1), .val (.ref wH), .val (.ref wF), .val (.int (1 : Int32)), .val (.int (1 : Int32)), .val (.int (1 : Int32)), .unset, .unset] [(.int p2)])) _
      refine XS.iconst X24.here hx rfl (hb hby at_132) ?_
      show Steps p.tables e below (T24.setTop (mkF m 133 #[.val (.int p1), .val (.int p2), .val (.ref b1), .val (.ref wH), .val (.ref wF), .val (.int (1 : Int32)), .val (.int (1 : Int32)), .val (.int (1 : Int32)), .unset, .unset] [(.int (1 : Int32)), (.int p2)])) _
      refine XS.iand X24.here hx rfl (hb hby at_133) rfl ?_
      exact k
    by_cases hc25 : (p2 &&& (1 : Int32)) = (0 : Int32)
    · obtain ⟨_, _, ⟨T27, L27, k27, n27⟩, -, X27, ⟨Lc27, hQ27, l27, y27, z27⟩, st27⟩ := Jvm.LawKit.callS X24 hx (y := (⟨"com/example/frugal_nets/frugalnets/check/Verdict", "of", "(Z)Lcom/example/frugal_nets/frugalnets/check/Verdict;"⟩ : MethodName)) hown (mvT hZ (hw _ (List.mem_of_getElem? (i := 18) rfl))) (mvT hZ (hw _ (List.mem_of_getElem? (i := 19) rfl))) (mvT hZ (hw _ (List.mem_of_getElem? (i := 3) rfl))) (mvT hZ (hw _ (List.mem_of_getElem? (i := 20) rfl))) (by decide) (backOf (W := 0) (rmOf l Z a0 hw [] (0 : Int32) wF wH wF wU h13 n0 o16 G0 (by simp)) hZ (hw _ (List.mem_of_getElem? (i := 20) rfl)) (hw _ (List.mem_of_getElem? (i := 3) rfl)) (by decide) (by decide)) (g := (mkF m 146 #[.val (.int p1), .val (.int p2), .val (.ref b1), .val (.ref wH), .val (.ref wF), .val (.int (1 : Int32)), .val (.int (1 : Int32)), .val (.int (1 : Int32)), .val (.int (0 : Int32)), .unset] [(.int (0 : Int32))])) rfl (by rw [hml]; rfl) (argsL := [(.int (0 : Int32))]) (rest := []) (lenOf own_pd1 rfl) rfl (by show 2 * 0 + _ ≤ _; exact Nat.le_of_eq rfl) (hb hby at_146) (fun _ _ => ⟨rfl, e24, (by decide : 1 + 0 ≤ _), (by decide : 3 + 0 ≤ _)⟩)
      dsimp only [Pt.U, Pt.locs, Pt.cells, Pt.slots] at X27 l27 y27 z27 st27 hQ27
      subst l27 y27 z27
      obtain ⟨rfl, Nq27, e27⟩ := hQ27
      have N27 := Fr.app N24 Nq27
      obtain ⟨cq28, kq28, q28a, q28b, q28c⟩ := isOf hZ e27 (Ex_FAILS.ext o16.2)
      obtain ⟨_, _, ⟨T28, L28, k28, n28⟩, -, X28, ⟨Lc28, hQ28, l28, y28, z28⟩, st28⟩ := X27.virtualBack hx (y := (⟨"com/example/frugal_nets/frugalnets/check/Verdict", "negated", "()Lcom/example/frugal_nets/frugalnets/check/Verdict;"⟩ : MethodName)) (z := (⟨"com/example/frugal_nets/frugalnets/check/Verdict", "negated", "()Lcom/example/frugal_nets/frugalnets/check/Verdict;"⟩ : MethodName)) hown (mvT hZ (hw _ (List.mem_of_getElem? (i := 11) rfl))) (mvT hZ (hw _ (List.mem_of_getElem? (i := 12) rfl))) (notFace_of_selects (args := #[]) (mvT hZ (hw _ (List.mem_of_getElem? (i := 14) rfl)))) (mvT hZ (hw _ (List.mem_of_getElem? (i := 14) rfl))) (mvT hZ (hw _ (List.mem_of_getElem? (i := 13) rfl))) (by decide) (backOf (W := 0) (rmNeg l Z a0 hw [] wF wH wH wF wU h13 n0 o16 G0 (by simp [hHF, hHU, hFU, Ne.symm hHF, Ne.symm hHU, Ne.symm hFU])) hZ (hw _ (List.mem_of_getElem? (i := 15) rfl)) (hw _ (List.mem_of_getElem? (i := 3) rfl)) (by decide) (by decide)) q28a q28c (g := (mkF m 149 #[.val (.int p1), .val (.int p2), .val (.ref b1), .val (.ref wH), .val (.ref wF), .val (.int (1 : Int32)), .val (.int (1 : Int32)), .val (.int (1 : Int32)), .val (.int (0 : Int32)), .unset] [(.ref wF)])) rfl (by rw [hml]; rfl) (Steps.refl _) (argsL := []) (rest := []) (lenOf own_pd0 rfl) rfl (by show 2 * 0 + _ ≤ _; exact Nat.le_of_eq rfl) (hb hby at_149) (fun _ _ => ⟨rfl, e27, (by decide : 1 + 0 ≤ _), (by decide : 3 + 0 ≤ _)⟩)
      dsimp only [Pt.U, Pt.locs, Pt.cells, Pt.slots] at X28 l28 y28 z28 st28 hQ28
      subst l28 y28 z28
      obtain ⟨rfl, Nq28, e28⟩ := hQ28
      have N28 := Fr.app N27 Nq28
      obtain ⟨_, _, ⟨T29, L29, k29, n29⟩, -, X29, ⟨Lc29, hQ29, l29, y29, z29⟩, st29⟩ := Jvm.LawKit.callS X28 hx (y := (⟨"com/example/frugal_nets/frugalnets/check/Verdict", "of", "(Z)Lcom/example/frugal_nets/frugalnets/check/Verdict;"⟩ : MethodName)) hown (mvT hZ (hw _ (List.mem_of_getElem? (i := 18) rfl))) (mvT hZ (hw _ (List.mem_of_getElem? (i := 19) rfl))) (mvT hZ (hw _ (List.mem_of_getElem? (i := 3) rfl))) (mvT hZ (hw _ (List.mem_of_getElem? (i := 20) rfl))) (by decide) (backOf (W := 1) (rmOf l Z a0 hw [] (1 : Int32) wH wH wF wU h13 n0 o16 G0 (by simp)) hZ (hw _ (List.mem_of_getElem? (i := 20) rfl)) (hw _ (List.mem_of_getElem? (i := 3) rfl)) (by decide) (by decide)) (g := (mkF m 162 #[.val (.int p1), .val (.int p2), .val (.ref b1), .val (.ref wH), .val (.ref wF), .val (.int (1 : Int32)), .val (.int (1 : Int32)), .val (.int (1 : Int32)), .val (.int (0 : Int32)), .unset] [(.int (1 : Int32)), (.ref wH)])) rfl (by rw [hml]; rfl) (argsL := [(.int (1 : Int32))]) (rest := [(.ref wH)]) (lenOf own_pd1 rfl) rfl (by show 2 * 0 + _ ≤ _; exact Nat.le_of_eq rfl) (hb hby at_162) (fun _ _ => ⟨rfl, e28, (by decide : 1 + 0 ≤ _), (by decide : 3 + 0 ≤ _)⟩)
      dsimp only [Pt.U, Pt.locs, Pt.cells, Pt.slots] at X29 l29 y29 z29 st29 hQ29
      subst l29 y29 z29
      obtain ⟨rfl, Nq29, e29⟩ := hQ29
      have N29 := Fr.app N28 Nq29
      have g30 : ∀ t, Steps p.tables e below (T29.setTop (mkF m 200 #[.val (.int p1), .val (.int p2), .val (.ref b1), .val (.ref wH), .val (.ref wF), .val (.int (1 : Int32)), .val (.int (1 : Int32)), .val (.int (1 : Int32)), .val (.int (0 : Int32)), .val (.int (1 : Int32))] [(.int (1 : Int32))])) t → Steps p.tables e below (s₁.setTop (entryFrame m #[(.int p1), (.int p2)] maxLocals)) t := by
        intro t k
        refine g26 t ?_
        show Steps p.tables e below (T24.setTop (mkF m 134 #[.val (.int p1), .val (.int p2), .val (.ref b1), .val (.ref wH), .val (.ref wF), .val (.int (1 : Int32)), .val (.int (1 : Int32)), .val (.int (1 : Int32)), .unset, .unset] [(.int (p2 &&& (1 : Int32)))])) _
        refine XS.ifYes X24.here hx rfl (pc0 := 134) (pc' := 141) rfl (hb hby at_134) rfl ((if0 _ _).trans (teq hc25).1) (by decide) (by decide) ?_
        show Steps p.tables e below (T24.setTop (mkF m 141 #[.val (.int p1), .val (.int p2), .val (.ref b1), .val (.ref wH), .val (.ref wF), .val (.int (1 : Int32)), .val (.int (1 : Int32)), .val (.int (1 : Int32)), .unset, .unset] [])) _
        refine XS.iconst X24.here hx rfl (hb hby at_141) ?_
        show Steps p.tables e below (T24.setTop (mkF m 142 #[.val (.int p1), .val (.int p2), .val (.ref b1), .val (.ref wH), .val (.ref wF), .val (.int (1 : Int32)), .val (.int (1 : Int32)), .val (.int (1 : Int32)), .unset, .unset] [(.int (0 : Int32))])) _
        refine XS.istore X24.here hx rfl (hb hby at_142) rfl (l' := #[.val (.int p1), .val (.int p2), .val (.ref b1), .val (.ref wH), .val (.ref wF), .val (.int (1 : Int32)), .val (.int (1 : Int32)), .val (.int (1 : Int32)), .val (.int (0 : Int32)), .unset]) rfl ?_
        show Steps p.tables e below (T24.setTop (mkF m 144 #[.val (.int p1), .val (.int p2), .val (.ref b1), .val (.ref wH), .val (.ref wF), .val (.int (1 : Int32)), .val (.int (1 : Int32)), .val (.int (1 : Int32)), .val (.int (0 : Int32)), .unset] [])) _
        refine XS.iload X24.here hx rfl (hb hby at_144) rfl ?_
        show Steps p.tables e below (T24.setTop (mkF m 146 #[.val (.int p1), .val (.int p2), .val (.ref b1), .val (.ref wH), .val (.ref wF), .val (.int (1 : Int32)), .val (.int (1 : Int32)), .val (.int (1 : Int32)), .val (.int (0 : Int32)), .unset] [(.int (0 : Int32))])) _
        refine st27 _ ?_
        show Steps p.tables e below (T27.setTop (mkF m 149 #[.val (.int p1), .val (.int p2), .val (.ref b1), .val (.ref wH), .val (.ref wF), .val (.int (1 : Int32)), .val (.int (1 : Int32)), .val (.int (1 : Int32)), .val (.int (0 : Int32)), .unset] [(.ref wF)])) _
        refine st28.trans ?_
        show Steps p.tables e below (T28.setTop (mkF m 152 #[.val (.int p1), .val (.int p2), .val (.ref b1), .val (.ref wH), .val (.ref wF), .val (.int (1 : Int32)), .val (.int (1 : Int32)), .val (.int (1 : Int32)), .val (.int (0 : Int32)), .unset] [(.ref wH)])) _
        refine XS.iload X28.here hx rfl (hb hby at_152) rfl ?_
        show Steps p.tables e below (T28.setTop (mkF m 154 #[.val (.int p1), .val (.int p2), .val (.ref b1), .val (.ref wH), .val (.ref wF), .val (.int (1 : Int32)), .val (.int (1 : Int32)), .val (.int (1 : Int32)), .val (.int (0 : Int32)), .unset] [(.int (0 : Int32)), (.ref wH)])) _
        refine XS.ifNo X28.here hx rfl (hb hby at_154) rfl ((if0 _ _).trans (teq (by decide : (0 : Int32) = (0 : Int32))).2) ?_
        show Steps p.tables e below (T28.setTop (mkF m 157 #[.val (.int p1), .val (.int p2), .val (.ref b1), .val (.ref wH), .val (.ref wF), .val (.int (1 : Int32)), .val (.int (1 : Int32)), .val (.int (1 : Int32)), .val (.int (0 : Int32)), .unset] [(.ref wH)])) _
        refine XS.iconst X28.here hx rfl (hb hby at_157) ?_
        show Steps p.tables e below (T28.setTop (mkF m 158 #[.val (.int p1), .val (.int p2), .val (.ref b1), .val (.ref wH), .val (.ref wF), .val (.int (1 : Int32)), .val (.int (1 : Int32)), .val (.int (1 : Int32)), .val (.int (0 : Int32)), .unset] [(.int (1 : Int32)), (.ref wH)])) _
        refine XS.goto X28.here hx rfl (pc0 := 158) (pc' := 162) rfl (hb hby at_158) (by decide) (by decide) ?_
        show Steps p.tables e below (T28.setTop (mkF m 162 #[.val (.int p1), .val (.int p2), .val (.ref b1), .val (.ref wH), .val (.ref wF), .val (.int (1 : Int32)), .val (.int (1 : Int32)), .val (.int (1 : Int32)), .val (.int (0 : Int32)), .unset] [(.int (1 : Int32)), (.ref wH)])) _
        refine st29 _ ?_
        show Steps p.tables e below (T29.setTop (mkF m 165 #[.val (.int p1), .val (.int p2), .val (.ref b1), .val (.ref wH), .val (.ref wF), .val (.int (1 : Int32)), .val (.int (1 : Int32)), .val (.int (1 : Int32)), .val (.int (0 : Int32)), .unset] [(.ref wH), (.ref wH)])) _
        refine Jvm.RoadKit.acmp (g := (mkF m 165 #[.val (.int p1), .val (.int p2), .val (.ref b1), .val (.ref wH), .val (.ref wF), .val (.int (1 : Int32)), .val (.int (1 : Int32)), .val (.int (1 : Int32)), .val (.int (0 : Int32)), .unset] [(.ref wH), (.ref wH)])) X29 hx rfl rfl rfl (pc0 := 165) (pc' := 168) (same := true) rfl (hb hby at_165) rfl (decide_eq_true rfl) (by decide) (by decide) ?_
        show Steps p.tables e below (T29.setTop (mkF m 168 #[.val (.int p1), .val (.int p2), .val (.ref b1), .val (.ref wH), .val (.ref wF), .val (.int (1 : Int32)), .val (.int (1 : Int32)), .val (.int (1 : Int32)), .val (.int (0 : Int32)), .unset] [])) _
        refine XS.iconst X29.here hx rfl (hb hby at_168) ?_
        show Steps p.tables e below (T29.setTop (mkF m 169 #[.val (.int p1), .val (.int p2), .val (.ref b1), .val (.ref wH), .val (.ref wF), .val (.int (1 : Int32)), .val (.int (1 : Int32)), .val (.int (1 : Int32)), .val (.int (0 : Int32)), .unset] [(.int (1 : Int32))])) _
        refine XS.goto X29.here hx rfl (pc0 := 169) (pc' := 173) rfl (hb hby at_169) (by decide) (by decide) ?_
        show Steps p.tables e below (T29.setTop (mkF m 173 #[.val (.int p1), .val (.int p2), .val (.ref b1), .val (.ref wH), .val (.ref wF), .val (.int (1 : Int32)), .val (.int (1 : Int32)), .val (.int (1 : Int32)), .val (.int (0 : Int32)), .unset] [(.int (1 : Int32))])) _
        refine XS.istore X29.here hx rfl (hb hby at_173) rfl (l' := #[.val (.int p1), .val (.int p2), .val (.ref b1), .val (.ref wH), .val (.ref wF), .val (.int (1 : Int32)), .val (.int (1 : Int32)), .val (.int (1 : Int32)), .val (.int (0 : Int32)), .val (.int (1 : Int32))]) rfl ?_
        show Steps p.tables e below (T29.setTop (mkF m 175 #[.val (.int p1), .val (.int p2), .val (.ref b1), .val (.ref wH), .val (.ref wF), .val (.int (1 : Int32)), .val (.int (1 : Int32)), .val (.int (1 : Int32)), .val (.int (0 : Int32)), .val (.int (1 : Int32))] [])) _
        refine XS.iload X29.here hx rfl (hb hby at_175) rfl ?_
        show Steps p.tables e below (T29.setTop (mkF m 177 #[.val (.int p1), .val (.int p2), .val (.ref b1), .val (.ref wH), .val (.ref wF), .val (.int (1 : Int32)), .val (.int (1 : Int32)), .val (.int (1 : Int32)), .val (.int (0 : Int32)), .val (.int (1 : Int32))] [(.int (1 : Int32))])) _
        refine XS.ifNo X29.here hx rfl (hb hby at_177) rfl ((if0 _ _).trans (feq (by decide : ¬ ((1 : Int32) = (0 : Int32)))).1) ?_
        show Steps p.tables e below (T29.setTop (mkF m 180 #[.val (.int p1), .val (.int p2), .val (.ref b1), .val (.ref wH), .val (.ref wF), .val (.int (1 : Int32)), .val (.int (1 : Int32)), .val (.int (1 : Int32)), .val (.int (0 : Int32)), .val (.int (1 : Int32))] [])) _
        refine XS.iload X29.here hx rfl (hb hby at_180) rfl ?_
        show Steps p.tables e below (T29.setTop (mkF m 182 #[.val (.int p1), .val (.int p2), .val (.ref b1), .val (.ref wH), .val (.ref wF), .val (.int (1 : Int32)), .val (.int (1 : Int32)), .val (.int (1 : Int32)), .val (.int (0 : Int32)), .val (.int (1 : Int32))] [(.int (1 : Int32))])) _
        refine XS.ifNo X29.here hx rfl (hb hby at_182) rfl ((if0 _ _).trans (feq (by decide : ¬ ((1 : Int32) = (0 : Int32)))).1) ?_
        show Steps p.tables e below (T29.setTop (mkF m 185 #[.val (.int p1), .val (.int p2), .val (.ref b1), .val (.ref wH), .val (.ref wF), .val (.int (1 : Int32)), .val (.int (1 : Int32)), .val (.int (1 : Int32)), .val (.int (0 : Int32)), .val (.int (1 : Int32))] [])) _
        refine XS.iload X29.here hx rfl (hb hby at_185) rfl ?_
        show Steps p.tables e below (T29.setTop (mkF m 187 #[.val (.int p1), .val (.int p2), .val (.ref b1), .val (.ref wH), .val (.ref wF), .val (.int (1 : Int32)), .val (.int (1 : Int32)), .val (.int (1 : Int32)), .val (.int (0 : Int32)), .val (.int (1 : Int32))] [(.int (1 : Int32))])) _
        refine XS.ifNo X29.here hx rfl (hb hby at_187) rfl ((if0 _ _).trans (feq (by decide : ¬ ((1 : Int32) = (0 : Int32)))).1) ?_
        show Steps p.tables e below (T29.setTop (mkF m 190 #[.val (.int p1), .val (.int p2), .val (.ref b1), .val (.ref wH), .val (.ref wF), .val (.int (1 : Int32)), .val (.int (1 : Int32)), .val (.int (1 : Int32)), .val (.int (0 : Int32)), .val (.int (1 : Int32))] [])) _
        refine XS.iload X29.here hx rfl (hb hby at_190) rfl ?_
        show Steps p.tables e below (T29.setTop (mkF m 192 #[.val (.int p1), .val (.int p2), .val (.ref b1), .val (.ref wH), .val (.ref wF), .val (.int (1 : Int32)), .val (.int (1 : Int32)), .val (.int (1 : Int32)), .val (.int (0 : Int32)), .val (.int (1 : Int32))] [(.int (1 : Int32))])) _
        refine XS.ifNo X29.here hx rfl (hb hby at_192) rfl ((if0 _ _).trans (feq (by decide : ¬ ((1 : Int32) = (0 : Int32)))).1) ?_
        show Steps p.tables e below (T29.setTop (mkF m 195 #[.val (.int p1), .val (.int p2), .val (.ref b1), .val (.ref wH), .val (.ref wF), .val (.int (1 : Int32)), .val (.int (1 : Int32)), .val (.int (1 : Int32)), .val (.int (0 : Int32)), .val (.int (1 : Int32))] [])) _
        refine XS.iconst X29.here hx rfl (hb hby at_195) ?_
        show Steps p.tables e below (T29.setTop (mkF m 196 #[.val (.int p1), .val (.int p2), .val (.ref b1), .val (.ref wH), .val (.ref wF), .val (.int (1 : Int32)), .val (.int (1 : Int32)), .val (.int (1 : Int32)), .val (.int (0 : Int32)), .val (.int (1 : Int32))] [(.int (1 : Int32))])) _
        refine XS.goto X29.here hx rfl (pc0 := 196) (pc' := 200) rfl (hb hby at_196) (by decide) (by decide) ?_
        exact k
      obtain ⟨fs, hrt, hrun, hended, hW, hsame⟩ := X29.leave (v := some (.int (1 : Int32))) (fun h => by rw [Bd.returns] at h; cases h)
      refine ⟨_, _, g30 _ ?_, hrun, hended, _, _, rfl, ?_, ⟨_, rfl⟩, hW, hsame.mono (by decide) (by decide)⟩
      · show Steps p.tables e below (T29.setTop (mkF m 200 #[.val (.int p1), .val (.int p2), .val (.ref b1), .val (.ref wH), .val (.ref wF), .val (.int (1 : Int32)), .val (.int (1 : Int32)), .val (.int (1 : Int32)), .val (.int (0 : Int32)), .val (.int (1 : Int32))] [(.int (1 : Int32))])) _
        exact retN X29 hx (t := .boolean) Bd.returns (by simp) (hb hby at_200) hrt
      · show own_Q_rm0 Z p1 p2 wH wF wU h0 n0 _ T29.heap _
        rw [e29]
        exact ⟨rfl, N29⟩
    · obtain ⟨_, _, ⟨T31, L31, k31, n31⟩, -, X31, ⟨Lc31, hQ31, l31, y31, z31⟩, st31⟩ := Jvm.LawKit.callS X24 hx (y := (⟨"com/example/frugal_nets/frugalnets/check/Verdict", "of", "(Z)Lcom/example/frugal_nets/frugalnets/check/Verdict;"⟩ : MethodName)) hown (mvT hZ (hw _ (List.mem_of_getElem? (i := 18) rfl))) (mvT hZ (hw _ (List.mem_of_getElem? (i := 19) rfl))) (mvT hZ (hw _ (List.mem_of_getElem? (i := 3) rfl))) (mvT hZ (hw _ (List.mem_of_getElem? (i := 20) rfl))) (by decide) (backOf (W := 0) (rmOf l Z a0 hw [] (1 : Int32) wH wH wF wU h13 n0 o16 G0 (by simp)) hZ (hw _ (List.mem_of_getElem? (i := 20) rfl)) (hw _ (List.mem_of_getElem? (i := 3) rfl)) (by decide) (by decide)) (g := (mkF m 146 #[.val (.int p1), .val (.int p2), .val (.ref b1), .val (.ref wH), .val (.ref wF), .val (.int (1 : Int32)), .val (.int (1 : Int32)), .val (.int (1 : Int32)), .val (.int (1 : Int32)), .unset] [(.int (1 : Int32))])) rfl (by rw [hml]; rfl) (argsL := [(.int (1 : Int32))]) (rest := []) (lenOf own_pd1 rfl) rfl (by show 2 * 0 + _ ≤ _; exact Nat.le_of_eq rfl) (hb hby at_146) (fun _ _ => ⟨rfl, e24, (by decide : 1 + 0 ≤ _), (by decide : 3 + 0 ≤ _)⟩)
      dsimp only [Pt.U, Pt.locs, Pt.cells, Pt.slots] at X31 l31 y31 z31 st31 hQ31
      subst l31 y31 z31
      obtain ⟨rfl, Nq31, e31⟩ := hQ31
      have N31 := Fr.app N24 Nq31
      obtain ⟨cq32, kq32, q32a, q32b, q32c⟩ := isOf hZ e31 (Ex_HOLDS.ext o16.2)
      obtain ⟨_, _, ⟨T32, L32, k32, n32⟩, -, X32, ⟨Lc32, hQ32, l32, y32, z32⟩, st32⟩ := X31.virtualBack hx (y := (⟨"com/example/frugal_nets/frugalnets/check/Verdict", "negated", "()Lcom/example/frugal_nets/frugalnets/check/Verdict;"⟩ : MethodName)) (z := (⟨"com/example/frugal_nets/frugalnets/check/Verdict", "negated", "()Lcom/example/frugal_nets/frugalnets/check/Verdict;"⟩ : MethodName)) hown (mvT hZ (hw _ (List.mem_of_getElem? (i := 11) rfl))) (mvT hZ (hw _ (List.mem_of_getElem? (i := 12) rfl))) (notFace_of_selects (args := #[]) (mvT hZ (hw _ (List.mem_of_getElem? (i := 14) rfl)))) (mvT hZ (hw _ (List.mem_of_getElem? (i := 14) rfl))) (mvT hZ (hw _ (List.mem_of_getElem? (i := 13) rfl))) (by decide) (backOf (W := 0) (rmNeg l Z a0 hw [] wH wF wH wF wU h13 n0 o16 G0 (by simp [hHF, hHU, hFU, Ne.symm hHF, Ne.symm hHU, Ne.symm hFU])) hZ (hw _ (List.mem_of_getElem? (i := 15) rfl)) (hw _ (List.mem_of_getElem? (i := 3) rfl)) (by decide) (by decide)) q32a q32c (g := (mkF m 149 #[.val (.int p1), .val (.int p2), .val (.ref b1), .val (.ref wH), .val (.ref wF), .val (.int (1 : Int32)), .val (.int (1 : Int32)), .val (.int (1 : Int32)), .val (.int (1 : Int32)), .unset] [(.ref wH)])) rfl (by rw [hml]; rfl) (Steps.refl _) (argsL := []) (rest := []) (lenOf own_pd0 rfl) rfl (by show 2 * 0 + _ ≤ _; exact Nat.le_of_eq rfl) (hb hby at_149) (fun _ _ => ⟨rfl, e31, (by decide : 1 + 0 ≤ _), (by decide : 3 + 0 ≤ _)⟩)
      dsimp only [Pt.U, Pt.locs, Pt.cells, Pt.slots] at X32 l32 y32 z32 st32 hQ32
      subst l32 y32 z32
      obtain ⟨rfl, Nq32, e32⟩ := hQ32
      have N32 := Fr.app N31 Nq32
      obtain ⟨_, _, ⟨T33, L33, k33, n33⟩, -, X33, ⟨Lc33, hQ33, l33, y33, z33⟩, st33⟩ := Jvm.LawKit.callS X32 hx (y := (⟨"com/example/frugal_nets/frugalnets/check/Verdict", "of", "(Z)Lcom/example/frugal_nets/frugalnets/check/Verdict;"⟩ : MethodName)) hown (mvT hZ (hw _ (List.mem_of_getElem? (i := 18) rfl))) (mvT hZ (hw _ (List.mem_of_getElem? (i := 19) rfl))) (mvT hZ (hw _ (List.mem_of_getElem? (i := 3) rfl))) (mvT hZ (hw _ (List.mem_of_getElem? (i := 20) rfl))) (by decide) (backOf (W := 1) (rmOf l Z a0 hw [] (0 : Int32) wF wH wF wU h13 n0 o16 G0 (by simp)) hZ (hw _ (List.mem_of_getElem? (i := 20) rfl)) (hw _ (List.mem_of_getElem? (i := 3) rfl)) (by decide) (by decide)) (g := (mkF m 162 #[.val (.int p1), .val (.int p2), .val (.ref b1), .val (.ref wH), .val (.ref wF), .val (.int (1 : Int32)), .val (.int (1 : Int32)), .val (.int (1 : Int32)), .val (.int (1 : Int32)), .unset] [(.int (0 : Int32)), (.ref wF)])) rfl (by rw [hml]; rfl) (argsL := [(.int (0 : Int32))]) (rest := [(.ref wF)]) (lenOf own_pd1 rfl) rfl (by show 2 * 0 + _ ≤ _; exact Nat.le_of_eq rfl) (hb hby at_162) (fun _ _ => ⟨rfl, e32, (by decide : 1 + 0 ≤ _), (by decide : 3 + 0 ≤ _)⟩)
      dsimp only [Pt.U, Pt.locs, Pt.cells, Pt.slots] at X33 l33 y33 z33 st33 hQ33
      subst l33 y33 z33
      obtain ⟨rfl, Nq33, e33⟩ := hQ33
      have N33 := Fr.app N32 Nq33
      have g34 : ∀ t, Steps p.tables e below (T33.setTop (mkF m 200 #[.val (.int p1), .val (.int p2), .val (.ref b1), .val (.ref wH), .val (.ref wF), .val (.int (1 : Int32)), .val (.int (1 : Int32)), .val (.int (1 : Int32)), .val (.int (1 : Int32)), .val (.int (1 : Int32))] [(.int (1 : Int32))])) t → Steps p.tables e below (s₁.setTop (entryFrame m #[(.int p1), (.int p2)] maxLocals)) t := by
        intro t k
        refine g26 t ?_
        show Steps p.tables e below (T24.setTop (mkF m 134 #[.val (.int p1), .val (.int p2), .val (.ref b1), .val (.ref wH), .val (.ref wF), .val (.int (1 : Int32)), .val (.int (1 : Int32)), .val (.int (1 : Int32)), .unset, .unset] [(.int (p2 &&& (1 : Int32)))])) _
        refine XS.ifNo X24.here hx rfl (hb hby at_134) rfl ((if0 _ _).trans (feq hc25).1) ?_
        show Steps p.tables e below (T24.setTop (mkF m 137 #[.val (.int p1), .val (.int p2), .val (.ref b1), .val (.ref wH), .val (.ref wF), .val (.int (1 : Int32)), .val (.int (1 : Int32)), .val (.int (1 : Int32)), .unset, .unset] [])) _
        refine XS.iconst X24.here hx rfl (hb hby at_137) ?_
        show Steps p.tables e below (T24.setTop (mkF m 138 #[.val (.int p1), .val (.int p2), .val (.ref b1), .val (.ref wH), .val (.ref wF), .val (.int (1 : Int32)), .val (.int (1 : Int32)), .val (.int (1 : Int32)), .unset, .unset] [(.int (1 : Int32))])) _
        refine XS.goto X24.here hx rfl (pc0 := 138) (pc' := 142) rfl (hb hby at_138) (by decide) (by decide) ?_
        show Steps p.tables e below (T24.setTop (mkF m 142 #[.val (.int p1), .val (.int p2), .val (.ref b1), .val (.ref wH), .val (.ref wF), .val (.int (1 : Int32)), .val (.int (1 : Int32)), .val (.int (1 : Int32)), .unset, .unset] [(.int (1 : Int32))])) _
        refine XS.istore X24.here hx rfl (hb hby at_142) rfl (l' := #[.val (.int p1), .val (.int p2), .val (.ref b1), .val (.ref wH), .val (.ref wF), .val (.int (1 : Int32)), .val (.int (1 : Int32)), .val (.int (1 : Int32)), .val (.int (1 : Int32)), .unset]) rfl ?_
        show Steps p.tables e below (T24.setTop (mkF m 144 #[.val (.int p1), .val (.int p2), .val (.ref b1), .val (.ref wH), .val (.ref wF), .val (.int (1 : Int32)), .val (.int (1 : Int32)), .val (.int (1 : Int32)), .val (.int (1 : Int32)), .unset] [])) _
        refine XS.iload X24.here hx rfl (hb hby at_144) rfl ?_
        show Steps p.tables e below (T24.setTop (mkF m 146 #[.val (.int p1), .val (.int p2), .val (.ref b1), .val (.ref wH), .val (.ref wF), .val (.int (1 : Int32)), .val (.int (1 : Int32)), .val (.int (1 : Int32)), .val (.int (1 : Int32)), .unset] [(.int (1 : Int32))])) _
        refine st31 _ ?_
        show Steps p.tables e below (T31.setTop (mkF m 149 #[.val (.int p1), .val (.int p2), .val (.ref b1), .val (.ref wH), .val (.ref wF), .val (.int (1 : Int32)), .val (.int (1 : Int32)), .val (.int (1 : Int32)), .val (.int (1 : Int32)), .unset] [(.ref wH)])) _
        refine st32.trans ?_
        show Steps p.tables e below (T32.setTop (mkF m 152 #[.val (.int p1), .val (.int p2), .val (.ref b1), .val (.ref wH), .val (.ref wF), .val (.int (1 : Int32)), .val (.int (1 : Int32)), .val (.int (1 : Int32)), .val (.int (1 : Int32)), .unset] [(.ref wF)])) _
        refine XS.iload X32.here hx rfl (hb hby at_152) rfl ?_
        show Steps p.tables e below (T32.setTop (mkF m 154 #[.val (.int p1), .val (.int p2), .val (.ref b1), .val (.ref wH), .val (.ref wF), .val (.int (1 : Int32)), .val (.int (1 : Int32)), .val (.int (1 : Int32)), .val (.int (1 : Int32)), .unset] [(.int (1 : Int32)), (.ref wF)])) _
        refine XS.ifYes X32.here hx rfl (pc0 := 154) (pc' := 161) rfl (hb hby at_154) rfl ((if0 _ _).trans (feq (by decide : ¬ ((1 : Int32) = (0 : Int32)))).2) (by decide) (by decide) ?_
        show Steps p.tables e below (T32.setTop (mkF m 161 #[.val (.int p1), .val (.int p2), .val (.ref b1), .val (.ref wH), .val (.ref wF), .val (.int (1 : Int32)), .val (.int (1 : Int32)), .val (.int (1 : Int32)), .val (.int (1 : Int32)), .unset] [(.ref wF)])) _
        refine XS.iconst X32.here hx rfl (hb hby at_161) ?_
        show Steps p.tables e below (T32.setTop (mkF m 162 #[.val (.int p1), .val (.int p2), .val (.ref b1), .val (.ref wH), .val (.ref wF), .val (.int (1 : Int32)), .val (.int (1 : Int32)), .val (.int (1 : Int32)), .val (.int (1 : Int32)), .unset] [(.int (0 : Int32)), (.ref wF)])) _
        refine st33 _ ?_
        show Steps p.tables e below (T33.setTop (mkF m 165 #[.val (.int p1), .val (.int p2), .val (.ref b1), .val (.ref wH), .val (.ref wF), .val (.int (1 : Int32)), .val (.int (1 : Int32)), .val (.int (1 : Int32)), .val (.int (1 : Int32)), .unset] [(.ref wF), (.ref wF)])) _
        refine Jvm.RoadKit.acmp (g := (mkF m 165 #[.val (.int p1), .val (.int p2), .val (.ref b1), .val (.ref wH), .val (.ref wF), .val (.int (1 : Int32)), .val (.int (1 : Int32)), .val (.int (1 : Int32)), .val (.int (1 : Int32)), .unset] [(.ref wF), (.ref wF)])) X33 hx rfl rfl rfl (pc0 := 165) (pc' := 168) (same := true) rfl (hb hby at_165) rfl (decide_eq_true rfl) (by decide) (by decide) ?_
        show Steps p.tables e below (T33.setTop (mkF m 168 #[.val (.int p1), .val (.int p2), .val (.ref b1), .val (.ref wH), .val (.ref wF), .val (.int (1 : Int32)), .val (.int (1 : Int32)), .val (.int (1 : Int32)), .val (.int (1 : Int32)), .unset] [])) _
        refine XS.iconst X33.here hx rfl (hb hby at_168) ?_
        show Steps p.tables e below (T33.setTop (mkF m 169 #[.val (.int p1), .val (.int p2), .val (.ref b1), .val (.ref wH), .val (.ref wF), .val (.int (1 : Int32)), .val (.int (1 : Int32)), .val (.int (1 : Int32)), .val (.int (1 : Int32)), .unset] [(.int (1 : Int32))])) _
        refine XS.goto X33.here hx rfl (pc0 := 169) (pc' := 173) rfl (hb hby at_169) (by decide) (by decide) ?_
        show Steps p.tables e below (T33.setTop (mkF m 173 #[.val (.int p1), .val (.int p2), .val (.ref b1), .val (.ref wH), .val (.ref wF), .val (.int (1 : Int32)), .val (.int (1 : Int32)), .val (.int (1 : Int32)), .val (.int (1 : Int32)), .unset] [(.int (1 : Int32))])) _
        refine XS.istore X33.here hx rfl (hb hby at_173) rfl (l' := #[.val (.int p1), .val (.int p2), .val (.ref b1), .val (.ref wH), .val (.ref wF), .val (.int (1 : Int32)), .val (.int (1 : Int32)), .val (.int (1 : Int32)), .val (.int (1 : Int32)), .val (.int (1 : Int32))]) rfl ?_
        show Steps p.tables e below (T33.setTop (mkF m 175 #[.val (.int p1), .val (.int p2), .val (.ref b1), .val (.ref wH), .val (.ref wF), .val (.int (1 : Int32)), .val (.int (1 : Int32)), .val (.int (1 : Int32)), .val (.int (1 : Int32)), .val (.int (1 : Int32))] [])) _
        refine XS.iload X33.here hx rfl (hb hby at_175) rfl ?_
        show Steps p.tables e below (T33.setTop (mkF m 177 #[.val (.int p1), .val (.int p2), .val (.ref b1), .val (.ref wH), .val (.ref wF), .val (.int (1 : Int32)), .val (.int (1 : Int32)), .val (.int (1 : Int32)), .val (.int (1 : Int32)), .val (.int (1 : Int32))] [(.int (1 : Int32))])) _
        refine XS.ifNo X33.here hx rfl (hb hby at_177) rfl ((if0 _ _).trans (feq (by decide : ¬ ((1 : Int32) = (0 : Int32)))).1) ?_
        show Steps p.tables e below (T33.setTop (mkF m 180 #[.val (.int p1), .val (.int p2), .val (.ref b1), .val (.ref wH), .val (.ref wF), .val (.int (1 : Int32)), .val (.int (1 : Int32)), .val (.int (1 : Int32)), .val (.int (1 : Int32)), .val (.int (1 : Int32))] [])) _
        refine XS.iload X33.here hx rfl (hb hby at_180) rfl ?_
        show Steps p.tables e below (T33.setTop (mkF m 182 #[.val (.int p1), .val (.int p2), .val (.ref b1), .val (.ref wH), .val (.ref wF), .val (.int (1 : Int32)), .val (.int (1 : Int32)), .val (.int (1 : Int32)), .val (.int (1 : Int32)), .val (.int (1 : Int32))] [(.int (1 : Int32))])) _
        refine XS.ifNo X33.here hx rfl (hb hby at_182) rfl ((if0 _ _).trans (feq (by decide : ¬ ((1 : Int32) = (0 : Int32)))).1) ?_
        show Steps p.tables e below (T33.setTop (mkF m 185 #[.val (.int p1), .val (.int p2), .val (.ref b1), .val (.ref wH), .val (.ref wF), .val (.int (1 : Int32)), .val (.int (1 : Int32)), .val (.int (1 : Int32)), .val (.int (1 : Int32)), .val (.int (1 : Int32))] [])) _
        refine XS.iload X33.here hx rfl (hb hby at_185) rfl ?_
        show Steps p.tables e below (T33.setTop (mkF m 187 #[.val (.int p1), .val (.int p2), .val (.ref b1), .val (.ref wH), .val (.ref wF), .val (.int (1 : Int32)), .val (.int (1 : Int32)), .val (.int (1 : Int32)), .val (.int (1 : Int32)), .val (.int (1 : Int32))] [(.int (1 : Int32))])) _
        refine XS.ifNo X33.here hx rfl (hb hby at_187) rfl ((if0 _ _).trans (feq (by decide : ¬ ((1 : Int32) = (0 : Int32)))).1) ?_
        show Steps p.tables e below (T33.setTop (mkF m 190 #[.val (.int p1), .val (.int p2), .val (.ref b1), .val (.ref wH), .val (.ref wF), .val (.int (1 : Int32)), .val (.int (1 : Int32)), .val (.int (1 : Int32)), .val (.int (1 : Int32)), .val (.int (1 : Int32))] [])) _
        refine XS.iload X33.here hx rfl (hb hby at_190) rfl ?_
        show Steps p.tables e below (T33.setTop (mkF m 192 #[.val (.int p1), .val (.int p2), .val (.ref b1), .val (.ref wH), .val (.ref wF), .val (.int (1 : Int32)), .val (.int (1 : Int32)), .val (.int (1 : Int32)), .val (.int (1 : Int32)), .val (.int (1 : Int32))] [(.int (1 : Int32))])) _
        refine XS.ifNo X33.here hx rfl (hb hby at_192) rfl ((if0 _ _).trans (feq (by decide : ¬ ((1 : Int32) = (0 : Int32)))).1) ?_
        show Steps p.tables e below (T33.setTop (mkF m 195 #[.val (.int p1), .val (.int p2), .val (.ref b1), .val (.ref wH), .val (.ref wF), .val (.int (1 : Int32)), .val (.int (1 : Int32)), .val (.int (1 : Int32)), .val (.int (1 : Int32)), .val (.int (1 : Int32))] [])) _
        refine XS.iconst X33.here hx rfl (hb hby at_195) ?_
        show Steps p.tables e below (T33.setTop (mkF m 196 #[.val (.int p1), .val (.int p2), .val (.ref b1), .val (.ref wH), .val (.ref wF), .val (.int (1 : Int32)), .val (.int (1 : Int32)), .val (.int (1 : Int32)), .val (.int (1 : Int32)), .val (.int (1 : Int32))] [(.int (1 : Int32))])) _
        refine XS.goto X33.here hx rfl (pc0 := 196) (pc' := 200) rfl (hb hby at_196) (by decide) (by decide) ?_
        exact k
      obtain ⟨fs, hrt, hrun, hended, hW, hsame⟩ := X33.leave (v := some (.int (1 : Int32))) (fun h => by rw [Bd.returns] at h; cases h)
      refine ⟨_, _, g34 _ ?_, hrun, hended, _, _, rfl, ?_, ⟨_, rfl⟩, hW, hsame.mono (by decide) (by decide)⟩
      · show Steps p.tables e below (T33.setTop (mkF m 200 #[.val (.int p1), .val (.int p2), .val (.ref b1), .val (.ref wH), .val (.ref wF), .val (.int (1 : Int32)), .val (.int (1 : Int32)), .val (.int (1 : Int32)), .val (.int (1 : Int32)), .val (.int (1 : Int32))] [(.int (1 : Int32))])) _
        exact retN X33 hx (t := .boolean) Bd.returns (by simp) (hb hby at_200) hrt
      · show own_Q_rm0 Z p1 p2 wH wF wU h0 n0 _ T33.heap _
        rw [e33]
        exact ⟨rfl, N33⟩
  · skip
    obtain ⟨c35, Ar35, cq35, S35, Nn35, Hh35, Gg35⟩ := id V13a
    have hin35 : ¬ ((1 : Int32) < 0 ∨ c35.slots.size ≤ ((1 : Int32)).toNatClampNeg) := inb_of S35 ⟨by decide, by decide⟩
    have hat35 : c35.slots[((1 : Int32)).toNatClampNeg]? = some (.ref wF) := Has.at Hh35 hin35 rfl
    have o36 : Old Z n0 h13 := (Old.wr o10 W13 gz_b1)
    obtain ⟨cq37, kq37, q37a, q37b, q37c⟩ := isOf hZ e13 (Ex_FAILS.ext o36.2)
    obtain ⟨_, _, ⟨T37, L37, k37, n37⟩, -, X37, ⟨Lc37, hQ37, l37, y37, z37⟩, st37⟩ := X13.virtualBack hx (y := (⟨"com/example/frugal_nets/frugalnets/check/Verdict", "negated", "()Lcom/example/frugal_nets/frugalnets/check/Verdict;"⟩ : MethodName)) (z := (⟨"com/example/frugal_nets/frugalnets/check/Verdict", "negated", "()Lcom/example/frugal_nets/frugalnets/check/Verdict;"⟩ : MethodName)) hown (mvT hZ (hw _ (List.mem_of_getElem? (i := 11) rfl))) (mvT hZ (hw _ (List.mem_of_getElem? (i := 12) rfl))) (notFace_of_selects (args := #[]) (mvT hZ (hw _ (List.mem_of_getElem? (i := 14) rfl)))) (mvT hZ (hw _ (List.mem_of_getElem? (i := 14) rfl))) (mvT hZ (hw _ (List.mem_of_getElem? (i := 13) rfl))) (by decide) (backOf (W := 0) (rmNeg l Z a0 hw [] wF wH wH wF wU h13 n0 o36 G0 (by simp [hHF, hHU, hFU, Ne.symm hHF, Ne.symm hHU, Ne.symm hFU])) hZ (hw _ (List.mem_of_getElem? (i := 15) rfl)) (hw _ (List.mem_of_getElem? (i := 3) rfl)) (by decide) (by decide)) q37a q37c (g := (mkF m 33 #[.val (.int p1), .val (.int p2), .val (.ref b1), .val (.ref wF), .unset, .unset, .unset, .unset, .unset, .unset] [(.ref wF)])) rfl (by rw [hml]; rfl) (Steps.refl _) (argsL := []) (rest := []) (lenOf own_pd0 rfl) rfl (by show 2 * 0 + _ ≤ _; exact Nat.le_of_eq rfl) (hb hby at_33) (fun _ _ => ⟨rfl, e13, (by decide : 1 + 0 ≤ _), (by decide : 3 + 0 ≤ _)⟩)
    dsimp only [Pt.U, Pt.locs, Pt.cells, Pt.slots] at X37 l37 y37 z37 st37 hQ37
    subst l37 y37 z37
    obtain ⟨rfl, Nq37, e37⟩ := hQ37
    have N37 := Fr.app N13 Nq37
    obtain ⟨T38, X38, e38, st38⟩ := getS2 X37 hx hZ hown (host := "") (Or.inl (hw _ (List.mem_of_getElem? (i := 8) rfl))) Via.refl e37 (S_UNKNOWN.ext o36.2) (g := (mkF m 46 #[.val (.int p1), .val (.int p2), .val (.ref b1), .val (.ref wF), .val (.ref wH), .unset, .unset, .unset, .unset, .unset] [(.ref wF)])) rfl (hb hby at_46)
    have hc39 : ¬ (wF = wU) := hFU
    obtain ⟨T40, X40, e40, st40⟩ := getS2 X38 hx hZ hown (host := "") (Or.inl (hw _ (List.mem_of_getElem? (i := 8) rfl))) Via.refl e38 (S_UNKNOWN.ext o36.2) (g := (mkF m 59 #[.val (.int p1), .val (.int p2), .val (.ref b1), .val (.ref wF), .val (.ref wH), .unset, .unset, .unset, .unset, .unset] [(.ref wH), (.int (0 : Int32))])) rfl (hb hby at_59)
    have hc41 : ¬ (wH = wU) := hHU
    obtain ⟨T42, X42, e42, st42⟩ := getS2 X40 hx hZ hown (host := "") (Or.inl (hw _ (List.mem_of_getElem? (i := 2) rfl))) Via.refl e40 (S_HOLDS.ext o36.2) (g := (mkF m 81 #[.val (.int p1), .val (.int p2), .val (.ref b1), .val (.ref wF), .val (.ref wH), .val (.int (1 : Int32)), .unset, .unset, .unset, .unset] [(.ref wF)])) rfl (hb hby at_81)
    have hc43 : ¬ (wF = wH) := Ne.symm hHF
    obtain ⟨T44, X44, e44, st44⟩ := getS2 X42 hx hZ hown (host := "") (Or.inl (hw _ (List.mem_of_getElem? (i := 6) rfl))) Via.refl e42 (S_FAILS.ext o36.2) (g := (mkF m 94 #[.val (.int p1), .val (.int p2), .val (.ref b1), .val (.ref wF), .val (.ref wH), .val (.int (1 : Int32)), .unset, .unset, .unset, .unset] [(.ref wH), (.int (0 : Int32))])) rfl (hb hby at_94)
    obtain ⟨cq45, kq45, q45a, q45b, q45c⟩ := isOf hZ e44 (Ex_HOLDS.ext o36.2)
    obtain ⟨_, _, ⟨T45, L45, k45, n45⟩, -, X45, ⟨Lc45, hQ45, l45, y45, z45⟩, st45⟩ := X44.virtualBack hx (y := (⟨"com/example/frugal_nets/frugalnets/check/Verdict", "negated", "()Lcom/example/frugal_nets/frugalnets/check/Verdict;"⟩ : MethodName)) (z := (⟨"com/example/frugal_nets/frugalnets/check/Verdict", "negated", "()Lcom/example/frugal_nets/frugalnets/check/Verdict;"⟩ : MethodName)) hown (mvT hZ (hw _ (List.mem_of_getElem? (i := 11) rfl))) (mvT hZ (hw _ (List.mem_of_getElem? (i := 12) rfl))) (notFace_of_selects (args := #[]) (mvT hZ (hw _ (List.mem_of_getElem? (i := 14) rfl)))) (mvT hZ (hw _ (List.mem_of_getElem? (i := 14) rfl))) (mvT hZ (hw _ (List.mem_of_getElem? (i := 13) rfl))) (by decide) (backOf (W := 0) (rmNeg l Z a0 hw [] wH wF wH wF wU h13 n0 o36 G0 (by simp [hHF, hHU, hFU, Ne.symm hHF, Ne.symm hHU, Ne.symm hFU])) hZ (hw _ (List.mem_of_getElem? (i := 15) rfl)) (hw _ (List.mem_of_getElem? (i := 3) rfl)) (by decide) (by decide)) q45a q45c (g := (mkF m 117 #[.val (.int p1), .val (.int p2), .val (.ref b1), .val (.ref wF), .val (.ref wH), .val (.int (1 : Int32)), .val (.int (1 : Int32)), .unset, .unset, .unset] [(.ref wH)])) rfl (by rw [hml]; rfl) (Steps.refl _) (argsL := []) (rest := []) (lenOf own_pd0 rfl) rfl (by show 2 * 0 + _ ≤ _; exact Nat.le_of_eq rfl) (hb hby at_117) (fun _ _ => ⟨rfl, e44, (by decide : 1 + 0 ≤ _), (by decide : 3 + 0 ≤ _)⟩)
    dsimp only [Pt.U, Pt.locs, Pt.cells, Pt.slots] at X45 l45 y45 z45 st45 hQ45
    subst l45 y45 z45
    obtain ⟨rfl, Nq45, e45⟩ := hQ45
    have N45 := Fr.app N37 Nq45
    have g47 : ∀ t, Steps p.tables e below (T45.setTop (mkF m 134 #[.val (.int p1), .val (.int p2), .val (.ref b1), .val (.ref wF), .val (.ref wH), .val (.int (1 : Int32)), .val (.int (1 : Int32)), .val (.int (1 : Int32)), .unset, .unset] [(.int (p2 &&& (1 : Int32)))])) t → Steps p.tables e below (s₁.setTop (entryFrame m #[(.int p1), (.int p2)] maxLocals)) t := by
      intro t k
      refine g14 t ?_
      show Steps p.tables e below (T13.setTop (mkF m 30 #[.val (.int p1), .val (.int p2), .val (.ref b1), .unset, .unset, .unset, .unset, .unset, .unset, .unset] [(.int (1 : Int32)), (.ref b1)])) _
      refine X13.aaload hx (j := (1 : Int32)) (v := (.ref wF)) (by rw [e13]; exact Ar35.1) (State.isArrayOf_alike hZ.alike Ar35.2.1) rfl Ar35.2.2 hin35 hat35 (g := (mkF m 30 #[.val (.int p1), .val (.int p2), .val (.ref b1), .unset, .unset, .unset, .unset, .unset, .unset, .unset] [(.int (1 : Int32)), (.ref b1)])) rfl rfl (hb hby at_30) _ ?_
      show Steps p.tables e below (T13.setTop (mkF m 31 #[.val (.int p1), .val (.int p2), .val (.ref b1), .unset, .unset, .unset, .unset, .unset, .unset, .unset] [(.ref wF)])) _
      refine XS.astoreN X13.here hx rfl (hb hby at_31) rfl rfl (l' := #[.val (.int p1), .val (.int p2), .val (.ref b1), .val (.ref wF), .unset, .unset, .unset, .unset, .unset, .unset]) rfl ?_
      show Steps p.tables e below (T13.setTop (mkF m 32 #[.val (.int p1), .val (.int p2), .val (.ref b1), .val (.ref wF), .unset, .unset, .unset, .unset, .unset, .unset] [])) _
      refine XS.aloadN X13.here hx rfl (hb hby at_32) rfl rfl ?_
      show Steps p.tables e below (T13.setTop (mkF m 33 #[.val (.int p1), .val (.int p2), .val (.ref b1), .val (.ref wF), .unset, .unset, .unset, .unset, .unset, .unset] [(.ref wF)])) _
      refine st37.trans ?_
      show Steps p.tables e below (T37.setTop (mkF m 36 #[.val (.int p1), .val (.int p2), .val (.ref b1), .val (.ref wF), .unset, .unset, .unset, .unset, .unset, .unset] [(.ref wH)])) _
      refine XS.astore X37.here hx rfl (hb hby at_36) rfl rfl (l' := #[.val (.int p1), .val (.int p2), .val (.ref b1), .val (.ref wF), .val (.ref wH), .unset, .unset, .unset, .unset, .unset]) rfl ?_
      show Steps p.tables e below (T37.setTop (mkF m 38 #[.val (.int p1), .val (.int p2), .val (.ref b1), .val (.ref wF), .val (.ref wH), .unset, .unset, .unset, .unset, .unset] [])) _
      refine XS.aload X37.here hx rfl (hb hby at_38) rfl rfl ?_
      show Steps p.tables e below (T37.setTop (mkF m 40 #[.val (.int p1), .val (.int p2), .val (.ref b1), .val (.ref wF), .val (.ref wH), .unset, .unset, .unset, .unset, .unset] [(.ref wH)])) _
      refine XS.ifnonnullYes X37.here hx rfl (pc0 := 40) (pc' := 45) rfl (hb hby at_40) rfl (by decide) (by decide) ?_
      show Steps p.tables e below (T37.setTop (mkF m 45 #[.val (.int p1), .val (.int p2), .val (.ref b1), .val (.ref wF), .val (.ref wH), .unset, .unset, .unset, .unset, .unset] [])) _
      refine XS.aloadN X37.here hx rfl (hb hby at_45) rfl rfl ?_
      show Steps p.tables e below (T37.setTop (mkF m 46 #[.val (.int p1), .val (.int p2), .val (.ref b1), .val (.ref wF), .val (.ref wH), .unset, .unset, .unset, .unset, .unset] [(.ref wF)])) _
      refine st38 _ ?_
      show Steps p.tables e below (T38.setTop (mkF m 49 #[.val (.int p1), .val (.int p2), .val (.ref b1), .val (.ref wF), .val (.ref wH), .unset, .unset, .unset, .unset, .unset] [(.ref wU), (.ref wF)])) _
      refine Jvm.RoadKit.acmp (g := (mkF m 49 #[.val (.int p1), .val (.int p2), .val (.ref b1), .val (.ref wF), .val (.ref wH), .unset, .unset, .unset, .unset, .unset] [(.ref wU), (.ref wF)])) X38 hx rfl rfl rfl (pc0 := 49) (pc' := 56) (same := false) rfl (hb hby at_49) rfl (decide_eq_false fun q => hc39 (Value.ref.inj q)) (by decide) (by decide) ?_
      show Steps p.tables e below (T38.setTop (mkF m 56 #[.val (.int p1), .val (.int p2), .val (.ref b1), .val (.ref wF), .val (.ref wH), .unset, .unset, .unset, .unset, .unset] [])) _
      refine XS.iconst X38.here hx rfl (hb hby at_56) ?_
      show Steps p.tables e below (T38.setTop (mkF m 57 #[.val (.int p1), .val (.int p2), .val (.ref b1), .val (.ref wF), .val (.ref wH), .unset, .unset, .unset, .unset, .unset] [(.int (0 : Int32))])) _
      refine XS.aload X38.here hx rfl (hb hby at_57) rfl rfl ?_
      show Steps p.tables e below (T38.setTop (mkF m 59 #[.val (.int p1), .val (.int p2), .val (.ref b1), .val (.ref wF), .val (.ref wH), .unset, .unset, .unset, .unset, .unset] [(.ref wH), (.int (0 : Int32))])) _
      refine st40 _ ?_
      show Steps p.tables e below (T40.setTop (mkF m 62 #[.val (.int p1), .val (.int p2), .val (.ref b1), .val (.ref wF), .val (.ref wH), .unset, .unset, .unset, .unset, .unset] [(.ref wU), (.ref wH), (.int (0 : Int32))])) _
      refine Jvm.RoadKit.acmp (g := (mkF m 62 #[.val (.int p1), .val (.int p2), .val (.ref b1), .val (.ref wF), .val (.ref wH), .unset, .unset, .unset, .unset, .unset] [(.ref wU), (.ref wH), (.int (0 : Int32))])) X40 hx rfl rfl rfl (pc0 := 62) (pc' := 69) (same := false) rfl (hb hby at_62) rfl (decide_eq_false fun q => hc41 (Value.ref.inj q)) (by decide) (by decide) ?_
      show Steps p.tables e below (T40.setTop (mkF m 69 #[.val (.int p1), .val (.int p2), .val (.ref b1), .val (.ref wF), .val (.ref wH), .unset, .unset, .unset, .unset, .unset] [(.int (0 : Int32))])) _
      refine XS.iconst X40.here hx rfl (hb hby at_69) ?_
      show Steps p.tables e below (T40.setTop (mkF m 70 #[.val (.int p1), .val (.int p2), .val (.ref b1), .val (.ref wF), .val (.ref wH), .unset, .unset, .unset, .unset, .unset] [(.int (0 : Int32)), (.int (0 : Int32))])) _
      refine XS.icmpNo X40.here hx rfl (hb hby at_70) rfl (teq (by decide : (0 : Int32) = (0 : Int32))).2 ?_
      show Steps p.tables e below (T40.setTop (mkF m 73 #[.val (.int p1), .val (.int p2), .val (.ref b1), .val (.ref wF), .val (.ref wH), .unset, .unset, .unset, .unset, .unset] [])) _
      refine XS.iconst X40.here hx rfl (hb hby at_73) ?_
      show Steps p.tables e below (T40.setTop (mkF m 74 #[.val (.int p1), .val (.int p2), .val (.ref b1), .val (.ref wF), .val (.ref wH), .unset, .unset, .unset, .unset, .unset] [(.int (1 : Int32))])) _
      refine XS.goto X40.here hx rfl (pc0 := 74) (pc' := 78) rfl (hb hby at_74) (by decide) (by decide) ?_
      show Steps p.tables e below (T40.setTop (mkF m 78 #[.val (.int p1), .val (.int p2), .val (.ref b1), .val (.ref wF), .val (.ref wH), .unset, .unset, .unset, .unset, .unset] [(.int (1 : Int32))])) _
      refine XS.istore X40.here hx rfl (hb hby at_78) rfl (l' := #[.val (.int p1), .val (.int p2), .val (.ref b1), .val (.ref wF), .val (.ref wH), .val (.int (1 : Int32)), .unset, .unset, .unset, .unset]) rfl ?_
      show Steps p.tables e below (T40.setTop (mkF m 80 #[.val (.int p1), .val (.int p2), .val (.ref b1), .val (.ref wF), .val (.ref wH), .val (.int (1 : Int32)), .unset, .unset, .unset, .unset] [])) _
      refine XS.aloadN X40.here hx rfl (hb hby at_80) rfl rfl ?_
      show Steps p.tables e below (T40.setTop (mkF m 81 #[.val (.int p1), .val (.int p2), .val (.ref b1), .val (.ref wF), .val (.ref wH), .val (.int (1 : Int32)), .unset, .unset, .unset, .unset] [(.ref wF)])) _
      refine st42 _ ?_
      show Steps p.tables e below (T42.setTop (mkF m 84 #[.val (.int p1), .val (.int p2), .val (.ref b1), .val (.ref wF), .val (.ref wH), .val (.int (1 : Int32)), .unset, .unset, .unset, .unset] [(.ref wH), (.ref wF)])) _
      refine Jvm.RoadKit.acmp (g := (mkF m 84 #[.val (.int p1), .val (.int p2), .val (.ref b1), .val (.ref wF), .val (.ref wH), .val (.int (1 : Int32)), .unset, .unset, .unset, .unset] [(.ref wH), (.ref wF)])) X42 hx rfl rfl rfl (pc0 := 84) (pc' := 91) (same := false) rfl (hb hby at_84) rfl (decide_eq_false fun q => hc43 (Value.ref.inj q)) (by decide) (by decide) ?_
      show Steps p.tables e below (T42.setTop (mkF m 91 #[.val (.int p1), .val (.int p2), .val (.ref b1), .val (.ref wF), .val (.ref wH), .val (.int (1 : Int32)), .unset, .unset, .unset, .unset] [])) _
      refine XS.iconst X42.here hx rfl (hb hby at_91) ?_
      show Steps p.tables e below (T42.setTop (mkF m 92 #[.val (.int p1), .val (.int p2), .val (.ref b1), .val (.ref wF), .val (.ref wH), .val (.int (1 : Int32)), .unset, .unset, .unset, .unset] [(.int (0 : Int32))])) _
      refine XS.aload X42.here hx rfl (hb hby at_92) rfl rfl ?_
      show Steps p.tables e below (T42.setTop (mkF m 94 #[.val (.int p1), .val (.int p2), .val (.ref b1), .val (.ref wF), .val (.ref wH), .val (.int (1 : Int32)), .unset, .unset, .unset, .unset] [(.ref wH), (.int (0 : Int32))])) _
      refine st44 _ ?_
      show Steps p.tables e below (T44.setTop (mkF m 97 #[.val (.int p1), .val (.int p2), .val (.ref b1), .val (.ref wF), .val (.ref wH), .val (.int (1 : Int32)), .unset, .unset, .unset, .unset] [(.ref wF), (.ref wH), (.int (0 : Int32))])) _
      refine Jvm.RoadKit.acmp (g := (mkF m 97 #[.val (.int p1), .val (.int p2), .val (.ref b1), .val (.ref wF), .val (.ref wH), .val (.int (1 : Int32)), .unset, .unset, .unset, .unset] [(.ref wF), (.ref wH), (.int (0 : Int32))])) X44 hx rfl rfl rfl (pc0 := 97) (pc' := 104) (same := false) rfl (hb hby at_97) rfl (decide_eq_false fun q => (fun q => hc43 (Eq.symm q)) (Value.ref.inj q)) (by decide) (by decide) ?_
      show Steps p.tables e below (T44.setTop (mkF m 104 #[.val (.int p1), .val (.int p2), .val (.ref b1), .val (.ref wF), .val (.ref wH), .val (.int (1 : Int32)), .unset, .unset, .unset, .unset] [(.int (0 : Int32))])) _
      refine XS.iconst X44.here hx rfl (hb hby at_104) ?_
      show Steps p.tables e below (T44.setTop (mkF m 105 #[.val (.int p1), .val (.int p2), .val (.ref b1), .val (.ref wF), .val (.ref wH), .val (.int (1 : Int32)), .unset, .unset, .unset, .unset] [(.int (0 : Int32)), (.int (0 : Int32))])) _
      refine XS.icmpNo X44.here hx rfl (hb hby at_105) rfl (teq (by decide : (0 : Int32) = (0 : Int32))).2 ?_
      show Steps p.tables e below (T44.setTop (mkF m 108 #[.val (.int p1), .val (.int p2), .val (.ref b1), .val (.ref wF), .val (.ref wH), .val (.int (1 : Int32)), .unset, .unset, .unset, .unset] [])) _
      refine XS.iconst X44.here hx rfl (hb hby at_108) ?_
      show Steps p.tables e below (T44.setTop (mkF m 109 #[.val (.int p1), .val (.int p2), .val (.ref b1), .val (.ref wF), .val (.ref wH), .val (.int (1 : Int32)), .unset, .unset, .unset, .unset] [(.int (1 : Int32))])) _
      refine XS.goto X44.here hx rfl (pc0 := 109) (pc' := 113) rfl (hb hby at_109) (by decide) (by decide) ?_
      show Steps p.tables e below (T44.setTop (mkF m 113 #[.val (.int p1), .val (.int p2), .val (.ref b1), .val (.ref wF), .val (.ref wH), .val (.int (1 : Int32)), .unset, .unset, .unset, .unset] [(.int (1 : Int32))])) _
      refine XS.istore X44.here hx rfl (hb hby at_113) rfl (l' := #[.val (.int p1), .val (.int p2), .val (.ref b1), .val (.ref wF), .val (.ref wH), .val (.int (1 : Int32)), .val (.int (1 : Int32)), .unset, .unset, .unset]) rfl ?_
      show Steps p.tables e below (T44.setTop (mkF m 115 #[.val (.int p1), .val (.int p2), .val (.ref b1), .val (.ref wF), .val (.ref wH), .val (.int (1 : Int32)), .val (.int (1 : Int32)), .unset, .unset, .unset] [])) _
      refine XS.aload X44.here hx rfl (hb hby at_115) rfl rfl ?_
      show Steps p.tables e below (T44.setTop (mkF m 117 #[.val (.int p1), .val (.int p2), .val (.ref b1), .val (.ref wF), .val (.ref wH), .val (.int (1 : Int32)), .val (.int (1 : Int32)), .unset, .unset, .unset] [(.ref wH)])) _
      refine st45.trans ?_
      show Steps p.tables e below (T45.setTop (mkF m 120 #[.val (.int p1), .val (.int p2), .val (.ref b1), .val (.ref wF), .val (.ref wH), .val (.int (1 : Int32)), .val (.int (1 : Int32)), .unset, .unset, .unset] [(.ref wF)])) _
      refine XS.aloadN X45.here hx rfl (hb hby at_120) rfl rfl ?_
      show Steps p.tables e below (T45.setTop (mkF m 121 #[.val (.int p1), .val (.int p2), .val (.ref b1), .val (.ref wF), .val (.ref wH), .val (.int (1 : Int32)), .val (.int (1 : Int32)), .unset, .unset, .unset] [(.ref wF), (.ref wF)])) _
      refine Jvm.RoadKit.acmp (g := (mkF m 121 #[.val (.int p1), .val (.int p2), .val (.ref b1), .val (.ref wF), .val (.ref wH), .val (.int (1 : Int32)), .val (.int (1 : Int32)), .unset, .unset, .unset] [(.ref wF), (.ref wF)])) X45 hx rfl rfl rfl (pc0 := 121) (pc' := 124) (same := true) rfl (hb hby at_121) rfl (decide_eq_true rfl) (by decide) (by decide) ?_
      show Steps p.tables e below (T45.setTop (mkF m 124 #[.val (.int p1), .val (.int p2), .val (.ref b1), .val (.ref wF), .val (.ref wH), .val (.int (1 : Int32)), .val (.int (1 : Int32)), .unset, .unset, .unset] [])) _
      refine XS.iconst X45.here hx rfl (hb hby at_124) ?_
      show Steps p.tables e below (T45.setTop (mkF m 125 #[.val (.int p1), .val (.int p2), .val (.ref b1), .val (.ref wF), .val (.ref wH), .val (.int (1 : Int32)), .val (.int (1 : Int32)), .unset, .unset, .unset] [(.int (1 : Int32))])) _
      refine XS.goto X45.here hx rfl (pc0 := 125) (pc' := 129) rfl (hb hby at_125) (by decide) (by decide) ?_
      show Steps p.tables e below (T45.setTop (mkF m 129 #[.val (.int p1), .val (.int p2), .val (.ref b1), .val (.ref wF), .val (.ref wH), .val (.int (1 : Int32)), .val (.int (1 : Int32)), .unset, .unset, .unset] [(.int (1 : Int32))])) _
      refine XS.istore X45.here hx rfl (hb hby at_129) rfl (l' := #[.val (.int p1), .val (.int p2), .val (.ref b1), .val (.ref wF), .val (.ref wH), .val (.int (1 : Int32)), .val (.int (1 : Int32)), .val (.int (1 : Int32)), .unset, .unset]) rfl ?_
      show Steps p.tables e below (T45.setTop (mkF m 131 #[.val (.int p1), .val (.int p2), .val (.ref b1), .val (.ref wF), .val (.ref wH), .val (.int (1 : Int32)), .val (.int (1 : Int32)), .val (.int (1 : Int32)), .unset, .unset] [])) _
      refine XS.iloadN X45.here hx rfl (hb hby at_131) rfl ?_
      show Steps p.tables e below (T45.setTop (mkF m 132 #[.val (.int p1), .val (.int p2), .val (.ref b1), .val (.ref wF), .val (.ref wH), .val (.int (1 : Int32)), .val (.int (1 : Int32)), .val (.int (1 : Int32)), .unset, .unset] [(.int p2)])) _
      refine XS.iconst X45.here hx rfl (hb hby at_132) ?_
      show Steps p.tables e below (T45.setTop (mkF m 133 #[.val (.int p1), .val (.int p2), .val (.ref b1), .val (.ref wF), .val (.ref wH), .val (.int (1 : Int32)), .val (.int (1 : Int32)), .val (.int (1 : Int32)), .unset, .unset] [(.int (1 : Int32)), (.int p2)])) _
      refine XS.iand X45.here hx rfl (hb hby at_133) rfl ?_
      exact k
    by_cases hc46 : (p2 &&& (1 : Int32)) = (0 : Int32)
    · obtain ⟨_, _, ⟨T48, L48, k48, n48⟩, -, X48, ⟨Lc48, hQ48, l48, y48, z48⟩, st48⟩ := Jvm.LawKit.callS X45 hx (y := (⟨"com/example/frugal_nets/frugalnets/check/Verdict", "of", "(Z)Lcom/example/frugal_nets/frugalnets/check/Verdict;"⟩ : MethodName)) hown (mvT hZ (hw _ (List.mem_of_getElem? (i := 18) rfl))) (mvT hZ (hw _ (List.mem_of_getElem? (i := 19) rfl))) (mvT hZ (hw _ (List.mem_of_getElem? (i := 3) rfl))) (mvT hZ (hw _ (List.mem_of_getElem? (i := 20) rfl))) (by decide) (backOf (W := 0) (rmOf l Z a0 hw [] (0 : Int32) wF wH wF wU h13 n0 o36 G0 (by simp)) hZ (hw _ (List.mem_of_getElem? (i := 20) rfl)) (hw _ (List.mem_of_getElem? (i := 3) rfl)) (by decide) (by decide)) (g := (mkF m 146 #[.val (.int p1), .val (.int p2), .val (.ref b1), .val (.ref wF), .val (.ref wH), .val (.int (1 : Int32)), .val (.int (1 : Int32)), .val (.int (1 : Int32)), .val (.int (0 : Int32)), .unset] [(.int (0 : Int32))])) rfl (by rw [hml]; rfl) (argsL := [(.int (0 : Int32))]) (rest := []) (lenOf own_pd1 rfl) rfl (by show 2 * 0 + _ ≤ _; exact Nat.le_of_eq rfl) (hb hby at_146) (fun _ _ => ⟨rfl, e45, (by decide : 1 + 0 ≤ _), (by decide : 3 + 0 ≤ _)⟩)
      dsimp only [Pt.U, Pt.locs, Pt.cells, Pt.slots] at X48 l48 y48 z48 st48 hQ48
      subst l48 y48 z48
      obtain ⟨rfl, Nq48, e48⟩ := hQ48
      have N48 := Fr.app N45 Nq48
      obtain ⟨cq49, kq49, q49a, q49b, q49c⟩ := isOf hZ e48 (Ex_FAILS.ext o36.2)
      obtain ⟨_, _, ⟨T49, L49, k49, n49⟩, -, X49, ⟨Lc49, hQ49, l49, y49, z49⟩, st49⟩ := X48.virtualBack hx (y := (⟨"com/example/frugal_nets/frugalnets/check/Verdict", "negated", "()Lcom/example/frugal_nets/frugalnets/check/Verdict;"⟩ : MethodName)) (z := (⟨"com/example/frugal_nets/frugalnets/check/Verdict", "negated", "()Lcom/example/frugal_nets/frugalnets/check/Verdict;"⟩ : MethodName)) hown (mvT hZ (hw _ (List.mem_of_getElem? (i := 11) rfl))) (mvT hZ (hw _ (List.mem_of_getElem? (i := 12) rfl))) (notFace_of_selects (args := #[]) (mvT hZ (hw _ (List.mem_of_getElem? (i := 14) rfl)))) (mvT hZ (hw _ (List.mem_of_getElem? (i := 14) rfl))) (mvT hZ (hw _ (List.mem_of_getElem? (i := 13) rfl))) (by decide) (backOf (W := 0) (rmNeg l Z a0 hw [] wF wH wH wF wU h13 n0 o36 G0 (by simp [hHF, hHU, hFU, Ne.symm hHF, Ne.symm hHU, Ne.symm hFU])) hZ (hw _ (List.mem_of_getElem? (i := 15) rfl)) (hw _ (List.mem_of_getElem? (i := 3) rfl)) (by decide) (by decide)) q49a q49c (g := (mkF m 149 #[.val (.int p1), .val (.int p2), .val (.ref b1), .val (.ref wF), .val (.ref wH), .val (.int (1 : Int32)), .val (.int (1 : Int32)), .val (.int (1 : Int32)), .val (.int (0 : Int32)), .unset] [(.ref wF)])) rfl (by rw [hml]; rfl) (Steps.refl _) (argsL := []) (rest := []) (lenOf own_pd0 rfl) rfl (by show 2 * 0 + _ ≤ _; exact Nat.le_of_eq rfl) (hb hby at_149) (fun _ _ => ⟨rfl, e48, (by decide : 1 + 0 ≤ _), (by decide : 3 + 0 ≤ _)⟩)
      dsimp only [Pt.U, Pt.locs, Pt.cells, Pt.slots] at X49 l49 y49 z49 st49 hQ49
      subst l49 y49 z49
      obtain ⟨rfl, Nq49, e49⟩ := hQ49
      have N49 := Fr.app N48 Nq49
      obtain ⟨_, _, ⟨T50, L50, k50, n50⟩, -, X50, ⟨Lc50, hQ50, l50, y50, z50⟩, st50⟩ := Jvm.LawKit.callS X49 hx (y := (⟨"com/example/frugal_nets/frugalnets/check/Verdict", "of", "(Z)Lcom/example/frugal_nets/frugalnets/check/Verdict;"⟩ : MethodName)) hown (mvT hZ (hw _ (List.mem_of_getElem? (i := 18) rfl))) (mvT hZ (hw _ (List.mem_of_getElem? (i := 19) rfl))) (mvT hZ (hw _ (List.mem_of_getElem? (i := 3) rfl))) (mvT hZ (hw _ (List.mem_of_getElem? (i := 20) rfl))) (by decide) (backOf (W := 1) (rmOf l Z a0 hw [] (1 : Int32) wH wH wF wU h13 n0 o36 G0 (by simp)) hZ (hw _ (List.mem_of_getElem? (i := 20) rfl)) (hw _ (List.mem_of_getElem? (i := 3) rfl)) (by decide) (by decide)) (g := (mkF m 162 #[.val (.int p1), .val (.int p2), .val (.ref b1), .val (.ref wF), .val (.ref wH), .val (.int (1 : Int32)), .val (.int (1 : Int32)), .val (.int (1 : Int32)), .val (.int (0 : Int32)), .unset] [(.int (1 : Int32)), (.ref wH)])) rfl (by rw [hml]; rfl) (argsL := [(.int (1 : Int32))]) (rest := [(.ref wH)]) (lenOf own_pd1 rfl) rfl (by show 2 * 0 + _ ≤ _; exact Nat.le_of_eq rfl) (hb hby at_162) (fun _ _ => ⟨rfl, e49, (by decide : 1 + 0 ≤ _), (by decide : 3 + 0 ≤ _)⟩)
      dsimp only [Pt.U, Pt.locs, Pt.cells, Pt.slots] at X50 l50 y50 z50 st50 hQ50
      subst l50 y50 z50
      obtain ⟨rfl, Nq50, e50⟩ := hQ50
      have N50 := Fr.app N49 Nq50
      have g51 : ∀ t, Steps p.tables e below (T50.setTop (mkF m 200 #[.val (.int p1), .val (.int p2), .val (.ref b1), .val (.ref wF), .val (.ref wH), .val (.int (1 : Int32)), .val (.int (1 : Int32)), .val (.int (1 : Int32)), .val (.int (0 : Int32)), .val (.int (1 : Int32))] [(.int (1 : Int32))])) t → Steps p.tables e below (s₁.setTop (entryFrame m #[(.int p1), (.int p2)] maxLocals)) t := by
        intro t k
        refine g47 t ?_
        show Steps p.tables e below (T45.setTop (mkF m 134 #[.val (.int p1), .val (.int p2), .val (.ref b1), .val (.ref wF), .val (.ref wH), .val (.int (1 : Int32)), .val (.int (1 : Int32)), .val (.int (1 : Int32)), .unset, .unset] [(.int (p2 &&& (1 : Int32)))])) _
        refine XS.ifYes X45.here hx rfl (pc0 := 134) (pc' := 141) rfl (hb hby at_134) rfl ((if0 _ _).trans (teq hc46).1) (by decide) (by decide) ?_
        show Steps p.tables e below (T45.setTop (mkF m 141 #[.val (.int p1), .val (.int p2), .val (.ref b1), .val (.ref wF), .val (.ref wH), .val (.int (1 : Int32)), .val (.int (1 : Int32)), .val (.int (1 : Int32)), .unset, .unset] [])) _
        refine XS.iconst X45.here hx rfl (hb hby at_141) ?_
        show Steps p.tables e below (T45.setTop (mkF m 142 #[.val (.int p1), .val (.int p2), .val (.ref b1), .val (.ref wF), .val (.ref wH), .val (.int (1 : Int32)), .val (.int (1 : Int32)), .val (.int (1 : Int32)), .unset, .unset] [(.int (0 : Int32))])) _
        refine XS.istore X45.here hx rfl (hb hby at_142) rfl (l' := #[.val (.int p1), .val (.int p2), .val (.ref b1), .val (.ref wF), .val (.ref wH), .val (.int (1 : Int32)), .val (.int (1 : Int32)), .val (.int (1 : Int32)), .val (.int (0 : Int32)), .unset]) rfl ?_
        show Steps p.tables e below (T45.setTop (mkF m 144 #[.val (.int p1), .val (.int p2), .val (.ref b1), .val (.ref wF), .val (.ref wH), .val (.int (1 : Int32)), .val (.int (1 : Int32)), .val (.int (1 : Int32)), .val (.int (0 : Int32)), .unset] [])) _
        refine XS.iload X45.here hx rfl (hb hby at_144) rfl ?_
        show Steps p.tables e below (T45.setTop (mkF m 146 #[.val (.int p1), .val (.int p2), .val (.ref b1), .val (.ref wF), .val (.ref wH), .val (.int (1 : Int32)), .val (.int (1 : Int32)), .val (.int (1 : Int32)), .val (.int (0 : Int32)), .unset] [(.int (0 : Int32))])) _
        refine st48 _ ?_
        show Steps p.tables e below (T48.setTop (mkF m 149 #[.val (.int p1), .val (.int p2), .val (.ref b1), .val (.ref wF), .val (.ref wH), .val (.int (1 : Int32)), .val (.int (1 : Int32)), .val (.int (1 : Int32)), .val (.int (0 : Int32)), .unset] [(.ref wF)])) _
        refine st49.trans ?_
        show Steps p.tables e below (T49.setTop (mkF m 152 #[.val (.int p1), .val (.int p2), .val (.ref b1), .val (.ref wF), .val (.ref wH), .val (.int (1 : Int32)), .val (.int (1 : Int32)), .val (.int (1 : Int32)), .val (.int (0 : Int32)), .unset] [(.ref wH)])) _
        refine XS.iload X49.here hx rfl (hb hby at_152) rfl ?_
        show Steps p.tables e below (T49.setTop (mkF m 154 #[.val (.int p1), .val (.int p2), .val (.ref b1), .val (.ref wF), .val (.ref wH), .val (.int (1 : Int32)), .val (.int (1 : Int32)), .val (.int (1 : Int32)), .val (.int (0 : Int32)), .unset] [(.int (0 : Int32)), (.ref wH)])) _
        refine XS.ifNo X49.here hx rfl (hb hby at_154) rfl ((if0 _ _).trans (teq (by decide : (0 : Int32) = (0 : Int32))).2) ?_
        show Steps p.tables e below (T49.setTop (mkF m 157 #[.val (.int p1), .val (.int p2), .val (.ref b1), .val (.ref wF), .val (.ref wH), .val (.int (1 : Int32)), .val (.int (1 : Int32)), .val (.int (1 : Int32)), .val (.int (0 : Int32)), .unset] [(.ref wH)])) _
        refine XS.iconst X49.here hx rfl (hb hby at_157) ?_
        show Steps p.tables e below (T49.setTop (mkF m 158 #[.val (.int p1), .val (.int p2), .val (.ref b1), .val (.ref wF), .val (.ref wH), .val (.int (1 : Int32)), .val (.int (1 : Int32)), .val (.int (1 : Int32)), .val (.int (0 : Int32)), .unset] [(.int (1 : Int32)), (.ref wH)])) _
        refine XS.goto X49.here hx rfl (pc0 := 158) (pc' := 162) rfl (hb hby at_158) (by decide) (by decide) ?_
        show Steps p.tables e below (T49.setTop (mkF m 162 #[.val (.int p1), .val (.int p2), .val (.ref b1), .val (.ref wF), .val (.ref wH), .val (.int (1 : Int32)), .val (.int (1 : Int32)), .val (.int (1 : Int32)), .val (.int (0 : Int32)), .unset] [(.int (1 : Int32)), (.ref wH)])) _
        refine st50 _ ?_
        show Steps p.tables e below (T50.setTop (mkF m 165 #[.val (.int p1), .val (.int p2), .val (.ref b1), .val (.ref wF), .val (.ref wH), .val (.int (1 : Int32)), .val (.int (1 : Int32)), .val (.int (1 : Int32)), .val (.int (0 : Int32)), .unset] [(.ref wH), (.ref wH)])) _
        refine Jvm.RoadKit.acmp (g := (mkF m 165 #[.val (.int p1), .val (.int p2), .val (.ref b1), .val (.ref wF), .val (.ref wH), .val (.int (1 : Int32)), .val (.int (1 : Int32)), .val (.int (1 : Int32)), .val (.int (0 : Int32)), .unset] [(.ref wH), (.ref wH)])) X50 hx rfl rfl rfl (pc0 := 165) (pc' := 168) (same := true) rfl (hb hby at_165) rfl (decide_eq_true rfl) (by decide) (by decide) ?_
        show Steps p.tables e below (T50.setTop (mkF m 168 #[.val (.int p1), .val (.int p2), .val (.ref b1), .val (.ref wF), .val (.ref wH), .val (.int (1 : Int32)), .val (.int (1 : Int32)), .val (.int (1 : Int32)), .val (.int (0 : Int32)), .unset] [])) _
        refine XS.iconst X50.here hx rfl (hb hby at_168) ?_
        show Steps p.tables e below (T50.setTop (mkF m 169 #[.val (.int p1), .val (.int p2), .val (.ref b1), .val (.ref wF), .val (.ref wH), .val (.int (1 : Int32)), .val (.int (1 : Int32)), .val (.int (1 : Int32)), .val (.int (0 : Int32)), .unset] [(.int (1 : Int32))])) _
        refine XS.goto X50.here hx rfl (pc0 := 169) (pc' := 173) rfl (hb hby at_169) (by decide) (by decide) ?_
        show Steps p.tables e below (T50.setTop (mkF m 173 #[.val (.int p1), .val (.int p2), .val (.ref b1), .val (.ref wF), .val (.ref wH), .val (.int (1 : Int32)), .val (.int (1 : Int32)), .val (.int (1 : Int32)), .val (.int (0 : Int32)), .unset] [(.int (1 : Int32))])) _
        refine XS.istore X50.here hx rfl (hb hby at_173) rfl (l' := #[.val (.int p1), .val (.int p2), .val (.ref b1), .val (.ref wF), .val (.ref wH), .val (.int (1 : Int32)), .val (.int (1 : Int32)), .val (.int (1 : Int32)), .val (.int (0 : Int32)), .val (.int (1 : Int32))]) rfl ?_
        show Steps p.tables e below (T50.setTop (mkF m 175 #[.val (.int p1), .val (.int p2), .val (.ref b1), .val (.ref wF), .val (.ref wH), .val (.int (1 : Int32)), .val (.int (1 : Int32)), .val (.int (1 : Int32)), .val (.int (0 : Int32)), .val (.int (1 : Int32))] [])) _
        refine XS.iload X50.here hx rfl (hb hby at_175) rfl ?_
        show Steps p.tables e below (T50.setTop (mkF m 177 #[.val (.int p1), .val (.int p2), .val (.ref b1), .val (.ref wF), .val (.ref wH), .val (.int (1 : Int32)), .val (.int (1 : Int32)), .val (.int (1 : Int32)), .val (.int (0 : Int32)), .val (.int (1 : Int32))] [(.int (1 : Int32))])) _
        refine XS.ifNo X50.here hx rfl (hb hby at_177) rfl ((if0 _ _).trans (feq (by decide : ¬ ((1 : Int32) = (0 : Int32)))).1) ?_
        show Steps p.tables e below (T50.setTop (mkF m 180 #[.val (.int p1), .val (.int p2), .val (.ref b1), .val (.ref wF), .val (.ref wH), .val (.int (1 : Int32)), .val (.int (1 : Int32)), .val (.int (1 : Int32)), .val (.int (0 : Int32)), .val (.int (1 : Int32))] [])) _
        refine XS.iload X50.here hx rfl (hb hby at_180) rfl ?_
        show Steps p.tables e below (T50.setTop (mkF m 182 #[.val (.int p1), .val (.int p2), .val (.ref b1), .val (.ref wF), .val (.ref wH), .val (.int (1 : Int32)), .val (.int (1 : Int32)), .val (.int (1 : Int32)), .val (.int (0 : Int32)), .val (.int (1 : Int32))] [(.int (1 : Int32))])) _
        refine XS.ifNo X50.here hx rfl (hb hby at_182) rfl ((if0 _ _).trans (feq (by decide : ¬ ((1 : Int32) = (0 : Int32)))).1) ?_
        show Steps p.tables e below (T50.setTop (mkF m 185 #[.val (.int p1), .val (.int p2), .val (.ref b1), .val (.ref wF), .val (.ref wH), .val (.int (1 : Int32)), .val (.int (1 : Int32)), .val (.int (1 : Int32)), .val (.int (0 : Int32)), .val (.int (1 : Int32))] [])) _
        refine XS.iload X50.here hx rfl (hb hby at_185) rfl ?_
        show Steps p.tables e below (T50.setTop (mkF m 187 #[.val (.int p1), .val (.int p2), .val (.ref b1), .val (.ref wF), .val (.ref wH), .val (.int (1 : Int32)), .val (.int (1 : Int32)), .val (.int (1 : Int32)), .val (.int (0 : Int32)), .val (.int (1 : Int32))] [(.int (1 : Int32))])) _
        refine XS.ifNo X50.here hx rfl (hb hby at_187) rfl ((if0 _ _).trans (feq (by decide : ¬ ((1 : Int32) = (0 : Int32)))).1) ?_
        show Steps p.tables e below (T50.setTop (mkF m 190 #[.val (.int p1), .val (.int p2), .val (.ref b1), .val (.ref wF), .val (.ref wH), .val (.int (1 : Int32)), .val (.int (1 : Int32)), .val (.int (1 : Int32)), .val (.int (0 : Int32)), .val (.int (1 : Int32))] [])) _
        refine XS.iload X50.here hx rfl (hb hby at_190) rfl ?_
        show Steps p.tables e below (T50.setTop (mkF m 192 #[.val (.int p1), .val (.int p2), .val (.ref b1), .val (.ref wF), .val (.ref wH), .val (.int (1 : Int32)), .val (.int (1 : Int32)), .val (.int (1 : Int32)), .val (.int (0 : Int32)), .val (.int (1 : Int32))] [(.int (1 : Int32))])) _
        refine XS.ifNo X50.here hx rfl (hb hby at_192) rfl ((if0 _ _).trans (feq (by decide : ¬ ((1 : Int32) = (0 : Int32)))).1) ?_
        show Steps p.tables e below (T50.setTop (mkF m 195 #[.val (.int p1), .val (.int p2), .val (.ref b1), .val (.ref wF), .val (.ref wH), .val (.int (1 : Int32)), .val (.int (1 : Int32)), .val (.int (1 : Int32)), .val (.int (0 : Int32)), .val (.int (1 : Int32))] [])) _
        refine XS.iconst X50.here hx rfl (hb hby at_195) ?_
        show Steps p.tables e below (T50.setTop (mkF m 196 #[.val (.int p1), .val (.int p2), .val (.ref b1), .val (.ref wF), .val (.ref wH), .val (.int (1 : Int32)), .val (.int (1 : Int32)), .val (.int (1 : Int32)), .val (.int (0 : Int32)), .val (.int (1 : Int32))] [(.int (1 : Int32))])) _
        refine XS.goto X50.here hx rfl (pc0 := 196) (pc' := 200) rfl (hb hby at_196) (by decide) (by decide) ?_
        exact k
      obtain ⟨fs, hrt, hrun, hended, hW, hsame⟩ := X50.leave (v := some (.int (1 : Int32))) (fun h => by rw [Bd.returns] at h; cases h)
      refine ⟨_, _, g51 _ ?_, hrun, hended, _, _, rfl, ?_, ⟨_, rfl⟩, hW, hsame.mono (by decide) (by decide)⟩
      · show Steps p.tables e below (T50.setTop (mkF m 200 #[.val (.int p1), .val (.int p2), .val (.ref b1), .val (.ref wF), .val (.ref wH), .val (.int (1 : Int32)), .val (.int (1 : Int32)), .val (.int (1 : Int32)), .val (.int (0 : Int32)), .val (.int (1 : Int32))] [(.int (1 : Int32))])) _
        exact retN X50 hx (t := .boolean) Bd.returns (by simp) (hb hby at_200) hrt
      · show own_Q_rm0 Z p1 p2 wH wF wU h0 n0 _ T50.heap _
        rw [e50]
        exact ⟨rfl, N50⟩
    · obtain ⟨_, _, ⟨T52, L52, k52, n52⟩, -, X52, ⟨Lc52, hQ52, l52, y52, z52⟩, st52⟩ := Jvm.LawKit.callS X45 hx (y := (⟨"com/example/frugal_nets/frugalnets/check/Verdict", "of", "(Z)Lcom/example/frugal_nets/frugalnets/check/Verdict;"⟩ : MethodName)) hown (mvT hZ (hw _ (List.mem_of_getElem? (i := 18) rfl))) (mvT hZ (hw _ (List.mem_of_getElem? (i := 19) rfl))) (mvT hZ (hw _ (List.mem_of_getElem? (i := 3) rfl))) (mvT hZ (hw _ (List.mem_of_getElem? (i := 20) rfl))) (by decide) (backOf (W := 0) (rmOf l Z a0 hw [] (1 : Int32) wH wH wF wU h13 n0 o36 G0 (by simp)) hZ (hw _ (List.mem_of_getElem? (i := 20) rfl)) (hw _ (List.mem_of_getElem? (i := 3) rfl)) (by decide) (by decide)) (g := (mkF m 146 #[.val (.int p1), .val (.int p2), .val (.ref b1), .val (.ref wF), .val (.ref wH), .val (.int (1 : Int32)), .val (.int (1 : Int32)), .val (.int (1 : Int32)), .val (.int (1 : Int32)), .unset] [(.int (1 : Int32))])) rfl (by rw [hml]; rfl) (argsL := [(.int (1 : Int32))]) (rest := []) (lenOf own_pd1 rfl) rfl (by show 2 * 0 + _ ≤ _; exact Nat.le_of_eq rfl) (hb hby at_146) (fun _ _ => ⟨rfl, e45, (by decide : 1 + 0 ≤ _), (by decide : 3 + 0 ≤ _)⟩)
      dsimp only [Pt.U, Pt.locs, Pt.cells, Pt.slots] at X52 l52 y52 z52 st52 hQ52
      subst l52 y52 z52
      obtain ⟨rfl, Nq52, e52⟩ := hQ52
      have N52 := Fr.app N45 Nq52
      obtain ⟨cq53, kq53, q53a, q53b, q53c⟩ := isOf hZ e52 (Ex_HOLDS.ext o36.2)
      obtain ⟨_, _, ⟨T53, L53, k53, n53⟩, -, X53, ⟨Lc53, hQ53, l53, y53, z53⟩, st53⟩ := X52.virtualBack hx (y := (⟨"com/example/frugal_nets/frugalnets/check/Verdict", "negated", "()Lcom/example/frugal_nets/frugalnets/check/Verdict;"⟩ : MethodName)) (z := (⟨"com/example/frugal_nets/frugalnets/check/Verdict", "negated", "()Lcom/example/frugal_nets/frugalnets/check/Verdict;"⟩ : MethodName)) hown (mvT hZ (hw _ (List.mem_of_getElem? (i := 11) rfl))) (mvT hZ (hw _ (List.mem_of_getElem? (i := 12) rfl))) (notFace_of_selects (args := #[]) (mvT hZ (hw _ (List.mem_of_getElem? (i := 14) rfl)))) (mvT hZ (hw _ (List.mem_of_getElem? (i := 14) rfl))) (mvT hZ (hw _ (List.mem_of_getElem? (i := 13) rfl))) (by decide) (backOf (W := 0) (rmNeg l Z a0 hw [] wH wF wH wF wU h13 n0 o36 G0 (by simp [hHF, hHU, hFU, Ne.symm hHF, Ne.symm hHU, Ne.symm hFU])) hZ (hw _ (List.mem_of_getElem? (i := 15) rfl)) (hw _ (List.mem_of_getElem? (i := 3) rfl)) (by decide) (by decide)) q53a q53c (g := (mkF m 149 #[.val (.int p1), .val (.int p2), .val (.ref b1), .val (.ref wF), .val (.ref wH), .val (.int (1 : Int32)), .val (.int (1 : Int32)), .val (.int (1 : Int32)), .val (.int (1 : Int32)), .unset] [(.ref wH)])) rfl (by rw [hml]; rfl) (Steps.refl _) (argsL := []) (rest := []) (lenOf own_pd0 rfl) rfl (by show 2 * 0 + _ ≤ _; exact Nat.le_of_eq rfl) (hb hby at_149) (fun _ _ => ⟨rfl, e52, (by decide : 1 + 0 ≤ _), (by decide : 3 + 0 ≤ _)⟩)
      dsimp only [Pt.U, Pt.locs, Pt.cells, Pt.slots] at X53 l53 y53 z53 st53 hQ53
      subst l53 y53 z53
      obtain ⟨rfl, Nq53, e53⟩ := hQ53
      have N53 := Fr.app N52 Nq53
      obtain ⟨_, _, ⟨T54, L54, k54, n54⟩, -, X54, ⟨Lc54, hQ54, l54, y54, z54⟩, st54⟩ := Jvm.LawKit.callS X53 hx (y := (⟨"com/example/frugal_nets/frugalnets/check/Verdict", "of", "(Z)Lcom/example/frugal_nets/frugalnets/check/Verdict;"⟩ : MethodName)) hown (mvT hZ (hw _ (List.mem_of_getElem? (i := 18) rfl))) (mvT hZ (hw _ (List.mem_of_getElem? (i := 19) rfl))) (mvT hZ (hw _ (List.mem_of_getElem? (i := 3) rfl))) (mvT hZ (hw _ (List.mem_of_getElem? (i := 20) rfl))) (by decide) (backOf (W := 1) (rmOf l Z a0 hw [] (0 : Int32) wF wH wF wU h13 n0 o36 G0 (by simp)) hZ (hw _ (List.mem_of_getElem? (i := 20) rfl)) (hw _ (List.mem_of_getElem? (i := 3) rfl)) (by decide) (by decide)) (g := (mkF m 162 #[.val (.int p1), .val (.int p2), .val (.ref b1), .val (.ref wF), .val (.ref wH), .val (.int (1 : Int32)), .val (.int (1 : Int32)), .val (.int (1 : Int32)), .val (.int (1 : Int32)), .unset] [(.int (0 : Int32)), (.ref wF)])) rfl (by rw [hml]; rfl) (argsL := [(.int (0 : Int32))]) (rest := [(.ref wF)]) (lenOf own_pd1 rfl) rfl (by show 2 * 0 + _ ≤ _; exact Nat.le_of_eq rfl) (hb hby at_162) (fun _ _ => ⟨rfl, e53, (by decide : 1 + 0 ≤ _), (by decide : 3 + 0 ≤ _)⟩)
      dsimp only [Pt.U, Pt.locs, Pt.cells, Pt.slots] at X54 l54 y54 z54 st54 hQ54
      subst l54 y54 z54
      obtain ⟨rfl, Nq54, e54⟩ := hQ54
      have N54 := Fr.app N53 Nq54
      have g55 : ∀ t, Steps p.tables e below (T54.setTop (mkF m 200 #[.val (.int p1), .val (.int p2), .val (.ref b1), .val (.ref wF), .val (.ref wH), .val (.int (1 : Int32)), .val (.int (1 : Int32)), .val (.int (1 : Int32)), .val (.int (1 : Int32)), .val (.int (1 : Int32))] [(.int (1 : Int32))])) t → Steps p.tables e below (s₁.setTop (entryFrame m #[(.int p1), (.int p2)] maxLocals)) t := by
        intro t k
        refine g47 t ?_
        show Steps p.tables e below (T45.setTop (mkF m 134 #[.val (.int p1), .val (.int p2), .val (.ref b1), .val (.ref wF), .val (.ref wH), .val (.int (1 : Int32)), .val (.int (1 : Int32)), .val (.int (1 : Int32)), .unset, .unset] [(.int (p2 &&& (1 : Int32)))])) _
        refine XS.ifNo X45.here hx rfl (hb hby at_134) rfl ((if0 _ _).trans (feq hc46).1) ?_
        show Steps p.tables e below (T45.setTop (mkF m 137 #[.val (.int p1), .val (.int p2), .val (.ref b1), .val (.ref wF), .val (.ref wH), .val (.int (1 : Int32)), .val (.int (1 : Int32)), .val (.int (1 : Int32)), .unset, .unset] [])) _
        refine XS.iconst X45.here hx rfl (hb hby at_137) ?_
        show Steps p.tables e below (T45.setTop (mkF m 138 #[.val (.int p1), .val (.int p2), .val (.ref b1), .val (.ref wF), .val (.ref wH), .val (.int (1 : Int32)), .val (.int (1 : Int32)), .val (.int (1 : Int32)), .unset, .unset] [(.int (1 : Int32))])) _
        refine XS.goto X45.here hx rfl (pc0 := 138) (pc' := 142) rfl (hb hby at_138) (by decide) (by decide) ?_
        show Steps p.tables e below (T45.setTop (mkF m 142 #[.val (.int p1), .val (.int p2), .val (.ref b1), .val (.ref wF), .val (.ref wH), .val (.int (1 : Int32)), .val (.int (1 : Int32)), .val (.int (1 : Int32)), .unset, .unset] [(.int (1 : Int32))])) _
        refine XS.istore X45.here hx rfl (hb hby at_142) rfl (l' := #[.val (.int p1), .val (.int p2), .val (.ref b1), .val (.ref wF), .val (.ref wH), .val (.int (1 : Int32)), .val (.int (1 : Int32)), .val (.int (1 : Int32)), .val (.int (1 : Int32)), .unset]) rfl ?_
        show Steps p.tables e below (T45.setTop (mkF m 144 #[.val (.int p1), .val (.int p2), .val (.ref b1), .val (.ref wF), .val (.ref wH), .val (.int (1 : Int32)), .val (.int (1 : Int32)), .val (.int (1 : Int32)), .val (.int (1 : Int32)), .unset] [])) _
        refine XS.iload X45.here hx rfl (hb hby at_144) rfl ?_
        show Steps p.tables e below (T45.setTop (mkF m 146 #[.val (.int p1), .val (.int p2), .val (.ref b1), .val (.ref wF), .val (.ref wH), .val (.int (1 : Int32)), .val (.int (1 : Int32)), .val (.int (1 : Int32)), .val (.int (1 : Int32)), .unset] [(.int (1 : Int32))])) _
        refine st52 _ ?_
        show Steps p.tables e below (T52.setTop (mkF m 149 #[.val (.int p1), .val (.int p2), .val (.ref b1), .val (.ref wF), .val (.ref wH), .val (.int (1 : Int32)), .val (.int (1 : Int32)), .val (.int (1 : Int32)), .val (.int (1 : Int32)), .unset] [(.ref wH)])) _
        refine st53.trans ?_
        show Steps p.tables e below (T53.setTop (mkF m 152 #[.val (.int p1), .val (.int p2), .val (.ref b1), .val (.ref wF), .val (.ref wH), .val (.int (1 : Int32)), .val (.int (1 : Int32)), .val (.int (1 : Int32)), .val (.int (1 : Int32)), .unset] [(.ref wF)])) _
        refine XS.iload X53.here hx rfl (hb hby at_152) rfl ?_
        show Steps p.tables e below (T53.setTop (mkF m 154 #[.val (.int p1), .val (.int p2), .val (.ref b1), .val (.ref wF), .val (.ref wH), .val (.int (1 : Int32)), .val (.int (1 : Int32)), .val (.int (1 : Int32)), .val (.int (1 : Int32)), .unset] [(.int (1 : Int32)), (.ref wF)])) _
        refine XS.ifYes X53.here hx rfl (pc0 := 154) (pc' := 161) rfl (hb hby at_154) rfl ((if0 _ _).trans (feq (by decide : ¬ ((1 : Int32) = (0 : Int32)))).2) (by decide) (by decide) ?_
        show Steps p.tables e below (T53.setTop (mkF m 161 #[.val (.int p1), .val (.int p2), .val (.ref b1), .val (.ref wF), .val (.ref wH), .val (.int (1 : Int32)), .val (.int (1 : Int32)), .val (.int (1 : Int32)), .val (.int (1 : Int32)), .unset] [(.ref wF)])) _
        refine XS.iconst X53.here hx rfl (hb hby at_161) ?_
        show Steps p.tables e below (T53.setTop (mkF m 162 #[.val (.int p1), .val (.int p2), .val (.ref b1), .val (.ref wF), .val (.ref wH), .val (.int (1 : Int32)), .val (.int (1 : Int32)), .val (.int (1 : Int32)), .val (.int (1 : Int32)), .unset] [(.int (0 : Int32)), (.ref wF)])) _
        refine st54 _ ?_
        show Steps p.tables e below (T54.setTop (mkF m 165 #[.val (.int p1), .val (.int p2), .val (.ref b1), .val (.ref wF), .val (.ref wH), .val (.int (1 : Int32)), .val (.int (1 : Int32)), .val (.int (1 : Int32)), .val (.int (1 : Int32)), .unset] [(.ref wF), (.ref wF)])) _
        refine Jvm.RoadKit.acmp (g := (mkF m 165 #[.val (.int p1), .val (.int p2), .val (.ref b1), .val (.ref wF), .val (.ref wH), .val (.int (1 : Int32)), .val (.int (1 : Int32)), .val (.int (1 : Int32)), .val (.int (1 : Int32)), .unset] [(.ref wF), (.ref wF)])) X54 hx rfl rfl rfl (pc0 := 165) (pc' := 168) (same := true) rfl (hb hby at_165) rfl (decide_eq_true rfl) (by decide) (by decide) ?_
        show Steps p.tables e below (T54.setTop (mkF m 168 #[.val (.int p1), .val (.int p2), .val (.ref b1), .val (.ref wF), .val (.ref wH), .val (.int (1 : Int32)), .val (.int (1 : Int32)), .val (.int (1 : Int32)), .val (.int (1 : Int32)), .unset] [])) _
        refine XS.iconst X54.here hx rfl (hb hby at_168) ?_
        show Steps p.tables e below (T54.setTop (mkF m 169 #[.val (.int p1), .val (.int p2), .val (.ref b1), .val (.ref wF), .val (.ref wH), .val (.int (1 : Int32)), .val (.int (1 : Int32)), .val (.int (1 : Int32)), .val (.int (1 : Int32)), .unset] [(.int (1 : Int32))])) _
        refine XS.goto X54.here hx rfl (pc0 := 169) (pc' := 173) rfl (hb hby at_169) (by decide) (by decide) ?_
        show Steps p.tables e below (T54.setTop (mkF m 173 #[.val (.int p1), .val (.int p2), .val (.ref b1), .val (.ref wF), .val (.ref wH), .val (.int (1 : Int32)), .val (.int (1 : Int32)), .val (.int (1 : Int32)), .val (.int (1 : Int32)), .unset] [(.int (1 : Int32))])) _
        refine XS.istore X54.here hx rfl (hb hby at_173) rfl (l' := #[.val (.int p1), .val (.int p2), .val (.ref b1), .val (.ref wF), .val (.ref wH), .val (.int (1 : Int32)), .val (.int (1 : Int32)), .val (.int (1 : Int32)), .val (.int (1 : Int32)), .val (.int (1 : Int32))]) rfl ?_
        show Steps p.tables e below (T54.setTop (mkF m 175 #[.val (.int p1), .val (.int p2), .val (.ref b1), .val (.ref wF), .val (.ref wH), .val (.int (1 : Int32)), .val (.int (1 : Int32)), .val (.int (1 : Int32)), .val (.int (1 : Int32)), .val (.int (1 : Int32))] [])) _
        refine XS.iload X54.here hx rfl (hb hby at_175) rfl ?_
        show Steps p.tables e below (T54.setTop (mkF m 177 #[.val (.int p1), .val (.int p2), .val (.ref b1), .val (.ref wF), .val (.ref wH), .val (.int (1 : Int32)), .val (.int (1 : Int32)), .val (.int (1 : Int32)), .val (.int (1 : Int32)), .val (.int (1 : Int32))] [(.int (1 : Int32))])) _
        refine XS.ifNo X54.here hx rfl (hb hby at_177) rfl ((if0 _ _).trans (feq (by decide : ¬ ((1 : Int32) = (0 : Int32)))).1) ?_
        show Steps p.tables e below (T54.setTop (mkF m 180 #[.val (.int p1), .val (.int p2), .val (.ref b1), .val (.ref wF), .val (.ref wH), .val (.int (1 : Int32)), .val (.int (1 : Int32)), .val (.int (1 : Int32)), .val (.int (1 : Int32)), .val (.int (1 : Int32))] [])) _
        refine XS.iload X54.here hx rfl (hb hby at_180) rfl ?_
        show Steps p.tables e below (T54.setTop (mkF m 182 #[.val (.int p1), .val (.int p2), .val (.ref b1), .val (.ref wF), .val (.ref wH), .val (.int (1 : Int32)), .val (.int (1 : Int32)), .val (.int (1 : Int32)), .val (.int (1 : Int32)), .val (.int (1 : Int32))] [(.int (1 : Int32))])) _
        refine XS.ifNo X54.here hx rfl (hb hby at_182) rfl ((if0 _ _).trans (feq (by decide : ¬ ((1 : Int32) = (0 : Int32)))).1) ?_
        show Steps p.tables e below (T54.setTop (mkF m 185 #[.val (.int p1), .val (.int p2), .val (.ref b1), .val (.ref wF), .val (.ref wH), .val (.int (1 : Int32)), .val (.int (1 : Int32)), .val (.int (1 : Int32)), .val (.int (1 : Int32)), .val (.int (1 : Int32))] [])) _
        refine XS.iload X54.here hx rfl (hb hby at_185) rfl ?_
        show Steps p.tables e below (T54.setTop (mkF m 187 #[.val (.int p1), .val (.int p2), .val (.ref b1), .val (.ref wF), .val (.ref wH), .val (.int (1 : Int32)), .val (.int (1 : Int32)), .val (.int (1 : Int32)), .val (.int (1 : Int32)), .val (.int (1 : Int32))] [(.int (1 : Int32))])) _
        refine XS.ifNo X54.here hx rfl (hb hby at_187) rfl ((if0 _ _).trans (feq (by decide : ¬ ((1 : Int32) = (0 : Int32)))).1) ?_
        show Steps p.tables e below (T54.setTop (mkF m 190 #[.val (.int p1), .val (.int p2), .val (.ref b1), .val (.ref wF), .val (.ref wH), .val (.int (1 : Int32)), .val (.int (1 : Int32)), .val (.int (1 : Int32)), .val (.int (1 : Int32)), .val (.int (1 : Int32))] [])) _
        refine XS.iload X54.here hx rfl (hb hby at_190) rfl ?_
        show Steps p.tables e below (T54.setTop (mkF m 192 #[.val (.int p1), .val (.int p2), .val (.ref b1), .val (.ref wF), .val (.ref wH), .val (.int (1 : Int32)), .val (.int (1 : Int32)), .val (.int (1 : Int32)), .val (.int (1 : Int32)), .val (.int (1 : Int32))] [(.int (1 : Int32))])) _
        refine XS.ifNo X54.here hx rfl (hb hby at_192) rfl ((if0 _ _).trans (feq (by decide : ¬ ((1 : Int32) = (0 : Int32)))).1) ?_
        show Steps p.tables e below (T54.setTop (mkF m 195 #[.val (.int p1), .val (.int p2), .val (.ref b1), .val (.ref wF), .val (.ref wH), .val (.int (1 : Int32)), .val (.int (1 : Int32)), .val (.int (1 : Int32)), .val (.int (1 : Int32)), .val (.int (1 : Int32))] [])) _
        refine XS.iconst X54.here hx rfl (hb hby at_195) ?_
        show Steps p.tables e below (T54.setTop (mkF m 196 #[.val (.int p1), .val (.int p2), .val (.ref b1), .val (.ref wF), .val (.ref wH), .val (.int (1 : Int32)), .val (.int (1 : Int32)), .val (.int (1 : Int32)), .val (.int (1 : Int32)), .val (.int (1 : Int32))] [(.int (1 : Int32))])) _
        refine XS.goto X54.here hx rfl (pc0 := 196) (pc' := 200) rfl (hb hby at_196) (by decide) (by decide) ?_
        exact k
      obtain ⟨fs, hrt, hrun, hended, hW, hsame⟩ := X54.leave (v := some (.int (1 : Int32))) (fun h => by rw [Bd.returns] at h; cases h)
      refine ⟨_, _, g55 _ ?_, hrun, hended, _, _, rfl, ?_, ⟨_, rfl⟩, hW, hsame.mono (by decide) (by decide)⟩
      · show Steps p.tables e below (T54.setTop (mkF m 200 #[.val (.int p1), .val (.int p2), .val (.ref b1), .val (.ref wF), .val (.ref wH), .val (.int (1 : Int32)), .val (.int (1 : Int32)), .val (.int (1 : Int32)), .val (.int (1 : Int32)), .val (.int (1 : Int32))] [(.int (1 : Int32))])) _
        exact retN X54 hx (t := .boolean) Bd.returns (by simp) (hb hby at_200) hrt
      · show own_Q_rm0 Z p1 p2 wH wF wU h0 n0 _ T54.heap _
        rw [e54]
        exact ⟨rfl, N54⟩
  · skip
    obtain ⟨c56, Ar56, cq56, S56, Nn56, Hh56, Gg56⟩ := id V13a
    have hin56 : ¬ ((2 : Int32) < 0 ∨ c56.slots.size ≤ ((2 : Int32)).toNatClampNeg) := inb_of S56 ⟨by decide, by decide⟩
    have hat56 : c56.slots[((2 : Int32)).toNatClampNeg]? = some (.ref wU) := Has.at Hh56 hin56 rfl
    have o57 : Old Z n0 h13 := (Old.wr o10 W13 gz_b1)
    obtain ⟨cq58, kq58, q58a, q58b, q58c⟩ := isOf hZ e13 (Ex_UNKNOWN.ext o57.2)
    obtain ⟨_, _, ⟨T58, L58, k58, n58⟩, -, X58, ⟨Lc58, hQ58, l58, y58, z58⟩, st58⟩ := X13.virtualBack hx (y := (⟨"com/example/frugal_nets/frugalnets/check/Verdict", "negated", "()Lcom/example/frugal_nets/frugalnets/check/Verdict;"⟩ : MethodName)) (z := (⟨"com/example/frugal_nets/frugalnets/check/Verdict", "negated", "()Lcom/example/frugal_nets/frugalnets/check/Verdict;"⟩ : MethodName)) hown (mvT hZ (hw _ (List.mem_of_getElem? (i := 11) rfl))) (mvT hZ (hw _ (List.mem_of_getElem? (i := 12) rfl))) (notFace_of_selects (args := #[]) (mvT hZ (hw _ (List.mem_of_getElem? (i := 14) rfl)))) (mvT hZ (hw _ (List.mem_of_getElem? (i := 14) rfl))) (mvT hZ (hw _ (List.mem_of_getElem? (i := 13) rfl))) (by decide) (backOf (W := 0) (rmNeg l Z a0 hw [] wU wU wH wF wU h13 n0 o57 G0 (by simp [hHF, hHU, hFU, Ne.symm hHF, Ne.symm hHU, Ne.symm hFU])) hZ (hw _ (List.mem_of_getElem? (i := 15) rfl)) (hw _ (List.mem_of_getElem? (i := 3) rfl)) (by decide) (by decide)) q58a q58c (g := (mkF m 33 #[.val (.int p1), .val (.int p2), .val (.ref b1), .val (.ref wU), .unset, .unset, .unset, .unset, .unset, .unset] [(.ref wU)])) rfl (by rw [hml]; rfl) (Steps.refl _) (argsL := []) (rest := []) (lenOf own_pd0 rfl) rfl (by show 2 * 0 + _ ≤ _; exact Nat.le_of_eq rfl) (hb hby at_33) (fun _ _ => ⟨rfl, e13, (by decide : 1 + 0 ≤ _), (by decide : 3 + 0 ≤ _)⟩)
    dsimp only [Pt.U, Pt.locs, Pt.cells, Pt.slots] at X58 l58 y58 z58 st58 hQ58
    subst l58 y58 z58
    obtain ⟨rfl, Nq58, e58⟩ := hQ58
    have N58 := Fr.app N13 Nq58
    obtain ⟨T59, X59, e59, st59⟩ := getS2 X58 hx hZ hown (host := "") (Or.inl (hw _ (List.mem_of_getElem? (i := 8) rfl))) Via.refl e58 (S_UNKNOWN.ext o57.2) (g := (mkF m 46 #[.val (.int p1), .val (.int p2), .val (.ref b1), .val (.ref wU), .val (.ref wU), .unset, .unset, .unset, .unset, .unset] [(.ref wU)])) rfl (hb hby at_46)
    obtain ⟨T60, X60, e60, st60⟩ := getS2 X59 hx hZ hown (host := "") (Or.inl (hw _ (List.mem_of_getElem? (i := 8) rfl))) Via.refl e59 (S_UNKNOWN.ext o57.2) (g := (mkF m 59 #[.val (.int p1), .val (.int p2), .val (.ref b1), .val (.ref wU), .val (.ref wU), .unset, .unset, .unset, .unset, .unset] [(.ref wU), (.int (1 : Int32))])) rfl (hb hby at_59)
    obtain ⟨T61, X61, e61, st61⟩ := getS2 X60 hx hZ hown (host := "") (Or.inl (hw _ (List.mem_of_getElem? (i := 2) rfl))) Via.refl e60 (S_HOLDS.ext o57.2) (g := (mkF m 81 #[.val (.int p1), .val (.int p2), .val (.ref b1), .val (.ref wU), .val (.ref wU), .val (.int (1 : Int32)), .unset, .unset, .unset, .unset] [(.ref wU)])) rfl (hb hby at_81)
    have hc62 : ¬ (wU = wH) := Ne.symm hHU
    obtain ⟨T63, X63, e63, st63⟩ := getS2 X61 hx hZ hown (host := "") (Or.inl (hw _ (List.mem_of_getElem? (i := 6) rfl))) Via.refl e61 (S_FAILS.ext o57.2) (g := (mkF m 94 #[.val (.int p1), .val (.int p2), .val (.ref b1), .val (.ref wU), .val (.ref wU), .val (.int (1 : Int32)), .unset, .unset, .unset, .unset] [(.ref wU), (.int (0 : Int32))])) rfl (hb hby at_94)
    have hc64 : ¬ (wU = wF) := Ne.symm hFU
    obtain ⟨cq65, kq65, q65a, q65b, q65c⟩ := isOf hZ e63 (Ex_UNKNOWN.ext o57.2)
    obtain ⟨_, _, ⟨T65, L65, k65, n65⟩, -, X65, ⟨Lc65, hQ65, l65, y65, z65⟩, st65⟩ := X63.virtualBack hx (y := (⟨"com/example/frugal_nets/frugalnets/check/Verdict", "negated", "()Lcom/example/frugal_nets/frugalnets/check/Verdict;"⟩ : MethodName)) (z := (⟨"com/example/frugal_nets/frugalnets/check/Verdict", "negated", "()Lcom/example/frugal_nets/frugalnets/check/Verdict;"⟩ : MethodName)) hown (mvT hZ (hw _ (List.mem_of_getElem? (i := 11) rfl))) (mvT hZ (hw _ (List.mem_of_getElem? (i := 12) rfl))) (notFace_of_selects (args := #[]) (mvT hZ (hw _ (List.mem_of_getElem? (i := 14) rfl)))) (mvT hZ (hw _ (List.mem_of_getElem? (i := 14) rfl))) (mvT hZ (hw _ (List.mem_of_getElem? (i := 13) rfl))) (by decide) (backOf (W := 0) (rmNeg l Z a0 hw [] wU wU wH wF wU h13 n0 o57 G0 (by simp [hHF, hHU, hFU, Ne.symm hHF, Ne.symm hHU, Ne.symm hFU])) hZ (hw _ (List.mem_of_getElem? (i := 15) rfl)) (hw _ (List.mem_of_getElem? (i := 3) rfl)) (by decide) (by decide)) q65a q65c (g := (mkF m 117 #[.val (.int p1), .val (.int p2), .val (.ref b1), .val (.ref wU), .val (.ref wU), .val (.int (1 : Int32)), .val (.int (1 : Int32)), .unset, .unset, .unset] [(.ref wU)])) rfl (by rw [hml]; rfl) (Steps.refl _) (argsL := []) (rest := []) (lenOf own_pd0 rfl) rfl (by show 2 * 0 + _ ≤ _; exact Nat.le_of_eq rfl) (hb hby at_117) (fun _ _ => ⟨rfl, e63, (by decide : 1 + 0 ≤ _), (by decide : 3 + 0 ≤ _)⟩)
    dsimp only [Pt.U, Pt.locs, Pt.cells, Pt.slots] at X65 l65 y65 z65 st65 hQ65
    subst l65 y65 z65
    obtain ⟨rfl, Nq65, e65⟩ := hQ65
    have N65 := Fr.app N58 Nq65
    have g67 : ∀ t, Steps p.tables e below (T65.setTop (mkF m 134 #[.val (.int p1), .val (.int p2), .val (.ref b1), .val (.ref wU), .val (.ref wU), .val (.int (1 : Int32)), .val (.int (1 : Int32)), .val (.int (1 : Int32)), .unset, .unset] [(.int (p2 &&& (1 : Int32)))])) t → Steps p.tables e below (s₁.setTop (entryFrame m #[(.int p1), (.int p2)] maxLocals)) t := by
      intro t k
      refine g14 t ?_
      show Steps p.tables e below (T13.setTop (mkF m 30 #[.val (.int p1), .val (.int p2), .val (.ref b1), .unset, .unset, .unset, .unset, .unset, .unset, .unset] [(.int (2 : Int32)), (.ref b1)])) _
      refine X13.aaload hx (j := (2 : Int32)) (v := (.ref wU)) (by rw [e13]; exact Ar56.1) (State.isArrayOf_alike hZ.alike Ar56.2.1) rfl Ar56.2.2 hin56 hat56 (g := (mkF m 30 #[.val (.int p1), .val (.int p2), .val (.ref b1), .unset, .unset, .unset, .unset, .unset, .unset, .unset] [(.int (2 : Int32)), (.ref b1)])) rfl rfl (hb hby at_30) _ ?_
      show Steps p.tables e below (T13.setTop (mkF m 31 #[.val (.int p1), .val (.int p2), .val (.ref b1), .unset, .unset, .unset, .unset, .unset, .unset, .unset] [(.ref wU)])) _
      refine XS.astoreN X13.here hx rfl (hb hby at_31) rfl rfl (l' := #[.val (.int p1), .val (.int p2), .val (.ref b1), .val (.ref wU), .unset, .unset, .unset, .unset, .unset, .unset]) rfl ?_
      show Steps p.tables e below (T13.setTop (mkF m 32 #[.val (.int p1), .val (.int p2), .val (.ref b1), .val (.ref wU), .unset, .unset, .unset, .unset, .unset, .unset] [])) _
      refine XS.aloadN X13.here hx rfl (hb hby at_32) rfl rfl ?_
      show Steps p.tables e below (T13.setTop (mkF m 33 #[.val (.int p1), .val (.int p2), .val (.ref b1), .val (.ref wU), .unset, .unset, .unset, .unset, .unset, .unset] [(.ref wU)])) _
      refine st58.trans ?_
      show Steps p.tables e below (T58.setTop (mkF m 36 #[.val (.int p1), .val (.int p2), .val (.ref b1), .val (.ref wU), .unset, .unset, .unset, .unset, .unset, .unset] [(.ref wU)])) _
      refine XS.astore X58.here hx rfl (hb hby at_36) rfl rfl (l' := #[.val (.int p1), .val (.int p2), .val (.ref b1), .val (.ref wU), .val (.ref wU), .unset, .unset, .unset, .unset, .unset]) rfl ?_
      show Steps p.tables e below (T58.setTop (mkF m 38 #[.val (.int p1), .val (.int p2), .val (.ref b1), .val (.ref wU), .val (.ref wU), .unset, .unset, .unset, .unset, .unset] [])) _
      refine XS.aload X58.here hx rfl (hb hby at_38) rfl rfl ?_
      show Steps p.tables e below (T58.setTop (mkF m 40 #[.val (.int p1), .val (.int p2), .val (.ref b1), .val (.ref wU), .val (.ref wU), .unset, .unset, .unset, .unset, .unset] [(.ref wU)])) _
      refine XS.ifnonnullYes X58.here hx rfl (pc0 := 40) (pc' := 45) rfl (hb hby at_40) rfl (by decide) (by decide) ?_
      show Steps p.tables e below (T58.setTop (mkF m 45 #[.val (.int p1), .val (.int p2), .val (.ref b1), .val (.ref wU), .val (.ref wU), .unset, .unset, .unset, .unset, .unset] [])) _
      refine XS.aloadN X58.here hx rfl (hb hby at_45) rfl rfl ?_
      show Steps p.tables e below (T58.setTop (mkF m 46 #[.val (.int p1), .val (.int p2), .val (.ref b1), .val (.ref wU), .val (.ref wU), .unset, .unset, .unset, .unset, .unset] [(.ref wU)])) _
      refine st59 _ ?_
      show Steps p.tables e below (T59.setTop (mkF m 49 #[.val (.int p1), .val (.int p2), .val (.ref b1), .val (.ref wU), .val (.ref wU), .unset, .unset, .unset, .unset, .unset] [(.ref wU), (.ref wU)])) _
      refine Jvm.RoadKit.acmp (g := (mkF m 49 #[.val (.int p1), .val (.int p2), .val (.ref b1), .val (.ref wU), .val (.ref wU), .unset, .unset, .unset, .unset, .unset] [(.ref wU), (.ref wU)])) X59 hx rfl rfl rfl (pc0 := 49) (pc' := 52) (same := true) rfl (hb hby at_49) rfl (decide_eq_true rfl) (by decide) (by decide) ?_
      show Steps p.tables e below (T59.setTop (mkF m 52 #[.val (.int p1), .val (.int p2), .val (.ref b1), .val (.ref wU), .val (.ref wU), .unset, .unset, .unset, .unset, .unset] [])) _
      refine XS.iconst X59.here hx rfl (hb hby at_52) ?_
      show Steps p.tables e below (T59.setTop (mkF m 53 #[.val (.int p1), .val (.int p2), .val (.ref b1), .val (.ref wU), .val (.ref wU), .unset, .unset, .unset, .unset, .unset] [(.int (1 : Int32))])) _
      refine XS.goto X59.here hx rfl (pc0 := 53) (pc' := 57) rfl (hb hby at_53) (by decide) (by decide) ?_
      show Steps p.tables e below (T59.setTop (mkF m 57 #[.val (.int p1), .val (.int p2), .val (.ref b1), .val (.ref wU), .val (.ref wU), .unset, .unset, .unset, .unset, .unset] [(.int (1 : Int32))])) _
      refine XS.aload X59.here hx rfl (hb hby at_57) rfl rfl ?_
      show Steps p.tables e below (T59.setTop (mkF m 59 #[.val (.int p1), .val (.int p2), .val (.ref b1), .val (.ref wU), .val (.ref wU), .unset, .unset, .unset, .unset, .unset] [(.ref wU), (.int (1 : Int32))])) _
      refine st60 _ ?_
      show Steps p.tables e below (T60.setTop (mkF m 62 #[.val (.int p1), .val (.int p2), .val (.ref b1), .val (.ref wU), .val (.ref wU), .unset, .unset, .unset, .unset, .unset] [(.ref wU), (.ref wU), (.int (1 : Int32))])) _
      refine Jvm.RoadKit.acmp (g := (mkF m 62 #[.val (.int p1), .val (.int p2), .val (.ref b1), .val (.ref wU), .val (.ref wU), .unset, .unset, .unset, .unset, .unset] [(.ref wU), (.ref wU), (.int (1 : Int32))])) X60 hx rfl rfl rfl (pc0 := 62) (pc' := 65) (same := true) rfl (hb hby at_62) rfl (decide_eq_true rfl) (by decide) (by decide) ?_
      show Steps p.tables e below (T60.setTop (mkF m 65 #[.val (.int p1), .val (.int p2), .val (.ref b1), .val (.ref wU), .val (.ref wU), .unset, .unset, .unset, .unset, .unset] [(.int (1 : Int32))])) _
      refine XS.iconst X60.here hx rfl (hb hby at_65) ?_
      show Steps p.tables e below (T60.setTop (mkF m 66 #[.val (.int p1), .val (.int p2), .val (.ref b1), .val (.ref wU), .val (.ref wU), .unset, .unset, .unset, .unset, .unset] [(.int (1 : Int32)), (.int (1 : Int32))])) _
      refine XS.goto X60.here hx rfl (pc0 := 66) (pc' := 70) rfl (hb hby at_66) (by decide) (by decide) ?_
      show Steps p.tables e below (T60.setTop (mkF m 70 #[.val (.int p1), .val (.int p2), .val (.ref b1), .val (.ref wU), .val (.ref wU), .unset, .unset, .unset, .unset, .unset] [(.int (1 : Int32)), (.int (1 : Int32))])) _
      refine XS.icmpNo X60.here hx rfl (hb hby at_70) rfl (teq (by decide : (1 : Int32) = (1 : Int32))).2 ?_
      show Steps p.tables e below (T60.setTop (mkF m 73 #[.val (.int p1), .val (.int p2), .val (.ref b1), .val (.ref wU), .val (.ref wU), .unset, .unset, .unset, .unset, .unset] [])) _
      refine XS.iconst X60.here hx rfl (hb hby at_73) ?_
      show Steps p.tables e below (T60.setTop (mkF m 74 #[.val (.int p1), .val (.int p2), .val (.ref b1), .val (.ref wU), .val (.ref wU), .unset, .unset, .unset, .unset, .unset] [(.int (1 : Int32))])) _
      refine XS.goto X60.here hx rfl (pc0 := 74) (pc' := 78) rfl (hb hby at_74) (by decide) (by decide) ?_
      show Steps p.tables e below (T60.setTop (mkF m 78 #[.val (.int p1), .val (.int p2), .val (.ref b1), .val (.ref wU), .val (.ref wU), .unset, .unset, .unset, .unset, .unset] [(.int (1 : Int32))])) _
      refine XS.istore X60.here hx rfl (hb hby at_78) rfl (l' := #[.val (.int p1), .val (.int p2), .val (.ref b1), .val (.ref wU), .val (.ref wU), .val (.int (1 : Int32)), .unset, .unset, .unset, .unset]) rfl ?_
      show Steps p.tables e below (T60.setTop (mkF m 80 #[.val (.int p1), .val (.int p2), .val (.ref b1), .val (.ref wU), .val (.ref wU), .val (.int (1 : Int32)), .unset, .unset, .unset, .unset] [])) _
      refine XS.aloadN X60.here hx rfl (hb hby at_80) rfl rfl ?_
      show Steps p.tables e below (T60.setTop (mkF m 81 #[.val (.int p1), .val (.int p2), .val (.ref b1), .val (.ref wU), .val (.ref wU), .val (.int (1 : Int32)), .unset, .unset, .unset, .unset] [(.ref wU)])) _
      refine st61 _ ?_
      show Steps p.tables e below (T61.setTop (mkF m 84 #[.val (.int p1), .val (.int p2), .val (.ref b1), .val (.ref wU), .val (.ref wU), .val (.int (1 : Int32)), .unset, .unset, .unset, .unset] [(.ref wH), (.ref wU)])) _
      refine Jvm.RoadKit.acmp (g := (mkF m 84 #[.val (.int p1), .val (.int p2), .val (.ref b1), .val (.ref wU), .val (.ref wU), .val (.int (1 : Int32)), .unset, .unset, .unset, .unset] [(.ref wH), (.ref wU)])) X61 hx rfl rfl rfl (pc0 := 84) (pc' := 91) (same := false) rfl (hb hby at_84) rfl (decide_eq_false fun q => hc62 (Value.ref.inj q)) (by decide) (by decide) ?_
      show Steps p.tables e below (T61.setTop (mkF m 91 #[.val (.int p1), .val (.int p2), .val (.ref b1), .val (.ref wU), .val (.ref wU), .val (.int (1 : Int32)), .unset, .unset, .unset, .unset] [])) _
      refine XS.iconst X61.here hx rfl (hb hby at_91) ?_
      show Steps p.tables e below (T61.setTop (mkF m 92 #[.val (.int p1), .val (.int p2), .val (.ref b1), .val (.ref wU), .val (.ref wU), .val (.int (1 : Int32)), .unset, .unset, .unset, .unset] [(.int (0 : Int32))])) _
      refine XS.aload X61.here hx rfl (hb hby at_92) rfl rfl ?_
      show Steps p.tables e below (T61.setTop (mkF m 94 #[.val (.int p1), .val (.int p2), .val (.ref b1), .val (.ref wU), .val (.ref wU), .val (.int (1 : Int32)), .unset, .unset, .unset, .unset] [(.ref wU), (.int (0 : Int32))])) _
      refine st63 _ ?_
      show Steps p.tables e below (T63.setTop (mkF m 97 #[.val (.int p1), .val (.int p2), .val (.ref b1), .val (.ref wU), .val (.ref wU), .val (.int (1 : Int32)), .unset, .unset, .unset, .unset] [(.ref wF), (.ref wU), (.int (0 : Int32))])) _
      refine Jvm.RoadKit.acmp (g := (mkF m 97 #[.val (.int p1), .val (.int p2), .val (.ref b1), .val (.ref wU), .val (.ref wU), .val (.int (1 : Int32)), .unset, .unset, .unset, .unset] [(.ref wF), (.ref wU), (.int (0 : Int32))])) X63 hx rfl rfl rfl (pc0 := 97) (pc' := 104) (same := false) rfl (hb hby at_97) rfl (decide_eq_false fun q => hc64 (Value.ref.inj q)) (by decide) (by decide) ?_
      show Steps p.tables e below (T63.setTop (mkF m 104 #[.val (.int p1), .val (.int p2), .val (.ref b1), .val (.ref wU), .val (.ref wU), .val (.int (1 : Int32)), .unset, .unset, .unset, .unset] [(.int (0 : Int32))])) _
      refine XS.iconst X63.here hx rfl (hb hby at_104) ?_
      show Steps p.tables e below (T63.setTop (mkF m 105 #[.val (.int p1), .val (.int p2), .val (.ref b1), .val (.ref wU), .val (.ref wU), .val (.int (1 : Int32)), .unset, .unset, .unset, .unset] [(.int (0 : Int32)), (.int (0 : Int32))])) _
      refine XS.icmpNo X63.here hx rfl (hb hby at_105) rfl (teq (by decide : (0 : Int32) = (0 : Int32))).2 ?_
      show Steps p.tables e below (T63.setTop (mkF m 108 #[.val (.int p1), .val (.int p2), .val (.ref b1), .val (.ref wU), .val (.ref wU), .val (.int (1 : Int32)), .unset, .unset, .unset, .unset] [])) _
      refine XS.iconst X63.here hx rfl (hb hby at_108) ?_
      show Steps p.tables e below (T63.setTop (mkF m 109 #[.val (.int p1), .val (.int p2), .val (.ref b1), .val (.ref wU), .val (.ref wU), .val (.int (1 : Int32)), .unset, .unset, .unset, .unset] [(.int (1 : Int32))])) _
      refine XS.goto X63.here hx rfl (pc0 := 109) (pc' := 113) rfl (hb hby at_109) (by decide) (by decide) ?_
      show Steps p.tables e below (T63.setTop (mkF m 113 #[.val (.int p1), .val (.int p2), .val (.ref b1), .val (.ref wU), .val (.ref wU), .val (.int (1 : Int32)), .unset, .unset, .unset, .unset] [(.int (1 : Int32))])) _
      refine XS.istore X63.here hx rfl (hb hby at_113) rfl (l' := #[.val (.int p1), .val (.int p2), .val (.ref b1), .val (.ref wU), .val (.ref wU), .val (.int (1 : Int32)), .val (.int (1 : Int32)), .unset, .unset, .unset]) rfl ?_
      show Steps p.tables e below (T63.setTop (mkF m 115 #[.val (.int p1), .val (.int p2), .val (.ref b1), .val (.ref wU), .val (.ref wU), .val (.int (1 : Int32)), .val (.int (1 : Int32)), .unset, .unset, .unset] [])) _
      refine XS.aload X63.here hx rfl (hb hby at_115) rfl rfl ?_
      show Steps p.tables e below (T63.setTop (mkF m 117 #[.val (.int p1), .val (.int p2), .val (.ref b1), .val (.ref wU), .val (.ref wU), .val (.int (1 : Int32)), .val (.int (1 : Int32)), .unset, .unset, .unset] [(.ref wU)])) _
      refine st65.trans ?_
      show Steps p.tables e below (T65.setTop (mkF m 120 #[.val (.int p1), .val (.int p2), .val (.ref b1), .val (.ref wU), .val (.ref wU), .val (.int (1 : Int32)), .val (.int (1 : Int32)), .unset, .unset, .unset] [(.ref wU)])) _
      refine XS.aloadN X65.here hx rfl (hb hby at_120) rfl rfl ?_
      show Steps p.tables e below (T65.setTop (mkF m 121 #[.val (.int p1), .val (.int p2), .val (.ref b1), .val (.ref wU), .val (.ref wU), .val (.int (1 : Int32)), .val (.int (1 : Int32)), .unset, .unset, .unset] [(.ref wU), (.ref wU)])) _
      refine Jvm.RoadKit.acmp (g := (mkF m 121 #[.val (.int p1), .val (.int p2), .val (.ref b1), .val (.ref wU), .val (.ref wU), .val (.int (1 : Int32)), .val (.int (1 : Int32)), .unset, .unset, .unset] [(.ref wU), (.ref wU)])) X65 hx rfl rfl rfl (pc0 := 121) (pc' := 124) (same := true) rfl (hb hby at_121) rfl (decide_eq_true rfl) (by decide) (by decide) ?_
      show Steps p.tables e below (T65.setTop (mkF m 124 #[.val (.int p1), .val (.int p2), .val (.ref b1), .val (.ref wU), .val (.ref wU), .val (.int (1 : Int32)), .val (.int (1 : Int32)), .unset, .unset, .unset] [])) _
      refine XS.iconst X65.here hx rfl (hb hby at_124) ?_
      show Steps p.tables e below (T65.setTop (mkF m 125 #[.val (.int p1), .val (.int p2), .val (.ref b1), .val (.ref wU), .val (.ref wU), .val (.int (1 : Int32)), .val (.int (1 : Int32)), .unset, .unset, .unset] [(.int (1 : Int32))])) _
      refine XS.goto X65.here hx rfl (pc0 := 125) (pc' := 129) rfl (hb hby at_125) (by decide) (by decide) ?_
      show Steps p.tables e below (T65.setTop (mkF m 129 #[.val (.int p1), .val (.int p2), .val (.ref b1), .val (.ref wU), .val (.ref wU), .val (.int (1 : Int32)), .val (.int (1 : Int32)), .unset, .unset, .unset] [(.int (1 : Int32))])) _
      refine XS.istore X65.here hx rfl (hb hby at_129) rfl (l' := #[.val (.int p1), .val (.int p2), .val (.ref b1), .val (.ref wU), .val (.ref wU), .val (.int (1 : Int32)), .val (.int (1 : Int32)), .val (.int (1 : Int32)), .unset, .unset]) rfl ?_
      show Steps p.tables e below (T65.setTop (mkF m 131 #[.val (.int p1), .val (.int p2), .val (.ref b1), .val (.ref wU), .val (.ref wU), .val (.int (1 : Int32)), .val (.int (1 : Int32)), .val (.int (1 : Int32)), .unset, .unset] [])) _
      refine XS.iloadN X65.here hx rfl (hb hby at_131) rfl ?_
      show Steps p.tables e below (T65.setTop (mkF m 132 #[.val (.int p1), .val (.int p2), .val (.ref b1), .val (.ref wU), .val (.ref wU), .val (.int (1 : Int32)), .val (.int (1 : Int32)), .val (.int (1 : Int32)), .unset, .unset] [(.int p2)])) _
      refine XS.iconst X65.here hx rfl (hb hby at_132) ?_
      show Steps p.tables e below (T65.setTop (mkF m 133 #[.val (.int p1), .val (.int p2), .val (.ref b1), .val (.ref wU), .val (.ref wU), .val (.int (1 : Int32)), .val (.int (1 : Int32)), .val (.int (1 : Int32)), .unset, .unset] [(.int (1 : Int32)), (.int p2)])) _
      refine XS.iand X65.here hx rfl (hb hby at_133) rfl ?_
      exact k
    by_cases hc66 : (p2 &&& (1 : Int32)) = (0 : Int32)
    · obtain ⟨_, _, ⟨T68, L68, k68, n68⟩, -, X68, ⟨Lc68, hQ68, l68, y68, z68⟩, st68⟩ := Jvm.LawKit.callS X65 hx (y := (⟨"com/example/frugal_nets/frugalnets/check/Verdict", "of", "(Z)Lcom/example/frugal_nets/frugalnets/check/Verdict;"⟩ : MethodName)) hown (mvT hZ (hw _ (List.mem_of_getElem? (i := 18) rfl))) (mvT hZ (hw _ (List.mem_of_getElem? (i := 19) rfl))) (mvT hZ (hw _ (List.mem_of_getElem? (i := 3) rfl))) (mvT hZ (hw _ (List.mem_of_getElem? (i := 20) rfl))) (by decide) (backOf (W := 0) (rmOf l Z a0 hw [] (0 : Int32) wF wH wF wU h13 n0 o57 G0 (by simp)) hZ (hw _ (List.mem_of_getElem? (i := 20) rfl)) (hw _ (List.mem_of_getElem? (i := 3) rfl)) (by decide) (by decide)) (g := (mkF m 146 #[.val (.int p1), .val (.int p2), .val (.ref b1), .val (.ref wU), .val (.ref wU), .val (.int (1 : Int32)), .val (.int (1 : Int32)), .val (.int (1 : Int32)), .val (.int (0 : Int32)), .unset] [(.int (0 : Int32))])) rfl (by rw [hml]; rfl) (argsL := [(.int (0 : Int32))]) (rest := []) (lenOf own_pd1 rfl) rfl (by show 2 * 0 + _ ≤ _; exact Nat.le_of_eq rfl) (hb hby at_146) (fun _ _ => ⟨rfl, e65, (by decide : 1 + 0 ≤ _), (by decide : 3 + 0 ≤ _)⟩)
      dsimp only [Pt.U, Pt.locs, Pt.cells, Pt.slots] at X68 l68 y68 z68 st68 hQ68
      subst l68 y68 z68
      obtain ⟨rfl, Nq68, e68⟩ := hQ68
      have N68 := Fr.app N65 Nq68
      obtain ⟨cq69, kq69, q69a, q69b, q69c⟩ := isOf hZ e68 (Ex_FAILS.ext o57.2)
      obtain ⟨_, _, ⟨T69, L69, k69, n69⟩, -, X69, ⟨Lc69, hQ69, l69, y69, z69⟩, st69⟩ := X68.virtualBack hx (y := (⟨"com/example/frugal_nets/frugalnets/check/Verdict", "negated", "()Lcom/example/frugal_nets/frugalnets/check/Verdict;"⟩ : MethodName)) (z := (⟨"com/example/frugal_nets/frugalnets/check/Verdict", "negated", "()Lcom/example/frugal_nets/frugalnets/check/Verdict;"⟩ : MethodName)) hown (mvT hZ (hw _ (List.mem_of_getElem? (i := 11) rfl))) (mvT hZ (hw _ (List.mem_of_getElem? (i := 12) rfl))) (notFace_of_selects (args := #[]) (mvT hZ (hw _ (List.mem_of_getElem? (i := 14) rfl)))) (mvT hZ (hw _ (List.mem_of_getElem? (i := 14) rfl))) (mvT hZ (hw _ (List.mem_of_getElem? (i := 13) rfl))) (by decide) (backOf (W := 0) (rmNeg l Z a0 hw [] wF wH wH wF wU h13 n0 o57 G0 (by simp [hHF, hHU, hFU, Ne.symm hHF, Ne.symm hHU, Ne.symm hFU])) hZ (hw _ (List.mem_of_getElem? (i := 15) rfl)) (hw _ (List.mem_of_getElem? (i := 3) rfl)) (by decide) (by decide)) q69a q69c (g := (mkF m 149 #[.val (.int p1), .val (.int p2), .val (.ref b1), .val (.ref wU), .val (.ref wU), .val (.int (1 : Int32)), .val (.int (1 : Int32)), .val (.int (1 : Int32)), .val (.int (0 : Int32)), .unset] [(.ref wF)])) rfl (by rw [hml]; rfl) (Steps.refl _) (argsL := []) (rest := []) (lenOf own_pd0 rfl) rfl (by show 2 * 0 + _ ≤ _; exact Nat.le_of_eq rfl) (hb hby at_149) (fun _ _ => ⟨rfl, e68, (by decide : 1 + 0 ≤ _), (by decide : 3 + 0 ≤ _)⟩)
      dsimp only [Pt.U, Pt.locs, Pt.cells, Pt.slots] at X69 l69 y69 z69 st69 hQ69
      subst l69 y69 z69
      obtain ⟨rfl, Nq69, e69⟩ := hQ69
      have N69 := Fr.app N68 Nq69
      obtain ⟨_, _, ⟨T70, L70, k70, n70⟩, -, X70, ⟨Lc70, hQ70, l70, y70, z70⟩, st70⟩ := Jvm.LawKit.callS X69 hx (y := (⟨"com/example/frugal_nets/frugalnets/check/Verdict", "of", "(Z)Lcom/example/frugal_nets/frugalnets/check/Verdict;"⟩ : MethodName)) hown (mvT hZ (hw _ (List.mem_of_getElem? (i := 18) rfl))) (mvT hZ (hw _ (List.mem_of_getElem? (i := 19) rfl))) (mvT hZ (hw _ (List.mem_of_getElem? (i := 3) rfl))) (mvT hZ (hw _ (List.mem_of_getElem? (i := 20) rfl))) (by decide) (backOf (W := 1) (rmOf l Z a0 hw [] (1 : Int32) wH wH wF wU h13 n0 o57 G0 (by simp)) hZ (hw _ (List.mem_of_getElem? (i := 20) rfl)) (hw _ (List.mem_of_getElem? (i := 3) rfl)) (by decide) (by decide)) (g := (mkF m 162 #[.val (.int p1), .val (.int p2), .val (.ref b1), .val (.ref wU), .val (.ref wU), .val (.int (1 : Int32)), .val (.int (1 : Int32)), .val (.int (1 : Int32)), .val (.int (0 : Int32)), .unset] [(.int (1 : Int32)), (.ref wH)])) rfl (by rw [hml]; rfl) (argsL := [(.int (1 : Int32))]) (rest := [(.ref wH)]) (lenOf own_pd1 rfl) rfl (by show 2 * 0 + _ ≤ _; exact Nat.le_of_eq rfl) (hb hby at_162) (fun _ _ => ⟨rfl, e69, (by decide : 1 + 0 ≤ _), (by decide : 3 + 0 ≤ _)⟩)
      dsimp only [Pt.U, Pt.locs, Pt.cells, Pt.slots] at X70 l70 y70 z70 st70 hQ70
      subst l70 y70 z70
      obtain ⟨rfl, Nq70, e70⟩ := hQ70
      have N70 := Fr.app N69 Nq70
      have g71 : ∀ t, Steps p.tables e below (T70.setTop (mkF m 200 #[.val (.int p1), .val (.int p2), .val (.ref b1), .val (.ref wU), .val (.ref wU), .val (.int (1 : Int32)), .val (.int (1 : Int32)), .val (.int (1 : Int32)), .val (.int (0 : Int32)), .val (.int (1 : Int32))] [(.int (1 : Int32))])) t → Steps p.tables e below (s₁.setTop (entryFrame m #[(.int p1), (.int p2)] maxLocals)) t := by
        intro t k
        refine g67 t ?_
        show Steps p.tables e below (T65.setTop (mkF m 134 #[.val (.int p1), .val (.int p2), .val (.ref b1), .val (.ref wU), .val (.ref wU), .val (.int (1 : Int32)), .val (.int (1 : Int32)), .val (.int (1 : Int32)), .unset, .unset] [(.int (p2 &&& (1 : Int32)))])) _
        refine XS.ifYes X65.here hx rfl (pc0 := 134) (pc' := 141) rfl (hb hby at_134) rfl ((if0 _ _).trans (teq hc66).1) (by decide) (by decide) ?_
        show Steps p.tables e below (T65.setTop (mkF m 141 #[.val (.int p1), .val (.int p2), .val (.ref b1), .val (.ref wU), .val (.ref wU), .val (.int (1 : Int32)), .val (.int (1 : Int32)), .val (.int (1 : Int32)), .unset, .unset] [])) _
        refine XS.iconst X65.here hx rfl (hb hby at_141) ?_
        show Steps p.tables e below (T65.setTop (mkF m 142 #[.val (.int p1), .val (.int p2), .val (.ref b1), .val (.ref wU), .val (.ref wU), .val (.int (1 : Int32)), .val (.int (1 : Int32)), .val (.int (1 : Int32)), .unset, .unset] [(.int (0 : Int32))])) _
        refine XS.istore X65.here hx rfl (hb hby at_142) rfl (l' := #[.val (.int p1), .val (.int p2), .val (.ref b1), .val (.ref wU), .val (.ref wU), .val (.int (1 : Int32)), .val (.int (1 : Int32)), .val (.int (1 : Int32)), .val (.int (0 : Int32)), .unset]) rfl ?_
        show Steps p.tables e below (T65.setTop (mkF m 144 #[.val (.int p1), .val (.int p2), .val (.ref b1), .val (.ref wU), .val (.ref wU), .val (.int (1 : Int32)), .val (.int (1 : Int32)), .val (.int (1 : Int32)), .val (.int (0 : Int32)), .unset] [])) _
        refine XS.iload X65.here hx rfl (hb hby at_144) rfl ?_
        show Steps p.tables e below (T65.setTop (mkF m 146 #[.val (.int p1), .val (.int p2), .val (.ref b1), .val (.ref wU), .val (.ref wU), .val (.int (1 : Int32)), .val (.int (1 : Int32)), .val (.int (1 : Int32)), .val (.int (0 : Int32)), .unset] [(.int (0 : Int32))])) _
        refine st68 _ ?_
        show Steps p.tables e below (T68.setTop (mkF m 149 #[.val (.int p1), .val (.int p2), .val (.ref b1), .val (.ref wU), .val (.ref wU), .val (.int (1 : Int32)), .val (.int (1 : Int32)), .val (.int (1 : Int32)), .val (.int (0 : Int32)), .unset] [(.ref wF)])) _
        refine st69.trans ?_
        show Steps p.tables e below (T69.setTop (mkF m 152 #[.val (.int p1), .val (.int p2), .val (.ref b1), .val (.ref wU), .val (.ref wU), .val (.int (1 : Int32)), .val (.int (1 : Int32)), .val (.int (1 : Int32)), .val (.int (0 : Int32)), .unset] [(.ref wH)])) _
        refine XS.iload X69.here hx rfl (hb hby at_152) rfl ?_
        show Steps p.tables e below (T69.setTop (mkF m 154 #[.val (.int p1), .val (.int p2), .val (.ref b1), .val (.ref wU), .val (.ref wU), .val (.int (1 : Int32)), .val (.int (1 : Int32)), .val (.int (1 : Int32)), .val (.int (0 : Int32)), .unset] [(.int (0 : Int32)), (.ref wH)])) _
        refine XS.ifNo X69.here hx rfl (hb hby at_154) rfl ((if0 _ _).trans (teq (by decide : (0 : Int32) = (0 : Int32))).2) ?_
        show Steps p.tables e below (T69.setTop (mkF m 157 #[.val (.int p1), .val (.int p2), .val (.ref b1), .val (.ref wU), .val (.ref wU), .val (.int (1 : Int32)), .val (.int (1 : Int32)), .val (.int (1 : Int32)), .val (.int (0 : Int32)), .unset] [(.ref wH)])) _
        refine XS.iconst X69.here hx rfl (hb hby at_157) ?_
        show Steps p.tables e below (T69.setTop (mkF m 158 #[.val (.int p1), .val (.int p2), .val (.ref b1), .val (.ref wU), .val (.ref wU), .val (.int (1 : Int32)), .val (.int (1 : Int32)), .val (.int (1 : Int32)), .val (.int (0 : Int32)), .unset] [(.int (1 : Int32)), (.ref wH)])) _
        refine XS.goto X69.here hx rfl (pc0 := 158) (pc' := 162) rfl (hb hby at_158) (by decide) (by decide) ?_
        show Steps p.tables e below (T69.setTop (mkF m 162 #[.val (.int p1), .val (.int p2), .val (.ref b1), .val (.ref wU), .val (.ref wU), .val (.int (1 : Int32)), .val (.int (1 : Int32)), .val (.int (1 : Int32)), .val (.int (0 : Int32)), .unset] [(.int (1 : Int32)), (.ref wH)])) _
        refine st70 _ ?_
        show Steps p.tables e below (T70.setTop (mkF m 165 #[.val (.int p1), .val (.int p2), .val (.ref b1), .val (.ref wU), .val (.ref wU), .val (.int (1 : Int32)), .val (.int (1 : Int32)), .val (.int (1 : Int32)), .val (.int (0 : Int32)), .unset] [(.ref wH), (.ref wH)])) _
        refine Jvm.RoadKit.acmp (g := (mkF m 165 #[.val (.int p1), .val (.int p2), .val (.ref b1), .val (.ref wU), .val (.ref wU), .val (.int (1 : Int32)), .val (.int (1 : Int32)), .val (.int (1 : Int32)), .val (.int (0 : Int32)), .unset] [(.ref wH), (.ref wH)])) X70 hx rfl rfl rfl (pc0 := 165) (pc' := 168) (same := true) rfl (hb hby at_165) rfl (decide_eq_true rfl) (by decide) (by decide) ?_
        show Steps p.tables e below (T70.setTop (mkF m 168 #[.val (.int p1), .val (.int p2), .val (.ref b1), .val (.ref wU), .val (.ref wU), .val (.int (1 : Int32)), .val (.int (1 : Int32)), .val (.int (1 : Int32)), .val (.int (0 : Int32)), .unset] [])) _
        refine XS.iconst X70.here hx rfl (hb hby at_168) ?_
        show Steps p.tables e below (T70.setTop (mkF m 169 #[.val (.int p1), .val (.int p2), .val (.ref b1), .val (.ref wU), .val (.ref wU), .val (.int (1 : Int32)), .val (.int (1 : Int32)), .val (.int (1 : Int32)), .val (.int (0 : Int32)), .unset] [(.int (1 : Int32))])) _
        refine XS.goto X70.here hx rfl (pc0 := 169) (pc' := 173) rfl (hb hby at_169) (by decide) (by decide) ?_
        show Steps p.tables e below (T70.setTop (mkF m 173 #[.val (.int p1), .val (.int p2), .val (.ref b1), .val (.ref wU), .val (.ref wU), .val (.int (1 : Int32)), .val (.int (1 : Int32)), .val (.int (1 : Int32)), .val (.int (0 : Int32)), .unset] [(.int (1 : Int32))])) _
        refine XS.istore X70.here hx rfl (hb hby at_173) rfl (l' := #[.val (.int p1), .val (.int p2), .val (.ref b1), .val (.ref wU), .val (.ref wU), .val (.int (1 : Int32)), .val (.int (1 : Int32)), .val (.int (1 : Int32)), .val (.int (0 : Int32)), .val (.int (1 : Int32))]) rfl ?_
        show Steps p.tables e below (T70.setTop (mkF m 175 #[.val (.int p1), .val (.int p2), .val (.ref b1), .val (.ref wU), .val (.ref wU), .val (.int (1 : Int32)), .val (.int (1 : Int32)), .val (.int (1 : Int32)), .val (.int (0 : Int32)), .val (.int (1 : Int32))] [])) _
        refine XS.iload X70.here hx rfl (hb hby at_175) rfl ?_
        show Steps p.tables e below (T70.setTop (mkF m 177 #[.val (.int p1), .val (.int p2), .val (.ref b1), .val (.ref wU), .val (.ref wU), .val (.int (1 : Int32)), .val (.int (1 : Int32)), .val (.int (1 : Int32)), .val (.int (0 : Int32)), .val (.int (1 : Int32))] [(.int (1 : Int32))])) _
        refine XS.ifNo X70.here hx rfl (hb hby at_177) rfl ((if0 _ _).trans (feq (by decide : ¬ ((1 : Int32) = (0 : Int32)))).1) ?_
        show Steps p.tables e below (T70.setTop (mkF m 180 #[.val (.int p1), .val (.int p2), .val (.ref b1), .val (.ref wU), .val (.ref wU), .val (.int (1 : Int32)), .val (.int (1 : Int32)), .val (.int (1 : Int32)), .val (.int (0 : Int32)), .val (.int (1 : Int32))] [])) _
        refine XS.iload X70.here hx rfl (hb hby at_180) rfl ?_
        show Steps p.tables e below (T70.setTop (mkF m 182 #[.val (.int p1), .val (.int p2), .val (.ref b1), .val (.ref wU), .val (.ref wU), .val (.int (1 : Int32)), .val (.int (1 : Int32)), .val (.int (1 : Int32)), .val (.int (0 : Int32)), .val (.int (1 : Int32))] [(.int (1 : Int32))])) _
        refine XS.ifNo X70.here hx rfl (hb hby at_182) rfl ((if0 _ _).trans (feq (by decide : ¬ ((1 : Int32) = (0 : Int32)))).1) ?_
        show Steps p.tables e below (T70.setTop (mkF m 185 #[.val (.int p1), .val (.int p2), .val (.ref b1), .val (.ref wU), .val (.ref wU), .val (.int (1 : Int32)), .val (.int (1 : Int32)), .val (.int (1 : Int32)), .val (.int (0 : Int32)), .val (.int (1 : Int32))] [])) _
        refine XS.iload X70.here hx rfl (hb hby at_185) rfl ?_
        show Steps p.tables e below (T70.setTop (mkF m 187 #[.val (.int p1), .val (.int p2), .val (.ref b1), .val (.ref wU), .val (.ref wU), .val (.int (1 : Int32)), .val (.int (1 : Int32)), .val (.int (1 : Int32)), .val (.int (0 : Int32)), .val (.int (1 : Int32))] [(.int (1 : Int32))])) _
        refine XS.ifNo X70.here hx rfl (hb hby at_187) rfl ((if0 _ _).trans (feq (by decide : ¬ ((1 : Int32) = (0 : Int32)))).1) ?_
        show Steps p.tables e below (T70.setTop (mkF m 190 #[.val (.int p1), .val (.int p2), .val (.ref b1), .val (.ref wU), .val (.ref wU), .val (.int (1 : Int32)), .val (.int (1 : Int32)), .val (.int (1 : Int32)), .val (.int (0 : Int32)), .val (.int (1 : Int32))] [])) _
        refine XS.iload X70.here hx rfl (hb hby at_190) rfl ?_
        show Steps p.tables e below (T70.setTop (mkF m 192 #[.val (.int p1), .val (.int p2), .val (.ref b1), .val (.ref wU), .val (.ref wU), .val (.int (1 : Int32)), .val (.int (1 : Int32)), .val (.int (1 : Int32)), .val (.int (0 : Int32)), .val (.int (1 : Int32))] [(.int (1 : Int32))])) _
        refine XS.ifNo X70.here hx rfl (hb hby at_192) rfl ((if0 _ _).trans (feq (by decide : ¬ ((1 : Int32) = (0 : Int32)))).1) ?_
        show Steps p.tables e below (T70.setTop (mkF m 195 #[.val (.int p1), .val (.int p2), .val (.ref b1), .val (.ref wU), .val (.ref wU), .val (.int (1 : Int32)), .val (.int (1 : Int32)), .val (.int (1 : Int32)), .val (.int (0 : Int32)), .val (.int (1 : Int32))] [])) _
        refine XS.iconst X70.here hx rfl (hb hby at_195) ?_
        show Steps p.tables e below (T70.setTop (mkF m 196 #[.val (.int p1), .val (.int p2), .val (.ref b1), .val (.ref wU), .val (.ref wU), .val (.int (1 : Int32)), .val (.int (1 : Int32)), .val (.int (1 : Int32)), .val (.int (0 : Int32)), .val (.int (1 : Int32))] [(.int (1 : Int32))])) _
        refine XS.goto X70.here hx rfl (pc0 := 196) (pc' := 200) rfl (hb hby at_196) (by decide) (by decide) ?_
        exact k
      obtain ⟨fs, hrt, hrun, hended, hW, hsame⟩ := X70.leave (v := some (.int (1 : Int32))) (fun h => by rw [Bd.returns] at h; cases h)
      refine ⟨_, _, g71 _ ?_, hrun, hended, _, _, rfl, ?_, ⟨_, rfl⟩, hW, hsame.mono (by decide) (by decide)⟩
      · show Steps p.tables e below (T70.setTop (mkF m 200 #[.val (.int p1), .val (.int p2), .val (.ref b1), .val (.ref wU), .val (.ref wU), .val (.int (1 : Int32)), .val (.int (1 : Int32)), .val (.int (1 : Int32)), .val (.int (0 : Int32)), .val (.int (1 : Int32))] [(.int (1 : Int32))])) _
        exact retN X70 hx (t := .boolean) Bd.returns (by simp) (hb hby at_200) hrt
      · show own_Q_rm0 Z p1 p2 wH wF wU h0 n0 _ T70.heap _
        rw [e70]
        exact ⟨rfl, N70⟩
    · obtain ⟨_, _, ⟨T72, L72, k72, n72⟩, -, X72, ⟨Lc72, hQ72, l72, y72, z72⟩, st72⟩ := Jvm.LawKit.callS X65 hx (y := (⟨"com/example/frugal_nets/frugalnets/check/Verdict", "of", "(Z)Lcom/example/frugal_nets/frugalnets/check/Verdict;"⟩ : MethodName)) hown (mvT hZ (hw _ (List.mem_of_getElem? (i := 18) rfl))) (mvT hZ (hw _ (List.mem_of_getElem? (i := 19) rfl))) (mvT hZ (hw _ (List.mem_of_getElem? (i := 3) rfl))) (mvT hZ (hw _ (List.mem_of_getElem? (i := 20) rfl))) (by decide) (backOf (W := 0) (rmOf l Z a0 hw [] (1 : Int32) wH wH wF wU h13 n0 o57 G0 (by simp)) hZ (hw _ (List.mem_of_getElem? (i := 20) rfl)) (hw _ (List.mem_of_getElem? (i := 3) rfl)) (by decide) (by decide)) (g := (mkF m 146 #[.val (.int p1), .val (.int p2), .val (.ref b1), .val (.ref wU), .val (.ref wU), .val (.int (1 : Int32)), .val (.int (1 : Int32)), .val (.int (1 : Int32)), .val (.int (1 : Int32)), .unset] [(.int (1 : Int32))])) rfl (by rw [hml]; rfl) (argsL := [(.int (1 : Int32))]) (rest := []) (lenOf own_pd1 rfl) rfl (by show 2 * 0 + _ ≤ _; exact Nat.le_of_eq rfl) (hb hby at_146) (fun _ _ => ⟨rfl, e65, (by decide : 1 + 0 ≤ _), (by decide : 3 + 0 ≤ _)⟩)
      dsimp only [Pt.U, Pt.locs, Pt.cells, Pt.slots] at X72 l72 y72 z72 st72 hQ72
      subst l72 y72 z72
      obtain ⟨rfl, Nq72, e72⟩ := hQ72
      have N72 := Fr.app N65 Nq72
      obtain ⟨cq73, kq73, q73a, q73b, q73c⟩ := isOf hZ e72 (Ex_HOLDS.ext o57.2)
      obtain ⟨_, _, ⟨T73, L73, k73, n73⟩, -, X73, ⟨Lc73, hQ73, l73, y73, z73⟩, st73⟩ := X72.virtualBack hx (y := (⟨"com/example/frugal_nets/frugalnets/check/Verdict", "negated", "()Lcom/example/frugal_nets/frugalnets/check/Verdict;"⟩ : MethodName)) (z := (⟨"com/example/frugal_nets/frugalnets/check/Verdict", "negated", "()Lcom/example/frugal_nets/frugalnets/check/Verdict;"⟩ : MethodName)) hown (mvT hZ (hw _ (List.mem_of_getElem? (i := 11) rfl))) (mvT hZ (hw _ (List.mem_of_getElem? (i := 12) rfl))) (notFace_of_selects (args := #[]) (mvT hZ (hw _ (List.mem_of_getElem? (i := 14) rfl)))) (mvT hZ (hw _ (List.mem_of_getElem? (i := 14) rfl))) (mvT hZ (hw _ (List.mem_of_getElem? (i := 13) rfl))) (by decide) (backOf (W := 0) (rmNeg l Z a0 hw [] wH wF wH wF wU h13 n0 o57 G0 (by simp [hHF, hHU, hFU, Ne.symm hHF, Ne.symm hHU, Ne.symm hFU])) hZ (hw _ (List.mem_of_getElem? (i := 15) rfl)) (hw _ (List.mem_of_getElem? (i := 3) rfl)) (by decide) (by decide)) q73a q73c (g := (mkF m 149 #[.val (.int p1), .val (.int p2), .val (.ref b1), .val (.ref wU), .val (.ref wU), .val (.int (1 : Int32)), .val (.int (1 : Int32)), .val (.int (1 : Int32)), .val (.int (1 : Int32)), .unset] [(.ref wH)])) rfl (by rw [hml]; rfl) (Steps.refl _) (argsL := []) (rest := []) (lenOf own_pd0 rfl) rfl (by show 2 * 0 + _ ≤ _; exact Nat.le_of_eq rfl) (hb hby at_149) (fun _ _ => ⟨rfl, e72, (by decide : 1 + 0 ≤ _), (by decide : 3 + 0 ≤ _)⟩)
      dsimp only [Pt.U, Pt.locs, Pt.cells, Pt.slots] at X73 l73 y73 z73 st73 hQ73
      subst l73 y73 z73
      obtain ⟨rfl, Nq73, e73⟩ := hQ73
      have N73 := Fr.app N72 Nq73
      obtain ⟨_, _, ⟨T74, L74, k74, n74⟩, -, X74, ⟨Lc74, hQ74, l74, y74, z74⟩, st74⟩ := Jvm.LawKit.callS X73 hx (y := (⟨"com/example/frugal_nets/frugalnets/check/Verdict", "of", "(Z)Lcom/example/frugal_nets/frugalnets/check/Verdict;"⟩ : MethodName)) hown (mvT hZ (hw _ (List.mem_of_getElem? (i := 18) rfl))) (mvT hZ (hw _ (List.mem_of_getElem? (i := 19) rfl))) (mvT hZ (hw _ (List.mem_of_getElem? (i := 3) rfl))) (mvT hZ (hw _ (List.mem_of_getElem? (i := 20) rfl))) (by decide) (backOf (W := 1) (rmOf l Z a0 hw [] (0 : Int32) wF wH wF wU h13 n0 o57 G0 (by simp)) hZ (hw _ (List.mem_of_getElem? (i := 20) rfl)) (hw _ (List.mem_of_getElem? (i := 3) rfl)) (by decide) (by decide)) (g := (mkF m 162 #[.val (.int p1), .val (.int p2), .val (.ref b1), .val (.ref wU), .val (.ref wU), .val (.int (1 : Int32)), .val (.int (1 : Int32)), .val (.int (1 : Int32)), .val (.int (1 : Int32)), .unset] [(.int (0 : Int32)), (.ref wF)])) rfl (by rw [hml]; rfl) (argsL := [(.int (0 : Int32))]) (rest := [(.ref wF)]) (lenOf own_pd1 rfl) rfl (by show 2 * 0 + _ ≤ _; exact Nat.le_of_eq rfl) (hb hby at_162) (fun _ _ => ⟨rfl, e73, (by decide : 1 + 0 ≤ _), (by decide : 3 + 0 ≤ _)⟩)
      dsimp only [Pt.U, Pt.locs, Pt.cells, Pt.slots] at X74 l74 y74 z74 st74 hQ74
      subst l74 y74 z74
      obtain ⟨rfl, Nq74, e74⟩ := hQ74
      have N74 := Fr.app N73 Nq74
      have g75 : ∀ t, Steps p.tables e below (T74.setTop (mkF m 200 #[.val (.int p1), .val (.int p2), .val (.ref b1), .val (.ref wU), .val (.ref wU), .val (.int (1 : Int32)), .val (.int (1 : Int32)), .val (.int (1 : Int32)), .val (.int (1 : Int32)), .val (.int (1 : Int32))] [(.int (1 : Int32))])) t → Steps p.tables e below (s₁.setTop (entryFrame m #[(.int p1), (.int p2)] maxLocals)) t := by
        intro t k
        refine g67 t ?_
        show Steps p.tables e below (T65.setTop (mkF m 134 #[.val (.int p1), .val (.int p2), .val (.ref b1), .val (.ref wU), .val (.ref wU), .val (.int (1 : Int32)), .val (.int (1 : Int32)), .val (.int (1 : Int32)), .unset, .unset] [(.int (p2 &&& (1 : Int32)))])) _
        refine XS.ifNo X65.here hx rfl (hb hby at_134) rfl ((if0 _ _).trans (feq hc66).1) ?_
        show Steps p.tables e below (T65.setTop (mkF m 137 #[.val (.int p1), .val (.int p2), .val (.ref b1), .val (.ref wU), .val (.ref wU), .val (.int (1 : Int32)), .val (.int (1 : Int32)), .val (.int (1 : Int32)), .unset, .unset] [])) _
        refine XS.iconst X65.here hx rfl (hb hby at_137) ?_
        show Steps p.tables e below (T65.setTop (mkF m 138 #[.val (.int p1), .val (.int p2), .val (.ref b1), .val (.ref wU), .val (.ref wU), .val (.int (1 : Int32)), .val (.int (1 : Int32)), .val (.int (1 : Int32)), .unset, .unset] [(.int (1 : Int32))])) _
        refine XS.goto X65.here hx rfl (pc0 := 138) (pc' := 142) rfl (hb hby at_138) (by decide) (by decide) ?_
        show Steps p.tables e below (T65.setTop (mkF m 142 #[.val (.int p1), .val (.int p2), .val (.ref b1), .val (.ref wU), .val (.ref wU), .val (.int (1 : Int32)), .val (.int (1 : Int32)), .val (.int (1 : Int32)), .unset, .unset] [(.int (1 : Int32))])) _
        refine XS.istore X65.here hx rfl (hb hby at_142) rfl (l' := #[.val (.int p1), .val (.int p2), .val (.ref b1), .val (.ref wU), .val (.ref wU), .val (.int (1 : Int32)), .val (.int (1 : Int32)), .val (.int (1 : Int32)), .val (.int (1 : Int32)), .unset]) rfl ?_
        show Steps p.tables e below (T65.setTop (mkF m 144 #[.val (.int p1), .val (.int p2), .val (.ref b1), .val (.ref wU), .val (.ref wU), .val (.int (1 : Int32)), .val (.int (1 : Int32)), .val (.int (1 : Int32)), .val (.int (1 : Int32)), .unset] [])) _
        refine XS.iload X65.here hx rfl (hb hby at_144) rfl ?_
        show Steps p.tables e below (T65.setTop (mkF m 146 #[.val (.int p1), .val (.int p2), .val (.ref b1), .val (.ref wU), .val (.ref wU), .val (.int (1 : Int32)), .val (.int (1 : Int32)), .val (.int (1 : Int32)), .val (.int (1 : Int32)), .unset] [(.int (1 : Int32))])) _
        refine st72 _ ?_
        show Steps p.tables e below (T72.setTop (mkF m 149 #[.val (.int p1), .val (.int p2), .val (.ref b1), .val (.ref wU), .val (.ref wU), .val (.int (1 : Int32)), .val (.int (1 : Int32)), .val (.int (1 : Int32)), .val (.int (1 : Int32)), .unset] [(.ref wH)])) _
        refine st73.trans ?_
        show Steps p.tables e below (T73.setTop (mkF m 152 #[.val (.int p1), .val (.int p2), .val (.ref b1), .val (.ref wU), .val (.ref wU), .val (.int (1 : Int32)), .val (.int (1 : Int32)), .val (.int (1 : Int32)), .val (.int (1 : Int32)), .unset] [(.ref wF)])) _
        refine XS.iload X73.here hx rfl (hb hby at_152) rfl ?_
        show Steps p.tables e below (T73.setTop (mkF m 154 #[.val (.int p1), .val (.int p2), .val (.ref b1), .val (.ref wU), .val (.ref wU), .val (.int (1 : Int32)), .val (.int (1 : Int32)), .val (.int (1 : Int32)), .val (.int (1 : Int32)), .unset] [(.int (1 : Int32)), (.ref wF)])) _
        refine XS.ifYes X73.here hx rfl (pc0 := 154) (pc' := 161) rfl (hb hby at_154) rfl ((if0 _ _).trans (feq (by decide : ¬ ((1 : Int32) = (0 : Int32)))).2) (by decide) (by decide) ?_
        show Steps p.tables e below (T73.setTop (mkF m 161 #[.val (.int p1), .val (.int p2), .val (.ref b1), .val (.ref wU), .val (.ref wU), .val (.int (1 : Int32)), .val (.int (1 : Int32)), .val (.int (1 : Int32)), .val (.int (1 : Int32)), .unset] [(.ref wF)])) _
        refine XS.iconst X73.here hx rfl (hb hby at_161) ?_
        show Steps p.tables e below (T73.setTop (mkF m 162 #[.val (.int p1), .val (.int p2), .val (.ref b1), .val (.ref wU), .val (.ref wU), .val (.int (1 : Int32)), .val (.int (1 : Int32)), .val (.int (1 : Int32)), .val (.int (1 : Int32)), .unset] [(.int (0 : Int32)), (.ref wF)])) _
        refine st74 _ ?_
        show Steps p.tables e below (T74.setTop (mkF m 165 #[.val (.int p1), .val (.int p2), .val (.ref b1), .val (.ref wU), .val (.ref wU), .val (.int (1 : Int32)), .val (.int (1 : Int32)), .val (.int (1 : Int32)), .val (.int (1 : Int32)), .unset] [(.ref wF), (.ref wF)])) _
        refine Jvm.RoadKit.acmp (g := (mkF m 165 #[.val (.int p1), .val (.int p2), .val (.ref b1), .val (.ref wU), .val (.ref wU), .val (.int (1 : Int32)), .val (.int (1 : Int32)), .val (.int (1 : Int32)), .val (.int (1 : Int32)), .unset] [(.ref wF), (.ref wF)])) X74 hx rfl rfl rfl (pc0 := 165) (pc' := 168) (same := true) rfl (hb hby at_165) rfl (decide_eq_true rfl) (by decide) (by decide) ?_
        show Steps p.tables e below (T74.setTop (mkF m 168 #[.val (.int p1), .val (.int p2), .val (.ref b1), .val (.ref wU), .val (.ref wU), .val (.int (1 : Int32)), .val (.int (1 : Int32)), .val (.int (1 : Int32)), .val (.int (1 : Int32)), .unset] [])) _
        refine XS.iconst X74.here hx rfl (hb hby at_168) ?_
        show Steps p.tables e below (T74.setTop (mkF m 169 #[.val (.int p1), .val (.int p2), .val (.ref b1), .val (.ref wU), .val (.ref wU), .val (.int (1 : Int32)), .val (.int (1 : Int32)), .val (.int (1 : Int32)), .val (.int (1 : Int32)), .unset] [(.int (1 : Int32))])) _
        refine XS.goto X74.here hx rfl (pc0 := 169) (pc' := 173) rfl (hb hby at_169) (by decide) (by decide) ?_
        show Steps p.tables e below (T74.setTop (mkF m 173 #[.val (.int p1), .val (.int p2), .val (.ref b1), .val (.ref wU), .val (.ref wU), .val (.int (1 : Int32)), .val (.int (1 : Int32)), .val (.int (1 : Int32)), .val (.int (1 : Int32)), .unset] [(.int (1 : Int32))])) _
        refine XS.istore X74.here hx rfl (hb hby at_173) rfl (l' := #[.val (.int p1), .val (.int p2), .val (.ref b1), .val (.ref wU), .val (.ref wU), .val (.int (1 : Int32)), .val (.int (1 : Int32)), .val (.int (1 : Int32)), .val (.int (1 : Int32)), .val (.int (1 : Int32))]) rfl ?_
        show Steps p.tables e below (T74.setTop (mkF m 175 #[.val (.int p1), .val (.int p2), .val (.ref b1), .val (.ref wU), .val (.ref wU), .val (.int (1 : Int32)), .val (.int (1 : Int32)), .val (.int (1 : Int32)), .val (.int (1 : Int32)), .val (.int (1 : Int32))] [])) _
        refine XS.iload X74.here hx rfl (hb hby at_175) rfl ?_
        show Steps p.tables e below (T74.setTop (mkF m 177 #[.val (.int p1), .val (.int p2), .val (.ref b1), .val (.ref wU), .val (.ref wU), .val (.int (1 : Int32)), .val (.int (1 : Int32)), .val (.int (1 : Int32)), .val (.int (1 : Int32)), .val (.int (1 : Int32))] [(.int (1 : Int32))])) _
        refine XS.ifNo X74.here hx rfl (hb hby at_177) rfl ((if0 _ _).trans (feq (by decide : ¬ ((1 : Int32) = (0 : Int32)))).1) ?_
        show Steps p.tables e below (T74.setTop (mkF m 180 #[.val (.int p1), .val (.int p2), .val (.ref b1), .val (.ref wU), .val (.ref wU), .val (.int (1 : Int32)), .val (.int (1 : Int32)), .val (.int (1 : Int32)), .val (.int (1 : Int32)), .val (.int (1 : Int32))] [])) _
        refine XS.iload X74.here hx rfl (hb hby at_180) rfl ?_
        show Steps p.tables e below (T74.setTop (mkF m 182 #[.val (.int p1), .val (.int p2), .val (.ref b1), .val (.ref wU), .val (.ref wU), .val (.int (1 : Int32)), .val (.int (1 : Int32)), .val (.int (1 : Int32)), .val (.int (1 : Int32)), .val (.int (1 : Int32))] [(.int (1 : Int32))])) _
        refine XS.ifNo X74.here hx rfl (hb hby at_182) rfl ((if0 _ _).trans (feq (by decide : ¬ ((1 : Int32) = (0 : Int32)))).1) ?_
        show Steps p.tables e below (T74.setTop (mkF m 185 #[.val (.int p1), .val (.int p2), .val (.ref b1), .val (.ref wU), .val (.ref wU), .val (.int (1 : Int32)), .val (.int (1 : Int32)), .val (.int (1 : Int32)), .val (.int (1 : Int32)), .val (.int (1 : Int32))] [])) _
        refine XS.iload X74.here hx rfl (hb hby at_185) rfl ?_
        show Steps p.tables e below (T74.setTop (mkF m 187 #[.val (.int p1), .val (.int p2), .val (.ref b1), .val (.ref wU), .val (.ref wU), .val (.int (1 : Int32)), .val (.int (1 : Int32)), .val (.int (1 : Int32)), .val (.int (1 : Int32)), .val (.int (1 : Int32))] [(.int (1 : Int32))])) _
        refine XS.ifNo X74.here hx rfl (hb hby at_187) rfl ((if0 _ _).trans (feq (by decide : ¬ ((1 : Int32) = (0 : Int32)))).1) ?_
        show Steps p.tables e below (T74.setTop (mkF m 190 #[.val (.int p1), .val (.int p2), .val (.ref b1), .val (.ref wU), .val (.ref wU), .val (.int (1 : Int32)), .val (.int (1 : Int32)), .val (.int (1 : Int32)), .val (.int (1 : Int32)), .val (.int (1 : Int32))] [])) _
        refine XS.iload X74.here hx rfl (hb hby at_190) rfl ?_
        show Steps p.tables e below (T74.setTop (mkF m 192 #[.val (.int p1), .val (.int p2), .val (.ref b1), .val (.ref wU), .val (.ref wU), .val (.int (1 : Int32)), .val (.int (1 : Int32)), .val (.int (1 : Int32)), .val (.int (1 : Int32)), .val (.int (1 : Int32))] [(.int (1 : Int32))])) _
        refine XS.ifNo X74.here hx rfl (hb hby at_192) rfl ((if0 _ _).trans (feq (by decide : ¬ ((1 : Int32) = (0 : Int32)))).1) ?_
        show Steps p.tables e below (T74.setTop (mkF m 195 #[.val (.int p1), .val (.int p2), .val (.ref b1), .val (.ref wU), .val (.ref wU), .val (.int (1 : Int32)), .val (.int (1 : Int32)), .val (.int (1 : Int32)), .val (.int (1 : Int32)), .val (.int (1 : Int32))] [])) _
        refine XS.iconst X74.here hx rfl (hb hby at_195) ?_
        show Steps p.tables e below (T74.setTop (mkF m 196 #[.val (.int p1), .val (.int p2), .val (.ref b1), .val (.ref wU), .val (.ref wU), .val (.int (1 : Int32)), .val (.int (1 : Int32)), .val (.int (1 : Int32)), .val (.int (1 : Int32)), .val (.int (1 : Int32))] [(.int (1 : Int32))])) _
        refine XS.goto X74.here hx rfl (pc0 := 196) (pc' := 200) rfl (hb hby at_196) (by decide) (by decide) ?_
        exact k
      obtain ⟨fs, hrt, hrun, hended, hW, hsame⟩ := X74.leave (v := some (.int (1 : Int32))) (fun h => by rw [Bd.returns] at h; cases h)
      refine ⟨_, _, g75 _ ?_, hrun, hended, _, _, rfl, ?_, ⟨_, rfl⟩, hW, hsame.mono (by decide) (by decide)⟩
      · show Steps p.tables e below (T74.setTop (mkF m 200 #[.val (.int p1), .val (.int p2), .val (.ref b1), .val (.ref wU), .val (.ref wU), .val (.int (1 : Int32)), .val (.int (1 : Int32)), .val (.int (1 : Int32)), .val (.int (1 : Int32)), .val (.int (1 : Int32))] [(.int (1 : Int32))])) _
        exact retN X74 hx (t := .boolean) Bd.returns (by simp) (hb hby at_200) hrt
      · show own_Q_rm0 Z p1 p2 wH wF wU h0 n0 _ T74.heap _
        rw [e74]
        exact ⟨rfl, N74⟩
set_option maxRecDepth 65536 in
set_option maxHeartbeats 40000000 in
theorem comes_1 {Post : Tables → Env → Array Value → State → Outcome → State → Prop} (hpost : ∀ tb e args s v u, (limb_1_1.after args s (.returned v) u = true ∧ limb_1_2.after args s (.returned v) u = true ∧ True) → FrameEnd s (.returned v) u (Jvm.fieldLocs frame_1_writes args s ++ Jvm.arrayLocs frame_1_arrays args s ++ Jvm.staticLocs frame_1_statics s) 16 128 → Post tb e args s (.returned v) u) :
    ArmFor flags0 classFile x code maxLocals ret World_1 tables_1 room_1 Calls_1 rest_1 Pre_1 Post := by
  intro l hfl _ _ p e ha hc hk s m args below hf hA hF happ hP
  obtain ⟨hcalls, hrest, hpre⟩ := hP
  obtain ⟨-, -, -, hnamed, -, -, -, hat⟩ := (Spec.applies_iff hf).mp happ
  obtain ⟨hg, hn⟩ := and_e (Cond.before_iff.mp (show (Jvm.Cond.and given_1 narrow_1).before args s = true from hpre))
  obtain ⟨h0a, h0b⟩ := and_e hg
  obtain ⟨h1a, h1b⟩ := and_e h0b
  obtain ⟨h2a, h2b⟩ := and_e hn
  obtain ⟨h3a, h3b⟩ := and_e h2b
  obtain ⟨h4a, h4b⟩ := and_e h3b
  obtain ⟨h5a, h5b⟩ := and_e h4b
  obtain ⟨h6a, h6b⟩ := and_e h5b
  obtain ⟨w0, w1, rfl⟩ : ∃ w0 w1 : Value, args = #[w0, w1] := by
    have hs : args.size = 2 := by simpa [Cond.value, given_1] using h0a
    obtain ⟨L⟩ := args
    match L, hs with
    | [w0, w1], _ => exact ⟨w0, w1, rfl⟩
  have hw := fun d (hd : d ∈ tables_1) => atoms_spec (ws := Jvm.Cond.code x code maxLocals ret :: tables_1) hat d (List.mem_cons_of_mem _ hd)
  obtain ⟨i0, ei0⟩ := is_v h1a
  obtain rfl : w0 = (.int i0) := Option.some.inj ei0
  obtain ⟨i1, ei1⟩ := is_v h1b
  obtain rfl : w1 = (.int i1) := Option.some.inj ei1
  obtain ⟨w_HOLDS, ew_HOLDS⟩ := exa_v h2a
  have S_HOLDS := Sta.start ew_HOLDS (Or.inr ⟨(hw _ (List.mem_of_getElem? (i := 3) rfl)), (hw _ (List.mem_of_getElem? (i := 4) rfl))⟩)
  have Ex_HOLDS : Exa s s.heap w_HOLDS "com/example/frugal_nets/frugalnets/check/Verdict" := Exa.start ew_HOLDS h2a
  obtain ⟨w_FAILS, ew_FAILS⟩ := exa_v h3a
  have S_FAILS := Sta.start ew_FAILS (Or.inr ⟨(hw _ (List.mem_of_getElem? (i := 3) rfl)), (hw _ (List.mem_of_getElem? (i := 7) rfl))⟩)
  have Ex_FAILS : Exa s s.heap w_FAILS "com/example/frugal_nets/frugalnets/check/Verdict" := Exa.start ew_FAILS h3a
  obtain ⟨w_UNKNOWN, ew_UNKNOWN⟩ := exa_v h4a
  have S_UNKNOWN := Sta.start ew_UNKNOWN (Or.inr ⟨(hw _ (List.mem_of_getElem? (i := 3) rfl)), (hw _ (List.mem_of_getElem? (i := 9) rfl))⟩)
  have Ex_UNKNOWN : Exa s s.heap w_UNKNOWN "com/example/frugal_nets/frugalnets/check/Verdict" := Exa.start ew_UNKNOWN h4a
  have Fo_HOLDS : Fld s s.heap w_HOLDS "java/lang/Enum" "ordinal" "I" (.int (0 : Int32)) := Fld.start ((fld_at ew_HOLDS).symm.trans (own_eqI h5a))
  have Fo_UNKNOWN : Fld s s.heap w_UNKNOWN "java/lang/Enum" "ordinal" "I" (.int (2 : Int32)) := Fld.start ((fld_at ew_UNKNOWN).symm.trans (own_eqI h6a))
  have Fo_FAILS : Fld s s.heap w_FAILS "java/lang/Enum" "ordinal" "I" (.int (1 : Int32)) := Fld.start ((fld_at ew_FAILS).symm.trans (own_eqI h6b))
  obtain ⟨n, o, h1, h2, h3, _, L, rfl, ⟨rfl, N⟩, hq⟩ := rm0 l s _ hw tables_1 i0 i1 w_HOLDS w_FAILS w_UNKNOWN s.heap s.heap.size (Old.start s) ⟨S_HOLDS, S_FAILS, S_UNKNOWN, Ex_HOLDS, Ex_FAILS, Ex_UNKNOWN⟩ (Fld.ne Fo_HOLDS Fo_FAILS (fun q => absurd (Value.int.inj q) (by decide))) (Fld.ne Fo_HOLDS Fo_UNKNOWN (fun q => absurd (Value.int.inj q) (by decide))) (Fld.ne Fo_FAILS Fo_UNKNOWN (fun q => absurd (Value.int.inj q) (by decide))) p e ha hc hk s m _ below hf ((Spec.applies_iff_loose hf).mp happ).1 ⟨rfl, State.Warmed39.refl s, rfl⟩ trivial
  refine ⟨n, _, h1, h2, h3, hpost _ _ _ _ _ _ ⟨Cond.after_iff.mpr rfl, Cond.after_iff.mpr (eq_i res_at (Term.int_eval (1)) rfl), trivial⟩ ⟨hq.1, hq.2.1, (hq.2.2.sift fun y hy => Or.inr (N y hy)).mono (by decide) (by decide)⟩⟩
theorem main_1_1 : Claimed_1_1 := comes_1 fun _ _ _ _ _ _ h hF => ⟨h.1, hF⟩
theorem main_1_2 : Claimed_1_2 := comes_1 fun _ _ _ _ _ _ h hF => ⟨h.2.1, hF⟩
end Jvm.Pilot.@@N@@
namespace Jvm.Pilot.@@N@@
open Jvm Jvm.ClassFile Sem Op Lib Jvm.Free Jvm.Stand Jvm.Pilot.@@N@@.Jvm.D
/-! MADE BY PROGRAM (witnessworld.py) out of the Statement's table words and the real class files: 13 classes; the members and pool entries that the words name. The judged class is class 1, her method 1. -/
namespace start1
open Jvm.ClassFile
def u (s : String) : CpInfo := .utf8 (stringToUtf16 s)
/-- a pool by its gaps: so many unusable entries, then the entry; so many at the end -/
def gap : Nat → List CpInfo → List CpInfo
  | 0, r => r
  | n + 1, r => .unusable :: gap n r
def poolList (es : List (Nat × CpInfo)) (last : Nat) : List CpInfo := es.foldr (fun e r => gap e.1 (e.2 :: r)) (gap last [])
def pool (es : List (Nat × CpInfo)) (last : Nat) : Array CpInfo := ⟨poolList es last⟩
def fileOf (pool : Array CpInfo) (this : Nat) (attrs : Array Attribute := #[]) (ms : Array MethodInfo := #[]) (fl : Nat := 33) (sup : Nat := 0) (ifs : Array Nat := #[]) (fds : Array FieldInfo := #[]) : ClassFile where
  minorVersion := 0
  majorVersion := 65
  constantPool := pool
  accessFlags := fl
  thisClass := this
  superClass := sup
  interfaces := ifs
  fields := fds
  methods := ms
  attributes := attrs
def plain (name : String) (sup : Option ClassId) : Class where
  name := name
  kind := .ordinary
  loader := none
  accessFlags := 33
  super := sup
  interfaces := #[]
  cf := none
  fields := #[]
  methods := #[]
  instanceTypes := #[]
  staticTypes := #[]
  resolved := #[]
  callSites := []
  init := .initialized
  statics := none
  mirror := none

def pool0 : Array CpInfo := pool [(5, u "<init>"), (0, u "()V"), (1, .class_ 10), (1, u "java/lang/Object")] 113

def k0m0 : Method := { name := "<init>", desc := "()V", sig := { parameters := [], returnType := none }, accessFlags := 1, code := none }
/-- java/lang/Object -/
def k0 : Class := { plain "java/lang/Object" none with
  accessFlags := 33
  interfaces := #[]
  cf := some (fileOf pool0 8 #[] #[{ accessFlags := 1, nameIndex := 5, descriptorIndex := 6, attributes := #[] }] 33 0 #[] #[])
  fields := #[]
  methods := #[k0m0]
  instanceTypes := #[]
  staticTypes := #[]
  resolved := Array.replicate 124 none
  statics := none }

def pool1 : Array CpInfo := pool [(2, .class_ 4), (1, u "java/lang/Object"), (0, u "<init>"), (0, u "()V"), (0, .class_ 8), (0, u "com/example/frugal_nets/frugalnets/check/Verdict"), (0, .fieldref 7 10), (0, .nameAndType 11 12), (0, u "HOLDS"), (0, u "Lcom/example/frugal_nets/frugalnets/check/Verdict;"), (0, .fieldref 7 14), (0, .nameAndType 15 12), (0, u "FAILS"), (0, .fieldref 7 17), (0, .nameAndType 18 12), (0, u "UNKNOWN"), (0, .integer 2147483647), (0, .methodref 7 21), (0, .nameAndType 22 23), (0, u "negated"), (0, u "()Lcom/example/frugal_nets/frugalnets/check/Verdict;"), (0, .methodref 7 25), (0, .nameAndType 26 27), (0, u "of"), (0, u "(Z)Lcom/example/frugal_nets/frugalnets/check/Verdict;"), (0, .class_ 29), (0, u "com/example/frugal_nets/frugalnets/check/VerdictNegatedPinLaw"), (2, u "law"), (0, u "(II)Z")] 5

def k1m0 : Method := { name := "<init>", desc := "()V", sig := { parameters := [], returnType := none }, accessFlags := 1, code := none }
def k1c1 : Code := { maxStack := 4, maxLocals := 10, code := code, exceptionTable := #[], attributes := #[] }
def k1m1 : Method := { name := "law", desc := "(II)Z", sig := { parameters := [.int, .int], returnType := some .boolean }, accessFlags := 9, code := some k1c1 }
/-- com/example/frugal_nets/frugalnets/check/VerdictNegatedPinLaw -/
def k1 : Class := { plain "com/example/frugal_nets/frugalnets/check/VerdictNegatedPinLaw" (some 0) with
  accessFlags := 49
  interfaces := #[]
  cf := some (fileOf pool1 28 #[] #[{ accessFlags := 1, nameIndex := 5, descriptorIndex := 6, attributes := #[] }, { accessFlags := 9, nameIndex := 32, descriptorIndex := 33, attributes := #[] }] 49 2 #[] #[])
  fields := #[]
  methods := #[k1m0, k1m1]
  instanceTypes := #[]
  staticTypes := #[]
  resolved := Array.replicate 39 none
  statics := none }

def pool2 : Array CpInfo := pool [(1, .class_ 2), (0, u "java/lang/constant/Constable"), (0, .class_ 4), (0, u "java/lang/Object")] 6

/-- java/lang/constant/Constable -/
def k2 : Class := { plain "java/lang/constant/Constable" (some 0) with
  accessFlags := 1537
  interfaces := #[]
  cf := some (fileOf pool2 1 #[] #[] 1537 3 #[] #[])
  fields := #[]
  methods := #[]
  instanceTypes := #[]
  staticTypes := #[]
  resolved := Array.replicate 11 none
  statics := none }

def pool3 : Array CpInfo := pool [(1, .class_ 2), (0, u "java/lang/Comparable"), (0, .class_ 4), (0, u "java/lang/Object")] 7

/-- java/lang/Comparable -/
def k3 : Class := { plain "java/lang/Comparable" (some 0) with
  accessFlags := 1537
  interfaces := #[]
  cf := some (fileOf pool3 1 #[] #[] 1537 3 #[] #[])
  fields := #[]
  methods := #[]
  instanceTypes := #[]
  staticTypes := #[]
  resolved := Array.replicate 12 none
  statics := none }

def pool4 : Array CpInfo := pool [(1, .class_ 2), (0, u "java/io/Serializable"), (0, .class_ 4), (0, u "java/lang/Object")] 2

/-- java/io/Serializable -/
def k4 : Class := { plain "java/io/Serializable" (some 0) with
  accessFlags := 1537
  interfaces := #[]
  cf := some (fileOf pool4 1 #[] #[] 1537 3 #[] #[])
  fields := #[]
  methods := #[]
  instanceTypes := #[]
  staticTypes := #[]
  resolved := Array.replicate 7 none
  statics := none }

def pool5 : Array CpInfo := pool [(2, .class_ 4), (1, u "java/lang/Enum"), (0, u "name"), (0, u "Ljava/lang/String;"), (2, u "ordinal"), (0, u "I"), (1, .class_ 14), (1, u "java/lang/Object"), (4, u "hash"), (86, .class_ 108), (1, u "java/lang/Enum$EnumDesc"), (2, .class_ 112), (0, u "java/lang/constant/Constable"), (0, .class_ 114), (0, u "java/lang/Comparable"), (0, .class_ 116), (0, u "java/io/Serializable")] 87

/-- java/lang/Enum -/
def k5 : Class := { plain "java/lang/Enum" (some 0) with
  accessFlags := 1057
  interfaces := #[2, 3, 4]
  cf := some (fileOf pool5 2 #[.nestMembers #[106]] #[] 1057 12 #[111, 113, 115] #[{ accessFlags := 18, nameIndex := 5, descriptorIndex := 6, attributes := #[] }, { accessFlags := 18, nameIndex := 9, descriptorIndex := 10, attributes := #[] }, { accessFlags := 2, nameIndex := 19, descriptorIndex := 10, attributes := #[] }])
  fields := #[{ name := "name", type := (.object "java/lang/String"), accessFlags := 18, slot := 0, constantValue := 0 }, { name := "ordinal", type := .int, accessFlags := 18, slot := 1, constantValue := 0 }, { name := "hash", type := .int, accessFlags := 2, slot := 2, constantValue := 0 }]
  methods := #[]
  instanceTypes := #[(.object "java/lang/String"), .int, .int]
  staticTypes := #[]
  resolved := Array.replicate 204 none
  statics := none }

def pool6 : Array CpInfo := pool [(1, .class_ 2), (0, u "com/example/frugal_nets/frugalnets/check/Verdict"), (0, .fieldref 1 4), (0, .nameAndType 5 6), (0, u "HOLDS"), (0, u "Lcom/example/frugal_nets/frugalnets/check/Verdict;"), (0, .fieldref 1 8), (0, .nameAndType 9 6), (0, u "FAILS"), (0, .fieldref 1 11), (0, .nameAndType 12 6), (0, u "UNKNOWN"), (2, u "$VALUES"), (0, u "[Lcom/example/frugal_nets/frugalnets/check/Verdict;"), (6, .class_ 25), (1, u "java/lang/Enum"), (8, u "negated"), (0, u "()Lcom/example/frugal_nets/frugalnets/check/Verdict;"), (19, u "of"), (0, u "(Z)Lcom/example/frugal_nets/frugalnets/check/Verdict;")] 6

def k6c0 : Code := { maxStack := 1, maxLocals := 1, code := prog_26_method_4_code, exceptionTable := #[], attributes := #[] }
def k6m0 : Method := { name := "of", desc := "(Z)Lcom/example/frugal_nets/frugalnets/check/Verdict;", sig := { parameters := [.boolean], returnType := some (.object "com/example/frugal_nets/frugalnets/check/Verdict") }, accessFlags := 8, code := some k6c0 }
def k6c1 : Code := { maxStack := 2, maxLocals := 2, code := prog_26_method_5_code, exceptionTable := #[], attributes := #[] }
def k6m1 : Method := { name := "negated", desc := "()Lcom/example/frugal_nets/frugalnets/check/Verdict;", sig := { parameters := [], returnType := some (.object "com/example/frugal_nets/frugalnets/check/Verdict") }, accessFlags := 0, code := some k6c1 }
/-- com/example/frugal_nets/frugalnets/check/Verdict -/
def k6 : Class := { plain "com/example/frugal_nets/frugalnets/check/Verdict" (some 5) with
  accessFlags := 16432
  interfaces := #[]
  cf := some (fileOf pool6 1 #[] #[{ accessFlags := 8, nameIndex := 55, descriptorIndex := 56, attributes := #[] }, { accessFlags := 0, nameIndex := 34, descriptorIndex := 35, attributes := #[] }] 16432 23 #[] #[{ accessFlags := 16409, nameIndex := 5, descriptorIndex := 6, attributes := #[] }, { accessFlags := 16409, nameIndex := 9, descriptorIndex := 6, attributes := #[] }, { accessFlags := 16409, nameIndex := 12, descriptorIndex := 6, attributes := #[] }, { accessFlags := 4122, nameIndex := 15, descriptorIndex := 16, attributes := #[] }])
  fields := #[{ name := "HOLDS", type := (.object "com/example/frugal_nets/frugalnets/check/Verdict"), accessFlags := 16409, slot := 0, constantValue := 0 }, { name := "FAILS", type := (.object "com/example/frugal_nets/frugalnets/check/Verdict"), accessFlags := 16409, slot := 1, constantValue := 0 }, { name := "UNKNOWN", type := (.object "com/example/frugal_nets/frugalnets/check/Verdict"), accessFlags := 16409, slot := 2, constantValue := 0 }, { name := "$VALUES", type := (.array (.object "com/example/frugal_nets/frugalnets/check/Verdict")), accessFlags := 4122, slot := 3, constantValue := 0 }]
  methods := #[k6m0, k6m1]
  instanceTypes := #[(.object "java/lang/String"), .int, .int]
  staticTypes := #[(.object "com/example/frugal_nets/frugalnets/check/Verdict"), (.object "com/example/frugal_nets/frugalnets/check/Verdict"), (.object "com/example/frugal_nets/frugalnets/check/Verdict"), (.array (.object "com/example/frugal_nets/frugalnets/check/Verdict"))]
  resolved := Array.replicate 63 none
  statics := some 0 }

def pool7 : Array CpInfo := pool [(1, u "java/lang/Cloneable"), (0, .class_ 1), (0, u "java/lang/Object"), (0, .class_ 3)] 3

/-- java/lang/Cloneable -/
def k7 : Class := { plain "java/lang/Cloneable" (some 0) with
  accessFlags := 1537
  interfaces := #[]
  cf := some (fileOf pool7 2 #[] #[] 1537 4 #[] #[])
  fields := #[]
  methods := #[]
  instanceTypes := #[]
  staticTypes := #[]
  resolved := Array.replicate 8 none
  statics := none }

/-- the primitive byte -/
def k8 : Class := { plain "byte" none with kind := .primitive 'B', accessFlags := 0x411 }
/-- [B -/
def k9 : Class := { plain "[B" (some 0) with kind := .array 8 .byte, interfaces := #[7, 4], accessFlags := 1041 }

/-- the primitive int -/
def k10 : Class := { plain "int" none with kind := .primitive 'I', accessFlags := 0x411 }
/-- [I -/
def k11 : Class := { plain "[I" (some 0) with kind := .array 10 .int, interfaces := #[7, 4], accessFlags := 1041 }

/-- [Lcom/example/frugal_nets/frugalnets/check/Verdict; -/
def k12 : Class := { plain "[Lcom/example/frugal_nets/frugalnets/check/Verdict;" (some 0) with kind := .array 6 (.object "com/example/frugal_nets/frugalnets/check/Verdict"), interfaces := #[7, 4], accessFlags := 1041 }

def heap : Heap := #[{ cls := 6, slots := #[.ref 1, .ref 2, .ref 3, .null], vm := .statics 6 },
  { cls := 6, slots := #[.null, .int 0, .int 0], vm := .none },
  { cls := 6, slots := #[.null, .int 1, .int 0], vm := .none },
  { cls := 6, slots := #[.null, .int 2, .int 0], vm := .none }]
def classes : Array Class := #[k0, k1, k2, k3, k4, k5, k6, k7, k8, k9, k10, k11, k12]
def interned : List (Array UInt16 × Addr) := []
def slotsUsed : Nat := 13
def theMethod : MethodId := ⟨1, 1⟩
def args0 : Array Value := #[.int 5, .int 7]
def aboutOver (below : List Frame) : State where
  vm := { classes := classes, interned := interned.toArray }
  heap := heap
  slotsUsed := slotsUsed
  threads := #[{ frames := .invoking theMethod args0 :: below }]
def below0 : List Frame := [.native { method := ⟨0, 0⟩, args := #[] }]
def about1 : State := aboutOver below0
def p0 : Program := .bare "" "" ""
def e0 : Env := launch0.env 0 0 0
theorem w_frames : about1.frames = Frame.invoking theMethod args0 :: below0 := rfl
set_option maxRecDepth 65536 in
theorem w_args : argsFit about1.vm theMethod args0 = true := by decide +kernel
set_option maxRecDepth 65536 in
theorem w_heap : heapFits about1 = true := by decide +kernel
set_option maxRecDepth 65536 in
theorem w_runnable : about1.curStatus? = some .runnable := by decide +kernel
set_option maxRecDepth 65536 in
theorem w_alone : about1.alone = true := by decide +kernel
set_option maxRecDepth 65536 in
theorem w_named : about1.methodNamed? x = some theMethod := by decide +kernel
set_option maxRecDepth 65536 in
theorem w_hears : about1.hears theMethod below0 = true := by decide +kernel
set_option maxRecDepth 65536 in
theorem w_ripe : about1.ripe theMethod args0 below0 = true := by decide +kernel
theorem w_running : about1.status = .running := rfl
set_option maxRecDepth 65536 in
theorem w_room : about1.hasRoom e0.platform room_1 = true :=
  launch0.hasRoom_least _ room_1 (by decide +kernel) (by decide +kernel) (by decide +kernel) (by decide +kernel) (by decide +kernel) (by decide +kernel)
theorem allAtoms_all (ts : List Jvm.Cond) (a : Array Jvm.Value) (st : Jvm.State) : (allAtoms ts).before a st = ts.all (fun c => c.before a st) := by
  induction ts with
  | nil => rfl
  | cons c t ih =>
    show (Jvm.Cond.and c (allAtoms t)).before a st = _
    rw [Jvm.Cond.before_and, ih, List.all_cons]
def words1 : List Jvm.Cond := Jvm.Cond.code x code maxLocals ret :: tables_1
/-- a 'code' word, met by the world's own term for the bytes: nothing is compared byte by byte -/
theorem code_word {y : MethodName} {bytes : ByteArray} {mx : Nat} {rt : Option FieldType} {a : Array Value} {s : State} {m : MethodId} {meth : Method} {c : Code} (h1 : s.methodNamed? y = some m) (h2 : s.vm.method? m = some meth) (h3 : meth.code = some c) (h4 : c.code = bytes)
    (h5 : (c.maxLocals == mx && c.exceptionTable.isEmpty && decide (c.maxStack ≤ mostOperands) && decide (meth.sig.returnType = rt) && !meth.locks && decide (parseMethodDescriptor y.desc = some meth.sig)) = true) : (Jvm.Cond.code y bytes mx rt).before a s = true := by
  simp only [Bool.and_eq_true, beq_iff_eq, Bool.not_eq_true', decide_eq_true_eq] at h5
  obtain ⟨⟨⟨⟨⟨g1, g2⟩, g3⟩, g4⟩, g5⟩, g6⟩ := h5
  simp [Cond.before, Cond.holds, Cond.value, h1, h2, h3, h4, g1, g2, g3, g4, g5, g6]
def isCode : Jvm.Cond → Bool
  | .code _ _ _ _ => true
  | _ => false
theorem all_split {L : List Jvm.Cond} {P : Jvm.Cond → Bool} (h1 : L.all (fun c => isCode c || P c) = true) (h2 : ∀ c ∈ L.filter isCode, P c = true) : L.all P = true := by
  refine List.all_eq_true.mpr fun c hc => ?_
  have h := List.all_eq_true.mp h1 c hc
  rcases Bool.eq_false_or_eq_true (isCode c) with hi | hi
  · exact h2 c (List.mem_filter.mpr ⟨hc, hi⟩)
  · simpa [hi] using h
set_option maxRecDepth 65536 in
theorem w_c0 : (Jvm.Cond.code x code maxLocals ret).before args0 about1 = true := code_word (m := ⟨1, 1⟩) (meth := k1m1) (c := k1c1) (by decide +kernel) rfl rfl rfl (by decide +kernel)
set_option maxRecDepth 65536 in
theorem w_c1 : (Jvm.Cond.code ({ cls := "com/example/frugal_nets/frugalnets/check/Verdict", name := "negated", desc := "()Lcom/example/frugal_nets/frugalnets/check/Verdict;" } : Jvm.MethodName) prog_26_method_5_code (2 : Nat) (Option.some (Jvm.ClassFile.FieldType.object "com/example/frugal_nets/frugalnets/check/Verdict"))).before args0 about1 = true := code_word (m := ⟨6, 1⟩) (meth := k6m1) (c := k6c1) (by decide +kernel) rfl rfl rfl (by decide +kernel)
set_option maxRecDepth 65536 in
theorem w_c2 : (Jvm.Cond.code ({ cls := "com/example/frugal_nets/frugalnets/check/Verdict", name := "of", desc := "(Z)Lcom/example/frugal_nets/frugalnets/check/Verdict;" } : Jvm.MethodName) prog_26_method_4_code (1 : Nat) (Option.some (Jvm.ClassFile.FieldType.object "com/example/frugal_nets/frugalnets/check/Verdict"))).before args0 about1 = true := code_word (m := ⟨6, 0⟩) (meth := k6m0) (c := k6c0) (by decide +kernel) rfl rfl rfl (by decide +kernel)
def codes1 : List Jvm.Cond := [Jvm.Cond.code x code maxLocals ret, Jvm.Cond.code ({ cls := "com/example/frugal_nets/frugalnets/check/Verdict", name := "negated", desc := "()Lcom/example/frugal_nets/frugalnets/check/Verdict;" } : Jvm.MethodName) prog_26_method_5_code (2 : Nat) (Option.some (Jvm.ClassFile.FieldType.object "com/example/frugal_nets/frugalnets/check/Verdict")), Jvm.Cond.code ({ cls := "com/example/frugal_nets/frugalnets/check/Verdict", name := "of", desc := "(Z)Lcom/example/frugal_nets/frugalnets/check/Verdict;" } : Jvm.MethodName) prog_26_method_4_code (1 : Nat) (Option.some (Jvm.ClassFile.FieldType.object "com/example/frugal_nets/frugalnets/check/Verdict"))]
set_option maxRecDepth 65536 in
theorem codes_eq : words1.filter isCode = codes1 := rfl
theorem w_codes : ∀ c ∈ words1.filter isCode, c.before args0 about1 = true := by
  rw [codes_eq]
  intro c hc
  simp only [codes1, List.mem_cons, List.not_mem_nil, or_false] at hc
  rcases hc with rfl | rfl | rfl
  · exact w_c0
  · exact w_c1
  · exact w_c2
set_option maxRecDepth 65536 in
theorem w_t1 : words1.all (fun c => isCode c || c.before args0 about1) = true := by decide +kernel
theorem w_tables : (allAtoms (Jvm.Cond.code x code maxLocals ret :: tables_1)).before args0 about1 = true := by
  rw [allAtoms_all]
  show words1.all (fun c => c.before args0 about1) = true
  refine all_split ?_ w_codes
  rw [w_t1]
set_option maxRecDepth 65536 in
theorem w_case : (Jvm.Cond.and given_1 narrow_1).before args0 about1 = true := by decide +kernel
theorem w_applies : (headSpec (Jvm.Cond.code x code maxLocals ret :: tables_1) room_1).applies x e0.platform about1 = true :=
  (Spec.applies_iff w_frames).mpr ⟨w_running, w_runnable, w_alone, w_named, w_hears, w_ripe, w_room, w_tables⟩
theorem atStart : AtStart classFile x code maxLocals ret World_1 tables_1 room_1 Calls_1 rest_1 Pre_1 launch0 p0 e0 about1 theMethod args0 below0 :=
  ⟨lists_1, trivial, launch0.admits_env _ _ _, launch0.least_env, fairChoices_fair.cas, fairChoices_fair.clock, w_frames, w_args, w_heap, w_applies, trivial, trivial, w_case⟩
end start1
theorem witness_1 : WitnessClaimed_1 := ⟨start1.p0, start1.e0, start1.about1, start1.theMethod, start1.args0, start1.below0, start1.atStart⟩
end Jvm.Pilot.@@N@@
