import JvmDerived
import JvmDerived.Pilot.@@N@@Statement
import JvmDerived.Pilot.@@N@@Code
set_option linter.unusedVariables false
set_option linter.unusedSimpArgs false
namespace Jvm.RoadKit
open Sem ClassFile Op Lib Jvm.Stand Jvm.Free Jvm.LawKit
section New
variable {p : Program} {l : Launch} {e : Env} {R : Room} {s : State} {m : MethodId} {args : Array Value} {below : List Frame} {meth : Method} {c : Code} {T : State} {locs : List Loc} {cells slots : Nat}
theorem retI (X : Stand p l e R s m args below meth c T locs cells slots) (hx : p.tables.exec = Jvm.exec) {pc : Nat} {Ls : Array Slot} {z : Int32} {rest : List Value} (hret : meth.sig.returnType = some .int) (hd : decode c.code pc = .ok (.ireturn, 1)) {fs : List Frame}
    (hl : ∀ (f : JFrame) (acts : List Action), f.method = m → f.locked = none → f.entered = [] → (doReturn e (T.setTop f) acts (some (.int z))).1 = T.setFrames fs) : Steps p.tables e below (T.setTop (mkF m pc Ls (.int z :: rest))) (T.setFrames fs) := by
  have hm' : T.vm.method? m = some meth := X.method'
  have hn : narrow .int (.int z) = .int z := rfl
  show Steps p.tables e below (T.setTop { method := m, pc := pc, locals := Ls, stack := _ :: rest, locked := none }) _
  jvm_step X.here [X.here.top, hx, hd, hm', hret, hn]
  first | (intro acts; rw [hl _ acts rfl rfl rfl]) | rw [hl _ _ rfl rfl rfl]
  exact Steps.refl _
end New
end Jvm.RoadKit
namespace Jvm.Pilot.@@N@@
open Jvm Jvm.ClassFile Sem Op Lib Jvm.Free Jvm.Stand Jvm.LawKit Jvm.RoadKit Bundle Jvm.Pilot.@@N@@.Jvm.D
theorem own_irem (x y : Int32) : x - (x / y) * y = x % y := by
  apply Int32.toInt_inj.mp
  have h1 := Int32.le_toInt (x % y)
  have h2 := Int32.toInt_lt (x % y)
  rw [Int32.toInt_sub, Int32.toInt_mul, Int32.toInt_div, Int.bmod_mul_bmod, Int.sub_bmod_bmod, Int.mul_comm (x.toInt.tdiv y.toInt), ← Int.tmod_def, ← Int32.toInt_mod]
  exact Int.bmod_eq_of_le_mul_two (by omega) (by omega)
theorem own_eqI {args : Array Value} {first s : State} {o : Option Outcome} {idx : List Nat} {t : Term} {k : Int32} (h : (Cond.eq t (.int k)).value args first o s idx = some true) : t.eval args first o idx s = some (.int k) :=
  Cond.eq_int (by simp [Cond.holds, h]) (Term.int_eval _)
theorem own_ef1 (m : MethodId) (x0 : Int32) : entryFrame m #[(.int x0)] 1 = mkF m 0 #[.val (.int x0)] [] := by first | (simp [entryFrame, mkF, argsToLocals, Value.category]; done) | rfl
theorem own_pn0 : plainName "com/example/chalkline/chalkline/runtime/MachineCodeTargetPinLaw" = true := by first | (simp [plainName, overriddenIn]; done) | decide +kernel
theorem own_d1_0 : decode method_2_code 0 = .ok (.iload_n 0, 1) := by decide +kernel
theorem own_d1_1 : decode method_2_code 1 = .ok (.bipush 12, 2) := by decide +kernel
theorem own_d1_3 : decode method_2_code 3 = .ok (.if_icmp .ge 5, 3) := by decide +kernel
theorem own_d1_6 : decode method_2_code 6 = .ok (.iconst 0, 1) := by decide +kernel
theorem own_d1_7 : decode method_2_code 7 = .ok (.ireturn, 1) := by decide +kernel
theorem own_d1_8 : decode method_2_code 8 = .ok (.iload_n 0, 1) := by decide +kernel
theorem own_d1_9 : decode method_2_code 9 = .ok (.bipush 21, 2) := by decide +kernel
theorem own_d1_11 : decode method_2_code 11 = .ok (.if_icmp .gt 5, 3) := by decide +kernel
theorem own_d1_16 : decode method_2_code 16 = .ok (.iload_n 0, 1) := by decide +kernel
theorem own_d1_17 : decode method_2_code 17 = .ok (.bipush 27, 2) := by decide +kernel
theorem own_d1_19 : decode method_2_code 19 = .ok (.if_icmp .ne 5, 3) := by decide +kernel
theorem own_d1_22 : decode method_2_code 22 = .ok (.iconst 1, 1) := by decide +kernel
theorem own_d1_23 : decode method_2_code 23 = .ok (.ireturn, 1) := by decide +kernel
theorem own_d1_24 : decode method_2_code 24 = .ok (.iload_n 0, 1) := by decide +kernel
theorem own_d1_25 : decode method_2_code 25 = .ok (.bipush 28, 2) := by decide +kernel
theorem own_d1_27 : decode method_2_code 27 = .ok (.if_icmp .eq 9, 3) := by decide +kernel
theorem own_d1_36 : decode method_2_code 36 = .ok (.iconst 2, 1) := by decide +kernel
theorem own_d1_37 : decode method_2_code 37 = .ok (.ireturn, 1) := by decide +kernel
theorem own_d1_30 : decode method_2_code 30 = .ok (.iload_n 0, 1) := by decide +kernel
theorem own_d1_31 : decode method_2_code 31 = .ok (.bipush 29, 2) := by decide +kernel
theorem own_d1_33 : decode method_2_code 33 = .ok (.if_icmp .ne 5, 3) := by decide +kernel
theorem own_d1_38 : decode method_2_code 38 = .ok (.iconst 0, 1) := by decide +kernel
theorem own_d1_39 : decode method_2_code 39 = .ok (.ireturn, 1) := by decide +kernel
theorem own_d1_14 : decode method_2_code 14 = .ok (.iconst 3, 1) := by decide +kernel
theorem own_d1_15 : decode method_2_code 15 = .ok (.ireturn, 1) := by decide +kernel
def own_Q_rmOp (Z : State) (p1 r : Int32) (h0 : Heap) (n0 : Nat) (v : Option Value) (h : Heap) (L : List Loc) : Prop := v = some (.int r) ∧ Fr n0 L ∧ h = h0
set_option maxRecDepth 65536 in
set_option maxHeartbeats 40000000 in
theorem rmOp (l : Launch) (Z : State) (a0 : Array Value) (hw : ∀ d ∈ tables_1, d.before a0 Z = true) (ws : List Jvm.Cond) (p1 r : Int32) (h0 : Heap) (n0 : Nat) (O0 : Old Z n0 h0) (hr : (if p1 < (12 : Int32) then (0 : Int32) else if (21 : Int32) < p1 then (if p1 = (27 : Int32) then 1 else if p1 = (28 : Int32) then 2 else if p1 = (29 : Int32) then 2 else 0) else 3) = r) :
    MetFree l (⟨"com/example/chalkline/chalkline/runtime/MachineCodeTargetPinLaw", "targetOperand", "(I)I"⟩ : MethodName) (head1 (Jvm.Cond.code (⟨"com/example/chalkline/chalkline/runtime/MachineCodeTargetPinLaw", "targetOperand", "(I)I"⟩ : MethodName) method_2_code 1 (some .int) :: ws) ({ frames := 0, cells := 0, slots := 0, locals := 0 } : Room)) (fun a U => a = #[(.int p1)] ∧ Z.Warmed39 U.vm ∧ U.heap = h0) (fun _ _ _ _ _ => True) (fun _ U o U' => ∃ v L, o = .returned v ∧ own_Q_rmOp Z p1 r h0 n0 v U'.heap L ∧ FrameEnd U o U' L ({ frames := 0, cells := 0, slots := 0, locals := 0 } : Room).cells ({ frames := 0, cells := 0, slots := 0, locals := 0 } : Room).slots) := by
  refine MetFree.of_bodySF (plainFor_of_name own_pn0) hisR ?_
  intro p e s m args below meth c s₁ Bd hml0 hP hK
  obtain ⟨rfl, hZ, hh⟩ := hP
  have hx := Bd.exec
  have hby := Bd.bytes
  have hml : c.maxLocals = 1 := hml0
  have hown : s.vm.findClass "com/example/chalkline/chalkline/runtime/MachineCodeTargetPinLaw" = some m.cls := findClass_of_methodNamed Bd.named
  have hnm := (name_of_methodNamed Bd.named Bd.method).1
  have X0 : Stand p l e ({ frames := 0, cells := 0, slots := 0, locals := 0 } : Room) s m #[(.int p1)] below meth c s₁ [] 0 0 := Stand.of_body Bd
  have e0 : s₁.heap = h0 := by rw [← hh, Bd.state]; rfl
  have N0 := Fr.nil n0
  have Z0 : n0 ≤ h0.size := O0.1 ▸ O0.2.1
  have g0 : ∀ t, Steps p.tables e below (s₁.setTop (mkF m 0 #[.val (.int p1)] [])) t → Steps p.tables e below (s₁.setTop (entryFrame m #[(.int p1)] 1)) t := fun t k => castTop (own_ef1 m (p1)) k
  have g2 : ∀ t, Steps p.tables e below (s₁.setTop (mkF m 3 #[.val (.int p1)] [(.int (12 : Int32)), (.int p1)])) t → Steps p.tables e below (s₁.setTop (entryFrame m #[(.int p1)] 1)) t := by
    intro t k
    refine g0 t ?_
    show Steps p.tables e below (s₁.setTop (mkF m 0 #[.val (.int p1)] [])) _
    refine XS.iloadN X0.here hx rfl (hb hby own_d1_0) rfl ?_
    show Steps p.tables e below (s₁.setTop (mkF m 1 #[.val (.int p1)] [(.int p1)])) _
    refine XS.bipush X0.here hx rfl (hb hby own_d1_1) ?_
    exact k
  by_cases hc1 : p1 < (12 : Int32)
  · have g3 : ∀ t, Steps p.tables e below (s₁.setTop (mkF m 7 #[.val (.int p1)] [(.int (0 : Int32))])) t → Steps p.tables e below (s₁.setTop (entryFrame m #[(.int p1)] 1)) t := by
      intro t k
      refine g2 t ?_
      show Steps p.tables e below (s₁.setTop (mkF m 3 #[.val (.int p1)] [(.int (12 : Int32)), (.int p1)])) _
      refine XS.icmpNo X0.here hx rfl (hb hby own_d1_3) rfl (tlt hc1).2.1 ?_
      show Steps p.tables e below (s₁.setTop (mkF m 6 #[.val (.int p1)] [])) _
      refine XS.iconst X0.here hx rfl (hb hby own_d1_6) ?_
      exact k
    obtain ⟨fs, hrt, hrun, hended, hW, hsame⟩ := X0.leave (v := some (.int (0 : Int32))) (fun h => by rw [Bd.returns] at h; cases h)
    refine ⟨_, _, g3 _ ?_, hrun, hended, _, _, rfl, ?_, ⟨_, rfl⟩, hW, hsame.mono (by decide) (by decide)⟩
    · show Steps p.tables e below (s₁.setTop (mkF m 7 #[.val (.int p1)] [(.int (0 : Int32))])) _
      exact retI X0 hx Bd.returns (hb hby own_d1_7) hrt
    · show own_Q_rmOp Z p1 r h0 n0 _ s₁.heap _
      rw [e0]
      exact ⟨by rw [← hr, if_pos hc1], N0, rfl⟩
  · have g5 : ∀ t, Steps p.tables e below (s₁.setTop (mkF m 11 #[.val (.int p1)] [(.int (21 : Int32)), (.int p1)])) t → Steps p.tables e below (s₁.setTop (entryFrame m #[(.int p1)] 1)) t := by
      intro t k
      refine g2 t ?_
      show Steps p.tables e below (s₁.setTop (mkF m 3 #[.val (.int p1)] [(.int (12 : Int32)), (.int p1)])) _
      refine XS.icmpYes X0.here hx rfl (pc0 := 3) (pc' := 8) rfl (hb hby own_d1_3) rfl (flt hc1).2.1 (by decide) (by decide) ?_
      show Steps p.tables e below (s₁.setTop (mkF m 8 #[.val (.int p1)] [])) _
      refine XS.iloadN X0.here hx rfl (hb hby own_d1_8) rfl ?_
      show Steps p.tables e below (s₁.setTop (mkF m 9 #[.val (.int p1)] [(.int p1)])) _
      refine XS.bipush X0.here hx rfl (hb hby own_d1_9) ?_
      exact k
    by_cases hc4 : (21 : Int32) < p1
    · have g7 : ∀ t, Steps p.tables e below (s₁.setTop (mkF m 19 #[.val (.int p1)] [(.int (27 : Int32)), (.int p1)])) t → Steps p.tables e below (s₁.setTop (entryFrame m #[(.int p1)] 1)) t := by
        intro t k
        refine g5 t ?_
        show Steps p.tables e below (s₁.setTop (mkF m 11 #[.val (.int p1)] [(.int (21 : Int32)), (.int p1)])) _
        refine XS.icmpYes X0.here hx rfl (pc0 := 11) (pc' := 16) rfl (hb hby own_d1_11) rfl (tlt hc4).2.2.1 (by decide) (by decide) ?_
        show Steps p.tables e below (s₁.setTop (mkF m 16 #[.val (.int p1)] [])) _
        refine XS.iloadN X0.here hx rfl (hb hby own_d1_16) rfl ?_
        show Steps p.tables e below (s₁.setTop (mkF m 17 #[.val (.int p1)] [(.int p1)])) _
        refine XS.bipush X0.here hx rfl (hb hby own_d1_17) ?_
        exact k
      by_cases hc6 : p1 = (27 : Int32)
      · have g8 : ∀ t, Steps p.tables e below (s₁.setTop (mkF m 23 #[.val (.int p1)] [(.int (1 : Int32))])) t → Steps p.tables e below (s₁.setTop (entryFrame m #[(.int p1)] 1)) t := by
          intro t k
          refine g7 t ?_
          show Steps p.tables e below (s₁.setTop (mkF m 19 #[.val (.int p1)] [(.int (27 : Int32)), (.int p1)])) _
          refine XS.icmpNo X0.here hx rfl (hb hby own_d1_19) rfl (teq hc6).2 ?_
          show Steps p.tables e below (s₁.setTop (mkF m 22 #[.val (.int p1)] [])) _
          refine XS.iconst X0.here hx rfl (hb hby own_d1_22) ?_
          exact k
        obtain ⟨fs, hrt, hrun, hended, hW, hsame⟩ := X0.leave (v := some (.int (1 : Int32))) (fun h => by rw [Bd.returns] at h; cases h)
        refine ⟨_, _, g8 _ ?_, hrun, hended, _, _, rfl, ?_, ⟨_, rfl⟩, hW, hsame.mono (by decide) (by decide)⟩
        · show Steps p.tables e below (s₁.setTop (mkF m 23 #[.val (.int p1)] [(.int (1 : Int32))])) _
          exact retI X0 hx Bd.returns (hb hby own_d1_23) hrt
        · show own_Q_rmOp Z p1 r h0 n0 _ s₁.heap _
          rw [e0]
          exact ⟨by rw [← hr, if_neg hc1, if_pos hc4, if_pos hc6], N0, rfl⟩
      · have g10 : ∀ t, Steps p.tables e below (s₁.setTop (mkF m 27 #[.val (.int p1)] [(.int (28 : Int32)), (.int p1)])) t → Steps p.tables e below (s₁.setTop (entryFrame m #[(.int p1)] 1)) t := by
          intro t k
          refine g7 t ?_
          show Steps p.tables e below (s₁.setTop (mkF m 19 #[.val (.int p1)] [(.int (27 : Int32)), (.int p1)])) _
          refine XS.icmpYes X0.here hx rfl (pc0 := 19) (pc' := 24) rfl (hb hby own_d1_19) rfl (feq hc6).2 (by decide) (by decide) ?_
          show Steps p.tables e below (s₁.setTop (mkF m 24 #[.val (.int p1)] [])) _
          refine XS.iloadN X0.here hx rfl (hb hby own_d1_24) rfl ?_
          show Steps p.tables e below (s₁.setTop (mkF m 25 #[.val (.int p1)] [(.int p1)])) _
          refine XS.bipush X0.here hx rfl (hb hby own_d1_25) ?_
          exact k
        by_cases hc9 : p1 = (28 : Int32)
        · have g11 : ∀ t, Steps p.tables e below (s₁.setTop (mkF m 37 #[.val (.int p1)] [(.int (2 : Int32))])) t → Steps p.tables e below (s₁.setTop (entryFrame m #[(.int p1)] 1)) t := by
            intro t k
            refine g10 t ?_
            show Steps p.tables e below (s₁.setTop (mkF m 27 #[.val (.int p1)] [(.int (28 : Int32)), (.int p1)])) _
            refine XS.icmpYes X0.here hx rfl (pc0 := 27) (pc' := 36) rfl (hb hby own_d1_27) rfl (teq hc9).1 (by decide) (by decide) ?_
            show Steps p.tables e below (s₁.setTop (mkF m 36 #[.val (.int p1)] [])) _
            refine XS.iconst X0.here hx rfl (hb hby own_d1_36) ?_
            exact k
          obtain ⟨fs, hrt, hrun, hended, hW, hsame⟩ := X0.leave (v := some (.int (2 : Int32))) (fun h => by rw [Bd.returns] at h; cases h)
          refine ⟨_, _, g11 _ ?_, hrun, hended, _, _, rfl, ?_, ⟨_, rfl⟩, hW, hsame.mono (by decide) (by decide)⟩
          · show Steps p.tables e below (s₁.setTop (mkF m 37 #[.val (.int p1)] [(.int (2 : Int32))])) _
            exact retI X0 hx Bd.returns (hb hby own_d1_37) hrt
          · show own_Q_rmOp Z p1 r h0 n0 _ s₁.heap _
            rw [e0]
            exact ⟨by rw [← hr, if_neg hc1, if_pos hc4, if_neg hc6, if_pos hc9], N0, rfl⟩
        · have g13 : ∀ t, Steps p.tables e below (s₁.setTop (mkF m 33 #[.val (.int p1)] [(.int (29 : Int32)), (.int p1)])) t → Steps p.tables e below (s₁.setTop (entryFrame m #[(.int p1)] 1)) t := by
            intro t k
            refine g10 t ?_
            show Steps p.tables e below (s₁.setTop (mkF m 27 #[.val (.int p1)] [(.int (28 : Int32)), (.int p1)])) _
            refine XS.icmpNo X0.here hx rfl (hb hby own_d1_27) rfl (feq hc9).1 ?_
            show Steps p.tables e below (s₁.setTop (mkF m 30 #[.val (.int p1)] [])) _
            refine XS.iloadN X0.here hx rfl (hb hby own_d1_30) rfl ?_
            show Steps p.tables e below (s₁.setTop (mkF m 31 #[.val (.int p1)] [(.int p1)])) _
            refine XS.bipush X0.here hx rfl (hb hby own_d1_31) ?_
            exact k
          by_cases hc12 : p1 = (29 : Int32)
          · have g14 : ∀ t, Steps p.tables e below (s₁.setTop (mkF m 37 #[.val (.int p1)] [(.int (2 : Int32))])) t → Steps p.tables e below (s₁.setTop (entryFrame m #[(.int p1)] 1)) t := by
              intro t k
              refine g13 t ?_
              show Steps p.tables e below (s₁.setTop (mkF m 33 #[.val (.int p1)] [(.int (29 : Int32)), (.int p1)])) _
              refine XS.icmpNo X0.here hx rfl (hb hby own_d1_33) rfl (teq hc12).2 ?_
              show Steps p.tables e below (s₁.setTop (mkF m 36 #[.val (.int p1)] [])) _
              refine XS.iconst X0.here hx rfl (hb hby own_d1_36) ?_
              exact k
            obtain ⟨fs, hrt, hrun, hended, hW, hsame⟩ := X0.leave (v := some (.int (2 : Int32))) (fun h => by rw [Bd.returns] at h; cases h)
            refine ⟨_, _, g14 _ ?_, hrun, hended, _, _, rfl, ?_, ⟨_, rfl⟩, hW, hsame.mono (by decide) (by decide)⟩
            · show Steps p.tables e below (s₁.setTop (mkF m 37 #[.val (.int p1)] [(.int (2 : Int32))])) _
              exact retI X0 hx Bd.returns (hb hby own_d1_37) hrt
            · show own_Q_rmOp Z p1 r h0 n0 _ s₁.heap _
              rw [e0]
              exact ⟨by rw [← hr, if_neg hc1, if_pos hc4, if_neg hc6, if_neg hc9, if_pos hc12], N0, rfl⟩
          · have g15 : ∀ t, Steps p.tables e below (s₁.setTop (mkF m 39 #[.val (.int p1)] [(.int (0 : Int32))])) t → Steps p.tables e below (s₁.setTop (entryFrame m #[(.int p1)] 1)) t := by
              intro t k
              refine g13 t ?_
              show Steps p.tables e below (s₁.setTop (mkF m 33 #[.val (.int p1)] [(.int (29 : Int32)), (.int p1)])) _
              refine XS.icmpYes X0.here hx rfl (pc0 := 33) (pc' := 38) rfl (hb hby own_d1_33) rfl (feq hc12).2 (by decide) (by decide) ?_
              show Steps p.tables e below (s₁.setTop (mkF m 38 #[.val (.int p1)] [])) _
              refine XS.iconst X0.here hx rfl (hb hby own_d1_38) ?_
              exact k
            obtain ⟨fs, hrt, hrun, hended, hW, hsame⟩ := X0.leave (v := some (.int (0 : Int32))) (fun h => by rw [Bd.returns] at h; cases h)
            refine ⟨_, _, g15 _ ?_, hrun, hended, _, _, rfl, ?_, ⟨_, rfl⟩, hW, hsame.mono (by decide) (by decide)⟩
            · show Steps p.tables e below (s₁.setTop (mkF m 39 #[.val (.int p1)] [(.int (0 : Int32))])) _
              exact retI X0 hx Bd.returns (hb hby own_d1_39) hrt
            · show own_Q_rmOp Z p1 r h0 n0 _ s₁.heap _
              rw [e0]
              exact ⟨by rw [← hr, if_neg hc1, if_pos hc4, if_neg hc6, if_neg hc9, if_neg hc12], N0, rfl⟩
    · have g16 : ∀ t, Steps p.tables e below (s₁.setTop (mkF m 15 #[.val (.int p1)] [(.int (3 : Int32))])) t → Steps p.tables e below (s₁.setTop (entryFrame m #[(.int p1)] 1)) t := by
        intro t k
        refine g5 t ?_
        show Steps p.tables e below (s₁.setTop (mkF m 11 #[.val (.int p1)] [(.int (21 : Int32)), (.int p1)])) _
        refine XS.icmpNo X0.here hx rfl (hb hby own_d1_11) rfl (flt hc4).2.2.1 ?_
        show Steps p.tables e below (s₁.setTop (mkF m 14 #[.val (.int p1)] [])) _
        refine XS.iconst X0.here hx rfl (hb hby own_d1_14) ?_
        exact k
      obtain ⟨fs, hrt, hrun, hended, hW, hsame⟩ := X0.leave (v := some (.int (3 : Int32))) (fun h => by rw [Bd.returns] at h; cases h)
      refine ⟨_, _, g16 _ ?_, hrun, hended, _, _, rfl, ?_, ⟨_, rfl⟩, hW, hsame.mono (by decide) (by decide)⟩
      · show Steps p.tables e below (s₁.setTop (mkF m 15 #[.val (.int p1)] [(.int (3 : Int32))])) _
        exact retI X0 hx Bd.returns (hb hby own_d1_15) hrt
      · show own_Q_rmOp Z p1 r h0 n0 _ s₁.heap _
        rw [e0]
        exact ⟨by rw [← hr, if_neg hc1, if_neg hc4], N0, rfl⟩
theorem own_ef2 (m : MethodId) (x0 : Addr) (x1 : Int32) : entryFrame m #[(.ref x0), (.int x1)] 3 = mkF m 0 #[.val (.ref x0), .val (.int x1), .unset] [] := by first | (simp [entryFrame, mkF, argsToLocals, Value.category]; done) | rfl
theorem own_pn1 : plainName "com/example/chalkline/chalkline/runtime/MachineCode" = true := by first | (simp [plainName, overriddenIn]; done) | decide +kernel
theorem own_d2_0 : decode prog_64_method_5_code 0 = .ok (.aload_n 0, 1) := by decide +kernel
theorem own_d2_1 : decode prog_64_method_5_code 1 = .ok (.iload_n 1, 1) := by decide +kernel
theorem own_d2_2 : decode prog_64_method_5_code 2 = .ok (.iaload, 1) := by decide +kernel
theorem own_d2_3 : decode prog_64_method_5_code 3 = .ok (.istore_n 2, 1) := by decide +kernel
theorem own_d2_4 : decode prog_64_method_5_code 4 = .ok (.iload_n 2, 1) := by decide +kernel
theorem own_d2_5 : decode prog_64_method_5_code 5 = .ok (.bipush 27, 2) := by decide +kernel
theorem own_d2_7 : decode prog_64_method_5_code 7 = .ok (.if_icmp .ne 9, 3) := by decide +kernel
theorem own_d2_10 : decode prog_64_method_5_code 10 = .ok (.aload_n 0, 1) := by decide +kernel
theorem own_d2_11 : decode prog_64_method_5_code 11 = .ok (.iload_n 1, 1) := by decide +kernel
theorem own_d2_12 : decode prog_64_method_5_code 12 = .ok (.iconst 1, 1) := by decide +kernel
theorem own_d2_13 : decode prog_64_method_5_code 13 = .ok (.iadd, 1) := by decide +kernel
theorem own_d2_14 : decode prog_64_method_5_code 14 = .ok (.iaload, 1) := by decide +kernel
theorem own_d2_15 : decode prog_64_method_5_code 15 = .ok (.ireturn, 1) := by decide +kernel
theorem own_d2_16 : decode prog_64_method_5_code 16 = .ok (.iload_n 2, 1) := by decide +kernel
theorem own_d2_17 : decode prog_64_method_5_code 17 = .ok (.bipush 28, 2) := by decide +kernel
theorem own_d2_19 : decode prog_64_method_5_code 19 = .ok (.if_icmp .eq 9, 3) := by decide +kernel
theorem own_d2_28 : decode prog_64_method_5_code 28 = .ok (.aload_n 0, 1) := by decide +kernel
theorem own_d2_29 : decode prog_64_method_5_code 29 = .ok (.iload_n 1, 1) := by decide +kernel
theorem own_d2_30 : decode prog_64_method_5_code 30 = .ok (.iconst 2, 1) := by decide +kernel
theorem own_d2_31 : decode prog_64_method_5_code 31 = .ok (.iadd, 1) := by decide +kernel
theorem own_d2_32 : decode prog_64_method_5_code 32 = .ok (.iaload, 1) := by decide +kernel
theorem own_d2_33 : decode prog_64_method_5_code 33 = .ok (.ireturn, 1) := by decide +kernel
theorem own_d2_22 : decode prog_64_method_5_code 22 = .ok (.iload_n 2, 1) := by decide +kernel
theorem own_d2_23 : decode prog_64_method_5_code 23 = .ok (.bipush 29, 2) := by decide +kernel
theorem own_d2_25 : decode prog_64_method_5_code 25 = .ok (.if_icmp .ne 9, 3) := by decide +kernel
theorem own_d2_34 : decode prog_64_method_5_code 34 = .ok (.iload_n 2, 1) := by decide +kernel
theorem own_d2_35 : decode prog_64_method_5_code 35 = .ok (.bipush 12, 2) := by decide +kernel
theorem own_d2_37 : decode prog_64_method_5_code 37 = .ok (.if_icmp .lt 15, 3) := by decide +kernel
theorem own_d2_52 : decode prog_64_method_5_code 52 = .ok (.iconst (-1), 1) := by decide +kernel
theorem own_d2_53 : decode prog_64_method_5_code 53 = .ok (.ireturn, 1) := by decide +kernel
theorem own_d2_40 : decode prog_64_method_5_code 40 = .ok (.iload_n 2, 1) := by decide +kernel
theorem own_d2_41 : decode prog_64_method_5_code 41 = .ok (.bipush 21, 2) := by decide +kernel
theorem own_d2_43 : decode prog_64_method_5_code 43 = .ok (.if_icmp .gt 9, 3) := by decide +kernel
theorem own_d2_46 : decode prog_64_method_5_code 46 = .ok (.aload_n 0, 1) := by decide +kernel
theorem own_d2_47 : decode prog_64_method_5_code 47 = .ok (.iload_n 1, 1) := by decide +kernel
theorem own_d2_48 : decode prog_64_method_5_code 48 = .ok (.iconst 3, 1) := by decide +kernel
theorem own_d2_49 : decode prog_64_method_5_code 49 = .ok (.iadd, 1) := by decide +kernel
theorem own_d2_50 : decode prog_64_method_5_code 50 = .ok (.iaload, 1) := by decide +kernel
theorem own_d2_51 : decode prog_64_method_5_code 51 = .ok (.ireturn, 1) := by decide +kernel
def own_Q_rmT0 (Z : State) (a1 : Addr) (ka : ClassId) (x0 x1 x2 x3 x4 x5 x6 x7 r : Int32) (h0 : Heap) (n0 : Nat) (v : Option Value) (h : Heap) (L : List Loc) : Prop := v = some (.int r) ∧ Fr n0 L ∧ h = h0
set_option maxRecDepth 65536 in
set_option maxHeartbeats 40000000 in
theorem rmT0 (l : Launch) (Z : State) (a0 : Array Value) (hw : ∀ d ∈ tables_1, d.before a0 Z = true) (ws : List Jvm.Cond) (a1 : Addr) (ka : ClassId) (x0 x1 x2 x3 x4 x5 x6 x7 r : Int32) (h0 : Heap) (n0 : Nat) (O0 : Old Z n0 h0) (Va : Arv Z h0 a1 ka .int (8 : Int32) [(.int x0), (.int x1), (.int x2), (.int x3), (.int x4), (.int x5), (.int x6), (.int x7)] (.int (0 : Int32))) (hr : (if x0 = (27 : Int32) then x1 else if x0 = (28 : Int32) then x2 else if x0 = (29 : Int32) then x2 else if x0 < (12 : Int32) then (-1 : Int32) else if (21 : Int32) < x0 then (-1 : Int32) else x3) = r) :
    MetFree l (⟨"com/example/chalkline/chalkline/runtime/MachineCode", "target", "([II)I"⟩ : MethodName) (head1 (Jvm.Cond.code (⟨"com/example/chalkline/chalkline/runtime/MachineCode", "target", "([II)I"⟩ : MethodName) prog_64_method_5_code 3 (some .int) :: ws) ({ frames := 0, cells := 0, slots := 0, locals := 0 } : Room)) (fun a U => a = #[(.ref a1), (.int (0 : Int32))] ∧ Z.Warmed39 U.vm ∧ U.heap = h0) (fun _ _ _ _ _ => True) (fun _ U o U' => ∃ v L, o = .returned v ∧ own_Q_rmT0 Z a1 ka x0 x1 x2 x3 x4 x5 x6 x7 r h0 n0 v U'.heap L ∧ FrameEnd U o U' L ({ frames := 0, cells := 0, slots := 0, locals := 0 } : Room).cells ({ frames := 0, cells := 0, slots := 0, locals := 0 } : Room).slots) := by
  refine MetFree.of_bodySF (plainFor_of_name own_pn1) hisR ?_
  intro p e s m args below meth c s₁ Bd hml0 hP hK
  obtain ⟨rfl, hZ, hh⟩ := hP
  have hx := Bd.exec
  have hby := Bd.bytes
  have hml : c.maxLocals = 3 := hml0
  have hown : s.vm.findClass "com/example/chalkline/chalkline/runtime/MachineCode" = some m.cls := findClass_of_methodNamed Bd.named
  have hnm := (name_of_methodNamed Bd.named Bd.method).1
  have X0 : Stand p l e ({ frames := 0, cells := 0, slots := 0, locals := 0 } : Room) s m #[(.ref a1), (.int (0 : Int32))] below meth c s₁ [] 0 0 := Stand.of_body Bd
  have e0 : s₁.heap = h0 := by rw [← hh, Bd.state]; rfl
  have N0 := Fr.nil n0
  have Z0 : n0 ≤ h0.size := O0.1 ▸ O0.2.1
  have g0 : ∀ t, Steps p.tables e below (s₁.setTop (mkF m 0 #[.val (.ref a1), .val (.int (0 : Int32)), .unset] [])) t → Steps p.tables e below (s₁.setTop (entryFrame m #[(.ref a1), (.int (0 : Int32))] 3)) t := fun t k => castTop (own_ef2 m (a1) ((0 : Int32))) k
  obtain ⟨c1, Ar1, cq1, S1, Nn1, Hh1, Gg1⟩ := id Va
  have hin1 : ¬ ((0 : Int32) < 0 ∨ c1.slots.size ≤ ((0 : Int32)).toNatClampNeg) := inb_of S1 ⟨by decide, by decide⟩
  have hat1 : c1.slots[((0 : Int32)).toNatClampNeg]? = some (.int x0) := Has.at Hh1 hin1 rfl
  have g3 : ∀ t, Steps p.tables e below (s₁.setTop (mkF m 7 #[.val (.ref a1), .val (.int (0 : Int32)), .val (.int x0)] [(.int (27 : Int32)), (.int x0)])) t → Steps p.tables e below (s₁.setTop (entryFrame m #[(.ref a1), (.int (0 : Int32))] 3)) t := by
    intro t k
    refine g0 t ?_
    show Steps p.tables e below (s₁.setTop (mkF m 0 #[.val (.ref a1), .val (.int (0 : Int32)), .unset] [])) _
    refine XS.aloadN X0.here hx rfl (hb hby own_d2_0) rfl rfl ?_
    show Steps p.tables e below (s₁.setTop (mkF m 1 #[.val (.ref a1), .val (.int (0 : Int32)), .unset] [(.ref a1)])) _
    refine XS.iloadN X0.here hx rfl (hb hby own_d2_1) rfl ?_
    show Steps p.tables e below (s₁.setTop (mkF m 2 #[.val (.ref a1), .val (.int (0 : Int32)), .unset] [(.int (0 : Int32)), (.ref a1)])) _
    refine X0.iaload hx (j := (0 : Int32)) (v := (.int x0)) (by rw [e0]; exact Ar1.1) (State.isArrayOf_alike hZ.alike Ar1.2.1) Ar1.2.2 hin1 hat1 (g := (mkF m 2 #[.val (.ref a1), .val (.int (0 : Int32)), .unset] [(.int (0 : Int32)), (.ref a1)])) rfl rfl (hb hby own_d2_2) _ ?_
    show Steps p.tables e below (s₁.setTop (mkF m 3 #[.val (.ref a1), .val (.int (0 : Int32)), .unset] [(.int x0)])) _
    refine XS.istoreN X0.here hx rfl (hb hby own_d2_3) rfl (l' := #[.val (.ref a1), .val (.int (0 : Int32)), .val (.int x0)]) rfl ?_
    show Steps p.tables e below (s₁.setTop (mkF m 4 #[.val (.ref a1), .val (.int (0 : Int32)), .val (.int x0)] [])) _
    refine XS.iloadN X0.here hx rfl (hb hby own_d2_4) rfl ?_
    show Steps p.tables e below (s₁.setTop (mkF m 5 #[.val (.ref a1), .val (.int (0 : Int32)), .val (.int x0)] [(.int x0)])) _
    refine XS.bipush X0.here hx rfl (hb hby own_d2_5) ?_
    exact k
  by_cases hc2 : x0 = (27 : Int32)
  · obtain ⟨c4, Ar4, cq4, S4, Nn4, Hh4, Gg4⟩ := id Va
    have hin4 : ¬ ((1 : Int32) < 0 ∨ c4.slots.size ≤ ((1 : Int32)).toNatClampNeg) := inb_of S4 ⟨by decide, by decide⟩
    have hat4 : c4.slots[((1 : Int32)).toNatClampNeg]? = some (.int x1) := Has.at Hh4 hin4 rfl
    have g5 : ∀ t, Steps p.tables e below (s₁.setTop (mkF m 15 #[.val (.ref a1), .val (.int (0 : Int32)), .val (.int x0)] [(.int x1)])) t → Steps p.tables e below (s₁.setTop (entryFrame m #[(.ref a1), (.int (0 : Int32))] 3)) t := by
      intro t k
      refine g3 t ?_
      show Steps p.tables e below (s₁.setTop (mkF m 7 #[.val (.ref a1), .val (.int (0 : Int32)), .val (.int x0)] [(.int (27 : Int32)), (.int x0)])) _
      refine XS.icmpNo X0.here hx rfl (hb hby own_d2_7) rfl (teq hc2).2 ?_
      show Steps p.tables e below (s₁.setTop (mkF m 10 #[.val (.ref a1), .val (.int (0 : Int32)), .val (.int x0)] [])) _
      refine XS.aloadN X0.here hx rfl (hb hby own_d2_10) rfl rfl ?_
      show Steps p.tables e below (s₁.setTop (mkF m 11 #[.val (.ref a1), .val (.int (0 : Int32)), .val (.int x0)] [(.ref a1)])) _
      refine XS.iloadN X0.here hx rfl (hb hby own_d2_11) rfl ?_
      show Steps p.tables e below (s₁.setTop (mkF m 12 #[.val (.ref a1), .val (.int (0 : Int32)), .val (.int x0)] [(.int (0 : Int32)), (.ref a1)])) _
      refine XS.iconst X0.here hx rfl (hb hby own_d2_12) ?_
      show Steps p.tables e below (s₁.setTop (mkF m 13 #[.val (.ref a1), .val (.int (0 : Int32)), .val (.int x0)] [(.int (1 : Int32)), (.int (0 : Int32)), (.ref a1)])) _
      refine XS.iadd X0.here hx rfl (hb hby own_d2_13) rfl ?_
      rw [show ((0 : Int32) + (1 : Int32)) = (1 : Int32) from by decide]
      show Steps p.tables e below (s₁.setTop (mkF m 14 #[.val (.ref a1), .val (.int (0 : Int32)), .val (.int x0)] [(.int (1 : Int32)), (.ref a1)])) _
      refine X0.iaload hx (j := (1 : Int32)) (v := (.int x1)) (by rw [e0]; exact Ar4.1) (State.isArrayOf_alike hZ.alike Ar4.2.1) Ar4.2.2 hin4 hat4 (g := (mkF m 14 #[.val (.ref a1), .val (.int (0 : Int32)), .val (.int x0)] [(.int (1 : Int32)), (.ref a1)])) rfl rfl (hb hby own_d2_14) _ ?_
      exact k
    obtain ⟨fs, hrt, hrun, hended, hW, hsame⟩ := X0.leave (v := some (.int x1)) (fun h => by rw [Bd.returns] at h; cases h)
    refine ⟨_, _, g5 _ ?_, hrun, hended, _, _, rfl, ?_, ⟨_, rfl⟩, hW, hsame.mono (by decide) (by decide)⟩
    · show Steps p.tables e below (s₁.setTop (mkF m 15 #[.val (.ref a1), .val (.int (0 : Int32)), .val (.int x0)] [(.int x1)])) _
      exact retI X0 hx Bd.returns (hb hby own_d2_15) hrt
    · show own_Q_rmT0 Z a1 ka x0 x1 x2 x3 x4 x5 x6 x7 r h0 n0 _ s₁.heap _
      rw [e0]
      exact ⟨by rw [← hr, if_pos hc2], N0, rfl⟩
  · have g7 : ∀ t, Steps p.tables e below (s₁.setTop (mkF m 19 #[.val (.ref a1), .val (.int (0 : Int32)), .val (.int x0)] [(.int (28 : Int32)), (.int x0)])) t → Steps p.tables e below (s₁.setTop (entryFrame m #[(.ref a1), (.int (0 : Int32))] 3)) t := by
      intro t k
      refine g3 t ?_
      show Steps p.tables e below (s₁.setTop (mkF m 7 #[.val (.ref a1), .val (.int (0 : Int32)), .val (.int x0)] [(.int (27 : Int32)), (.int x0)])) _
      refine XS.icmpYes X0.here hx rfl (pc0 := 7) (pc' := 16) rfl (hb hby own_d2_7) rfl (feq hc2).2 (by decide) (by decide) ?_
      show Steps p.tables e below (s₁.setTop (mkF m 16 #[.val (.ref a1), .val (.int (0 : Int32)), .val (.int x0)] [])) _
      refine XS.iloadN X0.here hx rfl (hb hby own_d2_16) rfl ?_
      show Steps p.tables e below (s₁.setTop (mkF m 17 #[.val (.ref a1), .val (.int (0 : Int32)), .val (.int x0)] [(.int x0)])) _
      refine XS.bipush X0.here hx rfl (hb hby own_d2_17) ?_
      exact k
    by_cases hc6 : x0 = (28 : Int32)
    · obtain ⟨c8, Ar8, cq8, S8, Nn8, Hh8, Gg8⟩ := id Va
      have hin8 : ¬ ((2 : Int32) < 0 ∨ c8.slots.size ≤ ((2 : Int32)).toNatClampNeg) := inb_of S8 ⟨by decide, by decide⟩
      have hat8 : c8.slots[((2 : Int32)).toNatClampNeg]? = some (.int x2) := Has.at Hh8 hin8 rfl
      have g9 : ∀ t, Steps p.tables e below (s₁.setTop (mkF m 33 #[.val (.ref a1), .val (.int (0 : Int32)), .val (.int x0)] [(.int x2)])) t → Steps p.tables e below (s₁.setTop (entryFrame m #[(.ref a1), (.int (0 : Int32))] 3)) t := by
        intro t k
        refine g7 t ?_
        show Steps p.tables e below (s₁.setTop (mkF m 19 #[.val (.ref a1), .val (.int (0 : Int32)), .val (.int x0)] [(.int (28 : Int32)), (.int x0)])) _
        refine XS.icmpYes X0.here hx rfl (pc0 := 19) (pc' := 28) rfl (hb hby own_d2_19) rfl (teq hc6).1 (by decide) (by decide) ?_
        show Steps p.tables e below (s₁.setTop (mkF m 28 #[.val (.ref a1), .val (.int (0 : Int32)), .val (.int x0)] [])) _
        refine XS.aloadN X0.here hx rfl (hb hby own_d2_28) rfl rfl ?_
        show Steps p.tables e below (s₁.setTop (mkF m 29 #[.val (.ref a1), .val (.int (0 : Int32)), .val (.int x0)] [(.ref a1)])) _
        refine XS.iloadN X0.here hx rfl (hb hby own_d2_29) rfl ?_
        show Steps p.tables e below (s₁.setTop (mkF m 30 #[.val (.ref a1), .val (.int (0 : Int32)), .val (.int x0)] [(.int (0 : Int32)), (.ref a1)])) _
        refine XS.iconst X0.here hx rfl (hb hby own_d2_30) ?_
        show Steps p.tables e below (s₁.setTop (mkF m 31 #[.val (.ref a1), .val (.int (0 : Int32)), .val (.int x0)] [(.int (2 : Int32)), (.int (0 : Int32)), (.ref a1)])) _
        refine XS.iadd X0.here hx rfl (hb hby own_d2_31) rfl ?_
        rw [show ((0 : Int32) + (2 : Int32)) = (2 : Int32) from by decide]
        show Steps p.tables e below (s₁.setTop (mkF m 32 #[.val (.ref a1), .val (.int (0 : Int32)), .val (.int x0)] [(.int (2 : Int32)), (.ref a1)])) _
        refine X0.iaload hx (j := (2 : Int32)) (v := (.int x2)) (by rw [e0]; exact Ar8.1) (State.isArrayOf_alike hZ.alike Ar8.2.1) Ar8.2.2 hin8 hat8 (g := (mkF m 32 #[.val (.ref a1), .val (.int (0 : Int32)), .val (.int x0)] [(.int (2 : Int32)), (.ref a1)])) rfl rfl (hb hby own_d2_32) _ ?_
        exact k
      obtain ⟨fs, hrt, hrun, hended, hW, hsame⟩ := X0.leave (v := some (.int x2)) (fun h => by rw [Bd.returns] at h; cases h)
      refine ⟨_, _, g9 _ ?_, hrun, hended, _, _, rfl, ?_, ⟨_, rfl⟩, hW, hsame.mono (by decide) (by decide)⟩
      · show Steps p.tables e below (s₁.setTop (mkF m 33 #[.val (.ref a1), .val (.int (0 : Int32)), .val (.int x0)] [(.int x2)])) _
        exact retI X0 hx Bd.returns (hb hby own_d2_33) hrt
      · show own_Q_rmT0 Z a1 ka x0 x1 x2 x3 x4 x5 x6 x7 r h0 n0 _ s₁.heap _
        rw [e0]
        exact ⟨by rw [← hr, if_neg hc2, if_pos hc6], N0, rfl⟩
    · have g11 : ∀ t, Steps p.tables e below (s₁.setTop (mkF m 25 #[.val (.ref a1), .val (.int (0 : Int32)), .val (.int x0)] [(.int (29 : Int32)), (.int x0)])) t → Steps p.tables e below (s₁.setTop (entryFrame m #[(.ref a1), (.int (0 : Int32))] 3)) t := by
        intro t k
        refine g7 t ?_
        show Steps p.tables e below (s₁.setTop (mkF m 19 #[.val (.ref a1), .val (.int (0 : Int32)), .val (.int x0)] [(.int (28 : Int32)), (.int x0)])) _
        refine XS.icmpNo X0.here hx rfl (hb hby own_d2_19) rfl (feq hc6).1 ?_
        show Steps p.tables e below (s₁.setTop (mkF m 22 #[.val (.ref a1), .val (.int (0 : Int32)), .val (.int x0)] [])) _
        refine XS.iloadN X0.here hx rfl (hb hby own_d2_22) rfl ?_
        show Steps p.tables e below (s₁.setTop (mkF m 23 #[.val (.ref a1), .val (.int (0 : Int32)), .val (.int x0)] [(.int x0)])) _
        refine XS.bipush X0.here hx rfl (hb hby own_d2_23) ?_
        exact k
      by_cases hc10 : x0 = (29 : Int32)
      · obtain ⟨c12, Ar12, cq12, S12, Nn12, Hh12, Gg12⟩ := id Va
        have hin12 : ¬ ((2 : Int32) < 0 ∨ c12.slots.size ≤ ((2 : Int32)).toNatClampNeg) := inb_of S12 ⟨by decide, by decide⟩
        have hat12 : c12.slots[((2 : Int32)).toNatClampNeg]? = some (.int x2) := Has.at Hh12 hin12 rfl
        have g13 : ∀ t, Steps p.tables e below (s₁.setTop (mkF m 33 #[.val (.ref a1), .val (.int (0 : Int32)), .val (.int x0)] [(.int x2)])) t → Steps p.tables e below (s₁.setTop (entryFrame m #[(.ref a1), (.int (0 : Int32))] 3)) t := by
          intro t k
          refine g11 t ?_
          show Steps p.tables e below (s₁.setTop (mkF m 25 #[.val (.ref a1), .val (.int (0 : Int32)), .val (.int x0)] [(.int (29 : Int32)), (.int x0)])) _
          refine XS.icmpNo X0.here hx rfl (hb hby own_d2_25) rfl (teq hc10).2 ?_
          show Steps p.tables e below (s₁.setTop (mkF m 28 #[.val (.ref a1), .val (.int (0 : Int32)), .val (.int x0)] [])) _
          refine XS.aloadN X0.here hx rfl (hb hby own_d2_28) rfl rfl ?_
          show Steps p.tables e below (s₁.setTop (mkF m 29 #[.val (.ref a1), .val (.int (0 : Int32)), .val (.int x0)] [(.ref a1)])) _
          refine XS.iloadN X0.here hx rfl (hb hby own_d2_29) rfl ?_
          show Steps p.tables e below (s₁.setTop (mkF m 30 #[.val (.ref a1), .val (.int (0 : Int32)), .val (.int x0)] [(.int (0 : Int32)), (.ref a1)])) _
          refine XS.iconst X0.here hx rfl (hb hby own_d2_30) ?_
          show Steps p.tables e below (s₁.setTop (mkF m 31 #[.val (.ref a1), .val (.int (0 : Int32)), .val (.int x0)] [(.int (2 : Int32)), (.int (0 : Int32)), (.ref a1)])) _
          refine XS.iadd X0.here hx rfl (hb hby own_d2_31) rfl ?_
          rw [show ((0 : Int32) + (2 : Int32)) = (2 : Int32) from by decide]
          show Steps p.tables e below (s₁.setTop (mkF m 32 #[.val (.ref a1), .val (.int (0 : Int32)), .val (.int x0)] [(.int (2 : Int32)), (.ref a1)])) _
          refine X0.iaload hx (j := (2 : Int32)) (v := (.int x2)) (by rw [e0]; exact Ar12.1) (State.isArrayOf_alike hZ.alike Ar12.2.1) Ar12.2.2 hin12 hat12 (g := (mkF m 32 #[.val (.ref a1), .val (.int (0 : Int32)), .val (.int x0)] [(.int (2 : Int32)), (.ref a1)])) rfl rfl (hb hby own_d2_32) _ ?_
          exact k
        obtain ⟨fs, hrt, hrun, hended, hW, hsame⟩ := X0.leave (v := some (.int x2)) (fun h => by rw [Bd.returns] at h; cases h)
        refine ⟨_, _, g13 _ ?_, hrun, hended, _, _, rfl, ?_, ⟨_, rfl⟩, hW, hsame.mono (by decide) (by decide)⟩
        · show Steps p.tables e below (s₁.setTop (mkF m 33 #[.val (.ref a1), .val (.int (0 : Int32)), .val (.int x0)] [(.int x2)])) _
          exact retI X0 hx Bd.returns (hb hby own_d2_33) hrt
        · show own_Q_rmT0 Z a1 ka x0 x1 x2 x3 x4 x5 x6 x7 r h0 n0 _ s₁.heap _
          rw [e0]
          exact ⟨by rw [← hr, if_neg hc2, if_neg hc6, if_pos hc10], N0, rfl⟩
      · have g15 : ∀ t, Steps p.tables e below (s₁.setTop (mkF m 37 #[.val (.ref a1), .val (.int (0 : Int32)), .val (.int x0)] [(.int (12 : Int32)), (.int x0)])) t → Steps p.tables e below (s₁.setTop (entryFrame m #[(.ref a1), (.int (0 : Int32))] 3)) t := by
          intro t k
          refine g11 t ?_
          show Steps p.tables e below (s₁.setTop (mkF m 25 #[.val (.ref a1), .val (.int (0 : Int32)), .val (.int x0)] [(.int (29 : Int32)), (.int x0)])) _
          refine XS.icmpYes X0.here hx rfl (pc0 := 25) (pc' := 34) rfl (hb hby own_d2_25) rfl (feq hc10).2 (by decide) (by decide) ?_
          show Steps p.tables e below (s₁.setTop (mkF m 34 #[.val (.ref a1), .val (.int (0 : Int32)), .val (.int x0)] [])) _
          refine XS.iloadN X0.here hx rfl (hb hby own_d2_34) rfl ?_
          show Steps p.tables e below (s₁.setTop (mkF m 35 #[.val (.ref a1), .val (.int (0 : Int32)), .val (.int x0)] [(.int x0)])) _
          refine XS.bipush X0.here hx rfl (hb hby own_d2_35) ?_
          exact k
        by_cases hc14 : x0 < (12 : Int32)
        · have g16 : ∀ t, Steps p.tables e below (s₁.setTop (mkF m 53 #[.val (.ref a1), .val (.int (0 : Int32)), .val (.int x0)] [(.int (-1 : Int32))])) t → Steps p.tables e below (s₁.setTop (entryFrame m #[(.ref a1), (.int (0 : Int32))] 3)) t := by
            intro t k
            refine g15 t ?_
            show Steps p.tables e below (s₁.setTop (mkF m 37 #[.val (.ref a1), .val (.int (0 : Int32)), .val (.int x0)] [(.int (12 : Int32)), (.int x0)])) _
            refine XS.icmpYes X0.here hx rfl (pc0 := 37) (pc' := 52) rfl (hb hby own_d2_37) rfl (tlt hc14).1 (by decide) (by decide) ?_
            show Steps p.tables e below (s₁.setTop (mkF m 52 #[.val (.ref a1), .val (.int (0 : Int32)), .val (.int x0)] [])) _
            refine XS.iconst X0.here hx rfl (hb hby own_d2_52) ?_
            exact k
          obtain ⟨fs, hrt, hrun, hended, hW, hsame⟩ := X0.leave (v := some (.int (-1 : Int32))) (fun h => by rw [Bd.returns] at h; cases h)
          refine ⟨_, _, g16 _ ?_, hrun, hended, _, _, rfl, ?_, ⟨_, rfl⟩, hW, hsame.mono (by decide) (by decide)⟩
          · show Steps p.tables e below (s₁.setTop (mkF m 53 #[.val (.ref a1), .val (.int (0 : Int32)), .val (.int x0)] [(.int (-1 : Int32))])) _
            exact retI X0 hx Bd.returns (hb hby own_d2_53) hrt
          · show own_Q_rmT0 Z a1 ka x0 x1 x2 x3 x4 x5 x6 x7 r h0 n0 _ s₁.heap _
            rw [e0]
            exact ⟨by rw [← hr, if_neg hc2, if_neg hc6, if_neg hc10, if_pos hc14], N0, rfl⟩
        · have g18 : ∀ t, Steps p.tables e below (s₁.setTop (mkF m 43 #[.val (.ref a1), .val (.int (0 : Int32)), .val (.int x0)] [(.int (21 : Int32)), (.int x0)])) t → Steps p.tables e below (s₁.setTop (entryFrame m #[(.ref a1), (.int (0 : Int32))] 3)) t := by
            intro t k
            refine g15 t ?_
            show Steps p.tables e below (s₁.setTop (mkF m 37 #[.val (.ref a1), .val (.int (0 : Int32)), .val (.int x0)] [(.int (12 : Int32)), (.int x0)])) _
            refine XS.icmpNo X0.here hx rfl (hb hby own_d2_37) rfl (flt hc14).1 ?_
            show Steps p.tables e below (s₁.setTop (mkF m 40 #[.val (.ref a1), .val (.int (0 : Int32)), .val (.int x0)] [])) _
            refine XS.iloadN X0.here hx rfl (hb hby own_d2_40) rfl ?_
            show Steps p.tables e below (s₁.setTop (mkF m 41 #[.val (.ref a1), .val (.int (0 : Int32)), .val (.int x0)] [(.int x0)])) _
            refine XS.bipush X0.here hx rfl (hb hby own_d2_41) ?_
            exact k
          by_cases hc17 : (21 : Int32) < x0
          · have g19 : ∀ t, Steps p.tables e below (s₁.setTop (mkF m 53 #[.val (.ref a1), .val (.int (0 : Int32)), .val (.int x0)] [(.int (-1 : Int32))])) t → Steps p.tables e below (s₁.setTop (entryFrame m #[(.ref a1), (.int (0 : Int32))] 3)) t := by
              intro t k
              refine g18 t ?_
              show Steps p.tables e below (s₁.setTop (mkF m 43 #[.val (.ref a1), .val (.int (0 : Int32)), .val (.int x0)] [(.int (21 : Int32)), (.int x0)])) _
              refine XS.icmpYes X0.here hx rfl (pc0 := 43) (pc' := 52) rfl (hb hby own_d2_43) rfl (tlt hc17).2.2.1 (by decide) (by decide) ?_
              show Steps p.tables e below (s₁.setTop (mkF m 52 #[.val (.ref a1), .val (.int (0 : Int32)), .val (.int x0)] [])) _
              refine XS.iconst X0.here hx rfl (hb hby own_d2_52) ?_
              exact k
            obtain ⟨fs, hrt, hrun, hended, hW, hsame⟩ := X0.leave (v := some (.int (-1 : Int32))) (fun h => by rw [Bd.returns] at h; cases h)
            refine ⟨_, _, g19 _ ?_, hrun, hended, _, _, rfl, ?_, ⟨_, rfl⟩, hW, hsame.mono (by decide) (by decide)⟩
            · show Steps p.tables e below (s₁.setTop (mkF m 53 #[.val (.ref a1), .val (.int (0 : Int32)), .val (.int x0)] [(.int (-1 : Int32))])) _
              exact retI X0 hx Bd.returns (hb hby own_d2_53) hrt
            · show own_Q_rmT0 Z a1 ka x0 x1 x2 x3 x4 x5 x6 x7 r h0 n0 _ s₁.heap _
              rw [e0]
              exact ⟨by rw [← hr, if_neg hc2, if_neg hc6, if_neg hc10, if_neg hc14, if_pos hc17], N0, rfl⟩
          · obtain ⟨c20, Ar20, cq20, S20, Nn20, Hh20, Gg20⟩ := id Va
            have hin20 : ¬ ((3 : Int32) < 0 ∨ c20.slots.size ≤ ((3 : Int32)).toNatClampNeg) := inb_of S20 ⟨by decide, by decide⟩
            have hat20 : c20.slots[((3 : Int32)).toNatClampNeg]? = some (.int x3) := Has.at Hh20 hin20 rfl
            have g21 : ∀ t, Steps p.tables e below (s₁.setTop (mkF m 51 #[.val (.ref a1), .val (.int (0 : Int32)), .val (.int x0)] [(.int x3)])) t → Steps p.tables e below (s₁.setTop (entryFrame m #[(.ref a1), (.int (0 : Int32))] 3)) t := by
              intro t k
              refine g18 t ?_
              show Steps p.tables e below (s₁.setTop (mkF m 43 #[.val (.ref a1), .val (.int (0 : Int32)), .val (.int x0)] [(.int (21 : Int32)), (.int x0)])) _
              refine XS.icmpNo X0.here hx rfl (hb hby own_d2_43) rfl (flt hc17).2.2.1 ?_
              show Steps p.tables e below (s₁.setTop (mkF m 46 #[.val (.ref a1), .val (.int (0 : Int32)), .val (.int x0)] [])) _
              refine XS.aloadN X0.here hx rfl (hb hby own_d2_46) rfl rfl ?_
              show Steps p.tables e below (s₁.setTop (mkF m 47 #[.val (.ref a1), .val (.int (0 : Int32)), .val (.int x0)] [(.ref a1)])) _
              refine XS.iloadN X0.here hx rfl (hb hby own_d2_47) rfl ?_
              show Steps p.tables e below (s₁.setTop (mkF m 48 #[.val (.ref a1), .val (.int (0 : Int32)), .val (.int x0)] [(.int (0 : Int32)), (.ref a1)])) _
              refine XS.iconst X0.here hx rfl (hb hby own_d2_48) ?_
              show Steps p.tables e below (s₁.setTop (mkF m 49 #[.val (.ref a1), .val (.int (0 : Int32)), .val (.int x0)] [(.int (3 : Int32)), (.int (0 : Int32)), (.ref a1)])) _
              refine XS.iadd X0.here hx rfl (hb hby own_d2_49) rfl ?_
              rw [show ((0 : Int32) + (3 : Int32)) = (3 : Int32) from by decide]
              show Steps p.tables e below (s₁.setTop (mkF m 50 #[.val (.ref a1), .val (.int (0 : Int32)), .val (.int x0)] [(.int (3 : Int32)), (.ref a1)])) _
              refine X0.iaload hx (j := (3 : Int32)) (v := (.int x3)) (by rw [e0]; exact Ar20.1) (State.isArrayOf_alike hZ.alike Ar20.2.1) Ar20.2.2 hin20 hat20 (g := (mkF m 50 #[.val (.ref a1), .val (.int (0 : Int32)), .val (.int x0)] [(.int (3 : Int32)), (.ref a1)])) rfl rfl (hb hby own_d2_50) _ ?_
              exact k
            obtain ⟨fs, hrt, hrun, hended, hW, hsame⟩ := X0.leave (v := some (.int x3)) (fun h => by rw [Bd.returns] at h; cases h)
            refine ⟨_, _, g21 _ ?_, hrun, hended, _, _, rfl, ?_, ⟨_, rfl⟩, hW, hsame.mono (by decide) (by decide)⟩
            · show Steps p.tables e below (s₁.setTop (mkF m 51 #[.val (.ref a1), .val (.int (0 : Int32)), .val (.int x0)] [(.int x3)])) _
              exact retI X0 hx Bd.returns (hb hby own_d2_51) hrt
            · show own_Q_rmT0 Z a1 ka x0 x1 x2 x3 x4 x5 x6 x7 r h0 n0 _ s₁.heap _
              rw [e0]
              exact ⟨by rw [← hr, if_neg hc2, if_neg hc6, if_neg hc10, if_neg hc14, if_neg hc17], N0, rfl⟩
theorem own_ef3 (m : MethodId) (x0 : Addr) (x1 : Int32) : entryFrame m #[(.ref x0), (.int x1)] 3 = mkF m 0 #[.val (.ref x0), .val (.int x1), .unset] [] := by first | (simp [entryFrame, mkF, argsToLocals, Value.category]; done) | rfl
def own_Q_rmT4 (Z : State) (a1 : Addr) (ka : ClassId) (x0 x1 x2 x3 x4 x5 x6 x7 r : Int32) (h0 : Heap) (n0 : Nat) (v : Option Value) (h : Heap) (L : List Loc) : Prop := v = some (.int r) ∧ Fr n0 L ∧ h = h0
set_option maxRecDepth 65536 in
set_option maxHeartbeats 40000000 in
theorem rmT4 (l : Launch) (Z : State) (a0 : Array Value) (hw : ∀ d ∈ tables_1, d.before a0 Z = true) (ws : List Jvm.Cond) (a1 : Addr) (ka : ClassId) (x0 x1 x2 x3 x4 x5 x6 x7 r : Int32) (h0 : Heap) (n0 : Nat) (O0 : Old Z n0 h0) (Va : Arv Z h0 a1 ka .int (8 : Int32) [(.int x0), (.int x1), (.int x2), (.int x3), (.int x4), (.int x5), (.int x6), (.int x7)] (.int (0 : Int32))) (hr : (if x4 = (27 : Int32) then x5 else if x4 = (28 : Int32) then x6 else if x4 = (29 : Int32) then x6 else if x4 < (12 : Int32) then (-1 : Int32) else if (21 : Int32) < x4 then (-1 : Int32) else x7) = r) :
    MetFree l (⟨"com/example/chalkline/chalkline/runtime/MachineCode", "target", "([II)I"⟩ : MethodName) (head1 (Jvm.Cond.code (⟨"com/example/chalkline/chalkline/runtime/MachineCode", "target", "([II)I"⟩ : MethodName) prog_64_method_5_code 3 (some .int) :: ws) ({ frames := 0, cells := 0, slots := 0, locals := 0 } : Room)) (fun a U => a = #[(.ref a1), (.int (4 : Int32))] ∧ Z.Warmed39 U.vm ∧ U.heap = h0) (fun _ _ _ _ _ => True) (fun _ U o U' => ∃ v L, o = .returned v ∧ own_Q_rmT4 Z a1 ka x0 x1 x2 x3 x4 x5 x6 x7 r h0 n0 v U'.heap L ∧ FrameEnd U o U' L ({ frames := 0, cells := 0, slots := 0, locals := 0 } : Room).cells ({ frames := 0, cells := 0, slots := 0, locals := 0 } : Room).slots) := by
  refine MetFree.of_bodySF (plainFor_of_name own_pn1) hisR ?_
  intro p e s m args below meth c s₁ Bd hml0 hP hK
  obtain ⟨rfl, hZ, hh⟩ := hP
  have hx := Bd.exec
  have hby := Bd.bytes
  have hml : c.maxLocals = 3 := hml0
  have hown : s.vm.findClass "com/example/chalkline/chalkline/runtime/MachineCode" = some m.cls := findClass_of_methodNamed Bd.named
  have hnm := (name_of_methodNamed Bd.named Bd.method).1
  have X0 : Stand p l e ({ frames := 0, cells := 0, slots := 0, locals := 0 } : Room) s m #[(.ref a1), (.int (4 : Int32))] below meth c s₁ [] 0 0 := Stand.of_body Bd
  have e0 : s₁.heap = h0 := by rw [← hh, Bd.state]; rfl
  have N0 := Fr.nil n0
  have Z0 : n0 ≤ h0.size := O0.1 ▸ O0.2.1
  have g0 : ∀ t, Steps p.tables e below (s₁.setTop (mkF m 0 #[.val (.ref a1), .val (.int (4 : Int32)), .unset] [])) t → Steps p.tables e below (s₁.setTop (entryFrame m #[(.ref a1), (.int (4 : Int32))] 3)) t := fun t k => castTop (own_ef3 m (a1) ((4 : Int32))) k
  obtain ⟨c1, Ar1, cq1, S1, Nn1, Hh1, Gg1⟩ := id Va
  have hin1 : ¬ ((4 : Int32) < 0 ∨ c1.slots.size ≤ ((4 : Int32)).toNatClampNeg) := inb_of S1 ⟨by decide, by decide⟩
  have hat1 : c1.slots[((4 : Int32)).toNatClampNeg]? = some (.int x4) := Has.at Hh1 hin1 rfl
  have g3 : ∀ t, Steps p.tables e below (s₁.setTop (mkF m 7 #[.val (.ref a1), .val (.int (4 : Int32)), .val (.int x4)] [(.int (27 : Int32)), (.int x4)])) t → Steps p.tables e below (s₁.setTop (entryFrame m #[(.ref a1), (.int (4 : Int32))] 3)) t := by
    intro t k
    refine g0 t ?_
    show Steps p.tables e below (s₁.setTop (mkF m 0 #[.val (.ref a1), .val (.int (4 : Int32)), .unset] [])) _
    refine XS.aloadN X0.here hx rfl (hb hby own_d2_0) rfl rfl ?_
    show Steps p.tables e below (s₁.setTop (mkF m 1 #[.val (.ref a1), .val (.int (4 : Int32)), .unset] [(.ref a1)])) _
    refine XS.iloadN X0.here hx rfl (hb hby own_d2_1) rfl ?_
    show Steps p.tables e below (s₁.setTop (mkF m 2 #[.val (.ref a1), .val (.int (4 : Int32)), .unset] [(.int (4 : Int32)), (.ref a1)])) _
    refine X0.iaload hx (j := (4 : Int32)) (v := (.int x4)) (by rw [e0]; exact Ar1.1) (State.isArrayOf_alike hZ.alike Ar1.2.1) Ar1.2.2 hin1 hat1 (g := (mkF m 2 #[.val (.ref a1), .val (.int (4 : Int32)), .unset] [(.int (4 : Int32)), (.ref a1)])) rfl rfl (hb hby own_d2_2) _ ?_
    show Steps p.tables e below (s₁.setTop (mkF m 3 #[.val (.ref a1), .val (.int (4 : Int32)), .unset] [(.int x4)])) _
    refine XS.istoreN X0.here hx rfl (hb hby own_d2_3) rfl (l' := #[.val (.ref a1), .val (.int (4 : Int32)), .val (.int x4)]) rfl ?_
    show Steps p.tables e below (s₁.setTop (mkF m 4 #[.val (.ref a1), .val (.int (4 : Int32)), .val (.int x4)] [])) _
    refine XS.iloadN X0.here hx rfl (hb hby own_d2_4) rfl ?_
    show Steps p.tables e below (s₁.setTop (mkF m 5 #[.val (.ref a1), .val (.int (4 : Int32)), .val (.int x4)] [(.int x4)])) _
    refine XS.bipush X0.here hx rfl (hb hby own_d2_5) ?_
    exact k
  by_cases hc2 : x4 = (27 : Int32)
  · obtain ⟨c4, Ar4, cq4, S4, Nn4, Hh4, Gg4⟩ := id Va
    have hin4 : ¬ ((5 : Int32) < 0 ∨ c4.slots.size ≤ ((5 : Int32)).toNatClampNeg) := inb_of S4 ⟨by decide, by decide⟩
    have hat4 : c4.slots[((5 : Int32)).toNatClampNeg]? = some (.int x5) := Has.at Hh4 hin4 rfl
    have g5 : ∀ t, Steps p.tables e below (s₁.setTop (mkF m 15 #[.val (.ref a1), .val (.int (4 : Int32)), .val (.int x4)] [(.int x5)])) t → Steps p.tables e below (s₁.setTop (entryFrame m #[(.ref a1), (.int (4 : Int32))] 3)) t := by
      intro t k
      refine g3 t ?_
      show Steps p.tables e below (s₁.setTop (mkF m 7 #[.val (.ref a1), .val (.int (4 : Int32)), .val (.int x4)] [(.int (27 : Int32)), (.int x4)])) _
      refine XS.icmpNo X0.here hx rfl (hb hby own_d2_7) rfl (teq hc2).2 ?_
      show Steps p.tables e below (s₁.setTop (mkF m 10 #[.val (.ref a1), .val (.int (4 : Int32)), .val (.int x4)] [])) _
      refine XS.aloadN X0.here hx rfl (hb hby own_d2_10) rfl rfl ?_
      show Steps p.tables e below (s₁.setTop (mkF m 11 #[.val (.ref a1), .val (.int (4 : Int32)), .val (.int x4)] [(.ref a1)])) _
      refine XS.iloadN X0.here hx rfl (hb hby own_d2_11) rfl ?_
      show Steps p.tables e below (s₁.setTop (mkF m 12 #[.val (.ref a1), .val (.int (4 : Int32)), .val (.int x4)] [(.int (4 : Int32)), (.ref a1)])) _
      refine XS.iconst X0.here hx rfl (hb hby own_d2_12) ?_
      show Steps p.tables e below (s₁.setTop (mkF m 13 #[.val (.ref a1), .val (.int (4 : Int32)), .val (.int x4)] [(.int (1 : Int32)), (.int (4 : Int32)), (.ref a1)])) _
      refine XS.iadd X0.here hx rfl (hb hby own_d2_13) rfl ?_
      rw [show ((4 : Int32) + (1 : Int32)) = (5 : Int32) from by decide]
      show Steps p.tables e below (s₁.setTop (mkF m 14 #[.val (.ref a1), .val (.int (4 : Int32)), .val (.int x4)] [(.int (5 : Int32)), (.ref a1)])) _
      refine X0.iaload hx (j := (5 : Int32)) (v := (.int x5)) (by rw [e0]; exact Ar4.1) (State.isArrayOf_alike hZ.alike Ar4.2.1) Ar4.2.2 hin4 hat4 (g := (mkF m 14 #[.val (.ref a1), .val (.int (4 : Int32)), .val (.int x4)] [(.int (5 : Int32)), (.ref a1)])) rfl rfl (hb hby own_d2_14) _ ?_
      exact k
    obtain ⟨fs, hrt, hrun, hended, hW, hsame⟩ := X0.leave (v := some (.int x5)) (fun h => by rw [Bd.returns] at h; cases h)
    refine ⟨_, _, g5 _ ?_, hrun, hended, _, _, rfl, ?_, ⟨_, rfl⟩, hW, hsame.mono (by decide) (by decide)⟩
    · show Steps p.tables e below (s₁.setTop (mkF m 15 #[.val (.ref a1), .val (.int (4 : Int32)), .val (.int x4)] [(.int x5)])) _
      exact retI X0 hx Bd.returns (hb hby own_d2_15) hrt
    · show own_Q_rmT4 Z a1 ka x0 x1 x2 x3 x4 x5 x6 x7 r h0 n0 _ s₁.heap _
      rw [e0]
      exact ⟨by rw [← hr, if_pos hc2], N0, rfl⟩
  · have g7 : ∀ t, Steps p.tables e below (s₁.setTop (mkF m 19 #[.val (.ref a1), .val (.int (4 : Int32)), .val (.int x4)] [(.int (28 : Int32)), (.int x4)])) t → Steps p.tables e below (s₁.setTop (entryFrame m #[(.ref a1), (.int (4 : Int32))] 3)) t := by
      intro t k
      refine g3 t ?_
      show Steps p.tables e below (s₁.setTop (mkF m 7 #[.val (.ref a1), .val (.int (4 : Int32)), .val (.int x4)] [(.int (27 : Int32)), (.int x4)])) _
      refine XS.icmpYes X0.here hx rfl (pc0 := 7) (pc' := 16) rfl (hb hby own_d2_7) rfl (feq hc2).2 (by decide) (by decide) ?_
      show Steps p.tables e below (s₁.setTop (mkF m 16 #[.val (.ref a1), .val (.int (4 : Int32)), .val (.int x4)] [])) _
      refine XS.iloadN X0.here hx rfl (hb hby own_d2_16) rfl ?_
      show Steps p.tables e below (s₁.setTop (mkF m 17 #[.val (.ref a1), .val (.int (4 : Int32)), .val (.int x4)] [(.int x4)])) _
      refine XS.bipush X0.here hx rfl (hb hby own_d2_17) ?_
      exact k
    by_cases hc6 : x4 = (28 : Int32)
    · obtain ⟨c8, Ar8, cq8, S8, Nn8, Hh8, Gg8⟩ := id Va
      have hin8 : ¬ ((6 : Int32) < 0 ∨ c8.slots.size ≤ ((6 : Int32)).toNatClampNeg) := inb_of S8 ⟨by decide, by decide⟩
      have hat8 : c8.slots[((6 : Int32)).toNatClampNeg]? = some (.int x6) := Has.at Hh8 hin8 rfl
      have g9 : ∀ t, Steps p.tables e below (s₁.setTop (mkF m 33 #[.val (.ref a1), .val (.int (4 : Int32)), .val (.int x4)] [(.int x6)])) t → Steps p.tables e below (s₁.setTop (entryFrame m #[(.ref a1), (.int (4 : Int32))] 3)) t := by
        intro t k
        refine g7 t ?_
        show Steps p.tables e below (s₁.setTop (mkF m 19 #[.val (.ref a1), .val (.int (4 : Int32)), .val (.int x4)] [(.int (28 : Int32)), (.int x4)])) _
        refine XS.icmpYes X0.here hx rfl (pc0 := 19) (pc' := 28) rfl (hb hby own_d2_19) rfl (teq hc6).1 (by decide) (by decide) ?_
        show Steps p.tables e below (s₁.setTop (mkF m 28 #[.val (.ref a1), .val (.int (4 : Int32)), .val (.int x4)] [])) _
        refine XS.aloadN X0.here hx rfl (hb hby own_d2_28) rfl rfl ?_
        show Steps p.tables e below (s₁.setTop (mkF m 29 #[.val (.ref a1), .val (.int (4 : Int32)), .val (.int x4)] [(.ref a1)])) _
        refine XS.iloadN X0.here hx rfl (hb hby own_d2_29) rfl ?_
        show Steps p.tables e below (s₁.setTop (mkF m 30 #[.val (.ref a1), .val (.int (4 : Int32)), .val (.int x4)] [(.int (4 : Int32)), (.ref a1)])) _
        refine XS.iconst X0.here hx rfl (hb hby own_d2_30) ?_
        show Steps p.tables e below (s₁.setTop (mkF m 31 #[.val (.ref a1), .val (.int (4 : Int32)), .val (.int x4)] [(.int (2 : Int32)), (.int (4 : Int32)), (.ref a1)])) _
        refine XS.iadd X0.here hx rfl (hb hby own_d2_31) rfl ?_
        rw [show ((4 : Int32) + (2 : Int32)) = (6 : Int32) from by decide]
        show Steps p.tables e below (s₁.setTop (mkF m 32 #[.val (.ref a1), .val (.int (4 : Int32)), .val (.int x4)] [(.int (6 : Int32)), (.ref a1)])) _
        refine X0.iaload hx (j := (6 : Int32)) (v := (.int x6)) (by rw [e0]; exact Ar8.1) (State.isArrayOf_alike hZ.alike Ar8.2.1) Ar8.2.2 hin8 hat8 (g := (mkF m 32 #[.val (.ref a1), .val (.int (4 : Int32)), .val (.int x4)] [(.int (6 : Int32)), (.ref a1)])) rfl rfl (hb hby own_d2_32) _ ?_
        exact k
      obtain ⟨fs, hrt, hrun, hended, hW, hsame⟩ := X0.leave (v := some (.int x6)) (fun h => by rw [Bd.returns] at h; cases h)
      refine ⟨_, _, g9 _ ?_, hrun, hended, _, _, rfl, ?_, ⟨_, rfl⟩, hW, hsame.mono (by decide) (by decide)⟩
      · show Steps p.tables e below (s₁.setTop (mkF m 33 #[.val (.ref a1), .val (.int (4 : Int32)), .val (.int x4)] [(.int x6)])) _
        exact retI X0 hx Bd.returns (hb hby own_d2_33) hrt
      · show own_Q_rmT4 Z a1 ka x0 x1 x2 x3 x4 x5 x6 x7 r h0 n0 _ s₁.heap _
        rw [e0]
        exact ⟨by rw [← hr, if_neg hc2, if_pos hc6], N0, rfl⟩
    · have g11 : ∀ t, Steps p.tables e below (s₁.setTop (mkF m 25 #[.val (.ref a1), .val (.int (4 : Int32)), .val (.int x4)] [(.int (29 : Int32)), (.int x4)])) t → Steps p.tables e below (s₁.setTop (entryFrame m #[(.ref a1), (.int (4 : Int32))] 3)) t := by
        intro t k
        refine g7 t ?_
        show Steps p.tables e below (s₁.setTop (mkF m 19 #[.val (.ref a1), .val (.int (4 : Int32)), .val (.int x4)] [(.int (28 : Int32)), (.int x4)])) _
        refine XS.icmpNo X0.here hx rfl (hb hby own_d2_19) rfl (feq hc6).1 ?_
        show Steps p.tables e below (s₁.setTop (mkF m 22 #[.val (.ref a1), .val (.int (4 : Int32)), .val (.int x4)] [])) _
        refine XS.iloadN X0.here hx rfl (hb hby own_d2_22) rfl ?_
        show Steps p.tables e below (s₁.setTop (mkF m 23 #[.val (.ref a1), .val (.int (4 : Int32)), .val (.int x4)] [(.int x4)])) _
        refine XS.bipush X0.here hx rfl (hb hby own_d2_23) ?_
        exact k
      by_cases hc10 : x4 = (29 : Int32)
      · obtain ⟨c12, Ar12, cq12, S12, Nn12, Hh12, Gg12⟩ := id Va
        have hin12 : ¬ ((6 : Int32) < 0 ∨ c12.slots.size ≤ ((6 : Int32)).toNatClampNeg) := inb_of S12 ⟨by decide, by decide⟩
        have hat12 : c12.slots[((6 : Int32)).toNatClampNeg]? = some (.int x6) := Has.at Hh12 hin12 rfl
        have g13 : ∀ t, Steps p.tables e below (s₁.setTop (mkF m 33 #[.val (.ref a1), .val (.int (4 : Int32)), .val (.int x4)] [(.int x6)])) t → Steps p.tables e below (s₁.setTop (entryFrame m #[(.ref a1), (.int (4 : Int32))] 3)) t := by
          intro t k
          refine g11 t ?_
          show Steps p.tables e below (s₁.setTop (mkF m 25 #[.val (.ref a1), .val (.int (4 : Int32)), .val (.int x4)] [(.int (29 : Int32)), (.int x4)])) _
          refine XS.icmpNo X0.here hx rfl (hb hby own_d2_25) rfl (teq hc10).2 ?_
          show Steps p.tables e below (s₁.setTop (mkF m 28 #[.val (.ref a1), .val (.int (4 : Int32)), .val (.int x4)] [])) _
          refine XS.aloadN X0.here hx rfl (hb hby own_d2_28) rfl rfl ?_
          show Steps p.tables e below (s₁.setTop (mkF m 29 #[.val (.ref a1), .val (.int (4 : Int32)), .val (.int x4)] [(.ref a1)])) _
          refine XS.iloadN X0.here hx rfl (hb hby own_d2_29) rfl ?_
          show Steps p.tables e below (s₁.setTop (mkF m 30 #[.val (.ref a1), .val (.int (4 : Int32)), .val (.int x4)] [(.int (4 : Int32)), (.ref a1)])) _
          refine XS.iconst X0.here hx rfl (hb hby own_d2_30) ?_
          show Steps p.tables e below (s₁.setTop (mkF m 31 #[.val (.ref a1), .val (.int (4 : Int32)), .val (.int x4)] [(.int (2 : Int32)), (.int (4 : Int32)), (.ref a1)])) _
          refine XS.iadd X0.here hx rfl (hb hby own_d2_31) rfl ?_
          rw [show ((4 : Int32) + (2 : Int32)) = (6 : Int32) from by decide]
          show Steps p.tables e below (s₁.setTop (mkF m 32 #[.val (.ref a1), .val (.int (4 : Int32)), .val (.int x4)] [(.int (6 : Int32)), (.ref a1)])) _
          refine X0.iaload hx (j := (6 : Int32)) (v := (.int x6)) (by rw [e0]; exact Ar12.1) (State.isArrayOf_alike hZ.alike Ar12.2.1) Ar12.2.2 hin12 hat12 (g := (mkF m 32 #[.val (.ref a1), .val (.int (4 : Int32)), .val (.int x4)] [(.int (6 : Int32)), (.ref a1)])) rfl rfl (hb hby own_d2_32) _ ?_
          exact k
        obtain ⟨fs, hrt, hrun, hended, hW, hsame⟩ := X0.leave (v := some (.int x6)) (fun h => by rw [Bd.returns] at h; cases h)
        refine ⟨_, _, g13 _ ?_, hrun, hended, _, _, rfl, ?_, ⟨_, rfl⟩, hW, hsame.mono (by decide) (by decide)⟩
        · show Steps p.tables e below (s₁.setTop (mkF m 33 #[.val (.ref a1), .val (.int (4 : Int32)), .val (.int x4)] [(.int x6)])) _
          exact retI X0 hx Bd.returns (hb hby own_d2_33) hrt
        · show own_Q_rmT4 Z a1 ka x0 x1 x2 x3 x4 x5 x6 x7 r h0 n0 _ s₁.heap _
          rw [e0]
          exact ⟨by rw [← hr, if_neg hc2, if_neg hc6, if_pos hc10], N0, rfl⟩
      · have g15 : ∀ t, Steps p.tables e below (s₁.setTop (mkF m 37 #[.val (.ref a1), .val (.int (4 : Int32)), .val (.int x4)] [(.int (12 : Int32)), (.int x4)])) t → Steps p.tables e below (s₁.setTop (entryFrame m #[(.ref a1), (.int (4 : Int32))] 3)) t := by
          intro t k
          refine g11 t ?_
          show Steps p.tables e below (s₁.setTop (mkF m 25 #[.val (.ref a1), .val (.int (4 : Int32)), .val (.int x4)] [(.int (29 : Int32)), (.int x4)])) _
          refine XS.icmpYes X0.here hx rfl (pc0 := 25) (pc' := 34) rfl (hb hby own_d2_25) rfl (feq hc10).2 (by decide) (by decide) ?_
          show Steps p.tables e below (s₁.setTop (mkF m 34 #[.val (.ref a1), .val (.int (4 : Int32)), .val (.int x4)] [])) _
          refine XS.iloadN X0.here hx rfl (hb hby own_d2_34) rfl ?_
          show Steps p.tables e below (s₁.setTop (mkF m 35 #[.val (.ref a1), .val (.int (4 : Int32)), .val (.int x4)] [(.int x4)])) _
          refine XS.bipush X0.here hx rfl (hb hby own_d2_35) ?_
          exact k
        by_cases hc14 : x4 < (12 : Int32)
        · have g16 : ∀ t, Steps p.tables e below (s₁.setTop (mkF m 53 #[.val (.ref a1), .val (.int (4 : Int32)), .val (.int x4)] [(.int (-1 : Int32))])) t → Steps p.tables e below (s₁.setTop (entryFrame m #[(.ref a1), (.int (4 : Int32))] 3)) t := by
            intro t k
            refine g15 t ?_
            show Steps p.tables e below (s₁.setTop (mkF m 37 #[.val (.ref a1), .val (.int (4 : Int32)), .val (.int x4)] [(.int (12 : Int32)), (.int x4)])) _
            refine XS.icmpYes X0.here hx rfl (pc0 := 37) (pc' := 52) rfl (hb hby own_d2_37) rfl (tlt hc14).1 (by decide) (by decide) ?_
            show Steps p.tables e below (s₁.setTop (mkF m 52 #[.val (.ref a1), .val (.int (4 : Int32)), .val (.int x4)] [])) _
            refine XS.iconst X0.here hx rfl (hb hby own_d2_52) ?_
            exact k
          obtain ⟨fs, hrt, hrun, hended, hW, hsame⟩ := X0.leave (v := some (.int (-1 : Int32))) (fun h => by rw [Bd.returns] at h; cases h)
          refine ⟨_, _, g16 _ ?_, hrun, hended, _, _, rfl, ?_, ⟨_, rfl⟩, hW, hsame.mono (by decide) (by decide)⟩
          · show Steps p.tables e below (s₁.setTop (mkF m 53 #[.val (.ref a1), .val (.int (4 : Int32)), .val (.int x4)] [(.int (-1 : Int32))])) _
            exact retI X0 hx Bd.returns (hb hby own_d2_53) hrt
          · show own_Q_rmT4 Z a1 ka x0 x1 x2 x3 x4 x5 x6 x7 r h0 n0 _ s₁.heap _
            rw [e0]
            exact ⟨by rw [← hr, if_neg hc2, if_neg hc6, if_neg hc10, if_pos hc14], N0, rfl⟩
        · have g18 : ∀ t, Steps p.tables e below (s₁.setTop (mkF m 43 #[.val (.ref a1), .val (.int (4 : Int32)), .val (.int x4)] [(.int (21 : Int32)), (.int x4)])) t → Steps p.tables e below (s₁.setTop (entryFrame m #[(.ref a1), (.int (4 : Int32))] 3)) t := by
            intro t k
            refine g15 t ?_
            show Steps p.tables e below (s₁.setTop (mkF m 37 #[.val (.ref a1), .val (.int (4 : Int32)), .val (.int x4)] [(.int (12 : Int32)), (.int x4)])) _
            refine XS.icmpNo X0.here hx rfl (hb hby own_d2_37) rfl (flt hc14).1 ?_
            show Steps p.tables e below (s₁.setTop (mkF m 40 #[.val (.ref a1), .val (.int (4 : Int32)), .val (.int x4)] [])) _
            refine XS.iloadN X0.here hx rfl (hb hby own_d2_40) rfl ?_
            show Steps p.tables e below (s₁.setTop (mkF m 41 #[.val (.ref a1), .val (.int (4 : Int32)), .val (.int x4)] [(.int x4)])) _
            refine XS.bipush X0.here hx rfl (hb hby own_d2_41) ?_
            exact k
          by_cases hc17 : (21 : Int32) < x4
          · have g19 : ∀ t, Steps p.tables e below (s₁.setTop (mkF m 53 #[.val (.ref a1), .val (.int (4 : Int32)), .val (.int x4)] [(.int (-1 : Int32))])) t → Steps p.tables e below (s₁.setTop (entryFrame m #[(.ref a1), (.int (4 : Int32))] 3)) t := by
              intro t k
              refine g18 t ?_
              show Steps p.tables e below (s₁.setTop (mkF m 43 #[.val (.ref a1), .val (.int (4 : Int32)), .val (.int x4)] [(.int (21 : Int32)), (.int x4)])) _
              refine XS.icmpYes X0.here hx rfl (pc0 := 43) (pc' := 52) rfl (hb hby own_d2_43) rfl (tlt hc17).2.2.1 (by decide) (by decide) ?_
              show Steps p.tables e below (s₁.setTop (mkF m 52 #[.val (.ref a1), .val (.int (4 : Int32)), .val (.int x4)] [])) _
              refine XS.iconst X0.here hx rfl (hb hby own_d2_52) ?_
              exact k
            obtain ⟨fs, hrt, hrun, hended, hW, hsame⟩ := X0.leave (v := some (.int (-1 : Int32))) (fun h => by rw [Bd.returns] at h; cases h)
            refine ⟨_, _, g19 _ ?_, hrun, hended, _, _, rfl, ?_, ⟨_, rfl⟩, hW, hsame.mono (by decide) (by decide)⟩
            · show Steps p.tables e below (s₁.setTop (mkF m 53 #[.val (.ref a1), .val (.int (4 : Int32)), .val (.int x4)] [(.int (-1 : Int32))])) _
              exact retI X0 hx Bd.returns (hb hby own_d2_53) hrt
            · show own_Q_rmT4 Z a1 ka x0 x1 x2 x3 x4 x5 x6 x7 r h0 n0 _ s₁.heap _
              rw [e0]
              exact ⟨by rw [← hr, if_neg hc2, if_neg hc6, if_neg hc10, if_neg hc14, if_pos hc17], N0, rfl⟩
          · obtain ⟨c20, Ar20, cq20, S20, Nn20, Hh20, Gg20⟩ := id Va
            have hin20 : ¬ ((7 : Int32) < 0 ∨ c20.slots.size ≤ ((7 : Int32)).toNatClampNeg) := inb_of S20 ⟨by decide, by decide⟩
            have hat20 : c20.slots[((7 : Int32)).toNatClampNeg]? = some (.int x7) := Has.at Hh20 hin20 rfl
            have g21 : ∀ t, Steps p.tables e below (s₁.setTop (mkF m 51 #[.val (.ref a1), .val (.int (4 : Int32)), .val (.int x4)] [(.int x7)])) t → Steps p.tables e below (s₁.setTop (entryFrame m #[(.ref a1), (.int (4 : Int32))] 3)) t := by
              intro t k
              refine g18 t ?_
              show Steps p.tables e below (s₁.setTop (mkF m 43 #[.val (.ref a1), .val (.int (4 : Int32)), .val (.int x4)] [(.int (21 : Int32)), (.int x4)])) _
              refine XS.icmpNo X0.here hx rfl (hb hby own_d2_43) rfl (flt hc17).2.2.1 ?_
              show Steps p.tables e below (s₁.setTop (mkF m 46 #[.val (.ref a1), .val (.int (4 : Int32)), .val (.int x4)] [])) _
              refine XS.aloadN X0.here hx rfl (hb hby own_d2_46) rfl rfl ?_
              show Steps p.tables e below (s₁.setTop (mkF m 47 #[.val (.ref a1), .val (.int (4 : Int32)), .val (.int x4)] [(.ref a1)])) _
              refine XS.iloadN X0.here hx rfl (hb hby own_d2_47) rfl ?_
              show Steps p.tables e below (s₁.setTop (mkF m 48 #[.val (.ref a1), .val (.int (4 : Int32)), .val (.int x4)] [(.int (4 : Int32)), (.ref a1)])) _
              refine XS.iconst X0.here hx rfl (hb hby own_d2_48) ?_
              show Steps p.tables e below (s₁.setTop (mkF m 49 #[.val (.ref a1), .val (.int (4 : Int32)), .val (.int x4)] [(.int (3 : Int32)), (.int (4 : Int32)), (.ref a1)])) _
              refine XS.iadd X0.here hx rfl (hb hby own_d2_49) rfl ?_
              rw [show ((4 : Int32) + (3 : Int32)) = (7 : Int32) from by decide]
              show Steps p.tables e below (s₁.setTop (mkF m 50 #[.val (.ref a1), .val (.int (4 : Int32)), .val (.int x4)] [(.int (7 : Int32)), (.ref a1)])) _
              refine X0.iaload hx (j := (7 : Int32)) (v := (.int x7)) (by rw [e0]; exact Ar20.1) (State.isArrayOf_alike hZ.alike Ar20.2.1) Ar20.2.2 hin20 hat20 (g := (mkF m 50 #[.val (.ref a1), .val (.int (4 : Int32)), .val (.int x4)] [(.int (7 : Int32)), (.ref a1)])) rfl rfl (hb hby own_d2_50) _ ?_
              exact k
            obtain ⟨fs, hrt, hrun, hended, hW, hsame⟩ := X0.leave (v := some (.int x7)) (fun h => by rw [Bd.returns] at h; cases h)
            refine ⟨_, _, g21 _ ?_, hrun, hended, _, _, rfl, ?_, ⟨_, rfl⟩, hW, hsame.mono (by decide) (by decide)⟩
            · show Steps p.tables e below (s₁.setTop (mkF m 51 #[.val (.ref a1), .val (.int (4 : Int32)), .val (.int x4)] [(.int x7)])) _
              exact retI X0 hx Bd.returns (hb hby own_d2_51) hrt
            · show own_Q_rmT4 Z a1 ka x0 x1 x2 x3 x4 x5 x6 x7 r h0 n0 _ s₁.heap _
              rw [e0]
              exact ⟨by rw [← hr, if_neg hc2, if_neg hc6, if_neg hc10, if_neg hc14, if_neg hc17], N0, rfl⟩
theorem own_ef4 (m : MethodId) (x0 : Int32) (x1 : Int32) (x2 : Int32) (x3 : Int32) (x4 : Int32) (x5 : Int32) : entryFrame m #[(.int x0), (.int x1), (.int x2), (.int x3), (.int x4), (.int x5)] maxLocals = mkF m 0 #[.val (.int x0), .val (.int x1), .val (.int x2), .val (.int x3), .val (.int x4), .val (.int x5), .unset, .unset, .unset, .unset, .unset, .unset] [] := by first | (simp [entryFrame, mkF, argsToLocals, Value.category, maxLocals]; done) | rfl
theorem own_pd0 : parseMethodDescriptor "(I)I" = some ⟨[.int], some .int⟩ := by decide +kernel
theorem own_pd1 : parseMethodDescriptor "([II)I" = some ⟨[(.array .int), .int], some .int⟩ := by decide +kernel
def own_Q_rm0 (Z : State) (p1 p2 p3 p4 p5 p6 : Int32) (h0 : Heap) (n0 : Nat) (v : Option Value) (h : Heap) (L : List Loc) : Prop := v = some (.int (1 : Int32)) ∧ Fr n0 L
set_option maxRecDepth 65536 in
set_option maxHeartbeats 40000000 in
theorem rm0 (l : Launch) (Z : State) (a0 : Array Value) (hw : ∀ d ∈ tables_1, d.before a0 Z = true) (ws : List Jvm.Cond) (p1 p2 p3 p4 p5 p6 : Int32) (h0 : Heap) (n0 : Nat) (O0 : Old Z n0 h0) :
    MetFree l x (head1 (Jvm.Cond.code x code maxLocals ret :: ws) room_1) (fun a U => a = #[(.int p1), (.int p2), (.int p3), (.int p4), (.int p5), (.int p6)] ∧ Z.Warmed39 U.vm ∧ U.heap = h0) (fun _ _ _ _ _ => True) (fun _ U o U' => ∃ v L, o = .returned v ∧ own_Q_rm0 Z p1 p2 p3 p4 p5 p6 h0 n0 v U'.heap L ∧ FrameEnd U o U' L room_1.cells room_1.slots) := by
  refine MetFree.of_bodySF (plainFor_of_name own_pn0) hisR ?_
  intro p e s m args below meth c s₁ Bd hml0 hP hK
  obtain ⟨rfl, hZ, hh⟩ := hP
  have hx := Bd.exec
  have hby := Bd.bytes
  have hml : c.maxLocals = 12 := hml0
  have hown : s.vm.findClass "com/example/chalkline/chalkline/runtime/MachineCodeTargetPinLaw" = some m.cls := findClass_of_methodNamed Bd.named
  have hnm := (name_of_methodNamed Bd.named Bd.method).1
  have X0 : Stand p l e room_1 s m #[(.int p1), (.int p2), (.int p3), (.int p4), (.int p5), (.int p6)] below meth c s₁ [] 0 0 := Stand.of_body Bd
  have e0 : s₁.heap = h0 := by rw [← hh, Bd.state]; rfl
  have N0 := Fr.nil n0
  have Z0 : n0 ≤ h0.size := O0.1 ▸ O0.2.1
  have g0 : ∀ t, Steps p.tables e below (s₁.setTop (mkF m 0 #[.val (.int p1), .val (.int p2), .val (.int p3), .val (.int p4), .val (.int p5), .val (.int p6), .unset, .unset, .unset, .unset, .unset, .unset] [])) t → Steps p.tables e below (s₁.setTop (entryFrame m #[(.int p1), (.int p2), (.int p3), (.int p4), (.int p5), (.int p6)] maxLocals)) t := fun t k => castTop (own_ef4 m (p1) (p2) (p3) (p4) (p5) (p6)) k
  have g2 : ∀ t, Steps p.tables e below (s₁.setTop (mkF m 3 #[.val (.int p1), .val (.int p2), .val (.int p3), .val (.int p4), .val (.int p5), .val (.int p6), .unset, .unset, .unset, .unset, .unset, .unset] [(.int (p1 &&& (2 : Int32)))])) t → Steps p.tables e below (s₁.setTop (entryFrame m #[(.int p1), (.int p2), (.int p3), (.int p4), (.int p5), (.int p6)] maxLocals)) t := by
    intro t k
    refine g0 t ?_
    show Steps p.tables e below (s₁.setTop (mkF m 0 #[.val (.int p1), .val (.int p2), .val (.int p3), .val (.int p4), .val (.int p5), .val (.int p6), .unset, .unset, .unset, .unset, .unset, .unset] [])) _
    refine XS.iloadN X0.here hx rfl (hb hby at_0) rfl ?_
    show Steps p.tables e below (s₁.setTop (mkF m 1 #[.val (.int p1), .val (.int p2), .val (.int p3), .val (.int p4), .val (.int p5), .val (.int p6), .unset, .unset, .unset, .unset, .unset, .unset] [(.int p1)])) _
    refine XS.iconst X0.here hx rfl (hb hby at_1) ?_
    show Steps p.tables e below (s₁.setTop (mkF m 2 #[.val (.int p1), .val (.int p2), .val (.int p3), .val (.int p4), .val (.int p5), .val (.int p6), .unset, .unset, .unset, .unset, .unset, .unset] [(.int (2 : Int32)), (.int p1)])) _
    refine XS.iand X0.here hx rfl (hb hby at_2) rfl ?_
    exact k
  by_cases hc1 : (p1 &&& (2 : Int32)) = (0 : Int32)
  · obtain ⟨op, hv_op⟩ : ∃ z : Int32, z = ((p2 &&& (63 : Int32)) - (14 : Int32)) := ⟨_, rfl⟩
    have g3 : ∀ t, Steps p.tables e below (s₁.setTop (mkF m 17 #[.val (.int p1), .val (.int p2), .val (.int p3), .val (.int p4), .val (.int p5), .val (.int p6), .unset, .unset, .unset, .unset, .unset, .unset] [(.int op)])) t → Steps p.tables e below (s₁.setTop (entryFrame m #[(.int p1), (.int p2), (.int p3), (.int p4), (.int p5), (.int p6)] maxLocals)) t := by
      intro t k
      rw [hv_op] at k
      refine g2 t ?_
      show Steps p.tables e below (s₁.setTop (mkF m 3 #[.val (.int p1), .val (.int p2), .val (.int p3), .val (.int p4), .val (.int p5), .val (.int p6), .unset, .unset, .unset, .unset, .unset, .unset] [(.int (p1 &&& (2 : Int32)))])) _
      refine XS.ifYes X0.here hx rfl (pc0 := 3) (pc' := 10) rfl (hb hby at_3) rfl ((if0 _ _).trans (teq hc1).1) (by decide) (by decide) ?_
      show Steps p.tables e below (s₁.setTop (mkF m 10 #[.val (.int p1), .val (.int p2), .val (.int p3), .val (.int p4), .val (.int p5), .val (.int p6), .unset, .unset, .unset, .unset, .unset, .unset] [])) _
      refine XS.iloadN X0.here hx rfl (hb hby at_10) rfl ?_
      show Steps p.tables e below (s₁.setTop (mkF m 11 #[.val (.int p1), .val (.int p2), .val (.int p3), .val (.int p4), .val (.int p5), .val (.int p6), .unset, .unset, .unset, .unset, .unset, .unset] [(.int p2)])) _
      refine XS.bipush X0.here hx rfl (hb hby at_11) ?_
      show Steps p.tables e below (s₁.setTop (mkF m 13 #[.val (.int p1), .val (.int p2), .val (.int p3), .val (.int p4), .val (.int p5), .val (.int p6), .unset, .unset, .unset, .unset, .unset, .unset] [(.int (63 : Int32)), (.int p2)])) _
      refine XS.iand X0.here hx rfl (hb hby at_13) rfl ?_
      show Steps p.tables e below (s₁.setTop (mkF m 14 #[.val (.int p1), .val (.int p2), .val (.int p3), .val (.int p4), .val (.int p5), .val (.int p6), .unset, .unset, .unset, .unset, .unset, .unset] [(.int (p2 &&& (63 : Int32)))])) _
      refine XS.bipush X0.here hx rfl (hb hby at_14) ?_
      show Steps p.tables e below (s₁.setTop (mkF m 16 #[.val (.int p1), .val (.int p2), .val (.int p3), .val (.int p4), .val (.int p5), .val (.int p6), .unset, .unset, .unset, .unset, .unset, .unset] [(.int (14 : Int32)), (.int (p2 &&& (63 : Int32)))])) _
      refine XS.isub X0.here hx rfl (hb hby at_16) rfl ?_
      exact k
    have g5 : ∀ t, Steps p.tables e below (s₁.setTop (mkF m 22 #[.val (.int p1), .val (.int p2), .val (.int p3), .val (.int p4), .val (.int p5), .val (.int p6), .val (.int op), .unset, .unset, .unset, .unset, .unset] [(.int (p1 &&& (1 : Int32)))])) t → Steps p.tables e below (s₁.setTop (entryFrame m #[(.int p1), (.int p2), (.int p3), (.int p4), (.int p5), (.int p6)] maxLocals)) t := by
      intro t k
      refine g3 t ?_
      show Steps p.tables e below (s₁.setTop (mkF m 17 #[.val (.int p1), .val (.int p2), .val (.int p3), .val (.int p4), .val (.int p5), .val (.int p6), .unset, .unset, .unset, .unset, .unset, .unset] [(.int op)])) _
      refine XS.istore X0.here hx rfl (hb hby at_17) rfl (l' := #[.val (.int p1), .val (.int p2), .val (.int p3), .val (.int p4), .val (.int p5), .val (.int p6), .val (.int op), .unset, .unset, .unset, .unset, .unset]) rfl ?_
      show Steps p.tables e below (s₁.setTop (mkF m 19 #[.val (.int p1), .val (.int p2), .val (.int p3), .val (.int p4), .val (.int p5), .val (.int p6), .val (.int op), .unset, .unset, .unset, .unset, .unset] [])) _
      refine XS.iloadN X0.here hx rfl (hb hby at_19) rfl ?_
      show Steps p.tables e below (s₁.setTop (mkF m 20 #[.val (.int p1), .val (.int p2), .val (.int p3), .val (.int p4), .val (.int p5), .val (.int p6), .val (.int op), .unset, .unset, .unset, .unset, .unset] [(.int p1)])) _
      refine XS.iconst X0.here hx rfl (hb hby at_20) ?_
      show Steps p.tables e below (s₁.setTop (mkF m 21 #[.val (.int p1), .val (.int p2), .val (.int p3), .val (.int p4), .val (.int p5), .val (.int p6), .val (.int op), .unset, .unset, .unset, .unset, .unset] [(.int (1 : Int32)), (.int p1)])) _
      refine XS.iand X0.here hx rfl (hb hby at_21) rfl ?_
      exact k
    by_cases hc4 : (p1 &&& (1 : Int32)) = (0 : Int32)
    · obtain ⟨T6, h6, k6, X6, e6, E6, A6, st6⟩ := newP X0 hx hZ (hw _ (List.mem_of_getElem? (i := 0) rfl)) e0 (g := (mkF m 40 #[.val (.int p1), .val (.int p2), .val (.int p3), .val (.int p4), .val (.int p5), .val (.int p6), .val (.int op), .val (.int (0 : Int32)), .val (.int (4 : Int32)), .unset, .unset, .unset] [(.int (8 : Int32))])) rfl (hb hby at_40) rfl (by decide) (cap := 8) (by decide) (by decide) (by decide) (by decide)
      obtain ⟨b6, q_b6⟩ : ∃ z, z = h0.size := ⟨_, rfl⟩
      rw [← q_b6] at A6 st6
      have sz_b6 : h0.size ≤ b6 := Nat.le_of_eq q_b6.symm
      have gz_b6 : n0 ≤ b6 := Nat.le_trans Z0 sz_b6
      have V6 : Arv Z h6 b6 k6 .int (8 : Int32) [(.int (0 : Int32)), (.int (0 : Int32)), (.int (0 : Int32)), (.int (0 : Int32)), (.int (0 : Int32)), (.int (0 : Int32)), (.int (0 : Int32)), (.int (0 : Int32))] (.int (0 : Int32)) := (Arv.new A6 (by decide)).pad (pad_rep [] (.int (0 : Int32)) 8)
      obtain ⟨c7, Ar7, cq7, S7, Nn7, Hh7, Gg7⟩ := id V6
      have hin7 : ¬ ((4 : Int32) < 0 ∨ c7.slots.size ≤ ((4 : Int32)).toNatClampNeg) := inb_of S7 ⟨by decide, by decide⟩
      obtain ⟨T8, h8, X8, e8, W8, st8⟩ := stI X6 hx hZ e6 Ar7 (j := (4 : Int32)) hin7 (g := (mkF m 50 #[.val (.int p1), .val (.int p2), .val (.int p3), .val (.int p4), .val (.int p5), .val (.int p6), .val (.int op), .val (.int (0 : Int32)), .val (.int (4 : Int32)), .val (.ref b6), .unset, .unset] [(.int p6), (.int (4 : Int32)), (.ref b6)])) rfl rfl (hb hby at_50)
      have V8 := Arv.set Ar7 cq7 S7 Nn7 Hh7 Gg7 rfl W8 4 rfl (Nat.le_of_ble_eq_true rfl)
      have V8a : Arv Z h8 b6 k6 .int (8 : Int32) [(.int (0 : Int32)), (.int (0 : Int32)), (.int (0 : Int32)), (.int (0 : Int32)), (.int p6), (.int (0 : Int32)), (.int (0 : Int32)), (.int (0 : Int32))] (.int (0 : Int32)) := V8
      have N8 := Fr.snoc X8 N0 gz_b6
      obtain ⟨c9, Ar9, cq9, S9, Nn9, Hh9, Gg9⟩ := id V8a
      have hin9 : ¬ ((5 : Int32) < 0 ∨ c9.slots.size ≤ ((5 : Int32)).toNatClampNeg) := inb_of S9 ⟨by decide, by decide⟩
      obtain ⟨T10, h10, X10, e10, W10, st10⟩ := stI X8 hx hZ e8 Ar9 (j := (5 : Int32)) hin9 (g := (mkF m 59 #[.val (.int p1), .val (.int p2), .val (.int p3), .val (.int p4), .val (.int p5), .val (.int p6), .val (.int op), .val (.int (0 : Int32)), .val (.int (4 : Int32)), .val (.ref b6), .unset, .unset] [(.int p6), (.int (5 : Int32)), (.ref b6)])) rfl rfl (hb hby at_59)
      have V10 := Arv.set Ar9 cq9 S9 Nn9 Hh9 Gg9 rfl W10 5 rfl (Nat.le_of_ble_eq_true rfl)
      have V10a : Arv Z h10 b6 k6 .int (8 : Int32) [(.int (0 : Int32)), (.int (0 : Int32)), (.int (0 : Int32)), (.int (0 : Int32)), (.int p6), (.int p6), (.int (0 : Int32)), (.int (0 : Int32))] (.int (0 : Int32)) := V10
      have N10 := Fr.snoc X10 N8 gz_b6
      obtain ⟨c11, Ar11, cq11, S11, Nn11, Hh11, Gg11⟩ := id V10a
      have hin11 : ¬ ((6 : Int32) < 0 ∨ c11.slots.size ≤ ((6 : Int32)).toNatClampNeg) := inb_of S11 ⟨by decide, by decide⟩
      obtain ⟨T12, h12, X12, e12, W12, st12⟩ := stI X10 hx hZ e10 Ar11 (j := (6 : Int32)) hin11 (g := (mkF m 68 #[.val (.int p1), .val (.int p2), .val (.int p3), .val (.int p4), .val (.int p5), .val (.int p6), .val (.int op), .val (.int (0 : Int32)), .val (.int (4 : Int32)), .val (.ref b6), .unset, .unset] [(.int p6), (.int (6 : Int32)), (.ref b6)])) rfl rfl (hb hby at_68)
      have V12 := Arv.set Ar11 cq11 S11 Nn11 Hh11 Gg11 rfl W12 6 rfl (Nat.le_of_ble_eq_true rfl)
      have V12a : Arv Z h12 b6 k6 .int (8 : Int32) [(.int (0 : Int32)), (.int (0 : Int32)), (.int (0 : Int32)), (.int (0 : Int32)), (.int p6), (.int p6), (.int p6), (.int (0 : Int32))] (.int (0 : Int32)) := V12
      have N12 := Fr.snoc X12 N10 gz_b6
      obtain ⟨c13, Ar13, cq13, S13, Nn13, Hh13, Gg13⟩ := id V12a
      have hin13 : ¬ ((7 : Int32) < 0 ∨ c13.slots.size ≤ ((7 : Int32)).toNatClampNeg) := inb_of S13 ⟨by decide, by decide⟩
      obtain ⟨T14, h14, X14, e14, W14, st14⟩ := stI X12 hx hZ e12 Ar13 (j := (7 : Int32)) hin13 (g := (mkF m 77 #[.val (.int p1), .val (.int p2), .val (.int p3), .val (.int p4), .val (.int p5), .val (.int p6), .val (.int op), .val (.int (0 : Int32)), .val (.int (4 : Int32)), .val (.ref b6), .unset, .unset] [(.int p6), (.int (7 : Int32)), (.ref b6)])) rfl rfl (hb hby at_77)
      have V14 := Arv.set Ar13 cq13 S13 Nn13 Hh13 Gg13 rfl W14 7 rfl (Nat.le_of_ble_eq_true rfl)
      have V14a : Arv Z h14 b6 k6 .int (8 : Int32) [(.int (0 : Int32)), (.int (0 : Int32)), (.int (0 : Int32)), (.int (0 : Int32)), (.int p6), (.int p6), (.int p6), (.int p6)] (.int (0 : Int32)) := V14
      have N14 := Fr.snoc X14 N12 gz_b6
      obtain ⟨c15, Ar15, cq15, S15, Nn15, Hh15, Gg15⟩ := id V14a
      have hin15 : ¬ ((0 : Int32) < 0 ∨ c15.slots.size ≤ ((0 : Int32)).toNatClampNeg) := inb_of S15 ⟨by decide, by decide⟩
      obtain ⟨T16, h16, X16, e16, W16, st16⟩ := stI X14 hx hZ e14 Ar15 (j := (0 : Int32)) hin15 (g := (mkF m 84 #[.val (.int p1), .val (.int p2), .val (.int p3), .val (.int p4), .val (.int p5), .val (.int p6), .val (.int op), .val (.int (0 : Int32)), .val (.int (4 : Int32)), .val (.ref b6), .unset, .unset] [(.int op), (.int (0 : Int32)), (.ref b6)])) rfl rfl (hb hby at_84)
      have V16 := Arv.set Ar15 cq15 S15 Nn15 Hh15 Gg15 rfl W16 0 rfl (Nat.le_of_ble_eq_true rfl)
      have V16a : Arv Z h16 b6 k6 .int (8 : Int32) [(.int op), (.int (0 : Int32)), (.int (0 : Int32)), (.int (0 : Int32)), (.int p6), (.int p6), (.int p6), (.int p6)] (.int (0 : Int32)) := V16
      have N16 := Fr.snoc X16 N14 gz_b6
      obtain ⟨c17, Ar17, cq17, S17, Nn17, Hh17, Gg17⟩ := id V16a
      have hin17 : ¬ ((1 : Int32) < 0 ∨ c17.slots.size ≤ ((1 : Int32)).toNatClampNeg) := inb_of S17 ⟨by decide, by decide⟩
      obtain ⟨T18, h18, X18, e18, W18, st18⟩ := stI X16 hx hZ e16 Ar17 (j := (1 : Int32)) hin17 (g := (mkF m 92 #[.val (.int p1), .val (.int p2), .val (.int p3), .val (.int p4), .val (.int p5), .val (.int p6), .val (.int op), .val (.int (0 : Int32)), .val (.int (4 : Int32)), .val (.ref b6), .unset, .unset] [(.int p3), (.int (1 : Int32)), (.ref b6)])) rfl rfl (hb hby at_92)
      have V18 := Arv.set Ar17 cq17 S17 Nn17 Hh17 Gg17 rfl W18 1 rfl (Nat.le_of_ble_eq_true rfl)
      have V18a : Arv Z h18 b6 k6 .int (8 : Int32) [(.int op), (.int p3), (.int (0 : Int32)), (.int (0 : Int32)), (.int p6), (.int p6), (.int p6), (.int p6)] (.int (0 : Int32)) := V18
      have N18 := Fr.snoc X18 N16 gz_b6
      obtain ⟨c19, Ar19, cq19, S19, Nn19, Hh19, Gg19⟩ := id V18a
      have hin19 : ¬ ((2 : Int32) < 0 ∨ c19.slots.size ≤ ((2 : Int32)).toNatClampNeg) := inb_of S19 ⟨by decide, by decide⟩
      obtain ⟨T20, h20, X20, e20, W20, st20⟩ := stI X18 hx hZ e18 Ar19 (j := (2 : Int32)) hin19 (g := (mkF m 100 #[.val (.int p1), .val (.int p2), .val (.int p3), .val (.int p4), .val (.int p5), .val (.int p6), .val (.int op), .val (.int (0 : Int32)), .val (.int (4 : Int32)), .val (.ref b6), .unset, .unset] [(.int p4), (.int (2 : Int32)), (.ref b6)])) rfl rfl (hb hby at_100)
      have V20 := Arv.set Ar19 cq19 S19 Nn19 Hh19 Gg19 rfl W20 2 rfl (Nat.le_of_ble_eq_true rfl)
      have V20a : Arv Z h20 b6 k6 .int (8 : Int32) [(.int op), (.int p3), (.int p4), (.int (0 : Int32)), (.int p6), (.int p6), (.int p6), (.int p6)] (.int (0 : Int32)) := V20
      have N20 := Fr.snoc X20 N18 gz_b6
      obtain ⟨c21, Ar21, cq21, S21, Nn21, Hh21, Gg21⟩ := id V20a
      have hin21 : ¬ ((3 : Int32) < 0 ∨ c21.slots.size ≤ ((3 : Int32)).toNatClampNeg) := inb_of S21 ⟨by decide, by decide⟩
      obtain ⟨T22, h22, X22, e22, W22, st22⟩ := stI X20 hx hZ e20 Ar21 (j := (3 : Int32)) hin21 (g := (mkF m 109 #[.val (.int p1), .val (.int p2), .val (.int p3), .val (.int p4), .val (.int p5), .val (.int p6), .val (.int op), .val (.int (0 : Int32)), .val (.int (4 : Int32)), .val (.ref b6), .unset, .unset] [(.int p5), (.int (3 : Int32)), (.ref b6)])) rfl rfl (hb hby at_109)
      have V22 := Arv.set Ar21 cq21 S21 Nn21 Hh21 Gg21 rfl W22 3 rfl (Nat.le_of_ble_eq_true rfl)
      have V22a : Arv Z h22 b6 k6 .int (8 : Int32) [(.int op), (.int p3), (.int p4), (.int p5), (.int p6), (.int p6), (.int p6), (.int p6)] (.int (0 : Int32)) := V22
      have N22 := Fr.snoc X22 N20 gz_b6
      have g24 : ∀ t, Steps p.tables e below (T22.setTop (mkF m 110 #[.val (.int p1), .val (.int p2), .val (.int p3), .val (.int p4), .val (.int p5), .val (.int p6), .val (.int op), .val (.int (0 : Int32)), .val (.int (4 : Int32)), .val (.ref b6), .unset, .unset] [])) t → Steps p.tables e below (s₁.setTop (entryFrame m #[(.int p1), (.int p2), (.int p3), (.int p4), (.int p5), (.int p6)] maxLocals)) t := by
        intro t k
        refine g5 t ?_
        show Steps p.tables e below (s₁.setTop (mkF m 22 #[.val (.int p1), .val (.int p2), .val (.int p3), .val (.int p4), .val (.int p5), .val (.int p6), .val (.int op), .unset, .unset, .unset, .unset, .unset] [(.int (p1 &&& (1 : Int32)))])) _
        refine XS.ifYes X0.here hx rfl (pc0 := 22) (pc' := 29) rfl (hb hby at_22) rfl ((if0 _ _).trans (teq hc4).1) (by decide) (by decide) ?_
        show Steps p.tables e below (s₁.setTop (mkF m 29 #[.val (.int p1), .val (.int p2), .val (.int p3), .val (.int p4), .val (.int p5), .val (.int p6), .val (.int op), .unset, .unset, .unset, .unset, .unset] [])) _
        refine XS.iconst X0.here hx rfl (hb hby at_29) ?_
        show Steps p.tables e below (s₁.setTop (mkF m 30 #[.val (.int p1), .val (.int p2), .val (.int p3), .val (.int p4), .val (.int p5), .val (.int p6), .val (.int op), .unset, .unset, .unset, .unset, .unset] [(.int (0 : Int32))])) _
        refine XS.istore X0.here hx rfl (hb hby at_30) rfl (l' := #[.val (.int p1), .val (.int p2), .val (.int p3), .val (.int p4), .val (.int p5), .val (.int p6), .val (.int op), .val (.int (0 : Int32)), .unset, .unset, .unset, .unset]) rfl ?_
        show Steps p.tables e below (s₁.setTop (mkF m 32 #[.val (.int p1), .val (.int p2), .val (.int p3), .val (.int p4), .val (.int p5), .val (.int p6), .val (.int op), .val (.int (0 : Int32)), .unset, .unset, .unset, .unset] [])) _
        refine XS.iconst X0.here hx rfl (hb hby at_32) ?_
        show Steps p.tables e below (s₁.setTop (mkF m 33 #[.val (.int p1), .val (.int p2), .val (.int p3), .val (.int p4), .val (.int p5), .val (.int p6), .val (.int op), .val (.int (0 : Int32)), .unset, .unset, .unset, .unset] [(.int (4 : Int32))])) _
        refine XS.iload X0.here hx rfl (hb hby at_33) rfl ?_
        show Steps p.tables e below (s₁.setTop (mkF m 35 #[.val (.int p1), .val (.int p2), .val (.int p3), .val (.int p4), .val (.int p5), .val (.int p6), .val (.int op), .val (.int (0 : Int32)), .unset, .unset, .unset, .unset] [(.int (0 : Int32)), (.int (4 : Int32))])) _
        refine XS.isub X0.here hx rfl (hb hby at_35) rfl ?_
        rw [show ((4 : Int32) - (0 : Int32)) = (4 : Int32) from by decide]
        show Steps p.tables e below (s₁.setTop (mkF m 36 #[.val (.int p1), .val (.int p2), .val (.int p3), .val (.int p4), .val (.int p5), .val (.int p6), .val (.int op), .val (.int (0 : Int32)), .unset, .unset, .unset, .unset] [(.int (4 : Int32))])) _
        refine XS.istore X0.here hx rfl (hb hby at_36) rfl (l' := #[.val (.int p1), .val (.int p2), .val (.int p3), .val (.int p4), .val (.int p5), .val (.int p6), .val (.int op), .val (.int (0 : Int32)), .val (.int (4 : Int32)), .unset, .unset, .unset]) rfl ?_
        show Steps p.tables e below (s₁.setTop (mkF m 38 #[.val (.int p1), .val (.int p2), .val (.int p3), .val (.int p4), .val (.int p5), .val (.int p6), .val (.int op), .val (.int (0 : Int32)), .val (.int (4 : Int32)), .unset, .unset, .unset] [])) _
        refine XS.bipush X0.here hx rfl (hb hby at_38) ?_
        show Steps p.tables e below (s₁.setTop (mkF m 40 #[.val (.int p1), .val (.int p2), .val (.int p3), .val (.int p4), .val (.int p5), .val (.int p6), .val (.int op), .val (.int (0 : Int32)), .val (.int (4 : Int32)), .unset, .unset, .unset] [(.int (8 : Int32))])) _
        refine st6 _ ?_
        show Steps p.tables e below (T6.setTop (mkF m 42 #[.val (.int p1), .val (.int p2), .val (.int p3), .val (.int p4), .val (.int p5), .val (.int p6), .val (.int op), .val (.int (0 : Int32)), .val (.int (4 : Int32)), .unset, .unset, .unset] [(.ref b6)])) _
        refine XS.astore X6.here hx rfl (hb hby at_42) rfl rfl (l' := #[.val (.int p1), .val (.int p2), .val (.int p3), .val (.int p4), .val (.int p5), .val (.int p6), .val (.int op), .val (.int (0 : Int32)), .val (.int (4 : Int32)), .val (.ref b6), .unset, .unset]) rfl ?_
        show Steps p.tables e below (T6.setTop (mkF m 44 #[.val (.int p1), .val (.int p2), .val (.int p3), .val (.int p4), .val (.int p5), .val (.int p6), .val (.int op), .val (.int (0 : Int32)), .val (.int (4 : Int32)), .val (.ref b6), .unset, .unset] [])) _
        refine XS.aload X6.here hx rfl (hb hby at_44) rfl rfl ?_
        show Steps p.tables e below (T6.setTop (mkF m 46 #[.val (.int p1), .val (.int p2), .val (.int p3), .val (.int p4), .val (.int p5), .val (.int p6), .val (.int op), .val (.int (0 : Int32)), .val (.int (4 : Int32)), .val (.ref b6), .unset, .unset] [(.ref b6)])) _
        refine XS.iload X6.here hx rfl (hb hby at_46) rfl ?_
        show Steps p.tables e below (T6.setTop (mkF m 48 #[.val (.int p1), .val (.int p2), .val (.int p3), .val (.int p4), .val (.int p5), .val (.int p6), .val (.int op), .val (.int (0 : Int32)), .val (.int (4 : Int32)), .val (.ref b6), .unset, .unset] [(.int (4 : Int32)), (.ref b6)])) _
        refine XS.iload X6.here hx rfl (hb hby at_48) rfl ?_
        show Steps p.tables e below (T6.setTop (mkF m 50 #[.val (.int p1), .val (.int p2), .val (.int p3), .val (.int p4), .val (.int p5), .val (.int p6), .val (.int op), .val (.int (0 : Int32)), .val (.int (4 : Int32)), .val (.ref b6), .unset, .unset] [(.int p6), (.int (4 : Int32)), (.ref b6)])) _
        refine st8 _ ?_
        show Steps p.tables e below (T8.setTop (mkF m 51 #[.val (.int p1), .val (.int p2), .val (.int p3), .val (.int p4), .val (.int p5), .val (.int p6), .val (.int op), .val (.int (0 : Int32)), .val (.int (4 : Int32)), .val (.ref b6), .unset, .unset] [])) _
        refine XS.aload X8.here hx rfl (hb hby at_51) rfl rfl ?_
        show Steps p.tables e below (T8.setTop (mkF m 53 #[.val (.int p1), .val (.int p2), .val (.int p3), .val (.int p4), .val (.int p5), .val (.int p6), .val (.int op), .val (.int (0 : Int32)), .val (.int (4 : Int32)), .val (.ref b6), .unset, .unset] [(.ref b6)])) _
        refine XS.iload X8.here hx rfl (hb hby at_53) rfl ?_
        show Steps p.tables e below (T8.setTop (mkF m 55 #[.val (.int p1), .val (.int p2), .val (.int p3), .val (.int p4), .val (.int p5), .val (.int p6), .val (.int op), .val (.int (0 : Int32)), .val (.int (4 : Int32)), .val (.ref b6), .unset, .unset] [(.int (4 : Int32)), (.ref b6)])) _
        refine XS.iconst X8.here hx rfl (hb hby at_55) ?_
        show Steps p.tables e below (T8.setTop (mkF m 56 #[.val (.int p1), .val (.int p2), .val (.int p3), .val (.int p4), .val (.int p5), .val (.int p6), .val (.int op), .val (.int (0 : Int32)), .val (.int (4 : Int32)), .val (.ref b6), .unset, .unset] [(.int (1 : Int32)), (.int (4 : Int32)), (.ref b6)])) _
        refine XS.iadd X8.here hx rfl (hb hby at_56) rfl ?_
        rw [show ((4 : Int32) + (1 : Int32)) = (5 : Int32) from by decide]
        show Steps p.tables e below (T8.setTop (mkF m 57 #[.val (.int p1), .val (.int p2), .val (.int p3), .val (.int p4), .val (.int p5), .val (.int p6), .val (.int op), .val (.int (0 : Int32)), .val (.int (4 : Int32)), .val (.ref b6), .unset, .unset] [(.int (5 : Int32)), (.ref b6)])) _
        refine XS.iload X8.here hx rfl (hb hby at_57) rfl ?_
        show Steps p.tables e below (T8.setTop (mkF m 59 #[.val (.int p1), .val (.int p2), .val (.int p3), .val (.int p4), .val (.int p5), .val (.int p6), .val (.int op), .val (.int (0 : Int32)), .val (.int (4 : Int32)), .val (.ref b6), .unset, .unset] [(.int p6), (.int (5 : Int32)), (.ref b6)])) _
        refine st10 _ ?_
        show Steps p.tables e below (T10.setTop (mkF m 60 #[.val (.int p1), .val (.int p2), .val (.int p3), .val (.int p4), .val (.int p5), .val (.int p6), .val (.int op), .val (.int (0 : Int32)), .val (.int (4 : Int32)), .val (.ref b6), .unset, .unset] [])) _
        refine XS.aload X10.here hx rfl (hb hby at_60) rfl rfl ?_
        show Steps p.tables e below (T10.setTop (mkF m 62 #[.val (.int p1), .val (.int p2), .val (.int p3), .val (.int p4), .val (.int p5), .val (.int p6), .val (.int op), .val (.int (0 : Int32)), .val (.int (4 : Int32)), .val (.ref b6), .unset, .unset] [(.ref b6)])) _
        refine XS.iload X10.here hx rfl (hb hby at_62) rfl ?_
        show Steps p.tables e below (T10.setTop (mkF m 64 #[.val (.int p1), .val (.int p2), .val (.int p3), .val (.int p4), .val (.int p5), .val (.int p6), .val (.int op), .val (.int (0 : Int32)), .val (.int (4 : Int32)), .val (.ref b6), .unset, .unset] [(.int (4 : Int32)), (.ref b6)])) _
        refine XS.iconst X10.here hx rfl (hb hby at_64) ?_
        show Steps p.tables e below (T10.setTop (mkF m 65 #[.val (.int p1), .val (.int p2), .val (.int p3), .val (.int p4), .val (.int p5), .val (.int p6), .val (.int op), .val (.int (0 : Int32)), .val (.int (4 : Int32)), .val (.ref b6), .unset, .unset] [(.int (2 : Int32)), (.int (4 : Int32)), (.ref b6)])) _
        refine XS.iadd X10.here hx rfl (hb hby at_65) rfl ?_
        rw [show ((4 : Int32) + (2 : Int32)) = (6 : Int32) from by decide]
        show Steps p.tables e below (T10.setTop (mkF m 66 #[.val (.int p1), .val (.int p2), .val (.int p3), .val (.int p4), .val (.int p5), .val (.int p6), .val (.int op), .val (.int (0 : Int32)), .val (.int (4 : Int32)), .val (.ref b6), .unset, .unset] [(.int (6 : Int32)), (.ref b6)])) _
        refine XS.iload X10.here hx rfl (hb hby at_66) rfl ?_
        show Steps p.tables e below (T10.setTop (mkF m 68 #[.val (.int p1), .val (.int p2), .val (.int p3), .val (.int p4), .val (.int p5), .val (.int p6), .val (.int op), .val (.int (0 : Int32)), .val (.int (4 : Int32)), .val (.ref b6), .unset, .unset] [(.int p6), (.int (6 : Int32)), (.ref b6)])) _
        refine st12 _ ?_
        show Steps p.tables e below (T12.setTop (mkF m 69 #[.val (.int p1), .val (.int p2), .val (.int p3), .val (.int p4), .val (.int p5), .val (.int p6), .val (.int op), .val (.int (0 : Int32)), .val (.int (4 : Int32)), .val (.ref b6), .unset, .unset] [])) _
        refine XS.aload X12.here hx rfl (hb hby at_69) rfl rfl ?_
        show Steps p.tables e below (T12.setTop (mkF m 71 #[.val (.int p1), .val (.int p2), .val (.int p3), .val (.int p4), .val (.int p5), .val (.int p6), .val (.int op), .val (.int (0 : Int32)), .val (.int (4 : Int32)), .val (.ref b6), .unset, .unset] [(.ref b6)])) _
        refine XS.iload X12.here hx rfl (hb hby at_71) rfl ?_
        show Steps p.tables e below (T12.setTop (mkF m 73 #[.val (.int p1), .val (.int p2), .val (.int p3), .val (.int p4), .val (.int p5), .val (.int p6), .val (.int op), .val (.int (0 : Int32)), .val (.int (4 : Int32)), .val (.ref b6), .unset, .unset] [(.int (4 : Int32)), (.ref b6)])) _
        refine XS.iconst X12.here hx rfl (hb hby at_73) ?_
        show Steps p.tables e below (T12.setTop (mkF m 74 #[.val (.int p1), .val (.int p2), .val (.int p3), .val (.int p4), .val (.int p5), .val (.int p6), .val (.int op), .val (.int (0 : Int32)), .val (.int (4 : Int32)), .val (.ref b6), .unset, .unset] [(.int (3 : Int32)), (.int (4 : Int32)), (.ref b6)])) _
        refine XS.iadd X12.here hx rfl (hb hby at_74) rfl ?_
        rw [show ((4 : Int32) + (3 : Int32)) = (7 : Int32) from by decide]
        show Steps p.tables e below (T12.setTop (mkF m 75 #[.val (.int p1), .val (.int p2), .val (.int p3), .val (.int p4), .val (.int p5), .val (.int p6), .val (.int op), .val (.int (0 : Int32)), .val (.int (4 : Int32)), .val (.ref b6), .unset, .unset] [(.int (7 : Int32)), (.ref b6)])) _
        refine XS.iload X12.here hx rfl (hb hby at_75) rfl ?_
        show Steps p.tables e below (T12.setTop (mkF m 77 #[.val (.int p1), .val (.int p2), .val (.int p3), .val (.int p4), .val (.int p5), .val (.int p6), .val (.int op), .val (.int (0 : Int32)), .val (.int (4 : Int32)), .val (.ref b6), .unset, .unset] [(.int p6), (.int (7 : Int32)), (.ref b6)])) _
        refine st14 _ ?_
        show Steps p.tables e below (T14.setTop (mkF m 78 #[.val (.int p1), .val (.int p2), .val (.int p3), .val (.int p4), .val (.int p5), .val (.int p6), .val (.int op), .val (.int (0 : Int32)), .val (.int (4 : Int32)), .val (.ref b6), .unset, .unset] [])) _
        refine XS.aload X14.here hx rfl (hb hby at_78) rfl rfl ?_
        show Steps p.tables e below (T14.setTop (mkF m 80 #[.val (.int p1), .val (.int p2), .val (.int p3), .val (.int p4), .val (.int p5), .val (.int p6), .val (.int op), .val (.int (0 : Int32)), .val (.int (4 : Int32)), .val (.ref b6), .unset, .unset] [(.ref b6)])) _
        refine XS.iload X14.here hx rfl (hb hby at_80) rfl ?_
        show Steps p.tables e below (T14.setTop (mkF m 82 #[.val (.int p1), .val (.int p2), .val (.int p3), .val (.int p4), .val (.int p5), .val (.int p6), .val (.int op), .val (.int (0 : Int32)), .val (.int (4 : Int32)), .val (.ref b6), .unset, .unset] [(.int (0 : Int32)), (.ref b6)])) _
        refine XS.iload X14.here hx rfl (hb hby at_82) rfl ?_
        show Steps p.tables e below (T14.setTop (mkF m 84 #[.val (.int p1), .val (.int p2), .val (.int p3), .val (.int p4), .val (.int p5), .val (.int p6), .val (.int op), .val (.int (0 : Int32)), .val (.int (4 : Int32)), .val (.ref b6), .unset, .unset] [(.int op), (.int (0 : Int32)), (.ref b6)])) _
        refine st16 _ ?_
        show Steps p.tables e below (T16.setTop (mkF m 85 #[.val (.int p1), .val (.int p2), .val (.int p3), .val (.int p4), .val (.int p5), .val (.int p6), .val (.int op), .val (.int (0 : Int32)), .val (.int (4 : Int32)), .val (.ref b6), .unset, .unset] [])) _
        refine XS.aload X16.here hx rfl (hb hby at_85) rfl rfl ?_
        show Steps p.tables e below (T16.setTop (mkF m 87 #[.val (.int p1), .val (.int p2), .val (.int p3), .val (.int p4), .val (.int p5), .val (.int p6), .val (.int op), .val (.int (0 : Int32)), .val (.int (4 : Int32)), .val (.ref b6), .unset, .unset] [(.ref b6)])) _
        refine XS.iload X16.here hx rfl (hb hby at_87) rfl ?_
        show Steps p.tables e below (T16.setTop (mkF m 89 #[.val (.int p1), .val (.int p2), .val (.int p3), .val (.int p4), .val (.int p5), .val (.int p6), .val (.int op), .val (.int (0 : Int32)), .val (.int (4 : Int32)), .val (.ref b6), .unset, .unset] [(.int (0 : Int32)), (.ref b6)])) _
        refine XS.iconst X16.here hx rfl (hb hby at_89) ?_
        show Steps p.tables e below (T16.setTop (mkF m 90 #[.val (.int p1), .val (.int p2), .val (.int p3), .val (.int p4), .val (.int p5), .val (.int p6), .val (.int op), .val (.int (0 : Int32)), .val (.int (4 : Int32)), .val (.ref b6), .unset, .unset] [(.int (1 : Int32)), (.int (0 : Int32)), (.ref b6)])) _
        refine XS.iadd X16.here hx rfl (hb hby at_90) rfl ?_
        rw [show ((0 : Int32) + (1 : Int32)) = (1 : Int32) from by decide]
        show Steps p.tables e below (T16.setTop (mkF m 91 #[.val (.int p1), .val (.int p2), .val (.int p3), .val (.int p4), .val (.int p5), .val (.int p6), .val (.int op), .val (.int (0 : Int32)), .val (.int (4 : Int32)), .val (.ref b6), .unset, .unset] [(.int (1 : Int32)), (.ref b6)])) _
        refine XS.iloadN X16.here hx rfl (hb hby at_91) rfl ?_
        show Steps p.tables e below (T16.setTop (mkF m 92 #[.val (.int p1), .val (.int p2), .val (.int p3), .val (.int p4), .val (.int p5), .val (.int p6), .val (.int op), .val (.int (0 : Int32)), .val (.int (4 : Int32)), .val (.ref b6), .unset, .unset] [(.int p3), (.int (1 : Int32)), (.ref b6)])) _
        refine st18 _ ?_
        show Steps p.tables e below (T18.setTop (mkF m 93 #[.val (.int p1), .val (.int p2), .val (.int p3), .val (.int p4), .val (.int p5), .val (.int p6), .val (.int op), .val (.int (0 : Int32)), .val (.int (4 : Int32)), .val (.ref b6), .unset, .unset] [])) _
        refine XS.aload X18.here hx rfl (hb hby at_93) rfl rfl ?_
        show Steps p.tables e below (T18.setTop (mkF m 95 #[.val (.int p1), .val (.int p2), .val (.int p3), .val (.int p4), .val (.int p5), .val (.int p6), .val (.int op), .val (.int (0 : Int32)), .val (.int (4 : Int32)), .val (.ref b6), .unset, .unset] [(.ref b6)])) _
        refine XS.iload X18.here hx rfl (hb hby at_95) rfl ?_
        show Steps p.tables e below (T18.setTop (mkF m 97 #[.val (.int p1), .val (.int p2), .val (.int p3), .val (.int p4), .val (.int p5), .val (.int p6), .val (.int op), .val (.int (0 : Int32)), .val (.int (4 : Int32)), .val (.ref b6), .unset, .unset] [(.int (0 : Int32)), (.ref b6)])) _
        refine XS.iconst X18.here hx rfl (hb hby at_97) ?_
        show Steps p.tables e below (T18.setTop (mkF m 98 #[.val (.int p1), .val (.int p2), .val (.int p3), .val (.int p4), .val (.int p5), .val (.int p6), .val (.int op), .val (.int (0 : Int32)), .val (.int (4 : Int32)), .val (.ref b6), .unset, .unset] [(.int (2 : Int32)), (.int (0 : Int32)), (.ref b6)])) _
        refine XS.iadd X18.here hx rfl (hb hby at_98) rfl ?_
        rw [show ((0 : Int32) + (2 : Int32)) = (2 : Int32) from by decide]
        show Steps p.tables e below (T18.setTop (mkF m 99 #[.val (.int p1), .val (.int p2), .val (.int p3), .val (.int p4), .val (.int p5), .val (.int p6), .val (.int op), .val (.int (0 : Int32)), .val (.int (4 : Int32)), .val (.ref b6), .unset, .unset] [(.int (2 : Int32)), (.ref b6)])) _
        refine XS.iloadN X18.here hx rfl (hb hby at_99) rfl ?_
        show Steps p.tables e below (T18.setTop (mkF m 100 #[.val (.int p1), .val (.int p2), .val (.int p3), .val (.int p4), .val (.int p5), .val (.int p6), .val (.int op), .val (.int (0 : Int32)), .val (.int (4 : Int32)), .val (.ref b6), .unset, .unset] [(.int p4), (.int (2 : Int32)), (.ref b6)])) _
        refine st20 _ ?_
        show Steps p.tables e below (T20.setTop (mkF m 101 #[.val (.int p1), .val (.int p2), .val (.int p3), .val (.int p4), .val (.int p5), .val (.int p6), .val (.int op), .val (.int (0 : Int32)), .val (.int (4 : Int32)), .val (.ref b6), .unset, .unset] [])) _
        refine XS.aload X20.here hx rfl (hb hby at_101) rfl rfl ?_
        show Steps p.tables e below (T20.setTop (mkF m 103 #[.val (.int p1), .val (.int p2), .val (.int p3), .val (.int p4), .val (.int p5), .val (.int p6), .val (.int op), .val (.int (0 : Int32)), .val (.int (4 : Int32)), .val (.ref b6), .unset, .unset] [(.ref b6)])) _
        refine XS.iload X20.here hx rfl (hb hby at_103) rfl ?_
        show Steps p.tables e below (T20.setTop (mkF m 105 #[.val (.int p1), .val (.int p2), .val (.int p3), .val (.int p4), .val (.int p5), .val (.int p6), .val (.int op), .val (.int (0 : Int32)), .val (.int (4 : Int32)), .val (.ref b6), .unset, .unset] [(.int (0 : Int32)), (.ref b6)])) _
        refine XS.iconst X20.here hx rfl (hb hby at_105) ?_
        show Steps p.tables e below (T20.setTop (mkF m 106 #[.val (.int p1), .val (.int p2), .val (.int p3), .val (.int p4), .val (.int p5), .val (.int p6), .val (.int op), .val (.int (0 : Int32)), .val (.int (4 : Int32)), .val (.ref b6), .unset, .unset] [(.int (3 : Int32)), (.int (0 : Int32)), (.ref b6)])) _
        refine XS.iadd X20.here hx rfl (hb hby at_106) rfl ?_
        rw [show ((0 : Int32) + (3 : Int32)) = (3 : Int32) from by decide]
        show Steps p.tables e below (T20.setTop (mkF m 107 #[.val (.int p1), .val (.int p2), .val (.int p3), .val (.int p4), .val (.int p5), .val (.int p6), .val (.int op), .val (.int (0 : Int32)), .val (.int (4 : Int32)), .val (.ref b6), .unset, .unset] [(.int (3 : Int32)), (.ref b6)])) _
        refine XS.iload X20.here hx rfl (hb hby at_107) rfl ?_
        show Steps p.tables e below (T20.setTop (mkF m 109 #[.val (.int p1), .val (.int p2), .val (.int p3), .val (.int p4), .val (.int p5), .val (.int p6), .val (.int op), .val (.int (0 : Int32)), .val (.int (4 : Int32)), .val (.ref b6), .unset, .unset] [(.int p5), (.int (3 : Int32)), (.ref b6)])) _
        refine st22 _ ?_
        exact k
      by_cases hc23 : op < (12 : Int32)
      · have o25 : Old Z n0 h22 := (Old.wr (Old.wr (Old.wr (Old.wr (Old.wr (Old.wr (Old.wr (Old.wr (Old.ext O0 E6) W8 gz_b6) W10 gz_b6) W12 gz_b6) W14 gz_b6) W16 gz_b6) W18 gz_b6) W20 gz_b6) W22 gz_b6)
        obtain ⟨_, _, ⟨T26, L26, k26, n26⟩, -, X26, ⟨Lc26, hQ26, l26, y26, z26⟩, st26⟩ := Jvm.LawKit.callS X22 hx (y := (⟨"com/example/chalkline/chalkline/runtime/MachineCodeTargetPinLaw", "targetOperand", "(I)I"⟩ : MethodName)) hown (mvT hZ (hw _ (List.mem_of_getElem? (i := 1) rfl))) (mvT hZ (hw _ (List.mem_of_getElem? (i := 2) rfl))) (mvT hZ (hw _ (List.mem_of_getElem? (i := 3) rfl))) (mvT hZ (hw _ (List.mem_of_getElem? (i := 4) rfl))) (by decide) (backOf (W := 0) (rmOp l Z a0 hw [] op (0 : Int32) h22 n0 o25 (by rw [if_pos hc23])) hZ (hw _ (List.mem_of_getElem? (i := 4) rfl)) (hw _ (List.mem_of_getElem? (i := 3) rfl)) (by decide) (by decide)) (g := (mkF m 112 #[.val (.int p1), .val (.int p2), .val (.int p3), .val (.int p4), .val (.int p5), .val (.int p6), .val (.int op), .val (.int (0 : Int32)), .val (.int (4 : Int32)), .val (.ref b6), .unset, .unset] [(.int op)])) rfl (by rw [hml]; rfl) (argsL := [(.int op)]) (rest := []) (lenOf own_pd0 rfl) rfl (by show 2 * 0 + _ ≤ _; exact Nat.le_of_eq rfl) (hb hby at_112) (fun _ _ => ⟨rfl, e22, (by decide : 1 + 0 ≤ _), (by decide : 8 + 0 ≤ _)⟩)
        dsimp only [Pt.U, Pt.locs, Pt.cells, Pt.slots] at X26 l26 y26 z26 st26 hQ26
        subst l26 y26 z26
        obtain ⟨rfl, Nq26, e26⟩ := hQ26
        have N26 := Fr.app N22 Nq26
        obtain ⟨_, _, ⟨T27, L27, k27, n27⟩, -, X27, ⟨Lc27, hQ27, l27, y27, z27⟩, st27⟩ := Jvm.LawKit.callS X26 hx (y := (⟨"com/example/chalkline/chalkline/runtime/MachineCode", "target", "([II)I"⟩ : MethodName)) hown (mvT hZ (hw _ (List.mem_of_getElem? (i := 5) rfl))) (mvT hZ (hw _ (List.mem_of_getElem? (i := 6) rfl))) (mvT hZ (hw _ (List.mem_of_getElem? (i := 7) rfl))) (mvT hZ (hw _ (List.mem_of_getElem? (i := 8) rfl))) (by decide) (backOf (W := 0) (rmT0 l Z a0 hw [] b6 k6 op p3 p4 p5 p6 p6 p6 p6 (-1 : Int32) h22 n0 o25 V22a (by rw [if_neg (fun q => by rw [q] at hc23; exact absurd hc23 (by decide)), if_neg (fun q => by rw [q] at hc23; exact absurd hc23 (by decide)), if_neg (fun q => by rw [q] at hc23; exact absurd hc23 (by decide)), if_pos hc23])) hZ (hw _ (List.mem_of_getElem? (i := 8) rfl)) (hw _ (List.mem_of_getElem? (i := 7) rfl)) (by decide) (by decide)) (g := (mkF m 155 #[.val (.int p1), .val (.int p2), .val (.int p3), .val (.int p4), .val (.int p5), .val (.int p6), .val (.int op), .val (.int (0 : Int32)), .val (.int (4 : Int32)), .val (.ref b6), .val (.int (0 : Int32)), .val (.int (-1 : Int32))] [(.int (0 : Int32)), (.ref b6)])) rfl (by rw [hml]; rfl) (argsL := [(.ref b6), (.int (0 : Int32))]) (rest := []) (lenOf own_pd1 rfl) rfl (by show 2 * 0 + _ ≤ _; exact Nat.le_of_eq rfl) (hb hby at_155) (fun _ _ => ⟨rfl, e26, (by decide : 1 + 0 ≤ _), (by decide : 8 + 0 ≤ _)⟩)
        dsimp only [Pt.U, Pt.locs, Pt.cells, Pt.slots] at X27 l27 y27 z27 st27 hQ27
        subst l27 y27 z27
        obtain ⟨rfl, Nq27, e27⟩ := hQ27
        have N27 := Fr.app N26 Nq27
        have g28 : ∀ t, Steps p.tables e below (T27.setTop (mkF m 168 #[.val (.int p1), .val (.int p2), .val (.int p3), .val (.int p4), .val (.int p5), .val (.int p6), .val (.int op), .val (.int (0 : Int32)), .val (.int (4 : Int32)), .val (.ref b6), .val (.int (0 : Int32)), .val (.int (-1 : Int32))] [(.int (1 : Int32))])) t → Steps p.tables e below (s₁.setTop (entryFrame m #[(.int p1), (.int p2), (.int p3), (.int p4), (.int p5), (.int p6)] maxLocals)) t := by
          intro t k
          refine g24 t ?_
          show Steps p.tables e below (T22.setTop (mkF m 110 #[.val (.int p1), .val (.int p2), .val (.int p3), .val (.int p4), .val (.int p5), .val (.int p6), .val (.int op), .val (.int (0 : Int32)), .val (.int (4 : Int32)), .val (.ref b6), .unset, .unset] [])) _
          refine XS.iload X22.here hx rfl (hb hby at_110) rfl ?_
          show Steps p.tables e below (T22.setTop (mkF m 112 #[.val (.int p1), .val (.int p2), .val (.int p3), .val (.int p4), .val (.int p5), .val (.int p6), .val (.int op), .val (.int (0 : Int32)), .val (.int (4 : Int32)), .val (.ref b6), .unset, .unset] [(.int op)])) _
          refine st26 _ ?_
          show Steps p.tables e below (T26.setTop (mkF m 115 #[.val (.int p1), .val (.int p2), .val (.int p3), .val (.int p4), .val (.int p5), .val (.int p6), .val (.int op), .val (.int (0 : Int32)), .val (.int (4 : Int32)), .val (.ref b6), .unset, .unset] [(.int (0 : Int32))])) _
          refine XS.istore X26.here hx rfl (hb hby at_115) rfl (l' := #[.val (.int p1), .val (.int p2), .val (.int p3), .val (.int p4), .val (.int p5), .val (.int p6), .val (.int op), .val (.int (0 : Int32)), .val (.int (4 : Int32)), .val (.ref b6), .val (.int (0 : Int32)), .unset]) rfl ?_
          show Steps p.tables e below (T26.setTop (mkF m 117 #[.val (.int p1), .val (.int p2), .val (.int p3), .val (.int p4), .val (.int p5), .val (.int p6), .val (.int op), .val (.int (0 : Int32)), .val (.int (4 : Int32)), .val (.ref b6), .val (.int (0 : Int32)), .unset] [])) _
          refine XS.iload X26.here hx rfl (hb hby at_117) rfl ?_
          show Steps p.tables e below (T26.setTop (mkF m 119 #[.val (.int p1), .val (.int p2), .val (.int p3), .val (.int p4), .val (.int p5), .val (.int p6), .val (.int op), .val (.int (0 : Int32)), .val (.int (4 : Int32)), .val (.ref b6), .val (.int (0 : Int32)), .unset] [(.int (0 : Int32))])) _
          refine XS.iconst X26.here hx rfl (hb hby at_119) ?_
          show Steps p.tables e below (T26.setTop (mkF m 120 #[.val (.int p1), .val (.int p2), .val (.int p3), .val (.int p4), .val (.int p5), .val (.int p6), .val (.int op), .val (.int (0 : Int32)), .val (.int (4 : Int32)), .val (.ref b6), .val (.int (0 : Int32)), .unset] [(.int (1 : Int32)), (.int (0 : Int32))])) _
          refine XS.icmpYes X26.here hx rfl (pc0 := 120) (pc' := 127) rfl (hb hby at_120) rfl (feq (by decide : ¬ ((0 : Int32) = (1 : Int32)))).2 (by decide) (by decide) ?_
          show Steps p.tables e below (T26.setTop (mkF m 127 #[.val (.int p1), .val (.int p2), .val (.int p3), .val (.int p4), .val (.int p5), .val (.int p6), .val (.int op), .val (.int (0 : Int32)), .val (.int (4 : Int32)), .val (.ref b6), .val (.int (0 : Int32)), .unset] [])) _
          refine XS.iload X26.here hx rfl (hb hby at_127) rfl ?_
          show Steps p.tables e below (T26.setTop (mkF m 129 #[.val (.int p1), .val (.int p2), .val (.int p3), .val (.int p4), .val (.int p5), .val (.int p6), .val (.int op), .val (.int (0 : Int32)), .val (.int (4 : Int32)), .val (.ref b6), .val (.int (0 : Int32)), .unset] [(.int (0 : Int32))])) _
          refine XS.iconst X26.here hx rfl (hb hby at_129) ?_
          show Steps p.tables e below (T26.setTop (mkF m 130 #[.val (.int p1), .val (.int p2), .val (.int p3), .val (.int p4), .val (.int p5), .val (.int p6), .val (.int op), .val (.int (0 : Int32)), .val (.int (4 : Int32)), .val (.ref b6), .val (.int (0 : Int32)), .unset] [(.int (2 : Int32)), (.int (0 : Int32))])) _
          refine XS.icmpYes X26.here hx rfl (pc0 := 130) (pc' := 137) rfl (hb hby at_130) rfl (feq (by decide : ¬ ((0 : Int32) = (2 : Int32)))).2 (by decide) (by decide) ?_
          show Steps p.tables e below (T26.setTop (mkF m 137 #[.val (.int p1), .val (.int p2), .val (.int p3), .val (.int p4), .val (.int p5), .val (.int p6), .val (.int op), .val (.int (0 : Int32)), .val (.int (4 : Int32)), .val (.ref b6), .val (.int (0 : Int32)), .unset] [])) _
          refine XS.iload X26.here hx rfl (hb hby at_137) rfl ?_
          show Steps p.tables e below (T26.setTop (mkF m 139 #[.val (.int p1), .val (.int p2), .val (.int p3), .val (.int p4), .val (.int p5), .val (.int p6), .val (.int op), .val (.int (0 : Int32)), .val (.int (4 : Int32)), .val (.ref b6), .val (.int (0 : Int32)), .unset] [(.int (0 : Int32))])) _
          refine XS.iconst X26.here hx rfl (hb hby at_139) ?_
          show Steps p.tables e below (T26.setTop (mkF m 140 #[.val (.int p1), .val (.int p2), .val (.int p3), .val (.int p4), .val (.int p5), .val (.int p6), .val (.int op), .val (.int (0 : Int32)), .val (.int (4 : Int32)), .val (.ref b6), .val (.int (0 : Int32)), .unset] [(.int (3 : Int32)), (.int (0 : Int32))])) _
          refine XS.icmpYes X26.here hx rfl (pc0 := 140) (pc' := 148) rfl (hb hby at_140) rfl (feq (by decide : ¬ ((0 : Int32) = (3 : Int32)))).2 (by decide) (by decide) ?_
          show Steps p.tables e below (T26.setTop (mkF m 148 #[.val (.int p1), .val (.int p2), .val (.int p3), .val (.int p4), .val (.int p5), .val (.int p6), .val (.int op), .val (.int (0 : Int32)), .val (.int (4 : Int32)), .val (.ref b6), .val (.int (0 : Int32)), .unset] [])) _
          refine XS.iconst X26.here hx rfl (hb hby at_148) ?_
          show Steps p.tables e below (T26.setTop (mkF m 149 #[.val (.int p1), .val (.int p2), .val (.int p3), .val (.int p4), .val (.int p5), .val (.int p6), .val (.int op), .val (.int (0 : Int32)), .val (.int (4 : Int32)), .val (.ref b6), .val (.int (0 : Int32)), .unset] [(.int (-1 : Int32))])) _
          refine XS.istore X26.here hx rfl (hb hby at_149) rfl (l' := #[.val (.int p1), .val (.int p2), .val (.int p3), .val (.int p4), .val (.int p5), .val (.int p6), .val (.int op), .val (.int (0 : Int32)), .val (.int (4 : Int32)), .val (.ref b6), .val (.int (0 : Int32)), .val (.int (-1 : Int32))]) rfl ?_
          show Steps p.tables e below (T26.setTop (mkF m 151 #[.val (.int p1), .val (.int p2), .val (.int p3), .val (.int p4), .val (.int p5), .val (.int p6), .val (.int op), .val (.int (0 : Int32)), .val (.int (4 : Int32)), .val (.ref b6), .val (.int (0 : Int32)), .val (.int (-1 : Int32))] [])) _
          refine XS.aload X26.here hx rfl (hb hby at_151) rfl rfl ?_
          show Steps p.tables e below (T26.setTop (mkF m 153 #[.val (.int p1), .val (.int p2), .val (.int p3), .val (.int p4), .val (.int p5), .val (.int p6), .val (.int op), .val (.int (0 : Int32)), .val (.int (4 : Int32)), .val (.ref b6), .val (.int (0 : Int32)), .val (.int (-1 : Int32))] [(.ref b6)])) _
          refine XS.iload X26.here hx rfl (hb hby at_153) rfl ?_
          show Steps p.tables e below (T26.setTop (mkF m 155 #[.val (.int p1), .val (.int p2), .val (.int p3), .val (.int p4), .val (.int p5), .val (.int p6), .val (.int op), .val (.int (0 : Int32)), .val (.int (4 : Int32)), .val (.ref b6), .val (.int (0 : Int32)), .val (.int (-1 : Int32))] [(.int (0 : Int32)), (.ref b6)])) _
          refine st27 _ ?_
          show Steps p.tables e below (T27.setTop (mkF m 158 #[.val (.int p1), .val (.int p2), .val (.int p3), .val (.int p4), .val (.int p5), .val (.int p6), .val (.int op), .val (.int (0 : Int32)), .val (.int (4 : Int32)), .val (.ref b6), .val (.int (0 : Int32)), .val (.int (-1 : Int32))] [(.int (-1 : Int32))])) _
          refine XS.iload X27.here hx rfl (hb hby at_158) rfl ?_
          show Steps p.tables e below (T27.setTop (mkF m 160 #[.val (.int p1), .val (.int p2), .val (.int p3), .val (.int p4), .val (.int p5), .val (.int p6), .val (.int op), .val (.int (0 : Int32)), .val (.int (4 : Int32)), .val (.ref b6), .val (.int (0 : Int32)), .val (.int (-1 : Int32))] [(.int (-1 : Int32)), (.int (-1 : Int32))])) _
          refine XS.icmpNo X27.here hx rfl (hb hby at_160) rfl (teq (by decide : (-1 : Int32) = (-1 : Int32))).2 ?_
          show Steps p.tables e below (T27.setTop (mkF m 163 #[.val (.int p1), .val (.int p2), .val (.int p3), .val (.int p4), .val (.int p5), .val (.int p6), .val (.int op), .val (.int (0 : Int32)), .val (.int (4 : Int32)), .val (.ref b6), .val (.int (0 : Int32)), .val (.int (-1 : Int32))] [])) _
          refine XS.iconst X27.here hx rfl (hb hby at_163) ?_
          show Steps p.tables e below (T27.setTop (mkF m 164 #[.val (.int p1), .val (.int p2), .val (.int p3), .val (.int p4), .val (.int p5), .val (.int p6), .val (.int op), .val (.int (0 : Int32)), .val (.int (4 : Int32)), .val (.ref b6), .val (.int (0 : Int32)), .val (.int (-1 : Int32))] [(.int (1 : Int32))])) _
          refine XS.goto X27.here hx rfl (pc0 := 164) (pc' := 168) rfl (hb hby at_164) (by decide) (by decide) ?_
          exact k
        obtain ⟨fs, hrt, hrun, hended, hW, hsame⟩ := X27.leave (v := some (.int (1 : Int32))) (fun h => by rw [Bd.returns] at h; cases h)
        refine ⟨_, _, g28 _ ?_, hrun, hended, _, _, rfl, ?_, ⟨_, rfl⟩, hW, hsame.mono (by decide) (by decide)⟩
        · show Steps p.tables e below (T27.setTop (mkF m 168 #[.val (.int p1), .val (.int p2), .val (.int p3), .val (.int p4), .val (.int p5), .val (.int p6), .val (.int op), .val (.int (0 : Int32)), .val (.int (4 : Int32)), .val (.ref b6), .val (.int (0 : Int32)), .val (.int (-1 : Int32))] [(.int (1 : Int32))])) _
          exact retN X27 hx (t := .boolean) Bd.returns (by simp) (hb hby at_168) hrt
        · show own_Q_rm0 Z p1 p2 p3 p4 p5 p6 h0 n0 _ T27.heap _
          rw [e27]
          exact ⟨rfl, N27⟩
      · by_cases hc29 : (21 : Int32) < op
        · by_cases hc30 : op = (27 : Int32)
          · have o31 : Old Z n0 h22 := (Old.wr (Old.wr (Old.wr (Old.wr (Old.wr (Old.wr (Old.wr (Old.wr (Old.ext O0 E6) W8 gz_b6) W10 gz_b6) W12 gz_b6) W14 gz_b6) W16 gz_b6) W18 gz_b6) W20 gz_b6) W22 gz_b6)
            obtain ⟨_, _, ⟨T32, L32, k32, n32⟩, -, X32, ⟨Lc32, hQ32, l32, y32, z32⟩, st32⟩ := Jvm.LawKit.callS X22 hx (y := (⟨"com/example/chalkline/chalkline/runtime/MachineCodeTargetPinLaw", "targetOperand", "(I)I"⟩ : MethodName)) hown (mvT hZ (hw _ (List.mem_of_getElem? (i := 1) rfl))) (mvT hZ (hw _ (List.mem_of_getElem? (i := 2) rfl))) (mvT hZ (hw _ (List.mem_of_getElem? (i := 3) rfl))) (mvT hZ (hw _ (List.mem_of_getElem? (i := 4) rfl))) (by decide) (backOf (W := 0) (rmOp l Z a0 hw [] op (1 : Int32) h22 n0 o31 (by rw [if_neg hc23, if_pos hc29, if_pos hc30])) hZ (hw _ (List.mem_of_getElem? (i := 4) rfl)) (hw _ (List.mem_of_getElem? (i := 3) rfl)) (by decide) (by decide)) (g := (mkF m 112 #[.val (.int p1), .val (.int p2), .val (.int p3), .val (.int p4), .val (.int p5), .val (.int p6), .val (.int op), .val (.int (0 : Int32)), .val (.int (4 : Int32)), .val (.ref b6), .unset, .unset] [(.int op)])) rfl (by rw [hml]; rfl) (argsL := [(.int op)]) (rest := []) (lenOf own_pd0 rfl) rfl (by show 2 * 0 + _ ≤ _; exact Nat.le_of_eq rfl) (hb hby at_112) (fun _ _ => ⟨rfl, e22, (by decide : 1 + 0 ≤ _), (by decide : 8 + 0 ≤ _)⟩)
            dsimp only [Pt.U, Pt.locs, Pt.cells, Pt.slots] at X32 l32 y32 z32 st32 hQ32
            subst l32 y32 z32
            obtain ⟨rfl, Nq32, e32⟩ := hQ32
            have N32 := Fr.app N22 Nq32
            obtain ⟨_, _, ⟨T33, L33, k33, n33⟩, -, X33, ⟨Lc33, hQ33, l33, y33, z33⟩, st33⟩ := Jvm.LawKit.callS X32 hx (y := (⟨"com/example/chalkline/chalkline/runtime/MachineCode", "target", "([II)I"⟩ : MethodName)) hown (mvT hZ (hw _ (List.mem_of_getElem? (i := 5) rfl))) (mvT hZ (hw _ (List.mem_of_getElem? (i := 6) rfl))) (mvT hZ (hw _ (List.mem_of_getElem? (i := 7) rfl))) (mvT hZ (hw _ (List.mem_of_getElem? (i := 8) rfl))) (by decide) (backOf (W := 0) (rmT0 l Z a0 hw [] b6 k6 op p3 p4 p5 p6 p6 p6 p6 p3 h22 n0 o31 V22a (by rw [if_pos hc30])) hZ (hw _ (List.mem_of_getElem? (i := 8) rfl)) (hw _ (List.mem_of_getElem? (i := 7) rfl)) (by decide) (by decide)) (g := (mkF m 155 #[.val (.int p1), .val (.int p2), .val (.int p3), .val (.int p4), .val (.int p5), .val (.int p6), .val (.int op), .val (.int (0 : Int32)), .val (.int (4 : Int32)), .val (.ref b6), .val (.int (1 : Int32)), .val (.int p3)] [(.int (0 : Int32)), (.ref b6)])) rfl (by rw [hml]; rfl) (argsL := [(.ref b6), (.int (0 : Int32))]) (rest := []) (lenOf own_pd1 rfl) rfl (by show 2 * 0 + _ ≤ _; exact Nat.le_of_eq rfl) (hb hby at_155) (fun _ _ => ⟨rfl, e32, (by decide : 1 + 0 ≤ _), (by decide : 8 + 0 ≤ _)⟩)
            dsimp only [Pt.U, Pt.locs, Pt.cells, Pt.slots] at X33 l33 y33 z33 st33 hQ33
            subst l33 y33 z33
            obtain ⟨rfl, Nq33, e33⟩ := hQ33
            have N33 := Fr.app N32 Nq33
            have hc34 : p3 = p3 := rfl
            have g35 : ∀ t, Steps p.tables e below (T33.setTop (mkF m 168 #[.val (.int p1), .val (.int p2), .val (.int p3), .val (.int p4), .val (.int p5), .val (.int p6), .val (.int op), .val (.int (0 : Int32)), .val (.int (4 : Int32)), .val (.ref b6), .val (.int (1 : Int32)), .val (.int p3)] [(.int (1 : Int32))])) t → Steps p.tables e below (s₁.setTop (entryFrame m #[(.int p1), (.int p2), (.int p3), (.int p4), (.int p5), (.int p6)] maxLocals)) t := by
              intro t k
              refine g24 t ?_
              show Steps p.tables e below (T22.setTop (mkF m 110 #[.val (.int p1), .val (.int p2), .val (.int p3), .val (.int p4), .val (.int p5), .val (.int p6), .val (.int op), .val (.int (0 : Int32)), .val (.int (4 : Int32)), .val (.ref b6), .unset, .unset] [])) _
              refine XS.iload X22.here hx rfl (hb hby at_110) rfl ?_
              show Steps p.tables e below (T22.setTop (mkF m 112 #[.val (.int p1), .val (.int p2), .val (.int p3), .val (.int p4), .val (.int p5), .val (.int p6), .val (.int op), .val (.int (0 : Int32)), .val (.int (4 : Int32)), .val (.ref b6), .unset, .unset] [(.int op)])) _
              refine st32 _ ?_
              show Steps p.tables e below (T32.setTop (mkF m 115 #[.val (.int p1), .val (.int p2), .val (.int p3), .val (.int p4), .val (.int p5), .val (.int p6), .val (.int op), .val (.int (0 : Int32)), .val (.int (4 : Int32)), .val (.ref b6), .unset, .unset] [(.int (1 : Int32))])) _
              refine XS.istore X32.here hx rfl (hb hby at_115) rfl (l' := #[.val (.int p1), .val (.int p2), .val (.int p3), .val (.int p4), .val (.int p5), .val (.int p6), .val (.int op), .val (.int (0 : Int32)), .val (.int (4 : Int32)), .val (.ref b6), .val (.int (1 : Int32)), .unset]) rfl ?_
              show Steps p.tables e below (T32.setTop (mkF m 117 #[.val (.int p1), .val (.int p2), .val (.int p3), .val (.int p4), .val (.int p5), .val (.int p6), .val (.int op), .val (.int (0 : Int32)), .val (.int (4 : Int32)), .val (.ref b6), .val (.int (1 : Int32)), .unset] [])) _
              refine XS.iload X32.here hx rfl (hb hby at_117) rfl ?_
              show Steps p.tables e below (T32.setTop (mkF m 119 #[.val (.int p1), .val (.int p2), .val (.int p3), .val (.int p4), .val (.int p5), .val (.int p6), .val (.int op), .val (.int (0 : Int32)), .val (.int (4 : Int32)), .val (.ref b6), .val (.int (1 : Int32)), .unset] [(.int (1 : Int32))])) _
              refine XS.iconst X32.here hx rfl (hb hby at_119) ?_
              show Steps p.tables e below (T32.setTop (mkF m 120 #[.val (.int p1), .val (.int p2), .val (.int p3), .val (.int p4), .val (.int p5), .val (.int p6), .val (.int op), .val (.int (0 : Int32)), .val (.int (4 : Int32)), .val (.ref b6), .val (.int (1 : Int32)), .unset] [(.int (1 : Int32)), (.int (1 : Int32))])) _
              refine XS.icmpNo X32.here hx rfl (hb hby at_120) rfl (teq (by decide : (1 : Int32) = (1 : Int32))).2 ?_
              show Steps p.tables e below (T32.setTop (mkF m 123 #[.val (.int p1), .val (.int p2), .val (.int p3), .val (.int p4), .val (.int p5), .val (.int p6), .val (.int op), .val (.int (0 : Int32)), .val (.int (4 : Int32)), .val (.ref b6), .val (.int (1 : Int32)), .unset] [])) _
              refine XS.iloadN X32.here hx rfl (hb hby at_123) rfl ?_
              show Steps p.tables e below (T32.setTop (mkF m 124 #[.val (.int p1), .val (.int p2), .val (.int p3), .val (.int p4), .val (.int p5), .val (.int p6), .val (.int op), .val (.int (0 : Int32)), .val (.int (4 : Int32)), .val (.ref b6), .val (.int (1 : Int32)), .unset] [(.int p3)])) _
              refine XS.goto X32.here hx rfl (pc0 := 124) (pc' := 149) rfl (hb hby at_124) (by decide) (by decide) ?_
              show Steps p.tables e below (T32.setTop (mkF m 149 #[.val (.int p1), .val (.int p2), .val (.int p3), .val (.int p4), .val (.int p5), .val (.int p6), .val (.int op), .val (.int (0 : Int32)), .val (.int (4 : Int32)), .val (.ref b6), .val (.int (1 : Int32)), .unset] [(.int p3)])) _
              refine XS.istore X32.here hx rfl (hb hby at_149) rfl (l' := #[.val (.int p1), .val (.int p2), .val (.int p3), .val (.int p4), .val (.int p5), .val (.int p6), .val (.int op), .val (.int (0 : Int32)), .val (.int (4 : Int32)), .val (.ref b6), .val (.int (1 : Int32)), .val (.int p3)]) rfl ?_
              show Steps p.tables e below (T32.setTop (mkF m 151 #[.val (.int p1), .val (.int p2), .val (.int p3), .val (.int p4), .val (.int p5), .val (.int p6), .val (.int op), .val (.int (0 : Int32)), .val (.int (4 : Int32)), .val (.ref b6), .val (.int (1 : Int32)), .val (.int p3)] [])) _
              refine XS.aload X32.here hx rfl (hb hby at_151) rfl rfl ?_
              show Steps p.tables e below (T32.setTop (mkF m 153 #[.val (.int p1), .val (.int p2), .val (.int p3), .val (.int p4), .val (.int p5), .val (.int p6), .val (.int op), .val (.int (0 : Int32)), .val (.int (4 : Int32)), .val (.ref b6), .val (.int (1 : Int32)), .val (.int p3)] [(.ref b6)])) _
              refine XS.iload X32.here hx rfl (hb hby at_153) rfl ?_
              show Steps p.tables e below (T32.setTop (mkF m 155 #[.val (.int p1), .val (.int p2), .val (.int p3), .val (.int p4), .val (.int p5), .val (.int p6), .val (.int op), .val (.int (0 : Int32)), .val (.int (4 : Int32)), .val (.ref b6), .val (.int (1 : Int32)), .val (.int p3)] [(.int (0 : Int32)), (.ref b6)])) _
              refine st33 _ ?_
              show Steps p.tables e below (T33.setTop (mkF m 158 #[.val (.int p1), .val (.int p2), .val (.int p3), .val (.int p4), .val (.int p5), .val (.int p6), .val (.int op), .val (.int (0 : Int32)), .val (.int (4 : Int32)), .val (.ref b6), .val (.int (1 : Int32)), .val (.int p3)] [(.int p3)])) _
              refine XS.iload X33.here hx rfl (hb hby at_158) rfl ?_
              show Steps p.tables e below (T33.setTop (mkF m 160 #[.val (.int p1), .val (.int p2), .val (.int p3), .val (.int p4), .val (.int p5), .val (.int p6), .val (.int op), .val (.int (0 : Int32)), .val (.int (4 : Int32)), .val (.ref b6), .val (.int (1 : Int32)), .val (.int p3)] [(.int p3), (.int p3)])) _
              refine XS.icmpNo X33.here hx rfl (hb hby at_160) rfl (teq hc34).2 ?_
              show Steps p.tables e below (T33.setTop (mkF m 163 #[.val (.int p1), .val (.int p2), .val (.int p3), .val (.int p4), .val (.int p5), .val (.int p6), .val (.int op), .val (.int (0 : Int32)), .val (.int (4 : Int32)), .val (.ref b6), .val (.int (1 : Int32)), .val (.int p3)] [])) _
              refine XS.iconst X33.here hx rfl (hb hby at_163) ?_
              show Steps p.tables e below (T33.setTop (mkF m 164 #[.val (.int p1), .val (.int p2), .val (.int p3), .val (.int p4), .val (.int p5), .val (.int p6), .val (.int op), .val (.int (0 : Int32)), .val (.int (4 : Int32)), .val (.ref b6), .val (.int (1 : Int32)), .val (.int p3)] [(.int (1 : Int32))])) _
              refine XS.goto X33.here hx rfl (pc0 := 164) (pc' := 168) rfl (hb hby at_164) (by decide) (by decide) ?_
              exact k
            obtain ⟨fs, hrt, hrun, hended, hW, hsame⟩ := X33.leave (v := some (.int (1 : Int32))) (fun h => by rw [Bd.returns] at h; cases h)
            refine ⟨_, _, g35 _ ?_, hrun, hended, _, _, rfl, ?_, ⟨_, rfl⟩, hW, hsame.mono (by decide) (by decide)⟩
            · show Steps p.tables e below (T33.setTop (mkF m 168 #[.val (.int p1), .val (.int p2), .val (.int p3), .val (.int p4), .val (.int p5), .val (.int p6), .val (.int op), .val (.int (0 : Int32)), .val (.int (4 : Int32)), .val (.ref b6), .val (.int (1 : Int32)), .val (.int p3)] [(.int (1 : Int32))])) _
              exact retN X33 hx (t := .boolean) Bd.returns (by simp) (hb hby at_168) hrt
            · show own_Q_rm0 Z p1 p2 p3 p4 p5 p6 h0 n0 _ T33.heap _
              rw [e33]
              exact ⟨rfl, N33⟩
          · by_cases hc36 : op = (28 : Int32)
            · have o37 : Old Z n0 h22 := (Old.wr (Old.wr (Old.wr (Old.wr (Old.wr (Old.wr (Old.wr (Old.wr (Old.ext O0 E6) W8 gz_b6) W10 gz_b6) W12 gz_b6) W14 gz_b6) W16 gz_b6) W18 gz_b6) W20 gz_b6) W22 gz_b6)
              obtain ⟨_, _, ⟨T38, L38, k38, n38⟩, -, X38, ⟨Lc38, hQ38, l38, y38, z38⟩, st38⟩ := Jvm.LawKit.callS X22 hx (y := (⟨"com/example/chalkline/chalkline/runtime/MachineCodeTargetPinLaw", "targetOperand", "(I)I"⟩ : MethodName)) hown (mvT hZ (hw _ (List.mem_of_getElem? (i := 1) rfl))) (mvT hZ (hw _ (List.mem_of_getElem? (i := 2) rfl))) (mvT hZ (hw _ (List.mem_of_getElem? (i := 3) rfl))) (mvT hZ (hw _ (List.mem_of_getElem? (i := 4) rfl))) (by decide) (backOf (W := 0) (rmOp l Z a0 hw [] op (2 : Int32) h22 n0 o37 (by rw [if_neg hc23, if_pos hc29, if_neg hc30, if_pos hc36])) hZ (hw _ (List.mem_of_getElem? (i := 4) rfl)) (hw _ (List.mem_of_getElem? (i := 3) rfl)) (by decide) (by decide)) (g := (mkF m 112 #[.val (.int p1), .val (.int p2), .val (.int p3), .val (.int p4), .val (.int p5), .val (.int p6), .val (.int op), .val (.int (0 : Int32)), .val (.int (4 : Int32)), .val (.ref b6), .unset, .unset] [(.int op)])) rfl (by rw [hml]; rfl) (argsL := [(.int op)]) (rest := []) (lenOf own_pd0 rfl) rfl (by show 2 * 0 + _ ≤ _; exact Nat.le_of_eq rfl) (hb hby at_112) (fun _ _ => ⟨rfl, e22, (by decide : 1 + 0 ≤ _), (by decide : 8 + 0 ≤ _)⟩)
              dsimp only [Pt.U, Pt.locs, Pt.cells, Pt.slots] at X38 l38 y38 z38 st38 hQ38
              subst l38 y38 z38
              obtain ⟨rfl, Nq38, e38⟩ := hQ38
              have N38 := Fr.app N22 Nq38
              obtain ⟨_, _, ⟨T39, L39, k39, n39⟩, -, X39, ⟨Lc39, hQ39, l39, y39, z39⟩, st39⟩ := Jvm.LawKit.callS X38 hx (y := (⟨"com/example/chalkline/chalkline/runtime/MachineCode", "target", "([II)I"⟩ : MethodName)) hown (mvT hZ (hw _ (List.mem_of_getElem? (i := 5) rfl))) (mvT hZ (hw _ (List.mem_of_getElem? (i := 6) rfl))) (mvT hZ (hw _ (List.mem_of_getElem? (i := 7) rfl))) (mvT hZ (hw _ (List.mem_of_getElem? (i := 8) rfl))) (by decide) (backOf (W := 0) (rmT0 l Z a0 hw [] b6 k6 op p3 p4 p5 p6 p6 p6 p6 p4 h22 n0 o37 V22a (by rw [if_neg hc30, if_pos hc36])) hZ (hw _ (List.mem_of_getElem? (i := 8) rfl)) (hw _ (List.mem_of_getElem? (i := 7) rfl)) (by decide) (by decide)) (g := (mkF m 155 #[.val (.int p1), .val (.int p2), .val (.int p3), .val (.int p4), .val (.int p5), .val (.int p6), .val (.int op), .val (.int (0 : Int32)), .val (.int (4 : Int32)), .val (.ref b6), .val (.int (2 : Int32)), .val (.int p4)] [(.int (0 : Int32)), (.ref b6)])) rfl (by rw [hml]; rfl) (argsL := [(.ref b6), (.int (0 : Int32))]) (rest := []) (lenOf own_pd1 rfl) rfl (by show 2 * 0 + _ ≤ _; exact Nat.le_of_eq rfl) (hb hby at_155) (fun _ _ => ⟨rfl, e38, (by decide : 1 + 0 ≤ _), (by decide : 8 + 0 ≤ _)⟩)
              dsimp only [Pt.U, Pt.locs, Pt.cells, Pt.slots] at X39 l39 y39 z39 st39 hQ39
              subst l39 y39 z39
              obtain ⟨rfl, Nq39, e39⟩ := hQ39
              have N39 := Fr.app N38 Nq39
              have hc40 : p4 = p4 := rfl
              have g41 : ∀ t, Steps p.tables e below (T39.setTop (mkF m 168 #[.val (.int p1), .val (.int p2), .val (.int p3), .val (.int p4), .val (.int p5), .val (.int p6), .val (.int op), .val (.int (0 : Int32)), .val (.int (4 : Int32)), .val (.ref b6), .val (.int (2 : Int32)), .val (.int p4)] [(.int (1 : Int32))])) t → Steps p.tables e below (s₁.setTop (entryFrame m #[(.int p1), (.int p2), (.int p3), (.int p4), (.int p5), (.int p6)] maxLocals)) t := by
                intro t k
                refine g24 t ?_
                show Steps p.tables e below (T22.setTop (mkF m 110 #[.val (.int p1), .val (.int p2), .val (.int p3), .val (.int p4), .val (.int p5), .val (.int p6), .val (.int op), .val (.int (0 : Int32)), .val (.int (4 : Int32)), .val (.ref b6), .unset, .unset] [])) _
                refine XS.iload X22.here hx rfl (hb hby at_110) rfl ?_
                show Steps p.tables e below (T22.setTop (mkF m 112 #[.val (.int p1), .val (.int p2), .val (.int p3), .val (.int p4), .val (.int p5), .val (.int p6), .val (.int op), .val (.int (0 : Int32)), .val (.int (4 : Int32)), .val (.ref b6), .unset, .unset] [(.int op)])) _
                refine st38 _ ?_
                show Steps p.tables e below (T38.setTop (mkF m 115 #[.val (.int p1), .val (.int p2), .val (.int p3), .val (.int p4), .val (.int p5), .val (.int p6), .val (.int op), .val (.int (0 : Int32)), .val (.int (4 : Int32)), .val (.ref b6), .unset, .unset] [(.int (2 : Int32))])) _
                refine XS.istore X38.here hx rfl (hb hby at_115) rfl (l' := #[.val (.int p1), .val (.int p2), .val (.int p3), .val (.int p4), .val (.int p5), .val (.int p6), .val (.int op), .val (.int (0 : Int32)), .val (.int (4 : Int32)), .val (.ref b6), .val (.int (2 : Int32)), .unset]) rfl ?_
                show Steps p.tables e below (T38.setTop (mkF m 117 #[.val (.int p1), .val (.int p2), .val (.int p3), .val (.int p4), .val (.int p5), .val (.int p6), .val (.int op), .val (.int (0 : Int32)), .val (.int (4 : Int32)), .val (.ref b6), .val (.int (2 : Int32)), .unset] [])) _
                refine XS.iload X38.here hx rfl (hb hby at_117) rfl ?_
                show Steps p.tables e below (T38.setTop (mkF m 119 #[.val (.int p1), .val (.int p2), .val (.int p3), .val (.int p4), .val (.int p5), .val (.int p6), .val (.int op), .val (.int (0 : Int32)), .val (.int (4 : Int32)), .val (.ref b6), .val (.int (2 : Int32)), .unset] [(.int (2 : Int32))])) _
                refine XS.iconst X38.here hx rfl (hb hby at_119) ?_
                show Steps p.tables e below (T38.setTop (mkF m 120 #[.val (.int p1), .val (.int p2), .val (.int p3), .val (.int p4), .val (.int p5), .val (.int p6), .val (.int op), .val (.int (0 : Int32)), .val (.int (4 : Int32)), .val (.ref b6), .val (.int (2 : Int32)), .unset] [(.int (1 : Int32)), (.int (2 : Int32))])) _
                refine XS.icmpYes X38.here hx rfl (pc0 := 120) (pc' := 127) rfl (hb hby at_120) rfl (feq (by decide : ¬ ((2 : Int32) = (1 : Int32)))).2 (by decide) (by decide) ?_
                show Steps p.tables e below (T38.setTop (mkF m 127 #[.val (.int p1), .val (.int p2), .val (.int p3), .val (.int p4), .val (.int p5), .val (.int p6), .val (.int op), .val (.int (0 : Int32)), .val (.int (4 : Int32)), .val (.ref b6), .val (.int (2 : Int32)), .unset] [])) _
                refine XS.iload X38.here hx rfl (hb hby at_127) rfl ?_
                show Steps p.tables e below (T38.setTop (mkF m 129 #[.val (.int p1), .val (.int p2), .val (.int p3), .val (.int p4), .val (.int p5), .val (.int p6), .val (.int op), .val (.int (0 : Int32)), .val (.int (4 : Int32)), .val (.ref b6), .val (.int (2 : Int32)), .unset] [(.int (2 : Int32))])) _
                refine XS.iconst X38.here hx rfl (hb hby at_129) ?_
                show Steps p.tables e below (T38.setTop (mkF m 130 #[.val (.int p1), .val (.int p2), .val (.int p3), .val (.int p4), .val (.int p5), .val (.int p6), .val (.int op), .val (.int (0 : Int32)), .val (.int (4 : Int32)), .val (.ref b6), .val (.int (2 : Int32)), .unset] [(.int (2 : Int32)), (.int (2 : Int32))])) _
                refine XS.icmpNo X38.here hx rfl (hb hby at_130) rfl (teq (by decide : (2 : Int32) = (2 : Int32))).2 ?_
                show Steps p.tables e below (T38.setTop (mkF m 133 #[.val (.int p1), .val (.int p2), .val (.int p3), .val (.int p4), .val (.int p5), .val (.int p6), .val (.int op), .val (.int (0 : Int32)), .val (.int (4 : Int32)), .val (.ref b6), .val (.int (2 : Int32)), .unset] [])) _
                refine XS.iloadN X38.here hx rfl (hb hby at_133) rfl ?_
                show Steps p.tables e below (T38.setTop (mkF m 134 #[.val (.int p1), .val (.int p2), .val (.int p3), .val (.int p4), .val (.int p5), .val (.int p6), .val (.int op), .val (.int (0 : Int32)), .val (.int (4 : Int32)), .val (.ref b6), .val (.int (2 : Int32)), .unset] [(.int p4)])) _
                refine XS.goto X38.here hx rfl (pc0 := 134) (pc' := 149) rfl (hb hby at_134) (by decide) (by decide) ?_
                show Steps p.tables e below (T38.setTop (mkF m 149 #[.val (.int p1), .val (.int p2), .val (.int p3), .val (.int p4), .val (.int p5), .val (.int p6), .val (.int op), .val (.int (0 : Int32)), .val (.int (4 : Int32)), .val (.ref b6), .val (.int (2 : Int32)), .unset] [(.int p4)])) _
                refine XS.istore X38.here hx rfl (hb hby at_149) rfl (l' := #[.val (.int p1), .val (.int p2), .val (.int p3), .val (.int p4), .val (.int p5), .val (.int p6), .val (.int op), .val (.int (0 : Int32)), .val (.int (4 : Int32)), .val (.ref b6), .val (.int (2 : Int32)), .val (.int p4)]) rfl ?_
                show Steps p.tables e below (T38.setTop (mkF m 151 #[.val (.int p1), .val (.int p2), .val (.int p3), .val (.int p4), .val (.int p5), .val (.int p6), .val (.int op), .val (.int (0 : Int32)), .val (.int (4 : Int32)), .val (.ref b6), .val (.int (2 : Int32)), .val (.int p4)] [])) _
                refine XS.aload X38.here hx rfl (hb hby at_151) rfl rfl ?_
                show Steps p.tables e below (T38.setTop (mkF m 153 #[.val (.int p1), .val (.int p2), .val (.int p3), .val (.int p4), .val (.int p5), .val (.int p6), .val (.int op), .val (.int (0 : Int32)), .val (.int (4 : Int32)), .val (.ref b6), .val (.int (2 : Int32)), .val (.int p4)] [(.ref b6)])) _
                refine XS.iload X38.here hx rfl (hb hby at_153) rfl ?_
                show Steps p.tables e below (T38.setTop (mkF m 155 #[.val (.int p1), .val (.int p2), .val (.int p3), .val (.int p4), .val (.int p5), .val (.int p6), .val (.int op), .val (.int (0 : Int32)), .val (.int (4 : Int32)), .val (.ref b6), .val (.int (2 : Int32)), .val (.int p4)] [(.int (0 : Int32)), (.ref b6)])) _
                refine st39 _ ?_
                show Steps p.tables e below (T39.setTop (mkF m 158 #[.val (.int p1), .val (.int p2), .val (.int p3), .val (.int p4), .val (.int p5), .val (.int p6), .val (.int op), .val (.int (0 : Int32)), .val (.int (4 : Int32)), .val (.ref b6), .val (.int (2 : Int32)), .val (.int p4)] [(.int p4)])) _
                refine XS.iload X39.here hx rfl (hb hby at_158) rfl ?_
                show Steps p.tables e below (T39.setTop (mkF m 160 #[.val (.int p1), .val (.int p2), .val (.int p3), .val (.int p4), .val (.int p5), .val (.int p6), .val (.int op), .val (.int (0 : Int32)), .val (.int (4 : Int32)), .val (.ref b6), .val (.int (2 : Int32)), .val (.int p4)] [(.int p4), (.int p4)])) _
                refine XS.icmpNo X39.here hx rfl (hb hby at_160) rfl (teq hc40).2 ?_
                show Steps p.tables e below (T39.setTop (mkF m 163 #[.val (.int p1), .val (.int p2), .val (.int p3), .val (.int p4), .val (.int p5), .val (.int p6), .val (.int op), .val (.int (0 : Int32)), .val (.int (4 : Int32)), .val (.ref b6), .val (.int (2 : Int32)), .val (.int p4)] [])) _
                refine XS.iconst X39.here hx rfl (hb hby at_163) ?_
                show Steps p.tables e below (T39.setTop (mkF m 164 #[.val (.int p1), .val (.int p2), .val (.int p3), .val (.int p4), .val (.int p5), .val (.int p6), .val (.int op), .val (.int (0 : Int32)), .val (.int (4 : Int32)), .val (.ref b6), .val (.int (2 : Int32)), .val (.int p4)] [(.int (1 : Int32))])) _
                refine XS.goto X39.here hx rfl (pc0 := 164) (pc' := 168) rfl (hb hby at_164) (by decide) (by decide) ?_
                exact k
              obtain ⟨fs, hrt, hrun, hended, hW, hsame⟩ := X39.leave (v := some (.int (1 : Int32))) (fun h => by rw [Bd.returns] at h; cases h)
              refine ⟨_, _, g41 _ ?_, hrun, hended, _, _, rfl, ?_, ⟨_, rfl⟩, hW, hsame.mono (by decide) (by decide)⟩
              · show Steps p.tables e below (T39.setTop (mkF m 168 #[.val (.int p1), .val (.int p2), .val (.int p3), .val (.int p4), .val (.int p5), .val (.int p6), .val (.int op), .val (.int (0 : Int32)), .val (.int (4 : Int32)), .val (.ref b6), .val (.int (2 : Int32)), .val (.int p4)] [(.int (1 : Int32))])) _
                exact retN X39 hx (t := .boolean) Bd.returns (by simp) (hb hby at_168) hrt
              · show own_Q_rm0 Z p1 p2 p3 p4 p5 p6 h0 n0 _ T39.heap _
                rw [e39]
                exact ⟨rfl, N39⟩
            · by_cases hc42 : op = (29 : Int32)
              · have o43 : Old Z n0 h22 := (Old.wr (Old.wr (Old.wr (Old.wr (Old.wr (Old.wr (Old.wr (Old.wr (Old.ext O0 E6) W8 gz_b6) W10 gz_b6) W12 gz_b6) W14 gz_b6) W16 gz_b6) W18 gz_b6) W20 gz_b6) W22 gz_b6)
                obtain ⟨_, _, ⟨T44, L44, k44, n44⟩, -, X44, ⟨Lc44, hQ44, l44, y44, z44⟩, st44⟩ := Jvm.LawKit.callS X22 hx (y := (⟨"com/example/chalkline/chalkline/runtime/MachineCodeTargetPinLaw", "targetOperand", "(I)I"⟩ : MethodName)) hown (mvT hZ (hw _ (List.mem_of_getElem? (i := 1) rfl))) (mvT hZ (hw _ (List.mem_of_getElem? (i := 2) rfl))) (mvT hZ (hw _ (List.mem_of_getElem? (i := 3) rfl))) (mvT hZ (hw _ (List.mem_of_getElem? (i := 4) rfl))) (by decide) (backOf (W := 0) (rmOp l Z a0 hw [] op (2 : Int32) h22 n0 o43 (by rw [if_neg hc23, if_pos hc29, if_neg hc30, if_neg hc36, if_pos hc42])) hZ (hw _ (List.mem_of_getElem? (i := 4) rfl)) (hw _ (List.mem_of_getElem? (i := 3) rfl)) (by decide) (by decide)) (g := (mkF m 112 #[.val (.int p1), .val (.int p2), .val (.int p3), .val (.int p4), .val (.int p5), .val (.int p6), .val (.int op), .val (.int (0 : Int32)), .val (.int (4 : Int32)), .val (.ref b6), .unset, .unset] [(.int op)])) rfl (by rw [hml]; rfl) (argsL := [(.int op)]) (rest := []) (lenOf own_pd0 rfl) rfl (by show 2 * 0 + _ ≤ _; exact Nat.le_of_eq rfl) (hb hby at_112) (fun _ _ => ⟨rfl, e22, (by decide : 1 + 0 ≤ _), (by decide : 8 + 0 ≤ _)⟩)
                dsimp only [Pt.U, Pt.locs, Pt.cells, Pt.slots] at X44 l44 y44 z44 st44 hQ44
                subst l44 y44 z44
                obtain ⟨rfl, Nq44, e44⟩ := hQ44
                have N44 := Fr.app N22 Nq44
                obtain ⟨_, _, ⟨T45, L45, k45, n45⟩, -, X45, ⟨Lc45, hQ45, l45, y45, z45⟩, st45⟩ := Jvm.LawKit.callS X44 hx (y := (⟨"com/example/chalkline/chalkline/runtime/MachineCode", "target", "([II)I"⟩ : MethodName)) hown (mvT hZ (hw _ (List.mem_of_getElem? (i := 5) rfl))) (mvT hZ (hw _ (List.mem_of_getElem? (i := 6) rfl))) (mvT hZ (hw _ (List.mem_of_getElem? (i := 7) rfl))) (mvT hZ (hw _ (List.mem_of_getElem? (i := 8) rfl))) (by decide) (backOf (W := 0) (rmT0 l Z a0 hw [] b6 k6 op p3 p4 p5 p6 p6 p6 p6 p4 h22 n0 o43 V22a (by rw [if_neg hc30, if_neg hc36, if_pos hc42])) hZ (hw _ (List.mem_of_getElem? (i := 8) rfl)) (hw _ (List.mem_of_getElem? (i := 7) rfl)) (by decide) (by decide)) (g := (mkF m 155 #[.val (.int p1), .val (.int p2), .val (.int p3), .val (.int p4), .val (.int p5), .val (.int p6), .val (.int op), .val (.int (0 : Int32)), .val (.int (4 : Int32)), .val (.ref b6), .val (.int (2 : Int32)), .val (.int p4)] [(.int (0 : Int32)), (.ref b6)])) rfl (by rw [hml]; rfl) (argsL := [(.ref b6), (.int (0 : Int32))]) (rest := []) (lenOf own_pd1 rfl) rfl (by show 2 * 0 + _ ≤ _; exact Nat.le_of_eq rfl) (hb hby at_155) (fun _ _ => ⟨rfl, e44, (by decide : 1 + 0 ≤ _), (by decide : 8 + 0 ≤ _)⟩)
                dsimp only [Pt.U, Pt.locs, Pt.cells, Pt.slots] at X45 l45 y45 z45 st45 hQ45
                subst l45 y45 z45
                obtain ⟨rfl, Nq45, e45⟩ := hQ45
                have N45 := Fr.app N44 Nq45
                have hc46 : p4 = p4 := rfl
                have g47 : ∀ t, Steps p.tables e below (T45.setTop (mkF m 168 #[.val (.int p1), .val (.int p2), .val (.int p3), .val (.int p4), .val (.int p5), .val (.int p6), .val (.int op), .val (.int (0 : Int32)), .val (.int (4 : Int32)), .val (.ref b6), .val (.int (2 : Int32)), .val (.int p4)] [(.int (1 : Int32))])) t → Steps p.tables e below (s₁.setTop (entryFrame m #[(.int p1), (.int p2), (.int p3), (.int p4), (.int p5), (.int p6)] maxLocals)) t := by
                  intro t k
                  refine g24 t ?_
                  show Steps p.tables e below (T22.setTop (mkF m 110 #[.val (.int p1), .val (.int p2), .val (.int p3), .val (.int p4), .val (.int p5), .val (.int p6), .val (.int op), .val (.int (0 : Int32)), .val (.int (4 : Int32)), .val (.ref b6), .unset, .unset] [])) _
                  refine XS.iload X22.here hx rfl (hb hby at_110) rfl ?_
                  show Steps p.tables e below (T22.setTop (mkF m 112 #[.val (.int p1), .val (.int p2), .val (.int p3), .val (.int p4), .val (.int p5), .val (.int p6), .val (.int op), .val (.int (0 : Int32)), .val (.int (4 : Int32)), .val (.ref b6), .unset, .unset] [(.int op)])) _
                  refine st44 _ ?_
                  show Steps p.tables e below (T44.setTop (mkF m 115 #[.val (.int p1), .val (.int p2), .val (.int p3), .val (.int p4), .val (.int p5), .val (.int p6), .val (.int op), .val (.int (0 : Int32)), .val (.int (4 : Int32)), .val (.ref b6), .unset, .unset] [(.int (2 : Int32))])) _
                  refine XS.istore X44.here hx rfl (hb hby at_115) rfl (l' := #[.val (.int p1), .val (.int p2), .val (.int p3), .val (.int p4), .val (.int p5), .val (.int p6), .val (.int op), .val (.int (0 : Int32)), .val (.int (4 : Int32)), .val (.ref b6), .val (.int (2 : Int32)), .unset]) rfl ?_
                  show Steps p.tables e below (T44.setTop (mkF m 117 #[.val (.int p1), .val (.int p2), .val (.int p3), .val (.int p4), .val (.int p5), .val (.int p6), .val (.int op), .val (.int (0 : Int32)), .val (.int (4 : Int32)), .val (.ref b6), .val (.int (2 : Int32)), .unset] [])) _
                  refine XS.iload X44.here hx rfl (hb hby at_117) rfl ?_
                  show Steps p.tables e below (T44.setTop (mkF m 119 #[.val (.int p1), .val (.int p2), .val (.int p3), .val (.int p4), .val (.int p5), .val (.int p6), .val (.int op), .val (.int (0 : Int32)), .val (.int (4 : Int32)), .val (.ref b6), .val (.int (2 : Int32)), .unset] [(.int (2 : Int32))])) _
                  refine XS.iconst X44.here hx rfl (hb hby at_119) ?_
                  show Steps p.tables e below (T44.setTop (mkF m 120 #[.val (.int p1), .val (.int p2), .val (.int p3), .val (.int p4), .val (.int p5), .val (.int p6), .val (.int op), .val (.int (0 : Int32)), .val (.int (4 : Int32)), .val (.ref b6), .val (.int (2 : Int32)), .unset] [(.int (1 : Int32)), (.int (2 : Int32))])) _
                  refine XS.icmpYes X44.here hx rfl (pc0 := 120) (pc' := 127) rfl (hb hby at_120) rfl (feq (by decide : ¬ ((2 : Int32) = (1 : Int32)))).2 (by decide) (by decide) ?_
                  show Steps p.tables e below (T44.setTop (mkF m 127 #[.val (.int p1), .val (.int p2), .val (.int p3), .val (.int p4), .val (.int p5), .val (.int p6), .val (.int op), .val (.int (0 : Int32)), .val (.int (4 : Int32)), .val (.ref b6), .val (.int (2 : Int32)), .unset] [])) _
                  refine XS.iload X44.here hx rfl (hb hby at_127) rfl ?_
                  show Steps p.tables e below (T44.setTop (mkF m 129 #[.val (.int p1), .val (.int p2), .val (.int p3), .val (.int p4), .val (.int p5), .val (.int p6), .val (.int op), .val (.int (0 : Int32)), .val (.int (4 : Int32)), .val (.ref b6), .val (.int (2 : Int32)), .unset] [(.int (2 : Int32))])) _
                  refine XS.iconst X44.here hx rfl (hb hby at_129) ?_
                  show Steps p.tables e below (T44.setTop (mkF m 130 #[.val (.int p1), .val (.int p2), .val (.int p3), .val (.int p4), .val (.int p5), .val (.int p6), .val (.int op), .val (.int (0 : Int32)), .val (.int (4 : Int32)), .val (.ref b6), .val (.int (2 : Int32)), .unset] [(.int (2 : Int32)), (.int (2 : Int32))])) _
                  refine XS.icmpNo X44.here hx rfl (hb hby at_130) rfl (teq (by decide : (2 : Int32) = (2 : Int32))).2 ?_
                  show Steps p.tables e below (T44.setTop (mkF m 133 #[.val (.int p1), .val (.int p2), .val (.int p3), .val (.int p4), .val (.int p5), .val (.int p6), .val (.int op), .val (.int (0 : Int32)), .val (.int (4 : Int32)), .val (.ref b6), .val (.int (2 : Int32)), .unset] [])) _
                  refine XS.iloadN X44.here hx rfl (hb hby at_133) rfl ?_
                  show Steps p.tables e below (T44.setTop (mkF m 134 #[.val (.int p1), .val (.int p2), .val (.int p3), .val (.int p4), .val (.int p5), .val (.int p6), .val (.int op), .val (.int (0 : Int32)), .val (.int (4 : Int32)), .val (.ref b6), .val (.int (2 : Int32)), .unset] [(.int p4)])) _
                  refine XS.goto X44.here hx rfl (pc0 := 134) (pc' := 149) rfl (hb hby at_134) (by decide) (by decide) ?_
                  show Steps p.tables e below (T44.setTop (mkF m 149 #[.val (.int p1), .val (.int p2), .val (.int p3), .val (.int p4), .val (.int p5), .val (.int p6), .val (.int op), .val (.int (0 : Int32)), .val (.int (4 : Int32)), .val (.ref b6), .val (.int (2 : Int32)), .unset] [(.int p4)])) _
                  refine XS.istore X44.here hx rfl (hb hby at_149) rfl (l' := #[.val (.int p1), .val (.int p2), .val (.int p3), .val (.int p4), .val (.int p5), .val (.int p6), .val (.int op), .val (.int (0 : Int32)), .val (.int (4 : Int32)), .val (.ref b6), .val (.int (2 : Int32)), .val (.int p4)]) rfl ?_
                  show Steps p.tables e below (T44.setTop (mkF m 151 #[.val (.int p1), .val (.int p2), .val (.int p3), .val (.int p4), .val (.int p5), .val (.int p6), .val (.int op), .val (.int (0 : Int32)), .val (.int (4 : Int32)), .val (.ref b6), .val (.int (2 : Int32)), .val (.int p4)] [])) _
                  refine XS.aload X44.here hx rfl (hb hby at_151) rfl rfl ?_
                  show Steps p.tables e below (T44.setTop (mkF m 153 #[.val (.int p1), .val (.int p2), .val (.int p3), .val (.int p4), .val (.int p5), .val (.int p6), .val (.int op), .val (.int (0 : Int32)), .val (.int (4 : Int32)), .val (.ref b6), .val (.int (2 : Int32)), .val (.int p4)] [(.ref b6)])) _
                  refine XS.iload X44.here hx rfl (hb hby at_153) rfl ?_
                  show Steps p.tables e below (T44.setTop (mkF m 155 #[.val (.int p1), .val (.int p2), .val (.int p3), .val (.int p4), .val (.int p5), .val (.int p6), .val (.int op), .val (.int (0 : Int32)), .val (.int (4 : Int32)), .val (.ref b6), .val (.int (2 : Int32)), .val (.int p4)] [(.int (0 : Int32)), (.ref b6)])) _
                  refine st45 _ ?_
                  show Steps p.tables e below (T45.setTop (mkF m 158 #[.val (.int p1), .val (.int p2), .val (.int p3), .val (.int p4), .val (.int p5), .val (.int p6), .val (.int op), .val (.int (0 : Int32)), .val (.int (4 : Int32)), .val (.ref b6), .val (.int (2 : Int32)), .val (.int p4)] [(.int p4)])) _
                  refine XS.iload X45.here hx rfl (hb hby at_158) rfl ?_
                  show Steps p.tables e below (T45.setTop (mkF m 160 #[.val (.int p1), .val (.int p2), .val (.int p3), .val (.int p4), .val (.int p5), .val (.int p6), .val (.int op), .val (.int (0 : Int32)), .val (.int (4 : Int32)), .val (.ref b6), .val (.int (2 : Int32)), .val (.int p4)] [(.int p4), (.int p4)])) _
                  refine XS.icmpNo X45.here hx rfl (hb hby at_160) rfl (teq hc46).2 ?_
                  show Steps p.tables e below (T45.setTop (mkF m 163 #[.val (.int p1), .val (.int p2), .val (.int p3), .val (.int p4), .val (.int p5), .val (.int p6), .val (.int op), .val (.int (0 : Int32)), .val (.int (4 : Int32)), .val (.ref b6), .val (.int (2 : Int32)), .val (.int p4)] [])) _
                  refine XS.iconst X45.here hx rfl (hb hby at_163) ?_
                  show Steps p.tables e below (T45.setTop (mkF m 164 #[.val (.int p1), .val (.int p2), .val (.int p3), .val (.int p4), .val (.int p5), .val (.int p6), .val (.int op), .val (.int (0 : Int32)), .val (.int (4 : Int32)), .val (.ref b6), .val (.int (2 : Int32)), .val (.int p4)] [(.int (1 : Int32))])) _
                  refine XS.goto X45.here hx rfl (pc0 := 164) (pc' := 168) rfl (hb hby at_164) (by decide) (by decide) ?_
                  exact k
                obtain ⟨fs, hrt, hrun, hended, hW, hsame⟩ := X45.leave (v := some (.int (1 : Int32))) (fun h => by rw [Bd.returns] at h; cases h)
                refine ⟨_, _, g47 _ ?_, hrun, hended, _, _, rfl, ?_, ⟨_, rfl⟩, hW, hsame.mono (by decide) (by decide)⟩
                · show Steps p.tables e below (T45.setTop (mkF m 168 #[.val (.int p1), .val (.int p2), .val (.int p3), .val (.int p4), .val (.int p5), .val (.int p6), .val (.int op), .val (.int (0 : Int32)), .val (.int (4 : Int32)), .val (.ref b6), .val (.int (2 : Int32)), .val (.int p4)] [(.int (1 : Int32))])) _
                  exact retN X45 hx (t := .boolean) Bd.returns (by simp) (hb hby at_168) hrt
                · show own_Q_rm0 Z p1 p2 p3 p4 p5 p6 h0 n0 _ T45.heap _
                  rw [e45]
                  exact ⟨rfl, N45⟩
              · have o48 : Old Z n0 h22 := (Old.wr (Old.wr (Old.wr (Old.wr (Old.wr (Old.wr (Old.wr (Old.wr (Old.ext O0 E6) W8 gz_b6) W10 gz_b6) W12 gz_b6) W14 gz_b6) W16 gz_b6) W18 gz_b6) W20 gz_b6) W22 gz_b6)
                obtain ⟨_, _, ⟨T49, L49, k49, n49⟩, -, X49, ⟨Lc49, hQ49, l49, y49, z49⟩, st49⟩ := Jvm.LawKit.callS X22 hx (y := (⟨"com/example/chalkline/chalkline/runtime/MachineCodeTargetPinLaw", "targetOperand", "(I)I"⟩ : MethodName)) hown (mvT hZ (hw _ (List.mem_of_getElem? (i := 1) rfl))) (mvT hZ (hw _ (List.mem_of_getElem? (i := 2) rfl))) (mvT hZ (hw _ (List.mem_of_getElem? (i := 3) rfl))) (mvT hZ (hw _ (List.mem_of_getElem? (i := 4) rfl))) (by decide) (backOf (W := 0) (rmOp l Z a0 hw [] op (0 : Int32) h22 n0 o48 (by rw [if_neg hc23, if_pos hc29, if_neg hc30, if_neg hc36, if_neg hc42])) hZ (hw _ (List.mem_of_getElem? (i := 4) rfl)) (hw _ (List.mem_of_getElem? (i := 3) rfl)) (by decide) (by decide)) (g := (mkF m 112 #[.val (.int p1), .val (.int p2), .val (.int p3), .val (.int p4), .val (.int p5), .val (.int p6), .val (.int op), .val (.int (0 : Int32)), .val (.int (4 : Int32)), .val (.ref b6), .unset, .unset] [(.int op)])) rfl (by rw [hml]; rfl) (argsL := [(.int op)]) (rest := []) (lenOf own_pd0 rfl) rfl (by show 2 * 0 + _ ≤ _; exact Nat.le_of_eq rfl) (hb hby at_112) (fun _ _ => ⟨rfl, e22, (by decide : 1 + 0 ≤ _), (by decide : 8 + 0 ≤ _)⟩)
                dsimp only [Pt.U, Pt.locs, Pt.cells, Pt.slots] at X49 l49 y49 z49 st49 hQ49
                subst l49 y49 z49
                obtain ⟨rfl, Nq49, e49⟩ := hQ49
                have N49 := Fr.app N22 Nq49
                obtain ⟨_, _, ⟨T50, L50, k50, n50⟩, -, X50, ⟨Lc50, hQ50, l50, y50, z50⟩, st50⟩ := Jvm.LawKit.callS X49 hx (y := (⟨"com/example/chalkline/chalkline/runtime/MachineCode", "target", "([II)I"⟩ : MethodName)) hown (mvT hZ (hw _ (List.mem_of_getElem? (i := 5) rfl))) (mvT hZ (hw _ (List.mem_of_getElem? (i := 6) rfl))) (mvT hZ (hw _ (List.mem_of_getElem? (i := 7) rfl))) (mvT hZ (hw _ (List.mem_of_getElem? (i := 8) rfl))) (by decide) (backOf (W := 0) (rmT0 l Z a0 hw [] b6 k6 op p3 p4 p5 p6 p6 p6 p6 (-1 : Int32) h22 n0 o48 V22a (by rw [if_neg hc30, if_neg hc36, if_neg hc42, if_neg hc23, if_pos hc29])) hZ (hw _ (List.mem_of_getElem? (i := 8) rfl)) (hw _ (List.mem_of_getElem? (i := 7) rfl)) (by decide) (by decide)) (g := (mkF m 155 #[.val (.int p1), .val (.int p2), .val (.int p3), .val (.int p4), .val (.int p5), .val (.int p6), .val (.int op), .val (.int (0 : Int32)), .val (.int (4 : Int32)), .val (.ref b6), .val (.int (0 : Int32)), .val (.int (-1 : Int32))] [(.int (0 : Int32)), (.ref b6)])) rfl (by rw [hml]; rfl) (argsL := [(.ref b6), (.int (0 : Int32))]) (rest := []) (lenOf own_pd1 rfl) rfl (by show 2 * 0 + _ ≤ _; exact Nat.le_of_eq rfl) (hb hby at_155) (fun _ _ => ⟨rfl, e49, (by decide : 1 + 0 ≤ _), (by decide : 8 + 0 ≤ _)⟩)
                dsimp only [Pt.U, Pt.locs, Pt.cells, Pt.slots] at X50 l50 y50 z50 st50 hQ50
                subst l50 y50 z50
                obtain ⟨rfl, Nq50, e50⟩ := hQ50
                have N50 := Fr.app N49 Nq50
                have g51 : ∀ t, Steps p.tables e below (T50.setTop (mkF m 168 #[.val (.int p1), .val (.int p2), .val (.int p3), .val (.int p4), .val (.int p5), .val (.int p6), .val (.int op), .val (.int (0 : Int32)), .val (.int (4 : Int32)), .val (.ref b6), .val (.int (0 : Int32)), .val (.int (-1 : Int32))] [(.int (1 : Int32))])) t → Steps p.tables e below (s₁.setTop (entryFrame m #[(.int p1), (.int p2), (.int p3), (.int p4), (.int p5), (.int p6)] maxLocals)) t := by
                  intro t k
                  refine g24 t ?_
                  show Steps p.tables e below (T22.setTop (mkF m 110 #[.val (.int p1), .val (.int p2), .val (.int p3), .val (.int p4), .val (.int p5), .val (.int p6), .val (.int op), .val (.int (0 : Int32)), .val (.int (4 : Int32)), .val (.ref b6), .unset, .unset] [])) _
                  refine XS.iload X22.here hx rfl (hb hby at_110) rfl ?_
                  show Steps p.tables e below (T22.setTop (mkF m 112 #[.val (.int p1), .val (.int p2), .val (.int p3), .val (.int p4), .val (.int p5), .val (.int p6), .val (.int op), .val (.int (0 : Int32)), .val (.int (4 : Int32)), .val (.ref b6), .unset, .unset] [(.int op)])) _
                  refine st49 _ ?_
                  show Steps p.tables e below (T49.setTop (mkF m 115 #[.val (.int p1), .val (.int p2), .val (.int p3), .val (.int p4), .val (.int p5), .val (.int p6), .val (.int op), .val (.int (0 : Int32)), .val (.int (4 : Int32)), .val (.ref b6), .unset, .unset] [(.int (0 : Int32))])) _
                  refine XS.istore X49.here hx rfl (hb hby at_115) rfl (l' := #[.val (.int p1), .val (.int p2), .val (.int p3), .val (.int p4), .val (.int p5), .val (.int p6), .val (.int op), .val (.int (0 : Int32)), .val (.int (4 : Int32)), .val (.ref b6), .val (.int (0 : Int32)), .unset]) rfl ?_
                  show Steps p.tables e below (T49.setTop (mkF m 117 #[.val (.int p1), .val (.int p2), .val (.int p3), .val (.int p4), .val (.int p5), .val (.int p6), .val (.int op), .val (.int (0 : Int32)), .val (.int (4 : Int32)), .val (.ref b6), .val (.int (0 : Int32)), .unset] [])) _
                  refine XS.iload X49.here hx rfl (hb hby at_117) rfl ?_
                  show Steps p.tables e below (T49.setTop (mkF m 119 #[.val (.int p1), .val (.int p2), .val (.int p3), .val (.int p4), .val (.int p5), .val (.int p6), .val (.int op), .val (.int (0 : Int32)), .val (.int (4 : Int32)), .val (.ref b6), .val (.int (0 : Int32)), .unset] [(.int (0 : Int32))])) _
                  refine XS.iconst X49.here hx rfl (hb hby at_119) ?_
                  show Steps p.tables e below (T49.setTop (mkF m 120 #[.val (.int p1), .val (.int p2), .val (.int p3), .val (.int p4), .val (.int p5), .val (.int p6), .val (.int op), .val (.int (0 : Int32)), .val (.int (4 : Int32)), .val (.ref b6), .val (.int (0 : Int32)), .unset] [(.int (1 : Int32)), (.int (0 : Int32))])) _
                  refine XS.icmpYes X49.here hx rfl (pc0 := 120) (pc' := 127) rfl (hb hby at_120) rfl (feq (by decide : ¬ ((0 : Int32) = (1 : Int32)))).2 (by decide) (by decide) ?_
                  show Steps p.tables e below (T49.setTop (mkF m 127 #[.val (.int p1), .val (.int p2), .val (.int p3), .val (.int p4), .val (.int p5), .val (.int p6), .val (.int op), .val (.int (0 : Int32)), .val (.int (4 : Int32)), .val (.ref b6), .val (.int (0 : Int32)), .unset] [])) _
                  refine XS.iload X49.here hx rfl (hb hby at_127) rfl ?_
                  show Steps p.tables e below (T49.setTop (mkF m 129 #[.val (.int p1), .val (.int p2), .val (.int p3), .val (.int p4), .val (.int p5), .val (.int p6), .val (.int op), .val (.int (0 : Int32)), .val (.int (4 : Int32)), .val (.ref b6), .val (.int (0 : Int32)), .unset] [(.int (0 : Int32))])) _
                  refine XS.iconst X49.here hx rfl (hb hby at_129) ?_
                  show Steps p.tables e below (T49.setTop (mkF m 130 #[.val (.int p1), .val (.int p2), .val (.int p3), .val (.int p4), .val (.int p5), .val (.int p6), .val (.int op), .val (.int (0 : Int32)), .val (.int (4 : Int32)), .val (.ref b6), .val (.int (0 : Int32)), .unset] [(.int (2 : Int32)), (.int (0 : Int32))])) _
                  refine XS.icmpYes X49.here hx rfl (pc0 := 130) (pc' := 137) rfl (hb hby at_130) rfl (feq (by decide : ¬ ((0 : Int32) = (2 : Int32)))).2 (by decide) (by decide) ?_
                  show Steps p.tables e below (T49.setTop (mkF m 137 #[.val (.int p1), .val (.int p2), .val (.int p3), .val (.int p4), .val (.int p5), .val (.int p6), .val (.int op), .val (.int (0 : Int32)), .val (.int (4 : Int32)), .val (.ref b6), .val (.int (0 : Int32)), .unset] [])) _
                  refine XS.iload X49.here hx rfl (hb hby at_137) rfl ?_
                  show Steps p.tables e below (T49.setTop (mkF m 139 #[.val (.int p1), .val (.int p2), .val (.int p3), .val (.int p4), .val (.int p5), .val (.int p6), .val (.int op), .val (.int (0 : Int32)), .val (.int (4 : Int32)), .val (.ref b6), .val (.int (0 : Int32)), .unset] [(.int (0 : Int32))])) _
                  refine XS.iconst X49.here hx rfl (hb hby at_139) ?_
                  show Steps p.tables e below (T49.setTop (mkF m 140 #[.val (.int p1), .val (.int p2), .val (.int p3), .val (.int p4), .val (.int p5), .val (.int p6), .val (.int op), .val (.int (0 : Int32)), .val (.int (4 : Int32)), .val (.ref b6), .val (.int (0 : Int32)), .unset] [(.int (3 : Int32)), (.int (0 : Int32))])) _
                  refine XS.icmpYes X49.here hx rfl (pc0 := 140) (pc' := 148) rfl (hb hby at_140) rfl (feq (by decide : ¬ ((0 : Int32) = (3 : Int32)))).2 (by decide) (by decide) ?_
                  show Steps p.tables e below (T49.setTop (mkF m 148 #[.val (.int p1), .val (.int p2), .val (.int p3), .val (.int p4), .val (.int p5), .val (.int p6), .val (.int op), .val (.int (0 : Int32)), .val (.int (4 : Int32)), .val (.ref b6), .val (.int (0 : Int32)), .unset] [])) _
                  refine XS.iconst X49.here hx rfl (hb hby at_148) ?_
                  show Steps p.tables e below (T49.setTop (mkF m 149 #[.val (.int p1), .val (.int p2), .val (.int p3), .val (.int p4), .val (.int p5), .val (.int p6), .val (.int op), .val (.int (0 : Int32)), .val (.int (4 : Int32)), .val (.ref b6), .val (.int (0 : Int32)), .unset] [(.int (-1 : Int32))])) _
                  refine XS.istore X49.here hx rfl (hb hby at_149) rfl (l' := #[.val (.int p1), .val (.int p2), .val (.int p3), .val (.int p4), .val (.int p5), .val (.int p6), .val (.int op), .val (.int (0 : Int32)), .val (.int (4 : Int32)), .val (.ref b6), .val (.int (0 : Int32)), .val (.int (-1 : Int32))]) rfl ?_
                  show Steps p.tables e below (T49.setTop (mkF m 151 #[.val (.int p1), .val (.int p2), .val (.int p3), .val (.int p4), .val (.int p5), .val (.int p6), .val (.int op), .val (.int (0 : Int32)), .val (.int (4 : Int32)), .val (.ref b6), .val (.int (0 : Int32)), .val (.int (-1 : Int32))] [])) _
                  refine XS.aload X49.here hx rfl (hb hby at_151) rfl rfl ?_
                  show Steps p.tables e below (T49.setTop (mkF m 153 #[.val (.int p1), .val (.int p2), .val (.int p3), .val (.int p4), .val (.int p5), .val (.int p6), .val (.int op), .val (.int (0 : Int32)), .val (.int (4 : Int32)), .val (.ref b6), .val (.int (0 : Int32)), .val (.int (-1 : Int32))] [(.ref b6)])) _
                  refine XS.iload X49.here hx rfl (hb hby at_153) rfl ?_
                  show Steps p.tables e below (T49.setTop (mkF m 155 #[.val (.int p1), .val (.int p2), .val (.int p3), .val (.int p4), .val (.int p5), .val (.int p6), .val (.int op), .val (.int (0 : Int32)), .val (.int (4 : Int32)), .val (.ref b6), .val (.int (0 : Int32)), .val (.int (-1 : Int32))] [(.int (0 : Int32)), (.ref b6)])) _
                  refine st50 _ ?_
                  show Steps p.tables e below (T50.setTop (mkF m 158 #[.val (.int p1), .val (.int p2), .val (.int p3), .val (.int p4), .val (.int p5), .val (.int p6), .val (.int op), .val (.int (0 : Int32)), .val (.int (4 : Int32)), .val (.ref b6), .val (.int (0 : Int32)), .val (.int (-1 : Int32))] [(.int (-1 : Int32))])) _
                  refine XS.iload X50.here hx rfl (hb hby at_158) rfl ?_
                  show Steps p.tables e below (T50.setTop (mkF m 160 #[.val (.int p1), .val (.int p2), .val (.int p3), .val (.int p4), .val (.int p5), .val (.int p6), .val (.int op), .val (.int (0 : Int32)), .val (.int (4 : Int32)), .val (.ref b6), .val (.int (0 : Int32)), .val (.int (-1 : Int32))] [(.int (-1 : Int32)), (.int (-1 : Int32))])) _
                  refine XS.icmpNo X50.here hx rfl (hb hby at_160) rfl (teq (by decide : (-1 : Int32) = (-1 : Int32))).2 ?_
                  show Steps p.tables e below (T50.setTop (mkF m 163 #[.val (.int p1), .val (.int p2), .val (.int p3), .val (.int p4), .val (.int p5), .val (.int p6), .val (.int op), .val (.int (0 : Int32)), .val (.int (4 : Int32)), .val (.ref b6), .val (.int (0 : Int32)), .val (.int (-1 : Int32))] [])) _
                  refine XS.iconst X50.here hx rfl (hb hby at_163) ?_
                  show Steps p.tables e below (T50.setTop (mkF m 164 #[.val (.int p1), .val (.int p2), .val (.int p3), .val (.int p4), .val (.int p5), .val (.int p6), .val (.int op), .val (.int (0 : Int32)), .val (.int (4 : Int32)), .val (.ref b6), .val (.int (0 : Int32)), .val (.int (-1 : Int32))] [(.int (1 : Int32))])) _
                  refine XS.goto X50.here hx rfl (pc0 := 164) (pc' := 168) rfl (hb hby at_164) (by decide) (by decide) ?_
                  exact k
                obtain ⟨fs, hrt, hrun, hended, hW, hsame⟩ := X50.leave (v := some (.int (1 : Int32))) (fun h => by rw [Bd.returns] at h; cases h)
                refine ⟨_, _, g51 _ ?_, hrun, hended, _, _, rfl, ?_, ⟨_, rfl⟩, hW, hsame.mono (by decide) (by decide)⟩
                · show Steps p.tables e below (T50.setTop (mkF m 168 #[.val (.int p1), .val (.int p2), .val (.int p3), .val (.int p4), .val (.int p5), .val (.int p6), .val (.int op), .val (.int (0 : Int32)), .val (.int (4 : Int32)), .val (.ref b6), .val (.int (0 : Int32)), .val (.int (-1 : Int32))] [(.int (1 : Int32))])) _
                  exact retN X50 hx (t := .boolean) Bd.returns (by simp) (hb hby at_168) hrt
                · show own_Q_rm0 Z p1 p2 p3 p4 p5 p6 h0 n0 _ T50.heap _
                  rw [e50]
                  exact ⟨rfl, N50⟩
        · have o52 : Old Z n0 h22 := (Old.wr (Old.wr (Old.wr (Old.wr (Old.wr (Old.wr (Old.wr (Old.wr (Old.ext O0 E6) W8 gz_b6) W10 gz_b6) W12 gz_b6) W14 gz_b6) W16 gz_b6) W18 gz_b6) W20 gz_b6) W22 gz_b6)
          obtain ⟨_, _, ⟨T53, L53, k53, n53⟩, -, X53, ⟨Lc53, hQ53, l53, y53, z53⟩, st53⟩ := Jvm.LawKit.callS X22 hx (y := (⟨"com/example/chalkline/chalkline/runtime/MachineCodeTargetPinLaw", "targetOperand", "(I)I"⟩ : MethodName)) hown (mvT hZ (hw _ (List.mem_of_getElem? (i := 1) rfl))) (mvT hZ (hw _ (List.mem_of_getElem? (i := 2) rfl))) (mvT hZ (hw _ (List.mem_of_getElem? (i := 3) rfl))) (mvT hZ (hw _ (List.mem_of_getElem? (i := 4) rfl))) (by decide) (backOf (W := 0) (rmOp l Z a0 hw [] op (3 : Int32) h22 n0 o52 (by rw [if_neg hc23, if_neg hc29])) hZ (hw _ (List.mem_of_getElem? (i := 4) rfl)) (hw _ (List.mem_of_getElem? (i := 3) rfl)) (by decide) (by decide)) (g := (mkF m 112 #[.val (.int p1), .val (.int p2), .val (.int p3), .val (.int p4), .val (.int p5), .val (.int p6), .val (.int op), .val (.int (0 : Int32)), .val (.int (4 : Int32)), .val (.ref b6), .unset, .unset] [(.int op)])) rfl (by rw [hml]; rfl) (argsL := [(.int op)]) (rest := []) (lenOf own_pd0 rfl) rfl (by show 2 * 0 + _ ≤ _; exact Nat.le_of_eq rfl) (hb hby at_112) (fun _ _ => ⟨rfl, e22, (by decide : 1 + 0 ≤ _), (by decide : 8 + 0 ≤ _)⟩)
          dsimp only [Pt.U, Pt.locs, Pt.cells, Pt.slots] at X53 l53 y53 z53 st53 hQ53
          subst l53 y53 z53
          obtain ⟨rfl, Nq53, e53⟩ := hQ53
          have N53 := Fr.app N22 Nq53
          obtain ⟨_, _, ⟨T54, L54, k54, n54⟩, -, X54, ⟨Lc54, hQ54, l54, y54, z54⟩, st54⟩ := Jvm.LawKit.callS X53 hx (y := (⟨"com/example/chalkline/chalkline/runtime/MachineCode", "target", "([II)I"⟩ : MethodName)) hown (mvT hZ (hw _ (List.mem_of_getElem? (i := 5) rfl))) (mvT hZ (hw _ (List.mem_of_getElem? (i := 6) rfl))) (mvT hZ (hw _ (List.mem_of_getElem? (i := 7) rfl))) (mvT hZ (hw _ (List.mem_of_getElem? (i := 8) rfl))) (by decide) (backOf (W := 0) (rmT0 l Z a0 hw [] b6 k6 op p3 p4 p5 p6 p6 p6 p6 p5 h22 n0 o52 V22a (by rw [if_neg (fun q => by rw [q] at hc29; exact hc29 (by decide)), if_neg (fun q => by rw [q] at hc29; exact hc29 (by decide)), if_neg (fun q => by rw [q] at hc29; exact hc29 (by decide)), if_neg hc23, if_neg hc29])) hZ (hw _ (List.mem_of_getElem? (i := 8) rfl)) (hw _ (List.mem_of_getElem? (i := 7) rfl)) (by decide) (by decide)) (g := (mkF m 155 #[.val (.int p1), .val (.int p2), .val (.int p3), .val (.int p4), .val (.int p5), .val (.int p6), .val (.int op), .val (.int (0 : Int32)), .val (.int (4 : Int32)), .val (.ref b6), .val (.int (3 : Int32)), .val (.int p5)] [(.int (0 : Int32)), (.ref b6)])) rfl (by rw [hml]; rfl) (argsL := [(.ref b6), (.int (0 : Int32))]) (rest := []) (lenOf own_pd1 rfl) rfl (by show 2 * 0 + _ ≤ _; exact Nat.le_of_eq rfl) (hb hby at_155) (fun _ _ => ⟨rfl, e53, (by decide : 1 + 0 ≤ _), (by decide : 8 + 0 ≤ _)⟩)
          dsimp only [Pt.U, Pt.locs, Pt.cells, Pt.slots] at X54 l54 y54 z54 st54 hQ54
          subst l54 y54 z54
          obtain ⟨rfl, Nq54, e54⟩ := hQ54
          have N54 := Fr.app N53 Nq54
          have hc55 : p5 = p5 := rfl
          have g56 : ∀ t, Steps p.tables e below (T54.setTop (mkF m 168 #[.val (.int p1), .val (.int p2), .val (.int p3), .val (.int p4), .val (.int p5), .val (.int p6), .val (.int op), .val (.int (0 : Int32)), .val (.int (4 : Int32)), .val (.ref b6), .val (.int (3 : Int32)), .val (.int p5)] [(.int (1 : Int32))])) t → Steps p.tables e below (s₁.setTop (entryFrame m #[(.int p1), (.int p2), (.int p3), (.int p4), (.int p5), (.int p6)] maxLocals)) t := by
            intro t k
            refine g24 t ?_
            show Steps p.tables e below (T22.setTop (mkF m 110 #[.val (.int p1), .val (.int p2), .val (.int p3), .val (.int p4), .val (.int p5), .val (.int p6), .val (.int op), .val (.int (0 : Int32)), .val (.int (4 : Int32)), .val (.ref b6), .unset, .unset] [])) _
            refine XS.iload X22.here hx rfl (hb hby at_110) rfl ?_
            show Steps p.tables e below (T22.setTop (mkF m 112 #[.val (.int p1), .val (.int p2), .val (.int p3), .val (.int p4), .val (.int p5), .val (.int p6), .val (.int op), .val (.int (0 : Int32)), .val (.int (4 : Int32)), .val (.ref b6), .unset, .unset] [(.int op)])) _
            refine st53 _ ?_
            show Steps p.tables e below (T53.setTop (mkF m 115 #[.val (.int p1), .val (.int p2), .val (.int p3), .val (.int p4), .val (.int p5), .val (.int p6), .val (.int op), .val (.int (0 : Int32)), .val (.int (4 : Int32)), .val (.ref b6), .unset, .unset] [(.int (3 : Int32))])) _
            refine XS.istore X53.here hx rfl (hb hby at_115) rfl (l' := #[.val (.int p1), .val (.int p2), .val (.int p3), .val (.int p4), .val (.int p5), .val (.int p6), .val (.int op), .val (.int (0 : Int32)), .val (.int (4 : Int32)), .val (.ref b6), .val (.int (3 : Int32)), .unset]) rfl ?_
            show Steps p.tables e below (T53.setTop (mkF m 117 #[.val (.int p1), .val (.int p2), .val (.int p3), .val (.int p4), .val (.int p5), .val (.int p6), .val (.int op), .val (.int (0 : Int32)), .val (.int (4 : Int32)), .val (.ref b6), .val (.int (3 : Int32)), .unset] [])) _
            refine XS.iload X53.here hx rfl (hb hby at_117) rfl ?_
            show Steps p.tables e below (T53.setTop (mkF m 119 #[.val (.int p1), .val (.int p2), .val (.int p3), .val (.int p4), .val (.int p5), .val (.int p6), .val (.int op), .val (.int (0 : Int32)), .val (.int (4 : Int32)), .val (.ref b6), .val (.int (3 : Int32)), .unset] [(.int (3 : Int32))])) _
            refine XS.iconst X53.here hx rfl (hb hby at_119) ?_
            show Steps p.tables e below (T53.setTop (mkF m 120 #[.val (.int p1), .val (.int p2), .val (.int p3), .val (.int p4), .val (.int p5), .val (.int p6), .val (.int op), .val (.int (0 : Int32)), .val (.int (4 : Int32)), .val (.ref b6), .val (.int (3 : Int32)), .unset] [(.int (1 : Int32)), (.int (3 : Int32))])) _
            refine XS.icmpYes X53.here hx rfl (pc0 := 120) (pc' := 127) rfl (hb hby at_120) rfl (feq (by decide : ¬ ((3 : Int32) = (1 : Int32)))).2 (by decide) (by decide) ?_
            show Steps p.tables e below (T53.setTop (mkF m 127 #[.val (.int p1), .val (.int p2), .val (.int p3), .val (.int p4), .val (.int p5), .val (.int p6), .val (.int op), .val (.int (0 : Int32)), .val (.int (4 : Int32)), .val (.ref b6), .val (.int (3 : Int32)), .unset] [])) _
            refine XS.iload X53.here hx rfl (hb hby at_127) rfl ?_
            show Steps p.tables e below (T53.setTop (mkF m 129 #[.val (.int p1), .val (.int p2), .val (.int p3), .val (.int p4), .val (.int p5), .val (.int p6), .val (.int op), .val (.int (0 : Int32)), .val (.int (4 : Int32)), .val (.ref b6), .val (.int (3 : Int32)), .unset] [(.int (3 : Int32))])) _
            refine XS.iconst X53.here hx rfl (hb hby at_129) ?_
            show Steps p.tables e below (T53.setTop (mkF m 130 #[.val (.int p1), .val (.int p2), .val (.int p3), .val (.int p4), .val (.int p5), .val (.int p6), .val (.int op), .val (.int (0 : Int32)), .val (.int (4 : Int32)), .val (.ref b6), .val (.int (3 : Int32)), .unset] [(.int (2 : Int32)), (.int (3 : Int32))])) _
            refine XS.icmpYes X53.here hx rfl (pc0 := 130) (pc' := 137) rfl (hb hby at_130) rfl (feq (by decide : ¬ ((3 : Int32) = (2 : Int32)))).2 (by decide) (by decide) ?_
            show Steps p.tables e below (T53.setTop (mkF m 137 #[.val (.int p1), .val (.int p2), .val (.int p3), .val (.int p4), .val (.int p5), .val (.int p6), .val (.int op), .val (.int (0 : Int32)), .val (.int (4 : Int32)), .val (.ref b6), .val (.int (3 : Int32)), .unset] [])) _
            refine XS.iload X53.here hx rfl (hb hby at_137) rfl ?_
            show Steps p.tables e below (T53.setTop (mkF m 139 #[.val (.int p1), .val (.int p2), .val (.int p3), .val (.int p4), .val (.int p5), .val (.int p6), .val (.int op), .val (.int (0 : Int32)), .val (.int (4 : Int32)), .val (.ref b6), .val (.int (3 : Int32)), .unset] [(.int (3 : Int32))])) _
            refine XS.iconst X53.here hx rfl (hb hby at_139) ?_
            show Steps p.tables e below (T53.setTop (mkF m 140 #[.val (.int p1), .val (.int p2), .val (.int p3), .val (.int p4), .val (.int p5), .val (.int p6), .val (.int op), .val (.int (0 : Int32)), .val (.int (4 : Int32)), .val (.ref b6), .val (.int (3 : Int32)), .unset] [(.int (3 : Int32)), (.int (3 : Int32))])) _
            refine XS.icmpNo X53.here hx rfl (hb hby at_140) rfl (teq (by decide : (3 : Int32) = (3 : Int32))).2 ?_
            show Steps p.tables e below (T53.setTop (mkF m 143 #[.val (.int p1), .val (.int p2), .val (.int p3), .val (.int p4), .val (.int p5), .val (.int p6), .val (.int op), .val (.int (0 : Int32)), .val (.int (4 : Int32)), .val (.ref b6), .val (.int (3 : Int32)), .unset] [])) _
            refine XS.iload X53.here hx rfl (hb hby at_143) rfl ?_
            show Steps p.tables e below (T53.setTop (mkF m 145 #[.val (.int p1), .val (.int p2), .val (.int p3), .val (.int p4), .val (.int p5), .val (.int p6), .val (.int op), .val (.int (0 : Int32)), .val (.int (4 : Int32)), .val (.ref b6), .val (.int (3 : Int32)), .unset] [(.int p5)])) _
            refine XS.goto X53.here hx rfl (pc0 := 145) (pc' := 149) rfl (hb hby at_145) (by decide) (by decide) ?_
            show Steps p.tables e below (T53.setTop (mkF m 149 #[.val (.int p1), .val (.int p2), .val (.int p3), .val (.int p4), .val (.int p5), .val (.int p6), .val (.int op), .val (.int (0 : Int32)), .val (.int (4 : Int32)), .val (.ref b6), .val (.int (3 : Int32)), .unset] [(.int p5)])) _
            refine XS.istore X53.here hx rfl (hb hby at_149) rfl (l' := #[.val (.int p1), .val (.int p2), .val (.int p3), .val (.int p4), .val (.int p5), .val (.int p6), .val (.int op), .val (.int (0 : Int32)), .val (.int (4 : Int32)), .val (.ref b6), .val (.int (3 : Int32)), .val (.int p5)]) rfl ?_
            show Steps p.tables e below (T53.setTop (mkF m 151 #[.val (.int p1), .val (.int p2), .val (.int p3), .val (.int p4), .val (.int p5), .val (.int p6), .val (.int op), .val (.int (0 : Int32)), .val (.int (4 : Int32)), .val (.ref b6), .val (.int (3 : Int32)), .val (.int p5)] [])) _
            refine XS.aload X53.here hx rfl (hb hby at_151) rfl rfl ?_
            show Steps p.tables e below (T53.setTop (mkF m 153 #[.val (.int p1), .val (.int p2), .val (.int p3), .val (.int p4), .val (.int p5), .val (.int p6), .val (.int op), .val (.int (0 : Int32)), .val (.int (4 : Int32)), .val (.ref b6), .val (.int (3 : Int32)), .val (.int p5)] [(.ref b6)])) _
            refine XS.iload X53.here hx rfl (hb hby at_153) rfl ?_
            show Steps p.tables e below (T53.setTop (mkF m 155 #[.val (.int p1), .val (.int p2), .val (.int p3), .val (.int p4), .val (.int p5), .val (.int p6), .val (.int op), .val (.int (0 : Int32)), .val (.int (4 : Int32)), .val (.ref b6), .val (.int (3 : Int32)), .val (.int p5)] [(.int (0 : Int32)), (.ref b6)])) _
            refine st54 _ ?_
            show Steps p.tables e below (T54.setTop (mkF m 158 #[.val (.int p1), .val (.int p2), .val (.int p3), .val (.int p4), .val (.int p5), .val (.int p6), .val (.int op), .val (.int (0 : Int32)), .val (.int (4 : Int32)), .val (.ref b6), .val (.int (3 : Int32)), .val (.int p5)] [(.int p5)])) _
            refine XS.iload X54.here hx rfl (hb hby at_158) rfl ?_
            show Steps p.tables e below (T54.setTop (mkF m 160 #[.val (.int p1), .val (.int p2), .val (.int p3), .val (.int p4), .val (.int p5), .val (.int p6), .val (.int op), .val (.int (0 : Int32)), .val (.int (4 : Int32)), .val (.ref b6), .val (.int (3 : Int32)), .val (.int p5)] [(.int p5), (.int p5)])) _
            refine XS.icmpNo X54.here hx rfl (hb hby at_160) rfl (teq hc55).2 ?_
            show Steps p.tables e below (T54.setTop (mkF m 163 #[.val (.int p1), .val (.int p2), .val (.int p3), .val (.int p4), .val (.int p5), .val (.int p6), .val (.int op), .val (.int (0 : Int32)), .val (.int (4 : Int32)), .val (.ref b6), .val (.int (3 : Int32)), .val (.int p5)] [])) _
            refine XS.iconst X54.here hx rfl (hb hby at_163) ?_
            show Steps p.tables e below (T54.setTop (mkF m 164 #[.val (.int p1), .val (.int p2), .val (.int p3), .val (.int p4), .val (.int p5), .val (.int p6), .val (.int op), .val (.int (0 : Int32)), .val (.int (4 : Int32)), .val (.ref b6), .val (.int (3 : Int32)), .val (.int p5)] [(.int (1 : Int32))])) _
            refine XS.goto X54.here hx rfl (pc0 := 164) (pc' := 168) rfl (hb hby at_164) (by decide) (by decide) ?_
            exact k
          obtain ⟨fs, hrt, hrun, hended, hW, hsame⟩ := X54.leave (v := some (.int (1 : Int32))) (fun h => by rw [Bd.returns] at h; cases h)
          refine ⟨_, _, g56 _ ?_, hrun, hended, _, _, rfl, ?_, ⟨_, rfl⟩, hW, hsame.mono (by decide) (by decide)⟩
          · show Steps p.tables e below (T54.setTop (mkF m 168 #[.val (.int p1), .val (.int p2), .val (.int p3), .val (.int p4), .val (.int p5), .val (.int p6), .val (.int op), .val (.int (0 : Int32)), .val (.int (4 : Int32)), .val (.ref b6), .val (.int (3 : Int32)), .val (.int p5)] [(.int (1 : Int32))])) _
            exact retN X54 hx (t := .boolean) Bd.returns (by simp) (hb hby at_168) hrt
          · show own_Q_rm0 Z p1 p2 p3 p4 p5 p6 h0 n0 _ T54.heap _
            rw [e54]
            exact ⟨rfl, N54⟩
    · obtain ⟨T57, h57, k57, X57, e57, E57, A57, st57⟩ := newP X0 hx hZ (hw _ (List.mem_of_getElem? (i := 0) rfl)) e0 (g := (mkF m 40 #[.val (.int p1), .val (.int p2), .val (.int p3), .val (.int p4), .val (.int p5), .val (.int p6), .val (.int op), .val (.int (4 : Int32)), .val (.int (0 : Int32)), .unset, .unset, .unset] [(.int (8 : Int32))])) rfl (hb hby at_40) rfl (by decide) (cap := 8) (by decide) (by decide) (by decide) (by decide)
      obtain ⟨b57, q_b57⟩ : ∃ z, z = h0.size := ⟨_, rfl⟩
      rw [← q_b57] at A57 st57
      have sz_b57 : h0.size ≤ b57 := Nat.le_of_eq q_b57.symm
      have gz_b57 : n0 ≤ b57 := Nat.le_trans Z0 sz_b57
      have V57 : Arv Z h57 b57 k57 .int (8 : Int32) [(.int (0 : Int32)), (.int (0 : Int32)), (.int (0 : Int32)), (.int (0 : Int32)), (.int (0 : Int32)), (.int (0 : Int32)), (.int (0 : Int32)), (.int (0 : Int32))] (.int (0 : Int32)) := (Arv.new A57 (by decide)).pad (pad_rep [] (.int (0 : Int32)) 8)
      obtain ⟨c58, Ar58, cq58, S58, Nn58, Hh58, Gg58⟩ := id V57
      have hin58 : ¬ ((0 : Int32) < 0 ∨ c58.slots.size ≤ ((0 : Int32)).toNatClampNeg) := inb_of S58 ⟨by decide, by decide⟩
      obtain ⟨T59, h59, X59, e59, W59, st59⟩ := stI X57 hx hZ e57 Ar58 (j := (0 : Int32)) hin58 (g := (mkF m 50 #[.val (.int p1), .val (.int p2), .val (.int p3), .val (.int p4), .val (.int p5), .val (.int p6), .val (.int op), .val (.int (4 : Int32)), .val (.int (0 : Int32)), .val (.ref b57), .unset, .unset] [(.int p6), (.int (0 : Int32)), (.ref b57)])) rfl rfl (hb hby at_50)
      have V59 := Arv.set Ar58 cq58 S58 Nn58 Hh58 Gg58 rfl W59 0 rfl (Nat.le_of_ble_eq_true rfl)
      have V59a : Arv Z h59 b57 k57 .int (8 : Int32) [(.int p6), (.int (0 : Int32)), (.int (0 : Int32)), (.int (0 : Int32)), (.int (0 : Int32)), (.int (0 : Int32)), (.int (0 : Int32)), (.int (0 : Int32))] (.int (0 : Int32)) := V59
      have N59 := Fr.snoc X59 N0 gz_b57
      obtain ⟨c60, Ar60, cq60, S60, Nn60, Hh60, Gg60⟩ := id V59a
      have hin60 : ¬ ((1 : Int32) < 0 ∨ c60.slots.size ≤ ((1 : Int32)).toNatClampNeg) := inb_of S60 ⟨by decide, by decide⟩
      obtain ⟨T61, h61, X61, e61, W61, st61⟩ := stI X59 hx hZ e59 Ar60 (j := (1 : Int32)) hin60 (g := (mkF m 59 #[.val (.int p1), .val (.int p2), .val (.int p3), .val (.int p4), .val (.int p5), .val (.int p6), .val (.int op), .val (.int (4 : Int32)), .val (.int (0 : Int32)), .val (.ref b57), .unset, .unset] [(.int p6), (.int (1 : Int32)), (.ref b57)])) rfl rfl (hb hby at_59)
      have V61 := Arv.set Ar60 cq60 S60 Nn60 Hh60 Gg60 rfl W61 1 rfl (Nat.le_of_ble_eq_true rfl)
      have V61a : Arv Z h61 b57 k57 .int (8 : Int32) [(.int p6), (.int p6), (.int (0 : Int32)), (.int (0 : Int32)), (.int (0 : Int32)), (.int (0 : Int32)), (.int (0 : Int32)), (.int (0 : Int32))] (.int (0 : Int32)) := V61
      have N61 := Fr.snoc X61 N59 gz_b57
      obtain ⟨c62, Ar62, cq62, S62, Nn62, Hh62, Gg62⟩ := id V61a
      have hin62 : ¬ ((2 : Int32) < 0 ∨ c62.slots.size ≤ ((2 : Int32)).toNatClampNeg) := inb_of S62 ⟨by decide, by decide⟩
      obtain ⟨T63, h63, X63, e63, W63, st63⟩ := stI X61 hx hZ e61 Ar62 (j := (2 : Int32)) hin62 (g := (mkF m 68 #[.val (.int p1), .val (.int p2), .val (.int p3), .val (.int p4), .val (.int p5), .val (.int p6), .val (.int op), .val (.int (4 : Int32)), .val (.int (0 : Int32)), .val (.ref b57), .unset, .unset] [(.int p6), (.int (2 : Int32)), (.ref b57)])) rfl rfl (hb hby at_68)
      have V63 := Arv.set Ar62 cq62 S62 Nn62 Hh62 Gg62 rfl W63 2 rfl (Nat.le_of_ble_eq_true rfl)
      have V63a : Arv Z h63 b57 k57 .int (8 : Int32) [(.int p6), (.int p6), (.int p6), (.int (0 : Int32)), (.int (0 : Int32)), (.int (0 : Int32)), (.int (0 : Int32)), (.int (0 : Int32))] (.int (0 : Int32)) := V63
      have N63 := Fr.snoc X63 N61 gz_b57
      obtain ⟨c64, Ar64, cq64, S64, Nn64, Hh64, Gg64⟩ := id V63a
      have hin64 : ¬ ((3 : Int32) < 0 ∨ c64.slots.size ≤ ((3 : Int32)).toNatClampNeg) := inb_of S64 ⟨by decide, by decide⟩
      obtain ⟨T65, h65, X65, e65, W65, st65⟩ := stI X63 hx hZ e63 Ar64 (j := (3 : Int32)) hin64 (g := (mkF m 77 #[.val (.int p1), .val (.int p2), .val (.int p3), .val (.int p4), .val (.int p5), .val (.int p6), .val (.int op), .val (.int (4 : Int32)), .val (.int (0 : Int32)), .val (.ref b57), .unset, .unset] [(.int p6), (.int (3 : Int32)), (.ref b57)])) rfl rfl (hb hby at_77)
      have V65 := Arv.set Ar64 cq64 S64 Nn64 Hh64 Gg64 rfl W65 3 rfl (Nat.le_of_ble_eq_true rfl)
      have V65a : Arv Z h65 b57 k57 .int (8 : Int32) [(.int p6), (.int p6), (.int p6), (.int p6), (.int (0 : Int32)), (.int (0 : Int32)), (.int (0 : Int32)), (.int (0 : Int32))] (.int (0 : Int32)) := V65
      have N65 := Fr.snoc X65 N63 gz_b57
      obtain ⟨c66, Ar66, cq66, S66, Nn66, Hh66, Gg66⟩ := id V65a
      have hin66 : ¬ ((4 : Int32) < 0 ∨ c66.slots.size ≤ ((4 : Int32)).toNatClampNeg) := inb_of S66 ⟨by decide, by decide⟩
      obtain ⟨T67, h67, X67, e67, W67, st67⟩ := stI X65 hx hZ e65 Ar66 (j := (4 : Int32)) hin66 (g := (mkF m 84 #[.val (.int p1), .val (.int p2), .val (.int p3), .val (.int p4), .val (.int p5), .val (.int p6), .val (.int op), .val (.int (4 : Int32)), .val (.int (0 : Int32)), .val (.ref b57), .unset, .unset] [(.int op), (.int (4 : Int32)), (.ref b57)])) rfl rfl (hb hby at_84)
      have V67 := Arv.set Ar66 cq66 S66 Nn66 Hh66 Gg66 rfl W67 4 rfl (Nat.le_of_ble_eq_true rfl)
      have V67a : Arv Z h67 b57 k57 .int (8 : Int32) [(.int p6), (.int p6), (.int p6), (.int p6), (.int op), (.int (0 : Int32)), (.int (0 : Int32)), (.int (0 : Int32))] (.int (0 : Int32)) := V67
      have N67 := Fr.snoc X67 N65 gz_b57
      obtain ⟨c68, Ar68, cq68, S68, Nn68, Hh68, Gg68⟩ := id V67a
      have hin68 : ¬ ((5 : Int32) < 0 ∨ c68.slots.size ≤ ((5 : Int32)).toNatClampNeg) := inb_of S68 ⟨by decide, by decide⟩
      obtain ⟨T69, h69, X69, e69, W69, st69⟩ := stI X67 hx hZ e67 Ar68 (j := (5 : Int32)) hin68 (g := (mkF m 92 #[.val (.int p1), .val (.int p2), .val (.int p3), .val (.int p4), .val (.int p5), .val (.int p6), .val (.int op), .val (.int (4 : Int32)), .val (.int (0 : Int32)), .val (.ref b57), .unset, .unset] [(.int p3), (.int (5 : Int32)), (.ref b57)])) rfl rfl (hb hby at_92)
      have V69 := Arv.set Ar68 cq68 S68 Nn68 Hh68 Gg68 rfl W69 5 rfl (Nat.le_of_ble_eq_true rfl)
      have V69a : Arv Z h69 b57 k57 .int (8 : Int32) [(.int p6), (.int p6), (.int p6), (.int p6), (.int op), (.int p3), (.int (0 : Int32)), (.int (0 : Int32))] (.int (0 : Int32)) := V69
      have N69 := Fr.snoc X69 N67 gz_b57
      obtain ⟨c70, Ar70, cq70, S70, Nn70, Hh70, Gg70⟩ := id V69a
      have hin70 : ¬ ((6 : Int32) < 0 ∨ c70.slots.size ≤ ((6 : Int32)).toNatClampNeg) := inb_of S70 ⟨by decide, by decide⟩
      obtain ⟨T71, h71, X71, e71, W71, st71⟩ := stI X69 hx hZ e69 Ar70 (j := (6 : Int32)) hin70 (g := (mkF m 100 #[.val (.int p1), .val (.int p2), .val (.int p3), .val (.int p4), .val (.int p5), .val (.int p6), .val (.int op), .val (.int (4 : Int32)), .val (.int (0 : Int32)), .val (.ref b57), .unset, .unset] [(.int p4), (.int (6 : Int32)), (.ref b57)])) rfl rfl (hb hby at_100)
      have V71 := Arv.set Ar70 cq70 S70 Nn70 Hh70 Gg70 rfl W71 6 rfl (Nat.le_of_ble_eq_true rfl)
      have V71a : Arv Z h71 b57 k57 .int (8 : Int32) [(.int p6), (.int p6), (.int p6), (.int p6), (.int op), (.int p3), (.int p4), (.int (0 : Int32))] (.int (0 : Int32)) := V71
      have N71 := Fr.snoc X71 N69 gz_b57
      obtain ⟨c72, Ar72, cq72, S72, Nn72, Hh72, Gg72⟩ := id V71a
      have hin72 : ¬ ((7 : Int32) < 0 ∨ c72.slots.size ≤ ((7 : Int32)).toNatClampNeg) := inb_of S72 ⟨by decide, by decide⟩
      obtain ⟨T73, h73, X73, e73, W73, st73⟩ := stI X71 hx hZ e71 Ar72 (j := (7 : Int32)) hin72 (g := (mkF m 109 #[.val (.int p1), .val (.int p2), .val (.int p3), .val (.int p4), .val (.int p5), .val (.int p6), .val (.int op), .val (.int (4 : Int32)), .val (.int (0 : Int32)), .val (.ref b57), .unset, .unset] [(.int p5), (.int (7 : Int32)), (.ref b57)])) rfl rfl (hb hby at_109)
      have V73 := Arv.set Ar72 cq72 S72 Nn72 Hh72 Gg72 rfl W73 7 rfl (Nat.le_of_ble_eq_true rfl)
      have V73a : Arv Z h73 b57 k57 .int (8 : Int32) [(.int p6), (.int p6), (.int p6), (.int p6), (.int op), (.int p3), (.int p4), (.int p5)] (.int (0 : Int32)) := V73
      have N73 := Fr.snoc X73 N71 gz_b57
      have g75 : ∀ t, Steps p.tables e below (T73.setTop (mkF m 110 #[.val (.int p1), .val (.int p2), .val (.int p3), .val (.int p4), .val (.int p5), .val (.int p6), .val (.int op), .val (.int (4 : Int32)), .val (.int (0 : Int32)), .val (.ref b57), .unset, .unset] [])) t → Steps p.tables e below (s₁.setTop (entryFrame m #[(.int p1), (.int p2), (.int p3), (.int p4), (.int p5), (.int p6)] maxLocals)) t := by
        intro t k
        refine g5 t ?_
        show Steps p.tables e below (s₁.setTop (mkF m 22 #[.val (.int p1), .val (.int p2), .val (.int p3), .val (.int p4), .val (.int p5), .val (.int p6), .val (.int op), .unset, .unset, .unset, .unset, .unset] [(.int (p1 &&& (1 : Int32)))])) _
        refine XS.ifNo X0.here hx rfl (hb hby at_22) rfl ((if0 _ _).trans (feq hc4).1) ?_
        show Steps p.tables e below (s₁.setTop (mkF m 25 #[.val (.int p1), .val (.int p2), .val (.int p3), .val (.int p4), .val (.int p5), .val (.int p6), .val (.int op), .unset, .unset, .unset, .unset, .unset] [])) _
        refine XS.iconst X0.here hx rfl (hb hby at_25) ?_
        show Steps p.tables e below (s₁.setTop (mkF m 26 #[.val (.int p1), .val (.int p2), .val (.int p3), .val (.int p4), .val (.int p5), .val (.int p6), .val (.int op), .unset, .unset, .unset, .unset, .unset] [(.int (4 : Int32))])) _
        refine XS.goto X0.here hx rfl (pc0 := 26) (pc' := 30) rfl (hb hby at_26) (by decide) (by decide) ?_
        show Steps p.tables e below (s₁.setTop (mkF m 30 #[.val (.int p1), .val (.int p2), .val (.int p3), .val (.int p4), .val (.int p5), .val (.int p6), .val (.int op), .unset, .unset, .unset, .unset, .unset] [(.int (4 : Int32))])) _
        refine XS.istore X0.here hx rfl (hb hby at_30) rfl (l' := #[.val (.int p1), .val (.int p2), .val (.int p3), .val (.int p4), .val (.int p5), .val (.int p6), .val (.int op), .val (.int (4 : Int32)), .unset, .unset, .unset, .unset]) rfl ?_
        show Steps p.tables e below (s₁.setTop (mkF m 32 #[.val (.int p1), .val (.int p2), .val (.int p3), .val (.int p4), .val (.int p5), .val (.int p6), .val (.int op), .val (.int (4 : Int32)), .unset, .unset, .unset, .unset] [])) _
        refine XS.iconst X0.here hx rfl (hb hby at_32) ?_
        show Steps p.tables e below (s₁.setTop (mkF m 33 #[.val (.int p1), .val (.int p2), .val (.int p3), .val (.int p4), .val (.int p5), .val (.int p6), .val (.int op), .val (.int (4 : Int32)), .unset, .unset, .unset, .unset] [(.int (4 : Int32))])) _
        refine XS.iload X0.here hx rfl (hb hby at_33) rfl ?_
        show Steps p.tables e below (s₁.setTop (mkF m 35 #[.val (.int p1), .val (.int p2), .val (.int p3), .val (.int p4), .val (.int p5), .val (.int p6), .val (.int op), .val (.int (4 : Int32)), .unset, .unset, .unset, .unset] [(.int (4 : Int32)), (.int (4 : Int32))])) _
        refine XS.isub X0.here hx rfl (hb hby at_35) rfl ?_
        rw [show ((4 : Int32) - (4 : Int32)) = (0 : Int32) from by decide]
        show Steps p.tables e below (s₁.setTop (mkF m 36 #[.val (.int p1), .val (.int p2), .val (.int p3), .val (.int p4), .val (.int p5), .val (.int p6), .val (.int op), .val (.int (4 : Int32)), .unset, .unset, .unset, .unset] [(.int (0 : Int32))])) _
        refine XS.istore X0.here hx rfl (hb hby at_36) rfl (l' := #[.val (.int p1), .val (.int p2), .val (.int p3), .val (.int p4), .val (.int p5), .val (.int p6), .val (.int op), .val (.int (4 : Int32)), .val (.int (0 : Int32)), .unset, .unset, .unset]) rfl ?_
        show Steps p.tables e below (s₁.setTop (mkF m 38 #[.val (.int p1), .val (.int p2), .val (.int p3), .val (.int p4), .val (.int p5), .val (.int p6), .val (.int op), .val (.int (4 : Int32)), .val (.int (0 : Int32)), .unset, .unset, .unset] [])) _
        refine XS.bipush X0.here hx rfl (hb hby at_38) ?_
        show Steps p.tables e below (s₁.setTop (mkF m 40 #[.val (.int p1), .val (.int p2), .val (.int p3), .val (.int p4), .val (.int p5), .val (.int p6), .val (.int op), .val (.int (4 : Int32)), .val (.int (0 : Int32)), .unset, .unset, .unset] [(.int (8 : Int32))])) _
        refine st57 _ ?_
        show Steps p.tables e below (T57.setTop (mkF m 42 #[.val (.int p1), .val (.int p2), .val (.int p3), .val (.int p4), .val (.int p5), .val (.int p6), .val (.int op), .val (.int (4 : Int32)), .val (.int (0 : Int32)), .unset, .unset, .unset] [(.ref b57)])) _
        refine XS.astore X57.here hx rfl (hb hby at_42) rfl rfl (l' := #[.val (.int p1), .val (.int p2), .val (.int p3), .val (.int p4), .val (.int p5), .val (.int p6), .val (.int op), .val (.int (4 : Int32)), .val (.int (0 : Int32)), .val (.ref b57), .unset, .unset]) rfl ?_
        show Steps p.tables e below (T57.setTop (mkF m 44 #[.val (.int p1), .val (.int p2), .val (.int p3), .val (.int p4), .val (.int p5), .val (.int p6), .val (.int op), .val (.int (4 : Int32)), .val (.int (0 : Int32)), .val (.ref b57), .unset, .unset] [])) _
        refine XS.aload X57.here hx rfl (hb hby at_44) rfl rfl ?_
        show Steps p.tables e below (T57.setTop (mkF m 46 #[.val (.int p1), .val (.int p2), .val (.int p3), .val (.int p4), .val (.int p5), .val (.int p6), .val (.int op), .val (.int (4 : Int32)), .val (.int (0 : Int32)), .val (.ref b57), .unset, .unset] [(.ref b57)])) _
        refine XS.iload X57.here hx rfl (hb hby at_46) rfl ?_
        show Steps p.tables e below (T57.setTop (mkF m 48 #[.val (.int p1), .val (.int p2), .val (.int p3), .val (.int p4), .val (.int p5), .val (.int p6), .val (.int op), .val (.int (4 : Int32)), .val (.int (0 : Int32)), .val (.ref b57), .unset, .unset] [(.int (0 : Int32)), (.ref b57)])) _
        refine XS.iload X57.here hx rfl (hb hby at_48) rfl ?_
        show Steps p.tables e below (T57.setTop (mkF m 50 #[.val (.int p1), .val (.int p2), .val (.int p3), .val (.int p4), .val (.int p5), .val (.int p6), .val (.int op), .val (.int (4 : Int32)), .val (.int (0 : Int32)), .val (.ref b57), .unset, .unset] [(.int p6), (.int (0 : Int32)), (.ref b57)])) _
        refine st59 _ ?_
        show Steps p.tables e below (T59.setTop (mkF m 51 #[.val (.int p1), .val (.int p2), .val (.int p3), .val (.int p4), .val (.int p5), .val (.int p6), .val (.int op), .val (.int (4 : Int32)), .val (.int (0 : Int32)), .val (.ref b57), .unset, .unset] [])) _
        refine XS.aload X59.here hx rfl (hb hby at_51) rfl rfl ?_
        show Steps p.tables e below (T59.setTop (mkF m 53 #[.val (.int p1), .val (.int p2), .val (.int p3), .val (.int p4), .val (.int p5), .val (.int p6), .val (.int op), .val (.int (4 : Int32)), .val (.int (0 : Int32)), .val (.ref b57), .unset, .unset] [(.ref b57)])) _
        refine XS.iload X59.here hx rfl (hb hby at_53) rfl ?_
        show Steps p.tables e below (T59.setTop (mkF m 55 #[.val (.int p1), .val (.int p2), .val (.int p3), .val (.int p4), .val (.int p5), .val (.int p6), .val (.int op), .val (.int (4 : Int32)), .val (.int (0 : Int32)), .val (.ref b57), .unset, .unset] [(.int (0 : Int32)), (.ref b57)])) _
        refine XS.iconst X59.here hx rfl (hb hby at_55) ?_
        show Steps p.tables e below (T59.setTop (mkF m 56 #[.val (.int p1), .val (.int p2), .val (.int p3), .val (.int p4), .val (.int p5), .val (.int p6), .val (.int op), .val (.int (4 : Int32)), .val (.int (0 : Int32)), .val (.ref b57), .unset, .unset] [(.int (1 : Int32)), (.int (0 : Int32)), (.ref b57)])) _
        refine XS.iadd X59.here hx rfl (hb hby at_56) rfl ?_
        rw [show ((0 : Int32) + (1 : Int32)) = (1 : Int32) from by decide]
        show Steps p.tables e below (T59.setTop (mkF m 57 #[.val (.int p1), .val (.int p2), .val (.int p3), .val (.int p4), .val (.int p5), .val (.int p6), .val (.int op), .val (.int (4 : Int32)), .val (.int (0 : Int32)), .val (.ref b57), .unset, .unset] [(.int (1 : Int32)), (.ref b57)])) _
        refine XS.iload X59.here hx rfl (hb hby at_57) rfl ?_
        show Steps p.tables e below (T59.setTop (mkF m 59 #[.val (.int p1), .val (.int p2), .val (.int p3), .val (.int p4), .val (.int p5), .val (.int p6), .val (.int op), .val (.int (4 : Int32)), .val (.int (0 : Int32)), .val (.ref b57), .unset, .unset] [(.int p6), (.int (1 : Int32)), (.ref b57)])) _
        refine st61 _ ?_
        show Steps p.tables e below (T61.setTop (mkF m 60 #[.val (.int p1), .val (.int p2), .val (.int p3), .val (.int p4), .val (.int p5), .val (.int p6), .val (.int op), .val (.int (4 : Int32)), .val (.int (0 : Int32)), .val (.ref b57), .unset, .unset] [])) _
        refine XS.aload X61.here hx rfl (hb hby at_60) rfl rfl ?_
        show Steps p.tables e below (T61.setTop (mkF m 62 #[.val (.int p1), .val (.int p2), .val (.int p3), .val (.int p4), .val (.int p5), .val (.int p6), .val (.int op), .val (.int (4 : Int32)), .val (.int (0 : Int32)), .val (.ref b57), .unset, .unset] [(.ref b57)])) _
        refine XS.iload X61.here hx rfl (hb hby at_62) rfl ?_
        show Steps p.tables e below (T61.setTop (mkF m 64 #[.val (.int p1), .val (.int p2), .val (.int p3), .val (.int p4), .val (.int p5), .val (.int p6), .val (.int op), .val (.int (4 : Int32)), .val (.int (0 : Int32)), .val (.ref b57), .unset, .unset] [(.int (0 : Int32)), (.ref b57)])) _
        refine XS.iconst X61.here hx rfl (hb hby at_64) ?_
        show Steps p.tables e below (T61.setTop (mkF m 65 #[.val (.int p1), .val (.int p2), .val (.int p3), .val (.int p4), .val (.int p5), .val (.int p6), .val (.int op), .val (.int (4 : Int32)), .val (.int (0 : Int32)), .val (.ref b57), .unset, .unset] [(.int (2 : Int32)), (.int (0 : Int32)), (.ref b57)])) _
        refine XS.iadd X61.here hx rfl (hb hby at_65) rfl ?_
        rw [show ((0 : Int32) + (2 : Int32)) = (2 : Int32) from by decide]
        show Steps p.tables e below (T61.setTop (mkF m 66 #[.val (.int p1), .val (.int p2), .val (.int p3), .val (.int p4), .val (.int p5), .val (.int p6), .val (.int op), .val (.int (4 : Int32)), .val (.int (0 : Int32)), .val (.ref b57), .unset, .unset] [(.int (2 : Int32)), (.ref b57)])) _
        refine XS.iload X61.here hx rfl (hb hby at_66) rfl ?_
        show Steps p.tables e below (T61.setTop (mkF m 68 #[.val (.int p1), .val (.int p2), .val (.int p3), .val (.int p4), .val (.int p5), .val (.int p6), .val (.int op), .val (.int (4 : Int32)), .val (.int (0 : Int32)), .val (.ref b57), .unset, .unset] [(.int p6), (.int (2 : Int32)), (.ref b57)])) _
        refine st63 _ ?_
        show Steps p.tables e below (T63.setTop (mkF m 69 #[.val (.int p1), .val (.int p2), .val (.int p3), .val (.int p4), .val (.int p5), .val (.int p6), .val (.int op), .val (.int (4 : Int32)), .val (.int (0 : Int32)), .val (.ref b57), .unset, .unset] [])) _
        refine XS.aload X63.here hx rfl (hb hby at_69) rfl rfl ?_
        show Steps p.tables e below (T63.setTop (mkF m 71 #[.val (.int p1), .val (.int p2), .val (.int p3), .val (.int p4), .val (.int p5), .val (.int p6), .val (.int op), .val (.int (4 : Int32)), .val (.int (0 : Int32)), .val (.ref b57), .unset, .unset] [(.ref b57)])) _
        refine XS.iload X63.here hx rfl (hb hby at_71) rfl ?_
        show Steps p.tables e below (T63.setTop (mkF m 73 #[.val (.int p1), .val (.int p2), .val (.int p3), .val (.int p4), .val (.int p5), .val (.int p6), .val (.int op), .val (.int (4 : Int32)), .val (.int (0 : Int32)), .val (.ref b57), .unset, .unset] [(.int (0 : Int32)), (.ref b57)])) _
        refine XS.iconst X63.here hx rfl (hb hby at_73) ?_
        show Steps p.tables e below (T63.setTop (mkF m 74 #[.val (.int p1), .val (.int p2), .val (.int p3), .val (.int p4), .val (.int p5), .val (.int p6), .val (.int op), .val (.int (4 : Int32)), .val (.int (0 : Int32)), .val (.ref b57), .unset, .unset] [(.int (3 : Int32)), (.int (0 : Int32)), (.ref b57)])) _
        refine XS.iadd X63.here hx rfl (hb hby at_74) rfl ?_
        rw [show ((0 : Int32) + (3 : Int32)) = (3 : Int32) from by decide]
        show Steps p.tables e below (T63.setTop (mkF m 75 #[.val (.int p1), .val (.int p2), .val (.int p3), .val (.int p4), .val (.int p5), .val (.int p6), .val (.int op), .val (.int (4 : Int32)), .val (.int (0 : Int32)), .val (.ref b57), .unset, .unset] [(.int (3 : Int32)), (.ref b57)])) _
        refine XS.iload X63.here hx rfl (hb hby at_75) rfl ?_
        show Steps p.tables e below (T63.setTop (mkF m 77 #[.val (.int p1), .val (.int p2), .val (.int p3), .val (.int p4), .val (.int p5), .val (.int p6), .val (.int op), .val (.int (4 : Int32)), .val (.int (0 : Int32)), .val (.ref b57), .unset, .unset] [(.int p6), (.int (3 : Int32)), (.ref b57)])) _
        refine st65 _ ?_
        show Steps p.tables e below (T65.setTop (mkF m 78 #[.val (.int p1), .val (.int p2), .val (.int p3), .val (.int p4), .val (.int p5), .val (.int p6), .val (.int op), .val (.int (4 : Int32)), .val (.int (0 : Int32)), .val (.ref b57), .unset, .unset] [])) _
        refine XS.aload X65.here hx rfl (hb hby at_78) rfl rfl ?_
        show Steps p.tables e below (T65.setTop (mkF m 80 #[.val (.int p1), .val (.int p2), .val (.int p3), .val (.int p4), .val (.int p5), .val (.int p6), .val (.int op), .val (.int (4 : Int32)), .val (.int (0 : Int32)), .val (.ref b57), .unset, .unset] [(.ref b57)])) _
        refine XS.iload X65.here hx rfl (hb hby at_80) rfl ?_
        show Steps p.tables e below (T65.setTop (mkF m 82 #[.val (.int p1), .val (.int p2), .val (.int p3), .val (.int p4), .val (.int p5), .val (.int p6), .val (.int op), .val (.int (4 : Int32)), .val (.int (0 : Int32)), .val (.ref b57), .unset, .unset] [(.int (4 : Int32)), (.ref b57)])) _
        refine XS.iload X65.here hx rfl (hb hby at_82) rfl ?_
        show Steps p.tables e below (T65.setTop (mkF m 84 #[.val (.int p1), .val (.int p2), .val (.int p3), .val (.int p4), .val (.int p5), .val (.int p6), .val (.int op), .val (.int (4 : Int32)), .val (.int (0 : Int32)), .val (.ref b57), .unset, .unset] [(.int op), (.int (4 : Int32)), (.ref b57)])) _
        refine st67 _ ?_
        show Steps p.tables e below (T67.setTop (mkF m 85 #[.val (.int p1), .val (.int p2), .val (.int p3), .val (.int p4), .val (.int p5), .val (.int p6), .val (.int op), .val (.int (4 : Int32)), .val (.int (0 : Int32)), .val (.ref b57), .unset, .unset] [])) _
        refine XS.aload X67.here hx rfl (hb hby at_85) rfl rfl ?_
        show Steps p.tables e below (T67.setTop (mkF m 87 #[.val (.int p1), .val (.int p2), .val (.int p3), .val (.int p4), .val (.int p5), .val (.int p6), .val (.int op), .val (.int (4 : Int32)), .val (.int (0 : Int32)), .val (.ref b57), .unset, .unset] [(.ref b57)])) _
        refine XS.iload X67.here hx rfl (hb hby at_87) rfl ?_
        show Steps p.tables e below (T67.setTop (mkF m 89 #[.val (.int p1), .val (.int p2), .val (.int p3), .val (.int p4), .val (.int p5), .val (.int p6), .val (.int op), .val (.int (4 : Int32)), .val (.int (0 : Int32)), .val (.ref b57), .unset, .unset] [(.int (4 : Int32)), (.ref b57)])) _
        refine XS.iconst X67.here hx rfl (hb hby at_89) ?_
        show Steps p.tables e below (T67.setTop (mkF m 90 #[.val (.int p1), .val (.int p2), .val (.int p3), .val (.int p4), .val (.int p5), .val (.int p6), .val (.int op), .val (.int (4 : Int32)), .val (.int (0 : Int32)), .val (.ref b57), .unset, .unset] [(.int (1 : Int32)), (.int (4 : Int32)), (.ref b57)])) _
        refine XS.iadd X67.here hx rfl (hb hby at_90) rfl ?_
        rw [show ((4 : Int32) + (1 : Int32)) = (5 : Int32) from by decide]
        show Steps p.tables e below (T67.setTop (mkF m 91 #[.val (.int p1), .val (.int p2), .val (.int p3), .val (.int p4), .val (.int p5), .val (.int p6), .val (.int op), .val (.int (4 : Int32)), .val (.int (0 : Int32)), .val (.ref b57), .unset, .unset] [(.int (5 : Int32)), (.ref b57)])) _
        refine XS.iloadN X67.here hx rfl (hb hby at_91) rfl ?_
        show Steps p.tables e below (T67.setTop (mkF m 92 #[.val (.int p1), .val (.int p2), .val (.int p3), .val (.int p4), .val (.int p5), .val (.int p6), .val (.int op), .val (.int (4 : Int32)), .val (.int (0 : Int32)), .val (.ref b57), .unset, .unset] [(.int p3), (.int (5 : Int32)), (.ref b57)])) _
        refine st69 _ ?_
        show Steps p.tables e below (T69.setTop (mkF m 93 #[.val (.int p1), .val (.int p2), .val (.int p3), .val (.int p4), .val (.int p5), .val (.int p6), .val (.int op), .val (.int (4 : Int32)), .val (.int (0 : Int32)), .val (.ref b57), .unset, .unset] [])) _
        refine XS.aload X69.here hx rfl (hb hby at_93) rfl rfl ?_
        show Steps p.tables e below (T69.setTop (mkF m 95 #[.val (.int p1), .val (.int p2), .val (.int p3), .val (.int p4), .val (.int p5), .val (.int p6), .val (.int op), .val (.int (4 : Int32)), .val (.int (0 : Int32)), .val (.ref b57), .unset, .unset] [(.ref b57)])) _
        refine XS.iload X69.here hx rfl (hb hby at_95) rfl ?_
        show Steps p.tables e below (T69.setTop (mkF m 97 #[.val (.int p1), .val (.int p2), .val (.int p3), .val (.int p4), .val (.int p5), .val (.int p6), .val (.int op), .val (.int (4 : Int32)), .val (.int (0 : Int32)), .val (.ref b57), .unset, .unset] [(.int (4 : Int32)), (.ref b57)])) _
        refine XS.iconst X69.here hx rfl (hb hby at_97) ?_
        show Steps p.tables e below (T69.setTop (mkF m 98 #[.val (.int p1), .val (.int p2), .val (.int p3), .val (.int p4), .val (.int p5), .val (.int p6), .val (.int op), .val (.int (4 : Int32)), .val (.int (0 : Int32)), .val (.ref b57), .unset, .unset] [(.int (2 : Int32)), (.int (4 : Int32)), (.ref b57)])) _
        refine XS.iadd X69.here hx rfl (hb hby at_98) rfl ?_
        rw [show ((4 : Int32) + (2 : Int32)) = (6 : Int32) from by decide]
        show Steps p.tables e below (T69.setTop (mkF m 99 #[.val (.int p1), .val (.int p2), .val (.int p3), .val (.int p4), .val (.int p5), .val (.int p6), .val (.int op), .val (.int (4 : Int32)), .val (.int (0 : Int32)), .val (.ref b57), .unset, .unset] [(.int (6 : Int32)), (.ref b57)])) _
        refine XS.iloadN X69.here hx rfl (hb hby at_99) rfl ?_
        show Steps p.tables e below (T69.setTop (mkF m 100 #[.val (.int p1), .val (.int p2), .val (.int p3), .val (.int p4), .val (.int p5), .val (.int p6), .val (.int op), .val (.int (4 : Int32)), .val (.int (0 : Int32)), .val (.ref b57), .unset, .unset] [(.int p4), (.int (6 : Int32)), (.ref b57)])) _
        refine st71 _ ?_
        show Steps p.tables e below (T71.setTop (mkF m 101 #[.val (.int p1), .val (.int p2), .val (.int p3), .val (.int p4), .val (.int p5), .val (.int p6), .val (.int op), .val (.int (4 : Int32)), .val (.int (0 : Int32)), .val (.ref b57), .unset, .unset] [])) _
        refine XS.aload X71.here hx rfl (hb hby at_101) rfl rfl ?_
        show Steps p.tables e below (T71.setTop (mkF m 103 #[.val (.int p1), .val (.int p2), .val (.int p3), .val (.int p4), .val (.int p5), .val (.int p6), .val (.int op), .val (.int (4 : Int32)), .val (.int (0 : Int32)), .val (.ref b57), .unset, .unset] [(.ref b57)])) _
        refine XS.iload X71.here hx rfl (hb hby at_103) rfl ?_
        show Steps p.tables e below (T71.setTop (mkF m 105 #[.val (.int p1), .val (.int p2), .val (.int p3), .val (.int p4), .val (.int p5), .val (.int p6), .val (.int op), .val (.int (4 : Int32)), .val (.int (0 : Int32)), .val (.ref b57), .unset, .unset] [(.int (4 : Int32)), (.ref b57)])) _
        refine XS.iconst X71.here hx rfl (hb hby at_105) ?_
        show Steps p.tables e below (T71.setTop (mkF m 106 #[.val (.int p1), .val (.int p2), .val (.int p3), .val (.int p4), .val (.int p5), .val (.int p6), .val (.int op), .val (.int (4 : Int32)), .val (.int (0 : Int32)), .val (.ref b57), .unset, .unset] [(.int (3 : Int32)), (.int (4 : Int32)), (.ref b57)])) _
        refine XS.iadd X71.here hx rfl (hb hby at_106) rfl ?_
        rw [show ((4 : Int32) + (3 : Int32)) = (7 : Int32) from by decide]
        show Steps p.tables e below (T71.setTop (mkF m 107 #[.val (.int p1), .val (.int p2), .val (.int p3), .val (.int p4), .val (.int p5), .val (.int p6), .val (.int op), .val (.int (4 : Int32)), .val (.int (0 : Int32)), .val (.ref b57), .unset, .unset] [(.int (7 : Int32)), (.ref b57)])) _
        refine XS.iload X71.here hx rfl (hb hby at_107) rfl ?_
        show Steps p.tables e below (T71.setTop (mkF m 109 #[.val (.int p1), .val (.int p2), .val (.int p3), .val (.int p4), .val (.int p5), .val (.int p6), .val (.int op), .val (.int (4 : Int32)), .val (.int (0 : Int32)), .val (.ref b57), .unset, .unset] [(.int p5), (.int (7 : Int32)), (.ref b57)])) _
        refine st73 _ ?_
        exact k
      by_cases hc74 : op < (12 : Int32)
      · have o76 : Old Z n0 h73 := (Old.wr (Old.wr (Old.wr (Old.wr (Old.wr (Old.wr (Old.wr (Old.wr (Old.ext O0 E57) W59 gz_b57) W61 gz_b57) W63 gz_b57) W65 gz_b57) W67 gz_b57) W69 gz_b57) W71 gz_b57) W73 gz_b57)
        obtain ⟨_, _, ⟨T77, L77, k77, n77⟩, -, X77, ⟨Lc77, hQ77, l77, y77, z77⟩, st77⟩ := Jvm.LawKit.callS X73 hx (y := (⟨"com/example/chalkline/chalkline/runtime/MachineCodeTargetPinLaw", "targetOperand", "(I)I"⟩ : MethodName)) hown (mvT hZ (hw _ (List.mem_of_getElem? (i := 1) rfl))) (mvT hZ (hw _ (List.mem_of_getElem? (i := 2) rfl))) (mvT hZ (hw _ (List.mem_of_getElem? (i := 3) rfl))) (mvT hZ (hw _ (List.mem_of_getElem? (i := 4) rfl))) (by decide) (backOf (W := 0) (rmOp l Z a0 hw [] op (0 : Int32) h73 n0 o76 (by rw [if_pos hc74])) hZ (hw _ (List.mem_of_getElem? (i := 4) rfl)) (hw _ (List.mem_of_getElem? (i := 3) rfl)) (by decide) (by decide)) (g := (mkF m 112 #[.val (.int p1), .val (.int p2), .val (.int p3), .val (.int p4), .val (.int p5), .val (.int p6), .val (.int op), .val (.int (4 : Int32)), .val (.int (0 : Int32)), .val (.ref b57), .unset, .unset] [(.int op)])) rfl (by rw [hml]; rfl) (argsL := [(.int op)]) (rest := []) (lenOf own_pd0 rfl) rfl (by show 2 * 0 + _ ≤ _; exact Nat.le_of_eq rfl) (hb hby at_112) (fun _ _ => ⟨rfl, e73, (by decide : 1 + 0 ≤ _), (by decide : 8 + 0 ≤ _)⟩)
        dsimp only [Pt.U, Pt.locs, Pt.cells, Pt.slots] at X77 l77 y77 z77 st77 hQ77
        subst l77 y77 z77
        obtain ⟨rfl, Nq77, e77⟩ := hQ77
        have N77 := Fr.app N73 Nq77
        obtain ⟨_, _, ⟨T78, L78, k78, n78⟩, -, X78, ⟨Lc78, hQ78, l78, y78, z78⟩, st78⟩ := Jvm.LawKit.callS X77 hx (y := (⟨"com/example/chalkline/chalkline/runtime/MachineCode", "target", "([II)I"⟩ : MethodName)) hown (mvT hZ (hw _ (List.mem_of_getElem? (i := 5) rfl))) (mvT hZ (hw _ (List.mem_of_getElem? (i := 6) rfl))) (mvT hZ (hw _ (List.mem_of_getElem? (i := 7) rfl))) (mvT hZ (hw _ (List.mem_of_getElem? (i := 8) rfl))) (by decide) (backOf (W := 0) (rmT4 l Z a0 hw [] b57 k57 p6 p6 p6 p6 op p3 p4 p5 (-1 : Int32) h73 n0 o76 V73a (by rw [if_neg (fun q => by rw [q] at hc74; exact absurd hc74 (by decide)), if_neg (fun q => by rw [q] at hc74; exact absurd hc74 (by decide)), if_neg (fun q => by rw [q] at hc74; exact absurd hc74 (by decide)), if_pos hc74])) hZ (hw _ (List.mem_of_getElem? (i := 8) rfl)) (hw _ (List.mem_of_getElem? (i := 7) rfl)) (by decide) (by decide)) (g := (mkF m 155 #[.val (.int p1), .val (.int p2), .val (.int p3), .val (.int p4), .val (.int p5), .val (.int p6), .val (.int op), .val (.int (4 : Int32)), .val (.int (0 : Int32)), .val (.ref b57), .val (.int (0 : Int32)), .val (.int (-1 : Int32))] [(.int (4 : Int32)), (.ref b57)])) rfl (by rw [hml]; rfl) (argsL := [(.ref b57), (.int (4 : Int32))]) (rest := []) (lenOf own_pd1 rfl) rfl (by show 2 * 0 + _ ≤ _; exact Nat.le_of_eq rfl) (hb hby at_155) (fun _ _ => ⟨rfl, e77, (by decide : 1 + 0 ≤ _), (by decide : 8 + 0 ≤ _)⟩)
        dsimp only [Pt.U, Pt.locs, Pt.cells, Pt.slots] at X78 l78 y78 z78 st78 hQ78
        subst l78 y78 z78
        obtain ⟨rfl, Nq78, e78⟩ := hQ78
        have N78 := Fr.app N77 Nq78
        have g79 : ∀ t, Steps p.tables e below (T78.setTop (mkF m 168 #[.val (.int p1), .val (.int p2), .val (.int p3), .val (.int p4), .val (.int p5), .val (.int p6), .val (.int op), .val (.int (4 : Int32)), .val (.int (0 : Int32)), .val (.ref b57), .val (.int (0 : Int32)), .val (.int (-1 : Int32))] [(.int (1 : Int32))])) t → Steps p.tables e below (s₁.setTop (entryFrame m #[(.int p1), (.int p2), (.int p3), (.int p4), (.int p5), (.int p6)] maxLocals)) t := by
          intro t k
          refine g75 t ?_
          show Steps p.tables e below (T73.setTop (mkF m 110 #[.val (.int p1), .val (.int p2), .val (.int p3), .val (.int p4), .val (.int p5), .val (.int p6), .val (.int op), .val (.int (4 : Int32)), .val (.int (0 : Int32)), .val (.ref b57), .unset, .unset] [])) _
          refine XS.iload X73.here hx rfl (hb hby at_110) rfl ?_
          show Steps p.tables e below (T73.setTop (mkF m 112 #[.val (.int p1), .val (.int p2), .val (.int p3), .val (.int p4), .val (.int p5), .val (.int p6), .val (.int op), .val (.int (4 : Int32)), .val (.int (0 : Int32)), .val (.ref b57), .unset, .unset] [(.int op)])) _
          refine st77 _ ?_
          show Steps p.tables e below (T77.setTop (mkF m 115 #[.val (.int p1), .val (.int p2), .val (.int p3), .val (.int p4), .val (.int p5), .val (.int p6), .val (.int op), .val (.int (4 : Int32)), .val (.int (0 : Int32)), .val (.ref b57), .unset, .unset] [(.int (0 : Int32))])) _
          refine XS.istore X77.here hx rfl (hb hby at_115) rfl (l' := #[.val (.int p1), .val (.int p2), .val (.int p3), .val (.int p4), .val (.int p5), .val (.int p6), .val (.int op), .val (.int (4 : Int32)), .val (.int (0 : Int32)), .val (.ref b57), .val (.int (0 : Int32)), .unset]) rfl ?_
          show Steps p.tables e below (T77.setTop (mkF m 117 #[.val (.int p1), .val (.int p2), .val (.int p3), .val (.int p4), .val (.int p5), .val (.int p6), .val (.int op), .val (.int (4 : Int32)), .val (.int (0 : Int32)), .val (.ref b57), .val (.int (0 : Int32)), .unset] [])) _
          refine XS.iload X77.here hx rfl (hb hby at_117) rfl ?_
          show Steps p.tables e below (T77.setTop (mkF m 119 #[.val (.int p1), .val (.int p2), .val (.int p3), .val (.int p4), .val (.int p5), .val (.int p6), .val (.int op), .val (.int (4 : Int32)), .val (.int (0 : Int32)), .val (.ref b57), .val (.int (0 : Int32)), .unset] [(.int (0 : Int32))])) _
          refine XS.iconst X77.here hx rfl (hb hby at_119) ?_
          show Steps p.tables e below (T77.setTop (mkF m 120 #[.val (.int p1), .val (.int p2), .val (.int p3), .val (.int p4), .val (.int p5), .val (.int p6), .val (.int op), .val (.int (4 : Int32)), .val (.int (0 : Int32)), .val (.ref b57), .val (.int (0 : Int32)), .unset] [(.int (1 : Int32)), (.int (0 : Int32))])) _
          refine XS.icmpYes X77.here hx rfl (pc0 := 120) (pc' := 127) rfl (hb hby at_120) rfl (feq (by decide : ¬ ((0 : Int32) = (1 : Int32)))).2 (by decide) (by decide) ?_
          show Steps p.tables e below (T77.setTop (mkF m 127 #[.val (.int p1), .val (.int p2), .val (.int p3), .val (.int p4), .val (.int p5), .val (.int p6), .val (.int op), .val (.int (4 : Int32)), .val (.int (0 : Int32)), .val (.ref b57), .val (.int (0 : Int32)), .unset] [])) _
          refine XS.iload X77.here hx rfl (hb hby at_127) rfl ?_
          show Steps p.tables e below (T77.setTop (mkF m 129 #[.val (.int p1), .val (.int p2), .val (.int p3), .val (.int p4), .val (.int p5), .val (.int p6), .val (.int op), .val (.int (4 : Int32)), .val (.int (0 : Int32)), .val (.ref b57), .val (.int (0 : Int32)), .unset] [(.int (0 : Int32))])) _
          refine XS.iconst X77.here hx rfl (hb hby at_129) ?_
          show Steps p.tables e below (T77.setTop (mkF m 130 #[.val (.int p1), .val (.int p2), .val (.int p3), .val (.int p4), .val (.int p5), .val (.int p6), .val (.int op), .val (.int (4 : Int32)), .val (.int (0 : Int32)), .val (.ref b57), .val (.int (0 : Int32)), .unset] [(.int (2 : Int32)), (.int (0 : Int32))])) _
          refine XS.icmpYes X77.here hx rfl (pc0 := 130) (pc' := 137) rfl (hb hby at_130) rfl (feq (by decide : ¬ ((0 : Int32) = (2 : Int32)))).2 (by decide) (by decide) ?_
          show Steps p.tables e below (T77.setTop (mkF m 137 #[.val (.int p1), .val (.int p2), .val (.int p3), .val (.int p4), .val (.int p5), .val (.int p6), .val (.int op), .val (.int (4 : Int32)), .val (.int (0 : Int32)), .val (.ref b57), .val (.int (0 : Int32)), .unset] [])) _
          refine XS.iload X77.here hx rfl (hb hby at_137) rfl ?_
          show Steps p.tables e below (T77.setTop (mkF m 139 #[.val (.int p1), .val (.int p2), .val (.int p3), .val (.int p4), .val (.int p5), .val (.int p6), .val (.int op), .val (.int (4 : Int32)), .val (.int (0 : Int32)), .val (.ref b57), .val (.int (0 : Int32)), .unset] [(.int (0 : Int32))])) _
          refine XS.iconst X77.here hx rfl (hb hby at_139) ?_
          show Steps p.tables e below (T77.setTop (mkF m 140 #[.val (.int p1), .val (.int p2), .val (.int p3), .val (.int p4), .val (.int p5), .val (.int p6), .val (.int op), .val (.int (4 : Int32)), .val (.int (0 : Int32)), .val (.ref b57), .val (.int (0 : Int32)), .unset] [(.int (3 : Int32)), (.int (0 : Int32))])) _
          refine XS.icmpYes X77.here hx rfl (pc0 := 140) (pc' := 148) rfl (hb hby at_140) rfl (feq (by decide : ¬ ((0 : Int32) = (3 : Int32)))).2 (by decide) (by decide) ?_
          show Steps p.tables e below (T77.setTop (mkF m 148 #[.val (.int p1), .val (.int p2), .val (.int p3), .val (.int p4), .val (.int p5), .val (.int p6), .val (.int op), .val (.int (4 : Int32)), .val (.int (0 : Int32)), .val (.ref b57), .val (.int (0 : Int32)), .unset] [])) _
          refine XS.iconst X77.here hx rfl (hb hby at_148) ?_
          show Steps p.tables e below (T77.setTop (mkF m 149 #[.val (.int p1), .val (.int p2), .val (.int p3), .val (.int p4), .val (.int p5), .val (.int p6), .val (.int op), .val (.int (4 : Int32)), .val (.int (0 : Int32)), .val (.ref b57), .val (.int (0 : Int32)), .unset] [(.int (-1 : Int32))])) _
          refine XS.istore X77.here hx rfl (hb hby at_149) rfl (l' := #[.val (.int p1), .val (.int p2), .val (.int p3), .val (.int p4), .val (.int p5), .val (.int p6), .val (.int op), .val (.int (4 : Int32)), .val (.int (0 : Int32)), .val (.ref b57), .val (.int (0 : Int32)), .val (.int (-1 : Int32))]) rfl ?_
          show Steps p.tables e below (T77.setTop (mkF m 151 #[.val (.int p1), .val (.int p2), .val (.int p3), .val (.int p4), .val (.int p5), .val (.int p6), .val (.int op), .val (.int (4 : Int32)), .val (.int (0 : Int32)), .val (.ref b57), .val (.int (0 : Int32)), .val (.int (-1 : Int32))] [])) _
          refine XS.aload X77.here hx rfl (hb hby at_151) rfl rfl ?_
          show Steps p.tables e below (T77.setTop (mkF m 153 #[.val (.int p1), .val (.int p2), .val (.int p3), .val (.int p4), .val (.int p5), .val (.int p6), .val (.int op), .val (.int (4 : Int32)), .val (.int (0 : Int32)), .val (.ref b57), .val (.int (0 : Int32)), .val (.int (-1 : Int32))] [(.ref b57)])) _
          refine XS.iload X77.here hx rfl (hb hby at_153) rfl ?_
          show Steps p.tables e below (T77.setTop (mkF m 155 #[.val (.int p1), .val (.int p2), .val (.int p3), .val (.int p4), .val (.int p5), .val (.int p6), .val (.int op), .val (.int (4 : Int32)), .val (.int (0 : Int32)), .val (.ref b57), .val (.int (0 : Int32)), .val (.int (-1 : Int32))] [(.int (4 : Int32)), (.ref b57)])) _
          refine st78 _ ?_
          show Steps p.tables e below (T78.setTop (mkF m 158 #[.val (.int p1), .val (.int p2), .val (.int p3), .val (.int p4), .val (.int p5), .val (.int p6), .val (.int op), .val (.int (4 : Int32)), .val (.int (0 : Int32)), .val (.ref b57), .val (.int (0 : Int32)), .val (.int (-1 : Int32))] [(.int (-1 : Int32))])) _
          refine XS.iload X78.here hx rfl (hb hby at_158) rfl ?_
          show Steps p.tables e below (T78.setTop (mkF m 160 #[.val (.int p1), .val (.int p2), .val (.int p3), .val (.int p4), .val (.int p5), .val (.int p6), .val (.int op), .val (.int (4 : Int32)), .val (.int (0 : Int32)), .val (.ref b57), .val (.int (0 : Int32)), .val (.int (-1 : Int32))] [(.int (-1 : Int32)), (.int (-1 : Int32))])) _
          refine XS.icmpNo X78.here hx rfl (hb hby at_160) rfl (teq (by decide : (-1 : Int32) = (-1 : Int32))).2 ?_
          show Steps p.tables e below (T78.setTop (mkF m 163 #[.val (.int p1), .val (.int p2), .val (.int p3), .val (.int p4), .val (.int p5), .val (.int p6), .val (.int op), .val (.int (4 : Int32)), .val (.int (0 : Int32)), .val (.ref b57), .val (.int (0 : Int32)), .val (.int (-1 : Int32))] [])) _
          refine XS.iconst X78.here hx rfl (hb hby at_163) ?_
          show Steps p.tables e below (T78.setTop (mkF m 164 #[.val (.int p1), .val (.int p2), .val (.int p3), .val (.int p4), .val (.int p5), .val (.int p6), .val (.int op), .val (.int (4 : Int32)), .val (.int (0 : Int32)), .val (.ref b57), .val (.int (0 : Int32)), .val (.int (-1 : Int32))] [(.int (1 : Int32))])) _
          refine XS.goto X78.here hx rfl (pc0 := 164) (pc' := 168) rfl (hb hby at_164) (by decide) (by decide) ?_
          exact k
        obtain ⟨fs, hrt, hrun, hended, hW, hsame⟩ := X78.leave (v := some (.int (1 : Int32))) (fun h => by rw [Bd.returns] at h; cases h)
        refine ⟨_, _, g79 _ ?_, hrun, hended, _, _, rfl, ?_, ⟨_, rfl⟩, hW, hsame.mono (by decide) (by decide)⟩
        · show Steps p.tables e below (T78.setTop (mkF m 168 #[.val (.int p1), .val (.int p2), .val (.int p3), .val (.int p4), .val (.int p5), .val (.int p6), .val (.int op), .val (.int (4 : Int32)), .val (.int (0 : Int32)), .val (.ref b57), .val (.int (0 : Int32)), .val (.int (-1 : Int32))] [(.int (1 : Int32))])) _
          exact retN X78 hx (t := .boolean) Bd.returns (by simp) (hb hby at_168) hrt
        · show own_Q_rm0 Z p1 p2 p3 p4 p5 p6 h0 n0 _ T78.heap _
          rw [e78]
          exact ⟨rfl, N78⟩
      · by_cases hc80 : (21 : Int32) < op
        · by_cases hc81 : op = (27 : Int32)
          · have o82 : Old Z n0 h73 := (Old.wr (Old.wr (Old.wr (Old.wr (Old.wr (Old.wr (Old.wr (Old.wr (Old.ext O0 E57) W59 gz_b57) W61 gz_b57) W63 gz_b57) W65 gz_b57) W67 gz_b57) W69 gz_b57) W71 gz_b57) W73 gz_b57)
            obtain ⟨_, _, ⟨T83, L83, k83, n83⟩, -, X83, ⟨Lc83, hQ83, l83, y83, z83⟩, st83⟩ := Jvm.LawKit.callS X73 hx (y := (⟨"com/example/chalkline/chalkline/runtime/MachineCodeTargetPinLaw", "targetOperand", "(I)I"⟩ : MethodName)) hown (mvT hZ (hw _ (List.mem_of_getElem? (i := 1) rfl))) (mvT hZ (hw _ (List.mem_of_getElem? (i := 2) rfl))) (mvT hZ (hw _ (List.mem_of_getElem? (i := 3) rfl))) (mvT hZ (hw _ (List.mem_of_getElem? (i := 4) rfl))) (by decide) (backOf (W := 0) (rmOp l Z a0 hw [] op (1 : Int32) h73 n0 o82 (by rw [if_neg hc74, if_pos hc80, if_pos hc81])) hZ (hw _ (List.mem_of_getElem? (i := 4) rfl)) (hw _ (List.mem_of_getElem? (i := 3) rfl)) (by decide) (by decide)) (g := (mkF m 112 #[.val (.int p1), .val (.int p2), .val (.int p3), .val (.int p4), .val (.int p5), .val (.int p6), .val (.int op), .val (.int (4 : Int32)), .val (.int (0 : Int32)), .val (.ref b57), .unset, .unset] [(.int op)])) rfl (by rw [hml]; rfl) (argsL := [(.int op)]) (rest := []) (lenOf own_pd0 rfl) rfl (by show 2 * 0 + _ ≤ _; exact Nat.le_of_eq rfl) (hb hby at_112) (fun _ _ => ⟨rfl, e73, (by decide : 1 + 0 ≤ _), (by decide : 8 + 0 ≤ _)⟩)
            dsimp only [Pt.U, Pt.locs, Pt.cells, Pt.slots] at X83 l83 y83 z83 st83 hQ83
            subst l83 y83 z83
            obtain ⟨rfl, Nq83, e83⟩ := hQ83
            have N83 := Fr.app N73 Nq83
            obtain ⟨_, _, ⟨T84, L84, k84, n84⟩, -, X84, ⟨Lc84, hQ84, l84, y84, z84⟩, st84⟩ := Jvm.LawKit.callS X83 hx (y := (⟨"com/example/chalkline/chalkline/runtime/MachineCode", "target", "([II)I"⟩ : MethodName)) hown (mvT hZ (hw _ (List.mem_of_getElem? (i := 5) rfl))) (mvT hZ (hw _ (List.mem_of_getElem? (i := 6) rfl))) (mvT hZ (hw _ (List.mem_of_getElem? (i := 7) rfl))) (mvT hZ (hw _ (List.mem_of_getElem? (i := 8) rfl))) (by decide) (backOf (W := 0) (rmT4 l Z a0 hw [] b57 k57 p6 p6 p6 p6 op p3 p4 p5 p3 h73 n0 o82 V73a (by rw [if_pos hc81])) hZ (hw _ (List.mem_of_getElem? (i := 8) rfl)) (hw _ (List.mem_of_getElem? (i := 7) rfl)) (by decide) (by decide)) (g := (mkF m 155 #[.val (.int p1), .val (.int p2), .val (.int p3), .val (.int p4), .val (.int p5), .val (.int p6), .val (.int op), .val (.int (4 : Int32)), .val (.int (0 : Int32)), .val (.ref b57), .val (.int (1 : Int32)), .val (.int p3)] [(.int (4 : Int32)), (.ref b57)])) rfl (by rw [hml]; rfl) (argsL := [(.ref b57), (.int (4 : Int32))]) (rest := []) (lenOf own_pd1 rfl) rfl (by show 2 * 0 + _ ≤ _; exact Nat.le_of_eq rfl) (hb hby at_155) (fun _ _ => ⟨rfl, e83, (by decide : 1 + 0 ≤ _), (by decide : 8 + 0 ≤ _)⟩)
            dsimp only [Pt.U, Pt.locs, Pt.cells, Pt.slots] at X84 l84 y84 z84 st84 hQ84
            subst l84 y84 z84
            obtain ⟨rfl, Nq84, e84⟩ := hQ84
            have N84 := Fr.app N83 Nq84
            have hc85 : p3 = p3 := rfl
            have g86 : ∀ t, Steps p.tables e below (T84.setTop (mkF m 168 #[.val (.int p1), .val (.int p2), .val (.int p3), .val (.int p4), .val (.int p5), .val (.int p6), .val (.int op), .val (.int (4 : Int32)), .val (.int (0 : Int32)), .val (.ref b57), .val (.int (1 : Int32)), .val (.int p3)] [(.int (1 : Int32))])) t → Steps p.tables e below (s₁.setTop (entryFrame m #[(.int p1), (.int p2), (.int p3), (.int p4), (.int p5), (.int p6)] maxLocals)) t := by
              intro t k
              refine g75 t ?_
              show Steps p.tables e below (T73.setTop (mkF m 110 #[.val (.int p1), .val (.int p2), .val (.int p3), .val (.int p4), .val (.int p5), .val (.int p6), .val (.int op), .val (.int (4 : Int32)), .val (.int (0 : Int32)), .val (.ref b57), .unset, .unset] [])) _
              refine XS.iload X73.here hx rfl (hb hby at_110) rfl ?_
              show Steps p.tables e below (T73.setTop (mkF m 112 #[.val (.int p1), .val (.int p2), .val (.int p3), .val (.int p4), .val (.int p5), .val (.int p6), .val (.int op), .val (.int (4 : Int32)), .val (.int (0 : Int32)), .val (.ref b57), .unset, .unset] [(.int op)])) _
              refine st83 _ ?_
              show Steps p.tables e below (T83.setTop (mkF m 115 #[.val (.int p1), .val (.int p2), .val (.int p3), .val (.int p4), .val (.int p5), .val (.int p6), .val (.int op), .val (.int (4 : Int32)), .val (.int (0 : Int32)), .val (.ref b57), .unset, .unset] [(.int (1 : Int32))])) _
              refine XS.istore X83.here hx rfl (hb hby at_115) rfl (l' := #[.val (.int p1), .val (.int p2), .val (.int p3), .val (.int p4), .val (.int p5), .val (.int p6), .val (.int op), .val (.int (4 : Int32)), .val (.int (0 : Int32)), .val (.ref b57), .val (.int (1 : Int32)), .unset]) rfl ?_
              show Steps p.tables e below (T83.setTop (mkF m 117 #[.val (.int p1), .val (.int p2), .val (.int p3), .val (.int p4), .val (.int p5), .val (.int p6), .val (.int op), .val (.int (4 : Int32)), .val (.int (0 : Int32)), .val (.ref b57), .val (.int (1 : Int32)), .unset] [])) _
              refine XS.iload X83.here hx rfl (hb hby at_117) rfl ?_
              show Steps p.tables e below (T83.setTop (mkF m 119 #[.val (.int p1), .val (.int p2), .val (.int p3), .val (.int p4), .val (.int p5), .val (.int p6), .val (.int op), .val (.int (4 : Int32)), .val (.int (0 : Int32)), .val (.ref b57), .val (.int (1 : Int32)), .unset] [(.int (1 : Int32))])) _
              refine XS.iconst X83.here hx rfl (hb hby at_119) ?_
              show Steps p.tables e below (T83.setTop (mkF m 120 #[.val (.int p1), .val (.int p2), .val (.int p3), .val (.int p4), .val (.int p5), .val (.int p6), .val (.int op), .val (.int (4 : Int32)), .val (.int (0 : Int32)), .val (.ref b57), .val (.int (1 : Int32)), .unset] [(.int (1 : Int32)), (.int (1 : Int32))])) _
              refine XS.icmpNo X83.here hx rfl (hb hby at_120) rfl (teq (by decide : (1 : Int32) = (1 : Int32))).2 ?_
              show Steps p.tables e below (T83.setTop (mkF m 123 #[.val (.int p1), .val (.int p2), .val (.int p3), .val (.int p4), .val (.int p5), .val (.int p6), .val (.int op), .val (.int (4 : Int32)), .val (.int (0 : Int32)), .val (.ref b57), .val (.int (1 : Int32)), .unset] [])) _
              refine XS.iloadN X83.here hx rfl (hb hby at_123) rfl ?_
              show Steps p.tables e below (T83.setTop (mkF m 124 #[.val (.int p1), .val (.int p2), .val (.int p3), .val (.int p4), .val (.int p5), .val (.int p6), .val (.int op), .val (.int (4 : Int32)), .val (.int (0 : Int32)), .val (.ref b57), .val (.int (1 : Int32)), .unset] [(.int p3)])) _
              refine XS.goto X83.here hx rfl (pc0 := 124) (pc' := 149) rfl (hb hby at_124) (by decide) (by decide) ?_
              show Steps p.tables e below (T83.setTop (mkF m 149 #[.val (.int p1), .val (.int p2), .val (.int p3), .val (.int p4), .val (.int p5), .val (.int p6), .val (.int op), .val (.int (4 : Int32)), .val (.int (0 : Int32)), .val (.ref b57), .val (.int (1 : Int32)), .unset] [(.int p3)])) _
              refine XS.istore X83.here hx rfl (hb hby at_149) rfl (l' := #[.val (.int p1), .val (.int p2), .val (.int p3), .val (.int p4), .val (.int p5), .val (.int p6), .val (.int op), .val (.int (4 : Int32)), .val (.int (0 : Int32)), .val (.ref b57), .val (.int (1 : Int32)), .val (.int p3)]) rfl ?_
              show Steps p.tables e below (T83.setTop (mkF m 151 #[.val (.int p1), .val (.int p2), .val (.int p3), .val (.int p4), .val (.int p5), .val (.int p6), .val (.int op), .val (.int (4 : Int32)), .val (.int (0 : Int32)), .val (.ref b57), .val (.int (1 : Int32)), .val (.int p3)] [])) _
              refine XS.aload X83.here hx rfl (hb hby at_151) rfl rfl ?_
              show Steps p.tables e below (T83.setTop (mkF m 153 #[.val (.int p1), .val (.int p2), .val (.int p3), .val (.int p4), .val (.int p5), .val (.int p6), .val (.int op), .val (.int (4 : Int32)), .val (.int (0 : Int32)), .val (.ref b57), .val (.int (1 : Int32)), .val (.int p3)] [(.ref b57)])) _
              refine XS.iload X83.here hx rfl (hb hby at_153) rfl ?_
              show Steps p.tables e below (T83.setTop (mkF m 155 #[.val (.int p1), .val (.int p2), .val (.int p3), .val (.int p4), .val (.int p5), .val (.int p6), .val (.int op), .val (.int (4 : Int32)), .val (.int (0 : Int32)), .val (.ref b57), .val (.int (1 : Int32)), .val (.int p3)] [(.int (4 : Int32)), (.ref b57)])) _
              refine st84 _ ?_
              show Steps p.tables e below (T84.setTop (mkF m 158 #[.val (.int p1), .val (.int p2), .val (.int p3), .val (.int p4), .val (.int p5), .val (.int p6), .val (.int op), .val (.int (4 : Int32)), .val (.int (0 : Int32)), .val (.ref b57), .val (.int (1 : Int32)), .val (.int p3)] [(.int p3)])) _
              refine XS.iload X84.here hx rfl (hb hby at_158) rfl ?_
              show Steps p.tables e below (T84.setTop (mkF m 160 #[.val (.int p1), .val (.int p2), .val (.int p3), .val (.int p4), .val (.int p5), .val (.int p6), .val (.int op), .val (.int (4 : Int32)), .val (.int (0 : Int32)), .val (.ref b57), .val (.int (1 : Int32)), .val (.int p3)] [(.int p3), (.int p3)])) _
              refine XS.icmpNo X84.here hx rfl (hb hby at_160) rfl (teq hc85).2 ?_
              show Steps p.tables e below (T84.setTop (mkF m 163 #[.val (.int p1), .val (.int p2), .val (.int p3), .val (.int p4), .val (.int p5), .val (.int p6), .val (.int op), .val (.int (4 : Int32)), .val (.int (0 : Int32)), .val (.ref b57), .val (.int (1 : Int32)), .val (.int p3)] [])) _
              refine XS.iconst X84.here hx rfl (hb hby at_163) ?_
              show Steps p.tables e below (T84.setTop (mkF m 164 #[.val (.int p1), .val (.int p2), .val (.int p3), .val (.int p4), .val (.int p5), .val (.int p6), .val (.int op), .val (.int (4 : Int32)), .val (.int (0 : Int32)), .val (.ref b57), .val (.int (1 : Int32)), .val (.int p3)] [(.int (1 : Int32))])) _
              refine XS.goto X84.here hx rfl (pc0 := 164) (pc' := 168) rfl (hb hby at_164) (by decide) (by decide) ?_
              exact k
            obtain ⟨fs, hrt, hrun, hended, hW, hsame⟩ := X84.leave (v := some (.int (1 : Int32))) (fun h => by rw [Bd.returns] at h; cases h)
            refine ⟨_, _, g86 _ ?_, hrun, hended, _, _, rfl, ?_, ⟨_, rfl⟩, hW, hsame.mono (by decide) (by decide)⟩
            · show Steps p.tables e below (T84.setTop (mkF m 168 #[.val (.int p1), .val (.int p2), .val (.int p3), .val (.int p4), .val (.int p5), .val (.int p6), .val (.int op), .val (.int (4 : Int32)), .val (.int (0 : Int32)), .val (.ref b57), .val (.int (1 : Int32)), .val (.int p3)] [(.int (1 : Int32))])) _
              exact retN X84 hx (t := .boolean) Bd.returns (by simp) (hb hby at_168) hrt
            · show own_Q_rm0 Z p1 p2 p3 p4 p5 p6 h0 n0 _ T84.heap _
              rw [e84]
              exact ⟨rfl, N84⟩
          · by_cases hc87 : op = (28 : Int32)
            · have o88 : Old Z n0 h73 := (Old.wr (Old.wr (Old.wr (Old.wr (Old.wr (Old.wr (Old.wr (Old.wr (Old.ext O0 E57) W59 gz_b57) W61 gz_b57) W63 gz_b57) W65 gz_b57) W67 gz_b57) W69 gz_b57) W71 gz_b57) W73 gz_b57)
              obtain ⟨_, _, ⟨T89, L89, k89, n89⟩, -, X89, ⟨Lc89, hQ89, l89, y89, z89⟩, st89⟩ := Jvm.LawKit.callS X73 hx (y := (⟨"com/example/chalkline/chalkline/runtime/MachineCodeTargetPinLaw", "targetOperand", "(I)I"⟩ : MethodName)) hown (mvT hZ (hw _ (List.mem_of_getElem? (i := 1) rfl))) (mvT hZ (hw _ (List.mem_of_getElem? (i := 2) rfl))) (mvT hZ (hw _ (List.mem_of_getElem? (i := 3) rfl))) (mvT hZ (hw _ (List.mem_of_getElem? (i := 4) rfl))) (by decide) (backOf (W := 0) (rmOp l Z a0 hw [] op (2 : Int32) h73 n0 o88 (by rw [if_neg hc74, if_pos hc80, if_neg hc81, if_pos hc87])) hZ (hw _ (List.mem_of_getElem? (i := 4) rfl)) (hw _ (List.mem_of_getElem? (i := 3) rfl)) (by decide) (by decide)) (g := (mkF m 112 #[.val (.int p1), .val (.int p2), .val (.int p3), .val (.int p4), .val (.int p5), .val (.int p6), .val (.int op), .val (.int (4 : Int32)), .val (.int (0 : Int32)), .val (.ref b57), .unset, .unset] [(.int op)])) rfl (by rw [hml]; rfl) (argsL := [(.int op)]) (rest := []) (lenOf own_pd0 rfl) rfl (by show 2 * 0 + _ ≤ _; exact Nat.le_of_eq rfl) (hb hby at_112) (fun _ _ => ⟨rfl, e73, (by decide : 1 + 0 ≤ _), (by decide : 8 + 0 ≤ _)⟩)
              dsimp only [Pt.U, Pt.locs, Pt.cells, Pt.slots] at X89 l89 y89 z89 st89 hQ89
              subst l89 y89 z89
              obtain ⟨rfl, Nq89, e89⟩ := hQ89
              have N89 := Fr.app N73 Nq89
              obtain ⟨_, _, ⟨T90, L90, k90, n90⟩, -, X90, ⟨Lc90, hQ90, l90, y90, z90⟩, st90⟩ := Jvm.LawKit.callS X89 hx (y := (⟨"com/example/chalkline/chalkline/runtime/MachineCode", "target", "([II)I"⟩ : MethodName)) hown (mvT hZ (hw _ (List.mem_of_getElem? (i := 5) rfl))) (mvT hZ (hw _ (List.mem_of_getElem? (i := 6) rfl))) (mvT hZ (hw _ (List.mem_of_getElem? (i := 7) rfl))) (mvT hZ (hw _ (List.mem_of_getElem? (i := 8) rfl))) (by decide) (backOf (W := 0) (rmT4 l Z a0 hw [] b57 k57 p6 p6 p6 p6 op p3 p4 p5 p4 h73 n0 o88 V73a (by rw [if_neg hc81, if_pos hc87])) hZ (hw _ (List.mem_of_getElem? (i := 8) rfl)) (hw _ (List.mem_of_getElem? (i := 7) rfl)) (by decide) (by decide)) (g := (mkF m 155 #[.val (.int p1), .val (.int p2), .val (.int p3), .val (.int p4), .val (.int p5), .val (.int p6), .val (.int op), .val (.int (4 : Int32)), .val (.int (0 : Int32)), .val (.ref b57), .val (.int (2 : Int32)), .val (.int p4)] [(.int (4 : Int32)), (.ref b57)])) rfl (by rw [hml]; rfl) (argsL := [(.ref b57), (.int (4 : Int32))]) (rest := []) (lenOf own_pd1 rfl) rfl (by show 2 * 0 + _ ≤ _; exact Nat.le_of_eq rfl) (hb hby at_155) (fun _ _ => ⟨rfl, e89, (by decide : 1 + 0 ≤ _), (by decide : 8 + 0 ≤ _)⟩)
              dsimp only [Pt.U, Pt.locs, Pt.cells, Pt.slots] at X90 l90 y90 z90 st90 hQ90
              subst l90 y90 z90
              obtain ⟨rfl, Nq90, e90⟩ := hQ90
              have N90 := Fr.app N89 Nq90
              have hc91 : p4 = p4 := rfl
              have g92 : ∀ t, Steps p.tables e below (T90.setTop (mkF m 168 #[.val (.int p1), .val (.int p2), .val (.int p3), .val (.int p4), .val (.int p5), .val (.int p6), .val (.int op), .val (.int (4 : Int32)), .val (.int (0 : Int32)), .val (.ref b57), .val (.int (2 : Int32)), .val (.int p4)] [(.int (1 : Int32))])) t → Steps p.tables e below (s₁.setTop (entryFrame m #[(.int p1), (.int p2), (.int p3), (.int p4), (.int p5), (.int p6)] maxLocals)) t := by
                intro t k
                refine g75 t ?_
                show Steps p.tables e below (T73.setTop (mkF m 110 #[.val (.int p1), .val (.int p2), .val (.int p3), .val (.int p4), .val (.int p5), .val (.int p6), .val (.int op), .val (.int (4 : Int32)), .val (.int (0 : Int32)), .val (.ref b57), .unset, .unset] [])) _
                refine XS.iload X73.here hx rfl (hb hby at_110) rfl ?_
                show Steps p.tables e below (T73.setTop (mkF m 112 #[.val (.int p1), .val (.int p2), .val (.int p3), .val (.int p4), .val (.int p5), .val (.int p6), .val (.int op), .val (.int (4 : Int32)), .val (.int (0 : Int32)), .val (.ref b57), .unset, .unset] [(.int op)])) _
                refine st89 _ ?_
                show Steps p.tables e below (T89.setTop (mkF m 115 #[.val (.int p1), .val (.int p2), .val (.int p3), .val (.int p4), .val (.int p5), .val (.int p6), .val (.int op), .val (.int (4 : Int32)), .val (.int (0 : Int32)), .val (.ref b57), .unset, .unset] [(.int (2 : Int32))])) _
                refine XS.istore X89.here hx rfl (hb hby at_115) rfl (l' := #[.val (.int p1), .val (.int p2), .val (.int p3), .val (.int p4), .val (.int p5), .val (.int p6), .val (.int op), .val (.int (4 : Int32)), .val (.int (0 : Int32)), .val (.ref b57), .val (.int (2 : Int32)), .unset]) rfl ?_
                show Steps p.tables e below (T89.setTop (mkF m 117 #[.val (.int p1), .val (.int p2), .val (.int p3), .val (.int p4), .val (.int p5), .val (.int p6), .val (.int op), .val (.int (4 : Int32)), .val (.int (0 : Int32)), .val (.ref b57), .val (.int (2 : Int32)), .unset] [])) _
                refine XS.iload X89.here hx rfl (hb hby at_117) rfl ?_
                show Steps p.tables e below (T89.setTop (mkF m 119 #[.val (.int p1), .val (.int p2), .val (.int p3), .val (.int p4), .val (.int p5), .val (.int p6), .val (.int op), .val (.int (4 : Int32)), .val (.int (0 : Int32)), .val (.ref b57), .val (.int (2 : Int32)), .unset] [(.int (2 : Int32))])) _
                refine XS.iconst X89.here hx rfl (hb hby at_119) ?_
                show Steps p.tables e below (T89.setTop (mkF m 120 #[.val (.int p1), .val (.int p2), .val (.int p3), .val (.int p4), .val (.int p5), .val (.int p6), .val (.int op), .val (.int (4 : Int32)), .val (.int (0 : Int32)), .val (.ref b57), .val (.int (2 : Int32)), .unset] [(.int (1 : Int32)), (.int (2 : Int32))])) _
                refine XS.icmpYes X89.here hx rfl (pc0 := 120) (pc' := 127) rfl (hb hby at_120) rfl (feq (by decide : ¬ ((2 : Int32) = (1 : Int32)))).2 (by decide) (by decide) ?_
                show Steps p.tables e below (T89.setTop (mkF m 127 #[.val (.int p1), .val (.int p2), .val (.int p3), .val (.int p4), .val (.int p5), .val (.int p6), .val (.int op), .val (.int (4 : Int32)), .val (.int (0 : Int32)), .val (.ref b57), .val (.int (2 : Int32)), .unset] [])) _
                refine XS.iload X89.here hx rfl (hb hby at_127) rfl ?_
                show Steps p.tables e below (T89.setTop (mkF m 129 #[.val (.int p1), .val (.int p2), .val (.int p3), .val (.int p4), .val (.int p5), .val (.int p6), .val (.int op), .val (.int (4 : Int32)), .val (.int (0 : Int32)), .val (.ref b57), .val (.int (2 : Int32)), .unset] [(.int (2 : Int32))])) _
                refine XS.iconst X89.here hx rfl (hb hby at_129) ?_
                show Steps p.tables e below (T89.setTop (mkF m 130 #[.val (.int p1), .val (.int p2), .val (.int p3), .val (.int p4), .val (.int p5), .val (.int p6), .val (.int op), .val (.int (4 : Int32)), .val (.int (0 : Int32)), .val (.ref b57), .val (.int (2 : Int32)), .unset] [(.int (2 : Int32)), (.int (2 : Int32))])) _
                refine XS.icmpNo X89.here hx rfl (hb hby at_130) rfl (teq (by decide : (2 : Int32) = (2 : Int32))).2 ?_
                show Steps p.tables e below (T89.setTop (mkF m 133 #[.val (.int p1), .val (.int p2), .val (.int p3), .val (.int p4), .val (.int p5), .val (.int p6), .val (.int op), .val (.int (4 : Int32)), .val (.int (0 : Int32)), .val (.ref b57), .val (.int (2 : Int32)), .unset] [])) _
                refine XS.iloadN X89.here hx rfl (hb hby at_133) rfl ?_
                show Steps p.tables e below (T89.setTop (mkF m 134 #[.val (.int p1), .val (.int p2), .val (.int p3), .val (.int p4), .val (.int p5), .val (.int p6), .val (.int op), .val (.int (4 : Int32)), .val (.int (0 : Int32)), .val (.ref b57), .val (.int (2 : Int32)), .unset] [(.int p4)])) _
                refine XS.goto X89.here hx rfl (pc0 := 134) (pc' := 149) rfl (hb hby at_134) (by decide) (by decide) ?_
                show Steps p.tables e below (T89.setTop (mkF m 149 #[.val (.int p1), .val (.int p2), .val (.int p3), .val (.int p4), .val (.int p5), .val (.int p6), .val (.int op), .val (.int (4 : Int32)), .val (.int (0 : Int32)), .val (.ref b57), .val (.int (2 : Int32)), .unset] [(.int p4)])) _
                refine XS.istore X89.here hx rfl (hb hby at_149) rfl (l' := #[.val (.int p1), .val (.int p2), .val (.int p3), .val (.int p4), .val (.int p5), .val (.int p6), .val (.int op), .val (.int (4 : Int32)), .val (.int (0 : Int32)), .val (.ref b57), .val (.int (2 : Int32)), .val (.int p4)]) rfl ?_
                show Steps p.tables e below (T89.setTop (mkF m 151 #[.val (.int p1), .val (.int p2), .val (.int p3), .val (.int p4), .val (.int p5), .val (.int p6), .val (.int op), .val (.int (4 : Int32)), .val (.int (0 : Int32)), .val (.ref b57), .val (.int (2 : Int32)), .val (.int p4)] [])) _
                refine XS.aload X89.here hx rfl (hb hby at_151) rfl rfl ?_
                show Steps p.tables e below (T89.setTop (mkF m 153 #[.val (.int p1), .val (.int p2), .val (.int p3), .val (.int p4), .val (.int p5), .val (.int p6), .val (.int op), .val (.int (4 : Int32)), .val (.int (0 : Int32)), .val (.ref b57), .val (.int (2 : Int32)), .val (.int p4)] [(.ref b57)])) _
                refine XS.iload X89.here hx rfl (hb hby at_153) rfl ?_
                show Steps p.tables e below (T89.setTop (mkF m 155 #[.val (.int p1), .val (.int p2), .val (.int p3), .val (.int p4), .val (.int p5), .val (.int p6), .val (.int op), .val (.int (4 : Int32)), .val (.int (0 : Int32)), .val (.ref b57), .val (.int (2 : Int32)), .val (.int p4)] [(.int (4 : Int32)), (.ref b57)])) _
                refine st90 _ ?_
                show Steps p.tables e below (T90.setTop (mkF m 158 #[.val (.int p1), .val (.int p2), .val (.int p3), .val (.int p4), .val (.int p5), .val (.int p6), .val (.int op), .val (.int (4 : Int32)), .val (.int (0 : Int32)), .val (.ref b57), .val (.int (2 : Int32)), .val (.int p4)] [(.int p4)])) _
                refine XS.iload X90.here hx rfl (hb hby at_158) rfl ?_
                show Steps p.tables e below (T90.setTop (mkF m 160 #[.val (.int p1), .val (.int p2), .val (.int p3), .val (.int p4), .val (.int p5), .val (.int p6), .val (.int op), .val (.int (4 : Int32)), .val (.int (0 : Int32)), .val (.ref b57), .val (.int (2 : Int32)), .val (.int p4)] [(.int p4), (.int p4)])) _
                refine XS.icmpNo X90.here hx rfl (hb hby at_160) rfl (teq hc91).2 ?_
                show Steps p.tables e below (T90.setTop (mkF m 163 #[.val (.int p1), .val (.int p2), .val (.int p3), .val (.int p4), .val (.int p5), .val (.int p6), .val (.int op), .val (.int (4 : Int32)), .val (.int (0 : Int32)), .val (.ref b57), .val (.int (2 : Int32)), .val (.int p4)] [])) _
                refine XS.iconst X90.here hx rfl (hb hby at_163) ?_
                show Steps p.tables e below (T90.setTop (mkF m 164 #[.val (.int p1), .val (.int p2), .val (.int p3), .val (.int p4), .val (.int p5), .val (.int p6), .val (.int op), .val (.int (4 : Int32)), .val (.int (0 : Int32)), .val (.ref b57), .val (.int (2 : Int32)), .val (.int p4)] [(.int (1 : Int32))])) _
                refine XS.goto X90.here hx rfl (pc0 := 164) (pc' := 168) rfl (hb hby at_164) (by decide) (by decide) ?_
                exact k
              obtain ⟨fs, hrt, hrun, hended, hW, hsame⟩ := X90.leave (v := some (.int (1 : Int32))) (fun h => by rw [Bd.returns] at h; cases h)
              refine ⟨_, _, g92 _ ?_, hrun, hended, _, _, rfl, ?_, ⟨_, rfl⟩, hW, hsame.mono (by decide) (by decide)⟩
              · show Steps p.tables e below (T90.setTop (mkF m 168 #[.val (.int p1), .val (.int p2), .val (.int p3), .val (.int p4), .val (.int p5), .val (.int p6), .val (.int op), .val (.int (4 : Int32)), .val (.int (0 : Int32)), .val (.ref b57), .val (.int (2 : Int32)), .val (.int p4)] [(.int (1 : Int32))])) _
                exact retN X90 hx (t := .boolean) Bd.returns (by simp) (hb hby at_168) hrt
              · show own_Q_rm0 Z p1 p2 p3 p4 p5 p6 h0 n0 _ T90.heap _
                rw [e90]
                exact ⟨rfl, N90⟩
            · by_cases hc93 : op = (29 : Int32)
              · have o94 : Old Z n0 h73 := (Old.wr (Old.wr (Old.wr (Old.wr (Old.wr (Old.wr (Old.wr (Old.wr (Old.ext O0 E57) W59 gz_b57) W61 gz_b57) W63 gz_b57) W65 gz_b57) W67 gz_b57) W69 gz_b57) W71 gz_b57) W73 gz_b57)
                obtain ⟨_, _, ⟨T95, L95, k95, n95⟩, -, X95, ⟨Lc95, hQ95, l95, y95, z95⟩, st95⟩ := Jvm.LawKit.callS X73 hx (y := (⟨"com/example/chalkline/chalkline/runtime/MachineCodeTargetPinLaw", "targetOperand", "(I)I"⟩ : MethodName)) hown (mvT hZ (hw _ (List.mem_of_getElem? (i := 1) rfl))) (mvT hZ (hw _ (List.mem_of_getElem? (i := 2) rfl))) (mvT hZ (hw _ (List.mem_of_getElem? (i := 3) rfl))) (mvT hZ (hw _ (List.mem_of_getElem? (i := 4) rfl))) (by decide) (backOf (W := 0) (rmOp l Z a0 hw [] op (2 : Int32) h73 n0 o94 (by rw [if_neg hc74, if_pos hc80, if_neg hc81, if_neg hc87, if_pos hc93])) hZ (hw _ (List.mem_of_getElem? (i := 4) rfl)) (hw _ (List.mem_of_getElem? (i := 3) rfl)) (by decide) (by decide)) (g := (mkF m 112 #[.val (.int p1), .val (.int p2), .val (.int p3), .val (.int p4), .val (.int p5), .val (.int p6), .val (.int op), .val (.int (4 : Int32)), .val (.int (0 : Int32)), .val (.ref b57), .unset, .unset] [(.int op)])) rfl (by rw [hml]; rfl) (argsL := [(.int op)]) (rest := []) (lenOf own_pd0 rfl) rfl (by show 2 * 0 + _ ≤ _; exact Nat.le_of_eq rfl) (hb hby at_112) (fun _ _ => ⟨rfl, e73, (by decide : 1 + 0 ≤ _), (by decide : 8 + 0 ≤ _)⟩)
                dsimp only [Pt.U, Pt.locs, Pt.cells, Pt.slots] at X95 l95 y95 z95 st95 hQ95
                subst l95 y95 z95
                obtain ⟨rfl, Nq95, e95⟩ := hQ95
                have N95 := Fr.app N73 Nq95
                obtain ⟨_, _, ⟨T96, L96, k96, n96⟩, -, X96, ⟨Lc96, hQ96, l96, y96, z96⟩, st96⟩ := Jvm.LawKit.callS X95 hx (y := (⟨"com/example/chalkline/chalkline/runtime/MachineCode", "target", "([II)I"⟩ : MethodName)) hown (mvT hZ (hw _ (List.mem_of_getElem? (i := 5) rfl))) (mvT hZ (hw _ (List.mem_of_getElem? (i := 6) rfl))) (mvT hZ (hw _ (List.mem_of_getElem? (i := 7) rfl))) (mvT hZ (hw _ (List.mem_of_getElem? (i := 8) rfl))) (by decide) (backOf (W := 0) (rmT4 l Z a0 hw [] b57 k57 p6 p6 p6 p6 op p3 p4 p5 p4 h73 n0 o94 V73a (by rw [if_neg hc81, if_neg hc87, if_pos hc93])) hZ (hw _ (List.mem_of_getElem? (i := 8) rfl)) (hw _ (List.mem_of_getElem? (i := 7) rfl)) (by decide) (by decide)) (g := (mkF m 155 #[.val (.int p1), .val (.int p2), .val (.int p3), .val (.int p4), .val (.int p5), .val (.int p6), .val (.int op), .val (.int (4 : Int32)), .val (.int (0 : Int32)), .val (.ref b57), .val (.int (2 : Int32)), .val (.int p4)] [(.int (4 : Int32)), (.ref b57)])) rfl (by rw [hml]; rfl) (argsL := [(.ref b57), (.int (4 : Int32))]) (rest := []) (lenOf own_pd1 rfl) rfl (by show 2 * 0 + _ ≤ _; exact Nat.le_of_eq rfl) (hb hby at_155) (fun _ _ => ⟨rfl, e95, (by decide : 1 + 0 ≤ _), (by decide : 8 + 0 ≤ _)⟩)
                dsimp only [Pt.U, Pt.locs, Pt.cells, Pt.slots] at X96 l96 y96 z96 st96 hQ96
                subst l96 y96 z96
                obtain ⟨rfl, Nq96, e96⟩ := hQ96
                have N96 := Fr.app N95 Nq96
                have hc97 : p4 = p4 := rfl
                have g98 : ∀ t, Steps p.tables e below (T96.setTop (mkF m 168 #[.val (.int p1), .val (.int p2), .val (.int p3), .val (.int p4), .val (.int p5), .val (.int p6), .val (.int op), .val (.int (4 : Int32)), .val (.int (0 : Int32)), .val (.ref b57), .val (.int (2 : Int32)), .val (.int p4)] [(.int (1 : Int32))])) t → Steps p.tables e below (s₁.setTop (entryFrame m #[(.int p1), (.int p2), (.int p3), (.int p4), (.int p5), (.int p6)] maxLocals)) t := by
                  intro t k
                  refine g75 t ?_
                  show Steps p.tables e below (T73.setTop (mkF m 110 #[.val (.int p1), .val (.int p2), .val (.int p3), .val (.int p4), .val (.int p5), .val (.int p6), .val (.int op), .val (.int (4 : Int32)), .val (.int (0 : Int32)), .val (.ref b57), .unset, .unset] [])) _
                  refine XS.iload X73.here hx rfl (hb hby at_110) rfl ?_
                  show Steps p.tables e below (T73.setTop (mkF m 112 #[.val (.int p1), .val (.int p2), .val (.int p3), .val (.int p4), .val (.int p5), .val (.int p6), .val (.int op), .val (.int (4 : Int32)), .val (.int (0 : Int32)), .val (.ref b57), .unset, .unset] [(.int op)])) _
                  refine st95 _ ?_
                  show Steps p.tables e below (T95.setTop (mkF m 115 #[.val (.int p1), .val (.int p2), .val (.int p3), .val (.int p4), .val (.int p5), .val (.int p6), .val (.int op), .val (.int (4 : Int32)), .val (.int (0 : Int32)), .val (.ref b57), .unset, .unset] [(.int (2 : Int32))])) _
                  refine XS.istore X95.here hx rfl (hb hby at_115) rfl (l' := #[.val (.int p1), .val (.int p2), .val (.int p3), .val (.int p4), .val (.int p5), .val (.int p6), .val (.int op), .val (.int (4 : Int32)), .val (.int (0 : Int32)), .val (.ref b57), .val (.int (2 : Int32)), .unset]) rfl ?_
                  show Steps p.tables e below (T95.setTop (mkF m 117 #[.val (.int p1), .val (.int p2), .val (.int p3), .val (.int p4), .val (.int p5), .val (.int p6), .val (.int op), .val (.int (4 : Int32)), .val (.int (0 : Int32)), .val (.ref b57), .val (.int (2 : Int32)), .unset] [])) _
                  refine XS.iload X95.here hx rfl (hb hby at_117) rfl ?_
                  show Steps p.tables e below (T95.setTop (mkF m 119 #[.val (.int p1), .val (.int p2), .val (.int p3), .val (.int p4), .val (.int p5), .val (.int p6), .val (.int op), .val (.int (4 : Int32)), .val (.int (0 : Int32)), .val (.ref b57), .val (.int (2 : Int32)), .unset] [(.int (2 : Int32))])) _
                  refine XS.iconst X95.here hx rfl (hb hby at_119) ?_
                  show Steps p.tables e below (T95.setTop (mkF m 120 #[.val (.int p1), .val (.int p2), .val (.int p3), .val (.int p4), .val (.int p5), .val (.int p6), .val (.int op), .val (.int (4 : Int32)), .val (.int (0 : Int32)), .val (.ref b57), .val (.int (2 : Int32)), .unset] [(.int (1 : Int32)), (.int (2 : Int32))])) _
                  refine XS.icmpYes X95.here hx rfl (pc0 := 120) (pc' := 127) rfl (hb hby at_120) rfl (feq (by decide : ¬ ((2 : Int32) = (1 : Int32)))).2 (by decide) (by decide) ?_
                  show Steps p.tables e below (T95.setTop (mkF m 127 #[.val (.int p1), .val (.int p2), .val (.int p3), .val (.int p4), .val (.int p5), .val (.int p6), .val (.int op), .val (.int (4 : Int32)), .val (.int (0 : Int32)), .val (.ref b57), .val (.int (2 : Int32)), .unset] [])) _
                  refine XS.iload X95.here hx rfl (hb hby at_127) rfl ?_
                  show Steps p.tables e below (T95.setTop (mkF m 129 #[.val (.int p1), .val (.int p2), .val (.int p3), .val (.int p4), .val (.int p5), .val (.int p6), .val (.int op), .val (.int (4 : Int32)), .val (.int (0 : Int32)), .val (.ref b57), .val (.int (2 : Int32)), .unset] [(.int (2 : Int32))])) _
                  refine XS.iconst X95.here hx rfl (hb hby at_129) ?_
                  show Steps p.tables e below (T95.setTop (mkF m 130 #[.val (.int p1), .val (.int p2), .val (.int p3), .val (.int p4), .val (.int p5), .val (.int p6), .val (.int op), .val (.int (4 : Int32)), .val (.int (0 : Int32)), .val (.ref b57), .val (.int (2 : Int32)), .unset] [(.int (2 : Int32)), (.int (2 : Int32))])) _
                  refine XS.icmpNo X95.here hx rfl (hb hby at_130) rfl (teq (by decide : (2 : Int32) = (2 : Int32))).2 ?_
                  show Steps p.tables e below (T95.setTop (mkF m 133 #[.val (.int p1), .val (.int p2), .val (.int p3), .val (.int p4), .val (.int p5), .val (.int p6), .val (.int op), .val (.int (4 : Int32)), .val (.int (0 : Int32)), .val (.ref b57), .val (.int (2 : Int32)), .unset] [])) _
                  refine XS.iloadN X95.here hx rfl (hb hby at_133) rfl ?_
                  show Steps p.tables e below (T95.setTop (mkF m 134 #[.val (.int p1), .val (.int p2), .val (.int p3), .val (.int p4), .val (.int p5), .val (.int p6), .val (.int op), .val (.int (4 : Int32)), .val (.int (0 : Int32)), .val (.ref b57), .val (.int (2 : Int32)), .unset] [(.int p4)])) _
                  refine XS.goto X95.here hx rfl (pc0 := 134) (pc' := 149) rfl (hb hby at_134) (by decide) (by decide) ?_
                  show Steps p.tables e below (T95.setTop (mkF m 149 #[.val (.int p1), .val (.int p2), .val (.int p3), .val (.int p4), .val (.int p5), .val (.int p6), .val (.int op), .val (.int (4 : Int32)), .val (.int (0 : Int32)), .val (.ref b57), .val (.int (2 : Int32)), .unset] [(.int p4)])) _
                  refine XS.istore X95.here hx rfl (hb hby at_149) rfl (l' := #[.val (.int p1), .val (.int p2), .val (.int p3), .val (.int p4), .val (.int p5), .val (.int p6), .val (.int op), .val (.int (4 : Int32)), .val (.int (0 : Int32)), .val (.ref b57), .val (.int (2 : Int32)), .val (.int p4)]) rfl ?_
                  show Steps p.tables e below (T95.setTop (mkF m 151 #[.val (.int p1), .val (.int p2), .val (.int p3), .val (.int p4), .val (.int p5), .val (.int p6), .val (.int op), .val (.int (4 : Int32)), .val (.int (0 : Int32)), .val (.ref b57), .val (.int (2 : Int32)), .val (.int p4)] [])) _
                  refine XS.aload X95.here hx rfl (hb hby at_151) rfl rfl ?_
                  show Steps p.tables e below (T95.setTop (mkF m 153 #[.val (.int p1), .val (.int p2), .val (.int p3), .val (.int p4), .val (.int p5), .val (.int p6), .val (.int op), .val (.int (4 : Int32)), .val (.int (0 : Int32)), .val (.ref b57), .val (.int (2 : Int32)), .val (.int p4)] [(.ref b57)])) _
                  refine XS.iload X95.here hx rfl (hb hby at_153) rfl ?_
                  show Steps p.tables e below (T95.setTop (mkF m 155 #[.val (.int p1), .val (.int p2), .val (.int p3), .val (.int p4), .val (.int p5), .val (.int p6), .val (.int op), .val (.int (4 : Int32)), .val (.int (0 : Int32)), .val (.ref b57), .val (.int (2 : Int32)), .val (.int p4)] [(.int (4 : Int32)), (.ref b57)])) _
                  refine st96 _ ?_
                  show Steps p.tables e below (T96.setTop (mkF m 158 #[.val (.int p1), .val (.int p2), .val (.int p3), .val (.int p4), .val (.int p5), .val (.int p6), .val (.int op), .val (.int (4 : Int32)), .val (.int (0 : Int32)), .val (.ref b57), .val (.int (2 : Int32)), .val (.int p4)] [(.int p4)])) _
                  refine XS.iload X96.here hx rfl (hb hby at_158) rfl ?_
                  show Steps p.tables e below (T96.setTop (mkF m 160 #[.val (.int p1), .val (.int p2), .val (.int p3), .val (.int p4), .val (.int p5), .val (.int p6), .val (.int op), .val (.int (4 : Int32)), .val (.int (0 : Int32)), .val (.ref b57), .val (.int (2 : Int32)), .val (.int p4)] [(.int p4), (.int p4)])) _
                  refine XS.icmpNo X96.here hx rfl (hb hby at_160) rfl (teq hc97).2 ?_
                  show Steps p.tables e below (T96.setTop (mkF m 163 #[.val (.int p1), .val (.int p2), .val (.int p3), .val (.int p4), .val (.int p5), .val (.int p6), .val (.int op), .val (.int (4 : Int32)), .val (.int (0 : Int32)), .val (.ref b57), .val (.int (2 : Int32)), .val (.int p4)] [])) _
                  refine XS.iconst X96.here hx rfl (hb hby at_163) ?_
                  show Steps p.tables e below (T96.setTop (mkF m 164 #[.val (.int p1), .val (.int p2), .val (.int p3), .val (.int p4), .val (.int p5), .val (.int p6), .val (.int op), .val (.int (4 : Int32)), .val (.int (0 : Int32)), .val (.ref b57), .val (.int (2 : Int32)), .val (.int p4)] [(.int (1 : Int32))])) _
                  refine XS.goto X96.here hx rfl (pc0 := 164) (pc' := 168) rfl (hb hby at_164) (by decide) (by decide) ?_
                  exact k
                obtain ⟨fs, hrt, hrun, hended, hW, hsame⟩ := X96.leave (v := some (.int (1 : Int32))) (fun h => by rw [Bd.returns] at h; cases h)
                refine ⟨_, _, g98 _ ?_, hrun, hended, _, _, rfl, ?_, ⟨_, rfl⟩, hW, hsame.mono (by decide) (by decide)⟩
                · show Steps p.tables e below (T96.setTop (mkF m 168 #[.val (.int p1), .val (.int p2), .val (.int p3), .val (.int p4), .val (.int p5), .val (.int p6), .val (.int op), .val (.int (4 : Int32)), .val (.int (0 : Int32)), .val (.ref b57), .val (.int (2 : Int32)), .val (.int p4)] [(.int (1 : Int32))])) _
                  exact retN X96 hx (t := .boolean) Bd.returns (by simp) (hb hby at_168) hrt
                · show own_Q_rm0 Z p1 p2 p3 p4 p5 p6 h0 n0 _ T96.heap _
                  rw [e96]
                  exact ⟨rfl, N96⟩
              · have o99 : Old Z n0 h73 := (Old.wr (Old.wr (Old.wr (Old.wr (Old.wr (Old.wr (Old.wr (Old.wr (Old.ext O0 E57) W59 gz_b57) W61 gz_b57) W63 gz_b57) W65 gz_b57) W67 gz_b57) W69 gz_b57) W71 gz_b57) W73 gz_b57)
                obtain ⟨_, _, ⟨T100, L100, k100, n100⟩, -, X100, ⟨Lc100, hQ100, l100, y100, z100⟩, st100⟩ := Jvm.LawKit.callS X73 hx (y := (⟨"com/example/chalkline/chalkline/runtime/MachineCodeTargetPinLaw", "targetOperand", "(I)I"⟩ : MethodName)) hown (mvT hZ (hw _ (List.mem_of_getElem? (i := 1) rfl))) (mvT hZ (hw _ (List.mem_of_getElem? (i := 2) rfl))) (mvT hZ (hw _ (List.mem_of_getElem? (i := 3) rfl))) (mvT hZ (hw _ (List.mem_of_getElem? (i := 4) rfl))) (by decide) (backOf (W := 0) (rmOp l Z a0 hw [] op (0 : Int32) h73 n0 o99 (by rw [if_neg hc74, if_pos hc80, if_neg hc81, if_neg hc87, if_neg hc93])) hZ (hw _ (List.mem_of_getElem? (i := 4) rfl)) (hw _ (List.mem_of_getElem? (i := 3) rfl)) (by decide) (by decide)) (g := (mkF m 112 #[.val (.int p1), .val (.int p2), .val (.int p3), .val (.int p4), .val (.int p5), .val (.int p6), .val (.int op), .val (.int (4 : Int32)), .val (.int (0 : Int32)), .val (.ref b57), .unset, .unset] [(.int op)])) rfl (by rw [hml]; rfl) (argsL := [(.int op)]) (rest := []) (lenOf own_pd0 rfl) rfl (by show 2 * 0 + _ ≤ _; exact Nat.le_of_eq rfl) (hb hby at_112) (fun _ _ => ⟨rfl, e73, (by decide : 1 + 0 ≤ _), (by decide : 8 + 0 ≤ _)⟩)
                dsimp only [Pt.U, Pt.locs, Pt.cells, Pt.slots] at X100 l100 y100 z100 st100 hQ100
                subst l100 y100 z100
                obtain ⟨rfl, Nq100, e100⟩ := hQ100
                have N100 := Fr.app N73 Nq100
                obtain ⟨_, _, ⟨T101, L101, k101, n101⟩, -, X101, ⟨Lc101, hQ101, l101, y101, z101⟩, st101⟩ := Jvm.LawKit.callS X100 hx (y := (⟨"com/example/chalkline/chalkline/runtime/MachineCode", "target", "([II)I"⟩ : MethodName)) hown (mvT hZ (hw _ (List.mem_of_getElem? (i := 5) rfl))) (mvT hZ (hw _ (List.mem_of_getElem? (i := 6) rfl))) (mvT hZ (hw _ (List.mem_of_getElem? (i := 7) rfl))) (mvT hZ (hw _ (List.mem_of_getElem? (i := 8) rfl))) (by decide) (backOf (W := 0) (rmT4 l Z a0 hw [] b57 k57 p6 p6 p6 p6 op p3 p4 p5 (-1 : Int32) h73 n0 o99 V73a (by rw [if_neg hc81, if_neg hc87, if_neg hc93, if_neg hc74, if_pos hc80])) hZ (hw _ (List.mem_of_getElem? (i := 8) rfl)) (hw _ (List.mem_of_getElem? (i := 7) rfl)) (by decide) (by decide)) (g := (mkF m 155 #[.val (.int p1), .val (.int p2), .val (.int p3), .val (.int p4), .val (.int p5), .val (.int p6), .val (.int op), .val (.int (4 : Int32)), .val (.int (0 : Int32)), .val (.ref b57), .val (.int (0 : Int32)), .val (.int (-1 : Int32))] [(.int (4 : Int32)), (.ref b57)])) rfl (by rw [hml]; rfl) (argsL := [(.ref b57), (.int (4 : Int32))]) (rest := []) (lenOf own_pd1 rfl) rfl (by show 2 * 0 + _ ≤ _; exact Nat.le_of_eq rfl) (hb hby at_155) (fun _ _ => ⟨rfl, e100, (by decide : 1 + 0 ≤ _), (by decide : 8 + 0 ≤ _)⟩)
                dsimp only [Pt.U, Pt.locs, Pt.cells, Pt.slots] at X101 l101 y101 z101 st101 hQ101
                subst l101 y101 z101
                obtain ⟨rfl, Nq101, e101⟩ := hQ101
                have N101 := Fr.app N100 Nq101
                have g102 : ∀ t, Steps p.tables e below (T101.setTop (mkF m 168 #[.val (.int p1), .val (.int p2), .val (.int p3), .val (.int p4), .val (.int p5), .val (.int p6), .val (.int op), .val (.int (4 : Int32)), .val (.int (0 : Int32)), .val (.ref b57), .val (.int (0 : Int32)), .val (.int (-1 : Int32))] [(.int (1 : Int32))])) t → Steps p.tables e below (s₁.setTop (entryFrame m #[(.int p1), (.int p2), (.int p3), (.int p4), (.int p5), (.int p6)] maxLocals)) t := by
                  intro t k
                  refine g75 t ?_
                  show Steps p.tables e below (T73.setTop (mkF m 110 #[.val (.int p1), .val (.int p2), .val (.int p3), .val (.int p4), .val (.int p5), .val (.int p6), .val (.int op), .val (.int (4 : Int32)), .val (.int (0 : Int32)), .val (.ref b57), .unset, .unset] [])) _
                  refine XS.iload X73.here hx rfl (hb hby at_110) rfl ?_
                  show Steps p.tables e below (T73.setTop (mkF m 112 #[.val (.int p1), .val (.int p2), .val (.int p3), .val (.int p4), .val (.int p5), .val (.int p6), .val (.int op), .val (.int (4 : Int32)), .val (.int (0 : Int32)), .val (.ref b57), .unset, .unset] [(.int op)])) _
                  refine st100 _ ?_
                  show Steps p.tables e below (T100.setTop (mkF m 115 #[.val (.int p1), .val (.int p2), .val (.int p3), .val (.int p4), .val (.int p5), .val (.int p6), .val (.int op), .val (.int (4 : Int32)), .val (.int (0 : Int32)), .val (.ref b57), .unset, .unset] [(.int (0 : Int32))])) _
                  refine XS.istore X100.here hx rfl (hb hby at_115) rfl (l' := #[.val (.int p1), .val (.int p2), .val (.int p3), .val (.int p4), .val (.int p5), .val (.int p6), .val (.int op), .val (.int (4 : Int32)), .val (.int (0 : Int32)), .val (.ref b57), .val (.int (0 : Int32)), .unset]) rfl ?_
                  show Steps p.tables e below (T100.setTop (mkF m 117 #[.val (.int p1), .val (.int p2), .val (.int p3), .val (.int p4), .val (.int p5), .val (.int p6), .val (.int op), .val (.int (4 : Int32)), .val (.int (0 : Int32)), .val (.ref b57), .val (.int (0 : Int32)), .unset] [])) _
                  refine XS.iload X100.here hx rfl (hb hby at_117) rfl ?_
                  show Steps p.tables e below (T100.setTop (mkF m 119 #[.val (.int p1), .val (.int p2), .val (.int p3), .val (.int p4), .val (.int p5), .val (.int p6), .val (.int op), .val (.int (4 : Int32)), .val (.int (0 : Int32)), .val (.ref b57), .val (.int (0 : Int32)), .unset] [(.int (0 : Int32))])) _
                  refine XS.iconst X100.here hx rfl (hb hby at_119) ?_
                  show Steps p.tables e below (T100.setTop (mkF m 120 #[.val (.int p1), .val (.int p2), .val (.int p3), .val (.int p4), .val (.int p5), .val (.int p6), .val (.int op), .val (.int (4 : Int32)), .val (.int (0 : Int32)), .val (.ref b57), .val (.int (0 : Int32)), .unset] [(.int (1 : Int32)), (.int (0 : Int32))])) _
                  refine XS.icmpYes X100.here hx rfl (pc0 := 120) (pc' := 127) rfl (hb hby at_120) rfl (feq (by decide : ¬ ((0 : Int32) = (1 : Int32)))).2 (by decide) (by decide) ?_
                  show Steps p.tables e below (T100.setTop (mkF m 127 #[.val (.int p1), .val (.int p2), .val (.int p3), .val (.int p4), .val (.int p5), .val (.int p6), .val (.int op), .val (.int (4 : Int32)), .val (.int (0 : Int32)), .val (.ref b57), .val (.int (0 : Int32)), .unset] [])) _
                  refine XS.iload X100.here hx rfl (hb hby at_127) rfl ?_
                  show Steps p.tables e below (T100.setTop (mkF m 129 #[.val (.int p1), .val (.int p2), .val (.int p3), .val (.int p4), .val (.int p5), .val (.int p6), .val (.int op), .val (.int (4 : Int32)), .val (.int (0 : Int32)), .val (.ref b57), .val (.int (0 : Int32)), .unset] [(.int (0 : Int32))])) _
                  refine XS.iconst X100.here hx rfl (hb hby at_129) ?_
                  show Steps p.tables e below (T100.setTop (mkF m 130 #[.val (.int p1), .val (.int p2), .val (.int p3), .val (.int p4), .val (.int p5), .val (.int p6), .val (.int op), .val (.int (4 : Int32)), .val (.int (0 : Int32)), .val (.ref b57), .val (.int (0 : Int32)), .unset] [(.int (2 : Int32)), (.int (0 : Int32))])) _
                  refine XS.icmpYes X100.here hx rfl (pc0 := 130) (pc' := 137) rfl (hb hby at_130) rfl (feq (by decide : ¬ ((0 : Int32) = (2 : Int32)))).2 (by decide) (by decide) ?_
                  show Steps p.tables e below (T100.setTop (mkF m 137 #[.val (.int p1), .val (.int p2), .val (.int p3), .val (.int p4), .val (.int p5), .val (.int p6), .val (.int op), .val (.int (4 : Int32)), .val (.int (0 : Int32)), .val (.ref b57), .val (.int (0 : Int32)), .unset] [])) _
                  refine XS.iload X100.here hx rfl (hb hby at_137) rfl ?_
                  show Steps p.tables e below (T100.setTop (mkF m 139 #[.val (.int p1), .val (.int p2), .val (.int p3), .val (.int p4), .val (.int p5), .val (.int p6), .val (.int op), .val (.int (4 : Int32)), .val (.int (0 : Int32)), .val (.ref b57), .val (.int (0 : Int32)), .unset] [(.int (0 : Int32))])) _
                  refine XS.iconst X100.here hx rfl (hb hby at_139) ?_
                  show Steps p.tables e below (T100.setTop (mkF m 140 #[.val (.int p1), .val (.int p2), .val (.int p3), .val (.int p4), .val (.int p5), .val (.int p6), .val (.int op), .val (.int (4 : Int32)), .val (.int (0 : Int32)), .val (.ref b57), .val (.int (0 : Int32)), .unset] [(.int (3 : Int32)), (.int (0 : Int32))])) _
                  refine XS.icmpYes X100.here hx rfl (pc0 := 140) (pc' := 148) rfl (hb hby at_140) rfl (feq (by decide : ¬ ((0 : Int32) = (3 : Int32)))).2 (by decide) (by decide) ?_
                  show Steps p.tables e below (T100.setTop (mkF m 148 #[.val (.int p1), .val (.int p2), .val (.int p3), .val (.int p4), .val (.int p5), .val (.int p6), .val (.int op), .val (.int (4 : Int32)), .val (.int (0 : Int32)), .val (.ref b57), .val (.int (0 : Int32)), .unset] [])) _
                  refine XS.iconst X100.here hx rfl (hb hby at_148) ?_
                  show Steps p.tables e below (T100.setTop (mkF m 149 #[.val (.int p1), .val (.int p2), .val (.int p3), .val (.int p4), .val (.int p5), .val (.int p6), .val (.int op), .val (.int (4 : Int32)), .val (.int (0 : Int32)), .val (.ref b57), .val (.int (0 : Int32)), .unset] [(.int (-1 : Int32))])) _
                  refine XS.istore X100.here hx rfl (hb hby at_149) rfl (l' := #[.val (.int p1), .val (.int p2), .val (.int p3), .val (.int p4), .val (.int p5), .val (.int p6), .val (.int op), .val (.int (4 : Int32)), .val (.int (0 : Int32)), .val (.ref b57), .val (.int (0 : Int32)), .val (.int (-1 : Int32))]) rfl ?_
                  show Steps p.tables e below (T100.setTop (mkF m 151 #[.val (.int p1), .val (.int p2), .val (.int p3), .val (.int p4), .val (.int p5), .val (.int p6), .val (.int op), .val (.int (4 : Int32)), .val (.int (0 : Int32)), .val (.ref b57), .val (.int (0 : Int32)), .val (.int (-1 : Int32))] [])) _
                  refine XS.aload X100.here hx rfl (hb hby at_151) rfl rfl ?_
                  show Steps p.tables e below (T100.setTop (mkF m 153 #[.val (.int p1), .val (.int p2), .val (.int p3), .val (.int p4), .val (.int p5), .val (.int p6), .val (.int op), .val (.int (4 : Int32)), .val (.int (0 : Int32)), .val (.ref b57), .val (.int (0 : Int32)), .val (.int (-1 : Int32))] [(.ref b57)])) _
                  refine XS.iload X100.here hx rfl (hb hby at_153) rfl ?_
                  show Steps p.tables e below (T100.setTop (mkF m 155 #[.val (.int p1), .val (.int p2), .val (.int p3), .val (.int p4), .val (.int p5), .val (.int p6), .val (.int op), .val (.int (4 : Int32)), .val (.int (0 : Int32)), .val (.ref b57), .val (.int (0 : Int32)), .val (.int (-1 : Int32))] [(.int (4 : Int32)), (.ref b57)])) _
                  refine st101 _ ?_
                  show Steps p.tables e below (T101.setTop (mkF m 158 #[.val (.int p1), .val (.int p2), .val (.int p3), .val (.int p4), .val (.int p5), .val (.int p6), .val (.int op), .val (.int (4 : Int32)), .val (.int (0 : Int32)), .val (.ref b57), .val (.int (0 : Int32)), .val (.int (-1 : Int32))] [(.int (-1 : Int32))])) _
                  refine XS.iload X101.here hx rfl (hb hby at_158) rfl ?_
                  show Steps p.tables e below (T101.setTop (mkF m 160 #[.val (.int p1), .val (.int p2), .val (.int p3), .val (.int p4), .val (.int p5), .val (.int p6), .val (.int op), .val (.int (4 : Int32)), .val (.int (0 : Int32)), .val (.ref b57), .val (.int (0 : Int32)), .val (.int (-1 : Int32))] [(.int (-1 : Int32)), (.int (-1 : Int32))])) _
                  refine XS.icmpNo X101.here hx rfl (hb hby at_160) rfl (teq (by decide : (-1 : Int32) = (-1 : Int32))).2 ?_
                  show Steps p.tables e below (T101.setTop (mkF m 163 #[.val (.int p1), .val (.int p2), .val (.int p3), .val (.int p4), .val (.int p5), .val (.int p6), .val (.int op), .val (.int (4 : Int32)), .val (.int (0 : Int32)), .val (.ref b57), .val (.int (0 : Int32)), .val (.int (-1 : Int32))] [])) _
                  refine XS.iconst X101.here hx rfl (hb hby at_163) ?_
                  show Steps p.tables e below (T101.setTop (mkF m 164 #[.val (.int p1), .val (.int p2), .val (.int p3), .val (.int p4), .val (.int p5), .val (.int p6), .val (.int op), .val (.int (4 : Int32)), .val (.int (0 : Int32)), .val (.ref b57), .val (.int (0 : Int32)), .val (.int (-1 : Int32))] [(.int (1 : Int32))])) _
                  refine XS.goto X101.here hx rfl (pc0 := 164) (pc' := 168) rfl (hb hby at_164) (by decide) (by decide) ?_
                  exact k
                obtain ⟨fs, hrt, hrun, hended, hW, hsame⟩ := X101.leave (v := some (.int (1 : Int32))) (fun h => by rw [Bd.returns] at h; cases h)
                refine ⟨_, _, g102 _ ?_, hrun, hended, _, _, rfl, ?_, ⟨_, rfl⟩, hW, hsame.mono (by decide) (by decide)⟩
                · show Steps p.tables e below (T101.setTop (mkF m 168 #[.val (.int p1), .val (.int p2), .val (.int p3), .val (.int p4), .val (.int p5), .val (.int p6), .val (.int op), .val (.int (4 : Int32)), .val (.int (0 : Int32)), .val (.ref b57), .val (.int (0 : Int32)), .val (.int (-1 : Int32))] [(.int (1 : Int32))])) _
                  exact retN X101 hx (t := .boolean) Bd.returns (by simp) (hb hby at_168) hrt
                · show own_Q_rm0 Z p1 p2 p3 p4 p5 p6 h0 n0 _ T101.heap _
                  rw [e101]
                  exact ⟨rfl, N101⟩
        · have o103 : Old Z n0 h73 := (Old.wr (Old.wr (Old.wr (Old.wr (Old.wr (Old.wr (Old.wr (Old.wr (Old.ext O0 E57) W59 gz_b57) W61 gz_b57) W63 gz_b57) W65 gz_b57) W67 gz_b57) W69 gz_b57) W71 gz_b57) W73 gz_b57)
          obtain ⟨_, _, ⟨T104, L104, k104, n104⟩, -, X104, ⟨Lc104, hQ104, l104, y104, z104⟩, st104⟩ := Jvm.LawKit.callS X73 hx (y := (⟨"com/example/chalkline/chalkline/runtime/MachineCodeTargetPinLaw", "targetOperand", "(I)I"⟩ : MethodName)) hown (mvT hZ (hw _ (List.mem_of_getElem? (i := 1) rfl))) (mvT hZ (hw _ (List.mem_of_getElem? (i := 2) rfl))) (mvT hZ (hw _ (List.mem_of_getElem? (i := 3) rfl))) (mvT hZ (hw _ (List.mem_of_getElem? (i := 4) rfl))) (by decide) (backOf (W := 0) (rmOp l Z a0 hw [] op (3 : Int32) h73 n0 o103 (by rw [if_neg hc74, if_neg hc80])) hZ (hw _ (List.mem_of_getElem? (i := 4) rfl)) (hw _ (List.mem_of_getElem? (i := 3) rfl)) (by decide) (by decide)) (g := (mkF m 112 #[.val (.int p1), .val (.int p2), .val (.int p3), .val (.int p4), .val (.int p5), .val (.int p6), .val (.int op), .val (.int (4 : Int32)), .val (.int (0 : Int32)), .val (.ref b57), .unset, .unset] [(.int op)])) rfl (by rw [hml]; rfl) (argsL := [(.int op)]) (rest := []) (lenOf own_pd0 rfl) rfl (by show 2 * 0 + _ ≤ _; exact Nat.le_of_eq rfl) (hb hby at_112) (fun _ _ => ⟨rfl, e73, (by decide : 1 + 0 ≤ _), (by decide : 8 + 0 ≤ _)⟩)
          dsimp only [Pt.U, Pt.locs, Pt.cells, Pt.slots] at X104 l104 y104 z104 st104 hQ104
          subst l104 y104 z104
          obtain ⟨rfl, Nq104, e104⟩ := hQ104
          have N104 := Fr.app N73 Nq104
          obtain ⟨_, _, ⟨T105, L105, k105, n105⟩, -, X105, ⟨Lc105, hQ105, l105, y105, z105⟩, st105⟩ := Jvm.LawKit.callS X104 hx (y := (⟨"com/example/chalkline/chalkline/runtime/MachineCode", "target", "([II)I"⟩ : MethodName)) hown (mvT hZ (hw _ (List.mem_of_getElem? (i := 5) rfl))) (mvT hZ (hw _ (List.mem_of_getElem? (i := 6) rfl))) (mvT hZ (hw _ (List.mem_of_getElem? (i := 7) rfl))) (mvT hZ (hw _ (List.mem_of_getElem? (i := 8) rfl))) (by decide) (backOf (W := 0) (rmT4 l Z a0 hw [] b57 k57 p6 p6 p6 p6 op p3 p4 p5 p5 h73 n0 o103 V73a (by rw [if_neg (fun q => by rw [q] at hc80; exact hc80 (by decide)), if_neg (fun q => by rw [q] at hc80; exact hc80 (by decide)), if_neg (fun q => by rw [q] at hc80; exact hc80 (by decide)), if_neg hc74, if_neg hc80])) hZ (hw _ (List.mem_of_getElem? (i := 8) rfl)) (hw _ (List.mem_of_getElem? (i := 7) rfl)) (by decide) (by decide)) (g := (mkF m 155 #[.val (.int p1), .val (.int p2), .val (.int p3), .val (.int p4), .val (.int p5), .val (.int p6), .val (.int op), .val (.int (4 : Int32)), .val (.int (0 : Int32)), .val (.ref b57), .val (.int (3 : Int32)), .val (.int p5)] [(.int (4 : Int32)), (.ref b57)])) rfl (by rw [hml]; rfl) (argsL := [(.ref b57), (.int (4 : Int32))]) (rest := []) (lenOf own_pd1 rfl) rfl (by show 2 * 0 + _ ≤ _; exact Nat.le_of_eq rfl) (hb hby at_155) (fun _ _ => ⟨rfl, e104, (by decide : 1 + 0 ≤ _), (by decide : 8 + 0 ≤ _)⟩)
          dsimp only [Pt.U, Pt.locs, Pt.cells, Pt.slots] at X105 l105 y105 z105 st105 hQ105
          subst l105 y105 z105
          obtain ⟨rfl, Nq105, e105⟩ := hQ105
          have N105 := Fr.app N104 Nq105
          have hc106 : p5 = p5 := rfl
          have g107 : ∀ t, Steps p.tables e below (T105.setTop (mkF m 168 #[.val (.int p1), .val (.int p2), .val (.int p3), .val (.int p4), .val (.int p5), .val (.int p6), .val (.int op), .val (.int (4 : Int32)), .val (.int (0 : Int32)), .val (.ref b57), .val (.int (3 : Int32)), .val (.int p5)] [(.int (1 : Int32))])) t → Steps p.tables e below (s₁.setTop (entryFrame m #[(.int p1), (.int p2), (.int p3), (.int p4), (.int p5), (.int p6)] maxLocals)) t := by
            intro t k
            refine g75 t ?_
            show Steps p.tables e below (T73.setTop (mkF m 110 #[.val (.int p1), .val (.int p2), .val (.int p3), .val (.int p4), .val (.int p5), .val (.int p6), .val (.int op), .val (.int (4 : Int32)), .val (.int (0 : Int32)), .val (.ref b57), .unset, .unset] [])) _
            refine XS.iload X73.here hx rfl (hb hby at_110) rfl ?_
            show Steps p.tables e below (T73.setTop (mkF m 112 #[.val (.int p1), .val (.int p2), .val (.int p3), .val (.int p4), .val (.int p5), .val (.int p6), .val (.int op), .val (.int (4 : Int32)), .val (.int (0 : Int32)), .val (.ref b57), .unset, .unset] [(.int op)])) _
            refine st104 _ ?_
            show Steps p.tables e below (T104.setTop (mkF m 115 #[.val (.int p1), .val (.int p2), .val (.int p3), .val (.int p4), .val (.int p5), .val (.int p6), .val (.int op), .val (.int (4 : Int32)), .val (.int (0 : Int32)), .val (.ref b57), .unset, .unset] [(.int (3 : Int32))])) _
            refine XS.istore X104.here hx rfl (hb hby at_115) rfl (l' := #[.val (.int p1), .val (.int p2), .val (.int p3), .val (.int p4), .val (.int p5), .val (.int p6), .val (.int op), .val (.int (4 : Int32)), .val (.int (0 : Int32)), .val (.ref b57), .val (.int (3 : Int32)), .unset]) rfl ?_
            show Steps p.tables e below (T104.setTop (mkF m 117 #[.val (.int p1), .val (.int p2), .val (.int p3), .val (.int p4), .val (.int p5), .val (.int p6), .val (.int op), .val (.int (4 : Int32)), .val (.int (0 : Int32)), .val (.ref b57), .val (.int (3 : Int32)), .unset] [])) _
            refine XS.iload X104.here hx rfl (hb hby at_117) rfl ?_
            show Steps p.tables e below (T104.setTop (mkF m 119 #[.val (.int p1), .val (.int p2), .val (.int p3), .val (.int p4), .val (.int p5), .val (.int p6), .val (.int op), .val (.int (4 : Int32)), .val (.int (0 : Int32)), .val (.ref b57), .val (.int (3 : Int32)), .unset] [(.int (3 : Int32))])) _
            refine XS.iconst X104.here hx rfl (hb hby at_119) ?_
            show Steps p.tables e below (T104.setTop (mkF m 120 #[.val (.int p1), .val (.int p2), .val (.int p3), .val (.int p4), .val (.int p5), .val (.int p6), .val (.int op), .val (.int (4 : Int32)), .val (.int (0 : Int32)), .val (.ref b57), .val (.int (3 : Int32)), .unset] [(.int (1 : Int32)), (.int (3 : Int32))])) _
            refine XS.icmpYes X104.here hx rfl (pc0 := 120) (pc' := 127) rfl (hb hby at_120) rfl (feq (by decide : ¬ ((3 : Int32) = (1 : Int32)))).2 (by decide) (by decide) ?_
            show Steps p.tables e below (T104.setTop (mkF m 127 #[.val (.int p1), .val (.int p2), .val (.int p3), .val (.int p4), .val (.int p5), .val (.int p6), .val (.int op), .val (.int (4 : Int32)), .val (.int (0 : Int32)), .val (.ref b57), .val (.int (3 : Int32)), .unset] [])) _
            refine XS.iload X104.here hx rfl (hb hby at_127) rfl ?_
            show Steps p.tables e below (T104.setTop (mkF m 129 #[.val (.int p1), .val (.int p2), .val (.int p3), .val (.int p4), .val (.int p5), .val (.int p6), .val (.int op), .val (.int (4 : Int32)), .val (.int (0 : Int32)), .val (.ref b57), .val (.int (3 : Int32)), .unset] [(.int (3 : Int32))])) _
            refine XS.iconst X104.here hx rfl (hb hby at_129) ?_
            show Steps p.tables e below (T104.setTop (mkF m 130 #[.val (.int p1), .val (.int p2), .val (.int p3), .val (.int p4), .val (.int p5), .val (.int p6), .val (.int op), .val (.int (4 : Int32)), .val (.int (0 : Int32)), .val (.ref b57), .val (.int (3 : Int32)), .unset] [(.int (2 : Int32)), (.int (3 : Int32))])) _
            refine XS.icmpYes X104.here hx rfl (pc0 := 130) (pc' := 137) rfl (hb hby at_130) rfl (feq (by decide : ¬ ((3 : Int32) = (2 : Int32)))).2 (by decide) (by decide) ?_
            show Steps p.tables e below (T104.setTop (mkF m 137 #[.val (.int p1), .val (.int p2), .val (.int p3), .val (.int p4), .val (.int p5), .val (.int p6), .val (.int op), .val (.int (4 : Int32)), .val (.int (0 : Int32)), .val (.ref b57), .val (.int (3 : Int32)), .unset] [])) _
            refine XS.iload X104.here hx rfl (hb hby at_137) rfl ?_
            show Steps p.tables e below (T104.setTop (mkF m 139 #[.val (.int p1), .val (.int p2), .val (.int p3), .val (.int p4), .val (.int p5), .val (.int p6), .val (.int op), .val (.int (4 : Int32)), .val (.int (0 : Int32)), .val (.ref b57), .val (.int (3 : Int32)), .unset] [(.int (3 : Int32))])) _
            refine XS.iconst X104.here hx rfl (hb hby at_139) ?_
            show Steps p.tables e below (T104.setTop (mkF m 140 #[.val (.int p1), .val (.int p2), .val (.int p3), .val (.int p4), .val (.int p5), .val (.int p6), .val (.int op), .val (.int (4 : Int32)), .val (.int (0 : Int32)), .val (.ref b57), .val (.int (3 : Int32)), .unset] [(.int (3 : Int32)), (.int (3 : Int32))])) _
            refine XS.icmpNo X104.here hx rfl (hb hby at_140) rfl (teq (by decide : (3 : Int32) = (3 : Int32))).2 ?_
            show Steps p.tables e below (T104.setTop (mkF m 143 #[.val (.int p1), .val (.int p2), .val (.int p3), .val (.int p4), .val (.int p5), .val (.int p6), .val (.int op), .val (.int (4 : Int32)), .val (.int (0 : Int32)), .val (.ref b57), .val (.int (3 : Int32)), .unset] [])) _
            refine XS.iload X104.here hx rfl (hb hby at_143) rfl ?_
            show Steps p.tables e below (T104.setTop (mkF m 145 #[.val (.int p1), .val (.int p2), .val (.int p3), .val (.int p4), .val (.int p5), .val (.int p6), .val (.int op), .val (.int (4 : Int32)), .val (.int (0 : Int32)), .val (.ref b57), .val (.int (3 : Int32)), .unset] [(.int p5)])) _
            refine XS.goto X104.here hx rfl (pc0 := 145) (pc' := 149) rfl (hb hby at_145) (by decide) (by decide) ?_
            show Steps p.tables e below (T104.setTop (mkF m 149 #[.val (.int p1), .val (.int p2), .val (.int p3), .val (.int p4), .val (.int p5), .val (.int p6), .val (.int op), .val (.int (4 : Int32)), .val (.int (0 : Int32)), .val (.ref b57), .val (.int (3 : Int32)), .unset] [(.int p5)])) _
            refine XS.istore X104.here hx rfl (hb hby at_149) rfl (l' := #[.val (.int p1), .val (.int p2), .val (.int p3), .val (.int p4), .val (.int p5), .val (.int p6), .val (.int op), .val (.int (4 : Int32)), .val (.int (0 : Int32)), .val (.ref b57), .val (.int (3 : Int32)), .val (.int p5)]) rfl ?_
            show Steps p.tables e below (T104.setTop (mkF m 151 #[.val (.int p1), .val (.int p2), .val (.int p3), .val (.int p4), .val (.int p5), .val (.int p6), .val (.int op), .val (.int (4 : Int32)), .val (.int (0 : Int32)), .val (.ref b57), .val (.int (3 : Int32)), .val (.int p5)] [])) _
            refine XS.aload X104.here hx rfl (hb hby at_151) rfl rfl ?_
            show Steps p.tables e below (T104.setTop (mkF m 153 #[.val (.int p1), .val (.int p2), .val (.int p3), .val (.int p4), .val (.int p5), .val (.int p6), .val (.int op), .val (.int (4 : Int32)), .val (.int (0 : Int32)), .val (.ref b57), .val (.int (3 : Int32)), .val (.int p5)] [(.ref b57)])) _
            refine XS.iload X104.here hx rfl (hb hby at_153) rfl ?_
            show Steps p.tables e below (T104.setTop (mkF m 155 #[.val (.int p1), .val (.int p2), .val (.int p3), .val (.int p4), .val (.int p5), .val (.int p6), .val (.int op), .val (.int (4 : Int32)), .val (.int (0 : Int32)), .val (.ref b57), .val (.int (3 : Int32)), .val (.int p5)] [(.int (4 : Int32)), (.ref b57)])) _
            refine st105 _ ?_
            show Steps p.tables e below (T105.setTop (mkF m 158 #[.val (.int p1), .val (.int p2), .val (.int p3), .val (.int p4), .val (.int p5), .val (.int p6), .val (.int op), .val (.int (4 : Int32)), .val (.int (0 : Int32)), .val (.ref b57), .val (.int (3 : Int32)), .val (.int p5)] [(.int p5)])) _
            refine XS.iload X105.here hx rfl (hb hby at_158) rfl ?_
            show Steps p.tables e below (T105.setTop (mkF m 160 #[.val (.int p1), .val (.int p2), .val (.int p3), .val (.int p4), .val (.int p5), .val (.int p6), .val (.int op), .val (.int (4 : Int32)), .val (.int (0 : Int32)), .val (.ref b57), .val (.int (3 : Int32)), .val (.int p5)] [(.int p5), (.int p5)])) _
            refine XS.icmpNo X105.here hx rfl (hb hby at_160) rfl (teq hc106).2 ?_
            show Steps p.tables e below (T105.setTop (mkF m 163 #[.val (.int p1), .val (.int p2), .val (.int p3), .val (.int p4), .val (.int p5), .val (.int p6), .val (.int op), .val (.int (4 : Int32)), .val (.int (0 : Int32)), .val (.ref b57), .val (.int (3 : Int32)), .val (.int p5)] [])) _
            refine XS.iconst X105.here hx rfl (hb hby at_163) ?_
            show Steps p.tables e below (T105.setTop (mkF m 164 #[.val (.int p1), .val (.int p2), .val (.int p3), .val (.int p4), .val (.int p5), .val (.int p6), .val (.int op), .val (.int (4 : Int32)), .val (.int (0 : Int32)), .val (.ref b57), .val (.int (3 : Int32)), .val (.int p5)] [(.int (1 : Int32))])) _
            refine XS.goto X105.here hx rfl (pc0 := 164) (pc' := 168) rfl (hb hby at_164) (by decide) (by decide) ?_
            exact k
          obtain ⟨fs, hrt, hrun, hended, hW, hsame⟩ := X105.leave (v := some (.int (1 : Int32))) (fun h => by rw [Bd.returns] at h; cases h)
          refine ⟨_, _, g107 _ ?_, hrun, hended, _, _, rfl, ?_, ⟨_, rfl⟩, hW, hsame.mono (by decide) (by decide)⟩
          · show Steps p.tables e below (T105.setTop (mkF m 168 #[.val (.int p1), .val (.int p2), .val (.int p3), .val (.int p4), .val (.int p5), .val (.int p6), .val (.int op), .val (.int (4 : Int32)), .val (.int (0 : Int32)), .val (.ref b57), .val (.int (3 : Int32)), .val (.int p5)] [(.int (1 : Int32))])) _
            exact retN X105 hx (t := .boolean) Bd.returns (by simp) (hb hby at_168) hrt
          · show own_Q_rm0 Z p1 p2 p3 p4 p5 p6 h0 n0 _ T105.heap _
            rw [e105]
            exact ⟨rfl, N105⟩
  · obtain ⟨op, hv_op⟩ : ∃ z : Int32, z = p2 := ⟨_, rfl⟩
    have g108 : ∀ t, Steps p.tables e below (s₁.setTop (mkF m 17 #[.val (.int p1), .val (.int p2), .val (.int p3), .val (.int p4), .val (.int p5), .val (.int p6), .unset, .unset, .unset, .unset, .unset, .unset] [(.int op)])) t → Steps p.tables e below (s₁.setTop (entryFrame m #[(.int p1), (.int p2), (.int p3), (.int p4), (.int p5), (.int p6)] maxLocals)) t := by
      intro t k
      rw [hv_op] at k
      refine g2 t ?_
      show Steps p.tables e below (s₁.setTop (mkF m 3 #[.val (.int p1), .val (.int p2), .val (.int p3), .val (.int p4), .val (.int p5), .val (.int p6), .unset, .unset, .unset, .unset, .unset, .unset] [(.int (p1 &&& (2 : Int32)))])) _
      refine XS.ifNo X0.here hx rfl (hb hby at_3) rfl ((if0 _ _).trans (feq hc1).1) ?_
      show Steps p.tables e below (s₁.setTop (mkF m 6 #[.val (.int p1), .val (.int p2), .val (.int p3), .val (.int p4), .val (.int p5), .val (.int p6), .unset, .unset, .unset, .unset, .unset, .unset] [])) _
      refine XS.iloadN X0.here hx rfl (hb hby at_6) rfl ?_
      show Steps p.tables e below (s₁.setTop (mkF m 7 #[.val (.int p1), .val (.int p2), .val (.int p3), .val (.int p4), .val (.int p5), .val (.int p6), .unset, .unset, .unset, .unset, .unset, .unset] [(.int p2)])) _
      refine XS.goto X0.here hx rfl (pc0 := 7) (pc' := 17) rfl (hb hby at_7) (by decide) (by decide) ?_
      exact k
    have g110 : ∀ t, Steps p.tables e below (s₁.setTop (mkF m 22 #[.val (.int p1), .val (.int p2), .val (.int p3), .val (.int p4), .val (.int p5), .val (.int p6), .val (.int op), .unset, .unset, .unset, .unset, .unset] [(.int (p1 &&& (1 : Int32)))])) t → Steps p.tables e below (s₁.setTop (entryFrame m #[(.int p1), (.int p2), (.int p3), (.int p4), (.int p5), (.int p6)] maxLocals)) t := by
      intro t k
      refine g108 t ?_
      show Steps p.tables e below (s₁.setTop (mkF m 17 #[.val (.int p1), .val (.int p2), .val (.int p3), .val (.int p4), .val (.int p5), .val (.int p6), .unset, .unset, .unset, .unset, .unset, .unset] [(.int op)])) _
      refine XS.istore X0.here hx rfl (hb hby at_17) rfl (l' := #[.val (.int p1), .val (.int p2), .val (.int p3), .val (.int p4), .val (.int p5), .val (.int p6), .val (.int op), .unset, .unset, .unset, .unset, .unset]) rfl ?_
      show Steps p.tables e below (s₁.setTop (mkF m 19 #[.val (.int p1), .val (.int p2), .val (.int p3), .val (.int p4), .val (.int p5), .val (.int p6), .val (.int op), .unset, .unset, .unset, .unset, .unset] [])) _
      refine XS.iloadN X0.here hx rfl (hb hby at_19) rfl ?_
      show Steps p.tables e below (s₁.setTop (mkF m 20 #[.val (.int p1), .val (.int p2), .val (.int p3), .val (.int p4), .val (.int p5), .val (.int p6), .val (.int op), .unset, .unset, .unset, .unset, .unset] [(.int p1)])) _
      refine XS.iconst X0.here hx rfl (hb hby at_20) ?_
      show Steps p.tables e below (s₁.setTop (mkF m 21 #[.val (.int p1), .val (.int p2), .val (.int p3), .val (.int p4), .val (.int p5), .val (.int p6), .val (.int op), .unset, .unset, .unset, .unset, .unset] [(.int (1 : Int32)), (.int p1)])) _
      refine XS.iand X0.here hx rfl (hb hby at_21) rfl ?_
      exact k
    by_cases hc109 : (p1 &&& (1 : Int32)) = (0 : Int32)
    · obtain ⟨T111, h111, k111, X111, e111, E111, A111, st111⟩ := newP X0 hx hZ (hw _ (List.mem_of_getElem? (i := 0) rfl)) e0 (g := (mkF m 40 #[.val (.int p1), .val (.int p2), .val (.int p3), .val (.int p4), .val (.int p5), .val (.int p6), .val (.int op), .val (.int (0 : Int32)), .val (.int (4 : Int32)), .unset, .unset, .unset] [(.int (8 : Int32))])) rfl (hb hby at_40) rfl (by decide) (cap := 8) (by decide) (by decide) (by decide) (by decide)
      obtain ⟨b111, q_b111⟩ : ∃ z, z = h0.size := ⟨_, rfl⟩
      rw [← q_b111] at A111 st111
      have sz_b111 : h0.size ≤ b111 := Nat.le_of_eq q_b111.symm
      have gz_b111 : n0 ≤ b111 := Nat.le_trans Z0 sz_b111
      have V111 : Arv Z h111 b111 k111 .int (8 : Int32) [(.int (0 : Int32)), (.int (0 : Int32)), (.int (0 : Int32)), (.int (0 : Int32)), (.int (0 : Int32)), (.int (0 : Int32)), (.int (0 : Int32)), (.int (0 : Int32))] (.int (0 : Int32)) := (Arv.new A111 (by decide)).pad (pad_rep [] (.int (0 : Int32)) 8)
      obtain ⟨c112, Ar112, cq112, S112, Nn112, Hh112, Gg112⟩ := id V111
      have hin112 : ¬ ((4 : Int32) < 0 ∨ c112.slots.size ≤ ((4 : Int32)).toNatClampNeg) := inb_of S112 ⟨by decide, by decide⟩
      obtain ⟨T113, h113, X113, e113, W113, st113⟩ := stI X111 hx hZ e111 Ar112 (j := (4 : Int32)) hin112 (g := (mkF m 50 #[.val (.int p1), .val (.int p2), .val (.int p3), .val (.int p4), .val (.int p5), .val (.int p6), .val (.int op), .val (.int (0 : Int32)), .val (.int (4 : Int32)), .val (.ref b111), .unset, .unset] [(.int p6), (.int (4 : Int32)), (.ref b111)])) rfl rfl (hb hby at_50)
      have V113 := Arv.set Ar112 cq112 S112 Nn112 Hh112 Gg112 rfl W113 4 rfl (Nat.le_of_ble_eq_true rfl)
      have V113a : Arv Z h113 b111 k111 .int (8 : Int32) [(.int (0 : Int32)), (.int (0 : Int32)), (.int (0 : Int32)), (.int (0 : Int32)), (.int p6), (.int (0 : Int32)), (.int (0 : Int32)), (.int (0 : Int32))] (.int (0 : Int32)) := V113
      have N113 := Fr.snoc X113 N0 gz_b111
      obtain ⟨c114, Ar114, cq114, S114, Nn114, Hh114, Gg114⟩ := id V113a
      have hin114 : ¬ ((5 : Int32) < 0 ∨ c114.slots.size ≤ ((5 : Int32)).toNatClampNeg) := inb_of S114 ⟨by decide, by decide⟩
      obtain ⟨T115, h115, X115, e115, W115, st115⟩ := stI X113 hx hZ e113 Ar114 (j := (5 : Int32)) hin114 (g := (mkF m 59 #[.val (.int p1), .val (.int p2), .val (.int p3), .val (.int p4), .val (.int p5), .val (.int p6), .val (.int op), .val (.int (0 : Int32)), .val (.int (4 : Int32)), .val (.ref b111), .unset, .unset] [(.int p6), (.int (5 : Int32)), (.ref b111)])) rfl rfl (hb hby at_59)
      have V115 := Arv.set Ar114 cq114 S114 Nn114 Hh114 Gg114 rfl W115 5 rfl (Nat.le_of_ble_eq_true rfl)
      have V115a : Arv Z h115 b111 k111 .int (8 : Int32) [(.int (0 : Int32)), (.int (0 : Int32)), (.int (0 : Int32)), (.int (0 : Int32)), (.int p6), (.int p6), (.int (0 : Int32)), (.int (0 : Int32))] (.int (0 : Int32)) := V115
      have N115 := Fr.snoc X115 N113 gz_b111
      obtain ⟨c116, Ar116, cq116, S116, Nn116, Hh116, Gg116⟩ := id V115a
      have hin116 : ¬ ((6 : Int32) < 0 ∨ c116.slots.size ≤ ((6 : Int32)).toNatClampNeg) := inb_of S116 ⟨by decide, by decide⟩
      obtain ⟨T117, h117, X117, e117, W117, st117⟩ := stI X115 hx hZ e115 Ar116 (j := (6 : Int32)) hin116 (g := (mkF m 68 #[.val (.int p1), .val (.int p2), .val (.int p3), .val (.int p4), .val (.int p5), .val (.int p6), .val (.int op), .val (.int (0 : Int32)), .val (.int (4 : Int32)), .val (.ref b111), .unset, .unset] [(.int p6), (.int (6 : Int32)), (.ref b111)])) rfl rfl (hb hby at_68)
      have V117 := Arv.set Ar116 cq116 S116 Nn116 Hh116 Gg116 rfl W117 6 rfl (Nat.le_of_ble_eq_true rfl)
      have V117a : Arv Z h117 b111 k111 .int (8 : Int32) [(.int (0 : Int32)), (.int (0 : Int32)), (.int (0 : Int32)), (.int (0 : Int32)), (.int p6), (.int p6), (.int p6), (.int (0 : Int32))] (.int (0 : Int32)) := V117
      have N117 := Fr.snoc X117 N115 gz_b111
      obtain ⟨c118, Ar118, cq118, S118, Nn118, Hh118, Gg118⟩ := id V117a
      have hin118 : ¬ ((7 : Int32) < 0 ∨ c118.slots.size ≤ ((7 : Int32)).toNatClampNeg) := inb_of S118 ⟨by decide, by decide⟩
      obtain ⟨T119, h119, X119, e119, W119, st119⟩ := stI X117 hx hZ e117 Ar118 (j := (7 : Int32)) hin118 (g := (mkF m 77 #[.val (.int p1), .val (.int p2), .val (.int p3), .val (.int p4), .val (.int p5), .val (.int p6), .val (.int op), .val (.int (0 : Int32)), .val (.int (4 : Int32)), .val (.ref b111), .unset, .unset] [(.int p6), (.int (7 : Int32)), (.ref b111)])) rfl rfl (hb hby at_77)
      have V119 := Arv.set Ar118 cq118 S118 Nn118 Hh118 Gg118 rfl W119 7 rfl (Nat.le_of_ble_eq_true rfl)
      have V119a : Arv Z h119 b111 k111 .int (8 : Int32) [(.int (0 : Int32)), (.int (0 : Int32)), (.int (0 : Int32)), (.int (0 : Int32)), (.int p6), (.int p6), (.int p6), (.int p6)] (.int (0 : Int32)) := V119
      have N119 := Fr.snoc X119 N117 gz_b111
      obtain ⟨c120, Ar120, cq120, S120, Nn120, Hh120, Gg120⟩ := id V119a
      have hin120 : ¬ ((0 : Int32) < 0 ∨ c120.slots.size ≤ ((0 : Int32)).toNatClampNeg) := inb_of S120 ⟨by decide, by decide⟩
      obtain ⟨T121, h121, X121, e121, W121, st121⟩ := stI X119 hx hZ e119 Ar120 (j := (0 : Int32)) hin120 (g := (mkF m 84 #[.val (.int p1), .val (.int p2), .val (.int p3), .val (.int p4), .val (.int p5), .val (.int p6), .val (.int op), .val (.int (0 : Int32)), .val (.int (4 : Int32)), .val (.ref b111), .unset, .unset] [(.int op), (.int (0 : Int32)), (.ref b111)])) rfl rfl (hb hby at_84)
      have V121 := Arv.set Ar120 cq120 S120 Nn120 Hh120 Gg120 rfl W121 0 rfl (Nat.le_of_ble_eq_true rfl)
      have V121a : Arv Z h121 b111 k111 .int (8 : Int32) [(.int op), (.int (0 : Int32)), (.int (0 : Int32)), (.int (0 : Int32)), (.int p6), (.int p6), (.int p6), (.int p6)] (.int (0 : Int32)) := V121
      have N121 := Fr.snoc X121 N119 gz_b111
      obtain ⟨c122, Ar122, cq122, S122, Nn122, Hh122, Gg122⟩ := id V121a
      have hin122 : ¬ ((1 : Int32) < 0 ∨ c122.slots.size ≤ ((1 : Int32)).toNatClampNeg) := inb_of S122 ⟨by decide, by decide⟩
      obtain ⟨T123, h123, X123, e123, W123, st123⟩ := stI X121 hx hZ e121 Ar122 (j := (1 : Int32)) hin122 (g := (mkF m 92 #[.val (.int p1), .val (.int p2), .val (.int p3), .val (.int p4), .val (.int p5), .val (.int p6), .val (.int op), .val (.int (0 : Int32)), .val (.int (4 : Int32)), .val (.ref b111), .unset, .unset] [(.int p3), (.int (1 : Int32)), (.ref b111)])) rfl rfl (hb hby at_92)
      have V123 := Arv.set Ar122 cq122 S122 Nn122 Hh122 Gg122 rfl W123 1 rfl (Nat.le_of_ble_eq_true rfl)
      have V123a : Arv Z h123 b111 k111 .int (8 : Int32) [(.int op), (.int p3), (.int (0 : Int32)), (.int (0 : Int32)), (.int p6), (.int p6), (.int p6), (.int p6)] (.int (0 : Int32)) := V123
      have N123 := Fr.snoc X123 N121 gz_b111
      obtain ⟨c124, Ar124, cq124, S124, Nn124, Hh124, Gg124⟩ := id V123a
      have hin124 : ¬ ((2 : Int32) < 0 ∨ c124.slots.size ≤ ((2 : Int32)).toNatClampNeg) := inb_of S124 ⟨by decide, by decide⟩
      obtain ⟨T125, h125, X125, e125, W125, st125⟩ := stI X123 hx hZ e123 Ar124 (j := (2 : Int32)) hin124 (g := (mkF m 100 #[.val (.int p1), .val (.int p2), .val (.int p3), .val (.int p4), .val (.int p5), .val (.int p6), .val (.int op), .val (.int (0 : Int32)), .val (.int (4 : Int32)), .val (.ref b111), .unset, .unset] [(.int p4), (.int (2 : Int32)), (.ref b111)])) rfl rfl (hb hby at_100)
      have V125 := Arv.set Ar124 cq124 S124 Nn124 Hh124 Gg124 rfl W125 2 rfl (Nat.le_of_ble_eq_true rfl)
      have V125a : Arv Z h125 b111 k111 .int (8 : Int32) [(.int op), (.int p3), (.int p4), (.int (0 : Int32)), (.int p6), (.int p6), (.int p6), (.int p6)] (.int (0 : Int32)) := V125
      have N125 := Fr.snoc X125 N123 gz_b111
      obtain ⟨c126, Ar126, cq126, S126, Nn126, Hh126, Gg126⟩ := id V125a
      have hin126 : ¬ ((3 : Int32) < 0 ∨ c126.slots.size ≤ ((3 : Int32)).toNatClampNeg) := inb_of S126 ⟨by decide, by decide⟩
      obtain ⟨T127, h127, X127, e127, W127, st127⟩ := stI X125 hx hZ e125 Ar126 (j := (3 : Int32)) hin126 (g := (mkF m 109 #[.val (.int p1), .val (.int p2), .val (.int p3), .val (.int p4), .val (.int p5), .val (.int p6), .val (.int op), .val (.int (0 : Int32)), .val (.int (4 : Int32)), .val (.ref b111), .unset, .unset] [(.int p5), (.int (3 : Int32)), (.ref b111)])) rfl rfl (hb hby at_109)
      have V127 := Arv.set Ar126 cq126 S126 Nn126 Hh126 Gg126 rfl W127 3 rfl (Nat.le_of_ble_eq_true rfl)
      have V127a : Arv Z h127 b111 k111 .int (8 : Int32) [(.int op), (.int p3), (.int p4), (.int p5), (.int p6), (.int p6), (.int p6), (.int p6)] (.int (0 : Int32)) := V127
      have N127 := Fr.snoc X127 N125 gz_b111
      have g129 : ∀ t, Steps p.tables e below (T127.setTop (mkF m 110 #[.val (.int p1), .val (.int p2), .val (.int p3), .val (.int p4), .val (.int p5), .val (.int p6), .val (.int op), .val (.int (0 : Int32)), .val (.int (4 : Int32)), .val (.ref b111), .unset, .unset] [])) t → Steps p.tables e below (s₁.setTop (entryFrame m #[(.int p1), (.int p2), (.int p3), (.int p4), (.int p5), (.int p6)] maxLocals)) t := by
        intro t k
        refine g110 t ?_
        show Steps p.tables e below (s₁.setTop (mkF m 22 #[.val (.int p1), .val (.int p2), .val (.int p3), .val (.int p4), .val (.int p5), .val (.int p6), .val (.int op), .unset, .unset, .unset, .unset, .unset] [(.int (p1 &&& (1 : Int32)))])) _
        refine XS.ifYes X0.here hx rfl (pc0 := 22) (pc' := 29) rfl (hb hby at_22) rfl ((if0 _ _).trans (teq hc109).1) (by decide) (by decide) ?_
        show Steps p.tables e below (s₁.setTop (mkF m 29 #[.val (.int p1), .val (.int p2), .val (.int p3), .val (.int p4), .val (.int p5), .val (.int p6), .val (.int op), .unset, .unset, .unset, .unset, .unset] [])) _
        refine XS.iconst X0.here hx rfl (hb hby at_29) ?_
        show Steps p.tables e below (s₁.setTop (mkF m 30 #[.val (.int p1), .val (.int p2), .val (.int p3), .val (.int p4), .val (.int p5), .val (.int p6), .val (.int op), .unset, .unset, .unset, .unset, .unset] [(.int (0 : Int32))])) _
        refine XS.istore X0.here hx rfl (hb hby at_30) rfl (l' := #[.val (.int p1), .val (.int p2), .val (.int p3), .val (.int p4), .val (.int p5), .val (.int p6), .val (.int op), .val (.int (0 : Int32)), .unset, .unset, .unset, .unset]) rfl ?_
        show Steps p.tables e below (s₁.setTop (mkF m 32 #[.val (.int p1), .val (.int p2), .val (.int p3), .val (.int p4), .val (.int p5), .val (.int p6), .val (.int op), .val (.int (0 : Int32)), .unset, .unset, .unset, .unset] [])) _
        refine XS.iconst X0.here hx rfl (hb hby at_32) ?_
        show Steps p.tables e below (s₁.setTop (mkF m 33 #[.val (.int p1), .val (.int p2), .val (.int p3), .val (.int p4), .val (.int p5), .val (.int p6), .val (.int op), .val (.int (0 : Int32)), .unset, .unset, .unset, .unset] [(.int (4 : Int32))])) _
        refine XS.iload X0.here hx rfl (hb hby at_33) rfl ?_
        show Steps p.tables e below (s₁.setTop (mkF m 35 #[.val (.int p1), .val (.int p2), .val (.int p3), .val (.int p4), .val (.int p5), .val (.int p6), .val (.int op), .val (.int (0 : Int32)), .unset, .unset, .unset, .unset] [(.int (0 : Int32)), (.int (4 : Int32))])) _
        refine XS.isub X0.here hx rfl (hb hby at_35) rfl ?_
        rw [show ((4 : Int32) - (0 : Int32)) = (4 : Int32) from by decide]
        show Steps p.tables e below (s₁.setTop (mkF m 36 #[.val (.int p1), .val (.int p2), .val (.int p3), .val (.int p4), .val (.int p5), .val (.int p6), .val (.int op), .val (.int (0 : Int32)), .unset, .unset, .unset, .unset] [(.int (4 : Int32))])) _
        refine XS.istore X0.here hx rfl (hb hby at_36) rfl (l' := #[.val (.int p1), .val (.int p2), .val (.int p3), .val (.int p4), .val (.int p5), .val (.int p6), .val (.int op), .val (.int (0 : Int32)), .val (.int (4 : Int32)), .unset, .unset, .unset]) rfl ?_
        show Steps p.tables e below (s₁.setTop (mkF m 38 #[.val (.int p1), .val (.int p2), .val (.int p3), .val (.int p4), .val (.int p5), .val (.int p6), .val (.int op), .val (.int (0 : Int32)), .val (.int (4 : Int32)), .unset, .unset, .unset] [])) _
        refine XS.bipush X0.here hx rfl (hb hby at_38) ?_
        show Steps p.tables e below (s₁.setTop (mkF m 40 #[.val (.int p1), .val (.int p2), .val (.int p3), .val (.int p4), .val (.int p5), .val (.int p6), .val (.int op), .val (.int (0 : Int32)), .val (.int (4 : Int32)), .unset, .unset, .unset] [(.int (8 : Int32))])) _
        refine st111 _ ?_
        show Steps p.tables e below (T111.setTop (mkF m 42 #[.val (.int p1), .val (.int p2), .val (.int p3), .val (.int p4), .val (.int p5), .val (.int p6), .val (.int op), .val (.int (0 : Int32)), .val (.int (4 : Int32)), .unset, .unset, .unset] [(.ref b111)])) _
        refine XS.astore X111.here hx rfl (hb hby at_42) rfl rfl (l' := #[.val (.int p1), .val (.int p2), .val (.int p3), .val (.int p4), .val (.int p5), .val (.int p6), .val (.int op), .val (.int (0 : Int32)), .val (.int (4 : Int32)), .val (.ref b111), .unset, .unset]) rfl ?_
        show Steps p.tables e below (T111.setTop (mkF m 44 #[.val (.int p1), .val (.int p2), .val (.int p3), .val (.int p4), .val (.int p5), .val (.int p6), .val (.int op), .val (.int (0 : Int32)), .val (.int (4 : Int32)), .val (.ref b111), .unset, .unset] [])) _
        refine XS.aload X111.here hx rfl (hb hby at_44) rfl rfl ?_
        show Steps p.tables e below (T111.setTop (mkF m 46 #[.val (.int p1), .val (.int p2), .val (.int p3), .val (.int p4), .val (.int p5), .val (.int p6), .val (.int op), .val (.int (0 : Int32)), .val (.int (4 : Int32)), .val (.ref b111), .unset, .unset] [(.ref b111)])) _
        refine XS.iload X111.here hx rfl (hb hby at_46) rfl ?_
        show Steps p.tables e below (T111.setTop (mkF m 48 #[.val (.int p1), .val (.int p2), .val (.int p3), .val (.int p4), .val (.int p5), .val (.int p6), .val (.int op), .val (.int (0 : Int32)), .val (.int (4 : Int32)), .val (.ref b111), .unset, .unset] [(.int (4 : Int32)), (.ref b111)])) _
        refine XS.iload X111.here hx rfl (hb hby at_48) rfl ?_
        show Steps p.tables e below (T111.setTop (mkF m 50 #[.val (.int p1), .val (.int p2), .val (.int p3), .val (.int p4), .val (.int p5), .val (.int p6), .val (.int op), .val (.int (0 : Int32)), .val (.int (4 : Int32)), .val (.ref b111), .unset, .unset] [(.int p6), (.int (4 : Int32)), (.ref b111)])) _
        refine st113 _ ?_
        show Steps p.tables e below (T113.setTop (mkF m 51 #[.val (.int p1), .val (.int p2), .val (.int p3), .val (.int p4), .val (.int p5), .val (.int p6), .val (.int op), .val (.int (0 : Int32)), .val (.int (4 : Int32)), .val (.ref b111), .unset, .unset] [])) _
        refine XS.aload X113.here hx rfl (hb hby at_51) rfl rfl ?_
        show Steps p.tables e below (T113.setTop (mkF m 53 #[.val (.int p1), .val (.int p2), .val (.int p3), .val (.int p4), .val (.int p5), .val (.int p6), .val (.int op), .val (.int (0 : Int32)), .val (.int (4 : Int32)), .val (.ref b111), .unset, .unset] [(.ref b111)])) _
        refine XS.iload X113.here hx rfl (hb hby at_53) rfl ?_
        show Steps p.tables e below (T113.setTop (mkF m 55 #[.val (.int p1), .val (.int p2), .val (.int p3), .val (.int p4), .val (.int p5), .val (.int p6), .val (.int op), .val (.int (0 : Int32)), .val (.int (4 : Int32)), .val (.ref b111), .unset, .unset] [(.int (4 : Int32)), (.ref b111)])) _
        refine XS.iconst X113.here hx rfl (hb hby at_55) ?_
        show Steps p.tables e below (T113.setTop (mkF m 56 #[.val (.int p1), .val (.int p2), .val (.int p3), .val (.int p4), .val (.int p5), .val (.int p6), .val (.int op), .val (.int (0 : Int32)), .val (.int (4 : Int32)), .val (.ref b111), .unset, .unset] [(.int (1 : Int32)), (.int (4 : Int32)), (.ref b111)])) _
        refine XS.iadd X113.here hx rfl (hb hby at_56) rfl ?_
        rw [show ((4 : Int32) + (1 : Int32)) = (5 : Int32) from by decide]
        show Steps p.tables e below (T113.setTop (mkF m 57 #[.val (.int p1), .val (.int p2), .val (.int p3), .val (.int p4), .val (.int p5), .val (.int p6), .val (.int op), .val (.int (0 : Int32)), .val (.int (4 : Int32)), .val (.ref b111), .unset, .unset] [(.int (5 : Int32)), (.ref b111)])) _
        refine XS.iload X113.here hx rfl (hb hby at_57) rfl ?_
        show Steps p.tables e below (T113.setTop (mkF m 59 #[.val (.int p1), .val (.int p2), .val (.int p3), .val (.int p4), .val (.int p5), .val (.int p6), .val (.int op), .val (.int (0 : Int32)), .val (.int (4 : Int32)), .val (.ref b111), .unset, .unset] [(.int p6), (.int (5 : Int32)), (.ref b111)])) _
        refine st115 _ ?_
        show Steps p.tables e below (T115.setTop (mkF m 60 #[.val (.int p1), .val (.int p2), .val (.int p3), .val (.int p4), .val (.int p5), .val (.int p6), .val (.int op), .val (.int (0 : Int32)), .val (.int (4 : Int32)), .val (.ref b111), .unset, .unset] [])) _
        refine XS.aload X115.here hx rfl (hb hby at_60) rfl rfl ?_
        show Steps p.tables e below (T115.setTop (mkF m 62 #[.val (.int p1), .val (.int p2), .val (.int p3), .val (.int p4), .val (.int p5), .val (.int p6), .val (.int op), .val (.int (0 : Int32)), .val (.int (4 : Int32)), .val (.ref b111), .unset, .unset] [(.ref b111)])) _
        refine XS.iload X115.here hx rfl (hb hby at_62) rfl ?_
        show Steps p.tables e below (T115.setTop (mkF m 64 #[.val (.int p1), .val (.int p2), .val (.int p3), .val (.int p4), .val (.int p5), .val (.int p6), .val (.int op), .val (.int (0 : Int32)), .val (.int (4 : Int32)), .val (.ref b111), .unset, .unset] [(.int (4 : Int32)), (.ref b111)])) _
        refine XS.iconst X115.here hx rfl (hb hby at_64) ?_
        show Steps p.tables e below (T115.setTop (mkF m 65 #[.val (.int p1), .val (.int p2), .val (.int p3), .val (.int p4), .val (.int p5), .val (.int p6), .val (.int op), .val (.int (0 : Int32)), .val (.int (4 : Int32)), .val (.ref b111), .unset, .unset] [(.int (2 : Int32)), (.int (4 : Int32)), (.ref b111)])) _
        refine XS.iadd X115.here hx rfl (hb hby at_65) rfl ?_
        rw [show ((4 : Int32) + (2 : Int32)) = (6 : Int32) from by decide]
        show Steps p.tables e below (T115.setTop (mkF m 66 #[.val (.int p1), .val (.int p2), .val (.int p3), .val (.int p4), .val (.int p5), .val (.int p6), .val (.int op), .val (.int (0 : Int32)), .val (.int (4 : Int32)), .val (.ref b111), .unset, .unset] [(.int (6 : Int32)), (.ref b111)])) _
        refine XS.iload X115.here hx rfl (hb hby at_66) rfl ?_
        show Steps p.tables e below (T115.setTop (mkF m 68 #[.val (.int p1), .val (.int p2), .val (.int p3), .val (.int p4), .val (.int p5), .val (.int p6), .val (.int op), .val (.int (0 : Int32)), .val (.int (4 : Int32)), .val (.ref b111), .unset, .unset] [(.int p6), (.int (6 : Int32)), (.ref b111)])) _
        refine st117 _ ?_
        show Steps p.tables e below (T117.setTop (mkF m 69 #[.val (.int p1), .val (.int p2), .val (.int p3), .val (.int p4), .val (.int p5), .val (.int p6), .val (.int op), .val (.int (0 : Int32)), .val (.int (4 : Int32)), .val (.ref b111), .unset, .unset] [])) _
        refine XS.aload X117.here hx rfl (hb hby at_69) rfl rfl ?_
        show Steps p.tables e below (T117.setTop (mkF m 71 #[.val (.int p1), .val (.int p2), .val (.int p3), .val (.int p4), .val (.int p5), .val (.int p6), .val (.int op), .val (.int (0 : Int32)), .val (.int (4 : Int32)), .val (.ref b111), .unset, .unset] [(.ref b111)])) _
        refine XS.iload X117.here hx rfl (hb hby at_71) rfl ?_
        show Steps p.tables e below (T117.setTop (mkF m 73 #[.val (.int p1), .val (.int p2), .val (.int p3), .val (.int p4), .val (.int p5), .val (.int p6), .val (.int op), .val (.int (0 : Int32)), .val (.int (4 : Int32)), .val (.ref b111), .unset, .unset] [(.int (4 : Int32)), (.ref b111)])) _
        refine XS.iconst X117.here hx rfl (hb hby at_73) ?_
        show Steps p.tables e below (T117.setTop (mkF m 74 #[.val (.int p1), .val (.int p2), .val (.int p3), .val (.int p4), .val (.int p5), .val (.int p6), .val (.int op), .val (.int (0 : Int32)), .val (.int (4 : Int32)), .val (.ref b111), .unset, .unset] [(.int (3 : Int32)), (.int (4 : Int32)), (.ref b111)])) _
        refine XS.iadd X117.here hx rfl (hb hby at_74) rfl ?_
        rw [show ((4 : Int32) + (3 : Int32)) = (7 : Int32) from by decide]
        show Steps p.tables e below (T117.setTop (mkF m 75 #[.val (.int p1), .val (.int p2), .val (.int p3), .val (.int p4), .val (.int p5), .val (.int p6), .val (.int op), .val (.int (0 : Int32)), .val (.int (4 : Int32)), .val (.ref b111), .unset, .unset] [(.int (7 : Int32)), (.ref b111)])) _
        refine XS.iload X117.here hx rfl (hb hby at_75) rfl ?_
        show Steps p.tables e below (T117.setTop (mkF m 77 #[.val (.int p1), .val (.int p2), .val (.int p3), .val (.int p4), .val (.int p5), .val (.int p6), .val (.int op), .val (.int (0 : Int32)), .val (.int (4 : Int32)), .val (.ref b111), .unset, .unset] [(.int p6), (.int (7 : Int32)), (.ref b111)])) _
        refine st119 _ ?_
        show Steps p.tables e below (T119.setTop (mkF m 78 #[.val (.int p1), .val (.int p2), .val (.int p3), .val (.int p4), .val (.int p5), .val (.int p6), .val (.int op), .val (.int (0 : Int32)), .val (.int (4 : Int32)), .val (.ref b111), .unset, .unset] [])) _
        refine XS.aload X119.here hx rfl (hb hby at_78) rfl rfl ?_
        show Steps p.tables e below (T119.setTop (mkF m 80 #[.val (.int p1), .val (.int p2), .val (.int p3), .val (.int p4), .val (.int p5), .val (.int p6), .val (.int op), .val (.int (0 : Int32)), .val (.int (4 : Int32)), .val (.ref b111), .unset, .unset] [(.ref b111)])) _
        refine XS.iload X119.here hx rfl (hb hby at_80) rfl ?_
        show Steps p.tables e below (T119.setTop (mkF m 82 #[.val (.int p1), .val (.int p2), .val (.int p3), .val (.int p4), .val (.int p5), .val (.int p6), .val (.int op), .val (.int (0 : Int32)), .val (.int (4 : Int32)), .val (.ref b111), .unset, .unset] [(.int (0 : Int32)), (.ref b111)])) _
        refine XS.iload X119.here hx rfl (hb hby at_82) rfl ?_
        show Steps p.tables e below (T119.setTop (mkF m 84 #[.val (.int p1), .val (.int p2), .val (.int p3), .val (.int p4), .val (.int p5), .val (.int p6), .val (.int op), .val (.int (0 : Int32)), .val (.int (4 : Int32)), .val (.ref b111), .unset, .unset] [(.int op), (.int (0 : Int32)), (.ref b111)])) _
        refine st121 _ ?_
        show Steps p.tables e below (T121.setTop (mkF m 85 #[.val (.int p1), .val (.int p2), .val (.int p3), .val (.int p4), .val (.int p5), .val (.int p6), .val (.int op), .val (.int (0 : Int32)), .val (.int (4 : Int32)), .val (.ref b111), .unset, .unset] [])) _
        refine XS.aload X121.here hx rfl (hb hby at_85) rfl rfl ?_
        show Steps p.tables e below (T121.setTop (mkF m 87 #[.val (.int p1), .val (.int p2), .val (.int p3), .val (.int p4), .val (.int p5), .val (.int p6), .val (.int op), .val (.int (0 : Int32)), .val (.int (4 : Int32)), .val (.ref b111), .unset, .unset] [(.ref b111)])) _
        refine XS.iload X121.here hx rfl (hb hby at_87) rfl ?_
        show Steps p.tables e below (T121.setTop (mkF m 89 #[.val (.int p1), .val (.int p2), .val (.int p3), .val (.int p4), .val (.int p5), .val (.int p6), .val (.int op), .val (.int (0 : Int32)), .val (.int (4 : Int32)), .val (.ref b111), .unset, .unset] [(.int (0 : Int32)), (.ref b111)])) _
        refine XS.iconst X121.here hx rfl (hb hby at_89) ?_
        show Steps p.tables e below (T121.setTop (mkF m 90 #[.val (.int p1), .val (.int p2), .val (.int p3), .val (.int p4), .val (.int p5), .val (.int p6), .val (.int op), .val (.int (0 : Int32)), .val (.int (4 : Int32)), .val (.ref b111), .unset, .unset] [(.int (1 : Int32)), (.int (0 : Int32)), (.ref b111)])) _
        refine XS.iadd X121.here hx rfl (hb hby at_90) rfl ?_
        rw [show ((0 : Int32) + (1 : Int32)) = (1 : Int32) from by decide]
        show Steps p.tables e below (T121.setTop (mkF m 91 #[.val (.int p1), .val (.int p2), .val (.int p3), .val (.int p4), .val (.int p5), .val (.int p6), .val (.int op), .val (.int (0 : Int32)), .val (.int (4 : Int32)), .val (.ref b111), .unset, .unset] [(.int (1 : Int32)), (.ref b111)])) _
        refine XS.iloadN X121.here hx rfl (hb hby at_91) rfl ?_
        show Steps p.tables e below (T121.setTop (mkF m 92 #[.val (.int p1), .val (.int p2), .val (.int p3), .val (.int p4), .val (.int p5), .val (.int p6), .val (.int op), .val (.int (0 : Int32)), .val (.int (4 : Int32)), .val (.ref b111), .unset, .unset] [(.int p3), (.int (1 : Int32)), (.ref b111)])) _
        refine st123 _ ?_
        show Steps p.tables e below (T123.setTop (mkF m 93 #[.val (.int p1), .val (.int p2), .val (.int p3), .val (.int p4), .val (.int p5), .val (.int p6), .val (.int op), .val (.int (0 : Int32)), .val (.int (4 : Int32)), .val (.ref b111), .unset, .unset] [])) _
        refine XS.aload X123.here hx rfl (hb hby at_93) rfl rfl ?_
        show Steps p.tables e below (T123.setTop (mkF m 95 #[.val (.int p1), .val (.int p2), .val (.int p3), .val (.int p4), .val (.int p5), .val (.int p6), .val (.int op), .val (.int (0 : Int32)), .val (.int (4 : Int32)), .val (.ref b111), .unset, .unset] [(.ref b111)])) _
        refine XS.iload X123.here hx rfl (hb hby at_95) rfl ?_
        show Steps p.tables e below (T123.setTop (mkF m 97 #[.val (.int p1), .val (.int p2), .val (.int p3), .val (.int p4), .val (.int p5), .val (.int p6), .val (.int op), .val (.int (0 : Int32)), .val (.int (4 : Int32)), .val (.ref b111), .unset, .unset] [(.int (0 : Int32)), (.ref b111)])) _
        refine XS.iconst X123.here hx rfl (hb hby at_97) ?_
        show Steps p.tables e below (T123.setTop (mkF m 98 #[.val (.int p1), .val (.int p2), .val (.int p3), .val (.int p4), .val (.int p5), .val (.int p6), .val (.int op), .val (.int (0 : Int32)), .val (.int (4 : Int32)), .val (.ref b111), .unset, .unset] [(.int (2 : Int32)), (.int (0 : Int32)), (.ref b111)])) _
        refine XS.iadd X123.here hx rfl (hb hby at_98) rfl ?_
        rw [show ((0 : Int32) + (2 : Int32)) = (2 : Int32) from by decide]
        show Steps p.tables e below (T123.setTop (mkF m 99 #[.val (.int p1), .val (.int p2), .val (.int p3), .val (.int p4), .val (.int p5), .val (.int p6), .val (.int op), .val (.int (0 : Int32)), .val (.int (4 : Int32)), .val (.ref b111), .unset, .unset] [(.int (2 : Int32)), (.ref b111)])) _
        refine XS.iloadN X123.here hx rfl (hb hby at_99) rfl ?_
        show Steps p.tables e below (T123.setTop (mkF m 100 #[.val (.int p1), .val (.int p2), .val (.int p3), .val (.int p4), .val (.int p5), .val (.int p6), .val (.int op), .val (.int (0 : Int32)), .val (.int (4 : Int32)), .val (.ref b111), .unset, .unset] [(.int p4), (.int (2 : Int32)), (.ref b111)])) _
        refine st125 _ ?_
        show Steps p.tables e below (T125.setTop (mkF m 101 #[.val (.int p1), .val (.int p2), .val (.int p3), .val (.int p4), .val (.int p5), .val (.int p6), .val (.int op), .val (.int (0 : Int32)), .val (.int (4 : Int32)), .val (.ref b111), .unset, .unset] [])) _
        refine XS.aload X125.here hx rfl (hb hby at_101) rfl rfl ?_
        show Steps p.tables e below (T125.setTop (mkF m 103 #[.val (.int p1), .val (.int p2), .val (.int p3), .val (.int p4), .val (.int p5), .val (.int p6), .val (.int op), .val (.int (0 : Int32)), .val (.int (4 : Int32)), .val (.ref b111), .unset, .unset] [(.ref b111)])) _
        refine XS.iload X125.here hx rfl (hb hby at_103) rfl ?_
        show Steps p.tables e below (T125.setTop (mkF m 105 #[.val (.int p1), .val (.int p2), .val (.int p3), .val (.int p4), .val (.int p5), .val (.int p6), .val (.int op), .val (.int (0 : Int32)), .val (.int (4 : Int32)), .val (.ref b111), .unset, .unset] [(.int (0 : Int32)), (.ref b111)])) _
        refine XS.iconst X125.here hx rfl (hb hby at_105) ?_
        show Steps p.tables e below (T125.setTop (mkF m 106 #[.val (.int p1), .val (.int p2), .val (.int p3), .val (.int p4), .val (.int p5), .val (.int p6), .val (.int op), .val (.int (0 : Int32)), .val (.int (4 : Int32)), .val (.ref b111), .unset, .unset] [(.int (3 : Int32)), (.int (0 : Int32)), (.ref b111)])) _
        refine XS.iadd X125.here hx rfl (hb hby at_106) rfl ?_
        rw [show ((0 : Int32) + (3 : Int32)) = (3 : Int32) from by decide]
        show Steps p.tables e below (T125.setTop (mkF m 107 #[.val (.int p1), .val (.int p2), .val (.int p3), .val (.int p4), .val (.int p5), .val (.int p6), .val (.int op), .val (.int (0 : Int32)), .val (.int (4 : Int32)), .val (.ref b111), .unset, .unset] [(.int (3 : Int32)), (.ref b111)])) _
        refine XS.iload X125.here hx rfl (hb hby at_107) rfl ?_
        show Steps p.tables e below (T125.setTop (mkF m 109 #[.val (.int p1), .val (.int p2), .val (.int p3), .val (.int p4), .val (.int p5), .val (.int p6), .val (.int op), .val (.int (0 : Int32)), .val (.int (4 : Int32)), .val (.ref b111), .unset, .unset] [(.int p5), (.int (3 : Int32)), (.ref b111)])) _
        refine st127 _ ?_
        exact k
      by_cases hc128 : op < (12 : Int32)
      · have o130 : Old Z n0 h127 := (Old.wr (Old.wr (Old.wr (Old.wr (Old.wr (Old.wr (Old.wr (Old.wr (Old.ext O0 E111) W113 gz_b111) W115 gz_b111) W117 gz_b111) W119 gz_b111) W121 gz_b111) W123 gz_b111) W125 gz_b111) W127 gz_b111)
        obtain ⟨_, _, ⟨T131, L131, k131, n131⟩, -, X131, ⟨Lc131, hQ131, l131, y131, z131⟩, st131⟩ := Jvm.LawKit.callS X127 hx (y := (⟨"com/example/chalkline/chalkline/runtime/MachineCodeTargetPinLaw", "targetOperand", "(I)I"⟩ : MethodName)) hown (mvT hZ (hw _ (List.mem_of_getElem? (i := 1) rfl))) (mvT hZ (hw _ (List.mem_of_getElem? (i := 2) rfl))) (mvT hZ (hw _ (List.mem_of_getElem? (i := 3) rfl))) (mvT hZ (hw _ (List.mem_of_getElem? (i := 4) rfl))) (by decide) (backOf (W := 0) (rmOp l Z a0 hw [] op (0 : Int32) h127 n0 o130 (by rw [if_pos hc128])) hZ (hw _ (List.mem_of_getElem? (i := 4) rfl)) (hw _ (List.mem_of_getElem? (i := 3) rfl)) (by decide) (by decide)) (g := (mkF m 112 #[.val (.int p1), .val (.int p2), .val (.int p3), .val (.int p4), .val (.int p5), .val (.int p6), .val (.int op), .val (.int (0 : Int32)), .val (.int (4 : Int32)), .val (.ref b111), .unset, .unset] [(.int op)])) rfl (by rw [hml]; rfl) (argsL := [(.int op)]) (rest := []) (lenOf own_pd0 rfl) rfl (by show 2 * 0 + _ ≤ _; exact Nat.le_of_eq rfl) (hb hby at_112) (fun _ _ => ⟨rfl, e127, (by decide : 1 + 0 ≤ _), (by decide : 8 + 0 ≤ _)⟩)
        dsimp only [Pt.U, Pt.locs, Pt.cells, Pt.slots] at X131 l131 y131 z131 st131 hQ131
        subst l131 y131 z131
        obtain ⟨rfl, Nq131, e131⟩ := hQ131
        have N131 := Fr.app N127 Nq131
        obtain ⟨_, _, ⟨T132, L132, k132, n132⟩, -, X132, ⟨Lc132, hQ132, l132, y132, z132⟩, st132⟩ := Jvm.LawKit.callS X131 hx (y := (⟨"com/example/chalkline/chalkline/runtime/MachineCode", "target", "([II)I"⟩ : MethodName)) hown (mvT hZ (hw _ (List.mem_of_getElem? (i := 5) rfl))) (mvT hZ (hw _ (List.mem_of_getElem? (i := 6) rfl))) (mvT hZ (hw _ (List.mem_of_getElem? (i := 7) rfl))) (mvT hZ (hw _ (List.mem_of_getElem? (i := 8) rfl))) (by decide) (backOf (W := 0) (rmT0 l Z a0 hw [] b111 k111 op p3 p4 p5 p6 p6 p6 p6 (-1 : Int32) h127 n0 o130 V127a (by rw [if_neg (fun q => by rw [q] at hc128; exact absurd hc128 (by decide)), if_neg (fun q => by rw [q] at hc128; exact absurd hc128 (by decide)), if_neg (fun q => by rw [q] at hc128; exact absurd hc128 (by decide)), if_pos hc128])) hZ (hw _ (List.mem_of_getElem? (i := 8) rfl)) (hw _ (List.mem_of_getElem? (i := 7) rfl)) (by decide) (by decide)) (g := (mkF m 155 #[.val (.int p1), .val (.int p2), .val (.int p3), .val (.int p4), .val (.int p5), .val (.int p6), .val (.int op), .val (.int (0 : Int32)), .val (.int (4 : Int32)), .val (.ref b111), .val (.int (0 : Int32)), .val (.int (-1 : Int32))] [(.int (0 : Int32)), (.ref b111)])) rfl (by rw [hml]; rfl) (argsL := [(.ref b111), (.int (0 : Int32))]) (rest := []) (lenOf own_pd1 rfl) rfl (by show 2 * 0 + _ ≤ _; exact Nat.le_of_eq rfl) (hb hby at_155) (fun _ _ => ⟨rfl, e131, (by decide : 1 + 0 ≤ _), (by decide : 8 + 0 ≤ _)⟩)
        dsimp only [Pt.U, Pt.locs, Pt.cells, Pt.slots] at X132 l132 y132 z132 st132 hQ132
        subst l132 y132 z132
        obtain ⟨rfl, Nq132, e132⟩ := hQ132
        have N132 := Fr.app N131 Nq132
        have g133 : ∀ t, Steps p.tables e below (T132.setTop (mkF m 168 #[.val (.int p1), .val (.int p2), .val (.int p3), .val (.int p4), .val (.int p5), .val (.int p6), .val (.int op), .val (.int (0 : Int32)), .val (.int (4 : Int32)), .val (.ref b111), .val (.int (0 : Int32)), .val (.int (-1 : Int32))] [(.int (1 : Int32))])) t → Steps p.tables e below (s₁.setTop (entryFrame m #[(.int p1), (.int p2), (.int p3), (.int p4), (.int p5), (.int p6)] maxLocals)) t := by
          intro t k
          refine g129 t ?_
          show Steps p.tables e below (T127.setTop (mkF m 110 #[.val (.int p1), .val (.int p2), .val (.int p3), .val (.int p4), .val (.int p5), .val (.int p6), .val (.int op), .val (.int (0 : Int32)), .val (.int (4 : Int32)), .val (.ref b111), .unset, .unset] [])) _
          refine XS.iload X127.here hx rfl (hb hby at_110) rfl ?_
          show Steps p.tables e below (T127.setTop (mkF m 112 #[.val (.int p1), .val (.int p2), .val (.int p3), .val (.int p4), .val (.int p5), .val (.int p6), .val (.int op), .val (.int (0 : Int32)), .val (.int (4 : Int32)), .val (.ref b111), .unset, .unset] [(.int op)])) _
          refine st131 _ ?_
          show Steps p.tables e below (T131.setTop (mkF m 115 #[.val (.int p1), .val (.int p2), .val (.int p3), .val (.int p4), .val (.int p5), .val (.int p6), .val (.int op), .val (.int (0 : Int32)), .val (.int (4 : Int32)), .val (.ref b111), .unset, .unset] [(.int (0 : Int32))])) _
          refine XS.istore X131.here hx rfl (hb hby at_115) rfl (l' := #[.val (.int p1), .val (.int p2), .val (.int p3), .val (.int p4), .val (.int p5), .val (.int p6), .val (.int op), .val (.int (0 : Int32)), .val (.int (4 : Int32)), .val (.ref b111), .val (.int (0 : Int32)), .unset]) rfl ?_
          show Steps p.tables e below (T131.setTop (mkF m 117 #[.val (.int p1), .val (.int p2), .val (.int p3), .val (.int p4), .val (.int p5), .val (.int p6), .val (.int op), .val (.int (0 : Int32)), .val (.int (4 : Int32)), .val (.ref b111), .val (.int (0 : Int32)), .unset] [])) _
          refine XS.iload X131.here hx rfl (hb hby at_117) rfl ?_
          show Steps p.tables e below (T131.setTop (mkF m 119 #[.val (.int p1), .val (.int p2), .val (.int p3), .val (.int p4), .val (.int p5), .val (.int p6), .val (.int op), .val (.int (0 : Int32)), .val (.int (4 : Int32)), .val (.ref b111), .val (.int (0 : Int32)), .unset] [(.int (0 : Int32))])) _
          refine XS.iconst X131.here hx rfl (hb hby at_119) ?_
          show Steps p.tables e below (T131.setTop (mkF m 120 #[.val (.int p1), .val (.int p2), .val (.int p3), .val (.int p4), .val (.int p5), .val (.int p6), .val (.int op), .val (.int (0 : Int32)), .val (.int (4 : Int32)), .val (.ref b111), .val (.int (0 : Int32)), .unset] [(.int (1 : Int32)), (.int (0 : Int32))])) _
          refine XS.icmpYes X131.here hx rfl (pc0 := 120) (pc' := 127) rfl (hb hby at_120) rfl (feq (by decide : ¬ ((0 : Int32) = (1 : Int32)))).2 (by decide) (by decide) ?_
          show Steps p.tables e below (T131.setTop (mkF m 127 #[.val (.int p1), .val (.int p2), .val (.int p3), .val (.int p4), .val (.int p5), .val (.int p6), .val (.int op), .val (.int (0 : Int32)), .val (.int (4 : Int32)), .val (.ref b111), .val (.int (0 : Int32)), .unset] [])) _
          refine XS.iload X131.here hx rfl (hb hby at_127) rfl ?_
          show Steps p.tables e below (T131.setTop (mkF m 129 #[.val (.int p1), .val (.int p2), .val (.int p3), .val (.int p4), .val (.int p5), .val (.int p6), .val (.int op), .val (.int (0 : Int32)), .val (.int (4 : Int32)), .val (.ref b111), .val (.int (0 : Int32)), .unset] [(.int (0 : Int32))])) _
          refine XS.iconst X131.here hx rfl (hb hby at_129) ?_
          show Steps p.tables e below (T131.setTop (mkF m 130 #[.val (.int p1), .val (.int p2), .val (.int p3), .val (.int p4), .val (.int p5), .val (.int p6), .val (.int op), .val (.int (0 : Int32)), .val (.int (4 : Int32)), .val (.ref b111), .val (.int (0 : Int32)), .unset] [(.int (2 : Int32)), (.int (0 : Int32))])) _
          refine XS.icmpYes X131.here hx rfl (pc0 := 130) (pc' := 137) rfl (hb hby at_130) rfl (feq (by decide : ¬ ((0 : Int32) = (2 : Int32)))).2 (by decide) (by decide) ?_
          show Steps p.tables e below (T131.setTop (mkF m 137 #[.val (.int p1), .val (.int p2), .val (.int p3), .val (.int p4), .val (.int p5), .val (.int p6), .val (.int op), .val (.int (0 : Int32)), .val (.int (4 : Int32)), .val (.ref b111), .val (.int (0 : Int32)), .unset] [])) _
          refine XS.iload X131.here hx rfl (hb hby at_137) rfl ?_
          show Steps p.tables e below (T131.setTop (mkF m 139 #[.val (.int p1), .val (.int p2), .val (.int p3), .val (.int p4), .val (.int p5), .val (.int p6), .val (.int op), .val (.int (0 : Int32)), .val (.int (4 : Int32)), .val (.ref b111), .val (.int (0 : Int32)), .unset] [(.int (0 : Int32))])) _
          refine XS.iconst X131.here hx rfl (hb hby at_139) ?_
          show Steps p.tables e below (T131.setTop (mkF m 140 #[.val (.int p1), .val (.int p2), .val (.int p3), .val (.int p4), .val (.int p5), .val (.int p6), .val (.int op), .val (.int (0 : Int32)), .val (.int (4 : Int32)), .val (.ref b111), .val (.int (0 : Int32)), .unset] [(.int (3 : Int32)), (.int (0 : Int32))])) _
          refine XS.icmpYes X131.here hx rfl (pc0 := 140) (pc' := 148) rfl (hb hby at_140) rfl (feq (by decide : ¬ ((0 : Int32) = (3 : Int32)))).2 (by decide) (by decide) ?_
          show Steps p.tables e below (T131.setTop (mkF m 148 #[.val (.int p1), .val (.int p2), .val (.int p3), .val (.int p4), .val (.int p5), .val (.int p6), .val (.int op), .val (.int (0 : Int32)), .val (.int (4 : Int32)), .val (.ref b111), .val (.int (0 : Int32)), .unset] [])) _
          refine XS.iconst X131.here hx rfl (hb hby at_148) ?_
          show Steps p.tables e below (T131.setTop (mkF m 149 #[.val (.int p1), .val (.int p2), .val (.int p3), .val (.int p4), .val (.int p5), .val (.int p6), .val (.int op), .val (.int (0 : Int32)), .val (.int (4 : Int32)), .val (.ref b111), .val (.int (0 : Int32)), .unset] [(.int (-1 : Int32))])) _
          refine XS.istore X131.here hx rfl (hb hby at_149) rfl (l' := #[.val (.int p1), .val (.int p2), .val (.int p3), .val (.int p4), .val (.int p5), .val (.int p6), .val (.int op), .val (.int (0 : Int32)), .val (.int (4 : Int32)), .val (.ref b111), .val (.int (0 : Int32)), .val (.int (-1 : Int32))]) rfl ?_
          show Steps p.tables e below (T131.setTop (mkF m 151 #[.val (.int p1), .val (.int p2), .val (.int p3), .val (.int p4), .val (.int p5), .val (.int p6), .val (.int op), .val (.int (0 : Int32)), .val (.int (4 : Int32)), .val (.ref b111), .val (.int (0 : Int32)), .val (.int (-1 : Int32))] [])) _
          refine XS.aload X131.here hx rfl (hb hby at_151) rfl rfl ?_
          show Steps p.tables e below (T131.setTop (mkF m 153 #[.val (.int p1), .val (.int p2), .val (.int p3), .val (.int p4), .val (.int p5), .val (.int p6), .val (.int op), .val (.int (0 : Int32)), .val (.int (4 : Int32)), .val (.ref b111), .val (.int (0 : Int32)), .val (.int (-1 : Int32))] [(.ref b111)])) _
          refine XS.iload X131.here hx rfl (hb hby at_153) rfl ?_
          show Steps p.tables e below (T131.setTop (mkF m 155 #[.val (.int p1), .val (.int p2), .val (.int p3), .val (.int p4), .val (.int p5), .val (.int p6), .val (.int op), .val (.int (0 : Int32)), .val (.int (4 : Int32)), .val (.ref b111), .val (.int (0 : Int32)), .val (.int (-1 : Int32))] [(.int (0 : Int32)), (.ref b111)])) _
          refine st132 _ ?_
          show Steps p.tables e below (T132.setTop (mkF m 158 #[.val (.int p1), .val (.int p2), .val (.int p3), .val (.int p4), .val (.int p5), .val (.int p6), .val (.int op), .val (.int (0 : Int32)), .val (.int (4 : Int32)), .val (.ref b111), .val (.int (0 : Int32)), .val (.int (-1 : Int32))] [(.int (-1 : Int32))])) _
          refine XS.iload X132.here hx rfl (hb hby at_158) rfl ?_
          show Steps p.tables e below (T132.setTop (mkF m 160 #[.val (.int p1), .val (.int p2), .val (.int p3), .val (.int p4), .val (.int p5), .val (.int p6), .val (.int op), .val (.int (0 : Int32)), .val (.int (4 : Int32)), .val (.ref b111), .val (.int (0 : Int32)), .val (.int (-1 : Int32))] [(.int (-1 : Int32)), (.int (-1 : Int32))])) _
          refine XS.icmpNo X132.here hx rfl (hb hby at_160) rfl (teq (by decide : (-1 : Int32) = (-1 : Int32))).2 ?_
          show Steps p.tables e below (T132.setTop (mkF m 163 #[.val (.int p1), .val (.int p2), .val (.int p3), .val (.int p4), .val (.int p5), .val (.int p6), .val (.int op), .val (.int (0 : Int32)), .val (.int (4 : Int32)), .val (.ref b111), .val (.int (0 : Int32)), .val (.int (-1 : Int32))] [])) _
          refine XS.iconst X132.here hx rfl (hb hby at_163) ?_
          show Steps p.tables e below (T132.setTop (mkF m 164 #[.val (.int p1), .val (.int p2), .val (.int p3), .val (.int p4), .val (.int p5), .val (.int p6), .val (.int op), .val (.int (0 : Int32)), .val (.int (4 : Int32)), .val (.ref b111), .val (.int (0 : Int32)), .val (.int (-1 : Int32))] [(.int (1 : Int32))])) _
          refine XS.goto X132.here hx rfl (pc0 := 164) (pc' := 168) rfl (hb hby at_164) (by decide) (by decide) ?_
          exact k
        obtain ⟨fs, hrt, hrun, hended, hW, hsame⟩ := X132.leave (v := some (.int (1 : Int32))) (fun h => by rw [Bd.returns] at h; cases h)
        refine ⟨_, _, g133 _ ?_, hrun, hended, _, _, rfl, ?_, ⟨_, rfl⟩, hW, hsame.mono (by decide) (by decide)⟩
        · show Steps p.tables e below (T132.setTop (mkF m 168 #[.val (.int p1), .val (.int p2), .val (.int p3), .val (.int p4), .val (.int p5), .val (.int p6), .val (.int op), .val (.int (0 : Int32)), .val (.int (4 : Int32)), .val (.ref b111), .val (.int (0 : Int32)), .val (.int (-1 : Int32))] [(.int (1 : Int32))])) _
          exact retN X132 hx (t := .boolean) Bd.returns (by simp) (hb hby at_168) hrt
        · show own_Q_rm0 Z p1 p2 p3 p4 p5 p6 h0 n0 _ T132.heap _
          rw [e132]
          exact ⟨rfl, N132⟩
      · by_cases hc134 : (21 : Int32) < op
        · by_cases hc135 : op = (27 : Int32)
          · have o136 : Old Z n0 h127 := (Old.wr (Old.wr (Old.wr (Old.wr (Old.wr (Old.wr (Old.wr (Old.wr (Old.ext O0 E111) W113 gz_b111) W115 gz_b111) W117 gz_b111) W119 gz_b111) W121 gz_b111) W123 gz_b111) W125 gz_b111) W127 gz_b111)
            obtain ⟨_, _, ⟨T137, L137, k137, n137⟩, -, X137, ⟨Lc137, hQ137, l137, y137, z137⟩, st137⟩ := Jvm.LawKit.callS X127 hx (y := (⟨"com/example/chalkline/chalkline/runtime/MachineCodeTargetPinLaw", "targetOperand", "(I)I"⟩ : MethodName)) hown (mvT hZ (hw _ (List.mem_of_getElem? (i := 1) rfl))) (mvT hZ (hw _ (List.mem_of_getElem? (i := 2) rfl))) (mvT hZ (hw _ (List.mem_of_getElem? (i := 3) rfl))) (mvT hZ (hw _ (List.mem_of_getElem? (i := 4) rfl))) (by decide) (backOf (W := 0) (rmOp l Z a0 hw [] op (1 : Int32) h127 n0 o136 (by rw [if_neg hc128, if_pos hc134, if_pos hc135])) hZ (hw _ (List.mem_of_getElem? (i := 4) rfl)) (hw _ (List.mem_of_getElem? (i := 3) rfl)) (by decide) (by decide)) (g := (mkF m 112 #[.val (.int p1), .val (.int p2), .val (.int p3), .val (.int p4), .val (.int p5), .val (.int p6), .val (.int op), .val (.int (0 : Int32)), .val (.int (4 : Int32)), .val (.ref b111), .unset, .unset] [(.int op)])) rfl (by rw [hml]; rfl) (argsL := [(.int op)]) (rest := []) (lenOf own_pd0 rfl) rfl (by show 2 * 0 + _ ≤ _; exact Nat.le_of_eq rfl) (hb hby at_112) (fun _ _ => ⟨rfl, e127, (by decide : 1 + 0 ≤ _), (by decide : 8 + 0 ≤ _)⟩)
            dsimp only [Pt.U, Pt.locs, Pt.cells, Pt.slots] at X137 l137 y137 z137 st137 hQ137
            subst l137 y137 z137
            obtain ⟨rfl, Nq137, e137⟩ := hQ137
            have N137 := Fr.app N127 Nq137
            obtain ⟨_, _, ⟨T138, L138, k138, n138⟩, -, X138, ⟨Lc138, hQ138, l138, y138, z138⟩, st138⟩ := Jvm.LawKit.callS X137 hx (y := (⟨"com/example/chalkline/chalkline/runtime/MachineCode", "target", "([II)I"⟩ : MethodName)) hown (mvT hZ (hw _ (List.mem_of_getElem? (i := 5) rfl))) (mvT hZ (hw _ (List.mem_of_getElem? (i := 6) rfl))) (mvT hZ (hw _ (List.mem_of_getElem? (i := 7) rfl))) (mvT hZ (hw _ (List.mem_of_getElem? (i := 8) rfl))) (by decide) (backOf (W := 0) (rmT0 l Z a0 hw [] b111 k111 op p3 p4 p5 p6 p6 p6 p6 p3 h127 n0 o136 V127a (by rw [if_pos hc135])) hZ (hw _ (List.mem_of_getElem? (i := 8) rfl)) (hw _ (List.mem_of_getElem? (i := 7) rfl)) (by decide) (by decide)) (g := (mkF m 155 #[.val (.int p1), .val (.int p2), .val (.int p3), .val (.int p4), .val (.int p5), .val (.int p6), .val (.int op), .val (.int (0 : Int32)), .val (.int (4 : Int32)), .val (.ref b111), .val (.int (1 : Int32)), .val (.int p3)] [(.int (0 : Int32)), (.ref b111)])) rfl (by rw [hml]; rfl) (argsL := [(.ref b111), (.int (0 : Int32))]) (rest := []) (lenOf own_pd1 rfl) rfl (by show 2 * 0 + _ ≤ _; exact Nat.le_of_eq rfl) (hb hby at_155) (fun _ _ => ⟨rfl, e137, (by decide : 1 + 0 ≤ _), (by decide : 8 + 0 ≤ _)⟩)
            dsimp only [Pt.U, Pt.locs, Pt.cells, Pt.slots] at X138 l138 y138 z138 st138 hQ138
            subst l138 y138 z138
            obtain ⟨rfl, Nq138, e138⟩ := hQ138
            have N138 := Fr.app N137 Nq138
            have hc139 : p3 = p3 := rfl
            have g140 : ∀ t, Steps p.tables e below (T138.setTop (mkF m 168 #[.val (.int p1), .val (.int p2), .val (.int p3), .val (.int p4), .val (.int p5), .val (.int p6), .val (.int op), .val (.int (0 : Int32)), .val (.int (4 : Int32)), .val (.ref b111), .val (.int (1 : Int32)), .val (.int p3)] [(.int (1 : Int32))])) t → Steps p.tables e below (s₁.setTop (entryFrame m #[(.int p1), (.int p2), (.int p3), (.int p4), (.int p5), (.int p6)] maxLocals)) t := by
              intro t k
              refine g129 t ?_
              show Steps p.tables e below (T127.setTop (mkF m 110 #[.val (.int p1), .val (.int p2), .val (.int p3), .val (.int p4), .val (.int p5), .val (.int p6), .val (.int op), .val (.int (0 : Int32)), .val (.int (4 : Int32)), .val (.ref b111), .unset, .unset] [])) _
              refine XS.iload X127.here hx rfl (hb hby at_110) rfl ?_
              show Steps p.tables e below (T127.setTop (mkF m 112 #[.val (.int p1), .val (.int p2), .val (.int p3), .val (.int p4), .val (.int p5), .val (.int p6), .val (.int op), .val (.int (0 : Int32)), .val (.int (4 : Int32)), .val (.ref b111), .unset, .unset] [(.int op)])) _
              refine st137 _ ?_
              show Steps p.tables e below (T137.setTop (mkF m 115 #[.val (.int p1), .val (.int p2), .val (.int p3), .val (.int p4), .val (.int p5), .val (.int p6), .val (.int op), .val (.int (0 : Int32)), .val (.int (4 : Int32)), .val (.ref b111), .unset, .unset] [(.int (1 : Int32))])) _
              refine XS.istore X137.here hx rfl (hb hby at_115) rfl (l' := #[.val (.int p1), .val (.int p2), .val (.int p3), .val (.int p4), .val (.int p5), .val (.int p6), .val (.int op), .val (.int (0 : Int32)), .val (.int (4 : Int32)), .val (.ref b111), .val (.int (1 : Int32)), .unset]) rfl ?_
              show Steps p.tables e below (T137.setTop (mkF m 117 #[.val (.int p1), .val (.int p2), .val (.int p3), .val (.int p4), .val (.int p5), .val (.int p6), .val (.int op), .val (.int (0 : Int32)), .val (.int (4 : Int32)), .val (.ref b111), .val (.int (1 : Int32)), .unset] [])) _
              refine XS.iload X137.here hx rfl (hb hby at_117) rfl ?_
              show Steps p.tables e below (T137.setTop (mkF m 119 #[.val (.int p1), .val (.int p2), .val (.int p3), .val (.int p4), .val (.int p5), .val (.int p6), .val (.int op), .val (.int (0 : Int32)), .val (.int (4 : Int32)), .val (.ref b111), .val (.int (1 : Int32)), .unset] [(.int (1 : Int32))])) _
              refine XS.iconst X137.here hx rfl (hb hby at_119) ?_
              show Steps p.tables e below (T137.setTop (mkF m 120 #[.val (.int p1), .val (.int p2), .val (.int p3), .val (.int p4), .val (.int p5), .val (.int p6), .val (.int op), .val (.int (0 : Int32)), .val (.int (4 : Int32)), .val (.ref b111), .val (.int (1 : Int32)), .unset] [(.int (1 : Int32)), (.int (1 : Int32))])) _
              refine XS.icmpNo X137.here hx rfl (hb hby at_120) rfl (teq (by decide : (1 : Int32) = (1 : Int32))).2 ?_
              show Steps p.tables e below (T137.setTop (mkF m 123 #[.val (.int p1), .val (.int p2), .val (.int p3), .val (.int p4), .val (.int p5), .val (.int p6), .val (.int op), .val (.int (0 : Int32)), .val (.int (4 : Int32)), .val (.ref b111), .val (.int (1 : Int32)), .unset] [])) _
              refine XS.iloadN X137.here hx rfl (hb hby at_123) rfl ?_
              show Steps p.tables e below (T137.setTop (mkF m 124 #[.val (.int p1), .val (.int p2), .val (.int p3), .val (.int p4), .val (.int p5), .val (.int p6), .val (.int op), .val (.int (0 : Int32)), .val (.int (4 : Int32)), .val (.ref b111), .val (.int (1 : Int32)), .unset] [(.int p3)])) _
              refine XS.goto X137.here hx rfl (pc0 := 124) (pc' := 149) rfl (hb hby at_124) (by decide) (by decide) ?_
              show Steps p.tables e below (T137.setTop (mkF m 149 #[.val (.int p1), .val (.int p2), .val (.int p3), .val (.int p4), .val (.int p5), .val (.int p6), .val (.int op), .val (.int (0 : Int32)), .val (.int (4 : Int32)), .val (.ref b111), .val (.int (1 : Int32)), .unset] [(.int p3)])) _
              refine XS.istore X137.here hx rfl (hb hby at_149) rfl (l' := #[.val (.int p1), .val (.int p2), .val (.int p3), .val (.int p4), .val (.int p5), .val (.int p6), .val (.int op), .val (.int (0 : Int32)), .val (.int (4 : Int32)), .val (.ref b111), .val (.int (1 : Int32)), .val (.int p3)]) rfl ?_
              show Steps p.tables e below (T137.setTop (mkF m 151 #[.val (.int p1), .val (.int p2), .val (.int p3), .val (.int p4), .val (.int p5), .val (.int p6), .val (.int op), .val (.int (0 : Int32)), .val (.int (4 : Int32)), .val (.ref b111), .val (.int (1 : Int32)), .val (.int p3)] [])) _
              refine XS.aload X137.here hx rfl (hb hby at_151) rfl rfl ?_
              show Steps p.tables e below (T137.setTop (mkF m 153 #[.val (.int p1), .val (.int p2), .val (.int p3), .val (.int p4), .val (.int p5), .val (.int p6), .val (.int op), .val (.int (0 : Int32)), .val (.int (4 : Int32)), .val (.ref b111), .val (.int (1 : Int32)), .val (.int p3)] [(.ref b111)])) _
              refine XS.iload X137.here hx rfl (hb hby at_153) rfl ?_
              show Steps p.tables e below (T137.setTop (mkF m 155 #[.val (.int p1), .val (.int p2), .val (.int p3), .val (.int p4), .val (.int p5), .val (.int p6), .val (.int op), .val (.int (0 : Int32)), .val (.int (4 : Int32)), .val (.ref b111), .val (.int (1 : Int32)), .val (.int p3)] [(.int (0 : Int32)), (.ref b111)])) _
              refine st138 _ ?_
              show Steps p.tables e below (T138.setTop (mkF m 158 #[.val (.int p1), .val (.int p2), .val (.int p3), .val (.int p4), .val (.int p5), .val (.int p6), .val (.int op), .val (.int (0 : Int32)), .val (.int (4 : Int32)), .val (.ref b111), .val (.int (1 : Int32)), .val (.int p3)] [(.int p3)])) _
              refine XS.iload X138.here hx rfl (hb hby at_158) rfl ?_
              show Steps p.tables e below (T138.setTop (mkF m 160 #[.val (.int p1), .val (.int p2), .val (.int p3), .val (.int p4), .val (.int p5), .val (.int p6), .val (.int op), .val (.int (0 : Int32)), .val (.int (4 : Int32)), .val (.ref b111), .val (.int (1 : Int32)), .val (.int p3)] [(.int p3), (.int p3)])) _
              refine XS.icmpNo X138.here hx rfl (hb hby at_160) rfl (teq hc139).2 ?_
              show Steps p.tables e below (T138.setTop (mkF m 163 #[.val (.int p1), .val (.int p2), .val (.int p3), .val (.int p4), .val (.int p5), .val (.int p6), .val (.int op), .val (.int (0 : Int32)), .val (.int (4 : Int32)), .val (.ref b111), .val (.int (1 : Int32)), .val (.int p3)] [])) _
              refine XS.iconst X138.here hx rfl (hb hby at_163) ?_
              show Steps p.tables e below (T138.setTop (mkF m 164 #[.val (.int p1), .val (.int p2), .val (.int p3), .val (.int p4), .val (.int p5), .val (.int p6), .val (.int op), .val (.int (0 : Int32)), .val (.int (4 : Int32)), .val (.ref b111), .val (.int (1 : Int32)), .val (.int p3)] [(.int (1 : Int32))])) _
              refine XS.goto X138.here hx rfl (pc0 := 164) (pc' := 168) rfl (hb hby at_164) (by decide) (by decide) ?_
              exact k
            obtain ⟨fs, hrt, hrun, hended, hW, hsame⟩ := X138.leave (v := some (.int (1 : Int32))) (fun h => by rw [Bd.returns] at h; cases h)
            refine ⟨_, _, g140 _ ?_, hrun, hended, _, _, rfl, ?_, ⟨_, rfl⟩, hW, hsame.mono (by decide) (by decide)⟩
            · show Steps p.tables e below (T138.setTop (mkF m 168 #[.val (.int p1), .val (.int p2), .val (.int p3), .val (.int p4), .val (.int p5), .val (.int p6), .val (.int op), .val (.int (0 : Int32)), .val (.int (4 : Int32)), .val (.ref b111), .val (.int (1 : Int32)), .val (.int p3)] [(.int (1 : Int32))])) _
              exact retN X138 hx (t := .boolean) Bd.returns (by simp) (hb hby at_168) hrt
            · show own_Q_rm0 Z p1 p2 p3 p4 p5 p6 h0 n0 _ T138.heap _
              rw [e138]
              exact ⟨rfl, N138⟩
          · by_cases hc141 : op = (28 : Int32)
            · have o142 : Old Z n0 h127 := (Old.wr (Old.wr (Old.wr (Old.wr (Old.wr (Old.wr (Old.wr (Old.wr (Old.ext O0 E111) W113 gz_b111) W115 gz_b111) W117 gz_b111) W119 gz_b111) W121 gz_b111) W123 gz_b111) W125 gz_b111) W127 gz_b111)
              obtain ⟨_, _, ⟨T143, L143, k143, n143⟩, -, X143, ⟨Lc143, hQ143, l143, y143, z143⟩, st143⟩ := Jvm.LawKit.callS X127 hx (y := (⟨"com/example/chalkline/chalkline/runtime/MachineCodeTargetPinLaw", "targetOperand", "(I)I"⟩ : MethodName)) hown (mvT hZ (hw _ (List.mem_of_getElem? (i := 1) rfl))) (mvT hZ (hw _ (List.mem_of_getElem? (i := 2) rfl))) (mvT hZ (hw _ (List.mem_of_getElem? (i := 3) rfl))) (mvT hZ (hw _ (List.mem_of_getElem? (i := 4) rfl))) (by decide) (backOf (W := 0) (rmOp l Z a0 hw [] op (2 : Int32) h127 n0 o142 (by rw [if_neg hc128, if_pos hc134, if_neg hc135, if_pos hc141])) hZ (hw _ (List.mem_of_getElem? (i := 4) rfl)) (hw _ (List.mem_of_getElem? (i := 3) rfl)) (by decide) (by decide)) (g := (mkF m 112 #[.val (.int p1), .val (.int p2), .val (.int p3), .val (.int p4), .val (.int p5), .val (.int p6), .val (.int op), .val (.int (0 : Int32)), .val (.int (4 : Int32)), .val (.ref b111), .unset, .unset] [(.int op)])) rfl (by rw [hml]; rfl) (argsL := [(.int op)]) (rest := []) (lenOf own_pd0 rfl) rfl (by show 2 * 0 + _ ≤ _; exact Nat.le_of_eq rfl) (hb hby at_112) (fun _ _ => ⟨rfl, e127, (by decide : 1 + 0 ≤ _), (by decide : 8 + 0 ≤ _)⟩)
              dsimp only [Pt.U, Pt.locs, Pt.cells, Pt.slots] at X143 l143 y143 z143 st143 hQ143
              subst l143 y143 z143
              obtain ⟨rfl, Nq143, e143⟩ := hQ143
              have N143 := Fr.app N127 Nq143
              obtain ⟨_, _, ⟨T144, L144, k144, n144⟩, -, X144, ⟨Lc144, hQ144, l144, y144, z144⟩, st144⟩ := Jvm.LawKit.callS X143 hx (y := (⟨"com/example/chalkline/chalkline/runtime/MachineCode", "target", "([II)I"⟩ : MethodName)) hown (mvT hZ (hw _ (List.mem_of_getElem? (i := 5) rfl))) (mvT hZ (hw _ (List.mem_of_getElem? (i := 6) rfl))) (mvT hZ (hw _ (List.mem_of_getElem? (i := 7) rfl))) (mvT hZ (hw _ (List.mem_of_getElem? (i := 8) rfl))) (by decide) (backOf (W := 0) (rmT0 l Z a0 hw [] b111 k111 op p3 p4 p5 p6 p6 p6 p6 p4 h127 n0 o142 V127a (by rw [if_neg hc135, if_pos hc141])) hZ (hw _ (List.mem_of_getElem? (i := 8) rfl)) (hw _ (List.mem_of_getElem? (i := 7) rfl)) (by decide) (by decide)) (g := (mkF m 155 #[.val (.int p1), .val (.int p2), .val (.int p3), .val (.int p4), .val (.int p5), .val (.int p6), .val (.int op), .val (.int (0 : Int32)), .val (.int (4 : Int32)), .val (.ref b111), .val (.int (2 : Int32)), .val (.int p4)] [(.int (0 : Int32)), (.ref b111)])) rfl (by rw [hml]; rfl) (argsL := [(.ref b111), (.int (0 : Int32))]) (rest := []) (lenOf own_pd1 rfl) rfl (by show 2 * 0 + _ ≤ _; exact Nat.le_of_eq rfl) (hb hby at_155) (fun _ _ => ⟨rfl, e143, (by decide : 1 + 0 ≤ _), (by decide : 8 + 0 ≤ _)⟩)
              dsimp only [Pt.U, Pt.locs, Pt.cells, Pt.slots] at X144 l144 y144 z144 st144 hQ144
              subst l144 y144 z144
              obtain ⟨rfl, Nq144, e144⟩ := hQ144
              have N144 := Fr.app N143 Nq144
              have hc145 : p4 = p4 := rfl
              have g146 : ∀ t, Steps p.tables e below (T144.setTop (mkF m 168 #[.val (.int p1), .val (.int p2), .val (.int p3), .val (.int p4), .val (.int p5), .val (.int p6), .val (.int op), .val (.int (0 : Int32)), .val (.int (4 : Int32)), .val (.ref b111), .val (.int (2 : Int32)), .val (.int p4)] [(.int (1 : Int32))])) t → Steps p.tables e below (s₁.setTop (entryFrame m #[(.int p1), (.int p2), (.int p3), (.int p4), (.int p5), (.int p6)] maxLocals)) t := by
                intro t k
                refine g129 t ?_
                show Steps p.tables e below (T127.setTop (mkF m 110 #[.val (.int p1), .val (.int p2), .val (.int p3), .val (.int p4), .val (.int p5), .val (.int p6), .val (.int op), .val (.int (0 : Int32)), .val (.int (4 : Int32)), .val (.ref b111), .unset, .unset] [])) _
                refine XS.iload X127.here hx rfl (hb hby at_110) rfl ?_
                show Steps p.tables e below (T127.setTop (mkF m 112 #[.val (.int p1), .val (.int p2), .val (.int p3), .val (.int p4), .val (.int p5), .val (.int p6), .val (.int op), .val (.int (0 : Int32)), .val (.int (4 : Int32)), .val (.ref b111), .unset, .unset] [(.int op)])) _
                refine st143 _ ?_
                show Steps p.tables e below (T143.setTop (mkF m 115 #[.val (.int p1), .val (.int p2), .val (.int p3), .val (.int p4), .val (.int p5), .val (.int p6), .val (.int op), .val (.int (0 : Int32)), .val (.int (4 : Int32)), .val (.ref b111), .unset, .unset] [(.int (2 : Int32))])) _
                refine XS.istore X143.here hx rfl (hb hby at_115) rfl (l' := #[.val (.int p1), .val (.int p2), .val (.int p3), .val (.int p4), .val (.int p5), .val (.int p6), .val (.int op), .val (.int (0 : Int32)), .val (.int (4 : Int32)), .val (.ref b111), .val (.int (2 : Int32)), .unset]) rfl ?_
                show Steps p.tables e below (T143.setTop (mkF m 117 #[.val (.int p1), .val (.int p2), .val (.int p3), .val (.int p4), .val (.int p5), .val (.int p6), .val (.int op), .val (.int (0 : Int32)), .val (.int (4 : Int32)), .val (.ref b111), .val (.int (2 : Int32)), .unset] [])) _
                refine XS.iload X143.here hx rfl (hb hby at_117) rfl ?_
                show Steps p.tables e below (T143.setTop (mkF m 119 #[.val (.int p1), .val (.int p2), .val (.int p3), .val (.int p4), .val (.int p5), .val (.int p6), .val (.int op), .val (.int (0 : Int32)), .val (.int (4 : Int32)), .val (.ref b111), .val (.int (2 : Int32)), .unset] [(.int (2 : Int32))])) _
                refine XS.iconst X143.here hx rfl (hb hby at_119) ?_
                show Steps p.tables e below (T143.setTop (mkF m 120 #[.val (.int p1), .val (.int p2), .val (.int p3), .val (.int p4), .val (.int p5), .val (.int p6), .val (.int op), .val (.int (0 : Int32)), .val (.int (4 : Int32)), .val (.ref b111), .val (.int (2 : Int32)), .unset] [(.int (1 : Int32)), (.int (2 : Int32))])) _
                refine XS.icmpYes X143.here hx rfl (pc0 := 120) (pc' := 127) rfl (hb hby at_120) rfl (feq (by decide : ¬ ((2 : Int32) = (1 : Int32)))).2 (by decide) (by decide) ?_
                show Steps p.tables e below (T143.setTop (mkF m 127 #[.val (.int p1), .val (.int p2), .val (.int p3), .val (.int p4), .val (.int p5), .val (.int p6), .val (.int op), .val (.int (0 : Int32)), .val (.int (4 : Int32)), .val (.ref b111), .val (.int (2 : Int32)), .unset] [])) _
                refine XS.iload X143.here hx rfl (hb hby at_127) rfl ?_
                show Steps p.tables e below (T143.setTop (mkF m 129 #[.val (.int p1), .val (.int p2), .val (.int p3), .val (.int p4), .val (.int p5), .val (.int p6), .val (.int op), .val (.int (0 : Int32)), .val (.int (4 : Int32)), .val (.ref b111), .val (.int (2 : Int32)), .unset] [(.int (2 : Int32))])) _
                refine XS.iconst X143.here hx rfl (hb hby at_129) ?_
                show Steps p.tables e below (T143.setTop (mkF m 130 #[.val (.int p1), .val (.int p2), .val (.int p3), .val (.int p4), .val (.int p5), .val (.int p6), .val (.int op), .val (.int (0 : Int32)), .val (.int (4 : Int32)), .val (.ref b111), .val (.int (2 : Int32)), .unset] [(.int (2 : Int32)), (.int (2 : Int32))])) _
                refine XS.icmpNo X143.here hx rfl (hb hby at_130) rfl (teq (by decide : (2 : Int32) = (2 : Int32))).2 ?_
                show Steps p.tables e below (T143.setTop (mkF m 133 #[.val (.int p1), .val (.int p2), .val (.int p3), .val (.int p4), .val (.int p5), .val (.int p6), .val (.int op), .val (.int (0 : Int32)), .val (.int (4 : Int32)), .val (.ref b111), .val (.int (2 : Int32)), .unset] [])) _
                refine XS.iloadN X143.here hx rfl (hb hby at_133) rfl ?_
                show Steps p.tables e below (T143.setTop (mkF m 134 #[.val (.int p1), .val (.int p2), .val (.int p3), .val (.int p4), .val (.int p5), .val (.int p6), .val (.int op), .val (.int (0 : Int32)), .val (.int (4 : Int32)), .val (.ref b111), .val (.int (2 : Int32)), .unset] [(.int p4)])) _
                refine XS.goto X143.here hx rfl (pc0 := 134) (pc' := 149) rfl (hb hby at_134) (by decide) (by decide) ?_
                show Steps p.tables e below (T143.setTop (mkF m 149 #[.val (.int p1), .val (.int p2), .val (.int p3), .val (.int p4), .val (.int p5), .val (.int p6), .val (.int op), .val (.int (0 : Int32)), .val (.int (4 : Int32)), .val (.ref b111), .val (.int (2 : Int32)), .unset] [(.int p4)])) _
                refine XS.istore X143.here hx rfl (hb hby at_149) rfl (l' := #[.val (.int p1), .val (.int p2), .val (.int p3), .val (.int p4), .val (.int p5), .val (.int p6), .val (.int op), .val (.int (0 : Int32)), .val (.int (4 : Int32)), .val (.ref b111), .val (.int (2 : Int32)), .val (.int p4)]) rfl ?_
                show Steps p.tables e below (T143.setTop (mkF m 151 #[.val (.int p1), .val (.int p2), .val (.int p3), .val (.int p4), .val (.int p5), .val (.int p6), .val (.int op), .val (.int (0 : Int32)), .val (.int (4 : Int32)), .val (.ref b111), .val (.int (2 : Int32)), .val (.int p4)] [])) _
                refine XS.aload X143.here hx rfl (hb hby at_151) rfl rfl ?_
                show Steps p.tables e below (T143.setTop (mkF m 153 #[.val (.int p1), .val (.int p2), .val (.int p3), .val (.int p4), .val (.int p5), .val (.int p6), .val (.int op), .val (.int (0 : Int32)), .val (.int (4 : Int32)), .val (.ref b111), .val (.int (2 : Int32)), .val (.int p4)] [(.ref b111)])) _
                refine XS.iload X143.here hx rfl (hb hby at_153) rfl ?_
                show Steps p.tables e below (T143.setTop (mkF m 155 #[.val (.int p1), .val (.int p2), .val (.int p3), .val (.int p4), .val (.int p5), .val (.int p6), .val (.int op), .val (.int (0 : Int32)), .val (.int (4 : Int32)), .val (.ref b111), .val (.int (2 : Int32)), .val (.int p4)] [(.int (0 : Int32)), (.ref b111)])) _
                refine st144 _ ?_
                show Steps p.tables e below (T144.setTop (mkF m 158 #[.val (.int p1), .val (.int p2), .val (.int p3), .val (.int p4), .val (.int p5), .val (.int p6), .val (.int op), .val (.int (0 : Int32)), .val (.int (4 : Int32)), .val (.ref b111), .val (.int (2 : Int32)), .val (.int p4)] [(.int p4)])) _
                refine XS.iload X144.here hx rfl (hb hby at_158) rfl ?_
                show Steps p.tables e below (T144.setTop (mkF m 160 #[.val (.int p1), .val (.int p2), .val (.int p3), .val (.int p4), .val (.int p5), .val (.int p6), .val (.int op), .val (.int (0 : Int32)), .val (.int (4 : Int32)), .val (.ref b111), .val (.int (2 : Int32)), .val (.int p4)] [(.int p4), (.int p4)])) _
                refine XS.icmpNo X144.here hx rfl (hb hby at_160) rfl (teq hc145).2 ?_
                show Steps p.tables e below (T144.setTop (mkF m 163 #[.val (.int p1), .val (.int p2), .val (.int p3), .val (.int p4), .val (.int p5), .val (.int p6), .val (.int op), .val (.int (0 : Int32)), .val (.int (4 : Int32)), .val (.ref b111), .val (.int (2 : Int32)), .val (.int p4)] [])) _
                refine XS.iconst X144.here hx rfl (hb hby at_163) ?_
                show Steps p.tables e below (T144.setTop (mkF m 164 #[.val (.int p1), .val (.int p2), .val (.int p3), .val (.int p4), .val (.int p5), .val (.int p6), .val (.int op), .val (.int (0 : Int32)), .val (.int (4 : Int32)), .val (.ref b111), .val (.int (2 : Int32)), .val (.int p4)] [(.int (1 : Int32))])) _
                refine XS.goto X144.here hx rfl (pc0 := 164) (pc' := 168) rfl (hb hby at_164) (by decide) (by decide) ?_
                exact k
              obtain ⟨fs, hrt, hrun, hended, hW, hsame⟩ := X144.leave (v := some (.int (1 : Int32))) (fun h => by rw [Bd.returns] at h; cases h)
              refine ⟨_, _, g146 _ ?_, hrun, hended, _, _, rfl, ?_, ⟨_, rfl⟩, hW, hsame.mono (by decide) (by decide)⟩
              · show Steps p.tables e below (T144.setTop (mkF m 168 #[.val (.int p1), .val (.int p2), .val (.int p3), .val (.int p4), .val (.int p5), .val (.int p6), .val (.int op), .val (.int (0 : Int32)), .val (.int (4 : Int32)), .val (.ref b111), .val (.int (2 : Int32)), .val (.int p4)] [(.int (1 : Int32))])) _
                exact retN X144 hx (t := .boolean) Bd.returns (by simp) (hb hby at_168) hrt
              · show own_Q_rm0 Z p1 p2 p3 p4 p5 p6 h0 n0 _ T144.heap _
                rw [e144]
                exact ⟨rfl, N144⟩
            · by_cases hc147 : op = (29 : Int32)
              · have o148 : Old Z n0 h127 := (Old.wr (Old.wr (Old.wr (Old.wr (Old.wr (Old.wr (Old.wr (Old.wr (Old.ext O0 E111) W113 gz_b111) W115 gz_b111) W117 gz_b111) W119 gz_b111) W121 gz_b111) W123 gz_b111) W125 gz_b111) W127 gz_b111)
                obtain ⟨_, _, ⟨T149, L149, k149, n149⟩, -, X149, ⟨Lc149, hQ149, l149, y149, z149⟩, st149⟩ := Jvm.LawKit.callS X127 hx (y := (⟨"com/example/chalkline/chalkline/runtime/MachineCodeTargetPinLaw", "targetOperand", "(I)I"⟩ : MethodName)) hown (mvT hZ (hw _ (List.mem_of_getElem? (i := 1) rfl))) (mvT hZ (hw _ (List.mem_of_getElem? (i := 2) rfl))) (mvT hZ (hw _ (List.mem_of_getElem? (i := 3) rfl))) (mvT hZ (hw _ (List.mem_of_getElem? (i := 4) rfl))) (by decide) (backOf (W := 0) (rmOp l Z a0 hw [] op (2 : Int32) h127 n0 o148 (by rw [if_neg hc128, if_pos hc134, if_neg hc135, if_neg hc141, if_pos hc147])) hZ (hw _ (List.mem_of_getElem? (i := 4) rfl)) (hw _ (List.mem_of_getElem? (i := 3) rfl)) (by decide) (by decide)) (g := (mkF m 112 #[.val (.int p1), .val (.int p2), .val (.int p3), .val (.int p4), .val (.int p5), .val (.int p6), .val (.int op), .val (.int (0 : Int32)), .val (.int (4 : Int32)), .val (.ref b111), .unset, .unset] [(.int op)])) rfl (by rw [hml]; rfl) (argsL := [(.int op)]) (rest := []) (lenOf own_pd0 rfl) rfl (by show 2 * 0 + _ ≤ _; exact Nat.le_of_eq rfl) (hb hby at_112) (fun _ _ => ⟨rfl, e127, (by decide : 1 + 0 ≤ _), (by decide : 8 + 0 ≤ _)⟩)
                dsimp only [Pt.U, Pt.locs, Pt.cells, Pt.slots] at X149 l149 y149 z149 st149 hQ149
                subst l149 y149 z149
                obtain ⟨rfl, Nq149, e149⟩ := hQ149
                have N149 := Fr.app N127 Nq149
                obtain ⟨_, _, ⟨T150, L150, k150, n150⟩, -, X150, ⟨Lc150, hQ150, l150, y150, z150⟩, st150⟩ := Jvm.LawKit.callS X149 hx (y := (⟨"com/example/chalkline/chalkline/runtime/MachineCode", "target", "([II)I"⟩ : MethodName)) hown (mvT hZ (hw _ (List.mem_of_getElem? (i := 5) rfl))) (mvT hZ (hw _ (List.mem_of_getElem? (i := 6) rfl))) (mvT hZ (hw _ (List.mem_of_getElem? (i := 7) rfl))) (mvT hZ (hw _ (List.mem_of_getElem? (i := 8) rfl))) (by decide) (backOf (W := 0) (rmT0 l Z a0 hw [] b111 k111 op p3 p4 p5 p6 p6 p6 p6 p4 h127 n0 o148 V127a (by rw [if_neg hc135, if_neg hc141, if_pos hc147])) hZ (hw _ (List.mem_of_getElem? (i := 8) rfl)) (hw _ (List.mem_of_getElem? (i := 7) rfl)) (by decide) (by decide)) (g := (mkF m 155 #[.val (.int p1), .val (.int p2), .val (.int p3), .val (.int p4), .val (.int p5), .val (.int p6), .val (.int op), .val (.int (0 : Int32)), .val (.int (4 : Int32)), .val (.ref b111), .val (.int (2 : Int32)), .val (.int p4)] [(.int (0 : Int32)), (.ref b111)])) rfl (by rw [hml]; rfl) (argsL := [(.ref b111), (.int (0 : Int32))]) (rest := []) (lenOf own_pd1 rfl) rfl (by show 2 * 0 + _ ≤ _; exact Nat.le_of_eq rfl) (hb hby at_155) (fun _ _ => ⟨rfl, e149, (by decide : 1 + 0 ≤ _), (by decide : 8 + 0 ≤ _)⟩)
                dsimp only [Pt.U, Pt.locs, Pt.cells, Pt.slots] at X150 l150 y150 z150 st150 hQ150
                subst l150 y150 z150
                obtain ⟨rfl, Nq150, e150⟩ := hQ150
                have N150 := Fr.app N149 Nq150
                have hc151 : p4 = p4 := rfl
                have g152 : ∀ t, Steps p.tables e below (T150.setTop (mkF m 168 #[.val (.int p1), .val (.int p2), .val (.int p3), .val (.int p4), .val (.int p5), .val (.int p6), .val (.int op), .val (.int (0 : Int32)), .val (.int (4 : Int32)), .val (.ref b111), .val (.int (2 : Int32)), .val (.int p4)] [(.int (1 : Int32))])) t → Steps p.tables e below (s₁.setTop (entryFrame m #[(.int p1), (.int p2), (.int p3), (.int p4), (.int p5), (.int p6)] maxLocals)) t := by
                  intro t k
                  refine g129 t ?_
                  show Steps p.tables e below (T127.setTop (mkF m 110 #[.val (.int p1), .val (.int p2), .val (.int p3), .val (.int p4), .val (.int p5), .val (.int p6), .val (.int op), .val (.int (0 : Int32)), .val (.int (4 : Int32)), .val (.ref b111), .unset, .unset] [])) _
                  refine XS.iload X127.here hx rfl (hb hby at_110) rfl ?_
                  show Steps p.tables e below (T127.setTop (mkF m 112 #[.val (.int p1), .val (.int p2), .val (.int p3), .val (.int p4), .val (.int p5), .val (.int p6), .val (.int op), .val (.int (0 : Int32)), .val (.int (4 : Int32)), .val (.ref b111), .unset, .unset] [(.int op)])) _
                  refine st149 _ ?_
                  show Steps p.tables e below (T149.setTop (mkF m 115 #[.val (.int p1), .val (.int p2), .val (.int p3), .val (.int p4), .val (.int p5), .val (.int p6), .val (.int op), .val (.int (0 : Int32)), .val (.int (4 : Int32)), .val (.ref b111), .unset, .unset] [(.int (2 : Int32))])) _
                  refine XS.istore X149.here hx rfl (hb hby at_115) rfl (l' := #[.val (.int p1), .val (.int p2), .val (.int p3), .val (.int p4), .val (.int p5), .val (.int p6), .val (.int op), .val (.int (0 : Int32)), .val (.int (4 : Int32)), .val (.ref b111), .val (.int (2 : Int32)), .unset]) rfl ?_
                  show Steps p.tables e below (T149.setTop (mkF m 117 #[.val (.int p1), .val (.int p2), .val (.int p3), .val (.int p4), .val (.int p5), .val (.int p6), .val (.int op), .val (.int (0 : Int32)), .val (.int (4 : Int32)), .val (.ref b111), .val (.int (2 : Int32)), .unset] [])) _
                  refine XS.iload X149.here hx rfl (hb hby at_117) rfl ?_
                  show Steps p.tables e below (T149.setTop (mkF m 119 #[.val (.int p1), .val (.int p2), .val (.int p3), .val (.int p4), .val (.int p5), .val (.int p6), .val (.int op), .val (.int (0 : Int32)), .val (.int (4 : Int32)), .val (.ref b111), .val (.int (2 : Int32)), .unset] [(.int (2 : Int32))])) _
                  refine XS.iconst X149.here hx rfl (hb hby at_119) ?_
                  show Steps p.tables e below (T149.setTop (mkF m 120 #[.val (.int p1), .val (.int p2), .val (.int p3), .val (.int p4), .val (.int p5), .val (.int p6), .val (.int op), .val (.int (0 : Int32)), .val (.int (4 : Int32)), .val (.ref b111), .val (.int (2 : Int32)), .unset] [(.int (1 : Int32)), (.int (2 : Int32))])) _
                  refine XS.icmpYes X149.here hx rfl (pc0 := 120) (pc' := 127) rfl (hb hby at_120) rfl (feq (by decide : ¬ ((2 : Int32) = (1 : Int32)))).2 (by decide) (by decide) ?_
                  show Steps p.tables e below (T149.setTop (mkF m 127 #[.val (.int p1), .val (.int p2), .val (.int p3), .val (.int p4), .val (.int p5), .val (.int p6), .val (.int op), .val (.int (0 : Int32)), .val (.int (4 : Int32)), .val (.ref b111), .val (.int (2 : Int32)), .unset] [])) _
                  refine XS.iload X149.here hx rfl (hb hby at_127) rfl ?_
                  show Steps p.tables e below (T149.setTop (mkF m 129 #[.val (.int p1), .val (.int p2), .val (.int p3), .val (.int p4), .val (.int p5), .val (.int p6), .val (.int op), .val (.int (0 : Int32)), .val (.int (4 : Int32)), .val (.ref b111), .val (.int (2 : Int32)), .unset] [(.int (2 : Int32))])) _
                  refine XS.iconst X149.here hx rfl (hb hby at_129) ?_
                  show Steps p.tables e below (T149.setTop (mkF m 130 #[.val (.int p1), .val (.int p2), .val (.int p3), .val (.int p4), .val (.int p5), .val (.int p6), .val (.int op), .val (.int (0 : Int32)), .val (.int (4 : Int32)), .val (.ref b111), .val (.int (2 : Int32)), .unset] [(.int (2 : Int32)), (.int (2 : Int32))])) _
                  refine XS.icmpNo X149.here hx rfl (hb hby at_130) rfl (teq (by decide : (2 : Int32) = (2 : Int32))).2 ?_
                  show Steps p.tables e below (T149.setTop (mkF m 133 #[.val (.int p1), .val (.int p2), .val (.int p3), .val (.int p4), .val (.int p5), .val (.int p6), .val (.int op), .val (.int (0 : Int32)), .val (.int (4 : Int32)), .val (.ref b111), .val (.int (2 : Int32)), .unset] [])) _
                  refine XS.iloadN X149.here hx rfl (hb hby at_133) rfl ?_
                  show Steps p.tables e below (T149.setTop (mkF m 134 #[.val (.int p1), .val (.int p2), .val (.int p3), .val (.int p4), .val (.int p5), .val (.int p6), .val (.int op), .val (.int (0 : Int32)), .val (.int (4 : Int32)), .val (.ref b111), .val (.int (2 : Int32)), .unset] [(.int p4)])) _
                  refine XS.goto X149.here hx rfl (pc0 := 134) (pc' := 149) rfl (hb hby at_134) (by decide) (by decide) ?_
                  show Steps p.tables e below (T149.setTop (mkF m 149 #[.val (.int p1), .val (.int p2), .val (.int p3), .val (.int p4), .val (.int p5), .val (.int p6), .val (.int op), .val (.int (0 : Int32)), .val (.int (4 : Int32)), .val (.ref b111), .val (.int (2 : Int32)), .unset] [(.int p4)])) _
                  refine XS.istore X149.here hx rfl (hb hby at_149) rfl (l' := #[.val (.int p1), .val (.int p2), .val (.int p3), .val (.int p4), .val (.int p5), .val (.int p6), .val (.int op), .val (.int (0 : Int32)), .val (.int (4 : Int32)), .val (.ref b111), .val (.int (2 : Int32)), .val (.int p4)]) rfl ?_
                  show Steps p.tables e below (T149.setTop (mkF m 151 #[.val (.int p1), .val (.int p2), .val (.int p3), .val (.int p4), .val (.int p5), .val (.int p6), .val (.int op), .val (.int (0 : Int32)), .val (.int (4 : Int32)), .val (.ref b111), .val (.int (2 : Int32)), .val (.int p4)] [])) _
                  refine XS.aload X149.here hx rfl (hb hby at_151) rfl rfl ?_
                  show Steps p.tables e below (T149.setTop (mkF m 153 #[.val (.int p1), .val (.int p2), .val (.int p3), .val (.int p4), .val (.int p5), .val (.int p6), .val (.int op), .val (.int (0 : Int32)), .val (.int (4 : Int32)), .val (.ref b111), .val (.int (2 : Int32)), .val (.int p4)] [(.ref b111)])) _
                  refine XS.iload X149.here hx rfl (hb hby at_153) rfl ?_
                  show Steps p.tables e below (T149.setTop (mkF m 155 #[.val (.int p1), .val (.int p2), .val (.int p3), .val (.int p4), .val (.int p5), .val (.int p6), .val (.int op), .val (.int (0 : Int32)), .val (.int (4 : Int32)), .val (.ref b111), .val (.int (2 : Int32)), .val (.int p4)] [(.int (0 : Int32)), (.ref b111)])) _
                  refine st150 _ ?_
                  show Steps p.tables e below (T150.setTop (mkF m 158 #[.val (.int p1), .val (.int p2), .val (.int p3), .val (.int p4), .val (.int p5), .val (.int p6), .val (.int op), .val (.int (0 : Int32)), .val (.int (4 : Int32)), .val (.ref b111), .val (.int (2 : Int32)), .val (.int p4)] [(.int p4)])) _
                  refine XS.iload X150.here hx rfl (hb hby at_158) rfl ?_
                  show Steps p.tables e below (T150.setTop (mkF m 160 #[.val (.int p1), .val (.int p2), .val (.int p3), .val (.int p4), .val (.int p5), .val (.int p6), .val (.int op), .val (.int (0 : Int32)), .val (.int (4 : Int32)), .val (.ref b111), .val (.int (2 : Int32)), .val (.int p4)] [(.int p4), (.int p4)])) _
                  refine XS.icmpNo X150.here hx rfl (hb hby at_160) rfl (teq hc151).2 ?_
                  show Steps p.tables e below (T150.setTop (mkF m 163 #[.val (.int p1), .val (.int p2), .val (.int p3), .val (.int p4), .val (.int p5), .val (.int p6), .val (.int op), .val (.int (0 : Int32)), .val (.int (4 : Int32)), .val (.ref b111), .val (.int (2 : Int32)), .val (.int p4)] [])) _
                  refine XS.iconst X150.here hx rfl (hb hby at_163) ?_
                  show Steps p.tables e below (T150.setTop (mkF m 164 #[.val (.int p1), .val (.int p2), .val (.int p3), .val (.int p4), .val (.int p5), .val (.int p6), .val (.int op), .val (.int (0 : Int32)), .val (.int (4 : Int32)), .val (.ref b111), .val (.int (2 : Int32)), .val (.int p4)] [(.int (1 : Int32))])) _
                  refine XS.goto X150.here hx rfl (pc0 := 164) (pc' := 168) rfl (hb hby at_164) (by decide) (by decide) ?_
                  exact k
                obtain ⟨fs, hrt, hrun, hended, hW, hsame⟩ := X150.leave (v := some (.int (1 : Int32))) (fun h => by rw [Bd.returns] at h; cases h)
                refine ⟨_, _, g152 _ ?_, hrun, hended, _, _, rfl, ?_, ⟨_, rfl⟩, hW, hsame.mono (by decide) (by decide)⟩
                · show Steps p.tables e below (T150.setTop (mkF m 168 #[.val (.int p1), .val (.int p2), .val (.int p3), .val (.int p4), .val (.int p5), .val (.int p6), .val (.int op), .val (.int (0 : Int32)), .val (.int (4 : Int32)), .val (.ref b111), .val (.int (2 : Int32)), .val (.int p4)] [(.int (1 : Int32))])) _
                  exact retN X150 hx (t := .boolean) Bd.returns (by simp) (hb hby at_168) hrt
                · show own_Q_rm0 Z p1 p2 p3 p4 p5 p6 h0 n0 _ T150.heap _
                  rw [e150]
                  exact ⟨rfl, N150⟩
              · have o153 : Old Z n0 h127 := (Old.wr (Old.wr (Old.wr (Old.wr (Old.wr (Old.wr (Old.wr (Old.wr (Old.ext O0 E111) W113 gz_b111) W115 gz_b111) W117 gz_b111) W119 gz_b111) W121 gz_b111) W123 gz_b111) W125 gz_b111) W127 gz_b111)
                obtain ⟨_, _, ⟨T154, L154, k154, n154⟩, -, X154, ⟨Lc154, hQ154, l154, y154, z154⟩, st154⟩ := Jvm.LawKit.callS X127 hx (y := (⟨"com/example/chalkline/chalkline/runtime/MachineCodeTargetPinLaw", "targetOperand", "(I)I"⟩ : MethodName)) hown (mvT hZ (hw _ (List.mem_of_getElem? (i := 1) rfl))) (mvT hZ (hw _ (List.mem_of_getElem? (i := 2) rfl))) (mvT hZ (hw _ (List.mem_of_getElem? (i := 3) rfl))) (mvT hZ (hw _ (List.mem_of_getElem? (i := 4) rfl))) (by decide) (backOf (W := 0) (rmOp l Z a0 hw [] op (0 : Int32) h127 n0 o153 (by rw [if_neg hc128, if_pos hc134, if_neg hc135, if_neg hc141, if_neg hc147])) hZ (hw _ (List.mem_of_getElem? (i := 4) rfl)) (hw _ (List.mem_of_getElem? (i := 3) rfl)) (by decide) (by decide)) (g := (mkF m 112 #[.val (.int p1), .val (.int p2), .val (.int p3), .val (.int p4), .val (.int p5), .val (.int p6), .val (.int op), .val (.int (0 : Int32)), .val (.int (4 : Int32)), .val (.ref b111), .unset, .unset] [(.int op)])) rfl (by rw [hml]; rfl) (argsL := [(.int op)]) (rest := []) (lenOf own_pd0 rfl) rfl (by show 2 * 0 + _ ≤ _; exact Nat.le_of_eq rfl) (hb hby at_112) (fun _ _ => ⟨rfl, e127, (by decide : 1 + 0 ≤ _), (by decide : 8 + 0 ≤ _)⟩)
                dsimp only [Pt.U, Pt.locs, Pt.cells, Pt.slots] at X154 l154 y154 z154 st154 hQ154
                subst l154 y154 z154
                obtain ⟨rfl, Nq154, e154⟩ := hQ154
                have N154 := Fr.app N127 Nq154
                obtain ⟨_, _, ⟨T155, L155, k155, n155⟩, -, X155, ⟨Lc155, hQ155, l155, y155, z155⟩, st155⟩ := Jvm.LawKit.callS X154 hx (y := (⟨"com/example/chalkline/chalkline/runtime/MachineCode", "target", "([II)I"⟩ : MethodName)) hown (mvT hZ (hw _ (List.mem_of_getElem? (i := 5) rfl))) (mvT hZ (hw _ (List.mem_of_getElem? (i := 6) rfl))) (mvT hZ (hw _ (List.mem_of_getElem? (i := 7) rfl))) (mvT hZ (hw _ (List.mem_of_getElem? (i := 8) rfl))) (by decide) (backOf (W := 0) (rmT0 l Z a0 hw [] b111 k111 op p3 p4 p5 p6 p6 p6 p6 (-1 : Int32) h127 n0 o153 V127a (by rw [if_neg hc135, if_neg hc141, if_neg hc147, if_neg hc128, if_pos hc134])) hZ (hw _ (List.mem_of_getElem? (i := 8) rfl)) (hw _ (List.mem_of_getElem? (i := 7) rfl)) (by decide) (by decide)) (g := (mkF m 155 #[.val (.int p1), .val (.int p2), .val (.int p3), .val (.int p4), .val (.int p5), .val (.int p6), .val (.int op), .val (.int (0 : Int32)), .val (.int (4 : Int32)), .val (.ref b111), .val (.int (0 : Int32)), .val (.int (-1 : Int32))] [(.int (0 : Int32)), (.ref b111)])) rfl (by rw [hml]; rfl) (argsL := [(.ref b111), (.int (0 : Int32))]) (rest := []) (lenOf own_pd1 rfl) rfl (by show 2 * 0 + _ ≤ _; exact Nat.le_of_eq rfl) (hb hby at_155) (fun _ _ => ⟨rfl, e154, (by decide : 1 + 0 ≤ _), (by decide : 8 + 0 ≤ _)⟩)
                dsimp only [Pt.U, Pt.locs, Pt.cells, Pt.slots] at X155 l155 y155 z155 st155 hQ155
                subst l155 y155 z155
                obtain ⟨rfl, Nq155, e155⟩ := hQ155
                have N155 := Fr.app N154 Nq155
                have g156 : ∀ t, Steps p.tables e below (T155.setTop (mkF m 168 #[.val (.int p1), .val (.int p2), .val (.int p3), .val (.int p4), .val (.int p5), .val (.int p6), .val (.int op), .val (.int (0 : Int32)), .val (.int (4 : Int32)), .val (.ref b111), .val (.int (0 : Int32)), .val (.int (-1 : Int32))] [(.int (1 : Int32))])) t → Steps p.tables e below (s₁.setTop (entryFrame m #[(.int p1), (.int p2), (.int p3), (.int p4), (.int p5), (.int p6)] maxLocals)) t := by
                  intro t k
                  refine g129 t ?_
                  show Steps p.tables e below (T127.setTop (mkF m 110 #[.val (.int p1), .val (.int p2), .val (.int p3), .val (.int p4), .val (.int p5), .val (.int p6), .val (.int op), .val (.int (0 : Int32)), .val (.int (4 : Int32)), .val (.ref b111), .unset, .unset] [])) _
                  refine XS.iload X127.here hx rfl (hb hby at_110) rfl ?_
                  show Steps p.tables e below (T127.setTop (mkF m 112 #[.val (.int p1), .val (.int p2), .val (.int p3), .val (.int p4), .val (.int p5), .val (.int p6), .val (.int op), .val (.int (0 : Int32)), .val (.int (4 : Int32)), .val (.ref b111), .unset, .unset] [(.int op)])) _
                  refine st154 _ ?_
                  show Steps p.tables e below (T154.setTop (mkF m 115 #[.val (.int p1), .val (.int p2), .val (.int p3), .val (.int p4), .val (.int p5), .val (.int p6), .val (.int op), .val (.int (0 : Int32)), .val (.int (4 : Int32)), .val (.ref b111), .unset, .unset] [(.int (0 : Int32))])) _
                  refine XS.istore X154.here hx rfl (hb hby at_115) rfl (l' := #[.val (.int p1), .val (.int p2), .val (.int p3), .val (.int p4), .val (.int p5), .val (.int p6), .val (.int op), .val (.int (0 : Int32)), .val (.int (4 : Int32)), .val (.ref b111), .val (.int (0 : Int32)), .unset]) rfl ?_
                  show Steps p.tables e below (T154.setTop (mkF m 117 #[.val (.int p1), .val (.int p2), .val (.int p3), .val (.int p4), .val (.int p5), .val (.int p6), .val (.int op), .val (.int (0 : Int32)), .val (.int (4 : Int32)), .val (.ref b111), .val (.int (0 : Int32)), .unset] [])) _
                  refine XS.iload X154.here hx rfl (hb hby at_117) rfl ?_
                  show Steps p.tables e below (T154.setTop (mkF m 119 #[.val (.int p1), .val (.int p2), .val (.int p3), .val (.int p4), .val (.int p5), .val (.int p6), .val (.int op), .val (.int (0 : Int32)), .val (.int (4 : Int32)), .val (.ref b111), .val (.int (0 : Int32)), .unset] [(.int (0 : Int32))])) _
                  refine XS.iconst X154.here hx rfl (hb hby at_119) ?_
                  show Steps p.tables e below (T154.setTop (mkF m 120 #[.val (.int p1), .val (.int p2), .val (.int p3), .val (.int p4), .val (.int p5), .val (.int p6), .val (.int op), .val (.int (0 : Int32)), .val (.int (4 : Int32)), .val (.ref b111), .val (.int (0 : Int32)), .unset] [(.int (1 : Int32)), (.int (0 : Int32))])) _
                  refine XS.icmpYes X154.here hx rfl (pc0 := 120) (pc' := 127) rfl (hb hby at_120) rfl (feq (by decide : ¬ ((0 : Int32) = (1 : Int32)))).2 (by decide) (by decide) ?_
                  show Steps p.tables e below (T154.setTop (mkF m 127 #[.val (.int p1), .val (.int p2), .val (.int p3), .val (.int p4), .val (.int p5), .val (.int p6), .val (.int op), .val (.int (0 : Int32)), .val (.int (4 : Int32)), .val (.ref b111), .val (.int (0 : Int32)), .unset] [])) _
                  refine XS.iload X154.here hx rfl (hb hby at_127) rfl ?_
                  show Steps p.tables e below (T154.setTop (mkF m 129 #[.val (.int p1), .val (.int p2), .val (.int p3), .val (.int p4), .val (.int p5), .val (.int p6), .val (.int op), .val (.int (0 : Int32)), .val (.int (4 : Int32)), .val (.ref b111), .val (.int (0 : Int32)), .unset] [(.int (0 : Int32))])) _
                  refine XS.iconst X154.here hx rfl (hb hby at_129) ?_
                  show Steps p.tables e below (T154.setTop (mkF m 130 #[.val (.int p1), .val (.int p2), .val (.int p3), .val (.int p4), .val (.int p5), .val (.int p6), .val (.int op), .val (.int (0 : Int32)), .val (.int (4 : Int32)), .val (.ref b111), .val (.int (0 : Int32)), .unset] [(.int (2 : Int32)), (.int (0 : Int32))])) _
                  refine XS.icmpYes X154.here hx rfl (pc0 := 130) (pc' := 137) rfl (hb hby at_130) rfl (feq (by decide : ¬ ((0 : Int32) = (2 : Int32)))).2 (by decide) (by decide) ?_
                  show Steps p.tables e below (T154.setTop (mkF m 137 #[.val (.int p1), .val (.int p2), .val (.int p3), .val (.int p4), .val (.int p5), .val (.int p6), .val (.int op), .val (.int (0 : Int32)), .val (.int (4 : Int32)), .val (.ref b111), .val (.int (0 : Int32)), .unset] [])) _
                  refine XS.iload X154.here hx rfl (hb hby at_137) rfl ?_
                  show Steps p.tables e below (T154.setTop (mkF m 139 #[.val (.int p1), .val (.int p2), .val (.int p3), .val (.int p4), .val (.int p5), .val (.int p6), .val (.int op), .val (.int (0 : Int32)), .val (.int (4 : Int32)), .val (.ref b111), .val (.int (0 : Int32)), .unset] [(.int (0 : Int32))])) _
                  refine XS.iconst X154.here hx rfl (hb hby at_139) ?_
                  show Steps p.tables e below (T154.setTop (mkF m 140 #[.val (.int p1), .val (.int p2), .val (.int p3), .val (.int p4), .val (.int p5), .val (.int p6), .val (.int op), .val (.int (0 : Int32)), .val (.int (4 : Int32)), .val (.ref b111), .val (.int (0 : Int32)), .unset] [(.int (3 : Int32)), (.int (0 : Int32))])) _
                  refine XS.icmpYes X154.here hx rfl (pc0 := 140) (pc' := 148) rfl (hb hby at_140) rfl (feq (by decide : ¬ ((0 : Int32) = (3 : Int32)))).2 (by decide) (by decide) ?_
                  show Steps p.tables e below (T154.setTop (mkF m 148 #[.val (.int p1), .val (.int p2), .val (.int p3), .val (.int p4), .val (.int p5), .val (.int p6), .val (.int op), .val (.int (0 : Int32)), .val (.int (4 : Int32)), .val (.ref b111), .val (.int (0 : Int32)), .unset] [])) _
                  refine XS.iconst X154.here hx rfl (hb hby at_148) ?_
                  show Steps p.tables e below (T154.setTop (mkF m 149 #[.val (.int p1), .val (.int p2), .val (.int p3), .val (.int p4), .val (.int p5), .val (.int p6), .val (.int op), .val (.int (0 : Int32)), .val (.int (4 : Int32)), .val (.ref b111), .val (.int (0 : Int32)), .unset] [(.int (-1 : Int32))])) _
                  refine XS.istore X154.here hx rfl (hb hby at_149) rfl (l' := #[.val (.int p1), .val (.int p2), .val (.int p3), .val (.int p4), .val (.int p5), .val (.int p6), .val (.int op), .val (.int (0 : Int32)), .val (.int (4 : Int32)), .val (.ref b111), .val (.int (0 : Int32)), .val (.int (-1 : Int32))]) rfl ?_
                  show Steps p.tables e below (T154.setTop (mkF m 151 #[.val (.int p1), .val (.int p2), .val (.int p3), .val (.int p4), .val (.int p5), .val (.int p6), .val (.int op), .val (.int (0 : Int32)), .val (.int (4 : Int32)), .val (.ref b111), .val (.int (0 : Int32)), .val (.int (-1 : Int32))] [])) _
                  refine XS.aload X154.here hx rfl (hb hby at_151) rfl rfl ?_
                  show Steps p.tables e below (T154.setTop (mkF m 153 #[.val (.int p1), .val (.int p2), .val (.int p3), .val (.int p4), .val (.int p5), .val (.int p6), .val (.int op), .val (.int (0 : Int32)), .val (.int (4 : Int32)), .val (.ref b111), .val (.int (0 : Int32)), .val (.int (-1 : Int32))] [(.ref b111)])) _
                  refine XS.iload X154.here hx rfl (hb hby at_153) rfl ?_
                  show Steps p.tables e below (T154.setTop (mkF m 155 #[.val (.int p1), .val (.int p2), .val (.int p3), .val (.int p4), .val (.int p5), .val (.int p6), .val (.int op), .val (.int (0 : Int32)), .val (.int (4 : Int32)), .val (.ref b111), .val (.int (0 : Int32)), .val (.int (-1 : Int32))] [(.int (0 : Int32)), (.ref b111)])) _
                  refine st155 _ ?_
                  show Steps p.tables e below (T155.setTop (mkF m 158 #[.val (.int p1), .val (.int p2), .val (.int p3), .val (.int p4), .val (.int p5), .val (.int p6), .val (.int op), .val (.int (0 : Int32)), .val (.int (4 : Int32)), .val (.ref b111), .val (.int (0 : Int32)), .val (.int (-1 : Int32))] [(.int (-1 : Int32))])) _
                  refine XS.iload X155.here hx rfl (hb hby at_158) rfl ?_
                  show Steps p.tables e below (T155.setTop (mkF m 160 #[.val (.int p1), .val (.int p2), .val (.int p3), .val (.int p4), .val (.int p5), .val (.int p6), .val (.int op), .val (.int (0 : Int32)), .val (.int (4 : Int32)), .val (.ref b111), .val (.int (0 : Int32)), .val (.int (-1 : Int32))] [(.int (-1 : Int32)), (.int (-1 : Int32))])) _
                  refine XS.icmpNo X155.here hx rfl (hb hby at_160) rfl (teq (by decide : (-1 : Int32) = (-1 : Int32))).2 ?_
                  show Steps p.tables e below (T155.setTop (mkF m 163 #[.val (.int p1), .val (.int p2), .val (.int p3), .val (.int p4), .val (.int p5), .val (.int p6), .val (.int op), .val (.int (0 : Int32)), .val (.int (4 : Int32)), .val (.ref b111), .val (.int (0 : Int32)), .val (.int (-1 : Int32))] [])) _
                  refine XS.iconst X155.here hx rfl (hb hby at_163) ?_
                  show Steps p.tables e below (T155.setTop (mkF m 164 #[.val (.int p1), .val (.int p2), .val (.int p3), .val (.int p4), .val (.int p5), .val (.int p6), .val (.int op), .val (.int (0 : Int32)), .val (.int (4 : Int32)), .val (.ref b111), .val (.int (0 : Int32)), .val (.int (-1 : Int32))] [(.int (1 : Int32))])) _
                  refine XS.goto X155.here hx rfl (pc0 := 164) (pc' := 168) rfl (hb hby at_164) (by decide) (by decide) ?_
                  exact k
                obtain ⟨fs, hrt, hrun, hended, hW, hsame⟩ := X155.leave (v := some (.int (1 : Int32))) (fun h => by rw [Bd.returns] at h; cases h)
                refine ⟨_, _, g156 _ ?_, hrun, hended, _, _, rfl, ?_, ⟨_, rfl⟩, hW, hsame.mono (by decide) (by decide)⟩
                · show Steps p.tables e below (T155.setTop (mkF m 168 #[.val (.int p1), .val (.int p2), .val (.int p3), .val (.int p4), .val (.int p5), .val (.int p6), .val (.int op), .val (.int (0 : Int32)), .val (.int (4 : Int32)), .val (.ref b111), .val (.int (0 : Int32)), .val (.int (-1 : Int32))] [(.int (1 : Int32))])) _
                  exact retN X155 hx (t := .boolean) Bd.returns (by simp) (hb hby at_168) hrt
                · show own_Q_rm0 Z p1 p2 p3 p4 p5 p6 h0 n0 _ T155.heap _
                  rw [e155]
                  exact ⟨rfl, N155⟩
        · have o157 : Old Z n0 h127 := (Old.wr (Old.wr (Old.wr (Old.wr (Old.wr (Old.wr (Old.wr (Old.wr (Old.ext O0 E111) W113 gz_b111) W115 gz_b111) W117 gz_b111) W119 gz_b111) W121 gz_b111) W123 gz_b111) W125 gz_b111) W127 gz_b111)
          obtain ⟨_, _, ⟨T158, L158, k158, n158⟩, -, X158, ⟨Lc158, hQ158, l158, y158, z158⟩, st158⟩ := Jvm.LawKit.callS X127 hx (y := (⟨"com/example/chalkline/chalkline/runtime/MachineCodeTargetPinLaw", "targetOperand", "(I)I"⟩ : MethodName)) hown (mvT hZ (hw _ (List.mem_of_getElem? (i := 1) rfl))) (mvT hZ (hw _ (List.mem_of_getElem? (i := 2) rfl))) (mvT hZ (hw _ (List.mem_of_getElem? (i := 3) rfl))) (mvT hZ (hw _ (List.mem_of_getElem? (i := 4) rfl))) (by decide) (backOf (W := 0) (rmOp l Z a0 hw [] op (3 : Int32) h127 n0 o157 (by rw [if_neg hc128, if_neg hc134])) hZ (hw _ (List.mem_of_getElem? (i := 4) rfl)) (hw _ (List.mem_of_getElem? (i := 3) rfl)) (by decide) (by decide)) (g := (mkF m 112 #[.val (.int p1), .val (.int p2), .val (.int p3), .val (.int p4), .val (.int p5), .val (.int p6), .val (.int op), .val (.int (0 : Int32)), .val (.int (4 : Int32)), .val (.ref b111), .unset, .unset] [(.int op)])) rfl (by rw [hml]; rfl) (argsL := [(.int op)]) (rest := []) (lenOf own_pd0 rfl) rfl (by show 2 * 0 + _ ≤ _; exact Nat.le_of_eq rfl) (hb hby at_112) (fun _ _ => ⟨rfl, e127, (by decide : 1 + 0 ≤ _), (by decide : 8 + 0 ≤ _)⟩)
          dsimp only [Pt.U, Pt.locs, Pt.cells, Pt.slots] at X158 l158 y158 z158 st158 hQ158
          subst l158 y158 z158
          obtain ⟨rfl, Nq158, e158⟩ := hQ158
          have N158 := Fr.app N127 Nq158
          obtain ⟨_, _, ⟨T159, L159, k159, n159⟩, -, X159, ⟨Lc159, hQ159, l159, y159, z159⟩, st159⟩ := Jvm.LawKit.callS X158 hx (y := (⟨"com/example/chalkline/chalkline/runtime/MachineCode", "target", "([II)I"⟩ : MethodName)) hown (mvT hZ (hw _ (List.mem_of_getElem? (i := 5) rfl))) (mvT hZ (hw _ (List.mem_of_getElem? (i := 6) rfl))) (mvT hZ (hw _ (List.mem_of_getElem? (i := 7) rfl))) (mvT hZ (hw _ (List.mem_of_getElem? (i := 8) rfl))) (by decide) (backOf (W := 0) (rmT0 l Z a0 hw [] b111 k111 op p3 p4 p5 p6 p6 p6 p6 p5 h127 n0 o157 V127a (by rw [if_neg (fun q => by rw [q] at hc134; exact hc134 (by decide)), if_neg (fun q => by rw [q] at hc134; exact hc134 (by decide)), if_neg (fun q => by rw [q] at hc134; exact hc134 (by decide)), if_neg hc128, if_neg hc134])) hZ (hw _ (List.mem_of_getElem? (i := 8) rfl)) (hw _ (List.mem_of_getElem? (i := 7) rfl)) (by decide) (by decide)) (g := (mkF m 155 #[.val (.int p1), .val (.int p2), .val (.int p3), .val (.int p4), .val (.int p5), .val (.int p6), .val (.int op), .val (.int (0 : Int32)), .val (.int (4 : Int32)), .val (.ref b111), .val (.int (3 : Int32)), .val (.int p5)] [(.int (0 : Int32)), (.ref b111)])) rfl (by rw [hml]; rfl) (argsL := [(.ref b111), (.int (0 : Int32))]) (rest := []) (lenOf own_pd1 rfl) rfl (by show 2 * 0 + _ ≤ _; exact Nat.le_of_eq rfl) (hb hby at_155) (fun _ _ => ⟨rfl, e158, (by decide : 1 + 0 ≤ _), (by decide : 8 + 0 ≤ _)⟩)
          dsimp only [Pt.U, Pt.locs, Pt.cells, Pt.slots] at X159 l159 y159 z159 st159 hQ159
          subst l159 y159 z159
          obtain ⟨rfl, Nq159, e159⟩ := hQ159
          have N159 := Fr.app N158 Nq159
          have hc160 : p5 = p5 := rfl
          have g161 : ∀ t, Steps p.tables e below (T159.setTop (mkF m 168 #[.val (.int p1), .val (.int p2), .val (.int p3), .val (.int p4), .val (.int p5), .val (.int p6), .val (.int op), .val (.int (0 : Int32)), .val (.int (4 : Int32)), .val (.ref b111), .val (.int (3 : Int32)), .val (.int p5)] [(.int (1 : Int32))])) t → Steps p.tables e below (s₁.setTop (entryFrame m #[(.int p1), (.int p2), (.int p3), (.int p4), (.int p5), (.int p6)] maxLocals)) t := by
            intro t k
            refine g129 t ?_
            show Steps p.tables e below (T127.setTop (mkF m 110 #[.val (.int p1), .val (.int p2), .val (.int p3), .val (.int p4), .val (.int p5), .val (.int p6), .val (.int op), .val (.int (0 : Int32)), .val (.int (4 : Int32)), .val (.ref b111), .unset, .unset] [])) _
            refine XS.iload X127.here hx rfl (hb hby at_110) rfl ?_
            show Steps p.tables e below (T127.setTop (mkF m 112 #[.val (.int p1), .val (.int p2), .val (.int p3), .val (.int p4), .val (.int p5), .val (.int p6), .val (.int op), .val (.int (0 : Int32)), .val (.int (4 : Int32)), .val (.ref b111), .unset, .unset] [(.int op)])) _
            refine st158 _ ?_
            show Steps p.tables e below (T158.setTop (mkF m 115 #[.val (.int p1), .val (.int p2), .val (.int p3), .val (.int p4), .val (.int p5), .val (.int p6), .val (.int op), .val (.int (0 : Int32)), .val (.int (4 : Int32)), .val (.ref b111), .unset, .unset] [(.int (3 : Int32))])) _
            refine XS.istore X158.here hx rfl (hb hby at_115) rfl (l' := #[.val (.int p1), .val (.int p2), .val (.int p3), .val (.int p4), .val (.int p5), .val (.int p6), .val (.int op), .val (.int (0 : Int32)), .val (.int (4 : Int32)), .val (.ref b111), .val (.int (3 : Int32)), .unset]) rfl ?_
            show Steps p.tables e below (T158.setTop (mkF m 117 #[.val (.int p1), .val (.int p2), .val (.int p3), .val (.int p4), .val (.int p5), .val (.int p6), .val (.int op), .val (.int (0 : Int32)), .val (.int (4 : Int32)), .val (.ref b111), .val (.int (3 : Int32)), .unset] [])) _
            refine XS.iload X158.here hx rfl (hb hby at_117) rfl ?_
            show Steps p.tables e below (T158.setTop (mkF m 119 #[.val (.int p1), .val (.int p2), .val (.int p3), .val (.int p4), .val (.int p5), .val (.int p6), .val (.int op), .val (.int (0 : Int32)), .val (.int (4 : Int32)), .val (.ref b111), .val (.int (3 : Int32)), .unset] [(.int (3 : Int32))])) _
            refine XS.iconst X158.here hx rfl (hb hby at_119) ?_
            show Steps p.tables e below (T158.setTop (mkF m 120 #[.val (.int p1), .val (.int p2), .val (.int p3), .val (.int p4), .val (.int p5), .val (.int p6), .val (.int op), .val (.int (0 : Int32)), .val (.int (4 : Int32)), .val (.ref b111), .val (.int (3 : Int32)), .unset] [(.int (1 : Int32)), (.int (3 : Int32))])) _
            refine XS.icmpYes X158.here hx rfl (pc0 := 120) (pc' := 127) rfl (hb hby at_120) rfl (feq (by decide : ¬ ((3 : Int32) = (1 : Int32)))).2 (by decide) (by decide) ?_
            show Steps p.tables e below (T158.setTop (mkF m 127 #[.val (.int p1), .val (.int p2), .val (.int p3), .val (.int p4), .val (.int p5), .val (.int p6), .val (.int op), .val (.int (0 : Int32)), .val (.int (4 : Int32)), .val (.ref b111), .val (.int (3 : Int32)), .unset] [])) _
            refine XS.iload X158.here hx rfl (hb hby at_127) rfl ?_
            show Steps p.tables e below (T158.setTop (mkF m 129 #[.val (.int p1), .val (.int p2), .val (.int p3), .val (.int p4), .val (.int p5), .val (.int p6), .val (.int op), .val (.int (0 : Int32)), .val (.int (4 : Int32)), .val (.ref b111), .val (.int (3 : Int32)), .unset] [(.int (3 : Int32))])) _
            refine XS.iconst X158.here hx rfl (hb hby at_129) ?_
            show Steps p.tables e below (T158.setTop (mkF m 130 #[.val (.int p1), .val (.int p2), .val (.int p3), .val (.int p4), .val (.int p5), .val (.int p6), .val (.int op), .val (.int (0 : Int32)), .val (.int (4 : Int32)), .val (.ref b111), .val (.int (3 : Int32)), .unset] [(.int (2 : Int32)), (.int (3 : Int32))])) _
            refine XS.icmpYes X158.here hx rfl (pc0 := 130) (pc' := 137) rfl (hb hby at_130) rfl (feq (by decide : ¬ ((3 : Int32) = (2 : Int32)))).2 (by decide) (by decide) ?_
            show Steps p.tables e below (T158.setTop (mkF m 137 #[.val (.int p1), .val (.int p2), .val (.int p3), .val (.int p4), .val (.int p5), .val (.int p6), .val (.int op), .val (.int (0 : Int32)), .val (.int (4 : Int32)), .val (.ref b111), .val (.int (3 : Int32)), .unset] [])) _
            refine XS.iload X158.here hx rfl (hb hby at_137) rfl ?_
            show Steps p.tables e below (T158.setTop (mkF m 139 #[.val (.int p1), .val (.int p2), .val (.int p3), .val (.int p4), .val (.int p5), .val (.int p6), .val (.int op), .val (.int (0 : Int32)), .val (.int (4 : Int32)), .val (.ref b111), .val (.int (3 : Int32)), .unset] [(.int (3 : Int32))])) _
            refine XS.iconst X158.here hx rfl (hb hby at_139) ?_
            show Steps p.tables e below (T158.setTop (mkF m 140 #[.val (.int p1), .val (.int p2), .val (.int p3), .val (.int p4), .val (.int p5), .val (.int p6), .val (.int op), .val (.int (0 : Int32)), .val (.int (4 : Int32)), .val (.ref b111), .val (.int (3 : Int32)), .unset] [(.int (3 : Int32)), (.int (3 : Int32))])) _
            refine XS.icmpNo X158.here hx rfl (hb hby at_140) rfl (teq (by decide : (3 : Int32) = (3 : Int32))).2 ?_
            show Steps p.tables e below (T158.setTop (mkF m 143 #[.val (.int p1), .val (.int p2), .val (.int p3), .val (.int p4), .val (.int p5), .val (.int p6), .val (.int op), .val (.int (0 : Int32)), .val (.int (4 : Int32)), .val (.ref b111), .val (.int (3 : Int32)), .unset] [])) _
            refine XS.iload X158.here hx rfl (hb hby at_143) rfl ?_
            show Steps p.tables e below (T158.setTop (mkF m 145 #[.val (.int p1), .val (.int p2), .val (.int p3), .val (.int p4), .val (.int p5), .val (.int p6), .val (.int op), .val (.int (0 : Int32)), .val (.int (4 : Int32)), .val (.ref b111), .val (.int (3 : Int32)), .unset] [(.int p5)])) _
            refine XS.goto X158.here hx rfl (pc0 := 145) (pc' := 149) rfl (hb hby at_145) (by decide) (by decide) ?_
            show Steps p.tables e below (T158.setTop (mkF m 149 #[.val (.int p1), .val (.int p2), .val (.int p3), .val (.int p4), .val (.int p5), .val (.int p6), .val (.int op), .val (.int (0 : Int32)), .val (.int (4 : Int32)), .val (.ref b111), .val (.int (3 : Int32)), .unset] [(.int p5)])) _
            refine XS.istore X158.here hx rfl (hb hby at_149) rfl (l' := #[.val (.int p1), .val (.int p2), .val (.int p3), .val (.int p4), .val (.int p5), .val (.int p6), .val (.int op), .val (.int (0 : Int32)), .val (.int (4 : Int32)), .val (.ref b111), .val (.int (3 : Int32)), .val (.int p5)]) rfl ?_
            show Steps p.tables e below (T158.setTop (mkF m 151 #[.val (.int p1), .val (.int p2), .val (.int p3), .val (.int p4), .val (.int p5), .val (.int p6), .val (.int op), .val (.int (0 : Int32)), .val (.int (4 : Int32)), .val (.ref b111), .val (.int (3 : Int32)), .val (.int p5)] [])) _
            refine XS.aload X158.here hx rfl (hb hby at_151) rfl rfl ?_
            show Steps p.tables e below (T158.setTop (mkF m 153 #[.val (.int p1), .val (.int p2), .val (.int p3), .val (.int p4), .val (.int p5), .val (.int p6), .val (.int op), .val (.int (0 : Int32)), .val (.int (4 : Int32)), .val (.ref b111), .val (.int (3 : Int32)), .val (.int p5)] [(.ref b111)])) _
            refine XS.iload X158.here hx rfl (hb hby at_153) rfl ?_
            show Steps p.tables e below (T158.setTop (mkF m 155 #[.val (.int p1), .val (.int p2), .val (.int p3), .val (.int p4), .val (.int p5), .val (.int p6), .val (.int op), .val (.int (0 : Int32)), .val (.int (4 : Int32)), .val (.ref b111), .val (.int (3 : Int32)), .val (.int p5)] [(.int (0 : Int32)), (.ref b111)])) _
            refine st159 _ ?_
            show Steps p.tables e below (T159.setTop (mkF m 158 #[.val (.int p1), .val (.int p2), .val (.int p3), .val (.int p4), .val (.int p5), .val (.int p6), .val (.int op), .val (.int (0 : Int32)), .val (.int (4 : Int32)), .val (.ref b111), .val (.int (3 : Int32)), .val (.int p5)] [(.int p5)])) _
            refine XS.iload X159.here hx rfl (hb hby at_158) rfl ?_
            show Steps p.tables e below (T159.setTop (mkF m 160 #[.val (.int p1), .val (.int p2), .val (.int p3), .val (.int p4), .val (.int p5), .val (.int p6), .val (.int op), .val (.int (0 : Int32)), .val (.int (4 : Int32)), .val (.ref b111), .val (.int (3 : Int32)), .val (.int p5)] [(.int p5), (.int p5)])) _
            refine XS.icmpNo X159.here hx rfl (hb hby at_160) rfl (teq hc160).2 ?_
            show Steps p.tables e below (T159.setTop (mkF m 163 #[.val (.int p1), .val (.int p2), .val (.int p3), .val (.int p4), .val (.int p5), .val (.int p6), .val (.int op), .val (.int (0 : Int32)), .val (.int (4 : Int32)), .val (.ref b111), .val (.int (3 : Int32)), .val (.int p5)] [])) _
            refine XS.iconst X159.here hx rfl (hb hby at_163) ?_
            show Steps p.tables e below (T159.setTop (mkF m 164 #[.val (.int p1), .val (.int p2), .val (.int p3), .val (.int p4), .val (.int p5), .val (.int p6), .val (.int op), .val (.int (0 : Int32)), .val (.int (4 : Int32)), .val (.ref b111), .val (.int (3 : Int32)), .val (.int p5)] [(.int (1 : Int32))])) _
            refine XS.goto X159.here hx rfl (pc0 := 164) (pc' := 168) rfl (hb hby at_164) (by decide) (by decide) ?_
            exact k
          obtain ⟨fs, hrt, hrun, hended, hW, hsame⟩ := X159.leave (v := some (.int (1 : Int32))) (fun h => by rw [Bd.returns] at h; cases h)
          refine ⟨_, _, g161 _ ?_, hrun, hended, _, _, rfl, ?_, ⟨_, rfl⟩, hW, hsame.mono (by decide) (by decide)⟩
          · show Steps p.tables e below (T159.setTop (mkF m 168 #[.val (.int p1), .val (.int p2), .val (.int p3), .val (.int p4), .val (.int p5), .val (.int p6), .val (.int op), .val (.int (0 : Int32)), .val (.int (4 : Int32)), .val (.ref b111), .val (.int (3 : Int32)), .val (.int p5)] [(.int (1 : Int32))])) _
            exact retN X159 hx (t := .boolean) Bd.returns (by simp) (hb hby at_168) hrt
          · show own_Q_rm0 Z p1 p2 p3 p4 p5 p6 h0 n0 _ T159.heap _
            rw [e159]
            exact ⟨rfl, N159⟩
    · obtain ⟨T162, h162, k162, X162, e162, E162, A162, st162⟩ := newP X0 hx hZ (hw _ (List.mem_of_getElem? (i := 0) rfl)) e0 (g := (mkF m 40 #[.val (.int p1), .val (.int p2), .val (.int p3), .val (.int p4), .val (.int p5), .val (.int p6), .val (.int op), .val (.int (4 : Int32)), .val (.int (0 : Int32)), .unset, .unset, .unset] [(.int (8 : Int32))])) rfl (hb hby at_40) rfl (by decide) (cap := 8) (by decide) (by decide) (by decide) (by decide)
      obtain ⟨b162, q_b162⟩ : ∃ z, z = h0.size := ⟨_, rfl⟩
      rw [← q_b162] at A162 st162
      have sz_b162 : h0.size ≤ b162 := Nat.le_of_eq q_b162.symm
      have gz_b162 : n0 ≤ b162 := Nat.le_trans Z0 sz_b162
      have V162 : Arv Z h162 b162 k162 .int (8 : Int32) [(.int (0 : Int32)), (.int (0 : Int32)), (.int (0 : Int32)), (.int (0 : Int32)), (.int (0 : Int32)), (.int (0 : Int32)), (.int (0 : Int32)), (.int (0 : Int32))] (.int (0 : Int32)) := (Arv.new A162 (by decide)).pad (pad_rep [] (.int (0 : Int32)) 8)
      obtain ⟨c163, Ar163, cq163, S163, Nn163, Hh163, Gg163⟩ := id V162
      have hin163 : ¬ ((0 : Int32) < 0 ∨ c163.slots.size ≤ ((0 : Int32)).toNatClampNeg) := inb_of S163 ⟨by decide, by decide⟩
      obtain ⟨T164, h164, X164, e164, W164, st164⟩ := stI X162 hx hZ e162 Ar163 (j := (0 : Int32)) hin163 (g := (mkF m 50 #[.val (.int p1), .val (.int p2), .val (.int p3), .val (.int p4), .val (.int p5), .val (.int p6), .val (.int op), .val (.int (4 : Int32)), .val (.int (0 : Int32)), .val (.ref b162), .unset, .unset] [(.int p6), (.int (0 : Int32)), (.ref b162)])) rfl rfl (hb hby at_50)
      have V164 := Arv.set Ar163 cq163 S163 Nn163 Hh163 Gg163 rfl W164 0 rfl (Nat.le_of_ble_eq_true rfl)
      have V164a : Arv Z h164 b162 k162 .int (8 : Int32) [(.int p6), (.int (0 : Int32)), (.int (0 : Int32)), (.int (0 : Int32)), (.int (0 : Int32)), (.int (0 : Int32)), (.int (0 : Int32)), (.int (0 : Int32))] (.int (0 : Int32)) := V164
      have N164 := Fr.snoc X164 N0 gz_b162
      obtain ⟨c165, Ar165, cq165, S165, Nn165, Hh165, Gg165⟩ := id V164a
      have hin165 : ¬ ((1 : Int32) < 0 ∨ c165.slots.size ≤ ((1 : Int32)).toNatClampNeg) := inb_of S165 ⟨by decide, by decide⟩
      obtain ⟨T166, h166, X166, e166, W166, st166⟩ := stI X164 hx hZ e164 Ar165 (j := (1 : Int32)) hin165 (g := (mkF m 59 #[.val (.int p1), .val (.int p2), .val (.int p3), .val (.int p4), .val (.int p5), .val (.int p6), .val (.int op), .val (.int (4 : Int32)), .val (.int (0 : Int32)), .val (.ref b162), .unset, .unset] [(.int p6), (.int (1 : Int32)), (.ref b162)])) rfl rfl (hb hby at_59)
      have V166 := Arv.set Ar165 cq165 S165 Nn165 Hh165 Gg165 rfl W166 1 rfl (Nat.le_of_ble_eq_true rfl)
      have V166a : Arv Z h166 b162 k162 .int (8 : Int32) [(.int p6), (.int p6), (.int (0 : Int32)), (.int (0 : Int32)), (.int (0 : Int32)), (.int (0 : Int32)), (.int (0 : Int32)), (.int (0 : Int32))] (.int (0 : Int32)) := V166
      have N166 := Fr.snoc X166 N164 gz_b162
      obtain ⟨c167, Ar167, cq167, S167, Nn167, Hh167, Gg167⟩ := id V166a
      have hin167 : ¬ ((2 : Int32) < 0 ∨ c167.slots.size ≤ ((2 : Int32)).toNatClampNeg) := inb_of S167 ⟨by decide, by decide⟩
      obtain ⟨T168, h168, X168, e168, W168, st168⟩ := stI X166 hx hZ e166 Ar167 (j := (2 : Int32)) hin167 (g := (mkF m 68 #[.val (.int p1), .val (.int p2), .val (.int p3), .val (.int p4), .val (.int p5), .val (.int p6), .val (.int op), .val (.int (4 : Int32)), .val (.int (0 : Int32)), .val (.ref b162), .unset, .unset] [(.int p6), (.int (2 : Int32)), (.ref b162)])) rfl rfl (hb hby at_68)
      have V168 := Arv.set Ar167 cq167 S167 Nn167 Hh167 Gg167 rfl W168 2 rfl (Nat.le_of_ble_eq_true rfl)
      have V168a : Arv Z h168 b162 k162 .int (8 : Int32) [(.int p6), (.int p6), (.int p6), (.int (0 : Int32)), (.int (0 : Int32)), (.int (0 : Int32)), (.int (0 : Int32)), (.int (0 : Int32))] (.int (0 : Int32)) := V168
      have N168 := Fr.snoc X168 N166 gz_b162
      obtain ⟨c169, Ar169, cq169, S169, Nn169, Hh169, Gg169⟩ := id V168a
      have hin169 : ¬ ((3 : Int32) < 0 ∨ c169.slots.size ≤ ((3 : Int32)).toNatClampNeg) := inb_of S169 ⟨by decide, by decide⟩
      obtain ⟨T170, h170, X170, e170, W170, st170⟩ := stI X168 hx hZ e168 Ar169 (j := (3 : Int32)) hin169 (g := (mkF m 77 #[.val (.int p1), .val (.int p2), .val (.int p3), .val (.int p4), .val (.int p5), .val (.int p6), .val (.int op), .val (.int (4 : Int32)), .val (.int (0 : Int32)), .val (.ref b162), .unset, .unset] [(.int p6), (.int (3 : Int32)), (.ref b162)])) rfl rfl (hb hby at_77)
      have V170 := Arv.set Ar169 cq169 S169 Nn169 Hh169 Gg169 rfl W170 3 rfl (Nat.le_of_ble_eq_true rfl)
      have V170a : Arv Z h170 b162 k162 .int (8 : Int32) [(.int p6), (.int p6), (.int p6), (.int p6), (.int (0 : Int32)), (.int (0 : Int32)), (.int (0 : Int32)), (.int (0 : Int32))] (.int (0 : Int32)) := V170
      have N170 := Fr.snoc X170 N168 gz_b162
      obtain ⟨c171, Ar171, cq171, S171, Nn171, Hh171, Gg171⟩ := id V170a
      have hin171 : ¬ ((4 : Int32) < 0 ∨ c171.slots.size ≤ ((4 : Int32)).toNatClampNeg) := inb_of S171 ⟨by decide, by decide⟩
      obtain ⟨T172, h172, X172, e172, W172, st172⟩ := stI X170 hx hZ e170 Ar171 (j := (4 : Int32)) hin171 (g := (mkF m 84 #[.val (.int p1), .val (.int p2), .val (.int p3), .val (.int p4), .val (.int p5), .val (.int p6), .val (.int op), .val (.int (4 : Int32)), .val (.int (0 : Int32)), .val (.ref b162), .unset, .unset] [(.int op), (.int (4 : Int32)), (.ref b162)])) rfl rfl (hb hby at_84)
      have V172 := Arv.set Ar171 cq171 S171 Nn171 Hh171 Gg171 rfl W172 4 rfl (Nat.le_of_ble_eq_true rfl)
      have V172a : Arv Z h172 b162 k162 .int (8 : Int32) [(.int p6), (.int p6), (.int p6), (.int p6), (.int op), (.int (0 : Int32)), (.int (0 : Int32)), (.int (0 : Int32))] (.int (0 : Int32)) := V172
      have N172 := Fr.snoc X172 N170 gz_b162
      obtain ⟨c173, Ar173, cq173, S173, Nn173, Hh173, Gg173⟩ := id V172a
      have hin173 : ¬ ((5 : Int32) < 0 ∨ c173.slots.size ≤ ((5 : Int32)).toNatClampNeg) := inb_of S173 ⟨by decide, by decide⟩
      obtain ⟨T174, h174, X174, e174, W174, st174⟩ := stI X172 hx hZ e172 Ar173 (j := (5 : Int32)) hin173 (g := (mkF m 92 #[.val (.int p1), .val (.int p2), .val (.int p3), .val (.int p4), .val (.int p5), .val (.int p6), .val (.int op), .val (.int (4 : Int32)), .val (.int (0 : Int32)), .val (.ref b162), .unset, .unset] [(.int p3), (.int (5 : Int32)), (.ref b162)])) rfl rfl (hb hby at_92)
      have V174 := Arv.set Ar173 cq173 S173 Nn173 Hh173 Gg173 rfl W174 5 rfl (Nat.le_of_ble_eq_true rfl)
      have V174a : Arv Z h174 b162 k162 .int (8 : Int32) [(.int p6), (.int p6), (.int p6), (.int p6), (.int op), (.int p3), (.int (0 : Int32)), (.int (0 : Int32))] (.int (0 : Int32)) := V174
      have N174 := Fr.snoc X174 N172 gz_b162
      obtain ⟨c175, Ar175, cq175, S175, Nn175, Hh175, Gg175⟩ := id V174a
      have hin175 : ¬ ((6 : Int32) < 0 ∨ c175.slots.size ≤ ((6 : Int32)).toNatClampNeg) := inb_of S175 ⟨by decide, by decide⟩
      obtain ⟨T176, h176, X176, e176, W176, st176⟩ := stI X174 hx hZ e174 Ar175 (j := (6 : Int32)) hin175 (g := (mkF m 100 #[.val (.int p1), .val (.int p2), .val (.int p3), .val (.int p4), .val (.int p5), .val (.int p6), .val (.int op), .val (.int (4 : Int32)), .val (.int (0 : Int32)), .val (.ref b162), .unset, .unset] [(.int p4), (.int (6 : Int32)), (.ref b162)])) rfl rfl (hb hby at_100)
      have V176 := Arv.set Ar175 cq175 S175 Nn175 Hh175 Gg175 rfl W176 6 rfl (Nat.le_of_ble_eq_true rfl)
      have V176a : Arv Z h176 b162 k162 .int (8 : Int32) [(.int p6), (.int p6), (.int p6), (.int p6), (.int op), (.int p3), (.int p4), (.int (0 : Int32))] (.int (0 : Int32)) := V176
      have N176 := Fr.snoc X176 N174 gz_b162
      obtain ⟨c177, Ar177, cq177, S177, Nn177, Hh177, Gg177⟩ := id V176a
      have hin177 : ¬ ((7 : Int32) < 0 ∨ c177.slots.size ≤ ((7 : Int32)).toNatClampNeg) := inb_of S177 ⟨by decide, by decide⟩
      obtain ⟨T178, h178, X178, e178, W178, st178⟩ := stI X176 hx hZ e176 Ar177 (j := (7 : Int32)) hin177 (g := (mkF m 109 #[.val (.int p1), .val (.int p2), .val (.int p3), .val (.int p4), .val (.int p5), .val (.int p6), .val (.int op), .val (.int (4 : Int32)), .val (.int (0 : Int32)), .val (.ref b162), .unset, .unset] [(.int p5), (.int (7 : Int32)), (.ref b162)])) rfl rfl (hb hby at_109)
      have V178 := Arv.set Ar177 cq177 S177 Nn177 Hh177 Gg177 rfl W178 7 rfl (Nat.le_of_ble_eq_true rfl)
      have V178a : Arv Z h178 b162 k162 .int (8 : Int32) [(.int p6), (.int p6), (.int p6), (.int p6), (.int op), (.int p3), (.int p4), (.int p5)] (.int (0 : Int32)) := V178
      have N178 := Fr.snoc X178 N176 gz_b162
      have g180 : ∀ t, Steps p.tables e below (T178.setTop (mkF m 110 #[.val (.int p1), .val (.int p2), .val (.int p3), .val (.int p4), .val (.int p5), .val (.int p6), .val (.int op), .val (.int (4 : Int32)), .val (.int (0 : Int32)), .val (.ref b162), .unset, .unset] [])) t → Steps p.tables e below (s₁.setTop (entryFrame m #[(.int p1), (.int p2), (.int p3), (.int p4), (.int p5), (.int p6)] maxLocals)) t := by
        intro t k
        refine g110 t ?_
        show Steps p.tables e below (s₁.setTop (mkF m 22 #[.val (.int p1), .val (.int p2), .val (.int p3), .val (.int p4), .val (.int p5), .val (.int p6), .val (.int op), .unset, .unset, .unset, .unset, .unset] [(.int (p1 &&& (1 : Int32)))])) _
        refine XS.ifNo X0.here hx rfl (hb hby at_22) rfl ((if0 _ _).trans (feq hc109).1) ?_
        show Steps p.tables e below (s₁.setTop (mkF m 25 #[.val (.int p1), .val (.int p2), .val (.int p3), .val (.int p4), .val (.int p5), .val (.int p6), .val (.int op), .unset, .unset, .unset, .unset, .unset] [])) _
        refine XS.iconst X0.here hx rfl (hb hby at_25) ?_
        show Steps p.tables e below (s₁.setTop (mkF m 26 #[.val (.int p1), .val (.int p2), .val (.int p3), .val (.int p4), .val (.int p5), .val (.int p6), .val (.int op), .unset, .unset, .unset, .unset, .unset] [(.int (4 : Int32))])) _
        refine XS.goto X0.here hx rfl (pc0 := 26) (pc' := 30) rfl (hb hby at_26) (by decide) (by decide) ?_
        show Steps p.tables e below (s₁.setTop (mkF m 30 #[.val (.int p1), .val (.int p2), .val (.int p3), .val (.int p4), .val (.int p5), .val (.int p6), .val (.int op), .unset, .unset, .unset, .unset, .unset] [(.int (4 : Int32))])) _
        refine XS.istore X0.here hx rfl (hb hby at_30) rfl (l' := #[.val (.int p1), .val (.int p2), .val (.int p3), .val (.int p4), .val (.int p5), .val (.int p6), .val (.int op), .val (.int (4 : Int32)), .unset, .unset, .unset, .unset]) rfl ?_
        show Steps p.tables e below (s₁.setTop (mkF m 32 #[.val (.int p1), .val (.int p2), .val (.int p3), .val (.int p4), .val (.int p5), .val (.int p6), .val (.int op), .val (.int (4 : Int32)), .unset, .unset, .unset, .unset] [])) _
        refine XS.iconst X0.here hx rfl (hb hby at_32) ?_
        show Steps p.tables e below (s₁.setTop (mkF m 33 #[.val (.int p1), .val (.int p2), .val (.int p3), .val (.int p4), .val (.int p5), .val (.int p6), .val (.int op), .val (.int (4 : Int32)), .unset, .unset, .unset, .unset] [(.int (4 : Int32))])) _
        refine XS.iload X0.here hx rfl (hb hby at_33) rfl ?_
        show Steps p.tables e below (s₁.setTop (mkF m 35 #[.val (.int p1), .val (.int p2), .val (.int p3), .val (.int p4), .val (.int p5), .val (.int p6), .val (.int op), .val (.int (4 : Int32)), .unset, .unset, .unset, .unset] [(.int (4 : Int32)), (.int (4 : Int32))])) _
        refine XS.isub X0.here hx rfl (hb hby at_35) rfl ?_
        rw [show ((4 : Int32) - (4 : Int32)) = (0 : Int32) from by decide]
        show Steps p.tables e below (s₁.setTop (mkF m 36 #[.val (.int p1), .val (.int p2), .val (.int p3), .val (.int p4), .val (.int p5), .val (.int p6), .val (.int op), .val (.int (4 : Int32)), .unset, .unset, .unset, .unset] [(.int (0 : Int32))])) _
        refine XS.istore X0.here hx rfl (hb hby at_36) rfl (l' := #[.val (.int p1), .val (.int p2), .val (.int p3), .val (.int p4), .val (.int p5), .val (.int p6), .val (.int op), .val (.int (4 : Int32)), .val (.int (0 : Int32)), .unset, .unset, .unset]) rfl ?_
        show Steps p.tables e below (s₁.setTop (mkF m 38 #[.val (.int p1), .val (.int p2), .val (.int p3), .val (.int p4), .val (.int p5), .val (.int p6), .val (.int op), .val (.int (4 : Int32)), .val (.int (0 : Int32)), .unset, .unset, .unset] [])) _
        refine XS.bipush X0.here hx rfl (hb hby at_38) ?_
        show Steps p.tables e below (s₁.setTop (mkF m 40 #[.val (.int p1), .val (.int p2), .val (.int p3), .val (.int p4), .val (.int p5), .val (.int p6), .val (.int op), .val (.int (4 : Int32)), .val (.int (0 : Int32)), .unset, .unset, .unset] [(.int (8 : Int32))])) _
        refine st162 _ ?_
        show Steps p.tables e below (T162.setTop (mkF m 42 #[.val (.int p1), .val (.int p2), .val (.int p3), .val (.int p4), .val (.int p5), .val (.int p6), .val (.int op), .val (.int (4 : Int32)), .val (.int (0 : Int32)), .unset, .unset, .unset] [(.ref b162)])) _
        refine XS.astore X162.here hx rfl (hb hby at_42) rfl rfl (l' := #[.val (.int p1), .val (.int p2), .val (.int p3), .val (.int p4), .val (.int p5), .val (.int p6), .val (.int op), .val (.int (4 : Int32)), .val (.int (0 : Int32)), .val (.ref b162), .unset, .unset]) rfl ?_
        show Steps p.tables e below (T162.setTop (mkF m 44 #[.val (.int p1), .val (.int p2), .val (.int p3), .val (.int p4), .val (.int p5), .val (.int p6), .val (.int op), .val (.int (4 : Int32)), .val (.int (0 : Int32)), .val (.ref b162), .unset, .unset] [])) _
        refine XS.aload X162.here hx rfl (hb hby at_44) rfl rfl ?_
        show Steps p.tables e below (T162.setTop (mkF m 46 #[.val (.int p1), .val (.int p2), .val (.int p3), .val (.int p4), .val (.int p5), .val (.int p6), .val (.int op), .val (.int (4 : Int32)), .val (.int (0 : Int32)), .val (.ref b162), .unset, .unset] [(.ref b162)])) _
        refine XS.iload X162.here hx rfl (hb hby at_46) rfl ?_
        show Steps p.tables e below (T162.setTop (mkF m 48 #[.val (.int p1), .val (.int p2), .val (.int p3), .val (.int p4), .val (.int p5), .val (.int p6), .val (.int op), .val (.int (4 : Int32)), .val (.int (0 : Int32)), .val (.ref b162), .unset, .unset] [(.int (0 : Int32)), (.ref b162)])) _
        refine XS.iload X162.here hx rfl (hb hby at_48) rfl ?_
        show Steps p.tables e below (T162.setTop (mkF m 50 #[.val (.int p1), .val (.int p2), .val (.int p3), .val (.int p4), .val (.int p5), .val (.int p6), .val (.int op), .val (.int (4 : Int32)), .val (.int (0 : Int32)), .val (.ref b162), .unset, .unset] [(.int p6), (.int (0 : Int32)), (.ref b162)])) _
        refine st164 _ ?_
        show Steps p.tables e below (T164.setTop (mkF m 51 #[.val (.int p1), .val (.int p2), .val (.int p3), .val (.int p4), .val (.int p5), .val (.int p6), .val (.int op), .val (.int (4 : Int32)), .val (.int (0 : Int32)), .val (.ref b162), .unset, .unset] [])) _
        refine XS.aload X164.here hx rfl (hb hby at_51) rfl rfl ?_
        show Steps p.tables e below (T164.setTop (mkF m 53 #[.val (.int p1), .val (.int p2), .val (.int p3), .val (.int p4), .val (.int p5), .val (.int p6), .val (.int op), .val (.int (4 : Int32)), .val (.int (0 : Int32)), .val (.ref b162), .unset, .unset] [(.ref b162)])) _
        refine XS.iload X164.here hx rfl (hb hby at_53) rfl ?_
        show Steps p.tables e below (T164.setTop (mkF m 55 #[.val (.int p1), .val (.int p2), .val (.int p3), .val (.int p4), .val (.int p5), .val (.int p6), .val (.int op), .val (.int (4 : Int32)), .val (.int (0 : Int32)), .val (.ref b162), .unset, .unset] [(.int (0 : Int32)), (.ref b162)])) _
        refine XS.iconst X164.here hx rfl (hb hby at_55) ?_
        show Steps p.tables e below (T164.setTop (mkF m 56 #[.val (.int p1), .val (.int p2), .val (.int p3), .val (.int p4), .val (.int p5), .val (.int p6), .val (.int op), .val (.int (4 : Int32)), .val (.int (0 : Int32)), .val (.ref b162), .unset, .unset] [(.int (1 : Int32)), (.int (0 : Int32)), (.ref b162)])) _
        refine XS.iadd X164.here hx rfl (hb hby at_56) rfl ?_
        rw [show ((0 : Int32) + (1 : Int32)) = (1 : Int32) from by decide]
        show Steps p.tables e below (T164.setTop (mkF m 57 #[.val (.int p1), .val (.int p2), .val (.int p3), .val (.int p4), .val (.int p5), .val (.int p6), .val (.int op), .val (.int (4 : Int32)), .val (.int (0 : Int32)), .val (.ref b162), .unset, .unset] [(.int (1 : Int32)), (.ref b162)])) _
        refine XS.iload X164.here hx rfl (hb hby at_57) rfl ?_
        show Steps p.tables e below (T164.setTop (mkF m 59 #[.val (.int p1), .val (.int p2), .val (.int p3), .val (.int p4), .val (.int p5), .val (.int p6), .val (.int op), .val (.int (4 : Int32)), .val (.int (0 : Int32)), .val (.ref b162), .unset, .unset] [(.int p6), (.int (1 : Int32)), (.ref b162)])) _
        refine st166 _ ?_
        show Steps p.tables e below (T166.setTop (mkF m 60 #[.val (.int p1), .val (.int p2), .val (.int p3), .val (.int p4), .val (.int p5), .val (.int p6), .val (.int op), .val (.int (4 : Int32)), .val (.int (0 : Int32)), .val (.ref b162), .unset, .unset] [])) _
        refine XS.aload X166.here hx rfl (hb hby at_60) rfl rfl ?_
        show Steps p.tables e below (T166.setTop (mkF m 62 #[.val (.int p1), .val (.int p2), .val (.int p3), .val (.int p4), .val (.int p5), .val (.int p6), .val (.int op), .val (.int (4 : Int32)), .val (.int (0 : Int32)), .val (.ref b162), .unset, .unset] [(.ref b162)])) _
        refine XS.iload X166.here hx rfl (hb hby at_62) rfl ?_
        show Steps p.tables e below (T166.setTop (mkF m 64 #[.val (.int p1), .val (.int p2), .val (.int p3), .val (.int p4), .val (.int p5), .val (.int p6), .val (.int op), .val (.int (4 : Int32)), .val (.int (0 : Int32)), .val (.ref b162), .unset, .unset] [(.int (0 : Int32)), (.ref b162)])) _
        refine XS.iconst X166.here hx rfl (hb hby at_64) ?_
        show Steps p.tables e below (T166.setTop (mkF m 65 #[.val (.int p1), .val (.int p2), .val (.int p3), .val (.int p4), .val (.int p5), .val (.int p6), .val (.int op), .val (.int (4 : Int32)), .val (.int (0 : Int32)), .val (.ref b162), .unset, .unset] [(.int (2 : Int32)), (.int (0 : Int32)), (.ref b162)])) _
        refine XS.iadd X166.here hx rfl (hb hby at_65) rfl ?_
        rw [show ((0 : Int32) + (2 : Int32)) = (2 : Int32) from by decide]
        show Steps p.tables e below (T166.setTop (mkF m 66 #[.val (.int p1), .val (.int p2), .val (.int p3), .val (.int p4), .val (.int p5), .val (.int p6), .val (.int op), .val (.int (4 : Int32)), .val (.int (0 : Int32)), .val (.ref b162), .unset, .unset] [(.int (2 : Int32)), (.ref b162)])) _
        refine XS.iload X166.here hx rfl (hb hby at_66) rfl ?_
        show Steps p.tables e below (T166.setTop (mkF m 68 #[.val (.int p1), .val (.int p2), .val (.int p3), .val (.int p4), .val (.int p5), .val (.int p6), .val (.int op), .val (.int (4 : Int32)), .val (.int (0 : Int32)), .val (.ref b162), .unset, .unset] [(.int p6), (.int (2 : Int32)), (.ref b162)])) _
        refine st168 _ ?_
        show Steps p.tables e below (T168.setTop (mkF m 69 #[.val (.int p1), .val (.int p2), .val (.int p3), .val (.int p4), .val (.int p5), .val (.int p6), .val (.int op), .val (.int (4 : Int32)), .val (.int (0 : Int32)), .val (.ref b162), .unset, .unset] [])) _
        refine XS.aload X168.here hx rfl (hb hby at_69) rfl rfl ?_
        show Steps p.tables e below (T168.setTop (mkF m 71 #[.val (.int p1), .val (.int p2), .val (.int p3), .val (.int p4), .val (.int p5), .val (.int p6), .val (.int op), .val (.int (4 : Int32)), .val (.int (0 : Int32)), .val (.ref b162), .unset, .unset] [(.ref b162)])) _
        refine XS.iload X168.here hx rfl (hb hby at_71) rfl ?_
        show Steps p.tables e below (T168.setTop (mkF m 73 #[.val (.int p1), .val (.int p2), .val (.int p3), .val (.int p4), .val (.int p5), .val (.int p6), .val (.int op), .val (.int (4 : Int32)), .val (.int (0 : Int32)), .val (.ref b162), .unset, .unset] [(.int (0 : Int32)), (.ref b162)])) _
        refine XS.iconst X168.here hx rfl (hb hby at_73) ?_
        show Steps p.tables e below (T168.setTop (mkF m 74 #[.val (.int p1), .val (.int p2), .val (.int p3), .val (.int p4), .val (.int p5), .val (.int p6), .val (.int op), .val (.int (4 : Int32)), .val (.int (0 : Int32)), .val (.ref b162), .unset, .unset] [(.int (3 : Int32)), (.int (0 : Int32)), (.ref b162)])) _
        refine XS.iadd X168.here hx rfl (hb hby at_74) rfl ?_
        rw [show ((0 : Int32) + (3 : Int32)) = (3 : Int32) from by decide]
        show Steps p.tables e below (T168.setTop (mkF m 75 #[.val (.int p1), .val (.int p2), .val (.int p3), .val (.int p4), .val (.int p5), .val (.int p6), .val (.int op), .val (.int (4 : Int32)), .val (.int (0 : Int32)), .val (.ref b162), .unset, .unset] [(.int (3 : Int32)), (.ref b162)])) _
        refine XS.iload X168.here hx rfl (hb hby at_75) rfl ?_
        show Steps p.tables e below (T168.setTop (mkF m 77 #[.val (.int p1), .val (.int p2), .val (.int p3), .val (.int p4), .val (.int p5), .val (.int p6), .val (.int op), .val (.int (4 : Int32)), .val (.int (0 : Int32)), .val (.ref b162), .unset, .unset] [(.int p6), (.int (3 : Int32)), (.ref b162)])) _
        refine st170 _ ?_
        show Steps p.tables e below (T170.setTop (mkF m 78 #[.val (.int p1), .val (.int p2), .val (.int p3), .val (.int p4), .val (.int p5), .val (.int p6), .val (.int op), .val (.int (4 : Int32)), .val (.int (0 : Int32)), .val (.ref b162), .unset, .unset] [])) _
        refine XS.aload X170.here hx rfl (hb hby at_78) rfl rfl ?_
        show Steps p.tables e below (T170.setTop (mkF m 80 #[.val (.int p1), .val (.int p2), .val (.int p3), .val (.int p4), .val (.int p5), .val (.int p6), .val (.int op), .val (.int (4 : Int32)), .val (.int (0 : Int32)), .val (.ref b162), .unset, .unset] [(.ref b162)])) _
        refine XS.iload X170.here hx rfl (hb hby at_80) rfl ?_
        show Steps p.tables e below (T170.setTop (mkF m 82 #[.val (.int p1), .val (.int p2), .val (.int p3), .val (.int p4), .val (.int p5), .val (.int p6), .val (.int op), .val (.int (4 : Int32)), .val (.int (0 : Int32)), .val (.ref b162), .unset, .unset] [(.int (4 : Int32)), (.ref b162)])) _
        refine XS.iload X170.here hx rfl (hb hby at_82) rfl ?_
        show Steps p.tables e below (T170.setTop (mkF m 84 #[.val (.int p1), .val (.int p2), .val (.int p3), .val (.int p4), .val (.int p5), .val (.int p6), .val (.int op), .val (.int (4 : Int32)), .val (.int (0 : Int32)), .val (.ref b162), .unset, .unset] [(.int op), (.int (4 : Int32)), (.ref b162)])) _
        refine st172 _ ?_
        show Steps p.tables e below (T172.setTop (mkF m 85 #[.val (.int p1), .val (.int p2), .val (.int p3), .val (.int p4), .val (.int p5), .val (.int p6), .val (.int op), .val (.int (4 : Int32)), .val (.int (0 : Int32)), .val (.ref b162), .unset, .unset] [])) _
        refine XS.aload X172.here hx rfl (hb hby at_85) rfl rfl ?_
        show Steps p.tables e below (T172.setTop (mkF m 87 #[.val (.int p1), .val (.int p2), .val (.int p3), .val (.int p4), .val (.int p5), .val (.int p6), .val (.int op), .val (.int (4 : Int32)), .val (.int (0 : Int32)), .val (.ref b162), .unset, .unset] [(.ref b162)])) _
        refine XS.iload X172.here hx rfl (hb hby at_87) rfl ?_
        show Steps p.tables e below (T172.setTop (mkF m 89 #[.val (.int p1), .val (.int p2), .val (.int p3), .val (.int p4), .val (.int p5), .val (.int p6), .val (.int op), .val (.int (4 : Int32)), .val (.int (0 : Int32)), .val (.ref b162), .unset, .unset] [(.int (4 : Int32)), (.ref b162)])) _
        refine XS.iconst X172.here hx rfl (hb hby at_89) ?_
        show Steps p.tables e below (T172.setTop (mkF m 90 #[.val (.int p1), .val (.int p2), .val (.int p3), .val (.int p4), .val (.int p5), .val (.int p6), .val (.int op), .val (.int (4 : Int32)), .val (.int (0 : Int32)), .val (.ref b162), .unset, .unset] [(.int (1 : Int32)), (.int (4 : Int32)), (.ref b162)])) _
        refine XS.iadd X172.here hx rfl (hb hby at_90) rfl ?_
        rw [show ((4 : Int32) + (1 : Int32)) = (5 : Int32) from by decide]
        show Steps p.tables e below (T172.setTop (mkF m 91 #[.val (.int p1), .val (.int p2), .val (.int p3), .val (.int p4), .val (.int p5), .val (.int p6), .val (.int op), .val (.int (4 : Int32)), .val (.int (0 : Int32)), .val (.ref b162), .unset, .unset] [(.int (5 : Int32)), (.ref b162)])) _
        refine XS.iloadN X172.here hx rfl (hb hby at_91) rfl ?_
        show Steps p.tables e below (T172.setTop (mkF m 92 #[.val (.int p1), .val (.int p2), .val (.int p3), .val (.int p4), .val (.int p5), .val (.int p6), .val (.int op), .val (.int (4 : Int32)), .val (.int (0 : Int32)), .val (.ref b162), .unset, .unset] [(.int p3), (.int (5 : Int32)), (.ref b162)])) _
        refine st174 _ ?_
        show Steps p.tables e below (T174.setTop (mkF m 93 #[.val (.int p1), .val (.int p2), .val (.int p3), .val (.int p4), .val (.int p5), .val (.int p6), .val (.int op), .val (.int (4 : Int32)), .val (.int (0 : Int32)), .val (.ref b162), .unset, .unset] [])) _
        refine XS.aload X174.here hx rfl (hb hby at_93) rfl rfl ?_
        show Steps p.tables e below (T174.setTop (mkF m 95 #[.val (.int p1), .val (.int p2), .val (.int p3), .val (.int p4), .val (.int p5), .val (.int p6), .val (.int op), .val (.int (4 : Int32)), .val (.int (0 : Int32)), .val (.ref b162), .unset, .unset] [(.ref b162)])) _
        refine XS.iload X174.here hx rfl (hb hby at_95) rfl ?_
        show Steps p.tables e below (T174.setTop (mkF m 97 #[.val (.int p1), .val (.int p2), .val (.int p3), .val (.int p4), .val (.int p5), .val (.int p6), .val (.int op), .val (.int (4 : Int32)), .val (.int (0 : Int32)), .val (.ref b162), .unset, .unset] [(.int (4 : Int32)), (.ref b162)])) _
        refine XS.iconst X174.here hx rfl (hb hby at_97) ?_
        show Steps p.tables e below (T174.setTop (mkF m 98 #[.val (.int p1), .val (.int p2), .val (.int p3), .val (.int p4), .val (.int p5), .val (.int p6), .val (.int op), .val (.int (4 : Int32)), .val (.int (0 : Int32)), .val (.ref b162), .unset, .unset] [(.int (2 : Int32)), (.int (4 : Int32)), (.ref b162)])) _
        refine XS.iadd X174.here hx rfl (hb hby at_98) rfl ?_
        rw [show ((4 : Int32) + (2 : Int32)) = (6 : Int32) from by decide]
        show Steps p.tables e below (T174.setTop (mkF m 99 #[.val (.int p1), .val (.int p2), .val (.int p3), .val (.int p4), .val (.int p5), .val (.int p6), .val (.int op), .val (.int (4 : Int32)), .val (.int (0 : Int32)), .val (.ref b162), .unset, .unset] [(.int (6 : Int32)), (.ref b162)])) _
        refine XS.iloadN X174.here hx rfl (hb hby at_99) rfl ?_
        show Steps p.tables e below (T174.setTop (mkF m 100 #[.val (.int p1), .val (.int p2), .val (.int p3), .val (.int p4), .val (.int p5), .val (.int p6), .val (.int op), .val (.int (4 : Int32)), .val (.int (0 : Int32)), .val (.ref b162), .unset, .unset] [(.int p4), (.int (6 : Int32)), (.ref b162)])) _
        refine st176 _ ?_
        show Steps p.tables e below (T176.setTop (mkF m 101 #[.val (.int p1), .val (.int p2), .val (.int p3), .val (.int p4), .val (.int p5), .val (.int p6), .val (.int op), .val (.int (4 : Int32)), .val (.int (0 : Int32)), .val (.ref b162), .unset, .unset] [])) _
        refine XS.aload X176.here hx rfl (hb hby at_101) rfl rfl ?_
        show Steps p.tables e below (T176.setTop (mkF m 103 #[.val (.int p1), .val (.int p2), .val (.int p3), .val (.int p4), .val (.int p5), .val (.int p6), .val (.int op), .val (.int (4 : Int32)), .val (.int (0 : Int32)), .val (.ref b162), .unset, .unset] [(.ref b162)])) _
        refine XS.iload X176.here hx rfl (hb hby at_103) rfl ?_
        show Steps p.tables e below (T176.setTop (mkF m 105 #[.val (.int p1), .val (.int p2), .val (.int p3), .val (.int p4), .val (.int p5), .val (.int p6), .val (.int op), .val (.int (4 : Int32)), .val (.int (0 : Int32)), .val (.ref b162), .unset, .unset] [(.int (4 : Int32)), (.ref b162)])) _
        refine XS.iconst X176.here hx rfl (hb hby at_105) ?_
        show Steps p.tables e below (T176.setTop (mkF m 106 #[.val (.int p1), .val (.int p2), .val (.int p3), .val (.int p4), .val (.int p5), .val (.int p6), .val (.int op), .val (.int (4 : Int32)), .val (.int (0 : Int32)), .val (.ref b162), .unset, .unset] [(.int (3 : Int32)), (.int (4 : Int32)), (.ref b162)])) _
        refine XS.iadd X176.here hx rfl (hb hby at_106) rfl ?_
        rw [show ((4 : Int32) + (3 : Int32)) = (7 : Int32) from by decide]
        show Steps p.tables e below (T176.setTop (mkF m 107 #[.val (.int p1), .val (.int p2), .val (.int p3), .val (.int p4), .val (.int p5), .val (.int p6), .val (.int op), .val (.int (4 : Int32)), .val (.int (0 : Int32)), .val (.ref b162), .unset, .unset] [(.int (7 : Int32)), (.ref b162)])) _
        refine XS.iload X176.here hx rfl (hb hby at_107) rfl ?_
        show Steps p.tables e below (T176.setTop (mkF m 109 #[.val (.int p1), .val (.int p2), .val (.int p3), .val (.int p4), .val (.int p5), .val (.int p6), .val (.int op), .val (.int (4 : Int32)), .val (.int (0 : Int32)), .val (.ref b162), .unset, .unset] [(.int p5), (.int (7 : Int32)), (.ref b162)])) _
        refine st178 _ ?_
        exact k
      by_cases hc179 : op < (12 : Int32)
      · have o181 : Old Z n0 h178 := (Old.wr (Old.wr (Old.wr (Old.wr (Old.wr (Old.wr (Old.wr (Old.wr (Old.ext O0 E162) W164 gz_b162) W166 gz_b162) W168 gz_b162) W170 gz_b162) W172 gz_b162) W174 gz_b162) W176 gz_b162) W178 gz_b162)
        obtain ⟨_, _, ⟨T182, L182, k182, n182⟩, -, X182, ⟨Lc182, hQ182, l182, y182, z182⟩, st182⟩ := Jvm.LawKit.callS X178 hx (y := (⟨"com/example/chalkline/chalkline/runtime/MachineCodeTargetPinLaw", "targetOperand", "(I)I"⟩ : MethodName)) hown (mvT hZ (hw _ (List.mem_of_getElem? (i := 1) rfl))) (mvT hZ (hw _ (List.mem_of_getElem? (i := 2) rfl))) (mvT hZ (hw _ (List.mem_of_getElem? (i := 3) rfl))) (mvT hZ (hw _ (List.mem_of_getElem? (i := 4) rfl))) (by decide) (backOf (W := 0) (rmOp l Z a0 hw [] op (0 : Int32) h178 n0 o181 (by rw [if_pos hc179])) hZ (hw _ (List.mem_of_getElem? (i := 4) rfl)) (hw _ (List.mem_of_getElem? (i := 3) rfl)) (by decide) (by decide)) (g := (mkF m 112 #[.val (.int p1), .val (.int p2), .val (.int p3), .val (.int p4), .val (.int p5), .val (.int p6), .val (.int op), .val (.int (4 : Int32)), .val (.int (0 : Int32)), .val (.ref b162), .unset, .unset] [(.int op)])) rfl (by rw [hml]; rfl) (argsL := [(.int op)]) (rest := []) (lenOf own_pd0 rfl) rfl (by show 2 * 0 + _ ≤ _; exact Nat.le_of_eq rfl) (hb hby at_112) (fun _ _ => ⟨rfl, e178, (by decide : 1 + 0 ≤ _), (by decide : 8 + 0 ≤ _)⟩)
        dsimp only [Pt.U, Pt.locs, Pt.cells, Pt.slots] at X182 l182 y182 z182 st182 hQ182
        subst l182 y182 z182
        obtain ⟨rfl, Nq182, e182⟩ := hQ182
        have N182 := Fr.app N178 Nq182
        obtain ⟨_, _, ⟨T183, L183, k183, n183⟩, -, X183, ⟨Lc183, hQ183, l183, y183, z183⟩, st183⟩ := Jvm.LawKit.callS X182 hx (y := (⟨"com/example/chalkline/chalkline/runtime/MachineCode", "target", "([II)I"⟩ : MethodName)) hown (mvT hZ (hw _ (List.mem_of_getElem? (i := 5) rfl))) (mvT hZ (hw _ (List.mem_of_getElem? (i := 6) rfl))) (mvT hZ (hw _ (List.mem_of_getElem? (i := 7) rfl))) (mvT hZ (hw _ (List.mem_of_getElem? (i := 8) rfl))) (by decide) (backOf (W := 0) (rmT4 l Z a0 hw [] b162 k162 p6 p6 p6 p6 op p3 p4 p5 (-1 : Int32) h178 n0 o181 V178a (by rw [if_neg (fun q => by rw [q] at hc179; exact absurd hc179 (by decide)), if_neg (fun q => by rw [q] at hc179; exact absurd hc179 (by decide)), if_neg (fun q => by rw [q] at hc179; exact absurd hc179 (by decide)), if_pos hc179])) hZ (hw _ (List.mem_of_getElem? (i := 8) rfl)) (hw _ (List.mem_of_getElem? (i := 7) rfl)) (by decide) (by decide)) (g := (mkF m 155 #[.val (.int p1), .val (.int p2), .val (.int p3), .val (.int p4), .val (.int p5), .val (.int p6), .val (.int op), .val (.int (4 : Int32)), .val (.int (0 : Int32)), .val (.ref b162), .val (.int (0 : Int32)), .val (.int (-1 : Int32))] [(.int (4 : Int32)), (.ref b162)])) rfl (by rw [hml]; rfl) (argsL := [(.ref b162), (.int (4 : Int32))]) (rest := []) (lenOf own_pd1 rfl) rfl (by show 2 * 0 + _ ≤ _; exact Nat.le_of_eq rfl) (hb hby at_155) (fun _ _ => ⟨rfl, e182, (by decide : 1 + 0 ≤ _), (by decide : 8 + 0 ≤ _)⟩)
        dsimp only [Pt.U, Pt.locs, Pt.cells, Pt.slots] at X183 l183 y183 z183 st183 hQ183
        subst l183 y183 z183
        obtain ⟨rfl, Nq183, e183⟩ := hQ183
        have N183 := Fr.app N182 Nq183
        have g184 : ∀ t, Steps p.tables e below (T183.setTop (mkF m 168 #[.val (.int p1), .val (.int p2), .val (.int p3), .val (.int p4), .val (.int p5), .val (.int p6), .val (.int op), .val (.int (4 : Int32)), .val (.int (0 : Int32)), .val (.ref b162), .val (.int (0 : Int32)), .val (.int (-1 : Int32))] [(.int (1 : Int32))])) t → Steps p.tables e below (s₁.setTop (entryFrame m #[(.int p1), (.int p2), (.int p3), (.int p4), (.int p5), (.int p6)] maxLocals)) t := by
          intro t k
          refine g180 t ?_
          show Steps p.tables e below (T178.setTop (mkF m 110 #[.val (.int p1), .val (.int p2), .val (.int p3), .val (.int p4), .val (.int p5), .val (.int p6), .val (.int op), .val (.int (4 : Int32)), .val (.int (0 : Int32)), .val (.ref b162), .unset, .unset] [])) _
          refine XS.iload X178.here hx rfl (hb hby at_110) rfl ?_
          show Steps p.tables e below (T178.setTop (mkF m 112 #[.val (.int p1), .val (.int p2), .val (.int p3), .val (.int p4), .val (.int p5), .val (.int p6), .val (.int op), .val (.int (4 : Int32)), .val (.int (0 : Int32)), .val (.ref b162), .unset, .unset] [(.int op)])) _
          refine st182 _ ?_
          show Steps p.tables e below (T182.setTop (mkF m 115 #[.val (.int p1), .val (.int p2), .val (.int p3), .val (.int p4), .val (.int p5), .val (.int p6), .val (.int op), .val (.int (4 : Int32)), .val (.int (0 : Int32)), .val (.ref b162), .unset, .unset] [(.int (0 : Int32))])) _
          refine XS.istore X182.here hx rfl (hb hby at_115) rfl (l' := #[.val (.int p1), .val (.int p2), .val (.int p3), .val (.int p4), .val (.int p5), .val (.int p6), .val (.int op), .val (.int (4 : Int32)), .val (.int (0 : Int32)), .val (.ref b162), .val (.int (0 : Int32)), .unset]) rfl ?_
          show Steps p.tables e below (T182.setTop (mkF m 117 #[.val (.int p1), .val (.int p2), .val (.int p3), .val (.int p4), .val (.int p5), .val (.int p6), .val (.int op), .val (.int (4 : Int32)), .val (.int (0 : Int32)), .val (.ref b162), .val (.int (0 : Int32)), .unset] [])) _
          refine XS.iload X182.here hx rfl (hb hby at_117) rfl ?_
          show Steps p.tables e below (T182.setTop (mkF m 119 #[.val (.int p1), .val (.int p2), .val (.int p3), .val (.int p4), .val (.int p5), .val (.int p6), .val (.int op), .val (.int (4 : Int32)), .val (.int (0 : Int32)), .val (.ref b162), .val (.int (0 : Int32)), .unset] [(.int (0 : Int32))])) _
          refine XS.iconst X182.here hx rfl (hb hby at_119) ?_
          show Steps p.tables e below (T182.setTop (mkF m 120 #[.val (.int p1), .val (.int p2), .val (.int p3), .val (.int p4), .val (.int p5), .val (.int p6), .val (.int op), .val (.int (4 : Int32)), .val (.int (0 : Int32)), .val (.ref b162), .val (.int (0 : Int32)), .unset] [(.int (1 : Int32)), (.int (0 : Int32))])) _
          refine XS.icmpYes X182.here hx rfl (pc0 := 120) (pc' := 127) rfl (hb hby at_120) rfl (feq (by decide : ¬ ((0 : Int32) = (1 : Int32)))).2 (by decide) (by decide) ?_
          show Steps p.tables e below (T182.setTop (mkF m 127 #[.val (.int p1), .val (.int p2), .val (.int p3), .val (.int p4), .val (.int p5), .val (.int p6), .val (.int op), .val (.int (4 : Int32)), .val (.int (0 : Int32)), .val (.ref b162), .val (.int (0 : Int32)), .unset] [])) _
          refine XS.iload X182.here hx rfl (hb hby at_127) rfl ?_
          show Steps p.tables e below (T182.setTop (mkF m 129 #[.val (.int p1), .val (.int p2), .val (.int p3), .val (.int p4), .val (.int p5), .val (.int p6), .val (.int op), .val (.int (4 : Int32)), .val (.int (0 : Int32)), .val (.ref b162), .val (.int (0 : Int32)), .unset] [(.int (0 : Int32))])) _
          refine XS.iconst X182.here hx rfl (hb hby at_129) ?_
          show Steps p.tables e below (T182.setTop (mkF m 130 #[.val (.int p1), .val (.int p2), .val (.int p3), .val (.int p4), .val (.int p5), .val (.int p6), .val (.int op), .val (.int (4 : Int32)), .val (.int (0 : Int32)), .val (.ref b162), .val (.int (0 : Int32)), .unset] [(.int (2 : Int32)), (.int (0 : Int32))])) _
          refine XS.icmpYes X182.here hx rfl (pc0 := 130) (pc' := 137) rfl (hb hby at_130) rfl (feq (by decide : ¬ ((0 : Int32) = (2 : Int32)))).2 (by decide) (by decide) ?_
          show Steps p.tables e below (T182.setTop (mkF m 137 #[.val (.int p1), .val (.int p2), .val (.int p3), .val (.int p4), .val (.int p5), .val (.int p6), .val (.int op), .val (.int (4 : Int32)), .val (.int (0 : Int32)), .val (.ref b162), .val (.int (0 : Int32)), .unset] [])) _
          refine XS.iload X182.here hx rfl (hb hby at_137) rfl ?_
          show Steps p.tables e below (T182.setTop (mkF m 139 #[.val (.int p1), .val (.int p2), .val (.int p3), .val (.int p4), .val (.int p5), .val (.int p6), .val (.int op), .val (.int (4 : Int32)), .val (.int (0 : Int32)), .val (.ref b162), .val (.int (0 : Int32)), .unset] [(.int (0 : Int32))])) _
          refine XS.iconst X182.here hx rfl (hb hby at_139) ?_
          show Steps p.tables e below (T182.setTop (mkF m 140 #[.val (.int p1), .val (.int p2), .val (.int p3), .val (.int p4), .val (.int p5), .val (.int p6), .val (.int op), .val (.int (4 : Int32)), .val (.int (0 : Int32)), .val (.ref b162), .val (.int (0 : Int32)), .unset] [(.int (3 : Int32)), (.int (0 : Int32))])) _
          refine XS.icmpYes X182.here hx rfl (pc0 := 140) (pc' := 148) rfl (hb hby at_140) rfl (feq (by decide : ¬ ((0 : Int32) = (3 : Int32)))).2 (by decide) (by decide) ?_
          show Steps p.tables e below (T182.setTop (mkF m 148 #[.val (.int p1), .val (.int p2), .val (.int p3), .val (.int p4), .val (.int p5), .val (.int p6), .val (.int op), .val (.int (4 : Int32)), .val (.int (0 : Int32)), .val (.ref b162), .val (.int (0 : Int32)), .unset] [])) _
          refine XS.iconst X182.here hx rfl (hb hby at_148) ?_
          show Steps p.tables e below (T182.setTop (mkF m 149 #[.val (.int p1), .val (.int p2), .val (.int p3), .val (.int p4), .val (.int p5), .val (.int p6), .val (.int op), .val (.int (4 : Int32)), .val (.int (0 : Int32)), .val (.ref b162), .val (.int (0 : Int32)), .unset] [(.int (-1 : Int32))])) _
          refine XS.istore X182.here hx rfl (hb hby at_149) rfl (l' := #[.val (.int p1), .val (.int p2), .val (.int p3), .val (.int p4), .val (.int p5), .val (.int p6), .val (.int op), .val (.int (4 : Int32)), .val (.int (0 : Int32)), .val (.ref b162), .val (.int (0 : Int32)), .val (.int (-1 : Int32))]) rfl ?_
          show Steps p.tables e below (T182.setTop (mkF m 151 #[.val (.int p1), .val (.int p2), .val (.int p3), .val (.int p4), .val (.int p5), .val (.int p6), .val (.int op), .val (.int (4 : Int32)), .val (.int (0 : Int32)), .val (.ref b162), .val (.int (0 : Int32)), .val (.int (-1 : Int32))] [])) _
          refine XS.aload X182.here hx rfl (hb hby at_151) rfl rfl ?_
          show Steps p.tables e below (T182.setTop (mkF m 153 #[.val (.int p1), .val (.int p2), .val (.int p3), .val (.int p4), .val (.int p5), .val (.int p6), .val (.int op), .val (.int (4 : Int32)), .val (.int (0 : Int32)), .val (.ref b162), .val (.int (0 : Int32)), .val (.int (-1 : Int32))] [(.ref b162)])) _
          refine XS.iload X182.here hx rfl (hb hby at_153) rfl ?_
          show Steps p.tables e below (T182.setTop (mkF m 155 #[.val (.int p1), .val (.int p2), .val (.int p3), .val (.int p4), .val (.int p5), .val (.int p6), .val (.int op), .val (.int (4 : Int32)), .val (.int (0 : Int32)), .val (.ref b162), .val (.int (0 : Int32)), .val (.int (-1 : Int32))] [(.int (4 : Int32)), (.ref b162)])) _
          refine st183 _ ?_
          show Steps p.tables e below (T183.setTop (mkF m 158 #[.val (.int p1), .val (.int p2), .val (.int p3), .val (.int p4), .val (.int p5), .val (.int p6), .val (.int op), .val (.int (4 : Int32)), .val (.int (0 : Int32)), .val (.ref b162), .val (.int (0 : Int32)), .val (.int (-1 : Int32))] [(.int (-1 : Int32))])) _
          refine XS.iload X183.here hx rfl (hb hby at_158) rfl ?_
          show Steps p.tables e below (T183.setTop (mkF m 160 #[.val (.int p1), .val (.int p2), .val (.int p3), .val (.int p4), .val (.int p5), .val (.int p6), .val (.int op), .val (.int (4 : Int32)), .val (.int (0 : Int32)), .val (.ref b162), .val (.int (0 : Int32)), .val (.int (-1 : Int32))] [(.int (-1 : Int32)), (.int (-1 : Int32))])) _
          refine XS.icmpNo X183.here hx rfl (hb hby at_160) rfl (teq (by decide : (-1 : Int32) = (-1 : Int32))).2 ?_
          show Steps p.tables e below (T183.setTop (mkF m 163 #[.val (.int p1), .val (.int p2), .val (.int p3), .val (.int p4), .val (.int p5), .val (.int p6), .val (.int op), .val (.int (4 : Int32)), .val (.int (0 : Int32)), .val (.ref b162), .val (.int (0 : Int32)), .val (.int (-1 : Int32))] [])) _
          refine XS.iconst X183.here hx rfl (hb hby at_163) ?_
          show Steps p.tables e below (T183.setTop (mkF m 164 #[.val (.int p1), .val (.int p2), .val (.int p3), .val (.int p4), .val (.int p5), .val (.int p6), .val (.int op), .val (.int (4 : Int32)), .val (.int (0 : Int32)), .val (.ref b162), .val (.int (0 : Int32)), .val (.int (-1 : Int32))] [(.int (1 : Int32))])) _
          refine XS.goto X183.here hx rfl (pc0 := 164) (pc' := 168) rfl (hb hby at_164) (by decide) (by decide) ?_
          exact k
        obtain ⟨fs, hrt, hrun, hended, hW, hsame⟩ := X183.leave (v := some (.int (1 : Int32))) (fun h => by rw [Bd.returns] at h; cases h)
        refine ⟨_, _, g184 _ ?_, hrun, hended, _, _, rfl, ?_, ⟨_, rfl⟩, hW, hsame.mono (by decide) (by decide)⟩
        · show Steps p.tables e below (T183.setTop (mkF m 168 #[.val (.int p1), .val (.int p2), .val (.int p3), .val (.int p4), .val (.int p5), .val (.int p6), .val (.int op), .val (.int (4 : Int32)), .val (.int (0 : Int32)), .val (.ref b162), .val (.int (0 : Int32)), .val (.int (-1 : Int32))] [(.int (1 : Int32))])) _
          exact retN X183 hx (t := .boolean) Bd.returns (by simp) (hb hby at_168) hrt
        · show own_Q_rm0 Z p1 p2 p3 p4 p5 p6 h0 n0 _ T183.heap _
          rw [e183]
          exact ⟨rfl, N183⟩
      · by_cases hc185 : (21 : Int32) < op
        · by_cases hc186 : op = (27 : Int32)
          · have o187 : Old Z n0 h178 := (Old.wr (Old.wr (Old.wr (Old.wr (Old.wr (Old.wr (Old.wr (Old.wr (Old.ext O0 E162) W164 gz_b162) W166 gz_b162) W168 gz_b162) W170 gz_b162) W172 gz_b162) W174 gz_b162) W176 gz_b162) W178 gz_b162)
            obtain ⟨_, _, ⟨T188, L188, k188, n188⟩, -, X188, ⟨Lc188, hQ188, l188, y188, z188⟩, st188⟩ := Jvm.LawKit.callS X178 hx (y := (⟨"com/example/chalkline/chalkline/runtime/MachineCodeTargetPinLaw", "targetOperand", "(I)I"⟩ : MethodName)) hown (mvT hZ (hw _ (List.mem_of_getElem? (i := 1) rfl))) (mvT hZ (hw _ (List.mem_of_getElem? (i := 2) rfl))) (mvT hZ (hw _ (List.mem_of_getElem? (i := 3) rfl))) (mvT hZ (hw _ (List.mem_of_getElem? (i := 4) rfl))) (by decide) (backOf (W := 0) (rmOp l Z a0 hw [] op (1 : Int32) h178 n0 o187 (by rw [if_neg hc179, if_pos hc185, if_pos hc186])) hZ (hw _ (List.mem_of_getElem? (i := 4) rfl)) (hw _ (List.mem_of_getElem? (i := 3) rfl)) (by decide) (by decide)) (g := (mkF m 112 #[.val (.int p1), .val (.int p2), .val (.int p3), .val (.int p4), .val (.int p5), .val (.int p6), .val (.int op), .val (.int (4 : Int32)), .val (.int (0 : Int32)), .val (.ref b162), .unset, .unset] [(.int op)])) rfl (by rw [hml]; rfl) (argsL := [(.int op)]) (rest := []) (lenOf own_pd0 rfl) rfl (by show 2 * 0 + _ ≤ _; exact Nat.le_of_eq rfl) (hb hby at_112) (fun _ _ => ⟨rfl, e178, (by decide : 1 + 0 ≤ _), (by decide : 8 + 0 ≤ _)⟩)
            dsimp only [Pt.U, Pt.locs, Pt.cells, Pt.slots] at X188 l188 y188 z188 st188 hQ188
            subst l188 y188 z188
            obtain ⟨rfl, Nq188, e188⟩ := hQ188
            have N188 := Fr.app N178 Nq188
            obtain ⟨_, _, ⟨T189, L189, k189, n189⟩, -, X189, ⟨Lc189, hQ189, l189, y189, z189⟩, st189⟩ := Jvm.LawKit.callS X188 hx (y := (⟨"com/example/chalkline/chalkline/runtime/MachineCode", "target", "([II)I"⟩ : MethodName)) hown (mvT hZ (hw _ (List.mem_of_getElem? (i := 5) rfl))) (mvT hZ (hw _ (List.mem_of_getElem? (i := 6) rfl))) (mvT hZ (hw _ (List.mem_of_getElem? (i := 7) rfl))) (mvT hZ (hw _ (List.mem_of_getElem? (i := 8) rfl))) (by decide) (backOf (W := 0) (rmT4 l Z a0 hw [] b162 k162 p6 p6 p6 p6 op p3 p4 p5 p3 h178 n0 o187 V178a (by rw [if_pos hc186])) hZ (hw _ (List.mem_of_getElem? (i := 8) rfl)) (hw _ (List.mem_of_getElem? (i := 7) rfl)) (by decide) (by decide)) (g := (mkF m 155 #[.val (.int p1), .val (.int p2), .val (.int p3), .val (.int p4), .val (.int p5), .val (.int p6), .val (.int op), .val (.int (4 : Int32)), .val (.int (0 : Int32)), .val (.ref b162), .val (.int (1 : Int32)), .val (.int p3)] [(.int (4 : Int32)), (.ref b162)])) rfl (by rw [hml]; rfl) (argsL := [(.ref b162), (.int (4 : Int32))]) (rest := []) (lenOf own_pd1 rfl) rfl (by show 2 * 0 + _ ≤ _; exact Nat.le_of_eq rfl) (hb hby at_155) (fun _ _ => ⟨rfl, e188, (by decide : 1 + 0 ≤ _), (by decide : 8 + 0 ≤ _)⟩)
            dsimp only [Pt.U, Pt.locs, Pt.cells, Pt.slots] at X189 l189 y189 z189 st189 hQ189
            subst l189 y189 z189
            obtain ⟨rfl, Nq189, e189⟩ := hQ189
            have N189 := Fr.app N188 Nq189
            have hc190 : p3 = p3 := rfl
            have g191 : ∀ t, Steps p.tables e below (T189.setTop (mkF m 168 #[.val (.int p1), .val (.int p2), .val (.int p3), .val (.int p4), .val (.int p5), .val (.int p6), .val (.int op), .val (.int (4 : Int32)), .val (.int (0 : Int32)), .val (.ref b162), .val (.int (1 : Int32)), .val (.int p3)] [(.int (1 : Int32))])) t → Steps p.tables e below (s₁.setTop (entryFrame m #[(.int p1), (.int p2), (.int p3), (.int p4), (.int p5), (.int p6)] maxLocals)) t := by
              intro t k
              refine g180 t ?_
              show Steps p.tables e below (T178.setTop (mkF m 110 #[.val (.int p1), .val (.int p2), .val (.int p3), .val (.int p4), .val (.int p5), .val (.int p6), .val (.int op), .val (.int (4 : Int32)), .val (.int (0 : Int32)), .val (.ref b162), .unset, .unset] [])) _
              refine XS.iload X178.here hx rfl (hb hby at_110) rfl ?_
              show Steps p.tables e below (T178.setTop (mkF m 112 #[.val (.int p1), .val (.int p2), .val (.int p3), .val (.int p4), .val (.int p5), .val (.int p6), .val (.int op), .val (.int (4 : Int32)), .val (.int (0 : Int32)), .val (.ref b162), .unset, .unset] [(.int op)])) _
              refine st188 _ ?_
              show Steps p.tables e below (T188.setTop (mkF m 115 #[.val (.int p1), .val (.int p2), .val (.int p3), .val (.int p4), .val (.int p5), .val (.int p6), .val (.int op), .val (.int (4 : Int32)), .val (.int (0 : Int32)), .val (.ref b162), .unset, .unset] [(.int (1 : Int32))])) _
              refine XS.istore X188.here hx rfl (hb hby at_115) rfl (l' := #[.val (.int p1), .val (.int p2), .val (.int p3), .val (.int p4), .val (.int p5), .val (.int p6), .val (.int op), .val (.int (4 : Int32)), .val (.int (0 : Int32)), .val (.ref b162), .val (.int (1 : Int32)), .unset]) rfl ?_
              show Steps p.tables e below (T188.setTop (mkF m 117 #[.val (.int p1), .val (.int p2), .val (.int p3), .val (.int p4), .val (.int p5), .val (.int p6), .val (.int op), .val (.int (4 : Int32)), .val (.int (0 : Int32)), .val (.ref b162), .val (.int (1 : Int32)), .unset] [])) _
              refine XS.iload X188.here hx rfl (hb hby at_117) rfl ?_
              show Steps p.tables e below (T188.setTop (mkF m 119 #[.val (.int p1), .val (.int p2), .val (.int p3), .val (.int p4), .val (.int p5), .val (.int p6), .val (.int op), .val (.int (4 : Int32)), .val (.int (0 : Int32)), .val (.ref b162), .val (.int (1 : Int32)), .unset] [(.int (1 : Int32))])) _
              refine XS.iconst X188.here hx rfl (hb hby at_119) ?_
              show Steps p.tables e below (T188.setTop (mkF m 120 #[.val (.int p1), .val (.int p2), .val (.int p3), .val (.int p4), .val (.int p5), .val (.int p6), .val (.int op), .val (.int (4 : Int32)), .val (.int (0 : Int32)), .val (.ref b162), .val (.int (1 : Int32)), .unset] [(.int (1 : Int32)), (.int (1 : Int32))])) _
              refine XS.icmpNo X188.here hx rfl (hb hby at_120) rfl (teq (by decide : (1 : Int32) = (1 : Int32))).2 ?_
              show Steps p.tables e below (T188.setTop (mkF m 123 #[.val (.int p1), .val (.int p2), .val (.int p3), .val (.int p4), .val (.int p5), .val (.int p6), .val (.int op), .val (.int (4 : Int32)), .val (.int (0 : Int32)), .val (.ref b162), .val (.int (1 : Int32)), .unset] [])) _
              refine XS.iloadN X188.here hx rfl (hb hby at_123) rfl ?_
              show Steps p.tables e below (T188.setTop (mkF m 124 #[.val (.int p1), .val (.int p2), .val (.int p3), .val (.int p4), .val (.int p5), .val (.int p6), .val (.int op), .val (.int (4 : Int32)), .val (.int (0 : Int32)), .val (.ref b162), .val (.int (1 : Int32)), .unset] [(.int p3)])) _
              refine XS.goto X188.here hx rfl (pc0 := 124) (pc' := 149) rfl (hb hby at_124) (by decide) (by decide) ?_
              show Steps p.tables e below (T188.setTop (mkF m 149 #[.val (.int p1), .val (.int p2), .val (.int p3), .val (.int p4), .val (.int p5), .val (.int p6), .val (.int op), .val (.int (4 : Int32)), .val (.int (0 : Int32)), .val (.ref b162), .val (.int (1 : Int32)), .unset] [(.int p3)])) _
              refine XS.istore X188.here hx rfl (hb hby at_149) rfl (l' := #[.val (.int p1), .val (.int p2), .val (.int p3), .val (.int p4), .val (.int p5), .val (.int p6), .val (.int op), .val (.int (4 : Int32)), .val (.int (0 : Int32)), .val (.ref b162), .val (.int (1 : Int32)), .val (.int p3)]) rfl ?_
              show Steps p.tables e below (T188.setTop (mkF m 151 #[.val (.int p1), .val (.int p2), .val (.int p3), .val (.int p4), .val (.int p5), .val (.int p6), .val (.int op), .val (.int (4 : Int32)), .val (.int (0 : Int32)), .val (.ref b162), .val (.int (1 : Int32)), .val (.int p3)] [])) _
              refine XS.aload X188.here hx rfl (hb hby at_151) rfl rfl ?_
              show Steps p.tables e below (T188.setTop (mkF m 153 #[.val (.int p1), .val (.int p2), .val (.int p3), .val (.int p4), .val (.int p5), .val (.int p6), .val (.int op), .val (.int (4 : Int32)), .val (.int (0 : Int32)), .val (.ref b162), .val (.int (1 : Int32)), .val (.int p3)] [(.ref b162)])) _
              refine XS.iload X188.here hx rfl (hb hby at_153) rfl ?_
              show Steps p.tables e below (T188.setTop (mkF m 155 #[.val (.int p1), .val (.int p2), .val (.int p3), .val (.int p4), .val (.int p5), .val (.int p6), .val (.int op), .val (.int (4 : Int32)), .val (.int (0 : Int32)), .val (.ref b162), .val (.int (1 : Int32)), .val (.int p3)] [(.int (4 : Int32)), (.ref b162)])) _
              refine st189 _ ?_
              show Steps p.tables e below (T189.setTop (mkF m 158 #[.val (.int p1), .val (.int p2), .val (.int p3), .val (.int p4), .val (.int p5), .val (.int p6), .val (.int op), .val (.int (4 : Int32)), .val (.int (0 : Int32)), .val (.ref b162), .val (.int (1 : Int32)), .val (.int p3)] [(.int p3)])) _
              refine XS.iload X189.here hx rfl (hb hby at_158) rfl ?_
              show Steps p.tables e below (T189.setTop (mkF m 160 #[.val (.int p1), .val (.int p2), .val (.int p3), .val (.int p4), .val (.int p5), .val (.int p6), .val (.int op), .val (.int (4 : Int32)), .val (.int (0 : Int32)), .val (.ref b162), .val (.int (1 : Int32)), .val (.int p3)] [(.int p3), (.int p3)])) _
              refine XS.icmpNo X189.here hx rfl (hb hby at_160) rfl (teq hc190).2 ?_
              show Steps p.tables e below (T189.setTop (mkF m 163 #[.val (.int p1), .val (.int p2), .val (.int p3), .val (.int p4), .val (.int p5), .val (.int p6), .val (.int op), .val (.int (4 : Int32)), .val (.int (0 : Int32)), .val (.ref b162), .val (.int (1 : Int32)), .val (.int p3)] [])) _
              refine XS.iconst X189.here hx rfl (hb hby at_163) ?_
              show Steps p.tables e below (T189.setTop (mkF m 164 #[.val (.int p1), .val (.int p2), .val (.int p3), .val (.int p4), .val (.int p5), .val (.int p6), .val (.int op), .val (.int (4 : Int32)), .val (.int (0 : Int32)), .val (.ref b162), .val (.int (1 : Int32)), .val (.int p3)] [(.int (1 : Int32))])) _
              refine XS.goto X189.here hx rfl (pc0 := 164) (pc' := 168) rfl (hb hby at_164) (by decide) (by decide) ?_
              exact k
            obtain ⟨fs, hrt, hrun, hended, hW, hsame⟩ := X189.leave (v := some (.int (1 : Int32))) (fun h => by rw [Bd.returns] at h; cases h)
            refine ⟨_, _, g191 _ ?_, hrun, hended, _, _, rfl, ?_, ⟨_, rfl⟩, hW, hsame.mono (by decide) (by decide)⟩
            · show Steps p.tables e below (T189.setTop (mkF m 168 #[.val (.int p1), .val (.int p2), .val (.int p3), .val (.int p4), .val (.int p5), .val (.int p6), .val (.int op), .val (.int (4 : Int32)), .val (.int (0 : Int32)), .val (.ref b162), .val (.int (1 : Int32)), .val (.int p3)] [(.int (1 : Int32))])) _
              exact retN X189 hx (t := .boolean) Bd.returns (by simp) (hb hby at_168) hrt
            · show own_Q_rm0 Z p1 p2 p3 p4 p5 p6 h0 n0 _ T189.heap _
              rw [e189]
              exact ⟨rfl, N189⟩
          · by_cases hc192 : op = (28 : Int32)
            · have o193 : Old Z n0 h178 := (Old.wr (Old.wr (Old.wr (Old.wr (Old.wr (Old.wr (Old.wr (Old.wr (Old.ext O0 E162) W164 gz_b162) W166 gz_b162) W168 gz_b162) W170 gz_b162) W172 gz_b162) W174 gz_b162) W176 gz_b162) W178 gz_b162)
              obtain ⟨_, _, ⟨T194, L194, k194, n194⟩, -, X194, ⟨Lc194, hQ194, l194, y194, z194⟩, st194⟩ := Jvm.LawKit.callS X178 hx (y := (⟨"com/example/chalkline/chalkline/runtime/MachineCodeTargetPinLaw", "targetOperand", "(I)I"⟩ : MethodName)) hown (mvT hZ (hw _ (List.mem_of_getElem? (i := 1) rfl))) (mvT hZ (hw _ (List.mem_of_getElem? (i := 2) rfl))) (mvT hZ (hw _ (List.mem_of_getElem? (i := 3) rfl))) (mvT hZ (hw _ (List.mem_of_getElem? (i := 4) rfl))) (by decide) (backOf (W := 0) (rmOp l Z a0 hw [] op (2 : Int32) h178 n0 o193 (by rw [if_neg hc179, if_pos hc185, if_neg hc186, if_pos hc192])) hZ (hw _ (List.mem_of_getElem? (i := 4) rfl)) (hw _ (List.mem_of_getElem? (i := 3) rfl)) (by decide) (by decide)) (g := (mkF m 112 #[.val (.int p1), .val (.int p2), .val (.int p3), .val (.int p4), .val (.int p5), .val (.int p6), .val (.int op), .val (.int (4 : Int32)), .val (.int (0 : Int32)), .val (.ref b162), .unset, .unset] [(.int op)])) rfl (by rw [hml]; rfl) (argsL := [(.int op)]) (rest := []) (lenOf own_pd0 rfl) rfl (by show 2 * 0 + _ ≤ _; exact Nat.le_of_eq rfl) (hb hby at_112) (fun _ _ => ⟨rfl, e178, (by decide : 1 + 0 ≤ _), (by decide : 8 + 0 ≤ _)⟩)
              dsimp only [Pt.U, Pt.locs, Pt.cells, Pt.slots] at X194 l194 y194 z194 st194 hQ194
              subst l194 y194 z194
              obtain ⟨rfl, Nq194, e194⟩ := hQ194
              have N194 := Fr.app N178 Nq194
              obtain ⟨_, _, ⟨T195, L195, k195, n195⟩, -, X195, ⟨Lc195, hQ195, l195, y195, z195⟩, st195⟩ := Jvm.LawKit.callS X194 hx (y := (⟨"com/example/chalkline/chalkline/runtime/MachineCode", "target", "([II)I"⟩ : MethodName)) hown (mvT hZ (hw _ (List.mem_of_getElem? (i := 5) rfl))) (mvT hZ (hw _ (List.mem_of_getElem? (i := 6) rfl))) (mvT hZ (hw _ (List.mem_of_getElem? (i := 7) rfl))) (mvT hZ (hw _ (List.mem_of_getElem? (i := 8) rfl))) (by decide) (backOf (W := 0) (rmT4 l Z a0 hw [] b162 k162 p6 p6 p6 p6 op p3 p4 p5 p4 h178 n0 o193 V178a (by rw [if_neg hc186, if_pos hc192])) hZ (hw _ (List.mem_of_getElem? (i := 8) rfl)) (hw _ (List.mem_of_getElem? (i := 7) rfl)) (by decide) (by decide)) (g := (mkF m 155 #[.val (.int p1), .val (.int p2), .val (.int p3), .val (.int p4), .val (.int p5), .val (.int p6), .val (.int op), .val (.int (4 : Int32)), .val (.int (0 : Int32)), .val (.ref b162), .val (.int (2 : Int32)), .val (.int p4)] [(.int (4 : Int32)), (.ref b162)])) rfl (by rw [hml]; rfl) (argsL := [(.ref b162), (.int (4 : Int32))]) (rest := []) (lenOf own_pd1 rfl) rfl (by show 2 * 0 + _ ≤ _; exact Nat.le_of_eq rfl) (hb hby at_155) (fun _ _ => ⟨rfl, e194, (by decide : 1 + 0 ≤ _), (by decide : 8 + 0 ≤ _)⟩)
              dsimp only [Pt.U, Pt.locs, Pt.cells, Pt.slots] at X195 l195 y195 z195 st195 hQ195
              subst l195 y195 z195
              obtain ⟨rfl, Nq195, e195⟩ := hQ195
              have N195 := Fr.app N194 Nq195
              have hc196 : p4 = p4 := rfl
              have g197 : ∀ t, Steps p.tables e below (T195.setTop (mkF m 168 #[.val (.int p1), .val (.int p2), .val (.int p3), .val (.int p4), .val (.int p5), .val (.int p6), .val (.int op), .val (.int (4 : Int32)), .val (.int (0 : Int32)), .val (.ref b162), .val (.int (2 : Int32)), .val (.int p4)] [(.int (1 : Int32))])) t → Steps p.tables e below (s₁.setTop (entryFrame m #[(.int p1), (.int p2), (.int p3), (.int p4), (.int p5), (.int p6)] maxLocals)) t := by
                intro t k
                refine g180 t ?_
                show Steps p.tables e below (T178.setTop (mkF m 110 #[.val (.int p1), .val (.int p2), .val (.int p3), .val (.int p4), .val (.int p5), .val (.int p6), .val (.int op), .val (.int (4 : Int32)), .val (.int (0 : Int32)), .val (.ref b162), .unset, .unset] [])) _
                refine XS.iload X178.here hx rfl (hb hby at_110) rfl ?_
                show Steps p.tables e below (T178.setTop (mkF m 112 #[.val (.int p1), .val (.int p2), .val (.int p3), .val (.int p4), .val (.int p5), .val (.int p6), .val (.int op), .val (.int (4 : Int32)), .val (.int (0 : Int32)), .val (.ref b162), .unset, .unset] [(.int op)])) _
                refine st194 _ ?_
                show Steps p.tables e below (T194.setTop (mkF m 115 #[.val (.int p1), .val (.int p2), .val (.int p3), .val (.int p4), .val (.int p5), .val (.int p6), .val (.int op), .val (.int (4 : Int32)), .val (.int (0 : Int32)), .val (.ref b162), .unset, .unset] [(.int (2 : Int32))])) _
                refine XS.istore X194.here hx rfl (hb hby at_115) rfl (l' := #[.val (.int p1), .val (.int p2), .val (.int p3), .val (.int p4), .val (.int p5), .val (.int p6), .val (.int op), .val (.int (4 : Int32)), .val (.int (0 : Int32)), .val (.ref b162), .val (.int (2 : Int32)), .unset]) rfl ?_
                show Steps p.tables e below (T194.setTop (mkF m 117 #[.val (.int p1), .val (.int p2), .val (.int p3), .val (.int p4), .val (.int p5), .val (.int p6), .val (.int op), .val (.int (4 : Int32)), .val (.int (0 : Int32)), .val (.ref b162), .val (.int (2 : Int32)), .unset] [])) _
                refine XS.iload X194.here hx rfl (hb hby at_117) rfl ?_
                show Steps p.tables e below (T194.setTop (mkF m 119 #[.val (.int p1), .val (.int p2), .val (.int p3), .val (.int p4), .val (.int p5), .val (.int p6), .val (.int op), .val (.int (4 : Int32)), .val (.int (0 : Int32)), .val (.ref b162), .val (.int (2 : Int32)), .unset] [(.int (2 : Int32))])) _
                refine XS.iconst X194.here hx rfl (hb hby at_119) ?_
                show Steps p.tables e below (T194.setTop (mkF m 120 #[.val (.int p1), .val (.int p2), .val (.int p3), .val (.int p4), .val (.int p5), .val (.int p6), .val (.int op), .val (.int (4 : Int32)), .val (.int (0 : Int32)), .val (.ref b162), .val (.int (2 : Int32)), .unset] [(.int (1 : Int32)), (.int (2 : Int32))])) _
                refine XS.icmpYes X194.here hx rfl (pc0 := 120) (pc' := 127) rfl (hb hby at_120) rfl (feq (by decide : ¬ ((2 : Int32) = (1 : Int32)))).2 (by decide) (by decide) ?_
                show Steps p.tables e below (T194.setTop (mkF m 127 #[.val (.int p1), .val (.int p2), .val (.int p3), .val (.int p4), .val (.int p5), .val (.int p6), .val (.int op), .val (.int (4 : Int32)), .val (.int (0 : Int32)), .val (.ref b162), .val (.int (2 : Int32)), .unset] [])) _
                refine XS.iload X194.here hx rfl (hb hby at_127) rfl ?_
                show Steps p.tables e below (T194.setTop (mkF m 129 #[.val (.int p1), .val (.int p2), .val (.int p3), .val (.int p4), .val (.int p5), .val (.int p6), .val (.int op), .val (.int (4 : Int32)), .val (.int (0 : Int32)), .val (.ref b162), .val (.int (2 : Int32)), .unset] [(.int (2 : Int32))])) _
                refine XS.iconst X194.here hx rfl (hb hby at_129) ?_
                show Steps p.tables e below (T194.setTop (mkF m 130 #[.val (.int p1), .val (.int p2), .val (.int p3), .val (.int p4), .val (.int p5), .val (.int p6), .val (.int op), .val (.int (4 : Int32)), .val (.int (0 : Int32)), .val (.ref b162), .val (.int (2 : Int32)), .unset] [(.int (2 : Int32)), (.int (2 : Int32))])) _
                refine XS.icmpNo X194.here hx rfl (hb hby at_130) rfl (teq (by decide : (2 : Int32) = (2 : Int32))).2 ?_
                show Steps p.tables e below (T194.setTop (mkF m 133 #[.val (.int p1), .val (.int p2), .val (.int p3), .val (.int p4), .val (.int p5), .val (.int p6), .val (.int op), .val (.int (4 : Int32)), .val (.int (0 : Int32)), .val (.ref b162), .val (.int (2 : Int32)), .unset] [])) _
                refine XS.iloadN X194.here hx rfl (hb hby at_133) rfl ?_
                show Steps p.tables e below (T194.setTop (mkF m 134 #[.val (.int p1), .val (.int p2), .val (.int p3), .val (.int p4), .val (.int p5), .val (.int p6), .val (.int op), .val (.int (4 : Int32)), .val (.int (0 : Int32)), .val (.ref b162), .val (.int (2 : Int32)), .unset] [(.int p4)])) _
                refine XS.goto X194.here hx rfl (pc0 := 134) (pc' := 149) rfl (hb hby at_134) (by decide) (by decide) ?_
                show Steps p.tables e below (T194.setTop (mkF m 149 #[.val (.int p1), .val (.int p2), .val (.int p3), .val (.int p4), .val (.int p5), .val (.int p6), .val (.int op), .val (.int (4 : Int32)), .val (.int (0 : Int32)), .val (.ref b162), .val (.int (2 : Int32)), .unset] [(.int p4)])) _
                refine XS.istore X194.here hx rfl (hb hby at_149) rfl (l' := #[.val (.int p1), .val (.int p2), .val (.int p3), .val (.int p4), .val (.int p5), .val (.int p6), .val (.int op), .val (.int (4 : Int32)), .val (.int (0 : Int32)), .val (.ref b162), .val (.int (2 : Int32)), .val (.int p4)]) rfl ?_
                show Steps p.tables e below (T194.setTop (mkF m 151 #[.val (.int p1), .val (.int p2), .val (.int p3), .val (.int p4), .val (.int p5), .val (.int p6), .val (.int op), .val (.int (4 : Int32)), .val (.int (0 : Int32)), .val (.ref b162), .val (.int (2 : Int32)), .val (.int p4)] [])) _
                refine XS.aload X194.here hx rfl (hb hby at_151) rfl rfl ?_
                show Steps p.tables e below (T194.setTop (mkF m 153 #[.val (.int p1), .val (.int p2), .val (.int p3), .val (.int p4), .val (.int p5), .val (.int p6), .val (.int op), .val (.int (4 : Int32)), .val (.int (0 : Int32)), .val (.ref b162), .val (.int (2 : Int32)), .val (.int p4)] [(.ref b162)])) _
                refine XS.iload X194.here hx rfl (hb hby at_153) rfl ?_
                show Steps p.tables e below (T194.setTop (mkF m 155 #[.val (.int p1), .val (.int p2), .val (.int p3), .val (.int p4), .val (.int p5), .val (.int p6), .val (.int op), .val (.int (4 : Int32)), .val (.int (0 : Int32)), .val (.ref b162), .val (.int (2 : Int32)), .val (.int p4)] [(.int (4 : Int32)), (.ref b162)])) _
                refine st195 _ ?_
                show Steps p.tables e below (T195.setTop (mkF m 158 #[.val (.int p1), .val (.int p2), .val (.int p3), .val (.int p4), .val (.int p5), .val (.int p6), .val (.int op), .val (.int (4 : Int32)), .val (.int (0 : Int32)), .val (.ref b162), .val (.int (2 : Int32)), .val (.int p4)] [(.int p4)])) _
                refine XS.iload X195.here hx rfl (hb hby at_158) rfl ?_
                show Steps p.tables e below (T195.setTop (mkF m 160 #[.val (.int p1), .val (.int p2), .val (.int p3), .val (.int p4), .val (.int p5), .val (.int p6), .val (.int op), .val (.int (4 : Int32)), .val (.int (0 : Int32)), .val (.ref b162), .val (.int (2 : Int32)), .val (.int p4)] [(.int p4), (.int p4)])) _
                refine XS.icmpNo X195.here hx rfl (hb hby at_160) rfl (teq hc196).2 ?_
                show Steps p.tables e below (T195.setTop (mkF m 163 #[.val (.int p1), .val (.int p2), .val (.int p3), .val (.int p4), .val (.int p5), .val (.int p6), .val (.int op), .val (.int (4 : Int32)), .val (.int (0 : Int32)), .val (.ref b162), .val (.int (2 : Int32)), .val (.int p4)] [])) _
                refine XS.iconst X195.here hx rfl (hb hby at_163) ?_
                show Steps p.tables e below (T195.setTop (mkF m 164 #[.val (.int p1), .val (.int p2), .val (.int p3), .val (.int p4), .val (.int p5), .val (.int p6), .val (.int op), .val (.int (4 : Int32)), .val (.int (0 : Int32)), .val (.ref b162), .val (.int (2 : Int32)), .val (.int p4)] [(.int (1 : Int32))])) _
                refine XS.goto X195.here hx rfl (pc0 := 164) (pc' := 168) rfl (hb hby at_164) (by decide) (by decide) ?_
                exact k
              obtain ⟨fs, hrt, hrun, hended, hW, hsame⟩ := X195.leave (v := some (.int (1 : Int32))) (fun h => by rw [Bd.returns] at h; cases h)
              refine ⟨_, _, g197 _ ?_, hrun, hended, _, _, rfl, ?_, ⟨_, rfl⟩, hW, hsame.mono (by decide) (by decide)⟩
              · show Steps p.tables e below (T195.setTop (mkF m 168 #[.val (.int p1), .val (.int p2), .val (.int p3), .val (.int p4), .val (.int p5), .val (.int p6), .val (.int op), .val (.int (4 : Int32)), .val (.int (0 : Int32)), .val (.ref b162), .val (.int (2 : Int32)), .val (.int p4)] [(.int (1 : Int32))])) _
                exact retN X195 hx (t := .boolean) Bd.returns (by simp) (hb hby at_168) hrt
              · show own_Q_rm0 Z p1 p2 p3 p4 p5 p6 h0 n0 _ T195.heap _
                rw [e195]
                exact ⟨rfl, N195⟩
            · by_cases hc198 : op = (29 : Int32)
              · have o199 : Old Z n0 h178 := (Old.wr (Old.wr (Old.wr (Old.wr (Old.wr (Old.wr (Old.wr (Old.wr (Old.ext O0 E162) W164 gz_b162) W166 gz_b162) W168 gz_b162) W170 gz_b162) W172 gz_b162) W174 gz_b162) W176 gz_b162) W178 gz_b162)
                obtain ⟨_, _, ⟨T200, L200, k200, n200⟩, -, X200, ⟨Lc200, hQ200, l200, y200, z200⟩, st200⟩ := Jvm.LawKit.callS X178 hx (y := (⟨"com/example/chalkline/chalkline/runtime/MachineCodeTargetPinLaw", "targetOperand", "(I)I"⟩ : MethodName)) hown (mvT hZ (hw _ (List.mem_of_getElem? (i := 1) rfl))) (mvT hZ (hw _ (List.mem_of_getElem? (i := 2) rfl))) (mvT hZ (hw _ (List.mem_of_getElem? (i := 3) rfl))) (mvT hZ (hw _ (List.mem_of_getElem? (i := 4) rfl))) (by decide) (backOf (W := 0) (rmOp l Z a0 hw [] op (2 : Int32) h178 n0 o199 (by rw [if_neg hc179, if_pos hc185, if_neg hc186, if_neg hc192, if_pos hc198])) hZ (hw _ (List.mem_of_getElem? (i := 4) rfl)) (hw _ (List.mem_of_getElem? (i := 3) rfl)) (by decide) (by decide)) (g := (mkF m 112 #[.val (.int p1), .val (.int p2), .val (.int p3), .val (.int p4), .val (.int p5), .val (.int p6), .val (.int op), .val (.int (4 : Int32)), .val (.int (0 : Int32)), .val (.ref b162), .unset, .unset] [(.int op)])) rfl (by rw [hml]; rfl) (argsL := [(.int op)]) (rest := []) (lenOf own_pd0 rfl) rfl (by show 2 * 0 + _ ≤ _; exact Nat.le_of_eq rfl) (hb hby at_112) (fun _ _ => ⟨rfl, e178, (by decide : 1 + 0 ≤ _), (by decide : 8 + 0 ≤ _)⟩)
                dsimp only [Pt.U, Pt.locs, Pt.cells, Pt.slots] at X200 l200 y200 z200 st200 hQ200
                subst l200 y200 z200
                obtain ⟨rfl, Nq200, e200⟩ := hQ200
                have N200 := Fr.app N178 Nq200
                obtain ⟨_, _, ⟨T201, L201, k201, n201⟩, -, X201, ⟨Lc201, hQ201, l201, y201, z201⟩, st201⟩ := Jvm.LawKit.callS X200 hx (y := (⟨"com/example/chalkline/chalkline/runtime/MachineCode", "target", "([II)I"⟩ : MethodName)) hown (mvT hZ (hw _ (List.mem_of_getElem? (i := 5) rfl))) (mvT hZ (hw _ (List.mem_of_getElem? (i := 6) rfl))) (mvT hZ (hw _ (List.mem_of_getElem? (i := 7) rfl))) (mvT hZ (hw _ (List.mem_of_getElem? (i := 8) rfl))) (by decide) (backOf (W := 0) (rmT4 l Z a0 hw [] b162 k162 p6 p6 p6 p6 op p3 p4 p5 p4 h178 n0 o199 V178a (by rw [if_neg hc186, if_neg hc192, if_pos hc198])) hZ (hw _ (List.mem_of_getElem? (i := 8) rfl)) (hw _ (List.mem_of_getElem? (i := 7) rfl)) (by decide) (by decide)) (g := (mkF m 155 #[.val (.int p1), .val (.int p2), .val (.int p3), .val (.int p4), .val (.int p5), .val (.int p6), .val (.int op), .val (.int (4 : Int32)), .val (.int (0 : Int32)), .val (.ref b162), .val (.int (2 : Int32)), .val (.int p4)] [(.int (4 : Int32)), (.ref b162)])) rfl (by rw [hml]; rfl) (argsL := [(.ref b162), (.int (4 : Int32))]) (rest := []) (lenOf own_pd1 rfl) rfl (by show 2 * 0 + _ ≤ _; exact Nat.le_of_eq rfl) (hb hby at_155) (fun _ _ => ⟨rfl, e200, (by decide : 1 + 0 ≤ _), (by decide : 8 + 0 ≤ _)⟩)
                dsimp only [Pt.U, Pt.locs, Pt.cells, Pt.slots] at X201 l201 y201 z201 st201 hQ201
                subst l201 y201 z201
                obtain ⟨rfl, Nq201, e201⟩ := hQ201
                have N201 := Fr.app N200 Nq201
                have hc202 : p4 = p4 := rfl
                have g203 : ∀ t, Steps p.tables e below (T201.setTop (mkF m 168 #[.val (.int p1), .val (.int p2), .val (.int p3), .val (.int p4), .val (.int p5), .val (.int p6), .val (.int op), .val (.int (4 : Int32)), .val (.int (0 : Int32)), .val (.ref b162), .val (.int (2 : Int32)), .val (.int p4)] [(.int (1 : Int32))])) t → Steps p.tables e below (s₁.setTop (entryFrame m #[(.int p1), (.int p2), (.int p3), (.int p4), (.int p5), (.int p6)] maxLocals)) t := by
                  intro t k
                  refine g180 t ?_
                  show Steps p.tables e below (T178.setTop (mkF m 110 #[.val (.int p1), .val (.int p2), .val (.int p3), .val (.int p4), .val (.int p5), .val (.int p6), .val (.int op), .val (.int (4 : Int32)), .val (.int (0 : Int32)), .val (.ref b162), .unset, .unset] [])) _
                  refine XS.iload X178.here hx rfl (hb hby at_110) rfl ?_
                  show Steps p.tables e below (T178.setTop (mkF m 112 #[.val (.int p1), .val (.int p2), .val (.int p3), .val (.int p4), .val (.int p5), .val (.int p6), .val (.int op), .val (.int (4 : Int32)), .val (.int (0 : Int32)), .val (.ref b162), .unset, .unset] [(.int op)])) _
                  refine st200 _ ?_
                  show Steps p.tables e below (T200.setTop (mkF m 115 #[.val (.int p1), .val (.int p2), .val (.int p3), .val (.int p4), .val (.int p5), .val (.int p6), .val (.int op), .val (.int (4 : Int32)), .val (.int (0 : Int32)), .val (.ref b162), .unset, .unset] [(.int (2 : Int32))])) _
                  refine XS.istore X200.here hx rfl (hb hby at_115) rfl (l' := #[.val (.int p1), .val (.int p2), .val (.int p3), .val (.int p4), .val (.int p5), .val (.int p6), .val (.int op), .val (.int (4 : Int32)), .val (.int (0 : Int32)), .val (.ref b162), .val (.int (2 : Int32)), .unset]) rfl ?_
                  show Steps p.tables e below (T200.setTop (mkF m 117 #[.val (.int p1), .val (.int p2), .val (.int p3), .val (.int p4), .val (.int p5), .val (.int p6), .val (.int op), .val (.int (4 : Int32)), .val (.int (0 : Int32)), .val (.ref b162), .val (.int (2 : Int32)), .unset] [])) _
                  refine XS.iload X200.here hx rfl (hb hby at_117) rfl ?_
                  show Steps p.tables e below (T200.setTop (mkF m 119 #[.val (.int p1), .val (.int p2), .val (.int p3), .val (.int p4), .val (.int p5), .val (.int p6), .val (.int op), .val (.int (4 : Int32)), .val (.int (0 : Int32)), .val (.ref b162), .val (.int (2 : Int32)), .unset] [(.int (2 : Int32))])) _
                  refine XS.iconst X200.here hx rfl (hb hby at_119) ?_
                  show Steps p.tables e below (T200.setTop (mkF m 120 #[.val (.int p1), .val (.int p2), .val (.int p3), .val (.int p4), .val (.int p5), .val (.int p6), .val (.int op), .val (.int (4 : Int32)), .val (.int (0 : Int32)), .val (.ref b162), .val (.int (2 : Int32)), .unset] [(.int (1 : Int32)), (.int (2 : Int32))])) _
                  refine XS.icmpYes X200.here hx rfl (pc0 := 120) (pc' := 127) rfl (hb hby at_120) rfl (feq (by decide : ¬ ((2 : Int32) = (1 : Int32)))).2 (by decide) (by decide) ?_
                  show Steps p.tables e below (T200.setTop (mkF m 127 #[.val (.int p1), .val (.int p2), .val (.int p3), .val (.int p4), .val (.int p5), .val (.int p6), .val (.int op), .val (.int (4 : Int32)), .val (.int (0 : Int32)), .val (.ref b162), .val (.int (2 : Int32)), .unset] [])) _
                  refine XS.iload X200.here hx rfl (hb hby at_127) rfl ?_
                  show Steps p.tables e below (T200.setTop (mkF m 129 #[.val (.int p1), .val (.int p2), .val (.int p3), .val (.int p4), .val (.int p5), .val (.int p6), .val (.int op), .val (.int (4 : Int32)), .val (.int (0 : Int32)), .val (.ref b162), .val (.int (2 : Int32)), .unset] [(.int (2 : Int32))])) _
                  refine XS.iconst X200.here hx rfl (hb hby at_129) ?_
                  show Steps p.tables e below (T200.setTop (mkF m 130 #[.val (.int p1), .val (.int p2), .val (.int p3), .val (.int p4), .val (.int p5), .val (.int p6), .val (.int op), .val (.int (4 : Int32)), .val (.int (0 : Int32)), .val (.ref b162), .val (.int (2 : Int32)), .unset] [(.int (2 : Int32)), (.int (2 : Int32))])) _
                  refine XS.icmpNo X200.here hx rfl (hb hby at_130) rfl (teq (by decide : (2 : Int32) = (2 : Int32))).2 ?_
                  show Steps p.tables e below (T200.setTop (mkF m 133 #[.val (.int p1), .val (.int p2), .val (.int p3), .val (.int p4), .val (.int p5), .val (.int p6), .val (.int op), .val (.int (4 : Int32)), .val (.int (0 : Int32)), .val (.ref b162), .val (.int (2 : Int32)), .unset] [])) _
                  refine XS.iloadN X200.here hx rfl (hb hby at_133) rfl ?_
                  show Steps p.tables e below (T200.setTop (mkF m 134 #[.val (.int p1), .val (.int p2), .val (.int p3), .val (.int p4), .val (.int p5), .val (.int p6), .val (.int op), .val (.int (4 : Int32)), .val (.int (0 : Int32)), .val (.ref b162), .val (.int (2 : Int32)), .unset] [(.int p4)])) _
                  refine XS.goto X200.here hx rfl (pc0 := 134) (pc' := 149) rfl (hb hby at_134) (by decide) (by decide) ?_
                  show Steps p.tables e below (T200.setTop (mkF m 149 #[.val (.int p1), .val (.int p2), .val (.int p3), .val (.int p4), .val (.int p5), .val (.int p6), .val (.int op), .val (.int (4 : Int32)), .val (.int (0 : Int32)), .val (.ref b162), .val (.int (2 : Int32)), .unset] [(.int p4)])) _
                  refine XS.istore X200.here hx rfl (hb hby at_149) rfl (l' := #[.val (.int p1), .val (.int p2), .val (.int p3), .val (.int p4), .val (.int p5), .val (.int p6), .val (.int op), .val (.int (4 : Int32)), .val (.int (0 : Int32)), .val (.ref b162), .val (.int (2 : Int32)), .val (.int p4)]) rfl ?_
                  show Steps p.tables e below (T200.setTop (mkF m 151 #[.val (.int p1), .val (.int p2), .val (.int p3), .val (.int p4), .val (.int p5), .val (.int p6), .val (.int op), .val (.int (4 : Int32)), .val (.int (0 : Int32)), .val (.ref b162), .val (.int (2 : Int32)), .val (.int p4)] [])) _
                  refine XS.aload X200.here hx rfl (hb hby at_151) rfl rfl ?_
                  show Steps p.tables e below (T200.setTop (mkF m 153 #[.val (.int p1), .val (.int p2), .val (.int p3), .val (.int p4), .val (.int p5), .val (.int p6), .val (.int op), .val (.int (4 : Int32)), .val (.int (0 : Int32)), .val (.ref b162), .val (.int (2 : Int32)), .val (.int p4)] [(.ref b162)])) _
                  refine XS.iload X200.here hx rfl (hb hby at_153) rfl ?_
                  show Steps p.tables e below (T200.setTop (mkF m 155 #[.val (.int p1), .val (.int p2), .val (.int p3), .val (.int p4), .val (.int p5), .val (.int p6), .val (.int op), .val (.int (4 : Int32)), .val (.int (0 : Int32)), .val (.ref b162), .val (.int (2 : Int32)), .val (.int p4)] [(.int (4 : Int32)), (.ref b162)])) _
                  refine st201 _ ?_
                  show Steps p.tables e below (T201.setTop (mkF m 158 #[.val (.int p1), .val (.int p2), .val (.int p3), .val (.int p4), .val (.int p5), .val (.int p6), .val (.int op), .val (.int (4 : Int32)), .val (.int (0 : Int32)), .val (.ref b162), .val (.int (2 : Int32)), .val (.int p4)] [(.int p4)])) _
                  refine XS.iload X201.here hx rfl (hb hby at_158) rfl ?_
                  show Steps p.tables e below (T201.setTop (mkF m 160 #[.val (.int p1), .val (.int p2), .val (.int p3), .val (.int p4), .val (.int p5), .val (.int p6), .val (.int op), .val (.int (4 : Int32)), .val (.int (0 : Int32)), .val (.ref b162), .val (.int (2 : Int32)), .val (.int p4)] [(.int p4), (.int p4)])) _
                  refine XS.icmpNo X201.here hx rfl (hb hby at_160) rfl (teq hc202).2 ?_
                  show Steps p.tables e below (T201.setTop (mkF m 163 #[.val (.int p1), .val (.int p2), .val (.int p3), .val (.int p4), .val (.int p5), .val (.int p6), .val (.int op), .val (.int (4 : Int32)), .val (.int (0 : Int32)), .val (.ref b162), .val (.int (2 : Int32)), .val (.int p4)] [])) _
                  refine XS.iconst X201.here hx rfl (hb hby at_163) ?_
                  show Steps p.tables e below (T201.setTop (mkF m 164 #[.val (.int p1), .val (.int p2), .val (.int p3), .val (.int p4), .val (.int p5), .val (.int p6), .val (.int op), .val (.int (4 : Int32)), .val (.int (0 : Int32)), .val (.ref b162), .val (.int (2 : Int32)), .val (.int p4)] [(.int (1 : Int32))])) _
                  refine XS.goto X201.here hx rfl (pc0 := 164) (pc' := 168) rfl (hb hby at_164) (by decide) (by decide) ?_
                  exact k
                obtain ⟨fs, hrt, hrun, hended, hW, hsame⟩ := X201.leave (v := some (.int (1 : Int32))) (fun h => by rw [Bd.returns] at h; cases h)
                refine ⟨_, _, g203 _ ?_, hrun, hended, _, _, rfl, ?_, ⟨_, rfl⟩, hW, hsame.mono (by decide) (by decide)⟩
                · show Steps p.tables e below (T201.setTop (mkF m 168 #[.val (.int p1), .val (.int p2), .val (.int p3), .val (.int p4), .val (.int p5), .val (.int p6), .val (.int op), .val (.int (4 : Int32)), .val (.int (0 : Int32)), .val (.ref b162), .val (.int (2 : Int32)), .val (.int p4)] [(.int (1 : Int32))])) _
                  exact retN X201 hx (t := .boolean) Bd.returns (by simp) (hb hby at_168) hrt
                · show own_Q_rm0 Z p1 p2 p3 p4 p5 p6 h0 n0 _ T201.heap _
                  rw [e201]
                  exact ⟨rfl, N201⟩
              · have o204 : Old Z n0 h178 := (Old.wr (Old.wr (Old.wr (Old.wr (Old.wr (Old.wr (Old.wr (Old.wr (Old.ext O0 E162) W164 gz_b162) W166 gz_b162) W168 gz_b162) W170 gz_b162) W172 gz_b162) W174 gz_b162) W176 gz_b162) W178 gz_b162)
                obtain ⟨_, _, ⟨T205, L205, k205, n205⟩, -, X205, ⟨Lc205, hQ205, l205, y205, z205⟩, st205⟩ := Jvm.LawKit.callS X178 hx (y := (⟨"com/example/chalkline/chalkline/runtime/MachineCodeTargetPinLaw", "targetOperand", "(I)I"⟩ : MethodName)) hown (mvT hZ (hw _ (List.mem_of_getElem? (i := 1) rfl))) (mvT hZ (hw _ (List.mem_of_getElem? (i := 2) rfl))) (mvT hZ (hw _ (List.mem_of_getElem? (i := 3) rfl))) (mvT hZ (hw _ (List.mem_of_getElem? (i := 4) rfl))) (by decide) (backOf (W := 0) (rmOp l Z a0 hw [] op (0 : Int32) h178 n0 o204 (by rw [if_neg hc179, if_pos hc185, if_neg hc186, if_neg hc192, if_neg hc198])) hZ (hw _ (List.mem_of_getElem? (i := 4) rfl)) (hw _ (List.mem_of_getElem? (i := 3) rfl)) (by decide) (by decide)) (g := (mkF m 112 #[.val (.int p1), .val (.int p2), .val (.int p3), .val (.int p4), .val (.int p5), .val (.int p6), .val (.int op), .val (.int (4 : Int32)), .val (.int (0 : Int32)), .val (.ref b162), .unset, .unset] [(.int op)])) rfl (by rw [hml]; rfl) (argsL := [(.int op)]) (rest := []) (lenOf own_pd0 rfl) rfl (by show 2 * 0 + _ ≤ _; exact Nat.le_of_eq rfl) (hb hby at_112) (fun _ _ => ⟨rfl, e178, (by decide : 1 + 0 ≤ _), (by decide : 8 + 0 ≤ _)⟩)
                dsimp only [Pt.U, Pt.locs, Pt.cells, Pt.slots] at X205 l205 y205 z205 st205 hQ205
                subst l205 y205 z205
                obtain ⟨rfl, Nq205, e205⟩ := hQ205
                have N205 := Fr.app N178 Nq205
                obtain ⟨_, _, ⟨T206, L206, k206, n206⟩, -, X206, ⟨Lc206, hQ206, l206, y206, z206⟩, st206⟩ := Jvm.LawKit.callS X205 hx (y := (⟨"com/example/chalkline/chalkline/runtime/MachineCode", "target", "([II)I"⟩ : MethodName)) hown (mvT hZ (hw _ (List.mem_of_getElem? (i := 5) rfl))) (mvT hZ (hw _ (List.mem_of_getElem? (i := 6) rfl))) (mvT hZ (hw _ (List.mem_of_getElem? (i := 7) rfl))) (mvT hZ (hw _ (List.mem_of_getElem? (i := 8) rfl))) (by decide) (backOf (W := 0) (rmT4 l Z a0 hw [] b162 k162 p6 p6 p6 p6 op p3 p4 p5 (-1 : Int32) h178 n0 o204 V178a (by rw [if_neg hc186, if_neg hc192, if_neg hc198, if_neg hc179, if_pos hc185])) hZ (hw _ (List.mem_of_getElem? (i := 8) rfl)) (hw _ (List.mem_of_getElem? (i := 7) rfl)) (by decide) (by decide)) (g := (mkF m 155 #[.val (.int p1), .val (.int p2), .val (.int p3), .val (.int p4), .val (.int p5), .val (.int p6), .val (.int op), .val (.int (4 : Int32)), .val (.int (0 : Int32)), .val (.ref b162), .val (.int (0 : Int32)), .val (.int (-1 : Int32))] [(.int (4 : Int32)), (.ref b162)])) rfl (by rw [hml]; rfl) (argsL := [(.ref b162), (.int (4 : Int32))]) (rest := []) (lenOf own_pd1 rfl) rfl (by show 2 * 0 + _ ≤ _; exact Nat.le_of_eq rfl) (hb hby at_155) (fun _ _ => ⟨rfl, e205, (by decide : 1 + 0 ≤ _), (by decide : 8 + 0 ≤ _)⟩)
                dsimp only [Pt.U, Pt.locs, Pt.cells, Pt.slots] at X206 l206 y206 z206 st206 hQ206
                subst l206 y206 z206
                obtain ⟨rfl, Nq206, e206⟩ := hQ206
                have N206 := Fr.app N205 Nq206
                have g207 : ∀ t, Steps p.tables e below (T206.setTop (mkF m 168 #[.val (.int p1), .val (.int p2), .val (.int p3), .val (.int p4), .val (.int p5), .val (.int p6), .val (.int op), .val (.int (4 : Int32)), .val (.int (0 : Int32)), .val (.ref b162), .val (.int (0 : Int32)), .val (.int (-1 : Int32))] [(.int (1 : Int32))])) t → Steps p.tables e below (s₁.setTop (entryFrame m #[(.int p1), (.int p2), (.int p3), (.int p4), (.int p5), (.int p6)] maxLocals)) t := by
                  intro t k
                  refine g180 t ?_
                  show Steps p.tables e below (T178.setTop (mkF m 110 #[.val (.int p1), .val (.int p2), .val (.int p3), .val (.int p4), .val (.int p5), .val (.int p6), .val (.int op), .val (.int (4 : Int32)), .val (.int (0 : Int32)), .val (.ref b162), .unset, .unset] [])) _
                  refine XS.iload X178.here hx rfl (hb hby at_110) rfl ?_
                  show Steps p.tables e below (T178.setTop (mkF m 112 #[.val (.int p1), .val (.int p2), .val (.int p3), .val (.int p4), .val (.int p5), .val (.int p6), .val (.int op), .val (.int (4 : Int32)), .val (.int (0 : Int32)), .val (.ref b162), .unset, .unset] [(.int op)])) _
                  refine st205 _ ?_
                  show Steps p.tables e below (T205.setTop (mkF m 115 #[.val (.int p1), .val (.int p2), .val (.int p3), .val (.int p4), .val (.int p5), .val (.int p6), .val (.int op), .val (.int (4 : Int32)), .val (.int (0 : Int32)), .val (.ref b162), .unset, .unset] [(.int (0 : Int32))])) _
                  refine XS.istore X205.here hx rfl (hb hby at_115) rfl (l' := #[.val (.int p1), .val (.int p2), .val (.int p3), .val (.int p4), .val (.int p5), .val (.int p6), .val (.int op), .val (.int (4 : Int32)), .val (.int (0 : Int32)), .val (.ref b162), .val (.int (0 : Int32)), .unset]) rfl ?_
                  show Steps p.tables e below (T205.setTop (mkF m 117 #[.val (.int p1), .val (.int p2), .val (.int p3), .val (.int p4), .val (.int p5), .val (.int p6), .val (.int op), .val (.int (4 : Int32)), .val (.int (0 : Int32)), .val (.ref b162), .val (.int (0 : Int32)), .unset] [])) _
                  refine XS.iload X205.here hx rfl (hb hby at_117) rfl ?_
                  show Steps p.tables e below (T205.setTop (mkF m 119 #[.val (.int p1), .val (.int p2), .val (.int p3), .val (.int p4), .val (.int p5), .val (.int p6), .val (.int op), .val (.int (4 : Int32)), .val (.int (0 : Int32)), .val (.ref b162), .val (.int (0 : Int32)), .unset] [(.int (0 : Int32))])) _
                  refine XS.iconst X205.here hx rfl (hb hby at_119) ?_
                  show Steps p.tables e below (T205.setTop (mkF m 120 #[.val (.int p1), .val (.int p2), .val (.int p3), .val (.int p4), .val (.int p5), .val (.int p6), .val (.int op), .val (.int (4 : Int32)), .val (.int (0 : Int32)), .val (.ref b162), .val (.int (0 : Int32)), .unset] [(.int (1 : Int32)), (.int (0 : Int32))])) _
                  refine XS.icmpYes X205.here hx rfl (pc0 := 120) (pc' := 127) rfl (hb hby at_120) rfl (feq (by decide : ¬ ((0 : Int32) = (1 : Int32)))).2 (by decide) (by decide) ?_
                  show Steps p.tables e below (T205.setTop (mkF m 127 #[.val (.int p1), .val (.int p2), .val (.int p3), .val (.int p4), .val (.int p5), .val (.int p6), .val (.int op), .val (.int (4 : Int32)), .val (.int (0 : Int32)), .val (.ref b162), .val (.int (0 : Int32)), .unset] [])) _
                  refine XS.iload X205.here hx rfl (hb hby at_127) rfl ?_
                  show Steps p.tables e below (T205.setTop (mkF m 129 #[.val (.int p1), .val (.int p2), .val (.int p3), .val (.int p4), .val (.int p5), .val (.int p6), .val (.int op), .val (.int (4 : Int32)), .val (.int (0 : Int32)), .val (.ref b162), .val (.int (0 : Int32)), .unset] [(.int (0 : Int32))])) _
                  refine XS.iconst X205.here hx rfl (hb hby at_129) ?_
                  show Steps p.tables e below (T205.setTop (mkF m 130 #[.val (.int p1), .val (.int p2), .val (.int p3), .val (.int p4), .val (.int p5), .val (.int p6), .val (.int op), .val (.int (4 : Int32)), .val (.int (0 : Int32)), .val (.ref b162), .val (.int (0 : Int32)), .unset] [(.int (2 : Int32)), (.int (0 : Int32))])) _
                  refine XS.icmpYes X205.here hx rfl (pc0 := 130) (pc' := 137) rfl (hb hby at_130) rfl (feq (by decide : ¬ ((0 : Int32) = (2 : Int32)))).2 (by decide) (by decide) ?_
                  show Steps p.tables e below (T205.setTop (mkF m 137 #[.val (.int p1), .val (.int p2), .val (.int p3), .val (.int p4), .val (.int p5), .val (.int p6), .val (.int op), .val (.int (4 : Int32)), .val (.int (0 : Int32)), .val (.ref b162), .val (.int (0 : Int32)), .unset] [])) _
                  refine XS.iload X205.here hx rfl (hb hby at_137) rfl ?_
                  show Steps p.tables e below (T205.setTop (mkF m 139 #[.val (.int p1), .val (.int p2), .val (.int p3), .val (.int p4), .val (.int p5), .val (.int p6), .val (.int op), .val (.int (4 : Int32)), .val (.int (0 : Int32)), .val (.ref b162), .val (.int (0 : Int32)), .unset] [(.int (0 : Int32))])) _
                  refine XS.iconst X205.here hx rfl (hb hby at_139) ?_
                  show Steps p.tables e below (T205.setTop (mkF m 140 #[.val (.int p1), .val (.int p2), .val (.int p3), .val (.int p4), .val (.int p5), .val (.int p6), .val (.int op), .val (.int (4 : Int32)), .val (.int (0 : Int32)), .val (.ref b162), .val (.int (0 : Int32)), .unset] [(.int (3 : Int32)), (.int (0 : Int32))])) _
                  refine XS.icmpYes X205.here hx rfl (pc0 := 140) (pc' := 148) rfl (hb hby at_140) rfl (feq (by decide : ¬ ((0 : Int32) = (3 : Int32)))).2 (by decide) (by decide) ?_
                  show Steps p.tables e below (T205.setTop (mkF m 148 #[.val (.int p1), .val (.int p2), .val (.int p3), .val (.int p4), .val (.int p5), .val (.int p6), .val (.int op), .val (.int (4 : Int32)), .val (.int (0 : Int32)), .val (.ref b162), .val (.int (0 : Int32)), .unset] [])) _
                  refine XS.iconst X205.here hx rfl (hb hby at_148) ?_
                  show Steps p.tables e below (T205.setTop (mkF m 149 #[.val (.int p1), .val (.int p2), .val (.int p3), .val (.int p4), .val (.int p5), .val (.int p6), .val (.int op), .val (.int (4 : Int32)), .val (.int (0 : Int32)), .val (.ref b162), .val (.int (0 : Int32)), .unset] [(.int (-1 : Int32))])) _
                  refine XS.istore X205.here hx rfl (hb hby at_149) rfl (l' := #[.val (.int p1), .val (.int p2), .val (.int p3), .val (.int p4), .val (.int p5), .val (.int p6), .val (.int op), .val (.int (4 : Int32)), .val (.int (0 : Int32)), .val (.ref b162), .val (.int (0 : Int32)), .val (.int (-1 : Int32))]) rfl ?_
                  show Steps p.tables e below (T205.setTop (mkF m 151 #[.val (.int p1), .val (.int p2), .val (.int p3), .val (.int p4), .val (.int p5), .val (.int p6), .val (.int op), .val (.int (4 : Int32)), .val (.int (0 : Int32)), .val (.ref b162), .val (.int (0 : Int32)), .val (.int (-1 : Int32))] [])) _
                  refine XS.aload X205.here hx rfl (hb hby at_151) rfl rfl ?_
                  show Steps p.tables e below (T205.setTop (mkF m 153 #[.val (.int p1), .val (.int p2), .val (.int p3), .val (.int p4), .val (.int p5), .val (.int p6), .val (.int op), .val (.int (4 : Int32)), .val (.int (0 : Int32)), .val (.ref b162), .val (.int (0 : Int32)), .val (.int (-1 : Int32))] [(.ref b162)])) _
                  refine XS.iload X205.here hx rfl (hb hby at_153) rfl ?_
                  show Steps p.tables e below (T205.setTop (mkF m 155 #[.val (.int p1), .val (.int p2), .val (.int p3), .val (.int p4), .val (.int p5), .val (.int p6), .val (.int op), .val (.int (4 : Int32)), .val (.int (0 : Int32)), .val (.ref b162), .val (.int (0 : Int32)), .val (.int (-1 : Int32))] [(.int (4 : Int32)), (.ref b162)])) _
                  refine st206 _ ?_
                  show Steps p.tables e below (T206.setTop (mkF m 158 #[.val (.int p1), .val (.int p2), .val (.int p3), .val (.int p4), .val (.int p5), .val (.int p6), .val (.int op), .val (.int (4 : Int32)), .val (.int (0 : Int32)), .val (.ref b162), .val (.int (0 : Int32)), .val (.int (-1 : Int32))] [(.int (-1 : Int32))])) _
                  refine XS.iload X206.here hx rfl (hb hby at_158) rfl ?_
                  show Steps p.tables e below (T206.setTop (mkF m 160 #[.val (.int p1), .val (.int p2), .val (.int p3), .val (.int p4), .val (.int p5), .val (.int p6), .val (.int op), .val (.int (4 : Int32)), .val (.int (0 : Int32)), .val (.ref b162), .val (.int (0 : Int32)), .val (.int (-1 : Int32))] [(.int (-1 : Int32)), (.int (-1 : Int32))])) _
                  refine XS.icmpNo X206.here hx rfl (hb hby at_160) rfl (teq (by decide : (-1 : Int32) = (-1 : Int32))).2 ?_
                  show Steps p.tables e below (T206.setTop (mkF m 163 #[.val (.int p1), .val (.int p2), .val (.int p3), .val (.int p4), .val (.int p5), .val (.int p6), .val (.int op), .val (.int (4 : Int32)), .val (.int (0 : Int32)), .val (.ref b162), .val (.int (0 : Int32)), .val (.int (-1 : Int32))] [])) _
                  refine XS.iconst X206.here hx rfl (hb hby at_163) ?_
                  show Steps p.tables e below (T206.setTop (mkF m 164 #[.val (.int p1), .val (.int p2), .val (.int p3), .val (.int p4), .val (.int p5), .val (.int p6), .val (.int op), .val (.int (4 : Int32)), .val (.int (0 : Int32)), .val (.ref b162), .val (.int (0 : Int32)), .val (.int (-1 : Int32))] [(.int (1 : Int32))])) _
                  refine XS.goto X206.here hx rfl (pc0 := 164) (pc' := 168) rfl (hb hby at_164) (by decide) (by decide) ?_
                  exact k
                obtain ⟨fs, hrt, hrun, hended, hW, hsame⟩ := X206.leave (v := some (.int (1 : Int32))) (fun h => by rw [Bd.returns] at h; cases h)
                refine ⟨_, _, g207 _ ?_, hrun, hended, _, _, rfl, ?_, ⟨_, rfl⟩, hW, hsame.mono (by decide) (by decide)⟩
                · show Steps p.tables e below (T206.setTop (mkF m 168 #[.val (.int p1), .val (.int p2), .val (.int p3), .val (.int p4), .val (.int p5), .val (.int p6), .val (.int op), .val (.int (4 : Int32)), .val (.int (0 : Int32)), .val (.ref b162), .val (.int (0 : Int32)), .val (.int (-1 : Int32))] [(.int (1 : Int32))])) _
                  exact retN X206 hx (t := .boolean) Bd.returns (by simp) (hb hby at_168) hrt
                · show own_Q_rm0 Z p1 p2 p3 p4 p5 p6 h0 n0 _ T206.heap _
                  rw [e206]
                  exact ⟨rfl, N206⟩
        · have o208 : Old Z n0 h178 := (Old.wr (Old.wr (Old.wr (Old.wr (Old.wr (Old.wr (Old.wr (Old.wr (Old.ext O0 E162) W164 gz_b162) W166 gz_b162) W168 gz_b162) W170 gz_b162) W172 gz_b162) W174 gz_b162) W176 gz_b162) W178 gz_b162)
          obtain ⟨_, _, ⟨T209, L209, k209, n209⟩, -, X209, ⟨Lc209, hQ209, l209, y209, z209⟩, st209⟩ := Jvm.LawKit.callS X178 hx (y := (⟨"com/example/chalkline/chalkline/runtime/MachineCodeTargetPinLaw", "targetOperand", "(I)I"⟩ : MethodName)) hown (mvT hZ (hw _ (List.mem_of_getElem? (i := 1) rfl))) (mvT hZ (hw _ (List.mem_of_getElem? (i := 2) rfl))) (mvT hZ (hw _ (List.mem_of_getElem? (i := 3) rfl))) (mvT hZ (hw _ (List.mem_of_getElem? (i := 4) rfl))) (by decide) (backOf (W := 0) (rmOp l Z a0 hw [] op (3 : Int32) h178 n0 o208 (by rw [if_neg hc179, if_neg hc185])) hZ (hw _ (List.mem_of_getElem? (i := 4) rfl)) (hw _ (List.mem_of_getElem? (i := 3) rfl)) (by decide) (by decide)) (g := (mkF m 112 #[.val (.int p1), .val (.int p2), .val (.int p3), .val (.int p4), .val (.int p5), .val (.int p6), .val (.int op), .val (.int (4 : Int32)), .val (.int (0 : Int32)), .val (.ref b162), .unset, .unset] [(.int op)])) rfl (by rw [hml]; rfl) (argsL := [(.int op)]) (rest := []) (lenOf own_pd0 rfl) rfl (by show 2 * 0 + _ ≤ _; exact Nat.le_of_eq rfl) (hb hby at_112) (fun _ _ => ⟨rfl, e178, (by decide : 1 + 0 ≤ _), (by decide : 8 + 0 ≤ _)⟩)
          dsimp only [Pt.U, Pt.locs, Pt.cells, Pt.slots] at X209 l209 y209 z209 st209 hQ209
          subst l209 y209 z209
          obtain ⟨rfl, Nq209, e209⟩ := hQ209
          have N209 := Fr.app N178 Nq209
          obtain ⟨_, _, ⟨T210, L210, k210, n210⟩, -, X210, ⟨Lc210, hQ210, l210, y210, z210⟩, st210⟩ := Jvm.LawKit.callS X209 hx (y := (⟨"com/example/chalkline/chalkline/runtime/MachineCode", "target", "([II)I"⟩ : MethodName)) hown (mvT hZ (hw _ (List.mem_of_getElem? (i := 5) rfl))) (mvT hZ (hw _ (List.mem_of_getElem? (i := 6) rfl))) (mvT hZ (hw _ (List.mem_of_getElem? (i := 7) rfl))) (mvT hZ (hw _ (List.mem_of_getElem? (i := 8) rfl))) (by decide) (backOf (W := 0) (rmT4 l Z a0 hw [] b162 k162 p6 p6 p6 p6 op p3 p4 p5 p5 h178 n0 o208 V178a (by rw [if_neg (fun q => by rw [q] at hc185; exact hc185 (by decide)), if_neg (fun q => by rw [q] at hc185; exact hc185 (by decide)), if_neg (fun q => by rw [q] at hc185; exact hc185 (by decide)), if_neg hc179, if_neg hc185])) hZ (hw _ (List.mem_of_getElem? (i := 8) rfl)) (hw _ (List.mem_of_getElem? (i := 7) rfl)) (by decide) (by decide)) (g := (mkF m 155 #[.val (.int p1), .val (.int p2), .val (.int p3), .val (.int p4), .val (.int p5), .val (.int p6), .val (.int op), .val (.int (4 : Int32)), .val (.int (0 : Int32)), .val (.ref b162), .val (.int (3 : Int32)), .val (.int p5)] [(.int (4 : Int32)), (.ref b162)])) rfl (by rw [hml]; rfl) (argsL := [(.ref b162), (.int (4 : Int32))]) (rest := []) (lenOf own_pd1 rfl) rfl (by show 2 * 0 + _ ≤ _; exact Nat.le_of_eq rfl) (hb hby at_155) (fun _ _ => ⟨rfl, e209, (by decide : 1 + 0 ≤ _), (by decide : 8 + 0 ≤ _)⟩)
          dsimp only [Pt.U, Pt.locs, Pt.cells, Pt.slots] at X210 l210 y210 z210 st210 hQ210
          subst l210 y210 z210
          obtain ⟨rfl, Nq210, e210⟩ := hQ210
          have N210 := Fr.app N209 Nq210
          have hc211 : p5 = p5 := rfl
          have g212 : ∀ t, Steps p.tables e below (T210.setTop (mkF m 168 #[.val (.int p1), .val (.int p2), .val (.int p3), .val (.int p4), .val (.int p5), .val (.int p6), .val (.int op), .val (.int (4 : Int32)), .val (.int (0 : Int32)), .val (.ref b162), .val (.int (3 : Int32)), .val (.int p5)] [(.int (1 : Int32))])) t → Steps p.tables e below (s₁.setTop (entryFrame m #[(.int p1), (.int p2), (.int p3), (.int p4), (.int p5), (.int p6)] maxLocals)) t := by
            intro t k
            refine g180 t ?_
            show Steps p.tables e below (T178.setTop (mkF m 110 #[.val (.int p1), .val (.int p2), .val (.int p3), .val (.int p4), .val (.int p5), .val (.int p6), .val (.int op), .val (.int (4 : Int32)), .val (.int (0 : Int32)), .val (.ref b162), .unset, .unset] [])) _
            refine XS.iload X178.here hx rfl (hb hby at_110) rfl ?_
            show Steps p.tables e below (T178.setTop (mkF m 112 #[.val (.int p1), .val (.int p2), .val (.int p3), .val (.int p4), .val (.int p5), .val (.int p6), .val (.int op), .val (.int (4 : Int32)), .val (.int (0 : Int32)), .val (.ref b162), .unset, .unset] [(.int op)])) _
            refine st209 _ ?_
            show Steps p.tables e below (T209.setTop (mkF m 115 #[.val (.int p1), .val (.int p2), .val (.int p3), .val (.int p4), .val (.int p5), .val (.int p6), .val (.int op), .val (.int (4 : Int32)), .val (.int (0 : Int32)), .val (.ref b162), .unset, .unset] [(.int (3 : Int32))])) _
            refine XS.istore X209.here hx rfl (hb hby at_115) rfl (l' := #[.val (.int p1), .val (.int p2), .val (.int p3), .val (.int p4), .val (.int p5), .val (.int p6), .val (.int op), .val (.int (4 : Int32)), .val (.int (0 : Int32)), .val (.ref b162), .val (.int (3 : Int32)), .unset]) rfl ?_
            show Steps p.tables e below (T209.setTop (mkF m 117 #[.val (.int p1), .val (.int p2), .val (.int p3), .val (.int p4), .val (.int p5), .val (.int p6), .val (.int op), .val (.int (4 : Int32)), .val (.int (0 : Int32)), .val (.ref b162), .val (.int (3 : Int32)), .unset] [])) _
            refine XS.iload X209.here hx rfl (hb hby at_117) rfl ?_
            show Steps p.tables e below (T209.setTop (mkF m 119 #[.val (.int p1), .val (.int p2), .val (.int p3), .val (.int p4), .val (.int p5), .val (.int p6), .val (.int op), .val (.int (4 : Int32)), .val (.int (0 : Int32)), .val (.ref b162), .val (.int (3 : Int32)), .unset] [(.int (3 : Int32))])) _
            refine XS.iconst X209.here hx rfl (hb hby at_119) ?_
            show Steps p.tables e below (T209.setTop (mkF m 120 #[.val (.int p1), .val (.int p2), .val (.int p3), .val (.int p4), .val (.int p5), .val (.int p6), .val (.int op), .val (.int (4 : Int32)), .val (.int (0 : Int32)), .val (.ref b162), .val (.int (3 : Int32)), .unset] [(.int (1 : Int32)), (.int (3 : Int32))])) _
            refine XS.icmpYes X209.here hx rfl (pc0 := 120) (pc' := 127) rfl (hb hby at_120) rfl (feq (by decide : ¬ ((3 : Int32) = (1 : Int32)))).2 (by decide) (by decide) ?_
            show Steps p.tables e below (T209.setTop (mkF m 127 #[.val (.int p1), .val (.int p2), .val (.int p3), .val (.int p4), .val (.int p5), .val (.int p6), .val (.int op), .val (.int (4 : Int32)), .val (.int (0 : Int32)), .val (.ref b162), .val (.int (3 : Int32)), .unset] [])) _
            refine XS.iload X209.here hx rfl (hb hby at_127) rfl ?_
            show Steps p.tables e below (T209.setTop (mkF m 129 #[.val (.int p1), .val (.int p2), .val (.int p3), .val (.int p4), .val (.int p5), .val (.int p6), .val (.int op), .val (.int (4 : Int32)), .val (.int (0 : Int32)), .val (.ref b162), .val (.int (3 : Int32)), .unset] [(.int (3 : Int32))])) _
            refine XS.iconst X209.here hx rfl (hb hby at_129) ?_
            show Steps p.tables e below (T209.setTop (mkF m 130 #[.val (.int p1), .val (.int p2), .val (.int p3), .val (.int p4), .val (.int p5), .val (.int p6), .val (.int op), .val (.int (4 : Int32)), .val (.int (0 : Int32)), .val (.ref b162), .val (.int (3 : Int32)), .unset] [(.int (2 : Int32)), (.int (3 : Int32))])) _
            refine XS.icmpYes X209.here hx rfl (pc0 := 130) (pc' := 137) rfl (hb hby at_130) rfl (feq (by decide : ¬ ((3 : Int32) = (2 : Int32)))).2 (by decide) (by decide) ?_
            show Steps p.tables e below (T209.setTop (mkF m 137 #[.val (.int p1), .val (.int p2), .val (.int p3), .val (.int p4), .val (.int p5), .val (.int p6), .val (.int op), .val (.int (4 : Int32)), .val (.int (0 : Int32)), .val (.ref b162), .val (.int (3 : Int32)), .unset] [])) _
            refine XS.iload X209.here hx rfl (hb hby at_137) rfl ?_
            show Steps p.tables e below (T209.setTop (mkF m 139 #[.val (.int p1), .val (.int p2), .val (.int p3), .val (.int p4), .val (.int p5), .val (.int p6), .val (.int op), .val (.int (4 : Int32)), .val (.int (0 : Int32)), .val (.ref b162), .val (.int (3 : Int32)), .unset] [(.int (3 : Int32))])) _
            refine XS.iconst X209.here hx rfl (hb hby at_139) ?_
            show Steps p.tables e below (T209.setTop (mkF m 140 #[.val (.int p1), .val (.int p2), .val (.int p3), .val (.int p4), .val (.int p5), .val (.int p6), .val (.int op), .val (.int (4 : Int32)), .val (.int (0 : Int32)), .val (.ref b162), .val (.int (3 : Int32)), .unset] [(.int (3 : Int32)), (.int (3 : Int32))])) _
            refine XS.icmpNo X209.here hx rfl (hb hby at_140) rfl (teq (by decide : (3 : Int32) = (3 : Int32))).2 ?_
            show Steps p.tables e below (T209.setTop (mkF m 143 #[.val (.int p1), .val (.int p2), .val (.int p3), .val (.int p4), .val (.int p5), .val (.int p6), .val (.int op), .val (.int (4 : Int32)), .val (.int (0 : Int32)), .val (.ref b162), .val (.int (3 : Int32)), .unset] [])) _
            refine XS.iload X209.here hx rfl (hb hby at_143) rfl ?_
            show Steps p.tables e below (T209.setTop (mkF m 145 #[.val (.int p1), .val (.int p2), .val (.int p3), .val (.int p4), .val (.int p5), .val (.int p6), .val (.int op), .val (.int (4 : Int32)), .val (.int (0 : Int32)), .val (.ref b162), .val (.int (3 : Int32)), .unset] [(.int p5)])) _
            refine XS.goto X209.here hx rfl (pc0 := 145) (pc' := 149) rfl (hb hby at_145) (by decide) (by decide) ?_
            show Steps p.tables e below (T209.setTop (mkF m 149 #[.val (.int p1), .val (.int p2), .val (.int p3), .val (.int p4), .val (.int p5), .val (.int p6), .val (.int op), .val (.int (4 : Int32)), .val (.int (0 : Int32)), .val (.ref b162), .val (.int (3 : Int32)), .unset] [(.int p5)])) _
            refine XS.istore X209.here hx rfl (hb hby at_149) rfl (l' := #[.val (.int p1), .val (.int p2), .val (.int p3), .val (.int p4), .val (.int p5), .val (.int p6), .val (.int op), .val (.int (4 : Int32)), .val (.int (0 : Int32)), .val (.ref b162), .val (.int (3 : Int32)), .val (.int p5)]) rfl ?_
            show Steps p.tables e below (T209.setTop (mkF m 151 #[.val (.int p1), .val (.int p2), .val (.int p3), .val (.int p4), .val (.int p5), .val (.int p6), .val (.int op), .val (.int (4 : Int32)), .val (.int (0 : Int32)), .val (.ref b162), .val (.int (3 : Int32)), .val (.int p5)] [])) _
            refine XS.aload X209.here hx rfl (hb hby at_151) rfl rfl ?_
            show Steps p.tables e below (T209.setTop (mkF m 153 #[.val (.int p1), .val (.int p2), .val (.int p3), .val (.int p4), .val (.int p5), .val (.int p6), .val (.int op), .val (.int (4 : Int32)), .val (.int (0 : Int32)), .val (.ref b162), .val (.int (3 : Int32)), .val (.int p5)] [(.ref b162)])) _
            refine XS.iload X209.here hx rfl (hb hby at_153) rfl ?_
            show Steps p.tables e below (T209.setTop (mkF m 155 #[.val (.int p1), .val (.int p2), .val (.int p3), .val (.int p4), .val (.int p5), .val (.int p6), .val (.int op), .val (.int (4 : Int32)), .val (.int (0 : Int32)), .val (.ref b162), .val (.int (3 : Int32)), .val (.int p5)] [(.int (4 : Int32)), (.ref b162)])) _
            refine st210 _ ?_
            show Steps p.tables e below (T210.setTop (mkF m 158 #[.val (.int p1), .val (.int p2), .val (.int p3), .val (.int p4), .val (.int p5), .val (.int p6), .val (.int op), .val (.int (4 : Int32)), .val (.int (0 : Int32)), .val (.ref b162), .val (.int (3 : Int32)), .val (.int p5)] [(.int p5)])) _
            refine XS.iload X210.here hx rfl (hb hby at_158) rfl ?_
            show Steps p.tables e below (T210.setTop (mkF m 160 #[.val (.int p1), .val (.int p2), .val (.int p3), .val (.int p4), .val (.int p5), .val (.int p6), .val (.int op), .val (.int (4 : Int32)), .val (.int (0 : Int32)), .val (.ref b162), .val (.int (3 : Int32)), .val (.int p5)] [(.int p5), (.int p5)])) _
            refine XS.icmpNo X210.here hx rfl (hb hby at_160) rfl (teq hc211).2 ?_
            show Steps p.tables e below (T210.setTop (mkF m 163 #[.val (.int p1), .val (.int p2), .val (.int p3), .val (.int p4), .val (.int p5), .val (.int p6), .val (.int op), .val (.int (4 : Int32)), .val (.int (0 : Int32)), .val (.ref b162), .val (.int (3 : Int32)), .val (.int p5)] [])) _
            refine XS.iconst X210.here hx rfl (hb hby at_163) ?_
            show Steps p.tables e below (T210.setTop (mkF m 164 #[.val (.int p1), .val (.int p2), .val (.int p3), .val (.int p4), .val (.int p5), .val (.int p6), .val (.int op), .val (.int (4 : Int32)), .val (.int (0 : Int32)), .val (.ref b162), .val (.int (3 : Int32)), .val (.int p5)] [(.int (1 : Int32))])) _
            refine XS.goto X210.here hx rfl (pc0 := 164) (pc' := 168) rfl (hb hby at_164) (by decide) (by decide) ?_
            exact k
          obtain ⟨fs, hrt, hrun, hended, hW, hsame⟩ := X210.leave (v := some (.int (1 : Int32))) (fun h => by rw [Bd.returns] at h; cases h)
          refine ⟨_, _, g212 _ ?_, hrun, hended, _, _, rfl, ?_, ⟨_, rfl⟩, hW, hsame.mono (by decide) (by decide)⟩
          · show Steps p.tables e below (T210.setTop (mkF m 168 #[.val (.int p1), .val (.int p2), .val (.int p3), .val (.int p4), .val (.int p5), .val (.int p6), .val (.int op), .val (.int (4 : Int32)), .val (.int (0 : Int32)), .val (.ref b162), .val (.int (3 : Int32)), .val (.int p5)] [(.int (1 : Int32))])) _
            exact retN X210 hx (t := .boolean) Bd.returns (by simp) (hb hby at_168) hrt
          · show own_Q_rm0 Z p1 p2 p3 p4 p5 p6 h0 n0 _ T210.heap _
            rw [e210]
            exact ⟨rfl, N210⟩
set_option maxRecDepth 65536 in
set_option maxHeartbeats 40000000 in
theorem comes_1 {Post : Tables → Env → Array Value → State → Outcome → State → Prop} (hpost : ∀ tb e args s v u, (limb_1_1.after args s (.returned v) u = true ∧ limb_1_2.after args s (.returned v) u = true ∧ True) → FrameEnd s (.returned v) u (Jvm.fieldLocs frame_1_writes args s ++ Jvm.arrayLocs frame_1_arrays args s ++ Jvm.staticLocs frame_1_statics s) 16 128 → Post tb e args s (.returned v) u) :
    ArmFor flags0 classFile x code maxLocals ret World_1 tables_1 room_1 Calls_1 rest_1 Pre_1 Post := by
  intro l hfl _ _ p e ha hc hk s m args below hf hA hF happ hP
  obtain ⟨hcalls, hrest, hpre⟩ := hP
  obtain ⟨-, -, -, hnamed, -, -, -, hat⟩ := (Spec.applies_iff hf).mp happ
  obtain ⟨hg, hn⟩ := and_e (Cond.before_iff.mp (show (Jvm.Cond.and given_1 narrow_1).before args s = true from hpre))
  obtain ⟨h0a, h0b⟩ := and_e hg
  obtain ⟨h1a, h1b⟩ := and_e h0b
  obtain ⟨h2a, h2b⟩ := and_e h1b
  obtain ⟨h3a, h3b⟩ := and_e h2b
  obtain ⟨h4a, h4b⟩ := and_e h3b
  obtain ⟨h5a, h5b⟩ := and_e h4b
  obtain ⟨w0, w1, w2, w3, w4, w5, rfl⟩ : ∃ w0 w1 w2 w3 w4 w5 : Value, args = #[w0, w1, w2, w3, w4, w5] := by
    have hs : args.size = 6 := by simpa [Cond.value, given_1] using h0a
    obtain ⟨L⟩ := args
    match L, hs with
    | [w0, w1, w2, w3, w4, w5], _ => exact ⟨w0, w1, w2, w3, w4, w5, rfl⟩
  have hw := fun d (hd : d ∈ tables_1) => atoms_spec (ws := Jvm.Cond.code x code maxLocals ret :: tables_1) hat d (List.mem_cons_of_mem _ hd)
  obtain ⟨i0, ei0⟩ := is_v h1a
  obtain rfl : w0 = (.int i0) := Option.some.inj ei0
  obtain ⟨i1, ei1⟩ := is_v h2a
  obtain rfl : w1 = (.int i1) := Option.some.inj ei1
  obtain ⟨i2, ei2⟩ := is_v h3a
  obtain rfl : w2 = (.int i2) := Option.some.inj ei2
  obtain ⟨i3, ei3⟩ := is_v h4a
  obtain rfl : w3 = (.int i3) := Option.some.inj ei3
  obtain ⟨i4, ei4⟩ := is_v h5a
  obtain rfl : w4 = (.int i4) := Option.some.inj ei4
  obtain ⟨i5, ei5⟩ := is_v h5b
  obtain rfl : w5 = (.int i5) := Option.some.inj ei5
  obtain ⟨n, o, h1, h2, h3, _, L, rfl, ⟨rfl, N⟩, hq⟩ := rm0 l s _ hw tables_1 i0 i1 i2 i3 i4 i5 s.heap s.heap.size (Old.start s) p e ha hc hk s m _ below hf ((Spec.applies_iff_loose hf).mp happ).1 ⟨rfl, State.Warmed39.refl s, rfl⟩ trivial
  refine ⟨n, _, h1, h2, h3, hpost _ _ _ _ _ _ ⟨Cond.after_iff.mpr rfl, Cond.after_iff.mpr (eq_i res_at (Term.int_eval (1)) rfl), trivial⟩ ⟨hq.1, hq.2.1, (hq.2.2.sift fun y hy => Or.inr (N y hy)).mono (by decide) (by decide)⟩⟩
theorem main_1_1 : Claimed_1_1 := comes_1 fun _ _ _ _ _ _ h hF => ⟨h.1, hF⟩
theorem main_1_2 : Claimed_1_2 := comes_1 fun _ _ _ _ _ _ h hF => ⟨h.2.1, hF⟩
end Jvm.Pilot.@@N@@
namespace Jvm.Pilot.@@N@@
open Jvm Jvm.ClassFile Sem Op Lib Jvm.Free Jvm.Stand Jvm.Pilot.@@N@@.Jvm.D
/-! MADE BY PROGRAM (witnessworld.py) out of the Statement's table words and the real class files: 9 classes; the members and pool entries that the words name. The judged class is class 1, her method 2. -/
namespace start1
open Jvm.ClassFile
def u (s : String) : CpInfo := .utf8 (stringToUtf16 s)
/-- a pool by its gaps: so many unusable entries, then the entry; so many at the end -/
def gap : Nat → List CpInfo → List CpInfo
  | 0, r => r
  | n + 1, r => .unusable :: gap n r
def poolList (es : List (Nat × CpInfo)) (last : Nat) : List CpInfo := es.foldr (fun e r => gap e.1 (e.2 :: r)) (gap last [])
def pool (es : List (Nat × CpInfo)) (last : Nat) : Array CpInfo := ⟨poolList es last⟩
def fileOf (pool : Array CpInfo) (this : Nat) (attrs : Array Attribute := #[]) (ms : Array MethodInfo := #[]) (fl : Nat := 33) (sup : Nat := 0) (ifs : Array Nat := #[]) (fds : Array FieldInfo := #[]) : ClassFile where
  minorVersion := 0
  majorVersion := 65
  constantPool := pool
  accessFlags := fl
  thisClass := this
  superClass := sup
  interfaces := ifs
  fields := fds
  methods := ms
  attributes := attrs
def plain (name : String) (sup : Option ClassId) : Class where
  name := name
  kind := .ordinary
  loader := none
  accessFlags := 33
  super := sup
  interfaces := #[]
  cf := none
  fields := #[]
  methods := #[]
  instanceTypes := #[]
  staticTypes := #[]
  resolved := #[]
  callSites := []
  init := .initialized
  statics := none
  mirror := none

def pool0 : Array CpInfo := pool [(5, u "<init>"), (0, u "()V"), (1, .class_ 10), (1, u "java/lang/Object")] 113

def k0m0 : Method := { name := "<init>", desc := "()V", sig := { parameters := [], returnType := none }, accessFlags := 1, code := none }
/-- java/lang/Object -/
def k0 : Class := { plain "java/lang/Object" none with
  accessFlags := 33
  interfaces := #[]
  cf := some (fileOf pool0 8 #[] #[{ accessFlags := 1, nameIndex := 5, descriptorIndex := 6, attributes := #[] }] 33 0 #[] #[])
  fields := #[]
  methods := #[k0m0]
  instanceTypes := #[]
  staticTypes := #[]
  resolved := Array.replicate 124 none
  statics := none }

def pool1 : Array CpInfo := pool [(2, .class_ 4), (1, u "java/lang/Object"), (0, u "<init>"), (0, u "()V"), (0, .class_ 8), (0, u "com/example/chalkline/chalkline/runtime/MachineCode"), (0, .methodref 10 11), (0, .class_ 12), (0, .nameAndType 13 14), (0, u "com/example/chalkline/chalkline/runtime/MachineCodeTargetPinLaw"), (0, u "targetOperand"), (0, u "(I)I"), (0, .methodref 7 16), (0, .nameAndType 17 18), (0, u "target"), (0, u "([II)I"), (3, u "law"), (0, u "(IIIIII)Z")] 4

def k1m0 : Method := { name := "<init>", desc := "()V", sig := { parameters := [], returnType := none }, accessFlags := 1, code := none }
def k1c1 : Code := { maxStack := 2, maxLocals := 1, code := method_2_code, exceptionTable := #[], attributes := #[] }
def k1m1 : Method := { name := "targetOperand", desc := "(I)I", sig := { parameters := [.int], returnType := some .int }, accessFlags := 10, code := some k1c1 }
def k1c2 : Code := { maxStack := 3, maxLocals := 12, code := code, exceptionTable := #[], attributes := #[] }
def k1m2 : Method := { name := "law", desc := "(IIIIII)Z", sig := { parameters := [.int, .int, .int, .int, .int, .int], returnType := some .boolean }, accessFlags := 9, code := some k1c2 }
/-- com/example/chalkline/chalkline/runtime/MachineCodeTargetPinLaw -/
def k1 : Class := { plain "com/example/chalkline/chalkline/runtime/MachineCodeTargetPinLaw" (some 0) with
  accessFlags := 49
  interfaces := #[]
  cf := some (fileOf pool1 10 #[] #[{ accessFlags := 1, nameIndex := 5, descriptorIndex := 6, attributes := #[] }, { accessFlags := 10, nameIndex := 13, descriptorIndex := 14, attributes := #[] }, { accessFlags := 9, nameIndex := 22, descriptorIndex := 23, attributes := #[] }] 49 2 #[] #[])
  fields := #[]
  methods := #[k1m0, k1m1, k1m2]
  instanceTypes := #[]
  staticTypes := #[]
  resolved := Array.replicate 28 none
  statics := none }

def pool2 : Array CpInfo := pool [(2, .class_ 4), (1, u "java/lang/Object"), (3, .class_ 10), (1, u "com/example/chalkline/chalkline/runtime/MachineCode$Translation"), (0, u "code"), (0, u "[I"), (1, .class_ 15), (0, u "com/example/chalkline/chalkline/runtime/MachineCode"), (2, u "functions"), (3, u "lines"), (3, u "constants"), (9, u "[Ljava/lang/Object;"), (2, u "texts"), (0, u "[Ljava/lang/String;"), (3, u "slots"), (0, u "I"), (2, u "frameRoom"), (20, u "target"), (0, u "([II)I"), (0, u "MOVE"), (2, u "ADD"), (1, u "SUBTRACT"), (1, u "MULTIPLY"), (1, u "DIVIDE"), (1, u "REMAINDER"), (1, u "LESS"), (1, u "LESS_EQUAL"), (1, u "GREATER"), (1, u "GREATER_EQUAL"), (1, u "EQUAL"), (1, u "NOT_EQUAL"), (1, u "JUMP_UNLESS_LESS"), (1, u "JUMP_UNLESS_LESS_EQUAL"), (1, u "JUMP_UNLESS_GREATER"), (1, u "JUMP_UNLESS_GREATER_EQUAL"), (1, u "JUMP_UNLESS_EQUAL"), (1, u "JUMP_UNLESS_NOT_EQUAL"), (1, u "JUMP_IF_LESS"), (1, u "JUMP_IF_LESS_EQUAL"), (1, u "JUMP_IF_GREATER"), (1, u "JUMP_IF_GREATER_EQUAL"), (1, u "NEGATE"), (1, u "NOT"), (1, u "ARRAY"), (1, u "GET_ELEMENT"), (1, u "SET_ELEMENT"), (1, u "JUMP"), (1, u "JUMP_IF_FALSE"), (1, u "JUMP_IF_TRUE"), (1, u "CALL"), (1, u "RETURN"), (1, u "PRINT"), (1, u "HALT"), (1, u "COPY_ARRAY"), (1, u "WIDTH"), (13, .class_ 157), (0, u "com/example/chalkline/chalkline/runtime/MachineCode$1"), (0, .class_ 159), (0, u "com/example/chalkline/chalkline/runtime/MachineCode$Node")] 3

def k2c0 : Code := { maxStack := 3, maxLocals := 3, code := prog_64_method_5_code, exceptionTable := #[], attributes := #[] }
def k2m0 : Method := { name := "target", desc := "([II)I", sig := { parameters := [(.array .int), .int], returnType := some .int }, accessFlags := 8, code := some k2c0 }
/-- com/example/chalkline/chalkline/runtime/MachineCode -/
def k2 : Class := { plain "com/example/chalkline/chalkline/runtime/MachineCode" (some 0) with
  accessFlags := 48
  interfaces := #[]
  cf := some (fileOf pool2 14 #[.nestMembers #[156, 8, 158]] #[{ accessFlags := 8, nameIndex := 69, descriptorIndex := 70, attributes := #[] }] 48 2 #[] #[{ accessFlags := 24, nameIndex := 71, descriptorIndex := 45, attributes := #[] }, { accessFlags := 24, nameIndex := 74, descriptorIndex := 45, attributes := #[] }, { accessFlags := 24, nameIndex := 76, descriptorIndex := 45, attributes := #[] }, { accessFlags := 24, nameIndex := 78, descriptorIndex := 45, attributes := #[] }, { accessFlags := 24, nameIndex := 80, descriptorIndex := 45, attributes := #[] }, { accessFlags := 24, nameIndex := 82, descriptorIndex := 45, attributes := #[] }, { accessFlags := 24, nameIndex := 84, descriptorIndex := 45, attributes := #[] }, { accessFlags := 24, nameIndex := 86, descriptorIndex := 45, attributes := #[] }, { accessFlags := 24, nameIndex := 88, descriptorIndex := 45, attributes := #[] }, { accessFlags := 24, nameIndex := 90, descriptorIndex := 45, attributes := #[] }, { accessFlags := 24, nameIndex := 92, descriptorIndex := 45, attributes := #[] }, { accessFlags := 24, nameIndex := 94, descriptorIndex := 45, attributes := #[] }, { accessFlags := 24, nameIndex := 96, descriptorIndex := 45, attributes := #[] }, { accessFlags := 24, nameIndex := 98, descriptorIndex := 45, attributes := #[] }, { accessFlags := 24, nameIndex := 100, descriptorIndex := 45, attributes := #[] }, { accessFlags := 24, nameIndex := 102, descriptorIndex := 45, attributes := #[] }, { accessFlags := 24, nameIndex := 104, descriptorIndex := 45, attributes := #[] }, { accessFlags := 24, nameIndex := 106, descriptorIndex := 45, attributes := #[] }, { accessFlags := 24, nameIndex := 108, descriptorIndex := 45, attributes := #[] }, { accessFlags := 24, nameIndex := 110, descriptorIndex := 45, attributes := #[] }, { accessFlags := 24, nameIndex := 112, descriptorIndex := 45, attributes := #[] }, { accessFlags := 24, nameIndex := 114, descriptorIndex := 45, attributes := #[] }, { accessFlags := 24, nameIndex := 116, descriptorIndex := 45, attributes := #[] }, { accessFlags := 24, nameIndex := 118, descriptorIndex := 45, attributes := #[] }, { accessFlags := 24, nameIndex := 120, descriptorIndex := 45, attributes := #[] }, { accessFlags := 24, nameIndex := 122, descriptorIndex := 45, attributes := #[] }, { accessFlags := 24, nameIndex := 124, descriptorIndex := 45, attributes := #[] }, { accessFlags := 24, nameIndex := 126, descriptorIndex := 45, attributes := #[] }, { accessFlags := 24, nameIndex := 128, descriptorIndex := 45, attributes := #[] }, { accessFlags := 24, nameIndex := 130, descriptorIndex := 45, attributes := #[] }, { accessFlags := 24, nameIndex := 132, descriptorIndex := 45, attributes := #[] }, { accessFlags := 24, nameIndex := 134, descriptorIndex := 45, attributes := #[] }, { accessFlags := 24, nameIndex := 136, descriptorIndex := 45, attributes := #[] }, { accessFlags := 24, nameIndex := 138, descriptorIndex := 45, attributes := #[] }, { accessFlags := 24, nameIndex := 140, descriptorIndex := 45, attributes := #[] }, { accessFlags := 24, nameIndex := 142, descriptorIndex := 45, attributes := #[] }, { accessFlags := 18, nameIndex := 11, descriptorIndex := 12, attributes := #[] }, { accessFlags := 18, nameIndex := 18, descriptorIndex := 12, attributes := #[] }, { accessFlags := 18, nameIndex := 22, descriptorIndex := 12, attributes := #[] }, { accessFlags := 18, nameIndex := 26, descriptorIndex := 36, attributes := #[] }, { accessFlags := 18, nameIndex := 39, descriptorIndex := 40, attributes := #[] }, { accessFlags := 18, nameIndex := 44, descriptorIndex := 45, attributes := #[] }, { accessFlags := 18, nameIndex := 48, descriptorIndex := 45, attributes := #[] }])
  fields := #[{ name := "MOVE", type := .int, accessFlags := 24, slot := 0, constantValue := 0 }, { name := "ADD", type := .int, accessFlags := 24, slot := 1, constantValue := 0 }, { name := "SUBTRACT", type := .int, accessFlags := 24, slot := 2, constantValue := 0 }, { name := "MULTIPLY", type := .int, accessFlags := 24, slot := 3, constantValue := 0 }, { name := "DIVIDE", type := .int, accessFlags := 24, slot := 4, constantValue := 0 }, { name := "REMAINDER", type := .int, accessFlags := 24, slot := 5, constantValue := 0 }, { name := "LESS", type := .int, accessFlags := 24, slot := 6, constantValue := 0 }, { name := "LESS_EQUAL", type := .int, accessFlags := 24, slot := 7, constantValue := 0 }, { name := "GREATER", type := .int, accessFlags := 24, slot := 8, constantValue := 0 }, { name := "GREATER_EQUAL", type := .int, accessFlags := 24, slot := 9, constantValue := 0 }, { name := "EQUAL", type := .int, accessFlags := 24, slot := 10, constantValue := 0 }, { name := "NOT_EQUAL", type := .int, accessFlags := 24, slot := 11, constantValue := 0 }, { name := "JUMP_UNLESS_LESS", type := .int, accessFlags := 24, slot := 12, constantValue := 0 }, { name := "JUMP_UNLESS_LESS_EQUAL", type := .int, accessFlags := 24, slot := 13, constantValue := 0 }, { name := "JUMP_UNLESS_GREATER", type := .int, accessFlags := 24, slot := 14, constantValue := 0 }, { name := "JUMP_UNLESS_GREATER_EQUAL", type := .int, accessFlags := 24, slot := 15, constantValue := 0 }, { name := "JUMP_UNLESS_EQUAL", type := .int, accessFlags := 24, slot := 16, constantValue := 0 }, { name := "JUMP_UNLESS_NOT_EQUAL", type := .int, accessFlags := 24, slot := 17, constantValue := 0 }, { name := "JUMP_IF_LESS", type := .int, accessFlags := 24, slot := 18, constantValue := 0 }, { name := "JUMP_IF_LESS_EQUAL", type := .int, accessFlags := 24, slot := 19, constantValue := 0 }, { name := "JUMP_IF_GREATER", type := .int, accessFlags := 24, slot := 20, constantValue := 0 }, { name := "JUMP_IF_GREATER_EQUAL", type := .int, accessFlags := 24, slot := 21, constantValue := 0 }, { name := "NEGATE", type := .int, accessFlags := 24, slot := 22, constantValue := 0 }, { name := "NOT", type := .int, accessFlags := 24, slot := 23, constantValue := 0 }, { name := "ARRAY", type := .int, accessFlags := 24, slot := 24, constantValue := 0 }, { name := "GET_ELEMENT", type := .int, accessFlags := 24, slot := 25, constantValue := 0 }, { name := "SET_ELEMENT", type := .int, accessFlags := 24, slot := 26, constantValue := 0 }, { name := "JUMP", type := .int, accessFlags := 24, slot := 27, constantValue := 0 }, { name := "JUMP_IF_FALSE", type := .int, accessFlags := 24, slot := 28, constantValue := 0 }, { name := "JUMP_IF_TRUE", type := .int, accessFlags := 24, slot := 29, constantValue := 0 }, { name := "CALL", type := .int, accessFlags := 24, slot := 30, constantValue := 0 }, { name := "RETURN", type := .int, accessFlags := 24, slot := 31, constantValue := 0 }, { name := "PRINT", type := .int, accessFlags := 24, slot := 32, constantValue := 0 }, { name := "HALT", type := .int, accessFlags := 24, slot := 33, constantValue := 0 }, { name := "COPY_ARRAY", type := .int, accessFlags := 24, slot := 34, constantValue := 0 }, { name := "WIDTH", type := .int, accessFlags := 24, slot := 35, constantValue := 0 }, { name := "code", type := (.array .int), accessFlags := 18, slot := 0, constantValue := 0 }, { name := "functions", type := (.array .int), accessFlags := 18, slot := 1, constantValue := 0 }, { name := "lines", type := (.array .int), accessFlags := 18, slot := 2, constantValue := 0 }, { name := "constants", type := (.array (.object "java/lang/Object")), accessFlags := 18, slot := 3, constantValue := 0 }, { name := "texts", type := (.array (.object "java/lang/String")), accessFlags := 18, slot := 4, constantValue := 0 }, { name := "slots", type := .int, accessFlags := 18, slot := 5, constantValue := 0 }, { name := "frameRoom", type := .int, accessFlags := 18, slot := 6, constantValue := 0 }]
  methods := #[k2m0]
  instanceTypes := #[(.array .int), (.array .int), (.array .int), (.array (.object "java/lang/Object")), (.array (.object "java/lang/String")), .int, .int]
  staticTypes := #[.int, .int, .int, .int, .int, .int, .int, .int, .int, .int, .int, .int, .int, .int, .int, .int, .int, .int, .int, .int, .int, .int, .int, .int, .int, .int, .int, .int, .int, .int, .int, .int, .int, .int, .int, .int]
  resolved := Array.replicate 163 none
  statics := none }

def pool3 : Array CpInfo := pool [(1, u "java/lang/Cloneable"), (0, .class_ 1), (0, u "java/lang/Object"), (0, .class_ 3)] 3

/-- java/lang/Cloneable -/
def k3 : Class := { plain "java/lang/Cloneable" (some 0) with
  accessFlags := 1537
  interfaces := #[]
  cf := some (fileOf pool3 2 #[] #[] 1537 4 #[] #[])
  fields := #[]
  methods := #[]
  instanceTypes := #[]
  staticTypes := #[]
  resolved := Array.replicate 8 none
  statics := none }

def pool4 : Array CpInfo := pool [(1, u "java/io/Serializable"), (0, .class_ 1), (0, u "java/lang/Object"), (0, .class_ 3)] 3

/-- java/io/Serializable -/
def k4 : Class := { plain "java/io/Serializable" (some 0) with
  accessFlags := 1537
  interfaces := #[]
  cf := some (fileOf pool4 2 #[] #[] 1537 4 #[] #[])
  fields := #[]
  methods := #[]
  instanceTypes := #[]
  staticTypes := #[]
  resolved := Array.replicate 8 none
  statics := none }

/-- the primitive byte -/
def k5 : Class := { plain "byte" none with kind := .primitive 'B', accessFlags := 0x411 }
/-- [B -/
def k6 : Class := { plain "[B" (some 0) with kind := .array 5 .byte, interfaces := #[3, 4], accessFlags := 1041 }

/-- the primitive int -/
def k7 : Class := { plain "int" none with kind := .primitive 'I', accessFlags := 0x411 }
/-- [I -/
def k8 : Class := { plain "[I" (some 0) with kind := .array 7 .int, interfaces := #[3, 4], accessFlags := 1041 }

def heap : Heap := #[]
def classes : Array Class := #[k0, k1, k2, k3, k4, k5, k6, k7, k8]
def interned : List (Array UInt16 × Addr) := []
def slotsUsed : Nat := 0
def theMethod : MethodId := ⟨1, 2⟩
def args0 : Array Value := #[.int 5, .int 7, .int 9, .int 5, .int 7, .int 9]
def aboutOver (below : List Frame) : State where
  vm := { classes := classes, interned := interned.toArray }
  heap := heap
  slotsUsed := slotsUsed
  threads := #[{ frames := .invoking theMethod args0 :: below }]
def below0 : List Frame := [.native { method := ⟨0, 0⟩, args := #[] }]
def about1 : State := aboutOver below0
def p0 : Program := .bare "" "" ""
def e0 : Env := launch0.env 0 0 0
theorem w_frames : about1.frames = Frame.invoking theMethod args0 :: below0 := rfl
set_option maxRecDepth 65536 in
theorem w_args : argsFit about1.vm theMethod args0 = true := by decide +kernel
set_option maxRecDepth 65536 in
theorem w_heap : heapFits about1 = true := by decide +kernel
set_option maxRecDepth 65536 in
theorem w_runnable : about1.curStatus? = some .runnable := by decide +kernel
set_option maxRecDepth 65536 in
theorem w_alone : about1.alone = true := by decide +kernel
set_option maxRecDepth 65536 in
theorem w_named : about1.methodNamed? x = some theMethod := by decide +kernel
set_option maxRecDepth 65536 in
theorem w_hears : about1.hears theMethod below0 = true := by decide +kernel
set_option maxRecDepth 65536 in
theorem w_ripe : about1.ripe theMethod args0 below0 = true := by decide +kernel
theorem w_running : about1.status = .running := rfl
set_option maxRecDepth 65536 in
theorem w_room : about1.hasRoom e0.platform room_1 = true :=
  launch0.hasRoom_least _ room_1 (by decide +kernel) (by decide +kernel) (by decide +kernel) (by decide +kernel) (by decide +kernel) (by decide +kernel)
theorem allAtoms_all (ts : List Jvm.Cond) (a : Array Jvm.Value) (st : Jvm.State) : (allAtoms ts).before a st = ts.all (fun c => c.before a st) := by
  induction ts with
  | nil => rfl
  | cons c t ih =>
    show (Jvm.Cond.and c (allAtoms t)).before a st = _
    rw [Jvm.Cond.before_and, ih, List.all_cons]
def words1 : List Jvm.Cond := Jvm.Cond.code x code maxLocals ret :: tables_1
/-- a 'code' word, met by the world's own term for the bytes: nothing is compared byte by byte -/
theorem code_word {y : MethodName} {bytes : ByteArray} {mx : Nat} {rt : Option FieldType} {a : Array Value} {s : State} {m : MethodId} {meth : Method} {c : Code} (h1 : s.methodNamed? y = some m) (h2 : s.vm.method? m = some meth) (h3 : meth.code = some c) (h4 : c.code = bytes)
    (h5 : (c.maxLocals == mx && c.exceptionTable.isEmpty && decide (c.maxStack ≤ mostOperands) && decide (meth.sig.returnType = rt) && !meth.locks && decide (parseMethodDescriptor y.desc = some meth.sig)) = true) : (Jvm.Cond.code y bytes mx rt).before a s = true := by
  simp only [Bool.and_eq_true, beq_iff_eq, Bool.not_eq_true', decide_eq_true_eq] at h5
  obtain ⟨⟨⟨⟨⟨g1, g2⟩, g3⟩, g4⟩, g5⟩, g6⟩ := h5
  simp [Cond.before, Cond.holds, Cond.value, h1, h2, h3, h4, g1, g2, g3, g4, g5, g6]
def isCode : Jvm.Cond → Bool
  | .code _ _ _ _ => true
  | _ => false
theorem all_split {L : List Jvm.Cond} {P : Jvm.Cond → Bool} (h1 : L.all (fun c => isCode c || P c) = true) (h2 : ∀ c ∈ L.filter isCode, P c = true) : L.all P = true := by
  refine List.all_eq_true.mpr fun c hc => ?_
  have h := List.all_eq_true.mp h1 c hc
  rcases Bool.eq_false_or_eq_true (isCode c) with hi | hi
  · exact h2 c (List.mem_filter.mpr ⟨hc, hi⟩)
  · simpa [hi] using h
set_option maxRecDepth 65536 in
theorem w_c0 : (Jvm.Cond.code x code maxLocals ret).before args0 about1 = true := code_word (m := ⟨1, 2⟩) (meth := k1m2) (c := k1c2) (by decide +kernel) rfl rfl rfl (by decide +kernel)
set_option maxRecDepth 65536 in
theorem w_c1 : (Jvm.Cond.code ({ cls := "com/example/chalkline/chalkline/runtime/MachineCodeTargetPinLaw", name := "targetOperand", desc := "(I)I" } : Jvm.MethodName) method_2_code (1 : Nat) (Option.some Jvm.ClassFile.FieldType.int)).before args0 about1 = true := code_word (m := ⟨1, 1⟩) (meth := k1m1) (c := k1c1) (by decide +kernel) rfl rfl rfl (by decide +kernel)
set_option maxRecDepth 65536 in
theorem w_c2 : (Jvm.Cond.code ({ cls := "com/example/chalkline/chalkline/runtime/MachineCode", name := "target", desc := "([II)I" } : Jvm.MethodName) prog_64_method_5_code (3 : Nat) (Option.some Jvm.ClassFile.FieldType.int)).before args0 about1 = true := code_word (m := ⟨2, 0⟩) (meth := k2m0) (c := k2c0) (by decide +kernel) rfl rfl rfl (by decide +kernel)
def codes1 : List Jvm.Cond := [Jvm.Cond.code x code maxLocals ret, Jvm.Cond.code ({ cls := "com/example/chalkline/chalkline/runtime/MachineCodeTargetPinLaw", name := "targetOperand", desc := "(I)I" } : Jvm.MethodName) method_2_code (1 : Nat) (Option.some Jvm.ClassFile.FieldType.int), Jvm.Cond.code ({ cls := "com/example/chalkline/chalkline/runtime/MachineCode", name := "target", desc := "([II)I" } : Jvm.MethodName) prog_64_method_5_code (3 : Nat) (Option.some Jvm.ClassFile.FieldType.int)]
set_option maxRecDepth 65536 in
theorem codes_eq : words1.filter isCode = codes1 := rfl
theorem w_codes : ∀ c ∈ words1.filter isCode, c.before args0 about1 = true := by
  rw [codes_eq]
  intro c hc
  simp only [codes1, List.mem_cons, List.not_mem_nil, or_false] at hc
  rcases hc with rfl | rfl | rfl
  · exact w_c0
  · exact w_c1
  · exact w_c2
set_option maxRecDepth 65536 in
theorem w_t1 : words1.all (fun c => isCode c || c.before args0 about1) = true := by decide +kernel
theorem w_tables : (allAtoms (Jvm.Cond.code x code maxLocals ret :: tables_1)).before args0 about1 = true := by
  rw [allAtoms_all]
  show words1.all (fun c => c.before args0 about1) = true
  refine all_split ?_ w_codes
  rw [w_t1]
set_option maxRecDepth 65536 in
theorem w_case : (Jvm.Cond.and given_1 narrow_1).before args0 about1 = true := by decide +kernel
theorem w_applies : (headSpec (Jvm.Cond.code x code maxLocals ret :: tables_1) room_1).applies x e0.platform about1 = true :=
  (Spec.applies_iff w_frames).mpr ⟨w_running, w_runnable, w_alone, w_named, w_hears, w_ripe, w_room, w_tables⟩
theorem atStart : AtStart classFile x code maxLocals ret World_1 tables_1 room_1 Calls_1 rest_1 Pre_1 launch0 p0 e0 about1 theMethod args0 below0 :=
  ⟨lists_1, trivial, launch0.admits_env _ _ _, launch0.least_env, fairChoices_fair.cas, fairChoices_fair.clock, w_frames, w_args, w_heap, w_applies, trivial, trivial, w_case⟩
end start1
theorem witness_1 : WitnessClaimed_1 := ⟨start1.p0, start1.e0, start1.about1, start1.theMethod, start1.args0, start1.below0, start1.atStart⟩
end Jvm.Pilot.@@N@@
