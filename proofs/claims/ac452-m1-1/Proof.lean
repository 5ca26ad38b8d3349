import JvmDerived
import JvmDerived.Pilot.@@N@@Statement
import JvmDerived.Pilot.@@N@@Code
set_option linter.unusedVariables false
set_option linter.unusedSimpArgs false
namespace Jvm.RoadKit
open Sem ClassFile Op Lib Jvm.Stand Jvm.Free Jvm.LawKit
section New
variable {p : Program} {l : Launch} {e : Env} {R : Room} {s : State} {m : MethodId} {args : Array Value} {below : List Frame} {meth : Method} {c : Code} {T : State} {locs : List Loc} {cells slots : Nat}
theorem retI (X : Stand p l e R s m args below meth c T locs cells slots) (hx : p.tables.exec = Jvm.exec) {pc : Nat} {Ls : Array Slot} {z : Int32} {rest : List Value} (hret : meth.sig.returnType = some .int) (hd : decode c.code pc = .ok (.ireturn, 1)) {fs : List Frame}
    (hl : ∀ (f : JFrame) (acts : List Action), f.method = m → f.locked = none → f.entered = [] → (doReturn e (T.setTop f) acts (some (.int z))).1 = T.setFrames fs) : Steps p.tables e below (T.setTop (mkF m pc Ls (.int z :: rest))) (T.setFrames fs) := by
  have hm' : T.vm.method? m = some meth := X.method'
  have hn : narrow .int (.int z) = .int z := rfl
  show Steps p.tables e below (T.setTop { method := m, pc := pc, locals := Ls, stack := _ :: rest, locked := none }) _
  jvm_step X.here [X.here.top, hx, hd, hm', hret, hn]
  first | (intro acts; rw [hl _ acts rfl rfl rfl]) | rw [hl _ _ rfl rfl rfl]
  exact Steps.refl _
end New
end Jvm.RoadKit
namespace Jvm.Pilot.@@N@@
open Jvm Jvm.ClassFile Sem Op Lib Jvm.Free Jvm.Stand Jvm.LawKit Jvm.RoadKit Bundle Jvm.Pilot.@@N@@.Jvm.D
theorem own_irem (x y : Int32) : x - (x / y) * y = x % y := by
  apply Int32.toInt_inj.mp
  have h1 := Int32.le_toInt (x % y)
  have h2 := Int32.toInt_lt (x % y)
  rw [Int32.toInt_sub, Int32.toInt_mul, Int32.toInt_div, Int.bmod_mul_bmod, Int.sub_bmod_bmod, Int.mul_comm (x.toInt.tdiv y.toInt), ← Int.tmod_def, ← Int32.toInt_mod]
  exact Int.bmod_eq_of_le_mul_two (by omega) (by omega)
theorem own_eqI {args : Array Value} {first s : State} {o : Option Outcome} {idx : List Nat} {t : Term} {k : Int32} (h : (Cond.eq t (.int k)).value args first o s idx = some true) : t.eval args first o idx s = some (.int k) :=
  Cond.eq_int (by simp [Cond.holds, h]) (Term.int_eval _)
def own_Gl (Z : State) (wS wJ wH wP wF wD : Addr) : Prop := Sta Z Z.heap "com/example/assemble_quorum/assemblequorum/service/Round$Phase" "SEEDS" "Lcom/example/assemble_quorum/assemblequorum/service/Round$Phase;" (.ref wS) ∧ Sta Z Z.heap "com/example/assemble_quorum/assemblequorum/service/Round$Phase" "JOIN" "Lcom/example/assemble_quorum/assemblequorum/service/Round$Phase;" (.ref wJ) ∧ Sta Z Z.heap "com/example/assemble_quorum/assemblequorum/service/Round$Phase" "HEALTH" "Lcom/example/assemble_quorum/assemblequorum/service/Round$Phase;" (.ref wH) ∧ Sta Z Z.heap "com/example/assemble_quorum/assemblequorum/service/Round$Phase" "PROPOSAL" "Lcom/example/assemble_quorum/assemblequorum/service/Round$Phase;" (.ref wP) ∧ Sta Z Z.heap "com/example/assemble_quorum/assemblequorum/service/Round$Phase" "FINAL" "Lcom/example/assemble_quorum/assemblequorum/service/Round$Phase;" (.ref wF) ∧ Sta Z Z.heap "java/util/ArrayList" "DEFAULTCAPACITY_EMPTY_ELEMENTDATA" "[Ljava/lang/Object;" (.ref wD)
theorem own_ef1 (m : MethodId) (x0 : Addr) : entryFrame m #[(.ref x0)] 1 = mkF m 0 #[.val (.ref x0)] [] := by first | (simp [entryFrame, mkF, argsToLocals, Value.category]; done) | rfl
theorem own_pn0 : plainName "java/util/AbstractCollection" = true := by first | (simp [plainName, overriddenIn]; done) | decide +kernel
theorem own_d5_0 : decode jdk_22_method_1_code 0 = .ok (.aload_n 0, 1) := by decide +kernel
theorem own_d5_1 : decode jdk_22_method_1_code 1 = .ok (.invokespecial 1, 3) := by decide +kernel
theorem own_d5_4 : decode jdk_22_method_1_code 4 = .ok (.return_, 1) := by decide +kernel
def own_Q_rmAC (Z : State) (a1 : Addr) (h0 : Heap) (n0 : Nat) (v : Option Value) (h : Heap) (L : List Loc) : Prop := v = none ∧ Fr n0 L ∧ h = h0
set_option maxRecDepth 65536 in
set_option maxHeartbeats 40000000 in
theorem rmAC (l : Launch) (Z : State) (a0 : Array Value) (hw : ∀ d ∈ tables_1, d.before a0 Z = true) (ws : List Jvm.Cond) (a1 : Addr) (h0 : Heap) (n0 : Nat) (O0 : Old Z n0 h0) :
    MetFree l (⟨"java/util/AbstractCollection", "<init>", "()V"⟩ : MethodName) (head1 (Jvm.Cond.code (⟨"java/util/AbstractCollection", "<init>", "()V"⟩ : MethodName) jdk_22_method_1_code 1 none :: ws) ({ frames := 1, cells := 0, slots := 0, locals := 12 } : Room)) (fun a U => a = #[(.ref a1)] ∧ Z.Warmed39 U.vm ∧ U.heap = h0) (fun _ _ _ _ _ => True) (fun _ U o U' => ∃ v L, o = .returned v ∧ own_Q_rmAC Z a1 h0 n0 v U'.heap L ∧ FrameEnd U o U' L ({ frames := 1, cells := 0, slots := 0, locals := 12 } : Room).cells ({ frames := 1, cells := 0, slots := 0, locals := 12 } : Room).slots) := by
  refine MetFree.of_bodySF (plainFor_of_name own_pn0) hisR ?_
  intro p e s m args below meth c s₁ Bd hml0 hP hK
  obtain ⟨rfl, hZ, hh⟩ := hP
  have hx := Bd.exec
  have hby := Bd.bytes
  have hml : c.maxLocals = 1 := hml0
  have hown : s.vm.findClass "java/util/AbstractCollection" = some m.cls := findClass_of_methodNamed Bd.named
  have hnm := (name_of_methodNamed Bd.named Bd.method).1
  have X0 : Stand p l e ({ frames := 1, cells := 0, slots := 0, locals := 12 } : Room) s m #[(.ref a1)] below meth c s₁ [] 0 0 := Stand.of_body Bd
  have e0 : s₁.heap = h0 := by rw [← hh, Bd.state]; rfl
  have N0 := Fr.nil n0
  have Z0 : n0 ≤ h0.size := O0.1 ▸ O0.2.1
  have g0 : ∀ t, Steps p.tables e below (s₁.setTop (mkF m 0 #[.val (.ref a1)] [])) t → Steps p.tables e below (s₁.setTop (entryFrame m #[(.ref a1)] 1)) t := fun t k => castTop (own_ef1 m (a1)) k
  obtain ⟨T1, X1, e1, st1⟩ := initO X0 hx hZ hown (hw _ (List.mem_of_getElem? (i := 27) rfl)) (hw _ (List.mem_of_getElem? (i := 7) rfl)) (hw _ (List.mem_of_getElem? (i := 8) rfl)) e0 (g := (mkF m 1 #[.val (.ref a1)] [(.ref a1)])) rfl (by rw [hml]; rfl) rfl (hb hby own_d5_1) (by decide) (W := 0) (by show 2 * 0 + _ ≤ _; exact Nat.le_of_eq rfl) (by decide)
  have g2 : ∀ t, Steps p.tables e below (T1.setTop (mkF m 4 #[.val (.ref a1)] [])) t → Steps p.tables e below (s₁.setTop (entryFrame m #[(.ref a1)] 1)) t := by
    intro t k
    refine g0 t ?_
    show Steps p.tables e below (s₁.setTop (mkF m 0 #[.val (.ref a1)] [])) _
    refine XS.aloadN X0.here hx rfl (hb hby own_d5_0) rfl rfl ?_
    show Steps p.tables e below (s₁.setTop (mkF m 1 #[.val (.ref a1)] [(.ref a1)])) _
    refine st1 _ ?_
    exact k
  obtain ⟨fs, hrt, hrun, hended, hW, hsame⟩ := X1.leave (v := none) (fun _ => rfl)
  refine ⟨_, _, g2 _ ?_, hrun, hended, _, _, rfl, ?_, ⟨_, rfl⟩, hW, hsame.mono (by decide) (by decide)⟩
  · show Steps p.tables e below (T1.setTop (mkF m 4 #[.val (.ref a1)] [])) _
    exact X1.returnOut hx Bd.returns (hb hby own_d5_4) hrt
  · show own_Q_rmAC Z a1 h0 n0 _ T1.heap _
    rw [e1]
    exact ⟨rfl, N0, rfl⟩
theorem own_ef2 (m : MethodId) (x0 : Addr) : entryFrame m #[(.ref x0)] 1 = mkF m 0 #[.val (.ref x0)] [] := by first | (simp [entryFrame, mkF, argsToLocals, Value.category]; done) | rfl
theorem own_pn1 : plainName "java/util/AbstractMap" = true := by first | (simp [plainName, overriddenIn]; done) | decide +kernel
theorem own_d7_0 : decode jdk_71_method_1_code 0 = .ok (.aload_n 0, 1) := by decide +kernel
theorem own_d7_1 : decode jdk_71_method_1_code 1 = .ok (.invokespecial 1, 3) := by decide +kernel
theorem own_d7_4 : decode jdk_71_method_1_code 4 = .ok (.return_, 1) := by decide +kernel
def own_Q_rmAM (Z : State) (a1 : Addr) (h0 : Heap) (n0 : Nat) (v : Option Value) (h : Heap) (L : List Loc) : Prop := v = none ∧ Fr n0 L ∧ h = h0
set_option maxRecDepth 65536 in
set_option maxHeartbeats 40000000 in
theorem rmAM (l : Launch) (Z : State) (a0 : Array Value) (hw : ∀ d ∈ tables_1, d.before a0 Z = true) (ws : List Jvm.Cond) (a1 : Addr) (h0 : Heap) (n0 : Nat) (O0 : Old Z n0 h0) :
    MetFree l (⟨"java/util/AbstractMap", "<init>", "()V"⟩ : MethodName) (head1 (Jvm.Cond.code (⟨"java/util/AbstractMap", "<init>", "()V"⟩ : MethodName) jdk_71_method_1_code 1 none :: ws) ({ frames := 1, cells := 0, slots := 0, locals := 12 } : Room)) (fun a U => a = #[(.ref a1)] ∧ Z.Warmed39 U.vm ∧ U.heap = h0) (fun _ _ _ _ _ => True) (fun _ U o U' => ∃ v L, o = .returned v ∧ own_Q_rmAM Z a1 h0 n0 v U'.heap L ∧ FrameEnd U o U' L ({ frames := 1, cells := 0, slots := 0, locals := 12 } : Room).cells ({ frames := 1, cells := 0, slots := 0, locals := 12 } : Room).slots) := by
  refine MetFree.of_bodySF (plainFor_of_name own_pn1) hisR ?_
  intro p e s m args below meth c s₁ Bd hml0 hP hK
  obtain ⟨rfl, hZ, hh⟩ := hP
  have hx := Bd.exec
  have hby := Bd.bytes
  have hml : c.maxLocals = 1 := hml0
  have hown : s.vm.findClass "java/util/AbstractMap" = some m.cls := findClass_of_methodNamed Bd.named
  have hnm := (name_of_methodNamed Bd.named Bd.method).1
  have X0 : Stand p l e ({ frames := 1, cells := 0, slots := 0, locals := 12 } : Room) s m #[(.ref a1)] below meth c s₁ [] 0 0 := Stand.of_body Bd
  have e0 : s₁.heap = h0 := by rw [← hh, Bd.state]; rfl
  have N0 := Fr.nil n0
  have Z0 : n0 ≤ h0.size := O0.1 ▸ O0.2.1
  have g0 : ∀ t, Steps p.tables e below (s₁.setTop (mkF m 0 #[.val (.ref a1)] [])) t → Steps p.tables e below (s₁.setTop (entryFrame m #[(.ref a1)] 1)) t := fun t k => castTop (own_ef2 m (a1)) k
  obtain ⟨T1, X1, e1, st1⟩ := initO X0 hx hZ hown (hw _ (List.mem_of_getElem? (i := 41) rfl)) (hw _ (List.mem_of_getElem? (i := 7) rfl)) (hw _ (List.mem_of_getElem? (i := 8) rfl)) e0 (g := (mkF m 1 #[.val (.ref a1)] [(.ref a1)])) rfl (by rw [hml]; rfl) rfl (hb hby own_d7_1) (by decide) (W := 0) (by show 2 * 0 + _ ≤ _; exact Nat.le_of_eq rfl) (by decide)
  have g2 : ∀ t, Steps p.tables e below (T1.setTop (mkF m 4 #[.val (.ref a1)] [])) t → Steps p.tables e below (s₁.setTop (entryFrame m #[(.ref a1)] 1)) t := by
    intro t k
    refine g0 t ?_
    show Steps p.tables e below (s₁.setTop (mkF m 0 #[.val (.ref a1)] [])) _
    refine XS.aloadN X0.here hx rfl (hb hby own_d7_0) rfl rfl ?_
    show Steps p.tables e below (s₁.setTop (mkF m 1 #[.val (.ref a1)] [(.ref a1)])) _
    refine st1 _ ?_
    exact k
  obtain ⟨fs, hrt, hrun, hended, hW, hsame⟩ := X1.leave (v := none) (fun _ => rfl)
  refine ⟨_, _, g2 _ ?_, hrun, hended, _, _, rfl, ?_, ⟨_, rfl⟩, hW, hsame.mono (by decide) (by decide)⟩
  · show Steps p.tables e below (T1.setTop (mkF m 4 #[.val (.ref a1)] [])) _
    exact X1.returnOut hx Bd.returns (hb hby own_d7_4) hrt
  · show own_Q_rmAM Z a1 h0 n0 _ T1.heap _
    rw [e1]
    exact ⟨rfl, N0, rfl⟩
theorem own_ef3 (m : MethodId) (x0 : Addr) : entryFrame m #[(.ref x0)] 1 = mkF m 0 #[.val (.ref x0)] [] := by first | (simp [entryFrame, mkF, argsToLocals, Value.category]; done) | rfl
theorem own_pn2 : plainName "java/util/AbstractSet" = true := by first | (simp [plainName, overriddenIn]; done) | decide +kernel
theorem own_d4_0 : decode jdk_91_method_1_code 0 = .ok (.aload_n 0, 1) := by decide +kernel
theorem own_d4_1 : decode jdk_91_method_1_code 1 = .ok (.invokespecial 1, 3) := by decide +kernel
theorem own_pd0 : parseMethodDescriptor "()V" = some ⟨[], none⟩ := by decide +kernel
theorem own_d4_4 : decode jdk_91_method_1_code 4 = .ok (.return_, 1) := by decide +kernel
def own_Q_rmAS (Z : State) (a1 : Addr) (h0 : Heap) (n0 : Nat) (v : Option Value) (h : Heap) (L : List Loc) : Prop := v = none ∧ Fr n0 L ∧ h = h0
set_option maxRecDepth 65536 in
set_option maxHeartbeats 40000000 in
theorem rmAS (l : Launch) (Z : State) (a0 : Array Value) (hw : ∀ d ∈ tables_1, d.before a0 Z = true) (ws : List Jvm.Cond) (a1 : Addr) (h0 : Heap) (n0 : Nat) (O0 : Old Z n0 h0) :
    MetFree l (⟨"java/util/AbstractSet", "<init>", "()V"⟩ : MethodName) (head1 (Jvm.Cond.code (⟨"java/util/AbstractSet", "<init>", "()V"⟩ : MethodName) jdk_91_method_1_code 1 none :: ws) ({ frames := 2, cells := 0, slots := 0, locals := 24 } : Room)) (fun a U => a = #[(.ref a1)] ∧ Z.Warmed39 U.vm ∧ U.heap = h0) (fun _ _ _ _ _ => True) (fun _ U o U' => ∃ v L, o = .returned v ∧ own_Q_rmAS Z a1 h0 n0 v U'.heap L ∧ FrameEnd U o U' L ({ frames := 2, cells := 0, slots := 0, locals := 24 } : Room).cells ({ frames := 2, cells := 0, slots := 0, locals := 24 } : Room).slots) := by
  refine MetFree.of_bodySF (plainFor_of_name own_pn2) hisR ?_
  intro p e s m args below meth c s₁ Bd hml0 hP hK
  obtain ⟨rfl, hZ, hh⟩ := hP
  have hx := Bd.exec
  have hby := Bd.bytes
  have hml : c.maxLocals = 1 := hml0
  have hown : s.vm.findClass "java/util/AbstractSet" = some m.cls := findClass_of_methodNamed Bd.named
  have hnm := (name_of_methodNamed Bd.named Bd.method).1
  have X0 : Stand p l e ({ frames := 2, cells := 0, slots := 0, locals := 24 } : Room) s m #[(.ref a1)] below meth c s₁ [] 0 0 := Stand.of_body Bd
  have e0 : s₁.heap = h0 := by rw [← hh, Bd.state]; rfl
  have N0 := Fr.nil n0
  have Z0 : n0 ≤ h0.size := O0.1 ▸ O0.2.1
  have g0 : ∀ t, Steps p.tables e below (s₁.setTop (mkF m 0 #[.val (.ref a1)] [])) t → Steps p.tables e below (s₁.setTop (entryFrame m #[(.ref a1)] 1)) t := fun t k => castTop (own_ef3 m (a1)) k
  obtain ⟨_, _, ⟨T1, L1, k1, n1⟩, -, X1, ⟨Lc1, hQ1, l1, y1, z1⟩, st1⟩ := X0.specialBack hx (y := (⟨"java/util/AbstractCollection", "<init>", "()V"⟩ : MethodName)) rfl hown (mvT hZ (hw _ (List.mem_of_getElem? (i := 21) rfl))) (mvT hZ (hw _ (List.mem_of_getElem? (i := 22) rfl))) (mvT hZ (hw _ (List.mem_of_getElem? (i := 26) rfl))) (by decide) (backOf (W := 0) (rmAC l Z a0 hw [] a1 h0 n0 O0) hZ (hw _ (List.mem_of_getElem? (i := 26) rfl)) (hw _ (List.mem_of_getElem? (i := 25) rfl)) (by decide) (by decide)) (g := (mkF m 1 #[.val (.ref a1)] [(.ref a1)])) rfl (by rw [hml]; rfl) (Steps.refl _) (a := a1) (argsL := []) (rest := []) (lenOf own_pd0 rfl) rfl (by show 2 * 0 + _ ≤ _; exact Nat.le_of_eq rfl) (hb hby own_d4_1) (fun _ _ => ⟨rfl, e0, (by decide : 0 + 0 ≤ _), (by decide : 0 + 0 ≤ _)⟩)
  dsimp only [Pt.U, Pt.locs, Pt.cells, Pt.slots] at X1 l1 y1 z1 st1 hQ1
  subst l1 y1 z1
  obtain ⟨rfl, Nq1, e1⟩ := hQ1
  have N1 := Fr.app N0 Nq1
  have g2 : ∀ t, Steps p.tables e below (T1.setTop (mkF m 4 #[.val (.ref a1)] [])) t → Steps p.tables e below (s₁.setTop (entryFrame m #[(.ref a1)] 1)) t := by
    intro t k
    refine g0 t ?_
    show Steps p.tables e below (s₁.setTop (mkF m 0 #[.val (.ref a1)] [])) _
    refine XS.aloadN X0.here hx rfl (hb hby own_d4_0) rfl rfl ?_
    show Steps p.tables e below (s₁.setTop (mkF m 1 #[.val (.ref a1)] [(.ref a1)])) _
    refine st1.trans ?_
    exact k
  obtain ⟨fs, hrt, hrun, hended, hW, hsame⟩ := X1.leave (v := none) (fun _ => rfl)
  refine ⟨_, _, g2 _ ?_, hrun, hended, _, _, rfl, ?_, ⟨_, rfl⟩, hW, hsame.mono (by decide) (by decide)⟩
  · show Steps p.tables e below (T1.setTop (mkF m 4 #[.val (.ref a1)] [])) _
    exact X1.returnOut hx Bd.returns (hb hby own_d4_4) hrt
  · show own_Q_rmAS Z a1 h0 n0 _ T1.heap _
    rw [e1]
    exact ⟨rfl, N1, rfl⟩
theorem own_ef4 (m : MethodId) (x0 : Addr) : entryFrame m #[(.ref x0)] 1 = mkF m 0 #[.val (.ref x0)] [] := by first | (simp [entryFrame, mkF, argsToLocals, Value.category]; done) | rfl
theorem own_pn3 : plainName "java/util/HashMap" = true := by first | (simp [plainName, overriddenIn]; done) | decide +kernel
theorem own_d6_0 : decode jdk_69_method_7_code 0 = .ok (.aload_n 0, 1) := by decide +kernel
theorem own_d6_1 : decode jdk_69_method_7_code 1 = .ok (.invokespecial 43, 3) := by decide +kernel
theorem own_d6_4 : decode jdk_69_method_7_code 4 = .ok (.aload_n 0, 1) := by decide +kernel
theorem own_d6_5 : decode jdk_69_method_7_code 5 = .ok (.ldc 92, 2) := by decide +kernel
theorem own_d6_7 : decode jdk_69_method_7_code 7 = .ok (.putfield 81, 3) := by decide +kernel
theorem own_d6_10 : decode jdk_69_method_7_code 10 = .ok (.return_, 1) := by decide +kernel
def own_Q_rmHM (Z : State) (a1 : Addr) (u1 : Value) (h0 : Heap) (n0 : Nat) (v : Option Value) (h : Heap) (L : List Loc) : Prop := v = none ∧ Fr n0 L ∧ Keep h0 h [a1] ∧ Exa Z h a1 "java/util/HashMap" ∧ Fld Z h a1 "java/util/HashMap" "table" "[Ljava/util/HashMap$Node;" .null ∧ Fld Z h a1 "java/util/HashMap" "modCount" "I" (.int (0 : Int32))
set_option maxRecDepth 65536 in
set_option maxHeartbeats 40000000 in
theorem rmHM (l : Launch) (Z : State) (a0 : Array Value) (hw : ∀ d ∈ tables_1, d.before a0 Z = true) (ws : List Jvm.Cond) (a1 : Addr) (u1 : Value) (h0 : Heap) (n0 : Nat) (O0 : Old Z n0 h0) (E_a1 : Exa Z h0 a1 "java/util/HashMap") (F_a1_loadFactor : Fld Z h0 a1 "java/util/HashMap" "loadFactor" "F" u1) (F_a1_table : Fld Z h0 a1 "java/util/HashMap" "table" "[Ljava/util/HashMap$Node;" .null) (F_a1_modCountM : Fld Z h0 a1 "java/util/HashMap" "modCount" "I" (.int (0 : Int32))) (gz_a1 : n0 ≤ a1) :
    MetFree l (⟨"java/util/HashMap", "<init>", "()V"⟩ : MethodName) (head1 (Jvm.Cond.code (⟨"java/util/HashMap", "<init>", "()V"⟩ : MethodName) jdk_69_method_7_code 1 none :: ws) ({ frames := 2, cells := 0, slots := 0, locals := 24 } : Room)) (fun a U => a = #[(.ref a1)] ∧ Z.Warmed39 U.vm ∧ U.heap = h0) (fun _ _ _ _ _ => True) (fun _ U o U' => ∃ v L, o = .returned v ∧ own_Q_rmHM Z a1 u1 h0 n0 v U'.heap L ∧ FrameEnd U o U' L ({ frames := 2, cells := 0, slots := 0, locals := 24 } : Room).cells ({ frames := 2, cells := 0, slots := 0, locals := 24 } : Room).slots) := by
  refine MetFree.of_bodySF (plainFor_of_name own_pn3) hisR ?_
  intro p e s m args below meth c s₁ Bd hml0 hP hK
  obtain ⟨rfl, hZ, hh⟩ := hP
  have hx := Bd.exec
  have hby := Bd.bytes
  have hml : c.maxLocals = 1 := hml0
  have hown : s.vm.findClass "java/util/HashMap" = some m.cls := findClass_of_methodNamed Bd.named
  have hnm := (name_of_methodNamed Bd.named Bd.method).1
  have X0 : Stand p l e ({ frames := 2, cells := 0, slots := 0, locals := 24 } : Room) s m #[(.ref a1)] below meth c s₁ [] 0 0 := Stand.of_body Bd
  have e0 : s₁.heap = h0 := by rw [← hh, Bd.state]; rfl
  have N0 := Fr.nil n0
  have Z0 : n0 ≤ h0.size := O0.1 ▸ O0.2.1
  have g0 : ∀ t, Steps p.tables e below (s₁.setTop (mkF m 0 #[.val (.ref a1)] [])) t → Steps p.tables e below (s₁.setTop (entryFrame m #[(.ref a1)] 1)) t := fun t k => castTop (own_ef4 m (a1)) k
  obtain ⟨_, _, ⟨T1, L1, k1, n1⟩, -, X1, ⟨Lc1, hQ1, l1, y1, z1⟩, st1⟩ := X0.specialBack hx (y := (⟨"java/util/AbstractMap", "<init>", "()V"⟩ : MethodName)) rfl hown (mvT hZ (hw _ (List.mem_of_getElem? (i := 35) rfl))) (mvT hZ (hw _ (List.mem_of_getElem? (i := 36) rfl))) (mvT hZ (hw _ (List.mem_of_getElem? (i := 40) rfl))) (by decide) (backOf (W := 0) (rmAM l Z a0 hw [] a1 h0 n0 O0) hZ (hw _ (List.mem_of_getElem? (i := 40) rfl)) (hw _ (List.mem_of_getElem? (i := 39) rfl)) (by decide) (by decide)) (g := (mkF m 1 #[.val (.ref a1)] [(.ref a1)])) rfl (by rw [hml]; rfl) (Steps.refl _) (a := a1) (argsL := []) (rest := []) (lenOf own_pd0 rfl) rfl (by show 2 * 0 + _ ≤ _; exact Nat.le_of_eq rfl) (hb hby own_d6_1) (fun _ _ => ⟨rfl, e0, (by decide : 0 + 0 ≤ _), (by decide : 0 + 0 ≤ _)⟩)
  dsimp only [Pt.U, Pt.locs, Pt.cells, Pt.slots] at X1 l1 y1 z1 st1 hQ1
  subst l1 y1 z1
  obtain ⟨rfl, Nq1, e1⟩ := hQ1
  have N1 := Fr.app N0 Nq1
  obtain ⟨T2, h2, X2, e2, W2, st2⟩ := putF X1 hx hZ hown (host := "") (Or.inl (hw _ (List.mem_of_getElem? (i := 43) rfl))) Via.refl e1 F_a1_loadFactor E_a1 (Or.inr ⟨(hw _ (List.mem_of_getElem? (i := 44) rfl)), rfl, hnm⟩) (hw _ (List.mem_of_getElem? (i := 29) rfl)) (ty := .float) (by decide) rfl rfl (g := (mkF m 7 #[.val (.ref a1)] [(.float (1061158912 : UInt32)), (.ref a1)])) rfl rfl (hb hby own_d6_7)
  have Fw2 := F_a1_loadFactor.same W2
  have N2 := Fr.snoc X2 N1 gz_a1
  have g3 : ∀ t, Steps p.tables e below (T2.setTop (mkF m 10 #[.val (.ref a1)] [])) t → Steps p.tables e below (s₁.setTop (entryFrame m #[(.ref a1)] 1)) t := by
    intro t k
    refine g0 t ?_
    show Steps p.tables e below (s₁.setTop (mkF m 0 #[.val (.ref a1)] [])) _
    refine XS.aloadN X0.here hx rfl (hb hby own_d6_0) rfl rfl ?_
    show Steps p.tables e below (s₁.setTop (mkF m 1 #[.val (.ref a1)] [(.ref a1)])) _
    refine st1.trans ?_
    show Steps p.tables e below (T1.setTop (mkF m 4 #[.val (.ref a1)] [])) _
    refine XS.aloadN X1.here hx rfl (hb hby own_d6_4) rfl rfl ?_
    show Steps p.tables e below (T1.setTop (mkF m 5 #[.val (.ref a1)] [(.ref a1)])) _
    refine X1.ldcFloatC hx hown (mvT hZ (hw _ (List.mem_of_getElem? (i := 42) rfl))) (g := (mkF m 5 #[.val (.ref a1)] [(.ref a1)])) rfl (hb hby own_d6_5) _ ?_
    show Steps p.tables e below (T1.setTop (mkF m 7 #[.val (.ref a1)] [(.float (1061158912 : UInt32)), (.ref a1)])) _
    refine st2 _ ?_
    exact k
  obtain ⟨fs, hrt, hrun, hended, hW, hsame⟩ := X2.leave (v := none) (fun _ => rfl)
  have f4 := (E_a1.wr W2)
  have f5 := (F_a1_table.other W2 (Or.inr (slot_ne (Or.inl (hw _ (List.mem_of_getElem? (i := 108) rfl))) (Or.inr (hw _ (List.mem_of_getElem? (i := 44) rfl))) (by decide) (t := (.array (.object "java/util/HashMap$Node"))) (t' := .float) (by decide) (by decide))))
  have f6 := (F_a1_modCountM.other W2 (Or.inr (slot_ne (Or.inl (hw _ (List.mem_of_getElem? (i := 106) rfl))) (Or.inr (hw _ (List.mem_of_getElem? (i := 44) rfl))) (by decide) (t := .int) (t' := .float) (by decide) (by decide))))
  refine ⟨_, _, g3 _ ?_, hrun, hended, _, _, rfl, ?_, ⟨_, rfl⟩, hW, hsame.mono (by decide) (by decide)⟩
  · show Steps p.tables e below (T2.setTop (mkF m 10 #[.val (.ref a1)] [])) _
    exact X2.returnOut hx Bd.returns (hb hby own_d6_10) hrt
  · show own_Q_rmHM Z a1 u1 h0 n0 _ T2.heap _
    rw [e2]
    exact ⟨rfl, N2, (Keep.wr (Keep.refl h0 [a1]) W2 (Or.inl (List.mem_of_getElem? (i := 0) rfl))), f4, f5, f6⟩
theorem own_ef5 (m : MethodId) (x0 : Addr) : entryFrame m #[(.ref x0)] 1 = mkF m 0 #[.val (.ref x0)] [] := by first | (simp [entryFrame, mkF, argsToLocals, Value.category]; done) | rfl
theorem own_pn4 : plainName "java/util/HashSet" = true := by first | (simp [plainName, overriddenIn]; done) | decide +kernel
theorem own_d3_0 : decode jdk_93_method_1_code 0 = .ok (.aload_n 0, 1) := by decide +kernel
theorem own_d3_1 : decode jdk_93_method_1_code 1 = .ok (.invokespecial 1, 3) := by decide +kernel
theorem own_d3_4 : decode jdk_93_method_1_code 4 = .ok (.aload_n 0, 1) := by decide +kernel
theorem own_d3_5 : decode jdk_93_method_1_code 5 = .ok (.new 7, 3) := by decide +kernel
theorem own_d3_8 : decode jdk_93_method_1_code 8 = .ok (.dup, 1) := by decide +kernel
theorem own_d3_9 : decode jdk_93_method_1_code 9 = .ok (.invokespecial 9, 3) := by decide +kernel
theorem own_d3_12 : decode jdk_93_method_1_code 12 = .ok (.putfield 10, 3) := by decide +kernel
theorem own_d3_15 : decode jdk_93_method_1_code 15 = .ok (.return_, 1) := by decide +kernel
def own_Q_rmHS (Z : State) (a1 : Addr) (h0 : Heap) (n0 : Nat) (v : Option Value) (h : Heap) (L : List Loc) : Prop := v = none ∧ Fr n0 L ∧ Keep h0 h [a1] ∧ ∃ mm : Addr, h0.size ≤ mm ∧ Exa Z h a1 "java/util/HashSet" ∧ Fld Z h a1 "java/util/HashSet" "map" "Ljava/util/HashMap;" (.ref mm) ∧ Exa Z h mm "java/util/HashMap" ∧ Fld Z h mm "java/util/HashMap" "table" "[Ljava/util/HashMap$Node;" .null ∧ Fld Z h mm "java/util/HashMap" "modCount" "I" (.int (0 : Int32))
set_option maxRecDepth 65536 in
set_option maxHeartbeats 40000000 in
theorem rmHS (l : Launch) (Z : State) (a0 : Array Value) (hw : ∀ d ∈ tables_1, d.before a0 Z = true) (ws : List Jvm.Cond) (a1 : Addr) (h0 : Heap) (n0 : Nat) (O0 : Old Z n0 h0) (E_a1 : Exa Z h0 a1 "java/util/HashSet") (F_a1_map : Fld Z h0 a1 "java/util/HashSet" "map" "Ljava/util/HashMap;" .null) (gz_a1 : n0 ≤ a1) :
    MetFree l (⟨"java/util/HashSet", "<init>", "()V"⟩ : MethodName) (head1 (Jvm.Cond.code (⟨"java/util/HashSet", "<init>", "()V"⟩ : MethodName) jdk_93_method_1_code 1 none :: ws) ({ frames := 3, cells := 1, slots := 8, locals := 38 } : Room)) (fun a U => a = #[(.ref a1)] ∧ Z.Warmed39 U.vm ∧ U.heap = h0) (fun _ _ _ _ _ => True) (fun _ U o U' => ∃ v L, o = .returned v ∧ own_Q_rmHS Z a1 h0 n0 v U'.heap L ∧ FrameEnd U o U' L ({ frames := 3, cells := 1, slots := 8, locals := 38 } : Room).cells ({ frames := 3, cells := 1, slots := 8, locals := 38 } : Room).slots) := by
  refine MetFree.of_bodySF (plainFor_of_name own_pn4) hisR ?_
  intro p e s m args below meth c s₁ Bd hml0 hP hK
  obtain ⟨rfl, hZ, hh⟩ := hP
  have hx := Bd.exec
  have hby := Bd.bytes
  have hml : c.maxLocals = 1 := hml0
  have hown : s.vm.findClass "java/util/HashSet" = some m.cls := findClass_of_methodNamed Bd.named
  have hnm := (name_of_methodNamed Bd.named Bd.method).1
  have X0 : Stand p l e ({ frames := 3, cells := 1, slots := 8, locals := 38 } : Room) s m #[(.ref a1)] below meth c s₁ [] 0 0 := Stand.of_body Bd
  have e0 : s₁.heap = h0 := by rw [← hh, Bd.state]; rfl
  have N0 := Fr.nil n0
  have Z0 : n0 ≤ h0.size := O0.1 ▸ O0.2.1
  have g0 : ∀ t, Steps p.tables e below (s₁.setTop (mkF m 0 #[.val (.ref a1)] [])) t → Steps p.tables e below (s₁.setTop (entryFrame m #[(.ref a1)] 1)) t := fun t k => castTop (own_ef5 m (a1)) k
  obtain ⟨_, _, ⟨T1, L1, k1, n1⟩, -, X1, ⟨Lc1, hQ1, l1, y1, z1⟩, st1⟩ := X0.specialBack hx (y := (⟨"java/util/AbstractSet", "<init>", "()V"⟩ : MethodName)) rfl hown (mvT hZ (hw _ (List.mem_of_getElem? (i := 15) rfl))) (mvT hZ (hw _ (List.mem_of_getElem? (i := 16) rfl))) (mvT hZ (hw _ (List.mem_of_getElem? (i := 20) rfl))) (by decide) (backOf (W := 0) (rmAS l Z a0 hw [] a1 h0 n0 O0) hZ (hw _ (List.mem_of_getElem? (i := 20) rfl)) (hw _ (List.mem_of_getElem? (i := 19) rfl)) (by decide) (by decide)) (g := (mkF m 1 #[.val (.ref a1)] [(.ref a1)])) rfl (by rw [hml]; rfl) (Steps.refl _) (a := a1) (argsL := []) (rest := []) (lenOf own_pd0 rfl) rfl (by show 2 * 0 + _ ≤ _; exact Nat.le_of_eq rfl) (hb hby own_d3_1) (fun _ _ => ⟨rfl, e0, (by decide : 0 + 0 ≤ _), (by decide : 0 + 0 ≤ _)⟩)
  dsimp only [Pt.U, Pt.locs, Pt.cells, Pt.slots] at X1 l1 y1 z1 st1 hQ1
  subst l1 y1 z1
  obtain ⟨rfl, Nq1, e1⟩ := hQ1
  have N1 := Fr.app N0 Nq1
  obtain ⟨T2, h2, X2, e2, E2, A2, D2, -, st2⟩ := newO X1 hx hZ hown (hw _ (List.mem_of_getElem? (i := 28) rfl)) (hw _ (List.mem_of_getElem? (i := 29) rfl)) (hw _ (List.mem_of_getElem? (i := 30) rfl)) e1 (g := (mkF m 5 #[.val (.ref a1)] [(.ref a1)])) rfl (hb hby own_d3_5) (by decide) (by decide)
  obtain ⟨b2, q_b2⟩ : ∃ z, z = h0.size := ⟨_, rfl⟩
  rw [← q_b2] at A2 D2 st2
  have sz_b2 : h0.size ≤ b2 := Nat.le_of_eq q_b2.symm
  have gz_b2 : n0 ≤ b2 := Nat.le_trans Z0 sz_b2
  have ne_a1_b2 : a1 ≠ b2 := Nat.ne_of_lt (Nat.lt_of_lt_of_le E_a1.lt (Nat.le_of_eq q_b2.symm))
  have F2_loadFactor : Fld Z h2 b2 "java/util/HashMap" "loadFactor" "F" (defaultValue .float) := D2 (Or.inr (hw _ (List.mem_of_getElem? (i := 44) rfl))) (ty := .float) (by decide)
  have F2_modCount : Fld Z h2 b2 "java/util/HashMap" "modCount" "I" (.int (0 : Int32)) := D2 (Or.inl (hw _ (List.mem_of_getElem? (i := 106) rfl))) (ty := .int) (by decide)
  have F2_table : Fld Z h2 b2 "java/util/HashMap" "table" "[Ljava/util/HashMap$Node;" .null := D2 (Or.inl (hw _ (List.mem_of_getElem? (i := 108) rfl))) (ty := (.array (.object "java/util/HashMap$Node"))) (by decide)
  have o3 : Old Z n0 h2 := (Old.ext O0 E2)
  obtain ⟨_, _, ⟨T4, L4, k4, n4⟩, -, X4, ⟨Lc4, hQ4, l4, y4, z4⟩, st4⟩ := X2.specialBack hx (y := (⟨"java/util/HashMap", "<init>", "()V"⟩ : MethodName)) rfl hown (mvT hZ (hw _ (List.mem_of_getElem? (i := 31) rfl))) (mvT hZ (hw _ (List.mem_of_getElem? (i := 32) rfl))) (mvT hZ (hw _ (List.mem_of_getElem? (i := 34) rfl))) (by decide) (backOf (W := 2) (rmHM l Z a0 hw [] b2 _ h2 n0 o3 A2 F2_loadFactor F2_table F2_modCount gz_b2) hZ (hw _ (List.mem_of_getElem? (i := 34) rfl)) (hw _ (List.mem_of_getElem? (i := 30) rfl)) (by decide) (by decide)) (g := (mkF m 9 #[.val (.ref a1)] [(.ref b2), (.ref b2), (.ref a1)])) rfl (by rw [hml]; rfl) (Steps.refl _) (a := b2) (argsL := []) (rest := [(.ref b2), (.ref a1)]) (lenOf own_pd0 rfl) rfl (by show 2 * 0 + _ ≤ _; exact Nat.le_of_eq rfl) (hb hby own_d3_9) (fun _ _ => ⟨rfl, e2, (by decide : 1 + 0 ≤ _), (by decide : 8 + 0 ≤ _)⟩)
  dsimp only [Pt.U, Pt.locs, Pt.cells, Pt.slots] at X4 l4 y4 z4 st4 hQ4
  subst l4 y4 z4
  obtain ⟨rfl, Nq4, K4, Q4a, Q4b, Q4c⟩ := hQ4
  have N4 := Fr.app N1 Nq4
  have f5 := ((E_a1.ext E2).keep K4)
  have f6 := ((F_a1_map.ext E2).keep K4 (ninS ne_a1_b2 nin0))
  obtain ⟨T7, h7, X7, e7, W7, st7⟩ := putF X4 hx hZ hown (host := "") (Or.inl (hw _ (List.mem_of_getElem? (i := 45) rfl))) Via.refl rfl f6 f5 (Or.inl (hw _ (List.mem_of_getElem? (i := 46) rfl))) (hw _ (List.mem_of_getElem? (i := 10) rfl)) (ty := (.object "java/util/HashMap")) (by decide) rfl rfl (g := (mkF m 12 #[.val (.ref a1)] [(.ref b2), (.ref a1)])) rfl rfl (hb hby own_d3_12)
  have Fw7 := f6.same W7
  have N7 := Fr.snoc X7 N4 gz_a1
  have g8 : ∀ t, Steps p.tables e below (T7.setTop (mkF m 15 #[.val (.ref a1)] [])) t → Steps p.tables e below (s₁.setTop (entryFrame m #[(.ref a1)] 1)) t := by
    intro t k
    refine g0 t ?_
    show Steps p.tables e below (s₁.setTop (mkF m 0 #[.val (.ref a1)] [])) _
    refine XS.aloadN X0.here hx rfl (hb hby own_d3_0) rfl rfl ?_
    show Steps p.tables e below (s₁.setTop (mkF m 1 #[.val (.ref a1)] [(.ref a1)])) _
    refine st1.trans ?_
    show Steps p.tables e below (T1.setTop (mkF m 4 #[.val (.ref a1)] [])) _
    refine XS.aloadN X1.here hx rfl (hb hby own_d3_4) rfl rfl ?_
    show Steps p.tables e below (T1.setTop (mkF m 5 #[.val (.ref a1)] [(.ref a1)])) _
    refine st2 _ ?_
    show Steps p.tables e below (T2.setTop (mkF m 8 #[.val (.ref a1)] [(.ref b2), (.ref a1)])) _
    refine XS.dup X2.here hx rfl (hb hby own_d3_8) rfl rfl ?_
    show Steps p.tables e below (T2.setTop (mkF m 9 #[.val (.ref a1)] [(.ref b2), (.ref b2), (.ref a1)])) _
    refine st4.trans ?_
    show Steps p.tables e below (T4.setTop (mkF m 12 #[.val (.ref a1)] [(.ref b2), (.ref a1)])) _
    refine st7 _ ?_
    exact k
  obtain ⟨fs, hrt, hrun, hended, hW, hsame⟩ := X7.leave (v := none) (fun _ => rfl)
  have f9 := (f5.wr W7)
  have f10 := (Q4a.wr W7)
  have f11 := (Q4b.other W7 (Or.inl (Ne.symm ne_a1_b2)))
  have f12 := (Q4c.other W7 (Or.inl (Ne.symm ne_a1_b2)))
  refine ⟨_, _, g8 _ ?_, hrun, hended, _, _, rfl, ?_, ⟨_, rfl⟩, hW, hsame.mono (by decide) (by decide)⟩
  · show Steps p.tables e below (T7.setTop (mkF m 15 #[.val (.ref a1)] [])) _
    exact X7.returnOut hx Bd.returns (hb hby own_d3_15) hrt
  · show own_Q_rmHS Z a1 h0 n0 _ T7.heap _
    rw [e7]
    exact ⟨rfl, N7, (Keep.wr (Keep.trans (Keep.ext (Keep.refl h0 [a1]) E2) K4 (allS (Or.inr sz_b2) all0)) W7 (Or.inl (List.mem_of_getElem? (i := 0) rfl))), b2, sz_b2, f9, Fw7, f10, f11, f12⟩
theorem own_ef6 (m : MethodId) (x0 : Addr) : entryFrame m #[(.ref x0)] 1 = mkF m 0 #[.val (.ref x0)] [] := by first | (simp [entryFrame, mkF, argsToLocals, Value.category]; done) | rfl
theorem own_pn5 : plainName "com/example/assemble_quorum/assemblequorum/service/Round" = true := by first | (simp [plainName, overriddenIn]; done) | decide +kernel
theorem own_d1_0 : decode prog_46_method_1_code 0 = .ok (.aload_n 0, 1) := by decide +kernel
theorem own_d1_1 : decode prog_46_method_1_code 1 = .ok (.invokespecial 1, 3) := by decide +kernel
theorem own_d1_4 : decode prog_46_method_1_code 4 = .ok (.aload_n 0, 1) := by decide +kernel
theorem own_d1_5 : decode prog_46_method_1_code 5 = .ok (.new 7, 3) := by decide +kernel
theorem own_d1_8 : decode prog_46_method_1_code 8 = .ok (.dup, 1) := by decide +kernel
theorem own_d1_9 : decode prog_46_method_1_code 9 = .ok (.invokespecial 9, 3) := by decide +kernel
theorem own_d1_12 : decode prog_46_method_1_code 12 = .ok (.putfield 10, 3) := by decide +kernel
theorem own_d1_15 : decode prog_46_method_1_code 15 = .ok (.aload_n 0, 1) := by decide +kernel
theorem own_d1_16 : decode prog_46_method_1_code 16 = .ok (.new 7, 3) := by decide +kernel
theorem own_d1_19 : decode prog_46_method_1_code 19 = .ok (.dup, 1) := by decide +kernel
theorem own_d1_20 : decode prog_46_method_1_code 20 = .ok (.invokespecial 9, 3) := by decide +kernel
theorem own_d1_23 : decode prog_46_method_1_code 23 = .ok (.putfield 16, 3) := by decide +kernel
theorem own_d1_26 : decode prog_46_method_1_code 26 = .ok (.return_, 1) := by decide +kernel
def own_Q_rmR (Z : State) (a1 : Addr) (h0 : Heap) (n0 : Nat) (v : Option Value) (h : Heap) (L : List Loc) : Prop := v = none ∧ Fr n0 L ∧ Keep h0 h [a1] ∧ ∃ s1 s2 m1 m2 : Addr, h0.size ≤ m1 ∧ h0.size ≤ m2 ∧ m1 ≠ m2 ∧ Exa Z h a1 "com/example/assemble_quorum/assemblequorum/service/Round" ∧ Fld Z h a1 "com/example/assemble_quorum/assemblequorum/service/Round" "awaited" "Ljava/util/Set;" (.ref s1) ∧ Fld Z h a1 "com/example/assemble_quorum/assemblequorum/service/Round" "votes" "Ljava/util/Set;" (.ref s2) ∧ Fld Z h a1 "com/example/assemble_quorum/assemblequorum/service/Round" "deadlineNanos" "J" (.long (0 : Int64)) ∧ Fld Z h a1 "com/example/assemble_quorum/assemblequorum/service/Round" "phase" "Lcom/example/assemble_quorum/assemblequorum/service/Round$Phase;" .null ∧ Exa Z h s1 "java/util/HashSet" ∧ Fld Z h s1 "java/util/HashSet" "map" "Ljava/util/HashMap;" (.ref m1) ∧ Exa Z h s2 "java/util/HashSet" ∧ Fld Z h s2 "java/util/HashSet" "map" "Ljava/util/HashMap;" (.ref m2) ∧ Exa Z h m1 "java/util/HashMap" ∧ Fld Z h m1 "java/util/HashMap" "table" "[Ljava/util/HashMap$Node;" .null ∧ Fld Z h m1 "java/util/HashMap" "modCount" "I" (.int (0 : Int32)) ∧ Exa Z h m2 "java/util/HashMap" ∧ Fld Z h m2 "java/util/HashMap" "table" "[Ljava/util/HashMap$Node;" .null ∧ Fld Z h m2 "java/util/HashMap" "modCount" "I" (.int (0 : Int32))
set_option maxRecDepth 65536 in
set_option maxHeartbeats 40000000 in
theorem rmR (l : Launch) (Z : State) (a0 : Array Value) (hw : ∀ d ∈ tables_1, d.before a0 Z = true) (ws : List Jvm.Cond) (a1 : Addr) (h0 : Heap) (n0 : Nat) (O0 : Old Z n0 h0) (E_a1 : Exa Z h0 a1 "com/example/assemble_quorum/assemblequorum/service/Round") (F_a1_awaited : Fld Z h0 a1 "com/example/assemble_quorum/assemblequorum/service/Round" "awaited" "Ljava/util/Set;" .null) (F_a1_votes : Fld Z h0 a1 "com/example/assemble_quorum/assemblequorum/service/Round" "votes" "Ljava/util/Set;" .null) (F_a1_deadlineNanos : Fld Z h0 a1 "com/example/assemble_quorum/assemblequorum/service/Round" "deadlineNanos" "J" (.long (0 : Int64))) (F_a1_phase : Fld Z h0 a1 "com/example/assemble_quorum/assemblequorum/service/Round" "phase" "Lcom/example/assemble_quorum/assemblequorum/service/Round$Phase;" .null) (gz_a1 : n0 ≤ a1) :
    MetFree l (⟨"com/example/assemble_quorum/assemblequorum/service/Round", "<init>", "()V"⟩ : MethodName) (head1 (Jvm.Cond.code (⟨"com/example/assemble_quorum/assemblequorum/service/Round", "<init>", "()V"⟩ : MethodName) prog_46_method_1_code 1 none :: ws) ({ frames := 4, cells := 4, slots := 18, locals := 52 } : Room)) (fun a U => a = #[(.ref a1)] ∧ Z.Warmed39 U.vm ∧ U.heap = h0) (fun _ _ _ _ _ => True) (fun _ U o U' => ∃ v L, o = .returned v ∧ own_Q_rmR Z a1 h0 n0 v U'.heap L ∧ FrameEnd U o U' L ({ frames := 4, cells := 4, slots := 18, locals := 52 } : Room).cells ({ frames := 4, cells := 4, slots := 18, locals := 52 } : Room).slots) := by
  refine MetFree.of_bodySF (plainFor_of_name own_pn5) hisR ?_
  intro p e s m args below meth c s₁ Bd hml0 hP hK
  obtain ⟨rfl, hZ, hh⟩ := hP
  have hx := Bd.exec
  have hby := Bd.bytes
  have hml : c.maxLocals = 1 := hml0
  have hown : s.vm.findClass "com/example/assemble_quorum/assemblequorum/service/Round" = some m.cls := findClass_of_methodNamed Bd.named
  have hnm := (name_of_methodNamed Bd.named Bd.method).1
  have X0 : Stand p l e ({ frames := 4, cells := 4, slots := 18, locals := 52 } : Room) s m #[(.ref a1)] below meth c s₁ [] 0 0 := Stand.of_body Bd
  have e0 : s₁.heap = h0 := by rw [← hh, Bd.state]; rfl
  have N0 := Fr.nil n0
  have Z0 : n0 ≤ h0.size := O0.1 ▸ O0.2.1
  have g0 : ∀ t, Steps p.tables e below (s₁.setTop (mkF m 0 #[.val (.ref a1)] [])) t → Steps p.tables e below (s₁.setTop (entryFrame m #[(.ref a1)] 1)) t := fun t k => castTop (own_ef6 m (a1)) k
  obtain ⟨T1, X1, e1, st1⟩ := initO X0 hx hZ hown (hw _ (List.mem_of_getElem? (i := 6) rfl)) (hw _ (List.mem_of_getElem? (i := 7) rfl)) (hw _ (List.mem_of_getElem? (i := 8) rfl)) e0 (g := (mkF m 1 #[.val (.ref a1)] [(.ref a1)])) rfl (by rw [hml]; rfl) rfl (hb hby own_d1_1) (by decide) (W := 0) (by show 2 * 0 + _ ≤ _; exact Nat.le_of_eq rfl) (by decide)
  obtain ⟨T2, h2, X2, e2, E2, A2, D2, -, st2⟩ := newO X1 hx hZ hown (hw _ (List.mem_of_getElem? (i := 9) rfl)) (hw _ (List.mem_of_getElem? (i := 10) rfl)) (hw _ (List.mem_of_getElem? (i := 11) rfl)) e1 (g := (mkF m 5 #[.val (.ref a1)] [(.ref a1)])) rfl (hb hby own_d1_5) (by decide) (by decide)
  obtain ⟨b2, q_b2⟩ : ∃ z, z = h0.size := ⟨_, rfl⟩
  rw [← q_b2] at A2 D2 st2
  have sz_b2 : h0.size ≤ b2 := Nat.le_of_eq q_b2.symm
  have gz_b2 : n0 ≤ b2 := Nat.le_trans Z0 sz_b2
  have ne_a1_b2 : a1 ≠ b2 := Nat.ne_of_lt (Nat.lt_of_lt_of_le E_a1.lt (Nat.le_of_eq q_b2.symm))
  have F2_map : Fld Z h2 b2 "java/util/HashSet" "map" "Ljava/util/HashMap;" .null := D2 (Or.inl (hw _ (List.mem_of_getElem? (i := 46) rfl))) (ty := (.object "java/util/HashMap")) (by decide)
  have o3 : Old Z n0 h2 := (Old.ext O0 E2)
  obtain ⟨_, _, ⟨T4, L4, k4, n4⟩, -, X4, ⟨Lc4, hQ4, l4, y4, z4⟩, st4⟩ := X2.specialBack hx (y := (⟨"java/util/HashSet", "<init>", "()V"⟩ : MethodName)) rfl hown (mvT hZ (hw _ (List.mem_of_getElem? (i := 12) rfl))) (mvT hZ (hw _ (List.mem_of_getElem? (i := 13) rfl))) (mvT hZ (hw _ (List.mem_of_getElem? (i := 14) rfl))) (by decide) (backOf (W := 2) (rmHS l Z a0 hw [] b2 h2 n0 o3 A2 F2_map gz_b2) hZ (hw _ (List.mem_of_getElem? (i := 14) rfl)) (hw _ (List.mem_of_getElem? (i := 11) rfl)) (by decide) (by decide)) (g := (mkF m 9 #[.val (.ref a1)] [(.ref b2), (.ref b2), (.ref a1)])) rfl (by rw [hml]; rfl) (Steps.refl _) (a := b2) (argsL := []) (rest := [(.ref b2), (.ref a1)]) (lenOf own_pd0 rfl) rfl (by show 2 * 0 + _ ≤ _; exact Nat.le_of_eq rfl) (hb hby own_d1_9) (fun _ _ => ⟨rfl, e2, (by decide : 1 + 1 ≤ _), (by decide : 1 + 8 ≤ _)⟩)
  dsimp only [Pt.U, Pt.locs, Pt.cells, Pt.slots] at X4 l4 y4 z4 st4 hQ4
  subst l4 y4 z4
  obtain ⟨rfl, Nq4, K4, m1, hb4, Q4a, Q4b, Q4c, Q4d, Q4e⟩ := hQ4
  have N4 := Fr.app N0 Nq4
  have sz_m1 : h0.size ≤ m1 := Nat.le_trans E2.1 hb4
  have gz_m1 : n0 ≤ m1 := Nat.le_trans Z0 sz_m1
  have ne_a1_m1 : a1 ≠ m1 := Nat.ne_of_lt (Nat.lt_of_lt_of_le (E_a1.ext E2).lt hb4)
  have ne_b2_m1 : b2 ≠ m1 := Nat.ne_of_lt (Nat.lt_of_lt_of_le A2.lt hb4)
  have f5 := ((E_a1.ext E2).keep K4)
  have f6 := ((F_a1_awaited.ext E2).keep K4 (ninS ne_a1_b2 nin0))
  obtain ⟨T7, h7, X7, e7, W7, st7⟩ := putF X4 hx hZ hown (host := "") (Or.inl (hw _ (List.mem_of_getElem? (i := 47) rfl))) Via.refl rfl f6 f5 (Or.inr ⟨(hw _ (List.mem_of_getElem? (i := 48) rfl)), rfl, hnm⟩) (hw _ (List.mem_of_getElem? (i := 1) rfl)) (ty := (.object "java/util/Set")) (by decide) rfl rfl (g := (mkF m 12 #[.val (.ref a1)] [(.ref b2), (.ref a1)])) rfl rfl (hb hby own_d1_12)
  have Fw7 := f6.same W7
  have N7 := Fr.snoc X7 N4 gz_a1
  obtain ⟨T8, h8, X8, e8, E8, A8, D8, -, st8⟩ := newO X7 hx hZ hown (hw _ (List.mem_of_getElem? (i := 9) rfl)) (hw _ (List.mem_of_getElem? (i := 10) rfl)) (hw _ (List.mem_of_getElem? (i := 11) rfl)) e7 (g := (mkF m 16 #[.val (.ref a1)] [(.ref a1)])) rfl (hb hby own_d1_16) (by decide) (by decide)
  obtain ⟨b8, q_b8⟩ : ∃ z, z = h7.size := ⟨_, rfl⟩
  rw [← q_b8] at A8 D8 st8
  have sz_b8 : h0.size ≤ b8 := Nat.le_trans (Nat.le_trans (Nat.le_trans E2.1 K4.1) (Keep.of_wr W7).1) (Nat.le_of_eq q_b8.symm)
  have gz_b8 : n0 ≤ b8 := Nat.le_trans Z0 sz_b8
  have f9 := (f5.wr W7)
  have ne_a1_b8 : a1 ≠ b8 := Nat.ne_of_lt (Nat.lt_of_lt_of_le f9.lt (Nat.le_of_eq q_b8.symm))
  have f10 := (Q4a.wr W7)
  have ne_b2_b8 : b2 ≠ b8 := Nat.ne_of_lt (Nat.lt_of_lt_of_le f10.lt (Nat.le_of_eq q_b8.symm))
  have f11 := (Q4c.wr W7)
  have ne_m1_b8 : m1 ≠ b8 := Nat.ne_of_lt (Nat.lt_of_lt_of_le f11.lt (Nat.le_of_eq q_b8.symm))
  have F8_map : Fld Z h8 b8 "java/util/HashSet" "map" "Ljava/util/HashMap;" .null := D8 (Or.inl (hw _ (List.mem_of_getElem? (i := 46) rfl))) (ty := (.object "java/util/HashMap")) (by decide)
  have o12 : Old Z n0 h8 := (Old.ext (Old.wr (Old.keep o3 K4 (allS gz_b2 all0)) W7 gz_a1) E8)
  obtain ⟨_, _, ⟨T13, L13, k13, n13⟩, -, X13, ⟨Lc13, hQ13, l13, y13, z13⟩, st13⟩ := X8.specialBack hx (y := (⟨"java/util/HashSet", "<init>", "()V"⟩ : MethodName)) rfl hown (mvT hZ (hw _ (List.mem_of_getElem? (i := 12) rfl))) (mvT hZ (hw _ (List.mem_of_getElem? (i := 13) rfl))) (mvT hZ (hw _ (List.mem_of_getElem? (i := 14) rfl))) (by decide) (backOf (W := 2) (rmHS l Z a0 hw [] b8 h8 n0 o12 A8 F8_map gz_b8) hZ (hw _ (List.mem_of_getElem? (i := 14) rfl)) (hw _ (List.mem_of_getElem? (i := 11) rfl)) (by decide) (by decide)) (g := (mkF m 20 #[.val (.ref a1)] [(.ref b8), (.ref b8), (.ref a1)])) rfl (by rw [hml]; rfl) (Steps.refl _) (a := b8) (argsL := []) (rest := [(.ref b8), (.ref a1)]) (lenOf own_pd0 rfl) rfl (by show 2 * 0 + _ ≤ _; exact Nat.le_of_eq rfl) (hb hby own_d1_20) (fun _ _ => ⟨rfl, e8, (by decide : 3 + 1 ≤ _), (by decide : 10 + 8 ≤ _)⟩)
  dsimp only [Pt.U, Pt.locs, Pt.cells, Pt.slots] at X13 l13 y13 z13 st13 hQ13
  subst l13 y13 z13
  obtain ⟨rfl, Nq13, K13, m2, hb13, Q13a, Q13b, Q13c, Q13d, Q13e⟩ := hQ13
  have N13 := Fr.app N7 Nq13
  have sz_m2 : h0.size ≤ m2 := Nat.le_trans (Nat.le_trans (Nat.le_trans (Nat.le_trans E2.1 K4.1) (Keep.of_wr W7).1) E8.1) hb13
  have gz_m2 : n0 ≤ m2 := Nat.le_trans Z0 sz_m2
  have ne_a1_m2 : a1 ≠ m2 := Nat.ne_of_lt (Nat.lt_of_lt_of_le (f9.ext E8).lt hb13)
  have ne_b2_m2 : b2 ≠ m2 := Nat.ne_of_lt (Nat.lt_of_lt_of_le (f10.ext E8).lt hb13)
  have ne_b8_m2 : b8 ≠ m2 := Nat.ne_of_lt (Nat.lt_of_lt_of_le A8.lt hb13)
  have ne_m1_m2 : m1 ≠ m2 := Nat.ne_of_lt (Nat.lt_of_lt_of_le (f11.ext E8).lt hb13)
  have f14 := ((f9.ext E8).keep K13)
  have f15 := (((((F_a1_votes.ext E2).keep K4 (ninS ne_a1_b2 nin0)).other W7 (Or.inr (slot_ne (Or.inr (hw _ (List.mem_of_getElem? (i := 50) rfl))) (Or.inr (hw _ (List.mem_of_getElem? (i := 48) rfl))) (by decide) (t := (.object "java/util/Set")) (t' := (.object "java/util/Set")) (by decide) (by decide)))).ext E8).keep K13 (ninS ne_a1_b8 nin0))
  obtain ⟨T16, h16, X16, e16, W16, st16⟩ := putF X13 hx hZ hown (host := "") (Or.inl (hw _ (List.mem_of_getElem? (i := 49) rfl))) Via.refl rfl f15 f14 (Or.inr ⟨(hw _ (List.mem_of_getElem? (i := 50) rfl)), rfl, hnm⟩) (hw _ (List.mem_of_getElem? (i := 1) rfl)) (ty := (.object "java/util/Set")) (by decide) rfl rfl (g := (mkF m 23 #[.val (.ref a1)] [(.ref b8), (.ref a1)])) rfl rfl (hb hby own_d1_23)
  have Fw16 := f15.same W16
  have N16 := Fr.snoc X16 N13 gz_a1
  have g17 : ∀ t, Steps p.tables e below (T16.setTop (mkF m 26 #[.val (.ref a1)] [])) t → Steps p.tables e below (s₁.setTop (entryFrame m #[(.ref a1)] 1)) t := by
    intro t k
    refine g0 t ?_
    show Steps p.tables e below (s₁.setTop (mkF m 0 #[.val (.ref a1)] [])) _
    refine XS.aloadN X0.here hx rfl (hb hby own_d1_0) rfl rfl ?_
    show Steps p.tables e below (s₁.setTop (mkF m 1 #[.val (.ref a1)] [(.ref a1)])) _
    refine st1 _ ?_
    show Steps p.tables e below (T1.setTop (mkF m 4 #[.val (.ref a1)] [])) _
    refine XS.aloadN X1.here hx rfl (hb hby own_d1_4) rfl rfl ?_
    show Steps p.tables e below (T1.setTop (mkF m 5 #[.val (.ref a1)] [(.ref a1)])) _
    refine st2 _ ?_
    show Steps p.tables e below (T2.setTop (mkF m 8 #[.val (.ref a1)] [(.ref b2), (.ref a1)])) _
    refine XS.dup X2.here hx rfl (hb hby own_d1_8) rfl rfl ?_
    show Steps p.tables e below (T2.setTop (mkF m 9 #[.val (.ref a1)] [(.ref b2), (.ref b2), (.ref a1)])) _
    refine st4.trans ?_
    show Steps p.tables e below (T4.setTop (mkF m 12 #[.val (.ref a1)] [(.ref b2), (.ref a1)])) _
    refine st7 _ ?_
    show Steps p.tables e below (T7.setTop (mkF m 15 #[.val (.ref a1)] [])) _
    refine XS.aloadN X7.here hx rfl (hb hby own_d1_15) rfl rfl ?_
    show Steps p.tables e below (T7.setTop (mkF m 16 #[.val (.ref a1)] [(.ref a1)])) _
    refine st8 _ ?_
    show Steps p.tables e below (T8.setTop (mkF m 19 #[.val (.ref a1)] [(.ref b8), (.ref a1)])) _
    refine XS.dup X8.here hx rfl (hb hby own_d1_19) rfl rfl ?_
    show Steps p.tables e below (T8.setTop (mkF m 20 #[.val (.ref a1)] [(.ref b8), (.ref b8), (.ref a1)])) _
    refine st13.trans ?_
    show Steps p.tables e below (T13.setTop (mkF m 23 #[.val (.ref a1)] [(.ref b8), (.ref a1)])) _
    refine st16 _ ?_
    exact k
  obtain ⟨fs, hrt, hrun, hended, hW, hsame⟩ := X16.leave (v := none) (fun _ => rfl)
  have f18 := (f14.wr W16)
  have f19 := (((Fw7.ext E8).keep K13 (ninS ne_a1_b8 nin0)).other W16 (Or.inr (slot_ne (Or.inr (hw _ (List.mem_of_getElem? (i := 48) rfl))) (Or.inr (hw _ (List.mem_of_getElem? (i := 50) rfl))) (by decide) (t := (.object "java/util/Set")) (t' := (.object "java/util/Set")) (by decide) (by decide))))
  have f20 := ((((((F_a1_deadlineNanos.ext E2).keep K4 (ninS ne_a1_b2 nin0)).other W7 (Or.inr (slot_ne (Or.inl (hw _ (List.mem_of_getElem? (i := 57) rfl))) (Or.inr (hw _ (List.mem_of_getElem? (i := 48) rfl))) (by decide) (t := .long) (t' := (.object "java/util/Set")) (by decide) (by decide)))).ext E8).keep K13 (ninS ne_a1_b8 nin0)).other W16 (Or.inr (slot_ne (Or.inl (hw _ (List.mem_of_getElem? (i := 57) rfl))) (Or.inr (hw _ (List.mem_of_getElem? (i := 50) rfl))) (by decide) (t := .long) (t' := (.object "java/util/Set")) (by decide) (by decide))))
  have f21 := ((((((F_a1_phase.ext E2).keep K4 (ninS ne_a1_b2 nin0)).other W7 (Or.inr (slot_ne (Or.inl (hw _ (List.mem_of_getElem? (i := 90) rfl))) (Or.inr (hw _ (List.mem_of_getElem? (i := 48) rfl))) (by decide) (t := (.object "com/example/assemble_quorum/assemblequorum/service/Round$Phase")) (t' := (.object "java/util/Set")) (by decide) (by decide)))).ext E8).keep K13 (ninS ne_a1_b8 nin0)).other W16 (Or.inr (slot_ne (Or.inl (hw _ (List.mem_of_getElem? (i := 90) rfl))) (Or.inr (hw _ (List.mem_of_getElem? (i := 50) rfl))) (by decide) (t := (.object "com/example/assemble_quorum/assemblequorum/service/Round$Phase")) (t' := (.object "java/util/Set")) (by decide) (by decide))))
  have f22 := (((f10.ext E8).keep K13).wr W16)
  have f23 := ((((Q4b.other W7 (Or.inl (Ne.symm ne_a1_b2))).ext E8).keep K13 (ninS ne_b2_b8 nin0)).other W16 (Or.inl (Ne.symm ne_a1_b2)))
  have f24 := (Q13a.wr W16)
  have f25 := (Q13b.other W16 (Or.inl (Ne.symm ne_a1_b8)))
  have f26 := (((f11.ext E8).keep K13).wr W16)
  have f27 := ((((Q4d.other W7 (Or.inl (Ne.symm ne_a1_m1))).ext E8).keep K13 (ninS ne_m1_b8 nin0)).other W16 (Or.inl (Ne.symm ne_a1_m1)))
  have f28 := ((((Q4e.other W7 (Or.inl (Ne.symm ne_a1_m1))).ext E8).keep K13 (ninS ne_m1_b8 nin0)).other W16 (Or.inl (Ne.symm ne_a1_m1)))
  have f29 := (Q13c.wr W16)
  have f30 := (Q13d.other W16 (Or.inl (Ne.symm ne_a1_m2)))
  have f31 := (Q13e.other W16 (Or.inl (Ne.symm ne_a1_m2)))
  refine ⟨_, _, g17 _ ?_, hrun, hended, _, _, rfl, ?_, ⟨_, rfl⟩, hW, hsame.mono (by decide) (by decide)⟩
  · show Steps p.tables e below (T16.setTop (mkF m 26 #[.val (.ref a1)] [])) _
    exact X16.returnOut hx Bd.returns (hb hby own_d1_26) hrt
  · show own_Q_rmR Z a1 h0 n0 _ T16.heap _
    rw [e16]
    exact ⟨rfl, N16, (Keep.wr (Keep.trans (Keep.ext (Keep.wr (Keep.trans (Keep.ext (Keep.refl h0 [a1]) E2) K4 (allS (Or.inr sz_b2) all0)) W7 (Or.inl (List.mem_of_getElem? (i := 0) rfl))) E8) K13 (allS (Or.inr sz_b8) all0)) W16 (Or.inl (List.mem_of_getElem? (i := 0) rfl))), b2, b8, m1, m2, sz_m1, sz_m2, ne_m1_m2, f18, f19, Fw16, f20, f21, f22, f23, f24, f25, f26, f27, f28, f29, f30, f31⟩
theorem own_ef7 (m : MethodId) (x0 : Addr) (x1 : Int64) : entryFrame m #[(.ref x0), (.long x1)] 3 = mkF m 0 #[.val (.ref x0), .val (.long x1), .second] [] := by first | (simp [entryFrame, mkF, argsToLocals, Value.category]; done) | rfl
theorem own_d8_0 : decode prog_46_method_3_code 0 = .ok (.lload_n 1, 1) := by decide +kernel
theorem own_d8_1 : decode prog_46_method_3_code 1 = .ok (.aload_n 0, 1) := by decide +kernel
theorem own_d8_2 : decode prog_46_method_3_code 2 = .ok (.getfield 23, 3) := by decide +kernel
theorem own_d8_5 : decode prog_46_method_3_code 5 = .ok (.lsub, 1) := by decide +kernel
theorem own_d8_6 : decode prog_46_method_3_code 6 = .ok (.lconst 0, 1) := by decide +kernel
theorem own_d8_7 : decode prog_46_method_3_code 7 = .ok (.lcmp, 1) := by decide +kernel
theorem own_d8_8 : decode prog_46_method_3_code 8 = .ok (.ifCond .lt 7, 3) := by decide +kernel
theorem own_d8_15 : decode prog_46_method_3_code 15 = .ok (.iconst 0, 1) := by decide +kernel
theorem own_d8_16 : decode prog_46_method_3_code 16 = .ok (.ireturn, 1) := by decide +kernel
theorem own_d8_11 : decode prog_46_method_3_code 11 = .ok (.iconst 1, 1) := by decide +kernel
theorem own_d8_12 : decode prog_46_method_3_code 12 = .ok (.goto 4, 3) := by decide +kernel
def own_Q_rmExp (Z : State) (a1 : Addr) (q2 dl : Int64) (r : Int32) (h0 : Heap) (n0 : Nat) (v : Option Value) (h : Heap) (L : List Loc) : Prop := v = some (.int r) ∧ Fr n0 L ∧ h = h0
set_option maxRecDepth 65536 in
set_option maxHeartbeats 40000000 in
theorem rmExp (l : Launch) (Z : State) (a0 : Array Value) (hw : ∀ d ∈ tables_1, d.before a0 Z = true) (ws : List Jvm.Cond) (a1 : Addr) (q2 dl : Int64) (r : Int32) (h0 : Heap) (n0 : Nat) (O0 : Old Z n0 h0) (F_a1_deadlineNanos : Fld Z h0 a1 "com/example/assemble_quorum/assemblequorum/service/Round" "deadlineNanos" "J" (.long dl)) (hr : (if (q2 - dl) < (0 : Int64) then (0 : Int32) else 1) = r) :
    MetFree l (⟨"com/example/assemble_quorum/assemblequorum/service/Round", "expired", "(J)Z"⟩ : MethodName) (head1 (Jvm.Cond.code (⟨"com/example/assemble_quorum/assemblequorum/service/Round", "expired", "(J)Z"⟩ : MethodName) prog_46_method_3_code 3 (some .boolean) :: ws) ({ frames := 0, cells := 0, slots := 0, locals := 0 } : Room)) (fun a U => a = #[(.ref a1), (.long q2)] ∧ Z.Warmed39 U.vm ∧ U.heap = h0) (fun _ _ _ _ _ => True) (fun _ U o U' => ∃ v L, o = .returned v ∧ own_Q_rmExp Z a1 q2 dl r h0 n0 v U'.heap L ∧ FrameEnd U o U' L ({ frames := 0, cells := 0, slots := 0, locals := 0 } : Room).cells ({ frames := 0, cells := 0, slots := 0, locals := 0 } : Room).slots) := by
  refine MetFree.of_bodySF (plainFor_of_name own_pn5) hisR ?_
  intro p e s m args below meth c s₁ Bd hml0 hP hK
  obtain ⟨rfl, hZ, hh⟩ := hP
  have hx := Bd.exec
  have hby := Bd.bytes
  have hml : c.maxLocals = 3 := hml0
  have hown : s.vm.findClass "com/example/assemble_quorum/assemblequorum/service/Round" = some m.cls := findClass_of_methodNamed Bd.named
  have hnm := (name_of_methodNamed Bd.named Bd.method).1
  have X0 : Stand p l e ({ frames := 0, cells := 0, slots := 0, locals := 0 } : Room) s m #[(.ref a1), (.long q2)] below meth c s₁ [] 0 0 := Stand.of_body Bd
  have e0 : s₁.heap = h0 := by rw [← hh, Bd.state]; rfl
  have N0 := Fr.nil n0
  have Z0 : n0 ≤ h0.size := O0.1 ▸ O0.2.1
  have g0 : ∀ t, Steps p.tables e below (s₁.setTop (mkF m 0 #[.val (.ref a1), .val (.long q2), .second] [])) t → Steps p.tables e below (s₁.setTop (entryFrame m #[(.ref a1), (.long q2)] 3)) t := fun t k => castTop (own_ef7 m (a1) (q2)) k
  obtain ⟨T1, X1, e1, st1⟩ := getF X0 hx hZ hown (host := "") (Or.inl (hw _ (List.mem_of_getElem? (i := 56) rfl))) Via.refl e0 F_a1_deadlineNanos (g := (mkF m 2 #[.val (.ref a1), .val (.long q2), .second] [(.ref a1), (.long q2)])) rfl rfl (hb hby own_d8_2)
  have g3 : ∀ t, Steps p.tables e below (T1.setTop (mkF m 8 #[.val (.ref a1), .val (.long q2), .second] [(.int (lcmpW (q2 - dl) (0 : Int64)))])) t → Steps p.tables e below (s₁.setTop (entryFrame m #[(.ref a1), (.long q2)] 3)) t := by
    intro t k
    refine g0 t ?_
    show Steps p.tables e below (s₁.setTop (mkF m 0 #[.val (.ref a1), .val (.long q2), .second] [])) _
    refine XS.lloadN X0.here hx rfl (hb hby own_d8_0) rfl ?_
    show Steps p.tables e below (s₁.setTop (mkF m 1 #[.val (.ref a1), .val (.long q2), .second] [(.long q2)])) _
    refine XS.aloadN X0.here hx rfl (hb hby own_d8_1) rfl rfl ?_
    show Steps p.tables e below (s₁.setTop (mkF m 2 #[.val (.ref a1), .val (.long q2), .second] [(.ref a1), (.long q2)])) _
    refine st1 _ ?_
    show Steps p.tables e below (T1.setTop (mkF m 5 #[.val (.ref a1), .val (.long q2), .second] [(.long dl), (.long q2)])) _
    refine XS.lsub X1.here hx rfl (hb hby own_d8_5) rfl ?_
    show Steps p.tables e below (T1.setTop (mkF m 6 #[.val (.ref a1), .val (.long q2), .second] [(.long (q2 - dl))])) _
    refine XS.lconst X1.here hx rfl (hb hby own_d8_6) ?_
    show Steps p.tables e below (T1.setTop (mkF m 7 #[.val (.ref a1), .val (.long q2), .second] [(.long (0 : Int64)), (.long (q2 - dl))])) _
    refine XS.lcmp X1.here hx rfl (hb hby own_d8_7) rfl ?_
    exact k
  by_cases hc2 : (q2 - dl) < (0 : Int64)
  · have g4 : ∀ t, Steps p.tables e below (T1.setTop (mkF m 16 #[.val (.ref a1), .val (.long q2), .second] [(.int (0 : Int32))])) t → Steps p.tables e below (s₁.setTop (entryFrame m #[(.ref a1), (.long q2)] 3)) t := by
      intro t k
      refine g3 t ?_
      show Steps p.tables e below (T1.setTop (mkF m 8 #[.val (.ref a1), .val (.long q2), .second] [(.int (lcmpW (q2 - dl) (0 : Int64)))])) _
      refine XS.ifYes X1.here hx rfl (pc0 := 8) (pc' := 15) rfl (hb hby own_d8_8) rfl ((if0 _ _).trans (tlt ((lw_lt _ _).mpr hc2)).1) (by decide) (by decide) ?_
      show Steps p.tables e below (T1.setTop (mkF m 15 #[.val (.ref a1), .val (.long q2), .second] [])) _
      refine XS.iconst X1.here hx rfl (hb hby own_d8_15) ?_
      exact k
    obtain ⟨fs, hrt, hrun, hended, hW, hsame⟩ := X1.leave (v := some (.int (0 : Int32))) (fun h => by rw [Bd.returns] at h; cases h)
    refine ⟨_, _, g4 _ ?_, hrun, hended, _, _, rfl, ?_, ⟨_, rfl⟩, hW, hsame.mono (by decide) (by decide)⟩
    · show Steps p.tables e below (T1.setTop (mkF m 16 #[.val (.ref a1), .val (.long q2), .second] [(.int (0 : Int32))])) _
      exact retN X1 hx (t := .boolean) Bd.returns (by simp) (hb hby own_d8_16) hrt
    · show own_Q_rmExp Z a1 q2 dl r h0 n0 _ T1.heap _
      rw [e1]
      exact ⟨by rw [← hr, if_pos hc2], N0, rfl⟩
  · have g5 : ∀ t, Steps p.tables e below (T1.setTop (mkF m 16 #[.val (.ref a1), .val (.long q2), .second] [(.int (1 : Int32))])) t → Steps p.tables e below (s₁.setTop (entryFrame m #[(.ref a1), (.long q2)] 3)) t := by
      intro t k
      refine g3 t ?_
      show Steps p.tables e below (T1.setTop (mkF m 8 #[.val (.ref a1), .val (.long q2), .second] [(.int (lcmpW (q2 - dl) (0 : Int64)))])) _
      refine XS.ifNo X1.here hx rfl (hb hby own_d8_8) rfl ((if0 _ _).trans (flt (fun q => hc2 ((lw_lt _ _).mp q))).1) ?_
      show Steps p.tables e below (T1.setTop (mkF m 11 #[.val (.ref a1), .val (.long q2), .second] [])) _
      refine XS.iconst X1.here hx rfl (hb hby own_d8_11) ?_
      show Steps p.tables e below (T1.setTop (mkF m 12 #[.val (.ref a1), .val (.long q2), .second] [(.int (1 : Int32))])) _
      refine XS.goto X1.here hx rfl (pc0 := 12) (pc' := 16) rfl (hb hby own_d8_12) (by decide) (by decide) ?_
      exact k
    obtain ⟨fs, hrt, hrun, hended, hW, hsame⟩ := X1.leave (v := some (.int (1 : Int32))) (fun h => by rw [Bd.returns] at h; cases h)
    refine ⟨_, _, g5 _ ?_, hrun, hended, _, _, rfl, ?_, ⟨_, rfl⟩, hW, hsame.mono (by decide) (by decide)⟩
    · show Steps p.tables e below (T1.setTop (mkF m 16 #[.val (.ref a1), .val (.long q2), .second] [(.int (1 : Int32))])) _
      exact retN X1 hx (t := .boolean) Bd.returns (by simp) (hb hby own_d8_16) hrt
    · show own_Q_rmExp Z a1 q2 dl r h0 n0 _ T1.heap _
      rw [e1]
      exact ⟨by rw [← hr, if_neg hc2], N0, rfl⟩
theorem own_ef8 (m : MethodId) (x0 : Int32) : entryFrame m #[(.int x0)] 1 = mkF m 0 #[.val (.int x0)] [] := by first | (simp [entryFrame, mkF, argsToLocals, Value.category]; done) | rfl
theorem own_pn6 : plainName "com/example/assemble_quorum/assemblequorum/service/RoundExpiredPinLaw" = true := by first | (simp [plainName, overriddenIn]; done) | decide +kernel
theorem own_d9_0 : decode method_2_code 0 = .ok (.iload_n 0, 1) := by decide +kernel
theorem own_d9_1 : decode method_2_code 1 = .ok (.ifCond .ne 7, 3) := by decide +kernel
theorem own_d9_4 : decode method_2_code 4 = .ok (.getstatic 7, 3) := by decide +kernel
theorem own_d9_7 : decode method_2_code 7 = .ok (.areturn, 1) := by decide +kernel
theorem own_d9_8 : decode method_2_code 8 = .ok (.iload_n 0, 1) := by decide +kernel
theorem own_d9_9 : decode method_2_code 9 = .ok (.iconst 1, 1) := by decide +kernel
theorem own_d9_10 : decode method_2_code 10 = .ok (.if_icmp .ne 7, 3) := by decide +kernel
theorem own_d9_13 : decode method_2_code 13 = .ok (.getstatic 13, 3) := by decide +kernel
theorem own_d9_16 : decode method_2_code 16 = .ok (.areturn, 1) := by decide +kernel
theorem own_d9_17 : decode method_2_code 17 = .ok (.iload_n 0, 1) := by decide +kernel
theorem own_d9_18 : decode method_2_code 18 = .ok (.iconst 2, 1) := by decide +kernel
theorem own_d9_19 : decode method_2_code 19 = .ok (.if_icmp .ne 7, 3) := by decide +kernel
theorem own_d9_22 : decode method_2_code 22 = .ok (.getstatic 16, 3) := by decide +kernel
theorem own_d9_25 : decode method_2_code 25 = .ok (.areturn, 1) := by decide +kernel
theorem own_d9_26 : decode method_2_code 26 = .ok (.iload_n 0, 1) := by decide +kernel
theorem own_d9_27 : decode method_2_code 27 = .ok (.iconst 3, 1) := by decide +kernel
theorem own_d9_28 : decode method_2_code 28 = .ok (.if_icmp .ne 7, 3) := by decide +kernel
theorem own_d9_31 : decode method_2_code 31 = .ok (.getstatic 19, 3) := by decide +kernel
theorem own_d9_34 : decode method_2_code 34 = .ok (.areturn, 1) := by decide +kernel
theorem own_d9_35 : decode method_2_code 35 = .ok (.getstatic 22, 3) := by decide +kernel
theorem own_d9_38 : decode method_2_code 38 = .ok (.areturn, 1) := by decide +kernel
def own_Q_rmPick (Z : State) (p1 : Int32) (r : Addr) (wS wJ wH wP wF wD : Addr) (h0 : Heap) (n0 : Nat) (v : Option Value) (h : Heap) (L : List Loc) : Prop := v = some (.ref r) ∧ Fr n0 L ∧ h = h0
set_option maxRecDepth 65536 in
set_option maxHeartbeats 40000000 in
theorem rmPick (l : Launch) (Z : State) (a0 : Array Value) (hw : ∀ d ∈ tables_1, d.before a0 Z = true) (ws : List Jvm.Cond) (p1 : Int32) (r : Addr) (wS wJ wH wP wF wD : Addr) (h0 : Heap) (n0 : Nat) (O0 : Old Z n0 h0) (G : own_Gl Z wS wJ wH wP wF wD) (hr : (if p1 = (0 : Int32) then wS else if p1 = (1 : Int32) then wJ else if p1 = (2 : Int32) then wH else if p1 = (3 : Int32) then wP else wF) = r) :
    MetFree l (⟨"com/example/assemble_quorum/assemblequorum/service/RoundExpiredPinLaw", "pick", "(I)Lcom/example/assemble_quorum/assemblequorum/service/Round$Phase;"⟩ : MethodName) (head1 (Jvm.Cond.code (⟨"com/example/assemble_quorum/assemblequorum/service/RoundExpiredPinLaw", "pick", "(I)Lcom/example/assemble_quorum/assemblequorum/service/Round$Phase;"⟩ : MethodName) method_2_code 1 (some (.object "com/example/assemble_quorum/assemblequorum/service/Round$Phase")) :: ws) ({ frames := 0, cells := 0, slots := 0, locals := 0 } : Room)) (fun a U => a = #[(.int p1)] ∧ Z.Warmed39 U.vm ∧ U.heap = h0) (fun _ _ _ _ _ => True) (fun _ U o U' => ∃ v L, o = .returned v ∧ own_Q_rmPick Z p1 r wS wJ wH wP wF wD h0 n0 v U'.heap L ∧ FrameEnd U o U' L ({ frames := 0, cells := 0, slots := 0, locals := 0 } : Room).cells ({ frames := 0, cells := 0, slots := 0, locals := 0 } : Room).slots) := by
  refine MetFree.of_bodySF (plainFor_of_name own_pn6) hisR ?_
  intro p e s m args below meth c s₁ Bd hml0 hP hK
  obtain ⟨rfl, hZ, hh⟩ := hP
  have hx := Bd.exec
  have hby := Bd.bytes
  have hml : c.maxLocals = 1 := hml0
  have hown : s.vm.findClass "com/example/assemble_quorum/assemblequorum/service/RoundExpiredPinLaw" = some m.cls := findClass_of_methodNamed Bd.named
  have hnm := (name_of_methodNamed Bd.named Bd.method).1
  have X0 : Stand p l e ({ frames := 0, cells := 0, slots := 0, locals := 0 } : Room) s m #[(.int p1)] below meth c s₁ [] 0 0 := Stand.of_body Bd
  have e0 : s₁.heap = h0 := by rw [← hh, Bd.state]; rfl
  have N0 := Fr.nil n0
  have Z0 : n0 ≤ h0.size := O0.1 ▸ O0.2.1
  have g0 : ∀ t, Steps p.tables e below (s₁.setTop (mkF m 0 #[.val (.int p1)] [])) t → Steps p.tables e below (s₁.setTop (entryFrame m #[(.int p1)] 1)) t := fun t k => castTop (own_ef8 m (p1)) k
  have G0 := G
  obtain ⟨S_SEEDS, S_JOIN, S_HEALTH, S_PROPOSAL, S_FINAL, S_D⟩ := G
  have g2 : ∀ t, Steps p.tables e below (s₁.setTop (mkF m 1 #[.val (.int p1)] [(.int p1)])) t → Steps p.tables e below (s₁.setTop (entryFrame m #[(.int p1)] 1)) t := by
    intro t k
    refine g0 t ?_
    show Steps p.tables e below (s₁.setTop (mkF m 0 #[.val (.int p1)] [])) _
    refine XS.iloadN X0.here hx rfl (hb hby own_d9_0) rfl ?_
    exact k
  by_cases hc1 : p1 = (0 : Int32)
  · obtain ⟨T3, X3, e3, st3⟩ := getS2 X0 hx hZ hown (host := "") (Or.inl (hw _ (List.mem_of_getElem? (i := 155) rfl))) Via.refl e0 (S_SEEDS.ext O0.2) (g := (mkF m 4 #[.val (.int p1)] [])) rfl (hb hby own_d9_4)
    have g4 : ∀ t, Steps p.tables e below (T3.setTop (mkF m 7 #[.val (.int p1)] [(.ref wS)])) t → Steps p.tables e below (s₁.setTop (entryFrame m #[(.int p1)] 1)) t := by
      intro t k
      refine g2 t ?_
      show Steps p.tables e below (s₁.setTop (mkF m 1 #[.val (.int p1)] [(.int p1)])) _
      refine XS.ifNo X0.here hx rfl (hb hby own_d9_1) rfl ((if0 _ _).trans (teq hc1).2) ?_
      show Steps p.tables e below (s₁.setTop (mkF m 4 #[.val (.int p1)] [])) _
      refine st3 _ ?_
      exact k
    obtain ⟨fs, hrt, hrun, hended, hW, hsame⟩ := X3.leave (v := some (.ref wS)) (fun h => by rw [Bd.returns] at h; cases h)
    refine ⟨_, _, g4 _ ?_, hrun, hended, _, _, rfl, ?_, ⟨_, rfl⟩, hW, hsame.mono (by decide) (by decide)⟩
    · show Steps p.tables e below (T3.setTop (mkF m 7 #[.val (.int p1)] [(.ref wS)])) _
      jvm_step X3.here [X3.here.top, hx, (hb hby own_d9_7), X3.method', Bd.returns, Value.isRef, FieldType.isReference]
      first | (intro acts; rw [hrt _ acts rfl rfl rfl]) | rw [hrt _ _ rfl rfl rfl]
      exact Steps.refl _
    · show own_Q_rmPick Z p1 r wS wJ wH wP wF wD h0 n0 _ T3.heap _
      rw [e3]
      exact ⟨by rw [← hr, if_pos hc1], N0, rfl⟩
  · have g6 : ∀ t, Steps p.tables e below (s₁.setTop (mkF m 10 #[.val (.int p1)] [(.int (1 : Int32)), (.int p1)])) t → Steps p.tables e below (s₁.setTop (entryFrame m #[(.int p1)] 1)) t := by
      intro t k
      refine g2 t ?_
      show Steps p.tables e below (s₁.setTop (mkF m 1 #[.val (.int p1)] [(.int p1)])) _
      refine XS.ifYes X0.here hx rfl (pc0 := 1) (pc' := 8) rfl (hb hby own_d9_1) rfl ((if0 _ _).trans (feq hc1).2) (by decide) (by decide) ?_
      show Steps p.tables e below (s₁.setTop (mkF m 8 #[.val (.int p1)] [])) _
      refine XS.iloadN X0.here hx rfl (hb hby own_d9_8) rfl ?_
      show Steps p.tables e below (s₁.setTop (mkF m 9 #[.val (.int p1)] [(.int p1)])) _
      refine XS.iconst X0.here hx rfl (hb hby own_d9_9) ?_
      exact k
    by_cases hc5 : p1 = (1 : Int32)
    · obtain ⟨T7, X7, e7, st7⟩ := getS2 X0 hx hZ hown (host := "") (Or.inl (hw _ (List.mem_of_getElem? (i := 159) rfl))) Via.refl e0 (S_JOIN.ext O0.2) (g := (mkF m 13 #[.val (.int p1)] [])) rfl (hb hby own_d9_13)
      have g8 : ∀ t, Steps p.tables e below (T7.setTop (mkF m 16 #[.val (.int p1)] [(.ref wJ)])) t → Steps p.tables e below (s₁.setTop (entryFrame m #[(.int p1)] 1)) t := by
        intro t k
        refine g6 t ?_
        show Steps p.tables e below (s₁.setTop (mkF m 10 #[.val (.int p1)] [(.int (1 : Int32)), (.int p1)])) _
        refine XS.icmpNo X0.here hx rfl (hb hby own_d9_10) rfl (teq hc5).2 ?_
        show Steps p.tables e below (s₁.setTop (mkF m 13 #[.val (.int p1)] [])) _
        refine st7 _ ?_
        exact k
      obtain ⟨fs, hrt, hrun, hended, hW, hsame⟩ := X7.leave (v := some (.ref wJ)) (fun h => by rw [Bd.returns] at h; cases h)
      refine ⟨_, _, g8 _ ?_, hrun, hended, _, _, rfl, ?_, ⟨_, rfl⟩, hW, hsame.mono (by decide) (by decide)⟩
      · show Steps p.tables e below (T7.setTop (mkF m 16 #[.val (.int p1)] [(.ref wJ)])) _
        jvm_step X7.here [X7.here.top, hx, (hb hby own_d9_16), X7.method', Bd.returns, Value.isRef, FieldType.isReference]
        first | (intro acts; rw [hrt _ acts rfl rfl rfl]) | rw [hrt _ _ rfl rfl rfl]
        exact Steps.refl _
      · show own_Q_rmPick Z p1 r wS wJ wH wP wF wD h0 n0 _ T7.heap _
        rw [e7]
        exact ⟨by rw [← hr, if_neg hc1, if_pos hc5], N0, rfl⟩
    · have g10 : ∀ t, Steps p.tables e below (s₁.setTop (mkF m 19 #[.val (.int p1)] [(.int (2 : Int32)), (.int p1)])) t → Steps p.tables e below (s₁.setTop (entryFrame m #[(.int p1)] 1)) t := by
        intro t k
        refine g6 t ?_
        show Steps p.tables e below (s₁.setTop (mkF m 10 #[.val (.int p1)] [(.int (1 : Int32)), (.int p1)])) _
        refine XS.icmpYes X0.here hx rfl (pc0 := 10) (pc' := 17) rfl (hb hby own_d9_10) rfl (feq hc5).2 (by decide) (by decide) ?_
        show Steps p.tables e below (s₁.setTop (mkF m 17 #[.val (.int p1)] [])) _
        refine XS.iloadN X0.here hx rfl (hb hby own_d9_17) rfl ?_
        show Steps p.tables e below (s₁.setTop (mkF m 18 #[.val (.int p1)] [(.int p1)])) _
        refine XS.iconst X0.here hx rfl (hb hby own_d9_18) ?_
        exact k
      by_cases hc9 : p1 = (2 : Int32)
      · obtain ⟨T11, X11, e11, st11⟩ := getS2 X0 hx hZ hown (host := "") (Or.inl (hw _ (List.mem_of_getElem? (i := 157) rfl))) Via.refl e0 (S_HEALTH.ext O0.2) (g := (mkF m 22 #[.val (.int p1)] [])) rfl (hb hby own_d9_22)
        have g12 : ∀ t, Steps p.tables e below (T11.setTop (mkF m 25 #[.val (.int p1)] [(.ref wH)])) t → Steps p.tables e below (s₁.setTop (entryFrame m #[(.int p1)] 1)) t := by
          intro t k
          refine g10 t ?_
          show Steps p.tables e below (s₁.setTop (mkF m 19 #[.val (.int p1)] [(.int (2 : Int32)), (.int p1)])) _
          refine XS.icmpNo X0.here hx rfl (hb hby own_d9_19) rfl (teq hc9).2 ?_
          show Steps p.tables e below (s₁.setTop (mkF m 22 #[.val (.int p1)] [])) _
          refine st11 _ ?_
          exact k
        obtain ⟨fs, hrt, hrun, hended, hW, hsame⟩ := X11.leave (v := some (.ref wH)) (fun h => by rw [Bd.returns] at h; cases h)
        refine ⟨_, _, g12 _ ?_, hrun, hended, _, _, rfl, ?_, ⟨_, rfl⟩, hW, hsame.mono (by decide) (by decide)⟩
        · show Steps p.tables e below (T11.setTop (mkF m 25 #[.val (.int p1)] [(.ref wH)])) _
          jvm_step X11.here [X11.here.top, hx, (hb hby own_d9_25), X11.method', Bd.returns, Value.isRef, FieldType.isReference]
          first | (intro acts; rw [hrt _ acts rfl rfl rfl]) | rw [hrt _ _ rfl rfl rfl]
          exact Steps.refl _
        · show own_Q_rmPick Z p1 r wS wJ wH wP wF wD h0 n0 _ T11.heap _
          rw [e11]
          exact ⟨by rw [← hr, if_neg hc1, if_neg hc5, if_pos hc9], N0, rfl⟩
      · have g14 : ∀ t, Steps p.tables e below (s₁.setTop (mkF m 28 #[.val (.int p1)] [(.int (3 : Int32)), (.int p1)])) t → Steps p.tables e below (s₁.setTop (entryFrame m #[(.int p1)] 1)) t := by
          intro t k
          refine g10 t ?_
          show Steps p.tables e below (s₁.setTop (mkF m 19 #[.val (.int p1)] [(.int (2 : Int32)), (.int p1)])) _
          refine XS.icmpYes X0.here hx rfl (pc0 := 19) (pc' := 26) rfl (hb hby own_d9_19) rfl (feq hc9).2 (by decide) (by decide) ?_
          show Steps p.tables e below (s₁.setTop (mkF m 26 #[.val (.int p1)] [])) _
          refine XS.iloadN X0.here hx rfl (hb hby own_d9_26) rfl ?_
          show Steps p.tables e below (s₁.setTop (mkF m 27 #[.val (.int p1)] [(.int p1)])) _
          refine XS.iconst X0.here hx rfl (hb hby own_d9_27) ?_
          exact k
        by_cases hc13 : p1 = (3 : Int32)
        · obtain ⟨T15, X15, e15, st15⟩ := getS2 X0 hx hZ hown (host := "") (Or.inl (hw _ (List.mem_of_getElem? (i := 62) rfl))) Via.refl e0 (S_PROPOSAL.ext O0.2) (g := (mkF m 31 #[.val (.int p1)] [])) rfl (hb hby own_d9_31)
          have g16 : ∀ t, Steps p.tables e below (T15.setTop (mkF m 34 #[.val (.int p1)] [(.ref wP)])) t → Steps p.tables e below (s₁.setTop (entryFrame m #[(.int p1)] 1)) t := by
            intro t k
            refine g14 t ?_
            show Steps p.tables e below (s₁.setTop (mkF m 28 #[.val (.int p1)] [(.int (3 : Int32)), (.int p1)])) _
            refine XS.icmpNo X0.here hx rfl (hb hby own_d9_28) rfl (teq hc13).2 ?_
            show Steps p.tables e below (s₁.setTop (mkF m 31 #[.val (.int p1)] [])) _
            refine st15 _ ?_
            exact k
          obtain ⟨fs, hrt, hrun, hended, hW, hsame⟩ := X15.leave (v := some (.ref wP)) (fun h => by rw [Bd.returns] at h; cases h)
          refine ⟨_, _, g16 _ ?_, hrun, hended, _, _, rfl, ?_, ⟨_, rfl⟩, hW, hsame.mono (by decide) (by decide)⟩
          · show Steps p.tables e below (T15.setTop (mkF m 34 #[.val (.int p1)] [(.ref wP)])) _
            jvm_step X15.here [X15.here.top, hx, (hb hby own_d9_34), X15.method', Bd.returns, Value.isRef, FieldType.isReference]
            first | (intro acts; rw [hrt _ acts rfl rfl rfl]) | rw [hrt _ _ rfl rfl rfl]
            exact Steps.refl _
          · show own_Q_rmPick Z p1 r wS wJ wH wP wF wD h0 n0 _ T15.heap _
            rw [e15]
            exact ⟨by rw [← hr, if_neg hc1, if_neg hc5, if_neg hc9, if_pos hc13], N0, rfl⟩
        · obtain ⟨T17, X17, e17, st17⟩ := getS2 X0 hx hZ hown (host := "") (Or.inl (hw _ (List.mem_of_getElem? (i := 161) rfl))) Via.refl e0 (S_FINAL.ext O0.2) (g := (mkF m 35 #[.val (.int p1)] [])) rfl (hb hby own_d9_35)
          have g18 : ∀ t, Steps p.tables e below (T17.setTop (mkF m 38 #[.val (.int p1)] [(.ref wF)])) t → Steps p.tables e below (s₁.setTop (entryFrame m #[(.int p1)] 1)) t := by
            intro t k
            refine g14 t ?_
            show Steps p.tables e below (s₁.setTop (mkF m 28 #[.val (.int p1)] [(.int (3 : Int32)), (.int p1)])) _
            refine XS.icmpYes X0.here hx rfl (pc0 := 28) (pc' := 35) rfl (hb hby own_d9_28) rfl (feq hc13).2 (by decide) (by decide) ?_
            show Steps p.tables e below (s₁.setTop (mkF m 35 #[.val (.int p1)] [])) _
            refine st17 _ ?_
            exact k
          obtain ⟨fs, hrt, hrun, hended, hW, hsame⟩ := X17.leave (v := some (.ref wF)) (fun h => by rw [Bd.returns] at h; cases h)
          refine ⟨_, _, g18 _ ?_, hrun, hended, _, _, rfl, ?_, ⟨_, rfl⟩, hW, hsame.mono (by decide) (by decide)⟩
          · show Steps p.tables e below (T17.setTop (mkF m 38 #[.val (.int p1)] [(.ref wF)])) _
            jvm_step X17.here [X17.here.top, hx, (hb hby own_d9_38), X17.method', Bd.returns, Value.isRef, FieldType.isReference]
            first | (intro acts; rw [hrt _ acts rfl rfl rfl]) | rw [hrt _ _ rfl rfl rfl]
            exact Steps.refl _
          · show own_Q_rmPick Z p1 r wS wJ wH wP wF wD h0 n0 _ T17.heap _
            rw [e17]
            exact ⟨by rw [← hr, if_neg hc1, if_neg hc5, if_neg hc9, if_neg hc13], N0, rfl⟩
theorem own_ef9 (m : MethodId) (x0 : Addr) : entryFrame m #[(.ref x0)] 1 = mkF m 0 #[.val (.ref x0)] [] := by first | (simp [entryFrame, mkF, argsToLocals, Value.category]; done) | rfl
theorem own_pn7 : plainName "java/util/AbstractList" = true := by first | (simp [plainName, overriddenIn]; done) | decide +kernel
theorem own_d11_0 : decode jdk_39_method_1_code 0 = .ok (.aload_n 0, 1) := by decide +kernel
theorem own_d11_1 : decode jdk_39_method_1_code 1 = .ok (.invokespecial 1, 3) := by decide +kernel
theorem own_d11_4 : decode jdk_39_method_1_code 4 = .ok (.aload_n 0, 1) := by decide +kernel
theorem own_d11_5 : decode jdk_39_method_1_code 5 = .ok (.iconst 0, 1) := by decide +kernel
theorem own_d11_6 : decode jdk_39_method_1_code 6 = .ok (.putfield 7, 3) := by decide +kernel
theorem own_d11_9 : decode jdk_39_method_1_code 9 = .ok (.return_, 1) := by decide +kernel
def own_Q_rmABL (Z : State) (a1 : Addr) (u1 : Value) (h0 : Heap) (n0 : Nat) (v : Option Value) (h : Heap) (L : List Loc) : Prop := v = none ∧ Fr n0 L ∧ Keep h0 h [a1] ∧ Exa Z h a1 "java/util/ArrayList" ∧ Fld Z h a1 "java/util/AbstractList" "modCount" "I" (.int (0 : Int32)) ∧ Fld Z h a1 "java/util/ArrayList" "size" "I" (.int (0 : Int32)) ∧ Fld Z h a1 "java/util/ArrayList" "elementData" "[Ljava/lang/Object;" u1
set_option maxRecDepth 65536 in
set_option maxHeartbeats 40000000 in
theorem rmABL (l : Launch) (Z : State) (a0 : Array Value) (hw : ∀ d ∈ tables_1, d.before a0 Z = true) (ws : List Jvm.Cond) (a1 : Addr) (u1 : Value) (h0 : Heap) (n0 : Nat) (O0 : Old Z n0 h0) (E_a1 : Exa Z h0 a1 "java/util/ArrayList") (F_a1_modCountA : Fld Z h0 a1 "java/util/AbstractList" "modCount" "I" (.int (0 : Int32))) (F_a1_size : Fld Z h0 a1 "java/util/ArrayList" "size" "I" (.int (0 : Int32))) (F_a1_elementData : Fld Z h0 a1 "java/util/ArrayList" "elementData" "[Ljava/lang/Object;" u1) (gz_a1 : n0 ≤ a1) :
    MetFree l (⟨"java/util/AbstractList", "<init>", "()V"⟩ : MethodName) (head1 (Jvm.Cond.code (⟨"java/util/AbstractList", "<init>", "()V"⟩ : MethodName) jdk_39_method_1_code 1 none :: ws) ({ frames := 2, cells := 0, slots := 0, locals := 24 } : Room)) (fun a U => a = #[(.ref a1)] ∧ Z.Warmed39 U.vm ∧ U.heap = h0) (fun _ _ _ _ _ => True) (fun _ U o U' => ∃ v L, o = .returned v ∧ own_Q_rmABL Z a1 u1 h0 n0 v U'.heap L ∧ FrameEnd U o U' L ({ frames := 2, cells := 0, slots := 0, locals := 24 } : Room).cells ({ frames := 2, cells := 0, slots := 0, locals := 24 } : Room).slots) := by
  refine MetFree.of_bodySF (plainFor_of_name own_pn7) hisR ?_
  intro p e s m args below meth c s₁ Bd hml0 hP hK
  obtain ⟨rfl, hZ, hh⟩ := hP
  have hx := Bd.exec
  have hby := Bd.bytes
  have hml : c.maxLocals = 1 := hml0
  have hown : s.vm.findClass "java/util/AbstractList" = some m.cls := findClass_of_methodNamed Bd.named
  have hnm := (name_of_methodNamed Bd.named Bd.method).1
  have X0 : Stand p l e ({ frames := 2, cells := 0, slots := 0, locals := 24 } : Room) s m #[(.ref a1)] below meth c s₁ [] 0 0 := Stand.of_body Bd
  have e0 : s₁.heap = h0 := by rw [← hh, Bd.state]; rfl
  have N0 := Fr.nil n0
  have Z0 : n0 ≤ h0.size := O0.1 ▸ O0.2.1
  have g0 : ∀ t, Steps p.tables e below (s₁.setTop (mkF m 0 #[.val (.ref a1)] [])) t → Steps p.tables e below (s₁.setTop (entryFrame m #[(.ref a1)] 1)) t := fun t k => castTop (own_ef9 m (a1)) k
  obtain ⟨_, _, ⟨T1, L1, k1, n1⟩, -, X1, ⟨Lc1, hQ1, l1, y1, z1⟩, st1⟩ := X0.specialBack hx (y := (⟨"java/util/AbstractCollection", "<init>", "()V"⟩ : MethodName)) rfl hown (mvT hZ (hw _ (List.mem_of_getElem? (i := 77) rfl))) (mvT hZ (hw _ (List.mem_of_getElem? (i := 22) rfl))) (mvT hZ (hw _ (List.mem_of_getElem? (i := 26) rfl))) (by decide) (backOf (W := 0) (rmAC l Z a0 hw [] a1 h0 n0 O0) hZ (hw _ (List.mem_of_getElem? (i := 26) rfl)) (hw _ (List.mem_of_getElem? (i := 25) rfl)) (by decide) (by decide)) (g := (mkF m 1 #[.val (.ref a1)] [(.ref a1)])) rfl (by rw [hml]; rfl) (Steps.refl _) (a := a1) (argsL := []) (rest := []) (lenOf own_pd0 rfl) rfl (by show 2 * 0 + _ ≤ _; exact Nat.le_of_eq rfl) (hb hby own_d11_1) (fun _ _ => ⟨rfl, e0, (by decide : 0 + 0 ≤ _), (by decide : 0 + 0 ≤ _)⟩)
  dsimp only [Pt.U, Pt.locs, Pt.cells, Pt.slots] at X1 l1 y1 z1 st1 hQ1
  subst l1 y1 z1
  obtain ⟨rfl, Nq1, e1⟩ := hQ1
  have N1 := Fr.app N0 Nq1
  obtain ⟨T2, h2, X2, e2, W2, st2⟩ := putF X1 hx hZ hown (host := "") (Or.inl (hw _ (List.mem_of_getElem? (i := 79) rfl))) Via.refl e1 F_a1_modCountA E_a1 (Or.inl (hw _ (List.mem_of_getElem? (i := 80) rfl))) (hw _ (List.mem_of_getElem? (i := 66) rfl)) (ty := .int) (by decide) rfl rfl (g := (mkF m 6 #[.val (.ref a1)] [(.int (0 : Int32)), (.ref a1)])) rfl rfl (hb hby own_d11_6)
  have Fw2 := F_a1_modCountA.same W2
  have N2 := Fr.snoc X2 N1 gz_a1
  have g3 : ∀ t, Steps p.tables e below (T2.setTop (mkF m 9 #[.val (.ref a1)] [])) t → Steps p.tables e below (s₁.setTop (entryFrame m #[(.ref a1)] 1)) t := by
    intro t k
    refine g0 t ?_
    show Steps p.tables e below (s₁.setTop (mkF m 0 #[.val (.ref a1)] [])) _
    refine XS.aloadN X0.here hx rfl (hb hby own_d11_0) rfl rfl ?_
    show Steps p.tables e below (s₁.setTop (mkF m 1 #[.val (.ref a1)] [(.ref a1)])) _
    refine st1.trans ?_
    show Steps p.tables e below (T1.setTop (mkF m 4 #[.val (.ref a1)] [])) _
    refine XS.aloadN X1.here hx rfl (hb hby own_d11_4) rfl rfl ?_
    show Steps p.tables e below (T1.setTop (mkF m 5 #[.val (.ref a1)] [(.ref a1)])) _
    refine XS.iconst X1.here hx rfl (hb hby own_d11_5) ?_
    show Steps p.tables e below (T1.setTop (mkF m 6 #[.val (.ref a1)] [(.int (0 : Int32)), (.ref a1)])) _
    refine st2 _ ?_
    exact k
  obtain ⟨fs, hrt, hrun, hended, hW, hsame⟩ := X2.leave (v := none) (fun _ => rfl)
  have f4 := (E_a1.wr W2)
  have f5 := (F_a1_size.other W2 (Or.inr (slot_ne (Or.inl (hw _ (List.mem_of_getElem? (i := 154) rfl))) (Or.inl (hw _ (List.mem_of_getElem? (i := 80) rfl))) (by decide) (t := .int) (t' := .int) (by decide) (by decide))))
  have f6 := (F_a1_elementData.other W2 (Or.inr (slot_ne (Or.inl (hw _ (List.mem_of_getElem? (i := 83) rfl))) (Or.inl (hw _ (List.mem_of_getElem? (i := 80) rfl))) (by decide) (t := (.array (.object "java/lang/Object"))) (t' := .int) (by decide) (by decide))))
  refine ⟨_, _, g3 _ ?_, hrun, hended, _, _, rfl, ?_, ⟨_, rfl⟩, hW, hsame.mono (by decide) (by decide)⟩
  · show Steps p.tables e below (T2.setTop (mkF m 9 #[.val (.ref a1)] [])) _
    exact X2.returnOut hx Bd.returns (hb hby own_d11_9) hrt
  · show own_Q_rmABL Z a1 u1 h0 n0 _ T2.heap _
    rw [e2]
    exact ⟨rfl, N2, (Keep.wr (Keep.refl h0 [a1]) W2 (Or.inl (List.mem_of_getElem? (i := 0) rfl))), f4, Fw2, f5, f6⟩
theorem own_ef10 (m : MethodId) (x0 : Addr) : entryFrame m #[(.ref x0)] 1 = mkF m 0 #[.val (.ref x0)] [] := by first | (simp [entryFrame, mkF, argsToLocals, Value.category]; done) | rfl
theorem own_pn8 : plainName "java/util/ArrayList" = true := by first | (simp [plainName, overriddenIn]; done) | decide +kernel
theorem own_d10_0 : decode jdk_38_method_2_code 0 = .ok (.aload_n 0, 1) := by decide +kernel
theorem own_d10_1 : decode jdk_38_method_2_code 1 = .ok (.invokespecial 1, 3) := by decide +kernel
theorem own_d10_4 : decode jdk_38_method_2_code 4 = .ok (.aload_n 0, 1) := by decide +kernel
theorem own_d10_5 : decode jdk_38_method_2_code 5 = .ok (.getstatic 39, 3) := by decide +kernel
theorem own_d10_8 : decode jdk_38_method_2_code 8 = .ok (.putfield 9, 3) := by decide +kernel
theorem own_d10_11 : decode jdk_38_method_2_code 11 = .ok (.return_, 1) := by decide +kernel
def own_Q_rmAL (Z : State) (a1 : Addr) (wS wJ wH wP wF wD : Addr) (h0 : Heap) (n0 : Nat) (v : Option Value) (h : Heap) (L : List Loc) : Prop := v = none ∧ Fr n0 L ∧ Keep h0 h [a1] ∧ Exa Z h a1 "java/util/ArrayList" ∧ Fld Z h a1 "java/util/AbstractList" "modCount" "I" (.int (0 : Int32)) ∧ Fld Z h a1 "java/util/ArrayList" "size" "I" (.int (0 : Int32))
set_option maxRecDepth 65536 in
set_option maxHeartbeats 40000000 in
theorem rmAL (l : Launch) (Z : State) (a0 : Array Value) (hw : ∀ d ∈ tables_1, d.before a0 Z = true) (ws : List Jvm.Cond) (a1 : Addr) (wS wJ wH wP wF wD : Addr) (h0 : Heap) (n0 : Nat) (O0 : Old Z n0 h0) (G : own_Gl Z wS wJ wH wP wF wD) (E_a1 : Exa Z h0 a1 "java/util/ArrayList") (F_a1_modCountA : Fld Z h0 a1 "java/util/AbstractList" "modCount" "I" (.int (0 : Int32))) (F_a1_size : Fld Z h0 a1 "java/util/ArrayList" "size" "I" (.int (0 : Int32))) (F_a1_elementData : Fld Z h0 a1 "java/util/ArrayList" "elementData" "[Ljava/lang/Object;" .null) (gz_a1 : n0 ≤ a1) :
    MetFree l (⟨"java/util/ArrayList", "<init>", "()V"⟩ : MethodName) (head1 (Jvm.Cond.code (⟨"java/util/ArrayList", "<init>", "()V"⟩ : MethodName) jdk_38_method_2_code 1 none :: ws) ({ frames := 3, cells := 0, slots := 0, locals := 36 } : Room)) (fun a U => a = #[(.ref a1)] ∧ Z.Warmed39 U.vm ∧ U.heap = h0) (fun _ _ _ _ _ => True) (fun _ U o U' => ∃ v L, o = .returned v ∧ own_Q_rmAL Z a1 wS wJ wH wP wF wD h0 n0 v U'.heap L ∧ FrameEnd U o U' L ({ frames := 3, cells := 0, slots := 0, locals := 36 } : Room).cells ({ frames := 3, cells := 0, slots := 0, locals := 36 } : Room).slots) := by
  refine MetFree.of_bodySF (plainFor_of_name own_pn8) hisR ?_
  intro p e s m args below meth c s₁ Bd hml0 hP hK
  obtain ⟨rfl, hZ, hh⟩ := hP
  have hx := Bd.exec
  have hby := Bd.bytes
  have hml : c.maxLocals = 1 := hml0
  have hown : s.vm.findClass "java/util/ArrayList" = some m.cls := findClass_of_methodNamed Bd.named
  have hnm := (name_of_methodNamed Bd.named Bd.method).1
  have X0 : Stand p l e ({ frames := 3, cells := 0, slots := 0, locals := 36 } : Room) s m #[(.ref a1)] below meth c s₁ [] 0 0 := Stand.of_body Bd
  have e0 : s₁.heap = h0 := by rw [← hh, Bd.state]; rfl
  have N0 := Fr.nil n0
  have Z0 : n0 ≤ h0.size := O0.1 ▸ O0.2.1
  have g0 : ∀ t, Steps p.tables e below (s₁.setTop (mkF m 0 #[.val (.ref a1)] [])) t → Steps p.tables e below (s₁.setTop (entryFrame m #[(.ref a1)] 1)) t := fun t k => castTop (own_ef10 m (a1)) k
  have G0 := G
  obtain ⟨S_SEEDS, S_JOIN, S_HEALTH, S_PROPOSAL, S_FINAL, S_D⟩ := G
  obtain ⟨_, _, ⟨T1, L1, k1, n1⟩, -, X1, ⟨Lc1, hQ1, l1, y1, z1⟩, st1⟩ := X0.specialBack hx (y := (⟨"java/util/AbstractList", "<init>", "()V"⟩ : MethodName)) rfl hown (mvT hZ (hw _ (List.mem_of_getElem? (i := 71) rfl))) (mvT hZ (hw _ (List.mem_of_getElem? (i := 72) rfl))) (mvT hZ (hw _ (List.mem_of_getElem? (i := 76) rfl))) (by decide) (backOf (W := 0) (rmABL l Z a0 hw [] a1 _ h0 n0 O0 E_a1 F_a1_modCountA F_a1_size F_a1_elementData gz_a1) hZ (hw _ (List.mem_of_getElem? (i := 76) rfl)) (hw _ (List.mem_of_getElem? (i := 75) rfl)) (by decide) (by decide)) (g := (mkF m 1 #[.val (.ref a1)] [(.ref a1)])) rfl (by rw [hml]; rfl) (Steps.refl _) (a := a1) (argsL := []) (rest := []) (lenOf own_pd0 rfl) rfl (by show 2 * 0 + _ ≤ _; exact Nat.le_of_eq rfl) (hb hby own_d10_1) (fun _ _ => ⟨rfl, e0, (by decide : 0 + 0 ≤ _), (by decide : 0 + 0 ≤ _)⟩)
  dsimp only [Pt.U, Pt.locs, Pt.cells, Pt.slots] at X1 l1 y1 z1 st1 hQ1
  subst l1 y1 z1
  obtain ⟨rfl, Nq1, K1, Q1a, Q1b, Q1c, Q1d⟩ := hQ1
  have N1 := Fr.app N0 Nq1
  have o2 : Old Z n0 T1.heap := (Old.keep O0 K1 (allS gz_a1 all0))
  obtain ⟨T3, X3, e3, st3⟩ := getS2 X1 hx hZ hown (host := "") (Or.inl (hw _ (List.mem_of_getElem? (i := 81) rfl))) Via.refl rfl (S_D.ext o2.2) (g := (mkF m 5 #[.val (.ref a1)] [(.ref a1)])) rfl (hb hby own_d10_5)
  obtain ⟨T4, h4, X4, e4, W4, st4⟩ := putF X3 hx hZ hown (host := "") (Or.inl (hw _ (List.mem_of_getElem? (i := 82) rfl))) Via.refl e3 Q1d Q1a (Or.inl (hw _ (List.mem_of_getElem? (i := 83) rfl))) (hw _ (List.mem_of_getElem? (i := 66) rfl)) (ty := (.array (.object "java/lang/Object"))) (by decide) rfl rfl (g := (mkF m 8 #[.val (.ref a1)] [(.ref wD), (.ref a1)])) rfl rfl (hb hby own_d10_8)
  have Fw4 := Q1d.same W4
  have N4 := Fr.snoc X4 N1 gz_a1
  have g5 : ∀ t, Steps p.tables e below (T4.setTop (mkF m 11 #[.val (.ref a1)] [])) t → Steps p.tables e below (s₁.setTop (entryFrame m #[(.ref a1)] 1)) t := by
    intro t k
    refine g0 t ?_
    show Steps p.tables e below (s₁.setTop (mkF m 0 #[.val (.ref a1)] [])) _
    refine XS.aloadN X0.here hx rfl (hb hby own_d10_0) rfl rfl ?_
    show Steps p.tables e below (s₁.setTop (mkF m 1 #[.val (.ref a1)] [(.ref a1)])) _
    refine st1.trans ?_
    show Steps p.tables e below (T1.setTop (mkF m 4 #[.val (.ref a1)] [])) _
    refine XS.aloadN X1.here hx rfl (hb hby own_d10_4) rfl rfl ?_
    show Steps p.tables e below (T1.setTop (mkF m 5 #[.val (.ref a1)] [(.ref a1)])) _
    refine st3 _ ?_
    show Steps p.tables e below (T3.setTop (mkF m 8 #[.val (.ref a1)] [(.ref wD), (.ref a1)])) _
    refine st4 _ ?_
    exact k
  obtain ⟨fs, hrt, hrun, hended, hW, hsame⟩ := X4.leave (v := none) (fun _ => rfl)
  have f6 := (Q1a.wr W4)
  have f7 := (Q1b.other W4 (Or.inr (slot_ne (Or.inl (hw _ (List.mem_of_getElem? (i := 80) rfl))) (Or.inl (hw _ (List.mem_of_getElem? (i := 83) rfl))) (by decide) (t := .int) (t' := (.array (.object "java/lang/Object"))) (by decide) (by decide))))
  have f8 := (Q1c.other W4 (Or.inr (slot_ne (Or.inl (hw _ (List.mem_of_getElem? (i := 154) rfl))) (Or.inl (hw _ (List.mem_of_getElem? (i := 83) rfl))) (by decide) (t := .int) (t' := (.array (.object "java/lang/Object"))) (by decide) (by decide))))
  refine ⟨_, _, g5 _ ?_, hrun, hended, _, _, rfl, ?_, ⟨_, rfl⟩, hW, hsame.mono (by decide) (by decide)⟩
  · show Steps p.tables e below (T4.setTop (mkF m 11 #[.val (.ref a1)] [])) _
    exact X4.returnOut hx Bd.returns (hb hby own_d10_11) hrt
  · show own_Q_rmAL Z a1 wS wJ wH wP wF wD h0 n0 _ T4.heap _
    rw [e4]
    exact ⟨rfl, N4, (Keep.wr (Keep.trans (Keep.refl h0 [a1]) K1 (allS (Or.inl (List.mem_of_getElem? (i := 0) rfl)) all0)) W4 (Or.inl (List.mem_of_getElem? (i := 0) rfl))), f6, f7, f8⟩
theorem own_ef11 (m : MethodId) (x0 : Addr) (x1 : Addr) : entryFrame m #[(.ref x0), (.ref x1)] 2 = mkF m 0 #[.val (.ref x0), .val (.ref x1)] [] := by first | (simp [entryFrame, mkF, argsToLocals, Value.category]; done) | rfl
theorem own_pn9 : plainName "java/util/ArrayList$Itr" = true := by first | (simp [plainName, overriddenIn]; done) | decide +kernel
theorem own_d17_0 : decode jdk_49_method_1_code 0 = .ok (.aload_n 0, 1) := by decide +kernel
theorem own_d17_1 : decode jdk_49_method_1_code 1 = .ok (.aload_n 1, 1) := by decide +kernel
theorem own_d17_2 : decode jdk_49_method_1_code 2 = .ok (.putfield 1, 3) := by decide +kernel
theorem own_d17_5 : decode jdk_49_method_1_code 5 = .ok (.aload_n 0, 1) := by decide +kernel
theorem own_d17_6 : decode jdk_49_method_1_code 6 = .ok (.invokespecial 7, 3) := by decide +kernel
theorem own_d17_9 : decode jdk_49_method_1_code 9 = .ok (.aload_n 0, 1) := by decide +kernel
theorem own_d17_10 : decode jdk_49_method_1_code 10 = .ok (.iconst (-1), 1) := by decide +kernel
theorem own_d17_11 : decode jdk_49_method_1_code 11 = .ok (.putfield 13, 3) := by decide +kernel
theorem own_d17_14 : decode jdk_49_method_1_code 14 = .ok (.aload_n 0, 1) := by decide +kernel
theorem own_d17_15 : decode jdk_49_method_1_code 15 = .ok (.aload_n 0, 1) := by decide +kernel
theorem own_d17_16 : decode jdk_49_method_1_code 16 = .ok (.getfield 1, 3) := by decide +kernel
theorem own_d17_19 : decode jdk_49_method_1_code 19 = .ok (.getfield 17, 3) := by decide +kernel
theorem own_d17_22 : decode jdk_49_method_1_code 22 = .ok (.putfield 22, 3) := by decide +kernel
theorem own_d17_25 : decode jdk_49_method_1_code 25 = .ok (.return_, 1) := by decide +kernel
def own_Q_rmIti (Z : State) (a1 a2 : Addr) (h0 : Heap) (n0 : Nat) (v : Option Value) (h : Heap) (L : List Loc) : Prop := v = none ∧ Fr n0 L ∧ Keep h0 h [a1] ∧ Exa Z h a1 "java/util/ArrayList$Itr" ∧ Fld Z h a1 "java/util/ArrayList$Itr" "this$0" "Ljava/util/ArrayList;" (.ref a2) ∧ Fld Z h a1 "java/util/ArrayList$Itr" "cursor" "I" (.int (0 : Int32))
set_option maxRecDepth 65536 in
set_option maxHeartbeats 40000000 in
theorem rmIti (l : Launch) (Z : State) (a0 : Array Value) (hw : ∀ d ∈ tables_1, d.before a0 Z = true) (ws : List Jvm.Cond) (a1 a2 : Addr) (h0 : Heap) (n0 : Nat) (O0 : Old Z n0 h0) (E_a1 : Exa Z h0 a1 "java/util/ArrayList$Itr") (F_a1_this_0 : Fld Z h0 a1 "java/util/ArrayList$Itr" "this$0" "Ljava/util/ArrayList;" .null) (F_a1_cursor : Fld Z h0 a1 "java/util/ArrayList$Itr" "cursor" "I" (.int (0 : Int32))) (F_a1_lastRet : Fld Z h0 a1 "java/util/ArrayList$Itr" "lastRet" "I" (.int (0 : Int32))) (F_a1_expectedModCount : Fld Z h0 a1 "java/util/ArrayList$Itr" "expectedModCount" "I" (.int (0 : Int32))) (E_a2 : Exa Z h0 a2 "java/util/ArrayList") (F_a2_modCountA : Fld Z h0 a2 "java/util/AbstractList" "modCount" "I" (.int (0 : Int32))) (F_a2_size : Fld Z h0 a2 "java/util/ArrayList" "size" "I" (.int (0 : Int32))) (gz_a1 : n0 ≤ a1) :
    MetFree l (⟨"java/util/ArrayList$Itr", "<init>", "(Ljava/util/ArrayList;)V"⟩ : MethodName) (head1 (Jvm.Cond.code (⟨"java/util/ArrayList$Itr", "<init>", "(Ljava/util/ArrayList;)V"⟩ : MethodName) jdk_49_method_1_code 2 none :: ws) ({ frames := 1, cells := 0, slots := 0, locals := 12 } : Room)) (fun a U => a = #[(.ref a1), (.ref a2)] ∧ Z.Warmed39 U.vm ∧ U.heap = h0) (fun _ _ _ _ _ => True) (fun _ U o U' => ∃ v L, o = .returned v ∧ own_Q_rmIti Z a1 a2 h0 n0 v U'.heap L ∧ FrameEnd U o U' L ({ frames := 1, cells := 0, slots := 0, locals := 12 } : Room).cells ({ frames := 1, cells := 0, slots := 0, locals := 12 } : Room).slots) := by
  refine MetFree.of_bodySF (plainFor_of_name own_pn9) hisR ?_
  intro p e s m args below meth c s₁ Bd hml0 hP hK
  obtain ⟨rfl, hZ, hh⟩ := hP
  have hx := Bd.exec
  have hby := Bd.bytes
  have hml : c.maxLocals = 2 := hml0
  have hown : s.vm.findClass "java/util/ArrayList$Itr" = some m.cls := findClass_of_methodNamed Bd.named
  have hnm := (name_of_methodNamed Bd.named Bd.method).1
  have X0 : Stand p l e ({ frames := 1, cells := 0, slots := 0, locals := 12 } : Room) s m #[(.ref a1), (.ref a2)] below meth c s₁ [] 0 0 := Stand.of_body Bd
  have e0 : s₁.heap = h0 := by rw [← hh, Bd.state]; rfl
  have N0 := Fr.nil n0
  have Z0 : n0 ≤ h0.size := O0.1 ▸ O0.2.1
  have g0 : ∀ t, Steps p.tables e below (s₁.setTop (mkF m 0 #[.val (.ref a1), .val (.ref a2)] [])) t → Steps p.tables e below (s₁.setTop (entryFrame m #[(.ref a1), (.ref a2)] 2)) t := fun t k => castTop (own_ef11 m (a1) (a2)) k
  obtain ⟨T1, h1, X1, e1, W1, st1⟩ := putF X0 hx hZ hown (host := "") (Or.inl (hw _ (List.mem_of_getElem? (i := 133) rfl))) Via.refl e0 F_a1_this_0 E_a1 (Or.inr ⟨(hw _ (List.mem_of_getElem? (i := 134) rfl)), rfl, hnm⟩) (hw _ (List.mem_of_getElem? (i := 127) rfl)) (ty := (.object "java/util/ArrayList")) (by decide) rfl rfl (g := (mkF m 2 #[.val (.ref a1), .val (.ref a2)] [(.ref a2), (.ref a1)])) rfl rfl (hb hby own_d17_2)
  have Fw1 := F_a1_this_0.same W1
  have N1 := Fr.snoc X1 N0 gz_a1
  obtain ⟨T2, X2, e2, st2⟩ := initO X1 hx hZ hown (hw _ (List.mem_of_getElem? (i := 135) rfl)) (hw _ (List.mem_of_getElem? (i := 7) rfl)) (hw _ (List.mem_of_getElem? (i := 8) rfl)) e1 (g := (mkF m 6 #[.val (.ref a1), .val (.ref a2)] [(.ref a1)])) rfl (by rw [hml]; rfl) rfl (hb hby own_d17_6) (by decide) (W := 0) (by show 2 * 0 + _ ≤ _; exact Nat.le_of_eq rfl) (by decide)
  have f3 := (E_a1.wr W1)
  have f4 := (F_a1_lastRet.other W1 (Or.inr (slot_ne (Or.inl (hw _ (List.mem_of_getElem? (i := 137) rfl))) (Or.inr (hw _ (List.mem_of_getElem? (i := 134) rfl))) (by decide) (t := .int) (t' := (.object "java/util/ArrayList")) (by decide) (by decide))))
  obtain ⟨T5, h5, X5, e5, W5, st5⟩ := putF X2 hx hZ hown (host := "") (Or.inl (hw _ (List.mem_of_getElem? (i := 136) rfl))) Via.refl e2 f4 f3 (Or.inl (hw _ (List.mem_of_getElem? (i := 137) rfl))) (hw _ (List.mem_of_getElem? (i := 127) rfl)) (ty := .int) (by decide) rfl rfl (g := (mkF m 11 #[.val (.ref a1), .val (.ref a2)] [(.int (-1 : Int32)), (.ref a1)])) rfl rfl (hb hby own_d17_11)
  have Fw5 := f4.same W5
  have N5 := Fr.snoc X5 N1 gz_a1
  have f6 := (Fw1.other W5 (Or.inr (slot_ne (Or.inr (hw _ (List.mem_of_getElem? (i := 134) rfl))) (Or.inl (hw _ (List.mem_of_getElem? (i := 137) rfl))) (by decide) (t := (.object "java/util/ArrayList")) (t' := .int) (by decide) (by decide))))
  obtain ⟨T7, X7, e7, st7⟩ := getF X5 hx hZ hown (host := "") (Or.inl (hw _ (List.mem_of_getElem? (i := 133) rfl))) Via.refl e5 f6 (g := (mkF m 16 #[.val (.ref a1), .val (.ref a2)] [(.ref a1), (.ref a1)])) rfl rfl (hb hby own_d17_16)
  have f8 := ((E_a2.wr W1).wr W5)
  have f9 := (f3.wr W5)
  have f10 := ((F_a2_modCountA.other W1 (Or.inl (Exa.ne f8 f9 (by decide)))).other W5 (Or.inl (Exa.ne f8 f9 (by decide))))
  obtain ⟨T11, X11, e11, st11⟩ := getF X7 hx hZ hown (host := "") (Or.inl (hw _ (List.mem_of_getElem? (i := 138) rfl))) (Via.of (hw _ (List.mem_of_getElem? (i := 139) rfl))) e7 f10 (g := (mkF m 19 #[.val (.ref a1), .val (.ref a2)] [(.ref a2), (.ref a1)])) rfl rfl (hb hby own_d17_19)
  have f12 := ((F_a1_expectedModCount.other W1 (Or.inr (slot_ne (Or.inl (hw _ (List.mem_of_getElem? (i := 141) rfl))) (Or.inr (hw _ (List.mem_of_getElem? (i := 134) rfl))) (by decide) (t := .int) (t' := (.object "java/util/ArrayList")) (by decide) (by decide)))).other W5 (Or.inr (slot_ne (Or.inl (hw _ (List.mem_of_getElem? (i := 141) rfl))) (Or.inl (hw _ (List.mem_of_getElem? (i := 137) rfl))) (by decide) (t := .int) (t' := .int) (by decide) (by decide))))
  obtain ⟨T13, h13, X13, e13, W13, st13⟩ := putF X11 hx hZ hown (host := "") (Or.inl (hw _ (List.mem_of_getElem? (i := 140) rfl))) Via.refl e11 f12 f9 (Or.inl (hw _ (List.mem_of_getElem? (i := 141) rfl))) (hw _ (List.mem_of_getElem? (i := 127) rfl)) (ty := .int) (by decide) rfl rfl (g := (mkF m 22 #[.val (.ref a1), .val (.ref a2)] [(.int (0 : Int32)), (.ref a1)])) rfl rfl (hb hby own_d17_22)
  have Fw13 := f12.same W13
  have N13 := Fr.snoc X13 N5 gz_a1
  have g14 : ∀ t, Steps p.tables e below (T13.setTop (mkF m 25 #[.val (.ref a1), .val (.ref a2)] [])) t → Steps p.tables e below (s₁.setTop (entryFrame m #[(.ref a1), (.ref a2)] 2)) t := by
    intro t k
    refine g0 t ?_
    show Steps p.tables e below (s₁.setTop (mkF m 0 #[.val (.ref a1), .val (.ref a2)] [])) _
    refine XS.aloadN X0.here hx rfl (hb hby own_d17_0) rfl rfl ?_
    show Steps p.tables e below (s₁.setTop (mkF m 1 #[.val (.ref a1), .val (.ref a2)] [(.ref a1)])) _
    refine XS.aloadN X0.here hx rfl (hb hby own_d17_1) rfl rfl ?_
    show Steps p.tables e below (s₁.setTop (mkF m 2 #[.val (.ref a1), .val (.ref a2)] [(.ref a2), (.ref a1)])) _
    refine st1 _ ?_
    show Steps p.tables e below (T1.setTop (mkF m 5 #[.val (.ref a1), .val (.ref a2)] [])) _
    refine XS.aloadN X1.here hx rfl (hb hby own_d17_5) rfl rfl ?_
    show Steps p.tables e below (T1.setTop (mkF m 6 #[.val (.ref a1), .val (.ref a2)] [(.ref a1)])) _
    refine st2 _ ?_
    show Steps p.tables e below (T2.setTop (mkF m 9 #[.val (.ref a1), .val (.ref a2)] [])) _
    refine XS.aloadN X2.here hx rfl (hb hby own_d17_9) rfl rfl ?_
    show Steps p.tables e below (T2.setTop (mkF m 10 #[.val (.ref a1), .val (.ref a2)] [(.ref a1)])) _
    refine XS.iconst X2.here hx rfl (hb hby own_d17_10) ?_
    show Steps p.tables e below (T2.setTop (mkF m 11 #[.val (.ref a1), .val (.ref a2)] [(.int (-1 : Int32)), (.ref a1)])) _
    refine st5 _ ?_
    show Steps p.tables e below (T5.setTop (mkF m 14 #[.val (.ref a1), .val (.ref a2)] [])) _
    refine XS.aloadN X5.here hx rfl (hb hby own_d17_14) rfl rfl ?_
    show Steps p.tables e below (T5.setTop (mkF m 15 #[.val (.ref a1), .val (.ref a2)] [(.ref a1)])) _
    refine XS.aloadN X5.here hx rfl (hb hby own_d17_15) rfl rfl ?_
    show Steps p.tables e below (T5.setTop (mkF m 16 #[.val (.ref a1), .val (.ref a2)] [(.ref a1), (.ref a1)])) _
    refine st7 _ ?_
    show Steps p.tables e below (T7.setTop (mkF m 19 #[.val (.ref a1), .val (.ref a2)] [(.ref a2), (.ref a1)])) _
    refine st11 _ ?_
    show Steps p.tables e below (T11.setTop (mkF m 22 #[.val (.ref a1), .val (.ref a2)] [(.int (0 : Int32)), (.ref a1)])) _
    refine st13 _ ?_
    exact k
  obtain ⟨fs, hrt, hrun, hended, hW, hsame⟩ := X13.leave (v := none) (fun _ => rfl)
  have f15 := (f9.wr W13)
  have f16 := (f6.other W13 (Or.inr (slot_ne (Or.inr (hw _ (List.mem_of_getElem? (i := 134) rfl))) (Or.inl (hw _ (List.mem_of_getElem? (i := 141) rfl))) (by decide) (t := (.object "java/util/ArrayList")) (t' := .int) (by decide) (by decide))))
  have f17 := (((F_a1_cursor.other W1 (Or.inr (slot_ne (Or.inl (hw _ (List.mem_of_getElem? (i := 152) rfl))) (Or.inr (hw _ (List.mem_of_getElem? (i := 134) rfl))) (by decide) (t := .int) (t' := (.object "java/util/ArrayList")) (by decide) (by decide)))).other W5 (Or.inr (slot_ne (Or.inl (hw _ (List.mem_of_getElem? (i := 152) rfl))) (Or.inl (hw _ (List.mem_of_getElem? (i := 137) rfl))) (by decide) (t := .int) (t' := .int) (by decide) (by decide)))).other W13 (Or.inr (slot_ne (Or.inl (hw _ (List.mem_of_getElem? (i := 152) rfl))) (Or.inl (hw _ (List.mem_of_getElem? (i := 141) rfl))) (by decide) (t := .int) (t' := .int) (by decide) (by decide))))
  refine ⟨_, _, g14 _ ?_, hrun, hended, _, _, rfl, ?_, ⟨_, rfl⟩, hW, hsame.mono (by decide) (by decide)⟩
  · show Steps p.tables e below (T13.setTop (mkF m 25 #[.val (.ref a1), .val (.ref a2)] [])) _
    exact X13.returnOut hx Bd.returns (hb hby own_d17_25) hrt
  · show own_Q_rmIti Z a1 a2 h0 n0 _ T13.heap _
    rw [e13]
    exact ⟨rfl, N13, (Keep.wr (Keep.wr (Keep.wr (Keep.refl h0 [a1]) W1 (Or.inl (List.mem_of_getElem? (i := 0) rfl))) W5 (Or.inl (List.mem_of_getElem? (i := 0) rfl))) W13 (Or.inl (List.mem_of_getElem? (i := 0) rfl))), f15, f16, f17⟩
theorem own_ef12 (m : MethodId) (x0 : Addr) : entryFrame m #[(.ref x0)] 1 = mkF m 0 #[.val (.ref x0)] [] := by first | (simp [entryFrame, mkF, argsToLocals, Value.category]; done) | rfl
theorem own_d16_0 : decode jdk_38_method_55_code 0 = .ok (.new 267, 3) := by decide +kernel
theorem own_d16_3 : decode jdk_38_method_55_code 3 = .ok (.dup, 1) := by decide +kernel
theorem own_d16_4 : decode jdk_38_method_55_code 4 = .ok (.aload_n 0, 1) := by decide +kernel
theorem own_d16_5 : decode jdk_38_method_55_code 5 = .ok (.invokespecial 269, 3) := by decide +kernel
theorem own_pd1 : parseMethodDescriptor "(Ljava/util/ArrayList;)V" = some ⟨[(.object "java/util/ArrayList")], none⟩ := by decide +kernel
theorem own_d16_8 : decode jdk_38_method_55_code 8 = .ok (.areturn, 1) := by decide +kernel
def own_Q_rmItr (Z : State) (a1 : Addr) (h0 : Heap) (n0 : Nat) (v : Option Value) (h : Heap) (L : List Loc) : Prop := ∃ b : Addr, v = some (.ref b) ∧ Fr n0 L ∧ Keep h0 h [] ∧ h0.size ≤ b ∧ Exa Z h b "java/util/ArrayList$Itr" ∧ Fld Z h b "java/util/ArrayList$Itr" "this$0" "Ljava/util/ArrayList;" (.ref a1) ∧ Fld Z h b "java/util/ArrayList$Itr" "cursor" "I" (.int (0 : Int32))
set_option maxRecDepth 65536 in
set_option maxHeartbeats 40000000 in
theorem rmItr (l : Launch) (Z : State) (a0 : Array Value) (hw : ∀ d ∈ tables_1, d.before a0 Z = true) (ws : List Jvm.Cond) (a1 : Addr) (h0 : Heap) (n0 : Nat) (O0 : Old Z n0 h0) (E_a1 : Exa Z h0 a1 "java/util/ArrayList") (F_a1_modCountA : Fld Z h0 a1 "java/util/AbstractList" "modCount" "I" (.int (0 : Int32))) (F_a1_size : Fld Z h0 a1 "java/util/ArrayList" "size" "I" (.int (0 : Int32))) :
    MetFree l (⟨"java/util/ArrayList", "iterator", "()Ljava/util/Iterator;"⟩ : MethodName) (head1 (Jvm.Cond.code (⟨"java/util/ArrayList", "iterator", "()Ljava/util/Iterator;"⟩ : MethodName) jdk_38_method_55_code 1 (some (.object "java/util/Iterator")) :: ws) ({ frames := 2, cells := 1, slots := 4, locals := 26 } : Room)) (fun a U => a = #[(.ref a1)] ∧ Z.Warmed39 U.vm ∧ U.heap = h0) (fun _ _ _ _ _ => True) (fun _ U o U' => ∃ v L, o = .returned v ∧ own_Q_rmItr Z a1 h0 n0 v U'.heap L ∧ FrameEnd U o U' L ({ frames := 2, cells := 1, slots := 4, locals := 26 } : Room).cells ({ frames := 2, cells := 1, slots := 4, locals := 26 } : Room).slots) := by
  refine MetFree.of_bodySF (plainFor_of_name own_pn8) hisR ?_
  intro p e s m args below meth c s₁ Bd hml0 hP hK
  obtain ⟨rfl, hZ, hh⟩ := hP
  have hx := Bd.exec
  have hby := Bd.bytes
  have hml : c.maxLocals = 1 := hml0
  have hown : s.vm.findClass "java/util/ArrayList" = some m.cls := findClass_of_methodNamed Bd.named
  have hnm := (name_of_methodNamed Bd.named Bd.method).1
  have X0 : Stand p l e ({ frames := 2, cells := 1, slots := 4, locals := 26 } : Room) s m #[(.ref a1)] below meth c s₁ [] 0 0 := Stand.of_body Bd
  have e0 : s₁.heap = h0 := by rw [← hh, Bd.state]; rfl
  have N0 := Fr.nil n0
  have Z0 : n0 ≤ h0.size := O0.1 ▸ O0.2.1
  have g0 : ∀ t, Steps p.tables e below (s₁.setTop (mkF m 0 #[.val (.ref a1)] [])) t → Steps p.tables e below (s₁.setTop (entryFrame m #[(.ref a1)] 1)) t := fun t k => castTop (own_ef12 m (a1)) k
  obtain ⟨T1, h1, X1, e1, E1, A1, D1, -, st1⟩ := newO X0 hx hZ hown (hw _ (List.mem_of_getElem? (i := 126) rfl)) (hw _ (List.mem_of_getElem? (i := 127) rfl)) (hw _ (List.mem_of_getElem? (i := 128) rfl)) e0 (g := (mkF m 0 #[.val (.ref a1)] [])) rfl (hb hby own_d16_0) (by decide) (by decide)
  obtain ⟨b1, q_b1⟩ : ∃ z, z = h0.size := ⟨_, rfl⟩
  rw [← q_b1] at A1 D1 st1
  have sz_b1 : h0.size ≤ b1 := Nat.le_of_eq q_b1.symm
  have gz_b1 : n0 ≤ b1 := Nat.le_trans Z0 sz_b1
  have ne_a1_b1 : a1 ≠ b1 := Nat.ne_of_lt (Nat.lt_of_lt_of_le E_a1.lt (Nat.le_of_eq q_b1.symm))
  have F1_this_0 : Fld Z h1 b1 "java/util/ArrayList$Itr" "this$0" "Ljava/util/ArrayList;" .null := D1 (Or.inr (hw _ (List.mem_of_getElem? (i := 134) rfl))) (ty := (.object "java/util/ArrayList")) (by decide)
  have F1_lastRet : Fld Z h1 b1 "java/util/ArrayList$Itr" "lastRet" "I" (.int (0 : Int32)) := D1 (Or.inl (hw _ (List.mem_of_getElem? (i := 137) rfl))) (ty := .int) (by decide)
  have F1_expectedModCount : Fld Z h1 b1 "java/util/ArrayList$Itr" "expectedModCount" "I" (.int (0 : Int32)) := D1 (Or.inl (hw _ (List.mem_of_getElem? (i := 141) rfl))) (ty := .int) (by decide)
  have F1_cursor : Fld Z h1 b1 "java/util/ArrayList$Itr" "cursor" "I" (.int (0 : Int32)) := D1 (Or.inl (hw _ (List.mem_of_getElem? (i := 152) rfl))) (ty := .int) (by decide)
  have o2 : Old Z n0 h1 := (Old.ext O0 E1)
  have f3 := (E_a1.ext E1)
  have f4 := (F_a1_modCountA.ext E1)
  have f5 := (F_a1_size.ext E1)
  obtain ⟨_, _, ⟨T6, L6, k6, n6⟩, -, X6, ⟨Lc6, hQ6, l6, y6, z6⟩, st6⟩ := X1.specialBack hx (y := (⟨"java/util/ArrayList$Itr", "<init>", "(Ljava/util/ArrayList;)V"⟩ : MethodName)) rfl hown (mvT hZ (hw _ (List.mem_of_getElem? (i := 129) rfl))) (mvT hZ (hw _ (List.mem_of_getElem? (i := 130) rfl))) (mvT hZ (hw _ (List.mem_of_getElem? (i := 132) rfl))) (by decide) (backOf (W := 1) (rmIti l Z a0 hw [] b1 a1 h1 n0 o2 A1 F1_this_0 F1_cursor F1_lastRet F1_expectedModCount f3 f4 f5 gz_b1) hZ (hw _ (List.mem_of_getElem? (i := 132) rfl)) (hw _ (List.mem_of_getElem? (i := 128) rfl)) (by decide) (by decide)) (g := (mkF m 5 #[.val (.ref a1)] [(.ref a1), (.ref b1), (.ref b1)])) rfl (by rw [hml]; rfl) (Steps.refl _) (a := b1) (argsL := [(.ref a1)]) (rest := [(.ref b1)]) (lenOf own_pd1 rfl) rfl (by show 2 * 0 + _ ≤ _; exact Nat.le_of_eq rfl) (hb hby own_d16_5) (fun _ _ => ⟨rfl, e1, (by decide : 1 + 0 ≤ _), (by decide : 4 + 0 ≤ _)⟩)
  dsimp only [Pt.U, Pt.locs, Pt.cells, Pt.slots] at X6 l6 y6 z6 st6 hQ6
  subst l6 y6 z6
  obtain ⟨rfl, Nq6, K6, Q6a, Q6b, Q6c⟩ := hQ6
  have N6 := Fr.app N0 Nq6
  have g7 : ∀ t, Steps p.tables e below (T6.setTop (mkF m 8 #[.val (.ref a1)] [(.ref b1)])) t → Steps p.tables e below (s₁.setTop (entryFrame m #[(.ref a1)] 1)) t := by
    intro t k
    refine g0 t ?_
    show Steps p.tables e below (s₁.setTop (mkF m 0 #[.val (.ref a1)] [])) _
    refine st1 _ ?_
    show Steps p.tables e below (T1.setTop (mkF m 3 #[.val (.ref a1)] [(.ref b1)])) _
    refine XS.dup X1.here hx rfl (hb hby own_d16_3) rfl rfl ?_
    show Steps p.tables e below (T1.setTop (mkF m 4 #[.val (.ref a1)] [(.ref b1), (.ref b1)])) _
    refine XS.aloadN X1.here hx rfl (hb hby own_d16_4) rfl rfl ?_
    show Steps p.tables e below (T1.setTop (mkF m 5 #[.val (.ref a1)] [(.ref a1), (.ref b1), (.ref b1)])) _
    refine st6.trans ?_
    exact k
  obtain ⟨fs, hrt, hrun, hended, hW, hsame⟩ := X6.leave (v := some (.ref b1)) (fun h => by rw [Bd.returns] at h; cases h)
  refine ⟨_, _, g7 _ ?_, hrun, hended, _, _, rfl, ?_, ⟨_, rfl⟩, hW, hsame.mono (by decide) (by decide)⟩
  · show Steps p.tables e below (T6.setTop (mkF m 8 #[.val (.ref a1)] [(.ref b1)])) _
    jvm_step X6.here [X6.here.top, hx, (hb hby own_d16_8), X6.method', Bd.returns, Value.isRef, FieldType.isReference]
    first | (intro acts; rw [hrt _ acts rfl rfl rfl]) | rw [hrt _ _ rfl rfl rfl]
    exact Steps.refl _
  · show own_Q_rmItr Z a1 h0 n0 _ T6.heap _
    exact ⟨b1, rfl, N6, (Keep.trans (Keep.ext (Keep.refl h0 []) E1) K6 (allS (Or.inr sz_b1) all0)), sz_b1, Q6a, Q6b, Q6c⟩
theorem own_ef13 (m : MethodId) (x0 : Addr) : entryFrame m #[(.ref x0)] 1 = mkF m 0 #[.val (.ref x0)] [] := by first | (simp [entryFrame, mkF, argsToLocals, Value.category]; done) | rfl
theorem own_d18_0 : decode jdk_49_method_2_code 0 = .ok (.aload_n 0, 1) := by decide +kernel
theorem own_d18_1 : decode jdk_49_method_2_code 1 = .ok (.getfield 25, 3) := by decide +kernel
theorem own_d18_4 : decode jdk_49_method_2_code 4 = .ok (.aload_n 0, 1) := by decide +kernel
theorem own_d18_5 : decode jdk_49_method_2_code 5 = .ok (.getfield 1, 3) := by decide +kernel
theorem own_d18_8 : decode jdk_49_method_2_code 8 = .ok (.getfield 28, 3) := by decide +kernel
theorem own_d18_11 : decode jdk_49_method_2_code 11 = .ok (.if_icmp .eq 7, 3) := by decide +kernel
theorem own_d18_18 : decode jdk_49_method_2_code 18 = .ok (.iconst 0, 1) := by decide +kernel
theorem own_d18_19 : decode jdk_49_method_2_code 19 = .ok (.ireturn, 1) := by decide +kernel
def own_Q_rmHas (Z : State) (a1 a2 : Addr) (h0 : Heap) (n0 : Nat) (v : Option Value) (h : Heap) (L : List Loc) : Prop := v = some (.int (0 : Int32)) ∧ Fr n0 L ∧ h = h0
set_option maxRecDepth 65536 in
set_option maxHeartbeats 40000000 in
theorem rmHas (l : Launch) (Z : State) (a0 : Array Value) (hw : ∀ d ∈ tables_1, d.before a0 Z = true) (ws : List Jvm.Cond) (a1 a2 : Addr) (h0 : Heap) (n0 : Nat) (O0 : Old Z n0 h0) (E_a1 : Exa Z h0 a1 "java/util/ArrayList$Itr") (F_a1_this_0 : Fld Z h0 a1 "java/util/ArrayList$Itr" "this$0" "Ljava/util/ArrayList;" (.ref a2)) (F_a1_cursor : Fld Z h0 a1 "java/util/ArrayList$Itr" "cursor" "I" (.int (0 : Int32))) (E_a2 : Exa Z h0 a2 "java/util/ArrayList") (F_a2_modCountA : Fld Z h0 a2 "java/util/AbstractList" "modCount" "I" (.int (0 : Int32))) (F_a2_size : Fld Z h0 a2 "java/util/ArrayList" "size" "I" (.int (0 : Int32))) :
    MetFree l (⟨"java/util/ArrayList$Itr", "hasNext", "()Z"⟩ : MethodName) (head1 (Jvm.Cond.code (⟨"java/util/ArrayList$Itr", "hasNext", "()Z"⟩ : MethodName) jdk_49_method_2_code 1 (some .boolean) :: ws) ({ frames := 0, cells := 0, slots := 0, locals := 0 } : Room)) (fun a U => a = #[(.ref a1)] ∧ Z.Warmed39 U.vm ∧ U.heap = h0) (fun _ _ _ _ _ => True) (fun _ U o U' => ∃ v L, o = .returned v ∧ own_Q_rmHas Z a1 a2 h0 n0 v U'.heap L ∧ FrameEnd U o U' L ({ frames := 0, cells := 0, slots := 0, locals := 0 } : Room).cells ({ frames := 0, cells := 0, slots := 0, locals := 0 } : Room).slots) := by
  refine MetFree.of_bodySF (plainFor_of_name own_pn9) hisR ?_
  intro p e s m args below meth c s₁ Bd hml0 hP hK
  obtain ⟨rfl, hZ, hh⟩ := hP
  have hx := Bd.exec
  have hby := Bd.bytes
  have hml : c.maxLocals = 1 := hml0
  have hown : s.vm.findClass "java/util/ArrayList$Itr" = some m.cls := findClass_of_methodNamed Bd.named
  have hnm := (name_of_methodNamed Bd.named Bd.method).1
  have X0 : Stand p l e ({ frames := 0, cells := 0, slots := 0, locals := 0 } : Room) s m #[(.ref a1)] below meth c s₁ [] 0 0 := Stand.of_body Bd
  have e0 : s₁.heap = h0 := by rw [← hh, Bd.state]; rfl
  have N0 := Fr.nil n0
  have Z0 : n0 ≤ h0.size := O0.1 ▸ O0.2.1
  have g0 : ∀ t, Steps p.tables e below (s₁.setTop (mkF m 0 #[.val (.ref a1)] [])) t → Steps p.tables e below (s₁.setTop (entryFrame m #[(.ref a1)] 1)) t := fun t k => castTop (own_ef13 m (a1)) k
  obtain ⟨T1, X1, e1, st1⟩ := getF X0 hx hZ hown (host := "") (Or.inl (hw _ (List.mem_of_getElem? (i := 151) rfl))) Via.refl e0 F_a1_cursor (g := (mkF m 1 #[.val (.ref a1)] [(.ref a1)])) rfl rfl (hb hby own_d18_1)
  obtain ⟨T2, X2, e2, st2⟩ := getF X1 hx hZ hown (host := "") (Or.inl (hw _ (List.mem_of_getElem? (i := 133) rfl))) Via.refl e1 F_a1_this_0 (g := (mkF m 5 #[.val (.ref a1)] [(.ref a1), (.int (0 : Int32))])) rfl rfl (hb hby own_d18_5)
  obtain ⟨T3, X3, e3, st3⟩ := getF X2 hx hZ hown (Or.inr (hw _ (List.mem_of_getElem? (i := 153) rfl))) Via.refl e2 F_a2_size (g := (mkF m 8 #[.val (.ref a1)] [(.ref a2), (.int (0 : Int32))])) rfl rfl (hb hby own_d18_8)
  have g4 : ∀ t, Steps p.tables e below (T3.setTop (mkF m 19 #[.val (.ref a1)] [(.int (0 : Int32))])) t → Steps p.tables e below (s₁.setTop (entryFrame m #[(.ref a1)] 1)) t := by
    intro t k
    refine g0 t ?_
    show Steps p.tables e below (s₁.setTop (mkF m 0 #[.val (.ref a1)] [])) _
    refine XS.aloadN X0.here hx rfl (hb hby own_d18_0) rfl rfl ?_
    show Steps p.tables e below (s₁.setTop (mkF m 1 #[.val (.ref a1)] [(.ref a1)])) _
    refine st1 _ ?_
    show Steps p.tables e below (T1.setTop (mkF m 4 #[.val (.ref a1)] [(.int (0 : Int32))])) _
    refine XS.aloadN X1.here hx rfl (hb hby own_d18_4) rfl rfl ?_
    show Steps p.tables e below (T1.setTop (mkF m 5 #[.val (.ref a1)] [(.ref a1), (.int (0 : Int32))])) _
    refine st2 _ ?_
    show Steps p.tables e below (T2.setTop (mkF m 8 #[.val (.ref a1)] [(.ref a2), (.int (0 : Int32))])) _
    refine st3 _ ?_
    show Steps p.tables e below (T3.setTop (mkF m 11 #[.val (.ref a1)] [(.int (0 : Int32)), (.int (0 : Int32))])) _
    refine XS.icmpYes X3.here hx rfl (pc0 := 11) (pc' := 18) rfl (hb hby own_d18_11) rfl (teq (by decide : (0 : Int32) = (0 : Int32))).1 (by decide) (by decide) ?_
    show Steps p.tables e below (T3.setTop (mkF m 18 #[.val (.ref a1)] [])) _
    refine XS.iconst X3.here hx rfl (hb hby own_d18_18) ?_
    exact k
  obtain ⟨fs, hrt, hrun, hended, hW, hsame⟩ := X3.leave (v := some (.int (0 : Int32))) (fun h => by rw [Bd.returns] at h; cases h)
  refine ⟨_, _, g4 _ ?_, hrun, hended, _, _, rfl, ?_, ⟨_, rfl⟩, hW, hsame.mono (by decide) (by decide)⟩
  · show Steps p.tables e below (T3.setTop (mkF m 19 #[.val (.ref a1)] [(.int (0 : Int32))])) _
    exact retN X3 hx (t := .boolean) Bd.returns (by simp) (hb hby own_d18_19) hrt
  · show own_Q_rmHas Z a1 a2 h0 n0 _ T3.heap _
    rw [e3]
    exact ⟨rfl, N0, rfl⟩
theorem own_ef14 (m : MethodId) (x0 : Addr) (x1 : Addr) : entryFrame m #[(.ref x0), (.ref x1)] 5 = mkF m 0 #[.val (.ref x0), .val (.ref x1), .unset, .unset, .unset] [] := by first | (simp [entryFrame, mkF, argsToLocals, Value.category]; done) | rfl
theorem own_d15_0 : decode jdk_22_method_12_code 0 = .ok (.iconst 0, 1) := by decide +kernel
theorem own_d15_1 : decode jdk_22_method_12_code 1 = .ok (.istore_n 2, 1) := by decide +kernel
theorem own_d15_2 : decode jdk_22_method_12_code 2 = .ok (.aload_n 1, 1) := by decide +kernel
theorem own_d15_3 : decode jdk_22_method_12_code 3 = .ok (.invokeinterface 76 1, 5) := by decide +kernel
theorem own_pd2 : parseMethodDescriptor "()Ljava/util/Iterator;" = some ⟨[], some (.object "java/util/Iterator")⟩ := by decide +kernel
theorem own_d15_8 : decode jdk_22_method_12_code 8 = .ok (.astore_n 3, 1) := by decide +kernel
theorem own_d15_9 : decode jdk_22_method_12_code 9 = .ok (.aload_n 3, 1) := by decide +kernel
theorem own_d15_10 : decode jdk_22_method_12_code 10 = .ok (.invokeinterface 17 1, 5) := by decide +kernel
theorem own_pd3 : parseMethodDescriptor "()Z" = some ⟨[], some .boolean⟩ := by decide +kernel
theorem own_d15_15 : decode jdk_22_method_12_code 15 = .ok (.ifCond .eq 25, 3) := by decide +kernel
theorem own_d15_40 : decode jdk_22_method_12_code 40 = .ok (.iload_n 2, 1) := by decide +kernel
theorem own_d15_41 : decode jdk_22_method_12_code 41 = .ok (.ireturn, 1) := by decide +kernel
def own_Q_rmAdd (Z : State) (a1 a2 : Addr) (h0 : Heap) (n0 : Nat) (v : Option Value) (h : Heap) (L : List Loc) : Prop := v = some (.int (0 : Int32)) ∧ Fr n0 L ∧ Keep h0 h []
set_option maxRecDepth 65536 in
set_option maxHeartbeats 40000000 in
theorem rmAdd (l : Launch) (Z : State) (a0 : Array Value) (hw : ∀ d ∈ tables_1, d.before a0 Z = true) (ws : List Jvm.Cond) (a1 a2 : Addr) (h0 : Heap) (n0 : Nat) (O0 : Old Z n0 h0) (E_a2 : Exa Z h0 a2 "java/util/ArrayList") (F_a2_modCountA : Fld Z h0 a2 "java/util/AbstractList" "modCount" "I" (.int (0 : Int32))) (F_a2_size : Fld Z h0 a2 "java/util/ArrayList" "size" "I" (.int (0 : Int32))) :
    MetFree l (⟨"java/util/AbstractCollection", "addAll", "(Ljava/util/Collection;)Z"⟩ : MethodName) (head1 (Jvm.Cond.code (⟨"java/util/AbstractCollection", "addAll", "(Ljava/util/Collection;)Z"⟩ : MethodName) jdk_22_method_12_code 5 (some .boolean) :: ws) ({ frames := 3, cells := 1, slots := 4, locals := 38 } : Room)) (fun a U => a = #[(.ref a1), (.ref a2)] ∧ Z.Warmed39 U.vm ∧ U.heap = h0) (fun _ _ _ _ _ => True) (fun _ U o U' => ∃ v L, o = .returned v ∧ own_Q_rmAdd Z a1 a2 h0 n0 v U'.heap L ∧ FrameEnd U o U' L ({ frames := 3, cells := 1, slots := 4, locals := 38 } : Room).cells ({ frames := 3, cells := 1, slots := 4, locals := 38 } : Room).slots) := by
  refine MetFree.of_bodySF (plainFor_of_name own_pn0) hisR ?_
  intro p e s m args below meth c s₁ Bd hml0 hP hK
  obtain ⟨rfl, hZ, hh⟩ := hP
  have hx := Bd.exec
  have hby := Bd.bytes
  have hml : c.maxLocals = 5 := hml0
  have hown : s.vm.findClass "java/util/AbstractCollection" = some m.cls := findClass_of_methodNamed Bd.named
  have hnm := (name_of_methodNamed Bd.named Bd.method).1
  have X0 : Stand p l e ({ frames := 3, cells := 1, slots := 4, locals := 38 } : Room) s m #[(.ref a1), (.ref a2)] below meth c s₁ [] 0 0 := Stand.of_body Bd
  have e0 : s₁.heap = h0 := by rw [← hh, Bd.state]; rfl
  have N0 := Fr.nil n0
  have Z0 : n0 ≤ h0.size := O0.1 ▸ O0.2.1
  have g0 : ∀ t, Steps p.tables e below (s₁.setTop (mkF m 0 #[.val (.ref a1), .val (.ref a2), .unset, .unset, .unset] [])) t → Steps p.tables e below (s₁.setTop (entryFrame m #[(.ref a1), (.ref a2)] 5)) t := fun t k => castTop (own_ef14 m (a1) (a2)) k
  obtain ⟨cq1, kq1, q1a, q1b, q1c⟩ := isOf hZ e0 E_a2
  obtain ⟨_, _, ⟨T1, L1, k1, n1⟩, -, X1, ⟨Lc1, hQ1, l1, y1, z1⟩, st1⟩ := X0.interfaceBack hx (xi := (⟨"java/util/Collection", "iterator", "()Ljava/util/Iterator;"⟩ : MethodName)) (y := (⟨"java/util/ArrayList", "iterator", "()Ljava/util/Iterator;"⟩ : MethodName)) hown (mvT hZ (hw _ (List.mem_of_getElem? (i := 117) rfl))) (mvT hZ (hw _ (List.mem_of_getElem? (i := 118) rfl))) (mvT hZ (hw _ (List.mem_of_getElem? (i := 119) rfl))) (mvT hZ (hw _ (List.mem_of_getElem? (i := 120) rfl))) (mvT hZ (hw _ (List.mem_of_getElem? (i := 121) rfl))) (mvT hZ (hw _ (List.mem_of_getElem? (i := 122) rfl))) (mvT hZ (hw _ (List.mem_of_getElem? (i := 123) rfl))) (mvT hZ (hw _ (List.mem_of_getElem? (i := 124) rfl))) (by decide) (backOf (W := 0) (rmItr l Z a0 hw [] a2 h0 n0 O0 E_a2 F_a2_modCountA F_a2_size) hZ (hw _ (List.mem_of_getElem? (i := 125) rfl)) (hw _ (List.mem_of_getElem? (i := 67) rfl)) (by decide) (by decide)) q1a q1b q1c (g := (mkF m 3 #[.val (.ref a1), .val (.ref a2), .val (.int (0 : Int32)), .unset, .unset] [(.ref a2)])) rfl (by rw [hml]; rfl) (Steps.refl _) (argsL := []) (rest := []) (lenOf own_pd2 rfl) rfl (by show 2 * 0 + _ ≤ _; exact Nat.le_of_eq rfl) (hb hby own_d15_3) (fun _ _ => ⟨rfl, e0, (by decide : 0 + 1 ≤ _), (by decide : 0 + 4 ≤ _)⟩)
  dsimp only [Pt.U, Pt.locs, Pt.cells, Pt.slots] at X1 l1 y1 z1 st1 hQ1
  subst l1 y1 z1
  obtain ⟨it, rfl, Nq1, K1, hb1, Q1a, Q1b, Q1c⟩ := hQ1
  have N1 := Fr.app N0 Nq1
  have sz_it : h0.size ≤ it := hb1
  have gz_it : n0 ≤ it := Nat.le_trans Z0 sz_it
  have ne_a2_it : a2 ≠ it := Nat.ne_of_lt (Nat.lt_of_lt_of_le E_a2.lt hb1)
  have o2 : Old Z n0 T1.heap := (Old.keep O0 K1 all0)
  have f3 := (E_a2.keep K1)
  have f4 := (F_a2_modCountA.keep K1 nin0)
  have f5 := (F_a2_size.keep K1 nin0)
  obtain ⟨cq6, kq6, q6a, q6b, q6c⟩ := isOf hZ rfl Q1a
  obtain ⟨_, _, ⟨T6, L6, k6, n6⟩, -, X6, ⟨Lc6, hQ6, l6, y6, z6⟩, st6⟩ := X1.interfaceBack hx (xi := (⟨"java/util/Iterator", "hasNext", "()Z"⟩ : MethodName)) (y := (⟨"java/util/ArrayList$Itr", "hasNext", "()Z"⟩ : MethodName)) hown (mvT hZ (hw _ (List.mem_of_getElem? (i := 142) rfl))) (mvT hZ (hw _ (List.mem_of_getElem? (i := 143) rfl))) (mvT hZ (hw _ (List.mem_of_getElem? (i := 144) rfl))) (mvT hZ (hw _ (List.mem_of_getElem? (i := 145) rfl))) (mvT hZ (hw _ (List.mem_of_getElem? (i := 146) rfl))) (mvT hZ (hw _ (List.mem_of_getElem? (i := 147) rfl))) (mvT hZ (hw _ (List.mem_of_getElem? (i := 148) rfl))) (mvT hZ (hw _ (List.mem_of_getElem? (i := 149) rfl))) (by decide) (backOf (W := 0) (rmHas l Z a0 hw [] it a2 T1.heap n0 o2 Q1a Q1b Q1c f3 f4 f5) hZ (hw _ (List.mem_of_getElem? (i := 150) rfl)) (hw _ (List.mem_of_getElem? (i := 128) rfl)) (by decide) (by decide)) q6a q6b q6c (g := (mkF m 10 #[.val (.ref a1), .val (.ref a2), .val (.int (0 : Int32)), .val (.ref it), .unset] [(.ref it)])) rfl (by rw [hml]; rfl) (Steps.refl _) (argsL := []) (rest := []) (lenOf own_pd3 rfl) rfl (by show 2 * 0 + _ ≤ _; exact Nat.le_of_eq rfl) (hb hby own_d15_10) (fun _ _ => ⟨rfl, rfl, (by decide : 1 + 0 ≤ _), (by decide : 4 + 0 ≤ _)⟩)
  dsimp only [Pt.U, Pt.locs, Pt.cells, Pt.slots] at X6 l6 y6 z6 st6 hQ6
  subst l6 y6 z6
  obtain ⟨rfl, Nq6, e6⟩ := hQ6
  have N6 := Fr.app N1 Nq6
  have g7 : ∀ t, Steps p.tables e below (T6.setTop (mkF m 41 #[.val (.ref a1), .val (.ref a2), .val (.int (0 : Int32)), .val (.ref it), .unset] [(.int (0 : Int32))])) t → Steps p.tables e below (s₁.setTop (entryFrame m #[(.ref a1), (.ref a2)] 5)) t := by
    intro t k
    refine g0 t ?_
    show Steps p.tables e below (s₁.setTop (mkF m 0 #[.val (.ref a1), .val (.ref a2), .unset, .unset, .unset] [])) _
    refine XS.iconst X0.here hx rfl (hb hby own_d15_0) ?_
    show Steps p.tables e below (s₁.setTop (mkF m 1 #[.val (.ref a1), .val (.ref a2), .unset, .unset, .unset] [(.int (0 : Int32))])) _
    refine XS.istoreN X0.here hx rfl (hb hby own_d15_1) rfl (l' := #[.val (.ref a1), .val (.ref a2), .val (.int (0 : Int32)), .unset, .unset]) rfl ?_
    show Steps p.tables e below (s₁.setTop (mkF m 2 #[.val (.ref a1), .val (.ref a2), .val (.int (0 : Int32)), .unset, .unset] [])) _
    refine XS.aloadN X0.here hx rfl (hb hby own_d15_2) rfl rfl ?_
    show Steps p.tables e below (s₁.setTop (mkF m 3 #[.val (.ref a1), .val (.ref a2), .val (.int (0 : Int32)), .unset, .unset] [(.ref a2)])) _
    refine st1.trans ?_
    show Steps p.tables e below (T1.setTop (mkF m 8 #[.val (.ref a1), .val (.ref a2), .val (.int (0 : Int32)), .unset, .unset] [(.ref it)])) _
    refine XS.astoreN X1.here hx rfl (hb hby own_d15_8) rfl rfl (l' := #[.val (.ref a1), .val (.ref a2), .val (.int (0 : Int32)), .val (.ref it), .unset]) rfl ?_
    show Steps p.tables e below (T1.setTop (mkF m 9 #[.val (.ref a1), .val (.ref a2), .val (.int (0 : Int32)), .val (.ref it), .unset] [])) _
    refine XS.aloadN X1.here hx rfl (hb hby own_d15_9) rfl rfl ?_
    show Steps p.tables e below (T1.setTop (mkF m 10 #[.val (.ref a1), .val (.ref a2), .val (.int (0 : Int32)), .val (.ref it), .unset] [(.ref it)])) _
    refine st6.trans ?_
    show Steps p.tables e below (T6.setTop (mkF m 15 #[.val (.ref a1), .val (.ref a2), .val (.int (0 : Int32)), .val (.ref it), .unset] [(.int (0 : Int32))])) _
    refine XS.ifYes X6.here hx rfl (pc0 := 15) (pc' := 40) rfl (hb hby own_d15_15) rfl ((if0 _ _).trans (teq (by decide : (0 : Int32) = (0 : Int32))).1) (by decide) (by decide) ?_
    show Steps p.tables e below (T6.setTop (mkF m 40 #[.val (.ref a1), .val (.ref a2), .val (.int (0 : Int32)), .val (.ref it), .unset] [])) _
    refine XS.iloadN X6.here hx rfl (hb hby own_d15_40) rfl ?_
    exact k
  obtain ⟨fs, hrt, hrun, hended, hW, hsame⟩ := X6.leave (v := some (.int (0 : Int32))) (fun h => by rw [Bd.returns] at h; cases h)
  refine ⟨_, _, g7 _ ?_, hrun, hended, _, _, rfl, ?_, ⟨_, rfl⟩, hW, hsame.mono (by decide) (by decide)⟩
  · show Steps p.tables e below (T6.setTop (mkF m 41 #[.val (.ref a1), .val (.ref a2), .val (.int (0 : Int32)), .val (.ref it), .unset] [(.int (0 : Int32))])) _
    exact retN X6 hx (t := .boolean) Bd.returns (by simp) (hb hby own_d15_41) hrt
  · show own_Q_rmAdd Z a1 a2 h0 n0 _ T6.heap _
    rw [e6]
    exact ⟨rfl, N6, (Keep.trans (Keep.refl h0 []) K1 all0)⟩
theorem own_ef15 (m : MethodId) (x0 : Addr) : entryFrame m #[(.ref x0)] 3 = mkF m 0 #[.val (.ref x0), .unset, .unset] [] := by first | (simp [entryFrame, mkF, argsToLocals, Value.category]; done) | rfl
theorem own_d14_0 : decode jdk_69_method_22_code 0 = .ok (.aload_n 0, 1) := by decide +kernel
theorem own_d14_1 : decode jdk_69_method_22_code 1 = .ok (.dup, 1) := by decide +kernel
theorem own_d14_2 : decode jdk_69_method_22_code 2 = .ok (.getfield 202, 3) := by decide +kernel
theorem own_d14_5 : decode jdk_69_method_22_code 5 = .ok (.iconst 1, 1) := by decide +kernel
theorem own_d14_6 : decode jdk_69_method_22_code 6 = .ok (.iadd, 1) := by decide +kernel
theorem own_d14_7 : decode jdk_69_method_22_code 7 = .ok (.putfield 202, 3) := by decide +kernel
theorem own_d14_10 : decode jdk_69_method_22_code 10 = .ok (.aload_n 0, 1) := by decide +kernel
theorem own_d14_11 : decode jdk_69_method_22_code 11 = .ok (.getfield 105, 3) := by decide +kernel
theorem own_d14_14 : decode jdk_69_method_22_code 14 = .ok (.dup, 1) := by decide +kernel
theorem own_d14_15 : decode jdk_69_method_22_code 15 = .ok (.astore_n 1, 1) := by decide +kernel
theorem own_d14_16 : decode jdk_69_method_22_code 16 = .ok (.ifnull 33, 3) := by decide +kernel
theorem own_d14_49 : decode jdk_69_method_22_code 49 = .ok (.return_, 1) := by decide +kernel
def own_Q_rmHMc (Z : State) (a1 : Addr) (h0 : Heap) (n0 : Nat) (v : Option Value) (h : Heap) (L : List Loc) : Prop := v = none ∧ Fr n0 L ∧ Keep h0 h [a1]
set_option maxRecDepth 65536 in
set_option maxHeartbeats 40000000 in
theorem rmHMc (l : Launch) (Z : State) (a0 : Array Value) (hw : ∀ d ∈ tables_1, d.before a0 Z = true) (ws : List Jvm.Cond) (a1 : Addr) (h0 : Heap) (n0 : Nat) (O0 : Old Z n0 h0) (E_a1 : Exa Z h0 a1 "java/util/HashMap") (F_a1_table : Fld Z h0 a1 "java/util/HashMap" "table" "[Ljava/util/HashMap$Node;" .null) (F_a1_modCountM : Fld Z h0 a1 "java/util/HashMap" "modCount" "I" (.int (0 : Int32))) (gz_a1 : n0 ≤ a1) :
    MetFree l (⟨"java/util/HashMap", "clear", "()V"⟩ : MethodName) (head1 (Jvm.Cond.code (⟨"java/util/HashMap", "clear", "()V"⟩ : MethodName) jdk_69_method_22_code 3 none :: ws) ({ frames := 0, cells := 0, slots := 0, locals := 0 } : Room)) (fun a U => a = #[(.ref a1)] ∧ Z.Warmed39 U.vm ∧ U.heap = h0) (fun _ _ _ _ _ => True) (fun _ U o U' => ∃ v L, o = .returned v ∧ own_Q_rmHMc Z a1 h0 n0 v U'.heap L ∧ FrameEnd U o U' L ({ frames := 0, cells := 0, slots := 0, locals := 0 } : Room).cells ({ frames := 0, cells := 0, slots := 0, locals := 0 } : Room).slots) := by
  refine MetFree.of_bodySF (plainFor_of_name own_pn3) hisR ?_
  intro p e s m args below meth c s₁ Bd hml0 hP hK
  obtain ⟨rfl, hZ, hh⟩ := hP
  have hx := Bd.exec
  have hby := Bd.bytes
  have hml : c.maxLocals = 3 := hml0
  have hown : s.vm.findClass "java/util/HashMap" = some m.cls := findClass_of_methodNamed Bd.named
  have hnm := (name_of_methodNamed Bd.named Bd.method).1
  have X0 : Stand p l e ({ frames := 0, cells := 0, slots := 0, locals := 0 } : Room) s m #[(.ref a1)] below meth c s₁ [] 0 0 := Stand.of_body Bd
  have e0 : s₁.heap = h0 := by rw [← hh, Bd.state]; rfl
  have N0 := Fr.nil n0
  have Z0 : n0 ≤ h0.size := O0.1 ▸ O0.2.1
  have g0 : ∀ t, Steps p.tables e below (s₁.setTop (mkF m 0 #[.val (.ref a1), .unset, .unset] [])) t → Steps p.tables e below (s₁.setTop (entryFrame m #[(.ref a1)] 3)) t := fun t k => castTop (own_ef15 m (a1)) k
  obtain ⟨T1, X1, e1, st1⟩ := getF X0 hx hZ hown (host := "") (Or.inl (hw _ (List.mem_of_getElem? (i := 105) rfl))) Via.refl e0 F_a1_modCountM (g := (mkF m 2 #[.val (.ref a1), .unset, .unset] [(.ref a1), (.ref a1)])) rfl rfl (hb hby own_d14_2)
  obtain ⟨T2, h2, X2, e2, W2, st2⟩ := putF X1 hx hZ hown (host := "") (Or.inl (hw _ (List.mem_of_getElem? (i := 105) rfl))) Via.refl e1 F_a1_modCountM E_a1 (Or.inl (hw _ (List.mem_of_getElem? (i := 106) rfl))) (hw _ (List.mem_of_getElem? (i := 29) rfl)) (ty := .int) (by decide) rfl rfl (g := (mkF m 7 #[.val (.ref a1), .unset, .unset] [(.int (1 : Int32)), (.ref a1)])) rfl rfl (hb hby own_d14_7)
  have Fw2 := F_a1_modCountM.same W2
  have N2 := Fr.snoc X2 N0 gz_a1
  have f3 := (F_a1_table.other W2 (Or.inr (slot_ne (Or.inl (hw _ (List.mem_of_getElem? (i := 108) rfl))) (Or.inl (hw _ (List.mem_of_getElem? (i := 106) rfl))) (by decide) (t := (.array (.object "java/util/HashMap$Node"))) (t' := .int) (by decide) (by decide))))
  obtain ⟨T4, X4, e4, st4⟩ := getF X2 hx hZ hown (host := "") (Or.inl (hw _ (List.mem_of_getElem? (i := 107) rfl))) Via.refl e2 f3 (g := (mkF m 11 #[.val (.ref a1), .unset, .unset] [(.ref a1)])) rfl rfl (hb hby own_d14_11)
  have g5 : ∀ t, Steps p.tables e below (T4.setTop (mkF m 49 #[.val (.ref a1), .val .null, .unset] [])) t → Steps p.tables e below (s₁.setTop (entryFrame m #[(.ref a1)] 3)) t := by
    intro t k
    refine g0 t ?_
    show Steps p.tables e below (s₁.setTop (mkF m 0 #[.val (.ref a1), .unset, .unset] [])) _
    refine XS.aloadN X0.here hx rfl (hb hby own_d14_0) rfl rfl ?_
    show Steps p.tables e below (s₁.setTop (mkF m 1 #[.val (.ref a1), .unset, .unset] [(.ref a1)])) _
    refine XS.dup X0.here hx rfl (hb hby own_d14_1) rfl rfl ?_
    show Steps p.tables e below (s₁.setTop (mkF m 2 #[.val (.ref a1), .unset, .unset] [(.ref a1), (.ref a1)])) _
    refine st1 _ ?_
    show Steps p.tables e below (T1.setTop (mkF m 5 #[.val (.ref a1), .unset, .unset] [(.int (0 : Int32)), (.ref a1)])) _
    refine XS.iconst X1.here hx rfl (hb hby own_d14_5) ?_
    show Steps p.tables e below (T1.setTop (mkF m 6 #[.val (.ref a1), .unset, .unset] [(.int (1 : Int32)), (.int (0 : Int32)), (.ref a1)])) _
    refine XS.iadd X1.here hx rfl (hb hby own_d14_6) rfl ?_
    rw [show ((0 : Int32) + (1 : Int32)) = (1 : Int32) from by decide]
    show Steps p.tables e below (T1.setTop (mkF m 7 #[.val (.ref a1), .unset, .unset] [(.int (1 : Int32)), (.ref a1)])) _
    refine st2 _ ?_
    show Steps p.tables e below (T2.setTop (mkF m 10 #[.val (.ref a1), .unset, .unset] [])) _
    refine XS.aloadN X2.here hx rfl (hb hby own_d14_10) rfl rfl ?_
    show Steps p.tables e below (T2.setTop (mkF m 11 #[.val (.ref a1), .unset, .unset] [(.ref a1)])) _
    refine st4 _ ?_
    show Steps p.tables e below (T4.setTop (mkF m 14 #[.val (.ref a1), .unset, .unset] [.null])) _
    refine XS.dup X4.here hx rfl (hb hby own_d14_14) rfl rfl ?_
    show Steps p.tables e below (T4.setTop (mkF m 15 #[.val (.ref a1), .unset, .unset] [.null, .null])) _
    refine XS.astoreN X4.here hx rfl (hb hby own_d14_15) rfl rfl (l' := #[.val (.ref a1), .val .null, .unset]) rfl ?_
    show Steps p.tables e below (T4.setTop (mkF m 16 #[.val (.ref a1), .val .null, .unset] [.null])) _
    refine XS.ifnullYes X4.here hx rfl (pc0 := 16) (pc' := 49) rfl (hb hby own_d14_16) rfl (by decide) (by decide) ?_
    exact k
  obtain ⟨fs, hrt, hrun, hended, hW, hsame⟩ := X4.leave (v := none) (fun _ => rfl)
  refine ⟨_, _, g5 _ ?_, hrun, hended, _, _, rfl, ?_, ⟨_, rfl⟩, hW, hsame.mono (by decide) (by decide)⟩
  · show Steps p.tables e below (T4.setTop (mkF m 49 #[.val (.ref a1), .val .null, .unset] [])) _
    exact X4.returnOut hx Bd.returns (hb hby own_d14_49) hrt
  · show own_Q_rmHMc Z a1 h0 n0 _ T4.heap _
    rw [e4]
    exact ⟨rfl, N2, (Keep.wr (Keep.refl h0 [a1]) W2 (Or.inl (List.mem_of_getElem? (i := 0) rfl)))⟩
theorem own_ef16 (m : MethodId) (x0 : Addr) : entryFrame m #[(.ref x0)] 1 = mkF m 0 #[.val (.ref x0)] [] := by first | (simp [entryFrame, mkF, argsToLocals, Value.category]; done) | rfl
theorem own_d13_0 : decode jdk_93_method_12_code 0 = .ok (.aload_n 0, 1) := by decide +kernel
theorem own_d13_1 : decode jdk_93_method_12_code 1 = .ok (.getfield 10, 3) := by decide +kernel
theorem own_d13_4 : decode jdk_93_method_12_code 4 = .ok (.invokevirtual 76, 3) := by decide +kernel
theorem own_d13_7 : decode jdk_93_method_12_code 7 = .ok (.return_, 1) := by decide +kernel
def own_Q_rmHSc (Z : State) (a1 mm : Addr) (h0 : Heap) (n0 : Nat) (v : Option Value) (h : Heap) (L : List Loc) : Prop := v = none ∧ Fr n0 L ∧ Keep h0 h [mm]
set_option maxRecDepth 65536 in
set_option maxHeartbeats 40000000 in
theorem rmHSc (l : Launch) (Z : State) (a0 : Array Value) (hw : ∀ d ∈ tables_1, d.before a0 Z = true) (ws : List Jvm.Cond) (a1 mm : Addr) (h0 : Heap) (n0 : Nat) (O0 : Old Z n0 h0) (E_a1 : Exa Z h0 a1 "java/util/HashSet") (F_a1_map : Fld Z h0 a1 "java/util/HashSet" "map" "Ljava/util/HashMap;" (.ref mm)) (E_mm : Exa Z h0 mm "java/util/HashMap") (F_mm_table : Fld Z h0 mm "java/util/HashMap" "table" "[Ljava/util/HashMap$Node;" .null) (F_mm_modCountM : Fld Z h0 mm "java/util/HashMap" "modCount" "I" (.int (0 : Int32))) (gz_mm : n0 ≤ mm) :
    MetFree l (⟨"java/util/HashSet", "clear", "()V"⟩ : MethodName) (head1 (Jvm.Cond.code (⟨"java/util/HashSet", "clear", "()V"⟩ : MethodName) jdk_93_method_12_code 1 none :: ws) ({ frames := 1, cells := 0, slots := 0, locals := 14 } : Room)) (fun a U => a = #[(.ref a1)] ∧ Z.Warmed39 U.vm ∧ U.heap = h0) (fun _ _ _ _ _ => True) (fun _ U o U' => ∃ v L, o = .returned v ∧ own_Q_rmHSc Z a1 mm h0 n0 v U'.heap L ∧ FrameEnd U o U' L ({ frames := 1, cells := 0, slots := 0, locals := 14 } : Room).cells ({ frames := 1, cells := 0, slots := 0, locals := 14 } : Room).slots) := by
  refine MetFree.of_bodySF (plainFor_of_name own_pn4) hisR ?_
  intro p e s m args below meth c s₁ Bd hml0 hP hK
  obtain ⟨rfl, hZ, hh⟩ := hP
  have hx := Bd.exec
  have hby := Bd.bytes
  have hml : c.maxLocals = 1 := hml0
  have hown : s.vm.findClass "java/util/HashSet" = some m.cls := findClass_of_methodNamed Bd.named
  have hnm := (name_of_methodNamed Bd.named Bd.method).1
  have X0 : Stand p l e ({ frames := 1, cells := 0, slots := 0, locals := 14 } : Room) s m #[(.ref a1)] below meth c s₁ [] 0 0 := Stand.of_body Bd
  have e0 : s₁.heap = h0 := by rw [← hh, Bd.state]; rfl
  have N0 := Fr.nil n0
  have Z0 : n0 ≤ h0.size := O0.1 ▸ O0.2.1
  have g0 : ∀ t, Steps p.tables e below (s₁.setTop (mkF m 0 #[.val (.ref a1)] [])) t → Steps p.tables e below (s₁.setTop (entryFrame m #[(.ref a1)] 1)) t := fun t k => castTop (own_ef16 m (a1)) k
  obtain ⟨T1, X1, e1, st1⟩ := getF X0 hx hZ hown (host := "") (Or.inl (hw _ (List.mem_of_getElem? (i := 45) rfl))) Via.refl e0 F_a1_map (g := (mkF m 1 #[.val (.ref a1)] [(.ref a1)])) rfl rfl (hb hby own_d13_1)
  obtain ⟨cq2, kq2, q2a, q2b, q2c⟩ := isOf hZ e1 E_mm
  obtain ⟨_, _, ⟨T2, L2, k2, n2⟩, -, X2, ⟨Lc2, hQ2, l2, y2, z2⟩, st2⟩ := X1.virtualBack hx (y := (⟨"java/util/HashMap", "clear", "()V"⟩ : MethodName)) (z := (⟨"java/util/HashMap", "clear", "()V"⟩ : MethodName)) hown (mvT hZ (hw _ (List.mem_of_getElem? (i := 100) rfl))) (mvT hZ (hw _ (List.mem_of_getElem? (i := 101) rfl))) (notFace_of_selects (args := #[]) (mvT hZ (hw _ (List.mem_of_getElem? (i := 103) rfl)))) (mvT hZ (hw _ (List.mem_of_getElem? (i := 103) rfl))) (mvT hZ (hw _ (List.mem_of_getElem? (i := 102) rfl))) (by decide) (backOf (W := 0) (rmHMc l Z a0 hw [] mm h0 n0 O0 E_mm F_mm_table F_mm_modCountM gz_mm) hZ (hw _ (List.mem_of_getElem? (i := 104) rfl)) (hw _ (List.mem_of_getElem? (i := 30) rfl)) (by decide) (by decide)) q2a q2c (g := (mkF m 4 #[.val (.ref a1)] [(.ref mm)])) rfl (by rw [hml]; rfl) (Steps.refl _) (argsL := []) (rest := []) (lenOf own_pd0 rfl) rfl (by show 2 * 0 + _ ≤ _; exact Nat.le_of_eq rfl) (hb hby own_d13_4) (fun _ _ => ⟨rfl, e1, (by decide : 0 + 0 ≤ _), (by decide : 0 + 0 ≤ _)⟩)
  dsimp only [Pt.U, Pt.locs, Pt.cells, Pt.slots] at X2 l2 y2 z2 st2 hQ2
  subst l2 y2 z2
  obtain ⟨rfl, Nq2, K2⟩ := hQ2
  have N2 := Fr.app N0 Nq2
  have g3 : ∀ t, Steps p.tables e below (T2.setTop (mkF m 7 #[.val (.ref a1)] [])) t → Steps p.tables e below (s₁.setTop (entryFrame m #[(.ref a1)] 1)) t := by
    intro t k
    refine g0 t ?_
    show Steps p.tables e below (s₁.setTop (mkF m 0 #[.val (.ref a1)] [])) _
    refine XS.aloadN X0.here hx rfl (hb hby own_d13_0) rfl rfl ?_
    show Steps p.tables e below (s₁.setTop (mkF m 1 #[.val (.ref a1)] [(.ref a1)])) _
    refine st1 _ ?_
    show Steps p.tables e below (T1.setTop (mkF m 4 #[.val (.ref a1)] [(.ref mm)])) _
    refine st2.trans ?_
    exact k
  obtain ⟨fs, hrt, hrun, hended, hW, hsame⟩ := X2.leave (v := none) (fun _ => rfl)
  refine ⟨_, _, g3 _ ?_, hrun, hended, _, _, rfl, ?_, ⟨_, rfl⟩, hW, hsame.mono (by decide) (by decide)⟩
  · show Steps p.tables e below (T2.setTop (mkF m 7 #[.val (.ref a1)] [])) _
    exact X2.returnOut hx Bd.returns (hb hby own_d13_7) hrt
  · show own_Q_rmHSc Z a1 mm h0 n0 _ T2.heap _
    exact ⟨rfl, N2, (Keep.trans (Keep.refl h0 [mm]) K2 (allS (Or.inl (List.mem_of_getElem? (i := 0) rfl)) all0))⟩
theorem own_ef17 (m : MethodId) (x0 : Addr) (x1 : Addr) (x2 : Addr) (x3 : Int64) : entryFrame m #[(.ref x0), (.ref x1), (.ref x2), (.long x3)] 5 = mkF m 0 #[.val (.ref x0), .val (.ref x1), .val (.ref x2), .val (.long x3), .second] [] := by first | (simp [entryFrame, mkF, argsToLocals, Value.category]; done) | rfl
theorem own_d12_0 : decode prog_46_method_4_code 0 = .ok (.aload_n 0, 1) := by decide +kernel
theorem own_d12_1 : decode prog_46_method_4_code 1 = .ok (.aload_n 1, 1) := by decide +kernel
theorem own_d12_2 : decode prog_46_method_4_code 2 = .ok (.putfield 19, 3) := by decide +kernel
theorem own_d12_5 : decode prog_46_method_4_code 5 = .ok (.aload_n 0, 1) := by decide +kernel
theorem own_d12_6 : decode prog_46_method_4_code 6 = .ok (.lload_n 3, 1) := by decide +kernel
theorem own_d12_7 : decode prog_46_method_4_code 7 = .ok (.putfield 23, 3) := by decide +kernel
theorem own_d12_10 : decode prog_46_method_4_code 10 = .ok (.aload_n 0, 1) := by decide +kernel
theorem own_d12_11 : decode prog_46_method_4_code 11 = .ok (.getfield 10, 3) := by decide +kernel
theorem own_d12_14 : decode prog_46_method_4_code 14 = .ok (.invokeinterface 27 1, 5) := by decide +kernel
theorem own_d12_19 : decode prog_46_method_4_code 19 = .ok (.aload_n 0, 1) := by decide +kernel
theorem own_d12_20 : decode prog_46_method_4_code 20 = .ok (.getfield 10, 3) := by decide +kernel
theorem own_d12_23 : decode prog_46_method_4_code 23 = .ok (.aload_n 2, 1) := by decide +kernel
theorem own_d12_24 : decode prog_46_method_4_code 24 = .ok (.invokeinterface 32 2, 5) := by decide +kernel
theorem own_pd4 : parseMethodDescriptor "(Ljava/util/Collection;)Z" = some ⟨[(.object "java/util/Collection")], some .boolean⟩ := by decide +kernel
theorem own_d12_29 : decode prog_46_method_4_code 29 = .ok (.pop, 1) := by decide +kernel
theorem own_d12_30 : decode prog_46_method_4_code 30 = .ok (.aload_n 0, 1) := by decide +kernel
theorem own_d12_31 : decode prog_46_method_4_code 31 = .ok (.getfield 16, 3) := by decide +kernel
theorem own_d12_34 : decode prog_46_method_4_code 34 = .ok (.invokeinterface 27 1, 5) := by decide +kernel
theorem own_d12_39 : decode prog_46_method_4_code 39 = .ok (.return_, 1) := by decide +kernel
def own_Q_rmEnt (Z : State) (a1 a2 a3 : Addr) (q4 : Int64) (s1 s2 m1 m2 : Addr) (u1 u2 : Value) (h0 : Heap) (n0 : Nat) (v : Option Value) (h : Heap) (L : List Loc) : Prop := v = none ∧ Fr n0 L ∧ Keep h0 h [a1, m1, m2] ∧ Exa Z h a1 "com/example/assemble_quorum/assemblequorum/service/Round" ∧ Fld Z h a1 "com/example/assemble_quorum/assemblequorum/service/Round" "deadlineNanos" "J" (.long q4)
set_option maxRecDepth 65536 in
set_option maxHeartbeats 40000000 in
theorem rmEnt (l : Launch) (Z : State) (a0 : Array Value) (hw : ∀ d ∈ tables_1, d.before a0 Z = true) (ws : List Jvm.Cond) (a1 a2 a3 : Addr) (q4 : Int64) (s1 s2 m1 m2 : Addr) (u1 u2 : Value) (h0 : Heap) (n0 : Nat) (O0 : Old Z n0 h0) (E_a1 : Exa Z h0 a1 "com/example/assemble_quorum/assemblequorum/service/Round") (F_a1_awaited : Fld Z h0 a1 "com/example/assemble_quorum/assemblequorum/service/Round" "awaited" "Ljava/util/Set;" (.ref s1)) (F_a1_votes : Fld Z h0 a1 "com/example/assemble_quorum/assemblequorum/service/Round" "votes" "Ljava/util/Set;" (.ref s2)) (F_a1_deadlineNanos : Fld Z h0 a1 "com/example/assemble_quorum/assemblequorum/service/Round" "deadlineNanos" "J" u1) (F_a1_phase : Fld Z h0 a1 "com/example/assemble_quorum/assemblequorum/service/Round" "phase" "Lcom/example/assemble_quorum/assemblequorum/service/Round$Phase;" u2) (E_s1 : Exa Z h0 s1 "java/util/HashSet") (F_s1_map : Fld Z h0 s1 "java/util/HashSet" "map" "Ljava/util/HashMap;" (.ref m1)) (E_s2 : Exa Z h0 s2 "java/util/HashSet") (F_s2_map : Fld Z h0 s2 "java/util/HashSet" "map" "Ljava/util/HashMap;" (.ref m2)) (E_m1 : Exa Z h0 m1 "java/util/HashMap") (F_m1_table : Fld Z h0 m1 "java/util/HashMap" "table" "[Ljava/util/HashMap$Node;" .null) (F_m1_modCountM : Fld Z h0 m1 "java/util/HashMap" "modCount" "I" (.int (0 : Int32))) (E_m2 : Exa Z h0 m2 "java/util/HashMap") (F_m2_table : Fld Z h0 m2 "java/util/HashMap" "table" "[Ljava/util/HashMap$Node;" .null) (F_m2_modCountM : Fld Z h0 m2 "java/util/HashMap" "modCount" "I" (.int (0 : Int32))) (E_a3 : Exa Z h0 a3 "java/util/ArrayList") (F_a3_modCountA : Fld Z h0 a3 "java/util/AbstractList" "modCount" "I" (.int (0 : Int32))) (F_a3_size : Fld Z h0 a3 "java/util/ArrayList" "size" "I" (.int (0 : Int32))) (gz_a1 : n0 ≤ a1) (gz_m1 : n0 ≤ m1) (gz_m2 : n0 ≤ m2) (hm : m1 ≠ m2) :
    MetFree l (⟨"com/example/assemble_quorum/assemblequorum/service/Round", "enter", "(Lcom/example/assemble_quorum/assemblequorum/service/Round$Phase;Ljava/util/Collection;J)V"⟩ : MethodName) (head1 (Jvm.Cond.code (⟨"com/example/assemble_quorum/assemblequorum/service/Round", "enter", "(Lcom/example/assemble_quorum/assemblequorum/service/Round$Phase;Ljava/util/Collection;J)V"⟩ : MethodName) prog_46_method_4_code 5 none :: ws) ({ frames := 4, cells := 1, slots := 4, locals := 54 } : Room)) (fun a U => a = #[(.ref a1), (.ref a2), (.ref a3), (.long q4)] ∧ Z.Warmed39 U.vm ∧ U.heap = h0) (fun _ _ _ _ _ => True) (fun _ U o U' => ∃ v L, o = .returned v ∧ own_Q_rmEnt Z a1 a2 a3 q4 s1 s2 m1 m2 u1 u2 h0 n0 v U'.heap L ∧ FrameEnd U o U' L ({ frames := 4, cells := 1, slots := 4, locals := 54 } : Room).cells ({ frames := 4, cells := 1, slots := 4, locals := 54 } : Room).slots) := by
  refine MetFree.of_bodySF (plainFor_of_name own_pn5) hisR ?_
  intro p e s m args below meth c s₁ Bd hml0 hP hK
  obtain ⟨rfl, hZ, hh⟩ := hP
  have hx := Bd.exec
  have hby := Bd.bytes
  have hml : c.maxLocals = 5 := hml0
  have hown : s.vm.findClass "com/example/assemble_quorum/assemblequorum/service/Round" = some m.cls := findClass_of_methodNamed Bd.named
  have hnm := (name_of_methodNamed Bd.named Bd.method).1
  have X0 : Stand p l e ({ frames := 4, cells := 1, slots := 4, locals := 54 } : Room) s m #[(.ref a1), (.ref a2), (.ref a3), (.long q4)] below meth c s₁ [] 0 0 := Stand.of_body Bd
  have e0 : s₁.heap = h0 := by rw [← hh, Bd.state]; rfl
  have N0 := Fr.nil n0
  have Z0 : n0 ≤ h0.size := O0.1 ▸ O0.2.1
  have g0 : ∀ t, Steps p.tables e below (s₁.setTop (mkF m 0 #[.val (.ref a1), .val (.ref a2), .val (.ref a3), .val (.long q4), .second] [])) t → Steps p.tables e below (s₁.setTop (entryFrame m #[(.ref a1), (.ref a2), (.ref a3), (.long q4)] 5)) t := fun t k => castTop (own_ef17 m (a1) (a2) (a3) (q4)) k
  obtain ⟨T1, h1, X1, e1, W1, st1⟩ := putF X0 hx hZ hown (host := "") (Or.inl (hw _ (List.mem_of_getElem? (i := 89) rfl))) Via.refl e0 F_a1_phase E_a1 (Or.inl (hw _ (List.mem_of_getElem? (i := 90) rfl))) (hw _ (List.mem_of_getElem? (i := 1) rfl)) (ty := (.object "com/example/assemble_quorum/assemblequorum/service/Round$Phase")) (by decide) rfl rfl (g := (mkF m 2 #[.val (.ref a1), .val (.ref a2), .val (.ref a3), .val (.long q4), .second] [(.ref a2), (.ref a1)])) rfl rfl (hb hby own_d12_2)
  have Fw1 := F_a1_phase.same W1
  have N1 := Fr.snoc X1 N0 gz_a1
  have f2 := (E_a1.wr W1)
  have f3 := (F_a1_deadlineNanos.other W1 (Or.inr (slot_ne (Or.inl (hw _ (List.mem_of_getElem? (i := 57) rfl))) (Or.inl (hw _ (List.mem_of_getElem? (i := 90) rfl))) (by decide) (t := .long) (t' := (.object "com/example/assemble_quorum/assemblequorum/service/Round$Phase")) (by decide) (by decide))))
  obtain ⟨T4, h4, X4, e4, W4, st4⟩ := putF X1 hx hZ hown (host := "") (Or.inl (hw _ (List.mem_of_getElem? (i := 56) rfl))) Via.refl e1 f3 f2 (Or.inl (hw _ (List.mem_of_getElem? (i := 57) rfl))) (hw _ (List.mem_of_getElem? (i := 1) rfl)) (ty := .long) (by decide) rfl rfl (g := (mkF m 7 #[.val (.ref a1), .val (.ref a2), .val (.ref a3), .val (.long q4), .second] [(.long q4), (.ref a1)])) rfl rfl (hb hby own_d12_7)
  have Fw4 := f3.same W4
  have N4 := Fr.snoc X4 N1 gz_a1
  have f5 := ((F_a1_awaited.other W1 (Or.inr (slot_ne (Or.inr (hw _ (List.mem_of_getElem? (i := 48) rfl))) (Or.inl (hw _ (List.mem_of_getElem? (i := 90) rfl))) (by decide) (t := (.object "java/util/Set")) (t' := (.object "com/example/assemble_quorum/assemblequorum/service/Round$Phase")) (by decide) (by decide)))).other W4 (Or.inr (slot_ne (Or.inr (hw _ (List.mem_of_getElem? (i := 48) rfl))) (Or.inl (hw _ (List.mem_of_getElem? (i := 57) rfl))) (by decide) (t := (.object "java/util/Set")) (t' := .long) (by decide) (by decide))))
  obtain ⟨T6, X6, e6, st6⟩ := getF X4 hx hZ hown (host := "") (Or.inl (hw _ (List.mem_of_getElem? (i := 47) rfl))) Via.refl e4 f5 (g := (mkF m 11 #[.val (.ref a1), .val (.ref a2), .val (.ref a3), .val (.long q4), .second] [(.ref a1)])) rfl rfl (hb hby own_d12_11)
  have o7 : Old Z n0 h4 := (Old.wr (Old.wr O0 W1 gz_a1) W4 gz_a1)
  have f8 := ((E_s1.wr W1).wr W4)
  have f9 := (f2.wr W4)
  have f10 := ((F_s1_map.other W1 (Or.inl (Exa.ne f8 f9 (by decide)))).other W4 (Or.inl (Exa.ne f8 f9 (by decide))))
  have f11 := ((E_m1.wr W1).wr W4)
  have f12 := ((F_m1_table.other W1 (Or.inl (Exa.ne f11 f9 (by decide)))).other W4 (Or.inl (Exa.ne f11 f9 (by decide))))
  have f13 := ((F_m1_modCountM.other W1 (Or.inl (Exa.ne f11 f9 (by decide)))).other W4 (Or.inl (Exa.ne f11 f9 (by decide))))
  obtain ⟨cq14, kq14, q14a, q14b, q14c⟩ := isOf hZ e6 f8
  obtain ⟨_, _, ⟨T14, L14, k14, n14⟩, -, X14, ⟨Lc14, hQ14, l14, y14, z14⟩, st14⟩ := X6.interfaceBack hx (xi := (⟨"java/util/Set", "clear", "()V"⟩ : MethodName)) (y := (⟨"java/util/HashSet", "clear", "()V"⟩ : MethodName)) hown (mvT hZ (hw _ (List.mem_of_getElem? (i := 91) rfl))) (mvT hZ (hw _ (List.mem_of_getElem? (i := 92) rfl))) (mvT hZ (hw _ (List.mem_of_getElem? (i := 93) rfl))) (mvT hZ (hw _ (List.mem_of_getElem? (i := 94) rfl))) (mvT hZ (hw _ (List.mem_of_getElem? (i := 95) rfl))) (mvT hZ (hw _ (List.mem_of_getElem? (i := 96) rfl))) (mvT hZ (hw _ (List.mem_of_getElem? (i := 97) rfl))) (mvT hZ (hw _ (List.mem_of_getElem? (i := 98) rfl))) (by decide) (backOf (W := 0) (rmHSc l Z a0 hw [] s1 m1 h4 n0 o7 f8 f10 f11 f12 f13 gz_m1) hZ (hw _ (List.mem_of_getElem? (i := 99) rfl)) (hw _ (List.mem_of_getElem? (i := 11) rfl)) (by decide) (by decide)) q14a q14b q14c (g := (mkF m 14 #[.val (.ref a1), .val (.ref a2), .val (.ref a3), .val (.long q4), .second] [(.ref s1)])) rfl (by rw [hml]; rfl) (Steps.refl _) (argsL := []) (rest := []) (lenOf own_pd0 rfl) rfl (by show 2 * 0 + _ ≤ _; exact Nat.le_of_eq rfl) (hb hby own_d12_14) (fun _ _ => ⟨rfl, e6, (by decide : 0 + 0 ≤ _), (by decide : 0 + 0 ≤ _)⟩)
  dsimp only [Pt.U, Pt.locs, Pt.cells, Pt.slots] at X14 l14 y14 z14 st14 hQ14
  subst l14 y14 z14
  obtain ⟨rfl, Nq14, K14⟩ := hQ14
  have N14 := Fr.app N4 Nq14
  have f15 := (f9.keep K14)
  have f16 := (f11.keep K14)
  have f17 := (f5.keep K14 (ninS (Exa.ne f15 f16 (by decide)) nin0))
  obtain ⟨T18, X18, e18, st18⟩ := getF X14 hx hZ hown (host := "") (Or.inl (hw _ (List.mem_of_getElem? (i := 47) rfl))) Via.refl rfl f17 (g := (mkF m 20 #[.val (.ref a1), .val (.ref a2), .val (.ref a3), .val (.long q4), .second] [(.ref a1)])) rfl rfl (hb hby own_d12_20)
  have o19 : Old Z n0 T14.heap := (Old.keep o7 K14 (allS gz_m1 all0))
  have f20 := (((E_a3.wr W1).wr W4).keep K14)
  have f21 := (((F_a3_modCountA.other W1 (Or.inl (Exa.ne f20 f15 (by decide)))).other W4 (Or.inl (Exa.ne f20 f15 (by decide)))).keep K14 (ninS (Exa.ne f20 f16 (by decide)) nin0))
  have f22 := (((F_a3_size.other W1 (Or.inl (Exa.ne f20 f15 (by decide)))).other W4 (Or.inl (Exa.ne f20 f15 (by decide)))).keep K14 (ninS (Exa.ne f20 f16 (by decide)) nin0))
  have f24 := (f8.keep K14)
  obtain ⟨cq23, kq23, q23a, q23b, q23c⟩ := isOf hZ e18 f24
  obtain ⟨_, _, ⟨T23, L23, k23, n23⟩, -, X23, ⟨Lc23, hQ23, l23, y23, z23⟩, st23⟩ := X18.interfaceBack hx (xi := (⟨"java/util/Set", "addAll", "(Ljava/util/Collection;)Z"⟩ : MethodName)) (y := (⟨"java/util/AbstractCollection", "addAll", "(Ljava/util/Collection;)Z"⟩ : MethodName)) hown (mvT hZ (hw _ (List.mem_of_getElem? (i := 109) rfl))) (mvT hZ (hw _ (List.mem_of_getElem? (i := 110) rfl))) (mvT hZ (hw _ (List.mem_of_getElem? (i := 111) rfl))) (mvT hZ (hw _ (List.mem_of_getElem? (i := 112) rfl))) (mvT hZ (hw _ (List.mem_of_getElem? (i := 113) rfl))) (mvT hZ (hw _ (List.mem_of_getElem? (i := 114) rfl))) (mvT hZ (hw _ (List.mem_of_getElem? (i := 115) rfl))) (mvT hZ (hw _ (List.mem_of_getElem? (i := 98) rfl))) (by decide) (backOf (W := 0) (rmAdd l Z a0 hw [] s1 a3 T14.heap n0 o19 f20 f21 f22) hZ (hw _ (List.mem_of_getElem? (i := 116) rfl)) (hw _ (List.mem_of_getElem? (i := 25) rfl)) (by decide) (by decide)) q23a q23b q23c (g := (mkF m 24 #[.val (.ref a1), .val (.ref a2), .val (.ref a3), .val (.long q4), .second] [(.ref a3), (.ref s1)])) rfl (by rw [hml]; rfl) (Steps.refl _) (argsL := [(.ref a3)]) (rest := []) (lenOf own_pd4 rfl) rfl (by show 2 * 0 + _ ≤ _; exact Nat.le_of_eq rfl) (hb hby own_d12_24) (fun _ _ => ⟨rfl, e18, (by decide : 0 + 1 ≤ _), (by decide : 0 + 4 ≤ _)⟩)
  dsimp only [Pt.U, Pt.locs, Pt.cells, Pt.slots] at X23 l23 y23 z23 st23 hQ23
  subst l23 y23 z23
  obtain ⟨rfl, Nq23, K23⟩ := hQ23
  have N23 := Fr.app N14 Nq23
  have f25 := (f15.keep K23)
  have f26 := (f16.keep K23)
  have f27 := ((((F_a1_votes.other W1 (Or.inr (slot_ne (Or.inr (hw _ (List.mem_of_getElem? (i := 50) rfl))) (Or.inl (hw _ (List.mem_of_getElem? (i := 90) rfl))) (by decide) (t := (.object "java/util/Set")) (t' := (.object "com/example/assemble_quorum/assemblequorum/service/Round$Phase")) (by decide) (by decide)))).other W4 (Or.inr (slot_ne (Or.inr (hw _ (List.mem_of_getElem? (i := 50) rfl))) (Or.inl (hw _ (List.mem_of_getElem? (i := 57) rfl))) (by decide) (t := (.object "java/util/Set")) (t' := .long) (by decide) (by decide)))).keep K14 (ninS (Exa.ne f25 f26 (by decide)) nin0)).keep K23 nin0)
  obtain ⟨T28, X28, e28, st28⟩ := getF X23 hx hZ hown (host := "") (Or.inl (hw _ (List.mem_of_getElem? (i := 49) rfl))) Via.refl rfl f27 (g := (mkF m 31 #[.val (.ref a1), .val (.ref a2), .val (.ref a3), .val (.long q4), .second] [(.ref a1)])) rfl rfl (hb hby own_d12_31)
  have o29 : Old Z n0 T23.heap := (Old.keep o19 K23 all0)
  have f30 := ((((E_s2.wr W1).wr W4).keep K14).keep K23)
  have f31 := ((((F_s2_map.other W1 (Or.inl (Exa.ne f30 f25 (by decide)))).other W4 (Or.inl (Exa.ne f30 f25 (by decide)))).keep K14 (ninS (Exa.ne f30 f26 (by decide)) nin0)).keep K23 nin0)
  have f32 := ((((E_m2.wr W1).wr W4).keep K14).keep K23)
  have f33 := ((((F_m2_table.other W1 (Or.inl (Exa.ne f32 f25 (by decide)))).other W4 (Or.inl (Exa.ne f32 f25 (by decide)))).keep K14 (ninS (Ne.symm hm) nin0)).keep K23 nin0)
  have f34 := ((((F_m2_modCountM.other W1 (Or.inl (Exa.ne f32 f25 (by decide)))).other W4 (Or.inl (Exa.ne f32 f25 (by decide)))).keep K14 (ninS (Ne.symm hm) nin0)).keep K23 nin0)
  obtain ⟨cq35, kq35, q35a, q35b, q35c⟩ := isOf hZ e28 f30
  obtain ⟨_, _, ⟨T35, L35, k35, n35⟩, -, X35, ⟨Lc35, hQ35, l35, y35, z35⟩, st35⟩ := X28.interfaceBack hx (xi := (⟨"java/util/Set", "clear", "()V"⟩ : MethodName)) (y := (⟨"java/util/HashSet", "clear", "()V"⟩ : MethodName)) hown (mvT hZ (hw _ (List.mem_of_getElem? (i := 91) rfl))) (mvT hZ (hw _ (List.mem_of_getElem? (i := 92) rfl))) (mvT hZ (hw _ (List.mem_of_getElem? (i := 93) rfl))) (mvT hZ (hw _ (List.mem_of_getElem? (i := 94) rfl))) (mvT hZ (hw _ (List.mem_of_getElem? (i := 95) rfl))) (mvT hZ (hw _ (List.mem_of_getElem? (i := 96) rfl))) (mvT hZ (hw _ (List.mem_of_getElem? (i := 97) rfl))) (mvT hZ (hw _ (List.mem_of_getElem? (i := 98) rfl))) (by decide) (backOf (W := 0) (rmHSc l Z a0 hw [] s2 m2 T23.heap n0 o29 f30 f31 f32 f33 f34 gz_m2) hZ (hw _ (List.mem_of_getElem? (i := 99) rfl)) (hw _ (List.mem_of_getElem? (i := 11) rfl)) (by decide) (by decide)) q35a q35b q35c (g := (mkF m 34 #[.val (.ref a1), .val (.ref a2), .val (.ref a3), .val (.long q4), .second] [(.ref s2)])) rfl (by rw [hml]; rfl) (Steps.refl _) (argsL := []) (rest := []) (lenOf own_pd0 rfl) rfl (by show 2 * 0 + _ ≤ _; exact Nat.le_of_eq rfl) (hb hby own_d12_34) (fun _ _ => ⟨rfl, e28, (by decide : 1 + 0 ≤ _), (by decide : 4 + 0 ≤ _)⟩)
  dsimp only [Pt.U, Pt.locs, Pt.cells, Pt.slots] at X35 l35 y35 z35 st35 hQ35
  subst l35 y35 z35
  obtain ⟨rfl, Nq35, K35⟩ := hQ35
  have N35 := Fr.app N23 Nq35
  have g36 : ∀ t, Steps p.tables e below (T35.setTop (mkF m 39 #[.val (.ref a1), .val (.ref a2), .val (.ref a3), .val (.long q4), .second] [])) t → Steps p.tables e below (s₁.setTop (entryFrame m #[(.ref a1), (.ref a2), (.ref a3), (.long q4)] 5)) t := by
    intro t k
    refine g0 t ?_
    show Steps p.tables e below (s₁.setTop (mkF m 0 #[.val (.ref a1), .val (.ref a2), .val (.ref a3), .val (.long q4), .second] [])) _
    refine XS.aloadN X0.here hx rfl (hb hby own_d12_0) rfl rfl ?_
    show Steps p.tables e below (s₁.setTop (mkF m 1 #[.val (.ref a1), .val (.ref a2), .val (.ref a3), .val (.long q4), .second] [(.ref a1)])) _
    refine XS.aloadN X0.here hx rfl (hb hby own_d12_1) rfl rfl ?_
    show Steps p.tables e below (s₁.setTop (mkF m 2 #[.val (.ref a1), .val (.ref a2), .val (.ref a3), .val (.long q4), .second] [(.ref a2), (.ref a1)])) _
    refine st1 _ ?_
    show Steps p.tables e below (T1.setTop (mkF m 5 #[.val (.ref a1), .val (.ref a2), .val (.ref a3), .val (.long q4), .second] [])) _
    refine XS.aloadN X1.here hx rfl (hb hby own_d12_5) rfl rfl ?_
    show Steps p.tables e below (T1.setTop (mkF m 6 #[.val (.ref a1), .val (.ref a2), .val (.ref a3), .val (.long q4), .second] [(.ref a1)])) _
    refine XS.lloadN X1.here hx rfl (hb hby own_d12_6) rfl ?_
    show Steps p.tables e below (T1.setTop (mkF m 7 #[.val (.ref a1), .val (.ref a2), .val (.ref a3), .val (.long q4), .second] [(.long q4), (.ref a1)])) _
    refine st4 _ ?_
    show Steps p.tables e below (T4.setTop (mkF m 10 #[.val (.ref a1), .val (.ref a2), .val (.ref a3), .val (.long q4), .second] [])) _
    refine XS.aloadN X4.here hx rfl (hb hby own_d12_10) rfl rfl ?_
    show Steps p.tables e below (T4.setTop (mkF m 11 #[.val (.ref a1), .val (.ref a2), .val (.ref a3), .val (.long q4), .second] [(.ref a1)])) _
    refine st6 _ ?_
    show Steps p.tables e below (T6.setTop (mkF m 14 #[.val (.ref a1), .val (.ref a2), .val (.ref a3), .val (.long q4), .second] [(.ref s1)])) _
    refine st14.trans ?_
    show Steps p.tables e below (T14.setTop (mkF m 19 #[.val (.ref a1), .val (.ref a2), .val (.ref a3), .val (.long q4), .second] [])) _
    refine XS.aloadN X14.here hx rfl (hb hby own_d12_19) rfl rfl ?_
    show Steps p.tables e below (T14.setTop (mkF m 20 #[.val (.ref a1), .val (.ref a2), .val (.ref a3), .val (.long q4), .second] [(.ref a1)])) _
    refine st18 _ ?_
    show Steps p.tables e below (T18.setTop (mkF m 23 #[.val (.ref a1), .val (.ref a2), .val (.ref a3), .val (.long q4), .second] [(.ref s1)])) _
    refine XS.aloadN X18.here hx rfl (hb hby own_d12_23) rfl rfl ?_
    show Steps p.tables e below (T18.setTop (mkF m 24 #[.val (.ref a1), .val (.ref a2), .val (.ref a3), .val (.long q4), .second] [(.ref a3), (.ref s1)])) _
    refine st23.trans ?_
    show Steps p.tables e below (T23.setTop (mkF m 29 #[.val (.ref a1), .val (.ref a2), .val (.ref a3), .val (.long q4), .second] [(.int (0 : Int32))])) _
    refine XS.pop X23.here hx rfl (hb hby own_d12_29) rfl rfl ?_
    show Steps p.tables e below (T23.setTop (mkF m 30 #[.val (.ref a1), .val (.ref a2), .val (.ref a3), .val (.long q4), .second] [])) _
    refine XS.aloadN X23.here hx rfl (hb hby own_d12_30) rfl rfl ?_
    show Steps p.tables e below (T23.setTop (mkF m 31 #[.val (.ref a1), .val (.ref a2), .val (.ref a3), .val (.long q4), .second] [(.ref a1)])) _
    refine st28 _ ?_
    show Steps p.tables e below (T28.setTop (mkF m 34 #[.val (.ref a1), .val (.ref a2), .val (.ref a3), .val (.long q4), .second] [(.ref s2)])) _
    refine st35.trans ?_
    exact k
  obtain ⟨fs, hrt, hrun, hended, hW, hsame⟩ := X35.leave (v := none) (fun _ => rfl)
  have f37 := (f25.keep K35)
  have f38 := (f26.keep K35)
  have f39 := (f32.keep K35)
  have f40 := (((Fw4.keep K14 (ninS (Exa.ne f37 f38 (by decide)) nin0)).keep K23 nin0).keep K35 (ninS (Exa.ne f37 f39 (by decide)) nin0))
  refine ⟨_, _, g36 _ ?_, hrun, hended, _, _, rfl, ?_, ⟨_, rfl⟩, hW, hsame.mono (by decide) (by decide)⟩
  · show Steps p.tables e below (T35.setTop (mkF m 39 #[.val (.ref a1), .val (.ref a2), .val (.ref a3), .val (.long q4), .second] [])) _
    exact X35.returnOut hx Bd.returns (hb hby own_d12_39) hrt
  · show own_Q_rmEnt Z a1 a2 a3 q4 s1 s2 m1 m2 u1 u2 h0 n0 _ T35.heap _
    exact ⟨rfl, N35, (Keep.trans (Keep.trans (Keep.trans (Keep.wr (Keep.wr (Keep.refl h0 [a1, m1, m2]) W1 (Or.inl (List.mem_of_getElem? (i := 0) rfl))) W4 (Or.inl (List.mem_of_getElem? (i := 0) rfl))) K14 (allS (Or.inl (List.mem_of_getElem? (i := 1) rfl)) all0)) K23 all0) K35 (allS (Or.inl (List.mem_of_getElem? (i := 2) rfl)) all0)), f37, f40⟩
theorem own_can (d a : Int64) : d + a - d = a := by
  rw [Int64.add_comm]; exact Int64.add_sub_cancel a d
theorem own_ef18 (m : MethodId) (x0 : Int64) (x1 : Int64) (x2 : Int64) (x3 : Int32) : entryFrame m #[(.long x0), (.long x1), (.long x2), (.int x3)] maxLocals = mkF m 0 #[.val (.long x0), .second, .val (.long x1), .second, .val (.long x2), .second, .val (.int x3), .unset, .unset, .unset, .unset, .unset, .unset] [] := by first | (simp [entryFrame, mkF, argsToLocals, Value.category, maxLocals]; done) | rfl
theorem own_pd5 : parseMethodDescriptor "(J)Z" = some ⟨[.long], some .boolean⟩ := by decide +kernel
theorem own_pd6 : parseMethodDescriptor "(I)Lcom/example/assemble_quorum/assemblequorum/service/Round$Phase;" = some ⟨[.int], some (.object "com/example/assemble_quorum/assemblequorum/service/Round$Phase")⟩ := by decide +kernel
theorem own_pd7 : parseMethodDescriptor "(Lcom/example/assemble_quorum/assemblequorum/service/Round$Phase;Ljava/util/Collection;J)V" = some ⟨[(.object "com/example/assemble_quorum/assemblequorum/service/Round$Phase"), (.object "java/util/Collection"), .long], none⟩ := by decide +kernel
def own_Q_rm0 (Z : State) (q1 q2 q3 : Int64) (p4 : Int32) (wS wJ wH wP wF wD : Addr) (h0 : Heap) (n0 : Nat) (v : Option Value) (h : Heap) (L : List Loc) : Prop := v = some (.int (1 : Int32)) ∧ Fr n0 L
set_option maxRecDepth 65536 in
set_option maxHeartbeats 40000000 in
theorem rm0 (l : Launch) (Z : State) (a0 : Array Value) (hw : ∀ d ∈ tables_1, d.before a0 Z = true) (ws : List Jvm.Cond) (q1 q2 q3 : Int64) (p4 : Int32) (wS wJ wH wP wF wD : Addr) (h0 : Heap) (n0 : Nat) (O0 : Old Z n0 h0) (G : own_Gl Z wS wJ wH wP wF wD) :
    MetFree l x (head1 (Jvm.Cond.code x code maxLocals ret :: ws) room_1) (fun a U => a = #[(.long q1), (.long q2), (.long q3), (.int p4)] ∧ Z.Warmed39 U.vm ∧ U.heap = h0) (fun _ _ _ _ _ => True) (fun _ U o U' => ∃ v L, o = .returned v ∧ own_Q_rm0 Z q1 q2 q3 p4 wS wJ wH wP wF wD h0 n0 v U'.heap L ∧ FrameEnd U o U' L room_1.cells room_1.slots) := by
  refine MetFree.of_bodySF (plainFor_of_name own_pn6) hisR ?_
  intro p e s m args below meth c s₁ Bd hml0 hP hK
  obtain ⟨rfl, hZ, hh⟩ := hP
  have hx := Bd.exec
  have hby := Bd.bytes
  have hml : c.maxLocals = 13 := hml0
  have hown : s.vm.findClass "com/example/assemble_quorum/assemblequorum/service/RoundExpiredPinLaw" = some m.cls := findClass_of_methodNamed Bd.named
  have hnm := (name_of_methodNamed Bd.named Bd.method).1
  have X0 : Stand p l e room_1 s m #[(.long q1), (.long q2), (.long q3), (.int p4)] below meth c s₁ [] 0 0 := Stand.of_body Bd
  have e0 : s₁.heap = h0 := by rw [← hh, Bd.state]; rfl
  have N0 := Fr.nil n0
  have Z0 : n0 ≤ h0.size := O0.1 ▸ O0.2.1
  have g0 : ∀ t, Steps p.tables e below (s₁.setTop (mkF m 0 #[.val (.long q1), .second, .val (.long q2), .second, .val (.long q3), .second, .val (.int p4), .unset, .unset, .unset, .unset, .unset, .unset] [])) t → Steps p.tables e below (s₁.setTop (entryFrame m #[(.long q1), (.long q2), (.long q3), (.int p4)] maxLocals)) t := fun t k => castTop (own_ef18 m (q1) (q2) (q3) (p4)) k
  have G0 := G
  obtain ⟨S_SEEDS, S_JOIN, S_HEALTH, S_PROPOSAL, S_FINAL, S_D⟩ := G
  obtain ⟨T1, h1, X1, e1, E1, A1, D1, -, st1⟩ := newO X0 hx hZ hown (hw _ (List.mem_of_getElem? (i := 0) rfl)) (hw _ (List.mem_of_getElem? (i := 1) rfl)) (hw _ (List.mem_of_getElem? (i := 2) rfl)) e0 (g := (mkF m 0 #[.val (.long q1), .second, .val (.long q2), .second, .val (.long q3), .second, .val (.int p4), .unset, .unset, .unset, .unset, .unset, .unset] [])) rfl (hb hby at_0) (by decide) (by decide)
  obtain ⟨b1, q_b1⟩ : ∃ z, z = h0.size := ⟨_, rfl⟩
  rw [← q_b1] at A1 D1 st1
  have sz_b1 : h0.size ≤ b1 := Nat.le_of_eq q_b1.symm
  have gz_b1 : n0 ≤ b1 := Nat.le_trans Z0 sz_b1
  have F1_awaited : Fld Z h1 b1 "com/example/assemble_quorum/assemblequorum/service/Round" "awaited" "Ljava/util/Set;" .null := D1 (Or.inr (hw _ (List.mem_of_getElem? (i := 48) rfl))) (ty := (.object "java/util/Set")) (by decide)
  have F1_votes : Fld Z h1 b1 "com/example/assemble_quorum/assemblequorum/service/Round" "votes" "Ljava/util/Set;" .null := D1 (Or.inr (hw _ (List.mem_of_getElem? (i := 50) rfl))) (ty := (.object "java/util/Set")) (by decide)
  have F1_deadlineNanos : Fld Z h1 b1 "com/example/assemble_quorum/assemblequorum/service/Round" "deadlineNanos" "J" (.long (0 : Int64)) := D1 (Or.inl (hw _ (List.mem_of_getElem? (i := 57) rfl))) (ty := .long) (by decide)
  have F1_phase : Fld Z h1 b1 "com/example/assemble_quorum/assemblequorum/service/Round" "phase" "Lcom/example/assemble_quorum/assemblequorum/service/Round$Phase;" .null := D1 (Or.inl (hw _ (List.mem_of_getElem? (i := 90) rfl))) (ty := (.object "com/example/assemble_quorum/assemblequorum/service/Round$Phase")) (by decide)
  have o2 : Old Z n0 h1 := (Old.ext O0 E1)
  obtain ⟨_, _, ⟨T3, L3, k3, n3⟩, -, X3, ⟨Lc3, hQ3, l3, y3, z3⟩, st3⟩ := X1.specialBack hx (y := (⟨"com/example/assemble_quorum/assemblequorum/service/Round", "<init>", "()V"⟩ : MethodName)) rfl hown (mvT hZ (hw _ (List.mem_of_getElem? (i := 3) rfl))) (mvT hZ (hw _ (List.mem_of_getElem? (i := 4) rfl))) (mvT hZ (hw _ (List.mem_of_getElem? (i := 5) rfl))) (by decide) (backOf (W := 1) (rmR l Z a0 hw [] b1 h1 n0 o2 A1 F1_awaited F1_votes F1_deadlineNanos F1_phase gz_b1) hZ (hw _ (List.mem_of_getElem? (i := 5) rfl)) (hw _ (List.mem_of_getElem? (i := 2) rfl)) (by decide) (by decide)) (g := (mkF m 4 #[.val (.long q1), .second, .val (.long q2), .second, .val (.long q3), .second, .val (.int p4), .unset, .unset, .unset, .unset, .unset, .unset] [(.ref b1), (.ref b1)])) rfl (by rw [hml]; rfl) (Steps.refl _) (a := b1) (argsL := []) (rest := [(.ref b1)]) (lenOf own_pd0 rfl) rfl (by show 2 * 0 + _ ≤ _; exact Nat.le_of_eq rfl) (hb hby at_4) (fun _ _ => ⟨rfl, e1, (by decide : 1 + 4 ≤ _), (by decide : 10 + 18 ≤ _)⟩)
  dsimp only [Pt.U, Pt.locs, Pt.cells, Pt.slots] at X3 l3 y3 z3 st3 hQ3
  subst l3 y3 z3
  obtain ⟨rfl, Nq3, K3, s1, s2, m1, m2, hz1, hz2, hm12, Ra, Rb, Rc, Rd, Re, Rf, Rg, Rh, Ri, Rj, Rk, Rl, Rm, Rn, Ro⟩ := hQ3
  have N3 := Fr.app N0 Nq3
  have sz_m1 : h0.size ≤ m1 := Nat.le_trans E1.1 hz1
  have gz_m1 : n0 ≤ m1 := Nat.le_trans Z0 sz_m1
  have ne_b1_m1 : b1 ≠ m1 := Nat.ne_of_lt (Nat.lt_of_lt_of_le A1.lt hz1)
  have sz_m2 : h0.size ≤ m2 := Nat.le_trans E1.1 hz2
  have gz_m2 : n0 ≤ m2 := Nat.le_trans Z0 sz_m2
  have ne_b1_m2 : b1 ≠ m2 := Nat.ne_of_lt (Nat.lt_of_lt_of_le A1.lt hz2)
  have g5 : ∀ t, Steps p.tables e below (T3.setTop (mkF m 13 #[.val (.long q1), .second, .val (.long q2), .second, .val (.long q3), .second, .val (.int p4), .val (.ref b1), .unset, .unset, .unset, .unset, .unset] [(.int (p4 &&& (1 : Int32)))])) t → Steps p.tables e below (s₁.setTop (entryFrame m #[(.long q1), (.long q2), (.long q3), (.int p4)] maxLocals)) t := by
    intro t k
    refine g0 t ?_
    show Steps p.tables e below (s₁.setTop (mkF m 0 #[.val (.long q1), .second, .val (.long q2), .second, .val (.long q3), .second, .val (.int p4), .unset, .unset, .unset, .unset, .unset, .unset] [])) _
    refine st1 _ ?_
    show Steps p.tables e below (T1.setTop (mkF m 3 #[.val (.long q1), .second, .val (.long q2), .second, .val (.long q3), .second, .val (.int p4), .unset, .unset, .unset, .unset, .unset, .unset] [(.ref b1)])) _
    refine XS.dup X1.here hx rfl (hb hby at_3) rfl rfl ?_
    show Steps p.tables e below (T1.setTop (mkF m 4 #[.val (.long q1), .second, .val (.long q2), .second, .val (.long q3), .second, .val (.int p4), .unset, .unset, .unset, .unset, .unset, .unset] [(.ref b1), (.ref b1)])) _
    refine st3.trans ?_
    show Steps p.tables e below (T3.setTop (mkF m 7 #[.val (.long q1), .second, .val (.long q2), .second, .val (.long q3), .second, .val (.int p4), .unset, .unset, .unset, .unset, .unset, .unset] [(.ref b1)])) _
    refine XS.astore X3.here hx rfl (hb hby at_7) rfl rfl (l' := #[.val (.long q1), .second, .val (.long q2), .second, .val (.long q3), .second, .val (.int p4), .val (.ref b1), .unset, .unset, .unset, .unset, .unset]) rfl ?_
    show Steps p.tables e below (T3.setTop (mkF m 9 #[.val (.long q1), .second, .val (.long q2), .second, .val (.long q3), .second, .val (.int p4), .val (.ref b1), .unset, .unset, .unset, .unset, .unset] [])) _
    refine XS.iload X3.here hx rfl (hb hby at_9) rfl ?_
    show Steps p.tables e below (T3.setTop (mkF m 11 #[.val (.long q1), .second, .val (.long q2), .second, .val (.long q3), .second, .val (.int p4), .val (.ref b1), .unset, .unset, .unset, .unset, .unset] [(.int p4)])) _
    refine XS.iconst X3.here hx rfl (hb hby at_11) ?_
    show Steps p.tables e below (T3.setTop (mkF m 12 #[.val (.long q1), .second, .val (.long q2), .second, .val (.long q3), .second, .val (.int p4), .val (.ref b1), .unset, .unset, .unset, .unset, .unset] [(.int (1 : Int32)), (.int p4)])) _
    refine XS.iand X3.here hx rfl (hb hby at_12) rfl ?_
    exact k
  by_cases hc4 : (p4 &&& (1 : Int32)) = (0 : Int32)
  · have g7 : ∀ t, Steps p.tables e below (T3.setTop (mkF m 59 #[.val (.long q1), .second, .val (.long q2), .second, .val (.long q3), .second, .val (.int p4), .val (.ref b1), .val (.int (0 : Int32)), .val (.long (0 : Int64)), .second, .unset, .unset] [])) t → Steps p.tables e below (s₁.setTop (entryFrame m #[(.long q1), (.long q2), (.long q3), (.int p4)] maxLocals)) t := by
      intro t k
      refine g5 t ?_
      show Steps p.tables e below (T3.setTop (mkF m 13 #[.val (.long q1), .second, .val (.long q2), .second, .val (.long q3), .second, .val (.int p4), .val (.ref b1), .unset, .unset, .unset, .unset, .unset] [(.int (p4 &&& (1 : Int32)))])) _
      refine XS.ifYes X3.here hx rfl (pc0 := 13) (pc' := 20) rfl (hb hby at_13) rfl ((if0 _ _).trans (teq hc4).1) (by decide) (by decide) ?_
      show Steps p.tables e below (T3.setTop (mkF m 20 #[.val (.long q1), .second, .val (.long q2), .second, .val (.long q3), .second, .val (.int p4), .val (.ref b1), .unset, .unset, .unset, .unset, .unset] [])) _
      refine XS.iconst X3.here hx rfl (hb hby at_20) ?_
      show Steps p.tables e below (T3.setTop (mkF m 21 #[.val (.long q1), .second, .val (.long q2), .second, .val (.long q3), .second, .val (.int p4), .val (.ref b1), .unset, .unset, .unset, .unset, .unset] [(.int (0 : Int32))])) _
      refine XS.istore X3.here hx rfl (hb hby at_21) rfl (l' := #[.val (.long q1), .second, .val (.long q2), .second, .val (.long q3), .second, .val (.int p4), .val (.ref b1), .val (.int (0 : Int32)), .unset, .unset, .unset, .unset]) rfl ?_
      show Steps p.tables e below (T3.setTop (mkF m 23 #[.val (.long q1), .second, .val (.long q2), .second, .val (.long q3), .second, .val (.int p4), .val (.ref b1), .val (.int (0 : Int32)), .unset, .unset, .unset, .unset] [])) _
      refine XS.lconst X3.here hx rfl (hb hby at_23) ?_
      show Steps p.tables e below (T3.setTop (mkF m 24 #[.val (.long q1), .second, .val (.long q2), .second, .val (.long q3), .second, .val (.int p4), .val (.ref b1), .val (.int (0 : Int32)), .unset, .unset, .unset, .unset] [(.long (0 : Int64))])) _
      refine XS.lstore X3.here hx rfl (hb hby at_24) rfl (l' := #[.val (.long q1), .second, .val (.long q2), .second, .val (.long q3), .second, .val (.int p4), .val (.ref b1), .val (.int (0 : Int32)), .val (.long (0 : Int64)), .second, .unset, .unset]) rfl ?_
      show Steps p.tables e below (T3.setTop (mkF m 26 #[.val (.long q1), .second, .val (.long q2), .second, .val (.long q3), .second, .val (.int p4), .val (.ref b1), .val (.int (0 : Int32)), .val (.long (0 : Int64)), .second, .unset, .unset] [])) _
      refine XS.iload X3.here hx rfl (hb hby at_26) rfl ?_
      show Steps p.tables e below (T3.setTop (mkF m 28 #[.val (.long q1), .second, .val (.long q2), .second, .val (.long q3), .second, .val (.int p4), .val (.ref b1), .val (.int (0 : Int32)), .val (.long (0 : Int64)), .second, .unset, .unset] [(.int (0 : Int32))])) _
      refine XS.ifYes X3.here hx rfl (pc0 := 28) (pc' := 59) rfl (hb hby at_28) rfl ((if0 _ _).trans (teq (by decide : (0 : Int32) = (0 : Int32))).1) (by decide) (by decide) ?_
      exact k
    by_cases hc6 : q2 < (0 : Int64)
    · by_cases hc8 : q3 < (0 : Int64)
      · have o9 : Old Z n0 T3.heap := (Old.keep o2 K3 (allS gz_b1 all0))
        obtain ⟨cq10, kq10, q10a, q10b, q10c⟩ := isOf hZ rfl Ra
        obtain ⟨_, _, ⟨T10, L10, k10, n10⟩, -, X10, ⟨Lc10, hQ10, l10, y10, z10⟩, st10⟩ := X3.virtualBack hx (y := (⟨"com/example/assemble_quorum/assemblequorum/service/Round", "expired", "(J)Z"⟩ : MethodName)) (z := (⟨"com/example/assemble_quorum/assemblequorum/service/Round", "expired", "(J)Z"⟩ : MethodName)) hown (mvT hZ (hw _ (List.mem_of_getElem? (i := 51) rfl))) (mvT hZ (hw _ (List.mem_of_getElem? (i := 52) rfl))) (notFace_of_selects (args := #[]) (mvT hZ (hw _ (List.mem_of_getElem? (i := 54) rfl)))) (mvT hZ (hw _ (List.mem_of_getElem? (i := 54) rfl))) (mvT hZ (hw _ (List.mem_of_getElem? (i := 53) rfl))) (by decide) (backOf (W := 0) (rmExp l Z a0 hw [] b1 ((0 : Int64) + q2) (0 : Int64) (0 : Int32) T3.heap n0 o9 Rd (by rw [own_can, if_pos hc6])) hZ (hw _ (List.mem_of_getElem? (i := 55) rfl)) (hw _ (List.mem_of_getElem? (i := 2) rfl)) (by decide) (by decide)) q10a q10c (g := (mkF m 65 #[.val (.long q1), .second, .val (.long q2), .second, .val (.long q3), .second, .val (.int p4), .val (.ref b1), .val (.int (0 : Int32)), .val (.long (0 : Int64)), .second, .unset, .unset] [(.long ((0 : Int64) + q2)), (.ref b1)])) rfl (by rw [hml]; rfl) (Steps.refl _) (argsL := [(.long ((0 : Int64) + q2))]) (rest := []) (lenOf own_pd5 rfl) rfl (by show 2 * 0 + _ ≤ _; exact Nat.le_of_eq rfl) (hb hby at_65) (fun _ _ => ⟨rfl, rfl, (by decide : 5 + 0 ≤ _), (by decide : 28 + 0 ≤ _)⟩)
        dsimp only [Pt.U, Pt.locs, Pt.cells, Pt.slots] at X10 l10 y10 z10 st10 hQ10
        subst l10 y10 z10
        obtain ⟨rfl, Nq10, e10⟩ := hQ10
        have N10 := Fr.app N3 Nq10
        obtain ⟨cq11, kq11, q11a, q11b, q11c⟩ := isOf hZ e10 Ra
        obtain ⟨_, _, ⟨T11, L11, k11, n11⟩, -, X11, ⟨Lc11, hQ11, l11, y11, z11⟩, st11⟩ := X10.virtualBack hx (y := (⟨"com/example/assemble_quorum/assemblequorum/service/Round", "expired", "(J)Z"⟩ : MethodName)) (z := (⟨"com/example/assemble_quorum/assemblequorum/service/Round", "expired", "(J)Z"⟩ : MethodName)) hown (mvT hZ (hw _ (List.mem_of_getElem? (i := 51) rfl))) (mvT hZ (hw _ (List.mem_of_getElem? (i := 52) rfl))) (notFace_of_selects (args := #[]) (mvT hZ (hw _ (List.mem_of_getElem? (i := 54) rfl)))) (mvT hZ (hw _ (List.mem_of_getElem? (i := 54) rfl))) (mvT hZ (hw _ (List.mem_of_getElem? (i := 53) rfl))) (by decide) (backOf (W := 0) (rmExp l Z a0 hw [] b1 ((0 : Int64) + q3) (0 : Int64) (0 : Int32) T3.heap n0 o9 Rd (by rw [own_can, if_pos hc8])) hZ (hw _ (List.mem_of_getElem? (i := 55) rfl)) (hw _ (List.mem_of_getElem? (i := 2) rfl)) (by decide) (by decide)) q11a q11c (g := (mkF m 77 #[.val (.long q1), .second, .val (.long q2), .second, .val (.long q3), .second, .val (.int p4), .val (.ref b1), .val (.int (0 : Int32)), .val (.long (0 : Int64)), .second, .val (.int (0 : Int32)), .unset] [(.long ((0 : Int64) + q3)), (.ref b1)])) rfl (by rw [hml]; rfl) (Steps.refl _) (argsL := [(.long ((0 : Int64) + q3))]) (rest := []) (lenOf own_pd5 rfl) rfl (by show 2 * 0 + _ ≤ _; exact Nat.le_of_eq rfl) (hb hby at_77) (fun _ _ => ⟨rfl, e10, (by decide : 5 + 0 ≤ _), (by decide : 28 + 0 ≤ _)⟩)
        dsimp only [Pt.U, Pt.locs, Pt.cells, Pt.slots] at X11 l11 y11 z11 st11 hQ11
        subst l11 y11 z11
        obtain ⟨rfl, Nq11, e11⟩ := hQ11
        have N11 := Fr.app N10 Nq11
        have g12 : ∀ t, Steps p.tables e below (T11.setTop (mkF m 120 #[.val (.long q1), .second, .val (.long q2), .second, .val (.long q3), .second, .val (.int p4), .val (.ref b1), .val (.int (0 : Int32)), .val (.long (0 : Int64)), .second, .val (.int (0 : Int32)), .val (.int (0 : Int32))] [(.int (1 : Int32))])) t → Steps p.tables e below (s₁.setTop (entryFrame m #[(.long q1), (.long q2), (.long q3), (.int p4)] maxLocals)) t := by
          intro t k
          refine g7 t ?_
          show Steps p.tables e below (T3.setTop (mkF m 59 #[.val (.long q1), .second, .val (.long q2), .second, .val (.long q3), .second, .val (.int p4), .val (.ref b1), .val (.int (0 : Int32)), .val (.long (0 : Int64)), .second, .unset, .unset] [])) _
          refine XS.aload X3.here hx rfl (hb hby at_59) rfl rfl ?_
          show Steps p.tables e below (T3.setTop (mkF m 61 #[.val (.long q1), .second, .val (.long q2), .second, .val (.long q3), .second, .val (.int p4), .val (.ref b1), .val (.int (0 : Int32)), .val (.long (0 : Int64)), .second, .unset, .unset] [(.ref b1)])) _
          refine XS.lload X3.here hx rfl (hb hby at_61) rfl ?_
          show Steps p.tables e below (T3.setTop (mkF m 63 #[.val (.long q1), .second, .val (.long q2), .second, .val (.long q3), .second, .val (.int p4), .val (.ref b1), .val (.int (0 : Int32)), .val (.long (0 : Int64)), .second, .unset, .unset] [(.long (0 : Int64)), (.ref b1)])) _
          refine XS.lloadN X3.here hx rfl (hb hby at_63) rfl ?_
          show Steps p.tables e below (T3.setTop (mkF m 64 #[.val (.long q1), .second, .val (.long q2), .second, .val (.long q3), .second, .val (.int p4), .val (.ref b1), .val (.int (0 : Int32)), .val (.long (0 : Int64)), .second, .unset, .unset] [(.long q2), (.long (0 : Int64)), (.ref b1)])) _
          refine XS.ladd X3.here hx rfl (hb hby at_64) rfl ?_
          show Steps p.tables e below (T3.setTop (mkF m 65 #[.val (.long q1), .second, .val (.long q2), .second, .val (.long q3), .second, .val (.int p4), .val (.ref b1), .val (.int (0 : Int32)), .val (.long (0 : Int64)), .second, .unset, .unset] [(.long ((0 : Int64) + q2)), (.ref b1)])) _
          refine st10.trans ?_
          show Steps p.tables e below (T10.setTop (mkF m 68 #[.val (.long q1), .second, .val (.long q2), .second, .val (.long q3), .second, .val (.int p4), .val (.ref b1), .val (.int (0 : Int32)), .val (.long (0 : Int64)), .second, .unset, .unset] [(.int (0 : Int32))])) _
          refine XS.istore X10.here hx rfl (hb hby at_68) rfl (l' := #[.val (.long q1), .second, .val (.long q2), .second, .val (.long q3), .second, .val (.int p4), .val (.ref b1), .val (.int (0 : Int32)), .val (.long (0 : Int64)), .second, .val (.int (0 : Int32)), .unset]) rfl ?_
          show Steps p.tables e below (T10.setTop (mkF m 70 #[.val (.long q1), .second, .val (.long q2), .second, .val (.long q3), .second, .val (.int p4), .val (.ref b1), .val (.int (0 : Int32)), .val (.long (0 : Int64)), .second, .val (.int (0 : Int32)), .unset] [])) _
          refine XS.aload X10.here hx rfl (hb hby at_70) rfl rfl ?_
          show Steps p.tables e below (T10.setTop (mkF m 72 #[.val (.long q1), .second, .val (.long q2), .second, .val (.long q3), .second, .val (.int p4), .val (.ref b1), .val (.int (0 : Int32)), .val (.long (0 : Int64)), .second, .val (.int (0 : Int32)), .unset] [(.ref b1)])) _
          refine XS.lload X10.here hx rfl (hb hby at_72) rfl ?_
          show Steps p.tables e below (T10.setTop (mkF m 74 #[.val (.long q1), .second, .val (.long q2), .second, .val (.long q3), .second, .val (.int p4), .val (.ref b1), .val (.int (0 : Int32)), .val (.long (0 : Int64)), .second, .val (.int (0 : Int32)), .unset] [(.long (0 : Int64)), (.ref b1)])) _
          refine XS.lload X10.here hx rfl (hb hby at_74) rfl ?_
          show Steps p.tables e below (T10.setTop (mkF m 76 #[.val (.long q1), .second, .val (.long q2), .second, .val (.long q3), .second, .val (.int p4), .val (.ref b1), .val (.int (0 : Int32)), .val (.long (0 : Int64)), .second, .val (.int (0 : Int32)), .unset] [(.long q3), (.long (0 : Int64)), (.ref b1)])) _
          refine XS.ladd X10.here hx rfl (hb hby at_76) rfl ?_
          show Steps p.tables e below (T10.setTop (mkF m 77 #[.val (.long q1), .second, .val (.long q2), .second, .val (.long q3), .second, .val (.int p4), .val (.ref b1), .val (.int (0 : Int32)), .val (.long (0 : Int64)), .second, .val (.int (0 : Int32)), .unset] [(.long ((0 : Int64) + q3)), (.ref b1)])) _
          refine st11.trans ?_
          show Steps p.tables e below (T11.setTop (mkF m 80 #[.val (.long q1), .second, .val (.long q2), .second, .val (.long q3), .second, .val (.int p4), .val (.ref b1), .val (.int (0 : Int32)), .val (.long (0 : Int64)), .second, .val (.int (0 : Int32)), .unset] [(.int (0 : Int32))])) _
          refine XS.istore X11.here hx rfl (hb hby at_80) rfl (l' := #[.val (.long q1), .second, .val (.long q2), .second, .val (.long q3), .second, .val (.int p4), .val (.ref b1), .val (.int (0 : Int32)), .val (.long (0 : Int64)), .second, .val (.int (0 : Int32)), .val (.int (0 : Int32))]) rfl ?_
          show Steps p.tables e below (T11.setTop (mkF m 82 #[.val (.long q1), .second, .val (.long q2), .second, .val (.long q3), .second, .val (.int p4), .val (.ref b1), .val (.int (0 : Int32)), .val (.long (0 : Int64)), .second, .val (.int (0 : Int32)), .val (.int (0 : Int32))] [])) _
          refine XS.iload X11.here hx rfl (hb hby at_82) rfl ?_
          show Steps p.tables e below (T11.setTop (mkF m 84 #[.val (.long q1), .second, .val (.long q2), .second, .val (.long q3), .second, .val (.int p4), .val (.ref b1), .val (.int (0 : Int32)), .val (.long (0 : Int64)), .second, .val (.int (0 : Int32)), .val (.int (0 : Int32))] [(.int (0 : Int32))])) _
          refine XS.lloadN X11.here hx rfl (hb hby at_84) rfl ?_
          show Steps p.tables e below (T11.setTop (mkF m 85 #[.val (.long q1), .second, .val (.long q2), .second, .val (.long q3), .second, .val (.int p4), .val (.ref b1), .val (.int (0 : Int32)), .val (.long (0 : Int64)), .second, .val (.int (0 : Int32)), .val (.int (0 : Int32))] [(.long q2), (.int (0 : Int32))])) _
          refine XS.lconst X11.here hx rfl (hb hby at_85) ?_
          show Steps p.tables e below (T11.setTop (mkF m 86 #[.val (.long q1), .second, .val (.long q2), .second, .val (.long q3), .second, .val (.int p4), .val (.ref b1), .val (.int (0 : Int32)), .val (.long (0 : Int64)), .second, .val (.int (0 : Int32)), .val (.int (0 : Int32))] [(.long (0 : Int64)), (.long q2), (.int (0 : Int32))])) _
          refine XS.lcmp X11.here hx rfl (hb hby at_86) rfl ?_
          show Steps p.tables e below (T11.setTop (mkF m 87 #[.val (.long q1), .second, .val (.long q2), .second, .val (.long q3), .second, .val (.int p4), .val (.ref b1), .val (.int (0 : Int32)), .val (.long (0 : Int64)), .second, .val (.int (0 : Int32)), .val (.int (0 : Int32))] [(.int (lcmpW q2 (0 : Int64))), (.int (0 : Int32))])) _
          refine XS.ifYes X11.here hx rfl (pc0 := 87) (pc' := 94) rfl (hb hby at_87) rfl ((if0 _ _).trans (tlt ((lw_lt _ _).mpr hc6)).1) (by decide) (by decide) ?_
          show Steps p.tables e below (T11.setTop (mkF m 94 #[.val (.long q1), .second, .val (.long q2), .second, .val (.long q3), .second, .val (.int p4), .val (.ref b1), .val (.int (0 : Int32)), .val (.long (0 : Int64)), .second, .val (.int (0 : Int32)), .val (.int (0 : Int32))] [(.int (0 : Int32))])) _
          refine XS.iconst X11.here hx rfl (hb hby at_94) ?_
          show Steps p.tables e below (T11.setTop (mkF m 95 #[.val (.long q1), .second, .val (.long q2), .second, .val (.long q3), .second, .val (.int p4), .val (.ref b1), .val (.int (0 : Int32)), .val (.long (0 : Int64)), .second, .val (.int (0 : Int32)), .val (.int (0 : Int32))] [(.int (0 : Int32)), (.int (0 : Int32))])) _
          refine XS.icmpNo X11.here hx rfl (hb hby at_95) rfl (teq (by decide : (0 : Int32) = (0 : Int32))).2 ?_
          show Steps p.tables e below (T11.setTop (mkF m 98 #[.val (.long q1), .second, .val (.long q2), .second, .val (.long q3), .second, .val (.int p4), .val (.ref b1), .val (.int (0 : Int32)), .val (.long (0 : Int64)), .second, .val (.int (0 : Int32)), .val (.int (0 : Int32))] [])) _
          refine XS.iload X11.here hx rfl (hb hby at_98) rfl ?_
          show Steps p.tables e below (T11.setTop (mkF m 100 #[.val (.long q1), .second, .val (.long q2), .second, .val (.long q3), .second, .val (.int p4), .val (.ref b1), .val (.int (0 : Int32)), .val (.long (0 : Int64)), .second, .val (.int (0 : Int32)), .val (.int (0 : Int32))] [(.int (0 : Int32))])) _
          refine XS.lload X11.here hx rfl (hb hby at_100) rfl ?_
          show Steps p.tables e below (T11.setTop (mkF m 102 #[.val (.long q1), .second, .val (.long q2), .second, .val (.long q3), .second, .val (.int p4), .val (.ref b1), .val (.int (0 : Int32)), .val (.long (0 : Int64)), .second, .val (.int (0 : Int32)), .val (.int (0 : Int32))] [(.long q3), (.int (0 : Int32))])) _
          refine XS.lconst X11.here hx rfl (hb hby at_102) ?_
          show Steps p.tables e below (T11.setTop (mkF m 103 #[.val (.long q1), .second, .val (.long q2), .second, .val (.long q3), .second, .val (.int p4), .val (.ref b1), .val (.int (0 : Int32)), .val (.long (0 : Int64)), .second, .val (.int (0 : Int32)), .val (.int (0 : Int32))] [(.long (0 : Int64)), (.long q3), (.int (0 : Int32))])) _
          refine XS.lcmp X11.here hx rfl (hb hby at_103) rfl ?_
          show Steps p.tables e below (T11.setTop (mkF m 104 #[.val (.long q1), .second, .val (.long q2), .second, .val (.long q3), .second, .val (.int p4), .val (.ref b1), .val (.int (0 : Int32)), .val (.long (0 : Int64)), .second, .val (.int (0 : Int32)), .val (.int (0 : Int32))] [(.int (lcmpW q3 (0 : Int64))), (.int (0 : Int32))])) _
          refine XS.ifYes X11.here hx rfl (pc0 := 104) (pc' := 111) rfl (hb hby at_104) rfl ((if0 _ _).trans (tlt ((lw_lt _ _).mpr hc8)).1) (by decide) (by decide) ?_
          show Steps p.tables e below (T11.setTop (mkF m 111 #[.val (.long q1), .second, .val (.long q2), .second, .val (.long q3), .second, .val (.int p4), .val (.ref b1), .val (.int (0 : Int32)), .val (.long (0 : Int64)), .second, .val (.int (0 : Int32)), .val (.int (0 : Int32))] [(.int (0 : Int32))])) _
          refine XS.iconst X11.here hx rfl (hb hby at_111) ?_
          show Steps p.tables e below (T11.setTop (mkF m 112 #[.val (.long q1), .second, .val (.long q2), .second, .val (.long q3), .second, .val (.int p4), .val (.ref b1), .val (.int (0 : Int32)), .val (.long (0 : Int64)), .second, .val (.int (0 : Int32)), .val (.int (0 : Int32))] [(.int (0 : Int32)), (.int (0 : Int32))])) _
          refine XS.icmpNo X11.here hx rfl (hb hby at_112) rfl (teq (by decide : (0 : Int32) = (0 : Int32))).2 ?_
          show Steps p.tables e below (T11.setTop (mkF m 115 #[.val (.long q1), .second, .val (.long q2), .second, .val (.long q3), .second, .val (.int p4), .val (.ref b1), .val (.int (0 : Int32)), .val (.long (0 : Int64)), .second, .val (.int (0 : Int32)), .val (.int (0 : Int32))] [])) _
          refine XS.iconst X11.here hx rfl (hb hby at_115) ?_
          show Steps p.tables e below (T11.setTop (mkF m 116 #[.val (.long q1), .second, .val (.long q2), .second, .val (.long q3), .second, .val (.int p4), .val (.ref b1), .val (.int (0 : Int32)), .val (.long (0 : Int64)), .second, .val (.int (0 : Int32)), .val (.int (0 : Int32))] [(.int (1 : Int32))])) _
          refine XS.goto X11.here hx rfl (pc0 := 116) (pc' := 120) rfl (hb hby at_116) (by decide) (by decide) ?_
          exact k
        obtain ⟨fs, hrt, hrun, hended, hW, hsame⟩ := X11.leave (v := some (.int (1 : Int32))) (fun h => by rw [Bd.returns] at h; cases h)
        refine ⟨_, _, g12 _ ?_, hrun, hended, _, _, rfl, ?_, ⟨_, rfl⟩, hW, hsame.mono (by decide) (by decide)⟩
        · show Steps p.tables e below (T11.setTop (mkF m 120 #[.val (.long q1), .second, .val (.long q2), .second, .val (.long q3), .second, .val (.int p4), .val (.ref b1), .val (.int (0 : Int32)), .val (.long (0 : Int64)), .second, .val (.int (0 : Int32)), .val (.int (0 : Int32))] [(.int (1 : Int32))])) _
          exact retN X11 hx (t := .boolean) Bd.returns (by simp) (hb hby at_120) hrt
        · show own_Q_rm0 Z q1 q2 q3 p4 wS wJ wH wP wF wD h0 n0 _ T11.heap _
          rw [e11]
          exact ⟨rfl, N11⟩
      · have o13 : Old Z n0 T3.heap := (Old.keep o2 K3 (allS gz_b1 all0))
        obtain ⟨cq14, kq14, q14a, q14b, q14c⟩ := isOf hZ rfl Ra
        obtain ⟨_, _, ⟨T14, L14, k14, n14⟩, -, X14, ⟨Lc14, hQ14, l14, y14, z14⟩, st14⟩ := X3.virtualBack hx (y := (⟨"com/example/assemble_quorum/assemblequorum/service/Round", "expired", "(J)Z"⟩ : MethodName)) (z := (⟨"com/example/assemble_quorum/assemblequorum/service/Round", "expired", "(J)Z"⟩ : MethodName)) hown (mvT hZ (hw _ (List.mem_of_getElem? (i := 51) rfl))) (mvT hZ (hw _ (List.mem_of_getElem? (i := 52) rfl))) (notFace_of_selects (args := #[]) (mvT hZ (hw _ (List.mem_of_getElem? (i := 54) rfl)))) (mvT hZ (hw _ (List.mem_of_getElem? (i := 54) rfl))) (mvT hZ (hw _ (List.mem_of_getElem? (i := 53) rfl))) (by decide) (backOf (W := 0) (rmExp l Z a0 hw [] b1 ((0 : Int64) + q2) (0 : Int64) (0 : Int32) T3.heap n0 o13 Rd (by rw [own_can, if_pos hc6])) hZ (hw _ (List.mem_of_getElem? (i := 55) rfl)) (hw _ (List.mem_of_getElem? (i := 2) rfl)) (by decide) (by decide)) q14a q14c (g := (mkF m 65 #[.val (.long q1), .second, .val (.long q2), .second, .val (.long q3), .second, .val (.int p4), .val (.ref b1), .val (.int (0 : Int32)), .val (.long (0 : Int64)), .second, .unset, .unset] [(.long ((0 : Int64) + q2)), (.ref b1)])) rfl (by rw [hml]; rfl) (Steps.refl _) (argsL := [(.long ((0 : Int64) + q2))]) (rest := []) (lenOf own_pd5 rfl) rfl (by show 2 * 0 + _ ≤ _; exact Nat.le_of_eq rfl) (hb hby at_65) (fun _ _ => ⟨rfl, rfl, (by decide : 5 + 0 ≤ _), (by decide : 28 + 0 ≤ _)⟩)
        dsimp only [Pt.U, Pt.locs, Pt.cells, Pt.slots] at X14 l14 y14 z14 st14 hQ14
        subst l14 y14 z14
        obtain ⟨rfl, Nq14, e14⟩ := hQ14
        have N14 := Fr.app N3 Nq14
        obtain ⟨cq15, kq15, q15a, q15b, q15c⟩ := isOf hZ e14 Ra
        obtain ⟨_, _, ⟨T15, L15, k15, n15⟩, -, X15, ⟨Lc15, hQ15, l15, y15, z15⟩, st15⟩ := X14.virtualBack hx (y := (⟨"com/example/assemble_quorum/assemblequorum/service/Round", "expired", "(J)Z"⟩ : MethodName)) (z := (⟨"com/example/assemble_quorum/assemblequorum/service/Round", "expired", "(J)Z"⟩ : MethodName)) hown (mvT hZ (hw _ (List.mem_of_getElem? (i := 51) rfl))) (mvT hZ (hw _ (List.mem_of_getElem? (i := 52) rfl))) (notFace_of_selects (args := #[]) (mvT hZ (hw _ (List.mem_of_getElem? (i := 54) rfl)))) (mvT hZ (hw _ (List.mem_of_getElem? (i := 54) rfl))) (mvT hZ (hw _ (List.mem_of_getElem? (i := 53) rfl))) (by decide) (backOf (W := 0) (rmExp l Z a0 hw [] b1 ((0 : Int64) + q3) (0 : Int64) (1 : Int32) T3.heap n0 o13 Rd (by rw [own_can, if_neg hc8])) hZ (hw _ (List.mem_of_getElem? (i := 55) rfl)) (hw _ (List.mem_of_getElem? (i := 2) rfl)) (by decide) (by decide)) q15a q15c (g := (mkF m 77 #[.val (.long q1), .second, .val (.long q2), .second, .val (.long q3), .second, .val (.int p4), .val (.ref b1), .val (.int (0 : Int32)), .val (.long (0 : Int64)), .second, .val (.int (0 : Int32)), .unset] [(.long ((0 : Int64) + q3)), (.ref b1)])) rfl (by rw [hml]; rfl) (Steps.refl _) (argsL := [(.long ((0 : Int64) + q3))]) (rest := []) (lenOf own_pd5 rfl) rfl (by show 2 * 0 + _ ≤ _; exact Nat.le_of_eq rfl) (hb hby at_77) (fun _ _ => ⟨rfl, e14, (by decide : 5 + 0 ≤ _), (by decide : 28 + 0 ≤ _)⟩)
        dsimp only [Pt.U, Pt.locs, Pt.cells, Pt.slots] at X15 l15 y15 z15 st15 hQ15
        subst l15 y15 z15
        obtain ⟨rfl, Nq15, e15⟩ := hQ15
        have N15 := Fr.app N14 Nq15
        have g16 : ∀ t, Steps p.tables e below (T15.setTop (mkF m 120 #[.val (.long q1), .second, .val (.long q2), .second, .val (.long q3), .second, .val (.int p4), .val (.ref b1), .val (.int (0 : Int32)), .val (.long (0 : Int64)), .second, .val (.int (0 : Int32)), .val (.int (1 : Int32))] [(.int (1 : Int32))])) t → Steps p.tables e below (s₁.setTop (entryFrame m #[(.long q1), (.long q2), (.long q3), (.int p4)] maxLocals)) t := by
          intro t k
          refine g7 t ?_
          show Steps p.tables e below (T3.setTop (mkF m 59 #[.val (.long q1), .second, .val (.long q2), .second, .val (.long q3), .second, .val (.int p4), .val (.ref b1), .val (.int (0 : Int32)), .val (.long (0 : Int64)), .second, .unset, .unset] [])) _
          refine XS.aload X3.here hx rfl (hb hby at_59) rfl rfl ?_
          show Steps p.tables e below (T3.setTop (mkF m 61 #[.val (.long q1), .second, .val (.long q2), .second, .val (.long q3), .second, .val (.int p4), .val (.ref b1), .val (.int (0 : Int32)), .val (.long (0 : Int64)), .second, .unset, .unset] [(.ref b1)])) _
          refine XS.lload X3.here hx rfl (hb hby at_61) rfl ?_
          show Steps p.tables e below (T3.setTop (mkF m 63 #[.val (.long q1), .second, .val (.long q2), .second, .val (.long q3), .second, .val (.int p4), .val (.ref b1), .val (.int (0 : Int32)), .val (.long (0 : Int64)), .second, .unset, .unset] [(.long (0 : Int64)), (.ref b1)])) _
          refine XS.lloadN X3.here hx rfl (hb hby at_63) rfl ?_
          show Steps p.tables e below (T3.setTop (mkF m 64 #[.val (.long q1), .second, .val (.long q2), .second, .val (.long q3), .second, .val (.int p4), .val (.ref b1), .val (.int (0 : Int32)), .val (.long (0 : Int64)), .second, .unset, .unset] [(.long q2), (.long (0 : Int64)), (.ref b1)])) _
          refine XS.ladd X3.here hx rfl (hb hby at_64) rfl ?_
          show Steps p.tables e below (T3.setTop (mkF m 65 #[.val (.long q1), .second, .val (.long q2), .second, .val (.long q3), .second, .val (.int p4), .val (.ref b1), .val (.int (0 : Int32)), .val (.long (0 : Int64)), .second, .unset, .unset] [(.long ((0 : Int64) + q2)), (.ref b1)])) _
          refine st14.trans ?_
          show Steps p.tables e below (T14.setTop (mkF m 68 #[.val (.long q1), .second, .val (.long q2), .second, .val (.long q3), .second, .val (.int p4), .val (.ref b1), .val (.int (0 : Int32)), .val (.long (0 : Int64)), .second, .unset, .unset] [(.int (0 : Int32))])) _
          refine XS.istore X14.here hx rfl (hb hby at_68) rfl (l' := #[.val (.long q1), .second, .val (.long q2), .second, .val (.long q3), .second, .val (.int p4), .val (.ref b1), .val (.int (0 : Int32)), .val (.long (0 : Int64)), .second, .val (.int (0 : Int32)), .unset]) rfl ?_
          show Steps p.tables e below (T14.setTop (mkF m 70 #[.val (.long q1), .second, .val (.long q2), .second, .val (.long q3), .second, .val (.int p4), .val (.ref b1), .val (.int (0 : Int32)), .val (.long (0 : Int64)), .second, .val (.int (0 : Int32)), .unset] [])) _
          refine XS.aload X14.here hx rfl (hb hby at_70) rfl rfl ?_
          show Steps p.tables e below (T14.setTop (mkF m 72 #[.val (.long q1), .second, .val (.long q2), .second, .val (.long q3), .second, .val (.int p4), .val (.ref b1), .val (.int (0 : Int32)), .val (.long (0 : Int64)), .second, .val (.int (0 : Int32)), .unset] [(.ref b1)])) _
          refine XS.lload X14.here hx rfl (hb hby at_72) rfl ?_
          show Steps p.tables e below (T14.setTop (mkF m 74 #[.val (.long q1), .second, .val (.long q2), .second, .val (.long q3), .second, .val (.int p4), .val (.ref b1), .val (.int (0 : Int32)), .val (.long (0 : Int64)), .second, .val (.int (0 : Int32)), .unset] [(.long (0 : Int64)), (.ref b1)])) _
          refine XS.lload X14.here hx rfl (hb hby at_74) rfl ?_
          show Steps p.tables e below (T14.setTop (mkF m 76 #[.val (.long q1), .second, .val (.long q2), .second, .val (.long q3), .second, .val (.int p4), .val (.ref b1), .val (.int (0 : Int32)), .val (.long (0 : Int64)), .second, .val (.int (0 : Int32)), .unset] [(.long q3), (.long (0 : Int64)), (.ref b1)])) _
          refine XS.ladd X14.here hx rfl (hb hby at_76) rfl ?_
          show Steps p.tables e below (T14.setTop (mkF m 77 #[.val (.long q1), .second, .val (.long q2), .second, .val (.long q3), .second, .val (.int p4), .val (.ref b1), .val (.int (0 : Int32)), .val (.long (0 : Int64)), .second, .val (.int (0 : Int32)), .unset] [(.long ((0 : Int64) + q3)), (.ref b1)])) _
          refine st15.trans ?_
          show Steps p.tables e below (T15.setTop (mkF m 80 #[.val (.long q1), .second, .val (.long q2), .second, .val (.long q3), .second, .val (.int p4), .val (.ref b1), .val (.int (0 : Int32)), .val (.long (0 : Int64)), .second, .val (.int (0 : Int32)), .unset] [(.int (1 : Int32))])) _
          refine XS.istore X15.here hx rfl (hb hby at_80) rfl (l' := #[.val (.long q1), .second, .val (.long q2), .second, .val (.long q3), .second, .val (.int p4), .val (.ref b1), .val (.int (0 : Int32)), .val (.long (0 : Int64)), .second, .val (.int (0 : Int32)), .val (.int (1 : Int32))]) rfl ?_
          show Steps p.tables e below (T15.setTop (mkF m 82 #[.val (.long q1), .second, .val (.long q2), .second, .val (.long q3), .second, .val (.int p4), .val (.ref b1), .val (.int (0 : Int32)), .val (.long (0 : Int64)), .second, .val (.int (0 : Int32)), .val (.int (1 : Int32))] [])) _
          refine XS.iload X15.here hx rfl (hb hby at_82) rfl ?_
          show Steps p.tables e below (T15.setTop (mkF m 84 #[.val (.long q1), .second, .val (.long q2), .second, .val (.long q3), .second, .val (.int p4), .val (.ref b1), .val (.int (0 : Int32)), .val (.long (0 : Int64)), .second, .val (.int (0 : Int32)), .val (.int (1 : Int32))] [(.int (0 : Int32))])) _
          refine XS.lloadN X15.here hx rfl (hb hby at_84) rfl ?_
          show Steps p.tables e below (T15.setTop (mkF m 85 #[.val (.long q1), .second, .val (.long q2), .second, .val (.long q3), .second, .val (.int p4), .val (.ref b1), .val (.int (0 : Int32)), .val (.long (0 : Int64)), .second, .val (.int (0 : Int32)), .val (.int (1 : Int32))] [(.long q2), (.int (0 : Int32))])) _
          refine XS.lconst X15.here hx rfl (hb hby at_85) ?_
          show Steps p.tables e below (T15.setTop (mkF m 86 #[.val (.long q1), .second, .val (.long q2), .second, .val (.long q3), .second, .val (.int p4), .val (.ref b1), .val (.int (0 : Int32)), .val (.long (0 : Int64)), .second, .val (.int (0 : Int32)), .val (.int (1 : Int32))] [(.long (0 : Int64)), (.long q2), (.int (0 : Int32))])) _
          refine XS.lcmp X15.here hx rfl (hb hby at_86) rfl ?_
          show Steps p.tables e below (T15.setTop (mkF m 87 #[.val (.long q1), .second, .val (.long q2), .second, .val (.long q3), .second, .val (.int p4), .val (.ref b1), .val (.int (0 : Int32)), .val (.long (0 : Int64)), .second, .val (.int (0 : Int32)), .val (.int (1 : Int32))] [(.int (lcmpW q2 (0 : Int64))), (.int (0 : Int32))])) _
          refine XS.ifYes X15.here hx rfl (pc0 := 87) (pc' := 94) rfl (hb hby at_87) rfl ((if0 _ _).trans (tlt ((lw_lt _ _).mpr hc6)).1) (by decide) (by decide) ?_
          show Steps p.tables e below (T15.setTop (mkF m 94 #[.val (.long q1), .second, .val (.long q2), .second, .val (.long q3), .second, .val (.int p4), .val (.ref b1), .val (.int (0 : Int32)), .val (.long (0 : Int64)), .second, .val (.int (0 : Int32)), .val (.int (1 : Int32))] [(.int (0 : Int32))])) _
          refine XS.iconst X15.here hx rfl (hb hby at_94) ?_
          show Steps p.tables e below (T15.setTop (mkF m 95 #[.val (.long q1), .second, .val (.long q2), .second, .val (.long q3), .second, .val (.int p4), .val (.ref b1), .val (.int (0 : Int32)), .val (.long (0 : Int64)), .second, .val (.int (0 : Int32)), .val (.int (1 : Int32))] [(.int (0 : Int32)), (.int (0 : Int32))])) _
          refine XS.icmpNo X15.here hx rfl (hb hby at_95) rfl (teq (by decide : (0 : Int32) = (0 : Int32))).2 ?_
          show Steps p.tables e below (T15.setTop (mkF m 98 #[.val (.long q1), .second, .val (.long q2), .second, .val (.long q3), .second, .val (.int p4), .val (.ref b1), .val (.int (0 : Int32)), .val (.long (0 : Int64)), .second, .val (.int (0 : Int32)), .val (.int (1 : Int32))] [])) _
          refine XS.iload X15.here hx rfl (hb hby at_98) rfl ?_
          show Steps p.tables e below (T15.setTop (mkF m 100 #[.val (.long q1), .second, .val (.long q2), .second, .val (.long q3), .second, .val (.int p4), .val (.ref b1), .val (.int (0 : Int32)), .val (.long (0 : Int64)), .second, .val (.int (0 : Int32)), .val (.int (1 : Int32))] [(.int (1 : Int32))])) _
          refine XS.lload X15.here hx rfl (hb hby at_100) rfl ?_
          show Steps p.tables e below (T15.setTop (mkF m 102 #[.val (.long q1), .second, .val (.long q2), .second, .val (.long q3), .second, .val (.int p4), .val (.ref b1), .val (.int (0 : Int32)), .val (.long (0 : Int64)), .second, .val (.int (0 : Int32)), .val (.int (1 : Int32))] [(.long q3), (.int (1 : Int32))])) _
          refine XS.lconst X15.here hx rfl (hb hby at_102) ?_
          show Steps p.tables e below (T15.setTop (mkF m 103 #[.val (.long q1), .second, .val (.long q2), .second, .val (.long q3), .second, .val (.int p4), .val (.ref b1), .val (.int (0 : Int32)), .val (.long (0 : Int64)), .second, .val (.int (0 : Int32)), .val (.int (1 : Int32))] [(.long (0 : Int64)), (.long q3), (.int (1 : Int32))])) _
          refine XS.lcmp X15.here hx rfl (hb hby at_103) rfl ?_
          show Steps p.tables e below (T15.setTop (mkF m 104 #[.val (.long q1), .second, .val (.long q2), .second, .val (.long q3), .second, .val (.int p4), .val (.ref b1), .val (.int (0 : Int32)), .val (.long (0 : Int64)), .second, .val (.int (0 : Int32)), .val (.int (1 : Int32))] [(.int (lcmpW q3 (0 : Int64))), (.int (1 : Int32))])) _
          refine XS.ifNo X15.here hx rfl (hb hby at_104) rfl ((if0 _ _).trans (flt (fun q => hc8 ((lw_lt _ _).mp q))).1) ?_
          show Steps p.tables e below (T15.setTop (mkF m 107 #[.val (.long q1), .second, .val (.long q2), .second, .val (.long q3), .second, .val (.int p4), .val (.ref b1), .val (.int (0 : Int32)), .val (.long (0 : Int64)), .second, .val (.int (0 : Int32)), .val (.int (1 : Int32))] [(.int (1 : Int32))])) _
          refine XS.iconst X15.here hx rfl (hb hby at_107) ?_
          show Steps p.tables e below (T15.setTop (mkF m 108 #[.val (.long q1), .second, .val (.long q2), .second, .val (.long q3), .second, .val (.int p4), .val (.ref b1), .val (.int (0 : Int32)), .val (.long (0 : Int64)), .second, .val (.int (0 : Int32)), .val (.int (1 : Int32))] [(.int (1 : Int32)), (.int (1 : Int32))])) _
          refine XS.goto X15.here hx rfl (pc0 := 108) (pc' := 112) rfl (hb hby at_108) (by decide) (by decide) ?_
          show Steps p.tables e below (T15.setTop (mkF m 112 #[.val (.long q1), .second, .val (.long q2), .second, .val (.long q3), .second, .val (.int p4), .val (.ref b1), .val (.int (0 : Int32)), .val (.long (0 : Int64)), .second, .val (.int (0 : Int32)), .val (.int (1 : Int32))] [(.int (1 : Int32)), (.int (1 : Int32))])) _
          refine XS.icmpNo X15.here hx rfl (hb hby at_112) rfl (teq (by decide : (1 : Int32) = (1 : Int32))).2 ?_
          show Steps p.tables e below (T15.setTop (mkF m 115 #[.val (.long q1), .second, .val (.long q2), .second, .val (.long q3), .second, .val (.int p4), .val (.ref b1), .val (.int (0 : Int32)), .val (.long (0 : Int64)), .second, .val (.int (0 : Int32)), .val (.int (1 : Int32))] [])) _
          refine XS.iconst X15.here hx rfl (hb hby at_115) ?_
          show Steps p.tables e below (T15.setTop (mkF m 116 #[.val (.long q1), .second, .val (.long q2), .second, .val (.long q3), .second, .val (.int p4), .val (.ref b1), .val (.int (0 : Int32)), .val (.long (0 : Int64)), .second, .val (.int (0 : Int32)), .val (.int (1 : Int32))] [(.int (1 : Int32))])) _
          refine XS.goto X15.here hx rfl (pc0 := 116) (pc' := 120) rfl (hb hby at_116) (by decide) (by decide) ?_
          exact k
        obtain ⟨fs, hrt, hrun, hended, hW, hsame⟩ := X15.leave (v := some (.int (1 : Int32))) (fun h => by rw [Bd.returns] at h; cases h)
        refine ⟨_, _, g16 _ ?_, hrun, hended, _, _, rfl, ?_, ⟨_, rfl⟩, hW, hsame.mono (by decide) (by decide)⟩
        · show Steps p.tables e below (T15.setTop (mkF m 120 #[.val (.long q1), .second, .val (.long q2), .second, .val (.long q3), .second, .val (.int p4), .val (.ref b1), .val (.int (0 : Int32)), .val (.long (0 : Int64)), .second, .val (.int (0 : Int32)), .val (.int (1 : Int32))] [(.int (1 : Int32))])) _
          exact retN X15 hx (t := .boolean) Bd.returns (by simp) (hb hby at_120) hrt
        · show own_Q_rm0 Z q1 q2 q3 p4 wS wJ wH wP wF wD h0 n0 _ T15.heap _
          rw [e15]
          exact ⟨rfl, N15⟩
    · by_cases hc17 : q3 < (0 : Int64)
      · have o18 : Old Z n0 T3.heap := (Old.keep o2 K3 (allS gz_b1 all0))
        obtain ⟨cq19, kq19, q19a, q19b, q19c⟩ := isOf hZ rfl Ra
        obtain ⟨_, _, ⟨T19, L19, k19, n19⟩, -, X19, ⟨Lc19, hQ19, l19, y19, z19⟩, st19⟩ := X3.virtualBack hx (y := (⟨"com/example/assemble_quorum/assemblequorum/service/Round", "expired", "(J)Z"⟩ : MethodName)) (z := (⟨"com/example/assemble_quorum/assemblequorum/service/Round", "expired", "(J)Z"⟩ : MethodName)) hown (mvT hZ (hw _ (List.mem_of_getElem? (i := 51) rfl))) (mvT hZ (hw _ (List.mem_of_getElem? (i := 52) rfl))) (notFace_of_selects (args := #[]) (mvT hZ (hw _ (List.mem_of_getElem? (i := 54) rfl)))) (mvT hZ (hw _ (List.mem_of_getElem? (i := 54) rfl))) (mvT hZ (hw _ (List.mem_of_getElem? (i := 53) rfl))) (by decide) (backOf (W := 0) (rmExp l Z a0 hw [] b1 ((0 : Int64) + q2) (0 : Int64) (1 : Int32) T3.heap n0 o18 Rd (by rw [own_can, if_neg hc6])) hZ (hw _ (List.mem_of_getElem? (i := 55) rfl)) (hw _ (List.mem_of_getElem? (i := 2) rfl)) (by decide) (by decide)) q19a q19c (g := (mkF m 65 #[.val (.long q1), .second, .val (.long q2), .second, .val (.long q3), .second, .val (.int p4), .val (.ref b1), .val (.int (0 : Int32)), .val (.long (0 : Int64)), .second, .unset, .unset] [(.long ((0 : Int64) + q2)), (.ref b1)])) rfl (by rw [hml]; rfl) (Steps.refl _) (argsL := [(.long ((0 : Int64) + q2))]) (rest := []) (lenOf own_pd5 rfl) rfl (by show 2 * 0 + _ ≤ _; exact Nat.le_of_eq rfl) (hb hby at_65) (fun _ _ => ⟨rfl, rfl, (by decide : 5 + 0 ≤ _), (by decide : 28 + 0 ≤ _)⟩)
        dsimp only [Pt.U, Pt.locs, Pt.cells, Pt.slots] at X19 l19 y19 z19 st19 hQ19
        subst l19 y19 z19
        obtain ⟨rfl, Nq19, e19⟩ := hQ19
        have N19 := Fr.app N3 Nq19
        obtain ⟨cq20, kq20, q20a, q20b, q20c⟩ := isOf hZ e19 Ra
        obtain ⟨_, _, ⟨T20, L20, k20, n20⟩, -, X20, ⟨Lc20, hQ20, l20, y20, z20⟩, st20⟩ := X19.virtualBack hx (y := (⟨"com/example/assemble_quorum/assemblequorum/service/Round", "expired", "(J)Z"⟩ : MethodName)) (z := (⟨"com/example/assemble_quorum/assemblequorum/service/Round", "expired", "(J)Z"⟩ : MethodName)) hown (mvT hZ (hw _ (List.mem_of_getElem? (i := 51) rfl))) (mvT hZ (hw _ (List.mem_of_getElem? (i := 52) rfl))) (notFace_of_selects (args := #[]) (mvT hZ (hw _ (List.mem_of_getElem? (i := 54) rfl)))) (mvT hZ (hw _ (List.mem_of_getElem? (i := 54) rfl))) (mvT hZ (hw _ (List.mem_of_getElem? (i := 53) rfl))) (by decide) (backOf (W := 0) (rmExp l Z a0 hw [] b1 ((0 : Int64) + q3) (0 : Int64) (0 : Int32) T3.heap n0 o18 Rd (by rw [own_can, if_pos hc17])) hZ (hw _ (List.mem_of_getElem? (i := 55) rfl)) (hw _ (List.mem_of_getElem? (i := 2) rfl)) (by decide) (by decide)) q20a q20c (g := (mkF m 77 #[.val (.long q1), .second, .val (.long q2), .second, .val (.long q3), .second, .val (.int p4), .val (.ref b1), .val (.int (0 : Int32)), .val (.long (0 : Int64)), .second, .val (.int (1 : Int32)), .unset] [(.long ((0 : Int64) + q3)), (.ref b1)])) rfl (by rw [hml]; rfl) (Steps.refl _) (argsL := [(.long ((0 : Int64) + q3))]) (rest := []) (lenOf own_pd5 rfl) rfl (by show 2 * 0 + _ ≤ _; exact Nat.le_of_eq rfl) (hb hby at_77) (fun _ _ => ⟨rfl, e19, (by decide : 5 + 0 ≤ _), (by decide : 28 + 0 ≤ _)⟩)
        dsimp only [Pt.U, Pt.locs, Pt.cells, Pt.slots] at X20 l20 y20 z20 st20 hQ20
        subst l20 y20 z20
        obtain ⟨rfl, Nq20, e20⟩ := hQ20
        have N20 := Fr.app N19 Nq20
        have g21 : ∀ t, Steps p.tables e below (T20.setTop (mkF m 120 #[.val (.long q1), .second, .val (.long q2), .second, .val (.long q3), .second, .val (.int p4), .val (.ref b1), .val (.int (0 : Int32)), .val (.long (0 : Int64)), .second, .val (.int (1 : Int32)), .val (.int (0 : Int32))] [(.int (1 : Int32))])) t → Steps p.tables e below (s₁.setTop (entryFrame m #[(.long q1), (.long q2), (.long q3), (.int p4)] maxLocals)) t := by
          intro t k
          refine g7 t ?_
          show Steps p.tables e below (T3.setTop (mkF m 59 #[.val (.long q1), .second, .val (.long q2), .second, .val (.long q3), .second, .val (.int p4), .val (.ref b1), .val (.int (0 : Int32)), .val (.long (0 : Int64)), .second, .unset, .unset] [])) _
          refine XS.aload X3.here hx rfl (hb hby at_59) rfl rfl ?_
          show Steps p.tables e below (T3.setTop (mkF m 61 #[.val (.long q1), .second, .val (.long q2), .second, .val (.long q3), .second, .val (.int p4), .val (.ref b1), .val (.int (0 : Int32)), .val (.long (0 : Int64)), .second, .unset, .unset] [(.ref b1)])) _
          refine XS.lload X3.here hx rfl (hb hby at_61) rfl ?_
          show Steps p.tables e below (T3.setTop (mkF m 63 #[.val (.long q1), .second, .val (.long q2), .second, .val (.long q3), .second, .val (.int p4), .val (.ref b1), .val (.int (0 : Int32)), .val (.long (0 : Int64)), .second, .unset, .unset] [(.long (0 : Int64)), (.ref b1)])) _
          refine XS.lloadN X3.here hx rfl (hb hby at_63) rfl ?_
          show Steps p.tables e below (T3.setTop (mkF m 64 #[.val (.long q1), .second, .val (.long q2), .second, .val (.long q3), .second, .val (.int p4), .val (.ref b1), .val (.int (0 : Int32)), .val (.long (0 : Int64)), .second, .unset, .unset] [(.long q2), (.long (0 : Int64)), (.ref b1)])) _
          refine XS.ladd X3.here hx rfl (hb hby at_64) rfl ?_
          show Steps p.tables e below (T3.setTop (mkF m 65 #[.val (.long q1), .second, .val (.long q2), .second, .val (.long q3), .second, .val (.int p4), .val (.ref b1), .val (.int (0 : Int32)), .val (.long (0 : Int64)), .second, .unset, .unset] [(.long ((0 : Int64) + q2)), (.ref b1)])) _
          refine st19.trans ?_
          show Steps p.tables e below (T19.setTop (mkF m 68 #[.val (.long q1), .second, .val (.long q2), .second, .val (.long q3), .second, .val (.int p4), .val (.ref b1), .val (.int (0 : Int32)), .val (.long (0 : Int64)), .second, .unset, .unset] [(.int (1 : Int32))])) _
          refine XS.istore X19.here hx rfl (hb hby at_68) rfl (l' := #[.val (.long q1), .second, .val (.long q2), .second, .val (.long q3), .second, .val (.int p4), .val (.ref b1), .val (.int (0 : Int32)), .val (.long (0 : Int64)), .second, .val (.int (1 : Int32)), .unset]) rfl ?_
          show Steps p.tables e below (T19.setTop (mkF m 70 #[.val (.long q1), .second, .val (.long q2), .second, .val (.long q3), .second, .val (.int p4), .val (.ref b1), .val (.int (0 : Int32)), .val (.long (0 : Int64)), .second, .val (.int (1 : Int32)), .unset] [])) _
          refine XS.aload X19.here hx rfl (hb hby at_70) rfl rfl ?_
          show Steps p.tables e below (T19.setTop (mkF m 72 #[.val (.long q1), .second, .val (.long q2), .second, .val (.long q3), .second, .val (.int p4), .val (.ref b1), .val (.int (0 : Int32)), .val (.long (0 : Int64)), .second, .val (.int (1 : Int32)), .unset] [(.ref b1)])) _
          refine XS.lload X19.here hx rfl (hb hby at_72) rfl ?_
          show Steps p.tables e below (T19.setTop (mkF m 74 #[.val (.long q1), .second, .val (.long q2), .second, .val (.long q3), .second, .val (.int p4), .val (.ref b1), .val (.int (0 : Int32)), .val (.long (0 : Int64)), .second, .val (.int (1 : Int32)), .unset] [(.long (0 : Int64)), (.ref b1)])) _
          refine XS.lload X19.here hx rfl (hb hby at_74) rfl ?_
          show Steps p.tables e below (T19.setTop (mkF m 76 #[.val (.long q1), .second, .val (.long q2), .second, .val (.long q3), .second, .val (.int p4), .val (.ref b1), .val (.int (0 : Int32)), .val (.long (0 : Int64)), .second, .val (.int (1 : Int32)), .unset] [(.long q3), (.long (0 : Int64)), (.ref b1)])) _
          refine XS.ladd X19.here hx rfl (hb hby at_76) rfl ?_
          show Steps p.tables e below (T19.setTop (mkF m 77 #[.val (.long q1), .second, .val (.long q2), .second, .val (.long q3), .second, .val (.int p4), .val (.ref b1), .val (.int (0 : Int32)), .val (.long (0 : Int64)), .second, .val (.int (1 : Int32)), .unset] [(.long ((0 : Int64) + q3)), (.ref b1)])) _
          refine st20.trans ?_
          show Steps p.tables e below (T20.setTop (mkF m 80 #[.val (.long q1), .second, .val (.long q2), .second, .val (.long q3), .second, .val (.int p4), .val (.ref b1), .val (.int (0 : Int32)), .val (.long (0 : Int64)), .second, .val (.int (1 : Int32)), .unset] [(.int (0 : Int32))])) _
          refine XS.istore X20.here hx rfl (hb hby at_80) rfl (l' := #[.val (.long q1), .second, .val (.long q2), .second, .val (.long q3), .second, .val (.int p4), .val (.ref b1), .val (.int (0 : Int32)), .val (.long (0 : Int64)), .second, .val (.int (1 : Int32)), .val (.int (0 : Int32))]) rfl ?_
          show Steps p.tables e below (T20.setTop (mkF m 82 #[.val (.long q1), .second, .val (.long q2), .second, .val (.long q3), .second, .val (.int p4), .val (.ref b1), .val (.int (0 : Int32)), .val (.long (0 : Int64)), .second, .val (.int (1 : Int32)), .val (.int (0 : Int32))] [])) _
          refine XS.iload X20.here hx rfl (hb hby at_82) rfl ?_
          show Steps p.tables e below (T20.setTop (mkF m 84 #[.val (.long q1), .second, .val (.long q2), .second, .val (.long q3), .second, .val (.int p4), .val (.ref b1), .val (.int (0 : Int32)), .val (.long (0 : Int64)), .second, .val (.int (1 : Int32)), .val (.int (0 : Int32))] [(.int (1 : Int32))])) _
          refine XS.lloadN X20.here hx rfl (hb hby at_84) rfl ?_
          show Steps p.tables e below (T20.setTop (mkF m 85 #[.val (.long q1), .second, .val (.long q2), .second, .val (.long q3), .second, .val (.int p4), .val (.ref b1), .val (.int (0 : Int32)), .val (.long (0 : Int64)), .second, .val (.int (1 : Int32)), .val (.int (0 : Int32))] [(.long q2), (.int (1 : Int32))])) _
          refine XS.lconst X20.here hx rfl (hb hby at_85) ?_
          show Steps p.tables e below (T20.setTop (mkF m 86 #[.val (.long q1), .second, .val (.long q2), .second, .val (.long q3), .second, .val (.int p4), .val (.ref b1), .val (.int (0 : Int32)), .val (.long (0 : Int64)), .second, .val (.int (1 : Int32)), .val (.int (0 : Int32))] [(.long (0 : Int64)), (.long q2), (.int (1 : Int32))])) _
          refine XS.lcmp X20.here hx rfl (hb hby at_86) rfl ?_
          show Steps p.tables e below (T20.setTop (mkF m 87 #[.val (.long q1), .second, .val (.long q2), .second, .val (.long q3), .second, .val (.int p4), .val (.ref b1), .val (.int (0 : Int32)), .val (.long (0 : Int64)), .second, .val (.int (1 : Int32)), .val (.int (0 : Int32))] [(.int (lcmpW q2 (0 : Int64))), (.int (1 : Int32))])) _
          refine XS.ifNo X20.here hx rfl (hb hby at_87) rfl ((if0 _ _).trans (flt (fun q => hc6 ((lw_lt _ _).mp q))).1) ?_
          show Steps p.tables e below (T20.setTop (mkF m 90 #[.val (.long q1), .second, .val (.long q2), .second, .val (.long q3), .second, .val (.int p4), .val (.ref b1), .val (.int (0 : Int32)), .val (.long (0 : Int64)), .second, .val (.int (1 : Int32)), .val (.int (0 : Int32))] [(.int (1 : Int32))])) _
          refine XS.iconst X20.here hx rfl (hb hby at_90) ?_
          show Steps p.tables e below (T20.setTop (mkF m 91 #[.val (.long q1), .second, .val (.long q2), .second, .val (.long q3), .second, .val (.int p4), .val (.ref b1), .val (.int (0 : Int32)), .val (.long (0 : Int64)), .second, .val (.int (1 : Int32)), .val (.int (0 : Int32))] [(.int (1 : Int32)), (.int (1 : Int32))])) _
          refine XS.goto X20.here hx rfl (pc0 := 91) (pc' := 95) rfl (hb hby at_91) (by decide) (by decide) ?_
          show Steps p.tables e below (T20.setTop (mkF m 95 #[.val (.long q1), .second, .val (.long q2), .second, .val (.long q3), .second, .val (.int p4), .val (.ref b1), .val (.int (0 : Int32)), .val (.long (0 : Int64)), .second, .val (.int (1 : Int32)), .val (.int (0 : Int32))] [(.int (1 : Int32)), (.int (1 : Int32))])) _
          refine XS.icmpNo X20.here hx rfl (hb hby at_95) rfl (teq (by decide : (1 : Int32) = (1 : Int32))).2 ?_
          show Steps p.tables e below (T20.setTop (mkF m 98 #[.val (.long q1), .second, .val (.long q2), .second, .val (.long q3), .second, .val (.int p4), .val (.ref b1), .val (.int (0 : Int32)), .val (.long (0 : Int64)), .second, .val (.int (1 : Int32)), .val (.int (0 : Int32))] [])) _
          refine XS.iload X20.here hx rfl (hb hby at_98) rfl ?_
          show Steps p.tables e below (T20.setTop (mkF m 100 #[.val (.long q1), .second, .val (.long q2), .second, .val (.long q3), .second, .val (.int p4), .val (.ref b1), .val (.int (0 : Int32)), .val (.long (0 : Int64)), .second, .val (.int (1 : Int32)), .val (.int (0 : Int32))] [(.int (0 : Int32))])) _
          refine XS.lload X20.here hx rfl (hb hby at_100) rfl ?_
          show Steps p.tables e below (T20.setTop (mkF m 102 #[.val (.long q1), .second, .val (.long q2), .second, .val (.long q3), .second, .val (.int p4), .val (.ref b1), .val (.int (0 : Int32)), .val (.long (0 : Int64)), .second, .val (.int (1 : Int32)), .val (.int (0 : Int32))] [(.long q3), (.int (0 : Int32))])) _
          refine XS.lconst X20.here hx rfl (hb hby at_102) ?_
          show Steps p.tables e below (T20.setTop (mkF m 103 #[.val (.long q1), .second, .val (.long q2), .second, .val (.long q3), .second, .val (.int p4), .val (.ref b1), .val (.int (0 : Int32)), .val (.long (0 : Int64)), .second, .val (.int (1 : Int32)), .val (.int (0 : Int32))] [(.long (0 : Int64)), (.long q3), (.int (0 : Int32))])) _
          refine XS.lcmp X20.here hx rfl (hb hby at_103) rfl ?_
          show Steps p.tables e below (T20.setTop (mkF m 104 #[.val (.long q1), .second, .val (.long q2), .second, .val (.long q3), .second, .val (.int p4), .val (.ref b1), .val (.int (0 : Int32)), .val (.long (0 : Int64)), .second, .val (.int (1 : Int32)), .val (.int (0 : Int32))] [(.int (lcmpW q3 (0 : Int64))), (.int (0 : Int32))])) _
          refine XS.ifYes X20.here hx rfl (pc0 := 104) (pc' := 111) rfl (hb hby at_104) rfl ((if0 _ _).trans (tlt ((lw_lt _ _).mpr hc17)).1) (by decide) (by decide) ?_
          show Steps p.tables e below (T20.setTop (mkF m 111 #[.val (.long q1), .second, .val (.long q2), .second, .val (.long q3), .second, .val (.int p4), .val (.ref b1), .val (.int (0 : Int32)), .val (.long (0 : Int64)), .second, .val (.int (1 : Int32)), .val (.int (0 : Int32))] [(.int (0 : Int32))])) _
          refine XS.iconst X20.here hx rfl (hb hby at_111) ?_
          show Steps p.tables e below (T20.setTop (mkF m 112 #[.val (.long q1), .second, .val (.long q2), .second, .val (.long q3), .second, .val (.int p4), .val (.ref b1), .val (.int (0 : Int32)), .val (.long (0 : Int64)), .second, .val (.int (1 : Int32)), .val (.int (0 : Int32))] [(.int (0 : Int32)), (.int (0 : Int32))])) _
          refine XS.icmpNo X20.here hx rfl (hb hby at_112) rfl (teq (by decide : (0 : Int32) = (0 : Int32))).2 ?_
          show Steps p.tables e below (T20.setTop (mkF m 115 #[.val (.long q1), .second, .val (.long q2), .second, .val (.long q3), .second, .val (.int p4), .val (.ref b1), .val (.int (0 : Int32)), .val (.long (0 : Int64)), .second, .val (.int (1 : Int32)), .val (.int (0 : Int32))] [])) _
          refine XS.iconst X20.here hx rfl (hb hby at_115) ?_
          show Steps p.tables e below (T20.setTop (mkF m 116 #[.val (.long q1), .second, .val (.long q2), .second, .val (.long q3), .second, .val (.int p4), .val (.ref b1), .val (.int (0 : Int32)), .val (.long (0 : Int64)), .second, .val (.int (1 : Int32)), .val (.int (0 : Int32))] [(.int (1 : Int32))])) _
          refine XS.goto X20.here hx rfl (pc0 := 116) (pc' := 120) rfl (hb hby at_116) (by decide) (by decide) ?_
          exact k
        obtain ⟨fs, hrt, hrun, hended, hW, hsame⟩ := X20.leave (v := some (.int (1 : Int32))) (fun h => by rw [Bd.returns] at h; cases h)
        refine ⟨_, _, g21 _ ?_, hrun, hended, _, _, rfl, ?_, ⟨_, rfl⟩, hW, hsame.mono (by decide) (by decide)⟩
        · show Steps p.tables e below (T20.setTop (mkF m 120 #[.val (.long q1), .second, .val (.long q2), .second, .val (.long q3), .second, .val (.int p4), .val (.ref b1), .val (.int (0 : Int32)), .val (.long (0 : Int64)), .second, .val (.int (1 : Int32)), .val (.int (0 : Int32))] [(.int (1 : Int32))])) _
          exact retN X20 hx (t := .boolean) Bd.returns (by simp) (hb hby at_120) hrt
        · show own_Q_rm0 Z q1 q2 q3 p4 wS wJ wH wP wF wD h0 n0 _ T20.heap _
          rw [e20]
          exact ⟨rfl, N20⟩
      · have o22 : Old Z n0 T3.heap := (Old.keep o2 K3 (allS gz_b1 all0))
        obtain ⟨cq23, kq23, q23a, q23b, q23c⟩ := isOf hZ rfl Ra
        obtain ⟨_, _, ⟨T23, L23, k23, n23⟩, -, X23, ⟨Lc23, hQ23, l23, y23, z23⟩, st23⟩ := X3.virtualBack hx (y := (⟨"com/example/assemble_quorum/assemblequorum/service/Round", "expired", "(J)Z"⟩ : MethodName)) (z := (⟨"com/example/assemble_quorum/assemblequorum/service/Round", "expired", "(J)Z"⟩ : MethodName)) hown (mvT hZ (hw _ (List.mem_of_getElem? (i := 51) rfl))) (mvT hZ (hw _ (List.mem_of_getElem? (i := 52) rfl))) (notFace_of_selects (args := #[]) (mvT hZ (hw _ (List.mem_of_getElem? (i := 54) rfl)))) (mvT hZ (hw _ (List.mem_of_getElem? (i := 54) rfl))) (mvT hZ (hw _ (List.mem_of_getElem? (i := 53) rfl))) (by decide) (backOf (W := 0) (rmExp l Z a0 hw [] b1 ((0 : Int64) + q2) (0 : Int64) (1 : Int32) T3.heap n0 o22 Rd (by rw [own_can, if_neg hc6])) hZ (hw _ (List.mem_of_getElem? (i := 55) rfl)) (hw _ (List.mem_of_getElem? (i := 2) rfl)) (by decide) (by decide)) q23a q23c (g := (mkF m 65 #[.val (.long q1), .second, .val (.long q2), .second, .val (.long q3), .second, .val (.int p4), .val (.ref b1), .val (.int (0 : Int32)), .val (.long (0 : Int64)), .second, .unset, .unset] [(.long ((0 : Int64) + q2)), (.ref b1)])) rfl (by rw [hml]; rfl) (Steps.refl _) (argsL := [(.long ((0 : Int64) + q2))]) (rest := []) (lenOf own_pd5 rfl) rfl (by show 2 * 0 + _ ≤ _; exact Nat.le_of_eq rfl) (hb hby at_65) (fun _ _ => ⟨rfl, rfl, (by decide : 5 + 0 ≤ _), (by decide : 28 + 0 ≤ _)⟩)
        dsimp only [Pt.U, Pt.locs, Pt.cells, Pt.slots] at X23 l23 y23 z23 st23 hQ23
        subst l23 y23 z23
        obtain ⟨rfl, Nq23, e23⟩ := hQ23
        have N23 := Fr.app N3 Nq23
        obtain ⟨cq24, kq24, q24a, q24b, q24c⟩ := isOf hZ e23 Ra
        obtain ⟨_, _, ⟨T24, L24, k24, n24⟩, -, X24, ⟨Lc24, hQ24, l24, y24, z24⟩, st24⟩ := X23.virtualBack hx (y := (⟨"com/example/assemble_quorum/assemblequorum/service/Round", "expired", "(J)Z"⟩ : MethodName)) (z := (⟨"com/example/assemble_quorum/assemblequorum/service/Round", "expired", "(J)Z"⟩ : MethodName)) hown (mvT hZ (hw _ (List.mem_of_getElem? (i := 51) rfl))) (mvT hZ (hw _ (List.mem_of_getElem? (i := 52) rfl))) (notFace_of_selects (args := #[]) (mvT hZ (hw _ (List.mem_of_getElem? (i := 54) rfl)))) (mvT hZ (hw _ (List.mem_of_getElem? (i := 54) rfl))) (mvT hZ (hw _ (List.mem_of_getElem? (i := 53) rfl))) (by decide) (backOf (W := 0) (rmExp l Z a0 hw [] b1 ((0 : Int64) + q3) (0 : Int64) (1 : Int32) T3.heap n0 o22 Rd (by rw [own_can, if_neg hc17])) hZ (hw _ (List.mem_of_getElem? (i := 55) rfl)) (hw _ (List.mem_of_getElem? (i := 2) rfl)) (by decide) (by decide)) q24a q24c (g := (mkF m 77 #[.val (.long q1), .second, .val (.long q2), .second, .val (.long q3), .second, .val (.int p4), .val (.ref b1), .val (.int (0 : Int32)), .val (.long (0 : Int64)), .second, .val (.int (1 : Int32)), .unset] [(.long ((0 : Int64) + q3)), (.ref b1)])) rfl (by rw [hml]; rfl) (Steps.refl _) (argsL := [(.long ((0 : Int64) + q3))]) (rest := []) (lenOf own_pd5 rfl) rfl (by show 2 * 0 + _ ≤ _; exact Nat.le_of_eq rfl) (hb hby at_77) (fun _ _ => ⟨rfl, e23, (by decide : 5 + 0 ≤ _), (by decide : 28 + 0 ≤ _)⟩)
        dsimp only [Pt.U, Pt.locs, Pt.cells, Pt.slots] at X24 l24 y24 z24 st24 hQ24
        subst l24 y24 z24
        obtain ⟨rfl, Nq24, e24⟩ := hQ24
        have N24 := Fr.app N23 Nq24
        have g25 : ∀ t, Steps p.tables e below (T24.setTop (mkF m 120 #[.val (.long q1), .second, .val (.long q2), .second, .val (.long q3), .second, .val (.int p4), .val (.ref b1), .val (.int (0 : Int32)), .val (.long (0 : Int64)), .second, .val (.int (1 : Int32)), .val (.int (1 : Int32))] [(.int (1 : Int32))])) t → Steps p.tables e below (s₁.setTop (entryFrame m #[(.long q1), (.long q2), (.long q3), (.int p4)] maxLocals)) t := by
          intro t k
          refine g7 t ?_
          show Steps p.tables e below (T3.setTop (mkF m 59 #[.val (.long q1), .second, .val (.long q2), .second, .val (.long q3), .second, .val (.int p4), .val (.ref b1), .val (.int (0 : Int32)), .val (.long (0 : Int64)), .second, .unset, .unset] [])) _
          refine XS.aload X3.here hx rfl (hb hby at_59) rfl rfl ?_
          show Steps p.tables e below (T3.setTop (mkF m 61 #[.val (.long q1), .second, .val (.long q2), .second, .val (.long q3), .second, .val (.int p4), .val (.ref b1), .val (.int (0 : Int32)), .val (.long (0 : Int64)), .second, .unset, .unset] [(.ref b1)])) _
          refine XS.lload X3.here hx rfl (hb hby at_61) rfl ?_
          show Steps p.tables e below (T3.setTop (mkF m 63 #[.val (.long q1), .second, .val (.long q2), .second, .val (.long q3), .second, .val (.int p4), .val (.ref b1), .val (.int (0 : Int32)), .val (.long (0 : Int64)), .second, .unset, .unset] [(.long (0 : Int64)), (.ref b1)])) _
          refine XS.lloadN X3.here hx rfl (hb hby at_63) rfl ?_
          show Steps p.tables e below (T3.setTop (mkF m 64 #[.val (.long q1), .second, .val (.long q2), .second, .val (.long q3), .second, .val (.int p4), .val (.ref b1), .val (.int (0 : Int32)), .val (.long (0 : Int64)), .second, .unset, .unset] [(.long q2), (.long (0 : Int64)), (.ref b1)])) _
          refine XS.ladd X3.here hx rfl (hb hby at_64) rfl ?_
          show Steps p.tables e below (T3.setTop (mkF m 65 #[.val (.long q1), .second, .val (.long q2), .second, .val (.long q3), .second, .val (.int p4), .val (.ref b1), .val (.int (0 : Int32)), .val (.long (0 : Int64)), .second, .unset, .unset] [(.long ((0 : Int64) + q2)), (.ref b1)])) _
          refine st23.trans ?_
          show Steps p.tables e below (T23.setTop (mkF m 68 #[.val (.long q1), .second, .val (.long q2), .second, .val (.long q3), .second, .val (.int p4), .val (.ref b1), .val (.int (0 : Int32)), .val (.long (0 : Int64)), .second, .unset, .unset] [(.int (1 : Int32))])) _
          refine XS.istore X23.here hx rfl (hb hby at_68) rfl (l' := #[.val (.long q1), .second, .val (.long q2), .second, .val (.long q3), .second, .val (.int p4), .val (.ref b1), .val (.int (0 : Int32)), .val (.long (0 : Int64)), .second, .val (.int (1 : Int32)), .unset]) rfl ?_
          show Steps p.tables e below (T23.setTop (mkF m 70 #[.val (.long q1), .second, .val (.long q2), .second, .val (.long q3), .second, .val (.int p4), .val (.ref b1), .val (.int (0 : Int32)), .val (.long (0 : Int64)), .second, .val (.int (1 : Int32)), .unset] [])) _
          refine XS.aload X23.here hx rfl (hb hby at_70) rfl rfl ?_
          show Steps p.tables e below (T23.setTop (mkF m 72 #[.val (.long q1), .second, .val (.long q2), .second, .val (.long q3), .second, .val (.int p4), .val (.ref b1), .val (.int (0 : Int32)), .val (.long (0 : Int64)), .second, .val (.int (1 : Int32)), .unset] [(.ref b1)])) _
          refine XS.lload X23.here hx rfl (hb hby at_72) rfl ?_
          show Steps p.tables e below (T23.setTop (mkF m 74 #[.val (.long q1), .second, .val (.long q2), .second, .val (.long q3), .second, .val (.int p4), .val (.ref b1), .val (.int (0 : Int32)), .val (.long (0 : Int64)), .second, .val (.int (1 : Int32)), .unset] [(.long (0 : Int64)), (.ref b1)])) _
          refine XS.lload X23.here hx rfl (hb hby at_74) rfl ?_
          show Steps p.tables e below (T23.setTop (mkF m 76 #[.val (.long q1), .second, .val (.long q2), .second, .val (.long q3), .second, .val (.int p4), .val (.ref b1), .val (.int (0 : Int32)), .val (.long (0 : Int64)), .second, .val (.int (1 : Int32)), .unset] [(.long q3), (.long (0 : Int64)), (.ref b1)])) _
          refine XS.ladd X23.here hx rfl (hb hby at_76) rfl ?_
          show Steps p.tables e below (T23.setTop (mkF m 77 #[.val (.long q1), .second, .val (.long q2), .second, .val (.long q3), .second, .val (.int p4), .val (.ref b1), .val (.int (0 : Int32)), .val (.long (0 : Int64)), .second, .val (.int (1 : Int32)), .unset] [(.long ((0 : Int64) + q3)), (.ref b1)])) _
          refine st24.trans ?_
          show Steps p.tables e below (T24.setTop (mkF m 80 #[.val (.long q1), .second, .val (.long q2), .second, .val (.long q3), .second, .val (.int p4), .val (.ref b1), .val (.int (0 : Int32)), .val (.long (0 : Int64)), .second, .val (.int (1 : Int32)), .unset] [(.int (1 : Int32))])) _
          refine XS.istore X24.here hx rfl (hb hby at_80) rfl (l' := #[.val (.long q1), .second, .val (.long q2), .second, .val (.long q3), .second, .val (.int p4), .val (.ref b1), .val (.int (0 : Int32)), .val (.long (0 : Int64)), .second, .val (.int (1 : Int32)), .val (.int (1 : Int32))]) rfl ?_
          show Steps p.tables e below (T24.setTop (mkF m 82 #[.val (.long q1), .second, .val (.long q2), .second, .val (.long q3), .second, .val (.int p4), .val (.ref b1), .val (.int (0 : Int32)), .val (.long (0 : Int64)), .second, .val (.int (1 : Int32)), .val (.int (1 : Int32))] [])) _
          refine XS.iload X24.here hx rfl (hb hby at_82) rfl ?_
          show Steps p.tables e below (T24.setTop (mkF m 84 #[.val (.long q1), .second, .val (.long q2), .second, .val (.long q3), .second, .val (.int p4), .val (.ref b1), .val (.int (0 : Int32)), .val (.long (0 : Int64)), .second, .val (.int (1 : Int32)), .val (.int (1 : Int32))] [(.int (1 : Int32))])) _
          refine XS.lloadN X24.here hx rfl (hb hby at_84) rfl ?_
          show Steps p.tables e below (T24.setTop (mkF m 85 #[.val (.long q1), .second, .val (.long q2), .second, .val (.long q3), .second, .val (.int p4), .val (.ref b1), .val (.int (0 : Int32)), .val (.long (0 : Int64)), .second, .val (.int (1 : Int32)), .val (.int (1 : Int32))] [(.long q2), (.int (1 : Int32))])) _
          refine XS.lconst X24.here hx rfl (hb hby at_85) ?_
          show Steps p.tables e below (T24.setTop (mkF m 86 #[.val (.long q1), .second, .val (.long q2), .second, .val (.long q3), .second, .val (.int p4), .val (.ref b1), .val (.int (0 : Int32)), .val (.long (0 : Int64)), .second, .val (.int (1 : Int32)), .val (.int (1 : Int32))] [(.long (0 : Int64)), (.long q2), (.int (1 : Int32))])) _
          refine XS.lcmp X24.here hx rfl (hb hby at_86) rfl ?_
          show Steps p.tables e below (T24.setTop (mkF m 87 #[.val (.long q1), .second, .val (.long q2), .second, .val (.long q3), .second, .val (.int p4), .val (.ref b1), .val (.int (0 : Int32)), .val (.long (0 : Int64)), .second, .val (.int (1 : Int32)), .val (.int (1 : Int32))] [(.int (lcmpW q2 (0 : Int64))), (.int (1 : Int32))])) _
          refine XS.ifNo X24.here hx rfl (hb hby at_87) rfl ((if0 _ _).trans (flt (fun q => hc6 ((lw_lt _ _).mp q))).1) ?_
          show Steps p.tables e below (T24.setTop (mkF m 90 #[.val (.long q1), .second, .val (.long q2), .second, .val (.long q3), .second, .val (.int p4), .val (.ref b1), .val (.int (0 : Int32)), .val (.long (0 : Int64)), .second, .val (.int (1 : Int32)), .val (.int (1 : Int32))] [(.int (1 : Int32))])) _
          refine XS.iconst X24.here hx rfl (hb hby at_90) ?_
          show Steps p.tables e below (T24.setTop (mkF m 91 #[.val (.long q1), .second, .val (.long q2), .second, .val (.long q3), .second, .val (.int p4), .val (.ref b1), .val (.int (0 : Int32)), .val (.long (0 : Int64)), .second, .val (.int (1 : Int32)), .val (.int (1 : Int32))] [(.int (1 : Int32)), (.int (1 : Int32))])) _
          refine XS.goto X24.here hx rfl (pc0 := 91) (pc' := 95) rfl (hb hby at_91) (by decide) (by decide) ?_
          show Steps p.tables e below (T24.setTop (mkF m 95 #[.val (.long q1), .second, .val (.long q2), .second, .val (.long q3), .second, .val (.int p4), .val (.ref b1), .val (.int (0 : Int32)), .val (.long (0 : Int64)), .second, .val (.int (1 : Int32)), .val (.int (1 : Int32))] [(.int (1 : Int32)), (.int (1 : Int32))])) _
          refine XS.icmpNo X24.here hx rfl (hb hby at_95) rfl (teq (by decide : (1 : Int32) = (1 : Int32))).2 ?_
          show Steps p.tables e below (T24.setTop (mkF m 98 #[.val (.long q1), .second, .val (.long q2), .second, .val (.long q3), .second, .val (.int p4), .val (.ref b1), .val (.int (0 : Int32)), .val (.long (0 : Int64)), .second, .val (.int (1 : Int32)), .val (.int (1 : Int32))] [])) _
          refine XS.iload X24.here hx rfl (hb hby at_98) rfl ?_
          show Steps p.tables e below (T24.setTop (mkF m 100 #[.val (.long q1), .second, .val (.long q2), .second, .val (.long q3), .second, .val (.int p4), .val (.ref b1), .val (.int (0 : Int32)), .val (.long (0 : Int64)), .second, .val (.int (1 : Int32)), .val (.int (1 : Int32))] [(.int (1 : Int32))])) _
          refine XS.lload X24.here hx rfl (hb hby at_100) rfl ?_
          show Steps p.tables e below (T24.setTop (mkF m 102 #[.val (.long q1), .second, .val (.long q2), .second, .val (.long q3), .second, .val (.int p4), .val (.ref b1), .val (.int (0 : Int32)), .val (.long (0 : Int64)), .second, .val (.int (1 : Int32)), .val (.int (1 : Int32))] [(.long q3), (.int (1 : Int32))])) _
          refine XS.lconst X24.here hx rfl (hb hby at_102) ?_
          show Steps p.tables e below (T24.setTop (mkF m 103 #[.val (.long q1), .second, .val (.long q2), .second, .val (.long q3), .second, .val (.int p4), .val (.ref b1), .val (.int (0 : Int32)), .val (.long (0 : Int64)), .second, .val (.int (1 : Int32)), .val (.int (1 : Int32))] [(.long (0 : Int64)), (.long q3), (.int (1 : Int32))])) _
          refine XS.lcmp X24.here hx rfl (hb hby at_103) rfl ?_
          show Steps p.tables e below (T24.setTop (mkF m 104 #[.val (.long q1), .second, .val (.long q2), .second, .val (.long q3), .second, .val (.int p4), .val (.ref b1), .val (.int (0 : Int32)), .val (.long (0 : Int64)), .second, .val (.int (1 : Int32)), .val (.int (1 : Int32))] [(.int (lcmpW q3 (0 : Int64))), (.int (1 : Int32))])) _
          refine XS.ifNo X24.here hx rfl (hb hby at_104) rfl ((if0 _ _).trans (flt (fun q => hc17 ((lw_lt _ _).mp q))).1) ?_
          show Steps p.tables e below (T24.setTop (mkF m 107 #[.val (.long q1), .second, .val (.long q2), .second, .val (.long q3), .second, .val (.int p4), .val (.ref b1), .val (.int (0 : Int32)), .val (.long (0 : Int64)), .second, .val (.int (1 : Int32)), .val (.int (1 : Int32))] [(.int (1 : Int32))])) _
          refine XS.iconst X24.here hx rfl (hb hby at_107) ?_
          show Steps p.tables e below (T24.setTop (mkF m 108 #[.val (.long q1), .second, .val (.long q2), .second, .val (.long q3), .second, .val (.int p4), .val (.ref b1), .val (.int (0 : Int32)), .val (.long (0 : Int64)), .second, .val (.int (1 : Int32)), .val (.int (1 : Int32))] [(.int (1 : Int32)), (.int (1 : Int32))])) _
          refine XS.goto X24.here hx rfl (pc0 := 108) (pc' := 112) rfl (hb hby at_108) (by decide) (by decide) ?_
          show Steps p.tables e below (T24.setTop (mkF m 112 #[.val (.long q1), .second, .val (.long q2), .second, .val (.long q3), .second, .val (.int p4), .val (.ref b1), .val (.int (0 : Int32)), .val (.long (0 : Int64)), .second, .val (.int (1 : Int32)), .val (.int (1 : Int32))] [(.int (1 : Int32)), (.int (1 : Int32))])) _
          refine XS.icmpNo X24.here hx rfl (hb hby at_112) rfl (teq (by decide : (1 : Int32) = (1 : Int32))).2 ?_
          show Steps p.tables e below (T24.setTop (mkF m 115 #[.val (.long q1), .second, .val (.long q2), .second, .val (.long q3), .second, .val (.int p4), .val (.ref b1), .val (.int (0 : Int32)), .val (.long (0 : Int64)), .second, .val (.int (1 : Int32)), .val (.int (1 : Int32))] [])) _
          refine XS.iconst X24.here hx rfl (hb hby at_115) ?_
          show Steps p.tables e below (T24.setTop (mkF m 116 #[.val (.long q1), .second, .val (.long q2), .second, .val (.long q3), .second, .val (.int p4), .val (.ref b1), .val (.int (0 : Int32)), .val (.long (0 : Int64)), .second, .val (.int (1 : Int32)), .val (.int (1 : Int32))] [(.int (1 : Int32))])) _
          refine XS.goto X24.here hx rfl (pc0 := 116) (pc' := 120) rfl (hb hby at_116) (by decide) (by decide) ?_
          exact k
        obtain ⟨fs, hrt, hrun, hended, hW, hsame⟩ := X24.leave (v := some (.int (1 : Int32))) (fun h => by rw [Bd.returns] at h; cases h)
        refine ⟨_, _, g25 _ ?_, hrun, hended, _, _, rfl, ?_, ⟨_, rfl⟩, hW, hsame.mono (by decide) (by decide)⟩
        · show Steps p.tables e below (T24.setTop (mkF m 120 #[.val (.long q1), .second, .val (.long q2), .second, .val (.long q3), .second, .val (.int p4), .val (.ref b1), .val (.int (0 : Int32)), .val (.long (0 : Int64)), .second, .val (.int (1 : Int32)), .val (.int (1 : Int32))] [(.int (1 : Int32))])) _
          exact retN X24 hx (t := .boolean) Bd.returns (by simp) (hb hby at_120) hrt
        · show own_Q_rm0 Z q1 q2 q3 p4 wS wJ wH wP wF wD h0 n0 _ T24.heap _
          rw [e24]
          exact ⟨rfl, N24⟩
  · obtain ⟨ph, hv_ph⟩ : ∃ z : Int32, z = ((((p4.toUInt32 >>> ((1 : Int32) &&& 31).toUInt32).toInt32) &&& (7 : Int32)) % (5 : Int32)) := ⟨_, rfl⟩
    have g26 : ∀ t, Steps p.tables e below (T3.setTop (mkF m 45 #[.val (.long q1), .second, .val (.long q2), .second, .val (.long q3), .second, .val (.int p4), .val (.ref b1), .val (.int (1 : Int32)), .val (.long q1), .second, .unset, .unset] [(.int ph), (.ref b1)])) t → Steps p.tables e below (s₁.setTop (entryFrame m #[(.long q1), (.long q2), (.long q3), (.int p4)] maxLocals)) t := by
      intro t k
      rw [hv_ph] at k
      refine g5 t ?_
      show Steps p.tables e below (T3.setTop (mkF m 13 #[.val (.long q1), .second, .val (.long q2), .second, .val (.long q3), .second, .val (.int p4), .val (.ref b1), .unset, .unset, .unset, .unset, .unset] [(.int (p4 &&& (1 : Int32)))])) _
      refine XS.ifNo X3.here hx rfl (hb hby at_13) rfl ((if0 _ _).trans (feq hc4).1) ?_
      show Steps p.tables e below (T3.setTop (mkF m 16 #[.val (.long q1), .second, .val (.long q2), .second, .val (.long q3), .second, .val (.int p4), .val (.ref b1), .unset, .unset, .unset, .unset, .unset] [])) _
      refine XS.iconst X3.here hx rfl (hb hby at_16) ?_
      show Steps p.tables e below (T3.setTop (mkF m 17 #[.val (.long q1), .second, .val (.long q2), .second, .val (.long q3), .second, .val (.int p4), .val (.ref b1), .unset, .unset, .unset, .unset, .unset] [(.int (1 : Int32))])) _
      refine XS.goto X3.here hx rfl (pc0 := 17) (pc' := 21) rfl (hb hby at_17) (by decide) (by decide) ?_
      show Steps p.tables e below (T3.setTop (mkF m 21 #[.val (.long q1), .second, .val (.long q2), .second, .val (.long q3), .second, .val (.int p4), .val (.ref b1), .unset, .unset, .unset, .unset, .unset] [(.int (1 : Int32))])) _
      refine XS.istore X3.here hx rfl (hb hby at_21) rfl (l' := #[.val (.long q1), .second, .val (.long q2), .second, .val (.long q3), .second, .val (.int p4), .val (.ref b1), .val (.int (1 : Int32)), .unset, .unset, .unset, .unset]) rfl ?_
      show Steps p.tables e below (T3.setTop (mkF m 23 #[.val (.long q1), .second, .val (.long q2), .second, .val (.long q3), .second, .val (.int p4), .val (.ref b1), .val (.int (1 : Int32)), .unset, .unset, .unset, .unset] [])) _
      refine XS.lconst X3.here hx rfl (hb hby at_23) ?_
      show Steps p.tables e below (T3.setTop (mkF m 24 #[.val (.long q1), .second, .val (.long q2), .second, .val (.long q3), .second, .val (.int p4), .val (.ref b1), .val (.int (1 : Int32)), .unset, .unset, .unset, .unset] [(.long (0 : Int64))])) _
      refine XS.lstore X3.here hx rfl (hb hby at_24) rfl (l' := #[.val (.long q1), .second, .val (.long q2), .second, .val (.long q3), .second, .val (.int p4), .val (.ref b1), .val (.int (1 : Int32)), .val (.long (0 : Int64)), .second, .unset, .unset]) rfl ?_
      show Steps p.tables e below (T3.setTop (mkF m 26 #[.val (.long q1), .second, .val (.long q2), .second, .val (.long q3), .second, .val (.int p4), .val (.ref b1), .val (.int (1 : Int32)), .val (.long (0 : Int64)), .second, .unset, .unset] [])) _
      refine XS.iload X3.here hx rfl (hb hby at_26) rfl ?_
      show Steps p.tables e below (T3.setTop (mkF m 28 #[.val (.long q1), .second, .val (.long q2), .second, .val (.long q3), .second, .val (.int p4), .val (.ref b1), .val (.int (1 : Int32)), .val (.long (0 : Int64)), .second, .unset, .unset] [(.int (1 : Int32))])) _
      refine XS.ifNo X3.here hx rfl (hb hby at_28) rfl ((if0 _ _).trans (feq (by decide : ¬ ((1 : Int32) = (0 : Int32)))).1) ?_
      show Steps p.tables e below (T3.setTop (mkF m 31 #[.val (.long q1), .second, .val (.long q2), .second, .val (.long q3), .second, .val (.int p4), .val (.ref b1), .val (.int (1 : Int32)), .val (.long (0 : Int64)), .second, .unset, .unset] [])) _
      refine XS.lloadN X3.here hx rfl (hb hby at_31) rfl ?_
      show Steps p.tables e below (T3.setTop (mkF m 32 #[.val (.long q1), .second, .val (.long q2), .second, .val (.long q3), .second, .val (.int p4), .val (.ref b1), .val (.int (1 : Int32)), .val (.long (0 : Int64)), .second, .unset, .unset] [(.long q1)])) _
      refine XS.lstore X3.here hx rfl (hb hby at_32) rfl (l' := #[.val (.long q1), .second, .val (.long q2), .second, .val (.long q3), .second, .val (.int p4), .val (.ref b1), .val (.int (1 : Int32)), .val (.long q1), .second, .unset, .unset]) rfl ?_
      show Steps p.tables e below (T3.setTop (mkF m 34 #[.val (.long q1), .second, .val (.long q2), .second, .val (.long q3), .second, .val (.int p4), .val (.ref b1), .val (.int (1 : Int32)), .val (.long q1), .second, .unset, .unset] [])) _
      refine XS.aload X3.here hx rfl (hb hby at_34) rfl rfl ?_
      show Steps p.tables e below (T3.setTop (mkF m 36 #[.val (.long q1), .second, .val (.long q2), .second, .val (.long q3), .second, .val (.int p4), .val (.ref b1), .val (.int (1 : Int32)), .val (.long q1), .second, .unset, .unset] [(.ref b1)])) _
      refine XS.iload X3.here hx rfl (hb hby at_36) rfl ?_
      show Steps p.tables e below (T3.setTop (mkF m 38 #[.val (.long q1), .second, .val (.long q2), .second, .val (.long q3), .second, .val (.int p4), .val (.ref b1), .val (.int (1 : Int32)), .val (.long q1), .second, .unset, .unset] [(.int p4), (.ref b1)])) _
      refine XS.iconst X3.here hx rfl (hb hby at_38) ?_
      show Steps p.tables e below (T3.setTop (mkF m 39 #[.val (.long q1), .second, .val (.long q2), .second, .val (.long q3), .second, .val (.int p4), .val (.ref b1), .val (.int (1 : Int32)), .val (.long q1), .second, .unset, .unset] [(.int (1 : Int32)), (.int p4), (.ref b1)])) _
      refine XS.iushr X3.here hx rfl (hb hby at_39) rfl ?_
      show Steps p.tables e below (T3.setTop (mkF m 40 #[.val (.long q1), .second, .val (.long q2), .second, .val (.long q3), .second, .val (.int p4), .val (.ref b1), .val (.int (1 : Int32)), .val (.long q1), .second, .unset, .unset] [(.int ((p4.toUInt32 >>> ((1 : Int32) &&& 31).toUInt32).toInt32)), (.ref b1)])) _
      refine XS.bipush X3.here hx rfl (hb hby at_40) ?_
      show Steps p.tables e below (T3.setTop (mkF m 42 #[.val (.long q1), .second, .val (.long q2), .second, .val (.long q3), .second, .val (.int p4), .val (.ref b1), .val (.int (1 : Int32)), .val (.long q1), .second, .unset, .unset] [(.int (7 : Int32)), (.int ((p4.toUInt32 >>> ((1 : Int32) &&& 31).toUInt32).toInt32)), (.ref b1)])) _
      refine XS.iand X3.here hx rfl (hb hby at_42) rfl ?_
      show Steps p.tables e below (T3.setTop (mkF m 43 #[.val (.long q1), .second, .val (.long q2), .second, .val (.long q3), .second, .val (.int p4), .val (.ref b1), .val (.int (1 : Int32)), .val (.long q1), .second, .unset, .unset] [(.int (((p4.toUInt32 >>> ((1 : Int32) &&& 31).toUInt32).toInt32) &&& (7 : Int32))), (.ref b1)])) _
      refine XS.iconst X3.here hx rfl (hb hby at_43) ?_
      show Steps p.tables e below (T3.setTop (mkF m 44 #[.val (.long q1), .second, .val (.long q2), .second, .val (.long q3), .second, .val (.int p4), .val (.ref b1), .val (.int (1 : Int32)), .val (.long q1), .second, .unset, .unset] [(.int (5 : Int32)), (.int (((p4.toUInt32 >>> ((1 : Int32) &&& 31).toUInt32).toInt32) &&& (7 : Int32))), (.ref b1)])) _
      refine XS.irem X3.here hx rfl (hb hby at_44) rfl (by decide) ?_
      rw [own_irem]
      exact k
    have o27 : Old Z n0 T3.heap := (Old.keep o2 K3 (allS gz_b1 all0))
    obtain ⟨rr, hrr⟩ : ∃ z : Addr, (if ph = (0 : Int32) then wS else if ph = (1 : Int32) then wJ else if ph = (2 : Int32) then wH else if ph = (3 : Int32) then wP else wF) = z := ⟨_, rfl⟩
    obtain ⟨_, _, ⟨T28, L28, k28, n28⟩, -, X28, ⟨Lc28, hQ28, l28, y28, z28⟩, st28⟩ := Jvm.LawKit.callS X3 hx (y := (⟨"com/example/assemble_quorum/assemblequorum/service/RoundExpiredPinLaw", "pick", "(I)Lcom/example/assemble_quorum/assemblequorum/service/Round$Phase;"⟩ : MethodName)) hown (mvT hZ (hw _ (List.mem_of_getElem? (i := 58) rfl))) (mvT hZ (hw _ (List.mem_of_getElem? (i := 59) rfl))) (mvT hZ (hw _ (List.mem_of_getElem? (i := 60) rfl))) (mvT hZ (hw _ (List.mem_of_getElem? (i := 61) rfl))) (by decide) (backOf (W := 1) (rmPick l Z a0 hw [] ph rr wS wJ wH wP wF wD T3.heap n0 o27 G0 hrr) hZ (hw _ (List.mem_of_getElem? (i := 61) rfl)) (hw _ (List.mem_of_getElem? (i := 60) rfl)) (by decide) (by decide)) (g := (mkF m 45 #[.val (.long q1), .second, .val (.long q2), .second, .val (.long q3), .second, .val (.int p4), .val (.ref b1), .val (.int (1 : Int32)), .val (.long q1), .second, .unset, .unset] [(.int ph), (.ref b1)])) rfl (by rw [hml]; rfl) (argsL := [(.int ph)]) (rest := [(.ref b1)]) (lenOf own_pd6 rfl) rfl (by show 2 * 0 + _ ≤ _; exact Nat.le_of_eq rfl) (hb hby at_45) (fun _ _ => ⟨rfl, rfl, (by decide : 5 + 0 ≤ _), (by decide : 28 + 0 ≤ _)⟩)
    dsimp only [Pt.U, Pt.locs, Pt.cells, Pt.slots] at X28 l28 y28 z28 st28 hQ28
    subst l28 y28 z28
    obtain ⟨rfl, Nq28, e28⟩ := hQ28
    have N28 := Fr.app N3 Nq28
    obtain ⟨T29, h29, X29, e29, E29, A29, D29, -, st29⟩ := newO X28 hx hZ hown (hw _ (List.mem_of_getElem? (i := 65) rfl)) (hw _ (List.mem_of_getElem? (i := 66) rfl)) (hw _ (List.mem_of_getElem? (i := 67) rfl)) e28 (g := (mkF m 48 #[.val (.long q1), .second, .val (.long q2), .second, .val (.long q3), .second, .val (.int p4), .val (.ref b1), .val (.int (1 : Int32)), .val (.long q1), .second, .unset, .unset] [(.ref rr), (.ref b1)])) rfl (hb hby at_48) (by decide) (by decide)
    obtain ⟨b29, q_b29⟩ : ∃ z, z = T3.heap.size := ⟨_, rfl⟩
    rw [← q_b29] at A29 D29 st29
    have sz_b29 : h0.size ≤ b29 := Nat.le_trans (Nat.le_trans E1.1 K3.1) (Nat.le_of_eq q_b29.symm)
    have gz_b29 : n0 ≤ b29 := Nat.le_trans Z0 sz_b29
    have ne_b1_b29 : b1 ≠ b29 := Nat.ne_of_lt (Nat.lt_of_lt_of_le Ra.lt (Nat.le_of_eq q_b29.symm))
    have ne_m1_b29 : m1 ≠ b29 := Nat.ne_of_lt (Nat.lt_of_lt_of_le Rj.lt (Nat.le_of_eq q_b29.symm))
    have ne_m2_b29 : m2 ≠ b29 := Nat.ne_of_lt (Nat.lt_of_lt_of_le Rm.lt (Nat.le_of_eq q_b29.symm))
    have ne_s1_b29 : s1 ≠ b29 := Nat.ne_of_lt (Nat.lt_of_lt_of_le Rf.lt (Nat.le_of_eq q_b29.symm))
    have ne_s2_b29 : s2 ≠ b29 := Nat.ne_of_lt (Nat.lt_of_lt_of_le Rh.lt (Nat.le_of_eq q_b29.symm))
    have F29_modCount : Fld Z h29 b29 "java/util/AbstractList" "modCount" "I" (.int (0 : Int32)) := D29 (Or.inl (hw _ (List.mem_of_getElem? (i := 80) rfl))) (ty := .int) (by decide)
    have F29_elementData : Fld Z h29 b29 "java/util/ArrayList" "elementData" "[Ljava/lang/Object;" .null := D29 (Or.inl (hw _ (List.mem_of_getElem? (i := 83) rfl))) (ty := (.array (.object "java/lang/Object"))) (by decide)
    have F29_size : Fld Z h29 b29 "java/util/ArrayList" "size" "I" (.int (0 : Int32)) := D29 (Or.inl (hw _ (List.mem_of_getElem? (i := 154) rfl))) (ty := .int) (by decide)
    have o30 : Old Z n0 h29 := (Old.ext o27 E29)
    obtain ⟨_, _, ⟨T31, L31, k31, n31⟩, -, X31, ⟨Lc31, hQ31, l31, y31, z31⟩, st31⟩ := X29.specialBack hx (y := (⟨"java/util/ArrayList", "<init>", "()V"⟩ : MethodName)) rfl hown (mvT hZ (hw _ (List.mem_of_getElem? (i := 68) rfl))) (mvT hZ (hw _ (List.mem_of_getElem? (i := 69) rfl))) (mvT hZ (hw _ (List.mem_of_getElem? (i := 70) rfl))) (by decide) (backOf (W := 3) (rmAL l Z a0 hw [] b29 wS wJ wH wP wF wD h29 n0 o30 G0 A29 F29_modCount F29_size F29_elementData gz_b29) hZ (hw _ (List.mem_of_getElem? (i := 70) rfl)) (hw _ (List.mem_of_getElem? (i := 67) rfl)) (by decide) (by decide)) (g := (mkF m 52 #[.val (.long q1), .second, .val (.long q2), .second, .val (.long q3), .second, .val (.int p4), .val (.ref b1), .val (.int (1 : Int32)), .val (.long q1), .second, .unset, .unset] [(.ref b29), (.ref b29), (.ref rr), (.ref b1)])) rfl (by rw [hml]; rfl) (Steps.refl _) (a := b29) (argsL := []) (rest := [(.ref b29), (.ref rr), (.ref b1)]) (lenOf own_pd0 rfl) rfl (by show 2 * 0 + _ ≤ _; exact Nat.le_of_eq rfl) (hb hby at_52) (fun _ _ => ⟨rfl, e29, (by decide : 6 + 0 ≤ _), (by decide : 31 + 0 ≤ _)⟩)
    dsimp only [Pt.U, Pt.locs, Pt.cells, Pt.slots] at X31 l31 y31 z31 st31 hQ31
    subst l31 y31 z31
    obtain ⟨rfl, Nq31, K31, Q31a, Q31b, Q31c⟩ := hQ31
    have N31 := Fr.app N28 Nq31
    have o32 : Old Z n0 T31.heap := (Old.keep o30 K31 (allS gz_b29 all0))
    have f33 := ((Ra.ext E29).keep K31)
    have f34 := ((Rb.ext E29).keep K31 (ninS ne_b1_b29 nin0))
    have f35 := ((Rc.ext E29).keep K31 (ninS ne_b1_b29 nin0))
    have f36 := ((Rd.ext E29).keep K31 (ninS ne_b1_b29 nin0))
    have f37 := ((Re.ext E29).keep K31 (ninS ne_b1_b29 nin0))
    have f38 := ((Rf.ext E29).keep K31)
    have f39 := ((Rg.ext E29).keep K31 (ninS ne_s1_b29 nin0))
    have f40 := ((Rh.ext E29).keep K31)
    have f41 := ((Ri.ext E29).keep K31 (ninS ne_s2_b29 nin0))
    have f42 := ((Rj.ext E29).keep K31)
    have f43 := ((Rk.ext E29).keep K31 (ninS ne_m1_b29 nin0))
    have f44 := ((Rl.ext E29).keep K31 (ninS ne_m1_b29 nin0))
    have f45 := ((Rm.ext E29).keep K31)
    have f46 := ((Rn.ext E29).keep K31 (ninS ne_m2_b29 nin0))
    have f47 := ((Ro.ext E29).keep K31 (ninS ne_m2_b29 nin0))
    obtain ⟨cq48, kq48, q48a, q48b, q48c⟩ := isOf hZ rfl f33
    obtain ⟨_, _, ⟨T48, L48, k48, n48⟩, -, X48, ⟨Lc48, hQ48, l48, y48, z48⟩, st48⟩ := X31.virtualBack hx (y := (⟨"com/example/assemble_quorum/assemblequorum/service/Round", "enter", "(Lcom/example/assemble_quorum/assemblequorum/service/Round$Phase;Ljava/util/Collection;J)V"⟩ : MethodName)) (z := (⟨"com/example/assemble_quorum/assemblequorum/service/Round", "enter", "(Lcom/example/assemble_quorum/assemblequorum/service/Round$Phase;Ljava/util/Collection;J)V"⟩ : MethodName)) hown (mvT hZ (hw _ (List.mem_of_getElem? (i := 84) rfl))) (mvT hZ (hw _ (List.mem_of_getElem? (i := 85) rfl))) (notFace_of_selects (args := #[]) (mvT hZ (hw _ (List.mem_of_getElem? (i := 87) rfl)))) (mvT hZ (hw _ (List.mem_of_getElem? (i := 87) rfl))) (mvT hZ (hw _ (List.mem_of_getElem? (i := 86) rfl))) (by decide) (backOf (W := 0) (rmEnt l Z a0 hw [] b1 rr b29 q1 s1 s2 m1 m2 _ _ T31.heap n0 o32 f33 f34 f35 f36 f37 f38 f39 f40 f41 f42 f43 f44 f45 f46 f47 Q31a Q31b Q31c gz_b1 gz_m1 gz_m2 hm12) hZ (hw _ (List.mem_of_getElem? (i := 88) rfl)) (hw _ (List.mem_of_getElem? (i := 2) rfl)) (by decide) (by decide)) q48a q48c (g := (mkF m 56 #[.val (.long q1), .second, .val (.long q2), .second, .val (.long q3), .second, .val (.int p4), .val (.ref b1), .val (.int (1 : Int32)), .val (.long q1), .second, .unset, .unset] [(.long q1), (.ref b29), (.ref rr), (.ref b1)])) rfl (by rw [hml]; rfl) (Steps.refl _) (argsL := [(.ref rr), (.ref b29), (.long q1)]) (rest := []) (lenOf own_pd7 rfl) rfl (by show 2 * 0 + _ ≤ _; exact Nat.le_of_eq rfl) (hb hby at_56) (fun _ _ => ⟨rfl, rfl, (by decide : 6 + 1 ≤ _), (by decide : 31 + 4 ≤ _)⟩)
    dsimp only [Pt.U, Pt.locs, Pt.cells, Pt.slots] at X48 l48 y48 z48 st48 hQ48
    subst l48 y48 z48
    obtain ⟨rfl, Nq48, K48, Q48a, Q48b⟩ := hQ48
    have N48 := Fr.app N31 Nq48
    have g50 : ∀ t, Steps p.tables e below (T48.setTop (mkF m 59 #[.val (.long q1), .second, .val (.long q2), .second, .val (.long q3), .second, .val (.int p4), .val (.ref b1), .val (.int (1 : Int32)), .val (.long q1), .second, .unset, .unset] [])) t → Steps p.tables e below (s₁.setTop (entryFrame m #[(.long q1), (.long q2), (.long q3), (.int p4)] maxLocals)) t := by
      intro t k
      refine g26 t ?_
      show Steps p.tables e below (T3.setTop (mkF m 45 #[.val (.long q1), .second, .val (.long q2), .second, .val (.long q3), .second, .val (.int p4), .val (.ref b1), .val (.int (1 : Int32)), .val (.long q1), .second, .unset, .unset] [(.int ph), (.ref b1)])) _
      refine st28 _ ?_
      show Steps p.tables e below (T28.setTop (mkF m 48 #[.val (.long q1), .second, .val (.long q2), .second, .val (.long q3), .second, .val (.int p4), .val (.ref b1), .val (.int (1 : Int32)), .val (.long q1), .second, .unset, .unset] [(.ref rr), (.ref b1)])) _
      refine st29 _ ?_
      show Steps p.tables e below (T29.setTop (mkF m 51 #[.val (.long q1), .second, .val (.long q2), .second, .val (.long q3), .second, .val (.int p4), .val (.ref b1), .val (.int (1 : Int32)), .val (.long q1), .second, .unset, .unset] [(.ref b29), (.ref rr), (.ref b1)])) _
      refine XS.dup X29.here hx rfl (hb hby at_51) rfl rfl ?_
      show Steps p.tables e below (T29.setTop (mkF m 52 #[.val (.long q1), .second, .val (.long q2), .second, .val (.long q3), .second, .val (.int p4), .val (.ref b1), .val (.int (1 : Int32)), .val (.long q1), .second, .unset, .unset] [(.ref b29), (.ref b29), (.ref rr), (.ref b1)])) _
      refine st31.trans ?_
      show Steps p.tables e below (T31.setTop (mkF m 55 #[.val (.long q1), .second, .val (.long q2), .second, .val (.long q3), .second, .val (.int p4), .val (.ref b1), .val (.int (1 : Int32)), .val (.long q1), .second, .unset, .unset] [(.ref b29), (.ref rr), (.ref b1)])) _
      refine XS.lloadN X31.here hx rfl (hb hby at_55) rfl ?_
      show Steps p.tables e below (T31.setTop (mkF m 56 #[.val (.long q1), .second, .val (.long q2), .second, .val (.long q3), .second, .val (.int p4), .val (.ref b1), .val (.int (1 : Int32)), .val (.long q1), .second, .unset, .unset] [(.long q1), (.ref b29), (.ref rr), (.ref b1)])) _
      refine st48.trans ?_
      exact k
    by_cases hc49 : q2 < (0 : Int64)
    · by_cases hc51 : q3 < (0 : Int64)
      · have o52 : Old Z n0 T48.heap := (Old.keep o32 K48 (allS gz_b1 (allS gz_m1 (allS gz_m2 all0))))
        obtain ⟨cq53, kq53, q53a, q53b, q53c⟩ := isOf hZ rfl Q48a
        obtain ⟨_, _, ⟨T53, L53, k53, n53⟩, -, X53, ⟨Lc53, hQ53, l53, y53, z53⟩, st53⟩ := X48.virtualBack hx (y := (⟨"com/example/assemble_quorum/assemblequorum/service/Round", "expired", "(J)Z"⟩ : MethodName)) (z := (⟨"com/example/assemble_quorum/assemblequorum/service/Round", "expired", "(J)Z"⟩ : MethodName)) hown (mvT hZ (hw _ (List.mem_of_getElem? (i := 51) rfl))) (mvT hZ (hw _ (List.mem_of_getElem? (i := 52) rfl))) (notFace_of_selects (args := #[]) (mvT hZ (hw _ (List.mem_of_getElem? (i := 54) rfl)))) (mvT hZ (hw _ (List.mem_of_getElem? (i := 54) rfl))) (mvT hZ (hw _ (List.mem_of_getElem? (i := 53) rfl))) (by decide) (backOf (W := 0) (rmExp l Z a0 hw [] b1 (q1 + q2) q1 (0 : Int32) T48.heap n0 o52 Q48b (by rw [own_can, if_pos hc49])) hZ (hw _ (List.mem_of_getElem? (i := 55) rfl)) (hw _ (List.mem_of_getElem? (i := 2) rfl)) (by decide) (by decide)) q53a q53c (g := (mkF m 65 #[.val (.long q1), .second, .val (.long q2), .second, .val (.long q3), .second, .val (.int p4), .val (.ref b1), .val (.int (1 : Int32)), .val (.long q1), .second, .unset, .unset] [(.long (q1 + q2)), (.ref b1)])) rfl (by rw [hml]; rfl) (Steps.refl _) (argsL := [(.long (q1 + q2))]) (rest := []) (lenOf own_pd5 rfl) rfl (by show 2 * 0 + _ ≤ _; exact Nat.le_of_eq rfl) (hb hby at_65) (fun _ _ => ⟨rfl, rfl, (by decide : 7 + 0 ≤ _), (by decide : 35 + 0 ≤ _)⟩)
        dsimp only [Pt.U, Pt.locs, Pt.cells, Pt.slots] at X53 l53 y53 z53 st53 hQ53
        subst l53 y53 z53
        obtain ⟨rfl, Nq53, e53⟩ := hQ53
        have N53 := Fr.app N48 Nq53
        obtain ⟨cq54, kq54, q54a, q54b, q54c⟩ := isOf hZ e53 Q48a
        obtain ⟨_, _, ⟨T54, L54, k54, n54⟩, -, X54, ⟨Lc54, hQ54, l54, y54, z54⟩, st54⟩ := X53.virtualBack hx (y := (⟨"com/example/assemble_quorum/assemblequorum/service/Round", "expired", "(J)Z"⟩ : MethodName)) (z := (⟨"com/example/assemble_quorum/assemblequorum/service/Round", "expired", "(J)Z"⟩ : MethodName)) hown (mvT hZ (hw _ (List.mem_of_getElem? (i := 51) rfl))) (mvT hZ (hw _ (List.mem_of_getElem? (i := 52) rfl))) (notFace_of_selects (args := #[]) (mvT hZ (hw _ (List.mem_of_getElem? (i := 54) rfl)))) (mvT hZ (hw _ (List.mem_of_getElem? (i := 54) rfl))) (mvT hZ (hw _ (List.mem_of_getElem? (i := 53) rfl))) (by decide) (backOf (W := 0) (rmExp l Z a0 hw [] b1 (q1 + q3) q1 (0 : Int32) T48.heap n0 o52 Q48b (by rw [own_can, if_pos hc51])) hZ (hw _ (List.mem_of_getElem? (i := 55) rfl)) (hw _ (List.mem_of_getElem? (i := 2) rfl)) (by decide) (by decide)) q54a q54c (g := (mkF m 77 #[.val (.long q1), .second, .val (.long q2), .second, .val (.long q3), .second, .val (.int p4), .val (.ref b1), .val (.int (1 : Int32)), .val (.long q1), .second, .val (.int (0 : Int32)), .unset] [(.long (q1 + q3)), (.ref b1)])) rfl (by rw [hml]; rfl) (Steps.refl _) (argsL := [(.long (q1 + q3))]) (rest := []) (lenOf own_pd5 rfl) rfl (by show 2 * 0 + _ ≤ _; exact Nat.le_of_eq rfl) (hb hby at_77) (fun _ _ => ⟨rfl, e53, (by decide : 7 + 0 ≤ _), (by decide : 35 + 0 ≤ _)⟩)
        dsimp only [Pt.U, Pt.locs, Pt.cells, Pt.slots] at X54 l54 y54 z54 st54 hQ54
        subst l54 y54 z54
        obtain ⟨rfl, Nq54, e54⟩ := hQ54
        have N54 := Fr.app N53 Nq54
        have g55 : ∀ t, Steps p.tables e below (T54.setTop (mkF m 120 #[.val (.long q1), .second, .val (.long q2), .second, .val (.long q3), .second, .val (.int p4), .val (.ref b1), .val (.int (1 : Int32)), .val (.long q1), .second, .val (.int (0 : Int32)), .val (.int (0 : Int32))] [(.int (1 : Int32))])) t → Steps p.tables e below (s₁.setTop (entryFrame m #[(.long q1), (.long q2), (.long q3), (.int p4)] maxLocals)) t := by
          intro t k
          refine g50 t ?_
          show Steps p.tables e below (T48.setTop (mkF m 59 #[.val (.long q1), .second, .val (.long q2), .second, .val (.long q3), .second, .val (.int p4), .val (.ref b1), .val (.int (1 : Int32)), .val (.long q1), .second, .unset, .unset] [])) _
          refine XS.aload X48.here hx rfl (hb hby at_59) rfl rfl ?_
          show Steps p.tables e below (T48.setTop (mkF m 61 #[.val (.long q1), .second, .val (.long q2), .second, .val (.long q3), .second, .val (.int p4), .val (.ref b1), .val (.int (1 : Int32)), .val (.long q1), .second, .unset, .unset] [(.ref b1)])) _
          refine XS.lload X48.here hx rfl (hb hby at_61) rfl ?_
          show Steps p.tables e below (T48.setTop (mkF m 63 #[.val (.long q1), .second, .val (.long q2), .second, .val (.long q3), .second, .val (.int p4), .val (.ref b1), .val (.int (1 : Int32)), .val (.long q1), .second, .unset, .unset] [(.long q1), (.ref b1)])) _
          refine XS.lloadN X48.here hx rfl (hb hby at_63) rfl ?_
          show Steps p.tables e below (T48.setTop (mkF m 64 #[.val (.long q1), .second, .val (.long q2), .second, .val (.long q3), .second, .val (.int p4), .val (.ref b1), .val (.int (1 : Int32)), .val (.long q1), .second, .unset, .unset] [(.long q2), (.long q1), (.ref b1)])) _
          refine XS.ladd X48.here hx rfl (hb hby at_64) rfl ?_
          show Steps p.tables e below (T48.setTop (mkF m 65 #[.val (.long q1), .second, .val (.long q2), .second, .val (.long q3), .second, .val (.int p4), .val (.ref b1), .val (.int (1 : Int32)), .val (.long q1), .second, .unset, .unset] [(.long (q1 + q2)), (.ref b1)])) _
          refine st53.trans ?_
          show Steps p.tables e below (T53.setTop (mkF m 68 #[.val (.long q1), .second, .val (.long q2), .second, .val (.long q3), .second, .val (.int p4), .val (.ref b1), .val (.int (1 : Int32)), .val (.long q1), .second, .unset, .unset] [(.int (0 : Int32))])) _
          refine XS.istore X53.here hx rfl (hb hby at_68) rfl (l' := #[.val (.long q1), .second, .val (.long q2), .second, .val (.long q3), .second, .val (.int p4), .val (.ref b1), .val (.int (1 : Int32)), .val (.long q1), .second, .val (.int (0 : Int32)), .unset]) rfl ?_
          show Steps p.tables e below (T53.setTop (mkF m 70 #[.val (.long q1), .second, .val (.long q2), .second, .val (.long q3), .second, .val (.int p4), .val (.ref b1), .val (.int (1 : Int32)), .val (.long q1), .second, .val (.int (0 : Int32)), .unset] [])) _
          refine XS.aload X53.here hx rfl (hb hby at_70) rfl rfl ?_
          show Steps p.tables e below (T53.setTop (mkF m 72 #[.val (.long q1), .second, .val (.long q2), .second, .val (.long q3), .second, .val (.int p4), .val (.ref b1), .val (.int (1 : Int32)), .val (.long q1), .second, .val (.int (0 : Int32)), .unset] [(.ref b1)])) _
          refine XS.lload X53.here hx rfl (hb hby at_72) rfl ?_
          show Steps p.tables e below (T53.setTop (mkF m 74 #[.val (.long q1), .second, .val (.long q2), .second, .val (.long q3), .second, .val (.int p4), .val (.ref b1), .val (.int (1 : Int32)), .val (.long q1), .second, .val (.int (0 : Int32)), .unset] [(.long q1), (.ref b1)])) _
          refine XS.lload X53.here hx rfl (hb hby at_74) rfl ?_
          show Steps p.tables e below (T53.setTop (mkF m 76 #[.val (.long q1), .second, .val (.long q2), .second, .val (.long q3), .second, .val (.int p4), .val (.ref b1), .val (.int (1 : Int32)), .val (.long q1), .second, .val (.int (0 : Int32)), .unset] [(.long q3), (.long q1), (.ref b1)])) _
          refine XS.ladd X53.here hx rfl (hb hby at_76) rfl ?_
          show Steps p.tables e below (T53.setTop (mkF m 77 #[.val (.long q1), .second, .val (.long q2), .second, .val (.long q3), .second, .val (.int p4), .val (.ref b1), .val (.int (1 : Int32)), .val (.long q1), .second, .val (.int (0 : Int32)), .unset] [(.long (q1 + q3)), (.ref b1)])) _
          refine st54.trans ?_
          show Steps p.tables e below (T54.setTop (mkF m 80 #[.val (.long q1), .second, .val (.long q2), .second, .val (.long q3), .second, .val (.int p4), .val (.ref b1), .val (.int (1 : Int32)), .val (.long q1), .second, .val (.int (0 : Int32)), .unset] [(.int (0 : Int32))])) _
          refine XS.istore X54.here hx rfl (hb hby at_80) rfl (l' := #[.val (.long q1), .second, .val (.long q2), .second, .val (.long q3), .second, .val (.int p4), .val (.ref b1), .val (.int (1 : Int32)), .val (.long q1), .second, .val (.int (0 : Int32)), .val (.int (0 : Int32))]) rfl ?_
          show Steps p.tables e below (T54.setTop (mkF m 82 #[.val (.long q1), .second, .val (.long q2), .second, .val (.long q3), .second, .val (.int p4), .val (.ref b1), .val (.int (1 : Int32)), .val (.long q1), .second, .val (.int (0 : Int32)), .val (.int (0 : Int32))] [])) _
          refine XS.iload X54.here hx rfl (hb hby at_82) rfl ?_
          show Steps p.tables e below (T54.setTop (mkF m 84 #[.val (.long q1), .second, .val (.long q2), .second, .val (.long q3), .second, .val (.int p4), .val (.ref b1), .val (.int (1 : Int32)), .val (.long q1), .second, .val (.int (0 : Int32)), .val (.int (0 : Int32))] [(.int (0 : Int32))])) _
          refine XS.lloadN X54.here hx rfl (hb hby at_84) rfl ?_
          show Steps p.tables e below (T54.setTop (mkF m 85 #[.val (.long q1), .second, .val (.long q2), .second, .val (.long q3), .second, .val (.int p4), .val (.ref b1), .val (.int (1 : Int32)), .val (.long q1), .second, .val (.int (0 : Int32)), .val (.int (0 : Int32))] [(.long q2), (.int (0 : Int32))])) _
          refine XS.lconst X54.here hx rfl (hb hby at_85) ?_
          show Steps p.tables e below (T54.setTop (mkF m 86 #[.val (.long q1), .second, .val (.long q2), .second, .val (.long q3), .second, .val (.int p4), .val (.ref b1), .val (.int (1 : Int32)), .val (.long q1), .second, .val (.int (0 : Int32)), .val (.int (0 : Int32))] [(.long (0 : Int64)), (.long q2), (.int (0 : Int32))])) _
          refine XS.lcmp X54.here hx rfl (hb hby at_86) rfl ?_
          show Steps p.tables e below (T54.setTop (mkF m 87 #[.val (.long q1), .second, .val (.long q2), .second, .val (.long q3), .second, .val (.int p4), .val (.ref b1), .val (.int (1 : Int32)), .val (.long q1), .second, .val (.int (0 : Int32)), .val (.int (0 : Int32))] [(.int (lcmpW q2 (0 : Int64))), (.int (0 : Int32))])) _
          refine XS.ifYes X54.here hx rfl (pc0 := 87) (pc' := 94) rfl (hb hby at_87) rfl ((if0 _ _).trans (tlt ((lw_lt _ _).mpr hc49)).1) (by decide) (by decide) ?_
          show Steps p.tables e below (T54.setTop (mkF m 94 #[.val (.long q1), .second, .val (.long q2), .second, .val (.long q3), .second, .val (.int p4), .val (.ref b1), .val (.int (1 : Int32)), .val (.long q1), .second, .val (.int (0 : Int32)), .val (.int (0 : Int32))] [(.int (0 : Int32))])) _
          refine XS.iconst X54.here hx rfl (hb hby at_94) ?_
          show Steps p.tables e below (T54.setTop (mkF m 95 #[.val (.long q1), .second, .val (.long q2), .second, .val (.long q3), .second, .val (.int p4), .val (.ref b1), .val (.int (1 : Int32)), .val (.long q1), .second, .val (.int (0 : Int32)), .val (.int (0 : Int32))] [(.int (0 : Int32)), (.int (0 : Int32))])) _
          refine XS.icmpNo X54.here hx rfl (hb hby at_95) rfl (teq (by decide : (0 : Int32) = (0 : Int32))).2 ?_
          show Steps p.tables e below (T54.setTop (mkF m 98 #[.val (.long q1), .second, .val (.long q2), .second, .val (.long q3), .second, .val (.int p4), .val (.ref b1), .val (.int (1 : Int32)), .val (.long q1), .second, .val (.int (0 : Int32)), .val (.int (0 : Int32))] [])) _
          refine XS.iload X54.here hx rfl (hb hby at_98) rfl ?_
          show Steps p.tables e below (T54.setTop (mkF m 100 #[.val (.long q1), .second, .val (.long q2), .second, .val (.long q3), .second, .val (.int p4), .val (.ref b1), .val (.int (1 : Int32)), .val (.long q1), .second, .val (.int (0 : Int32)), .val (.int (0 : Int32))] [(.int (0 : Int32))])) _
          refine XS.lload X54.here hx rfl (hb hby at_100) rfl ?_
          show Steps p.tables e below (T54.setTop (mkF m 102 #[.val (.long q1), .second, .val (.long q2), .second, .val (.long q3), .second, .val (.int p4), .val (.ref b1), .val (.int (1 : Int32)), .val (.long q1), .second, .val (.int (0 : Int32)), .val (.int (0 : Int32))] [(.long q3), (.int (0 : Int32))])) _
          refine XS.lconst X54.here hx rfl (hb hby at_102) ?_
          show Steps p.tables e below (T54.setTop (mkF m 103 #[.val (.long q1), .second, .val (.long q2), .second, .val (.long q3), .second, .val (.int p4), .val (.ref b1), .val (.int (1 : Int32)), .val (.long q1), .second, .val (.int (0 : Int32)), .val (.int (0 : Int32))] [(.long (0 : Int64)), (.long q3), (.int (0 : Int32))])) _
          refine XS.lcmp X54.here hx rfl (hb hby at_103) rfl ?_
          show Steps p.tables e below (T54.setTop (mkF m 104 #[.val (.long q1), .second, .val (.long q2), .second, .val (.long q3), .second, .val (.int p4), .val (.ref b1), .val (.int (1 : Int32)), .val (.long q1), .second, .val (.int (0 : Int32)), .val (.int (0 : Int32))] [(.int (lcmpW q3 (0 : Int64))), (.int (0 : Int32))])) _
          refine XS.ifYes X54.here hx rfl (pc0 := 104) (pc' := 111) rfl (hb hby at_104) rfl ((if0 _ _).trans (tlt ((lw_lt _ _).mpr hc51)).1) (by decide) (by decide) ?_
          show Steps p.tables e below (T54.setTop (mkF m 111 #[.val (.long q1), .second, .val (.long q2), .second, .val (.long q3), .second, .val (.int p4), .val (.ref b1), .val (.int (1 : Int32)), .val (.long q1), .second, .val (.int (0 : Int32)), .val (.int (0 : Int32))] [(.int (0 : Int32))])) _
          refine XS.iconst X54.here hx rfl (hb hby at_111) ?_
          show Steps p.tables e below (T54.setTop (mkF m 112 #[.val (.long q1), .second, .val (.long q2), .second, .val (.long q3), .second, .val (.int p4), .val (.ref b1), .val (.int (1 : Int32)), .val (.long q1), .second, .val (.int (0 : Int32)), .val (.int (0 : Int32))] [(.int (0 : Int32)), (.int (0 : Int32))])) _
          refine XS.icmpNo X54.here hx rfl (hb hby at_112) rfl (teq (by decide : (0 : Int32) = (0 : Int32))).2 ?_
          show Steps p.tables e below (T54.setTop (mkF m 115 #[.val (.long q1), .second, .val (.long q2), .second, .val (.long q3), .second, .val (.int p4), .val (.ref b1), .val (.int (1 : Int32)), .val (.long q1), .second, .val (.int (0 : Int32)), .val (.int (0 : Int32))] [])) _
          refine XS.iconst X54.here hx rfl (hb hby at_115) ?_
          show Steps p.tables e below (T54.setTop (mkF m 116 #[.val (.long q1), .second, .val (.long q2), .second, .val (.long q3), .second, .val (.int p4), .val (.ref b1), .val (.int (1 : Int32)), .val (.long q1), .second, .val (.int (0 : Int32)), .val (.int (0 : Int32))] [(.int (1 : Int32))])) _
          refine XS.goto X54.here hx rfl (pc0 := 116) (pc' := 120) rfl (hb hby at_116) (by decide) (by decide) ?_
          exact k
        obtain ⟨fs, hrt, hrun, hended, hW, hsame⟩ := X54.leave (v := some (.int (1 : Int32))) (fun h => by rw [Bd.returns] at h; cases h)
        refine ⟨_, _, g55 _ ?_, hrun, hended, _, _, rfl, ?_, ⟨_, rfl⟩, hW, hsame.mono (by decide) (by decide)⟩
        · show Steps p.tables e below (T54.setTop (mkF m 120 #[.val (.long q1), .second, .val (.long q2), .second, .val (.long q3), .second, .val (.int p4), .val (.ref b1), .val (.int (1 : Int32)), .val (.long q1), .second, .val (.int (0 : Int32)), .val (.int (0 : Int32))] [(.int (1 : Int32))])) _
          exact retN X54 hx (t := .boolean) Bd.returns (by simp) (hb hby at_120) hrt
        · show own_Q_rm0 Z q1 q2 q3 p4 wS wJ wH wP wF wD h0 n0 _ T54.heap _
          rw [e54]
          exact ⟨rfl, N54⟩
      · have o56 : Old Z n0 T48.heap := (Old.keep o32 K48 (allS gz_b1 (allS gz_m1 (allS gz_m2 all0))))
        obtain ⟨cq57, kq57, q57a, q57b, q57c⟩ := isOf hZ rfl Q48a
        obtain ⟨_, _, ⟨T57, L57, k57, n57⟩, -, X57, ⟨Lc57, hQ57, l57, y57, z57⟩, st57⟩ := X48.virtualBack hx (y := (⟨"com/example/assemble_quorum/assemblequorum/service/Round", "expired", "(J)Z"⟩ : MethodName)) (z := (⟨"com/example/assemble_quorum/assemblequorum/service/Round", "expired", "(J)Z"⟩ : MethodName)) hown (mvT hZ (hw _ (List.mem_of_getElem? (i := 51) rfl))) (mvT hZ (hw _ (List.mem_of_getElem? (i := 52) rfl))) (notFace_of_selects (args := #[]) (mvT hZ (hw _ (List.mem_of_getElem? (i := 54) rfl)))) (mvT hZ (hw _ (List.mem_of_getElem? (i := 54) rfl))) (mvT hZ (hw _ (List.mem_of_getElem? (i := 53) rfl))) (by decide) (backOf (W := 0) (rmExp l Z a0 hw [] b1 (q1 + q2) q1 (0 : Int32) T48.heap n0 o56 Q48b (by rw [own_can, if_pos hc49])) hZ (hw _ (List.mem_of_getElem? (i := 55) rfl)) (hw _ (List.mem_of_getElem? (i := 2) rfl)) (by decide) (by decide)) q57a q57c (g := (mkF m 65 #[.val (.long q1), .second, .val (.long q2), .second, .val (.long q3), .second, .val (.int p4), .val (.ref b1), .val (.int (1 : Int32)), .val (.long q1), .second, .unset, .unset] [(.long (q1 + q2)), (.ref b1)])) rfl (by rw [hml]; rfl) (Steps.refl _) (argsL := [(.long (q1 + q2))]) (rest := []) (lenOf own_pd5 rfl) rfl (by show 2 * 0 + _ ≤ _; exact Nat.le_of_eq rfl) (hb hby at_65) (fun _ _ => ⟨rfl, rfl, (by decide : 7 + 0 ≤ _), (by decide : 35 + 0 ≤ _)⟩)
        dsimp only [Pt.U, Pt.locs, Pt.cells, Pt.slots] at X57 l57 y57 z57 st57 hQ57
        subst l57 y57 z57
        obtain ⟨rfl, Nq57, e57⟩ := hQ57
        have N57 := Fr.app N48 Nq57
        obtain ⟨cq58, kq58, q58a, q58b, q58c⟩ := isOf hZ e57 Q48a
        obtain ⟨_, _, ⟨T58, L58, k58, n58⟩, -, X58, ⟨Lc58, hQ58, l58, y58, z58⟩, st58⟩ := X57.virtualBack hx (y := (⟨"com/example/assemble_quorum/assemblequorum/service/Round", "expired", "(J)Z"⟩ : MethodName)) (z := (⟨"com/example/assemble_quorum/assemblequorum/service/Round", "expired", "(J)Z"⟩ : MethodName)) hown (mvT hZ (hw _ (List.mem_of_getElem? (i := 51) rfl))) (mvT hZ (hw _ (List.mem_of_getElem? (i := 52) rfl))) (notFace_of_selects (args := #[]) (mvT hZ (hw _ (List.mem_of_getElem? (i := 54) rfl)))) (mvT hZ (hw _ (List.mem_of_getElem? (i := 54) rfl))) (mvT hZ (hw _ (List.mem_of_getElem? (i := 53) rfl))) (by decide) (backOf (W := 0) (rmExp l Z a0 hw [] b1 (q1 + q3) q1 (1 : Int32) T48.heap n0 o56 Q48b (by rw [own_can, if_neg hc51])) hZ (hw _ (List.mem_of_getElem? (i := 55) rfl)) (hw _ (List.mem_of_getElem? (i := 2) rfl)) (by decide) (by decide)) q58a q58c (g := (mkF m 77 #[.val (.long q1), .second, .val (.long q2), .second, .val (.long q3), .second, .val (.int p4), .val (.ref b1), .val (.int (1 : Int32)), .val (.long q1), .second, .val (.int (0 : Int32)), .unset] [(.long (q1 + q3)), (.ref b1)])) rfl (by rw [hml]; rfl) (Steps.refl _) (argsL := [(.long (q1 + q3))]) (rest := []) (lenOf own_pd5 rfl) rfl (by show 2 * 0 + _ ≤ _; exact Nat.le_of_eq rfl) (hb hby at_77) (fun _ _ => ⟨rfl, e57, (by decide : 7 + 0 ≤ _), (by decide : 35 + 0 ≤ _)⟩)
        dsimp only [Pt.U, Pt.locs, Pt.cells, Pt.slots] at X58 l58 y58 z58 st58 hQ58
        subst l58 y58 z58
        obtain ⟨rfl, Nq58, e58⟩ := hQ58
        have N58 := Fr.app N57 Nq58
        have g59 : ∀ t, Steps p.tables e below (T58.setTop (mkF m 120 #[.val (.long q1), .second, .val (.long q2), .second, .val (.long q3), .second, .val (.int p4), .val (.ref b1), .val (.int (1 : Int32)), .val (.long q1), .second, .val (.int (0 : Int32)), .val (.int (1 : Int32))] [(.int (1 : Int32))])) t → Steps p.tables e below (s₁.setTop (entryFrame m #[(.long q1), (.long q2), (.long q3), (.int p4)] maxLocals)) t := by
          intro t k
          refine g50 t ?_
          show Steps p.tables e below (T48.setTop (mkF m 59 #[.val (.long q1), .second, .val (.long q2), .second, .val (.long q3), .second, .val (.int p4), .val (.ref b1), .val (.int (1 : Int32)), .val (.long q1), .second, .unset, .unset] [])) _
          refine XS.aload X48.here hx rfl (hb hby at_59) rfl rfl ?_
          show Steps p.tables e below (T48.setTop (mkF m 61 #[.val (.long q1), .second, .val (.long q2), .second, .val (.long q3), .second, .val (.int p4), .val (.ref b1), .val (.int (1 : Int32)), .val (.long q1), .second, .unset, .unset] [(.ref b1)])) _
          refine XS.lload X48.here hx rfl (hb hby at_61) rfl ?_
          show Steps p.tables e below (T48.setTop (mkF m 63 #[.val (.long q1), .second, .val (.long q2), .second, .val (.long q3), .second, .val (.int p4), .val (.ref b1), .val (.int (1 : Int32)), .val (.long q1), .second, .unset, .unset] [(.long q1), (.ref b1)])) _
          refine XS.lloadN X48.here hx rfl (hb hby at_63) rfl ?_
          show Steps p.tables e below (T48.setTop (mkF m 64 #[.val (.long q1), .second, .val (.long q2), .second, .val (.long q3), .second, .val (.int p4), .val (.ref b1), .val (.int (1 : Int32)), .val (.long q1), .second, .unset, .unset] [(.long q2), (.long q1), (.ref b1)])) _
          refine XS.ladd X48.here hx rfl (hb hby at_64) rfl ?_
          show Steps p.tables e below (T48.setTop (mkF m 65 #[.val (.long q1), .second, .val (.long q2), .second, .val (.long q3), .second, .val (.int p4), .val (.ref b1), .val (.int (1 : Int32)), .val (.long q1), .second, .unset, .unset] [(.long (q1 + q2)), (.ref b1)])) _
          refine st57.trans ?_
          show Steps p.tables e below (T57.setTop (mkF m 68 #[.val (.long q1), .second, .val (.long q2), .second, .val (.long q3), .second, .val (.int p4), .val (.ref b1), .val (.int (1 : Int32)), .val (.long q1), .second, .unset, .unset] [(.int (0 : Int32))])) _
          refine XS.istore X57.here hx rfl (hb hby at_68) rfl (l' := #[.val (.long q1), .second, .val (.long q2), .second, .val (.long q3), .second, .val (.int p4), .val (.ref b1), .val (.int (1 : Int32)), .val (.long q1), .second, .val (.int (0 : Int32)), .unset]) rfl ?_
          show Steps p.tables e below (T57.setTop (mkF m 70 #[.val (.long q1), .second, .val (.long q2), .second, .val (.long q3), .second, .val (.int p4), .val (.ref b1), .val (.int (1 : Int32)), .val (.long q1), .second, .val (.int (0 : Int32)), .unset] [])) _
          refine XS.aload X57.here hx rfl (hb hby at_70) rfl rfl ?_
          show Steps p.tables e below (T57.setTop (mkF m 72 #[.val (.long q1), .second, .val (.long q2), .second, .val (.long q3), .second, .val (.int p4), .val (.ref b1), .val (.int (1 : Int32)), .val (.long q1), .second, .val (.int (0 : Int32)), .unset] [(.ref b1)])) _
          refine XS.lload X57.here hx rfl (hb hby at_72) rfl ?_
          show Steps p.tables e below (T57.setTop (mkF m 74 #[.val (.long q1), .second, .val (.long q2), .second, .val (.long q3), .second, .val (.int p4), .val (.ref b1), .val (.int (1 : Int32)), .val (.long q1), .second, .val (.int (0 : Int32)), .unset] [(.long q1), (.ref b1)])) _
          refine XS.lload X57.here hx rfl (hb hby at_74) rfl ?_
          show Steps p.tables e below (T57.setTop (mkF m 76 #[.val (.long q1), .second, .val (.long q2), .second, .val (.long q3), .second, .val (.int p4), .val (.ref b1), .val (.int (1 : Int32)), .val (.long q1), .second, .val (.int (0 : Int32)), .unset] [(.long q3), (.long q1), (.ref b1)])) _
          refine XS.ladd X57.here hx rfl (hb hby at_76) rfl ?_
          show Steps p.tables e below (T57.setTop (mkF m 77 #[.val (.long q1), .second, .val (.long q2), .second, .val (.long q3), .second, .val (.int p4), .val (.ref b1), .val (.int (1 : Int32)), .val (.long q1), .second, .val (.int (0 : Int32)), .unset] [(.long (q1 + q3)), (.ref b1)])) _
          refine st58.trans ?_
          show Steps p.tables e below (T58.setTop (mkF m 80 #[.val (.long q1), .second, .val (.long q2), .second, .val (.long q3), .second, .val (.int p4), .val (.ref b1), .val (.int (1 : Int32)), .val (.long q1), .second, .val (.int (0 : Int32)), .unset] [(.int (1 : Int32))])) _
          refine XS.istore X58.here hx rfl (hb hby at_80) rfl (l' := #[.val (.long q1), .second, .val (.long q2), .second, .val (.long q3), .second, .val (.int p4), .val (.ref b1), .val (.int (1 : Int32)), .val (.long q1), .second, .val (.int (0 : Int32)), .val (.int (1 : Int32))]) rfl ?_
          show Steps p.tables e below (T58.setTop (mkF m 82 #[.val (.long q1), .second, .val (.long q2), .second, .val (.long q3), .second, .val (.int p4), .val (.ref b1), .val (.int (1 : Int32)), .val (.long q1), .second, .val (.int (0 : Int32)), .val (.int (1 : Int32))] [])) _
          refine XS.iload X58.here hx rfl (hb hby at_82) rfl ?_
          show Steps p.tables e below (T58.setTop (mkF m 84 #[.val (.long q1), .second, .val (.long q2), .second, .val (.long q3), .second, .val (.int p4), .val (.ref b1), .val (.int (1 : Int32)), .val (.long q1), .second, .val (.int (0 : Int32)), .val (.int (1 : Int32))] [(.int (0 : Int32))])) _
          refine XS.lloadN X58.here hx rfl (hb hby at_84) rfl ?_
          show Steps p.tables e below (T58.setTop (mkF m 85 #[.val (.long q1), .second, .val (.long q2), .second, .val (.long q3), .second, .val (.int p4), .val (.ref b1), .val (.int (1 : Int32)), .val (.long q1), .second, .val (.int (0 : Int32)), .val (.int (1 : Int32))] [(.long q2), (.int (0 : Int32))])) _
          refine XS.lconst X58.here hx rfl (hb hby at_85) ?_
          show Steps p.tables e below (T58.setTop (mkF m 86 #[.val (.long q1), .second, .val (.long q2), .second, .val (.long q3), .second, .val (.int p4), .val (.ref b1), .val (.int (1 : Int32)), .val (.long q1), .second, .val (.int (0 : Int32)), .val (.int (1 : Int32))] [(.long (0 : Int64)), (.long q2), (.int (0 : Int32))])) _
          refine XS.lcmp X58.here hx rfl (hb hby at_86) rfl ?_
          show Steps p.tables e below (T58.setTop (mkF m 87 #[.val (.long q1), .second, .val (.long q2), .second, .val (.long q3), .second, .val (.int p4), .val (.ref b1), .val (.int (1 : Int32)), .val (.long q1), .second, .val (.int (0 : Int32)), .val (.int (1 : Int32))] [(.int (lcmpW q2 (0 : Int64))), (.int (0 : Int32))])) _
          refine XS.ifYes X58.here hx rfl (pc0 := 87) (pc' := 94) rfl (hb hby at_87) rfl ((if0 _ _).trans (tlt ((lw_lt _ _).mpr hc49)).1) (by decide) (by decide) ?_
          show Steps p.tables e below (T58.setTop (mkF m 94 #[.val (.long q1), .second, .val (.long q2), .second, .val (.long q3), .second, .val (.int p4), .val (.ref b1), .val (.int (1 : Int32)), .val (.long q1), .second, .val (.int (0 : Int32)), .val (.int (1 : Int32))] [(.int (0 : Int32))])) _
          refine XS.iconst X58.here hx rfl (hb hby at_94) ?_
          show Steps p.tables e below (T58.setTop (mkF m 95 #[.val (.long q1), .second, .val (.long q2), .second, .val (.long q3), .second, .val (.int p4), .val (.ref b1), .val (.int (1 : Int32)), .val (.long q1), .second, .val (.int (0 : Int32)), .val (.int (1 : Int32))] [(.int (0 : Int32)), (.int (0 : Int32))])) _
          refine XS.icmpNo X58.here hx rfl (hb hby at_95) rfl (teq (by decide : (0 : Int32) = (0 : Int32))).2 ?_
          show Steps p.tables e below (T58.setTop (mkF m 98 #[.val (.long q1), .second, .val (.long q2), .second, .val (.long q3), .second, .val (.int p4), .val (.ref b1), .val (.int (1 : Int32)), .val (.long q1), .second, .val (.int (0 : Int32)), .val (.int (1 : Int32))] [])) _
          refine XS.iload X58.here hx rfl (hb hby at_98) rfl ?_
          show Steps p.tables e below (T58.setTop (mkF m 100 #[.val (.long q1), .second, .val (.long q2), .second, .val (.long q3), .second, .val (.int p4), .val (.ref b1), .val (.int (1 : Int32)), .val (.long q1), .second, .val (.int (0 : Int32)), .val (.int (1 : Int32))] [(.int (1 : Int32))])) _
          refine XS.lload X58.here hx rfl (hb hby at_100) rfl ?_
          show Steps p.tables e below (T58.setTop (mkF m 102 #[.val (.long q1), .second, .val (.long q2), .second, .val (.long q3), .second, .val (.int p4), .val (.ref b1), .val (.int (1 : Int32)), .val (.long q1), .second, .val (.int (0 : Int32)), .val (.int (1 : Int32))] [(.long q3), (.int (1 : Int32))])) _
          refine XS.lconst X58.here hx rfl (hb hby at_102) ?_
          show Steps p.tables e below (T58.setTop (mkF m 103 #[.val (.long q1), .second, .val (.long q2), .second, .val (.long q3), .second, .val (.int p4), .val (.ref b1), .val (.int (1 : Int32)), .val (.long q1), .second, .val (.int (0 : Int32)), .val (.int (1 : Int32))] [(.long (0 : Int64)), (.long q3), (.int (1 : Int32))])) _
          refine XS.lcmp X58.here hx rfl (hb hby at_103) rfl ?_
          show Steps p.tables e below (T58.setTop (mkF m 104 #[.val (.long q1), .second, .val (.long q2), .second, .val (.long q3), .second, .val (.int p4), .val (.ref b1), .val (.int (1 : Int32)), .val (.long q1), .second, .val (.int (0 : Int32)), .val (.int (1 : Int32))] [(.int (lcmpW q3 (0 : Int64))), (.int (1 : Int32))])) _
          refine XS.ifNo X58.here hx rfl (hb hby at_104) rfl ((if0 _ _).trans (flt (fun q => hc51 ((lw_lt _ _).mp q))).1) ?_
          show Steps p.tables e below (T58.setTop (mkF m 107 #[.val (.long q1), .second, .val (.long q2), .second, .val (.long q3), .second, .val (.int p4), .val (.ref b1), .val (.int (1 : Int32)), .val (.long q1), .second, .val (.int (0 : Int32)), .val (.int (1 : Int32))] [(.int (1 : Int32))])) _
          refine XS.iconst X58.here hx rfl (hb hby at_107) ?_
          show Steps p.tables e below (T58.setTop (mkF m 108 #[.val (.long q1), .second, .val (.long q2), .second, .val (.long q3), .second, .val (.int p4), .val (.ref b1), .val (.int (1 : Int32)), .val (.long q1), .second, .val (.int (0 : Int32)), .val (.int (1 : Int32))] [(.int (1 : Int32)), (.int (1 : Int32))])) _
          refine XS.goto X58.here hx rfl (pc0 := 108) (pc' := 112) rfl (hb hby at_108) (by decide) (by decide) ?_
          show Steps p.tables e below (T58.setTop (mkF m 112 #[.val (.long q1), .second, .val (.long q2), .second, .val (.long q3), .second, .val (.int p4), .val (.ref b1), .val (.int (1 : Int32)), .val (.long q1), .second, .val (.int (0 : Int32)), .val (.int (1 : Int32))] [(.int (1 : Int32)), (.int (1 : Int32))])) _
          refine XS.icmpNo X58.here hx rfl (hb hby at_112) rfl (teq (by decide : (1 : Int32) = (1 : Int32))).2 ?_
          show Steps p.tables e below (T58.setTop (mkF m 115 #[.val (.long q1), .second, .val (.long q2), .second, .val (.long q3), .second, .val (.int p4), .val (.ref b1), .val (.int (1 : Int32)), .val (.long q1), .second, .val (.int (0 : Int32)), .val (.int (1 : Int32))] [])) _
          refine XS.iconst X58.here hx rfl (hb hby at_115) ?_
          show Steps p.tables e below (T58.setTop (mkF m 116 #[.val (.long q1), .second, .val (.long q2), .second, .val (.long q3), .second, .val (.int p4), .val (.ref b1), .val (.int (1 : Int32)), .val (.long q1), .second, .val (.int (0 : Int32)), .val (.int (1 : Int32))] [(.int (1 : Int32))])) _
          refine XS.goto X58.here hx rfl (pc0 := 116) (pc' := 120) rfl (hb hby at_116) (by decide) (by decide) ?_
          exact k
        obtain ⟨fs, hrt, hrun, hended, hW, hsame⟩ := X58.leave (v := some (.int (1 : Int32))) (fun h => by rw [Bd.returns] at h; cases h)
        refine ⟨_, _, g59 _ ?_, hrun, hended, _, _, rfl, ?_, ⟨_, rfl⟩, hW, hsame.mono (by decide) (by decide)⟩
        · show Steps p.tables e below (T58.setTop (mkF m 120 #[.val (.long q1), .second, .val (.long q2), .second, .val (.long q3), .second, .val (.int p4), .val (.ref b1), .val (.int (1 : Int32)), .val (.long q1), .second, .val (.int (0 : Int32)), .val (.int (1 : Int32))] [(.int (1 : Int32))])) _
          exact retN X58 hx (t := .boolean) Bd.returns (by simp) (hb hby at_120) hrt
        · show own_Q_rm0 Z q1 q2 q3 p4 wS wJ wH wP wF wD h0 n0 _ T58.heap _
          rw [e58]
          exact ⟨rfl, N58⟩
    · by_cases hc60 : q3 < (0 : Int64)
      · have o61 : Old Z n0 T48.heap := (Old.keep o32 K48 (allS gz_b1 (allS gz_m1 (allS gz_m2 all0))))
        obtain ⟨cq62, kq62, q62a, q62b, q62c⟩ := isOf hZ rfl Q48a
        obtain ⟨_, _, ⟨T62, L62, k62, n62⟩, -, X62, ⟨Lc62, hQ62, l62, y62, z62⟩, st62⟩ := X48.virtualBack hx (y := (⟨"com/example/assemble_quorum/assemblequorum/service/Round", "expired", "(J)Z"⟩ : MethodName)) (z := (⟨"com/example/assemble_quorum/assemblequorum/service/Round", "expired", "(J)Z"⟩ : MethodName)) hown (mvT hZ (hw _ (List.mem_of_getElem? (i := 51) rfl))) (mvT hZ (hw _ (List.mem_of_getElem? (i := 52) rfl))) (notFace_of_selects (args := #[]) (mvT hZ (hw _ (List.mem_of_getElem? (i := 54) rfl)))) (mvT hZ (hw _ (List.mem_of_getElem? (i := 54) rfl))) (mvT hZ (hw _ (List.mem_of_getElem? (i := 53) rfl))) (by decide) (backOf (W := 0) (rmExp l Z a0 hw [] b1 (q1 + q2) q1 (1 : Int32) T48.heap n0 o61 Q48b (by rw [own_can, if_neg hc49])) hZ (hw _ (List.mem_of_getElem? (i := 55) rfl)) (hw _ (List.mem_of_getElem? (i := 2) rfl)) (by decide) (by decide)) q62a q62c (g := (mkF m 65 #[.val (.long q1), .second, .val (.long q2), .second, .val (.long q3), .second, .val (.int p4), .val (.ref b1), .val (.int (1 : Int32)), .val (.long q1), .second, .unset, .unset] [(.long (q1 + q2)), (.ref b1)])) rfl (by rw [hml]; rfl) (Steps.refl _) (argsL := [(.long (q1 + q2))]) (rest := []) (lenOf own_pd5 rfl) rfl (by show 2 * 0 + _ ≤ _; exact Nat.le_of_eq rfl) (hb hby at_65) (fun _ _ => ⟨rfl, rfl, (by decide : 7 + 0 ≤ _), (by decide : 35 + 0 ≤ _)⟩)
        dsimp only [Pt.U, Pt.locs, Pt.cells, Pt.slots] at X62 l62 y62 z62 st62 hQ62
        subst l62 y62 z62
        obtain ⟨rfl, Nq62, e62⟩ := hQ62
        have N62 := Fr.app N48 Nq62
        obtain ⟨cq63, kq63, q63a, q63b, q63c⟩ := isOf hZ e62 Q48a
        obtain ⟨_, _, ⟨T63, L63, k63, n63⟩, -, X63, ⟨Lc63, hQ63, l63, y63, z63⟩, st63⟩ := X62.virtualBack hx (y := (⟨"com/example/assemble_quorum/assemblequorum/service/Round", "expired", "(J)Z"⟩ : MethodName)) (z := (⟨"com/example/assemble_quorum/assemblequorum/service/Round", "expired", "(J)Z"⟩ : MethodName)) hown (mvT hZ (hw _ (List.mem_of_getElem? (i := 51) rfl))) (mvT hZ (hw _ (List.mem_of_getElem? (i := 52) rfl))) (notFace_of_selects (args := #[]) (mvT hZ (hw _ (List.mem_of_getElem? (i := 54) rfl)))) (mvT hZ (hw _ (List.mem_of_getElem? (i := 54) rfl))) (mvT hZ (hw _ (List.mem_of_getElem? (i := 53) rfl))) (by decide) (backOf (W := 0) (rmExp l Z a0 hw [] b1 (q1 + q3) q1 (0 : Int32) T48.heap n0 o61 Q48b (by rw [own_can, if_pos hc60])) hZ (hw _ (List.mem_of_getElem? (i := 55) rfl)) (hw _ (List.mem_of_getElem? (i := 2) rfl)) (by decide) (by decide)) q63a q63c (g := (mkF m 77 #[.val (.long q1), .second, .val (.long q2), .second, .val (.long q3), .second, .val (.int p4), .val (.ref b1), .val (.int (1 : Int32)), .val (.long q1), .second, .val (.int (1 : Int32)), .unset] [(.long (q1 + q3)), (.ref b1)])) rfl (by rw [hml]; rfl) (Steps.refl _) (argsL := [(.long (q1 + q3))]) (rest := []) (lenOf own_pd5 rfl) rfl (by show 2 * 0 + _ ≤ _; exact Nat.le_of_eq rfl) (hb hby at_77) (fun _ _ => ⟨rfl, e62, (by decide : 7 + 0 ≤ _), (by decide : 35 + 0 ≤ _)⟩)
        dsimp only [Pt.U, Pt.locs, Pt.cells, Pt.slots] at X63 l63 y63 z63 st63 hQ63
        subst l63 y63 z63
        obtain ⟨rfl, Nq63, e63⟩ := hQ63
        have N63 := Fr.app N62 Nq63
        have g64 : ∀ t, Steps p.tables e below (T63.setTop (mkF m 120 #[.val (.long q1), .second, .val (.long q2), .second, .val (.long q3), .second, .val (.int p4), .val (.ref b1), .val (.int (1 : Int32)), .val (.long q1), .second, .val (.int (1 : Int32)), .val (.int (0 : Int32))] [(.int (1 : Int32))])) t → Steps p.tables e below (s₁.setTop (entryFrame m #[(.long q1), (.long q2), (.long q3), (.int p4)] maxLocals)) t := by
          intro t k
          refine g50 t ?_
          show Steps p.tables e below (T48.setTop (mkF m 59 #[.val (.long q1), .second, .val (.long q2), .second, .val (.long q3), .second, .val (.int p4), .val (.ref b1), .val (.int (1 : Int32)), .val (.long q1), .second, .unset, .unset] [])) _
          refine XS.aload X48.here hx rfl (hb hby at_59) rfl rfl ?_
          show Steps p.tables e below (T48.setTop (mkF m 61 #[.val (.long q1), .second, .val (.long q2), .second, .val (.long q3), .second, .val (.int p4), .val (.ref b1), .val (.int (1 : Int32)), .val (.long q1), .second, .unset, .unset] [(.ref b1)])) _
          refine XS.lload X48.here hx rfl (hb hby at_61) rfl ?_
          show Steps p.tables e below (T48.setTop (mkF m 63 #[.val (.long q1), .second, .val (.long q2), .second, .val (.long q3), .second, .val (.int p4), .val (.ref b1), .val (.int (1 : Int32)), .val (.long q1), .second, .unset, .unset] [(.long q1), (.ref b1)])) _
          refine XS.lloadN X48.here hx rfl (hb hby at_63) rfl ?_
          show Steps p.tables e below (T48.setTop (mkF m 64 #[.val (.long q1), .second, .val (.long q2), .second, .val (.long q3), .second, .val (.int p4), .val (.ref b1), .val (.int (1 : Int32)), .val (.long q1), .second, .unset, .unset] [(.long q2), (.long q1), (.ref b1)])) _
          refine XS.ladd X48.here hx rfl (hb hby at_64) rfl ?_
          show Steps p.tables e below (T48.setTop (mkF m 65 #[.val (.long q1), .second, .val (.long q2), .second, .val (.long q3), .second, .val (.int p4), .val (.ref b1), .val (.int (1 : Int32)), .val (.long q1), .second, .unset, .unset] [(.long (q1 + q2)), (.ref b1)])) _
          refine st62.trans ?_
          show Steps p.tables e below (T62.setTop (mkF m 68 #[.val (.long q1), .second, .val (.long q2), .second, .val (.long q3), .second, .val (.int p4), .val (.ref b1), .val (.int (1 : Int32)), .val (.long q1), .second, .unset, .unset] [(.int (1 : Int32))])) _
          refine XS.istore X62.here hx rfl (hb hby at_68) rfl (l' := #[.val (.long q1), .second, .val (.long q2), .second, .val (.long q3), .second, .val (.int p4), .val (.ref b1), .val (.int (1 : Int32)), .val (.long q1), .second, .val (.int (1 : Int32)), .unset]) rfl ?_
          show Steps p.tables e below (T62.setTop (mkF m 70 #[.val (.long q1), .second, .val (.long q2), .second, .val (.long q3), .second, .val (.int p4), .val (.ref b1), .val (.int (1 : Int32)), .val (.long q1), .second, .val (.int (1 : Int32)), .unset] [])) _
          refine XS.aload X62.here hx rfl (hb hby at_70) rfl rfl ?_
          show Steps p.tables e below (T62.setTop (mkF m 72 #[.val (.long q1), .second, .val (.long q2), .second, .val (.long q3), .second, .val (.int p4), .val (.ref b1), .val (.int (1 : Int32)), .val (.long q1), .second, .val (.int (1 : Int32)), .unset] [(.ref b1)])) _
          refine XS.lload X62.here hx rfl (hb hby at_72) rfl ?_
          show Steps p.tables e below (T62.setTop (mkF m 74 #[.val (.long q1), .second, .val (.long q2), .second, .val (.long q3), .second, .val (.int p4), .val (.ref b1), .val (.int (1 : Int32)), .val (.long q1), .second, .val (.int (1 : Int32)), .unset] [(.long q1), (.ref b1)])) _
          refine XS.lload X62.here hx rfl (hb hby at_74) rfl ?_
          show Steps p.tables e below (T62.setTop (mkF m 76 #[.val (.long q1), .second, .val (.long q2), .second, .val (.long q3), .second, .val (.int p4), .val (.ref b1), .val (.int (1 : Int32)), .val (.long q1), .second, .val (.int (1 : Int32)), .unset] [(.long q3), (.long q1), (.ref b1)])) _
          refine XS.ladd X62.here hx rfl (hb hby at_76) rfl ?_
          show Steps p.tables e below (T62.setTop (mkF m 77 #[.val (.long q1), .second, .val (.long q2), .second, .val (.long q3), .second, .val (.int p4), .val (.ref b1), .val (.int (1 : Int32)), .val (.long q1), .second, .val (.int (1 : Int32)), .unset] [(.long (q1 + q3)), (.ref b1)])) _
          refine st63.trans ?_
          show Steps p.tables e below (T63.setTop (mkF m 80 #[.val (.long q1), .second, .val (.long q2), .second, .val (.long q3), .second, .val (.int p4), .val (.ref b1), .val (.int (1 : Int32)), .val (.long q1), .second, .val (.int (1 : Int32)), .unset] [(.int (0 : Int32))])) _
          refine XS.istore X63.here hx rfl (hb hby at_80) rfl (l' := #[.val (.long q1), .second, .val (.long q2), .second, .val (.long q3), .second, .val (.int p4), .val (.ref b1), .val (.int (1 : Int32)), .val (.long q1), .second, .val (.int (1 : Int32)), .val (.int (0 : Int32))]) rfl ?_
          show Steps p.tables e below (T63.setTop (mkF m 82 #[.val (.long q1), .second, .val (.long q2), .second, .val (.long q3), .second, .val (.int p4), .val (.ref b1), .val (.int (1 : Int32)), .val (.long q1), .second, .val (.int (1 : Int32)), .val (.int (0 : Int32))] [])) _
          refine XS.iload X63.here hx rfl (hb hby at_82) rfl ?_
          show Steps p.tables e below (T63.setTop (mkF m 84 #[.val (.long q1), .second, .val (.long q2), .second, .val (.long q3), .second, .val (.int p4), .val (.ref b1), .val (.int (1 : Int32)), .val (.long q1), .second, .val (.int (1 : Int32)), .val (.int (0 : Int32))] [(.int (1 : Int32))])) _
          refine XS.lloadN X63.here hx rfl (hb hby at_84) rfl ?_
          show Steps p.tables e below (T63.setTop (mkF m 85 #[.val (.long q1), .second, .val (.long q2), .second, .val (.long q3), .second, .val (.int p4), .val (.ref b1), .val (.int (1 : Int32)), .val (.long q1), .second, .val (.int (1 : Int32)), .val (.int (0 : Int32))] [(.long q2), (.int (1 : Int32))])) _
          refine XS.lconst X63.here hx rfl (hb hby at_85) ?_
          show Steps p.tables e below (T63.setTop (mkF m 86 #[.val (.long q1), .second, .val (.long q2), .second, .val (.long q3), .second, .val (.int p4), .val (.ref b1), .val (.int (1 : Int32)), .val (.long q1), .second, .val (.int (1 : Int32)), .val (.int (0 : Int32))] [(.long (0 : Int64)), (.long q2), (.int (1 : Int32))])) _
          refine XS.lcmp X63.here hx rfl (hb hby at_86) rfl ?_
          show Steps p.tables e below (T63.setTop (mkF m 87 #[.val (.long q1), .second, .val (.long q2), .second, .val (.long q3), .second, .val (.int p4), .val (.ref b1), .val (.int (1 : Int32)), .val (.long q1), .second, .val (.int (1 : Int32)), .val (.int (0 : Int32))] [(.int (lcmpW q2 (0 : Int64))), (.int (1 : Int32))])) _
          refine XS.ifNo X63.here hx rfl (hb hby at_87) rfl ((if0 _ _).trans (flt (fun q => hc49 ((lw_lt _ _).mp q))).1) ?_
          show Steps p.tables e below (T63.setTop (mkF m 90 #[.val (.long q1), .second, .val (.long q2), .second, .val (.long q3), .second, .val (.int p4), .val (.ref b1), .val (.int (1 : Int32)), .val (.long q1), .second, .val (.int (1 : Int32)), .val (.int (0 : Int32))] [(.int (1 : Int32))])) _
          refine XS.iconst X63.here hx rfl (hb hby at_90) ?_
          show Steps p.tables e below (T63.setTop (mkF m 91 #[.val (.long q1), .second, .val (.long q2), .second, .val (.long q3), .second, .val (.int p4), .val (.ref b1), .val (.int (1 : Int32)), .val (.long q1), .second, .val (.int (1 : Int32)), .val (.int (0 : Int32))] [(.int (1 : Int32)), (.int (1 : Int32))])) _
          refine XS.goto X63.here hx rfl (pc0 := 91) (pc' := 95) rfl (hb hby at_91) (by decide) (by decide) ?_
          show Steps p.tables e below (T63.setTop (mkF m 95 #[.val (.long q1), .second, .val (.long q2), .second, .val (.long q3), .second, .val (.int p4), .val (.ref b1), .val (.int (1 : Int32)), .val (.long q1), .second, .val (.int (1 : Int32)), .val (.int (0 : Int32))] [(.int (1 : Int32)), (.int (1 : Int32))])) _
          refine XS.icmpNo X63.here hx rfl (hb hby at_95) rfl (teq (by decide : (1 : Int32) = (1 : Int32))).2 ?_
          show Steps p.tables e below (T63.setTop (mkF m 98 #[.val (.long q1), .second, .val (.long q2), .second, .val (.long q3), .second, .val (.int p4), .val (.ref b1), .val (.int (1 : Int32)), .val (.long q1), .second, .val (.int (1 : Int32)), .val (.int (0 : Int32))] [])) _
          refine XS.iload X63.here hx rfl (hb hby at_98) rfl ?_
          show Steps p.tables e below (T63.setTop (mkF m 100 #[.val (.long q1), .second, .val (.long q2), .second, .val (.long q3), .second, .val (.int p4), .val (.ref b1), .val (.int (1 : Int32)), .val (.long q1), .second, .val (.int (1 : Int32)), .val (.int (0 : Int32))] [(.int (0 : Int32))])) _
          refine XS.lload X63.here hx rfl (hb hby at_100) rfl ?_
          show Steps p.tables e below (T63.setTop (mkF m 102 #[.val (.long q1), .second, .val (.long q2), .second, .val (.long q3), .second, .val (.int p4), .val (.ref b1), .val (.int (1 : Int32)), .val (.long q1), .second, .val (.int (1 : Int32)), .val (.int (0 : Int32))] [(.long q3), (.int (0 : Int32))])) _
          refine XS.lconst X63.here hx rfl (hb hby at_102) ?_
          show Steps p.tables e below (T63.setTop (mkF m 103 #[.val (.long q1), .second, .val (.long q2), .second, .val (.long q3), .second, .val (.int p4), .val (.ref b1), .val (.int (1 : Int32)), .val (.long q1), .second, .val (.int (1 : Int32)), .val (.int (0 : Int32))] [(.long (0 : Int64)), (.long q3), (.int (0 : Int32))])) _
          refine XS.lcmp X63.here hx rfl (hb hby at_103) rfl ?_
          show Steps p.tables e below (T63.setTop (mkF m 104 #[.val (.long q1), .second, .val (.long q2), .second, .val (.long q3), .second, .val (.int p4), .val (.ref b1), .val (.int (1 : Int32)), .val (.long q1), .second, .val (.int (1 : Int32)), .val (.int (0 : Int32))] [(.int (lcmpW q3 (0 : Int64))), (.int (0 : Int32))])) _
          refine XS.ifYes X63.here hx rfl (pc0 := 104) (pc' := 111) rfl (hb hby at_104) rfl ((if0 _ _).trans (tlt ((lw_lt _ _).mpr hc60)).1) (by decide) (by decide) ?_
          show Steps p.tables e below (T63.setTop (mkF m 111 #[.val (.long q1), .second, .val (.long q2), .second, .val (.long q3), .second, .val (.int p4), .val (.ref b1), .val (.int (1 : Int32)), .val (.long q1), .second, .val (.int (1 : Int32)), .val (.int (0 : Int32))] [(.int (0 : Int32))])) _
          refine XS.iconst X63.here hx rfl (hb hby at_111) ?_
          show Steps p.tables e below (T63.setTop (mkF m 112 #[.val (.long q1), .second, .val (.long q2), .second, .val (.long q3), .second, .val (.int p4), .val (.ref b1), .val (.int (1 : Int32)), .val (.long q1), .second, .val (.int (1 : Int32)), .val (.int (0 : Int32))] [(.int (0 : Int32)), (.int (0 : Int32))])) _
          refine XS.icmpNo X63.here hx rfl (hb hby at_112) rfl (teq (by decide : (0 : Int32) = (0 : Int32))).2 ?_
          show Steps p.tables e below (T63.setTop (mkF m 115 #[.val (.long q1), .second, .val (.long q2), .second, .val (.long q3), .second, .val (.int p4), .val (.ref b1), .val (.int (1 : Int32)), .val (.long q1), .second, .val (.int (1 : Int32)), .val (.int (0 : Int32))] [])) _
          refine XS.iconst X63.here hx rfl (hb hby at_115) ?_
          show Steps p.tables e below (T63.setTop (mkF m 116 #[.val (.long q1), .second, .val (.long q2), .second, .val (.long q3), .second, .val (.int p4), .val (.ref b1), .val (.int (1 : Int32)), .val (.long q1), .second, .val (.int (1 : Int32)), .val (.int (0 : Int32))] [(.int (1 : Int32))])) _
          refine XS.goto X63.here hx rfl (pc0 := 116) (pc' := 120) rfl (hb hby at_116) (by decide) (by decide) ?_
          exact k
        obtain ⟨fs, hrt, hrun, hended, hW, hsame⟩ := X63.leave (v := some (.int (1 : Int32))) (fun h => by rw [Bd.returns] at h; cases h)
        refine ⟨_, _, g64 _ ?_, hrun, hended, _, _, rfl, ?_, ⟨_, rfl⟩, hW, hsame.mono (by decide) (by decide)⟩
        · show Steps p.tables e below (T63.setTop (mkF m 120 #[.val (.long q1), .second, .val (.long q2), .second, .val (.long q3), .second, .val (.int p4), .val (.ref b1), .val (.int (1 : Int32)), .val (.long q1), .second, .val (.int (1 : Int32)), .val (.int (0 : Int32))] [(.int (1 : Int32))])) _
          exact retN X63 hx (t := .boolean) Bd.returns (by simp) (hb hby at_120) hrt
        · show own_Q_rm0 Z q1 q2 q3 p4 wS wJ wH wP wF wD h0 n0 _ T63.heap _
          rw [e63]
          exact ⟨rfl, N63⟩
      · have o65 : Old Z n0 T48.heap := (Old.keep o32 K48 (allS gz_b1 (allS gz_m1 (allS gz_m2 all0))))
        obtain ⟨cq66, kq66, q66a, q66b, q66c⟩ := isOf hZ rfl Q48a
        obtain ⟨_, _, ⟨T66, L66, k66, n66⟩, -, X66, ⟨Lc66, hQ66, l66, y66, z66⟩, st66⟩ := X48.virtualBack hx (y := (⟨"com/example/assemble_quorum/assemblequorum/service/Round", "expired", "(J)Z"⟩ : MethodName)) (z := (⟨"com/example/assemble_quorum/assemblequorum/service/Round", "expired", "(J)Z"⟩ : MethodName)) hown (mvT hZ (hw _ (List.mem_of_getElem? (i := 51) rfl))) (mvT hZ (hw _ (List.mem_of_getElem? (i := 52) rfl))) (notFace_of_selects (args := #[]) (mvT hZ (hw _ (List.mem_of_getElem? (i := 54) rfl)))) (mvT hZ (hw _ (List.mem_of_getElem? (i := 54) rfl))) (mvT hZ (hw _ (List.mem_of_getElem? (i := 53) rfl))) (by decide) (backOf (W := 0) (rmExp l Z a0 hw [] b1 (q1 + q2) q1 (1 : Int32) T48.heap n0 o65 Q48b (by rw [own_can, if_neg hc49])) hZ (hw _ (List.mem_of_getElem? (i := 55) rfl)) (hw _ (List.mem_of_getElem? (i := 2) rfl)) (by decide) (by decide)) q66a q66c (g := (mkF m 65 #[.val (.long q1), .second, .val (.long q2), .second, .val (.long q3), .second, .val (.int p4), .val (.ref b1), .val (.int (1 : Int32)), .val (.long q1), .second, .unset, .unset] [(.long (q1 + q2)), (.ref b1)])) rfl (by rw [hml]; rfl) (Steps.refl _) (argsL := [(.long (q1 + q2))]) (rest := []) (lenOf own_pd5 rfl) rfl (by show 2 * 0 + _ ≤ _; exact Nat.le_of_eq rfl) (hb hby at_65) (fun _ _ => ⟨rfl, rfl, (by decide : 7 + 0 ≤ _), (by decide : 35 + 0 ≤ _)⟩)
        dsimp only [Pt.U, Pt.locs, Pt.cells, Pt.slots] at X66 l66 y66 z66 st66 hQ66
        subst l66 y66 z66
        obtain ⟨rfl, Nq66, e66⟩ := hQ66
        have N66 := Fr.app N48 Nq66
        obtain ⟨cq67, kq67, q67a, q67b, q67c⟩ := isOf hZ e66 Q48a
        obtain ⟨_, _, ⟨T67, L67, k67, n67⟩, -, X67, ⟨Lc67, hQ67, l67, y67, z67⟩, st67⟩ := X66.virtualBack hx (y := (⟨"com/example/assemble_quorum/assemblequorum/service/Round", "expired", "(J)Z"⟩ : MethodName)) (z := (⟨"com/example/assemble_quorum/assemblequorum/service/Round", "expired", "(J)Z"⟩ : MethodName)) hown (mvT hZ (hw _ (List.mem_of_getElem? (i := 51) rfl))) (mvT hZ (hw _ (List.mem_of_getElem? (i := 52) rfl))) (notFace_of_selects (args := #[]) (mvT hZ (hw _ (List.mem_of_getElem? (i := 54) rfl)))) (mvT hZ (hw _ (List.mem_of_getElem? (i := 54) rfl))) (mvT hZ (hw _ (List.mem_of_getElem? (i := 53) rfl))) (by decide) (backOf (W := 0) (rmExp l Z a0 hw [] b1 (q1 + q3) q1 (1 : Int32) T48.heap n0 o65 Q48b (by rw [own_can, if_neg hc60])) hZ (hw _ (List.mem_of_getElem? (i := 55) rfl)) (hw _ (List.mem_of_getElem? (i := 2) rfl)) (by decide) (by decide)) q67a q67c (g := (mkF m 77 #[.val (.long q1), .second, .val (.long q2), .second, .val (.long q3), .second, .val (.int p4), .val (.ref b1), .val (.int (1 : Int32)), .val (.long q1), .second, .val (.int (1 : Int32)), .unset] [(.long (q1 + q3)), (.ref b1)])) rfl (by rw [hml]; rfl) (Steps.refl _) (argsL := [(.long (q1 + q3))]) (rest := []) (lenOf own_pd5 rfl) rfl (by show 2 * 0 + _ ≤ _; exact Nat.le_of_eq rfl) (hb hby at_77) (fun _ _ => ⟨rfl, e66, (by decide : 7 + 0 ≤ _), (by decide : 35 + 0 ≤ _)⟩)
        dsimp only [Pt.U, Pt.locs, Pt.cells, Pt.slots] at X67 l67 y67 z67 st67 hQ67
        subst l67 y67 z67
        obtain ⟨rfl, Nq67, e67⟩ := hQ67
        have N67 := Fr.app N66 Nq67
        have g68 : ∀ t, Steps p.tables e below (T67.setTop (mkF m 120 #[.val (.long q1), .second, .val (.long q2), .second, .val (.long q3), .second, .val (.int p4), .val (.ref b1), .val (.int (1 : Int32)), .val (.long q1), .second, .val (.int (1 : Int32)), .val (.int (1 : Int32))] [(.int (1 : Int32))])) t → Steps p.tables e below (s₁.setTop (entryFrame m #[(.long q1), (.long q2), (.long q3), (.int p4)] maxLocals)) t := by
          intro t k
          refine g50 t ?_
          show Steps p.tables e below (T48.setTop (mkF m 59 #[.val (.long q1), .second, .val (.long q2), .second, .val (.long q3), .second, .val (.int p4), .val (.ref b1), .val (.int (1 : Int32)), .val (.long q1), .second, .unset, .unset] [])) _
          refine XS.aload X48.here hx rfl (hb hby at_59) rfl rfl ?_
          show Steps p.tables e below (T48.setTop (mkF m 61 #[.val (.long q1), .second, .val (.long q2), .second, .val (.long q3), .second, .val (.int p4), .val (.ref b1), .val (.int (1 : Int32)), .val (.long q1), .second, .unset, .unset] [(.ref b1)])) _
          refine XS.lload X48.here hx rfl (hb hby at_61) rfl ?_
          show Steps p.tables e below (T48.setTop (mkF m 63 #[.val (.long q1), .second, .val (.long q2), .second, .val (.long q3), .second, .val (.int p4), .val (.ref b1), .val (.int (1 : Int32)), .val (.long q1), .second, .unset, .unset] [(.long q1), (.ref b1)])) _
          refine XS.lloadN X48.here hx rfl (hb hby at_63) rfl ?_
          show Steps p.tables e below (T48.setTop (mkF m 64 #[.val (.long q1), .second, .val (.long q2), .second, .val (.long q3), .second, .val (.int p4), .val (.ref b1), .val (.int (1 : Int32)), .val (.long q1), .second, .unset, .unset] [(.long q2), (.long q1), (.ref b1)])) _
          refine XS.ladd X48.here hx rfl (hb hby at_64) rfl ?_
          show Steps p.tables e below (T48.setTop (mkF m 65 #[.val (.long q1), .second, .val (.long q2), .second, .val (.long q3), .second, .val (.int p4), .val (.ref b1), .val (.int (1 : Int32)), .val (.long q1), .second, .unset, .unset] [(.long (q1 + q2)), (.ref b1)])) _
          refine st66.trans ?_
          show Steps p.tables e below (T66.setTop (mkF m 68 #[.val (.long q1), .second, .val (.long q2), .second, .val (.long q3), .second, .val (.int p4), .val (.ref b1), .val (.int (1 : Int32)), .val (.long q1), .second, .unset, .unset] [(.int (1 : Int32))])) _
          refine XS.istore X66.here hx rfl (hb hby at_68) rfl (l' := #[.val (.long q1), .second, .val (.long q2), .second, .val (.long q3), .second, .val (.int p4), .val (.ref b1), .val (.int (1 : Int32)), .val (.long q1), .second, .val (.int (1 : Int32)), .unset]) rfl ?_
          show Steps p.tables e below (T66.setTop (mkF m 70 #[.val (.long q1), .second, .val (.long q2), .second, .val (.long q3), .second, .val (.int p4), .val (.ref b1), .val (.int (1 : Int32)), .val (.long q1), .second, .val (.int (1 : Int32)), .unset] [])) _
          refine XS.aload X66.here hx rfl (hb hby at_70) rfl rfl ?_
          show Steps p.tables e below (T66.setTop (mkF m 72 #[.val (.long q1), .second, .val (.long q2), .second, .val (.long q3), .second, .val (.int p4), .val (.ref b1), .val (.int (1 : Int32)), .val (.long q1), .second, .val (.int (1 : Int32)), .unset] [(.ref b1)])) _
          refine XS.lload X66.here hx rfl (hb hby at_72) rfl ?_
          show Steps p.tables e below (T66.setTop (mkF m 74 #[.val (.long q1), .second, .val (.long q2), .second, .val (.long q3), .second, .val (.int p4), .val (.ref b1), .val (.int (1 : Int32)), .val (.long q1), .second, .val (.int (1 : Int32)), .unset] [(.long q1), (.ref b1)])) _
          refine XS.lload X66.here hx rfl (hb hby at_74) rfl ?_
          show Steps p.tables e below (T66.setTop (mkF m 76 #[.val (.long q1), .second, .val (.long q2), .second, .val (.long q3), .second, .val (.int p4), .val (.ref b1), .val (.int (1 : Int32)), .val (.long q1), .second, .val (.int (1 : Int32)), .unset] [(.long q3), (.long q1), (.ref b1)])) _
          refine XS.ladd X66.here hx rfl (hb hby at_76) rfl ?_
          show Steps p.tables e below (T66.setTop (mkF m 77 #[.val (.long q1), .second, .val (.long q2), .second, .val (.long q3), .second, .val (.int p4), .val (.ref b1), .val (.int (1 : Int32)), .val (.long q1), .second, .val (.int (1 : Int32)), .unset] [(.long (q1 + q3)), (.ref b1)])) _
          refine st67.trans ?_
          show Steps p.tables e below (T67.setTop (mkF m 80 #[.val (.long q1), .second, .val (.long q2), .second, .val (.long q3), .second, .val (.int p4), .val (.ref b1), .val (.int (1 : Int32)), .val (.long q1), .second, .val (.int (1 : Int32)), .unset] [(.int (1 : Int32))])) _
          refine XS.istore X67.here hx rfl (hb hby at_80) rfl (l' := #[.val (.long q1), .second, .val (.long q2), .second, .val (.long q3), .second, .val (.int p4), .val (.ref b1), .val (.int (1 : Int32)), .val (.long q1), .second, .val (.int (1 : Int32)), .val (.int (1 : Int32))]) rfl ?_
          show Steps p.tables e below (T67.setTop (mkF m 82 #[.val (.long q1), .second, .val (.long q2), .second, .val (.long q3), .second, .val (.int p4), .val (.ref b1), .val (.int (1 : Int32)), .val (.long q1), .second, .val (.int (1 : Int32)), .val (.int (1 : Int32))] [])) _
          refine XS.iload X67.here hx rfl (hb hby at_82) rfl ?_
          show Steps p.tables e below (T67.setTop (mkF m 84 #[.val (.long q1), .second, .val (.long q2), .second, .val (.long q3), .second, .val (.int p4), .val (.ref b1), .val (.int (1 : Int32)), .val (.long q1), .second, .val (.int (1 : Int32)), .val (.int (1 : Int32))] [(.int (1 : Int32))])) _
          refine XS.lloadN X67.here hx rfl (hb hby at_84) rfl ?_
          show Steps p.tables e below (T67.setTop (mkF m 85 #[.val (.long q1), .second, .val (.long q2), .second, .val (.long q3), .second, .val (.int p4), .val (.ref b1), .val (.int (1 : Int32)), .val (.long q1), .second, .val (.int (1 : Int32)), .val (.int (1 : Int32))] [(.long q2), (.int (1 : Int32))])) _
          refine XS.lconst X67.here hx rfl (hb hby at_85) ?_
          show Steps p.tables e below (T67.setTop (mkF m 86 #[.val (.long q1), .second, .val (.long q2), .second, .val (.long q3), .second, .val (.int p4), .val (.ref b1), .val (.int (1 : Int32)), .val (.long q1), .second, .val (.int (1 : Int32)), .val (.int (1 : Int32))] [(.long (0 : Int64)), (.long q2), (.int (1 : Int32))])) _
          refine XS.lcmp X67.here hx rfl (hb hby at_86) rfl ?_
          show Steps p.tables e below (T67.setTop (mkF m 87 #[.val (.long q1), .second, .val (.long q2), .second, .val (.long q3), .second, .val (.int p4), .val (.ref b1), .val (.int (1 : Int32)), .val (.long q1), .second, .val (.int (1 : Int32)), .val (.int (1 : Int32))] [(.int (lcmpW q2 (0 : Int64))), (.int (1 : Int32))])) _
          refine XS.ifNo X67.here hx rfl (hb hby at_87) rfl ((if0 _ _).trans (flt (fun q => hc49 ((lw_lt _ _).mp q))).1) ?_
          show Steps p.tables e below (T67.setTop (mkF m 90 #[.val (.long q1), .second, .val (.long q2), .second, .val (.long q3), .second, .val (.int p4), .val (.ref b1), .val (.int (1 : Int32)), .val (.long q1), .second, .val (.int (1 : Int32)), .val (.int (1 : Int32))] [(.int (1 : Int32))])) _
          refine XS.iconst X67.here hx rfl (hb hby at_90) ?_
          show Steps p.tables e below (T67.setTop (mkF m 91 #[.val (.long q1), .second, .val (.long q2), .second, .val (.long q3), .second, .val (.int p4), .val (.ref b1), .val (.int (1 : Int32)), .val (.long q1), .second, .val (.int (1 : Int32)), .val (.int (1 : Int32))] [(.int (1 : Int32)), (.int (1 : Int32))])) _
          refine XS.goto X67.here hx rfl (pc0 := 91) (pc' := 95) rfl (hb hby at_91) (by decide) (by decide) ?_
          show Steps p.tables e below (T67.setTop (mkF m 95 #[.val (.long q1), .second, .val (.long q2), .second, .val (.long q3), .second, .val (.int p4), .val (.ref b1), .val (.int (1 : Int32)), .val (.long q1), .second, .val (.int (1 : Int32)), .val (.int (1 : Int32))] [(.int (1 : Int32)), (.int (1 : Int32))])) _
          refine XS.icmpNo X67.here hx rfl (hb hby at_95) rfl (teq (by decide : (1 : Int32) = (1 : Int32))).2 ?_
          show Steps p.tables e below (T67.setTop (mkF m 98 #[.val (.long q1), .second, .val (.long q2), .second, .val (.long q3), .second, .val (.int p4), .val (.ref b1), .val (.int (1 : Int32)), .val (.long q1), .second, .val (.int (1 : Int32)), .val (.int (1 : Int32))] [])) _
          refine XS.iload X67.here hx rfl (hb hby at_98) rfl ?_
          show Steps p.tables e below (T67.setTop (mkF m 100 #[.val (.long q1), .second, .val (.long q2), .second, .val (.long q3), .second, .val (.int p4), .val (.ref b1), .val (.int (1 : Int32)), .val (.long q1), .second, .val (.int (1 : Int32)), .val (.int (1 : Int32))] [(.int (1 : Int32))])) _
          refine XS.lload X67.here hx rfl (hb hby at_100) rfl ?_
          show Steps p.tables e below (T67.setTop (mkF m 102 #[.val (.long q1), .second, .val (.long q2), .second, .val (.long q3), .second, .val (.int p4), .val (.ref b1), .val (.int (1 : Int32)), .val (.long q1), .second, .val (.int (1 : Int32)), .val (.int (1 : Int32))] [(.long q3), (.int (1 : Int32))])) _
          refine XS.lconst X67.here hx rfl (hb hby at_102) ?_
          show Steps p.tables e below (T67.setTop (mkF m 103 #[.val (.long q1), .second, .val (.long q2), .second, .val (.long q3), .second, .val (.int p4), .val (.ref b1), .val (.int (1 : Int32)), .val (.long q1), .second, .val (.int (1 : Int32)), .val (.int (1 : Int32))] [(.long (0 : Int64)), (.long q3), (.int (1 : Int32))])) _
          refine XS.lcmp X67.here hx rfl (hb hby at_103) rfl ?_
          show Steps p.tables e below (T67.setTop (mkF m 104 #[.val (.long q1), .second, .val (.long q2), .second, .val (.long q3), .second, .val (.int p4), .val (.ref b1), .val (.int (1 : Int32)), .val (.long q1), .second, .val (.int (1 : Int32)), .val (.int (1 : Int32))] [(.int (lcmpW q3 (0 : Int64))), (.int (1 : Int32))])) _
          refine XS.ifNo X67.here hx rfl (hb hby at_104) rfl ((if0 _ _).trans (flt (fun q => hc60 ((lw_lt _ _).mp q))).1) ?_
          show Steps p.tables e below (T67.setTop (mkF m 107 #[.val (.long q1), .second, .val (.long q2), .second, .val (.long q3), .second, .val (.int p4), .val (.ref b1), .val (.int (1 : Int32)), .val (.long q1), .second, .val (.int (1 : Int32)), .val (.int (1 : Int32))] [(.int (1 : Int32))])) _
          refine XS.iconst X67.here hx rfl (hb hby at_107) ?_
          show Steps p.tables e below (T67.setTop (mkF m 108 #[.val (.long q1), .second, .val (.long q2), .second, .val (.long q3), .second, .val (.int p4), .val (.ref b1), .val (.int (1 : Int32)), .val (.long q1), .second, .val (.int (1 : Int32)), .val (.int (1 : Int32))] [(.int (1 : Int32)), (.int (1 : Int32))])) _
          refine XS.goto X67.here hx rfl (pc0 := 108) (pc' := 112) rfl (hb hby at_108) (by decide) (by decide) ?_
          show Steps p.tables e below (T67.setTop (mkF m 112 #[.val (.long q1), .second, .val (.long q2), .second, .val (.long q3), .second, .val (.int p4), .val (.ref b1), .val (.int (1 : Int32)), .val (.long q1), .second, .val (.int (1 : Int32)), .val (.int (1 : Int32))] [(.int (1 : Int32)), (.int (1 : Int32))])) _
          refine XS.icmpNo X67.here hx rfl (hb hby at_112) rfl (teq (by decide : (1 : Int32) = (1 : Int32))).2 ?_
          show Steps p.tables e below (T67.setTop (mkF m 115 #[.val (.long q1), .second, .val (.long q2), .second, .val (.long q3), .second, .val (.int p4), .val (.ref b1), .val (.int (1 : Int32)), .val (.long q1), .second, .val (.int (1 : Int32)), .val (.int (1 : Int32))] [])) _
          refine XS.iconst X67.here hx rfl (hb hby at_115) ?_
          show Steps p.tables e below (T67.setTop (mkF m 116 #[.val (.long q1), .second, .val (.long q2), .second, .val (.long q3), .second, .val (.int p4), .val (.ref b1), .val (.int (1 : Int32)), .val (.long q1), .second, .val (.int (1 : Int32)), .val (.int (1 : Int32))] [(.int (1 : Int32))])) _
          refine XS.goto X67.here hx rfl (pc0 := 116) (pc' := 120) rfl (hb hby at_116) (by decide) (by decide) ?_
          exact k
        obtain ⟨fs, hrt, hrun, hended, hW, hsame⟩ := X67.leave (v := some (.int (1 : Int32))) (fun h => by rw [Bd.returns] at h; cases h)
        refine ⟨_, _, g68 _ ?_, hrun, hended, _, _, rfl, ?_, ⟨_, rfl⟩, hW, hsame.mono (by decide) (by decide)⟩
        · show Steps p.tables e below (T67.setTop (mkF m 120 #[.val (.long q1), .second, .val (.long q2), .second, .val (.long q3), .second, .val (.int p4), .val (.ref b1), .val (.int (1 : Int32)), .val (.long q1), .second, .val (.int (1 : Int32)), .val (.int (1 : Int32))] [(.int (1 : Int32))])) _
          exact retN X67 hx (t := .boolean) Bd.returns (by simp) (hb hby at_120) hrt
        · show own_Q_rm0 Z q1 q2 q3 p4 wS wJ wH wP wF wD h0 n0 _ T67.heap _
          rw [e67]
          exact ⟨rfl, N67⟩
set_option maxRecDepth 65536 in
set_option maxHeartbeats 40000000 in
theorem comes_1 {Post : Tables → Env → Array Value → State → Outcome → State → Prop} (hpost : ∀ tb e args s v u, (limb_1_1.after args s (.returned v) u = true ∧ limb_1_2.after args s (.returned v) u = true ∧ True) → FrameEnd s (.returned v) u (Jvm.fieldLocs frame_1_writes args s ++ Jvm.arrayLocs frame_1_arrays args s ++ Jvm.staticLocs frame_1_statics s) 24 192 → Post tb e args s (.returned v) u) :
    ArmFor flags0 classFile x code maxLocals ret World_1 tables_1 room_1 Calls_1 rest_1 Pre_1 Post := by
  intro l hfl _ _ p e ha hc hk s m args below hf hA hF happ hP
  obtain ⟨hcalls, hrest, hpre⟩ := hP
  obtain ⟨-, -, -, hnamed, -, -, -, hat⟩ := (Spec.applies_iff hf).mp happ
  obtain ⟨hg, hn⟩ := and_e (Cond.before_iff.mp (show (Jvm.Cond.and given_1 narrow_1).before args s = true from hpre))
  obtain ⟨h0a, h0b⟩ := and_e hg
  obtain ⟨h1a, h1b⟩ := and_e h0b
  obtain ⟨h2a, h2b⟩ := and_e h1b
  obtain ⟨h3a, h3b⟩ := and_e h2b
  obtain ⟨h4a, h4b⟩ := and_e hn
  obtain ⟨h5a, h5b⟩ := and_e h4b
  obtain ⟨h6a, h6b⟩ := and_e h5b
  obtain ⟨h7a, h7b⟩ := and_e h6b
  obtain ⟨w0, w1, w2, w3, rfl⟩ : ∃ w0 w1 w2 w3 : Value, args = #[w0, w1, w2, w3] := by
    have hs : args.size = 4 := by simpa [Cond.value, given_1] using h0a
    obtain ⟨L⟩ := args
    match L, hs with
    | [w0, w1, w2, w3], _ => exact ⟨w0, w1, w2, w3, rfl⟩
  have hw := fun d (hd : d ∈ tables_1) => atoms_spec (ws := Jvm.Cond.code x code maxLocals ret :: tables_1) hat d (List.mem_cons_of_mem _ hd)
  obtain ⟨hsets, hown0⟩ := atoms_of _ (rest_1_c_eq ▸ (show rest_1_c.before _ s = true from hrest))
  have hr0 := Cond.before_iff.mp hown0
  obtain ⟨i0, ei0⟩ := isL_v h1a
  obtain rfl : w0 = (.long i0) := Option.some.inj ei0
  obtain ⟨i1, ei1⟩ := isL_v h2a
  obtain rfl : w1 = (.long i1) := Option.some.inj ei1
  obtain ⟨i2, ei2⟩ := isL_v h3a
  obtain rfl : w2 = (.long i2) := Option.some.inj ei2
  obtain ⟨i3, ei3⟩ := is_v h3b
  obtain rfl : w3 = (.int i3) := Option.some.inj ei3
  obtain ⟨w_PROPOSAL, ew_PROPOSAL⟩ := exa_v h4a
  have S_PROPOSAL := Sta.start ew_PROPOSAL (Or.inr ⟨(hw _ (List.mem_of_getElem? (i := 63) rfl)), (hw _ (List.mem_of_getElem? (i := 64) rfl))⟩)
  have Ex_PROPOSAL : Exa s s.heap w_PROPOSAL "com/example/assemble_quorum/assemblequorum/service/Round$Phase" := Exa.start ew_PROPOSAL h4a
  obtain ⟨w_SEEDS, ew_SEEDS⟩ := exa_v h5a
  have S_SEEDS := Sta.start ew_SEEDS (Or.inr ⟨(hw _ (List.mem_of_getElem? (i := 63) rfl)), (hw _ (List.mem_of_getElem? (i := 156) rfl))⟩)
  have Ex_SEEDS : Exa s s.heap w_SEEDS "com/example/assemble_quorum/assemblequorum/service/Round$Phase" := Exa.start ew_SEEDS h5a
  obtain ⟨w_HEALTH, ew_HEALTH⟩ := exa_v h6a
  have S_HEALTH := Sta.start ew_HEALTH (Or.inr ⟨(hw _ (List.mem_of_getElem? (i := 63) rfl)), (hw _ (List.mem_of_getElem? (i := 158) rfl))⟩)
  have Ex_HEALTH : Exa s s.heap w_HEALTH "com/example/assemble_quorum/assemblequorum/service/Round$Phase" := Exa.start ew_HEALTH h6a
  obtain ⟨w_JOIN, ew_JOIN⟩ := exa_v h7a
  have S_JOIN := Sta.start ew_JOIN (Or.inr ⟨(hw _ (List.mem_of_getElem? (i := 63) rfl)), (hw _ (List.mem_of_getElem? (i := 160) rfl))⟩)
  have Ex_JOIN : Exa s s.heap w_JOIN "com/example/assemble_quorum/assemblequorum/service/Round$Phase" := Exa.start ew_JOIN h7a
  obtain ⟨w_FINAL, ew_FINAL⟩ := exa_v h7b
  have S_FINAL := Sta.start ew_FINAL (Or.inr ⟨(hw _ (List.mem_of_getElem? (i := 63) rfl)), (hw _ (List.mem_of_getElem? (i := 162) rfl))⟩)
  have Ex_FINAL : Exa s s.heap w_FINAL "com/example/assemble_quorum/assemblequorum/service/Round$Phase" := Exa.start ew_FINAL h7b
  obtain ⟨w_D, ew_D⟩ := exa_v (Cond.before_iff.mp (hsets _ (List.mem_of_getElem? (i := 7) rfl)))
  have S_D := Sta.start ew_D (Or.inr ⟨(hw _ (List.mem_of_getElem? (i := 67) rfl)), hsets _ (List.mem_of_getElem? (i := 2) rfl)⟩)
  obtain ⟨n, o, h1, h2, h3, _, L, rfl, ⟨rfl, N⟩, hq⟩ := rm0 l s _ hw tables_1 i0 i1 i2 i3 w_SEEDS w_JOIN w_HEALTH w_PROPOSAL w_FINAL w_D s.heap s.heap.size (Old.start s) ⟨S_SEEDS, S_JOIN, S_HEALTH, S_PROPOSAL, S_FINAL, S_D⟩ p e ha hc hk s m _ below hf ((Spec.applies_iff_loose hf).mp happ).1 ⟨rfl, State.Warmed39.refl s, rfl⟩ trivial
  refine ⟨n, _, h1, h2, h3, hpost _ _ _ _ _ _ ⟨Cond.after_iff.mpr rfl, Cond.after_iff.mpr (eq_i res_at (Term.int_eval (1)) rfl), trivial⟩ ⟨hq.1, hq.2.1, (hq.2.2.sift fun y hy => Or.inr (N y hy)).mono (by decide) (by decide)⟩⟩
theorem main_1_1 : Claimed_1_1 := comes_1 fun _ _ _ _ _ _ h hF => ⟨h.1, hF⟩
theorem main_1_2 : Claimed_1_2 := comes_1 fun _ _ _ _ _ _ h hF => ⟨h.2.1, hF⟩
end Jvm.Pilot.@@N@@
namespace Jvm.Pilot.@@N@@
open Jvm Jvm.ClassFile Sem Op Lib Jvm.Free Jvm.Stand Jvm.Pilot.@@N@@.Jvm.D
/-! MADE BY PROGRAM (witnessworld.py) out of the Statement's table words and the real class files: 30 classes; the members and pool entries that the words name. The judged class is class 1, her method 2. -/
namespace start1
open Jvm.ClassFile
def u (s : String) : CpInfo := .utf8 (stringToUtf16 s)
/-- a pool by its gaps: so many unusable entries, then the entry; so many at the end -/
def gap : Nat → List CpInfo → List CpInfo
  | 0, r => r
  | n + 1, r => .unusable :: gap n r
def poolList (es : List (Nat × CpInfo)) (last : Nat) : List CpInfo := es.foldr (fun e r => gap e.1 (e.2 :: r)) (gap last [])
def pool (es : List (Nat × CpInfo)) (last : Nat) : Array CpInfo := ⟨poolList es last⟩
def fileOf (pool : Array CpInfo) (this : Nat) (attrs : Array Attribute := #[]) (ms : Array MethodInfo := #[]) (fl : Nat := 33) (sup : Nat := 0) (ifs : Array Nat := #[]) (fds : Array FieldInfo := #[]) : ClassFile where
  minorVersion := 0
  majorVersion := 65
  constantPool := pool
  accessFlags := fl
  thisClass := this
  superClass := sup
  interfaces := ifs
  fields := fds
  methods := ms
  attributes := attrs
def plain (name : String) (sup : Option ClassId) : Class where
  name := name
  kind := .ordinary
  loader := none
  accessFlags := 33
  super := sup
  interfaces := #[]
  cf := none
  fields := #[]
  methods := #[]
  instanceTypes := #[]
  staticTypes := #[]
  resolved := #[]
  callSites := []
  init := .initialized
  statics := none
  mirror := none

def pool0 : Array CpInfo := pool [(5, u "<init>"), (0, u "()V"), (1, .class_ 10), (1, u "java/lang/Object")] 113

def k0c0 : Code := { maxStack := 0, maxLocals := 1, code := object_method_1_code, exceptionTable := #[], attributes := #[] }
def k0m0 : Method := { name := "<init>", desc := "()V", sig := { parameters := [], returnType := none }, accessFlags := 1, code := some k0c0 }
/-- java/lang/Object -/
def k0 : Class := { plain "java/lang/Object" none with
  accessFlags := 33
  interfaces := #[]
  cf := some (fileOf pool0 8 #[] #[{ accessFlags := 1, nameIndex := 5, descriptorIndex := 6, attributes := #[] }] 33 0 #[] #[])
  fields := #[]
  methods := #[k0m0]
  instanceTypes := #[]
  staticTypes := #[]
  resolved := Array.replicate 124 none
  statics := none }

def pool1 : Array CpInfo := pool [(2, .class_ 4), (0, .nameAndType 5 6), (0, u "java/lang/Object"), (0, u "<init>"), (0, u "()V"), (0, .fieldref 8 9), (0, .class_ 10), (0, .nameAndType 11 12), (0, u "com/example/assemble_quorum/assemblequorum/service/Round$Phase"), (0, u "SEEDS"), (0, u "Lcom/example/assemble_quorum/assemblequorum/service/Round$Phase;"), (0, .fieldref 8 14), (0, .nameAndType 15 12), (0, u "JOIN"), (0, .fieldref 8 17), (0, .nameAndType 18 12), (0, u "HEALTH"), (0, .fieldref 8 20), (0, .nameAndType 21 12), (0, u "PROPOSAL"), (0, .fieldref 8 23), (0, .nameAndType 24 12), (0, u "FINAL"), (0, .class_ 26), (0, u "com/example/assemble_quorum/assemblequorum/service/Round"), (0, .methodref 25 3), (0, .methodref 29 30), (0, .class_ 31), (0, .nameAndType 32 33), (0, u "com/example/assemble_quorum/assemblequorum/service/RoundExpiredPinLaw"), (0, u "pick"), (0, u "(I)Lcom/example/assemble_quorum/assemblequorum/service/Round$Phase;"), (0, .class_ 35), (0, u "java/util/ArrayList"), (0, .methodref 34 3), (0, .methodref 25 38), (0, .nameAndType 39 40), (0, u "enter"), (0, u "(Lcom/example/assemble_quorum/assemblequorum/service/Round$Phase;Ljava/util/Collection;J)V"), (0, .methodref 25 42), (0, .nameAndType 43 44), (0, u "expired"), (0, u "(J)Z"), (3, u "law"), (0, u "(JJJI)Z")] 4

def k1m0 : Method := { name := "<init>", desc := "()V", sig := { parameters := [], returnType := none }, accessFlags := 2, code := none }
def k1c1 : Code := { maxStack := 2, maxLocals := 1, code := method_2_code, exceptionTable := #[], attributes := #[] }
def k1m1 : Method := { name := "pick", desc := "(I)Lcom/example/assemble_quorum/assemblequorum/service/Round$Phase;", sig := { parameters := [.int], returnType := some (.object "com/example/assemble_quorum/assemblequorum/service/Round$Phase") }, accessFlags := 10, code := some k1c1 }
def k1c2 : Code := { maxStack := 5, maxLocals := 13, code := code, exceptionTable := #[], attributes := #[] }
def k1m2 : Method := { name := "law", desc := "(JJJI)Z", sig := { parameters := [.long, .long, .long, .int], returnType := some .boolean }, accessFlags := 9, code := some k1c2 }
/-- com/example/assemble_quorum/assemblequorum/service/RoundExpiredPinLaw -/
def k1 : Class := { plain "com/example/assemble_quorum/assemblequorum/service/RoundExpiredPinLaw" (some 0) with
  accessFlags := 49
  interfaces := #[]
  cf := some (fileOf pool1 29 #[] #[{ accessFlags := 2, nameIndex := 5, descriptorIndex := 6, attributes := #[] }, { accessFlags := 10, nameIndex := 32, descriptorIndex := 33, attributes := #[] }, { accessFlags := 9, nameIndex := 48, descriptorIndex := 49, attributes := #[] }] 49 2 #[] #[])
  fields := #[]
  methods := #[k1m0, k1m1, k1m2]
  instanceTypes := #[]
  staticTypes := #[]
  resolved := Array.replicate 54 none
  statics := none }

def pool2 : Array CpInfo := pool [(1, .methodref 2 3), (0, .class_ 4), (0, .nameAndType 5 6), (0, u "java/lang/Object"), (0, u "<init>"), (0, u "()V"), (0, .class_ 8), (0, u "java/util/HashSet"), (0, .methodref 7 3), (0, .fieldref 11 12), (0, .class_ 13), (0, .nameAndType 14 15), (0, u "com/example/assemble_quorum/assemblequorum/service/Round"), (0, u "awaited"), (0, u "Ljava/util/Set;"), (0, .fieldref 11 17), (0, .nameAndType 18 15), (0, u "votes"), (0, .fieldref 11 20), (0, .nameAndType 21 22), (0, u "phase"), (0, u "Lcom/example/assemble_quorum/assemblequorum/service/Round$Phase;"), (0, .fieldref 11 24), (0, .nameAndType 25 26), (0, u "deadlineNanos"), (0, u "J"), (0, .interfaceMethodref 28 29), (0, .class_ 30), (0, .nameAndType 31 6), (0, u "java/util/Set"), (0, u "clear"), (0, .interfaceMethodref 28 33), (0, .nameAndType 34 35), (0, u "addAll"), (0, u "(Ljava/util/Collection;)Z"), (16, .class_ 54), (1, u "com/example/assemble_quorum/assemblequorum/service/Round$Phase"), (7, u "enter"), (0, u "(Lcom/example/assemble_quorum/assemblequorum/service/Round$Phase;Ljava/util/Collection;J)V"), (2, u "target"), (0, u "Lcom/example/assemble_quorum/assemblequorum/model/MemberAddress;"), (2, u "seenVersion"), (11, u "version"), (2, u "number"), (0, u "Lcom/example/assemble_quorum/assemblequorum/model/ProposalNumber;"), (7, u "priorNumber"), (6, u "priorCandidate"), (5, u "expired"), (0, u "(J)Z")] 33

def k2c0 : Code := { maxStack := 3, maxLocals := 1, code := prog_46_method_1_code, exceptionTable := #[], attributes := #[] }
def k2m0 : Method := { name := "<init>", desc := "()V", sig := { parameters := [], returnType := none }, accessFlags := 0, code := some k2c0 }
def k2c1 : Code := { maxStack := 4, maxLocals := 3, code := prog_46_method_3_code, exceptionTable := #[], attributes := #[] }
def k2m1 : Method := { name := "expired", desc := "(J)Z", sig := { parameters := [.long], returnType := some .boolean }, accessFlags := 0, code := some k2c1 }
def k2c2 : Code := { maxStack := 3, maxLocals := 5, code := prog_46_method_4_code, exceptionTable := #[], attributes := #[] }
def k2m2 : Method := { name := "enter", desc := "(Lcom/example/assemble_quorum/assemblequorum/service/Round$Phase;Ljava/util/Collection;J)V", sig := { parameters := [(.object "com/example/assemble_quorum/assemblequorum/service/Round$Phase"), (.object "java/util/Collection"), .long], returnType := none }, accessFlags := 0, code := some k2c2 }
/-- com/example/assemble_quorum/assemblequorum/service/Round -/
def k2 : Class := { plain "com/example/assemble_quorum/assemblequorum/service/Round" (some 0) with
  accessFlags := 32
  interfaces := #[]
  cf := some (fileOf pool2 11 #[.nestMembers #[52]] #[{ accessFlags := 0, nameIndex := 5, descriptorIndex := 6, attributes := #[] }, { accessFlags := 0, nameIndex := 107, descriptorIndex := 108, attributes := #[] }, { accessFlags := 0, nameIndex := 62, descriptorIndex := 63, attributes := #[] }] 32 2 #[] #[{ accessFlags := 2, nameIndex := 21, descriptorIndex := 22, attributes := #[] }, { accessFlags := 2, nameIndex := 25, descriptorIndex := 26, attributes := #[] }, { accessFlags := 18, nameIndex := 14, descriptorIndex := 15, attributes := #[] }, { accessFlags := 18, nameIndex := 18, descriptorIndex := 15, attributes := #[] }, { accessFlags := 2, nameIndex := 66, descriptorIndex := 67, attributes := #[] }, { accessFlags := 2, nameIndex := 70, descriptorIndex := 26, attributes := #[] }, { accessFlags := 2, nameIndex := 82, descriptorIndex := 26, attributes := #[] }, { accessFlags := 2, nameIndex := 85, descriptorIndex := 86, attributes := #[] }, { accessFlags := 2, nameIndex := 94, descriptorIndex := 86, attributes := #[] }, { accessFlags := 2, nameIndex := 101, descriptorIndex := 67, attributes := #[] }])
  fields := #[{ name := "phase", type := (.object "com/example/assemble_quorum/assemblequorum/service/Round$Phase"), accessFlags := 2, slot := 0, constantValue := 0 }, { name := "deadlineNanos", type := .long, accessFlags := 2, slot := 1, constantValue := 0 }, { name := "awaited", type := (.object "java/util/Set"), accessFlags := 18, slot := 2, constantValue := 0 }, { name := "votes", type := (.object "java/util/Set"), accessFlags := 18, slot := 3, constantValue := 0 }, { name := "target", type := (.object "com/example/assemble_quorum/assemblequorum/model/MemberAddress"), accessFlags := 2, slot := 4, constantValue := 0 }, { name := "seenVersion", type := .long, accessFlags := 2, slot := 5, constantValue := 0 }, { name := "version", type := .long, accessFlags := 2, slot := 6, constantValue := 0 }, { name := "number", type := (.object "com/example/assemble_quorum/assemblequorum/model/ProposalNumber"), accessFlags := 2, slot := 7, constantValue := 0 }, { name := "priorNumber", type := (.object "com/example/assemble_quorum/assemblequorum/model/ProposalNumber"), accessFlags := 2, slot := 8, constantValue := 0 }, { name := "priorCandidate", type := (.object "com/example/assemble_quorum/assemblequorum/model/MemberAddress"), accessFlags := 2, slot := 9, constantValue := 0 }]
  methods := #[k2m0, k2m1, k2m2]
  instanceTypes := #[(.object "com/example/assemble_quorum/assemblequorum/service/Round$Phase"), .long, (.object "java/util/Set"), (.object "java/util/Set"), (.object "com/example/assemble_quorum/assemblequorum/model/MemberAddress"), .long, .long, (.object "com/example/assemble_quorum/assemblequorum/model/ProposalNumber"), (.object "com/example/assemble_quorum/assemblequorum/model/ProposalNumber"), (.object "com/example/assemble_quorum/assemblequorum/model/MemberAddress")]
  staticTypes := #[]
  resolved := Array.replicate 142 none
  statics := none }

def pool3 : Array CpInfo := pool [(8, .class_ 10), (1, u "java/lang/Iterable"), (24, .class_ 36), (0, u "java/lang/Object")] 25

/-- java/lang/Iterable -/
def k3 : Class := { plain "java/lang/Iterable" (some 0) with
  accessFlags := 1537
  interfaces := #[]
  cf := some (fileOf pool3 8 #[] #[] 1537 35 #[] #[])
  fields := #[]
  methods := #[]
  instanceTypes := #[]
  staticTypes := #[]
  resolved := Array.replicate 62 none
  statics := none }

def pool4 : Array CpInfo := pool [(10, .class_ 12), (1, u "java/util/Collection"), (10, u "iterator"), (0, u "()Ljava/util/Iterator;"), (35, .class_ 61), (0, u "java/lang/Object"), (0, .class_ 63), (0, u "java/lang/Iterable")] 51

def k4m0 : Method := { name := "iterator", desc := "()Ljava/util/Iterator;", sig := { parameters := [], returnType := some (.object "java/util/Iterator") }, accessFlags := 1025, code := none }
/-- java/util/Collection -/
def k4 : Class := { plain "java/util/Collection" (some 0) with
  accessFlags := 1537
  interfaces := #[3]
  cf := some (fileOf pool4 10 #[] #[{ accessFlags := 1025, nameIndex := 23, descriptorIndex := 24, attributes := #[] }] 1537 60 #[62] #[])
  fields := #[]
  methods := #[k4m0]
  instanceTypes := #[]
  staticTypes := #[]
  resolved := Array.replicate 115 none
  statics := none }

def pool5 : Array CpInfo := pool [(1, .methodref 2 3), (0, .class_ 4), (0, .nameAndType 5 6), (0, u "java/lang/Object"), (0, u "<init>"), (0, u "()V"), (1, .class_ 10), (1, u "java/util/AbstractCollection"), (3, .nameAndType 15 16), (0, u "iterator"), (0, u "()Ljava/util/Iterator;"), (0, .interfaceMethodref 18 19), (0, .class_ 20), (0, .nameAndType 21 22), (0, u "java/util/Iterator"), (0, u "hasNext"), (0, u "()Z"), (53, .interfaceMethodref 77 14), (0, .class_ 78), (0, u "java/util/Collection"), (63, u "(Ljava/util/Collection;)Z"), (4, u "addAll")] 12

def k5c0 : Code := { maxStack := 1, maxLocals := 1, code := jdk_22_method_1_code, exceptionTable := #[], attributes := #[] }
def k5m0 : Method := { name := "<init>", desc := "()V", sig := { parameters := [], returnType := none }, accessFlags := 4, code := some k5c0 }
def k5c1 : Code := { maxStack := 2, maxLocals := 5, code := jdk_22_method_12_code, exceptionTable := #[], attributes := #[] }
def k5m1 : Method := { name := "addAll", desc := "(Ljava/util/Collection;)Z", sig := { parameters := [(.object "java/util/Collection")], returnType := some .boolean }, accessFlags := 1, code := some k5c1 }
/-- java/util/AbstractCollection -/
def k5 : Class := { plain "java/util/AbstractCollection" (some 0) with
  accessFlags := 1057
  interfaces := #[4]
  cf := some (fileOf pool5 8 #[] #[{ accessFlags := 4, nameIndex := 5, descriptorIndex := 6, attributes := #[] }, { accessFlags := 1, nameIndex := 147, descriptorIndex := 142, attributes := #[] }] 1057 2 #[77] #[])
  fields := #[]
  methods := #[k5m0, k5m1]
  instanceTypes := #[]
  staticTypes := #[]
  resolved := Array.replicate 160 none
  statics := none }

def pool6 : Array CpInfo := pool [(26, .class_ 27), (0, u "java/lang/Object"), (5, .class_ 34), (0, u "java/util/Set"), (1, .class_ 38), (1, u "java/util/Collection"), (32, u "(Ljava/util/Collection;)Z"), (1, u "addAll"), (3, u "clear"), (0, u "()V")] 65

def k6m0 : Method := { name := "addAll", desc := "(Ljava/util/Collection;)Z", sig := { parameters := [(.object "java/util/Collection")], returnType := some .boolean }, accessFlags := 1025, code := none }
def k6m1 : Method := { name := "clear", desc := "()V", sig := { parameters := [], returnType := none }, accessFlags := 1025, code := none }
/-- java/util/Set -/
def k6 : Class := { plain "java/util/Set" (some 0) with
  accessFlags := 1537
  interfaces := #[4]
  cf := some (fileOf pool6 33 #[] #[{ accessFlags := 1025, nameIndex := 73, descriptorIndex := 71, attributes := #[] }, { accessFlags := 1025, nameIndex := 77, descriptorIndex := 78, attributes := #[] }] 1537 26 #[36] #[])
  fields := #[]
  methods := #[k6m0, k6m1]
  instanceTypes := #[]
  staticTypes := #[]
  resolved := Array.replicate 144 none
  statics := none }

def pool7 : Array CpInfo := pool [(1, .methodref 2 3), (0, .class_ 4), (0, .nameAndType 5 6), (0, u "java/util/AbstractCollection"), (0, u "<init>"), (0, u "()V"), (0, .class_ 8), (0, u "java/util/Set"), (7, .class_ 17), (0, u "java/util/AbstractSet")] 78

def k7c0 : Code := { maxStack := 1, maxLocals := 1, code := jdk_91_method_1_code, exceptionTable := #[], attributes := #[] }
def k7m0 : Method := { name := "<init>", desc := "()V", sig := { parameters := [], returnType := none }, accessFlags := 4, code := some k7c0 }
/-- java/util/AbstractSet -/
def k7 : Class := { plain "java/util/AbstractSet" (some 5) with
  accessFlags := 1057
  interfaces := #[6]
  cf := some (fileOf pool7 16 #[] #[{ accessFlags := 4, nameIndex := 5, descriptorIndex := 6, attributes := #[] }] 1057 2 #[7] #[])
  fields := #[]
  methods := #[k7m0]
  instanceTypes := #[]
  staticTypes := #[]
  resolved := Array.replicate 96 none
  statics := none }

def pool8 : Array CpInfo := pool [(1, .class_ 2), (0, u "java/lang/Cloneable"), (0, .class_ 4), (0, u "java/lang/Object")] 2

/-- java/lang/Cloneable -/
def k8 : Class := { plain "java/lang/Cloneable" (some 0) with
  accessFlags := 1537
  interfaces := #[]
  cf := some (fileOf pool8 1 #[] #[] 1537 3 #[] #[])
  fields := #[]
  methods := #[]
  instanceTypes := #[]
  staticTypes := #[]
  resolved := Array.replicate 7 none
  statics := none }

def pool9 : Array CpInfo := pool [(1, .class_ 2), (0, u "java/io/Serializable"), (0, .class_ 4), (0, u "java/lang/Object")] 2

/-- java/io/Serializable -/
def k9 : Class := { plain "java/io/Serializable" (some 0) with
  accessFlags := 1537
  interfaces := #[]
  cf := some (fileOf pool9 1 #[] #[] 1537 3 #[] #[])
  fields := #[]
  methods := #[]
  instanceTypes := #[]
  staticTypes := #[]
  resolved := Array.replicate 7 none
  statics := none }

def pool10 : Array CpInfo := pool [(1, .methodref 2 3), (0, .class_ 4), (0, .nameAndType 5 6), (0, u "java/util/AbstractSet"), (0, u "<init>"), (0, u "()V"), (0, .class_ 8), (0, u "java/util/HashMap"), (0, .methodref 7 3), (0, .fieldref 11 12), (0, .class_ 13), (0, .nameAndType 14 15), (0, u "java/util/HashSet"), (0, u "map"), (0, u "Ljava/util/HashMap;"), (34, .class_ 52), (1, u "java/util/Set"), (13, u "PRESENT"), (0, u "Ljava/lang/Object;"), (8, .methodref 7 77), (0, .nameAndType 78 6), (0, u "clear"), (147, .class_ 227), (0, u "java/lang/Cloneable"), (0, .class_ 229), (0, u "java/io/Serializable"), (0, u "serialVersionUID"), (0, u "J")] 71

def k10c0 : Code := { maxStack := 3, maxLocals := 1, code := jdk_93_method_1_code, exceptionTable := #[], attributes := #[] }
def k10m0 : Method := { name := "<init>", desc := "()V", sig := { parameters := [], returnType := none }, accessFlags := 1, code := some k10c0 }
def k10c1 : Code := { maxStack := 1, maxLocals := 1, code := jdk_93_method_12_code, exceptionTable := #[], attributes := #[] }
def k10m1 : Method := { name := "clear", desc := "()V", sig := { parameters := [], returnType := none }, accessFlags := 1, code := some k10c1 }
/-- java/util/HashSet -/
def k10 : Class := { plain "java/util/HashSet" (some 7) with
  accessFlags := 33
  interfaces := #[6, 8, 9]
  cf := some (fileOf pool10 11 #[] #[{ accessFlags := 1, nameIndex := 5, descriptorIndex := 6, attributes := #[] }, { accessFlags := 1, nameIndex := 78, descriptorIndex := 6, attributes := #[] }] 33 2 #[50, 226, 228] #[{ accessFlags := 24, nameIndex := 230, descriptorIndex := 231, attributes := #[] }, { accessFlags := 128, nameIndex := 14, descriptorIndex := 15, attributes := #[] }, { accessFlags := 24, nameIndex := 66, descriptorIndex := 67, attributes := #[] }])
  fields := #[{ name := "serialVersionUID", type := .long, accessFlags := 24, slot := 0, constantValue := 0 }, { name := "map", type := (.object "java/util/HashMap"), accessFlags := 128, slot := 0, constantValue := 0 }, { name := "PRESENT", type := (.object "java/lang/Object"), accessFlags := 24, slot := 1, constantValue := 0 }]
  methods := #[k10m0, k10m1]
  instanceTypes := #[(.object "java/util/HashMap")]
  staticTypes := #[.long, (.object "java/lang/Object")]
  resolved := Array.replicate 303 none
  statics := none }

def pool11 : Array CpInfo := pool [(2, .class_ 4), (1, u "java/util/Map"), (31, .class_ 37), (0, u "java/util/Map$Entry"), (55, .class_ 94), (0, u "java/lang/Object")] 168

/-- java/util/Map -/
def k11 : Class := { plain "java/util/Map" (some 0) with
  accessFlags := 1537
  interfaces := #[]
  cf := some (fileOf pool11 2 #[.nestMembers #[36]] #[] 1537 93 #[] #[])
  fields := #[]
  methods := #[]
  instanceTypes := #[]
  staticTypes := #[]
  resolved := Array.replicate 263 none
  statics := none }

def pool12 : Array CpInfo := pool [(1, .methodref 2 3), (0, .class_ 4), (0, .nameAndType 5 6), (0, u "java/lang/Object"), (0, u "<init>"), (0, u "()V"), (1, .class_ 10), (1, u "java/util/AbstractMap"), (42, .class_ 54), (0, u "java/util/Map"), (9, u "keySet"), (0, u "Ljava/util/Set;"), (0, .class_ 67), (0, u "java/util/AbstractMap$1"), (5, u "values"), (0, u "Ljava/util/Collection;"), (0, .class_ 76), (0, u "java/util/AbstractMap$2"), (104, .class_ 182), (0, u "java/util/AbstractMap$ViewCollection"), (0, .class_ 184), (0, u "java/util/AbstractMap$SimpleImmutableEntry"), (0, .class_ 186), (0, u "java/util/AbstractMap$SimpleEntry"), (0, .class_ 188), (0, u "java/util/AbstractMap$2$1"), (0, .class_ 190), (0, u "java/util/AbstractMap$1$1")] 5

def k12c0 : Code := { maxStack := 1, maxLocals := 1, code := jdk_71_method_1_code, exceptionTable := #[], attributes := #[] }
def k12m0 : Method := { name := "<init>", desc := "()V", sig := { parameters := [], returnType := none }, accessFlags := 4, code := some k12c0 }
/-- java/util/AbstractMap -/
def k12 : Class := { plain "java/util/AbstractMap" (some 0) with
  accessFlags := 1057
  interfaces := #[11]
  cf := some (fileOf pool12 8 #[.nestMembers #[181, 183, 185, 75, 187, 66, 189]] #[{ accessFlags := 4, nameIndex := 5, descriptorIndex := 6, attributes := #[] }] 1057 2 #[53] #[{ accessFlags := 128, nameIndex := 64, descriptorIndex := 65, attributes := #[] }, { accessFlags := 128, nameIndex := 73, descriptorIndex := 74, attributes := #[] }])
  fields := #[{ name := "keySet", type := (.object "java/util/Set"), accessFlags := 128, slot := 0, constantValue := 0 }, { name := "values", type := (.object "java/util/Collection"), accessFlags := 128, slot := 1, constantValue := 0 }]
  methods := #[k12m0]
  instanceTypes := #[(.object "java/util/Set"), (.object "java/util/Collection")]
  staticTypes := #[]
  resolved := Array.replicate 196 none
  statics := none }

def pool13 : Array CpInfo := pool [(40, .class_ 41), (0, u "java/util/HashMap"), (1, .methodref 44 45), (0, .class_ 46), (0, .nameAndType 47 48), (0, u "java/util/AbstractMap"), (0, u "<init>"), (0, u "()V"), (32, .fieldref 40 82), (0, .nameAndType 83 84), (0, u "loadFactor"), (0, u "F"), (5, u "threshold"), (0, u "I"), (0, .float 1061158912), (8, .class_ 103), (1, u "java/util/Map"), (0, u "size"), (0, .fieldref 40 106), (0, .nameAndType 107 108), (0, u "table"), (0, u "[Ljava/util/HashMap$Node;"), (14, u "entrySet"), (39, .class_ 165), (1, u "java/util/HashMap$Node"), (14, .class_ 181), (0, u "java/util/HashMap$TreeNode"), (20, .fieldref 40 203), (0, .nameAndType 204 91), (0, u "modCount"), (37, u "Ljava/util/Set;"), (0, .class_ 244), (0, u "java/util/HashMap$KeySet"), (18, .class_ 264), (0, u "java/util/HashMap$Values"), (3, .class_ 269), (0, u "java/util/HashMap$EntrySet"), (76, .class_ 348), (1, u "java/util/HashMap$UnsafeHolder"), (43, .class_ 393), (0, u "java/lang/Cloneable"), (0, .class_ 395), (0, u "java/io/Serializable"), (0, u "serialVersionUID"), (0, u "J"), (3, u "DEFAULT_INITIAL_CAPACITY"), (1, u "MAXIMUM_CAPACITY"), (0, u "DEFAULT_LOAD_FACTOR"), (0, u "TREEIFY_THRESHOLD"), (1, u "UNTREEIFY_THRESHOLD"), (1, u "MIN_TREEIFY_CAPACITY"), (92, u "clear"), (93, .class_ 597), (0, u "java/util/HashMap$EntrySpliterator"), (0, .class_ 599), (0, u "java/util/HashMap$ValueSpliterator"), (0, .class_ 601), (0, u "java/util/HashMap$KeySpliterator"), (0, .class_ 603), (0, u "java/util/HashMap$HashMapSpliterator"), (0, .class_ 605), (0, u "java/util/HashMap$EntryIterator"), (0, .class_ 607), (0, u "java/util/HashMap$ValueIterator"), (0, .class_ 609), (0, u "java/util/HashMap$KeyIterator"), (0, .class_ 611), (0, u "java/util/HashMap$HashIterator")] 17

def k13c0 : Code := { maxStack := 2, maxLocals := 1, code := jdk_69_method_7_code, exceptionTable := #[], attributes := #[] }
def k13m0 : Method := { name := "<init>", desc := "()V", sig := { parameters := [], returnType := none }, accessFlags := 1, code := some k13c0 }
def k13c1 : Code := { maxStack := 3, maxLocals := 3, code := jdk_69_method_22_code, exceptionTable := #[], attributes := #[] }
def k13m1 : Method := { name := "clear", desc := "()V", sig := { parameters := [], returnType := none }, accessFlags := 1, code := some k13c1 }
/-- java/util/HashMap -/
def k13 : Class := { plain "java/util/HashMap" (some 12) with
  accessFlags := 33
  interfaces := #[11, 8, 9]
  cf := some (fileOf pool13 40 #[.nestMembers #[180, 596, 598, 600, 602, 604, 606, 608, 610, 346, 268, 263, 243, 163]] #[{ accessFlags := 1, nameIndex := 47, descriptorIndex := 48, attributes := #[] }, { accessFlags := 1, nameIndex := 502, descriptorIndex := 48, attributes := #[] }] 33 44 #[101, 392, 394] #[{ accessFlags := 26, nameIndex := 396, descriptorIndex := 397, attributes := #[] }, { accessFlags := 24, nameIndex := 401, descriptorIndex := 91, attributes := #[] }, { accessFlags := 24, nameIndex := 403, descriptorIndex := 91, attributes := #[] }, { accessFlags := 24, nameIndex := 404, descriptorIndex := 84, attributes := #[] }, { accessFlags := 24, nameIndex := 405, descriptorIndex := 91, attributes := #[] }, { accessFlags := 24, nameIndex := 407, descriptorIndex := 91, attributes := #[] }, { accessFlags := 24, nameIndex := 409, descriptorIndex := 91, attributes := #[] }, { accessFlags := 128, nameIndex := 107, descriptorIndex := 108, attributes := #[] }, { accessFlags := 128, nameIndex := 123, descriptorIndex := 242, attributes := #[] }, { accessFlags := 128, nameIndex := 104, descriptorIndex := 91, attributes := #[] }, { accessFlags := 128, nameIndex := 204, descriptorIndex := 91, attributes := #[] }, { accessFlags := 0, nameIndex := 90, descriptorIndex := 91, attributes := #[] }, { accessFlags := 16, nameIndex := 83, descriptorIndex := 84, attributes := #[] }])
  fields := #[{ name := "serialVersionUID", type := .long, accessFlags := 26, slot := 0, constantValue := 0 }, { name := "DEFAULT_INITIAL_CAPACITY", type := .int, accessFlags := 24, slot := 1, constantValue := 0 }, { name := "MAXIMUM_CAPACITY", type := .int, accessFlags := 24, slot := 2, constantValue := 0 }, { name := "DEFAULT_LOAD_FACTOR", type := .float, accessFlags := 24, slot := 3, constantValue := 0 }, { name := "TREEIFY_THRESHOLD", type := .int, accessFlags := 24, slot := 4, constantValue := 0 }, { name := "UNTREEIFY_THRESHOLD", type := .int, accessFlags := 24, slot := 5, constantValue := 0 }, { name := "MIN_TREEIFY_CAPACITY", type := .int, accessFlags := 24, slot := 6, constantValue := 0 }, { name := "table", type := (.array (.object "java/util/HashMap$Node")), accessFlags := 128, slot := 2, constantValue := 0 }, { name := "entrySet", type := (.object "java/util/Set"), accessFlags := 128, slot := 3, constantValue := 0 }, { name := "size", type := .int, accessFlags := 128, slot := 4, constantValue := 0 }, { name := "modCount", type := .int, accessFlags := 128, slot := 5, constantValue := 0 }, { name := "threshold", type := .int, accessFlags := 0, slot := 6, constantValue := 0 }, { name := "loadFactor", type := .float, accessFlags := 16, slot := 7, constantValue := 0 }]
  methods := #[k13m0, k13m1]
  instanceTypes := #[(.object "java/util/Set"), (.object "java/util/Collection"), (.array (.object "java/util/HashMap$Node")), (.object "java/util/Set"), .int, .int, .int, .float]
  staticTypes := #[.long, .int, .int, .float, .int, .int, .int]
  resolved := Array.replicate 629 none
  statics := none }

def pool14 : Array CpInfo := pool [(1, .class_ 2), (0, u "java/lang/constant/Constable"), (0, .class_ 4), (0, u "java/lang/Object")] 6

/-- java/lang/constant/Constable -/
def k14 : Class := { plain "java/lang/constant/Constable" (some 0) with
  accessFlags := 1537
  interfaces := #[]
  cf := some (fileOf pool14 1 #[] #[] 1537 3 #[] #[])
  fields := #[]
  methods := #[]
  instanceTypes := #[]
  staticTypes := #[]
  resolved := Array.replicate 11 none
  statics := none }

def pool15 : Array CpInfo := pool [(1, .class_ 2), (0, u "java/lang/Comparable"), (0, .class_ 4), (0, u "java/lang/Object")] 7

/-- java/lang/Comparable -/
def k15 : Class := { plain "java/lang/Comparable" (some 0) with
  accessFlags := 1537
  interfaces := #[]
  cf := some (fileOf pool15 1 #[] #[] 1537 3 #[] #[])
  fields := #[]
  methods := #[]
  instanceTypes := #[]
  staticTypes := #[]
  resolved := Array.replicate 12 none
  statics := none }

def pool16 : Array CpInfo := pool [(2, .class_ 4), (1, u "java/lang/Enum"), (0, u "name"), (0, u "Ljava/lang/String;"), (2, u "ordinal"), (0, u "I"), (1, .class_ 14), (1, u "java/lang/Object"), (4, u "hash"), (86, .class_ 108), (1, u "java/lang/Enum$EnumDesc"), (2, .class_ 112), (0, u "java/lang/constant/Constable"), (0, .class_ 114), (0, u "java/lang/Comparable"), (0, .class_ 116), (0, u "java/io/Serializable")] 87

/-- java/lang/Enum -/
def k16 : Class := { plain "java/lang/Enum" (some 0) with
  accessFlags := 1057
  interfaces := #[14, 15, 9]
  cf := some (fileOf pool16 2 #[.nestMembers #[106]] #[] 1057 12 #[111, 113, 115] #[{ accessFlags := 18, nameIndex := 5, descriptorIndex := 6, attributes := #[] }, { accessFlags := 18, nameIndex := 9, descriptorIndex := 10, attributes := #[] }, { accessFlags := 2, nameIndex := 19, descriptorIndex := 10, attributes := #[] }])
  fields := #[{ name := "name", type := (.object "java/lang/String"), accessFlags := 18, slot := 0, constantValue := 0 }, { name := "ordinal", type := .int, accessFlags := 18, slot := 1, constantValue := 0 }, { name := "hash", type := .int, accessFlags := 2, slot := 2, constantValue := 0 }]
  methods := #[]
  instanceTypes := #[(.object "java/lang/String"), .int, .int]
  staticTypes := #[]
  resolved := Array.replicate 204 none
  statics := none }

def pool17 : Array CpInfo := pool [(1, .class_ 2), (0, u "com/example/assemble_quorum/assemblequorum/service/Round$Phase"), (2, u "SEEDS"), (0, u "Lcom/example/assemble_quorum/assemblequorum/service/Round$Phase;"), (2, u "JOIN"), (2, u "HEALTH"), (2, u "PROPOSAL"), (2, u "FINAL"), (2, u "$VALUES"), (0, u "[Lcom/example/assemble_quorum/assemblequorum/service/Round$Phase;"), (6, .class_ 31), (1, u "java/lang/Enum"), (28, .class_ 61), (0, u "com/example/assemble_quorum/assemblequorum/service/Round")] 2

/-- com/example/assemble_quorum/assemblequorum/service/Round$Phase -/
def k17 : Class := { plain "com/example/assemble_quorum/assemblequorum/service/Round$Phase" (some 16) with
  accessFlags := 16432
  interfaces := #[]
  cf := some (fileOf pool17 1 #[.nestHost 60] #[] 16432 29 #[] #[{ accessFlags := 16409, nameIndex := 5, descriptorIndex := 6, attributes := #[] }, { accessFlags := 16409, nameIndex := 9, descriptorIndex := 6, attributes := #[] }, { accessFlags := 16409, nameIndex := 12, descriptorIndex := 6, attributes := #[] }, { accessFlags := 16409, nameIndex := 15, descriptorIndex := 6, attributes := #[] }, { accessFlags := 16409, nameIndex := 18, descriptorIndex := 6, attributes := #[] }, { accessFlags := 4122, nameIndex := 21, descriptorIndex := 22, attributes := #[] }])
  fields := #[{ name := "SEEDS", type := (.object "com/example/assemble_quorum/assemblequorum/service/Round$Phase"), accessFlags := 16409, slot := 0, constantValue := 0 }, { name := "JOIN", type := (.object "com/example/assemble_quorum/assemblequorum/service/Round$Phase"), accessFlags := 16409, slot := 1, constantValue := 0 }, { name := "HEALTH", type := (.object "com/example/assemble_quorum/assemblequorum/service/Round$Phase"), accessFlags := 16409, slot := 2, constantValue := 0 }, { name := "PROPOSAL", type := (.object "com/example/assemble_quorum/assemblequorum/service/Round$Phase"), accessFlags := 16409, slot := 3, constantValue := 0 }, { name := "FINAL", type := (.object "com/example/assemble_quorum/assemblequorum/service/Round$Phase"), accessFlags := 16409, slot := 4, constantValue := 0 }, { name := "$VALUES", type := (.array (.object "com/example/assemble_quorum/assemblequorum/service/Round$Phase")), accessFlags := 4122, slot := 5, constantValue := 0 }]
  methods := #[]
  instanceTypes := #[(.object "java/lang/String"), .int, .int]
  staticTypes := #[(.object "com/example/assemble_quorum/assemblequorum/service/Round$Phase"), (.object "com/example/assemble_quorum/assemblequorum/service/Round$Phase"), (.object "com/example/assemble_quorum/assemblequorum/service/Round$Phase"), (.object "com/example/assemble_quorum/assemblequorum/service/Round$Phase"), (.object "com/example/assemble_quorum/assemblequorum/service/Round$Phase"), (.array (.object "com/example/assemble_quorum/assemblequorum/service/Round$Phase"))]
  resolved := Array.replicate 64 none
  statics := some 0 }

def pool18 : Array CpInfo := pool [(8, .class_ 10), (1, u "java/util/SequencedCollection"), (15, .class_ 27), (0, u "java/lang/Object"), (0, .class_ 29), (0, u "java/util/Collection")] 27

/-- java/util/SequencedCollection -/
def k18 : Class := { plain "java/util/SequencedCollection" (some 0) with
  accessFlags := 1537
  interfaces := #[4]
  cf := some (fileOf pool18 8 #[] #[] 1537 26 #[28] #[])
  fields := #[]
  methods := #[]
  instanceTypes := #[]
  staticTypes := #[]
  resolved := Array.replicate 57 none
  statics := none }

def pool19 : Array CpInfo := pool [(8, .class_ 10), (1, u "java/util/List"), (92, .class_ 104), (0, u "java/lang/Object"), (15, .class_ 121), (0, u "java/util/SequencedCollection")] 129

/-- java/util/List -/
def k19 : Class := { plain "java/util/List" (some 0) with
  accessFlags := 1537
  interfaces := #[18]
  cf := some (fileOf pool19 8 #[] #[] 1537 103 #[120] #[])
  fields := #[]
  methods := #[]
  instanceTypes := #[]
  staticTypes := #[]
  resolved := Array.replicate 251 none
  statics := none }

def pool20 : Array CpInfo := pool [(1, .methodref 2 3), (0, .class_ 4), (0, .nameAndType 5 6), (0, u "java/util/AbstractCollection"), (0, u "<init>"), (0, u "()V"), (0, .fieldref 8 9), (0, .class_ 10), (0, .nameAndType 11 12), (0, u "java/util/AbstractList"), (0, u "modCount"), (0, u "I"), (64, .class_ 78), (0, u "java/util/AbstractList$Itr"), (3, .class_ 83), (0, u "java/util/AbstractList$ListItr"), (9, .class_ 94), (0, u "java/util/AbstractList$RandomAccessSubList"), (3, .class_ 99), (0, u "java/util/AbstractList$SubList"), (33, .class_ 134), (0, u "java/util/List"), (73, .class_ 209), (0, u "java/util/AbstractList$SubList$1"), (0, .class_ 211), (0, u "java/util/AbstractList$RandomAccessSpliterator")] 6

def k20c0 : Code := { maxStack := 2, maxLocals := 1, code := jdk_39_method_1_code, exceptionTable := #[], attributes := #[] }
def k20m0 : Method := { name := "<init>", desc := "()V", sig := { parameters := [], returnType := none }, accessFlags := 4, code := some k20c0 }
/-- java/util/AbstractList -/
def k20 : Class := { plain "java/util/AbstractList" (some 5) with
  accessFlags := 1057
  interfaces := #[19]
  cf := some (fileOf pool20 8 #[.nestMembers #[93, 98, 208, 210, 82, 77]] #[{ accessFlags := 4, nameIndex := 5, descriptorIndex := 6, attributes := #[] }] 1057 2 #[133] #[{ accessFlags := 132, nameIndex := 11, descriptorIndex := 12, attributes := #[] }])
  fields := #[{ name := "modCount", type := .int, accessFlags := 132, slot := 0, constantValue := 0 }]
  methods := #[k20m0]
  instanceTypes := #[.int]
  staticTypes := #[]
  resolved := Array.replicate 218 none
  statics := none }

def pool21 : Array CpInfo := pool [(1, .class_ 2), (0, u "java/util/RandomAccess"), (0, .class_ 4), (0, u "java/lang/Object")] 2

/-- java/util/RandomAccess -/
def k21 : Class := { plain "java/util/RandomAccess" (some 0) with
  accessFlags := 1537
  interfaces := #[]
  cf := some (fileOf pool21 1 #[] #[] 1537 3 #[] #[])
  fields := #[]
  methods := #[]
  instanceTypes := #[]
  staticTypes := #[]
  resolved := Array.replicate 7 none
  statics := none }

def pool22 : Array CpInfo := pool [(1, .methodref 2 3), (0, .class_ 4), (0, .nameAndType 5 6), (0, u "java/util/AbstractList"), (0, u "<init>"), (0, u "()V"), (2, .fieldref 10 11), (0, .class_ 12), (0, .nameAndType 13 14), (0, u "java/util/ArrayList"), (0, u "elementData"), (0, u "[Ljava/lang/Object;"), (2, u "EMPTY_ELEMENTDATA"), (21, .fieldref 10 40), (0, .nameAndType 41 14), (0, u "DEFAULTCAPACITY_EMPTY_ELEMENTDATA"), (8, u "size"), (0, u "I"), (96, .class_ 149), (0, u "java/util/List"), (16, u "iterator"), (0, u "()Ljava/util/Iterator;"), (94, .class_ 263), (0, u "java/util/ArrayList$ListItr"), (3, .class_ 268), (0, u "java/util/ArrayList$Itr"), (0, .methodref 267 270), (0, .nameAndType 5 271), (0, u "(Ljava/util/ArrayList;)V"), (4, .class_ 277), (0, u "java/util/ArrayList$SubList"), (12, .class_ 291), (0, u "java/util/ArrayList$ArrayListSpliterator"), (37, .class_ 330), (0, u "java/util/RandomAccess"), (0, .class_ 332), (0, u "java/lang/Cloneable"), (0, .class_ 334), (0, u "java/io/Serializable"), (0, u "serialVersionUID"), (0, u "J"), (3, u "DEFAULT_CAPACITY"), (159, .class_ 501), (0, u "java/util/ArrayList$SubList$2"), (0, .class_ 503), (0, u "java/util/ArrayList$SubList$1")] 5

def k22c0 : Code := { maxStack := 2, maxLocals := 1, code := jdk_38_method_2_code, exceptionTable := #[], attributes := #[] }
def k22m0 : Method := { name := "<init>", desc := "()V", sig := { parameters := [], returnType := none }, accessFlags := 1, code := some k22c0 }
def k22c1 : Code := { maxStack := 3, maxLocals := 1, code := jdk_38_method_55_code, exceptionTable := #[], attributes := #[] }
def k22m1 : Method := { name := "iterator", desc := "()Ljava/util/Iterator;", sig := { parameters := [], returnType := some (.object "java/util/Iterator") }, accessFlags := 1, code := some k22c1 }
/-- java/util/ArrayList -/
def k22 : Class := { plain "java/util/ArrayList" (some 20) with
  accessFlags := 33
  interfaces := #[19, 21, 8, 9]
  cf := some (fileOf pool22 10 #[.nestMembers #[290, 276, 500, 502, 262, 267]] #[{ accessFlags := 1, nameIndex := 5, descriptorIndex := 6, attributes := #[] }, { accessFlags := 1, nameIndex := 166, descriptorIndex := 167, attributes := #[] }] 33 2 #[148, 329, 331, 333] #[{ accessFlags := 26, nameIndex := 335, descriptorIndex := 336, attributes := #[] }, { accessFlags := 26, nameIndex := 340, descriptorIndex := 51, attributes := #[] }, { accessFlags := 26, nameIndex := 17, descriptorIndex := 14, attributes := #[] }, { accessFlags := 26, nameIndex := 41, descriptorIndex := 14, attributes := #[] }, { accessFlags := 128, nameIndex := 13, descriptorIndex := 14, attributes := #[] }, { accessFlags := 2, nameIndex := 50, descriptorIndex := 51, attributes := #[] }])
  fields := #[{ name := "serialVersionUID", type := .long, accessFlags := 26, slot := 0, constantValue := 0 }, { name := "DEFAULT_CAPACITY", type := .int, accessFlags := 26, slot := 1, constantValue := 0 }, { name := "EMPTY_ELEMENTDATA", type := (.array (.object "java/lang/Object")), accessFlags := 26, slot := 2, constantValue := 0 }, { name := "DEFAULTCAPACITY_EMPTY_ELEMENTDATA", type := (.array (.object "java/lang/Object")), accessFlags := 26, slot := 3, constantValue := 0 }, { name := "elementData", type := (.array (.object "java/lang/Object")), accessFlags := 128, slot := 1, constantValue := 0 }, { name := "size", type := .int, accessFlags := 2, slot := 2, constantValue := 0 }]
  methods := #[k22m0, k22m1]
  instanceTypes := #[.int, (.array (.object "java/lang/Object")), .int]
  staticTypes := #[.long, .int, (.array (.object "java/lang/Object")), (.array (.object "java/lang/Object"))]
  resolved := Array.replicate 509 none
  statics := some 1 }

def pool23 : Array CpInfo := pool [(16, .class_ 18), (1, u "java/util/Iterator"), (0, u "hasNext"), (0, u "()Z"), (10, .class_ 32), (0, u "java/lang/Object")] 20

def k23m0 : Method := { name := "hasNext", desc := "()Z", sig := { parameters := [], returnType := some .boolean }, accessFlags := 1025, code := none }
/-- java/util/Iterator -/
def k23 : Class := { plain "java/util/Iterator" (some 0) with
  accessFlags := 1537
  interfaces := #[]
  cf := some (fileOf pool23 16 #[] #[{ accessFlags := 1025, nameIndex := 19, descriptorIndex := 20, attributes := #[] }] 1537 31 #[] #[])
  fields := #[]
  methods := #[k23m0]
  instanceTypes := #[]
  staticTypes := #[]
  resolved := Array.replicate 53 none
  statics := none }

def pool24 : Array CpInfo := pool [(1, .fieldref 2 3), (0, .class_ 4), (0, .nameAndType 5 6), (0, u "java/util/ArrayList$Itr"), (0, u "this$0"), (0, u "Ljava/util/ArrayList;"), (0, .methodref 8 9), (0, .class_ 10), (0, .nameAndType 11 12), (0, u "java/lang/Object"), (0, u "<init>"), (0, u "()V"), (0, .fieldref 2 14), (0, .nameAndType 15 16), (0, u "lastRet"), (0, u "I"), (0, .fieldref 18 19), (0, .class_ 20), (0, .nameAndType 21 16), (0, u "java/util/ArrayList"), (0, u "modCount"), (0, .fieldref 2 23), (0, .nameAndType 24 16), (0, u "expectedModCount"), (0, .fieldref 2 26), (0, .nameAndType 27 16), (0, u "cursor"), (0, .fieldref 18 29), (0, .nameAndType 30 16), (0, u "size"), (38, .class_ 70), (0, u "java/util/Iterator"), (0, u "(Ljava/util/ArrayList;)V"), (8, u "hasNext"), (0, u "()Z")] 22

def k24c0 : Code := { maxStack := 2, maxLocals := 2, code := jdk_49_method_1_code, exceptionTable := #[], attributes := #[] }
def k24m0 : Method := { name := "<init>", desc := "(Ljava/util/ArrayList;)V", sig := { parameters := [(.object "java/util/ArrayList")], returnType := none }, accessFlags := 0, code := some k24c0 }
def k24c1 : Code := { maxStack := 2, maxLocals := 1, code := jdk_49_method_2_code, exceptionTable := #[], attributes := #[] }
def k24m1 : Method := { name := "hasNext", desc := "()Z", sig := { parameters := [], returnType := some .boolean }, accessFlags := 1, code := some k24c1 }
/-- java/util/ArrayList$Itr -/
def k24 : Class := { plain "java/util/ArrayList$Itr" (some 0) with
  accessFlags := 32
  interfaces := #[23]
  cf := some (fileOf pool24 2 #[.nestHost 18] #[{ accessFlags := 0, nameIndex := 11, descriptorIndex := 71, attributes := #[] }, { accessFlags := 1, nameIndex := 80, descriptorIndex := 81, attributes := #[] }] 32 8 #[69] #[{ accessFlags := 0, nameIndex := 27, descriptorIndex := 16, attributes := #[] }, { accessFlags := 0, nameIndex := 15, descriptorIndex := 16, attributes := #[] }, { accessFlags := 0, nameIndex := 24, descriptorIndex := 16, attributes := #[] }, { accessFlags := 4112, nameIndex := 5, descriptorIndex := 6, attributes := #[] }])
  fields := #[{ name := "cursor", type := .int, accessFlags := 0, slot := 0, constantValue := 0 }, { name := "lastRet", type := .int, accessFlags := 0, slot := 1, constantValue := 0 }, { name := "expectedModCount", type := .int, accessFlags := 0, slot := 2, constantValue := 0 }, { name := "this$0", type := (.object "java/util/ArrayList"), accessFlags := 4112, slot := 3, constantValue := 0 }]
  methods := #[k24m0, k24m1]
  instanceTypes := #[.int, .int, .int, (.object "java/util/ArrayList")]
  staticTypes := #[]
  resolved := Array.replicate 104 none
  statics := none }

/-- the primitive byte -/
def k25 : Class := { plain "byte" none with kind := .primitive 'B', accessFlags := 0x411 }
/-- [B -/
def k26 : Class := { plain "[B" (some 0) with kind := .array 25 .byte, interfaces := #[8, 9], accessFlags := 1041 }

/-- the primitive int -/
def k27 : Class := { plain "int" none with kind := .primitive 'I', accessFlags := 0x411 }
/-- [I -/
def k28 : Class := { plain "[I" (some 0) with kind := .array 27 .int, interfaces := #[8, 9], accessFlags := 1041 }

/-- [Ljava/lang/Object; -/
def k29 : Class := { plain "[Ljava/lang/Object;" (some 0) with kind := .array 0 (.object "java/lang/Object"), interfaces := #[8, 9], accessFlags := 1041 }

def heap : Heap := #[{ cls := 17, slots := #[.ref 2, .ref 3, .ref 4, .ref 5, .ref 6, .null], vm := .statics 17 },
  { cls := 22, slots := #[.long 0, .int 0, .ref 7, .ref 8], vm := .statics 22 },
  { cls := 17, slots := #[.null, .int 0, .int 0], vm := .none },
  { cls := 17, slots := #[.null, .int 1, .int 0], vm := .none },
  { cls := 17, slots := #[.null, .int 2, .int 0], vm := .none },
  { cls := 17, slots := #[.null, .int 3, .int 0], vm := .none },
  { cls := 17, slots := #[.null, .int 4, .int 0], vm := .none },
  { cls := 29, slots := #[], vm := .none },
  { cls := 29, slots := #[], vm := .none }]
def classes : Array Class := #[k0, k1, k2, k3, k4, k5, k6, k7, k8, k9, k10, k11, k12, k13, k14, k15, k16, k17, k18, k19, k20, k21, k22, k23, k24, k25, k26, k27, k28, k29]
def interned : List (Array UInt16 × Addr) := []
def slotsUsed : Nat := 25
def theMethod : MethodId := ⟨1, 2⟩
def args0 : Array Value := #[.long 5, .long 7, .long 9, .int 5]
def aboutOver (below : List Frame) : State where
  vm := { classes := classes, interned := interned.toArray }
  heap := heap
  slotsUsed := slotsUsed
  threads := #[{ frames := .invoking theMethod args0 :: below }]
def below0 : List Frame := [.native { method := ⟨0, 0⟩, args := #[] }]
def about1 : State := aboutOver below0
def p0 : Program := .bare "" "" ""
def e0 : Env := launch0.env 0 0 0
theorem w_frames : about1.frames = Frame.invoking theMethod args0 :: below0 := rfl
set_option maxRecDepth 65536 in
theorem w_args : argsFit about1.vm theMethod args0 = true := by decide +kernel
set_option maxRecDepth 65536 in
theorem w_heap : heapFits about1 = true := by decide +kernel
set_option maxRecDepth 65536 in
theorem w_runnable : about1.curStatus? = some .runnable := by decide +kernel
set_option maxRecDepth 65536 in
theorem w_alone : about1.alone = true := by decide +kernel
set_option maxRecDepth 65536 in
theorem w_named : about1.methodNamed? x = some theMethod := by decide +kernel
set_option maxRecDepth 65536 in
theorem w_hears : about1.hears theMethod below0 = true := by decide +kernel
set_option maxRecDepth 65536 in
theorem w_ripe : about1.ripe theMethod args0 below0 = true := by decide +kernel
theorem w_running : about1.status = .running := rfl
set_option maxRecDepth 65536 in
theorem w_room : about1.hasRoom e0.platform room_1 = true :=
  launch0.hasRoom_least _ room_1 (by decide +kernel) (by decide +kernel) (by decide +kernel) (by decide +kernel) (by decide +kernel) (by decide +kernel)
theorem allAtoms_all (ts : List Jvm.Cond) (a : Array Jvm.Value) (st : Jvm.State) : (allAtoms ts).before a st = ts.all (fun c => c.before a st) := by
  induction ts with
  | nil => rfl
  | cons c t ih =>
    show (Jvm.Cond.and c (allAtoms t)).before a st = _
    rw [Jvm.Cond.before_and, ih, List.all_cons]
def words1 : List Jvm.Cond := Jvm.Cond.code x code maxLocals ret :: tables_1
/-- a 'code' word, met by the world's own term for the bytes: nothing is compared byte by byte -/
theorem code_word {y : MethodName} {bytes : ByteArray} {mx : Nat} {rt : Option FieldType} {a : Array Value} {s : State} {m : MethodId} {meth : Method} {c : Code} (h1 : s.methodNamed? y = some m) (h2 : s.vm.method? m = some meth) (h3 : meth.code = some c) (h4 : c.code = bytes)
    (h5 : (c.maxLocals == mx && c.exceptionTable.isEmpty && decide (c.maxStack ≤ mostOperands) && decide (meth.sig.returnType = rt) && !meth.locks && decide (parseMethodDescriptor y.desc = some meth.sig)) = true) : (Jvm.Cond.code y bytes mx rt).before a s = true := by
  simp only [Bool.and_eq_true, beq_iff_eq, Bool.not_eq_true', decide_eq_true_eq] at h5
  obtain ⟨⟨⟨⟨⟨g1, g2⟩, g3⟩, g4⟩, g5⟩, g6⟩ := h5
  simp [Cond.before, Cond.holds, Cond.value, h1, h2, h3, h4, g1, g2, g3, g4, g5, g6]
def isCode : Jvm.Cond → Bool
  | .code _ _ _ _ => true
  | _ => false
theorem all_split {L : List Jvm.Cond} {P : Jvm.Cond → Bool} (h1 : L.all (fun c => isCode c || P c) = true) (h2 : ∀ c ∈ L.filter isCode, P c = true) : L.all P = true := by
  refine List.all_eq_true.mpr fun c hc => ?_
  have h := List.all_eq_true.mp h1 c hc
  rcases Bool.eq_false_or_eq_true (isCode c) with hi | hi
  · exact h2 c (List.mem_filter.mpr ⟨hc, hi⟩)
  · simpa [hi] using h
set_option maxRecDepth 65536 in
theorem w_c0 : (Jvm.Cond.code x code maxLocals ret).before args0 about1 = true := code_word (m := ⟨1, 2⟩) (meth := k1m2) (c := k1c2) (by decide +kernel) rfl rfl rfl (by decide +kernel)
set_option maxRecDepth 65536 in
theorem w_c1 : (Jvm.Cond.code ({ cls := "com/example/assemble_quorum/assemblequorum/service/Round", name := "<init>", desc := "()V" } : Jvm.MethodName) prog_46_method_1_code (1 : Nat) (Option.none : Option Jvm.ClassFile.FieldType)).before args0 about1 = true := code_word (m := ⟨2, 0⟩) (meth := k2m0) (c := k2c0) (by decide +kernel) rfl rfl rfl (by decide +kernel)
set_option maxRecDepth 65536 in
theorem w_c2 : (Jvm.Cond.code ({ cls := "java/lang/Object", name := "<init>", desc := "()V" } : Jvm.MethodName) object_method_1_code (1 : Nat) (Option.none : Option Jvm.ClassFile.FieldType)).before args0 about1 = true := code_word (m := ⟨0, 0⟩) (meth := k0m0) (c := k0c0) (by decide +kernel) rfl rfl rfl (by decide +kernel)
set_option maxRecDepth 65536 in
theorem w_c3 : (Jvm.Cond.code ({ cls := "java/util/HashSet", name := "<init>", desc := "()V" } : Jvm.MethodName) jdk_93_method_1_code (1 : Nat) (Option.none : Option Jvm.ClassFile.FieldType)).before args0 about1 = true := code_word (m := ⟨10, 0⟩) (meth := k10m0) (c := k10c0) (by decide +kernel) rfl rfl rfl (by decide +kernel)
set_option maxRecDepth 65536 in
theorem w_c4 : (Jvm.Cond.code ({ cls := "java/util/AbstractSet", name := "<init>", desc := "()V" } : Jvm.MethodName) jdk_91_method_1_code (1 : Nat) (Option.none : Option Jvm.ClassFile.FieldType)).before args0 about1 = true := code_word (m := ⟨7, 0⟩) (meth := k7m0) (c := k7c0) (by decide +kernel) rfl rfl rfl (by decide +kernel)
set_option maxRecDepth 65536 in
theorem w_c5 : (Jvm.Cond.code ({ cls := "java/util/AbstractCollection", name := "<init>", desc := "()V" } : Jvm.MethodName) jdk_22_method_1_code (1 : Nat) (Option.none : Option Jvm.ClassFile.FieldType)).before args0 about1 = true := code_word (m := ⟨5, 0⟩) (meth := k5m0) (c := k5c0) (by decide +kernel) rfl rfl rfl (by decide +kernel)
set_option maxRecDepth 65536 in
theorem w_c6 : (Jvm.Cond.code ({ cls := "java/util/HashMap", name := "<init>", desc := "()V" } : Jvm.MethodName) jdk_69_method_7_code (1 : Nat) (Option.none : Option Jvm.ClassFile.FieldType)).before args0 about1 = true := code_word (m := ⟨13, 0⟩) (meth := k13m0) (c := k13c0) (by decide +kernel) rfl rfl rfl (by decide +kernel)
set_option maxRecDepth 65536 in
theorem w_c7 : (Jvm.Cond.code ({ cls := "java/util/AbstractMap", name := "<init>", desc := "()V" } : Jvm.MethodName) jdk_71_method_1_code (1 : Nat) (Option.none : Option Jvm.ClassFile.FieldType)).before args0 about1 = true := code_word (m := ⟨12, 0⟩) (meth := k12m0) (c := k12c0) (by decide +kernel) rfl rfl rfl (by decide +kernel)
set_option maxRecDepth 65536 in
theorem w_c8 : (Jvm.Cond.code ({ cls := "com/example/assemble_quorum/assemblequorum/service/Round", name := "expired", desc := "(J)Z" } : Jvm.MethodName) prog_46_method_3_code (3 : Nat) (Option.some Jvm.ClassFile.FieldType.boolean)).before args0 about1 = true := code_word (m := ⟨2, 1⟩) (meth := k2m1) (c := k2c1) (by decide +kernel) rfl rfl rfl (by decide +kernel)
set_option maxRecDepth 65536 in
theorem w_c9 : (Jvm.Cond.code ({ cls := "com/example/assemble_quorum/assemblequorum/service/RoundExpiredPinLaw", name := "pick", desc := "(I)Lcom/example/assemble_quorum/assemblequorum/service/Round$Phase;" } : Jvm.MethodName) method_2_code (1 : Nat) (Option.some (Jvm.ClassFile.FieldType.object "com/example/assemble_quorum/assemblequorum/service/Round$Phase"))).before args0 about1 = true := code_word (m := ⟨1, 1⟩) (meth := k1m1) (c := k1c1) (by decide +kernel) rfl rfl rfl (by decide +kernel)
set_option maxRecDepth 65536 in
theorem w_c10 : (Jvm.Cond.code ({ cls := "java/util/ArrayList", name := "<init>", desc := "()V" } : Jvm.MethodName) jdk_38_method_2_code (1 : Nat) (Option.none : Option Jvm.ClassFile.FieldType)).before args0 about1 = true := code_word (m := ⟨22, 0⟩) (meth := k22m0) (c := k22c0) (by decide +kernel) rfl rfl rfl (by decide +kernel)
set_option maxRecDepth 65536 in
theorem w_c11 : (Jvm.Cond.code ({ cls := "java/util/AbstractList", name := "<init>", desc := "()V" } : Jvm.MethodName) jdk_39_method_1_code (1 : Nat) (Option.none : Option Jvm.ClassFile.FieldType)).before args0 about1 = true := code_word (m := ⟨20, 0⟩) (meth := k20m0) (c := k20c0) (by decide +kernel) rfl rfl rfl (by decide +kernel)
set_option maxRecDepth 65536 in
theorem w_c12 : (Jvm.Cond.code ({ cls := "com/example/assemble_quorum/assemblequorum/service/Round", name := "enter", desc := "(Lcom/example/assemble_quorum/assemblequorum/service/Round$Phase;Ljava/util/Collection;J)V" } : Jvm.MethodName) prog_46_method_4_code (5 : Nat) (Option.none : Option Jvm.ClassFile.FieldType)).before args0 about1 = true := code_word (m := ⟨2, 2⟩) (meth := k2m2) (c := k2c2) (by decide +kernel) rfl rfl rfl (by decide +kernel)
set_option maxRecDepth 65536 in
theorem w_c13 : (Jvm.Cond.code ({ cls := "java/util/HashSet", name := "clear", desc := "()V" } : Jvm.MethodName) jdk_93_method_12_code (1 : Nat) (Option.none : Option Jvm.ClassFile.FieldType)).before args0 about1 = true := code_word (m := ⟨10, 1⟩) (meth := k10m1) (c := k10c1) (by decide +kernel) rfl rfl rfl (by decide +kernel)
set_option maxRecDepth 65536 in
theorem w_c14 : (Jvm.Cond.code ({ cls := "java/util/HashMap", name := "clear", desc := "()V" } : Jvm.MethodName) jdk_69_method_22_code (3 : Nat) (Option.none : Option Jvm.ClassFile.FieldType)).before args0 about1 = true := code_word (m := ⟨13, 1⟩) (meth := k13m1) (c := k13c1) (by decide +kernel) rfl rfl rfl (by decide +kernel)
set_option maxRecDepth 65536 in
theorem w_c15 : (Jvm.Cond.code ({ cls := "java/util/AbstractCollection", name := "addAll", desc := "(Ljava/util/Collection;)Z" } : Jvm.MethodName) jdk_22_method_12_code (5 : Nat) (Option.some Jvm.ClassFile.FieldType.boolean)).before args0 about1 = true := code_word (m := ⟨5, 1⟩) (meth := k5m1) (c := k5c1) (by decide +kernel) rfl rfl rfl (by decide +kernel)
set_option maxRecDepth 65536 in
theorem w_c16 : (Jvm.Cond.code ({ cls := "java/util/ArrayList", name := "iterator", desc := "()Ljava/util/Iterator;" } : Jvm.MethodName) jdk_38_method_55_code (1 : Nat) (Option.some (Jvm.ClassFile.FieldType.object "java/util/Iterator"))).before args0 about1 = true := code_word (m := ⟨22, 1⟩) (meth := k22m1) (c := k22c1) (by decide +kernel) rfl rfl rfl (by decide +kernel)
set_option maxRecDepth 65536 in
theorem w_c17 : (Jvm.Cond.code ({ cls := "java/util/ArrayList$Itr", name := "<init>", desc := "(Ljava/util/ArrayList;)V" } : Jvm.MethodName) jdk_49_method_1_code (2 : Nat) (Option.none : Option Jvm.ClassFile.FieldType)).before args0 about1 = true := code_word (m := ⟨24, 0⟩) (meth := k24m0) (c := k24c0) (by decide +kernel) rfl rfl rfl (by decide +kernel)
set_option maxRecDepth 65536 in
theorem w_c18 : (Jvm.Cond.code ({ cls := "java/util/ArrayList$Itr", name := "hasNext", desc := "()Z" } : Jvm.MethodName) jdk_49_method_2_code (1 : Nat) (Option.some Jvm.ClassFile.FieldType.boolean)).before args0 about1 = true := code_word (m := ⟨24, 1⟩) (meth := k24m1) (c := k24c1) (by decide +kernel) rfl rfl rfl (by decide +kernel)
def codes1 : List Jvm.Cond := [Jvm.Cond.code x code maxLocals ret, Jvm.Cond.code ({ cls := "com/example/assemble_quorum/assemblequorum/service/Round", name := "<init>", desc := "()V" } : Jvm.MethodName) prog_46_method_1_code (1 : Nat) (Option.none : Option Jvm.ClassFile.FieldType), Jvm.Cond.code ({ cls := "java/lang/Object", name := "<init>", desc := "()V" } : Jvm.MethodName) object_method_1_code (1 : Nat) (Option.none : Option Jvm.ClassFile.FieldType), Jvm.Cond.code ({ cls := "java/util/HashSet", name := "<init>", desc := "()V" } : Jvm.MethodName) jdk_93_method_1_code (1 : Nat) (Option.none : Option Jvm.ClassFile.FieldType), Jvm.Cond.code ({ cls := "java/util/AbstractSet", name := "<init>", desc := "()V" } : Jvm.MethodName) jdk_91_method_1_code (1 : Nat) (Option.none : Option Jvm.ClassFile.FieldType), Jvm.Cond.code ({ cls := "java/util/AbstractCollection", name := "<init>", desc := "()V" } : Jvm.MethodName) jdk_22_method_1_code (1 : Nat) (Option.none : Option Jvm.ClassFile.FieldType), Jvm.Cond.code ({ cls := "java/util/HashMap", name := "<init>", desc := "()V" } : Jvm.MethodName) jdk_69_method_7_code (1 : Nat) (Option.none : Option Jvm.ClassFile.FieldType), Jvm.Cond.code ({ cls := "java/util/AbstractMap", name := "<init>", desc := "()V" } : Jvm.MethodName) jdk_71_method_1_code (1 : Nat) (Option.none : Option Jvm.ClassFile.FieldType), Jvm.Cond.code ({ cls := "com/example/assemble_quorum/assemblequorum/service/Round", name := "expired", desc := "(J)Z" } : Jvm.MethodName) prog_46_method_3_code (3 : Nat) (Option.some Jvm.ClassFile.FieldType.boolean), Jvm.Cond.code ({ cls := "com/example/assemble_quorum/assemblequorum/service/RoundExpiredPinLaw", name := "pick", desc := "(I)Lcom/example/assemble_quorum/assemblequorum/service/Round$Phase;" } : Jvm.MethodName) method_2_code (1 : Nat) (Option.some (Jvm.ClassFile.FieldType.object "com/example/assemble_quorum/assemblequorum/service/Round$Phase")), Jvm.Cond.code ({ cls := "java/util/ArrayList", name := "<init>", desc := "()V" } : Jvm.MethodName) jdk_38_method_2_code (1 : Nat) (Option.none : Option Jvm.ClassFile.FieldType), Jvm.Cond.code ({ cls := "java/util/AbstractList", name := "<init>", desc := "()V" } : Jvm.MethodName) jdk_39_method_1_code (1 : Nat) (Option.none : Option Jvm.ClassFile.FieldType), Jvm.Cond.code ({ cls := "com/example/assemble_quorum/assemblequorum/service/Round", name := "enter", desc := "(Lcom/example/assemble_quorum/assemblequorum/service/Round$Phase;Ljava/util/Collection;J)V" } : Jvm.MethodName) prog_46_method_4_code (5 : Nat) (Option.none : Option Jvm.ClassFile.FieldType), Jvm.Cond.code ({ cls := "java/util/HashSet", name := "clear", desc := "()V" } : Jvm.MethodName) jdk_93_method_12_code (1 : Nat) (Option.none : Option Jvm.ClassFile.FieldType), Jvm.Cond.code ({ cls := "java/util/HashMap", name := "clear", desc := "()V" } : Jvm.MethodName) jdk_69_method_22_code (3 : Nat) (Option.none : Option Jvm.ClassFile.FieldType), Jvm.Cond.code ({ cls := "java/util/AbstractCollection", name := "addAll", desc := "(Ljava/util/Collection;)Z" } : Jvm.MethodName) jdk_22_method_12_code (5 : Nat) (Option.some Jvm.ClassFile.FieldType.boolean), Jvm.Cond.code ({ cls := "java/util/ArrayList", name := "iterator", desc := "()Ljava/util/Iterator;" } : Jvm.MethodName) jdk_38_method_55_code (1 : Nat) (Option.some (Jvm.ClassFile.FieldType.object "java/util/Iterator")), Jvm.Cond.code ({ cls := "java/util/ArrayList$Itr", name := "<init>", desc := "(Ljava/util/ArrayList;)V" } : Jvm.MethodName) jdk_49_method_1_code (2 : Nat) (Option.none : Option Jvm.ClassFile.FieldType), Jvm.Cond.code ({ cls := "java/util/ArrayList$Itr", name := "hasNext", desc := "()Z" } : Jvm.MethodName) jdk_49_method_2_code (1 : Nat) (Option.some Jvm.ClassFile.FieldType.boolean)]
set_option maxRecDepth 65536 in
theorem codes_eq : words1.filter isCode = codes1 := rfl
theorem w_codes : ∀ c ∈ words1.filter isCode, c.before args0 about1 = true := by
  rw [codes_eq]
  intro c hc
  simp only [codes1, List.mem_cons, List.not_mem_nil, or_false] at hc
  rcases hc with rfl | rfl | rfl | rfl | rfl | rfl | rfl | rfl | rfl | rfl | rfl | rfl | rfl | rfl | rfl | rfl | rfl | rfl | rfl
  · exact w_c0
  · exact w_c1
  · exact w_c2
  · exact w_c3
  · exact w_c4
  · exact w_c5
  · exact w_c6
  · exact w_c7
  · exact w_c8
  · exact w_c9
  · exact w_c10
  · exact w_c11
  · exact w_c12
  · exact w_c13
  · exact w_c14
  · exact w_c15
  · exact w_c16
  · exact w_c17
  · exact w_c18
set_option maxRecDepth 65536 in
theorem w_t1 : (words1.take 24).all (fun c => isCode c || c.before args0 about1) = true := by decide +kernel
set_option maxRecDepth 65536 in
theorem w_t2 : ((words1.drop 24).take 24).all (fun c => isCode c || c.before args0 about1) = true := by decide +kernel
set_option maxRecDepth 65536 in
theorem w_t3 : (((words1.drop 24).drop 24).take 24).all (fun c => isCode c || c.before args0 about1) = true := by decide +kernel
set_option maxRecDepth 65536 in
theorem w_t4 : ((((words1.drop 24).drop 24).drop 24).take 24).all (fun c => isCode c || c.before args0 about1) = true := by decide +kernel
set_option maxRecDepth 65536 in
theorem w_t5 : (((((words1.drop 24).drop 24).drop 24).drop 24).take 24).all (fun c => isCode c || c.before args0 about1) = true := by decide +kernel
set_option maxRecDepth 65536 in
theorem w_t6 : ((((((words1.drop 24).drop 24).drop 24).drop 24).drop 24).take 24).all (fun c => isCode c || c.before args0 about1) = true := by decide +kernel
set_option maxRecDepth 65536 in
theorem w_t7 : ((((((words1.drop 24).drop 24).drop 24).drop 24).drop 24).drop 24).all (fun c => isCode c || c.before args0 about1) = true := by decide +kernel
theorem w_tables : (allAtoms (Jvm.Cond.code x code maxLocals ret :: tables_1)).before args0 about1 = true := by
  rw [allAtoms_all]
  show words1.all (fun c => c.before args0 about1) = true
  refine all_split ?_ w_codes
  rw [← List.take_append_drop 24 words1, List.all_append, w_t1, ← List.take_append_drop 24 (words1.drop 24), List.all_append, w_t2, ← List.take_append_drop 24 ((words1.drop 24).drop 24), List.all_append, w_t3, ← List.take_append_drop 24 (((words1.drop 24).drop 24).drop 24), List.all_append, w_t4, ← List.take_append_drop 24 ((((words1.drop 24).drop 24).drop 24).drop 24), List.all_append, w_t5, ← List.take_append_drop 24 (((((words1.drop 24).drop 24).drop 24).drop 24).drop 24), List.all_append, w_t6, w_t7]
  rfl
set_option maxRecDepth 65536 in
theorem w_rest : rest_1_c.before args0 about1 = true := by decide +kernel
set_option maxRecDepth 65536 in
theorem w_case : (Jvm.Cond.and given_1 narrow_1).before args0 about1 = true := by decide +kernel
theorem w_applies : (headSpec (Jvm.Cond.code x code maxLocals ret :: tables_1) room_1).applies x e0.platform about1 = true :=
  (Spec.applies_iff w_frames).mpr ⟨w_running, w_runnable, w_alone, w_named, w_hears, w_ripe, w_room, w_tables⟩
theorem atStart : AtStart classFile x code maxLocals ret World_1 tables_1 room_1 Calls_1 rest_1 Pre_1 launch0 p0 e0 about1 theMethod args0 below0 :=
  ⟨lists_1, trivial, launch0.admits_env _ _ _, launch0.least_env, fairChoices_fair.cas, fairChoices_fair.clock, w_frames, w_args, w_heap, w_applies, trivial, w_rest, w_case⟩
end start1
theorem witness_1 : WitnessClaimed_1 := ⟨start1.p0, start1.e0, start1.about1, start1.theMethod, start1.args0, start1.below0, start1.atStart⟩
end Jvm.Pilot.@@N@@
