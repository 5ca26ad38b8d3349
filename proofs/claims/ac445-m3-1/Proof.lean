import JvmDerived
import JvmDerived.Pilot.@@N@@Statement
import JvmDerived.Pilot.@@N@@Code
set_option linter.unusedVariables false
set_option linter.unusedSimpArgs false
namespace Jvm.RoadKit
open Sem ClassFile Op Lib Jvm.Stand Jvm.Free Jvm.LawKit
section New
variable {p : Program} {l : Launch} {e : Env} {R : Room} {s : State} {m : MethodId} {args : Array Value} {below : List Frame} {meth : Method} {c : Code} {T : State} {locs : List Loc} {cells slots : Nat}
theorem retI (X : Stand p l e R s m args below meth c T locs cells slots) (hx : p.tables.exec = Jvm.exec) {pc : Nat} {Ls : Array Slot} {z : Int32} {rest : List Value} (hret : meth.sig.returnType = some .int) (hd : decode c.code pc = .ok (.ireturn, 1)) {fs : List Frame}
    (hl : ∀ (f : JFrame) (acts : List Action), f.method = m → f.locked = none → f.entered = [] → (doReturn e (T.setTop f) acts (some (.int z))).1 = T.setFrames fs) : Steps p.tables e below (T.setTop (mkF m pc Ls (.int z :: rest))) (T.setFrames fs) := by
  have hm' : T.vm.method? m = some meth := X.method'
  have hn : narrow .int (.int z) = .int z := rfl
  show Steps p.tables e below (T.setTop { method := m, pc := pc, locals := Ls, stack := _ :: rest, locked := none }) _
  jvm_step X.here [X.here.top, hx, hd, hm', hret, hn]
  first | (intro acts; rw [hl _ acts rfl rfl rfl]) | rw [hl _ _ rfl rfl rfl]
  exact Steps.refl _
end New
end Jvm.RoadKit
namespace Jvm.Pilot.@@N@@
open Jvm Jvm.ClassFile Sem Op Lib Jvm.Free Jvm.Stand Jvm.LawKit Jvm.RoadKit Bundle Jvm.Pilot.@@N@@.Jvm.D
theorem own_irem (x y : Int32) : x - (x / y) * y = x % y := by
  apply Int32.toInt_inj.mp
  have h1 := Int32.le_toInt (x % y)
  have h2 := Int32.toInt_lt (x % y)
  rw [Int32.toInt_sub, Int32.toInt_mul, Int32.toInt_div, Int.bmod_mul_bmod, Int.sub_bmod_bmod, Int.mul_comm (x.toInt.tdiv y.toInt), ← Int.tmod_def, ← Int32.toInt_mod]
  exact Int.bmod_eq_of_le_mul_two (by omega) (by omega)
theorem own_getR {p : Program} {l : Launch} {e : Env} {R : Room} {s : State} {m : MethodId} {args : Array Value} {below : List Frame} {meth : Method} {c : Code} {T : State} {locs : List Loc} {cells slots : Nat} {Z : State} {a0 : Array Value} {h : Heap}
    (X : Stand p l e R s m args below meth c T locs cells slots) (hx : p.tables.exec = Jvm.exec) (hZ : Z.Warmed39 s.vm) {own O n d : String} {index : Nat} (hown : s.vm.findClass own = some m.cls) (w : (Cond.fieldRef own index O n d).before a0 Z = true)
    (eT : T.heap = h) {a : Addr} {v : Value} (F : Fld Z h a O n d v) {g : JFrame} (hg : g.method = m) {rest : List Value} (hs : g.stack = .ref a :: rest) (hd : decode c.code g.pc = .ok (.getfield index, 3)) :
    ∃ T', Stand p l e R s m args below meth c T' locs cells slots ∧ T'.heap = h ∧ ∀ target, Steps p.tables e below (T'.setTop { g with pc := g.pc + 3, stack := v :: rest }) target → Steps p.tables e below (T.setTop g) target := by
  have hT : Z.Warmed39 T.vm := wtrans hZ X.warmed
  have w' := Cond.fieldRef_warmed39 hT w
  have hc : (Z.setVm T.vm).vm.findClass own = some m.cls := by
    rw [show (Z.setVm T.vm).vm = T.vm from rfl, X.warmed.alike.findClass]; exact hown
  obtain ⟨cf, k, i, f, hff, hready⟩ := Cond.fieldRef_spec hc w'
  obtain ⟨cell, cf', k', i', f', q1, q2, q3, q4, q5, q6, q7⟩ := F
  obtain ⟨k2, hi, ek⟩ := State.fieldFound?_setVm (s := Z) hT.alike q2
  cases hff.symm.trans hi
  exact ⟨T, X, eT, fun target ht => (X.getfieldR hx hg hready q3 hs (by rw [eT]; exact q1) q4 q7 hd (Steps.refl _)).trans ht⟩
theorem own_insAny {Z : State} {a0 : Array Value} {h : Heap} {own K C : String} {index d : Nat} {a : Addr} (hd : Z.vm.findClass own = some d) (w : (Cond.classLink own index K).before a0 Z = true) (E : Exa Z h a C) : ∃ b, Ins Z h a K b := by
  obtain ⟨cell, k, h1, -⟩ := E
  obtain ⟨cT, hK, -⟩ := Cond.classLink_spec hd w {} rfl
  exact ⟨_, cell, cT, h1, hK, rfl⟩
theorem own_mvM {Z s : State} {a0 args : Array Value} {own host : String} {y : MethodName} {index : Nat} (hZ : Z.Warmed39 s.vm) (w : (Cond.methodLinkNest own index y host).before a0 Z = true) : (Cond.methodLinkNest own index y host).before args s = true := (Cond.methodLinkNest_wide hZ w :)
theorem own_w {Z : State} {a0 : Array Value} (hw : ∀ d ∈ tables_1, d.before a0 Z = true) (i : Nat) {d : Jvm.Cond} (h : tables_1[i]? = some d) : d.before a0 Z = true := hw _ (List.mem_of_getElem? h)
theorem own_nb (x : Int32) : nar .byte x.toInt8.toInt32 = x.toInt8.toInt32 := by simp [nar]
theorem own_nb2 (x : Int32) : x.toInt8.toInt32.toInt8.toInt32 = x.toInt8.toInt32 := by simp
theorem own_eqI {args : Array Value} {first s : State} {o : Option Outcome} {idx : List Nat} {t : Term} {k : Int32} (h : (Cond.eq t (.int k)).value args first o s idx = some true) : t.eval args first o idx s = some (.int k) :=
  Cond.eq_int (by simp [Cond.holds, h]) (Term.int_eval _)
def own_EL : List (String × Nat) := [("java/lang/StringLatin1", 151)]
theorem own_EW {Z : State} {a0 : Array Value} (hw : ∀ d ∈ tables_1, d.before a0 Z = true) : EW Z a0 own_EL := (EW.cons (own_w hw 95 rfl) (by decide) EW.nil)
theorem own_sub : ∀ q ∈ own_EL, q ∈ consts_1 := by decide
theorem own_wS {Z : State} {a0 : Array Value} (hw : ∀ d ∈ tables_1, d.before a0 Z = true) : ∀ a ∈ Bundle.stringAtoms, a.before a0 Z = true := by
  intro a ha
  simp only [Bundle.stringAtoms, List.mem_cons, List.not_mem_nil, or_false] at ha
  rcases ha with rfl | rfl | rfl | rfl | rfl | rfl | rfl
  · exact (own_w hw 3 rfl)
  · exact (own_w hw 2 rfl)
  · exact (own_w hw 19 rfl)
  · exact (own_w hw 29 rfl)
  · exact (own_w hw 27 rfl)
  · exact (own_w hw 96 rfl)
  · exact (own_w hw 97 rfl)
def own_Gl (Z : State) (cs : Int32) (wf : Value) : Prop := (Sta Z Z.heap "java/lang/String" "COMPACT_STRINGS" "Z" (.int cs)) ∧ (¬ (cs = (0 : Int32))) ∧ (Sta Z Z.heap "jdk/internal/util/Preconditions" "SIOOBE_FORMATTER" "Ljava/util/function/BiFunction;" wf) ∧ (wf = .null ∨ ∃ x, wf = .ref x)
def own_bsub (vs : List Value) (a m : Int32) : List Value := ([(.int (0 : Int32)), (.int (0 : Int32)), (.int (0 : Int32)), (.int (0 : Int32))] : List Value).take (0 : Int32).toNatClampNeg ++ ((List.range m.toNatClampNeg).map fun i => vs.getD (a.toNatClampNeg + i) (.int (0 : Int32))) ++ ([(.int (0 : Int32)), (.int (0 : Int32)), (.int (0 : Int32)), (.int (0 : Int32))] : List Value).drop ((0 : Int32).toNatClampNeg + m.toNatClampNeg)
theorem own_mod1 (x z : Int32) (h : z = (x &&& 2147483647) % 1) : z = 0 := by
  have h1 := c_and x 2147483647 (by decide)
  have h2 := (c_irem (x &&& 2147483647) 1 1 (by decide)).1 h1.1
  rw [← h] at h2
  simp only [← Int32.toInt_inj, show (0 : Int32).toInt = 0 by decide]
  omega
theorem own_mod2 (x z : Int32) (h : z = (x &&& 2147483647) % 2) : z = 0 ∨ z = 1 := by
  have h1 := c_and x 2147483647 (by decide)
  have h2 := (c_irem (x &&& 2147483647) 2 2 (by decide)).1 h1.1
  rw [← h] at h2
  simp only [← Int32.toInt_inj, show (0 : Int32).toInt = 0 by decide, show (1 : Int32).toInt = 1 by decide]
  omega
theorem own_mod3 (x z : Int32) (h : z = (x &&& 2147483647) % 3) : z = 0 ∨ z = 1 ∨ z = 2 := by
  have h1 := c_and x 2147483647 (by decide)
  have h2 := (c_irem (x &&& 2147483647) 3 3 (by decide)).1 h1.1
  rw [← h] at h2
  simp only [← Int32.toInt_inj, show (0 : Int32).toInt = 0 by decide, show (1 : Int32).toInt = 1 by decide, show (2 : Int32).toInt = 2 by decide]
  omega
theorem own_mod4 (x z : Int32) (h : z = (x &&& 2147483647) % 4) : z = 0 ∨ z = 1 ∨ z = 2 ∨ z = 3 := by
  have h1 := c_and x 2147483647 (by decide)
  have h2 := (c_irem (x &&& 2147483647) 4 4 (by decide)).1 h1.1
  rw [← h] at h2
  simp only [← Int32.toInt_inj, show (0 : Int32).toInt = 0 by decide, show (1 : Int32).toInt = 1 by decide, show (2 : Int32).toInt = 2 by decide, show (3 : Int32).toInt = 3 by decide]
  omega
theorem own_mod5 (x z : Int32) (h : z = (x &&& 2147483647) % 5) : z = 0 ∨ z = 1 ∨ z = 2 ∨ z = 3 ∨ z = 4 := by
  have h1 := c_and x 2147483647 (by decide)
  have h2 := (c_irem (x &&& 2147483647) 5 5 (by decide)).1 h1.1
  rw [← h] at h2
  simp only [← Int32.toInt_inj, show (0 : Int32).toInt = 0 by decide, show (1 : Int32).toInt = 1 by decide, show (2 : Int32).toInt = 2 by decide, show (3 : Int32).toInt = 3 by decide, show (4 : Int32).toInt = 4 by decide]
  omega
theorem own_back (c : Int32) (h : 0 ≤ c.toInt ∧ c.toInt ≤ 255) : (nar .char ((c.toInt8.toInt32 &&& (255 : Int32)).toUInt32.toUInt16.toUInt32.toInt32)) = c := by
  have e : ∀ k : Fin 256, nar .char (((k.val.toInt32).toInt8.toInt32 &&& (255 : Int32)).toUInt32.toUInt16.toUInt32.toInt32) = k.val.toInt32 := by decide +kernel
  have h4 : c = c.toInt.toNat.toInt32 := Int32.toInt_inj.mp (by rw [len_toInt (by omega)]; omega)
  have h5 := e ⟨c.toInt.toNat, by omega⟩
  simp only [← h4] at h5
  exact h5
theorem own_chr (x z d : Int32) (hd : d = (x &&& (255 : Int32)).toUInt32.toUInt16.toUInt32.toInt32) (h : z = nar .char d) : 0 ≤ z.toInt ∧ z.toInt ≤ 255 := by
  have h1 := c_and x 255 (by decide)
  have e2 : (255 : Int32).toInt = 255 := by decide
  have h2 := c_i2c (x &&& (255 : Int32))
  rw [← hd] at h2
  have h3 := c_i2c d
  have h4 : z = d.toUInt32.toUInt16.toUInt32.toInt32 := h
  rw [← h4] at h3
  omega
theorem own_le255 (z : Int32) (h : 0 ≤ z.toInt ∧ z.toInt ≤ 255) : ¬ ((255 : Int32) < z) := by
  rw [Int32.lt_iff_toInt_lt, show (255 : Int32).toInt = 255 by decide]; omega
theorem own_shr0 (z : Int32) : (z >>> ((0 : Int32) &&& 31)) = z := by
  apply Int32.toBitVec_inj.mp
  simp
theorem own_nar2 (x : Int32) : nar .char (nar .char x) = nar .char x := by
  apply Int32.toInt_inj.mp
  have h1 := c_i2c x
  have h2 := c_i2c (nar .char x)
  show ((nar .char x).toUInt32.toUInt16.toUInt32.toInt32).toInt = (x.toUInt32.toUInt16.toUInt32.toInt32).toInt
  have h3 : (nar .char x).toInt = (x.toUInt32.toUInt16.toUInt32.toInt32).toInt := rfl
  omega
def own_Q_rm0 (Z : State) (p1 p2 p3 p4 p5 p6 : Int32) (cs : Int32) (wf : Value) (h0 : Heap) (n0 : Nat) (v : Option Value) (h : Heap) (L : List Loc) : Prop := v = some (.int (1 : Int32)) ∧ Fr n0 L
abbrev own_y0 : MethodName := ⟨"java/lang/String", "length", "()I"⟩
theorem own_ef1 (m : MethodId) (x0 : Addr) : entryFrame m #[(.ref x0)] 1 = mkF m 0 #[.val (.ref x0)] [] := by first | (simp [entryFrame, mkF, argsToLocals, Value.category]; done) | rfl
theorem own_pn0 : plainName "java/lang/String" = true := by first | (simp [plainName, overriddenIn]; done) | decide +kernel
theorem own_d11_0 : decode jdk_42_method_54_code 0 = .ok (.aload_n 0, 1) := by decide +kernel
theorem own_d11_1 : decode jdk_42_method_54_code 1 = .ok (.getfield 9, 3) := by decide +kernel
theorem own_d11_4 : decode jdk_42_method_54_code 4 = .ok (.arraylength, 1) := by decide +kernel
theorem own_d11_5 : decode jdk_42_method_54_code 5 = .ok (.aload_n 0, 1) := by decide +kernel
theorem own_d11_6 : decode jdk_42_method_54_code 6 = .ok (.invokevirtual 335, 3) := by decide +kernel
abbrev own_y1 : MethodName := ⟨"java/lang/String", "coder", "()B"⟩
theorem own_ef2 (m : MethodId) (x0 : Addr) : entryFrame m #[(.ref x0)] 1 = mkF m 0 #[.val (.ref x0)] [] := by first | (simp [entryFrame, mkF, argsToLocals, Value.category]; done) | rfl
theorem own_d12_0 : decode jdk_42_method_152_code 0 = .ok (.getstatic 38, 3) := by decide +kernel
theorem own_d12_3 : decode jdk_42_method_152_code 3 = .ok (.ifCond .eq 10, 3) := by decide +kernel
theorem own_d12_6 : decode jdk_42_method_152_code 6 = .ok (.aload_n 0, 1) := by decide +kernel
theorem own_d12_7 : decode jdk_42_method_152_code 7 = .ok (.getfield 15, 3) := by decide +kernel
theorem own_d12_10 : decode jdk_42_method_152_code 10 = .ok (.goto 4, 3) := by decide +kernel
theorem own_d12_14 : decode jdk_42_method_152_code 14 = .ok (.ireturn, 1) := by decide +kernel
def own_Q_rmA1 (Z : State) (ob0 : Addr) (ob0_value : Addr) (k_ob0_value : ClassId) (ob0_value_z : Int32) (ob0_value_l : List Value)  (cs : Int32) (wf : Value) (h0 : Heap) (n0 : Nat) (v : Option Value) (h : Heap) (L : List Loc) : Prop := v = some (.int (0 : Int32)) ∧ Fr n0 L ∧ h = h0
set_option maxRecDepth 65536 in
set_option maxHeartbeats 40000000 in
theorem rmA1 (l : Launch) (Z : State) (a0 : Array Value) (hw : ∀ d ∈ tables_1, d.before a0 Z = true) (ws : List Jvm.Cond) (ob0 : Addr) (ob0_value : Addr) (k_ob0_value : ClassId) (ob0_value_z : Int32) (ob0_value_l : List Value)  (cs : Int32) (wf : Value) (h0 : Heap) (n0 : Nat) (O0 : Old Z n0 h0) (G : own_Gl Z cs wf) (E_ob0 : Exa Z h0 ob0 "java/lang/String") (F_ob0_coder : Fld Z h0 ob0 "java/lang/String" "coder" "B" (.int (0 : Int32))) (V_ob0_value : Arv Z h0 ob0_value k_ob0_value .byte ob0_value_z ob0_value_l (.int (0 : Int32))) (F_ob0_value : Fld Z h0 ob0 "java/lang/String" "value" "[B" (.ref ob0_value)) :
    MetFree l own_y1 (head1 (Jvm.Cond.code own_y1 jdk_42_method_152_code 1 (some .byte) :: ws) ({ frames := 0, cells := 0, slots := 0, locals := 0 } : Room)) (fun a U => a = #[(.ref ob0)] ∧ Z.Warmed39 U.vm ∧ U.heap = h0) (fun _ _ _ _ _ => True) (fun _ U o U' => ∃ v L, o = .returned v ∧ own_Q_rmA1 Z ob0 ob0_value k_ob0_value ob0_value_z ob0_value_l cs wf h0 n0 v U'.heap L ∧ FrameEnd U o U' L ({ frames := 0, cells := 0, slots := 0, locals := 0 } : Room).cells ({ frames := 0, cells := 0, slots := 0, locals := 0 } : Room).slots) := by
  refine MetFree.of_bodySF (plainFor_of_name own_pn0) hisR ?_
  intro p e s m args below meth c s₁ Bd hml0 hP hK
  obtain ⟨rfl, hZ, hh⟩ := hP
  have hx := Bd.exec
  have hby := Bd.bytes
  have hml : c.maxLocals = 1 := hml0
  have hown : s.vm.findClass "java/lang/String" = some m.cls := findClass_of_methodNamed Bd.named
  have hnm := (name_of_methodNamed Bd.named Bd.method).1
  have X0 : Stand p l e ({ frames := 0, cells := 0, slots := 0, locals := 0 } : Room) s m #[(.ref ob0)] below meth c s₁ [] 0 0 := Stand.of_body Bd
  have e0 : s₁.heap = h0 := by rw [← hh, Bd.state]; rfl
  have N0 := Fr.nil n0
  have Z0 : n0 ≤ h0.size := O0.1 ▸ O0.2.1
  have g0 : ∀ t, Steps p.tables e below (s₁.setTop (mkF m 0 #[.val (.ref ob0)] [])) t → Steps p.tables e below (s₁.setTop (entryFrame m #[(.ref ob0)] 1)) t := fun t k => castTop (own_ef2 m (ob0)) k
  have G0 := G
  obtain ⟨S_CS, hcs, S_WF, hwf⟩ := G
  obtain ⟨T1, X1, e1, st1⟩ := getS2 X0 hx hZ hown (host := "") (Or.inl (own_w hw 14 rfl)) Via.refl e0 (S_CS.ext O0.2) (g := (mkF m 0 #[.val (.ref ob0)] [])) rfl (hb hby own_d12_0)
  have hc2 : ¬ (cs = (0 : Int32)) := hcs
  obtain ⟨T3, X3, e3, st3⟩ := getF X1 hx hZ hown (host := "") (Or.inl (own_w hw 26 rfl)) Via.refl e1 F_ob0_coder (g := (mkF m 7 #[.val (.ref ob0)] [(.ref ob0)])) rfl rfl (hb hby own_d12_7)
  have g4 : ∀ t, Steps p.tables e below (T3.setTop (mkF m 14 #[.val (.ref ob0)] [(.int (0 : Int32))])) t → Steps p.tables e below (s₁.setTop (entryFrame m #[(.ref ob0)] 1)) t := by
    intro t k
    refine g0 t ?_
    show Steps p.tables e below (s₁.setTop (mkF m 0 #[.val (.ref ob0)] [])) _
    refine st1 _ ?_
    refine XS.ifNo X1.here hx rfl (hb hby own_d12_3) rfl ((if0 _ _).trans (feq hc2).1) ?_
    refine XS.aloadN X1.here hx rfl (hb hby own_d12_6) rfl rfl ?_
    refine st3 _ ?_
    show Steps p.tables e below (T3.setTop (mkF m 10 #[.val (.ref ob0)] [(.int (0 : Int32))])) _
    refine XS.goto X3.here hx rfl (pc0 := 10) (pc' := 14) rfl (hb hby own_d12_10) (by decide) (by decide) ?_
    exact k
  obtain ⟨fs, hrt, hrun, hended, hW, hsame⟩ := X3.leave (v := some (.int (0 : Int32))) (fun h => by rw [Bd.returns] at h; cases h)
  refine ⟨_, _, g4 _ ?_, hrun, hended, _, _, rfl, ?_, ⟨_, rfl⟩, hW, hsame.mono (by decide) (by decide)⟩
  · show Steps p.tables e below (T3.setTop (mkF m 14 #[.val (.ref ob0)] [(.int (0 : Int32))])) _
    exact retN X3 hx (t := .byte) Bd.returns (by simp) (hb hby own_d12_14) hrt
  · show own_Q_rmA1 Z ob0 ob0_value k_ob0_value ob0_value_z ob0_value_l cs wf h0 n0 _ T3.heap _
    rw [e3]
    exact ⟨rfl, N0, rfl⟩
theorem own_pd0 : parseMethodDescriptor "()B" = some ⟨[], some .byte⟩ := by decide +kernel
theorem own_d11_9 : decode jdk_42_method_54_code 9 = .ok (.ishr, 1) := by decide +kernel
theorem own_d11_10 : decode jdk_42_method_54_code 10 = .ok (.ireturn, 1) := by decide +kernel
def own_Q_rmA0 (Z : State) (ob0 : Addr) (ob0_value : Addr) (k_ob0_value : ClassId) (ob0_value_z : Int32) (ob0_value_l : List Value)  (cs : Int32) (wf : Value) (h0 : Heap) (n0 : Nat) (v : Option Value) (h : Heap) (L : List Loc) : Prop := v = some (.int (ob0_value_z >>> ((0 : Int32) &&& 31))) ∧ Fr n0 L ∧ h = h0
set_option maxRecDepth 65536 in
set_option maxHeartbeats 40000000 in
theorem rmA0 (l : Launch) (Z : State) (a0 : Array Value) (hw : ∀ d ∈ tables_1, d.before a0 Z = true) (ws : List Jvm.Cond) (ob0 : Addr) (ob0_value : Addr) (k_ob0_value : ClassId) (ob0_value_z : Int32) (ob0_value_l : List Value)  (cs : Int32) (wf : Value) (h0 : Heap) (n0 : Nat) (O0 : Old Z n0 h0) (G : own_Gl Z cs wf) (E_ob0 : Exa Z h0 ob0 "java/lang/String") (F_ob0_coder : Fld Z h0 ob0 "java/lang/String" "coder" "B" (.int (0 : Int32))) (V_ob0_value : Arv Z h0 ob0_value k_ob0_value .byte ob0_value_z ob0_value_l (.int (0 : Int32))) (F_ob0_value : Fld Z h0 ob0 "java/lang/String" "value" "[B" (.ref ob0_value)) :
    MetFree l own_y0 (head1 (Jvm.Cond.code own_y0 jdk_42_method_54_code 1 (some .int) :: ws) ({ frames := 1, cells := 0, slots := 0, locals := 13 } : Room)) (fun a U => a = #[(.ref ob0)] ∧ Z.Warmed39 U.vm ∧ U.heap = h0) (fun _ _ _ _ _ => True) (fun _ U o U' => ∃ v L, o = .returned v ∧ own_Q_rmA0 Z ob0 ob0_value k_ob0_value ob0_value_z ob0_value_l cs wf h0 n0 v U'.heap L ∧ FrameEnd U o U' L ({ frames := 1, cells := 0, slots := 0, locals := 13 } : Room).cells ({ frames := 1, cells := 0, slots := 0, locals := 13 } : Room).slots) := by
  refine MetFree.of_bodySF (plainFor_of_name own_pn0) hisR ?_
  intro p e s m args below meth c s₁ Bd hml0 hP hK
  obtain ⟨rfl, hZ, hh⟩ := hP
  have hx := Bd.exec
  have hby := Bd.bytes
  have hml : c.maxLocals = 1 := hml0
  have hown : s.vm.findClass "java/lang/String" = some m.cls := findClass_of_methodNamed Bd.named
  have hnm := (name_of_methodNamed Bd.named Bd.method).1
  have X0 : Stand p l e ({ frames := 1, cells := 0, slots := 0, locals := 13 } : Room) s m #[(.ref ob0)] below meth c s₁ [] 0 0 := Stand.of_body Bd
  have e0 : s₁.heap = h0 := by rw [← hh, Bd.state]; rfl
  have N0 := Fr.nil n0
  have Z0 : n0 ≤ h0.size := O0.1 ▸ O0.2.1
  have g0 : ∀ t, Steps p.tables e below (s₁.setTop (mkF m 0 #[.val (.ref ob0)] [])) t → Steps p.tables e below (s₁.setTop (entryFrame m #[(.ref ob0)] 1)) t := fun t k => castTop (own_ef1 m (ob0)) k
  have G0 := G
  obtain ⟨S_CS, hcs, S_WF, hwf⟩ := G
  obtain ⟨T1, X1, e1, st1⟩ := getF X0 hx hZ hown (host := "") (Or.inl (own_w hw 28 rfl)) Via.refl e0 F_ob0_value (g := (mkF m 1 #[.val (.ref ob0)] [(.ref ob0)])) rfl rfl (hb hby own_d11_1)
  obtain ⟨c2, Ar2, cq2, S2, Nn2, Hh2, Gg2⟩ := id V_ob0_value
  obtain ⟨cq3, kq3, q3a, q3b, q3c⟩ := isOf hZ e1 E_ob0
  obtain ⟨_, _, ⟨T3, L3, k3, n3⟩, -, X3, ⟨Lc3, hQ3, l3, y3, z3⟩, st3⟩ := X1.virtualBack hx (y := own_y1) (z := own_y1) hown (mvT hZ (own_w hw 73 rfl)) (mvT hZ (own_w hw 74 rfl)) (notFace_of_selects (args := #[]) (mvT hZ (own_w hw 76 rfl))) (mvT hZ (own_w hw 76 rfl)) (mvT hZ (own_w hw 75 rfl)) (by decide) (backOf (W := 1) (rmA1 l Z a0 hw [] ob0 ob0_value k_ob0_value (ob0_value_z) ob0_value_l  cs wf h0 n0 O0 G0 E_ob0 F_ob0_coder V_ob0_value F_ob0_value  ) hZ (own_w hw 77 rfl) (own_w hw 3 rfl) (by decide) (by decide)) q3a q3c (g := (mkF m 6 #[.val (.ref ob0)] [(.ref ob0), (.int ob0_value_z)])) rfl (by rw [hml]; rfl) (Steps.refl _) (argsL := []) (rest := [(.int ob0_value_z)]) (lenOf own_pd0 rfl) rfl (by show 2 * 0 + _ ≤ _; exact Nat.le_of_eq rfl) (hb hby own_d11_6) (fun _ _ => ⟨rfl, e1, (by decide : 0 + 0 ≤ _), (by decide : 0 + 0 ≤ _)⟩)
  dsimp only [Pt.U, Pt.locs, Pt.cells, Pt.slots] at X3 l3 y3 z3 st3 hQ3
  subst l3 y3 z3
  obtain ⟨rfl, Nq3, e3⟩ := hQ3
  have N3 := Fr.app N0 Nq3
  have g4 : ∀ t, Steps p.tables e below (T3.setTop (mkF m 10 #[.val (.ref ob0)] [(.int (ob0_value_z >>> ((0 : Int32) &&& 31)))])) t → Steps p.tables e below (s₁.setTop (entryFrame m #[(.ref ob0)] 1)) t := by
    intro t k
    refine g0 t ?_
    show Steps p.tables e below (s₁.setTop (mkF m 0 #[.val (.ref ob0)] [])) _
    refine XS.aloadN X0.here hx rfl (hb hby own_d11_0) rfl rfl ?_
    refine st1 _ ?_
    show Steps p.tables e below (T1.setTop (mkF m 4 #[.val (.ref ob0)] [(.ref ob0_value)])) _
    refine X1.arraylength hx (by rw [e1]; exact Ar2.1) (State.isArrayOf_alike hZ.alike Ar2.2.1) (g := (mkF m 4 #[.val (.ref ob0)] [(.ref ob0_value)])) rfl rfl (hb hby own_d11_4) _ ?_
    rw [len_of S2 Nn2]
    refine XS.aloadN X1.here hx rfl (hb hby own_d11_5) rfl rfl ?_
    show Steps p.tables e below (T1.setTop (mkF m 6 #[.val (.ref ob0)] [(.ref ob0), (.int ob0_value_z)])) _
    refine st3.trans ?_
    show Steps p.tables e below (T3.setTop (mkF m 9 #[.val (.ref ob0)] [(.int (0 : Int32)), (.int ob0_value_z)])) _
    refine XS.ishr X3.here hx rfl (hb hby own_d11_9) rfl ?_
    exact k
  obtain ⟨fs, hrt, hrun, hended, hW, hsame⟩ := X3.leave (v := some (.int (ob0_value_z >>> ((0 : Int32) &&& 31)))) (fun h => by rw [Bd.returns] at h; cases h)
  refine ⟨_, _, g4 _ ?_, hrun, hended, _, _, rfl, ?_, ⟨_, rfl⟩, hW, hsame.mono (by decide) (by decide)⟩
  · show Steps p.tables e below (T3.setTop (mkF m 10 #[.val (.ref ob0)] [(.int (ob0_value_z >>> ((0 : Int32) &&& 31)))])) _
    exact retI X3 hx Bd.returns (hb hby own_d11_10) hrt
  · show own_Q_rmA0 Z ob0 ob0_value k_ob0_value ob0_value_z ob0_value_l cs wf h0 n0 _ T3.heap _
    rw [e3]
    exact ⟨rfl, N3, rfl⟩
theorem own_pd1 : parseMethodDescriptor "()I" = some ⟨[], some .int⟩ := by decide +kernel
abbrev own_y2 : MethodName := ⟨"com/example/momus/momus/model/FormatSpecifierTextPinLaw", "same", "(Ljava/lang/String;I[CII)Z"⟩
theorem own_ef3 (m : MethodId) (x0 : Addr) (x1 : Int32) (x2 : Addr) (x3 : Int32) (x4 : Int32) : entryFrame m #[(.ref x0), (.int x1), (.ref x2), (.int x3), (.int x4)] 5 = mkF m 0 #[.val (.ref x0), .val (.int x1), .val (.ref x2), .val (.int x3), .val (.int x4)] [] := by first | (simp [entryFrame, mkF, argsToLocals, Value.category]; done) | rfl
theorem own_pn1 : plainName "com/example/momus/momus/model/FormatSpecifierTextPinLaw" = true := by first | (simp [plainName, overriddenIn]; done) | decide +kernel
theorem own_d17_0 : decode method_2_code 0 = .ok (.iload_n 1, 1) := by decide +kernel
theorem own_d17_1 : decode method_2_code 1 = .ok (.iload 4, 2) := by decide +kernel
theorem own_d17_3 : decode method_2_code 3 = .ok (.if_icmp .lt 5, 3) := by decide +kernel
theorem own_d17_6 : decode method_2_code 6 = .ok (.iconst 1, 1) := by decide +kernel
theorem own_d17_7 : decode method_2_code 7 = .ok (.ireturn, 1) := by decide +kernel
theorem own_d17_8 : decode method_2_code 8 = .ok (.aload_n 0, 1) := by decide +kernel
theorem own_d17_9 : decode method_2_code 9 = .ok (.iload_n 1, 1) := by decide +kernel
theorem own_d17_10 : decode method_2_code 10 = .ok (.invokevirtual 7, 3) := by decide +kernel
abbrev own_y3 : MethodName := ⟨"java/lang/String", "charAt", "(I)C"⟩
theorem own_ef4 (m : MethodId) (x0 : Addr) (x1 : Int32) : entryFrame m #[(.ref x0), (.int x1)] 2 = mkF m 0 #[.val (.ref x0), .val (.int x1)] [] := by first | (simp [entryFrame, mkF, argsToLocals, Value.category]; done) | rfl
theorem own_d23_0 : decode jdk_42_method_56_code 0 = .ok (.aload_n 0, 1) := by decide +kernel
theorem own_d23_1 : decode jdk_42_method_56_code 1 = .ok (.invokevirtual 492, 3) := by decide +kernel
abbrev own_y4 : MethodName := ⟨"java/lang/String", "isLatin1", "()Z"⟩
theorem own_ef5 (m : MethodId) (x0 : Addr) : entryFrame m #[(.ref x0)] 1 = mkF m 0 #[.val (.ref x0)] [] := by first | (simp [entryFrame, mkF, argsToLocals, Value.category]; done) | rfl
theorem own_d15_0 : decode jdk_42_method_154_code 0 = .ok (.getstatic 38, 3) := by decide +kernel
theorem own_d15_3 : decode jdk_42_method_154_code 3 = .ok (.ifCond .eq 14, 3) := by decide +kernel
theorem own_d15_6 : decode jdk_42_method_154_code 6 = .ok (.aload_n 0, 1) := by decide +kernel
theorem own_d15_7 : decode jdk_42_method_154_code 7 = .ok (.getfield 15, 3) := by decide +kernel
theorem own_d15_10 : decode jdk_42_method_154_code 10 = .ok (.ifCond .ne 7, 3) := by decide +kernel
theorem own_d15_13 : decode jdk_42_method_154_code 13 = .ok (.iconst 1, 1) := by decide +kernel
theorem own_d15_14 : decode jdk_42_method_154_code 14 = .ok (.goto 4, 3) := by decide +kernel
theorem own_d15_18 : decode jdk_42_method_154_code 18 = .ok (.ireturn, 1) := by decide +kernel
def own_Q_rmA4 (Z : State) (ob0 : Addr) (ob0_value : Addr) (k_ob0_value : ClassId) (ob0_value_z : Int32) (ob0_value_l : List Value)  (cs : Int32) (wf : Value) (h0 : Heap) (n0 : Nat) (v : Option Value) (h : Heap) (L : List Loc) : Prop := v = some (.int (1 : Int32)) ∧ Fr n0 L ∧ h = h0
set_option maxRecDepth 65536 in
set_option maxHeartbeats 40000000 in
theorem rmA4 (l : Launch) (Z : State) (a0 : Array Value) (hw : ∀ d ∈ tables_1, d.before a0 Z = true) (ws : List Jvm.Cond) (ob0 : Addr) (ob0_value : Addr) (k_ob0_value : ClassId) (ob0_value_z : Int32) (ob0_value_l : List Value)  (cs : Int32) (wf : Value) (h0 : Heap) (n0 : Nat) (O0 : Old Z n0 h0) (G : own_Gl Z cs wf) (E_ob0 : Exa Z h0 ob0 "java/lang/String") (F_ob0_coder : Fld Z h0 ob0 "java/lang/String" "coder" "B" (.int (0 : Int32))) (V_ob0_value : Arv Z h0 ob0_value k_ob0_value .byte ob0_value_z ob0_value_l (.int (0 : Int32))) (F_ob0_value : Fld Z h0 ob0 "java/lang/String" "value" "[B" (.ref ob0_value)) :
    MetFree l own_y4 (head1 (Jvm.Cond.code own_y4 jdk_42_method_154_code 1 (some .boolean) :: ws) ({ frames := 0, cells := 0, slots := 0, locals := 0 } : Room)) (fun a U => a = #[(.ref ob0)] ∧ Z.Warmed39 U.vm ∧ U.heap = h0) (fun _ _ _ _ _ => True) (fun _ U o U' => ∃ v L, o = .returned v ∧ own_Q_rmA4 Z ob0 ob0_value k_ob0_value ob0_value_z ob0_value_l cs wf h0 n0 v U'.heap L ∧ FrameEnd U o U' L ({ frames := 0, cells := 0, slots := 0, locals := 0 } : Room).cells ({ frames := 0, cells := 0, slots := 0, locals := 0 } : Room).slots) := by
  refine MetFree.of_bodySF (plainFor_of_name own_pn0) hisR ?_
  intro p e s m args below meth c s₁ Bd hml0 hP hK
  obtain ⟨rfl, hZ, hh⟩ := hP
  have hx := Bd.exec
  have hby := Bd.bytes
  have hml : c.maxLocals = 1 := hml0
  have hown : s.vm.findClass "java/lang/String" = some m.cls := findClass_of_methodNamed Bd.named
  have hnm := (name_of_methodNamed Bd.named Bd.method).1
  have X0 : Stand p l e ({ frames := 0, cells := 0, slots := 0, locals := 0 } : Room) s m #[(.ref ob0)] below meth c s₁ [] 0 0 := Stand.of_body Bd
  have e0 : s₁.heap = h0 := by rw [← hh, Bd.state]; rfl
  have N0 := Fr.nil n0
  have Z0 : n0 ≤ h0.size := O0.1 ▸ O0.2.1
  have g0 : ∀ t, Steps p.tables e below (s₁.setTop (mkF m 0 #[.val (.ref ob0)] [])) t → Steps p.tables e below (s₁.setTop (entryFrame m #[(.ref ob0)] 1)) t := fun t k => castTop (own_ef5 m (ob0)) k
  have G0 := G
  obtain ⟨S_CS, hcs, S_WF, hwf⟩ := G
  obtain ⟨T1, X1, e1, st1⟩ := getS2 X0 hx hZ hown (host := "") (Or.inl (own_w hw 14 rfl)) Via.refl e0 (S_CS.ext O0.2) (g := (mkF m 0 #[.val (.ref ob0)] [])) rfl (hb hby own_d15_0)
  have hc2 : ¬ (cs = (0 : Int32)) := hcs
  obtain ⟨T3, X3, e3, st3⟩ := getF X1 hx hZ hown (host := "") (Or.inl (own_w hw 26 rfl)) Via.refl e1 F_ob0_coder (g := (mkF m 7 #[.val (.ref ob0)] [(.ref ob0)])) rfl rfl (hb hby own_d15_7)
  have g4 : ∀ t, Steps p.tables e below (T3.setTop (mkF m 18 #[.val (.ref ob0)] [(.int (1 : Int32))])) t → Steps p.tables e below (s₁.setTop (entryFrame m #[(.ref ob0)] 1)) t := by
    intro t k
    refine g0 t ?_
    show Steps p.tables e below (s₁.setTop (mkF m 0 #[.val (.ref ob0)] [])) _
    refine st1 _ ?_
    refine XS.ifNo X1.here hx rfl (hb hby own_d15_3) rfl ((if0 _ _).trans (feq hc2).1) ?_
    refine XS.aloadN X1.here hx rfl (hb hby own_d15_6) rfl rfl ?_
    refine st3 _ ?_
    show Steps p.tables e below (T3.setTop (mkF m 10 #[.val (.ref ob0)] [(.int (0 : Int32))])) _
    refine XS.ifNo X3.here hx rfl (hb hby own_d15_10) rfl ((if0 _ _).trans (teq (by decide : (0 : Int32) = (0 : Int32))).2) ?_
    refine XS.iconst X3.here hx rfl (hb hby own_d15_13) ?_
    refine XS.goto X3.here hx rfl (pc0 := 14) (pc' := 18) rfl (hb hby own_d15_14) (by decide) (by decide) ?_
    exact k
  obtain ⟨fs, hrt, hrun, hended, hW, hsame⟩ := X3.leave (v := some (.int (1 : Int32))) (fun h => by rw [Bd.returns] at h; cases h)
  refine ⟨_, _, g4 _ ?_, hrun, hended, _, _, rfl, ?_, ⟨_, rfl⟩, hW, hsame.mono (by decide) (by decide)⟩
  · show Steps p.tables e below (T3.setTop (mkF m 18 #[.val (.ref ob0)] [(.int (1 : Int32))])) _
    exact retN X3 hx (t := .boolean) Bd.returns (by simp) (hb hby own_d15_18) hrt
  · show own_Q_rmA4 Z ob0 ob0_value k_ob0_value ob0_value_z ob0_value_l cs wf h0 n0 _ T3.heap _
    rw [e3]
    exact ⟨rfl, N0, rfl⟩
theorem own_pd2 : parseMethodDescriptor "()Z" = some ⟨[], some .boolean⟩ := by decide +kernel
theorem own_d23_4 : decode jdk_42_method_56_code 4 = .ok (.ifCond .eq 12, 3) := by decide +kernel
theorem own_d23_7 : decode jdk_42_method_56_code 7 = .ok (.aload_n 0, 1) := by decide +kernel
theorem own_d23_8 : decode jdk_42_method_56_code 8 = .ok (.getfield 9, 3) := by decide +kernel
theorem own_d23_11 : decode jdk_42_method_56_code 11 = .ok (.iload_n 1, 1) := by decide +kernel
theorem own_d23_12 : decode jdk_42_method_56_code 12 = .ok (.invokestatic 495, 3) := by decide +kernel
abbrev own_y5 : MethodName := ⟨"java/lang/StringLatin1", "charAt", "([BI)C"⟩
theorem own_ef6 (m : MethodId) (x0 : Addr) (x1 : Int32) : entryFrame m #[(.ref x0), (.int x1)] 2 = mkF m 0 #[.val (.ref x0), .val (.int x1)] [] := by first | (simp [entryFrame, mkF, argsToLocals, Value.category]; done) | rfl
theorem own_pn2 : plainName "java/lang/StringLatin1" = true := by first | (simp [plainName, overriddenIn]; done) | decide +kernel
theorem own_d24_0 : decode jdk_43_method_2_code 0 = .ok (.iload_n 1, 1) := by decide +kernel
theorem own_d24_1 : decode jdk_43_method_2_code 1 = .ok (.aload_n 0, 1) := by decide +kernel
theorem own_d24_2 : decode jdk_43_method_2_code 2 = .ok (.arraylength, 1) := by decide +kernel
theorem own_d24_3 : decode jdk_43_method_2_code 3 = .ok (.invokestatic 9, 3) := by decide +kernel
abbrev own_y6 : MethodName := ⟨"java/lang/String", "checkIndex", "(II)V"⟩
theorem own_ef7 (m : MethodId) (x0 : Int32) (x1 : Int32) : entryFrame m #[(.int x0), (.int x1)] 2 = mkF m 0 #[.val (.int x0), .val (.int x1)] [] := by first | (simp [entryFrame, mkF, argsToLocals, Value.category]; done) | rfl
theorem own_d25_0 : decode jdk_42_method_155_code 0 = .ok (.iload_n 0, 1) := by decide +kernel
theorem own_d25_1 : decode jdk_42_method_155_code 1 = .ok (.iload_n 1, 1) := by decide +kernel
theorem own_d25_2 : decode jdk_42_method_155_code 2 = .ok (.getstatic 1053, 3) := by decide +kernel
theorem own_d25_5 : decode jdk_42_method_155_code 5 = .ok (.invokestatic 1059, 3) := by decide +kernel
abbrev own_y7 : MethodName := ⟨"jdk/internal/util/Preconditions", "checkIndex", "(IILjava/util/function/BiFunction;)I"⟩
theorem own_ef8 (m : MethodId) (x0 : Int32) (x1 : Int32) : entryFrame m #[(.int x0), (.int x1), .null] 3 = mkF m 0 #[.val (.int x0), .val (.int x1), .val .null] [] := by first | (simp [entryFrame, mkF, argsToLocals, Value.category]; done) | rfl
theorem own_pn3 : plainName "jdk/internal/util/Preconditions" = true := by first | (simp [plainName, overriddenIn]; done) | decide +kernel
theorem own_d26_0 : decode jdk_41_method_11_code 0 = .ok (.iload_n 0, 1) := by decide +kernel
theorem own_d26_1 : decode jdk_41_method_11_code 1 = .ok (.ifCond .lt 8, 3) := by decide +kernel
theorem own_d26_4 : decode jdk_41_method_11_code 4 = .ok (.iload_n 0, 1) := by decide +kernel
theorem own_d26_5 : decode jdk_41_method_11_code 5 = .ok (.iload_n 1, 1) := by decide +kernel
theorem own_d26_6 : decode jdk_41_method_11_code 6 = .ok (.if_icmp .lt 10, 3) := by decide +kernel
theorem own_d26_16 : decode jdk_41_method_11_code 16 = .ok (.iload_n 0, 1) := by decide +kernel
theorem own_d26_17 : decode jdk_41_method_11_code 17 = .ok (.ireturn, 1) := by decide +kernel
def own_Q_rmA7 (Z : State) (p0 : Int32) (p1 : Int32)  (cs : Int32) (wf : Value) (h0 : Heap) (n0 : Nat) (v : Option Value) (h : Heap) (L : List Loc) : Prop := v = some (.int p0) ∧ Fr n0 L ∧ h = h0
set_option maxRecDepth 65536 in
set_option maxHeartbeats 40000000 in
theorem rmA7 (l : Launch) (Z : State) (a0 : Array Value) (hw : ∀ d ∈ tables_1, d.before a0 Z = true) (ws : List Jvm.Cond) (p0 : Int32) (p1 : Int32)  (cs : Int32) (wf : Value) (h0 : Heap) (n0 : Nat) (O0 : Old Z n0 h0) (G : own_Gl Z cs wf) (hi0 : ¬ (p0 < (0 : Int32))) (hi1 : p0 < p1) :
    MetFree l own_y7 (head1 (Jvm.Cond.code own_y7 jdk_41_method_11_code 3 (some .int) :: ws) ({ frames := 0, cells := 0, slots := 0, locals := 0 } : Room)) (fun a U => a = #[(.int p0), (.int p1), .null] ∧ Z.Warmed39 U.vm ∧ U.heap = h0) (fun _ _ _ _ _ => True) (fun _ U o U' => ∃ v L, o = .returned v ∧ own_Q_rmA7 Z p0 p1 cs wf h0 n0 v U'.heap L ∧ FrameEnd U o U' L ({ frames := 0, cells := 0, slots := 0, locals := 0 } : Room).cells ({ frames := 0, cells := 0, slots := 0, locals := 0 } : Room).slots) := by
  refine MetFree.of_bodySF (plainFor_of_name own_pn3) hisR ?_
  intro p e s m args below meth c s₁ Bd hml0 hP hK
  obtain ⟨rfl, hZ, hh⟩ := hP
  have hx := Bd.exec
  have hby := Bd.bytes
  have hml : c.maxLocals = 3 := hml0
  have hown : s.vm.findClass "jdk/internal/util/Preconditions" = some m.cls := findClass_of_methodNamed Bd.named
  have hnm := (name_of_methodNamed Bd.named Bd.method).1
  have X0 : Stand p l e ({ frames := 0, cells := 0, slots := 0, locals := 0 } : Room) s m #[(.int p0), (.int p1), .null] below meth c s₁ [] 0 0 := Stand.of_body Bd
  have e0 : s₁.heap = h0 := by rw [← hh, Bd.state]; rfl
  have N0 := Fr.nil n0
  have Z0 : n0 ≤ h0.size := O0.1 ▸ O0.2.1
  have g0 : ∀ t, Steps p.tables e below (s₁.setTop (mkF m 0 #[.val (.int p0), .val (.int p1), .val .null] [])) t → Steps p.tables e below (s₁.setTop (entryFrame m #[(.int p0), (.int p1), .null] 3)) t := fun t k => castTop (own_ef8 m (p0) (p1)) k
  have G0 := G
  obtain ⟨S_CS, hcs, S_WF, hwf⟩ := G
  have hc1 : ¬ (p0 < (0 : Int32)) := hi0
  have hc2 : p0 < p1 := hi1
  have g3 : ∀ t, Steps p.tables e below (s₁.setTop (mkF m 17 #[.val (.int p0), .val (.int p1), .val .null] [(.int p0)])) t → Steps p.tables e below (s₁.setTop (entryFrame m #[(.int p0), (.int p1), .null] 3)) t := by
    intro t k
    refine g0 t ?_
    show Steps p.tables e below (s₁.setTop (mkF m 0 #[.val (.int p0), .val (.int p1), .val .null] [])) _
    refine XS.iloadN X0.here hx rfl (hb hby own_d26_0) rfl ?_
    refine XS.ifNo X0.here hx rfl (hb hby own_d26_1) rfl ((if0 _ _).trans (flt hc1).1) ?_
    refine XS.iloadN X0.here hx rfl (hb hby own_d26_4) rfl ?_
    refine XS.iloadN X0.here hx rfl (hb hby own_d26_5) rfl ?_
    show Steps p.tables e below (s₁.setTop (mkF m 6 #[.val (.int p0), .val (.int p1), .val .null] [(.int p1), (.int p0)])) _
    refine XS.icmpYes X0.here hx rfl (pc0 := 6) (pc' := 16) rfl (hb hby own_d26_6) rfl (tlt hc2).1 (by decide) (by decide) ?_
    refine XS.iloadN X0.here hx rfl (hb hby own_d26_16) rfl ?_
    exact k
  obtain ⟨fs, hrt, hrun, hended, hW, hsame⟩ := X0.leave (v := some (.int p0)) (fun h => by rw [Bd.returns] at h; cases h)
  refine ⟨_, _, g3 _ ?_, hrun, hended, _, _, rfl, ?_, ⟨_, rfl⟩, hW, hsame.mono (by decide) (by decide)⟩
  · show Steps p.tables e below (s₁.setTop (mkF m 17 #[.val (.int p0), .val (.int p1), .val .null] [(.int p0)])) _
    exact retI X0 hx Bd.returns (hb hby own_d26_17) hrt
  · show own_Q_rmA7 Z p0 p1 cs wf h0 n0 _ s₁.heap _
    rw [e0]
    exact ⟨rfl, N0, rfl⟩
theorem own_pd3 : parseMethodDescriptor "(IILjava/util/function/BiFunction;)I" = some ⟨[.int, .int, (.object "java/util/function/BiFunction")], some .int⟩ := by decide +kernel
theorem own_d25_8 : decode jdk_42_method_155_code 8 = .ok (.pop, 1) := by decide +kernel
theorem own_d25_9 : decode jdk_42_method_155_code 9 = .ok (.return_, 1) := by decide +kernel
theorem own_ef9 (m : MethodId) (x0 : Int32) (x1 : Int32) (x2 : Addr) : entryFrame m #[(.int x0), (.int x1), (.ref x2)] 3 = mkF m 0 #[.val (.int x0), .val (.int x1), .val (.ref x2)] [] := by first | (simp [entryFrame, mkF, argsToLocals, Value.category]; done) | rfl
def own_Q_rmA8 (Z : State) (p0 : Int32) (p1 : Int32) (ob2 : Addr)  (cs : Int32) (wf : Value) (h0 : Heap) (n0 : Nat) (v : Option Value) (h : Heap) (L : List Loc) : Prop := v = some (.int p0) ∧ Fr n0 L ∧ h = h0
set_option maxRecDepth 65536 in
set_option maxHeartbeats 40000000 in
theorem rmA8 (l : Launch) (Z : State) (a0 : Array Value) (hw : ∀ d ∈ tables_1, d.before a0 Z = true) (ws : List Jvm.Cond) (p0 : Int32) (p1 : Int32) (ob2 : Addr)  (cs : Int32) (wf : Value) (h0 : Heap) (n0 : Nat) (O0 : Old Z n0 h0) (G : own_Gl Z cs wf) (hi0 : ¬ (p0 < (0 : Int32))) (hi1 : p0 < p1) :
    MetFree l own_y7 (head1 (Jvm.Cond.code own_y7 jdk_41_method_11_code 3 (some .int) :: ws) ({ frames := 0, cells := 0, slots := 0, locals := 0 } : Room)) (fun a U => a = #[(.int p0), (.int p1), (.ref ob2)] ∧ Z.Warmed39 U.vm ∧ U.heap = h0) (fun _ _ _ _ _ => True) (fun _ U o U' => ∃ v L, o = .returned v ∧ own_Q_rmA8 Z p0 p1 ob2 cs wf h0 n0 v U'.heap L ∧ FrameEnd U o U' L ({ frames := 0, cells := 0, slots := 0, locals := 0 } : Room).cells ({ frames := 0, cells := 0, slots := 0, locals := 0 } : Room).slots) := by
  refine MetFree.of_bodySF (plainFor_of_name own_pn3) hisR ?_
  intro p e s m args below meth c s₁ Bd hml0 hP hK
  obtain ⟨rfl, hZ, hh⟩ := hP
  have hx := Bd.exec
  have hby := Bd.bytes
  have hml : c.maxLocals = 3 := hml0
  have hown : s.vm.findClass "jdk/internal/util/Preconditions" = some m.cls := findClass_of_methodNamed Bd.named
  have hnm := (name_of_methodNamed Bd.named Bd.method).1
  have X0 : Stand p l e ({ frames := 0, cells := 0, slots := 0, locals := 0 } : Room) s m #[(.int p0), (.int p1), (.ref ob2)] below meth c s₁ [] 0 0 := Stand.of_body Bd
  have e0 : s₁.heap = h0 := by rw [← hh, Bd.state]; rfl
  have N0 := Fr.nil n0
  have Z0 : n0 ≤ h0.size := O0.1 ▸ O0.2.1
  have g0 : ∀ t, Steps p.tables e below (s₁.setTop (mkF m 0 #[.val (.int p0), .val (.int p1), .val (.ref ob2)] [])) t → Steps p.tables e below (s₁.setTop (entryFrame m #[(.int p0), (.int p1), (.ref ob2)] 3)) t := fun t k => castTop (own_ef9 m (p0) (p1) (ob2)) k
  have G0 := G
  obtain ⟨S_CS, hcs, S_WF, hwf⟩ := G
  have hc1 : ¬ (p0 < (0 : Int32)) := hi0
  have hc2 : p0 < p1 := hi1
  have g3 : ∀ t, Steps p.tables e below (s₁.setTop (mkF m 17 #[.val (.int p0), .val (.int p1), .val (.ref ob2)] [(.int p0)])) t → Steps p.tables e below (s₁.setTop (entryFrame m #[(.int p0), (.int p1), (.ref ob2)] 3)) t := by
    intro t k
    refine g0 t ?_
    show Steps p.tables e below (s₁.setTop (mkF m 0 #[.val (.int p0), .val (.int p1), .val (.ref ob2)] [])) _
    refine XS.iloadN X0.here hx rfl (hb hby own_d26_0) rfl ?_
    refine XS.ifNo X0.here hx rfl (hb hby own_d26_1) rfl ((if0 _ _).trans (flt hc1).1) ?_
    refine XS.iloadN X0.here hx rfl (hb hby own_d26_4) rfl ?_
    refine XS.iloadN X0.here hx rfl (hb hby own_d26_5) rfl ?_
    show Steps p.tables e below (s₁.setTop (mkF m 6 #[.val (.int p0), .val (.int p1), .val (.ref ob2)] [(.int p1), (.int p0)])) _
    refine XS.icmpYes X0.here hx rfl (pc0 := 6) (pc' := 16) rfl (hb hby own_d26_6) rfl (tlt hc2).1 (by decide) (by decide) ?_
    refine XS.iloadN X0.here hx rfl (hb hby own_d26_16) rfl ?_
    exact k
  obtain ⟨fs, hrt, hrun, hended, hW, hsame⟩ := X0.leave (v := some (.int p0)) (fun h => by rw [Bd.returns] at h; cases h)
  refine ⟨_, _, g3 _ ?_, hrun, hended, _, _, rfl, ?_, ⟨_, rfl⟩, hW, hsame.mono (by decide) (by decide)⟩
  · show Steps p.tables e below (s₁.setTop (mkF m 17 #[.val (.int p0), .val (.int p1), .val (.ref ob2)] [(.int p0)])) _
    exact retI X0 hx Bd.returns (hb hby own_d26_17) hrt
  · show own_Q_rmA8 Z p0 p1 ob2 cs wf h0 n0 _ s₁.heap _
    rw [e0]
    exact ⟨rfl, N0, rfl⟩
def own_Q_rmA6 (Z : State) (p0 : Int32) (p1 : Int32)  (cs : Int32) (wf : Value) (h0 : Heap) (n0 : Nat) (v : Option Value) (h : Heap) (L : List Loc) : Prop := v = none ∧ Fr n0 L ∧ h = h0
set_option maxRecDepth 65536 in
set_option maxHeartbeats 40000000 in
theorem rmA6 (l : Launch) (Z : State) (a0 : Array Value) (hw : ∀ d ∈ tables_1, d.before a0 Z = true) (ws : List Jvm.Cond) (p0 : Int32) (p1 : Int32)  (cs : Int32) (wf : Value) (h0 : Heap) (n0 : Nat) (O0 : Old Z n0 h0) (G : own_Gl Z cs wf) (hi0 : ¬ (p0 < (0 : Int32))) (hi1 : p0 < p1) :
    MetFree l own_y6 (head1 (Jvm.Cond.code own_y6 jdk_42_method_155_code 2 none :: ws) ({ frames := 1, cells := 0, slots := 0, locals := 14 } : Room)) (fun a U => a = #[(.int p0), (.int p1)] ∧ Z.Warmed39 U.vm ∧ U.heap = h0) (fun _ _ _ _ _ => True) (fun _ U o U' => ∃ v L, o = .returned v ∧ own_Q_rmA6 Z p0 p1 cs wf h0 n0 v U'.heap L ∧ FrameEnd U o U' L ({ frames := 1, cells := 0, slots := 0, locals := 14 } : Room).cells ({ frames := 1, cells := 0, slots := 0, locals := 14 } : Room).slots) := by
  refine MetFree.of_bodySF (plainFor_of_name own_pn0) hisR ?_
  intro p e s m args below meth c s₁ Bd hml0 hP hK
  obtain ⟨rfl, hZ, hh⟩ := hP
  have hx := Bd.exec
  have hby := Bd.bytes
  have hml : c.maxLocals = 2 := hml0
  have hown : s.vm.findClass "java/lang/String" = some m.cls := findClass_of_methodNamed Bd.named
  have hnm := (name_of_methodNamed Bd.named Bd.method).1
  have X0 : Stand p l e ({ frames := 1, cells := 0, slots := 0, locals := 14 } : Room) s m #[(.int p0), (.int p1)] below meth c s₁ [] 0 0 := Stand.of_body Bd
  have e0 : s₁.heap = h0 := by rw [← hh, Bd.state]; rfl
  have N0 := Fr.nil n0
  have Z0 : n0 ≤ h0.size := O0.1 ▸ O0.2.1
  have g0 : ∀ t, Steps p.tables e below (s₁.setTop (mkF m 0 #[.val (.int p0), .val (.int p1)] [])) t → Steps p.tables e below (s₁.setTop (entryFrame m #[(.int p0), (.int p1)] 2)) t := fun t k => castTop (own_ef7 m (p0) (p1)) k
  have G0 := G
  obtain ⟨S_CS, hcs, S_WF, hwf⟩ := G
  obtain ⟨T1, X1, e1, st1⟩ := getS2 X0 hx hZ hown (host := "") (Or.inl (own_w hw 81 rfl)) Via.refl e0 (S_WF.ext O0.2) (g := (mkF m 2 #[.val (.int p0), .val (.int p1)] [(.int p1), (.int p0)])) rfl (hb hby own_d25_2)
  have g2 : ∀ t, Steps p.tables e below (T1.setTop (mkF m 5 #[.val (.int p0), .val (.int p1)] [wf, (.int p1), (.int p0)])) t → Steps p.tables e below (s₁.setTop (entryFrame m #[(.int p0), (.int p1)] 2)) t := by
    intro t k
    refine g0 t ?_
    show Steps p.tables e below (s₁.setTop (mkF m 0 #[.val (.int p0), .val (.int p1)] [])) _
    refine XS.iloadN X0.here hx rfl (hb hby own_d25_0) rfl ?_
    refine XS.iloadN X0.here hx rfl (hb hby own_d25_1) rfl ?_
    refine st1 _ ?_
    exact k
  rcases hwf with hwf1 | ⟨xf, hwf1⟩
  · skip
    obtain ⟨_, _, ⟨T3, L3, k3, n3⟩, -, X3, ⟨Lc3, hQ3, l3, y3, z3⟩, st3⟩ := Jvm.LawKit.callS X1 hx (y := own_y7) hown (mvT hZ (own_w hw 136 rfl)) (mvT hZ (own_w hw 137 rfl)) (mvT hZ (own_w hw 82 rfl)) (mvT hZ (own_w hw 138 rfl)) (by decide) (backOf (W := 0) (rmA7 l Z a0 hw [] (p0) (p1)  cs wf h0 n0 O0 G0   hi0 hi1) hZ (own_w hw 138 rfl) (own_w hw 82 rfl) (by decide) (by decide)) (g := (mkF m 5 #[.val (.int p0), .val (.int p1)] [.null, (.int p1), (.int p0)])) rfl (by rw [hml]; rfl) (argsL := [(.int p0), (.int p1), .null]) (rest := []) (lenOf own_pd3 rfl) rfl (by show 2 * 0 + _ ≤ _; exact Nat.le_of_eq rfl) (hb hby own_d25_5) (fun _ _ => ⟨rfl, e1, (by decide : 0 + 0 ≤ _), (by decide : 0 + 0 ≤ _)⟩)
    dsimp only [Pt.U, Pt.locs, Pt.cells, Pt.slots] at X3 l3 y3 z3 st3 hQ3
    subst l3 y3 z3
    obtain ⟨rfl, Nq3, e3⟩ := hQ3
    have N3 := Fr.app N0 Nq3
    have g4 : ∀ t, Steps p.tables e below (T3.setTop (mkF m 9 #[.val (.int p0), .val (.int p1)] [])) t → Steps p.tables e below (s₁.setTop (entryFrame m #[(.int p0), (.int p1)] 2)) t := by
      intro t k
      refine g2 t ?_
      show Steps p.tables e below (T1.setTop (mkF m 5 #[.val (.int p0), .val (.int p1)] [wf, (.int p1), (.int p0)])) _
      rw [hwf1]
      refine st3 _ ?_
      show Steps p.tables e below (T3.setTop (mkF m 8 #[.val (.int p0), .val (.int p1)] [(.int p0)])) _
      refine XS.pop X3.here hx rfl (hb hby own_d25_8) rfl rfl ?_
      exact k
    obtain ⟨fs, hrt, hrun, hended, hW, hsame⟩ := X3.leave (v := none) (fun _ => rfl)
    refine ⟨_, _, g4 _ ?_, hrun, hended, _, _, rfl, ?_, ⟨_, rfl⟩, hW, hsame.mono (by decide) (by decide)⟩
    · show Steps p.tables e below (T3.setTop (mkF m 9 #[.val (.int p0), .val (.int p1)] [])) _
      exact X3.returnOut hx Bd.returns (hb hby own_d25_9) hrt
    · show own_Q_rmA6 Z p0 p1 cs wf h0 n0 _ T3.heap _
      rw [e3]
      exact ⟨rfl, N3, rfl⟩
  · skip
    obtain ⟨_, _, ⟨T5, L5, k5, n5⟩, -, X5, ⟨Lc5, hQ5, l5, y5, z5⟩, st5⟩ := Jvm.LawKit.callS X1 hx (y := own_y7) hown (mvT hZ (own_w hw 136 rfl)) (mvT hZ (own_w hw 137 rfl)) (mvT hZ (own_w hw 82 rfl)) (mvT hZ (own_w hw 138 rfl)) (by decide) (backOf (W := 0) (rmA8 l Z a0 hw [] (p0) (p1) xf  cs wf h0 n0 O0 G0   hi0 hi1) hZ (own_w hw 138 rfl) (own_w hw 82 rfl) (by decide) (by decide)) (g := (mkF m 5 #[.val (.int p0), .val (.int p1)] [(.ref xf), (.int p1), (.int p0)])) rfl (by rw [hml]; rfl) (argsL := [(.int p0), (.int p1), (.ref xf)]) (rest := []) (lenOf own_pd3 rfl) rfl (by show 2 * 0 + _ ≤ _; exact Nat.le_of_eq rfl) (hb hby own_d25_5) (fun _ _ => ⟨rfl, e1, (by decide : 0 + 0 ≤ _), (by decide : 0 + 0 ≤ _)⟩)
    dsimp only [Pt.U, Pt.locs, Pt.cells, Pt.slots] at X5 l5 y5 z5 st5 hQ5
    subst l5 y5 z5
    obtain ⟨rfl, Nq5, e5⟩ := hQ5
    have N5 := Fr.app N0 Nq5
    have g6 : ∀ t, Steps p.tables e below (T5.setTop (mkF m 9 #[.val (.int p0), .val (.int p1)] [])) t → Steps p.tables e below (s₁.setTop (entryFrame m #[(.int p0), (.int p1)] 2)) t := by
      intro t k
      refine g2 t ?_
      show Steps p.tables e below (T1.setTop (mkF m 5 #[.val (.int p0), .val (.int p1)] [wf, (.int p1), (.int p0)])) _
      rw [hwf1]
      refine st5 _ ?_
      show Steps p.tables e below (T5.setTop (mkF m 8 #[.val (.int p0), .val (.int p1)] [(.int p0)])) _
      refine XS.pop X5.here hx rfl (hb hby own_d25_8) rfl rfl ?_
      exact k
    obtain ⟨fs, hrt, hrun, hended, hW, hsame⟩ := X5.leave (v := none) (fun _ => rfl)
    refine ⟨_, _, g6 _ ?_, hrun, hended, _, _, rfl, ?_, ⟨_, rfl⟩, hW, hsame.mono (by decide) (by decide)⟩
    · show Steps p.tables e below (T5.setTop (mkF m 9 #[.val (.int p0), .val (.int p1)] [])) _
      exact X5.returnOut hx Bd.returns (hb hby own_d25_9) hrt
    · show own_Q_rmA6 Z p0 p1 cs wf h0 n0 _ T5.heap _
      rw [e5]
      exact ⟨rfl, N5, rfl⟩
theorem own_pd4 : parseMethodDescriptor "(II)V" = some ⟨[.int, .int], none⟩ := by decide +kernel
theorem own_d24_6 : decode jdk_43_method_2_code 6 = .ok (.aload_n 0, 1) := by decide +kernel
theorem own_d24_7 : decode jdk_43_method_2_code 7 = .ok (.iload_n 1, 1) := by decide +kernel
theorem own_d24_8 : decode jdk_43_method_2_code 8 = .ok (.baload, 1) := by decide +kernel
theorem own_d24_9 : decode jdk_43_method_2_code 9 = .ok (.sipush 255, 3) := by decide +kernel
theorem own_d24_12 : decode jdk_43_method_2_code 12 = .ok (.iand, 1) := by decide +kernel
theorem own_d24_13 : decode jdk_43_method_2_code 13 = .ok (.i2c, 1) := by decide +kernel
theorem own_d24_14 : decode jdk_43_method_2_code 14 = .ok (.ireturn, 1) := by decide +kernel
def own_Q_rmA5 (Z : State) (ob0 : Addr) (k_ob0 : ClassId) (ob0_z : Int32) (ob0_l : List Value) (p1 : Int32) (bj : Int32) (cs : Int32) (wf : Value) (h0 : Heap) (n0 : Nat) (v : Option Value) (h : Heap) (L : List Loc) : Prop := v = some (.int (nar .char ((bj &&& (255 : Int32)).toUInt32.toUInt16.toUInt32.toInt32))) ∧ Fr n0 L ∧ h = h0
set_option maxRecDepth 65536 in
set_option maxHeartbeats 40000000 in
theorem rmA5 (l : Launch) (Z : State) (a0 : Array Value) (hw : ∀ d ∈ tables_1, d.before a0 Z = true) (ws : List Jvm.Cond) (ob0 : Addr) (k_ob0 : ClassId) (ob0_z : Int32) (ob0_l : List Value) (p1 : Int32) (bj : Int32) (cs : Int32) (wf : Value) (h0 : Heap) (n0 : Nat) (O0 : Old Z n0 h0) (G : own_Gl Z cs wf) (V_ob0 : Arv Z h0 ob0 k_ob0 .byte ob0_z ob0_l (.int (0 : Int32))) (hi0 : ¬ (p1 < (0 : Int32))) (hi1 : p1 < ob0_z) (hbj : ob0_l.getD (p1).toNatClampNeg (.int (0 : Int32)) = .int bj) :
    MetFree l own_y5 (head1 (Jvm.Cond.code own_y5 jdk_43_method_2_code 2 (some .char) :: ws) ({ frames := 2, cells := 0, slots := 0, locals := 27 } : Room)) (fun a U => a = #[(.ref ob0), (.int p1)] ∧ Z.Warmed39 U.vm ∧ U.heap = h0) (fun _ _ _ _ _ => True) (fun _ U o U' => ∃ v L, o = .returned v ∧ own_Q_rmA5 Z ob0 k_ob0 ob0_z ob0_l p1 bj cs wf h0 n0 v U'.heap L ∧ FrameEnd U o U' L ({ frames := 2, cells := 0, slots := 0, locals := 27 } : Room).cells ({ frames := 2, cells := 0, slots := 0, locals := 27 } : Room).slots) := by
  refine MetFree.of_bodySF (plainFor_of_name own_pn2) hisR ?_
  intro p e s m args below meth c s₁ Bd hml0 hP hK
  obtain ⟨rfl, hZ, hh⟩ := hP
  have hx := Bd.exec
  have hby := Bd.bytes
  have hml : c.maxLocals = 2 := hml0
  have hown : s.vm.findClass "java/lang/StringLatin1" = some m.cls := findClass_of_methodNamed Bd.named
  have hnm := (name_of_methodNamed Bd.named Bd.method).1
  have X0 : Stand p l e ({ frames := 2, cells := 0, slots := 0, locals := 27 } : Room) s m #[(.ref ob0), (.int p1)] below meth c s₁ [] 0 0 := Stand.of_body Bd
  have e0 : s₁.heap = h0 := by rw [← hh, Bd.state]; rfl
  have N0 := Fr.nil n0
  have Z0 : n0 ≤ h0.size := O0.1 ▸ O0.2.1
  have g0 : ∀ t, Steps p.tables e below (s₁.setTop (mkF m 0 #[.val (.ref ob0), .val (.int p1)] [])) t → Steps p.tables e below (s₁.setTop (entryFrame m #[(.ref ob0), (.int p1)] 2)) t := fun t k => castTop (own_ef6 m (ob0) (p1)) k
  have G0 := G
  obtain ⟨S_CS, hcs, S_WF, hwf⟩ := G
  obtain ⟨c1, Ar1, cq1, S1, Nn1, Hh1, Gg1⟩ := id V_ob0
  obtain ⟨_, _, ⟨T2, L2, k2, n2⟩, -, X2, ⟨Lc2, hQ2, l2, y2, z2⟩, st2⟩ := Jvm.LawKit.callS X0 hx (y := own_y6) hown (mvT hZ (own_w hw 133 rfl)) (mvT hZ (own_w hw 134 rfl)) (mvT hZ (own_w hw 3 rfl)) (mvT hZ (own_w hw 135 rfl)) (by decide) (backOf (W := 0) (rmA6 l Z a0 hw [] (p1) (ob0_z)  cs wf h0 n0 O0 G0   hi0 hi1) hZ (own_w hw 135 rfl) (own_w hw 3 rfl) (by decide) (by decide)) (g := (mkF m 3 #[.val (.ref ob0), .val (.int p1)] [(.int ob0_z), (.int p1)])) rfl (by rw [hml]; rfl) (argsL := [(.int p1), (.int ob0_z)]) (rest := []) (lenOf own_pd4 rfl) rfl (by show 2 * 0 + _ ≤ _; exact Nat.le_of_eq rfl) (hb hby own_d24_3) (fun _ _ => ⟨rfl, e0, (by decide : 0 + 0 ≤ _), (by decide : 0 + 0 ≤ _)⟩)
  dsimp only [Pt.U, Pt.locs, Pt.cells, Pt.slots] at X2 l2 y2 z2 st2 hQ2
  subst l2 y2 z2
  obtain ⟨rfl, Nq2, e2⟩ := hQ2
  have N2 := Fr.app N0 Nq2
  obtain ⟨c3, Ar3, cq3, S3, Nn3, Hh3, Gg3⟩ := id V_ob0
  have hin3 : ¬ (p1 < 0 ∨ c3.slots.size ≤ (p1).toNatClampNeg) := inb_of S3 ⟨hi0, hi1⟩
  have hat3 : c3.slots[(p1).toNatClampNeg]? = some (.int bj) := Has.at Hh3 hin3 hbj
  have g4 : ∀ t, Steps p.tables e below (T2.setTop (mkF m 14 #[.val (.ref ob0), .val (.int p1)] [(.int ((bj &&& (255 : Int32)).toUInt32.toUInt16.toUInt32.toInt32))])) t → Steps p.tables e below (s₁.setTop (entryFrame m #[(.ref ob0), (.int p1)] 2)) t := by
    intro t k
    refine g0 t ?_
    show Steps p.tables e below (s₁.setTop (mkF m 0 #[.val (.ref ob0), .val (.int p1)] [])) _
    refine XS.iloadN X0.here hx rfl (hb hby own_d24_0) rfl ?_
    refine XS.aloadN X0.here hx rfl (hb hby own_d24_1) rfl rfl ?_
    show Steps p.tables e below (s₁.setTop (mkF m 2 #[.val (.ref ob0), .val (.int p1)] [(.ref ob0), (.int p1)])) _
    refine X0.arraylength hx (by rw [e0]; exact Ar1.1) (State.isArrayOf_alike hZ.alike Ar1.2.1) (g := (mkF m 2 #[.val (.ref ob0), .val (.int p1)] [(.ref ob0), (.int p1)])) rfl rfl (hb hby own_d24_2) _ ?_
    rw [len_of S1 Nn1]
    refine st2 _ ?_
    show Steps p.tables e below (T2.setTop (mkF m 6 #[.val (.ref ob0), .val (.int p1)] [])) _
    refine XS.aloadN X2.here hx rfl (hb hby own_d24_6) rfl rfl ?_
    refine XS.iloadN X2.here hx rfl (hb hby own_d24_7) rfl ?_
    refine X2.baloadBytes hx (j := p1) (v := (.int bj)) (by rw [e2]; exact Ar3.1) (State.isArrayOf_alike hZ.alike Ar3.2.1) Ar3.2.2 hin3 hat3 (g := (mkF m 8 #[.val (.ref ob0), .val (.int p1)] [(.int p1), (.ref ob0)])) rfl rfl (hb hby own_d24_8) _ ?_
    refine XS.sipush X2.here hx rfl (hb hby own_d24_9) ?_
    show Steps p.tables e below (T2.setTop (mkF m 12 #[.val (.ref ob0), .val (.int p1)] [(.int (255 : Int32)), (.int bj)])) _
    refine XS.iand X2.here hx rfl (hb hby own_d24_12) rfl ?_
    show Steps p.tables e below (T2.setTop (mkF m 13 #[.val (.ref ob0), .val (.int p1)] [(.int (bj &&& (255 : Int32)))])) _
    refine XS.i2c X2.here hx rfl (hb hby own_d24_13) rfl ?_
    exact k
  obtain ⟨fs, hrt, hrun, hended, hW, hsame⟩ := X2.leave (v := some (.int (nar .char ((bj &&& (255 : Int32)).toUInt32.toUInt16.toUInt32.toInt32)))) (fun h => by rw [Bd.returns] at h; cases h)
  refine ⟨_, _, g4 _ ?_, hrun, hended, _, _, rfl, ?_, ⟨_, rfl⟩, hW, hsame.mono (by decide) (by decide)⟩
  · show Steps p.tables e below (T2.setTop (mkF m 14 #[.val (.ref ob0), .val (.int p1)] [(.int ((bj &&& (255 : Int32)).toUInt32.toUInt16.toUInt32.toInt32))])) _
    exact retN X2 hx (t := .char) Bd.returns (by simp) (hb hby own_d24_14) hrt
  · show own_Q_rmA5 Z ob0 k_ob0 ob0_z ob0_l p1 bj cs wf h0 n0 _ T2.heap _
    rw [e2]
    exact ⟨rfl, N2, rfl⟩
theorem own_pd5 : parseMethodDescriptor "([BI)C" = some ⟨[(.array .byte), .int], some .char⟩ := by decide +kernel
theorem own_d23_15 : decode jdk_42_method_56_code 15 = .ok (.ireturn, 1) := by decide +kernel
def own_Q_rmA3 (Z : State) (ob0 : Addr) (ob0_value : Addr) (k_ob0_value : ClassId) (ob0_value_z : Int32) (ob0_value_l : List Value) (p1 : Int32) (bj : Int32) (cs : Int32) (wf : Value) (h0 : Heap) (n0 : Nat) (v : Option Value) (h : Heap) (L : List Loc) : Prop := v = some (.int (nar .char ((bj &&& (255 : Int32)).toUInt32.toUInt16.toUInt32.toInt32))) ∧ Fr n0 L ∧ h = h0
set_option maxRecDepth 65536 in
set_option maxHeartbeats 40000000 in
theorem rmA3 (l : Launch) (Z : State) (a0 : Array Value) (hw : ∀ d ∈ tables_1, d.before a0 Z = true) (ws : List Jvm.Cond) (ob0 : Addr) (ob0_value : Addr) (k_ob0_value : ClassId) (ob0_value_z : Int32) (ob0_value_l : List Value) (p1 : Int32) (bj : Int32) (cs : Int32) (wf : Value) (h0 : Heap) (n0 : Nat) (O0 : Old Z n0 h0) (G : own_Gl Z cs wf) (E_ob0 : Exa Z h0 ob0 "java/lang/String") (F_ob0_coder : Fld Z h0 ob0 "java/lang/String" "coder" "B" (.int (0 : Int32))) (V_ob0_value : Arv Z h0 ob0_value k_ob0_value .byte ob0_value_z ob0_value_l (.int (0 : Int32))) (F_ob0_value : Fld Z h0 ob0 "java/lang/String" "value" "[B" (.ref ob0_value)) (hi0 : ¬ (p1 < (0 : Int32))) (hi1 : p1 < ob0_value_z) (hbj : ob0_value_l.getD (p1).toNatClampNeg (.int (0 : Int32)) = .int bj) :
    MetFree l own_y3 (head1 (Jvm.Cond.code own_y3 jdk_42_method_56_code 2 (some .char) :: ws) ({ frames := 3, cells := 0, slots := 0, locals := 40 } : Room)) (fun a U => a = #[(.ref ob0), (.int p1)] ∧ Z.Warmed39 U.vm ∧ U.heap = h0) (fun _ _ _ _ _ => True) (fun _ U o U' => ∃ v L, o = .returned v ∧ own_Q_rmA3 Z ob0 ob0_value k_ob0_value ob0_value_z ob0_value_l p1 bj cs wf h0 n0 v U'.heap L ∧ FrameEnd U o U' L ({ frames := 3, cells := 0, slots := 0, locals := 40 } : Room).cells ({ frames := 3, cells := 0, slots := 0, locals := 40 } : Room).slots) := by
  refine MetFree.of_bodySF (plainFor_of_name own_pn0) hisR ?_
  intro p e s m args below meth c s₁ Bd hml0 hP hK
  obtain ⟨rfl, hZ, hh⟩ := hP
  have hx := Bd.exec
  have hby := Bd.bytes
  have hml : c.maxLocals = 2 := hml0
  have hown : s.vm.findClass "java/lang/String" = some m.cls := findClass_of_methodNamed Bd.named
  have hnm := (name_of_methodNamed Bd.named Bd.method).1
  have X0 : Stand p l e ({ frames := 3, cells := 0, slots := 0, locals := 40 } : Room) s m #[(.ref ob0), (.int p1)] below meth c s₁ [] 0 0 := Stand.of_body Bd
  have e0 : s₁.heap = h0 := by rw [← hh, Bd.state]; rfl
  have N0 := Fr.nil n0
  have Z0 : n0 ≤ h0.size := O0.1 ▸ O0.2.1
  have g0 : ∀ t, Steps p.tables e below (s₁.setTop (mkF m 0 #[.val (.ref ob0), .val (.int p1)] [])) t → Steps p.tables e below (s₁.setTop (entryFrame m #[(.ref ob0), (.int p1)] 2)) t := fun t k => castTop (own_ef4 m (ob0) (p1)) k
  have G0 := G
  obtain ⟨S_CS, hcs, S_WF, hwf⟩ := G
  obtain ⟨cq1, kq1, q1a, q1b, q1c⟩ := isOf hZ e0 E_ob0
  obtain ⟨_, _, ⟨T1, L1, k1, n1⟩, -, X1, ⟨Lc1, hQ1, l1, y1, z1⟩, st1⟩ := X0.virtualBack hx (y := own_y4) (z := own_y4) hown (mvT hZ (own_w hw 86 rfl)) (mvT hZ (own_w hw 87 rfl)) (notFace_of_selects (args := #[]) (mvT hZ (own_w hw 89 rfl))) (mvT hZ (own_w hw 89 rfl)) (mvT hZ (own_w hw 88 rfl)) (by decide) (backOf (W := 0) (rmA4 l Z a0 hw [] ob0 ob0_value k_ob0_value (ob0_value_z) ob0_value_l  cs wf h0 n0 O0 G0 E_ob0 F_ob0_coder V_ob0_value F_ob0_value  ) hZ (own_w hw 90 rfl) (own_w hw 3 rfl) (by decide) (by decide)) q1a q1c (g := (mkF m 1 #[.val (.ref ob0), .val (.int p1)] [(.ref ob0)])) rfl (by rw [hml]; rfl) (Steps.refl _) (argsL := []) (rest := []) (lenOf own_pd2 rfl) rfl (by show 2 * 0 + _ ≤ _; exact Nat.le_of_eq rfl) (hb hby own_d23_1) (fun _ _ => ⟨rfl, e0, (by decide : 0 + 0 ≤ _), (by decide : 0 + 0 ≤ _)⟩)
  dsimp only [Pt.U, Pt.locs, Pt.cells, Pt.slots] at X1 l1 y1 z1 st1 hQ1
  subst l1 y1 z1
  obtain ⟨rfl, Nq1, e1⟩ := hQ1
  have N1 := Fr.app N0 Nq1
  obtain ⟨T2, X2, e2, st2⟩ := getF X1 hx hZ hown (host := "") (Or.inl (own_w hw 28 rfl)) Via.refl e1 F_ob0_value (g := (mkF m 8 #[.val (.ref ob0), .val (.int p1)] [(.ref ob0)])) rfl rfl (hb hby own_d23_8)
  obtain ⟨_, _, ⟨T3, L3, k3, n3⟩, -, X3, ⟨Lc3, hQ3, l3, y3, z3⟩, st3⟩ := Jvm.LawKit.callS X2 hx (y := own_y5) hown (mvT hZ (own_w hw 130 rfl)) (mvT hZ (own_w hw 131 rfl)) (mvT hZ (own_w hw 93 rfl)) (mvT hZ (own_w hw 132 rfl)) (by decide) (backOf (W := 0) (rmA5 l Z a0 hw [] ob0_value k_ob0_value (ob0_value_z) ob0_value_l (p1) bj cs wf h0 n0 O0 G0 V_ob0_value  hi0 hi1 hbj) hZ (own_w hw 132 rfl) (own_w hw 93 rfl) (by decide) (by decide)) (g := (mkF m 12 #[.val (.ref ob0), .val (.int p1)] [(.int p1), (.ref ob0_value)])) rfl (by rw [hml]; rfl) (argsL := [(.ref ob0_value), (.int p1)]) (rest := []) (lenOf own_pd5 rfl) rfl (by show 2 * 0 + _ ≤ _; exact Nat.le_of_eq rfl) (hb hby own_d23_12) (fun _ _ => ⟨rfl, e2, (by decide : 0 + 0 ≤ _), (by decide : 0 + 0 ≤ _)⟩)
  dsimp only [Pt.U, Pt.locs, Pt.cells, Pt.slots] at X3 l3 y3 z3 st3 hQ3
  subst l3 y3 z3
  obtain ⟨rfl, Nq3, e3⟩ := hQ3
  have N3 := Fr.app N1 Nq3
  have g4 : ∀ t, Steps p.tables e below (T3.setTop (mkF m 15 #[.val (.ref ob0), .val (.int p1)] [(.int (nar .char ((bj &&& (255 : Int32)).toUInt32.toUInt16.toUInt32.toInt32)))])) t → Steps p.tables e below (s₁.setTop (entryFrame m #[(.ref ob0), (.int p1)] 2)) t := by
    intro t k
    refine g0 t ?_
    show Steps p.tables e below (s₁.setTop (mkF m 0 #[.val (.ref ob0), .val (.int p1)] [])) _
    refine XS.aloadN X0.here hx rfl (hb hby own_d23_0) rfl rfl ?_
    refine st1.trans ?_
    refine XS.ifNo X1.here hx rfl (hb hby own_d23_4) rfl ((if0 _ _).trans (feq (by decide : ¬ ((1 : Int32) = (0 : Int32)))).1) ?_
    refine XS.aloadN X1.here hx rfl (hb hby own_d23_7) rfl rfl ?_
    show Steps p.tables e below (T1.setTop (mkF m 8 #[.val (.ref ob0), .val (.int p1)] [(.ref ob0)])) _
    refine st2 _ ?_
    refine XS.iloadN X2.here hx rfl (hb hby own_d23_11) rfl ?_
    refine st3 _ ?_
    exact k
  obtain ⟨fs, hrt, hrun, hended, hW, hsame⟩ := X3.leave (v := some (.int (nar .char (nar .char ((bj &&& (255 : Int32)).toUInt32.toUInt16.toUInt32.toInt32))))) (fun h => by rw [Bd.returns] at h; cases h)
  refine ⟨_, _, g4 _ ?_, hrun, hended, _, _, rfl, ?_, ⟨_, rfl⟩, hW, hsame.mono (by decide) (by decide)⟩
  · show Steps p.tables e below (T3.setTop (mkF m 15 #[.val (.ref ob0), .val (.int p1)] [(.int (nar .char ((bj &&& (255 : Int32)).toUInt32.toUInt16.toUInt32.toInt32)))])) _
    exact retN X3 hx (t := .char) Bd.returns (by simp) (hb hby own_d23_15) hrt
  · show own_Q_rmA3 Z ob0 ob0_value k_ob0_value ob0_value_z ob0_value_l p1 bj cs wf h0 n0 _ T3.heap _
    rw [e3]
    exact ⟨by rw [own_nar2], N3, rfl⟩
theorem own_pd6 : parseMethodDescriptor "(I)C" = some ⟨[.int], some .char⟩ := by decide +kernel
theorem own_d17_13 : decode method_2_code 13 = .ok (.aload_n 2, 1) := by decide +kernel
theorem own_d17_14 : decode method_2_code 14 = .ok (.iload_n 3, 1) := by decide +kernel
theorem own_d17_15 : decode method_2_code 15 = .ok (.iload_n 1, 1) := by decide +kernel
theorem own_d17_16 : decode method_2_code 16 = .ok (.iadd, 1) := by decide +kernel
theorem own_d17_17 : decode method_2_code 17 = .ok (.caload, 1) := by decide +kernel
theorem own_d17_18 : decode method_2_code 18 = .ok (.if_icmp .ne 7, 3) := by decide +kernel
theorem own_d17_21 : decode method_2_code 21 = .ok (.iconst 1, 1) := by decide +kernel
theorem own_d17_22 : decode method_2_code 22 = .ok (.goto 4, 3) := by decide +kernel
theorem own_d17_26 : decode method_2_code 26 = .ok (.ireturn, 1) := by decide +kernel
def own_Q_rmA2 (Z : State) (ob0 : Addr) (ob0_value : Addr) (k_ob0_value : ClassId) (ob0_value_z : Int32) (ob0_value_l : List Value) (p1 : Int32) (ob2 : Addr) (k_ob2 : ClassId) (ob2_0 : Int32) (ob2_1 : Int32) (ob2_2 : Int32) (ob2_3 : Int32) (p3 : Int32) (p4 : Int32) (bj cj : Int32) (cs : Int32) (wf : Value) (h0 : Heap) (n0 : Nat) (v : Option Value) (h : Heap) (L : List Loc) : Prop := v = some (.int (1 : Int32)) ∧ Fr n0 L ∧ h = h0
set_option maxRecDepth 65536 in
set_option maxHeartbeats 40000000 in
theorem rmA2 (l : Launch) (Z : State) (a0 : Array Value) (hw : ∀ d ∈ tables_1, d.before a0 Z = true) (ws : List Jvm.Cond) (ob0 : Addr) (ob0_value : Addr) (k_ob0_value : ClassId) (ob0_value_z : Int32) (ob0_value_l : List Value) (p1 : Int32) (ob2 : Addr) (k_ob2 : ClassId) (ob2_0 : Int32) (ob2_1 : Int32) (ob2_2 : Int32) (ob2_3 : Int32) (p3 : Int32) (p4 : Int32) (bj cj : Int32) (cs : Int32) (wf : Value) (h0 : Heap) (n0 : Nat) (O0 : Old Z n0 h0) (G : own_Gl Z cs wf) (E_ob0 : Exa Z h0 ob0 "java/lang/String") (F_ob0_coder : Fld Z h0 ob0 "java/lang/String" "coder" "B" (.int (0 : Int32))) (V_ob0_value : Arv Z h0 ob0_value k_ob0_value .byte ob0_value_z ob0_value_l (.int (0 : Int32))) (F_ob0_value : Fld Z h0 ob0 "java/lang/String" "value" "[B" (.ref ob0_value)) (V_ob2 : Arv Z h0 ob2 k_ob2 .char (4 : Int32) [(.int ob2_0), (.int ob2_1), (.int ob2_2), (.int ob2_3)] (.int (0 : Int32))) (hd : ¬ (p1 < p4) ∨ (p1 < p4 ∧ ¬ (p1 < (0 : Int32)) ∧ p1 < ob0_value_z ∧ ob0_value_l.getD (p1).toNatClampNeg (.int (0 : Int32)) = .int bj ∧ ¬ ((p3 + p1) < (0 : Int32)) ∧ (p3 + p1) < (4 : Int32) ∧ ([(.int ob2_0), (.int ob2_1), (.int ob2_2), (.int ob2_3)] : List Value).getD (p3 + p1).toNatClampNeg (.int (0 : Int32)) = .int cj ∧ (nar .char ((bj &&& (255 : Int32)).toUInt32.toUInt16.toUInt32.toInt32)) = cj)) :
    MetFree l own_y2 (head1 (Jvm.Cond.code own_y2 method_2_code 5 (some .boolean) :: ws) ({ frames := 4, cells := 0, slots := 0, locals := 53 } : Room)) (fun a U => a = #[(.ref ob0), (.int p1), (.ref ob2), (.int p3), (.int p4)] ∧ Z.Warmed39 U.vm ∧ U.heap = h0) (fun _ _ _ _ _ => True) (fun _ U o U' => ∃ v L, o = .returned v ∧ own_Q_rmA2 Z ob0 ob0_value k_ob0_value ob0_value_z ob0_value_l p1 ob2 k_ob2 ob2_0 ob2_1 ob2_2 ob2_3 p3 p4 bj cj cs wf h0 n0 v U'.heap L ∧ FrameEnd U o U' L ({ frames := 4, cells := 0, slots := 0, locals := 53 } : Room).cells ({ frames := 4, cells := 0, slots := 0, locals := 53 } : Room).slots) := by
  refine MetFree.of_bodySF (plainFor_of_name own_pn1) hisR ?_
  intro p e s m args below meth c s₁ Bd hml0 hP hK
  obtain ⟨rfl, hZ, hh⟩ := hP
  have hx := Bd.exec
  have hby := Bd.bytes
  have hml : c.maxLocals = 5 := hml0
  have hown : s.vm.findClass "com/example/momus/momus/model/FormatSpecifierTextPinLaw" = some m.cls := findClass_of_methodNamed Bd.named
  have hnm := (name_of_methodNamed Bd.named Bd.method).1
  have X0 : Stand p l e ({ frames := 4, cells := 0, slots := 0, locals := 53 } : Room) s m #[(.ref ob0), (.int p1), (.ref ob2), (.int p3), (.int p4)] below meth c s₁ [] 0 0 := Stand.of_body Bd
  have e0 : s₁.heap = h0 := by rw [← hh, Bd.state]; rfl
  have N0 := Fr.nil n0
  have Z0 : n0 ≤ h0.size := O0.1 ▸ O0.2.1
  have g0 : ∀ t, Steps p.tables e below (s₁.setTop (mkF m 0 #[.val (.ref ob0), .val (.int p1), .val (.ref ob2), .val (.int p3), .val (.int p4)] [])) t → Steps p.tables e below (s₁.setTop (entryFrame m #[(.ref ob0), (.int p1), (.ref ob2), (.int p3), (.int p4)] 5)) t := fun t k => castTop (own_ef3 m (ob0) (p1) (ob2) (p3) (p4)) k
  have G0 := G
  obtain ⟨S_CS, hcs, S_WF, hwf⟩ := G
  rcases hd with hge | ⟨hlt, hi0, hi1, hbj, hj0, hj1, hcj, heq⟩
  · skip
    have g1 : ∀ t, Steps p.tables e below (s₁.setTop (mkF m 7 #[.val (.ref ob0), .val (.int p1), .val (.ref ob2), .val (.int p3), .val (.int p4)] [(.int (1 : Int32))])) t → Steps p.tables e below (s₁.setTop (entryFrame m #[(.ref ob0), (.int p1), (.ref ob2), (.int p3), (.int p4)] 5)) t := by
      intro t k
      refine g0 t ?_
      show Steps p.tables e below (s₁.setTop (mkF m 0 #[.val (.ref ob0), .val (.int p1), .val (.ref ob2), .val (.int p3), .val (.int p4)] [])) _
      refine XS.iloadN X0.here hx rfl (hb hby own_d17_0) rfl ?_
      refine XS.iload X0.here hx rfl (hb hby own_d17_1) rfl ?_
      refine XS.icmpNo X0.here hx rfl (hb hby own_d17_3) rfl (flt hge).1 ?_
      refine XS.iconst X0.here hx rfl (hb hby own_d17_6) ?_
      exact k
    obtain ⟨fs, hrt, hrun, hended, hW, hsame⟩ := X0.leave (v := some (.int (1 : Int32))) (fun h => by rw [Bd.returns] at h; cases h)
    refine ⟨_, _, g1 _ ?_, hrun, hended, _, _, rfl, ?_, ⟨_, rfl⟩, hW, hsame.mono (by decide) (by decide)⟩
    · show Steps p.tables e below (s₁.setTop (mkF m 7 #[.val (.ref ob0), .val (.int p1), .val (.ref ob2), .val (.int p3), .val (.int p4)] [(.int (1 : Int32))])) _
      exact retN X0 hx (t := .boolean) Bd.returns (by simp) (hb hby own_d17_7) hrt
    · show own_Q_rmA2 Z ob0 ob0_value k_ob0_value ob0_value_z ob0_value_l p1 ob2 k_ob2 ob2_0 ob2_1 ob2_2 ob2_3 p3 p4 bj cj cs wf h0 n0 _ s₁.heap _
      rw [e0]
      exact ⟨rfl, N0, rfl⟩
  · skip
    obtain ⟨cq2, kq2, q2a, q2b, q2c⟩ := isOf hZ e0 E_ob0
    obtain ⟨_, _, ⟨T2, L2, k2, n2⟩, -, X2, ⟨Lc2, hQ2, l2, y2, z2⟩, st2⟩ := X0.virtualBack hx (y := own_y3) (z := own_y3) hown (mvT hZ (own_w hw 125 rfl)) (mvT hZ (own_w hw 126 rfl)) (notFace_of_selects (args := #[]) (mvT hZ (own_w hw 128 rfl))) (mvT hZ (own_w hw 128 rfl)) (mvT hZ (own_w hw 127 rfl)) (by decide) (backOf (W := 0) (rmA3 l Z a0 hw [] ob0 ob0_value k_ob0_value (ob0_value_z) ob0_value_l (p1) bj cs wf h0 n0 O0 G0 E_ob0 F_ob0_coder V_ob0_value F_ob0_value  hi0 hi1 hbj) hZ (own_w hw 129 rfl) (own_w hw 3 rfl) (by decide) (by decide)) q2a q2c (g := (mkF m 10 #[.val (.ref ob0), .val (.int p1), .val (.ref ob2), .val (.int p3), .val (.int p4)] [(.int p1), (.ref ob0)])) rfl (by rw [hml]; rfl) (Steps.refl _) (argsL := [(.int p1)]) (rest := []) (lenOf own_pd6 rfl) rfl (by show 2 * 0 + _ ≤ _; exact Nat.le_of_eq rfl) (hb hby own_d17_10) (fun _ _ => ⟨rfl, e0, (by decide : 0 + 0 ≤ _), (by decide : 0 + 0 ≤ _)⟩)
    dsimp only [Pt.U, Pt.locs, Pt.cells, Pt.slots] at X2 l2 y2 z2 st2 hQ2
    subst l2 y2 z2
    obtain ⟨rfl, Nq2, e2⟩ := hQ2
    have N2 := Fr.app N0 Nq2
    obtain ⟨c3, Ar3, cq3, S3, Nn3, Hh3, Gg3⟩ := id V_ob2
    have hin3 : ¬ ((p3 + p1) < 0 ∨ c3.slots.size ≤ ((p3 + p1)).toNatClampNeg) := inb_of S3 ⟨hj0, hj1⟩
    have hat3 : c3.slots[((p3 + p1)).toNatClampNeg]? = some (.int cj) := Has.at Hh3 hin3 hcj
    have hc4 : (nar .char ((bj &&& (255 : Int32)).toUInt32.toUInt16.toUInt32.toInt32)) = cj := heq
    have g5 : ∀ t, Steps p.tables e below (T2.setTop (mkF m 26 #[.val (.ref ob0), .val (.int p1), .val (.ref ob2), .val (.int p3), .val (.int p4)] [(.int (1 : Int32))])) t → Steps p.tables e below (s₁.setTop (entryFrame m #[(.ref ob0), (.int p1), (.ref ob2), (.int p3), (.int p4)] 5)) t := by
      intro t k
      refine g0 t ?_
      show Steps p.tables e below (s₁.setTop (mkF m 0 #[.val (.ref ob0), .val (.int p1), .val (.ref ob2), .val (.int p3), .val (.int p4)] [])) _
      refine XS.iloadN X0.here hx rfl (hb hby own_d17_0) rfl ?_
      refine XS.iload X0.here hx rfl (hb hby own_d17_1) rfl ?_
      refine XS.icmpYes X0.here hx rfl (pc0 := 3) (pc' := 8) rfl (hb hby own_d17_3) rfl (tlt hlt).1 (by decide) (by decide) ?_
      refine XS.aloadN X0.here hx rfl (hb hby own_d17_8) rfl rfl ?_
      show Steps p.tables e below (s₁.setTop (mkF m 9 #[.val (.ref ob0), .val (.int p1), .val (.ref ob2), .val (.int p3), .val (.int p4)] [(.ref ob0)])) _
      refine XS.iloadN X0.here hx rfl (hb hby own_d17_9) rfl ?_
      refine st2.trans ?_
      refine XS.aloadN X2.here hx rfl (hb hby own_d17_13) rfl rfl ?_
      refine XS.iloadN X2.here hx rfl (hb hby own_d17_14) rfl ?_
      show Steps p.tables e below (T2.setTop (mkF m 15 #[.val (.ref ob0), .val (.int p1), .val (.ref ob2), .val (.int p3), .val (.int p4)] [(.int p3), (.ref ob2), (.int (nar .char ((bj &&& (255 : Int32)).toUInt32.toUInt16.toUInt32.toInt32)))])) _
      refine XS.iloadN X2.here hx rfl (hb hby own_d17_15) rfl ?_
      show Steps p.tables e below (T2.setTop (mkF m 16 #[.val (.ref ob0), .val (.int p1), .val (.ref ob2), .val (.int p3), .val (.int p4)] [(.int p1), (.int p3), (.ref ob2), (.int (nar .char ((bj &&& (255 : Int32)).toUInt32.toUInt16.toUInt32.toInt32)))])) _
      refine XS.iadd X2.here hx rfl (hb hby own_d17_16) rfl ?_
      refine X2.caload hx (j := (p3 + p1)) (v := (.int cj)) (by rw [e2]; exact Ar3.1) (State.isArrayOf_alike hZ.alike Ar3.2.1) Ar3.2.2 hin3 hat3 (g := (mkF m 17 #[.val (.ref ob0), .val (.int p1), .val (.ref ob2), .val (.int p3), .val (.int p4)] [(.int (p3 + p1)), (.ref ob2), (.int (nar .char ((bj &&& (255 : Int32)).toUInt32.toUInt16.toUInt32.toInt32)))])) rfl rfl (hb hby own_d17_17) _ ?_
      refine XS.icmpNo X2.here hx rfl (hb hby own_d17_18) rfl (teq hc4).2 ?_
      show Steps p.tables e below (T2.setTop (mkF m 21 #[.val (.ref ob0), .val (.int p1), .val (.ref ob2), .val (.int p3), .val (.int p4)] [])) _
      refine XS.iconst X2.here hx rfl (hb hby own_d17_21) ?_
      refine XS.goto X2.here hx rfl (pc0 := 22) (pc' := 26) rfl (hb hby own_d17_22) (by decide) (by decide) ?_
      exact k
    obtain ⟨fs, hrt, hrun, hended, hW, hsame⟩ := X2.leave (v := some (.int (1 : Int32))) (fun h => by rw [Bd.returns] at h; cases h)
    refine ⟨_, _, g5 _ ?_, hrun, hended, _, _, rfl, ?_, ⟨_, rfl⟩, hW, hsame.mono (by decide) (by decide)⟩
    · show Steps p.tables e below (T2.setTop (mkF m 26 #[.val (.ref ob0), .val (.int p1), .val (.ref ob2), .val (.int p3), .val (.int p4)] [(.int (1 : Int32))])) _
      exact retN X2 hx (t := .boolean) Bd.returns (by simp) (hb hby own_d17_26) hrt
    · show own_Q_rmA2 Z ob0 ob0_value k_ob0_value ob0_value_z ob0_value_l p1 ob2 k_ob2 ob2_0 ob2_1 ob2_2 ob2_3 p3 p4 bj cj cs wf h0 n0 _ T2.heap _
      rw [e2]
      exact ⟨rfl, N2, rfl⟩
theorem own_pd7 : parseMethodDescriptor "(Ljava/lang/String;I[CII)Z" = some ⟨[(.object "java/lang/String"), .int, (.array .char), .int, .int], some .boolean⟩ := by decide +kernel
set_option maxRecDepth 65536 in
set_option maxHeartbeats 40000000 in
theorem own_tail {p : Program} {l : Launch} {e : Env} {s : State} {m : MethodId} {args : Array Value} {below : List Frame} {meth : Method} {c : Code} {T0 σ : State} {locs : List Loc} {cells slots k0 : Nat} {Z : State} {a0 : Array Value} {h0 H0 : Heap} {n0 : Nat} {vm0 : Vm} (p1 p2 p3 p4 p5 p6 st en nn rl cv c0 c1 c2 c3 b0 b1 b2 b3 d0 d1 d2 d3 : Int32) (arr ps ofs sa sb : Addr) (sk ka : ClassId) (bl : List Value) (cs : Int32) (wf : Value)
    (X0 : Stand p l e room_1 (s.setVm vm0) m args below meth c T0 locs cells slots) (hx : p.tables.exec = Jvm.exec) (hZ : Z.Warmed39 (s.setVm vm0).vm) (hw : ∀ d ∈ tables_1, d.before a0 Z = true) (hby : c.code = code) (hml : c.maxLocals = 15) (hown : (s.setVm vm0).vm.findClass "com/example/momus/momus/model/FormatSpecifierTextPinLaw" = some m.cls) (e0 : T0.heap = H0) (O0 : Old Z n0 H0) (N0 : Fr n0 locs)
    (hS : s.Since vm0 k0) (hk : k0 ≤ H0.size) (hC : CHr Z own_EL s.vm h0 vm0 H0) (hh : s.heap = h0) (hret : meth.sig.returnType = some .boolean) (hlk : meth.locks = false) (hcl : cells ≤ room_1.cells) (hsl : slots ≤ room_1.slots) (G : own_Gl Z cs wf) (hn : (en - st) = nn) (Qe : Exa Z H0 sa "java/lang/String") (Qc : Fld Z H0 sa "java/lang/String" "coder" "B" (.int (0 : Int32))) (Qv : Fld Z H0 sa "java/lang/String" "value" "[B" (.ref sb)) (Qa : Arv Z H0 sb sk .byte nn bl (.int (0 : Int32))) (Vc : Arv Z H0 arr ka .char (4 : Int32) [(.int c0), (.int c1), (.int c2), (.int c3)] (.int (0 : Int32))) (hd0 : ¬ ((0 : Int32) < nn) ∨ ((0 : Int32) < nn ∧ ¬ ((0 : Int32) < (0 : Int32)) ∧ (0 : Int32) < nn ∧ bl.getD ((0 : Int32)).toNatClampNeg (.int (0 : Int32)) = .int b0 ∧ ¬ ((st + (0 : Int32)) < (0 : Int32)) ∧ (st + (0 : Int32)) < (4 : Int32) ∧ ([(.int c0), (.int c1), (.int c2), (.int c3)] : List Value).getD (st + (0 : Int32)).toNatClampNeg (.int (0 : Int32)) = .int d0 ∧ (nar .char ((b0 &&& (255 : Int32)).toUInt32.toUInt16.toUInt32.toInt32)) = d0)) (hd1 : ¬ ((1 : Int32) < nn) ∨ ((1 : Int32) < nn ∧ ¬ ((1 : Int32) < (0 : Int32)) ∧ (1 : Int32) < nn ∧ bl.getD ((1 : Int32)).toNatClampNeg (.int (0 : Int32)) = .int b1 ∧ ¬ ((st + (1 : Int32)) < (0 : Int32)) ∧ (st + (1 : Int32)) < (4 : Int32) ∧ ([(.int c0), (.int c1), (.int c2), (.int c3)] : List Value).getD (st + (1 : Int32)).toNatClampNeg (.int (0 : Int32)) = .int d1 ∧ (nar .char ((b1 &&& (255 : Int32)).toUInt32.toUInt16.toUInt32.toInt32)) = d1)) (hd2 : ¬ ((2 : Int32) < nn) ∨ ((2 : Int32) < nn ∧ ¬ ((2 : Int32) < (0 : Int32)) ∧ (2 : Int32) < nn ∧ bl.getD ((2 : Int32)).toNatClampNeg (.int (0 : Int32)) = .int b2 ∧ ¬ ((st + (2 : Int32)) < (0 : Int32)) ∧ (st + (2 : Int32)) < (4 : Int32) ∧ ([(.int c0), (.int c1), (.int c2), (.int c3)] : List Value).getD (st + (2 : Int32)).toNatClampNeg (.int (0 : Int32)) = .int d2 ∧ (nar .char ((b2 &&& (255 : Int32)).toUInt32.toUInt16.toUInt32.toInt32)) = d2)) (hd3 : ¬ ((3 : Int32) < nn) ∨ ((3 : Int32) < nn ∧ ¬ ((3 : Int32) < (0 : Int32)) ∧ (3 : Int32) < nn ∧ bl.getD ((3 : Int32)).toNatClampNeg (.int (0 : Int32)) = .int b3 ∧ ¬ ((st + (3 : Int32)) < (0 : Int32)) ∧ (st + (3 : Int32)) < (4 : Int32) ∧ ([(.int c0), (.int c1), (.int c2), (.int c3)] : List Value).getD (st + (3 : Int32)).toNatClampNeg (.int (0 : Int32)) = .int d3 ∧ (nar .char ((b3 &&& (255 : Int32)).toUInt32.toUInt16.toUInt32.toInt32)) = d3))
    (g0 : ∀ t, Steps p.tables e below (T0.setTop (mkF m 142 #[.val (.int p1), .val (.int p2), .val (.int p3), .val (.int p4), .val (.int p5), .val (.int p6), .val (.ref arr), .val (.ref ps), .val (.int st), .val (.int en), .val (.int rl), .val (.int cv), .val (.ref ofs), .unset, .unset] [(.ref sa)])) t → Steps p.tables e below σ t) :
    ∃ t o, Steps p.tables e below σ t ∧ t.status = .running ∧ Ended t below o ∧ ∃ v L, o = .returned v ∧ own_Q_rm0 Z p1 p2 p3 p4 p5 p6 cs wf h0 n0 v t.heap L ∧ CHr Z own_EL s.vm s.heap t.vm t.heap ∧ ReturnedEndW s o t L room_1.cells room_1.slots := by
  have Z0 : n0 ≤ H0.size := O0.1 ▸ O0.2.1
  have G0 := G
  obtain ⟨S_CS, hcs, S_WF, hwf⟩ := G
  have g1 : ∀ t, Steps p.tables e below (T0.setTop (mkF m 149 #[.val (.int p1), .val (.int p2), .val (.int p3), .val (.int p4), .val (.int p5), .val (.int p6), .val (.ref arr), .val (.ref ps), .val (.int st), .val (.int en), .val (.int rl), .val (.int cv), .val (.ref ofs), .val (.ref sa), .unset] [(.int nn)])) t → Steps p.tables e below σ t := by
    intro t k
    rw [← hn] at k
    refine g0 t ?_
    show Steps p.tables e below (T0.setTop (mkF m 142 #[.val (.int p1), .val (.int p2), .val (.int p3), .val (.int p4), .val (.int p5), .val (.int p6), .val (.ref arr), .val (.ref ps), .val (.int st), .val (.int en), .val (.int rl), .val (.int cv), .val (.ref ofs), .unset, .unset] [(.ref sa)])) _
    refine XS.astore X0.here hx rfl (hb hby at_142) rfl rfl (l' := #[.val (.int p1), .val (.int p2), .val (.int p3), .val (.int p4), .val (.int p5), .val (.int p6), .val (.ref arr), .val (.ref ps), .val (.int st), .val (.int en), .val (.int rl), .val (.int cv), .val (.ref ofs), .val (.ref sa), .unset]) rfl ?_
    refine XS.iload X0.here hx rfl (hb hby at_144) rfl ?_
    refine XS.iload X0.here hx rfl (hb hby at_146) rfl ?_
    show Steps p.tables e below (T0.setTop (mkF m 148 #[.val (.int p1), .val (.int p2), .val (.int p3), .val (.int p4), .val (.int p5), .val (.int p6), .val (.ref arr), .val (.ref ps), .val (.int st), .val (.int en), .val (.int rl), .val (.int cv), .val (.ref ofs), .val (.ref sa), .unset] [(.int st), (.int en)])) _
    refine XS.isub X0.here hx rfl (hb hby at_148) rfl ?_
    exact k
  obtain ⟨cq2, kq2, q2a, q2b, q2c⟩ := isOf hZ e0 Qe
  obtain ⟨_, _, ⟨T2, L2, k2, n2⟩, -, X2, ⟨Lc2, hQ2, l2, y2, z2⟩, st2⟩ := X0.virtualBack hx (y := own_y0) (z := own_y0) hown (mvT hZ (own_w hw 98 rfl)) (mvT hZ (own_w hw 69 rfl)) (notFace_of_selects (args := #[]) (mvT hZ (own_w hw 71 rfl))) (mvT hZ (own_w hw 71 rfl)) (mvT hZ (own_w hw 70 rfl)) (by decide) (backOf (W := 0) (rmA0 l Z a0 hw [] sa sb sk (nn) bl  cs wf H0 n0 O0 G0 Qe Qc Qa Qv  ) hZ (own_w hw 72 rfl) (own_w hw 3 rfl) (by decide) (by decide)) q2a q2c (g := (mkF m 153 #[.val (.int p1), .val (.int p2), .val (.int p3), .val (.int p4), .val (.int p5), .val (.int p6), .val (.ref arr), .val (.ref ps), .val (.int st), .val (.int en), .val (.int rl), .val (.int cv), .val (.ref ofs), .val (.ref sa), .val (.int nn)] [(.ref sa)])) rfl (by rw [hml]; rfl) (Steps.refl _) (argsL := []) (rest := []) (lenOf own_pd1 rfl) rfl (by show 2 * 0 + _ ≤ _; exact Nat.le_of_eq rfl) (hb hby at_153) (fun _ _ => ⟨rfl, e0, hcl, hsl⟩)
  dsimp only [Pt.U, Pt.locs, Pt.cells, Pt.slots] at X2 l2 y2 z2 st2 hQ2
  subst l2 y2 z2
  obtain ⟨rfl, Nq2, e2⟩ := hQ2
  have N2 := Fr.app N0 Nq2
  have hc3 : (nn >>> ((0 : Int32) &&& 31)) = nn := own_shr0 _
  obtain ⟨_, _, ⟨T4, L4, k4, n4⟩, -, X4, ⟨Lc4, hQ4, l4, y4, z4⟩, st4⟩ := Jvm.LawKit.callS X2 hx (y := own_y2) hown (mvT hZ (own_w hw 99 rfl)) (mvT hZ (own_w hw 100 rfl)) (mvT hZ (own_w hw 101 rfl)) (mvT hZ (own_w hw 102 rfl)) (by decide) (backOf (W := 0) (rmA2 l Z a0 hw [] sa sb sk (nn) bl ((0 : Int32)) arr ka (c0) (c1) (c2) (c3) (st) (nn) b0 d0 cs wf H0 n0 O0 G0 Qe Qc Qa Qv Vc  hd0) hZ (own_w hw 102 rfl) (own_w hw 101 rfl) (by decide) (by decide)) (g := (mkF m 172 #[.val (.int p1), .val (.int p2), .val (.int p3), .val (.int p4), .val (.int p5), .val (.int p6), .val (.ref arr), .val (.ref ps), .val (.int st), .val (.int en), .val (.int rl), .val (.int cv), .val (.ref ofs), .val (.ref sa), .val (.int nn)] [(.int nn), (.int st), (.ref arr), (.int (0 : Int32)), (.ref sa)])) rfl (by rw [hml]; rfl) (argsL := [(.ref sa), (.int (0 : Int32)), (.ref arr), (.int st), (.int nn)]) (rest := []) (lenOf own_pd7 rfl) rfl (by show 2 * 0 + _ ≤ _; exact Nat.le_of_eq rfl) (hb hby at_172) (fun _ _ => ⟨rfl, e2, hcl, hsl⟩)
  dsimp only [Pt.U, Pt.locs, Pt.cells, Pt.slots] at X4 l4 y4 z4 st4 hQ4
  subst l4 y4 z4
  obtain ⟨rfl, Nq4, e4⟩ := hQ4
  have N4 := Fr.app N2 Nq4
  obtain ⟨_, _, ⟨T5, L5, k5, n5⟩, -, X5, ⟨Lc5, hQ5, l5, y5, z5⟩, st5⟩ := Jvm.LawKit.callS X4 hx (y := own_y2) hown (mvT hZ (own_w hw 99 rfl)) (mvT hZ (own_w hw 100 rfl)) (mvT hZ (own_w hw 101 rfl)) (mvT hZ (own_w hw 102 rfl)) (by decide) (backOf (W := 0) (rmA2 l Z a0 hw [] sa sb sk (nn) bl ((1 : Int32)) arr ka (c0) (c1) (c2) (c3) (st) (nn) b1 d1 cs wf H0 n0 O0 G0 Qe Qc Qa Qv Vc  hd1) hZ (own_w hw 102 rfl) (own_w hw 101 rfl) (by decide) (by decide)) (g := (mkF m 187 #[.val (.int p1), .val (.int p2), .val (.int p3), .val (.int p4), .val (.int p5), .val (.int p6), .val (.ref arr), .val (.ref ps), .val (.int st), .val (.int en), .val (.int rl), .val (.int cv), .val (.ref ofs), .val (.ref sa), .val (.int nn)] [(.int nn), (.int st), (.ref arr), (.int (1 : Int32)), (.ref sa)])) rfl (by rw [hml]; rfl) (argsL := [(.ref sa), (.int (1 : Int32)), (.ref arr), (.int st), (.int nn)]) (rest := []) (lenOf own_pd7 rfl) rfl (by show 2 * 0 + _ ≤ _; exact Nat.le_of_eq rfl) (hb hby at_187) (fun _ _ => ⟨rfl, e4, hcl, hsl⟩)
  dsimp only [Pt.U, Pt.locs, Pt.cells, Pt.slots] at X5 l5 y5 z5 st5 hQ5
  subst l5 y5 z5
  obtain ⟨rfl, Nq5, e5⟩ := hQ5
  have N5 := Fr.app N4 Nq5
  obtain ⟨_, _, ⟨T6, L6, k6, n6⟩, -, X6, ⟨Lc6, hQ6, l6, y6, z6⟩, st6⟩ := Jvm.LawKit.callS X5 hx (y := own_y2) hown (mvT hZ (own_w hw 99 rfl)) (mvT hZ (own_w hw 100 rfl)) (mvT hZ (own_w hw 101 rfl)) (mvT hZ (own_w hw 102 rfl)) (by decide) (backOf (W := 0) (rmA2 l Z a0 hw [] sa sb sk (nn) bl ((2 : Int32)) arr ka (c0) (c1) (c2) (c3) (st) (nn) b2 d2 cs wf H0 n0 O0 G0 Qe Qc Qa Qv Vc  hd2) hZ (own_w hw 102 rfl) (own_w hw 101 rfl) (by decide) (by decide)) (g := (mkF m 202 #[.val (.int p1), .val (.int p2), .val (.int p3), .val (.int p4), .val (.int p5), .val (.int p6), .val (.ref arr), .val (.ref ps), .val (.int st), .val (.int en), .val (.int rl), .val (.int cv), .val (.ref ofs), .val (.ref sa), .val (.int nn)] [(.int nn), (.int st), (.ref arr), (.int (2 : Int32)), (.ref sa)])) rfl (by rw [hml]; rfl) (argsL := [(.ref sa), (.int (2 : Int32)), (.ref arr), (.int st), (.int nn)]) (rest := []) (lenOf own_pd7 rfl) rfl (by show 2 * 0 + _ ≤ _; exact Nat.le_of_eq rfl) (hb hby at_202) (fun _ _ => ⟨rfl, e5, hcl, hsl⟩)
  dsimp only [Pt.U, Pt.locs, Pt.cells, Pt.slots] at X6 l6 y6 z6 st6 hQ6
  subst l6 y6 z6
  obtain ⟨rfl, Nq6, e6⟩ := hQ6
  have N6 := Fr.app N5 Nq6
  obtain ⟨_, _, ⟨T7, L7, k7, n7⟩, -, X7, ⟨Lc7, hQ7, l7, y7, z7⟩, st7⟩ := Jvm.LawKit.callS X6 hx (y := own_y2) hown (mvT hZ (own_w hw 99 rfl)) (mvT hZ (own_w hw 100 rfl)) (mvT hZ (own_w hw 101 rfl)) (mvT hZ (own_w hw 102 rfl)) (by decide) (backOf (W := 0) (rmA2 l Z a0 hw [] sa sb sk (nn) bl ((3 : Int32)) arr ka (c0) (c1) (c2) (c3) (st) (nn) b3 d3 cs wf H0 n0 O0 G0 Qe Qc Qa Qv Vc  hd3) hZ (own_w hw 102 rfl) (own_w hw 101 rfl) (by decide) (by decide)) (g := (mkF m 217 #[.val (.int p1), .val (.int p2), .val (.int p3), .val (.int p4), .val (.int p5), .val (.int p6), .val (.ref arr), .val (.ref ps), .val (.int st), .val (.int en), .val (.int rl), .val (.int cv), .val (.ref ofs), .val (.ref sa), .val (.int nn)] [(.int nn), (.int st), (.ref arr), (.int (3 : Int32)), (.ref sa)])) rfl (by rw [hml]; rfl) (argsL := [(.ref sa), (.int (3 : Int32)), (.ref arr), (.int st), (.int nn)]) (rest := []) (lenOf own_pd7 rfl) rfl (by show 2 * 0 + _ ≤ _; exact Nat.le_of_eq rfl) (hb hby at_217) (fun _ _ => ⟨rfl, e6, hcl, hsl⟩)
  dsimp only [Pt.U, Pt.locs, Pt.cells, Pt.slots] at X7 l7 y7 z7 st7 hQ7
  subst l7 y7 z7
  obtain ⟨rfl, Nq7, e7⟩ := hQ7
  have N7 := Fr.app N6 Nq7
  have g8 : ∀ t, Steps p.tables e below (T7.setTop (mkF m 228 #[.val (.int p1), .val (.int p2), .val (.int p3), .val (.int p4), .val (.int p5), .val (.int p6), .val (.ref arr), .val (.ref ps), .val (.int st), .val (.int en), .val (.int rl), .val (.int cv), .val (.ref ofs), .val (.ref sa), .val (.int nn)] [(.int (1 : Int32))])) t → Steps p.tables e below σ t := by
    intro t k
    refine g1 t ?_
    show Steps p.tables e below (T0.setTop (mkF m 149 #[.val (.int p1), .val (.int p2), .val (.int p3), .val (.int p4), .val (.int p5), .val (.int p6), .val (.ref arr), .val (.ref ps), .val (.int st), .val (.int en), .val (.int rl), .val (.int cv), .val (.ref ofs), .val (.ref sa), .unset] [(.int nn)])) _
    refine XS.istore X0.here hx rfl (hb hby at_149) rfl (l' := #[.val (.int p1), .val (.int p2), .val (.int p3), .val (.int p4), .val (.int p5), .val (.int p6), .val (.ref arr), .val (.ref ps), .val (.int st), .val (.int en), .val (.int rl), .val (.int cv), .val (.ref ofs), .val (.ref sa), .val (.int nn)]) rfl ?_
    refine XS.aload X0.here hx rfl (hb hby at_151) rfl rfl ?_
    refine st2.trans ?_
    refine XS.iload X2.here hx rfl (hb hby at_156) rfl ?_
    show Steps p.tables e below (T2.setTop (mkF m 158 #[.val (.int p1), .val (.int p2), .val (.int p3), .val (.int p4), .val (.int p5), .val (.int p6), .val (.ref arr), .val (.ref ps), .val (.int st), .val (.int en), .val (.int rl), .val (.int cv), .val (.ref ofs), .val (.ref sa), .val (.int nn)] [(.int nn), (.int (nn >>> ((0 : Int32) &&& 31)))])) _
    refine XS.icmpYes X2.here hx rfl (pc0 := 158) (pc' := 163) rfl (hb hby at_158) rfl (teq hc3).1 (by decide) (by decide) ?_
    refine XS.aload X2.here hx rfl (hb hby at_163) rfl rfl ?_
    refine XS.iconst X2.here hx rfl (hb hby at_165) ?_
    refine XS.aload X2.here hx rfl (hb hby at_166) rfl rfl ?_
    show Steps p.tables e below (T2.setTop (mkF m 168 #[.val (.int p1), .val (.int p2), .val (.int p3), .val (.int p4), .val (.int p5), .val (.int p6), .val (.ref arr), .val (.ref ps), .val (.int st), .val (.int en), .val (.int rl), .val (.int cv), .val (.ref ofs), .val (.ref sa), .val (.int nn)] [(.ref arr), (.int (0 : Int32)), (.ref sa)])) _
    refine XS.iload X2.here hx rfl (hb hby at_168) rfl ?_
    refine XS.iload X2.here hx rfl (hb hby at_170) rfl ?_
    refine st4 _ ?_
    refine XS.ifNo X4.here hx rfl (hb hby at_175) rfl ((if0 _ _).trans (feq (by decide : ¬ ((1 : Int32) = (0 : Int32)))).1) ?_
    show Steps p.tables e below (T4.setTop (mkF m 178 #[.val (.int p1), .val (.int p2), .val (.int p3), .val (.int p4), .val (.int p5), .val (.int p6), .val (.ref arr), .val (.ref ps), .val (.int st), .val (.int en), .val (.int rl), .val (.int cv), .val (.ref ofs), .val (.ref sa), .val (.int nn)] [])) _
    refine XS.aload X4.here hx rfl (hb hby at_178) rfl rfl ?_
    refine XS.iconst X4.here hx rfl (hb hby at_180) ?_
    refine XS.aload X4.here hx rfl (hb hby at_181) rfl rfl ?_
    refine XS.iload X4.here hx rfl (hb hby at_183) rfl ?_
    show Steps p.tables e below (T4.setTop (mkF m 185 #[.val (.int p1), .val (.int p2), .val (.int p3), .val (.int p4), .val (.int p5), .val (.int p6), .val (.ref arr), .val (.ref ps), .val (.int st), .val (.int en), .val (.int rl), .val (.int cv), .val (.ref ofs), .val (.ref sa), .val (.int nn)] [(.int st), (.ref arr), (.int (1 : Int32)), (.ref sa)])) _
    refine XS.iload X4.here hx rfl (hb hby at_185) rfl ?_
    refine st5 _ ?_
    refine XS.ifNo X5.here hx rfl (hb hby at_190) rfl ((if0 _ _).trans (feq (by decide : ¬ ((1 : Int32) = (0 : Int32)))).1) ?_
    refine XS.aload X5.here hx rfl (hb hby at_193) rfl rfl ?_
    show Steps p.tables e below (T5.setTop (mkF m 195 #[.val (.int p1), .val (.int p2), .val (.int p3), .val (.int p4), .val (.int p5), .val (.int p6), .val (.ref arr), .val (.ref ps), .val (.int st), .val (.int en), .val (.int rl), .val (.int cv), .val (.ref ofs), .val (.ref sa), .val (.int nn)] [(.ref sa)])) _
    refine XS.iconst X5.here hx rfl (hb hby at_195) ?_
    refine XS.aload X5.here hx rfl (hb hby at_196) rfl rfl ?_
    refine XS.iload X5.here hx rfl (hb hby at_198) rfl ?_
    refine XS.iload X5.here hx rfl (hb hby at_200) rfl ?_
    show Steps p.tables e below (T5.setTop (mkF m 202 #[.val (.int p1), .val (.int p2), .val (.int p3), .val (.int p4), .val (.int p5), .val (.int p6), .val (.ref arr), .val (.ref ps), .val (.int st), .val (.int en), .val (.int rl), .val (.int cv), .val (.ref ofs), .val (.ref sa), .val (.int nn)] [(.int nn), (.int st), (.ref arr), (.int (2 : Int32)), (.ref sa)])) _
    refine st6 _ ?_
    refine XS.ifNo X6.here hx rfl (hb hby at_205) rfl ((if0 _ _).trans (feq (by decide : ¬ ((1 : Int32) = (0 : Int32)))).1) ?_
    refine XS.aload X6.here hx rfl (hb hby at_208) rfl rfl ?_
    refine XS.iconst X6.here hx rfl (hb hby at_210) ?_
    show Steps p.tables e below (T6.setTop (mkF m 211 #[.val (.int p1), .val (.int p2), .val (.int p3), .val (.int p4), .val (.int p5), .val (.int p6), .val (.ref arr), .val (.ref ps), .val (.int st), .val (.int en), .val (.int rl), .val (.int cv), .val (.ref ofs), .val (.ref sa), .val (.int nn)] [(.int (3 : Int32)), (.ref sa)])) _
    refine XS.aload X6.here hx rfl (hb hby at_211) rfl rfl ?_
    refine XS.iload X6.here hx rfl (hb hby at_213) rfl ?_
    refine XS.iload X6.here hx rfl (hb hby at_215) rfl ?_
    refine st7 _ ?_
    show Steps p.tables e below (T7.setTop (mkF m 220 #[.val (.int p1), .val (.int p2), .val (.int p3), .val (.int p4), .val (.int p5), .val (.int p6), .val (.ref arr), .val (.ref ps), .val (.int st), .val (.int en), .val (.int rl), .val (.int cv), .val (.ref ofs), .val (.ref sa), .val (.int nn)] [(.int (1 : Int32))])) _
    refine XS.ifNo X7.here hx rfl (hb hby at_220) rfl ((if0 _ _).trans (feq (by decide : ¬ ((1 : Int32) = (0 : Int32)))).1) ?_
    refine XS.iconst X7.here hx rfl (hb hby at_223) ?_
    refine XS.goto X7.here hx rfl (pc0 := 224) (pc' := 228) rfl (hb hby at_224) (by decide) (by decide) ?_
    exact k
  obtain ⟨fs, hrt, hrun, hended, hRW⟩ := X7.leaveW hS (by rw [e7]; exact hk) (v := some (.int (1 : Int32))) (fun h => by rw [hret] at h; cases h)
  refine ⟨_, _, g8 _ ?_, hrun, hended, _, _, rfl, ?_, ?_, hRW.1, hRW.2.1, hRW.2.2.1, hRW.2.2.2.mono hcl hsl⟩
  · show Steps p.tables e below (T7.setTop (mkF m 228 #[.val (.int p1), .val (.int p2), .val (.int p3), .val (.int p4), .val (.int p5), .val (.int p6), .val (.ref arr), .val (.ref ps), .val (.int st), .val (.int en), .val (.int rl), .val (.int cv), .val (.ref ofs), .val (.ref sa), .val (.int nn)] [(.int (1 : Int32))])) _
    exact retN X7 hx (t := .boolean) hret (by simp) (hb hby at_228) hrt
  · show own_Q_rm0 Z p1 p2 p3 p4 p5 p6 cs wf h0 n0 _ T7.heap _
    rw [e7]
    exact ⟨rfl, N7⟩
  · rw [hh]
    show CHr Z own_EL s.vm h0 T7.vm T7.heap
    rw [e7]
    exact hC.trans (CHv.at X7 hZ (own_EW hw) hC.1)
theorem own_range (x y st dn en : Int32) (h1 : st = (x &&& 2147483647) % 5) (h2 : dn = (y &&& 2147483647) % (5 - st)) (h3 : en = st + dn) : (st = 0 ∧ en = 0) ∨ (st = 0 ∧ en = 1) ∨ (st = 0 ∧ en = 2) ∨ (st = 0 ∧ en = 3) ∨ (st = 0 ∧ en = 4) ∨ (st = 1 ∧ en = 1) ∨ (st = 1 ∧ en = 2) ∨ (st = 1 ∧ en = 3) ∨ (st = 1 ∧ en = 4) ∨ (st = 2 ∧ en = 2) ∨ (st = 2 ∧ en = 3) ∨ (st = 2 ∧ en = 4) ∨ (st = 3 ∧ en = 3) ∨ (st = 3 ∧ en = 4) ∨ (st = 4 ∧ en = 4) := by
  rcases own_mod5 _ _ h1 with rfl | rfl | rfl | rfl | rfl
  · rcases own_mod5 y dn (by rw [h2]; rfl) with rfl | rfl | rfl | rfl | rfl <;> subst h3 <;> decide
  · rcases own_mod4 y dn (by rw [h2]; rfl) with rfl | rfl | rfl | rfl <;> subst h3 <;> decide
  · rcases own_mod3 y dn (by rw [h2]; rfl) with rfl | rfl | rfl <;> subst h3 <;> decide
  · rcases own_mod2 y dn (by rw [h2]; rfl) with rfl | rfl <;> subst h3 <;> decide
  · rcases own_mod1 y dn (by rw [h2]; rfl) with rfl <;> subst h3 <;> decide
theorem own_nz5 (x st : Int32) (h1 : st = (x &&& 2147483647) % 5) : ((5 : Int32) - st) ≠ 0 := by
  rcases own_mod5 _ _ h1 with rfl | rfl | rfl | rfl | rfl <;> decide
theorem own_pq (st en nn : Int32) (hR : (st = 0 ∧ en = 0) ∨ (st = 0 ∧ en = 1) ∨ (st = 0 ∧ en = 2) ∨ (st = 0 ∧ en = 3) ∨ (st = 0 ∧ en = 4) ∨ (st = 1 ∧ en = 1) ∨ (st = 1 ∧ en = 2) ∨ (st = 1 ∧ en = 3) ∨ (st = 1 ∧ en = 4) ∨ (st = 2 ∧ en = 2) ∨ (st = 2 ∧ en = 3) ∨ (st = 2 ∧ en = 4) ∨ (st = 3 ∧ en = 3) ∨ (st = 3 ∧ en = 4) ∨ (st = 4 ∧ en = 4)) (hn : (en - st) = nn) : (¬ (st < (0 : Int32))) ∧ (¬ (en < st)) ∧ (¬ ((4 : Int32) < en)) ∧ ((en - st) = nn) ∧ (¬ (nn < 0)) ∧ (nn.toNatClampNeg ≤ 4) ∧ (st.toNatClampNeg + nn.toNatClampNeg ≤ (4 : Int32).toNatClampNeg) ∧ ((if nn < ((4 : Int32) - st) then nn else ((4 : Int32) - st)) = nn) ∧ ((st + nn) = en) := by
  rcases hR with ⟨rfl, rfl⟩ | ⟨rfl, rfl⟩ | ⟨rfl, rfl⟩ | ⟨rfl, rfl⟩ | ⟨rfl, rfl⟩ | ⟨rfl, rfl⟩ | ⟨rfl, rfl⟩ | ⟨rfl, rfl⟩ | ⟨rfl, rfl⟩ | ⟨rfl, rfl⟩ | ⟨rfl, rfl⟩ | ⟨rfl, rfl⟩ | ⟨rfl, rfl⟩ | ⟨rfl, rfl⟩ | ⟨rfl, rfl⟩ <;> subst hn <;> decide
theorem own_hdC (c0 c1 c2 c3 st en nn : Int32) (hR : (st = 0 ∧ en = 0) ∨ (st = 0 ∧ en = 1) ∨ (st = 0 ∧ en = 2) ∨ (st = 0 ∧ en = 3) ∨ (st = 0 ∧ en = 4) ∨ (st = 1 ∧ en = 1) ∨ (st = 1 ∧ en = 2) ∨ (st = 1 ∧ en = 3) ∨ (st = 1 ∧ en = 4) ∨ (st = 2 ∧ en = 2) ∨ (st = 2 ∧ en = 3) ∨ (st = 2 ∧ en = 4) ∨ (st = 3 ∧ en = 3) ∨ (st = 3 ∧ en = 4) ∨ (st = 4 ∧ en = 4)) (hn : (en - st) = nn) (k0 : 0 ≤ c0.toInt ∧ c0.toInt ≤ 255) (k1 : 0 ≤ c1.toInt ∧ c1.toInt ≤ 255) (k2 : 0 ≤ c2.toInt ∧ c2.toInt ≤ 255) (k3 : 0 ≤ c3.toInt ∧ c3.toInt ≤ 255) (i : Int32) (hi : i = 0 ∨ i = 1 ∨ i = 2 ∨ i = 3) : ∃ bj cj : Int32, ¬ (i < nn) ∨ (i < nn ∧ ¬ (i < (0 : Int32)) ∧ i < nn ∧ (own_bsub [(.int (c0.toInt8.toInt32)), (.int (c1.toInt8.toInt32)), (.int (c2.toInt8.toInt32)), (.int (c3.toInt8.toInt32))] st nn).getD (i).toNatClampNeg (.int (0 : Int32)) = .int bj ∧ ¬ ((st + i) < (0 : Int32)) ∧ (st + i) < (4 : Int32) ∧ ([(.int c0), (.int c1), (.int c2), (.int c3)] : List Value).getD (st + i).toNatClampNeg (.int (0 : Int32)) = .int cj ∧ (nar .char ((bj &&& (255 : Int32)).toUInt32.toUInt16.toUInt32.toInt32)) = cj) := by
  rcases hR with ⟨rfl, rfl⟩ | ⟨rfl, rfl⟩ | ⟨rfl, rfl⟩ | ⟨rfl, rfl⟩ | ⟨rfl, rfl⟩ | ⟨rfl, rfl⟩ | ⟨rfl, rfl⟩ | ⟨rfl, rfl⟩ | ⟨rfl, rfl⟩ | ⟨rfl, rfl⟩ | ⟨rfl, rfl⟩ | ⟨rfl, rfl⟩ | ⟨rfl, rfl⟩ | ⟨rfl, rfl⟩ | ⟨rfl, rfl⟩ <;> subst hn <;> rcases hi with rfl | rfl | rfl | rfl <;> first
    | exact ⟨0, 0, Or.inl (by decide)⟩
    | exact ⟨_, _, Or.inr ⟨by decide, by decide, by decide, rfl, by decide, by decide, rfl, own_back _ k0⟩⟩
    | exact ⟨_, _, Or.inr ⟨by decide, by decide, by decide, rfl, by decide, by decide, rfl, own_back _ k1⟩⟩
    | exact ⟨_, _, Or.inr ⟨by decide, by decide, by decide, rfl, by decide, by decide, rfl, own_back _ k2⟩⟩
    | exact ⟨_, _, Or.inr ⟨by decide, by decide, by decide, rfl, by decide, by decide, rfl, own_back _ k3⟩⟩
theorem own_ef10 (m : MethodId) (x0 : Int32) (x1 : Int32) (x2 : Int32) (x3 : Int32) (x4 : Int32) (x5 : Int32) : entryFrame m #[(.int x0), (.int x1), (.int x2), (.int x3), (.int x4), (.int x5)] maxLocals = mkF m 0 #[.val (.int x0), .val (.int x1), .val (.int x2), .val (.int x3), .val (.int x4), .val (.int x5), .unset, .unset, .unset, .unset, .unset, .unset, .unset, .unset, .unset] [] := by first | (simp [entryFrame, mkF, argsToLocals, Value.category, maxLocals]; done) | rfl
abbrev own_y8 : MethodName := ⟨"java/lang/String", "<init>", "([C)V"⟩
theorem own_ef11 (m : MethodId) (x0 : Addr) (x1 : Addr) : entryFrame m #[(.ref x0), (.ref x1)] 2 = mkF m 0 #[.val (.ref x0), .val (.ref x1)] [] := by first | (simp [entryFrame, mkF, argsToLocals, Value.category]; done) | rfl
theorem own_d1_0 : decode jdk_42_method_3_code 0 = .ok (.aload_n 0, 1) := by decide +kernel
theorem own_d1_1 : decode jdk_42_method_3_code 1 = .ok (.aload_n 1, 1) := by decide +kernel
theorem own_d1_2 : decode jdk_42_method_3_code 2 = .ok (.iconst 0, 1) := by decide +kernel
theorem own_d1_3 : decode jdk_42_method_3_code 3 = .ok (.aload_n 1, 1) := by decide +kernel
theorem own_d1_4 : decode jdk_42_method_3_code 4 = .ok (.arraylength, 1) := by decide +kernel
theorem own_d1_5 : decode jdk_42_method_3_code 5 = .ok (.aconst_null, 1) := by decide +kernel
theorem own_d1_6 : decode jdk_42_method_3_code 6 = .ok (.invokespecial 27, 3) := by decide +kernel
abbrev own_y9 : MethodName := ⟨"java/lang/String", "<init>", "([CIILjava/lang/Void;)V"⟩
theorem own_ef12 (m : MethodId) (x0 : Addr) (x1 : Addr) (x2 : Int32) (x3 : Int32) : entryFrame m #[(.ref x0), (.ref x1), (.int x2), (.int x3), .null] 6 = mkF m 0 #[.val (.ref x0), .val (.ref x1), .val (.int x2), .val (.int x3), .val .null, .unset] [] := by first | (simp [entryFrame, mkF, argsToLocals, Value.category]; done) | rfl
theorem own_d2_0 : decode jdk_42_method_149_code 0 = .ok (.aload_n 0, 1) := by decide +kernel
theorem own_d2_1 : decode jdk_42_method_149_code 1 = .ok (.invokespecial 1, 3) := by decide +kernel
theorem own_d2_4 : decode jdk_42_method_149_code 4 = .ok (.iload_n 3, 1) := by decide +kernel
theorem own_d2_5 : decode jdk_42_method_149_code 5 = .ok (.ifCond .ne 22, 3) := by decide +kernel
theorem own_d2_27 : decode jdk_42_method_149_code 27 = .ok (.getstatic 38, 3) := by decide +kernel
theorem own_d2_30 : decode jdk_42_method_149_code 30 = .ok (.ifCond .eq 28, 3) := by decide +kernel
theorem own_d2_33 : decode jdk_42_method_149_code 33 = .ok (.aload_n 1, 1) := by decide +kernel
theorem own_d2_34 : decode jdk_42_method_149_code 34 = .ok (.iload_n 2, 1) := by decide +kernel
theorem own_d2_35 : decode jdk_42_method_149_code 35 = .ok (.iload_n 3, 1) := by decide +kernel
theorem own_d2_36 : decode jdk_42_method_149_code 36 = .ok (.invokestatic 177, 3) := by decide +kernel
abbrev own_y10 : MethodName := ⟨"java/lang/StringUTF16", "compress", "([CII)[B"⟩
theorem own_ef13 (m : MethodId) (x0 : Addr) (x1 : Int32) (x2 : Int32) : entryFrame m #[(.ref x0), (.int x1), (.int x2)] 6 = mkF m 0 #[.val (.ref x0), .val (.int x1), .val (.int x2), .unset, .unset, .unset] [] := by first | (simp [entryFrame, mkF, argsToLocals, Value.category]; done) | rfl
theorem own_pn4 : plainName "java/lang/StringUTF16" = true := by first | (simp [plainName, overriddenIn]; done) | decide +kernel
theorem own_d4_0 : decode jdk_52_method_16_code 0 = .ok (.iload_n 2, 1) := by decide +kernel
theorem own_d4_1 : decode jdk_52_method_16_code 1 = .ok (.newarray .byte, 2) := by decide +kernel
theorem own_d4_3 : decode jdk_52_method_16_code 3 = .ok (.astore_n 3, 1) := by decide +kernel
theorem own_d4_4 : decode jdk_52_method_16_code 4 = .ok (.aload_n 0, 1) := by decide +kernel
theorem own_d4_5 : decode jdk_52_method_16_code 5 = .ok (.iload_n 1, 1) := by decide +kernel
theorem own_d4_6 : decode jdk_52_method_16_code 6 = .ok (.aload_n 3, 1) := by decide +kernel
theorem own_d4_7 : decode jdk_52_method_16_code 7 = .ok (.iconst 0, 1) := by decide +kernel
theorem own_d4_8 : decode jdk_52_method_16_code 8 = .ok (.iload_n 2, 1) := by decide +kernel
theorem own_d4_9 : decode jdk_52_method_16_code 9 = .ok (.invokestatic 115, 3) := by decide +kernel
abbrev own_y11 : MethodName := ⟨"java/lang/StringUTF16", "compress", "([CI[BII)I"⟩
theorem own_ef14 (m : MethodId) (x0 : Addr) (x1 : Int32) (x2 : Addr) (x3 : Int32) (x4 : Int32) : entryFrame m #[(.ref x0), (.int x1), (.ref x2), (.int x3), (.int x4)] 7 = mkF m 0 #[.val (.ref x0), .val (.int x1), .val (.ref x2), .val (.int x3), .val (.int x4), .unset, .unset] [] := by first | (simp [entryFrame, mkF, argsToLocals, Value.category]; done) | rfl
theorem own_d5_0 : decode jdk_52_method_21_code 0 = .ok (.iconst 0, 1) := by decide +kernel
theorem own_d5_1 : decode jdk_52_method_21_code 1 = .ok (.istore 5, 2) := by decide +kernel
theorem own_d5_3 : decode jdk_52_method_21_code 3 = .ok (.iload 5, 2) := by decide +kernel
theorem own_d5_5 : decode jdk_52_method_21_code 5 = .ok (.iload 4, 2) := by decide +kernel
theorem own_d5_7 : decode jdk_52_method_21_code 7 = .ok (.if_icmp .ge 37, 3) := by decide +kernel
theorem own_d5_10 : decode jdk_52_method_21_code 10 = .ok (.aload_n 0, 1) := by decide +kernel
theorem own_d5_11 : decode jdk_52_method_21_code 11 = .ok (.iload_n 1, 1) := by decide +kernel
theorem own_d5_12 : decode jdk_52_method_21_code 12 = .ok (.caload, 1) := by decide +kernel
theorem own_d5_13 : decode jdk_52_method_21_code 13 = .ok (.istore 6, 2) := by decide +kernel
theorem own_d5_15 : decode jdk_52_method_21_code 15 = .ok (.iload 6, 2) := by decide +kernel
theorem own_d5_17 : decode jdk_52_method_21_code 17 = .ok (.sipush 255, 3) := by decide +kernel
theorem own_d5_20 : decode jdk_52_method_21_code 20 = .ok (.if_icmp .le 6, 3) := by decide +kernel
theorem own_d5_26 : decode jdk_52_method_21_code 26 = .ok (.aload_n 2, 1) := by decide +kernel
theorem own_d5_27 : decode jdk_52_method_21_code 27 = .ok (.iload_n 3, 1) := by decide +kernel
theorem own_d5_28 : decode jdk_52_method_21_code 28 = .ok (.iload 6, 2) := by decide +kernel
theorem own_d5_30 : decode jdk_52_method_21_code 30 = .ok (.i2b, 1) := by decide +kernel
theorem own_d5_31 : decode jdk_52_method_21_code 31 = .ok (.bastore, 1) := by decide +kernel
theorem own_d5_32 : decode jdk_52_method_21_code 32 = .ok (.iinc 1 1, 3) := by decide +kernel
theorem own_d5_35 : decode jdk_52_method_21_code 35 = .ok (.iinc 3 1, 3) := by decide +kernel
theorem own_d5_38 : decode jdk_52_method_21_code 38 = .ok (.iinc 5 1, 3) := by decide +kernel
theorem own_d5_41 : decode jdk_52_method_21_code 41 = .ok (.goto (-38), 3) := by decide +kernel
theorem own_d5_44 : decode jdk_52_method_21_code 44 = .ok (.iload 4, 2) := by decide +kernel
theorem own_d5_46 : decode jdk_52_method_21_code 46 = .ok (.ireturn, 1) := by decide +kernel
def own_Q_rmA12 (Z : State) (ob0 : Addr) (k_ob0 : ClassId) (ob0_0 : Int32) (ob0_1 : Int32) (ob0_2 : Int32) (ob0_3 : Int32) (ob2 : Addr) (k_ob2 : ClassId)  (cs : Int32) (wf : Value) (h0 : Heap) (n0 : Nat) (v : Option Value) (h : Heap) (L : List Loc) : Prop := v = some (.int (4 : Int32)) ∧ Fr n0 L ∧ Keep h0 h [ob2] ∧ Arv Z h ob2 k_ob2 .byte (4 : Int32) [(.int (ob0_0.toInt8.toInt32)), (.int (ob0_1.toInt8.toInt32)), (.int (ob0_2.toInt8.toInt32)), (.int (ob0_3.toInt8.toInt32))] (.int (0 : Int32))
set_option maxRecDepth 65536 in
set_option maxHeartbeats 40000000 in
theorem rmA12 (l : Launch) (Z : State) (a0 : Array Value) (hw : ∀ d ∈ tables_1, d.before a0 Z = true) (ws : List Jvm.Cond) (ob0 : Addr) (k_ob0 : ClassId) (ob0_0 : Int32) (ob0_1 : Int32) (ob0_2 : Int32) (ob0_3 : Int32) (ob2 : Addr) (k_ob2 : ClassId)  (cs : Int32) (wf : Value) (h0 : Heap) (n0 : Nat) (O0 : Old Z n0 h0) (G : own_Gl Z cs wf) (V_ob0 : Arv Z h0 ob0 k_ob0 .char (4 : Int32) [(.int ob0_0), (.int ob0_1), (.int ob0_2), (.int ob0_3)] (.int (0 : Int32))) (V_ob2 : Arv Z h0 ob2 k_ob2 .byte (4 : Int32) [(.int (0 : Int32)), (.int (0 : Int32)), (.int (0 : Int32)), (.int (0 : Int32))] (.int (0 : Int32))) (gz_ob2 : n0 ≤ ob2) (hx0 : ¬ ((255 : Int32) < ob0_0)) (hx1 : ¬ ((255 : Int32) < ob0_1)) (hx2 : ¬ ((255 : Int32) < ob0_2)) (hx3 : ¬ ((255 : Int32) < ob0_3)) (hne : ob0 ≠ ob2) :
    MetFree l own_y11 (head1 (Jvm.Cond.code own_y11 jdk_52_method_21_code 7 (some .int) :: ws) ({ frames := 0, cells := 0, slots := 0, locals := 0 } : Room)) (fun a U => a = #[(.ref ob0), (.int (0 : Int32)), (.ref ob2), (.int (0 : Int32)), (.int (4 : Int32))] ∧ Z.Warmed39 U.vm ∧ U.heap = h0) (fun _ _ _ _ _ => True) (fun _ U o U' => ∃ v L, o = .returned v ∧ own_Q_rmA12 Z ob0 k_ob0 ob0_0 ob0_1 ob0_2 ob0_3 ob2 k_ob2 cs wf h0 n0 v U'.heap L ∧ FrameEnd U o U' L ({ frames := 0, cells := 0, slots := 0, locals := 0 } : Room).cells ({ frames := 0, cells := 0, slots := 0, locals := 0 } : Room).slots) := by
  refine MetFree.of_bodySF (plainFor_of_name own_pn4) hisR ?_
  intro p e s m args below meth c s₁ Bd hml0 hP hK
  obtain ⟨rfl, hZ, hh⟩ := hP
  have hx := Bd.exec
  have hby := Bd.bytes
  have hml : c.maxLocals = 7 := hml0
  have hown : s.vm.findClass "java/lang/StringUTF16" = some m.cls := findClass_of_methodNamed Bd.named
  have hnm := (name_of_methodNamed Bd.named Bd.method).1
  have X0 : Stand p l e ({ frames := 0, cells := 0, slots := 0, locals := 0 } : Room) s m #[(.ref ob0), (.int (0 : Int32)), (.ref ob2), (.int (0 : Int32)), (.int (4 : Int32))] below meth c s₁ [] 0 0 := Stand.of_body Bd
  have e0 : s₁.heap = h0 := by rw [← hh, Bd.state]; rfl
  have N0 := Fr.nil n0
  have Z0 : n0 ≤ h0.size := O0.1 ▸ O0.2.1
  have g0 : ∀ t, Steps p.tables e below (s₁.setTop (mkF m 0 #[.val (.ref ob0), .val (.int (0 : Int32)), .val (.ref ob2), .val (.int (0 : Int32)), .val (.int (4 : Int32)), .unset, .unset] [])) t → Steps p.tables e below (s₁.setTop (entryFrame m #[(.ref ob0), (.int (0 : Int32)), (.ref ob2), (.int (0 : Int32)), (.int (4 : Int32))] 7)) t := fun t k => castTop (own_ef14 m (ob0) ((0 : Int32)) (ob2) ((0 : Int32)) ((4 : Int32))) k
  have G0 := G
  obtain ⟨S_CS, hcs, S_WF, hwf⟩ := G
  obtain ⟨c1, Ar1, cq1, S1, Nn1, Hh1, Gg1⟩ := id V_ob0
  have hin1 : ¬ ((0 : Int32) < 0 ∨ c1.slots.size ≤ ((0 : Int32)).toNatClampNeg) := inb_of S1 ⟨by decide, by decide⟩
  have hat1 : c1.slots[((0 : Int32)).toNatClampNeg]? = some (.int ob0_0) := Has.at Hh1 hin1 rfl
  have hc2 : ¬ ((255 : Int32) < ob0_0) := hx0
  obtain ⟨c3, Ar3, cq3, S3, Nn3, Hh3, Gg3⟩ := id V_ob2
  have hin3 : ¬ ((0 : Int32) < 0 ∨ c3.slots.size ≤ ((0 : Int32)).toNatClampNeg) := inb_of S3 ⟨by decide, by decide⟩
  obtain ⟨T4, h4, X4, e4, W4, st4⟩ := stB X0 hx hZ e0 Ar3 (j := (0 : Int32)) hin3 (g := (mkF m 31 #[.val (.ref ob0), .val (.int (0 : Int32)), .val (.ref ob2), .val (.int (0 : Int32)), .val (.int (4 : Int32)), .val (.int (0 : Int32)), .val (.int ob0_0)] [(.int (ob0_0.toInt8.toInt32)), (.int (0 : Int32)), (.ref ob2)])) rfl rfl (hb hby own_d5_31)
  have V4 := Arv.set Ar3 cq3 S3 Nn3 Hh3 Gg3 (fits_nar_byte _) W4 0 rfl (Nat.le_of_ble_eq_true rfl)
  have V4a : Arv Z h4 ob2 k_ob2 .byte (4 : Int32) [(.int (ob0_0.toInt8.toInt32)), (.int (0 : Int32)), (.int (0 : Int32)), (.int (0 : Int32))] (.int (0 : Int32)) := by have q := V4; first | (rw [own_nb] at q; exact q) | (rw [own_nb2] at q; exact q) | (simp only [own_nb2] at q; exact q)
  have N4 := Fr.snoc X4 N0 gz_ob2
  have f5 := (V_ob0.other W4 hne)
  obtain ⟨c6, Ar6, cq6, S6, Nn6, Hh6, Gg6⟩ := id f5
  have hin6 : ¬ ((1 : Int32) < 0 ∨ c6.slots.size ≤ ((1 : Int32)).toNatClampNeg) := inb_of S6 ⟨by decide, by decide⟩
  have hat6 : c6.slots[((1 : Int32)).toNatClampNeg]? = some (.int ob0_1) := Has.at Hh6 hin6 rfl
  have hc7 : ¬ ((255 : Int32) < ob0_1) := hx1
  obtain ⟨c8, Ar8, cq8, S8, Nn8, Hh8, Gg8⟩ := id V4a
  have hin8 : ¬ ((1 : Int32) < 0 ∨ c8.slots.size ≤ ((1 : Int32)).toNatClampNeg) := inb_of S8 ⟨by decide, by decide⟩
  obtain ⟨T9, h9, X9, e9, W9, st9⟩ := stB X4 hx hZ e4 Ar8 (j := (1 : Int32)) hin8 (g := (mkF m 31 #[.val (.ref ob0), .val (.int (1 : Int32)), .val (.ref ob2), .val (.int (1 : Int32)), .val (.int (4 : Int32)), .val (.int (1 : Int32)), .val (.int ob0_1)] [(.int (ob0_1.toInt8.toInt32)), (.int (1 : Int32)), (.ref ob2)])) rfl rfl (hb hby own_d5_31)
  have V9 := Arv.set Ar8 cq8 S8 Nn8 Hh8 Gg8 (fits_nar_byte _) W9 1 rfl (Nat.le_of_ble_eq_true rfl)
  have V9a : Arv Z h9 ob2 k_ob2 .byte (4 : Int32) [(.int (ob0_0.toInt8.toInt32)), (.int (ob0_1.toInt8.toInt32)), (.int (0 : Int32)), (.int (0 : Int32))] (.int (0 : Int32)) := by have q := V9; first | (rw [own_nb] at q; exact q) | (rw [own_nb2] at q; exact q) | (simp only [own_nb2] at q; exact q)
  have N9 := Fr.snoc X9 N4 gz_ob2
  have f10 := (f5.other W9 hne)
  obtain ⟨c11, Ar11, cq11, S11, Nn11, Hh11, Gg11⟩ := id f10
  have hin11 : ¬ ((2 : Int32) < 0 ∨ c11.slots.size ≤ ((2 : Int32)).toNatClampNeg) := inb_of S11 ⟨by decide, by decide⟩
  have hat11 : c11.slots[((2 : Int32)).toNatClampNeg]? = some (.int ob0_2) := Has.at Hh11 hin11 rfl
  have hc12 : ¬ ((255 : Int32) < ob0_2) := hx2
  obtain ⟨c13, Ar13, cq13, S13, Nn13, Hh13, Gg13⟩ := id V9a
  have hin13 : ¬ ((2 : Int32) < 0 ∨ c13.slots.size ≤ ((2 : Int32)).toNatClampNeg) := inb_of S13 ⟨by decide, by decide⟩
  obtain ⟨T14, h14, X14, e14, W14, st14⟩ := stB X9 hx hZ e9 Ar13 (j := (2 : Int32)) hin13 (g := (mkF m 31 #[.val (.ref ob0), .val (.int (2 : Int32)), .val (.ref ob2), .val (.int (2 : Int32)), .val (.int (4 : Int32)), .val (.int (2 : Int32)), .val (.int ob0_2)] [(.int (ob0_2.toInt8.toInt32)), (.int (2 : Int32)), (.ref ob2)])) rfl rfl (hb hby own_d5_31)
  have V14 := Arv.set Ar13 cq13 S13 Nn13 Hh13 Gg13 (fits_nar_byte _) W14 2 rfl (Nat.le_of_ble_eq_true rfl)
  have V14a : Arv Z h14 ob2 k_ob2 .byte (4 : Int32) [(.int (ob0_0.toInt8.toInt32)), (.int (ob0_1.toInt8.toInt32)), (.int (ob0_2.toInt8.toInt32)), (.int (0 : Int32))] (.int (0 : Int32)) := by have q := V14; first | (rw [own_nb] at q; exact q) | (rw [own_nb2] at q; exact q) | (simp only [own_nb2] at q; exact q)
  have N14 := Fr.snoc X14 N9 gz_ob2
  have f15 := (f10.other W14 hne)
  obtain ⟨c16, Ar16, cq16, S16, Nn16, Hh16, Gg16⟩ := id f15
  have hin16 : ¬ ((3 : Int32) < 0 ∨ c16.slots.size ≤ ((3 : Int32)).toNatClampNeg) := inb_of S16 ⟨by decide, by decide⟩
  have hat16 : c16.slots[((3 : Int32)).toNatClampNeg]? = some (.int ob0_3) := Has.at Hh16 hin16 rfl
  have hc17 : ¬ ((255 : Int32) < ob0_3) := hx3
  obtain ⟨c18, Ar18, cq18, S18, Nn18, Hh18, Gg18⟩ := id V14a
  have hin18 : ¬ ((3 : Int32) < 0 ∨ c18.slots.size ≤ ((3 : Int32)).toNatClampNeg) := inb_of S18 ⟨by decide, by decide⟩
  obtain ⟨T19, h19, X19, e19, W19, st19⟩ := stB X14 hx hZ e14 Ar18 (j := (3 : Int32)) hin18 (g := (mkF m 31 #[.val (.ref ob0), .val (.int (3 : Int32)), .val (.ref ob2), .val (.int (3 : Int32)), .val (.int (4 : Int32)), .val (.int (3 : Int32)), .val (.int ob0_3)] [(.int (ob0_3.toInt8.toInt32)), (.int (3 : Int32)), (.ref ob2)])) rfl rfl (hb hby own_d5_31)
  have V19 := Arv.set Ar18 cq18 S18 Nn18 Hh18 Gg18 (fits_nar_byte _) W19 3 rfl (Nat.le_of_ble_eq_true rfl)
  have V19a : Arv Z h19 ob2 k_ob2 .byte (4 : Int32) [(.int (ob0_0.toInt8.toInt32)), (.int (ob0_1.toInt8.toInt32)), (.int (ob0_2.toInt8.toInt32)), (.int (ob0_3.toInt8.toInt32))] (.int (0 : Int32)) := by have q := V19; first | (rw [own_nb] at q; exact q) | (rw [own_nb2] at q; exact q) | (simp only [own_nb2] at q; exact q)
  have N19 := Fr.snoc X19 N14 gz_ob2
  have g20 : ∀ t, Steps p.tables e below (T19.setTop (mkF m 46 #[.val (.ref ob0), .val (.int (4 : Int32)), .val (.ref ob2), .val (.int (4 : Int32)), .val (.int (4 : Int32)), .val (.int (4 : Int32)), .val (.int ob0_3)] [(.int (4 : Int32))])) t → Steps p.tables e below (s₁.setTop (entryFrame m #[(.ref ob0), (.int (0 : Int32)), (.ref ob2), (.int (0 : Int32)), (.int (4 : Int32))] 7)) t := by
    intro t k
    refine g0 t ?_
    show Steps p.tables e below (s₁.setTop (mkF m 0 #[.val (.ref ob0), .val (.int (0 : Int32)), .val (.ref ob2), .val (.int (0 : Int32)), .val (.int (4 : Int32)), .unset, .unset] [])) _
    refine XS.iconst X0.here hx rfl (hb hby own_d5_0) ?_
    refine XS.istore X0.here hx rfl (hb hby own_d5_1) rfl (l' := #[.val (.ref ob0), .val (.int (0 : Int32)), .val (.ref ob2), .val (.int (0 : Int32)), .val (.int (4 : Int32)), .val (.int (0 : Int32)), .unset]) rfl ?_
    refine XS.iload X0.here hx rfl (hb hby own_d5_3) rfl ?_
    refine XS.iload X0.here hx rfl (hb hby own_d5_5) rfl ?_
    show Steps p.tables e below (s₁.setTop (mkF m 7 #[.val (.ref ob0), .val (.int (0 : Int32)), .val (.ref ob2), .val (.int (0 : Int32)), .val (.int (4 : Int32)), .val (.int (0 : Int32)), .unset] [(.int (4 : Int32)), (.int (0 : Int32))])) _
    refine XS.icmpNo X0.here hx rfl (hb hby own_d5_7) rfl (tlt (by decide : (0 : Int32) < (4 : Int32))).2.1 ?_
    refine XS.aloadN X0.here hx rfl (hb hby own_d5_10) rfl rfl ?_
    refine XS.iloadN X0.here hx rfl (hb hby own_d5_11) rfl ?_
    refine X0.caload hx (j := (0 : Int32)) (v := (.int ob0_0)) (by rw [e0]; exact Ar1.1) (State.isArrayOf_alike hZ.alike Ar1.2.1) Ar1.2.2 hin1 hat1 (g := (mkF m 12 #[.val (.ref ob0), .val (.int (0 : Int32)), .val (.ref ob2), .val (.int (0 : Int32)), .val (.int (4 : Int32)), .val (.int (0 : Int32)), .unset] [(.int (0 : Int32)), (.ref ob0)])) rfl rfl (hb hby own_d5_12) _ ?_
    show Steps p.tables e below (s₁.setTop (mkF m 13 #[.val (.ref ob0), .val (.int (0 : Int32)), .val (.ref ob2), .val (.int (0 : Int32)), .val (.int (4 : Int32)), .val (.int (0 : Int32)), .unset] [(.int ob0_0)])) _
    refine XS.istore X0.here hx rfl (hb hby own_d5_13) rfl (l' := #[.val (.ref ob0), .val (.int (0 : Int32)), .val (.ref ob2), .val (.int (0 : Int32)), .val (.int (4 : Int32)), .val (.int (0 : Int32)), .val (.int ob0_0)]) rfl ?_
    refine XS.iload X0.here hx rfl (hb hby own_d5_15) rfl ?_
    refine XS.sipush X0.here hx rfl (hb hby own_d5_17) ?_
    refine XS.icmpYes X0.here hx rfl (pc0 := 20) (pc' := 26) rfl (hb hby own_d5_20) rfl (flt hc2).2.2.2 (by decide) (by decide) ?_
    show Steps p.tables e below (s₁.setTop (mkF m 26 #[.val (.ref ob0), .val (.int (0 : Int32)), .val (.ref ob2), .val (.int (0 : Int32)), .val (.int (4 : Int32)), .val (.int (0 : Int32)), .val (.int ob0_0)] [])) _
    refine XS.aloadN X0.here hx rfl (hb hby own_d5_26) rfl rfl ?_
    refine XS.iloadN X0.here hx rfl (hb hby own_d5_27) rfl ?_
    refine XS.iload X0.here hx rfl (hb hby own_d5_28) rfl ?_
    show Steps p.tables e below (s₁.setTop (mkF m 30 #[.val (.ref ob0), .val (.int (0 : Int32)), .val (.ref ob2), .val (.int (0 : Int32)), .val (.int (4 : Int32)), .val (.int (0 : Int32)), .val (.int ob0_0)] [(.int ob0_0), (.int (0 : Int32)), (.ref ob2)])) _
    refine XS.i2b X0.here hx rfl (hb hby own_d5_30) rfl ?_
    show Steps p.tables e below (s₁.setTop (mkF m 31 #[.val (.ref ob0), .val (.int (0 : Int32)), .val (.ref ob2), .val (.int (0 : Int32)), .val (.int (4 : Int32)), .val (.int (0 : Int32)), .val (.int ob0_0)] [(.int (ob0_0.toInt8.toInt32)), (.int (0 : Int32)), (.ref ob2)])) _
    refine st4 _ ?_
    show Steps p.tables e below (T4.setTop (mkF m 32 #[.val (.ref ob0), .val (.int (0 : Int32)), .val (.ref ob2), .val (.int (0 : Int32)), .val (.int (4 : Int32)), .val (.int (0 : Int32)), .val (.int ob0_0)] [])) _
    refine XS.iinc X4.here hx rfl (hb hby own_d5_32) rfl (l' := #[.val (.ref ob0), .val (.int ((0 : Int32) + (1 : Int32))), .val (.ref ob2), .val (.int (0 : Int32)), .val (.int (4 : Int32)), .val (.int (0 : Int32)), .val (.int ob0_0)]) rfl ?_
    rw [show ((0 : Int32) + (1 : Int32)) = (1 : Int32) from by decide]
    show Steps p.tables e below (T4.setTop (mkF m 35 #[.val (.ref ob0), .val (.int (1 : Int32)), .val (.ref ob2), .val (.int (0 : Int32)), .val (.int (4 : Int32)), .val (.int (0 : Int32)), .val (.int ob0_0)] [])) _
    refine XS.iinc X4.here hx rfl (hb hby own_d5_35) rfl (l' := #[.val (.ref ob0), .val (.int (1 : Int32)), .val (.ref ob2), .val (.int ((0 : Int32) + (1 : Int32))), .val (.int (4 : Int32)), .val (.int (0 : Int32)), .val (.int ob0_0)]) rfl ?_
    rw [show ((0 : Int32) + (1 : Int32)) = (1 : Int32) from by decide]
    show Steps p.tables e below (T4.setTop (mkF m 38 #[.val (.ref ob0), .val (.int (1 : Int32)), .val (.ref ob2), .val (.int (1 : Int32)), .val (.int (4 : Int32)), .val (.int (0 : Int32)), .val (.int ob0_0)] [])) _
    refine XS.iinc X4.here hx rfl (hb hby own_d5_38) rfl (l' := #[.val (.ref ob0), .val (.int (1 : Int32)), .val (.ref ob2), .val (.int (1 : Int32)), .val (.int (4 : Int32)), .val (.int ((0 : Int32) + (1 : Int32))), .val (.int ob0_0)]) rfl ?_
    rw [show ((0 : Int32) + (1 : Int32)) = (1 : Int32) from by decide]
    show Steps p.tables e below (T4.setTop (mkF m 41 #[.val (.ref ob0), .val (.int (1 : Int32)), .val (.ref ob2), .val (.int (1 : Int32)), .val (.int (4 : Int32)), .val (.int (1 : Int32)), .val (.int ob0_0)] [])) _
    refine XS.goto X4.here hx rfl (pc0 := 41) (pc' := 3) rfl (hb hby own_d5_41) (by decide) (by decide) ?_
    refine XS.iload X4.here hx rfl (hb hby own_d5_3) rfl ?_
    refine XS.iload X4.here hx rfl (hb hby own_d5_5) rfl ?_
    refine XS.icmpNo X4.here hx rfl (hb hby own_d5_7) rfl (tlt (by decide : (1 : Int32) < (4 : Int32))).2.1 ?_
    show Steps p.tables e below (T4.setTop (mkF m 10 #[.val (.ref ob0), .val (.int (1 : Int32)), .val (.ref ob2), .val (.int (1 : Int32)), .val (.int (4 : Int32)), .val (.int (1 : Int32)), .val (.int ob0_0)] [])) _
    refine XS.aloadN X4.here hx rfl (hb hby own_d5_10) rfl rfl ?_
    refine XS.iloadN X4.here hx rfl (hb hby own_d5_11) rfl ?_
    refine X4.caload hx (j := (1 : Int32)) (v := (.int ob0_1)) (by rw [e4]; exact Ar6.1) (State.isArrayOf_alike hZ.alike Ar6.2.1) Ar6.2.2 hin6 hat6 (g := (mkF m 12 #[.val (.ref ob0), .val (.int (1 : Int32)), .val (.ref ob2), .val (.int (1 : Int32)), .val (.int (4 : Int32)), .val (.int (1 : Int32)), .val (.int ob0_0)] [(.int (1 : Int32)), (.ref ob0)])) rfl rfl (hb hby own_d5_12) _ ?_
    refine XS.istore X4.here hx rfl (hb hby own_d5_13) rfl (l' := #[.val (.ref ob0), .val (.int (1 : Int32)), .val (.ref ob2), .val (.int (1 : Int32)), .val (.int (4 : Int32)), .val (.int (1 : Int32)), .val (.int ob0_1)]) rfl ?_
    show Steps p.tables e below (T4.setTop (mkF m 15 #[.val (.ref ob0), .val (.int (1 : Int32)), .val (.ref ob2), .val (.int (1 : Int32)), .val (.int (4 : Int32)), .val (.int (1 : Int32)), .val (.int ob0_1)] [])) _
    refine XS.iload X4.here hx rfl (hb hby own_d5_15) rfl ?_
    refine XS.sipush X4.here hx rfl (hb hby own_d5_17) ?_
    refine XS.icmpYes X4.here hx rfl (pc0 := 20) (pc' := 26) rfl (hb hby own_d5_20) rfl (flt hc7).2.2.2 (by decide) (by decide) ?_
    refine XS.aloadN X4.here hx rfl (hb hby own_d5_26) rfl rfl ?_
    show Steps p.tables e below (T4.setTop (mkF m 27 #[.val (.ref ob0), .val (.int (1 : Int32)), .val (.ref ob2), .val (.int (1 : Int32)), .val (.int (4 : Int32)), .val (.int (1 : Int32)), .val (.int ob0_1)] [(.ref ob2)])) _
    refine XS.iloadN X4.here hx rfl (hb hby own_d5_27) rfl ?_
    refine XS.iload X4.here hx rfl (hb hby own_d5_28) rfl ?_
    show Steps p.tables e below (T4.setTop (mkF m 30 #[.val (.ref ob0), .val (.int (1 : Int32)), .val (.ref ob2), .val (.int (1 : Int32)), .val (.int (4 : Int32)), .val (.int (1 : Int32)), .val (.int ob0_1)] [(.int ob0_1), (.int (1 : Int32)), (.ref ob2)])) _
    refine XS.i2b X4.here hx rfl (hb hby own_d5_30) rfl ?_
    refine st9 _ ?_
    show Steps p.tables e below (T9.setTop (mkF m 32 #[.val (.ref ob0), .val (.int (1 : Int32)), .val (.ref ob2), .val (.int (1 : Int32)), .val (.int (4 : Int32)), .val (.int (1 : Int32)), .val (.int ob0_1)] [])) _
    refine XS.iinc X9.here hx rfl (hb hby own_d5_32) rfl (l' := #[.val (.ref ob0), .val (.int ((1 : Int32) + (1 : Int32))), .val (.ref ob2), .val (.int (1 : Int32)), .val (.int (4 : Int32)), .val (.int (1 : Int32)), .val (.int ob0_1)]) rfl ?_
    rw [show ((1 : Int32) + (1 : Int32)) = (2 : Int32) from by decide]
    show Steps p.tables e below (T9.setTop (mkF m 35 #[.val (.ref ob0), .val (.int (2 : Int32)), .val (.ref ob2), .val (.int (1 : Int32)), .val (.int (4 : Int32)), .val (.int (1 : Int32)), .val (.int ob0_1)] [])) _
    refine XS.iinc X9.here hx rfl (hb hby own_d5_35) rfl (l' := #[.val (.ref ob0), .val (.int (2 : Int32)), .val (.ref ob2), .val (.int ((1 : Int32) + (1 : Int32))), .val (.int (4 : Int32)), .val (.int (1 : Int32)), .val (.int ob0_1)]) rfl ?_
    rw [show ((1 : Int32) + (1 : Int32)) = (2 : Int32) from by decide]
    show Steps p.tables e below (T9.setTop (mkF m 38 #[.val (.ref ob0), .val (.int (2 : Int32)), .val (.ref ob2), .val (.int (2 : Int32)), .val (.int (4 : Int32)), .val (.int (1 : Int32)), .val (.int ob0_1)] [])) _
    refine XS.iinc X9.here hx rfl (hb hby own_d5_38) rfl (l' := #[.val (.ref ob0), .val (.int (2 : Int32)), .val (.ref ob2), .val (.int (2 : Int32)), .val (.int (4 : Int32)), .val (.int ((1 : Int32) + (1 : Int32))), .val (.int ob0_1)]) rfl ?_
    rw [show ((1 : Int32) + (1 : Int32)) = (2 : Int32) from by decide]
    refine XS.goto X9.here hx rfl (pc0 := 41) (pc' := 3) rfl (hb hby own_d5_41) (by decide) (by decide) ?_
    show Steps p.tables e below (T9.setTop (mkF m 3 #[.val (.ref ob0), .val (.int (2 : Int32)), .val (.ref ob2), .val (.int (2 : Int32)), .val (.int (4 : Int32)), .val (.int (2 : Int32)), .val (.int ob0_1)] [])) _
    refine XS.iload X9.here hx rfl (hb hby own_d5_3) rfl ?_
    refine XS.iload X9.here hx rfl (hb hby own_d5_5) rfl ?_
    refine XS.icmpNo X9.here hx rfl (hb hby own_d5_7) rfl (tlt (by decide : (2 : Int32) < (4 : Int32))).2.1 ?_
    refine XS.aloadN X9.here hx rfl (hb hby own_d5_10) rfl rfl ?_
    show Steps p.tables e below (T9.setTop (mkF m 11 #[.val (.ref ob0), .val (.int (2 : Int32)), .val (.ref ob2), .val (.int (2 : Int32)), .val (.int (4 : Int32)), .val (.int (2 : Int32)), .val (.int ob0_1)] [(.ref ob0)])) _
    refine XS.iloadN X9.here hx rfl (hb hby own_d5_11) rfl ?_
    refine X9.caload hx (j := (2 : Int32)) (v := (.int ob0_2)) (by rw [e9]; exact Ar11.1) (State.isArrayOf_alike hZ.alike Ar11.2.1) Ar11.2.2 hin11 hat11 (g := (mkF m 12 #[.val (.ref ob0), .val (.int (2 : Int32)), .val (.ref ob2), .val (.int (2 : Int32)), .val (.int (4 : Int32)), .val (.int (2 : Int32)), .val (.int ob0_1)] [(.int (2 : Int32)), (.ref ob0)])) rfl rfl (hb hby own_d5_12) _ ?_
    refine XS.istore X9.here hx rfl (hb hby own_d5_13) rfl (l' := #[.val (.ref ob0), .val (.int (2 : Int32)), .val (.ref ob2), .val (.int (2 : Int32)), .val (.int (4 : Int32)), .val (.int (2 : Int32)), .val (.int ob0_2)]) rfl ?_
    refine XS.iload X9.here hx rfl (hb hby own_d5_15) rfl ?_
    show Steps p.tables e below (T9.setTop (mkF m 17 #[.val (.ref ob0), .val (.int (2 : Int32)), .val (.ref ob2), .val (.int (2 : Int32)), .val (.int (4 : Int32)), .val (.int (2 : Int32)), .val (.int ob0_2)] [(.int ob0_2)])) _
    refine XS.sipush X9.here hx rfl (hb hby own_d5_17) ?_
    refine XS.icmpYes X9.here hx rfl (pc0 := 20) (pc' := 26) rfl (hb hby own_d5_20) rfl (flt hc12).2.2.2 (by decide) (by decide) ?_
    refine XS.aloadN X9.here hx rfl (hb hby own_d5_26) rfl rfl ?_
    refine XS.iloadN X9.here hx rfl (hb hby own_d5_27) rfl ?_
    show Steps p.tables e below (T9.setTop (mkF m 28 #[.val (.ref ob0), .val (.int (2 : Int32)), .val (.ref ob2), .val (.int (2 : Int32)), .val (.int (4 : Int32)), .val (.int (2 : Int32)), .val (.int ob0_2)] [(.int (2 : Int32)), (.ref ob2)])) _
    refine XS.iload X9.here hx rfl (hb hby own_d5_28) rfl ?_
    show Steps p.tables e below (T9.setTop (mkF m 30 #[.val (.ref ob0), .val (.int (2 : Int32)), .val (.ref ob2), .val (.int (2 : Int32)), .val (.int (4 : Int32)), .val (.int (2 : Int32)), .val (.int ob0_2)] [(.int ob0_2), (.int (2 : Int32)), (.ref ob2)])) _
    refine XS.i2b X9.here hx rfl (hb hby own_d5_30) rfl ?_
    refine st14 _ ?_
    show Steps p.tables e below (T14.setTop (mkF m 32 #[.val (.ref ob0), .val (.int (2 : Int32)), .val (.ref ob2), .val (.int (2 : Int32)), .val (.int (4 : Int32)), .val (.int (2 : Int32)), .val (.int ob0_2)] [])) _
    refine XS.iinc X14.here hx rfl (hb hby own_d5_32) rfl (l' := #[.val (.ref ob0), .val (.int ((2 : Int32) + (1 : Int32))), .val (.ref ob2), .val (.int (2 : Int32)), .val (.int (4 : Int32)), .val (.int (2 : Int32)), .val (.int ob0_2)]) rfl ?_
    rw [show ((2 : Int32) + (1 : Int32)) = (3 : Int32) from by decide]
    show Steps p.tables e below (T14.setTop (mkF m 35 #[.val (.ref ob0), .val (.int (3 : Int32)), .val (.ref ob2), .val (.int (2 : Int32)), .val (.int (4 : Int32)), .val (.int (2 : Int32)), .val (.int ob0_2)] [])) _
    refine XS.iinc X14.here hx rfl (hb hby own_d5_35) rfl (l' := #[.val (.ref ob0), .val (.int (3 : Int32)), .val (.ref ob2), .val (.int ((2 : Int32) + (1 : Int32))), .val (.int (4 : Int32)), .val (.int (2 : Int32)), .val (.int ob0_2)]) rfl ?_
    rw [show ((2 : Int32) + (1 : Int32)) = (3 : Int32) from by decide]
    show Steps p.tables e below (T14.setTop (mkF m 38 #[.val (.ref ob0), .val (.int (3 : Int32)), .val (.ref ob2), .val (.int (3 : Int32)), .val (.int (4 : Int32)), .val (.int (2 : Int32)), .val (.int ob0_2)] [])) _
    refine XS.iinc X14.here hx rfl (hb hby own_d5_38) rfl (l' := #[.val (.ref ob0), .val (.int (3 : Int32)), .val (.ref ob2), .val (.int (3 : Int32)), .val (.int (4 : Int32)), .val (.int ((2 : Int32) + (1 : Int32))), .val (.int ob0_2)]) rfl ?_
    rw [show ((2 : Int32) + (1 : Int32)) = (3 : Int32) from by decide]
    refine XS.goto X14.here hx rfl (pc0 := 41) (pc' := 3) rfl (hb hby own_d5_41) (by decide) (by decide) ?_
    refine XS.iload X14.here hx rfl (hb hby own_d5_3) rfl ?_
    show Steps p.tables e below (T14.setTop (mkF m 5 #[.val (.ref ob0), .val (.int (3 : Int32)), .val (.ref ob2), .val (.int (3 : Int32)), .val (.int (4 : Int32)), .val (.int (3 : Int32)), .val (.int ob0_2)] [(.int (3 : Int32))])) _
    refine XS.iload X14.here hx rfl (hb hby own_d5_5) rfl ?_
    refine XS.icmpNo X14.here hx rfl (hb hby own_d5_7) rfl (tlt (by decide : (3 : Int32) < (4 : Int32))).2.1 ?_
    refine XS.aloadN X14.here hx rfl (hb hby own_d5_10) rfl rfl ?_
    refine XS.iloadN X14.here hx rfl (hb hby own_d5_11) rfl ?_
    show Steps p.tables e below (T14.setTop (mkF m 12 #[.val (.ref ob0), .val (.int (3 : Int32)), .val (.ref ob2), .val (.int (3 : Int32)), .val (.int (4 : Int32)), .val (.int (3 : Int32)), .val (.int ob0_2)] [(.int (3 : Int32)), (.ref ob0)])) _
    refine X14.caload hx (j := (3 : Int32)) (v := (.int ob0_3)) (by rw [e14]; exact Ar16.1) (State.isArrayOf_alike hZ.alike Ar16.2.1) Ar16.2.2 hin16 hat16 (g := (mkF m 12 #[.val (.ref ob0), .val (.int (3 : Int32)), .val (.ref ob2), .val (.int (3 : Int32)), .val (.int (4 : Int32)), .val (.int (3 : Int32)), .val (.int ob0_2)] [(.int (3 : Int32)), (.ref ob0)])) rfl rfl (hb hby own_d5_12) _ ?_
    refine XS.istore X14.here hx rfl (hb hby own_d5_13) rfl (l' := #[.val (.ref ob0), .val (.int (3 : Int32)), .val (.ref ob2), .val (.int (3 : Int32)), .val (.int (4 : Int32)), .val (.int (3 : Int32)), .val (.int ob0_3)]) rfl ?_
    refine XS.iload X14.here hx rfl (hb hby own_d5_15) rfl ?_
    refine XS.sipush X14.here hx rfl (hb hby own_d5_17) ?_
    show Steps p.tables e below (T14.setTop (mkF m 20 #[.val (.ref ob0), .val (.int (3 : Int32)), .val (.ref ob2), .val (.int (3 : Int32)), .val (.int (4 : Int32)), .val (.int (3 : Int32)), .val (.int ob0_3)] [(.int (255 : Int32)), (.int ob0_3)])) _
    refine XS.icmpYes X14.here hx rfl (pc0 := 20) (pc' := 26) rfl (hb hby own_d5_20) rfl (flt hc17).2.2.2 (by decide) (by decide) ?_
    refine XS.aloadN X14.here hx rfl (hb hby own_d5_26) rfl rfl ?_
    refine XS.iloadN X14.here hx rfl (hb hby own_d5_27) rfl ?_
    refine XS.iload X14.here hx rfl (hb hby own_d5_28) rfl ?_
    show Steps p.tables e below (T14.setTop (mkF m 30 #[.val (.ref ob0), .val (.int (3 : Int32)), .val (.ref ob2), .val (.int (3 : Int32)), .val (.int (4 : Int32)), .val (.int (3 : Int32)), .val (.int ob0_3)] [(.int ob0_3), (.int (3 : Int32)), (.ref ob2)])) _
    refine XS.i2b X14.here hx rfl (hb hby own_d5_30) rfl ?_
    refine st19 _ ?_
    show Steps p.tables e below (T19.setTop (mkF m 32 #[.val (.ref ob0), .val (.int (3 : Int32)), .val (.ref ob2), .val (.int (3 : Int32)), .val (.int (4 : Int32)), .val (.int (3 : Int32)), .val (.int ob0_3)] [])) _
    refine XS.iinc X19.here hx rfl (hb hby own_d5_32) rfl (l' := #[.val (.ref ob0), .val (.int ((3 : Int32) + (1 : Int32))), .val (.ref ob2), .val (.int (3 : Int32)), .val (.int (4 : Int32)), .val (.int (3 : Int32)), .val (.int ob0_3)]) rfl ?_
    rw [show ((3 : Int32) + (1 : Int32)) = (4 : Int32) from by decide]
    show Steps p.tables e below (T19.setTop (mkF m 35 #[.val (.ref ob0), .val (.int (4 : Int32)), .val (.ref ob2), .val (.int (3 : Int32)), .val (.int (4 : Int32)), .val (.int (3 : Int32)), .val (.int ob0_3)] [])) _
    refine XS.iinc X19.here hx rfl (hb hby own_d5_35) rfl (l' := #[.val (.ref ob0), .val (.int (4 : Int32)), .val (.ref ob2), .val (.int ((3 : Int32) + (1 : Int32))), .val (.int (4 : Int32)), .val (.int (3 : Int32)), .val (.int ob0_3)]) rfl ?_
    rw [show ((3 : Int32) + (1 : Int32)) = (4 : Int32) from by decide]
    show Steps p.tables e below (T19.setTop (mkF m 38 #[.val (.ref ob0), .val (.int (4 : Int32)), .val (.ref ob2), .val (.int (4 : Int32)), .val (.int (4 : Int32)), .val (.int (3 : Int32)), .val (.int ob0_3)] [])) _
    refine XS.iinc X19.here hx rfl (hb hby own_d5_38) rfl (l' := #[.val (.ref ob0), .val (.int (4 : Int32)), .val (.ref ob2), .val (.int (4 : Int32)), .val (.int (4 : Int32)), .val (.int ((3 : Int32) + (1 : Int32))), .val (.int ob0_3)]) rfl ?_
    rw [show ((3 : Int32) + (1 : Int32)) = (4 : Int32) from by decide]
    refine XS.goto X19.here hx rfl (pc0 := 41) (pc' := 3) rfl (hb hby own_d5_41) (by decide) (by decide) ?_
    refine XS.iload X19.here hx rfl (hb hby own_d5_3) rfl ?_
    refine XS.iload X19.here hx rfl (hb hby own_d5_5) rfl ?_
    show Steps p.tables e below (T19.setTop (mkF m 7 #[.val (.ref ob0), .val (.int (4 : Int32)), .val (.ref ob2), .val (.int (4 : Int32)), .val (.int (4 : Int32)), .val (.int (4 : Int32)), .val (.int ob0_3)] [(.int (4 : Int32)), (.int (4 : Int32))])) _
    refine XS.icmpYes X19.here hx rfl (pc0 := 7) (pc' := 44) rfl (hb hby own_d5_7) rfl (flt (by decide : ¬ ((4 : Int32) < (4 : Int32)))).2.1 (by decide) (by decide) ?_
    refine XS.iload X19.here hx rfl (hb hby own_d5_44) rfl ?_
    exact k
  obtain ⟨fs, hrt, hrun, hended, hW, hsame⟩ := X19.leave (v := some (.int (4 : Int32))) (fun h => by rw [Bd.returns] at h; cases h)
  refine ⟨_, _, g20 _ ?_, hrun, hended, _, _, rfl, ?_, ⟨_, rfl⟩, hW, hsame.mono (by decide) (by decide)⟩
  · show Steps p.tables e below (T19.setTop (mkF m 46 #[.val (.ref ob0), .val (.int (4 : Int32)), .val (.ref ob2), .val (.int (4 : Int32)), .val (.int (4 : Int32)), .val (.int (4 : Int32)), .val (.int ob0_3)] [(.int (4 : Int32))])) _
    exact retI X19 hx Bd.returns (hb hby own_d5_46) hrt
  · show own_Q_rmA12 Z ob0 k_ob0 ob0_0 ob0_1 ob0_2 ob0_3 ob2 k_ob2 cs wf h0 n0 _ T19.heap _
    rw [e19]
    exact ⟨rfl, N19, (Keep.wr (Keep.wr (Keep.wr (Keep.wr (Keep.refl h0 [ob2]) W4 (Or.inl (List.mem_of_getElem? (i := 0) rfl))) W9 (Or.inl (List.mem_of_getElem? (i := 0) rfl))) W14 (Or.inl (List.mem_of_getElem? (i := 0) rfl))) W19 (Or.inl (List.mem_of_getElem? (i := 0) rfl))), V19a⟩
theorem own_pd8 : parseMethodDescriptor "([CI[BII)I" = some ⟨[(.array .char), .int, (.array .byte), .int, .int], some .int⟩ := by decide +kernel
theorem own_d4_12 : decode jdk_52_method_16_code 12 = .ok (.istore 4, 2) := by decide +kernel
theorem own_d4_14 : decode jdk_52_method_16_code 14 = .ok (.iload 4, 2) := by decide +kernel
theorem own_d4_16 : decode jdk_52_method_16_code 16 = .ok (.iload_n 2, 1) := by decide +kernel
theorem own_d4_17 : decode jdk_52_method_16_code 17 = .ok (.if_icmp .eq 40, 3) := by decide +kernel
theorem own_d4_57 : decode jdk_52_method_16_code 57 = .ok (.aload_n 3, 1) := by decide +kernel
theorem own_d4_58 : decode jdk_52_method_16_code 58 = .ok (.areturn, 1) := by decide +kernel
def own_Q_rmA11 (Z : State) (ob0 : Addr) (k_ob0 : ClassId) (ob0_0 : Int32) (ob0_1 : Int32) (ob0_2 : Int32) (ob0_3 : Int32)  (cs : Int32) (wf : Value) (h0 : Heap) (n0 : Nat) (v : Option Value) (h : Heap) (L : List Loc) : Prop := ∃ rb : Addr, ∃ rk : ClassId, v = some (.ref rb) ∧ Fr n0 L ∧ Keep h0 h [] ∧ h0.size ≤ rb ∧ Arv Z h rb rk .byte (4 : Int32) [(.int (ob0_0.toInt8.toInt32)), (.int (ob0_1.toInt8.toInt32)), (.int (ob0_2.toInt8.toInt32)), (.int (ob0_3.toInt8.toInt32))] (.int (0 : Int32))
set_option maxRecDepth 65536 in
set_option maxHeartbeats 40000000 in
theorem rmA11 (l : Launch) (Z : State) (a0 : Array Value) (hw : ∀ d ∈ tables_1, d.before a0 Z = true) (ws : List Jvm.Cond) (ob0 : Addr) (k_ob0 : ClassId) (ob0_0 : Int32) (ob0_1 : Int32) (ob0_2 : Int32) (ob0_3 : Int32)  (cs : Int32) (wf : Value) (h0 : Heap) (n0 : Nat) (O0 : Old Z n0 h0) (G : own_Gl Z cs wf) (V_ob0 : Arv Z h0 ob0 k_ob0 .char (4 : Int32) [(.int ob0_0), (.int ob0_1), (.int ob0_2), (.int ob0_3)] (.int (0 : Int32))) (hx0 : ¬ ((255 : Int32) < ob0_0)) (hx1 : ¬ ((255 : Int32) < ob0_1)) (hx2 : ¬ ((255 : Int32) < ob0_2)) (hx3 : ¬ ((255 : Int32) < ob0_3)) :
    MetFree l own_y10 (head1 (Jvm.Cond.code own_y10 jdk_52_method_16_code 6 (some (.array .byte)) :: ws) ({ frames := 1, cells := 1, slots := 4, locals := 18 } : Room)) (fun a U => a = #[(.ref ob0), (.int (0 : Int32)), (.int (4 : Int32))] ∧ Z.Warmed39 U.vm ∧ U.heap = h0) (fun _ _ _ _ _ => True) (fun _ U o U' => ∃ v L, o = .returned v ∧ own_Q_rmA11 Z ob0 k_ob0 ob0_0 ob0_1 ob0_2 ob0_3 cs wf h0 n0 v U'.heap L ∧ FrameEnd U o U' L ({ frames := 1, cells := 1, slots := 4, locals := 18 } : Room).cells ({ frames := 1, cells := 1, slots := 4, locals := 18 } : Room).slots) := by
  refine MetFree.of_bodySF (plainFor_of_name own_pn4) hisR ?_
  intro p e s m args below meth c s₁ Bd hml0 hP hK
  obtain ⟨rfl, hZ, hh⟩ := hP
  have hx := Bd.exec
  have hby := Bd.bytes
  have hml : c.maxLocals = 6 := hml0
  have hown : s.vm.findClass "java/lang/StringUTF16" = some m.cls := findClass_of_methodNamed Bd.named
  have hnm := (name_of_methodNamed Bd.named Bd.method).1
  have X0 : Stand p l e ({ frames := 1, cells := 1, slots := 4, locals := 18 } : Room) s m #[(.ref ob0), (.int (0 : Int32)), (.int (4 : Int32))] below meth c s₁ [] 0 0 := Stand.of_body Bd
  have e0 : s₁.heap = h0 := by rw [← hh, Bd.state]; rfl
  have N0 := Fr.nil n0
  have Z0 : n0 ≤ h0.size := O0.1 ▸ O0.2.1
  have g0 : ∀ t, Steps p.tables e below (s₁.setTop (mkF m 0 #[.val (.ref ob0), .val (.int (0 : Int32)), .val (.int (4 : Int32)), .unset, .unset, .unset] [])) t → Steps p.tables e below (s₁.setTop (entryFrame m #[(.ref ob0), (.int (0 : Int32)), (.int (4 : Int32))] 6)) t := fun t k => castTop (own_ef13 m (ob0) ((0 : Int32)) ((4 : Int32))) k
  have G0 := G
  obtain ⟨S_CS, hcs, S_WF, hwf⟩ := G
  obtain ⟨T1, h1, k1, X1, e1, E1, A1, st1⟩ := newP X0 hx hZ (own_w hw 19 rfl) e0 (g := (mkF m 1 #[.val (.ref ob0), .val (.int (0 : Int32)), .val (.int (4 : Int32)), .unset, .unset, .unset] [(.int (4 : Int32))])) rfl (hb hby own_d4_1) rfl (by decide) (cap := 4) (by decide) (by decide) (by decide) (by decide)
  obtain ⟨b1, q_b1⟩ : ∃ z, z = h0.size := ⟨_, rfl⟩
  rw [← q_b1] at A1 st1
  have sz_b1 : h0.size ≤ b1 := Nat.le_of_eq q_b1.symm
  have gz_b1 : n0 ≤ b1 := Nat.le_trans Z0 sz_b1
  have ne_ob0_b1 : ob0 ≠ b1 := Nat.ne_of_lt (Nat.lt_of_lt_of_le V_ob0.lt (Nat.le_of_eq q_b1.symm))
  have V1 : Arv Z h1 b1 k1 .byte (4 : Int32) [(.int (0 : Int32)), (.int (0 : Int32)), (.int (0 : Int32)), (.int (0 : Int32))] (.int (0 : Int32)) := (Arv.new A1 (by decide)).pad (pad_rep [] (.int (0 : Int32)) 4)
  have f2 := (V_ob0.ext E1)
  have o3 : Old Z n0 h1 := (Old.ext O0 E1)
  obtain ⟨_, _, ⟨T4, L4, k4, n4⟩, -, X4, ⟨Lc4, hQ4, l4, y4, z4⟩, st4⟩ := Jvm.LawKit.callS X1 hx (y := own_y11) hown (mvT hZ (own_w hw 20 rfl)) (mvT hZ (own_w hw 21 rfl)) (mvT hZ (own_w hw 17 rfl)) (mvT hZ (own_w hw 22 rfl)) (by decide) (backOf (W := 0) (rmA12 l Z a0 hw [] ob0 k_ob0 (ob0_0) (ob0_1) (ob0_2) (ob0_3) b1 k1  cs wf h1 n0 o3 G0 f2 V1 gz_b1 hx0 hx1 hx2 hx3 ne_ob0_b1) hZ (own_w hw 22 rfl) (own_w hw 17 rfl) (by decide) (by decide)) (g := (mkF m 9 #[.val (.ref ob0), .val (.int (0 : Int32)), .val (.int (4 : Int32)), .val (.ref b1), .unset, .unset] [(.int (4 : Int32)), (.int (0 : Int32)), (.ref b1), (.int (0 : Int32)), (.ref ob0)])) rfl (by rw [hml]; rfl) (argsL := [(.ref ob0), (.int (0 : Int32)), (.ref b1), (.int (0 : Int32)), (.int (4 : Int32))]) (rest := []) (lenOf own_pd8 rfl) rfl (by show 2 * 0 + _ ≤ _; exact Nat.le_of_eq rfl) (hb hby own_d4_9) (fun _ _ => ⟨rfl, e1, (by decide : 1 + 0 ≤ _), (by decide : 4 + 0 ≤ _)⟩)
  dsimp only [Pt.U, Pt.locs, Pt.cells, Pt.slots] at X4 l4 y4 z4 st4 hQ4
  subst l4 y4 z4
  obtain ⟨rfl, Nq4, K4, Va4⟩ := hQ4
  have N4 := Fr.app N0 Nq4
  have g5 : ∀ t, Steps p.tables e below (T4.setTop (mkF m 58 #[.val (.ref ob0), .val (.int (0 : Int32)), .val (.int (4 : Int32)), .val (.ref b1), .val (.int (4 : Int32)), .unset] [(.ref b1)])) t → Steps p.tables e below (s₁.setTop (entryFrame m #[(.ref ob0), (.int (0 : Int32)), (.int (4 : Int32))] 6)) t := by
    intro t k
    refine g0 t ?_
    show Steps p.tables e below (s₁.setTop (mkF m 0 #[.val (.ref ob0), .val (.int (0 : Int32)), .val (.int (4 : Int32)), .unset, .unset, .unset] [])) _
    refine XS.iloadN X0.here hx rfl (hb hby own_d4_0) rfl ?_
    refine st1 _ ?_
    refine XS.astoreN X1.here hx rfl (hb hby own_d4_3) rfl rfl (l' := #[.val (.ref ob0), .val (.int (0 : Int32)), .val (.int (4 : Int32)), .val (.ref b1), .unset, .unset]) rfl ?_
    refine XS.aloadN X1.here hx rfl (hb hby own_d4_4) rfl rfl ?_
    show Steps p.tables e below (T1.setTop (mkF m 5 #[.val (.ref ob0), .val (.int (0 : Int32)), .val (.int (4 : Int32)), .val (.ref b1), .unset, .unset] [(.ref ob0)])) _
    refine XS.iloadN X1.here hx rfl (hb hby own_d4_5) rfl ?_
    refine XS.aloadN X1.here hx rfl (hb hby own_d4_6) rfl rfl ?_
    refine XS.iconst X1.here hx rfl (hb hby own_d4_7) ?_
    refine XS.iloadN X1.here hx rfl (hb hby own_d4_8) rfl ?_
    show Steps p.tables e below (T1.setTop (mkF m 9 #[.val (.ref ob0), .val (.int (0 : Int32)), .val (.int (4 : Int32)), .val (.ref b1), .unset, .unset] [(.int (4 : Int32)), (.int (0 : Int32)), (.ref b1), (.int (0 : Int32)), (.ref ob0)])) _
    refine st4 _ ?_
    refine XS.istore X4.here hx rfl (hb hby own_d4_12) rfl (l' := #[.val (.ref ob0), .val (.int (0 : Int32)), .val (.int (4 : Int32)), .val (.ref b1), .val (.int (4 : Int32)), .unset]) rfl ?_
    refine XS.iload X4.here hx rfl (hb hby own_d4_14) rfl ?_
    refine XS.iloadN X4.here hx rfl (hb hby own_d4_16) rfl ?_
    show Steps p.tables e below (T4.setTop (mkF m 17 #[.val (.ref ob0), .val (.int (0 : Int32)), .val (.int (4 : Int32)), .val (.ref b1), .val (.int (4 : Int32)), .unset] [(.int (4 : Int32)), (.int (4 : Int32))])) _
    refine XS.icmpYes X4.here hx rfl (pc0 := 17) (pc' := 57) rfl (hb hby own_d4_17) rfl (teq (by decide : (4 : Int32) = (4 : Int32))).1 (by decide) (by decide) ?_
    refine XS.aloadN X4.here hx rfl (hb hby own_d4_57) rfl rfl ?_
    exact k
  obtain ⟨fs, hrt, hrun, hended, hW, hsame⟩ := X4.leave (v := some (.ref b1)) (fun h => by rw [Bd.returns] at h; cases h)
  refine ⟨_, _, g5 _ ?_, hrun, hended, _, _, rfl, ?_, ⟨_, rfl⟩, hW, hsame.mono (by decide) (by decide)⟩
  · show Steps p.tables e below (T4.setTop (mkF m 58 #[.val (.ref ob0), .val (.int (0 : Int32)), .val (.int (4 : Int32)), .val (.ref b1), .val (.int (4 : Int32)), .unset] [(.ref b1)])) _
    jvm_step X4.here [X4.here.top, hx, (hb hby own_d4_58), X4.method', Bd.returns, Value.isRef, FieldType.isReference]
    first | (intro acts; rw [hrt _ acts rfl rfl rfl]) | rw [hrt _ _ rfl rfl rfl]
    exact Steps.refl _
  · show own_Q_rmA11 Z ob0 k_ob0 ob0_0 ob0_1 ob0_2 ob0_3 cs wf h0 n0 _ T4.heap _
    exact ⟨b1, _, rfl, N4, (Keep.trans (Keep.ext (Keep.refl h0 []) E1) K4 (allS (Or.inr sz_b1) all0)), sz_b1, Va4⟩
theorem own_pd9 : parseMethodDescriptor "([CII)[B" = some ⟨[(.array .char), .int, .int], some (.array .byte)⟩ := by decide +kernel
theorem own_d2_39 : decode jdk_42_method_149_code 39 = .ok (.astore 5, 2) := by decide +kernel
theorem own_d2_41 : decode jdk_42_method_149_code 41 = .ok (.aload_n 0, 1) := by decide +kernel
theorem own_d2_42 : decode jdk_42_method_149_code 42 = .ok (.aload 5, 2) := by decide +kernel
theorem own_d2_44 : decode jdk_42_method_149_code 44 = .ok (.iload_n 3, 1) := by decide +kernel
theorem own_d2_45 : decode jdk_42_method_149_code 45 = .ok (.invokestatic 47, 3) := by decide +kernel
abbrev own_y12 : MethodName := ⟨"java/lang/StringUTF16", "coderFromArrayLen", "([BI)B"⟩
theorem own_ef15 (m : MethodId) (x0 : Addr) (x1 : Int32) : entryFrame m #[(.ref x0), (.int x1)] 2 = mkF m 0 #[.val (.ref x0), .val (.int x1)] [] := by first | (simp [entryFrame, mkF, argsToLocals, Value.category]; done) | rfl
theorem own_d6_0 : decode jdk_52_method_15_code 0 = .ok (.iload_n 1, 1) := by decide +kernel
theorem own_d6_1 : decode jdk_52_method_15_code 1 = .ok (.aload_n 0, 1) := by decide +kernel
theorem own_d6_2 : decode jdk_52_method_15_code 2 = .ok (.arraylength, 1) := by decide +kernel
theorem own_d6_3 : decode jdk_52_method_15_code 3 = .ok (.isub, 1) := by decide +kernel
theorem own_d6_4 : decode jdk_52_method_15_code 4 = .ok (.bipush 31, 2) := by decide +kernel
theorem own_d6_6 : decode jdk_52_method_15_code 6 = .ok (.iushr, 1) := by decide +kernel
theorem own_d6_7 : decode jdk_52_method_15_code 7 = .ok (.i2b, 1) := by decide +kernel
theorem own_d6_8 : decode jdk_52_method_15_code 8 = .ok (.ireturn, 1) := by decide +kernel
def own_Q_rmA13 (Z : State) (ob0 : Addr) (k_ob0 : ClassId) (ob0_0 : Int32) (ob0_1 : Int32) (ob0_2 : Int32) (ob0_3 : Int32)  (cs : Int32) (wf : Value) (h0 : Heap) (n0 : Nat) (v : Option Value) (h : Heap) (L : List Loc) : Prop := v = some (.int (0 : Int32)) ∧ Fr n0 L ∧ h = h0
set_option maxRecDepth 65536 in
set_option maxHeartbeats 40000000 in
theorem rmA13 (l : Launch) (Z : State) (a0 : Array Value) (hw : ∀ d ∈ tables_1, d.before a0 Z = true) (ws : List Jvm.Cond) (ob0 : Addr) (k_ob0 : ClassId) (ob0_0 : Int32) (ob0_1 : Int32) (ob0_2 : Int32) (ob0_3 : Int32)  (cs : Int32) (wf : Value) (h0 : Heap) (n0 : Nat) (O0 : Old Z n0 h0) (G : own_Gl Z cs wf) (V_ob0 : Arv Z h0 ob0 k_ob0 .byte (4 : Int32) [(.int ob0_0), (.int ob0_1), (.int ob0_2), (.int ob0_3)] (.int (0 : Int32))) :
    MetFree l own_y12 (head1 (Jvm.Cond.code own_y12 jdk_52_method_15_code 2 (some .byte) :: ws) ({ frames := 0, cells := 0, slots := 0, locals := 0 } : Room)) (fun a U => a = #[(.ref ob0), (.int (4 : Int32))] ∧ Z.Warmed39 U.vm ∧ U.heap = h0) (fun _ _ _ _ _ => True) (fun _ U o U' => ∃ v L, o = .returned v ∧ own_Q_rmA13 Z ob0 k_ob0 ob0_0 ob0_1 ob0_2 ob0_3 cs wf h0 n0 v U'.heap L ∧ FrameEnd U o U' L ({ frames := 0, cells := 0, slots := 0, locals := 0 } : Room).cells ({ frames := 0, cells := 0, slots := 0, locals := 0 } : Room).slots) := by
  refine MetFree.of_bodySF (plainFor_of_name own_pn4) hisR ?_
  intro p e s m args below meth c s₁ Bd hml0 hP hK
  obtain ⟨rfl, hZ, hh⟩ := hP
  have hx := Bd.exec
  have hby := Bd.bytes
  have hml : c.maxLocals = 2 := hml0
  have hown : s.vm.findClass "java/lang/StringUTF16" = some m.cls := findClass_of_methodNamed Bd.named
  have hnm := (name_of_methodNamed Bd.named Bd.method).1
  have X0 : Stand p l e ({ frames := 0, cells := 0, slots := 0, locals := 0 } : Room) s m #[(.ref ob0), (.int (4 : Int32))] below meth c s₁ [] 0 0 := Stand.of_body Bd
  have e0 : s₁.heap = h0 := by rw [← hh, Bd.state]; rfl
  have N0 := Fr.nil n0
  have Z0 : n0 ≤ h0.size := O0.1 ▸ O0.2.1
  have g0 : ∀ t, Steps p.tables e below (s₁.setTop (mkF m 0 #[.val (.ref ob0), .val (.int (4 : Int32))] [])) t → Steps p.tables e below (s₁.setTop (entryFrame m #[(.ref ob0), (.int (4 : Int32))] 2)) t := fun t k => castTop (own_ef15 m (ob0) ((4 : Int32))) k
  have G0 := G
  obtain ⟨S_CS, hcs, S_WF, hwf⟩ := G
  obtain ⟨c1, Ar1, cq1, S1, Nn1, Hh1, Gg1⟩ := id V_ob0
  have g2 : ∀ t, Steps p.tables e below (s₁.setTop (mkF m 8 #[.val (.ref ob0), .val (.int (4 : Int32))] [(.int (0 : Int32))])) t → Steps p.tables e below (s₁.setTop (entryFrame m #[(.ref ob0), (.int (4 : Int32))] 2)) t := by
    intro t k
    refine g0 t ?_
    show Steps p.tables e below (s₁.setTop (mkF m 0 #[.val (.ref ob0), .val (.int (4 : Int32))] [])) _
    refine XS.iloadN X0.here hx rfl (hb hby own_d6_0) rfl ?_
    refine XS.aloadN X0.here hx rfl (hb hby own_d6_1) rfl rfl ?_
    show Steps p.tables e below (s₁.setTop (mkF m 2 #[.val (.ref ob0), .val (.int (4 : Int32))] [(.ref ob0), (.int (4 : Int32))])) _
    refine X0.arraylength hx (by rw [e0]; exact Ar1.1) (State.isArrayOf_alike hZ.alike Ar1.2.1) (g := (mkF m 2 #[.val (.ref ob0), .val (.int (4 : Int32))] [(.ref ob0), (.int (4 : Int32))])) rfl rfl (hb hby own_d6_2) _ ?_
    rw [len_of S1 Nn1]
    show Steps p.tables e below (s₁.setTop (mkF m 3 #[.val (.ref ob0), .val (.int (4 : Int32))] [(.int (4 : Int32)), (.int (4 : Int32))])) _
    refine XS.isub X0.here hx rfl (hb hby own_d6_3) rfl ?_
    rw [show ((4 : Int32) - (4 : Int32)) = (0 : Int32) from by decide]
    show Steps p.tables e below (s₁.setTop (mkF m 4 #[.val (.ref ob0), .val (.int (4 : Int32))] [(.int (0 : Int32))])) _
    refine XS.bipush X0.here hx rfl (hb hby own_d6_4) ?_
    show Steps p.tables e below (s₁.setTop (mkF m 6 #[.val (.ref ob0), .val (.int (4 : Int32))] [(.int (31 : Int32)), (.int (0 : Int32))])) _
    refine XS.iushr X0.here hx rfl (hb hby own_d6_6) rfl ?_
    rw [show (((0 : Int32).toUInt32 >>> ((31 : Int32) &&& 31).toUInt32).toInt32) = (0 : Int32) from by decide]
    show Steps p.tables e below (s₁.setTop (mkF m 7 #[.val (.ref ob0), .val (.int (4 : Int32))] [(.int (0 : Int32))])) _
    refine XS.i2b X0.here hx rfl (hb hby own_d6_7) rfl ?_
    rw [show ((0 : Int32).toInt8.toInt32) = (0 : Int32) from by decide]
    exact k
  obtain ⟨fs, hrt, hrun, hended, hW, hsame⟩ := X0.leave (v := some (.int (0 : Int32))) (fun h => by rw [Bd.returns] at h; cases h)
  refine ⟨_, _, g2 _ ?_, hrun, hended, _, _, rfl, ?_, ⟨_, rfl⟩, hW, hsame.mono (by decide) (by decide)⟩
  · show Steps p.tables e below (s₁.setTop (mkF m 8 #[.val (.ref ob0), .val (.int (4 : Int32))] [(.int (0 : Int32))])) _
    exact retN X0 hx (t := .byte) Bd.returns (by simp) (hb hby own_d6_8) hrt
  · show own_Q_rmA13 Z ob0 k_ob0 ob0_0 ob0_1 ob0_2 ob0_3 cs wf h0 n0 _ s₁.heap _
    rw [e0]
    exact ⟨rfl, N0, rfl⟩
theorem own_pd10 : parseMethodDescriptor "([BI)B" = some ⟨[(.array .byte), .int], some .byte⟩ := by decide +kernel
theorem own_d2_48 : decode jdk_42_method_149_code 48 = .ok (.putfield 15, 3) := by decide +kernel
theorem own_d2_51 : decode jdk_42_method_149_code 51 = .ok (.aload_n 0, 1) := by decide +kernel
theorem own_d2_52 : decode jdk_42_method_149_code 52 = .ok (.aload 5, 2) := by decide +kernel
theorem own_d2_54 : decode jdk_42_method_149_code 54 = .ok (.putfield 9, 3) := by decide +kernel
theorem own_la0 {Z : State} {a0 : Array Value} (hw : ∀ d ∈ tables_1, d.before a0 Z = true) : Laid Z a0 "java/lang/String" "java/lang/String" "value" "[B" := Or.inr (own_w hw 29 rfl)
theorem own_la1 {Z : State} {a0 : Array Value} (hw : ∀ d ∈ tables_1, d.before a0 Z = true) : Laid Z a0 "java/lang/String" "java/lang/String" "coder" "B" := Or.inr (own_w hw 27 rfl)
theorem own_ty0 : parseFieldDescriptor "[B" = some (.array .byte) := by decide
theorem own_ty1 : parseFieldDescriptor "B" = some .byte := by decide
theorem own_d2_57 : decode jdk_42_method_149_code 57 = .ok (.return_, 1) := by decide +kernel
def own_Q_rmA10 (Z : State) (ob0 : Addr) (ob1 : Addr) (k_ob1 : ClassId) (ob1_0 : Int32) (ob1_1 : Int32) (ob1_2 : Int32) (ob1_3 : Int32)  (cs : Int32) (wf : Value) (h0 : Heap) (n0 : Nat) (v : Option Value) (h : Heap) (L : List Loc) : Prop := v = none ∧ Fr n0 L ∧ Keep h0 h [ob0] ∧ ∃ rb : Addr, ∃ rk : ClassId, h0.size ≤ rb ∧ Exa Z h ob0 "java/lang/String" ∧ Fld Z h ob0 "java/lang/String" "coder" "B" (.int (0 : Int32)) ∧ Fld Z h ob0 "java/lang/String" "value" "[B" (.ref rb) ∧ Arv Z h rb rk .byte (4 : Int32) [(.int (ob1_0.toInt8.toInt32)), (.int (ob1_1.toInt8.toInt32)), (.int (ob1_2.toInt8.toInt32)), (.int (ob1_3.toInt8.toInt32))] (.int (0 : Int32))
set_option maxRecDepth 65536 in
set_option maxHeartbeats 40000000 in
theorem rmA10 (l : Launch) (Z : State) (a0 : Array Value) (hw : ∀ d ∈ tables_1, d.before a0 Z = true) (ws : List Jvm.Cond) (ob0 : Addr) (ob1 : Addr) (k_ob1 : ClassId) (ob1_0 : Int32) (ob1_1 : Int32) (ob1_2 : Int32) (ob1_3 : Int32)  (cs : Int32) (wf : Value) (h0 : Heap) (n0 : Nat) (O0 : Old Z n0 h0) (G : own_Gl Z cs wf) (E_ob0 : Exa Z h0 ob0 "java/lang/String") (F_ob0_coder : Fld Z h0 ob0 "java/lang/String" "coder" "B" (.int (0 : Int32))) (F_ob0_value : Fld Z h0 ob0 "java/lang/String" "value" "[B" .null) (V_ob1 : Arv Z h0 ob1 k_ob1 .char (4 : Int32) [(.int ob1_0), (.int ob1_1), (.int ob1_2), (.int ob1_3)] (.int (0 : Int32))) (gz_ob0 : n0 ≤ ob0) (hx0 : ¬ ((255 : Int32) < ob1_0)) (hx1 : ¬ ((255 : Int32) < ob1_1)) (hx2 : ¬ ((255 : Int32) < ob1_2)) (hx3 : ¬ ((255 : Int32) < ob1_3)) :
    MetFree l own_y9 (head1 (Jvm.Cond.code own_y9 jdk_42_method_149_code 6 none :: ws) ({ frames := 2, cells := 1, slots := 4, locals := 35 } : Room)) (fun a U => a = #[(.ref ob0), (.ref ob1), (.int (0 : Int32)), (.int (4 : Int32)), .null] ∧ Z.Warmed39 U.vm ∧ U.heap = h0) (fun _ _ _ _ _ => True) (fun _ U o U' => ∃ v L, o = .returned v ∧ own_Q_rmA10 Z ob0 ob1 k_ob1 ob1_0 ob1_1 ob1_2 ob1_3 cs wf h0 n0 v U'.heap L ∧ FrameEnd U o U' L ({ frames := 2, cells := 1, slots := 4, locals := 35 } : Room).cells ({ frames := 2, cells := 1, slots := 4, locals := 35 } : Room).slots) := by
  refine MetFree.of_bodySF (plainFor_of_name own_pn0) hisR ?_
  intro p e s m args below meth c s₁ Bd hml0 hP hK
  obtain ⟨rfl, hZ, hh⟩ := hP
  have hx := Bd.exec
  have hby := Bd.bytes
  have hml : c.maxLocals = 6 := hml0
  have hown : s.vm.findClass "java/lang/String" = some m.cls := findClass_of_methodNamed Bd.named
  have hnm := (name_of_methodNamed Bd.named Bd.method).1
  have X0 : Stand p l e ({ frames := 2, cells := 1, slots := 4, locals := 35 } : Room) s m #[(.ref ob0), (.ref ob1), (.int (0 : Int32)), (.int (4 : Int32)), .null] below meth c s₁ [] 0 0 := Stand.of_body Bd
  have e0 : s₁.heap = h0 := by rw [← hh, Bd.state]; rfl
  have N0 := Fr.nil n0
  have Z0 : n0 ≤ h0.size := O0.1 ▸ O0.2.1
  have g0 : ∀ t, Steps p.tables e below (s₁.setTop (mkF m 0 #[.val (.ref ob0), .val (.ref ob1), .val (.int (0 : Int32)), .val (.int (4 : Int32)), .val .null, .unset] [])) t → Steps p.tables e below (s₁.setTop (entryFrame m #[(.ref ob0), (.ref ob1), (.int (0 : Int32)), (.int (4 : Int32)), .null] 6)) t := fun t k => castTop (own_ef12 m (ob0) (ob1) ((0 : Int32)) ((4 : Int32))) k
  have G0 := G
  obtain ⟨S_CS, hcs, S_WF, hwf⟩ := G
  obtain ⟨T1, X1, e1, st1⟩ := initO X0 hx hZ hown (own_w hw 11 rfl) (own_w hw 12 rfl) (own_w hw 13 rfl) e0 (g := (mkF m 1 #[.val (.ref ob0), .val (.ref ob1), .val (.int (0 : Int32)), .val (.int (4 : Int32)), .val .null, .unset] [(.ref ob0)])) rfl (by rw [hml]; rfl) rfl (hb hby own_d2_1) (by decide) (W := 0) (by show 2 * 0 + _ ≤ _; exact Nat.le_of_eq rfl) (by decide)
  obtain ⟨T2, X2, e2, st2⟩ := getS2 X1 hx hZ hown (host := "") (Or.inl (own_w hw 14 rfl)) Via.refl e1 (S_CS.ext O0.2) (g := (mkF m 27 #[.val (.ref ob0), .val (.ref ob1), .val (.int (0 : Int32)), .val (.int (4 : Int32)), .val .null, .unset] [])) rfl (hb hby own_d2_27)
  have hc3 : ¬ (cs = (0 : Int32)) := hcs
  obtain ⟨_, _, ⟨T4, L4, k4, n4⟩, -, X4, ⟨Lc4, hQ4, l4, y4, z4⟩, st4⟩ := Jvm.LawKit.callS X2 hx (y := own_y10) hown (mvT hZ (own_w hw 15 rfl)) (mvT hZ (own_w hw 16 rfl)) (mvT hZ (own_w hw 17 rfl)) (mvT hZ (own_w hw 18 rfl)) (by decide) (backOf (W := 0) (rmA11 l Z a0 hw [] ob1 k_ob1 (ob1_0) (ob1_1) (ob1_2) (ob1_3)  cs wf h0 n0 O0 G0 V_ob1  hx0 hx1 hx2 hx3) hZ (own_w hw 18 rfl) (own_w hw 17 rfl) (by decide) (by decide)) (g := (mkF m 36 #[.val (.ref ob0), .val (.ref ob1), .val (.int (0 : Int32)), .val (.int (4 : Int32)), .val .null, .unset] [(.int (4 : Int32)), (.int (0 : Int32)), (.ref ob1)])) rfl (by rw [hml]; rfl) (argsL := [(.ref ob1), (.int (0 : Int32)), (.int (4 : Int32))]) (rest := []) (lenOf own_pd9 rfl) rfl (by show 2 * 0 + _ ≤ _; exact Nat.le_of_eq rfl) (hb hby own_d2_36) (fun _ _ => ⟨rfl, e2, (by decide : 0 + 1 ≤ _), (by decide : 0 + 4 ≤ _)⟩)
  dsimp only [Pt.U, Pt.locs, Pt.cells, Pt.slots] at X4 l4 y4 z4 st4 hQ4
  subst l4 y4 z4
  obtain ⟨rb4, rk4, rfl, Nq4, K4, hb4, Va4⟩ := hQ4
  have N4 := Fr.app N0 Nq4
  have sz_rb4 : h0.size ≤ rb4 := hb4
  have gz_rb4 : n0 ≤ rb4 := Nat.le_trans Z0 sz_rb4
  have ne_ob0_rb4 : ob0 ≠ rb4 := Nat.ne_of_lt (Nat.lt_of_lt_of_le E_ob0.lt hb4)
  have ne_ob1_rb4 : ob1 ≠ rb4 := Nat.ne_of_lt (Nat.lt_of_lt_of_le V_ob1.lt hb4)
  have o5 : Old Z n0 T4.heap := (Old.keep O0 K4 all0)
  obtain ⟨_, _, ⟨T6, L6, k6, n6⟩, -, X6, ⟨Lc6, hQ6, l6, y6, z6⟩, st6⟩ := Jvm.LawKit.callS X4 hx (y := own_y12) hown (mvT hZ (own_w hw 23 rfl)) (mvT hZ (own_w hw 24 rfl)) (mvT hZ (own_w hw 17 rfl)) (mvT hZ (own_w hw 25 rfl)) (by decide) (backOf (W := 1) (rmA13 l Z a0 hw [] rb4 rk4 ((ob1_0.toInt8.toInt32)) ((ob1_1.toInt8.toInt32)) ((ob1_2.toInt8.toInt32)) ((ob1_3.toInt8.toInt32))  cs wf T4.heap n0 o5 G0 Va4  ) hZ (own_w hw 25 rfl) (own_w hw 17 rfl) (by decide) (by decide)) (g := (mkF m 45 #[.val (.ref ob0), .val (.ref ob1), .val (.int (0 : Int32)), .val (.int (4 : Int32)), .val .null, .val (.ref rb4)] [(.int (4 : Int32)), (.ref rb4), (.ref ob0)])) rfl (by rw [hml]; rfl) (argsL := [(.ref rb4), (.int (4 : Int32))]) (rest := [(.ref ob0)]) (lenOf own_pd10 rfl) rfl (by show 2 * 0 + _ ≤ _; exact Nat.le_of_eq rfl) (hb hby own_d2_45) (fun _ _ => ⟨rfl, rfl, (by decide : 1 + 0 ≤ _), (by decide : 4 + 0 ≤ _)⟩)
  dsimp only [Pt.U, Pt.locs, Pt.cells, Pt.slots] at X6 l6 y6 z6 st6 hQ6
  subst l6 y6 z6
  obtain ⟨rfl, Nq6, e6⟩ := hQ6
  have N6 := Fr.app N4 Nq6
  have f7 := (E_ob0.keep K4)
  have f8 := (F_ob0_coder.keep K4 nin0)
  obtain ⟨T9, h9, X9, e9, W9, st9⟩ := putFN X6 hx hZ hown (own_w hw 26 rfl) Via.refl e6 f8 f7 (Or.inr ⟨(own_w hw 27 rfl), rfl, hnm⟩) (own_w hw 2 rfl) (ty := .byte) (v' := (.int (0 : Int32))) (by decide) rfl rfl (g := (mkF m 48 #[.val (.ref ob0), .val (.ref ob1), .val (.int (0 : Int32)), .val (.int (4 : Int32)), .val .null, .val (.ref rb4)] [(.int (0 : Int32)), (.ref ob0)])) rfl rfl (hb hby own_d2_48)
  have Fw9 := f8.same W9
  have N9 := Fr.snoc X9 N6 gz_ob0
  have f10 := (f7.wr W9)
  have f11 := ((F_ob0_value.keep K4 nin0).other W9 (Or.inr (slot_ne (own_la0 hw) (own_la1 hw) (by decide) own_ty0 own_ty1)))
  obtain ⟨T12, h12, X12, e12, W12, st12⟩ := putF X9 hx hZ hown (host := "") (Or.inl (own_w hw 28 rfl)) Via.refl e9 f11 f10 (Or.inr ⟨(own_w hw 29 rfl), rfl, hnm⟩) (own_w hw 2 rfl) (ty := (.array .byte)) (by decide) rfl rfl (g := (mkF m 54 #[.val (.ref ob0), .val (.ref ob1), .val (.int (0 : Int32)), .val (.int (4 : Int32)), .val .null, .val (.ref rb4)] [(.ref rb4), (.ref ob0)])) rfl rfl (hb hby own_d2_54)
  have Fw12 := f11.same W12
  have N12 := Fr.snoc X12 N9 gz_ob0
  have g13 : ∀ t, Steps p.tables e below (T12.setTop (mkF m 57 #[.val (.ref ob0), .val (.ref ob1), .val (.int (0 : Int32)), .val (.int (4 : Int32)), .val .null, .val (.ref rb4)] [])) t → Steps p.tables e below (s₁.setTop (entryFrame m #[(.ref ob0), (.ref ob1), (.int (0 : Int32)), (.int (4 : Int32)), .null] 6)) t := by
    intro t k
    refine g0 t ?_
    show Steps p.tables e below (s₁.setTop (mkF m 0 #[.val (.ref ob0), .val (.ref ob1), .val (.int (0 : Int32)), .val (.int (4 : Int32)), .val .null, .unset] [])) _
    refine XS.aloadN X0.here hx rfl (hb hby own_d2_0) rfl rfl ?_
    refine st1 _ ?_
    refine XS.iloadN X1.here hx rfl (hb hby own_d2_4) rfl ?_
    refine XS.ifYes X1.here hx rfl (pc0 := 5) (pc' := 27) rfl (hb hby own_d2_5) rfl ((if0 _ _).trans (feq (by decide : ¬ ((4 : Int32) = (0 : Int32)))).2) (by decide) (by decide) ?_
    show Steps p.tables e below (T1.setTop (mkF m 27 #[.val (.ref ob0), .val (.ref ob1), .val (.int (0 : Int32)), .val (.int (4 : Int32)), .val .null, .unset] [])) _
    refine st2 _ ?_
    refine XS.ifNo X2.here hx rfl (hb hby own_d2_30) rfl ((if0 _ _).trans (feq hc3).1) ?_
    refine XS.aloadN X2.here hx rfl (hb hby own_d2_33) rfl rfl ?_
    refine XS.iloadN X2.here hx rfl (hb hby own_d2_34) rfl ?_
    show Steps p.tables e below (T2.setTop (mkF m 35 #[.val (.ref ob0), .val (.ref ob1), .val (.int (0 : Int32)), .val (.int (4 : Int32)), .val .null, .unset] [(.int (0 : Int32)), (.ref ob1)])) _
    refine XS.iloadN X2.here hx rfl (hb hby own_d2_35) rfl ?_
    refine st4 _ ?_
    refine XS.astore X4.here hx rfl (hb hby own_d2_39) rfl rfl (l' := #[.val (.ref ob0), .val (.ref ob1), .val (.int (0 : Int32)), .val (.int (4 : Int32)), .val .null, .val (.ref rb4)]) rfl ?_
    refine XS.aloadN X4.here hx rfl (hb hby own_d2_41) rfl rfl ?_
    show Steps p.tables e below (T4.setTop (mkF m 42 #[.val (.ref ob0), .val (.ref ob1), .val (.int (0 : Int32)), .val (.int (4 : Int32)), .val .null, .val (.ref rb4)] [(.ref ob0)])) _
    refine XS.aload X4.here hx rfl (hb hby own_d2_42) rfl rfl ?_
    refine XS.iloadN X4.here hx rfl (hb hby own_d2_44) rfl ?_
    refine st6 _ ?_
    refine st9 _ ?_
    show Steps p.tables e below (T9.setTop (mkF m 51 #[.val (.ref ob0), .val (.ref ob1), .val (.int (0 : Int32)), .val (.int (4 : Int32)), .val .null, .val (.ref rb4)] [])) _
    refine XS.aloadN X9.here hx rfl (hb hby own_d2_51) rfl rfl ?_
    refine XS.aload X9.here hx rfl (hb hby own_d2_52) rfl rfl ?_
    refine st12 _ ?_
    exact k
  obtain ⟨fs, hrt, hrun, hended, hW, hsame⟩ := X12.leave (v := none) (fun _ => rfl)
  have f14 := (f10.wr W12)
  have f15 := (Fw9.other W12 (Or.inr (slot_ne (own_la1 hw) (own_la0 hw) (by decide) own_ty1 own_ty0)))
  have f16 := ((Va4.other W9 (Ne.symm ne_ob0_rb4)).other W12 (Ne.symm ne_ob0_rb4))
  refine ⟨_, _, g13 _ ?_, hrun, hended, _, _, rfl, ?_, ⟨_, rfl⟩, hW, hsame.mono (by decide) (by decide)⟩
  · show Steps p.tables e below (T12.setTop (mkF m 57 #[.val (.ref ob0), .val (.ref ob1), .val (.int (0 : Int32)), .val (.int (4 : Int32)), .val .null, .val (.ref rb4)] [])) _
    exact X12.returnOut hx Bd.returns (hb hby own_d2_57) hrt
  · show own_Q_rmA10 Z ob0 ob1 k_ob1 ob1_0 ob1_1 ob1_2 ob1_3 cs wf h0 n0 _ T12.heap _
    rw [e12]
    exact ⟨rfl, N12, (Keep.wr (Keep.wr (Keep.trans (Keep.refl h0 [ob0]) K4 all0) W9 (Or.inl (List.mem_of_getElem? (i := 0) rfl))) W12 (Or.inl (List.mem_of_getElem? (i := 0) rfl))), rb4, _, sz_rb4, f14, f15, Fw12, f16⟩
theorem own_pd11 : parseMethodDescriptor "([CIILjava/lang/Void;)V" = some ⟨[(.array .char), .int, .int, (.object "java/lang/Void")], none⟩ := by decide +kernel
theorem own_d1_9 : decode jdk_42_method_3_code 9 = .ok (.return_, 1) := by decide +kernel
def own_Q_rmA9 (Z : State) (ob0 : Addr) (ob1 : Addr) (k_ob1 : ClassId) (ob1_0 : Int32) (ob1_1 : Int32) (ob1_2 : Int32) (ob1_3 : Int32)  (cs : Int32) (wf : Value) (h0 : Heap) (n0 : Nat) (v : Option Value) (h : Heap) (L : List Loc) : Prop := v = none ∧ Fr n0 L ∧ Keep h0 h [ob0] ∧ ∃ rb : Addr, ∃ rk : ClassId, h0.size ≤ rb ∧ Exa Z h ob0 "java/lang/String" ∧ Fld Z h ob0 "java/lang/String" "coder" "B" (.int (0 : Int32)) ∧ Fld Z h ob0 "java/lang/String" "value" "[B" (.ref rb) ∧ Arv Z h rb rk .byte (4 : Int32) [(.int (ob1_0.toInt8.toInt32)), (.int (ob1_1.toInt8.toInt32)), (.int (ob1_2.toInt8.toInt32)), (.int (ob1_3.toInt8.toInt32))] (.int (0 : Int32))
set_option maxRecDepth 65536 in
set_option maxHeartbeats 40000000 in
theorem rmA9 (l : Launch) (Z : State) (a0 : Array Value) (hw : ∀ d ∈ tables_1, d.before a0 Z = true) (ws : List Jvm.Cond) (ob0 : Addr) (ob1 : Addr) (k_ob1 : ClassId) (ob1_0 : Int32) (ob1_1 : Int32) (ob1_2 : Int32) (ob1_3 : Int32)  (cs : Int32) (wf : Value) (h0 : Heap) (n0 : Nat) (O0 : Old Z n0 h0) (G : own_Gl Z cs wf) (E_ob0 : Exa Z h0 ob0 "java/lang/String") (F_ob0_coder : Fld Z h0 ob0 "java/lang/String" "coder" "B" (.int (0 : Int32))) (F_ob0_value : Fld Z h0 ob0 "java/lang/String" "value" "[B" .null) (V_ob1 : Arv Z h0 ob1 k_ob1 .char (4 : Int32) [(.int ob1_0), (.int ob1_1), (.int ob1_2), (.int ob1_3)] (.int (0 : Int32))) (gz_ob0 : n0 ≤ ob0) (hx0 : ¬ ((255 : Int32) < ob1_0)) (hx1 : ¬ ((255 : Int32) < ob1_1)) (hx2 : ¬ ((255 : Int32) < ob1_2)) (hx3 : ¬ ((255 : Int32) < ob1_3)) :
    MetFree l own_y8 (head1 (Jvm.Cond.code own_y8 jdk_42_method_3_code 2 none :: ws) ({ frames := 3, cells := 1, slots := 4, locals := 52 } : Room)) (fun a U => a = #[(.ref ob0), (.ref ob1)] ∧ Z.Warmed39 U.vm ∧ U.heap = h0) (fun _ _ _ _ _ => True) (fun _ U o U' => ∃ v L, o = .returned v ∧ own_Q_rmA9 Z ob0 ob1 k_ob1 ob1_0 ob1_1 ob1_2 ob1_3 cs wf h0 n0 v U'.heap L ∧ FrameEnd U o U' L ({ frames := 3, cells := 1, slots := 4, locals := 52 } : Room).cells ({ frames := 3, cells := 1, slots := 4, locals := 52 } : Room).slots) := by
  refine MetFree.of_bodySF (plainFor_of_name own_pn0) hisR ?_
  intro p e s m args below meth c s₁ Bd hml0 hP hK
  obtain ⟨rfl, hZ, hh⟩ := hP
  have hx := Bd.exec
  have hby := Bd.bytes
  have hml : c.maxLocals = 2 := hml0
  have hown : s.vm.findClass "java/lang/String" = some m.cls := findClass_of_methodNamed Bd.named
  have hnm := (name_of_methodNamed Bd.named Bd.method).1
  have X0 : Stand p l e ({ frames := 3, cells := 1, slots := 4, locals := 52 } : Room) s m #[(.ref ob0), (.ref ob1)] below meth c s₁ [] 0 0 := Stand.of_body Bd
  have e0 : s₁.heap = h0 := by rw [← hh, Bd.state]; rfl
  have N0 := Fr.nil n0
  have Z0 : n0 ≤ h0.size := O0.1 ▸ O0.2.1
  have g0 : ∀ t, Steps p.tables e below (s₁.setTop (mkF m 0 #[.val (.ref ob0), .val (.ref ob1)] [])) t → Steps p.tables e below (s₁.setTop (entryFrame m #[(.ref ob0), (.ref ob1)] 2)) t := fun t k => castTop (own_ef11 m (ob0) (ob1)) k
  have G0 := G
  obtain ⟨S_CS, hcs, S_WF, hwf⟩ := G
  obtain ⟨c1, Ar1, cq1, S1, Nn1, Hh1, Gg1⟩ := id V_ob1
  obtain ⟨_, _, ⟨T2, L2, k2, n2⟩, -, X2, ⟨Lc2, hQ2, l2, y2, z2⟩, st2⟩ := X0.specialBack hx (y := own_y9) rfl hown (mvT hZ (own_w hw 7 rfl)) (mvT hZ (own_w hw 8 rfl)) (mvT hZ (own_w hw 10 rfl)) (by decide) (backOf (W := 0) (rmA10 l Z a0 hw [] ob0 ob1 k_ob1 (ob1_0) (ob1_1) (ob1_2) (ob1_3)  cs wf h0 n0 O0 G0 E_ob0 F_ob0_coder F_ob0_value V_ob1 gz_ob0 hx0 hx1 hx2 hx3) hZ (own_w hw 10 rfl) (own_w hw 3 rfl) (by decide) (by decide)) (g := (mkF m 6 #[.val (.ref ob0), .val (.ref ob1)] [.null, (.int (4 : Int32)), (.int (0 : Int32)), (.ref ob1), (.ref ob0)])) rfl (by rw [hml]; rfl) (Steps.refl _) (a := ob0) (argsL := [(.ref ob1), (.int (0 : Int32)), (.int (4 : Int32)), .null]) (rest := []) (lenOf own_pd11 rfl) rfl (by show 2 * 0 + _ ≤ _; exact Nat.le_of_eq rfl) (hb hby own_d1_6) (fun _ _ => ⟨rfl, e0, (by decide : 0 + 1 ≤ _), (by decide : 0 + 4 ≤ _)⟩)
  dsimp only [Pt.U, Pt.locs, Pt.cells, Pt.slots] at X2 l2 y2 z2 st2 hQ2
  subst l2 y2 z2
  obtain ⟨rfl, Nq2, K2, rb2, rk2, hb2, Qe2, Qc2, Qv2, Va2⟩ := hQ2
  have N2 := Fr.app N0 Nq2
  have sz_rb2 : h0.size ≤ rb2 := hb2
  have gz_rb2 : n0 ≤ rb2 := Nat.le_trans Z0 sz_rb2
  have ne_ob0_rb2 : ob0 ≠ rb2 := Nat.ne_of_lt (Nat.lt_of_lt_of_le E_ob0.lt hb2)
  have ne_ob1_rb2 : ob1 ≠ rb2 := Nat.ne_of_lt (Nat.lt_of_lt_of_le V_ob1.lt hb2)
  have g3 : ∀ t, Steps p.tables e below (T2.setTop (mkF m 9 #[.val (.ref ob0), .val (.ref ob1)] [])) t → Steps p.tables e below (s₁.setTop (entryFrame m #[(.ref ob0), (.ref ob1)] 2)) t := by
    intro t k
    refine g0 t ?_
    show Steps p.tables e below (s₁.setTop (mkF m 0 #[.val (.ref ob0), .val (.ref ob1)] [])) _
    refine XS.aloadN X0.here hx rfl (hb hby own_d1_0) rfl rfl ?_
    refine XS.aloadN X0.here hx rfl (hb hby own_d1_1) rfl rfl ?_
    refine XS.iconst X0.here hx rfl (hb hby own_d1_2) ?_
    refine XS.aloadN X0.here hx rfl (hb hby own_d1_3) rfl rfl ?_
    show Steps p.tables e below (s₁.setTop (mkF m 4 #[.val (.ref ob0), .val (.ref ob1)] [(.ref ob1), (.int (0 : Int32)), (.ref ob1), (.ref ob0)])) _
    refine X0.arraylength hx (by rw [e0]; exact Ar1.1) (State.isArrayOf_alike hZ.alike Ar1.2.1) (g := (mkF m 4 #[.val (.ref ob0), .val (.ref ob1)] [(.ref ob1), (.int (0 : Int32)), (.ref ob1), (.ref ob0)])) rfl rfl (hb hby own_d1_4) _ ?_
    rw [len_of S1 Nn1]
    refine XS.aconstNull X0.here hx rfl (hb hby own_d1_5) ?_
    refine st2.trans ?_
    exact k
  obtain ⟨fs, hrt, hrun, hended, hW, hsame⟩ := X2.leave (v := none) (fun _ => rfl)
  refine ⟨_, _, g3 _ ?_, hrun, hended, _, _, rfl, ?_, ⟨_, rfl⟩, hW, hsame.mono (by decide) (by decide)⟩
  · show Steps p.tables e below (T2.setTop (mkF m 9 #[.val (.ref ob0), .val (.ref ob1)] [])) _
    exact X2.returnOut hx Bd.returns (hb hby own_d1_9) hrt
  · show own_Q_rmA9 Z ob0 ob1 k_ob1 ob1_0 ob1_1 ob1_2 ob1_3 cs wf h0 n0 _ T2.heap _
    exact ⟨rfl, N2, (Keep.trans (Keep.refl h0 [ob0]) K2 (allS (Or.inl (List.mem_of_getElem? (i := 0) rfl)) all0)), rb2, _, sz_rb2, Qe2, Qc2, Qv2, Va2⟩
theorem own_pd12 : parseMethodDescriptor "([C)V" = some ⟨[(.array .char)], none⟩ := by decide +kernel
abbrev own_y13 : MethodName := ⟨"com/example/momus/momus/model/FormatSpecifier", "<init>", "(IIZIICI)V"⟩
theorem own_ef16 (m : MethodId) (x0 : Addr) (x1 : Int32) (x2 : Int32) (x3 : Int32) (x4 : Int32) (x5 : Int32) (x6 : Int32) (x7 : Int32) : entryFrame m #[(.ref x0), (.int x1), (.int x2), (.int x3), (.int x4), (.int x5), (.int x6), (.int x7)] 8 = mkF m 0 #[.val (.ref x0), .val (.int x1), .val (.int x2), .val (.int x3), .val (.int x4), .val (.int x5), .val (.int x6), .val (.int x7)] [] := by first | (simp [entryFrame, mkF, argsToLocals, Value.category]; done) | rfl
theorem own_pn5 : plainName "com/example/momus/momus/model/FormatSpecifier" = true := by first | (simp [plainName, overriddenIn]; done) | decide +kernel
theorem own_d7_0 : decode prog_42_method_1_code 0 = .ok (.aload_n 0, 1) := by decide +kernel
theorem own_d7_1 : decode prog_42_method_1_code 1 = .ok (.invokespecial 1, 3) := by decide +kernel
abbrev own_y14 : MethodName := ⟨"java/lang/Record", "<init>", "()V"⟩
theorem own_ef17 (m : MethodId) (x0 : Addr) : entryFrame m #[(.ref x0)] 1 = mkF m 0 #[.val (.ref x0)] [] := by first | (simp [entryFrame, mkF, argsToLocals, Value.category]; done) | rfl
theorem own_pn6 : plainName "java/lang/Record" = true := by first | (simp [plainName, overriddenIn]; done) | decide +kernel
theorem own_d8_0 : decode jdk_30_method_1_code 0 = .ok (.aload_n 0, 1) := by decide +kernel
theorem own_d8_1 : decode jdk_30_method_1_code 1 = .ok (.invokespecial 1, 3) := by decide +kernel
theorem own_d8_4 : decode jdk_30_method_1_code 4 = .ok (.return_, 1) := by decide +kernel
def own_Q_rmA15 (Z : State) (ob0 : Addr)  (cs : Int32) (wf : Value) (h0 : Heap) (n0 : Nat) (v : Option Value) (h : Heap) (L : List Loc) : Prop := v = none ∧ Fr n0 L ∧ h = h0
set_option maxRecDepth 65536 in
set_option maxHeartbeats 40000000 in
theorem rmA15 (l : Launch) (Z : State) (a0 : Array Value) (hw : ∀ d ∈ tables_1, d.before a0 Z = true) (ws : List Jvm.Cond) (ob0 : Addr)  (cs : Int32) (wf : Value) (h0 : Heap) (n0 : Nat) (O0 : Old Z n0 h0) (G : own_Gl Z cs wf) (E_ob0 : Exa Z h0 ob0 "com/example/momus/momus/model/FormatSpecifier") (F_ob0_conversion : Fld Z h0 ob0 "com/example/momus/momus/model/FormatSpecifier" "conversion" "C" (.int (0 : Int32))) (F_ob0_end : Fld Z h0 ob0 "com/example/momus/momus/model/FormatSpecifier" "end" "I" (.int (0 : Int32))) (F_ob0_index : Fld Z h0 ob0 "com/example/momus/momus/model/FormatSpecifier" "index" "I" (.int (0 : Int32))) (F_ob0_precision : Fld Z h0 ob0 "com/example/momus/momus/model/FormatSpecifier" "precision" "I" (.int (0 : Int32))) (F_ob0_relative : Fld Z h0 ob0 "com/example/momus/momus/model/FormatSpecifier" "relative" "Z" (.int (0 : Int32))) (F_ob0_start : Fld Z h0 ob0 "com/example/momus/momus/model/FormatSpecifier" "start" "I" (.int (0 : Int32))) (F_ob0_width : Fld Z h0 ob0 "com/example/momus/momus/model/FormatSpecifier" "width" "I" (.int (0 : Int32))) :
    MetFree l own_y14 (head1 (Jvm.Cond.code own_y14 jdk_30_method_1_code 1 none :: ws) ({ frames := 1, cells := 0, slots := 0, locals := 12 } : Room)) (fun a U => a = #[(.ref ob0)] ∧ Z.Warmed39 U.vm ∧ U.heap = h0) (fun _ _ _ _ _ => True) (fun _ U o U' => ∃ v L, o = .returned v ∧ own_Q_rmA15 Z ob0 cs wf h0 n0 v U'.heap L ∧ FrameEnd U o U' L ({ frames := 1, cells := 0, slots := 0, locals := 12 } : Room).cells ({ frames := 1, cells := 0, slots := 0, locals := 12 } : Room).slots) := by
  refine MetFree.of_bodySF (plainFor_of_name own_pn6) hisR ?_
  intro p e s m args below meth c s₁ Bd hml0 hP hK
  obtain ⟨rfl, hZ, hh⟩ := hP
  have hx := Bd.exec
  have hby := Bd.bytes
  have hml : c.maxLocals = 1 := hml0
  have hown : s.vm.findClass "java/lang/Record" = some m.cls := findClass_of_methodNamed Bd.named
  have hnm := (name_of_methodNamed Bd.named Bd.method).1
  have X0 : Stand p l e ({ frames := 1, cells := 0, slots := 0, locals := 12 } : Room) s m #[(.ref ob0)] below meth c s₁ [] 0 0 := Stand.of_body Bd
  have e0 : s₁.heap = h0 := by rw [← hh, Bd.state]; rfl
  have N0 := Fr.nil n0
  have Z0 : n0 ≤ h0.size := O0.1 ▸ O0.2.1
  have g0 : ∀ t, Steps p.tables e below (s₁.setTop (mkF m 0 #[.val (.ref ob0)] [])) t → Steps p.tables e below (s₁.setTop (entryFrame m #[(.ref ob0)] 1)) t := fun t k => castTop (own_ef17 m (ob0)) k
  have G0 := G
  obtain ⟨S_CS, hcs, S_WF, hwf⟩ := G
  obtain ⟨T1, X1, e1, st1⟩ := initO X0 hx hZ hown (own_w hw 43 rfl) (own_w hw 12 rfl) (own_w hw 13 rfl) e0 (g := (mkF m 1 #[.val (.ref ob0)] [(.ref ob0)])) rfl (by rw [hml]; rfl) rfl (hb hby own_d8_1) (by decide) (W := 0) (by show 2 * 0 + _ ≤ _; exact Nat.le_of_eq rfl) (by decide)
  have g2 : ∀ t, Steps p.tables e below (T1.setTop (mkF m 4 #[.val (.ref ob0)] [])) t → Steps p.tables e below (s₁.setTop (entryFrame m #[(.ref ob0)] 1)) t := by
    intro t k
    refine g0 t ?_
    show Steps p.tables e below (s₁.setTop (mkF m 0 #[.val (.ref ob0)] [])) _
    refine XS.aloadN X0.here hx rfl (hb hby own_d8_0) rfl rfl ?_
    refine st1 _ ?_
    exact k
  obtain ⟨fs, hrt, hrun, hended, hW, hsame⟩ := X1.leave (v := none) (fun _ => rfl)
  refine ⟨_, _, g2 _ ?_, hrun, hended, _, _, rfl, ?_, ⟨_, rfl⟩, hW, hsame.mono (by decide) (by decide)⟩
  · show Steps p.tables e below (T1.setTop (mkF m 4 #[.val (.ref ob0)] [])) _
    exact X1.returnOut hx Bd.returns (hb hby own_d8_4) hrt
  · show own_Q_rmA15 Z ob0 cs wf h0 n0 _ T1.heap _
    rw [e1]
    exact ⟨rfl, N0, rfl⟩
theorem own_pd13 : parseMethodDescriptor "()V" = some ⟨[], none⟩ := by decide +kernel
theorem own_d7_4 : decode prog_42_method_1_code 4 = .ok (.aload_n 0, 1) := by decide +kernel
theorem own_d7_5 : decode prog_42_method_1_code 5 = .ok (.iload_n 1, 1) := by decide +kernel
theorem own_d7_6 : decode prog_42_method_1_code 6 = .ok (.putfield 7, 3) := by decide +kernel
theorem own_d7_9 : decode prog_42_method_1_code 9 = .ok (.aload_n 0, 1) := by decide +kernel
theorem own_d7_10 : decode prog_42_method_1_code 10 = .ok (.iload_n 2, 1) := by decide +kernel
theorem own_d7_11 : decode prog_42_method_1_code 11 = .ok (.putfield 13, 3) := by decide +kernel
theorem own_la2 {Z : State} {a0 : Array Value} (hw : ∀ d ∈ tables_1, d.before a0 Z = true) : Laid Z a0 "com/example/momus/momus/model/FormatSpecifier" "com/example/momus/momus/model/FormatSpecifier" "index" "I" := Or.inr (own_w hw 47 rfl)
theorem own_la3 {Z : State} {a0 : Array Value} (hw : ∀ d ∈ tables_1, d.before a0 Z = true) : Laid Z a0 "com/example/momus/momus/model/FormatSpecifier" "com/example/momus/momus/model/FormatSpecifier" "start" "I" := Or.inr (own_w hw 45 rfl)
theorem own_ty2 : parseFieldDescriptor "I" = some .int := by decide
theorem own_d7_14 : decode prog_42_method_1_code 14 = .ok (.aload_n 0, 1) := by decide +kernel
theorem own_d7_15 : decode prog_42_method_1_code 15 = .ok (.iload_n 3, 1) := by decide +kernel
theorem own_d7_16 : decode prog_42_method_1_code 16 = .ok (.putfield 16, 3) := by decide +kernel
theorem own_la4 {Z : State} {a0 : Array Value} (hw : ∀ d ∈ tables_1, d.before a0 Z = true) : Laid Z a0 "com/example/momus/momus/model/FormatSpecifier" "com/example/momus/momus/model/FormatSpecifier" "relative" "Z" := Or.inr (own_w hw 49 rfl)
theorem own_ty3 : parseFieldDescriptor "Z" = some .boolean := by decide
theorem own_d7_19 : decode prog_42_method_1_code 19 = .ok (.aload_n 0, 1) := by decide +kernel
theorem own_d7_20 : decode prog_42_method_1_code 20 = .ok (.iload 4, 2) := by decide +kernel
theorem own_d7_22 : decode prog_42_method_1_code 22 = .ok (.putfield 20, 3) := by decide +kernel
theorem own_la5 {Z : State} {a0 : Array Value} (hw : ∀ d ∈ tables_1, d.before a0 Z = true) : Laid Z a0 "com/example/momus/momus/model/FormatSpecifier" "com/example/momus/momus/model/FormatSpecifier" "width" "I" := Or.inr (own_w hw 51 rfl)
theorem own_d7_25 : decode prog_42_method_1_code 25 = .ok (.aload_n 0, 1) := by decide +kernel
theorem own_d7_26 : decode prog_42_method_1_code 26 = .ok (.iload 5, 2) := by decide +kernel
theorem own_d7_28 : decode prog_42_method_1_code 28 = .ok (.putfield 23, 3) := by decide +kernel
theorem own_la6 {Z : State} {a0 : Array Value} (hw : ∀ d ∈ tables_1, d.before a0 Z = true) : Laid Z a0 "com/example/momus/momus/model/FormatSpecifier" "com/example/momus/momus/model/FormatSpecifier" "precision" "I" := Or.inr (own_w hw 53 rfl)
theorem own_d7_31 : decode prog_42_method_1_code 31 = .ok (.aload_n 0, 1) := by decide +kernel
theorem own_d7_32 : decode prog_42_method_1_code 32 = .ok (.iload 6, 2) := by decide +kernel
theorem own_d7_34 : decode prog_42_method_1_code 34 = .ok (.putfield 26, 3) := by decide +kernel
theorem own_la7 {Z : State} {a0 : Array Value} (hw : ∀ d ∈ tables_1, d.before a0 Z = true) : Laid Z a0 "com/example/momus/momus/model/FormatSpecifier" "com/example/momus/momus/model/FormatSpecifier" "conversion" "C" := Or.inr (own_w hw 55 rfl)
theorem own_ty4 : parseFieldDescriptor "C" = some .char := by decide
theorem own_d7_37 : decode prog_42_method_1_code 37 = .ok (.aload_n 0, 1) := by decide +kernel
theorem own_d7_38 : decode prog_42_method_1_code 38 = .ok (.iload 7, 2) := by decide +kernel
theorem own_d7_40 : decode prog_42_method_1_code 40 = .ok (.putfield 30, 3) := by decide +kernel
theorem own_la8 {Z : State} {a0 : Array Value} (hw : ∀ d ∈ tables_1, d.before a0 Z = true) : Laid Z a0 "com/example/momus/momus/model/FormatSpecifier" "com/example/momus/momus/model/FormatSpecifier" "end" "I" := Or.inr (own_w hw 57 rfl)
theorem own_d7_43 : decode prog_42_method_1_code 43 = .ok (.return_, 1) := by decide +kernel
def own_Q_rmA14 (Z : State) (ob0 : Addr) (p1 : Int32) (p2 : Int32) (p3 : Int32) (p4 : Int32) (p5 : Int32) (p6 : Int32) (p7 : Int32)  (cs : Int32) (wf : Value) (h0 : Heap) (n0 : Nat) (v : Option Value) (h : Heap) (L : List Loc) : Prop := v = none ∧ Fr n0 L ∧ Keep h0 h [ob0] ∧ Exa Z h ob0 "com/example/momus/momus/model/FormatSpecifier" ∧ Fld Z h ob0 "com/example/momus/momus/model/FormatSpecifier" "start" "I" (.int p1) ∧ Fld Z h ob0 "com/example/momus/momus/model/FormatSpecifier" "end" "I" (.int p7)
set_option maxRecDepth 65536 in
set_option maxHeartbeats 40000000 in
theorem rmA14 (l : Launch) (Z : State) (a0 : Array Value) (hw : ∀ d ∈ tables_1, d.before a0 Z = true) (ws : List Jvm.Cond) (ob0 : Addr) (p1 : Int32) (p2 : Int32) (p3 : Int32) (p4 : Int32) (p5 : Int32) (p6 : Int32) (p7 : Int32)  (cs : Int32) (wf : Value) (h0 : Heap) (n0 : Nat) (O0 : Old Z n0 h0) (G : own_Gl Z cs wf) (E_ob0 : Exa Z h0 ob0 "com/example/momus/momus/model/FormatSpecifier") (F_ob0_conversion : Fld Z h0 ob0 "com/example/momus/momus/model/FormatSpecifier" "conversion" "C" (.int (0 : Int32))) (F_ob0_end : Fld Z h0 ob0 "com/example/momus/momus/model/FormatSpecifier" "end" "I" (.int (0 : Int32))) (F_ob0_index : Fld Z h0 ob0 "com/example/momus/momus/model/FormatSpecifier" "index" "I" (.int (0 : Int32))) (F_ob0_precision : Fld Z h0 ob0 "com/example/momus/momus/model/FormatSpecifier" "precision" "I" (.int (0 : Int32))) (F_ob0_relative : Fld Z h0 ob0 "com/example/momus/momus/model/FormatSpecifier" "relative" "Z" (.int (0 : Int32))) (F_ob0_start : Fld Z h0 ob0 "com/example/momus/momus/model/FormatSpecifier" "start" "I" (.int (0 : Int32))) (F_ob0_width : Fld Z h0 ob0 "com/example/momus/momus/model/FormatSpecifier" "width" "I" (.int (0 : Int32))) (gz_ob0 : n0 ≤ ob0) :
    MetFree l own_y13 (head1 (Jvm.Cond.code own_y13 prog_42_method_1_code 8 none :: ws) ({ frames := 2, cells := 0, slots := 0, locals := 24 } : Room)) (fun a U => a = #[(.ref ob0), (.int p1), (.int p2), (.int p3), (.int p4), (.int p5), (.int p6), (.int p7)] ∧ Z.Warmed39 U.vm ∧ U.heap = h0) (fun _ _ _ _ _ => True) (fun _ U o U' => ∃ v L, o = .returned v ∧ own_Q_rmA14 Z ob0 p1 p2 p3 p4 p5 p6 p7 cs wf h0 n0 v U'.heap L ∧ FrameEnd U o U' L ({ frames := 2, cells := 0, slots := 0, locals := 24 } : Room).cells ({ frames := 2, cells := 0, slots := 0, locals := 24 } : Room).slots) := by
  refine MetFree.of_bodySF (plainFor_of_name own_pn5) hisR ?_
  intro p e s m args below meth c s₁ Bd hml0 hP hK
  obtain ⟨rfl, hZ, hh⟩ := hP
  have hx := Bd.exec
  have hby := Bd.bytes
  have hml : c.maxLocals = 8 := hml0
  have hown : s.vm.findClass "com/example/momus/momus/model/FormatSpecifier" = some m.cls := findClass_of_methodNamed Bd.named
  have hnm := (name_of_methodNamed Bd.named Bd.method).1
  have X0 : Stand p l e ({ frames := 2, cells := 0, slots := 0, locals := 24 } : Room) s m #[(.ref ob0), (.int p1), (.int p2), (.int p3), (.int p4), (.int p5), (.int p6), (.int p7)] below meth c s₁ [] 0 0 := Stand.of_body Bd
  have e0 : s₁.heap = h0 := by rw [← hh, Bd.state]; rfl
  have N0 := Fr.nil n0
  have Z0 : n0 ≤ h0.size := O0.1 ▸ O0.2.1
  have g0 : ∀ t, Steps p.tables e below (s₁.setTop (mkF m 0 #[.val (.ref ob0), .val (.int p1), .val (.int p2), .val (.int p3), .val (.int p4), .val (.int p5), .val (.int p6), .val (.int p7)] [])) t → Steps p.tables e below (s₁.setTop (entryFrame m #[(.ref ob0), (.int p1), (.int p2), (.int p3), (.int p4), (.int p5), (.int p6), (.int p7)] 8)) t := fun t k => castTop (own_ef16 m (ob0) (p1) (p2) (p3) (p4) (p5) (p6) (p7)) k
  have G0 := G
  obtain ⟨S_CS, hcs, S_WF, hwf⟩ := G
  obtain ⟨_, _, ⟨T1, L1, k1, n1⟩, -, X1, ⟨Lc1, hQ1, l1, y1, z1⟩, st1⟩ := X0.specialBack hx (y := own_y14) rfl hown (mvT hZ (own_w hw 38 rfl)) (mvT hZ (own_w hw 39 rfl)) (mvT hZ (own_w hw 42 rfl)) (by decide) (backOf (W := 0) (rmA15 l Z a0 hw [] ob0  cs wf h0 n0 O0 G0 E_ob0 F_ob0_conversion F_ob0_end F_ob0_index F_ob0_precision F_ob0_relative F_ob0_start F_ob0_width  ) hZ (own_w hw 42 rfl) (own_w hw 41 rfl) (by decide) (by decide)) (g := (mkF m 1 #[.val (.ref ob0), .val (.int p1), .val (.int p2), .val (.int p3), .val (.int p4), .val (.int p5), .val (.int p6), .val (.int p7)] [(.ref ob0)])) rfl (by rw [hml]; rfl) (Steps.refl _) (a := ob0) (argsL := []) (rest := []) (lenOf own_pd13 rfl) rfl (by show 2 * 0 + _ ≤ _; exact Nat.le_of_eq rfl) (hb hby own_d7_1) (fun _ _ => ⟨rfl, e0, (by decide : 0 + 0 ≤ _), (by decide : 0 + 0 ≤ _)⟩)
  dsimp only [Pt.U, Pt.locs, Pt.cells, Pt.slots] at X1 l1 y1 z1 st1 hQ1
  subst l1 y1 z1
  obtain ⟨rfl, Nq1, e1⟩ := hQ1
  have N1 := Fr.app N0 Nq1
  obtain ⟨T2, h2, X2, e2, W2, st2⟩ := putF X1 hx hZ hown (host := "") (Or.inl (own_w hw 44 rfl)) Via.refl e1 F_ob0_start E_ob0 (Or.inr ⟨(own_w hw 45 rfl), rfl, hnm⟩) (own_w hw 33 rfl) (ty := .int) (by decide) rfl rfl (g := (mkF m 6 #[.val (.ref ob0), .val (.int p1), .val (.int p2), .val (.int p3), .val (.int p4), .val (.int p5), .val (.int p6), .val (.int p7)] [(.int p1), (.ref ob0)])) rfl rfl (hb hby own_d7_6)
  have Fw2 := F_ob0_start.same W2
  have N2 := Fr.snoc X2 N1 gz_ob0
  have f3 := (E_ob0.wr W2)
  have f4 := (F_ob0_index.other W2 (Or.inr (slot_ne (own_la2 hw) (own_la3 hw) (by decide) own_ty2 own_ty2)))
  obtain ⟨T5, h5, X5, e5, W5, st5⟩ := putF X2 hx hZ hown (host := "") (Or.inl (own_w hw 46 rfl)) Via.refl e2 f4 f3 (Or.inr ⟨(own_w hw 47 rfl), rfl, hnm⟩) (own_w hw 33 rfl) (ty := .int) (by decide) rfl rfl (g := (mkF m 11 #[.val (.ref ob0), .val (.int p1), .val (.int p2), .val (.int p3), .val (.int p4), .val (.int p5), .val (.int p6), .val (.int p7)] [(.int p2), (.ref ob0)])) rfl rfl (hb hby own_d7_11)
  have Fw5 := f4.same W5
  have N5 := Fr.snoc X5 N2 gz_ob0
  have f6 := (f3.wr W5)
  have f7 := ((F_ob0_relative.other W2 (Or.inr (slot_ne (own_la4 hw) (own_la3 hw) (by decide) own_ty3 own_ty2))).other W5 (Or.inr (slot_ne (own_la4 hw) (own_la2 hw) (by decide) own_ty3 own_ty2)))
  obtain ⟨T8, h8, X8, e8, W8, st8⟩ := putFN X5 hx hZ hown (own_w hw 48 rfl) Via.refl e5 f7 f6 (Or.inr ⟨(own_w hw 49 rfl), rfl, hnm⟩) (own_w hw 33 rfl) (ty := .boolean) (v' := (.int (nar .boolean p3))) (by decide) rfl (fits_nar_bool _) (g := (mkF m 16 #[.val (.ref ob0), .val (.int p1), .val (.int p2), .val (.int p3), .val (.int p4), .val (.int p5), .val (.int p6), .val (.int p7)] [(.int p3), (.ref ob0)])) rfl rfl (hb hby own_d7_16)
  have Fw8 := f7.same W8
  have N8 := Fr.snoc X8 N5 gz_ob0
  have f9 := (f6.wr W8)
  have f10 := (((F_ob0_width.other W2 (Or.inr (slot_ne (own_la5 hw) (own_la3 hw) (by decide) own_ty2 own_ty2))).other W5 (Or.inr (slot_ne (own_la5 hw) (own_la2 hw) (by decide) own_ty2 own_ty2))).other W8 (Or.inr (slot_ne (own_la5 hw) (own_la4 hw) (by decide) own_ty2 own_ty3)))
  obtain ⟨T11, h11, X11, e11, W11, st11⟩ := putF X8 hx hZ hown (host := "") (Or.inl (own_w hw 50 rfl)) Via.refl e8 f10 f9 (Or.inr ⟨(own_w hw 51 rfl), rfl, hnm⟩) (own_w hw 33 rfl) (ty := .int) (by decide) rfl rfl (g := (mkF m 22 #[.val (.ref ob0), .val (.int p1), .val (.int p2), .val (.int p3), .val (.int p4), .val (.int p5), .val (.int p6), .val (.int p7)] [(.int p4), (.ref ob0)])) rfl rfl (hb hby own_d7_22)
  have Fw11 := f10.same W11
  have N11 := Fr.snoc X11 N8 gz_ob0
  have f12 := (f9.wr W11)
  have f13 := ((((F_ob0_precision.other W2 (Or.inr (slot_ne (own_la6 hw) (own_la3 hw) (by decide) own_ty2 own_ty2))).other W5 (Or.inr (slot_ne (own_la6 hw) (own_la2 hw) (by decide) own_ty2 own_ty2))).other W8 (Or.inr (slot_ne (own_la6 hw) (own_la4 hw) (by decide) own_ty2 own_ty3))).other W11 (Or.inr (slot_ne (own_la6 hw) (own_la5 hw) (by decide) own_ty2 own_ty2)))
  obtain ⟨T14, h14, X14, e14, W14, st14⟩ := putF X11 hx hZ hown (host := "") (Or.inl (own_w hw 52 rfl)) Via.refl e11 f13 f12 (Or.inr ⟨(own_w hw 53 rfl), rfl, hnm⟩) (own_w hw 33 rfl) (ty := .int) (by decide) rfl rfl (g := (mkF m 28 #[.val (.ref ob0), .val (.int p1), .val (.int p2), .val (.int p3), .val (.int p4), .val (.int p5), .val (.int p6), .val (.int p7)] [(.int p5), (.ref ob0)])) rfl rfl (hb hby own_d7_28)
  have Fw14 := f13.same W14
  have N14 := Fr.snoc X14 N11 gz_ob0
  have f15 := (f12.wr W14)
  have f16 := (((((F_ob0_conversion.other W2 (Or.inr (slot_ne (own_la7 hw) (own_la3 hw) (by decide) own_ty4 own_ty2))).other W5 (Or.inr (slot_ne (own_la7 hw) (own_la2 hw) (by decide) own_ty4 own_ty2))).other W8 (Or.inr (slot_ne (own_la7 hw) (own_la4 hw) (by decide) own_ty4 own_ty3))).other W11 (Or.inr (slot_ne (own_la7 hw) (own_la5 hw) (by decide) own_ty4 own_ty2))).other W14 (Or.inr (slot_ne (own_la7 hw) (own_la6 hw) (by decide) own_ty4 own_ty2)))
  obtain ⟨T17, h17, X17, e17, W17, st17⟩ := putFN X14 hx hZ hown (own_w hw 54 rfl) Via.refl e14 f16 f15 (Or.inr ⟨(own_w hw 55 rfl), rfl, hnm⟩) (own_w hw 33 rfl) (ty := .char) (v' := (.int (nar .char p6))) (by decide) rfl (fits_nar_char _) (g := (mkF m 34 #[.val (.ref ob0), .val (.int p1), .val (.int p2), .val (.int p3), .val (.int p4), .val (.int p5), .val (.int p6), .val (.int p7)] [(.int p6), (.ref ob0)])) rfl rfl (hb hby own_d7_34)
  have Fw17 := f16.same W17
  have N17 := Fr.snoc X17 N14 gz_ob0
  have f18 := (f15.wr W17)
  have f19 := ((((((F_ob0_end.other W2 (Or.inr (slot_ne (own_la8 hw) (own_la3 hw) (by decide) own_ty2 own_ty2))).other W5 (Or.inr (slot_ne (own_la8 hw) (own_la2 hw) (by decide) own_ty2 own_ty2))).other W8 (Or.inr (slot_ne (own_la8 hw) (own_la4 hw) (by decide) own_ty2 own_ty3))).other W11 (Or.inr (slot_ne (own_la8 hw) (own_la5 hw) (by decide) own_ty2 own_ty2))).other W14 (Or.inr (slot_ne (own_la8 hw) (own_la6 hw) (by decide) own_ty2 own_ty2))).other W17 (Or.inr (slot_ne (own_la8 hw) (own_la7 hw) (by decide) own_ty2 own_ty4)))
  obtain ⟨T20, h20, X20, e20, W20, st20⟩ := putF X17 hx hZ hown (host := "") (Or.inl (own_w hw 56 rfl)) Via.refl e17 f19 f18 (Or.inr ⟨(own_w hw 57 rfl), rfl, hnm⟩) (own_w hw 33 rfl) (ty := .int) (by decide) rfl rfl (g := (mkF m 40 #[.val (.ref ob0), .val (.int p1), .val (.int p2), .val (.int p3), .val (.int p4), .val (.int p5), .val (.int p6), .val (.int p7)] [(.int p7), (.ref ob0)])) rfl rfl (hb hby own_d7_40)
  have Fw20 := f19.same W20
  have N20 := Fr.snoc X20 N17 gz_ob0
  have g21 : ∀ t, Steps p.tables e below (T20.setTop (mkF m 43 #[.val (.ref ob0), .val (.int p1), .val (.int p2), .val (.int p3), .val (.int p4), .val (.int p5), .val (.int p6), .val (.int p7)] [])) t → Steps p.tables e below (s₁.setTop (entryFrame m #[(.ref ob0), (.int p1), (.int p2), (.int p3), (.int p4), (.int p5), (.int p6), (.int p7)] 8)) t := by
    intro t k
    refine g0 t ?_
    show Steps p.tables e below (s₁.setTop (mkF m 0 #[.val (.ref ob0), .val (.int p1), .val (.int p2), .val (.int p3), .val (.int p4), .val (.int p5), .val (.int p6), .val (.int p7)] [])) _
    refine XS.aloadN X0.here hx rfl (hb hby own_d7_0) rfl rfl ?_
    refine st1.trans ?_
    refine XS.aloadN X1.here hx rfl (hb hby own_d7_4) rfl rfl ?_
    refine XS.iloadN X1.here hx rfl (hb hby own_d7_5) rfl ?_
    show Steps p.tables e below (T1.setTop (mkF m 6 #[.val (.ref ob0), .val (.int p1), .val (.int p2), .val (.int p3), .val (.int p4), .val (.int p5), .val (.int p6), .val (.int p7)] [(.int p1), (.ref ob0)])) _
    refine st2 _ ?_
    refine XS.aloadN X2.here hx rfl (hb hby own_d7_9) rfl rfl ?_
    refine XS.iloadN X2.here hx rfl (hb hby own_d7_10) rfl ?_
    refine st5 _ ?_
    show Steps p.tables e below (T5.setTop (mkF m 14 #[.val (.ref ob0), .val (.int p1), .val (.int p2), .val (.int p3), .val (.int p4), .val (.int p5), .val (.int p6), .val (.int p7)] [])) _
    refine XS.aloadN X5.here hx rfl (hb hby own_d7_14) rfl rfl ?_
    refine XS.iloadN X5.here hx rfl (hb hby own_d7_15) rfl ?_
    refine st8 _ ?_
    refine XS.aloadN X8.here hx rfl (hb hby own_d7_19) rfl rfl ?_
    show Steps p.tables e below (T8.setTop (mkF m 20 #[.val (.ref ob0), .val (.int p1), .val (.int p2), .val (.int p3), .val (.int p4), .val (.int p5), .val (.int p6), .val (.int p7)] [(.ref ob0)])) _
    refine XS.iload X8.here hx rfl (hb hby own_d7_20) rfl ?_
    refine st11 _ ?_
    refine XS.aloadN X11.here hx rfl (hb hby own_d7_25) rfl rfl ?_
    refine XS.iload X11.here hx rfl (hb hby own_d7_26) rfl ?_
    show Steps p.tables e below (T11.setTop (mkF m 28 #[.val (.ref ob0), .val (.int p1), .val (.int p2), .val (.int p3), .val (.int p4), .val (.int p5), .val (.int p6), .val (.int p7)] [(.int p5), (.ref ob0)])) _
    refine st14 _ ?_
    refine XS.aloadN X14.here hx rfl (hb hby own_d7_31) rfl rfl ?_
    refine XS.iload X14.here hx rfl (hb hby own_d7_32) rfl ?_
    refine st17 _ ?_
    show Steps p.tables e below (T17.setTop (mkF m 37 #[.val (.ref ob0), .val (.int p1), .val (.int p2), .val (.int p3), .val (.int p4), .val (.int p5), .val (.int p6), .val (.int p7)] [])) _
    refine XS.aloadN X17.here hx rfl (hb hby own_d7_37) rfl rfl ?_
    refine XS.iload X17.here hx rfl (hb hby own_d7_38) rfl ?_
    refine st20 _ ?_
    exact k
  obtain ⟨fs, hrt, hrun, hended, hW, hsame⟩ := X20.leave (v := none) (fun _ => rfl)
  have f22 := (f18.wr W20)
  have f23 := ((((((Fw2.other W5 (Or.inr (slot_ne (own_la3 hw) (own_la2 hw) (by decide) own_ty2 own_ty2))).other W8 (Or.inr (slot_ne (own_la3 hw) (own_la4 hw) (by decide) own_ty2 own_ty3))).other W11 (Or.inr (slot_ne (own_la3 hw) (own_la5 hw) (by decide) own_ty2 own_ty2))).other W14 (Or.inr (slot_ne (own_la3 hw) (own_la6 hw) (by decide) own_ty2 own_ty2))).other W17 (Or.inr (slot_ne (own_la3 hw) (own_la7 hw) (by decide) own_ty2 own_ty4))).other W20 (Or.inr (slot_ne (own_la3 hw) (own_la8 hw) (by decide) own_ty2 own_ty2)))
  refine ⟨_, _, g21 _ ?_, hrun, hended, _, _, rfl, ?_, ⟨_, rfl⟩, hW, hsame.mono (by decide) (by decide)⟩
  · show Steps p.tables e below (T20.setTop (mkF m 43 #[.val (.ref ob0), .val (.int p1), .val (.int p2), .val (.int p3), .val (.int p4), .val (.int p5), .val (.int p6), .val (.int p7)] [])) _
    exact X20.returnOut hx Bd.returns (hb hby own_d7_43) hrt
  · show own_Q_rmA14 Z ob0 p1 p2 p3 p4 p5 p6 p7 cs wf h0 n0 _ T20.heap _
    rw [e20]
    exact ⟨rfl, N20, (Keep.wr (Keep.wr (Keep.wr (Keep.wr (Keep.wr (Keep.wr (Keep.wr (Keep.refl h0 [ob0]) W2 (Or.inl (List.mem_of_getElem? (i := 0) rfl))) W5 (Or.inl (List.mem_of_getElem? (i := 0) rfl))) W8 (Or.inl (List.mem_of_getElem? (i := 0) rfl))) W11 (Or.inl (List.mem_of_getElem? (i := 0) rfl))) W14 (Or.inl (List.mem_of_getElem? (i := 0) rfl))) W17 (Or.inl (List.mem_of_getElem? (i := 0) rfl))) W20 (Or.inl (List.mem_of_getElem? (i := 0) rfl))), f22, f23, Fw20⟩
theorem own_pd14 : parseMethodDescriptor "(IIZIICI)V" = some ⟨[.int, .int, .boolean, .int, .int, .char, .int], none⟩ := by decide +kernel
abbrev own_y15 : MethodName := ⟨"com/example/momus/momus/model/FormatSpecifier", "text", "(Ljava/lang/String;)Ljava/lang/String;"⟩
theorem own_ef18 (m : MethodId) (x0 : Addr) (x1 : Addr) : entryFrame m #[(.ref x0), (.ref x1)] 2 = mkF m 0 #[.val (.ref x0), .val (.ref x1)] [] := by first | (simp [entryFrame, mkF, argsToLocals, Value.category]; done) | rfl
theorem own_d9_0 : decode prog_42_method_5_code 0 = .ok (.aload_n 1, 1) := by decide +kernel
theorem own_d9_1 : decode prog_42_method_5_code 1 = .ok (.aload_n 0, 1) := by decide +kernel
theorem own_d9_2 : decode prog_42_method_5_code 2 = .ok (.getfield 7, 3) := by decide +kernel
theorem own_d9_5 : decode prog_42_method_5_code 5 = .ok (.aload_n 0, 1) := by decide +kernel
theorem own_d9_6 : decode prog_42_method_5_code 6 = .ok (.getfield 30, 3) := by decide +kernel
theorem own_d9_9 : decode prog_42_method_5_code 9 = .ok (.invokevirtual 97, 3) := by decide +kernel
abbrev own_y16 : MethodName := ⟨"java/lang/String", "substring", "(II)Ljava/lang/String;"⟩
theorem own_ef19 (m : MethodId) (x0 : Addr) (x1 : Int32) (x2 : Int32) : entryFrame m #[(.ref x0), (.int x1), (.int x2)] 5 = mkF m 0 #[.val (.ref x0), .val (.int x1), .val (.int x2), .unset, .unset] [] := by first | (simp [entryFrame, mkF, argsToLocals, Value.category]; done) | rfl
theorem own_d10_0 : decode jdk_42_method_92_code 0 = .ok (.aload_n 0, 1) := by decide +kernel
theorem own_d10_1 : decode jdk_42_method_92_code 1 = .ok (.invokevirtual 505, 3) := by decide +kernel
theorem own_ef20 (m : MethodId) (x0 : Addr) : entryFrame m #[(.ref x0)] 1 = mkF m 0 #[.val (.ref x0)] [] := by first | (simp [entryFrame, mkF, argsToLocals, Value.category]; done) | rfl
theorem own_ef21 (m : MethodId) (x0 : Addr) : entryFrame m #[(.ref x0)] 1 = mkF m 0 #[.val (.ref x0)] [] := by first | (simp [entryFrame, mkF, argsToLocals, Value.category]; done) | rfl
def own_Q_rmA19 (Z : State) (ob0 : Addr) (ob0_value : Addr) (k_ob0_value : ClassId) (ob0_value_0 : Int32) (ob0_value_1 : Int32) (ob0_value_2 : Int32) (ob0_value_3 : Int32)  (cs : Int32) (wf : Value) (h0 : Heap) (n0 : Nat) (v : Option Value) (h : Heap) (L : List Loc) : Prop := v = some (.int (0 : Int32)) ∧ Fr n0 L ∧ h = h0
set_option maxRecDepth 65536 in
set_option maxHeartbeats 40000000 in
theorem rmA19 (l : Launch) (Z : State) (a0 : Array Value) (hw : ∀ d ∈ tables_1, d.before a0 Z = true) (ws : List Jvm.Cond) (ob0 : Addr) (ob0_value : Addr) (k_ob0_value : ClassId) (ob0_value_0 : Int32) (ob0_value_1 : Int32) (ob0_value_2 : Int32) (ob0_value_3 : Int32)  (cs : Int32) (wf : Value) (h0 : Heap) (n0 : Nat) (O0 : Old Z n0 h0) (G : own_Gl Z cs wf) (E_ob0 : Exa Z h0 ob0 "java/lang/String") (F_ob0_coder : Fld Z h0 ob0 "java/lang/String" "coder" "B" (.int (0 : Int32))) (V_ob0_value : Arv Z h0 ob0_value k_ob0_value .byte (4 : Int32) [(.int ob0_value_0), (.int ob0_value_1), (.int ob0_value_2), (.int ob0_value_3)] (.int (0 : Int32))) (F_ob0_value : Fld Z h0 ob0 "java/lang/String" "value" "[B" (.ref ob0_value)) :
    MetFree l own_y1 (head1 (Jvm.Cond.code own_y1 jdk_42_method_152_code 1 (some .byte) :: ws) ({ frames := 0, cells := 0, slots := 0, locals := 0 } : Room)) (fun a U => a = #[(.ref ob0)] ∧ Z.Warmed39 U.vm ∧ U.heap = h0) (fun _ _ _ _ _ => True) (fun _ U o U' => ∃ v L, o = .returned v ∧ own_Q_rmA19 Z ob0 ob0_value k_ob0_value ob0_value_0 ob0_value_1 ob0_value_2 ob0_value_3 cs wf h0 n0 v U'.heap L ∧ FrameEnd U o U' L ({ frames := 0, cells := 0, slots := 0, locals := 0 } : Room).cells ({ frames := 0, cells := 0, slots := 0, locals := 0 } : Room).slots) := by
  refine MetFree.of_bodySF (plainFor_of_name own_pn0) hisR ?_
  intro p e s m args below meth c s₁ Bd hml0 hP hK
  obtain ⟨rfl, hZ, hh⟩ := hP
  have hx := Bd.exec
  have hby := Bd.bytes
  have hml : c.maxLocals = 1 := hml0
  have hown : s.vm.findClass "java/lang/String" = some m.cls := findClass_of_methodNamed Bd.named
  have hnm := (name_of_methodNamed Bd.named Bd.method).1
  have X0 : Stand p l e ({ frames := 0, cells := 0, slots := 0, locals := 0 } : Room) s m #[(.ref ob0)] below meth c s₁ [] 0 0 := Stand.of_body Bd
  have e0 : s₁.heap = h0 := by rw [← hh, Bd.state]; rfl
  have N0 := Fr.nil n0
  have Z0 : n0 ≤ h0.size := O0.1 ▸ O0.2.1
  have g0 : ∀ t, Steps p.tables e below (s₁.setTop (mkF m 0 #[.val (.ref ob0)] [])) t → Steps p.tables e below (s₁.setTop (entryFrame m #[(.ref ob0)] 1)) t := fun t k => castTop (own_ef21 m (ob0)) k
  have G0 := G
  obtain ⟨S_CS, hcs, S_WF, hwf⟩ := G
  obtain ⟨T1, X1, e1, st1⟩ := getS2 X0 hx hZ hown (host := "") (Or.inl (own_w hw 14 rfl)) Via.refl e0 (S_CS.ext O0.2) (g := (mkF m 0 #[.val (.ref ob0)] [])) rfl (hb hby own_d12_0)
  have hc2 : ¬ (cs = (0 : Int32)) := hcs
  obtain ⟨T3, X3, e3, st3⟩ := getF X1 hx hZ hown (host := "") (Or.inl (own_w hw 26 rfl)) Via.refl e1 F_ob0_coder (g := (mkF m 7 #[.val (.ref ob0)] [(.ref ob0)])) rfl rfl (hb hby own_d12_7)
  have g4 : ∀ t, Steps p.tables e below (T3.setTop (mkF m 14 #[.val (.ref ob0)] [(.int (0 : Int32))])) t → Steps p.tables e below (s₁.setTop (entryFrame m #[(.ref ob0)] 1)) t := by
    intro t k
    refine g0 t ?_
    show Steps p.tables e below (s₁.setTop (mkF m 0 #[.val (.ref ob0)] [])) _
    refine st1 _ ?_
    refine XS.ifNo X1.here hx rfl (hb hby own_d12_3) rfl ((if0 _ _).trans (feq hc2).1) ?_
    refine XS.aloadN X1.here hx rfl (hb hby own_d12_6) rfl rfl ?_
    refine st3 _ ?_
    show Steps p.tables e below (T3.setTop (mkF m 10 #[.val (.ref ob0)] [(.int (0 : Int32))])) _
    refine XS.goto X3.here hx rfl (pc0 := 10) (pc' := 14) rfl (hb hby own_d12_10) (by decide) (by decide) ?_
    exact k
  obtain ⟨fs, hrt, hrun, hended, hW, hsame⟩ := X3.leave (v := some (.int (0 : Int32))) (fun h => by rw [Bd.returns] at h; cases h)
  refine ⟨_, _, g4 _ ?_, hrun, hended, _, _, rfl, ?_, ⟨_, rfl⟩, hW, hsame.mono (by decide) (by decide)⟩
  · show Steps p.tables e below (T3.setTop (mkF m 14 #[.val (.ref ob0)] [(.int (0 : Int32))])) _
    exact retN X3 hx (t := .byte) Bd.returns (by simp) (hb hby own_d12_14) hrt
  · show own_Q_rmA19 Z ob0 ob0_value k_ob0_value ob0_value_0 ob0_value_1 ob0_value_2 ob0_value_3 cs wf h0 n0 _ T3.heap _
    rw [e3]
    exact ⟨rfl, N0, rfl⟩
def own_Q_rmA18 (Z : State) (ob0 : Addr) (ob0_value : Addr) (k_ob0_value : ClassId) (ob0_value_0 : Int32) (ob0_value_1 : Int32) (ob0_value_2 : Int32) (ob0_value_3 : Int32)  (cs : Int32) (wf : Value) (h0 : Heap) (n0 : Nat) (v : Option Value) (h : Heap) (L : List Loc) : Prop := v = some (.int (4 : Int32)) ∧ Fr n0 L ∧ h = h0
set_option maxRecDepth 65536 in
set_option maxHeartbeats 40000000 in
theorem rmA18 (l : Launch) (Z : State) (a0 : Array Value) (hw : ∀ d ∈ tables_1, d.before a0 Z = true) (ws : List Jvm.Cond) (ob0 : Addr) (ob0_value : Addr) (k_ob0_value : ClassId) (ob0_value_0 : Int32) (ob0_value_1 : Int32) (ob0_value_2 : Int32) (ob0_value_3 : Int32)  (cs : Int32) (wf : Value) (h0 : Heap) (n0 : Nat) (O0 : Old Z n0 h0) (G : own_Gl Z cs wf) (E_ob0 : Exa Z h0 ob0 "java/lang/String") (F_ob0_coder : Fld Z h0 ob0 "java/lang/String" "coder" "B" (.int (0 : Int32))) (V_ob0_value : Arv Z h0 ob0_value k_ob0_value .byte (4 : Int32) [(.int ob0_value_0), (.int ob0_value_1), (.int ob0_value_2), (.int ob0_value_3)] (.int (0 : Int32))) (F_ob0_value : Fld Z h0 ob0 "java/lang/String" "value" "[B" (.ref ob0_value)) :
    MetFree l own_y0 (head1 (Jvm.Cond.code own_y0 jdk_42_method_54_code 1 (some .int) :: ws) ({ frames := 1, cells := 0, slots := 0, locals := 13 } : Room)) (fun a U => a = #[(.ref ob0)] ∧ Z.Warmed39 U.vm ∧ U.heap = h0) (fun _ _ _ _ _ => True) (fun _ U o U' => ∃ v L, o = .returned v ∧ own_Q_rmA18 Z ob0 ob0_value k_ob0_value ob0_value_0 ob0_value_1 ob0_value_2 ob0_value_3 cs wf h0 n0 v U'.heap L ∧ FrameEnd U o U' L ({ frames := 1, cells := 0, slots := 0, locals := 13 } : Room).cells ({ frames := 1, cells := 0, slots := 0, locals := 13 } : Room).slots) := by
  refine MetFree.of_bodySF (plainFor_of_name own_pn0) hisR ?_
  intro p e s m args below meth c s₁ Bd hml0 hP hK
  obtain ⟨rfl, hZ, hh⟩ := hP
  have hx := Bd.exec
  have hby := Bd.bytes
  have hml : c.maxLocals = 1 := hml0
  have hown : s.vm.findClass "java/lang/String" = some m.cls := findClass_of_methodNamed Bd.named
  have hnm := (name_of_methodNamed Bd.named Bd.method).1
  have X0 : Stand p l e ({ frames := 1, cells := 0, slots := 0, locals := 13 } : Room) s m #[(.ref ob0)] below meth c s₁ [] 0 0 := Stand.of_body Bd
  have e0 : s₁.heap = h0 := by rw [← hh, Bd.state]; rfl
  have N0 := Fr.nil n0
  have Z0 : n0 ≤ h0.size := O0.1 ▸ O0.2.1
  have g0 : ∀ t, Steps p.tables e below (s₁.setTop (mkF m 0 #[.val (.ref ob0)] [])) t → Steps p.tables e below (s₁.setTop (entryFrame m #[(.ref ob0)] 1)) t := fun t k => castTop (own_ef20 m (ob0)) k
  have G0 := G
  obtain ⟨S_CS, hcs, S_WF, hwf⟩ := G
  obtain ⟨T1, X1, e1, st1⟩ := getF X0 hx hZ hown (host := "") (Or.inl (own_w hw 28 rfl)) Via.refl e0 F_ob0_value (g := (mkF m 1 #[.val (.ref ob0)] [(.ref ob0)])) rfl rfl (hb hby own_d11_1)
  obtain ⟨c2, Ar2, cq2, S2, Nn2, Hh2, Gg2⟩ := id V_ob0_value
  obtain ⟨cq3, kq3, q3a, q3b, q3c⟩ := isOf hZ e1 E_ob0
  obtain ⟨_, _, ⟨T3, L3, k3, n3⟩, -, X3, ⟨Lc3, hQ3, l3, y3, z3⟩, st3⟩ := X1.virtualBack hx (y := own_y1) (z := own_y1) hown (mvT hZ (own_w hw 73 rfl)) (mvT hZ (own_w hw 74 rfl)) (notFace_of_selects (args := #[]) (mvT hZ (own_w hw 76 rfl))) (mvT hZ (own_w hw 76 rfl)) (mvT hZ (own_w hw 75 rfl)) (by decide) (backOf (W := 1) (rmA19 l Z a0 hw [] ob0 ob0_value k_ob0_value (ob0_value_0) (ob0_value_1) (ob0_value_2) (ob0_value_3)  cs wf h0 n0 O0 G0 E_ob0 F_ob0_coder V_ob0_value F_ob0_value  ) hZ (own_w hw 77 rfl) (own_w hw 3 rfl) (by decide) (by decide)) q3a q3c (g := (mkF m 6 #[.val (.ref ob0)] [(.ref ob0), (.int (4 : Int32))])) rfl (by rw [hml]; rfl) (Steps.refl _) (argsL := []) (rest := [(.int (4 : Int32))]) (lenOf own_pd0 rfl) rfl (by show 2 * 0 + _ ≤ _; exact Nat.le_of_eq rfl) (hb hby own_d11_6) (fun _ _ => ⟨rfl, e1, (by decide : 0 + 0 ≤ _), (by decide : 0 + 0 ≤ _)⟩)
  dsimp only [Pt.U, Pt.locs, Pt.cells, Pt.slots] at X3 l3 y3 z3 st3 hQ3
  subst l3 y3 z3
  obtain ⟨rfl, Nq3, e3⟩ := hQ3
  have N3 := Fr.app N0 Nq3
  have g4 : ∀ t, Steps p.tables e below (T3.setTop (mkF m 10 #[.val (.ref ob0)] [(.int (4 : Int32))])) t → Steps p.tables e below (s₁.setTop (entryFrame m #[(.ref ob0)] 1)) t := by
    intro t k
    refine g0 t ?_
    show Steps p.tables e below (s₁.setTop (mkF m 0 #[.val (.ref ob0)] [])) _
    refine XS.aloadN X0.here hx rfl (hb hby own_d11_0) rfl rfl ?_
    refine st1 _ ?_
    show Steps p.tables e below (T1.setTop (mkF m 4 #[.val (.ref ob0)] [(.ref ob0_value)])) _
    refine X1.arraylength hx (by rw [e1]; exact Ar2.1) (State.isArrayOf_alike hZ.alike Ar2.2.1) (g := (mkF m 4 #[.val (.ref ob0)] [(.ref ob0_value)])) rfl rfl (hb hby own_d11_4) _ ?_
    rw [len_of S2 Nn2]
    refine XS.aloadN X1.here hx rfl (hb hby own_d11_5) rfl rfl ?_
    show Steps p.tables e below (T1.setTop (mkF m 6 #[.val (.ref ob0)] [(.ref ob0), (.int (4 : Int32))])) _
    refine st3.trans ?_
    show Steps p.tables e below (T3.setTop (mkF m 9 #[.val (.ref ob0)] [(.int (0 : Int32)), (.int (4 : Int32))])) _
    refine XS.ishr X3.here hx rfl (hb hby own_d11_9) rfl ?_
    rw [show ((4 : Int32) >>> ((0 : Int32) &&& 31)) = (4 : Int32) from by decide]
    exact k
  obtain ⟨fs, hrt, hrun, hended, hW, hsame⟩ := X3.leave (v := some (.int (4 : Int32))) (fun h => by rw [Bd.returns] at h; cases h)
  refine ⟨_, _, g4 _ ?_, hrun, hended, _, _, rfl, ?_, ⟨_, rfl⟩, hW, hsame.mono (by decide) (by decide)⟩
  · show Steps p.tables e below (T3.setTop (mkF m 10 #[.val (.ref ob0)] [(.int (4 : Int32))])) _
    exact retI X3 hx Bd.returns (hb hby own_d11_10) hrt
  · show own_Q_rmA18 Z ob0 ob0_value k_ob0_value ob0_value_0 ob0_value_1 ob0_value_2 ob0_value_3 cs wf h0 n0 _ T3.heap _
    rw [e3]
    exact ⟨rfl, N3, rfl⟩
theorem own_d10_4 : decode jdk_42_method_92_code 4 = .ok (.istore_n 3, 1) := by decide +kernel
theorem own_d10_5 : decode jdk_42_method_92_code 5 = .ok (.iload_n 1, 1) := by decide +kernel
theorem own_d10_6 : decode jdk_42_method_92_code 6 = .ok (.iload_n 2, 1) := by decide +kernel
theorem own_d10_7 : decode jdk_42_method_92_code 7 = .ok (.iload_n 3, 1) := by decide +kernel
theorem own_d10_8 : decode jdk_42_method_92_code 8 = .ok (.invokestatic 521, 3) := by decide +kernel
abbrev own_y17 : MethodName := ⟨"java/lang/String", "checkBoundsBeginEnd", "(III)V"⟩
theorem own_ef22 (m : MethodId) (x0 : Int32) (x1 : Int32) (x2 : Int32) : entryFrame m #[(.int x0), (.int x1), (.int x2)] 3 = mkF m 0 #[.val (.int x0), .val (.int x1), .val (.int x2)] [] := by first | (simp [entryFrame, mkF, argsToLocals, Value.category]; done) | rfl
theorem own_d13_0 : decode jdk_42_method_158_code 0 = .ok (.iload_n 0, 1) := by decide +kernel
theorem own_d13_1 : decode jdk_42_method_158_code 1 = .ok (.iload_n 1, 1) := by decide +kernel
theorem own_d13_2 : decode jdk_42_method_158_code 2 = .ok (.iload_n 2, 1) := by decide +kernel
theorem own_d13_3 : decode jdk_42_method_158_code 3 = .ok (.getstatic 1053, 3) := by decide +kernel
theorem own_d13_6 : decode jdk_42_method_158_code 6 = .ok (.invokestatic 1062, 3) := by decide +kernel
abbrev own_y18 : MethodName := ⟨"jdk/internal/util/Preconditions", "checkFromToIndex", "(IIILjava/util/function/BiFunction;)I"⟩
theorem own_ef23 (m : MethodId) (x0 : Int32) (x1 : Int32) (x2 : Int32) : entryFrame m #[(.int x0), (.int x1), (.int x2), .null] 4 = mkF m 0 #[.val (.int x0), .val (.int x1), .val (.int x2), .val .null] [] := by first | (simp [entryFrame, mkF, argsToLocals, Value.category]; done) | rfl
theorem own_d14_0 : decode jdk_41_method_12_code 0 = .ok (.iload_n 0, 1) := by decide +kernel
theorem own_d14_1 : decode jdk_41_method_12_code 1 = .ok (.ifCond .lt 13, 3) := by decide +kernel
theorem own_d14_4 : decode jdk_41_method_12_code 4 = .ok (.iload_n 0, 1) := by decide +kernel
theorem own_d14_5 : decode jdk_41_method_12_code 5 = .ok (.iload_n 1, 1) := by decide +kernel
theorem own_d14_6 : decode jdk_41_method_12_code 6 = .ok (.if_icmp .gt 8, 3) := by decide +kernel
theorem own_d14_9 : decode jdk_41_method_12_code 9 = .ok (.iload_n 1, 1) := by decide +kernel
theorem own_d14_10 : decode jdk_41_method_12_code 10 = .ok (.iload_n 2, 1) := by decide +kernel
theorem own_d14_11 : decode jdk_41_method_12_code 11 = .ok (.if_icmp .le 11, 3) := by decide +kernel
theorem own_d14_22 : decode jdk_41_method_12_code 22 = .ok (.iload_n 0, 1) := by decide +kernel
theorem own_d14_23 : decode jdk_41_method_12_code 23 = .ok (.ireturn, 1) := by decide +kernel
def own_Q_rmA21 (Z : State) (p0 : Int32) (p1 : Int32) (p2 : Int32)  (cs : Int32) (wf : Value) (h0 : Heap) (n0 : Nat) (v : Option Value) (h : Heap) (L : List Loc) : Prop := v = some (.int p0) ∧ Fr n0 L ∧ h = h0
set_option maxRecDepth 65536 in
set_option maxHeartbeats 40000000 in
theorem rmA21 (l : Launch) (Z : State) (a0 : Array Value) (hw : ∀ d ∈ tables_1, d.before a0 Z = true) (ws : List Jvm.Cond) (p0 : Int32) (p1 : Int32) (p2 : Int32)  (cs : Int32) (wf : Value) (h0 : Heap) (n0 : Nat) (O0 : Old Z n0 h0) (G : own_Gl Z cs wf) (hb1 : ¬ (p0 < (0 : Int32))) (hb2 : ¬ (p1 < p0)) (hb3 : ¬ (p2 < p1)) :
    MetFree l own_y18 (head1 (Jvm.Cond.code own_y18 jdk_41_method_12_code 4 (some .int) :: ws) ({ frames := 0, cells := 0, slots := 0, locals := 0 } : Room)) (fun a U => a = #[(.int p0), (.int p1), (.int p2), .null] ∧ Z.Warmed39 U.vm ∧ U.heap = h0) (fun _ _ _ _ _ => True) (fun _ U o U' => ∃ v L, o = .returned v ∧ own_Q_rmA21 Z p0 p1 p2 cs wf h0 n0 v U'.heap L ∧ FrameEnd U o U' L ({ frames := 0, cells := 0, slots := 0, locals := 0 } : Room).cells ({ frames := 0, cells := 0, slots := 0, locals := 0 } : Room).slots) := by
  refine MetFree.of_bodySF (plainFor_of_name own_pn3) hisR ?_
  intro p e s m args below meth c s₁ Bd hml0 hP hK
  obtain ⟨rfl, hZ, hh⟩ := hP
  have hx := Bd.exec
  have hby := Bd.bytes
  have hml : c.maxLocals = 4 := hml0
  have hown : s.vm.findClass "jdk/internal/util/Preconditions" = some m.cls := findClass_of_methodNamed Bd.named
  have hnm := (name_of_methodNamed Bd.named Bd.method).1
  have X0 : Stand p l e ({ frames := 0, cells := 0, slots := 0, locals := 0 } : Room) s m #[(.int p0), (.int p1), (.int p2), .null] below meth c s₁ [] 0 0 := Stand.of_body Bd
  have e0 : s₁.heap = h0 := by rw [← hh, Bd.state]; rfl
  have N0 := Fr.nil n0
  have Z0 : n0 ≤ h0.size := O0.1 ▸ O0.2.1
  have g0 : ∀ t, Steps p.tables e below (s₁.setTop (mkF m 0 #[.val (.int p0), .val (.int p1), .val (.int p2), .val .null] [])) t → Steps p.tables e below (s₁.setTop (entryFrame m #[(.int p0), (.int p1), (.int p2), .null] 4)) t := fun t k => castTop (own_ef23 m (p0) (p1) (p2)) k
  have G0 := G
  obtain ⟨S_CS, hcs, S_WF, hwf⟩ := G
  have hc1 : ¬ (p0 < (0 : Int32)) := hb1
  have hc2 : ¬ (p1 < p0) := hb2
  have hc3 : ¬ (p2 < p1) := hb3
  have g4 : ∀ t, Steps p.tables e below (s₁.setTop (mkF m 23 #[.val (.int p0), .val (.int p1), .val (.int p2), .val .null] [(.int p0)])) t → Steps p.tables e below (s₁.setTop (entryFrame m #[(.int p0), (.int p1), (.int p2), .null] 4)) t := by
    intro t k
    refine g0 t ?_
    show Steps p.tables e below (s₁.setTop (mkF m 0 #[.val (.int p0), .val (.int p1), .val (.int p2), .val .null] [])) _
    refine XS.iloadN X0.here hx rfl (hb hby own_d14_0) rfl ?_
    refine XS.ifNo X0.here hx rfl (hb hby own_d14_1) rfl ((if0 _ _).trans (flt hc1).1) ?_
    refine XS.iloadN X0.here hx rfl (hb hby own_d14_4) rfl ?_
    refine XS.iloadN X0.here hx rfl (hb hby own_d14_5) rfl ?_
    show Steps p.tables e below (s₁.setTop (mkF m 6 #[.val (.int p0), .val (.int p1), .val (.int p2), .val .null] [(.int p1), (.int p0)])) _
    refine XS.icmpNo X0.here hx rfl (hb hby own_d14_6) rfl (flt hc2).2.2.1 ?_
    refine XS.iloadN X0.here hx rfl (hb hby own_d14_9) rfl ?_
    refine XS.iloadN X0.here hx rfl (hb hby own_d14_10) rfl ?_
    refine XS.icmpYes X0.here hx rfl (pc0 := 11) (pc' := 22) rfl (hb hby own_d14_11) rfl (flt hc3).2.2.2 (by decide) (by decide) ?_
    show Steps p.tables e below (s₁.setTop (mkF m 22 #[.val (.int p0), .val (.int p1), .val (.int p2), .val .null] [])) _
    refine XS.iloadN X0.here hx rfl (hb hby own_d14_22) rfl ?_
    exact k
  obtain ⟨fs, hrt, hrun, hended, hW, hsame⟩ := X0.leave (v := some (.int p0)) (fun h => by rw [Bd.returns] at h; cases h)
  refine ⟨_, _, g4 _ ?_, hrun, hended, _, _, rfl, ?_, ⟨_, rfl⟩, hW, hsame.mono (by decide) (by decide)⟩
  · show Steps p.tables e below (s₁.setTop (mkF m 23 #[.val (.int p0), .val (.int p1), .val (.int p2), .val .null] [(.int p0)])) _
    exact retI X0 hx Bd.returns (hb hby own_d14_23) hrt
  · show own_Q_rmA21 Z p0 p1 p2 cs wf h0 n0 _ s₁.heap _
    rw [e0]
    exact ⟨rfl, N0, rfl⟩
theorem own_pd15 : parseMethodDescriptor "(IIILjava/util/function/BiFunction;)I" = some ⟨[.int, .int, .int, (.object "java/util/function/BiFunction")], some .int⟩ := by decide +kernel
theorem own_d13_9 : decode jdk_42_method_158_code 9 = .ok (.pop, 1) := by decide +kernel
theorem own_d13_10 : decode jdk_42_method_158_code 10 = .ok (.return_, 1) := by decide +kernel
theorem own_ef24 (m : MethodId) (x0 : Int32) (x1 : Int32) (x2 : Int32) (x3 : Addr) : entryFrame m #[(.int x0), (.int x1), (.int x2), (.ref x3)] 4 = mkF m 0 #[.val (.int x0), .val (.int x1), .val (.int x2), .val (.ref x3)] [] := by first | (simp [entryFrame, mkF, argsToLocals, Value.category]; done) | rfl
def own_Q_rmA22 (Z : State) (p0 : Int32) (p1 : Int32) (p2 : Int32) (ob3 : Addr)  (cs : Int32) (wf : Value) (h0 : Heap) (n0 : Nat) (v : Option Value) (h : Heap) (L : List Loc) : Prop := v = some (.int p0) ∧ Fr n0 L ∧ h = h0
set_option maxRecDepth 65536 in
set_option maxHeartbeats 40000000 in
theorem rmA22 (l : Launch) (Z : State) (a0 : Array Value) (hw : ∀ d ∈ tables_1, d.before a0 Z = true) (ws : List Jvm.Cond) (p0 : Int32) (p1 : Int32) (p2 : Int32) (ob3 : Addr)  (cs : Int32) (wf : Value) (h0 : Heap) (n0 : Nat) (O0 : Old Z n0 h0) (G : own_Gl Z cs wf) (hb1 : ¬ (p0 < (0 : Int32))) (hb2 : ¬ (p1 < p0)) (hb3 : ¬ (p2 < p1)) :
    MetFree l own_y18 (head1 (Jvm.Cond.code own_y18 jdk_41_method_12_code 4 (some .int) :: ws) ({ frames := 0, cells := 0, slots := 0, locals := 0 } : Room)) (fun a U => a = #[(.int p0), (.int p1), (.int p2), (.ref ob3)] ∧ Z.Warmed39 U.vm ∧ U.heap = h0) (fun _ _ _ _ _ => True) (fun _ U o U' => ∃ v L, o = .returned v ∧ own_Q_rmA22 Z p0 p1 p2 ob3 cs wf h0 n0 v U'.heap L ∧ FrameEnd U o U' L ({ frames := 0, cells := 0, slots := 0, locals := 0 } : Room).cells ({ frames := 0, cells := 0, slots := 0, locals := 0 } : Room).slots) := by
  refine MetFree.of_bodySF (plainFor_of_name own_pn3) hisR ?_
  intro p e s m args below meth c s₁ Bd hml0 hP hK
  obtain ⟨rfl, hZ, hh⟩ := hP
  have hx := Bd.exec
  have hby := Bd.bytes
  have hml : c.maxLocals = 4 := hml0
  have hown : s.vm.findClass "jdk/internal/util/Preconditions" = some m.cls := findClass_of_methodNamed Bd.named
  have hnm := (name_of_methodNamed Bd.named Bd.method).1
  have X0 : Stand p l e ({ frames := 0, cells := 0, slots := 0, locals := 0 } : Room) s m #[(.int p0), (.int p1), (.int p2), (.ref ob3)] below meth c s₁ [] 0 0 := Stand.of_body Bd
  have e0 : s₁.heap = h0 := by rw [← hh, Bd.state]; rfl
  have N0 := Fr.nil n0
  have Z0 : n0 ≤ h0.size := O0.1 ▸ O0.2.1
  have g0 : ∀ t, Steps p.tables e below (s₁.setTop (mkF m 0 #[.val (.int p0), .val (.int p1), .val (.int p2), .val (.ref ob3)] [])) t → Steps p.tables e below (s₁.setTop (entryFrame m #[(.int p0), (.int p1), (.int p2), (.ref ob3)] 4)) t := fun t k => castTop (own_ef24 m (p0) (p1) (p2) (ob3)) k
  have G0 := G
  obtain ⟨S_CS, hcs, S_WF, hwf⟩ := G
  have hc1 : ¬ (p0 < (0 : Int32)) := hb1
  have hc2 : ¬ (p1 < p0) := hb2
  have hc3 : ¬ (p2 < p1) := hb3
  have g4 : ∀ t, Steps p.tables e below (s₁.setTop (mkF m 23 #[.val (.int p0), .val (.int p1), .val (.int p2), .val (.ref ob3)] [(.int p0)])) t → Steps p.tables e below (s₁.setTop (entryFrame m #[(.int p0), (.int p1), (.int p2), (.ref ob3)] 4)) t := by
    intro t k
    refine g0 t ?_
    show Steps p.tables e below (s₁.setTop (mkF m 0 #[.val (.int p0), .val (.int p1), .val (.int p2), .val (.ref ob3)] [])) _
    refine XS.iloadN X0.here hx rfl (hb hby own_d14_0) rfl ?_
    refine XS.ifNo X0.here hx rfl (hb hby own_d14_1) rfl ((if0 _ _).trans (flt hc1).1) ?_
    refine XS.iloadN X0.here hx rfl (hb hby own_d14_4) rfl ?_
    refine XS.iloadN X0.here hx rfl (hb hby own_d14_5) rfl ?_
    show Steps p.tables e below (s₁.setTop (mkF m 6 #[.val (.int p0), .val (.int p1), .val (.int p2), .val (.ref ob3)] [(.int p1), (.int p0)])) _
    refine XS.icmpNo X0.here hx rfl (hb hby own_d14_6) rfl (flt hc2).2.2.1 ?_
    refine XS.iloadN X0.here hx rfl (hb hby own_d14_9) rfl ?_
    refine XS.iloadN X0.here hx rfl (hb hby own_d14_10) rfl ?_
    refine XS.icmpYes X0.here hx rfl (pc0 := 11) (pc' := 22) rfl (hb hby own_d14_11) rfl (flt hc3).2.2.2 (by decide) (by decide) ?_
    show Steps p.tables e below (s₁.setTop (mkF m 22 #[.val (.int p0), .val (.int p1), .val (.int p2), .val (.ref ob3)] [])) _
    refine XS.iloadN X0.here hx rfl (hb hby own_d14_22) rfl ?_
    exact k
  obtain ⟨fs, hrt, hrun, hended, hW, hsame⟩ := X0.leave (v := some (.int p0)) (fun h => by rw [Bd.returns] at h; cases h)
  refine ⟨_, _, g4 _ ?_, hrun, hended, _, _, rfl, ?_, ⟨_, rfl⟩, hW, hsame.mono (by decide) (by decide)⟩
  · show Steps p.tables e below (s₁.setTop (mkF m 23 #[.val (.int p0), .val (.int p1), .val (.int p2), .val (.ref ob3)] [(.int p0)])) _
    exact retI X0 hx Bd.returns (hb hby own_d14_23) hrt
  · show own_Q_rmA22 Z p0 p1 p2 ob3 cs wf h0 n0 _ s₁.heap _
    rw [e0]
    exact ⟨rfl, N0, rfl⟩
def own_Q_rmA20 (Z : State) (p0 : Int32) (p1 : Int32) (p2 : Int32)  (cs : Int32) (wf : Value) (h0 : Heap) (n0 : Nat) (v : Option Value) (h : Heap) (L : List Loc) : Prop := v = none ∧ Fr n0 L ∧ h = h0
set_option maxRecDepth 65536 in
set_option maxHeartbeats 40000000 in
theorem rmA20 (l : Launch) (Z : State) (a0 : Array Value) (hw : ∀ d ∈ tables_1, d.before a0 Z = true) (ws : List Jvm.Cond) (p0 : Int32) (p1 : Int32) (p2 : Int32)  (cs : Int32) (wf : Value) (h0 : Heap) (n0 : Nat) (O0 : Old Z n0 h0) (G : own_Gl Z cs wf) (hb1 : ¬ (p0 < (0 : Int32))) (hb2 : ¬ (p1 < p0)) (hb3 : ¬ (p2 < p1)) :
    MetFree l own_y17 (head1 (Jvm.Cond.code own_y17 jdk_42_method_158_code 3 none :: ws) ({ frames := 1, cells := 0, slots := 0, locals := 15 } : Room)) (fun a U => a = #[(.int p0), (.int p1), (.int p2)] ∧ Z.Warmed39 U.vm ∧ U.heap = h0) (fun _ _ _ _ _ => True) (fun _ U o U' => ∃ v L, o = .returned v ∧ own_Q_rmA20 Z p0 p1 p2 cs wf h0 n0 v U'.heap L ∧ FrameEnd U o U' L ({ frames := 1, cells := 0, slots := 0, locals := 15 } : Room).cells ({ frames := 1, cells := 0, slots := 0, locals := 15 } : Room).slots) := by
  refine MetFree.of_bodySF (plainFor_of_name own_pn0) hisR ?_
  intro p e s m args below meth c s₁ Bd hml0 hP hK
  obtain ⟨rfl, hZ, hh⟩ := hP
  have hx := Bd.exec
  have hby := Bd.bytes
  have hml : c.maxLocals = 3 := hml0
  have hown : s.vm.findClass "java/lang/String" = some m.cls := findClass_of_methodNamed Bd.named
  have hnm := (name_of_methodNamed Bd.named Bd.method).1
  have X0 : Stand p l e ({ frames := 1, cells := 0, slots := 0, locals := 15 } : Room) s m #[(.int p0), (.int p1), (.int p2)] below meth c s₁ [] 0 0 := Stand.of_body Bd
  have e0 : s₁.heap = h0 := by rw [← hh, Bd.state]; rfl
  have N0 := Fr.nil n0
  have Z0 : n0 ≤ h0.size := O0.1 ▸ O0.2.1
  have g0 : ∀ t, Steps p.tables e below (s₁.setTop (mkF m 0 #[.val (.int p0), .val (.int p1), .val (.int p2)] [])) t → Steps p.tables e below (s₁.setTop (entryFrame m #[(.int p0), (.int p1), (.int p2)] 3)) t := fun t k => castTop (own_ef22 m (p0) (p1) (p2)) k
  have G0 := G
  obtain ⟨S_CS, hcs, S_WF, hwf⟩ := G
  obtain ⟨T1, X1, e1, st1⟩ := getS2 X0 hx hZ hown (host := "") (Or.inl (own_w hw 81 rfl)) Via.refl e0 (S_WF.ext O0.2) (g := (mkF m 3 #[.val (.int p0), .val (.int p1), .val (.int p2)] [(.int p2), (.int p1), (.int p0)])) rfl (hb hby own_d13_3)
  have g2 : ∀ t, Steps p.tables e below (T1.setTop (mkF m 6 #[.val (.int p0), .val (.int p1), .val (.int p2)] [wf, (.int p2), (.int p1), (.int p0)])) t → Steps p.tables e below (s₁.setTop (entryFrame m #[(.int p0), (.int p1), (.int p2)] 3)) t := by
    intro t k
    refine g0 t ?_
    show Steps p.tables e below (s₁.setTop (mkF m 0 #[.val (.int p0), .val (.int p1), .val (.int p2)] [])) _
    refine XS.iloadN X0.here hx rfl (hb hby own_d13_0) rfl ?_
    refine XS.iloadN X0.here hx rfl (hb hby own_d13_1) rfl ?_
    refine XS.iloadN X0.here hx rfl (hb hby own_d13_2) rfl ?_
    refine st1 _ ?_
    exact k
  rcases hwf with hwf1 | ⟨xf, hwf1⟩
  · skip
    obtain ⟨_, _, ⟨T3, L3, k3, n3⟩, -, X3, ⟨Lc3, hQ3, l3, y3, z3⟩, st3⟩ := Jvm.LawKit.callS X1 hx (y := own_y18) hown (mvT hZ (own_w hw 83 rfl)) (mvT hZ (own_w hw 84 rfl)) (mvT hZ (own_w hw 82 rfl)) (mvT hZ (own_w hw 85 rfl)) (by decide) (backOf (W := 0) (rmA21 l Z a0 hw [] (p0) (p1) (p2)  cs wf h0 n0 O0 G0   hb1 hb2 hb3) hZ (own_w hw 85 rfl) (own_w hw 82 rfl) (by decide) (by decide)) (g := (mkF m 6 #[.val (.int p0), .val (.int p1), .val (.int p2)] [.null, (.int p2), (.int p1), (.int p0)])) rfl (by rw [hml]; rfl) (argsL := [(.int p0), (.int p1), (.int p2), .null]) (rest := []) (lenOf own_pd15 rfl) rfl (by show 2 * 0 + _ ≤ _; exact Nat.le_of_eq rfl) (hb hby own_d13_6) (fun _ _ => ⟨rfl, e1, (by decide : 0 + 0 ≤ _), (by decide : 0 + 0 ≤ _)⟩)
    dsimp only [Pt.U, Pt.locs, Pt.cells, Pt.slots] at X3 l3 y3 z3 st3 hQ3
    subst l3 y3 z3
    obtain ⟨rfl, Nq3, e3⟩ := hQ3
    have N3 := Fr.app N0 Nq3
    have g4 : ∀ t, Steps p.tables e below (T3.setTop (mkF m 10 #[.val (.int p0), .val (.int p1), .val (.int p2)] [])) t → Steps p.tables e below (s₁.setTop (entryFrame m #[(.int p0), (.int p1), (.int p2)] 3)) t := by
      intro t k
      refine g2 t ?_
      show Steps p.tables e below (T1.setTop (mkF m 6 #[.val (.int p0), .val (.int p1), .val (.int p2)] [wf, (.int p2), (.int p1), (.int p0)])) _
      rw [hwf1]
      show Steps p.tables e below (T1.setTop (mkF m 6 #[.val (.int p0), .val (.int p1), .val (.int p2)] [.null, (.int p2), (.int p1), (.int p0)])) _
      refine st3 _ ?_
      refine XS.pop X3.here hx rfl (hb hby own_d13_9) rfl rfl ?_
      exact k
    obtain ⟨fs, hrt, hrun, hended, hW, hsame⟩ := X3.leave (v := none) (fun _ => rfl)
    refine ⟨_, _, g4 _ ?_, hrun, hended, _, _, rfl, ?_, ⟨_, rfl⟩, hW, hsame.mono (by decide) (by decide)⟩
    · show Steps p.tables e below (T3.setTop (mkF m 10 #[.val (.int p0), .val (.int p1), .val (.int p2)] [])) _
      exact X3.returnOut hx Bd.returns (hb hby own_d13_10) hrt
    · show own_Q_rmA20 Z p0 p1 p2 cs wf h0 n0 _ T3.heap _
      rw [e3]
      exact ⟨rfl, N3, rfl⟩
  · skip
    obtain ⟨_, _, ⟨T5, L5, k5, n5⟩, -, X5, ⟨Lc5, hQ5, l5, y5, z5⟩, st5⟩ := Jvm.LawKit.callS X1 hx (y := own_y18) hown (mvT hZ (own_w hw 83 rfl)) (mvT hZ (own_w hw 84 rfl)) (mvT hZ (own_w hw 82 rfl)) (mvT hZ (own_w hw 85 rfl)) (by decide) (backOf (W := 0) (rmA22 l Z a0 hw [] (p0) (p1) (p2) xf  cs wf h0 n0 O0 G0   hb1 hb2 hb3) hZ (own_w hw 85 rfl) (own_w hw 82 rfl) (by decide) (by decide)) (g := (mkF m 6 #[.val (.int p0), .val (.int p1), .val (.int p2)] [(.ref xf), (.int p2), (.int p1), (.int p0)])) rfl (by rw [hml]; rfl) (argsL := [(.int p0), (.int p1), (.int p2), (.ref xf)]) (rest := []) (lenOf own_pd15 rfl) rfl (by show 2 * 0 + _ ≤ _; exact Nat.le_of_eq rfl) (hb hby own_d13_6) (fun _ _ => ⟨rfl, e1, (by decide : 0 + 0 ≤ _), (by decide : 0 + 0 ≤ _)⟩)
    dsimp only [Pt.U, Pt.locs, Pt.cells, Pt.slots] at X5 l5 y5 z5 st5 hQ5
    subst l5 y5 z5
    obtain ⟨rfl, Nq5, e5⟩ := hQ5
    have N5 := Fr.app N0 Nq5
    have g6 : ∀ t, Steps p.tables e below (T5.setTop (mkF m 10 #[.val (.int p0), .val (.int p1), .val (.int p2)] [])) t → Steps p.tables e below (s₁.setTop (entryFrame m #[(.int p0), (.int p1), (.int p2)] 3)) t := by
      intro t k
      refine g2 t ?_
      show Steps p.tables e below (T1.setTop (mkF m 6 #[.val (.int p0), .val (.int p1), .val (.int p2)] [wf, (.int p2), (.int p1), (.int p0)])) _
      rw [hwf1]
      show Steps p.tables e below (T1.setTop (mkF m 6 #[.val (.int p0), .val (.int p1), .val (.int p2)] [(.ref xf), (.int p2), (.int p1), (.int p0)])) _
      refine st5 _ ?_
      refine XS.pop X5.here hx rfl (hb hby own_d13_9) rfl rfl ?_
      exact k
    obtain ⟨fs, hrt, hrun, hended, hW, hsame⟩ := X5.leave (v := none) (fun _ => rfl)
    refine ⟨_, _, g6 _ ?_, hrun, hended, _, _, rfl, ?_, ⟨_, rfl⟩, hW, hsame.mono (by decide) (by decide)⟩
    · show Steps p.tables e below (T5.setTop (mkF m 10 #[.val (.int p0), .val (.int p1), .val (.int p2)] [])) _
      exact X5.returnOut hx Bd.returns (hb hby own_d13_10) hrt
    · show own_Q_rmA20 Z p0 p1 p2 cs wf h0 n0 _ T5.heap _
      rw [e5]
      exact ⟨rfl, N5, rfl⟩
theorem own_pd16 : parseMethodDescriptor "(III)V" = some ⟨[.int, .int, .int], none⟩ := by decide +kernel
theorem own_d10_11 : decode jdk_42_method_92_code 11 = .ok (.iload_n 1, 1) := by decide +kernel
theorem own_d10_12 : decode jdk_42_method_92_code 12 = .ok (.ifCond .ne 10, 3) := by decide +kernel
theorem own_d10_15 : decode jdk_42_method_92_code 15 = .ok (.iload_n 2, 1) := by decide +kernel
theorem own_d10_16 : decode jdk_42_method_92_code 16 = .ok (.iload_n 3, 1) := by decide +kernel
theorem own_d10_17 : decode jdk_42_method_92_code 17 = .ok (.if_icmp .ne 5, 3) := by decide +kernel
theorem own_d10_20 : decode jdk_42_method_92_code 20 = .ok (.aload_n 0, 1) := by decide +kernel
theorem own_d10_21 : decode jdk_42_method_92_code 21 = .ok (.areturn, 1) := by decide +kernel
def own_Q_rmA17 (Z : State) (ob0 : Addr) (ob0_value : Addr) (k_ob0_value : ClassId) (ob0_value_0 : Int32) (ob0_value_1 : Int32) (ob0_value_2 : Int32) (ob0_value_3 : Int32)  (cs : Int32) (wf : Value) (h0 : Heap) (n0 : Nat) (v : Option Value) (h : Heap) (L : List Loc) : Prop := v = some (.ref ob0) ∧ Fr n0 L ∧ h = h0
set_option maxRecDepth 65536 in
set_option maxHeartbeats 40000000 in
theorem rmA17 (l : Launch) (Z : State) (a0 : Array Value) (hw : ∀ d ∈ tables_1, d.before a0 Z = true) (ws : List Jvm.Cond) (ob0 : Addr) (ob0_value : Addr) (k_ob0_value : ClassId) (ob0_value_0 : Int32) (ob0_value_1 : Int32) (ob0_value_2 : Int32) (ob0_value_3 : Int32)  (cs : Int32) (wf : Value) (h0 : Heap) (n0 : Nat) (O0 : Old Z n0 h0) (G : own_Gl Z cs wf) (E_ob0 : Exa Z h0 ob0 "java/lang/String") (F_ob0_coder : Fld Z h0 ob0 "java/lang/String" "coder" "B" (.int (0 : Int32))) (V_ob0_value : Arv Z h0 ob0_value k_ob0_value .byte (4 : Int32) [(.int ob0_value_0), (.int ob0_value_1), (.int ob0_value_2), (.int ob0_value_3)] (.int (0 : Int32))) (F_ob0_value : Fld Z h0 ob0 "java/lang/String" "value" "[B" (.ref ob0_value)) :
    MetFree l own_y16 (head1 (Jvm.Cond.code own_y16 jdk_42_method_92_code 5 (some (.object "java/lang/String")) :: ws) ({ frames := 2, cells := 0, slots := 0, locals := 29 } : Room)) (fun a U => a = #[(.ref ob0), (.int (0 : Int32)), (.int (4 : Int32))] ∧ Z.Warmed39 U.vm ∧ U.heap = h0) (fun _ _ _ _ _ => True) (fun _ U o U' => ∃ v L, o = .returned v ∧ own_Q_rmA17 Z ob0 ob0_value k_ob0_value ob0_value_0 ob0_value_1 ob0_value_2 ob0_value_3 cs wf h0 n0 v U'.heap L ∧ FrameEnd U o U' L ({ frames := 2, cells := 0, slots := 0, locals := 29 } : Room).cells ({ frames := 2, cells := 0, slots := 0, locals := 29 } : Room).slots) := by
  refine MetFree.of_bodySF (plainFor_of_name own_pn0) hisR ?_
  intro p e s m args below meth c s₁ Bd hml0 hP hK
  obtain ⟨rfl, hZ, hh⟩ := hP
  have hx := Bd.exec
  have hby := Bd.bytes
  have hml : c.maxLocals = 5 := hml0
  have hown : s.vm.findClass "java/lang/String" = some m.cls := findClass_of_methodNamed Bd.named
  have hnm := (name_of_methodNamed Bd.named Bd.method).1
  have X0 : Stand p l e ({ frames := 2, cells := 0, slots := 0, locals := 29 } : Room) s m #[(.ref ob0), (.int (0 : Int32)), (.int (4 : Int32))] below meth c s₁ [] 0 0 := Stand.of_body Bd
  have e0 : s₁.heap = h0 := by rw [← hh, Bd.state]; rfl
  have N0 := Fr.nil n0
  have Z0 : n0 ≤ h0.size := O0.1 ▸ O0.2.1
  have g0 : ∀ t, Steps p.tables e below (s₁.setTop (mkF m 0 #[.val (.ref ob0), .val (.int (0 : Int32)), .val (.int (4 : Int32)), .unset, .unset] [])) t → Steps p.tables e below (s₁.setTop (entryFrame m #[(.ref ob0), (.int (0 : Int32)), (.int (4 : Int32))] 5)) t := fun t k => castTop (own_ef19 m (ob0) ((0 : Int32)) ((4 : Int32))) k
  have G0 := G
  obtain ⟨S_CS, hcs, S_WF, hwf⟩ := G
  obtain ⟨cq1, kq1, q1a, q1b, q1c⟩ := isOf hZ e0 E_ob0
  obtain ⟨_, _, ⟨T1, L1, k1, n1⟩, -, X1, ⟨Lc1, hQ1, l1, y1, z1⟩, st1⟩ := X0.virtualBack hx (y := own_y0) (z := own_y0) hown (mvT hZ (own_w hw 68 rfl)) (mvT hZ (own_w hw 69 rfl)) (notFace_of_selects (args := #[]) (mvT hZ (own_w hw 71 rfl))) (mvT hZ (own_w hw 71 rfl)) (mvT hZ (own_w hw 70 rfl)) (by decide) (backOf (W := 0) (rmA18 l Z a0 hw [] ob0 ob0_value k_ob0_value (ob0_value_0) (ob0_value_1) (ob0_value_2) (ob0_value_3)  cs wf h0 n0 O0 G0 E_ob0 F_ob0_coder V_ob0_value F_ob0_value  ) hZ (own_w hw 72 rfl) (own_w hw 3 rfl) (by decide) (by decide)) q1a q1c (g := (mkF m 1 #[.val (.ref ob0), .val (.int (0 : Int32)), .val (.int (4 : Int32)), .unset, .unset] [(.ref ob0)])) rfl (by rw [hml]; rfl) (Steps.refl _) (argsL := []) (rest := []) (lenOf own_pd1 rfl) rfl (by show 2 * 0 + _ ≤ _; exact Nat.le_of_eq rfl) (hb hby own_d10_1) (fun _ _ => ⟨rfl, e0, (by decide : 0 + 0 ≤ _), (by decide : 0 + 0 ≤ _)⟩)
  dsimp only [Pt.U, Pt.locs, Pt.cells, Pt.slots] at X1 l1 y1 z1 st1 hQ1
  subst l1 y1 z1
  obtain ⟨rfl, Nq1, e1⟩ := hQ1
  have N1 := Fr.app N0 Nq1
  obtain ⟨_, _, ⟨T2, L2, k2, n2⟩, -, X2, ⟨Lc2, hQ2, l2, y2, z2⟩, st2⟩ := Jvm.LawKit.callS X1 hx (y := own_y17) hown (mvT hZ (own_w hw 78 rfl)) (mvT hZ (own_w hw 79 rfl)) (mvT hZ (own_w hw 3 rfl)) (mvT hZ (own_w hw 80 rfl)) (by decide) (backOf (W := 0) (rmA20 l Z a0 hw [] ((0 : Int32)) ((4 : Int32)) ((4 : Int32))  cs wf h0 n0 O0 G0   (by decide) (by decide) (by decide)) hZ (own_w hw 80 rfl) (own_w hw 3 rfl) (by decide) (by decide)) (g := (mkF m 8 #[.val (.ref ob0), .val (.int (0 : Int32)), .val (.int (4 : Int32)), .val (.int (4 : Int32)), .unset] [(.int (4 : Int32)), (.int (4 : Int32)), (.int (0 : Int32))])) rfl (by rw [hml]; rfl) (argsL := [(.int (0 : Int32)), (.int (4 : Int32)), (.int (4 : Int32))]) (rest := []) (lenOf own_pd16 rfl) rfl (by show 2 * 0 + _ ≤ _; exact Nat.le_of_eq rfl) (hb hby own_d10_8) (fun _ _ => ⟨rfl, e1, (by decide : 0 + 0 ≤ _), (by decide : 0 + 0 ≤ _)⟩)
  dsimp only [Pt.U, Pt.locs, Pt.cells, Pt.slots] at X2 l2 y2 z2 st2 hQ2
  subst l2 y2 z2
  obtain ⟨rfl, Nq2, e2⟩ := hQ2
  have N2 := Fr.app N1 Nq2
  have g3 : ∀ t, Steps p.tables e below (T2.setTop (mkF m 21 #[.val (.ref ob0), .val (.int (0 : Int32)), .val (.int (4 : Int32)), .val (.int (4 : Int32)), .unset] [(.ref ob0)])) t → Steps p.tables e below (s₁.setTop (entryFrame m #[(.ref ob0), (.int (0 : Int32)), (.int (4 : Int32))] 5)) t := by
    intro t k
    refine g0 t ?_
    show Steps p.tables e below (s₁.setTop (mkF m 0 #[.val (.ref ob0), .val (.int (0 : Int32)), .val (.int (4 : Int32)), .unset, .unset] [])) _
    refine XS.aloadN X0.here hx rfl (hb hby own_d10_0) rfl rfl ?_
    refine st1.trans ?_
    refine XS.istoreN X1.here hx rfl (hb hby own_d10_4) rfl (l' := #[.val (.ref ob0), .val (.int (0 : Int32)), .val (.int (4 : Int32)), .val (.int (4 : Int32)), .unset]) rfl ?_
    refine XS.iloadN X1.here hx rfl (hb hby own_d10_5) rfl ?_
    show Steps p.tables e below (T1.setTop (mkF m 6 #[.val (.ref ob0), .val (.int (0 : Int32)), .val (.int (4 : Int32)), .val (.int (4 : Int32)), .unset] [(.int (0 : Int32))])) _
    refine XS.iloadN X1.here hx rfl (hb hby own_d10_6) rfl ?_
    refine XS.iloadN X1.here hx rfl (hb hby own_d10_7) rfl ?_
    refine st2 _ ?_
    refine XS.iloadN X2.here hx rfl (hb hby own_d10_11) rfl ?_
    show Steps p.tables e below (T2.setTop (mkF m 12 #[.val (.ref ob0), .val (.int (0 : Int32)), .val (.int (4 : Int32)), .val (.int (4 : Int32)), .unset] [(.int (0 : Int32))])) _
    refine XS.ifNo X2.here hx rfl (hb hby own_d10_12) rfl ((if0 _ _).trans (teq (by decide : (0 : Int32) = (0 : Int32))).2) ?_
    refine XS.iloadN X2.here hx rfl (hb hby own_d10_15) rfl ?_
    refine XS.iloadN X2.here hx rfl (hb hby own_d10_16) rfl ?_
    refine XS.icmpNo X2.here hx rfl (hb hby own_d10_17) rfl (teq (by decide : (4 : Int32) = (4 : Int32))).2 ?_
    show Steps p.tables e below (T2.setTop (mkF m 20 #[.val (.ref ob0), .val (.int (0 : Int32)), .val (.int (4 : Int32)), .val (.int (4 : Int32)), .unset] [])) _
    refine XS.aloadN X2.here hx rfl (hb hby own_d10_20) rfl rfl ?_
    exact k
  obtain ⟨fs, hrt, hrun, hended, hW, hsame⟩ := X2.leave (v := some (.ref ob0)) (fun h => by rw [Bd.returns] at h; cases h)
  refine ⟨_, _, g3 _ ?_, hrun, hended, _, _, rfl, ?_, ⟨_, rfl⟩, hW, hsame.mono (by decide) (by decide)⟩
  · show Steps p.tables e below (T2.setTop (mkF m 21 #[.val (.ref ob0), .val (.int (0 : Int32)), .val (.int (4 : Int32)), .val (.int (4 : Int32)), .unset] [(.ref ob0)])) _
    jvm_step X2.here [X2.here.top, hx, (hb hby own_d10_21), X2.method', Bd.returns, Value.isRef, FieldType.isReference]
    first | (intro acts; rw [hrt _ acts rfl rfl rfl]) | rw [hrt _ _ rfl rfl rfl]
    exact Steps.refl _
  · show own_Q_rmA17 Z ob0 ob0_value k_ob0_value ob0_value_0 ob0_value_1 ob0_value_2 ob0_value_3 cs wf h0 n0 _ T2.heap _
    rw [e2]
    exact ⟨rfl, N2, rfl⟩
theorem own_pd17 : parseMethodDescriptor "(II)Ljava/lang/String;" = some ⟨[.int, .int], some (.object "java/lang/String")⟩ := by decide +kernel
theorem own_d9_12 : decode prog_42_method_5_code 12 = .ok (.areturn, 1) := by decide +kernel
def own_Q_rmA16 (Z : State) (ob0 : Addr) (ob1 : Addr) (ob1_value : Addr) (k_ob1_value : ClassId) (ob1_value_0 : Int32) (ob1_value_1 : Int32) (ob1_value_2 : Int32) (ob1_value_3 : Int32)  (cs : Int32) (wf : Value) (h0 : Heap) (n0 : Nat) (v : Option Value) (h : Heap) (L : List Loc) : Prop := v = some (.ref ob1) ∧ Fr n0 L ∧ h = h0
set_option maxRecDepth 65536 in
set_option maxHeartbeats 40000000 in
theorem rmA16 (l : Launch) (Z : State) (a0 : Array Value) (hw : ∀ d ∈ tables_1, d.before a0 Z = true) (ws : List Jvm.Cond) (ob0 : Addr) (ob1 : Addr) (ob1_value : Addr) (k_ob1_value : ClassId) (ob1_value_0 : Int32) (ob1_value_1 : Int32) (ob1_value_2 : Int32) (ob1_value_3 : Int32)  (cs : Int32) (wf : Value) (h0 : Heap) (n0 : Nat) (O0 : Old Z n0 h0) (G : own_Gl Z cs wf) (E_ob0 : Exa Z h0 ob0 "com/example/momus/momus/model/FormatSpecifier") (F_ob0_end : Fld Z h0 ob0 "com/example/momus/momus/model/FormatSpecifier" "end" "I" (.int (4 : Int32))) (F_ob0_start : Fld Z h0 ob0 "com/example/momus/momus/model/FormatSpecifier" "start" "I" (.int (0 : Int32))) (E_ob1 : Exa Z h0 ob1 "java/lang/String") (F_ob1_coder : Fld Z h0 ob1 "java/lang/String" "coder" "B" (.int (0 : Int32))) (V_ob1_value : Arv Z h0 ob1_value k_ob1_value .byte (4 : Int32) [(.int ob1_value_0), (.int ob1_value_1), (.int ob1_value_2), (.int ob1_value_3)] (.int (0 : Int32))) (F_ob1_value : Fld Z h0 ob1 "java/lang/String" "value" "[B" (.ref ob1_value)) :
    MetFree l own_y15 (head1 (Jvm.Cond.code own_y15 prog_42_method_5_code 2 (some (.object "java/lang/String")) :: ws) ({ frames := 3, cells := 0, slots := 0, locals := 45 } : Room)) (fun a U => a = #[(.ref ob0), (.ref ob1)] ∧ Z.Warmed39 U.vm ∧ U.heap = h0) (fun _ _ _ _ _ => True) (fun _ U o U' => ∃ v L, o = .returned v ∧ own_Q_rmA16 Z ob0 ob1 ob1_value k_ob1_value ob1_value_0 ob1_value_1 ob1_value_2 ob1_value_3 cs wf h0 n0 v U'.heap L ∧ FrameEnd U o U' L ({ frames := 3, cells := 0, slots := 0, locals := 45 } : Room).cells ({ frames := 3, cells := 0, slots := 0, locals := 45 } : Room).slots) := by
  refine MetFree.of_bodySF (plainFor_of_name own_pn5) hisR ?_
  intro p e s m args below meth c s₁ Bd hml0 hP hK
  obtain ⟨rfl, hZ, hh⟩ := hP
  have hx := Bd.exec
  have hby := Bd.bytes
  have hml : c.maxLocals = 2 := hml0
  have hown : s.vm.findClass "com/example/momus/momus/model/FormatSpecifier" = some m.cls := findClass_of_methodNamed Bd.named
  have hnm := (name_of_methodNamed Bd.named Bd.method).1
  have X0 : Stand p l e ({ frames := 3, cells := 0, slots := 0, locals := 45 } : Room) s m #[(.ref ob0), (.ref ob1)] below meth c s₁ [] 0 0 := Stand.of_body Bd
  have e0 : s₁.heap = h0 := by rw [← hh, Bd.state]; rfl
  have N0 := Fr.nil n0
  have Z0 : n0 ≤ h0.size := O0.1 ▸ O0.2.1
  have g0 : ∀ t, Steps p.tables e below (s₁.setTop (mkF m 0 #[.val (.ref ob0), .val (.ref ob1)] [])) t → Steps p.tables e below (s₁.setTop (entryFrame m #[(.ref ob0), (.ref ob1)] 2)) t := fun t k => castTop (own_ef18 m (ob0) (ob1)) k
  have G0 := G
  obtain ⟨S_CS, hcs, S_WF, hwf⟩ := G
  obtain ⟨T1, X1, e1, st1⟩ := getF X0 hx hZ hown (host := "") (Or.inl (own_w hw 44 rfl)) Via.refl e0 F_ob0_start (g := (mkF m 2 #[.val (.ref ob0), .val (.ref ob1)] [(.ref ob0), (.ref ob1)])) rfl rfl (hb hby own_d9_2)
  obtain ⟨T2, X2, e2, st2⟩ := getF X1 hx hZ hown (host := "") (Or.inl (own_w hw 56 rfl)) Via.refl e1 F_ob0_end (g := (mkF m 6 #[.val (.ref ob0), .val (.ref ob1)] [(.ref ob0), (.int (0 : Int32)), (.ref ob1)])) rfl rfl (hb hby own_d9_6)
  obtain ⟨cq3, kq3, q3a, q3b, q3c⟩ := isOf hZ e2 E_ob1
  obtain ⟨_, _, ⟨T3, L3, k3, n3⟩, -, X3, ⟨Lc3, hQ3, l3, y3, z3⟩, st3⟩ := X2.virtualBack hx (y := own_y16) (z := own_y16) hown (mvT hZ (own_w hw 63 rfl)) (mvT hZ (own_w hw 64 rfl)) (notFace_of_selects (args := #[]) (mvT hZ (own_w hw 66 rfl))) (mvT hZ (own_w hw 66 rfl)) (mvT hZ (own_w hw 65 rfl)) (by decide) (backOf (W := 0) (rmA17 l Z a0 hw [] ob1 ob1_value k_ob1_value (ob1_value_0) (ob1_value_1) (ob1_value_2) (ob1_value_3)  cs wf h0 n0 O0 G0 E_ob1 F_ob1_coder V_ob1_value F_ob1_value  ) hZ (own_w hw 67 rfl) (own_w hw 3 rfl) (by decide) (by decide)) q3a q3c (g := (mkF m 9 #[.val (.ref ob0), .val (.ref ob1)] [(.int (4 : Int32)), (.int (0 : Int32)), (.ref ob1)])) rfl (by rw [hml]; rfl) (Steps.refl _) (argsL := [(.int (0 : Int32)), (.int (4 : Int32))]) (rest := []) (lenOf own_pd17 rfl) rfl (by show 2 * 0 + _ ≤ _; exact Nat.le_of_eq rfl) (hb hby own_d9_9) (fun _ _ => ⟨rfl, e2, (by decide : 0 + 0 ≤ _), (by decide : 0 + 0 ≤ _)⟩)
  dsimp only [Pt.U, Pt.locs, Pt.cells, Pt.slots] at X3 l3 y3 z3 st3 hQ3
  subst l3 y3 z3
  obtain ⟨rfl, Nq3, e3⟩ := hQ3
  have N3 := Fr.app N0 Nq3
  have g4 : ∀ t, Steps p.tables e below (T3.setTop (mkF m 12 #[.val (.ref ob0), .val (.ref ob1)] [(.ref ob1)])) t → Steps p.tables e below (s₁.setTop (entryFrame m #[(.ref ob0), (.ref ob1)] 2)) t := by
    intro t k
    refine g0 t ?_
    show Steps p.tables e below (s₁.setTop (mkF m 0 #[.val (.ref ob0), .val (.ref ob1)] [])) _
    refine XS.aloadN X0.here hx rfl (hb hby own_d9_0) rfl rfl ?_
    refine XS.aloadN X0.here hx rfl (hb hby own_d9_1) rfl rfl ?_
    refine st1 _ ?_
    refine XS.aloadN X1.here hx rfl (hb hby own_d9_5) rfl rfl ?_
    show Steps p.tables e below (T1.setTop (mkF m 6 #[.val (.ref ob0), .val (.ref ob1)] [(.ref ob0), (.int (0 : Int32)), (.ref ob1)])) _
    refine st2 _ ?_
    refine st3.trans ?_
    exact k
  obtain ⟨fs, hrt, hrun, hended, hW, hsame⟩ := X3.leave (v := some (.ref ob1)) (fun h => by rw [Bd.returns] at h; cases h)
  refine ⟨_, _, g4 _ ?_, hrun, hended, _, _, rfl, ?_, ⟨_, rfl⟩, hW, hsame.mono (by decide) (by decide)⟩
  · show Steps p.tables e below (T3.setTop (mkF m 12 #[.val (.ref ob0), .val (.ref ob1)] [(.ref ob1)])) _
    jvm_step X3.here [X3.here.top, hx, (hb hby own_d9_12), X3.method', Bd.returns, Value.isRef, FieldType.isReference]
    first | (intro acts; rw [hrt _ acts rfl rfl rfl]) | rw [hrt _ _ rfl rfl rfl]
    exact Steps.refl _
  · show own_Q_rmA16 Z ob0 ob1 ob1_value k_ob1_value ob1_value_0 ob1_value_1 ob1_value_2 ob1_value_3 cs wf h0 n0 _ T3.heap _
    rw [e3]
    exact ⟨rfl, N3, rfl⟩
theorem own_pd18 : parseMethodDescriptor "(Ljava/lang/String;)Ljava/lang/String;" = some ⟨[(.object "java/lang/String")], some (.object "java/lang/String")⟩ := by decide +kernel
theorem own_ef25 (m : MethodId) (x0 : Addr) (x1 : Addr) : entryFrame m #[(.ref x0), (.ref x1)] 2 = mkF m 0 #[.val (.ref x0), .val (.ref x1)] [] := by first | (simp [entryFrame, mkF, argsToLocals, Value.category]; done) | rfl
theorem own_ef26 (m : MethodId) (x0 : Addr) (x1 : Int32) (x2 : Int32) : entryFrame m #[(.ref x0), (.int x1), (.int x2)] 5 = mkF m 0 #[.val (.ref x0), .val (.int x1), .val (.int x2), .unset, .unset] [] := by first | (simp [entryFrame, mkF, argsToLocals, Value.category]; done) | rfl
theorem own_d10_22 : decode jdk_42_method_92_code 22 = .ok (.iload_n 2, 1) := by decide +kernel
theorem own_d10_23 : decode jdk_42_method_92_code 23 = .ok (.iload_n 1, 1) := by decide +kernel
theorem own_d10_24 : decode jdk_42_method_92_code 24 = .ok (.isub, 1) := by decide +kernel
theorem own_d10_25 : decode jdk_42_method_92_code 25 = .ok (.istore 4, 2) := by decide +kernel
theorem own_d10_27 : decode jdk_42_method_92_code 27 = .ok (.aload_n 0, 1) := by decide +kernel
theorem own_d10_28 : decode jdk_42_method_92_code 28 = .ok (.invokevirtual 492, 3) := by decide +kernel
theorem own_ef27 (m : MethodId) (x0 : Addr) : entryFrame m #[(.ref x0)] 1 = mkF m 0 #[.val (.ref x0)] [] := by first | (simp [entryFrame, mkF, argsToLocals, Value.category]; done) | rfl
def own_Q_rmA25 (Z : State) (ob0 : Addr) (ob0_value : Addr) (k_ob0_value : ClassId) (ob0_value_0 : Int32) (ob0_value_1 : Int32) (ob0_value_2 : Int32) (ob0_value_3 : Int32)  (cs : Int32) (wf : Value) (h0 : Heap) (n0 : Nat) (v : Option Value) (h : Heap) (L : List Loc) : Prop := v = some (.int (1 : Int32)) ∧ Fr n0 L ∧ h = h0
set_option maxRecDepth 65536 in
set_option maxHeartbeats 40000000 in
theorem rmA25 (l : Launch) (Z : State) (a0 : Array Value) (hw : ∀ d ∈ tables_1, d.before a0 Z = true) (ws : List Jvm.Cond) (ob0 : Addr) (ob0_value : Addr) (k_ob0_value : ClassId) (ob0_value_0 : Int32) (ob0_value_1 : Int32) (ob0_value_2 : Int32) (ob0_value_3 : Int32)  (cs : Int32) (wf : Value) (h0 : Heap) (n0 : Nat) (O0 : Old Z n0 h0) (G : own_Gl Z cs wf) (E_ob0 : Exa Z h0 ob0 "java/lang/String") (F_ob0_coder : Fld Z h0 ob0 "java/lang/String" "coder" "B" (.int (0 : Int32))) (V_ob0_value : Arv Z h0 ob0_value k_ob0_value .byte (4 : Int32) [(.int ob0_value_0), (.int ob0_value_1), (.int ob0_value_2), (.int ob0_value_3)] (.int (0 : Int32))) (F_ob0_value : Fld Z h0 ob0 "java/lang/String" "value" "[B" (.ref ob0_value)) :
    MetFree l own_y4 (head1 (Jvm.Cond.code own_y4 jdk_42_method_154_code 1 (some .boolean) :: ws) ({ frames := 0, cells := 0, slots := 0, locals := 0 } : Room)) (fun a U => a = #[(.ref ob0)] ∧ Z.Warmed39 U.vm ∧ U.heap = h0) (fun _ _ _ _ _ => True) (fun _ U o U' => ∃ v L, o = .returned v ∧ own_Q_rmA25 Z ob0 ob0_value k_ob0_value ob0_value_0 ob0_value_1 ob0_value_2 ob0_value_3 cs wf h0 n0 v U'.heap L ∧ FrameEnd U o U' L ({ frames := 0, cells := 0, slots := 0, locals := 0 } : Room).cells ({ frames := 0, cells := 0, slots := 0, locals := 0 } : Room).slots) := by
  refine MetFree.of_bodySF (plainFor_of_name own_pn0) hisR ?_
  intro p e s m args below meth c s₁ Bd hml0 hP hK
  obtain ⟨rfl, hZ, hh⟩ := hP
  have hx := Bd.exec
  have hby := Bd.bytes
  have hml : c.maxLocals = 1 := hml0
  have hown : s.vm.findClass "java/lang/String" = some m.cls := findClass_of_methodNamed Bd.named
  have hnm := (name_of_methodNamed Bd.named Bd.method).1
  have X0 : Stand p l e ({ frames := 0, cells := 0, slots := 0, locals := 0 } : Room) s m #[(.ref ob0)] below meth c s₁ [] 0 0 := Stand.of_body Bd
  have e0 : s₁.heap = h0 := by rw [← hh, Bd.state]; rfl
  have N0 := Fr.nil n0
  have Z0 : n0 ≤ h0.size := O0.1 ▸ O0.2.1
  have g0 : ∀ t, Steps p.tables e below (s₁.setTop (mkF m 0 #[.val (.ref ob0)] [])) t → Steps p.tables e below (s₁.setTop (entryFrame m #[(.ref ob0)] 1)) t := fun t k => castTop (own_ef27 m (ob0)) k
  have G0 := G
  obtain ⟨S_CS, hcs, S_WF, hwf⟩ := G
  obtain ⟨T1, X1, e1, st1⟩ := getS2 X0 hx hZ hown (host := "") (Or.inl (own_w hw 14 rfl)) Via.refl e0 (S_CS.ext O0.2) (g := (mkF m 0 #[.val (.ref ob0)] [])) rfl (hb hby own_d15_0)
  have hc2 : ¬ (cs = (0 : Int32)) := hcs
  obtain ⟨T3, X3, e3, st3⟩ := getF X1 hx hZ hown (host := "") (Or.inl (own_w hw 26 rfl)) Via.refl e1 F_ob0_coder (g := (mkF m 7 #[.val (.ref ob0)] [(.ref ob0)])) rfl rfl (hb hby own_d15_7)
  have g4 : ∀ t, Steps p.tables e below (T3.setTop (mkF m 18 #[.val (.ref ob0)] [(.int (1 : Int32))])) t → Steps p.tables e below (s₁.setTop (entryFrame m #[(.ref ob0)] 1)) t := by
    intro t k
    refine g0 t ?_
    show Steps p.tables e below (s₁.setTop (mkF m 0 #[.val (.ref ob0)] [])) _
    refine st1 _ ?_
    refine XS.ifNo X1.here hx rfl (hb hby own_d15_3) rfl ((if0 _ _).trans (feq hc2).1) ?_
    refine XS.aloadN X1.here hx rfl (hb hby own_d15_6) rfl rfl ?_
    refine st3 _ ?_
    show Steps p.tables e below (T3.setTop (mkF m 10 #[.val (.ref ob0)] [(.int (0 : Int32))])) _
    refine XS.ifNo X3.here hx rfl (hb hby own_d15_10) rfl ((if0 _ _).trans (teq (by decide : (0 : Int32) = (0 : Int32))).2) ?_
    refine XS.iconst X3.here hx rfl (hb hby own_d15_13) ?_
    refine XS.goto X3.here hx rfl (pc0 := 14) (pc' := 18) rfl (hb hby own_d15_14) (by decide) (by decide) ?_
    exact k
  obtain ⟨fs, hrt, hrun, hended, hW, hsame⟩ := X3.leave (v := some (.int (1 : Int32))) (fun h => by rw [Bd.returns] at h; cases h)
  refine ⟨_, _, g4 _ ?_, hrun, hended, _, _, rfl, ?_, ⟨_, rfl⟩, hW, hsame.mono (by decide) (by decide)⟩
  · show Steps p.tables e below (T3.setTop (mkF m 18 #[.val (.ref ob0)] [(.int (1 : Int32))])) _
    exact retN X3 hx (t := .boolean) Bd.returns (by simp) (hb hby own_d15_18) hrt
  · show own_Q_rmA25 Z ob0 ob0_value k_ob0_value ob0_value_0 ob0_value_1 ob0_value_2 ob0_value_3 cs wf h0 n0 _ T3.heap _
    rw [e3]
    exact ⟨rfl, N0, rfl⟩
theorem own_d10_31 : decode jdk_42_method_92_code 31 = .ok (.ifCond .eq 16, 3) := by decide +kernel
theorem own_d10_34 : decode jdk_42_method_92_code 34 = .ok (.aload_n 0, 1) := by decide +kernel
theorem own_d10_35 : decode jdk_42_method_92_code 35 = .ok (.getfield 9, 3) := by decide +kernel
theorem own_d10_38 : decode jdk_42_method_92_code 38 = .ok (.iload_n 1, 1) := by decide +kernel
theorem own_d10_39 : decode jdk_42_method_92_code 39 = .ok (.iload 4, 2) := by decide +kernel
theorem own_d10_41 : decode jdk_42_method_92_code 41 = .ok (.invokestatic 685, 3) := by decide +kernel
abbrev own_y19 : MethodName := ⟨"java/lang/StringLatin1", "newString", "([BII)Ljava/lang/String;"⟩
theorem own_ef28 (m : MethodId) (x0 : Addr) (x1 : Int32) (x2 : Int32) : entryFrame m #[(.ref x0), (.int x1), (.int x2)] 3 = mkF m 0 #[.val (.ref x0), .val (.int x1), .val (.int x2)] [] := by first | (simp [entryFrame, mkF, argsToLocals, Value.category]; done) | rfl
theorem own_d16_0 : decode jdk_43_method_47_code 0 = .ok (.iload_n 2, 1) := by decide +kernel
theorem own_d16_1 : decode jdk_43_method_47_code 1 = .ok (.ifCond .ne 6, 3) := by decide +kernel
theorem own_d16_4 : decode jdk_43_method_47_code 4 = .ok (.ldc 151, 2) := by decide +kernel
theorem own_d16_6 : decode jdk_43_method_47_code 6 = .ok (.areturn, 1) := by decide +kernel
def own_Q_rmA26 (Z : State) (ob0 : Addr) (k_ob0 : ClassId) (ob0_0 : Int32) (ob0_1 : Int32) (ob0_2 : Int32) (ob0_3 : Int32) (p1 : Int32) (p2 : Int32) (tt : Int32) (cs : Int32) (wf : Value) (h0 : Heap) (n0 : Nat) (v : Option Value) (h : Heap) (L : List Loc) : Prop := ∃ sa sb : Addr, ∃ sk : ClassId, v = some (.ref sa) ∧ Fr n0 L ∧ Keep h0 h [] ∧ Exa Z h sa "java/lang/String" ∧ Fld Z h sa "java/lang/String" "coder" "B" (.int (0 : Int32)) ∧ Fld Z h sa "java/lang/String" "value" "[B" (.ref sb) ∧ Arv Z h sb sk .byte (0 : Int32) [] (.int (0 : Int32))
set_option maxRecDepth 65536 in
set_option maxHeartbeats 40000000 in
theorem rmA26 (l : Launch) (Z : State) (a0 : Array Value) (hw : ∀ d ∈ tables_1, d.before a0 Z = true) (ws : List Jvm.Cond) (ob0 : Addr) (k_ob0 : ClassId) (ob0_0 : Int32) (ob0_1 : Int32) (ob0_2 : Int32) (ob0_3 : Int32) (p1 : Int32) (p2 : Int32) (tt : Int32) (cs : Int32) (wf : Value) (h0 : Heap) (n0 : Nat) (O0 : Old Z n0 h0) (G : own_Gl Z cs wf) (V_ob0 : Arv Z h0 ob0 k_ob0 .byte (4 : Int32) [(.int ob0_0), (.int ob0_1), (.int ob0_2), (.int ob0_3)] (.int (0 : Int32))) (ha0 : ¬ (p1 < (0 : Int32))) (hba : ¬ (tt < p1)) (hb4 : ¬ ((4 : Int32) < tt)) (hm : (tt - p1) = p2) (hm0 : ¬ (p2 < 0)) (hm4 : p2.toNatClampNeg ≤ 4) (hcp : p1.toNatClampNeg + p2.toNatClampNeg ≤ (4 : Int32).toNatClampNeg) (hmin : (if p2 < ((4 : Int32) - p1) then p2 else ((4 : Int32) - p1)) = p2) (ht : (p1 + p2) = tt) (hs0 : p1 = (0 : Int32)) (hz : p2 = (0 : Int32)) (hs4 : ¬ (tt = (4 : Int32))) :
    MetFree l own_y19 (head1 (Jvm.Cond.code own_y19 jdk_43_method_47_code 3 (some (.object "java/lang/String")) :: ws) ({ frames := 0, cells := 2, slots := 4, locals := 0 } : Room)) (fun a U => a = #[(.ref ob0), (.int p1), (.int p2)] ∧ Z.Warmed39 U.vm ∧ U.heap = h0 ∧ CHv Z own_EL U.vm h0) (fun _ _ _ _ _ => True) (fun _ U o U' => ∃ v L, o = .returned v ∧ own_Q_rmA26 Z ob0 k_ob0 ob0_0 ob0_1 ob0_2 ob0_3 p1 p2 tt cs wf h0 n0 v U'.heap L ∧ CHr Z own_EL U.vm U.heap U'.vm U'.heap ∧ ReturnedEndW U o U' L ({ frames := 0, cells := 2, slots := 4, locals := 0 } : Room).cells ({ frames := 0, cells := 2, slots := 4, locals := 0 } : Room).slots) := by
  refine MetFree.of_bodySF (plainFor_of_name own_pn2) hisR ?_
  intro p e s m args below meth c s₁ Bd hml0 hP hK
  obtain ⟨rfl, hZ, hh, hCH⟩ := hP
  have hx := Bd.exec
  have hby := Bd.bytes
  have hml : c.maxLocals = 3 := hml0
  have hown : s.vm.findClass "java/lang/StringLatin1" = some m.cls := findClass_of_methodNamed Bd.named
  have hnm := (name_of_methodNamed Bd.named Bd.method).1
  have X0 : Stand p l e ({ frames := 0, cells := 2, slots := 4, locals := 0 } : Room) (s.setVm s.vm) m #[(.ref ob0), (.int p1), (.int p2)] below meth c s₁ [] 0 0 := Stand.of_body Bd
  have e0 : s₁.heap = h0 := by rw [← hh, Bd.state]; rfl
  have N0 := Fr.nil n0
  have Z0 : n0 ≤ h0.size := O0.1 ▸ O0.2.1
  have g0 : ∀ t, Steps p.tables e below (s₁.setTop (mkF m 0 #[.val (.ref ob0), .val (.int p1), .val (.int p2)] [])) t → Steps p.tables e below (s₁.setTop (entryFrame m #[(.ref ob0), (.int p1), (.int p2)] 3)) t := fun t k => castTop (own_ef28 m (ob0) (p1) (p2)) k
  have hC := CHr.refl hCH
  have hS : s.Since s.vm h0.size := (State.WarmedH.refl s).since _
  have hk := Nat.le_refl h0.size
  have G0 := G
  obtain ⟨S_CS, hcs, S_WF, hwf⟩ := G
  have hc1 : p2 = (0 : Int32) := hz
  obtain ⟨a2, T2, h2, k2, b2, ka2, X2, e2, E2, hS, hk, hZ, hown, Ex2, Fc2, Fv2, Va2, -, -, C2, -, -, st2⟩ := ldcCH (s := s) (vm0 := s.vm) X0 hx hZ hown (own_w hw 95 rfl) (own_wS hw) e0 hS hk (own_EW hw) (List.mem_of_getElem? (i := 0) rfl) hC.1 (vs := []) (z := (0 : Int32)) ⟨by decide, by decide⟩ (by decide) (by decide) (g := (mkF m 4 #[.val (.ref ob0), .val (.int p1), .val (.int p2)] [])) rfl (hb hby own_d16_4) (n := 0) (by decide) (by decide) (by decide) (by decide)
  have hC := hC.trans C2
  have g3 : ∀ t, Steps p.tables e below (T2.setTop (mkF m 6 #[.val (.ref ob0), .val (.int p1), .val (.int p2)] [(.ref a2)])) t → Steps p.tables e below (s₁.setTop (entryFrame m #[(.ref ob0), (.int p1), (.int p2)] 3)) t := by
    intro t k
    refine g0 t ?_
    show Steps p.tables e below (s₁.setTop (mkF m 0 #[.val (.ref ob0), .val (.int p1), .val (.int p2)] [])) _
    refine XS.iloadN X0.here hx rfl (hb hby own_d16_0) rfl ?_
    refine XS.ifNo X0.here hx rfl (hb hby own_d16_1) rfl ((if0 _ _).trans (teq hc1).2) ?_
    refine st2 _ ?_
    exact k
  obtain ⟨fs, hrt, hrun, hended, hRW⟩ := X2.leaveW hS (by rw [e2]; exact hk) (v := some (.ref a2)) (fun h => by rw [Bd.returns] at h; cases h)
  refine ⟨_, _, g3 _ ?_, hrun, hended, _, _, rfl, ?_, ?_, hRW.1, hRW.2.1, hRW.2.2.1, hRW.2.2.2.mono (by decide) (by decide)⟩
  · show Steps p.tables e below (T2.setTop (mkF m 6 #[.val (.ref ob0), .val (.int p1), .val (.int p2)] [(.ref a2)])) _
    jvm_step X2.here [X2.here.top, hx, (hb hby own_d16_6), X2.method', Bd.returns, Value.isRef, FieldType.isReference]
    first | (intro acts; rw [hrt _ acts rfl rfl rfl]) | rw [hrt _ _ rfl rfl rfl]
    exact Steps.refl _
  · show own_Q_rmA26 Z ob0 k_ob0 ob0_0 ob0_1 ob0_2 ob0_3 p1 p2 tt cs wf h0 n0 _ T2.heap _
    rw [e2]
    exact ⟨a2, b2, _, rfl, N0, (Keep.ext (Keep.refl h0 []) E2), Ex2, Fc2, Fv2, Va2⟩
  · rw [hh]
    show CHr Z own_EL s.vm h0 T2.vm T2.heap
    rw [e2]
    exact hC.trans (CHv.at X2 hZ (own_EW hw) hC.1)
theorem own_pd19 : parseMethodDescriptor "([BII)Ljava/lang/String;" = some ⟨[(.array .byte), .int, .int], some (.object "java/lang/String")⟩ := by decide +kernel
theorem own_d10_44 : decode jdk_42_method_92_code 44 = .ok (.goto 13, 3) := by decide +kernel
theorem own_d10_57 : decode jdk_42_method_92_code 57 = .ok (.areturn, 1) := by decide +kernel
def own_Q_rmA24 (Z : State) (ob0 : Addr) (ob0_value : Addr) (k_ob0_value : ClassId) (ob0_value_0 : Int32) (ob0_value_1 : Int32) (ob0_value_2 : Int32) (ob0_value_3 : Int32) (p1 : Int32) (p2 : Int32) (mm : Int32) (cs : Int32) (wf : Value) (h0 : Heap) (n0 : Nat) (v : Option Value) (h : Heap) (L : List Loc) : Prop := ∃ sa sb : Addr, ∃ sk : ClassId, v = some (.ref sa) ∧ Fr n0 L ∧ Keep h0 h [] ∧ Exa Z h sa "java/lang/String" ∧ Fld Z h sa "java/lang/String" "coder" "B" (.int (0 : Int32)) ∧ Fld Z h sa "java/lang/String" "value" "[B" (.ref sb) ∧ Arv Z h sb sk .byte (0 : Int32) [] (.int (0 : Int32))
set_option maxRecDepth 65536 in
set_option maxHeartbeats 40000000 in
theorem rmA24 (l : Launch) (Z : State) (a0 : Array Value) (hw : ∀ d ∈ tables_1, d.before a0 Z = true) (ws : List Jvm.Cond) (ob0 : Addr) (ob0_value : Addr) (k_ob0_value : ClassId) (ob0_value_0 : Int32) (ob0_value_1 : Int32) (ob0_value_2 : Int32) (ob0_value_3 : Int32) (p1 : Int32) (p2 : Int32) (mm : Int32) (cs : Int32) (wf : Value) (h0 : Heap) (n0 : Nat) (O0 : Old Z n0 h0) (G : own_Gl Z cs wf) (E_ob0 : Exa Z h0 ob0 "java/lang/String") (F_ob0_coder : Fld Z h0 ob0 "java/lang/String" "coder" "B" (.int (0 : Int32))) (V_ob0_value : Arv Z h0 ob0_value k_ob0_value .byte (4 : Int32) [(.int ob0_value_0), (.int ob0_value_1), (.int ob0_value_2), (.int ob0_value_3)] (.int (0 : Int32))) (F_ob0_value : Fld Z h0 ob0 "java/lang/String" "value" "[B" (.ref ob0_value)) (ha0 : ¬ (p1 < (0 : Int32))) (hba : ¬ (p2 < p1)) (hb4 : ¬ ((4 : Int32) < p2)) (hm : (p2 - p1) = mm) (hm0 : ¬ (mm < 0)) (hm4 : mm.toNatClampNeg ≤ 4) (hcp : p1.toNatClampNeg + mm.toNatClampNeg ≤ (4 : Int32).toNatClampNeg) (hmin : (if mm < ((4 : Int32) - p1) then mm else ((4 : Int32) - p1)) = mm) (ht : (p1 + mm) = p2) (hs0 : p1 = (0 : Int32)) (hz : mm = (0 : Int32)) (hs4 : ¬ (p2 = (4 : Int32))) :
    MetFree l own_y16 (head1 (Jvm.Cond.code own_y16 jdk_42_method_92_code 5 (some (.object "java/lang/String")) :: ws) ({ frames := 2, cells := 2, slots := 4, locals := 29 } : Room)) (fun a U => a = #[(.ref ob0), (.int p1), (.int p2)] ∧ Z.Warmed39 U.vm ∧ U.heap = h0 ∧ CHv Z own_EL U.vm h0) (fun _ _ _ _ _ => True) (fun _ U o U' => ∃ v L, o = .returned v ∧ own_Q_rmA24 Z ob0 ob0_value k_ob0_value ob0_value_0 ob0_value_1 ob0_value_2 ob0_value_3 p1 p2 mm cs wf h0 n0 v U'.heap L ∧ CHr Z own_EL U.vm U.heap U'.vm U'.heap ∧ ReturnedEndW U o U' L ({ frames := 2, cells := 2, slots := 4, locals := 29 } : Room).cells ({ frames := 2, cells := 2, slots := 4, locals := 29 } : Room).slots) := by
  refine MetFree.of_bodySF (plainFor_of_name own_pn0) hisR ?_
  intro p e s m args below meth c s₁ Bd hml0 hP hK
  obtain ⟨rfl, hZ, hh, hCH⟩ := hP
  have hx := Bd.exec
  have hby := Bd.bytes
  have hml : c.maxLocals = 5 := hml0
  have hown : s.vm.findClass "java/lang/String" = some m.cls := findClass_of_methodNamed Bd.named
  have hnm := (name_of_methodNamed Bd.named Bd.method).1
  have X0 : Stand p l e ({ frames := 2, cells := 2, slots := 4, locals := 29 } : Room) (s.setVm s.vm) m #[(.ref ob0), (.int p1), (.int p2)] below meth c s₁ [] 0 0 := Stand.of_body Bd
  have e0 : s₁.heap = h0 := by rw [← hh, Bd.state]; rfl
  have N0 := Fr.nil n0
  have Z0 : n0 ≤ h0.size := O0.1 ▸ O0.2.1
  have g0 : ∀ t, Steps p.tables e below (s₁.setTop (mkF m 0 #[.val (.ref ob0), .val (.int p1), .val (.int p2), .unset, .unset] [])) t → Steps p.tables e below (s₁.setTop (entryFrame m #[(.ref ob0), (.int p1), (.int p2)] 5)) t := fun t k => castTop (own_ef26 m (ob0) (p1) (p2)) k
  have hC := CHr.refl hCH
  have hS : s.Since s.vm h0.size := (State.WarmedH.refl s).since _
  have hk := Nat.le_refl h0.size
  have G0 := G
  obtain ⟨S_CS, hcs, S_WF, hwf⟩ := G
  obtain ⟨cq1, kq1, q1a, q1b, q1c⟩ := isOf hZ e0 E_ob0
  obtain ⟨_, _, ⟨T1, L1, k1, n1⟩, -, X1, ⟨Lc1, hQ1, l1, y1, z1⟩, st1⟩ := X0.virtualBack hx (y := own_y0) (z := own_y0) hown (mvT hZ (own_w hw 68 rfl)) (mvT hZ (own_w hw 69 rfl)) (notFace_of_selects (args := #[]) (mvT hZ (own_w hw 71 rfl))) (mvT hZ (own_w hw 71 rfl)) (mvT hZ (own_w hw 70 rfl)) (by decide) (backOf (W := 0) (rmA18 l Z a0 hw [] ob0 ob0_value k_ob0_value (ob0_value_0) (ob0_value_1) (ob0_value_2) (ob0_value_3)  cs wf h0 n0 O0 G0 E_ob0 F_ob0_coder V_ob0_value F_ob0_value  ) hZ (own_w hw 72 rfl) (own_w hw 3 rfl) (by decide) (by decide)) q1a q1c (g := (mkF m 1 #[.val (.ref ob0), .val (.int p1), .val (.int p2), .unset, .unset] [(.ref ob0)])) rfl (by rw [hml]; rfl) (Steps.refl _) (argsL := []) (rest := []) (lenOf own_pd1 rfl) rfl (by show 2 * 0 + _ ≤ _; exact Nat.le_of_eq rfl) (hb hby own_d10_1) (fun _ _ => ⟨rfl, e0, (by decide : 0 + 0 ≤ _), (by decide : 0 + 0 ≤ _)⟩)
  dsimp only [Pt.U, Pt.locs, Pt.cells, Pt.slots] at X1 l1 y1 z1 st1 hQ1
  subst l1 y1 z1
  obtain ⟨rfl, Nq1, e1⟩ := hQ1
  have N1 := Fr.app N0 Nq1
  obtain ⟨_, _, ⟨T2, L2, k2, n2⟩, -, X2, ⟨Lc2, hQ2, l2, y2, z2⟩, st2⟩ := Jvm.LawKit.callS X1 hx (y := own_y17) hown (mvT hZ (own_w hw 78 rfl)) (mvT hZ (own_w hw 79 rfl)) (mvT hZ (own_w hw 3 rfl)) (mvT hZ (own_w hw 80 rfl)) (by decide) (backOf (W := 0) (rmA20 l Z a0 hw [] (p1) (p2) ((4 : Int32))  cs wf h0 n0 O0 G0   ha0 hba hb4) hZ (own_w hw 80 rfl) (own_w hw 3 rfl) (by decide) (by decide)) (g := (mkF m 8 #[.val (.ref ob0), .val (.int p1), .val (.int p2), .val (.int (4 : Int32)), .unset] [(.int (4 : Int32)), (.int p2), (.int p1)])) rfl (by rw [hml]; rfl) (argsL := [(.int p1), (.int p2), (.int (4 : Int32))]) (rest := []) (lenOf own_pd16 rfl) rfl (by show 2 * 0 + _ ≤ _; exact Nat.le_of_eq rfl) (hb hby own_d10_8) (fun _ _ => ⟨rfl, e1, (by decide : 0 + 0 ≤ _), (by decide : 0 + 0 ≤ _)⟩)
  dsimp only [Pt.U, Pt.locs, Pt.cells, Pt.slots] at X2 l2 y2 z2 st2 hQ2
  subst l2 y2 z2
  obtain ⟨rfl, Nq2, e2⟩ := hQ2
  have N2 := Fr.app N1 Nq2
  have hc3 : p1 = (0 : Int32) := hs0
  have hc4 : ¬ (p2 = (4 : Int32)) := hs4
  have g5 : ∀ t, Steps p.tables e below (T2.setTop (mkF m 25 #[.val (.ref ob0), .val (.int p1), .val (.int p2), .val (.int (4 : Int32)), .unset] [(.int mm)])) t → Steps p.tables e below (s₁.setTop (entryFrame m #[(.ref ob0), (.int p1), (.int p2)] 5)) t := by
    intro t k
    rw [← hm] at k
    refine g0 t ?_
    show Steps p.tables e below (s₁.setTop (mkF m 0 #[.val (.ref ob0), .val (.int p1), .val (.int p2), .unset, .unset] [])) _
    refine XS.aloadN X0.here hx rfl (hb hby own_d10_0) rfl rfl ?_
    refine st1.trans ?_
    refine XS.istoreN X1.here hx rfl (hb hby own_d10_4) rfl (l' := #[.val (.ref ob0), .val (.int p1), .val (.int p2), .val (.int (4 : Int32)), .unset]) rfl ?_
    refine XS.iloadN X1.here hx rfl (hb hby own_d10_5) rfl ?_
    show Steps p.tables e below (T1.setTop (mkF m 6 #[.val (.ref ob0), .val (.int p1), .val (.int p2), .val (.int (4 : Int32)), .unset] [(.int p1)])) _
    refine XS.iloadN X1.here hx rfl (hb hby own_d10_6) rfl ?_
    refine XS.iloadN X1.here hx rfl (hb hby own_d10_7) rfl ?_
    refine st2 _ ?_
    refine XS.iloadN X2.here hx rfl (hb hby own_d10_11) rfl ?_
    show Steps p.tables e below (T2.setTop (mkF m 12 #[.val (.ref ob0), .val (.int p1), .val (.int p2), .val (.int (4 : Int32)), .unset] [(.int p1)])) _
    refine XS.ifNo X2.here hx rfl (hb hby own_d10_12) rfl ((if0 _ _).trans (teq hc3).2) ?_
    refine XS.iloadN X2.here hx rfl (hb hby own_d10_15) rfl ?_
    refine XS.iloadN X2.here hx rfl (hb hby own_d10_16) rfl ?_
    refine XS.icmpYes X2.here hx rfl (pc0 := 17) (pc' := 22) rfl (hb hby own_d10_17) rfl (feq hc4).2 (by decide) (by decide) ?_
    show Steps p.tables e below (T2.setTop (mkF m 22 #[.val (.ref ob0), .val (.int p1), .val (.int p2), .val (.int (4 : Int32)), .unset] [])) _
    refine XS.iloadN X2.here hx rfl (hb hby own_d10_22) rfl ?_
    refine XS.iloadN X2.here hx rfl (hb hby own_d10_23) rfl ?_
    show Steps p.tables e below (T2.setTop (mkF m 24 #[.val (.ref ob0), .val (.int p1), .val (.int p2), .val (.int (4 : Int32)), .unset] [(.int p1), (.int p2)])) _
    refine XS.isub X2.here hx rfl (hb hby own_d10_24) rfl ?_
    exact k
  obtain ⟨cq6, kq6, q6a, q6b, q6c⟩ := isOf hZ e2 E_ob0
  obtain ⟨_, _, ⟨T6, L6, k6, n6⟩, -, X6, ⟨Lc6, hQ6, l6, y6, z6⟩, st6⟩ := X2.virtualBack hx (y := own_y4) (z := own_y4) hown (mvT hZ (own_w hw 86 rfl)) (mvT hZ (own_w hw 87 rfl)) (notFace_of_selects (args := #[]) (mvT hZ (own_w hw 89 rfl))) (mvT hZ (own_w hw 89 rfl)) (mvT hZ (own_w hw 88 rfl)) (by decide) (backOf (W := 0) (rmA25 l Z a0 hw [] ob0 ob0_value k_ob0_value (ob0_value_0) (ob0_value_1) (ob0_value_2) (ob0_value_3)  cs wf h0 n0 O0 G0 E_ob0 F_ob0_coder V_ob0_value F_ob0_value  ) hZ (own_w hw 90 rfl) (own_w hw 3 rfl) (by decide) (by decide)) q6a q6c (g := (mkF m 28 #[.val (.ref ob0), .val (.int p1), .val (.int p2), .val (.int (4 : Int32)), .val (.int mm)] [(.ref ob0)])) rfl (by rw [hml]; rfl) (Steps.refl _) (argsL := []) (rest := []) (lenOf own_pd2 rfl) rfl (by show 2 * 0 + _ ≤ _; exact Nat.le_of_eq rfl) (hb hby own_d10_28) (fun _ _ => ⟨rfl, e2, (by decide : 0 + 0 ≤ _), (by decide : 0 + 0 ≤ _)⟩)
  dsimp only [Pt.U, Pt.locs, Pt.cells, Pt.slots] at X6 l6 y6 z6 st6 hQ6
  subst l6 y6 z6
  obtain ⟨rfl, Nq6, e6⟩ := hQ6
  have N6 := Fr.app N2 Nq6
  obtain ⟨T7, X7, e7, st7⟩ := getF X6 hx hZ hown (host := "") (Or.inl (own_w hw 28 rfl)) Via.refl e6 F_ob0_value (g := (mkF m 35 #[.val (.ref ob0), .val (.int p1), .val (.int p2), .val (.int (4 : Int32)), .val (.int mm)] [(.ref ob0)])) rfl rfl (hb hby own_d10_35)
  obtain ⟨LL8, XL8, NL8⟩ : ∃ LL : List Loc, Stand p l e ({ frames := 2, cells := 2, slots := 4, locals := 29 } : Room) (s.setVm s.vm) m #[(.ref ob0), (.int p1), (.int p2)] below meth c T7 LL 0 0 ∧ Fr n0 LL := ⟨_, X7, N6⟩
  obtain ⟨_, _, ⟨T9, L9, k9, n9⟩, -, X9, hSn9, hgn9, ⟨Lc9, hQ9, l9, y9, z9, C9⟩, st9⟩ := Jvm.RoadKit.callSS XL8 hx (y := own_y19) hown (mvT hZ (own_w hw 91 rfl)) (mvT hZ (own_w hw 92 rfl)) (mvT hZ (own_w hw 93 rfl)) (mvT hZ (own_w hw 94 rfl)) (by decide) (backOfSH (s := s) (vm0 := s.vm) (W := 0) (rmA26 l Z a0 hw [] ob0_value k_ob0_value (ob0_value_0) (ob0_value_1) (ob0_value_2) (ob0_value_3) (p1) (mm) p2 cs wf h0 n0 O0 G0 V_ob0_value  ha0 hba hb4 hm hm0 hm4 hcp hmin ht hs0 hz hs4) hZ (own_w hw 94 rfl) (own_w hw 93 rfl) (by decide) (by decide) (own_EW hw) hC.1) (g := (mkF m 41 #[.val (.ref ob0), .val (.int p1), .val (.int p2), .val (.int (4 : Int32)), .val (.int mm)] [(.int mm), (.int p1), (.ref ob0_value)])) rfl (by rw [hml]; rfl) (argsL := [(.ref ob0_value), (.int p1), (.int mm)]) (rest := []) (lenOf own_pd19 rfl) rfl (by show 2 * 0 + _ ≤ _; exact Nat.le_of_eq rfl) (hb hby own_d10_41) (fun _ _ => ⟨rfl, e7, (by decide : 0 + 2 ≤ _), (by decide : 0 + 4 ≤ _)⟩)
  dsimp only [Pt.U, Pt.locs, Pt.cells, Pt.slots] at X9 l9 y9 z9 st9 hQ9 hSn9 hgn9 C9
  subst l9 y9 z9
  have hS := foldS hS (by rw [e7]; exact hk) hSn9 hgn9
  have hk := Nat.le_refl T9.heap.size
  have hZ : Z.Warmed39 T9.vm := State.Warmed39.trans (t := s.setVm s.vm) hZ hSn9.1
  have hown : T9.vm.findClass "java/lang/String" = some m.cls := by rw [hSn9.1.alike.findClass]; exact hown
  have hC := hC.trans C9
  obtain ⟨sa9, sb9, sk9, rfl, Nq9, K9, Qe9, Qc9, Qv9, Qa9⟩ := hQ9
  have N9 := Fr.app NL8 Nq9
  have g10 : ∀ t, Steps p.tables e below (T9.setTop (mkF m 57 #[.val (.ref ob0), .val (.int p1), .val (.int p2), .val (.int (4 : Int32)), .val (.int mm)] [(.ref sa9)])) t → Steps p.tables e below (s₁.setTop (entryFrame m #[(.ref ob0), (.int p1), (.int p2)] 5)) t := by
    intro t k
    refine g5 t ?_
    show Steps p.tables e below (T2.setTop (mkF m 25 #[.val (.ref ob0), .val (.int p1), .val (.int p2), .val (.int (4 : Int32)), .unset] [(.int mm)])) _
    refine XS.istore X2.here hx rfl (hb hby own_d10_25) rfl (l' := #[.val (.ref ob0), .val (.int p1), .val (.int p2), .val (.int (4 : Int32)), .val (.int mm)]) rfl ?_
    refine XS.aloadN X2.here hx rfl (hb hby own_d10_27) rfl rfl ?_
    refine st6.trans ?_
    refine XS.ifNo X6.here hx rfl (hb hby own_d10_31) rfl ((if0 _ _).trans (feq (by decide : ¬ ((1 : Int32) = (0 : Int32)))).1) ?_
    show Steps p.tables e below (T6.setTop (mkF m 34 #[.val (.ref ob0), .val (.int p1), .val (.int p2), .val (.int (4 : Int32)), .val (.int mm)] [])) _
    refine XS.aloadN X6.here hx rfl (hb hby own_d10_34) rfl rfl ?_
    refine st7 _ ?_
    refine XS.iloadN X7.here hx rfl (hb hby own_d10_38) rfl ?_
    refine XS.iload X7.here hx rfl (hb hby own_d10_39) rfl ?_
    show Steps p.tables e below (T7.setTop (mkF m 41 #[.val (.ref ob0), .val (.int p1), .val (.int p2), .val (.int (4 : Int32)), .val (.int mm)] [(.int mm), (.int p1), (.ref ob0_value)])) _
    refine st9.trans ?_
    refine XS.goto X9.here hx rfl (pc0 := 44) (pc' := 57) rfl (hb hby own_d10_44) (by decide) (by decide) ?_
    exact k
  obtain ⟨fs, hrt, hrun, hended, hRW⟩ := X9.leaveW hS hk (v := some (.ref sa9)) (fun h => by rw [Bd.returns] at h; cases h)
  refine ⟨_, _, g10 _ ?_, hrun, hended, _, _, rfl, ?_, ?_, hRW.1, hRW.2.1, hRW.2.2.1, hRW.2.2.2.mono (by decide) (by decide)⟩
  · show Steps p.tables e below (T9.setTop (mkF m 57 #[.val (.ref ob0), .val (.int p1), .val (.int p2), .val (.int (4 : Int32)), .val (.int mm)] [(.ref sa9)])) _
    jvm_step X9.here [X9.here.top, hx, (hb hby own_d10_57), X9.method', Bd.returns, Value.isRef, FieldType.isReference]
    first | (intro acts; rw [hrt _ acts rfl rfl rfl]) | rw [hrt _ _ rfl rfl rfl]
    exact Steps.refl _
  · show own_Q_rmA24 Z ob0 ob0_value k_ob0_value ob0_value_0 ob0_value_1 ob0_value_2 ob0_value_3 p1 p2 mm cs wf h0 n0 _ T9.heap _
    exact ⟨sa9, sb9, _, rfl, N9, (Keep.trans (Keep.refl h0 []) K9 all0), Qe9, Qc9, Qv9, Qa9⟩
  · rw [hh]
    show CHr Z own_EL s.vm h0 T9.vm T9.heap
    exact hC.trans (CHv.at X9 hZ (own_EW hw) hC.1)
def own_Q_rmA23 (Z : State) (ob0 : Addr) (ob0_end : Int32) (ob0_start : Int32) (ob1 : Addr) (ob1_value : Addr) (k_ob1_value : ClassId) (ob1_value_0 : Int32) (ob1_value_1 : Int32) (ob1_value_2 : Int32) (ob1_value_3 : Int32) (mm : Int32) (cs : Int32) (wf : Value) (h0 : Heap) (n0 : Nat) (v : Option Value) (h : Heap) (L : List Loc) : Prop := ∃ sa sb : Addr, ∃ sk : ClassId, v = some (.ref sa) ∧ Fr n0 L ∧ Keep h0 h [] ∧ Exa Z h sa "java/lang/String" ∧ Fld Z h sa "java/lang/String" "coder" "B" (.int (0 : Int32)) ∧ Fld Z h sa "java/lang/String" "value" "[B" (.ref sb) ∧ Arv Z h sb sk .byte (0 : Int32) [] (.int (0 : Int32))
set_option maxRecDepth 65536 in
set_option maxHeartbeats 40000000 in
theorem rmA23 (l : Launch) (Z : State) (a0 : Array Value) (hw : ∀ d ∈ tables_1, d.before a0 Z = true) (ws : List Jvm.Cond) (ob0 : Addr) (ob0_end : Int32) (ob0_start : Int32) (ob1 : Addr) (ob1_value : Addr) (k_ob1_value : ClassId) (ob1_value_0 : Int32) (ob1_value_1 : Int32) (ob1_value_2 : Int32) (ob1_value_3 : Int32) (mm : Int32) (cs : Int32) (wf : Value) (h0 : Heap) (n0 : Nat) (O0 : Old Z n0 h0) (G : own_Gl Z cs wf) (E_ob0 : Exa Z h0 ob0 "com/example/momus/momus/model/FormatSpecifier") (F_ob0_end : Fld Z h0 ob0 "com/example/momus/momus/model/FormatSpecifier" "end" "I" (.int ob0_end)) (F_ob0_start : Fld Z h0 ob0 "com/example/momus/momus/model/FormatSpecifier" "start" "I" (.int ob0_start)) (E_ob1 : Exa Z h0 ob1 "java/lang/String") (F_ob1_coder : Fld Z h0 ob1 "java/lang/String" "coder" "B" (.int (0 : Int32))) (V_ob1_value : Arv Z h0 ob1_value k_ob1_value .byte (4 : Int32) [(.int ob1_value_0), (.int ob1_value_1), (.int ob1_value_2), (.int ob1_value_3)] (.int (0 : Int32))) (F_ob1_value : Fld Z h0 ob1 "java/lang/String" "value" "[B" (.ref ob1_value)) (ha0 : ¬ (ob0_start < (0 : Int32))) (hba : ¬ (ob0_end < ob0_start)) (hb4 : ¬ ((4 : Int32) < ob0_end)) (hm : (ob0_end - ob0_start) = mm) (hm0 : ¬ (mm < 0)) (hm4 : mm.toNatClampNeg ≤ 4) (hcp : ob0_start.toNatClampNeg + mm.toNatClampNeg ≤ (4 : Int32).toNatClampNeg) (hmin : (if mm < ((4 : Int32) - ob0_start) then mm else ((4 : Int32) - ob0_start)) = mm) (ht : (ob0_start + mm) = ob0_end) (hs0 : ob0_start = (0 : Int32)) (hz : mm = (0 : Int32)) (hs4 : ¬ (ob0_end = (4 : Int32))) :
    MetFree l own_y15 (head1 (Jvm.Cond.code own_y15 prog_42_method_5_code 2 (some (.object "java/lang/String")) :: ws) ({ frames := 3, cells := 2, slots := 4, locals := 45 } : Room)) (fun a U => a = #[(.ref ob0), (.ref ob1)] ∧ Z.Warmed39 U.vm ∧ U.heap = h0 ∧ CHv Z own_EL U.vm h0) (fun _ _ _ _ _ => True) (fun _ U o U' => ∃ v L, o = .returned v ∧ own_Q_rmA23 Z ob0 ob0_end ob0_start ob1 ob1_value k_ob1_value ob1_value_0 ob1_value_1 ob1_value_2 ob1_value_3 mm cs wf h0 n0 v U'.heap L ∧ CHr Z own_EL U.vm U.heap U'.vm U'.heap ∧ ReturnedEndW U o U' L ({ frames := 3, cells := 2, slots := 4, locals := 45 } : Room).cells ({ frames := 3, cells := 2, slots := 4, locals := 45 } : Room).slots) := by
  refine MetFree.of_bodySF (plainFor_of_name own_pn5) hisR ?_
  intro p e s m args below meth c s₁ Bd hml0 hP hK
  obtain ⟨rfl, hZ, hh, hCH⟩ := hP
  have hx := Bd.exec
  have hby := Bd.bytes
  have hml : c.maxLocals = 2 := hml0
  have hown : s.vm.findClass "com/example/momus/momus/model/FormatSpecifier" = some m.cls := findClass_of_methodNamed Bd.named
  have hnm := (name_of_methodNamed Bd.named Bd.method).1
  have X0 : Stand p l e ({ frames := 3, cells := 2, slots := 4, locals := 45 } : Room) (s.setVm s.vm) m #[(.ref ob0), (.ref ob1)] below meth c s₁ [] 0 0 := Stand.of_body Bd
  have e0 : s₁.heap = h0 := by rw [← hh, Bd.state]; rfl
  have N0 := Fr.nil n0
  have Z0 : n0 ≤ h0.size := O0.1 ▸ O0.2.1
  have g0 : ∀ t, Steps p.tables e below (s₁.setTop (mkF m 0 #[.val (.ref ob0), .val (.ref ob1)] [])) t → Steps p.tables e below (s₁.setTop (entryFrame m #[(.ref ob0), (.ref ob1)] 2)) t := fun t k => castTop (own_ef25 m (ob0) (ob1)) k
  have hC := CHr.refl hCH
  have hS : s.Since s.vm h0.size := (State.WarmedH.refl s).since _
  have hk := Nat.le_refl h0.size
  have G0 := G
  obtain ⟨S_CS, hcs, S_WF, hwf⟩ := G
  obtain ⟨T1, X1, e1, st1⟩ := getF X0 hx hZ hown (host := "") (Or.inl (own_w hw 44 rfl)) Via.refl e0 F_ob0_start (g := (mkF m 2 #[.val (.ref ob0), .val (.ref ob1)] [(.ref ob0), (.ref ob1)])) rfl rfl (hb hby own_d9_2)
  obtain ⟨T2, X2, e2, st2⟩ := getF X1 hx hZ hown (host := "") (Or.inl (own_w hw 56 rfl)) Via.refl e1 F_ob0_end (g := (mkF m 6 #[.val (.ref ob0), .val (.ref ob1)] [(.ref ob0), (.int ob0_start), (.ref ob1)])) rfl rfl (hb hby own_d9_6)
  obtain ⟨cq3, kq3, q3a, q3b, q3c⟩ := isOf hZ e2 E_ob1
  obtain ⟨_, _, ⟨T3, L3, k3, n3⟩, -, X3, hSn3, hgn3, ⟨Lc3, hQ3, l3, y3, z3, C3⟩, st3⟩ := X2.virtualBackS hx (y := own_y16) (z := own_y16) hown (mvT hZ (own_w hw 63 rfl)) (mvT hZ (own_w hw 64 rfl)) (notFace_of_selects (args := #[]) (mvT hZ (own_w hw 66 rfl))) (mvT hZ (own_w hw 66 rfl)) (mvT hZ (own_w hw 65 rfl)) (by decide) (backOfSH (s := s) (vm0 := s.vm) (W := 0) (rmA24 l Z a0 hw [] ob1 ob1_value k_ob1_value (ob1_value_0) (ob1_value_1) (ob1_value_2) (ob1_value_3) (ob0_start) (ob0_end) mm cs wf h0 n0 O0 G0 E_ob1 F_ob1_coder V_ob1_value F_ob1_value  ha0 hba hb4 hm hm0 hm4 hcp hmin ht hs0 hz hs4) hZ (own_w hw 67 rfl) (own_w hw 3 rfl) (by decide) (by decide) (own_EW hw) hC.1) q3a q3c (g := (mkF m 9 #[.val (.ref ob0), .val (.ref ob1)] [(.int ob0_end), (.int ob0_start), (.ref ob1)])) rfl (by rw [hml]; rfl) (Steps.refl _) (argsL := [(.int ob0_start), (.int ob0_end)]) (rest := []) (lenOf own_pd17 rfl) rfl (by show 2 * 0 + _ ≤ _; exact Nat.le_of_eq rfl) (hb hby own_d9_9) (fun _ _ => ⟨rfl, e2, (by decide : 0 + 2 ≤ _), (by decide : 0 + 4 ≤ _)⟩)
  dsimp only [Pt.U, Pt.locs, Pt.cells, Pt.slots] at X3 l3 y3 z3 st3 hQ3 hSn3 hgn3 C3
  subst l3 y3 z3
  have hS := foldS hS (by rw [e2]; exact hk) hSn3 hgn3
  have hk := Nat.le_refl T3.heap.size
  have hZ : Z.Warmed39 T3.vm := State.Warmed39.trans (t := s.setVm s.vm) hZ hSn3.1
  have hown : T3.vm.findClass "com/example/momus/momus/model/FormatSpecifier" = some m.cls := by rw [hSn3.1.alike.findClass]; exact hown
  have hC := hC.trans C3
  obtain ⟨sa3, sb3, sk3, rfl, Nq3, K3, Qe3, Qc3, Qv3, Qa3⟩ := hQ3
  have N3 := Fr.app N0 Nq3
  have g4 : ∀ t, Steps p.tables e below (T3.setTop (mkF m 12 #[.val (.ref ob0), .val (.ref ob1)] [(.ref sa3)])) t → Steps p.tables e below (s₁.setTop (entryFrame m #[(.ref ob0), (.ref ob1)] 2)) t := by
    intro t k
    refine g0 t ?_
    show Steps p.tables e below (s₁.setTop (mkF m 0 #[.val (.ref ob0), .val (.ref ob1)] [])) _
    refine XS.aloadN X0.here hx rfl (hb hby own_d9_0) rfl rfl ?_
    refine XS.aloadN X0.here hx rfl (hb hby own_d9_1) rfl rfl ?_
    refine st1 _ ?_
    refine XS.aloadN X1.here hx rfl (hb hby own_d9_5) rfl rfl ?_
    show Steps p.tables e below (T1.setTop (mkF m 6 #[.val (.ref ob0), .val (.ref ob1)] [(.ref ob0), (.int ob0_start), (.ref ob1)])) _
    refine st2 _ ?_
    refine st3.trans ?_
    exact k
  obtain ⟨fs, hrt, hrun, hended, hRW⟩ := X3.leaveW hS hk (v := some (.ref sa3)) (fun h => by rw [Bd.returns] at h; cases h)
  refine ⟨_, _, g4 _ ?_, hrun, hended, _, _, rfl, ?_, ?_, hRW.1, hRW.2.1, hRW.2.2.1, hRW.2.2.2.mono (by decide) (by decide)⟩
  · show Steps p.tables e below (T3.setTop (mkF m 12 #[.val (.ref ob0), .val (.ref ob1)] [(.ref sa3)])) _
    jvm_step X3.here [X3.here.top, hx, (hb hby own_d9_12), X3.method', Bd.returns, Value.isRef, FieldType.isReference]
    first | (intro acts; rw [hrt _ acts rfl rfl rfl]) | rw [hrt _ _ rfl rfl rfl]
    exact Steps.refl _
  · show own_Q_rmA23 Z ob0 ob0_end ob0_start ob1 ob1_value k_ob1_value ob1_value_0 ob1_value_1 ob1_value_2 ob1_value_3 mm cs wf h0 n0 _ T3.heap _
    exact ⟨sa3, sb3, _, rfl, N3, (Keep.trans (Keep.refl h0 []) K3 all0), Qe3, Qc3, Qv3, Qa3⟩
  · rw [hh]
    show CHr Z own_EL s.vm h0 T3.vm T3.heap
    exact hC.trans (CHv.at X3 hZ (own_EW hw) hC.1)
theorem own_ef29 (m : MethodId) (x0 : Addr) (x1 : Addr) : entryFrame m #[(.ref x0), (.ref x1)] 2 = mkF m 0 #[.val (.ref x0), .val (.ref x1)] [] := by first | (simp [entryFrame, mkF, argsToLocals, Value.category]; done) | rfl
theorem own_ef30 (m : MethodId) (x0 : Addr) (x1 : Int32) (x2 : Int32) : entryFrame m #[(.ref x0), (.int x1), (.int x2)] 5 = mkF m 0 #[.val (.ref x0), .val (.int x1), .val (.int x2), .unset, .unset] [] := by first | (simp [entryFrame, mkF, argsToLocals, Value.category]; done) | rfl
theorem own_ef31 (m : MethodId) (x0 : Addr) (x1 : Int32) (x2 : Int32) : entryFrame m #[(.ref x0), (.int x1), (.int x2)] 3 = mkF m 0 #[.val (.ref x0), .val (.int x1), .val (.int x2)] [] := by first | (simp [entryFrame, mkF, argsToLocals, Value.category]; done) | rfl
theorem own_d16_7 : decode jdk_43_method_47_code 7 = .ok (.new 1, 3) := by decide +kernel
theorem own_d16_10 : decode jdk_43_method_47_code 10 = .ok (.dup, 1) := by decide +kernel
theorem own_d16_11 : decode jdk_43_method_47_code 11 = .ok (.aload_n 0, 1) := by decide +kernel
theorem own_d16_12 : decode jdk_43_method_47_code 12 = .ok (.iload_n 1, 1) := by decide +kernel
theorem own_d16_13 : decode jdk_43_method_47_code 13 = .ok (.iload_n 1, 1) := by decide +kernel
theorem own_d16_14 : decode jdk_43_method_47_code 14 = .ok (.iload_n 2, 1) := by decide +kernel
theorem own_d16_15 : decode jdk_43_method_47_code 15 = .ok (.iadd, 1) := by decide +kernel
theorem own_d16_16 : decode jdk_43_method_47_code 16 = .ok (.invokestatic 232, 3) := by decide +kernel
abbrev own_y20 : MethodName := ⟨"java/util/Arrays", "copyOfRange", "([BII)[B"⟩
theorem own_ef32 (m : MethodId) (x0 : Addr) (x1 : Int32) (x2 : Int32) : entryFrame m #[(.ref x0), (.int x1), (.int x2)] 3 = mkF m 0 #[.val (.ref x0), .val (.int x1), .val (.int x2)] [] := by first | (simp [entryFrame, mkF, argsToLocals, Value.category]; done) | rfl
theorem own_pn7 : plainName "java/util/Arrays" = true := by first | (simp [plainName, overriddenIn]; done) | decide +kernel
theorem own_d18_0 : decode jdk_65_method_132_code 0 = .ok (.iload_n 1, 1) := by decide +kernel
theorem own_d18_1 : decode jdk_65_method_132_code 1 = .ok (.ifCond .ne 9, 3) := by decide +kernel
theorem own_d18_4 : decode jdk_65_method_132_code 4 = .ok (.iload_n 2, 1) := by decide +kernel
theorem own_d18_5 : decode jdk_65_method_132_code 5 = .ok (.aload_n 0, 1) := by decide +kernel
theorem own_d18_6 : decode jdk_65_method_132_code 6 = .ok (.arraylength, 1) := by decide +kernel
theorem own_d18_7 : decode jdk_65_method_132_code 7 = .ok (.if_icmp .eq 10, 3) := by decide +kernel
theorem own_d18_10 : decode jdk_65_method_132_code 10 = .ok (.aload_n 0, 1) := by decide +kernel
theorem own_d18_11 : decode jdk_65_method_132_code 11 = .ok (.iload_n 1, 1) := by decide +kernel
theorem own_d18_12 : decode jdk_65_method_132_code 12 = .ok (.iload_n 2, 1) := by decide +kernel
theorem own_d18_13 : decode jdk_65_method_132_code 13 = .ok (.invokestatic 339, 3) := by decide +kernel
abbrev own_y21 : MethodName := ⟨"java/util/Arrays", "copyOfRangeByte", "([BII)[B"⟩
theorem own_ef33 (m : MethodId) (x0 : Addr) (x1 : Int32) (x2 : Int32) : entryFrame m #[(.ref x0), (.int x1), (.int x2)] 5 = mkF m 0 #[.val (.ref x0), .val (.int x1), .val (.int x2), .unset, .unset] [] := by first | (simp [entryFrame, mkF, argsToLocals, Value.category]; done) | rfl
theorem own_d19_0 : decode jdk_65_method_133_code 0 = .ok (.iload_n 1, 1) := by decide +kernel
theorem own_d19_1 : decode jdk_65_method_133_code 1 = .ok (.iload_n 2, 1) := by decide +kernel
theorem own_d19_2 : decode jdk_65_method_133_code 2 = .ok (.invokestatic 343, 3) := by decide +kernel
abbrev own_y22 : MethodName := ⟨"java/util/Arrays", "checkLength", "(II)V"⟩
theorem own_ef34 (m : MethodId) (x0 : Int32) (x1 : Int32) : entryFrame m #[(.int x0), (.int x1)] 2 = mkF m 0 #[.val (.int x0), .val (.int x1)] [] := by first | (simp [entryFrame, mkF, argsToLocals, Value.category]; done) | rfl
theorem own_d20_0 : decode jdk_65_method_131_code 0 = .ok (.iload_n 1, 1) := by decide +kernel
theorem own_d20_1 : decode jdk_65_method_131_code 1 = .ok (.iload_n 0, 1) := by decide +kernel
theorem own_d20_2 : decode jdk_65_method_131_code 2 = .ok (.if_icmp .ge 35, 3) := by decide +kernel
theorem own_d20_37 : decode jdk_65_method_131_code 37 = .ok (.return_, 1) := by decide +kernel
def own_Q_rmA32 (Z : State) (p0 : Int32) (p1 : Int32)  (cs : Int32) (wf : Value) (h0 : Heap) (n0 : Nat) (v : Option Value) (h : Heap) (L : List Loc) : Prop := v = none ∧ Fr n0 L ∧ h = h0
set_option maxRecDepth 65536 in
set_option maxHeartbeats 40000000 in
theorem rmA32 (l : Launch) (Z : State) (a0 : Array Value) (hw : ∀ d ∈ tables_1, d.before a0 Z = true) (ws : List Jvm.Cond) (p0 : Int32) (p1 : Int32)  (cs : Int32) (wf : Value) (h0 : Heap) (n0 : Nat) (O0 : Old Z n0 h0) (G : own_Gl Z cs wf) (hba : ¬ (p1 < p0)) :
    MetFree l own_y22 (head1 (Jvm.Cond.code own_y22 jdk_65_method_131_code 2 none :: ws) ({ frames := 0, cells := 0, slots := 0, locals := 0 } : Room)) (fun a U => a = #[(.int p0), (.int p1)] ∧ Z.Warmed39 U.vm ∧ U.heap = h0) (fun _ _ _ _ _ => True) (fun _ U o U' => ∃ v L, o = .returned v ∧ own_Q_rmA32 Z p0 p1 cs wf h0 n0 v U'.heap L ∧ FrameEnd U o U' L ({ frames := 0, cells := 0, slots := 0, locals := 0 } : Room).cells ({ frames := 0, cells := 0, slots := 0, locals := 0 } : Room).slots) := by
  refine MetFree.of_bodySF (plainFor_of_name own_pn7) hisR ?_
  intro p e s m args below meth c s₁ Bd hml0 hP hK
  obtain ⟨rfl, hZ, hh⟩ := hP
  have hx := Bd.exec
  have hby := Bd.bytes
  have hml : c.maxLocals = 2 := hml0
  have hown : s.vm.findClass "java/util/Arrays" = some m.cls := findClass_of_methodNamed Bd.named
  have hnm := (name_of_methodNamed Bd.named Bd.method).1
  have X0 : Stand p l e ({ frames := 0, cells := 0, slots := 0, locals := 0 } : Room) s m #[(.int p0), (.int p1)] below meth c s₁ [] 0 0 := Stand.of_body Bd
  have e0 : s₁.heap = h0 := by rw [← hh, Bd.state]; rfl
  have N0 := Fr.nil n0
  have Z0 : n0 ≤ h0.size := O0.1 ▸ O0.2.1
  have g0 : ∀ t, Steps p.tables e below (s₁.setTop (mkF m 0 #[.val (.int p0), .val (.int p1)] [])) t → Steps p.tables e below (s₁.setTop (entryFrame m #[(.int p0), (.int p1)] 2)) t := fun t k => castTop (own_ef34 m (p0) (p1)) k
  have G0 := G
  obtain ⟨S_CS, hcs, S_WF, hwf⟩ := G
  have hc1 : ¬ (p1 < p0) := hba
  have g2 : ∀ t, Steps p.tables e below (s₁.setTop (mkF m 37 #[.val (.int p0), .val (.int p1)] [])) t → Steps p.tables e below (s₁.setTop (entryFrame m #[(.int p0), (.int p1)] 2)) t := by
    intro t k
    refine g0 t ?_
    show Steps p.tables e below (s₁.setTop (mkF m 0 #[.val (.int p0), .val (.int p1)] [])) _
    refine XS.iloadN X0.here hx rfl (hb hby own_d20_0) rfl ?_
    refine XS.iloadN X0.here hx rfl (hb hby own_d20_1) rfl ?_
    refine XS.icmpYes X0.here hx rfl (pc0 := 2) (pc' := 37) rfl (hb hby own_d20_2) rfl (flt hc1).2.1 (by decide) (by decide) ?_
    exact k
  obtain ⟨fs, hrt, hrun, hended, hW, hsame⟩ := X0.leave (v := none) (fun _ => rfl)
  refine ⟨_, _, g2 _ ?_, hrun, hended, _, _, rfl, ?_, ⟨_, rfl⟩, hW, hsame.mono (by decide) (by decide)⟩
  · show Steps p.tables e below (s₁.setTop (mkF m 37 #[.val (.int p0), .val (.int p1)] [])) _
    exact X0.returnOut hx Bd.returns (hb hby own_d20_37) hrt
  · show own_Q_rmA32 Z p0 p1 cs wf h0 n0 _ s₁.heap _
    rw [e0]
    exact ⟨rfl, N0, rfl⟩
theorem own_d19_5 : decode jdk_65_method_133_code 5 = .ok (.iload_n 2, 1) := by decide +kernel
theorem own_d19_6 : decode jdk_65_method_133_code 6 = .ok (.iload_n 1, 1) := by decide +kernel
theorem own_d19_7 : decode jdk_65_method_133_code 7 = .ok (.isub, 1) := by decide +kernel
theorem own_d19_8 : decode jdk_65_method_133_code 8 = .ok (.istore_n 3, 1) := by decide +kernel
theorem own_d19_9 : decode jdk_65_method_133_code 9 = .ok (.iload_n 3, 1) := by decide +kernel
theorem own_d19_10 : decode jdk_65_method_133_code 10 = .ok (.newarray .byte, 2) := by decide +kernel
theorem own_d19_12 : decode jdk_65_method_133_code 12 = .ok (.astore 4, 2) := by decide +kernel
theorem own_d19_14 : decode jdk_65_method_133_code 14 = .ok (.aload_n 0, 1) := by decide +kernel
theorem own_d19_15 : decode jdk_65_method_133_code 15 = .ok (.iload_n 1, 1) := by decide +kernel
theorem own_d19_16 : decode jdk_65_method_133_code 16 = .ok (.aload 4, 2) := by decide +kernel
theorem own_d19_18 : decode jdk_65_method_133_code 18 = .ok (.iconst 0, 1) := by decide +kernel
theorem own_d19_19 : decode jdk_65_method_133_code 19 = .ok (.aload_n 0, 1) := by decide +kernel
theorem own_d19_20 : decode jdk_65_method_133_code 20 = .ok (.arraylength, 1) := by decide +kernel
theorem own_d19_21 : decode jdk_65_method_133_code 21 = .ok (.iload_n 1, 1) := by decide +kernel
theorem own_d19_22 : decode jdk_65_method_133_code 22 = .ok (.isub, 1) := by decide +kernel
theorem own_d19_23 : decode jdk_65_method_133_code 23 = .ok (.iload_n 3, 1) := by decide +kernel
theorem own_d19_24 : decode jdk_65_method_133_code 24 = .ok (.invokestatic 304, 3) := by decide +kernel
abbrev own_y23 : MethodName := ⟨"java/lang/Math", "min", "(II)I"⟩
theorem own_ef35 (m : MethodId) (x0 : Int32) (x1 : Int32) : entryFrame m #[(.int x0), (.int x1)] 2 = mkF m 0 #[.val (.int x0), .val (.int x1)] [] := by first | (simp [entryFrame, mkF, argsToLocals, Value.category]; done) | rfl
theorem own_d21_0 : decode jdk_29_method_69_code 0 = .ok (.iload_n 0, 1) := by decide +kernel
theorem own_d21_1 : decode jdk_29_method_69_code 1 = .ok (.iload_n 1, 1) := by decide +kernel
theorem own_d21_2 : decode jdk_29_method_69_code 2 = .ok (.if_icmp .gt 7, 3) := by decide +kernel
theorem own_d21_9 : decode jdk_29_method_69_code 9 = .ok (.iload_n 1, 1) := by decide +kernel
theorem own_d21_10 : decode jdk_29_method_69_code 10 = .ok (.ireturn, 1) := by decide +kernel
theorem own_d21_5 : decode jdk_29_method_69_code 5 = .ok (.iload_n 0, 1) := by decide +kernel
theorem own_d21_6 : decode jdk_29_method_69_code 6 = .ok (.goto 4, 3) := by decide +kernel
def own_Q_rmA33 (Z : State) (p0 : Int32) (p1 : Int32) (r : Int32) (cs : Int32) (wf : Value) (h0 : Heap) (n0 : Nat) (v : Option Value) (h : Heap) (L : List Loc) : Prop := v = some (.int r) ∧ Fr n0 L ∧ h = h0
set_option maxRecDepth 65536 in
set_option maxHeartbeats 40000000 in
theorem rmA33 (l : Launch) (Z : State) (a0 : Array Value) (hw : ∀ d ∈ tables_1, d.before a0 Z = true) (ws : List Jvm.Cond) (p0 : Int32) (p1 : Int32) (r : Int32) (cs : Int32) (wf : Value) (h0 : Heap) (n0 : Nat) (O0 : Old Z n0 h0) (G : own_Gl Z cs wf) (hr : (if p1 < p0 then p1 else p0) = r) :
    MetFree l own_y23 (head1 (Jvm.Cond.code own_y23 jdk_29_method_69_code 2 (some .int) :: ws) ({ frames := 0, cells := 0, slots := 0, locals := 0 } : Room)) (fun a U => a = #[(.int p0), (.int p1)] ∧ Z.Warmed39 U.vm ∧ U.heap = h0) (fun _ _ _ _ _ => True) (fun _ U o U' => ∃ v L, o = .returned v ∧ own_Q_rmA33 Z p0 p1 r cs wf h0 n0 v U'.heap L ∧ FrameEnd U o U' L ({ frames := 0, cells := 0, slots := 0, locals := 0 } : Room).cells ({ frames := 0, cells := 0, slots := 0, locals := 0 } : Room).slots) := by
  refine MetFree.of_bodySF (Jvm.Free.JP.mathPlain rfl (by decide +kernel)) hisR ?_
  intro p e s m args below meth c s₁ Bd hml0 hP hK
  obtain ⟨rfl, hZ, hh⟩ := hP
  have hx := Bd.exec
  have hby := Bd.bytes
  have hml : c.maxLocals = 2 := hml0
  have hown : s.vm.findClass "java/lang/Math" = some m.cls := findClass_of_methodNamed Bd.named
  have hnm := (name_of_methodNamed Bd.named Bd.method).1
  have X0 : Stand p l e ({ frames := 0, cells := 0, slots := 0, locals := 0 } : Room) s m #[(.int p0), (.int p1)] below meth c s₁ [] 0 0 := Stand.of_body Bd
  have e0 : s₁.heap = h0 := by rw [← hh, Bd.state]; rfl
  have N0 := Fr.nil n0
  have Z0 : n0 ≤ h0.size := O0.1 ▸ O0.2.1
  have g0 : ∀ t, Steps p.tables e below (s₁.setTop (mkF m 0 #[.val (.int p0), .val (.int p1)] [])) t → Steps p.tables e below (s₁.setTop (entryFrame m #[(.int p0), (.int p1)] 2)) t := fun t k => castTop (own_ef35 m (p0) (p1)) k
  have G0 := G
  obtain ⟨S_CS, hcs, S_WF, hwf⟩ := G
  have g2 : ∀ t, Steps p.tables e below (s₁.setTop (mkF m 2 #[.val (.int p0), .val (.int p1)] [(.int p1), (.int p0)])) t → Steps p.tables e below (s₁.setTop (entryFrame m #[(.int p0), (.int p1)] 2)) t := by
    intro t k
    refine g0 t ?_
    show Steps p.tables e below (s₁.setTop (mkF m 0 #[.val (.int p0), .val (.int p1)] [])) _
    refine XS.iloadN X0.here hx rfl (hb hby own_d21_0) rfl ?_
    refine XS.iloadN X0.here hx rfl (hb hby own_d21_1) rfl ?_
    exact k
  by_cases hc1 : p1 < p0
  · have g3 : ∀ t, Steps p.tables e below (s₁.setTop (mkF m 10 #[.val (.int p0), .val (.int p1)] [(.int p1)])) t → Steps p.tables e below (s₁.setTop (entryFrame m #[(.int p0), (.int p1)] 2)) t := by
      intro t k
      refine g2 t ?_
      show Steps p.tables e below (s₁.setTop (mkF m 2 #[.val (.int p0), .val (.int p1)] [(.int p1), (.int p0)])) _
      refine XS.icmpYes X0.here hx rfl (pc0 := 2) (pc' := 9) rfl (hb hby own_d21_2) rfl (tlt hc1).2.2.1 (by decide) (by decide) ?_
      refine XS.iloadN X0.here hx rfl (hb hby own_d21_9) rfl ?_
      exact k
    obtain ⟨fs, hrt, hrun, hended, hW, hsame⟩ := X0.leave (v := some (.int p1)) (fun h => by rw [Bd.returns] at h; cases h)
    refine ⟨_, _, g3 _ ?_, hrun, hended, _, _, rfl, ?_, ⟨_, rfl⟩, hW, hsame.mono (by decide) (by decide)⟩
    · show Steps p.tables e below (s₁.setTop (mkF m 10 #[.val (.int p0), .val (.int p1)] [(.int p1)])) _
      exact retI X0 hx Bd.returns (hb hby own_d21_10) hrt
    · show own_Q_rmA33 Z p0 p1 r cs wf h0 n0 _ s₁.heap _
      rw [e0]
      exact ⟨by rw [← hr, if_pos hc1], N0, rfl⟩
  · have g4 : ∀ t, Steps p.tables e below (s₁.setTop (mkF m 10 #[.val (.int p0), .val (.int p1)] [(.int p0)])) t → Steps p.tables e below (s₁.setTop (entryFrame m #[(.int p0), (.int p1)] 2)) t := by
      intro t k
      refine g2 t ?_
      show Steps p.tables e below (s₁.setTop (mkF m 2 #[.val (.int p0), .val (.int p1)] [(.int p1), (.int p0)])) _
      refine XS.icmpNo X0.here hx rfl (hb hby own_d21_2) rfl (flt hc1).2.2.1 ?_
      refine XS.iloadN X0.here hx rfl (hb hby own_d21_5) rfl ?_
      refine XS.goto X0.here hx rfl (pc0 := 6) (pc' := 10) rfl (hb hby own_d21_6) (by decide) (by decide) ?_
      exact k
    obtain ⟨fs, hrt, hrun, hended, hW, hsame⟩ := X0.leave (v := some (.int p0)) (fun h => by rw [Bd.returns] at h; cases h)
    refine ⟨_, _, g4 _ ?_, hrun, hended, _, _, rfl, ?_, ⟨_, rfl⟩, hW, hsame.mono (by decide) (by decide)⟩
    · show Steps p.tables e below (s₁.setTop (mkF m 10 #[.val (.int p0), .val (.int p1)] [(.int p0)])) _
      exact retI X0 hx Bd.returns (hb hby own_d21_10) hrt
    · show own_Q_rmA33 Z p0 p1 r cs wf h0 n0 _ s₁.heap _
      rw [e0]
      exact ⟨by rw [← hr, if_neg hc1], N0, rfl⟩
theorem own_pd20 : parseMethodDescriptor "(II)I" = some ⟨[.int, .int], some .int⟩ := by decide +kernel
theorem own_d19_27 : decode jdk_65_method_133_code 27 = .ok (.invokestatic 150, 3) := by decide +kernel
theorem own_d19_30 : decode jdk_65_method_133_code 30 = .ok (.aload 4, 2) := by decide +kernel
theorem own_d19_32 : decode jdk_65_method_133_code 32 = .ok (.areturn, 1) := by decide +kernel
def own_Q_rmA31 (Z : State) (ob0 : Addr) (k_ob0 : ClassId) (ob0_0 : Int32) (ob0_1 : Int32) (ob0_2 : Int32) (ob0_3 : Int32) (p1 : Int32) (p2 : Int32) (mm : Int32) (cs : Int32) (wf : Value) (h0 : Heap) (n0 : Nat) (v : Option Value) (h : Heap) (L : List Loc) : Prop := ∃ rb : Addr, ∃ rk : ClassId, v = some (.ref rb) ∧ Fr n0 L ∧ Keep h0 h [] ∧ h0.size ≤ rb ∧ Arv Z h rb rk .byte mm (own_bsub [(.int ob0_0), (.int ob0_1), (.int ob0_2), (.int ob0_3)] p1 mm) (.int (0 : Int32))
set_option maxRecDepth 65536 in
set_option maxHeartbeats 40000000 in
theorem rmA31 (l : Launch) (Z : State) (a0 : Array Value) (hw : ∀ d ∈ tables_1, d.before a0 Z = true) (ws : List Jvm.Cond) (ob0 : Addr) (k_ob0 : ClassId) (ob0_0 : Int32) (ob0_1 : Int32) (ob0_2 : Int32) (ob0_3 : Int32) (p1 : Int32) (p2 : Int32) (mm : Int32) (cs : Int32) (wf : Value) (h0 : Heap) (n0 : Nat) (O0 : Old Z n0 h0) (G : own_Gl Z cs wf) (V_ob0 : Arv Z h0 ob0 k_ob0 .byte (4 : Int32) [(.int ob0_0), (.int ob0_1), (.int ob0_2), (.int ob0_3)] (.int (0 : Int32))) (ha0 : ¬ (p1 < (0 : Int32))) (hba : ¬ (p2 < p1)) (hb4 : ¬ ((4 : Int32) < p2)) (hm : (p2 - p1) = mm) (hm0 : ¬ (mm < 0)) (hm4 : mm.toNatClampNeg ≤ 4) (hcp : p1.toNatClampNeg + mm.toNatClampNeg ≤ (4 : Int32).toNatClampNeg) (hmin : (if mm < ((4 : Int32) - p1) then mm else ((4 : Int32) - p1)) = mm) (ht : (p1 + mm) = p2) :
    MetFree l own_y21 (head1 (Jvm.Cond.code own_y21 jdk_65_method_133_code 5 (some (.array .byte)) :: ws) ({ frames := 1, cells := 1, slots := 4, locals := 51 } : Room)) (fun a U => a = #[(.ref ob0), (.int p1), (.int p2)] ∧ Z.Warmed39 U.vm ∧ U.heap = h0) (fun _ _ _ _ _ => True) (fun _ U o U' => ∃ v L, o = .returned v ∧ own_Q_rmA31 Z ob0 k_ob0 ob0_0 ob0_1 ob0_2 ob0_3 p1 p2 mm cs wf h0 n0 v U'.heap L ∧ FrameEnd U o U' L ({ frames := 1, cells := 1, slots := 4, locals := 51 } : Room).cells ({ frames := 1, cells := 1, slots := 4, locals := 51 } : Room).slots) := by
  refine MetFree.of_bodySF (plainFor_of_name own_pn7) hisR ?_
  intro p e s m args below meth c s₁ Bd hml0 hP hK
  obtain ⟨rfl, hZ, hh⟩ := hP
  have hx := Bd.exec
  have hby := Bd.bytes
  have hml : c.maxLocals = 5 := hml0
  have hown : s.vm.findClass "java/util/Arrays" = some m.cls := findClass_of_methodNamed Bd.named
  have hnm := (name_of_methodNamed Bd.named Bd.method).1
  have X0 : Stand p l e ({ frames := 1, cells := 1, slots := 4, locals := 51 } : Room) s m #[(.ref ob0), (.int p1), (.int p2)] below meth c s₁ [] 0 0 := Stand.of_body Bd
  have e0 : s₁.heap = h0 := by rw [← hh, Bd.state]; rfl
  have N0 := Fr.nil n0
  have Z0 : n0 ≤ h0.size := O0.1 ▸ O0.2.1
  have g0 : ∀ t, Steps p.tables e below (s₁.setTop (mkF m 0 #[.val (.ref ob0), .val (.int p1), .val (.int p2), .unset, .unset] [])) t → Steps p.tables e below (s₁.setTop (entryFrame m #[(.ref ob0), (.int p1), (.int p2)] 5)) t := fun t k => castTop (own_ef33 m (ob0) (p1) (p2)) k
  have G0 := G
  obtain ⟨S_CS, hcs, S_WF, hwf⟩ := G
  obtain ⟨_, _, ⟨T1, L1, k1, n1⟩, -, X1, ⟨Lc1, hQ1, l1, y1, z1⟩, st1⟩ := Jvm.LawKit.callS X0 hx (y := own_y22) hown (mvT hZ (own_w hw 111 rfl)) (mvT hZ (own_w hw 112 rfl)) (mvT hZ (own_w hw 106 rfl)) (mvT hZ (own_w hw 113 rfl)) (by decide) (backOf (W := 0) (rmA32 l Z a0 hw [] (p1) (p2)  cs wf h0 n0 O0 G0   hba) hZ (own_w hw 113 rfl) (own_w hw 106 rfl) (by decide) (by decide)) (g := (mkF m 2 #[.val (.ref ob0), .val (.int p1), .val (.int p2), .unset, .unset] [(.int p2), (.int p1)])) rfl (by rw [hml]; rfl) (argsL := [(.int p1), (.int p2)]) (rest := []) (lenOf own_pd4 rfl) rfl (by show 2 * 0 + _ ≤ _; exact Nat.le_of_eq rfl) (hb hby own_d19_2) (fun _ _ => ⟨rfl, e0, (by decide : 0 + 0 ≤ _), (by decide : 0 + 0 ≤ _)⟩)
  dsimp only [Pt.U, Pt.locs, Pt.cells, Pt.slots] at X1 l1 y1 z1 st1 hQ1
  subst l1 y1 z1
  obtain ⟨rfl, Nq1, e1⟩ := hQ1
  have N1 := Fr.app N0 Nq1
  have g2 : ∀ t, Steps p.tables e below (T1.setTop (mkF m 8 #[.val (.ref ob0), .val (.int p1), .val (.int p2), .unset, .unset] [(.int mm)])) t → Steps p.tables e below (s₁.setTop (entryFrame m #[(.ref ob0), (.int p1), (.int p2)] 5)) t := by
    intro t k
    rw [← hm] at k
    refine g0 t ?_
    show Steps p.tables e below (s₁.setTop (mkF m 0 #[.val (.ref ob0), .val (.int p1), .val (.int p2), .unset, .unset] [])) _
    refine XS.iloadN X0.here hx rfl (hb hby own_d19_0) rfl ?_
    refine XS.iloadN X0.here hx rfl (hb hby own_d19_1) rfl ?_
    refine st1 _ ?_
    refine XS.iloadN X1.here hx rfl (hb hby own_d19_5) rfl ?_
    show Steps p.tables e below (T1.setTop (mkF m 6 #[.val (.ref ob0), .val (.int p1), .val (.int p2), .unset, .unset] [(.int p2)])) _
    refine XS.iloadN X1.here hx rfl (hb hby own_d19_6) rfl ?_
    show Steps p.tables e below (T1.setTop (mkF m 7 #[.val (.ref ob0), .val (.int p1), .val (.int p2), .unset, .unset] [(.int p1), (.int p2)])) _
    refine XS.isub X1.here hx rfl (hb hby own_d19_7) rfl ?_
    exact k
  obtain ⟨T3, h3, k3, X3, e3, E3, A3, st3⟩ := newP X1 hx hZ (own_w hw 19 rfl) e1 (g := (mkF m 10 #[.val (.ref ob0), .val (.int p1), .val (.int p2), .val (.int mm), .unset] [(.int mm)])) rfl (hb hby own_d19_10) rfl hm0 (cap := 4) hm4 (by decide) (by decide) (by decide)
  obtain ⟨b3, q_b3⟩ : ∃ z, z = h0.size := ⟨_, rfl⟩
  rw [← q_b3] at A3 st3
  have sz_b3 : h0.size ≤ b3 := Nat.le_of_eq q_b3.symm
  have gz_b3 : n0 ≤ b3 := Nat.le_trans Z0 sz_b3
  have ne_ob0_b3 : ob0 ≠ b3 := Nat.ne_of_lt (Nat.lt_of_lt_of_le V_ob0.lt (Nat.le_of_eq q_b3.symm))
  have V3 : Arv Z h3 b3 k3 .byte mm [(.int (0 : Int32)), (.int (0 : Int32)), (.int (0 : Int32)), (.int (0 : Int32))] (.int (0 : Int32)) := (Arv.new A3 hm0).pad (pad_rep [] (.int (0 : Int32)) 4)
  have f4 := (V_ob0.ext E3)
  obtain ⟨c5, Ar5, cq5, S5, Nn5, Hh5, Gg5⟩ := id f4
  have o6 : Old Z n0 h3 := (Old.ext O0 E3)
  obtain ⟨_, _, ⟨T7, L7, k7, n7⟩, -, X7, ⟨Lc7, hQ7, l7, y7, z7⟩, st7⟩ := Jvm.LawKit.callS X3 hx (y := own_y23) hown (mvT hZ (own_w hw 114 rfl)) (mvT hZ (own_w hw 115 rfl)) (mvT hZ (own_w hw 116 rfl)) (mvT hZ (own_w hw 117 rfl)) (by decide) (backOf (W := 4) (rmA33 l Z a0 hw [] (((4 : Int32) - p1)) (mm) mm cs wf h3 n0 o6 G0   hmin) hZ (own_w hw 117 rfl) (own_w hw 116 rfl) (by decide) (by decide)) (g := (mkF m 24 #[.val (.ref ob0), .val (.int p1), .val (.int p2), .val (.int mm), .val (.ref b3)] [(.int mm), (.int ((4 : Int32) - p1)), (.int (0 : Int32)), (.ref b3), (.int p1), (.ref ob0)])) rfl (by rw [hml]; rfl) (argsL := [(.int ((4 : Int32) - p1)), (.int mm)]) (rest := [(.int (0 : Int32)), (.ref b3), (.int p1), (.ref ob0)]) (lenOf own_pd20 rfl) rfl (by show 2 * 0 + _ ≤ _; exact Nat.le_of_eq rfl) (hb hby own_d19_24) (fun _ _ => ⟨rfl, e3, (by decide : 1 + 0 ≤ _), (by decide : 4 + 0 ≤ _)⟩)
  dsimp only [Pt.U, Pt.locs, Pt.cells, Pt.slots] at X7 l7 y7 z7 st7 hQ7
  subst l7 y7 z7
  obtain ⟨rfl, Nq7, e7⟩ := hQ7
  have N7 := Fr.app N1 Nq7
  obtain ⟨T8, h8, L8, X8, e8, N8, K8, V8, st8⟩ := cpA X7 hx hZ hown (own_w hw 118 rfl) (own_w hw 121 rfl) (own_w hw 119 rfl) (own_w hw 120 rfl) e7 f4 V3 (Or.inl ⟨rfl, rfl⟩) ha0 (by decide) hm0 hcp (Nat.le_of_eq (Nat.zero_add _)) rfl (Nat.le_trans (Nat.le_of_eq (Nat.zero_add _)) hm4) N7 gz_b3 (g := (mkF m 27 #[.val (.ref ob0), .val (.int p1), .val (.int p2), .val (.int mm), .val (.ref b3)] [(.int mm), (.int (0 : Int32)), (.ref b3), (.int p1), (.ref ob0)])) rfl (by rw [hml]; rfl) rfl (hb hby own_d19_27) (by decide) (W := 0) (by show 2 * 0 + _ ≤ _; exact Nat.le_of_eq rfl) (by decide)
  have V8a : Arv Z h8 b3 k3 .byte mm (own_bsub [(.int ob0_0), (.int ob0_1), (.int ob0_2), (.int ob0_3)] p1 mm) (.int (0 : Int32)) := V8
  have g9 : ∀ t, Steps p.tables e below (T8.setTop (mkF m 32 #[.val (.ref ob0), .val (.int p1), .val (.int p2), .val (.int mm), .val (.ref b3)] [(.ref b3)])) t → Steps p.tables e below (s₁.setTop (entryFrame m #[(.ref ob0), (.int p1), (.int p2)] 5)) t := by
    intro t k
    refine g2 t ?_
    show Steps p.tables e below (T1.setTop (mkF m 8 #[.val (.ref ob0), .val (.int p1), .val (.int p2), .unset, .unset] [(.int mm)])) _
    refine XS.istoreN X1.here hx rfl (hb hby own_d19_8) rfl (l' := #[.val (.ref ob0), .val (.int p1), .val (.int p2), .val (.int mm), .unset]) rfl ?_
    refine XS.iloadN X1.here hx rfl (hb hby own_d19_9) rfl ?_
    refine st3 _ ?_
    refine XS.astore X3.here hx rfl (hb hby own_d19_12) rfl rfl (l' := #[.val (.ref ob0), .val (.int p1), .val (.int p2), .val (.int mm), .val (.ref b3)]) rfl ?_
    show Steps p.tables e below (T3.setTop (mkF m 14 #[.val (.ref ob0), .val (.int p1), .val (.int p2), .val (.int mm), .val (.ref b3)] [])) _
    refine XS.aloadN X3.here hx rfl (hb hby own_d19_14) rfl rfl ?_
    refine XS.iloadN X3.here hx rfl (hb hby own_d19_15) rfl ?_
    refine XS.aload X3.here hx rfl (hb hby own_d19_16) rfl rfl ?_
    refine XS.iconst X3.here hx rfl (hb hby own_d19_18) ?_
    show Steps p.tables e below (T3.setTop (mkF m 19 #[.val (.ref ob0), .val (.int p1), .val (.int p2), .val (.int mm), .val (.ref b3)] [(.int (0 : Int32)), (.ref b3), (.int p1), (.ref ob0)])) _
    refine XS.aloadN X3.here hx rfl (hb hby own_d19_19) rfl rfl ?_
    show Steps p.tables e below (T3.setTop (mkF m 20 #[.val (.ref ob0), .val (.int p1), .val (.int p2), .val (.int mm), .val (.ref b3)] [(.ref ob0), (.int (0 : Int32)), (.ref b3), (.int p1), (.ref ob0)])) _
    refine X3.arraylength hx (by rw [e3]; exact Ar5.1) (State.isArrayOf_alike hZ.alike Ar5.2.1) (g := (mkF m 20 #[.val (.ref ob0), .val (.int p1), .val (.int p2), .val (.int mm), .val (.ref b3)] [(.ref ob0), (.int (0 : Int32)), (.ref b3), (.int p1), (.ref ob0)])) rfl rfl (hb hby own_d19_20) _ ?_
    rw [len_of S5 Nn5]
    refine XS.iloadN X3.here hx rfl (hb hby own_d19_21) rfl ?_
    show Steps p.tables e below (T3.setTop (mkF m 22 #[.val (.ref ob0), .val (.int p1), .val (.int p2), .val (.int mm), .val (.ref b3)] [(.int p1), (.int (4 : Int32)), (.int (0 : Int32)), (.ref b3), (.int p1), (.ref ob0)])) _
    refine XS.isub X3.here hx rfl (hb hby own_d19_22) rfl ?_
    show Steps p.tables e below (T3.setTop (mkF m 23 #[.val (.ref ob0), .val (.int p1), .val (.int p2), .val (.int mm), .val (.ref b3)] [(.int ((4 : Int32) - p1)), (.int (0 : Int32)), (.ref b3), (.int p1), (.ref ob0)])) _
    refine XS.iloadN X3.here hx rfl (hb hby own_d19_23) rfl ?_
    refine st7 _ ?_
    refine st8 _ ?_
    refine XS.aload X8.here hx rfl (hb hby own_d19_30) rfl rfl ?_
    exact k
  obtain ⟨fs, hrt, hrun, hended, hW, hsame⟩ := X8.leave (v := some (.ref b3)) (fun h => by rw [Bd.returns] at h; cases h)
  refine ⟨_, _, g9 _ ?_, hrun, hended, _, _, rfl, ?_, ⟨_, rfl⟩, hW, hsame.mono (by decide) (by decide)⟩
  · show Steps p.tables e below (T8.setTop (mkF m 32 #[.val (.ref ob0), .val (.int p1), .val (.int p2), .val (.int mm), .val (.ref b3)] [(.ref b3)])) _
    jvm_step X8.here [X8.here.top, hx, (hb hby own_d19_32), X8.method', Bd.returns, Value.isRef, FieldType.isReference]
    first | (intro acts; rw [hrt _ acts rfl rfl rfl]) | rw [hrt _ _ rfl rfl rfl]
    exact Steps.refl _
  · show own_Q_rmA31 Z ob0 k_ob0 ob0_0 ob0_1 ob0_2 ob0_3 p1 p2 mm cs wf h0 n0 _ T8.heap _
    rw [e8]
    exact ⟨b3, _, rfl, N8, (Keep.trans (Keep.ext (Keep.refl h0 []) E3) K8 (allS (Or.inr sz_b3) all0)), sz_b3, V8a⟩
theorem own_pd21 : parseMethodDescriptor "([BII)[B" = some ⟨[(.array .byte), .int, .int], some (.array .byte)⟩ := by decide +kernel
theorem own_d18_16 : decode jdk_65_method_132_code 16 = .ok (.areturn, 1) := by decide +kernel
def own_Q_rmA30 (Z : State) (ob0 : Addr) (k_ob0 : ClassId) (ob0_0 : Int32) (ob0_1 : Int32) (ob0_2 : Int32) (ob0_3 : Int32) (p1 : Int32) (p2 : Int32) (mm : Int32) (cs : Int32) (wf : Value) (h0 : Heap) (n0 : Nat) (v : Option Value) (h : Heap) (L : List Loc) : Prop := ∃ rb : Addr, ∃ rk : ClassId, v = some (.ref rb) ∧ Fr n0 L ∧ Keep h0 h [] ∧ h0.size ≤ rb ∧ Arv Z h rb rk .byte mm (own_bsub [(.int ob0_0), (.int ob0_1), (.int ob0_2), (.int ob0_3)] p1 mm) (.int (0 : Int32))
set_option maxRecDepth 65536 in
set_option maxHeartbeats 40000000 in
theorem rmA30 (l : Launch) (Z : State) (a0 : Array Value) (hw : ∀ d ∈ tables_1, d.before a0 Z = true) (ws : List Jvm.Cond) (ob0 : Addr) (k_ob0 : ClassId) (ob0_0 : Int32) (ob0_1 : Int32) (ob0_2 : Int32) (ob0_3 : Int32) (p1 : Int32) (p2 : Int32) (mm : Int32) (cs : Int32) (wf : Value) (h0 : Heap) (n0 : Nat) (O0 : Old Z n0 h0) (G : own_Gl Z cs wf) (V_ob0 : Arv Z h0 ob0 k_ob0 .byte (4 : Int32) [(.int ob0_0), (.int ob0_1), (.int ob0_2), (.int ob0_3)] (.int (0 : Int32))) (ha0 : ¬ (p1 < (0 : Int32))) (hba : ¬ (p2 < p1)) (hb4 : ¬ ((4 : Int32) < p2)) (hm : (p2 - p1) = mm) (hm0 : ¬ (mm < 0)) (hm4 : mm.toNatClampNeg ≤ 4) (hcp : p1.toNatClampNeg + mm.toNatClampNeg ≤ (4 : Int32).toNatClampNeg) (hmin : (if mm < ((4 : Int32) - p1) then mm else ((4 : Int32) - p1)) = mm) (ht : (p1 + mm) = p2) (hs0 : p1 = (0 : Int32)) (hs4 : ¬ (p2 = (4 : Int32))) :
    MetFree l own_y20 (head1 (Jvm.Cond.code own_y20 jdk_65_method_132_code 3 (some (.array .byte)) :: ws) ({ frames := 2, cells := 1, slots := 4, locals := 67 } : Room)) (fun a U => a = #[(.ref ob0), (.int p1), (.int p2)] ∧ Z.Warmed39 U.vm ∧ U.heap = h0) (fun _ _ _ _ _ => True) (fun _ U o U' => ∃ v L, o = .returned v ∧ own_Q_rmA30 Z ob0 k_ob0 ob0_0 ob0_1 ob0_2 ob0_3 p1 p2 mm cs wf h0 n0 v U'.heap L ∧ FrameEnd U o U' L ({ frames := 2, cells := 1, slots := 4, locals := 67 } : Room).cells ({ frames := 2, cells := 1, slots := 4, locals := 67 } : Room).slots) := by
  refine MetFree.of_bodySF (plainFor_of_name own_pn7) hisR ?_
  intro p e s m args below meth c s₁ Bd hml0 hP hK
  obtain ⟨rfl, hZ, hh⟩ := hP
  have hx := Bd.exec
  have hby := Bd.bytes
  have hml : c.maxLocals = 3 := hml0
  have hown : s.vm.findClass "java/util/Arrays" = some m.cls := findClass_of_methodNamed Bd.named
  have hnm := (name_of_methodNamed Bd.named Bd.method).1
  have X0 : Stand p l e ({ frames := 2, cells := 1, slots := 4, locals := 67 } : Room) s m #[(.ref ob0), (.int p1), (.int p2)] below meth c s₁ [] 0 0 := Stand.of_body Bd
  have e0 : s₁.heap = h0 := by rw [← hh, Bd.state]; rfl
  have N0 := Fr.nil n0
  have Z0 : n0 ≤ h0.size := O0.1 ▸ O0.2.1
  have g0 : ∀ t, Steps p.tables e below (s₁.setTop (mkF m 0 #[.val (.ref ob0), .val (.int p1), .val (.int p2)] [])) t → Steps p.tables e below (s₁.setTop (entryFrame m #[(.ref ob0), (.int p1), (.int p2)] 3)) t := fun t k => castTop (own_ef32 m (ob0) (p1) (p2)) k
  have G0 := G
  obtain ⟨S_CS, hcs, S_WF, hwf⟩ := G
  have hc1 : p1 = (0 : Int32) := hs0
  obtain ⟨c2, Ar2, cq2, S2, Nn2, Hh2, Gg2⟩ := id V_ob0
  have hc3 : ¬ (p2 = (4 : Int32)) := hs4
  obtain ⟨_, _, ⟨T4, L4, k4, n4⟩, -, X4, ⟨Lc4, hQ4, l4, y4, z4⟩, st4⟩ := Jvm.LawKit.callS X0 hx (y := own_y21) hown (mvT hZ (own_w hw 108 rfl)) (mvT hZ (own_w hw 109 rfl)) (mvT hZ (own_w hw 106 rfl)) (mvT hZ (own_w hw 110 rfl)) (by decide) (backOf (W := 0) (rmA31 l Z a0 hw [] ob0 k_ob0 (ob0_0) (ob0_1) (ob0_2) (ob0_3) (p1) (p2) mm cs wf h0 n0 O0 G0 V_ob0  ha0 hba hb4 hm hm0 hm4 hcp hmin ht) hZ (own_w hw 110 rfl) (own_w hw 106 rfl) (by decide) (by decide)) (g := (mkF m 13 #[.val (.ref ob0), .val (.int p1), .val (.int p2)] [(.int p2), (.int p1), (.ref ob0)])) rfl (by rw [hml]; rfl) (argsL := [(.ref ob0), (.int p1), (.int p2)]) (rest := []) (lenOf own_pd21 rfl) rfl (by show 2 * 0 + _ ≤ _; exact Nat.le_of_eq rfl) (hb hby own_d18_13) (fun _ _ => ⟨rfl, e0, (by decide : 0 + 1 ≤ _), (by decide : 0 + 4 ≤ _)⟩)
  dsimp only [Pt.U, Pt.locs, Pt.cells, Pt.slots] at X4 l4 y4 z4 st4 hQ4
  subst l4 y4 z4
  obtain ⟨rb4, rk4, rfl, Nq4, K4, hb4, Va4⟩ := hQ4
  have N4 := Fr.app N0 Nq4
  have sz_rb4 : h0.size ≤ rb4 := hb4
  have gz_rb4 : n0 ≤ rb4 := Nat.le_trans Z0 sz_rb4
  have ne_ob0_rb4 : ob0 ≠ rb4 := Nat.ne_of_lt (Nat.lt_of_lt_of_le V_ob0.lt hb4)
  have g5 : ∀ t, Steps p.tables e below (T4.setTop (mkF m 16 #[.val (.ref ob0), .val (.int p1), .val (.int p2)] [(.ref rb4)])) t → Steps p.tables e below (s₁.setTop (entryFrame m #[(.ref ob0), (.int p1), (.int p2)] 3)) t := by
    intro t k
    refine g0 t ?_
    show Steps p.tables e below (s₁.setTop (mkF m 0 #[.val (.ref ob0), .val (.int p1), .val (.int p2)] [])) _
    refine XS.iloadN X0.here hx rfl (hb hby own_d18_0) rfl ?_
    refine XS.ifNo X0.here hx rfl (hb hby own_d18_1) rfl ((if0 _ _).trans (teq hc1).2) ?_
    refine XS.iloadN X0.here hx rfl (hb hby own_d18_4) rfl ?_
    refine XS.aloadN X0.here hx rfl (hb hby own_d18_5) rfl rfl ?_
    show Steps p.tables e below (s₁.setTop (mkF m 6 #[.val (.ref ob0), .val (.int p1), .val (.int p2)] [(.ref ob0), (.int p2)])) _
    refine X0.arraylength hx (by rw [e0]; exact Ar2.1) (State.isArrayOf_alike hZ.alike Ar2.2.1) (g := (mkF m 6 #[.val (.ref ob0), .val (.int p1), .val (.int p2)] [(.ref ob0), (.int p2)])) rfl rfl (hb hby own_d18_6) _ ?_
    rw [len_of S2 Nn2]
    refine XS.icmpNo X0.here hx rfl (hb hby own_d18_7) rfl (feq hc3).1 ?_
    refine XS.aloadN X0.here hx rfl (hb hby own_d18_10) rfl rfl ?_
    refine XS.iloadN X0.here hx rfl (hb hby own_d18_11) rfl ?_
    show Steps p.tables e below (s₁.setTop (mkF m 12 #[.val (.ref ob0), .val (.int p1), .val (.int p2)] [(.int p1), (.ref ob0)])) _
    refine XS.iloadN X0.here hx rfl (hb hby own_d18_12) rfl ?_
    refine st4 _ ?_
    exact k
  obtain ⟨fs, hrt, hrun, hended, hW, hsame⟩ := X4.leave (v := some (.ref rb4)) (fun h => by rw [Bd.returns] at h; cases h)
  refine ⟨_, _, g5 _ ?_, hrun, hended, _, _, rfl, ?_, ⟨_, rfl⟩, hW, hsame.mono (by decide) (by decide)⟩
  · show Steps p.tables e below (T4.setTop (mkF m 16 #[.val (.ref ob0), .val (.int p1), .val (.int p2)] [(.ref rb4)])) _
    jvm_step X4.here [X4.here.top, hx, (hb hby own_d18_16), X4.method', Bd.returns, Value.isRef, FieldType.isReference]
    first | (intro acts; rw [hrt _ acts rfl rfl rfl]) | rw [hrt _ _ rfl rfl rfl]
    exact Steps.refl _
  · show own_Q_rmA30 Z ob0 k_ob0 ob0_0 ob0_1 ob0_2 ob0_3 p1 p2 mm cs wf h0 n0 _ T4.heap _
    exact ⟨rb4, _, rfl, N4, (Keep.trans (Keep.refl h0 []) K4 all0), sz_rb4, Va4⟩
theorem own_d16_19 : decode jdk_43_method_47_code 19 = .ok (.iconst 0, 1) := by decide +kernel
theorem own_d16_20 : decode jdk_43_method_47_code 20 = .ok (.invokespecial 112, 3) := by decide +kernel
abbrev own_y24 : MethodName := ⟨"java/lang/String", "<init>", "([BB)V"⟩
theorem own_ef36 (m : MethodId) (x0 : Addr) (x1 : Addr) (x2 : Int32) : entryFrame m #[(.ref x0), (.ref x1), (.int x2)] 3 = mkF m 0 #[.val (.ref x0), .val (.ref x1), .val (.int x2)] [] := by first | (simp [entryFrame, mkF, argsToLocals, Value.category]; done) | rfl
theorem own_d22_0 : decode jdk_42_method_151_code 0 = .ok (.aload_n 0, 1) := by decide +kernel
theorem own_d22_1 : decode jdk_42_method_151_code 1 = .ok (.invokespecial 1, 3) := by decide +kernel
theorem own_d22_4 : decode jdk_42_method_151_code 4 = .ok (.aload_n 0, 1) := by decide +kernel
theorem own_d22_5 : decode jdk_42_method_151_code 5 = .ok (.aload_n 1, 1) := by decide +kernel
theorem own_d22_6 : decode jdk_42_method_151_code 6 = .ok (.putfield 9, 3) := by decide +kernel
theorem own_d22_9 : decode jdk_42_method_151_code 9 = .ok (.aload_n 0, 1) := by decide +kernel
theorem own_d22_10 : decode jdk_42_method_151_code 10 = .ok (.iload_n 2, 1) := by decide +kernel
theorem own_d22_11 : decode jdk_42_method_151_code 11 = .ok (.putfield 15, 3) := by decide +kernel
theorem own_d22_14 : decode jdk_42_method_151_code 14 = .ok (.return_, 1) := by decide +kernel
def own_Q_rmA34 (Z : State) (ob0 : Addr) (ob1 : Addr) (k_ob1 : ClassId) (ob1_z : Int32) (ob1_l : List Value)  (cs : Int32) (wf : Value) (h0 : Heap) (n0 : Nat) (v : Option Value) (h : Heap) (L : List Loc) : Prop := v = none ∧ Fr n0 L ∧ Keep h0 h [ob0] ∧ Exa Z h ob0 "java/lang/String" ∧ Fld Z h ob0 "java/lang/String" "coder" "B" (.int (0 : Int32)) ∧ Fld Z h ob0 "java/lang/String" "value" "[B" (.ref ob1)
set_option maxRecDepth 65536 in
set_option maxHeartbeats 40000000 in
theorem rmA34 (l : Launch) (Z : State) (a0 : Array Value) (hw : ∀ d ∈ tables_1, d.before a0 Z = true) (ws : List Jvm.Cond) (ob0 : Addr) (ob1 : Addr) (k_ob1 : ClassId) (ob1_z : Int32) (ob1_l : List Value)  (cs : Int32) (wf : Value) (h0 : Heap) (n0 : Nat) (O0 : Old Z n0 h0) (G : own_Gl Z cs wf) (E_ob0 : Exa Z h0 ob0 "java/lang/String") (F_ob0_coder : Fld Z h0 ob0 "java/lang/String" "coder" "B" (.int (0 : Int32))) (F_ob0_value : Fld Z h0 ob0 "java/lang/String" "value" "[B" .null) (V_ob1 : Arv Z h0 ob1 k_ob1 .byte ob1_z ob1_l (.int (0 : Int32))) (gz_ob0 : n0 ≤ ob0) :
    MetFree l own_y24 (head1 (Jvm.Cond.code own_y24 jdk_42_method_151_code 3 none :: ws) ({ frames := 1, cells := 0, slots := 0, locals := 12 } : Room)) (fun a U => a = #[(.ref ob0), (.ref ob1), (.int (0 : Int32))] ∧ Z.Warmed39 U.vm ∧ U.heap = h0) (fun _ _ _ _ _ => True) (fun _ U o U' => ∃ v L, o = .returned v ∧ own_Q_rmA34 Z ob0 ob1 k_ob1 ob1_z ob1_l cs wf h0 n0 v U'.heap L ∧ FrameEnd U o U' L ({ frames := 1, cells := 0, slots := 0, locals := 12 } : Room).cells ({ frames := 1, cells := 0, slots := 0, locals := 12 } : Room).slots) := by
  refine MetFree.of_bodySF (plainFor_of_name own_pn0) hisR ?_
  intro p e s m args below meth c s₁ Bd hml0 hP hK
  obtain ⟨rfl, hZ, hh⟩ := hP
  have hx := Bd.exec
  have hby := Bd.bytes
  have hml : c.maxLocals = 3 := hml0
  have hown : s.vm.findClass "java/lang/String" = some m.cls := findClass_of_methodNamed Bd.named
  have hnm := (name_of_methodNamed Bd.named Bd.method).1
  have X0 : Stand p l e ({ frames := 1, cells := 0, slots := 0, locals := 12 } : Room) s m #[(.ref ob0), (.ref ob1), (.int (0 : Int32))] below meth c s₁ [] 0 0 := Stand.of_body Bd
  have e0 : s₁.heap = h0 := by rw [← hh, Bd.state]; rfl
  have N0 := Fr.nil n0
  have Z0 : n0 ≤ h0.size := O0.1 ▸ O0.2.1
  have g0 : ∀ t, Steps p.tables e below (s₁.setTop (mkF m 0 #[.val (.ref ob0), .val (.ref ob1), .val (.int (0 : Int32))] [])) t → Steps p.tables e below (s₁.setTop (entryFrame m #[(.ref ob0), (.ref ob1), (.int (0 : Int32))] 3)) t := fun t k => castTop (own_ef36 m (ob0) (ob1) ((0 : Int32))) k
  have G0 := G
  obtain ⟨S_CS, hcs, S_WF, hwf⟩ := G
  obtain ⟨T1, X1, e1, st1⟩ := initO X0 hx hZ hown (own_w hw 11 rfl) (own_w hw 12 rfl) (own_w hw 13 rfl) e0 (g := (mkF m 1 #[.val (.ref ob0), .val (.ref ob1), .val (.int (0 : Int32))] [(.ref ob0)])) rfl (by rw [hml]; rfl) rfl (hb hby own_d22_1) (by decide) (W := 0) (by show 2 * 0 + _ ≤ _; exact Nat.le_of_eq rfl) (by decide)
  obtain ⟨T2, h2, X2, e2, W2, st2⟩ := putF X1 hx hZ hown (host := "") (Or.inl (own_w hw 28 rfl)) Via.refl e1 F_ob0_value E_ob0 (Or.inr ⟨(own_w hw 29 rfl), rfl, hnm⟩) (own_w hw 2 rfl) (ty := (.array .byte)) (by decide) rfl rfl (g := (mkF m 6 #[.val (.ref ob0), .val (.ref ob1), .val (.int (0 : Int32))] [(.ref ob1), (.ref ob0)])) rfl rfl (hb hby own_d22_6)
  have Fw2 := F_ob0_value.same W2
  have N2 := Fr.snoc X2 N0 gz_ob0
  have f3 := (E_ob0.wr W2)
  have f4 := (F_ob0_coder.other W2 (Or.inr (slot_ne (own_la1 hw) (own_la0 hw) (by decide) own_ty1 own_ty0)))
  obtain ⟨T5, h5, X5, e5, W5, st5⟩ := putFN X2 hx hZ hown (own_w hw 26 rfl) Via.refl e2 f4 f3 (Or.inr ⟨(own_w hw 27 rfl), rfl, hnm⟩) (own_w hw 2 rfl) (ty := .byte) (v' := (.int (0 : Int32))) (by decide) rfl rfl (g := (mkF m 11 #[.val (.ref ob0), .val (.ref ob1), .val (.int (0 : Int32))] [(.int (0 : Int32)), (.ref ob0)])) rfl rfl (hb hby own_d22_11)
  have Fw5 := f4.same W5
  have N5 := Fr.snoc X5 N2 gz_ob0
  have g6 : ∀ t, Steps p.tables e below (T5.setTop (mkF m 14 #[.val (.ref ob0), .val (.ref ob1), .val (.int (0 : Int32))] [])) t → Steps p.tables e below (s₁.setTop (entryFrame m #[(.ref ob0), (.ref ob1), (.int (0 : Int32))] 3)) t := by
    intro t k
    refine g0 t ?_
    show Steps p.tables e below (s₁.setTop (mkF m 0 #[.val (.ref ob0), .val (.ref ob1), .val (.int (0 : Int32))] [])) _
    refine XS.aloadN X0.here hx rfl (hb hby own_d22_0) rfl rfl ?_
    refine st1 _ ?_
    refine XS.aloadN X1.here hx rfl (hb hby own_d22_4) rfl rfl ?_
    refine XS.aloadN X1.here hx rfl (hb hby own_d22_5) rfl rfl ?_
    show Steps p.tables e below (T1.setTop (mkF m 6 #[.val (.ref ob0), .val (.ref ob1), .val (.int (0 : Int32))] [(.ref ob1), (.ref ob0)])) _
    refine st2 _ ?_
    refine XS.aloadN X2.here hx rfl (hb hby own_d22_9) rfl rfl ?_
    refine XS.iloadN X2.here hx rfl (hb hby own_d22_10) rfl ?_
    refine st5 _ ?_
    exact k
  obtain ⟨fs, hrt, hrun, hended, hW, hsame⟩ := X5.leave (v := none) (fun _ => rfl)
  have f7 := (f3.wr W5)
  have f8 := (Fw2.other W5 (Or.inr (slot_ne (own_la0 hw) (own_la1 hw) (by decide) own_ty0 own_ty1)))
  refine ⟨_, _, g6 _ ?_, hrun, hended, _, _, rfl, ?_, ⟨_, rfl⟩, hW, hsame.mono (by decide) (by decide)⟩
  · show Steps p.tables e below (T5.setTop (mkF m 14 #[.val (.ref ob0), .val (.ref ob1), .val (.int (0 : Int32))] [])) _
    exact X5.returnOut hx Bd.returns (hb hby own_d22_14) hrt
  · show own_Q_rmA34 Z ob0 ob1 k_ob1 ob1_z ob1_l cs wf h0 n0 _ T5.heap _
    rw [e5]
    exact ⟨rfl, N5, (Keep.wr (Keep.wr (Keep.refl h0 [ob0]) W2 (Or.inl (List.mem_of_getElem? (i := 0) rfl))) W5 (Or.inl (List.mem_of_getElem? (i := 0) rfl))), f7, Fw5, f8⟩
theorem own_pd22 : parseMethodDescriptor "([BB)V" = some ⟨[(.array .byte), .byte], none⟩ := by decide +kernel
theorem own_d16_23 : decode jdk_43_method_47_code 23 = .ok (.areturn, 1) := by decide +kernel
def own_Q_rmA29 (Z : State) (ob0 : Addr) (k_ob0 : ClassId) (ob0_0 : Int32) (ob0_1 : Int32) (ob0_2 : Int32) (ob0_3 : Int32) (p1 : Int32) (p2 : Int32) (tt : Int32) (cs : Int32) (wf : Value) (h0 : Heap) (n0 : Nat) (v : Option Value) (h : Heap) (L : List Loc) : Prop := ∃ sa sb : Addr, ∃ sk : ClassId, v = some (.ref sa) ∧ Fr n0 L ∧ Keep h0 h [] ∧ h0.size ≤ sa ∧ h0.size ≤ sb ∧ Exa Z h sa "java/lang/String" ∧ Fld Z h sa "java/lang/String" "coder" "B" (.int (0 : Int32)) ∧ Fld Z h sa "java/lang/String" "value" "[B" (.ref sb) ∧ Arv Z h sb sk .byte p2 (own_bsub [(.int ob0_0), (.int ob0_1), (.int ob0_2), (.int ob0_3)] p1 p2) (.int (0 : Int32))
set_option maxRecDepth 65536 in
set_option maxHeartbeats 40000000 in
theorem rmA29 (l : Launch) (Z : State) (a0 : Array Value) (hw : ∀ d ∈ tables_1, d.before a0 Z = true) (ws : List Jvm.Cond) (ob0 : Addr) (k_ob0 : ClassId) (ob0_0 : Int32) (ob0_1 : Int32) (ob0_2 : Int32) (ob0_3 : Int32) (p1 : Int32) (p2 : Int32) (tt : Int32) (cs : Int32) (wf : Value) (h0 : Heap) (n0 : Nat) (O0 : Old Z n0 h0) (G : own_Gl Z cs wf) (V_ob0 : Arv Z h0 ob0 k_ob0 .byte (4 : Int32) [(.int ob0_0), (.int ob0_1), (.int ob0_2), (.int ob0_3)] (.int (0 : Int32))) (ha0 : ¬ (p1 < (0 : Int32))) (hba : ¬ (tt < p1)) (hb4 : ¬ ((4 : Int32) < tt)) (hm : (tt - p1) = p2) (hm0 : ¬ (p2 < 0)) (hm4 : p2.toNatClampNeg ≤ 4) (hcp : p1.toNatClampNeg + p2.toNatClampNeg ≤ (4 : Int32).toNatClampNeg) (hmin : (if p2 < ((4 : Int32) - p1) then p2 else ((4 : Int32) - p1)) = p2) (ht : (p1 + p2) = tt) (hs0 : p1 = (0 : Int32)) (hz : ¬ (p2 = (0 : Int32))) (hs4 : ¬ (tt = (4 : Int32))) :
    MetFree l own_y19 (head1 (Jvm.Cond.code own_y19 jdk_43_method_47_code 3 (some (.object "java/lang/String")) :: ws) ({ frames := 3, cells := 2, slots := 8, locals := 83 } : Room)) (fun a U => a = #[(.ref ob0), (.int p1), (.int p2)] ∧ Z.Warmed39 U.vm ∧ U.heap = h0) (fun _ _ _ _ _ => True) (fun _ U o U' => ∃ v L, o = .returned v ∧ own_Q_rmA29 Z ob0 k_ob0 ob0_0 ob0_1 ob0_2 ob0_3 p1 p2 tt cs wf h0 n0 v U'.heap L ∧ FrameEnd U o U' L ({ frames := 3, cells := 2, slots := 8, locals := 83 } : Room).cells ({ frames := 3, cells := 2, slots := 8, locals := 83 } : Room).slots) := by
  refine MetFree.of_bodySF (plainFor_of_name own_pn2) hisR ?_
  intro p e s m args below meth c s₁ Bd hml0 hP hK
  obtain ⟨rfl, hZ, hh⟩ := hP
  have hx := Bd.exec
  have hby := Bd.bytes
  have hml : c.maxLocals = 3 := hml0
  have hown : s.vm.findClass "java/lang/StringLatin1" = some m.cls := findClass_of_methodNamed Bd.named
  have hnm := (name_of_methodNamed Bd.named Bd.method).1
  have X0 : Stand p l e ({ frames := 3, cells := 2, slots := 8, locals := 83 } : Room) s m #[(.ref ob0), (.int p1), (.int p2)] below meth c s₁ [] 0 0 := Stand.of_body Bd
  have e0 : s₁.heap = h0 := by rw [← hh, Bd.state]; rfl
  have N0 := Fr.nil n0
  have Z0 : n0 ≤ h0.size := O0.1 ▸ O0.2.1
  have g0 : ∀ t, Steps p.tables e below (s₁.setTop (mkF m 0 #[.val (.ref ob0), .val (.int p1), .val (.int p2)] [])) t → Steps p.tables e below (s₁.setTop (entryFrame m #[(.ref ob0), (.int p1), (.int p2)] 3)) t := fun t k => castTop (own_ef31 m (ob0) (p1) (p2)) k
  have G0 := G
  obtain ⟨S_CS, hcs, S_WF, hwf⟩ := G
  have hc1 : ¬ (p2 = (0 : Int32)) := hz
  obtain ⟨T2, h2, X2, e2, E2, A2, D2, -, st2⟩ := newO X0 hx hZ hown (own_w hw 103 rfl) (own_w hw 2 rfl) (own_w hw 3 rfl) e0 (g := (mkF m 7 #[.val (.ref ob0), .val (.int p1), .val (.int p2)] [])) rfl (hb hby own_d16_7) (by decide) (by decide)
  obtain ⟨b2, q_b2⟩ : ∃ z, z = h0.size := ⟨_, rfl⟩
  rw [← q_b2] at A2 D2 st2
  have sz_b2 : h0.size ≤ b2 := Nat.le_of_eq q_b2.symm
  have gz_b2 : n0 ≤ b2 := Nat.le_trans Z0 sz_b2
  have ne_ob0_b2 : ob0 ≠ b2 := Nat.ne_of_lt (Nat.lt_of_lt_of_le V_ob0.lt (Nat.le_of_eq q_b2.symm))
  have F2_coder : Fld Z h2 b2 "java/lang/String" "coder" "B" (.int (0 : Int32)) := D2 (Or.inr (own_w hw 27 rfl)) (ty := .byte) (by decide)
  have F2_value : Fld Z h2 b2 "java/lang/String" "value" "[B" .null := D2 (Or.inr (own_w hw 29 rfl)) (ty := (.array .byte)) (by decide)
  have g3 : ∀ t, Steps p.tables e below (T2.setTop (mkF m 16 #[.val (.ref ob0), .val (.int p1), .val (.int p2)] [(.int tt), (.int p1), (.ref ob0), (.ref b2), (.ref b2)])) t → Steps p.tables e below (s₁.setTop (entryFrame m #[(.ref ob0), (.int p1), (.int p2)] 3)) t := by
    intro t k
    rw [← ht] at k
    refine g0 t ?_
    show Steps p.tables e below (s₁.setTop (mkF m 0 #[.val (.ref ob0), .val (.int p1), .val (.int p2)] [])) _
    refine XS.iloadN X0.here hx rfl (hb hby own_d16_0) rfl ?_
    refine XS.ifYes X0.here hx rfl (pc0 := 1) (pc' := 7) rfl (hb hby own_d16_1) rfl ((if0 _ _).trans (feq hc1).2) (by decide) (by decide) ?_
    refine st2 _ ?_
    refine XS.dup X2.here hx rfl (hb hby own_d16_10) rfl rfl ?_
    show Steps p.tables e below (T2.setTop (mkF m 11 #[.val (.ref ob0), .val (.int p1), .val (.int p2)] [(.ref b2), (.ref b2)])) _
    refine XS.aloadN X2.here hx rfl (hb hby own_d16_11) rfl rfl ?_
    refine XS.iloadN X2.here hx rfl (hb hby own_d16_12) rfl ?_
    refine XS.iloadN X2.here hx rfl (hb hby own_d16_13) rfl ?_
    refine XS.iloadN X2.here hx rfl (hb hby own_d16_14) rfl ?_
    show Steps p.tables e below (T2.setTop (mkF m 15 #[.val (.ref ob0), .val (.int p1), .val (.int p2)] [(.int p2), (.int p1), (.int p1), (.ref ob0), (.ref b2), (.ref b2)])) _
    refine XS.iadd X2.here hx rfl (hb hby own_d16_15) rfl ?_
    exact k
  have f4 := (V_ob0.ext E2)
  have o5 : Old Z n0 h2 := (Old.ext O0 E2)
  obtain ⟨_, _, ⟨T6, L6, k6, n6⟩, -, X6, ⟨Lc6, hQ6, l6, y6, z6⟩, st6⟩ := Jvm.LawKit.callS X2 hx (y := own_y20) hown (mvT hZ (own_w hw 104 rfl)) (mvT hZ (own_w hw 105 rfl)) (mvT hZ (own_w hw 106 rfl)) (mvT hZ (own_w hw 107 rfl)) (by decide) (backOf (W := 2) (rmA30 l Z a0 hw [] ob0 k_ob0 (ob0_0) (ob0_1) (ob0_2) (ob0_3) (p1) (tt) p2 cs wf h2 n0 o5 G0 f4  ha0 hba hb4 hm hm0 hm4 hcp hmin ht hs0 hs4) hZ (own_w hw 107 rfl) (own_w hw 106 rfl) (by decide) (by decide)) (g := (mkF m 16 #[.val (.ref ob0), .val (.int p1), .val (.int p2)] [(.int tt), (.int p1), (.ref ob0), (.ref b2), (.ref b2)])) rfl (by rw [hml]; rfl) (argsL := [(.ref ob0), (.int p1), (.int tt)]) (rest := [(.ref b2), (.ref b2)]) (lenOf own_pd21 rfl) rfl (by show 2 * 0 + _ ≤ _; exact Nat.le_of_eq rfl) (hb hby own_d16_16) (fun _ _ => ⟨rfl, e2, (by decide : 1 + 1 ≤ _), (by decide : 4 + 4 ≤ _)⟩)
  dsimp only [Pt.U, Pt.locs, Pt.cells, Pt.slots] at X6 l6 y6 z6 st6 hQ6
  subst l6 y6 z6
  obtain ⟨rb6, rk6, rfl, Nq6, K6, hb6, Va6⟩ := hQ6
  have N6 := Fr.app N0 Nq6
  have sz_rb6 : h0.size ≤ rb6 := Nat.le_trans E2.1 hb6
  have gz_rb6 : n0 ≤ rb6 := Nat.le_trans Z0 sz_rb6
  have ne_b2_rb6 : b2 ≠ rb6 := Nat.ne_of_lt (Nat.lt_of_lt_of_le A2.lt hb6)
  have ne_ob0_rb6 : ob0 ≠ rb6 := Nat.ne_of_lt (Nat.lt_of_lt_of_le f4.lt hb6)
  have f7 := (A2.keep K6)
  have f8 := (F2_coder.keep K6 nin0)
  have f9 := (F2_value.keep K6 nin0)
  have o10 : Old Z n0 T6.heap := (Old.keep o5 K6 all0)
  obtain ⟨_, _, ⟨T11, L11, k11, n11⟩, -, X11, ⟨Lc11, hQ11, l11, y11, z11⟩, st11⟩ := X6.specialBack hx (y := own_y24) rfl hown (mvT hZ (own_w hw 122 rfl)) (mvT hZ (own_w hw 123 rfl)) (mvT hZ (own_w hw 124 rfl)) (by decide) (backOf (W := 1) (rmA34 l Z a0 hw [] b2 rb6 rk6 (p2) (own_bsub [(.int ob0_0), (.int ob0_1), (.int ob0_2), (.int ob0_3)] p1 p2)  cs wf T6.heap n0 o10 G0 f7 f8 f9 Va6 gz_b2 ) hZ (own_w hw 124 rfl) (own_w hw 3 rfl) (by decide) (by decide)) (g := (mkF m 20 #[.val (.ref ob0), .val (.int p1), .val (.int p2)] [(.int (0 : Int32)), (.ref rb6), (.ref b2), (.ref b2)])) rfl (by rw [hml]; rfl) (Steps.refl _) (a := b2) (argsL := [(.ref rb6), (.int (0 : Int32))]) (rest := [(.ref b2)]) (lenOf own_pd22 rfl) rfl (by show 2 * 0 + _ ≤ _; exact Nat.le_of_eq rfl) (hb hby own_d16_20) (fun _ _ => ⟨rfl, rfl, (by decide : 2 + 0 ≤ _), (by decide : 8 + 0 ≤ _)⟩)
  dsimp only [Pt.U, Pt.locs, Pt.cells, Pt.slots] at X11 l11 y11 z11 st11 hQ11
  subst l11 y11 z11
  obtain ⟨rfl, Nq11, K11, Q11_0, Q11_1, Q11_2⟩ := hQ11
  have N11 := Fr.app N6 Nq11
  have g12 : ∀ t, Steps p.tables e below (T11.setTop (mkF m 23 #[.val (.ref ob0), .val (.int p1), .val (.int p2)] [(.ref b2)])) t → Steps p.tables e below (s₁.setTop (entryFrame m #[(.ref ob0), (.int p1), (.int p2)] 3)) t := by
    intro t k
    refine g3 t ?_
    show Steps p.tables e below (T2.setTop (mkF m 16 #[.val (.ref ob0), .val (.int p1), .val (.int p2)] [(.int tt), (.int p1), (.ref ob0), (.ref b2), (.ref b2)])) _
    refine st6 _ ?_
    refine XS.iconst X6.here hx rfl (hb hby own_d16_19) ?_
    refine st11.trans ?_
    exact k
  obtain ⟨fs, hrt, hrun, hended, hW, hsame⟩ := X11.leave (v := some (.ref b2)) (fun h => by rw [Bd.returns] at h; cases h)
  have f13 := (Va6.keep K11 (ninS (Ne.symm ne_b2_rb6) nin0))
  refine ⟨_, _, g12 _ ?_, hrun, hended, _, _, rfl, ?_, ⟨_, rfl⟩, hW, hsame.mono (by decide) (by decide)⟩
  · show Steps p.tables e below (T11.setTop (mkF m 23 #[.val (.ref ob0), .val (.int p1), .val (.int p2)] [(.ref b2)])) _
    jvm_step X11.here [X11.here.top, hx, (hb hby own_d16_23), X11.method', Bd.returns, Value.isRef, FieldType.isReference]
    first | (intro acts; rw [hrt _ acts rfl rfl rfl]) | rw [hrt _ _ rfl rfl rfl]
    exact Steps.refl _
  · show own_Q_rmA29 Z ob0 k_ob0 ob0_0 ob0_1 ob0_2 ob0_3 p1 p2 tt cs wf h0 n0 _ T11.heap _
    exact ⟨b2, rb6, _, rfl, N11, (Keep.trans (Keep.trans (Keep.ext (Keep.refl h0 []) E2) K6 all0) K11 (allS (Or.inr sz_b2) all0)), sz_b2, sz_rb6, Q11_0, Q11_1, Q11_2, f13⟩
def own_Q_rmA28 (Z : State) (ob0 : Addr) (ob0_value : Addr) (k_ob0_value : ClassId) (ob0_value_0 : Int32) (ob0_value_1 : Int32) (ob0_value_2 : Int32) (ob0_value_3 : Int32) (p1 : Int32) (p2 : Int32) (mm : Int32) (cs : Int32) (wf : Value) (h0 : Heap) (n0 : Nat) (v : Option Value) (h : Heap) (L : List Loc) : Prop := ∃ sa sb : Addr, ∃ sk : ClassId, v = some (.ref sa) ∧ Fr n0 L ∧ Keep h0 h [] ∧ h0.size ≤ sa ∧ h0.size ≤ sb ∧ Exa Z h sa "java/lang/String" ∧ Fld Z h sa "java/lang/String" "coder" "B" (.int (0 : Int32)) ∧ Fld Z h sa "java/lang/String" "value" "[B" (.ref sb) ∧ Arv Z h sb sk .byte mm (own_bsub [(.int ob0_value_0), (.int ob0_value_1), (.int ob0_value_2), (.int ob0_value_3)] p1 mm) (.int (0 : Int32))
set_option maxRecDepth 65536 in
set_option maxHeartbeats 40000000 in
theorem rmA28 (l : Launch) (Z : State) (a0 : Array Value) (hw : ∀ d ∈ tables_1, d.before a0 Z = true) (ws : List Jvm.Cond) (ob0 : Addr) (ob0_value : Addr) (k_ob0_value : ClassId) (ob0_value_0 : Int32) (ob0_value_1 : Int32) (ob0_value_2 : Int32) (ob0_value_3 : Int32) (p1 : Int32) (p2 : Int32) (mm : Int32) (cs : Int32) (wf : Value) (h0 : Heap) (n0 : Nat) (O0 : Old Z n0 h0) (G : own_Gl Z cs wf) (E_ob0 : Exa Z h0 ob0 "java/lang/String") (F_ob0_coder : Fld Z h0 ob0 "java/lang/String" "coder" "B" (.int (0 : Int32))) (V_ob0_value : Arv Z h0 ob0_value k_ob0_value .byte (4 : Int32) [(.int ob0_value_0), (.int ob0_value_1), (.int ob0_value_2), (.int ob0_value_3)] (.int (0 : Int32))) (F_ob0_value : Fld Z h0 ob0 "java/lang/String" "value" "[B" (.ref ob0_value)) (ha0 : ¬ (p1 < (0 : Int32))) (hba : ¬ (p2 < p1)) (hb4 : ¬ ((4 : Int32) < p2)) (hm : (p2 - p1) = mm) (hm0 : ¬ (mm < 0)) (hm4 : mm.toNatClampNeg ≤ 4) (hcp : p1.toNatClampNeg + mm.toNatClampNeg ≤ (4 : Int32).toNatClampNeg) (hmin : (if mm < ((4 : Int32) - p1) then mm else ((4 : Int32) - p1)) = mm) (ht : (p1 + mm) = p2) (hs0 : p1 = (0 : Int32)) (hz : ¬ (mm = (0 : Int32))) (hs4 : ¬ (p2 = (4 : Int32))) :
    MetFree l own_y16 (head1 (Jvm.Cond.code own_y16 jdk_42_method_92_code 5 (some (.object "java/lang/String")) :: ws) ({ frames := 4, cells := 2, slots := 8, locals := 97 } : Room)) (fun a U => a = #[(.ref ob0), (.int p1), (.int p2)] ∧ Z.Warmed39 U.vm ∧ U.heap = h0) (fun _ _ _ _ _ => True) (fun _ U o U' => ∃ v L, o = .returned v ∧ own_Q_rmA28 Z ob0 ob0_value k_ob0_value ob0_value_0 ob0_value_1 ob0_value_2 ob0_value_3 p1 p2 mm cs wf h0 n0 v U'.heap L ∧ FrameEnd U o U' L ({ frames := 4, cells := 2, slots := 8, locals := 97 } : Room).cells ({ frames := 4, cells := 2, slots := 8, locals := 97 } : Room).slots) := by
  refine MetFree.of_bodySF (plainFor_of_name own_pn0) hisR ?_
  intro p e s m args below meth c s₁ Bd hml0 hP hK
  obtain ⟨rfl, hZ, hh⟩ := hP
  have hx := Bd.exec
  have hby := Bd.bytes
  have hml : c.maxLocals = 5 := hml0
  have hown : s.vm.findClass "java/lang/String" = some m.cls := findClass_of_methodNamed Bd.named
  have hnm := (name_of_methodNamed Bd.named Bd.method).1
  have X0 : Stand p l e ({ frames := 4, cells := 2, slots := 8, locals := 97 } : Room) s m #[(.ref ob0), (.int p1), (.int p2)] below meth c s₁ [] 0 0 := Stand.of_body Bd
  have e0 : s₁.heap = h0 := by rw [← hh, Bd.state]; rfl
  have N0 := Fr.nil n0
  have Z0 : n0 ≤ h0.size := O0.1 ▸ O0.2.1
  have g0 : ∀ t, Steps p.tables e below (s₁.setTop (mkF m 0 #[.val (.ref ob0), .val (.int p1), .val (.int p2), .unset, .unset] [])) t → Steps p.tables e below (s₁.setTop (entryFrame m #[(.ref ob0), (.int p1), (.int p2)] 5)) t := fun t k => castTop (own_ef30 m (ob0) (p1) (p2)) k
  have G0 := G
  obtain ⟨S_CS, hcs, S_WF, hwf⟩ := G
  obtain ⟨cq1, kq1, q1a, q1b, q1c⟩ := isOf hZ e0 E_ob0
  obtain ⟨_, _, ⟨T1, L1, k1, n1⟩, -, X1, ⟨Lc1, hQ1, l1, y1, z1⟩, st1⟩ := X0.virtualBack hx (y := own_y0) (z := own_y0) hown (mvT hZ (own_w hw 68 rfl)) (mvT hZ (own_w hw 69 rfl)) (notFace_of_selects (args := #[]) (mvT hZ (own_w hw 71 rfl))) (mvT hZ (own_w hw 71 rfl)) (mvT hZ (own_w hw 70 rfl)) (by decide) (backOf (W := 0) (rmA18 l Z a0 hw [] ob0 ob0_value k_ob0_value (ob0_value_0) (ob0_value_1) (ob0_value_2) (ob0_value_3)  cs wf h0 n0 O0 G0 E_ob0 F_ob0_coder V_ob0_value F_ob0_value  ) hZ (own_w hw 72 rfl) (own_w hw 3 rfl) (by decide) (by decide)) q1a q1c (g := (mkF m 1 #[.val (.ref ob0), .val (.int p1), .val (.int p2), .unset, .unset] [(.ref ob0)])) rfl (by rw [hml]; rfl) (Steps.refl _) (argsL := []) (rest := []) (lenOf own_pd1 rfl) rfl (by show 2 * 0 + _ ≤ _; exact Nat.le_of_eq rfl) (hb hby own_d10_1) (fun _ _ => ⟨rfl, e0, (by decide : 0 + 0 ≤ _), (by decide : 0 + 0 ≤ _)⟩)
  dsimp only [Pt.U, Pt.locs, Pt.cells, Pt.slots] at X1 l1 y1 z1 st1 hQ1
  subst l1 y1 z1
  obtain ⟨rfl, Nq1, e1⟩ := hQ1
  have N1 := Fr.app N0 Nq1
  obtain ⟨_, _, ⟨T2, L2, k2, n2⟩, -, X2, ⟨Lc2, hQ2, l2, y2, z2⟩, st2⟩ := Jvm.LawKit.callS X1 hx (y := own_y17) hown (mvT hZ (own_w hw 78 rfl)) (mvT hZ (own_w hw 79 rfl)) (mvT hZ (own_w hw 3 rfl)) (mvT hZ (own_w hw 80 rfl)) (by decide) (backOf (W := 0) (rmA20 l Z a0 hw [] (p1) (p2) ((4 : Int32))  cs wf h0 n0 O0 G0   ha0 hba hb4) hZ (own_w hw 80 rfl) (own_w hw 3 rfl) (by decide) (by decide)) (g := (mkF m 8 #[.val (.ref ob0), .val (.int p1), .val (.int p2), .val (.int (4 : Int32)), .unset] [(.int (4 : Int32)), (.int p2), (.int p1)])) rfl (by rw [hml]; rfl) (argsL := [(.int p1), (.int p2), (.int (4 : Int32))]) (rest := []) (lenOf own_pd16 rfl) rfl (by show 2 * 0 + _ ≤ _; exact Nat.le_of_eq rfl) (hb hby own_d10_8) (fun _ _ => ⟨rfl, e1, (by decide : 0 + 0 ≤ _), (by decide : 0 + 0 ≤ _)⟩)
  dsimp only [Pt.U, Pt.locs, Pt.cells, Pt.slots] at X2 l2 y2 z2 st2 hQ2
  subst l2 y2 z2
  obtain ⟨rfl, Nq2, e2⟩ := hQ2
  have N2 := Fr.app N1 Nq2
  have hc3 : p1 = (0 : Int32) := hs0
  have hc4 : ¬ (p2 = (4 : Int32)) := hs4
  have g5 : ∀ t, Steps p.tables e below (T2.setTop (mkF m 25 #[.val (.ref ob0), .val (.int p1), .val (.int p2), .val (.int (4 : Int32)), .unset] [(.int mm)])) t → Steps p.tables e below (s₁.setTop (entryFrame m #[(.ref ob0), (.int p1), (.int p2)] 5)) t := by
    intro t k
    rw [← hm] at k
    refine g0 t ?_
    show Steps p.tables e below (s₁.setTop (mkF m 0 #[.val (.ref ob0), .val (.int p1), .val (.int p2), .unset, .unset] [])) _
    refine XS.aloadN X0.here hx rfl (hb hby own_d10_0) rfl rfl ?_
    refine st1.trans ?_
    refine XS.istoreN X1.here hx rfl (hb hby own_d10_4) rfl (l' := #[.val (.ref ob0), .val (.int p1), .val (.int p2), .val (.int (4 : Int32)), .unset]) rfl ?_
    refine XS.iloadN X1.here hx rfl (hb hby own_d10_5) rfl ?_
    show Steps p.tables e below (T1.setTop (mkF m 6 #[.val (.ref ob0), .val (.int p1), .val (.int p2), .val (.int (4 : Int32)), .unset] [(.int p1)])) _
    refine XS.iloadN X1.here hx rfl (hb hby own_d10_6) rfl ?_
    refine XS.iloadN X1.here hx rfl (hb hby own_d10_7) rfl ?_
    refine st2 _ ?_
    refine XS.iloadN X2.here hx rfl (hb hby own_d10_11) rfl ?_
    show Steps p.tables e below (T2.setTop (mkF m 12 #[.val (.ref ob0), .val (.int p1), .val (.int p2), .val (.int (4 : Int32)), .unset] [(.int p1)])) _
    refine XS.ifNo X2.here hx rfl (hb hby own_d10_12) rfl ((if0 _ _).trans (teq hc3).2) ?_
    refine XS.iloadN X2.here hx rfl (hb hby own_d10_15) rfl ?_
    refine XS.iloadN X2.here hx rfl (hb hby own_d10_16) rfl ?_
    refine XS.icmpYes X2.here hx rfl (pc0 := 17) (pc' := 22) rfl (hb hby own_d10_17) rfl (feq hc4).2 (by decide) (by decide) ?_
    show Steps p.tables e below (T2.setTop (mkF m 22 #[.val (.ref ob0), .val (.int p1), .val (.int p2), .val (.int (4 : Int32)), .unset] [])) _
    refine XS.iloadN X2.here hx rfl (hb hby own_d10_22) rfl ?_
    refine XS.iloadN X2.here hx rfl (hb hby own_d10_23) rfl ?_
    show Steps p.tables e below (T2.setTop (mkF m 24 #[.val (.ref ob0), .val (.int p1), .val (.int p2), .val (.int (4 : Int32)), .unset] [(.int p1), (.int p2)])) _
    refine XS.isub X2.here hx rfl (hb hby own_d10_24) rfl ?_
    exact k
  obtain ⟨cq6, kq6, q6a, q6b, q6c⟩ := isOf hZ e2 E_ob0
  obtain ⟨_, _, ⟨T6, L6, k6, n6⟩, -, X6, ⟨Lc6, hQ6, l6, y6, z6⟩, st6⟩ := X2.virtualBack hx (y := own_y4) (z := own_y4) hown (mvT hZ (own_w hw 86 rfl)) (mvT hZ (own_w hw 87 rfl)) (notFace_of_selects (args := #[]) (mvT hZ (own_w hw 89 rfl))) (mvT hZ (own_w hw 89 rfl)) (mvT hZ (own_w hw 88 rfl)) (by decide) (backOf (W := 0) (rmA25 l Z a0 hw [] ob0 ob0_value k_ob0_value (ob0_value_0) (ob0_value_1) (ob0_value_2) (ob0_value_3)  cs wf h0 n0 O0 G0 E_ob0 F_ob0_coder V_ob0_value F_ob0_value  ) hZ (own_w hw 90 rfl) (own_w hw 3 rfl) (by decide) (by decide)) q6a q6c (g := (mkF m 28 #[.val (.ref ob0), .val (.int p1), .val (.int p2), .val (.int (4 : Int32)), .val (.int mm)] [(.ref ob0)])) rfl (by rw [hml]; rfl) (Steps.refl _) (argsL := []) (rest := []) (lenOf own_pd2 rfl) rfl (by show 2 * 0 + _ ≤ _; exact Nat.le_of_eq rfl) (hb hby own_d10_28) (fun _ _ => ⟨rfl, e2, (by decide : 0 + 0 ≤ _), (by decide : 0 + 0 ≤ _)⟩)
  dsimp only [Pt.U, Pt.locs, Pt.cells, Pt.slots] at X6 l6 y6 z6 st6 hQ6
  subst l6 y6 z6
  obtain ⟨rfl, Nq6, e6⟩ := hQ6
  have N6 := Fr.app N2 Nq6
  obtain ⟨T7, X7, e7, st7⟩ := getF X6 hx hZ hown (host := "") (Or.inl (own_w hw 28 rfl)) Via.refl e6 F_ob0_value (g := (mkF m 35 #[.val (.ref ob0), .val (.int p1), .val (.int p2), .val (.int (4 : Int32)), .val (.int mm)] [(.ref ob0)])) rfl rfl (hb hby own_d10_35)
  obtain ⟨LL8, XL8, NL8⟩ : ∃ LL : List Loc, Stand p l e ({ frames := 4, cells := 2, slots := 8, locals := 97 } : Room) s m #[(.ref ob0), (.int p1), (.int p2)] below meth c T7 LL 0 0 ∧ Fr n0 LL := ⟨_, X7, N6⟩
  obtain ⟨_, _, ⟨T9, L9, k9, n9⟩, -, X9, ⟨Lc9, hQ9, l9, y9, z9⟩, st9⟩ := Jvm.LawKit.callS XL8 hx (y := own_y19) hown (mvT hZ (own_w hw 91 rfl)) (mvT hZ (own_w hw 92 rfl)) (mvT hZ (own_w hw 93 rfl)) (mvT hZ (own_w hw 94 rfl)) (by decide) (backOf (W := 0) (rmA29 l Z a0 hw [] ob0_value k_ob0_value (ob0_value_0) (ob0_value_1) (ob0_value_2) (ob0_value_3) (p1) (mm) p2 cs wf h0 n0 O0 G0 V_ob0_value  ha0 hba hb4 hm hm0 hm4 hcp hmin ht hs0 hz hs4) hZ (own_w hw 94 rfl) (own_w hw 93 rfl) (by decide) (by decide)) (g := (mkF m 41 #[.val (.ref ob0), .val (.int p1), .val (.int p2), .val (.int (4 : Int32)), .val (.int mm)] [(.int mm), (.int p1), (.ref ob0_value)])) rfl (by rw [hml]; rfl) (argsL := [(.ref ob0_value), (.int p1), (.int mm)]) (rest := []) (lenOf own_pd19 rfl) rfl (by show 2 * 0 + _ ≤ _; exact Nat.le_of_eq rfl) (hb hby own_d10_41) (fun _ _ => ⟨rfl, e7, (by decide : 0 + 2 ≤ _), (by decide : 0 + 8 ≤ _)⟩)
  dsimp only [Pt.U, Pt.locs, Pt.cells, Pt.slots] at X9 l9 y9 z9 st9 hQ9
  subst l9 y9 z9
  obtain ⟨sa9, sb9, sk9, rfl, Nq9, K9, hba9, hbb9, Qe9, Qc9, Qv9, Qa9⟩ := hQ9
  have N9 := Fr.app NL8 Nq9
  have sz_sa9 : h0.size ≤ sa9 := hba9
  have gz_sa9 : n0 ≤ sa9 := Nat.le_trans Z0 sz_sa9
  have ne_ob0_sa9 : ob0 ≠ sa9 := Nat.ne_of_lt (Nat.lt_of_lt_of_le E_ob0.lt hba9)
  have ne_ob0_value_sa9 : ob0_value ≠ sa9 := Nat.ne_of_lt (Nat.lt_of_lt_of_le V_ob0_value.lt hba9)
  have sz_sb9 : h0.size ≤ sb9 := hbb9
  have gz_sb9 : n0 ≤ sb9 := Nat.le_trans Z0 sz_sb9
  have ne_ob0_sb9 : ob0 ≠ sb9 := Nat.ne_of_lt (Nat.lt_of_lt_of_le E_ob0.lt hbb9)
  have ne_ob0_value_sb9 : ob0_value ≠ sb9 := Nat.ne_of_lt (Nat.lt_of_lt_of_le V_ob0_value.lt hbb9)
  have g10 : ∀ t, Steps p.tables e below (T9.setTop (mkF m 57 #[.val (.ref ob0), .val (.int p1), .val (.int p2), .val (.int (4 : Int32)), .val (.int mm)] [(.ref sa9)])) t → Steps p.tables e below (s₁.setTop (entryFrame m #[(.ref ob0), (.int p1), (.int p2)] 5)) t := by
    intro t k
    refine g5 t ?_
    show Steps p.tables e below (T2.setTop (mkF m 25 #[.val (.ref ob0), .val (.int p1), .val (.int p2), .val (.int (4 : Int32)), .unset] [(.int mm)])) _
    refine XS.istore X2.here hx rfl (hb hby own_d10_25) rfl (l' := #[.val (.ref ob0), .val (.int p1), .val (.int p2), .val (.int (4 : Int32)), .val (.int mm)]) rfl ?_
    refine XS.aloadN X2.here hx rfl (hb hby own_d10_27) rfl rfl ?_
    refine st6.trans ?_
    refine XS.ifNo X6.here hx rfl (hb hby own_d10_31) rfl ((if0 _ _).trans (feq (by decide : ¬ ((1 : Int32) = (0 : Int32)))).1) ?_
    show Steps p.tables e below (T6.setTop (mkF m 34 #[.val (.ref ob0), .val (.int p1), .val (.int p2), .val (.int (4 : Int32)), .val (.int mm)] [])) _
    refine XS.aloadN X6.here hx rfl (hb hby own_d10_34) rfl rfl ?_
    refine st7 _ ?_
    refine XS.iloadN X7.here hx rfl (hb hby own_d10_38) rfl ?_
    refine XS.iload X7.here hx rfl (hb hby own_d10_39) rfl ?_
    show Steps p.tables e below (T7.setTop (mkF m 41 #[.val (.ref ob0), .val (.int p1), .val (.int p2), .val (.int (4 : Int32)), .val (.int mm)] [(.int mm), (.int p1), (.ref ob0_value)])) _
    refine st9 _ ?_
    refine XS.goto X9.here hx rfl (pc0 := 44) (pc' := 57) rfl (hb hby own_d10_44) (by decide) (by decide) ?_
    exact k
  obtain ⟨fs, hrt, hrun, hended, hW, hsame⟩ := X9.leave (v := some (.ref sa9)) (fun h => by rw [Bd.returns] at h; cases h)
  refine ⟨_, _, g10 _ ?_, hrun, hended, _, _, rfl, ?_, ⟨_, rfl⟩, hW, hsame.mono (by decide) (by decide)⟩
  · show Steps p.tables e below (T9.setTop (mkF m 57 #[.val (.ref ob0), .val (.int p1), .val (.int p2), .val (.int (4 : Int32)), .val (.int mm)] [(.ref sa9)])) _
    jvm_step X9.here [X9.here.top, hx, (hb hby own_d10_57), X9.method', Bd.returns, Value.isRef, FieldType.isReference]
    first | (intro acts; rw [hrt _ acts rfl rfl rfl]) | rw [hrt _ _ rfl rfl rfl]
    exact Steps.refl _
  · show own_Q_rmA28 Z ob0 ob0_value k_ob0_value ob0_value_0 ob0_value_1 ob0_value_2 ob0_value_3 p1 p2 mm cs wf h0 n0 _ T9.heap _
    exact ⟨sa9, sb9, _, rfl, N9, (Keep.trans (Keep.refl h0 []) K9 all0), sz_sa9, sz_sb9, Qe9, Qc9, Qv9, Qa9⟩
def own_Q_rmA27 (Z : State) (ob0 : Addr) (ob0_end : Int32) (ob0_start : Int32) (ob1 : Addr) (ob1_value : Addr) (k_ob1_value : ClassId) (ob1_value_0 : Int32) (ob1_value_1 : Int32) (ob1_value_2 : Int32) (ob1_value_3 : Int32) (mm : Int32) (cs : Int32) (wf : Value) (h0 : Heap) (n0 : Nat) (v : Option Value) (h : Heap) (L : List Loc) : Prop := ∃ sa sb : Addr, ∃ sk : ClassId, v = some (.ref sa) ∧ Fr n0 L ∧ Keep h0 h [] ∧ h0.size ≤ sa ∧ h0.size ≤ sb ∧ Exa Z h sa "java/lang/String" ∧ Fld Z h sa "java/lang/String" "coder" "B" (.int (0 : Int32)) ∧ Fld Z h sa "java/lang/String" "value" "[B" (.ref sb) ∧ Arv Z h sb sk .byte mm (own_bsub [(.int ob1_value_0), (.int ob1_value_1), (.int ob1_value_2), (.int ob1_value_3)] ob0_start mm) (.int (0 : Int32))
set_option maxRecDepth 65536 in
set_option maxHeartbeats 40000000 in
theorem rmA27 (l : Launch) (Z : State) (a0 : Array Value) (hw : ∀ d ∈ tables_1, d.before a0 Z = true) (ws : List Jvm.Cond) (ob0 : Addr) (ob0_end : Int32) (ob0_start : Int32) (ob1 : Addr) (ob1_value : Addr) (k_ob1_value : ClassId) (ob1_value_0 : Int32) (ob1_value_1 : Int32) (ob1_value_2 : Int32) (ob1_value_3 : Int32) (mm : Int32) (cs : Int32) (wf : Value) (h0 : Heap) (n0 : Nat) (O0 : Old Z n0 h0) (G : own_Gl Z cs wf) (E_ob0 : Exa Z h0 ob0 "com/example/momus/momus/model/FormatSpecifier") (F_ob0_end : Fld Z h0 ob0 "com/example/momus/momus/model/FormatSpecifier" "end" "I" (.int ob0_end)) (F_ob0_start : Fld Z h0 ob0 "com/example/momus/momus/model/FormatSpecifier" "start" "I" (.int ob0_start)) (E_ob1 : Exa Z h0 ob1 "java/lang/String") (F_ob1_coder : Fld Z h0 ob1 "java/lang/String" "coder" "B" (.int (0 : Int32))) (V_ob1_value : Arv Z h0 ob1_value k_ob1_value .byte (4 : Int32) [(.int ob1_value_0), (.int ob1_value_1), (.int ob1_value_2), (.int ob1_value_3)] (.int (0 : Int32))) (F_ob1_value : Fld Z h0 ob1 "java/lang/String" "value" "[B" (.ref ob1_value)) (ha0 : ¬ (ob0_start < (0 : Int32))) (hba : ¬ (ob0_end < ob0_start)) (hb4 : ¬ ((4 : Int32) < ob0_end)) (hm : (ob0_end - ob0_start) = mm) (hm0 : ¬ (mm < 0)) (hm4 : mm.toNatClampNeg ≤ 4) (hcp : ob0_start.toNatClampNeg + mm.toNatClampNeg ≤ (4 : Int32).toNatClampNeg) (hmin : (if mm < ((4 : Int32) - ob0_start) then mm else ((4 : Int32) - ob0_start)) = mm) (ht : (ob0_start + mm) = ob0_end) (hs0 : ob0_start = (0 : Int32)) (hz : ¬ (mm = (0 : Int32))) (hs4 : ¬ (ob0_end = (4 : Int32))) :
    MetFree l own_y15 (head1 (Jvm.Cond.code own_y15 prog_42_method_5_code 2 (some (.object "java/lang/String")) :: ws) ({ frames := 5, cells := 2, slots := 8, locals := 113 } : Room)) (fun a U => a = #[(.ref ob0), (.ref ob1)] ∧ Z.Warmed39 U.vm ∧ U.heap = h0) (fun _ _ _ _ _ => True) (fun _ U o U' => ∃ v L, o = .returned v ∧ own_Q_rmA27 Z ob0 ob0_end ob0_start ob1 ob1_value k_ob1_value ob1_value_0 ob1_value_1 ob1_value_2 ob1_value_3 mm cs wf h0 n0 v U'.heap L ∧ FrameEnd U o U' L ({ frames := 5, cells := 2, slots := 8, locals := 113 } : Room).cells ({ frames := 5, cells := 2, slots := 8, locals := 113 } : Room).slots) := by
  refine MetFree.of_bodySF (plainFor_of_name own_pn5) hisR ?_
  intro p e s m args below meth c s₁ Bd hml0 hP hK
  obtain ⟨rfl, hZ, hh⟩ := hP
  have hx := Bd.exec
  have hby := Bd.bytes
  have hml : c.maxLocals = 2 := hml0
  have hown : s.vm.findClass "com/example/momus/momus/model/FormatSpecifier" = some m.cls := findClass_of_methodNamed Bd.named
  have hnm := (name_of_methodNamed Bd.named Bd.method).1
  have X0 : Stand p l e ({ frames := 5, cells := 2, slots := 8, locals := 113 } : Room) s m #[(.ref ob0), (.ref ob1)] below meth c s₁ [] 0 0 := Stand.of_body Bd
  have e0 : s₁.heap = h0 := by rw [← hh, Bd.state]; rfl
  have N0 := Fr.nil n0
  have Z0 : n0 ≤ h0.size := O0.1 ▸ O0.2.1
  have g0 : ∀ t, Steps p.tables e below (s₁.setTop (mkF m 0 #[.val (.ref ob0), .val (.ref ob1)] [])) t → Steps p.tables e below (s₁.setTop (entryFrame m #[(.ref ob0), (.ref ob1)] 2)) t := fun t k => castTop (own_ef29 m (ob0) (ob1)) k
  have G0 := G
  obtain ⟨S_CS, hcs, S_WF, hwf⟩ := G
  obtain ⟨T1, X1, e1, st1⟩ := getF X0 hx hZ hown (host := "") (Or.inl (own_w hw 44 rfl)) Via.refl e0 F_ob0_start (g := (mkF m 2 #[.val (.ref ob0), .val (.ref ob1)] [(.ref ob0), (.ref ob1)])) rfl rfl (hb hby own_d9_2)
  obtain ⟨T2, X2, e2, st2⟩ := getF X1 hx hZ hown (host := "") (Or.inl (own_w hw 56 rfl)) Via.refl e1 F_ob0_end (g := (mkF m 6 #[.val (.ref ob0), .val (.ref ob1)] [(.ref ob0), (.int ob0_start), (.ref ob1)])) rfl rfl (hb hby own_d9_6)
  obtain ⟨cq3, kq3, q3a, q3b, q3c⟩ := isOf hZ e2 E_ob1
  obtain ⟨_, _, ⟨T3, L3, k3, n3⟩, -, X3, ⟨Lc3, hQ3, l3, y3, z3⟩, st3⟩ := X2.virtualBack hx (y := own_y16) (z := own_y16) hown (mvT hZ (own_w hw 63 rfl)) (mvT hZ (own_w hw 64 rfl)) (notFace_of_selects (args := #[]) (mvT hZ (own_w hw 66 rfl))) (mvT hZ (own_w hw 66 rfl)) (mvT hZ (own_w hw 65 rfl)) (by decide) (backOf (W := 0) (rmA28 l Z a0 hw [] ob1 ob1_value k_ob1_value (ob1_value_0) (ob1_value_1) (ob1_value_2) (ob1_value_3) (ob0_start) (ob0_end) mm cs wf h0 n0 O0 G0 E_ob1 F_ob1_coder V_ob1_value F_ob1_value  ha0 hba hb4 hm hm0 hm4 hcp hmin ht hs0 hz hs4) hZ (own_w hw 67 rfl) (own_w hw 3 rfl) (by decide) (by decide)) q3a q3c (g := (mkF m 9 #[.val (.ref ob0), .val (.ref ob1)] [(.int ob0_end), (.int ob0_start), (.ref ob1)])) rfl (by rw [hml]; rfl) (Steps.refl _) (argsL := [(.int ob0_start), (.int ob0_end)]) (rest := []) (lenOf own_pd17 rfl) rfl (by show 2 * 0 + _ ≤ _; exact Nat.le_of_eq rfl) (hb hby own_d9_9) (fun _ _ => ⟨rfl, e2, (by decide : 0 + 2 ≤ _), (by decide : 0 + 8 ≤ _)⟩)
  dsimp only [Pt.U, Pt.locs, Pt.cells, Pt.slots] at X3 l3 y3 z3 st3 hQ3
  subst l3 y3 z3
  obtain ⟨sa3, sb3, sk3, rfl, Nq3, K3, hba3, hbb3, Qe3, Qc3, Qv3, Qa3⟩ := hQ3
  have N3 := Fr.app N0 Nq3
  have sz_sa3 : h0.size ≤ sa3 := hba3
  have gz_sa3 : n0 ≤ sa3 := Nat.le_trans Z0 sz_sa3
  have ne_ob0_sa3 : ob0 ≠ sa3 := Nat.ne_of_lt (Nat.lt_of_lt_of_le E_ob0.lt hba3)
  have ne_ob1_sa3 : ob1 ≠ sa3 := Nat.ne_of_lt (Nat.lt_of_lt_of_le E_ob1.lt hba3)
  have ne_ob1_value_sa3 : ob1_value ≠ sa3 := Nat.ne_of_lt (Nat.lt_of_lt_of_le V_ob1_value.lt hba3)
  have sz_sb3 : h0.size ≤ sb3 := hbb3
  have gz_sb3 : n0 ≤ sb3 := Nat.le_trans Z0 sz_sb3
  have ne_ob0_sb3 : ob0 ≠ sb3 := Nat.ne_of_lt (Nat.lt_of_lt_of_le E_ob0.lt hbb3)
  have ne_ob1_sb3 : ob1 ≠ sb3 := Nat.ne_of_lt (Nat.lt_of_lt_of_le E_ob1.lt hbb3)
  have ne_ob1_value_sb3 : ob1_value ≠ sb3 := Nat.ne_of_lt (Nat.lt_of_lt_of_le V_ob1_value.lt hbb3)
  have g4 : ∀ t, Steps p.tables e below (T3.setTop (mkF m 12 #[.val (.ref ob0), .val (.ref ob1)] [(.ref sa3)])) t → Steps p.tables e below (s₁.setTop (entryFrame m #[(.ref ob0), (.ref ob1)] 2)) t := by
    intro t k
    refine g0 t ?_
    show Steps p.tables e below (s₁.setTop (mkF m 0 #[.val (.ref ob0), .val (.ref ob1)] [])) _
    refine XS.aloadN X0.here hx rfl (hb hby own_d9_0) rfl rfl ?_
    refine XS.aloadN X0.here hx rfl (hb hby own_d9_1) rfl rfl ?_
    refine st1 _ ?_
    refine XS.aloadN X1.here hx rfl (hb hby own_d9_5) rfl rfl ?_
    show Steps p.tables e below (T1.setTop (mkF m 6 #[.val (.ref ob0), .val (.ref ob1)] [(.ref ob0), (.int ob0_start), (.ref ob1)])) _
    refine st2 _ ?_
    refine st3.trans ?_
    exact k
  obtain ⟨fs, hrt, hrun, hended, hW, hsame⟩ := X3.leave (v := some (.ref sa3)) (fun h => by rw [Bd.returns] at h; cases h)
  refine ⟨_, _, g4 _ ?_, hrun, hended, _, _, rfl, ?_, ⟨_, rfl⟩, hW, hsame.mono (by decide) (by decide)⟩
  · show Steps p.tables e below (T3.setTop (mkF m 12 #[.val (.ref ob0), .val (.ref ob1)] [(.ref sa3)])) _
    jvm_step X3.here [X3.here.top, hx, (hb hby own_d9_12), X3.method', Bd.returns, Value.isRef, FieldType.isReference]
    first | (intro acts; rw [hrt _ acts rfl rfl rfl]) | rw [hrt _ _ rfl rfl rfl]
    exact Steps.refl _
  · show own_Q_rmA27 Z ob0 ob0_end ob0_start ob1 ob1_value k_ob1_value ob1_value_0 ob1_value_1 ob1_value_2 ob1_value_3 mm cs wf h0 n0 _ T3.heap _
    exact ⟨sa3, sb3, _, rfl, N3, (Keep.trans (Keep.refl h0 []) K3 all0), sz_sa3, sz_sb3, Qe3, Qc3, Qv3, Qa3⟩
theorem own_ef37 (m : MethodId) (x0 : Addr) (x1 : Addr) : entryFrame m #[(.ref x0), (.ref x1)] 2 = mkF m 0 #[.val (.ref x0), .val (.ref x1)] [] := by first | (simp [entryFrame, mkF, argsToLocals, Value.category]; done) | rfl
theorem own_ef38 (m : MethodId) (x0 : Addr) (x1 : Int32) (x2 : Int32) : entryFrame m #[(.ref x0), (.int x1), (.int x2)] 5 = mkF m 0 #[.val (.ref x0), .val (.int x1), .val (.int x2), .unset, .unset] [] := by first | (simp [entryFrame, mkF, argsToLocals, Value.category]; done) | rfl
theorem own_ef39 (m : MethodId) (x0 : Addr) (x1 : Int32) (x2 : Int32) : entryFrame m #[(.ref x0), (.int x1), (.int x2)] 3 = mkF m 0 #[.val (.ref x0), .val (.int x1), .val (.int x2)] [] := by first | (simp [entryFrame, mkF, argsToLocals, Value.category]; done) | rfl
def own_Q_rmA37 (Z : State) (ob0 : Addr) (k_ob0 : ClassId) (ob0_0 : Int32) (ob0_1 : Int32) (ob0_2 : Int32) (ob0_3 : Int32) (p1 : Int32) (p2 : Int32) (tt : Int32) (cs : Int32) (wf : Value) (h0 : Heap) (n0 : Nat) (v : Option Value) (h : Heap) (L : List Loc) : Prop := ∃ sa sb : Addr, ∃ sk : ClassId, v = some (.ref sa) ∧ Fr n0 L ∧ Keep h0 h [] ∧ Exa Z h sa "java/lang/String" ∧ Fld Z h sa "java/lang/String" "coder" "B" (.int (0 : Int32)) ∧ Fld Z h sa "java/lang/String" "value" "[B" (.ref sb) ∧ Arv Z h sb sk .byte (0 : Int32) [] (.int (0 : Int32))
set_option maxRecDepth 65536 in
set_option maxHeartbeats 40000000 in
theorem rmA37 (l : Launch) (Z : State) (a0 : Array Value) (hw : ∀ d ∈ tables_1, d.before a0 Z = true) (ws : List Jvm.Cond) (ob0 : Addr) (k_ob0 : ClassId) (ob0_0 : Int32) (ob0_1 : Int32) (ob0_2 : Int32) (ob0_3 : Int32) (p1 : Int32) (p2 : Int32) (tt : Int32) (cs : Int32) (wf : Value) (h0 : Heap) (n0 : Nat) (O0 : Old Z n0 h0) (G : own_Gl Z cs wf) (V_ob0 : Arv Z h0 ob0 k_ob0 .byte (4 : Int32) [(.int ob0_0), (.int ob0_1), (.int ob0_2), (.int ob0_3)] (.int (0 : Int32))) (ha0 : ¬ (p1 < (0 : Int32))) (hba : ¬ (tt < p1)) (hb4 : ¬ ((4 : Int32) < tt)) (hm : (tt - p1) = p2) (hm0 : ¬ (p2 < 0)) (hm4 : p2.toNatClampNeg ≤ 4) (hcp : p1.toNatClampNeg + p2.toNatClampNeg ≤ (4 : Int32).toNatClampNeg) (hmin : (if p2 < ((4 : Int32) - p1) then p2 else ((4 : Int32) - p1)) = p2) (ht : (p1 + p2) = tt) (hs0 : ¬ (p1 = (0 : Int32))) (hz : p2 = (0 : Int32)) :
    MetFree l own_y19 (head1 (Jvm.Cond.code own_y19 jdk_43_method_47_code 3 (some (.object "java/lang/String")) :: ws) ({ frames := 0, cells := 2, slots := 4, locals := 0 } : Room)) (fun a U => a = #[(.ref ob0), (.int p1), (.int p2)] ∧ Z.Warmed39 U.vm ∧ U.heap = h0 ∧ CHv Z own_EL U.vm h0) (fun _ _ _ _ _ => True) (fun _ U o U' => ∃ v L, o = .returned v ∧ own_Q_rmA37 Z ob0 k_ob0 ob0_0 ob0_1 ob0_2 ob0_3 p1 p2 tt cs wf h0 n0 v U'.heap L ∧ CHr Z own_EL U.vm U.heap U'.vm U'.heap ∧ ReturnedEndW U o U' L ({ frames := 0, cells := 2, slots := 4, locals := 0 } : Room).cells ({ frames := 0, cells := 2, slots := 4, locals := 0 } : Room).slots) := by
  refine MetFree.of_bodySF (plainFor_of_name own_pn2) hisR ?_
  intro p e s m args below meth c s₁ Bd hml0 hP hK
  obtain ⟨rfl, hZ, hh, hCH⟩ := hP
  have hx := Bd.exec
  have hby := Bd.bytes
  have hml : c.maxLocals = 3 := hml0
  have hown : s.vm.findClass "java/lang/StringLatin1" = some m.cls := findClass_of_methodNamed Bd.named
  have hnm := (name_of_methodNamed Bd.named Bd.method).1
  have X0 : Stand p l e ({ frames := 0, cells := 2, slots := 4, locals := 0 } : Room) (s.setVm s.vm) m #[(.ref ob0), (.int p1), (.int p2)] below meth c s₁ [] 0 0 := Stand.of_body Bd
  have e0 : s₁.heap = h0 := by rw [← hh, Bd.state]; rfl
  have N0 := Fr.nil n0
  have Z0 : n0 ≤ h0.size := O0.1 ▸ O0.2.1
  have g0 : ∀ t, Steps p.tables e below (s₁.setTop (mkF m 0 #[.val (.ref ob0), .val (.int p1), .val (.int p2)] [])) t → Steps p.tables e below (s₁.setTop (entryFrame m #[(.ref ob0), (.int p1), (.int p2)] 3)) t := fun t k => castTop (own_ef39 m (ob0) (p1) (p2)) k
  have hC := CHr.refl hCH
  have hS : s.Since s.vm h0.size := (State.WarmedH.refl s).since _
  have hk := Nat.le_refl h0.size
  have G0 := G
  obtain ⟨S_CS, hcs, S_WF, hwf⟩ := G
  have hc1 : p2 = (0 : Int32) := hz
  obtain ⟨a2, T2, h2, k2, b2, ka2, X2, e2, E2, hS, hk, hZ, hown, Ex2, Fc2, Fv2, Va2, -, -, C2, -, -, st2⟩ := ldcCH (s := s) (vm0 := s.vm) X0 hx hZ hown (own_w hw 95 rfl) (own_wS hw) e0 hS hk (own_EW hw) (List.mem_of_getElem? (i := 0) rfl) hC.1 (vs := []) (z := (0 : Int32)) ⟨by decide, by decide⟩ (by decide) (by decide) (g := (mkF m 4 #[.val (.ref ob0), .val (.int p1), .val (.int p2)] [])) rfl (hb hby own_d16_4) (n := 0) (by decide) (by decide) (by decide) (by decide)
  have hC := hC.trans C2
  have g3 : ∀ t, Steps p.tables e below (T2.setTop (mkF m 6 #[.val (.ref ob0), .val (.int p1), .val (.int p2)] [(.ref a2)])) t → Steps p.tables e below (s₁.setTop (entryFrame m #[(.ref ob0), (.int p1), (.int p2)] 3)) t := by
    intro t k
    refine g0 t ?_
    show Steps p.tables e below (s₁.setTop (mkF m 0 #[.val (.ref ob0), .val (.int p1), .val (.int p2)] [])) _
    refine XS.iloadN X0.here hx rfl (hb hby own_d16_0) rfl ?_
    refine XS.ifNo X0.here hx rfl (hb hby own_d16_1) rfl ((if0 _ _).trans (teq hc1).2) ?_
    refine st2 _ ?_
    exact k
  obtain ⟨fs, hrt, hrun, hended, hRW⟩ := X2.leaveW hS (by rw [e2]; exact hk) (v := some (.ref a2)) (fun h => by rw [Bd.returns] at h; cases h)
  refine ⟨_, _, g3 _ ?_, hrun, hended, _, _, rfl, ?_, ?_, hRW.1, hRW.2.1, hRW.2.2.1, hRW.2.2.2.mono (by decide) (by decide)⟩
  · show Steps p.tables e below (T2.setTop (mkF m 6 #[.val (.ref ob0), .val (.int p1), .val (.int p2)] [(.ref a2)])) _
    jvm_step X2.here [X2.here.top, hx, (hb hby own_d16_6), X2.method', Bd.returns, Value.isRef, FieldType.isReference]
    first | (intro acts; rw [hrt _ acts rfl rfl rfl]) | rw [hrt _ _ rfl rfl rfl]
    exact Steps.refl _
  · show own_Q_rmA37 Z ob0 k_ob0 ob0_0 ob0_1 ob0_2 ob0_3 p1 p2 tt cs wf h0 n0 _ T2.heap _
    rw [e2]
    exact ⟨a2, b2, _, rfl, N0, (Keep.ext (Keep.refl h0 []) E2), Ex2, Fc2, Fv2, Va2⟩
  · rw [hh]
    show CHr Z own_EL s.vm h0 T2.vm T2.heap
    rw [e2]
    exact hC.trans (CHv.at X2 hZ (own_EW hw) hC.1)
def own_Q_rmA36 (Z : State) (ob0 : Addr) (ob0_value : Addr) (k_ob0_value : ClassId) (ob0_value_0 : Int32) (ob0_value_1 : Int32) (ob0_value_2 : Int32) (ob0_value_3 : Int32) (p1 : Int32) (p2 : Int32) (mm : Int32) (cs : Int32) (wf : Value) (h0 : Heap) (n0 : Nat) (v : Option Value) (h : Heap) (L : List Loc) : Prop := ∃ sa sb : Addr, ∃ sk : ClassId, v = some (.ref sa) ∧ Fr n0 L ∧ Keep h0 h [] ∧ Exa Z h sa "java/lang/String" ∧ Fld Z h sa "java/lang/String" "coder" "B" (.int (0 : Int32)) ∧ Fld Z h sa "java/lang/String" "value" "[B" (.ref sb) ∧ Arv Z h sb sk .byte (0 : Int32) [] (.int (0 : Int32))
set_option maxRecDepth 65536 in
set_option maxHeartbeats 40000000 in
theorem rmA36 (l : Launch) (Z : State) (a0 : Array Value) (hw : ∀ d ∈ tables_1, d.before a0 Z = true) (ws : List Jvm.Cond) (ob0 : Addr) (ob0_value : Addr) (k_ob0_value : ClassId) (ob0_value_0 : Int32) (ob0_value_1 : Int32) (ob0_value_2 : Int32) (ob0_value_3 : Int32) (p1 : Int32) (p2 : Int32) (mm : Int32) (cs : Int32) (wf : Value) (h0 : Heap) (n0 : Nat) (O0 : Old Z n0 h0) (G : own_Gl Z cs wf) (E_ob0 : Exa Z h0 ob0 "java/lang/String") (F_ob0_coder : Fld Z h0 ob0 "java/lang/String" "coder" "B" (.int (0 : Int32))) (V_ob0_value : Arv Z h0 ob0_value k_ob0_value .byte (4 : Int32) [(.int ob0_value_0), (.int ob0_value_1), (.int ob0_value_2), (.int ob0_value_3)] (.int (0 : Int32))) (F_ob0_value : Fld Z h0 ob0 "java/lang/String" "value" "[B" (.ref ob0_value)) (ha0 : ¬ (p1 < (0 : Int32))) (hba : ¬ (p2 < p1)) (hb4 : ¬ ((4 : Int32) < p2)) (hm : (p2 - p1) = mm) (hm0 : ¬ (mm < 0)) (hm4 : mm.toNatClampNeg ≤ 4) (hcp : p1.toNatClampNeg + mm.toNatClampNeg ≤ (4 : Int32).toNatClampNeg) (hmin : (if mm < ((4 : Int32) - p1) then mm else ((4 : Int32) - p1)) = mm) (ht : (p1 + mm) = p2) (hs0 : ¬ (p1 = (0 : Int32))) (hz : mm = (0 : Int32)) :
    MetFree l own_y16 (head1 (Jvm.Cond.code own_y16 jdk_42_method_92_code 5 (some (.object "java/lang/String")) :: ws) ({ frames := 2, cells := 2, slots := 4, locals := 29 } : Room)) (fun a U => a = #[(.ref ob0), (.int p1), (.int p2)] ∧ Z.Warmed39 U.vm ∧ U.heap = h0 ∧ CHv Z own_EL U.vm h0) (fun _ _ _ _ _ => True) (fun _ U o U' => ∃ v L, o = .returned v ∧ own_Q_rmA36 Z ob0 ob0_value k_ob0_value ob0_value_0 ob0_value_1 ob0_value_2 ob0_value_3 p1 p2 mm cs wf h0 n0 v U'.heap L ∧ CHr Z own_EL U.vm U.heap U'.vm U'.heap ∧ ReturnedEndW U o U' L ({ frames := 2, cells := 2, slots := 4, locals := 29 } : Room).cells ({ frames := 2, cells := 2, slots := 4, locals := 29 } : Room).slots) := by
  refine MetFree.of_bodySF (plainFor_of_name own_pn0) hisR ?_
  intro p e s m args below meth c s₁ Bd hml0 hP hK
  obtain ⟨rfl, hZ, hh, hCH⟩ := hP
  have hx := Bd.exec
  have hby := Bd.bytes
  have hml : c.maxLocals = 5 := hml0
  have hown : s.vm.findClass "java/lang/String" = some m.cls := findClass_of_methodNamed Bd.named
  have hnm := (name_of_methodNamed Bd.named Bd.method).1
  have X0 : Stand p l e ({ frames := 2, cells := 2, slots := 4, locals := 29 } : Room) (s.setVm s.vm) m #[(.ref ob0), (.int p1), (.int p2)] below meth c s₁ [] 0 0 := Stand.of_body Bd
  have e0 : s₁.heap = h0 := by rw [← hh, Bd.state]; rfl
  have N0 := Fr.nil n0
  have Z0 : n0 ≤ h0.size := O0.1 ▸ O0.2.1
  have g0 : ∀ t, Steps p.tables e below (s₁.setTop (mkF m 0 #[.val (.ref ob0), .val (.int p1), .val (.int p2), .unset, .unset] [])) t → Steps p.tables e below (s₁.setTop (entryFrame m #[(.ref ob0), (.int p1), (.int p2)] 5)) t := fun t k => castTop (own_ef38 m (ob0) (p1) (p2)) k
  have hC := CHr.refl hCH
  have hS : s.Since s.vm h0.size := (State.WarmedH.refl s).since _
  have hk := Nat.le_refl h0.size
  have G0 := G
  obtain ⟨S_CS, hcs, S_WF, hwf⟩ := G
  obtain ⟨cq1, kq1, q1a, q1b, q1c⟩ := isOf hZ e0 E_ob0
  obtain ⟨_, _, ⟨T1, L1, k1, n1⟩, -, X1, ⟨Lc1, hQ1, l1, y1, z1⟩, st1⟩ := X0.virtualBack hx (y := own_y0) (z := own_y0) hown (mvT hZ (own_w hw 68 rfl)) (mvT hZ (own_w hw 69 rfl)) (notFace_of_selects (args := #[]) (mvT hZ (own_w hw 71 rfl))) (mvT hZ (own_w hw 71 rfl)) (mvT hZ (own_w hw 70 rfl)) (by decide) (backOf (W := 0) (rmA18 l Z a0 hw [] ob0 ob0_value k_ob0_value (ob0_value_0) (ob0_value_1) (ob0_value_2) (ob0_value_3)  cs wf h0 n0 O0 G0 E_ob0 F_ob0_coder V_ob0_value F_ob0_value  ) hZ (own_w hw 72 rfl) (own_w hw 3 rfl) (by decide) (by decide)) q1a q1c (g := (mkF m 1 #[.val (.ref ob0), .val (.int p1), .val (.int p2), .unset, .unset] [(.ref ob0)])) rfl (by rw [hml]; rfl) (Steps.refl _) (argsL := []) (rest := []) (lenOf own_pd1 rfl) rfl (by show 2 * 0 + _ ≤ _; exact Nat.le_of_eq rfl) (hb hby own_d10_1) (fun _ _ => ⟨rfl, e0, (by decide : 0 + 0 ≤ _), (by decide : 0 + 0 ≤ _)⟩)
  dsimp only [Pt.U, Pt.locs, Pt.cells, Pt.slots] at X1 l1 y1 z1 st1 hQ1
  subst l1 y1 z1
  obtain ⟨rfl, Nq1, e1⟩ := hQ1
  have N1 := Fr.app N0 Nq1
  obtain ⟨_, _, ⟨T2, L2, k2, n2⟩, -, X2, ⟨Lc2, hQ2, l2, y2, z2⟩, st2⟩ := Jvm.LawKit.callS X1 hx (y := own_y17) hown (mvT hZ (own_w hw 78 rfl)) (mvT hZ (own_w hw 79 rfl)) (mvT hZ (own_w hw 3 rfl)) (mvT hZ (own_w hw 80 rfl)) (by decide) (backOf (W := 0) (rmA20 l Z a0 hw [] (p1) (p2) ((4 : Int32))  cs wf h0 n0 O0 G0   ha0 hba hb4) hZ (own_w hw 80 rfl) (own_w hw 3 rfl) (by decide) (by decide)) (g := (mkF m 8 #[.val (.ref ob0), .val (.int p1), .val (.int p2), .val (.int (4 : Int32)), .unset] [(.int (4 : Int32)), (.int p2), (.int p1)])) rfl (by rw [hml]; rfl) (argsL := [(.int p1), (.int p2), (.int (4 : Int32))]) (rest := []) (lenOf own_pd16 rfl) rfl (by show 2 * 0 + _ ≤ _; exact Nat.le_of_eq rfl) (hb hby own_d10_8) (fun _ _ => ⟨rfl, e1, (by decide : 0 + 0 ≤ _), (by decide : 0 + 0 ≤ _)⟩)
  dsimp only [Pt.U, Pt.locs, Pt.cells, Pt.slots] at X2 l2 y2 z2 st2 hQ2
  subst l2 y2 z2
  obtain ⟨rfl, Nq2, e2⟩ := hQ2
  have N2 := Fr.app N1 Nq2
  have hc3 : ¬ (p1 = (0 : Int32)) := hs0
  have g4 : ∀ t, Steps p.tables e below (T2.setTop (mkF m 25 #[.val (.ref ob0), .val (.int p1), .val (.int p2), .val (.int (4 : Int32)), .unset] [(.int mm)])) t → Steps p.tables e below (s₁.setTop (entryFrame m #[(.ref ob0), (.int p1), (.int p2)] 5)) t := by
    intro t k
    rw [← hm] at k
    refine g0 t ?_
    show Steps p.tables e below (s₁.setTop (mkF m 0 #[.val (.ref ob0), .val (.int p1), .val (.int p2), .unset, .unset] [])) _
    refine XS.aloadN X0.here hx rfl (hb hby own_d10_0) rfl rfl ?_
    refine st1.trans ?_
    refine XS.istoreN X1.here hx rfl (hb hby own_d10_4) rfl (l' := #[.val (.ref ob0), .val (.int p1), .val (.int p2), .val (.int (4 : Int32)), .unset]) rfl ?_
    refine XS.iloadN X1.here hx rfl (hb hby own_d10_5) rfl ?_
    show Steps p.tables e below (T1.setTop (mkF m 6 #[.val (.ref ob0), .val (.int p1), .val (.int p2), .val (.int (4 : Int32)), .unset] [(.int p1)])) _
    refine XS.iloadN X1.here hx rfl (hb hby own_d10_6) rfl ?_
    refine XS.iloadN X1.here hx rfl (hb hby own_d10_7) rfl ?_
    refine st2 _ ?_
    refine XS.iloadN X2.here hx rfl (hb hby own_d10_11) rfl ?_
    show Steps p.tables e below (T2.setTop (mkF m 12 #[.val (.ref ob0), .val (.int p1), .val (.int p2), .val (.int (4 : Int32)), .unset] [(.int p1)])) _
    refine XS.ifYes X2.here hx rfl (pc0 := 12) (pc' := 22) rfl (hb hby own_d10_12) rfl ((if0 _ _).trans (feq hc3).2) (by decide) (by decide) ?_
    refine XS.iloadN X2.here hx rfl (hb hby own_d10_22) rfl ?_
    refine XS.iloadN X2.here hx rfl (hb hby own_d10_23) rfl ?_
    show Steps p.tables e below (T2.setTop (mkF m 24 #[.val (.ref ob0), .val (.int p1), .val (.int p2), .val (.int (4 : Int32)), .unset] [(.int p1), (.int p2)])) _
    refine XS.isub X2.here hx rfl (hb hby own_d10_24) rfl ?_
    exact k
  obtain ⟨cq5, kq5, q5a, q5b, q5c⟩ := isOf hZ e2 E_ob0
  obtain ⟨_, _, ⟨T5, L5, k5, n5⟩, -, X5, ⟨Lc5, hQ5, l5, y5, z5⟩, st5⟩ := X2.virtualBack hx (y := own_y4) (z := own_y4) hown (mvT hZ (own_w hw 86 rfl)) (mvT hZ (own_w hw 87 rfl)) (notFace_of_selects (args := #[]) (mvT hZ (own_w hw 89 rfl))) (mvT hZ (own_w hw 89 rfl)) (mvT hZ (own_w hw 88 rfl)) (by decide) (backOf (W := 0) (rmA25 l Z a0 hw [] ob0 ob0_value k_ob0_value (ob0_value_0) (ob0_value_1) (ob0_value_2) (ob0_value_3)  cs wf h0 n0 O0 G0 E_ob0 F_ob0_coder V_ob0_value F_ob0_value  ) hZ (own_w hw 90 rfl) (own_w hw 3 rfl) (by decide) (by decide)) q5a q5c (g := (mkF m 28 #[.val (.ref ob0), .val (.int p1), .val (.int p2), .val (.int (4 : Int32)), .val (.int mm)] [(.ref ob0)])) rfl (by rw [hml]; rfl) (Steps.refl _) (argsL := []) (rest := []) (lenOf own_pd2 rfl) rfl (by show 2 * 0 + _ ≤ _; exact Nat.le_of_eq rfl) (hb hby own_d10_28) (fun _ _ => ⟨rfl, e2, (by decide : 0 + 0 ≤ _), (by decide : 0 + 0 ≤ _)⟩)
  dsimp only [Pt.U, Pt.locs, Pt.cells, Pt.slots] at X5 l5 y5 z5 st5 hQ5
  subst l5 y5 z5
  obtain ⟨rfl, Nq5, e5⟩ := hQ5
  have N5 := Fr.app N2 Nq5
  obtain ⟨T6, X6, e6, st6⟩ := getF X5 hx hZ hown (host := "") (Or.inl (own_w hw 28 rfl)) Via.refl e5 F_ob0_value (g := (mkF m 35 #[.val (.ref ob0), .val (.int p1), .val (.int p2), .val (.int (4 : Int32)), .val (.int mm)] [(.ref ob0)])) rfl rfl (hb hby own_d10_35)
  obtain ⟨LL7, XL7, NL7⟩ : ∃ LL : List Loc, Stand p l e ({ frames := 2, cells := 2, slots := 4, locals := 29 } : Room) (s.setVm s.vm) m #[(.ref ob0), (.int p1), (.int p2)] below meth c T6 LL 0 0 ∧ Fr n0 LL := ⟨_, X6, N5⟩
  obtain ⟨_, _, ⟨T8, L8, k8, n8⟩, -, X8, hSn8, hgn8, ⟨Lc8, hQ8, l8, y8, z8, C8⟩, st8⟩ := Jvm.RoadKit.callSS XL7 hx (y := own_y19) hown (mvT hZ (own_w hw 91 rfl)) (mvT hZ (own_w hw 92 rfl)) (mvT hZ (own_w hw 93 rfl)) (mvT hZ (own_w hw 94 rfl)) (by decide) (backOfSH (s := s) (vm0 := s.vm) (W := 0) (rmA37 l Z a0 hw [] ob0_value k_ob0_value (ob0_value_0) (ob0_value_1) (ob0_value_2) (ob0_value_3) (p1) (mm) p2 cs wf h0 n0 O0 G0 V_ob0_value  ha0 hba hb4 hm hm0 hm4 hcp hmin ht hs0 hz) hZ (own_w hw 94 rfl) (own_w hw 93 rfl) (by decide) (by decide) (own_EW hw) hC.1) (g := (mkF m 41 #[.val (.ref ob0), .val (.int p1), .val (.int p2), .val (.int (4 : Int32)), .val (.int mm)] [(.int mm), (.int p1), (.ref ob0_value)])) rfl (by rw [hml]; rfl) (argsL := [(.ref ob0_value), (.int p1), (.int mm)]) (rest := []) (lenOf own_pd19 rfl) rfl (by show 2 * 0 + _ ≤ _; exact Nat.le_of_eq rfl) (hb hby own_d10_41) (fun _ _ => ⟨rfl, e6, (by decide : 0 + 2 ≤ _), (by decide : 0 + 4 ≤ _)⟩)
  dsimp only [Pt.U, Pt.locs, Pt.cells, Pt.slots] at X8 l8 y8 z8 st8 hQ8 hSn8 hgn8 C8
  subst l8 y8 z8
  have hS := foldS hS (by rw [e6]; exact hk) hSn8 hgn8
  have hk := Nat.le_refl T8.heap.size
  have hZ : Z.Warmed39 T8.vm := State.Warmed39.trans (t := s.setVm s.vm) hZ hSn8.1
  have hown : T8.vm.findClass "java/lang/String" = some m.cls := by rw [hSn8.1.alike.findClass]; exact hown
  have hC := hC.trans C8
  obtain ⟨sa8, sb8, sk8, rfl, Nq8, K8, Qe8, Qc8, Qv8, Qa8⟩ := hQ8
  have N8 := Fr.app NL7 Nq8
  have g9 : ∀ t, Steps p.tables e below (T8.setTop (mkF m 57 #[.val (.ref ob0), .val (.int p1), .val (.int p2), .val (.int (4 : Int32)), .val (.int mm)] [(.ref sa8)])) t → Steps p.tables e below (s₁.setTop (entryFrame m #[(.ref ob0), (.int p1), (.int p2)] 5)) t := by
    intro t k
    refine g4 t ?_
    show Steps p.tables e below (T2.setTop (mkF m 25 #[.val (.ref ob0), .val (.int p1), .val (.int p2), .val (.int (4 : Int32)), .unset] [(.int mm)])) _
    refine XS.istore X2.here hx rfl (hb hby own_d10_25) rfl (l' := #[.val (.ref ob0), .val (.int p1), .val (.int p2), .val (.int (4 : Int32)), .val (.int mm)]) rfl ?_
    refine XS.aloadN X2.here hx rfl (hb hby own_d10_27) rfl rfl ?_
    refine st5.trans ?_
    refine XS.ifNo X5.here hx rfl (hb hby own_d10_31) rfl ((if0 _ _).trans (feq (by decide : ¬ ((1 : Int32) = (0 : Int32)))).1) ?_
    show Steps p.tables e below (T5.setTop (mkF m 34 #[.val (.ref ob0), .val (.int p1), .val (.int p2), .val (.int (4 : Int32)), .val (.int mm)] [])) _
    refine XS.aloadN X5.here hx rfl (hb hby own_d10_34) rfl rfl ?_
    refine st6 _ ?_
    refine XS.iloadN X6.here hx rfl (hb hby own_d10_38) rfl ?_
    refine XS.iload X6.here hx rfl (hb hby own_d10_39) rfl ?_
    show Steps p.tables e below (T6.setTop (mkF m 41 #[.val (.ref ob0), .val (.int p1), .val (.int p2), .val (.int (4 : Int32)), .val (.int mm)] [(.int mm), (.int p1), (.ref ob0_value)])) _
    refine st8.trans ?_
    refine XS.goto X8.here hx rfl (pc0 := 44) (pc' := 57) rfl (hb hby own_d10_44) (by decide) (by decide) ?_
    exact k
  obtain ⟨fs, hrt, hrun, hended, hRW⟩ := X8.leaveW hS hk (v := some (.ref sa8)) (fun h => by rw [Bd.returns] at h; cases h)
  refine ⟨_, _, g9 _ ?_, hrun, hended, _, _, rfl, ?_, ?_, hRW.1, hRW.2.1, hRW.2.2.1, hRW.2.2.2.mono (by decide) (by decide)⟩
  · show Steps p.tables e below (T8.setTop (mkF m 57 #[.val (.ref ob0), .val (.int p1), .val (.int p2), .val (.int (4 : Int32)), .val (.int mm)] [(.ref sa8)])) _
    jvm_step X8.here [X8.here.top, hx, (hb hby own_d10_57), X8.method', Bd.returns, Value.isRef, FieldType.isReference]
    first | (intro acts; rw [hrt _ acts rfl rfl rfl]) | rw [hrt _ _ rfl rfl rfl]
    exact Steps.refl _
  · show own_Q_rmA36 Z ob0 ob0_value k_ob0_value ob0_value_0 ob0_value_1 ob0_value_2 ob0_value_3 p1 p2 mm cs wf h0 n0 _ T8.heap _
    exact ⟨sa8, sb8, _, rfl, N8, (Keep.trans (Keep.refl h0 []) K8 all0), Qe8, Qc8, Qv8, Qa8⟩
  · rw [hh]
    show CHr Z own_EL s.vm h0 T8.vm T8.heap
    exact hC.trans (CHv.at X8 hZ (own_EW hw) hC.1)
def own_Q_rmA35 (Z : State) (ob0 : Addr) (ob0_end : Int32) (ob0_start : Int32) (ob1 : Addr) (ob1_value : Addr) (k_ob1_value : ClassId) (ob1_value_0 : Int32) (ob1_value_1 : Int32) (ob1_value_2 : Int32) (ob1_value_3 : Int32) (mm : Int32) (cs : Int32) (wf : Value) (h0 : Heap) (n0 : Nat) (v : Option Value) (h : Heap) (L : List Loc) : Prop := ∃ sa sb : Addr, ∃ sk : ClassId, v = some (.ref sa) ∧ Fr n0 L ∧ Keep h0 h [] ∧ Exa Z h sa "java/lang/String" ∧ Fld Z h sa "java/lang/String" "coder" "B" (.int (0 : Int32)) ∧ Fld Z h sa "java/lang/String" "value" "[B" (.ref sb) ∧ Arv Z h sb sk .byte (0 : Int32) [] (.int (0 : Int32))
set_option maxRecDepth 65536 in
set_option maxHeartbeats 40000000 in
theorem rmA35 (l : Launch) (Z : State) (a0 : Array Value) (hw : ∀ d ∈ tables_1, d.before a0 Z = true) (ws : List Jvm.Cond) (ob0 : Addr) (ob0_end : Int32) (ob0_start : Int32) (ob1 : Addr) (ob1_value : Addr) (k_ob1_value : ClassId) (ob1_value_0 : Int32) (ob1_value_1 : Int32) (ob1_value_2 : Int32) (ob1_value_3 : Int32) (mm : Int32) (cs : Int32) (wf : Value) (h0 : Heap) (n0 : Nat) (O0 : Old Z n0 h0) (G : own_Gl Z cs wf) (E_ob0 : Exa Z h0 ob0 "com/example/momus/momus/model/FormatSpecifier") (F_ob0_end : Fld Z h0 ob0 "com/example/momus/momus/model/FormatSpecifier" "end" "I" (.int ob0_end)) (F_ob0_start : Fld Z h0 ob0 "com/example/momus/momus/model/FormatSpecifier" "start" "I" (.int ob0_start)) (E_ob1 : Exa Z h0 ob1 "java/lang/String") (F_ob1_coder : Fld Z h0 ob1 "java/lang/String" "coder" "B" (.int (0 : Int32))) (V_ob1_value : Arv Z h0 ob1_value k_ob1_value .byte (4 : Int32) [(.int ob1_value_0), (.int ob1_value_1), (.int ob1_value_2), (.int ob1_value_3)] (.int (0 : Int32))) (F_ob1_value : Fld Z h0 ob1 "java/lang/String" "value" "[B" (.ref ob1_value)) (ha0 : ¬ (ob0_start < (0 : Int32))) (hba : ¬ (ob0_end < ob0_start)) (hb4 : ¬ ((4 : Int32) < ob0_end)) (hm : (ob0_end - ob0_start) = mm) (hm0 : ¬ (mm < 0)) (hm4 : mm.toNatClampNeg ≤ 4) (hcp : ob0_start.toNatClampNeg + mm.toNatClampNeg ≤ (4 : Int32).toNatClampNeg) (hmin : (if mm < ((4 : Int32) - ob0_start) then mm else ((4 : Int32) - ob0_start)) = mm) (ht : (ob0_start + mm) = ob0_end) (hs0 : ¬ (ob0_start = (0 : Int32))) (hz : mm = (0 : Int32)) :
    MetFree l own_y15 (head1 (Jvm.Cond.code own_y15 prog_42_method_5_code 2 (some (.object "java/lang/String")) :: ws) ({ frames := 3, cells := 2, slots := 4, locals := 45 } : Room)) (fun a U => a = #[(.ref ob0), (.ref ob1)] ∧ Z.Warmed39 U.vm ∧ U.heap = h0 ∧ CHv Z own_EL U.vm h0) (fun _ _ _ _ _ => True) (fun _ U o U' => ∃ v L, o = .returned v ∧ own_Q_rmA35 Z ob0 ob0_end ob0_start ob1 ob1_value k_ob1_value ob1_value_0 ob1_value_1 ob1_value_2 ob1_value_3 mm cs wf h0 n0 v U'.heap L ∧ CHr Z own_EL U.vm U.heap U'.vm U'.heap ∧ ReturnedEndW U o U' L ({ frames := 3, cells := 2, slots := 4, locals := 45 } : Room).cells ({ frames := 3, cells := 2, slots := 4, locals := 45 } : Room).slots) := by
  refine MetFree.of_bodySF (plainFor_of_name own_pn5) hisR ?_
  intro p e s m args below meth c s₁ Bd hml0 hP hK
  obtain ⟨rfl, hZ, hh, hCH⟩ := hP
  have hx := Bd.exec
  have hby := Bd.bytes
  have hml : c.maxLocals = 2 := hml0
  have hown : s.vm.findClass "com/example/momus/momus/model/FormatSpecifier" = some m.cls := findClass_of_methodNamed Bd.named
  have hnm := (name_of_methodNamed Bd.named Bd.method).1
  have X0 : Stand p l e ({ frames := 3, cells := 2, slots := 4, locals := 45 } : Room) (s.setVm s.vm) m #[(.ref ob0), (.ref ob1)] below meth c s₁ [] 0 0 := Stand.of_body Bd
  have e0 : s₁.heap = h0 := by rw [← hh, Bd.state]; rfl
  have N0 := Fr.nil n0
  have Z0 : n0 ≤ h0.size := O0.1 ▸ O0.2.1
  have g0 : ∀ t, Steps p.tables e below (s₁.setTop (mkF m 0 #[.val (.ref ob0), .val (.ref ob1)] [])) t → Steps p.tables e below (s₁.setTop (entryFrame m #[(.ref ob0), (.ref ob1)] 2)) t := fun t k => castTop (own_ef37 m (ob0) (ob1)) k
  have hC := CHr.refl hCH
  have hS : s.Since s.vm h0.size := (State.WarmedH.refl s).since _
  have hk := Nat.le_refl h0.size
  have G0 := G
  obtain ⟨S_CS, hcs, S_WF, hwf⟩ := G
  obtain ⟨T1, X1, e1, st1⟩ := getF X0 hx hZ hown (host := "") (Or.inl (own_w hw 44 rfl)) Via.refl e0 F_ob0_start (g := (mkF m 2 #[.val (.ref ob0), .val (.ref ob1)] [(.ref ob0), (.ref ob1)])) rfl rfl (hb hby own_d9_2)
  obtain ⟨T2, X2, e2, st2⟩ := getF X1 hx hZ hown (host := "") (Or.inl (own_w hw 56 rfl)) Via.refl e1 F_ob0_end (g := (mkF m 6 #[.val (.ref ob0), .val (.ref ob1)] [(.ref ob0), (.int ob0_start), (.ref ob1)])) rfl rfl (hb hby own_d9_6)
  obtain ⟨cq3, kq3, q3a, q3b, q3c⟩ := isOf hZ e2 E_ob1
  obtain ⟨_, _, ⟨T3, L3, k3, n3⟩, -, X3, hSn3, hgn3, ⟨Lc3, hQ3, l3, y3, z3, C3⟩, st3⟩ := X2.virtualBackS hx (y := own_y16) (z := own_y16) hown (mvT hZ (own_w hw 63 rfl)) (mvT hZ (own_w hw 64 rfl)) (notFace_of_selects (args := #[]) (mvT hZ (own_w hw 66 rfl))) (mvT hZ (own_w hw 66 rfl)) (mvT hZ (own_w hw 65 rfl)) (by decide) (backOfSH (s := s) (vm0 := s.vm) (W := 0) (rmA36 l Z a0 hw [] ob1 ob1_value k_ob1_value (ob1_value_0) (ob1_value_1) (ob1_value_2) (ob1_value_3) (ob0_start) (ob0_end) mm cs wf h0 n0 O0 G0 E_ob1 F_ob1_coder V_ob1_value F_ob1_value  ha0 hba hb4 hm hm0 hm4 hcp hmin ht hs0 hz) hZ (own_w hw 67 rfl) (own_w hw 3 rfl) (by decide) (by decide) (own_EW hw) hC.1) q3a q3c (g := (mkF m 9 #[.val (.ref ob0), .val (.ref ob1)] [(.int ob0_end), (.int ob0_start), (.ref ob1)])) rfl (by rw [hml]; rfl) (Steps.refl _) (argsL := [(.int ob0_start), (.int ob0_end)]) (rest := []) (lenOf own_pd17 rfl) rfl (by show 2 * 0 + _ ≤ _; exact Nat.le_of_eq rfl) (hb hby own_d9_9) (fun _ _ => ⟨rfl, e2, (by decide : 0 + 2 ≤ _), (by decide : 0 + 4 ≤ _)⟩)
  dsimp only [Pt.U, Pt.locs, Pt.cells, Pt.slots] at X3 l3 y3 z3 st3 hQ3 hSn3 hgn3 C3
  subst l3 y3 z3
  have hS := foldS hS (by rw [e2]; exact hk) hSn3 hgn3
  have hk := Nat.le_refl T3.heap.size
  have hZ : Z.Warmed39 T3.vm := State.Warmed39.trans (t := s.setVm s.vm) hZ hSn3.1
  have hown : T3.vm.findClass "com/example/momus/momus/model/FormatSpecifier" = some m.cls := by rw [hSn3.1.alike.findClass]; exact hown
  have hC := hC.trans C3
  obtain ⟨sa3, sb3, sk3, rfl, Nq3, K3, Qe3, Qc3, Qv3, Qa3⟩ := hQ3
  have N3 := Fr.app N0 Nq3
  have g4 : ∀ t, Steps p.tables e below (T3.setTop (mkF m 12 #[.val (.ref ob0), .val (.ref ob1)] [(.ref sa3)])) t → Steps p.tables e below (s₁.setTop (entryFrame m #[(.ref ob0), (.ref ob1)] 2)) t := by
    intro t k
    refine g0 t ?_
    show Steps p.tables e below (s₁.setTop (mkF m 0 #[.val (.ref ob0), .val (.ref ob1)] [])) _
    refine XS.aloadN X0.here hx rfl (hb hby own_d9_0) rfl rfl ?_
    refine XS.aloadN X0.here hx rfl (hb hby own_d9_1) rfl rfl ?_
    refine st1 _ ?_
    refine XS.aloadN X1.here hx rfl (hb hby own_d9_5) rfl rfl ?_
    show Steps p.tables e below (T1.setTop (mkF m 6 #[.val (.ref ob0), .val (.ref ob1)] [(.ref ob0), (.int ob0_start), (.ref ob1)])) _
    refine st2 _ ?_
    refine st3.trans ?_
    exact k
  obtain ⟨fs, hrt, hrun, hended, hRW⟩ := X3.leaveW hS hk (v := some (.ref sa3)) (fun h => by rw [Bd.returns] at h; cases h)
  refine ⟨_, _, g4 _ ?_, hrun, hended, _, _, rfl, ?_, ?_, hRW.1, hRW.2.1, hRW.2.2.1, hRW.2.2.2.mono (by decide) (by decide)⟩
  · show Steps p.tables e below (T3.setTop (mkF m 12 #[.val (.ref ob0), .val (.ref ob1)] [(.ref sa3)])) _
    jvm_step X3.here [X3.here.top, hx, (hb hby own_d9_12), X3.method', Bd.returns, Value.isRef, FieldType.isReference]
    first | (intro acts; rw [hrt _ acts rfl rfl rfl]) | rw [hrt _ _ rfl rfl rfl]
    exact Steps.refl _
  · show own_Q_rmA35 Z ob0 ob0_end ob0_start ob1 ob1_value k_ob1_value ob1_value_0 ob1_value_1 ob1_value_2 ob1_value_3 mm cs wf h0 n0 _ T3.heap _
    exact ⟨sa3, sb3, _, rfl, N3, (Keep.trans (Keep.refl h0 []) K3 all0), Qe3, Qc3, Qv3, Qa3⟩
  · rw [hh]
    show CHr Z own_EL s.vm h0 T3.vm T3.heap
    exact hC.trans (CHv.at X3 hZ (own_EW hw) hC.1)
theorem own_ef40 (m : MethodId) (x0 : Addr) (x1 : Addr) : entryFrame m #[(.ref x0), (.ref x1)] 2 = mkF m 0 #[.val (.ref x0), .val (.ref x1)] [] := by first | (simp [entryFrame, mkF, argsToLocals, Value.category]; done) | rfl
theorem own_ef41 (m : MethodId) (x0 : Addr) (x1 : Int32) (x2 : Int32) : entryFrame m #[(.ref x0), (.int x1), (.int x2)] 5 = mkF m 0 #[.val (.ref x0), .val (.int x1), .val (.int x2), .unset, .unset] [] := by first | (simp [entryFrame, mkF, argsToLocals, Value.category]; done) | rfl
theorem own_ef42 (m : MethodId) (x0 : Addr) (x1 : Int32) (x2 : Int32) : entryFrame m #[(.ref x0), (.int x1), (.int x2)] 3 = mkF m 0 #[.val (.ref x0), .val (.int x1), .val (.int x2)] [] := by first | (simp [entryFrame, mkF, argsToLocals, Value.category]; done) | rfl
theorem own_ef43 (m : MethodId) (x0 : Addr) (x1 : Int32) (x2 : Int32) : entryFrame m #[(.ref x0), (.int x1), (.int x2)] 3 = mkF m 0 #[.val (.ref x0), .val (.int x1), .val (.int x2)] [] := by first | (simp [entryFrame, mkF, argsToLocals, Value.category]; done) | rfl
def own_Q_rmA41 (Z : State) (ob0 : Addr) (k_ob0 : ClassId) (ob0_0 : Int32) (ob0_1 : Int32) (ob0_2 : Int32) (ob0_3 : Int32) (p1 : Int32) (p2 : Int32) (mm : Int32) (cs : Int32) (wf : Value) (h0 : Heap) (n0 : Nat) (v : Option Value) (h : Heap) (L : List Loc) : Prop := ∃ rb : Addr, ∃ rk : ClassId, v = some (.ref rb) ∧ Fr n0 L ∧ Keep h0 h [] ∧ h0.size ≤ rb ∧ Arv Z h rb rk .byte mm (own_bsub [(.int ob0_0), (.int ob0_1), (.int ob0_2), (.int ob0_3)] p1 mm) (.int (0 : Int32))
set_option maxRecDepth 65536 in
set_option maxHeartbeats 40000000 in
theorem rmA41 (l : Launch) (Z : State) (a0 : Array Value) (hw : ∀ d ∈ tables_1, d.before a0 Z = true) (ws : List Jvm.Cond) (ob0 : Addr) (k_ob0 : ClassId) (ob0_0 : Int32) (ob0_1 : Int32) (ob0_2 : Int32) (ob0_3 : Int32) (p1 : Int32) (p2 : Int32) (mm : Int32) (cs : Int32) (wf : Value) (h0 : Heap) (n0 : Nat) (O0 : Old Z n0 h0) (G : own_Gl Z cs wf) (V_ob0 : Arv Z h0 ob0 k_ob0 .byte (4 : Int32) [(.int ob0_0), (.int ob0_1), (.int ob0_2), (.int ob0_3)] (.int (0 : Int32))) (ha0 : ¬ (p1 < (0 : Int32))) (hba : ¬ (p2 < p1)) (hb4 : ¬ ((4 : Int32) < p2)) (hm : (p2 - p1) = mm) (hm0 : ¬ (mm < 0)) (hm4 : mm.toNatClampNeg ≤ 4) (hcp : p1.toNatClampNeg + mm.toNatClampNeg ≤ (4 : Int32).toNatClampNeg) (hmin : (if mm < ((4 : Int32) - p1) then mm else ((4 : Int32) - p1)) = mm) (ht : (p1 + mm) = p2) (hs0 : ¬ (p1 = (0 : Int32))) :
    MetFree l own_y20 (head1 (Jvm.Cond.code own_y20 jdk_65_method_132_code 3 (some (.array .byte)) :: ws) ({ frames := 2, cells := 1, slots := 4, locals := 67 } : Room)) (fun a U => a = #[(.ref ob0), (.int p1), (.int p2)] ∧ Z.Warmed39 U.vm ∧ U.heap = h0) (fun _ _ _ _ _ => True) (fun _ U o U' => ∃ v L, o = .returned v ∧ own_Q_rmA41 Z ob0 k_ob0 ob0_0 ob0_1 ob0_2 ob0_3 p1 p2 mm cs wf h0 n0 v U'.heap L ∧ FrameEnd U o U' L ({ frames := 2, cells := 1, slots := 4, locals := 67 } : Room).cells ({ frames := 2, cells := 1, slots := 4, locals := 67 } : Room).slots) := by
  refine MetFree.of_bodySF (plainFor_of_name own_pn7) hisR ?_
  intro p e s m args below meth c s₁ Bd hml0 hP hK
  obtain ⟨rfl, hZ, hh⟩ := hP
  have hx := Bd.exec
  have hby := Bd.bytes
  have hml : c.maxLocals = 3 := hml0
  have hown : s.vm.findClass "java/util/Arrays" = some m.cls := findClass_of_methodNamed Bd.named
  have hnm := (name_of_methodNamed Bd.named Bd.method).1
  have X0 : Stand p l e ({ frames := 2, cells := 1, slots := 4, locals := 67 } : Room) s m #[(.ref ob0), (.int p1), (.int p2)] below meth c s₁ [] 0 0 := Stand.of_body Bd
  have e0 : s₁.heap = h0 := by rw [← hh, Bd.state]; rfl
  have N0 := Fr.nil n0
  have Z0 : n0 ≤ h0.size := O0.1 ▸ O0.2.1
  have g0 : ∀ t, Steps p.tables e below (s₁.setTop (mkF m 0 #[.val (.ref ob0), .val (.int p1), .val (.int p2)] [])) t → Steps p.tables e below (s₁.setTop (entryFrame m #[(.ref ob0), (.int p1), (.int p2)] 3)) t := fun t k => castTop (own_ef43 m (ob0) (p1) (p2)) k
  have G0 := G
  obtain ⟨S_CS, hcs, S_WF, hwf⟩ := G
  have hc1 : ¬ (p1 = (0 : Int32)) := hs0
  obtain ⟨_, _, ⟨T2, L2, k2, n2⟩, -, X2, ⟨Lc2, hQ2, l2, y2, z2⟩, st2⟩ := Jvm.LawKit.callS X0 hx (y := own_y21) hown (mvT hZ (own_w hw 108 rfl)) (mvT hZ (own_w hw 109 rfl)) (mvT hZ (own_w hw 106 rfl)) (mvT hZ (own_w hw 110 rfl)) (by decide) (backOf (W := 0) (rmA31 l Z a0 hw [] ob0 k_ob0 (ob0_0) (ob0_1) (ob0_2) (ob0_3) (p1) (p2) mm cs wf h0 n0 O0 G0 V_ob0  ha0 hba hb4 hm hm0 hm4 hcp hmin ht) hZ (own_w hw 110 rfl) (own_w hw 106 rfl) (by decide) (by decide)) (g := (mkF m 13 #[.val (.ref ob0), .val (.int p1), .val (.int p2)] [(.int p2), (.int p1), (.ref ob0)])) rfl (by rw [hml]; rfl) (argsL := [(.ref ob0), (.int p1), (.int p2)]) (rest := []) (lenOf own_pd21 rfl) rfl (by show 2 * 0 + _ ≤ _; exact Nat.le_of_eq rfl) (hb hby own_d18_13) (fun _ _ => ⟨rfl, e0, (by decide : 0 + 1 ≤ _), (by decide : 0 + 4 ≤ _)⟩)
  dsimp only [Pt.U, Pt.locs, Pt.cells, Pt.slots] at X2 l2 y2 z2 st2 hQ2
  subst l2 y2 z2
  obtain ⟨rb2, rk2, rfl, Nq2, K2, hb2, Va2⟩ := hQ2
  have N2 := Fr.app N0 Nq2
  have sz_rb2 : h0.size ≤ rb2 := hb2
  have gz_rb2 : n0 ≤ rb2 := Nat.le_trans Z0 sz_rb2
  have ne_ob0_rb2 : ob0 ≠ rb2 := Nat.ne_of_lt (Nat.lt_of_lt_of_le V_ob0.lt hb2)
  have g3 : ∀ t, Steps p.tables e below (T2.setTop (mkF m 16 #[.val (.ref ob0), .val (.int p1), .val (.int p2)] [(.ref rb2)])) t → Steps p.tables e below (s₁.setTop (entryFrame m #[(.ref ob0), (.int p1), (.int p2)] 3)) t := by
    intro t k
    refine g0 t ?_
    show Steps p.tables e below (s₁.setTop (mkF m 0 #[.val (.ref ob0), .val (.int p1), .val (.int p2)] [])) _
    refine XS.iloadN X0.here hx rfl (hb hby own_d18_0) rfl ?_
    refine XS.ifYes X0.here hx rfl (pc0 := 1) (pc' := 10) rfl (hb hby own_d18_1) rfl ((if0 _ _).trans (feq hc1).2) (by decide) (by decide) ?_
    refine XS.aloadN X0.here hx rfl (hb hby own_d18_10) rfl rfl ?_
    refine XS.iloadN X0.here hx rfl (hb hby own_d18_11) rfl ?_
    show Steps p.tables e below (s₁.setTop (mkF m 12 #[.val (.ref ob0), .val (.int p1), .val (.int p2)] [(.int p1), (.ref ob0)])) _
    refine XS.iloadN X0.here hx rfl (hb hby own_d18_12) rfl ?_
    refine st2 _ ?_
    exact k
  obtain ⟨fs, hrt, hrun, hended, hW, hsame⟩ := X2.leave (v := some (.ref rb2)) (fun h => by rw [Bd.returns] at h; cases h)
  refine ⟨_, _, g3 _ ?_, hrun, hended, _, _, rfl, ?_, ⟨_, rfl⟩, hW, hsame.mono (by decide) (by decide)⟩
  · show Steps p.tables e below (T2.setTop (mkF m 16 #[.val (.ref ob0), .val (.int p1), .val (.int p2)] [(.ref rb2)])) _
    jvm_step X2.here [X2.here.top, hx, (hb hby own_d18_16), X2.method', Bd.returns, Value.isRef, FieldType.isReference]
    first | (intro acts; rw [hrt _ acts rfl rfl rfl]) | rw [hrt _ _ rfl rfl rfl]
    exact Steps.refl _
  · show own_Q_rmA41 Z ob0 k_ob0 ob0_0 ob0_1 ob0_2 ob0_3 p1 p2 mm cs wf h0 n0 _ T2.heap _
    exact ⟨rb2, _, rfl, N2, (Keep.trans (Keep.refl h0 []) K2 all0), sz_rb2, Va2⟩
def own_Q_rmA40 (Z : State) (ob0 : Addr) (k_ob0 : ClassId) (ob0_0 : Int32) (ob0_1 : Int32) (ob0_2 : Int32) (ob0_3 : Int32) (p1 : Int32) (p2 : Int32) (tt : Int32) (cs : Int32) (wf : Value) (h0 : Heap) (n0 : Nat) (v : Option Value) (h : Heap) (L : List Loc) : Prop := ∃ sa sb : Addr, ∃ sk : ClassId, v = some (.ref sa) ∧ Fr n0 L ∧ Keep h0 h [] ∧ h0.size ≤ sa ∧ h0.size ≤ sb ∧ Exa Z h sa "java/lang/String" ∧ Fld Z h sa "java/lang/String" "coder" "B" (.int (0 : Int32)) ∧ Fld Z h sa "java/lang/String" "value" "[B" (.ref sb) ∧ Arv Z h sb sk .byte p2 (own_bsub [(.int ob0_0), (.int ob0_1), (.int ob0_2), (.int ob0_3)] p1 p2) (.int (0 : Int32))
set_option maxRecDepth 65536 in
set_option maxHeartbeats 40000000 in
theorem rmA40 (l : Launch) (Z : State) (a0 : Array Value) (hw : ∀ d ∈ tables_1, d.before a0 Z = true) (ws : List Jvm.Cond) (ob0 : Addr) (k_ob0 : ClassId) (ob0_0 : Int32) (ob0_1 : Int32) (ob0_2 : Int32) (ob0_3 : Int32) (p1 : Int32) (p2 : Int32) (tt : Int32) (cs : Int32) (wf : Value) (h0 : Heap) (n0 : Nat) (O0 : Old Z n0 h0) (G : own_Gl Z cs wf) (V_ob0 : Arv Z h0 ob0 k_ob0 .byte (4 : Int32) [(.int ob0_0), (.int ob0_1), (.int ob0_2), (.int ob0_3)] (.int (0 : Int32))) (ha0 : ¬ (p1 < (0 : Int32))) (hba : ¬ (tt < p1)) (hb4 : ¬ ((4 : Int32) < tt)) (hm : (tt - p1) = p2) (hm0 : ¬ (p2 < 0)) (hm4 : p2.toNatClampNeg ≤ 4) (hcp : p1.toNatClampNeg + p2.toNatClampNeg ≤ (4 : Int32).toNatClampNeg) (hmin : (if p2 < ((4 : Int32) - p1) then p2 else ((4 : Int32) - p1)) = p2) (ht : (p1 + p2) = tt) (hs0 : ¬ (p1 = (0 : Int32))) (hz : ¬ (p2 = (0 : Int32))) :
    MetFree l own_y19 (head1 (Jvm.Cond.code own_y19 jdk_43_method_47_code 3 (some (.object "java/lang/String")) :: ws) ({ frames := 3, cells := 2, slots := 8, locals := 83 } : Room)) (fun a U => a = #[(.ref ob0), (.int p1), (.int p2)] ∧ Z.Warmed39 U.vm ∧ U.heap = h0) (fun _ _ _ _ _ => True) (fun _ U o U' => ∃ v L, o = .returned v ∧ own_Q_rmA40 Z ob0 k_ob0 ob0_0 ob0_1 ob0_2 ob0_3 p1 p2 tt cs wf h0 n0 v U'.heap L ∧ FrameEnd U o U' L ({ frames := 3, cells := 2, slots := 8, locals := 83 } : Room).cells ({ frames := 3, cells := 2, slots := 8, locals := 83 } : Room).slots) := by
  refine MetFree.of_bodySF (plainFor_of_name own_pn2) hisR ?_
  intro p e s m args below meth c s₁ Bd hml0 hP hK
  obtain ⟨rfl, hZ, hh⟩ := hP
  have hx := Bd.exec
  have hby := Bd.bytes
  have hml : c.maxLocals = 3 := hml0
  have hown : s.vm.findClass "java/lang/StringLatin1" = some m.cls := findClass_of_methodNamed Bd.named
  have hnm := (name_of_methodNamed Bd.named Bd.method).1
  have X0 : Stand p l e ({ frames := 3, cells := 2, slots := 8, locals := 83 } : Room) s m #[(.ref ob0), (.int p1), (.int p2)] below meth c s₁ [] 0 0 := Stand.of_body Bd
  have e0 : s₁.heap = h0 := by rw [← hh, Bd.state]; rfl
  have N0 := Fr.nil n0
  have Z0 : n0 ≤ h0.size := O0.1 ▸ O0.2.1
  have g0 : ∀ t, Steps p.tables e below (s₁.setTop (mkF m 0 #[.val (.ref ob0), .val (.int p1), .val (.int p2)] [])) t → Steps p.tables e below (s₁.setTop (entryFrame m #[(.ref ob0), (.int p1), (.int p2)] 3)) t := fun t k => castTop (own_ef42 m (ob0) (p1) (p2)) k
  have G0 := G
  obtain ⟨S_CS, hcs, S_WF, hwf⟩ := G
  have hc1 : ¬ (p2 = (0 : Int32)) := hz
  obtain ⟨T2, h2, X2, e2, E2, A2, D2, -, st2⟩ := newO X0 hx hZ hown (own_w hw 103 rfl) (own_w hw 2 rfl) (own_w hw 3 rfl) e0 (g := (mkF m 7 #[.val (.ref ob0), .val (.int p1), .val (.int p2)] [])) rfl (hb hby own_d16_7) (by decide) (by decide)
  obtain ⟨b2, q_b2⟩ : ∃ z, z = h0.size := ⟨_, rfl⟩
  rw [← q_b2] at A2 D2 st2
  have sz_b2 : h0.size ≤ b2 := Nat.le_of_eq q_b2.symm
  have gz_b2 : n0 ≤ b2 := Nat.le_trans Z0 sz_b2
  have ne_ob0_b2 : ob0 ≠ b2 := Nat.ne_of_lt (Nat.lt_of_lt_of_le V_ob0.lt (Nat.le_of_eq q_b2.symm))
  have F2_coder : Fld Z h2 b2 "java/lang/String" "coder" "B" (.int (0 : Int32)) := D2 (Or.inr (own_w hw 27 rfl)) (ty := .byte) (by decide)
  have F2_value : Fld Z h2 b2 "java/lang/String" "value" "[B" .null := D2 (Or.inr (own_w hw 29 rfl)) (ty := (.array .byte)) (by decide)
  have g3 : ∀ t, Steps p.tables e below (T2.setTop (mkF m 16 #[.val (.ref ob0), .val (.int p1), .val (.int p2)] [(.int tt), (.int p1), (.ref ob0), (.ref b2), (.ref b2)])) t → Steps p.tables e below (s₁.setTop (entryFrame m #[(.ref ob0), (.int p1), (.int p2)] 3)) t := by
    intro t k
    rw [← ht] at k
    refine g0 t ?_
    show Steps p.tables e below (s₁.setTop (mkF m 0 #[.val (.ref ob0), .val (.int p1), .val (.int p2)] [])) _
    refine XS.iloadN X0.here hx rfl (hb hby own_d16_0) rfl ?_
    refine XS.ifYes X0.here hx rfl (pc0 := 1) (pc' := 7) rfl (hb hby own_d16_1) rfl ((if0 _ _).trans (feq hc1).2) (by decide) (by decide) ?_
    refine st2 _ ?_
    refine XS.dup X2.here hx rfl (hb hby own_d16_10) rfl rfl ?_
    show Steps p.tables e below (T2.setTop (mkF m 11 #[.val (.ref ob0), .val (.int p1), .val (.int p2)] [(.ref b2), (.ref b2)])) _
    refine XS.aloadN X2.here hx rfl (hb hby own_d16_11) rfl rfl ?_
    refine XS.iloadN X2.here hx rfl (hb hby own_d16_12) rfl ?_
    refine XS.iloadN X2.here hx rfl (hb hby own_d16_13) rfl ?_
    refine XS.iloadN X2.here hx rfl (hb hby own_d16_14) rfl ?_
    show Steps p.tables e below (T2.setTop (mkF m 15 #[.val (.ref ob0), .val (.int p1), .val (.int p2)] [(.int p2), (.int p1), (.int p1), (.ref ob0), (.ref b2), (.ref b2)])) _
    refine XS.iadd X2.here hx rfl (hb hby own_d16_15) rfl ?_
    exact k
  have f4 := (V_ob0.ext E2)
  have o5 : Old Z n0 h2 := (Old.ext O0 E2)
  obtain ⟨_, _, ⟨T6, L6, k6, n6⟩, -, X6, ⟨Lc6, hQ6, l6, y6, z6⟩, st6⟩ := Jvm.LawKit.callS X2 hx (y := own_y20) hown (mvT hZ (own_w hw 104 rfl)) (mvT hZ (own_w hw 105 rfl)) (mvT hZ (own_w hw 106 rfl)) (mvT hZ (own_w hw 107 rfl)) (by decide) (backOf (W := 2) (rmA41 l Z a0 hw [] ob0 k_ob0 (ob0_0) (ob0_1) (ob0_2) (ob0_3) (p1) (tt) p2 cs wf h2 n0 o5 G0 f4  ha0 hba hb4 hm hm0 hm4 hcp hmin ht hs0) hZ (own_w hw 107 rfl) (own_w hw 106 rfl) (by decide) (by decide)) (g := (mkF m 16 #[.val (.ref ob0), .val (.int p1), .val (.int p2)] [(.int tt), (.int p1), (.ref ob0), (.ref b2), (.ref b2)])) rfl (by rw [hml]; rfl) (argsL := [(.ref ob0), (.int p1), (.int tt)]) (rest := [(.ref b2), (.ref b2)]) (lenOf own_pd21 rfl) rfl (by show 2 * 0 + _ ≤ _; exact Nat.le_of_eq rfl) (hb hby own_d16_16) (fun _ _ => ⟨rfl, e2, (by decide : 1 + 1 ≤ _), (by decide : 4 + 4 ≤ _)⟩)
  dsimp only [Pt.U, Pt.locs, Pt.cells, Pt.slots] at X6 l6 y6 z6 st6 hQ6
  subst l6 y6 z6
  obtain ⟨rb6, rk6, rfl, Nq6, K6, hb6, Va6⟩ := hQ6
  have N6 := Fr.app N0 Nq6
  have sz_rb6 : h0.size ≤ rb6 := Nat.le_trans E2.1 hb6
  have gz_rb6 : n0 ≤ rb6 := Nat.le_trans Z0 sz_rb6
  have ne_b2_rb6 : b2 ≠ rb6 := Nat.ne_of_lt (Nat.lt_of_lt_of_le A2.lt hb6)
  have ne_ob0_rb6 : ob0 ≠ rb6 := Nat.ne_of_lt (Nat.lt_of_lt_of_le f4.lt hb6)
  have f7 := (A2.keep K6)
  have f8 := (F2_coder.keep K6 nin0)
  have f9 := (F2_value.keep K6 nin0)
  have o10 : Old Z n0 T6.heap := (Old.keep o5 K6 all0)
  obtain ⟨_, _, ⟨T11, L11, k11, n11⟩, -, X11, ⟨Lc11, hQ11, l11, y11, z11⟩, st11⟩ := X6.specialBack hx (y := own_y24) rfl hown (mvT hZ (own_w hw 122 rfl)) (mvT hZ (own_w hw 123 rfl)) (mvT hZ (own_w hw 124 rfl)) (by decide) (backOf (W := 1) (rmA34 l Z a0 hw [] b2 rb6 rk6 (p2) (own_bsub [(.int ob0_0), (.int ob0_1), (.int ob0_2), (.int ob0_3)] p1 p2)  cs wf T6.heap n0 o10 G0 f7 f8 f9 Va6 gz_b2 ) hZ (own_w hw 124 rfl) (own_w hw 3 rfl) (by decide) (by decide)) (g := (mkF m 20 #[.val (.ref ob0), .val (.int p1), .val (.int p2)] [(.int (0 : Int32)), (.ref rb6), (.ref b2), (.ref b2)])) rfl (by rw [hml]; rfl) (Steps.refl _) (a := b2) (argsL := [(.ref rb6), (.int (0 : Int32))]) (rest := [(.ref b2)]) (lenOf own_pd22 rfl) rfl (by show 2 * 0 + _ ≤ _; exact Nat.le_of_eq rfl) (hb hby own_d16_20) (fun _ _ => ⟨rfl, rfl, (by decide : 2 + 0 ≤ _), (by decide : 8 + 0 ≤ _)⟩)
  dsimp only [Pt.U, Pt.locs, Pt.cells, Pt.slots] at X11 l11 y11 z11 st11 hQ11
  subst l11 y11 z11
  obtain ⟨rfl, Nq11, K11, Q11_0, Q11_1, Q11_2⟩ := hQ11
  have N11 := Fr.app N6 Nq11
  have g12 : ∀ t, Steps p.tables e below (T11.setTop (mkF m 23 #[.val (.ref ob0), .val (.int p1), .val (.int p2)] [(.ref b2)])) t → Steps p.tables e below (s₁.setTop (entryFrame m #[(.ref ob0), (.int p1), (.int p2)] 3)) t := by
    intro t k
    refine g3 t ?_
    show Steps p.tables e below (T2.setTop (mkF m 16 #[.val (.ref ob0), .val (.int p1), .val (.int p2)] [(.int tt), (.int p1), (.ref ob0), (.ref b2), (.ref b2)])) _
    refine st6 _ ?_
    refine XS.iconst X6.here hx rfl (hb hby own_d16_19) ?_
    refine st11.trans ?_
    exact k
  obtain ⟨fs, hrt, hrun, hended, hW, hsame⟩ := X11.leave (v := some (.ref b2)) (fun h => by rw [Bd.returns] at h; cases h)
  have f13 := (Va6.keep K11 (ninS (Ne.symm ne_b2_rb6) nin0))
  refine ⟨_, _, g12 _ ?_, hrun, hended, _, _, rfl, ?_, ⟨_, rfl⟩, hW, hsame.mono (by decide) (by decide)⟩
  · show Steps p.tables e below (T11.setTop (mkF m 23 #[.val (.ref ob0), .val (.int p1), .val (.int p2)] [(.ref b2)])) _
    jvm_step X11.here [X11.here.top, hx, (hb hby own_d16_23), X11.method', Bd.returns, Value.isRef, FieldType.isReference]
    first | (intro acts; rw [hrt _ acts rfl rfl rfl]) | rw [hrt _ _ rfl rfl rfl]
    exact Steps.refl _
  · show own_Q_rmA40 Z ob0 k_ob0 ob0_0 ob0_1 ob0_2 ob0_3 p1 p2 tt cs wf h0 n0 _ T11.heap _
    exact ⟨b2, rb6, _, rfl, N11, (Keep.trans (Keep.trans (Keep.ext (Keep.refl h0 []) E2) K6 all0) K11 (allS (Or.inr sz_b2) all0)), sz_b2, sz_rb6, Q11_0, Q11_1, Q11_2, f13⟩
def own_Q_rmA39 (Z : State) (ob0 : Addr) (ob0_value : Addr) (k_ob0_value : ClassId) (ob0_value_0 : Int32) (ob0_value_1 : Int32) (ob0_value_2 : Int32) (ob0_value_3 : Int32) (p1 : Int32) (p2 : Int32) (mm : Int32) (cs : Int32) (wf : Value) (h0 : Heap) (n0 : Nat) (v : Option Value) (h : Heap) (L : List Loc) : Prop := ∃ sa sb : Addr, ∃ sk : ClassId, v = some (.ref sa) ∧ Fr n0 L ∧ Keep h0 h [] ∧ h0.size ≤ sa ∧ h0.size ≤ sb ∧ Exa Z h sa "java/lang/String" ∧ Fld Z h sa "java/lang/String" "coder" "B" (.int (0 : Int32)) ∧ Fld Z h sa "java/lang/String" "value" "[B" (.ref sb) ∧ Arv Z h sb sk .byte mm (own_bsub [(.int ob0_value_0), (.int ob0_value_1), (.int ob0_value_2), (.int ob0_value_3)] p1 mm) (.int (0 : Int32))
set_option maxRecDepth 65536 in
set_option maxHeartbeats 40000000 in
theorem rmA39 (l : Launch) (Z : State) (a0 : Array Value) (hw : ∀ d ∈ tables_1, d.before a0 Z = true) (ws : List Jvm.Cond) (ob0 : Addr) (ob0_value : Addr) (k_ob0_value : ClassId) (ob0_value_0 : Int32) (ob0_value_1 : Int32) (ob0_value_2 : Int32) (ob0_value_3 : Int32) (p1 : Int32) (p2 : Int32) (mm : Int32) (cs : Int32) (wf : Value) (h0 : Heap) (n0 : Nat) (O0 : Old Z n0 h0) (G : own_Gl Z cs wf) (E_ob0 : Exa Z h0 ob0 "java/lang/String") (F_ob0_coder : Fld Z h0 ob0 "java/lang/String" "coder" "B" (.int (0 : Int32))) (V_ob0_value : Arv Z h0 ob0_value k_ob0_value .byte (4 : Int32) [(.int ob0_value_0), (.int ob0_value_1), (.int ob0_value_2), (.int ob0_value_3)] (.int (0 : Int32))) (F_ob0_value : Fld Z h0 ob0 "java/lang/String" "value" "[B" (.ref ob0_value)) (ha0 : ¬ (p1 < (0 : Int32))) (hba : ¬ (p2 < p1)) (hb4 : ¬ ((4 : Int32) < p2)) (hm : (p2 - p1) = mm) (hm0 : ¬ (mm < 0)) (hm4 : mm.toNatClampNeg ≤ 4) (hcp : p1.toNatClampNeg + mm.toNatClampNeg ≤ (4 : Int32).toNatClampNeg) (hmin : (if mm < ((4 : Int32) - p1) then mm else ((4 : Int32) - p1)) = mm) (ht : (p1 + mm) = p2) (hs0 : ¬ (p1 = (0 : Int32))) (hz : ¬ (mm = (0 : Int32))) :
    MetFree l own_y16 (head1 (Jvm.Cond.code own_y16 jdk_42_method_92_code 5 (some (.object "java/lang/String")) :: ws) ({ frames := 4, cells := 2, slots := 8, locals := 97 } : Room)) (fun a U => a = #[(.ref ob0), (.int p1), (.int p2)] ∧ Z.Warmed39 U.vm ∧ U.heap = h0) (fun _ _ _ _ _ => True) (fun _ U o U' => ∃ v L, o = .returned v ∧ own_Q_rmA39 Z ob0 ob0_value k_ob0_value ob0_value_0 ob0_value_1 ob0_value_2 ob0_value_3 p1 p2 mm cs wf h0 n0 v U'.heap L ∧ FrameEnd U o U' L ({ frames := 4, cells := 2, slots := 8, locals := 97 } : Room).cells ({ frames := 4, cells := 2, slots := 8, locals := 97 } : Room).slots) := by
  refine MetFree.of_bodySF (plainFor_of_name own_pn0) hisR ?_
  intro p e s m args below meth c s₁ Bd hml0 hP hK
  obtain ⟨rfl, hZ, hh⟩ := hP
  have hx := Bd.exec
  have hby := Bd.bytes
  have hml : c.maxLocals = 5 := hml0
  have hown : s.vm.findClass "java/lang/String" = some m.cls := findClass_of_methodNamed Bd.named
  have hnm := (name_of_methodNamed Bd.named Bd.method).1
  have X0 : Stand p l e ({ frames := 4, cells := 2, slots := 8, locals := 97 } : Room) s m #[(.ref ob0), (.int p1), (.int p2)] below meth c s₁ [] 0 0 := Stand.of_body Bd
  have e0 : s₁.heap = h0 := by rw [← hh, Bd.state]; rfl
  have N0 := Fr.nil n0
  have Z0 : n0 ≤ h0.size := O0.1 ▸ O0.2.1
  have g0 : ∀ t, Steps p.tables e below (s₁.setTop (mkF m 0 #[.val (.ref ob0), .val (.int p1), .val (.int p2), .unset, .unset] [])) t → Steps p.tables e below (s₁.setTop (entryFrame m #[(.ref ob0), (.int p1), (.int p2)] 5)) t := fun t k => castTop (own_ef41 m (ob0) (p1) (p2)) k
  have G0 := G
  obtain ⟨S_CS, hcs, S_WF, hwf⟩ := G
  obtain ⟨cq1, kq1, q1a, q1b, q1c⟩ := isOf hZ e0 E_ob0
  obtain ⟨_, _, ⟨T1, L1, k1, n1⟩, -, X1, ⟨Lc1, hQ1, l1, y1, z1⟩, st1⟩ := X0.virtualBack hx (y := own_y0) (z := own_y0) hown (mvT hZ (own_w hw 68 rfl)) (mvT hZ (own_w hw 69 rfl)) (notFace_of_selects (args := #[]) (mvT hZ (own_w hw 71 rfl))) (mvT hZ (own_w hw 71 rfl)) (mvT hZ (own_w hw 70 rfl)) (by decide) (backOf (W := 0) (rmA18 l Z a0 hw [] ob0 ob0_value k_ob0_value (ob0_value_0) (ob0_value_1) (ob0_value_2) (ob0_value_3)  cs wf h0 n0 O0 G0 E_ob0 F_ob0_coder V_ob0_value F_ob0_value  ) hZ (own_w hw 72 rfl) (own_w hw 3 rfl) (by decide) (by decide)) q1a q1c (g := (mkF m 1 #[.val (.ref ob0), .val (.int p1), .val (.int p2), .unset, .unset] [(.ref ob0)])) rfl (by rw [hml]; rfl) (Steps.refl _) (argsL := []) (rest := []) (lenOf own_pd1 rfl) rfl (by show 2 * 0 + _ ≤ _; exact Nat.le_of_eq rfl) (hb hby own_d10_1) (fun _ _ => ⟨rfl, e0, (by decide : 0 + 0 ≤ _), (by decide : 0 + 0 ≤ _)⟩)
  dsimp only [Pt.U, Pt.locs, Pt.cells, Pt.slots] at X1 l1 y1 z1 st1 hQ1
  subst l1 y1 z1
  obtain ⟨rfl, Nq1, e1⟩ := hQ1
  have N1 := Fr.app N0 Nq1
  obtain ⟨_, _, ⟨T2, L2, k2, n2⟩, -, X2, ⟨Lc2, hQ2, l2, y2, z2⟩, st2⟩ := Jvm.LawKit.callS X1 hx (y := own_y17) hown (mvT hZ (own_w hw 78 rfl)) (mvT hZ (own_w hw 79 rfl)) (mvT hZ (own_w hw 3 rfl)) (mvT hZ (own_w hw 80 rfl)) (by decide) (backOf (W := 0) (rmA20 l Z a0 hw [] (p1) (p2) ((4 : Int32))  cs wf h0 n0 O0 G0   ha0 hba hb4) hZ (own_w hw 80 rfl) (own_w hw 3 rfl) (by decide) (by decide)) (g := (mkF m 8 #[.val (.ref ob0), .val (.int p1), .val (.int p2), .val (.int (4 : Int32)), .unset] [(.int (4 : Int32)), (.int p2), (.int p1)])) rfl (by rw [hml]; rfl) (argsL := [(.int p1), (.int p2), (.int (4 : Int32))]) (rest := []) (lenOf own_pd16 rfl) rfl (by show 2 * 0 + _ ≤ _; exact Nat.le_of_eq rfl) (hb hby own_d10_8) (fun _ _ => ⟨rfl, e1, (by decide : 0 + 0 ≤ _), (by decide : 0 + 0 ≤ _)⟩)
  dsimp only [Pt.U, Pt.locs, Pt.cells, Pt.slots] at X2 l2 y2 z2 st2 hQ2
  subst l2 y2 z2
  obtain ⟨rfl, Nq2, e2⟩ := hQ2
  have N2 := Fr.app N1 Nq2
  have hc3 : ¬ (p1 = (0 : Int32)) := hs0
  have g4 : ∀ t, Steps p.tables e below (T2.setTop (mkF m 25 #[.val (.ref ob0), .val (.int p1), .val (.int p2), .val (.int (4 : Int32)), .unset] [(.int mm)])) t → Steps p.tables e below (s₁.setTop (entryFrame m #[(.ref ob0), (.int p1), (.int p2)] 5)) t := by
    intro t k
    rw [← hm] at k
    refine g0 t ?_
    show Steps p.tables e below (s₁.setTop (mkF m 0 #[.val (.ref ob0), .val (.int p1), .val (.int p2), .unset, .unset] [])) _
    refine XS.aloadN X0.here hx rfl (hb hby own_d10_0) rfl rfl ?_
    refine st1.trans ?_
    refine XS.istoreN X1.here hx rfl (hb hby own_d10_4) rfl (l' := #[.val (.ref ob0), .val (.int p1), .val (.int p2), .val (.int (4 : Int32)), .unset]) rfl ?_
    refine XS.iloadN X1.here hx rfl (hb hby own_d10_5) rfl ?_
    show Steps p.tables e below (T1.setTop (mkF m 6 #[.val (.ref ob0), .val (.int p1), .val (.int p2), .val (.int (4 : Int32)), .unset] [(.int p1)])) _
    refine XS.iloadN X1.here hx rfl (hb hby own_d10_6) rfl ?_
    refine XS.iloadN X1.here hx rfl (hb hby own_d10_7) rfl ?_
    refine st2 _ ?_
    refine XS.iloadN X2.here hx rfl (hb hby own_d10_11) rfl ?_
    show Steps p.tables e below (T2.setTop (mkF m 12 #[.val (.ref ob0), .val (.int p1), .val (.int p2), .val (.int (4 : Int32)), .unset] [(.int p1)])) _
    refine XS.ifYes X2.here hx rfl (pc0 := 12) (pc' := 22) rfl (hb hby own_d10_12) rfl ((if0 _ _).trans (feq hc3).2) (by decide) (by decide) ?_
    refine XS.iloadN X2.here hx rfl (hb hby own_d10_22) rfl ?_
    refine XS.iloadN X2.here hx rfl (hb hby own_d10_23) rfl ?_
    show Steps p.tables e below (T2.setTop (mkF m 24 #[.val (.ref ob0), .val (.int p1), .val (.int p2), .val (.int (4 : Int32)), .unset] [(.int p1), (.int p2)])) _
    refine XS.isub X2.here hx rfl (hb hby own_d10_24) rfl ?_
    exact k
  obtain ⟨cq5, kq5, q5a, q5b, q5c⟩ := isOf hZ e2 E_ob0
  obtain ⟨_, _, ⟨T5, L5, k5, n5⟩, -, X5, ⟨Lc5, hQ5, l5, y5, z5⟩, st5⟩ := X2.virtualBack hx (y := own_y4) (z := own_y4) hown (mvT hZ (own_w hw 86 rfl)) (mvT hZ (own_w hw 87 rfl)) (notFace_of_selects (args := #[]) (mvT hZ (own_w hw 89 rfl))) (mvT hZ (own_w hw 89 rfl)) (mvT hZ (own_w hw 88 rfl)) (by decide) (backOf (W := 0) (rmA25 l Z a0 hw [] ob0 ob0_value k_ob0_value (ob0_value_0) (ob0_value_1) (ob0_value_2) (ob0_value_3)  cs wf h0 n0 O0 G0 E_ob0 F_ob0_coder V_ob0_value F_ob0_value  ) hZ (own_w hw 90 rfl) (own_w hw 3 rfl) (by decide) (by decide)) q5a q5c (g := (mkF m 28 #[.val (.ref ob0), .val (.int p1), .val (.int p2), .val (.int (4 : Int32)), .val (.int mm)] [(.ref ob0)])) rfl (by rw [hml]; rfl) (Steps.refl _) (argsL := []) (rest := []) (lenOf own_pd2 rfl) rfl (by show 2 * 0 + _ ≤ _; exact Nat.le_of_eq rfl) (hb hby own_d10_28) (fun _ _ => ⟨rfl, e2, (by decide : 0 + 0 ≤ _), (by decide : 0 + 0 ≤ _)⟩)
  dsimp only [Pt.U, Pt.locs, Pt.cells, Pt.slots] at X5 l5 y5 z5 st5 hQ5
  subst l5 y5 z5
  obtain ⟨rfl, Nq5, e5⟩ := hQ5
  have N5 := Fr.app N2 Nq5
  obtain ⟨T6, X6, e6, st6⟩ := getF X5 hx hZ hown (host := "") (Or.inl (own_w hw 28 rfl)) Via.refl e5 F_ob0_value (g := (mkF m 35 #[.val (.ref ob0), .val (.int p1), .val (.int p2), .val (.int (4 : Int32)), .val (.int mm)] [(.ref ob0)])) rfl rfl (hb hby own_d10_35)
  obtain ⟨LL7, XL7, NL7⟩ : ∃ LL : List Loc, Stand p l e ({ frames := 4, cells := 2, slots := 8, locals := 97 } : Room) s m #[(.ref ob0), (.int p1), (.int p2)] below meth c T6 LL 0 0 ∧ Fr n0 LL := ⟨_, X6, N5⟩
  obtain ⟨_, _, ⟨T8, L8, k8, n8⟩, -, X8, ⟨Lc8, hQ8, l8, y8, z8⟩, st8⟩ := Jvm.LawKit.callS XL7 hx (y := own_y19) hown (mvT hZ (own_w hw 91 rfl)) (mvT hZ (own_w hw 92 rfl)) (mvT hZ (own_w hw 93 rfl)) (mvT hZ (own_w hw 94 rfl)) (by decide) (backOf (W := 0) (rmA40 l Z a0 hw [] ob0_value k_ob0_value (ob0_value_0) (ob0_value_1) (ob0_value_2) (ob0_value_3) (p1) (mm) p2 cs wf h0 n0 O0 G0 V_ob0_value  ha0 hba hb4 hm hm0 hm4 hcp hmin ht hs0 hz) hZ (own_w hw 94 rfl) (own_w hw 93 rfl) (by decide) (by decide)) (g := (mkF m 41 #[.val (.ref ob0), .val (.int p1), .val (.int p2), .val (.int (4 : Int32)), .val (.int mm)] [(.int mm), (.int p1), (.ref ob0_value)])) rfl (by rw [hml]; rfl) (argsL := [(.ref ob0_value), (.int p1), (.int mm)]) (rest := []) (lenOf own_pd19 rfl) rfl (by show 2 * 0 + _ ≤ _; exact Nat.le_of_eq rfl) (hb hby own_d10_41) (fun _ _ => ⟨rfl, e6, (by decide : 0 + 2 ≤ _), (by decide : 0 + 8 ≤ _)⟩)
  dsimp only [Pt.U, Pt.locs, Pt.cells, Pt.slots] at X8 l8 y8 z8 st8 hQ8
  subst l8 y8 z8
  obtain ⟨sa8, sb8, sk8, rfl, Nq8, K8, hba8, hbb8, Qe8, Qc8, Qv8, Qa8⟩ := hQ8
  have N8 := Fr.app NL7 Nq8
  have sz_sa8 : h0.size ≤ sa8 := hba8
  have gz_sa8 : n0 ≤ sa8 := Nat.le_trans Z0 sz_sa8
  have ne_ob0_sa8 : ob0 ≠ sa8 := Nat.ne_of_lt (Nat.lt_of_lt_of_le E_ob0.lt hba8)
  have ne_ob0_value_sa8 : ob0_value ≠ sa8 := Nat.ne_of_lt (Nat.lt_of_lt_of_le V_ob0_value.lt hba8)
  have sz_sb8 : h0.size ≤ sb8 := hbb8
  have gz_sb8 : n0 ≤ sb8 := Nat.le_trans Z0 sz_sb8
  have ne_ob0_sb8 : ob0 ≠ sb8 := Nat.ne_of_lt (Nat.lt_of_lt_of_le E_ob0.lt hbb8)
  have ne_ob0_value_sb8 : ob0_value ≠ sb8 := Nat.ne_of_lt (Nat.lt_of_lt_of_le V_ob0_value.lt hbb8)
  have g9 : ∀ t, Steps p.tables e below (T8.setTop (mkF m 57 #[.val (.ref ob0), .val (.int p1), .val (.int p2), .val (.int (4 : Int32)), .val (.int mm)] [(.ref sa8)])) t → Steps p.tables e below (s₁.setTop (entryFrame m #[(.ref ob0), (.int p1), (.int p2)] 5)) t := by
    intro t k
    refine g4 t ?_
    show Steps p.tables e below (T2.setTop (mkF m 25 #[.val (.ref ob0), .val (.int p1), .val (.int p2), .val (.int (4 : Int32)), .unset] [(.int mm)])) _
    refine XS.istore X2.here hx rfl (hb hby own_d10_25) rfl (l' := #[.val (.ref ob0), .val (.int p1), .val (.int p2), .val (.int (4 : Int32)), .val (.int mm)]) rfl ?_
    refine XS.aloadN X2.here hx rfl (hb hby own_d10_27) rfl rfl ?_
    refine st5.trans ?_
    refine XS.ifNo X5.here hx rfl (hb hby own_d10_31) rfl ((if0 _ _).trans (feq (by decide : ¬ ((1 : Int32) = (0 : Int32)))).1) ?_
    show Steps p.tables e below (T5.setTop (mkF m 34 #[.val (.ref ob0), .val (.int p1), .val (.int p2), .val (.int (4 : Int32)), .val (.int mm)] [])) _
    refine XS.aloadN X5.here hx rfl (hb hby own_d10_34) rfl rfl ?_
    refine st6 _ ?_
    refine XS.iloadN X6.here hx rfl (hb hby own_d10_38) rfl ?_
    refine XS.iload X6.here hx rfl (hb hby own_d10_39) rfl ?_
    show Steps p.tables e below (T6.setTop (mkF m 41 #[.val (.ref ob0), .val (.int p1), .val (.int p2), .val (.int (4 : Int32)), .val (.int mm)] [(.int mm), (.int p1), (.ref ob0_value)])) _
    refine st8 _ ?_
    refine XS.goto X8.here hx rfl (pc0 := 44) (pc' := 57) rfl (hb hby own_d10_44) (by decide) (by decide) ?_
    exact k
  obtain ⟨fs, hrt, hrun, hended, hW, hsame⟩ := X8.leave (v := some (.ref sa8)) (fun h => by rw [Bd.returns] at h; cases h)
  refine ⟨_, _, g9 _ ?_, hrun, hended, _, _, rfl, ?_, ⟨_, rfl⟩, hW, hsame.mono (by decide) (by decide)⟩
  · show Steps p.tables e below (T8.setTop (mkF m 57 #[.val (.ref ob0), .val (.int p1), .val (.int p2), .val (.int (4 : Int32)), .val (.int mm)] [(.ref sa8)])) _
    jvm_step X8.here [X8.here.top, hx, (hb hby own_d10_57), X8.method', Bd.returns, Value.isRef, FieldType.isReference]
    first | (intro acts; rw [hrt _ acts rfl rfl rfl]) | rw [hrt _ _ rfl rfl rfl]
    exact Steps.refl _
  · show own_Q_rmA39 Z ob0 ob0_value k_ob0_value ob0_value_0 ob0_value_1 ob0_value_2 ob0_value_3 p1 p2 mm cs wf h0 n0 _ T8.heap _
    exact ⟨sa8, sb8, _, rfl, N8, (Keep.trans (Keep.refl h0 []) K8 all0), sz_sa8, sz_sb8, Qe8, Qc8, Qv8, Qa8⟩
def own_Q_rmA38 (Z : State) (ob0 : Addr) (ob0_end : Int32) (ob0_start : Int32) (ob1 : Addr) (ob1_value : Addr) (k_ob1_value : ClassId) (ob1_value_0 : Int32) (ob1_value_1 : Int32) (ob1_value_2 : Int32) (ob1_value_3 : Int32) (mm : Int32) (cs : Int32) (wf : Value) (h0 : Heap) (n0 : Nat) (v : Option Value) (h : Heap) (L : List Loc) : Prop := ∃ sa sb : Addr, ∃ sk : ClassId, v = some (.ref sa) ∧ Fr n0 L ∧ Keep h0 h [] ∧ h0.size ≤ sa ∧ h0.size ≤ sb ∧ Exa Z h sa "java/lang/String" ∧ Fld Z h sa "java/lang/String" "coder" "B" (.int (0 : Int32)) ∧ Fld Z h sa "java/lang/String" "value" "[B" (.ref sb) ∧ Arv Z h sb sk .byte mm (own_bsub [(.int ob1_value_0), (.int ob1_value_1), (.int ob1_value_2), (.int ob1_value_3)] ob0_start mm) (.int (0 : Int32))
set_option maxRecDepth 65536 in
set_option maxHeartbeats 40000000 in
theorem rmA38 (l : Launch) (Z : State) (a0 : Array Value) (hw : ∀ d ∈ tables_1, d.before a0 Z = true) (ws : List Jvm.Cond) (ob0 : Addr) (ob0_end : Int32) (ob0_start : Int32) (ob1 : Addr) (ob1_value : Addr) (k_ob1_value : ClassId) (ob1_value_0 : Int32) (ob1_value_1 : Int32) (ob1_value_2 : Int32) (ob1_value_3 : Int32) (mm : Int32) (cs : Int32) (wf : Value) (h0 : Heap) (n0 : Nat) (O0 : Old Z n0 h0) (G : own_Gl Z cs wf) (E_ob0 : Exa Z h0 ob0 "com/example/momus/momus/model/FormatSpecifier") (F_ob0_end : Fld Z h0 ob0 "com/example/momus/momus/model/FormatSpecifier" "end" "I" (.int ob0_end)) (F_ob0_start : Fld Z h0 ob0 "com/example/momus/momus/model/FormatSpecifier" "start" "I" (.int ob0_start)) (E_ob1 : Exa Z h0 ob1 "java/lang/String") (F_ob1_coder : Fld Z h0 ob1 "java/lang/String" "coder" "B" (.int (0 : Int32))) (V_ob1_value : Arv Z h0 ob1_value k_ob1_value .byte (4 : Int32) [(.int ob1_value_0), (.int ob1_value_1), (.int ob1_value_2), (.int ob1_value_3)] (.int (0 : Int32))) (F_ob1_value : Fld Z h0 ob1 "java/lang/String" "value" "[B" (.ref ob1_value)) (ha0 : ¬ (ob0_start < (0 : Int32))) (hba : ¬ (ob0_end < ob0_start)) (hb4 : ¬ ((4 : Int32) < ob0_end)) (hm : (ob0_end - ob0_start) = mm) (hm0 : ¬ (mm < 0)) (hm4 : mm.toNatClampNeg ≤ 4) (hcp : ob0_start.toNatClampNeg + mm.toNatClampNeg ≤ (4 : Int32).toNatClampNeg) (hmin : (if mm < ((4 : Int32) - ob0_start) then mm else ((4 : Int32) - ob0_start)) = mm) (ht : (ob0_start + mm) = ob0_end) (hs0 : ¬ (ob0_start = (0 : Int32))) (hz : ¬ (mm = (0 : Int32))) :
    MetFree l own_y15 (head1 (Jvm.Cond.code own_y15 prog_42_method_5_code 2 (some (.object "java/lang/String")) :: ws) ({ frames := 5, cells := 2, slots := 8, locals := 113 } : Room)) (fun a U => a = #[(.ref ob0), (.ref ob1)] ∧ Z.Warmed39 U.vm ∧ U.heap = h0) (fun _ _ _ _ _ => True) (fun _ U o U' => ∃ v L, o = .returned v ∧ own_Q_rmA38 Z ob0 ob0_end ob0_start ob1 ob1_value k_ob1_value ob1_value_0 ob1_value_1 ob1_value_2 ob1_value_3 mm cs wf h0 n0 v U'.heap L ∧ FrameEnd U o U' L ({ frames := 5, cells := 2, slots := 8, locals := 113 } : Room).cells ({ frames := 5, cells := 2, slots := 8, locals := 113 } : Room).slots) := by
  refine MetFree.of_bodySF (plainFor_of_name own_pn5) hisR ?_
  intro p e s m args below meth c s₁ Bd hml0 hP hK
  obtain ⟨rfl, hZ, hh⟩ := hP
  have hx := Bd.exec
  have hby := Bd.bytes
  have hml : c.maxLocals = 2 := hml0
  have hown : s.vm.findClass "com/example/momus/momus/model/FormatSpecifier" = some m.cls := findClass_of_methodNamed Bd.named
  have hnm := (name_of_methodNamed Bd.named Bd.method).1
  have X0 : Stand p l e ({ frames := 5, cells := 2, slots := 8, locals := 113 } : Room) s m #[(.ref ob0), (.ref ob1)] below meth c s₁ [] 0 0 := Stand.of_body Bd
  have e0 : s₁.heap = h0 := by rw [← hh, Bd.state]; rfl
  have N0 := Fr.nil n0
  have Z0 : n0 ≤ h0.size := O0.1 ▸ O0.2.1
  have g0 : ∀ t, Steps p.tables e below (s₁.setTop (mkF m 0 #[.val (.ref ob0), .val (.ref ob1)] [])) t → Steps p.tables e below (s₁.setTop (entryFrame m #[(.ref ob0), (.ref ob1)] 2)) t := fun t k => castTop (own_ef40 m (ob0) (ob1)) k
  have G0 := G
  obtain ⟨S_CS, hcs, S_WF, hwf⟩ := G
  obtain ⟨T1, X1, e1, st1⟩ := getF X0 hx hZ hown (host := "") (Or.inl (own_w hw 44 rfl)) Via.refl e0 F_ob0_start (g := (mkF m 2 #[.val (.ref ob0), .val (.ref ob1)] [(.ref ob0), (.ref ob1)])) rfl rfl (hb hby own_d9_2)
  obtain ⟨T2, X2, e2, st2⟩ := getF X1 hx hZ hown (host := "") (Or.inl (own_w hw 56 rfl)) Via.refl e1 F_ob0_end (g := (mkF m 6 #[.val (.ref ob0), .val (.ref ob1)] [(.ref ob0), (.int ob0_start), (.ref ob1)])) rfl rfl (hb hby own_d9_6)
  obtain ⟨cq3, kq3, q3a, q3b, q3c⟩ := isOf hZ e2 E_ob1
  obtain ⟨_, _, ⟨T3, L3, k3, n3⟩, -, X3, ⟨Lc3, hQ3, l3, y3, z3⟩, st3⟩ := X2.virtualBack hx (y := own_y16) (z := own_y16) hown (mvT hZ (own_w hw 63 rfl)) (mvT hZ (own_w hw 64 rfl)) (notFace_of_selects (args := #[]) (mvT hZ (own_w hw 66 rfl))) (mvT hZ (own_w hw 66 rfl)) (mvT hZ (own_w hw 65 rfl)) (by decide) (backOf (W := 0) (rmA39 l Z a0 hw [] ob1 ob1_value k_ob1_value (ob1_value_0) (ob1_value_1) (ob1_value_2) (ob1_value_3) (ob0_start) (ob0_end) mm cs wf h0 n0 O0 G0 E_ob1 F_ob1_coder V_ob1_value F_ob1_value  ha0 hba hb4 hm hm0 hm4 hcp hmin ht hs0 hz) hZ (own_w hw 67 rfl) (own_w hw 3 rfl) (by decide) (by decide)) q3a q3c (g := (mkF m 9 #[.val (.ref ob0), .val (.ref ob1)] [(.int ob0_end), (.int ob0_start), (.ref ob1)])) rfl (by rw [hml]; rfl) (Steps.refl _) (argsL := [(.int ob0_start), (.int ob0_end)]) (rest := []) (lenOf own_pd17 rfl) rfl (by show 2 * 0 + _ ≤ _; exact Nat.le_of_eq rfl) (hb hby own_d9_9) (fun _ _ => ⟨rfl, e2, (by decide : 0 + 2 ≤ _), (by decide : 0 + 8 ≤ _)⟩)
  dsimp only [Pt.U, Pt.locs, Pt.cells, Pt.slots] at X3 l3 y3 z3 st3 hQ3
  subst l3 y3 z3
  obtain ⟨sa3, sb3, sk3, rfl, Nq3, K3, hba3, hbb3, Qe3, Qc3, Qv3, Qa3⟩ := hQ3
  have N3 := Fr.app N0 Nq3
  have sz_sa3 : h0.size ≤ sa3 := hba3
  have gz_sa3 : n0 ≤ sa3 := Nat.le_trans Z0 sz_sa3
  have ne_ob0_sa3 : ob0 ≠ sa3 := Nat.ne_of_lt (Nat.lt_of_lt_of_le E_ob0.lt hba3)
  have ne_ob1_sa3 : ob1 ≠ sa3 := Nat.ne_of_lt (Nat.lt_of_lt_of_le E_ob1.lt hba3)
  have ne_ob1_value_sa3 : ob1_value ≠ sa3 := Nat.ne_of_lt (Nat.lt_of_lt_of_le V_ob1_value.lt hba3)
  have sz_sb3 : h0.size ≤ sb3 := hbb3
  have gz_sb3 : n0 ≤ sb3 := Nat.le_trans Z0 sz_sb3
  have ne_ob0_sb3 : ob0 ≠ sb3 := Nat.ne_of_lt (Nat.lt_of_lt_of_le E_ob0.lt hbb3)
  have ne_ob1_sb3 : ob1 ≠ sb3 := Nat.ne_of_lt (Nat.lt_of_lt_of_le E_ob1.lt hbb3)
  have ne_ob1_value_sb3 : ob1_value ≠ sb3 := Nat.ne_of_lt (Nat.lt_of_lt_of_le V_ob1_value.lt hbb3)
  have g4 : ∀ t, Steps p.tables e below (T3.setTop (mkF m 12 #[.val (.ref ob0), .val (.ref ob1)] [(.ref sa3)])) t → Steps p.tables e below (s₁.setTop (entryFrame m #[(.ref ob0), (.ref ob1)] 2)) t := by
    intro t k
    refine g0 t ?_
    show Steps p.tables e below (s₁.setTop (mkF m 0 #[.val (.ref ob0), .val (.ref ob1)] [])) _
    refine XS.aloadN X0.here hx rfl (hb hby own_d9_0) rfl rfl ?_
    refine XS.aloadN X0.here hx rfl (hb hby own_d9_1) rfl rfl ?_
    refine st1 _ ?_
    refine XS.aloadN X1.here hx rfl (hb hby own_d9_5) rfl rfl ?_
    show Steps p.tables e below (T1.setTop (mkF m 6 #[.val (.ref ob0), .val (.ref ob1)] [(.ref ob0), (.int ob0_start), (.ref ob1)])) _
    refine st2 _ ?_
    refine st3.trans ?_
    exact k
  obtain ⟨fs, hrt, hrun, hended, hW, hsame⟩ := X3.leave (v := some (.ref sa3)) (fun h => by rw [Bd.returns] at h; cases h)
  refine ⟨_, _, g4 _ ?_, hrun, hended, _, _, rfl, ?_, ⟨_, rfl⟩, hW, hsame.mono (by decide) (by decide)⟩
  · show Steps p.tables e below (T3.setTop (mkF m 12 #[.val (.ref ob0), .val (.ref ob1)] [(.ref sa3)])) _
    jvm_step X3.here [X3.here.top, hx, (hb hby own_d9_12), X3.method', Bd.returns, Value.isRef, FieldType.isReference]
    first | (intro acts; rw [hrt _ acts rfl rfl rfl]) | rw [hrt _ _ rfl rfl rfl]
    exact Steps.refl _
  · show own_Q_rmA38 Z ob0 ob0_end ob0_start ob1 ob1_value k_ob1_value ob1_value_0 ob1_value_1 ob1_value_2 ob1_value_3 mm cs wf h0 n0 _ T3.heap _
    exact ⟨sa3, sb3, _, rfl, N3, (Keep.trans (Keep.refl h0 []) K3 all0), sz_sa3, sz_sb3, Qe3, Qc3, Qv3, Qa3⟩
set_option maxRecDepth 65536 in
set_option maxHeartbeats 40000000 in
theorem rm0 (l : Launch) (Z : State) (a0 : Array Value) (hw : ∀ d ∈ tables_1, d.before a0 Z = true) (ws : List Jvm.Cond) (p1 p2 p3 p4 p5 p6 : Int32) (cs : Int32) (wf : Value) (h0 : Heap) (n0 : Nat) (O0 : Old Z n0 h0) (G : own_Gl Z cs wf) :
    MetFree l x (head1 (Jvm.Cond.code x code maxLocals ret :: ws) room_1) (fun a U => a = #[(.int p1), (.int p2), (.int p3), (.int p4), (.int p5), (.int p6)] ∧ Z.Warmed39 U.vm ∧ U.heap = h0 ∧ CHv Z own_EL U.vm h0) (fun _ _ _ _ _ => True) (fun _ U o U' => ∃ v L, o = .returned v ∧ own_Q_rm0 Z p1 p2 p3 p4 p5 p6 cs wf h0 n0 v U'.heap L ∧ CHr Z own_EL U.vm U.heap U'.vm U'.heap ∧ ReturnedEndW U o U' L room_1.cells room_1.slots) := by
  refine MetFree.of_bodySF (plainFor_of_name own_pn1) hisR ?_
  intro p e s m args below meth c s₁ Bd hml0 hP hK
  obtain ⟨rfl, hZ, hh, hCH⟩ := hP
  have hx := Bd.exec
  have hby := Bd.bytes
  have hml : c.maxLocals = 15 := hml0
  have hown : s.vm.findClass "com/example/momus/momus/model/FormatSpecifierTextPinLaw" = some m.cls := findClass_of_methodNamed Bd.named
  have hnm := (name_of_methodNamed Bd.named Bd.method).1
  have X0 : Stand p l e room_1 (s.setVm s.vm) m #[(.int p1), (.int p2), (.int p3), (.int p4), (.int p5), (.int p6)] below meth c s₁ [] 0 0 := Stand.of_body Bd
  have e0 : s₁.heap = h0 := by rw [← hh, Bd.state]; rfl
  have N0 := Fr.nil n0
  have Z0 : n0 ≤ h0.size := O0.1 ▸ O0.2.1
  have g0 : ∀ t, Steps p.tables e below (s₁.setTop (mkF m 0 #[.val (.int p1), .val (.int p2), .val (.int p3), .val (.int p4), .val (.int p5), .val (.int p6), .unset, .unset, .unset, .unset, .unset, .unset, .unset, .unset, .unset] [])) t → Steps p.tables e below (s₁.setTop (entryFrame m #[(.int p1), (.int p2), (.int p3), (.int p4), (.int p5), (.int p6)] maxLocals)) t := fun t k => castTop (own_ef10 m (p1) (p2) (p3) (p4) (p5) (p6)) k
  have hC := CHr.refl hCH
  have hS : s.Since s.vm h0.size := (State.WarmedH.refl s).since _
  have hk := Nat.le_refl h0.size
  have G0 := G
  obtain ⟨S_CS, hcs, S_WF, hwf⟩ := G
  obtain ⟨T1, h1, k1, X1, e1, E1, A1, st1⟩ := newP X0 hx hZ (own_w hw 0 rfl) e0 (g := (mkF m 1 #[.val (.int p1), .val (.int p2), .val (.int p3), .val (.int p4), .val (.int p5), .val (.int p6), .unset, .unset, .unset, .unset, .unset, .unset, .unset, .unset, .unset] [(.int (4 : Int32))])) rfl (hb hby at_1) rfl (by decide) (cap := 4) (by decide) (by decide) (by decide) (by decide)
  obtain ⟨b1, q_b1⟩ : ∃ z, z = h0.size := ⟨_, rfl⟩
  rw [← q_b1] at A1 st1
  have sz_b1 : h0.size ≤ b1 := Nat.le_of_eq q_b1.symm
  have gz_b1 : n0 ≤ b1 := Nat.le_trans Z0 sz_b1
  have V1 : Arv Z h1 b1 k1 .char (4 : Int32) [(.int (0 : Int32)), (.int (0 : Int32)), (.int (0 : Int32)), (.int (0 : Int32))] (.int (0 : Int32)) := (Arv.new A1 (by decide)).pad (pad_rep [] (.int (0 : Int32)) 4)
  have hC := hC.trans (CHr.ext E1 hC.1)
  have hk := Nat.le_trans hk E1.1
  obtain ⟨d0, hv_d0⟩ : ∃ z : Int32, z = ((p1 &&& (255 : Int32)).toUInt32.toUInt16.toUInt32.toInt32) := ⟨_, rfl⟩
  have g2 : ∀ t, Steps p.tables e below (T1.setTop (mkF m 14 #[.val (.int p1), .val (.int p2), .val (.int p3), .val (.int p4), .val (.int p5), .val (.int p6), .val (.ref b1), .unset, .unset, .unset, .unset, .unset, .unset, .unset, .unset] [(.int d0), (.int (0 : Int32)), (.ref b1)])) t → Steps p.tables e below (s₁.setTop (entryFrame m #[(.int p1), (.int p2), (.int p3), (.int p4), (.int p5), (.int p6)] maxLocals)) t := by
    intro t k
    rw [hv_d0] at k
    refine g0 t ?_
    show Steps p.tables e below (s₁.setTop (mkF m 0 #[.val (.int p1), .val (.int p2), .val (.int p3), .val (.int p4), .val (.int p5), .val (.int p6), .unset, .unset, .unset, .unset, .unset, .unset, .unset, .unset, .unset] [])) _
    refine XS.iconst X0.here hx rfl (hb hby at_0) ?_
    refine st1 _ ?_
    refine XS.astore X1.here hx rfl (hb hby at_3) rfl rfl (l' := #[.val (.int p1), .val (.int p2), .val (.int p3), .val (.int p4), .val (.int p5), .val (.int p6), .val (.ref b1), .unset, .unset, .unset, .unset, .unset, .unset, .unset, .unset]) rfl ?_
    refine XS.aload X1.here hx rfl (hb hby at_5) rfl rfl ?_
    show Steps p.tables e below (T1.setTop (mkF m 7 #[.val (.int p1), .val (.int p2), .val (.int p3), .val (.int p4), .val (.int p5), .val (.int p6), .val (.ref b1), .unset, .unset, .unset, .unset, .unset, .unset, .unset, .unset] [(.ref b1)])) _
    refine XS.iconst X1.here hx rfl (hb hby at_7) ?_
    refine XS.iloadN X1.here hx rfl (hb hby at_8) rfl ?_
    refine XS.sipush X1.here hx rfl (hb hby at_9) ?_
    show Steps p.tables e below (T1.setTop (mkF m 12 #[.val (.int p1), .val (.int p2), .val (.int p3), .val (.int p4), .val (.int p5), .val (.int p6), .val (.ref b1), .unset, .unset, .unset, .unset, .unset, .unset, .unset, .unset] [(.int (255 : Int32)), (.int p1), (.int (0 : Int32)), (.ref b1)])) _
    refine XS.iand X1.here hx rfl (hb hby at_12) rfl ?_
    show Steps p.tables e below (T1.setTop (mkF m 13 #[.val (.int p1), .val (.int p2), .val (.int p3), .val (.int p4), .val (.int p5), .val (.int p6), .val (.ref b1), .unset, .unset, .unset, .unset, .unset, .unset, .unset, .unset] [(.int (p1 &&& (255 : Int32))), (.int (0 : Int32)), (.ref b1)])) _
    refine XS.i2c X1.here hx rfl (hb hby at_13) rfl ?_
    exact k
  obtain ⟨c3, Ar3, cq3, S3, Nn3, Hh3, Gg3⟩ := id V1
  have hin3 : ¬ ((0 : Int32) < 0 ∨ c3.slots.size ≤ ((0 : Int32)).toNatClampNeg) := inb_of S3 ⟨by decide, by decide⟩
  obtain ⟨T4, h4, X4, e4, W4, st4⟩ := stC X1 hx hZ e1 Ar3 (j := (0 : Int32)) hin3 (g := (mkF m 14 #[.val (.int p1), .val (.int p2), .val (.int p3), .val (.int p4), .val (.int p5), .val (.int p6), .val (.ref b1), .unset, .unset, .unset, .unset, .unset, .unset, .unset, .unset] [(.int d0), (.int (0 : Int32)), (.ref b1)])) rfl rfl (hb hby at_14)
  have V4 := Arv.set Ar3 cq3 S3 Nn3 Hh3 Gg3 (fits_nar_char _) W4 0 rfl (Nat.le_of_ble_eq_true rfl)
  obtain ⟨c0, hv_c0⟩ : ∃ z : Int32, z = (nar .char d0) := ⟨_, rfl⟩
  have hC := hC.trans (CHr.wr W4 (Safe.arv hZ.alike V1 (by decide)) hC.1)
  have hk := Nat.le_trans hk (Keep.of_wr W4).1
  have V4a : Arv Z h4 b1 k1 .char (4 : Int32) [(.int c0), (.int (0 : Int32)), (.int (0 : Int32)), (.int (0 : Int32))] (.int (0 : Int32)) := by have q := V4; rw [← hv_c0] at q; exact q
  have N4 := Fr.snoc X4 N0 gz_b1
  obtain ⟨d1, hv_d1⟩ : ∃ z : Int32, z = ((((p1.toUInt32 >>> ((8 : Int32) &&& 31).toUInt32).toInt32) &&& (255 : Int32)).toUInt32.toUInt16.toUInt32.toInt32) := ⟨_, rfl⟩
  have g5 : ∀ t, Steps p.tables e below (T4.setTop (mkF m 27 #[.val (.int p1), .val (.int p2), .val (.int p3), .val (.int p4), .val (.int p5), .val (.int p6), .val (.ref b1), .unset, .unset, .unset, .unset, .unset, .unset, .unset, .unset] [(.int d1), (.int (1 : Int32)), (.ref b1)])) t → Steps p.tables e below (s₁.setTop (entryFrame m #[(.int p1), (.int p2), (.int p3), (.int p4), (.int p5), (.int p6)] maxLocals)) t := by
    intro t k
    rw [hv_d1] at k
    refine g2 t ?_
    show Steps p.tables e below (T1.setTop (mkF m 14 #[.val (.int p1), .val (.int p2), .val (.int p3), .val (.int p4), .val (.int p5), .val (.int p6), .val (.ref b1), .unset, .unset, .unset, .unset, .unset, .unset, .unset, .unset] [(.int d0), (.int (0 : Int32)), (.ref b1)])) _
    refine st4 _ ?_
    refine XS.aload X4.here hx rfl (hb hby at_15) rfl rfl ?_
    refine XS.iconst X4.here hx rfl (hb hby at_17) ?_
    refine XS.iloadN X4.here hx rfl (hb hby at_18) rfl ?_
    show Steps p.tables e below (T4.setTop (mkF m 19 #[.val (.int p1), .val (.int p2), .val (.int p3), .val (.int p4), .val (.int p5), .val (.int p6), .val (.ref b1), .unset, .unset, .unset, .unset, .unset, .unset, .unset, .unset] [(.int p1), (.int (1 : Int32)), (.ref b1)])) _
    refine XS.bipush X4.here hx rfl (hb hby at_19) ?_
    show Steps p.tables e below (T4.setTop (mkF m 21 #[.val (.int p1), .val (.int p2), .val (.int p3), .val (.int p4), .val (.int p5), .val (.int p6), .val (.ref b1), .unset, .unset, .unset, .unset, .unset, .unset, .unset, .unset] [(.int (8 : Int32)), (.int p1), (.int (1 : Int32)), (.ref b1)])) _
    refine XS.iushr X4.here hx rfl (hb hby at_21) rfl ?_
    refine XS.sipush X4.here hx rfl (hb hby at_22) ?_
    show Steps p.tables e below (T4.setTop (mkF m 25 #[.val (.int p1), .val (.int p2), .val (.int p3), .val (.int p4), .val (.int p5), .val (.int p6), .val (.ref b1), .unset, .unset, .unset, .unset, .unset, .unset, .unset, .unset] [(.int (255 : Int32)), (.int ((p1.toUInt32 >>> ((8 : Int32) &&& 31).toUInt32).toInt32)), (.int (1 : Int32)), (.ref b1)])) _
    refine XS.iand X4.here hx rfl (hb hby at_25) rfl ?_
    show Steps p.tables e below (T4.setTop (mkF m 26 #[.val (.int p1), .val (.int p2), .val (.int p3), .val (.int p4), .val (.int p5), .val (.int p6), .val (.ref b1), .unset, .unset, .unset, .unset, .unset, .unset, .unset, .unset] [(.int (((p1.toUInt32 >>> ((8 : Int32) &&& 31).toUInt32).toInt32) &&& (255 : Int32))), (.int (1 : Int32)), (.ref b1)])) _
    refine XS.i2c X4.here hx rfl (hb hby at_26) rfl ?_
    exact k
  obtain ⟨c6, Ar6, cq6, S6, Nn6, Hh6, Gg6⟩ := id V4a
  have hin6 : ¬ ((1 : Int32) < 0 ∨ c6.slots.size ≤ ((1 : Int32)).toNatClampNeg) := inb_of S6 ⟨by decide, by decide⟩
  obtain ⟨T7, h7, X7, e7, W7, st7⟩ := stC X4 hx hZ e4 Ar6 (j := (1 : Int32)) hin6 (g := (mkF m 27 #[.val (.int p1), .val (.int p2), .val (.int p3), .val (.int p4), .val (.int p5), .val (.int p6), .val (.ref b1), .unset, .unset, .unset, .unset, .unset, .unset, .unset, .unset] [(.int d1), (.int (1 : Int32)), (.ref b1)])) rfl rfl (hb hby at_27)
  have V7 := Arv.set Ar6 cq6 S6 Nn6 Hh6 Gg6 (fits_nar_char _) W7 1 rfl (Nat.le_of_ble_eq_true rfl)
  obtain ⟨c1, hv_c1⟩ : ∃ z : Int32, z = (nar .char d1) := ⟨_, rfl⟩
  have hC := hC.trans (CHr.wr W7 (Safe.arv hZ.alike V4a (by decide)) hC.1)
  have hk := Nat.le_trans hk (Keep.of_wr W7).1
  have V7a : Arv Z h7 b1 k1 .char (4 : Int32) [(.int c0), (.int c1), (.int (0 : Int32)), (.int (0 : Int32))] (.int (0 : Int32)) := by have q := V7; rw [← hv_c1] at q; exact q
  have N7 := Fr.snoc X7 N4 gz_b1
  obtain ⟨d2, hv_d2⟩ : ∃ z : Int32, z = ((((p1.toUInt32 >>> ((16 : Int32) &&& 31).toUInt32).toInt32) &&& (255 : Int32)).toUInt32.toUInt16.toUInt32.toInt32) := ⟨_, rfl⟩
  have g8 : ∀ t, Steps p.tables e below (T7.setTop (mkF m 40 #[.val (.int p1), .val (.int p2), .val (.int p3), .val (.int p4), .val (.int p5), .val (.int p6), .val (.ref b1), .unset, .unset, .unset, .unset, .unset, .unset, .unset, .unset] [(.int d2), (.int (2 : Int32)), (.ref b1)])) t → Steps p.tables e below (s₁.setTop (entryFrame m #[(.int p1), (.int p2), (.int p3), (.int p4), (.int p5), (.int p6)] maxLocals)) t := by
    intro t k
    rw [hv_d2] at k
    refine g5 t ?_
    show Steps p.tables e below (T4.setTop (mkF m 27 #[.val (.int p1), .val (.int p2), .val (.int p3), .val (.int p4), .val (.int p5), .val (.int p6), .val (.ref b1), .unset, .unset, .unset, .unset, .unset, .unset, .unset, .unset] [(.int d1), (.int (1 : Int32)), (.ref b1)])) _
    refine st7 _ ?_
    refine XS.aload X7.here hx rfl (hb hby at_28) rfl rfl ?_
    refine XS.iconst X7.here hx rfl (hb hby at_30) ?_
    refine XS.iloadN X7.here hx rfl (hb hby at_31) rfl ?_
    show Steps p.tables e below (T7.setTop (mkF m 32 #[.val (.int p1), .val (.int p2), .val (.int p3), .val (.int p4), .val (.int p5), .val (.int p6), .val (.ref b1), .unset, .unset, .unset, .unset, .unset, .unset, .unset, .unset] [(.int p1), (.int (2 : Int32)), (.ref b1)])) _
    refine XS.bipush X7.here hx rfl (hb hby at_32) ?_
    show Steps p.tables e below (T7.setTop (mkF m 34 #[.val (.int p1), .val (.int p2), .val (.int p3), .val (.int p4), .val (.int p5), .val (.int p6), .val (.ref b1), .unset, .unset, .unset, .unset, .unset, .unset, .unset, .unset] [(.int (16 : Int32)), (.int p1), (.int (2 : Int32)), (.ref b1)])) _
    refine XS.iushr X7.here hx rfl (hb hby at_34) rfl ?_
    refine XS.sipush X7.here hx rfl (hb hby at_35) ?_
    show Steps p.tables e below (T7.setTop (mkF m 38 #[.val (.int p1), .val (.int p2), .val (.int p3), .val (.int p4), .val (.int p5), .val (.int p6), .val (.ref b1), .unset, .unset, .unset, .unset, .unset, .unset, .unset, .unset] [(.int (255 : Int32)), (.int ((p1.toUInt32 >>> ((16 : Int32) &&& 31).toUInt32).toInt32)), (.int (2 : Int32)), (.ref b1)])) _
    refine XS.iand X7.here hx rfl (hb hby at_38) rfl ?_
    show Steps p.tables e below (T7.setTop (mkF m 39 #[.val (.int p1), .val (.int p2), .val (.int p3), .val (.int p4), .val (.int p5), .val (.int p6), .val (.ref b1), .unset, .unset, .unset, .unset, .unset, .unset, .unset, .unset] [(.int (((p1.toUInt32 >>> ((16 : Int32) &&& 31).toUInt32).toInt32) &&& (255 : Int32))), (.int (2 : Int32)), (.ref b1)])) _
    refine XS.i2c X7.here hx rfl (hb hby at_39) rfl ?_
    exact k
  obtain ⟨c9, Ar9, cq9, S9, Nn9, Hh9, Gg9⟩ := id V7a
  have hin9 : ¬ ((2 : Int32) < 0 ∨ c9.slots.size ≤ ((2 : Int32)).toNatClampNeg) := inb_of S9 ⟨by decide, by decide⟩
  obtain ⟨T10, h10, X10, e10, W10, st10⟩ := stC X7 hx hZ e7 Ar9 (j := (2 : Int32)) hin9 (g := (mkF m 40 #[.val (.int p1), .val (.int p2), .val (.int p3), .val (.int p4), .val (.int p5), .val (.int p6), .val (.ref b1), .unset, .unset, .unset, .unset, .unset, .unset, .unset, .unset] [(.int d2), (.int (2 : Int32)), (.ref b1)])) rfl rfl (hb hby at_40)
  have V10 := Arv.set Ar9 cq9 S9 Nn9 Hh9 Gg9 (fits_nar_char _) W10 2 rfl (Nat.le_of_ble_eq_true rfl)
  obtain ⟨c2, hv_c2⟩ : ∃ z : Int32, z = (nar .char d2) := ⟨_, rfl⟩
  have hC := hC.trans (CHr.wr W10 (Safe.arv hZ.alike V7a (by decide)) hC.1)
  have hk := Nat.le_trans hk (Keep.of_wr W10).1
  have V10a : Arv Z h10 b1 k1 .char (4 : Int32) [(.int c0), (.int c1), (.int c2), (.int (0 : Int32))] (.int (0 : Int32)) := by have q := V10; rw [← hv_c2] at q; exact q
  have N10 := Fr.snoc X10 N7 gz_b1
  obtain ⟨d3, hv_d3⟩ : ∃ z : Int32, z = ((((p1.toUInt32 >>> ((24 : Int32) &&& 31).toUInt32).toInt32) &&& (255 : Int32)).toUInt32.toUInt16.toUInt32.toInt32) := ⟨_, rfl⟩
  have g11 : ∀ t, Steps p.tables e below (T10.setTop (mkF m 53 #[.val (.int p1), .val (.int p2), .val (.int p3), .val (.int p4), .val (.int p5), .val (.int p6), .val (.ref b1), .unset, .unset, .unset, .unset, .unset, .unset, .unset, .unset] [(.int d3), (.int (3 : Int32)), (.ref b1)])) t → Steps p.tables e below (s₁.setTop (entryFrame m #[(.int p1), (.int p2), (.int p3), (.int p4), (.int p5), (.int p6)] maxLocals)) t := by
    intro t k
    rw [hv_d3] at k
    refine g8 t ?_
    show Steps p.tables e below (T7.setTop (mkF m 40 #[.val (.int p1), .val (.int p2), .val (.int p3), .val (.int p4), .val (.int p5), .val (.int p6), .val (.ref b1), .unset, .unset, .unset, .unset, .unset, .unset, .unset, .unset] [(.int d2), (.int (2 : Int32)), (.ref b1)])) _
    refine st10 _ ?_
    refine XS.aload X10.here hx rfl (hb hby at_41) rfl rfl ?_
    refine XS.iconst X10.here hx rfl (hb hby at_43) ?_
    refine XS.iloadN X10.here hx rfl (hb hby at_44) rfl ?_
    show Steps p.tables e below (T10.setTop (mkF m 45 #[.val (.int p1), .val (.int p2), .val (.int p3), .val (.int p4), .val (.int p5), .val (.int p6), .val (.ref b1), .unset, .unset, .unset, .unset, .unset, .unset, .unset, .unset] [(.int p1), (.int (3 : Int32)), (.ref b1)])) _
    refine XS.bipush X10.here hx rfl (hb hby at_45) ?_
    show Steps p.tables e below (T10.setTop (mkF m 47 #[.val (.int p1), .val (.int p2), .val (.int p3), .val (.int p4), .val (.int p5), .val (.int p6), .val (.ref b1), .unset, .unset, .unset, .unset, .unset, .unset, .unset, .unset] [(.int (24 : Int32)), (.int p1), (.int (3 : Int32)), (.ref b1)])) _
    refine XS.iushr X10.here hx rfl (hb hby at_47) rfl ?_
    refine XS.sipush X10.here hx rfl (hb hby at_48) ?_
    show Steps p.tables e below (T10.setTop (mkF m 51 #[.val (.int p1), .val (.int p2), .val (.int p3), .val (.int p4), .val (.int p5), .val (.int p6), .val (.ref b1), .unset, .unset, .unset, .unset, .unset, .unset, .unset, .unset] [(.int (255 : Int32)), (.int ((p1.toUInt32 >>> ((24 : Int32) &&& 31).toUInt32).toInt32)), (.int (3 : Int32)), (.ref b1)])) _
    refine XS.iand X10.here hx rfl (hb hby at_51) rfl ?_
    show Steps p.tables e below (T10.setTop (mkF m 52 #[.val (.int p1), .val (.int p2), .val (.int p3), .val (.int p4), .val (.int p5), .val (.int p6), .val (.ref b1), .unset, .unset, .unset, .unset, .unset, .unset, .unset, .unset] [(.int (((p1.toUInt32 >>> ((24 : Int32) &&& 31).toUInt32).toInt32) &&& (255 : Int32))), (.int (3 : Int32)), (.ref b1)])) _
    refine XS.i2c X10.here hx rfl (hb hby at_52) rfl ?_
    exact k
  obtain ⟨c12, Ar12, cq12, S12, Nn12, Hh12, Gg12⟩ := id V10a
  have hin12 : ¬ ((3 : Int32) < 0 ∨ c12.slots.size ≤ ((3 : Int32)).toNatClampNeg) := inb_of S12 ⟨by decide, by decide⟩
  obtain ⟨T13, h13, X13, e13, W13, st13⟩ := stC X10 hx hZ e10 Ar12 (j := (3 : Int32)) hin12 (g := (mkF m 53 #[.val (.int p1), .val (.int p2), .val (.int p3), .val (.int p4), .val (.int p5), .val (.int p6), .val (.ref b1), .unset, .unset, .unset, .unset, .unset, .unset, .unset, .unset] [(.int d3), (.int (3 : Int32)), (.ref b1)])) rfl rfl (hb hby at_53)
  have V13 := Arv.set Ar12 cq12 S12 Nn12 Hh12 Gg12 (fits_nar_char _) W13 3 rfl (Nat.le_of_ble_eq_true rfl)
  obtain ⟨c3, hv_c3⟩ : ∃ z : Int32, z = (nar .char d3) := ⟨_, rfl⟩
  have hC := hC.trans (CHr.wr W13 (Safe.arv hZ.alike V10a (by decide)) hC.1)
  have hk := Nat.le_trans hk (Keep.of_wr W13).1
  have V13a : Arv Z h13 b1 k1 .char (4 : Int32) [(.int c0), (.int c1), (.int c2), (.int c3)] (.int (0 : Int32)) := by have q := V13; rw [← hv_c3] at q; exact q
  have N13 := Fr.snoc X13 N10 gz_b1
  have hc_c0 := own_chr _ _ _ hv_d0 hv_c0
  have hx_c0 := own_le255 _ hc_c0
  have hc_c1 := own_chr _ _ _ hv_d1 hv_c1
  have hx_c1 := own_le255 _ hc_c1
  have hc_c2 := own_chr _ _ _ hv_d2 hv_c2
  have hx_c2 := own_le255 _ hc_c2
  have hc_c3 := own_chr _ _ _ hv_d3 hv_c3
  have hx_c3 := own_le255 _ hc_c3
  obtain ⟨T14, h14, X14, e14, E14, A14, D14, -, st14⟩ := newO X13 hx hZ hown (own_w hw 1 rfl) (own_w hw 2 rfl) (own_w hw 3 rfl) e13 (g := (mkF m 54 #[.val (.int p1), .val (.int p2), .val (.int p3), .val (.int p4), .val (.int p5), .val (.int p6), .val (.ref b1), .unset, .unset, .unset, .unset, .unset, .unset, .unset, .unset] [])) rfl (hb hby at_54) (by decide) (by decide)
  obtain ⟨b14, q_b14⟩ : ∃ z, z = h13.size := ⟨_, rfl⟩
  rw [← q_b14] at A14 D14 st14
  have sz_b14 : h0.size ≤ b14 := Nat.le_trans (Nat.le_trans (Nat.le_trans (Nat.le_trans (Nat.le_trans E1.1 (Keep.of_wr W4).1) (Keep.of_wr W7).1) (Keep.of_wr W10).1) (Keep.of_wr W13).1) (Nat.le_of_eq q_b14.symm)
  have gz_b14 : n0 ≤ b14 := Nat.le_trans Z0 sz_b14
  have ne_b1_b14 : b1 ≠ b14 := Nat.ne_of_lt (Nat.lt_of_lt_of_le V13a.lt (Nat.le_of_eq q_b14.symm))
  have sf0_b14 := Safe.ext E14 hC.1 (Safe.new (Nat.le_of_eq q_b14.symm))
  have hC := hC.trans (CHr.ext E14 hC.1)
  have hk := Nat.le_trans hk E14.1
  have sf_b14 := sf0_b14
  have F14_coder : Fld Z h14 b14 "java/lang/String" "coder" "B" (.int (0 : Int32)) := D14 (Or.inr (own_w hw 27 rfl)) (ty := .byte) (by decide)
  have F14_value : Fld Z h14 b14 "java/lang/String" "value" "[B" .null := D14 (Or.inr (own_w hw 29 rfl)) (ty := (.array .byte)) (by decide)
  obtain ⟨LL15, XL15, NL15⟩ : ∃ LL : List Loc, Stand p l e room_1 (s.setVm s.vm) m #[(.int p1), (.int p2), (.int p3), (.int p4), (.int p5), (.int p6)] below meth c T14 LL 2 8 ∧ Fr n0 LL := ⟨_, X14, N13⟩
  have f16 := (V13a.ext E14)
  have o17 : Old Z n0 h14 := (Old.ext (Old.wr (Old.wr (Old.wr (Old.wr (Old.ext O0 E1) W4 gz_b1) W7 gz_b1) W10 gz_b1) W13 gz_b1) E14)
  obtain ⟨_, _, ⟨T18, L18, k18, n18⟩, -, X18, ⟨Lc18, hQ18, l18, y18, z18⟩, st18⟩ := XL15.specialBack hx (y := own_y8) rfl hown (mvT hZ (own_w hw 4 rfl)) (mvT hZ (own_w hw 5 rfl)) (mvT hZ (own_w hw 6 rfl)) (by decide) (backOf (W := 1) (rmA9 l Z a0 hw [] b14 b1 k1 (c0) (c1) (c2) (c3)  cs wf h14 n0 o17 G0 A14 F14_coder F14_value f16 gz_b14 hx_c0 hx_c1 hx_c2 hx_c3) hZ (own_w hw 6 rfl) (own_w hw 3 rfl) (by decide) (by decide)) (g := (mkF m 60 #[.val (.int p1), .val (.int p2), .val (.int p3), .val (.int p4), .val (.int p5), .val (.int p6), .val (.ref b1), .unset, .unset, .unset, .unset, .unset, .unset, .unset, .unset] [(.ref b1), (.ref b14), (.ref b14)])) rfl (by rw [hml]; rfl) (Steps.refl _) (a := b14) (argsL := [(.ref b1)]) (rest := [(.ref b14)]) (lenOf own_pd12 rfl) rfl (by show 2 * 0 + _ ≤ _; exact Nat.le_of_eq rfl) (hb hby at_60) (fun _ _ => ⟨rfl, e14, (by decide : 2 + 1 ≤ _), (by decide : 8 + 4 ≤ _)⟩)
  dsimp only [Pt.U, Pt.locs, Pt.cells, Pt.slots] at X18 l18 y18 z18 st18 hQ18
  subst l18 y18 z18
  obtain ⟨rfl, Nq18, K18, rb18, rk18, hb18, Qe18, Qc18, Qv18, Va18⟩ := hQ18
  have qf18 := (sfS (EL := own_EL) sf_b14 sf0)
  have sf_b14 := Safe.keep K18 qf18 hC.1 sf_b14
  have hC := hC.trans (CHr.keep K18 qf18 hC.1)
  have hk := Nat.le_trans hk K18.1
  have N18 := Fr.app NL15 Nq18
  have sz_rb18 : h0.size ≤ rb18 := Nat.le_trans (Nat.le_trans (Nat.le_trans (Nat.le_trans (Nat.le_trans (Nat.le_trans E1.1 (Keep.of_wr W4).1) (Keep.of_wr W7).1) (Keep.of_wr W10).1) (Keep.of_wr W13).1) E14.1) hb18
  have gz_rb18 : n0 ≤ rb18 := Nat.le_trans Z0 sz_rb18
  have ne_b1_rb18 : b1 ≠ rb18 := Nat.ne_of_lt (Nat.lt_of_lt_of_le f16.lt hb18)
  have ne_b14_rb18 : b14 ≠ rb18 := Nat.ne_of_lt (Nat.lt_of_lt_of_le A14.lt hb18)
  obtain ⟨st, hv_st⟩ : ∃ z : Int32, z = ((p2 &&& (2147483647 : Int32)) % (5 : Int32)) := ⟨_, rfl⟩
  have g19 : ∀ t, Steps p.tables e below (T18.setTop (mkF m 71 #[.val (.int p1), .val (.int p2), .val (.int p3), .val (.int p4), .val (.int p5), .val (.int p6), .val (.ref b1), .val (.ref b14), .unset, .unset, .unset, .unset, .unset, .unset, .unset] [(.int st)])) t → Steps p.tables e below (s₁.setTop (entryFrame m #[(.int p1), (.int p2), (.int p3), (.int p4), (.int p5), (.int p6)] maxLocals)) t := by
    intro t k
    rw [hv_st] at k
    refine g11 t ?_
    show Steps p.tables e below (T10.setTop (mkF m 53 #[.val (.int p1), .val (.int p2), .val (.int p3), .val (.int p4), .val (.int p5), .val (.int p6), .val (.ref b1), .unset, .unset, .unset, .unset, .unset, .unset, .unset, .unset] [(.int d3), (.int (3 : Int32)), (.ref b1)])) _
    refine st13 _ ?_
    refine st14 _ ?_
    refine XS.dup X14.here hx rfl (hb hby at_57) rfl rfl ?_
    refine XS.aload X14.here hx rfl (hb hby at_58) rfl rfl ?_
    show Steps p.tables e below (T14.setTop (mkF m 60 #[.val (.int p1), .val (.int p2), .val (.int p3), .val (.int p4), .val (.int p5), .val (.int p6), .val (.ref b1), .unset, .unset, .unset, .unset, .unset, .unset, .unset, .unset] [(.ref b1), (.ref b14), (.ref b14)])) _
    refine st18.trans ?_
    refine XS.astore X18.here hx rfl (hb hby at_63) rfl rfl (l' := #[.val (.int p1), .val (.int p2), .val (.int p3), .val (.int p4), .val (.int p5), .val (.int p6), .val (.ref b1), .val (.ref b14), .unset, .unset, .unset, .unset, .unset, .unset, .unset]) rfl ?_
    refine XS.iloadN X18.here hx rfl (hb hby at_65) rfl ?_
    refine X18.ldcInt hx hown (mvT hZ (own_w hw 30 rfl)) (g := (mkF m 66 #[.val (.int p1), .val (.int p2), .val (.int p3), .val (.int p4), .val (.int p5), .val (.int p6), .val (.ref b1), .val (.ref b14), .unset, .unset, .unset, .unset, .unset, .unset, .unset] [(.int p2)])) rfl (hb hby at_66) _ ?_
    show Steps p.tables e below (T18.setTop (mkF m 68 #[.val (.int p1), .val (.int p2), .val (.int p3), .val (.int p4), .val (.int p5), .val (.int p6), .val (.ref b1), .val (.ref b14), .unset, .unset, .unset, .unset, .unset, .unset, .unset] [(.int (2147483647 : Int32)), (.int p2)])) _
    refine XS.iand X18.here hx rfl (hb hby at_68) rfl ?_
    refine XS.iconst X18.here hx rfl (hb hby at_69) ?_
    show Steps p.tables e below (T18.setTop (mkF m 70 #[.val (.int p1), .val (.int p2), .val (.int p3), .val (.int p4), .val (.int p5), .val (.int p6), .val (.ref b1), .val (.ref b14), .unset, .unset, .unset, .unset, .unset, .unset, .unset] [(.int (5 : Int32)), (.int (p2 &&& (2147483647 : Int32)))])) _
    refine XS.irem X18.here hx rfl (hb hby at_70) rfl (by decide) ?_
    rw [own_irem]
    exact k
  obtain ⟨dn, hv_dn⟩ : ∃ z : Int32, z = ((p3 &&& (2147483647 : Int32)) % ((5 : Int32) - st)) := ⟨_, rfl⟩
  have g20 : ∀ t, Steps p.tables e below (T18.setTop (mkF m 84 #[.val (.int p1), .val (.int p2), .val (.int p3), .val (.int p4), .val (.int p5), .val (.int p6), .val (.ref b1), .val (.ref b14), .val (.int st), .unset, .unset, .unset, .unset, .unset, .unset] [(.int dn), (.int st)])) t → Steps p.tables e below (s₁.setTop (entryFrame m #[(.int p1), (.int p2), (.int p3), (.int p4), (.int p5), (.int p6)] maxLocals)) t := by
    intro t k
    rw [hv_dn] at k
    refine g19 t ?_
    show Steps p.tables e below (T18.setTop (mkF m 71 #[.val (.int p1), .val (.int p2), .val (.int p3), .val (.int p4), .val (.int p5), .val (.int p6), .val (.ref b1), .val (.ref b14), .unset, .unset, .unset, .unset, .unset, .unset, .unset] [(.int st)])) _
    refine XS.istore X18.here hx rfl (hb hby at_71) rfl (l' := #[.val (.int p1), .val (.int p2), .val (.int p3), .val (.int p4), .val (.int p5), .val (.int p6), .val (.ref b1), .val (.ref b14), .val (.int st), .unset, .unset, .unset, .unset, .unset, .unset]) rfl ?_
    refine XS.iload X18.here hx rfl (hb hby at_73) rfl ?_
    refine XS.iloadN X18.here hx rfl (hb hby at_75) rfl ?_
    refine X18.ldcInt hx hown (mvT hZ (own_w hw 30 rfl)) (g := (mkF m 76 #[.val (.int p1), .val (.int p2), .val (.int p3), .val (.int p4), .val (.int p5), .val (.int p6), .val (.ref b1), .val (.ref b14), .val (.int st), .unset, .unset, .unset, .unset, .unset, .unset] [(.int p3), (.int st)])) rfl (hb hby at_76) _ ?_
    show Steps p.tables e below (T18.setTop (mkF m 78 #[.val (.int p1), .val (.int p2), .val (.int p3), .val (.int p4), .val (.int p5), .val (.int p6), .val (.ref b1), .val (.ref b14), .val (.int st), .unset, .unset, .unset, .unset, .unset, .unset] [(.int (2147483647 : Int32)), (.int p3), (.int st)])) _
    refine XS.iand X18.here hx rfl (hb hby at_78) rfl ?_
    refine XS.iconst X18.here hx rfl (hb hby at_79) ?_
    refine XS.iload X18.here hx rfl (hb hby at_80) rfl ?_
    show Steps p.tables e below (T18.setTop (mkF m 82 #[.val (.int p1), .val (.int p2), .val (.int p3), .val (.int p4), .val (.int p5), .val (.int p6), .val (.ref b1), .val (.ref b14), .val (.int st), .unset, .unset, .unset, .unset, .unset, .unset] [(.int st), (.int (5 : Int32)), (.int (p3 &&& (2147483647 : Int32))), (.int st)])) _
    refine XS.isub X18.here hx rfl (hb hby at_82) rfl ?_
    show Steps p.tables e below (T18.setTop (mkF m 83 #[.val (.int p1), .val (.int p2), .val (.int p3), .val (.int p4), .val (.int p5), .val (.int p6), .val (.ref b1), .val (.ref b14), .val (.int st), .unset, .unset, .unset, .unset, .unset, .unset] [(.int ((5 : Int32) - st)), (.int (p3 &&& (2147483647 : Int32))), (.int st)])) _
    refine XS.irem X18.here hx rfl (hb hby at_83) rfl (own_nz5 _ _ hv_st) ?_
    rw [own_irem]
    exact k
  obtain ⟨en, hv_en⟩ : ∃ z : Int32, z = (st + dn) := ⟨_, rfl⟩
  have g21 : ∀ t, Steps p.tables e below (T18.setTop (mkF m 85 #[.val (.int p1), .val (.int p2), .val (.int p3), .val (.int p4), .val (.int p5), .val (.int p6), .val (.ref b1), .val (.ref b14), .val (.int st), .unset, .unset, .unset, .unset, .unset, .unset] [(.int en)])) t → Steps p.tables e below (s₁.setTop (entryFrame m #[(.int p1), (.int p2), (.int p3), (.int p4), (.int p5), (.int p6)] maxLocals)) t := by
    intro t k
    rw [hv_en] at k
    refine g20 t ?_
    show Steps p.tables e below (T18.setTop (mkF m 84 #[.val (.int p1), .val (.int p2), .val (.int p3), .val (.int p4), .val (.int p5), .val (.int p6), .val (.ref b1), .val (.ref b14), .val (.int st), .unset, .unset, .unset, .unset, .unset, .unset] [(.int dn), (.int st)])) _
    refine XS.iadd X18.here hx rfl (hb hby at_84) rfl ?_
    exact k
  have g22 : ∀ t, Steps p.tables e below (T18.setTop (mkF m 91 #[.val (.int p1), .val (.int p2), .val (.int p3), .val (.int p4), .val (.int p5), .val (.int p6), .val (.ref b1), .val (.ref b14), .val (.int st), .val (.int en), .unset, .unset, .unset, .unset, .unset] [(.int (p6 &&& (1 : Int32)))])) t → Steps p.tables e below (s₁.setTop (entryFrame m #[(.int p1), (.int p2), (.int p3), (.int p4), (.int p5), (.int p6)] maxLocals)) t := by
    intro t k
    refine g21 t ?_
    show Steps p.tables e below (T18.setTop (mkF m 85 #[.val (.int p1), .val (.int p2), .val (.int p3), .val (.int p4), .val (.int p5), .val (.int p6), .val (.ref b1), .val (.ref b14), .val (.int st), .unset, .unset, .unset, .unset, .unset, .unset] [(.int en)])) _
    refine XS.istore X18.here hx rfl (hb hby at_85) rfl (l' := #[.val (.int p1), .val (.int p2), .val (.int p3), .val (.int p4), .val (.int p5), .val (.int p6), .val (.ref b1), .val (.ref b14), .val (.int st), .val (.int en), .unset, .unset, .unset, .unset, .unset]) rfl ?_
    refine XS.iload X18.here hx rfl (hb hby at_87) rfl ?_
    refine XS.iconst X18.here hx rfl (hb hby at_89) ?_
    show Steps p.tables e below (T18.setTop (mkF m 90 #[.val (.int p1), .val (.int p2), .val (.int p3), .val (.int p4), .val (.int p5), .val (.int p6), .val (.ref b1), .val (.ref b14), .val (.int st), .val (.int en), .unset, .unset, .unset, .unset, .unset] [(.int (1 : Int32)), (.int p6)])) _
    refine XS.iand X18.here hx rfl (hb hby at_90) rfl ?_
    exact k
  obtain ⟨rl, hv_rl⟩ : ∃ z : Int32, z = (if (p6 &&& (1 : Int32)) = (0 : Int32) then (0 : Int32) else (1 : Int32)) := ⟨_, rfl⟩
  have g24 : ∀ t, Steps p.tables e below (T18.setTop (mkF m 99 #[.val (.int p1), .val (.int p2), .val (.int p3), .val (.int p4), .val (.int p5), .val (.int p6), .val (.ref b1), .val (.ref b14), .val (.int st), .val (.int en), .unset, .unset, .unset, .unset, .unset] [(.int rl)])) t → Steps p.tables e below (s₁.setTop (entryFrame m #[(.int p1), (.int p2), (.int p3), (.int p4), (.int p5), (.int p6)] maxLocals)) t := by
    intro t k
    by_cases hc23 : (p6 &&& (1 : Int32)) = (0 : Int32)
    · rw [if_pos hc23] at hv_rl; rw [hv_rl] at k
      refine g22 t ?_
      show Steps p.tables e below (T18.setTop (mkF m 91 #[.val (.int p1), .val (.int p2), .val (.int p3), .val (.int p4), .val (.int p5), .val (.int p6), .val (.ref b1), .val (.ref b14), .val (.int st), .val (.int en), .unset, .unset, .unset, .unset, .unset] [(.int (p6 &&& (1 : Int32)))])) _
      refine XS.ifYes X18.here hx rfl (pc0 := 91) (pc' := 98) rfl (hb hby at_91) rfl ((if0 _ _).trans (teq hc23).1) (by decide) (by decide) ?_
      refine XS.iconst X18.here hx rfl (hb hby at_98) ?_
      exact k
    · rw [if_neg hc23] at hv_rl; rw [hv_rl] at k
      refine g22 t ?_
      show Steps p.tables e below (T18.setTop (mkF m 91 #[.val (.int p1), .val (.int p2), .val (.int p3), .val (.int p4), .val (.int p5), .val (.int p6), .val (.ref b1), .val (.ref b14), .val (.int st), .val (.int en), .unset, .unset, .unset, .unset, .unset] [(.int (p6 &&& (1 : Int32)))])) _
      refine XS.ifNo X18.here hx rfl (hb hby at_91) rfl ((if0 _ _).trans (feq hc23).1) ?_
      refine XS.iconst X18.here hx rfl (hb hby at_94) ?_
      refine XS.goto X18.here hx rfl (pc0 := 95) (pc' := 99) rfl (hb hby at_95) (by decide) (by decide) ?_
      exact k
  obtain ⟨cv, hv_cv⟩ : ∃ z : Int32, z = ((((p4.toUInt32 >>> ((8 : Int32) &&& 31).toUInt32).toInt32) &&& (65535 : Int32)).toUInt32.toUInt16.toUInt32.toInt32) := ⟨_, rfl⟩
  have g25 : ∀ t, Steps p.tables e below (T18.setTop (mkF m 109 #[.val (.int p1), .val (.int p2), .val (.int p3), .val (.int p4), .val (.int p5), .val (.int p6), .val (.ref b1), .val (.ref b14), .val (.int st), .val (.int en), .val (.int rl), .unset, .unset, .unset, .unset] [(.int cv)])) t → Steps p.tables e below (s₁.setTop (entryFrame m #[(.int p1), (.int p2), (.int p3), (.int p4), (.int p5), (.int p6)] maxLocals)) t := by
    intro t k
    rw [hv_cv] at k
    refine g24 t ?_
    show Steps p.tables e below (T18.setTop (mkF m 99 #[.val (.int p1), .val (.int p2), .val (.int p3), .val (.int p4), .val (.int p5), .val (.int p6), .val (.ref b1), .val (.ref b14), .val (.int st), .val (.int en), .unset, .unset, .unset, .unset, .unset] [(.int rl)])) _
    refine XS.istore X18.here hx rfl (hb hby at_99) rfl (l' := #[.val (.int p1), .val (.int p2), .val (.int p3), .val (.int p4), .val (.int p5), .val (.int p6), .val (.ref b1), .val (.ref b14), .val (.int st), .val (.int en), .val (.int rl), .unset, .unset, .unset, .unset]) rfl ?_
    refine XS.iloadN X18.here hx rfl (hb hby at_101) rfl ?_
    refine XS.bipush X18.here hx rfl (hb hby at_102) ?_
    show Steps p.tables e below (T18.setTop (mkF m 104 #[.val (.int p1), .val (.int p2), .val (.int p3), .val (.int p4), .val (.int p5), .val (.int p6), .val (.ref b1), .val (.ref b14), .val (.int st), .val (.int en), .val (.int rl), .unset, .unset, .unset, .unset] [(.int (8 : Int32)), (.int p4)])) _
    refine XS.iushr X18.here hx rfl (hb hby at_104) rfl ?_
    show Steps p.tables e below (T18.setTop (mkF m 105 #[.val (.int p1), .val (.int p2), .val (.int p3), .val (.int p4), .val (.int p5), .val (.int p6), .val (.ref b1), .val (.ref b14), .val (.int st), .val (.int en), .val (.int rl), .unset, .unset, .unset, .unset] [(.int ((p4.toUInt32 >>> ((8 : Int32) &&& 31).toUInt32).toInt32))])) _
    refine X18.ldcInt hx hown (mvT hZ (own_w hw 31 rfl)) (g := (mkF m 105 #[.val (.int p1), .val (.int p2), .val (.int p3), .val (.int p4), .val (.int p5), .val (.int p6), .val (.ref b1), .val (.ref b14), .val (.int st), .val (.int en), .val (.int rl), .unset, .unset, .unset, .unset] [(.int ((p4.toUInt32 >>> ((8 : Int32) &&& 31).toUInt32).toInt32))])) rfl (hb hby at_105) _ ?_
    show Steps p.tables e below (T18.setTop (mkF m 107 #[.val (.int p1), .val (.int p2), .val (.int p3), .val (.int p4), .val (.int p5), .val (.int p6), .val (.ref b1), .val (.ref b14), .val (.int st), .val (.int en), .val (.int rl), .unset, .unset, .unset, .unset] [(.int (65535 : Int32)), (.int ((p4.toUInt32 >>> ((8 : Int32) &&& 31).toUInt32).toInt32))])) _
    refine XS.iand X18.here hx rfl (hb hby at_107) rfl ?_
    show Steps p.tables e below (T18.setTop (mkF m 108 #[.val (.int p1), .val (.int p2), .val (.int p3), .val (.int p4), .val (.int p5), .val (.int p6), .val (.ref b1), .val (.ref b14), .val (.int st), .val (.int en), .val (.int rl), .unset, .unset, .unset, .unset] [(.int (((p4.toUInt32 >>> ((8 : Int32) &&& 31).toUInt32).toInt32) &&& (65535 : Int32)))])) _
    refine XS.i2c X18.here hx rfl (hb hby at_108) rfl ?_
    exact k
  obtain ⟨T26, h26, X26, e26, E26, A26, D26, -, st26⟩ := newO X18 hx hZ hown (own_w hw 32 rfl) (own_w hw 33 rfl) (own_w hw 34 rfl) rfl (g := (mkF m 111 #[.val (.int p1), .val (.int p2), .val (.int p3), .val (.int p4), .val (.int p5), .val (.int p6), .val (.ref b1), .val (.ref b14), .val (.int st), .val (.int en), .val (.int rl), .val (.int cv), .unset, .unset, .unset] [])) rfl (hb hby at_111) (by decide) (by decide)
  obtain ⟨b26, q_b26⟩ : ∃ z, z = T18.heap.size := ⟨_, rfl⟩
  rw [← q_b26] at A26 D26 st26
  have sz_b26 : h0.size ≤ b26 := Nat.le_trans (Nat.le_trans (Nat.le_trans (Nat.le_trans (Nat.le_trans (Nat.le_trans (Nat.le_trans E1.1 (Keep.of_wr W4).1) (Keep.of_wr W7).1) (Keep.of_wr W10).1) (Keep.of_wr W13).1) E14.1) K18.1) (Nat.le_of_eq q_b26.symm)
  have gz_b26 : n0 ≤ b26 := Nat.le_trans Z0 sz_b26
  have f27 := (f16.keep K18 (ninS ne_b1_b14 nin0))
  have ne_b1_b26 : b1 ≠ b26 := Nat.ne_of_lt (Nat.lt_of_lt_of_le f27.lt (Nat.le_of_eq q_b26.symm))
  have ne_b14_b26 : b14 ≠ b26 := Nat.ne_of_lt (Nat.lt_of_lt_of_le Qe18.lt (Nat.le_of_eq q_b26.symm))
  have ne_rb18_b26 : rb18 ≠ b26 := Nat.ne_of_lt (Nat.lt_of_lt_of_le Va18.lt (Nat.le_of_eq q_b26.symm))
  have sf_b14 := Safe.ext E26 hC.1 sf_b14
  have hC := hC.trans (CHr.ext E26 hC.1)
  have hk := Nat.le_trans hk E26.1
  have F26_start : Fld Z h26 b26 "com/example/momus/momus/model/FormatSpecifier" "start" "I" (.int (0 : Int32)) := D26 (Or.inr (own_w hw 45 rfl)) (ty := .int) (by decide)
  have F26_index : Fld Z h26 b26 "com/example/momus/momus/model/FormatSpecifier" "index" "I" (.int (0 : Int32)) := D26 (Or.inr (own_w hw 47 rfl)) (ty := .int) (by decide)
  have F26_relative : Fld Z h26 b26 "com/example/momus/momus/model/FormatSpecifier" "relative" "Z" (.int (0 : Int32)) := D26 (Or.inr (own_w hw 49 rfl)) (ty := .boolean) (by decide)
  have F26_width : Fld Z h26 b26 "com/example/momus/momus/model/FormatSpecifier" "width" "I" (.int (0 : Int32)) := D26 (Or.inr (own_w hw 51 rfl)) (ty := .int) (by decide)
  have F26_precision : Fld Z h26 b26 "com/example/momus/momus/model/FormatSpecifier" "precision" "I" (.int (0 : Int32)) := D26 (Or.inr (own_w hw 53 rfl)) (ty := .int) (by decide)
  have F26_conversion : Fld Z h26 b26 "com/example/momus/momus/model/FormatSpecifier" "conversion" "C" (.int (0 : Int32)) := D26 (Or.inr (own_w hw 55 rfl)) (ty := .char) (by decide)
  have F26_end : Fld Z h26 b26 "com/example/momus/momus/model/FormatSpecifier" "end" "I" (.int (0 : Int32)) := D26 (Or.inr (own_w hw 57 rfl)) (ty := .int) (by decide)
  obtain ⟨pr, hv_pr⟩ : ∃ z : Int32, z = (p6 >>> ((1 : Int32) &&& 31)) := ⟨_, rfl⟩
  have g28 : ∀ t, Steps p.tables e below (T26.setTop (mkF m 126 #[.val (.int p1), .val (.int p2), .val (.int p3), .val (.int p4), .val (.int p5), .val (.int p6), .val (.ref b1), .val (.ref b14), .val (.int st), .val (.int en), .val (.int rl), .val (.int cv), .unset, .unset, .unset] [(.int pr), (.int p5), (.int rl), (.int p4), (.int st), (.ref b26), (.ref b26)])) t → Steps p.tables e below (s₁.setTop (entryFrame m #[(.int p1), (.int p2), (.int p3), (.int p4), (.int p5), (.int p6)] maxLocals)) t := by
    intro t k
    rw [hv_pr] at k
    refine g25 t ?_
    show Steps p.tables e below (T18.setTop (mkF m 109 #[.val (.int p1), .val (.int p2), .val (.int p3), .val (.int p4), .val (.int p5), .val (.int p6), .val (.ref b1), .val (.ref b14), .val (.int st), .val (.int en), .val (.int rl), .unset, .unset, .unset, .unset] [(.int cv)])) _
    refine XS.istore X18.here hx rfl (hb hby at_109) rfl (l' := #[.val (.int p1), .val (.int p2), .val (.int p3), .val (.int p4), .val (.int p5), .val (.int p6), .val (.ref b1), .val (.ref b14), .val (.int st), .val (.int en), .val (.int rl), .val (.int cv), .unset, .unset, .unset]) rfl ?_
    refine st26 _ ?_
    refine XS.dup X26.here hx rfl (hb hby at_114) rfl rfl ?_
    refine XS.iload X26.here hx rfl (hb hby at_115) rfl ?_
    show Steps p.tables e below (T26.setTop (mkF m 117 #[.val (.int p1), .val (.int p2), .val (.int p3), .val (.int p4), .val (.int p5), .val (.int p6), .val (.ref b1), .val (.ref b14), .val (.int st), .val (.int en), .val (.int rl), .val (.int cv), .unset, .unset, .unset] [(.int st), (.ref b26), (.ref b26)])) _
    refine XS.iloadN X26.here hx rfl (hb hby at_117) rfl ?_
    refine XS.iload X26.here hx rfl (hb hby at_118) rfl ?_
    refine XS.iload X26.here hx rfl (hb hby at_120) rfl ?_
    refine XS.iload X26.here hx rfl (hb hby at_122) rfl ?_
    show Steps p.tables e below (T26.setTop (mkF m 124 #[.val (.int p1), .val (.int p2), .val (.int p3), .val (.int p4), .val (.int p5), .val (.int p6), .val (.ref b1), .val (.ref b14), .val (.int st), .val (.int en), .val (.int rl), .val (.int cv), .unset, .unset, .unset] [(.int p6), (.int p5), (.int rl), (.int p4), (.int st), (.ref b26), (.ref b26)])) _
    refine XS.iconst X26.here hx rfl (hb hby at_124) ?_
    show Steps p.tables e below (T26.setTop (mkF m 125 #[.val (.int p1), .val (.int p2), .val (.int p3), .val (.int p4), .val (.int p5), .val (.int p6), .val (.ref b1), .val (.ref b14), .val (.int st), .val (.int en), .val (.int rl), .val (.int cv), .unset, .unset, .unset] [(.int (1 : Int32)), (.int p6), (.int p5), (.int rl), (.int p4), (.int st), (.ref b26), (.ref b26)])) _
    refine XS.ishr X26.here hx rfl (hb hby at_125) rfl ?_
    exact k
  have o29 : Old Z n0 h26 := (Old.ext (Old.keep o17 K18 (allS gz_b14 all0)) E26)
  obtain ⟨_, _, ⟨T30, L30, k30, n30⟩, -, X30, ⟨Lc30, hQ30, l30, y30, z30⟩, st30⟩ := X26.specialBack hx (y := own_y13) rfl hown (mvT hZ (own_w hw 35 rfl)) (mvT hZ (own_w hw 36 rfl)) (mvT hZ (own_w hw 37 rfl)) (by decide) (backOf (W := 1) (rmA14 l Z a0 hw [] b26 (st) (p4) (rl) (p5) (pr) (cv) (en)  cs wf h26 n0 o29 G0 A26 F26_conversion F26_end F26_index F26_precision F26_relative F26_start F26_width gz_b26 ) hZ (own_w hw 37 rfl) (own_w hw 34 rfl) (by decide) (by decide)) (g := (mkF m 130 #[.val (.int p1), .val (.int p2), .val (.int p3), .val (.int p4), .val (.int p5), .val (.int p6), .val (.ref b1), .val (.ref b14), .val (.int st), .val (.int en), .val (.int rl), .val (.int cv), .unset, .unset, .unset] [(.int en), (.int cv), (.int pr), (.int p5), (.int rl), (.int p4), (.int st), (.ref b26), (.ref b26)])) rfl (by rw [hml]; rfl) (Steps.refl _) (a := b26) (argsL := [(.int st), (.int p4), (.int rl), (.int p5), (.int pr), (.int cv), (.int en)]) (rest := [(.ref b26)]) (lenOf own_pd14 rfl) rfl (by show 2 * 0 + _ ≤ _; exact Nat.le_of_eq rfl) (hb hby at_130) (fun _ _ => ⟨rfl, e26, (by decide : 4 + 0 ≤ _), (by decide : 19 + 0 ≤ _)⟩)
  dsimp only [Pt.U, Pt.locs, Pt.cells, Pt.slots] at X30 l30 y30 z30 st30 hQ30
  subst l30 y30 z30
  obtain ⟨rfl, Nq30, K30, Q30_0, Q30_1, Q30_2⟩ := hQ30
  have qf30 := (sfS (EL := own_EL) (Safe.exa hZ.alike A26 (by decide) (by decide)) sf0)
  have sf_b14 := Safe.keep K30 qf30 hC.1 sf_b14
  have hC := hC.trans (CHr.keep K30 qf30 hC.1)
  have hk := Nat.le_trans hk K30.1
  have N30 := Fr.app N18 Nq30
  have hR := own_range _ _ _ _ _ hv_st hv_dn hv_en
  obtain ⟨nn, hnn⟩ : ∃ z, (en - st) = z := ⟨_, rfl⟩
  obtain ⟨pq1, pq2, pq3, pq4, pq5, pq6, pq7, pq8, pq9⟩ := own_pq _ _ _ hR hnn
  obtain ⟨bb0, dd0, hdd0⟩ := own_hdC c0 c1 c2 c3 st en nn hR hnn hc_c0 hc_c1 hc_c2 hc_c3 0 (by decide)
  obtain ⟨bb1, dd1, hdd1⟩ := own_hdC c0 c1 c2 c3 st en nn hR hnn hc_c0 hc_c1 hc_c2 hc_c3 1 (by decide)
  obtain ⟨bb2, dd2, hdd2⟩ := own_hdC c0 c1 c2 c3 st en nn hR hnn hc_c0 hc_c1 hc_c2 hc_c3 2 (by decide)
  obtain ⟨bb3, dd3, hdd3⟩ := own_hdC c0 c1 c2 c3 st en nn hR hnn hc_c0 hc_c1 hc_c2 hc_c3 3 (by decide)
  have g32 : ∀ t, Steps p.tables e below (T30.setTop (mkF m 139 #[.val (.int p1), .val (.int p2), .val (.int p3), .val (.int p4), .val (.int p5), .val (.int p6), .val (.ref b1), .val (.ref b14), .val (.int st), .val (.int en), .val (.int rl), .val (.int cv), .val (.ref b26), .unset, .unset] [(.ref b14), (.ref b26)])) t → Steps p.tables e below (s₁.setTop (entryFrame m #[(.int p1), (.int p2), (.int p3), (.int p4), (.int p5), (.int p6)] maxLocals)) t := by
    intro t k
    refine g28 t ?_
    show Steps p.tables e below (T26.setTop (mkF m 126 #[.val (.int p1), .val (.int p2), .val (.int p3), .val (.int p4), .val (.int p5), .val (.int p6), .val (.ref b1), .val (.ref b14), .val (.int st), .val (.int en), .val (.int rl), .val (.int cv), .unset, .unset, .unset] [(.int pr), (.int p5), (.int rl), (.int p4), (.int st), (.ref b26), (.ref b26)])) _
    refine XS.iload X26.here hx rfl (hb hby at_126) rfl ?_
    refine XS.iload X26.here hx rfl (hb hby at_128) rfl ?_
    refine st30.trans ?_
    refine XS.astore X30.here hx rfl (hb hby at_133) rfl rfl (l' := #[.val (.int p1), .val (.int p2), .val (.int p3), .val (.int p4), .val (.int p5), .val (.int p6), .val (.ref b1), .val (.ref b14), .val (.int st), .val (.int en), .val (.int rl), .val (.int cv), .val (.ref b26), .unset, .unset]) rfl ?_
    show Steps p.tables e below (T30.setTop (mkF m 135 #[.val (.int p1), .val (.int p2), .val (.int p3), .val (.int p4), .val (.int p5), .val (.int p6), .val (.ref b1), .val (.ref b14), .val (.int st), .val (.int en), .val (.int rl), .val (.int cv), .val (.ref b26), .unset, .unset] [])) _
    refine XS.aload X30.here hx rfl (hb hby at_135) rfl rfl ?_
    refine XS.aload X30.here hx rfl (hb hby at_137) rfl rfl ?_
    exact k
  by_cases hc31 : st = (0 : Int32)
  · by_cases hc33 : en = (4 : Int32)
    · rcases (hc31 : st = (0 : Int32)) with rfl
      · skip
        rcases (hc33 : en = (4 : Int32)) with rfl
        · skip
          have f34 := ((Qe18.ext E26).keep K30)
          have f35 := ((Qc18.ext E26).keep K30 (ninS ne_b14_b26 nin0))
          have f36 := ((Va18.ext E26).keep K30 (ninS ne_rb18_b26 nin0))
          have f37 := ((Qv18.ext E26).keep K30 (ninS ne_b14_b26 nin0))
          have o38 : Old Z n0 T30.heap := (Old.keep o29 K30 (allS gz_b26 all0))
          obtain ⟨cq39, kq39, q39a, q39b, q39c⟩ := isOf hZ rfl Q30_0
          obtain ⟨_, _, ⟨T39, L39, k39, n39⟩, -, X39, ⟨Lc39, hQ39, l39, y39, z39⟩, st39⟩ := X30.virtualBack hx (y := own_y15) (z := own_y15) hown (mvT hZ (own_w hw 58 rfl)) (mvT hZ (own_w hw 59 rfl)) (notFace_of_selects (args := #[]) (mvT hZ (own_w hw 61 rfl))) (mvT hZ (own_w hw 61 rfl)) (mvT hZ (own_w hw 60 rfl)) (by decide) (backOf (W := 0) (rmA16 l Z a0 hw [] b26 b14 rb18 rk18 ((c0.toInt8.toInt32)) ((c1.toInt8.toInt32)) ((c2.toInt8.toInt32)) ((c3.toInt8.toInt32))  cs wf T30.heap n0 o38 G0 Q30_0 Q30_2 Q30_1 f34 f35 f36 f37  ) hZ (own_w hw 62 rfl) (own_w hw 34 rfl) (by decide) (by decide)) q39a q39c (g := (mkF m 139 #[.val (.int p1), .val (.int p2), .val (.int p3), .val (.int p4), .val (.int p5), .val (.int p6), .val (.ref b1), .val (.ref b14), .val (.int (0 : Int32)), .val (.int (4 : Int32)), .val (.int rl), .val (.int cv), .val (.ref b26), .unset, .unset] [(.ref b14), (.ref b26)])) rfl (by rw [hml]; rfl) (Steps.refl _) (argsL := [(.ref b14)]) (rest := []) (lenOf own_pd18 rfl) rfl (by show 2 * 0 + _ ≤ _; exact Nat.le_of_eq rfl) (hb hby at_139) (fun _ _ => ⟨rfl, rfl, (by decide : 4 + 0 ≤ _), (by decide : 19 + 0 ≤ _)⟩)
          dsimp only [Pt.U, Pt.locs, Pt.cells, Pt.slots] at X39 l39 y39 z39 st39 hQ39
          subst l39 y39 z39
          obtain ⟨rfl, Nq39, e39⟩ := hQ39
          have N39 := Fr.app N30 Nq39
          have g40 : ∀ t, Steps p.tables e below (T39.setTop (mkF m 142 #[.val (.int p1), .val (.int p2), .val (.int p3), .val (.int p4), .val (.int p5), .val (.int p6), .val (.ref b1), .val (.ref b14), .val (.int (0 : Int32)), .val (.int (4 : Int32)), .val (.int rl), .val (.int cv), .val (.ref b26), .unset, .unset] [(.ref b14)])) t → Steps p.tables e below (s₁.setTop (entryFrame m #[(.int p1), (.int p2), (.int p3), (.int p4), (.int p5), (.int p6)] maxLocals)) t := by
            intro t k
            refine g32 t ?_
            show Steps p.tables e below (T30.setTop (mkF m 139 #[.val (.int p1), .val (.int p2), .val (.int p3), .val (.int p4), .val (.int p5), .val (.int p6), .val (.ref b1), .val (.ref b14), .val (.int (0 : Int32)), .val (.int (4 : Int32)), .val (.int rl), .val (.int cv), .val (.ref b26), .unset, .unset] [(.ref b14), (.ref b26)])) _
            refine st39.trans ?_
            exact k
          have f41 := ((f27.ext E26).keep K30 (ninS ne_b1_b26 nin0))
          exact own_tail p1 p2 p3 p4 p5 p6 (0 : Int32) (4 : Int32) (4 : Int32) rl cv c0 c1 c2 c3 ((c0.toInt8.toInt32)) ((c1.toInt8.toInt32)) ((c2.toInt8.toInt32)) ((c3.toInt8.toInt32)) c0 c1 c2 c3 b1 b14 b26 b14 rb18 rk18 k1 [(.int (c0.toInt8.toInt32)), (.int (c1.toInt8.toInt32)), (.int (c2.toInt8.toInt32)), (.int (c3.toInt8.toInt32))] cs wf X39 hx hZ hw hby hml hown e39 o38 N39 hS hk hC hh Bd.returns Bd.notSynchronized (by decide) (by decide) G0 (by decide) f34 f35 f37 f36 f41 (Or.inr ⟨by decide, by decide, by decide, rfl, by decide, by decide, rfl, own_back _ hc_c0⟩) (Or.inr ⟨by decide, by decide, by decide, rfl, by decide, by decide, rfl, own_back _ hc_c1⟩) (Or.inr ⟨by decide, by decide, by decide, rfl, by decide, by decide, rfl, own_back _ hc_c2⟩) (Or.inr ⟨by decide, by decide, by decide, rfl, by decide, by decide, rfl, own_back _ hc_c3⟩) g40
    · by_cases hc42 : nn = (0 : Int32)
      · have pq10 := hc31
        have pq11 := hc42
        have pq12 := hc33
        have f43 := ((Qe18.ext E26).keep K30)
        have f44 := ((Qc18.ext E26).keep K30 (ninS ne_b14_b26 nin0))
        have f45 := ((Va18.ext E26).keep K30 (ninS ne_rb18_b26 nin0))
        have f46 := ((Qv18.ext E26).keep K30 (ninS ne_b14_b26 nin0))
        have o47 : Old Z n0 T30.heap := (Old.keep o29 K30 (allS gz_b26 all0))
        obtain ⟨cq48, kq48, q48a, q48b, q48c⟩ := isOf hZ rfl Q30_0
        obtain ⟨_, _, ⟨T48, L48, k48, n48⟩, -, X48, hSn48, hgn48, ⟨Lc48, hQ48, l48, y48, z48, C48⟩, st48⟩ := X30.virtualBackS hx (y := own_y15) (z := own_y15) hown (mvT hZ (own_w hw 58 rfl)) (mvT hZ (own_w hw 59 rfl)) (notFace_of_selects (args := #[]) (mvT hZ (own_w hw 61 rfl))) (mvT hZ (own_w hw 61 rfl)) (mvT hZ (own_w hw 60 rfl)) (by decide) (backOfSH (s := s) (vm0 := s.vm) (W := 0) (rmA23 l Z a0 hw [] b26 (en) (st) b14 rb18 rk18 ((c0.toInt8.toInt32)) ((c1.toInt8.toInt32)) ((c2.toInt8.toInt32)) ((c3.toInt8.toInt32)) nn cs wf T30.heap n0 o47 G0 Q30_0 Q30_2 Q30_1 f43 f44 f45 f46  pq1 pq2 pq3 pq4 pq5 pq6 pq7 pq8 pq9 pq10 pq11 pq12) hZ (own_w hw 62 rfl) (own_w hw 34 rfl) (by decide) (by decide) (own_EW hw) hC.1) q48a q48c (g := (mkF m 139 #[.val (.int p1), .val (.int p2), .val (.int p3), .val (.int p4), .val (.int p5), .val (.int p6), .val (.ref b1), .val (.ref b14), .val (.int st), .val (.int en), .val (.int rl), .val (.int cv), .val (.ref b26), .unset, .unset] [(.ref b14), (.ref b26)])) rfl (by rw [hml]; rfl) (Steps.refl _) (argsL := [(.ref b14)]) (rest := []) (lenOf own_pd18 rfl) rfl (by show 2 * 0 + _ ≤ _; exact Nat.le_of_eq rfl) (hb hby at_139) (fun _ _ => ⟨rfl, rfl, (by decide : 4 + 2 ≤ _), (by decide : 19 + 4 ≤ _)⟩)
        dsimp only [Pt.U, Pt.locs, Pt.cells, Pt.slots] at X48 l48 y48 z48 st48 hQ48 hSn48 hgn48 C48
        subst l48 y48 z48
        have hS := foldS hS hk hSn48 hgn48
        have hk := Nat.le_refl T48.heap.size
        have hZ : Z.Warmed39 T48.vm := State.Warmed39.trans (t := s.setVm s.vm) hZ hSn48.1
        have hown : T48.vm.findClass "com/example/momus/momus/model/FormatSpecifierTextPinLaw" = some m.cls := by rw [hSn48.1.alike.findClass]; exact hown
        have hC := hC.trans C48
        obtain ⟨sa48, sb48, sk48, rfl, Nq48, K48, Qe48, Qc48, Qv48, Qa48⟩ := hQ48
        have N48 := Fr.app N30 Nq48
        have g49 : ∀ t, Steps p.tables e below (T48.setTop (mkF m 142 #[.val (.int p1), .val (.int p2), .val (.int p3), .val (.int p4), .val (.int p5), .val (.int p6), .val (.ref b1), .val (.ref b14), .val (.int st), .val (.int en), .val (.int rl), .val (.int cv), .val (.ref b26), .unset, .unset] [(.ref sa48)])) t → Steps p.tables e below (s₁.setTop (entryFrame m #[(.int p1), (.int p2), (.int p3), (.int p4), (.int p5), (.int p6)] maxLocals)) t := by
          intro t k
          refine g32 t ?_
          show Steps p.tables e below (T30.setTop (mkF m 139 #[.val (.int p1), .val (.int p2), .val (.int p3), .val (.int p4), .val (.int p5), .val (.int p6), .val (.ref b1), .val (.ref b14), .val (.int st), .val (.int en), .val (.int rl), .val (.int cv), .val (.ref b26), .unset, .unset] [(.ref b14), (.ref b26)])) _
          refine st48.trans ?_
          exact k
        have f50 := (((f27.ext E26).keep K30 (ninS ne_b1_b26 nin0)).keep K48 nin0)
        have o51 : Old Z n0 T48.heap := (Old.keep o47 K48 all0)
        exact own_tail p1 p2 p3 p4 p5 p6 st en (0 : Int32) rl cv c0 c1 c2 c3 0 0 0 0 0 0 0 0 b1 b14 b26 sa48 sb48 sk48 k1 [] cs wf X48 hx hZ hw hby hml hown rfl o51 N48 hS hk hC hh Bd.returns Bd.notSynchronized (by decide) (by decide) G0 (hnn.trans pq11) Qe48 Qc48 Qv48 Qa48 f50 (Or.inl (by decide)) (Or.inl (by decide)) (Or.inl (by decide)) (Or.inl (by decide)) g49
      · have pq10 := hc31
        have pq11 := hc42
        have pq12 := hc33
        have f52 := ((Qe18.ext E26).keep K30)
        have f53 := ((Qc18.ext E26).keep K30 (ninS ne_b14_b26 nin0))
        have f54 := ((Va18.ext E26).keep K30 (ninS ne_rb18_b26 nin0))
        have f55 := ((Qv18.ext E26).keep K30 (ninS ne_b14_b26 nin0))
        have o56 : Old Z n0 T30.heap := (Old.keep o29 K30 (allS gz_b26 all0))
        obtain ⟨cq57, kq57, q57a, q57b, q57c⟩ := isOf hZ rfl Q30_0
        obtain ⟨_, _, ⟨T57, L57, k57, n57⟩, -, X57, ⟨Lc57, hQ57, l57, y57, z57⟩, st57⟩ := X30.virtualBack hx (y := own_y15) (z := own_y15) hown (mvT hZ (own_w hw 58 rfl)) (mvT hZ (own_w hw 59 rfl)) (notFace_of_selects (args := #[]) (mvT hZ (own_w hw 61 rfl))) (mvT hZ (own_w hw 61 rfl)) (mvT hZ (own_w hw 60 rfl)) (by decide) (backOf (W := 0) (rmA27 l Z a0 hw [] b26 (en) (st) b14 rb18 rk18 ((c0.toInt8.toInt32)) ((c1.toInt8.toInt32)) ((c2.toInt8.toInt32)) ((c3.toInt8.toInt32)) nn cs wf T30.heap n0 o56 G0 Q30_0 Q30_2 Q30_1 f52 f53 f54 f55  pq1 pq2 pq3 pq4 pq5 pq6 pq7 pq8 pq9 pq10 pq11 pq12) hZ (own_w hw 62 rfl) (own_w hw 34 rfl) (by decide) (by decide)) q57a q57c (g := (mkF m 139 #[.val (.int p1), .val (.int p2), .val (.int p3), .val (.int p4), .val (.int p5), .val (.int p6), .val (.ref b1), .val (.ref b14), .val (.int st), .val (.int en), .val (.int rl), .val (.int cv), .val (.ref b26), .unset, .unset] [(.ref b14), (.ref b26)])) rfl (by rw [hml]; rfl) (Steps.refl _) (argsL := [(.ref b14)]) (rest := []) (lenOf own_pd18 rfl) rfl (by show 2 * 0 + _ ≤ _; exact Nat.le_of_eq rfl) (hb hby at_139) (fun _ _ => ⟨rfl, rfl, (by decide : 4 + 2 ≤ _), (by decide : 19 + 8 ≤ _)⟩)
        dsimp only [Pt.U, Pt.locs, Pt.cells, Pt.slots] at X57 l57 y57 z57 st57 hQ57
        subst l57 y57 z57
        obtain ⟨sa57, sb57, sk57, rfl, Nq57, K57, hba57, hbb57, Qe57, Qc57, Qv57, Qa57⟩ := hQ57
        have sf_b14 := Safe.keep K57 sf0 hC.1 sf_b14
        have hC := hC.trans (CHr.keep K57 sf0 hC.1)
        have hk := Nat.le_trans hk K57.1
        have N57 := Fr.app N30 Nq57
        have sz_sa57 : h0.size ≤ sa57 := Nat.le_trans (Nat.le_trans (Nat.le_trans (Nat.le_trans (Nat.le_trans (Nat.le_trans (Nat.le_trans (Nat.le_trans (Nat.le_trans E1.1 (Keep.of_wr W4).1) (Keep.of_wr W7).1) (Keep.of_wr W10).1) (Keep.of_wr W13).1) E14.1) K18.1) E26.1) K30.1) hba57
        have gz_sa57 : n0 ≤ sa57 := Nat.le_trans Z0 sz_sa57
        have ne_b1_sa57 : b1 ≠ sa57 := Nat.ne_of_lt (Nat.lt_of_lt_of_le ((f27.ext E26).keep K30 (ninS ne_b1_b26 nin0)).lt hba57)
        have ne_b14_sa57 : b14 ≠ sa57 := Nat.ne_of_lt (Nat.lt_of_lt_of_le f52.lt hba57)
        have ne_b26_sa57 : b26 ≠ sa57 := Nat.ne_of_lt (Nat.lt_of_lt_of_le Q30_0.lt hba57)
        have ne_rb18_sa57 : rb18 ≠ sa57 := Nat.ne_of_lt (Nat.lt_of_lt_of_le f54.lt hba57)
        have sz_sb57 : h0.size ≤ sb57 := Nat.le_trans (Nat.le_trans (Nat.le_trans (Nat.le_trans (Nat.le_trans (Nat.le_trans (Nat.le_trans (Nat.le_trans (Nat.le_trans E1.1 (Keep.of_wr W4).1) (Keep.of_wr W7).1) (Keep.of_wr W10).1) (Keep.of_wr W13).1) E14.1) K18.1) E26.1) K30.1) hbb57
        have gz_sb57 : n0 ≤ sb57 := Nat.le_trans Z0 sz_sb57
        have ne_b1_sb57 : b1 ≠ sb57 := Nat.ne_of_lt (Nat.lt_of_lt_of_le ((f27.ext E26).keep K30 (ninS ne_b1_b26 nin0)).lt hbb57)
        have ne_b14_sb57 : b14 ≠ sb57 := Nat.ne_of_lt (Nat.lt_of_lt_of_le f52.lt hbb57)
        have ne_b26_sb57 : b26 ≠ sb57 := Nat.ne_of_lt (Nat.lt_of_lt_of_le Q30_0.lt hbb57)
        have ne_rb18_sb57 : rb18 ≠ sb57 := Nat.ne_of_lt (Nat.lt_of_lt_of_le f54.lt hbb57)
        have g58 : ∀ t, Steps p.tables e below (T57.setTop (mkF m 142 #[.val (.int p1), .val (.int p2), .val (.int p3), .val (.int p4), .val (.int p5), .val (.int p6), .val (.ref b1), .val (.ref b14), .val (.int st), .val (.int en), .val (.int rl), .val (.int cv), .val (.ref b26), .unset, .unset] [(.ref sa57)])) t → Steps p.tables e below (s₁.setTop (entryFrame m #[(.int p1), (.int p2), (.int p3), (.int p4), (.int p5), (.int p6)] maxLocals)) t := by
          intro t k
          refine g32 t ?_
          show Steps p.tables e below (T30.setTop (mkF m 139 #[.val (.int p1), .val (.int p2), .val (.int p3), .val (.int p4), .val (.int p5), .val (.int p6), .val (.ref b1), .val (.ref b14), .val (.int st), .val (.int en), .val (.int rl), .val (.int cv), .val (.ref b26), .unset, .unset] [(.ref b14), (.ref b26)])) _
          refine st57.trans ?_
          exact k
        have f59 := (((f27.ext E26).keep K30 (ninS ne_b1_b26 nin0)).keep K57 nin0)
        have o60 : Old Z n0 T57.heap := (Old.keep o56 K57 all0)
        exact own_tail p1 p2 p3 p4 p5 p6 st en nn rl cv c0 c1 c2 c3 bb0 bb1 bb2 bb3 dd0 dd1 dd2 dd3 b1 b14 b26 sa57 sb57 sk57 k1 (own_bsub [(.int (c0.toInt8.toInt32)), (.int (c1.toInt8.toInt32)), (.int (c2.toInt8.toInt32)), (.int (c3.toInt8.toInt32))] st nn) cs wf X57 hx hZ hw hby hml hown rfl o60 N57 hS hk hC hh Bd.returns Bd.notSynchronized (by decide) (by decide) G0 hnn Qe57 Qc57 Qv57 Qa57 f59 hdd0 hdd1 hdd2 hdd3 g58
  · by_cases hc61 : nn = (0 : Int32)
    · have pq10 := hc31
      have pq11 := hc61
      have f62 := ((Qe18.ext E26).keep K30)
      have f63 := ((Qc18.ext E26).keep K30 (ninS ne_b14_b26 nin0))
      have f64 := ((Va18.ext E26).keep K30 (ninS ne_rb18_b26 nin0))
      have f65 := ((Qv18.ext E26).keep K30 (ninS ne_b14_b26 nin0))
      have o66 : Old Z n0 T30.heap := (Old.keep o29 K30 (allS gz_b26 all0))
      obtain ⟨cq67, kq67, q67a, q67b, q67c⟩ := isOf hZ rfl Q30_0
      obtain ⟨_, _, ⟨T67, L67, k67, n67⟩, -, X67, hSn67, hgn67, ⟨Lc67, hQ67, l67, y67, z67, C67⟩, st67⟩ := X30.virtualBackS hx (y := own_y15) (z := own_y15) hown (mvT hZ (own_w hw 58 rfl)) (mvT hZ (own_w hw 59 rfl)) (notFace_of_selects (args := #[]) (mvT hZ (own_w hw 61 rfl))) (mvT hZ (own_w hw 61 rfl)) (mvT hZ (own_w hw 60 rfl)) (by decide) (backOfSH (s := s) (vm0 := s.vm) (W := 0) (rmA35 l Z a0 hw [] b26 (en) (st) b14 rb18 rk18 ((c0.toInt8.toInt32)) ((c1.toInt8.toInt32)) ((c2.toInt8.toInt32)) ((c3.toInt8.toInt32)) nn cs wf T30.heap n0 o66 G0 Q30_0 Q30_2 Q30_1 f62 f63 f64 f65  pq1 pq2 pq3 pq4 pq5 pq6 pq7 pq8 pq9 pq10 pq11) hZ (own_w hw 62 rfl) (own_w hw 34 rfl) (by decide) (by decide) (own_EW hw) hC.1) q67a q67c (g := (mkF m 139 #[.val (.int p1), .val (.int p2), .val (.int p3), .val (.int p4), .val (.int p5), .val (.int p6), .val (.ref b1), .val (.ref b14), .val (.int st), .val (.int en), .val (.int rl), .val (.int cv), .val (.ref b26), .unset, .unset] [(.ref b14), (.ref b26)])) rfl (by rw [hml]; rfl) (Steps.refl _) (argsL := [(.ref b14)]) (rest := []) (lenOf own_pd18 rfl) rfl (by show 2 * 0 + _ ≤ _; exact Nat.le_of_eq rfl) (hb hby at_139) (fun _ _ => ⟨rfl, rfl, (by decide : 4 + 2 ≤ _), (by decide : 19 + 4 ≤ _)⟩)
      dsimp only [Pt.U, Pt.locs, Pt.cells, Pt.slots] at X67 l67 y67 z67 st67 hQ67 hSn67 hgn67 C67
      subst l67 y67 z67
      have hS := foldS hS hk hSn67 hgn67
      have hk := Nat.le_refl T67.heap.size
      have hZ : Z.Warmed39 T67.vm := State.Warmed39.trans (t := s.setVm s.vm) hZ hSn67.1
      have hown : T67.vm.findClass "com/example/momus/momus/model/FormatSpecifierTextPinLaw" = some m.cls := by rw [hSn67.1.alike.findClass]; exact hown
      have hC := hC.trans C67
      obtain ⟨sa67, sb67, sk67, rfl, Nq67, K67, Qe67, Qc67, Qv67, Qa67⟩ := hQ67
      have N67 := Fr.app N30 Nq67
      have g68 : ∀ t, Steps p.tables e below (T67.setTop (mkF m 142 #[.val (.int p1), .val (.int p2), .val (.int p3), .val (.int p4), .val (.int p5), .val (.int p6), .val (.ref b1), .val (.ref b14), .val (.int st), .val (.int en), .val (.int rl), .val (.int cv), .val (.ref b26), .unset, .unset] [(.ref sa67)])) t → Steps p.tables e below (s₁.setTop (entryFrame m #[(.int p1), (.int p2), (.int p3), (.int p4), (.int p5), (.int p6)] maxLocals)) t := by
        intro t k
        refine g32 t ?_
        show Steps p.tables e below (T30.setTop (mkF m 139 #[.val (.int p1), .val (.int p2), .val (.int p3), .val (.int p4), .val (.int p5), .val (.int p6), .val (.ref b1), .val (.ref b14), .val (.int st), .val (.int en), .val (.int rl), .val (.int cv), .val (.ref b26), .unset, .unset] [(.ref b14), (.ref b26)])) _
        refine st67.trans ?_
        exact k
      have f69 := (((f27.ext E26).keep K30 (ninS ne_b1_b26 nin0)).keep K67 nin0)
      have o70 : Old Z n0 T67.heap := (Old.keep o66 K67 all0)
      exact own_tail p1 p2 p3 p4 p5 p6 st en (0 : Int32) rl cv c0 c1 c2 c3 0 0 0 0 0 0 0 0 b1 b14 b26 sa67 sb67 sk67 k1 [] cs wf X67 hx hZ hw hby hml hown rfl o70 N67 hS hk hC hh Bd.returns Bd.notSynchronized (by decide) (by decide) G0 (hnn.trans pq11) Qe67 Qc67 Qv67 Qa67 f69 (Or.inl (by decide)) (Or.inl (by decide)) (Or.inl (by decide)) (Or.inl (by decide)) g68
    · have pq10 := hc31
      have pq11 := hc61
      have f71 := ((Qe18.ext E26).keep K30)
      have f72 := ((Qc18.ext E26).keep K30 (ninS ne_b14_b26 nin0))
      have f73 := ((Va18.ext E26).keep K30 (ninS ne_rb18_b26 nin0))
      have f74 := ((Qv18.ext E26).keep K30 (ninS ne_b14_b26 nin0))
      have o75 : Old Z n0 T30.heap := (Old.keep o29 K30 (allS gz_b26 all0))
      obtain ⟨cq76, kq76, q76a, q76b, q76c⟩ := isOf hZ rfl Q30_0
      obtain ⟨_, _, ⟨T76, L76, k76, n76⟩, -, X76, ⟨Lc76, hQ76, l76, y76, z76⟩, st76⟩ := X30.virtualBack hx (y := own_y15) (z := own_y15) hown (mvT hZ (own_w hw 58 rfl)) (mvT hZ (own_w hw 59 rfl)) (notFace_of_selects (args := #[]) (mvT hZ (own_w hw 61 rfl))) (mvT hZ (own_w hw 61 rfl)) (mvT hZ (own_w hw 60 rfl)) (by decide) (backOf (W := 0) (rmA38 l Z a0 hw [] b26 (en) (st) b14 rb18 rk18 ((c0.toInt8.toInt32)) ((c1.toInt8.toInt32)) ((c2.toInt8.toInt32)) ((c3.toInt8.toInt32)) nn cs wf T30.heap n0 o75 G0 Q30_0 Q30_2 Q30_1 f71 f72 f73 f74  pq1 pq2 pq3 pq4 pq5 pq6 pq7 pq8 pq9 pq10 pq11) hZ (own_w hw 62 rfl) (own_w hw 34 rfl) (by decide) (by decide)) q76a q76c (g := (mkF m 139 #[.val (.int p1), .val (.int p2), .val (.int p3), .val (.int p4), .val (.int p5), .val (.int p6), .val (.ref b1), .val (.ref b14), .val (.int st), .val (.int en), .val (.int rl), .val (.int cv), .val (.ref b26), .unset, .unset] [(.ref b14), (.ref b26)])) rfl (by rw [hml]; rfl) (Steps.refl _) (argsL := [(.ref b14)]) (rest := []) (lenOf own_pd18 rfl) rfl (by show 2 * 0 + _ ≤ _; exact Nat.le_of_eq rfl) (hb hby at_139) (fun _ _ => ⟨rfl, rfl, (by decide : 4 + 2 ≤ _), (by decide : 19 + 8 ≤ _)⟩)
      dsimp only [Pt.U, Pt.locs, Pt.cells, Pt.slots] at X76 l76 y76 z76 st76 hQ76
      subst l76 y76 z76
      obtain ⟨sa76, sb76, sk76, rfl, Nq76, K76, hba76, hbb76, Qe76, Qc76, Qv76, Qa76⟩ := hQ76
      have sf_b14 := Safe.keep K76 sf0 hC.1 sf_b14
      have hC := hC.trans (CHr.keep K76 sf0 hC.1)
      have hk := Nat.le_trans hk K76.1
      have N76 := Fr.app N30 Nq76
      have sz_sa76 : h0.size ≤ sa76 := Nat.le_trans (Nat.le_trans (Nat.le_trans (Nat.le_trans (Nat.le_trans (Nat.le_trans (Nat.le_trans (Nat.le_trans (Nat.le_trans E1.1 (Keep.of_wr W4).1) (Keep.of_wr W7).1) (Keep.of_wr W10).1) (Keep.of_wr W13).1) E14.1) K18.1) E26.1) K30.1) hba76
      have gz_sa76 : n0 ≤ sa76 := Nat.le_trans Z0 sz_sa76
      have ne_b1_sa76 : b1 ≠ sa76 := Nat.ne_of_lt (Nat.lt_of_lt_of_le ((f27.ext E26).keep K30 (ninS ne_b1_b26 nin0)).lt hba76)
      have ne_b14_sa76 : b14 ≠ sa76 := Nat.ne_of_lt (Nat.lt_of_lt_of_le f71.lt hba76)
      have ne_b26_sa76 : b26 ≠ sa76 := Nat.ne_of_lt (Nat.lt_of_lt_of_le Q30_0.lt hba76)
      have ne_rb18_sa76 : rb18 ≠ sa76 := Nat.ne_of_lt (Nat.lt_of_lt_of_le f73.lt hba76)
      have sz_sb76 : h0.size ≤ sb76 := Nat.le_trans (Nat.le_trans (Nat.le_trans (Nat.le_trans (Nat.le_trans (Nat.le_trans (Nat.le_trans (Nat.le_trans (Nat.le_trans E1.1 (Keep.of_wr W4).1) (Keep.of_wr W7).1) (Keep.of_wr W10).1) (Keep.of_wr W13).1) E14.1) K18.1) E26.1) K30.1) hbb76
      have gz_sb76 : n0 ≤ sb76 := Nat.le_trans Z0 sz_sb76
      have ne_b1_sb76 : b1 ≠ sb76 := Nat.ne_of_lt (Nat.lt_of_lt_of_le ((f27.ext E26).keep K30 (ninS ne_b1_b26 nin0)).lt hbb76)
      have ne_b14_sb76 : b14 ≠ sb76 := Nat.ne_of_lt (Nat.lt_of_lt_of_le f71.lt hbb76)
      have ne_b26_sb76 : b26 ≠ sb76 := Nat.ne_of_lt (Nat.lt_of_lt_of_le Q30_0.lt hbb76)
      have ne_rb18_sb76 : rb18 ≠ sb76 := Nat.ne_of_lt (Nat.lt_of_lt_of_le f73.lt hbb76)
      have g77 : ∀ t, Steps p.tables e below (T76.setTop (mkF m 142 #[.val (.int p1), .val (.int p2), .val (.int p3), .val (.int p4), .val (.int p5), .val (.int p6), .val (.ref b1), .val (.ref b14), .val (.int st), .val (.int en), .val (.int rl), .val (.int cv), .val (.ref b26), .unset, .unset] [(.ref sa76)])) t → Steps p.tables e below (s₁.setTop (entryFrame m #[(.int p1), (.int p2), (.int p3), (.int p4), (.int p5), (.int p6)] maxLocals)) t := by
        intro t k
        refine g32 t ?_
        show Steps p.tables e below (T30.setTop (mkF m 139 #[.val (.int p1), .val (.int p2), .val (.int p3), .val (.int p4), .val (.int p5), .val (.int p6), .val (.ref b1), .val (.ref b14), .val (.int st), .val (.int en), .val (.int rl), .val (.int cv), .val (.ref b26), .unset, .unset] [(.ref b14), (.ref b26)])) _
        refine st76.trans ?_
        exact k
      have f78 := (((f27.ext E26).keep K30 (ninS ne_b1_b26 nin0)).keep K76 nin0)
      have o79 : Old Z n0 T76.heap := (Old.keep o75 K76 all0)
      exact own_tail p1 p2 p3 p4 p5 p6 st en nn rl cv c0 c1 c2 c3 bb0 bb1 bb2 bb3 dd0 dd1 dd2 dd3 b1 b14 b26 sa76 sb76 sk76 k1 (own_bsub [(.int (c0.toInt8.toInt32)), (.int (c1.toInt8.toInt32)), (.int (c2.toInt8.toInt32)), (.int (c3.toInt8.toInt32))] st nn) cs wf X76 hx hZ hw hby hml hown rfl o79 N76 hS hk hC hh Bd.returns Bd.notSynchronized (by decide) (by decide) G0 hnn Qe76 Qc76 Qv76 Qa76 f78 hdd0 hdd1 hdd2 hdd3 g77
set_option maxRecDepth 65536 in
set_option maxHeartbeats 40000000 in
theorem comes_1 {Post : Tables → Env → Array Value → State → Outcome → State → Prop} (hpost : ∀ tb e args s v u, (limb_1_1.after args s (.returned v) u = true ∧ limb_1_2.after args s (.returned v) u = true ∧ True) → ReturnedEndW s (.returned v) u (Jvm.fieldLocs frame_1_writes args s ++ Jvm.arrayLocs frame_1_arrays args s ++ Jvm.staticLocs frame_1_statics s) 24 1152 → Post tb e args s (.returned v) u) :
    ArmFor flags0 classFile x code maxLocals ret World_1 tables_1 room_1 Calls_1 rest_1 Pre_1 Post := by
  intro l hfl _ _ p e ha hc hk s m args below hf hA hF happ hP
  obtain ⟨hcalls, hrest, hpre⟩ := hP
  obtain ⟨-, -, -, hnamed, -, -, -, hat⟩ := (Spec.applies_iff hf).mp happ
  obtain ⟨hg, hn⟩ := and_e (Cond.before_iff.mp (show (Jvm.Cond.and given_1 narrow_1).before args s = true from hpre))
  obtain ⟨h0a, h0b⟩ := and_e hg
  obtain ⟨h1a, h1b⟩ := and_e h0b
  obtain ⟨h2a, h2b⟩ := and_e h1b
  obtain ⟨h3a, h3b⟩ := and_e h2b
  obtain ⟨h4a, h4b⟩ := and_e h3b
  obtain ⟨h5a, h5b⟩ := and_e h4b
  obtain ⟨w0, w1, w2, w3, w4, w5, rfl⟩ : ∃ w0 w1 w2 w3 w4 w5 : Value, args = #[w0, w1, w2, w3, w4, w5] := by
    have hs : args.size = 6 := by simpa [Cond.value, given_1] using h0a
    obtain ⟨L⟩ := args
    match L, hs with
    | [w0, w1, w2, w3, w4, w5], _ => exact ⟨w0, w1, w2, w3, w4, w5, rfl⟩
  have hw := fun d (hd : d ∈ tables_1) => atoms_spec (ws := Jvm.Cond.code x code maxLocals ret :: tables_1) hat d (List.mem_cons_of_mem _ hd)
  obtain ⟨hsets, hown0⟩ := atoms_of _ (rest_1_c_eq ▸ (show rest_1_c.before _ s = true from hrest))
  have hr0 := Cond.before_iff.mp hown0
  obtain ⟨i0, ei0⟩ := is_v h1a
  obtain rfl : w0 = (.int i0) := Option.some.inj ei0
  obtain ⟨i1, ei1⟩ := is_v h2a
  obtain rfl : w1 = (.int i1) := Option.some.inj ei1
  obtain ⟨i2, ei2⟩ := is_v h3a
  obtain rfl : w2 = (.int i2) := Option.some.inj ei2
  obtain ⟨i3, ei3⟩ := is_v h4a
  obtain rfl : w3 = (.int i3) := Option.some.inj ei3
  obtain ⟨i4, ei4⟩ := is_v h5a
  obtain rfl : w4 = (.int i4) := Option.some.inj ei4
  obtain ⟨i5, ei5⟩ := is_v h5b
  obtain rfl : w5 = (.int i5) := Option.some.inj ei5
  have hCH : CHv s own_EL s.vm s.heap := CHv.start (own_EW hw) (fun q hq => hcalls.1 q (own_sub q hq)) (hsets _ (List.mem_of_getElem? (i := 2) rfl)) (own_w hw 19 rfl) (own_w hw 2 rfl)
  obtain ⟨cs, ecs⟩ := is_v (Cond.before_iff.mp (hsets _ (List.mem_of_getElem? (i := 1) rfl)))
  have S_CS := Sta.start ecs (Or.inl (hsets _ (List.mem_of_getElem? (i := 0) rfl)))
  have hcs : ¬ (cs = (0 : Int32)) := gotF (Cond.eq_ints ecs (Term.int_eval 0)) (not_v (Cond.before_iff.mp (hsets _ (List.mem_of_getElem? (i := 2) rfl))))
  obtain ⟨wf, ewf, hwf0⟩ := isR_v (Cond.before_iff.mp (hsets _ (List.mem_of_getElem? (i := 8) rfl)))
  have S_WF := Sta.start ewf (Or.inl (hsets _ (List.mem_of_getElem? (i := 7) rfl)))
  have hwf := ref_cases hwf0
  obtain ⟨n, o, h1, h2, h3, _, L, rfl, ⟨rfl, N⟩, -, hq⟩ := rm0 l s _ hw tables_1 i0 i1 i2 i3 i4 i5 cs wf s.heap s.heap.size (Old.start s) ⟨S_CS, hcs, S_WF, hwf⟩ p e ha hc hk s m _ below hf ((Spec.applies_iff_loose hf).mp happ).1 ⟨rfl, State.Warmed39.refl s, rfl, hCH⟩ trivial
  refine ⟨n, _, h1, h2, h3, hpost _ _ _ _ _ _ ⟨Cond.after_iff.mpr rfl, Cond.after_iff.mpr (eq_i res_at (Term.int_eval (1)) rfl), trivial⟩ ⟨hq.1, hq.2.1, hq.2.2.1, (hq.2.2.2.sift fun y hy => Or.inr (N y hy)).mono (by decide) (by decide)⟩⟩
theorem main_1_1 : Claimed_1_1 := comes_1 fun _ _ _ _ _ _ h hF => ⟨h.1, hF⟩
theorem main_1_2 : Claimed_1_2 := comes_1 fun _ _ _ _ _ _ h hF => ⟨h.2.1, hF⟩
end Jvm.Pilot.@@N@@
namespace Jvm.Pilot.@@N@@
open Jvm Jvm.ClassFile Sem Op Lib Jvm.Free Jvm.Stand Jvm.Pilot.@@N@@.Jvm.D
/-! MADE BY PROGRAM (witnessworld.py) out of the Statement's table words and the real class files: 24 classes; the members and pool entries that the words name. The judged class is class 1, her method 2. -/
namespace start1
open Jvm.ClassFile
def u (s : String) : CpInfo := .utf8 (stringToUtf16 s)
/-- a pool by its gaps: so many unusable entries, then the entry; so many at the end -/
def gap : Nat → List CpInfo → List CpInfo
  | 0, r => r
  | n + 1, r => .unusable :: gap n r
def poolList (es : List (Nat × CpInfo)) (last : Nat) : List CpInfo := es.foldr (fun e r => gap e.1 (e.2 :: r)) (gap last [])
def pool (es : List (Nat × CpInfo)) (last : Nat) : Array CpInfo := ⟨poolList es last⟩
def fileOf (pool : Array CpInfo) (this : Nat) (attrs : Array Attribute := #[]) (ms : Array MethodInfo := #[]) (fl : Nat := 33) (sup : Nat := 0) (ifs : Array Nat := #[]) (fds : Array FieldInfo := #[]) : ClassFile where
  minorVersion := 0
  majorVersion := 65
  constantPool := pool
  accessFlags := fl
  thisClass := this
  superClass := sup
  interfaces := ifs
  fields := fds
  methods := ms
  attributes := attrs
def plain (name : String) (sup : Option ClassId) : Class where
  name := name
  kind := .ordinary
  loader := none
  accessFlags := 33
  super := sup
  interfaces := #[]
  cf := none
  fields := #[]
  methods := #[]
  instanceTypes := #[]
  staticTypes := #[]
  resolved := #[]
  callSites := []
  init := .initialized
  statics := none
  mirror := none

def pool0 : Array CpInfo := pool [(5, u "<init>"), (0, u "()V"), (1, .class_ 10), (1, u "java/lang/Object")] 113

def k0c0 : Code := { maxStack := 0, maxLocals := 1, code := object_method_1_code, exceptionTable := #[], attributes := #[] }
def k0m0 : Method := { name := "<init>", desc := "()V", sig := { parameters := [], returnType := none }, accessFlags := 1, code := some k0c0 }
/-- java/lang/Object -/
def k0 : Class := { plain "java/lang/Object" none with
  accessFlags := 33
  interfaces := #[]
  cf := some (fileOf pool0 8 #[] #[{ accessFlags := 1, nameIndex := 5, descriptorIndex := 6, attributes := #[] }] 33 0 #[] #[])
  fields := #[]
  methods := #[k0m0]
  instanceTypes := #[]
  staticTypes := #[]
  resolved := Array.replicate 124 none
  statics := none }

def pool1 : Array CpInfo := pool [(2, .class_ 4), (1, u "java/lang/Object"), (0, u "<init>"), (0, u "()V"), (0, .methodref 8 9), (0, .class_ 10), (0, .nameAndType 11 12), (0, u "java/lang/String"), (0, u "charAt"), (0, u "(I)C"), (0, .methodref 8 14), (0, .nameAndType 5 15), (0, u "([C)V"), (0, .integer 2147483647), (0, .integer 65535), (0, .class_ 19), (0, u "com/example/momus/momus/model/FormatSpecifier"), (0, .methodref 18 21), (0, .nameAndType 5 22), (0, u "(IIZIICI)V"), (0, .methodref 18 24), (0, .nameAndType 25 26), (0, u "text"), (0, u "(Ljava/lang/String;)Ljava/lang/String;"), (0, .methodref 8 28), (0, .nameAndType 29 30), (0, u "length"), (0, u "()I"), (0, .methodref 32 33), (0, .class_ 34), (0, .nameAndType 35 36), (0, u "com/example/momus/momus/model/FormatSpecifierTextPinLaw"), (0, u "same"), (0, u "(Ljava/lang/String;I[CII)Z"), (3, u "law"), (0, u "(IIIIII)Z")] 4

def k1m0 : Method := { name := "<init>", desc := "()V", sig := { parameters := [], returnType := none }, accessFlags := 2, code := none }
def k1c1 : Code := { maxStack := 4, maxLocals := 5, code := method_2_code, exceptionTable := #[], attributes := #[] }
def k1m1 : Method := { name := "same", desc := "(Ljava/lang/String;I[CII)Z", sig := { parameters := [(.object "java/lang/String"), .int, (.array .char), .int, .int], returnType := some .boolean }, accessFlags := 10, code := some k1c1 }
def k1c2 : Code := { maxStack := 9, maxLocals := 15, code := code, exceptionTable := #[], attributes := #[] }
def k1m2 : Method := { name := "law", desc := "(IIIIII)Z", sig := { parameters := [.int, .int, .int, .int, .int, .int], returnType := some .boolean }, accessFlags := 9, code := some k1c2 }
/-- com/example/momus/momus/model/FormatSpecifierTextPinLaw -/
def k1 : Class := { plain "com/example/momus/momus/model/FormatSpecifierTextPinLaw" (some 0) with
  accessFlags := 49
  interfaces := #[]
  cf := some (fileOf pool1 32 #[] #[{ accessFlags := 2, nameIndex := 5, descriptorIndex := 6, attributes := #[] }, { accessFlags := 10, nameIndex := 35, descriptorIndex := 36, attributes := #[] }, { accessFlags := 9, nameIndex := 40, descriptorIndex := 41, attributes := #[] }] 49 2 #[] #[])
  fields := #[]
  methods := #[k1m0, k1m1, k1m2]
  instanceTypes := #[]
  staticTypes := #[]
  resolved := Array.replicate 46 none
  statics := none }

def pool2 : Array CpInfo := pool [(1, .class_ 2), (0, u "java/io/Serializable"), (0, .class_ 4), (0, u "java/lang/Object")] 2

/-- java/io/Serializable -/
def k2 : Class := { plain "java/io/Serializable" (some 0) with
  accessFlags := 1537
  interfaces := #[]
  cf := some (fileOf pool2 1 #[] #[] 1537 3 #[] #[])
  fields := #[]
  methods := #[]
  instanceTypes := #[]
  staticTypes := #[]
  resolved := Array.replicate 7 none
  statics := none }

def pool3 : Array CpInfo := pool [(1, .class_ 2), (0, u "java/lang/Comparable"), (0, .class_ 4), (0, u "java/lang/Object")] 7

/-- java/lang/Comparable -/
def k3 : Class := { plain "java/lang/Comparable" (some 0) with
  accessFlags := 1537
  interfaces := #[]
  cf := some (fileOf pool3 1 #[] #[] 1537 3 #[] #[])
  fields := #[]
  methods := #[]
  instanceTypes := #[]
  staticTypes := #[]
  resolved := Array.replicate 12 none
  statics := none }

def pool4 : Array CpInfo := pool [(2, .class_ 4), (1, u "java/lang/CharSequence"), (42, .class_ 48), (0, u "java/lang/CharSequence$1CodePointIterator"), (10, .class_ 60), (0, u "java/lang/CharSequence$1CharIterator"), (5, .class_ 67), (0, u "java/lang/Object")] 63

/-- java/lang/CharSequence -/
def k4 : Class := { plain "java/lang/CharSequence" (some 0) with
  accessFlags := 1537
  interfaces := #[]
  cf := some (fileOf pool4 2 #[.nestMembers #[47, 59]] #[] 1537 66 #[] #[])
  fields := #[]
  methods := #[]
  instanceTypes := #[]
  staticTypes := #[]
  resolved := Array.replicate 131 none
  statics := none }

def pool5 : Array CpInfo := pool [(1, .class_ 2), (0, u "java/lang/constant/Constable"), (0, .class_ 4), (0, u "java/lang/Object")] 6

/-- java/lang/constant/Constable -/
def k5 : Class := { plain "java/lang/constant/Constable" (some 0) with
  accessFlags := 1537
  interfaces := #[]
  cf := some (fileOf pool5 1 #[] #[] 1537 3 #[] #[])
  fields := #[]
  methods := #[]
  instanceTypes := #[]
  staticTypes := #[]
  resolved := Array.replicate 11 none
  statics := none }

def pool6 : Array CpInfo := pool [(1, .class_ 2), (0, u "java/lang/constant/ConstantDesc"), (0, .class_ 4), (0, u "java/lang/Object")] 32

/-- java/lang/constant/ConstantDesc -/
def k6 : Class := { plain "java/lang/constant/ConstantDesc" (some 0) with
  accessFlags := 1537
  interfaces := #[]
  cf := some (fileOf pool6 1 #[] #[] 1537 3 #[] #[])
  fields := #[]
  methods := #[]
  instanceTypes := #[]
  staticTypes := #[]
  resolved := Array.replicate 37 none
  statics := none }

def pool7 : Array CpInfo := pool [(1, .methodref 2 3), (0, .class_ 4), (0, .nameAndType 5 6), (0, u "java/lang/Object"), (0, u "<init>"), (0, u "()V"), (2, .fieldref 10 11), (0, .class_ 12), (0, .nameAndType 13 14), (0, u "java/lang/String"), (0, u "value"), (0, u "[B"), (0, .fieldref 10 16), (0, .nameAndType 17 18), (0, u "coder"), (0, u "B"), (2, u "hash"), (0, u "I"), (2, u "hashIsZero"), (0, u "Z"), (0, .methodref 10 28), (0, .nameAndType 5 29), (0, u "([CIILjava/lang/Void;)V"), (8, .fieldref 10 39), (0, .nameAndType 40 26), (0, u "COMPACT_STRINGS"), (1, .class_ 44), (1, u "java/lang/StringUTF16"), (0, u "compress"), (1, .methodref 42 48), (0, .nameAndType 49 50), (0, u "coderFromArrayLen"), (0, u "([BI)B"), (56, .class_ 109), (1, u "java/lang/StringLatin1"), (32, u "()Z"), (34, .methodref 42 178), (0, .nameAndType 45 179), (0, u "([CII)[B"), (31, u "([BB)V"), (122, u "()I"), (0, .methodref 10 336), (0, .nameAndType 17 337), (0, u "()B"), (25, u "([BI)C"), (27, u "(II)V"), (35, u "(I)C"), (64, .methodref 10 493), (0, .nameAndType 494 142), (0, u "isLatin1"), (0, .methodref 107 496), (0, .nameAndType 497 363), (0, u "charAt"), (3, u "checkIndex"), (3, .methodref 10 506), (0, .nameAndType 507 334), (0, u "length"), (5, u "checkFromToIndex"), (7, .methodref 10 522), (0, .nameAndType 523 524), (0, u "checkBoundsBeginEnd"), (0, u "(III)V"), (50, .class_ 576), (0, u "java/lang/CharSequence"), (22, u "CASE_INSENSITIVE_ORDER"), (0, u "Ljava/util/Comparator;"), (82, u "substring"), (0, u "(II)Ljava/lang/String;"), (0, .methodref 107 686), (0, .nameAndType 687 688), (0, u "newString"), (0, u "([BII)Ljava/lang/String;"), (321, u "([C)V"), (42, .fieldref 1054 1055), (0, .class_ 1056), (0, .nameAndType 1057 1058), (0, u "jdk/internal/util/Preconditions"), (0, u "SIOOBE_FORMATTER"), (0, u "Ljava/util/function/BiFunction;"), (0, .methodref 1054 1060), (0, .nameAndType 501 1061), (0, u "(IILjava/util/function/BiFunction;)I"), (0, .methodref 1054 1063), (0, .nameAndType 513 1064), (0, u "(IIILjava/util/function/BiFunction;)I"), (36, u "serialPersistentFields"), (0, u "[Ljava/io/ObjectStreamField;"), (0, .class_ 1104), (0, u "java/lang/String$CaseInsensitiveComparator"), (1, .class_ 1107), (0, u "java/io/Serializable"), (0, .class_ 1109), (0, u "java/lang/Comparable"), (0, .class_ 1111), (0, u "java/lang/constant/Constable"), (0, .class_ 1113), (0, u "java/lang/constant/ConstantDesc"), (2, u "serialVersionUID"), (0, u "J"), (3, u "REPL"), (0, u "C"), (2, u "LATIN1"), (1, u "UTF16")] 323

def k7m0 : Method := { name := "<init>", desc := "()V", sig := { parameters := [], returnType := none }, accessFlags := 1, code := none }
def k7c1 : Code := { maxStack := 5, maxLocals := 2, code := jdk_42_method_3_code, exceptionTable := #[], attributes := #[] }
def k7m1 : Method := { name := "<init>", desc := "([C)V", sig := { parameters := [(.array .char)], returnType := none }, accessFlags := 1, code := some k7c1 }
def k7c2 : Code := { maxStack := 2, maxLocals := 1, code := jdk_42_method_54_code, exceptionTable := #[], attributes := #[] }
def k7m2 : Method := { name := "length", desc := "()I", sig := { parameters := [], returnType := some .int }, accessFlags := 1, code := some k7c2 }
def k7c3 : Code := { maxStack := 2, maxLocals := 2, code := jdk_42_method_56_code, exceptionTable := #[], attributes := #[] }
def k7m3 : Method := { name := "charAt", desc := "(I)C", sig := { parameters := [.int], returnType := some .char }, accessFlags := 1, code := some k7c3 }
def k7c4 : Code := { maxStack := 3, maxLocals := 5, code := jdk_42_method_92_code, exceptionTable := #[], attributes := #[] }
def k7m4 : Method := { name := "substring", desc := "(II)Ljava/lang/String;", sig := { parameters := [.int, .int], returnType := some (.object "java/lang/String") }, accessFlags := 1, code := some k7c4 }
def k7c5 : Code := { maxStack := 4, maxLocals := 6, code := jdk_42_method_149_code, exceptionTable := #[], attributes := #[] }
def k7m5 : Method := { name := "<init>", desc := "([CIILjava/lang/Void;)V", sig := { parameters := [(.array .char), .int, .int, (.object "java/lang/Void")], returnType := none }, accessFlags := 2, code := some k7c5 }
def k7c6 : Code := { maxStack := 2, maxLocals := 3, code := jdk_42_method_151_code, exceptionTable := #[], attributes := #[] }
def k7m6 : Method := { name := "<init>", desc := "([BB)V", sig := { parameters := [(.array .byte), .byte], returnType := none }, accessFlags := 0, code := some k7c6 }
def k7c7 : Code := { maxStack := 1, maxLocals := 1, code := jdk_42_method_152_code, exceptionTable := #[], attributes := #[] }
def k7m7 : Method := { name := "coder", desc := "()B", sig := { parameters := [], returnType := some .byte }, accessFlags := 0, code := some k7c7 }
def k7c8 : Code := { maxStack := 1, maxLocals := 1, code := jdk_42_method_154_code, exceptionTable := #[], attributes := #[] }
def k7m8 : Method := { name := "isLatin1", desc := "()Z", sig := { parameters := [], returnType := some .boolean }, accessFlags := 0, code := some k7c8 }
def k7c9 : Code := { maxStack := 3, maxLocals := 2, code := jdk_42_method_155_code, exceptionTable := #[], attributes := #[] }
def k7m9 : Method := { name := "checkIndex", desc := "(II)V", sig := { parameters := [.int, .int], returnType := none }, accessFlags := 8, code := some k7c9 }
def k7c10 : Code := { maxStack := 4, maxLocals := 3, code := jdk_42_method_158_code, exceptionTable := #[], attributes := #[] }
def k7m10 : Method := { name := "checkBoundsBeginEnd", desc := "(III)V", sig := { parameters := [.int, .int, .int], returnType := none }, accessFlags := 8, code := some k7c10 }
/-- java/lang/String -/
def k7 : Class := { plain "java/lang/String" (some 0) with
  accessFlags := 49
  interfaces := #[2, 3, 4, 5, 6]
  cf := some (fileOf pool7 10 #[.nestMembers #[1103]] #[{ accessFlags := 1, nameIndex := 5, descriptorIndex := 6, attributes := #[] }, { accessFlags := 1, nameIndex := 5, descriptorIndex := 1010, attributes := #[] }, { accessFlags := 1, nameIndex := 507, descriptorIndex := 334, attributes := #[] }, { accessFlags := 1, nameIndex := 497, descriptorIndex := 427, attributes := #[] }, { accessFlags := 1, nameIndex := 683, descriptorIndex := 684, attributes := #[] }, { accessFlags := 2, nameIndex := 5, descriptorIndex := 29, attributes := #[] }, { accessFlags := 0, nameIndex := 5, descriptorIndex := 211, attributes := #[] }, { accessFlags := 0, nameIndex := 17, descriptorIndex := 337, attributes := #[] }, { accessFlags := 0, nameIndex := 494, descriptorIndex := 142, attributes := #[] }, { accessFlags := 8, nameIndex := 501, descriptorIndex := 391, attributes := #[] }, { accessFlags := 8, nameIndex := 523, descriptorIndex := 524, attributes := #[] }] 49 2 #[1106, 1108, 575, 1110, 1112] #[{ accessFlags := 18, nameIndex := 13, descriptorIndex := 14, attributes := #[] }, { accessFlags := 18, nameIndex := 17, descriptorIndex := 18, attributes := #[] }, { accessFlags := 2, nameIndex := 21, descriptorIndex := 22, attributes := #[] }, { accessFlags := 2, nameIndex := 25, descriptorIndex := 26, attributes := #[] }, { accessFlags := 26, nameIndex := 1116, descriptorIndex := 1117, attributes := #[] }, { accessFlags := 24, nameIndex := 40, descriptorIndex := 26, attributes := #[] }, { accessFlags := 26, nameIndex := 1101, descriptorIndex := 1102, attributes := #[] }, { accessFlags := 26, nameIndex := 1121, descriptorIndex := 1122, attributes := #[] }, { accessFlags := 25, nameIndex := 599, descriptorIndex := 600, attributes := #[] }, { accessFlags := 24, nameIndex := 1125, descriptorIndex := 18, attributes := #[] }, { accessFlags := 24, nameIndex := 1127, descriptorIndex := 18, attributes := #[] }])
  fields := #[{ name := "value", type := (.array .byte), accessFlags := 18, slot := 0, constantValue := 0 }, { name := "coder", type := .byte, accessFlags := 18, slot := 1, constantValue := 0 }, { name := "hash", type := .int, accessFlags := 2, slot := 2, constantValue := 0 }, { name := "hashIsZero", type := .boolean, accessFlags := 2, slot := 3, constantValue := 0 }, { name := "serialVersionUID", type := .long, accessFlags := 26, slot := 0, constantValue := 0 }, { name := "COMPACT_STRINGS", type := .boolean, accessFlags := 24, slot := 1, constantValue := 0 }, { name := "serialPersistentFields", type := (.array (.object "java/io/ObjectStreamField")), accessFlags := 26, slot := 2, constantValue := 0 }, { name := "REPL", type := .char, accessFlags := 26, slot := 3, constantValue := 0 }, { name := "CASE_INSENSITIVE_ORDER", type := (.object "java/util/Comparator"), accessFlags := 25, slot := 4, constantValue := 0 }, { name := "LATIN1", type := .byte, accessFlags := 24, slot := 5, constantValue := 0 }, { name := "UTF16", type := .byte, accessFlags := 24, slot := 6, constantValue := 0 }]
  methods := #[k7m0, k7m1, k7m2, k7m3, k7m4, k7m5, k7m6, k7m7, k7m8, k7m9, k7m10]
  instanceTypes := #[(.array .byte), .byte, .int, .boolean]
  staticTypes := #[.long, .boolean, (.array (.object "java/io/ObjectStreamField")), .char, (.object "java/util/Comparator"), .byte, .byte]
  resolved := Array.replicate 1451 none
  statics := some 0 }

def pool8 : Array CpInfo := pool [(6, .class_ 8), (1, u "java/lang/Object"), (0, u "<init>"), (0, u "()V"), (1, .class_ 14), (1, u "java/lang/StringUTF16"), (31, u "$assertionsDisabled"), (0, u "Z"), (13, u "HI_BYTE_SHIFT"), (0, u "I"), (2, u "LO_BYTE_SHIFT"), (49, .methodref 12 116), (0, .nameAndType 117 118), (0, u "compress"), (0, u "([CI[BII)I"), (3, u "([CII)[B"), (138, u "coderFromArrayLen"), (0, u "([BI)B"), (106, .class_ 371), (1, u "java/lang/StringUTF16$LinesSpliterator"), (58, u "MAX_LENGTH"), (196, .class_ 628), (0, u "java/lang/StringUTF16$CodePointsSpliterator"), (0, .class_ 630), (0, u "java/lang/StringUTF16$CharsSpliterator")] 4

def k8m0 : Method := { name := "<init>", desc := "()V", sig := { parameters := [], returnType := none }, accessFlags := 0, code := none }
def k8c1 : Code := { maxStack := 2, maxLocals := 2, code := jdk_52_method_15_code, exceptionTable := #[], attributes := #[] }
def k8m1 : Method := { name := "coderFromArrayLen", desc := "([BI)B", sig := { parameters := [(.array .byte), .int], returnType := some .byte }, accessFlags := 8, code := some k8c1 }
def k8c2 : Code := { maxStack := 5, maxLocals := 6, code := jdk_52_method_16_code, exceptionTable := #[], attributes := #[] }
def k8m2 : Method := { name := "compress", desc := "([CII)[B", sig := { parameters := [(.array .char), .int, .int], returnType := some (.array .byte) }, accessFlags := 9, code := some k8c2 }
def k8c3 : Code := { maxStack := 3, maxLocals := 7, code := jdk_52_method_21_code, exceptionTable := #[], attributes := #[] }
def k8m3 : Method := { name := "compress", desc := "([CI[BII)I", sig := { parameters := [(.array .char), .int, (.array .byte), .int, .int], returnType := some .int }, accessFlags := 9, code := some k8c3 }
/-- java/lang/StringUTF16 -/
def k8 : Class := { plain "java/lang/StringUTF16" (some 0) with
  accessFlags := 48
  interfaces := #[]
  cf := some (fileOf pool8 12 #[.nestMembers #[627, 629, 369]] #[{ accessFlags := 0, nameIndex := 9, descriptorIndex := 10, attributes := #[] }, { accessFlags := 8, nameIndex := 261, descriptorIndex := 262, attributes := #[] }, { accessFlags := 9, nameIndex := 117, descriptorIndex := 122, attributes := #[] }, { accessFlags := 9, nameIndex := 117, descriptorIndex := 118, attributes := #[] }] 48 6 #[] #[{ accessFlags := 26, nameIndex := 61, descriptorIndex := 62, attributes := #[] }, { accessFlags := 26, nameIndex := 65, descriptorIndex := 62, attributes := #[] }, { accessFlags := 24, nameIndex := 430, descriptorIndex := 62, attributes := #[] }, { accessFlags := 4120, nameIndex := 46, descriptorIndex := 47, attributes := #[] }])
  fields := #[{ name := "HI_BYTE_SHIFT", type := .int, accessFlags := 26, slot := 0, constantValue := 0 }, { name := "LO_BYTE_SHIFT", type := .int, accessFlags := 26, slot := 1, constantValue := 0 }, { name := "MAX_LENGTH", type := .int, accessFlags := 24, slot := 2, constantValue := 0 }, { name := "$assertionsDisabled", type := .boolean, accessFlags := 4120, slot := 3, constantValue := 0 }]
  methods := #[k8m0, k8m1, k8m2, k8m3]
  instanceTypes := #[]
  staticTypes := #[.int, .int, .int, .boolean]
  resolved := Array.replicate 635 none
  statics := none }

def pool9 : Array CpInfo := pool [(1, .methodref 2 3), (0, .class_ 4), (0, .nameAndType 5 6), (0, u "java/lang/Object"), (0, u "<init>"), (0, u "()V"), (0, .class_ 8), (0, u "java/lang/Record")] 13

def k9c0 : Code := { maxStack := 1, maxLocals := 1, code := jdk_30_method_1_code, exceptionTable := #[], attributes := #[] }
def k9m0 : Method := { name := "<init>", desc := "()V", sig := { parameters := [], returnType := none }, accessFlags := 4, code := some k9c0 }
/-- java/lang/Record -/
def k9 : Class := { plain "java/lang/Record" (some 0) with
  accessFlags := 1057
  interfaces := #[]
  cf := some (fileOf pool9 7 #[] #[{ accessFlags := 4, nameIndex := 5, descriptorIndex := 6, attributes := #[] }] 1057 2 #[] #[])
  fields := #[]
  methods := #[k9m0]
  instanceTypes := #[]
  staticTypes := #[]
  resolved := Array.replicate 22 none
  statics := none }

def pool10 : Array CpInfo := pool [(1, .methodref 2 3), (0, .class_ 4), (0, .nameAndType 5 6), (0, u "java/lang/Record"), (0, u "<init>"), (0, u "()V"), (0, .fieldref 8 9), (0, .class_ 10), (0, .nameAndType 11 12), (0, u "com/example/momus/momus/model/FormatSpecifier"), (0, u "start"), (0, u "I"), (0, .fieldref 8 14), (0, .nameAndType 15 12), (0, u "index"), (0, .fieldref 8 17), (0, .nameAndType 18 19), (0, u "relative"), (0, u "Z"), (0, .fieldref 8 21), (0, .nameAndType 22 12), (0, u "width"), (0, .fieldref 8 24), (0, .nameAndType 25 12), (0, u "precision"), (0, .fieldref 8 27), (0, .nameAndType 28 29), (0, u "conversion"), (0, u "C"), (0, .fieldref 8 31), (0, .nameAndType 32 12), (0, u "end"), (1, .class_ 36), (1, u "java/lang/String"), (29, u "(IIZIICI)V"), (24, u "text"), (0, u "(Ljava/lang/String;)Ljava/lang/String;"), (4, .methodref 34 98), (0, .nameAndType 99 100), (0, u "substring"), (0, u "(II)Ljava/lang/String;"), (26, u "MOST_WIDTH_OR_PRECISION"), (2, u "FLAGS"), (0, u "Ljava/lang/String;")] 58

def k10c0 : Code := { maxStack := 2, maxLocals := 8, code := prog_42_method_1_code, exceptionTable := #[], attributes := #[] }
def k10m0 : Method := { name := "<init>", desc := "(IIZIICI)V", sig := { parameters := [.int, .int, .boolean, .int, .int, .char, .int], returnType := none }, accessFlags := 1, code := some k10c0 }
def k10c1 : Code := { maxStack := 3, maxLocals := 2, code := prog_42_method_5_code, exceptionTable := #[], attributes := #[] }
def k10m1 : Method := { name := "text", desc := "(Ljava/lang/String;)Ljava/lang/String;", sig := { parameters := [(.object "java/lang/String")], returnType := some (.object "java/lang/String") }, accessFlags := 1, code := some k10c1 }
/-- com/example/momus/momus/model/FormatSpecifier -/
def k10 : Class := { plain "com/example/momus/momus/model/FormatSpecifier" (some 9) with
  accessFlags := 49
  interfaces := #[]
  cf := some (fileOf pool10 8 #[] #[{ accessFlags := 1, nameIndex := 5, descriptorIndex := 66, attributes := #[] }, { accessFlags := 1, nameIndex := 91, descriptorIndex := 92, attributes := #[] }] 49 2 #[] #[{ accessFlags := 18, nameIndex := 11, descriptorIndex := 12, attributes := #[] }, { accessFlags := 18, nameIndex := 15, descriptorIndex := 12, attributes := #[] }, { accessFlags := 18, nameIndex := 18, descriptorIndex := 19, attributes := #[] }, { accessFlags := 18, nameIndex := 22, descriptorIndex := 12, attributes := #[] }, { accessFlags := 18, nameIndex := 25, descriptorIndex := 12, attributes := #[] }, { accessFlags := 18, nameIndex := 28, descriptorIndex := 29, attributes := #[] }, { accessFlags := 18, nameIndex := 32, descriptorIndex := 12, attributes := #[] }, { accessFlags := 25, nameIndex := 127, descriptorIndex := 12, attributes := #[] }, { accessFlags := 26, nameIndex := 130, descriptorIndex := 131, attributes := #[] }])
  fields := #[{ name := "start", type := .int, accessFlags := 18, slot := 0, constantValue := 0 }, { name := "index", type := .int, accessFlags := 18, slot := 1, constantValue := 0 }, { name := "relative", type := .boolean, accessFlags := 18, slot := 2, constantValue := 0 }, { name := "width", type := .int, accessFlags := 18, slot := 3, constantValue := 0 }, { name := "precision", type := .int, accessFlags := 18, slot := 4, constantValue := 0 }, { name := "conversion", type := .char, accessFlags := 18, slot := 5, constantValue := 0 }, { name := "end", type := .int, accessFlags := 18, slot := 6, constantValue := 0 }, { name := "MOST_WIDTH_OR_PRECISION", type := .int, accessFlags := 25, slot := 0, constantValue := 0 }, { name := "FLAGS", type := (.object "java/lang/String"), accessFlags := 26, slot := 1, constantValue := 0 }]
  methods := #[k10m0, k10m1]
  instanceTypes := #[.int, .int, .boolean, .int, .int, .char, .int]
  staticTypes := #[.int, (.object "java/lang/String")]
  resolved := Array.replicate 190 none
  statics := none }

def pool11 : Array CpInfo := pool [(2, .class_ 4), (1, u "java/lang/Object"), (0, u "<init>"), (0, u "()V"), (17, .class_ 26), (1, u "jdk/internal/util/Preconditions"), (6, u "checkIndex"), (13, u "checkFromToIndex"), (7, .class_ 56), (0, u "jdk/internal/util/Preconditions$4"), (57, .class_ 115), (0, u "jdk/internal/util/Preconditions$1"), (7, u "SIOOBE_FORMATTER"), (0, u "Ljava/util/function/BiFunction;"), (0, .class_ 126), (0, u "jdk/internal/util/Preconditions$2"), (3, u "AIOOBE_FORMATTER"), (0, .class_ 132), (0, u "jdk/internal/util/Preconditions$3"), (3, u "IOOBE_FORMATTER"), (41, u "(IILjava/util/function/BiFunction;)I"), (4, u "(IIILjava/util/function/BiFunction;)I")] 10

def k11m0 : Method := { name := "<init>", desc := "()V", sig := { parameters := [], returnType := none }, accessFlags := 1, code := none }
def k11c1 : Code := { maxStack := 3, maxLocals := 3, code := jdk_41_method_11_code, exceptionTable := #[], attributes := #[] }
def k11m1 : Method := { name := "checkIndex", desc := "(IILjava/util/function/BiFunction;)I", sig := { parameters := [.int, .int, (.object "java/util/function/BiFunction")], returnType := some .int }, accessFlags := 9, code := some k11c1 }
def k11c2 : Code := { maxStack := 4, maxLocals := 4, code := jdk_41_method_12_code, exceptionTable := #[], attributes := #[] }
def k11m2 : Method := { name := "checkFromToIndex", desc := "(IIILjava/util/function/BiFunction;)I", sig := { parameters := [.int, .int, .int, (.object "java/util/function/BiFunction")], returnType := some .int }, accessFlags := 9, code := some k11c2 }
/-- jdk/internal/util/Preconditions -/
def k11 : Class := { plain "jdk/internal/util/Preconditions" (some 0) with
  accessFlags := 33
  interfaces := #[]
  cf := some (fileOf pool11 24 #[.nestMembers #[55, 131, 125, 114]] #[{ accessFlags := 1, nameIndex := 5, descriptorIndex := 6, attributes := #[] }, { accessFlags := 9, nameIndex := 33, descriptorIndex := 178, attributes := #[] }, { accessFlags := 9, nameIndex := 47, descriptorIndex := 183, attributes := #[] }] 33 2 #[] #[{ accessFlags := 25, nameIndex := 123, descriptorIndex := 124, attributes := #[] }, { accessFlags := 25, nameIndex := 130, descriptorIndex := 124, attributes := #[] }, { accessFlags := 25, nameIndex := 136, descriptorIndex := 124, attributes := #[] }])
  fields := #[{ name := "SIOOBE_FORMATTER", type := (.object "java/util/function/BiFunction"), accessFlags := 25, slot := 0, constantValue := 0 }, { name := "AIOOBE_FORMATTER", type := (.object "java/util/function/BiFunction"), accessFlags := 25, slot := 1, constantValue := 0 }, { name := "IOOBE_FORMATTER", type := (.object "java/util/function/BiFunction"), accessFlags := 25, slot := 2, constantValue := 0 }]
  methods := #[k11m0, k11m1, k11m2]
  instanceTypes := #[]
  staticTypes := #[(.object "java/util/function/BiFunction"), (.object "java/util/function/BiFunction"), (.object "java/util/function/BiFunction")]
  resolved := Array.replicate 194 none
  statics := some 1 }

def pool12 : Array CpInfo := pool [(1, .class_ 2), (0, u "java/lang/String"), (1, .class_ 6), (1, u "java/lang/Object"), (0, u "<init>"), (0, u "()V"), (0, .methodref 1 10), (0, .nameAndType 11 12), (0, u "checkIndex"), (0, u "(II)V"), (1, .class_ 16), (1, u "java/lang/StringLatin1"), (36, u "([BI)C"), (58, .methodref 1 113), (0, .nameAndType 7 114), (0, u "([BB)V"), (6, u "$assertionsDisabled"), (0, u "Z"), (8, .class_ 133), (1, u "java/util/Arrays"), (17, .string 152), (0, u ""), (43, u "newString"), (0, u "([BII)Ljava/lang/String;"), (23, .class_ 223), (1, u "java/lang/StringLatin1$LinesSpliterator"), (8, .methodref 131 233), (0, .nameAndType 234 235), (0, u "copyOfRange"), (0, u "([BII)[B"), (16, u "charAt"), (137, .class_ 391), (0, u "java/lang/StringLatin1$CharsSpliterator")] 3

def k12m0 : Method := { name := "<init>", desc := "()V", sig := { parameters := [], returnType := none }, accessFlags := 0, code := none }
def k12c1 : Code := { maxStack := 2, maxLocals := 2, code := jdk_43_method_2_code, exceptionTable := #[], attributes := #[] }
def k12m1 : Method := { name := "charAt", desc := "([BI)C", sig := { parameters := [(.array .byte), .int], returnType := some .char }, accessFlags := 9, code := some k12c1 }
def k12c2 : Code := { maxStack := 6, maxLocals := 3, code := jdk_43_method_47_code, exceptionTable := #[], attributes := #[] }
def k12m2 : Method := { name := "newString", desc := "([BII)Ljava/lang/String;", sig := { parameters := [(.array .byte), .int, .int], returnType := some (.object "java/lang/String") }, accessFlags := 9, code := some k12c2 }
/-- java/lang/StringLatin1 -/
def k12 : Class := { plain "java/lang/StringLatin1" (some 0) with
  accessFlags := 48
  interfaces := #[]
  cf := some (fileOf pool12 14 #[.nestMembers #[390, 221]] #[{ accessFlags := 0, nameIndex := 7, descriptorIndex := 8, attributes := #[] }, { accessFlags := 9, nameIndex := 252, descriptorIndex := 53, attributes := #[] }, { accessFlags := 9, nameIndex := 196, descriptorIndex := 197, attributes := #[] }] 48 4 #[] #[{ accessFlags := 4120, nameIndex := 121, descriptorIndex := 122, attributes := #[] }])
  fields := #[{ name := "$assertionsDisabled", type := .boolean, accessFlags := 4120, slot := 0, constantValue := 0 }]
  methods := #[k12m0, k12m1, k12m2]
  instanceTypes := #[]
  staticTypes := #[.boolean]
  resolved := Array.replicate 395 none
  statics := none }

def pool13 : Array CpInfo := pool [(2, .class_ 4), (1, u "java/lang/Object"), (0, u "<init>"), (0, u "()V"), (7, .class_ 16), (1, u "java/util/Arrays"), (57, .class_ 76), (1, u "java/util/Arrays$NaturalOrder"), (36, .class_ 115), (1, u "java/util/Arrays$LegacyMergeSort"), (1, u "Z"), (21, u "copyOfRange"), (10, .methodref 151 152), (0, .class_ 153), (0, .nameAndType 154 155), (0, u "java/lang/System"), (0, u "arraycopy"), (0, u "(Ljava/lang/Object;ILjava/lang/Object;II)V"), (148, .methodref 305 306), (0, .class_ 307), (0, .nameAndType 308 309), (0, u "java/lang/Math"), (0, u "min"), (0, u "(II)I"), (29, .methodref 14 340), (0, .nameAndType 341 342), (0, u "copyOfRangeByte"), (0, u "([BII)[B"), (0, .methodref 14 344), (0, .nameAndType 345 346), (0, u "checkLength"), (0, u "(II)V"), (28, .class_ 376), (0, u "java/util/Arrays$ArrayList"), (68, u "$assertionsDisabled"), (269, u "MIN_ARRAY_SORT_GRAN"), (0, u "I"), (2, u "INSERTIONSORT_THRESHOLD"), (255, .class_ 976), (0, u "java/util/Arrays$ArrayItr")] 52

def k13m0 : Method := { name := "<init>", desc := "()V", sig := { parameters := [], returnType := none }, accessFlags := 2, code := none }
def k13c1 : Code := { maxStack := 4, maxLocals := 2, code := jdk_65_method_131_code, exceptionTable := #[], attributes := #[] }
def k13m1 : Method := { name := "checkLength", desc := "(II)V", sig := { parameters := [.int, .int], returnType := none }, accessFlags := 10, code := some k13c1 }
def k13c2 : Code := { maxStack := 3, maxLocals := 3, code := jdk_65_method_132_code, exceptionTable := #[], attributes := #[] }
def k13m2 : Method := { name := "copyOfRange", desc := "([BII)[B", sig := { parameters := [(.array .byte), .int, .int], returnType := some (.array .byte) }, accessFlags := 9, code := some k13c2 }
def k13c3 : Code := { maxStack := 6, maxLocals := 5, code := jdk_65_method_133_code, exceptionTable := #[], attributes := #[] }
def k13m3 : Method := { name := "copyOfRangeByte", desc := "([BII)[B", sig := { parameters := [(.array .byte), .int, .int], returnType := some (.array .byte) }, accessFlags := 10, code := some k13c3 }
/-- java/util/Arrays -/
def k13 : Class := { plain "java/util/Arrays" (some 0) with
  accessFlags := 49
  interfaces := #[]
  cf := some (fileOf pool13 14 #[.nestMembers #[975, 375, 113, 74]] #[{ accessFlags := 2, nameIndex := 5, descriptorIndex := 6, attributes := #[] }, { accessFlags := 10, nameIndex := 345, descriptorIndex := 346, attributes := #[] }, { accessFlags := 9, nameIndex := 139, descriptorIndex := 342, attributes := #[] }, { accessFlags := 10, nameIndex := 341, descriptorIndex := 342, attributes := #[] }] 49 2 #[] #[{ accessFlags := 26, nameIndex := 715, descriptorIndex := 716, attributes := #[] }, { accessFlags := 26, nameIndex := 719, descriptorIndex := 716, attributes := #[] }, { accessFlags := 4120, nameIndex := 445, descriptorIndex := 117, attributes := #[] }])
  fields := #[{ name := "MIN_ARRAY_SORT_GRAN", type := .int, accessFlags := 26, slot := 0, constantValue := 0 }, { name := "INSERTIONSORT_THRESHOLD", type := .int, accessFlags := 26, slot := 1, constantValue := 0 }, { name := "$assertionsDisabled", type := .boolean, accessFlags := 4120, slot := 2, constantValue := 0 }]
  methods := #[k13m0, k13m1, k13m2, k13m3]
  instanceTypes := #[]
  staticTypes := #[.int, .int, .boolean]
  resolved := Array.replicate 1029 none
  statics := none }

def pool14 : Array CpInfo := pool [(1, .class_ 2), (0, u "java/lang/Math"), (1, .class_ 6), (1, u "java/lang/Object"), (0, u "<init>"), (0, u "()V"), (89, .class_ 100), (1, u "java/lang/Math$RandomNumberGeneratorHolder"), (71, u "negativeZeroFloatBits"), (0, u "J"), (2, u "negativeZeroDoubleBits"), (24, u "min"), (43, u "$assertionsDisabled"), (0, u "Z"), (88, u "(II)I"), (2, u "twoToTheDoubleScaleDown"), (0, u "D"), (4, u "twoToTheDoubleScaleUp"), (9, u "E"), (3, u "PI"), (2, u "TAU"), (2, u "DEGREES_TO_RADIANS"), (0, u "RADIANS_TO_DEGREES")] 94

def k14m0 : Method := { name := "<init>", desc := "()V", sig := { parameters := [], returnType := none }, accessFlags := 2, code := none }
def k14c1 : Code := { maxStack := 2, maxLocals := 2, code := jdk_29_method_69_code, exceptionTable := #[], attributes := #[] }
def k14m1 : Method := { name := "min", desc := "(II)I", sig := { parameters := [.int, .int], returnType := some .int }, accessFlags := 9, code := some k14c1 }
/-- java/lang/Math -/
def k14 : Class := { plain "java/lang/Math" (some 0) with
  accessFlags := 49
  interfaces := #[]
  cf := some (fileOf pool14 1 #[.nestMembers #[98]] #[{ accessFlags := 2, nameIndex := 7, descriptorIndex := 8, attributes := #[] }, { accessFlags := 9, nameIndex := 201, descriptorIndex := 335, attributes := #[] }] 49 4 #[] #[{ accessFlags := 25, nameIndex := 354, descriptorIndex := 339, attributes := #[] }, { accessFlags := 25, nameIndex := 358, descriptorIndex := 339, attributes := #[] }, { accessFlags := 25, nameIndex := 361, descriptorIndex := 339, attributes := #[] }, { accessFlags := 26, nameIndex := 364, descriptorIndex := 339, attributes := #[] }, { accessFlags := 26, nameIndex := 365, descriptorIndex := 339, attributes := #[] }, { accessFlags := 26, nameIndex := 172, descriptorIndex := 173, attributes := #[] }, { accessFlags := 26, nameIndex := 176, descriptorIndex := 173, attributes := #[] }, { accessFlags := 8, nameIndex := 344, descriptorIndex := 339, attributes := #[] }, { accessFlags := 8, nameIndex := 338, descriptorIndex := 339, attributes := #[] }, { accessFlags := 4120, nameIndex := 245, descriptorIndex := 246, attributes := #[] }])
  fields := #[{ name := "E", type := .double, accessFlags := 25, slot := 0, constantValue := 0 }, { name := "PI", type := .double, accessFlags := 25, slot := 1, constantValue := 0 }, { name := "TAU", type := .double, accessFlags := 25, slot := 2, constantValue := 0 }, { name := "DEGREES_TO_RADIANS", type := .double, accessFlags := 26, slot := 3, constantValue := 0 }, { name := "RADIANS_TO_DEGREES", type := .double, accessFlags := 26, slot := 4, constantValue := 0 }, { name := "negativeZeroFloatBits", type := .long, accessFlags := 26, slot := 5, constantValue := 0 }, { name := "negativeZeroDoubleBits", type := .long, accessFlags := 26, slot := 6, constantValue := 0 }, { name := "twoToTheDoubleScaleUp", type := .double, accessFlags := 8, slot := 7, constantValue := 0 }, { name := "twoToTheDoubleScaleDown", type := .double, accessFlags := 8, slot := 8, constantValue := 0 }, { name := "$assertionsDisabled", type := .boolean, accessFlags := 4120, slot := 9, constantValue := 0 }]
  methods := #[k14m0, k14m1]
  instanceTypes := #[]
  staticTypes := #[.double, .double, .double, .double, .double, .long, .long, .double, .double, .boolean]
  resolved := Array.replicate 460 none
  statics := none }

def pool15 : Array CpInfo := pool [(2, .class_ 4), (1, u "java/lang/Object"), (0, u "<init>"), (0, u "()V"), (1, .class_ 10), (1, u "java/lang/System"), (0, u "allowSecurityManager"), (0, u "I"), (16, u "cons"), (0, u "Ljava/io/Console;"), (77, .class_ 110), (1, u "java/lang/System$CallersHolder"), (43, u "initialErrStream"), (0, u "Ljava/io/PrintStream;"), (19, u "security"), (0, u "Ljava/lang/SecurityManager;"), (31, .class_ 209), (0, u "java/lang/System$1"), (7, u "props"), (0, u "Ljava/util/Properties;"), (2, u "lineSeparator"), (0, u "Ljava/lang/String;"), (96, .class_ 321), (1, u "java/lang/System$LoggerFinder"), (5, .class_ 328), (0, u "java/lang/System$Logger"), (67, u "err"), (2, u "out"), (91, u "notSupportedJnuEncoding"), (15, u "in"), (17, u "initialIn"), (0, u "Ljava/io/InputStream;"), (35, u "bootLayer"), (0, u "Ljava/lang/ModuleLayer;"), (99, .class_ 664), (0, u "java/lang/System$2"), (9, u "NEVER"), (2, u "MAYBE"), (49, u "arraycopy"), (0, u "(Ljava/lang/Object;ILjava/lang/Object;II)V"), (72, .class_ 802), (0, u "java/lang/System$Logger$Level")] 31

def k15m0 : Method := { name := "<init>", desc := "()V", sig := { parameters := [], returnType := none }, accessFlags := 2, code := none }
def k15m1 : Method := { name := "arraycopy", desc := "(Ljava/lang/Object;ILjava/lang/Object;II)V", sig := { parameters := [(.object "java/lang/Object"), .int, (.object "java/lang/Object"), .int, .int], returnType := none }, accessFlags := 265, code := none }
/-- java/lang/System -/
def k15 : Class := { plain "java/lang/System" (some 0) with
  accessFlags := 49
  interfaces := #[]
  cf := some (fileOf pool15 8 #[.nestMembers #[319, 327, 801, 108, 663, 208]] #[{ accessFlags := 2, nameIndex := 5, descriptorIndex := 6, attributes := #[] }, { accessFlags := 265, nameIndex := 727, descriptorIndex := 728, attributes := #[] }] 49 2 #[] #[{ accessFlags := 25, nameIndex := 507, descriptorIndex := 526, attributes := #[] }, { accessFlags := 25, nameIndex := 399, descriptorIndex := 155, attributes := #[] }, { accessFlags := 25, nameIndex := 396, descriptorIndex := 155, attributes := #[] }, { accessFlags := 10, nameIndex := 525, descriptorIndex := 526, attributes := #[] }, { accessFlags := 26, nameIndex := 674, descriptorIndex := 12, attributes := #[] }, { accessFlags := 26, nameIndex := 677, descriptorIndex := 12, attributes := #[] }, { accessFlags := 10, nameIndex := 11, descriptorIndex := 12, attributes := #[] }, { accessFlags := 74, nameIndex := 175, descriptorIndex := 176, attributes := #[] }, { accessFlags := 10, nameIndex := 491, descriptorIndex := 222, attributes := #[] }, { accessFlags := 74, nameIndex := 29, descriptorIndex := 30, attributes := #[] }, { accessFlags := 74, nameIndex := 154, descriptorIndex := 155, attributes := #[] }, { accessFlags := 10, nameIndex := 217, descriptorIndex := 218, attributes := #[] }, { accessFlags := 10, nameIndex := 221, descriptorIndex := 222, attributes := #[] }, { accessFlags := 8, nameIndex := 562, descriptorIndex := 563, attributes := #[] }])
  fields := #[{ name := "in", type := (.object "java/io/InputStream"), accessFlags := 25, slot := 0, constantValue := 0 }, { name := "out", type := (.object "java/io/PrintStream"), accessFlags := 25, slot := 1, constantValue := 0 }, { name := "err", type := (.object "java/io/PrintStream"), accessFlags := 25, slot := 2, constantValue := 0 }, { name := "initialIn", type := (.object "java/io/InputStream"), accessFlags := 10, slot := 3, constantValue := 0 }, { name := "NEVER", type := .int, accessFlags := 26, slot := 4, constantValue := 0 }, { name := "MAYBE", type := .int, accessFlags := 26, slot := 5, constantValue := 0 }, { name := "allowSecurityManager", type := .int, accessFlags := 10, slot := 6, constantValue := 0 }, { name := "security", type := (.object "java/lang/SecurityManager"), accessFlags := 74, slot := 7, constantValue := 0 }, { name := "notSupportedJnuEncoding", type := (.object "java/lang/String"), accessFlags := 10, slot := 8, constantValue := 0 }, { name := "cons", type := (.object "java/io/Console"), accessFlags := 74, slot := 9, constantValue := 0 }, { name := "initialErrStream", type := (.object "java/io/PrintStream"), accessFlags := 74, slot := 10, constantValue := 0 }, { name := "props", type := (.object "java/util/Properties"), accessFlags := 10, slot := 11, constantValue := 0 }, { name := "lineSeparator", type := (.object "java/lang/String"), accessFlags := 10, slot := 12, constantValue := 0 }, { name := "bootLayer", type := (.object "java/lang/ModuleLayer"), accessFlags := 8, slot := 13, constantValue := 0 }]
  methods := #[k15m0, k15m1]
  instanceTypes := #[]
  staticTypes := #[(.object "java/io/InputStream"), (.object "java/io/PrintStream"), (.object "java/io/PrintStream"), (.object "java/io/InputStream"), .int, .int, .int, (.object "java/lang/SecurityManager"), (.object "java/lang/String"), (.object "java/io/Console"), (.object "java/io/PrintStream"), (.object "java/util/Properties"), (.object "java/lang/String"), (.object "java/lang/ModuleLayer")]
  resolved := Array.replicate 834 none
  statics := none }

def pool16 : Array CpInfo := pool [(9, u "<init>"), (6, .class_ 18), (1, u "java/lang/Object"), (0, u "()V"), (1, .class_ 23), (1, u "jdk/internal/util/ArraysSupport"), (0, u "LOG2_ARRAY_LONG_INDEX_SCALE"), (0, u "I"), (2, u "U"), (0, u "Ljdk/internal/misc/Unsafe;"), (8, u "BIG_ENDIAN"), (0, u "Z"), (8, u "LOG2_BYTE_BIT_SIZE"), (4, u "LOG2_ARRAY_INT_INDEX_SCALE"), (54, u "JLA"), (0, u "Ljdk/internal/access/JavaLangAccess;"), (11, u "LOG2_ARRAY_BOOLEAN_INDEX_SCALE"), (9, u "LOG2_ARRAY_BYTE_INDEX_SCALE"), (5, u "LOG2_ARRAY_CHAR_INDEX_SCALE"), (5, u "LOG2_ARRAY_SHORT_INDEX_SCALE"), (18, u "LOG2_ARRAY_FLOAT_INDEX_SCALE"), (24, u "LOG2_ARRAY_DOUBLE_INDEX_SCALE"), (89, u "T_BOOLEAN"), (2, u "T_CHAR"), (1, u "T_FLOAT"), (1, u "T_DOUBLE"), (1, u "T_BYTE"), (1, u "T_SHORT"), (1, u "T_INT"), (1, u "T_LONG"), (1, u "SOFT_MAX_ARRAY_LENGTH")] 83

def k16m0 : Method := { name := "<init>", desc := "()V", sig := { parameters := [], returnType := none }, accessFlags := 2, code := none }
/-- jdk/internal/util/ArraysSupport -/
def k16 : Class := { plain "jdk/internal/util/ArraysSupport" (some 0) with
  accessFlags := 33
  interfaces := #[]
  cf := some (fileOf pool16 21 #[] #[{ accessFlags := 2, nameIndex := 9, descriptorIndex := 19, attributes := #[] }] 33 16 #[] #[{ accessFlags := 24, nameIndex := 28, descriptorIndex := 29, attributes := #[] }, { accessFlags := 26, nameIndex := 38, descriptorIndex := 39, attributes := #[] }, { accessFlags := 25, nameIndex := 121, descriptorIndex := 25, attributes := #[] }, { accessFlags := 25, nameIndex := 131, descriptorIndex := 25, attributes := #[] }, { accessFlags := 25, nameIndex := 137, descriptorIndex := 25, attributes := #[] }, { accessFlags := 25, nameIndex := 143, descriptorIndex := 25, attributes := #[] }, { accessFlags := 25, nameIndex := 53, descriptorIndex := 25, attributes := #[] }, { accessFlags := 25, nameIndex := 24, descriptorIndex := 25, attributes := #[] }, { accessFlags := 25, nameIndex := 162, descriptorIndex := 25, attributes := #[] }, { accessFlags := 25, nameIndex := 187, descriptorIndex := 25, attributes := #[] }, { accessFlags := 26, nameIndex := 48, descriptorIndex := 25, attributes := #[] }, { accessFlags := 25, nameIndex := 277, descriptorIndex := 25, attributes := #[] }, { accessFlags := 25, nameIndex := 280, descriptorIndex := 25, attributes := #[] }, { accessFlags := 25, nameIndex := 282, descriptorIndex := 25, attributes := #[] }, { accessFlags := 25, nameIndex := 284, descriptorIndex := 25, attributes := #[] }, { accessFlags := 25, nameIndex := 286, descriptorIndex := 25, attributes := #[] }, { accessFlags := 25, nameIndex := 288, descriptorIndex := 25, attributes := #[] }, { accessFlags := 25, nameIndex := 290, descriptorIndex := 25, attributes := #[] }, { accessFlags := 25, nameIndex := 292, descriptorIndex := 25, attributes := #[] }, { accessFlags := 26, nameIndex := 108, descriptorIndex := 109, attributes := #[] }, { accessFlags := 25, nameIndex := 294, descriptorIndex := 25, attributes := #[] }])
  fields := #[{ name := "U", type := (.object "jdk/internal/misc/Unsafe"), accessFlags := 24, slot := 0, constantValue := 0 }, { name := "BIG_ENDIAN", type := .boolean, accessFlags := 26, slot := 1, constantValue := 0 }, { name := "LOG2_ARRAY_BOOLEAN_INDEX_SCALE", type := .int, accessFlags := 25, slot := 2, constantValue := 0 }, { name := "LOG2_ARRAY_BYTE_INDEX_SCALE", type := .int, accessFlags := 25, slot := 3, constantValue := 0 }, { name := "LOG2_ARRAY_CHAR_INDEX_SCALE", type := .int, accessFlags := 25, slot := 4, constantValue := 0 }, { name := "LOG2_ARRAY_SHORT_INDEX_SCALE", type := .int, accessFlags := 25, slot := 5, constantValue := 0 }, { name := "LOG2_ARRAY_INT_INDEX_SCALE", type := .int, accessFlags := 25, slot := 6, constantValue := 0 }, { name := "LOG2_ARRAY_LONG_INDEX_SCALE", type := .int, accessFlags := 25, slot := 7, constantValue := 0 }, { name := "LOG2_ARRAY_FLOAT_INDEX_SCALE", type := .int, accessFlags := 25, slot := 8, constantValue := 0 }, { name := "LOG2_ARRAY_DOUBLE_INDEX_SCALE", type := .int, accessFlags := 25, slot := 9, constantValue := 0 }, { name := "LOG2_BYTE_BIT_SIZE", type := .int, accessFlags := 26, slot := 10, constantValue := 0 }, { name := "T_BOOLEAN", type := .int, accessFlags := 25, slot := 11, constantValue := 0 }, { name := "T_CHAR", type := .int, accessFlags := 25, slot := 12, constantValue := 0 }, { name := "T_FLOAT", type := .int, accessFlags := 25, slot := 13, constantValue := 0 }, { name := "T_DOUBLE", type := .int, accessFlags := 25, slot := 14, constantValue := 0 }, { name := "T_BYTE", type := .int, accessFlags := 25, slot := 15, constantValue := 0 }, { name := "T_SHORT", type := .int, accessFlags := 25, slot := 16, constantValue := 0 }, { name := "T_INT", type := .int, accessFlags := 25, slot := 17, constantValue := 0 }, { name := "T_LONG", type := .int, accessFlags := 25, slot := 18, constantValue := 0 }, { name := "JLA", type := (.object "jdk/internal/access/JavaLangAccess"), accessFlags := 26, slot := 19, constantValue := 0 }, { name := "SOFT_MAX_ARRAY_LENGTH", type := .int, accessFlags := 25, slot := 20, constantValue := 0 }]
  methods := #[k16m0]
  instanceTypes := #[]
  staticTypes := #[(.object "jdk/internal/misc/Unsafe"), .boolean, .int, .int, .int, .int, .int, .int, .int, .int, .int, .int, .int, .int, .int, .int, .int, .int, .int, (.object "jdk/internal/access/JavaLangAccess"), .int]
  resolved := Array.replicate 378 none
  statics := none }

def pool17 : Array CpInfo := pool [(1, u "java/lang/Cloneable"), (0, .class_ 1), (0, u "java/lang/Object"), (0, .class_ 3)] 3

/-- java/lang/Cloneable -/
def k17 : Class := { plain "java/lang/Cloneable" (some 0) with
  accessFlags := 1537
  interfaces := #[]
  cf := some (fileOf pool17 2 #[] #[] 1537 4 #[] #[])
  fields := #[]
  methods := #[]
  instanceTypes := #[]
  staticTypes := #[]
  resolved := Array.replicate 8 none
  statics := none }

/-- the primitive byte -/
def k18 : Class := { plain "byte" none with kind := .primitive 'B', accessFlags := 0x411 }
/-- [B -/
def k19 : Class := { plain "[B" (some 0) with kind := .array 18 .byte, interfaces := #[17, 2], accessFlags := 1041 }

/-- the primitive char -/
def k20 : Class := { plain "char" none with kind := .primitive 'C', accessFlags := 0x411 }
/-- [C -/
def k21 : Class := { plain "[C" (some 0) with kind := .array 20 .char, interfaces := #[17, 2], accessFlags := 1041 }

/-- the primitive int -/
def k22 : Class := { plain "int" none with kind := .primitive 'I', accessFlags := 0x411 }
/-- [I -/
def k23 : Class := { plain "[I" (some 0) with kind := .array 22 .int, interfaces := #[17, 2], accessFlags := 1041 }

def heap : Heap := #[{ cls := 7, slots := #[.long 0, .int 1, .null, .int 0, .null, .int 0, .int 0], vm := .statics 7 },
  { cls := 11, slots := #[.null, .null, .null], vm := .statics 11 }]
def classes : Array Class := #[k0, k1, k2, k3, k4, k5, k6, k7, k8, k9, k10, k11, k12, k13, k14, k15, k16, k17, k18, k19, k20, k21, k22, k23]
def interned : List (Array UInt16 × Addr) := []
def slotsUsed : Nat := 10
def theMethod : MethodId := ⟨1, 2⟩
def args0 : Array Value := #[.int 5, .int 7, .int 9, .int 5, .int 6, .int 8]
def aboutOver (below : List Frame) : State where
  vm := { classes := classes, interned := interned.toArray }
  heap := heap
  slotsUsed := slotsUsed
  threads := #[{ frames := .invoking theMethod args0 :: below }]
def below0 : List Frame := [.native { method := ⟨0, 0⟩, args := #[] }]
def about1 : State := aboutOver below0
def p0 : Program := .bare "" "" ""
def e0 : Env := launch0.env 0 0 0
theorem w_frames : about1.frames = Frame.invoking theMethod args0 :: below0 := rfl
set_option maxRecDepth 65536 in
theorem w_args : argsFit about1.vm theMethod args0 = true := by decide +kernel
set_option maxRecDepth 65536 in
theorem w_heap : heapFits about1 = true := by decide +kernel
set_option maxRecDepth 65536 in
theorem w_runnable : about1.curStatus? = some .runnable := by decide +kernel
set_option maxRecDepth 65536 in
theorem w_alone : about1.alone = true := by decide +kernel
set_option maxRecDepth 65536 in
theorem w_named : about1.methodNamed? x = some theMethod := by decide +kernel
set_option maxRecDepth 65536 in
theorem w_hears : about1.hears theMethod below0 = true := by decide +kernel
set_option maxRecDepth 65536 in
theorem w_ripe : about1.ripe theMethod args0 below0 = true := by decide +kernel
theorem w_running : about1.status = .running := rfl
set_option maxRecDepth 65536 in
theorem w_room : about1.hasRoom e0.platform room_1 = true :=
  launch0.hasRoom_least _ room_1 (by decide +kernel) (by decide +kernel) (by decide +kernel) (by decide +kernel) (by decide +kernel) (by decide +kernel)
theorem allAtoms_all (ts : List Jvm.Cond) (a : Array Jvm.Value) (st : Jvm.State) : (allAtoms ts).before a st = ts.all (fun c => c.before a st) := by
  induction ts with
  | nil => rfl
  | cons c t ih =>
    show (Jvm.Cond.and c (allAtoms t)).before a st = _
    rw [Jvm.Cond.before_and, ih, List.all_cons]
def words1 : List Jvm.Cond := Jvm.Cond.code x code maxLocals ret :: tables_1
/-- a 'code' word, met by the world's own term for the bytes: nothing is compared byte by byte -/
theorem code_word {y : MethodName} {bytes : ByteArray} {mx : Nat} {rt : Option FieldType} {a : Array Value} {s : State} {m : MethodId} {meth : Method} {c : Code} (h1 : s.methodNamed? y = some m) (h2 : s.vm.method? m = some meth) (h3 : meth.code = some c) (h4 : c.code = bytes)
    (h5 : (c.maxLocals == mx && c.exceptionTable.isEmpty && decide (c.maxStack ≤ mostOperands) && decide (meth.sig.returnType = rt) && !meth.locks && decide (parseMethodDescriptor y.desc = some meth.sig)) = true) : (Jvm.Cond.code y bytes mx rt).before a s = true := by
  simp only [Bool.and_eq_true, beq_iff_eq, Bool.not_eq_true', decide_eq_true_eq] at h5
  obtain ⟨⟨⟨⟨⟨g1, g2⟩, g3⟩, g4⟩, g5⟩, g6⟩ := h5
  simp [Cond.before, Cond.holds, Cond.value, h1, h2, h3, h4, g1, g2, g3, g4, g5, g6]
def isCode : Jvm.Cond → Bool
  | .code _ _ _ _ => true
  | _ => false
theorem all_split {L : List Jvm.Cond} {P : Jvm.Cond → Bool} (h1 : L.all (fun c => isCode c || P c) = true) (h2 : ∀ c ∈ L.filter isCode, P c = true) : L.all P = true := by
  refine List.all_eq_true.mpr fun c hc => ?_
  have h := List.all_eq_true.mp h1 c hc
  rcases Bool.eq_false_or_eq_true (isCode c) with hi | hi
  · exact h2 c (List.mem_filter.mpr ⟨hc, hi⟩)
  · simpa [hi] using h
set_option maxRecDepth 65536 in
theorem w_c0 : (Jvm.Cond.code x code maxLocals ret).before args0 about1 = true := code_word (m := ⟨1, 2⟩) (meth := k1m2) (c := k1c2) (by decide +kernel) rfl rfl rfl (by decide +kernel)
set_option maxRecDepth 65536 in
theorem w_c1 : (Jvm.Cond.code ({ cls := "java/lang/String", name := "<init>", desc := "([C)V" } : Jvm.MethodName) jdk_42_method_3_code (2 : Nat) (Option.none : Option Jvm.ClassFile.FieldType)).before args0 about1 = true := code_word (m := ⟨7, 1⟩) (meth := k7m1) (c := k7c1) (by decide +kernel) rfl rfl rfl (by decide +kernel)
set_option maxRecDepth 65536 in
theorem w_c2 : (Jvm.Cond.code ({ cls := "java/lang/String", name := "<init>", desc := "([CIILjava/lang/Void;)V" } : Jvm.MethodName) jdk_42_method_149_code (6 : Nat) (Option.none : Option Jvm.ClassFile.FieldType)).before args0 about1 = true := code_word (m := ⟨7, 5⟩) (meth := k7m5) (c := k7c5) (by decide +kernel) rfl rfl rfl (by decide +kernel)
set_option maxRecDepth 65536 in
theorem w_c3 : (Jvm.Cond.code ({ cls := "java/lang/Object", name := "<init>", desc := "()V" } : Jvm.MethodName) object_method_1_code (1 : Nat) (Option.none : Option Jvm.ClassFile.FieldType)).before args0 about1 = true := code_word (m := ⟨0, 0⟩) (meth := k0m0) (c := k0c0) (by decide +kernel) rfl rfl rfl (by decide +kernel)
set_option maxRecDepth 65536 in
theorem w_c4 : (Jvm.Cond.code ({ cls := "java/lang/StringUTF16", name := "compress", desc := "([CII)[B" } : Jvm.MethodName) jdk_52_method_16_code (6 : Nat) (Option.some (Jvm.ClassFile.FieldType.array Jvm.ClassFile.FieldType.byte))).before args0 about1 = true := code_word (m := ⟨8, 2⟩) (meth := k8m2) (c := k8c2) (by decide +kernel) rfl rfl rfl (by decide +kernel)
set_option maxRecDepth 65536 in
theorem w_c5 : (Jvm.Cond.code ({ cls := "java/lang/StringUTF16", name := "compress", desc := "([CI[BII)I" } : Jvm.MethodName) jdk_52_method_21_code (7 : Nat) (Option.some Jvm.ClassFile.FieldType.int)).before args0 about1 = true := code_word (m := ⟨8, 3⟩) (meth := k8m3) (c := k8c3) (by decide +kernel) rfl rfl rfl (by decide +kernel)
set_option maxRecDepth 65536 in
theorem w_c6 : (Jvm.Cond.code ({ cls := "java/lang/StringUTF16", name := "coderFromArrayLen", desc := "([BI)B" } : Jvm.MethodName) jdk_52_method_15_code (2 : Nat) (Option.some Jvm.ClassFile.FieldType.byte)).before args0 about1 = true := code_word (m := ⟨8, 1⟩) (meth := k8m1) (c := k8c1) (by decide +kernel) rfl rfl rfl (by decide +kernel)
set_option maxRecDepth 65536 in
theorem w_c7 : (Jvm.Cond.code ({ cls := "com/example/momus/momus/model/FormatSpecifier", name := "<init>", desc := "(IIZIICI)V" } : Jvm.MethodName) prog_42_method_1_code (8 : Nat) (Option.none : Option Jvm.ClassFile.FieldType)).before args0 about1 = true := code_word (m := ⟨10, 0⟩) (meth := k10m0) (c := k10c0) (by decide +kernel) rfl rfl rfl (by decide +kernel)
set_option maxRecDepth 65536 in
theorem w_c8 : (Jvm.Cond.code ({ cls := "java/lang/Record", name := "<init>", desc := "()V" } : Jvm.MethodName) jdk_30_method_1_code (1 : Nat) (Option.none : Option Jvm.ClassFile.FieldType)).before args0 about1 = true := code_word (m := ⟨9, 0⟩) (meth := k9m0) (c := k9c0) (by decide +kernel) rfl rfl rfl (by decide +kernel)
set_option maxRecDepth 65536 in
theorem w_c9 : (Jvm.Cond.code ({ cls := "com/example/momus/momus/model/FormatSpecifier", name := "text", desc := "(Ljava/lang/String;)Ljava/lang/String;" } : Jvm.MethodName) prog_42_method_5_code (2 : Nat) (Option.some (Jvm.ClassFile.FieldType.object "java/lang/String"))).before args0 about1 = true := code_word (m := ⟨10, 1⟩) (meth := k10m1) (c := k10c1) (by decide +kernel) rfl rfl rfl (by decide +kernel)
set_option maxRecDepth 65536 in
theorem w_c10 : (Jvm.Cond.code ({ cls := "java/lang/String", name := "substring", desc := "(II)Ljava/lang/String;" } : Jvm.MethodName) jdk_42_method_92_code (5 : Nat) (Option.some (Jvm.ClassFile.FieldType.object "java/lang/String"))).before args0 about1 = true := code_word (m := ⟨7, 4⟩) (meth := k7m4) (c := k7c4) (by decide +kernel) rfl rfl rfl (by decide +kernel)
set_option maxRecDepth 65536 in
theorem w_c11 : (Jvm.Cond.code ({ cls := "java/lang/String", name := "length", desc := "()I" } : Jvm.MethodName) jdk_42_method_54_code (1 : Nat) (Option.some Jvm.ClassFile.FieldType.int)).before args0 about1 = true := code_word (m := ⟨7, 2⟩) (meth := k7m2) (c := k7c2) (by decide +kernel) rfl rfl rfl (by decide +kernel)
set_option maxRecDepth 65536 in
theorem w_c12 : (Jvm.Cond.code ({ cls := "java/lang/String", name := "coder", desc := "()B" } : Jvm.MethodName) jdk_42_method_152_code (1 : Nat) (Option.some Jvm.ClassFile.FieldType.byte)).before args0 about1 = true := code_word (m := ⟨7, 7⟩) (meth := k7m7) (c := k7c7) (by decide +kernel) rfl rfl rfl (by decide +kernel)
set_option maxRecDepth 65536 in
theorem w_c13 : (Jvm.Cond.code ({ cls := "java/lang/String", name := "checkBoundsBeginEnd", desc := "(III)V" } : Jvm.MethodName) jdk_42_method_158_code (3 : Nat) (Option.none : Option Jvm.ClassFile.FieldType)).before args0 about1 = true := code_word (m := ⟨7, 10⟩) (meth := k7m10) (c := k7c10) (by decide +kernel) rfl rfl rfl (by decide +kernel)
set_option maxRecDepth 65536 in
theorem w_c14 : (Jvm.Cond.code ({ cls := "jdk/internal/util/Preconditions", name := "checkFromToIndex", desc := "(IIILjava/util/function/BiFunction;)I" } : Jvm.MethodName) jdk_41_method_12_code (4 : Nat) (Option.some Jvm.ClassFile.FieldType.int)).before args0 about1 = true := code_word (m := ⟨11, 2⟩) (meth := k11m2) (c := k11c2) (by decide +kernel) rfl rfl rfl (by decide +kernel)
set_option maxRecDepth 65536 in
theorem w_c15 : (Jvm.Cond.code ({ cls := "java/lang/String", name := "isLatin1", desc := "()Z" } : Jvm.MethodName) jdk_42_method_154_code (1 : Nat) (Option.some Jvm.ClassFile.FieldType.boolean)).before args0 about1 = true := code_word (m := ⟨7, 8⟩) (meth := k7m8) (c := k7c8) (by decide +kernel) rfl rfl rfl (by decide +kernel)
set_option maxRecDepth 65536 in
theorem w_c16 : (Jvm.Cond.code ({ cls := "java/lang/StringLatin1", name := "newString", desc := "([BII)Ljava/lang/String;" } : Jvm.MethodName) jdk_43_method_47_code (3 : Nat) (Option.some (Jvm.ClassFile.FieldType.object "java/lang/String"))).before args0 about1 = true := code_word (m := ⟨12, 2⟩) (meth := k12m2) (c := k12c2) (by decide +kernel) rfl rfl rfl (by decide +kernel)
set_option maxRecDepth 65536 in
theorem w_c17 : (Jvm.Cond.code ({ cls := "com/example/momus/momus/model/FormatSpecifierTextPinLaw", name := "same", desc := "(Ljava/lang/String;I[CII)Z" } : Jvm.MethodName) method_2_code (5 : Nat) (Option.some Jvm.ClassFile.FieldType.boolean)).before args0 about1 = true := code_word (m := ⟨1, 1⟩) (meth := k1m1) (c := k1c1) (by decide +kernel) rfl rfl rfl (by decide +kernel)
set_option maxRecDepth 65536 in
theorem w_c18 : (Jvm.Cond.code ({ cls := "java/util/Arrays", name := "copyOfRange", desc := "([BII)[B" } : Jvm.MethodName) jdk_65_method_132_code (3 : Nat) (Option.some (Jvm.ClassFile.FieldType.array Jvm.ClassFile.FieldType.byte))).before args0 about1 = true := code_word (m := ⟨13, 2⟩) (meth := k13m2) (c := k13c2) (by decide +kernel) rfl rfl rfl (by decide +kernel)
set_option maxRecDepth 65536 in
theorem w_c19 : (Jvm.Cond.code ({ cls := "java/util/Arrays", name := "copyOfRangeByte", desc := "([BII)[B" } : Jvm.MethodName) jdk_65_method_133_code (5 : Nat) (Option.some (Jvm.ClassFile.FieldType.array Jvm.ClassFile.FieldType.byte))).before args0 about1 = true := code_word (m := ⟨13, 3⟩) (meth := k13m3) (c := k13c3) (by decide +kernel) rfl rfl rfl (by decide +kernel)
set_option maxRecDepth 65536 in
theorem w_c20 : (Jvm.Cond.code ({ cls := "java/util/Arrays", name := "checkLength", desc := "(II)V" } : Jvm.MethodName) jdk_65_method_131_code (2 : Nat) (Option.none : Option Jvm.ClassFile.FieldType)).before args0 about1 = true := code_word (m := ⟨13, 1⟩) (meth := k13m1) (c := k13c1) (by decide +kernel) rfl rfl rfl (by decide +kernel)
set_option maxRecDepth 65536 in
theorem w_c21 : (Jvm.Cond.code ({ cls := "java/lang/Math", name := "min", desc := "(II)I" } : Jvm.MethodName) jdk_29_method_69_code (2 : Nat) (Option.some Jvm.ClassFile.FieldType.int)).before args0 about1 = true := code_word (m := ⟨14, 1⟩) (meth := k14m1) (c := k14c1) (by decide +kernel) rfl rfl rfl (by decide +kernel)
set_option maxRecDepth 65536 in
theorem w_c22 : (Jvm.Cond.code ({ cls := "java/lang/String", name := "<init>", desc := "([BB)V" } : Jvm.MethodName) jdk_42_method_151_code (3 : Nat) (Option.none : Option Jvm.ClassFile.FieldType)).before args0 about1 = true := code_word (m := ⟨7, 6⟩) (meth := k7m6) (c := k7c6) (by decide +kernel) rfl rfl rfl (by decide +kernel)
set_option maxRecDepth 65536 in
theorem w_c23 : (Jvm.Cond.code ({ cls := "java/lang/String", name := "charAt", desc := "(I)C" } : Jvm.MethodName) jdk_42_method_56_code (2 : Nat) (Option.some Jvm.ClassFile.FieldType.char)).before args0 about1 = true := code_word (m := ⟨7, 3⟩) (meth := k7m3) (c := k7c3) (by decide +kernel) rfl rfl rfl (by decide +kernel)
set_option maxRecDepth 65536 in
theorem w_c24 : (Jvm.Cond.code ({ cls := "java/lang/StringLatin1", name := "charAt", desc := "([BI)C" } : Jvm.MethodName) jdk_43_method_2_code (2 : Nat) (Option.some Jvm.ClassFile.FieldType.char)).before args0 about1 = true := code_word (m := ⟨12, 1⟩) (meth := k12m1) (c := k12c1) (by decide +kernel) rfl rfl rfl (by decide +kernel)
set_option maxRecDepth 65536 in
theorem w_c25 : (Jvm.Cond.code ({ cls := "java/lang/String", name := "checkIndex", desc := "(II)V" } : Jvm.MethodName) jdk_42_method_155_code (2 : Nat) (Option.none : Option Jvm.ClassFile.FieldType)).before args0 about1 = true := code_word (m := ⟨7, 9⟩) (meth := k7m9) (c := k7c9) (by decide +kernel) rfl rfl rfl (by decide +kernel)
set_option maxRecDepth 65536 in
theorem w_c26 : (Jvm.Cond.code ({ cls := "jdk/internal/util/Preconditions", name := "checkIndex", desc := "(IILjava/util/function/BiFunction;)I" } : Jvm.MethodName) jdk_41_method_11_code (3 : Nat) (Option.some Jvm.ClassFile.FieldType.int)).before args0 about1 = true := code_word (m := ⟨11, 1⟩) (meth := k11m1) (c := k11c1) (by decide +kernel) rfl rfl rfl (by decide +kernel)
def codes1 : List Jvm.Cond := [Jvm.Cond.code x code maxLocals ret, Jvm.Cond.code ({ cls := "java/lang/String", name := "<init>", desc := "([C)V" } : Jvm.MethodName) jdk_42_method_3_code (2 : Nat) (Option.none : Option Jvm.ClassFile.FieldType), Jvm.Cond.code ({ cls := "java/lang/String", name := "<init>", desc := "([CIILjava/lang/Void;)V" } : Jvm.MethodName) jdk_42_method_149_code (6 : Nat) (Option.none : Option Jvm.ClassFile.FieldType), Jvm.Cond.code ({ cls := "java/lang/Object", name := "<init>", desc := "()V" } : Jvm.MethodName) object_method_1_code (1 : Nat) (Option.none : Option Jvm.ClassFile.FieldType), Jvm.Cond.code ({ cls := "java/lang/StringUTF16", name := "compress", desc := "([CII)[B" } : Jvm.MethodName) jdk_52_method_16_code (6 : Nat) (Option.some (Jvm.ClassFile.FieldType.array Jvm.ClassFile.FieldType.byte)), Jvm.Cond.code ({ cls := "java/lang/StringUTF16", name := "compress", desc := "([CI[BII)I" } : Jvm.MethodName) jdk_52_method_21_code (7 : Nat) (Option.some Jvm.ClassFile.FieldType.int), Jvm.Cond.code ({ cls := "java/lang/StringUTF16", name := "coderFromArrayLen", desc := "([BI)B" } : Jvm.MethodName) jdk_52_method_15_code (2 : Nat) (Option.some Jvm.ClassFile.FieldType.byte), Jvm.Cond.code ({ cls := "com/example/momus/momus/model/FormatSpecifier", name := "<init>", desc := "(IIZIICI)V" } : Jvm.MethodName) prog_42_method_1_code (8 : Nat) (Option.none : Option Jvm.ClassFile.FieldType), Jvm.Cond.code ({ cls := "java/lang/Record", name := "<init>", desc := "()V" } : Jvm.MethodName) jdk_30_method_1_code (1 : Nat) (Option.none : Option Jvm.ClassFile.FieldType), Jvm.Cond.code ({ cls := "com/example/momus/momus/model/FormatSpecifier", name := "text", desc := "(Ljava/lang/String;)Ljava/lang/String;" } : Jvm.MethodName) prog_42_method_5_code (2 : Nat) (Option.some (Jvm.ClassFile.FieldType.object "java/lang/String")), Jvm.Cond.code ({ cls := "java/lang/String", name := "substring", desc := "(II)Ljava/lang/String;" } : Jvm.MethodName) jdk_42_method_92_code (5 : Nat) (Option.some (Jvm.ClassFile.FieldType.object "java/lang/String")), Jvm.Cond.code ({ cls := "java/lang/String", name := "length", desc := "()I" } : Jvm.MethodName) jdk_42_method_54_code (1 : Nat) (Option.some Jvm.ClassFile.FieldType.int), Jvm.Cond.code ({ cls := "java/lang/String", name := "coder", desc := "()B" } : Jvm.MethodName) jdk_42_method_152_code (1 : Nat) (Option.some Jvm.ClassFile.FieldType.byte), Jvm.Cond.code ({ cls := "java/lang/String", name := "checkBoundsBeginEnd", desc := "(III)V" } : Jvm.MethodName) jdk_42_method_158_code (3 : Nat) (Option.none : Option Jvm.ClassFile.FieldType), Jvm.Cond.code ({ cls := "jdk/internal/util/Preconditions", name := "checkFromToIndex", desc := "(IIILjava/util/function/BiFunction;)I" } : Jvm.MethodName) jdk_41_method_12_code (4 : Nat) (Option.some Jvm.ClassFile.FieldType.int), Jvm.Cond.code ({ cls := "java/lang/String", name := "isLatin1", desc := "()Z" } : Jvm.MethodName) jdk_42_method_154_code (1 : Nat) (Option.some Jvm.ClassFile.FieldType.boolean), Jvm.Cond.code ({ cls := "java/lang/StringLatin1", name := "newString", desc := "([BII)Ljava/lang/String;" } : Jvm.MethodName) jdk_43_method_47_code (3 : Nat) (Option.some (Jvm.ClassFile.FieldType.object "java/lang/String")), Jvm.Cond.code ({ cls := "com/example/momus/momus/model/FormatSpecifierTextPinLaw", name := "same", desc := "(Ljava/lang/String;I[CII)Z" } : Jvm.MethodName) method_2_code (5 : Nat) (Option.some Jvm.ClassFile.FieldType.boolean), Jvm.Cond.code ({ cls := "java/util/Arrays", name := "copyOfRange", desc := "([BII)[B" } : Jvm.MethodName) jdk_65_method_132_code (3 : Nat) (Option.some (Jvm.ClassFile.FieldType.array Jvm.ClassFile.FieldType.byte)), Jvm.Cond.code ({ cls := "java/util/Arrays", name := "copyOfRangeByte", desc := "([BII)[B" } : Jvm.MethodName) jdk_65_method_133_code (5 : Nat) (Option.some (Jvm.ClassFile.FieldType.array Jvm.ClassFile.FieldType.byte)), Jvm.Cond.code ({ cls := "java/util/Arrays", name := "checkLength", desc := "(II)V" } : Jvm.MethodName) jdk_65_method_131_code (2 : Nat) (Option.none : Option Jvm.ClassFile.FieldType), Jvm.Cond.code ({ cls := "java/lang/Math", name := "min", desc := "(II)I" } : Jvm.MethodName) jdk_29_method_69_code (2 : Nat) (Option.some Jvm.ClassFile.FieldType.int), Jvm.Cond.code ({ cls := "java/lang/String", name := "<init>", desc := "([BB)V" } : Jvm.MethodName) jdk_42_method_151_code (3 : Nat) (Option.none : Option Jvm.ClassFile.FieldType), Jvm.Cond.code ({ cls := "java/lang/String", name := "charAt", desc := "(I)C" } : Jvm.MethodName) jdk_42_method_56_code (2 : Nat) (Option.some Jvm.ClassFile.FieldType.char), Jvm.Cond.code ({ cls := "java/lang/StringLatin1", name := "charAt", desc := "([BI)C" } : Jvm.MethodName) jdk_43_method_2_code (2 : Nat) (Option.some Jvm.ClassFile.FieldType.char), Jvm.Cond.code ({ cls := "java/lang/String", name := "checkIndex", desc := "(II)V" } : Jvm.MethodName) jdk_42_method_155_code (2 : Nat) (Option.none : Option Jvm.ClassFile.FieldType), Jvm.Cond.code ({ cls := "jdk/internal/util/Preconditions", name := "checkIndex", desc := "(IILjava/util/function/BiFunction;)I" } : Jvm.MethodName) jdk_41_method_11_code (3 : Nat) (Option.some Jvm.ClassFile.FieldType.int)]
set_option maxRecDepth 65536 in
theorem codes_eq : words1.filter isCode = codes1 := rfl
theorem w_codes : ∀ c ∈ words1.filter isCode, c.before args0 about1 = true := by
  rw [codes_eq]
  intro c hc
  simp only [codes1, List.mem_cons, List.not_mem_nil, or_false] at hc
  rcases hc with rfl | rfl | rfl | rfl | rfl | rfl | rfl | rfl | rfl | rfl | rfl | rfl | rfl | rfl | rfl | rfl | rfl | rfl | rfl | rfl | rfl | rfl | rfl | rfl | rfl | rfl | rfl
  · exact w_c0
  · exact w_c1
  · exact w_c2
  · exact w_c3
  · exact w_c4
  · exact w_c5
  · exact w_c6
  · exact w_c7
  · exact w_c8
  · exact w_c9
  · exact w_c10
  · exact w_c11
  · exact w_c12
  · exact w_c13
  · exact w_c14
  · exact w_c15
  · exact w_c16
  · exact w_c17
  · exact w_c18
  · exact w_c19
  · exact w_c20
  · exact w_c21
  · exact w_c22
  · exact w_c23
  · exact w_c24
  · exact w_c25
  · exact w_c26
set_option maxRecDepth 65536 in
theorem w_t1 : (words1.take 24).all (fun c => isCode c || c.before args0 about1) = true := by decide +kernel
set_option maxRecDepth 65536 in
theorem w_t2 : ((words1.drop 24).take 24).all (fun c => isCode c || c.before args0 about1) = true := by decide +kernel
set_option maxRecDepth 65536 in
theorem w_t3 : (((words1.drop 24).drop 24).take 24).all (fun c => isCode c || c.before args0 about1) = true := by decide +kernel
set_option maxRecDepth 65536 in
theorem w_t4 : ((((words1.drop 24).drop 24).drop 24).take 24).all (fun c => isCode c || c.before args0 about1) = true := by decide +kernel
set_option maxRecDepth 65536 in
theorem w_t5 : (((((words1.drop 24).drop 24).drop 24).drop 24).take 24).all (fun c => isCode c || c.before args0 about1) = true := by decide +kernel
set_option maxRecDepth 65536 in
theorem w_t6 : (((((words1.drop 24).drop 24).drop 24).drop 24).drop 24).all (fun c => isCode c || c.before args0 about1) = true := by decide +kernel
theorem w_tables : (allAtoms (Jvm.Cond.code x code maxLocals ret :: tables_1)).before args0 about1 = true := by
  rw [allAtoms_all]
  show words1.all (fun c => c.before args0 about1) = true
  refine all_split ?_ w_codes
  rw [← List.take_append_drop 24 words1, List.all_append, w_t1, ← List.take_append_drop 24 (words1.drop 24), List.all_append, w_t2, ← List.take_append_drop 24 ((words1.drop 24).drop 24), List.all_append, w_t3, ← List.take_append_drop 24 (((words1.drop 24).drop 24).drop 24), List.all_append, w_t4, ← List.take_append_drop 24 ((((words1.drop 24).drop 24).drop 24).drop 24), List.all_append, w_t5, w_t6]
  rfl
set_option maxRecDepth 65536 in
theorem w_rest : rest_1_c.before args0 about1 = true := by decide +kernel
set_option maxRecDepth 65536 in
theorem w_case : (Jvm.Cond.and given_1 narrow_1).before args0 about1 = true := by decide +kernel
set_option maxRecDepth 65536 in
theorem w_consts : constsHeld consts_1 about1 := Jvm.Lit.constsHeldB_iff.mp (by decide +kernel)
theorem w_applies : (headSpec (Jvm.Cond.code x code maxLocals ret :: tables_1) room_1).applies x e0.platform about1 = true :=
  (Spec.applies_iff w_frames).mpr ⟨w_running, w_runnable, w_alone, w_named, w_hears, w_ripe, w_room, w_tables⟩
theorem atStart : AtStart classFile x code maxLocals ret World_1 tables_1 room_1 Calls_1 rest_1 Pre_1 launch0 p0 e0 about1 theMethod args0 below0 :=
  ⟨lists_1, trivial, launch0.admits_env _ _ _, launch0.least_env, fairChoices_fair.cas, fairChoices_fair.clock, w_frames, w_args, w_heap, w_applies, ⟨w_consts, trivial⟩, w_rest, w_case⟩
end start1
theorem witness_1 : WitnessClaimed_1 := ⟨start1.p0, start1.e0, start1.about1, start1.theMethod, start1.args0, start1.below0, start1.atStart⟩
end Jvm.Pilot.@@N@@
