import JvmDerived
import JvmDerived.Pilot.@@N@@Statement
import JvmDerived.Pilot.@@N@@Code
set_option linter.unusedVariables false
set_option linter.unusedSimpArgs false
namespace Jvm.RoadKit
open Sem ClassFile Op Lib Jvm.Stand Jvm.Free Jvm.LawKit
section New
variable {p : Program} {l : Launch} {e : Env} {R : Room} {s : State} {m : MethodId} {args : Array Value} {below : List Frame} {meth : Method} {c : Code} {T : State} {locs : List Loc} {cells slots : Nat}
theorem retI (X : Stand p l e R s m args below meth c T locs cells slots) (hx : p.tables.exec = Jvm.exec) {pc : Nat} {Ls : Array Slot} {z : Int32} {rest : List Value} (hret : meth.sig.returnType = some .int) (hd : decode c.code pc = .ok (.ireturn, 1)) {fs : List Frame}
    (hl : ∀ (f : JFrame) (acts : List Action), f.method = m → f.locked = none → f.entered = [] → (doReturn e (T.setTop f) acts (some (.int z))).1 = T.setFrames fs) : Steps p.tables e below (T.setTop (mkF m pc Ls (.int z :: rest))) (T.setFrames fs) := by
  have hm' : T.vm.method? m = some meth := X.method'
  have hn : narrow .int (.int z) = .int z := rfl
  show Steps p.tables e below (T.setTop { method := m, pc := pc, locals := Ls, stack := _ :: rest, locked := none }) _
  jvm_step X.here [X.here.top, hx, hd, hm', hret, hn]
  first | (intro acts; rw [hl _ acts rfl rfl rfl]) | rw [hl _ _ rfl rfl rfl]
  exact Steps.refl _
end New
end Jvm.RoadKit
namespace Jvm.Pilot.@@N@@
open Jvm Jvm.ClassFile Sem Op Lib Jvm.Free Jvm.Stand Jvm.LawKit Jvm.RoadKit Bundle Jvm.Pilot.@@N@@.Jvm.D
theorem own_irem (x y : Int32) : x - (x / y) * y = x % y := by
  apply Int32.toInt_inj.mp
  have h1 := Int32.le_toInt (x % y)
  have h2 := Int32.toInt_lt (x % y)
  rw [Int32.toInt_sub, Int32.toInt_mul, Int32.toInt_div, Int.bmod_mul_bmod, Int.sub_bmod_bmod, Int.mul_comm (x.toInt.tdiv y.toInt), ← Int.tmod_def, ← Int32.toInt_mod]
  exact Int.bmod_eq_of_le_mul_two (by omega) (by omega)
theorem own_getR {p : Program} {l : Launch} {e : Env} {R : Room} {s : State} {m : MethodId} {args : Array Value} {below : List Frame} {meth : Method} {c : Code} {T : State} {locs : List Loc} {cells slots : Nat} {Z : State} {a0 : Array Value} {h : Heap}
    (X : Stand p l e R s m args below meth c T locs cells slots) (hx : p.tables.exec = Jvm.exec) (hZ : Z.Warmed39 s.vm) {own O n d : String} {index : Nat} (hown : s.vm.findClass own = some m.cls) (w : (Cond.fieldRef own index O n d).before a0 Z = true)
    (eT : T.heap = h) {a : Addr} {v : Value} (F : Fld Z h a O n d v) {g : JFrame} (hg : g.method = m) {rest : List Value} (hs : g.stack = .ref a :: rest) (hd : decode c.code g.pc = .ok (.getfield index, 3)) :
    ∃ T', Stand p l e R s m args below meth c T' locs cells slots ∧ T'.heap = h ∧ ∀ target, Steps p.tables e below (T'.setTop { g with pc := g.pc + 3, stack := v :: rest }) target → Steps p.tables e below (T.setTop g) target := by
  have hT : Z.Warmed39 T.vm := wtrans hZ X.warmed
  have w' := Cond.fieldRef_warmed39 hT w
  have hc : (Z.setVm T.vm).vm.findClass own = some m.cls := by
    rw [show (Z.setVm T.vm).vm = T.vm from rfl, X.warmed.alike.findClass]; exact hown
  obtain ⟨cf, k, i, f, hff, hready⟩ := Cond.fieldRef_spec hc w'
  obtain ⟨cell, cf', k', i', f', q1, q2, q3, q4, q5, q6, q7⟩ := F
  obtain ⟨k2, hi, ek⟩ := State.fieldFound?_setVm (s := Z) hT.alike q2
  cases hff.symm.trans hi
  exact ⟨T, X, eT, fun target ht => (X.getfieldR hx hg hready q3 hs (by rw [eT]; exact q1) q4 q7 hd (Steps.refl _)).trans ht⟩
theorem own_insAny {Z : State} {a0 : Array Value} {h : Heap} {own K C : String} {index d : Nat} {a : Addr} (hd : Z.vm.findClass own = some d) (w : (Cond.classLink own index K).before a0 Z = true) (E : Exa Z h a C) : ∃ b, Ins Z h a K b := by
  obtain ⟨cell, k, h1, -⟩ := E
  obtain ⟨cT, hK, -⟩ := Cond.classLink_spec hd w {} rfl
  exact ⟨_, cell, cT, h1, hK, rfl⟩
theorem own_mvM {Z s : State} {a0 args : Array Value} {own host : String} {y : MethodName} {index : Nat} (hZ : Z.Warmed39 s.vm) (w : (Cond.methodLinkNest own index y host).before a0 Z = true) : (Cond.methodLinkNest own index y host).before args s = true := (Cond.methodLinkNest_wide hZ w :)
theorem own_w {Z : State} {a0 : Array Value} (hw : ∀ d ∈ tables_1, d.before a0 Z = true) (i : Nat) {d : Jvm.Cond} (h : tables_1[i]? = some d) : d.before a0 Z = true := hw _ (List.mem_of_getElem? h)
theorem own_eqI {args : Array Value} {first s : State} {o : Option Outcome} {idx : List Nat} {t : Term} {k : Int32} (h : (Cond.eq t (.int k)).value args first o s idx = some true) : t.eval args first o idx s = some (.int k) :=
  Cond.eq_int (by simp [Cond.holds, h]) (Term.int_eval _)
def own_EL : List (String × Nat) := [("com/example/assemble_quorum/assemblequorum/service/RoundFinalCandidatePinLaw", 15), ("com/example/assemble_quorum/assemblequorum/service/RoundFinalCandidatePinLaw", 20)]
theorem own_EW {Z : State} {a0 : Array Value} (hw : ∀ d ∈ tables_1, d.before a0 Z = true) : EW Z a0 own_EL := (EW.cons (own_w hw 6 rfl) (by decide) (EW.cons (own_w hw 103 rfl) (by decide) EW.nil))
theorem own_sub : ∀ q ∈ own_EL, q ∈ consts_1 := by decide
theorem own_wS {Z : State} {a0 : Array Value} (hw : ∀ d ∈ tables_1, d.before a0 Z = true) : ∀ a ∈ Bundle.stringAtoms, a.before a0 Z = true := by
  intro a ha
  simp only [Bundle.stringAtoms, List.mem_cons, List.not_mem_nil, or_false] at ha
  rcases ha with rfl | rfl | rfl | rfl | rfl | rfl | rfl
  · exact (own_w hw 7 rfl)
  · exact (own_w hw 8 rfl)
  · exact (own_w hw 9 rfl)
  · exact (own_w hw 10 rfl)
  · exact (own_w hw 11 rfl)
  · exact (own_w hw 12 rfl)
  · exact (own_w hw 13 rfl)
def own_Gl (Z : State) (cs : Int32) (wf : Value) : Prop := (Sta Z Z.heap "java/lang/String" "COMPACT_STRINGS" "Z" (.int cs)) ∧ (¬ (cs = (0 : Int32))) ∧ (Sta Z Z.heap "jdk/internal/util/Preconditions" "SIOOBE_FORMATTER" "Ljava/util/function/BiFunction;" wf) ∧ (wf = .null ∨ ∃ x, wf = .ref x)
theorem own_mask (x z : Int64) (h : z = x &&& (9223372036854775807 : Int64)) : ¬ z < (0 : Int64) := by
  rw [Int64.lt_iff_toInt_lt, show (0 : Int64).toInt = 0 by decide, h]
  have e : (x &&& (9223372036854775807 : Int64)).toInt = x.toInt % 2 ^ 63 := by
    show (x.toBitVec &&& (9223372036854775807 : Int64).toBitVec).toInt = x.toBitVec.toInt % 2 ^ 63
    have hb := x.toBitVec.isLt
    have h1 : (x.toBitVec &&& (9223372036854775807 : Int64).toBitVec).toNat = x.toBitVec.toNat % 2 ^ 63 := by
      rw [BitVec.toNat_and, show (9223372036854775807 : Int64).toBitVec.toNat = 2 ^ 63 - 1 from by decide, Nat.and_two_pow_sub_one_eq_mod]
    rw [BitVec.toInt_eq_toNat_cond, BitVec.toInt_eq_toNat_cond, h1]
    split <;> split <;> omega
  omega
theorem own_port (x z : Int32) (h : z = 1 + (x &&& 2147483647) % 65535) : ¬ z < (1 : Int32) ∧ ¬ (65535 : Int32) < z := by
  have h1 := c_and x 2147483647 (by decide)
  have h2 := (c_irem (x &&& 2147483647) 65535 65535 (by decide)).1 h1.1
  have e : z.toInt = 1 + ((x &&& 2147483647) % 65535).toInt := by
    rw [h, Int32.toInt_add, show (1 : Int32).toInt = 1 by decide, h2]
    exact Int.bmod_eq_of_le (by omega) (by omega)
  simp only [Int32.lt_iff_toInt_lt, show (1 : Int32).toInt = 1 by decide, show (65535 : Int32).toInt = 65535 by decide]
  omega
theorem own_asy64 {a b : Int64} (h : a < b) : ¬ b < a := by simp only [Int64.lt_iff_toInt_lt] at *; omega
theorem own_ne64 {a b : Int64} (h : a < b) : ¬ b = a := fun q => by rw [q] at h; simp only [Int64.lt_iff_toInt_lt] at h; omega
theorem own_tri64 {a b : Int64} (h : ¬ a < b) (q : ¬ b = a) : b < a := by simp only [Int64.lt_iff_toInt_lt, ← Int64.toInt_inj] at *; omega
theorem own_irr64 {a b : Int64} (q : b = a) : ¬ b < a := by rw [q, Int64.lt_iff_toInt_lt]; omega
theorem own_asy32 {a b : Int32} (h : a < b) : ¬ b < a := by simp only [Int32.lt_iff_toInt_lt] at *; omega
theorem own_ne32 {a b : Int32} (h : a < b) : ¬ b = a := fun q => by rw [q] at h; simp only [Int32.lt_iff_toInt_lt] at h; omega
theorem own_tri32 {a b : Int32} (h : ¬ a < b) (q : ¬ b = a) : b < a := by simp only [Int32.lt_iff_toInt_lt, ← Int32.toInt_inj] at *; omega
theorem own_irr32 {a b : Int32} (q : b = a) : ¬ b < a := by rw [q, Int32.lt_iff_toInt_lt]; omega
theorem own_ef1 (m : MethodId) (x0 : Int32) (x1 : Int64) (x2 : Int64) (x3 : Int32) (x4 : Int32) (x5 : Int32) : entryFrame m #[(.int x0), (.long x1), (.long x2), (.int x3), (.int x4), (.int x5)] maxLocals = mkF m 0 #[.val (.int x0), .val (.long x1), .second, .val (.long x2), .second, .val (.int x3), .val (.int x4), .val (.int x5), .unset, .unset, .unset, .unset, .unset, .unset, .unset, .unset, .unset, .unset, .unset, .unset, .unset, .unset, .unset, .unset, .unset] [] := by first | (simp [entryFrame, mkF, argsToLocals, Value.category, maxLocals]; done) | rfl
theorem own_pn0 : plainName "com/example/assemble_quorum/assemblequorum/service/RoundFinalCandidatePinLaw" = true := by first | (simp [plainName, overriddenIn]; done) | decide +kernel
abbrev own_y0 : MethodName := ⟨"com/example/assemble_quorum/assemblequorum/model/MemberAddress", "<init>", "(Ljava/lang/String;I)V"⟩
theorem own_ef2 (m : MethodId) (x0 : Addr) (x1 : Addr) (x2 : Int32) : entryFrame m #[(.ref x0), (.ref x1), (.int x2)] 3 = mkF m 0 #[.val (.ref x0), .val (.ref x1), .val (.int x2)] [] := by first | (simp [entryFrame, mkF, argsToLocals, Value.category]; done) | rfl
theorem own_pn1 : plainName "com/example/assemble_quorum/assemblequorum/model/MemberAddress" = true := by first | (simp [plainName, overriddenIn]; done) | decide +kernel
theorem own_d1_0 : decode prog_30_method_1_code 0 = .ok (.aload_n 0, 1) := by decide +kernel
theorem own_d1_1 : decode prog_30_method_1_code 1 = .ok (.invokespecial 3, 3) := by decide +kernel
theorem own_d1_4 : decode prog_30_method_1_code 4 = .ok (.aload_n 1, 1) := by decide +kernel
theorem own_d1_5 : decode prog_30_method_1_code 5 = .ok (.ldc 9, 2) := by decide +kernel
theorem own_d1_7 : decode prog_30_method_1_code 7 = .ok (.invokestatic 11, 3) := by decide +kernel
abbrev own_y1 : MethodName := ⟨"java/util/Objects", "requireNonNull", "(Ljava/lang/Object;Ljava/lang/String;)Ljava/lang/Object;"⟩
theorem own_ef3 (m : MethodId) (x0 : Addr) (x1 : Addr) : entryFrame m #[(.ref x0), (.ref x1)] 2 = mkF m 0 #[.val (.ref x0), .val (.ref x1)] [] := by first | (simp [entryFrame, mkF, argsToLocals, Value.category]; done) | rfl
theorem own_pn2 : plainName "java/util/Objects" = true := by first | (simp [plainName, overriddenIn]; done) | decide +kernel
theorem own_d3_0 : decode jdk_31_method_11_code 0 = .ok (.aload_n 0, 1) := by decide +kernel
theorem own_d3_1 : decode jdk_31_method_11_code 1 = .ok (.ifnonnull 12, 3) := by decide +kernel
theorem own_d3_13 : decode jdk_31_method_11_code 13 = .ok (.aload_n 0, 1) := by decide +kernel
theorem own_d3_14 : decode jdk_31_method_11_code 14 = .ok (.areturn, 1) := by decide +kernel
def own_Q_rmA1 (Z : State) (ob0 : Addr) (ob1 : Addr)  (cs : Int32) (wf : Value) (h0 : Heap) (n0 : Nat) (v : Option Value) (h : Heap) (L : List Loc) : Prop := v = some (.ref ob0) ∧ Fr n0 L ∧ h = h0
set_option maxRecDepth 65536 in
set_option maxHeartbeats 40000000 in
theorem rmA1 (l : Launch) (Z : State) (a0 : Array Value) (hw : ∀ d ∈ tables_1, d.before a0 Z = true) (ws : List Jvm.Cond) (ob0 : Addr) (ob1 : Addr)  (cs : Int32) (wf : Value) (h0 : Heap) (n0 : Nat) (O0 : Old Z n0 h0) (G : own_Gl Z cs wf) :
    MetFree l own_y1 (head1 (Jvm.Cond.code own_y1 jdk_31_method_11_code 2 (some (.object "java/lang/Object")) :: ws) ({ frames := 0, cells := 0, slots := 0, locals := 0 } : Room)) (fun a U => a = #[(.ref ob0), (.ref ob1)] ∧ Z.Warmed39 U.vm ∧ U.heap = h0) (fun _ _ _ _ _ => True) (fun _ U o U' => ∃ v L, o = .returned v ∧ own_Q_rmA1 Z ob0 ob1 cs wf h0 n0 v U'.heap L ∧ FrameEnd U o U' L ({ frames := 0, cells := 0, slots := 0, locals := 0 } : Room).cells ({ frames := 0, cells := 0, slots := 0, locals := 0 } : Room).slots) := by
  refine MetFree.of_bodySF (plainFor_of_name own_pn2) hisR ?_
  intro p e s m args below meth c s₁ Bd hml0 hP hK
  obtain ⟨rfl, hZ, hh⟩ := hP
  have hx := Bd.exec
  have hby := Bd.bytes
  have hml : c.maxLocals = 2 := hml0
  have hown : s.vm.findClass "java/util/Objects" = some m.cls := findClass_of_methodNamed Bd.named
  have hnm := (name_of_methodNamed Bd.named Bd.method).1
  have X0 : Stand p l e ({ frames := 0, cells := 0, slots := 0, locals := 0 } : Room) s m #[(.ref ob0), (.ref ob1)] below meth c s₁ [] 0 0 := Stand.of_body Bd
  have e0 : s₁.heap = h0 := by rw [← hh, Bd.state]; rfl
  have N0 := Fr.nil n0
  have Z0 : n0 ≤ h0.size := O0.1 ▸ O0.2.1
  have g0 : ∀ t, Steps p.tables e below (s₁.setTop (mkF m 0 #[.val (.ref ob0), .val (.ref ob1)] [])) t → Steps p.tables e below (s₁.setTop (entryFrame m #[(.ref ob0), (.ref ob1)] 2)) t := fun t k => castTop (own_ef3 m (ob0) (ob1)) k
  have G0 := G
  obtain ⟨S_CS, hcs, S_WF, hwf⟩ := G
  have g1 : ∀ t, Steps p.tables e below (s₁.setTop (mkF m 14 #[.val (.ref ob0), .val (.ref ob1)] [(.ref ob0)])) t → Steps p.tables e below (s₁.setTop (entryFrame m #[(.ref ob0), (.ref ob1)] 2)) t := by
    intro t k
    refine g0 t ?_
    show Steps p.tables e below (s₁.setTop (mkF m 0 #[.val (.ref ob0), .val (.ref ob1)] [])) _
    refine XS.aloadN X0.here hx rfl (hb hby own_d3_0) rfl rfl ?_
    refine XS.ifnonnullYes X0.here hx rfl (pc0 := 1) (pc' := 13) rfl (hb hby own_d3_1) rfl (by decide) (by decide) ?_
    refine XS.aloadN X0.here hx rfl (hb hby own_d3_13) rfl rfl ?_
    exact k
  obtain ⟨fs, hrt, hrun, hended, hW, hsame⟩ := X0.leave (v := some (.ref ob0)) (fun h => by rw [Bd.returns] at h; cases h)
  refine ⟨_, _, g1 _ ?_, hrun, hended, _, _, rfl, ?_, ⟨_, rfl⟩, hW, hsame.mono (by decide) (by decide)⟩
  · show Steps p.tables e below (s₁.setTop (mkF m 14 #[.val (.ref ob0), .val (.ref ob1)] [(.ref ob0)])) _
    jvm_step X0.here [X0.here.top, hx, (hb hby own_d3_14), X0.method', Bd.returns, Value.isRef, FieldType.isReference]
    first | (intro acts; rw [hrt _ acts rfl rfl rfl]) | rw [hrt _ _ rfl rfl rfl]
    exact Steps.refl _
  · show own_Q_rmA1 Z ob0 ob1 cs wf h0 n0 _ s₁.heap _
    rw [e0]
    exact ⟨rfl, N0, rfl⟩
theorem own_pd0 : parseMethodDescriptor "(Ljava/lang/Object;Ljava/lang/String;)Ljava/lang/Object;" = some ⟨[(.object "java/lang/Object"), (.object "java/lang/String")], some (.object "java/lang/Object")⟩ := by decide +kernel
theorem own_d1_10 : decode prog_30_method_1_code 10 = .ok (.pop, 1) := by decide +kernel
theorem own_d1_11 : decode prog_30_method_1_code 11 = .ok (.aload_n 1, 1) := by decide +kernel
theorem own_d1_12 : decode prog_30_method_1_code 12 = .ok (.invokestatic 17, 3) := by decide +kernel
abbrev own_y2 : MethodName := ⟨"com/example/assemble_quorum/assemblequorum/model/MemberAddress", "checkHost", "(Ljava/lang/String;)V"⟩
theorem own_ef4 (m : MethodId) (x0 : Addr) : entryFrame m #[(.ref x0)] 5 = mkF m 0 #[.val (.ref x0), .unset, .unset, .unset, .unset] [] := by first | (simp [entryFrame, mkF, argsToLocals, Value.category]; done) | rfl
theorem own_d4_0 : decode prog_30_method_9_code 0 = .ok (.aload_n 0, 1) := by decide +kernel
theorem own_d4_1 : decode prog_30_method_9_code 1 = .ok (.invokevirtual 97, 3) := by decide +kernel
abbrev own_y3 : MethodName := ⟨"java/lang/String", "isEmpty", "()Z"⟩
theorem own_ef5 (m : MethodId) (x0 : Addr) : entryFrame m #[(.ref x0)] 1 = mkF m 0 #[.val (.ref x0)] [] := by first | (simp [entryFrame, mkF, argsToLocals, Value.category]; done) | rfl
theorem own_pn3 : plainName "java/lang/String" = true := by first | (simp [plainName, overriddenIn]; done) | decide +kernel
theorem own_d5_0 : decode jdk_42_method_55_code 0 = .ok (.aload_n 0, 1) := by decide +kernel
theorem own_d5_1 : decode jdk_42_method_55_code 1 = .ok (.getfield 9, 3) := by decide +kernel
theorem own_d5_4 : decode jdk_42_method_55_code 4 = .ok (.arraylength, 1) := by decide +kernel
theorem own_d5_5 : decode jdk_42_method_55_code 5 = .ok (.ifCond .ne 7, 3) := by decide +kernel
theorem own_d5_12 : decode jdk_42_method_55_code 12 = .ok (.iconst 0, 1) := by decide +kernel
theorem own_d5_13 : decode jdk_42_method_55_code 13 = .ok (.ireturn, 1) := by decide +kernel
def own_Q_rmA3 (Z : State) (ob0 : Addr) (ob0_value : Addr) (k_ob0_value : ClassId)  (cs : Int32) (wf : Value) (h0 : Heap) (n0 : Nat) (v : Option Value) (h : Heap) (L : List Loc) : Prop := v = some (.int (0 : Int32)) ∧ Fr n0 L ∧ h = h0
set_option maxRecDepth 65536 in
set_option maxHeartbeats 40000000 in
theorem rmA3 (l : Launch) (Z : State) (a0 : Array Value) (hw : ∀ d ∈ tables_1, d.before a0 Z = true) (ws : List Jvm.Cond) (ob0 : Addr) (ob0_value : Addr) (k_ob0_value : ClassId)  (cs : Int32) (wf : Value) (h0 : Heap) (n0 : Nat) (O0 : Old Z n0 h0) (G : own_Gl Z cs wf) (E_ob0 : Exa Z h0 ob0 "java/lang/String") (F_ob0_coder : Fld Z h0 ob0 "java/lang/String" "coder" "B" (.int (0 : Int32))) (V_ob0_value : Arv Z h0 ob0_value k_ob0_value .byte (1 : Int32) [(.int (115 : Int32))] (.int (0 : Int32))) (F_ob0_value : Fld Z h0 ob0 "java/lang/String" "value" "[B" (.ref ob0_value)) :
    MetFree l own_y3 (head1 (Jvm.Cond.code own_y3 jdk_42_method_55_code 1 (some .boolean) :: ws) ({ frames := 0, cells := 0, slots := 0, locals := 0 } : Room)) (fun a U => a = #[(.ref ob0)] ∧ Z.Warmed39 U.vm ∧ U.heap = h0) (fun _ _ _ _ _ => True) (fun _ U o U' => ∃ v L, o = .returned v ∧ own_Q_rmA3 Z ob0 ob0_value k_ob0_value cs wf h0 n0 v U'.heap L ∧ FrameEnd U o U' L ({ frames := 0, cells := 0, slots := 0, locals := 0 } : Room).cells ({ frames := 0, cells := 0, slots := 0, locals := 0 } : Room).slots) := by
  refine MetFree.of_bodySF (plainFor_of_name own_pn3) hisR ?_
  intro p e s m args below meth c s₁ Bd hml0 hP hK
  obtain ⟨rfl, hZ, hh⟩ := hP
  have hx := Bd.exec
  have hby := Bd.bytes
  have hml : c.maxLocals = 1 := hml0
  have hown : s.vm.findClass "java/lang/String" = some m.cls := findClass_of_methodNamed Bd.named
  have hnm := (name_of_methodNamed Bd.named Bd.method).1
  have X0 : Stand p l e ({ frames := 0, cells := 0, slots := 0, locals := 0 } : Room) s m #[(.ref ob0)] below meth c s₁ [] 0 0 := Stand.of_body Bd
  have e0 : s₁.heap = h0 := by rw [← hh, Bd.state]; rfl
  have N0 := Fr.nil n0
  have Z0 : n0 ≤ h0.size := O0.1 ▸ O0.2.1
  have g0 : ∀ t, Steps p.tables e below (s₁.setTop (mkF m 0 #[.val (.ref ob0)] [])) t → Steps p.tables e below (s₁.setTop (entryFrame m #[(.ref ob0)] 1)) t := fun t k => castTop (own_ef5 m (ob0)) k
  have G0 := G
  obtain ⟨S_CS, hcs, S_WF, hwf⟩ := G
  obtain ⟨T1, X1, e1, st1⟩ := getF X0 hx hZ hown (host := "") (Or.inl (own_w hw 33 rfl)) Via.refl e0 F_ob0_value (g := (mkF m 1 #[.val (.ref ob0)] [(.ref ob0)])) rfl rfl (hb hby own_d5_1)
  obtain ⟨c2, Ar2, cq2, S2, Nn2, Hh2, Gg2⟩ := id V_ob0_value
  have g3 : ∀ t, Steps p.tables e below (T1.setTop (mkF m 13 #[.val (.ref ob0)] [(.int (0 : Int32))])) t → Steps p.tables e below (s₁.setTop (entryFrame m #[(.ref ob0)] 1)) t := by
    intro t k
    refine g0 t ?_
    show Steps p.tables e below (s₁.setTop (mkF m 0 #[.val (.ref ob0)] [])) _
    refine XS.aloadN X0.here hx rfl (hb hby own_d5_0) rfl rfl ?_
    refine st1 _ ?_
    show Steps p.tables e below (T1.setTop (mkF m 4 #[.val (.ref ob0)] [(.ref ob0_value)])) _
    refine X1.arraylength hx (by rw [e1]; exact Ar2.1) (State.isArrayOf_alike hZ.alike Ar2.2.1) (g := (mkF m 4 #[.val (.ref ob0)] [(.ref ob0_value)])) rfl rfl (hb hby own_d5_4) _ ?_
    rw [len_of S2 Nn2]
    show Steps p.tables e below (T1.setTop (mkF m 5 #[.val (.ref ob0)] [(.int (1 : Int32))])) _
    refine XS.ifYes X1.here hx rfl (pc0 := 5) (pc' := 12) rfl (hb hby own_d5_5) rfl ((if0 _ _).trans (feq (by decide : ¬ ((1 : Int32) = (0 : Int32)))).2) (by decide) (by decide) ?_
    refine XS.iconst X1.here hx rfl (hb hby own_d5_12) ?_
    exact k
  obtain ⟨fs, hrt, hrun, hended, hW, hsame⟩ := X1.leave (v := some (.int (0 : Int32))) (fun h => by rw [Bd.returns] at h; cases h)
  refine ⟨_, _, g3 _ ?_, hrun, hended, _, _, rfl, ?_, ⟨_, rfl⟩, hW, hsame.mono (by decide) (by decide)⟩
  · show Steps p.tables e below (T1.setTop (mkF m 13 #[.val (.ref ob0)] [(.int (0 : Int32))])) _
    exact retN X1 hx (t := .boolean) Bd.returns (by simp) (hb hby own_d5_13) hrt
  · show own_Q_rmA3 Z ob0 ob0_value k_ob0_value cs wf h0 n0 _ T1.heap _
    rw [e1]
    exact ⟨rfl, N0, rfl⟩
theorem own_pd1 : parseMethodDescriptor "()Z" = some ⟨[], some .boolean⟩ := by decide +kernel
theorem own_d4_4 : decode prog_30_method_9_code 4 = .ok (.ifCond .eq 13, 3) := by decide +kernel
theorem own_d4_17 : decode prog_30_method_9_code 17 = .ok (.aload_n 0, 1) := by decide +kernel
theorem own_d4_18 : decode prog_30_method_9_code 18 = .ok (.invokevirtual 103, 3) := by decide +kernel
abbrev own_y4 : MethodName := ⟨"java/lang/String", "length", "()I"⟩
theorem own_ef6 (m : MethodId) (x0 : Addr) : entryFrame m #[(.ref x0)] 1 = mkF m 0 #[.val (.ref x0)] [] := by first | (simp [entryFrame, mkF, argsToLocals, Value.category]; done) | rfl
theorem own_d6_0 : decode jdk_42_method_54_code 0 = .ok (.aload_n 0, 1) := by decide +kernel
theorem own_d6_1 : decode jdk_42_method_54_code 1 = .ok (.getfield 9, 3) := by decide +kernel
theorem own_d6_4 : decode jdk_42_method_54_code 4 = .ok (.arraylength, 1) := by decide +kernel
theorem own_d6_5 : decode jdk_42_method_54_code 5 = .ok (.aload_n 0, 1) := by decide +kernel
theorem own_d6_6 : decode jdk_42_method_54_code 6 = .ok (.invokevirtual 335, 3) := by decide +kernel
abbrev own_y5 : MethodName := ⟨"java/lang/String", "coder", "()B"⟩
theorem own_ef7 (m : MethodId) (x0 : Addr) : entryFrame m #[(.ref x0)] 1 = mkF m 0 #[.val (.ref x0)] [] := by first | (simp [entryFrame, mkF, argsToLocals, Value.category]; done) | rfl
theorem own_d7_0 : decode jdk_42_method_152_code 0 = .ok (.getstatic 38, 3) := by decide +kernel
theorem own_d7_3 : decode jdk_42_method_152_code 3 = .ok (.ifCond .eq 10, 3) := by decide +kernel
theorem own_d7_6 : decode jdk_42_method_152_code 6 = .ok (.aload_n 0, 1) := by decide +kernel
theorem own_d7_7 : decode jdk_42_method_152_code 7 = .ok (.getfield 15, 3) := by decide +kernel
theorem own_d7_10 : decode jdk_42_method_152_code 10 = .ok (.goto 4, 3) := by decide +kernel
theorem own_d7_14 : decode jdk_42_method_152_code 14 = .ok (.ireturn, 1) := by decide +kernel
def own_Q_rmA5 (Z : State) (ob0 : Addr) (ob0_value : Addr) (k_ob0_value : ClassId)  (cs : Int32) (wf : Value) (h0 : Heap) (n0 : Nat) (v : Option Value) (h : Heap) (L : List Loc) : Prop := v = some (.int (0 : Int32)) ∧ Fr n0 L ∧ h = h0
set_option maxRecDepth 65536 in
set_option maxHeartbeats 40000000 in
theorem rmA5 (l : Launch) (Z : State) (a0 : Array Value) (hw : ∀ d ∈ tables_1, d.before a0 Z = true) (ws : List Jvm.Cond) (ob0 : Addr) (ob0_value : Addr) (k_ob0_value : ClassId)  (cs : Int32) (wf : Value) (h0 : Heap) (n0 : Nat) (O0 : Old Z n0 h0) (G : own_Gl Z cs wf) (E_ob0 : Exa Z h0 ob0 "java/lang/String") (F_ob0_coder : Fld Z h0 ob0 "java/lang/String" "coder" "B" (.int (0 : Int32))) (V_ob0_value : Arv Z h0 ob0_value k_ob0_value .byte (1 : Int32) [(.int (115 : Int32))] (.int (0 : Int32))) (F_ob0_value : Fld Z h0 ob0 "java/lang/String" "value" "[B" (.ref ob0_value)) :
    MetFree l own_y5 (head1 (Jvm.Cond.code own_y5 jdk_42_method_152_code 1 (some .byte) :: ws) ({ frames := 0, cells := 0, slots := 0, locals := 0 } : Room)) (fun a U => a = #[(.ref ob0)] ∧ Z.Warmed39 U.vm ∧ U.heap = h0) (fun _ _ _ _ _ => True) (fun _ U o U' => ∃ v L, o = .returned v ∧ own_Q_rmA5 Z ob0 ob0_value k_ob0_value cs wf h0 n0 v U'.heap L ∧ FrameEnd U o U' L ({ frames := 0, cells := 0, slots := 0, locals := 0 } : Room).cells ({ frames := 0, cells := 0, slots := 0, locals := 0 } : Room).slots) := by
  refine MetFree.of_bodySF (plainFor_of_name own_pn3) hisR ?_
  intro p e s m args below meth c s₁ Bd hml0 hP hK
  obtain ⟨rfl, hZ, hh⟩ := hP
  have hx := Bd.exec
  have hby := Bd.bytes
  have hml : c.maxLocals = 1 := hml0
  have hown : s.vm.findClass "java/lang/String" = some m.cls := findClass_of_methodNamed Bd.named
  have hnm := (name_of_methodNamed Bd.named Bd.method).1
  have X0 : Stand p l e ({ frames := 0, cells := 0, slots := 0, locals := 0 } : Room) s m #[(.ref ob0)] below meth c s₁ [] 0 0 := Stand.of_body Bd
  have e0 : s₁.heap = h0 := by rw [← hh, Bd.state]; rfl
  have N0 := Fr.nil n0
  have Z0 : n0 ≤ h0.size := O0.1 ▸ O0.2.1
  have g0 : ∀ t, Steps p.tables e below (s₁.setTop (mkF m 0 #[.val (.ref ob0)] [])) t → Steps p.tables e below (s₁.setTop (entryFrame m #[(.ref ob0)] 1)) t := fun t k => castTop (own_ef7 m (ob0)) k
  have G0 := G
  obtain ⟨S_CS, hcs, S_WF, hwf⟩ := G
  obtain ⟨T1, X1, e1, st1⟩ := getS2 X0 hx hZ hown (host := "") (Or.inl (own_w hw 44 rfl)) Via.refl e0 (S_CS.ext O0.2) (g := (mkF m 0 #[.val (.ref ob0)] [])) rfl (hb hby own_d7_0)
  have hc2 : ¬ (cs = (0 : Int32)) := hcs
  obtain ⟨T3, X3, e3, st3⟩ := getF X1 hx hZ hown (host := "") (Or.inl (own_w hw 45 rfl)) Via.refl e1 F_ob0_coder (g := (mkF m 7 #[.val (.ref ob0)] [(.ref ob0)])) rfl rfl (hb hby own_d7_7)
  have g4 : ∀ t, Steps p.tables e below (T3.setTop (mkF m 14 #[.val (.ref ob0)] [(.int (0 : Int32))])) t → Steps p.tables e below (s₁.setTop (entryFrame m #[(.ref ob0)] 1)) t := by
    intro t k
    refine g0 t ?_
    show Steps p.tables e below (s₁.setTop (mkF m 0 #[.val (.ref ob0)] [])) _
    refine st1 _ ?_
    refine XS.ifNo X1.here hx rfl (hb hby own_d7_3) rfl ((if0 _ _).trans (feq hc2).1) ?_
    refine XS.aloadN X1.here hx rfl (hb hby own_d7_6) rfl rfl ?_
    show Steps p.tables e below (T1.setTop (mkF m 7 #[.val (.ref ob0)] [(.ref ob0)])) _
    refine st3 _ ?_
    refine XS.goto X3.here hx rfl (pc0 := 10) (pc' := 14) rfl (hb hby own_d7_10) (by decide) (by decide) ?_
    exact k
  obtain ⟨fs, hrt, hrun, hended, hW, hsame⟩ := X3.leave (v := some (.int (0 : Int32))) (fun h => by rw [Bd.returns] at h; cases h)
  refine ⟨_, _, g4 _ ?_, hrun, hended, _, _, rfl, ?_, ⟨_, rfl⟩, hW, hsame.mono (by decide) (by decide)⟩
  · show Steps p.tables e below (T3.setTop (mkF m 14 #[.val (.ref ob0)] [(.int (0 : Int32))])) _
    exact retN X3 hx (t := .byte) Bd.returns (by simp) (hb hby own_d7_14) hrt
  · show own_Q_rmA5 Z ob0 ob0_value k_ob0_value cs wf h0 n0 _ T3.heap _
    rw [e3]
    exact ⟨rfl, N0, rfl⟩
theorem own_pd2 : parseMethodDescriptor "()B" = some ⟨[], some .byte⟩ := by decide +kernel
theorem own_d6_9 : decode jdk_42_method_54_code 9 = .ok (.ishr, 1) := by decide +kernel
theorem own_d6_10 : decode jdk_42_method_54_code 10 = .ok (.ireturn, 1) := by decide +kernel
def own_Q_rmA4 (Z : State) (ob0 : Addr) (ob0_value : Addr) (k_ob0_value : ClassId)  (cs : Int32) (wf : Value) (h0 : Heap) (n0 : Nat) (v : Option Value) (h : Heap) (L : List Loc) : Prop := v = some (.int (1 : Int32)) ∧ Fr n0 L ∧ h = h0
set_option maxRecDepth 65536 in
set_option maxHeartbeats 40000000 in
theorem rmA4 (l : Launch) (Z : State) (a0 : Array Value) (hw : ∀ d ∈ tables_1, d.before a0 Z = true) (ws : List Jvm.Cond) (ob0 : Addr) (ob0_value : Addr) (k_ob0_value : ClassId)  (cs : Int32) (wf : Value) (h0 : Heap) (n0 : Nat) (O0 : Old Z n0 h0) (G : own_Gl Z cs wf) (E_ob0 : Exa Z h0 ob0 "java/lang/String") (F_ob0_coder : Fld Z h0 ob0 "java/lang/String" "coder" "B" (.int (0 : Int32))) (V_ob0_value : Arv Z h0 ob0_value k_ob0_value .byte (1 : Int32) [(.int (115 : Int32))] (.int (0 : Int32))) (F_ob0_value : Fld Z h0 ob0 "java/lang/String" "value" "[B" (.ref ob0_value)) :
    MetFree l own_y4 (head1 (Jvm.Cond.code own_y4 jdk_42_method_54_code 1 (some .int) :: ws) ({ frames := 1, cells := 0, slots := 0, locals := 13 } : Room)) (fun a U => a = #[(.ref ob0)] ∧ Z.Warmed39 U.vm ∧ U.heap = h0) (fun _ _ _ _ _ => True) (fun _ U o U' => ∃ v L, o = .returned v ∧ own_Q_rmA4 Z ob0 ob0_value k_ob0_value cs wf h0 n0 v U'.heap L ∧ FrameEnd U o U' L ({ frames := 1, cells := 0, slots := 0, locals := 13 } : Room).cells ({ frames := 1, cells := 0, slots := 0, locals := 13 } : Room).slots) := by
  refine MetFree.of_bodySF (plainFor_of_name own_pn3) hisR ?_
  intro p e s m args below meth c s₁ Bd hml0 hP hK
  obtain ⟨rfl, hZ, hh⟩ := hP
  have hx := Bd.exec
  have hby := Bd.bytes
  have hml : c.maxLocals = 1 := hml0
  have hown : s.vm.findClass "java/lang/String" = some m.cls := findClass_of_methodNamed Bd.named
  have hnm := (name_of_methodNamed Bd.named Bd.method).1
  have X0 : Stand p l e ({ frames := 1, cells := 0, slots := 0, locals := 13 } : Room) s m #[(.ref ob0)] below meth c s₁ [] 0 0 := Stand.of_body Bd
  have e0 : s₁.heap = h0 := by rw [← hh, Bd.state]; rfl
  have N0 := Fr.nil n0
  have Z0 : n0 ≤ h0.size := O0.1 ▸ O0.2.1
  have g0 : ∀ t, Steps p.tables e below (s₁.setTop (mkF m 0 #[.val (.ref ob0)] [])) t → Steps p.tables e below (s₁.setTop (entryFrame m #[(.ref ob0)] 1)) t := fun t k => castTop (own_ef6 m (ob0)) k
  have G0 := G
  obtain ⟨S_CS, hcs, S_WF, hwf⟩ := G
  obtain ⟨T1, X1, e1, st1⟩ := getF X0 hx hZ hown (host := "") (Or.inl (own_w hw 33 rfl)) Via.refl e0 F_ob0_value (g := (mkF m 1 #[.val (.ref ob0)] [(.ref ob0)])) rfl rfl (hb hby own_d6_1)
  obtain ⟨c2, Ar2, cq2, S2, Nn2, Hh2, Gg2⟩ := id V_ob0_value
  obtain ⟨cq3, kq3, q3a, q3b, q3c⟩ := isOf hZ e1 E_ob0
  obtain ⟨_, _, ⟨T3, L3, k3, n3⟩, -, X3, ⟨Lc3, hQ3, l3, y3, z3⟩, st3⟩ := X1.virtualBack hx (y := own_y5) (z := own_y5) hown (mvT hZ (own_w hw 39 rfl)) (mvT hZ (own_w hw 40 rfl)) (notFace_of_selects (args := #[]) (mvT hZ (own_w hw 42 rfl))) (mvT hZ (own_w hw 42 rfl)) (mvT hZ (own_w hw 41 rfl)) (by decide) (backOf (W := 1) (rmA5 l Z a0 hw [] ob0 ob0_value k_ob0_value  cs wf h0 n0 O0 G0 E_ob0 F_ob0_coder V_ob0_value F_ob0_value  ) hZ (own_w hw 43 rfl) (own_w hw 7 rfl) (by decide) (by decide)) q3a q3c (g := (mkF m 6 #[.val (.ref ob0)] [(.ref ob0), (.int (1 : Int32))])) rfl (by rw [hml]; rfl) (Steps.refl _) (argsL := []) (rest := [(.int (1 : Int32))]) (lenOf own_pd2 rfl) rfl (by show 2 * 0 + _ ≤ _; exact Nat.le_of_eq rfl) (hb hby own_d6_6) (fun _ _ => ⟨rfl, e1, (by decide : 0 + 0 ≤ _), (by decide : 0 + 0 ≤ _)⟩)
  dsimp only [Pt.U, Pt.locs, Pt.cells, Pt.slots] at X3 l3 y3 z3 st3 hQ3
  subst l3 y3 z3
  obtain ⟨rfl, Nq3, e3⟩ := hQ3
  have N3 := Fr.app N0 Nq3
  have g4 : ∀ t, Steps p.tables e below (T3.setTop (mkF m 10 #[.val (.ref ob0)] [(.int (1 : Int32))])) t → Steps p.tables e below (s₁.setTop (entryFrame m #[(.ref ob0)] 1)) t := by
    intro t k
    refine g0 t ?_
    show Steps p.tables e below (s₁.setTop (mkF m 0 #[.val (.ref ob0)] [])) _
    refine XS.aloadN X0.here hx rfl (hb hby own_d6_0) rfl rfl ?_
    refine st1 _ ?_
    show Steps p.tables e below (T1.setTop (mkF m 4 #[.val (.ref ob0)] [(.ref ob0_value)])) _
    refine X1.arraylength hx (by rw [e1]; exact Ar2.1) (State.isArrayOf_alike hZ.alike Ar2.2.1) (g := (mkF m 4 #[.val (.ref ob0)] [(.ref ob0_value)])) rfl rfl (hb hby own_d6_4) _ ?_
    rw [len_of S2 Nn2]
    show Steps p.tables e below (T1.setTop (mkF m 5 #[.val (.ref ob0)] [(.int (1 : Int32))])) _
    refine XS.aloadN X1.here hx rfl (hb hby own_d6_5) rfl rfl ?_
    refine st3.trans ?_
    show Steps p.tables e below (T3.setTop (mkF m 9 #[.val (.ref ob0)] [(.int (0 : Int32)), (.int (1 : Int32))])) _
    refine XS.ishr X3.here hx rfl (hb hby own_d6_9) rfl ?_
    rw [show ((1 : Int32) >>> ((0 : Int32) &&& 31)) = (1 : Int32) from by decide]
    exact k
  obtain ⟨fs, hrt, hrun, hended, hW, hsame⟩ := X3.leave (v := some (.int (1 : Int32))) (fun h => by rw [Bd.returns] at h; cases h)
  refine ⟨_, _, g4 _ ?_, hrun, hended, _, _, rfl, ?_, ⟨_, rfl⟩, hW, hsame.mono (by decide) (by decide)⟩
  · show Steps p.tables e below (T3.setTop (mkF m 10 #[.val (.ref ob0)] [(.int (1 : Int32))])) _
    exact retI X3 hx Bd.returns (hb hby own_d6_10) hrt
  · show own_Q_rmA4 Z ob0 ob0_value k_ob0_value cs wf h0 n0 _ T3.heap _
    rw [e3]
    exact ⟨rfl, N3, rfl⟩
theorem own_pd3 : parseMethodDescriptor "()I" = some ⟨[], some .int⟩ := by decide +kernel
theorem own_d4_21 : decode prog_30_method_9_code 21 = .ok (.sipush 253, 3) := by decide +kernel
theorem own_d4_24 : decode prog_30_method_9_code 24 = .ok (.if_icmp .le 13, 3) := by decide +kernel
theorem own_d4_37 : decode prog_30_method_9_code 37 = .ok (.aload_n 0, 1) := by decide +kernel
theorem own_d4_38 : decode prog_30_method_9_code 38 = .ok (.bipush 58, 2) := by decide +kernel
theorem own_d4_40 : decode prog_30_method_9_code 40 = .ok (.invokevirtual 57, 3) := by decide +kernel
abbrev own_y6 : MethodName := ⟨"java/lang/String", "indexOf", "(I)I"⟩
theorem own_ef8 (m : MethodId) (x0 : Addr) (x1 : Int32) : entryFrame m #[(.ref x0), (.int x1)] 2 = mkF m 0 #[.val (.ref x0), .val (.int x1)] [] := by first | (simp [entryFrame, mkF, argsToLocals, Value.category]; done) | rfl
theorem own_d8_0 : decode jdk_42_method_79_code 0 = .ok (.aload_n 0, 1) := by decide +kernel
theorem own_d8_1 : decode jdk_42_method_79_code 1 = .ok (.iload_n 1, 1) := by decide +kernel
theorem own_d8_2 : decode jdk_42_method_79_code 2 = .ok (.iconst 0, 1) := by decide +kernel
theorem own_d8_3 : decode jdk_42_method_79_code 3 = .ok (.invokevirtual 633, 3) := by decide +kernel
abbrev own_y7 : MethodName := ⟨"java/lang/String", "indexOf", "(II)I"⟩
theorem own_ef9 (m : MethodId) (x0 : Addr) (x1 : Int32) (x2 : Int32) : entryFrame m #[(.ref x0), (.int x1), (.int x2)] 3 = mkF m 0 #[.val (.ref x0), .val (.int x1), .val (.int x2)] [] := by first | (simp [entryFrame, mkF, argsToLocals, Value.category]; done) | rfl
theorem own_d9_0 : decode jdk_42_method_80_code 0 = .ok (.aload_n 0, 1) := by decide +kernel
theorem own_d9_1 : decode jdk_42_method_80_code 1 = .ok (.invokevirtual 492, 3) := by decide +kernel
abbrev own_y8 : MethodName := ⟨"java/lang/String", "isLatin1", "()Z"⟩
theorem own_ef10 (m : MethodId) (x0 : Addr) : entryFrame m #[(.ref x0)] 1 = mkF m 0 #[.val (.ref x0)] [] := by first | (simp [entryFrame, mkF, argsToLocals, Value.category]; done) | rfl
theorem own_d10_0 : decode jdk_42_method_154_code 0 = .ok (.getstatic 38, 3) := by decide +kernel
theorem own_d10_3 : decode jdk_42_method_154_code 3 = .ok (.ifCond .eq 14, 3) := by decide +kernel
theorem own_d10_6 : decode jdk_42_method_154_code 6 = .ok (.aload_n 0, 1) := by decide +kernel
theorem own_d10_7 : decode jdk_42_method_154_code 7 = .ok (.getfield 15, 3) := by decide +kernel
theorem own_d10_10 : decode jdk_42_method_154_code 10 = .ok (.ifCond .ne 7, 3) := by decide +kernel
theorem own_d10_13 : decode jdk_42_method_154_code 13 = .ok (.iconst 1, 1) := by decide +kernel
theorem own_d10_14 : decode jdk_42_method_154_code 14 = .ok (.goto 4, 3) := by decide +kernel
theorem own_d10_18 : decode jdk_42_method_154_code 18 = .ok (.ireturn, 1) := by decide +kernel
def own_Q_rmA8 (Z : State) (ob0 : Addr) (ob0_value : Addr) (k_ob0_value : ClassId)  (cs : Int32) (wf : Value) (h0 : Heap) (n0 : Nat) (v : Option Value) (h : Heap) (L : List Loc) : Prop := v = some (.int (1 : Int32)) ∧ Fr n0 L ∧ h = h0
set_option maxRecDepth 65536 in
set_option maxHeartbeats 40000000 in
theorem rmA8 (l : Launch) (Z : State) (a0 : Array Value) (hw : ∀ d ∈ tables_1, d.before a0 Z = true) (ws : List Jvm.Cond) (ob0 : Addr) (ob0_value : Addr) (k_ob0_value : ClassId)  (cs : Int32) (wf : Value) (h0 : Heap) (n0 : Nat) (O0 : Old Z n0 h0) (G : own_Gl Z cs wf) (E_ob0 : Exa Z h0 ob0 "java/lang/String") (F_ob0_coder : Fld Z h0 ob0 "java/lang/String" "coder" "B" (.int (0 : Int32))) (V_ob0_value : Arv Z h0 ob0_value k_ob0_value .byte (1 : Int32) [(.int (115 : Int32))] (.int (0 : Int32))) (F_ob0_value : Fld Z h0 ob0 "java/lang/String" "value" "[B" (.ref ob0_value)) :
    MetFree l own_y8 (head1 (Jvm.Cond.code own_y8 jdk_42_method_154_code 1 (some .boolean) :: ws) ({ frames := 0, cells := 0, slots := 0, locals := 0 } : Room)) (fun a U => a = #[(.ref ob0)] ∧ Z.Warmed39 U.vm ∧ U.heap = h0) (fun _ _ _ _ _ => True) (fun _ U o U' => ∃ v L, o = .returned v ∧ own_Q_rmA8 Z ob0 ob0_value k_ob0_value cs wf h0 n0 v U'.heap L ∧ FrameEnd U o U' L ({ frames := 0, cells := 0, slots := 0, locals := 0 } : Room).cells ({ frames := 0, cells := 0, slots := 0, locals := 0 } : Room).slots) := by
  refine MetFree.of_bodySF (plainFor_of_name own_pn3) hisR ?_
  intro p e s m args below meth c s₁ Bd hml0 hP hK
  obtain ⟨rfl, hZ, hh⟩ := hP
  have hx := Bd.exec
  have hby := Bd.bytes
  have hml : c.maxLocals = 1 := hml0
  have hown : s.vm.findClass "java/lang/String" = some m.cls := findClass_of_methodNamed Bd.named
  have hnm := (name_of_methodNamed Bd.named Bd.method).1
  have X0 : Stand p l e ({ frames := 0, cells := 0, slots := 0, locals := 0 } : Room) s m #[(.ref ob0)] below meth c s₁ [] 0 0 := Stand.of_body Bd
  have e0 : s₁.heap = h0 := by rw [← hh, Bd.state]; rfl
  have N0 := Fr.nil n0
  have Z0 : n0 ≤ h0.size := O0.1 ▸ O0.2.1
  have g0 : ∀ t, Steps p.tables e below (s₁.setTop (mkF m 0 #[.val (.ref ob0)] [])) t → Steps p.tables e below (s₁.setTop (entryFrame m #[(.ref ob0)] 1)) t := fun t k => castTop (own_ef10 m (ob0)) k
  have G0 := G
  obtain ⟨S_CS, hcs, S_WF, hwf⟩ := G
  obtain ⟨T1, X1, e1, st1⟩ := getS2 X0 hx hZ hown (host := "") (Or.inl (own_w hw 44 rfl)) Via.refl e0 (S_CS.ext O0.2) (g := (mkF m 0 #[.val (.ref ob0)] [])) rfl (hb hby own_d10_0)
  have hc2 : ¬ (cs = (0 : Int32)) := hcs
  obtain ⟨T3, X3, e3, st3⟩ := getF X1 hx hZ hown (host := "") (Or.inl (own_w hw 45 rfl)) Via.refl e1 F_ob0_coder (g := (mkF m 7 #[.val (.ref ob0)] [(.ref ob0)])) rfl rfl (hb hby own_d10_7)
  have g4 : ∀ t, Steps p.tables e below (T3.setTop (mkF m 18 #[.val (.ref ob0)] [(.int (1 : Int32))])) t → Steps p.tables e below (s₁.setTop (entryFrame m #[(.ref ob0)] 1)) t := by
    intro t k
    refine g0 t ?_
    show Steps p.tables e below (s₁.setTop (mkF m 0 #[.val (.ref ob0)] [])) _
    refine st1 _ ?_
    refine XS.ifNo X1.here hx rfl (hb hby own_d10_3) rfl ((if0 _ _).trans (feq hc2).1) ?_
    refine XS.aloadN X1.here hx rfl (hb hby own_d10_6) rfl rfl ?_
    show Steps p.tables e below (T1.setTop (mkF m 7 #[.val (.ref ob0)] [(.ref ob0)])) _
    refine st3 _ ?_
    refine XS.ifNo X3.here hx rfl (hb hby own_d10_10) rfl ((if0 _ _).trans (teq (by decide : (0 : Int32) = (0 : Int32))).2) ?_
    refine XS.iconst X3.here hx rfl (hb hby own_d10_13) ?_
    show Steps p.tables e below (T3.setTop (mkF m 14 #[.val (.ref ob0)] [(.int (1 : Int32))])) _
    refine XS.goto X3.here hx rfl (pc0 := 14) (pc' := 18) rfl (hb hby own_d10_14) (by decide) (by decide) ?_
    exact k
  obtain ⟨fs, hrt, hrun, hended, hW, hsame⟩ := X3.leave (v := some (.int (1 : Int32))) (fun h => by rw [Bd.returns] at h; cases h)
  refine ⟨_, _, g4 _ ?_, hrun, hended, _, _, rfl, ?_, ⟨_, rfl⟩, hW, hsame.mono (by decide) (by decide)⟩
  · show Steps p.tables e below (T3.setTop (mkF m 18 #[.val (.ref ob0)] [(.int (1 : Int32))])) _
    exact retN X3 hx (t := .boolean) Bd.returns (by simp) (hb hby own_d10_18) hrt
  · show own_Q_rmA8 Z ob0 ob0_value k_ob0_value cs wf h0 n0 _ T3.heap _
    rw [e3]
    exact ⟨rfl, N0, rfl⟩
theorem own_d9_4 : decode jdk_42_method_80_code 4 = .ok (.ifCond .eq 19, 3) := by decide +kernel
theorem own_d9_7 : decode jdk_42_method_80_code 7 = .ok (.aload_n 0, 1) := by decide +kernel
theorem own_d9_8 : decode jdk_42_method_80_code 8 = .ok (.getfield 9, 3) := by decide +kernel
theorem own_d9_11 : decode jdk_42_method_80_code 11 = .ok (.iload_n 1, 1) := by decide +kernel
theorem own_d9_12 : decode jdk_42_method_80_code 12 = .ok (.iload_n 2, 1) := by decide +kernel
theorem own_d9_13 : decode jdk_42_method_80_code 13 = .ok (.aload_n 0, 1) := by decide +kernel
theorem own_d9_14 : decode jdk_42_method_80_code 14 = .ok (.invokevirtual 505, 3) := by decide +kernel
theorem own_d9_17 : decode jdk_42_method_80_code 17 = .ok (.invokestatic 637, 3) := by decide +kernel
abbrev own_y9 : MethodName := ⟨"java/lang/StringLatin1", "indexOf", "([BIII)I"⟩
theorem own_ef11 (m : MethodId) (x0 : Addr) (x1 : Int32) (x2 : Int32) (x3 : Int32) : entryFrame m #[(.ref x0), (.int x1), (.int x2), (.int x3)] 4 = mkF m 0 #[.val (.ref x0), .val (.int x1), .val (.int x2), .val (.int x3)] [] := by first | (simp [entryFrame, mkF, argsToLocals, Value.category]; done) | rfl
theorem own_pn4 : plainName "java/lang/StringLatin1" = true := by first | (simp [plainName, overriddenIn]; done) | decide +kernel
theorem own_d11_0 : decode jdk_43_method_22_code 0 = .ok (.iload_n 1, 1) := by decide +kernel
theorem own_d11_1 : decode jdk_43_method_22_code 1 = .ok (.invokestatic 88, 3) := by decide +kernel
abbrev own_y10 : MethodName := ⟨"java/lang/StringLatin1", "canEncode", "(I)Z"⟩
theorem own_ef12 (m : MethodId) (x0 : Int32) : entryFrame m #[(.int x0)] 1 = mkF m 0 #[.val (.int x0)] [] := by first | (simp [entryFrame, mkF, argsToLocals, Value.category]; done) | rfl
theorem own_d12_0 : decode jdk_43_method_4_code 0 = .ok (.iload_n 0, 1) := by decide +kernel
theorem own_d12_1 : decode jdk_43_method_4_code 1 = .ok (.ifCond .lt 14, 3) := by decide +kernel
theorem own_d12_4 : decode jdk_43_method_4_code 4 = .ok (.iload_n 0, 1) := by decide +kernel
theorem own_d12_5 : decode jdk_43_method_4_code 5 = .ok (.sipush 255, 3) := by decide +kernel
theorem own_d12_8 : decode jdk_43_method_4_code 8 = .ok (.if_icmp .gt 7, 3) := by decide +kernel
theorem own_d12_11 : decode jdk_43_method_4_code 11 = .ok (.iconst 1, 1) := by decide +kernel
theorem own_d12_12 : decode jdk_43_method_4_code 12 = .ok (.goto 4, 3) := by decide +kernel
theorem own_d12_16 : decode jdk_43_method_4_code 16 = .ok (.ireturn, 1) := by decide +kernel
def own_Q_rmA10 (Z : State)   (cs : Int32) (wf : Value) (h0 : Heap) (n0 : Nat) (v : Option Value) (h : Heap) (L : List Loc) : Prop := v = some (.int (1 : Int32)) ∧ Fr n0 L ∧ h = h0
set_option maxRecDepth 65536 in
set_option maxHeartbeats 40000000 in
theorem rmA10 (l : Launch) (Z : State) (a0 : Array Value) (hw : ∀ d ∈ tables_1, d.before a0 Z = true) (ws : List Jvm.Cond)   (cs : Int32) (wf : Value) (h0 : Heap) (n0 : Nat) (O0 : Old Z n0 h0) (G : own_Gl Z cs wf) :
    MetFree l own_y10 (head1 (Jvm.Cond.code own_y10 jdk_43_method_4_code 1 (some .boolean) :: ws) ({ frames := 0, cells := 0, slots := 0, locals := 0 } : Room)) (fun a U => a = #[(.int (58 : Int32))] ∧ Z.Warmed39 U.vm ∧ U.heap = h0) (fun _ _ _ _ _ => True) (fun _ U o U' => ∃ v L, o = .returned v ∧ own_Q_rmA10 Z cs wf h0 n0 v U'.heap L ∧ FrameEnd U o U' L ({ frames := 0, cells := 0, slots := 0, locals := 0 } : Room).cells ({ frames := 0, cells := 0, slots := 0, locals := 0 } : Room).slots) := by
  refine MetFree.of_bodySF (plainFor_of_name own_pn4) hisR ?_
  intro p e s m args below meth c s₁ Bd hml0 hP hK
  obtain ⟨rfl, hZ, hh⟩ := hP
  have hx := Bd.exec
  have hby := Bd.bytes
  have hml : c.maxLocals = 1 := hml0
  have hown : s.vm.findClass "java/lang/StringLatin1" = some m.cls := findClass_of_methodNamed Bd.named
  have hnm := (name_of_methodNamed Bd.named Bd.method).1
  have X0 : Stand p l e ({ frames := 0, cells := 0, slots := 0, locals := 0 } : Room) s m #[(.int (58 : Int32))] below meth c s₁ [] 0 0 := Stand.of_body Bd
  have e0 : s₁.heap = h0 := by rw [← hh, Bd.state]; rfl
  have N0 := Fr.nil n0
  have Z0 : n0 ≤ h0.size := O0.1 ▸ O0.2.1
  have g0 : ∀ t, Steps p.tables e below (s₁.setTop (mkF m 0 #[.val (.int (58 : Int32))] [])) t → Steps p.tables e below (s₁.setTop (entryFrame m #[(.int (58 : Int32))] 1)) t := fun t k => castTop (own_ef12 m ((58 : Int32))) k
  have G0 := G
  obtain ⟨S_CS, hcs, S_WF, hwf⟩ := G
  have g1 : ∀ t, Steps p.tables e below (s₁.setTop (mkF m 16 #[.val (.int (58 : Int32))] [(.int (1 : Int32))])) t → Steps p.tables e below (s₁.setTop (entryFrame m #[(.int (58 : Int32))] 1)) t := by
    intro t k
    refine g0 t ?_
    show Steps p.tables e below (s₁.setTop (mkF m 0 #[.val (.int (58 : Int32))] [])) _
    refine XS.iloadN X0.here hx rfl (hb hby own_d12_0) rfl ?_
    refine XS.ifNo X0.here hx rfl (hb hby own_d12_1) rfl ((if0 _ _).trans (flt (by decide : ¬ ((58 : Int32) < (0 : Int32)))).1) ?_
    refine XS.iloadN X0.here hx rfl (hb hby own_d12_4) rfl ?_
    show Steps p.tables e below (s₁.setTop (mkF m 5 #[.val (.int (58 : Int32))] [(.int (58 : Int32))])) _
    refine XS.sipush X0.here hx rfl (hb hby own_d12_5) ?_
    refine XS.icmpNo X0.here hx rfl (hb hby own_d12_8) rfl (flt (by decide : ¬ ((255 : Int32) < (58 : Int32)))).2.2.1 ?_
    refine XS.iconst X0.here hx rfl (hb hby own_d12_11) ?_
    show Steps p.tables e below (s₁.setTop (mkF m 12 #[.val (.int (58 : Int32))] [(.int (1 : Int32))])) _
    refine XS.goto X0.here hx rfl (pc0 := 12) (pc' := 16) rfl (hb hby own_d12_12) (by decide) (by decide) ?_
    exact k
  obtain ⟨fs, hrt, hrun, hended, hW, hsame⟩ := X0.leave (v := some (.int (1 : Int32))) (fun h => by rw [Bd.returns] at h; cases h)
  refine ⟨_, _, g1 _ ?_, hrun, hended, _, _, rfl, ?_, ⟨_, rfl⟩, hW, hsame.mono (by decide) (by decide)⟩
  · show Steps p.tables e below (s₁.setTop (mkF m 16 #[.val (.int (58 : Int32))] [(.int (1 : Int32))])) _
    exact retN X0 hx (t := .boolean) Bd.returns (by simp) (hb hby own_d12_16) hrt
  · show own_Q_rmA10 Z cs wf h0 n0 _ s₁.heap _
    rw [e0]
    exact ⟨rfl, N0, rfl⟩
theorem own_pd4 : parseMethodDescriptor "(I)Z" = some ⟨[.int], some .boolean⟩ := by decide +kernel
theorem own_d11_4 : decode jdk_43_method_22_code 4 = .ok (.ifCond .ne 5, 3) := by decide +kernel
theorem own_d11_9 : decode jdk_43_method_22_code 9 = .ok (.iload_n 2, 1) := by decide +kernel
theorem own_d11_10 : decode jdk_43_method_22_code 10 = .ok (.iconst 0, 1) := by decide +kernel
theorem own_d11_11 : decode jdk_43_method_22_code 11 = .ok (.invokestatic 92, 3) := by decide +kernel
abbrev own_y11 : MethodName := ⟨"java/lang/Math", "max", "(II)I"⟩
theorem own_ef13 (m : MethodId) (x0 : Int32) (x1 : Int32) : entryFrame m #[(.int x0), (.int x1)] 2 = mkF m 0 #[.val (.int x0), .val (.int x1)] [] := by first | (simp [entryFrame, mkF, argsToLocals, Value.category]; done) | rfl
theorem own_d13_0 : decode jdk_29_method_65_code 0 = .ok (.iload_n 0, 1) := by decide +kernel
theorem own_d13_1 : decode jdk_29_method_65_code 1 = .ok (.iload_n 1, 1) := by decide +kernel
theorem own_d13_2 : decode jdk_29_method_65_code 2 = .ok (.if_icmp .lt 7, 3) := by decide +kernel
theorem own_d13_5 : decode jdk_29_method_65_code 5 = .ok (.iload_n 0, 1) := by decide +kernel
theorem own_d13_6 : decode jdk_29_method_65_code 6 = .ok (.goto 4, 3) := by decide +kernel
theorem own_d13_10 : decode jdk_29_method_65_code 10 = .ok (.ireturn, 1) := by decide +kernel
def own_Q_rmA11 (Z : State)   (cs : Int32) (wf : Value) (h0 : Heap) (n0 : Nat) (v : Option Value) (h : Heap) (L : List Loc) : Prop := v = some (.int (0 : Int32)) ∧ Fr n0 L ∧ h = h0
set_option maxRecDepth 65536 in
set_option maxHeartbeats 40000000 in
theorem rmA11 (l : Launch) (Z : State) (a0 : Array Value) (hw : ∀ d ∈ tables_1, d.before a0 Z = true) (ws : List Jvm.Cond)   (cs : Int32) (wf : Value) (h0 : Heap) (n0 : Nat) (O0 : Old Z n0 h0) (G : own_Gl Z cs wf) :
    MetFree l own_y11 (head1 (Jvm.Cond.code own_y11 jdk_29_method_65_code 2 (some .int) :: ws) ({ frames := 0, cells := 0, slots := 0, locals := 0 } : Room)) (fun a U => a = #[(.int (0 : Int32)), (.int (0 : Int32))] ∧ Z.Warmed39 U.vm ∧ U.heap = h0) (fun _ _ _ _ _ => True) (fun _ U o U' => ∃ v L, o = .returned v ∧ own_Q_rmA11 Z cs wf h0 n0 v U'.heap L ∧ FrameEnd U o U' L ({ frames := 0, cells := 0, slots := 0, locals := 0 } : Room).cells ({ frames := 0, cells := 0, slots := 0, locals := 0 } : Room).slots) := by
  refine MetFree.of_bodySF (Jvm.Free.JP.mathPlain rfl (by decide +kernel)) hisR ?_
  intro p e s m args below meth c s₁ Bd hml0 hP hK
  obtain ⟨rfl, hZ, hh⟩ := hP
  have hx := Bd.exec
  have hby := Bd.bytes
  have hml : c.maxLocals = 2 := hml0
  have hown : s.vm.findClass "java/lang/Math" = some m.cls := findClass_of_methodNamed Bd.named
  have hnm := (name_of_methodNamed Bd.named Bd.method).1
  have X0 : Stand p l e ({ frames := 0, cells := 0, slots := 0, locals := 0 } : Room) s m #[(.int (0 : Int32)), (.int (0 : Int32))] below meth c s₁ [] 0 0 := Stand.of_body Bd
  have e0 : s₁.heap = h0 := by rw [← hh, Bd.state]; rfl
  have N0 := Fr.nil n0
  have Z0 : n0 ≤ h0.size := O0.1 ▸ O0.2.1
  have g0 : ∀ t, Steps p.tables e below (s₁.setTop (mkF m 0 #[.val (.int (0 : Int32)), .val (.int (0 : Int32))] [])) t → Steps p.tables e below (s₁.setTop (entryFrame m #[(.int (0 : Int32)), (.int (0 : Int32))] 2)) t := fun t k => castTop (own_ef13 m ((0 : Int32)) ((0 : Int32))) k
  have G0 := G
  obtain ⟨S_CS, hcs, S_WF, hwf⟩ := G
  have g1 : ∀ t, Steps p.tables e below (s₁.setTop (mkF m 10 #[.val (.int (0 : Int32)), .val (.int (0 : Int32))] [(.int (0 : Int32))])) t → Steps p.tables e below (s₁.setTop (entryFrame m #[(.int (0 : Int32)), (.int (0 : Int32))] 2)) t := by
    intro t k
    refine g0 t ?_
    show Steps p.tables e below (s₁.setTop (mkF m 0 #[.val (.int (0 : Int32)), .val (.int (0 : Int32))] [])) _
    refine XS.iloadN X0.here hx rfl (hb hby own_d13_0) rfl ?_
    refine XS.iloadN X0.here hx rfl (hb hby own_d13_1) rfl ?_
    refine XS.icmpNo X0.here hx rfl (hb hby own_d13_2) rfl (flt (by decide : ¬ ((0 : Int32) < (0 : Int32)))).1 ?_
    show Steps p.tables e below (s₁.setTop (mkF m 5 #[.val (.int (0 : Int32)), .val (.int (0 : Int32))] [])) _
    refine XS.iloadN X0.here hx rfl (hb hby own_d13_5) rfl ?_
    refine XS.goto X0.here hx rfl (pc0 := 6) (pc' := 10) rfl (hb hby own_d13_6) (by decide) (by decide) ?_
    exact k
  obtain ⟨fs, hrt, hrun, hended, hW, hsame⟩ := X0.leave (v := some (.int (0 : Int32))) (fun h => by rw [Bd.returns] at h; cases h)
  refine ⟨_, _, g1 _ ?_, hrun, hended, _, _, rfl, ?_, ⟨_, rfl⟩, hW, hsame.mono (by decide) (by decide)⟩
  · show Steps p.tables e below (s₁.setTop (mkF m 10 #[.val (.int (0 : Int32)), .val (.int (0 : Int32))] [(.int (0 : Int32))])) _
    exact retI X0 hx Bd.returns (hb hby own_d13_10) hrt
  · show own_Q_rmA11 Z cs wf h0 n0 _ s₁.heap _
    rw [e0]
    exact ⟨rfl, N0, rfl⟩
theorem own_pd5 : parseMethodDescriptor "(II)I" = some ⟨[.int, .int], some .int⟩ := by decide +kernel
theorem own_d11_14 : decode jdk_43_method_22_code 14 = .ok (.istore_n 2, 1) := by decide +kernel
theorem own_d11_15 : decode jdk_43_method_22_code 15 = .ok (.iload_n 3, 1) := by decide +kernel
theorem own_d11_16 : decode jdk_43_method_22_code 16 = .ok (.aload_n 0, 1) := by decide +kernel
theorem own_d11_17 : decode jdk_43_method_22_code 17 = .ok (.arraylength, 1) := by decide +kernel
theorem own_d11_18 : decode jdk_43_method_22_code 18 = .ok (.invokestatic 38, 3) := by decide +kernel
abbrev own_y12 : MethodName := ⟨"java/lang/Math", "min", "(II)I"⟩
theorem own_ef14 (m : MethodId) (x0 : Int32) (x1 : Int32) : entryFrame m #[(.int x0), (.int x1)] 2 = mkF m 0 #[.val (.int x0), .val (.int x1)] [] := by first | (simp [entryFrame, mkF, argsToLocals, Value.category]; done) | rfl
theorem own_d14_0 : decode jdk_29_method_69_code 0 = .ok (.iload_n 0, 1) := by decide +kernel
theorem own_d14_1 : decode jdk_29_method_69_code 1 = .ok (.iload_n 1, 1) := by decide +kernel
theorem own_d14_2 : decode jdk_29_method_69_code 2 = .ok (.if_icmp .gt 7, 3) := by decide +kernel
theorem own_d14_5 : decode jdk_29_method_69_code 5 = .ok (.iload_n 0, 1) := by decide +kernel
theorem own_d14_6 : decode jdk_29_method_69_code 6 = .ok (.goto 4, 3) := by decide +kernel
theorem own_d14_10 : decode jdk_29_method_69_code 10 = .ok (.ireturn, 1) := by decide +kernel
def own_Q_rmA12 (Z : State)   (cs : Int32) (wf : Value) (h0 : Heap) (n0 : Nat) (v : Option Value) (h : Heap) (L : List Loc) : Prop := v = some (.int (1 : Int32)) ∧ Fr n0 L ∧ h = h0
set_option maxRecDepth 65536 in
set_option maxHeartbeats 40000000 in
theorem rmA12 (l : Launch) (Z : State) (a0 : Array Value) (hw : ∀ d ∈ tables_1, d.before a0 Z = true) (ws : List Jvm.Cond)   (cs : Int32) (wf : Value) (h0 : Heap) (n0 : Nat) (O0 : Old Z n0 h0) (G : own_Gl Z cs wf) :
    MetFree l own_y12 (head1 (Jvm.Cond.code own_y12 jdk_29_method_69_code 2 (some .int) :: ws) ({ frames := 0, cells := 0, slots := 0, locals := 0 } : Room)) (fun a U => a = #[(.int (1 : Int32)), (.int (1 : Int32))] ∧ Z.Warmed39 U.vm ∧ U.heap = h0) (fun _ _ _ _ _ => True) (fun _ U o U' => ∃ v L, o = .returned v ∧ own_Q_rmA12 Z cs wf h0 n0 v U'.heap L ∧ FrameEnd U o U' L ({ frames := 0, cells := 0, slots := 0, locals := 0 } : Room).cells ({ frames := 0, cells := 0, slots := 0, locals := 0 } : Room).slots) := by
  refine MetFree.of_bodySF (Jvm.Free.JP.mathPlain rfl (by decide +kernel)) hisR ?_
  intro p e s m args below meth c s₁ Bd hml0 hP hK
  obtain ⟨rfl, hZ, hh⟩ := hP
  have hx := Bd.exec
  have hby := Bd.bytes
  have hml : c.maxLocals = 2 := hml0
  have hown : s.vm.findClass "java/lang/Math" = some m.cls := findClass_of_methodNamed Bd.named
  have hnm := (name_of_methodNamed Bd.named Bd.method).1
  have X0 : Stand p l e ({ frames := 0, cells := 0, slots := 0, locals := 0 } : Room) s m #[(.int (1 : Int32)), (.int (1 : Int32))] below meth c s₁ [] 0 0 := Stand.of_body Bd
  have e0 : s₁.heap = h0 := by rw [← hh, Bd.state]; rfl
  have N0 := Fr.nil n0
  have Z0 : n0 ≤ h0.size := O0.1 ▸ O0.2.1
  have g0 : ∀ t, Steps p.tables e below (s₁.setTop (mkF m 0 #[.val (.int (1 : Int32)), .val (.int (1 : Int32))] [])) t → Steps p.tables e below (s₁.setTop (entryFrame m #[(.int (1 : Int32)), (.int (1 : Int32))] 2)) t := fun t k => castTop (own_ef14 m ((1 : Int32)) ((1 : Int32))) k
  have G0 := G
  obtain ⟨S_CS, hcs, S_WF, hwf⟩ := G
  have g1 : ∀ t, Steps p.tables e below (s₁.setTop (mkF m 10 #[.val (.int (1 : Int32)), .val (.int (1 : Int32))] [(.int (1 : Int32))])) t → Steps p.tables e below (s₁.setTop (entryFrame m #[(.int (1 : Int32)), (.int (1 : Int32))] 2)) t := by
    intro t k
    refine g0 t ?_
    show Steps p.tables e below (s₁.setTop (mkF m 0 #[.val (.int (1 : Int32)), .val (.int (1 : Int32))] [])) _
    refine XS.iloadN X0.here hx rfl (hb hby own_d14_0) rfl ?_
    refine XS.iloadN X0.here hx rfl (hb hby own_d14_1) rfl ?_
    refine XS.icmpNo X0.here hx rfl (hb hby own_d14_2) rfl (flt (by decide : ¬ ((1 : Int32) < (1 : Int32)))).2.2.1 ?_
    show Steps p.tables e below (s₁.setTop (mkF m 5 #[.val (.int (1 : Int32)), .val (.int (1 : Int32))] [])) _
    refine XS.iloadN X0.here hx rfl (hb hby own_d14_5) rfl ?_
    refine XS.goto X0.here hx rfl (pc0 := 6) (pc' := 10) rfl (hb hby own_d14_6) (by decide) (by decide) ?_
    exact k
  obtain ⟨fs, hrt, hrun, hended, hW, hsame⟩ := X0.leave (v := some (.int (1 : Int32))) (fun h => by rw [Bd.returns] at h; cases h)
  refine ⟨_, _, g1 _ ?_, hrun, hended, _, _, rfl, ?_, ⟨_, rfl⟩, hW, hsame.mono (by decide) (by decide)⟩
  · show Steps p.tables e below (s₁.setTop (mkF m 10 #[.val (.int (1 : Int32)), .val (.int (1 : Int32))] [(.int (1 : Int32))])) _
    exact retI X0 hx Bd.returns (hb hby own_d14_10) hrt
  · show own_Q_rmA12 Z cs wf h0 n0 _ s₁.heap _
    rw [e0]
    exact ⟨rfl, N0, rfl⟩
theorem own_d11_21 : decode jdk_43_method_22_code 21 = .ok (.istore_n 3, 1) := by decide +kernel
theorem own_d11_22 : decode jdk_43_method_22_code 22 = .ok (.iload_n 2, 1) := by decide +kernel
theorem own_d11_23 : decode jdk_43_method_22_code 23 = .ok (.iload_n 3, 1) := by decide +kernel
theorem own_d11_24 : decode jdk_43_method_22_code 24 = .ok (.if_icmp .lt 5, 3) := by decide +kernel
theorem own_d11_29 : decode jdk_43_method_22_code 29 = .ok (.aload_n 0, 1) := by decide +kernel
theorem own_d11_30 : decode jdk_43_method_22_code 30 = .ok (.iload_n 1, 1) := by decide +kernel
theorem own_d11_31 : decode jdk_43_method_22_code 31 = .ok (.iload_n 2, 1) := by decide +kernel
theorem own_d11_32 : decode jdk_43_method_22_code 32 = .ok (.iload_n 3, 1) := by decide +kernel
theorem own_d11_33 : decode jdk_43_method_22_code 33 = .ok (.invokestatic 95, 3) := by decide +kernel
abbrev own_y13 : MethodName := ⟨"java/lang/StringLatin1", "indexOfChar", "([BIII)I"⟩
theorem own_ef15 (m : MethodId) (x0 : Addr) (x1 : Int32) (x2 : Int32) (x3 : Int32) : entryFrame m #[(.ref x0), (.int x1), (.int x2), (.int x3)] 6 = mkF m 0 #[.val (.ref x0), .val (.int x1), .val (.int x2), .val (.int x3), .unset, .unset] [] := by first | (simp [entryFrame, mkF, argsToLocals, Value.category]; done) | rfl
theorem own_d15_0 : decode jdk_43_method_23_code 0 = .ok (.iload_n 1, 1) := by decide +kernel
theorem own_d15_1 : decode jdk_43_method_23_code 1 = .ok (.i2b, 1) := by decide +kernel
theorem own_d15_2 : decode jdk_43_method_23_code 2 = .ok (.istore 4, 2) := by decide +kernel
theorem own_d15_4 : decode jdk_43_method_23_code 4 = .ok (.iload_n 2, 1) := by decide +kernel
theorem own_d15_5 : decode jdk_43_method_23_code 5 = .ok (.istore 5, 2) := by decide +kernel
theorem own_d15_7 : decode jdk_43_method_23_code 7 = .ok (.iload 5, 2) := by decide +kernel
theorem own_d15_9 : decode jdk_43_method_23_code 9 = .ok (.iload_n 3, 1) := by decide +kernel
theorem own_d15_10 : decode jdk_43_method_23_code 10 = .ok (.if_icmp .ge 21, 3) := by decide +kernel
theorem own_d15_13 : decode jdk_43_method_23_code 13 = .ok (.aload_n 0, 1) := by decide +kernel
theorem own_d15_14 : decode jdk_43_method_23_code 14 = .ok (.iload 5, 2) := by decide +kernel
theorem own_d15_16 : decode jdk_43_method_23_code 16 = .ok (.baload, 1) := by decide +kernel
theorem own_d15_17 : decode jdk_43_method_23_code 17 = .ok (.iload 4, 2) := by decide +kernel
theorem own_d15_19 : decode jdk_43_method_23_code 19 = .ok (.if_icmp .ne 6, 3) := by decide +kernel
theorem own_d15_25 : decode jdk_43_method_23_code 25 = .ok (.iinc 5 1, 3) := by decide +kernel
theorem own_d15_28 : decode jdk_43_method_23_code 28 = .ok (.goto (-21), 3) := by decide +kernel
theorem own_d15_31 : decode jdk_43_method_23_code 31 = .ok (.iconst (-1), 1) := by decide +kernel
theorem own_d15_32 : decode jdk_43_method_23_code 32 = .ok (.ireturn, 1) := by decide +kernel
def own_Q_rmA13 (Z : State) (ob0 : Addr) (k_ob0 : ClassId)  (cs : Int32) (wf : Value) (h0 : Heap) (n0 : Nat) (v : Option Value) (h : Heap) (L : List Loc) : Prop := v = some (.int (-1 : Int32)) ∧ Fr n0 L ∧ h = h0
set_option maxRecDepth 65536 in
set_option maxHeartbeats 40000000 in
theorem rmA13 (l : Launch) (Z : State) (a0 : Array Value) (hw : ∀ d ∈ tables_1, d.before a0 Z = true) (ws : List Jvm.Cond) (ob0 : Addr) (k_ob0 : ClassId)  (cs : Int32) (wf : Value) (h0 : Heap) (n0 : Nat) (O0 : Old Z n0 h0) (G : own_Gl Z cs wf) (V_ob0 : Arv Z h0 ob0 k_ob0 .byte (1 : Int32) [(.int (115 : Int32))] (.int (0 : Int32))) :
    MetFree l own_y13 (head1 (Jvm.Cond.code own_y13 jdk_43_method_23_code 6 (some .int) :: ws) ({ frames := 0, cells := 0, slots := 0, locals := 0 } : Room)) (fun a U => a = #[(.ref ob0), (.int (58 : Int32)), (.int (0 : Int32)), (.int (1 : Int32))] ∧ Z.Warmed39 U.vm ∧ U.heap = h0) (fun _ _ _ _ _ => True) (fun _ U o U' => ∃ v L, o = .returned v ∧ own_Q_rmA13 Z ob0 k_ob0 cs wf h0 n0 v U'.heap L ∧ FrameEnd U o U' L ({ frames := 0, cells := 0, slots := 0, locals := 0 } : Room).cells ({ frames := 0, cells := 0, slots := 0, locals := 0 } : Room).slots) := by
  refine MetFree.of_bodySF (plainFor_of_name own_pn4) hisR ?_
  intro p e s m args below meth c s₁ Bd hml0 hP hK
  obtain ⟨rfl, hZ, hh⟩ := hP
  have hx := Bd.exec
  have hby := Bd.bytes
  have hml : c.maxLocals = 6 := hml0
  have hown : s.vm.findClass "java/lang/StringLatin1" = some m.cls := findClass_of_methodNamed Bd.named
  have hnm := (name_of_methodNamed Bd.named Bd.method).1
  have X0 : Stand p l e ({ frames := 0, cells := 0, slots := 0, locals := 0 } : Room) s m #[(.ref ob0), (.int (58 : Int32)), (.int (0 : Int32)), (.int (1 : Int32))] below meth c s₁ [] 0 0 := Stand.of_body Bd
  have e0 : s₁.heap = h0 := by rw [← hh, Bd.state]; rfl
  have N0 := Fr.nil n0
  have Z0 : n0 ≤ h0.size := O0.1 ▸ O0.2.1
  have g0 : ∀ t, Steps p.tables e below (s₁.setTop (mkF m 0 #[.val (.ref ob0), .val (.int (58 : Int32)), .val (.int (0 : Int32)), .val (.int (1 : Int32)), .unset, .unset] [])) t → Steps p.tables e below (s₁.setTop (entryFrame m #[(.ref ob0), (.int (58 : Int32)), (.int (0 : Int32)), (.int (1 : Int32))] 6)) t := fun t k => castTop (own_ef15 m (ob0) ((58 : Int32)) ((0 : Int32)) ((1 : Int32))) k
  have G0 := G
  obtain ⟨S_CS, hcs, S_WF, hwf⟩ := G
  obtain ⟨c1, Ar1, cq1, S1, Nn1, Hh1, Gg1⟩ := id V_ob0
  have hin1 : ¬ ((0 : Int32) < 0 ∨ c1.slots.size ≤ ((0 : Int32)).toNatClampNeg) := inb_of S1 ⟨by decide, by decide⟩
  have hat1 : c1.slots[((0 : Int32)).toNatClampNeg]? = some (.int (115 : Int32)) := Has.at Hh1 hin1 rfl
  have g2 : ∀ t, Steps p.tables e below (s₁.setTop (mkF m 32 #[.val (.ref ob0), .val (.int (58 : Int32)), .val (.int (0 : Int32)), .val (.int (1 : Int32)), .val (.int (58 : Int32)), .val (.int (1 : Int32))] [(.int (-1 : Int32))])) t → Steps p.tables e below (s₁.setTop (entryFrame m #[(.ref ob0), (.int (58 : Int32)), (.int (0 : Int32)), (.int (1 : Int32))] 6)) t := by
    intro t k
    refine g0 t ?_
    show Steps p.tables e below (s₁.setTop (mkF m 0 #[.val (.ref ob0), .val (.int (58 : Int32)), .val (.int (0 : Int32)), .val (.int (1 : Int32)), .unset, .unset] [])) _
    refine XS.iloadN X0.here hx rfl (hb hby own_d15_0) rfl ?_
    show Steps p.tables e below (s₁.setTop (mkF m 1 #[.val (.ref ob0), .val (.int (58 : Int32)), .val (.int (0 : Int32)), .val (.int (1 : Int32)), .unset, .unset] [(.int (58 : Int32))])) _
    refine XS.i2b X0.here hx rfl (hb hby own_d15_1) rfl ?_
    rw [show ((58 : Int32).toInt8.toInt32) = (58 : Int32) from by decide]
    refine XS.istore X0.here hx rfl (hb hby own_d15_2) rfl (l' := #[.val (.ref ob0), .val (.int (58 : Int32)), .val (.int (0 : Int32)), .val (.int (1 : Int32)), .val (.int (58 : Int32)), .unset]) rfl ?_
    show Steps p.tables e below (s₁.setTop (mkF m 4 #[.val (.ref ob0), .val (.int (58 : Int32)), .val (.int (0 : Int32)), .val (.int (1 : Int32)), .val (.int (58 : Int32)), .unset] [])) _
    refine XS.iloadN X0.here hx rfl (hb hby own_d15_4) rfl ?_
    refine XS.istore X0.here hx rfl (hb hby own_d15_5) rfl (l' := #[.val (.ref ob0), .val (.int (58 : Int32)), .val (.int (0 : Int32)), .val (.int (1 : Int32)), .val (.int (58 : Int32)), .val (.int (0 : Int32))]) rfl ?_
    refine XS.iload X0.here hx rfl (hb hby own_d15_7) rfl ?_
    show Steps p.tables e below (s₁.setTop (mkF m 9 #[.val (.ref ob0), .val (.int (58 : Int32)), .val (.int (0 : Int32)), .val (.int (1 : Int32)), .val (.int (58 : Int32)), .val (.int (0 : Int32))] [(.int (0 : Int32))])) _
    refine XS.iloadN X0.here hx rfl (hb hby own_d15_9) rfl ?_
    refine XS.icmpNo X0.here hx rfl (hb hby own_d15_10) rfl (tlt (by decide : (0 : Int32) < (1 : Int32))).2.1 ?_
    refine XS.aloadN X0.here hx rfl (hb hby own_d15_13) rfl rfl ?_
    show Steps p.tables e below (s₁.setTop (mkF m 14 #[.val (.ref ob0), .val (.int (58 : Int32)), .val (.int (0 : Int32)), .val (.int (1 : Int32)), .val (.int (58 : Int32)), .val (.int (0 : Int32))] [(.ref ob0)])) _
    refine XS.iload X0.here hx rfl (hb hby own_d15_14) rfl ?_
    refine X0.baloadBytes hx (j := (0 : Int32)) (v := (.int (115 : Int32))) (by rw [e0]; exact Ar1.1) (State.isArrayOf_alike hZ.alike Ar1.2.1) Ar1.2.2 hin1 hat1 (g := (mkF m 16 #[.val (.ref ob0), .val (.int (58 : Int32)), .val (.int (0 : Int32)), .val (.int (1 : Int32)), .val (.int (58 : Int32)), .val (.int (0 : Int32))] [(.int (0 : Int32)), (.ref ob0)])) rfl rfl (hb hby own_d15_16) _ ?_
    refine XS.iload X0.here hx rfl (hb hby own_d15_17) rfl ?_
    show Steps p.tables e below (s₁.setTop (mkF m 19 #[.val (.ref ob0), .val (.int (58 : Int32)), .val (.int (0 : Int32)), .val (.int (1 : Int32)), .val (.int (58 : Int32)), .val (.int (0 : Int32))] [(.int (58 : Int32)), (.int (115 : Int32))])) _
    refine XS.icmpYes X0.here hx rfl (pc0 := 19) (pc' := 25) rfl (hb hby own_d15_19) rfl (feq (by decide : ¬ ((115 : Int32) = (58 : Int32)))).2 (by decide) (by decide) ?_
    show Steps p.tables e below (s₁.setTop (mkF m 25 #[.val (.ref ob0), .val (.int (58 : Int32)), .val (.int (0 : Int32)), .val (.int (1 : Int32)), .val (.int (58 : Int32)), .val (.int (0 : Int32))] [])) _
    refine XS.iinc X0.here hx rfl (hb hby own_d15_25) rfl (l' := #[.val (.ref ob0), .val (.int (58 : Int32)), .val (.int (0 : Int32)), .val (.int (1 : Int32)), .val (.int (58 : Int32)), .val (.int ((0 : Int32) + (1 : Int32)))]) rfl ?_
    rw [show ((0 : Int32) + (1 : Int32)) = (1 : Int32) from by decide]
    refine XS.goto X0.here hx rfl (pc0 := 28) (pc' := 7) rfl (hb hby own_d15_28) (by decide) (by decide) ?_
    show Steps p.tables e below (s₁.setTop (mkF m 7 #[.val (.ref ob0), .val (.int (58 : Int32)), .val (.int (0 : Int32)), .val (.int (1 : Int32)), .val (.int (58 : Int32)), .val (.int (1 : Int32))] [])) _
    refine XS.iload X0.here hx rfl (hb hby own_d15_7) rfl ?_
    refine XS.iloadN X0.here hx rfl (hb hby own_d15_9) rfl ?_
    refine XS.icmpYes X0.here hx rfl (pc0 := 10) (pc' := 31) rfl (hb hby own_d15_10) rfl (flt (by decide : ¬ ((1 : Int32) < (1 : Int32)))).2.1 (by decide) (by decide) ?_
    show Steps p.tables e below (s₁.setTop (mkF m 31 #[.val (.ref ob0), .val (.int (58 : Int32)), .val (.int (0 : Int32)), .val (.int (1 : Int32)), .val (.int (58 : Int32)), .val (.int (1 : Int32))] [])) _
    refine XS.iconst X0.here hx rfl (hb hby own_d15_31) ?_
    exact k
  obtain ⟨fs, hrt, hrun, hended, hW, hsame⟩ := X0.leave (v := some (.int (-1 : Int32))) (fun h => by rw [Bd.returns] at h; cases h)
  refine ⟨_, _, g2 _ ?_, hrun, hended, _, _, rfl, ?_, ⟨_, rfl⟩, hW, hsame.mono (by decide) (by decide)⟩
  · show Steps p.tables e below (s₁.setTop (mkF m 32 #[.val (.ref ob0), .val (.int (58 : Int32)), .val (.int (0 : Int32)), .val (.int (1 : Int32)), .val (.int (58 : Int32)), .val (.int (1 : Int32))] [(.int (-1 : Int32))])) _
    exact retI X0 hx Bd.returns (hb hby own_d15_32) hrt
  · show own_Q_rmA13 Z ob0 k_ob0 cs wf h0 n0 _ s₁.heap _
    rw [e0]
    exact ⟨rfl, N0, rfl⟩
theorem own_pd6 : parseMethodDescriptor "([BIII)I" = some ⟨[(.array .byte), .int, .int, .int], some .int⟩ := by decide +kernel
theorem own_d11_36 : decode jdk_43_method_22_code 36 = .ok (.ireturn, 1) := by decide +kernel
def own_Q_rmA9 (Z : State) (ob0 : Addr) (k_ob0 : ClassId)  (cs : Int32) (wf : Value) (h0 : Heap) (n0 : Nat) (v : Option Value) (h : Heap) (L : List Loc) : Prop := v = some (.int (-1 : Int32)) ∧ Fr n0 L ∧ h = h0
set_option maxRecDepth 65536 in
set_option maxHeartbeats 40000000 in
theorem rmA9 (l : Launch) (Z : State) (a0 : Array Value) (hw : ∀ d ∈ tables_1, d.before a0 Z = true) (ws : List Jvm.Cond) (ob0 : Addr) (k_ob0 : ClassId)  (cs : Int32) (wf : Value) (h0 : Heap) (n0 : Nat) (O0 : Old Z n0 h0) (G : own_Gl Z cs wf) (V_ob0 : Arv Z h0 ob0 k_ob0 .byte (1 : Int32) [(.int (115 : Int32))] (.int (0 : Int32))) :
    MetFree l own_y9 (head1 (Jvm.Cond.code own_y9 jdk_43_method_22_code 4 (some .int) :: ws) ({ frames := 1, cells := 0, slots := 0, locals := 17 } : Room)) (fun a U => a = #[(.ref ob0), (.int (58 : Int32)), (.int (0 : Int32)), (.int (1 : Int32))] ∧ Z.Warmed39 U.vm ∧ U.heap = h0) (fun _ _ _ _ _ => True) (fun _ U o U' => ∃ v L, o = .returned v ∧ own_Q_rmA9 Z ob0 k_ob0 cs wf h0 n0 v U'.heap L ∧ FrameEnd U o U' L ({ frames := 1, cells := 0, slots := 0, locals := 17 } : Room).cells ({ frames := 1, cells := 0, slots := 0, locals := 17 } : Room).slots) := by
  refine MetFree.of_bodySF (plainFor_of_name own_pn4) hisR ?_
  intro p e s m args below meth c s₁ Bd hml0 hP hK
  obtain ⟨rfl, hZ, hh⟩ := hP
  have hx := Bd.exec
  have hby := Bd.bytes
  have hml : c.maxLocals = 4 := hml0
  have hown : s.vm.findClass "java/lang/StringLatin1" = some m.cls := findClass_of_methodNamed Bd.named
  have hnm := (name_of_methodNamed Bd.named Bd.method).1
  have X0 : Stand p l e ({ frames := 1, cells := 0, slots := 0, locals := 17 } : Room) s m #[(.ref ob0), (.int (58 : Int32)), (.int (0 : Int32)), (.int (1 : Int32))] below meth c s₁ [] 0 0 := Stand.of_body Bd
  have e0 : s₁.heap = h0 := by rw [← hh, Bd.state]; rfl
  have N0 := Fr.nil n0
  have Z0 : n0 ≤ h0.size := O0.1 ▸ O0.2.1
  have g0 : ∀ t, Steps p.tables e below (s₁.setTop (mkF m 0 #[.val (.ref ob0), .val (.int (58 : Int32)), .val (.int (0 : Int32)), .val (.int (1 : Int32))] [])) t → Steps p.tables e below (s₁.setTop (entryFrame m #[(.ref ob0), (.int (58 : Int32)), (.int (0 : Int32)), (.int (1 : Int32))] 4)) t := fun t k => castTop (own_ef11 m (ob0) ((58 : Int32)) ((0 : Int32)) ((1 : Int32))) k
  have G0 := G
  obtain ⟨S_CS, hcs, S_WF, hwf⟩ := G
  obtain ⟨_, _, ⟨T1, L1, k1, n1⟩, -, X1, ⟨Lc1, hQ1, l1, y1, z1⟩, st1⟩ := Jvm.LawKit.callS X0 hx (y := own_y10) hown (mvT hZ (own_w hw 66 rfl)) (mvT hZ (own_w hw 67 rfl)) (mvT hZ (own_w hw 64 rfl)) (mvT hZ (own_w hw 68 rfl)) (by decide) (backOf (W := 0) (rmA10 l Z a0 hw []   cs wf h0 n0 O0 G0   ) hZ (own_w hw 68 rfl) (own_w hw 64 rfl) (by decide) (by decide)) (g := (mkF m 1 #[.val (.ref ob0), .val (.int (58 : Int32)), .val (.int (0 : Int32)), .val (.int (1 : Int32))] [(.int (58 : Int32))])) rfl (by rw [hml]; rfl) (argsL := [(.int (58 : Int32))]) (rest := []) (lenOf own_pd4 rfl) rfl (by show 2 * 0 + _ ≤ _; exact Nat.le_of_eq rfl) (hb hby own_d11_1) (fun _ _ => ⟨rfl, e0, (by decide : 0 + 0 ≤ _), (by decide : 0 + 0 ≤ _)⟩)
  dsimp only [Pt.U, Pt.locs, Pt.cells, Pt.slots] at X1 l1 y1 z1 st1 hQ1
  subst l1 y1 z1
  obtain ⟨rfl, Nq1, e1⟩ := hQ1
  have N1 := Fr.app N0 Nq1
  obtain ⟨_, _, ⟨T2, L2, k2, n2⟩, -, X2, ⟨Lc2, hQ2, l2, y2, z2⟩, st2⟩ := Jvm.LawKit.callS X1 hx (y := own_y11) hown (mvT hZ (own_w hw 69 rfl)) (mvT hZ (own_w hw 70 rfl)) (mvT hZ (own_w hw 71 rfl)) (mvT hZ (own_w hw 72 rfl)) (by decide) (backOf (W := 0) (rmA11 l Z a0 hw []   cs wf h0 n0 O0 G0   ) hZ (own_w hw 72 rfl) (own_w hw 71 rfl) (by decide) (by decide)) (g := (mkF m 11 #[.val (.ref ob0), .val (.int (58 : Int32)), .val (.int (0 : Int32)), .val (.int (1 : Int32))] [(.int (0 : Int32)), (.int (0 : Int32))])) rfl (by rw [hml]; rfl) (argsL := [(.int (0 : Int32)), (.int (0 : Int32))]) (rest := []) (lenOf own_pd5 rfl) rfl (by show 2 * 0 + _ ≤ _; exact Nat.le_of_eq rfl) (hb hby own_d11_11) (fun _ _ => ⟨rfl, e1, (by decide : 0 + 0 ≤ _), (by decide : 0 + 0 ≤ _)⟩)
  dsimp only [Pt.U, Pt.locs, Pt.cells, Pt.slots] at X2 l2 y2 z2 st2 hQ2
  subst l2 y2 z2
  obtain ⟨rfl, Nq2, e2⟩ := hQ2
  have N2 := Fr.app N1 Nq2
  obtain ⟨c3, Ar3, cq3, S3, Nn3, Hh3, Gg3⟩ := id V_ob0
  obtain ⟨_, _, ⟨T4, L4, k4, n4⟩, -, X4, ⟨Lc4, hQ4, l4, y4, z4⟩, st4⟩ := Jvm.LawKit.callS X2 hx (y := own_y12) hown (mvT hZ (own_w hw 73 rfl)) (mvT hZ (own_w hw 74 rfl)) (mvT hZ (own_w hw 71 rfl)) (mvT hZ (own_w hw 75 rfl)) (by decide) (backOf (W := 0) (rmA12 l Z a0 hw []   cs wf h0 n0 O0 G0   ) hZ (own_w hw 75 rfl) (own_w hw 71 rfl) (by decide) (by decide)) (g := (mkF m 18 #[.val (.ref ob0), .val (.int (58 : Int32)), .val (.int (0 : Int32)), .val (.int (1 : Int32))] [(.int (1 : Int32)), (.int (1 : Int32))])) rfl (by rw [hml]; rfl) (argsL := [(.int (1 : Int32)), (.int (1 : Int32))]) (rest := []) (lenOf own_pd5 rfl) rfl (by show 2 * 0 + _ ≤ _; exact Nat.le_of_eq rfl) (hb hby own_d11_18) (fun _ _ => ⟨rfl, e2, (by decide : 0 + 0 ≤ _), (by decide : 0 + 0 ≤ _)⟩)
  dsimp only [Pt.U, Pt.locs, Pt.cells, Pt.slots] at X4 l4 y4 z4 st4 hQ4
  subst l4 y4 z4
  obtain ⟨rfl, Nq4, e4⟩ := hQ4
  have N4 := Fr.app N2 Nq4
  obtain ⟨LL5, XL5, NL5⟩ : ∃ LL : List Loc, Stand p l e ({ frames := 1, cells := 0, slots := 0, locals := 17 } : Room) s m #[(.ref ob0), (.int (58 : Int32)), (.int (0 : Int32)), (.int (1 : Int32))] below meth c T4 LL 0 0 ∧ Fr n0 LL := ⟨_, X4, N4⟩
  obtain ⟨_, _, ⟨T6, L6, k6, n6⟩, -, X6, ⟨Lc6, hQ6, l6, y6, z6⟩, st6⟩ := Jvm.LawKit.callS XL5 hx (y := own_y13) hown (mvT hZ (own_w hw 76 rfl)) (mvT hZ (own_w hw 77 rfl)) (mvT hZ (own_w hw 64 rfl)) (mvT hZ (own_w hw 78 rfl)) (by decide) (backOf (W := 0) (rmA13 l Z a0 hw [] ob0 k_ob0  cs wf h0 n0 O0 G0 V_ob0  ) hZ (own_w hw 78 rfl) (own_w hw 64 rfl) (by decide) (by decide)) (g := (mkF m 33 #[.val (.ref ob0), .val (.int (58 : Int32)), .val (.int (0 : Int32)), .val (.int (1 : Int32))] [(.int (1 : Int32)), (.int (0 : Int32)), (.int (58 : Int32)), (.ref ob0)])) rfl (by rw [hml]; rfl) (argsL := [(.ref ob0), (.int (58 : Int32)), (.int (0 : Int32)), (.int (1 : Int32))]) (rest := []) (lenOf own_pd6 rfl) rfl (by show 2 * 0 + _ ≤ _; exact Nat.le_of_eq rfl) (hb hby own_d11_33) (fun _ _ => ⟨rfl, e4, (by decide : 0 + 0 ≤ _), (by decide : 0 + 0 ≤ _)⟩)
  dsimp only [Pt.U, Pt.locs, Pt.cells, Pt.slots] at X6 l6 y6 z6 st6 hQ6
  subst l6 y6 z6
  obtain ⟨rfl, Nq6, e6⟩ := hQ6
  have N6 := Fr.app NL5 Nq6
  have g7 : ∀ t, Steps p.tables e below (T6.setTop (mkF m 36 #[.val (.ref ob0), .val (.int (58 : Int32)), .val (.int (0 : Int32)), .val (.int (1 : Int32))] [(.int (-1 : Int32))])) t → Steps p.tables e below (s₁.setTop (entryFrame m #[(.ref ob0), (.int (58 : Int32)), (.int (0 : Int32)), (.int (1 : Int32))] 4)) t := by
    intro t k
    refine g0 t ?_
    show Steps p.tables e below (s₁.setTop (mkF m 0 #[.val (.ref ob0), .val (.int (58 : Int32)), .val (.int (0 : Int32)), .val (.int (1 : Int32))] [])) _
    refine XS.iloadN X0.here hx rfl (hb hby own_d11_0) rfl ?_
    refine st1 _ ?_
    refine XS.ifYes X1.here hx rfl (pc0 := 4) (pc' := 9) rfl (hb hby own_d11_4) rfl ((if0 _ _).trans (feq (by decide : ¬ ((1 : Int32) = (0 : Int32)))).2) (by decide) (by decide) ?_
    show Steps p.tables e below (T1.setTop (mkF m 9 #[.val (.ref ob0), .val (.int (58 : Int32)), .val (.int (0 : Int32)), .val (.int (1 : Int32))] [])) _
    refine XS.iloadN X1.here hx rfl (hb hby own_d11_9) rfl ?_
    refine XS.iconst X1.here hx rfl (hb hby own_d11_10) ?_
    refine st2 _ ?_
    show Steps p.tables e below (T2.setTop (mkF m 14 #[.val (.ref ob0), .val (.int (58 : Int32)), .val (.int (0 : Int32)), .val (.int (1 : Int32))] [(.int (0 : Int32))])) _
    refine XS.istoreN X2.here hx rfl (hb hby own_d11_14) rfl (l' := #[.val (.ref ob0), .val (.int (58 : Int32)), .val (.int (0 : Int32)), .val (.int (1 : Int32))]) rfl ?_
    refine XS.iloadN X2.here hx rfl (hb hby own_d11_15) rfl ?_
    refine XS.aloadN X2.here hx rfl (hb hby own_d11_16) rfl rfl ?_
    show Steps p.tables e below (T2.setTop (mkF m 17 #[.val (.ref ob0), .val (.int (58 : Int32)), .val (.int (0 : Int32)), .val (.int (1 : Int32))] [(.ref ob0), (.int (1 : Int32))])) _
    refine X2.arraylength hx (by rw [e2]; exact Ar3.1) (State.isArrayOf_alike hZ.alike Ar3.2.1) (g := (mkF m 17 #[.val (.ref ob0), .val (.int (58 : Int32)), .val (.int (0 : Int32)), .val (.int (1 : Int32))] [(.ref ob0), (.int (1 : Int32))])) rfl rfl (hb hby own_d11_17) _ ?_
    rw [len_of S3 Nn3]
    refine st4 _ ?_
    refine XS.istoreN X4.here hx rfl (hb hby own_d11_21) rfl (l' := #[.val (.ref ob0), .val (.int (58 : Int32)), .val (.int (0 : Int32)), .val (.int (1 : Int32))]) rfl ?_
    show Steps p.tables e below (T4.setTop (mkF m 22 #[.val (.ref ob0), .val (.int (58 : Int32)), .val (.int (0 : Int32)), .val (.int (1 : Int32))] [])) _
    refine XS.iloadN X4.here hx rfl (hb hby own_d11_22) rfl ?_
    refine XS.iloadN X4.here hx rfl (hb hby own_d11_23) rfl ?_
    refine XS.icmpYes X4.here hx rfl (pc0 := 24) (pc' := 29) rfl (hb hby own_d11_24) rfl (tlt (by decide : (0 : Int32) < (1 : Int32))).1 (by decide) (by decide) ?_
    show Steps p.tables e below (T4.setTop (mkF m 29 #[.val (.ref ob0), .val (.int (58 : Int32)), .val (.int (0 : Int32)), .val (.int (1 : Int32))] [])) _
    refine XS.aloadN X4.here hx rfl (hb hby own_d11_29) rfl rfl ?_
    refine XS.iloadN X4.here hx rfl (hb hby own_d11_30) rfl ?_
    refine XS.iloadN X4.here hx rfl (hb hby own_d11_31) rfl ?_
    show Steps p.tables e below (T4.setTop (mkF m 32 #[.val (.ref ob0), .val (.int (58 : Int32)), .val (.int (0 : Int32)), .val (.int (1 : Int32))] [(.int (0 : Int32)), (.int (58 : Int32)), (.ref ob0)])) _
    refine XS.iloadN X4.here hx rfl (hb hby own_d11_32) rfl ?_
    refine st6 _ ?_
    exact k
  obtain ⟨fs, hrt, hrun, hended, hW, hsame⟩ := X6.leave (v := some (.int (-1 : Int32))) (fun h => by rw [Bd.returns] at h; cases h)
  refine ⟨_, _, g7 _ ?_, hrun, hended, _, _, rfl, ?_, ⟨_, rfl⟩, hW, hsame.mono (by decide) (by decide)⟩
  · show Steps p.tables e below (T6.setTop (mkF m 36 #[.val (.ref ob0), .val (.int (58 : Int32)), .val (.int (0 : Int32)), .val (.int (1 : Int32))] [(.int (-1 : Int32))])) _
    exact retI X6 hx Bd.returns (hb hby own_d11_36) hrt
  · show own_Q_rmA9 Z ob0 k_ob0 cs wf h0 n0 _ T6.heap _
    rw [e6]
    exact ⟨rfl, N6, rfl⟩
theorem own_d9_20 : decode jdk_42_method_80_code 20 = .ok (.goto 16, 3) := by decide +kernel
theorem own_d9_36 : decode jdk_42_method_80_code 36 = .ok (.ireturn, 1) := by decide +kernel
def own_Q_rmA7 (Z : State) (ob0 : Addr) (ob0_value : Addr) (k_ob0_value : ClassId)  (cs : Int32) (wf : Value) (h0 : Heap) (n0 : Nat) (v : Option Value) (h : Heap) (L : List Loc) : Prop := v = some (.int (-1 : Int32)) ∧ Fr n0 L ∧ h = h0
set_option maxRecDepth 65536 in
set_option maxHeartbeats 40000000 in
theorem rmA7 (l : Launch) (Z : State) (a0 : Array Value) (hw : ∀ d ∈ tables_1, d.before a0 Z = true) (ws : List Jvm.Cond) (ob0 : Addr) (ob0_value : Addr) (k_ob0_value : ClassId)  (cs : Int32) (wf : Value) (h0 : Heap) (n0 : Nat) (O0 : Old Z n0 h0) (G : own_Gl Z cs wf) (E_ob0 : Exa Z h0 ob0 "java/lang/String") (F_ob0_coder : Fld Z h0 ob0 "java/lang/String" "coder" "B" (.int (0 : Int32))) (V_ob0_value : Arv Z h0 ob0_value k_ob0_value .byte (1 : Int32) [(.int (115 : Int32))] (.int (0 : Int32))) (F_ob0_value : Fld Z h0 ob0 "java/lang/String" "value" "[B" (.ref ob0_value)) :
    MetFree l own_y7 (head1 (Jvm.Cond.code own_y7 jdk_42_method_80_code 3 (some .int) :: ws) ({ frames := 2, cells := 0, slots := 0, locals := 32 } : Room)) (fun a U => a = #[(.ref ob0), (.int (58 : Int32)), (.int (0 : Int32))] ∧ Z.Warmed39 U.vm ∧ U.heap = h0) (fun _ _ _ _ _ => True) (fun _ U o U' => ∃ v L, o = .returned v ∧ own_Q_rmA7 Z ob0 ob0_value k_ob0_value cs wf h0 n0 v U'.heap L ∧ FrameEnd U o U' L ({ frames := 2, cells := 0, slots := 0, locals := 32 } : Room).cells ({ frames := 2, cells := 0, slots := 0, locals := 32 } : Room).slots) := by
  refine MetFree.of_bodySF (plainFor_of_name own_pn3) hisR ?_
  intro p e s m args below meth c s₁ Bd hml0 hP hK
  obtain ⟨rfl, hZ, hh⟩ := hP
  have hx := Bd.exec
  have hby := Bd.bytes
  have hml : c.maxLocals = 3 := hml0
  have hown : s.vm.findClass "java/lang/String" = some m.cls := findClass_of_methodNamed Bd.named
  have hnm := (name_of_methodNamed Bd.named Bd.method).1
  have X0 : Stand p l e ({ frames := 2, cells := 0, slots := 0, locals := 32 } : Room) s m #[(.ref ob0), (.int (58 : Int32)), (.int (0 : Int32))] below meth c s₁ [] 0 0 := Stand.of_body Bd
  have e0 : s₁.heap = h0 := by rw [← hh, Bd.state]; rfl
  have N0 := Fr.nil n0
  have Z0 : n0 ≤ h0.size := O0.1 ▸ O0.2.1
  have g0 : ∀ t, Steps p.tables e below (s₁.setTop (mkF m 0 #[.val (.ref ob0), .val (.int (58 : Int32)), .val (.int (0 : Int32))] [])) t → Steps p.tables e below (s₁.setTop (entryFrame m #[(.ref ob0), (.int (58 : Int32)), (.int (0 : Int32))] 3)) t := fun t k => castTop (own_ef9 m (ob0) ((58 : Int32)) ((0 : Int32))) k
  have G0 := G
  obtain ⟨S_CS, hcs, S_WF, hwf⟩ := G
  obtain ⟨cq1, kq1, q1a, q1b, q1c⟩ := isOf hZ e0 E_ob0
  obtain ⟨_, _, ⟨T1, L1, k1, n1⟩, -, X1, ⟨Lc1, hQ1, l1, y1, z1⟩, st1⟩ := X0.virtualBack hx (y := own_y8) (z := own_y8) hown (mvT hZ (own_w hw 56 rfl)) (mvT hZ (own_w hw 57 rfl)) (notFace_of_selects (args := #[]) (mvT hZ (own_w hw 59 rfl))) (mvT hZ (own_w hw 59 rfl)) (mvT hZ (own_w hw 58 rfl)) (by decide) (backOf (W := 0) (rmA8 l Z a0 hw [] ob0 ob0_value k_ob0_value  cs wf h0 n0 O0 G0 E_ob0 F_ob0_coder V_ob0_value F_ob0_value  ) hZ (own_w hw 60 rfl) (own_w hw 7 rfl) (by decide) (by decide)) q1a q1c (g := (mkF m 1 #[.val (.ref ob0), .val (.int (58 : Int32)), .val (.int (0 : Int32))] [(.ref ob0)])) rfl (by rw [hml]; rfl) (Steps.refl _) (argsL := []) (rest := []) (lenOf own_pd1 rfl) rfl (by show 2 * 0 + _ ≤ _; exact Nat.le_of_eq rfl) (hb hby own_d9_1) (fun _ _ => ⟨rfl, e0, (by decide : 0 + 0 ≤ _), (by decide : 0 + 0 ≤ _)⟩)
  dsimp only [Pt.U, Pt.locs, Pt.cells, Pt.slots] at X1 l1 y1 z1 st1 hQ1
  subst l1 y1 z1
  obtain ⟨rfl, Nq1, e1⟩ := hQ1
  have N1 := Fr.app N0 Nq1
  obtain ⟨T2, X2, e2, st2⟩ := getF X1 hx hZ hown (host := "") (Or.inl (own_w hw 33 rfl)) Via.refl e1 F_ob0_value (g := (mkF m 8 #[.val (.ref ob0), .val (.int (58 : Int32)), .val (.int (0 : Int32))] [(.ref ob0)])) rfl rfl (hb hby own_d9_8)
  obtain ⟨cq3, kq3, q3a, q3b, q3c⟩ := isOf hZ e2 E_ob0
  obtain ⟨_, _, ⟨T3, L3, k3, n3⟩, -, X3, ⟨Lc3, hQ3, l3, y3, z3⟩, st3⟩ := X2.virtualBack hx (y := own_y4) (z := own_y4) hown (mvT hZ (own_w hw 61 rfl)) (mvT hZ (own_w hw 35 rfl)) (notFace_of_selects (args := #[]) (mvT hZ (own_w hw 37 rfl))) (mvT hZ (own_w hw 37 rfl)) (mvT hZ (own_w hw 36 rfl)) (by decide) (backOf (W := 3) (rmA4 l Z a0 hw [] ob0 ob0_value k_ob0_value  cs wf h0 n0 O0 G0 E_ob0 F_ob0_coder V_ob0_value F_ob0_value  ) hZ (own_w hw 38 rfl) (own_w hw 7 rfl) (by decide) (by decide)) q3a q3c (g := (mkF m 14 #[.val (.ref ob0), .val (.int (58 : Int32)), .val (.int (0 : Int32))] [(.ref ob0), (.int (0 : Int32)), (.int (58 : Int32)), (.ref ob0_value)])) rfl (by rw [hml]; rfl) (Steps.refl _) (argsL := []) (rest := [(.int (0 : Int32)), (.int (58 : Int32)), (.ref ob0_value)]) (lenOf own_pd3 rfl) rfl (by show 2 * 0 + _ ≤ _; exact Nat.le_of_eq rfl) (hb hby own_d9_14) (fun _ _ => ⟨rfl, e2, (by decide : 0 + 0 ≤ _), (by decide : 0 + 0 ≤ _)⟩)
  dsimp only [Pt.U, Pt.locs, Pt.cells, Pt.slots] at X3 l3 y3 z3 st3 hQ3
  subst l3 y3 z3
  obtain ⟨rfl, Nq3, e3⟩ := hQ3
  have N3 := Fr.app N1 Nq3
  obtain ⟨_, _, ⟨T4, L4, k4, n4⟩, -, X4, ⟨Lc4, hQ4, l4, y4, z4⟩, st4⟩ := Jvm.LawKit.callS X3 hx (y := own_y9) hown (mvT hZ (own_w hw 62 rfl)) (mvT hZ (own_w hw 63 rfl)) (mvT hZ (own_w hw 64 rfl)) (mvT hZ (own_w hw 65 rfl)) (by decide) (backOf (W := 0) (rmA9 l Z a0 hw [] ob0_value k_ob0_value  cs wf h0 n0 O0 G0 V_ob0_value  ) hZ (own_w hw 65 rfl) (own_w hw 64 rfl) (by decide) (by decide)) (g := (mkF m 17 #[.val (.ref ob0), .val (.int (58 : Int32)), .val (.int (0 : Int32))] [(.int (1 : Int32)), (.int (0 : Int32)), (.int (58 : Int32)), (.ref ob0_value)])) rfl (by rw [hml]; rfl) (argsL := [(.ref ob0_value), (.int (58 : Int32)), (.int (0 : Int32)), (.int (1 : Int32))]) (rest := []) (lenOf own_pd6 rfl) rfl (by show 2 * 0 + _ ≤ _; exact Nat.le_of_eq rfl) (hb hby own_d9_17) (fun _ _ => ⟨rfl, e3, (by decide : 0 + 0 ≤ _), (by decide : 0 + 0 ≤ _)⟩)
  dsimp only [Pt.U, Pt.locs, Pt.cells, Pt.slots] at X4 l4 y4 z4 st4 hQ4
  subst l4 y4 z4
  obtain ⟨rfl, Nq4, e4⟩ := hQ4
  have N4 := Fr.app N3 Nq4
  have g5 : ∀ t, Steps p.tables e below (T4.setTop (mkF m 36 #[.val (.ref ob0), .val (.int (58 : Int32)), .val (.int (0 : Int32))] [(.int (-1 : Int32))])) t → Steps p.tables e below (s₁.setTop (entryFrame m #[(.ref ob0), (.int (58 : Int32)), (.int (0 : Int32))] 3)) t := by
    intro t k
    refine g0 t ?_
    show Steps p.tables e below (s₁.setTop (mkF m 0 #[.val (.ref ob0), .val (.int (58 : Int32)), .val (.int (0 : Int32))] [])) _
    refine XS.aloadN X0.here hx rfl (hb hby own_d9_0) rfl rfl ?_
    refine st1.trans ?_
    refine XS.ifNo X1.here hx rfl (hb hby own_d9_4) rfl ((if0 _ _).trans (feq (by decide : ¬ ((1 : Int32) = (0 : Int32)))).1) ?_
    show Steps p.tables e below (T1.setTop (mkF m 7 #[.val (.ref ob0), .val (.int (58 : Int32)), .val (.int (0 : Int32))] [])) _
    refine XS.aloadN X1.here hx rfl (hb hby own_d9_7) rfl rfl ?_
    refine st2 _ ?_
    refine XS.iloadN X2.here hx rfl (hb hby own_d9_11) rfl ?_
    show Steps p.tables e below (T2.setTop (mkF m 12 #[.val (.ref ob0), .val (.int (58 : Int32)), .val (.int (0 : Int32))] [(.int (58 : Int32)), (.ref ob0_value)])) _
    refine XS.iloadN X2.here hx rfl (hb hby own_d9_12) rfl ?_
    refine XS.aloadN X2.here hx rfl (hb hby own_d9_13) rfl rfl ?_
    refine st3.trans ?_
    show Steps p.tables e below (T3.setTop (mkF m 17 #[.val (.ref ob0), .val (.int (58 : Int32)), .val (.int (0 : Int32))] [(.int (1 : Int32)), (.int (0 : Int32)), (.int (58 : Int32)), (.ref ob0_value)])) _
    refine st4 _ ?_
    refine XS.goto X4.here hx rfl (pc0 := 20) (pc' := 36) rfl (hb hby own_d9_20) (by decide) (by decide) ?_
    exact k
  obtain ⟨fs, hrt, hrun, hended, hW, hsame⟩ := X4.leave (v := some (.int (-1 : Int32))) (fun h => by rw [Bd.returns] at h; cases h)
  refine ⟨_, _, g5 _ ?_, hrun, hended, _, _, rfl, ?_, ⟨_, rfl⟩, hW, hsame.mono (by decide) (by decide)⟩
  · show Steps p.tables e below (T4.setTop (mkF m 36 #[.val (.ref ob0), .val (.int (58 : Int32)), .val (.int (0 : Int32))] [(.int (-1 : Int32))])) _
    exact retI X4 hx Bd.returns (hb hby own_d9_36) hrt
  · show own_Q_rmA7 Z ob0 ob0_value k_ob0_value cs wf h0 n0 _ T4.heap _
    rw [e4]
    exact ⟨rfl, N4, rfl⟩
theorem own_d8_6 : decode jdk_42_method_79_code 6 = .ok (.ireturn, 1) := by decide +kernel
def own_Q_rmA6 (Z : State) (ob0 : Addr) (ob0_value : Addr) (k_ob0_value : ClassId)  (cs : Int32) (wf : Value) (h0 : Heap) (n0 : Nat) (v : Option Value) (h : Heap) (L : List Loc) : Prop := v = some (.int (-1 : Int32)) ∧ Fr n0 L ∧ h = h0
set_option maxRecDepth 65536 in
set_option maxHeartbeats 40000000 in
theorem rmA6 (l : Launch) (Z : State) (a0 : Array Value) (hw : ∀ d ∈ tables_1, d.before a0 Z = true) (ws : List Jvm.Cond) (ob0 : Addr) (ob0_value : Addr) (k_ob0_value : ClassId)  (cs : Int32) (wf : Value) (h0 : Heap) (n0 : Nat) (O0 : Old Z n0 h0) (G : own_Gl Z cs wf) (E_ob0 : Exa Z h0 ob0 "java/lang/String") (F_ob0_coder : Fld Z h0 ob0 "java/lang/String" "coder" "B" (.int (0 : Int32))) (V_ob0_value : Arv Z h0 ob0_value k_ob0_value .byte (1 : Int32) [(.int (115 : Int32))] (.int (0 : Int32))) (F_ob0_value : Fld Z h0 ob0 "java/lang/String" "value" "[B" (.ref ob0_value)) :
    MetFree l own_y6 (head1 (Jvm.Cond.code own_y6 jdk_42_method_79_code 2 (some .int) :: ws) ({ frames := 3, cells := 0, slots := 0, locals := 46 } : Room)) (fun a U => a = #[(.ref ob0), (.int (58 : Int32))] ∧ Z.Warmed39 U.vm ∧ U.heap = h0) (fun _ _ _ _ _ => True) (fun _ U o U' => ∃ v L, o = .returned v ∧ own_Q_rmA6 Z ob0 ob0_value k_ob0_value cs wf h0 n0 v U'.heap L ∧ FrameEnd U o U' L ({ frames := 3, cells := 0, slots := 0, locals := 46 } : Room).cells ({ frames := 3, cells := 0, slots := 0, locals := 46 } : Room).slots) := by
  refine MetFree.of_bodySF (plainFor_of_name own_pn3) hisR ?_
  intro p e s m args below meth c s₁ Bd hml0 hP hK
  obtain ⟨rfl, hZ, hh⟩ := hP
  have hx := Bd.exec
  have hby := Bd.bytes
  have hml : c.maxLocals = 2 := hml0
  have hown : s.vm.findClass "java/lang/String" = some m.cls := findClass_of_methodNamed Bd.named
  have hnm := (name_of_methodNamed Bd.named Bd.method).1
  have X0 : Stand p l e ({ frames := 3, cells := 0, slots := 0, locals := 46 } : Room) s m #[(.ref ob0), (.int (58 : Int32))] below meth c s₁ [] 0 0 := Stand.of_body Bd
  have e0 : s₁.heap = h0 := by rw [← hh, Bd.state]; rfl
  have N0 := Fr.nil n0
  have Z0 : n0 ≤ h0.size := O0.1 ▸ O0.2.1
  have g0 : ∀ t, Steps p.tables e below (s₁.setTop (mkF m 0 #[.val (.ref ob0), .val (.int (58 : Int32))] [])) t → Steps p.tables e below (s₁.setTop (entryFrame m #[(.ref ob0), (.int (58 : Int32))] 2)) t := fun t k => castTop (own_ef8 m (ob0) ((58 : Int32))) k
  have G0 := G
  obtain ⟨S_CS, hcs, S_WF, hwf⟩ := G
  obtain ⟨cq1, kq1, q1a, q1b, q1c⟩ := isOf hZ e0 E_ob0
  obtain ⟨_, _, ⟨T1, L1, k1, n1⟩, -, X1, ⟨Lc1, hQ1, l1, y1, z1⟩, st1⟩ := X0.virtualBack hx (y := own_y7) (z := own_y7) hown (mvT hZ (own_w hw 51 rfl)) (mvT hZ (own_w hw 52 rfl)) (notFace_of_selects (args := #[]) (mvT hZ (own_w hw 54 rfl))) (mvT hZ (own_w hw 54 rfl)) (mvT hZ (own_w hw 53 rfl)) (by decide) (backOf (W := 0) (rmA7 l Z a0 hw [] ob0 ob0_value k_ob0_value  cs wf h0 n0 O0 G0 E_ob0 F_ob0_coder V_ob0_value F_ob0_value  ) hZ (own_w hw 55 rfl) (own_w hw 7 rfl) (by decide) (by decide)) q1a q1c (g := (mkF m 3 #[.val (.ref ob0), .val (.int (58 : Int32))] [(.int (0 : Int32)), (.int (58 : Int32)), (.ref ob0)])) rfl (by rw [hml]; rfl) (Steps.refl _) (argsL := [(.int (58 : Int32)), (.int (0 : Int32))]) (rest := []) (lenOf own_pd5 rfl) rfl (by show 2 * 0 + _ ≤ _; exact Nat.le_of_eq rfl) (hb hby own_d8_3) (fun _ _ => ⟨rfl, e0, (by decide : 0 + 0 ≤ _), (by decide : 0 + 0 ≤ _)⟩)
  dsimp only [Pt.U, Pt.locs, Pt.cells, Pt.slots] at X1 l1 y1 z1 st1 hQ1
  subst l1 y1 z1
  obtain ⟨rfl, Nq1, e1⟩ := hQ1
  have N1 := Fr.app N0 Nq1
  have g2 : ∀ t, Steps p.tables e below (T1.setTop (mkF m 6 #[.val (.ref ob0), .val (.int (58 : Int32))] [(.int (-1 : Int32))])) t → Steps p.tables e below (s₁.setTop (entryFrame m #[(.ref ob0), (.int (58 : Int32))] 2)) t := by
    intro t k
    refine g0 t ?_
    show Steps p.tables e below (s₁.setTop (mkF m 0 #[.val (.ref ob0), .val (.int (58 : Int32))] [])) _
    refine XS.aloadN X0.here hx rfl (hb hby own_d8_0) rfl rfl ?_
    refine XS.iloadN X0.here hx rfl (hb hby own_d8_1) rfl ?_
    refine XS.iconst X0.here hx rfl (hb hby own_d8_2) ?_
    show Steps p.tables e below (s₁.setTop (mkF m 3 #[.val (.ref ob0), .val (.int (58 : Int32))] [(.int (0 : Int32)), (.int (58 : Int32)), (.ref ob0)])) _
    refine st1.trans ?_
    exact k
  obtain ⟨fs, hrt, hrun, hended, hW, hsame⟩ := X1.leave (v := some (.int (-1 : Int32))) (fun h => by rw [Bd.returns] at h; cases h)
  refine ⟨_, _, g2 _ ?_, hrun, hended, _, _, rfl, ?_, ⟨_, rfl⟩, hW, hsame.mono (by decide) (by decide)⟩
  · show Steps p.tables e below (T1.setTop (mkF m 6 #[.val (.ref ob0), .val (.int (58 : Int32))] [(.int (-1 : Int32))])) _
    exact retI X1 hx Bd.returns (hb hby own_d8_6) hrt
  · show own_Q_rmA6 Z ob0 ob0_value k_ob0_value cs wf h0 n0 _ T1.heap _
    rw [e1]
    exact ⟨rfl, N1, rfl⟩
theorem own_pd7 : parseMethodDescriptor "(I)I" = some ⟨[.int], some .int⟩ := by decide +kernel
theorem own_d4_43 : decode prog_30_method_9_code 43 = .ok (.ifCond .lt 7, 3) := by decide +kernel
theorem own_d4_50 : decode prog_30_method_9_code 50 = .ok (.iconst 0, 1) := by decide +kernel
theorem own_d4_51 : decode prog_30_method_9_code 51 = .ok (.istore_n 1, 1) := by decide +kernel
theorem own_d4_52 : decode prog_30_method_9_code 52 = .ok (.iconst 0, 1) := by decide +kernel
theorem own_d4_53 : decode prog_30_method_9_code 53 = .ok (.istore_n 2, 1) := by decide +kernel
theorem own_d4_54 : decode prog_30_method_9_code 54 = .ok (.iload_n 2, 1) := by decide +kernel
theorem own_d4_55 : decode prog_30_method_9_code 55 = .ok (.aload_n 0, 1) := by decide +kernel
theorem own_d4_56 : decode prog_30_method_9_code 56 = .ok (.invokevirtual 103, 3) := by decide +kernel
theorem own_d4_59 : decode prog_30_method_9_code 59 = .ok (.if_icmp .ge 76, 3) := by decide +kernel
theorem own_d4_62 : decode prog_30_method_9_code 62 = .ok (.aload_n 0, 1) := by decide +kernel
theorem own_d4_63 : decode prog_30_method_9_code 63 = .ok (.iload_n 2, 1) := by decide +kernel
theorem own_d4_64 : decode prog_30_method_9_code 64 = .ok (.invokevirtual 108, 3) := by decide +kernel
abbrev own_y14 : MethodName := ⟨"java/lang/String", "charAt", "(I)C"⟩
theorem own_ef16 (m : MethodId) (x0 : Addr) (x1 : Int32) : entryFrame m #[(.ref x0), (.int x1)] 2 = mkF m 0 #[.val (.ref x0), .val (.int x1)] [] := by first | (simp [entryFrame, mkF, argsToLocals, Value.category]; done) | rfl
theorem own_d16_0 : decode jdk_42_method_56_code 0 = .ok (.aload_n 0, 1) := by decide +kernel
theorem own_d16_1 : decode jdk_42_method_56_code 1 = .ok (.invokevirtual 492, 3) := by decide +kernel
theorem own_d16_4 : decode jdk_42_method_56_code 4 = .ok (.ifCond .eq 12, 3) := by decide +kernel
theorem own_d16_7 : decode jdk_42_method_56_code 7 = .ok (.aload_n 0, 1) := by decide +kernel
theorem own_d16_8 : decode jdk_42_method_56_code 8 = .ok (.getfield 9, 3) := by decide +kernel
theorem own_d16_11 : decode jdk_42_method_56_code 11 = .ok (.iload_n 1, 1) := by decide +kernel
theorem own_d16_12 : decode jdk_42_method_56_code 12 = .ok (.invokestatic 495, 3) := by decide +kernel
abbrev own_y15 : MethodName := ⟨"java/lang/StringLatin1", "charAt", "([BI)C"⟩
theorem own_ef17 (m : MethodId) (x0 : Addr) (x1 : Int32) : entryFrame m #[(.ref x0), (.int x1)] 2 = mkF m 0 #[.val (.ref x0), .val (.int x1)] [] := by first | (simp [entryFrame, mkF, argsToLocals, Value.category]; done) | rfl
theorem own_d17_0 : decode jdk_43_method_2_code 0 = .ok (.iload_n 1, 1) := by decide +kernel
theorem own_d17_1 : decode jdk_43_method_2_code 1 = .ok (.aload_n 0, 1) := by decide +kernel
theorem own_d17_2 : decode jdk_43_method_2_code 2 = .ok (.arraylength, 1) := by decide +kernel
theorem own_d17_3 : decode jdk_43_method_2_code 3 = .ok (.invokestatic 9, 3) := by decide +kernel
abbrev own_y16 : MethodName := ⟨"java/lang/String", "checkIndex", "(II)V"⟩
theorem own_ef18 (m : MethodId) (x0 : Int32) (x1 : Int32) : entryFrame m #[(.int x0), (.int x1)] 2 = mkF m 0 #[.val (.int x0), .val (.int x1)] [] := by first | (simp [entryFrame, mkF, argsToLocals, Value.category]; done) | rfl
theorem own_d18_0 : decode jdk_42_method_155_code 0 = .ok (.iload_n 0, 1) := by decide +kernel
theorem own_d18_1 : decode jdk_42_method_155_code 1 = .ok (.iload_n 1, 1) := by decide +kernel
theorem own_d18_2 : decode jdk_42_method_155_code 2 = .ok (.getstatic 1053, 3) := by decide +kernel
theorem own_d18_5 : decode jdk_42_method_155_code 5 = .ok (.invokestatic 1059, 3) := by decide +kernel
abbrev own_y17 : MethodName := ⟨"jdk/internal/util/Preconditions", "checkIndex", "(IILjava/util/function/BiFunction;)I"⟩
theorem own_ef19 (m : MethodId) (x0 : Int32) (x1 : Int32) : entryFrame m #[(.int x0), (.int x1), .null] 3 = mkF m 0 #[.val (.int x0), .val (.int x1), .val .null] [] := by first | (simp [entryFrame, mkF, argsToLocals, Value.category]; done) | rfl
theorem own_pn5 : plainName "jdk/internal/util/Preconditions" = true := by first | (simp [plainName, overriddenIn]; done) | decide +kernel
theorem own_d19_0 : decode jdk_41_method_11_code 0 = .ok (.iload_n 0, 1) := by decide +kernel
theorem own_d19_1 : decode jdk_41_method_11_code 1 = .ok (.ifCond .lt 8, 3) := by decide +kernel
theorem own_d19_4 : decode jdk_41_method_11_code 4 = .ok (.iload_n 0, 1) := by decide +kernel
theorem own_d19_5 : decode jdk_41_method_11_code 5 = .ok (.iload_n 1, 1) := by decide +kernel
theorem own_d19_6 : decode jdk_41_method_11_code 6 = .ok (.if_icmp .lt 10, 3) := by decide +kernel
theorem own_d19_16 : decode jdk_41_method_11_code 16 = .ok (.iload_n 0, 1) := by decide +kernel
theorem own_d19_17 : decode jdk_41_method_11_code 17 = .ok (.ireturn, 1) := by decide +kernel
def own_Q_rmA17 (Z : State)   (cs : Int32) (wf : Value) (h0 : Heap) (n0 : Nat) (v : Option Value) (h : Heap) (L : List Loc) : Prop := v = some (.int (0 : Int32)) ∧ Fr n0 L ∧ h = h0
set_option maxRecDepth 65536 in
set_option maxHeartbeats 40000000 in
theorem rmA17 (l : Launch) (Z : State) (a0 : Array Value) (hw : ∀ d ∈ tables_1, d.before a0 Z = true) (ws : List Jvm.Cond)   (cs : Int32) (wf : Value) (h0 : Heap) (n0 : Nat) (O0 : Old Z n0 h0) (G : own_Gl Z cs wf) :
    MetFree l own_y17 (head1 (Jvm.Cond.code own_y17 jdk_41_method_11_code 3 (some .int) :: ws) ({ frames := 0, cells := 0, slots := 0, locals := 0 } : Room)) (fun a U => a = #[(.int (0 : Int32)), (.int (1 : Int32)), .null] ∧ Z.Warmed39 U.vm ∧ U.heap = h0) (fun _ _ _ _ _ => True) (fun _ U o U' => ∃ v L, o = .returned v ∧ own_Q_rmA17 Z cs wf h0 n0 v U'.heap L ∧ FrameEnd U o U' L ({ frames := 0, cells := 0, slots := 0, locals := 0 } : Room).cells ({ frames := 0, cells := 0, slots := 0, locals := 0 } : Room).slots) := by
  refine MetFree.of_bodySF (plainFor_of_name own_pn5) hisR ?_
  intro p e s m args below meth c s₁ Bd hml0 hP hK
  obtain ⟨rfl, hZ, hh⟩ := hP
  have hx := Bd.exec
  have hby := Bd.bytes
  have hml : c.maxLocals = 3 := hml0
  have hown : s.vm.findClass "jdk/internal/util/Preconditions" = some m.cls := findClass_of_methodNamed Bd.named
  have hnm := (name_of_methodNamed Bd.named Bd.method).1
  have X0 : Stand p l e ({ frames := 0, cells := 0, slots := 0, locals := 0 } : Room) s m #[(.int (0 : Int32)), (.int (1 : Int32)), .null] below meth c s₁ [] 0 0 := Stand.of_body Bd
  have e0 : s₁.heap = h0 := by rw [← hh, Bd.state]; rfl
  have N0 := Fr.nil n0
  have Z0 : n0 ≤ h0.size := O0.1 ▸ O0.2.1
  have g0 : ∀ t, Steps p.tables e below (s₁.setTop (mkF m 0 #[.val (.int (0 : Int32)), .val (.int (1 : Int32)), .val .null] [])) t → Steps p.tables e below (s₁.setTop (entryFrame m #[(.int (0 : Int32)), (.int (1 : Int32)), .null] 3)) t := fun t k => castTop (own_ef19 m ((0 : Int32)) ((1 : Int32))) k
  have G0 := G
  obtain ⟨S_CS, hcs, S_WF, hwf⟩ := G
  have g1 : ∀ t, Steps p.tables e below (s₁.setTop (mkF m 17 #[.val (.int (0 : Int32)), .val (.int (1 : Int32)), .val .null] [(.int (0 : Int32))])) t → Steps p.tables e below (s₁.setTop (entryFrame m #[(.int (0 : Int32)), (.int (1 : Int32)), .null] 3)) t := by
    intro t k
    refine g0 t ?_
    show Steps p.tables e below (s₁.setTop (mkF m 0 #[.val (.int (0 : Int32)), .val (.int (1 : Int32)), .val .null] [])) _
    refine XS.iloadN X0.here hx rfl (hb hby own_d19_0) rfl ?_
    refine XS.ifNo X0.here hx rfl (hb hby own_d19_1) rfl ((if0 _ _).trans (flt (by decide : ¬ ((0 : Int32) < (0 : Int32)))).1) ?_
    refine XS.iloadN X0.here hx rfl (hb hby own_d19_4) rfl ?_
    show Steps p.tables e below (s₁.setTop (mkF m 5 #[.val (.int (0 : Int32)), .val (.int (1 : Int32)), .val .null] [(.int (0 : Int32))])) _
    refine XS.iloadN X0.here hx rfl (hb hby own_d19_5) rfl ?_
    refine XS.icmpYes X0.here hx rfl (pc0 := 6) (pc' := 16) rfl (hb hby own_d19_6) rfl (tlt (by decide : (0 : Int32) < (1 : Int32))).1 (by decide) (by decide) ?_
    refine XS.iloadN X0.here hx rfl (hb hby own_d19_16) rfl ?_
    exact k
  obtain ⟨fs, hrt, hrun, hended, hW, hsame⟩ := X0.leave (v := some (.int (0 : Int32))) (fun h => by rw [Bd.returns] at h; cases h)
  refine ⟨_, _, g1 _ ?_, hrun, hended, _, _, rfl, ?_, ⟨_, rfl⟩, hW, hsame.mono (by decide) (by decide)⟩
  · show Steps p.tables e below (s₁.setTop (mkF m 17 #[.val (.int (0 : Int32)), .val (.int (1 : Int32)), .val .null] [(.int (0 : Int32))])) _
    exact retI X0 hx Bd.returns (hb hby own_d19_17) hrt
  · show own_Q_rmA17 Z cs wf h0 n0 _ s₁.heap _
    rw [e0]
    exact ⟨rfl, N0, rfl⟩
theorem own_pd8 : parseMethodDescriptor "(IILjava/util/function/BiFunction;)I" = some ⟨[.int, .int, (.object "java/util/function/BiFunction")], some .int⟩ := by decide +kernel
theorem own_d18_8 : decode jdk_42_method_155_code 8 = .ok (.pop, 1) := by decide +kernel
theorem own_d18_9 : decode jdk_42_method_155_code 9 = .ok (.return_, 1) := by decide +kernel
theorem own_ef20 (m : MethodId) (x0 : Int32) (x1 : Int32) (x2 : Addr) : entryFrame m #[(.int x0), (.int x1), (.ref x2)] 3 = mkF m 0 #[.val (.int x0), .val (.int x1), .val (.ref x2)] [] := by first | (simp [entryFrame, mkF, argsToLocals, Value.category]; done) | rfl
def own_Q_rmA18 (Z : State) (ob2 : Addr)  (cs : Int32) (wf : Value) (h0 : Heap) (n0 : Nat) (v : Option Value) (h : Heap) (L : List Loc) : Prop := v = some (.int (0 : Int32)) ∧ Fr n0 L ∧ h = h0
set_option maxRecDepth 65536 in
set_option maxHeartbeats 40000000 in
theorem rmA18 (l : Launch) (Z : State) (a0 : Array Value) (hw : ∀ d ∈ tables_1, d.before a0 Z = true) (ws : List Jvm.Cond) (ob2 : Addr)  (cs : Int32) (wf : Value) (h0 : Heap) (n0 : Nat) (O0 : Old Z n0 h0) (G : own_Gl Z cs wf) :
    MetFree l own_y17 (head1 (Jvm.Cond.code own_y17 jdk_41_method_11_code 3 (some .int) :: ws) ({ frames := 0, cells := 0, slots := 0, locals := 0 } : Room)) (fun a U => a = #[(.int (0 : Int32)), (.int (1 : Int32)), (.ref ob2)] ∧ Z.Warmed39 U.vm ∧ U.heap = h0) (fun _ _ _ _ _ => True) (fun _ U o U' => ∃ v L, o = .returned v ∧ own_Q_rmA18 Z ob2 cs wf h0 n0 v U'.heap L ∧ FrameEnd U o U' L ({ frames := 0, cells := 0, slots := 0, locals := 0 } : Room).cells ({ frames := 0, cells := 0, slots := 0, locals := 0 } : Room).slots) := by
  refine MetFree.of_bodySF (plainFor_of_name own_pn5) hisR ?_
  intro p e s m args below meth c s₁ Bd hml0 hP hK
  obtain ⟨rfl, hZ, hh⟩ := hP
  have hx := Bd.exec
  have hby := Bd.bytes
  have hml : c.maxLocals = 3 := hml0
  have hown : s.vm.findClass "jdk/internal/util/Preconditions" = some m.cls := findClass_of_methodNamed Bd.named
  have hnm := (name_of_methodNamed Bd.named Bd.method).1
  have X0 : Stand p l e ({ frames := 0, cells := 0, slots := 0, locals := 0 } : Room) s m #[(.int (0 : Int32)), (.int (1 : Int32)), (.ref ob2)] below meth c s₁ [] 0 0 := Stand.of_body Bd
  have e0 : s₁.heap = h0 := by rw [← hh, Bd.state]; rfl
  have N0 := Fr.nil n0
  have Z0 : n0 ≤ h0.size := O0.1 ▸ O0.2.1
  have g0 : ∀ t, Steps p.tables e below (s₁.setTop (mkF m 0 #[.val (.int (0 : Int32)), .val (.int (1 : Int32)), .val (.ref ob2)] [])) t → Steps p.tables e below (s₁.setTop (entryFrame m #[(.int (0 : Int32)), (.int (1 : Int32)), (.ref ob2)] 3)) t := fun t k => castTop (own_ef20 m ((0 : Int32)) ((1 : Int32)) (ob2)) k
  have G0 := G
  obtain ⟨S_CS, hcs, S_WF, hwf⟩ := G
  have g1 : ∀ t, Steps p.tables e below (s₁.setTop (mkF m 17 #[.val (.int (0 : Int32)), .val (.int (1 : Int32)), .val (.ref ob2)] [(.int (0 : Int32))])) t → Steps p.tables e below (s₁.setTop (entryFrame m #[(.int (0 : Int32)), (.int (1 : Int32)), (.ref ob2)] 3)) t := by
    intro t k
    refine g0 t ?_
    show Steps p.tables e below (s₁.setTop (mkF m 0 #[.val (.int (0 : Int32)), .val (.int (1 : Int32)), .val (.ref ob2)] [])) _
    refine XS.iloadN X0.here hx rfl (hb hby own_d19_0) rfl ?_
    refine XS.ifNo X0.here hx rfl (hb hby own_d19_1) rfl ((if0 _ _).trans (flt (by decide : ¬ ((0 : Int32) < (0 : Int32)))).1) ?_
    refine XS.iloadN X0.here hx rfl (hb hby own_d19_4) rfl ?_
    show Steps p.tables e below (s₁.setTop (mkF m 5 #[.val (.int (0 : Int32)), .val (.int (1 : Int32)), .val (.ref ob2)] [(.int (0 : Int32))])) _
    refine XS.iloadN X0.here hx rfl (hb hby own_d19_5) rfl ?_
    refine XS.icmpYes X0.here hx rfl (pc0 := 6) (pc' := 16) rfl (hb hby own_d19_6) rfl (tlt (by decide : (0 : Int32) < (1 : Int32))).1 (by decide) (by decide) ?_
    refine XS.iloadN X0.here hx rfl (hb hby own_d19_16) rfl ?_
    exact k
  obtain ⟨fs, hrt, hrun, hended, hW, hsame⟩ := X0.leave (v := some (.int (0 : Int32))) (fun h => by rw [Bd.returns] at h; cases h)
  refine ⟨_, _, g1 _ ?_, hrun, hended, _, _, rfl, ?_, ⟨_, rfl⟩, hW, hsame.mono (by decide) (by decide)⟩
  · show Steps p.tables e below (s₁.setTop (mkF m 17 #[.val (.int (0 : Int32)), .val (.int (1 : Int32)), .val (.ref ob2)] [(.int (0 : Int32))])) _
    exact retI X0 hx Bd.returns (hb hby own_d19_17) hrt
  · show own_Q_rmA18 Z ob2 cs wf h0 n0 _ s₁.heap _
    rw [e0]
    exact ⟨rfl, N0, rfl⟩
def own_Q_rmA16 (Z : State)   (cs : Int32) (wf : Value) (h0 : Heap) (n0 : Nat) (v : Option Value) (h : Heap) (L : List Loc) : Prop := v = none ∧ Fr n0 L ∧ h = h0
set_option maxRecDepth 65536 in
set_option maxHeartbeats 40000000 in
theorem rmA16 (l : Launch) (Z : State) (a0 : Array Value) (hw : ∀ d ∈ tables_1, d.before a0 Z = true) (ws : List Jvm.Cond)   (cs : Int32) (wf : Value) (h0 : Heap) (n0 : Nat) (O0 : Old Z n0 h0) (G : own_Gl Z cs wf) :
    MetFree l own_y16 (head1 (Jvm.Cond.code own_y16 jdk_42_method_155_code 2 none :: ws) ({ frames := 1, cells := 0, slots := 0, locals := 14 } : Room)) (fun a U => a = #[(.int (0 : Int32)), (.int (1 : Int32))] ∧ Z.Warmed39 U.vm ∧ U.heap = h0) (fun _ _ _ _ _ => True) (fun _ U o U' => ∃ v L, o = .returned v ∧ own_Q_rmA16 Z cs wf h0 n0 v U'.heap L ∧ FrameEnd U o U' L ({ frames := 1, cells := 0, slots := 0, locals := 14 } : Room).cells ({ frames := 1, cells := 0, slots := 0, locals := 14 } : Room).slots) := by
  refine MetFree.of_bodySF (plainFor_of_name own_pn3) hisR ?_
  intro p e s m args below meth c s₁ Bd hml0 hP hK
  obtain ⟨rfl, hZ, hh⟩ := hP
  have hx := Bd.exec
  have hby := Bd.bytes
  have hml : c.maxLocals = 2 := hml0
  have hown : s.vm.findClass "java/lang/String" = some m.cls := findClass_of_methodNamed Bd.named
  have hnm := (name_of_methodNamed Bd.named Bd.method).1
  have X0 : Stand p l e ({ frames := 1, cells := 0, slots := 0, locals := 14 } : Room) s m #[(.int (0 : Int32)), (.int (1 : Int32))] below meth c s₁ [] 0 0 := Stand.of_body Bd
  have e0 : s₁.heap = h0 := by rw [← hh, Bd.state]; rfl
  have N0 := Fr.nil n0
  have Z0 : n0 ≤ h0.size := O0.1 ▸ O0.2.1
  have g0 : ∀ t, Steps p.tables e below (s₁.setTop (mkF m 0 #[.val (.int (0 : Int32)), .val (.int (1 : Int32))] [])) t → Steps p.tables e below (s₁.setTop (entryFrame m #[(.int (0 : Int32)), (.int (1 : Int32))] 2)) t := fun t k => castTop (own_ef18 m ((0 : Int32)) ((1 : Int32))) k
  have G0 := G
  obtain ⟨S_CS, hcs, S_WF, hwf⟩ := G
  obtain ⟨T1, X1, e1, st1⟩ := getS2 X0 hx hZ hown (host := "") (Or.inl (own_w hw 90 rfl)) Via.refl e0 (S_WF.ext O0.2) (g := (mkF m 2 #[.val (.int (0 : Int32)), .val (.int (1 : Int32))] [(.int (1 : Int32)), (.int (0 : Int32))])) rfl (hb hby own_d18_2)
  have g2 : ∀ t, Steps p.tables e below (T1.setTop (mkF m 5 #[.val (.int (0 : Int32)), .val (.int (1 : Int32))] [wf, (.int (1 : Int32)), (.int (0 : Int32))])) t → Steps p.tables e below (s₁.setTop (entryFrame m #[(.int (0 : Int32)), (.int (1 : Int32))] 2)) t := by
    intro t k
    refine g0 t ?_
    show Steps p.tables e below (s₁.setTop (mkF m 0 #[.val (.int (0 : Int32)), .val (.int (1 : Int32))] [])) _
    refine XS.iloadN X0.here hx rfl (hb hby own_d18_0) rfl ?_
    refine XS.iloadN X0.here hx rfl (hb hby own_d18_1) rfl ?_
    refine st1 _ ?_
    exact k
  rcases hwf with hwf1 | ⟨xf, hwf1⟩
  · skip
    obtain ⟨_, _, ⟨T3, L3, k3, n3⟩, -, X3, ⟨Lc3, hQ3, l3, y3, z3⟩, st3⟩ := Jvm.LawKit.callS X1 hx (y := own_y17) hown (mvT hZ (own_w hw 92 rfl)) (mvT hZ (own_w hw 93 rfl)) (mvT hZ (own_w hw 91 rfl)) (mvT hZ (own_w hw 94 rfl)) (by decide) (backOf (W := 0) (rmA17 l Z a0 hw []   cs wf h0 n0 O0 G0   ) hZ (own_w hw 94 rfl) (own_w hw 91 rfl) (by decide) (by decide)) (g := (mkF m 5 #[.val (.int (0 : Int32)), .val (.int (1 : Int32))] [.null, (.int (1 : Int32)), (.int (0 : Int32))])) rfl (by rw [hml]; rfl) (argsL := [(.int (0 : Int32)), (.int (1 : Int32)), .null]) (rest := []) (lenOf own_pd8 rfl) rfl (by show 2 * 0 + _ ≤ _; exact Nat.le_of_eq rfl) (hb hby own_d18_5) (fun _ _ => ⟨rfl, e1, (by decide : 0 + 0 ≤ _), (by decide : 0 + 0 ≤ _)⟩)
    dsimp only [Pt.U, Pt.locs, Pt.cells, Pt.slots] at X3 l3 y3 z3 st3 hQ3
    subst l3 y3 z3
    obtain ⟨rfl, Nq3, e3⟩ := hQ3
    have N3 := Fr.app N0 Nq3
    have g4 : ∀ t, Steps p.tables e below (T3.setTop (mkF m 9 #[.val (.int (0 : Int32)), .val (.int (1 : Int32))] [])) t → Steps p.tables e below (s₁.setTop (entryFrame m #[(.int (0 : Int32)), (.int (1 : Int32))] 2)) t := by
      intro t k
      refine g2 t ?_
      show Steps p.tables e below (T1.setTop (mkF m 5 #[.val (.int (0 : Int32)), .val (.int (1 : Int32))] [wf, (.int (1 : Int32)), (.int (0 : Int32))])) _
      rw [hwf1]
      show Steps p.tables e below (T1.setTop (mkF m 5 #[.val (.int (0 : Int32)), .val (.int (1 : Int32))] [.null, (.int (1 : Int32)), (.int (0 : Int32))])) _
      refine st3 _ ?_
      refine XS.pop X3.here hx rfl (hb hby own_d18_8) rfl rfl ?_
      exact k
    obtain ⟨fs, hrt, hrun, hended, hW, hsame⟩ := X3.leave (v := none) (fun _ => rfl)
    refine ⟨_, _, g4 _ ?_, hrun, hended, _, _, rfl, ?_, ⟨_, rfl⟩, hW, hsame.mono (by decide) (by decide)⟩
    · show Steps p.tables e below (T3.setTop (mkF m 9 #[.val (.int (0 : Int32)), .val (.int (1 : Int32))] [])) _
      exact X3.returnOut hx Bd.returns (hb hby own_d18_9) hrt
    · show own_Q_rmA16 Z cs wf h0 n0 _ T3.heap _
      rw [e3]
      exact ⟨rfl, N3, rfl⟩
  · skip
    obtain ⟨_, _, ⟨T5, L5, k5, n5⟩, -, X5, ⟨Lc5, hQ5, l5, y5, z5⟩, st5⟩ := Jvm.LawKit.callS X1 hx (y := own_y17) hown (mvT hZ (own_w hw 92 rfl)) (mvT hZ (own_w hw 93 rfl)) (mvT hZ (own_w hw 91 rfl)) (mvT hZ (own_w hw 94 rfl)) (by decide) (backOf (W := 0) (rmA18 l Z a0 hw [] xf  cs wf h0 n0 O0 G0   ) hZ (own_w hw 94 rfl) (own_w hw 91 rfl) (by decide) (by decide)) (g := (mkF m 5 #[.val (.int (0 : Int32)), .val (.int (1 : Int32))] [(.ref xf), (.int (1 : Int32)), (.int (0 : Int32))])) rfl (by rw [hml]; rfl) (argsL := [(.int (0 : Int32)), (.int (1 : Int32)), (.ref xf)]) (rest := []) (lenOf own_pd8 rfl) rfl (by show 2 * 0 + _ ≤ _; exact Nat.le_of_eq rfl) (hb hby own_d18_5) (fun _ _ => ⟨rfl, e1, (by decide : 0 + 0 ≤ _), (by decide : 0 + 0 ≤ _)⟩)
    dsimp only [Pt.U, Pt.locs, Pt.cells, Pt.slots] at X5 l5 y5 z5 st5 hQ5
    subst l5 y5 z5
    obtain ⟨rfl, Nq5, e5⟩ := hQ5
    have N5 := Fr.app N0 Nq5
    have g6 : ∀ t, Steps p.tables e below (T5.setTop (mkF m 9 #[.val (.int (0 : Int32)), .val (.int (1 : Int32))] [])) t → Steps p.tables e below (s₁.setTop (entryFrame m #[(.int (0 : Int32)), (.int (1 : Int32))] 2)) t := by
      intro t k
      refine g2 t ?_
      show Steps p.tables e below (T1.setTop (mkF m 5 #[.val (.int (0 : Int32)), .val (.int (1 : Int32))] [wf, (.int (1 : Int32)), (.int (0 : Int32))])) _
      rw [hwf1]
      show Steps p.tables e below (T1.setTop (mkF m 5 #[.val (.int (0 : Int32)), .val (.int (1 : Int32))] [(.ref xf), (.int (1 : Int32)), (.int (0 : Int32))])) _
      refine st5 _ ?_
      refine XS.pop X5.here hx rfl (hb hby own_d18_8) rfl rfl ?_
      exact k
    obtain ⟨fs, hrt, hrun, hended, hW, hsame⟩ := X5.leave (v := none) (fun _ => rfl)
    refine ⟨_, _, g6 _ ?_, hrun, hended, _, _, rfl, ?_, ⟨_, rfl⟩, hW, hsame.mono (by decide) (by decide)⟩
    · show Steps p.tables e below (T5.setTop (mkF m 9 #[.val (.int (0 : Int32)), .val (.int (1 : Int32))] [])) _
      exact X5.returnOut hx Bd.returns (hb hby own_d18_9) hrt
    · show own_Q_rmA16 Z cs wf h0 n0 _ T5.heap _
      rw [e5]
      exact ⟨rfl, N5, rfl⟩
theorem own_pd9 : parseMethodDescriptor "(II)V" = some ⟨[.int, .int], none⟩ := by decide +kernel
theorem own_d17_6 : decode jdk_43_method_2_code 6 = .ok (.aload_n 0, 1) := by decide +kernel
theorem own_d17_7 : decode jdk_43_method_2_code 7 = .ok (.iload_n 1, 1) := by decide +kernel
theorem own_d17_8 : decode jdk_43_method_2_code 8 = .ok (.baload, 1) := by decide +kernel
theorem own_d17_9 : decode jdk_43_method_2_code 9 = .ok (.sipush 255, 3) := by decide +kernel
theorem own_d17_12 : decode jdk_43_method_2_code 12 = .ok (.iand, 1) := by decide +kernel
theorem own_d17_13 : decode jdk_43_method_2_code 13 = .ok (.i2c, 1) := by decide +kernel
theorem own_d17_14 : decode jdk_43_method_2_code 14 = .ok (.ireturn, 1) := by decide +kernel
def own_Q_rmA15 (Z : State) (ob0 : Addr) (k_ob0 : ClassId)  (cs : Int32) (wf : Value) (h0 : Heap) (n0 : Nat) (v : Option Value) (h : Heap) (L : List Loc) : Prop := v = some (.int (115 : Int32)) ∧ Fr n0 L ∧ h = h0
set_option maxRecDepth 65536 in
set_option maxHeartbeats 40000000 in
theorem rmA15 (l : Launch) (Z : State) (a0 : Array Value) (hw : ∀ d ∈ tables_1, d.before a0 Z = true) (ws : List Jvm.Cond) (ob0 : Addr) (k_ob0 : ClassId)  (cs : Int32) (wf : Value) (h0 : Heap) (n0 : Nat) (O0 : Old Z n0 h0) (G : own_Gl Z cs wf) (V_ob0 : Arv Z h0 ob0 k_ob0 .byte (1 : Int32) [(.int (115 : Int32))] (.int (0 : Int32))) :
    MetFree l own_y15 (head1 (Jvm.Cond.code own_y15 jdk_43_method_2_code 2 (some .char) :: ws) ({ frames := 2, cells := 0, slots := 0, locals := 27 } : Room)) (fun a U => a = #[(.ref ob0), (.int (0 : Int32))] ∧ Z.Warmed39 U.vm ∧ U.heap = h0) (fun _ _ _ _ _ => True) (fun _ U o U' => ∃ v L, o = .returned v ∧ own_Q_rmA15 Z ob0 k_ob0 cs wf h0 n0 v U'.heap L ∧ FrameEnd U o U' L ({ frames := 2, cells := 0, slots := 0, locals := 27 } : Room).cells ({ frames := 2, cells := 0, slots := 0, locals := 27 } : Room).slots) := by
  refine MetFree.of_bodySF (plainFor_of_name own_pn4) hisR ?_
  intro p e s m args below meth c s₁ Bd hml0 hP hK
  obtain ⟨rfl, hZ, hh⟩ := hP
  have hx := Bd.exec
  have hby := Bd.bytes
  have hml : c.maxLocals = 2 := hml0
  have hown : s.vm.findClass "java/lang/StringLatin1" = some m.cls := findClass_of_methodNamed Bd.named
  have hnm := (name_of_methodNamed Bd.named Bd.method).1
  have X0 : Stand p l e ({ frames := 2, cells := 0, slots := 0, locals := 27 } : Room) s m #[(.ref ob0), (.int (0 : Int32))] below meth c s₁ [] 0 0 := Stand.of_body Bd
  have e0 : s₁.heap = h0 := by rw [← hh, Bd.state]; rfl
  have N0 := Fr.nil n0
  have Z0 : n0 ≤ h0.size := O0.1 ▸ O0.2.1
  have g0 : ∀ t, Steps p.tables e below (s₁.setTop (mkF m 0 #[.val (.ref ob0), .val (.int (0 : Int32))] [])) t → Steps p.tables e below (s₁.setTop (entryFrame m #[(.ref ob0), (.int (0 : Int32))] 2)) t := fun t k => castTop (own_ef17 m (ob0) ((0 : Int32))) k
  have G0 := G
  obtain ⟨S_CS, hcs, S_WF, hwf⟩ := G
  obtain ⟨c1, Ar1, cq1, S1, Nn1, Hh1, Gg1⟩ := id V_ob0
  obtain ⟨_, _, ⟨T2, L2, k2, n2⟩, -, X2, ⟨Lc2, hQ2, l2, y2, z2⟩, st2⟩ := Jvm.LawKit.callS X0 hx (y := own_y16) hown (mvT hZ (own_w hw 87 rfl)) (mvT hZ (own_w hw 88 rfl)) (mvT hZ (own_w hw 7 rfl)) (mvT hZ (own_w hw 89 rfl)) (by decide) (backOf (W := 0) (rmA16 l Z a0 hw []   cs wf h0 n0 O0 G0   ) hZ (own_w hw 89 rfl) (own_w hw 7 rfl) (by decide) (by decide)) (g := (mkF m 3 #[.val (.ref ob0), .val (.int (0 : Int32))] [(.int (1 : Int32)), (.int (0 : Int32))])) rfl (by rw [hml]; rfl) (argsL := [(.int (0 : Int32)), (.int (1 : Int32))]) (rest := []) (lenOf own_pd9 rfl) rfl (by show 2 * 0 + _ ≤ _; exact Nat.le_of_eq rfl) (hb hby own_d17_3) (fun _ _ => ⟨rfl, e0, (by decide : 0 + 0 ≤ _), (by decide : 0 + 0 ≤ _)⟩)
  dsimp only [Pt.U, Pt.locs, Pt.cells, Pt.slots] at X2 l2 y2 z2 st2 hQ2
  subst l2 y2 z2
  obtain ⟨rfl, Nq2, e2⟩ := hQ2
  have N2 := Fr.app N0 Nq2
  obtain ⟨c3, Ar3, cq3, S3, Nn3, Hh3, Gg3⟩ := id V_ob0
  have hin3 : ¬ ((0 : Int32) < 0 ∨ c3.slots.size ≤ ((0 : Int32)).toNatClampNeg) := inb_of S3 ⟨by decide, by decide⟩
  have hat3 : c3.slots[((0 : Int32)).toNatClampNeg]? = some (.int (115 : Int32)) := Has.at Hh3 hin3 rfl
  have g4 : ∀ t, Steps p.tables e below (T2.setTop (mkF m 14 #[.val (.ref ob0), .val (.int (0 : Int32))] [(.int (115 : Int32))])) t → Steps p.tables e below (s₁.setTop (entryFrame m #[(.ref ob0), (.int (0 : Int32))] 2)) t := by
    intro t k
    refine g0 t ?_
    show Steps p.tables e below (s₁.setTop (mkF m 0 #[.val (.ref ob0), .val (.int (0 : Int32))] [])) _
    refine XS.iloadN X0.here hx rfl (hb hby own_d17_0) rfl ?_
    refine XS.aloadN X0.here hx rfl (hb hby own_d17_1) rfl rfl ?_
    show Steps p.tables e below (s₁.setTop (mkF m 2 #[.val (.ref ob0), .val (.int (0 : Int32))] [(.ref ob0), (.int (0 : Int32))])) _
    refine X0.arraylength hx (by rw [e0]; exact Ar1.1) (State.isArrayOf_alike hZ.alike Ar1.2.1) (g := (mkF m 2 #[.val (.ref ob0), .val (.int (0 : Int32))] [(.ref ob0), (.int (0 : Int32))])) rfl rfl (hb hby own_d17_2) _ ?_
    rw [len_of S1 Nn1]
    show Steps p.tables e below (s₁.setTop (mkF m 3 #[.val (.ref ob0), .val (.int (0 : Int32))] [(.int (1 : Int32)), (.int (0 : Int32))])) _
    refine st2 _ ?_
    refine XS.aloadN X2.here hx rfl (hb hby own_d17_6) rfl rfl ?_
    refine XS.iloadN X2.here hx rfl (hb hby own_d17_7) rfl ?_
    show Steps p.tables e below (T2.setTop (mkF m 8 #[.val (.ref ob0), .val (.int (0 : Int32))] [(.int (0 : Int32)), (.ref ob0)])) _
    refine X2.baloadBytes hx (j := (0 : Int32)) (v := (.int (115 : Int32))) (by rw [e2]; exact Ar3.1) (State.isArrayOf_alike hZ.alike Ar3.2.1) Ar3.2.2 hin3 hat3 (g := (mkF m 8 #[.val (.ref ob0), .val (.int (0 : Int32))] [(.int (0 : Int32)), (.ref ob0)])) rfl rfl (hb hby own_d17_8) _ ?_
    refine XS.sipush X2.here hx rfl (hb hby own_d17_9) ?_
    show Steps p.tables e below (T2.setTop (mkF m 12 #[.val (.ref ob0), .val (.int (0 : Int32))] [(.int (255 : Int32)), (.int (115 : Int32))])) _
    refine XS.iand X2.here hx rfl (hb hby own_d17_12) rfl ?_
    rw [show ((115 : Int32) &&& (255 : Int32)) = (115 : Int32) from by decide]
    show Steps p.tables e below (T2.setTop (mkF m 13 #[.val (.ref ob0), .val (.int (0 : Int32))] [(.int (115 : Int32))])) _
    refine XS.i2c X2.here hx rfl (hb hby own_d17_13) rfl ?_
    rw [show ((115 : Int32).toUInt32.toUInt16.toUInt32.toInt32) = (115 : Int32) from by decide]
    exact k
  obtain ⟨fs, hrt, hrun, hended, hW, hsame⟩ := X2.leave (v := some (.int (115 : Int32))) (fun h => by rw [Bd.returns] at h; cases h)
  refine ⟨_, _, g4 _ ?_, hrun, hended, _, _, rfl, ?_, ⟨_, rfl⟩, hW, hsame.mono (by decide) (by decide)⟩
  · show Steps p.tables e below (T2.setTop (mkF m 14 #[.val (.ref ob0), .val (.int (0 : Int32))] [(.int (115 : Int32))])) _
    exact retN X2 hx (t := .char) Bd.returns (by simp) (hb hby own_d17_14) hrt
  · show own_Q_rmA15 Z ob0 k_ob0 cs wf h0 n0 _ T2.heap _
    rw [e2]
    exact ⟨rfl, N2, rfl⟩
theorem own_pd10 : parseMethodDescriptor "([BI)C" = some ⟨[(.array .byte), .int], some .char⟩ := by decide +kernel
theorem own_d16_15 : decode jdk_42_method_56_code 15 = .ok (.ireturn, 1) := by decide +kernel
def own_Q_rmA14 (Z : State) (ob0 : Addr) (ob0_value : Addr) (k_ob0_value : ClassId)  (cs : Int32) (wf : Value) (h0 : Heap) (n0 : Nat) (v : Option Value) (h : Heap) (L : List Loc) : Prop := v = some (.int (115 : Int32)) ∧ Fr n0 L ∧ h = h0
set_option maxRecDepth 65536 in
set_option maxHeartbeats 40000000 in
theorem rmA14 (l : Launch) (Z : State) (a0 : Array Value) (hw : ∀ d ∈ tables_1, d.before a0 Z = true) (ws : List Jvm.Cond) (ob0 : Addr) (ob0_value : Addr) (k_ob0_value : ClassId)  (cs : Int32) (wf : Value) (h0 : Heap) (n0 : Nat) (O0 : Old Z n0 h0) (G : own_Gl Z cs wf) (E_ob0 : Exa Z h0 ob0 "java/lang/String") (F_ob0_coder : Fld Z h0 ob0 "java/lang/String" "coder" "B" (.int (0 : Int32))) (V_ob0_value : Arv Z h0 ob0_value k_ob0_value .byte (1 : Int32) [(.int (115 : Int32))] (.int (0 : Int32))) (F_ob0_value : Fld Z h0 ob0 "java/lang/String" "value" "[B" (.ref ob0_value)) :
    MetFree l own_y14 (head1 (Jvm.Cond.code own_y14 jdk_42_method_56_code 2 (some .char) :: ws) ({ frames := 3, cells := 0, slots := 0, locals := 40 } : Room)) (fun a U => a = #[(.ref ob0), (.int (0 : Int32))] ∧ Z.Warmed39 U.vm ∧ U.heap = h0) (fun _ _ _ _ _ => True) (fun _ U o U' => ∃ v L, o = .returned v ∧ own_Q_rmA14 Z ob0 ob0_value k_ob0_value cs wf h0 n0 v U'.heap L ∧ FrameEnd U o U' L ({ frames := 3, cells := 0, slots := 0, locals := 40 } : Room).cells ({ frames := 3, cells := 0, slots := 0, locals := 40 } : Room).slots) := by
  refine MetFree.of_bodySF (plainFor_of_name own_pn3) hisR ?_
  intro p e s m args below meth c s₁ Bd hml0 hP hK
  obtain ⟨rfl, hZ, hh⟩ := hP
  have hx := Bd.exec
  have hby := Bd.bytes
  have hml : c.maxLocals = 2 := hml0
  have hown : s.vm.findClass "java/lang/String" = some m.cls := findClass_of_methodNamed Bd.named
  have hnm := (name_of_methodNamed Bd.named Bd.method).1
  have X0 : Stand p l e ({ frames := 3, cells := 0, slots := 0, locals := 40 } : Room) s m #[(.ref ob0), (.int (0 : Int32))] below meth c s₁ [] 0 0 := Stand.of_body Bd
  have e0 : s₁.heap = h0 := by rw [← hh, Bd.state]; rfl
  have N0 := Fr.nil n0
  have Z0 : n0 ≤ h0.size := O0.1 ▸ O0.2.1
  have g0 : ∀ t, Steps p.tables e below (s₁.setTop (mkF m 0 #[.val (.ref ob0), .val (.int (0 : Int32))] [])) t → Steps p.tables e below (s₁.setTop (entryFrame m #[(.ref ob0), (.int (0 : Int32))] 2)) t := fun t k => castTop (own_ef16 m (ob0) ((0 : Int32))) k
  have G0 := G
  obtain ⟨S_CS, hcs, S_WF, hwf⟩ := G
  obtain ⟨cq1, kq1, q1a, q1b, q1c⟩ := isOf hZ e0 E_ob0
  obtain ⟨_, _, ⟨T1, L1, k1, n1⟩, -, X1, ⟨Lc1, hQ1, l1, y1, z1⟩, st1⟩ := X0.virtualBack hx (y := own_y8) (z := own_y8) hown (mvT hZ (own_w hw 56 rfl)) (mvT hZ (own_w hw 57 rfl)) (notFace_of_selects (args := #[]) (mvT hZ (own_w hw 59 rfl))) (mvT hZ (own_w hw 59 rfl)) (mvT hZ (own_w hw 58 rfl)) (by decide) (backOf (W := 0) (rmA8 l Z a0 hw [] ob0 ob0_value k_ob0_value  cs wf h0 n0 O0 G0 E_ob0 F_ob0_coder V_ob0_value F_ob0_value  ) hZ (own_w hw 60 rfl) (own_w hw 7 rfl) (by decide) (by decide)) q1a q1c (g := (mkF m 1 #[.val (.ref ob0), .val (.int (0 : Int32))] [(.ref ob0)])) rfl (by rw [hml]; rfl) (Steps.refl _) (argsL := []) (rest := []) (lenOf own_pd1 rfl) rfl (by show 2 * 0 + _ ≤ _; exact Nat.le_of_eq rfl) (hb hby own_d16_1) (fun _ _ => ⟨rfl, e0, (by decide : 0 + 0 ≤ _), (by decide : 0 + 0 ≤ _)⟩)
  dsimp only [Pt.U, Pt.locs, Pt.cells, Pt.slots] at X1 l1 y1 z1 st1 hQ1
  subst l1 y1 z1
  obtain ⟨rfl, Nq1, e1⟩ := hQ1
  have N1 := Fr.app N0 Nq1
  obtain ⟨T2, X2, e2, st2⟩ := getF X1 hx hZ hown (host := "") (Or.inl (own_w hw 33 rfl)) Via.refl e1 F_ob0_value (g := (mkF m 8 #[.val (.ref ob0), .val (.int (0 : Int32))] [(.ref ob0)])) rfl rfl (hb hby own_d16_8)
  obtain ⟨_, _, ⟨T3, L3, k3, n3⟩, -, X3, ⟨Lc3, hQ3, l3, y3, z3⟩, st3⟩ := Jvm.LawKit.callS X2 hx (y := own_y15) hown (mvT hZ (own_w hw 84 rfl)) (mvT hZ (own_w hw 85 rfl)) (mvT hZ (own_w hw 64 rfl)) (mvT hZ (own_w hw 86 rfl)) (by decide) (backOf (W := 0) (rmA15 l Z a0 hw [] ob0_value k_ob0_value  cs wf h0 n0 O0 G0 V_ob0_value  ) hZ (own_w hw 86 rfl) (own_w hw 64 rfl) (by decide) (by decide)) (g := (mkF m 12 #[.val (.ref ob0), .val (.int (0 : Int32))] [(.int (0 : Int32)), (.ref ob0_value)])) rfl (by rw [hml]; rfl) (argsL := [(.ref ob0_value), (.int (0 : Int32))]) (rest := []) (lenOf own_pd10 rfl) rfl (by show 2 * 0 + _ ≤ _; exact Nat.le_of_eq rfl) (hb hby own_d16_12) (fun _ _ => ⟨rfl, e2, (by decide : 0 + 0 ≤ _), (by decide : 0 + 0 ≤ _)⟩)
  dsimp only [Pt.U, Pt.locs, Pt.cells, Pt.slots] at X3 l3 y3 z3 st3 hQ3
  subst l3 y3 z3
  obtain ⟨rfl, Nq3, e3⟩ := hQ3
  have N3 := Fr.app N1 Nq3
  have g4 : ∀ t, Steps p.tables e below (T3.setTop (mkF m 15 #[.val (.ref ob0), .val (.int (0 : Int32))] [(.int (115 : Int32))])) t → Steps p.tables e below (s₁.setTop (entryFrame m #[(.ref ob0), (.int (0 : Int32))] 2)) t := by
    intro t k
    refine g0 t ?_
    show Steps p.tables e below (s₁.setTop (mkF m 0 #[.val (.ref ob0), .val (.int (0 : Int32))] [])) _
    refine XS.aloadN X0.here hx rfl (hb hby own_d16_0) rfl rfl ?_
    refine st1.trans ?_
    refine XS.ifNo X1.here hx rfl (hb hby own_d16_4) rfl ((if0 _ _).trans (feq (by decide : ¬ ((1 : Int32) = (0 : Int32)))).1) ?_
    show Steps p.tables e below (T1.setTop (mkF m 7 #[.val (.ref ob0), .val (.int (0 : Int32))] [])) _
    refine XS.aloadN X1.here hx rfl (hb hby own_d16_7) rfl rfl ?_
    refine st2 _ ?_
    refine XS.iloadN X2.here hx rfl (hb hby own_d16_11) rfl ?_
    show Steps p.tables e below (T2.setTop (mkF m 12 #[.val (.ref ob0), .val (.int (0 : Int32))] [(.int (0 : Int32)), (.ref ob0_value)])) _
    refine st3 _ ?_
    exact k
  obtain ⟨fs, hrt, hrun, hended, hW, hsame⟩ := X3.leave (v := some (.int (115 : Int32))) (fun h => by rw [Bd.returns] at h; cases h)
  refine ⟨_, _, g4 _ ?_, hrun, hended, _, _, rfl, ?_, ⟨_, rfl⟩, hW, hsame.mono (by decide) (by decide)⟩
  · show Steps p.tables e below (T3.setTop (mkF m 15 #[.val (.ref ob0), .val (.int (0 : Int32))] [(.int (115 : Int32))])) _
    exact retN X3 hx (t := .char) Bd.returns (by simp) (hb hby own_d16_15) hrt
  · show own_Q_rmA14 Z ob0 ob0_value k_ob0_value cs wf h0 n0 _ T3.heap _
    rw [e3]
    exact ⟨rfl, N3, rfl⟩
theorem own_pd11 : parseMethodDescriptor "(I)C" = some ⟨[.int], some .char⟩ := by decide +kernel
theorem own_d4_67 : decode prog_30_method_9_code 67 = .ok (.istore_n 3, 1) := by decide +kernel
theorem own_d4_68 : decode prog_30_method_9_code 68 = .ok (.iload_n 1, 1) := by decide +kernel
theorem own_d4_69 : decode prog_30_method_9_code 69 = .ok (.ifCond .eq 30, 3) := by decide +kernel
theorem own_d4_99 : decode prog_30_method_9_code 99 = .ok (.iload_n 3, 1) := by decide +kernel
theorem own_d4_100 : decode prog_30_method_9_code 100 = .ok (.invokestatic 116, 3) := by decide +kernel
abbrev own_y18 : MethodName := ⟨"com/example/assemble_quorum/assemblequorum/model/MemberAddress", "isNameCharacter", "(C)Z"⟩
theorem own_ef21 (m : MethodId) (x0 : Int32) : entryFrame m #[(.int x0)] 1 = mkF m 0 #[.val (.int x0)] [] := by first | (simp [entryFrame, mkF, argsToLocals, Value.category]; done) | rfl
theorem own_d20_0 : decode prog_30_method_12_code 0 = .ok (.iload_n 0, 1) := by decide +kernel
theorem own_d20_1 : decode prog_30_method_12_code 1 = .ok (.bipush 97, 2) := by decide +kernel
theorem own_d20_3 : decode prog_30_method_12_code 3 = .ok (.if_icmp .lt 9, 3) := by decide +kernel
theorem own_d20_6 : decode prog_30_method_12_code 6 = .ok (.iload_n 0, 1) := by decide +kernel
theorem own_d20_7 : decode prog_30_method_12_code 7 = .ok (.bipush 122, 2) := by decide +kernel
theorem own_d20_9 : decode prog_30_method_12_code 9 = .ok (.if_icmp .le 45, 3) := by decide +kernel
theorem own_d20_54 : decode prog_30_method_12_code 54 = .ok (.iconst 1, 1) := by decide +kernel
theorem own_d20_55 : decode prog_30_method_12_code 55 = .ok (.goto 4, 3) := by decide +kernel
theorem own_d20_59 : decode prog_30_method_12_code 59 = .ok (.ireturn, 1) := by decide +kernel
def own_Q_rmA19 (Z : State)   (cs : Int32) (wf : Value) (h0 : Heap) (n0 : Nat) (v : Option Value) (h : Heap) (L : List Loc) : Prop := v = some (.int (1 : Int32)) ∧ Fr n0 L ∧ h = h0
set_option maxRecDepth 65536 in
set_option maxHeartbeats 40000000 in
theorem rmA19 (l : Launch) (Z : State) (a0 : Array Value) (hw : ∀ d ∈ tables_1, d.before a0 Z = true) (ws : List Jvm.Cond)   (cs : Int32) (wf : Value) (h0 : Heap) (n0 : Nat) (O0 : Old Z n0 h0) (G : own_Gl Z cs wf) :
    MetFree l own_y18 (head1 (Jvm.Cond.code own_y18 prog_30_method_12_code 1 (some .boolean) :: ws) ({ frames := 0, cells := 0, slots := 0, locals := 0 } : Room)) (fun a U => a = #[(.int (115 : Int32))] ∧ Z.Warmed39 U.vm ∧ U.heap = h0) (fun _ _ _ _ _ => True) (fun _ U o U' => ∃ v L, o = .returned v ∧ own_Q_rmA19 Z cs wf h0 n0 v U'.heap L ∧ FrameEnd U o U' L ({ frames := 0, cells := 0, slots := 0, locals := 0 } : Room).cells ({ frames := 0, cells := 0, slots := 0, locals := 0 } : Room).slots) := by
  refine MetFree.of_bodySF (plainFor_of_name own_pn1) hisR ?_
  intro p e s m args below meth c s₁ Bd hml0 hP hK
  obtain ⟨rfl, hZ, hh⟩ := hP
  have hx := Bd.exec
  have hby := Bd.bytes
  have hml : c.maxLocals = 1 := hml0
  have hown : s.vm.findClass "com/example/assemble_quorum/assemblequorum/model/MemberAddress" = some m.cls := findClass_of_methodNamed Bd.named
  have hnm := (name_of_methodNamed Bd.named Bd.method).1
  have X0 : Stand p l e ({ frames := 0, cells := 0, slots := 0, locals := 0 } : Room) s m #[(.int (115 : Int32))] below meth c s₁ [] 0 0 := Stand.of_body Bd
  have e0 : s₁.heap = h0 := by rw [← hh, Bd.state]; rfl
  have N0 := Fr.nil n0
  have Z0 : n0 ≤ h0.size := O0.1 ▸ O0.2.1
  have g0 : ∀ t, Steps p.tables e below (s₁.setTop (mkF m 0 #[.val (.int (115 : Int32))] [])) t → Steps p.tables e below (s₁.setTop (entryFrame m #[(.int (115 : Int32))] 1)) t := fun t k => castTop (own_ef21 m ((115 : Int32))) k
  have G0 := G
  obtain ⟨S_CS, hcs, S_WF, hwf⟩ := G
  have g1 : ∀ t, Steps p.tables e below (s₁.setTop (mkF m 59 #[.val (.int (115 : Int32))] [(.int (1 : Int32))])) t → Steps p.tables e below (s₁.setTop (entryFrame m #[(.int (115 : Int32))] 1)) t := by
    intro t k
    refine g0 t ?_
    show Steps p.tables e below (s₁.setTop (mkF m 0 #[.val (.int (115 : Int32))] [])) _
    refine XS.iloadN X0.here hx rfl (hb hby own_d20_0) rfl ?_
    refine XS.bipush X0.here hx rfl (hb hby own_d20_1) ?_
    refine XS.icmpNo X0.here hx rfl (hb hby own_d20_3) rfl (flt (by decide : ¬ ((115 : Int32) < (97 : Int32)))).1 ?_
    show Steps p.tables e below (s₁.setTop (mkF m 6 #[.val (.int (115 : Int32))] [])) _
    refine XS.iloadN X0.here hx rfl (hb hby own_d20_6) rfl ?_
    refine XS.bipush X0.here hx rfl (hb hby own_d20_7) ?_
    refine XS.icmpYes X0.here hx rfl (pc0 := 9) (pc' := 54) rfl (hb hby own_d20_9) rfl (flt (by decide : ¬ ((122 : Int32) < (115 : Int32)))).2.2.2 (by decide) (by decide) ?_
    show Steps p.tables e below (s₁.setTop (mkF m 54 #[.val (.int (115 : Int32))] [])) _
    refine XS.iconst X0.here hx rfl (hb hby own_d20_54) ?_
    refine XS.goto X0.here hx rfl (pc0 := 55) (pc' := 59) rfl (hb hby own_d20_55) (by decide) (by decide) ?_
    exact k
  obtain ⟨fs, hrt, hrun, hended, hW, hsame⟩ := X0.leave (v := some (.int (1 : Int32))) (fun h => by rw [Bd.returns] at h; cases h)
  refine ⟨_, _, g1 _ ?_, hrun, hended, _, _, rfl, ?_, ⟨_, rfl⟩, hW, hsame.mono (by decide) (by decide)⟩
  · show Steps p.tables e below (s₁.setTop (mkF m 59 #[.val (.int (115 : Int32))] [(.int (1 : Int32))])) _
    exact retN X0 hx (t := .boolean) Bd.returns (by simp) (hb hby own_d20_59) hrt
  · show own_Q_rmA19 Z cs wf h0 n0 _ s₁.heap _
    rw [e0]
    exact ⟨rfl, N0, rfl⟩
theorem own_pd12 : parseMethodDescriptor "(C)Z" = some ⟨[.char], some .boolean⟩ := by decide +kernel
theorem own_d4_103 : decode prog_30_method_9_code 103 = .ok (.istore 4, 2) := by decide +kernel
theorem own_d4_105 : decode prog_30_method_9_code 105 = .ok (.iload 4, 2) := by decide +kernel
theorem own_d4_107 : decode prog_30_method_9_code 107 = .ok (.ifCond .ne 22, 3) := by decide +kernel
theorem own_d4_129 : decode prog_30_method_9_code 129 = .ok (.iinc 2 1, 3) := by decide +kernel
theorem own_d4_132 : decode prog_30_method_9_code 132 = .ok (.goto (-78), 3) := by decide +kernel
theorem own_d4_135 : decode prog_30_method_9_code 135 = .ok (.return_, 1) := by decide +kernel
def own_Q_rmA2 (Z : State) (ob0 : Addr) (ob0_value : Addr) (k_ob0_value : ClassId)  (cs : Int32) (wf : Value) (h0 : Heap) (n0 : Nat) (v : Option Value) (h : Heap) (L : List Loc) : Prop := v = none ∧ Fr n0 L ∧ h = h0
set_option maxRecDepth 65536 in
set_option maxHeartbeats 40000000 in
theorem rmA2 (l : Launch) (Z : State) (a0 : Array Value) (hw : ∀ d ∈ tables_1, d.before a0 Z = true) (ws : List Jvm.Cond) (ob0 : Addr) (ob0_value : Addr) (k_ob0_value : ClassId)  (cs : Int32) (wf : Value) (h0 : Heap) (n0 : Nat) (O0 : Old Z n0 h0) (G : own_Gl Z cs wf) (E_ob0 : Exa Z h0 ob0 "java/lang/String") (F_ob0_coder : Fld Z h0 ob0 "java/lang/String" "coder" "B" (.int (0 : Int32))) (V_ob0_value : Arv Z h0 ob0_value k_ob0_value .byte (1 : Int32) [(.int (115 : Int32))] (.int (0 : Int32))) (F_ob0_value : Fld Z h0 ob0 "java/lang/String" "value" "[B" (.ref ob0_value)) :
    MetFree l own_y2 (head1 (Jvm.Cond.code own_y2 prog_30_method_9_code 5 none :: ws) ({ frames := 4, cells := 0, slots := 0, locals := 59 } : Room)) (fun a U => a = #[(.ref ob0)] ∧ Z.Warmed39 U.vm ∧ U.heap = h0) (fun _ _ _ _ _ => True) (fun _ U o U' => ∃ v L, o = .returned v ∧ own_Q_rmA2 Z ob0 ob0_value k_ob0_value cs wf h0 n0 v U'.heap L ∧ FrameEnd U o U' L ({ frames := 4, cells := 0, slots := 0, locals := 59 } : Room).cells ({ frames := 4, cells := 0, slots := 0, locals := 59 } : Room).slots) := by
  refine MetFree.of_bodySF (plainFor_of_name own_pn1) hisR ?_
  intro p e s m args below meth c s₁ Bd hml0 hP hK
  obtain ⟨rfl, hZ, hh⟩ := hP
  have hx := Bd.exec
  have hby := Bd.bytes
  have hml : c.maxLocals = 5 := hml0
  have hown : s.vm.findClass "com/example/assemble_quorum/assemblequorum/model/MemberAddress" = some m.cls := findClass_of_methodNamed Bd.named
  have hnm := (name_of_methodNamed Bd.named Bd.method).1
  have X0 : Stand p l e ({ frames := 4, cells := 0, slots := 0, locals := 59 } : Room) s m #[(.ref ob0)] below meth c s₁ [] 0 0 := Stand.of_body Bd
  have e0 : s₁.heap = h0 := by rw [← hh, Bd.state]; rfl
  have N0 := Fr.nil n0
  have Z0 : n0 ≤ h0.size := O0.1 ▸ O0.2.1
  have g0 : ∀ t, Steps p.tables e below (s₁.setTop (mkF m 0 #[.val (.ref ob0), .unset, .unset, .unset, .unset] [])) t → Steps p.tables e below (s₁.setTop (entryFrame m #[(.ref ob0)] 5)) t := fun t k => castTop (own_ef4 m (ob0)) k
  have G0 := G
  obtain ⟨S_CS, hcs, S_WF, hwf⟩ := G
  obtain ⟨cq1, kq1, q1a, q1b, q1c⟩ := isOf hZ e0 E_ob0
  obtain ⟨_, _, ⟨T1, L1, k1, n1⟩, -, X1, ⟨Lc1, hQ1, l1, y1, z1⟩, st1⟩ := X0.virtualBack hx (y := own_y3) (z := own_y3) hown (mvT hZ (own_w hw 28 rfl)) (mvT hZ (own_w hw 29 rfl)) (notFace_of_selects (args := #[]) (mvT hZ (own_w hw 31 rfl))) (mvT hZ (own_w hw 31 rfl)) (mvT hZ (own_w hw 30 rfl)) (by decide) (backOf (W := 0) (rmA3 l Z a0 hw [] ob0 ob0_value k_ob0_value  cs wf h0 n0 O0 G0 E_ob0 F_ob0_coder V_ob0_value F_ob0_value  ) hZ (own_w hw 32 rfl) (own_w hw 7 rfl) (by decide) (by decide)) q1a q1c (g := (mkF m 1 #[.val (.ref ob0), .unset, .unset, .unset, .unset] [(.ref ob0)])) rfl (by rw [hml]; rfl) (Steps.refl _) (argsL := []) (rest := []) (lenOf own_pd1 rfl) rfl (by show 2 * 0 + _ ≤ _; exact Nat.le_of_eq rfl) (hb hby own_d4_1) (fun _ _ => ⟨rfl, e0, (by decide : 0 + 0 ≤ _), (by decide : 0 + 0 ≤ _)⟩)
  dsimp only [Pt.U, Pt.locs, Pt.cells, Pt.slots] at X1 l1 y1 z1 st1 hQ1
  subst l1 y1 z1
  obtain ⟨rfl, Nq1, e1⟩ := hQ1
  have N1 := Fr.app N0 Nq1
  obtain ⟨cq2, kq2, q2a, q2b, q2c⟩ := isOf hZ e1 E_ob0
  obtain ⟨_, _, ⟨T2, L2, k2, n2⟩, -, X2, ⟨Lc2, hQ2, l2, y2, z2⟩, st2⟩ := X1.virtualBack hx (y := own_y4) (z := own_y4) hown (mvT hZ (own_w hw 34 rfl)) (mvT hZ (own_w hw 35 rfl)) (notFace_of_selects (args := #[]) (mvT hZ (own_w hw 37 rfl))) (mvT hZ (own_w hw 37 rfl)) (mvT hZ (own_w hw 36 rfl)) (by decide) (backOf (W := 0) (rmA4 l Z a0 hw [] ob0 ob0_value k_ob0_value  cs wf h0 n0 O0 G0 E_ob0 F_ob0_coder V_ob0_value F_ob0_value  ) hZ (own_w hw 38 rfl) (own_w hw 7 rfl) (by decide) (by decide)) q2a q2c (g := (mkF m 18 #[.val (.ref ob0), .unset, .unset, .unset, .unset] [(.ref ob0)])) rfl (by rw [hml]; rfl) (Steps.refl _) (argsL := []) (rest := []) (lenOf own_pd3 rfl) rfl (by show 2 * 0 + _ ≤ _; exact Nat.le_of_eq rfl) (hb hby own_d4_18) (fun _ _ => ⟨rfl, e1, (by decide : 0 + 0 ≤ _), (by decide : 0 + 0 ≤ _)⟩)
  dsimp only [Pt.U, Pt.locs, Pt.cells, Pt.slots] at X2 l2 y2 z2 st2 hQ2
  subst l2 y2 z2
  obtain ⟨rfl, Nq2, e2⟩ := hQ2
  have N2 := Fr.app N1 Nq2
  obtain ⟨cq3, kq3, q3a, q3b, q3c⟩ := isOf hZ e2 E_ob0
  obtain ⟨_, _, ⟨T3, L3, k3, n3⟩, -, X3, ⟨Lc3, hQ3, l3, y3, z3⟩, st3⟩ := X2.virtualBack hx (y := own_y6) (z := own_y6) hown (mvT hZ (own_w hw 46 rfl)) (mvT hZ (own_w hw 47 rfl)) (notFace_of_selects (args := #[]) (mvT hZ (own_w hw 49 rfl))) (mvT hZ (own_w hw 49 rfl)) (mvT hZ (own_w hw 48 rfl)) (by decide) (backOf (W := 0) (rmA6 l Z a0 hw [] ob0 ob0_value k_ob0_value  cs wf h0 n0 O0 G0 E_ob0 F_ob0_coder V_ob0_value F_ob0_value  ) hZ (own_w hw 50 rfl) (own_w hw 7 rfl) (by decide) (by decide)) q3a q3c (g := (mkF m 40 #[.val (.ref ob0), .unset, .unset, .unset, .unset] [(.int (58 : Int32)), (.ref ob0)])) rfl (by rw [hml]; rfl) (Steps.refl _) (argsL := [(.int (58 : Int32))]) (rest := []) (lenOf own_pd7 rfl) rfl (by show 2 * 0 + _ ≤ _; exact Nat.le_of_eq rfl) (hb hby own_d4_40) (fun _ _ => ⟨rfl, e2, (by decide : 0 + 0 ≤ _), (by decide : 0 + 0 ≤ _)⟩)
  dsimp only [Pt.U, Pt.locs, Pt.cells, Pt.slots] at X3 l3 y3 z3 st3 hQ3
  subst l3 y3 z3
  obtain ⟨rfl, Nq3, e3⟩ := hQ3
  have N3 := Fr.app N2 Nq3
  obtain ⟨LL4, XL4, NL4⟩ : ∃ LL : List Loc, Stand p l e ({ frames := 4, cells := 0, slots := 0, locals := 59 } : Room) s m #[(.ref ob0)] below meth c T3 LL 0 0 ∧ Fr n0 LL := ⟨_, X3, N3⟩
  obtain ⟨cq5, kq5, q5a, q5b, q5c⟩ := isOf hZ e3 E_ob0
  obtain ⟨_, _, ⟨T5, L5, k5, n5⟩, -, X5, ⟨Lc5, hQ5, l5, y5, z5⟩, st5⟩ := XL4.virtualBack hx (y := own_y4) (z := own_y4) hown (mvT hZ (own_w hw 34 rfl)) (mvT hZ (own_w hw 35 rfl)) (notFace_of_selects (args := #[]) (mvT hZ (own_w hw 37 rfl))) (mvT hZ (own_w hw 37 rfl)) (mvT hZ (own_w hw 36 rfl)) (by decide) (backOf (W := 1) (rmA4 l Z a0 hw [] ob0 ob0_value k_ob0_value  cs wf h0 n0 O0 G0 E_ob0 F_ob0_coder V_ob0_value F_ob0_value  ) hZ (own_w hw 38 rfl) (own_w hw 7 rfl) (by decide) (by decide)) q5a q5c (g := (mkF m 56 #[.val (.ref ob0), .val (.int (0 : Int32)), .val (.int (0 : Int32)), .unset, .unset] [(.ref ob0), (.int (0 : Int32))])) rfl (by rw [hml]; rfl) (Steps.refl _) (argsL := []) (rest := [(.int (0 : Int32))]) (lenOf own_pd3 rfl) rfl (by show 2 * 0 + _ ≤ _; exact Nat.le_of_eq rfl) (hb hby own_d4_56) (fun _ _ => ⟨rfl, e3, (by decide : 0 + 0 ≤ _), (by decide : 0 + 0 ≤ _)⟩)
  dsimp only [Pt.U, Pt.locs, Pt.cells, Pt.slots] at X5 l5 y5 z5 st5 hQ5
  subst l5 y5 z5
  obtain ⟨rfl, Nq5, e5⟩ := hQ5
  have N5 := Fr.app NL4 Nq5
  obtain ⟨cq6, kq6, q6a, q6b, q6c⟩ := isOf hZ e5 E_ob0
  obtain ⟨_, _, ⟨T6, L6, k6, n6⟩, -, X6, ⟨Lc6, hQ6, l6, y6, z6⟩, st6⟩ := X5.virtualBack hx (y := own_y14) (z := own_y14) hown (mvT hZ (own_w hw 79 rfl)) (mvT hZ (own_w hw 80 rfl)) (notFace_of_selects (args := #[]) (mvT hZ (own_w hw 82 rfl))) (mvT hZ (own_w hw 82 rfl)) (mvT hZ (own_w hw 81 rfl)) (by decide) (backOf (W := 0) (rmA14 l Z a0 hw [] ob0 ob0_value k_ob0_value  cs wf h0 n0 O0 G0 E_ob0 F_ob0_coder V_ob0_value F_ob0_value  ) hZ (own_w hw 83 rfl) (own_w hw 7 rfl) (by decide) (by decide)) q6a q6c (g := (mkF m 64 #[.val (.ref ob0), .val (.int (0 : Int32)), .val (.int (0 : Int32)), .unset, .unset] [(.int (0 : Int32)), (.ref ob0)])) rfl (by rw [hml]; rfl) (Steps.refl _) (argsL := [(.int (0 : Int32))]) (rest := []) (lenOf own_pd11 rfl) rfl (by show 2 * 0 + _ ≤ _; exact Nat.le_of_eq rfl) (hb hby own_d4_64) (fun _ _ => ⟨rfl, e5, (by decide : 0 + 0 ≤ _), (by decide : 0 + 0 ≤ _)⟩)
  dsimp only [Pt.U, Pt.locs, Pt.cells, Pt.slots] at X6 l6 y6 z6 st6 hQ6
  subst l6 y6 z6
  obtain ⟨rfl, Nq6, e6⟩ := hQ6
  have N6 := Fr.app N5 Nq6
  obtain ⟨_, _, ⟨T7, L7, k7, n7⟩, -, X7, ⟨Lc7, hQ7, l7, y7, z7⟩, st7⟩ := Jvm.LawKit.callS X6 hx (y := own_y18) hown (mvT hZ (own_w hw 95 rfl)) (mvT hZ (own_w hw 96 rfl)) (mvT hZ (own_w hw 5 rfl)) (mvT hZ (own_w hw 97 rfl)) (by decide) (backOf (W := 0) (rmA19 l Z a0 hw []   cs wf h0 n0 O0 G0   ) hZ (own_w hw 97 rfl) (own_w hw 5 rfl) (by decide) (by decide)) (g := (mkF m 100 #[.val (.ref ob0), .val (.int (0 : Int32)), .val (.int (0 : Int32)), .val (.int (115 : Int32)), .unset] [(.int (115 : Int32))])) rfl (by rw [hml]; rfl) (argsL := [(.int (115 : Int32))]) (rest := []) (lenOf own_pd12 rfl) rfl (by show 2 * 0 + _ ≤ _; exact Nat.le_of_eq rfl) (hb hby own_d4_100) (fun _ _ => ⟨rfl, e6, (by decide : 0 + 0 ≤ _), (by decide : 0 + 0 ≤ _)⟩)
  dsimp only [Pt.U, Pt.locs, Pt.cells, Pt.slots] at X7 l7 y7 z7 st7 hQ7
  subst l7 y7 z7
  obtain ⟨rfl, Nq7, e7⟩ := hQ7
  have N7 := Fr.app N6 Nq7
  obtain ⟨cq8, kq8, q8a, q8b, q8c⟩ := isOf hZ e7 E_ob0
  obtain ⟨_, _, ⟨T8, L8, k8, n8⟩, -, X8, ⟨Lc8, hQ8, l8, y8, z8⟩, st8⟩ := X7.virtualBack hx (y := own_y4) (z := own_y4) hown (mvT hZ (own_w hw 34 rfl)) (mvT hZ (own_w hw 35 rfl)) (notFace_of_selects (args := #[]) (mvT hZ (own_w hw 37 rfl))) (mvT hZ (own_w hw 37 rfl)) (mvT hZ (own_w hw 36 rfl)) (by decide) (backOf (W := 1) (rmA4 l Z a0 hw [] ob0 ob0_value k_ob0_value  cs wf h0 n0 O0 G0 E_ob0 F_ob0_coder V_ob0_value F_ob0_value  ) hZ (own_w hw 38 rfl) (own_w hw 7 rfl) (by decide) (by decide)) q8a q8c (g := (mkF m 56 #[.val (.ref ob0), .val (.int (0 : Int32)), .val (.int (1 : Int32)), .val (.int (115 : Int32)), .val (.int (1 : Int32))] [(.ref ob0), (.int (1 : Int32))])) rfl (by rw [hml]; rfl) (Steps.refl _) (argsL := []) (rest := [(.int (1 : Int32))]) (lenOf own_pd3 rfl) rfl (by show 2 * 0 + _ ≤ _; exact Nat.le_of_eq rfl) (hb hby own_d4_56) (fun _ _ => ⟨rfl, e7, (by decide : 0 + 0 ≤ _), (by decide : 0 + 0 ≤ _)⟩)
  dsimp only [Pt.U, Pt.locs, Pt.cells, Pt.slots] at X8 l8 y8 z8 st8 hQ8
  subst l8 y8 z8
  obtain ⟨rfl, Nq8, e8⟩ := hQ8
  have N8 := Fr.app N7 Nq8
  have g9 : ∀ t, Steps p.tables e below (T8.setTop (mkF m 135 #[.val (.ref ob0), .val (.int (0 : Int32)), .val (.int (1 : Int32)), .val (.int (115 : Int32)), .val (.int (1 : Int32))] [])) t → Steps p.tables e below (s₁.setTop (entryFrame m #[(.ref ob0)] 5)) t := by
    intro t k
    refine g0 t ?_
    show Steps p.tables e below (s₁.setTop (mkF m 0 #[.val (.ref ob0), .unset, .unset, .unset, .unset] [])) _
    refine XS.aloadN X0.here hx rfl (hb hby own_d4_0) rfl rfl ?_
    refine st1.trans ?_
    refine XS.ifYes X1.here hx rfl (pc0 := 4) (pc' := 17) rfl (hb hby own_d4_4) rfl ((if0 _ _).trans (teq (by decide : (0 : Int32) = (0 : Int32))).1) (by decide) (by decide) ?_
    show Steps p.tables e below (T1.setTop (mkF m 17 #[.val (.ref ob0), .unset, .unset, .unset, .unset] [])) _
    refine XS.aloadN X1.here hx rfl (hb hby own_d4_17) rfl rfl ?_
    refine st2.trans ?_
    refine XS.sipush X2.here hx rfl (hb hby own_d4_21) ?_
    show Steps p.tables e below (T2.setTop (mkF m 24 #[.val (.ref ob0), .unset, .unset, .unset, .unset] [(.int (253 : Int32)), (.int (1 : Int32))])) _
    refine XS.icmpYes X2.here hx rfl (pc0 := 24) (pc' := 37) rfl (hb hby own_d4_24) rfl (flt (by decide : ¬ ((253 : Int32) < (1 : Int32)))).2.2.2 (by decide) (by decide) ?_
    refine XS.aloadN X2.here hx rfl (hb hby own_d4_37) rfl rfl ?_
    refine XS.bipush X2.here hx rfl (hb hby own_d4_38) ?_
    show Steps p.tables e below (T2.setTop (mkF m 40 #[.val (.ref ob0), .unset, .unset, .unset, .unset] [(.int (58 : Int32)), (.ref ob0)])) _
    refine st3.trans ?_
    refine XS.ifYes X3.here hx rfl (pc0 := 43) (pc' := 50) rfl (hb hby own_d4_43) rfl ((if0 _ _).trans (tlt (by decide : (-1 : Int32) < (0 : Int32))).1) (by decide) (by decide) ?_
    refine XS.iconst X3.here hx rfl (hb hby own_d4_50) ?_
    show Steps p.tables e below (T3.setTop (mkF m 51 #[.val (.ref ob0), .unset, .unset, .unset, .unset] [(.int (0 : Int32))])) _
    refine XS.istoreN X3.here hx rfl (hb hby own_d4_51) rfl (l' := #[.val (.ref ob0), .val (.int (0 : Int32)), .unset, .unset, .unset]) rfl ?_
    refine XS.iconst X3.here hx rfl (hb hby own_d4_52) ?_
    refine XS.istoreN X3.here hx rfl (hb hby own_d4_53) rfl (l' := #[.val (.ref ob0), .val (.int (0 : Int32)), .val (.int (0 : Int32)), .unset, .unset]) rfl ?_
    show Steps p.tables e below (T3.setTop (mkF m 54 #[.val (.ref ob0), .val (.int (0 : Int32)), .val (.int (0 : Int32)), .unset, .unset] [])) _
    refine XS.iloadN X3.here hx rfl (hb hby own_d4_54) rfl ?_
    refine XS.aloadN X3.here hx rfl (hb hby own_d4_55) rfl rfl ?_
    refine st5.trans ?_
    show Steps p.tables e below (T5.setTop (mkF m 59 #[.val (.ref ob0), .val (.int (0 : Int32)), .val (.int (0 : Int32)), .unset, .unset] [(.int (1 : Int32)), (.int (0 : Int32))])) _
    refine XS.icmpNo X5.here hx rfl (hb hby own_d4_59) rfl (tlt (by decide : (0 : Int32) < (1 : Int32))).2.1 ?_
    refine XS.aloadN X5.here hx rfl (hb hby own_d4_62) rfl rfl ?_
    refine XS.iloadN X5.here hx rfl (hb hby own_d4_63) rfl ?_
    show Steps p.tables e below (T5.setTop (mkF m 64 #[.val (.ref ob0), .val (.int (0 : Int32)), .val (.int (0 : Int32)), .unset, .unset] [(.int (0 : Int32)), (.ref ob0)])) _
    refine st6.trans ?_
    refine XS.istoreN X6.here hx rfl (hb hby own_d4_67) rfl (l' := #[.val (.ref ob0), .val (.int (0 : Int32)), .val (.int (0 : Int32)), .val (.int (115 : Int32)), .unset]) rfl ?_
    refine XS.iloadN X6.here hx rfl (hb hby own_d4_68) rfl ?_
    show Steps p.tables e below (T6.setTop (mkF m 69 #[.val (.ref ob0), .val (.int (0 : Int32)), .val (.int (0 : Int32)), .val (.int (115 : Int32)), .unset] [(.int (0 : Int32))])) _
    refine XS.ifYes X6.here hx rfl (pc0 := 69) (pc' := 99) rfl (hb hby own_d4_69) rfl ((if0 _ _).trans (teq (by decide : (0 : Int32) = (0 : Int32))).1) (by decide) (by decide) ?_
    refine XS.iloadN X6.here hx rfl (hb hby own_d4_99) rfl ?_
    refine st7 _ ?_
    show Steps p.tables e below (T7.setTop (mkF m 103 #[.val (.ref ob0), .val (.int (0 : Int32)), .val (.int (0 : Int32)), .val (.int (115 : Int32)), .unset] [(.int (1 : Int32))])) _
    refine XS.istore X7.here hx rfl (hb hby own_d4_103) rfl (l' := #[.val (.ref ob0), .val (.int (0 : Int32)), .val (.int (0 : Int32)), .val (.int (115 : Int32)), .val (.int (1 : Int32))]) rfl ?_
    refine XS.iload X7.here hx rfl (hb hby own_d4_105) rfl ?_
    refine XS.ifYes X7.here hx rfl (pc0 := 107) (pc' := 129) rfl (hb hby own_d4_107) rfl ((if0 _ _).trans (feq (by decide : ¬ ((1 : Int32) = (0 : Int32)))).2) (by decide) (by decide) ?_
    show Steps p.tables e below (T7.setTop (mkF m 129 #[.val (.ref ob0), .val (.int (0 : Int32)), .val (.int (0 : Int32)), .val (.int (115 : Int32)), .val (.int (1 : Int32))] [])) _
    refine XS.iinc X7.here hx rfl (hb hby own_d4_129) rfl (l' := #[.val (.ref ob0), .val (.int (0 : Int32)), .val (.int ((0 : Int32) + (1 : Int32))), .val (.int (115 : Int32)), .val (.int (1 : Int32))]) rfl ?_
    rw [show ((0 : Int32) + (1 : Int32)) = (1 : Int32) from by decide]
    refine XS.goto X7.here hx rfl (pc0 := 132) (pc' := 54) rfl (hb hby own_d4_132) (by decide) (by decide) ?_
    refine XS.iloadN X7.here hx rfl (hb hby own_d4_54) rfl ?_
    show Steps p.tables e below (T7.setTop (mkF m 55 #[.val (.ref ob0), .val (.int (0 : Int32)), .val (.int (1 : Int32)), .val (.int (115 : Int32)), .val (.int (1 : Int32))] [(.int (1 : Int32))])) _
    refine XS.aloadN X7.here hx rfl (hb hby own_d4_55) rfl rfl ?_
    refine st8.trans ?_
    refine XS.icmpYes X8.here hx rfl (pc0 := 59) (pc' := 135) rfl (hb hby own_d4_59) rfl (flt (by decide : ¬ ((1 : Int32) < (1 : Int32)))).2.1 (by decide) (by decide) ?_
    exact k
  obtain ⟨fs, hrt, hrun, hended, hW, hsame⟩ := X8.leave (v := none) (fun _ => rfl)
  refine ⟨_, _, g9 _ ?_, hrun, hended, _, _, rfl, ?_, ⟨_, rfl⟩, hW, hsame.mono (by decide) (by decide)⟩
  · show Steps p.tables e below (T8.setTop (mkF m 135 #[.val (.ref ob0), .val (.int (0 : Int32)), .val (.int (1 : Int32)), .val (.int (115 : Int32)), .val (.int (1 : Int32))] [])) _
    exact X8.returnOut hx Bd.returns (hb hby own_d4_135) hrt
  · show own_Q_rmA2 Z ob0 ob0_value k_ob0_value cs wf h0 n0 _ T8.heap _
    rw [e8]
    exact ⟨rfl, N8, rfl⟩
theorem own_pd13 : parseMethodDescriptor "(Ljava/lang/String;)V" = some ⟨[(.object "java/lang/String")], none⟩ := by decide +kernel
theorem own_d1_15 : decode prog_30_method_1_code 15 = .ok (.iload_n 2, 1) := by decide +kernel
theorem own_d1_16 : decode prog_30_method_1_code 16 = .ok (.iconst 1, 1) := by decide +kernel
theorem own_d1_17 : decode prog_30_method_1_code 17 = .ok (.if_icmp .lt 9, 3) := by decide +kernel
theorem own_d1_20 : decode prog_30_method_1_code 20 = .ok (.iload_n 2, 1) := by decide +kernel
theorem own_d1_21 : decode prog_30_method_1_code 21 = .ok (.ldc 21, 2) := by decide +kernel
theorem own_d1_23 : decode prog_30_method_1_code 23 = .ok (.if_icmp .le 13, 3) := by decide +kernel
theorem own_d1_36 : decode prog_30_method_1_code 36 = .ok (.aload_n 0, 1) := by decide +kernel
theorem own_d1_37 : decode prog_30_method_1_code 37 = .ok (.aload_n 1, 1) := by decide +kernel
theorem own_d1_38 : decode prog_30_method_1_code 38 = .ok (.putfield 28, 3) := by decide +kernel
theorem own_d1_41 : decode prog_30_method_1_code 41 = .ok (.aload_n 0, 1) := by decide +kernel
theorem own_d1_42 : decode prog_30_method_1_code 42 = .ok (.iload_n 2, 1) := by decide +kernel
theorem own_d1_43 : decode prog_30_method_1_code 43 = .ok (.putfield 31, 3) := by decide +kernel
theorem own_la0 {Z : State} {a0 : Array Value} (hw : ∀ d ∈ tables_1, d.before a0 Z = true) : Laid Z a0 "com/example/assemble_quorum/assemblequorum/model/MemberAddress" "com/example/assemble_quorum/assemblequorum/model/MemberAddress" "port" "I" := Or.inr (own_w hw 102 rfl)
theorem own_la1 {Z : State} {a0 : Array Value} (hw : ∀ d ∈ tables_1, d.before a0 Z = true) : Laid Z a0 "com/example/assemble_quorum/assemblequorum/model/MemberAddress" "com/example/assemble_quorum/assemblequorum/model/MemberAddress" "host" "Ljava/lang/String;" := Or.inr (own_w hw 100 rfl)
theorem own_ty0 : parseFieldDescriptor "I" = some .int := by decide
theorem own_ty1 : parseFieldDescriptor "Ljava/lang/String;" = some (.object "java/lang/String") := by decide
theorem own_d1_46 : decode prog_30_method_1_code 46 = .ok (.return_, 1) := by decide +kernel
def own_Q_rmA0 (Z : State) (ob0 : Addr) (ob1 : Addr) (ob1_value : Addr) (k_ob1_value : ClassId) (p2 : Int32)  (cs : Int32) (wf : Value) (h0 : Heap) (n0 : Nat) (v : Option Value) (h : Heap) (L : List Loc) : Prop := v = none ∧ Fr n0 L ∧ Keep h0 h [ob0] ∧ Exa Z h ob0 "com/example/assemble_quorum/assemblequorum/model/MemberAddress" ∧ Fld Z h ob0 "com/example/assemble_quorum/assemblequorum/model/MemberAddress" "host" "Ljava/lang/String;" (.ref ob1) ∧ Fld Z h ob0 "com/example/assemble_quorum/assemblequorum/model/MemberAddress" "port" "I" (.int p2)
set_option maxRecDepth 65536 in
set_option maxHeartbeats 40000000 in
theorem rmA0 (l : Launch) (Z : State) (a0 : Array Value) (hw : ∀ d ∈ tables_1, d.before a0 Z = true) (ws : List Jvm.Cond) (ob0 : Addr) (ob1 : Addr) (ob1_value : Addr) (k_ob1_value : ClassId) (p2 : Int32)  (cs : Int32) (wf : Value) (h0 : Heap) (n0 : Nat) (O0 : Old Z n0 h0) (G : own_Gl Z cs wf) (E_ob0 : Exa Z h0 ob0 "com/example/assemble_quorum/assemblequorum/model/MemberAddress") (F_ob0_host : Fld Z h0 ob0 "com/example/assemble_quorum/assemblequorum/model/MemberAddress" "host" "Ljava/lang/String;" .null) (F_ob0_port : Fld Z h0 ob0 "com/example/assemble_quorum/assemblequorum/model/MemberAddress" "port" "I" (.int (0 : Int32))) (E_ob1 : Exa Z h0 ob1 "java/lang/String") (F_ob1_coder : Fld Z h0 ob1 "java/lang/String" "coder" "B" (.int (0 : Int32))) (V_ob1_value : Arv Z h0 ob1_value k_ob1_value .byte (1 : Int32) [(.int (115 : Int32))] (.int (0 : Int32))) (F_ob1_value : Fld Z h0 ob1 "java/lang/String" "value" "[B" (.ref ob1_value)) (gz_ob0 : n0 ≤ ob0) (hp1 : ¬ p2 < (1 : Int32)) (hp2 : ¬ (65535 : Int32) < p2) :
    MetFree l own_y0 (head1 (Jvm.Cond.code own_y0 prog_30_method_1_code 3 none :: ws) ({ frames := 5, cells := 2, slots := 20, locals := 75 } : Room)) (fun a U => a = #[(.ref ob0), (.ref ob1), (.int p2)] ∧ Z.Warmed39 U.vm ∧ U.heap = h0 ∧ CHv Z own_EL U.vm h0) (fun _ _ _ _ _ => True) (fun _ U o U' => ∃ v L, o = .returned v ∧ own_Q_rmA0 Z ob0 ob1 ob1_value k_ob1_value p2 cs wf h0 n0 v U'.heap L ∧ CHr Z own_EL U.vm U.heap U'.vm U'.heap ∧ ReturnedEndW U o U' L ({ frames := 5, cells := 2, slots := 20, locals := 75 } : Room).cells ({ frames := 5, cells := 2, slots := 20, locals := 75 } : Room).slots) := by
  refine MetFree.of_bodySF (plainFor_of_name own_pn1) hisR ?_
  intro p e s m args below meth c s₁ Bd hml0 hP hK
  obtain ⟨rfl, hZ, hh, hCH⟩ := hP
  have hx := Bd.exec
  have hby := Bd.bytes
  have hml : c.maxLocals = 3 := hml0
  have hown : s.vm.findClass "com/example/assemble_quorum/assemblequorum/model/MemberAddress" = some m.cls := findClass_of_methodNamed Bd.named
  have hnm := (name_of_methodNamed Bd.named Bd.method).1
  have X0 : Stand p l e ({ frames := 5, cells := 2, slots := 20, locals := 75 } : Room) (s.setVm s.vm) m #[(.ref ob0), (.ref ob1), (.int p2)] below meth c s₁ [] 0 0 := Stand.of_body Bd
  have e0 : s₁.heap = h0 := by rw [← hh, Bd.state]; rfl
  have N0 := Fr.nil n0
  have Z0 : n0 ≤ h0.size := O0.1 ▸ O0.2.1
  have g0 : ∀ t, Steps p.tables e below (s₁.setTop (mkF m 0 #[.val (.ref ob0), .val (.ref ob1), .val (.int p2)] [])) t → Steps p.tables e below (s₁.setTop (entryFrame m #[(.ref ob0), (.ref ob1), (.int p2)] 3)) t := fun t k => castTop (own_ef2 m (ob0) (ob1) (p2)) k
  have hC := CHr.refl hCH
  have hS : s.Since s.vm h0.size := (State.WarmedH.refl s).since _
  have hk := Nat.le_refl h0.size
  have G0 := G
  obtain ⟨S_CS, hcs, S_WF, hwf⟩ := G
  obtain ⟨T1, X1, e1, st1⟩ := initO X0 hx hZ hown (own_w hw 17 rfl) (own_w hw 18 rfl) (own_w hw 19 rfl) e0 (g := (mkF m 1 #[.val (.ref ob0), .val (.ref ob1), .val (.int p2)] [(.ref ob0)])) rfl (by rw [hml]; rfl) rfl (hb hby own_d1_1) (by decide) (W := 0) (by show 2 * 0 + _ ≤ _; exact Nat.le_of_eq rfl) (by decide)
  obtain ⟨a2, T2, h2, k2, X2, e2, E2, hS, hk, hZ, hown, C2, -, st2⟩ := ldcOH (s := s) (vm0 := s.vm) X1 hx hZ hown (own_w hw 20 rfl) (own_wS hw) e1 hS hk (own_EW hw) hC.1 (g := (mkF m 5 #[.val (.ref ob0), .val (.ref ob1), .val (.int p2)] [(.ref ob1)])) rfl (hb hby own_d1_5) (n := 16) (by decide) (by decide) (by decide) (by decide)
  have hC := hC.trans C2
  have o3 : Old Z n0 h2 := (Old.ext O0 E2)
  obtain ⟨_, _, ⟨T4, L4, k4, n4⟩, -, X4, ⟨Lc4, hQ4, l4, y4, z4⟩, st4⟩ := Jvm.LawKit.callS X2 hx (y := own_y1) hown (mvT hZ (own_w hw 21 rfl)) (mvT hZ (own_w hw 22 rfl)) (mvT hZ (own_w hw 23 rfl)) (mvT hZ (own_w hw 24 rfl)) (by decide) (backOf (W := 0) (rmA1 l Z a0 hw [] ob1 a2  cs wf h2 n0 o3 G0   ) hZ (own_w hw 24 rfl) (own_w hw 23 rfl) (by decide) (by decide)) (g := (mkF m 7 #[.val (.ref ob0), .val (.ref ob1), .val (.int p2)] [(.ref a2), (.ref ob1)])) rfl (by rw [hml]; rfl) (argsL := [(.ref ob1), (.ref a2)]) (rest := []) (lenOf own_pd0 rfl) rfl (by show 2 * 0 + _ ≤ _; exact Nat.le_of_eq rfl) (hb hby own_d1_7) (fun _ _ => ⟨rfl, e2, (by decide : 2 + 0 ≤ _), (by decide : 20 + 0 ≤ _)⟩)
  dsimp only [Pt.U, Pt.locs, Pt.cells, Pt.slots] at X4 l4 y4 z4 st4 hQ4
  subst l4 y4 z4
  obtain ⟨rfl, Nq4, e4⟩ := hQ4
  have N4 := Fr.app N0 Nq4
  have f5 := (E_ob1.ext E2)
  have f6 := (F_ob1_coder.ext E2)
  have f7 := (V_ob1_value.ext E2)
  have f8 := (F_ob1_value.ext E2)
  obtain ⟨_, _, ⟨T9, L9, k9, n9⟩, -, X9, ⟨Lc9, hQ9, l9, y9, z9⟩, st9⟩ := Jvm.LawKit.callS X4 hx (y := own_y2) hown (mvT hZ (own_w hw 25 rfl)) (mvT hZ (own_w hw 26 rfl)) (mvT hZ (own_w hw 5 rfl)) (mvT hZ (own_w hw 27 rfl)) (by decide) (backOf (W := 0) (rmA2 l Z a0 hw [] ob1 ob1_value k_ob1_value  cs wf h2 n0 o3 G0 f5 f6 f7 f8  ) hZ (own_w hw 27 rfl) (own_w hw 5 rfl) (by decide) (by decide)) (g := (mkF m 12 #[.val (.ref ob0), .val (.ref ob1), .val (.int p2)] [(.ref ob1)])) rfl (by rw [hml]; rfl) (argsL := [(.ref ob1)]) (rest := []) (lenOf own_pd13 rfl) rfl (by show 2 * 0 + _ ≤ _; exact Nat.le_of_eq rfl) (hb hby own_d1_12) (fun _ _ => ⟨rfl, e4, (by decide : 2 + 0 ≤ _), (by decide : 20 + 0 ≤ _)⟩)
  dsimp only [Pt.U, Pt.locs, Pt.cells, Pt.slots] at X9 l9 y9 z9 st9 hQ9
  subst l9 y9 z9
  obtain ⟨rfl, Nq9, e9⟩ := hQ9
  have N9 := Fr.app N4 Nq9
  have hc10 : ¬ (p2 < (1 : Int32)) := hp1
  have hc11 : ¬ ((65535 : Int32) < p2) := hp2
  have f12 := (E_ob0.ext E2)
  have f13 := (F_ob0_host.ext E2)
  obtain ⟨T14, h14, X14, e14, W14, st14⟩ := putF X9 hx hZ hown (host := "") (Or.inl (own_w hw 99 rfl)) Via.refl e9 f13 f12 (Or.inr ⟨(own_w hw 100 rfl), rfl, hnm⟩) (own_w hw 4 rfl) (ty := (.object "java/lang/String")) (by decide) rfl rfl (g := (mkF m 38 #[.val (.ref ob0), .val (.ref ob1), .val (.int p2)] [(.ref ob1), (.ref ob0)])) rfl rfl (hb hby own_d1_38)
  have hC := hC.trans (CHr.wr W14 (Safe.exa hZ.alike f12 (by decide) (by decide)) hC.1)
  have hk := Nat.le_trans hk (Keep.of_wr W14).1
  have Fw14 := f13.same W14
  have N14 := Fr.snoc X14 N9 gz_ob0
  have f15 := (f12.wr W14)
  have f16 := ((F_ob0_port.ext E2).other W14 (Or.inr (slot_ne (own_la0 hw) (own_la1 hw) (by decide) own_ty0 own_ty1)))
  obtain ⟨T17, h17, X17, e17, W17, st17⟩ := putF X14 hx hZ hown (host := "") (Or.inl (own_w hw 101 rfl)) Via.refl e14 f16 f15 (Or.inr ⟨(own_w hw 102 rfl), rfl, hnm⟩) (own_w hw 4 rfl) (ty := .int) (by decide) rfl rfl (g := (mkF m 43 #[.val (.ref ob0), .val (.ref ob1), .val (.int p2)] [(.int p2), (.ref ob0)])) rfl rfl (hb hby own_d1_43)
  have hC := hC.trans (CHr.wr W17 (Safe.exa hZ.alike f15 (by decide) (by decide)) hC.1)
  have hk := Nat.le_trans hk (Keep.of_wr W17).1
  have Fw17 := f16.same W17
  have N17 := Fr.snoc X17 N14 gz_ob0
  have g18 : ∀ t, Steps p.tables e below (T17.setTop (mkF m 46 #[.val (.ref ob0), .val (.ref ob1), .val (.int p2)] [])) t → Steps p.tables e below (s₁.setTop (entryFrame m #[(.ref ob0), (.ref ob1), (.int p2)] 3)) t := by
    intro t k
    refine g0 t ?_
    show Steps p.tables e below (s₁.setTop (mkF m 0 #[.val (.ref ob0), .val (.ref ob1), .val (.int p2)] [])) _
    refine XS.aloadN X0.here hx rfl (hb hby own_d1_0) rfl rfl ?_
    refine st1 _ ?_
    refine XS.aloadN X1.here hx rfl (hb hby own_d1_4) rfl rfl ?_
    show Steps p.tables e below (T1.setTop (mkF m 5 #[.val (.ref ob0), .val (.ref ob1), .val (.int p2)] [(.ref ob1)])) _
    refine st2 _ ?_
    refine st4 _ ?_
    refine XS.pop X4.here hx rfl (hb hby own_d1_10) rfl rfl ?_
    show Steps p.tables e below (T4.setTop (mkF m 11 #[.val (.ref ob0), .val (.ref ob1), .val (.int p2)] [])) _
    refine XS.aloadN X4.here hx rfl (hb hby own_d1_11) rfl rfl ?_
    refine st9 _ ?_
    refine XS.iloadN X9.here hx rfl (hb hby own_d1_15) rfl ?_
    show Steps p.tables e below (T9.setTop (mkF m 16 #[.val (.ref ob0), .val (.ref ob1), .val (.int p2)] [(.int p2)])) _
    refine XS.iconst X9.here hx rfl (hb hby own_d1_16) ?_
    refine XS.icmpNo X9.here hx rfl (hb hby own_d1_17) rfl (flt hc10).1 ?_
    refine XS.iloadN X9.here hx rfl (hb hby own_d1_20) rfl ?_
    show Steps p.tables e below (T9.setTop (mkF m 21 #[.val (.ref ob0), .val (.ref ob1), .val (.int p2)] [(.int p2)])) _
    refine X9.ldcInt hx hown (mvT hZ (own_w hw 98 rfl)) (g := (mkF m 21 #[.val (.ref ob0), .val (.ref ob1), .val (.int p2)] [(.int p2)])) rfl (hb hby own_d1_21) _ ?_
    refine XS.icmpYes X9.here hx rfl (pc0 := 23) (pc' := 36) rfl (hb hby own_d1_23) rfl (flt hc11).2.2.2 (by decide) (by decide) ?_
    refine XS.aloadN X9.here hx rfl (hb hby own_d1_36) rfl rfl ?_
    show Steps p.tables e below (T9.setTop (mkF m 37 #[.val (.ref ob0), .val (.ref ob1), .val (.int p2)] [(.ref ob0)])) _
    refine XS.aloadN X9.here hx rfl (hb hby own_d1_37) rfl rfl ?_
    refine st14 _ ?_
    refine XS.aloadN X14.here hx rfl (hb hby own_d1_41) rfl rfl ?_
    show Steps p.tables e below (T14.setTop (mkF m 42 #[.val (.ref ob0), .val (.ref ob1), .val (.int p2)] [(.ref ob0)])) _
    refine XS.iloadN X14.here hx rfl (hb hby own_d1_42) rfl ?_
    refine st17 _ ?_
    exact k
  obtain ⟨fs, hrt, hrun, hended, hRW⟩ := X17.leaveW hS (by rw [e17]; exact hk) (v := none) (fun _ => rfl)
  have f19 := (f15.wr W17)
  have f20 := (Fw14.other W17 (Or.inr (slot_ne (own_la1 hw) (own_la0 hw) (by decide) own_ty1 own_ty0)))
  refine ⟨_, _, g18 _ ?_, hrun, hended, _, _, rfl, ?_, ?_, hRW.1, hRW.2.1, hRW.2.2.1, hRW.2.2.2.mono (by decide) (by decide)⟩
  · show Steps p.tables e below (T17.setTop (mkF m 46 #[.val (.ref ob0), .val (.ref ob1), .val (.int p2)] [])) _
    exact X17.returnOut hx Bd.returns (hb hby own_d1_46) hrt
  · show own_Q_rmA0 Z ob0 ob1 ob1_value k_ob1_value p2 cs wf h0 n0 _ T17.heap _
    rw [e17]
    exact ⟨rfl, N17, (Keep.wr (Keep.wr (Keep.ext (Keep.refl h0 [ob0]) E2) W14 (Or.inl (List.mem_of_getElem? (i := 0) rfl))) W17 (Or.inl (List.mem_of_getElem? (i := 0) rfl))), f19, f20, Fw17⟩
  · rw [hh]
    show CHr Z own_EL s.vm h0 T17.vm T17.heap
    rw [e17]
    exact hC.trans (CHv.at X17 hZ (own_EW hw) hC.1)
theorem own_pd14 : parseMethodDescriptor "(Ljava/lang/String;I)V" = some ⟨[(.object "java/lang/String"), .int], none⟩ := by decide +kernel
theorem own_ef22 (m : MethodId) (x0 : Addr) (x1 : Addr) (x2 : Int32) : entryFrame m #[(.ref x0), (.ref x1), (.int x2)] 3 = mkF m 0 #[.val (.ref x0), .val (.ref x1), .val (.int x2)] [] := by first | (simp [entryFrame, mkF, argsToLocals, Value.category]; done) | rfl
theorem own_ef23 (m : MethodId) (x0 : Addr) : entryFrame m #[(.ref x0)] 5 = mkF m 0 #[.val (.ref x0), .unset, .unset, .unset, .unset] [] := by first | (simp [entryFrame, mkF, argsToLocals, Value.category]; done) | rfl
theorem own_ef24 (m : MethodId) (x0 : Addr) : entryFrame m #[(.ref x0)] 1 = mkF m 0 #[.val (.ref x0)] [] := by first | (simp [entryFrame, mkF, argsToLocals, Value.category]; done) | rfl
def own_Q_rmA22 (Z : State) (ob0 : Addr) (ob0_value : Addr) (k_ob0_value : ClassId)  (cs : Int32) (wf : Value) (h0 : Heap) (n0 : Nat) (v : Option Value) (h : Heap) (L : List Loc) : Prop := v = some (.int (0 : Int32)) ∧ Fr n0 L ∧ h = h0
set_option maxRecDepth 65536 in
set_option maxHeartbeats 40000000 in
theorem rmA22 (l : Launch) (Z : State) (a0 : Array Value) (hw : ∀ d ∈ tables_1, d.before a0 Z = true) (ws : List Jvm.Cond) (ob0 : Addr) (ob0_value : Addr) (k_ob0_value : ClassId)  (cs : Int32) (wf : Value) (h0 : Heap) (n0 : Nat) (O0 : Old Z n0 h0) (G : own_Gl Z cs wf) (E_ob0 : Exa Z h0 ob0 "java/lang/String") (F_ob0_coder : Fld Z h0 ob0 "java/lang/String" "coder" "B" (.int (0 : Int32))) (V_ob0_value : Arv Z h0 ob0_value k_ob0_value .byte (1 : Int32) [(.int (99 : Int32))] (.int (0 : Int32))) (F_ob0_value : Fld Z h0 ob0 "java/lang/String" "value" "[B" (.ref ob0_value)) :
    MetFree l own_y3 (head1 (Jvm.Cond.code own_y3 jdk_42_method_55_code 1 (some .boolean) :: ws) ({ frames := 0, cells := 0, slots := 0, locals := 0 } : Room)) (fun a U => a = #[(.ref ob0)] ∧ Z.Warmed39 U.vm ∧ U.heap = h0) (fun _ _ _ _ _ => True) (fun _ U o U' => ∃ v L, o = .returned v ∧ own_Q_rmA22 Z ob0 ob0_value k_ob0_value cs wf h0 n0 v U'.heap L ∧ FrameEnd U o U' L ({ frames := 0, cells := 0, slots := 0, locals := 0 } : Room).cells ({ frames := 0, cells := 0, slots := 0, locals := 0 } : Room).slots) := by
  refine MetFree.of_bodySF (plainFor_of_name own_pn3) hisR ?_
  intro p e s m args below meth c s₁ Bd hml0 hP hK
  obtain ⟨rfl, hZ, hh⟩ := hP
  have hx := Bd.exec
  have hby := Bd.bytes
  have hml : c.maxLocals = 1 := hml0
  have hown : s.vm.findClass "java/lang/String" = some m.cls := findClass_of_methodNamed Bd.named
  have hnm := (name_of_methodNamed Bd.named Bd.method).1
  have X0 : Stand p l e ({ frames := 0, cells := 0, slots := 0, locals := 0 } : Room) s m #[(.ref ob0)] below meth c s₁ [] 0 0 := Stand.of_body Bd
  have e0 : s₁.heap = h0 := by rw [← hh, Bd.state]; rfl
  have N0 := Fr.nil n0
  have Z0 : n0 ≤ h0.size := O0.1 ▸ O0.2.1
  have g0 : ∀ t, Steps p.tables e below (s₁.setTop (mkF m 0 #[.val (.ref ob0)] [])) t → Steps p.tables e below (s₁.setTop (entryFrame m #[(.ref ob0)] 1)) t := fun t k => castTop (own_ef24 m (ob0)) k
  have G0 := G
  obtain ⟨S_CS, hcs, S_WF, hwf⟩ := G
  obtain ⟨T1, X1, e1, st1⟩ := getF X0 hx hZ hown (host := "") (Or.inl (own_w hw 33 rfl)) Via.refl e0 F_ob0_value (g := (mkF m 1 #[.val (.ref ob0)] [(.ref ob0)])) rfl rfl (hb hby own_d5_1)
  obtain ⟨c2, Ar2, cq2, S2, Nn2, Hh2, Gg2⟩ := id V_ob0_value
  have g3 : ∀ t, Steps p.tables e below (T1.setTop (mkF m 13 #[.val (.ref ob0)] [(.int (0 : Int32))])) t → Steps p.tables e below (s₁.setTop (entryFrame m #[(.ref ob0)] 1)) t := by
    intro t k
    refine g0 t ?_
    show Steps p.tables e below (s₁.setTop (mkF m 0 #[.val (.ref ob0)] [])) _
    refine XS.aloadN X0.here hx rfl (hb hby own_d5_0) rfl rfl ?_
    refine st1 _ ?_
    show Steps p.tables e below (T1.setTop (mkF m 4 #[.val (.ref ob0)] [(.ref ob0_value)])) _
    refine X1.arraylength hx (by rw [e1]; exact Ar2.1) (State.isArrayOf_alike hZ.alike Ar2.2.1) (g := (mkF m 4 #[.val (.ref ob0)] [(.ref ob0_value)])) rfl rfl (hb hby own_d5_4) _ ?_
    rw [len_of S2 Nn2]
    show Steps p.tables e below (T1.setTop (mkF m 5 #[.val (.ref ob0)] [(.int (1 : Int32))])) _
    refine XS.ifYes X1.here hx rfl (pc0 := 5) (pc' := 12) rfl (hb hby own_d5_5) rfl ((if0 _ _).trans (feq (by decide : ¬ ((1 : Int32) = (0 : Int32)))).2) (by decide) (by decide) ?_
    refine XS.iconst X1.here hx rfl (hb hby own_d5_12) ?_
    exact k
  obtain ⟨fs, hrt, hrun, hended, hW, hsame⟩ := X1.leave (v := some (.int (0 : Int32))) (fun h => by rw [Bd.returns] at h; cases h)
  refine ⟨_, _, g3 _ ?_, hrun, hended, _, _, rfl, ?_, ⟨_, rfl⟩, hW, hsame.mono (by decide) (by decide)⟩
  · show Steps p.tables e below (T1.setTop (mkF m 13 #[.val (.ref ob0)] [(.int (0 : Int32))])) _
    exact retN X1 hx (t := .boolean) Bd.returns (by simp) (hb hby own_d5_13) hrt
  · show own_Q_rmA22 Z ob0 ob0_value k_ob0_value cs wf h0 n0 _ T1.heap _
    rw [e1]
    exact ⟨rfl, N0, rfl⟩
theorem own_ef25 (m : MethodId) (x0 : Addr) : entryFrame m #[(.ref x0)] 1 = mkF m 0 #[.val (.ref x0)] [] := by first | (simp [entryFrame, mkF, argsToLocals, Value.category]; done) | rfl
theorem own_ef26 (m : MethodId) (x0 : Addr) : entryFrame m #[(.ref x0)] 1 = mkF m 0 #[.val (.ref x0)] [] := by first | (simp [entryFrame, mkF, argsToLocals, Value.category]; done) | rfl
def own_Q_rmA24 (Z : State) (ob0 : Addr) (ob0_value : Addr) (k_ob0_value : ClassId)  (cs : Int32) (wf : Value) (h0 : Heap) (n0 : Nat) (v : Option Value) (h : Heap) (L : List Loc) : Prop := v = some (.int (0 : Int32)) ∧ Fr n0 L ∧ h = h0
set_option maxRecDepth 65536 in
set_option maxHeartbeats 40000000 in
theorem rmA24 (l : Launch) (Z : State) (a0 : Array Value) (hw : ∀ d ∈ tables_1, d.before a0 Z = true) (ws : List Jvm.Cond) (ob0 : Addr) (ob0_value : Addr) (k_ob0_value : ClassId)  (cs : Int32) (wf : Value) (h0 : Heap) (n0 : Nat) (O0 : Old Z n0 h0) (G : own_Gl Z cs wf) (E_ob0 : Exa Z h0 ob0 "java/lang/String") (F_ob0_coder : Fld Z h0 ob0 "java/lang/String" "coder" "B" (.int (0 : Int32))) (V_ob0_value : Arv Z h0 ob0_value k_ob0_value .byte (1 : Int32) [(.int (99 : Int32))] (.int (0 : Int32))) (F_ob0_value : Fld Z h0 ob0 "java/lang/String" "value" "[B" (.ref ob0_value)) :
    MetFree l own_y5 (head1 (Jvm.Cond.code own_y5 jdk_42_method_152_code 1 (some .byte) :: ws) ({ frames := 0, cells := 0, slots := 0, locals := 0 } : Room)) (fun a U => a = #[(.ref ob0)] ∧ Z.Warmed39 U.vm ∧ U.heap = h0) (fun _ _ _ _ _ => True) (fun _ U o U' => ∃ v L, o = .returned v ∧ own_Q_rmA24 Z ob0 ob0_value k_ob0_value cs wf h0 n0 v U'.heap L ∧ FrameEnd U o U' L ({ frames := 0, cells := 0, slots := 0, locals := 0 } : Room).cells ({ frames := 0, cells := 0, slots := 0, locals := 0 } : Room).slots) := by
  refine MetFree.of_bodySF (plainFor_of_name own_pn3) hisR ?_
  intro p e s m args below meth c s₁ Bd hml0 hP hK
  obtain ⟨rfl, hZ, hh⟩ := hP
  have hx := Bd.exec
  have hby := Bd.bytes
  have hml : c.maxLocals = 1 := hml0
  have hown : s.vm.findClass "java/lang/String" = some m.cls := findClass_of_methodNamed Bd.named
  have hnm := (name_of_methodNamed Bd.named Bd.method).1
  have X0 : Stand p l e ({ frames := 0, cells := 0, slots := 0, locals := 0 } : Room) s m #[(.ref ob0)] below meth c s₁ [] 0 0 := Stand.of_body Bd
  have e0 : s₁.heap = h0 := by rw [← hh, Bd.state]; rfl
  have N0 := Fr.nil n0
  have Z0 : n0 ≤ h0.size := O0.1 ▸ O0.2.1
  have g0 : ∀ t, Steps p.tables e below (s₁.setTop (mkF m 0 #[.val (.ref ob0)] [])) t → Steps p.tables e below (s₁.setTop (entryFrame m #[(.ref ob0)] 1)) t := fun t k => castTop (own_ef26 m (ob0)) k
  have G0 := G
  obtain ⟨S_CS, hcs, S_WF, hwf⟩ := G
  obtain ⟨T1, X1, e1, st1⟩ := getS2 X0 hx hZ hown (host := "") (Or.inl (own_w hw 44 rfl)) Via.refl e0 (S_CS.ext O0.2) (g := (mkF m 0 #[.val (.ref ob0)] [])) rfl (hb hby own_d7_0)
  have hc2 : ¬ (cs = (0 : Int32)) := hcs
  obtain ⟨T3, X3, e3, st3⟩ := getF X1 hx hZ hown (host := "") (Or.inl (own_w hw 45 rfl)) Via.refl e1 F_ob0_coder (g := (mkF m 7 #[.val (.ref ob0)] [(.ref ob0)])) rfl rfl (hb hby own_d7_7)
  have g4 : ∀ t, Steps p.tables e below (T3.setTop (mkF m 14 #[.val (.ref ob0)] [(.int (0 : Int32))])) t → Steps p.tables e below (s₁.setTop (entryFrame m #[(.ref ob0)] 1)) t := by
    intro t k
    refine g0 t ?_
    show Steps p.tables e below (s₁.setTop (mkF m 0 #[.val (.ref ob0)] [])) _
    refine st1 _ ?_
    refine XS.ifNo X1.here hx rfl (hb hby own_d7_3) rfl ((if0 _ _).trans (feq hc2).1) ?_
    refine XS.aloadN X1.here hx rfl (hb hby own_d7_6) rfl rfl ?_
    show Steps p.tables e below (T1.setTop (mkF m 7 #[.val (.ref ob0)] [(.ref ob0)])) _
    refine st3 _ ?_
    refine XS.goto X3.here hx rfl (pc0 := 10) (pc' := 14) rfl (hb hby own_d7_10) (by decide) (by decide) ?_
    exact k
  obtain ⟨fs, hrt, hrun, hended, hW, hsame⟩ := X3.leave (v := some (.int (0 : Int32))) (fun h => by rw [Bd.returns] at h; cases h)
  refine ⟨_, _, g4 _ ?_, hrun, hended, _, _, rfl, ?_, ⟨_, rfl⟩, hW, hsame.mono (by decide) (by decide)⟩
  · show Steps p.tables e below (T3.setTop (mkF m 14 #[.val (.ref ob0)] [(.int (0 : Int32))])) _
    exact retN X3 hx (t := .byte) Bd.returns (by simp) (hb hby own_d7_14) hrt
  · show own_Q_rmA24 Z ob0 ob0_value k_ob0_value cs wf h0 n0 _ T3.heap _
    rw [e3]
    exact ⟨rfl, N0, rfl⟩
def own_Q_rmA23 (Z : State) (ob0 : Addr) (ob0_value : Addr) (k_ob0_value : ClassId)  (cs : Int32) (wf : Value) (h0 : Heap) (n0 : Nat) (v : Option Value) (h : Heap) (L : List Loc) : Prop := v = some (.int (1 : Int32)) ∧ Fr n0 L ∧ h = h0
set_option maxRecDepth 65536 in
set_option maxHeartbeats 40000000 in
theorem rmA23 (l : Launch) (Z : State) (a0 : Array Value) (hw : ∀ d ∈ tables_1, d.before a0 Z = true) (ws : List Jvm.Cond) (ob0 : Addr) (ob0_value : Addr) (k_ob0_value : ClassId)  (cs : Int32) (wf : Value) (h0 : Heap) (n0 : Nat) (O0 : Old Z n0 h0) (G : own_Gl Z cs wf) (E_ob0 : Exa Z h0 ob0 "java/lang/String") (F_ob0_coder : Fld Z h0 ob0 "java/lang/String" "coder" "B" (.int (0 : Int32))) (V_ob0_value : Arv Z h0 ob0_value k_ob0_value .byte (1 : Int32) [(.int (99 : Int32))] (.int (0 : Int32))) (F_ob0_value : Fld Z h0 ob0 "java/lang/String" "value" "[B" (.ref ob0_value)) :
    MetFree l own_y4 (head1 (Jvm.Cond.code own_y4 jdk_42_method_54_code 1 (some .int) :: ws) ({ frames := 1, cells := 0, slots := 0, locals := 13 } : Room)) (fun a U => a = #[(.ref ob0)] ∧ Z.Warmed39 U.vm ∧ U.heap = h0) (fun _ _ _ _ _ => True) (fun _ U o U' => ∃ v L, o = .returned v ∧ own_Q_rmA23 Z ob0 ob0_value k_ob0_value cs wf h0 n0 v U'.heap L ∧ FrameEnd U o U' L ({ frames := 1, cells := 0, slots := 0, locals := 13 } : Room).cells ({ frames := 1, cells := 0, slots := 0, locals := 13 } : Room).slots) := by
  refine MetFree.of_bodySF (plainFor_of_name own_pn3) hisR ?_
  intro p e s m args below meth c s₁ Bd hml0 hP hK
  obtain ⟨rfl, hZ, hh⟩ := hP
  have hx := Bd.exec
  have hby := Bd.bytes
  have hml : c.maxLocals = 1 := hml0
  have hown : s.vm.findClass "java/lang/String" = some m.cls := findClass_of_methodNamed Bd.named
  have hnm := (name_of_methodNamed Bd.named Bd.method).1
  have X0 : Stand p l e ({ frames := 1, cells := 0, slots := 0, locals := 13 } : Room) s m #[(.ref ob0)] below meth c s₁ [] 0 0 := Stand.of_body Bd
  have e0 : s₁.heap = h0 := by rw [← hh, Bd.state]; rfl
  have N0 := Fr.nil n0
  have Z0 : n0 ≤ h0.size := O0.1 ▸ O0.2.1
  have g0 : ∀ t, Steps p.tables e below (s₁.setTop (mkF m 0 #[.val (.ref ob0)] [])) t → Steps p.tables e below (s₁.setTop (entryFrame m #[(.ref ob0)] 1)) t := fun t k => castTop (own_ef25 m (ob0)) k
  have G0 := G
  obtain ⟨S_CS, hcs, S_WF, hwf⟩ := G
  obtain ⟨T1, X1, e1, st1⟩ := getF X0 hx hZ hown (host := "") (Or.inl (own_w hw 33 rfl)) Via.refl e0 F_ob0_value (g := (mkF m 1 #[.val (.ref ob0)] [(.ref ob0)])) rfl rfl (hb hby own_d6_1)
  obtain ⟨c2, Ar2, cq2, S2, Nn2, Hh2, Gg2⟩ := id V_ob0_value
  obtain ⟨cq3, kq3, q3a, q3b, q3c⟩ := isOf hZ e1 E_ob0
  obtain ⟨_, _, ⟨T3, L3, k3, n3⟩, -, X3, ⟨Lc3, hQ3, l3, y3, z3⟩, st3⟩ := X1.virtualBack hx (y := own_y5) (z := own_y5) hown (mvT hZ (own_w hw 39 rfl)) (mvT hZ (own_w hw 40 rfl)) (notFace_of_selects (args := #[]) (mvT hZ (own_w hw 42 rfl))) (mvT hZ (own_w hw 42 rfl)) (mvT hZ (own_w hw 41 rfl)) (by decide) (backOf (W := 1) (rmA24 l Z a0 hw [] ob0 ob0_value k_ob0_value  cs wf h0 n0 O0 G0 E_ob0 F_ob0_coder V_ob0_value F_ob0_value  ) hZ (own_w hw 43 rfl) (own_w hw 7 rfl) (by decide) (by decide)) q3a q3c (g := (mkF m 6 #[.val (.ref ob0)] [(.ref ob0), (.int (1 : Int32))])) rfl (by rw [hml]; rfl) (Steps.refl _) (argsL := []) (rest := [(.int (1 : Int32))]) (lenOf own_pd2 rfl) rfl (by show 2 * 0 + _ ≤ _; exact Nat.le_of_eq rfl) (hb hby own_d6_6) (fun _ _ => ⟨rfl, e1, (by decide : 0 + 0 ≤ _), (by decide : 0 + 0 ≤ _)⟩)
  dsimp only [Pt.U, Pt.locs, Pt.cells, Pt.slots] at X3 l3 y3 z3 st3 hQ3
  subst l3 y3 z3
  obtain ⟨rfl, Nq3, e3⟩ := hQ3
  have N3 := Fr.app N0 Nq3
  have g4 : ∀ t, Steps p.tables e below (T3.setTop (mkF m 10 #[.val (.ref ob0)] [(.int (1 : Int32))])) t → Steps p.tables e below (s₁.setTop (entryFrame m #[(.ref ob0)] 1)) t := by
    intro t k
    refine g0 t ?_
    show Steps p.tables e below (s₁.setTop (mkF m 0 #[.val (.ref ob0)] [])) _
    refine XS.aloadN X0.here hx rfl (hb hby own_d6_0) rfl rfl ?_
    refine st1 _ ?_
    show Steps p.tables e below (T1.setTop (mkF m 4 #[.val (.ref ob0)] [(.ref ob0_value)])) _
    refine X1.arraylength hx (by rw [e1]; exact Ar2.1) (State.isArrayOf_alike hZ.alike Ar2.2.1) (g := (mkF m 4 #[.val (.ref ob0)] [(.ref ob0_value)])) rfl rfl (hb hby own_d6_4) _ ?_
    rw [len_of S2 Nn2]
    show Steps p.tables e below (T1.setTop (mkF m 5 #[.val (.ref ob0)] [(.int (1 : Int32))])) _
    refine XS.aloadN X1.here hx rfl (hb hby own_d6_5) rfl rfl ?_
    refine st3.trans ?_
    show Steps p.tables e below (T3.setTop (mkF m 9 #[.val (.ref ob0)] [(.int (0 : Int32)), (.int (1 : Int32))])) _
    refine XS.ishr X3.here hx rfl (hb hby own_d6_9) rfl ?_
    rw [show ((1 : Int32) >>> ((0 : Int32) &&& 31)) = (1 : Int32) from by decide]
    exact k
  obtain ⟨fs, hrt, hrun, hended, hW, hsame⟩ := X3.leave (v := some (.int (1 : Int32))) (fun h => by rw [Bd.returns] at h; cases h)
  refine ⟨_, _, g4 _ ?_, hrun, hended, _, _, rfl, ?_, ⟨_, rfl⟩, hW, hsame.mono (by decide) (by decide)⟩
  · show Steps p.tables e below (T3.setTop (mkF m 10 #[.val (.ref ob0)] [(.int (1 : Int32))])) _
    exact retI X3 hx Bd.returns (hb hby own_d6_10) hrt
  · show own_Q_rmA23 Z ob0 ob0_value k_ob0_value cs wf h0 n0 _ T3.heap _
    rw [e3]
    exact ⟨rfl, N3, rfl⟩
theorem own_ef27 (m : MethodId) (x0 : Addr) (x1 : Int32) : entryFrame m #[(.ref x0), (.int x1)] 2 = mkF m 0 #[.val (.ref x0), .val (.int x1)] [] := by first | (simp [entryFrame, mkF, argsToLocals, Value.category]; done) | rfl
theorem own_ef28 (m : MethodId) (x0 : Addr) (x1 : Int32) (x2 : Int32) : entryFrame m #[(.ref x0), (.int x1), (.int x2)] 3 = mkF m 0 #[.val (.ref x0), .val (.int x1), .val (.int x2)] [] := by first | (simp [entryFrame, mkF, argsToLocals, Value.category]; done) | rfl
theorem own_ef29 (m : MethodId) (x0 : Addr) : entryFrame m #[(.ref x0)] 1 = mkF m 0 #[.val (.ref x0)] [] := by first | (simp [entryFrame, mkF, argsToLocals, Value.category]; done) | rfl
def own_Q_rmA27 (Z : State) (ob0 : Addr) (ob0_value : Addr) (k_ob0_value : ClassId)  (cs : Int32) (wf : Value) (h0 : Heap) (n0 : Nat) (v : Option Value) (h : Heap) (L : List Loc) : Prop := v = some (.int (1 : Int32)) ∧ Fr n0 L ∧ h = h0
set_option maxRecDepth 65536 in
set_option maxHeartbeats 40000000 in
theorem rmA27 (l : Launch) (Z : State) (a0 : Array Value) (hw : ∀ d ∈ tables_1, d.before a0 Z = true) (ws : List Jvm.Cond) (ob0 : Addr) (ob0_value : Addr) (k_ob0_value : ClassId)  (cs : Int32) (wf : Value) (h0 : Heap) (n0 : Nat) (O0 : Old Z n0 h0) (G : own_Gl Z cs wf) (E_ob0 : Exa Z h0 ob0 "java/lang/String") (F_ob0_coder : Fld Z h0 ob0 "java/lang/String" "coder" "B" (.int (0 : Int32))) (V_ob0_value : Arv Z h0 ob0_value k_ob0_value .byte (1 : Int32) [(.int (99 : Int32))] (.int (0 : Int32))) (F_ob0_value : Fld Z h0 ob0 "java/lang/String" "value" "[B" (.ref ob0_value)) :
    MetFree l own_y8 (head1 (Jvm.Cond.code own_y8 jdk_42_method_154_code 1 (some .boolean) :: ws) ({ frames := 0, cells := 0, slots := 0, locals := 0 } : Room)) (fun a U => a = #[(.ref ob0)] ∧ Z.Warmed39 U.vm ∧ U.heap = h0) (fun _ _ _ _ _ => True) (fun _ U o U' => ∃ v L, o = .returned v ∧ own_Q_rmA27 Z ob0 ob0_value k_ob0_value cs wf h0 n0 v U'.heap L ∧ FrameEnd U o U' L ({ frames := 0, cells := 0, slots := 0, locals := 0 } : Room).cells ({ frames := 0, cells := 0, slots := 0, locals := 0 } : Room).slots) := by
  refine MetFree.of_bodySF (plainFor_of_name own_pn3) hisR ?_
  intro p e s m args below meth c s₁ Bd hml0 hP hK
  obtain ⟨rfl, hZ, hh⟩ := hP
  have hx := Bd.exec
  have hby := Bd.bytes
  have hml : c.maxLocals = 1 := hml0
  have hown : s.vm.findClass "java/lang/String" = some m.cls := findClass_of_methodNamed Bd.named
  have hnm := (name_of_methodNamed Bd.named Bd.method).1
  have X0 : Stand p l e ({ frames := 0, cells := 0, slots := 0, locals := 0 } : Room) s m #[(.ref ob0)] below meth c s₁ [] 0 0 := Stand.of_body Bd
  have e0 : s₁.heap = h0 := by rw [← hh, Bd.state]; rfl
  have N0 := Fr.nil n0
  have Z0 : n0 ≤ h0.size := O0.1 ▸ O0.2.1
  have g0 : ∀ t, Steps p.tables e below (s₁.setTop (mkF m 0 #[.val (.ref ob0)] [])) t → Steps p.tables e below (s₁.setTop (entryFrame m #[(.ref ob0)] 1)) t := fun t k => castTop (own_ef29 m (ob0)) k
  have G0 := G
  obtain ⟨S_CS, hcs, S_WF, hwf⟩ := G
  obtain ⟨T1, X1, e1, st1⟩ := getS2 X0 hx hZ hown (host := "") (Or.inl (own_w hw 44 rfl)) Via.refl e0 (S_CS.ext O0.2) (g := (mkF m 0 #[.val (.ref ob0)] [])) rfl (hb hby own_d10_0)
  have hc2 : ¬ (cs = (0 : Int32)) := hcs
  obtain ⟨T3, X3, e3, st3⟩ := getF X1 hx hZ hown (host := "") (Or.inl (own_w hw 45 rfl)) Via.refl e1 F_ob0_coder (g := (mkF m 7 #[.val (.ref ob0)] [(.ref ob0)])) rfl rfl (hb hby own_d10_7)
  have g4 : ∀ t, Steps p.tables e below (T3.setTop (mkF m 18 #[.val (.ref ob0)] [(.int (1 : Int32))])) t → Steps p.tables e below (s₁.setTop (entryFrame m #[(.ref ob0)] 1)) t := by
    intro t k
    refine g0 t ?_
    show Steps p.tables e below (s₁.setTop (mkF m 0 #[.val (.ref ob0)] [])) _
    refine st1 _ ?_
    refine XS.ifNo X1.here hx rfl (hb hby own_d10_3) rfl ((if0 _ _).trans (feq hc2).1) ?_
    refine XS.aloadN X1.here hx rfl (hb hby own_d10_6) rfl rfl ?_
    show Steps p.tables e below (T1.setTop (mkF m 7 #[.val (.ref ob0)] [(.ref ob0)])) _
    refine st3 _ ?_
    refine XS.ifNo X3.here hx rfl (hb hby own_d10_10) rfl ((if0 _ _).trans (teq (by decide : (0 : Int32) = (0 : Int32))).2) ?_
    refine XS.iconst X3.here hx rfl (hb hby own_d10_13) ?_
    show Steps p.tables e below (T3.setTop (mkF m 14 #[.val (.ref ob0)] [(.int (1 : Int32))])) _
    refine XS.goto X3.here hx rfl (pc0 := 14) (pc' := 18) rfl (hb hby own_d10_14) (by decide) (by decide) ?_
    exact k
  obtain ⟨fs, hrt, hrun, hended, hW, hsame⟩ := X3.leave (v := some (.int (1 : Int32))) (fun h => by rw [Bd.returns] at h; cases h)
  refine ⟨_, _, g4 _ ?_, hrun, hended, _, _, rfl, ?_, ⟨_, rfl⟩, hW, hsame.mono (by decide) (by decide)⟩
  · show Steps p.tables e below (T3.setTop (mkF m 18 #[.val (.ref ob0)] [(.int (1 : Int32))])) _
    exact retN X3 hx (t := .boolean) Bd.returns (by simp) (hb hby own_d10_18) hrt
  · show own_Q_rmA27 Z ob0 ob0_value k_ob0_value cs wf h0 n0 _ T3.heap _
    rw [e3]
    exact ⟨rfl, N0, rfl⟩
theorem own_ef30 (m : MethodId) (x0 : Addr) (x1 : Int32) (x2 : Int32) (x3 : Int32) : entryFrame m #[(.ref x0), (.int x1), (.int x2), (.int x3)] 4 = mkF m 0 #[.val (.ref x0), .val (.int x1), .val (.int x2), .val (.int x3)] [] := by first | (simp [entryFrame, mkF, argsToLocals, Value.category]; done) | rfl
theorem own_ef31 (m : MethodId) (x0 : Addr) (x1 : Int32) (x2 : Int32) (x3 : Int32) : entryFrame m #[(.ref x0), (.int x1), (.int x2), (.int x3)] 6 = mkF m 0 #[.val (.ref x0), .val (.int x1), .val (.int x2), .val (.int x3), .unset, .unset] [] := by first | (simp [entryFrame, mkF, argsToLocals, Value.category]; done) | rfl
def own_Q_rmA29 (Z : State) (ob0 : Addr) (k_ob0 : ClassId)  (cs : Int32) (wf : Value) (h0 : Heap) (n0 : Nat) (v : Option Value) (h : Heap) (L : List Loc) : Prop := v = some (.int (-1 : Int32)) ∧ Fr n0 L ∧ h = h0
set_option maxRecDepth 65536 in
set_option maxHeartbeats 40000000 in
theorem rmA29 (l : Launch) (Z : State) (a0 : Array Value) (hw : ∀ d ∈ tables_1, d.before a0 Z = true) (ws : List Jvm.Cond) (ob0 : Addr) (k_ob0 : ClassId)  (cs : Int32) (wf : Value) (h0 : Heap) (n0 : Nat) (O0 : Old Z n0 h0) (G : own_Gl Z cs wf) (V_ob0 : Arv Z h0 ob0 k_ob0 .byte (1 : Int32) [(.int (99 : Int32))] (.int (0 : Int32))) :
    MetFree l own_y13 (head1 (Jvm.Cond.code own_y13 jdk_43_method_23_code 6 (some .int) :: ws) ({ frames := 0, cells := 0, slots := 0, locals := 0 } : Room)) (fun a U => a = #[(.ref ob0), (.int (58 : Int32)), (.int (0 : Int32)), (.int (1 : Int32))] ∧ Z.Warmed39 U.vm ∧ U.heap = h0) (fun _ _ _ _ _ => True) (fun _ U o U' => ∃ v L, o = .returned v ∧ own_Q_rmA29 Z ob0 k_ob0 cs wf h0 n0 v U'.heap L ∧ FrameEnd U o U' L ({ frames := 0, cells := 0, slots := 0, locals := 0 } : Room).cells ({ frames := 0, cells := 0, slots := 0, locals := 0 } : Room).slots) := by
  refine MetFree.of_bodySF (plainFor_of_name own_pn4) hisR ?_
  intro p e s m args below meth c s₁ Bd hml0 hP hK
  obtain ⟨rfl, hZ, hh⟩ := hP
  have hx := Bd.exec
  have hby := Bd.bytes
  have hml : c.maxLocals = 6 := hml0
  have hown : s.vm.findClass "java/lang/StringLatin1" = some m.cls := findClass_of_methodNamed Bd.named
  have hnm := (name_of_methodNamed Bd.named Bd.method).1
  have X0 : Stand p l e ({ frames := 0, cells := 0, slots := 0, locals := 0 } : Room) s m #[(.ref ob0), (.int (58 : Int32)), (.int (0 : Int32)), (.int (1 : Int32))] below meth c s₁ [] 0 0 := Stand.of_body Bd
  have e0 : s₁.heap = h0 := by rw [← hh, Bd.state]; rfl
  have N0 := Fr.nil n0
  have Z0 : n0 ≤ h0.size := O0.1 ▸ O0.2.1
  have g0 : ∀ t, Steps p.tables e below (s₁.setTop (mkF m 0 #[.val (.ref ob0), .val (.int (58 : Int32)), .val (.int (0 : Int32)), .val (.int (1 : Int32)), .unset, .unset] [])) t → Steps p.tables e below (s₁.setTop (entryFrame m #[(.ref ob0), (.int (58 : Int32)), (.int (0 : Int32)), (.int (1 : Int32))] 6)) t := fun t k => castTop (own_ef31 m (ob0) ((58 : Int32)) ((0 : Int32)) ((1 : Int32))) k
  have G0 := G
  obtain ⟨S_CS, hcs, S_WF, hwf⟩ := G
  obtain ⟨c1, Ar1, cq1, S1, Nn1, Hh1, Gg1⟩ := id V_ob0
  have hin1 : ¬ ((0 : Int32) < 0 ∨ c1.slots.size ≤ ((0 : Int32)).toNatClampNeg) := inb_of S1 ⟨by decide, by decide⟩
  have hat1 : c1.slots[((0 : Int32)).toNatClampNeg]? = some (.int (99 : Int32)) := Has.at Hh1 hin1 rfl
  have g2 : ∀ t, Steps p.tables e below (s₁.setTop (mkF m 32 #[.val (.ref ob0), .val (.int (58 : Int32)), .val (.int (0 : Int32)), .val (.int (1 : Int32)), .val (.int (58 : Int32)), .val (.int (1 : Int32))] [(.int (-1 : Int32))])) t → Steps p.tables e below (s₁.setTop (entryFrame m #[(.ref ob0), (.int (58 : Int32)), (.int (0 : Int32)), (.int (1 : Int32))] 6)) t := by
    intro t k
    refine g0 t ?_
    show Steps p.tables e below (s₁.setTop (mkF m 0 #[.val (.ref ob0), .val (.int (58 : Int32)), .val (.int (0 : Int32)), .val (.int (1 : Int32)), .unset, .unset] [])) _
    refine XS.iloadN X0.here hx rfl (hb hby own_d15_0) rfl ?_
    show Steps p.tables e below (s₁.setTop (mkF m 1 #[.val (.ref ob0), .val (.int (58 : Int32)), .val (.int (0 : Int32)), .val (.int (1 : Int32)), .unset, .unset] [(.int (58 : Int32))])) _
    refine XS.i2b X0.here hx rfl (hb hby own_d15_1) rfl ?_
    rw [show ((58 : Int32).toInt8.toInt32) = (58 : Int32) from by decide]
    refine XS.istore X0.here hx rfl (hb hby own_d15_2) rfl (l' := #[.val (.ref ob0), .val (.int (58 : Int32)), .val (.int (0 : Int32)), .val (.int (1 : Int32)), .val (.int (58 : Int32)), .unset]) rfl ?_
    show Steps p.tables e below (s₁.setTop (mkF m 4 #[.val (.ref ob0), .val (.int (58 : Int32)), .val (.int (0 : Int32)), .val (.int (1 : Int32)), .val (.int (58 : Int32)), .unset] [])) _
    refine XS.iloadN X0.here hx rfl (hb hby own_d15_4) rfl ?_
    refine XS.istore X0.here hx rfl (hb hby own_d15_5) rfl (l' := #[.val (.ref ob0), .val (.int (58 : Int32)), .val (.int (0 : Int32)), .val (.int (1 : Int32)), .val (.int (58 : Int32)), .val (.int (0 : Int32))]) rfl ?_
    refine XS.iload X0.here hx rfl (hb hby own_d15_7) rfl ?_
    show Steps p.tables e below (s₁.setTop (mkF m 9 #[.val (.ref ob0), .val (.int (58 : Int32)), .val (.int (0 : Int32)), .val (.int (1 : Int32)), .val (.int (58 : Int32)), .val (.int (0 : Int32))] [(.int (0 : Int32))])) _
    refine XS.iloadN X0.here hx rfl (hb hby own_d15_9) rfl ?_
    refine XS.icmpNo X0.here hx rfl (hb hby own_d15_10) rfl (tlt (by decide : (0 : Int32) < (1 : Int32))).2.1 ?_
    refine XS.aloadN X0.here hx rfl (hb hby own_d15_13) rfl rfl ?_
    show Steps p.tables e below (s₁.setTop (mkF m 14 #[.val (.ref ob0), .val (.int (58 : Int32)), .val (.int (0 : Int32)), .val (.int (1 : Int32)), .val (.int (58 : Int32)), .val (.int (0 : Int32))] [(.ref ob0)])) _
    refine XS.iload X0.here hx rfl (hb hby own_d15_14) rfl ?_
    refine X0.baloadBytes hx (j := (0 : Int32)) (v := (.int (99 : Int32))) (by rw [e0]; exact Ar1.1) (State.isArrayOf_alike hZ.alike Ar1.2.1) Ar1.2.2 hin1 hat1 (g := (mkF m 16 #[.val (.ref ob0), .val (.int (58 : Int32)), .val (.int (0 : Int32)), .val (.int (1 : Int32)), .val (.int (58 : Int32)), .val (.int (0 : Int32))] [(.int (0 : Int32)), (.ref ob0)])) rfl rfl (hb hby own_d15_16) _ ?_
    refine XS.iload X0.here hx rfl (hb hby own_d15_17) rfl ?_
    show Steps p.tables e below (s₁.setTop (mkF m 19 #[.val (.ref ob0), .val (.int (58 : Int32)), .val (.int (0 : Int32)), .val (.int (1 : Int32)), .val (.int (58 : Int32)), .val (.int (0 : Int32))] [(.int (58 : Int32)), (.int (99 : Int32))])) _
    refine XS.icmpYes X0.here hx rfl (pc0 := 19) (pc' := 25) rfl (hb hby own_d15_19) rfl (feq (by decide : ¬ ((99 : Int32) = (58 : Int32)))).2 (by decide) (by decide) ?_
    show Steps p.tables e below (s₁.setTop (mkF m 25 #[.val (.ref ob0), .val (.int (58 : Int32)), .val (.int (0 : Int32)), .val (.int (1 : Int32)), .val (.int (58 : Int32)), .val (.int (0 : Int32))] [])) _
    refine XS.iinc X0.here hx rfl (hb hby own_d15_25) rfl (l' := #[.val (.ref ob0), .val (.int (58 : Int32)), .val (.int (0 : Int32)), .val (.int (1 : Int32)), .val (.int (58 : Int32)), .val (.int ((0 : Int32) + (1 : Int32)))]) rfl ?_
    rw [show ((0 : Int32) + (1 : Int32)) = (1 : Int32) from by decide]
    refine XS.goto X0.here hx rfl (pc0 := 28) (pc' := 7) rfl (hb hby own_d15_28) (by decide) (by decide) ?_
    show Steps p.tables e below (s₁.setTop (mkF m 7 #[.val (.ref ob0), .val (.int (58 : Int32)), .val (.int (0 : Int32)), .val (.int (1 : Int32)), .val (.int (58 : Int32)), .val (.int (1 : Int32))] [])) _
    refine XS.iload X0.here hx rfl (hb hby own_d15_7) rfl ?_
    refine XS.iloadN X0.here hx rfl (hb hby own_d15_9) rfl ?_
    refine XS.icmpYes X0.here hx rfl (pc0 := 10) (pc' := 31) rfl (hb hby own_d15_10) rfl (flt (by decide : ¬ ((1 : Int32) < (1 : Int32)))).2.1 (by decide) (by decide) ?_
    show Steps p.tables e below (s₁.setTop (mkF m 31 #[.val (.ref ob0), .val (.int (58 : Int32)), .val (.int (0 : Int32)), .val (.int (1 : Int32)), .val (.int (58 : Int32)), .val (.int (1 : Int32))] [])) _
    refine XS.iconst X0.here hx rfl (hb hby own_d15_31) ?_
    exact k
  obtain ⟨fs, hrt, hrun, hended, hW, hsame⟩ := X0.leave (v := some (.int (-1 : Int32))) (fun h => by rw [Bd.returns] at h; cases h)
  refine ⟨_, _, g2 _ ?_, hrun, hended, _, _, rfl, ?_, ⟨_, rfl⟩, hW, hsame.mono (by decide) (by decide)⟩
  · show Steps p.tables e below (s₁.setTop (mkF m 32 #[.val (.ref ob0), .val (.int (58 : Int32)), .val (.int (0 : Int32)), .val (.int (1 : Int32)), .val (.int (58 : Int32)), .val (.int (1 : Int32))] [(.int (-1 : Int32))])) _
    exact retI X0 hx Bd.returns (hb hby own_d15_32) hrt
  · show own_Q_rmA29 Z ob0 k_ob0 cs wf h0 n0 _ s₁.heap _
    rw [e0]
    exact ⟨rfl, N0, rfl⟩
def own_Q_rmA28 (Z : State) (ob0 : Addr) (k_ob0 : ClassId)  (cs : Int32) (wf : Value) (h0 : Heap) (n0 : Nat) (v : Option Value) (h : Heap) (L : List Loc) : Prop := v = some (.int (-1 : Int32)) ∧ Fr n0 L ∧ h = h0
set_option maxRecDepth 65536 in
set_option maxHeartbeats 40000000 in
theorem rmA28 (l : Launch) (Z : State) (a0 : Array Value) (hw : ∀ d ∈ tables_1, d.before a0 Z = true) (ws : List Jvm.Cond) (ob0 : Addr) (k_ob0 : ClassId)  (cs : Int32) (wf : Value) (h0 : Heap) (n0 : Nat) (O0 : Old Z n0 h0) (G : own_Gl Z cs wf) (V_ob0 : Arv Z h0 ob0 k_ob0 .byte (1 : Int32) [(.int (99 : Int32))] (.int (0 : Int32))) :
    MetFree l own_y9 (head1 (Jvm.Cond.code own_y9 jdk_43_method_22_code 4 (some .int) :: ws) ({ frames := 1, cells := 0, slots := 0, locals := 17 } : Room)) (fun a U => a = #[(.ref ob0), (.int (58 : Int32)), (.int (0 : Int32)), (.int (1 : Int32))] ∧ Z.Warmed39 U.vm ∧ U.heap = h0) (fun _ _ _ _ _ => True) (fun _ U o U' => ∃ v L, o = .returned v ∧ own_Q_rmA28 Z ob0 k_ob0 cs wf h0 n0 v U'.heap L ∧ FrameEnd U o U' L ({ frames := 1, cells := 0, slots := 0, locals := 17 } : Room).cells ({ frames := 1, cells := 0, slots := 0, locals := 17 } : Room).slots) := by
  refine MetFree.of_bodySF (plainFor_of_name own_pn4) hisR ?_
  intro p e s m args below meth c s₁ Bd hml0 hP hK
  obtain ⟨rfl, hZ, hh⟩ := hP
  have hx := Bd.exec
  have hby := Bd.bytes
  have hml : c.maxLocals = 4 := hml0
  have hown : s.vm.findClass "java/lang/StringLatin1" = some m.cls := findClass_of_methodNamed Bd.named
  have hnm := (name_of_methodNamed Bd.named Bd.method).1
  have X0 : Stand p l e ({ frames := 1, cells := 0, slots := 0, locals := 17 } : Room) s m #[(.ref ob0), (.int (58 : Int32)), (.int (0 : Int32)), (.int (1 : Int32))] below meth c s₁ [] 0 0 := Stand.of_body Bd
  have e0 : s₁.heap = h0 := by rw [← hh, Bd.state]; rfl
  have N0 := Fr.nil n0
  have Z0 : n0 ≤ h0.size := O0.1 ▸ O0.2.1
  have g0 : ∀ t, Steps p.tables e below (s₁.setTop (mkF m 0 #[.val (.ref ob0), .val (.int (58 : Int32)), .val (.int (0 : Int32)), .val (.int (1 : Int32))] [])) t → Steps p.tables e below (s₁.setTop (entryFrame m #[(.ref ob0), (.int (58 : Int32)), (.int (0 : Int32)), (.int (1 : Int32))] 4)) t := fun t k => castTop (own_ef30 m (ob0) ((58 : Int32)) ((0 : Int32)) ((1 : Int32))) k
  have G0 := G
  obtain ⟨S_CS, hcs, S_WF, hwf⟩ := G
  obtain ⟨_, _, ⟨T1, L1, k1, n1⟩, -, X1, ⟨Lc1, hQ1, l1, y1, z1⟩, st1⟩ := Jvm.LawKit.callS X0 hx (y := own_y10) hown (mvT hZ (own_w hw 66 rfl)) (mvT hZ (own_w hw 67 rfl)) (mvT hZ (own_w hw 64 rfl)) (mvT hZ (own_w hw 68 rfl)) (by decide) (backOf (W := 0) (rmA10 l Z a0 hw []   cs wf h0 n0 O0 G0   ) hZ (own_w hw 68 rfl) (own_w hw 64 rfl) (by decide) (by decide)) (g := (mkF m 1 #[.val (.ref ob0), .val (.int (58 : Int32)), .val (.int (0 : Int32)), .val (.int (1 : Int32))] [(.int (58 : Int32))])) rfl (by rw [hml]; rfl) (argsL := [(.int (58 : Int32))]) (rest := []) (lenOf own_pd4 rfl) rfl (by show 2 * 0 + _ ≤ _; exact Nat.le_of_eq rfl) (hb hby own_d11_1) (fun _ _ => ⟨rfl, e0, (by decide : 0 + 0 ≤ _), (by decide : 0 + 0 ≤ _)⟩)
  dsimp only [Pt.U, Pt.locs, Pt.cells, Pt.slots] at X1 l1 y1 z1 st1 hQ1
  subst l1 y1 z1
  obtain ⟨rfl, Nq1, e1⟩ := hQ1
  have N1 := Fr.app N0 Nq1
  obtain ⟨_, _, ⟨T2, L2, k2, n2⟩, -, X2, ⟨Lc2, hQ2, l2, y2, z2⟩, st2⟩ := Jvm.LawKit.callS X1 hx (y := own_y11) hown (mvT hZ (own_w hw 69 rfl)) (mvT hZ (own_w hw 70 rfl)) (mvT hZ (own_w hw 71 rfl)) (mvT hZ (own_w hw 72 rfl)) (by decide) (backOf (W := 0) (rmA11 l Z a0 hw []   cs wf h0 n0 O0 G0   ) hZ (own_w hw 72 rfl) (own_w hw 71 rfl) (by decide) (by decide)) (g := (mkF m 11 #[.val (.ref ob0), .val (.int (58 : Int32)), .val (.int (0 : Int32)), .val (.int (1 : Int32))] [(.int (0 : Int32)), (.int (0 : Int32))])) rfl (by rw [hml]; rfl) (argsL := [(.int (0 : Int32)), (.int (0 : Int32))]) (rest := []) (lenOf own_pd5 rfl) rfl (by show 2 * 0 + _ ≤ _; exact Nat.le_of_eq rfl) (hb hby own_d11_11) (fun _ _ => ⟨rfl, e1, (by decide : 0 + 0 ≤ _), (by decide : 0 + 0 ≤ _)⟩)
  dsimp only [Pt.U, Pt.locs, Pt.cells, Pt.slots] at X2 l2 y2 z2 st2 hQ2
  subst l2 y2 z2
  obtain ⟨rfl, Nq2, e2⟩ := hQ2
  have N2 := Fr.app N1 Nq2
  obtain ⟨c3, Ar3, cq3, S3, Nn3, Hh3, Gg3⟩ := id V_ob0
  obtain ⟨_, _, ⟨T4, L4, k4, n4⟩, -, X4, ⟨Lc4, hQ4, l4, y4, z4⟩, st4⟩ := Jvm.LawKit.callS X2 hx (y := own_y12) hown (mvT hZ (own_w hw 73 rfl)) (mvT hZ (own_w hw 74 rfl)) (mvT hZ (own_w hw 71 rfl)) (mvT hZ (own_w hw 75 rfl)) (by decide) (backOf (W := 0) (rmA12 l Z a0 hw []   cs wf h0 n0 O0 G0   ) hZ (own_w hw 75 rfl) (own_w hw 71 rfl) (by decide) (by decide)) (g := (mkF m 18 #[.val (.ref ob0), .val (.int (58 : Int32)), .val (.int (0 : Int32)), .val (.int (1 : Int32))] [(.int (1 : Int32)), (.int (1 : Int32))])) rfl (by rw [hml]; rfl) (argsL := [(.int (1 : Int32)), (.int (1 : Int32))]) (rest := []) (lenOf own_pd5 rfl) rfl (by show 2 * 0 + _ ≤ _; exact Nat.le_of_eq rfl) (hb hby own_d11_18) (fun _ _ => ⟨rfl, e2, (by decide : 0 + 0 ≤ _), (by decide : 0 + 0 ≤ _)⟩)
  dsimp only [Pt.U, Pt.locs, Pt.cells, Pt.slots] at X4 l4 y4 z4 st4 hQ4
  subst l4 y4 z4
  obtain ⟨rfl, Nq4, e4⟩ := hQ4
  have N4 := Fr.app N2 Nq4
  obtain ⟨LL5, XL5, NL5⟩ : ∃ LL : List Loc, Stand p l e ({ frames := 1, cells := 0, slots := 0, locals := 17 } : Room) s m #[(.ref ob0), (.int (58 : Int32)), (.int (0 : Int32)), (.int (1 : Int32))] below meth c T4 LL 0 0 ∧ Fr n0 LL := ⟨_, X4, N4⟩
  obtain ⟨_, _, ⟨T6, L6, k6, n6⟩, -, X6, ⟨Lc6, hQ6, l6, y6, z6⟩, st6⟩ := Jvm.LawKit.callS XL5 hx (y := own_y13) hown (mvT hZ (own_w hw 76 rfl)) (mvT hZ (own_w hw 77 rfl)) (mvT hZ (own_w hw 64 rfl)) (mvT hZ (own_w hw 78 rfl)) (by decide) (backOf (W := 0) (rmA29 l Z a0 hw [] ob0 k_ob0  cs wf h0 n0 O0 G0 V_ob0  ) hZ (own_w hw 78 rfl) (own_w hw 64 rfl) (by decide) (by decide)) (g := (mkF m 33 #[.val (.ref ob0), .val (.int (58 : Int32)), .val (.int (0 : Int32)), .val (.int (1 : Int32))] [(.int (1 : Int32)), (.int (0 : Int32)), (.int (58 : Int32)), (.ref ob0)])) rfl (by rw [hml]; rfl) (argsL := [(.ref ob0), (.int (58 : Int32)), (.int (0 : Int32)), (.int (1 : Int32))]) (rest := []) (lenOf own_pd6 rfl) rfl (by show 2 * 0 + _ ≤ _; exact Nat.le_of_eq rfl) (hb hby own_d11_33) (fun _ _ => ⟨rfl, e4, (by decide : 0 + 0 ≤ _), (by decide : 0 + 0 ≤ _)⟩)
  dsimp only [Pt.U, Pt.locs, Pt.cells, Pt.slots] at X6 l6 y6 z6 st6 hQ6
  subst l6 y6 z6
  obtain ⟨rfl, Nq6, e6⟩ := hQ6
  have N6 := Fr.app NL5 Nq6
  have g7 : ∀ t, Steps p.tables e below (T6.setTop (mkF m 36 #[.val (.ref ob0), .val (.int (58 : Int32)), .val (.int (0 : Int32)), .val (.int (1 : Int32))] [(.int (-1 : Int32))])) t → Steps p.tables e below (s₁.setTop (entryFrame m #[(.ref ob0), (.int (58 : Int32)), (.int (0 : Int32)), (.int (1 : Int32))] 4)) t := by
    intro t k
    refine g0 t ?_
    show Steps p.tables e below (s₁.setTop (mkF m 0 #[.val (.ref ob0), .val (.int (58 : Int32)), .val (.int (0 : Int32)), .val (.int (1 : Int32))] [])) _
    refine XS.iloadN X0.here hx rfl (hb hby own_d11_0) rfl ?_
    refine st1 _ ?_
    refine XS.ifYes X1.here hx rfl (pc0 := 4) (pc' := 9) rfl (hb hby own_d11_4) rfl ((if0 _ _).trans (feq (by decide : ¬ ((1 : Int32) = (0 : Int32)))).2) (by decide) (by decide) ?_
    show Steps p.tables e below (T1.setTop (mkF m 9 #[.val (.ref ob0), .val (.int (58 : Int32)), .val (.int (0 : Int32)), .val (.int (1 : Int32))] [])) _
    refine XS.iloadN X1.here hx rfl (hb hby own_d11_9) rfl ?_
    refine XS.iconst X1.here hx rfl (hb hby own_d11_10) ?_
    refine st2 _ ?_
    show Steps p.tables e below (T2.setTop (mkF m 14 #[.val (.ref ob0), .val (.int (58 : Int32)), .val (.int (0 : Int32)), .val (.int (1 : Int32))] [(.int (0 : Int32))])) _
    refine XS.istoreN X2.here hx rfl (hb hby own_d11_14) rfl (l' := #[.val (.ref ob0), .val (.int (58 : Int32)), .val (.int (0 : Int32)), .val (.int (1 : Int32))]) rfl ?_
    refine XS.iloadN X2.here hx rfl (hb hby own_d11_15) rfl ?_
    refine XS.aloadN X2.here hx rfl (hb hby own_d11_16) rfl rfl ?_
    show Steps p.tables e below (T2.setTop (mkF m 17 #[.val (.ref ob0), .val (.int (58 : Int32)), .val (.int (0 : Int32)), .val (.int (1 : Int32))] [(.ref ob0), (.int (1 : Int32))])) _
    refine X2.arraylength hx (by rw [e2]; exact Ar3.1) (State.isArrayOf_alike hZ.alike Ar3.2.1) (g := (mkF m 17 #[.val (.ref ob0), .val (.int (58 : Int32)), .val (.int (0 : Int32)), .val (.int (1 : Int32))] [(.ref ob0), (.int (1 : Int32))])) rfl rfl (hb hby own_d11_17) _ ?_
    rw [len_of S3 Nn3]
    refine st4 _ ?_
    refine XS.istoreN X4.here hx rfl (hb hby own_d11_21) rfl (l' := #[.val (.ref ob0), .val (.int (58 : Int32)), .val (.int (0 : Int32)), .val (.int (1 : Int32))]) rfl ?_
    show Steps p.tables e below (T4.setTop (mkF m 22 #[.val (.ref ob0), .val (.int (58 : Int32)), .val (.int (0 : Int32)), .val (.int (1 : Int32))] [])) _
    refine XS.iloadN X4.here hx rfl (hb hby own_d11_22) rfl ?_
    refine XS.iloadN X4.here hx rfl (hb hby own_d11_23) rfl ?_
    refine XS.icmpYes X4.here hx rfl (pc0 := 24) (pc' := 29) rfl (hb hby own_d11_24) rfl (tlt (by decide : (0 : Int32) < (1 : Int32))).1 (by decide) (by decide) ?_
    show Steps p.tables e below (T4.setTop (mkF m 29 #[.val (.ref ob0), .val (.int (58 : Int32)), .val (.int (0 : Int32)), .val (.int (1 : Int32))] [])) _
    refine XS.aloadN X4.here hx rfl (hb hby own_d11_29) rfl rfl ?_
    refine XS.iloadN X4.here hx rfl (hb hby own_d11_30) rfl ?_
    refine XS.iloadN X4.here hx rfl (hb hby own_d11_31) rfl ?_
    show Steps p.tables e below (T4.setTop (mkF m 32 #[.val (.ref ob0), .val (.int (58 : Int32)), .val (.int (0 : Int32)), .val (.int (1 : Int32))] [(.int (0 : Int32)), (.int (58 : Int32)), (.ref ob0)])) _
    refine XS.iloadN X4.here hx rfl (hb hby own_d11_32) rfl ?_
    refine st6 _ ?_
    exact k
  obtain ⟨fs, hrt, hrun, hended, hW, hsame⟩ := X6.leave (v := some (.int (-1 : Int32))) (fun h => by rw [Bd.returns] at h; cases h)
  refine ⟨_, _, g7 _ ?_, hrun, hended, _, _, rfl, ?_, ⟨_, rfl⟩, hW, hsame.mono (by decide) (by decide)⟩
  · show Steps p.tables e below (T6.setTop (mkF m 36 #[.val (.ref ob0), .val (.int (58 : Int32)), .val (.int (0 : Int32)), .val (.int (1 : Int32))] [(.int (-1 : Int32))])) _
    exact retI X6 hx Bd.returns (hb hby own_d11_36) hrt
  · show own_Q_rmA28 Z ob0 k_ob0 cs wf h0 n0 _ T6.heap _
    rw [e6]
    exact ⟨rfl, N6, rfl⟩
def own_Q_rmA26 (Z : State) (ob0 : Addr) (ob0_value : Addr) (k_ob0_value : ClassId)  (cs : Int32) (wf : Value) (h0 : Heap) (n0 : Nat) (v : Option Value) (h : Heap) (L : List Loc) : Prop := v = some (.int (-1 : Int32)) ∧ Fr n0 L ∧ h = h0
set_option maxRecDepth 65536 in
set_option maxHeartbeats 40000000 in
theorem rmA26 (l : Launch) (Z : State) (a0 : Array Value) (hw : ∀ d ∈ tables_1, d.before a0 Z = true) (ws : List Jvm.Cond) (ob0 : Addr) (ob0_value : Addr) (k_ob0_value : ClassId)  (cs : Int32) (wf : Value) (h0 : Heap) (n0 : Nat) (O0 : Old Z n0 h0) (G : own_Gl Z cs wf) (E_ob0 : Exa Z h0 ob0 "java/lang/String") (F_ob0_coder : Fld Z h0 ob0 "java/lang/String" "coder" "B" (.int (0 : Int32))) (V_ob0_value : Arv Z h0 ob0_value k_ob0_value .byte (1 : Int32) [(.int (99 : Int32))] (.int (0 : Int32))) (F_ob0_value : Fld Z h0 ob0 "java/lang/String" "value" "[B" (.ref ob0_value)) :
    MetFree l own_y7 (head1 (Jvm.Cond.code own_y7 jdk_42_method_80_code 3 (some .int) :: ws) ({ frames := 2, cells := 0, slots := 0, locals := 32 } : Room)) (fun a U => a = #[(.ref ob0), (.int (58 : Int32)), (.int (0 : Int32))] ∧ Z.Warmed39 U.vm ∧ U.heap = h0) (fun _ _ _ _ _ => True) (fun _ U o U' => ∃ v L, o = .returned v ∧ own_Q_rmA26 Z ob0 ob0_value k_ob0_value cs wf h0 n0 v U'.heap L ∧ FrameEnd U o U' L ({ frames := 2, cells := 0, slots := 0, locals := 32 } : Room).cells ({ frames := 2, cells := 0, slots := 0, locals := 32 } : Room).slots) := by
  refine MetFree.of_bodySF (plainFor_of_name own_pn3) hisR ?_
  intro p e s m args below meth c s₁ Bd hml0 hP hK
  obtain ⟨rfl, hZ, hh⟩ := hP
  have hx := Bd.exec
  have hby := Bd.bytes
  have hml : c.maxLocals = 3 := hml0
  have hown : s.vm.findClass "java/lang/String" = some m.cls := findClass_of_methodNamed Bd.named
  have hnm := (name_of_methodNamed Bd.named Bd.method).1
  have X0 : Stand p l e ({ frames := 2, cells := 0, slots := 0, locals := 32 } : Room) s m #[(.ref ob0), (.int (58 : Int32)), (.int (0 : Int32))] below meth c s₁ [] 0 0 := Stand.of_body Bd
  have e0 : s₁.heap = h0 := by rw [← hh, Bd.state]; rfl
  have N0 := Fr.nil n0
  have Z0 : n0 ≤ h0.size := O0.1 ▸ O0.2.1
  have g0 : ∀ t, Steps p.tables e below (s₁.setTop (mkF m 0 #[.val (.ref ob0), .val (.int (58 : Int32)), .val (.int (0 : Int32))] [])) t → Steps p.tables e below (s₁.setTop (entryFrame m #[(.ref ob0), (.int (58 : Int32)), (.int (0 : Int32))] 3)) t := fun t k => castTop (own_ef28 m (ob0) ((58 : Int32)) ((0 : Int32))) k
  have G0 := G
  obtain ⟨S_CS, hcs, S_WF, hwf⟩ := G
  obtain ⟨cq1, kq1, q1a, q1b, q1c⟩ := isOf hZ e0 E_ob0
  obtain ⟨_, _, ⟨T1, L1, k1, n1⟩, -, X1, ⟨Lc1, hQ1, l1, y1, z1⟩, st1⟩ := X0.virtualBack hx (y := own_y8) (z := own_y8) hown (mvT hZ (own_w hw 56 rfl)) (mvT hZ (own_w hw 57 rfl)) (notFace_of_selects (args := #[]) (mvT hZ (own_w hw 59 rfl))) (mvT hZ (own_w hw 59 rfl)) (mvT hZ (own_w hw 58 rfl)) (by decide) (backOf (W := 0) (rmA27 l Z a0 hw [] ob0 ob0_value k_ob0_value  cs wf h0 n0 O0 G0 E_ob0 F_ob0_coder V_ob0_value F_ob0_value  ) hZ (own_w hw 60 rfl) (own_w hw 7 rfl) (by decide) (by decide)) q1a q1c (g := (mkF m 1 #[.val (.ref ob0), .val (.int (58 : Int32)), .val (.int (0 : Int32))] [(.ref ob0)])) rfl (by rw [hml]; rfl) (Steps.refl _) (argsL := []) (rest := []) (lenOf own_pd1 rfl) rfl (by show 2 * 0 + _ ≤ _; exact Nat.le_of_eq rfl) (hb hby own_d9_1) (fun _ _ => ⟨rfl, e0, (by decide : 0 + 0 ≤ _), (by decide : 0 + 0 ≤ _)⟩)
  dsimp only [Pt.U, Pt.locs, Pt.cells, Pt.slots] at X1 l1 y1 z1 st1 hQ1
  subst l1 y1 z1
  obtain ⟨rfl, Nq1, e1⟩ := hQ1
  have N1 := Fr.app N0 Nq1
  obtain ⟨T2, X2, e2, st2⟩ := getF X1 hx hZ hown (host := "") (Or.inl (own_w hw 33 rfl)) Via.refl e1 F_ob0_value (g := (mkF m 8 #[.val (.ref ob0), .val (.int (58 : Int32)), .val (.int (0 : Int32))] [(.ref ob0)])) rfl rfl (hb hby own_d9_8)
  obtain ⟨cq3, kq3, q3a, q3b, q3c⟩ := isOf hZ e2 E_ob0
  obtain ⟨_, _, ⟨T3, L3, k3, n3⟩, -, X3, ⟨Lc3, hQ3, l3, y3, z3⟩, st3⟩ := X2.virtualBack hx (y := own_y4) (z := own_y4) hown (mvT hZ (own_w hw 61 rfl)) (mvT hZ (own_w hw 35 rfl)) (notFace_of_selects (args := #[]) (mvT hZ (own_w hw 37 rfl))) (mvT hZ (own_w hw 37 rfl)) (mvT hZ (own_w hw 36 rfl)) (by decide) (backOf (W := 3) (rmA23 l Z a0 hw [] ob0 ob0_value k_ob0_value  cs wf h0 n0 O0 G0 E_ob0 F_ob0_coder V_ob0_value F_ob0_value  ) hZ (own_w hw 38 rfl) (own_w hw 7 rfl) (by decide) (by decide)) q3a q3c (g := (mkF m 14 #[.val (.ref ob0), .val (.int (58 : Int32)), .val (.int (0 : Int32))] [(.ref ob0), (.int (0 : Int32)), (.int (58 : Int32)), (.ref ob0_value)])) rfl (by rw [hml]; rfl) (Steps.refl _) (argsL := []) (rest := [(.int (0 : Int32)), (.int (58 : Int32)), (.ref ob0_value)]) (lenOf own_pd3 rfl) rfl (by show 2 * 0 + _ ≤ _; exact Nat.le_of_eq rfl) (hb hby own_d9_14) (fun _ _ => ⟨rfl, e2, (by decide : 0 + 0 ≤ _), (by decide : 0 + 0 ≤ _)⟩)
  dsimp only [Pt.U, Pt.locs, Pt.cells, Pt.slots] at X3 l3 y3 z3 st3 hQ3
  subst l3 y3 z3
  obtain ⟨rfl, Nq3, e3⟩ := hQ3
  have N3 := Fr.app N1 Nq3
  obtain ⟨_, _, ⟨T4, L4, k4, n4⟩, -, X4, ⟨Lc4, hQ4, l4, y4, z4⟩, st4⟩ := Jvm.LawKit.callS X3 hx (y := own_y9) hown (mvT hZ (own_w hw 62 rfl)) (mvT hZ (own_w hw 63 rfl)) (mvT hZ (own_w hw 64 rfl)) (mvT hZ (own_w hw 65 rfl)) (by decide) (backOf (W := 0) (rmA28 l Z a0 hw [] ob0_value k_ob0_value  cs wf h0 n0 O0 G0 V_ob0_value  ) hZ (own_w hw 65 rfl) (own_w hw 64 rfl) (by decide) (by decide)) (g := (mkF m 17 #[.val (.ref ob0), .val (.int (58 : Int32)), .val (.int (0 : Int32))] [(.int (1 : Int32)), (.int (0 : Int32)), (.int (58 : Int32)), (.ref ob0_value)])) rfl (by rw [hml]; rfl) (argsL := [(.ref ob0_value), (.int (58 : Int32)), (.int (0 : Int32)), (.int (1 : Int32))]) (rest := []) (lenOf own_pd6 rfl) rfl (by show 2 * 0 + _ ≤ _; exact Nat.le_of_eq rfl) (hb hby own_d9_17) (fun _ _ => ⟨rfl, e3, (by decide : 0 + 0 ≤ _), (by decide : 0 + 0 ≤ _)⟩)
  dsimp only [Pt.U, Pt.locs, Pt.cells, Pt.slots] at X4 l4 y4 z4 st4 hQ4
  subst l4 y4 z4
  obtain ⟨rfl, Nq4, e4⟩ := hQ4
  have N4 := Fr.app N3 Nq4
  have g5 : ∀ t, Steps p.tables e below (T4.setTop (mkF m 36 #[.val (.ref ob0), .val (.int (58 : Int32)), .val (.int (0 : Int32))] [(.int (-1 : Int32))])) t → Steps p.tables e below (s₁.setTop (entryFrame m #[(.ref ob0), (.int (58 : Int32)), (.int (0 : Int32))] 3)) t := by
    intro t k
    refine g0 t ?_
    show Steps p.tables e below (s₁.setTop (mkF m 0 #[.val (.ref ob0), .val (.int (58 : Int32)), .val (.int (0 : Int32))] [])) _
    refine XS.aloadN X0.here hx rfl (hb hby own_d9_0) rfl rfl ?_
    refine st1.trans ?_
    refine XS.ifNo X1.here hx rfl (hb hby own_d9_4) rfl ((if0 _ _).trans (feq (by decide : ¬ ((1 : Int32) = (0 : Int32)))).1) ?_
    show Steps p.tables e below (T1.setTop (mkF m 7 #[.val (.ref ob0), .val (.int (58 : Int32)), .val (.int (0 : Int32))] [])) _
    refine XS.aloadN X1.here hx rfl (hb hby own_d9_7) rfl rfl ?_
    refine st2 _ ?_
    refine XS.iloadN X2.here hx rfl (hb hby own_d9_11) rfl ?_
    show Steps p.tables e below (T2.setTop (mkF m 12 #[.val (.ref ob0), .val (.int (58 : Int32)), .val (.int (0 : Int32))] [(.int (58 : Int32)), (.ref ob0_value)])) _
    refine XS.iloadN X2.here hx rfl (hb hby own_d9_12) rfl ?_
    refine XS.aloadN X2.here hx rfl (hb hby own_d9_13) rfl rfl ?_
    refine st3.trans ?_
    show Steps p.tables e below (T3.setTop (mkF m 17 #[.val (.ref ob0), .val (.int (58 : Int32)), .val (.int (0 : Int32))] [(.int (1 : Int32)), (.int (0 : Int32)), (.int (58 : Int32)), (.ref ob0_value)])) _
    refine st4 _ ?_
    refine XS.goto X4.here hx rfl (pc0 := 20) (pc' := 36) rfl (hb hby own_d9_20) (by decide) (by decide) ?_
    exact k
  obtain ⟨fs, hrt, hrun, hended, hW, hsame⟩ := X4.leave (v := some (.int (-1 : Int32))) (fun h => by rw [Bd.returns] at h; cases h)
  refine ⟨_, _, g5 _ ?_, hrun, hended, _, _, rfl, ?_, ⟨_, rfl⟩, hW, hsame.mono (by decide) (by decide)⟩
  · show Steps p.tables e below (T4.setTop (mkF m 36 #[.val (.ref ob0), .val (.int (58 : Int32)), .val (.int (0 : Int32))] [(.int (-1 : Int32))])) _
    exact retI X4 hx Bd.returns (hb hby own_d9_36) hrt
  · show own_Q_rmA26 Z ob0 ob0_value k_ob0_value cs wf h0 n0 _ T4.heap _
    rw [e4]
    exact ⟨rfl, N4, rfl⟩
def own_Q_rmA25 (Z : State) (ob0 : Addr) (ob0_value : Addr) (k_ob0_value : ClassId)  (cs : Int32) (wf : Value) (h0 : Heap) (n0 : Nat) (v : Option Value) (h : Heap) (L : List Loc) : Prop := v = some (.int (-1 : Int32)) ∧ Fr n0 L ∧ h = h0
set_option maxRecDepth 65536 in
set_option maxHeartbeats 40000000 in
theorem rmA25 (l : Launch) (Z : State) (a0 : Array Value) (hw : ∀ d ∈ tables_1, d.before a0 Z = true) (ws : List Jvm.Cond) (ob0 : Addr) (ob0_value : Addr) (k_ob0_value : ClassId)  (cs : Int32) (wf : Value) (h0 : Heap) (n0 : Nat) (O0 : Old Z n0 h0) (G : own_Gl Z cs wf) (E_ob0 : Exa Z h0 ob0 "java/lang/String") (F_ob0_coder : Fld Z h0 ob0 "java/lang/String" "coder" "B" (.int (0 : Int32))) (V_ob0_value : Arv Z h0 ob0_value k_ob0_value .byte (1 : Int32) [(.int (99 : Int32))] (.int (0 : Int32))) (F_ob0_value : Fld Z h0 ob0 "java/lang/String" "value" "[B" (.ref ob0_value)) :
    MetFree l own_y6 (head1 (Jvm.Cond.code own_y6 jdk_42_method_79_code 2 (some .int) :: ws) ({ frames := 3, cells := 0, slots := 0, locals := 46 } : Room)) (fun a U => a = #[(.ref ob0), (.int (58 : Int32))] ∧ Z.Warmed39 U.vm ∧ U.heap = h0) (fun _ _ _ _ _ => True) (fun _ U o U' => ∃ v L, o = .returned v ∧ own_Q_rmA25 Z ob0 ob0_value k_ob0_value cs wf h0 n0 v U'.heap L ∧ FrameEnd U o U' L ({ frames := 3, cells := 0, slots := 0, locals := 46 } : Room).cells ({ frames := 3, cells := 0, slots := 0, locals := 46 } : Room).slots) := by
  refine MetFree.of_bodySF (plainFor_of_name own_pn3) hisR ?_
  intro p e s m args below meth c s₁ Bd hml0 hP hK
  obtain ⟨rfl, hZ, hh⟩ := hP
  have hx := Bd.exec
  have hby := Bd.bytes
  have hml : c.maxLocals = 2 := hml0
  have hown : s.vm.findClass "java/lang/String" = some m.cls := findClass_of_methodNamed Bd.named
  have hnm := (name_of_methodNamed Bd.named Bd.method).1
  have X0 : Stand p l e ({ frames := 3, cells := 0, slots := 0, locals := 46 } : Room) s m #[(.ref ob0), (.int (58 : Int32))] below meth c s₁ [] 0 0 := Stand.of_body Bd
  have e0 : s₁.heap = h0 := by rw [← hh, Bd.state]; rfl
  have N0 := Fr.nil n0
  have Z0 : n0 ≤ h0.size := O0.1 ▸ O0.2.1
  have g0 : ∀ t, Steps p.tables e below (s₁.setTop (mkF m 0 #[.val (.ref ob0), .val (.int (58 : Int32))] [])) t → Steps p.tables e below (s₁.setTop (entryFrame m #[(.ref ob0), (.int (58 : Int32))] 2)) t := fun t k => castTop (own_ef27 m (ob0) ((58 : Int32))) k
  have G0 := G
  obtain ⟨S_CS, hcs, S_WF, hwf⟩ := G
  obtain ⟨cq1, kq1, q1a, q1b, q1c⟩ := isOf hZ e0 E_ob0
  obtain ⟨_, _, ⟨T1, L1, k1, n1⟩, -, X1, ⟨Lc1, hQ1, l1, y1, z1⟩, st1⟩ := X0.virtualBack hx (y := own_y7) (z := own_y7) hown (mvT hZ (own_w hw 51 rfl)) (mvT hZ (own_w hw 52 rfl)) (notFace_of_selects (args := #[]) (mvT hZ (own_w hw 54 rfl))) (mvT hZ (own_w hw 54 rfl)) (mvT hZ (own_w hw 53 rfl)) (by decide) (backOf (W := 0) (rmA26 l Z a0 hw [] ob0 ob0_value k_ob0_value  cs wf h0 n0 O0 G0 E_ob0 F_ob0_coder V_ob0_value F_ob0_value  ) hZ (own_w hw 55 rfl) (own_w hw 7 rfl) (by decide) (by decide)) q1a q1c (g := (mkF m 3 #[.val (.ref ob0), .val (.int (58 : Int32))] [(.int (0 : Int32)), (.int (58 : Int32)), (.ref ob0)])) rfl (by rw [hml]; rfl) (Steps.refl _) (argsL := [(.int (58 : Int32)), (.int (0 : Int32))]) (rest := []) (lenOf own_pd5 rfl) rfl (by show 2 * 0 + _ ≤ _; exact Nat.le_of_eq rfl) (hb hby own_d8_3) (fun _ _ => ⟨rfl, e0, (by decide : 0 + 0 ≤ _), (by decide : 0 + 0 ≤ _)⟩)
  dsimp only [Pt.U, Pt.locs, Pt.cells, Pt.slots] at X1 l1 y1 z1 st1 hQ1
  subst l1 y1 z1
  obtain ⟨rfl, Nq1, e1⟩ := hQ1
  have N1 := Fr.app N0 Nq1
  have g2 : ∀ t, Steps p.tables e below (T1.setTop (mkF m 6 #[.val (.ref ob0), .val (.int (58 : Int32))] [(.int (-1 : Int32))])) t → Steps p.tables e below (s₁.setTop (entryFrame m #[(.ref ob0), (.int (58 : Int32))] 2)) t := by
    intro t k
    refine g0 t ?_
    show Steps p.tables e below (s₁.setTop (mkF m 0 #[.val (.ref ob0), .val (.int (58 : Int32))] [])) _
    refine XS.aloadN X0.here hx rfl (hb hby own_d8_0) rfl rfl ?_
    refine XS.iloadN X0.here hx rfl (hb hby own_d8_1) rfl ?_
    refine XS.iconst X0.here hx rfl (hb hby own_d8_2) ?_
    show Steps p.tables e below (s₁.setTop (mkF m 3 #[.val (.ref ob0), .val (.int (58 : Int32))] [(.int (0 : Int32)), (.int (58 : Int32)), (.ref ob0)])) _
    refine st1.trans ?_
    exact k
  obtain ⟨fs, hrt, hrun, hended, hW, hsame⟩ := X1.leave (v := some (.int (-1 : Int32))) (fun h => by rw [Bd.returns] at h; cases h)
  refine ⟨_, _, g2 _ ?_, hrun, hended, _, _, rfl, ?_, ⟨_, rfl⟩, hW, hsame.mono (by decide) (by decide)⟩
  · show Steps p.tables e below (T1.setTop (mkF m 6 #[.val (.ref ob0), .val (.int (58 : Int32))] [(.int (-1 : Int32))])) _
    exact retI X1 hx Bd.returns (hb hby own_d8_6) hrt
  · show own_Q_rmA25 Z ob0 ob0_value k_ob0_value cs wf h0 n0 _ T1.heap _
    rw [e1]
    exact ⟨rfl, N1, rfl⟩
theorem own_ef32 (m : MethodId) (x0 : Addr) (x1 : Int32) : entryFrame m #[(.ref x0), (.int x1)] 2 = mkF m 0 #[.val (.ref x0), .val (.int x1)] [] := by first | (simp [entryFrame, mkF, argsToLocals, Value.category]; done) | rfl
theorem own_ef33 (m : MethodId) (x0 : Addr) (x1 : Int32) : entryFrame m #[(.ref x0), (.int x1)] 2 = mkF m 0 #[.val (.ref x0), .val (.int x1)] [] := by first | (simp [entryFrame, mkF, argsToLocals, Value.category]; done) | rfl
def own_Q_rmA31 (Z : State) (ob0 : Addr) (k_ob0 : ClassId)  (cs : Int32) (wf : Value) (h0 : Heap) (n0 : Nat) (v : Option Value) (h : Heap) (L : List Loc) : Prop := v = some (.int (99 : Int32)) ∧ Fr n0 L ∧ h = h0
set_option maxRecDepth 65536 in
set_option maxHeartbeats 40000000 in
theorem rmA31 (l : Launch) (Z : State) (a0 : Array Value) (hw : ∀ d ∈ tables_1, d.before a0 Z = true) (ws : List Jvm.Cond) (ob0 : Addr) (k_ob0 : ClassId)  (cs : Int32) (wf : Value) (h0 : Heap) (n0 : Nat) (O0 : Old Z n0 h0) (G : own_Gl Z cs wf) (V_ob0 : Arv Z h0 ob0 k_ob0 .byte (1 : Int32) [(.int (99 : Int32))] (.int (0 : Int32))) :
    MetFree l own_y15 (head1 (Jvm.Cond.code own_y15 jdk_43_method_2_code 2 (some .char) :: ws) ({ frames := 2, cells := 0, slots := 0, locals := 27 } : Room)) (fun a U => a = #[(.ref ob0), (.int (0 : Int32))] ∧ Z.Warmed39 U.vm ∧ U.heap = h0) (fun _ _ _ _ _ => True) (fun _ U o U' => ∃ v L, o = .returned v ∧ own_Q_rmA31 Z ob0 k_ob0 cs wf h0 n0 v U'.heap L ∧ FrameEnd U o U' L ({ frames := 2, cells := 0, slots := 0, locals := 27 } : Room).cells ({ frames := 2, cells := 0, slots := 0, locals := 27 } : Room).slots) := by
  refine MetFree.of_bodySF (plainFor_of_name own_pn4) hisR ?_
  intro p e s m args below meth c s₁ Bd hml0 hP hK
  obtain ⟨rfl, hZ, hh⟩ := hP
  have hx := Bd.exec
  have hby := Bd.bytes
  have hml : c.maxLocals = 2 := hml0
  have hown : s.vm.findClass "java/lang/StringLatin1" = some m.cls := findClass_of_methodNamed Bd.named
  have hnm := (name_of_methodNamed Bd.named Bd.method).1
  have X0 : Stand p l e ({ frames := 2, cells := 0, slots := 0, locals := 27 } : Room) s m #[(.ref ob0), (.int (0 : Int32))] below meth c s₁ [] 0 0 := Stand.of_body Bd
  have e0 : s₁.heap = h0 := by rw [← hh, Bd.state]; rfl
  have N0 := Fr.nil n0
  have Z0 : n0 ≤ h0.size := O0.1 ▸ O0.2.1
  have g0 : ∀ t, Steps p.tables e below (s₁.setTop (mkF m 0 #[.val (.ref ob0), .val (.int (0 : Int32))] [])) t → Steps p.tables e below (s₁.setTop (entryFrame m #[(.ref ob0), (.int (0 : Int32))] 2)) t := fun t k => castTop (own_ef33 m (ob0) ((0 : Int32))) k
  have G0 := G
  obtain ⟨S_CS, hcs, S_WF, hwf⟩ := G
  obtain ⟨c1, Ar1, cq1, S1, Nn1, Hh1, Gg1⟩ := id V_ob0
  obtain ⟨_, _, ⟨T2, L2, k2, n2⟩, -, X2, ⟨Lc2, hQ2, l2, y2, z2⟩, st2⟩ := Jvm.LawKit.callS X0 hx (y := own_y16) hown (mvT hZ (own_w hw 87 rfl)) (mvT hZ (own_w hw 88 rfl)) (mvT hZ (own_w hw 7 rfl)) (mvT hZ (own_w hw 89 rfl)) (by decide) (backOf (W := 0) (rmA16 l Z a0 hw []   cs wf h0 n0 O0 G0   ) hZ (own_w hw 89 rfl) (own_w hw 7 rfl) (by decide) (by decide)) (g := (mkF m 3 #[.val (.ref ob0), .val (.int (0 : Int32))] [(.int (1 : Int32)), (.int (0 : Int32))])) rfl (by rw [hml]; rfl) (argsL := [(.int (0 : Int32)), (.int (1 : Int32))]) (rest := []) (lenOf own_pd9 rfl) rfl (by show 2 * 0 + _ ≤ _; exact Nat.le_of_eq rfl) (hb hby own_d17_3) (fun _ _ => ⟨rfl, e0, (by decide : 0 + 0 ≤ _), (by decide : 0 + 0 ≤ _)⟩)
  dsimp only [Pt.U, Pt.locs, Pt.cells, Pt.slots] at X2 l2 y2 z2 st2 hQ2
  subst l2 y2 z2
  obtain ⟨rfl, Nq2, e2⟩ := hQ2
  have N2 := Fr.app N0 Nq2
  obtain ⟨c3, Ar3, cq3, S3, Nn3, Hh3, Gg3⟩ := id V_ob0
  have hin3 : ¬ ((0 : Int32) < 0 ∨ c3.slots.size ≤ ((0 : Int32)).toNatClampNeg) := inb_of S3 ⟨by decide, by decide⟩
  have hat3 : c3.slots[((0 : Int32)).toNatClampNeg]? = some (.int (99 : Int32)) := Has.at Hh3 hin3 rfl
  have g4 : ∀ t, Steps p.tables e below (T2.setTop (mkF m 14 #[.val (.ref ob0), .val (.int (0 : Int32))] [(.int (99 : Int32))])) t → Steps p.tables e below (s₁.setTop (entryFrame m #[(.ref ob0), (.int (0 : Int32))] 2)) t := by
    intro t k
    refine g0 t ?_
    show Steps p.tables e below (s₁.setTop (mkF m 0 #[.val (.ref ob0), .val (.int (0 : Int32))] [])) _
    refine XS.iloadN X0.here hx rfl (hb hby own_d17_0) rfl ?_
    refine XS.aloadN X0.here hx rfl (hb hby own_d17_1) rfl rfl ?_
    show Steps p.tables e below (s₁.setTop (mkF m 2 #[.val (.ref ob0), .val (.int (0 : Int32))] [(.ref ob0), (.int (0 : Int32))])) _
    refine X0.arraylength hx (by rw [e0]; exact Ar1.1) (State.isArrayOf_alike hZ.alike Ar1.2.1) (g := (mkF m 2 #[.val (.ref ob0), .val (.int (0 : Int32))] [(.ref ob0), (.int (0 : Int32))])) rfl rfl (hb hby own_d17_2) _ ?_
    rw [len_of S1 Nn1]
    show Steps p.tables e below (s₁.setTop (mkF m 3 #[.val (.ref ob0), .val (.int (0 : Int32))] [(.int (1 : Int32)), (.int (0 : Int32))])) _
    refine st2 _ ?_
    refine XS.aloadN X2.here hx rfl (hb hby own_d17_6) rfl rfl ?_
    refine XS.iloadN X2.here hx rfl (hb hby own_d17_7) rfl ?_
    show Steps p.tables e below (T2.setTop (mkF m 8 #[.val (.ref ob0), .val (.int (0 : Int32))] [(.int (0 : Int32)), (.ref ob0)])) _
    refine X2.baloadBytes hx (j := (0 : Int32)) (v := (.int (99 : Int32))) (by rw [e2]; exact Ar3.1) (State.isArrayOf_alike hZ.alike Ar3.2.1) Ar3.2.2 hin3 hat3 (g := (mkF m 8 #[.val (.ref ob0), .val (.int (0 : Int32))] [(.int (0 : Int32)), (.ref ob0)])) rfl rfl (hb hby own_d17_8) _ ?_
    refine XS.sipush X2.here hx rfl (hb hby own_d17_9) ?_
    show Steps p.tables e below (T2.setTop (mkF m 12 #[.val (.ref ob0), .val (.int (0 : Int32))] [(.int (255 : Int32)), (.int (99 : Int32))])) _
    refine XS.iand X2.here hx rfl (hb hby own_d17_12) rfl ?_
    rw [show ((99 : Int32) &&& (255 : Int32)) = (99 : Int32) from by decide]
    show Steps p.tables e below (T2.setTop (mkF m 13 #[.val (.ref ob0), .val (.int (0 : Int32))] [(.int (99 : Int32))])) _
    refine XS.i2c X2.here hx rfl (hb hby own_d17_13) rfl ?_
    rw [show ((99 : Int32).toUInt32.toUInt16.toUInt32.toInt32) = (99 : Int32) from by decide]
    exact k
  obtain ⟨fs, hrt, hrun, hended, hW, hsame⟩ := X2.leave (v := some (.int (99 : Int32))) (fun h => by rw [Bd.returns] at h; cases h)
  refine ⟨_, _, g4 _ ?_, hrun, hended, _, _, rfl, ?_, ⟨_, rfl⟩, hW, hsame.mono (by decide) (by decide)⟩
  · show Steps p.tables e below (T2.setTop (mkF m 14 #[.val (.ref ob0), .val (.int (0 : Int32))] [(.int (99 : Int32))])) _
    exact retN X2 hx (t := .char) Bd.returns (by simp) (hb hby own_d17_14) hrt
  · show own_Q_rmA31 Z ob0 k_ob0 cs wf h0 n0 _ T2.heap _
    rw [e2]
    exact ⟨rfl, N2, rfl⟩
def own_Q_rmA30 (Z : State) (ob0 : Addr) (ob0_value : Addr) (k_ob0_value : ClassId)  (cs : Int32) (wf : Value) (h0 : Heap) (n0 : Nat) (v : Option Value) (h : Heap) (L : List Loc) : Prop := v = some (.int (99 : Int32)) ∧ Fr n0 L ∧ h = h0
set_option maxRecDepth 65536 in
set_option maxHeartbeats 40000000 in
theorem rmA30 (l : Launch) (Z : State) (a0 : Array Value) (hw : ∀ d ∈ tables_1, d.before a0 Z = true) (ws : List Jvm.Cond) (ob0 : Addr) (ob0_value : Addr) (k_ob0_value : ClassId)  (cs : Int32) (wf : Value) (h0 : Heap) (n0 : Nat) (O0 : Old Z n0 h0) (G : own_Gl Z cs wf) (E_ob0 : Exa Z h0 ob0 "java/lang/String") (F_ob0_coder : Fld Z h0 ob0 "java/lang/String" "coder" "B" (.int (0 : Int32))) (V_ob0_value : Arv Z h0 ob0_value k_ob0_value .byte (1 : Int32) [(.int (99 : Int32))] (.int (0 : Int32))) (F_ob0_value : Fld Z h0 ob0 "java/lang/String" "value" "[B" (.ref ob0_value)) :
    MetFree l own_y14 (head1 (Jvm.Cond.code own_y14 jdk_42_method_56_code 2 (some .char) :: ws) ({ frames := 3, cells := 0, slots := 0, locals := 40 } : Room)) (fun a U => a = #[(.ref ob0), (.int (0 : Int32))] ∧ Z.Warmed39 U.vm ∧ U.heap = h0) (fun _ _ _ _ _ => True) (fun _ U o U' => ∃ v L, o = .returned v ∧ own_Q_rmA30 Z ob0 ob0_value k_ob0_value cs wf h0 n0 v U'.heap L ∧ FrameEnd U o U' L ({ frames := 3, cells := 0, slots := 0, locals := 40 } : Room).cells ({ frames := 3, cells := 0, slots := 0, locals := 40 } : Room).slots) := by
  refine MetFree.of_bodySF (plainFor_of_name own_pn3) hisR ?_
  intro p e s m args below meth c s₁ Bd hml0 hP hK
  obtain ⟨rfl, hZ, hh⟩ := hP
  have hx := Bd.exec
  have hby := Bd.bytes
  have hml : c.maxLocals = 2 := hml0
  have hown : s.vm.findClass "java/lang/String" = some m.cls := findClass_of_methodNamed Bd.named
  have hnm := (name_of_methodNamed Bd.named Bd.method).1
  have X0 : Stand p l e ({ frames := 3, cells := 0, slots := 0, locals := 40 } : Room) s m #[(.ref ob0), (.int (0 : Int32))] below meth c s₁ [] 0 0 := Stand.of_body Bd
  have e0 : s₁.heap = h0 := by rw [← hh, Bd.state]; rfl
  have N0 := Fr.nil n0
  have Z0 : n0 ≤ h0.size := O0.1 ▸ O0.2.1
  have g0 : ∀ t, Steps p.tables e below (s₁.setTop (mkF m 0 #[.val (.ref ob0), .val (.int (0 : Int32))] [])) t → Steps p.tables e below (s₁.setTop (entryFrame m #[(.ref ob0), (.int (0 : Int32))] 2)) t := fun t k => castTop (own_ef32 m (ob0) ((0 : Int32))) k
  have G0 := G
  obtain ⟨S_CS, hcs, S_WF, hwf⟩ := G
  obtain ⟨cq1, kq1, q1a, q1b, q1c⟩ := isOf hZ e0 E_ob0
  obtain ⟨_, _, ⟨T1, L1, k1, n1⟩, -, X1, ⟨Lc1, hQ1, l1, y1, z1⟩, st1⟩ := X0.virtualBack hx (y := own_y8) (z := own_y8) hown (mvT hZ (own_w hw 56 rfl)) (mvT hZ (own_w hw 57 rfl)) (notFace_of_selects (args := #[]) (mvT hZ (own_w hw 59 rfl))) (mvT hZ (own_w hw 59 rfl)) (mvT hZ (own_w hw 58 rfl)) (by decide) (backOf (W := 0) (rmA27 l Z a0 hw [] ob0 ob0_value k_ob0_value  cs wf h0 n0 O0 G0 E_ob0 F_ob0_coder V_ob0_value F_ob0_value  ) hZ (own_w hw 60 rfl) (own_w hw 7 rfl) (by decide) (by decide)) q1a q1c (g := (mkF m 1 #[.val (.ref ob0), .val (.int (0 : Int32))] [(.ref ob0)])) rfl (by rw [hml]; rfl) (Steps.refl _) (argsL := []) (rest := []) (lenOf own_pd1 rfl) rfl (by show 2 * 0 + _ ≤ _; exact Nat.le_of_eq rfl) (hb hby own_d16_1) (fun _ _ => ⟨rfl, e0, (by decide : 0 + 0 ≤ _), (by decide : 0 + 0 ≤ _)⟩)
  dsimp only [Pt.U, Pt.locs, Pt.cells, Pt.slots] at X1 l1 y1 z1 st1 hQ1
  subst l1 y1 z1
  obtain ⟨rfl, Nq1, e1⟩ := hQ1
  have N1 := Fr.app N0 Nq1
  obtain ⟨T2, X2, e2, st2⟩ := getF X1 hx hZ hown (host := "") (Or.inl (own_w hw 33 rfl)) Via.refl e1 F_ob0_value (g := (mkF m 8 #[.val (.ref ob0), .val (.int (0 : Int32))] [(.ref ob0)])) rfl rfl (hb hby own_d16_8)
  obtain ⟨_, _, ⟨T3, L3, k3, n3⟩, -, X3, ⟨Lc3, hQ3, l3, y3, z3⟩, st3⟩ := Jvm.LawKit.callS X2 hx (y := own_y15) hown (mvT hZ (own_w hw 84 rfl)) (mvT hZ (own_w hw 85 rfl)) (mvT hZ (own_w hw 64 rfl)) (mvT hZ (own_w hw 86 rfl)) (by decide) (backOf (W := 0) (rmA31 l Z a0 hw [] ob0_value k_ob0_value  cs wf h0 n0 O0 G0 V_ob0_value  ) hZ (own_w hw 86 rfl) (own_w hw 64 rfl) (by decide) (by decide)) (g := (mkF m 12 #[.val (.ref ob0), .val (.int (0 : Int32))] [(.int (0 : Int32)), (.ref ob0_value)])) rfl (by rw [hml]; rfl) (argsL := [(.ref ob0_value), (.int (0 : Int32))]) (rest := []) (lenOf own_pd10 rfl) rfl (by show 2 * 0 + _ ≤ _; exact Nat.le_of_eq rfl) (hb hby own_d16_12) (fun _ _ => ⟨rfl, e2, (by decide : 0 + 0 ≤ _), (by decide : 0 + 0 ≤ _)⟩)
  dsimp only [Pt.U, Pt.locs, Pt.cells, Pt.slots] at X3 l3 y3 z3 st3 hQ3
  subst l3 y3 z3
  obtain ⟨rfl, Nq3, e3⟩ := hQ3
  have N3 := Fr.app N1 Nq3
  have g4 : ∀ t, Steps p.tables e below (T3.setTop (mkF m 15 #[.val (.ref ob0), .val (.int (0 : Int32))] [(.int (99 : Int32))])) t → Steps p.tables e below (s₁.setTop (entryFrame m #[(.ref ob0), (.int (0 : Int32))] 2)) t := by
    intro t k
    refine g0 t ?_
    show Steps p.tables e below (s₁.setTop (mkF m 0 #[.val (.ref ob0), .val (.int (0 : Int32))] [])) _
    refine XS.aloadN X0.here hx rfl (hb hby own_d16_0) rfl rfl ?_
    refine st1.trans ?_
    refine XS.ifNo X1.here hx rfl (hb hby own_d16_4) rfl ((if0 _ _).trans (feq (by decide : ¬ ((1 : Int32) = (0 : Int32)))).1) ?_
    show Steps p.tables e below (T1.setTop (mkF m 7 #[.val (.ref ob0), .val (.int (0 : Int32))] [])) _
    refine XS.aloadN X1.here hx rfl (hb hby own_d16_7) rfl rfl ?_
    refine st2 _ ?_
    refine XS.iloadN X2.here hx rfl (hb hby own_d16_11) rfl ?_
    show Steps p.tables e below (T2.setTop (mkF m 12 #[.val (.ref ob0), .val (.int (0 : Int32))] [(.int (0 : Int32)), (.ref ob0_value)])) _
    refine st3 _ ?_
    exact k
  obtain ⟨fs, hrt, hrun, hended, hW, hsame⟩ := X3.leave (v := some (.int (99 : Int32))) (fun h => by rw [Bd.returns] at h; cases h)
  refine ⟨_, _, g4 _ ?_, hrun, hended, _, _, rfl, ?_, ⟨_, rfl⟩, hW, hsame.mono (by decide) (by decide)⟩
  · show Steps p.tables e below (T3.setTop (mkF m 15 #[.val (.ref ob0), .val (.int (0 : Int32))] [(.int (99 : Int32))])) _
    exact retN X3 hx (t := .char) Bd.returns (by simp) (hb hby own_d16_15) hrt
  · show own_Q_rmA30 Z ob0 ob0_value k_ob0_value cs wf h0 n0 _ T3.heap _
    rw [e3]
    exact ⟨rfl, N3, rfl⟩
theorem own_ef34 (m : MethodId) (x0 : Int32) : entryFrame m #[(.int x0)] 1 = mkF m 0 #[.val (.int x0)] [] := by first | (simp [entryFrame, mkF, argsToLocals, Value.category]; done) | rfl
def own_Q_rmA32 (Z : State)   (cs : Int32) (wf : Value) (h0 : Heap) (n0 : Nat) (v : Option Value) (h : Heap) (L : List Loc) : Prop := v = some (.int (1 : Int32)) ∧ Fr n0 L ∧ h = h0
set_option maxRecDepth 65536 in
set_option maxHeartbeats 40000000 in
theorem rmA32 (l : Launch) (Z : State) (a0 : Array Value) (hw : ∀ d ∈ tables_1, d.before a0 Z = true) (ws : List Jvm.Cond)   (cs : Int32) (wf : Value) (h0 : Heap) (n0 : Nat) (O0 : Old Z n0 h0) (G : own_Gl Z cs wf) :
    MetFree l own_y18 (head1 (Jvm.Cond.code own_y18 prog_30_method_12_code 1 (some .boolean) :: ws) ({ frames := 0, cells := 0, slots := 0, locals := 0 } : Room)) (fun a U => a = #[(.int (99 : Int32))] ∧ Z.Warmed39 U.vm ∧ U.heap = h0) (fun _ _ _ _ _ => True) (fun _ U o U' => ∃ v L, o = .returned v ∧ own_Q_rmA32 Z cs wf h0 n0 v U'.heap L ∧ FrameEnd U o U' L ({ frames := 0, cells := 0, slots := 0, locals := 0 } : Room).cells ({ frames := 0, cells := 0, slots := 0, locals := 0 } : Room).slots) := by
  refine MetFree.of_bodySF (plainFor_of_name own_pn1) hisR ?_
  intro p e s m args below meth c s₁ Bd hml0 hP hK
  obtain ⟨rfl, hZ, hh⟩ := hP
  have hx := Bd.exec
  have hby := Bd.bytes
  have hml : c.maxLocals = 1 := hml0
  have hown : s.vm.findClass "com/example/assemble_quorum/assemblequorum/model/MemberAddress" = some m.cls := findClass_of_methodNamed Bd.named
  have hnm := (name_of_methodNamed Bd.named Bd.method).1
  have X0 : Stand p l e ({ frames := 0, cells := 0, slots := 0, locals := 0 } : Room) s m #[(.int (99 : Int32))] below meth c s₁ [] 0 0 := Stand.of_body Bd
  have e0 : s₁.heap = h0 := by rw [← hh, Bd.state]; rfl
  have N0 := Fr.nil n0
  have Z0 : n0 ≤ h0.size := O0.1 ▸ O0.2.1
  have g0 : ∀ t, Steps p.tables e below (s₁.setTop (mkF m 0 #[.val (.int (99 : Int32))] [])) t → Steps p.tables e below (s₁.setTop (entryFrame m #[(.int (99 : Int32))] 1)) t := fun t k => castTop (own_ef34 m ((99 : Int32))) k
  have G0 := G
  obtain ⟨S_CS, hcs, S_WF, hwf⟩ := G
  have g1 : ∀ t, Steps p.tables e below (s₁.setTop (mkF m 59 #[.val (.int (99 : Int32))] [(.int (1 : Int32))])) t → Steps p.tables e below (s₁.setTop (entryFrame m #[(.int (99 : Int32))] 1)) t := by
    intro t k
    refine g0 t ?_
    show Steps p.tables e below (s₁.setTop (mkF m 0 #[.val (.int (99 : Int32))] [])) _
    refine XS.iloadN X0.here hx rfl (hb hby own_d20_0) rfl ?_
    refine XS.bipush X0.here hx rfl (hb hby own_d20_1) ?_
    refine XS.icmpNo X0.here hx rfl (hb hby own_d20_3) rfl (flt (by decide : ¬ ((99 : Int32) < (97 : Int32)))).1 ?_
    show Steps p.tables e below (s₁.setTop (mkF m 6 #[.val (.int (99 : Int32))] [])) _
    refine XS.iloadN X0.here hx rfl (hb hby own_d20_6) rfl ?_
    refine XS.bipush X0.here hx rfl (hb hby own_d20_7) ?_
    refine XS.icmpYes X0.here hx rfl (pc0 := 9) (pc' := 54) rfl (hb hby own_d20_9) rfl (flt (by decide : ¬ ((122 : Int32) < (99 : Int32)))).2.2.2 (by decide) (by decide) ?_
    show Steps p.tables e below (s₁.setTop (mkF m 54 #[.val (.int (99 : Int32))] [])) _
    refine XS.iconst X0.here hx rfl (hb hby own_d20_54) ?_
    refine XS.goto X0.here hx rfl (pc0 := 55) (pc' := 59) rfl (hb hby own_d20_55) (by decide) (by decide) ?_
    exact k
  obtain ⟨fs, hrt, hrun, hended, hW, hsame⟩ := X0.leave (v := some (.int (1 : Int32))) (fun h => by rw [Bd.returns] at h; cases h)
  refine ⟨_, _, g1 _ ?_, hrun, hended, _, _, rfl, ?_, ⟨_, rfl⟩, hW, hsame.mono (by decide) (by decide)⟩
  · show Steps p.tables e below (s₁.setTop (mkF m 59 #[.val (.int (99 : Int32))] [(.int (1 : Int32))])) _
    exact retN X0 hx (t := .boolean) Bd.returns (by simp) (hb hby own_d20_59) hrt
  · show own_Q_rmA32 Z cs wf h0 n0 _ s₁.heap _
    rw [e0]
    exact ⟨rfl, N0, rfl⟩
def own_Q_rmA21 (Z : State) (ob0 : Addr) (ob0_value : Addr) (k_ob0_value : ClassId)  (cs : Int32) (wf : Value) (h0 : Heap) (n0 : Nat) (v : Option Value) (h : Heap) (L : List Loc) : Prop := v = none ∧ Fr n0 L ∧ h = h0
set_option maxRecDepth 65536 in
set_option maxHeartbeats 40000000 in
theorem rmA21 (l : Launch) (Z : State) (a0 : Array Value) (hw : ∀ d ∈ tables_1, d.before a0 Z = true) (ws : List Jvm.Cond) (ob0 : Addr) (ob0_value : Addr) (k_ob0_value : ClassId)  (cs : Int32) (wf : Value) (h0 : Heap) (n0 : Nat) (O0 : Old Z n0 h0) (G : own_Gl Z cs wf) (E_ob0 : Exa Z h0 ob0 "java/lang/String") (F_ob0_coder : Fld Z h0 ob0 "java/lang/String" "coder" "B" (.int (0 : Int32))) (V_ob0_value : Arv Z h0 ob0_value k_ob0_value .byte (1 : Int32) [(.int (99 : Int32))] (.int (0 : Int32))) (F_ob0_value : Fld Z h0 ob0 "java/lang/String" "value" "[B" (.ref ob0_value)) :
    MetFree l own_y2 (head1 (Jvm.Cond.code own_y2 prog_30_method_9_code 5 none :: ws) ({ frames := 4, cells := 0, slots := 0, locals := 59 } : Room)) (fun a U => a = #[(.ref ob0)] ∧ Z.Warmed39 U.vm ∧ U.heap = h0) (fun _ _ _ _ _ => True) (fun _ U o U' => ∃ v L, o = .returned v ∧ own_Q_rmA21 Z ob0 ob0_value k_ob0_value cs wf h0 n0 v U'.heap L ∧ FrameEnd U o U' L ({ frames := 4, cells := 0, slots := 0, locals := 59 } : Room).cells ({ frames := 4, cells := 0, slots := 0, locals := 59 } : Room).slots) := by
  refine MetFree.of_bodySF (plainFor_of_name own_pn1) hisR ?_
  intro p e s m args below meth c s₁ Bd hml0 hP hK
  obtain ⟨rfl, hZ, hh⟩ := hP
  have hx := Bd.exec
  have hby := Bd.bytes
  have hml : c.maxLocals = 5 := hml0
  have hown : s.vm.findClass "com/example/assemble_quorum/assemblequorum/model/MemberAddress" = some m.cls := findClass_of_methodNamed Bd.named
  have hnm := (name_of_methodNamed Bd.named Bd.method).1
  have X0 : Stand p l e ({ frames := 4, cells := 0, slots := 0, locals := 59 } : Room) s m #[(.ref ob0)] below meth c s₁ [] 0 0 := Stand.of_body Bd
  have e0 : s₁.heap = h0 := by rw [← hh, Bd.state]; rfl
  have N0 := Fr.nil n0
  have Z0 : n0 ≤ h0.size := O0.1 ▸ O0.2.1
  have g0 : ∀ t, Steps p.tables e below (s₁.setTop (mkF m 0 #[.val (.ref ob0), .unset, .unset, .unset, .unset] [])) t → Steps p.tables e below (s₁.setTop (entryFrame m #[(.ref ob0)] 5)) t := fun t k => castTop (own_ef23 m (ob0)) k
  have G0 := G
  obtain ⟨S_CS, hcs, S_WF, hwf⟩ := G
  obtain ⟨cq1, kq1, q1a, q1b, q1c⟩ := isOf hZ e0 E_ob0
  obtain ⟨_, _, ⟨T1, L1, k1, n1⟩, -, X1, ⟨Lc1, hQ1, l1, y1, z1⟩, st1⟩ := X0.virtualBack hx (y := own_y3) (z := own_y3) hown (mvT hZ (own_w hw 28 rfl)) (mvT hZ (own_w hw 29 rfl)) (notFace_of_selects (args := #[]) (mvT hZ (own_w hw 31 rfl))) (mvT hZ (own_w hw 31 rfl)) (mvT hZ (own_w hw 30 rfl)) (by decide) (backOf (W := 0) (rmA22 l Z a0 hw [] ob0 ob0_value k_ob0_value  cs wf h0 n0 O0 G0 E_ob0 F_ob0_coder V_ob0_value F_ob0_value  ) hZ (own_w hw 32 rfl) (own_w hw 7 rfl) (by decide) (by decide)) q1a q1c (g := (mkF m 1 #[.val (.ref ob0), .unset, .unset, .unset, .unset] [(.ref ob0)])) rfl (by rw [hml]; rfl) (Steps.refl _) (argsL := []) (rest := []) (lenOf own_pd1 rfl) rfl (by show 2 * 0 + _ ≤ _; exact Nat.le_of_eq rfl) (hb hby own_d4_1) (fun _ _ => ⟨rfl, e0, (by decide : 0 + 0 ≤ _), (by decide : 0 + 0 ≤ _)⟩)
  dsimp only [Pt.U, Pt.locs, Pt.cells, Pt.slots] at X1 l1 y1 z1 st1 hQ1
  subst l1 y1 z1
  obtain ⟨rfl, Nq1, e1⟩ := hQ1
  have N1 := Fr.app N0 Nq1
  obtain ⟨cq2, kq2, q2a, q2b, q2c⟩ := isOf hZ e1 E_ob0
  obtain ⟨_, _, ⟨T2, L2, k2, n2⟩, -, X2, ⟨Lc2, hQ2, l2, y2, z2⟩, st2⟩ := X1.virtualBack hx (y := own_y4) (z := own_y4) hown (mvT hZ (own_w hw 34 rfl)) (mvT hZ (own_w hw 35 rfl)) (notFace_of_selects (args := #[]) (mvT hZ (own_w hw 37 rfl))) (mvT hZ (own_w hw 37 rfl)) (mvT hZ (own_w hw 36 rfl)) (by decide) (backOf (W := 0) (rmA23 l Z a0 hw [] ob0 ob0_value k_ob0_value  cs wf h0 n0 O0 G0 E_ob0 F_ob0_coder V_ob0_value F_ob0_value  ) hZ (own_w hw 38 rfl) (own_w hw 7 rfl) (by decide) (by decide)) q2a q2c (g := (mkF m 18 #[.val (.ref ob0), .unset, .unset, .unset, .unset] [(.ref ob0)])) rfl (by rw [hml]; rfl) (Steps.refl _) (argsL := []) (rest := []) (lenOf own_pd3 rfl) rfl (by show 2 * 0 + _ ≤ _; exact Nat.le_of_eq rfl) (hb hby own_d4_18) (fun _ _ => ⟨rfl, e1, (by decide : 0 + 0 ≤ _), (by decide : 0 + 0 ≤ _)⟩)
  dsimp only [Pt.U, Pt.locs, Pt.cells, Pt.slots] at X2 l2 y2 z2 st2 hQ2
  subst l2 y2 z2
  obtain ⟨rfl, Nq2, e2⟩ := hQ2
  have N2 := Fr.app N1 Nq2
  obtain ⟨cq3, kq3, q3a, q3b, q3c⟩ := isOf hZ e2 E_ob0
  obtain ⟨_, _, ⟨T3, L3, k3, n3⟩, -, X3, ⟨Lc3, hQ3, l3, y3, z3⟩, st3⟩ := X2.virtualBack hx (y := own_y6) (z := own_y6) hown (mvT hZ (own_w hw 46 rfl)) (mvT hZ (own_w hw 47 rfl)) (notFace_of_selects (args := #[]) (mvT hZ (own_w hw 49 rfl))) (mvT hZ (own_w hw 49 rfl)) (mvT hZ (own_w hw 48 rfl)) (by decide) (backOf (W := 0) (rmA25 l Z a0 hw [] ob0 ob0_value k_ob0_value  cs wf h0 n0 O0 G0 E_ob0 F_ob0_coder V_ob0_value F_ob0_value  ) hZ (own_w hw 50 rfl) (own_w hw 7 rfl) (by decide) (by decide)) q3a q3c (g := (mkF m 40 #[.val (.ref ob0), .unset, .unset, .unset, .unset] [(.int (58 : Int32)), (.ref ob0)])) rfl (by rw [hml]; rfl) (Steps.refl _) (argsL := [(.int (58 : Int32))]) (rest := []) (lenOf own_pd7 rfl) rfl (by show 2 * 0 + _ ≤ _; exact Nat.le_of_eq rfl) (hb hby own_d4_40) (fun _ _ => ⟨rfl, e2, (by decide : 0 + 0 ≤ _), (by decide : 0 + 0 ≤ _)⟩)
  dsimp only [Pt.U, Pt.locs, Pt.cells, Pt.slots] at X3 l3 y3 z3 st3 hQ3
  subst l3 y3 z3
  obtain ⟨rfl, Nq3, e3⟩ := hQ3
  have N3 := Fr.app N2 Nq3
  obtain ⟨LL4, XL4, NL4⟩ : ∃ LL : List Loc, Stand p l e ({ frames := 4, cells := 0, slots := 0, locals := 59 } : Room) s m #[(.ref ob0)] below meth c T3 LL 0 0 ∧ Fr n0 LL := ⟨_, X3, N3⟩
  obtain ⟨cq5, kq5, q5a, q5b, q5c⟩ := isOf hZ e3 E_ob0
  obtain ⟨_, _, ⟨T5, L5, k5, n5⟩, -, X5, ⟨Lc5, hQ5, l5, y5, z5⟩, st5⟩ := XL4.virtualBack hx (y := own_y4) (z := own_y4) hown (mvT hZ (own_w hw 34 rfl)) (mvT hZ (own_w hw 35 rfl)) (notFace_of_selects (args := #[]) (mvT hZ (own_w hw 37 rfl))) (mvT hZ (own_w hw 37 rfl)) (mvT hZ (own_w hw 36 rfl)) (by decide) (backOf (W := 1) (rmA23 l Z a0 hw [] ob0 ob0_value k_ob0_value  cs wf h0 n0 O0 G0 E_ob0 F_ob0_coder V_ob0_value F_ob0_value  ) hZ (own_w hw 38 rfl) (own_w hw 7 rfl) (by decide) (by decide)) q5a q5c (g := (mkF m 56 #[.val (.ref ob0), .val (.int (0 : Int32)), .val (.int (0 : Int32)), .unset, .unset] [(.ref ob0), (.int (0 : Int32))])) rfl (by rw [hml]; rfl) (Steps.refl _) (argsL := []) (rest := [(.int (0 : Int32))]) (lenOf own_pd3 rfl) rfl (by show 2 * 0 + _ ≤ _; exact Nat.le_of_eq rfl) (hb hby own_d4_56) (fun _ _ => ⟨rfl, e3, (by decide : 0 + 0 ≤ _), (by decide : 0 + 0 ≤ _)⟩)
  dsimp only [Pt.U, Pt.locs, Pt.cells, Pt.slots] at X5 l5 y5 z5 st5 hQ5
  subst l5 y5 z5
  obtain ⟨rfl, Nq5, e5⟩ := hQ5
  have N5 := Fr.app NL4 Nq5
  obtain ⟨cq6, kq6, q6a, q6b, q6c⟩ := isOf hZ e5 E_ob0
  obtain ⟨_, _, ⟨T6, L6, k6, n6⟩, -, X6, ⟨Lc6, hQ6, l6, y6, z6⟩, st6⟩ := X5.virtualBack hx (y := own_y14) (z := own_y14) hown (mvT hZ (own_w hw 79 rfl)) (mvT hZ (own_w hw 80 rfl)) (notFace_of_selects (args := #[]) (mvT hZ (own_w hw 82 rfl))) (mvT hZ (own_w hw 82 rfl)) (mvT hZ (own_w hw 81 rfl)) (by decide) (backOf (W := 0) (rmA30 l Z a0 hw [] ob0 ob0_value k_ob0_value  cs wf h0 n0 O0 G0 E_ob0 F_ob0_coder V_ob0_value F_ob0_value  ) hZ (own_w hw 83 rfl) (own_w hw 7 rfl) (by decide) (by decide)) q6a q6c (g := (mkF m 64 #[.val (.ref ob0), .val (.int (0 : Int32)), .val (.int (0 : Int32)), .unset, .unset] [(.int (0 : Int32)), (.ref ob0)])) rfl (by rw [hml]; rfl) (Steps.refl _) (argsL := [(.int (0 : Int32))]) (rest := []) (lenOf own_pd11 rfl) rfl (by show 2 * 0 + _ ≤ _; exact Nat.le_of_eq rfl) (hb hby own_d4_64) (fun _ _ => ⟨rfl, e5, (by decide : 0 + 0 ≤ _), (by decide : 0 + 0 ≤ _)⟩)
  dsimp only [Pt.U, Pt.locs, Pt.cells, Pt.slots] at X6 l6 y6 z6 st6 hQ6
  subst l6 y6 z6
  obtain ⟨rfl, Nq6, e6⟩ := hQ6
  have N6 := Fr.app N5 Nq6
  obtain ⟨_, _, ⟨T7, L7, k7, n7⟩, -, X7, ⟨Lc7, hQ7, l7, y7, z7⟩, st7⟩ := Jvm.LawKit.callS X6 hx (y := own_y18) hown (mvT hZ (own_w hw 95 rfl)) (mvT hZ (own_w hw 96 rfl)) (mvT hZ (own_w hw 5 rfl)) (mvT hZ (own_w hw 97 rfl)) (by decide) (backOf (W := 0) (rmA32 l Z a0 hw []   cs wf h0 n0 O0 G0   ) hZ (own_w hw 97 rfl) (own_w hw 5 rfl) (by decide) (by decide)) (g := (mkF m 100 #[.val (.ref ob0), .val (.int (0 : Int32)), .val (.int (0 : Int32)), .val (.int (99 : Int32)), .unset] [(.int (99 : Int32))])) rfl (by rw [hml]; rfl) (argsL := [(.int (99 : Int32))]) (rest := []) (lenOf own_pd12 rfl) rfl (by show 2 * 0 + _ ≤ _; exact Nat.le_of_eq rfl) (hb hby own_d4_100) (fun _ _ => ⟨rfl, e6, (by decide : 0 + 0 ≤ _), (by decide : 0 + 0 ≤ _)⟩)
  dsimp only [Pt.U, Pt.locs, Pt.cells, Pt.slots] at X7 l7 y7 z7 st7 hQ7
  subst l7 y7 z7
  obtain ⟨rfl, Nq7, e7⟩ := hQ7
  have N7 := Fr.app N6 Nq7
  obtain ⟨cq8, kq8, q8a, q8b, q8c⟩ := isOf hZ e7 E_ob0
  obtain ⟨_, _, ⟨T8, L8, k8, n8⟩, -, X8, ⟨Lc8, hQ8, l8, y8, z8⟩, st8⟩ := X7.virtualBack hx (y := own_y4) (z := own_y4) hown (mvT hZ (own_w hw 34 rfl)) (mvT hZ (own_w hw 35 rfl)) (notFace_of_selects (args := #[]) (mvT hZ (own_w hw 37 rfl))) (mvT hZ (own_w hw 37 rfl)) (mvT hZ (own_w hw 36 rfl)) (by decide) (backOf (W := 1) (rmA23 l Z a0 hw [] ob0 ob0_value k_ob0_value  cs wf h0 n0 O0 G0 E_ob0 F_ob0_coder V_ob0_value F_ob0_value  ) hZ (own_w hw 38 rfl) (own_w hw 7 rfl) (by decide) (by decide)) q8a q8c (g := (mkF m 56 #[.val (.ref ob0), .val (.int (0 : Int32)), .val (.int (1 : Int32)), .val (.int (99 : Int32)), .val (.int (1 : Int32))] [(.ref ob0), (.int (1 : Int32))])) rfl (by rw [hml]; rfl) (Steps.refl _) (argsL := []) (rest := [(.int (1 : Int32))]) (lenOf own_pd3 rfl) rfl (by show 2 * 0 + _ ≤ _; exact Nat.le_of_eq rfl) (hb hby own_d4_56) (fun _ _ => ⟨rfl, e7, (by decide : 0 + 0 ≤ _), (by decide : 0 + 0 ≤ _)⟩)
  dsimp only [Pt.U, Pt.locs, Pt.cells, Pt.slots] at X8 l8 y8 z8 st8 hQ8
  subst l8 y8 z8
  obtain ⟨rfl, Nq8, e8⟩ := hQ8
  have N8 := Fr.app N7 Nq8
  have g9 : ∀ t, Steps p.tables e below (T8.setTop (mkF m 135 #[.val (.ref ob0), .val (.int (0 : Int32)), .val (.int (1 : Int32)), .val (.int (99 : Int32)), .val (.int (1 : Int32))] [])) t → Steps p.tables e below (s₁.setTop (entryFrame m #[(.ref ob0)] 5)) t := by
    intro t k
    refine g0 t ?_
    show Steps p.tables e below (s₁.setTop (mkF m 0 #[.val (.ref ob0), .unset, .unset, .unset, .unset] [])) _
    refine XS.aloadN X0.here hx rfl (hb hby own_d4_0) rfl rfl ?_
    refine st1.trans ?_
    refine XS.ifYes X1.here hx rfl (pc0 := 4) (pc' := 17) rfl (hb hby own_d4_4) rfl ((if0 _ _).trans (teq (by decide : (0 : Int32) = (0 : Int32))).1) (by decide) (by decide) ?_
    show Steps p.tables e below (T1.setTop (mkF m 17 #[.val (.ref ob0), .unset, .unset, .unset, .unset] [])) _
    refine XS.aloadN X1.here hx rfl (hb hby own_d4_17) rfl rfl ?_
    refine st2.trans ?_
    refine XS.sipush X2.here hx rfl (hb hby own_d4_21) ?_
    show Steps p.tables e below (T2.setTop (mkF m 24 #[.val (.ref ob0), .unset, .unset, .unset, .unset] [(.int (253 : Int32)), (.int (1 : Int32))])) _
    refine XS.icmpYes X2.here hx rfl (pc0 := 24) (pc' := 37) rfl (hb hby own_d4_24) rfl (flt (by decide : ¬ ((253 : Int32) < (1 : Int32)))).2.2.2 (by decide) (by decide) ?_
    refine XS.aloadN X2.here hx rfl (hb hby own_d4_37) rfl rfl ?_
    refine XS.bipush X2.here hx rfl (hb hby own_d4_38) ?_
    show Steps p.tables e below (T2.setTop (mkF m 40 #[.val (.ref ob0), .unset, .unset, .unset, .unset] [(.int (58 : Int32)), (.ref ob0)])) _
    refine st3.trans ?_
    refine XS.ifYes X3.here hx rfl (pc0 := 43) (pc' := 50) rfl (hb hby own_d4_43) rfl ((if0 _ _).trans (tlt (by decide : (-1 : Int32) < (0 : Int32))).1) (by decide) (by decide) ?_
    refine XS.iconst X3.here hx rfl (hb hby own_d4_50) ?_
    show Steps p.tables e below (T3.setTop (mkF m 51 #[.val (.ref ob0), .unset, .unset, .unset, .unset] [(.int (0 : Int32))])) _
    refine XS.istoreN X3.here hx rfl (hb hby own_d4_51) rfl (l' := #[.val (.ref ob0), .val (.int (0 : Int32)), .unset, .unset, .unset]) rfl ?_
    refine XS.iconst X3.here hx rfl (hb hby own_d4_52) ?_
    refine XS.istoreN X3.here hx rfl (hb hby own_d4_53) rfl (l' := #[.val (.ref ob0), .val (.int (0 : Int32)), .val (.int (0 : Int32)), .unset, .unset]) rfl ?_
    show Steps p.tables e below (T3.setTop (mkF m 54 #[.val (.ref ob0), .val (.int (0 : Int32)), .val (.int (0 : Int32)), .unset, .unset] [])) _
    refine XS.iloadN X3.here hx rfl (hb hby own_d4_54) rfl ?_
    refine XS.aloadN X3.here hx rfl (hb hby own_d4_55) rfl rfl ?_
    refine st5.trans ?_
    show Steps p.tables e below (T5.setTop (mkF m 59 #[.val (.ref ob0), .val (.int (0 : Int32)), .val (.int (0 : Int32)), .unset, .unset] [(.int (1 : Int32)), (.int (0 : Int32))])) _
    refine XS.icmpNo X5.here hx rfl (hb hby own_d4_59) rfl (tlt (by decide : (0 : Int32) < (1 : Int32))).2.1 ?_
    refine XS.aloadN X5.here hx rfl (hb hby own_d4_62) rfl rfl ?_
    refine XS.iloadN X5.here hx rfl (hb hby own_d4_63) rfl ?_
    show Steps p.tables e below (T5.setTop (mkF m 64 #[.val (.ref ob0), .val (.int (0 : Int32)), .val (.int (0 : Int32)), .unset, .unset] [(.int (0 : Int32)), (.ref ob0)])) _
    refine st6.trans ?_
    refine XS.istoreN X6.here hx rfl (hb hby own_d4_67) rfl (l' := #[.val (.ref ob0), .val (.int (0 : Int32)), .val (.int (0 : Int32)), .val (.int (99 : Int32)), .unset]) rfl ?_
    refine XS.iloadN X6.here hx rfl (hb hby own_d4_68) rfl ?_
    show Steps p.tables e below (T6.setTop (mkF m 69 #[.val (.ref ob0), .val (.int (0 : Int32)), .val (.int (0 : Int32)), .val (.int (99 : Int32)), .unset] [(.int (0 : Int32))])) _
    refine XS.ifYes X6.here hx rfl (pc0 := 69) (pc' := 99) rfl (hb hby own_d4_69) rfl ((if0 _ _).trans (teq (by decide : (0 : Int32) = (0 : Int32))).1) (by decide) (by decide) ?_
    refine XS.iloadN X6.here hx rfl (hb hby own_d4_99) rfl ?_
    refine st7 _ ?_
    show Steps p.tables e below (T7.setTop (mkF m 103 #[.val (.ref ob0), .val (.int (0 : Int32)), .val (.int (0 : Int32)), .val (.int (99 : Int32)), .unset] [(.int (1 : Int32))])) _
    refine XS.istore X7.here hx rfl (hb hby own_d4_103) rfl (l' := #[.val (.ref ob0), .val (.int (0 : Int32)), .val (.int (0 : Int32)), .val (.int (99 : Int32)), .val (.int (1 : Int32))]) rfl ?_
    refine XS.iload X7.here hx rfl (hb hby own_d4_105) rfl ?_
    refine XS.ifYes X7.here hx rfl (pc0 := 107) (pc' := 129) rfl (hb hby own_d4_107) rfl ((if0 _ _).trans (feq (by decide : ¬ ((1 : Int32) = (0 : Int32)))).2) (by decide) (by decide) ?_
    show Steps p.tables e below (T7.setTop (mkF m 129 #[.val (.ref ob0), .val (.int (0 : Int32)), .val (.int (0 : Int32)), .val (.int (99 : Int32)), .val (.int (1 : Int32))] [])) _
    refine XS.iinc X7.here hx rfl (hb hby own_d4_129) rfl (l' := #[.val (.ref ob0), .val (.int (0 : Int32)), .val (.int ((0 : Int32) + (1 : Int32))), .val (.int (99 : Int32)), .val (.int (1 : Int32))]) rfl ?_
    rw [show ((0 : Int32) + (1 : Int32)) = (1 : Int32) from by decide]
    refine XS.goto X7.here hx rfl (pc0 := 132) (pc' := 54) rfl (hb hby own_d4_132) (by decide) (by decide) ?_
    refine XS.iloadN X7.here hx rfl (hb hby own_d4_54) rfl ?_
    show Steps p.tables e below (T7.setTop (mkF m 55 #[.val (.ref ob0), .val (.int (0 : Int32)), .val (.int (1 : Int32)), .val (.int (99 : Int32)), .val (.int (1 : Int32))] [(.int (1 : Int32))])) _
    refine XS.aloadN X7.here hx rfl (hb hby own_d4_55) rfl rfl ?_
    refine st8.trans ?_
    refine XS.icmpYes X8.here hx rfl (pc0 := 59) (pc' := 135) rfl (hb hby own_d4_59) rfl (flt (by decide : ¬ ((1 : Int32) < (1 : Int32)))).2.1 (by decide) (by decide) ?_
    exact k
  obtain ⟨fs, hrt, hrun, hended, hW, hsame⟩ := X8.leave (v := none) (fun _ => rfl)
  refine ⟨_, _, g9 _ ?_, hrun, hended, _, _, rfl, ?_, ⟨_, rfl⟩, hW, hsame.mono (by decide) (by decide)⟩
  · show Steps p.tables e below (T8.setTop (mkF m 135 #[.val (.ref ob0), .val (.int (0 : Int32)), .val (.int (1 : Int32)), .val (.int (99 : Int32)), .val (.int (1 : Int32))] [])) _
    exact X8.returnOut hx Bd.returns (hb hby own_d4_135) hrt
  · show own_Q_rmA21 Z ob0 ob0_value k_ob0_value cs wf h0 n0 _ T8.heap _
    rw [e8]
    exact ⟨rfl, N8, rfl⟩
def own_Q_rmA20 (Z : State) (ob0 : Addr) (ob1 : Addr) (ob1_value : Addr) (k_ob1_value : ClassId) (p2 : Int32)  (cs : Int32) (wf : Value) (h0 : Heap) (n0 : Nat) (v : Option Value) (h : Heap) (L : List Loc) : Prop := v = none ∧ Fr n0 L ∧ Keep h0 h [ob0] ∧ Exa Z h ob0 "com/example/assemble_quorum/assemblequorum/model/MemberAddress" ∧ Fld Z h ob0 "com/example/assemble_quorum/assemblequorum/model/MemberAddress" "host" "Ljava/lang/String;" (.ref ob1) ∧ Fld Z h ob0 "com/example/assemble_quorum/assemblequorum/model/MemberAddress" "port" "I" (.int p2)
set_option maxRecDepth 65536 in
set_option maxHeartbeats 40000000 in
theorem rmA20 (l : Launch) (Z : State) (a0 : Array Value) (hw : ∀ d ∈ tables_1, d.before a0 Z = true) (ws : List Jvm.Cond) (ob0 : Addr) (ob1 : Addr) (ob1_value : Addr) (k_ob1_value : ClassId) (p2 : Int32)  (cs : Int32) (wf : Value) (h0 : Heap) (n0 : Nat) (O0 : Old Z n0 h0) (G : own_Gl Z cs wf) (E_ob0 : Exa Z h0 ob0 "com/example/assemble_quorum/assemblequorum/model/MemberAddress") (F_ob0_host : Fld Z h0 ob0 "com/example/assemble_quorum/assemblequorum/model/MemberAddress" "host" "Ljava/lang/String;" .null) (F_ob0_port : Fld Z h0 ob0 "com/example/assemble_quorum/assemblequorum/model/MemberAddress" "port" "I" (.int (0 : Int32))) (E_ob1 : Exa Z h0 ob1 "java/lang/String") (F_ob1_coder : Fld Z h0 ob1 "java/lang/String" "coder" "B" (.int (0 : Int32))) (V_ob1_value : Arv Z h0 ob1_value k_ob1_value .byte (1 : Int32) [(.int (99 : Int32))] (.int (0 : Int32))) (F_ob1_value : Fld Z h0 ob1 "java/lang/String" "value" "[B" (.ref ob1_value)) (gz_ob0 : n0 ≤ ob0) (hp1 : ¬ p2 < (1 : Int32)) (hp2 : ¬ (65535 : Int32) < p2) :
    MetFree l own_y0 (head1 (Jvm.Cond.code own_y0 prog_30_method_1_code 3 none :: ws) ({ frames := 5, cells := 2, slots := 20, locals := 75 } : Room)) (fun a U => a = #[(.ref ob0), (.ref ob1), (.int p2)] ∧ Z.Warmed39 U.vm ∧ U.heap = h0 ∧ CHv Z own_EL U.vm h0) (fun _ _ _ _ _ => True) (fun _ U o U' => ∃ v L, o = .returned v ∧ own_Q_rmA20 Z ob0 ob1 ob1_value k_ob1_value p2 cs wf h0 n0 v U'.heap L ∧ CHr Z own_EL U.vm U.heap U'.vm U'.heap ∧ ReturnedEndW U o U' L ({ frames := 5, cells := 2, slots := 20, locals := 75 } : Room).cells ({ frames := 5, cells := 2, slots := 20, locals := 75 } : Room).slots) := by
  refine MetFree.of_bodySF (plainFor_of_name own_pn1) hisR ?_
  intro p e s m args below meth c s₁ Bd hml0 hP hK
  obtain ⟨rfl, hZ, hh, hCH⟩ := hP
  have hx := Bd.exec
  have hby := Bd.bytes
  have hml : c.maxLocals = 3 := hml0
  have hown : s.vm.findClass "com/example/assemble_quorum/assemblequorum/model/MemberAddress" = some m.cls := findClass_of_methodNamed Bd.named
  have hnm := (name_of_methodNamed Bd.named Bd.method).1
  have X0 : Stand p l e ({ frames := 5, cells := 2, slots := 20, locals := 75 } : Room) (s.setVm s.vm) m #[(.ref ob0), (.ref ob1), (.int p2)] below meth c s₁ [] 0 0 := Stand.of_body Bd
  have e0 : s₁.heap = h0 := by rw [← hh, Bd.state]; rfl
  have N0 := Fr.nil n0
  have Z0 : n0 ≤ h0.size := O0.1 ▸ O0.2.1
  have g0 : ∀ t, Steps p.tables e below (s₁.setTop (mkF m 0 #[.val (.ref ob0), .val (.ref ob1), .val (.int p2)] [])) t → Steps p.tables e below (s₁.setTop (entryFrame m #[(.ref ob0), (.ref ob1), (.int p2)] 3)) t := fun t k => castTop (own_ef22 m (ob0) (ob1) (p2)) k
  have hC := CHr.refl hCH
  have hS : s.Since s.vm h0.size := (State.WarmedH.refl s).since _
  have hk := Nat.le_refl h0.size
  have G0 := G
  obtain ⟨S_CS, hcs, S_WF, hwf⟩ := G
  obtain ⟨T1, X1, e1, st1⟩ := initO X0 hx hZ hown (own_w hw 17 rfl) (own_w hw 18 rfl) (own_w hw 19 rfl) e0 (g := (mkF m 1 #[.val (.ref ob0), .val (.ref ob1), .val (.int p2)] [(.ref ob0)])) rfl (by rw [hml]; rfl) rfl (hb hby own_d1_1) (by decide) (W := 0) (by show 2 * 0 + _ ≤ _; exact Nat.le_of_eq rfl) (by decide)
  obtain ⟨a2, T2, h2, k2, X2, e2, E2, hS, hk, hZ, hown, C2, -, st2⟩ := ldcOH (s := s) (vm0 := s.vm) X1 hx hZ hown (own_w hw 20 rfl) (own_wS hw) e1 hS hk (own_EW hw) hC.1 (g := (mkF m 5 #[.val (.ref ob0), .val (.ref ob1), .val (.int p2)] [(.ref ob1)])) rfl (hb hby own_d1_5) (n := 16) (by decide) (by decide) (by decide) (by decide)
  have hC := hC.trans C2
  have o3 : Old Z n0 h2 := (Old.ext O0 E2)
  obtain ⟨_, _, ⟨T4, L4, k4, n4⟩, -, X4, ⟨Lc4, hQ4, l4, y4, z4⟩, st4⟩ := Jvm.LawKit.callS X2 hx (y := own_y1) hown (mvT hZ (own_w hw 21 rfl)) (mvT hZ (own_w hw 22 rfl)) (mvT hZ (own_w hw 23 rfl)) (mvT hZ (own_w hw 24 rfl)) (by decide) (backOf (W := 0) (rmA1 l Z a0 hw [] ob1 a2  cs wf h2 n0 o3 G0   ) hZ (own_w hw 24 rfl) (own_w hw 23 rfl) (by decide) (by decide)) (g := (mkF m 7 #[.val (.ref ob0), .val (.ref ob1), .val (.int p2)] [(.ref a2), (.ref ob1)])) rfl (by rw [hml]; rfl) (argsL := [(.ref ob1), (.ref a2)]) (rest := []) (lenOf own_pd0 rfl) rfl (by show 2 * 0 + _ ≤ _; exact Nat.le_of_eq rfl) (hb hby own_d1_7) (fun _ _ => ⟨rfl, e2, (by decide : 2 + 0 ≤ _), (by decide : 20 + 0 ≤ _)⟩)
  dsimp only [Pt.U, Pt.locs, Pt.cells, Pt.slots] at X4 l4 y4 z4 st4 hQ4
  subst l4 y4 z4
  obtain ⟨rfl, Nq4, e4⟩ := hQ4
  have N4 := Fr.app N0 Nq4
  have f5 := (E_ob1.ext E2)
  have f6 := (F_ob1_coder.ext E2)
  have f7 := (V_ob1_value.ext E2)
  have f8 := (F_ob1_value.ext E2)
  obtain ⟨_, _, ⟨T9, L9, k9, n9⟩, -, X9, ⟨Lc9, hQ9, l9, y9, z9⟩, st9⟩ := Jvm.LawKit.callS X4 hx (y := own_y2) hown (mvT hZ (own_w hw 25 rfl)) (mvT hZ (own_w hw 26 rfl)) (mvT hZ (own_w hw 5 rfl)) (mvT hZ (own_w hw 27 rfl)) (by decide) (backOf (W := 0) (rmA21 l Z a0 hw [] ob1 ob1_value k_ob1_value  cs wf h2 n0 o3 G0 f5 f6 f7 f8  ) hZ (own_w hw 27 rfl) (own_w hw 5 rfl) (by decide) (by decide)) (g := (mkF m 12 #[.val (.ref ob0), .val (.ref ob1), .val (.int p2)] [(.ref ob1)])) rfl (by rw [hml]; rfl) (argsL := [(.ref ob1)]) (rest := []) (lenOf own_pd13 rfl) rfl (by show 2 * 0 + _ ≤ _; exact Nat.le_of_eq rfl) (hb hby own_d1_12) (fun _ _ => ⟨rfl, e4, (by decide : 2 + 0 ≤ _), (by decide : 20 + 0 ≤ _)⟩)
  dsimp only [Pt.U, Pt.locs, Pt.cells, Pt.slots] at X9 l9 y9 z9 st9 hQ9
  subst l9 y9 z9
  obtain ⟨rfl, Nq9, e9⟩ := hQ9
  have N9 := Fr.app N4 Nq9
  have hc10 : ¬ (p2 < (1 : Int32)) := hp1
  have hc11 : ¬ ((65535 : Int32) < p2) := hp2
  have f12 := (E_ob0.ext E2)
  have f13 := (F_ob0_host.ext E2)
  obtain ⟨T14, h14, X14, e14, W14, st14⟩ := putF X9 hx hZ hown (host := "") (Or.inl (own_w hw 99 rfl)) Via.refl e9 f13 f12 (Or.inr ⟨(own_w hw 100 rfl), rfl, hnm⟩) (own_w hw 4 rfl) (ty := (.object "java/lang/String")) (by decide) rfl rfl (g := (mkF m 38 #[.val (.ref ob0), .val (.ref ob1), .val (.int p2)] [(.ref ob1), (.ref ob0)])) rfl rfl (hb hby own_d1_38)
  have hC := hC.trans (CHr.wr W14 (Safe.exa hZ.alike f12 (by decide) (by decide)) hC.1)
  have hk := Nat.le_trans hk (Keep.of_wr W14).1
  have Fw14 := f13.same W14
  have N14 := Fr.snoc X14 N9 gz_ob0
  have f15 := (f12.wr W14)
  have f16 := ((F_ob0_port.ext E2).other W14 (Or.inr (slot_ne (own_la0 hw) (own_la1 hw) (by decide) own_ty0 own_ty1)))
  obtain ⟨T17, h17, X17, e17, W17, st17⟩ := putF X14 hx hZ hown (host := "") (Or.inl (own_w hw 101 rfl)) Via.refl e14 f16 f15 (Or.inr ⟨(own_w hw 102 rfl), rfl, hnm⟩) (own_w hw 4 rfl) (ty := .int) (by decide) rfl rfl (g := (mkF m 43 #[.val (.ref ob0), .val (.ref ob1), .val (.int p2)] [(.int p2), (.ref ob0)])) rfl rfl (hb hby own_d1_43)
  have hC := hC.trans (CHr.wr W17 (Safe.exa hZ.alike f15 (by decide) (by decide)) hC.1)
  have hk := Nat.le_trans hk (Keep.of_wr W17).1
  have Fw17 := f16.same W17
  have N17 := Fr.snoc X17 N14 gz_ob0
  have g18 : ∀ t, Steps p.tables e below (T17.setTop (mkF m 46 #[.val (.ref ob0), .val (.ref ob1), .val (.int p2)] [])) t → Steps p.tables e below (s₁.setTop (entryFrame m #[(.ref ob0), (.ref ob1), (.int p2)] 3)) t := by
    intro t k
    refine g0 t ?_
    show Steps p.tables e below (s₁.setTop (mkF m 0 #[.val (.ref ob0), .val (.ref ob1), .val (.int p2)] [])) _
    refine XS.aloadN X0.here hx rfl (hb hby own_d1_0) rfl rfl ?_
    refine st1 _ ?_
    refine XS.aloadN X1.here hx rfl (hb hby own_d1_4) rfl rfl ?_
    show Steps p.tables e below (T1.setTop (mkF m 5 #[.val (.ref ob0), .val (.ref ob1), .val (.int p2)] [(.ref ob1)])) _
    refine st2 _ ?_
    refine st4 _ ?_
    refine XS.pop X4.here hx rfl (hb hby own_d1_10) rfl rfl ?_
    show Steps p.tables e below (T4.setTop (mkF m 11 #[.val (.ref ob0), .val (.ref ob1), .val (.int p2)] [])) _
    refine XS.aloadN X4.here hx rfl (hb hby own_d1_11) rfl rfl ?_
    refine st9 _ ?_
    refine XS.iloadN X9.here hx rfl (hb hby own_d1_15) rfl ?_
    show Steps p.tables e below (T9.setTop (mkF m 16 #[.val (.ref ob0), .val (.ref ob1), .val (.int p2)] [(.int p2)])) _
    refine XS.iconst X9.here hx rfl (hb hby own_d1_16) ?_
    refine XS.icmpNo X9.here hx rfl (hb hby own_d1_17) rfl (flt hc10).1 ?_
    refine XS.iloadN X9.here hx rfl (hb hby own_d1_20) rfl ?_
    show Steps p.tables e below (T9.setTop (mkF m 21 #[.val (.ref ob0), .val (.ref ob1), .val (.int p2)] [(.int p2)])) _
    refine X9.ldcInt hx hown (mvT hZ (own_w hw 98 rfl)) (g := (mkF m 21 #[.val (.ref ob0), .val (.ref ob1), .val (.int p2)] [(.int p2)])) rfl (hb hby own_d1_21) _ ?_
    refine XS.icmpYes X9.here hx rfl (pc0 := 23) (pc' := 36) rfl (hb hby own_d1_23) rfl (flt hc11).2.2.2 (by decide) (by decide) ?_
    refine XS.aloadN X9.here hx rfl (hb hby own_d1_36) rfl rfl ?_
    show Steps p.tables e below (T9.setTop (mkF m 37 #[.val (.ref ob0), .val (.ref ob1), .val (.int p2)] [(.ref ob0)])) _
    refine XS.aloadN X9.here hx rfl (hb hby own_d1_37) rfl rfl ?_
    refine st14 _ ?_
    refine XS.aloadN X14.here hx rfl (hb hby own_d1_41) rfl rfl ?_
    show Steps p.tables e below (T14.setTop (mkF m 42 #[.val (.ref ob0), .val (.ref ob1), .val (.int p2)] [(.ref ob0)])) _
    refine XS.iloadN X14.here hx rfl (hb hby own_d1_42) rfl ?_
    refine st17 _ ?_
    exact k
  obtain ⟨fs, hrt, hrun, hended, hRW⟩ := X17.leaveW hS (by rw [e17]; exact hk) (v := none) (fun _ => rfl)
  have f19 := (f15.wr W17)
  have f20 := (Fw14.other W17 (Or.inr (slot_ne (own_la1 hw) (own_la0 hw) (by decide) own_ty1 own_ty0)))
  refine ⟨_, _, g18 _ ?_, hrun, hended, _, _, rfl, ?_, ?_, hRW.1, hRW.2.1, hRW.2.2.1, hRW.2.2.2.mono (by decide) (by decide)⟩
  · show Steps p.tables e below (T17.setTop (mkF m 46 #[.val (.ref ob0), .val (.ref ob1), .val (.int p2)] [])) _
    exact X17.returnOut hx Bd.returns (hb hby own_d1_46) hrt
  · show own_Q_rmA20 Z ob0 ob1 ob1_value k_ob1_value p2 cs wf h0 n0 _ T17.heap _
    rw [e17]
    exact ⟨rfl, N17, (Keep.wr (Keep.wr (Keep.ext (Keep.refl h0 [ob0]) E2) W14 (Or.inl (List.mem_of_getElem? (i := 0) rfl))) W17 (Or.inl (List.mem_of_getElem? (i := 0) rfl))), f19, f20, Fw17⟩
  · rw [hh]
    show CHr Z own_EL s.vm h0 T17.vm T17.heap
    rw [e17]
    exact hC.trans (CHv.at X17 hZ (own_EW hw) hC.1)
abbrev own_y19 : MethodName := ⟨"com/example/assemble_quorum/assemblequorum/model/ProposalNumber", "<init>", "(JLcom/example/assemble_quorum/assemblequorum/model/MemberAddress;)V"⟩
theorem own_ef35 (m : MethodId) (x0 : Addr) (x1 : Int64) (x2 : Addr) : entryFrame m #[(.ref x0), (.long x1), (.ref x2)] 4 = mkF m 0 #[.val (.ref x0), .val (.long x1), .second, .val (.ref x2)] [] := by first | (simp [entryFrame, mkF, argsToLocals, Value.category]; done) | rfl
theorem own_pn6 : plainName "com/example/assemble_quorum/assemblequorum/model/ProposalNumber" = true := by first | (simp [plainName, overriddenIn]; done) | decide +kernel
theorem own_d21_0 : decode prog_33_method_1_code 0 = .ok (.aload_n 0, 1) := by decide +kernel
theorem own_d21_1 : decode prog_33_method_1_code 1 = .ok (.invokespecial 1, 3) := by decide +kernel
theorem own_d21_4 : decode prog_33_method_1_code 4 = .ok (.aload_n 3, 1) := by decide +kernel
theorem own_d21_5 : decode prog_33_method_1_code 5 = .ok (.ldc 7, 2) := by decide +kernel
theorem own_d21_7 : decode prog_33_method_1_code 7 = .ok (.invokestatic 9, 3) := by decide +kernel
theorem own_d21_10 : decode prog_33_method_1_code 10 = .ok (.pop, 1) := by decide +kernel
theorem own_d21_11 : decode prog_33_method_1_code 11 = .ok (.lload_n 1, 1) := by decide +kernel
theorem own_d21_12 : decode prog_33_method_1_code 12 = .ok (.lconst 0, 1) := by decide +kernel
theorem own_d21_13 : decode prog_33_method_1_code 13 = .ok (.lcmp, 1) := by decide +kernel
theorem own_d21_14 : decode prog_33_method_1_code 14 = .ok (.ifCond .ge 13, 3) := by decide +kernel
theorem own_d21_27 : decode prog_33_method_1_code 27 = .ok (.aload_n 0, 1) := by decide +kernel
theorem own_d21_28 : decode prog_33_method_1_code 28 = .ok (.lload_n 1, 1) := by decide +kernel
theorem own_d21_29 : decode prog_33_method_1_code 29 = .ok (.putfield 22, 3) := by decide +kernel
theorem own_d21_32 : decode prog_33_method_1_code 32 = .ok (.aload_n 0, 1) := by decide +kernel
theorem own_d21_33 : decode prog_33_method_1_code 33 = .ok (.aload_n 3, 1) := by decide +kernel
theorem own_d21_34 : decode prog_33_method_1_code 34 = .ok (.putfield 28, 3) := by decide +kernel
theorem own_la2 {Z : State} {a0 : Array Value} (hw : ∀ d ∈ tables_1, d.before a0 Z = true) : Laid Z a0 "com/example/assemble_quorum/assemblequorum/model/ProposalNumber" "com/example/assemble_quorum/assemblequorum/model/ProposalNumber" "proposer" "Lcom/example/assemble_quorum/assemblequorum/model/MemberAddress;" := Or.inr (own_w hw 116 rfl)
theorem own_la3 {Z : State} {a0 : Array Value} (hw : ∀ d ∈ tables_1, d.before a0 Z = true) : Laid Z a0 "com/example/assemble_quorum/assemblequorum/model/ProposalNumber" "com/example/assemble_quorum/assemblequorum/model/ProposalNumber" "counter" "J" := Or.inr (own_w hw 114 rfl)
theorem own_ty2 : parseFieldDescriptor "Lcom/example/assemble_quorum/assemblequorum/model/MemberAddress;" = some (.object "com/example/assemble_quorum/assemblequorum/model/MemberAddress") := by decide
theorem own_ty3 : parseFieldDescriptor "J" = some .long := by decide
theorem own_d21_37 : decode prog_33_method_1_code 37 = .ok (.return_, 1) := by decide +kernel
def own_Q_rmA33 (Z : State) (ob0 : Addr) (p1 : Int64) (ob2 : Addr)  (cs : Int32) (wf : Value) (h0 : Heap) (n0 : Nat) (v : Option Value) (h : Heap) (L : List Loc) : Prop := v = none ∧ Fr n0 L ∧ Keep h0 h [ob0] ∧ Exa Z h ob0 "com/example/assemble_quorum/assemblequorum/model/ProposalNumber" ∧ Fld Z h ob0 "com/example/assemble_quorum/assemblequorum/model/ProposalNumber" "counter" "J" (.long p1) ∧ Fld Z h ob0 "com/example/assemble_quorum/assemblequorum/model/ProposalNumber" "proposer" "Lcom/example/assemble_quorum/assemblequorum/model/MemberAddress;" (.ref ob2)
set_option maxRecDepth 65536 in
set_option maxHeartbeats 40000000 in
theorem rmA33 (l : Launch) (Z : State) (a0 : Array Value) (hw : ∀ d ∈ tables_1, d.before a0 Z = true) (ws : List Jvm.Cond) (ob0 : Addr) (p1 : Int64) (ob2 : Addr)  (cs : Int32) (wf : Value) (h0 : Heap) (n0 : Nat) (O0 : Old Z n0 h0) (G : own_Gl Z cs wf) (E_ob0 : Exa Z h0 ob0 "com/example/assemble_quorum/assemblequorum/model/ProposalNumber") (F_ob0_counter : Fld Z h0 ob0 "com/example/assemble_quorum/assemblequorum/model/ProposalNumber" "counter" "J" (.long (0 : Int64))) (F_ob0_proposer : Fld Z h0 ob0 "com/example/assemble_quorum/assemblequorum/model/ProposalNumber" "proposer" "Lcom/example/assemble_quorum/assemblequorum/model/MemberAddress;" .null) (gz_ob0 : n0 ≤ ob0) (hq : ¬ p1 < (0 : Int64)) :
    MetFree l own_y19 (head1 (Jvm.Cond.code own_y19 prog_33_method_1_code 4 none :: ws) ({ frames := 1, cells := 2, slots := 36, locals := 13 } : Room)) (fun a U => a = #[(.ref ob0), (.long p1), (.ref ob2)] ∧ Z.Warmed39 U.vm ∧ U.heap = h0 ∧ CHv Z own_EL U.vm h0) (fun _ _ _ _ _ => True) (fun _ U o U' => ∃ v L, o = .returned v ∧ own_Q_rmA33 Z ob0 p1 ob2 cs wf h0 n0 v U'.heap L ∧ CHr Z own_EL U.vm U.heap U'.vm U'.heap ∧ ReturnedEndW U o U' L ({ frames := 1, cells := 2, slots := 36, locals := 13 } : Room).cells ({ frames := 1, cells := 2, slots := 36, locals := 13 } : Room).slots) := by
  refine MetFree.of_bodySF (plainFor_of_name own_pn6) hisR ?_
  intro p e s m args below meth c s₁ Bd hml0 hP hK
  obtain ⟨rfl, hZ, hh, hCH⟩ := hP
  have hx := Bd.exec
  have hby := Bd.bytes
  have hml : c.maxLocals = 4 := hml0
  have hown : s.vm.findClass "com/example/assemble_quorum/assemblequorum/model/ProposalNumber" = some m.cls := findClass_of_methodNamed Bd.named
  have hnm := (name_of_methodNamed Bd.named Bd.method).1
  have X0 : Stand p l e ({ frames := 1, cells := 2, slots := 36, locals := 13 } : Room) (s.setVm s.vm) m #[(.ref ob0), (.long p1), (.ref ob2)] below meth c s₁ [] 0 0 := Stand.of_body Bd
  have e0 : s₁.heap = h0 := by rw [← hh, Bd.state]; rfl
  have N0 := Fr.nil n0
  have Z0 : n0 ≤ h0.size := O0.1 ▸ O0.2.1
  have g0 : ∀ t, Steps p.tables e below (s₁.setTop (mkF m 0 #[.val (.ref ob0), .val (.long p1), .second, .val (.ref ob2)] [])) t → Steps p.tables e below (s₁.setTop (entryFrame m #[(.ref ob0), (.long p1), (.ref ob2)] 4)) t := fun t k => castTop (own_ef35 m (ob0) (p1) (ob2)) k
  have hC := CHr.refl hCH
  have hS : s.Since s.vm h0.size := (State.WarmedH.refl s).since _
  have hk := Nat.le_refl h0.size
  have G0 := G
  obtain ⟨S_CS, hcs, S_WF, hwf⟩ := G
  obtain ⟨T1, X1, e1, st1⟩ := initO X0 hx hZ hown (own_w hw 110 rfl) (own_w hw 18 rfl) (own_w hw 19 rfl) e0 (g := (mkF m 1 #[.val (.ref ob0), .val (.long p1), .second, .val (.ref ob2)] [(.ref ob0)])) rfl (by rw [hml]; rfl) rfl (hb hby own_d21_1) (by decide) (W := 0) (by show 2 * 0 + _ ≤ _; exact Nat.le_of_eq rfl) (by decide)
  obtain ⟨a2, T2, h2, k2, X2, e2, E2, hS, hk, hZ, hown, C2, -, st2⟩ := ldcOH (s := s) (vm0 := s.vm) X1 hx hZ hown (own_w hw 111 rfl) (own_wS hw) e1 hS hk (own_EW hw) hC.1 (g := (mkF m 5 #[.val (.ref ob0), .val (.long p1), .second, .val (.ref ob2)] [(.ref ob2)])) rfl (hb hby own_d21_5) (n := 32) (by decide) (by decide) (by decide) (by decide)
  have hC := hC.trans C2
  have o3 : Old Z n0 h2 := (Old.ext O0 E2)
  obtain ⟨_, _, ⟨T4, L4, k4, n4⟩, -, X4, ⟨Lc4, hQ4, l4, y4, z4⟩, st4⟩ := Jvm.LawKit.callS X2 hx (y := own_y1) hown (mvT hZ (own_w hw 112 rfl)) (mvT hZ (own_w hw 22 rfl)) (mvT hZ (own_w hw 23 rfl)) (mvT hZ (own_w hw 24 rfl)) (by decide) (backOf (W := 0) (rmA1 l Z a0 hw [] ob2 a2  cs wf h2 n0 o3 G0   ) hZ (own_w hw 24 rfl) (own_w hw 23 rfl) (by decide) (by decide)) (g := (mkF m 7 #[.val (.ref ob0), .val (.long p1), .second, .val (.ref ob2)] [(.ref a2), (.ref ob2)])) rfl (by rw [hml]; rfl) (argsL := [(.ref ob2), (.ref a2)]) (rest := []) (lenOf own_pd0 rfl) rfl (by show 2 * 0 + _ ≤ _; exact Nat.le_of_eq rfl) (hb hby own_d21_7) (fun _ _ => ⟨rfl, e2, (by decide : 2 + 0 ≤ _), (by decide : 36 + 0 ≤ _)⟩)
  dsimp only [Pt.U, Pt.locs, Pt.cells, Pt.slots] at X4 l4 y4 z4 st4 hQ4
  subst l4 y4 z4
  obtain ⟨rfl, Nq4, e4⟩ := hQ4
  have N4 := Fr.app N0 Nq4
  have hc5 : ¬ (p1 < (0 : Int64)) := hq
  have f6 := (E_ob0.ext E2)
  have f7 := (F_ob0_counter.ext E2)
  obtain ⟨T8, h8, X8, e8, W8, st8⟩ := putF X4 hx hZ hown (host := "") (Or.inl (own_w hw 113 rfl)) Via.refl e4 f7 f6 (Or.inr ⟨(own_w hw 114 rfl), rfl, hnm⟩) (own_w hw 105 rfl) (ty := .long) (by decide) rfl rfl (g := (mkF m 29 #[.val (.ref ob0), .val (.long p1), .second, .val (.ref ob2)] [(.long p1), (.ref ob0)])) rfl rfl (hb hby own_d21_29)
  have hC := hC.trans (CHr.wr W8 (Safe.exa hZ.alike f6 (by decide) (by decide)) hC.1)
  have hk := Nat.le_trans hk (Keep.of_wr W8).1
  have Fw8 := f7.same W8
  have N8 := Fr.snoc X8 N4 gz_ob0
  have f9 := (f6.wr W8)
  have f10 := ((F_ob0_proposer.ext E2).other W8 (Or.inr (slot_ne (own_la2 hw) (own_la3 hw) (by decide) own_ty2 own_ty3)))
  obtain ⟨T11, h11, X11, e11, W11, st11⟩ := putF X8 hx hZ hown (host := "") (Or.inl (own_w hw 115 rfl)) Via.refl e8 f10 f9 (Or.inr ⟨(own_w hw 116 rfl), rfl, hnm⟩) (own_w hw 105 rfl) (ty := (.object "com/example/assemble_quorum/assemblequorum/model/MemberAddress")) (by decide) rfl rfl (g := (mkF m 34 #[.val (.ref ob0), .val (.long p1), .second, .val (.ref ob2)] [(.ref ob2), (.ref ob0)])) rfl rfl (hb hby own_d21_34)
  have hC := hC.trans (CHr.wr W11 (Safe.exa hZ.alike f9 (by decide) (by decide)) hC.1)
  have hk := Nat.le_trans hk (Keep.of_wr W11).1
  have Fw11 := f10.same W11
  have N11 := Fr.snoc X11 N8 gz_ob0
  have g12 : ∀ t, Steps p.tables e below (T11.setTop (mkF m 37 #[.val (.ref ob0), .val (.long p1), .second, .val (.ref ob2)] [])) t → Steps p.tables e below (s₁.setTop (entryFrame m #[(.ref ob0), (.long p1), (.ref ob2)] 4)) t := by
    intro t k
    refine g0 t ?_
    show Steps p.tables e below (s₁.setTop (mkF m 0 #[.val (.ref ob0), .val (.long p1), .second, .val (.ref ob2)] [])) _
    refine XS.aloadN X0.here hx rfl (hb hby own_d21_0) rfl rfl ?_
    refine st1 _ ?_
    refine XS.aloadN X1.here hx rfl (hb hby own_d21_4) rfl rfl ?_
    show Steps p.tables e below (T1.setTop (mkF m 5 #[.val (.ref ob0), .val (.long p1), .second, .val (.ref ob2)] [(.ref ob2)])) _
    refine st2 _ ?_
    refine st4 _ ?_
    refine XS.pop X4.here hx rfl (hb hby own_d21_10) rfl rfl ?_
    show Steps p.tables e below (T4.setTop (mkF m 11 #[.val (.ref ob0), .val (.long p1), .second, .val (.ref ob2)] [])) _
    refine XS.lloadN X4.here hx rfl (hb hby own_d21_11) rfl ?_
    refine XS.lconst X4.here hx rfl (hb hby own_d21_12) ?_
    refine XS.lcmp X4.here hx rfl (hb hby own_d21_13) rfl ?_
    show Steps p.tables e below (T4.setTop (mkF m 14 #[.val (.ref ob0), .val (.long p1), .second, .val (.ref ob2)] [(.int (lcmpW p1 (0 : Int64)))])) _
    refine XS.ifYes X4.here hx rfl (pc0 := 14) (pc' := 27) rfl (hb hby own_d21_14) rfl ((if0 _ _).trans (flt (fun q => hc5 ((lw_lt _ _).mp q))).2.1) (by decide) (by decide) ?_
    refine XS.aloadN X4.here hx rfl (hb hby own_d21_27) rfl rfl ?_
    refine XS.lloadN X4.here hx rfl (hb hby own_d21_28) rfl ?_
    show Steps p.tables e below (T4.setTop (mkF m 29 #[.val (.ref ob0), .val (.long p1), .second, .val (.ref ob2)] [(.long p1), (.ref ob0)])) _
    refine st8 _ ?_
    refine XS.aloadN X8.here hx rfl (hb hby own_d21_32) rfl rfl ?_
    refine XS.aloadN X8.here hx rfl (hb hby own_d21_33) rfl rfl ?_
    show Steps p.tables e below (T8.setTop (mkF m 34 #[.val (.ref ob0), .val (.long p1), .second, .val (.ref ob2)] [(.ref ob2), (.ref ob0)])) _
    refine st11 _ ?_
    exact k
  obtain ⟨fs, hrt, hrun, hended, hRW⟩ := X11.leaveW hS (by rw [e11]; exact hk) (v := none) (fun _ => rfl)
  have f13 := (f9.wr W11)
  have f14 := (Fw8.other W11 (Or.inr (slot_ne (own_la3 hw) (own_la2 hw) (by decide) own_ty3 own_ty2)))
  refine ⟨_, _, g12 _ ?_, hrun, hended, _, _, rfl, ?_, ?_, hRW.1, hRW.2.1, hRW.2.2.1, hRW.2.2.2.mono (by decide) (by decide)⟩
  · show Steps p.tables e below (T11.setTop (mkF m 37 #[.val (.ref ob0), .val (.long p1), .second, .val (.ref ob2)] [])) _
    exact X11.returnOut hx Bd.returns (hb hby own_d21_37) hrt
  · show own_Q_rmA33 Z ob0 p1 ob2 cs wf h0 n0 _ T11.heap _
    rw [e11]
    exact ⟨rfl, N11, (Keep.wr (Keep.wr (Keep.ext (Keep.refl h0 [ob0]) E2) W8 (Or.inl (List.mem_of_getElem? (i := 0) rfl))) W11 (Or.inl (List.mem_of_getElem? (i := 0) rfl))), f13, f14, Fw11⟩
  · rw [hh]
    show CHr Z own_EL s.vm h0 T11.vm T11.heap
    rw [e11]
    exact hC.trans (CHv.at X11 hZ (own_EW hw) hC.1)
theorem own_pd15 : parseMethodDescriptor "(JLcom/example/assemble_quorum/assemblequorum/model/MemberAddress;)V" = some ⟨[.long, (.object "com/example/assemble_quorum/assemblequorum/model/MemberAddress")], none⟩ := by decide +kernel
abbrev own_y20 : MethodName := ⟨"com/example/assemble_quorum/assemblequorum/service/Round", "<init>", "()V"⟩
theorem own_ef36 (m : MethodId) (x0 : Addr) : entryFrame m #[(.ref x0)] 1 = mkF m 0 #[.val (.ref x0)] [] := by first | (simp [entryFrame, mkF, argsToLocals, Value.category]; done) | rfl
theorem own_pn7 : plainName "com/example/assemble_quorum/assemblequorum/service/Round" = true := by first | (simp [plainName, overriddenIn]; done) | decide +kernel
theorem own_d22_0 : decode prog_46_method_1_code 0 = .ok (.aload_n 0, 1) := by decide +kernel
theorem own_d22_1 : decode prog_46_method_1_code 1 = .ok (.invokespecial 1, 3) := by decide +kernel
theorem own_d22_4 : decode prog_46_method_1_code 4 = .ok (.aload_n 0, 1) := by decide +kernel
theorem own_d22_5 : decode prog_46_method_1_code 5 = .ok (.new 7, 3) := by decide +kernel
theorem own_d22_8 : decode prog_46_method_1_code 8 = .ok (.dup, 1) := by decide +kernel
theorem own_d22_9 : decode prog_46_method_1_code 9 = .ok (.invokespecial 9, 3) := by decide +kernel
abbrev own_y21 : MethodName := ⟨"java/util/HashSet", "<init>", "()V"⟩
theorem own_ef37 (m : MethodId) (x0 : Addr) : entryFrame m #[(.ref x0)] 1 = mkF m 0 #[.val (.ref x0)] [] := by first | (simp [entryFrame, mkF, argsToLocals, Value.category]; done) | rfl
theorem own_pn8 : plainName "java/util/HashSet" = true := by first | (simp [plainName, overriddenIn]; done) | decide +kernel
theorem own_d23_0 : decode jdk_93_method_1_code 0 = .ok (.aload_n 0, 1) := by decide +kernel
theorem own_d23_1 : decode jdk_93_method_1_code 1 = .ok (.invokespecial 1, 3) := by decide +kernel
abbrev own_y22 : MethodName := ⟨"java/util/AbstractSet", "<init>", "()V"⟩
theorem own_ef38 (m : MethodId) (x0 : Addr) : entryFrame m #[(.ref x0)] 1 = mkF m 0 #[.val (.ref x0)] [] := by first | (simp [entryFrame, mkF, argsToLocals, Value.category]; done) | rfl
theorem own_pn9 : plainName "java/util/AbstractSet" = true := by first | (simp [plainName, overriddenIn]; done) | decide +kernel
theorem own_d24_0 : decode jdk_91_method_1_code 0 = .ok (.aload_n 0, 1) := by decide +kernel
theorem own_d24_1 : decode jdk_91_method_1_code 1 = .ok (.invokespecial 1, 3) := by decide +kernel
abbrev own_y23 : MethodName := ⟨"java/util/AbstractCollection", "<init>", "()V"⟩
theorem own_ef39 (m : MethodId) (x0 : Addr) : entryFrame m #[(.ref x0)] 1 = mkF m 0 #[.val (.ref x0)] [] := by first | (simp [entryFrame, mkF, argsToLocals, Value.category]; done) | rfl
theorem own_pn10 : plainName "java/util/AbstractCollection" = true := by first | (simp [plainName, overriddenIn]; done) | decide +kernel
theorem own_d25_0 : decode jdk_22_method_1_code 0 = .ok (.aload_n 0, 1) := by decide +kernel
theorem own_d25_1 : decode jdk_22_method_1_code 1 = .ok (.invokespecial 1, 3) := by decide +kernel
theorem own_d25_4 : decode jdk_22_method_1_code 4 = .ok (.return_, 1) := by decide +kernel
def own_Q_rmA37 (Z : State) (ob0 : Addr)  (cs : Int32) (wf : Value) (h0 : Heap) (n0 : Nat) (v : Option Value) (h : Heap) (L : List Loc) : Prop := v = none ∧ Fr n0 L ∧ h = h0
set_option maxRecDepth 65536 in
set_option maxHeartbeats 40000000 in
theorem rmA37 (l : Launch) (Z : State) (a0 : Array Value) (hw : ∀ d ∈ tables_1, d.before a0 Z = true) (ws : List Jvm.Cond) (ob0 : Addr)  (cs : Int32) (wf : Value) (h0 : Heap) (n0 : Nat) (O0 : Old Z n0 h0) (G : own_Gl Z cs wf) (E_ob0 : Exa Z h0 ob0 "java/util/HashSet") (F_ob0_map : Fld Z h0 ob0 "java/util/HashSet" "map" "Ljava/util/HashMap;" .null) :
    MetFree l own_y23 (head1 (Jvm.Cond.code own_y23 jdk_22_method_1_code 1 none :: ws) ({ frames := 1, cells := 0, slots := 0, locals := 12 } : Room)) (fun a U => a = #[(.ref ob0)] ∧ Z.Warmed39 U.vm ∧ U.heap = h0) (fun _ _ _ _ _ => True) (fun _ U o U' => ∃ v L, o = .returned v ∧ own_Q_rmA37 Z ob0 cs wf h0 n0 v U'.heap L ∧ FrameEnd U o U' L ({ frames := 1, cells := 0, slots := 0, locals := 12 } : Room).cells ({ frames := 1, cells := 0, slots := 0, locals := 12 } : Room).slots) := by
  refine MetFree.of_bodySF (plainFor_of_name own_pn10) hisR ?_
  intro p e s m args below meth c s₁ Bd hml0 hP hK
  obtain ⟨rfl, hZ, hh⟩ := hP
  have hx := Bd.exec
  have hby := Bd.bytes
  have hml : c.maxLocals = 1 := hml0
  have hown : s.vm.findClass "java/util/AbstractCollection" = some m.cls := findClass_of_methodNamed Bd.named
  have hnm := (name_of_methodNamed Bd.named Bd.method).1
  have X0 : Stand p l e ({ frames := 1, cells := 0, slots := 0, locals := 12 } : Room) s m #[(.ref ob0)] below meth c s₁ [] 0 0 := Stand.of_body Bd
  have e0 : s₁.heap = h0 := by rw [← hh, Bd.state]; rfl
  have N0 := Fr.nil n0
  have Z0 : n0 ≤ h0.size := O0.1 ▸ O0.2.1
  have g0 : ∀ t, Steps p.tables e below (s₁.setTop (mkF m 0 #[.val (.ref ob0)] [])) t → Steps p.tables e below (s₁.setTop (entryFrame m #[(.ref ob0)] 1)) t := fun t k => castTop (own_ef39 m (ob0)) k
  have G0 := G
  obtain ⟨S_CS, hcs, S_WF, hwf⟩ := G
  obtain ⟨T1, X1, e1, st1⟩ := initO X0 hx hZ hown (own_w hw 142 rfl) (own_w hw 18 rfl) (own_w hw 19 rfl) e0 (g := (mkF m 1 #[.val (.ref ob0)] [(.ref ob0)])) rfl (by rw [hml]; rfl) rfl (hb hby own_d25_1) (by decide) (W := 0) (by show 2 * 0 + _ ≤ _; exact Nat.le_of_eq rfl) (by decide)
  have g2 : ∀ t, Steps p.tables e below (T1.setTop (mkF m 4 #[.val (.ref ob0)] [])) t → Steps p.tables e below (s₁.setTop (entryFrame m #[(.ref ob0)] 1)) t := by
    intro t k
    refine g0 t ?_
    show Steps p.tables e below (s₁.setTop (mkF m 0 #[.val (.ref ob0)] [])) _
    refine XS.aloadN X0.here hx rfl (hb hby own_d25_0) rfl rfl ?_
    refine st1 _ ?_
    exact k
  obtain ⟨fs, hrt, hrun, hended, hW, hsame⟩ := X1.leave (v := none) (fun _ => rfl)
  refine ⟨_, _, g2 _ ?_, hrun, hended, _, _, rfl, ?_, ⟨_, rfl⟩, hW, hsame.mono (by decide) (by decide)⟩
  · show Steps p.tables e below (T1.setTop (mkF m 4 #[.val (.ref ob0)] [])) _
    exact X1.returnOut hx Bd.returns (hb hby own_d25_4) hrt
  · show own_Q_rmA37 Z ob0 cs wf h0 n0 _ T1.heap _
    rw [e1]
    exact ⟨rfl, N0, rfl⟩
theorem own_pd16 : parseMethodDescriptor "()V" = some ⟨[], none⟩ := by decide +kernel
theorem own_d24_4 : decode jdk_91_method_1_code 4 = .ok (.return_, 1) := by decide +kernel
def own_Q_rmA36 (Z : State) (ob0 : Addr)  (cs : Int32) (wf : Value) (h0 : Heap) (n0 : Nat) (v : Option Value) (h : Heap) (L : List Loc) : Prop := v = none ∧ Fr n0 L ∧ h = h0
set_option maxRecDepth 65536 in
set_option maxHeartbeats 40000000 in
theorem rmA36 (l : Launch) (Z : State) (a0 : Array Value) (hw : ∀ d ∈ tables_1, d.before a0 Z = true) (ws : List Jvm.Cond) (ob0 : Addr)  (cs : Int32) (wf : Value) (h0 : Heap) (n0 : Nat) (O0 : Old Z n0 h0) (G : own_Gl Z cs wf) (E_ob0 : Exa Z h0 ob0 "java/util/HashSet") (F_ob0_map : Fld Z h0 ob0 "java/util/HashSet" "map" "Ljava/util/HashMap;" .null) :
    MetFree l own_y22 (head1 (Jvm.Cond.code own_y22 jdk_91_method_1_code 1 none :: ws) ({ frames := 2, cells := 0, slots := 0, locals := 24 } : Room)) (fun a U => a = #[(.ref ob0)] ∧ Z.Warmed39 U.vm ∧ U.heap = h0) (fun _ _ _ _ _ => True) (fun _ U o U' => ∃ v L, o = .returned v ∧ own_Q_rmA36 Z ob0 cs wf h0 n0 v U'.heap L ∧ FrameEnd U o U' L ({ frames := 2, cells := 0, slots := 0, locals := 24 } : Room).cells ({ frames := 2, cells := 0, slots := 0, locals := 24 } : Room).slots) := by
  refine MetFree.of_bodySF (plainFor_of_name own_pn9) hisR ?_
  intro p e s m args below meth c s₁ Bd hml0 hP hK
  obtain ⟨rfl, hZ, hh⟩ := hP
  have hx := Bd.exec
  have hby := Bd.bytes
  have hml : c.maxLocals = 1 := hml0
  have hown : s.vm.findClass "java/util/AbstractSet" = some m.cls := findClass_of_methodNamed Bd.named
  have hnm := (name_of_methodNamed Bd.named Bd.method).1
  have X0 : Stand p l e ({ frames := 2, cells := 0, slots := 0, locals := 24 } : Room) s m #[(.ref ob0)] below meth c s₁ [] 0 0 := Stand.of_body Bd
  have e0 : s₁.heap = h0 := by rw [← hh, Bd.state]; rfl
  have N0 := Fr.nil n0
  have Z0 : n0 ≤ h0.size := O0.1 ▸ O0.2.1
  have g0 : ∀ t, Steps p.tables e below (s₁.setTop (mkF m 0 #[.val (.ref ob0)] [])) t → Steps p.tables e below (s₁.setTop (entryFrame m #[(.ref ob0)] 1)) t := fun t k => castTop (own_ef38 m (ob0)) k
  have G0 := G
  obtain ⟨S_CS, hcs, S_WF, hwf⟩ := G
  obtain ⟨_, _, ⟨T1, L1, k1, n1⟩, -, X1, ⟨Lc1, hQ1, l1, y1, z1⟩, st1⟩ := X0.specialBack hx (y := own_y23) rfl hown (mvT hZ (own_w hw 136 rfl)) (mvT hZ (own_w hw 137 rfl)) (mvT hZ (own_w hw 141 rfl)) (by decide) (backOf (W := 0) (rmA37 l Z a0 hw [] ob0  cs wf h0 n0 O0 G0 E_ob0 F_ob0_map  ) hZ (own_w hw 141 rfl) (own_w hw 140 rfl) (by decide) (by decide)) (g := (mkF m 1 #[.val (.ref ob0)] [(.ref ob0)])) rfl (by rw [hml]; rfl) (Steps.refl _) (a := ob0) (argsL := []) (rest := []) (lenOf own_pd16 rfl) rfl (by show 2 * 0 + _ ≤ _; exact Nat.le_of_eq rfl) (hb hby own_d24_1) (fun _ _ => ⟨rfl, e0, (by decide : 0 + 0 ≤ _), (by decide : 0 + 0 ≤ _)⟩)
  dsimp only [Pt.U, Pt.locs, Pt.cells, Pt.slots] at X1 l1 y1 z1 st1 hQ1
  subst l1 y1 z1
  obtain ⟨rfl, Nq1, e1⟩ := hQ1
  have N1 := Fr.app N0 Nq1
  have g2 : ∀ t, Steps p.tables e below (T1.setTop (mkF m 4 #[.val (.ref ob0)] [])) t → Steps p.tables e below (s₁.setTop (entryFrame m #[(.ref ob0)] 1)) t := by
    intro t k
    refine g0 t ?_
    show Steps p.tables e below (s₁.setTop (mkF m 0 #[.val (.ref ob0)] [])) _
    refine XS.aloadN X0.here hx rfl (hb hby own_d24_0) rfl rfl ?_
    refine st1.trans ?_
    exact k
  obtain ⟨fs, hrt, hrun, hended, hW, hsame⟩ := X1.leave (v := none) (fun _ => rfl)
  refine ⟨_, _, g2 _ ?_, hrun, hended, _, _, rfl, ?_, ⟨_, rfl⟩, hW, hsame.mono (by decide) (by decide)⟩
  · show Steps p.tables e below (T1.setTop (mkF m 4 #[.val (.ref ob0)] [])) _
    exact X1.returnOut hx Bd.returns (hb hby own_d24_4) hrt
  · show own_Q_rmA36 Z ob0 cs wf h0 n0 _ T1.heap _
    rw [e1]
    exact ⟨rfl, N1, rfl⟩
theorem own_d23_4 : decode jdk_93_method_1_code 4 = .ok (.aload_n 0, 1) := by decide +kernel
theorem own_d23_5 : decode jdk_93_method_1_code 5 = .ok (.new 7, 3) := by decide +kernel
theorem own_d23_8 : decode jdk_93_method_1_code 8 = .ok (.dup, 1) := by decide +kernel
theorem own_d23_9 : decode jdk_93_method_1_code 9 = .ok (.invokespecial 9, 3) := by decide +kernel
abbrev own_y24 : MethodName := ⟨"java/util/HashMap", "<init>", "()V"⟩
theorem own_ef40 (m : MethodId) (x0 : Addr) : entryFrame m #[(.ref x0)] 1 = mkF m 0 #[.val (.ref x0)] [] := by first | (simp [entryFrame, mkF, argsToLocals, Value.category]; done) | rfl
theorem own_pn11 : plainName "java/util/HashMap" = true := by first | (simp [plainName, overriddenIn]; done) | decide +kernel
theorem own_d26_0 : decode jdk_69_method_7_code 0 = .ok (.aload_n 0, 1) := by decide +kernel
theorem own_d26_1 : decode jdk_69_method_7_code 1 = .ok (.invokespecial 43, 3) := by decide +kernel
abbrev own_y25 : MethodName := ⟨"java/util/AbstractMap", "<init>", "()V"⟩
theorem own_ef41 (m : MethodId) (x0 : Addr) : entryFrame m #[(.ref x0)] 1 = mkF m 0 #[.val (.ref x0)] [] := by first | (simp [entryFrame, mkF, argsToLocals, Value.category]; done) | rfl
theorem own_pn12 : plainName "java/util/AbstractMap" = true := by first | (simp [plainName, overriddenIn]; done) | decide +kernel
theorem own_d27_0 : decode jdk_71_method_1_code 0 = .ok (.aload_n 0, 1) := by decide +kernel
theorem own_d27_1 : decode jdk_71_method_1_code 1 = .ok (.invokespecial 1, 3) := by decide +kernel
theorem own_d27_4 : decode jdk_71_method_1_code 4 = .ok (.return_, 1) := by decide +kernel
def own_Q_rmA39 (Z : State) (ob0 : Addr) (ob0_loadFactor : Value)  (cs : Int32) (wf : Value) (h0 : Heap) (n0 : Nat) (v : Option Value) (h : Heap) (L : List Loc) : Prop := v = none ∧ Fr n0 L ∧ h = h0
set_option maxRecDepth 65536 in
set_option maxHeartbeats 40000000 in
theorem rmA39 (l : Launch) (Z : State) (a0 : Array Value) (hw : ∀ d ∈ tables_1, d.before a0 Z = true) (ws : List Jvm.Cond) (ob0 : Addr) (ob0_loadFactor : Value)  (cs : Int32) (wf : Value) (h0 : Heap) (n0 : Nat) (O0 : Old Z n0 h0) (G : own_Gl Z cs wf) (E_ob0 : Exa Z h0 ob0 "java/util/HashMap") (F_ob0_loadFactor : Fld Z h0 ob0 "java/util/HashMap" "loadFactor" "F" ob0_loadFactor) :
    MetFree l own_y25 (head1 (Jvm.Cond.code own_y25 jdk_71_method_1_code 1 none :: ws) ({ frames := 1, cells := 0, slots := 0, locals := 12 } : Room)) (fun a U => a = #[(.ref ob0)] ∧ Z.Warmed39 U.vm ∧ U.heap = h0) (fun _ _ _ _ _ => True) (fun _ U o U' => ∃ v L, o = .returned v ∧ own_Q_rmA39 Z ob0 ob0_loadFactor cs wf h0 n0 v U'.heap L ∧ FrameEnd U o U' L ({ frames := 1, cells := 0, slots := 0, locals := 12 } : Room).cells ({ frames := 1, cells := 0, slots := 0, locals := 12 } : Room).slots) := by
  refine MetFree.of_bodySF (plainFor_of_name own_pn12) hisR ?_
  intro p e s m args below meth c s₁ Bd hml0 hP hK
  obtain ⟨rfl, hZ, hh⟩ := hP
  have hx := Bd.exec
  have hby := Bd.bytes
  have hml : c.maxLocals = 1 := hml0
  have hown : s.vm.findClass "java/util/AbstractMap" = some m.cls := findClass_of_methodNamed Bd.named
  have hnm := (name_of_methodNamed Bd.named Bd.method).1
  have X0 : Stand p l e ({ frames := 1, cells := 0, slots := 0, locals := 12 } : Room) s m #[(.ref ob0)] below meth c s₁ [] 0 0 := Stand.of_body Bd
  have e0 : s₁.heap = h0 := by rw [← hh, Bd.state]; rfl
  have N0 := Fr.nil n0
  have Z0 : n0 ≤ h0.size := O0.1 ▸ O0.2.1
  have g0 : ∀ t, Steps p.tables e below (s₁.setTop (mkF m 0 #[.val (.ref ob0)] [])) t → Steps p.tables e below (s₁.setTop (entryFrame m #[(.ref ob0)] 1)) t := fun t k => castTop (own_ef41 m (ob0)) k
  have G0 := G
  obtain ⟨S_CS, hcs, S_WF, hwf⟩ := G
  obtain ⟨T1, X1, e1, st1⟩ := initO X0 hx hZ hown (own_w hw 156 rfl) (own_w hw 18 rfl) (own_w hw 19 rfl) e0 (g := (mkF m 1 #[.val (.ref ob0)] [(.ref ob0)])) rfl (by rw [hml]; rfl) rfl (hb hby own_d27_1) (by decide) (W := 0) (by show 2 * 0 + _ ≤ _; exact Nat.le_of_eq rfl) (by decide)
  have g2 : ∀ t, Steps p.tables e below (T1.setTop (mkF m 4 #[.val (.ref ob0)] [])) t → Steps p.tables e below (s₁.setTop (entryFrame m #[(.ref ob0)] 1)) t := by
    intro t k
    refine g0 t ?_
    show Steps p.tables e below (s₁.setTop (mkF m 0 #[.val (.ref ob0)] [])) _
    refine XS.aloadN X0.here hx rfl (hb hby own_d27_0) rfl rfl ?_
    refine st1 _ ?_
    exact k
  obtain ⟨fs, hrt, hrun, hended, hW, hsame⟩ := X1.leave (v := none) (fun _ => rfl)
  refine ⟨_, _, g2 _ ?_, hrun, hended, _, _, rfl, ?_, ⟨_, rfl⟩, hW, hsame.mono (by decide) (by decide)⟩
  · show Steps p.tables e below (T1.setTop (mkF m 4 #[.val (.ref ob0)] [])) _
    exact X1.returnOut hx Bd.returns (hb hby own_d27_4) hrt
  · show own_Q_rmA39 Z ob0 ob0_loadFactor cs wf h0 n0 _ T1.heap _
    rw [e1]
    exact ⟨rfl, N0, rfl⟩
theorem own_d26_4 : decode jdk_69_method_7_code 4 = .ok (.aload_n 0, 1) := by decide +kernel
theorem own_d26_5 : decode jdk_69_method_7_code 5 = .ok (.ldc 92, 2) := by decide +kernel
theorem own_d26_7 : decode jdk_69_method_7_code 7 = .ok (.putfield 81, 3) := by decide +kernel
theorem own_d26_10 : decode jdk_69_method_7_code 10 = .ok (.return_, 1) := by decide +kernel
def own_Q_rmA38 (Z : State) (ob0 : Addr) (ob0_loadFactor : Value)  (cs : Int32) (wf : Value) (h0 : Heap) (n0 : Nat) (v : Option Value) (h : Heap) (L : List Loc) : Prop := v = none ∧ Fr n0 L ∧ Keep h0 h [ob0] ∧ Exa Z h ob0 "java/util/HashMap"
set_option maxRecDepth 65536 in
set_option maxHeartbeats 40000000 in
theorem rmA38 (l : Launch) (Z : State) (a0 : Array Value) (hw : ∀ d ∈ tables_1, d.before a0 Z = true) (ws : List Jvm.Cond) (ob0 : Addr) (ob0_loadFactor : Value)  (cs : Int32) (wf : Value) (h0 : Heap) (n0 : Nat) (O0 : Old Z n0 h0) (G : own_Gl Z cs wf) (E_ob0 : Exa Z h0 ob0 "java/util/HashMap") (F_ob0_loadFactor : Fld Z h0 ob0 "java/util/HashMap" "loadFactor" "F" ob0_loadFactor) (gz_ob0 : n0 ≤ ob0) :
    MetFree l own_y24 (head1 (Jvm.Cond.code own_y24 jdk_69_method_7_code 1 none :: ws) ({ frames := 2, cells := 0, slots := 0, locals := 24 } : Room)) (fun a U => a = #[(.ref ob0)] ∧ Z.Warmed39 U.vm ∧ U.heap = h0) (fun _ _ _ _ _ => True) (fun _ U o U' => ∃ v L, o = .returned v ∧ own_Q_rmA38 Z ob0 ob0_loadFactor cs wf h0 n0 v U'.heap L ∧ FrameEnd U o U' L ({ frames := 2, cells := 0, slots := 0, locals := 24 } : Room).cells ({ frames := 2, cells := 0, slots := 0, locals := 24 } : Room).slots) := by
  refine MetFree.of_bodySF (plainFor_of_name own_pn11) hisR ?_
  intro p e s m args below meth c s₁ Bd hml0 hP hK
  obtain ⟨rfl, hZ, hh⟩ := hP
  have hx := Bd.exec
  have hby := Bd.bytes
  have hml : c.maxLocals = 1 := hml0
  have hown : s.vm.findClass "java/util/HashMap" = some m.cls := findClass_of_methodNamed Bd.named
  have hnm := (name_of_methodNamed Bd.named Bd.method).1
  have X0 : Stand p l e ({ frames := 2, cells := 0, slots := 0, locals := 24 } : Room) s m #[(.ref ob0)] below meth c s₁ [] 0 0 := Stand.of_body Bd
  have e0 : s₁.heap = h0 := by rw [← hh, Bd.state]; rfl
  have N0 := Fr.nil n0
  have Z0 : n0 ≤ h0.size := O0.1 ▸ O0.2.1
  have g0 : ∀ t, Steps p.tables e below (s₁.setTop (mkF m 0 #[.val (.ref ob0)] [])) t → Steps p.tables e below (s₁.setTop (entryFrame m #[(.ref ob0)] 1)) t := fun t k => castTop (own_ef40 m (ob0)) k
  have G0 := G
  obtain ⟨S_CS, hcs, S_WF, hwf⟩ := G
  obtain ⟨_, _, ⟨T1, L1, k1, n1⟩, -, X1, ⟨Lc1, hQ1, l1, y1, z1⟩, st1⟩ := X0.specialBack hx (y := own_y25) rfl hown (mvT hZ (own_w hw 150 rfl)) (mvT hZ (own_w hw 151 rfl)) (mvT hZ (own_w hw 155 rfl)) (by decide) (backOf (W := 0) (rmA39 l Z a0 hw [] ob0 (ob0_loadFactor)  cs wf h0 n0 O0 G0 E_ob0 F_ob0_loadFactor  ) hZ (own_w hw 155 rfl) (own_w hw 154 rfl) (by decide) (by decide)) (g := (mkF m 1 #[.val (.ref ob0)] [(.ref ob0)])) rfl (by rw [hml]; rfl) (Steps.refl _) (a := ob0) (argsL := []) (rest := []) (lenOf own_pd16 rfl) rfl (by show 2 * 0 + _ ≤ _; exact Nat.le_of_eq rfl) (hb hby own_d26_1) (fun _ _ => ⟨rfl, e0, (by decide : 0 + 0 ≤ _), (by decide : 0 + 0 ≤ _)⟩)
  dsimp only [Pt.U, Pt.locs, Pt.cells, Pt.slots] at X1 l1 y1 z1 st1 hQ1
  subst l1 y1 z1
  obtain ⟨rfl, Nq1, e1⟩ := hQ1
  have N1 := Fr.app N0 Nq1
  obtain ⟨T2, h2, X2, e2, W2, st2⟩ := putF X1 hx hZ hown (host := "") (Or.inl (own_w hw 158 rfl)) Via.refl e1 F_ob0_loadFactor E_ob0 (Or.inr ⟨(own_w hw 159 rfl), rfl, hnm⟩) (own_w hw 144 rfl) (ty := .float) (by decide) rfl rfl (g := (mkF m 7 #[.val (.ref ob0)] [(.float (1061158912 : UInt32)), (.ref ob0)])) rfl rfl (hb hby own_d26_7)
  have Fw2 := F_ob0_loadFactor.same W2
  have N2 := Fr.snoc X2 N1 gz_ob0
  have g3 : ∀ t, Steps p.tables e below (T2.setTop (mkF m 10 #[.val (.ref ob0)] [])) t → Steps p.tables e below (s₁.setTop (entryFrame m #[(.ref ob0)] 1)) t := by
    intro t k
    refine g0 t ?_
    show Steps p.tables e below (s₁.setTop (mkF m 0 #[.val (.ref ob0)] [])) _
    refine XS.aloadN X0.here hx rfl (hb hby own_d26_0) rfl rfl ?_
    refine st1.trans ?_
    refine XS.aloadN X1.here hx rfl (hb hby own_d26_4) rfl rfl ?_
    show Steps p.tables e below (T1.setTop (mkF m 5 #[.val (.ref ob0)] [(.ref ob0)])) _
    refine X1.ldcFloatC hx hown (mvT hZ (own_w hw 157 rfl)) (g := (mkF m 5 #[.val (.ref ob0)] [(.ref ob0)])) rfl (hb hby own_d26_5) _ ?_
    refine st2 _ ?_
    exact k
  obtain ⟨fs, hrt, hrun, hended, hW, hsame⟩ := X2.leave (v := none) (fun _ => rfl)
  have f4 := (E_ob0.wr W2)
  refine ⟨_, _, g3 _ ?_, hrun, hended, _, _, rfl, ?_, ⟨_, rfl⟩, hW, hsame.mono (by decide) (by decide)⟩
  · show Steps p.tables e below (T2.setTop (mkF m 10 #[.val (.ref ob0)] [])) _
    exact X2.returnOut hx Bd.returns (hb hby own_d26_10) hrt
  · show own_Q_rmA38 Z ob0 ob0_loadFactor cs wf h0 n0 _ T2.heap _
    rw [e2]
    exact ⟨rfl, N2, (Keep.wr (Keep.refl h0 [ob0]) W2 (Or.inl (List.mem_of_getElem? (i := 0) rfl))), f4⟩
theorem own_d23_12 : decode jdk_93_method_1_code 12 = .ok (.putfield 10, 3) := by decide +kernel
theorem own_d23_15 : decode jdk_93_method_1_code 15 = .ok (.return_, 1) := by decide +kernel
def own_Q_rmA35 (Z : State) (ob0 : Addr)  (cs : Int32) (wf : Value) (h0 : Heap) (n0 : Nat) (v : Option Value) (h : Heap) (L : List Loc) : Prop := v = none ∧ Fr n0 L ∧ Keep h0 h [ob0] ∧ Exa Z h ob0 "java/util/HashSet"
set_option maxRecDepth 65536 in
set_option maxHeartbeats 40000000 in
theorem rmA35 (l : Launch) (Z : State) (a0 : Array Value) (hw : ∀ d ∈ tables_1, d.before a0 Z = true) (ws : List Jvm.Cond) (ob0 : Addr)  (cs : Int32) (wf : Value) (h0 : Heap) (n0 : Nat) (O0 : Old Z n0 h0) (G : own_Gl Z cs wf) (E_ob0 : Exa Z h0 ob0 "java/util/HashSet") (F_ob0_map : Fld Z h0 ob0 "java/util/HashSet" "map" "Ljava/util/HashMap;" .null) (gz_ob0 : n0 ≤ ob0) :
    MetFree l own_y21 (head1 (Jvm.Cond.code own_y21 jdk_93_method_1_code 1 none :: ws) ({ frames := 3, cells := 1, slots := 8, locals := 38 } : Room)) (fun a U => a = #[(.ref ob0)] ∧ Z.Warmed39 U.vm ∧ U.heap = h0) (fun _ _ _ _ _ => True) (fun _ U o U' => ∃ v L, o = .returned v ∧ own_Q_rmA35 Z ob0 cs wf h0 n0 v U'.heap L ∧ FrameEnd U o U' L ({ frames := 3, cells := 1, slots := 8, locals := 38 } : Room).cells ({ frames := 3, cells := 1, slots := 8, locals := 38 } : Room).slots) := by
  refine MetFree.of_bodySF (plainFor_of_name own_pn8) hisR ?_
  intro p e s m args below meth c s₁ Bd hml0 hP hK
  obtain ⟨rfl, hZ, hh⟩ := hP
  have hx := Bd.exec
  have hby := Bd.bytes
  have hml : c.maxLocals = 1 := hml0
  have hown : s.vm.findClass "java/util/HashSet" = some m.cls := findClass_of_methodNamed Bd.named
  have hnm := (name_of_methodNamed Bd.named Bd.method).1
  have X0 : Stand p l e ({ frames := 3, cells := 1, slots := 8, locals := 38 } : Room) s m #[(.ref ob0)] below meth c s₁ [] 0 0 := Stand.of_body Bd
  have e0 : s₁.heap = h0 := by rw [← hh, Bd.state]; rfl
  have N0 := Fr.nil n0
  have Z0 : n0 ≤ h0.size := O0.1 ▸ O0.2.1
  have g0 : ∀ t, Steps p.tables e below (s₁.setTop (mkF m 0 #[.val (.ref ob0)] [])) t → Steps p.tables e below (s₁.setTop (entryFrame m #[(.ref ob0)] 1)) t := fun t k => castTop (own_ef37 m (ob0)) k
  have G0 := G
  obtain ⟨S_CS, hcs, S_WF, hwf⟩ := G
  obtain ⟨_, _, ⟨T1, L1, k1, n1⟩, -, X1, ⟨Lc1, hQ1, l1, y1, z1⟩, st1⟩ := X0.specialBack hx (y := own_y22) rfl hown (mvT hZ (own_w hw 130 rfl)) (mvT hZ (own_w hw 131 rfl)) (mvT hZ (own_w hw 135 rfl)) (by decide) (backOf (W := 0) (rmA36 l Z a0 hw [] ob0  cs wf h0 n0 O0 G0 E_ob0 F_ob0_map  ) hZ (own_w hw 135 rfl) (own_w hw 134 rfl) (by decide) (by decide)) (g := (mkF m 1 #[.val (.ref ob0)] [(.ref ob0)])) rfl (by rw [hml]; rfl) (Steps.refl _) (a := ob0) (argsL := []) (rest := []) (lenOf own_pd16 rfl) rfl (by show 2 * 0 + _ ≤ _; exact Nat.le_of_eq rfl) (hb hby own_d23_1) (fun _ _ => ⟨rfl, e0, (by decide : 0 + 0 ≤ _), (by decide : 0 + 0 ≤ _)⟩)
  dsimp only [Pt.U, Pt.locs, Pt.cells, Pt.slots] at X1 l1 y1 z1 st1 hQ1
  subst l1 y1 z1
  obtain ⟨rfl, Nq1, e1⟩ := hQ1
  have N1 := Fr.app N0 Nq1
  obtain ⟨T2, h2, X2, e2, E2, A2, D2, -, st2⟩ := newO X1 hx hZ hown (own_w hw 143 rfl) (own_w hw 144 rfl) (own_w hw 145 rfl) e1 (g := (mkF m 5 #[.val (.ref ob0)] [(.ref ob0)])) rfl (hb hby own_d23_5) (by decide) (by decide)
  obtain ⟨b2, q_b2⟩ : ∃ z, z = h0.size := ⟨_, rfl⟩
  rw [← q_b2] at A2 D2 st2
  have sz_b2 : h0.size ≤ b2 := Nat.le_of_eq q_b2.symm
  have gz_b2 : n0 ≤ b2 := Nat.le_trans Z0 sz_b2
  have ne_ob0_b2 : ob0 ≠ b2 := Nat.ne_of_lt (Nat.lt_of_lt_of_le E_ob0.lt (Nat.le_of_eq q_b2.symm))
  have F2_loadFactor : Fld Z h2 b2 "java/util/HashMap" "loadFactor" "F" (defaultValue .float) := D2 (Or.inr (own_w hw 159 rfl)) (ty := .float) (by decide)
  have o3 : Old Z n0 h2 := (Old.ext O0 E2)
  obtain ⟨_, _, ⟨T4, L4, k4, n4⟩, -, X4, ⟨Lc4, hQ4, l4, y4, z4⟩, st4⟩ := X2.specialBack hx (y := own_y24) rfl hown (mvT hZ (own_w hw 146 rfl)) (mvT hZ (own_w hw 147 rfl)) (mvT hZ (own_w hw 149 rfl)) (by decide) (backOf (W := 2) (rmA38 l Z a0 hw [] b2 ((defaultValue .float))  cs wf h2 n0 o3 G0 A2 F2_loadFactor gz_b2 ) hZ (own_w hw 149 rfl) (own_w hw 145 rfl) (by decide) (by decide)) (g := (mkF m 9 #[.val (.ref ob0)] [(.ref b2), (.ref b2), (.ref ob0)])) rfl (by rw [hml]; rfl) (Steps.refl _) (a := b2) (argsL := []) (rest := [(.ref b2), (.ref ob0)]) (lenOf own_pd16 rfl) rfl (by show 2 * 0 + _ ≤ _; exact Nat.le_of_eq rfl) (hb hby own_d23_9) (fun _ _ => ⟨rfl, e2, (by decide : 1 + 0 ≤ _), (by decide : 8 + 0 ≤ _)⟩)
  dsimp only [Pt.U, Pt.locs, Pt.cells, Pt.slots] at X4 l4 y4 z4 st4 hQ4
  subst l4 y4 z4
  obtain ⟨rfl, Nq4, K4, Q4_0⟩ := hQ4
  have N4 := Fr.app N1 Nq4
  have f5 := ((E_ob0.ext E2).keep K4)
  have f6 := ((F_ob0_map.ext E2).keep K4 (ninS ne_ob0_b2 nin0))
  obtain ⟨T7, h7, X7, e7, W7, st7⟩ := putF X4 hx hZ hown (host := "") (Or.inl (own_w hw 160 rfl)) Via.refl rfl f6 f5 (Or.inl (own_w hw 161 rfl)) (own_w hw 125 rfl) (ty := (.object "java/util/HashMap")) (by decide) rfl rfl (g := (mkF m 12 #[.val (.ref ob0)] [(.ref b2), (.ref ob0)])) rfl rfl (hb hby own_d23_12)
  have Fw7 := f6.same W7
  have N7 := Fr.snoc X7 N4 gz_ob0
  have g8 : ∀ t, Steps p.tables e below (T7.setTop (mkF m 15 #[.val (.ref ob0)] [])) t → Steps p.tables e below (s₁.setTop (entryFrame m #[(.ref ob0)] 1)) t := by
    intro t k
    refine g0 t ?_
    show Steps p.tables e below (s₁.setTop (mkF m 0 #[.val (.ref ob0)] [])) _
    refine XS.aloadN X0.here hx rfl (hb hby own_d23_0) rfl rfl ?_
    refine st1.trans ?_
    refine XS.aloadN X1.here hx rfl (hb hby own_d23_4) rfl rfl ?_
    show Steps p.tables e below (T1.setTop (mkF m 5 #[.val (.ref ob0)] [(.ref ob0)])) _
    refine st2 _ ?_
    refine XS.dup X2.here hx rfl (hb hby own_d23_8) rfl rfl ?_
    refine st4.trans ?_
    show Steps p.tables e below (T4.setTop (mkF m 12 #[.val (.ref ob0)] [(.ref b2), (.ref ob0)])) _
    refine st7 _ ?_
    exact k
  obtain ⟨fs, hrt, hrun, hended, hW, hsame⟩ := X7.leave (v := none) (fun _ => rfl)
  have f9 := (f5.wr W7)
  refine ⟨_, _, g8 _ ?_, hrun, hended, _, _, rfl, ?_, ⟨_, rfl⟩, hW, hsame.mono (by decide) (by decide)⟩
  · show Steps p.tables e below (T7.setTop (mkF m 15 #[.val (.ref ob0)] [])) _
    exact X7.returnOut hx Bd.returns (hb hby own_d23_15) hrt
  · show own_Q_rmA35 Z ob0 cs wf h0 n0 _ T7.heap _
    rw [e7]
    exact ⟨rfl, N7, (Keep.wr (Keep.trans (Keep.ext (Keep.refl h0 [ob0]) E2) K4 (allS (Or.inr sz_b2) all0)) W7 (Or.inl (List.mem_of_getElem? (i := 0) rfl))), f9⟩
theorem own_d22_12 : decode prog_46_method_1_code 12 = .ok (.putfield 10, 3) := by decide +kernel
theorem own_d22_15 : decode prog_46_method_1_code 15 = .ok (.aload_n 0, 1) := by decide +kernel
theorem own_d22_16 : decode prog_46_method_1_code 16 = .ok (.new 7, 3) := by decide +kernel
theorem own_d22_19 : decode prog_46_method_1_code 19 = .ok (.dup, 1) := by decide +kernel
theorem own_d22_20 : decode prog_46_method_1_code 20 = .ok (.invokespecial 9, 3) := by decide +kernel
theorem own_d22_23 : decode prog_46_method_1_code 23 = .ok (.putfield 16, 3) := by decide +kernel
theorem own_la4 {Z : State} {a0 : Array Value} (hw : ∀ d ∈ tables_1, d.before a0 Z = true) : Laid Z a0 "com/example/assemble_quorum/assemblequorum/service/Round" "com/example/assemble_quorum/assemblequorum/service/Round" "votes" "Ljava/util/Set;" := Or.inr (own_w hw 165 rfl)
theorem own_la5 {Z : State} {a0 : Array Value} (hw : ∀ d ∈ tables_1, d.before a0 Z = true) : Laid Z a0 "com/example/assemble_quorum/assemblequorum/service/Round" "com/example/assemble_quorum/assemblequorum/service/Round" "awaited" "Ljava/util/Set;" := Or.inr (own_w hw 163 rfl)
theorem own_ty4 : parseFieldDescriptor "Ljava/util/Set;" = some (.object "java/util/Set") := by decide
theorem own_d22_26 : decode prog_46_method_1_code 26 = .ok (.return_, 1) := by decide +kernel
theorem own_la6 {Z : State} {a0 : Array Value} (hw : ∀ d ∈ tables_1, d.before a0 Z = true) : Laid Z a0 "com/example/assemble_quorum/assemblequorum/service/Round" "com/example/assemble_quorum/assemblequorum/service/Round" "priorNumber" "Lcom/example/assemble_quorum/assemblequorum/model/ProposalNumber;" := Or.inl (own_w hw 179 rfl)
theorem own_ty5 : parseFieldDescriptor "Lcom/example/assemble_quorum/assemblequorum/model/ProposalNumber;" = some (.object "com/example/assemble_quorum/assemblequorum/model/ProposalNumber") := by decide
theorem own_la7 {Z : State} {a0 : Array Value} (hw : ∀ d ∈ tables_1, d.before a0 Z = true) : Laid Z a0 "com/example/assemble_quorum/assemblequorum/service/Round" "com/example/assemble_quorum/assemblequorum/service/Round" "priorCandidate" "Lcom/example/assemble_quorum/assemblequorum/model/MemberAddress;" := Or.inl (own_w hw 177 rfl)
def own_Q_rmA34 (Z : State) (ob0 : Addr)  (cs : Int32) (wf : Value) (h0 : Heap) (n0 : Nat) (v : Option Value) (h : Heap) (L : List Loc) : Prop := v = none ∧ Fr n0 L ∧ Keep h0 h [ob0] ∧ Exa Z h ob0 "com/example/assemble_quorum/assemblequorum/service/Round" ∧ Fld Z h ob0 "com/example/assemble_quorum/assemblequorum/service/Round" "priorNumber" "Lcom/example/assemble_quorum/assemblequorum/model/ProposalNumber;" .null ∧ Fld Z h ob0 "com/example/assemble_quorum/assemblequorum/service/Round" "priorCandidate" "Lcom/example/assemble_quorum/assemblequorum/model/MemberAddress;" .null
set_option maxRecDepth 65536 in
set_option maxHeartbeats 40000000 in
theorem rmA34 (l : Launch) (Z : State) (a0 : Array Value) (hw : ∀ d ∈ tables_1, d.before a0 Z = true) (ws : List Jvm.Cond) (ob0 : Addr)  (cs : Int32) (wf : Value) (h0 : Heap) (n0 : Nat) (O0 : Old Z n0 h0) (G : own_Gl Z cs wf) (E_ob0 : Exa Z h0 ob0 "com/example/assemble_quorum/assemblequorum/service/Round") (F_ob0_awaited : Fld Z h0 ob0 "com/example/assemble_quorum/assemblequorum/service/Round" "awaited" "Ljava/util/Set;" .null) (F_ob0_priorCandidate : Fld Z h0 ob0 "com/example/assemble_quorum/assemblequorum/service/Round" "priorCandidate" "Lcom/example/assemble_quorum/assemblequorum/model/MemberAddress;" .null) (F_ob0_priorNumber : Fld Z h0 ob0 "com/example/assemble_quorum/assemblequorum/service/Round" "priorNumber" "Lcom/example/assemble_quorum/assemblequorum/model/ProposalNumber;" .null) (F_ob0_votes : Fld Z h0 ob0 "com/example/assemble_quorum/assemblequorum/service/Round" "votes" "Ljava/util/Set;" .null) (gz_ob0 : n0 ≤ ob0) :
    MetFree l own_y20 (head1 (Jvm.Cond.code own_y20 prog_46_method_1_code 1 none :: ws) ({ frames := 4, cells := 4, slots := 18, locals := 52 } : Room)) (fun a U => a = #[(.ref ob0)] ∧ Z.Warmed39 U.vm ∧ U.heap = h0) (fun _ _ _ _ _ => True) (fun _ U o U' => ∃ v L, o = .returned v ∧ own_Q_rmA34 Z ob0 cs wf h0 n0 v U'.heap L ∧ FrameEnd U o U' L ({ frames := 4, cells := 4, slots := 18, locals := 52 } : Room).cells ({ frames := 4, cells := 4, slots := 18, locals := 52 } : Room).slots) := by
  refine MetFree.of_bodySF (plainFor_of_name own_pn7) hisR ?_
  intro p e s m args below meth c s₁ Bd hml0 hP hK
  obtain ⟨rfl, hZ, hh⟩ := hP
  have hx := Bd.exec
  have hby := Bd.bytes
  have hml : c.maxLocals = 1 := hml0
  have hown : s.vm.findClass "com/example/assemble_quorum/assemblequorum/service/Round" = some m.cls := findClass_of_methodNamed Bd.named
  have hnm := (name_of_methodNamed Bd.named Bd.method).1
  have X0 : Stand p l e ({ frames := 4, cells := 4, slots := 18, locals := 52 } : Room) s m #[(.ref ob0)] below meth c s₁ [] 0 0 := Stand.of_body Bd
  have e0 : s₁.heap = h0 := by rw [← hh, Bd.state]; rfl
  have N0 := Fr.nil n0
  have Z0 : n0 ≤ h0.size := O0.1 ▸ O0.2.1
  have g0 : ∀ t, Steps p.tables e below (s₁.setTop (mkF m 0 #[.val (.ref ob0)] [])) t → Steps p.tables e below (s₁.setTop (entryFrame m #[(.ref ob0)] 1)) t := fun t k => castTop (own_ef36 m (ob0)) k
  have G0 := G
  obtain ⟨S_CS, hcs, S_WF, hwf⟩ := G
  obtain ⟨T1, X1, e1, st1⟩ := initO X0 hx hZ hown (own_w hw 123 rfl) (own_w hw 18 rfl) (own_w hw 19 rfl) e0 (g := (mkF m 1 #[.val (.ref ob0)] [(.ref ob0)])) rfl (by rw [hml]; rfl) rfl (hb hby own_d22_1) (by decide) (W := 0) (by show 2 * 0 + _ ≤ _; exact Nat.le_of_eq rfl) (by decide)
  obtain ⟨T2, h2, X2, e2, E2, A2, D2, -, st2⟩ := newO X1 hx hZ hown (own_w hw 124 rfl) (own_w hw 125 rfl) (own_w hw 126 rfl) e1 (g := (mkF m 5 #[.val (.ref ob0)] [(.ref ob0)])) rfl (hb hby own_d22_5) (by decide) (by decide)
  obtain ⟨b2, q_b2⟩ : ∃ z, z = h0.size := ⟨_, rfl⟩
  rw [← q_b2] at A2 D2 st2
  have sz_b2 : h0.size ≤ b2 := Nat.le_of_eq q_b2.symm
  have gz_b2 : n0 ≤ b2 := Nat.le_trans Z0 sz_b2
  have ne_ob0_b2 : ob0 ≠ b2 := Nat.ne_of_lt (Nat.lt_of_lt_of_le E_ob0.lt (Nat.le_of_eq q_b2.symm))
  have F2_map : Fld Z h2 b2 "java/util/HashSet" "map" "Ljava/util/HashMap;" .null := D2 (Or.inl (own_w hw 161 rfl)) (ty := (.object "java/util/HashMap")) (by decide)
  have o3 : Old Z n0 h2 := (Old.ext O0 E2)
  obtain ⟨_, _, ⟨T4, L4, k4, n4⟩, -, X4, ⟨Lc4, hQ4, l4, y4, z4⟩, st4⟩ := X2.specialBack hx (y := own_y21) rfl hown (mvT hZ (own_w hw 127 rfl)) (mvT hZ (own_w hw 128 rfl)) (mvT hZ (own_w hw 129 rfl)) (by decide) (backOf (W := 2) (rmA35 l Z a0 hw [] b2  cs wf h2 n0 o3 G0 A2 F2_map gz_b2 ) hZ (own_w hw 129 rfl) (own_w hw 126 rfl) (by decide) (by decide)) (g := (mkF m 9 #[.val (.ref ob0)] [(.ref b2), (.ref b2), (.ref ob0)])) rfl (by rw [hml]; rfl) (Steps.refl _) (a := b2) (argsL := []) (rest := [(.ref b2), (.ref ob0)]) (lenOf own_pd16 rfl) rfl (by show 2 * 0 + _ ≤ _; exact Nat.le_of_eq rfl) (hb hby own_d22_9) (fun _ _ => ⟨rfl, e2, (by decide : 1 + 1 ≤ _), (by decide : 1 + 8 ≤ _)⟩)
  dsimp only [Pt.U, Pt.locs, Pt.cells, Pt.slots] at X4 l4 y4 z4 st4 hQ4
  subst l4 y4 z4
  obtain ⟨rfl, Nq4, K4, Q4_0⟩ := hQ4
  have N4 := Fr.app N0 Nq4
  have f5 := ((E_ob0.ext E2).keep K4)
  have f6 := ((F_ob0_awaited.ext E2).keep K4 (ninS ne_ob0_b2 nin0))
  obtain ⟨T7, h7, X7, e7, W7, st7⟩ := putF X4 hx hZ hown (host := "") (Or.inl (own_w hw 162 rfl)) Via.refl rfl f6 f5 (Or.inr ⟨(own_w hw 163 rfl), rfl, hnm⟩) (own_w hw 118 rfl) (ty := (.object "java/util/Set")) (by decide) rfl rfl (g := (mkF m 12 #[.val (.ref ob0)] [(.ref b2), (.ref ob0)])) rfl rfl (hb hby own_d22_12)
  have Fw7 := f6.same W7
  have N7 := Fr.snoc X7 N4 gz_ob0
  obtain ⟨T8, h8, X8, e8, E8, A8, D8, -, st8⟩ := newO X7 hx hZ hown (own_w hw 124 rfl) (own_w hw 125 rfl) (own_w hw 126 rfl) e7 (g := (mkF m 16 #[.val (.ref ob0)] [(.ref ob0)])) rfl (hb hby own_d22_16) (by decide) (by decide)
  obtain ⟨b8, q_b8⟩ : ∃ z, z = h7.size := ⟨_, rfl⟩
  rw [← q_b8] at A8 D8 st8
  have sz_b8 : h0.size ≤ b8 := Nat.le_trans (Nat.le_trans (Nat.le_trans E2.1 K4.1) (Keep.of_wr W7).1) (Nat.le_of_eq q_b8.symm)
  have gz_b8 : n0 ≤ b8 := Nat.le_trans Z0 sz_b8
  have f9 := (Q4_0.wr W7)
  have ne_b2_b8 : b2 ≠ b8 := Nat.ne_of_lt (Nat.lt_of_lt_of_le f9.lt (Nat.le_of_eq q_b8.symm))
  have f10 := (f5.wr W7)
  have ne_ob0_b8 : ob0 ≠ b8 := Nat.ne_of_lt (Nat.lt_of_lt_of_le f10.lt (Nat.le_of_eq q_b8.symm))
  have F8_map : Fld Z h8 b8 "java/util/HashSet" "map" "Ljava/util/HashMap;" .null := D8 (Or.inl (own_w hw 161 rfl)) (ty := (.object "java/util/HashMap")) (by decide)
  have o11 : Old Z n0 h8 := (Old.ext (Old.wr (Old.keep o3 K4 (allS gz_b2 all0)) W7 gz_ob0) E8)
  obtain ⟨_, _, ⟨T12, L12, k12, n12⟩, -, X12, ⟨Lc12, hQ12, l12, y12, z12⟩, st12⟩ := X8.specialBack hx (y := own_y21) rfl hown (mvT hZ (own_w hw 127 rfl)) (mvT hZ (own_w hw 128 rfl)) (mvT hZ (own_w hw 129 rfl)) (by decide) (backOf (W := 2) (rmA35 l Z a0 hw [] b8  cs wf h8 n0 o11 G0 A8 F8_map gz_b8 ) hZ (own_w hw 129 rfl) (own_w hw 126 rfl) (by decide) (by decide)) (g := (mkF m 20 #[.val (.ref ob0)] [(.ref b8), (.ref b8), (.ref ob0)])) rfl (by rw [hml]; rfl) (Steps.refl _) (a := b8) (argsL := []) (rest := [(.ref b8), (.ref ob0)]) (lenOf own_pd16 rfl) rfl (by show 2 * 0 + _ ≤ _; exact Nat.le_of_eq rfl) (hb hby own_d22_20) (fun _ _ => ⟨rfl, e8, (by decide : 3 + 1 ≤ _), (by decide : 10 + 8 ≤ _)⟩)
  dsimp only [Pt.U, Pt.locs, Pt.cells, Pt.slots] at X12 l12 y12 z12 st12 hQ12
  subst l12 y12 z12
  obtain ⟨rfl, Nq12, K12, Q12_0⟩ := hQ12
  have N12 := Fr.app N7 Nq12
  have f13 := ((f10.ext E8).keep K12)
  have f14 := (((((F_ob0_votes.ext E2).keep K4 (ninS ne_ob0_b2 nin0)).other W7 (Or.inr (slot_ne (own_la4 hw) (own_la5 hw) (by decide) own_ty4 own_ty4))).ext E8).keep K12 (ninS ne_ob0_b8 nin0))
  obtain ⟨T15, h15, X15, e15, W15, st15⟩ := putF X12 hx hZ hown (host := "") (Or.inl (own_w hw 164 rfl)) Via.refl rfl f14 f13 (Or.inr ⟨(own_w hw 165 rfl), rfl, hnm⟩) (own_w hw 118 rfl) (ty := (.object "java/util/Set")) (by decide) rfl rfl (g := (mkF m 23 #[.val (.ref ob0)] [(.ref b8), (.ref ob0)])) rfl rfl (hb hby own_d22_23)
  have Fw15 := f14.same W15
  have N15 := Fr.snoc X15 N12 gz_ob0
  have g16 : ∀ t, Steps p.tables e below (T15.setTop (mkF m 26 #[.val (.ref ob0)] [])) t → Steps p.tables e below (s₁.setTop (entryFrame m #[(.ref ob0)] 1)) t := by
    intro t k
    refine g0 t ?_
    show Steps p.tables e below (s₁.setTop (mkF m 0 #[.val (.ref ob0)] [])) _
    refine XS.aloadN X0.here hx rfl (hb hby own_d22_0) rfl rfl ?_
    refine st1 _ ?_
    refine XS.aloadN X1.here hx rfl (hb hby own_d22_4) rfl rfl ?_
    show Steps p.tables e below (T1.setTop (mkF m 5 #[.val (.ref ob0)] [(.ref ob0)])) _
    refine st2 _ ?_
    refine XS.dup X2.here hx rfl (hb hby own_d22_8) rfl rfl ?_
    refine st4.trans ?_
    show Steps p.tables e below (T4.setTop (mkF m 12 #[.val (.ref ob0)] [(.ref b2), (.ref ob0)])) _
    refine st7 _ ?_
    refine XS.aloadN X7.here hx rfl (hb hby own_d22_15) rfl rfl ?_
    refine st8 _ ?_
    show Steps p.tables e below (T8.setTop (mkF m 19 #[.val (.ref ob0)] [(.ref b8), (.ref ob0)])) _
    refine XS.dup X8.here hx rfl (hb hby own_d22_19) rfl rfl ?_
    refine st12.trans ?_
    refine st15 _ ?_
    exact k
  obtain ⟨fs, hrt, hrun, hended, hW, hsame⟩ := X15.leave (v := none) (fun _ => rfl)
  have f17 := (f13.wr W15)
  have f18 := ((((((F_ob0_priorNumber.ext E2).keep K4 (ninS ne_ob0_b2 nin0)).other W7 (Or.inr (slot_ne (own_la6 hw) (own_la5 hw) (by decide) own_ty5 own_ty4))).ext E8).keep K12 (ninS ne_ob0_b8 nin0)).other W15 (Or.inr (slot_ne (own_la6 hw) (own_la4 hw) (by decide) own_ty5 own_ty4)))
  have f19 := ((((((F_ob0_priorCandidate.ext E2).keep K4 (ninS ne_ob0_b2 nin0)).other W7 (Or.inr (slot_ne (own_la7 hw) (own_la5 hw) (by decide) own_ty2 own_ty4))).ext E8).keep K12 (ninS ne_ob0_b8 nin0)).other W15 (Or.inr (slot_ne (own_la7 hw) (own_la4 hw) (by decide) own_ty2 own_ty4)))
  refine ⟨_, _, g16 _ ?_, hrun, hended, _, _, rfl, ?_, ⟨_, rfl⟩, hW, hsame.mono (by decide) (by decide)⟩
  · show Steps p.tables e below (T15.setTop (mkF m 26 #[.val (.ref ob0)] [])) _
    exact X15.returnOut hx Bd.returns (hb hby own_d22_26) hrt
  · show own_Q_rmA34 Z ob0 cs wf h0 n0 _ T15.heap _
    rw [e15]
    exact ⟨rfl, N15, (Keep.wr (Keep.trans (Keep.ext (Keep.wr (Keep.trans (Keep.ext (Keep.refl h0 [ob0]) E2) K4 (allS (Or.inr sz_b2) all0)) W7 (Or.inl (List.mem_of_getElem? (i := 0) rfl))) E8) K12 (allS (Or.inr sz_b8) all0)) W15 (Or.inl (List.mem_of_getElem? (i := 0) rfl))), f17, f18, f19⟩
abbrev own_y26 : MethodName := ⟨"com/example/assemble_quorum/assemblequorum/service/Round", "notePrior", "(Lcom/example/assemble_quorum/assemblequorum/model/ProposalNumber;Lcom/example/assemble_quorum/assemblequorum/model/MemberAddress;)V"⟩
theorem own_ef42 (m : MethodId) (x0 : Addr) (x2 : Addr) : entryFrame m #[(.ref x0), .null, (.ref x2)] 3 = mkF m 0 #[.val (.ref x0), .val .null, .val (.ref x2)] [] := by first | (simp [entryFrame, mkF, argsToLocals, Value.category]; done) | rfl
theorem own_d28_0 : decode prog_46_method_19_code 0 = .ok (.aload_n 1, 1) := by decide +kernel
theorem own_d28_1 : decode prog_46_method_19_code 1 = .ok (.ifnull 31, 3) := by decide +kernel
theorem own_d28_32 : decode prog_46_method_19_code 32 = .ok (.return_, 1) := by decide +kernel
def own_Q_rmA40 (Z : State) (ob0 : Addr) (ob2 : Addr) (ob2_host : Addr) (ob2_host_value : Addr) (k_ob2_host_value : ClassId) (ob2_port : Int32)  (cs : Int32) (wf : Value) (h0 : Heap) (n0 : Nat) (v : Option Value) (h : Heap) (L : List Loc) : Prop := v = none ∧ Fr n0 L ∧ h = h0
set_option maxRecDepth 65536 in
set_option maxHeartbeats 40000000 in
theorem rmA40 (l : Launch) (Z : State) (a0 : Array Value) (hw : ∀ d ∈ tables_1, d.before a0 Z = true) (ws : List Jvm.Cond) (ob0 : Addr) (ob2 : Addr) (ob2_host : Addr) (ob2_host_value : Addr) (k_ob2_host_value : ClassId) (ob2_port : Int32)  (cs : Int32) (wf : Value) (h0 : Heap) (n0 : Nat) (O0 : Old Z n0 h0) (G : own_Gl Z cs wf) (E_ob0 : Exa Z h0 ob0 "com/example/assemble_quorum/assemblequorum/service/Round") (F_ob0_priorCandidate : Fld Z h0 ob0 "com/example/assemble_quorum/assemblequorum/service/Round" "priorCandidate" "Lcom/example/assemble_quorum/assemblequorum/model/MemberAddress;" .null) (F_ob0_priorNumber : Fld Z h0 ob0 "com/example/assemble_quorum/assemblequorum/service/Round" "priorNumber" "Lcom/example/assemble_quorum/assemblequorum/model/ProposalNumber;" .null) (E_ob2 : Exa Z h0 ob2 "com/example/assemble_quorum/assemblequorum/model/MemberAddress") (E_ob2_host : Exa Z h0 ob2_host "java/lang/String") (F_ob2_host_coder : Fld Z h0 ob2_host "java/lang/String" "coder" "B" (.int (0 : Int32))) (V_ob2_host_value : Arv Z h0 ob2_host_value k_ob2_host_value .byte (1 : Int32) [(.int (99 : Int32))] (.int (0 : Int32))) (F_ob2_host_value : Fld Z h0 ob2_host "java/lang/String" "value" "[B" (.ref ob2_host_value)) (F_ob2_host : Fld Z h0 ob2 "com/example/assemble_quorum/assemblequorum/model/MemberAddress" "host" "Ljava/lang/String;" (.ref ob2_host)) (F_ob2_port : Fld Z h0 ob2 "com/example/assemble_quorum/assemblequorum/model/MemberAddress" "port" "I" (.int ob2_port)) :
    MetFree l own_y26 (head1 (Jvm.Cond.code own_y26 prog_46_method_19_code 3 none :: ws) ({ frames := 0, cells := 0, slots := 0, locals := 0 } : Room)) (fun a U => a = #[(.ref ob0), .null, (.ref ob2)] ∧ Z.Warmed39 U.vm ∧ U.heap = h0) (fun _ _ _ _ _ => True) (fun _ U o U' => ∃ v L, o = .returned v ∧ own_Q_rmA40 Z ob0 ob2 ob2_host ob2_host_value k_ob2_host_value ob2_port cs wf h0 n0 v U'.heap L ∧ FrameEnd U o U' L ({ frames := 0, cells := 0, slots := 0, locals := 0 } : Room).cells ({ frames := 0, cells := 0, slots := 0, locals := 0 } : Room).slots) := by
  refine MetFree.of_bodySF (plainFor_of_name own_pn7) hisR ?_
  intro p e s m args below meth c s₁ Bd hml0 hP hK
  obtain ⟨rfl, hZ, hh⟩ := hP
  have hx := Bd.exec
  have hby := Bd.bytes
  have hml : c.maxLocals = 3 := hml0
  have hown : s.vm.findClass "com/example/assemble_quorum/assemblequorum/service/Round" = some m.cls := findClass_of_methodNamed Bd.named
  have hnm := (name_of_methodNamed Bd.named Bd.method).1
  have X0 : Stand p l e ({ frames := 0, cells := 0, slots := 0, locals := 0 } : Room) s m #[(.ref ob0), .null, (.ref ob2)] below meth c s₁ [] 0 0 := Stand.of_body Bd
  have e0 : s₁.heap = h0 := by rw [← hh, Bd.state]; rfl
  have N0 := Fr.nil n0
  have Z0 : n0 ≤ h0.size := O0.1 ▸ O0.2.1
  have g0 : ∀ t, Steps p.tables e below (s₁.setTop (mkF m 0 #[.val (.ref ob0), .val .null, .val (.ref ob2)] [])) t → Steps p.tables e below (s₁.setTop (entryFrame m #[(.ref ob0), .null, (.ref ob2)] 3)) t := fun t k => castTop (own_ef42 m (ob0) (ob2)) k
  have G0 := G
  obtain ⟨S_CS, hcs, S_WF, hwf⟩ := G
  have g1 : ∀ t, Steps p.tables e below (s₁.setTop (mkF m 32 #[.val (.ref ob0), .val .null, .val (.ref ob2)] [])) t → Steps p.tables e below (s₁.setTop (entryFrame m #[(.ref ob0), .null, (.ref ob2)] 3)) t := by
    intro t k
    refine g0 t ?_
    show Steps p.tables e below (s₁.setTop (mkF m 0 #[.val (.ref ob0), .val .null, .val (.ref ob2)] [])) _
    refine XS.aloadN X0.here hx rfl (hb hby own_d28_0) rfl rfl ?_
    refine XS.ifnullYes X0.here hx rfl (pc0 := 1) (pc' := 32) rfl (hb hby own_d28_1) rfl (by decide) (by decide) ?_
    exact k
  obtain ⟨fs, hrt, hrun, hended, hW, hsame⟩ := X0.leave (v := none) (fun _ => rfl)
  refine ⟨_, _, g1 _ ?_, hrun, hended, _, _, rfl, ?_, ⟨_, rfl⟩, hW, hsame.mono (by decide) (by decide)⟩
  · show Steps p.tables e below (s₁.setTop (mkF m 32 #[.val (.ref ob0), .val .null, .val (.ref ob2)] [])) _
    exact X0.returnOut hx Bd.returns (hb hby own_d28_32) hrt
  · show own_Q_rmA40 Z ob0 ob2 ob2_host ob2_host_value k_ob2_host_value ob2_port cs wf h0 n0 _ s₁.heap _
    rw [e0]
    exact ⟨rfl, N0, rfl⟩
theorem own_pd17 : parseMethodDescriptor "(Lcom/example/assemble_quorum/assemblequorum/model/ProposalNumber;Lcom/example/assemble_quorum/assemblequorum/model/MemberAddress;)V" = some ⟨[(.object "com/example/assemble_quorum/assemblequorum/model/ProposalNumber"), (.object "com/example/assemble_quorum/assemblequorum/model/MemberAddress")], none⟩ := by decide +kernel
abbrev own_y27 : MethodName := ⟨"com/example/assemble_quorum/assemblequorum/service/Round", "finalCandidate", "(Lcom/example/assemble_quorum/assemblequorum/model/MemberAddress;)Lcom/example/assemble_quorum/assemblequorum/model/MemberAddress;"⟩
theorem own_ef43 (m : MethodId) (x0 : Addr) (x1 : Addr) : entryFrame m #[(.ref x0), (.ref x1)] 2 = mkF m 0 #[.val (.ref x0), .val (.ref x1)] [] := by first | (simp [entryFrame, mkF, argsToLocals, Value.category]; done) | rfl
theorem own_d29_0 : decode prog_46_method_20_code 0 = .ok (.aload_n 0, 1) := by decide +kernel
theorem own_d29_1 : decode prog_46_method_20_code 1 = .ok (.getfield 99, 3) := by decide +kernel
theorem own_d29_4 : decode prog_46_method_20_code 4 = .ok (.ifnull 10, 3) := by decide +kernel
theorem own_d29_14 : decode prog_46_method_20_code 14 = .ok (.aload_n 1, 1) := by decide +kernel
theorem own_d29_15 : decode prog_46_method_20_code 15 = .ok (.areturn, 1) := by decide +kernel
def own_Q_rmA41 (Z : State) (ob0 : Addr) (ob1 : Addr)  (cs : Int32) (wf : Value) (h0 : Heap) (n0 : Nat) (v : Option Value) (h : Heap) (L : List Loc) : Prop := v = some (.ref ob1) ∧ Fr n0 L ∧ h = h0
set_option maxRecDepth 65536 in
set_option maxHeartbeats 40000000 in
theorem rmA41 (l : Launch) (Z : State) (a0 : Array Value) (hw : ∀ d ∈ tables_1, d.before a0 Z = true) (ws : List Jvm.Cond) (ob0 : Addr) (ob1 : Addr)  (cs : Int32) (wf : Value) (h0 : Heap) (n0 : Nat) (O0 : Old Z n0 h0) (G : own_Gl Z cs wf) (E_ob0 : Exa Z h0 ob0 "com/example/assemble_quorum/assemblequorum/service/Round") (F_ob0_priorCandidate : Fld Z h0 ob0 "com/example/assemble_quorum/assemblequorum/service/Round" "priorCandidate" "Lcom/example/assemble_quorum/assemblequorum/model/MemberAddress;" .null) (F_ob0_priorNumber : Fld Z h0 ob0 "com/example/assemble_quorum/assemblequorum/service/Round" "priorNumber" "Lcom/example/assemble_quorum/assemblequorum/model/ProposalNumber;" .null) :
    MetFree l own_y27 (head1 (Jvm.Cond.code own_y27 prog_46_method_20_code 2 (some (.object "com/example/assemble_quorum/assemblequorum/model/MemberAddress")) :: ws) ({ frames := 0, cells := 0, slots := 0, locals := 0 } : Room)) (fun a U => a = #[(.ref ob0), (.ref ob1)] ∧ Z.Warmed39 U.vm ∧ U.heap = h0) (fun _ _ _ _ _ => True) (fun _ U o U' => ∃ v L, o = .returned v ∧ own_Q_rmA41 Z ob0 ob1 cs wf h0 n0 v U'.heap L ∧ FrameEnd U o U' L ({ frames := 0, cells := 0, slots := 0, locals := 0 } : Room).cells ({ frames := 0, cells := 0, slots := 0, locals := 0 } : Room).slots) := by
  refine MetFree.of_bodySF (plainFor_of_name own_pn7) hisR ?_
  intro p e s m args below meth c s₁ Bd hml0 hP hK
  obtain ⟨rfl, hZ, hh⟩ := hP
  have hx := Bd.exec
  have hby := Bd.bytes
  have hml : c.maxLocals = 2 := hml0
  have hown : s.vm.findClass "com/example/assemble_quorum/assemblequorum/service/Round" = some m.cls := findClass_of_methodNamed Bd.named
  have hnm := (name_of_methodNamed Bd.named Bd.method).1
  have X0 : Stand p l e ({ frames := 0, cells := 0, slots := 0, locals := 0 } : Room) s m #[(.ref ob0), (.ref ob1)] below meth c s₁ [] 0 0 := Stand.of_body Bd
  have e0 : s₁.heap = h0 := by rw [← hh, Bd.state]; rfl
  have N0 := Fr.nil n0
  have Z0 : n0 ≤ h0.size := O0.1 ▸ O0.2.1
  have g0 : ∀ t, Steps p.tables e below (s₁.setTop (mkF m 0 #[.val (.ref ob0), .val (.ref ob1)] [])) t → Steps p.tables e below (s₁.setTop (entryFrame m #[(.ref ob0), (.ref ob1)] 2)) t := fun t k => castTop (own_ef43 m (ob0) (ob1)) k
  have G0 := G
  obtain ⟨S_CS, hcs, S_WF, hwf⟩ := G
  obtain ⟨T1, X1, e1, st1⟩ := getF X0 hx hZ hown (host := "") (Or.inl (own_w hw 176 rfl)) Via.refl e0 F_ob0_priorCandidate (g := (mkF m 1 #[.val (.ref ob0), .val (.ref ob1)] [(.ref ob0)])) rfl rfl (hb hby own_d29_1)
  have g2 : ∀ t, Steps p.tables e below (T1.setTop (mkF m 15 #[.val (.ref ob0), .val (.ref ob1)] [(.ref ob1)])) t → Steps p.tables e below (s₁.setTop (entryFrame m #[(.ref ob0), (.ref ob1)] 2)) t := by
    intro t k
    refine g0 t ?_
    show Steps p.tables e below (s₁.setTop (mkF m 0 #[.val (.ref ob0), .val (.ref ob1)] [])) _
    refine XS.aloadN X0.here hx rfl (hb hby own_d29_0) rfl rfl ?_
    refine st1 _ ?_
    refine XS.ifnullYes X1.here hx rfl (pc0 := 4) (pc' := 14) rfl (hb hby own_d29_4) rfl (by decide) (by decide) ?_
    show Steps p.tables e below (T1.setTop (mkF m 14 #[.val (.ref ob0), .val (.ref ob1)] [])) _
    refine XS.aloadN X1.here hx rfl (hb hby own_d29_14) rfl rfl ?_
    exact k
  obtain ⟨fs, hrt, hrun, hended, hW, hsame⟩ := X1.leave (v := some (.ref ob1)) (fun h => by rw [Bd.returns] at h; cases h)
  refine ⟨_, _, g2 _ ?_, hrun, hended, _, _, rfl, ?_, ⟨_, rfl⟩, hW, hsame.mono (by decide) (by decide)⟩
  · show Steps p.tables e below (T1.setTop (mkF m 15 #[.val (.ref ob0), .val (.ref ob1)] [(.ref ob1)])) _
    jvm_step X1.here [X1.here.top, hx, (hb hby own_d29_15), X1.method', Bd.returns, Value.isRef, FieldType.isReference]
    first | (intro acts; rw [hrt _ acts rfl rfl rfl]) | rw [hrt _ _ rfl rfl rfl]
    exact Steps.refl _
  · show own_Q_rmA41 Z ob0 ob1 cs wf h0 n0 _ T1.heap _
    rw [e1]
    exact ⟨rfl, N0, rfl⟩
theorem own_pd18 : parseMethodDescriptor "(Lcom/example/assemble_quorum/assemblequorum/model/MemberAddress;)Lcom/example/assemble_quorum/assemblequorum/model/MemberAddress;" = some ⟨[(.object "com/example/assemble_quorum/assemblequorum/model/MemberAddress")], some (.object "com/example/assemble_quorum/assemblequorum/model/MemberAddress")⟩ := by decide +kernel
theorem own_ef44 (m : MethodId) (x0 : Addr) (x1 : Addr) (x2 : Addr) : entryFrame m #[(.ref x0), (.ref x1), (.ref x2)] 3 = mkF m 0 #[.val (.ref x0), .val (.ref x1), .val (.ref x2)] [] := by first | (simp [entryFrame, mkF, argsToLocals, Value.category]; done) | rfl
theorem own_d28_4 : decode prog_46_method_19_code 4 = .ok (.aload_n 0, 1) := by decide +kernel
theorem own_d28_5 : decode prog_46_method_19_code 5 = .ok (.getfield 92, 3) := by decide +kernel
theorem own_d28_8 : decode prog_46_method_19_code 8 = .ok (.ifnull 14, 3) := by decide +kernel
theorem own_d28_22 : decode prog_46_method_19_code 22 = .ok (.aload_n 0, 1) := by decide +kernel
theorem own_d28_23 : decode prog_46_method_19_code 23 = .ok (.aload_n 1, 1) := by decide +kernel
theorem own_d28_24 : decode prog_46_method_19_code 24 = .ok (.putfield 92, 3) := by decide +kernel
theorem own_d28_27 : decode prog_46_method_19_code 27 = .ok (.aload_n 0, 1) := by decide +kernel
theorem own_d28_28 : decode prog_46_method_19_code 28 = .ok (.aload_n 2, 1) := by decide +kernel
theorem own_d28_29 : decode prog_46_method_19_code 29 = .ok (.putfield 99, 3) := by decide +kernel
def own_Q_rmA42 (Z : State) (ob0 : Addr) (ob1 : Addr) (ob1_counter : Int64) (ob1_proposer : Addr) (ob1_proposer_host : Addr) (ob1_proposer_host_value : Addr) (k_ob1_proposer_host_value : ClassId) (ob1_proposer_port : Int32)  (cs : Int32) (wf : Value) (h0 : Heap) (n0 : Nat) (v : Option Value) (h : Heap) (L : List Loc) : Prop := v = none ∧ Fr n0 L ∧ Keep h0 h [ob0] ∧ Exa Z h ob0 "com/example/assemble_quorum/assemblequorum/service/Round" ∧ Fld Z h ob0 "com/example/assemble_quorum/assemblequorum/service/Round" "priorNumber" "Lcom/example/assemble_quorum/assemblequorum/model/ProposalNumber;" (.ref ob1) ∧ Fld Z h ob0 "com/example/assemble_quorum/assemblequorum/service/Round" "priorCandidate" "Lcom/example/assemble_quorum/assemblequorum/model/MemberAddress;" (.ref ob1_proposer)
set_option maxRecDepth 65536 in
set_option maxHeartbeats 40000000 in
theorem rmA42 (l : Launch) (Z : State) (a0 : Array Value) (hw : ∀ d ∈ tables_1, d.before a0 Z = true) (ws : List Jvm.Cond) (ob0 : Addr) (ob1 : Addr) (ob1_counter : Int64) (ob1_proposer : Addr) (ob1_proposer_host : Addr) (ob1_proposer_host_value : Addr) (k_ob1_proposer_host_value : ClassId) (ob1_proposer_port : Int32)  (cs : Int32) (wf : Value) (h0 : Heap) (n0 : Nat) (O0 : Old Z n0 h0) (G : own_Gl Z cs wf) (E_ob0 : Exa Z h0 ob0 "com/example/assemble_quorum/assemblequorum/service/Round") (F_ob0_priorCandidate : Fld Z h0 ob0 "com/example/assemble_quorum/assemblequorum/service/Round" "priorCandidate" "Lcom/example/assemble_quorum/assemblequorum/model/MemberAddress;" .null) (F_ob0_priorNumber : Fld Z h0 ob0 "com/example/assemble_quorum/assemblequorum/service/Round" "priorNumber" "Lcom/example/assemble_quorum/assemblequorum/model/ProposalNumber;" .null) (E_ob1 : Exa Z h0 ob1 "com/example/assemble_quorum/assemblequorum/model/ProposalNumber") (F_ob1_counter : Fld Z h0 ob1 "com/example/assemble_quorum/assemblequorum/model/ProposalNumber" "counter" "J" (.long ob1_counter)) (E_ob1_proposer : Exa Z h0 ob1_proposer "com/example/assemble_quorum/assemblequorum/model/MemberAddress") (E_ob1_proposer_host : Exa Z h0 ob1_proposer_host "java/lang/String") (F_ob1_proposer_host_coder : Fld Z h0 ob1_proposer_host "java/lang/String" "coder" "B" (.int (0 : Int32))) (V_ob1_proposer_host_value : Arv Z h0 ob1_proposer_host_value k_ob1_proposer_host_value .byte (1 : Int32) [(.int (99 : Int32))] (.int (0 : Int32))) (F_ob1_proposer_host_value : Fld Z h0 ob1_proposer_host "java/lang/String" "value" "[B" (.ref ob1_proposer_host_value)) (F_ob1_proposer_host : Fld Z h0 ob1_proposer "com/example/assemble_quorum/assemblequorum/model/MemberAddress" "host" "Ljava/lang/String;" (.ref ob1_proposer_host)) (F_ob1_proposer_port : Fld Z h0 ob1_proposer "com/example/assemble_quorum/assemblequorum/model/MemberAddress" "port" "I" (.int ob1_proposer_port)) (F_ob1_proposer : Fld Z h0 ob1 "com/example/assemble_quorum/assemblequorum/model/ProposalNumber" "proposer" "Lcom/example/assemble_quorum/assemblequorum/model/MemberAddress;" (.ref ob1_proposer)) (gz_ob0 : n0 ≤ ob0) :
    MetFree l own_y26 (head1 (Jvm.Cond.code own_y26 prog_46_method_19_code 3 none :: ws) ({ frames := 0, cells := 0, slots := 0, locals := 0 } : Room)) (fun a U => a = #[(.ref ob0), (.ref ob1), (.ref ob1_proposer)] ∧ Z.Warmed39 U.vm ∧ U.heap = h0) (fun _ _ _ _ _ => True) (fun _ U o U' => ∃ v L, o = .returned v ∧ own_Q_rmA42 Z ob0 ob1 ob1_counter ob1_proposer ob1_proposer_host ob1_proposer_host_value k_ob1_proposer_host_value ob1_proposer_port cs wf h0 n0 v U'.heap L ∧ FrameEnd U o U' L ({ frames := 0, cells := 0, slots := 0, locals := 0 } : Room).cells ({ frames := 0, cells := 0, slots := 0, locals := 0 } : Room).slots) := by
  refine MetFree.of_bodySF (plainFor_of_name own_pn7) hisR ?_
  intro p e s m args below meth c s₁ Bd hml0 hP hK
  obtain ⟨rfl, hZ, hh⟩ := hP
  have hx := Bd.exec
  have hby := Bd.bytes
  have hml : c.maxLocals = 3 := hml0
  have hown : s.vm.findClass "com/example/assemble_quorum/assemblequorum/service/Round" = some m.cls := findClass_of_methodNamed Bd.named
  have hnm := (name_of_methodNamed Bd.named Bd.method).1
  have X0 : Stand p l e ({ frames := 0, cells := 0, slots := 0, locals := 0 } : Room) s m #[(.ref ob0), (.ref ob1), (.ref ob1_proposer)] below meth c s₁ [] 0 0 := Stand.of_body Bd
  have e0 : s₁.heap = h0 := by rw [← hh, Bd.state]; rfl
  have N0 := Fr.nil n0
  have Z0 : n0 ≤ h0.size := O0.1 ▸ O0.2.1
  have g0 : ∀ t, Steps p.tables e below (s₁.setTop (mkF m 0 #[.val (.ref ob0), .val (.ref ob1), .val (.ref ob1_proposer)] [])) t → Steps p.tables e below (s₁.setTop (entryFrame m #[(.ref ob0), (.ref ob1), (.ref ob1_proposer)] 3)) t := fun t k => castTop (own_ef44 m (ob0) (ob1) (ob1_proposer)) k
  have G0 := G
  obtain ⟨S_CS, hcs, S_WF, hwf⟩ := G
  obtain ⟨T1, X1, e1, st1⟩ := getF X0 hx hZ hown (host := "") (Or.inl (own_w hw 178 rfl)) Via.refl e0 F_ob0_priorNumber (g := (mkF m 5 #[.val (.ref ob0), .val (.ref ob1), .val (.ref ob1_proposer)] [(.ref ob0)])) rfl rfl (hb hby own_d28_5)
  obtain ⟨T2, h2, X2, e2, W2, st2⟩ := putF X1 hx hZ hown (host := "") (Or.inl (own_w hw 178 rfl)) Via.refl e1 F_ob0_priorNumber E_ob0 (Or.inl (own_w hw 179 rfl)) (own_w hw 118 rfl) (ty := (.object "com/example/assemble_quorum/assemblequorum/model/ProposalNumber")) (by decide) rfl rfl (g := (mkF m 24 #[.val (.ref ob0), .val (.ref ob1), .val (.ref ob1_proposer)] [(.ref ob1), (.ref ob0)])) rfl rfl (hb hby own_d28_24)
  have Fw2 := F_ob0_priorNumber.same W2
  have N2 := Fr.snoc X2 N0 gz_ob0
  have f3 := (E_ob0.wr W2)
  have f4 := (F_ob0_priorCandidate.other W2 (Or.inr (slot_ne (own_la7 hw) (own_la6 hw) (by decide) own_ty2 own_ty5)))
  obtain ⟨T5, h5, X5, e5, W5, st5⟩ := putF X2 hx hZ hown (host := "") (Or.inl (own_w hw 176 rfl)) Via.refl e2 f4 f3 (Or.inl (own_w hw 177 rfl)) (own_w hw 118 rfl) (ty := (.object "com/example/assemble_quorum/assemblequorum/model/MemberAddress")) (by decide) rfl rfl (g := (mkF m 29 #[.val (.ref ob0), .val (.ref ob1), .val (.ref ob1_proposer)] [(.ref ob1_proposer), (.ref ob0)])) rfl rfl (hb hby own_d28_29)
  have Fw5 := f4.same W5
  have N5 := Fr.snoc X5 N2 gz_ob0
  have g6 : ∀ t, Steps p.tables e below (T5.setTop (mkF m 32 #[.val (.ref ob0), .val (.ref ob1), .val (.ref ob1_proposer)] [])) t → Steps p.tables e below (s₁.setTop (entryFrame m #[(.ref ob0), (.ref ob1), (.ref ob1_proposer)] 3)) t := by
    intro t k
    refine g0 t ?_
    show Steps p.tables e below (s₁.setTop (mkF m 0 #[.val (.ref ob0), .val (.ref ob1), .val (.ref ob1_proposer)] [])) _
    refine XS.aloadN X0.here hx rfl (hb hby own_d28_0) rfl rfl ?_
    refine XS.ifnullNo X0.here hx rfl (hb hby own_d28_1) rfl ?_
    refine XS.aloadN X0.here hx rfl (hb hby own_d28_4) rfl rfl ?_
    show Steps p.tables e below (s₁.setTop (mkF m 5 #[.val (.ref ob0), .val (.ref ob1), .val (.ref ob1_proposer)] [(.ref ob0)])) _
    refine st1 _ ?_
    refine XS.ifnullYes X1.here hx rfl (pc0 := 8) (pc' := 22) rfl (hb hby own_d28_8) rfl (by decide) (by decide) ?_
    refine XS.aloadN X1.here hx rfl (hb hby own_d28_22) rfl rfl ?_
    show Steps p.tables e below (T1.setTop (mkF m 23 #[.val (.ref ob0), .val (.ref ob1), .val (.ref ob1_proposer)] [(.ref ob0)])) _
    refine XS.aloadN X1.here hx rfl (hb hby own_d28_23) rfl rfl ?_
    refine st2 _ ?_
    refine XS.aloadN X2.here hx rfl (hb hby own_d28_27) rfl rfl ?_
    show Steps p.tables e below (T2.setTop (mkF m 28 #[.val (.ref ob0), .val (.ref ob1), .val (.ref ob1_proposer)] [(.ref ob0)])) _
    refine XS.aloadN X2.here hx rfl (hb hby own_d28_28) rfl rfl ?_
    refine st5 _ ?_
    exact k
  obtain ⟨fs, hrt, hrun, hended, hW, hsame⟩ := X5.leave (v := none) (fun _ => rfl)
  have f7 := (f3.wr W5)
  have f8 := (Fw2.other W5 (Or.inr (slot_ne (own_la6 hw) (own_la7 hw) (by decide) own_ty5 own_ty2)))
  refine ⟨_, _, g6 _ ?_, hrun, hended, _, _, rfl, ?_, ⟨_, rfl⟩, hW, hsame.mono (by decide) (by decide)⟩
  · show Steps p.tables e below (T5.setTop (mkF m 32 #[.val (.ref ob0), .val (.ref ob1), .val (.ref ob1_proposer)] [])) _
    exact X5.returnOut hx Bd.returns (hb hby own_d28_32) hrt
  · show own_Q_rmA42 Z ob0 ob1 ob1_counter ob1_proposer ob1_proposer_host ob1_proposer_host_value k_ob1_proposer_host_value ob1_proposer_port cs wf h0 n0 _ T5.heap _
    rw [e5]
    exact ⟨rfl, N5, (Keep.wr (Keep.wr (Keep.refl h0 [ob0]) W2 (Or.inl (List.mem_of_getElem? (i := 0) rfl))) W5 (Or.inl (List.mem_of_getElem? (i := 0) rfl))), f7, f8, Fw5⟩
theorem own_ef45 (m : MethodId) (x0 : Addr) (x1 : Addr) : entryFrame m #[(.ref x0), (.ref x1)] 2 = mkF m 0 #[.val (.ref x0), .val (.ref x1)] [] := by first | (simp [entryFrame, mkF, argsToLocals, Value.category]; done) | rfl
theorem own_d29_7 : decode prog_46_method_20_code 7 = .ok (.aload_n 0, 1) := by decide +kernel
theorem own_d29_8 : decode prog_46_method_20_code 8 = .ok (.getfield 99, 3) := by decide +kernel
theorem own_d29_11 : decode prog_46_method_20_code 11 = .ok (.goto 4, 3) := by decide +kernel
def own_Q_rmA43 (Z : State) (ob0 : Addr) (ob0_priorCandidate : Addr) (ob0_priorNumber : Addr) (ob1 : Addr)  (cs : Int32) (wf : Value) (h0 : Heap) (n0 : Nat) (v : Option Value) (h : Heap) (L : List Loc) : Prop := v = some (.ref ob0_priorCandidate) ∧ Fr n0 L ∧ h = h0
set_option maxRecDepth 65536 in
set_option maxHeartbeats 40000000 in
theorem rmA43 (l : Launch) (Z : State) (a0 : Array Value) (hw : ∀ d ∈ tables_1, d.before a0 Z = true) (ws : List Jvm.Cond) (ob0 : Addr) (ob0_priorCandidate : Addr) (ob0_priorNumber : Addr) (ob1 : Addr)  (cs : Int32) (wf : Value) (h0 : Heap) (n0 : Nat) (O0 : Old Z n0 h0) (G : own_Gl Z cs wf) (E_ob0 : Exa Z h0 ob0 "com/example/assemble_quorum/assemblequorum/service/Round") (F_ob0_priorCandidate : Fld Z h0 ob0 "com/example/assemble_quorum/assemblequorum/service/Round" "priorCandidate" "Lcom/example/assemble_quorum/assemblequorum/model/MemberAddress;" (.ref ob0_priorCandidate)) (F_ob0_priorNumber : Fld Z h0 ob0 "com/example/assemble_quorum/assemblequorum/service/Round" "priorNumber" "Lcom/example/assemble_quorum/assemblequorum/model/ProposalNumber;" (.ref ob0_priorNumber)) :
    MetFree l own_y27 (head1 (Jvm.Cond.code own_y27 prog_46_method_20_code 2 (some (.object "com/example/assemble_quorum/assemblequorum/model/MemberAddress")) :: ws) ({ frames := 0, cells := 0, slots := 0, locals := 0 } : Room)) (fun a U => a = #[(.ref ob0), (.ref ob1)] ∧ Z.Warmed39 U.vm ∧ U.heap = h0) (fun _ _ _ _ _ => True) (fun _ U o U' => ∃ v L, o = .returned v ∧ own_Q_rmA43 Z ob0 ob0_priorCandidate ob0_priorNumber ob1 cs wf h0 n0 v U'.heap L ∧ FrameEnd U o U' L ({ frames := 0, cells := 0, slots := 0, locals := 0 } : Room).cells ({ frames := 0, cells := 0, slots := 0, locals := 0 } : Room).slots) := by
  refine MetFree.of_bodySF (plainFor_of_name own_pn7) hisR ?_
  intro p e s m args below meth c s₁ Bd hml0 hP hK
  obtain ⟨rfl, hZ, hh⟩ := hP
  have hx := Bd.exec
  have hby := Bd.bytes
  have hml : c.maxLocals = 2 := hml0
  have hown : s.vm.findClass "com/example/assemble_quorum/assemblequorum/service/Round" = some m.cls := findClass_of_methodNamed Bd.named
  have hnm := (name_of_methodNamed Bd.named Bd.method).1
  have X0 : Stand p l e ({ frames := 0, cells := 0, slots := 0, locals := 0 } : Room) s m #[(.ref ob0), (.ref ob1)] below meth c s₁ [] 0 0 := Stand.of_body Bd
  have e0 : s₁.heap = h0 := by rw [← hh, Bd.state]; rfl
  have N0 := Fr.nil n0
  have Z0 : n0 ≤ h0.size := O0.1 ▸ O0.2.1
  have g0 : ∀ t, Steps p.tables e below (s₁.setTop (mkF m 0 #[.val (.ref ob0), .val (.ref ob1)] [])) t → Steps p.tables e below (s₁.setTop (entryFrame m #[(.ref ob0), (.ref ob1)] 2)) t := fun t k => castTop (own_ef45 m (ob0) (ob1)) k
  have G0 := G
  obtain ⟨S_CS, hcs, S_WF, hwf⟩ := G
  obtain ⟨T1, X1, e1, st1⟩ := getF X0 hx hZ hown (host := "") (Or.inl (own_w hw 176 rfl)) Via.refl e0 F_ob0_priorCandidate (g := (mkF m 1 #[.val (.ref ob0), .val (.ref ob1)] [(.ref ob0)])) rfl rfl (hb hby own_d29_1)
  obtain ⟨T2, X2, e2, st2⟩ := getF X1 hx hZ hown (host := "") (Or.inl (own_w hw 176 rfl)) Via.refl e1 F_ob0_priorCandidate (g := (mkF m 8 #[.val (.ref ob0), .val (.ref ob1)] [(.ref ob0)])) rfl rfl (hb hby own_d29_8)
  have g3 : ∀ t, Steps p.tables e below (T2.setTop (mkF m 15 #[.val (.ref ob0), .val (.ref ob1)] [(.ref ob0_priorCandidate)])) t → Steps p.tables e below (s₁.setTop (entryFrame m #[(.ref ob0), (.ref ob1)] 2)) t := by
    intro t k
    refine g0 t ?_
    show Steps p.tables e below (s₁.setTop (mkF m 0 #[.val (.ref ob0), .val (.ref ob1)] [])) _
    refine XS.aloadN X0.here hx rfl (hb hby own_d29_0) rfl rfl ?_
    refine st1 _ ?_
    refine XS.ifnullNo X1.here hx rfl (hb hby own_d29_4) rfl ?_
    show Steps p.tables e below (T1.setTop (mkF m 7 #[.val (.ref ob0), .val (.ref ob1)] [])) _
    refine XS.aloadN X1.here hx rfl (hb hby own_d29_7) rfl rfl ?_
    refine st2 _ ?_
    refine XS.goto X2.here hx rfl (pc0 := 11) (pc' := 15) rfl (hb hby own_d29_11) (by decide) (by decide) ?_
    exact k
  obtain ⟨fs, hrt, hrun, hended, hW, hsame⟩ := X2.leave (v := some (.ref ob0_priorCandidate)) (fun h => by rw [Bd.returns] at h; cases h)
  refine ⟨_, _, g3 _ ?_, hrun, hended, _, _, rfl, ?_, ⟨_, rfl⟩, hW, hsame.mono (by decide) (by decide)⟩
  · show Steps p.tables e below (T2.setTop (mkF m 15 #[.val (.ref ob0), .val (.ref ob1)] [(.ref ob0_priorCandidate)])) _
    jvm_step X2.here [X2.here.top, hx, (hb hby own_d29_15), X2.method', Bd.returns, Value.isRef, FieldType.isReference]
    first | (intro acts; rw [hrt _ acts rfl rfl rfl]) | rw [hrt _ _ rfl rfl rfl]
    exact Steps.refl _
  · show own_Q_rmA43 Z ob0 ob0_priorCandidate ob0_priorNumber ob1 cs wf h0 n0 _ T2.heap _
    rw [e2]
    exact ⟨rfl, N0, rfl⟩
theorem own_ef46 (m : MethodId) (x0 : Addr) (x2 : Addr) : entryFrame m #[(.ref x0), .null, (.ref x2)] 3 = mkF m 0 #[.val (.ref x0), .val .null, .val (.ref x2)] [] := by first | (simp [entryFrame, mkF, argsToLocals, Value.category]; done) | rfl
def own_Q_rmA44 (Z : State) (ob0 : Addr) (ob0_priorCandidate : Addr) (ob0_priorCandidate_host : Addr) (ob0_priorCandidate_host_value : Addr) (k_ob0_priorCandidate_host_value : ClassId) (ob0_priorCandidate_port : Int32) (ob0_priorNumber : Addr) (ob0_priorNumber_counter : Int64) (ob2 : Addr) (ob2_host : Addr) (ob2_host_value : Addr) (k_ob2_host_value : ClassId) (ob2_port : Int32)  (cs : Int32) (wf : Value) (h0 : Heap) (n0 : Nat) (v : Option Value) (h : Heap) (L : List Loc) : Prop := v = none ∧ Fr n0 L ∧ h = h0
set_option maxRecDepth 65536 in
set_option maxHeartbeats 40000000 in
theorem rmA44 (l : Launch) (Z : State) (a0 : Array Value) (hw : ∀ d ∈ tables_1, d.before a0 Z = true) (ws : List Jvm.Cond) (ob0 : Addr) (ob0_priorCandidate : Addr) (ob0_priorCandidate_host : Addr) (ob0_priorCandidate_host_value : Addr) (k_ob0_priorCandidate_host_value : ClassId) (ob0_priorCandidate_port : Int32) (ob0_priorNumber : Addr) (ob0_priorNumber_counter : Int64) (ob2 : Addr) (ob2_host : Addr) (ob2_host_value : Addr) (k_ob2_host_value : ClassId) (ob2_port : Int32)  (cs : Int32) (wf : Value) (h0 : Heap) (n0 : Nat) (O0 : Old Z n0 h0) (G : own_Gl Z cs wf) (E_ob0 : Exa Z h0 ob0 "com/example/assemble_quorum/assemblequorum/service/Round") (E_ob0_priorCandidate : Exa Z h0 ob0_priorCandidate "com/example/assemble_quorum/assemblequorum/model/MemberAddress") (E_ob0_priorCandidate_host : Exa Z h0 ob0_priorCandidate_host "java/lang/String") (F_ob0_priorCandidate_host_coder : Fld Z h0 ob0_priorCandidate_host "java/lang/String" "coder" "B" (.int (0 : Int32))) (V_ob0_priorCandidate_host_value : Arv Z h0 ob0_priorCandidate_host_value k_ob0_priorCandidate_host_value .byte (1 : Int32) [(.int (99 : Int32))] (.int (0 : Int32))) (F_ob0_priorCandidate_host_value : Fld Z h0 ob0_priorCandidate_host "java/lang/String" "value" "[B" (.ref ob0_priorCandidate_host_value)) (F_ob0_priorCandidate_host : Fld Z h0 ob0_priorCandidate "com/example/assemble_quorum/assemblequorum/model/MemberAddress" "host" "Ljava/lang/String;" (.ref ob0_priorCandidate_host)) (F_ob0_priorCandidate_port : Fld Z h0 ob0_priorCandidate "com/example/assemble_quorum/assemblequorum/model/MemberAddress" "port" "I" (.int ob0_priorCandidate_port)) (F_ob0_priorCandidate : Fld Z h0 ob0 "com/example/assemble_quorum/assemblequorum/service/Round" "priorCandidate" "Lcom/example/assemble_quorum/assemblequorum/model/MemberAddress;" (.ref ob0_priorCandidate)) (E_ob0_priorNumber : Exa Z h0 ob0_priorNumber "com/example/assemble_quorum/assemblequorum/model/ProposalNumber") (F_ob0_priorNumber_counter : Fld Z h0 ob0_priorNumber "com/example/assemble_quorum/assemblequorum/model/ProposalNumber" "counter" "J" (.long ob0_priorNumber_counter)) (F_ob0_priorNumber_proposer : Fld Z h0 ob0_priorNumber "com/example/assemble_quorum/assemblequorum/model/ProposalNumber" "proposer" "Lcom/example/assemble_quorum/assemblequorum/model/MemberAddress;" (.ref ob0_priorCandidate)) (F_ob0_priorNumber : Fld Z h0 ob0 "com/example/assemble_quorum/assemblequorum/service/Round" "priorNumber" "Lcom/example/assemble_quorum/assemblequorum/model/ProposalNumber;" (.ref ob0_priorNumber)) (E_ob2 : Exa Z h0 ob2 "com/example/assemble_quorum/assemblequorum/model/MemberAddress") (E_ob2_host : Exa Z h0 ob2_host "java/lang/String") (F_ob2_host_coder : Fld Z h0 ob2_host "java/lang/String" "coder" "B" (.int (0 : Int32))) (V_ob2_host_value : Arv Z h0 ob2_host_value k_ob2_host_value .byte (1 : Int32) [(.int (99 : Int32))] (.int (0 : Int32))) (F_ob2_host_value : Fld Z h0 ob2_host "java/lang/String" "value" "[B" (.ref ob2_host_value)) (F_ob2_host : Fld Z h0 ob2 "com/example/assemble_quorum/assemblequorum/model/MemberAddress" "host" "Ljava/lang/String;" (.ref ob2_host)) (F_ob2_port : Fld Z h0 ob2 "com/example/assemble_quorum/assemblequorum/model/MemberAddress" "port" "I" (.int ob2_port)) :
    MetFree l own_y26 (head1 (Jvm.Cond.code own_y26 prog_46_method_19_code 3 none :: ws) ({ frames := 0, cells := 0, slots := 0, locals := 0 } : Room)) (fun a U => a = #[(.ref ob0), .null, (.ref ob2)] ∧ Z.Warmed39 U.vm ∧ U.heap = h0) (fun _ _ _ _ _ => True) (fun _ U o U' => ∃ v L, o = .returned v ∧ own_Q_rmA44 Z ob0 ob0_priorCandidate ob0_priorCandidate_host ob0_priorCandidate_host_value k_ob0_priorCandidate_host_value ob0_priorCandidate_port ob0_priorNumber ob0_priorNumber_counter ob2 ob2_host ob2_host_value k_ob2_host_value ob2_port cs wf h0 n0 v U'.heap L ∧ FrameEnd U o U' L ({ frames := 0, cells := 0, slots := 0, locals := 0 } : Room).cells ({ frames := 0, cells := 0, slots := 0, locals := 0 } : Room).slots) := by
  refine MetFree.of_bodySF (plainFor_of_name own_pn7) hisR ?_
  intro p e s m args below meth c s₁ Bd hml0 hP hK
  obtain ⟨rfl, hZ, hh⟩ := hP
  have hx := Bd.exec
  have hby := Bd.bytes
  have hml : c.maxLocals = 3 := hml0
  have hown : s.vm.findClass "com/example/assemble_quorum/assemblequorum/service/Round" = some m.cls := findClass_of_methodNamed Bd.named
  have hnm := (name_of_methodNamed Bd.named Bd.method).1
  have X0 : Stand p l e ({ frames := 0, cells := 0, slots := 0, locals := 0 } : Room) s m #[(.ref ob0), .null, (.ref ob2)] below meth c s₁ [] 0 0 := Stand.of_body Bd
  have e0 : s₁.heap = h0 := by rw [← hh, Bd.state]; rfl
  have N0 := Fr.nil n0
  have Z0 : n0 ≤ h0.size := O0.1 ▸ O0.2.1
  have g0 : ∀ t, Steps p.tables e below (s₁.setTop (mkF m 0 #[.val (.ref ob0), .val .null, .val (.ref ob2)] [])) t → Steps p.tables e below (s₁.setTop (entryFrame m #[(.ref ob0), .null, (.ref ob2)] 3)) t := fun t k => castTop (own_ef46 m (ob0) (ob2)) k
  have G0 := G
  obtain ⟨S_CS, hcs, S_WF, hwf⟩ := G
  have g1 : ∀ t, Steps p.tables e below (s₁.setTop (mkF m 32 #[.val (.ref ob0), .val .null, .val (.ref ob2)] [])) t → Steps p.tables e below (s₁.setTop (entryFrame m #[(.ref ob0), .null, (.ref ob2)] 3)) t := by
    intro t k
    refine g0 t ?_
    show Steps p.tables e below (s₁.setTop (mkF m 0 #[.val (.ref ob0), .val .null, .val (.ref ob2)] [])) _
    refine XS.aloadN X0.here hx rfl (hb hby own_d28_0) rfl rfl ?_
    refine XS.ifnullYes X0.here hx rfl (pc0 := 1) (pc' := 32) rfl (hb hby own_d28_1) rfl (by decide) (by decide) ?_
    exact k
  obtain ⟨fs, hrt, hrun, hended, hW, hsame⟩ := X0.leave (v := none) (fun _ => rfl)
  refine ⟨_, _, g1 _ ?_, hrun, hended, _, _, rfl, ?_, ⟨_, rfl⟩, hW, hsame.mono (by decide) (by decide)⟩
  · show Steps p.tables e below (s₁.setTop (mkF m 32 #[.val (.ref ob0), .val .null, .val (.ref ob2)] [])) _
    exact X0.returnOut hx Bd.returns (hb hby own_d28_32) hrt
  · show own_Q_rmA44 Z ob0 ob0_priorCandidate ob0_priorCandidate_host ob0_priorCandidate_host_value k_ob0_priorCandidate_host_value ob0_priorCandidate_port ob0_priorNumber ob0_priorNumber_counter ob2 ob2_host ob2_host_value k_ob2_host_value ob2_port cs wf h0 n0 _ s₁.heap _
    rw [e0]
    exact ⟨rfl, N0, rfl⟩
theorem own_ef47 (m : MethodId) (x0 : Addr) (x1 : Addr) (x2 : Addr) : entryFrame m #[(.ref x0), (.ref x1), (.ref x2)] 3 = mkF m 0 #[.val (.ref x0), .val (.ref x1), .val (.ref x2)] [] := by first | (simp [entryFrame, mkF, argsToLocals, Value.category]; done) | rfl
theorem own_d28_11 : decode prog_46_method_19_code 11 = .ok (.aload_n 1, 1) := by decide +kernel
theorem own_d28_12 : decode prog_46_method_19_code 12 = .ok (.aload_n 0, 1) := by decide +kernel
theorem own_d28_13 : decode prog_46_method_19_code 13 = .ok (.getfield 92, 3) := by decide +kernel
theorem own_d28_16 : decode prog_46_method_19_code 16 = .ok (.invokevirtual 95, 3) := by decide +kernel
abbrev own_y28 : MethodName := ⟨"com/example/assemble_quorum/assemblequorum/model/ProposalNumber", "compareTo", "(Lcom/example/assemble_quorum/assemblequorum/model/ProposalNumber;)I"⟩
theorem own_ef48 (m : MethodId) (x0 : Addr) (x1 : Addr) : entryFrame m #[(.ref x0), (.ref x1)] 3 = mkF m 0 #[.val (.ref x0), .val (.ref x1), .unset] [] := by first | (simp [entryFrame, mkF, argsToLocals, Value.category]; done) | rfl
theorem own_d30_0 : decode prog_33_method_4_code 0 = .ok (.aload_n 0, 1) := by decide +kernel
theorem own_d30_1 : decode prog_33_method_4_code 1 = .ok (.getfield 22, 3) := by decide +kernel
theorem own_d30_4 : decode prog_33_method_4_code 4 = .ok (.aload_n 1, 1) := by decide +kernel
theorem own_d30_5 : decode prog_33_method_4_code 5 = .ok (.getfield 22, 3) := by decide +kernel
theorem own_d30_8 : decode prog_33_method_4_code 8 = .ok (.invokestatic 31, 3) := by decide +kernel
abbrev own_y29 : MethodName := ⟨"java/lang/Long", "compare", "(JJ)I"⟩
theorem own_ef49 (m : MethodId) (x0 : Int64) (x1 : Int64) : entryFrame m #[(.long x0), (.long x1)] 4 = mkF m 0 #[.val (.long x0), .second, .val (.long x1), .second] [] := by first | (simp [entryFrame, mkF, argsToLocals, Value.category]; done) | rfl
theorem own_pn13 : plainName "java/lang/Long" = true := by first | (simp [plainName, overriddenIn]; done) | decide +kernel
theorem own_d31_0 : decode jdk_35_method_42_code 0 = .ok (.lload_n 0, 1) := by decide +kernel
theorem own_d31_1 : decode jdk_35_method_42_code 1 = .ok (.lload_n 2, 1) := by decide +kernel
theorem own_d31_2 : decode jdk_35_method_42_code 2 = .ok (.lcmp, 1) := by decide +kernel
theorem own_d31_3 : decode jdk_35_method_42_code 3 = .ok (.ifCond .ge 7, 3) := by decide +kernel
theorem own_d31_6 : decode jdk_35_method_42_code 6 = .ok (.iconst (-1), 1) := by decide +kernel
theorem own_d31_7 : decode jdk_35_method_42_code 7 = .ok (.goto 14, 3) := by decide +kernel
theorem own_d31_21 : decode jdk_35_method_42_code 21 = .ok (.ireturn, 1) := by decide +kernel
theorem own_d31_10 : decode jdk_35_method_42_code 10 = .ok (.lload_n 0, 1) := by decide +kernel
theorem own_d31_11 : decode jdk_35_method_42_code 11 = .ok (.lload_n 2, 1) := by decide +kernel
theorem own_d31_12 : decode jdk_35_method_42_code 12 = .ok (.lcmp, 1) := by decide +kernel
theorem own_d31_13 : decode jdk_35_method_42_code 13 = .ok (.ifCond .ne 7, 3) := by decide +kernel
theorem own_d31_16 : decode jdk_35_method_42_code 16 = .ok (.iconst 0, 1) := by decide +kernel
theorem own_d31_17 : decode jdk_35_method_42_code 17 = .ok (.goto 4, 3) := by decide +kernel
theorem own_d31_20 : decode jdk_35_method_42_code 20 = .ok (.iconst 1, 1) := by decide +kernel
def own_Q_rmA47 (Z : State) (p0 : Int64) (p1 : Int64) (r : Int32) (cs : Int32) (wf : Value) (h0 : Heap) (n0 : Nat) (v : Option Value) (h : Heap) (L : List Loc) : Prop := v = some (.int r) ∧ Fr n0 L ∧ h = h0
set_option maxRecDepth 65536 in
set_option maxHeartbeats 40000000 in
theorem rmA47 (l : Launch) (Z : State) (a0 : Array Value) (hw : ∀ d ∈ tables_1, d.before a0 Z = true) (ws : List Jvm.Cond) (p0 : Int64) (p1 : Int64) (r : Int32) (cs : Int32) (wf : Value) (h0 : Heap) (n0 : Nat) (O0 : Old Z n0 h0) (G : own_Gl Z cs wf) (hr : (if p0 < p1 then (-1 : Int32) else if p0 = p1 then (0 : Int32) else (1 : Int32)) = r) :
    MetFree l own_y29 (head1 (Jvm.Cond.code own_y29 jdk_35_method_42_code 4 (some .int) :: ws) ({ frames := 0, cells := 0, slots := 0, locals := 0 } : Room)) (fun a U => a = #[(.long p0), (.long p1)] ∧ Z.Warmed39 U.vm ∧ U.heap = h0) (fun _ _ _ _ _ => True) (fun _ U o U' => ∃ v L, o = .returned v ∧ own_Q_rmA47 Z p0 p1 r cs wf h0 n0 v U'.heap L ∧ FrameEnd U o U' L ({ frames := 0, cells := 0, slots := 0, locals := 0 } : Room).cells ({ frames := 0, cells := 0, slots := 0, locals := 0 } : Room).slots) := by
  refine MetFree.of_bodySF (plainFor_of_name own_pn13) hisR ?_
  intro p e s m args below meth c s₁ Bd hml0 hP hK
  obtain ⟨rfl, hZ, hh⟩ := hP
  have hx := Bd.exec
  have hby := Bd.bytes
  have hml : c.maxLocals = 4 := hml0
  have hown : s.vm.findClass "java/lang/Long" = some m.cls := findClass_of_methodNamed Bd.named
  have hnm := (name_of_methodNamed Bd.named Bd.method).1
  have X0 : Stand p l e ({ frames := 0, cells := 0, slots := 0, locals := 0 } : Room) s m #[(.long p0), (.long p1)] below meth c s₁ [] 0 0 := Stand.of_body Bd
  have e0 : s₁.heap = h0 := by rw [← hh, Bd.state]; rfl
  have N0 := Fr.nil n0
  have Z0 : n0 ≤ h0.size := O0.1 ▸ O0.2.1
  have g0 : ∀ t, Steps p.tables e below (s₁.setTop (mkF m 0 #[.val (.long p0), .second, .val (.long p1), .second] [])) t → Steps p.tables e below (s₁.setTop (entryFrame m #[(.long p0), (.long p1)] 4)) t := fun t k => castTop (own_ef49 m (p0) (p1)) k
  have G0 := G
  obtain ⟨S_CS, hcs, S_WF, hwf⟩ := G
  have g2 : ∀ t, Steps p.tables e below (s₁.setTop (mkF m 3 #[.val (.long p0), .second, .val (.long p1), .second] [(.int (lcmpW p0 p1))])) t → Steps p.tables e below (s₁.setTop (entryFrame m #[(.long p0), (.long p1)] 4)) t := by
    intro t k
    refine g0 t ?_
    show Steps p.tables e below (s₁.setTop (mkF m 0 #[.val (.long p0), .second, .val (.long p1), .second] [])) _
    refine XS.lloadN X0.here hx rfl (hb hby own_d31_0) rfl ?_
    refine XS.lloadN X0.here hx rfl (hb hby own_d31_1) rfl ?_
    refine XS.lcmp X0.here hx rfl (hb hby own_d31_2) rfl ?_
    exact k
  by_cases hc1 : p0 < p1
  · have g3 : ∀ t, Steps p.tables e below (s₁.setTop (mkF m 21 #[.val (.long p0), .second, .val (.long p1), .second] [(.int (-1 : Int32))])) t → Steps p.tables e below (s₁.setTop (entryFrame m #[(.long p0), (.long p1)] 4)) t := by
      intro t k
      refine g2 t ?_
      show Steps p.tables e below (s₁.setTop (mkF m 3 #[.val (.long p0), .second, .val (.long p1), .second] [(.int (lcmpW p0 p1))])) _
      refine XS.ifNo X0.here hx rfl (hb hby own_d31_3) rfl ((if0 _ _).trans (tlt ((lw_lt _ _).mpr hc1)).2.1) ?_
      refine XS.iconst X0.here hx rfl (hb hby own_d31_6) ?_
      refine XS.goto X0.here hx rfl (pc0 := 7) (pc' := 21) rfl (hb hby own_d31_7) (by decide) (by decide) ?_
      exact k
    obtain ⟨fs, hrt, hrun, hended, hW, hsame⟩ := X0.leave (v := some (.int (-1 : Int32))) (fun h => by rw [Bd.returns] at h; cases h)
    refine ⟨_, _, g3 _ ?_, hrun, hended, _, _, rfl, ?_, ⟨_, rfl⟩, hW, hsame.mono (by decide) (by decide)⟩
    · show Steps p.tables e below (s₁.setTop (mkF m 21 #[.val (.long p0), .second, .val (.long p1), .second] [(.int (-1 : Int32))])) _
      exact retI X0 hx Bd.returns (hb hby own_d31_21) hrt
    · show own_Q_rmA47 Z p0 p1 r cs wf h0 n0 _ s₁.heap _
      rw [e0]
      exact ⟨by rw [← hr, if_pos hc1], N0, rfl⟩
  · have g5 : ∀ t, Steps p.tables e below (s₁.setTop (mkF m 13 #[.val (.long p0), .second, .val (.long p1), .second] [(.int (lcmpW p0 p1))])) t → Steps p.tables e below (s₁.setTop (entryFrame m #[(.long p0), (.long p1)] 4)) t := by
      intro t k
      refine g2 t ?_
      show Steps p.tables e below (s₁.setTop (mkF m 3 #[.val (.long p0), .second, .val (.long p1), .second] [(.int (lcmpW p0 p1))])) _
      refine XS.ifYes X0.here hx rfl (pc0 := 3) (pc' := 10) rfl (hb hby own_d31_3) rfl ((if0 _ _).trans (flt (fun q => hc1 ((lw_lt _ _).mp q))).2.1) (by decide) (by decide) ?_
      refine XS.lloadN X0.here hx rfl (hb hby own_d31_10) rfl ?_
      refine XS.lloadN X0.here hx rfl (hb hby own_d31_11) rfl ?_
      show Steps p.tables e below (s₁.setTop (mkF m 12 #[.val (.long p0), .second, .val (.long p1), .second] [(.long p1), (.long p0)])) _
      refine XS.lcmp X0.here hx rfl (hb hby own_d31_12) rfl ?_
      exact k
    by_cases hc4 : p0 = p1
    · have g6 : ∀ t, Steps p.tables e below (s₁.setTop (mkF m 21 #[.val (.long p0), .second, .val (.long p1), .second] [(.int (0 : Int32))])) t → Steps p.tables e below (s₁.setTop (entryFrame m #[(.long p0), (.long p1)] 4)) t := by
        intro t k
        refine g5 t ?_
        show Steps p.tables e below (s₁.setTop (mkF m 13 #[.val (.long p0), .second, .val (.long p1), .second] [(.int (lcmpW p0 p1))])) _
        refine XS.ifNo X0.here hx rfl (hb hby own_d31_13) rfl ((if0 _ _).trans (teq ((lw_eq _ _).mpr hc4)).2) ?_
        refine XS.iconst X0.here hx rfl (hb hby own_d31_16) ?_
        refine XS.goto X0.here hx rfl (pc0 := 17) (pc' := 21) rfl (hb hby own_d31_17) (by decide) (by decide) ?_
        exact k
      obtain ⟨fs, hrt, hrun, hended, hW, hsame⟩ := X0.leave (v := some (.int (0 : Int32))) (fun h => by rw [Bd.returns] at h; cases h)
      refine ⟨_, _, g6 _ ?_, hrun, hended, _, _, rfl, ?_, ⟨_, rfl⟩, hW, hsame.mono (by decide) (by decide)⟩
      · show Steps p.tables e below (s₁.setTop (mkF m 21 #[.val (.long p0), .second, .val (.long p1), .second] [(.int (0 : Int32))])) _
        exact retI X0 hx Bd.returns (hb hby own_d31_21) hrt
      · show own_Q_rmA47 Z p0 p1 r cs wf h0 n0 _ s₁.heap _
        rw [e0]
        exact ⟨by rw [← hr, if_neg hc1, if_pos hc4], N0, rfl⟩
    · have g7 : ∀ t, Steps p.tables e below (s₁.setTop (mkF m 21 #[.val (.long p0), .second, .val (.long p1), .second] [(.int (1 : Int32))])) t → Steps p.tables e below (s₁.setTop (entryFrame m #[(.long p0), (.long p1)] 4)) t := by
        intro t k
        refine g5 t ?_
        show Steps p.tables e below (s₁.setTop (mkF m 13 #[.val (.long p0), .second, .val (.long p1), .second] [(.int (lcmpW p0 p1))])) _
        refine XS.ifYes X0.here hx rfl (pc0 := 13) (pc' := 20) rfl (hb hby own_d31_13) rfl ((if0 _ _).trans (feq (fun q => hc4 ((lw_eq _ _).mp q))).2) (by decide) (by decide) ?_
        refine XS.iconst X0.here hx rfl (hb hby own_d31_20) ?_
        exact k
      obtain ⟨fs, hrt, hrun, hended, hW, hsame⟩ := X0.leave (v := some (.int (1 : Int32))) (fun h => by rw [Bd.returns] at h; cases h)
      refine ⟨_, _, g7 _ ?_, hrun, hended, _, _, rfl, ?_, ⟨_, rfl⟩, hW, hsame.mono (by decide) (by decide)⟩
      · show Steps p.tables e below (s₁.setTop (mkF m 21 #[.val (.long p0), .second, .val (.long p1), .second] [(.int (1 : Int32))])) _
        exact retI X0 hx Bd.returns (hb hby own_d31_21) hrt
      · show own_Q_rmA47 Z p0 p1 r cs wf h0 n0 _ s₁.heap _
        rw [e0]
        exact ⟨by rw [← hr, if_neg hc1, if_neg hc4], N0, rfl⟩
theorem own_pd19 : parseMethodDescriptor "(JJ)I" = some ⟨[.long, .long], some .int⟩ := by decide +kernel
theorem own_d30_11 : decode prog_33_method_4_code 11 = .ok (.istore_n 2, 1) := by decide +kernel
theorem own_d30_12 : decode prog_33_method_4_code 12 = .ok (.iload_n 2, 1) := by decide +kernel
theorem own_d30_13 : decode prog_33_method_4_code 13 = .ok (.ifCond .eq 7, 3) := by decide +kernel
theorem own_d30_16 : decode prog_33_method_4_code 16 = .ok (.iload_n 2, 1) := by decide +kernel
theorem own_d30_17 : decode prog_33_method_4_code 17 = .ok (.goto 14, 3) := by decide +kernel
theorem own_d30_31 : decode prog_33_method_4_code 31 = .ok (.ireturn, 1) := by decide +kernel
theorem own_d30_20 : decode prog_33_method_4_code 20 = .ok (.aload_n 0, 1) := by decide +kernel
theorem own_d30_21 : decode prog_33_method_4_code 21 = .ok (.getfield 28, 3) := by decide +kernel
theorem own_d30_24 : decode prog_33_method_4_code 24 = .ok (.aload_n 1, 1) := by decide +kernel
theorem own_d30_25 : decode prog_33_method_4_code 25 = .ok (.getfield 28, 3) := by decide +kernel
theorem own_d30_28 : decode prog_33_method_4_code 28 = .ok (.invokevirtual 37, 3) := by decide +kernel
abbrev own_y30 : MethodName := ⟨"com/example/assemble_quorum/assemblequorum/model/MemberAddress", "compareTo", "(Lcom/example/assemble_quorum/assemblequorum/model/MemberAddress;)I"⟩
theorem own_ef50 (m : MethodId) (x0 : Addr) (x1 : Addr) : entryFrame m #[(.ref x0), (.ref x1)] 3 = mkF m 0 #[.val (.ref x0), .val (.ref x1), .unset] [] := by first | (simp [entryFrame, mkF, argsToLocals, Value.category]; done) | rfl
theorem own_d32_0 : decode prog_30_method_5_code 0 = .ok (.aload_n 0, 1) := by decide +kernel
theorem own_d32_1 : decode prog_30_method_5_code 1 = .ok (.getfield 28, 3) := by decide +kernel
theorem own_d32_4 : decode prog_30_method_5_code 4 = .ok (.aload_n 1, 1) := by decide +kernel
theorem own_d32_5 : decode prog_30_method_5_code 5 = .ok (.getfield 28, 3) := by decide +kernel
theorem own_d32_8 : decode prog_30_method_5_code 8 = .ok (.invokevirtual 76, 3) := by decide +kernel
abbrev own_y31 : MethodName := ⟨"java/lang/String", "compareTo", "(Ljava/lang/String;)I"⟩
theorem own_ef51 (m : MethodId) (x0 : Addr) (x1 : Addr) : entryFrame m #[(.ref x0), (.ref x1)] 5 = mkF m 0 #[.val (.ref x0), .val (.ref x1), .unset, .unset, .unset] [] := by first | (simp [entryFrame, mkF, argsToLocals, Value.category]; done) | rfl
theorem own_d33_0 : decode jdk_42_method_71_code 0 = .ok (.aload_n 0, 1) := by decide +kernel
theorem own_d33_1 : decode jdk_42_method_71_code 1 = .ok (.getfield 9, 3) := by decide +kernel
theorem own_d33_4 : decode jdk_42_method_71_code 4 = .ok (.astore_n 2, 1) := by decide +kernel
theorem own_d33_5 : decode jdk_42_method_71_code 5 = .ok (.aload_n 1, 1) := by decide +kernel
theorem own_d33_6 : decode jdk_42_method_71_code 6 = .ok (.getfield 9, 3) := by decide +kernel
theorem own_d33_9 : decode jdk_42_method_71_code 9 = .ok (.astore_n 3, 1) := by decide +kernel
theorem own_d33_10 : decode jdk_42_method_71_code 10 = .ok (.aload_n 0, 1) := by decide +kernel
theorem own_d33_11 : decode jdk_42_method_71_code 11 = .ok (.invokevirtual 335, 3) := by decide +kernel
theorem own_d33_14 : decode jdk_42_method_71_code 14 = .ok (.istore 4, 2) := by decide +kernel
theorem own_d33_16 : decode jdk_42_method_71_code 16 = .ok (.iload 4, 2) := by decide +kernel
theorem own_d33_18 : decode jdk_42_method_71_code 18 = .ok (.aload_n 1, 1) := by decide +kernel
theorem own_d33_19 : decode jdk_42_method_71_code 19 = .ok (.invokevirtual 335, 3) := by decide +kernel
theorem own_d33_22 : decode jdk_42_method_71_code 22 = .ok (.if_icmp .ne 22, 3) := by decide +kernel
theorem own_d33_25 : decode jdk_42_method_71_code 25 = .ok (.iload 4, 2) := by decide +kernel
theorem own_d33_27 : decode jdk_42_method_71_code 27 = .ok (.ifCond .ne 11, 3) := by decide +kernel
theorem own_d33_30 : decode jdk_42_method_71_code 30 = .ok (.aload_n 2, 1) := by decide +kernel
theorem own_d33_31 : decode jdk_42_method_71_code 31 = .ok (.aload_n 3, 1) := by decide +kernel
theorem own_d33_32 : decode jdk_42_method_71_code 32 = .ok (.invokestatic 586, 3) := by decide +kernel
abbrev own_y32 : MethodName := ⟨"java/lang/StringLatin1", "compareTo", "([B[B)I"⟩
theorem own_ef52 (m : MethodId) (x0 : Addr) (x1 : Addr) : entryFrame m #[(.ref x0), (.ref x1)] 4 = mkF m 0 #[.val (.ref x0), .val (.ref x1), .unset, .unset] [] := by first | (simp [entryFrame, mkF, argsToLocals, Value.category]; done) | rfl
theorem own_d34_0 : decode jdk_43_method_14_code 0 = .ok (.aload_n 0, 1) := by decide +kernel
theorem own_d34_1 : decode jdk_43_method_14_code 1 = .ok (.arraylength, 1) := by decide +kernel
theorem own_d34_2 : decode jdk_43_method_14_code 2 = .ok (.istore_n 2, 1) := by decide +kernel
theorem own_d34_3 : decode jdk_43_method_14_code 3 = .ok (.aload_n 1, 1) := by decide +kernel
theorem own_d34_4 : decode jdk_43_method_14_code 4 = .ok (.arraylength, 1) := by decide +kernel
theorem own_d34_5 : decode jdk_43_method_14_code 5 = .ok (.istore_n 3, 1) := by decide +kernel
theorem own_d34_6 : decode jdk_43_method_14_code 6 = .ok (.aload_n 0, 1) := by decide +kernel
theorem own_d34_7 : decode jdk_43_method_14_code 7 = .ok (.aload_n 1, 1) := by decide +kernel
theorem own_d34_8 : decode jdk_43_method_14_code 8 = .ok (.iload_n 2, 1) := by decide +kernel
theorem own_d34_9 : decode jdk_43_method_14_code 9 = .ok (.iload_n 3, 1) := by decide +kernel
theorem own_d34_10 : decode jdk_43_method_14_code 10 = .ok (.invokestatic 34, 3) := by decide +kernel
abbrev own_y33 : MethodName := ⟨"java/lang/StringLatin1", "compareTo", "([B[BII)I"⟩
theorem own_ef53 (m : MethodId) (x0 : Addr) (x1 : Addr) (x2 : Int32) (x3 : Int32) : entryFrame m #[(.ref x0), (.ref x1), (.int x2), (.int x3)] 6 = mkF m 0 #[.val (.ref x0), .val (.ref x1), .val (.int x2), .val (.int x3), .unset, .unset] [] := by first | (simp [entryFrame, mkF, argsToLocals, Value.category]; done) | rfl
theorem own_d35_0 : decode jdk_43_method_15_code 0 = .ok (.iload_n 2, 1) := by decide +kernel
theorem own_d35_1 : decode jdk_43_method_15_code 1 = .ok (.iload_n 3, 1) := by decide +kernel
theorem own_d35_2 : decode jdk_43_method_15_code 2 = .ok (.invokestatic 38, 3) := by decide +kernel
theorem own_d35_5 : decode jdk_43_method_15_code 5 = .ok (.istore 4, 2) := by decide +kernel
theorem own_d35_7 : decode jdk_43_method_15_code 7 = .ok (.aload_n 0, 1) := by decide +kernel
theorem own_d35_8 : decode jdk_43_method_15_code 8 = .ok (.aload_n 1, 1) := by decide +kernel
theorem own_d35_9 : decode jdk_43_method_15_code 9 = .ok (.iload 4, 2) := by decide +kernel
theorem own_d35_11 : decode jdk_43_method_15_code 11 = .ok (.invokestatic 44, 3) := by decide +kernel
abbrev own_y34 : MethodName := ⟨"jdk/internal/util/ArraysSupport", "mismatch", "([B[BI)I"⟩
theorem own_ef54 (m : MethodId) (x0 : Addr) (x1 : Addr) (x2 : Int32) : entryFrame m #[(.ref x0), (.ref x1), (.int x2)] 4 = mkF m 0 #[.val (.ref x0), .val (.ref x1), .val (.int x2), .unset] [] := by first | (simp [entryFrame, mkF, argsToLocals, Value.category]; done) | rfl
theorem own_pn14 : plainName "jdk/internal/util/ArraysSupport" = true := by first | (simp [plainName, overriddenIn]; done) | decide +kernel
theorem own_d36_0 : decode jdk_48_method_13_code 0 = .ok (.iconst 0, 1) := by decide +kernel
theorem own_d36_1 : decode jdk_48_method_13_code 1 = .ok (.istore_n 3, 1) := by decide +kernel
theorem own_d36_2 : decode jdk_48_method_13_code 2 = .ok (.iload_n 2, 1) := by decide +kernel
theorem own_d36_3 : decode jdk_48_method_13_code 3 = .ok (.bipush 7, 2) := by decide +kernel
theorem own_d36_5 : decode jdk_48_method_13_code 5 = .ok (.if_icmp .le 44, 3) := by decide +kernel
theorem own_d36_49 : decode jdk_48_method_13_code 49 = .ok (.iload_n 3, 1) := by decide +kernel
theorem own_d36_50 : decode jdk_48_method_13_code 50 = .ok (.iload_n 2, 1) := by decide +kernel
theorem own_d36_51 : decode jdk_48_method_13_code 51 = .ok (.if_icmp .ge 20, 3) := by decide +kernel
theorem own_d36_54 : decode jdk_48_method_13_code 54 = .ok (.aload_n 0, 1) := by decide +kernel
theorem own_d36_55 : decode jdk_48_method_13_code 55 = .ok (.iload_n 3, 1) := by decide +kernel
theorem own_d36_56 : decode jdk_48_method_13_code 56 = .ok (.baload, 1) := by decide +kernel
theorem own_d36_57 : decode jdk_48_method_13_code 57 = .ok (.aload_n 1, 1) := by decide +kernel
theorem own_d36_58 : decode jdk_48_method_13_code 58 = .ok (.iload_n 3, 1) := by decide +kernel
theorem own_d36_59 : decode jdk_48_method_13_code 59 = .ok (.baload, 1) := by decide +kernel
theorem own_d36_60 : decode jdk_48_method_13_code 60 = .ok (.if_icmp .eq 5, 3) := by decide +kernel
theorem own_d36_65 : decode jdk_48_method_13_code 65 = .ok (.iinc 3 1, 3) := by decide +kernel
theorem own_d36_68 : decode jdk_48_method_13_code 68 = .ok (.goto (-19), 3) := by decide +kernel
theorem own_d36_71 : decode jdk_48_method_13_code 71 = .ok (.iconst (-1), 1) := by decide +kernel
theorem own_d36_72 : decode jdk_48_method_13_code 72 = .ok (.ireturn, 1) := by decide +kernel
def own_Q_rmA52 (Z : State) (ob0 : Addr) (k_ob0 : ClassId) (ob1 : Addr) (k_ob1 : ClassId)  (cs : Int32) (wf : Value) (h0 : Heap) (n0 : Nat) (v : Option Value) (h : Heap) (L : List Loc) : Prop := v = some (.int (-1 : Int32)) ∧ Fr n0 L ∧ h = h0
set_option maxRecDepth 65536 in
set_option maxHeartbeats 40000000 in
theorem rmA52 (l : Launch) (Z : State) (a0 : Array Value) (hw : ∀ d ∈ tables_1, d.before a0 Z = true) (ws : List Jvm.Cond) (ob0 : Addr) (k_ob0 : ClassId) (ob1 : Addr) (k_ob1 : ClassId)  (cs : Int32) (wf : Value) (h0 : Heap) (n0 : Nat) (O0 : Old Z n0 h0) (G : own_Gl Z cs wf) (V_ob0 : Arv Z h0 ob0 k_ob0 .byte (1 : Int32) [(.int (99 : Int32))] (.int (0 : Int32))) (V_ob1 : Arv Z h0 ob1 k_ob1 .byte (1 : Int32) [(.int (99 : Int32))] (.int (0 : Int32))) :
    MetFree l own_y34 (head1 (Jvm.Cond.code own_y34 jdk_48_method_13_code 4 (some .int) :: ws) ({ frames := 0, cells := 0, slots := 0, locals := 0 } : Room)) (fun a U => a = #[(.ref ob0), (.ref ob1), (.int (1 : Int32))] ∧ Z.Warmed39 U.vm ∧ U.heap = h0) (fun _ _ _ _ _ => True) (fun _ U o U' => ∃ v L, o = .returned v ∧ own_Q_rmA52 Z ob0 k_ob0 ob1 k_ob1 cs wf h0 n0 v U'.heap L ∧ FrameEnd U o U' L ({ frames := 0, cells := 0, slots := 0, locals := 0 } : Room).cells ({ frames := 0, cells := 0, slots := 0, locals := 0 } : Room).slots) := by
  refine MetFree.of_bodySF (plainFor_of_name own_pn14) hisR ?_
  intro p e s m args below meth c s₁ Bd hml0 hP hK
  obtain ⟨rfl, hZ, hh⟩ := hP
  have hx := Bd.exec
  have hby := Bd.bytes
  have hml : c.maxLocals = 4 := hml0
  have hown : s.vm.findClass "jdk/internal/util/ArraysSupport" = some m.cls := findClass_of_methodNamed Bd.named
  have hnm := (name_of_methodNamed Bd.named Bd.method).1
  have X0 : Stand p l e ({ frames := 0, cells := 0, slots := 0, locals := 0 } : Room) s m #[(.ref ob0), (.ref ob1), (.int (1 : Int32))] below meth c s₁ [] 0 0 := Stand.of_body Bd
  have e0 : s₁.heap = h0 := by rw [← hh, Bd.state]; rfl
  have N0 := Fr.nil n0
  have Z0 : n0 ≤ h0.size := O0.1 ▸ O0.2.1
  have g0 : ∀ t, Steps p.tables e below (s₁.setTop (mkF m 0 #[.val (.ref ob0), .val (.ref ob1), .val (.int (1 : Int32)), .unset] [])) t → Steps p.tables e below (s₁.setTop (entryFrame m #[(.ref ob0), (.ref ob1), (.int (1 : Int32))] 4)) t := fun t k => castTop (own_ef54 m (ob0) (ob1) ((1 : Int32))) k
  have G0 := G
  obtain ⟨S_CS, hcs, S_WF, hwf⟩ := G
  obtain ⟨c1, Ar1, cq1, S1, Nn1, Hh1, Gg1⟩ := id V_ob0
  have hin1 : ¬ ((0 : Int32) < 0 ∨ c1.slots.size ≤ ((0 : Int32)).toNatClampNeg) := inb_of S1 ⟨by decide, by decide⟩
  have hat1 : c1.slots[((0 : Int32)).toNatClampNeg]? = some (.int (99 : Int32)) := Has.at Hh1 hin1 rfl
  obtain ⟨c2, Ar2, cq2, S2, Nn2, Hh2, Gg2⟩ := id V_ob1
  have hin2 : ¬ ((0 : Int32) < 0 ∨ c2.slots.size ≤ ((0 : Int32)).toNatClampNeg) := inb_of S2 ⟨by decide, by decide⟩
  have hat2 : c2.slots[((0 : Int32)).toNatClampNeg]? = some (.int (99 : Int32)) := Has.at Hh2 hin2 rfl
  have g3 : ∀ t, Steps p.tables e below (s₁.setTop (mkF m 72 #[.val (.ref ob0), .val (.ref ob1), .val (.int (1 : Int32)), .val (.int (1 : Int32))] [(.int (-1 : Int32))])) t → Steps p.tables e below (s₁.setTop (entryFrame m #[(.ref ob0), (.ref ob1), (.int (1 : Int32))] 4)) t := by
    intro t k
    refine g0 t ?_
    show Steps p.tables e below (s₁.setTop (mkF m 0 #[.val (.ref ob0), .val (.ref ob1), .val (.int (1 : Int32)), .unset] [])) _
    refine XS.iconst X0.here hx rfl (hb hby own_d36_0) ?_
    refine XS.istoreN X0.here hx rfl (hb hby own_d36_1) rfl (l' := #[.val (.ref ob0), .val (.ref ob1), .val (.int (1 : Int32)), .val (.int (0 : Int32))]) rfl ?_
    refine XS.iloadN X0.here hx rfl (hb hby own_d36_2) rfl ?_
    show Steps p.tables e below (s₁.setTop (mkF m 3 #[.val (.ref ob0), .val (.ref ob1), .val (.int (1 : Int32)), .val (.int (0 : Int32))] [(.int (1 : Int32))])) _
    refine XS.bipush X0.here hx rfl (hb hby own_d36_3) ?_
    refine XS.icmpYes X0.here hx rfl (pc0 := 5) (pc' := 49) rfl (hb hby own_d36_5) rfl (flt (by decide : ¬ ((7 : Int32) < (1 : Int32)))).2.2.2 (by decide) (by decide) ?_
    refine XS.iloadN X0.here hx rfl (hb hby own_d36_49) rfl ?_
    show Steps p.tables e below (s₁.setTop (mkF m 50 #[.val (.ref ob0), .val (.ref ob1), .val (.int (1 : Int32)), .val (.int (0 : Int32))] [(.int (0 : Int32))])) _
    refine XS.iloadN X0.here hx rfl (hb hby own_d36_50) rfl ?_
    refine XS.icmpNo X0.here hx rfl (hb hby own_d36_51) rfl (tlt (by decide : (0 : Int32) < (1 : Int32))).2.1 ?_
    refine XS.aloadN X0.here hx rfl (hb hby own_d36_54) rfl rfl ?_
    show Steps p.tables e below (s₁.setTop (mkF m 55 #[.val (.ref ob0), .val (.ref ob1), .val (.int (1 : Int32)), .val (.int (0 : Int32))] [(.ref ob0)])) _
    refine XS.iloadN X0.here hx rfl (hb hby own_d36_55) rfl ?_
    refine X0.baloadBytes hx (j := (0 : Int32)) (v := (.int (99 : Int32))) (by rw [e0]; exact Ar1.1) (State.isArrayOf_alike hZ.alike Ar1.2.1) Ar1.2.2 hin1 hat1 (g := (mkF m 56 #[.val (.ref ob0), .val (.ref ob1), .val (.int (1 : Int32)), .val (.int (0 : Int32))] [(.int (0 : Int32)), (.ref ob0)])) rfl rfl (hb hby own_d36_56) _ ?_
    refine XS.aloadN X0.here hx rfl (hb hby own_d36_57) rfl rfl ?_
    show Steps p.tables e below (s₁.setTop (mkF m 58 #[.val (.ref ob0), .val (.ref ob1), .val (.int (1 : Int32)), .val (.int (0 : Int32))] [(.ref ob1), (.int (99 : Int32))])) _
    refine XS.iloadN X0.here hx rfl (hb hby own_d36_58) rfl ?_
    refine X0.baloadBytes hx (j := (0 : Int32)) (v := (.int (99 : Int32))) (by rw [e0]; exact Ar2.1) (State.isArrayOf_alike hZ.alike Ar2.2.1) Ar2.2.2 hin2 hat2 (g := (mkF m 59 #[.val (.ref ob0), .val (.ref ob1), .val (.int (1 : Int32)), .val (.int (0 : Int32))] [(.int (0 : Int32)), (.ref ob1), (.int (99 : Int32))])) rfl rfl (hb hby own_d36_59) _ ?_
    refine XS.icmpYes X0.here hx rfl (pc0 := 60) (pc' := 65) rfl (hb hby own_d36_60) rfl (teq (by decide : (99 : Int32) = (99 : Int32))).1 (by decide) (by decide) ?_
    show Steps p.tables e below (s₁.setTop (mkF m 65 #[.val (.ref ob0), .val (.ref ob1), .val (.int (1 : Int32)), .val (.int (0 : Int32))] [])) _
    refine XS.iinc X0.here hx rfl (hb hby own_d36_65) rfl (l' := #[.val (.ref ob0), .val (.ref ob1), .val (.int (1 : Int32)), .val (.int ((0 : Int32) + (1 : Int32)))]) rfl ?_
    rw [show ((0 : Int32) + (1 : Int32)) = (1 : Int32) from by decide]
    refine XS.goto X0.here hx rfl (pc0 := 68) (pc' := 49) rfl (hb hby own_d36_68) (by decide) (by decide) ?_
    refine XS.iloadN X0.here hx rfl (hb hby own_d36_49) rfl ?_
    show Steps p.tables e below (s₁.setTop (mkF m 50 #[.val (.ref ob0), .val (.ref ob1), .val (.int (1 : Int32)), .val (.int (1 : Int32))] [(.int (1 : Int32))])) _
    refine XS.iloadN X0.here hx rfl (hb hby own_d36_50) rfl ?_
    refine XS.icmpYes X0.here hx rfl (pc0 := 51) (pc' := 71) rfl (hb hby own_d36_51) rfl (flt (by decide : ¬ ((1 : Int32) < (1 : Int32)))).2.1 (by decide) (by decide) ?_
    refine XS.iconst X0.here hx rfl (hb hby own_d36_71) ?_
    exact k
  obtain ⟨fs, hrt, hrun, hended, hW, hsame⟩ := X0.leave (v := some (.int (-1 : Int32))) (fun h => by rw [Bd.returns] at h; cases h)
  refine ⟨_, _, g3 _ ?_, hrun, hended, _, _, rfl, ?_, ⟨_, rfl⟩, hW, hsame.mono (by decide) (by decide)⟩
  · show Steps p.tables e below (s₁.setTop (mkF m 72 #[.val (.ref ob0), .val (.ref ob1), .val (.int (1 : Int32)), .val (.int (1 : Int32))] [(.int (-1 : Int32))])) _
    exact retI X0 hx Bd.returns (hb hby own_d36_72) hrt
  · show own_Q_rmA52 Z ob0 k_ob0 ob1 k_ob1 cs wf h0 n0 _ s₁.heap _
    rw [e0]
    exact ⟨rfl, N0, rfl⟩
theorem own_pd20 : parseMethodDescriptor "([B[BI)I" = some ⟨[(.array .byte), (.array .byte), .int], some .int⟩ := by decide +kernel
theorem own_d35_14 : decode jdk_43_method_15_code 14 = .ok (.istore 5, 2) := by decide +kernel
theorem own_d35_16 : decode jdk_43_method_15_code 16 = .ok (.iload 5, 2) := by decide +kernel
theorem own_d35_18 : decode jdk_43_method_15_code 18 = .ok (.ifCond .ge 9, 3) := by decide +kernel
theorem own_d35_21 : decode jdk_43_method_15_code 21 = .ok (.iload_n 2, 1) := by decide +kernel
theorem own_d35_22 : decode jdk_43_method_15_code 22 = .ok (.iload_n 3, 1) := by decide +kernel
theorem own_d35_23 : decode jdk_43_method_15_code 23 = .ok (.isub, 1) := by decide +kernel
theorem own_d35_24 : decode jdk_43_method_15_code 24 = .ok (.goto 16, 3) := by decide +kernel
theorem own_d35_40 : decode jdk_43_method_15_code 40 = .ok (.ireturn, 1) := by decide +kernel
def own_Q_rmA51 (Z : State) (ob0 : Addr) (k_ob0 : ClassId) (ob1 : Addr) (k_ob1 : ClassId)  (cs : Int32) (wf : Value) (h0 : Heap) (n0 : Nat) (v : Option Value) (h : Heap) (L : List Loc) : Prop := v = some (.int (0 : Int32)) ∧ Fr n0 L ∧ h = h0
set_option maxRecDepth 65536 in
set_option maxHeartbeats 40000000 in
theorem rmA51 (l : Launch) (Z : State) (a0 : Array Value) (hw : ∀ d ∈ tables_1, d.before a0 Z = true) (ws : List Jvm.Cond) (ob0 : Addr) (k_ob0 : ClassId) (ob1 : Addr) (k_ob1 : ClassId)  (cs : Int32) (wf : Value) (h0 : Heap) (n0 : Nat) (O0 : Old Z n0 h0) (G : own_Gl Z cs wf) (V_ob0 : Arv Z h0 ob0 k_ob0 .byte (1 : Int32) [(.int (99 : Int32))] (.int (0 : Int32))) (V_ob1 : Arv Z h0 ob1 k_ob1 .byte (1 : Int32) [(.int (99 : Int32))] (.int (0 : Int32))) :
    MetFree l own_y33 (head1 (Jvm.Cond.code own_y33 jdk_43_method_15_code 6 (some .int) :: ws) ({ frames := 1, cells := 0, slots := 0, locals := 15 } : Room)) (fun a U => a = #[(.ref ob0), (.ref ob1), (.int (1 : Int32)), (.int (1 : Int32))] ∧ Z.Warmed39 U.vm ∧ U.heap = h0) (fun _ _ _ _ _ => True) (fun _ U o U' => ∃ v L, o = .returned v ∧ own_Q_rmA51 Z ob0 k_ob0 ob1 k_ob1 cs wf h0 n0 v U'.heap L ∧ FrameEnd U o U' L ({ frames := 1, cells := 0, slots := 0, locals := 15 } : Room).cells ({ frames := 1, cells := 0, slots := 0, locals := 15 } : Room).slots) := by
  refine MetFree.of_bodySF (plainFor_of_name own_pn4) hisR ?_
  intro p e s m args below meth c s₁ Bd hml0 hP hK
  obtain ⟨rfl, hZ, hh⟩ := hP
  have hx := Bd.exec
  have hby := Bd.bytes
  have hml : c.maxLocals = 6 := hml0
  have hown : s.vm.findClass "java/lang/StringLatin1" = some m.cls := findClass_of_methodNamed Bd.named
  have hnm := (name_of_methodNamed Bd.named Bd.method).1
  have X0 : Stand p l e ({ frames := 1, cells := 0, slots := 0, locals := 15 } : Room) s m #[(.ref ob0), (.ref ob1), (.int (1 : Int32)), (.int (1 : Int32))] below meth c s₁ [] 0 0 := Stand.of_body Bd
  have e0 : s₁.heap = h0 := by rw [← hh, Bd.state]; rfl
  have N0 := Fr.nil n0
  have Z0 : n0 ≤ h0.size := O0.1 ▸ O0.2.1
  have g0 : ∀ t, Steps p.tables e below (s₁.setTop (mkF m 0 #[.val (.ref ob0), .val (.ref ob1), .val (.int (1 : Int32)), .val (.int (1 : Int32)), .unset, .unset] [])) t → Steps p.tables e below (s₁.setTop (entryFrame m #[(.ref ob0), (.ref ob1), (.int (1 : Int32)), (.int (1 : Int32))] 6)) t := fun t k => castTop (own_ef53 m (ob0) (ob1) ((1 : Int32)) ((1 : Int32))) k
  have G0 := G
  obtain ⟨S_CS, hcs, S_WF, hwf⟩ := G
  obtain ⟨_, _, ⟨T1, L1, k1, n1⟩, -, X1, ⟨Lc1, hQ1, l1, y1, z1⟩, st1⟩ := Jvm.LawKit.callS X0 hx (y := own_y12) hown (mvT hZ (own_w hw 73 rfl)) (mvT hZ (own_w hw 74 rfl)) (mvT hZ (own_w hw 71 rfl)) (mvT hZ (own_w hw 75 rfl)) (by decide) (backOf (W := 0) (rmA12 l Z a0 hw []   cs wf h0 n0 O0 G0   ) hZ (own_w hw 75 rfl) (own_w hw 71 rfl) (by decide) (by decide)) (g := (mkF m 2 #[.val (.ref ob0), .val (.ref ob1), .val (.int (1 : Int32)), .val (.int (1 : Int32)), .unset, .unset] [(.int (1 : Int32)), (.int (1 : Int32))])) rfl (by rw [hml]; rfl) (argsL := [(.int (1 : Int32)), (.int (1 : Int32))]) (rest := []) (lenOf own_pd5 rfl) rfl (by show 2 * 0 + _ ≤ _; exact Nat.le_of_eq rfl) (hb hby own_d35_2) (fun _ _ => ⟨rfl, e0, (by decide : 0 + 0 ≤ _), (by decide : 0 + 0 ≤ _)⟩)
  dsimp only [Pt.U, Pt.locs, Pt.cells, Pt.slots] at X1 l1 y1 z1 st1 hQ1
  subst l1 y1 z1
  obtain ⟨rfl, Nq1, e1⟩ := hQ1
  have N1 := Fr.app N0 Nq1
  obtain ⟨_, _, ⟨T2, L2, k2, n2⟩, -, X2, ⟨Lc2, hQ2, l2, y2, z2⟩, st2⟩ := Jvm.LawKit.callS X1 hx (y := own_y34) hown (mvT hZ (own_w hw 205 rfl)) (mvT hZ (own_w hw 206 rfl)) (mvT hZ (own_w hw 207 rfl)) (mvT hZ (own_w hw 208 rfl)) (by decide) (backOf (W := 0) (rmA52 l Z a0 hw [] ob0 k_ob0 ob1 k_ob1  cs wf h0 n0 O0 G0 V_ob0 V_ob1  ) hZ (own_w hw 208 rfl) (own_w hw 207 rfl) (by decide) (by decide)) (g := (mkF m 11 #[.val (.ref ob0), .val (.ref ob1), .val (.int (1 : Int32)), .val (.int (1 : Int32)), .val (.int (1 : Int32)), .unset] [(.int (1 : Int32)), (.ref ob1), (.ref ob0)])) rfl (by rw [hml]; rfl) (argsL := [(.ref ob0), (.ref ob1), (.int (1 : Int32))]) (rest := []) (lenOf own_pd20 rfl) rfl (by show 2 * 0 + _ ≤ _; exact Nat.le_of_eq rfl) (hb hby own_d35_11) (fun _ _ => ⟨rfl, e1, (by decide : 0 + 0 ≤ _), (by decide : 0 + 0 ≤ _)⟩)
  dsimp only [Pt.U, Pt.locs, Pt.cells, Pt.slots] at X2 l2 y2 z2 st2 hQ2
  subst l2 y2 z2
  obtain ⟨rfl, Nq2, e2⟩ := hQ2
  have N2 := Fr.app N1 Nq2
  have g3 : ∀ t, Steps p.tables e below (T2.setTop (mkF m 40 #[.val (.ref ob0), .val (.ref ob1), .val (.int (1 : Int32)), .val (.int (1 : Int32)), .val (.int (1 : Int32)), .val (.int (-1 : Int32))] [(.int (0 : Int32))])) t → Steps p.tables e below (s₁.setTop (entryFrame m #[(.ref ob0), (.ref ob1), (.int (1 : Int32)), (.int (1 : Int32))] 6)) t := by
    intro t k
    refine g0 t ?_
    show Steps p.tables e below (s₁.setTop (mkF m 0 #[.val (.ref ob0), .val (.ref ob1), .val (.int (1 : Int32)), .val (.int (1 : Int32)), .unset, .unset] [])) _
    refine XS.iloadN X0.here hx rfl (hb hby own_d35_0) rfl ?_
    refine XS.iloadN X0.here hx rfl (hb hby own_d35_1) rfl ?_
    refine st1 _ ?_
    show Steps p.tables e below (T1.setTop (mkF m 5 #[.val (.ref ob0), .val (.ref ob1), .val (.int (1 : Int32)), .val (.int (1 : Int32)), .unset, .unset] [(.int (1 : Int32))])) _
    refine XS.istore X1.here hx rfl (hb hby own_d35_5) rfl (l' := #[.val (.ref ob0), .val (.ref ob1), .val (.int (1 : Int32)), .val (.int (1 : Int32)), .val (.int (1 : Int32)), .unset]) rfl ?_
    refine XS.aloadN X1.here hx rfl (hb hby own_d35_7) rfl rfl ?_
    refine XS.aloadN X1.here hx rfl (hb hby own_d35_8) rfl rfl ?_
    show Steps p.tables e below (T1.setTop (mkF m 9 #[.val (.ref ob0), .val (.ref ob1), .val (.int (1 : Int32)), .val (.int (1 : Int32)), .val (.int (1 : Int32)), .unset] [(.ref ob1), (.ref ob0)])) _
    refine XS.iload X1.here hx rfl (hb hby own_d35_9) rfl ?_
    refine st2 _ ?_
    refine XS.istore X2.here hx rfl (hb hby own_d35_14) rfl (l' := #[.val (.ref ob0), .val (.ref ob1), .val (.int (1 : Int32)), .val (.int (1 : Int32)), .val (.int (1 : Int32)), .val (.int (-1 : Int32))]) rfl ?_
    show Steps p.tables e below (T2.setTop (mkF m 16 #[.val (.ref ob0), .val (.ref ob1), .val (.int (1 : Int32)), .val (.int (1 : Int32)), .val (.int (1 : Int32)), .val (.int (-1 : Int32))] [])) _
    refine XS.iload X2.here hx rfl (hb hby own_d35_16) rfl ?_
    refine XS.ifNo X2.here hx rfl (hb hby own_d35_18) rfl ((if0 _ _).trans (tlt (by decide : (-1 : Int32) < (0 : Int32))).2.1) ?_
    refine XS.iloadN X2.here hx rfl (hb hby own_d35_21) rfl ?_
    show Steps p.tables e below (T2.setTop (mkF m 22 #[.val (.ref ob0), .val (.ref ob1), .val (.int (1 : Int32)), .val (.int (1 : Int32)), .val (.int (1 : Int32)), .val (.int (-1 : Int32))] [(.int (1 : Int32))])) _
    refine XS.iloadN X2.here hx rfl (hb hby own_d35_22) rfl ?_
    show Steps p.tables e below (T2.setTop (mkF m 23 #[.val (.ref ob0), .val (.ref ob1), .val (.int (1 : Int32)), .val (.int (1 : Int32)), .val (.int (1 : Int32)), .val (.int (-1 : Int32))] [(.int (1 : Int32)), (.int (1 : Int32))])) _
    refine XS.isub X2.here hx rfl (hb hby own_d35_23) rfl ?_
    rw [show ((1 : Int32) - (1 : Int32)) = (0 : Int32) from by decide]
    refine XS.goto X2.here hx rfl (pc0 := 24) (pc' := 40) rfl (hb hby own_d35_24) (by decide) (by decide) ?_
    exact k
  obtain ⟨fs, hrt, hrun, hended, hW, hsame⟩ := X2.leave (v := some (.int (0 : Int32))) (fun h => by rw [Bd.returns] at h; cases h)
  refine ⟨_, _, g3 _ ?_, hrun, hended, _, _, rfl, ?_, ⟨_, rfl⟩, hW, hsame.mono (by decide) (by decide)⟩
  · show Steps p.tables e below (T2.setTop (mkF m 40 #[.val (.ref ob0), .val (.ref ob1), .val (.int (1 : Int32)), .val (.int (1 : Int32)), .val (.int (1 : Int32)), .val (.int (-1 : Int32))] [(.int (0 : Int32))])) _
    exact retI X2 hx Bd.returns (hb hby own_d35_40) hrt
  · show own_Q_rmA51 Z ob0 k_ob0 ob1 k_ob1 cs wf h0 n0 _ T2.heap _
    rw [e2]
    exact ⟨rfl, N2, rfl⟩
theorem own_pd21 : parseMethodDescriptor "([B[BII)I" = some ⟨[(.array .byte), (.array .byte), .int, .int], some .int⟩ := by decide +kernel
theorem own_d34_13 : decode jdk_43_method_14_code 13 = .ok (.ireturn, 1) := by decide +kernel
def own_Q_rmA50 (Z : State) (ob0 : Addr) (k_ob0 : ClassId) (ob1 : Addr) (k_ob1 : ClassId)  (cs : Int32) (wf : Value) (h0 : Heap) (n0 : Nat) (v : Option Value) (h : Heap) (L : List Loc) : Prop := v = some (.int (0 : Int32)) ∧ Fr n0 L ∧ h = h0
set_option maxRecDepth 65536 in
set_option maxHeartbeats 40000000 in
theorem rmA50 (l : Launch) (Z : State) (a0 : Array Value) (hw : ∀ d ∈ tables_1, d.before a0 Z = true) (ws : List Jvm.Cond) (ob0 : Addr) (k_ob0 : ClassId) (ob1 : Addr) (k_ob1 : ClassId)  (cs : Int32) (wf : Value) (h0 : Heap) (n0 : Nat) (O0 : Old Z n0 h0) (G : own_Gl Z cs wf) (V_ob0 : Arv Z h0 ob0 k_ob0 .byte (1 : Int32) [(.int (99 : Int32))] (.int (0 : Int32))) (V_ob1 : Arv Z h0 ob1 k_ob1 .byte (1 : Int32) [(.int (99 : Int32))] (.int (0 : Int32))) :
    MetFree l own_y32 (head1 (Jvm.Cond.code own_y32 jdk_43_method_14_code 4 (some .int) :: ws) ({ frames := 2, cells := 0, slots := 0, locals := 32 } : Room)) (fun a U => a = #[(.ref ob0), (.ref ob1)] ∧ Z.Warmed39 U.vm ∧ U.heap = h0) (fun _ _ _ _ _ => True) (fun _ U o U' => ∃ v L, o = .returned v ∧ own_Q_rmA50 Z ob0 k_ob0 ob1 k_ob1 cs wf h0 n0 v U'.heap L ∧ FrameEnd U o U' L ({ frames := 2, cells := 0, slots := 0, locals := 32 } : Room).cells ({ frames := 2, cells := 0, slots := 0, locals := 32 } : Room).slots) := by
  refine MetFree.of_bodySF (plainFor_of_name own_pn4) hisR ?_
  intro p e s m args below meth c s₁ Bd hml0 hP hK
  obtain ⟨rfl, hZ, hh⟩ := hP
  have hx := Bd.exec
  have hby := Bd.bytes
  have hml : c.maxLocals = 4 := hml0
  have hown : s.vm.findClass "java/lang/StringLatin1" = some m.cls := findClass_of_methodNamed Bd.named
  have hnm := (name_of_methodNamed Bd.named Bd.method).1
  have X0 : Stand p l e ({ frames := 2, cells := 0, slots := 0, locals := 32 } : Room) s m #[(.ref ob0), (.ref ob1)] below meth c s₁ [] 0 0 := Stand.of_body Bd
  have e0 : s₁.heap = h0 := by rw [← hh, Bd.state]; rfl
  have N0 := Fr.nil n0
  have Z0 : n0 ≤ h0.size := O0.1 ▸ O0.2.1
  have g0 : ∀ t, Steps p.tables e below (s₁.setTop (mkF m 0 #[.val (.ref ob0), .val (.ref ob1), .unset, .unset] [])) t → Steps p.tables e below (s₁.setTop (entryFrame m #[(.ref ob0), (.ref ob1)] 4)) t := fun t k => castTop (own_ef52 m (ob0) (ob1)) k
  have G0 := G
  obtain ⟨S_CS, hcs, S_WF, hwf⟩ := G
  obtain ⟨c1, Ar1, cq1, S1, Nn1, Hh1, Gg1⟩ := id V_ob0
  obtain ⟨c2, Ar2, cq2, S2, Nn2, Hh2, Gg2⟩ := id V_ob1
  obtain ⟨_, _, ⟨T3, L3, k3, n3⟩, -, X3, ⟨Lc3, hQ3, l3, y3, z3⟩, st3⟩ := Jvm.LawKit.callS X0 hx (y := own_y33) hown (mvT hZ (own_w hw 202 rfl)) (mvT hZ (own_w hw 203 rfl)) (mvT hZ (own_w hw 64 rfl)) (mvT hZ (own_w hw 204 rfl)) (by decide) (backOf (W := 0) (rmA51 l Z a0 hw [] ob0 k_ob0 ob1 k_ob1  cs wf h0 n0 O0 G0 V_ob0 V_ob1  ) hZ (own_w hw 204 rfl) (own_w hw 64 rfl) (by decide) (by decide)) (g := (mkF m 10 #[.val (.ref ob0), .val (.ref ob1), .val (.int (1 : Int32)), .val (.int (1 : Int32))] [(.int (1 : Int32)), (.int (1 : Int32)), (.ref ob1), (.ref ob0)])) rfl (by rw [hml]; rfl) (argsL := [(.ref ob0), (.ref ob1), (.int (1 : Int32)), (.int (1 : Int32))]) (rest := []) (lenOf own_pd21 rfl) rfl (by show 2 * 0 + _ ≤ _; exact Nat.le_of_eq rfl) (hb hby own_d34_10) (fun _ _ => ⟨rfl, e0, (by decide : 0 + 0 ≤ _), (by decide : 0 + 0 ≤ _)⟩)
  dsimp only [Pt.U, Pt.locs, Pt.cells, Pt.slots] at X3 l3 y3 z3 st3 hQ3
  subst l3 y3 z3
  obtain ⟨rfl, Nq3, e3⟩ := hQ3
  have N3 := Fr.app N0 Nq3
  have g4 : ∀ t, Steps p.tables e below (T3.setTop (mkF m 13 #[.val (.ref ob0), .val (.ref ob1), .val (.int (1 : Int32)), .val (.int (1 : Int32))] [(.int (0 : Int32))])) t → Steps p.tables e below (s₁.setTop (entryFrame m #[(.ref ob0), (.ref ob1)] 4)) t := by
    intro t k
    refine g0 t ?_
    show Steps p.tables e below (s₁.setTop (mkF m 0 #[.val (.ref ob0), .val (.ref ob1), .unset, .unset] [])) _
    refine XS.aloadN X0.here hx rfl (hb hby own_d34_0) rfl rfl ?_
    show Steps p.tables e below (s₁.setTop (mkF m 1 #[.val (.ref ob0), .val (.ref ob1), .unset, .unset] [(.ref ob0)])) _
    refine X0.arraylength hx (by rw [e0]; exact Ar1.1) (State.isArrayOf_alike hZ.alike Ar1.2.1) (g := (mkF m 1 #[.val (.ref ob0), .val (.ref ob1), .unset, .unset] [(.ref ob0)])) rfl rfl (hb hby own_d34_1) _ ?_
    rw [len_of S1 Nn1]
    refine XS.istoreN X0.here hx rfl (hb hby own_d34_2) rfl (l' := #[.val (.ref ob0), .val (.ref ob1), .val (.int (1 : Int32)), .unset]) rfl ?_
    show Steps p.tables e below (s₁.setTop (mkF m 3 #[.val (.ref ob0), .val (.ref ob1), .val (.int (1 : Int32)), .unset] [])) _
    refine XS.aloadN X0.here hx rfl (hb hby own_d34_3) rfl rfl ?_
    show Steps p.tables e below (s₁.setTop (mkF m 4 #[.val (.ref ob0), .val (.ref ob1), .val (.int (1 : Int32)), .unset] [(.ref ob1)])) _
    refine X0.arraylength hx (by rw [e0]; exact Ar2.1) (State.isArrayOf_alike hZ.alike Ar2.2.1) (g := (mkF m 4 #[.val (.ref ob0), .val (.ref ob1), .val (.int (1 : Int32)), .unset] [(.ref ob1)])) rfl rfl (hb hby own_d34_4) _ ?_
    rw [len_of S2 Nn2]
    refine XS.istoreN X0.here hx rfl (hb hby own_d34_5) rfl (l' := #[.val (.ref ob0), .val (.ref ob1), .val (.int (1 : Int32)), .val (.int (1 : Int32))]) rfl ?_
    show Steps p.tables e below (s₁.setTop (mkF m 6 #[.val (.ref ob0), .val (.ref ob1), .val (.int (1 : Int32)), .val (.int (1 : Int32))] [])) _
    refine XS.aloadN X0.here hx rfl (hb hby own_d34_6) rfl rfl ?_
    refine XS.aloadN X0.here hx rfl (hb hby own_d34_7) rfl rfl ?_
    refine XS.iloadN X0.here hx rfl (hb hby own_d34_8) rfl ?_
    show Steps p.tables e below (s₁.setTop (mkF m 9 #[.val (.ref ob0), .val (.ref ob1), .val (.int (1 : Int32)), .val (.int (1 : Int32))] [(.int (1 : Int32)), (.ref ob1), (.ref ob0)])) _
    refine XS.iloadN X0.here hx rfl (hb hby own_d34_9) rfl ?_
    refine st3 _ ?_
    exact k
  obtain ⟨fs, hrt, hrun, hended, hW, hsame⟩ := X3.leave (v := some (.int (0 : Int32))) (fun h => by rw [Bd.returns] at h; cases h)
  refine ⟨_, _, g4 _ ?_, hrun, hended, _, _, rfl, ?_, ⟨_, rfl⟩, hW, hsame.mono (by decide) (by decide)⟩
  · show Steps p.tables e below (T3.setTop (mkF m 13 #[.val (.ref ob0), .val (.ref ob1), .val (.int (1 : Int32)), .val (.int (1 : Int32))] [(.int (0 : Int32))])) _
    exact retI X3 hx Bd.returns (hb hby own_d34_13) hrt
  · show own_Q_rmA50 Z ob0 k_ob0 ob1 k_ob1 cs wf h0 n0 _ T3.heap _
    rw [e3]
    exact ⟨rfl, N3, rfl⟩
theorem own_pd22 : parseMethodDescriptor "([B[B)I" = some ⟨[(.array .byte), (.array .byte)], some .int⟩ := by decide +kernel
theorem own_d33_35 : decode jdk_42_method_71_code 35 = .ok (.goto 8, 3) := by decide +kernel
theorem own_d33_43 : decode jdk_42_method_71_code 43 = .ok (.ireturn, 1) := by decide +kernel
def own_Q_rmA49 (Z : State) (ob0 : Addr) (ob0_value : Addr) (k_ob0_value : ClassId) (ob1 : Addr) (ob1_value : Addr) (k_ob1_value : ClassId)  (cs : Int32) (wf : Value) (h0 : Heap) (n0 : Nat) (v : Option Value) (h : Heap) (L : List Loc) : Prop := v = some (.int (0 : Int32)) ∧ Fr n0 L ∧ h = h0
set_option maxRecDepth 65536 in
set_option maxHeartbeats 40000000 in
theorem rmA49 (l : Launch) (Z : State) (a0 : Array Value) (hw : ∀ d ∈ tables_1, d.before a0 Z = true) (ws : List Jvm.Cond) (ob0 : Addr) (ob0_value : Addr) (k_ob0_value : ClassId) (ob1 : Addr) (ob1_value : Addr) (k_ob1_value : ClassId)  (cs : Int32) (wf : Value) (h0 : Heap) (n0 : Nat) (O0 : Old Z n0 h0) (G : own_Gl Z cs wf) (E_ob0 : Exa Z h0 ob0 "java/lang/String") (F_ob0_coder : Fld Z h0 ob0 "java/lang/String" "coder" "B" (.int (0 : Int32))) (V_ob0_value : Arv Z h0 ob0_value k_ob0_value .byte (1 : Int32) [(.int (99 : Int32))] (.int (0 : Int32))) (F_ob0_value : Fld Z h0 ob0 "java/lang/String" "value" "[B" (.ref ob0_value)) (E_ob1 : Exa Z h0 ob1 "java/lang/String") (F_ob1_coder : Fld Z h0 ob1 "java/lang/String" "coder" "B" (.int (0 : Int32))) (V_ob1_value : Arv Z h0 ob1_value k_ob1_value .byte (1 : Int32) [(.int (99 : Int32))] (.int (0 : Int32))) (F_ob1_value : Fld Z h0 ob1 "java/lang/String" "value" "[B" (.ref ob1_value)) :
    MetFree l own_y31 (head1 (Jvm.Cond.code own_y31 jdk_42_method_71_code 5 (some .int) :: ws) ({ frames := 3, cells := 0, slots := 0, locals := 47 } : Room)) (fun a U => a = #[(.ref ob0), (.ref ob1)] ∧ Z.Warmed39 U.vm ∧ U.heap = h0) (fun _ _ _ _ _ => True) (fun _ U o U' => ∃ v L, o = .returned v ∧ own_Q_rmA49 Z ob0 ob0_value k_ob0_value ob1 ob1_value k_ob1_value cs wf h0 n0 v U'.heap L ∧ FrameEnd U o U' L ({ frames := 3, cells := 0, slots := 0, locals := 47 } : Room).cells ({ frames := 3, cells := 0, slots := 0, locals := 47 } : Room).slots) := by
  refine MetFree.of_bodySF (plainFor_of_name own_pn3) hisR ?_
  intro p e s m args below meth c s₁ Bd hml0 hP hK
  obtain ⟨rfl, hZ, hh⟩ := hP
  have hx := Bd.exec
  have hby := Bd.bytes
  have hml : c.maxLocals = 5 := hml0
  have hown : s.vm.findClass "java/lang/String" = some m.cls := findClass_of_methodNamed Bd.named
  have hnm := (name_of_methodNamed Bd.named Bd.method).1
  have X0 : Stand p l e ({ frames := 3, cells := 0, slots := 0, locals := 47 } : Room) s m #[(.ref ob0), (.ref ob1)] below meth c s₁ [] 0 0 := Stand.of_body Bd
  have e0 : s₁.heap = h0 := by rw [← hh, Bd.state]; rfl
  have N0 := Fr.nil n0
  have Z0 : n0 ≤ h0.size := O0.1 ▸ O0.2.1
  have g0 : ∀ t, Steps p.tables e below (s₁.setTop (mkF m 0 #[.val (.ref ob0), .val (.ref ob1), .unset, .unset, .unset] [])) t → Steps p.tables e below (s₁.setTop (entryFrame m #[(.ref ob0), (.ref ob1)] 5)) t := fun t k => castTop (own_ef51 m (ob0) (ob1)) k
  have G0 := G
  obtain ⟨S_CS, hcs, S_WF, hwf⟩ := G
  obtain ⟨T1, X1, e1, st1⟩ := getF X0 hx hZ hown (host := "") (Or.inl (own_w hw 33 rfl)) Via.refl e0 F_ob0_value (g := (mkF m 1 #[.val (.ref ob0), .val (.ref ob1), .unset, .unset, .unset] [(.ref ob0)])) rfl rfl (hb hby own_d33_1)
  obtain ⟨T2, X2, e2, st2⟩ := getF X1 hx hZ hown (host := "") (Or.inl (own_w hw 33 rfl)) Via.refl e1 F_ob1_value (g := (mkF m 6 #[.val (.ref ob0), .val (.ref ob1), .val (.ref ob0_value), .unset, .unset] [(.ref ob1)])) rfl rfl (hb hby own_d33_6)
  obtain ⟨cq3, kq3, q3a, q3b, q3c⟩ := isOf hZ e2 E_ob0
  obtain ⟨_, _, ⟨T3, L3, k3, n3⟩, -, X3, ⟨Lc3, hQ3, l3, y3, z3⟩, st3⟩ := X2.virtualBack hx (y := own_y5) (z := own_y5) hown (mvT hZ (own_w hw 39 rfl)) (mvT hZ (own_w hw 40 rfl)) (notFace_of_selects (args := #[]) (mvT hZ (own_w hw 42 rfl))) (mvT hZ (own_w hw 42 rfl)) (mvT hZ (own_w hw 41 rfl)) (by decide) (backOf (W := 0) (rmA24 l Z a0 hw [] ob0 ob0_value k_ob0_value  cs wf h0 n0 O0 G0 E_ob0 F_ob0_coder V_ob0_value F_ob0_value  ) hZ (own_w hw 43 rfl) (own_w hw 7 rfl) (by decide) (by decide)) q3a q3c (g := (mkF m 11 #[.val (.ref ob0), .val (.ref ob1), .val (.ref ob0_value), .val (.ref ob1_value), .unset] [(.ref ob0)])) rfl (by rw [hml]; rfl) (Steps.refl _) (argsL := []) (rest := []) (lenOf own_pd2 rfl) rfl (by show 2 * 0 + _ ≤ _; exact Nat.le_of_eq rfl) (hb hby own_d33_11) (fun _ _ => ⟨rfl, e2, (by decide : 0 + 0 ≤ _), (by decide : 0 + 0 ≤ _)⟩)
  dsimp only [Pt.U, Pt.locs, Pt.cells, Pt.slots] at X3 l3 y3 z3 st3 hQ3
  subst l3 y3 z3
  obtain ⟨rfl, Nq3, e3⟩ := hQ3
  have N3 := Fr.app N0 Nq3
  obtain ⟨cq4, kq4, q4a, q4b, q4c⟩ := isOf hZ e3 E_ob1
  obtain ⟨_, _, ⟨T4, L4, k4, n4⟩, -, X4, ⟨Lc4, hQ4, l4, y4, z4⟩, st4⟩ := X3.virtualBack hx (y := own_y5) (z := own_y5) hown (mvT hZ (own_w hw 39 rfl)) (mvT hZ (own_w hw 40 rfl)) (notFace_of_selects (args := #[]) (mvT hZ (own_w hw 42 rfl))) (mvT hZ (own_w hw 42 rfl)) (mvT hZ (own_w hw 41 rfl)) (by decide) (backOf (W := 1) (rmA24 l Z a0 hw [] ob1 ob1_value k_ob1_value  cs wf h0 n0 O0 G0 E_ob1 F_ob1_coder V_ob1_value F_ob1_value  ) hZ (own_w hw 43 rfl) (own_w hw 7 rfl) (by decide) (by decide)) q4a q4c (g := (mkF m 19 #[.val (.ref ob0), .val (.ref ob1), .val (.ref ob0_value), .val (.ref ob1_value), .val (.int (0 : Int32))] [(.ref ob1), (.int (0 : Int32))])) rfl (by rw [hml]; rfl) (Steps.refl _) (argsL := []) (rest := [(.int (0 : Int32))]) (lenOf own_pd2 rfl) rfl (by show 2 * 0 + _ ≤ _; exact Nat.le_of_eq rfl) (hb hby own_d33_19) (fun _ _ => ⟨rfl, e3, (by decide : 0 + 0 ≤ _), (by decide : 0 + 0 ≤ _)⟩)
  dsimp only [Pt.U, Pt.locs, Pt.cells, Pt.slots] at X4 l4 y4 z4 st4 hQ4
  subst l4 y4 z4
  obtain ⟨rfl, Nq4, e4⟩ := hQ4
  have N4 := Fr.app N3 Nq4
  obtain ⟨_, _, ⟨T5, L5, k5, n5⟩, -, X5, ⟨Lc5, hQ5, l5, y5, z5⟩, st5⟩ := Jvm.LawKit.callS X4 hx (y := own_y32) hown (mvT hZ (own_w hw 199 rfl)) (mvT hZ (own_w hw 200 rfl)) (mvT hZ (own_w hw 64 rfl)) (mvT hZ (own_w hw 201 rfl)) (by decide) (backOf (W := 0) (rmA50 l Z a0 hw [] ob0_value k_ob0_value ob1_value k_ob1_value  cs wf h0 n0 O0 G0 V_ob0_value V_ob1_value  ) hZ (own_w hw 201 rfl) (own_w hw 64 rfl) (by decide) (by decide)) (g := (mkF m 32 #[.val (.ref ob0), .val (.ref ob1), .val (.ref ob0_value), .val (.ref ob1_value), .val (.int (0 : Int32))] [(.ref ob1_value), (.ref ob0_value)])) rfl (by rw [hml]; rfl) (argsL := [(.ref ob0_value), (.ref ob1_value)]) (rest := []) (lenOf own_pd22 rfl) rfl (by show 2 * 0 + _ ≤ _; exact Nat.le_of_eq rfl) (hb hby own_d33_32) (fun _ _ => ⟨rfl, e4, (by decide : 0 + 0 ≤ _), (by decide : 0 + 0 ≤ _)⟩)
  dsimp only [Pt.U, Pt.locs, Pt.cells, Pt.slots] at X5 l5 y5 z5 st5 hQ5
  subst l5 y5 z5
  obtain ⟨rfl, Nq5, e5⟩ := hQ5
  have N5 := Fr.app N4 Nq5
  have g6 : ∀ t, Steps p.tables e below (T5.setTop (mkF m 43 #[.val (.ref ob0), .val (.ref ob1), .val (.ref ob0_value), .val (.ref ob1_value), .val (.int (0 : Int32))] [(.int (0 : Int32))])) t → Steps p.tables e below (s₁.setTop (entryFrame m #[(.ref ob0), (.ref ob1)] 5)) t := by
    intro t k
    refine g0 t ?_
    show Steps p.tables e below (s₁.setTop (mkF m 0 #[.val (.ref ob0), .val (.ref ob1), .unset, .unset, .unset] [])) _
    refine XS.aloadN X0.here hx rfl (hb hby own_d33_0) rfl rfl ?_
    refine st1 _ ?_
    refine XS.astoreN X1.here hx rfl (hb hby own_d33_4) rfl rfl (l' := #[.val (.ref ob0), .val (.ref ob1), .val (.ref ob0_value), .unset, .unset]) rfl ?_
    show Steps p.tables e below (T1.setTop (mkF m 5 #[.val (.ref ob0), .val (.ref ob1), .val (.ref ob0_value), .unset, .unset] [])) _
    refine XS.aloadN X1.here hx rfl (hb hby own_d33_5) rfl rfl ?_
    refine st2 _ ?_
    refine XS.astoreN X2.here hx rfl (hb hby own_d33_9) rfl rfl (l' := #[.val (.ref ob0), .val (.ref ob1), .val (.ref ob0_value), .val (.ref ob1_value), .unset]) rfl ?_
    show Steps p.tables e below (T2.setTop (mkF m 10 #[.val (.ref ob0), .val (.ref ob1), .val (.ref ob0_value), .val (.ref ob1_value), .unset] [])) _
    refine XS.aloadN X2.here hx rfl (hb hby own_d33_10) rfl rfl ?_
    refine st3.trans ?_
    refine XS.istore X3.here hx rfl (hb hby own_d33_14) rfl (l' := #[.val (.ref ob0), .val (.ref ob1), .val (.ref ob0_value), .val (.ref ob1_value), .val (.int (0 : Int32))]) rfl ?_
    show Steps p.tables e below (T3.setTop (mkF m 16 #[.val (.ref ob0), .val (.ref ob1), .val (.ref ob0_value), .val (.ref ob1_value), .val (.int (0 : Int32))] [])) _
    refine XS.iload X3.here hx rfl (hb hby own_d33_16) rfl ?_
    refine XS.aloadN X3.here hx rfl (hb hby own_d33_18) rfl rfl ?_
    refine st4.trans ?_
    show Steps p.tables e below (T4.setTop (mkF m 22 #[.val (.ref ob0), .val (.ref ob1), .val (.ref ob0_value), .val (.ref ob1_value), .val (.int (0 : Int32))] [(.int (0 : Int32)), (.int (0 : Int32))])) _
    refine XS.icmpNo X4.here hx rfl (hb hby own_d33_22) rfl (teq (by decide : (0 : Int32) = (0 : Int32))).2 ?_
    refine XS.iload X4.here hx rfl (hb hby own_d33_25) rfl ?_
    refine XS.ifNo X4.here hx rfl (hb hby own_d33_27) rfl ((if0 _ _).trans (teq (by decide : (0 : Int32) = (0 : Int32))).2) ?_
    show Steps p.tables e below (T4.setTop (mkF m 30 #[.val (.ref ob0), .val (.ref ob1), .val (.ref ob0_value), .val (.ref ob1_value), .val (.int (0 : Int32))] [])) _
    refine XS.aloadN X4.here hx rfl (hb hby own_d33_30) rfl rfl ?_
    refine XS.aloadN X4.here hx rfl (hb hby own_d33_31) rfl rfl ?_
    refine st5 _ ?_
    show Steps p.tables e below (T5.setTop (mkF m 35 #[.val (.ref ob0), .val (.ref ob1), .val (.ref ob0_value), .val (.ref ob1_value), .val (.int (0 : Int32))] [(.int (0 : Int32))])) _
    refine XS.goto X5.here hx rfl (pc0 := 35) (pc' := 43) rfl (hb hby own_d33_35) (by decide) (by decide) ?_
    exact k
  obtain ⟨fs, hrt, hrun, hended, hW, hsame⟩ := X5.leave (v := some (.int (0 : Int32))) (fun h => by rw [Bd.returns] at h; cases h)
  refine ⟨_, _, g6 _ ?_, hrun, hended, _, _, rfl, ?_, ⟨_, rfl⟩, hW, hsame.mono (by decide) (by decide)⟩
  · show Steps p.tables e below (T5.setTop (mkF m 43 #[.val (.ref ob0), .val (.ref ob1), .val (.ref ob0_value), .val (.ref ob1_value), .val (.int (0 : Int32))] [(.int (0 : Int32))])) _
    exact retI X5 hx Bd.returns (hb hby own_d33_43) hrt
  · show own_Q_rmA49 Z ob0 ob0_value k_ob0_value ob1 ob1_value k_ob1_value cs wf h0 n0 _ T5.heap _
    rw [e5]
    exact ⟨rfl, N5, rfl⟩
theorem own_pd23 : parseMethodDescriptor "(Ljava/lang/String;)I" = some ⟨[(.object "java/lang/String")], some .int⟩ := by decide +kernel
theorem own_d32_11 : decode prog_30_method_5_code 11 = .ok (.istore_n 2, 1) := by decide +kernel
theorem own_d32_12 : decode prog_30_method_5_code 12 = .ok (.iload_n 2, 1) := by decide +kernel
theorem own_d32_13 : decode prog_30_method_5_code 13 = .ok (.ifCond .eq 7, 3) := by decide +kernel
theorem own_d32_20 : decode prog_30_method_5_code 20 = .ok (.aload_n 0, 1) := by decide +kernel
theorem own_d32_21 : decode prog_30_method_5_code 21 = .ok (.getfield 31, 3) := by decide +kernel
theorem own_d32_24 : decode prog_30_method_5_code 24 = .ok (.aload_n 1, 1) := by decide +kernel
theorem own_d32_25 : decode prog_30_method_5_code 25 = .ok (.getfield 31, 3) := by decide +kernel
theorem own_d32_28 : decode prog_30_method_5_code 28 = .ok (.invokestatic 79, 3) := by decide +kernel
abbrev own_y35 : MethodName := ⟨"java/lang/Integer", "compare", "(II)I"⟩
theorem own_ef55 (m : MethodId) (x0 : Int32) (x1 : Int32) : entryFrame m #[(.int x0), (.int x1)] 2 = mkF m 0 #[.val (.int x0), .val (.int x1)] [] := by first | (simp [entryFrame, mkF, argsToLocals, Value.category]; done) | rfl
theorem own_pn15 : plainName "java/lang/Integer" = true := by first | (simp [plainName, overriddenIn]; done) | decide +kernel
theorem own_d37_0 : decode jdk_33_method_40_code 0 = .ok (.iload_n 0, 1) := by decide +kernel
theorem own_d37_1 : decode jdk_33_method_40_code 1 = .ok (.iload_n 1, 1) := by decide +kernel
theorem own_d37_2 : decode jdk_33_method_40_code 2 = .ok (.if_icmp .ge 7, 3) := by decide +kernel
theorem own_d37_5 : decode jdk_33_method_40_code 5 = .ok (.iconst (-1), 1) := by decide +kernel
theorem own_d37_6 : decode jdk_33_method_40_code 6 = .ok (.goto 13, 3) := by decide +kernel
theorem own_d37_19 : decode jdk_33_method_40_code 19 = .ok (.ireturn, 1) := by decide +kernel
theorem own_d37_9 : decode jdk_33_method_40_code 9 = .ok (.iload_n 0, 1) := by decide +kernel
theorem own_d37_10 : decode jdk_33_method_40_code 10 = .ok (.iload_n 1, 1) := by decide +kernel
theorem own_d37_11 : decode jdk_33_method_40_code 11 = .ok (.if_icmp .ne 7, 3) := by decide +kernel
theorem own_d37_14 : decode jdk_33_method_40_code 14 = .ok (.iconst 0, 1) := by decide +kernel
theorem own_d37_15 : decode jdk_33_method_40_code 15 = .ok (.goto 4, 3) := by decide +kernel
theorem own_d37_18 : decode jdk_33_method_40_code 18 = .ok (.iconst 1, 1) := by decide +kernel
def own_Q_rmA53 (Z : State) (p0 : Int32) (p1 : Int32) (r : Int32) (cs : Int32) (wf : Value) (h0 : Heap) (n0 : Nat) (v : Option Value) (h : Heap) (L : List Loc) : Prop := v = some (.int r) ∧ Fr n0 L ∧ h = h0
set_option maxRecDepth 65536 in
set_option maxHeartbeats 40000000 in
theorem rmA53 (l : Launch) (Z : State) (a0 : Array Value) (hw : ∀ d ∈ tables_1, d.before a0 Z = true) (ws : List Jvm.Cond) (p0 : Int32) (p1 : Int32) (r : Int32) (cs : Int32) (wf : Value) (h0 : Heap) (n0 : Nat) (O0 : Old Z n0 h0) (G : own_Gl Z cs wf) (hr : (if p0 < p1 then (-1 : Int32) else if p0 = p1 then (0 : Int32) else (1 : Int32)) = r) :
    MetFree l own_y35 (head1 (Jvm.Cond.code own_y35 jdk_33_method_40_code 2 (some .int) :: ws) ({ frames := 0, cells := 0, slots := 0, locals := 0 } : Room)) (fun a U => a = #[(.int p0), (.int p1)] ∧ Z.Warmed39 U.vm ∧ U.heap = h0) (fun _ _ _ _ _ => True) (fun _ U o U' => ∃ v L, o = .returned v ∧ own_Q_rmA53 Z p0 p1 r cs wf h0 n0 v U'.heap L ∧ FrameEnd U o U' L ({ frames := 0, cells := 0, slots := 0, locals := 0 } : Room).cells ({ frames := 0, cells := 0, slots := 0, locals := 0 } : Room).slots) := by
  refine MetFree.of_bodySF (plainFor_of_name own_pn15) hisR ?_
  intro p e s m args below meth c s₁ Bd hml0 hP hK
  obtain ⟨rfl, hZ, hh⟩ := hP
  have hx := Bd.exec
  have hby := Bd.bytes
  have hml : c.maxLocals = 2 := hml0
  have hown : s.vm.findClass "java/lang/Integer" = some m.cls := findClass_of_methodNamed Bd.named
  have hnm := (name_of_methodNamed Bd.named Bd.method).1
  have X0 : Stand p l e ({ frames := 0, cells := 0, slots := 0, locals := 0 } : Room) s m #[(.int p0), (.int p1)] below meth c s₁ [] 0 0 := Stand.of_body Bd
  have e0 : s₁.heap = h0 := by rw [← hh, Bd.state]; rfl
  have N0 := Fr.nil n0
  have Z0 : n0 ≤ h0.size := O0.1 ▸ O0.2.1
  have g0 : ∀ t, Steps p.tables e below (s₁.setTop (mkF m 0 #[.val (.int p0), .val (.int p1)] [])) t → Steps p.tables e below (s₁.setTop (entryFrame m #[(.int p0), (.int p1)] 2)) t := fun t k => castTop (own_ef55 m (p0) (p1)) k
  have G0 := G
  obtain ⟨S_CS, hcs, S_WF, hwf⟩ := G
  have g2 : ∀ t, Steps p.tables e below (s₁.setTop (mkF m 2 #[.val (.int p0), .val (.int p1)] [(.int p1), (.int p0)])) t → Steps p.tables e below (s₁.setTop (entryFrame m #[(.int p0), (.int p1)] 2)) t := by
    intro t k
    refine g0 t ?_
    show Steps p.tables e below (s₁.setTop (mkF m 0 #[.val (.int p0), .val (.int p1)] [])) _
    refine XS.iloadN X0.here hx rfl (hb hby own_d37_0) rfl ?_
    refine XS.iloadN X0.here hx rfl (hb hby own_d37_1) rfl ?_
    exact k
  by_cases hc1 : p0 < p1
  · have g3 : ∀ t, Steps p.tables e below (s₁.setTop (mkF m 19 #[.val (.int p0), .val (.int p1)] [(.int (-1 : Int32))])) t → Steps p.tables e below (s₁.setTop (entryFrame m #[(.int p0), (.int p1)] 2)) t := by
      intro t k
      refine g2 t ?_
      show Steps p.tables e below (s₁.setTop (mkF m 2 #[.val (.int p0), .val (.int p1)] [(.int p1), (.int p0)])) _
      refine XS.icmpNo X0.here hx rfl (hb hby own_d37_2) rfl (tlt hc1).2.1 ?_
      refine XS.iconst X0.here hx rfl (hb hby own_d37_5) ?_
      refine XS.goto X0.here hx rfl (pc0 := 6) (pc' := 19) rfl (hb hby own_d37_6) (by decide) (by decide) ?_
      exact k
    obtain ⟨fs, hrt, hrun, hended, hW, hsame⟩ := X0.leave (v := some (.int (-1 : Int32))) (fun h => by rw [Bd.returns] at h; cases h)
    refine ⟨_, _, g3 _ ?_, hrun, hended, _, _, rfl, ?_, ⟨_, rfl⟩, hW, hsame.mono (by decide) (by decide)⟩
    · show Steps p.tables e below (s₁.setTop (mkF m 19 #[.val (.int p0), .val (.int p1)] [(.int (-1 : Int32))])) _
      exact retI X0 hx Bd.returns (hb hby own_d37_19) hrt
    · show own_Q_rmA53 Z p0 p1 r cs wf h0 n0 _ s₁.heap _
      rw [e0]
      exact ⟨by rw [← hr, if_pos hc1], N0, rfl⟩
  · have g5 : ∀ t, Steps p.tables e below (s₁.setTop (mkF m 11 #[.val (.int p0), .val (.int p1)] [(.int p1), (.int p0)])) t → Steps p.tables e below (s₁.setTop (entryFrame m #[(.int p0), (.int p1)] 2)) t := by
      intro t k
      refine g2 t ?_
      show Steps p.tables e below (s₁.setTop (mkF m 2 #[.val (.int p0), .val (.int p1)] [(.int p1), (.int p0)])) _
      refine XS.icmpYes X0.here hx rfl (pc0 := 2) (pc' := 9) rfl (hb hby own_d37_2) rfl (flt hc1).2.1 (by decide) (by decide) ?_
      refine XS.iloadN X0.here hx rfl (hb hby own_d37_9) rfl ?_
      refine XS.iloadN X0.here hx rfl (hb hby own_d37_10) rfl ?_
      exact k
    by_cases hc4 : p0 = p1
    · have g6 : ∀ t, Steps p.tables e below (s₁.setTop (mkF m 19 #[.val (.int p0), .val (.int p1)] [(.int (0 : Int32))])) t → Steps p.tables e below (s₁.setTop (entryFrame m #[(.int p0), (.int p1)] 2)) t := by
        intro t k
        refine g5 t ?_
        show Steps p.tables e below (s₁.setTop (mkF m 11 #[.val (.int p0), .val (.int p1)] [(.int p1), (.int p0)])) _
        refine XS.icmpNo X0.here hx rfl (hb hby own_d37_11) rfl (teq hc4).2 ?_
        refine XS.iconst X0.here hx rfl (hb hby own_d37_14) ?_
        refine XS.goto X0.here hx rfl (pc0 := 15) (pc' := 19) rfl (hb hby own_d37_15) (by decide) (by decide) ?_
        exact k
      obtain ⟨fs, hrt, hrun, hended, hW, hsame⟩ := X0.leave (v := some (.int (0 : Int32))) (fun h => by rw [Bd.returns] at h; cases h)
      refine ⟨_, _, g6 _ ?_, hrun, hended, _, _, rfl, ?_, ⟨_, rfl⟩, hW, hsame.mono (by decide) (by decide)⟩
      · show Steps p.tables e below (s₁.setTop (mkF m 19 #[.val (.int p0), .val (.int p1)] [(.int (0 : Int32))])) _
        exact retI X0 hx Bd.returns (hb hby own_d37_19) hrt
      · show own_Q_rmA53 Z p0 p1 r cs wf h0 n0 _ s₁.heap _
        rw [e0]
        exact ⟨by rw [← hr, if_neg hc1, if_pos hc4], N0, rfl⟩
    · have g7 : ∀ t, Steps p.tables e below (s₁.setTop (mkF m 19 #[.val (.int p0), .val (.int p1)] [(.int (1 : Int32))])) t → Steps p.tables e below (s₁.setTop (entryFrame m #[(.int p0), (.int p1)] 2)) t := by
        intro t k
        refine g5 t ?_
        show Steps p.tables e below (s₁.setTop (mkF m 11 #[.val (.int p0), .val (.int p1)] [(.int p1), (.int p0)])) _
        refine XS.icmpYes X0.here hx rfl (pc0 := 11) (pc' := 18) rfl (hb hby own_d37_11) rfl (feq hc4).2 (by decide) (by decide) ?_
        refine XS.iconst X0.here hx rfl (hb hby own_d37_18) ?_
        exact k
      obtain ⟨fs, hrt, hrun, hended, hW, hsame⟩ := X0.leave (v := some (.int (1 : Int32))) (fun h => by rw [Bd.returns] at h; cases h)
      refine ⟨_, _, g7 _ ?_, hrun, hended, _, _, rfl, ?_, ⟨_, rfl⟩, hW, hsame.mono (by decide) (by decide)⟩
      · show Steps p.tables e below (s₁.setTop (mkF m 19 #[.val (.int p0), .val (.int p1)] [(.int (1 : Int32))])) _
        exact retI X0 hx Bd.returns (hb hby own_d37_19) hrt
      · show own_Q_rmA53 Z p0 p1 r cs wf h0 n0 _ s₁.heap _
        rw [e0]
        exact ⟨by rw [← hr, if_neg hc1, if_neg hc4], N0, rfl⟩
theorem own_d32_31 : decode prog_30_method_5_code 31 = .ok (.ireturn, 1) := by decide +kernel
def own_Q_rmA48 (Z : State) (ob0 : Addr) (ob0_host : Addr) (ob0_host_value : Addr) (k_ob0_host_value : ClassId) (ob0_port : Int32) (ob1 : Addr) (ob1_host : Addr) (ob1_host_value : Addr) (k_ob1_host_value : ClassId) (ob1_port : Int32) (r : Int32) (cs : Int32) (wf : Value) (h0 : Heap) (n0 : Nat) (v : Option Value) (h : Heap) (L : List Loc) : Prop := v = some (.int r) ∧ Fr n0 L ∧ h = h0
set_option maxRecDepth 65536 in
set_option maxHeartbeats 40000000 in
theorem rmA48 (l : Launch) (Z : State) (a0 : Array Value) (hw : ∀ d ∈ tables_1, d.before a0 Z = true) (ws : List Jvm.Cond) (ob0 : Addr) (ob0_host : Addr) (ob0_host_value : Addr) (k_ob0_host_value : ClassId) (ob0_port : Int32) (ob1 : Addr) (ob1_host : Addr) (ob1_host_value : Addr) (k_ob1_host_value : ClassId) (ob1_port : Int32) (r : Int32) (cs : Int32) (wf : Value) (h0 : Heap) (n0 : Nat) (O0 : Old Z n0 h0) (G : own_Gl Z cs wf) (E_ob0 : Exa Z h0 ob0 "com/example/assemble_quorum/assemblequorum/model/MemberAddress") (E_ob0_host : Exa Z h0 ob0_host "java/lang/String") (F_ob0_host_coder : Fld Z h0 ob0_host "java/lang/String" "coder" "B" (.int (0 : Int32))) (V_ob0_host_value : Arv Z h0 ob0_host_value k_ob0_host_value .byte (1 : Int32) [(.int (99 : Int32))] (.int (0 : Int32))) (F_ob0_host_value : Fld Z h0 ob0_host "java/lang/String" "value" "[B" (.ref ob0_host_value)) (F_ob0_host : Fld Z h0 ob0 "com/example/assemble_quorum/assemblequorum/model/MemberAddress" "host" "Ljava/lang/String;" (.ref ob0_host)) (F_ob0_port : Fld Z h0 ob0 "com/example/assemble_quorum/assemblequorum/model/MemberAddress" "port" "I" (.int ob0_port)) (E_ob1 : Exa Z h0 ob1 "com/example/assemble_quorum/assemblequorum/model/MemberAddress") (E_ob1_host : Exa Z h0 ob1_host "java/lang/String") (F_ob1_host_coder : Fld Z h0 ob1_host "java/lang/String" "coder" "B" (.int (0 : Int32))) (V_ob1_host_value : Arv Z h0 ob1_host_value k_ob1_host_value .byte (1 : Int32) [(.int (99 : Int32))] (.int (0 : Int32))) (F_ob1_host_value : Fld Z h0 ob1_host "java/lang/String" "value" "[B" (.ref ob1_host_value)) (F_ob1_host : Fld Z h0 ob1 "com/example/assemble_quorum/assemblequorum/model/MemberAddress" "host" "Ljava/lang/String;" (.ref ob1_host)) (F_ob1_port : Fld Z h0 ob1 "com/example/assemble_quorum/assemblequorum/model/MemberAddress" "port" "I" (.int ob1_port)) (hr : (if ob0_port < ob1_port then (-1 : Int32) else if ob0_port = ob1_port then (0 : Int32) else (1 : Int32)) = r) :
    MetFree l own_y30 (head1 (Jvm.Cond.code own_y30 prog_30_method_5_code 3 (some .int) :: ws) ({ frames := 4, cells := 0, slots := 0, locals := 63 } : Room)) (fun a U => a = #[(.ref ob0), (.ref ob1)] ∧ Z.Warmed39 U.vm ∧ U.heap = h0) (fun _ _ _ _ _ => True) (fun _ U o U' => ∃ v L, o = .returned v ∧ own_Q_rmA48 Z ob0 ob0_host ob0_host_value k_ob0_host_value ob0_port ob1 ob1_host ob1_host_value k_ob1_host_value ob1_port r cs wf h0 n0 v U'.heap L ∧ FrameEnd U o U' L ({ frames := 4, cells := 0, slots := 0, locals := 63 } : Room).cells ({ frames := 4, cells := 0, slots := 0, locals := 63 } : Room).slots) := by
  refine MetFree.of_bodySF (plainFor_of_name own_pn1) hisR ?_
  intro p e s m args below meth c s₁ Bd hml0 hP hK
  obtain ⟨rfl, hZ, hh⟩ := hP
  have hx := Bd.exec
  have hby := Bd.bytes
  have hml : c.maxLocals = 3 := hml0
  have hown : s.vm.findClass "com/example/assemble_quorum/assemblequorum/model/MemberAddress" = some m.cls := findClass_of_methodNamed Bd.named
  have hnm := (name_of_methodNamed Bd.named Bd.method).1
  have X0 : Stand p l e ({ frames := 4, cells := 0, slots := 0, locals := 63 } : Room) s m #[(.ref ob0), (.ref ob1)] below meth c s₁ [] 0 0 := Stand.of_body Bd
  have e0 : s₁.heap = h0 := by rw [← hh, Bd.state]; rfl
  have N0 := Fr.nil n0
  have Z0 : n0 ≤ h0.size := O0.1 ▸ O0.2.1
  have g0 : ∀ t, Steps p.tables e below (s₁.setTop (mkF m 0 #[.val (.ref ob0), .val (.ref ob1), .unset] [])) t → Steps p.tables e below (s₁.setTop (entryFrame m #[(.ref ob0), (.ref ob1)] 3)) t := fun t k => castTop (own_ef50 m (ob0) (ob1)) k
  have G0 := G
  obtain ⟨S_CS, hcs, S_WF, hwf⟩ := G
  obtain ⟨T1, X1, e1, st1⟩ := getF X0 hx hZ hown (host := "") (Or.inl (own_w hw 99 rfl)) Via.refl e0 F_ob0_host (g := (mkF m 1 #[.val (.ref ob0), .val (.ref ob1), .unset] [(.ref ob0)])) rfl rfl (hb hby own_d32_1)
  obtain ⟨T2, X2, e2, st2⟩ := getF X1 hx hZ hown (host := "") (Or.inl (own_w hw 99 rfl)) Via.refl e1 F_ob1_host (g := (mkF m 5 #[.val (.ref ob0), .val (.ref ob1), .unset] [(.ref ob1), (.ref ob0_host)])) rfl rfl (hb hby own_d32_5)
  obtain ⟨cq3, kq3, q3a, q3b, q3c⟩ := isOf hZ e2 E_ob0_host
  obtain ⟨_, _, ⟨T3, L3, k3, n3⟩, -, X3, ⟨Lc3, hQ3, l3, y3, z3⟩, st3⟩ := X2.virtualBack hx (y := own_y31) (z := own_y31) hown (mvT hZ (own_w hw 194 rfl)) (mvT hZ (own_w hw 195 rfl)) (notFace_of_selects (args := #[]) (mvT hZ (own_w hw 197 rfl))) (mvT hZ (own_w hw 197 rfl)) (mvT hZ (own_w hw 196 rfl)) (by decide) (backOf (W := 0) (rmA49 l Z a0 hw [] ob0_host ob0_host_value k_ob0_host_value ob1_host ob1_host_value k_ob1_host_value  cs wf h0 n0 O0 G0 E_ob0_host F_ob0_host_coder V_ob0_host_value F_ob0_host_value E_ob1_host F_ob1_host_coder V_ob1_host_value F_ob1_host_value  ) hZ (own_w hw 198 rfl) (own_w hw 7 rfl) (by decide) (by decide)) q3a q3c (g := (mkF m 8 #[.val (.ref ob0), .val (.ref ob1), .unset] [(.ref ob1_host), (.ref ob0_host)])) rfl (by rw [hml]; rfl) (Steps.refl _) (argsL := [(.ref ob1_host)]) (rest := []) (lenOf own_pd23 rfl) rfl (by show 2 * 0 + _ ≤ _; exact Nat.le_of_eq rfl) (hb hby own_d32_8) (fun _ _ => ⟨rfl, e2, (by decide : 0 + 0 ≤ _), (by decide : 0 + 0 ≤ _)⟩)
  dsimp only [Pt.U, Pt.locs, Pt.cells, Pt.slots] at X3 l3 y3 z3 st3 hQ3
  subst l3 y3 z3
  obtain ⟨rfl, Nq3, e3⟩ := hQ3
  have N3 := Fr.app N0 Nq3
  obtain ⟨T4, X4, e4, st4⟩ := getF X3 hx hZ hown (host := "") (Or.inl (own_w hw 101 rfl)) Via.refl e3 F_ob0_port (g := (mkF m 21 #[.val (.ref ob0), .val (.ref ob1), .val (.int (0 : Int32))] [(.ref ob0)])) rfl rfl (hb hby own_d32_21)
  obtain ⟨T5, X5, e5, st5⟩ := getF X4 hx hZ hown (host := "") (Or.inl (own_w hw 101 rfl)) Via.refl e4 F_ob1_port (g := (mkF m 25 #[.val (.ref ob0), .val (.ref ob1), .val (.int (0 : Int32))] [(.ref ob1), (.int ob0_port)])) rfl rfl (hb hby own_d32_25)
  obtain ⟨_, _, ⟨T6, L6, k6, n6⟩, -, X6, ⟨Lc6, hQ6, l6, y6, z6⟩, st6⟩ := Jvm.LawKit.callS X5 hx (y := own_y35) hown (mvT hZ (own_w hw 209 rfl)) (mvT hZ (own_w hw 210 rfl)) (mvT hZ (own_w hw 211 rfl)) (mvT hZ (own_w hw 212 rfl)) (by decide) (backOf (W := 0) (rmA53 l Z a0 hw [] (ob0_port) (ob1_port) r cs wf h0 n0 O0 G0   hr) hZ (own_w hw 212 rfl) (own_w hw 211 rfl) (by decide) (by decide)) (g := (mkF m 28 #[.val (.ref ob0), .val (.ref ob1), .val (.int (0 : Int32))] [(.int ob1_port), (.int ob0_port)])) rfl (by rw [hml]; rfl) (argsL := [(.int ob0_port), (.int ob1_port)]) (rest := []) (lenOf own_pd5 rfl) rfl (by show 2 * 0 + _ ≤ _; exact Nat.le_of_eq rfl) (hb hby own_d32_28) (fun _ _ => ⟨rfl, e5, (by decide : 0 + 0 ≤ _), (by decide : 0 + 0 ≤ _)⟩)
  dsimp only [Pt.U, Pt.locs, Pt.cells, Pt.slots] at X6 l6 y6 z6 st6 hQ6
  subst l6 y6 z6
  obtain ⟨rfl, Nq6, e6⟩ := hQ6
  have N6 := Fr.app N3 Nq6
  have g7 : ∀ t, Steps p.tables e below (T6.setTop (mkF m 31 #[.val (.ref ob0), .val (.ref ob1), .val (.int (0 : Int32))] [(.int r)])) t → Steps p.tables e below (s₁.setTop (entryFrame m #[(.ref ob0), (.ref ob1)] 3)) t := by
    intro t k
    refine g0 t ?_
    show Steps p.tables e below (s₁.setTop (mkF m 0 #[.val (.ref ob0), .val (.ref ob1), .unset] [])) _
    refine XS.aloadN X0.here hx rfl (hb hby own_d32_0) rfl rfl ?_
    refine st1 _ ?_
    refine XS.aloadN X1.here hx rfl (hb hby own_d32_4) rfl rfl ?_
    show Steps p.tables e below (T1.setTop (mkF m 5 #[.val (.ref ob0), .val (.ref ob1), .unset] [(.ref ob1), (.ref ob0_host)])) _
    refine st2 _ ?_
    refine st3.trans ?_
    refine XS.istoreN X3.here hx rfl (hb hby own_d32_11) rfl (l' := #[.val (.ref ob0), .val (.ref ob1), .val (.int (0 : Int32))]) rfl ?_
    show Steps p.tables e below (T3.setTop (mkF m 12 #[.val (.ref ob0), .val (.ref ob1), .val (.int (0 : Int32))] [])) _
    refine XS.iloadN X3.here hx rfl (hb hby own_d32_12) rfl ?_
    refine XS.ifYes X3.here hx rfl (pc0 := 13) (pc' := 20) rfl (hb hby own_d32_13) rfl ((if0 _ _).trans (teq (by decide : (0 : Int32) = (0 : Int32))).1) (by decide) (by decide) ?_
    refine XS.aloadN X3.here hx rfl (hb hby own_d32_20) rfl rfl ?_
    show Steps p.tables e below (T3.setTop (mkF m 21 #[.val (.ref ob0), .val (.ref ob1), .val (.int (0 : Int32))] [(.ref ob0)])) _
    refine st4 _ ?_
    refine XS.aloadN X4.here hx rfl (hb hby own_d32_24) rfl rfl ?_
    refine st5 _ ?_
    show Steps p.tables e below (T5.setTop (mkF m 28 #[.val (.ref ob0), .val (.ref ob1), .val (.int (0 : Int32))] [(.int ob1_port), (.int ob0_port)])) _
    refine st6 _ ?_
    exact k
  obtain ⟨fs, hrt, hrun, hended, hW, hsame⟩ := X6.leave (v := some (.int r)) (fun h => by rw [Bd.returns] at h; cases h)
  refine ⟨_, _, g7 _ ?_, hrun, hended, _, _, rfl, ?_, ⟨_, rfl⟩, hW, hsame.mono (by decide) (by decide)⟩
  · show Steps p.tables e below (T6.setTop (mkF m 31 #[.val (.ref ob0), .val (.ref ob1), .val (.int (0 : Int32))] [(.int r)])) _
    exact retI X6 hx Bd.returns (hb hby own_d32_31) hrt
  · show own_Q_rmA48 Z ob0 ob0_host ob0_host_value k_ob0_host_value ob0_port ob1 ob1_host ob1_host_value k_ob1_host_value ob1_port r cs wf h0 n0 _ T6.heap _
    rw [e6]
    exact ⟨rfl, N6, rfl⟩
theorem own_pd24 : parseMethodDescriptor "(Lcom/example/assemble_quorum/assemblequorum/model/MemberAddress;)I" = some ⟨[(.object "com/example/assemble_quorum/assemblequorum/model/MemberAddress")], some .int⟩ := by decide +kernel
def own_Q_rmA46 (Z : State) (ob0 : Addr) (ob0_counter : Int64) (ob0_proposer : Addr) (ob0_proposer_host : Addr) (ob0_proposer_host_value : Addr) (k_ob0_proposer_host_value : ClassId) (ob0_proposer_port : Int32) (ob1 : Addr) (ob1_counter : Int64) (ob1_proposer : Addr) (ob1_proposer_host : Addr) (ob1_proposer_host_value : Addr) (k_ob1_proposer_host_value : ClassId) (ob1_proposer_port : Int32) (r : Int32) (cs : Int32) (wf : Value) (h0 : Heap) (n0 : Nat) (v : Option Value) (h : Heap) (L : List Loc) : Prop := v = some (.int r) ∧ Fr n0 L ∧ h = h0
set_option maxRecDepth 65536 in
set_option maxHeartbeats 40000000 in
theorem rmA46 (l : Launch) (Z : State) (a0 : Array Value) (hw : ∀ d ∈ tables_1, d.before a0 Z = true) (ws : List Jvm.Cond) (ob0 : Addr) (ob0_counter : Int64) (ob0_proposer : Addr) (ob0_proposer_host : Addr) (ob0_proposer_host_value : Addr) (k_ob0_proposer_host_value : ClassId) (ob0_proposer_port : Int32) (ob1 : Addr) (ob1_counter : Int64) (ob1_proposer : Addr) (ob1_proposer_host : Addr) (ob1_proposer_host_value : Addr) (k_ob1_proposer_host_value : ClassId) (ob1_proposer_port : Int32) (r : Int32) (cs : Int32) (wf : Value) (h0 : Heap) (n0 : Nat) (O0 : Old Z n0 h0) (G : own_Gl Z cs wf) (E_ob0 : Exa Z h0 ob0 "com/example/assemble_quorum/assemblequorum/model/ProposalNumber") (F_ob0_counter : Fld Z h0 ob0 "com/example/assemble_quorum/assemblequorum/model/ProposalNumber" "counter" "J" (.long ob0_counter)) (E_ob0_proposer : Exa Z h0 ob0_proposer "com/example/assemble_quorum/assemblequorum/model/MemberAddress") (E_ob0_proposer_host : Exa Z h0 ob0_proposer_host "java/lang/String") (F_ob0_proposer_host_coder : Fld Z h0 ob0_proposer_host "java/lang/String" "coder" "B" (.int (0 : Int32))) (V_ob0_proposer_host_value : Arv Z h0 ob0_proposer_host_value k_ob0_proposer_host_value .byte (1 : Int32) [(.int (99 : Int32))] (.int (0 : Int32))) (F_ob0_proposer_host_value : Fld Z h0 ob0_proposer_host "java/lang/String" "value" "[B" (.ref ob0_proposer_host_value)) (F_ob0_proposer_host : Fld Z h0 ob0_proposer "com/example/assemble_quorum/assemblequorum/model/MemberAddress" "host" "Ljava/lang/String;" (.ref ob0_proposer_host)) (F_ob0_proposer_port : Fld Z h0 ob0_proposer "com/example/assemble_quorum/assemblequorum/model/MemberAddress" "port" "I" (.int ob0_proposer_port)) (F_ob0_proposer : Fld Z h0 ob0 "com/example/assemble_quorum/assemblequorum/model/ProposalNumber" "proposer" "Lcom/example/assemble_quorum/assemblequorum/model/MemberAddress;" (.ref ob0_proposer)) (E_ob1 : Exa Z h0 ob1 "com/example/assemble_quorum/assemblequorum/model/ProposalNumber") (F_ob1_counter : Fld Z h0 ob1 "com/example/assemble_quorum/assemblequorum/model/ProposalNumber" "counter" "J" (.long ob1_counter)) (E_ob1_proposer : Exa Z h0 ob1_proposer "com/example/assemble_quorum/assemblequorum/model/MemberAddress") (E_ob1_proposer_host : Exa Z h0 ob1_proposer_host "java/lang/String") (F_ob1_proposer_host_coder : Fld Z h0 ob1_proposer_host "java/lang/String" "coder" "B" (.int (0 : Int32))) (V_ob1_proposer_host_value : Arv Z h0 ob1_proposer_host_value k_ob1_proposer_host_value .byte (1 : Int32) [(.int (99 : Int32))] (.int (0 : Int32))) (F_ob1_proposer_host_value : Fld Z h0 ob1_proposer_host "java/lang/String" "value" "[B" (.ref ob1_proposer_host_value)) (F_ob1_proposer_host : Fld Z h0 ob1_proposer "com/example/assemble_quorum/assemblequorum/model/MemberAddress" "host" "Ljava/lang/String;" (.ref ob1_proposer_host)) (F_ob1_proposer_port : Fld Z h0 ob1_proposer "com/example/assemble_quorum/assemblequorum/model/MemberAddress" "port" "I" (.int ob1_proposer_port)) (F_ob1_proposer : Fld Z h0 ob1 "com/example/assemble_quorum/assemblequorum/model/ProposalNumber" "proposer" "Lcom/example/assemble_quorum/assemblequorum/model/MemberAddress;" (.ref ob1_proposer)) (hr : (if ob0_counter < ob1_counter then (-1 : Int32) else if ob0_counter = ob1_counter then (if ob0_proposer_port < ob1_proposer_port then (-1 : Int32) else if ob0_proposer_port = ob1_proposer_port then (0 : Int32) else (1 : Int32)) else (1 : Int32)) = r) :
    MetFree l own_y28 (head1 (Jvm.Cond.code own_y28 prog_33_method_4_code 3 (some .int) :: ws) ({ frames := 5, cells := 0, slots := 0, locals := 77 } : Room)) (fun a U => a = #[(.ref ob0), (.ref ob1)] ∧ Z.Warmed39 U.vm ∧ U.heap = h0) (fun _ _ _ _ _ => True) (fun _ U o U' => ∃ v L, o = .returned v ∧ own_Q_rmA46 Z ob0 ob0_counter ob0_proposer ob0_proposer_host ob0_proposer_host_value k_ob0_proposer_host_value ob0_proposer_port ob1 ob1_counter ob1_proposer ob1_proposer_host ob1_proposer_host_value k_ob1_proposer_host_value ob1_proposer_port r cs wf h0 n0 v U'.heap L ∧ FrameEnd U o U' L ({ frames := 5, cells := 0, slots := 0, locals := 77 } : Room).cells ({ frames := 5, cells := 0, slots := 0, locals := 77 } : Room).slots) := by
  refine MetFree.of_bodySF (plainFor_of_name own_pn6) hisR ?_
  intro p e s m args below meth c s₁ Bd hml0 hP hK
  obtain ⟨rfl, hZ, hh⟩ := hP
  have hx := Bd.exec
  have hby := Bd.bytes
  have hml : c.maxLocals = 3 := hml0
  have hown : s.vm.findClass "com/example/assemble_quorum/assemblequorum/model/ProposalNumber" = some m.cls := findClass_of_methodNamed Bd.named
  have hnm := (name_of_methodNamed Bd.named Bd.method).1
  have X0 : Stand p l e ({ frames := 5, cells := 0, slots := 0, locals := 77 } : Room) s m #[(.ref ob0), (.ref ob1)] below meth c s₁ [] 0 0 := Stand.of_body Bd
  have e0 : s₁.heap = h0 := by rw [← hh, Bd.state]; rfl
  have N0 := Fr.nil n0
  have Z0 : n0 ≤ h0.size := O0.1 ▸ O0.2.1
  have g0 : ∀ t, Steps p.tables e below (s₁.setTop (mkF m 0 #[.val (.ref ob0), .val (.ref ob1), .unset] [])) t → Steps p.tables e below (s₁.setTop (entryFrame m #[(.ref ob0), (.ref ob1)] 3)) t := fun t k => castTop (own_ef48 m (ob0) (ob1)) k
  have G0 := G
  obtain ⟨S_CS, hcs, S_WF, hwf⟩ := G
  by_cases hc1 : ob0_counter < ob1_counter
  · obtain ⟨T2, X2, e2, st2⟩ := getF X0 hx hZ hown (host := "") (Or.inl (own_w hw 113 rfl)) Via.refl e0 F_ob0_counter (g := (mkF m 1 #[.val (.ref ob0), .val (.ref ob1), .unset] [(.ref ob0)])) rfl rfl (hb hby own_d30_1)
    obtain ⟨T3, X3, e3, st3⟩ := getF X2 hx hZ hown (host := "") (Or.inl (own_w hw 113 rfl)) Via.refl e2 F_ob1_counter (g := (mkF m 5 #[.val (.ref ob0), .val (.ref ob1), .unset] [(.ref ob1), (.long ob0_counter)])) rfl rfl (hb hby own_d30_5)
    obtain ⟨_, _, ⟨T4, L4, k4, n4⟩, -, X4, ⟨Lc4, hQ4, l4, y4, z4⟩, st4⟩ := Jvm.LawKit.callS X3 hx (y := own_y29) hown (mvT hZ (own_w hw 185 rfl)) (mvT hZ (own_w hw 186 rfl)) (mvT hZ (own_w hw 187 rfl)) (mvT hZ (own_w hw 188 rfl)) (by decide) (backOf (W := 0) (rmA47 l Z a0 hw [] (ob0_counter) (ob1_counter) (-1 : Int32) cs wf h0 n0 O0 G0   (if_pos hc1)) hZ (own_w hw 188 rfl) (own_w hw 187 rfl) (by decide) (by decide)) (g := (mkF m 8 #[.val (.ref ob0), .val (.ref ob1), .unset] [(.long ob1_counter), (.long ob0_counter)])) rfl (by rw [hml]; rfl) (argsL := [(.long ob0_counter), (.long ob1_counter)]) (rest := []) (lenOf own_pd19 rfl) rfl (by show 2 * 0 + _ ≤ _; exact Nat.le_of_eq rfl) (hb hby own_d30_8) (fun _ _ => ⟨rfl, e3, (by decide : 0 + 0 ≤ _), (by decide : 0 + 0 ≤ _)⟩)
    dsimp only [Pt.U, Pt.locs, Pt.cells, Pt.slots] at X4 l4 y4 z4 st4 hQ4
    subst l4 y4 z4
    obtain ⟨rfl, Nq4, e4⟩ := hQ4
    have N4 := Fr.app N0 Nq4
    have g5 : ∀ t, Steps p.tables e below (T4.setTop (mkF m 31 #[.val (.ref ob0), .val (.ref ob1), .val (.int (-1 : Int32))] [(.int (-1 : Int32))])) t → Steps p.tables e below (s₁.setTop (entryFrame m #[(.ref ob0), (.ref ob1)] 3)) t := by
      intro t k
      refine g0 t ?_
      show Steps p.tables e below (s₁.setTop (mkF m 0 #[.val (.ref ob0), .val (.ref ob1), .unset] [])) _
      refine XS.aloadN X0.here hx rfl (hb hby own_d30_0) rfl rfl ?_
      refine st2 _ ?_
      refine XS.aloadN X2.here hx rfl (hb hby own_d30_4) rfl rfl ?_
      show Steps p.tables e below (T2.setTop (mkF m 5 #[.val (.ref ob0), .val (.ref ob1), .unset] [(.ref ob1), (.long ob0_counter)])) _
      refine st3 _ ?_
      refine st4 _ ?_
      refine XS.istoreN X4.here hx rfl (hb hby own_d30_11) rfl (l' := #[.val (.ref ob0), .val (.ref ob1), .val (.int (-1 : Int32))]) rfl ?_
      show Steps p.tables e below (T4.setTop (mkF m 12 #[.val (.ref ob0), .val (.ref ob1), .val (.int (-1 : Int32))] [])) _
      refine XS.iloadN X4.here hx rfl (hb hby own_d30_12) rfl ?_
      refine XS.ifNo X4.here hx rfl (hb hby own_d30_13) rfl ((if0 _ _).trans (feq (by decide : ¬ ((-1 : Int32) = (0 : Int32)))).1) ?_
      refine XS.iloadN X4.here hx rfl (hb hby own_d30_16) rfl ?_
      show Steps p.tables e below (T4.setTop (mkF m 17 #[.val (.ref ob0), .val (.ref ob1), .val (.int (-1 : Int32))] [(.int (-1 : Int32))])) _
      refine XS.goto X4.here hx rfl (pc0 := 17) (pc' := 31) rfl (hb hby own_d30_17) (by decide) (by decide) ?_
      exact k
    obtain ⟨fs, hrt, hrun, hended, hW, hsame⟩ := X4.leave (v := some (.int (-1 : Int32))) (fun h => by rw [Bd.returns] at h; cases h)
    refine ⟨_, _, g5 _ ?_, hrun, hended, _, _, rfl, ?_, ⟨_, rfl⟩, hW, hsame.mono (by decide) (by decide)⟩
    · show Steps p.tables e below (T4.setTop (mkF m 31 #[.val (.ref ob0), .val (.ref ob1), .val (.int (-1 : Int32))] [(.int (-1 : Int32))])) _
      exact retI X4 hx Bd.returns (hb hby own_d30_31) hrt
    · show own_Q_rmA46 Z ob0 ob0_counter ob0_proposer ob0_proposer_host ob0_proposer_host_value k_ob0_proposer_host_value ob0_proposer_port ob1 ob1_counter ob1_proposer ob1_proposer_host ob1_proposer_host_value k_ob1_proposer_host_value ob1_proposer_port r cs wf h0 n0 _ T4.heap _
      rw [e4]
      exact ⟨by rw [← hr, if_pos hc1], N4, rfl⟩
  · by_cases hc6 : ob0_counter = ob1_counter
    · obtain ⟨T7, X7, e7, st7⟩ := getF X0 hx hZ hown (host := "") (Or.inl (own_w hw 113 rfl)) Via.refl e0 F_ob0_counter (g := (mkF m 1 #[.val (.ref ob0), .val (.ref ob1), .unset] [(.ref ob0)])) rfl rfl (hb hby own_d30_1)
      obtain ⟨T8, X8, e8, st8⟩ := getF X7 hx hZ hown (host := "") (Or.inl (own_w hw 113 rfl)) Via.refl e7 F_ob1_counter (g := (mkF m 5 #[.val (.ref ob0), .val (.ref ob1), .unset] [(.ref ob1), (.long ob0_counter)])) rfl rfl (hb hby own_d30_5)
      obtain ⟨_, _, ⟨T9, L9, k9, n9⟩, -, X9, ⟨Lc9, hQ9, l9, y9, z9⟩, st9⟩ := Jvm.LawKit.callS X8 hx (y := own_y29) hown (mvT hZ (own_w hw 185 rfl)) (mvT hZ (own_w hw 186 rfl)) (mvT hZ (own_w hw 187 rfl)) (mvT hZ (own_w hw 188 rfl)) (by decide) (backOf (W := 0) (rmA47 l Z a0 hw [] (ob0_counter) (ob1_counter) (0 : Int32) cs wf h0 n0 O0 G0   (by rw [if_neg hc1, if_pos hc6])) hZ (own_w hw 188 rfl) (own_w hw 187 rfl) (by decide) (by decide)) (g := (mkF m 8 #[.val (.ref ob0), .val (.ref ob1), .unset] [(.long ob1_counter), (.long ob0_counter)])) rfl (by rw [hml]; rfl) (argsL := [(.long ob0_counter), (.long ob1_counter)]) (rest := []) (lenOf own_pd19 rfl) rfl (by show 2 * 0 + _ ≤ _; exact Nat.le_of_eq rfl) (hb hby own_d30_8) (fun _ _ => ⟨rfl, e8, (by decide : 0 + 0 ≤ _), (by decide : 0 + 0 ≤ _)⟩)
      dsimp only [Pt.U, Pt.locs, Pt.cells, Pt.slots] at X9 l9 y9 z9 st9 hQ9
      subst l9 y9 z9
      obtain ⟨rfl, Nq9, e9⟩ := hQ9
      have N9 := Fr.app N0 Nq9
      obtain ⟨T10, X10, e10, st10⟩ := getF X9 hx hZ hown (host := "") (Or.inl (own_w hw 115 rfl)) Via.refl e9 F_ob0_proposer (g := (mkF m 21 #[.val (.ref ob0), .val (.ref ob1), .val (.int (0 : Int32))] [(.ref ob0)])) rfl rfl (hb hby own_d30_21)
      obtain ⟨T11, X11, e11, st11⟩ := getF X10 hx hZ hown (host := "") (Or.inl (own_w hw 115 rfl)) Via.refl e10 F_ob1_proposer (g := (mkF m 25 #[.val (.ref ob0), .val (.ref ob1), .val (.int (0 : Int32))] [(.ref ob1), (.ref ob0_proposer)])) rfl rfl (hb hby own_d30_25)
      obtain ⟨cq12, kq12, q12a, q12b, q12c⟩ := isOf hZ e11 E_ob0_proposer
      obtain ⟨_, _, ⟨T12, L12, k12, n12⟩, -, X12, ⟨Lc12, hQ12, l12, y12, z12⟩, st12⟩ := X11.virtualBack hx (y := own_y30) (z := own_y30) hown (mvT hZ (own_w hw 189 rfl)) (mvT hZ (own_w hw 190 rfl)) (notFace_of_selects (args := #[]) (mvT hZ (own_w hw 192 rfl))) (mvT hZ (own_w hw 192 rfl)) (mvT hZ (own_w hw 191 rfl)) (by decide) (backOf (W := 0) (rmA48 l Z a0 hw [] ob0_proposer ob0_proposer_host ob0_proposer_host_value k_ob0_proposer_host_value (ob0_proposer_port) ob1_proposer ob1_proposer_host ob1_proposer_host_value k_ob1_proposer_host_value (ob1_proposer_port) r cs wf h0 n0 O0 G0 E_ob0_proposer E_ob0_proposer_host F_ob0_proposer_host_coder V_ob0_proposer_host_value F_ob0_proposer_host_value F_ob0_proposer_host F_ob0_proposer_port E_ob1_proposer E_ob1_proposer_host F_ob1_proposer_host_coder V_ob1_proposer_host_value F_ob1_proposer_host_value F_ob1_proposer_host F_ob1_proposer_port  (by rw [← hr, if_neg hc1, if_pos hc6])) hZ (own_w hw 193 rfl) (own_w hw 5 rfl) (by decide) (by decide)) q12a q12c (g := (mkF m 28 #[.val (.ref ob0), .val (.ref ob1), .val (.int (0 : Int32))] [(.ref ob1_proposer), (.ref ob0_proposer)])) rfl (by rw [hml]; rfl) (Steps.refl _) (argsL := [(.ref ob1_proposer)]) (rest := []) (lenOf own_pd24 rfl) rfl (by show 2 * 0 + _ ≤ _; exact Nat.le_of_eq rfl) (hb hby own_d30_28) (fun _ _ => ⟨rfl, e11, (by decide : 0 + 0 ≤ _), (by decide : 0 + 0 ≤ _)⟩)
      dsimp only [Pt.U, Pt.locs, Pt.cells, Pt.slots] at X12 l12 y12 z12 st12 hQ12
      subst l12 y12 z12
      obtain ⟨rfl, Nq12, e12⟩ := hQ12
      have N12 := Fr.app N9 Nq12
      have g13 : ∀ t, Steps p.tables e below (T12.setTop (mkF m 31 #[.val (.ref ob0), .val (.ref ob1), .val (.int (0 : Int32))] [(.int r)])) t → Steps p.tables e below (s₁.setTop (entryFrame m #[(.ref ob0), (.ref ob1)] 3)) t := by
        intro t k
        refine g0 t ?_
        show Steps p.tables e below (s₁.setTop (mkF m 0 #[.val (.ref ob0), .val (.ref ob1), .unset] [])) _
        refine XS.aloadN X0.here hx rfl (hb hby own_d30_0) rfl rfl ?_
        refine st7 _ ?_
        refine XS.aloadN X7.here hx rfl (hb hby own_d30_4) rfl rfl ?_
        show Steps p.tables e below (T7.setTop (mkF m 5 #[.val (.ref ob0), .val (.ref ob1), .unset] [(.ref ob1), (.long ob0_counter)])) _
        refine st8 _ ?_
        refine st9 _ ?_
        refine XS.istoreN X9.here hx rfl (hb hby own_d30_11) rfl (l' := #[.val (.ref ob0), .val (.ref ob1), .val (.int (0 : Int32))]) rfl ?_
        show Steps p.tables e below (T9.setTop (mkF m 12 #[.val (.ref ob0), .val (.ref ob1), .val (.int (0 : Int32))] [])) _
        refine XS.iloadN X9.here hx rfl (hb hby own_d30_12) rfl ?_
        refine XS.ifYes X9.here hx rfl (pc0 := 13) (pc' := 20) rfl (hb hby own_d30_13) rfl ((if0 _ _).trans (teq (by decide : (0 : Int32) = (0 : Int32))).1) (by decide) (by decide) ?_
        refine XS.aloadN X9.here hx rfl (hb hby own_d30_20) rfl rfl ?_
        show Steps p.tables e below (T9.setTop (mkF m 21 #[.val (.ref ob0), .val (.ref ob1), .val (.int (0 : Int32))] [(.ref ob0)])) _
        refine st10 _ ?_
        refine XS.aloadN X10.here hx rfl (hb hby own_d30_24) rfl rfl ?_
        refine st11 _ ?_
        show Steps p.tables e below (T11.setTop (mkF m 28 #[.val (.ref ob0), .val (.ref ob1), .val (.int (0 : Int32))] [(.ref ob1_proposer), (.ref ob0_proposer)])) _
        refine st12.trans ?_
        exact k
      obtain ⟨fs, hrt, hrun, hended, hW, hsame⟩ := X12.leave (v := some (.int r)) (fun h => by rw [Bd.returns] at h; cases h)
      refine ⟨_, _, g13 _ ?_, hrun, hended, _, _, rfl, ?_, ⟨_, rfl⟩, hW, hsame.mono (by decide) (by decide)⟩
      · show Steps p.tables e below (T12.setTop (mkF m 31 #[.val (.ref ob0), .val (.ref ob1), .val (.int (0 : Int32))] [(.int r)])) _
        exact retI X12 hx Bd.returns (hb hby own_d30_31) hrt
      · show own_Q_rmA46 Z ob0 ob0_counter ob0_proposer ob0_proposer_host ob0_proposer_host_value k_ob0_proposer_host_value ob0_proposer_port ob1 ob1_counter ob1_proposer ob1_proposer_host ob1_proposer_host_value k_ob1_proposer_host_value ob1_proposer_port r cs wf h0 n0 _ T12.heap _
        rw [e12]
        exact ⟨rfl, N12, rfl⟩
    · obtain ⟨T14, X14, e14, st14⟩ := getF X0 hx hZ hown (host := "") (Or.inl (own_w hw 113 rfl)) Via.refl e0 F_ob0_counter (g := (mkF m 1 #[.val (.ref ob0), .val (.ref ob1), .unset] [(.ref ob0)])) rfl rfl (hb hby own_d30_1)
      obtain ⟨T15, X15, e15, st15⟩ := getF X14 hx hZ hown (host := "") (Or.inl (own_w hw 113 rfl)) Via.refl e14 F_ob1_counter (g := (mkF m 5 #[.val (.ref ob0), .val (.ref ob1), .unset] [(.ref ob1), (.long ob0_counter)])) rfl rfl (hb hby own_d30_5)
      obtain ⟨_, _, ⟨T16, L16, k16, n16⟩, -, X16, ⟨Lc16, hQ16, l16, y16, z16⟩, st16⟩ := Jvm.LawKit.callS X15 hx (y := own_y29) hown (mvT hZ (own_w hw 185 rfl)) (mvT hZ (own_w hw 186 rfl)) (mvT hZ (own_w hw 187 rfl)) (mvT hZ (own_w hw 188 rfl)) (by decide) (backOf (W := 0) (rmA47 l Z a0 hw [] (ob0_counter) (ob1_counter) (1 : Int32) cs wf h0 n0 O0 G0   (by rw [if_neg hc1, if_neg hc6])) hZ (own_w hw 188 rfl) (own_w hw 187 rfl) (by decide) (by decide)) (g := (mkF m 8 #[.val (.ref ob0), .val (.ref ob1), .unset] [(.long ob1_counter), (.long ob0_counter)])) rfl (by rw [hml]; rfl) (argsL := [(.long ob0_counter), (.long ob1_counter)]) (rest := []) (lenOf own_pd19 rfl) rfl (by show 2 * 0 + _ ≤ _; exact Nat.le_of_eq rfl) (hb hby own_d30_8) (fun _ _ => ⟨rfl, e15, (by decide : 0 + 0 ≤ _), (by decide : 0 + 0 ≤ _)⟩)
      dsimp only [Pt.U, Pt.locs, Pt.cells, Pt.slots] at X16 l16 y16 z16 st16 hQ16
      subst l16 y16 z16
      obtain ⟨rfl, Nq16, e16⟩ := hQ16
      have N16 := Fr.app N0 Nq16
      have g17 : ∀ t, Steps p.tables e below (T16.setTop (mkF m 31 #[.val (.ref ob0), .val (.ref ob1), .val (.int (1 : Int32))] [(.int (1 : Int32))])) t → Steps p.tables e below (s₁.setTop (entryFrame m #[(.ref ob0), (.ref ob1)] 3)) t := by
        intro t k
        refine g0 t ?_
        show Steps p.tables e below (s₁.setTop (mkF m 0 #[.val (.ref ob0), .val (.ref ob1), .unset] [])) _
        refine XS.aloadN X0.here hx rfl (hb hby own_d30_0) rfl rfl ?_
        refine st14 _ ?_
        refine XS.aloadN X14.here hx rfl (hb hby own_d30_4) rfl rfl ?_
        show Steps p.tables e below (T14.setTop (mkF m 5 #[.val (.ref ob0), .val (.ref ob1), .unset] [(.ref ob1), (.long ob0_counter)])) _
        refine st15 _ ?_
        refine st16 _ ?_
        refine XS.istoreN X16.here hx rfl (hb hby own_d30_11) rfl (l' := #[.val (.ref ob0), .val (.ref ob1), .val (.int (1 : Int32))]) rfl ?_
        show Steps p.tables e below (T16.setTop (mkF m 12 #[.val (.ref ob0), .val (.ref ob1), .val (.int (1 : Int32))] [])) _
        refine XS.iloadN X16.here hx rfl (hb hby own_d30_12) rfl ?_
        refine XS.ifNo X16.here hx rfl (hb hby own_d30_13) rfl ((if0 _ _).trans (feq (by decide : ¬ ((1 : Int32) = (0 : Int32)))).1) ?_
        refine XS.iloadN X16.here hx rfl (hb hby own_d30_16) rfl ?_
        show Steps p.tables e below (T16.setTop (mkF m 17 #[.val (.ref ob0), .val (.ref ob1), .val (.int (1 : Int32))] [(.int (1 : Int32))])) _
        refine XS.goto X16.here hx rfl (pc0 := 17) (pc' := 31) rfl (hb hby own_d30_17) (by decide) (by decide) ?_
        exact k
      obtain ⟨fs, hrt, hrun, hended, hW, hsame⟩ := X16.leave (v := some (.int (1 : Int32))) (fun h => by rw [Bd.returns] at h; cases h)
      refine ⟨_, _, g17 _ ?_, hrun, hended, _, _, rfl, ?_, ⟨_, rfl⟩, hW, hsame.mono (by decide) (by decide)⟩
      · show Steps p.tables e below (T16.setTop (mkF m 31 #[.val (.ref ob0), .val (.ref ob1), .val (.int (1 : Int32))] [(.int (1 : Int32))])) _
        exact retI X16 hx Bd.returns (hb hby own_d30_31) hrt
      · show own_Q_rmA46 Z ob0 ob0_counter ob0_proposer ob0_proposer_host ob0_proposer_host_value k_ob0_proposer_host_value ob0_proposer_port ob1 ob1_counter ob1_proposer ob1_proposer_host ob1_proposer_host_value k_ob1_proposer_host_value ob1_proposer_port r cs wf h0 n0 _ T16.heap _
        rw [e16]
        exact ⟨by rw [← hr, if_neg hc1, if_neg hc6], N16, rfl⟩
theorem own_pd25 : parseMethodDescriptor "(Lcom/example/assemble_quorum/assemblequorum/model/ProposalNumber;)I" = some ⟨[(.object "com/example/assemble_quorum/assemblequorum/model/ProposalNumber")], some .int⟩ := by decide +kernel
theorem own_d28_19 : decode prog_46_method_19_code 19 = .ok (.ifCond .le 13, 3) := by decide +kernel
def own_Q_rmA45 (Z : State) (ob0 : Addr) (ob0_priorCandidate : Addr) (ob0_priorCandidate_host : Addr) (ob0_priorCandidate_host_value : Addr) (k_ob0_priorCandidate_host_value : ClassId) (ob0_priorCandidate_port : Int32) (ob0_priorNumber : Addr) (ob0_priorNumber_counter : Int64) (ob1 : Addr) (ob1_counter : Int64) (ob1_proposer : Addr) (ob1_proposer_host : Addr) (ob1_proposer_host_value : Addr) (k_ob1_proposer_host_value : ClassId) (ob1_proposer_port : Int32) (r : Int32) (cs : Int32) (wf : Value) (h0 : Heap) (n0 : Nat) (v : Option Value) (h : Heap) (L : List Loc) : Prop := v = none ∧ Fr n0 L ∧ Keep h0 h [ob0] ∧ Exa Z h ob0 "com/example/assemble_quorum/assemblequorum/service/Round" ∧ Fld Z h ob0 "com/example/assemble_quorum/assemblequorum/service/Round" "priorNumber" "Lcom/example/assemble_quorum/assemblequorum/model/ProposalNumber;" (.ref ob1) ∧ Fld Z h ob0 "com/example/assemble_quorum/assemblequorum/service/Round" "priorCandidate" "Lcom/example/assemble_quorum/assemblequorum/model/MemberAddress;" (.ref ob1_proposer)
set_option maxRecDepth 65536 in
set_option maxHeartbeats 40000000 in
theorem rmA45 (l : Launch) (Z : State) (a0 : Array Value) (hw : ∀ d ∈ tables_1, d.before a0 Z = true) (ws : List Jvm.Cond) (ob0 : Addr) (ob0_priorCandidate : Addr) (ob0_priorCandidate_host : Addr) (ob0_priorCandidate_host_value : Addr) (k_ob0_priorCandidate_host_value : ClassId) (ob0_priorCandidate_port : Int32) (ob0_priorNumber : Addr) (ob0_priorNumber_counter : Int64) (ob1 : Addr) (ob1_counter : Int64) (ob1_proposer : Addr) (ob1_proposer_host : Addr) (ob1_proposer_host_value : Addr) (k_ob1_proposer_host_value : ClassId) (ob1_proposer_port : Int32) (r : Int32) (cs : Int32) (wf : Value) (h0 : Heap) (n0 : Nat) (O0 : Old Z n0 h0) (G : own_Gl Z cs wf) (E_ob0 : Exa Z h0 ob0 "com/example/assemble_quorum/assemblequorum/service/Round") (E_ob0_priorCandidate : Exa Z h0 ob0_priorCandidate "com/example/assemble_quorum/assemblequorum/model/MemberAddress") (E_ob0_priorCandidate_host : Exa Z h0 ob0_priorCandidate_host "java/lang/String") (F_ob0_priorCandidate_host_coder : Fld Z h0 ob0_priorCandidate_host "java/lang/String" "coder" "B" (.int (0 : Int32))) (V_ob0_priorCandidate_host_value : Arv Z h0 ob0_priorCandidate_host_value k_ob0_priorCandidate_host_value .byte (1 : Int32) [(.int (99 : Int32))] (.int (0 : Int32))) (F_ob0_priorCandidate_host_value : Fld Z h0 ob0_priorCandidate_host "java/lang/String" "value" "[B" (.ref ob0_priorCandidate_host_value)) (F_ob0_priorCandidate_host : Fld Z h0 ob0_priorCandidate "com/example/assemble_quorum/assemblequorum/model/MemberAddress" "host" "Ljava/lang/String;" (.ref ob0_priorCandidate_host)) (F_ob0_priorCandidate_port : Fld Z h0 ob0_priorCandidate "com/example/assemble_quorum/assemblequorum/model/MemberAddress" "port" "I" (.int ob0_priorCandidate_port)) (F_ob0_priorCandidate : Fld Z h0 ob0 "com/example/assemble_quorum/assemblequorum/service/Round" "priorCandidate" "Lcom/example/assemble_quorum/assemblequorum/model/MemberAddress;" (.ref ob0_priorCandidate)) (E_ob0_priorNumber : Exa Z h0 ob0_priorNumber "com/example/assemble_quorum/assemblequorum/model/ProposalNumber") (F_ob0_priorNumber_counter : Fld Z h0 ob0_priorNumber "com/example/assemble_quorum/assemblequorum/model/ProposalNumber" "counter" "J" (.long ob0_priorNumber_counter)) (F_ob0_priorNumber_proposer : Fld Z h0 ob0_priorNumber "com/example/assemble_quorum/assemblequorum/model/ProposalNumber" "proposer" "Lcom/example/assemble_quorum/assemblequorum/model/MemberAddress;" (.ref ob0_priorCandidate)) (F_ob0_priorNumber : Fld Z h0 ob0 "com/example/assemble_quorum/assemblequorum/service/Round" "priorNumber" "Lcom/example/assemble_quorum/assemblequorum/model/ProposalNumber;" (.ref ob0_priorNumber)) (E_ob1 : Exa Z h0 ob1 "com/example/assemble_quorum/assemblequorum/model/ProposalNumber") (F_ob1_counter : Fld Z h0 ob1 "com/example/assemble_quorum/assemblequorum/model/ProposalNumber" "counter" "J" (.long ob1_counter)) (E_ob1_proposer : Exa Z h0 ob1_proposer "com/example/assemble_quorum/assemblequorum/model/MemberAddress") (E_ob1_proposer_host : Exa Z h0 ob1_proposer_host "java/lang/String") (F_ob1_proposer_host_coder : Fld Z h0 ob1_proposer_host "java/lang/String" "coder" "B" (.int (0 : Int32))) (V_ob1_proposer_host_value : Arv Z h0 ob1_proposer_host_value k_ob1_proposer_host_value .byte (1 : Int32) [(.int (99 : Int32))] (.int (0 : Int32))) (F_ob1_proposer_host_value : Fld Z h0 ob1_proposer_host "java/lang/String" "value" "[B" (.ref ob1_proposer_host_value)) (F_ob1_proposer_host : Fld Z h0 ob1_proposer "com/example/assemble_quorum/assemblequorum/model/MemberAddress" "host" "Ljava/lang/String;" (.ref ob1_proposer_host)) (F_ob1_proposer_port : Fld Z h0 ob1_proposer "com/example/assemble_quorum/assemblequorum/model/MemberAddress" "port" "I" (.int ob1_proposer_port)) (F_ob1_proposer : Fld Z h0 ob1 "com/example/assemble_quorum/assemblequorum/model/ProposalNumber" "proposer" "Lcom/example/assemble_quorum/assemblequorum/model/MemberAddress;" (.ref ob1_proposer)) (gz_ob0 : n0 ≤ ob0) (hr : (if ob1_counter < ob0_priorNumber_counter then (-1 : Int32) else if ob1_counter = ob0_priorNumber_counter then (if ob1_proposer_port < ob0_priorCandidate_port then (-1 : Int32) else if ob1_proposer_port = ob0_priorCandidate_port then (0 : Int32) else (1 : Int32)) else (1 : Int32)) = r) (hup : (0 : Int32) < r) :
    MetFree l own_y26 (head1 (Jvm.Cond.code own_y26 prog_46_method_19_code 3 none :: ws) ({ frames := 6, cells := 0, slots := 0, locals := 91 } : Room)) (fun a U => a = #[(.ref ob0), (.ref ob1), (.ref ob1_proposer)] ∧ Z.Warmed39 U.vm ∧ U.heap = h0) (fun _ _ _ _ _ => True) (fun _ U o U' => ∃ v L, o = .returned v ∧ own_Q_rmA45 Z ob0 ob0_priorCandidate ob0_priorCandidate_host ob0_priorCandidate_host_value k_ob0_priorCandidate_host_value ob0_priorCandidate_port ob0_priorNumber ob0_priorNumber_counter ob1 ob1_counter ob1_proposer ob1_proposer_host ob1_proposer_host_value k_ob1_proposer_host_value ob1_proposer_port r cs wf h0 n0 v U'.heap L ∧ FrameEnd U o U' L ({ frames := 6, cells := 0, slots := 0, locals := 91 } : Room).cells ({ frames := 6, cells := 0, slots := 0, locals := 91 } : Room).slots) := by
  refine MetFree.of_bodySF (plainFor_of_name own_pn7) hisR ?_
  intro p e s m args below meth c s₁ Bd hml0 hP hK
  obtain ⟨rfl, hZ, hh⟩ := hP
  have hx := Bd.exec
  have hby := Bd.bytes
  have hml : c.maxLocals = 3 := hml0
  have hown : s.vm.findClass "com/example/assemble_quorum/assemblequorum/service/Round" = some m.cls := findClass_of_methodNamed Bd.named
  have hnm := (name_of_methodNamed Bd.named Bd.method).1
  have X0 : Stand p l e ({ frames := 6, cells := 0, slots := 0, locals := 91 } : Room) s m #[(.ref ob0), (.ref ob1), (.ref ob1_proposer)] below meth c s₁ [] 0 0 := Stand.of_body Bd
  have e0 : s₁.heap = h0 := by rw [← hh, Bd.state]; rfl
  have N0 := Fr.nil n0
  have Z0 : n0 ≤ h0.size := O0.1 ▸ O0.2.1
  have g0 : ∀ t, Steps p.tables e below (s₁.setTop (mkF m 0 #[.val (.ref ob0), .val (.ref ob1), .val (.ref ob1_proposer)] [])) t → Steps p.tables e below (s₁.setTop (entryFrame m #[(.ref ob0), (.ref ob1), (.ref ob1_proposer)] 3)) t := fun t k => castTop (own_ef47 m (ob0) (ob1) (ob1_proposer)) k
  have G0 := G
  obtain ⟨S_CS, hcs, S_WF, hwf⟩ := G
  obtain ⟨T1, X1, e1, st1⟩ := getF X0 hx hZ hown (host := "") (Or.inl (own_w hw 178 rfl)) Via.refl e0 F_ob0_priorNumber (g := (mkF m 5 #[.val (.ref ob0), .val (.ref ob1), .val (.ref ob1_proposer)] [(.ref ob0)])) rfl rfl (hb hby own_d28_5)
  obtain ⟨T2, X2, e2, st2⟩ := getF X1 hx hZ hown (host := "") (Or.inl (own_w hw 178 rfl)) Via.refl e1 F_ob0_priorNumber (g := (mkF m 13 #[.val (.ref ob0), .val (.ref ob1), .val (.ref ob1_proposer)] [(.ref ob0), (.ref ob1)])) rfl rfl (hb hby own_d28_13)
  obtain ⟨cq3, kq3, q3a, q3b, q3c⟩ := isOf hZ e2 E_ob1
  obtain ⟨_, _, ⟨T3, L3, k3, n3⟩, -, X3, ⟨Lc3, hQ3, l3, y3, z3⟩, st3⟩ := X2.virtualBack hx (y := own_y28) (z := own_y28) hown (mvT hZ (own_w hw 180 rfl)) (mvT hZ (own_w hw 181 rfl)) (notFace_of_selects (args := #[]) (mvT hZ (own_w hw 183 rfl))) (mvT hZ (own_w hw 183 rfl)) (mvT hZ (own_w hw 182 rfl)) (by decide) (backOf (W := 0) (rmA46 l Z a0 hw [] ob1 (ob1_counter) ob1_proposer ob1_proposer_host ob1_proposer_host_value k_ob1_proposer_host_value (ob1_proposer_port) ob0_priorNumber (ob0_priorNumber_counter) ob0_priorCandidate ob0_priorCandidate_host ob0_priorCandidate_host_value k_ob0_priorCandidate_host_value (ob0_priorCandidate_port) r cs wf h0 n0 O0 G0 E_ob1 F_ob1_counter E_ob1_proposer E_ob1_proposer_host F_ob1_proposer_host_coder V_ob1_proposer_host_value F_ob1_proposer_host_value F_ob1_proposer_host F_ob1_proposer_port F_ob1_proposer E_ob0_priorNumber F_ob0_priorNumber_counter E_ob0_priorCandidate E_ob0_priorCandidate_host F_ob0_priorCandidate_host_coder V_ob0_priorCandidate_host_value F_ob0_priorCandidate_host_value F_ob0_priorCandidate_host F_ob0_priorCandidate_port F_ob0_priorNumber_proposer  hr) hZ (own_w hw 184 rfl) (own_w hw 106 rfl) (by decide) (by decide)) q3a q3c (g := (mkF m 16 #[.val (.ref ob0), .val (.ref ob1), .val (.ref ob1_proposer)] [(.ref ob0_priorNumber), (.ref ob1)])) rfl (by rw [hml]; rfl) (Steps.refl _) (argsL := [(.ref ob0_priorNumber)]) (rest := []) (lenOf own_pd25 rfl) rfl (by show 2 * 0 + _ ≤ _; exact Nat.le_of_eq rfl) (hb hby own_d28_16) (fun _ _ => ⟨rfl, e2, (by decide : 0 + 0 ≤ _), (by decide : 0 + 0 ≤ _)⟩)
  dsimp only [Pt.U, Pt.locs, Pt.cells, Pt.slots] at X3 l3 y3 z3 st3 hQ3
  subst l3 y3 z3
  obtain ⟨rfl, Nq3, e3⟩ := hQ3
  have N3 := Fr.app N0 Nq3
  have hc4 : (0 : Int32) < r := hup
  obtain ⟨T5, h5, X5, e5, W5, st5⟩ := putF X3 hx hZ hown (host := "") (Or.inl (own_w hw 178 rfl)) Via.refl e3 F_ob0_priorNumber E_ob0 (Or.inl (own_w hw 179 rfl)) (own_w hw 118 rfl) (ty := (.object "com/example/assemble_quorum/assemblequorum/model/ProposalNumber")) (by decide) rfl rfl (g := (mkF m 24 #[.val (.ref ob0), .val (.ref ob1), .val (.ref ob1_proposer)] [(.ref ob1), (.ref ob0)])) rfl rfl (hb hby own_d28_24)
  have Fw5 := F_ob0_priorNumber.same W5
  have N5 := Fr.snoc X5 N3 gz_ob0
  have f6 := (E_ob0.wr W5)
  have f7 := (F_ob0_priorCandidate.other W5 (Or.inr (slot_ne (own_la7 hw) (own_la6 hw) (by decide) own_ty2 own_ty5)))
  obtain ⟨T8, h8, X8, e8, W8, st8⟩ := putF X5 hx hZ hown (host := "") (Or.inl (own_w hw 176 rfl)) Via.refl e5 f7 f6 (Or.inl (own_w hw 177 rfl)) (own_w hw 118 rfl) (ty := (.object "com/example/assemble_quorum/assemblequorum/model/MemberAddress")) (by decide) rfl rfl (g := (mkF m 29 #[.val (.ref ob0), .val (.ref ob1), .val (.ref ob1_proposer)] [(.ref ob1_proposer), (.ref ob0)])) rfl rfl (hb hby own_d28_29)
  have Fw8 := f7.same W8
  have N8 := Fr.snoc X8 N5 gz_ob0
  have g9 : ∀ t, Steps p.tables e below (T8.setTop (mkF m 32 #[.val (.ref ob0), .val (.ref ob1), .val (.ref ob1_proposer)] [])) t → Steps p.tables e below (s₁.setTop (entryFrame m #[(.ref ob0), (.ref ob1), (.ref ob1_proposer)] 3)) t := by
    intro t k
    refine g0 t ?_
    show Steps p.tables e below (s₁.setTop (mkF m 0 #[.val (.ref ob0), .val (.ref ob1), .val (.ref ob1_proposer)] [])) _
    refine XS.aloadN X0.here hx rfl (hb hby own_d28_0) rfl rfl ?_
    refine XS.ifnullNo X0.here hx rfl (hb hby own_d28_1) rfl ?_
    refine XS.aloadN X0.here hx rfl (hb hby own_d28_4) rfl rfl ?_
    show Steps p.tables e below (s₁.setTop (mkF m 5 #[.val (.ref ob0), .val (.ref ob1), .val (.ref ob1_proposer)] [(.ref ob0)])) _
    refine st1 _ ?_
    refine XS.ifnullNo X1.here hx rfl (hb hby own_d28_8) rfl ?_
    refine XS.aloadN X1.here hx rfl (hb hby own_d28_11) rfl rfl ?_
    show Steps p.tables e below (T1.setTop (mkF m 12 #[.val (.ref ob0), .val (.ref ob1), .val (.ref ob1_proposer)] [(.ref ob1)])) _
    refine XS.aloadN X1.here hx rfl (hb hby own_d28_12) rfl rfl ?_
    refine st2 _ ?_
    refine st3.trans ?_
    show Steps p.tables e below (T3.setTop (mkF m 19 #[.val (.ref ob0), .val (.ref ob1), .val (.ref ob1_proposer)] [(.int r)])) _
    refine XS.ifNo X3.here hx rfl (hb hby own_d28_19) rfl ((if0 _ _).trans (tlt hc4).2.2.2) ?_
    refine XS.aloadN X3.here hx rfl (hb hby own_d28_22) rfl rfl ?_
    refine XS.aloadN X3.here hx rfl (hb hby own_d28_23) rfl rfl ?_
    show Steps p.tables e below (T3.setTop (mkF m 24 #[.val (.ref ob0), .val (.ref ob1), .val (.ref ob1_proposer)] [(.ref ob1), (.ref ob0)])) _
    refine st5 _ ?_
    refine XS.aloadN X5.here hx rfl (hb hby own_d28_27) rfl rfl ?_
    refine XS.aloadN X5.here hx rfl (hb hby own_d28_28) rfl rfl ?_
    show Steps p.tables e below (T5.setTop (mkF m 29 #[.val (.ref ob0), .val (.ref ob1), .val (.ref ob1_proposer)] [(.ref ob1_proposer), (.ref ob0)])) _
    refine st8 _ ?_
    exact k
  obtain ⟨fs, hrt, hrun, hended, hW, hsame⟩ := X8.leave (v := none) (fun _ => rfl)
  have f10 := (f6.wr W8)
  have f11 := (Fw5.other W8 (Or.inr (slot_ne (own_la6 hw) (own_la7 hw) (by decide) own_ty5 own_ty2)))
  refine ⟨_, _, g9 _ ?_, hrun, hended, _, _, rfl, ?_, ⟨_, rfl⟩, hW, hsame.mono (by decide) (by decide)⟩
  · show Steps p.tables e below (T8.setTop (mkF m 32 #[.val (.ref ob0), .val (.ref ob1), .val (.ref ob1_proposer)] [])) _
    exact X8.returnOut hx Bd.returns (hb hby own_d28_32) hrt
  · show own_Q_rmA45 Z ob0 ob0_priorCandidate ob0_priorCandidate_host ob0_priorCandidate_host_value k_ob0_priorCandidate_host_value ob0_priorCandidate_port ob0_priorNumber ob0_priorNumber_counter ob1 ob1_counter ob1_proposer ob1_proposer_host ob1_proposer_host_value k_ob1_proposer_host_value ob1_proposer_port r cs wf h0 n0 _ T8.heap _
    rw [e8]
    exact ⟨rfl, N8, (Keep.wr (Keep.wr (Keep.refl h0 [ob0]) W5 (Or.inl (List.mem_of_getElem? (i := 0) rfl))) W8 (Or.inl (List.mem_of_getElem? (i := 0) rfl))), f10, f11, Fw8⟩
theorem own_ef56 (m : MethodId) (x0 : Addr) (x1 : Addr) (x2 : Addr) : entryFrame m #[(.ref x0), (.ref x1), (.ref x2)] 3 = mkF m 0 #[.val (.ref x0), .val (.ref x1), .val (.ref x2)] [] := by first | (simp [entryFrame, mkF, argsToLocals, Value.category]; done) | rfl
def own_Q_rmA54 (Z : State) (ob0 : Addr) (ob0_priorCandidate : Addr) (ob0_priorCandidate_host : Addr) (ob0_priorCandidate_host_value : Addr) (k_ob0_priorCandidate_host_value : ClassId) (ob0_priorCandidate_port : Int32) (ob0_priorNumber : Addr) (ob0_priorNumber_counter : Int64) (ob1 : Addr) (ob1_counter : Int64) (ob1_proposer : Addr) (ob1_proposer_host : Addr) (ob1_proposer_host_value : Addr) (k_ob1_proposer_host_value : ClassId) (ob1_proposer_port : Int32) (r : Int32) (cs : Int32) (wf : Value) (h0 : Heap) (n0 : Nat) (v : Option Value) (h : Heap) (L : List Loc) : Prop := v = none ∧ Fr n0 L ∧ h = h0
set_option maxRecDepth 65536 in
set_option maxHeartbeats 40000000 in
theorem rmA54 (l : Launch) (Z : State) (a0 : Array Value) (hw : ∀ d ∈ tables_1, d.before a0 Z = true) (ws : List Jvm.Cond) (ob0 : Addr) (ob0_priorCandidate : Addr) (ob0_priorCandidate_host : Addr) (ob0_priorCandidate_host_value : Addr) (k_ob0_priorCandidate_host_value : ClassId) (ob0_priorCandidate_port : Int32) (ob0_priorNumber : Addr) (ob0_priorNumber_counter : Int64) (ob1 : Addr) (ob1_counter : Int64) (ob1_proposer : Addr) (ob1_proposer_host : Addr) (ob1_proposer_host_value : Addr) (k_ob1_proposer_host_value : ClassId) (ob1_proposer_port : Int32) (r : Int32) (cs : Int32) (wf : Value) (h0 : Heap) (n0 : Nat) (O0 : Old Z n0 h0) (G : own_Gl Z cs wf) (E_ob0 : Exa Z h0 ob0 "com/example/assemble_quorum/assemblequorum/service/Round") (E_ob0_priorCandidate : Exa Z h0 ob0_priorCandidate "com/example/assemble_quorum/assemblequorum/model/MemberAddress") (E_ob0_priorCandidate_host : Exa Z h0 ob0_priorCandidate_host "java/lang/String") (F_ob0_priorCandidate_host_coder : Fld Z h0 ob0_priorCandidate_host "java/lang/String" "coder" "B" (.int (0 : Int32))) (V_ob0_priorCandidate_host_value : Arv Z h0 ob0_priorCandidate_host_value k_ob0_priorCandidate_host_value .byte (1 : Int32) [(.int (99 : Int32))] (.int (0 : Int32))) (F_ob0_priorCandidate_host_value : Fld Z h0 ob0_priorCandidate_host "java/lang/String" "value" "[B" (.ref ob0_priorCandidate_host_value)) (F_ob0_priorCandidate_host : Fld Z h0 ob0_priorCandidate "com/example/assemble_quorum/assemblequorum/model/MemberAddress" "host" "Ljava/lang/String;" (.ref ob0_priorCandidate_host)) (F_ob0_priorCandidate_port : Fld Z h0 ob0_priorCandidate "com/example/assemble_quorum/assemblequorum/model/MemberAddress" "port" "I" (.int ob0_priorCandidate_port)) (F_ob0_priorCandidate : Fld Z h0 ob0 "com/example/assemble_quorum/assemblequorum/service/Round" "priorCandidate" "Lcom/example/assemble_quorum/assemblequorum/model/MemberAddress;" (.ref ob0_priorCandidate)) (E_ob0_priorNumber : Exa Z h0 ob0_priorNumber "com/example/assemble_quorum/assemblequorum/model/ProposalNumber") (F_ob0_priorNumber_counter : Fld Z h0 ob0_priorNumber "com/example/assemble_quorum/assemblequorum/model/ProposalNumber" "counter" "J" (.long ob0_priorNumber_counter)) (F_ob0_priorNumber_proposer : Fld Z h0 ob0_priorNumber "com/example/assemble_quorum/assemblequorum/model/ProposalNumber" "proposer" "Lcom/example/assemble_quorum/assemblequorum/model/MemberAddress;" (.ref ob0_priorCandidate)) (F_ob0_priorNumber : Fld Z h0 ob0 "com/example/assemble_quorum/assemblequorum/service/Round" "priorNumber" "Lcom/example/assemble_quorum/assemblequorum/model/ProposalNumber;" (.ref ob0_priorNumber)) (E_ob1 : Exa Z h0 ob1 "com/example/assemble_quorum/assemblequorum/model/ProposalNumber") (F_ob1_counter : Fld Z h0 ob1 "com/example/assemble_quorum/assemblequorum/model/ProposalNumber" "counter" "J" (.long ob1_counter)) (E_ob1_proposer : Exa Z h0 ob1_proposer "com/example/assemble_quorum/assemblequorum/model/MemberAddress") (E_ob1_proposer_host : Exa Z h0 ob1_proposer_host "java/lang/String") (F_ob1_proposer_host_coder : Fld Z h0 ob1_proposer_host "java/lang/String" "coder" "B" (.int (0 : Int32))) (V_ob1_proposer_host_value : Arv Z h0 ob1_proposer_host_value k_ob1_proposer_host_value .byte (1 : Int32) [(.int (99 : Int32))] (.int (0 : Int32))) (F_ob1_proposer_host_value : Fld Z h0 ob1_proposer_host "java/lang/String" "value" "[B" (.ref ob1_proposer_host_value)) (F_ob1_proposer_host : Fld Z h0 ob1_proposer "com/example/assemble_quorum/assemblequorum/model/MemberAddress" "host" "Ljava/lang/String;" (.ref ob1_proposer_host)) (F_ob1_proposer_port : Fld Z h0 ob1_proposer "com/example/assemble_quorum/assemblequorum/model/MemberAddress" "port" "I" (.int ob1_proposer_port)) (F_ob1_proposer : Fld Z h0 ob1 "com/example/assemble_quorum/assemblequorum/model/ProposalNumber" "proposer" "Lcom/example/assemble_quorum/assemblequorum/model/MemberAddress;" (.ref ob1_proposer)) (hr : (if ob1_counter < ob0_priorNumber_counter then (-1 : Int32) else if ob1_counter = ob0_priorNumber_counter then (if ob1_proposer_port < ob0_priorCandidate_port then (-1 : Int32) else if ob1_proposer_port = ob0_priorCandidate_port then (0 : Int32) else (1 : Int32)) else (1 : Int32)) = r) (hup : ¬ ((0 : Int32) < r)) :
    MetFree l own_y26 (head1 (Jvm.Cond.code own_y26 prog_46_method_19_code 3 none :: ws) ({ frames := 6, cells := 0, slots := 0, locals := 91 } : Room)) (fun a U => a = #[(.ref ob0), (.ref ob1), (.ref ob1_proposer)] ∧ Z.Warmed39 U.vm ∧ U.heap = h0) (fun _ _ _ _ _ => True) (fun _ U o U' => ∃ v L, o = .returned v ∧ own_Q_rmA54 Z ob0 ob0_priorCandidate ob0_priorCandidate_host ob0_priorCandidate_host_value k_ob0_priorCandidate_host_value ob0_priorCandidate_port ob0_priorNumber ob0_priorNumber_counter ob1 ob1_counter ob1_proposer ob1_proposer_host ob1_proposer_host_value k_ob1_proposer_host_value ob1_proposer_port r cs wf h0 n0 v U'.heap L ∧ FrameEnd U o U' L ({ frames := 6, cells := 0, slots := 0, locals := 91 } : Room).cells ({ frames := 6, cells := 0, slots := 0, locals := 91 } : Room).slots) := by
  refine MetFree.of_bodySF (plainFor_of_name own_pn7) hisR ?_
  intro p e s m args below meth c s₁ Bd hml0 hP hK
  obtain ⟨rfl, hZ, hh⟩ := hP
  have hx := Bd.exec
  have hby := Bd.bytes
  have hml : c.maxLocals = 3 := hml0
  have hown : s.vm.findClass "com/example/assemble_quorum/assemblequorum/service/Round" = some m.cls := findClass_of_methodNamed Bd.named
  have hnm := (name_of_methodNamed Bd.named Bd.method).1
  have X0 : Stand p l e ({ frames := 6, cells := 0, slots := 0, locals := 91 } : Room) s m #[(.ref ob0), (.ref ob1), (.ref ob1_proposer)] below meth c s₁ [] 0 0 := Stand.of_body Bd
  have e0 : s₁.heap = h0 := by rw [← hh, Bd.state]; rfl
  have N0 := Fr.nil n0
  have Z0 : n0 ≤ h0.size := O0.1 ▸ O0.2.1
  have g0 : ∀ t, Steps p.tables e below (s₁.setTop (mkF m 0 #[.val (.ref ob0), .val (.ref ob1), .val (.ref ob1_proposer)] [])) t → Steps p.tables e below (s₁.setTop (entryFrame m #[(.ref ob0), (.ref ob1), (.ref ob1_proposer)] 3)) t := fun t k => castTop (own_ef56 m (ob0) (ob1) (ob1_proposer)) k
  have G0 := G
  obtain ⟨S_CS, hcs, S_WF, hwf⟩ := G
  obtain ⟨T1, X1, e1, st1⟩ := getF X0 hx hZ hown (host := "") (Or.inl (own_w hw 178 rfl)) Via.refl e0 F_ob0_priorNumber (g := (mkF m 5 #[.val (.ref ob0), .val (.ref ob1), .val (.ref ob1_proposer)] [(.ref ob0)])) rfl rfl (hb hby own_d28_5)
  obtain ⟨T2, X2, e2, st2⟩ := getF X1 hx hZ hown (host := "") (Or.inl (own_w hw 178 rfl)) Via.refl e1 F_ob0_priorNumber (g := (mkF m 13 #[.val (.ref ob0), .val (.ref ob1), .val (.ref ob1_proposer)] [(.ref ob0), (.ref ob1)])) rfl rfl (hb hby own_d28_13)
  obtain ⟨cq3, kq3, q3a, q3b, q3c⟩ := isOf hZ e2 E_ob1
  obtain ⟨_, _, ⟨T3, L3, k3, n3⟩, -, X3, ⟨Lc3, hQ3, l3, y3, z3⟩, st3⟩ := X2.virtualBack hx (y := own_y28) (z := own_y28) hown (mvT hZ (own_w hw 180 rfl)) (mvT hZ (own_w hw 181 rfl)) (notFace_of_selects (args := #[]) (mvT hZ (own_w hw 183 rfl))) (mvT hZ (own_w hw 183 rfl)) (mvT hZ (own_w hw 182 rfl)) (by decide) (backOf (W := 0) (rmA46 l Z a0 hw [] ob1 (ob1_counter) ob1_proposer ob1_proposer_host ob1_proposer_host_value k_ob1_proposer_host_value (ob1_proposer_port) ob0_priorNumber (ob0_priorNumber_counter) ob0_priorCandidate ob0_priorCandidate_host ob0_priorCandidate_host_value k_ob0_priorCandidate_host_value (ob0_priorCandidate_port) r cs wf h0 n0 O0 G0 E_ob1 F_ob1_counter E_ob1_proposer E_ob1_proposer_host F_ob1_proposer_host_coder V_ob1_proposer_host_value F_ob1_proposer_host_value F_ob1_proposer_host F_ob1_proposer_port F_ob1_proposer E_ob0_priorNumber F_ob0_priorNumber_counter E_ob0_priorCandidate E_ob0_priorCandidate_host F_ob0_priorCandidate_host_coder V_ob0_priorCandidate_host_value F_ob0_priorCandidate_host_value F_ob0_priorCandidate_host F_ob0_priorCandidate_port F_ob0_priorNumber_proposer  hr) hZ (own_w hw 184 rfl) (own_w hw 106 rfl) (by decide) (by decide)) q3a q3c (g := (mkF m 16 #[.val (.ref ob0), .val (.ref ob1), .val (.ref ob1_proposer)] [(.ref ob0_priorNumber), (.ref ob1)])) rfl (by rw [hml]; rfl) (Steps.refl _) (argsL := [(.ref ob0_priorNumber)]) (rest := []) (lenOf own_pd25 rfl) rfl (by show 2 * 0 + _ ≤ _; exact Nat.le_of_eq rfl) (hb hby own_d28_16) (fun _ _ => ⟨rfl, e2, (by decide : 0 + 0 ≤ _), (by decide : 0 + 0 ≤ _)⟩)
  dsimp only [Pt.U, Pt.locs, Pt.cells, Pt.slots] at X3 l3 y3 z3 st3 hQ3
  subst l3 y3 z3
  obtain ⟨rfl, Nq3, e3⟩ := hQ3
  have N3 := Fr.app N0 Nq3
  have hc4 : ¬ ((0 : Int32) < r) := hup
  have g5 : ∀ t, Steps p.tables e below (T3.setTop (mkF m 32 #[.val (.ref ob0), .val (.ref ob1), .val (.ref ob1_proposer)] [])) t → Steps p.tables e below (s₁.setTop (entryFrame m #[(.ref ob0), (.ref ob1), (.ref ob1_proposer)] 3)) t := by
    intro t k
    refine g0 t ?_
    show Steps p.tables e below (s₁.setTop (mkF m 0 #[.val (.ref ob0), .val (.ref ob1), .val (.ref ob1_proposer)] [])) _
    refine XS.aloadN X0.here hx rfl (hb hby own_d28_0) rfl rfl ?_
    refine XS.ifnullNo X0.here hx rfl (hb hby own_d28_1) rfl ?_
    refine XS.aloadN X0.here hx rfl (hb hby own_d28_4) rfl rfl ?_
    show Steps p.tables e below (s₁.setTop (mkF m 5 #[.val (.ref ob0), .val (.ref ob1), .val (.ref ob1_proposer)] [(.ref ob0)])) _
    refine st1 _ ?_
    refine XS.ifnullNo X1.here hx rfl (hb hby own_d28_8) rfl ?_
    refine XS.aloadN X1.here hx rfl (hb hby own_d28_11) rfl rfl ?_
    show Steps p.tables e below (T1.setTop (mkF m 12 #[.val (.ref ob0), .val (.ref ob1), .val (.ref ob1_proposer)] [(.ref ob1)])) _
    refine XS.aloadN X1.here hx rfl (hb hby own_d28_12) rfl rfl ?_
    refine st2 _ ?_
    refine st3.trans ?_
    show Steps p.tables e below (T3.setTop (mkF m 19 #[.val (.ref ob0), .val (.ref ob1), .val (.ref ob1_proposer)] [(.int r)])) _
    refine XS.ifYes X3.here hx rfl (pc0 := 19) (pc' := 32) rfl (hb hby own_d28_19) rfl ((if0 _ _).trans (flt hc4).2.2.2) (by decide) (by decide) ?_
    exact k
  obtain ⟨fs, hrt, hrun, hended, hW, hsame⟩ := X3.leave (v := none) (fun _ => rfl)
  refine ⟨_, _, g5 _ ?_, hrun, hended, _, _, rfl, ?_, ⟨_, rfl⟩, hW, hsame.mono (by decide) (by decide)⟩
  · show Steps p.tables e below (T3.setTop (mkF m 32 #[.val (.ref ob0), .val (.ref ob1), .val (.ref ob1_proposer)] [])) _
    exact X3.returnOut hx Bd.returns (hb hby own_d28_32) hrt
  · show own_Q_rmA54 Z ob0 ob0_priorCandidate ob0_priorCandidate_host ob0_priorCandidate_host_value k_ob0_priorCandidate_host_value ob0_priorCandidate_port ob0_priorNumber ob0_priorNumber_counter ob1 ob1_counter ob1_proposer ob1_proposer_host ob1_proposer_host_value k_ob1_proposer_host_value ob1_proposer_port r cs wf h0 n0 _ T3.heap _
    rw [e3]
    exact ⟨rfl, N3, rfl⟩
def own_Q_rm0 (Z : State) (p1 : Int32) (q2 q3 : Int64) (p4 p5 p6 : Int32) (cs : Int32) (wf : Value) (h0 : Heap) (n0 : Nat) (v : Option Value) (h : Heap) (L : List Loc) : Prop := v = some (.int (1 : Int32)) ∧ Fr n0 L
set_option maxRecDepth 65536 in
set_option maxHeartbeats 40000000 in
theorem rm0 (l : Launch) (Z : State) (a0 : Array Value) (hw : ∀ d ∈ tables_1, d.before a0 Z = true) (ws : List Jvm.Cond) (p1 : Int32) (q2 q3 : Int64) (p4 p5 p6 : Int32) (cs : Int32) (wf : Value) (h0 : Heap) (n0 : Nat) (O0 : Old Z n0 h0) (G : own_Gl Z cs wf) :
    MetFree l x (head1 (Jvm.Cond.code x code maxLocals ret :: ws) room_1) (fun a U => a = #[(.int p1), (.long q2), (.long q3), (.int p4), (.int p5), (.int p6)] ∧ Z.Warmed39 U.vm ∧ U.heap = h0 ∧ CHv Z own_EL U.vm h0) (fun _ _ _ _ _ => True) (fun _ U o U' => ∃ v L, o = .returned v ∧ own_Q_rm0 Z p1 q2 q3 p4 p5 p6 cs wf h0 n0 v U'.heap L ∧ CHr Z own_EL U.vm U.heap U'.vm U'.heap ∧ ReturnedEndW U o U' L room_1.cells room_1.slots) := by
  refine MetFree.of_bodySF (plainFor_of_name own_pn0) hisR ?_
  intro p e s m args below meth c s₁ Bd hml0 hP hK
  obtain ⟨rfl, hZ, hh, hCH⟩ := hP
  have hx := Bd.exec
  have hby := Bd.bytes
  have hml : c.maxLocals = 25 := hml0
  have hown : s.vm.findClass "com/example/assemble_quorum/assemblequorum/service/RoundFinalCandidatePinLaw" = some m.cls := findClass_of_methodNamed Bd.named
  have hnm := (name_of_methodNamed Bd.named Bd.method).1
  have X0 : Stand p l e room_1 (s.setVm s.vm) m #[(.int p1), (.long q2), (.long q3), (.int p4), (.int p5), (.int p6)] below meth c s₁ [] 0 0 := Stand.of_body Bd
  have e0 : s₁.heap = h0 := by rw [← hh, Bd.state]; rfl
  have N0 := Fr.nil n0
  have Z0 : n0 ≤ h0.size := O0.1 ▸ O0.2.1
  have g0 : ∀ t, Steps p.tables e below (s₁.setTop (mkF m 0 #[.val (.int p1), .val (.long q2), .second, .val (.long q3), .second, .val (.int p4), .val (.int p5), .val (.int p6), .unset, .unset, .unset, .unset, .unset, .unset, .unset, .unset, .unset, .unset, .unset, .unset, .unset, .unset, .unset, .unset, .unset] [])) t → Steps p.tables e below (s₁.setTop (entryFrame m #[(.int p1), (.long q2), (.long q3), (.int p4), (.int p5), (.int p6)] maxLocals)) t := fun t k => castTop (own_ef1 m (p1) (q2) (q3) (p4) (p5) (p6)) k
  have hC := CHr.refl hCH
  have hS : s.Since s.vm h0.size := (State.WarmedH.refl s).since _
  have hk := Nat.le_refl h0.size
  have G0 := G
  obtain ⟨S_CS, hcs, S_WF, hwf⟩ := G
  obtain ⟨ka, hv_ka⟩ : ∃ z : Int64, z = (q2 &&& (9223372036854775807 : Int64)) := ⟨_, rfl⟩
  have g1 : ∀ t, Steps p.tables e below (s₁.setTop (mkF m 5 #[.val (.int p1), .val (.long q2), .second, .val (.long q3), .second, .val (.int p4), .val (.int p5), .val (.int p6), .unset, .unset, .unset, .unset, .unset, .unset, .unset, .unset, .unset, .unset, .unset, .unset, .unset, .unset, .unset, .unset, .unset] [(.long ka)])) t → Steps p.tables e below (s₁.setTop (entryFrame m #[(.int p1), (.long q2), (.long q3), (.int p4), (.int p5), (.int p6)] maxLocals)) t := by
    intro t k
    rw [hv_ka] at k
    refine g0 t ?_
    show Steps p.tables e below (s₁.setTop (mkF m 0 #[.val (.int p1), .val (.long q2), .second, .val (.long q3), .second, .val (.int p4), .val (.int p5), .val (.int p6), .unset, .unset, .unset, .unset, .unset, .unset, .unset, .unset, .unset, .unset, .unset, .unset, .unset, .unset, .unset, .unset, .unset] [])) _
    refine XS.lloadN X0.here hx rfl (hb hby at_0) rfl ?_
    refine X0.ldc2Long hx hown (mvT hZ (own_w hw 0 rfl)) (g := (mkF m 1 #[.val (.int p1), .val (.long q2), .second, .val (.long q3), .second, .val (.int p4), .val (.int p5), .val (.int p6), .unset, .unset, .unset, .unset, .unset, .unset, .unset, .unset, .unset, .unset, .unset, .unset, .unset, .unset, .unset, .unset, .unset] [(.long q2)])) rfl (hb hby at_1) _ ?_
    show Steps p.tables e below (s₁.setTop (mkF m 4 #[.val (.int p1), .val (.long q2), .second, .val (.long q3), .second, .val (.int p4), .val (.int p5), .val (.int p6), .unset, .unset, .unset, .unset, .unset, .unset, .unset, .unset, .unset, .unset, .unset, .unset, .unset, .unset, .unset, .unset, .unset] [(.long (9223372036854775807 : Int64)), (.long q2)])) _
    refine XS.land X0.here hx rfl (hb hby at_4) rfl ?_
    exact k
  have g2 : ∀ t, Steps p.tables e below (s₁.setTop (mkF m 10 #[.val (.int p1), .val (.long q2), .second, .val (.long q3), .second, .val (.int p4), .val (.int p5), .val (.int p6), .val (.long ka), .second, .unset, .unset, .unset, .unset, .unset, .unset, .unset, .unset, .unset, .unset, .unset, .unset, .unset, .unset, .unset] [(.int (p1 &&& (4 : Int32)))])) t → Steps p.tables e below (s₁.setTop (entryFrame m #[(.int p1), (.long q2), (.long q3), (.int p4), (.int p5), (.int p6)] maxLocals)) t := by
    intro t k
    refine g1 t ?_
    show Steps p.tables e below (s₁.setTop (mkF m 5 #[.val (.int p1), .val (.long q2), .second, .val (.long q3), .second, .val (.int p4), .val (.int p5), .val (.int p6), .unset, .unset, .unset, .unset, .unset, .unset, .unset, .unset, .unset, .unset, .unset, .unset, .unset, .unset, .unset, .unset, .unset] [(.long ka)])) _
    refine XS.lstore X0.here hx rfl (hb hby at_5) rfl (l' := #[.val (.int p1), .val (.long q2), .second, .val (.long q3), .second, .val (.int p4), .val (.int p5), .val (.int p6), .val (.long ka), .second, .unset, .unset, .unset, .unset, .unset, .unset, .unset, .unset, .unset, .unset, .unset, .unset, .unset, .unset, .unset]) rfl ?_
    refine XS.iloadN X0.here hx rfl (hb hby at_7) rfl ?_
    refine XS.iconst X0.here hx rfl (hb hby at_8) ?_
    show Steps p.tables e below (s₁.setTop (mkF m 9 #[.val (.int p1), .val (.long q2), .second, .val (.long q3), .second, .val (.int p4), .val (.int p5), .val (.int p6), .val (.long ka), .second, .unset, .unset, .unset, .unset, .unset, .unset, .unset, .unset, .unset, .unset, .unset, .unset, .unset, .unset, .unset] [(.int (4 : Int32)), (.int p1)])) _
    refine XS.iand X0.here hx rfl (hb hby at_9) rfl ?_
    exact k
  obtain ⟨kb, hv_kb⟩ : ∃ z : Int64, z = (if (p1 &&& (4 : Int32)) = (0 : Int32) then (q3 &&& (9223372036854775807 : Int64)) else ka) := ⟨_, rfl⟩
  have g4 : ∀ t, Steps p.tables e below (s₁.setTop (mkF m 23 #[.val (.int p1), .val (.long q2), .second, .val (.long q3), .second, .val (.int p4), .val (.int p5), .val (.int p6), .val (.long ka), .second, .unset, .unset, .unset, .unset, .unset, .unset, .unset, .unset, .unset, .unset, .unset, .unset, .unset, .unset, .unset] [(.long kb)])) t → Steps p.tables e below (s₁.setTop (entryFrame m #[(.int p1), (.long q2), (.long q3), (.int p4), (.int p5), (.int p6)] maxLocals)) t := by
    intro t k
    by_cases hc3 : (p1 &&& (4 : Int32)) = (0 : Int32)
    · rw [if_pos hc3] at hv_kb; rw [hv_kb] at k
      refine g2 t ?_
      show Steps p.tables e below (s₁.setTop (mkF m 10 #[.val (.int p1), .val (.long q2), .second, .val (.long q3), .second, .val (.int p4), .val (.int p5), .val (.int p6), .val (.long ka), .second, .unset, .unset, .unset, .unset, .unset, .unset, .unset, .unset, .unset, .unset, .unset, .unset, .unset, .unset, .unset] [(.int (p1 &&& (4 : Int32)))])) _
      refine XS.ifYes X0.here hx rfl (pc0 := 10) (pc' := 18) rfl (hb hby at_10) rfl ((if0 _ _).trans (teq hc3).1) (by decide) (by decide) ?_
      refine XS.lloadN X0.here hx rfl (hb hby at_18) rfl ?_
      refine X0.ldc2Long hx hown (mvT hZ (own_w hw 0 rfl)) (g := (mkF m 19 #[.val (.int p1), .val (.long q2), .second, .val (.long q3), .second, .val (.int p4), .val (.int p5), .val (.int p6), .val (.long ka), .second, .unset, .unset, .unset, .unset, .unset, .unset, .unset, .unset, .unset, .unset, .unset, .unset, .unset, .unset, .unset] [(.long q3)])) rfl (hb hby at_19) _ ?_
      show Steps p.tables e below (s₁.setTop (mkF m 22 #[.val (.int p1), .val (.long q2), .second, .val (.long q3), .second, .val (.int p4), .val (.int p5), .val (.int p6), .val (.long ka), .second, .unset, .unset, .unset, .unset, .unset, .unset, .unset, .unset, .unset, .unset, .unset, .unset, .unset, .unset, .unset] [(.long (9223372036854775807 : Int64)), (.long q3)])) _
      refine XS.land X0.here hx rfl (hb hby at_22) rfl ?_
      exact k
    · rw [if_neg hc3] at hv_kb; rw [hv_kb] at k
      refine g2 t ?_
      show Steps p.tables e below (s₁.setTop (mkF m 10 #[.val (.int p1), .val (.long q2), .second, .val (.long q3), .second, .val (.int p4), .val (.int p5), .val (.int p6), .val (.long ka), .second, .unset, .unset, .unset, .unset, .unset, .unset, .unset, .unset, .unset, .unset, .unset, .unset, .unset, .unset, .unset] [(.int (p1 &&& (4 : Int32)))])) _
      refine XS.ifNo X0.here hx rfl (hb hby at_10) rfl ((if0 _ _).trans (feq hc3).1) ?_
      refine XS.lload X0.here hx rfl (hb hby at_13) rfl ?_
      refine XS.goto X0.here hx rfl (pc0 := 15) (pc' := 23) rfl (hb hby at_15) (by decide) (by decide) ?_
      exact k
  obtain ⟨pa, hv_pa⟩ : ∃ z : Int32, z = ((1 : Int32) + ((p4 &&& (2147483647 : Int32)) % (65535 : Int32))) := ⟨_, rfl⟩
  have g5 : ∀ t, Steps p.tables e below (s₁.setTop (mkF m 35 #[.val (.int p1), .val (.long q2), .second, .val (.long q3), .second, .val (.int p4), .val (.int p5), .val (.int p6), .val (.long ka), .second, .val (.long kb), .second, .unset, .unset, .unset, .unset, .unset, .unset, .unset, .unset, .unset, .unset, .unset, .unset, .unset] [(.int pa)])) t → Steps p.tables e below (s₁.setTop (entryFrame m #[(.int p1), (.long q2), (.long q3), (.int p4), (.int p5), (.int p6)] maxLocals)) t := by
    intro t k
    rw [hv_pa] at k
    refine g4 t ?_
    show Steps p.tables e below (s₁.setTop (mkF m 23 #[.val (.int p1), .val (.long q2), .second, .val (.long q3), .second, .val (.int p4), .val (.int p5), .val (.int p6), .val (.long ka), .second, .unset, .unset, .unset, .unset, .unset, .unset, .unset, .unset, .unset, .unset, .unset, .unset, .unset, .unset, .unset] [(.long kb)])) _
    refine XS.lstore X0.here hx rfl (hb hby at_23) rfl (l' := #[.val (.int p1), .val (.long q2), .second, .val (.long q3), .second, .val (.int p4), .val (.int p5), .val (.int p6), .val (.long ka), .second, .val (.long kb), .second, .unset, .unset, .unset, .unset, .unset, .unset, .unset, .unset, .unset, .unset, .unset, .unset, .unset]) rfl ?_
    refine XS.iconst X0.here hx rfl (hb hby at_25) ?_
    refine XS.iload X0.here hx rfl (hb hby at_26) rfl ?_
    refine X0.ldcInt hx hown (mvT hZ (own_w hw 1 rfl)) (g := (mkF m 28 #[.val (.int p1), .val (.long q2), .second, .val (.long q3), .second, .val (.int p4), .val (.int p5), .val (.int p6), .val (.long ka), .second, .val (.long kb), .second, .unset, .unset, .unset, .unset, .unset, .unset, .unset, .unset, .unset, .unset, .unset, .unset, .unset] [(.int p4), (.int (1 : Int32))])) rfl (hb hby at_28) _ ?_
    show Steps p.tables e below (s₁.setTop (mkF m 30 #[.val (.int p1), .val (.long q2), .second, .val (.long q3), .second, .val (.int p4), .val (.int p5), .val (.int p6), .val (.long ka), .second, .val (.long kb), .second, .unset, .unset, .unset, .unset, .unset, .unset, .unset, .unset, .unset, .unset, .unset, .unset, .unset] [(.int (2147483647 : Int32)), (.int p4), (.int (1 : Int32))])) _
    refine XS.iand X0.here hx rfl (hb hby at_30) rfl ?_
    refine X0.ldcInt hx hown (mvT hZ (own_w hw 2 rfl)) (g := (mkF m 31 #[.val (.int p1), .val (.long q2), .second, .val (.long q3), .second, .val (.int p4), .val (.int p5), .val (.int p6), .val (.long ka), .second, .val (.long kb), .second, .unset, .unset, .unset, .unset, .unset, .unset, .unset, .unset, .unset, .unset, .unset, .unset, .unset] [(.int (p4 &&& (2147483647 : Int32))), (.int (1 : Int32))])) rfl (hb hby at_31) _ ?_
    show Steps p.tables e below (s₁.setTop (mkF m 33 #[.val (.int p1), .val (.long q2), .second, .val (.long q3), .second, .val (.int p4), .val (.int p5), .val (.int p6), .val (.long ka), .second, .val (.long kb), .second, .unset, .unset, .unset, .unset, .unset, .unset, .unset, .unset, .unset, .unset, .unset, .unset, .unset] [(.int (65535 : Int32)), (.int (p4 &&& (2147483647 : Int32))), (.int (1 : Int32))])) _
    refine XS.irem X0.here hx rfl (hb hby at_33) rfl (by decide) ?_
    rw [own_irem]
    show Steps p.tables e below (s₁.setTop (mkF m 34 #[.val (.int p1), .val (.long q2), .second, .val (.long q3), .second, .val (.int p4), .val (.int p5), .val (.int p6), .val (.long ka), .second, .val (.long kb), .second, .unset, .unset, .unset, .unset, .unset, .unset, .unset, .unset, .unset, .unset, .unset, .unset, .unset] [(.int ((p4 &&& (2147483647 : Int32)) % (65535 : Int32))), (.int (1 : Int32))])) _
    refine XS.iadd X0.here hx rfl (hb hby at_34) rfl ?_
    exact k
  have g6 : ∀ t, Steps p.tables e below (s₁.setTop (mkF m 41 #[.val (.int p1), .val (.long q2), .second, .val (.long q3), .second, .val (.int p4), .val (.int p5), .val (.int p6), .val (.long ka), .second, .val (.long kb), .second, .val (.int pa), .unset, .unset, .unset, .unset, .unset, .unset, .unset, .unset, .unset, .unset, .unset, .unset] [(.int (p1 &&& (8 : Int32)))])) t → Steps p.tables e below (s₁.setTop (entryFrame m #[(.int p1), (.long q2), (.long q3), (.int p4), (.int p5), (.int p6)] maxLocals)) t := by
    intro t k
    refine g5 t ?_
    show Steps p.tables e below (s₁.setTop (mkF m 35 #[.val (.int p1), .val (.long q2), .second, .val (.long q3), .second, .val (.int p4), .val (.int p5), .val (.int p6), .val (.long ka), .second, .val (.long kb), .second, .unset, .unset, .unset, .unset, .unset, .unset, .unset, .unset, .unset, .unset, .unset, .unset, .unset] [(.int pa)])) _
    refine XS.istore X0.here hx rfl (hb hby at_35) rfl (l' := #[.val (.int p1), .val (.long q2), .second, .val (.long q3), .second, .val (.int p4), .val (.int p5), .val (.int p6), .val (.long ka), .second, .val (.long kb), .second, .val (.int pa), .unset, .unset, .unset, .unset, .unset, .unset, .unset, .unset, .unset, .unset, .unset, .unset]) rfl ?_
    refine XS.iloadN X0.here hx rfl (hb hby at_37) rfl ?_
    refine XS.bipush X0.here hx rfl (hb hby at_38) ?_
    show Steps p.tables e below (s₁.setTop (mkF m 40 #[.val (.int p1), .val (.long q2), .second, .val (.long q3), .second, .val (.int p4), .val (.int p5), .val (.int p6), .val (.long ka), .second, .val (.long kb), .second, .val (.int pa), .unset, .unset, .unset, .unset, .unset, .unset, .unset, .unset, .unset, .unset, .unset, .unset] [(.int (8 : Int32)), (.int p1)])) _
    refine XS.iand X0.here hx rfl (hb hby at_40) rfl ?_
    exact k
  obtain ⟨pb, hv_pb⟩ : ∃ z : Int32, z = (if (p1 &&& (8 : Int32)) = (0 : Int32) then ((1 : Int32) + ((p5 &&& (2147483647 : Int32)) % (65535 : Int32))) else pa) := ⟨_, rfl⟩
  have g8 : ∀ t, Steps p.tables e below (s₁.setTop (mkF m 59 #[.val (.int p1), .val (.long q2), .second, .val (.long q3), .second, .val (.int p4), .val (.int p5), .val (.int p6), .val (.long ka), .second, .val (.long kb), .second, .val (.int pa), .unset, .unset, .unset, .unset, .unset, .unset, .unset, .unset, .unset, .unset, .unset, .unset] [(.int pb)])) t → Steps p.tables e below (s₁.setTop (entryFrame m #[(.int p1), (.long q2), (.long q3), (.int p4), (.int p5), (.int p6)] maxLocals)) t := by
    intro t k
    by_cases hc7 : (p1 &&& (8 : Int32)) = (0 : Int32)
    · rw [if_pos hc7] at hv_pb; rw [hv_pb] at k
      refine g6 t ?_
      show Steps p.tables e below (s₁.setTop (mkF m 41 #[.val (.int p1), .val (.long q2), .second, .val (.long q3), .second, .val (.int p4), .val (.int p5), .val (.int p6), .val (.long ka), .second, .val (.long kb), .second, .val (.int pa), .unset, .unset, .unset, .unset, .unset, .unset, .unset, .unset, .unset, .unset, .unset, .unset] [(.int (p1 &&& (8 : Int32)))])) _
      refine XS.ifYes X0.here hx rfl (pc0 := 41) (pc' := 49) rfl (hb hby at_41) rfl ((if0 _ _).trans (teq hc7).1) (by decide) (by decide) ?_
      refine XS.iconst X0.here hx rfl (hb hby at_49) ?_
      refine XS.iload X0.here hx rfl (hb hby at_50) rfl ?_
      refine X0.ldcInt hx hown (mvT hZ (own_w hw 1 rfl)) (g := (mkF m 52 #[.val (.int p1), .val (.long q2), .second, .val (.long q3), .second, .val (.int p4), .val (.int p5), .val (.int p6), .val (.long ka), .second, .val (.long kb), .second, .val (.int pa), .unset, .unset, .unset, .unset, .unset, .unset, .unset, .unset, .unset, .unset, .unset, .unset] [(.int p5), (.int (1 : Int32))])) rfl (hb hby at_52) _ ?_
      show Steps p.tables e below (s₁.setTop (mkF m 54 #[.val (.int p1), .val (.long q2), .second, .val (.long q3), .second, .val (.int p4), .val (.int p5), .val (.int p6), .val (.long ka), .second, .val (.long kb), .second, .val (.int pa), .unset, .unset, .unset, .unset, .unset, .unset, .unset, .unset, .unset, .unset, .unset, .unset] [(.int (2147483647 : Int32)), (.int p5), (.int (1 : Int32))])) _
      refine XS.iand X0.here hx rfl (hb hby at_54) rfl ?_
      refine X0.ldcInt hx hown (mvT hZ (own_w hw 2 rfl)) (g := (mkF m 55 #[.val (.int p1), .val (.long q2), .second, .val (.long q3), .second, .val (.int p4), .val (.int p5), .val (.int p6), .val (.long ka), .second, .val (.long kb), .second, .val (.int pa), .unset, .unset, .unset, .unset, .unset, .unset, .unset, .unset, .unset, .unset, .unset, .unset] [(.int (p5 &&& (2147483647 : Int32))), (.int (1 : Int32))])) rfl (hb hby at_55) _ ?_
      show Steps p.tables e below (s₁.setTop (mkF m 57 #[.val (.int p1), .val (.long q2), .second, .val (.long q3), .second, .val (.int p4), .val (.int p5), .val (.int p6), .val (.long ka), .second, .val (.long kb), .second, .val (.int pa), .unset, .unset, .unset, .unset, .unset, .unset, .unset, .unset, .unset, .unset, .unset, .unset] [(.int (65535 : Int32)), (.int (p5 &&& (2147483647 : Int32))), (.int (1 : Int32))])) _
      refine XS.irem X0.here hx rfl (hb hby at_57) rfl (by decide) ?_
      rw [own_irem]
      show Steps p.tables e below (s₁.setTop (mkF m 58 #[.val (.int p1), .val (.long q2), .second, .val (.long q3), .second, .val (.int p4), .val (.int p5), .val (.int p6), .val (.long ka), .second, .val (.long kb), .second, .val (.int pa), .unset, .unset, .unset, .unset, .unset, .unset, .unset, .unset, .unset, .unset, .unset, .unset] [(.int ((p5 &&& (2147483647 : Int32)) % (65535 : Int32))), (.int (1 : Int32))])) _
      refine XS.iadd X0.here hx rfl (hb hby at_58) rfl ?_
      exact k
    · rw [if_neg hc7] at hv_pb; rw [hv_pb] at k
      refine g6 t ?_
      show Steps p.tables e below (s₁.setTop (mkF m 41 #[.val (.int p1), .val (.long q2), .second, .val (.long q3), .second, .val (.int p4), .val (.int p5), .val (.int p6), .val (.long ka), .second, .val (.long kb), .second, .val (.int pa), .unset, .unset, .unset, .unset, .unset, .unset, .unset, .unset, .unset, .unset, .unset, .unset] [(.int (p1 &&& (8 : Int32)))])) _
      refine XS.ifNo X0.here hx rfl (hb hby at_41) rfl ((if0 _ _).trans (feq hc7).1) ?_
      refine XS.iload X0.here hx rfl (hb hby at_44) rfl ?_
      refine XS.goto X0.here hx rfl (pc0 := 46) (pc' := 59) rfl (hb hby at_46) (by decide) (by decide) ?_
      exact k
  obtain ⟨ps, hv_ps⟩ : ∃ z : Int32, z = ((1 : Int32) + ((p6 &&& (2147483647 : Int32)) % (65535 : Int32))) := ⟨_, rfl⟩
  have g9 : ∀ t, Steps p.tables e below (s₁.setTop (mkF m 71 #[.val (.int p1), .val (.long q2), .second, .val (.long q3), .second, .val (.int p4), .val (.int p5), .val (.int p6), .val (.long ka), .second, .val (.long kb), .second, .val (.int pa), .val (.int pb), .unset, .unset, .unset, .unset, .unset, .unset, .unset, .unset, .unset, .unset, .unset] [(.int ps)])) t → Steps p.tables e below (s₁.setTop (entryFrame m #[(.int p1), (.long q2), (.long q3), (.int p4), (.int p5), (.int p6)] maxLocals)) t := by
    intro t k
    rw [hv_ps] at k
    refine g8 t ?_
    show Steps p.tables e below (s₁.setTop (mkF m 59 #[.val (.int p1), .val (.long q2), .second, .val (.long q3), .second, .val (.int p4), .val (.int p5), .val (.int p6), .val (.long ka), .second, .val (.long kb), .second, .val (.int pa), .unset, .unset, .unset, .unset, .unset, .unset, .unset, .unset, .unset, .unset, .unset, .unset] [(.int pb)])) _
    refine XS.istore X0.here hx rfl (hb hby at_59) rfl (l' := #[.val (.int p1), .val (.long q2), .second, .val (.long q3), .second, .val (.int p4), .val (.int p5), .val (.int p6), .val (.long ka), .second, .val (.long kb), .second, .val (.int pa), .val (.int pb), .unset, .unset, .unset, .unset, .unset, .unset, .unset, .unset, .unset, .unset, .unset]) rfl ?_
    refine XS.iconst X0.here hx rfl (hb hby at_61) ?_
    refine XS.iload X0.here hx rfl (hb hby at_62) rfl ?_
    refine X0.ldcInt hx hown (mvT hZ (own_w hw 1 rfl)) (g := (mkF m 64 #[.val (.int p1), .val (.long q2), .second, .val (.long q3), .second, .val (.int p4), .val (.int p5), .val (.int p6), .val (.long ka), .second, .val (.long kb), .second, .val (.int pa), .val (.int pb), .unset, .unset, .unset, .unset, .unset, .unset, .unset, .unset, .unset, .unset, .unset] [(.int p6), (.int (1 : Int32))])) rfl (hb hby at_64) _ ?_
    show Steps p.tables e below (s₁.setTop (mkF m 66 #[.val (.int p1), .val (.long q2), .second, .val (.long q3), .second, .val (.int p4), .val (.int p5), .val (.int p6), .val (.long ka), .second, .val (.long kb), .second, .val (.int pa), .val (.int pb), .unset, .unset, .unset, .unset, .unset, .unset, .unset, .unset, .unset, .unset, .unset] [(.int (2147483647 : Int32)), (.int p6), (.int (1 : Int32))])) _
    refine XS.iand X0.here hx rfl (hb hby at_66) rfl ?_
    refine X0.ldcInt hx hown (mvT hZ (own_w hw 2 rfl)) (g := (mkF m 67 #[.val (.int p1), .val (.long q2), .second, .val (.long q3), .second, .val (.int p4), .val (.int p5), .val (.int p6), .val (.long ka), .second, .val (.long kb), .second, .val (.int pa), .val (.int pb), .unset, .unset, .unset, .unset, .unset, .unset, .unset, .unset, .unset, .unset, .unset] [(.int (p6 &&& (2147483647 : Int32))), (.int (1 : Int32))])) rfl (hb hby at_67) _ ?_
    show Steps p.tables e below (s₁.setTop (mkF m 69 #[.val (.int p1), .val (.long q2), .second, .val (.long q3), .second, .val (.int p4), .val (.int p5), .val (.int p6), .val (.long ka), .second, .val (.long kb), .second, .val (.int pa), .val (.int pb), .unset, .unset, .unset, .unset, .unset, .unset, .unset, .unset, .unset, .unset, .unset] [(.int (65535 : Int32)), (.int (p6 &&& (2147483647 : Int32))), (.int (1 : Int32))])) _
    refine XS.irem X0.here hx rfl (hb hby at_69) rfl (by decide) ?_
    rw [own_irem]
    show Steps p.tables e below (s₁.setTop (mkF m 70 #[.val (.int p1), .val (.long q2), .second, .val (.long q3), .second, .val (.int p4), .val (.int p5), .val (.int p6), .val (.long ka), .second, .val (.long kb), .second, .val (.int pa), .val (.int pb), .unset, .unset, .unset, .unset, .unset, .unset, .unset, .unset, .unset, .unset, .unset] [(.int ((p6 &&& (2147483647 : Int32)) % (65535 : Int32))), (.int (1 : Int32))])) _
    refine XS.iadd X0.here hx rfl (hb hby at_70) rfl ?_
    exact k
  have hpo_ka := own_mask _ _ hv_ka
  have hpo_pa := own_port _ _ hv_pa
  have hpo_ps := own_port _ _ hv_ps
  have hpo_kb : ¬ kb < (0 : Int64) := by rw [hv_kb]; split; exact own_mask _ _ rfl; exact hpo_ka
  have hpo_pb : ¬ pb < (1 : Int32) ∧ ¬ (65535 : Int32) < pb := by rw [hv_pb]; split; exact own_port _ _ rfl; exact hpo_pa
  obtain ⟨T10, h10, X10, e10, E10, A10, D10, -, st10⟩ := newO X0 hx hZ hown (own_w hw 3 rfl) (own_w hw 4 rfl) (own_w hw 5 rfl) e0 (g := (mkF m 73 #[.val (.int p1), .val (.long q2), .second, .val (.long q3), .second, .val (.int p4), .val (.int p5), .val (.int p6), .val (.long ka), .second, .val (.long kb), .second, .val (.int pa), .val (.int pb), .val (.int ps), .unset, .unset, .unset, .unset, .unset, .unset, .unset, .unset, .unset, .unset] [])) rfl (hb hby at_73) (by decide) (by decide)
  obtain ⟨b10, q_b10⟩ : ∃ z, z = h0.size := ⟨_, rfl⟩
  rw [← q_b10] at A10 D10 st10
  have sz_b10 : h0.size ≤ b10 := Nat.le_of_eq q_b10.symm
  have gz_b10 : n0 ≤ b10 := Nat.le_trans Z0 sz_b10
  have hC := hC.trans (CHr.ext E10 hC.1)
  have hk := Nat.le_trans hk E10.1
  have F10_host : Fld Z h10 b10 "com/example/assemble_quorum/assemblequorum/model/MemberAddress" "host" "Ljava/lang/String;" .null := D10 (Or.inr (own_w hw 100 rfl)) (ty := (.object "java/lang/String")) (by decide)
  have F10_port : Fld Z h10 b10 "com/example/assemble_quorum/assemblequorum/model/MemberAddress" "port" "I" (.int (0 : Int32)) := D10 (Or.inr (own_w hw 102 rfl)) (ty := .int) (by decide)
  obtain ⟨a11, T11, h11, k11, b11, ka11, X11, e11, E11, hS, hk, hZ, hown, Ex11, Fc11, Fv11, Va11, -, -, C11, -, -, st11⟩ := ldcCH (s := s) (vm0 := s.vm) X10 hx hZ hown (own_w hw 6 rfl) (own_wS hw) e10 hS hk (own_EW hw) (List.mem_of_getElem? (i := 0) rfl) hC.1 (vs := [(.int (115 : Int32))]) (z := (1 : Int32)) ⟨by decide, by decide⟩ (by decide) (by decide) (g := (mkF m 77 #[.val (.int p1), .val (.long q2), .second, .val (.long q3), .second, .val (.int p4), .val (.int p5), .val (.int p6), .val (.long ka), .second, .val (.long kb), .second, .val (.int pa), .val (.int pb), .val (.int ps), .unset, .unset, .unset, .unset, .unset, .unset, .unset, .unset, .unset, .unset] [(.ref b10), (.ref b10)])) rfl (hb hby at_77) (n := 4) (by decide) (by decide) (by decide) (by decide)
  have hC := hC.trans C11
  have f12 := (A10.ext E11)
  have f13 := (F10_host.ext E11)
  have f14 := (F10_port.ext E11)
  have o15 : Old Z n0 h11 := (Old.ext (Old.ext O0 E10) E11)
  obtain ⟨_, _, ⟨T16, L16, k16, n16⟩, -, X16, hSn16, hgn16, ⟨Lc16, hQ16, l16, y16, z16, C16⟩, st16⟩ := X11.specialBackS hx (y := own_y0) rfl hown (mvT hZ (own_w hw 14 rfl)) (mvT hZ (own_w hw 15 rfl)) (mvT hZ (own_w hw 16 rfl)) (by decide) (backOfSH (s := s) (vm0 := T11.vm) (W := 1) (rmA0 l Z a0 hw [] b10 a11 b11 ka11 (ps)  cs wf h11 n0 o15 G0 f12 f13 f14 Ex11 Fc11 Va11 Fv11 gz_b10 hpo_ps.1 hpo_ps.2) hZ (own_w hw 16 rfl) (own_w hw 5 rfl) (by decide) (by decide) (own_EW hw) hC.1) (g := (mkF m 81 #[.val (.int p1), .val (.long q2), .second, .val (.long q3), .second, .val (.int p4), .val (.int p5), .val (.int p6), .val (.long ka), .second, .val (.long kb), .second, .val (.int pa), .val (.int pb), .val (.int ps), .unset, .unset, .unset, .unset, .unset, .unset, .unset, .unset, .unset, .unset] [(.int ps), (.ref a11), (.ref b10), (.ref b10)])) rfl (by rw [hml]; rfl) (Steps.refl _) (a := b10) (argsL := [(.ref a11), (.int ps)]) (rest := [(.ref b10)]) (lenOf own_pd14 rfl) rfl (by show 2 * 0 + _ ≤ _; exact Nat.le_of_eq rfl) (hb hby at_81) (fun _ _ => ⟨rfl, e11, (by decide : 3 + 2 ≤ _), (by decide : 10 + 20 ≤ _)⟩)
  dsimp only [Pt.U, Pt.locs, Pt.cells, Pt.slots] at X16 l16 y16 z16 st16 hQ16 hSn16 hgn16 C16
  subst l16 y16 z16
  have hS := foldS hS (by rw [e11]; exact hk) hSn16 hgn16
  have hk := Nat.le_refl T16.heap.size
  have hZ : Z.Warmed39 T16.vm := State.Warmed39.trans (t := s.setVm T11.vm) hZ hSn16.1
  have hown : T16.vm.findClass "com/example/assemble_quorum/assemblequorum/service/RoundFinalCandidatePinLaw" = some m.cls := by rw [hSn16.1.alike.findClass]; exact hown
  have hC := hC.trans C16
  obtain ⟨rfl, Nq16, K16, Q16_0, Q16_1, Q16_2⟩ := hQ16
  have N16 := Fr.app N0 Nq16
  obtain ⟨T17, h17, X17, e17, E17, A17, D17, -, st17⟩ := newO X16 hx hZ hown (own_w hw 3 rfl) (own_w hw 4 rfl) (own_w hw 5 rfl) rfl (g := (mkF m 86 #[.val (.int p1), .val (.long q2), .second, .val (.long q3), .second, .val (.int p4), .val (.int p5), .val (.int p6), .val (.long ka), .second, .val (.long kb), .second, .val (.int pa), .val (.int pb), .val (.int ps), .val (.ref b10), .unset, .unset, .unset, .unset, .unset, .unset, .unset, .unset, .unset] [])) rfl (hb hby at_86) (by decide) (by decide)
  obtain ⟨b17, q_b17⟩ : ∃ z, z = T16.heap.size := ⟨_, rfl⟩
  rw [← q_b17] at A17 D17 st17
  have sz_b17 : h0.size ≤ b17 := Nat.le_trans (Nat.le_trans (Nat.le_trans E10.1 E11.1) K16.1) (Nat.le_of_eq q_b17.symm)
  have gz_b17 : n0 ≤ b17 := Nat.le_trans Z0 sz_b17
  have f18 := (Ex11.keep K16)
  have ne_a11_b17 : a11 ≠ b17 := Nat.ne_of_lt (Nat.lt_of_lt_of_le f18.lt (Nat.le_of_eq q_b17.symm))
  have ne_b10_b17 : b10 ≠ b17 := Nat.ne_of_lt (Nat.lt_of_lt_of_le Q16_0.lt (Nat.le_of_eq q_b17.symm))
  have f19 := (Va11.keep K16 (ninS (Ne.symm (Exa.neArv f12 Va11 (own_w hw 4 rfl))) nin0))
  have ne_b11_b17 : b11 ≠ b17 := Nat.ne_of_lt (Nat.lt_of_lt_of_le f19.lt (Nat.le_of_eq q_b17.symm))
  have hC := hC.trans (CHr.ext E17 hC.1)
  have hk := Nat.le_trans hk E17.1
  have F17_host : Fld Z h17 b17 "com/example/assemble_quorum/assemblequorum/model/MemberAddress" "host" "Ljava/lang/String;" .null := D17 (Or.inr (own_w hw 100 rfl)) (ty := (.object "java/lang/String")) (by decide)
  have F17_port : Fld Z h17 b17 "com/example/assemble_quorum/assemblequorum/model/MemberAddress" "port" "I" (.int (0 : Int32)) := D17 (Or.inr (own_w hw 102 rfl)) (ty := .int) (by decide)
  obtain ⟨a20, T20, h20, k20, b20, ka20, X20, e20, E20, hS, hk, hZ, hown, Ex20, Fc20, Fv20, Va20, -, -, C20, -, -, st20⟩ := ldcCH (s := s) (vm0 := T16.vm) X17 hx hZ hown (own_w hw 103 rfl) (own_wS hw) e17 hS hk (own_EW hw) (List.mem_of_getElem? (i := 1) rfl) hC.1 (vs := [(.int (99 : Int32))]) (z := (1 : Int32)) ⟨by decide, by decide⟩ (by decide) (by decide) (g := (mkF m 90 #[.val (.int p1), .val (.long q2), .second, .val (.long q3), .second, .val (.int p4), .val (.int p5), .val (.int p6), .val (.long ka), .second, .val (.long kb), .second, .val (.int pa), .val (.int pb), .val (.int ps), .val (.ref b10), .unset, .unset, .unset, .unset, .unset, .unset, .unset, .unset, .unset] [(.ref b17), (.ref b17)])) rfl (hb hby at_90) (n := 4) (by decide) (by decide) (by decide) (by decide)
  have hC := hC.trans C20
  have f21 := (A17.ext E20)
  have f22 := (F17_host.ext E20)
  have f23 := (F17_port.ext E20)
  have o24 : Old Z n0 h20 := (Old.ext (Old.ext (Old.keep o15 K16 (allS gz_b10 all0)) E17) E20)
  obtain ⟨_, _, ⟨T25, L25, k25, n25⟩, -, X25, hSn25, hgn25, ⟨Lc25, hQ25, l25, y25, z25, C25⟩, st25⟩ := X20.specialBackS hx (y := own_y0) rfl hown (mvT hZ (own_w hw 14 rfl)) (mvT hZ (own_w hw 15 rfl)) (mvT hZ (own_w hw 16 rfl)) (by decide) (backOfSH (s := s) (vm0 := T20.vm) (W := 1) (rmA20 l Z a0 hw [] b17 a20 b20 ka20 (pa)  cs wf h20 n0 o24 G0 f21 f22 f23 Ex20 Fc20 Va20 Fv20 gz_b17 hpo_pa.1 hpo_pa.2) hZ (own_w hw 16 rfl) (own_w hw 5 rfl) (by decide) (by decide) (own_EW hw) hC.1) (g := (mkF m 94 #[.val (.int p1), .val (.long q2), .second, .val (.long q3), .second, .val (.int p4), .val (.int p5), .val (.int p6), .val (.long ka), .second, .val (.long kb), .second, .val (.int pa), .val (.int pb), .val (.int ps), .val (.ref b10), .unset, .unset, .unset, .unset, .unset, .unset, .unset, .unset, .unset] [(.int pa), (.ref a20), (.ref b17), (.ref b17)])) rfl (by rw [hml]; rfl) (Steps.refl _) (a := b17) (argsL := [(.ref a20), (.int pa)]) (rest := [(.ref b17)]) (lenOf own_pd14 rfl) rfl (by show 2 * 0 + _ ≤ _; exact Nat.le_of_eq rfl) (hb hby at_94) (fun _ _ => ⟨rfl, e20, (by decide : 8 + 2 ≤ _), (by decide : 40 + 20 ≤ _)⟩)
  dsimp only [Pt.U, Pt.locs, Pt.cells, Pt.slots] at X25 l25 y25 z25 st25 hQ25 hSn25 hgn25 C25
  subst l25 y25 z25
  have hS := foldS hS (by rw [e20]; exact hk) hSn25 hgn25
  have hk := Nat.le_refl T25.heap.size
  have hZ : Z.Warmed39 T25.vm := State.Warmed39.trans (t := s.setVm T20.vm) hZ hSn25.1
  have hown : T25.vm.findClass "com/example/assemble_quorum/assemblequorum/service/RoundFinalCandidatePinLaw" = some m.cls := by rw [hSn25.1.alike.findClass]; exact hown
  have hC := hC.trans C25
  obtain ⟨rfl, Nq25, K25, Q25_0, Q25_1, Q25_2⟩ := hQ25
  have N25 := Fr.app N16 Nq25
  obtain ⟨T26, h26, X26, e26, E26, A26, D26, -, st26⟩ := newO X25 hx hZ hown (own_w hw 3 rfl) (own_w hw 4 rfl) (own_w hw 5 rfl) rfl (g := (mkF m 99 #[.val (.int p1), .val (.long q2), .second, .val (.long q3), .second, .val (.int p4), .val (.int p5), .val (.int p6), .val (.long ka), .second, .val (.long kb), .second, .val (.int pa), .val (.int pb), .val (.int ps), .val (.ref b10), .val (.ref b17), .unset, .unset, .unset, .unset, .unset, .unset, .unset, .unset] [])) rfl (hb hby at_99) (by decide) (by decide)
  obtain ⟨b26, q_b26⟩ : ∃ z, z = T25.heap.size := ⟨_, rfl⟩
  rw [← q_b26] at A26 D26 st26
  have sz_b26 : h0.size ≤ b26 := Nat.le_trans (Nat.le_trans (Nat.le_trans (Nat.le_trans (Nat.le_trans (Nat.le_trans E10.1 E11.1) K16.1) E17.1) E20.1) K25.1) (Nat.le_of_eq q_b26.symm)
  have gz_b26 : n0 ≤ b26 := Nat.le_trans Z0 sz_b26
  have f27 := (((f18.ext E17).ext E20).keep K25)
  have ne_a11_b26 : a11 ≠ b26 := Nat.ne_of_lt (Nat.lt_of_lt_of_le f27.lt (Nat.le_of_eq q_b26.symm))
  have f28 := (Ex20.keep K25)
  have ne_a20_b26 : a20 ≠ b26 := Nat.ne_of_lt (Nat.lt_of_lt_of_le f28.lt (Nat.le_of_eq q_b26.symm))
  have f29 := (((Q16_0.ext E17).ext E20).keep K25)
  have ne_b10_b26 : b10 ≠ b26 := Nat.ne_of_lt (Nat.lt_of_lt_of_le f29.lt (Nat.le_of_eq q_b26.symm))
  have f30 := (((f19.ext E17).ext E20).keep K25 (ninS ne_b11_b17 nin0))
  have ne_b11_b26 : b11 ≠ b26 := Nat.ne_of_lt (Nat.lt_of_lt_of_le f30.lt (Nat.le_of_eq q_b26.symm))
  have ne_b17_b26 : b17 ≠ b26 := Nat.ne_of_lt (Nat.lt_of_lt_of_le Q25_0.lt (Nat.le_of_eq q_b26.symm))
  have f31 := (Va20.keep K25 (ninS (Ne.symm (Exa.neArv f21 Va20 (own_w hw 4 rfl))) nin0))
  have ne_b20_b26 : b20 ≠ b26 := Nat.ne_of_lt (Nat.lt_of_lt_of_le f31.lt (Nat.le_of_eq q_b26.symm))
  have hC := hC.trans (CHr.ext E26 hC.1)
  have hk := Nat.le_trans hk E26.1
  have F26_host : Fld Z h26 b26 "com/example/assemble_quorum/assemblequorum/model/MemberAddress" "host" "Ljava/lang/String;" .null := D26 (Or.inr (own_w hw 100 rfl)) (ty := (.object "java/lang/String")) (by decide)
  have F26_port : Fld Z h26 b26 "com/example/assemble_quorum/assemblequorum/model/MemberAddress" "port" "I" (.int (0 : Int32)) := D26 (Or.inr (own_w hw 102 rfl)) (ty := .int) (by decide)
  obtain ⟨a32, T32, h32, k32, b32, ka32, X32, e32, E32, hS, hk, hZ, hown, Ex32, Fc32, Fv32, Va32, -, -, C32, -, -, st32⟩ := ldcCH (s := s) (vm0 := T25.vm) X26 hx hZ hown (own_w hw 103 rfl) (own_wS hw) e26 hS hk (own_EW hw) (List.mem_of_getElem? (i := 1) rfl) hC.1 (vs := [(.int (99 : Int32))]) (z := (1 : Int32)) ⟨by decide, by decide⟩ (by decide) (by decide) (g := (mkF m 103 #[.val (.int p1), .val (.long q2), .second, .val (.long q3), .second, .val (.int p4), .val (.int p5), .val (.int p6), .val (.long ka), .second, .val (.long kb), .second, .val (.int pa), .val (.int pb), .val (.int ps), .val (.ref b10), .val (.ref b17), .unset, .unset, .unset, .unset, .unset, .unset, .unset, .unset] [(.ref b26), (.ref b26)])) rfl (hb hby at_103) (n := 4) (by decide) (by decide) (by decide) (by decide)
  have hC := hC.trans C32
  have f33 := (A26.ext E32)
  have f34 := (F26_host.ext E32)
  have f35 := (F26_port.ext E32)
  have o36 : Old Z n0 h32 := (Old.ext (Old.ext (Old.keep o24 K25 (allS gz_b17 all0)) E26) E32)
  obtain ⟨_, _, ⟨T37, L37, k37, n37⟩, -, X37, hSn37, hgn37, ⟨Lc37, hQ37, l37, y37, z37, C37⟩, st37⟩ := X32.specialBackS hx (y := own_y0) rfl hown (mvT hZ (own_w hw 14 rfl)) (mvT hZ (own_w hw 15 rfl)) (mvT hZ (own_w hw 16 rfl)) (by decide) (backOfSH (s := s) (vm0 := T32.vm) (W := 1) (rmA20 l Z a0 hw [] b26 a32 b32 ka32 (pb)  cs wf h32 n0 o36 G0 f33 f34 f35 Ex32 Fc32 Va32 Fv32 gz_b26 hpo_pb.1 hpo_pb.2) hZ (own_w hw 16 rfl) (own_w hw 5 rfl) (by decide) (by decide) (own_EW hw) hC.1) (g := (mkF m 107 #[.val (.int p1), .val (.long q2), .second, .val (.long q3), .second, .val (.int p4), .val (.int p5), .val (.int p6), .val (.long ka), .second, .val (.long kb), .second, .val (.int pa), .val (.int pb), .val (.int ps), .val (.ref b10), .val (.ref b17), .unset, .unset, .unset, .unset, .unset, .unset, .unset, .unset] [(.int pb), (.ref a32), (.ref b26), (.ref b26)])) rfl (by rw [hml]; rfl) (Steps.refl _) (a := b26) (argsL := [(.ref a32), (.int pb)]) (rest := [(.ref b26)]) (lenOf own_pd14 rfl) rfl (by show 2 * 0 + _ ≤ _; exact Nat.le_of_eq rfl) (hb hby at_107) (fun _ _ => ⟨rfl, e32, (by decide : 13 + 2 ≤ _), (by decide : 70 + 20 ≤ _)⟩)
  dsimp only [Pt.U, Pt.locs, Pt.cells, Pt.slots] at X37 l37 y37 z37 st37 hQ37 hSn37 hgn37 C37
  subst l37 y37 z37
  have hS := foldS hS (by rw [e32]; exact hk) hSn37 hgn37
  have hk := Nat.le_refl T37.heap.size
  have hZ : Z.Warmed39 T37.vm := State.Warmed39.trans (t := s.setVm T32.vm) hZ hSn37.1
  have hown : T37.vm.findClass "com/example/assemble_quorum/assemblequorum/service/RoundFinalCandidatePinLaw" = some m.cls := by rw [hSn37.1.alike.findClass]; exact hown
  have hC := hC.trans C37
  obtain ⟨rfl, Nq37, K37, Q37_0, Q37_1, Q37_2⟩ := hQ37
  have N37 := Fr.app N25 Nq37
  obtain ⟨T38, h38, X38, e38, E38, A38, D38, -, st38⟩ := newO X37 hx hZ hown (own_w hw 104 rfl) (own_w hw 105 rfl) (own_w hw 106 rfl) rfl (g := (mkF m 112 #[.val (.int p1), .val (.long q2), .second, .val (.long q3), .second, .val (.int p4), .val (.int p5), .val (.int p6), .val (.long ka), .second, .val (.long kb), .second, .val (.int pa), .val (.int pb), .val (.int ps), .val (.ref b10), .val (.ref b17), .val (.ref b26), .unset, .unset, .unset, .unset, .unset, .unset, .unset] [])) rfl (hb hby at_112) (by decide) (by decide)
  obtain ⟨b38, q_b38⟩ : ∃ z, z = T37.heap.size := ⟨_, rfl⟩
  rw [← q_b38] at A38 D38 st38
  have sz_b38 : h0.size ≤ b38 := Nat.le_trans (Nat.le_trans (Nat.le_trans (Nat.le_trans (Nat.le_trans (Nat.le_trans (Nat.le_trans (Nat.le_trans (Nat.le_trans E10.1 E11.1) K16.1) E17.1) E20.1) K25.1) E26.1) E32.1) K37.1) (Nat.le_of_eq q_b38.symm)
  have gz_b38 : n0 ≤ b38 := Nat.le_trans Z0 sz_b38
  have f39 := (((f27.ext E26).ext E32).keep K37)
  have ne_a11_b38 : a11 ≠ b38 := Nat.ne_of_lt (Nat.lt_of_lt_of_le f39.lt (Nat.le_of_eq q_b38.symm))
  have f40 := (((f28.ext E26).ext E32).keep K37)
  have ne_a20_b38 : a20 ≠ b38 := Nat.ne_of_lt (Nat.lt_of_lt_of_le f40.lt (Nat.le_of_eq q_b38.symm))
  have f41 := (Ex32.keep K37)
  have ne_a32_b38 : a32 ≠ b38 := Nat.ne_of_lt (Nat.lt_of_lt_of_le f41.lt (Nat.le_of_eq q_b38.symm))
  have f42 := (((f29.ext E26).ext E32).keep K37)
  have ne_b10_b38 : b10 ≠ b38 := Nat.ne_of_lt (Nat.lt_of_lt_of_le f42.lt (Nat.le_of_eq q_b38.symm))
  have f43 := (((f30.ext E26).ext E32).keep K37 (ninS ne_b11_b26 nin0))
  have ne_b11_b38 : b11 ≠ b38 := Nat.ne_of_lt (Nat.lt_of_lt_of_le f43.lt (Nat.le_of_eq q_b38.symm))
  have f44 := (((Q25_0.ext E26).ext E32).keep K37)
  have ne_b17_b38 : b17 ≠ b38 := Nat.ne_of_lt (Nat.lt_of_lt_of_le f44.lt (Nat.le_of_eq q_b38.symm))
  have f45 := (((f31.ext E26).ext E32).keep K37 (ninS ne_b20_b26 nin0))
  have ne_b20_b38 : b20 ≠ b38 := Nat.ne_of_lt (Nat.lt_of_lt_of_le f45.lt (Nat.le_of_eq q_b38.symm))
  have ne_b26_b38 : b26 ≠ b38 := Nat.ne_of_lt (Nat.lt_of_lt_of_le Q37_0.lt (Nat.le_of_eq q_b38.symm))
  have f46 := (Va32.keep K37 (ninS (Ne.symm (Exa.neArv f33 Va32 (own_w hw 4 rfl))) nin0))
  have ne_b32_b38 : b32 ≠ b38 := Nat.ne_of_lt (Nat.lt_of_lt_of_le f46.lt (Nat.le_of_eq q_b38.symm))
  have hC := hC.trans (CHr.ext E38 hC.1)
  have hk := Nat.le_trans hk E38.1
  have F38_counter : Fld Z h38 b38 "com/example/assemble_quorum/assemblequorum/model/ProposalNumber" "counter" "J" (.long (0 : Int64)) := D38 (Or.inr (own_w hw 114 rfl)) (ty := .long) (by decide)
  have F38_proposer : Fld Z h38 b38 "com/example/assemble_quorum/assemblequorum/model/ProposalNumber" "proposer" "Lcom/example/assemble_quorum/assemblequorum/model/MemberAddress;" .null := D38 (Or.inr (own_w hw 116 rfl)) (ty := (.object "com/example/assemble_quorum/assemblequorum/model/MemberAddress")) (by decide)
  obtain ⟨LL47, XL47, NL47⟩ : ∃ LL : List Loc, Stand p l e room_1 (s.setVm T37.vm) m #[(.int p1), (.long q2), (.long q3), (.int p4), (.int p5), (.int p6)] below meth c T38 LL 16 92 ∧ Fr n0 LL := ⟨_, X38, N37⟩
  have o48 : Old Z n0 h38 := (Old.ext (Old.keep o36 K37 (allS gz_b26 all0)) E38)
  obtain ⟨_, _, ⟨T49, L49, k49, n49⟩, -, X49, hSn49, hgn49, ⟨Lc49, hQ49, l49, y49, z49, C49⟩, st49⟩ := XL47.specialBackS hx (y := own_y19) rfl hown (mvT hZ (own_w hw 107 rfl)) (mvT hZ (own_w hw 108 rfl)) (mvT hZ (own_w hw 109 rfl)) (by decide) (backOfSH (s := s) (vm0 := T37.vm) (W := 1) (rmA33 l Z a0 hw [] b38 (ka) b17  cs wf h38 n0 o48 G0 A38 F38_counter F38_proposer gz_b38 hpo_ka) hZ (own_w hw 109 rfl) (own_w hw 106 rfl) (by decide) (by decide) (own_EW hw) hC.1) (g := (mkF m 120 #[.val (.int p1), .val (.long q2), .second, .val (.long q3), .second, .val (.int p4), .val (.int p5), .val (.int p6), .val (.long ka), .second, .val (.long kb), .second, .val (.int pa), .val (.int pb), .val (.int ps), .val (.ref b10), .val (.ref b17), .val (.ref b26), .unset, .unset, .unset, .unset, .unset, .unset, .unset] [(.ref b17), (.long ka), (.ref b38), (.ref b38)])) rfl (by rw [hml]; rfl) (Steps.refl _) (a := b38) (argsL := [(.long ka), (.ref b17)]) (rest := [(.ref b38)]) (lenOf own_pd15 rfl) rfl (by show 2 * 0 + _ ≤ _; exact Nat.le_of_eq rfl) (hb hby at_120) (fun _ _ => ⟨rfl, e38, (by decide : 16 + 2 ≤ _), (by decide : 92 + 36 ≤ _)⟩)
  dsimp only [Pt.U, Pt.locs, Pt.cells, Pt.slots] at X49 l49 y49 z49 st49 hQ49 hSn49 hgn49 C49
  subst l49 y49 z49
  have hS := foldS hS (by rw [e38]; exact hk) hSn49 hgn49
  have hk := Nat.le_refl T49.heap.size
  have hZ : Z.Warmed39 T49.vm := State.Warmed39.trans (t := s.setVm T37.vm) hZ hSn49.1
  have hown : T49.vm.findClass "com/example/assemble_quorum/assemblequorum/service/RoundFinalCandidatePinLaw" = some m.cls := by rw [hSn49.1.alike.findClass]; exact hown
  have hC := hC.trans C49
  obtain ⟨rfl, Nq49, K49, Q49_0, Q49_1, Q49_2⟩ := hQ49
  have N49 := Fr.app NL47 Nq49
  obtain ⟨T50, h50, X50, e50, E50, A50, D50, -, st50⟩ := newO X49 hx hZ hown (own_w hw 104 rfl) (own_w hw 105 rfl) (own_w hw 106 rfl) rfl (g := (mkF m 125 #[.val (.int p1), .val (.long q2), .second, .val (.long q3), .second, .val (.int p4), .val (.int p5), .val (.int p6), .val (.long ka), .second, .val (.long kb), .second, .val (.int pa), .val (.int pb), .val (.int ps), .val (.ref b10), .val (.ref b17), .val (.ref b26), .val (.ref b38), .unset, .unset, .unset, .unset, .unset, .unset] [])) rfl (hb hby at_125) (by decide) (by decide)
  obtain ⟨b50, q_b50⟩ : ∃ z, z = T49.heap.size := ⟨_, rfl⟩
  rw [← q_b50] at A50 D50 st50
  have sz_b50 : h0.size ≤ b50 := Nat.le_trans (Nat.le_trans (Nat.le_trans (Nat.le_trans (Nat.le_trans (Nat.le_trans (Nat.le_trans (Nat.le_trans (Nat.le_trans (Nat.le_trans (Nat.le_trans E10.1 E11.1) K16.1) E17.1) E20.1) K25.1) E26.1) E32.1) K37.1) E38.1) K49.1) (Nat.le_of_eq q_b50.symm)
  have gz_b50 : n0 ≤ b50 := Nat.le_trans Z0 sz_b50
  have f51 := ((f39.ext E38).keep K49)
  have ne_a11_b50 : a11 ≠ b50 := Nat.ne_of_lt (Nat.lt_of_lt_of_le f51.lt (Nat.le_of_eq q_b50.symm))
  have f52 := ((f40.ext E38).keep K49)
  have ne_a20_b50 : a20 ≠ b50 := Nat.ne_of_lt (Nat.lt_of_lt_of_le f52.lt (Nat.le_of_eq q_b50.symm))
  have f53 := ((f41.ext E38).keep K49)
  have ne_a32_b50 : a32 ≠ b50 := Nat.ne_of_lt (Nat.lt_of_lt_of_le f53.lt (Nat.le_of_eq q_b50.symm))
  have f54 := ((f42.ext E38).keep K49)
  have ne_b10_b50 : b10 ≠ b50 := Nat.ne_of_lt (Nat.lt_of_lt_of_le f54.lt (Nat.le_of_eq q_b50.symm))
  have f55 := ((f43.ext E38).keep K49 (ninS ne_b11_b38 nin0))
  have ne_b11_b50 : b11 ≠ b50 := Nat.ne_of_lt (Nat.lt_of_lt_of_le f55.lt (Nat.le_of_eq q_b50.symm))
  have f56 := ((f44.ext E38).keep K49)
  have ne_b17_b50 : b17 ≠ b50 := Nat.ne_of_lt (Nat.lt_of_lt_of_le f56.lt (Nat.le_of_eq q_b50.symm))
  have f57 := ((f45.ext E38).keep K49 (ninS ne_b20_b38 nin0))
  have ne_b20_b50 : b20 ≠ b50 := Nat.ne_of_lt (Nat.lt_of_lt_of_le f57.lt (Nat.le_of_eq q_b50.symm))
  have f58 := ((Q37_0.ext E38).keep K49)
  have ne_b26_b50 : b26 ≠ b50 := Nat.ne_of_lt (Nat.lt_of_lt_of_le f58.lt (Nat.le_of_eq q_b50.symm))
  have f59 := ((f46.ext E38).keep K49 (ninS ne_b32_b38 nin0))
  have ne_b32_b50 : b32 ≠ b50 := Nat.ne_of_lt (Nat.lt_of_lt_of_le f59.lt (Nat.le_of_eq q_b50.symm))
  have ne_b38_b50 : b38 ≠ b50 := Nat.ne_of_lt (Nat.lt_of_lt_of_le Q49_0.lt (Nat.le_of_eq q_b50.symm))
  have hC := hC.trans (CHr.ext E50 hC.1)
  have hk := Nat.le_trans hk E50.1
  have F50_counter : Fld Z h50 b50 "com/example/assemble_quorum/assemblequorum/model/ProposalNumber" "counter" "J" (.long (0 : Int64)) := D50 (Or.inr (own_w hw 114 rfl)) (ty := .long) (by decide)
  have F50_proposer : Fld Z h50 b50 "com/example/assemble_quorum/assemblequorum/model/ProposalNumber" "proposer" "Lcom/example/assemble_quorum/assemblequorum/model/MemberAddress;" .null := D50 (Or.inr (own_w hw 116 rfl)) (ty := (.object "com/example/assemble_quorum/assemblequorum/model/MemberAddress")) (by decide)
  have o60 : Old Z n0 h50 := (Old.ext (Old.keep o48 K49 (allS gz_b38 all0)) E50)
  obtain ⟨_, _, ⟨T61, L61, k61, n61⟩, -, X61, hSn61, hgn61, ⟨Lc61, hQ61, l61, y61, z61, C61⟩, st61⟩ := X50.specialBackS hx (y := own_y19) rfl hown (mvT hZ (own_w hw 107 rfl)) (mvT hZ (own_w hw 108 rfl)) (mvT hZ (own_w hw 109 rfl)) (by decide) (backOfSH (s := s) (vm0 := T49.vm) (W := 1) (rmA33 l Z a0 hw [] b50 (kb) b26  cs wf h50 n0 o60 G0 A50 F50_counter F50_proposer gz_b50 hpo_kb) hZ (own_w hw 109 rfl) (own_w hw 106 rfl) (by decide) (by decide) (own_EW hw) hC.1) (g := (mkF m 133 #[.val (.int p1), .val (.long q2), .second, .val (.long q3), .second, .val (.int p4), .val (.int p5), .val (.int p6), .val (.long ka), .second, .val (.long kb), .second, .val (.int pa), .val (.int pb), .val (.int ps), .val (.ref b10), .val (.ref b17), .val (.ref b26), .val (.ref b38), .unset, .unset, .unset, .unset, .unset, .unset] [(.ref b26), (.long kb), (.ref b50), (.ref b50)])) rfl (by rw [hml]; rfl) (Steps.refl _) (a := b50) (argsL := [(.long kb), (.ref b26)]) (rest := [(.ref b50)]) (lenOf own_pd15 rfl) rfl (by show 2 * 0 + _ ≤ _; exact Nat.le_of_eq rfl) (hb hby at_133) (fun _ _ => ⟨rfl, e50, (by decide : 19 + 2 ≤ _), (by decide : 130 + 36 ≤ _)⟩)
  dsimp only [Pt.U, Pt.locs, Pt.cells, Pt.slots] at X61 l61 y61 z61 st61 hQ61 hSn61 hgn61 C61
  subst l61 y61 z61
  have hS := foldS hS (by rw [e50]; exact hk) hSn61 hgn61
  have hk := Nat.le_refl T61.heap.size
  have hZ : Z.Warmed39 T61.vm := State.Warmed39.trans (t := s.setVm T49.vm) hZ hSn61.1
  have hown : T61.vm.findClass "com/example/assemble_quorum/assemblequorum/service/RoundFinalCandidatePinLaw" = some m.cls := by rw [hSn61.1.alike.findClass]; exact hown
  have hC := hC.trans C61
  obtain ⟨rfl, Nq61, K61, Q61_0, Q61_1, Q61_2⟩ := hQ61
  have N61 := Fr.app N49 Nq61
  have g62 : ∀ t, Steps p.tables e below (T61.setTop (mkF m 141 #[.val (.int p1), .val (.long q2), .second, .val (.long q3), .second, .val (.int p4), .val (.int p5), .val (.int p6), .val (.long ka), .second, .val (.long kb), .second, .val (.int pa), .val (.int pb), .val (.int ps), .val (.ref b10), .val (.ref b17), .val (.ref b26), .val (.ref b38), .val (.ref b50), .unset, .unset, .unset, .unset, .unset] [(.int (p1 &&& (1 : Int32)))])) t → Steps p.tables e below (s₁.setTop (entryFrame m #[(.int p1), (.long q2), (.long q3), (.int p4), (.int p5), (.int p6)] maxLocals)) t := by
    intro t k
    refine g9 t ?_
    show Steps p.tables e below (s₁.setTop (mkF m 71 #[.val (.int p1), .val (.long q2), .second, .val (.long q3), .second, .val (.int p4), .val (.int p5), .val (.int p6), .val (.long ka), .second, .val (.long kb), .second, .val (.int pa), .val (.int pb), .unset, .unset, .unset, .unset, .unset, .unset, .unset, .unset, .unset, .unset, .unset] [(.int ps)])) _
    refine XS.istore X0.here hx rfl (hb hby at_71) rfl (l' := #[.val (.int p1), .val (.long q2), .second, .val (.long q3), .second, .val (.int p4), .val (.int p5), .val (.int p6), .val (.long ka), .second, .val (.long kb), .second, .val (.int pa), .val (.int pb), .val (.int ps), .unset, .unset, .unset, .unset, .unset, .unset, .unset, .unset, .unset, .unset]) rfl ?_
    refine st10 _ ?_
    refine XS.dup X10.here hx rfl (hb hby at_76) rfl rfl ?_
    refine st11 _ ?_
    refine XS.iload X11.here hx rfl (hb hby at_79) rfl ?_
    refine st16.trans ?_
    show Steps p.tables e below (T16.setTop (mkF m 84 #[.val (.int p1), .val (.long q2), .second, .val (.long q3), .second, .val (.int p4), .val (.int p5), .val (.int p6), .val (.long ka), .second, .val (.long kb), .second, .val (.int pa), .val (.int pb), .val (.int ps), .unset, .unset, .unset, .unset, .unset, .unset, .unset, .unset, .unset, .unset] [(.ref b10)])) _
    refine XS.astore X16.here hx rfl (hb hby at_84) rfl rfl (l' := #[.val (.int p1), .val (.long q2), .second, .val (.long q3), .second, .val (.int p4), .val (.int p5), .val (.int p6), .val (.long ka), .second, .val (.long kb), .second, .val (.int pa), .val (.int pb), .val (.int ps), .val (.ref b10), .unset, .unset, .unset, .unset, .unset, .unset, .unset, .unset, .unset]) rfl ?_
    refine st17 _ ?_
    refine XS.dup X17.here hx rfl (hb hby at_89) rfl rfl ?_
    refine st20 _ ?_
    refine XS.iload X20.here hx rfl (hb hby at_92) rfl ?_
    refine st25.trans ?_
    show Steps p.tables e below (T25.setTop (mkF m 97 #[.val (.int p1), .val (.long q2), .second, .val (.long q3), .second, .val (.int p4), .val (.int p5), .val (.int p6), .val (.long ka), .second, .val (.long kb), .second, .val (.int pa), .val (.int pb), .val (.int ps), .val (.ref b10), .unset, .unset, .unset, .unset, .unset, .unset, .unset, .unset, .unset] [(.ref b17)])) _
    refine XS.astore X25.here hx rfl (hb hby at_97) rfl rfl (l' := #[.val (.int p1), .val (.long q2), .second, .val (.long q3), .second, .val (.int p4), .val (.int p5), .val (.int p6), .val (.long ka), .second, .val (.long kb), .second, .val (.int pa), .val (.int pb), .val (.int ps), .val (.ref b10), .val (.ref b17), .unset, .unset, .unset, .unset, .unset, .unset, .unset, .unset]) rfl ?_
    refine st26 _ ?_
    refine XS.dup X26.here hx rfl (hb hby at_102) rfl rfl ?_
    refine st32 _ ?_
    refine XS.iload X32.here hx rfl (hb hby at_105) rfl ?_
    refine st37.trans ?_
    show Steps p.tables e below (T37.setTop (mkF m 110 #[.val (.int p1), .val (.long q2), .second, .val (.long q3), .second, .val (.int p4), .val (.int p5), .val (.int p6), .val (.long ka), .second, .val (.long kb), .second, .val (.int pa), .val (.int pb), .val (.int ps), .val (.ref b10), .val (.ref b17), .unset, .unset, .unset, .unset, .unset, .unset, .unset, .unset] [(.ref b26)])) _
    refine XS.astore X37.here hx rfl (hb hby at_110) rfl rfl (l' := #[.val (.int p1), .val (.long q2), .second, .val (.long q3), .second, .val (.int p4), .val (.int p5), .val (.int p6), .val (.long ka), .second, .val (.long kb), .second, .val (.int pa), .val (.int pb), .val (.int ps), .val (.ref b10), .val (.ref b17), .val (.ref b26), .unset, .unset, .unset, .unset, .unset, .unset, .unset]) rfl ?_
    refine st38 _ ?_
    refine XS.dup X38.here hx rfl (hb hby at_115) rfl rfl ?_
    refine XS.lload X38.here hx rfl (hb hby at_116) rfl ?_
    refine XS.aload X38.here hx rfl (hb hby at_118) rfl rfl ?_
    refine st49.trans ?_
    show Steps p.tables e below (T49.setTop (mkF m 123 #[.val (.int p1), .val (.long q2), .second, .val (.long q3), .second, .val (.int p4), .val (.int p5), .val (.int p6), .val (.long ka), .second, .val (.long kb), .second, .val (.int pa), .val (.int pb), .val (.int ps), .val (.ref b10), .val (.ref b17), .val (.ref b26), .unset, .unset, .unset, .unset, .unset, .unset, .unset] [(.ref b38)])) _
    refine XS.astore X49.here hx rfl (hb hby at_123) rfl rfl (l' := #[.val (.int p1), .val (.long q2), .second, .val (.long q3), .second, .val (.int p4), .val (.int p5), .val (.int p6), .val (.long ka), .second, .val (.long kb), .second, .val (.int pa), .val (.int pb), .val (.int ps), .val (.ref b10), .val (.ref b17), .val (.ref b26), .val (.ref b38), .unset, .unset, .unset, .unset, .unset, .unset]) rfl ?_
    refine st50 _ ?_
    refine XS.dup X50.here hx rfl (hb hby at_128) rfl rfl ?_
    refine XS.lload X50.here hx rfl (hb hby at_129) rfl ?_
    refine XS.aload X50.here hx rfl (hb hby at_131) rfl rfl ?_
    refine st61.trans ?_
    show Steps p.tables e below (T61.setTop (mkF m 136 #[.val (.int p1), .val (.long q2), .second, .val (.long q3), .second, .val (.int p4), .val (.int p5), .val (.int p6), .val (.long ka), .second, .val (.long kb), .second, .val (.int pa), .val (.int pb), .val (.int ps), .val (.ref b10), .val (.ref b17), .val (.ref b26), .val (.ref b38), .unset, .unset, .unset, .unset, .unset, .unset] [(.ref b50)])) _
    refine XS.astore X61.here hx rfl (hb hby at_136) rfl rfl (l' := #[.val (.int p1), .val (.long q2), .second, .val (.long q3), .second, .val (.int p4), .val (.int p5), .val (.int p6), .val (.long ka), .second, .val (.long kb), .second, .val (.int pa), .val (.int pb), .val (.int ps), .val (.ref b10), .val (.ref b17), .val (.ref b26), .val (.ref b38), .val (.ref b50), .unset, .unset, .unset, .unset, .unset]) rfl ?_
    refine XS.iloadN X61.here hx rfl (hb hby at_138) rfl ?_
    refine XS.iconst X61.here hx rfl (hb hby at_139) ?_
    show Steps p.tables e below (T61.setTop (mkF m 140 #[.val (.int p1), .val (.long q2), .second, .val (.long q3), .second, .val (.int p4), .val (.int p5), .val (.int p6), .val (.long ka), .second, .val (.long kb), .second, .val (.int pa), .val (.int pb), .val (.int ps), .val (.ref b10), .val (.ref b17), .val (.ref b26), .val (.ref b38), .val (.ref b50), .unset, .unset, .unset, .unset, .unset] [(.int (1 : Int32)), (.int p1)])) _
    refine XS.iand X61.here hx rfl (hb hby at_140) rfl ?_
    exact k
  obtain ⟨u1, hv_u1⟩ : ∃ z : Int32, z = (if (p1 &&& (1 : Int32)) = (0 : Int32) then (0 : Int32) else (1 : Int32)) := ⟨_, rfl⟩
  have g64 : ∀ t, Steps p.tables e below (T61.setTop (mkF m 149 #[.val (.int p1), .val (.long q2), .second, .val (.long q3), .second, .val (.int p4), .val (.int p5), .val (.int p6), .val (.long ka), .second, .val (.long kb), .second, .val (.int pa), .val (.int pb), .val (.int ps), .val (.ref b10), .val (.ref b17), .val (.ref b26), .val (.ref b38), .val (.ref b50), .unset, .unset, .unset, .unset, .unset] [(.int u1)])) t → Steps p.tables e below (s₁.setTop (entryFrame m #[(.int p1), (.long q2), (.long q3), (.int p4), (.int p5), (.int p6)] maxLocals)) t := by
    intro t k
    by_cases hc63 : (p1 &&& (1 : Int32)) = (0 : Int32)
    · rw [if_pos hc63] at hv_u1; rw [hv_u1] at k
      refine g62 t ?_
      show Steps p.tables e below (T61.setTop (mkF m 141 #[.val (.int p1), .val (.long q2), .second, .val (.long q3), .second, .val (.int p4), .val (.int p5), .val (.int p6), .val (.long ka), .second, .val (.long kb), .second, .val (.int pa), .val (.int pb), .val (.int ps), .val (.ref b10), .val (.ref b17), .val (.ref b26), .val (.ref b38), .val (.ref b50), .unset, .unset, .unset, .unset, .unset] [(.int (p1 &&& (1 : Int32)))])) _
      refine XS.ifYes X61.here hx rfl (pc0 := 141) (pc' := 148) rfl (hb hby at_141) rfl ((if0 _ _).trans (teq hc63).1) (by decide) (by decide) ?_
      refine XS.iconst X61.here hx rfl (hb hby at_148) ?_
      exact k
    · rw [if_neg hc63] at hv_u1; rw [hv_u1] at k
      refine g62 t ?_
      show Steps p.tables e below (T61.setTop (mkF m 141 #[.val (.int p1), .val (.long q2), .second, .val (.long q3), .second, .val (.int p4), .val (.int p5), .val (.int p6), .val (.long ka), .second, .val (.long kb), .second, .val (.int pa), .val (.int pb), .val (.int ps), .val (.ref b10), .val (.ref b17), .val (.ref b26), .val (.ref b38), .val (.ref b50), .unset, .unset, .unset, .unset, .unset] [(.int (p1 &&& (1 : Int32)))])) _
      refine XS.ifNo X61.here hx rfl (hb hby at_141) rfl ((if0 _ _).trans (feq hc63).1) ?_
      refine XS.iconst X61.here hx rfl (hb hby at_144) ?_
      refine XS.goto X61.here hx rfl (pc0 := 145) (pc' := 149) rfl (hb hby at_145) (by decide) (by decide) ?_
      exact k
  have g65 : ∀ t, Steps p.tables e below (T61.setTop (mkF m 154 #[.val (.int p1), .val (.long q2), .second, .val (.long q3), .second, .val (.int p4), .val (.int p5), .val (.int p6), .val (.long ka), .second, .val (.long kb), .second, .val (.int pa), .val (.int pb), .val (.int ps), .val (.ref b10), .val (.ref b17), .val (.ref b26), .val (.ref b38), .val (.ref b50), .val (.int u1), .unset, .unset, .unset, .unset] [(.int (p1 &&& (2 : Int32)))])) t → Steps p.tables e below (s₁.setTop (entryFrame m #[(.int p1), (.long q2), (.long q3), (.int p4), (.int p5), (.int p6)] maxLocals)) t := by
    intro t k
    refine g64 t ?_
    show Steps p.tables e below (T61.setTop (mkF m 149 #[.val (.int p1), .val (.long q2), .second, .val (.long q3), .second, .val (.int p4), .val (.int p5), .val (.int p6), .val (.long ka), .second, .val (.long kb), .second, .val (.int pa), .val (.int pb), .val (.int ps), .val (.ref b10), .val (.ref b17), .val (.ref b26), .val (.ref b38), .val (.ref b50), .unset, .unset, .unset, .unset, .unset] [(.int u1)])) _
    refine XS.istore X61.here hx rfl (hb hby at_149) rfl (l' := #[.val (.int p1), .val (.long q2), .second, .val (.long q3), .second, .val (.int p4), .val (.int p5), .val (.int p6), .val (.long ka), .second, .val (.long kb), .second, .val (.int pa), .val (.int pb), .val (.int ps), .val (.ref b10), .val (.ref b17), .val (.ref b26), .val (.ref b38), .val (.ref b50), .val (.int u1), .unset, .unset, .unset, .unset]) rfl ?_
    refine XS.iloadN X61.here hx rfl (hb hby at_151) rfl ?_
    refine XS.iconst X61.here hx rfl (hb hby at_152) ?_
    show Steps p.tables e below (T61.setTop (mkF m 153 #[.val (.int p1), .val (.long q2), .second, .val (.long q3), .second, .val (.int p4), .val (.int p5), .val (.int p6), .val (.long ka), .second, .val (.long kb), .second, .val (.int pa), .val (.int pb), .val (.int ps), .val (.ref b10), .val (.ref b17), .val (.ref b26), .val (.ref b38), .val (.ref b50), .val (.int u1), .unset, .unset, .unset, .unset] [(.int (2 : Int32)), (.int p1)])) _
    refine XS.iand X61.here hx rfl (hb hby at_153) rfl ?_
    exact k
  obtain ⟨u2, hv_u2⟩ : ∃ z : Int32, z = (if (p1 &&& (2 : Int32)) = (0 : Int32) then (0 : Int32) else (1 : Int32)) := ⟨_, rfl⟩
  have g67 : ∀ t, Steps p.tables e below (T61.setTop (mkF m 162 #[.val (.int p1), .val (.long q2), .second, .val (.long q3), .second, .val (.int p4), .val (.int p5), .val (.int p6), .val (.long ka), .second, .val (.long kb), .second, .val (.int pa), .val (.int pb), .val (.int ps), .val (.ref b10), .val (.ref b17), .val (.ref b26), .val (.ref b38), .val (.ref b50), .val (.int u1), .unset, .unset, .unset, .unset] [(.int u2)])) t → Steps p.tables e below (s₁.setTop (entryFrame m #[(.int p1), (.long q2), (.long q3), (.int p4), (.int p5), (.int p6)] maxLocals)) t := by
    intro t k
    by_cases hc66 : (p1 &&& (2 : Int32)) = (0 : Int32)
    · rw [if_pos hc66] at hv_u2; rw [hv_u2] at k
      refine g65 t ?_
      show Steps p.tables e below (T61.setTop (mkF m 154 #[.val (.int p1), .val (.long q2), .second, .val (.long q3), .second, .val (.int p4), .val (.int p5), .val (.int p6), .val (.long ka), .second, .val (.long kb), .second, .val (.int pa), .val (.int pb), .val (.int ps), .val (.ref b10), .val (.ref b17), .val (.ref b26), .val (.ref b38), .val (.ref b50), .val (.int u1), .unset, .unset, .unset, .unset] [(.int (p1 &&& (2 : Int32)))])) _
      refine XS.ifYes X61.here hx rfl (pc0 := 154) (pc' := 161) rfl (hb hby at_154) rfl ((if0 _ _).trans (teq hc66).1) (by decide) (by decide) ?_
      refine XS.iconst X61.here hx rfl (hb hby at_161) ?_
      exact k
    · rw [if_neg hc66] at hv_u2; rw [hv_u2] at k
      refine g65 t ?_
      show Steps p.tables e below (T61.setTop (mkF m 154 #[.val (.int p1), .val (.long q2), .second, .val (.long q3), .second, .val (.int p4), .val (.int p5), .val (.int p6), .val (.long ka), .second, .val (.long kb), .second, .val (.int pa), .val (.int pb), .val (.int ps), .val (.ref b10), .val (.ref b17), .val (.ref b26), .val (.ref b38), .val (.ref b50), .val (.int u1), .unset, .unset, .unset, .unset] [(.int (p1 &&& (2 : Int32)))])) _
      refine XS.ifNo X61.here hx rfl (hb hby at_154) rfl ((if0 _ _).trans (feq hc66).1) ?_
      refine XS.iconst X61.here hx rfl (hb hby at_157) ?_
      refine XS.goto X61.here hx rfl (pc0 := 158) (pc' := 162) rfl (hb hby at_158) (by decide) (by decide) ?_
      exact k
  obtain ⟨T68, h68, X68, e68, E68, A68, D68, -, st68⟩ := newO X61 hx hZ hown (own_w hw 117 rfl) (own_w hw 118 rfl) (own_w hw 119 rfl) rfl (g := (mkF m 164 #[.val (.int p1), .val (.long q2), .second, .val (.long q3), .second, .val (.int p4), .val (.int p5), .val (.int p6), .val (.long ka), .second, .val (.long kb), .second, .val (.int pa), .val (.int pb), .val (.int ps), .val (.ref b10), .val (.ref b17), .val (.ref b26), .val (.ref b38), .val (.ref b50), .val (.int u1), .val (.int u2), .unset, .unset, .unset] [])) rfl (hb hby at_164) (by decide) (by decide)
  obtain ⟨b68, q_b68⟩ : ∃ z, z = T61.heap.size := ⟨_, rfl⟩
  rw [← q_b68] at A68 D68 st68
  have sz_b68 : h0.size ≤ b68 := Nat.le_trans (Nat.le_trans (Nat.le_trans (Nat.le_trans (Nat.le_trans (Nat.le_trans (Nat.le_trans (Nat.le_trans (Nat.le_trans (Nat.le_trans (Nat.le_trans (Nat.le_trans (Nat.le_trans E10.1 E11.1) K16.1) E17.1) E20.1) K25.1) E26.1) E32.1) K37.1) E38.1) K49.1) E50.1) K61.1) (Nat.le_of_eq q_b68.symm)
  have gz_b68 : n0 ≤ b68 := Nat.le_trans Z0 sz_b68
  have f69 := ((f51.ext E50).keep K61)
  have ne_a11_b68 : a11 ≠ b68 := Nat.ne_of_lt (Nat.lt_of_lt_of_le f69.lt (Nat.le_of_eq q_b68.symm))
  have f70 := ((f52.ext E50).keep K61)
  have ne_a20_b68 : a20 ≠ b68 := Nat.ne_of_lt (Nat.lt_of_lt_of_le f70.lt (Nat.le_of_eq q_b68.symm))
  have f71 := ((f53.ext E50).keep K61)
  have ne_a32_b68 : a32 ≠ b68 := Nat.ne_of_lt (Nat.lt_of_lt_of_le f71.lt (Nat.le_of_eq q_b68.symm))
  have f72 := ((f54.ext E50).keep K61)
  have ne_b10_b68 : b10 ≠ b68 := Nat.ne_of_lt (Nat.lt_of_lt_of_le f72.lt (Nat.le_of_eq q_b68.symm))
  have f73 := ((f55.ext E50).keep K61 (ninS ne_b11_b50 nin0))
  have ne_b11_b68 : b11 ≠ b68 := Nat.ne_of_lt (Nat.lt_of_lt_of_le f73.lt (Nat.le_of_eq q_b68.symm))
  have f74 := ((f56.ext E50).keep K61)
  have ne_b17_b68 : b17 ≠ b68 := Nat.ne_of_lt (Nat.lt_of_lt_of_le f74.lt (Nat.le_of_eq q_b68.symm))
  have f75 := ((f57.ext E50).keep K61 (ninS ne_b20_b50 nin0))
  have ne_b20_b68 : b20 ≠ b68 := Nat.ne_of_lt (Nat.lt_of_lt_of_le f75.lt (Nat.le_of_eq q_b68.symm))
  have f76 := ((f58.ext E50).keep K61)
  have ne_b26_b68 : b26 ≠ b68 := Nat.ne_of_lt (Nat.lt_of_lt_of_le f76.lt (Nat.le_of_eq q_b68.symm))
  have f77 := ((f59.ext E50).keep K61 (ninS ne_b32_b50 nin0))
  have ne_b32_b68 : b32 ≠ b68 := Nat.ne_of_lt (Nat.lt_of_lt_of_le f77.lt (Nat.le_of_eq q_b68.symm))
  have f78 := ((Q49_0.ext E50).keep K61)
  have ne_b38_b68 : b38 ≠ b68 := Nat.ne_of_lt (Nat.lt_of_lt_of_le f78.lt (Nat.le_of_eq q_b68.symm))
  have ne_b50_b68 : b50 ≠ b68 := Nat.ne_of_lt (Nat.lt_of_lt_of_le Q61_0.lt (Nat.le_of_eq q_b68.symm))
  have hC := hC.trans (CHr.ext E68 hC.1)
  have hk := Nat.le_trans hk E68.1
  have F68_awaited : Fld Z h68 b68 "com/example/assemble_quorum/assemblequorum/service/Round" "awaited" "Ljava/util/Set;" .null := D68 (Or.inr (own_w hw 163 rfl)) (ty := (.object "java/util/Set")) (by decide)
  have F68_votes : Fld Z h68 b68 "com/example/assemble_quorum/assemblequorum/service/Round" "votes" "Ljava/util/Set;" .null := D68 (Or.inr (own_w hw 165 rfl)) (ty := (.object "java/util/Set")) (by decide)
  have F68_priorCandidate : Fld Z h68 b68 "com/example/assemble_quorum/assemblequorum/service/Round" "priorCandidate" "Lcom/example/assemble_quorum/assemblequorum/model/MemberAddress;" .null := D68 (Or.inl (own_w hw 177 rfl)) (ty := (.object "com/example/assemble_quorum/assemblequorum/model/MemberAddress")) (by decide)
  have F68_priorNumber : Fld Z h68 b68 "com/example/assemble_quorum/assemblequorum/service/Round" "priorNumber" "Lcom/example/assemble_quorum/assemblequorum/model/ProposalNumber;" .null := D68 (Or.inl (own_w hw 179 rfl)) (ty := (.object "com/example/assemble_quorum/assemblequorum/model/ProposalNumber")) (by decide)
  have o79 : Old Z n0 h68 := (Old.ext (Old.keep o60 K61 (allS gz_b50 all0)) E68)
  obtain ⟨_, _, ⟨T80, L80, k80, n80⟩, -, X80, ⟨Lc80, hQ80, l80, y80, z80⟩, st80⟩ := X68.specialBack hx (y := own_y20) rfl hown (mvT hZ (own_w hw 120 rfl)) (mvT hZ (own_w hw 121 rfl)) (mvT hZ (own_w hw 122 rfl)) (by decide) (backOf (W := 1) (rmA34 l Z a0 hw [] b68  cs wf h68 n0 o79 G0 A68 F68_awaited F68_priorCandidate F68_priorNumber F68_votes gz_b68 ) hZ (own_w hw 122 rfl) (own_w hw 119 rfl) (by decide) (by decide)) (g := (mkF m 168 #[.val (.int p1), .val (.long q2), .second, .val (.long q3), .second, .val (.int p4), .val (.int p5), .val (.int p6), .val (.long ka), .second, .val (.long kb), .second, .val (.int pa), .val (.int pb), .val (.int ps), .val (.ref b10), .val (.ref b17), .val (.ref b26), .val (.ref b38), .val (.ref b50), .val (.int u1), .val (.int u2), .unset, .unset, .unset] [(.ref b68), (.ref b68)])) rfl (by rw [hml]; rfl) (Steps.refl _) (a := b68) (argsL := []) (rest := [(.ref b68)]) (lenOf own_pd16 rfl) rfl (by show 2 * 0 + _ ≤ _; exact Nat.le_of_eq rfl) (hb hby at_168) (fun _ _ => ⟨rfl, e68, (by decide : 22 + 4 ≤ _), (by decide : 176 + 18 ≤ _)⟩)
  dsimp only [Pt.U, Pt.locs, Pt.cells, Pt.slots] at X80 l80 y80 z80 st80 hQ80
  subst l80 y80 z80
  obtain ⟨rfl, Nq80, K80, Q80_0, Q80_1, Q80_2⟩ := hQ80
  have hC := hC.trans (CHr.keep K80 (sfS (Safe.exa hZ.alike A68 (by decide) (by decide)) sf0) hC.1)
  have hk := Nat.le_trans hk K80.1
  have N80 := Fr.app N61 Nq80
  have g82 : ∀ t, Steps p.tables e below (T80.setTop (mkF m 173 #[.val (.int p1), .val (.long q2), .second, .val (.long q3), .second, .val (.int p4), .val (.int p5), .val (.int p6), .val (.long ka), .second, .val (.long kb), .second, .val (.int pa), .val (.int pb), .val (.int ps), .val (.ref b10), .val (.ref b17), .val (.ref b26), .val (.ref b38), .val (.ref b50), .val (.int u1), .val (.int u2), .val (.ref b68), .unset, .unset] [])) t → Steps p.tables e below (s₁.setTop (entryFrame m #[(.int p1), (.long q2), (.long q3), (.int p4), (.int p5), (.int p6)] maxLocals)) t := by
    intro t k
    refine g67 t ?_
    show Steps p.tables e below (T61.setTop (mkF m 162 #[.val (.int p1), .val (.long q2), .second, .val (.long q3), .second, .val (.int p4), .val (.int p5), .val (.int p6), .val (.long ka), .second, .val (.long kb), .second, .val (.int pa), .val (.int pb), .val (.int ps), .val (.ref b10), .val (.ref b17), .val (.ref b26), .val (.ref b38), .val (.ref b50), .val (.int u1), .unset, .unset, .unset, .unset] [(.int u2)])) _
    refine XS.istore X61.here hx rfl (hb hby at_162) rfl (l' := #[.val (.int p1), .val (.long q2), .second, .val (.long q3), .second, .val (.int p4), .val (.int p5), .val (.int p6), .val (.long ka), .second, .val (.long kb), .second, .val (.int pa), .val (.int pb), .val (.int ps), .val (.ref b10), .val (.ref b17), .val (.ref b26), .val (.ref b38), .val (.ref b50), .val (.int u1), .val (.int u2), .unset, .unset, .unset]) rfl ?_
    refine st68 _ ?_
    refine XS.dup X68.here hx rfl (hb hby at_167) rfl rfl ?_
    refine st80.trans ?_
    refine XS.astore X80.here hx rfl (hb hby at_171) rfl rfl (l' := #[.val (.int p1), .val (.long q2), .second, .val (.long q3), .second, .val (.int p4), .val (.int p5), .val (.int p6), .val (.long ka), .second, .val (.long kb), .second, .val (.int pa), .val (.int pb), .val (.int ps), .val (.ref b10), .val (.ref b17), .val (.ref b26), .val (.ref b38), .val (.ref b50), .val (.int u1), .val (.int u2), .val (.ref b68), .unset, .unset]) rfl ?_
    exact k
  by_cases hc81 : u1 = (0 : Int32)
  · by_cases hc83 : u2 = (0 : Int32)
    · have f84 := ((f74.ext E68).keep K80)
      have f85 := ((f70.ext E68).keep K80)
      have f86 := ((((((((((Fc20.keep K25 (ninS (Exa.ne Ex20 f21 (by decide)) nin0)).ext E26).ext E32).keep K37 (ninS ne_a20_b26 nin0)).ext E38).keep K49 (ninS ne_a20_b38 nin0)).ext E50).keep K61 (ninS ne_a20_b50 nin0)).ext E68).keep K80 (ninS ne_a20_b68 nin0))
      have f87 := ((f75.ext E68).keep K80 (ninS ne_b20_b68 nin0))
      have f88 := ((((((((((Fv20.keep K25 (ninS (Exa.ne Ex20 f21 (by decide)) nin0)).ext E26).ext E32).keep K37 (ninS ne_a20_b26 nin0)).ext E38).keep K49 (ninS ne_a20_b38 nin0)).ext E50).keep K61 (ninS ne_a20_b50 nin0)).ext E68).keep K80 (ninS ne_a20_b68 nin0))
      have f89 := (((((((((Q25_1.ext E26).ext E32).keep K37 (ninS ne_b17_b26 nin0)).ext E38).keep K49 (ninS ne_b17_b38 nin0)).ext E50).keep K61 (ninS ne_b17_b50 nin0)).ext E68).keep K80 (ninS ne_b17_b68 nin0))
      have f90 := (((((((((Q25_2.ext E26).ext E32).keep K37 (ninS ne_b17_b26 nin0)).ext E38).keep K49 (ninS ne_b17_b38 nin0)).ext E50).keep K61 (ninS ne_b17_b50 nin0)).ext E68).keep K80 (ninS ne_b17_b68 nin0))
      have o91 : Old Z n0 T80.heap := (Old.keep o79 K80 (allS gz_b68 all0))
      obtain ⟨cq92, kq92, q92a, q92b, q92c⟩ := isOf hZ rfl Q80_0
      obtain ⟨_, _, ⟨T92, L92, k92, n92⟩, -, X92, ⟨Lc92, hQ92, l92, y92, z92⟩, st92⟩ := X80.virtualBack hx (y := own_y26) (z := own_y26) hown (mvT hZ (own_w hw 166 rfl)) (mvT hZ (own_w hw 167 rfl)) (notFace_of_selects (args := #[]) (mvT hZ (own_w hw 169 rfl))) (mvT hZ (own_w hw 169 rfl)) (mvT hZ (own_w hw 168 rfl)) (by decide) (backOf (W := 0) (rmA40 l Z a0 hw [] b68 b17 a20 b20 ka20 (pa)  cs wf T80.heap n0 o91 G0 Q80_0 Q80_2 Q80_1 f84 f85 f86 f87 f88 f89 f90  ) hZ (own_w hw 170 rfl) (own_w hw 119 rfl) (by decide) (by decide)) q92a q92c (g := (mkF m 188 #[.val (.int p1), .val (.long q2), .second, .val (.long q3), .second, .val (.int p4), .val (.int p5), .val (.int p6), .val (.long ka), .second, .val (.long kb), .second, .val (.int pa), .val (.int pb), .val (.int ps), .val (.ref b10), .val (.ref b17), .val (.ref b26), .val (.ref b38), .val (.ref b50), .val (.int u1), .val (.int u2), .val (.ref b68), .unset, .unset] [(.ref b17), .null, (.ref b68)])) rfl (by rw [hml]; rfl) (Steps.refl _) (argsL := [.null, (.ref b17)]) (rest := []) (lenOf own_pd17 rfl) rfl (by show 2 * 0 + _ ≤ _; exact Nat.le_of_eq rfl) (hb hby at_188) (fun _ _ => ⟨rfl, rfl, (by decide : 26 + 0 ≤ _), (by decide : 194 + 0 ≤ _)⟩)
      dsimp only [Pt.U, Pt.locs, Pt.cells, Pt.slots] at X92 l92 y92 z92 st92 hQ92
      subst l92 y92 z92
      obtain ⟨rfl, Nq92, e92⟩ := hQ92
      have N92 := Fr.app N80 Nq92
      obtain ⟨LL93, XL93, NL93⟩ : ∃ LL : List Loc, Stand p l e room_1 (s.setVm T61.vm) m #[(.int p1), (.long q2), (.long q3), (.int p4), (.int p5), (.int p6)] below meth c T92 LL 26 194 ∧ Fr n0 LL := ⟨_, X92, N92⟩
      have f94 := ((f76.ext E68).keep K80)
      have f95 := ((f71.ext E68).keep K80)
      have f96 := (((((((Fc32.keep K37 (ninS (Exa.ne Ex32 f33 (by decide)) nin0)).ext E38).keep K49 (ninS ne_a32_b38 nin0)).ext E50).keep K61 (ninS ne_a32_b50 nin0)).ext E68).keep K80 (ninS ne_a32_b68 nin0))
      have f97 := ((f77.ext E68).keep K80 (ninS ne_b32_b68 nin0))
      have f98 := (((((((Fv32.keep K37 (ninS (Exa.ne Ex32 f33 (by decide)) nin0)).ext E38).keep K49 (ninS ne_a32_b38 nin0)).ext E50).keep K61 (ninS ne_a32_b50 nin0)).ext E68).keep K80 (ninS ne_a32_b68 nin0))
      have f99 := ((((((Q37_1.ext E38).keep K49 (ninS ne_b26_b38 nin0)).ext E50).keep K61 (ninS ne_b26_b50 nin0)).ext E68).keep K80 (ninS ne_b26_b68 nin0))
      have f100 := ((((((Q37_2.ext E38).keep K49 (ninS ne_b26_b38 nin0)).ext E50).keep K61 (ninS ne_b26_b50 nin0)).ext E68).keep K80 (ninS ne_b26_b68 nin0))
      obtain ⟨cq101, kq101, q101a, q101b, q101c⟩ := isOf hZ e92 Q80_0
      obtain ⟨_, _, ⟨T101, L101, k101, n101⟩, -, X101, ⟨Lc101, hQ101, l101, y101, z101⟩, st101⟩ := XL93.virtualBack hx (y := own_y26) (z := own_y26) hown (mvT hZ (own_w hw 166 rfl)) (mvT hZ (own_w hw 167 rfl)) (notFace_of_selects (args := #[]) (mvT hZ (own_w hw 169 rfl))) (mvT hZ (own_w hw 169 rfl)) (mvT hZ (own_w hw 168 rfl)) (by decide) (backOf (W := 0) (rmA40 l Z a0 hw [] b68 b26 a32 b32 ka32 (pb)  cs wf T80.heap n0 o91 G0 Q80_0 Q80_2 Q80_1 f94 f95 f96 f97 f98 f99 f100  ) hZ (own_w hw 170 rfl) (own_w hw 119 rfl) (by decide) (by decide)) q101a q101c (g := (mkF m 206 #[.val (.int p1), .val (.long q2), .second, .val (.long q3), .second, .val (.int p4), .val (.int p5), .val (.int p6), .val (.long ka), .second, .val (.long kb), .second, .val (.int pa), .val (.int pb), .val (.int ps), .val (.ref b10), .val (.ref b17), .val (.ref b26), .val (.ref b38), .val (.ref b50), .val (.int u1), .val (.int u2), .val (.ref b68), .unset, .unset] [(.ref b26), .null, (.ref b68)])) rfl (by rw [hml]; rfl) (Steps.refl _) (argsL := [.null, (.ref b26)]) (rest := []) (lenOf own_pd17 rfl) rfl (by show 2 * 0 + _ ≤ _; exact Nat.le_of_eq rfl) (hb hby at_206) (fun _ _ => ⟨rfl, e92, (by decide : 26 + 0 ≤ _), (by decide : 194 + 0 ≤ _)⟩)
      dsimp only [Pt.U, Pt.locs, Pt.cells, Pt.slots] at X101 l101 y101 z101 st101 hQ101
      subst l101 y101 z101
      obtain ⟨rfl, Nq101, e101⟩ := hQ101
      have N101 := Fr.app NL93 Nq101
      have g103 : ∀ t, Steps p.tables e below (T101.setTop (mkF m 214 #[.val (.int p1), .val (.long q2), .second, .val (.long q3), .second, .val (.int p4), .val (.int p5), .val (.int p6), .val (.long ka), .second, .val (.long kb), .second, .val (.int pa), .val (.int pb), .val (.int ps), .val (.ref b10), .val (.ref b17), .val (.ref b26), .val (.ref b38), .val (.ref b50), .val (.int u1), .val (.int u2), .val (.ref b68), .unset, .unset] [(.int (lcmpW kb ka))])) t → Steps p.tables e below (s₁.setTop (entryFrame m #[(.int p1), (.long q2), (.long q3), (.int p4), (.int p5), (.int p6)] maxLocals)) t := by
        intro t k
        refine g82 t ?_
        show Steps p.tables e below (T80.setTop (mkF m 173 #[.val (.int p1), .val (.long q2), .second, .val (.long q3), .second, .val (.int p4), .val (.int p5), .val (.int p6), .val (.long ka), .second, .val (.long kb), .second, .val (.int pa), .val (.int pb), .val (.int ps), .val (.ref b10), .val (.ref b17), .val (.ref b26), .val (.ref b38), .val (.ref b50), .val (.int u1), .val (.int u2), .val (.ref b68), .unset, .unset] [])) _
        refine XS.aload X80.here hx rfl (hb hby at_173) rfl rfl ?_
        refine XS.iload X80.here hx rfl (hb hby at_175) rfl ?_
        refine XS.ifYes X80.here hx rfl (pc0 := 177) (pc' := 185) rfl (hb hby at_177) rfl ((if0 _ _).trans (teq hc81).1) (by decide) (by decide) ?_
        refine XS.aconstNull X80.here hx rfl (hb hby at_185) ?_
        refine XS.aload X80.here hx rfl (hb hby at_186) rfl rfl ?_
        refine st92.trans ?_
        show Steps p.tables e below (T92.setTop (mkF m 191 #[.val (.int p1), .val (.long q2), .second, .val (.long q3), .second, .val (.int p4), .val (.int p5), .val (.int p6), .val (.long ka), .second, .val (.long kb), .second, .val (.int pa), .val (.int pb), .val (.int ps), .val (.ref b10), .val (.ref b17), .val (.ref b26), .val (.ref b38), .val (.ref b50), .val (.int u1), .val (.int u2), .val (.ref b68), .unset, .unset] [])) _
        refine XS.aload X92.here hx rfl (hb hby at_191) rfl rfl ?_
        refine XS.iload X92.here hx rfl (hb hby at_193) rfl ?_
        refine XS.ifYes X92.here hx rfl (pc0 := 195) (pc' := 203) rfl (hb hby at_195) rfl ((if0 _ _).trans (teq hc83).1) (by decide) (by decide) ?_
        refine XS.aconstNull X92.here hx rfl (hb hby at_203) ?_
        refine XS.aload X92.here hx rfl (hb hby at_204) rfl rfl ?_
        refine st101.trans ?_
        show Steps p.tables e below (T101.setTop (mkF m 209 #[.val (.int p1), .val (.long q2), .second, .val (.long q3), .second, .val (.int p4), .val (.int p5), .val (.int p6), .val (.long ka), .second, .val (.long kb), .second, .val (.int pa), .val (.int pb), .val (.int ps), .val (.ref b10), .val (.ref b17), .val (.ref b26), .val (.ref b38), .val (.ref b50), .val (.int u1), .val (.int u2), .val (.ref b68), .unset, .unset] [])) _
        refine XS.lload X101.here hx rfl (hb hby at_209) rfl ?_
        refine XS.lload X101.here hx rfl (hb hby at_211) rfl ?_
        refine XS.lcmp X101.here hx rfl (hb hby at_213) rfl ?_
        exact k
      by_cases hc102 : ka < kb
      · obtain ⟨cq104, kq104, q104a, q104b, q104c⟩ := isOf hZ e101 Q80_0
        obtain ⟨_, _, ⟨T104, L104, k104, n104⟩, -, X104, ⟨Lc104, hQ104, l104, y104, z104⟩, st104⟩ := X101.virtualBack hx (y := own_y27) (z := own_y27) hown (mvT hZ (own_w hw 171 rfl)) (mvT hZ (own_w hw 172 rfl)) (notFace_of_selects (args := #[]) (mvT hZ (own_w hw 174 rfl))) (mvT hZ (own_w hw 174 rfl)) (mvT hZ (own_w hw 173 rfl)) (by decide) (backOf (W := 0) (rmA41 l Z a0 hw [] b68 b10  cs wf T80.heap n0 o91 G0 Q80_0 Q80_2 Q80_1  ) hZ (own_w hw 175 rfl) (own_w hw 119 rfl) (by decide) (by decide)) q104a q104c (g := (mkF m 281 #[.val (.int p1), .val (.long q2), .second, .val (.long q3), .second, .val (.int p4), .val (.int p5), .val (.int p6), .val (.long ka), .second, .val (.long kb), .second, .val (.int pa), .val (.int pb), .val (.int ps), .val (.ref b10), .val (.ref b17), .val (.ref b26), .val (.ref b38), .val (.ref b50), .val (.int u1), .val (.int u2), .val (.ref b68), .val (.int (1 : Int32)), .val (.ref b10)] [(.ref b10), (.ref b68)])) rfl (by rw [hml]; rfl) (Steps.refl _) (argsL := [(.ref b10)]) (rest := []) (lenOf own_pd18 rfl) rfl (by show 2 * 0 + _ ≤ _; exact Nat.le_of_eq rfl) (hb hby at_281) (fun _ _ => ⟨rfl, e101, (by decide : 26 + 0 ≤ _), (by decide : 194 + 0 ≤ _)⟩)
        dsimp only [Pt.U, Pt.locs, Pt.cells, Pt.slots] at X104 l104 y104 z104 st104 hQ104
        subst l104 y104 z104
        obtain ⟨rfl, Nq104, e104⟩ := hQ104
        have N104 := Fr.app N101 Nq104
        have g105 : ∀ t, Steps p.tables e below (T104.setTop (mkF m 294 #[.val (.int p1), .val (.long q2), .second, .val (.long q3), .second, .val (.int p4), .val (.int p5), .val (.int p6), .val (.long ka), .second, .val (.long kb), .second, .val (.int pa), .val (.int pb), .val (.int ps), .val (.ref b10), .val (.ref b17), .val (.ref b26), .val (.ref b38), .val (.ref b50), .val (.int u1), .val (.int u2), .val (.ref b68), .val (.int (1 : Int32)), .val (.ref b10)] [(.int (1 : Int32))])) t → Steps p.tables e below (s₁.setTop (entryFrame m #[(.int p1), (.long q2), (.long q3), (.int p4), (.int p5), (.int p6)] maxLocals)) t := by
          intro t k
          refine g103 t ?_
          show Steps p.tables e below (T101.setTop (mkF m 214 #[.val (.int p1), .val (.long q2), .second, .val (.long q3), .second, .val (.int p4), .val (.int p5), .val (.int p6), .val (.long ka), .second, .val (.long kb), .second, .val (.int pa), .val (.int pb), .val (.int ps), .val (.ref b10), .val (.ref b17), .val (.ref b26), .val (.ref b38), .val (.ref b50), .val (.int u1), .val (.int u2), .val (.ref b68), .unset, .unset] [(.int (lcmpW kb ka))])) _
          refine XS.ifYes X101.here hx rfl (pc0 := 214) (pc' := 232) rfl (hb hby at_214) rfl ((if0 _ _).trans (tlt ((lw_gt _ _).mpr hc102)).2.2.1) (by decide) (by decide) ?_
          refine XS.iconst X101.here hx rfl (hb hby at_232) ?_
          refine XS.goto X101.here hx rfl (pc0 := 233) (pc' := 237) rfl (hb hby at_233) (by decide) (by decide) ?_
          refine XS.istore X101.here hx rfl (hb hby at_237) rfl (l' := #[.val (.int p1), .val (.long q2), .second, .val (.long q3), .second, .val (.int p4), .val (.int p5), .val (.int p6), .val (.long ka), .second, .val (.long kb), .second, .val (.int pa), .val (.int pb), .val (.int ps), .val (.ref b10), .val (.ref b17), .val (.ref b26), .val (.ref b38), .val (.ref b50), .val (.int u1), .val (.int u2), .val (.ref b68), .val (.int (1 : Int32)), .unset]) rfl ?_
          refine XS.iload X101.here hx rfl (hb hby at_239) rfl ?_
          refine XS.ifYes X101.here hx rfl (pc0 := 241) (pc' := 261) rfl (hb hby at_241) rfl ((if0 _ _).trans (teq hc83).1) (by decide) (by decide) ?_
          show Steps p.tables e below (T101.setTop (mkF m 261 #[.val (.int p1), .val (.long q2), .second, .val (.long q3), .second, .val (.int p4), .val (.int p5), .val (.int p6), .val (.long ka), .second, .val (.long kb), .second, .val (.int pa), .val (.int pb), .val (.int ps), .val (.ref b10), .val (.ref b17), .val (.ref b26), .val (.ref b38), .val (.ref b50), .val (.int u1), .val (.int u2), .val (.ref b68), .val (.int (1 : Int32)), .unset] [])) _
          refine XS.iload X101.here hx rfl (hb hby at_261) rfl ?_
          refine XS.ifYes X101.here hx rfl (pc0 := 263) (pc' := 273) rfl (hb hby at_263) rfl ((if0 _ _).trans (teq hc81).1) (by decide) (by decide) ?_
          refine XS.aload X101.here hx rfl (hb hby at_273) rfl rfl ?_
          refine XS.astore X101.here hx rfl (hb hby at_275) rfl rfl (l' := #[.val (.int p1), .val (.long q2), .second, .val (.long q3), .second, .val (.int p4), .val (.int p5), .val (.int p6), .val (.long ka), .second, .val (.long kb), .second, .val (.int pa), .val (.int pb), .val (.int ps), .val (.ref b10), .val (.ref b17), .val (.ref b26), .val (.ref b38), .val (.ref b50), .val (.int u1), .val (.int u2), .val (.ref b68), .val (.int (1 : Int32)), .val (.ref b10)]) rfl ?_
          refine XS.aload X101.here hx rfl (hb hby at_277) rfl rfl ?_
          refine XS.aload X101.here hx rfl (hb hby at_279) rfl rfl ?_
          show Steps p.tables e below (T101.setTop (mkF m 281 #[.val (.int p1), .val (.long q2), .second, .val (.long q3), .second, .val (.int p4), .val (.int p5), .val (.int p6), .val (.long ka), .second, .val (.long kb), .second, .val (.int pa), .val (.int pb), .val (.int ps), .val (.ref b10), .val (.ref b17), .val (.ref b26), .val (.ref b38), .val (.ref b50), .val (.int u1), .val (.int u2), .val (.ref b68), .val (.int (1 : Int32)), .val (.ref b10)] [(.ref b10), (.ref b68)])) _
          refine st104.trans ?_
          refine XS.aload X104.here hx rfl (hb hby at_284) rfl rfl ?_
          refine Jvm.RoadKit.acmp (g := (mkF m 286 #[.val (.int p1), .val (.long q2), .second, .val (.long q3), .second, .val (.int p4), .val (.int p5), .val (.int p6), .val (.long ka), .second, .val (.long kb), .second, .val (.int pa), .val (.int pb), .val (.int ps), .val (.ref b10), .val (.ref b17), .val (.ref b26), .val (.ref b38), .val (.ref b50), .val (.int u1), .val (.int u2), .val (.ref b68), .val (.int (1 : Int32)), .val (.ref b10)] [(.ref b10), (.ref b10)])) X104 hx rfl rfl rfl (pc0 := 286) (pc' := 289) (same := true) rfl (hb hby at_286) rfl (decide_eq_true rfl) (by decide) (by decide) ?_
          refine XS.iconst X104.here hx rfl (hb hby at_289) ?_
          refine XS.goto X104.here hx rfl (pc0 := 290) (pc' := 294) rfl (hb hby at_290) (by decide) (by decide) ?_
          exact k
        obtain ⟨fs, hrt, hrun, hended, hRW⟩ := X104.leaveW hS (by rw [e104]; exact hk) (v := some (.int (1 : Int32))) (fun h => by rw [Bd.returns] at h; cases h)
        refine ⟨_, _, g105 _ ?_, hrun, hended, _, _, rfl, ?_, ?_, hRW.1, hRW.2.1, hRW.2.2.1, hRW.2.2.2.mono (by decide) (by decide)⟩
        · show Steps p.tables e below (T104.setTop (mkF m 294 #[.val (.int p1), .val (.long q2), .second, .val (.long q3), .second, .val (.int p4), .val (.int p5), .val (.int p6), .val (.long ka), .second, .val (.long kb), .second, .val (.int pa), .val (.int pb), .val (.int ps), .val (.ref b10), .val (.ref b17), .val (.ref b26), .val (.ref b38), .val (.ref b50), .val (.int u1), .val (.int u2), .val (.ref b68), .val (.int (1 : Int32)), .val (.ref b10)] [(.int (1 : Int32))])) _
          exact retN X104 hx (t := .boolean) Bd.returns (by simp) (hb hby at_294) hrt
        · show own_Q_rm0 Z p1 q2 q3 p4 p5 p6 cs wf h0 n0 _ T104.heap _
          rw [e104]
          exact ⟨rfl, N104⟩
        · rw [hh]
          show CHr Z own_EL s.vm h0 T104.vm T104.heap
          rw [e104]
          exact hC.trans (CHv.at X104 hZ (own_EW hw) hC.1)
      · have g107 : ∀ t, Steps p.tables e below (T101.setTop (mkF m 222 #[.val (.int p1), .val (.long q2), .second, .val (.long q3), .second, .val (.int p4), .val (.int p5), .val (.int p6), .val (.long ka), .second, .val (.long kb), .second, .val (.int pa), .val (.int pb), .val (.int ps), .val (.ref b10), .val (.ref b17), .val (.ref b26), .val (.ref b38), .val (.ref b50), .val (.int u1), .val (.int u2), .val (.ref b68), .unset, .unset] [(.int (lcmpW kb ka))])) t → Steps p.tables e below (s₁.setTop (entryFrame m #[(.int p1), (.long q2), (.long q3), (.int p4), (.int p5), (.int p6)] maxLocals)) t := by
          intro t k
          refine g103 t ?_
          show Steps p.tables e below (T101.setTop (mkF m 214 #[.val (.int p1), .val (.long q2), .second, .val (.long q3), .second, .val (.int p4), .val (.int p5), .val (.int p6), .val (.long ka), .second, .val (.long kb), .second, .val (.int pa), .val (.int pb), .val (.int ps), .val (.ref b10), .val (.ref b17), .val (.ref b26), .val (.ref b38), .val (.ref b50), .val (.int u1), .val (.int u2), .val (.ref b68), .unset, .unset] [(.int (lcmpW kb ka))])) _
          refine XS.ifNo X101.here hx rfl (hb hby at_214) rfl ((if0 _ _).trans (flt (fun q => hc102 ((lw_gt _ _).mp q))).2.2.1) ?_
          refine XS.lload X101.here hx rfl (hb hby at_217) rfl ?_
          refine XS.lload X101.here hx rfl (hb hby at_219) rfl ?_
          refine XS.lcmp X101.here hx rfl (hb hby at_221) rfl ?_
          exact k
        by_cases hc106 : kb = ka
        · have g109 : ∀ t, Steps p.tables e below (T101.setTop (mkF m 229 #[.val (.int p1), .val (.long q2), .second, .val (.long q3), .second, .val (.int p4), .val (.int p5), .val (.int p6), .val (.long ka), .second, .val (.long kb), .second, .val (.int pa), .val (.int pb), .val (.int ps), .val (.ref b10), .val (.ref b17), .val (.ref b26), .val (.ref b38), .val (.ref b50), .val (.int u1), .val (.int u2), .val (.ref b68), .unset, .unset] [(.int pa), (.int pb)])) t → Steps p.tables e below (s₁.setTop (entryFrame m #[(.int p1), (.long q2), (.long q3), (.int p4), (.int p5), (.int p6)] maxLocals)) t := by
            intro t k
            refine g107 t ?_
            show Steps p.tables e below (T101.setTop (mkF m 222 #[.val (.int p1), .val (.long q2), .second, .val (.long q3), .second, .val (.int p4), .val (.int p5), .val (.int p6), .val (.long ka), .second, .val (.long kb), .second, .val (.int pa), .val (.int pb), .val (.int ps), .val (.ref b10), .val (.ref b17), .val (.ref b26), .val (.ref b38), .val (.ref b50), .val (.int u1), .val (.int u2), .val (.ref b68), .unset, .unset] [(.int (lcmpW kb ka))])) _
            refine XS.ifNo X101.here hx rfl (hb hby at_222) rfl ((if0 _ _).trans (teq ((lw_eq _ _).mpr hc106)).2) ?_
            refine XS.iload X101.here hx rfl (hb hby at_225) rfl ?_
            refine XS.iload X101.here hx rfl (hb hby at_227) rfl ?_
            exact k
          by_cases hc108 : pa < pb
          · obtain ⟨cq110, kq110, q110a, q110b, q110c⟩ := isOf hZ e101 Q80_0
            obtain ⟨_, _, ⟨T110, L110, k110, n110⟩, -, X110, ⟨Lc110, hQ110, l110, y110, z110⟩, st110⟩ := X101.virtualBack hx (y := own_y27) (z := own_y27) hown (mvT hZ (own_w hw 171 rfl)) (mvT hZ (own_w hw 172 rfl)) (notFace_of_selects (args := #[]) (mvT hZ (own_w hw 174 rfl))) (mvT hZ (own_w hw 174 rfl)) (mvT hZ (own_w hw 173 rfl)) (by decide) (backOf (W := 0) (rmA41 l Z a0 hw [] b68 b10  cs wf T80.heap n0 o91 G0 Q80_0 Q80_2 Q80_1  ) hZ (own_w hw 175 rfl) (own_w hw 119 rfl) (by decide) (by decide)) q110a q110c (g := (mkF m 281 #[.val (.int p1), .val (.long q2), .second, .val (.long q3), .second, .val (.int p4), .val (.int p5), .val (.int p6), .val (.long ka), .second, .val (.long kb), .second, .val (.int pa), .val (.int pb), .val (.int ps), .val (.ref b10), .val (.ref b17), .val (.ref b26), .val (.ref b38), .val (.ref b50), .val (.int u1), .val (.int u2), .val (.ref b68), .val (.int (1 : Int32)), .val (.ref b10)] [(.ref b10), (.ref b68)])) rfl (by rw [hml]; rfl) (Steps.refl _) (argsL := [(.ref b10)]) (rest := []) (lenOf own_pd18 rfl) rfl (by show 2 * 0 + _ ≤ _; exact Nat.le_of_eq rfl) (hb hby at_281) (fun _ _ => ⟨rfl, e101, (by decide : 26 + 0 ≤ _), (by decide : 194 + 0 ≤ _)⟩)
            dsimp only [Pt.U, Pt.locs, Pt.cells, Pt.slots] at X110 l110 y110 z110 st110 hQ110
            subst l110 y110 z110
            obtain ⟨rfl, Nq110, e110⟩ := hQ110
            have N110 := Fr.app N101 Nq110
            have g111 : ∀ t, Steps p.tables e below (T110.setTop (mkF m 294 #[.val (.int p1), .val (.long q2), .second, .val (.long q3), .second, .val (.int p4), .val (.int p5), .val (.int p6), .val (.long ka), .second, .val (.long kb), .second, .val (.int pa), .val (.int pb), .val (.int ps), .val (.ref b10), .val (.ref b17), .val (.ref b26), .val (.ref b38), .val (.ref b50), .val (.int u1), .val (.int u2), .val (.ref b68), .val (.int (1 : Int32)), .val (.ref b10)] [(.int (1 : Int32))])) t → Steps p.tables e below (s₁.setTop (entryFrame m #[(.int p1), (.long q2), (.long q3), (.int p4), (.int p5), (.int p6)] maxLocals)) t := by
              intro t k
              refine g109 t ?_
              show Steps p.tables e below (T101.setTop (mkF m 229 #[.val (.int p1), .val (.long q2), .second, .val (.long q3), .second, .val (.int p4), .val (.int p5), .val (.int p6), .val (.long ka), .second, .val (.long kb), .second, .val (.int pa), .val (.int pb), .val (.int ps), .val (.ref b10), .val (.ref b17), .val (.ref b26), .val (.ref b38), .val (.ref b50), .val (.int u1), .val (.int u2), .val (.ref b68), .unset, .unset] [(.int pa), (.int pb)])) _
              refine XS.icmpNo X101.here hx rfl (hb hby at_229) rfl (tlt hc108).2.2.2 ?_
              refine XS.iconst X101.here hx rfl (hb hby at_232) ?_
              refine XS.goto X101.here hx rfl (pc0 := 233) (pc' := 237) rfl (hb hby at_233) (by decide) (by decide) ?_
              refine XS.istore X101.here hx rfl (hb hby at_237) rfl (l' := #[.val (.int p1), .val (.long q2), .second, .val (.long q3), .second, .val (.int p4), .val (.int p5), .val (.int p6), .val (.long ka), .second, .val (.long kb), .second, .val (.int pa), .val (.int pb), .val (.int ps), .val (.ref b10), .val (.ref b17), .val (.ref b26), .val (.ref b38), .val (.ref b50), .val (.int u1), .val (.int u2), .val (.ref b68), .val (.int (1 : Int32)), .unset]) rfl ?_
              refine XS.iload X101.here hx rfl (hb hby at_239) rfl ?_
              refine XS.ifYes X101.here hx rfl (pc0 := 241) (pc' := 261) rfl (hb hby at_241) rfl ((if0 _ _).trans (teq hc83).1) (by decide) (by decide) ?_
              show Steps p.tables e below (T101.setTop (mkF m 261 #[.val (.int p1), .val (.long q2), .second, .val (.long q3), .second, .val (.int p4), .val (.int p5), .val (.int p6), .val (.long ka), .second, .val (.long kb), .second, .val (.int pa), .val (.int pb), .val (.int ps), .val (.ref b10), .val (.ref b17), .val (.ref b26), .val (.ref b38), .val (.ref b50), .val (.int u1), .val (.int u2), .val (.ref b68), .val (.int (1 : Int32)), .unset] [])) _
              refine XS.iload X101.here hx rfl (hb hby at_261) rfl ?_
              refine XS.ifYes X101.here hx rfl (pc0 := 263) (pc' := 273) rfl (hb hby at_263) rfl ((if0 _ _).trans (teq hc81).1) (by decide) (by decide) ?_
              refine XS.aload X101.here hx rfl (hb hby at_273) rfl rfl ?_
              refine XS.astore X101.here hx rfl (hb hby at_275) rfl rfl (l' := #[.val (.int p1), .val (.long q2), .second, .val (.long q3), .second, .val (.int p4), .val (.int p5), .val (.int p6), .val (.long ka), .second, .val (.long kb), .second, .val (.int pa), .val (.int pb), .val (.int ps), .val (.ref b10), .val (.ref b17), .val (.ref b26), .val (.ref b38), .val (.ref b50), .val (.int u1), .val (.int u2), .val (.ref b68), .val (.int (1 : Int32)), .val (.ref b10)]) rfl ?_
              refine XS.aload X101.here hx rfl (hb hby at_277) rfl rfl ?_
              refine XS.aload X101.here hx rfl (hb hby at_279) rfl rfl ?_
              show Steps p.tables e below (T101.setTop (mkF m 281 #[.val (.int p1), .val (.long q2), .second, .val (.long q3), .second, .val (.int p4), .val (.int p5), .val (.int p6), .val (.long ka), .second, .val (.long kb), .second, .val (.int pa), .val (.int pb), .val (.int ps), .val (.ref b10), .val (.ref b17), .val (.ref b26), .val (.ref b38), .val (.ref b50), .val (.int u1), .val (.int u2), .val (.ref b68), .val (.int (1 : Int32)), .val (.ref b10)] [(.ref b10), (.ref b68)])) _
              refine st110.trans ?_
              refine XS.aload X110.here hx rfl (hb hby at_284) rfl rfl ?_
              refine Jvm.RoadKit.acmp (g := (mkF m 286 #[.val (.int p1), .val (.long q2), .second, .val (.long q3), .second, .val (.int p4), .val (.int p5), .val (.int p6), .val (.long ka), .second, .val (.long kb), .second, .val (.int pa), .val (.int pb), .val (.int ps), .val (.ref b10), .val (.ref b17), .val (.ref b26), .val (.ref b38), .val (.ref b50), .val (.int u1), .val (.int u2), .val (.ref b68), .val (.int (1 : Int32)), .val (.ref b10)] [(.ref b10), (.ref b10)])) X110 hx rfl rfl rfl (pc0 := 286) (pc' := 289) (same := true) rfl (hb hby at_286) rfl (decide_eq_true rfl) (by decide) (by decide) ?_
              refine XS.iconst X110.here hx rfl (hb hby at_289) ?_
              refine XS.goto X110.here hx rfl (pc0 := 290) (pc' := 294) rfl (hb hby at_290) (by decide) (by decide) ?_
              exact k
            obtain ⟨fs, hrt, hrun, hended, hRW⟩ := X110.leaveW hS (by rw [e110]; exact hk) (v := some (.int (1 : Int32))) (fun h => by rw [Bd.returns] at h; cases h)
            refine ⟨_, _, g111 _ ?_, hrun, hended, _, _, rfl, ?_, ?_, hRW.1, hRW.2.1, hRW.2.2.1, hRW.2.2.2.mono (by decide) (by decide)⟩
            · show Steps p.tables e below (T110.setTop (mkF m 294 #[.val (.int p1), .val (.long q2), .second, .val (.long q3), .second, .val (.int p4), .val (.int p5), .val (.int p6), .val (.long ka), .second, .val (.long kb), .second, .val (.int pa), .val (.int pb), .val (.int ps), .val (.ref b10), .val (.ref b17), .val (.ref b26), .val (.ref b38), .val (.ref b50), .val (.int u1), .val (.int u2), .val (.ref b68), .val (.int (1 : Int32)), .val (.ref b10)] [(.int (1 : Int32))])) _
              exact retN X110 hx (t := .boolean) Bd.returns (by simp) (hb hby at_294) hrt
            · show own_Q_rm0 Z p1 q2 q3 p4 p5 p6 cs wf h0 n0 _ T110.heap _
              rw [e110]
              exact ⟨rfl, N110⟩
            · rw [hh]
              show CHr Z own_EL s.vm h0 T110.vm T110.heap
              rw [e110]
              exact hC.trans (CHv.at X110 hZ (own_EW hw) hC.1)
          · obtain ⟨cq112, kq112, q112a, q112b, q112c⟩ := isOf hZ e101 Q80_0
            obtain ⟨_, _, ⟨T112, L112, k112, n112⟩, -, X112, ⟨Lc112, hQ112, l112, y112, z112⟩, st112⟩ := X101.virtualBack hx (y := own_y27) (z := own_y27) hown (mvT hZ (own_w hw 171 rfl)) (mvT hZ (own_w hw 172 rfl)) (notFace_of_selects (args := #[]) (mvT hZ (own_w hw 174 rfl))) (mvT hZ (own_w hw 174 rfl)) (mvT hZ (own_w hw 173 rfl)) (by decide) (backOf (W := 0) (rmA41 l Z a0 hw [] b68 b10  cs wf T80.heap n0 o91 G0 Q80_0 Q80_2 Q80_1  ) hZ (own_w hw 175 rfl) (own_w hw 119 rfl) (by decide) (by decide)) q112a q112c (g := (mkF m 281 #[.val (.int p1), .val (.long q2), .second, .val (.long q3), .second, .val (.int p4), .val (.int p5), .val (.int p6), .val (.long ka), .second, .val (.long kb), .second, .val (.int pa), .val (.int pb), .val (.int ps), .val (.ref b10), .val (.ref b17), .val (.ref b26), .val (.ref b38), .val (.ref b50), .val (.int u1), .val (.int u2), .val (.ref b68), .val (.int (0 : Int32)), .val (.ref b10)] [(.ref b10), (.ref b68)])) rfl (by rw [hml]; rfl) (Steps.refl _) (argsL := [(.ref b10)]) (rest := []) (lenOf own_pd18 rfl) rfl (by show 2 * 0 + _ ≤ _; exact Nat.le_of_eq rfl) (hb hby at_281) (fun _ _ => ⟨rfl, e101, (by decide : 26 + 0 ≤ _), (by decide : 194 + 0 ≤ _)⟩)
            dsimp only [Pt.U, Pt.locs, Pt.cells, Pt.slots] at X112 l112 y112 z112 st112 hQ112
            subst l112 y112 z112
            obtain ⟨rfl, Nq112, e112⟩ := hQ112
            have N112 := Fr.app N101 Nq112
            have g113 : ∀ t, Steps p.tables e below (T112.setTop (mkF m 294 #[.val (.int p1), .val (.long q2), .second, .val (.long q3), .second, .val (.int p4), .val (.int p5), .val (.int p6), .val (.long ka), .second, .val (.long kb), .second, .val (.int pa), .val (.int pb), .val (.int ps), .val (.ref b10), .val (.ref b17), .val (.ref b26), .val (.ref b38), .val (.ref b50), .val (.int u1), .val (.int u2), .val (.ref b68), .val (.int (0 : Int32)), .val (.ref b10)] [(.int (1 : Int32))])) t → Steps p.tables e below (s₁.setTop (entryFrame m #[(.int p1), (.long q2), (.long q3), (.int p4), (.int p5), (.int p6)] maxLocals)) t := by
              intro t k
              refine g109 t ?_
              show Steps p.tables e below (T101.setTop (mkF m 229 #[.val (.int p1), .val (.long q2), .second, .val (.long q3), .second, .val (.int p4), .val (.int p5), .val (.int p6), .val (.long ka), .second, .val (.long kb), .second, .val (.int pa), .val (.int pb), .val (.int ps), .val (.ref b10), .val (.ref b17), .val (.ref b26), .val (.ref b38), .val (.ref b50), .val (.int u1), .val (.int u2), .val (.ref b68), .unset, .unset] [(.int pa), (.int pb)])) _
              refine XS.icmpYes X101.here hx rfl (pc0 := 229) (pc' := 236) rfl (hb hby at_229) rfl (flt hc108).2.2.2 (by decide) (by decide) ?_
              refine XS.iconst X101.here hx rfl (hb hby at_236) ?_
              refine XS.istore X101.here hx rfl (hb hby at_237) rfl (l' := #[.val (.int p1), .val (.long q2), .second, .val (.long q3), .second, .val (.int p4), .val (.int p5), .val (.int p6), .val (.long ka), .second, .val (.long kb), .second, .val (.int pa), .val (.int pb), .val (.int ps), .val (.ref b10), .val (.ref b17), .val (.ref b26), .val (.ref b38), .val (.ref b50), .val (.int u1), .val (.int u2), .val (.ref b68), .val (.int (0 : Int32)), .unset]) rfl ?_
              refine XS.iload X101.here hx rfl (hb hby at_239) rfl ?_
              refine XS.ifYes X101.here hx rfl (pc0 := 241) (pc' := 261) rfl (hb hby at_241) rfl ((if0 _ _).trans (teq hc83).1) (by decide) (by decide) ?_
              refine XS.iload X101.here hx rfl (hb hby at_261) rfl ?_
              show Steps p.tables e below (T101.setTop (mkF m 263 #[.val (.int p1), .val (.long q2), .second, .val (.long q3), .second, .val (.int p4), .val (.int p5), .val (.int p6), .val (.long ka), .second, .val (.long kb), .second, .val (.int pa), .val (.int pb), .val (.int ps), .val (.ref b10), .val (.ref b17), .val (.ref b26), .val (.ref b38), .val (.ref b50), .val (.int u1), .val (.int u2), .val (.ref b68), .val (.int (0 : Int32)), .unset] [(.int u1)])) _
              refine XS.ifYes X101.here hx rfl (pc0 := 263) (pc' := 273) rfl (hb hby at_263) rfl ((if0 _ _).trans (teq hc81).1) (by decide) (by decide) ?_
              refine XS.aload X101.here hx rfl (hb hby at_273) rfl rfl ?_
              refine XS.astore X101.here hx rfl (hb hby at_275) rfl rfl (l' := #[.val (.int p1), .val (.long q2), .second, .val (.long q3), .second, .val (.int p4), .val (.int p5), .val (.int p6), .val (.long ka), .second, .val (.long kb), .second, .val (.int pa), .val (.int pb), .val (.int ps), .val (.ref b10), .val (.ref b17), .val (.ref b26), .val (.ref b38), .val (.ref b50), .val (.int u1), .val (.int u2), .val (.ref b68), .val (.int (0 : Int32)), .val (.ref b10)]) rfl ?_
              refine XS.aload X101.here hx rfl (hb hby at_277) rfl rfl ?_
              refine XS.aload X101.here hx rfl (hb hby at_279) rfl rfl ?_
              refine st112.trans ?_
              show Steps p.tables e below (T112.setTop (mkF m 284 #[.val (.int p1), .val (.long q2), .second, .val (.long q3), .second, .val (.int p4), .val (.int p5), .val (.int p6), .val (.long ka), .second, .val (.long kb), .second, .val (.int pa), .val (.int pb), .val (.int ps), .val (.ref b10), .val (.ref b17), .val (.ref b26), .val (.ref b38), .val (.ref b50), .val (.int u1), .val (.int u2), .val (.ref b68), .val (.int (0 : Int32)), .val (.ref b10)] [(.ref b10)])) _
              refine XS.aload X112.here hx rfl (hb hby at_284) rfl rfl ?_
              refine Jvm.RoadKit.acmp (g := (mkF m 286 #[.val (.int p1), .val (.long q2), .second, .val (.long q3), .second, .val (.int p4), .val (.int p5), .val (.int p6), .val (.long ka), .second, .val (.long kb), .second, .val (.int pa), .val (.int pb), .val (.int ps), .val (.ref b10), .val (.ref b17), .val (.ref b26), .val (.ref b38), .val (.ref b50), .val (.int u1), .val (.int u2), .val (.ref b68), .val (.int (0 : Int32)), .val (.ref b10)] [(.ref b10), (.ref b10)])) X112 hx rfl rfl rfl (pc0 := 286) (pc' := 289) (same := true) rfl (hb hby at_286) rfl (decide_eq_true rfl) (by decide) (by decide) ?_
              refine XS.iconst X112.here hx rfl (hb hby at_289) ?_
              refine XS.goto X112.here hx rfl (pc0 := 290) (pc' := 294) rfl (hb hby at_290) (by decide) (by decide) ?_
              exact k
            obtain ⟨fs, hrt, hrun, hended, hRW⟩ := X112.leaveW hS (by rw [e112]; exact hk) (v := some (.int (1 : Int32))) (fun h => by rw [Bd.returns] at h; cases h)
            refine ⟨_, _, g113 _ ?_, hrun, hended, _, _, rfl, ?_, ?_, hRW.1, hRW.2.1, hRW.2.2.1, hRW.2.2.2.mono (by decide) (by decide)⟩
            · show Steps p.tables e below (T112.setTop (mkF m 294 #[.val (.int p1), .val (.long q2), .second, .val (.long q3), .second, .val (.int p4), .val (.int p5), .val (.int p6), .val (.long ka), .second, .val (.long kb), .second, .val (.int pa), .val (.int pb), .val (.int ps), .val (.ref b10), .val (.ref b17), .val (.ref b26), .val (.ref b38), .val (.ref b50), .val (.int u1), .val (.int u2), .val (.ref b68), .val (.int (0 : Int32)), .val (.ref b10)] [(.int (1 : Int32))])) _
              exact retN X112 hx (t := .boolean) Bd.returns (by simp) (hb hby at_294) hrt
            · show own_Q_rm0 Z p1 q2 q3 p4 p5 p6 cs wf h0 n0 _ T112.heap _
              rw [e112]
              exact ⟨rfl, N112⟩
            · rw [hh]
              show CHr Z own_EL s.vm h0 T112.vm T112.heap
              rw [e112]
              exact hC.trans (CHv.at X112 hZ (own_EW hw) hC.1)
        · obtain ⟨cq114, kq114, q114a, q114b, q114c⟩ := isOf hZ e101 Q80_0
          obtain ⟨_, _, ⟨T114, L114, k114, n114⟩, -, X114, ⟨Lc114, hQ114, l114, y114, z114⟩, st114⟩ := X101.virtualBack hx (y := own_y27) (z := own_y27) hown (mvT hZ (own_w hw 171 rfl)) (mvT hZ (own_w hw 172 rfl)) (notFace_of_selects (args := #[]) (mvT hZ (own_w hw 174 rfl))) (mvT hZ (own_w hw 174 rfl)) (mvT hZ (own_w hw 173 rfl)) (by decide) (backOf (W := 0) (rmA41 l Z a0 hw [] b68 b10  cs wf T80.heap n0 o91 G0 Q80_0 Q80_2 Q80_1  ) hZ (own_w hw 175 rfl) (own_w hw 119 rfl) (by decide) (by decide)) q114a q114c (g := (mkF m 281 #[.val (.int p1), .val (.long q2), .second, .val (.long q3), .second, .val (.int p4), .val (.int p5), .val (.int p6), .val (.long ka), .second, .val (.long kb), .second, .val (.int pa), .val (.int pb), .val (.int ps), .val (.ref b10), .val (.ref b17), .val (.ref b26), .val (.ref b38), .val (.ref b50), .val (.int u1), .val (.int u2), .val (.ref b68), .val (.int (0 : Int32)), .val (.ref b10)] [(.ref b10), (.ref b68)])) rfl (by rw [hml]; rfl) (Steps.refl _) (argsL := [(.ref b10)]) (rest := []) (lenOf own_pd18 rfl) rfl (by show 2 * 0 + _ ≤ _; exact Nat.le_of_eq rfl) (hb hby at_281) (fun _ _ => ⟨rfl, e101, (by decide : 26 + 0 ≤ _), (by decide : 194 + 0 ≤ _)⟩)
          dsimp only [Pt.U, Pt.locs, Pt.cells, Pt.slots] at X114 l114 y114 z114 st114 hQ114
          subst l114 y114 z114
          obtain ⟨rfl, Nq114, e114⟩ := hQ114
          have N114 := Fr.app N101 Nq114
          have g115 : ∀ t, Steps p.tables e below (T114.setTop (mkF m 294 #[.val (.int p1), .val (.long q2), .second, .val (.long q3), .second, .val (.int p4), .val (.int p5), .val (.int p6), .val (.long ka), .second, .val (.long kb), .second, .val (.int pa), .val (.int pb), .val (.int ps), .val (.ref b10), .val (.ref b17), .val (.ref b26), .val (.ref b38), .val (.ref b50), .val (.int u1), .val (.int u2), .val (.ref b68), .val (.int (0 : Int32)), .val (.ref b10)] [(.int (1 : Int32))])) t → Steps p.tables e below (s₁.setTop (entryFrame m #[(.int p1), (.long q2), (.long q3), (.int p4), (.int p5), (.int p6)] maxLocals)) t := by
            intro t k
            refine g107 t ?_
            show Steps p.tables e below (T101.setTop (mkF m 222 #[.val (.int p1), .val (.long q2), .second, .val (.long q3), .second, .val (.int p4), .val (.int p5), .val (.int p6), .val (.long ka), .second, .val (.long kb), .second, .val (.int pa), .val (.int pb), .val (.int ps), .val (.ref b10), .val (.ref b17), .val (.ref b26), .val (.ref b38), .val (.ref b50), .val (.int u1), .val (.int u2), .val (.ref b68), .unset, .unset] [(.int (lcmpW kb ka))])) _
            refine XS.ifYes X101.here hx rfl (pc0 := 222) (pc' := 236) rfl (hb hby at_222) rfl ((if0 _ _).trans (feq (fun q => hc106 ((lw_eq _ _).mp q))).2) (by decide) (by decide) ?_
            refine XS.iconst X101.here hx rfl (hb hby at_236) ?_
            refine XS.istore X101.here hx rfl (hb hby at_237) rfl (l' := #[.val (.int p1), .val (.long q2), .second, .val (.long q3), .second, .val (.int p4), .val (.int p5), .val (.int p6), .val (.long ka), .second, .val (.long kb), .second, .val (.int pa), .val (.int pb), .val (.int ps), .val (.ref b10), .val (.ref b17), .val (.ref b26), .val (.ref b38), .val (.ref b50), .val (.int u1), .val (.int u2), .val (.ref b68), .val (.int (0 : Int32)), .unset]) rfl ?_
            refine XS.iload X101.here hx rfl (hb hby at_239) rfl ?_
            refine XS.ifYes X101.here hx rfl (pc0 := 241) (pc' := 261) rfl (hb hby at_241) rfl ((if0 _ _).trans (teq hc83).1) (by decide) (by decide) ?_
            refine XS.iload X101.here hx rfl (hb hby at_261) rfl ?_
            show Steps p.tables e below (T101.setTop (mkF m 263 #[.val (.int p1), .val (.long q2), .second, .val (.long q3), .second, .val (.int p4), .val (.int p5), .val (.int p6), .val (.long ka), .second, .val (.long kb), .second, .val (.int pa), .val (.int pb), .val (.int ps), .val (.ref b10), .val (.ref b17), .val (.ref b26), .val (.ref b38), .val (.ref b50), .val (.int u1), .val (.int u2), .val (.ref b68), .val (.int (0 : Int32)), .unset] [(.int u1)])) _
            refine XS.ifYes X101.here hx rfl (pc0 := 263) (pc' := 273) rfl (hb hby at_263) rfl ((if0 _ _).trans (teq hc81).1) (by decide) (by decide) ?_
            refine XS.aload X101.here hx rfl (hb hby at_273) rfl rfl ?_
            refine XS.astore X101.here hx rfl (hb hby at_275) rfl rfl (l' := #[.val (.int p1), .val (.long q2), .second, .val (.long q3), .second, .val (.int p4), .val (.int p5), .val (.int p6), .val (.long ka), .second, .val (.long kb), .second, .val (.int pa), .val (.int pb), .val (.int ps), .val (.ref b10), .val (.ref b17), .val (.ref b26), .val (.ref b38), .val (.ref b50), .val (.int u1), .val (.int u2), .val (.ref b68), .val (.int (0 : Int32)), .val (.ref b10)]) rfl ?_
            refine XS.aload X101.here hx rfl (hb hby at_277) rfl rfl ?_
            refine XS.aload X101.here hx rfl (hb hby at_279) rfl rfl ?_
            refine st114.trans ?_
            show Steps p.tables e below (T114.setTop (mkF m 284 #[.val (.int p1), .val (.long q2), .second, .val (.long q3), .second, .val (.int p4), .val (.int p5), .val (.int p6), .val (.long ka), .second, .val (.long kb), .second, .val (.int pa), .val (.int pb), .val (.int ps), .val (.ref b10), .val (.ref b17), .val (.ref b26), .val (.ref b38), .val (.ref b50), .val (.int u1), .val (.int u2), .val (.ref b68), .val (.int (0 : Int32)), .val (.ref b10)] [(.ref b10)])) _
            refine XS.aload X114.here hx rfl (hb hby at_284) rfl rfl ?_
            refine Jvm.RoadKit.acmp (g := (mkF m 286 #[.val (.int p1), .val (.long q2), .second, .val (.long q3), .second, .val (.int p4), .val (.int p5), .val (.int p6), .val (.long ka), .second, .val (.long kb), .second, .val (.int pa), .val (.int pb), .val (.int ps), .val (.ref b10), .val (.ref b17), .val (.ref b26), .val (.ref b38), .val (.ref b50), .val (.int u1), .val (.int u2), .val (.ref b68), .val (.int (0 : Int32)), .val (.ref b10)] [(.ref b10), (.ref b10)])) X114 hx rfl rfl rfl (pc0 := 286) (pc' := 289) (same := true) rfl (hb hby at_286) rfl (decide_eq_true rfl) (by decide) (by decide) ?_
            refine XS.iconst X114.here hx rfl (hb hby at_289) ?_
            refine XS.goto X114.here hx rfl (pc0 := 290) (pc' := 294) rfl (hb hby at_290) (by decide) (by decide) ?_
            exact k
          obtain ⟨fs, hrt, hrun, hended, hRW⟩ := X114.leaveW hS (by rw [e114]; exact hk) (v := some (.int (1 : Int32))) (fun h => by rw [Bd.returns] at h; cases h)
          refine ⟨_, _, g115 _ ?_, hrun, hended, _, _, rfl, ?_, ?_, hRW.1, hRW.2.1, hRW.2.2.1, hRW.2.2.2.mono (by decide) (by decide)⟩
          · show Steps p.tables e below (T114.setTop (mkF m 294 #[.val (.int p1), .val (.long q2), .second, .val (.long q3), .second, .val (.int p4), .val (.int p5), .val (.int p6), .val (.long ka), .second, .val (.long kb), .second, .val (.int pa), .val (.int pb), .val (.int ps), .val (.ref b10), .val (.ref b17), .val (.ref b26), .val (.ref b38), .val (.ref b50), .val (.int u1), .val (.int u2), .val (.ref b68), .val (.int (0 : Int32)), .val (.ref b10)] [(.int (1 : Int32))])) _
            exact retN X114 hx (t := .boolean) Bd.returns (by simp) (hb hby at_294) hrt
          · show own_Q_rm0 Z p1 q2 q3 p4 p5 p6 cs wf h0 n0 _ T114.heap _
            rw [e114]
            exact ⟨rfl, N114⟩
          · rw [hh]
            show CHr Z own_EL s.vm h0 T114.vm T114.heap
            rw [e114]
            exact hC.trans (CHv.at X114 hZ (own_EW hw) hC.1)
    · have f116 := ((f74.ext E68).keep K80)
      have f117 := ((f70.ext E68).keep K80)
      have f118 := ((((((((((Fc20.keep K25 (ninS (Exa.ne Ex20 f21 (by decide)) nin0)).ext E26).ext E32).keep K37 (ninS ne_a20_b26 nin0)).ext E38).keep K49 (ninS ne_a20_b38 nin0)).ext E50).keep K61 (ninS ne_a20_b50 nin0)).ext E68).keep K80 (ninS ne_a20_b68 nin0))
      have f119 := ((f75.ext E68).keep K80 (ninS ne_b20_b68 nin0))
      have f120 := ((((((((((Fv20.keep K25 (ninS (Exa.ne Ex20 f21 (by decide)) nin0)).ext E26).ext E32).keep K37 (ninS ne_a20_b26 nin0)).ext E38).keep K49 (ninS ne_a20_b38 nin0)).ext E50).keep K61 (ninS ne_a20_b50 nin0)).ext E68).keep K80 (ninS ne_a20_b68 nin0))
      have f121 := (((((((((Q25_1.ext E26).ext E32).keep K37 (ninS ne_b17_b26 nin0)).ext E38).keep K49 (ninS ne_b17_b38 nin0)).ext E50).keep K61 (ninS ne_b17_b50 nin0)).ext E68).keep K80 (ninS ne_b17_b68 nin0))
      have f122 := (((((((((Q25_2.ext E26).ext E32).keep K37 (ninS ne_b17_b26 nin0)).ext E38).keep K49 (ninS ne_b17_b38 nin0)).ext E50).keep K61 (ninS ne_b17_b50 nin0)).ext E68).keep K80 (ninS ne_b17_b68 nin0))
      have o123 : Old Z n0 T80.heap := (Old.keep o79 K80 (allS gz_b68 all0))
      obtain ⟨cq124, kq124, q124a, q124b, q124c⟩ := isOf hZ rfl Q80_0
      obtain ⟨_, _, ⟨T124, L124, k124, n124⟩, -, X124, ⟨Lc124, hQ124, l124, y124, z124⟩, st124⟩ := X80.virtualBack hx (y := own_y26) (z := own_y26) hown (mvT hZ (own_w hw 166 rfl)) (mvT hZ (own_w hw 167 rfl)) (notFace_of_selects (args := #[]) (mvT hZ (own_w hw 169 rfl))) (mvT hZ (own_w hw 169 rfl)) (mvT hZ (own_w hw 168 rfl)) (by decide) (backOf (W := 0) (rmA40 l Z a0 hw [] b68 b17 a20 b20 ka20 (pa)  cs wf T80.heap n0 o123 G0 Q80_0 Q80_2 Q80_1 f116 f117 f118 f119 f120 f121 f122  ) hZ (own_w hw 170 rfl) (own_w hw 119 rfl) (by decide) (by decide)) q124a q124c (g := (mkF m 188 #[.val (.int p1), .val (.long q2), .second, .val (.long q3), .second, .val (.int p4), .val (.int p5), .val (.int p6), .val (.long ka), .second, .val (.long kb), .second, .val (.int pa), .val (.int pb), .val (.int ps), .val (.ref b10), .val (.ref b17), .val (.ref b26), .val (.ref b38), .val (.ref b50), .val (.int u1), .val (.int u2), .val (.ref b68), .unset, .unset] [(.ref b17), .null, (.ref b68)])) rfl (by rw [hml]; rfl) (Steps.refl _) (argsL := [.null, (.ref b17)]) (rest := []) (lenOf own_pd17 rfl) rfl (by show 2 * 0 + _ ≤ _; exact Nat.le_of_eq rfl) (hb hby at_188) (fun _ _ => ⟨rfl, rfl, (by decide : 26 + 0 ≤ _), (by decide : 194 + 0 ≤ _)⟩)
      dsimp only [Pt.U, Pt.locs, Pt.cells, Pt.slots] at X124 l124 y124 z124 st124 hQ124
      subst l124 y124 z124
      obtain ⟨rfl, Nq124, e124⟩ := hQ124
      have N124 := Fr.app N80 Nq124
      obtain ⟨LL125, XL125, NL125⟩ : ∃ LL : List Loc, Stand p l e room_1 (s.setVm T61.vm) m #[(.int p1), (.long q2), (.long q3), (.int p4), (.int p5), (.int p6)] below meth c T124 LL 26 194 ∧ Fr n0 LL := ⟨_, X124, N124⟩
      have f126 := ((Q61_0.ext E68).keep K80)
      have f127 := ((Q61_1.ext E68).keep K80 (ninS ne_b50_b68 nin0))
      have f128 := ((f76.ext E68).keep K80)
      have f129 := ((f71.ext E68).keep K80)
      have f130 := (((((((Fc32.keep K37 (ninS (Exa.ne Ex32 f33 (by decide)) nin0)).ext E38).keep K49 (ninS ne_a32_b38 nin0)).ext E50).keep K61 (ninS ne_a32_b50 nin0)).ext E68).keep K80 (ninS ne_a32_b68 nin0))
      have f131 := ((f77.ext E68).keep K80 (ninS ne_b32_b68 nin0))
      have f132 := (((((((Fv32.keep K37 (ninS (Exa.ne Ex32 f33 (by decide)) nin0)).ext E38).keep K49 (ninS ne_a32_b38 nin0)).ext E50).keep K61 (ninS ne_a32_b50 nin0)).ext E68).keep K80 (ninS ne_a32_b68 nin0))
      have f133 := ((((((Q37_1.ext E38).keep K49 (ninS ne_b26_b38 nin0)).ext E50).keep K61 (ninS ne_b26_b50 nin0)).ext E68).keep K80 (ninS ne_b26_b68 nin0))
      have f134 := ((((((Q37_2.ext E38).keep K49 (ninS ne_b26_b38 nin0)).ext E50).keep K61 (ninS ne_b26_b50 nin0)).ext E68).keep K80 (ninS ne_b26_b68 nin0))
      have f135 := ((Q61_2.ext E68).keep K80 (ninS ne_b50_b68 nin0))
      obtain ⟨cq136, kq136, q136a, q136b, q136c⟩ := isOf hZ e124 Q80_0
      obtain ⟨_, _, ⟨T136, L136, k136, n136⟩, -, X136, ⟨Lc136, hQ136, l136, y136, z136⟩, st136⟩ := XL125.virtualBack hx (y := own_y26) (z := own_y26) hown (mvT hZ (own_w hw 166 rfl)) (mvT hZ (own_w hw 167 rfl)) (notFace_of_selects (args := #[]) (mvT hZ (own_w hw 169 rfl))) (mvT hZ (own_w hw 169 rfl)) (mvT hZ (own_w hw 168 rfl)) (by decide) (backOf (W := 0) (rmA42 l Z a0 hw [] b68 b50 (kb) b26 a32 b32 ka32 (pb)  cs wf T80.heap n0 o123 G0 Q80_0 Q80_2 Q80_1 f126 f127 f128 f129 f130 f131 f132 f133 f134 f135 gz_b68 ) hZ (own_w hw 170 rfl) (own_w hw 119 rfl) (by decide) (by decide)) q136a q136c (g := (mkF m 206 #[.val (.int p1), .val (.long q2), .second, .val (.long q3), .second, .val (.int p4), .val (.int p5), .val (.int p6), .val (.long ka), .second, .val (.long kb), .second, .val (.int pa), .val (.int pb), .val (.int ps), .val (.ref b10), .val (.ref b17), .val (.ref b26), .val (.ref b38), .val (.ref b50), .val (.int u1), .val (.int u2), .val (.ref b68), .unset, .unset] [(.ref b26), (.ref b50), (.ref b68)])) rfl (by rw [hml]; rfl) (Steps.refl _) (argsL := [(.ref b50), (.ref b26)]) (rest := []) (lenOf own_pd17 rfl) rfl (by show 2 * 0 + _ ≤ _; exact Nat.le_of_eq rfl) (hb hby at_206) (fun _ _ => ⟨rfl, e124, (by decide : 26 + 0 ≤ _), (by decide : 194 + 0 ≤ _)⟩)
      dsimp only [Pt.U, Pt.locs, Pt.cells, Pt.slots] at X136 l136 y136 z136 st136 hQ136
      subst l136 y136 z136
      obtain ⟨rfl, Nq136, K136, Q136_0, Q136_1, Q136_2⟩ := hQ136
      have hC := hC.trans (CHr.keep K136 (sfS (Safe.exa hZ.alike Q80_0 (by decide) (by decide)) sf0) hC.1)
      have hk := Nat.le_trans hk K136.1
      have N136 := Fr.app NL125 Nq136
      have g138 : ∀ t, Steps p.tables e below (T136.setTop (mkF m 214 #[.val (.int p1), .val (.long q2), .second, .val (.long q3), .second, .val (.int p4), .val (.int p5), .val (.int p6), .val (.long ka), .second, .val (.long kb), .second, .val (.int pa), .val (.int pb), .val (.int ps), .val (.ref b10), .val (.ref b17), .val (.ref b26), .val (.ref b38), .val (.ref b50), .val (.int u1), .val (.int u2), .val (.ref b68), .unset, .unset] [(.int (lcmpW kb ka))])) t → Steps p.tables e below (s₁.setTop (entryFrame m #[(.int p1), (.long q2), (.long q3), (.int p4), (.int p5), (.int p6)] maxLocals)) t := by
        intro t k
        refine g82 t ?_
        show Steps p.tables e below (T80.setTop (mkF m 173 #[.val (.int p1), .val (.long q2), .second, .val (.long q3), .second, .val (.int p4), .val (.int p5), .val (.int p6), .val (.long ka), .second, .val (.long kb), .second, .val (.int pa), .val (.int pb), .val (.int ps), .val (.ref b10), .val (.ref b17), .val (.ref b26), .val (.ref b38), .val (.ref b50), .val (.int u1), .val (.int u2), .val (.ref b68), .unset, .unset] [])) _
        refine XS.aload X80.here hx rfl (hb hby at_173) rfl rfl ?_
        refine XS.iload X80.here hx rfl (hb hby at_175) rfl ?_
        refine XS.ifYes X80.here hx rfl (pc0 := 177) (pc' := 185) rfl (hb hby at_177) rfl ((if0 _ _).trans (teq hc81).1) (by decide) (by decide) ?_
        refine XS.aconstNull X80.here hx rfl (hb hby at_185) ?_
        refine XS.aload X80.here hx rfl (hb hby at_186) rfl rfl ?_
        refine st124.trans ?_
        show Steps p.tables e below (T124.setTop (mkF m 191 #[.val (.int p1), .val (.long q2), .second, .val (.long q3), .second, .val (.int p4), .val (.int p5), .val (.int p6), .val (.long ka), .second, .val (.long kb), .second, .val (.int pa), .val (.int pb), .val (.int ps), .val (.ref b10), .val (.ref b17), .val (.ref b26), .val (.ref b38), .val (.ref b50), .val (.int u1), .val (.int u2), .val (.ref b68), .unset, .unset] [])) _
        refine XS.aload X124.here hx rfl (hb hby at_191) rfl rfl ?_
        refine XS.iload X124.here hx rfl (hb hby at_193) rfl ?_
        refine XS.ifNo X124.here hx rfl (hb hby at_195) rfl ((if0 _ _).trans (feq hc83).1) ?_
        refine XS.aload X124.here hx rfl (hb hby at_198) rfl rfl ?_
        refine XS.goto X124.here hx rfl (pc0 := 200) (pc' := 204) rfl (hb hby at_200) (by decide) (by decide) ?_
        refine XS.aload X124.here hx rfl (hb hby at_204) rfl rfl ?_
        show Steps p.tables e below (T124.setTop (mkF m 206 #[.val (.int p1), .val (.long q2), .second, .val (.long q3), .second, .val (.int p4), .val (.int p5), .val (.int p6), .val (.long ka), .second, .val (.long kb), .second, .val (.int pa), .val (.int pb), .val (.int ps), .val (.ref b10), .val (.ref b17), .val (.ref b26), .val (.ref b38), .val (.ref b50), .val (.int u1), .val (.int u2), .val (.ref b68), .unset, .unset] [(.ref b26), (.ref b50), (.ref b68)])) _
        refine st136.trans ?_
        refine XS.lload X136.here hx rfl (hb hby at_209) rfl ?_
        refine XS.lload X136.here hx rfl (hb hby at_211) rfl ?_
        refine XS.lcmp X136.here hx rfl (hb hby at_213) rfl ?_
        exact k
      by_cases hc137 : ka < kb
      · have o139 : Old Z n0 T136.heap := (Old.keep o123 K136 (allS gz_b68 all0))
        obtain ⟨cq140, kq140, q140a, q140b, q140c⟩ := isOf hZ rfl Q136_0
        obtain ⟨_, _, ⟨T140, L140, k140, n140⟩, -, X140, ⟨Lc140, hQ140, l140, y140, z140⟩, st140⟩ := X136.virtualBack hx (y := own_y27) (z := own_y27) hown (mvT hZ (own_w hw 171 rfl)) (mvT hZ (own_w hw 172 rfl)) (notFace_of_selects (args := #[]) (mvT hZ (own_w hw 174 rfl))) (mvT hZ (own_w hw 174 rfl)) (mvT hZ (own_w hw 173 rfl)) (by decide) (backOf (W := 0) (rmA43 l Z a0 hw [] b68 b26 b50 b10  cs wf T136.heap n0 o139 G0 Q136_0 Q136_2 Q136_1  ) hZ (own_w hw 175 rfl) (own_w hw 119 rfl) (by decide) (by decide)) q140a q140c (g := (mkF m 281 #[.val (.int p1), .val (.long q2), .second, .val (.long q3), .second, .val (.int p4), .val (.int p5), .val (.int p6), .val (.long ka), .second, .val (.long kb), .second, .val (.int pa), .val (.int pb), .val (.int ps), .val (.ref b10), .val (.ref b17), .val (.ref b26), .val (.ref b38), .val (.ref b50), .val (.int u1), .val (.int u2), .val (.ref b68), .val (.int (1 : Int32)), .val (.ref b26)] [(.ref b10), (.ref b68)])) rfl (by rw [hml]; rfl) (Steps.refl _) (argsL := [(.ref b10)]) (rest := []) (lenOf own_pd18 rfl) rfl (by show 2 * 0 + _ ≤ _; exact Nat.le_of_eq rfl) (hb hby at_281) (fun _ _ => ⟨rfl, rfl, (by decide : 26 + 0 ≤ _), (by decide : 194 + 0 ≤ _)⟩)
        dsimp only [Pt.U, Pt.locs, Pt.cells, Pt.slots] at X140 l140 y140 z140 st140 hQ140
        subst l140 y140 z140
        obtain ⟨rfl, Nq140, e140⟩ := hQ140
        have N140 := Fr.app N136 Nq140
        have g141 : ∀ t, Steps p.tables e below (T140.setTop (mkF m 294 #[.val (.int p1), .val (.long q2), .second, .val (.long q3), .second, .val (.int p4), .val (.int p5), .val (.int p6), .val (.long ka), .second, .val (.long kb), .second, .val (.int pa), .val (.int pb), .val (.int ps), .val (.ref b10), .val (.ref b17), .val (.ref b26), .val (.ref b38), .val (.ref b50), .val (.int u1), .val (.int u2), .val (.ref b68), .val (.int (1 : Int32)), .val (.ref b26)] [(.int (1 : Int32))])) t → Steps p.tables e below (s₁.setTop (entryFrame m #[(.int p1), (.long q2), (.long q3), (.int p4), (.int p5), (.int p6)] maxLocals)) t := by
          intro t k
          refine g138 t ?_
          show Steps p.tables e below (T136.setTop (mkF m 214 #[.val (.int p1), .val (.long q2), .second, .val (.long q3), .second, .val (.int p4), .val (.int p5), .val (.int p6), .val (.long ka), .second, .val (.long kb), .second, .val (.int pa), .val (.int pb), .val (.int ps), .val (.ref b10), .val (.ref b17), .val (.ref b26), .val (.ref b38), .val (.ref b50), .val (.int u1), .val (.int u2), .val (.ref b68), .unset, .unset] [(.int (lcmpW kb ka))])) _
          refine XS.ifYes X136.here hx rfl (pc0 := 214) (pc' := 232) rfl (hb hby at_214) rfl ((if0 _ _).trans (tlt ((lw_gt _ _).mpr hc137)).2.2.1) (by decide) (by decide) ?_
          refine XS.iconst X136.here hx rfl (hb hby at_232) ?_
          refine XS.goto X136.here hx rfl (pc0 := 233) (pc' := 237) rfl (hb hby at_233) (by decide) (by decide) ?_
          refine XS.istore X136.here hx rfl (hb hby at_237) rfl (l' := #[.val (.int p1), .val (.long q2), .second, .val (.long q3), .second, .val (.int p4), .val (.int p5), .val (.int p6), .val (.long ka), .second, .val (.long kb), .second, .val (.int pa), .val (.int pb), .val (.int ps), .val (.ref b10), .val (.ref b17), .val (.ref b26), .val (.ref b38), .val (.ref b50), .val (.int u1), .val (.int u2), .val (.ref b68), .val (.int (1 : Int32)), .unset]) rfl ?_
          refine XS.iload X136.here hx rfl (hb hby at_239) rfl ?_
          refine XS.ifNo X136.here hx rfl (hb hby at_241) rfl ((if0 _ _).trans (feq hc83).1) ?_
          show Steps p.tables e below (T136.setTop (mkF m 244 #[.val (.int p1), .val (.long q2), .second, .val (.long q3), .second, .val (.int p4), .val (.int p5), .val (.int p6), .val (.long ka), .second, .val (.long kb), .second, .val (.int pa), .val (.int pb), .val (.int ps), .val (.ref b10), .val (.ref b17), .val (.ref b26), .val (.ref b38), .val (.ref b50), .val (.int u1), .val (.int u2), .val (.ref b68), .val (.int (1 : Int32)), .unset] [])) _
          refine XS.iload X136.here hx rfl (hb hby at_244) rfl ?_
          refine XS.ifYes X136.here hx rfl (pc0 := 246) (pc' := 254) rfl (hb hby at_246) rfl ((if0 _ _).trans (teq hc81).1) (by decide) (by decide) ?_
          refine XS.aload X136.here hx rfl (hb hby at_254) rfl rfl ?_
          refine XS.astore X136.here hx rfl (hb hby at_256) rfl rfl (l' := #[.val (.int p1), .val (.long q2), .second, .val (.long q3), .second, .val (.int p4), .val (.int p5), .val (.int p6), .val (.long ka), .second, .val (.long kb), .second, .val (.int pa), .val (.int pb), .val (.int ps), .val (.ref b10), .val (.ref b17), .val (.ref b26), .val (.ref b38), .val (.ref b50), .val (.int u1), .val (.int u2), .val (.ref b68), .val (.int (1 : Int32)), .val (.ref b26)]) rfl ?_
          refine XS.goto X136.here hx rfl (pc0 := 258) (pc' := 277) rfl (hb hby at_258) (by decide) (by decide) ?_
          refine XS.aload X136.here hx rfl (hb hby at_277) rfl rfl ?_
          show Steps p.tables e below (T136.setTop (mkF m 279 #[.val (.int p1), .val (.long q2), .second, .val (.long q3), .second, .val (.int p4), .val (.int p5), .val (.int p6), .val (.long ka), .second, .val (.long kb), .second, .val (.int pa), .val (.int pb), .val (.int ps), .val (.ref b10), .val (.ref b17), .val (.ref b26), .val (.ref b38), .val (.ref b50), .val (.int u1), .val (.int u2), .val (.ref b68), .val (.int (1 : Int32)), .val (.ref b26)] [(.ref b68)])) _
          refine XS.aload X136.here hx rfl (hb hby at_279) rfl rfl ?_
          refine st140.trans ?_
          refine XS.aload X140.here hx rfl (hb hby at_284) rfl rfl ?_
          refine Jvm.RoadKit.acmp (g := (mkF m 286 #[.val (.int p1), .val (.long q2), .second, .val (.long q3), .second, .val (.int p4), .val (.int p5), .val (.int p6), .val (.long ka), .second, .val (.long kb), .second, .val (.int pa), .val (.int pb), .val (.int ps), .val (.ref b10), .val (.ref b17), .val (.ref b26), .val (.ref b38), .val (.ref b50), .val (.int u1), .val (.int u2), .val (.ref b68), .val (.int (1 : Int32)), .val (.ref b26)] [(.ref b26), (.ref b26)])) X140 hx rfl rfl rfl (pc0 := 286) (pc' := 289) (same := true) rfl (hb hby at_286) rfl (decide_eq_true rfl) (by decide) (by decide) ?_
          refine XS.iconst X140.here hx rfl (hb hby at_289) ?_
          refine XS.goto X140.here hx rfl (pc0 := 290) (pc' := 294) rfl (hb hby at_290) (by decide) (by decide) ?_
          exact k
        obtain ⟨fs, hrt, hrun, hended, hRW⟩ := X140.leaveW hS (by rw [e140]; exact hk) (v := some (.int (1 : Int32))) (fun h => by rw [Bd.returns] at h; cases h)
        refine ⟨_, _, g141 _ ?_, hrun, hended, _, _, rfl, ?_, ?_, hRW.1, hRW.2.1, hRW.2.2.1, hRW.2.2.2.mono (by decide) (by decide)⟩
        · show Steps p.tables e below (T140.setTop (mkF m 294 #[.val (.int p1), .val (.long q2), .second, .val (.long q3), .second, .val (.int p4), .val (.int p5), .val (.int p6), .val (.long ka), .second, .val (.long kb), .second, .val (.int pa), .val (.int pb), .val (.int ps), .val (.ref b10), .val (.ref b17), .val (.ref b26), .val (.ref b38), .val (.ref b50), .val (.int u1), .val (.int u2), .val (.ref b68), .val (.int (1 : Int32)), .val (.ref b26)] [(.int (1 : Int32))])) _
          exact retN X140 hx (t := .boolean) Bd.returns (by simp) (hb hby at_294) hrt
        · show own_Q_rm0 Z p1 q2 q3 p4 p5 p6 cs wf h0 n0 _ T140.heap _
          rw [e140]
          exact ⟨rfl, N140⟩
        · rw [hh]
          show CHr Z own_EL s.vm h0 T140.vm T140.heap
          rw [e140]
          exact hC.trans (CHv.at X140 hZ (own_EW hw) hC.1)
      · have g143 : ∀ t, Steps p.tables e below (T136.setTop (mkF m 222 #[.val (.int p1), .val (.long q2), .second, .val (.long q3), .second, .val (.int p4), .val (.int p5), .val (.int p6), .val (.long ka), .second, .val (.long kb), .second, .val (.int pa), .val (.int pb), .val (.int ps), .val (.ref b10), .val (.ref b17), .val (.ref b26), .val (.ref b38), .val (.ref b50), .val (.int u1), .val (.int u2), .val (.ref b68), .unset, .unset] [(.int (lcmpW kb ka))])) t → Steps p.tables e below (s₁.setTop (entryFrame m #[(.int p1), (.long q2), (.long q3), (.int p4), (.int p5), (.int p6)] maxLocals)) t := by
          intro t k
          refine g138 t ?_
          show Steps p.tables e below (T136.setTop (mkF m 214 #[.val (.int p1), .val (.long q2), .second, .val (.long q3), .second, .val (.int p4), .val (.int p5), .val (.int p6), .val (.long ka), .second, .val (.long kb), .second, .val (.int pa), .val (.int pb), .val (.int ps), .val (.ref b10), .val (.ref b17), .val (.ref b26), .val (.ref b38), .val (.ref b50), .val (.int u1), .val (.int u2), .val (.ref b68), .unset, .unset] [(.int (lcmpW kb ka))])) _
          refine XS.ifNo X136.here hx rfl (hb hby at_214) rfl ((if0 _ _).trans (flt (fun q => hc137 ((lw_gt _ _).mp q))).2.2.1) ?_
          refine XS.lload X136.here hx rfl (hb hby at_217) rfl ?_
          refine XS.lload X136.here hx rfl (hb hby at_219) rfl ?_
          refine XS.lcmp X136.here hx rfl (hb hby at_221) rfl ?_
          exact k
        by_cases hc142 : kb = ka
        · have g145 : ∀ t, Steps p.tables e below (T136.setTop (mkF m 229 #[.val (.int p1), .val (.long q2), .second, .val (.long q3), .second, .val (.int p4), .val (.int p5), .val (.int p6), .val (.long ka), .second, .val (.long kb), .second, .val (.int pa), .val (.int pb), .val (.int ps), .val (.ref b10), .val (.ref b17), .val (.ref b26), .val (.ref b38), .val (.ref b50), .val (.int u1), .val (.int u2), .val (.ref b68), .unset, .unset] [(.int pa), (.int pb)])) t → Steps p.tables e below (s₁.setTop (entryFrame m #[(.int p1), (.long q2), (.long q3), (.int p4), (.int p5), (.int p6)] maxLocals)) t := by
            intro t k
            refine g143 t ?_
            show Steps p.tables e below (T136.setTop (mkF m 222 #[.val (.int p1), .val (.long q2), .second, .val (.long q3), .second, .val (.int p4), .val (.int p5), .val (.int p6), .val (.long ka), .second, .val (.long kb), .second, .val (.int pa), .val (.int pb), .val (.int ps), .val (.ref b10), .val (.ref b17), .val (.ref b26), .val (.ref b38), .val (.ref b50), .val (.int u1), .val (.int u2), .val (.ref b68), .unset, .unset] [(.int (lcmpW kb ka))])) _
            refine XS.ifNo X136.here hx rfl (hb hby at_222) rfl ((if0 _ _).trans (teq ((lw_eq _ _).mpr hc142)).2) ?_
            refine XS.iload X136.here hx rfl (hb hby at_225) rfl ?_
            refine XS.iload X136.here hx rfl (hb hby at_227) rfl ?_
            exact k
          by_cases hc144 : pa < pb
          · have o146 : Old Z n0 T136.heap := (Old.keep o123 K136 (allS gz_b68 all0))
            obtain ⟨cq147, kq147, q147a, q147b, q147c⟩ := isOf hZ rfl Q136_0
            obtain ⟨_, _, ⟨T147, L147, k147, n147⟩, -, X147, ⟨Lc147, hQ147, l147, y147, z147⟩, st147⟩ := X136.virtualBack hx (y := own_y27) (z := own_y27) hown (mvT hZ (own_w hw 171 rfl)) (mvT hZ (own_w hw 172 rfl)) (notFace_of_selects (args := #[]) (mvT hZ (own_w hw 174 rfl))) (mvT hZ (own_w hw 174 rfl)) (mvT hZ (own_w hw 173 rfl)) (by decide) (backOf (W := 0) (rmA43 l Z a0 hw [] b68 b26 b50 b10  cs wf T136.heap n0 o146 G0 Q136_0 Q136_2 Q136_1  ) hZ (own_w hw 175 rfl) (own_w hw 119 rfl) (by decide) (by decide)) q147a q147c (g := (mkF m 281 #[.val (.int p1), .val (.long q2), .second, .val (.long q3), .second, .val (.int p4), .val (.int p5), .val (.int p6), .val (.long ka), .second, .val (.long kb), .second, .val (.int pa), .val (.int pb), .val (.int ps), .val (.ref b10), .val (.ref b17), .val (.ref b26), .val (.ref b38), .val (.ref b50), .val (.int u1), .val (.int u2), .val (.ref b68), .val (.int (1 : Int32)), .val (.ref b26)] [(.ref b10), (.ref b68)])) rfl (by rw [hml]; rfl) (Steps.refl _) (argsL := [(.ref b10)]) (rest := []) (lenOf own_pd18 rfl) rfl (by show 2 * 0 + _ ≤ _; exact Nat.le_of_eq rfl) (hb hby at_281) (fun _ _ => ⟨rfl, rfl, (by decide : 26 + 0 ≤ _), (by decide : 194 + 0 ≤ _)⟩)
            dsimp only [Pt.U, Pt.locs, Pt.cells, Pt.slots] at X147 l147 y147 z147 st147 hQ147
            subst l147 y147 z147
            obtain ⟨rfl, Nq147, e147⟩ := hQ147
            have N147 := Fr.app N136 Nq147
            have g148 : ∀ t, Steps p.tables e below (T147.setTop (mkF m 294 #[.val (.int p1), .val (.long q2), .second, .val (.long q3), .second, .val (.int p4), .val (.int p5), .val (.int p6), .val (.long ka), .second, .val (.long kb), .second, .val (.int pa), .val (.int pb), .val (.int ps), .val (.ref b10), .val (.ref b17), .val (.ref b26), .val (.ref b38), .val (.ref b50), .val (.int u1), .val (.int u2), .val (.ref b68), .val (.int (1 : Int32)), .val (.ref b26)] [(.int (1 : Int32))])) t → Steps p.tables e below (s₁.setTop (entryFrame m #[(.int p1), (.long q2), (.long q3), (.int p4), (.int p5), (.int p6)] maxLocals)) t := by
              intro t k
              refine g145 t ?_
              show Steps p.tables e below (T136.setTop (mkF m 229 #[.val (.int p1), .val (.long q2), .second, .val (.long q3), .second, .val (.int p4), .val (.int p5), .val (.int p6), .val (.long ka), .second, .val (.long kb), .second, .val (.int pa), .val (.int pb), .val (.int ps), .val (.ref b10), .val (.ref b17), .val (.ref b26), .val (.ref b38), .val (.ref b50), .val (.int u1), .val (.int u2), .val (.ref b68), .unset, .unset] [(.int pa), (.int pb)])) _
              refine XS.icmpNo X136.here hx rfl (hb hby at_229) rfl (tlt hc144).2.2.2 ?_
              refine XS.iconst X136.here hx rfl (hb hby at_232) ?_
              refine XS.goto X136.here hx rfl (pc0 := 233) (pc' := 237) rfl (hb hby at_233) (by decide) (by decide) ?_
              refine XS.istore X136.here hx rfl (hb hby at_237) rfl (l' := #[.val (.int p1), .val (.long q2), .second, .val (.long q3), .second, .val (.int p4), .val (.int p5), .val (.int p6), .val (.long ka), .second, .val (.long kb), .second, .val (.int pa), .val (.int pb), .val (.int ps), .val (.ref b10), .val (.ref b17), .val (.ref b26), .val (.ref b38), .val (.ref b50), .val (.int u1), .val (.int u2), .val (.ref b68), .val (.int (1 : Int32)), .unset]) rfl ?_
              refine XS.iload X136.here hx rfl (hb hby at_239) rfl ?_
              refine XS.ifNo X136.here hx rfl (hb hby at_241) rfl ((if0 _ _).trans (feq hc83).1) ?_
              show Steps p.tables e below (T136.setTop (mkF m 244 #[.val (.int p1), .val (.long q2), .second, .val (.long q3), .second, .val (.int p4), .val (.int p5), .val (.int p6), .val (.long ka), .second, .val (.long kb), .second, .val (.int pa), .val (.int pb), .val (.int ps), .val (.ref b10), .val (.ref b17), .val (.ref b26), .val (.ref b38), .val (.ref b50), .val (.int u1), .val (.int u2), .val (.ref b68), .val (.int (1 : Int32)), .unset] [])) _
              refine XS.iload X136.here hx rfl (hb hby at_244) rfl ?_
              refine XS.ifYes X136.here hx rfl (pc0 := 246) (pc' := 254) rfl (hb hby at_246) rfl ((if0 _ _).trans (teq hc81).1) (by decide) (by decide) ?_
              refine XS.aload X136.here hx rfl (hb hby at_254) rfl rfl ?_
              refine XS.astore X136.here hx rfl (hb hby at_256) rfl rfl (l' := #[.val (.int p1), .val (.long q2), .second, .val (.long q3), .second, .val (.int p4), .val (.int p5), .val (.int p6), .val (.long ka), .second, .val (.long kb), .second, .val (.int pa), .val (.int pb), .val (.int ps), .val (.ref b10), .val (.ref b17), .val (.ref b26), .val (.ref b38), .val (.ref b50), .val (.int u1), .val (.int u2), .val (.ref b68), .val (.int (1 : Int32)), .val (.ref b26)]) rfl ?_
              refine XS.goto X136.here hx rfl (pc0 := 258) (pc' := 277) rfl (hb hby at_258) (by decide) (by decide) ?_
              refine XS.aload X136.here hx rfl (hb hby at_277) rfl rfl ?_
              show Steps p.tables e below (T136.setTop (mkF m 279 #[.val (.int p1), .val (.long q2), .second, .val (.long q3), .second, .val (.int p4), .val (.int p5), .val (.int p6), .val (.long ka), .second, .val (.long kb), .second, .val (.int pa), .val (.int pb), .val (.int ps), .val (.ref b10), .val (.ref b17), .val (.ref b26), .val (.ref b38), .val (.ref b50), .val (.int u1), .val (.int u2), .val (.ref b68), .val (.int (1 : Int32)), .val (.ref b26)] [(.ref b68)])) _
              refine XS.aload X136.here hx rfl (hb hby at_279) rfl rfl ?_
              refine st147.trans ?_
              refine XS.aload X147.here hx rfl (hb hby at_284) rfl rfl ?_
              refine Jvm.RoadKit.acmp (g := (mkF m 286 #[.val (.int p1), .val (.long q2), .second, .val (.long q3), .second, .val (.int p4), .val (.int p5), .val (.int p6), .val (.long ka), .second, .val (.long kb), .second, .val (.int pa), .val (.int pb), .val (.int ps), .val (.ref b10), .val (.ref b17), .val (.ref b26), .val (.ref b38), .val (.ref b50), .val (.int u1), .val (.int u2), .val (.ref b68), .val (.int (1 : Int32)), .val (.ref b26)] [(.ref b26), (.ref b26)])) X147 hx rfl rfl rfl (pc0 := 286) (pc' := 289) (same := true) rfl (hb hby at_286) rfl (decide_eq_true rfl) (by decide) (by decide) ?_
              refine XS.iconst X147.here hx rfl (hb hby at_289) ?_
              refine XS.goto X147.here hx rfl (pc0 := 290) (pc' := 294) rfl (hb hby at_290) (by decide) (by decide) ?_
              exact k
            obtain ⟨fs, hrt, hrun, hended, hRW⟩ := X147.leaveW hS (by rw [e147]; exact hk) (v := some (.int (1 : Int32))) (fun h => by rw [Bd.returns] at h; cases h)
            refine ⟨_, _, g148 _ ?_, hrun, hended, _, _, rfl, ?_, ?_, hRW.1, hRW.2.1, hRW.2.2.1, hRW.2.2.2.mono (by decide) (by decide)⟩
            · show Steps p.tables e below (T147.setTop (mkF m 294 #[.val (.int p1), .val (.long q2), .second, .val (.long q3), .second, .val (.int p4), .val (.int p5), .val (.int p6), .val (.long ka), .second, .val (.long kb), .second, .val (.int pa), .val (.int pb), .val (.int ps), .val (.ref b10), .val (.ref b17), .val (.ref b26), .val (.ref b38), .val (.ref b50), .val (.int u1), .val (.int u2), .val (.ref b68), .val (.int (1 : Int32)), .val (.ref b26)] [(.int (1 : Int32))])) _
              exact retN X147 hx (t := .boolean) Bd.returns (by simp) (hb hby at_294) hrt
            · show own_Q_rm0 Z p1 q2 q3 p4 p5 p6 cs wf h0 n0 _ T147.heap _
              rw [e147]
              exact ⟨rfl, N147⟩
            · rw [hh]
              show CHr Z own_EL s.vm h0 T147.vm T147.heap
              rw [e147]
              exact hC.trans (CHv.at X147 hZ (own_EW hw) hC.1)
          · have o149 : Old Z n0 T136.heap := (Old.keep o123 K136 (allS gz_b68 all0))
            obtain ⟨cq150, kq150, q150a, q150b, q150c⟩ := isOf hZ rfl Q136_0
            obtain ⟨_, _, ⟨T150, L150, k150, n150⟩, -, X150, ⟨Lc150, hQ150, l150, y150, z150⟩, st150⟩ := X136.virtualBack hx (y := own_y27) (z := own_y27) hown (mvT hZ (own_w hw 171 rfl)) (mvT hZ (own_w hw 172 rfl)) (notFace_of_selects (args := #[]) (mvT hZ (own_w hw 174 rfl))) (mvT hZ (own_w hw 174 rfl)) (mvT hZ (own_w hw 173 rfl)) (by decide) (backOf (W := 0) (rmA43 l Z a0 hw [] b68 b26 b50 b10  cs wf T136.heap n0 o149 G0 Q136_0 Q136_2 Q136_1  ) hZ (own_w hw 175 rfl) (own_w hw 119 rfl) (by decide) (by decide)) q150a q150c (g := (mkF m 281 #[.val (.int p1), .val (.long q2), .second, .val (.long q3), .second, .val (.int p4), .val (.int p5), .val (.int p6), .val (.long ka), .second, .val (.long kb), .second, .val (.int pa), .val (.int pb), .val (.int ps), .val (.ref b10), .val (.ref b17), .val (.ref b26), .val (.ref b38), .val (.ref b50), .val (.int u1), .val (.int u2), .val (.ref b68), .val (.int (0 : Int32)), .val (.ref b26)] [(.ref b10), (.ref b68)])) rfl (by rw [hml]; rfl) (Steps.refl _) (argsL := [(.ref b10)]) (rest := []) (lenOf own_pd18 rfl) rfl (by show 2 * 0 + _ ≤ _; exact Nat.le_of_eq rfl) (hb hby at_281) (fun _ _ => ⟨rfl, rfl, (by decide : 26 + 0 ≤ _), (by decide : 194 + 0 ≤ _)⟩)
            dsimp only [Pt.U, Pt.locs, Pt.cells, Pt.slots] at X150 l150 y150 z150 st150 hQ150
            subst l150 y150 z150
            obtain ⟨rfl, Nq150, e150⟩ := hQ150
            have N150 := Fr.app N136 Nq150
            have g151 : ∀ t, Steps p.tables e below (T150.setTop (mkF m 294 #[.val (.int p1), .val (.long q2), .second, .val (.long q3), .second, .val (.int p4), .val (.int p5), .val (.int p6), .val (.long ka), .second, .val (.long kb), .second, .val (.int pa), .val (.int pb), .val (.int ps), .val (.ref b10), .val (.ref b17), .val (.ref b26), .val (.ref b38), .val (.ref b50), .val (.int u1), .val (.int u2), .val (.ref b68), .val (.int (0 : Int32)), .val (.ref b26)] [(.int (1 : Int32))])) t → Steps p.tables e below (s₁.setTop (entryFrame m #[(.int p1), (.long q2), (.long q3), (.int p4), (.int p5), (.int p6)] maxLocals)) t := by
              intro t k
              refine g145 t ?_
              show Steps p.tables e below (T136.setTop (mkF m 229 #[.val (.int p1), .val (.long q2), .second, .val (.long q3), .second, .val (.int p4), .val (.int p5), .val (.int p6), .val (.long ka), .second, .val (.long kb), .second, .val (.int pa), .val (.int pb), .val (.int ps), .val (.ref b10), .val (.ref b17), .val (.ref b26), .val (.ref b38), .val (.ref b50), .val (.int u1), .val (.int u2), .val (.ref b68), .unset, .unset] [(.int pa), (.int pb)])) _
              refine XS.icmpYes X136.here hx rfl (pc0 := 229) (pc' := 236) rfl (hb hby at_229) rfl (flt hc144).2.2.2 (by decide) (by decide) ?_
              refine XS.iconst X136.here hx rfl (hb hby at_236) ?_
              refine XS.istore X136.here hx rfl (hb hby at_237) rfl (l' := #[.val (.int p1), .val (.long q2), .second, .val (.long q3), .second, .val (.int p4), .val (.int p5), .val (.int p6), .val (.long ka), .second, .val (.long kb), .second, .val (.int pa), .val (.int pb), .val (.int ps), .val (.ref b10), .val (.ref b17), .val (.ref b26), .val (.ref b38), .val (.ref b50), .val (.int u1), .val (.int u2), .val (.ref b68), .val (.int (0 : Int32)), .unset]) rfl ?_
              refine XS.iload X136.here hx rfl (hb hby at_239) rfl ?_
              refine XS.ifNo X136.here hx rfl (hb hby at_241) rfl ((if0 _ _).trans (feq hc83).1) ?_
              refine XS.iload X136.here hx rfl (hb hby at_244) rfl ?_
              show Steps p.tables e below (T136.setTop (mkF m 246 #[.val (.int p1), .val (.long q2), .second, .val (.long q3), .second, .val (.int p4), .val (.int p5), .val (.int p6), .val (.long ka), .second, .val (.long kb), .second, .val (.int pa), .val (.int pb), .val (.int ps), .val (.ref b10), .val (.ref b17), .val (.ref b26), .val (.ref b38), .val (.ref b50), .val (.int u1), .val (.int u2), .val (.ref b68), .val (.int (0 : Int32)), .unset] [(.int u1)])) _
              refine XS.ifYes X136.here hx rfl (pc0 := 246) (pc' := 254) rfl (hb hby at_246) rfl ((if0 _ _).trans (teq hc81).1) (by decide) (by decide) ?_
              refine XS.aload X136.here hx rfl (hb hby at_254) rfl rfl ?_
              refine XS.astore X136.here hx rfl (hb hby at_256) rfl rfl (l' := #[.val (.int p1), .val (.long q2), .second, .val (.long q3), .second, .val (.int p4), .val (.int p5), .val (.int p6), .val (.long ka), .second, .val (.long kb), .second, .val (.int pa), .val (.int pb), .val (.int ps), .val (.ref b10), .val (.ref b17), .val (.ref b26), .val (.ref b38), .val (.ref b50), .val (.int u1), .val (.int u2), .val (.ref b68), .val (.int (0 : Int32)), .val (.ref b26)]) rfl ?_
              refine XS.goto X136.here hx rfl (pc0 := 258) (pc' := 277) rfl (hb hby at_258) (by decide) (by decide) ?_
              refine XS.aload X136.here hx rfl (hb hby at_277) rfl rfl ?_
              refine XS.aload X136.here hx rfl (hb hby at_279) rfl rfl ?_
              show Steps p.tables e below (T136.setTop (mkF m 281 #[.val (.int p1), .val (.long q2), .second, .val (.long q3), .second, .val (.int p4), .val (.int p5), .val (.int p6), .val (.long ka), .second, .val (.long kb), .second, .val (.int pa), .val (.int pb), .val (.int ps), .val (.ref b10), .val (.ref b17), .val (.ref b26), .val (.ref b38), .val (.ref b50), .val (.int u1), .val (.int u2), .val (.ref b68), .val (.int (0 : Int32)), .val (.ref b26)] [(.ref b10), (.ref b68)])) _
              refine st150.trans ?_
              refine XS.aload X150.here hx rfl (hb hby at_284) rfl rfl ?_
              refine Jvm.RoadKit.acmp (g := (mkF m 286 #[.val (.int p1), .val (.long q2), .second, .val (.long q3), .second, .val (.int p4), .val (.int p5), .val (.int p6), .val (.long ka), .second, .val (.long kb), .second, .val (.int pa), .val (.int pb), .val (.int ps), .val (.ref b10), .val (.ref b17), .val (.ref b26), .val (.ref b38), .val (.ref b50), .val (.int u1), .val (.int u2), .val (.ref b68), .val (.int (0 : Int32)), .val (.ref b26)] [(.ref b26), (.ref b26)])) X150 hx rfl rfl rfl (pc0 := 286) (pc' := 289) (same := true) rfl (hb hby at_286) rfl (decide_eq_true rfl) (by decide) (by decide) ?_
              refine XS.iconst X150.here hx rfl (hb hby at_289) ?_
              refine XS.goto X150.here hx rfl (pc0 := 290) (pc' := 294) rfl (hb hby at_290) (by decide) (by decide) ?_
              exact k
            obtain ⟨fs, hrt, hrun, hended, hRW⟩ := X150.leaveW hS (by rw [e150]; exact hk) (v := some (.int (1 : Int32))) (fun h => by rw [Bd.returns] at h; cases h)
            refine ⟨_, _, g151 _ ?_, hrun, hended, _, _, rfl, ?_, ?_, hRW.1, hRW.2.1, hRW.2.2.1, hRW.2.2.2.mono (by decide) (by decide)⟩
            · show Steps p.tables e below (T150.setTop (mkF m 294 #[.val (.int p1), .val (.long q2), .second, .val (.long q3), .second, .val (.int p4), .val (.int p5), .val (.int p6), .val (.long ka), .second, .val (.long kb), .second, .val (.int pa), .val (.int pb), .val (.int ps), .val (.ref b10), .val (.ref b17), .val (.ref b26), .val (.ref b38), .val (.ref b50), .val (.int u1), .val (.int u2), .val (.ref b68), .val (.int (0 : Int32)), .val (.ref b26)] [(.int (1 : Int32))])) _
              exact retN X150 hx (t := .boolean) Bd.returns (by simp) (hb hby at_294) hrt
            · show own_Q_rm0 Z p1 q2 q3 p4 p5 p6 cs wf h0 n0 _ T150.heap _
              rw [e150]
              exact ⟨rfl, N150⟩
            · rw [hh]
              show CHr Z own_EL s.vm h0 T150.vm T150.heap
              rw [e150]
              exact hC.trans (CHv.at X150 hZ (own_EW hw) hC.1)
        · have o152 : Old Z n0 T136.heap := (Old.keep o123 K136 (allS gz_b68 all0))
          obtain ⟨cq153, kq153, q153a, q153b, q153c⟩ := isOf hZ rfl Q136_0
          obtain ⟨_, _, ⟨T153, L153, k153, n153⟩, -, X153, ⟨Lc153, hQ153, l153, y153, z153⟩, st153⟩ := X136.virtualBack hx (y := own_y27) (z := own_y27) hown (mvT hZ (own_w hw 171 rfl)) (mvT hZ (own_w hw 172 rfl)) (notFace_of_selects (args := #[]) (mvT hZ (own_w hw 174 rfl))) (mvT hZ (own_w hw 174 rfl)) (mvT hZ (own_w hw 173 rfl)) (by decide) (backOf (W := 0) (rmA43 l Z a0 hw [] b68 b26 b50 b10  cs wf T136.heap n0 o152 G0 Q136_0 Q136_2 Q136_1  ) hZ (own_w hw 175 rfl) (own_w hw 119 rfl) (by decide) (by decide)) q153a q153c (g := (mkF m 281 #[.val (.int p1), .val (.long q2), .second, .val (.long q3), .second, .val (.int p4), .val (.int p5), .val (.int p6), .val (.long ka), .second, .val (.long kb), .second, .val (.int pa), .val (.int pb), .val (.int ps), .val (.ref b10), .val (.ref b17), .val (.ref b26), .val (.ref b38), .val (.ref b50), .val (.int u1), .val (.int u2), .val (.ref b68), .val (.int (0 : Int32)), .val (.ref b26)] [(.ref b10), (.ref b68)])) rfl (by rw [hml]; rfl) (Steps.refl _) (argsL := [(.ref b10)]) (rest := []) (lenOf own_pd18 rfl) rfl (by show 2 * 0 + _ ≤ _; exact Nat.le_of_eq rfl) (hb hby at_281) (fun _ _ => ⟨rfl, rfl, (by decide : 26 + 0 ≤ _), (by decide : 194 + 0 ≤ _)⟩)
          dsimp only [Pt.U, Pt.locs, Pt.cells, Pt.slots] at X153 l153 y153 z153 st153 hQ153
          subst l153 y153 z153
          obtain ⟨rfl, Nq153, e153⟩ := hQ153
          have N153 := Fr.app N136 Nq153
          have g154 : ∀ t, Steps p.tables e below (T153.setTop (mkF m 294 #[.val (.int p1), .val (.long q2), .second, .val (.long q3), .second, .val (.int p4), .val (.int p5), .val (.int p6), .val (.long ka), .second, .val (.long kb), .second, .val (.int pa), .val (.int pb), .val (.int ps), .val (.ref b10), .val (.ref b17), .val (.ref b26), .val (.ref b38), .val (.ref b50), .val (.int u1), .val (.int u2), .val (.ref b68), .val (.int (0 : Int32)), .val (.ref b26)] [(.int (1 : Int32))])) t → Steps p.tables e below (s₁.setTop (entryFrame m #[(.int p1), (.long q2), (.long q3), (.int p4), (.int p5), (.int p6)] maxLocals)) t := by
            intro t k
            refine g143 t ?_
            show Steps p.tables e below (T136.setTop (mkF m 222 #[.val (.int p1), .val (.long q2), .second, .val (.long q3), .second, .val (.int p4), .val (.int p5), .val (.int p6), .val (.long ka), .second, .val (.long kb), .second, .val (.int pa), .val (.int pb), .val (.int ps), .val (.ref b10), .val (.ref b17), .val (.ref b26), .val (.ref b38), .val (.ref b50), .val (.int u1), .val (.int u2), .val (.ref b68), .unset, .unset] [(.int (lcmpW kb ka))])) _
            refine XS.ifYes X136.here hx rfl (pc0 := 222) (pc' := 236) rfl (hb hby at_222) rfl ((if0 _ _).trans (feq (fun q => hc142 ((lw_eq _ _).mp q))).2) (by decide) (by decide) ?_
            refine XS.iconst X136.here hx rfl (hb hby at_236) ?_
            refine XS.istore X136.here hx rfl (hb hby at_237) rfl (l' := #[.val (.int p1), .val (.long q2), .second, .val (.long q3), .second, .val (.int p4), .val (.int p5), .val (.int p6), .val (.long ka), .second, .val (.long kb), .second, .val (.int pa), .val (.int pb), .val (.int ps), .val (.ref b10), .val (.ref b17), .val (.ref b26), .val (.ref b38), .val (.ref b50), .val (.int u1), .val (.int u2), .val (.ref b68), .val (.int (0 : Int32)), .unset]) rfl ?_
            refine XS.iload X136.here hx rfl (hb hby at_239) rfl ?_
            refine XS.ifNo X136.here hx rfl (hb hby at_241) rfl ((if0 _ _).trans (feq hc83).1) ?_
            refine XS.iload X136.here hx rfl (hb hby at_244) rfl ?_
            show Steps p.tables e below (T136.setTop (mkF m 246 #[.val (.int p1), .val (.long q2), .second, .val (.long q3), .second, .val (.int p4), .val (.int p5), .val (.int p6), .val (.long ka), .second, .val (.long kb), .second, .val (.int pa), .val (.int pb), .val (.int ps), .val (.ref b10), .val (.ref b17), .val (.ref b26), .val (.ref b38), .val (.ref b50), .val (.int u1), .val (.int u2), .val (.ref b68), .val (.int (0 : Int32)), .unset] [(.int u1)])) _
            refine XS.ifYes X136.here hx rfl (pc0 := 246) (pc' := 254) rfl (hb hby at_246) rfl ((if0 _ _).trans (teq hc81).1) (by decide) (by decide) ?_
            refine XS.aload X136.here hx rfl (hb hby at_254) rfl rfl ?_
            refine XS.astore X136.here hx rfl (hb hby at_256) rfl rfl (l' := #[.val (.int p1), .val (.long q2), .second, .val (.long q3), .second, .val (.int p4), .val (.int p5), .val (.int p6), .val (.long ka), .second, .val (.long kb), .second, .val (.int pa), .val (.int pb), .val (.int ps), .val (.ref b10), .val (.ref b17), .val (.ref b26), .val (.ref b38), .val (.ref b50), .val (.int u1), .val (.int u2), .val (.ref b68), .val (.int (0 : Int32)), .val (.ref b26)]) rfl ?_
            refine XS.goto X136.here hx rfl (pc0 := 258) (pc' := 277) rfl (hb hby at_258) (by decide) (by decide) ?_
            refine XS.aload X136.here hx rfl (hb hby at_277) rfl rfl ?_
            refine XS.aload X136.here hx rfl (hb hby at_279) rfl rfl ?_
            show Steps p.tables e below (T136.setTop (mkF m 281 #[.val (.int p1), .val (.long q2), .second, .val (.long q3), .second, .val (.int p4), .val (.int p5), .val (.int p6), .val (.long ka), .second, .val (.long kb), .second, .val (.int pa), .val (.int pb), .val (.int ps), .val (.ref b10), .val (.ref b17), .val (.ref b26), .val (.ref b38), .val (.ref b50), .val (.int u1), .val (.int u2), .val (.ref b68), .val (.int (0 : Int32)), .val (.ref b26)] [(.ref b10), (.ref b68)])) _
            refine st153.trans ?_
            refine XS.aload X153.here hx rfl (hb hby at_284) rfl rfl ?_
            refine Jvm.RoadKit.acmp (g := (mkF m 286 #[.val (.int p1), .val (.long q2), .second, .val (.long q3), .second, .val (.int p4), .val (.int p5), .val (.int p6), .val (.long ka), .second, .val (.long kb), .second, .val (.int pa), .val (.int pb), .val (.int ps), .val (.ref b10), .val (.ref b17), .val (.ref b26), .val (.ref b38), .val (.ref b50), .val (.int u1), .val (.int u2), .val (.ref b68), .val (.int (0 : Int32)), .val (.ref b26)] [(.ref b26), (.ref b26)])) X153 hx rfl rfl rfl (pc0 := 286) (pc' := 289) (same := true) rfl (hb hby at_286) rfl (decide_eq_true rfl) (by decide) (by decide) ?_
            refine XS.iconst X153.here hx rfl (hb hby at_289) ?_
            refine XS.goto X153.here hx rfl (pc0 := 290) (pc' := 294) rfl (hb hby at_290) (by decide) (by decide) ?_
            exact k
          obtain ⟨fs, hrt, hrun, hended, hRW⟩ := X153.leaveW hS (by rw [e153]; exact hk) (v := some (.int (1 : Int32))) (fun h => by rw [Bd.returns] at h; cases h)
          refine ⟨_, _, g154 _ ?_, hrun, hended, _, _, rfl, ?_, ?_, hRW.1, hRW.2.1, hRW.2.2.1, hRW.2.2.2.mono (by decide) (by decide)⟩
          · show Steps p.tables e below (T153.setTop (mkF m 294 #[.val (.int p1), .val (.long q2), .second, .val (.long q3), .second, .val (.int p4), .val (.int p5), .val (.int p6), .val (.long ka), .second, .val (.long kb), .second, .val (.int pa), .val (.int pb), .val (.int ps), .val (.ref b10), .val (.ref b17), .val (.ref b26), .val (.ref b38), .val (.ref b50), .val (.int u1), .val (.int u2), .val (.ref b68), .val (.int (0 : Int32)), .val (.ref b26)] [(.int (1 : Int32))])) _
            exact retN X153 hx (t := .boolean) Bd.returns (by simp) (hb hby at_294) hrt
          · show own_Q_rm0 Z p1 q2 q3 p4 p5 p6 cs wf h0 n0 _ T153.heap _
            rw [e153]
            exact ⟨rfl, N153⟩
          · rw [hh]
            show CHr Z own_EL s.vm h0 T153.vm T153.heap
            rw [e153]
            exact hC.trans (CHv.at X153 hZ (own_EW hw) hC.1)
  · by_cases hc155 : u2 = (0 : Int32)
    · have f156 := ((f78.ext E68).keep K80)
      have f157 := ((((Q49_1.ext E50).keep K61 (ninS ne_b38_b50 nin0)).ext E68).keep K80 (ninS ne_b38_b68 nin0))
      have f158 := ((f74.ext E68).keep K80)
      have f159 := ((f70.ext E68).keep K80)
      have f160 := ((((((((((Fc20.keep K25 (ninS (Exa.ne Ex20 f21 (by decide)) nin0)).ext E26).ext E32).keep K37 (ninS ne_a20_b26 nin0)).ext E38).keep K49 (ninS ne_a20_b38 nin0)).ext E50).keep K61 (ninS ne_a20_b50 nin0)).ext E68).keep K80 (ninS ne_a20_b68 nin0))
      have f161 := ((f75.ext E68).keep K80 (ninS ne_b20_b68 nin0))
      have f162 := ((((((((((Fv20.keep K25 (ninS (Exa.ne Ex20 f21 (by decide)) nin0)).ext E26).ext E32).keep K37 (ninS ne_a20_b26 nin0)).ext E38).keep K49 (ninS ne_a20_b38 nin0)).ext E50).keep K61 (ninS ne_a20_b50 nin0)).ext E68).keep K80 (ninS ne_a20_b68 nin0))
      have f163 := (((((((((Q25_1.ext E26).ext E32).keep K37 (ninS ne_b17_b26 nin0)).ext E38).keep K49 (ninS ne_b17_b38 nin0)).ext E50).keep K61 (ninS ne_b17_b50 nin0)).ext E68).keep K80 (ninS ne_b17_b68 nin0))
      have f164 := (((((((((Q25_2.ext E26).ext E32).keep K37 (ninS ne_b17_b26 nin0)).ext E38).keep K49 (ninS ne_b17_b38 nin0)).ext E50).keep K61 (ninS ne_b17_b50 nin0)).ext E68).keep K80 (ninS ne_b17_b68 nin0))
      have f165 := ((((Q49_2.ext E50).keep K61 (ninS ne_b38_b50 nin0)).ext E68).keep K80 (ninS ne_b38_b68 nin0))
      have o166 : Old Z n0 T80.heap := (Old.keep o79 K80 (allS gz_b68 all0))
      obtain ⟨cq167, kq167, q167a, q167b, q167c⟩ := isOf hZ rfl Q80_0
      obtain ⟨_, _, ⟨T167, L167, k167, n167⟩, -, X167, ⟨Lc167, hQ167, l167, y167, z167⟩, st167⟩ := X80.virtualBack hx (y := own_y26) (z := own_y26) hown (mvT hZ (own_w hw 166 rfl)) (mvT hZ (own_w hw 167 rfl)) (notFace_of_selects (args := #[]) (mvT hZ (own_w hw 169 rfl))) (mvT hZ (own_w hw 169 rfl)) (mvT hZ (own_w hw 168 rfl)) (by decide) (backOf (W := 0) (rmA42 l Z a0 hw [] b68 b38 (ka) b17 a20 b20 ka20 (pa)  cs wf T80.heap n0 o166 G0 Q80_0 Q80_2 Q80_1 f156 f157 f158 f159 f160 f161 f162 f163 f164 f165 gz_b68 ) hZ (own_w hw 170 rfl) (own_w hw 119 rfl) (by decide) (by decide)) q167a q167c (g := (mkF m 188 #[.val (.int p1), .val (.long q2), .second, .val (.long q3), .second, .val (.int p4), .val (.int p5), .val (.int p6), .val (.long ka), .second, .val (.long kb), .second, .val (.int pa), .val (.int pb), .val (.int ps), .val (.ref b10), .val (.ref b17), .val (.ref b26), .val (.ref b38), .val (.ref b50), .val (.int u1), .val (.int u2), .val (.ref b68), .unset, .unset] [(.ref b17), (.ref b38), (.ref b68)])) rfl (by rw [hml]; rfl) (Steps.refl _) (argsL := [(.ref b38), (.ref b17)]) (rest := []) (lenOf own_pd17 rfl) rfl (by show 2 * 0 + _ ≤ _; exact Nat.le_of_eq rfl) (hb hby at_188) (fun _ _ => ⟨rfl, rfl, (by decide : 26 + 0 ≤ _), (by decide : 194 + 0 ≤ _)⟩)
      dsimp only [Pt.U, Pt.locs, Pt.cells, Pt.slots] at X167 l167 y167 z167 st167 hQ167
      subst l167 y167 z167
      obtain ⟨rfl, Nq167, K167, Q167_0, Q167_1, Q167_2⟩ := hQ167
      have hC := hC.trans (CHr.keep K167 (sfS (Safe.exa hZ.alike Q80_0 (by decide) (by decide)) sf0) hC.1)
      have hk := Nat.le_trans hk K167.1
      have N167 := Fr.app N80 Nq167
      obtain ⟨LL168, XL168, NL168⟩ : ∃ LL : List Loc, Stand p l e room_1 (s.setVm T61.vm) m #[(.int p1), (.long q2), (.long q3), (.int p4), (.int p5), (.int p6)] below meth c T167 LL 26 194 ∧ Fr n0 LL := ⟨_, X167, N167⟩
      have f169 := (f158.keep K167)
      have f170 := (f159.keep K167)
      have f171 := (f160.keep K167 (ninS ne_a20_b68 nin0))
      have f172 := (f161.keep K167 (ninS ne_b20_b68 nin0))
      have f173 := (f162.keep K167 (ninS ne_a20_b68 nin0))
      have f174 := (f163.keep K167 (ninS ne_b17_b68 nin0))
      have f175 := (f164.keep K167 (ninS ne_b17_b68 nin0))
      have f176 := (f156.keep K167)
      have f177 := (f157.keep K167 (ninS ne_b38_b68 nin0))
      have f178 := (f165.keep K167 (ninS ne_b38_b68 nin0))
      have f179 := (((f76.ext E68).keep K80).keep K167)
      have f180 := (((f71.ext E68).keep K80).keep K167)
      have f181 := ((((((((Fc32.keep K37 (ninS (Exa.ne Ex32 f33 (by decide)) nin0)).ext E38).keep K49 (ninS ne_a32_b38 nin0)).ext E50).keep K61 (ninS ne_a32_b50 nin0)).ext E68).keep K80 (ninS ne_a32_b68 nin0)).keep K167 (ninS ne_a32_b68 nin0))
      have f182 := (((f77.ext E68).keep K80 (ninS ne_b32_b68 nin0)).keep K167 (ninS ne_b32_b68 nin0))
      have f183 := ((((((((Fv32.keep K37 (ninS (Exa.ne Ex32 f33 (by decide)) nin0)).ext E38).keep K49 (ninS ne_a32_b38 nin0)).ext E50).keep K61 (ninS ne_a32_b50 nin0)).ext E68).keep K80 (ninS ne_a32_b68 nin0)).keep K167 (ninS ne_a32_b68 nin0))
      have f184 := (((((((Q37_1.ext E38).keep K49 (ninS ne_b26_b38 nin0)).ext E50).keep K61 (ninS ne_b26_b50 nin0)).ext E68).keep K80 (ninS ne_b26_b68 nin0)).keep K167 (ninS ne_b26_b68 nin0))
      have f185 := (((((((Q37_2.ext E38).keep K49 (ninS ne_b26_b38 nin0)).ext E50).keep K61 (ninS ne_b26_b50 nin0)).ext E68).keep K80 (ninS ne_b26_b68 nin0)).keep K167 (ninS ne_b26_b68 nin0))
      have o186 : Old Z n0 T167.heap := (Old.keep o166 K167 (allS gz_b68 all0))
      obtain ⟨cq187, kq187, q187a, q187b, q187c⟩ := isOf hZ rfl Q167_0
      obtain ⟨_, _, ⟨T187, L187, k187, n187⟩, -, X187, ⟨Lc187, hQ187, l187, y187, z187⟩, st187⟩ := XL168.virtualBack hx (y := own_y26) (z := own_y26) hown (mvT hZ (own_w hw 166 rfl)) (mvT hZ (own_w hw 167 rfl)) (notFace_of_selects (args := #[]) (mvT hZ (own_w hw 169 rfl))) (mvT hZ (own_w hw 169 rfl)) (mvT hZ (own_w hw 168 rfl)) (by decide) (backOf (W := 0) (rmA44 l Z a0 hw [] b68 b17 a20 b20 ka20 (pa) b38 (ka) b26 a32 b32 ka32 (pb)  cs wf T167.heap n0 o186 G0 Q167_0 f169 f170 f171 f172 f173 f174 f175 Q167_2 f176 f177 f178 Q167_1 f179 f180 f181 f182 f183 f184 f185  ) hZ (own_w hw 170 rfl) (own_w hw 119 rfl) (by decide) (by decide)) q187a q187c (g := (mkF m 206 #[.val (.int p1), .val (.long q2), .second, .val (.long q3), .second, .val (.int p4), .val (.int p5), .val (.int p6), .val (.long ka), .second, .val (.long kb), .second, .val (.int pa), .val (.int pb), .val (.int ps), .val (.ref b10), .val (.ref b17), .val (.ref b26), .val (.ref b38), .val (.ref b50), .val (.int u1), .val (.int u2), .val (.ref b68), .unset, .unset] [(.ref b26), .null, (.ref b68)])) rfl (by rw [hml]; rfl) (Steps.refl _) (argsL := [.null, (.ref b26)]) (rest := []) (lenOf own_pd17 rfl) rfl (by show 2 * 0 + _ ≤ _; exact Nat.le_of_eq rfl) (hb hby at_206) (fun _ _ => ⟨rfl, rfl, (by decide : 26 + 0 ≤ _), (by decide : 194 + 0 ≤ _)⟩)
      dsimp only [Pt.U, Pt.locs, Pt.cells, Pt.slots] at X187 l187 y187 z187 st187 hQ187
      subst l187 y187 z187
      obtain ⟨rfl, Nq187, e187⟩ := hQ187
      have N187 := Fr.app NL168 Nq187
      have g189 : ∀ t, Steps p.tables e below (T187.setTop (mkF m 214 #[.val (.int p1), .val (.long q2), .second, .val (.long q3), .second, .val (.int p4), .val (.int p5), .val (.int p6), .val (.long ka), .second, .val (.long kb), .second, .val (.int pa), .val (.int pb), .val (.int ps), .val (.ref b10), .val (.ref b17), .val (.ref b26), .val (.ref b38), .val (.ref b50), .val (.int u1), .val (.int u2), .val (.ref b68), .unset, .unset] [(.int (lcmpW kb ka))])) t → Steps p.tables e below (s₁.setTop (entryFrame m #[(.int p1), (.long q2), (.long q3), (.int p4), (.int p5), (.int p6)] maxLocals)) t := by
        intro t k
        refine g82 t ?_
        show Steps p.tables e below (T80.setTop (mkF m 173 #[.val (.int p1), .val (.long q2), .second, .val (.long q3), .second, .val (.int p4), .val (.int p5), .val (.int p6), .val (.long ka), .second, .val (.long kb), .second, .val (.int pa), .val (.int pb), .val (.int ps), .val (.ref b10), .val (.ref b17), .val (.ref b26), .val (.ref b38), .val (.ref b50), .val (.int u1), .val (.int u2), .val (.ref b68), .unset, .unset] [])) _
        refine XS.aload X80.here hx rfl (hb hby at_173) rfl rfl ?_
        refine XS.iload X80.here hx rfl (hb hby at_175) rfl ?_
        refine XS.ifNo X80.here hx rfl (hb hby at_177) rfl ((if0 _ _).trans (feq hc81).1) ?_
        refine XS.aload X80.here hx rfl (hb hby at_180) rfl rfl ?_
        refine XS.goto X80.here hx rfl (pc0 := 182) (pc' := 186) rfl (hb hby at_182) (by decide) (by decide) ?_
        refine XS.aload X80.here hx rfl (hb hby at_186) rfl rfl ?_
        show Steps p.tables e below (T80.setTop (mkF m 188 #[.val (.int p1), .val (.long q2), .second, .val (.long q3), .second, .val (.int p4), .val (.int p5), .val (.int p6), .val (.long ka), .second, .val (.long kb), .second, .val (.int pa), .val (.int pb), .val (.int ps), .val (.ref b10), .val (.ref b17), .val (.ref b26), .val (.ref b38), .val (.ref b50), .val (.int u1), .val (.int u2), .val (.ref b68), .unset, .unset] [(.ref b17), (.ref b38), (.ref b68)])) _
        refine st167.trans ?_
        refine XS.aload X167.here hx rfl (hb hby at_191) rfl rfl ?_
        refine XS.iload X167.here hx rfl (hb hby at_193) rfl ?_
        refine XS.ifYes X167.here hx rfl (pc0 := 195) (pc' := 203) rfl (hb hby at_195) rfl ((if0 _ _).trans (teq hc155).1) (by decide) (by decide) ?_
        refine XS.aconstNull X167.here hx rfl (hb hby at_203) ?_
        refine XS.aload X167.here hx rfl (hb hby at_204) rfl rfl ?_
        show Steps p.tables e below (T167.setTop (mkF m 206 #[.val (.int p1), .val (.long q2), .second, .val (.long q3), .second, .val (.int p4), .val (.int p5), .val (.int p6), .val (.long ka), .second, .val (.long kb), .second, .val (.int pa), .val (.int pb), .val (.int ps), .val (.ref b10), .val (.ref b17), .val (.ref b26), .val (.ref b38), .val (.ref b50), .val (.int u1), .val (.int u2), .val (.ref b68), .unset, .unset] [(.ref b26), .null, (.ref b68)])) _
        refine st187.trans ?_
        refine XS.lload X187.here hx rfl (hb hby at_209) rfl ?_
        refine XS.lload X187.here hx rfl (hb hby at_211) rfl ?_
        refine XS.lcmp X187.here hx rfl (hb hby at_213) rfl ?_
        exact k
      by_cases hc188 : ka < kb
      · obtain ⟨cq190, kq190, q190a, q190b, q190c⟩ := isOf hZ e187 Q167_0
        obtain ⟨_, _, ⟨T190, L190, k190, n190⟩, -, X190, ⟨Lc190, hQ190, l190, y190, z190⟩, st190⟩ := X187.virtualBack hx (y := own_y27) (z := own_y27) hown (mvT hZ (own_w hw 171 rfl)) (mvT hZ (own_w hw 172 rfl)) (notFace_of_selects (args := #[]) (mvT hZ (own_w hw 174 rfl))) (mvT hZ (own_w hw 174 rfl)) (mvT hZ (own_w hw 173 rfl)) (by decide) (backOf (W := 0) (rmA43 l Z a0 hw [] b68 b17 b38 b10  cs wf T167.heap n0 o186 G0 Q167_0 Q167_2 Q167_1  ) hZ (own_w hw 175 rfl) (own_w hw 119 rfl) (by decide) (by decide)) q190a q190c (g := (mkF m 281 #[.val (.int p1), .val (.long q2), .second, .val (.long q3), .second, .val (.int p4), .val (.int p5), .val (.int p6), .val (.long ka), .second, .val (.long kb), .second, .val (.int pa), .val (.int pb), .val (.int ps), .val (.ref b10), .val (.ref b17), .val (.ref b26), .val (.ref b38), .val (.ref b50), .val (.int u1), .val (.int u2), .val (.ref b68), .val (.int (1 : Int32)), .val (.ref b17)] [(.ref b10), (.ref b68)])) rfl (by rw [hml]; rfl) (Steps.refl _) (argsL := [(.ref b10)]) (rest := []) (lenOf own_pd18 rfl) rfl (by show 2 * 0 + _ ≤ _; exact Nat.le_of_eq rfl) (hb hby at_281) (fun _ _ => ⟨rfl, e187, (by decide : 26 + 0 ≤ _), (by decide : 194 + 0 ≤ _)⟩)
        dsimp only [Pt.U, Pt.locs, Pt.cells, Pt.slots] at X190 l190 y190 z190 st190 hQ190
        subst l190 y190 z190
        obtain ⟨rfl, Nq190, e190⟩ := hQ190
        have N190 := Fr.app N187 Nq190
        have g191 : ∀ t, Steps p.tables e below (T190.setTop (mkF m 294 #[.val (.int p1), .val (.long q2), .second, .val (.long q3), .second, .val (.int p4), .val (.int p5), .val (.int p6), .val (.long ka), .second, .val (.long kb), .second, .val (.int pa), .val (.int pb), .val (.int ps), .val (.ref b10), .val (.ref b17), .val (.ref b26), .val (.ref b38), .val (.ref b50), .val (.int u1), .val (.int u2), .val (.ref b68), .val (.int (1 : Int32)), .val (.ref b17)] [(.int (1 : Int32))])) t → Steps p.tables e below (s₁.setTop (entryFrame m #[(.int p1), (.long q2), (.long q3), (.int p4), (.int p5), (.int p6)] maxLocals)) t := by
          intro t k
          refine g189 t ?_
          show Steps p.tables e below (T187.setTop (mkF m 214 #[.val (.int p1), .val (.long q2), .second, .val (.long q3), .second, .val (.int p4), .val (.int p5), .val (.int p6), .val (.long ka), .second, .val (.long kb), .second, .val (.int pa), .val (.int pb), .val (.int ps), .val (.ref b10), .val (.ref b17), .val (.ref b26), .val (.ref b38), .val (.ref b50), .val (.int u1), .val (.int u2), .val (.ref b68), .unset, .unset] [(.int (lcmpW kb ka))])) _
          refine XS.ifYes X187.here hx rfl (pc0 := 214) (pc' := 232) rfl (hb hby at_214) rfl ((if0 _ _).trans (tlt ((lw_gt _ _).mpr hc188)).2.2.1) (by decide) (by decide) ?_
          refine XS.iconst X187.here hx rfl (hb hby at_232) ?_
          refine XS.goto X187.here hx rfl (pc0 := 233) (pc' := 237) rfl (hb hby at_233) (by decide) (by decide) ?_
          refine XS.istore X187.here hx rfl (hb hby at_237) rfl (l' := #[.val (.int p1), .val (.long q2), .second, .val (.long q3), .second, .val (.int p4), .val (.int p5), .val (.int p6), .val (.long ka), .second, .val (.long kb), .second, .val (.int pa), .val (.int pb), .val (.int ps), .val (.ref b10), .val (.ref b17), .val (.ref b26), .val (.ref b38), .val (.ref b50), .val (.int u1), .val (.int u2), .val (.ref b68), .val (.int (1 : Int32)), .unset]) rfl ?_
          refine XS.iload X187.here hx rfl (hb hby at_239) rfl ?_
          refine XS.ifYes X187.here hx rfl (pc0 := 241) (pc' := 261) rfl (hb hby at_241) rfl ((if0 _ _).trans (teq hc155).1) (by decide) (by decide) ?_
          show Steps p.tables e below (T187.setTop (mkF m 261 #[.val (.int p1), .val (.long q2), .second, .val (.long q3), .second, .val (.int p4), .val (.int p5), .val (.int p6), .val (.long ka), .second, .val (.long kb), .second, .val (.int pa), .val (.int pb), .val (.int ps), .val (.ref b10), .val (.ref b17), .val (.ref b26), .val (.ref b38), .val (.ref b50), .val (.int u1), .val (.int u2), .val (.ref b68), .val (.int (1 : Int32)), .unset] [])) _
          refine XS.iload X187.here hx rfl (hb hby at_261) rfl ?_
          refine XS.ifNo X187.here hx rfl (hb hby at_263) rfl ((if0 _ _).trans (feq hc81).1) ?_
          refine XS.aload X187.here hx rfl (hb hby at_266) rfl rfl ?_
          refine XS.astore X187.here hx rfl (hb hby at_268) rfl rfl (l' := #[.val (.int p1), .val (.long q2), .second, .val (.long q3), .second, .val (.int p4), .val (.int p5), .val (.int p6), .val (.long ka), .second, .val (.long kb), .second, .val (.int pa), .val (.int pb), .val (.int ps), .val (.ref b10), .val (.ref b17), .val (.ref b26), .val (.ref b38), .val (.ref b50), .val (.int u1), .val (.int u2), .val (.ref b68), .val (.int (1 : Int32)), .val (.ref b17)]) rfl ?_
          refine XS.goto X187.here hx rfl (pc0 := 270) (pc' := 277) rfl (hb hby at_270) (by decide) (by decide) ?_
          refine XS.aload X187.here hx rfl (hb hby at_277) rfl rfl ?_
          show Steps p.tables e below (T187.setTop (mkF m 279 #[.val (.int p1), .val (.long q2), .second, .val (.long q3), .second, .val (.int p4), .val (.int p5), .val (.int p6), .val (.long ka), .second, .val (.long kb), .second, .val (.int pa), .val (.int pb), .val (.int ps), .val (.ref b10), .val (.ref b17), .val (.ref b26), .val (.ref b38), .val (.ref b50), .val (.int u1), .val (.int u2), .val (.ref b68), .val (.int (1 : Int32)), .val (.ref b17)] [(.ref b68)])) _
          refine XS.aload X187.here hx rfl (hb hby at_279) rfl rfl ?_
          refine st190.trans ?_
          refine XS.aload X190.here hx rfl (hb hby at_284) rfl rfl ?_
          refine Jvm.RoadKit.acmp (g := (mkF m 286 #[.val (.int p1), .val (.long q2), .second, .val (.long q3), .second, .val (.int p4), .val (.int p5), .val (.int p6), .val (.long ka), .second, .val (.long kb), .second, .val (.int pa), .val (.int pb), .val (.int ps), .val (.ref b10), .val (.ref b17), .val (.ref b26), .val (.ref b38), .val (.ref b50), .val (.int u1), .val (.int u2), .val (.ref b68), .val (.int (1 : Int32)), .val (.ref b17)] [(.ref b17), (.ref b17)])) X190 hx rfl rfl rfl (pc0 := 286) (pc' := 289) (same := true) rfl (hb hby at_286) rfl (decide_eq_true rfl) (by decide) (by decide) ?_
          refine XS.iconst X190.here hx rfl (hb hby at_289) ?_
          refine XS.goto X190.here hx rfl (pc0 := 290) (pc' := 294) rfl (hb hby at_290) (by decide) (by decide) ?_
          exact k
        obtain ⟨fs, hrt, hrun, hended, hRW⟩ := X190.leaveW hS (by rw [e190]; exact hk) (v := some (.int (1 : Int32))) (fun h => by rw [Bd.returns] at h; cases h)
        refine ⟨_, _, g191 _ ?_, hrun, hended, _, _, rfl, ?_, ?_, hRW.1, hRW.2.1, hRW.2.2.1, hRW.2.2.2.mono (by decide) (by decide)⟩
        · show Steps p.tables e below (T190.setTop (mkF m 294 #[.val (.int p1), .val (.long q2), .second, .val (.long q3), .second, .val (.int p4), .val (.int p5), .val (.int p6), .val (.long ka), .second, .val (.long kb), .second, .val (.int pa), .val (.int pb), .val (.int ps), .val (.ref b10), .val (.ref b17), .val (.ref b26), .val (.ref b38), .val (.ref b50), .val (.int u1), .val (.int u2), .val (.ref b68), .val (.int (1 : Int32)), .val (.ref b17)] [(.int (1 : Int32))])) _
          exact retN X190 hx (t := .boolean) Bd.returns (by simp) (hb hby at_294) hrt
        · show own_Q_rm0 Z p1 q2 q3 p4 p5 p6 cs wf h0 n0 _ T190.heap _
          rw [e190]
          exact ⟨rfl, N190⟩
        · rw [hh]
          show CHr Z own_EL s.vm h0 T190.vm T190.heap
          rw [e190]
          exact hC.trans (CHv.at X190 hZ (own_EW hw) hC.1)
      · have g193 : ∀ t, Steps p.tables e below (T187.setTop (mkF m 222 #[.val (.int p1), .val (.long q2), .second, .val (.long q3), .second, .val (.int p4), .val (.int p5), .val (.int p6), .val (.long ka), .second, .val (.long kb), .second, .val (.int pa), .val (.int pb), .val (.int ps), .val (.ref b10), .val (.ref b17), .val (.ref b26), .val (.ref b38), .val (.ref b50), .val (.int u1), .val (.int u2), .val (.ref b68), .unset, .unset] [(.int (lcmpW kb ka))])) t → Steps p.tables e below (s₁.setTop (entryFrame m #[(.int p1), (.long q2), (.long q3), (.int p4), (.int p5), (.int p6)] maxLocals)) t := by
          intro t k
          refine g189 t ?_
          show Steps p.tables e below (T187.setTop (mkF m 214 #[.val (.int p1), .val (.long q2), .second, .val (.long q3), .second, .val (.int p4), .val (.int p5), .val (.int p6), .val (.long ka), .second, .val (.long kb), .second, .val (.int pa), .val (.int pb), .val (.int ps), .val (.ref b10), .val (.ref b17), .val (.ref b26), .val (.ref b38), .val (.ref b50), .val (.int u1), .val (.int u2), .val (.ref b68), .unset, .unset] [(.int (lcmpW kb ka))])) _
          refine XS.ifNo X187.here hx rfl (hb hby at_214) rfl ((if0 _ _).trans (flt (fun q => hc188 ((lw_gt _ _).mp q))).2.2.1) ?_
          refine XS.lload X187.here hx rfl (hb hby at_217) rfl ?_
          refine XS.lload X187.here hx rfl (hb hby at_219) rfl ?_
          refine XS.lcmp X187.here hx rfl (hb hby at_221) rfl ?_
          exact k
        by_cases hc192 : kb = ka
        · have g195 : ∀ t, Steps p.tables e below (T187.setTop (mkF m 229 #[.val (.int p1), .val (.long q2), .second, .val (.long q3), .second, .val (.int p4), .val (.int p5), .val (.int p6), .val (.long ka), .second, .val (.long kb), .second, .val (.int pa), .val (.int pb), .val (.int ps), .val (.ref b10), .val (.ref b17), .val (.ref b26), .val (.ref b38), .val (.ref b50), .val (.int u1), .val (.int u2), .val (.ref b68), .unset, .unset] [(.int pa), (.int pb)])) t → Steps p.tables e below (s₁.setTop (entryFrame m #[(.int p1), (.long q2), (.long q3), (.int p4), (.int p5), (.int p6)] maxLocals)) t := by
            intro t k
            refine g193 t ?_
            show Steps p.tables e below (T187.setTop (mkF m 222 #[.val (.int p1), .val (.long q2), .second, .val (.long q3), .second, .val (.int p4), .val (.int p5), .val (.int p6), .val (.long ka), .second, .val (.long kb), .second, .val (.int pa), .val (.int pb), .val (.int ps), .val (.ref b10), .val (.ref b17), .val (.ref b26), .val (.ref b38), .val (.ref b50), .val (.int u1), .val (.int u2), .val (.ref b68), .unset, .unset] [(.int (lcmpW kb ka))])) _
            refine XS.ifNo X187.here hx rfl (hb hby at_222) rfl ((if0 _ _).trans (teq ((lw_eq _ _).mpr hc192)).2) ?_
            refine XS.iload X187.here hx rfl (hb hby at_225) rfl ?_
            refine XS.iload X187.here hx rfl (hb hby at_227) rfl ?_
            exact k
          by_cases hc194 : pa < pb
          · obtain ⟨cq196, kq196, q196a, q196b, q196c⟩ := isOf hZ e187 Q167_0
            obtain ⟨_, _, ⟨T196, L196, k196, n196⟩, -, X196, ⟨Lc196, hQ196, l196, y196, z196⟩, st196⟩ := X187.virtualBack hx (y := own_y27) (z := own_y27) hown (mvT hZ (own_w hw 171 rfl)) (mvT hZ (own_w hw 172 rfl)) (notFace_of_selects (args := #[]) (mvT hZ (own_w hw 174 rfl))) (mvT hZ (own_w hw 174 rfl)) (mvT hZ (own_w hw 173 rfl)) (by decide) (backOf (W := 0) (rmA43 l Z a0 hw [] b68 b17 b38 b10  cs wf T167.heap n0 o186 G0 Q167_0 Q167_2 Q167_1  ) hZ (own_w hw 175 rfl) (own_w hw 119 rfl) (by decide) (by decide)) q196a q196c (g := (mkF m 281 #[.val (.int p1), .val (.long q2), .second, .val (.long q3), .second, .val (.int p4), .val (.int p5), .val (.int p6), .val (.long ka), .second, .val (.long kb), .second, .val (.int pa), .val (.int pb), .val (.int ps), .val (.ref b10), .val (.ref b17), .val (.ref b26), .val (.ref b38), .val (.ref b50), .val (.int u1), .val (.int u2), .val (.ref b68), .val (.int (1 : Int32)), .val (.ref b17)] [(.ref b10), (.ref b68)])) rfl (by rw [hml]; rfl) (Steps.refl _) (argsL := [(.ref b10)]) (rest := []) (lenOf own_pd18 rfl) rfl (by show 2 * 0 + _ ≤ _; exact Nat.le_of_eq rfl) (hb hby at_281) (fun _ _ => ⟨rfl, e187, (by decide : 26 + 0 ≤ _), (by decide : 194 + 0 ≤ _)⟩)
            dsimp only [Pt.U, Pt.locs, Pt.cells, Pt.slots] at X196 l196 y196 z196 st196 hQ196
            subst l196 y196 z196
            obtain ⟨rfl, Nq196, e196⟩ := hQ196
            have N196 := Fr.app N187 Nq196
            have g197 : ∀ t, Steps p.tables e below (T196.setTop (mkF m 294 #[.val (.int p1), .val (.long q2), .second, .val (.long q3), .second, .val (.int p4), .val (.int p5), .val (.int p6), .val (.long ka), .second, .val (.long kb), .second, .val (.int pa), .val (.int pb), .val (.int ps), .val (.ref b10), .val (.ref b17), .val (.ref b26), .val (.ref b38), .val (.ref b50), .val (.int u1), .val (.int u2), .val (.ref b68), .val (.int (1 : Int32)), .val (.ref b17)] [(.int (1 : Int32))])) t → Steps p.tables e below (s₁.setTop (entryFrame m #[(.int p1), (.long q2), (.long q3), (.int p4), (.int p5), (.int p6)] maxLocals)) t := by
              intro t k
              refine g195 t ?_
              show Steps p.tables e below (T187.setTop (mkF m 229 #[.val (.int p1), .val (.long q2), .second, .val (.long q3), .second, .val (.int p4), .val (.int p5), .val (.int p6), .val (.long ka), .second, .val (.long kb), .second, .val (.int pa), .val (.int pb), .val (.int ps), .val (.ref b10), .val (.ref b17), .val (.ref b26), .val (.ref b38), .val (.ref b50), .val (.int u1), .val (.int u2), .val (.ref b68), .unset, .unset] [(.int pa), (.int pb)])) _
              refine XS.icmpNo X187.here hx rfl (hb hby at_229) rfl (tlt hc194).2.2.2 ?_
              refine XS.iconst X187.here hx rfl (hb hby at_232) ?_
              refine XS.goto X187.here hx rfl (pc0 := 233) (pc' := 237) rfl (hb hby at_233) (by decide) (by decide) ?_
              refine XS.istore X187.here hx rfl (hb hby at_237) rfl (l' := #[.val (.int p1), .val (.long q2), .second, .val (.long q3), .second, .val (.int p4), .val (.int p5), .val (.int p6), .val (.long ka), .second, .val (.long kb), .second, .val (.int pa), .val (.int pb), .val (.int ps), .val (.ref b10), .val (.ref b17), .val (.ref b26), .val (.ref b38), .val (.ref b50), .val (.int u1), .val (.int u2), .val (.ref b68), .val (.int (1 : Int32)), .unset]) rfl ?_
              refine XS.iload X187.here hx rfl (hb hby at_239) rfl ?_
              refine XS.ifYes X187.here hx rfl (pc0 := 241) (pc' := 261) rfl (hb hby at_241) rfl ((if0 _ _).trans (teq hc155).1) (by decide) (by decide) ?_
              show Steps p.tables e below (T187.setTop (mkF m 261 #[.val (.int p1), .val (.long q2), .second, .val (.long q3), .second, .val (.int p4), .val (.int p5), .val (.int p6), .val (.long ka), .second, .val (.long kb), .second, .val (.int pa), .val (.int pb), .val (.int ps), .val (.ref b10), .val (.ref b17), .val (.ref b26), .val (.ref b38), .val (.ref b50), .val (.int u1), .val (.int u2), .val (.ref b68), .val (.int (1 : Int32)), .unset] [])) _
              refine XS.iload X187.here hx rfl (hb hby at_261) rfl ?_
              refine XS.ifNo X187.here hx rfl (hb hby at_263) rfl ((if0 _ _).trans (feq hc81).1) ?_
              refine XS.aload X187.here hx rfl (hb hby at_266) rfl rfl ?_
              refine XS.astore X187.here hx rfl (hb hby at_268) rfl rfl (l' := #[.val (.int p1), .val (.long q2), .second, .val (.long q3), .second, .val (.int p4), .val (.int p5), .val (.int p6), .val (.long ka), .second, .val (.long kb), .second, .val (.int pa), .val (.int pb), .val (.int ps), .val (.ref b10), .val (.ref b17), .val (.ref b26), .val (.ref b38), .val (.ref b50), .val (.int u1), .val (.int u2), .val (.ref b68), .val (.int (1 : Int32)), .val (.ref b17)]) rfl ?_
              refine XS.goto X187.here hx rfl (pc0 := 270) (pc' := 277) rfl (hb hby at_270) (by decide) (by decide) ?_
              refine XS.aload X187.here hx rfl (hb hby at_277) rfl rfl ?_
              show Steps p.tables e below (T187.setTop (mkF m 279 #[.val (.int p1), .val (.long q2), .second, .val (.long q3), .second, .val (.int p4), .val (.int p5), .val (.int p6), .val (.long ka), .second, .val (.long kb), .second, .val (.int pa), .val (.int pb), .val (.int ps), .val (.ref b10), .val (.ref b17), .val (.ref b26), .val (.ref b38), .val (.ref b50), .val (.int u1), .val (.int u2), .val (.ref b68), .val (.int (1 : Int32)), .val (.ref b17)] [(.ref b68)])) _
              refine XS.aload X187.here hx rfl (hb hby at_279) rfl rfl ?_
              refine st196.trans ?_
              refine XS.aload X196.here hx rfl (hb hby at_284) rfl rfl ?_
              refine Jvm.RoadKit.acmp (g := (mkF m 286 #[.val (.int p1), .val (.long q2), .second, .val (.long q3), .second, .val (.int p4), .val (.int p5), .val (.int p6), .val (.long ka), .second, .val (.long kb), .second, .val (.int pa), .val (.int pb), .val (.int ps), .val (.ref b10), .val (.ref b17), .val (.ref b26), .val (.ref b38), .val (.ref b50), .val (.int u1), .val (.int u2), .val (.ref b68), .val (.int (1 : Int32)), .val (.ref b17)] [(.ref b17), (.ref b17)])) X196 hx rfl rfl rfl (pc0 := 286) (pc' := 289) (same := true) rfl (hb hby at_286) rfl (decide_eq_true rfl) (by decide) (by decide) ?_
              refine XS.iconst X196.here hx rfl (hb hby at_289) ?_
              refine XS.goto X196.here hx rfl (pc0 := 290) (pc' := 294) rfl (hb hby at_290) (by decide) (by decide) ?_
              exact k
            obtain ⟨fs, hrt, hrun, hended, hRW⟩ := X196.leaveW hS (by rw [e196]; exact hk) (v := some (.int (1 : Int32))) (fun h => by rw [Bd.returns] at h; cases h)
            refine ⟨_, _, g197 _ ?_, hrun, hended, _, _, rfl, ?_, ?_, hRW.1, hRW.2.1, hRW.2.2.1, hRW.2.2.2.mono (by decide) (by decide)⟩
            · show Steps p.tables e below (T196.setTop (mkF m 294 #[.val (.int p1), .val (.long q2), .second, .val (.long q3), .second, .val (.int p4), .val (.int p5), .val (.int p6), .val (.long ka), .second, .val (.long kb), .second, .val (.int pa), .val (.int pb), .val (.int ps), .val (.ref b10), .val (.ref b17), .val (.ref b26), .val (.ref b38), .val (.ref b50), .val (.int u1), .val (.int u2), .val (.ref b68), .val (.int (1 : Int32)), .val (.ref b17)] [(.int (1 : Int32))])) _
              exact retN X196 hx (t := .boolean) Bd.returns (by simp) (hb hby at_294) hrt
            · show own_Q_rm0 Z p1 q2 q3 p4 p5 p6 cs wf h0 n0 _ T196.heap _
              rw [e196]
              exact ⟨rfl, N196⟩
            · rw [hh]
              show CHr Z own_EL s.vm h0 T196.vm T196.heap
              rw [e196]
              exact hC.trans (CHv.at X196 hZ (own_EW hw) hC.1)
          · obtain ⟨cq198, kq198, q198a, q198b, q198c⟩ := isOf hZ e187 Q167_0
            obtain ⟨_, _, ⟨T198, L198, k198, n198⟩, -, X198, ⟨Lc198, hQ198, l198, y198, z198⟩, st198⟩ := X187.virtualBack hx (y := own_y27) (z := own_y27) hown (mvT hZ (own_w hw 171 rfl)) (mvT hZ (own_w hw 172 rfl)) (notFace_of_selects (args := #[]) (mvT hZ (own_w hw 174 rfl))) (mvT hZ (own_w hw 174 rfl)) (mvT hZ (own_w hw 173 rfl)) (by decide) (backOf (W := 0) (rmA43 l Z a0 hw [] b68 b17 b38 b10  cs wf T167.heap n0 o186 G0 Q167_0 Q167_2 Q167_1  ) hZ (own_w hw 175 rfl) (own_w hw 119 rfl) (by decide) (by decide)) q198a q198c (g := (mkF m 281 #[.val (.int p1), .val (.long q2), .second, .val (.long q3), .second, .val (.int p4), .val (.int p5), .val (.int p6), .val (.long ka), .second, .val (.long kb), .second, .val (.int pa), .val (.int pb), .val (.int ps), .val (.ref b10), .val (.ref b17), .val (.ref b26), .val (.ref b38), .val (.ref b50), .val (.int u1), .val (.int u2), .val (.ref b68), .val (.int (0 : Int32)), .val (.ref b17)] [(.ref b10), (.ref b68)])) rfl (by rw [hml]; rfl) (Steps.refl _) (argsL := [(.ref b10)]) (rest := []) (lenOf own_pd18 rfl) rfl (by show 2 * 0 + _ ≤ _; exact Nat.le_of_eq rfl) (hb hby at_281) (fun _ _ => ⟨rfl, e187, (by decide : 26 + 0 ≤ _), (by decide : 194 + 0 ≤ _)⟩)
            dsimp only [Pt.U, Pt.locs, Pt.cells, Pt.slots] at X198 l198 y198 z198 st198 hQ198
            subst l198 y198 z198
            obtain ⟨rfl, Nq198, e198⟩ := hQ198
            have N198 := Fr.app N187 Nq198
            have g199 : ∀ t, Steps p.tables e below (T198.setTop (mkF m 294 #[.val (.int p1), .val (.long q2), .second, .val (.long q3), .second, .val (.int p4), .val (.int p5), .val (.int p6), .val (.long ka), .second, .val (.long kb), .second, .val (.int pa), .val (.int pb), .val (.int ps), .val (.ref b10), .val (.ref b17), .val (.ref b26), .val (.ref b38), .val (.ref b50), .val (.int u1), .val (.int u2), .val (.ref b68), .val (.int (0 : Int32)), .val (.ref b17)] [(.int (1 : Int32))])) t → Steps p.tables e below (s₁.setTop (entryFrame m #[(.int p1), (.long q2), (.long q3), (.int p4), (.int p5), (.int p6)] maxLocals)) t := by
              intro t k
              refine g195 t ?_
              show Steps p.tables e below (T187.setTop (mkF m 229 #[.val (.int p1), .val (.long q2), .second, .val (.long q3), .second, .val (.int p4), .val (.int p5), .val (.int p6), .val (.long ka), .second, .val (.long kb), .second, .val (.int pa), .val (.int pb), .val (.int ps), .val (.ref b10), .val (.ref b17), .val (.ref b26), .val (.ref b38), .val (.ref b50), .val (.int u1), .val (.int u2), .val (.ref b68), .unset, .unset] [(.int pa), (.int pb)])) _
              refine XS.icmpYes X187.here hx rfl (pc0 := 229) (pc' := 236) rfl (hb hby at_229) rfl (flt hc194).2.2.2 (by decide) (by decide) ?_
              refine XS.iconst X187.here hx rfl (hb hby at_236) ?_
              refine XS.istore X187.here hx rfl (hb hby at_237) rfl (l' := #[.val (.int p1), .val (.long q2), .second, .val (.long q3), .second, .val (.int p4), .val (.int p5), .val (.int p6), .val (.long ka), .second, .val (.long kb), .second, .val (.int pa), .val (.int pb), .val (.int ps), .val (.ref b10), .val (.ref b17), .val (.ref b26), .val (.ref b38), .val (.ref b50), .val (.int u1), .val (.int u2), .val (.ref b68), .val (.int (0 : Int32)), .unset]) rfl ?_
              refine XS.iload X187.here hx rfl (hb hby at_239) rfl ?_
              refine XS.ifYes X187.here hx rfl (pc0 := 241) (pc' := 261) rfl (hb hby at_241) rfl ((if0 _ _).trans (teq hc155).1) (by decide) (by decide) ?_
              refine XS.iload X187.here hx rfl (hb hby at_261) rfl ?_
              show Steps p.tables e below (T187.setTop (mkF m 263 #[.val (.int p1), .val (.long q2), .second, .val (.long q3), .second, .val (.int p4), .val (.int p5), .val (.int p6), .val (.long ka), .second, .val (.long kb), .second, .val (.int pa), .val (.int pb), .val (.int ps), .val (.ref b10), .val (.ref b17), .val (.ref b26), .val (.ref b38), .val (.ref b50), .val (.int u1), .val (.int u2), .val (.ref b68), .val (.int (0 : Int32)), .unset] [(.int u1)])) _
              refine XS.ifNo X187.here hx rfl (hb hby at_263) rfl ((if0 _ _).trans (feq hc81).1) ?_
              refine XS.aload X187.here hx rfl (hb hby at_266) rfl rfl ?_
              refine XS.astore X187.here hx rfl (hb hby at_268) rfl rfl (l' := #[.val (.int p1), .val (.long q2), .second, .val (.long q3), .second, .val (.int p4), .val (.int p5), .val (.int p6), .val (.long ka), .second, .val (.long kb), .second, .val (.int pa), .val (.int pb), .val (.int ps), .val (.ref b10), .val (.ref b17), .val (.ref b26), .val (.ref b38), .val (.ref b50), .val (.int u1), .val (.int u2), .val (.ref b68), .val (.int (0 : Int32)), .val (.ref b17)]) rfl ?_
              refine XS.goto X187.here hx rfl (pc0 := 270) (pc' := 277) rfl (hb hby at_270) (by decide) (by decide) ?_
              refine XS.aload X187.here hx rfl (hb hby at_277) rfl rfl ?_
              refine XS.aload X187.here hx rfl (hb hby at_279) rfl rfl ?_
              show Steps p.tables e below (T187.setTop (mkF m 281 #[.val (.int p1), .val (.long q2), .second, .val (.long q3), .second, .val (.int p4), .val (.int p5), .val (.int p6), .val (.long ka), .second, .val (.long kb), .second, .val (.int pa), .val (.int pb), .val (.int ps), .val (.ref b10), .val (.ref b17), .val (.ref b26), .val (.ref b38), .val (.ref b50), .val (.int u1), .val (.int u2), .val (.ref b68), .val (.int (0 : Int32)), .val (.ref b17)] [(.ref b10), (.ref b68)])) _
              refine st198.trans ?_
              refine XS.aload X198.here hx rfl (hb hby at_284) rfl rfl ?_
              refine Jvm.RoadKit.acmp (g := (mkF m 286 #[.val (.int p1), .val (.long q2), .second, .val (.long q3), .second, .val (.int p4), .val (.int p5), .val (.int p6), .val (.long ka), .second, .val (.long kb), .second, .val (.int pa), .val (.int pb), .val (.int ps), .val (.ref b10), .val (.ref b17), .val (.ref b26), .val (.ref b38), .val (.ref b50), .val (.int u1), .val (.int u2), .val (.ref b68), .val (.int (0 : Int32)), .val (.ref b17)] [(.ref b17), (.ref b17)])) X198 hx rfl rfl rfl (pc0 := 286) (pc' := 289) (same := true) rfl (hb hby at_286) rfl (decide_eq_true rfl) (by decide) (by decide) ?_
              refine XS.iconst X198.here hx rfl (hb hby at_289) ?_
              refine XS.goto X198.here hx rfl (pc0 := 290) (pc' := 294) rfl (hb hby at_290) (by decide) (by decide) ?_
              exact k
            obtain ⟨fs, hrt, hrun, hended, hRW⟩ := X198.leaveW hS (by rw [e198]; exact hk) (v := some (.int (1 : Int32))) (fun h => by rw [Bd.returns] at h; cases h)
            refine ⟨_, _, g199 _ ?_, hrun, hended, _, _, rfl, ?_, ?_, hRW.1, hRW.2.1, hRW.2.2.1, hRW.2.2.2.mono (by decide) (by decide)⟩
            · show Steps p.tables e below (T198.setTop (mkF m 294 #[.val (.int p1), .val (.long q2), .second, .val (.long q3), .second, .val (.int p4), .val (.int p5), .val (.int p6), .val (.long ka), .second, .val (.long kb), .second, .val (.int pa), .val (.int pb), .val (.int ps), .val (.ref b10), .val (.ref b17), .val (.ref b26), .val (.ref b38), .val (.ref b50), .val (.int u1), .val (.int u2), .val (.ref b68), .val (.int (0 : Int32)), .val (.ref b17)] [(.int (1 : Int32))])) _
              exact retN X198 hx (t := .boolean) Bd.returns (by simp) (hb hby at_294) hrt
            · show own_Q_rm0 Z p1 q2 q3 p4 p5 p6 cs wf h0 n0 _ T198.heap _
              rw [e198]
              exact ⟨rfl, N198⟩
            · rw [hh]
              show CHr Z own_EL s.vm h0 T198.vm T198.heap
              rw [e198]
              exact hC.trans (CHv.at X198 hZ (own_EW hw) hC.1)
        · obtain ⟨cq200, kq200, q200a, q200b, q200c⟩ := isOf hZ e187 Q167_0
          obtain ⟨_, _, ⟨T200, L200, k200, n200⟩, -, X200, ⟨Lc200, hQ200, l200, y200, z200⟩, st200⟩ := X187.virtualBack hx (y := own_y27) (z := own_y27) hown (mvT hZ (own_w hw 171 rfl)) (mvT hZ (own_w hw 172 rfl)) (notFace_of_selects (args := #[]) (mvT hZ (own_w hw 174 rfl))) (mvT hZ (own_w hw 174 rfl)) (mvT hZ (own_w hw 173 rfl)) (by decide) (backOf (W := 0) (rmA43 l Z a0 hw [] b68 b17 b38 b10  cs wf T167.heap n0 o186 G0 Q167_0 Q167_2 Q167_1  ) hZ (own_w hw 175 rfl) (own_w hw 119 rfl) (by decide) (by decide)) q200a q200c (g := (mkF m 281 #[.val (.int p1), .val (.long q2), .second, .val (.long q3), .second, .val (.int p4), .val (.int p5), .val (.int p6), .val (.long ka), .second, .val (.long kb), .second, .val (.int pa), .val (.int pb), .val (.int ps), .val (.ref b10), .val (.ref b17), .val (.ref b26), .val (.ref b38), .val (.ref b50), .val (.int u1), .val (.int u2), .val (.ref b68), .val (.int (0 : Int32)), .val (.ref b17)] [(.ref b10), (.ref b68)])) rfl (by rw [hml]; rfl) (Steps.refl _) (argsL := [(.ref b10)]) (rest := []) (lenOf own_pd18 rfl) rfl (by show 2 * 0 + _ ≤ _; exact Nat.le_of_eq rfl) (hb hby at_281) (fun _ _ => ⟨rfl, e187, (by decide : 26 + 0 ≤ _), (by decide : 194 + 0 ≤ _)⟩)
          dsimp only [Pt.U, Pt.locs, Pt.cells, Pt.slots] at X200 l200 y200 z200 st200 hQ200
          subst l200 y200 z200
          obtain ⟨rfl, Nq200, e200⟩ := hQ200
          have N200 := Fr.app N187 Nq200
          have g201 : ∀ t, Steps p.tables e below (T200.setTop (mkF m 294 #[.val (.int p1), .val (.long q2), .second, .val (.long q3), .second, .val (.int p4), .val (.int p5), .val (.int p6), .val (.long ka), .second, .val (.long kb), .second, .val (.int pa), .val (.int pb), .val (.int ps), .val (.ref b10), .val (.ref b17), .val (.ref b26), .val (.ref b38), .val (.ref b50), .val (.int u1), .val (.int u2), .val (.ref b68), .val (.int (0 : Int32)), .val (.ref b17)] [(.int (1 : Int32))])) t → Steps p.tables e below (s₁.setTop (entryFrame m #[(.int p1), (.long q2), (.long q3), (.int p4), (.int p5), (.int p6)] maxLocals)) t := by
            intro t k
            refine g193 t ?_
            show Steps p.tables e below (T187.setTop (mkF m 222 #[.val (.int p1), .val (.long q2), .second, .val (.long q3), .second, .val (.int p4), .val (.int p5), .val (.int p6), .val (.long ka), .second, .val (.long kb), .second, .val (.int pa), .val (.int pb), .val (.int ps), .val (.ref b10), .val (.ref b17), .val (.ref b26), .val (.ref b38), .val (.ref b50), .val (.int u1), .val (.int u2), .val (.ref b68), .unset, .unset] [(.int (lcmpW kb ka))])) _
            refine XS.ifYes X187.here hx rfl (pc0 := 222) (pc' := 236) rfl (hb hby at_222) rfl ((if0 _ _).trans (feq (fun q => hc192 ((lw_eq _ _).mp q))).2) (by decide) (by decide) ?_
            refine XS.iconst X187.here hx rfl (hb hby at_236) ?_
            refine XS.istore X187.here hx rfl (hb hby at_237) rfl (l' := #[.val (.int p1), .val (.long q2), .second, .val (.long q3), .second, .val (.int p4), .val (.int p5), .val (.int p6), .val (.long ka), .second, .val (.long kb), .second, .val (.int pa), .val (.int pb), .val (.int ps), .val (.ref b10), .val (.ref b17), .val (.ref b26), .val (.ref b38), .val (.ref b50), .val (.int u1), .val (.int u2), .val (.ref b68), .val (.int (0 : Int32)), .unset]) rfl ?_
            refine XS.iload X187.here hx rfl (hb hby at_239) rfl ?_
            refine XS.ifYes X187.here hx rfl (pc0 := 241) (pc' := 261) rfl (hb hby at_241) rfl ((if0 _ _).trans (teq hc155).1) (by decide) (by decide) ?_
            refine XS.iload X187.here hx rfl (hb hby at_261) rfl ?_
            show Steps p.tables e below (T187.setTop (mkF m 263 #[.val (.int p1), .val (.long q2), .second, .val (.long q3), .second, .val (.int p4), .val (.int p5), .val (.int p6), .val (.long ka), .second, .val (.long kb), .second, .val (.int pa), .val (.int pb), .val (.int ps), .val (.ref b10), .val (.ref b17), .val (.ref b26), .val (.ref b38), .val (.ref b50), .val (.int u1), .val (.int u2), .val (.ref b68), .val (.int (0 : Int32)), .unset] [(.int u1)])) _
            refine XS.ifNo X187.here hx rfl (hb hby at_263) rfl ((if0 _ _).trans (feq hc81).1) ?_
            refine XS.aload X187.here hx rfl (hb hby at_266) rfl rfl ?_
            refine XS.astore X187.here hx rfl (hb hby at_268) rfl rfl (l' := #[.val (.int p1), .val (.long q2), .second, .val (.long q3), .second, .val (.int p4), .val (.int p5), .val (.int p6), .val (.long ka), .second, .val (.long kb), .second, .val (.int pa), .val (.int pb), .val (.int ps), .val (.ref b10), .val (.ref b17), .val (.ref b26), .val (.ref b38), .val (.ref b50), .val (.int u1), .val (.int u2), .val (.ref b68), .val (.int (0 : Int32)), .val (.ref b17)]) rfl ?_
            refine XS.goto X187.here hx rfl (pc0 := 270) (pc' := 277) rfl (hb hby at_270) (by decide) (by decide) ?_
            refine XS.aload X187.here hx rfl (hb hby at_277) rfl rfl ?_
            refine XS.aload X187.here hx rfl (hb hby at_279) rfl rfl ?_
            show Steps p.tables e below (T187.setTop (mkF m 281 #[.val (.int p1), .val (.long q2), .second, .val (.long q3), .second, .val (.int p4), .val (.int p5), .val (.int p6), .val (.long ka), .second, .val (.long kb), .second, .val (.int pa), .val (.int pb), .val (.int ps), .val (.ref b10), .val (.ref b17), .val (.ref b26), .val (.ref b38), .val (.ref b50), .val (.int u1), .val (.int u2), .val (.ref b68), .val (.int (0 : Int32)), .val (.ref b17)] [(.ref b10), (.ref b68)])) _
            refine st200.trans ?_
            refine XS.aload X200.here hx rfl (hb hby at_284) rfl rfl ?_
            refine Jvm.RoadKit.acmp (g := (mkF m 286 #[.val (.int p1), .val (.long q2), .second, .val (.long q3), .second, .val (.int p4), .val (.int p5), .val (.int p6), .val (.long ka), .second, .val (.long kb), .second, .val (.int pa), .val (.int pb), .val (.int ps), .val (.ref b10), .val (.ref b17), .val (.ref b26), .val (.ref b38), .val (.ref b50), .val (.int u1), .val (.int u2), .val (.ref b68), .val (.int (0 : Int32)), .val (.ref b17)] [(.ref b17), (.ref b17)])) X200 hx rfl rfl rfl (pc0 := 286) (pc' := 289) (same := true) rfl (hb hby at_286) rfl (decide_eq_true rfl) (by decide) (by decide) ?_
            refine XS.iconst X200.here hx rfl (hb hby at_289) ?_
            refine XS.goto X200.here hx rfl (pc0 := 290) (pc' := 294) rfl (hb hby at_290) (by decide) (by decide) ?_
            exact k
          obtain ⟨fs, hrt, hrun, hended, hRW⟩ := X200.leaveW hS (by rw [e200]; exact hk) (v := some (.int (1 : Int32))) (fun h => by rw [Bd.returns] at h; cases h)
          refine ⟨_, _, g201 _ ?_, hrun, hended, _, _, rfl, ?_, ?_, hRW.1, hRW.2.1, hRW.2.2.1, hRW.2.2.2.mono (by decide) (by decide)⟩
          · show Steps p.tables e below (T200.setTop (mkF m 294 #[.val (.int p1), .val (.long q2), .second, .val (.long q3), .second, .val (.int p4), .val (.int p5), .val (.int p6), .val (.long ka), .second, .val (.long kb), .second, .val (.int pa), .val (.int pb), .val (.int ps), .val (.ref b10), .val (.ref b17), .val (.ref b26), .val (.ref b38), .val (.ref b50), .val (.int u1), .val (.int u2), .val (.ref b68), .val (.int (0 : Int32)), .val (.ref b17)] [(.int (1 : Int32))])) _
            exact retN X200 hx (t := .boolean) Bd.returns (by simp) (hb hby at_294) hrt
          · show own_Q_rm0 Z p1 q2 q3 p4 p5 p6 cs wf h0 n0 _ T200.heap _
            rw [e200]
            exact ⟨rfl, N200⟩
          · rw [hh]
            show CHr Z own_EL s.vm h0 T200.vm T200.heap
            rw [e200]
            exact hC.trans (CHv.at X200 hZ (own_EW hw) hC.1)
    · have f202 := ((f78.ext E68).keep K80)
      have f203 := ((((Q49_1.ext E50).keep K61 (ninS ne_b38_b50 nin0)).ext E68).keep K80 (ninS ne_b38_b68 nin0))
      have f204 := ((f74.ext E68).keep K80)
      have f205 := ((f70.ext E68).keep K80)
      have f206 := ((((((((((Fc20.keep K25 (ninS (Exa.ne Ex20 f21 (by decide)) nin0)).ext E26).ext E32).keep K37 (ninS ne_a20_b26 nin0)).ext E38).keep K49 (ninS ne_a20_b38 nin0)).ext E50).keep K61 (ninS ne_a20_b50 nin0)).ext E68).keep K80 (ninS ne_a20_b68 nin0))
      have f207 := ((f75.ext E68).keep K80 (ninS ne_b20_b68 nin0))
      have f208 := ((((((((((Fv20.keep K25 (ninS (Exa.ne Ex20 f21 (by decide)) nin0)).ext E26).ext E32).keep K37 (ninS ne_a20_b26 nin0)).ext E38).keep K49 (ninS ne_a20_b38 nin0)).ext E50).keep K61 (ninS ne_a20_b50 nin0)).ext E68).keep K80 (ninS ne_a20_b68 nin0))
      have f209 := (((((((((Q25_1.ext E26).ext E32).keep K37 (ninS ne_b17_b26 nin0)).ext E38).keep K49 (ninS ne_b17_b38 nin0)).ext E50).keep K61 (ninS ne_b17_b50 nin0)).ext E68).keep K80 (ninS ne_b17_b68 nin0))
      have f210 := (((((((((Q25_2.ext E26).ext E32).keep K37 (ninS ne_b17_b26 nin0)).ext E38).keep K49 (ninS ne_b17_b38 nin0)).ext E50).keep K61 (ninS ne_b17_b50 nin0)).ext E68).keep K80 (ninS ne_b17_b68 nin0))
      have f211 := ((((Q49_2.ext E50).keep K61 (ninS ne_b38_b50 nin0)).ext E68).keep K80 (ninS ne_b38_b68 nin0))
      have o212 : Old Z n0 T80.heap := (Old.keep o79 K80 (allS gz_b68 all0))
      obtain ⟨cq213, kq213, q213a, q213b, q213c⟩ := isOf hZ rfl Q80_0
      obtain ⟨_, _, ⟨T213, L213, k213, n213⟩, -, X213, ⟨Lc213, hQ213, l213, y213, z213⟩, st213⟩ := X80.virtualBack hx (y := own_y26) (z := own_y26) hown (mvT hZ (own_w hw 166 rfl)) (mvT hZ (own_w hw 167 rfl)) (notFace_of_selects (args := #[]) (mvT hZ (own_w hw 169 rfl))) (mvT hZ (own_w hw 169 rfl)) (mvT hZ (own_w hw 168 rfl)) (by decide) (backOf (W := 0) (rmA42 l Z a0 hw [] b68 b38 (ka) b17 a20 b20 ka20 (pa)  cs wf T80.heap n0 o212 G0 Q80_0 Q80_2 Q80_1 f202 f203 f204 f205 f206 f207 f208 f209 f210 f211 gz_b68 ) hZ (own_w hw 170 rfl) (own_w hw 119 rfl) (by decide) (by decide)) q213a q213c (g := (mkF m 188 #[.val (.int p1), .val (.long q2), .second, .val (.long q3), .second, .val (.int p4), .val (.int p5), .val (.int p6), .val (.long ka), .second, .val (.long kb), .second, .val (.int pa), .val (.int pb), .val (.int ps), .val (.ref b10), .val (.ref b17), .val (.ref b26), .val (.ref b38), .val (.ref b50), .val (.int u1), .val (.int u2), .val (.ref b68), .unset, .unset] [(.ref b17), (.ref b38), (.ref b68)])) rfl (by rw [hml]; rfl) (Steps.refl _) (argsL := [(.ref b38), (.ref b17)]) (rest := []) (lenOf own_pd17 rfl) rfl (by show 2 * 0 + _ ≤ _; exact Nat.le_of_eq rfl) (hb hby at_188) (fun _ _ => ⟨rfl, rfl, (by decide : 26 + 0 ≤ _), (by decide : 194 + 0 ≤ _)⟩)
      dsimp only [Pt.U, Pt.locs, Pt.cells, Pt.slots] at X213 l213 y213 z213 st213 hQ213
      subst l213 y213 z213
      obtain ⟨rfl, Nq213, K213, Q213_0, Q213_1, Q213_2⟩ := hQ213
      have hC := hC.trans (CHr.keep K213 (sfS (Safe.exa hZ.alike Q80_0 (by decide) (by decide)) sf0) hC.1)
      have hk := Nat.le_trans hk K213.1
      have N213 := Fr.app N80 Nq213
      have g215 : ∀ t, Steps p.tables e below (T213.setTop (mkF m 191 #[.val (.int p1), .val (.long q2), .second, .val (.long q3), .second, .val (.int p4), .val (.int p5), .val (.int p6), .val (.long ka), .second, .val (.long kb), .second, .val (.int pa), .val (.int pb), .val (.int ps), .val (.ref b10), .val (.ref b17), .val (.ref b26), .val (.ref b38), .val (.ref b50), .val (.int u1), .val (.int u2), .val (.ref b68), .unset, .unset] [])) t → Steps p.tables e below (s₁.setTop (entryFrame m #[(.int p1), (.long q2), (.long q3), (.int p4), (.int p5), (.int p6)] maxLocals)) t := by
        intro t k
        refine g82 t ?_
        show Steps p.tables e below (T80.setTop (mkF m 173 #[.val (.int p1), .val (.long q2), .second, .val (.long q3), .second, .val (.int p4), .val (.int p5), .val (.int p6), .val (.long ka), .second, .val (.long kb), .second, .val (.int pa), .val (.int pb), .val (.int ps), .val (.ref b10), .val (.ref b17), .val (.ref b26), .val (.ref b38), .val (.ref b50), .val (.int u1), .val (.int u2), .val (.ref b68), .unset, .unset] [])) _
        refine XS.aload X80.here hx rfl (hb hby at_173) rfl rfl ?_
        refine XS.iload X80.here hx rfl (hb hby at_175) rfl ?_
        refine XS.ifNo X80.here hx rfl (hb hby at_177) rfl ((if0 _ _).trans (feq hc81).1) ?_
        refine XS.aload X80.here hx rfl (hb hby at_180) rfl rfl ?_
        refine XS.goto X80.here hx rfl (pc0 := 182) (pc' := 186) rfl (hb hby at_182) (by decide) (by decide) ?_
        refine XS.aload X80.here hx rfl (hb hby at_186) rfl rfl ?_
        show Steps p.tables e below (T80.setTop (mkF m 188 #[.val (.int p1), .val (.long q2), .second, .val (.long q3), .second, .val (.int p4), .val (.int p5), .val (.int p6), .val (.long ka), .second, .val (.long kb), .second, .val (.int pa), .val (.int pb), .val (.int ps), .val (.ref b10), .val (.ref b17), .val (.ref b26), .val (.ref b38), .val (.ref b50), .val (.int u1), .val (.int u2), .val (.ref b68), .unset, .unset] [(.ref b17), (.ref b38), (.ref b68)])) _
        refine st213.trans ?_
        exact k
      by_cases hc214 : ka < kb
      · obtain ⟨LL216, XL216, NL216⟩ : ∃ LL : List Loc, Stand p l e room_1 (s.setVm T61.vm) m #[(.int p1), (.long q2), (.long q3), (.int p4), (.int p5), (.int p6)] below meth c T213 LL 26 194 ∧ Fr n0 LL := ⟨_, X213, N213⟩
        have f217 := (f204.keep K213)
        have f218 := (f205.keep K213)
        have f219 := (f206.keep K213 (ninS ne_a20_b68 nin0))
        have f220 := (f207.keep K213 (ninS ne_b20_b68 nin0))
        have f221 := (f208.keep K213 (ninS ne_a20_b68 nin0))
        have f222 := (f209.keep K213 (ninS ne_b17_b68 nin0))
        have f223 := (f210.keep K213 (ninS ne_b17_b68 nin0))
        have f224 := (f202.keep K213)
        have f225 := (f203.keep K213 (ninS ne_b38_b68 nin0))
        have f226 := (f211.keep K213 (ninS ne_b38_b68 nin0))
        have f227 := (((Q61_0.ext E68).keep K80).keep K213)
        have f228 := (((Q61_1.ext E68).keep K80 (ninS ne_b50_b68 nin0)).keep K213 (ninS ne_b50_b68 nin0))
        have f229 := (((f76.ext E68).keep K80).keep K213)
        have f230 := (((f71.ext E68).keep K80).keep K213)
        have f231 := ((((((((Fc32.keep K37 (ninS (Exa.ne Ex32 f33 (by decide)) nin0)).ext E38).keep K49 (ninS ne_a32_b38 nin0)).ext E50).keep K61 (ninS ne_a32_b50 nin0)).ext E68).keep K80 (ninS ne_a32_b68 nin0)).keep K213 (ninS ne_a32_b68 nin0))
        have f232 := (((f77.ext E68).keep K80 (ninS ne_b32_b68 nin0)).keep K213 (ninS ne_b32_b68 nin0))
        have f233 := ((((((((Fv32.keep K37 (ninS (Exa.ne Ex32 f33 (by decide)) nin0)).ext E38).keep K49 (ninS ne_a32_b38 nin0)).ext E50).keep K61 (ninS ne_a32_b50 nin0)).ext E68).keep K80 (ninS ne_a32_b68 nin0)).keep K213 (ninS ne_a32_b68 nin0))
        have f234 := (((((((Q37_1.ext E38).keep K49 (ninS ne_b26_b38 nin0)).ext E50).keep K61 (ninS ne_b26_b50 nin0)).ext E68).keep K80 (ninS ne_b26_b68 nin0)).keep K213 (ninS ne_b26_b68 nin0))
        have f235 := (((((((Q37_2.ext E38).keep K49 (ninS ne_b26_b38 nin0)).ext E50).keep K61 (ninS ne_b26_b50 nin0)).ext E68).keep K80 (ninS ne_b26_b68 nin0)).keep K213 (ninS ne_b26_b68 nin0))
        have f236 := (((Q61_2.ext E68).keep K80 (ninS ne_b50_b68 nin0)).keep K213 (ninS ne_b50_b68 nin0))
        have o237 : Old Z n0 T213.heap := (Old.keep o212 K213 (allS gz_b68 all0))
        obtain ⟨cq238, kq238, q238a, q238b, q238c⟩ := isOf hZ rfl Q213_0
        obtain ⟨_, _, ⟨T238, L238, k238, n238⟩, -, X238, ⟨Lc238, hQ238, l238, y238, z238⟩, st238⟩ := XL216.virtualBack hx (y := own_y26) (z := own_y26) hown (mvT hZ (own_w hw 166 rfl)) (mvT hZ (own_w hw 167 rfl)) (notFace_of_selects (args := #[]) (mvT hZ (own_w hw 169 rfl))) (mvT hZ (own_w hw 169 rfl)) (mvT hZ (own_w hw 168 rfl)) (by decide) (backOf (W := 0) (rmA45 l Z a0 hw [] b68 b17 a20 b20 ka20 (pa) b38 (ka) b50 (kb) b26 a32 b32 ka32 (pb) (1 : Int32) cs wf T213.heap n0 o237 G0 Q213_0 f217 f218 f219 f220 f221 f222 f223 Q213_2 f224 f225 f226 Q213_1 f227 f228 f229 f230 f231 f232 f233 f234 f235 f236 gz_b68 (by rw [if_neg (own_asy64 hc214), if_neg (own_ne64 hc214)]) (by decide)) hZ (own_w hw 170 rfl) (own_w hw 119 rfl) (by decide) (by decide)) q238a q238c (g := (mkF m 206 #[.val (.int p1), .val (.long q2), .second, .val (.long q3), .second, .val (.int p4), .val (.int p5), .val (.int p6), .val (.long ka), .second, .val (.long kb), .second, .val (.int pa), .val (.int pb), .val (.int ps), .val (.ref b10), .val (.ref b17), .val (.ref b26), .val (.ref b38), .val (.ref b50), .val (.int u1), .val (.int u2), .val (.ref b68), .unset, .unset] [(.ref b26), (.ref b50), (.ref b68)])) rfl (by rw [hml]; rfl) (Steps.refl _) (argsL := [(.ref b50), (.ref b26)]) (rest := []) (lenOf own_pd17 rfl) rfl (by show 2 * 0 + _ ≤ _; exact Nat.le_of_eq rfl) (hb hby at_206) (fun _ _ => ⟨rfl, rfl, (by decide : 26 + 0 ≤ _), (by decide : 194 + 0 ≤ _)⟩)
        dsimp only [Pt.U, Pt.locs, Pt.cells, Pt.slots] at X238 l238 y238 z238 st238 hQ238
        subst l238 y238 z238
        obtain ⟨rfl, Nq238, K238, Q238_0, Q238_1, Q238_2⟩ := hQ238
        have hC := hC.trans (CHr.keep K238 (sfS (Safe.exa hZ.alike Q213_0 (by decide) (by decide)) sf0) hC.1)
        have hk := Nat.le_trans hk K238.1
        have N238 := Fr.app NL216 Nq238
        have o239 : Old Z n0 T238.heap := (Old.keep o237 K238 (allS gz_b68 all0))
        obtain ⟨cq240, kq240, q240a, q240b, q240c⟩ := isOf hZ rfl Q238_0
        obtain ⟨_, _, ⟨T240, L240, k240, n240⟩, -, X240, ⟨Lc240, hQ240, l240, y240, z240⟩, st240⟩ := X238.virtualBack hx (y := own_y27) (z := own_y27) hown (mvT hZ (own_w hw 171 rfl)) (mvT hZ (own_w hw 172 rfl)) (notFace_of_selects (args := #[]) (mvT hZ (own_w hw 174 rfl))) (mvT hZ (own_w hw 174 rfl)) (mvT hZ (own_w hw 173 rfl)) (by decide) (backOf (W := 0) (rmA43 l Z a0 hw [] b68 b26 b50 b10  cs wf T238.heap n0 o239 G0 Q238_0 Q238_2 Q238_1  ) hZ (own_w hw 175 rfl) (own_w hw 119 rfl) (by decide) (by decide)) q240a q240c (g := (mkF m 281 #[.val (.int p1), .val (.long q2), .second, .val (.long q3), .second, .val (.int p4), .val (.int p5), .val (.int p6), .val (.long ka), .second, .val (.long kb), .second, .val (.int pa), .val (.int pb), .val (.int ps), .val (.ref b10), .val (.ref b17), .val (.ref b26), .val (.ref b38), .val (.ref b50), .val (.int u1), .val (.int u2), .val (.ref b68), .val (.int (1 : Int32)), .val (.ref b26)] [(.ref b10), (.ref b68)])) rfl (by rw [hml]; rfl) (Steps.refl _) (argsL := [(.ref b10)]) (rest := []) (lenOf own_pd18 rfl) rfl (by show 2 * 0 + _ ≤ _; exact Nat.le_of_eq rfl) (hb hby at_281) (fun _ _ => ⟨rfl, rfl, (by decide : 26 + 0 ≤ _), (by decide : 194 + 0 ≤ _)⟩)
        dsimp only [Pt.U, Pt.locs, Pt.cells, Pt.slots] at X240 l240 y240 z240 st240 hQ240
        subst l240 y240 z240
        obtain ⟨rfl, Nq240, e240⟩ := hQ240
        have N240 := Fr.app N238 Nq240
        have g241 : ∀ t, Steps p.tables e below (T240.setTop (mkF m 294 #[.val (.int p1), .val (.long q2), .second, .val (.long q3), .second, .val (.int p4), .val (.int p5), .val (.int p6), .val (.long ka), .second, .val (.long kb), .second, .val (.int pa), .val (.int pb), .val (.int ps), .val (.ref b10), .val (.ref b17), .val (.ref b26), .val (.ref b38), .val (.ref b50), .val (.int u1), .val (.int u2), .val (.ref b68), .val (.int (1 : Int32)), .val (.ref b26)] [(.int (1 : Int32))])) t → Steps p.tables e below (s₁.setTop (entryFrame m #[(.int p1), (.long q2), (.long q3), (.int p4), (.int p5), (.int p6)] maxLocals)) t := by
          intro t k
          refine g215 t ?_
          show Steps p.tables e below (T213.setTop (mkF m 191 #[.val (.int p1), .val (.long q2), .second, .val (.long q3), .second, .val (.int p4), .val (.int p5), .val (.int p6), .val (.long ka), .second, .val (.long kb), .second, .val (.int pa), .val (.int pb), .val (.int ps), .val (.ref b10), .val (.ref b17), .val (.ref b26), .val (.ref b38), .val (.ref b50), .val (.int u1), .val (.int u2), .val (.ref b68), .unset, .unset] [])) _
          refine XS.aload X213.here hx rfl (hb hby at_191) rfl rfl ?_
          refine XS.iload X213.here hx rfl (hb hby at_193) rfl ?_
          refine XS.ifNo X213.here hx rfl (hb hby at_195) rfl ((if0 _ _).trans (feq hc155).1) ?_
          refine XS.aload X213.here hx rfl (hb hby at_198) rfl rfl ?_
          refine XS.goto X213.here hx rfl (pc0 := 200) (pc' := 204) rfl (hb hby at_200) (by decide) (by decide) ?_
          refine XS.aload X213.here hx rfl (hb hby at_204) rfl rfl ?_
          show Steps p.tables e below (T213.setTop (mkF m 206 #[.val (.int p1), .val (.long q2), .second, .val (.long q3), .second, .val (.int p4), .val (.int p5), .val (.int p6), .val (.long ka), .second, .val (.long kb), .second, .val (.int pa), .val (.int pb), .val (.int ps), .val (.ref b10), .val (.ref b17), .val (.ref b26), .val (.ref b38), .val (.ref b50), .val (.int u1), .val (.int u2), .val (.ref b68), .unset, .unset] [(.ref b26), (.ref b50), (.ref b68)])) _
          refine st238.trans ?_
          refine XS.lload X238.here hx rfl (hb hby at_209) rfl ?_
          refine XS.lload X238.here hx rfl (hb hby at_211) rfl ?_
          refine XS.lcmp X238.here hx rfl (hb hby at_213) rfl ?_
          refine XS.ifYes X238.here hx rfl (pc0 := 214) (pc' := 232) rfl (hb hby at_214) rfl ((if0 _ _).trans (tlt ((lw_gt _ _).mpr hc214)).2.2.1) (by decide) (by decide) ?_
          refine XS.iconst X238.here hx rfl (hb hby at_232) ?_
          show Steps p.tables e below (T238.setTop (mkF m 233 #[.val (.int p1), .val (.long q2), .second, .val (.long q3), .second, .val (.int p4), .val (.int p5), .val (.int p6), .val (.long ka), .second, .val (.long kb), .second, .val (.int pa), .val (.int pb), .val (.int ps), .val (.ref b10), .val (.ref b17), .val (.ref b26), .val (.ref b38), .val (.ref b50), .val (.int u1), .val (.int u2), .val (.ref b68), .unset, .unset] [(.int (1 : Int32))])) _
          refine XS.goto X238.here hx rfl (pc0 := 233) (pc' := 237) rfl (hb hby at_233) (by decide) (by decide) ?_
          refine XS.istore X238.here hx rfl (hb hby at_237) rfl (l' := #[.val (.int p1), .val (.long q2), .second, .val (.long q3), .second, .val (.int p4), .val (.int p5), .val (.int p6), .val (.long ka), .second, .val (.long kb), .second, .val (.int pa), .val (.int pb), .val (.int ps), .val (.ref b10), .val (.ref b17), .val (.ref b26), .val (.ref b38), .val (.ref b50), .val (.int u1), .val (.int u2), .val (.ref b68), .val (.int (1 : Int32)), .unset]) rfl ?_
          refine XS.iload X238.here hx rfl (hb hby at_239) rfl ?_
          refine XS.ifNo X238.here hx rfl (hb hby at_241) rfl ((if0 _ _).trans (feq hc155).1) ?_
          refine XS.iload X238.here hx rfl (hb hby at_244) rfl ?_
          refine XS.ifNo X238.here hx rfl (hb hby at_246) rfl ((if0 _ _).trans (feq hc81).1) ?_
          show Steps p.tables e below (T238.setTop (mkF m 249 #[.val (.int p1), .val (.long q2), .second, .val (.long q3), .second, .val (.int p4), .val (.int p5), .val (.int p6), .val (.long ka), .second, .val (.long kb), .second, .val (.int pa), .val (.int pb), .val (.int ps), .val (.ref b10), .val (.ref b17), .val (.ref b26), .val (.ref b38), .val (.ref b50), .val (.int u1), .val (.int u2), .val (.ref b68), .val (.int (1 : Int32)), .unset] [])) _
          refine XS.iload X238.here hx rfl (hb hby at_249) rfl ?_
          refine XS.ifNo X238.here hx rfl (hb hby at_251) rfl ((if0 _ _).trans (feq (by decide : ¬ ((1 : Int32) = (0 : Int32)))).1) ?_
          refine XS.aload X238.here hx rfl (hb hby at_254) rfl rfl ?_
          refine XS.astore X238.here hx rfl (hb hby at_256) rfl rfl (l' := #[.val (.int p1), .val (.long q2), .second, .val (.long q3), .second, .val (.int p4), .val (.int p5), .val (.int p6), .val (.long ka), .second, .val (.long kb), .second, .val (.int pa), .val (.int pb), .val (.int ps), .val (.ref b10), .val (.ref b17), .val (.ref b26), .val (.ref b38), .val (.ref b50), .val (.int u1), .val (.int u2), .val (.ref b68), .val (.int (1 : Int32)), .val (.ref b26)]) rfl ?_
          refine XS.goto X238.here hx rfl (pc0 := 258) (pc' := 277) rfl (hb hby at_258) (by decide) (by decide) ?_
          refine XS.aload X238.here hx rfl (hb hby at_277) rfl rfl ?_
          show Steps p.tables e below (T238.setTop (mkF m 279 #[.val (.int p1), .val (.long q2), .second, .val (.long q3), .second, .val (.int p4), .val (.int p5), .val (.int p6), .val (.long ka), .second, .val (.long kb), .second, .val (.int pa), .val (.int pb), .val (.int ps), .val (.ref b10), .val (.ref b17), .val (.ref b26), .val (.ref b38), .val (.ref b50), .val (.int u1), .val (.int u2), .val (.ref b68), .val (.int (1 : Int32)), .val (.ref b26)] [(.ref b68)])) _
          refine XS.aload X238.here hx rfl (hb hby at_279) rfl rfl ?_
          refine st240.trans ?_
          refine XS.aload X240.here hx rfl (hb hby at_284) rfl rfl ?_
          refine Jvm.RoadKit.acmp (g := (mkF m 286 #[.val (.int p1), .val (.long q2), .second, .val (.long q3), .second, .val (.int p4), .val (.int p5), .val (.int p6), .val (.long ka), .second, .val (.long kb), .second, .val (.int pa), .val (.int pb), .val (.int ps), .val (.ref b10), .val (.ref b17), .val (.ref b26), .val (.ref b38), .val (.ref b50), .val (.int u1), .val (.int u2), .val (.ref b68), .val (.int (1 : Int32)), .val (.ref b26)] [(.ref b26), (.ref b26)])) X240 hx rfl rfl rfl (pc0 := 286) (pc' := 289) (same := true) rfl (hb hby at_286) rfl (decide_eq_true rfl) (by decide) (by decide) ?_
          refine XS.iconst X240.here hx rfl (hb hby at_289) ?_
          refine XS.goto X240.here hx rfl (pc0 := 290) (pc' := 294) rfl (hb hby at_290) (by decide) (by decide) ?_
          exact k
        obtain ⟨fs, hrt, hrun, hended, hRW⟩ := X240.leaveW hS (by rw [e240]; exact hk) (v := some (.int (1 : Int32))) (fun h => by rw [Bd.returns] at h; cases h)
        refine ⟨_, _, g241 _ ?_, hrun, hended, _, _, rfl, ?_, ?_, hRW.1, hRW.2.1, hRW.2.2.1, hRW.2.2.2.mono (by decide) (by decide)⟩
        · show Steps p.tables e below (T240.setTop (mkF m 294 #[.val (.int p1), .val (.long q2), .second, .val (.long q3), .second, .val (.int p4), .val (.int p5), .val (.int p6), .val (.long ka), .second, .val (.long kb), .second, .val (.int pa), .val (.int pb), .val (.int ps), .val (.ref b10), .val (.ref b17), .val (.ref b26), .val (.ref b38), .val (.ref b50), .val (.int u1), .val (.int u2), .val (.ref b68), .val (.int (1 : Int32)), .val (.ref b26)] [(.int (1 : Int32))])) _
          exact retN X240 hx (t := .boolean) Bd.returns (by simp) (hb hby at_294) hrt
        · show own_Q_rm0 Z p1 q2 q3 p4 p5 p6 cs wf h0 n0 _ T240.heap _
          rw [e240]
          exact ⟨rfl, N240⟩
        · rw [hh]
          show CHr Z own_EL s.vm h0 T240.vm T240.heap
          rw [e240]
          exact hC.trans (CHv.at X240 hZ (own_EW hw) hC.1)
      · by_cases hc242 : kb = ka
        · by_cases hc243 : pa < pb
          · obtain ⟨LL244, XL244, NL244⟩ : ∃ LL : List Loc, Stand p l e room_1 (s.setVm T61.vm) m #[(.int p1), (.long q2), (.long q3), (.int p4), (.int p5), (.int p6)] below meth c T213 LL 26 194 ∧ Fr n0 LL := ⟨_, X213, N213⟩
            have f245 := (f204.keep K213)
            have f246 := (f205.keep K213)
            have f247 := (f206.keep K213 (ninS ne_a20_b68 nin0))
            have f248 := (f207.keep K213 (ninS ne_b20_b68 nin0))
            have f249 := (f208.keep K213 (ninS ne_a20_b68 nin0))
            have f250 := (f209.keep K213 (ninS ne_b17_b68 nin0))
            have f251 := (f210.keep K213 (ninS ne_b17_b68 nin0))
            have f252 := (f202.keep K213)
            have f253 := (f203.keep K213 (ninS ne_b38_b68 nin0))
            have f254 := (f211.keep K213 (ninS ne_b38_b68 nin0))
            have f255 := (((Q61_0.ext E68).keep K80).keep K213)
            have f256 := (((Q61_1.ext E68).keep K80 (ninS ne_b50_b68 nin0)).keep K213 (ninS ne_b50_b68 nin0))
            have f257 := (((f76.ext E68).keep K80).keep K213)
            have f258 := (((f71.ext E68).keep K80).keep K213)
            have f259 := ((((((((Fc32.keep K37 (ninS (Exa.ne Ex32 f33 (by decide)) nin0)).ext E38).keep K49 (ninS ne_a32_b38 nin0)).ext E50).keep K61 (ninS ne_a32_b50 nin0)).ext E68).keep K80 (ninS ne_a32_b68 nin0)).keep K213 (ninS ne_a32_b68 nin0))
            have f260 := (((f77.ext E68).keep K80 (ninS ne_b32_b68 nin0)).keep K213 (ninS ne_b32_b68 nin0))
            have f261 := ((((((((Fv32.keep K37 (ninS (Exa.ne Ex32 f33 (by decide)) nin0)).ext E38).keep K49 (ninS ne_a32_b38 nin0)).ext E50).keep K61 (ninS ne_a32_b50 nin0)).ext E68).keep K80 (ninS ne_a32_b68 nin0)).keep K213 (ninS ne_a32_b68 nin0))
            have f262 := (((((((Q37_1.ext E38).keep K49 (ninS ne_b26_b38 nin0)).ext E50).keep K61 (ninS ne_b26_b50 nin0)).ext E68).keep K80 (ninS ne_b26_b68 nin0)).keep K213 (ninS ne_b26_b68 nin0))
            have f263 := (((((((Q37_2.ext E38).keep K49 (ninS ne_b26_b38 nin0)).ext E50).keep K61 (ninS ne_b26_b50 nin0)).ext E68).keep K80 (ninS ne_b26_b68 nin0)).keep K213 (ninS ne_b26_b68 nin0))
            have f264 := (((Q61_2.ext E68).keep K80 (ninS ne_b50_b68 nin0)).keep K213 (ninS ne_b50_b68 nin0))
            have o265 : Old Z n0 T213.heap := (Old.keep o212 K213 (allS gz_b68 all0))
            obtain ⟨cq266, kq266, q266a, q266b, q266c⟩ := isOf hZ rfl Q213_0
            obtain ⟨_, _, ⟨T266, L266, k266, n266⟩, -, X266, ⟨Lc266, hQ266, l266, y266, z266⟩, st266⟩ := XL244.virtualBack hx (y := own_y26) (z := own_y26) hown (mvT hZ (own_w hw 166 rfl)) (mvT hZ (own_w hw 167 rfl)) (notFace_of_selects (args := #[]) (mvT hZ (own_w hw 169 rfl))) (mvT hZ (own_w hw 169 rfl)) (mvT hZ (own_w hw 168 rfl)) (by decide) (backOf (W := 0) (rmA45 l Z a0 hw [] b68 b17 a20 b20 ka20 (pa) b38 (ka) b50 (kb) b26 a32 b32 ka32 (pb) (1 : Int32) cs wf T213.heap n0 o265 G0 Q213_0 f245 f246 f247 f248 f249 f250 f251 Q213_2 f252 f253 f254 Q213_1 f255 f256 f257 f258 f259 f260 f261 f262 f263 f264 gz_b68 (by rw [if_neg (own_irr64 hc242), if_pos hc242, if_neg (own_asy32 hc243), if_neg (own_ne32 hc243)]) (by decide)) hZ (own_w hw 170 rfl) (own_w hw 119 rfl) (by decide) (by decide)) q266a q266c (g := (mkF m 206 #[.val (.int p1), .val (.long q2), .second, .val (.long q3), .second, .val (.int p4), .val (.int p5), .val (.int p6), .val (.long ka), .second, .val (.long kb), .second, .val (.int pa), .val (.int pb), .val (.int ps), .val (.ref b10), .val (.ref b17), .val (.ref b26), .val (.ref b38), .val (.ref b50), .val (.int u1), .val (.int u2), .val (.ref b68), .unset, .unset] [(.ref b26), (.ref b50), (.ref b68)])) rfl (by rw [hml]; rfl) (Steps.refl _) (argsL := [(.ref b50), (.ref b26)]) (rest := []) (lenOf own_pd17 rfl) rfl (by show 2 * 0 + _ ≤ _; exact Nat.le_of_eq rfl) (hb hby at_206) (fun _ _ => ⟨rfl, rfl, (by decide : 26 + 0 ≤ _), (by decide : 194 + 0 ≤ _)⟩)
            dsimp only [Pt.U, Pt.locs, Pt.cells, Pt.slots] at X266 l266 y266 z266 st266 hQ266
            subst l266 y266 z266
            obtain ⟨rfl, Nq266, K266, Q266_0, Q266_1, Q266_2⟩ := hQ266
            have hC := hC.trans (CHr.keep K266 (sfS (Safe.exa hZ.alike Q213_0 (by decide) (by decide)) sf0) hC.1)
            have hk := Nat.le_trans hk K266.1
            have N266 := Fr.app NL244 Nq266
            have o267 : Old Z n0 T266.heap := (Old.keep o265 K266 (allS gz_b68 all0))
            obtain ⟨cq268, kq268, q268a, q268b, q268c⟩ := isOf hZ rfl Q266_0
            obtain ⟨_, _, ⟨T268, L268, k268, n268⟩, -, X268, ⟨Lc268, hQ268, l268, y268, z268⟩, st268⟩ := X266.virtualBack hx (y := own_y27) (z := own_y27) hown (mvT hZ (own_w hw 171 rfl)) (mvT hZ (own_w hw 172 rfl)) (notFace_of_selects (args := #[]) (mvT hZ (own_w hw 174 rfl))) (mvT hZ (own_w hw 174 rfl)) (mvT hZ (own_w hw 173 rfl)) (by decide) (backOf (W := 0) (rmA43 l Z a0 hw [] b68 b26 b50 b10  cs wf T266.heap n0 o267 G0 Q266_0 Q266_2 Q266_1  ) hZ (own_w hw 175 rfl) (own_w hw 119 rfl) (by decide) (by decide)) q268a q268c (g := (mkF m 281 #[.val (.int p1), .val (.long q2), .second, .val (.long q3), .second, .val (.int p4), .val (.int p5), .val (.int p6), .val (.long ka), .second, .val (.long kb), .second, .val (.int pa), .val (.int pb), .val (.int ps), .val (.ref b10), .val (.ref b17), .val (.ref b26), .val (.ref b38), .val (.ref b50), .val (.int u1), .val (.int u2), .val (.ref b68), .val (.int (1 : Int32)), .val (.ref b26)] [(.ref b10), (.ref b68)])) rfl (by rw [hml]; rfl) (Steps.refl _) (argsL := [(.ref b10)]) (rest := []) (lenOf own_pd18 rfl) rfl (by show 2 * 0 + _ ≤ _; exact Nat.le_of_eq rfl) (hb hby at_281) (fun _ _ => ⟨rfl, rfl, (by decide : 26 + 0 ≤ _), (by decide : 194 + 0 ≤ _)⟩)
            dsimp only [Pt.U, Pt.locs, Pt.cells, Pt.slots] at X268 l268 y268 z268 st268 hQ268
            subst l268 y268 z268
            obtain ⟨rfl, Nq268, e268⟩ := hQ268
            have N268 := Fr.app N266 Nq268
            have g269 : ∀ t, Steps p.tables e below (T268.setTop (mkF m 294 #[.val (.int p1), .val (.long q2), .second, .val (.long q3), .second, .val (.int p4), .val (.int p5), .val (.int p6), .val (.long ka), .second, .val (.long kb), .second, .val (.int pa), .val (.int pb), .val (.int ps), .val (.ref b10), .val (.ref b17), .val (.ref b26), .val (.ref b38), .val (.ref b50), .val (.int u1), .val (.int u2), .val (.ref b68), .val (.int (1 : Int32)), .val (.ref b26)] [(.int (1 : Int32))])) t → Steps p.tables e below (s₁.setTop (entryFrame m #[(.int p1), (.long q2), (.long q3), (.int p4), (.int p5), (.int p6)] maxLocals)) t := by
              intro t k
              refine g215 t ?_
              show Steps p.tables e below (T213.setTop (mkF m 191 #[.val (.int p1), .val (.long q2), .second, .val (.long q3), .second, .val (.int p4), .val (.int p5), .val (.int p6), .val (.long ka), .second, .val (.long kb), .second, .val (.int pa), .val (.int pb), .val (.int ps), .val (.ref b10), .val (.ref b17), .val (.ref b26), .val (.ref b38), .val (.ref b50), .val (.int u1), .val (.int u2), .val (.ref b68), .unset, .unset] [])) _
              refine XS.aload X213.here hx rfl (hb hby at_191) rfl rfl ?_
              refine XS.iload X213.here hx rfl (hb hby at_193) rfl ?_
              refine XS.ifNo X213.here hx rfl (hb hby at_195) rfl ((if0 _ _).trans (feq hc155).1) ?_
              refine XS.aload X213.here hx rfl (hb hby at_198) rfl rfl ?_
              refine XS.goto X213.here hx rfl (pc0 := 200) (pc' := 204) rfl (hb hby at_200) (by decide) (by decide) ?_
              refine XS.aload X213.here hx rfl (hb hby at_204) rfl rfl ?_
              show Steps p.tables e below (T213.setTop (mkF m 206 #[.val (.int p1), .val (.long q2), .second, .val (.long q3), .second, .val (.int p4), .val (.int p5), .val (.int p6), .val (.long ka), .second, .val (.long kb), .second, .val (.int pa), .val (.int pb), .val (.int ps), .val (.ref b10), .val (.ref b17), .val (.ref b26), .val (.ref b38), .val (.ref b50), .val (.int u1), .val (.int u2), .val (.ref b68), .unset, .unset] [(.ref b26), (.ref b50), (.ref b68)])) _
              refine st266.trans ?_
              refine XS.lload X266.here hx rfl (hb hby at_209) rfl ?_
              refine XS.lload X266.here hx rfl (hb hby at_211) rfl ?_
              refine XS.lcmp X266.here hx rfl (hb hby at_213) rfl ?_
              refine XS.ifNo X266.here hx rfl (hb hby at_214) rfl ((if0 _ _).trans (flt (fun q => hc214 ((lw_gt _ _).mp q))).2.2.1) ?_
              refine XS.lload X266.here hx rfl (hb hby at_217) rfl ?_
              show Steps p.tables e below (T266.setTop (mkF m 219 #[.val (.int p1), .val (.long q2), .second, .val (.long q3), .second, .val (.int p4), .val (.int p5), .val (.int p6), .val (.long ka), .second, .val (.long kb), .second, .val (.int pa), .val (.int pb), .val (.int ps), .val (.ref b10), .val (.ref b17), .val (.ref b26), .val (.ref b38), .val (.ref b50), .val (.int u1), .val (.int u2), .val (.ref b68), .unset, .unset] [(.long kb)])) _
              refine XS.lload X266.here hx rfl (hb hby at_219) rfl ?_
              refine XS.lcmp X266.here hx rfl (hb hby at_221) rfl ?_
              refine XS.ifNo X266.here hx rfl (hb hby at_222) rfl ((if0 _ _).trans (teq ((lw_eq _ _).mpr hc242)).2) ?_
              refine XS.iload X266.here hx rfl (hb hby at_225) rfl ?_
              refine XS.iload X266.here hx rfl (hb hby at_227) rfl ?_
              refine XS.icmpNo X266.here hx rfl (hb hby at_229) rfl (tlt hc243).2.2.2 ?_
              show Steps p.tables e below (T266.setTop (mkF m 232 #[.val (.int p1), .val (.long q2), .second, .val (.long q3), .second, .val (.int p4), .val (.int p5), .val (.int p6), .val (.long ka), .second, .val (.long kb), .second, .val (.int pa), .val (.int pb), .val (.int ps), .val (.ref b10), .val (.ref b17), .val (.ref b26), .val (.ref b38), .val (.ref b50), .val (.int u1), .val (.int u2), .val (.ref b68), .unset, .unset] [])) _
              refine XS.iconst X266.here hx rfl (hb hby at_232) ?_
              refine XS.goto X266.here hx rfl (pc0 := 233) (pc' := 237) rfl (hb hby at_233) (by decide) (by decide) ?_
              refine XS.istore X266.here hx rfl (hb hby at_237) rfl (l' := #[.val (.int p1), .val (.long q2), .second, .val (.long q3), .second, .val (.int p4), .val (.int p5), .val (.int p6), .val (.long ka), .second, .val (.long kb), .second, .val (.int pa), .val (.int pb), .val (.int ps), .val (.ref b10), .val (.ref b17), .val (.ref b26), .val (.ref b38), .val (.ref b50), .val (.int u1), .val (.int u2), .val (.ref b68), .val (.int (1 : Int32)), .unset]) rfl ?_
              refine XS.iload X266.here hx rfl (hb hby at_239) rfl ?_
              refine XS.ifNo X266.here hx rfl (hb hby at_241) rfl ((if0 _ _).trans (feq hc155).1) ?_
              refine XS.iload X266.here hx rfl (hb hby at_244) rfl ?_
              show Steps p.tables e below (T266.setTop (mkF m 246 #[.val (.int p1), .val (.long q2), .second, .val (.long q3), .second, .val (.int p4), .val (.int p5), .val (.int p6), .val (.long ka), .second, .val (.long kb), .second, .val (.int pa), .val (.int pb), .val (.int ps), .val (.ref b10), .val (.ref b17), .val (.ref b26), .val (.ref b38), .val (.ref b50), .val (.int u1), .val (.int u2), .val (.ref b68), .val (.int (1 : Int32)), .unset] [(.int u1)])) _
              refine XS.ifNo X266.here hx rfl (hb hby at_246) rfl ((if0 _ _).trans (feq hc81).1) ?_
              refine XS.iload X266.here hx rfl (hb hby at_249) rfl ?_
              refine XS.ifNo X266.here hx rfl (hb hby at_251) rfl ((if0 _ _).trans (feq (by decide : ¬ ((1 : Int32) = (0 : Int32)))).1) ?_
              refine XS.aload X266.here hx rfl (hb hby at_254) rfl rfl ?_
              refine XS.astore X266.here hx rfl (hb hby at_256) rfl rfl (l' := #[.val (.int p1), .val (.long q2), .second, .val (.long q3), .second, .val (.int p4), .val (.int p5), .val (.int p6), .val (.long ka), .second, .val (.long kb), .second, .val (.int pa), .val (.int pb), .val (.int ps), .val (.ref b10), .val (.ref b17), .val (.ref b26), .val (.ref b38), .val (.ref b50), .val (.int u1), .val (.int u2), .val (.ref b68), .val (.int (1 : Int32)), .val (.ref b26)]) rfl ?_
              refine XS.goto X266.here hx rfl (pc0 := 258) (pc' := 277) rfl (hb hby at_258) (by decide) (by decide) ?_
              show Steps p.tables e below (T266.setTop (mkF m 277 #[.val (.int p1), .val (.long q2), .second, .val (.long q3), .second, .val (.int p4), .val (.int p5), .val (.int p6), .val (.long ka), .second, .val (.long kb), .second, .val (.int pa), .val (.int pb), .val (.int ps), .val (.ref b10), .val (.ref b17), .val (.ref b26), .val (.ref b38), .val (.ref b50), .val (.int u1), .val (.int u2), .val (.ref b68), .val (.int (1 : Int32)), .val (.ref b26)] [])) _
              refine XS.aload X266.here hx rfl (hb hby at_277) rfl rfl ?_
              refine XS.aload X266.here hx rfl (hb hby at_279) rfl rfl ?_
              refine st268.trans ?_
              refine XS.aload X268.here hx rfl (hb hby at_284) rfl rfl ?_
              refine Jvm.RoadKit.acmp (g := (mkF m 286 #[.val (.int p1), .val (.long q2), .second, .val (.long q3), .second, .val (.int p4), .val (.int p5), .val (.int p6), .val (.long ka), .second, .val (.long kb), .second, .val (.int pa), .val (.int pb), .val (.int ps), .val (.ref b10), .val (.ref b17), .val (.ref b26), .val (.ref b38), .val (.ref b50), .val (.int u1), .val (.int u2), .val (.ref b68), .val (.int (1 : Int32)), .val (.ref b26)] [(.ref b26), (.ref b26)])) X268 hx rfl rfl rfl (pc0 := 286) (pc' := 289) (same := true) rfl (hb hby at_286) rfl (decide_eq_true rfl) (by decide) (by decide) ?_
              refine XS.iconst X268.here hx rfl (hb hby at_289) ?_
              show Steps p.tables e below (T268.setTop (mkF m 290 #[.val (.int p1), .val (.long q2), .second, .val (.long q3), .second, .val (.int p4), .val (.int p5), .val (.int p6), .val (.long ka), .second, .val (.long kb), .second, .val (.int pa), .val (.int pb), .val (.int ps), .val (.ref b10), .val (.ref b17), .val (.ref b26), .val (.ref b38), .val (.ref b50), .val (.int u1), .val (.int u2), .val (.ref b68), .val (.int (1 : Int32)), .val (.ref b26)] [(.int (1 : Int32))])) _
              refine XS.goto X268.here hx rfl (pc0 := 290) (pc' := 294) rfl (hb hby at_290) (by decide) (by decide) ?_
              exact k
            obtain ⟨fs, hrt, hrun, hended, hRW⟩ := X268.leaveW hS (by rw [e268]; exact hk) (v := some (.int (1 : Int32))) (fun h => by rw [Bd.returns] at h; cases h)
            refine ⟨_, _, g269 _ ?_, hrun, hended, _, _, rfl, ?_, ?_, hRW.1, hRW.2.1, hRW.2.2.1, hRW.2.2.2.mono (by decide) (by decide)⟩
            · show Steps p.tables e below (T268.setTop (mkF m 294 #[.val (.int p1), .val (.long q2), .second, .val (.long q3), .second, .val (.int p4), .val (.int p5), .val (.int p6), .val (.long ka), .second, .val (.long kb), .second, .val (.int pa), .val (.int pb), .val (.int ps), .val (.ref b10), .val (.ref b17), .val (.ref b26), .val (.ref b38), .val (.ref b50), .val (.int u1), .val (.int u2), .val (.ref b68), .val (.int (1 : Int32)), .val (.ref b26)] [(.int (1 : Int32))])) _
              exact retN X268 hx (t := .boolean) Bd.returns (by simp) (hb hby at_294) hrt
            · show own_Q_rm0 Z p1 q2 q3 p4 p5 p6 cs wf h0 n0 _ T268.heap _
              rw [e268]
              exact ⟨rfl, N268⟩
            · rw [hh]
              show CHr Z own_EL s.vm h0 T268.vm T268.heap
              rw [e268]
              exact hC.trans (CHv.at X268 hZ (own_EW hw) hC.1)
          · by_cases hc270 : pb = pa
            · obtain ⟨LL271, XL271, NL271⟩ : ∃ LL : List Loc, Stand p l e room_1 (s.setVm T61.vm) m #[(.int p1), (.long q2), (.long q3), (.int p4), (.int p5), (.int p6)] below meth c T213 LL 26 194 ∧ Fr n0 LL := ⟨_, X213, N213⟩
              have f272 := (f204.keep K213)
              have f273 := (f205.keep K213)
              have f274 := (f206.keep K213 (ninS ne_a20_b68 nin0))
              have f275 := (f207.keep K213 (ninS ne_b20_b68 nin0))
              have f276 := (f208.keep K213 (ninS ne_a20_b68 nin0))
              have f277 := (f209.keep K213 (ninS ne_b17_b68 nin0))
              have f278 := (f210.keep K213 (ninS ne_b17_b68 nin0))
              have f279 := (f202.keep K213)
              have f280 := (f203.keep K213 (ninS ne_b38_b68 nin0))
              have f281 := (f211.keep K213 (ninS ne_b38_b68 nin0))
              have f282 := (((Q61_0.ext E68).keep K80).keep K213)
              have f283 := (((Q61_1.ext E68).keep K80 (ninS ne_b50_b68 nin0)).keep K213 (ninS ne_b50_b68 nin0))
              have f284 := (((f76.ext E68).keep K80).keep K213)
              have f285 := (((f71.ext E68).keep K80).keep K213)
              have f286 := ((((((((Fc32.keep K37 (ninS (Exa.ne Ex32 f33 (by decide)) nin0)).ext E38).keep K49 (ninS ne_a32_b38 nin0)).ext E50).keep K61 (ninS ne_a32_b50 nin0)).ext E68).keep K80 (ninS ne_a32_b68 nin0)).keep K213 (ninS ne_a32_b68 nin0))
              have f287 := (((f77.ext E68).keep K80 (ninS ne_b32_b68 nin0)).keep K213 (ninS ne_b32_b68 nin0))
              have f288 := ((((((((Fv32.keep K37 (ninS (Exa.ne Ex32 f33 (by decide)) nin0)).ext E38).keep K49 (ninS ne_a32_b38 nin0)).ext E50).keep K61 (ninS ne_a32_b50 nin0)).ext E68).keep K80 (ninS ne_a32_b68 nin0)).keep K213 (ninS ne_a32_b68 nin0))
              have f289 := (((((((Q37_1.ext E38).keep K49 (ninS ne_b26_b38 nin0)).ext E50).keep K61 (ninS ne_b26_b50 nin0)).ext E68).keep K80 (ninS ne_b26_b68 nin0)).keep K213 (ninS ne_b26_b68 nin0))
              have f290 := (((((((Q37_2.ext E38).keep K49 (ninS ne_b26_b38 nin0)).ext E50).keep K61 (ninS ne_b26_b50 nin0)).ext E68).keep K80 (ninS ne_b26_b68 nin0)).keep K213 (ninS ne_b26_b68 nin0))
              have f291 := (((Q61_2.ext E68).keep K80 (ninS ne_b50_b68 nin0)).keep K213 (ninS ne_b50_b68 nin0))
              have o292 : Old Z n0 T213.heap := (Old.keep o212 K213 (allS gz_b68 all0))
              obtain ⟨cq293, kq293, q293a, q293b, q293c⟩ := isOf hZ rfl Q213_0
              obtain ⟨_, _, ⟨T293, L293, k293, n293⟩, -, X293, ⟨Lc293, hQ293, l293, y293, z293⟩, st293⟩ := XL271.virtualBack hx (y := own_y26) (z := own_y26) hown (mvT hZ (own_w hw 166 rfl)) (mvT hZ (own_w hw 167 rfl)) (notFace_of_selects (args := #[]) (mvT hZ (own_w hw 169 rfl))) (mvT hZ (own_w hw 169 rfl)) (mvT hZ (own_w hw 168 rfl)) (by decide) (backOf (W := 0) (rmA54 l Z a0 hw [] b68 b17 a20 b20 ka20 (pa) b38 (ka) b50 (kb) b26 a32 b32 ka32 (pb) (0 : Int32) cs wf T213.heap n0 o292 G0 Q213_0 f272 f273 f274 f275 f276 f277 f278 Q213_2 f279 f280 f281 Q213_1 f282 f283 f284 f285 f286 f287 f288 f289 f290 f291  (by rw [if_neg (own_irr64 hc242), if_pos hc242, if_neg (own_irr32 hc270), if_pos hc270]) (by decide)) hZ (own_w hw 170 rfl) (own_w hw 119 rfl) (by decide) (by decide)) q293a q293c (g := (mkF m 206 #[.val (.int p1), .val (.long q2), .second, .val (.long q3), .second, .val (.int p4), .val (.int p5), .val (.int p6), .val (.long ka), .second, .val (.long kb), .second, .val (.int pa), .val (.int pb), .val (.int ps), .val (.ref b10), .val (.ref b17), .val (.ref b26), .val (.ref b38), .val (.ref b50), .val (.int u1), .val (.int u2), .val (.ref b68), .unset, .unset] [(.ref b26), (.ref b50), (.ref b68)])) rfl (by rw [hml]; rfl) (Steps.refl _) (argsL := [(.ref b50), (.ref b26)]) (rest := []) (lenOf own_pd17 rfl) rfl (by show 2 * 0 + _ ≤ _; exact Nat.le_of_eq rfl) (hb hby at_206) (fun _ _ => ⟨rfl, rfl, (by decide : 26 + 0 ≤ _), (by decide : 194 + 0 ≤ _)⟩)
              dsimp only [Pt.U, Pt.locs, Pt.cells, Pt.slots] at X293 l293 y293 z293 st293 hQ293
              subst l293 y293 z293
              obtain ⟨rfl, Nq293, e293⟩ := hQ293
              have N293 := Fr.app NL271 Nq293
              obtain ⟨cq294, kq294, q294a, q294b, q294c⟩ := isOf hZ e293 Q213_0
              obtain ⟨_, _, ⟨T294, L294, k294, n294⟩, -, X294, ⟨Lc294, hQ294, l294, y294, z294⟩, st294⟩ := X293.virtualBack hx (y := own_y27) (z := own_y27) hown (mvT hZ (own_w hw 171 rfl)) (mvT hZ (own_w hw 172 rfl)) (notFace_of_selects (args := #[]) (mvT hZ (own_w hw 174 rfl))) (mvT hZ (own_w hw 174 rfl)) (mvT hZ (own_w hw 173 rfl)) (by decide) (backOf (W := 0) (rmA43 l Z a0 hw [] b68 b17 b38 b10  cs wf T213.heap n0 o292 G0 Q213_0 Q213_2 Q213_1  ) hZ (own_w hw 175 rfl) (own_w hw 119 rfl) (by decide) (by decide)) q294a q294c (g := (mkF m 281 #[.val (.int p1), .val (.long q2), .second, .val (.long q3), .second, .val (.int p4), .val (.int p5), .val (.int p6), .val (.long ka), .second, .val (.long kb), .second, .val (.int pa), .val (.int pb), .val (.int ps), .val (.ref b10), .val (.ref b17), .val (.ref b26), .val (.ref b38), .val (.ref b50), .val (.int u1), .val (.int u2), .val (.ref b68), .val (.int (0 : Int32)), .val (.ref b17)] [(.ref b10), (.ref b68)])) rfl (by rw [hml]; rfl) (Steps.refl _) (argsL := [(.ref b10)]) (rest := []) (lenOf own_pd18 rfl) rfl (by show 2 * 0 + _ ≤ _; exact Nat.le_of_eq rfl) (hb hby at_281) (fun _ _ => ⟨rfl, e293, (by decide : 26 + 0 ≤ _), (by decide : 194 + 0 ≤ _)⟩)
              dsimp only [Pt.U, Pt.locs, Pt.cells, Pt.slots] at X294 l294 y294 z294 st294 hQ294
              subst l294 y294 z294
              obtain ⟨rfl, Nq294, e294⟩ := hQ294
              have N294 := Fr.app N293 Nq294
              have g295 : ∀ t, Steps p.tables e below (T294.setTop (mkF m 294 #[.val (.int p1), .val (.long q2), .second, .val (.long q3), .second, .val (.int p4), .val (.int p5), .val (.int p6), .val (.long ka), .second, .val (.long kb), .second, .val (.int pa), .val (.int pb), .val (.int ps), .val (.ref b10), .val (.ref b17), .val (.ref b26), .val (.ref b38), .val (.ref b50), .val (.int u1), .val (.int u2), .val (.ref b68), .val (.int (0 : Int32)), .val (.ref b17)] [(.int (1 : Int32))])) t → Steps p.tables e below (s₁.setTop (entryFrame m #[(.int p1), (.long q2), (.long q3), (.int p4), (.int p5), (.int p6)] maxLocals)) t := by
                intro t k
                refine g215 t ?_
                show Steps p.tables e below (T213.setTop (mkF m 191 #[.val (.int p1), .val (.long q2), .second, .val (.long q3), .second, .val (.int p4), .val (.int p5), .val (.int p6), .val (.long ka), .second, .val (.long kb), .second, .val (.int pa), .val (.int pb), .val (.int ps), .val (.ref b10), .val (.ref b17), .val (.ref b26), .val (.ref b38), .val (.ref b50), .val (.int u1), .val (.int u2), .val (.ref b68), .unset, .unset] [])) _
                refine XS.aload X213.here hx rfl (hb hby at_191) rfl rfl ?_
                refine XS.iload X213.here hx rfl (hb hby at_193) rfl ?_
                refine XS.ifNo X213.here hx rfl (hb hby at_195) rfl ((if0 _ _).trans (feq hc155).1) ?_
                refine XS.aload X213.here hx rfl (hb hby at_198) rfl rfl ?_
                refine XS.goto X213.here hx rfl (pc0 := 200) (pc' := 204) rfl (hb hby at_200) (by decide) (by decide) ?_
                refine XS.aload X213.here hx rfl (hb hby at_204) rfl rfl ?_
                show Steps p.tables e below (T213.setTop (mkF m 206 #[.val (.int p1), .val (.long q2), .second, .val (.long q3), .second, .val (.int p4), .val (.int p5), .val (.int p6), .val (.long ka), .second, .val (.long kb), .second, .val (.int pa), .val (.int pb), .val (.int ps), .val (.ref b10), .val (.ref b17), .val (.ref b26), .val (.ref b38), .val (.ref b50), .val (.int u1), .val (.int u2), .val (.ref b68), .unset, .unset] [(.ref b26), (.ref b50), (.ref b68)])) _
                refine st293.trans ?_
                refine XS.lload X293.here hx rfl (hb hby at_209) rfl ?_
                refine XS.lload X293.here hx rfl (hb hby at_211) rfl ?_
                refine XS.lcmp X293.here hx rfl (hb hby at_213) rfl ?_
                refine XS.ifNo X293.here hx rfl (hb hby at_214) rfl ((if0 _ _).trans (flt (fun q => hc214 ((lw_gt _ _).mp q))).2.2.1) ?_
                refine XS.lload X293.here hx rfl (hb hby at_217) rfl ?_
                show Steps p.tables e below (T293.setTop (mkF m 219 #[.val (.int p1), .val (.long q2), .second, .val (.long q3), .second, .val (.int p4), .val (.int p5), .val (.int p6), .val (.long ka), .second, .val (.long kb), .second, .val (.int pa), .val (.int pb), .val (.int ps), .val (.ref b10), .val (.ref b17), .val (.ref b26), .val (.ref b38), .val (.ref b50), .val (.int u1), .val (.int u2), .val (.ref b68), .unset, .unset] [(.long kb)])) _
                refine XS.lload X293.here hx rfl (hb hby at_219) rfl ?_
                refine XS.lcmp X293.here hx rfl (hb hby at_221) rfl ?_
                refine XS.ifNo X293.here hx rfl (hb hby at_222) rfl ((if0 _ _).trans (teq ((lw_eq _ _).mpr hc242)).2) ?_
                refine XS.iload X293.here hx rfl (hb hby at_225) rfl ?_
                refine XS.iload X293.here hx rfl (hb hby at_227) rfl ?_
                refine XS.icmpYes X293.here hx rfl (pc0 := 229) (pc' := 236) rfl (hb hby at_229) rfl (flt hc243).2.2.2 (by decide) (by decide) ?_
                show Steps p.tables e below (T293.setTop (mkF m 236 #[.val (.int p1), .val (.long q2), .second, .val (.long q3), .second, .val (.int p4), .val (.int p5), .val (.int p6), .val (.long ka), .second, .val (.long kb), .second, .val (.int pa), .val (.int pb), .val (.int ps), .val (.ref b10), .val (.ref b17), .val (.ref b26), .val (.ref b38), .val (.ref b50), .val (.int u1), .val (.int u2), .val (.ref b68), .unset, .unset] [])) _
                refine XS.iconst X293.here hx rfl (hb hby at_236) ?_
                refine XS.istore X293.here hx rfl (hb hby at_237) rfl (l' := #[.val (.int p1), .val (.long q2), .second, .val (.long q3), .second, .val (.int p4), .val (.int p5), .val (.int p6), .val (.long ka), .second, .val (.long kb), .second, .val (.int pa), .val (.int pb), .val (.int ps), .val (.ref b10), .val (.ref b17), .val (.ref b26), .val (.ref b38), .val (.ref b50), .val (.int u1), .val (.int u2), .val (.ref b68), .val (.int (0 : Int32)), .unset]) rfl ?_
                refine XS.iload X293.here hx rfl (hb hby at_239) rfl ?_
                refine XS.ifNo X293.here hx rfl (hb hby at_241) rfl ((if0 _ _).trans (feq hc155).1) ?_
                refine XS.iload X293.here hx rfl (hb hby at_244) rfl ?_
                refine XS.ifNo X293.here hx rfl (hb hby at_246) rfl ((if0 _ _).trans (feq hc81).1) ?_
                show Steps p.tables e below (T293.setTop (mkF m 249 #[.val (.int p1), .val (.long q2), .second, .val (.long q3), .second, .val (.int p4), .val (.int p5), .val (.int p6), .val (.long ka), .second, .val (.long kb), .second, .val (.int pa), .val (.int pb), .val (.int ps), .val (.ref b10), .val (.ref b17), .val (.ref b26), .val (.ref b38), .val (.ref b50), .val (.int u1), .val (.int u2), .val (.ref b68), .val (.int (0 : Int32)), .unset] [])) _
                refine XS.iload X293.here hx rfl (hb hby at_249) rfl ?_
                refine XS.ifYes X293.here hx rfl (pc0 := 251) (pc' := 261) rfl (hb hby at_251) rfl ((if0 _ _).trans (teq (by decide : (0 : Int32) = (0 : Int32))).1) (by decide) (by decide) ?_
                refine XS.iload X293.here hx rfl (hb hby at_261) rfl ?_
                refine XS.ifNo X293.here hx rfl (hb hby at_263) rfl ((if0 _ _).trans (feq hc81).1) ?_
                refine XS.aload X293.here hx rfl (hb hby at_266) rfl rfl ?_
                refine XS.astore X293.here hx rfl (hb hby at_268) rfl rfl (l' := #[.val (.int p1), .val (.long q2), .second, .val (.long q3), .second, .val (.int p4), .val (.int p5), .val (.int p6), .val (.long ka), .second, .val (.long kb), .second, .val (.int pa), .val (.int pb), .val (.int ps), .val (.ref b10), .val (.ref b17), .val (.ref b26), .val (.ref b38), .val (.ref b50), .val (.int u1), .val (.int u2), .val (.ref b68), .val (.int (0 : Int32)), .val (.ref b17)]) rfl ?_
                show Steps p.tables e below (T293.setTop (mkF m 270 #[.val (.int p1), .val (.long q2), .second, .val (.long q3), .second, .val (.int p4), .val (.int p5), .val (.int p6), .val (.long ka), .second, .val (.long kb), .second, .val (.int pa), .val (.int pb), .val (.int ps), .val (.ref b10), .val (.ref b17), .val (.ref b26), .val (.ref b38), .val (.ref b50), .val (.int u1), .val (.int u2), .val (.ref b68), .val (.int (0 : Int32)), .val (.ref b17)] [])) _
                refine XS.goto X293.here hx rfl (pc0 := 270) (pc' := 277) rfl (hb hby at_270) (by decide) (by decide) ?_
                refine XS.aload X293.here hx rfl (hb hby at_277) rfl rfl ?_
                refine XS.aload X293.here hx rfl (hb hby at_279) rfl rfl ?_
                refine st294.trans ?_
                refine XS.aload X294.here hx rfl (hb hby at_284) rfl rfl ?_
                refine Jvm.RoadKit.acmp (g := (mkF m 286 #[.val (.int p1), .val (.long q2), .second, .val (.long q3), .second, .val (.int p4), .val (.int p5), .val (.int p6), .val (.long ka), .second, .val (.long kb), .second, .val (.int pa), .val (.int pb), .val (.int ps), .val (.ref b10), .val (.ref b17), .val (.ref b26), .val (.ref b38), .val (.ref b50), .val (.int u1), .val (.int u2), .val (.ref b68), .val (.int (0 : Int32)), .val (.ref b17)] [(.ref b17), (.ref b17)])) X294 hx rfl rfl rfl (pc0 := 286) (pc' := 289) (same := true) rfl (hb hby at_286) rfl (decide_eq_true rfl) (by decide) (by decide) ?_
                show Steps p.tables e below (T294.setTop (mkF m 289 #[.val (.int p1), .val (.long q2), .second, .val (.long q3), .second, .val (.int p4), .val (.int p5), .val (.int p6), .val (.long ka), .second, .val (.long kb), .second, .val (.int pa), .val (.int pb), .val (.int ps), .val (.ref b10), .val (.ref b17), .val (.ref b26), .val (.ref b38), .val (.ref b50), .val (.int u1), .val (.int u2), .val (.ref b68), .val (.int (0 : Int32)), .val (.ref b17)] [])) _
                refine XS.iconst X294.here hx rfl (hb hby at_289) ?_
                refine XS.goto X294.here hx rfl (pc0 := 290) (pc' := 294) rfl (hb hby at_290) (by decide) (by decide) ?_
                exact k
              obtain ⟨fs, hrt, hrun, hended, hRW⟩ := X294.leaveW hS (by rw [e294]; exact hk) (v := some (.int (1 : Int32))) (fun h => by rw [Bd.returns] at h; cases h)
              refine ⟨_, _, g295 _ ?_, hrun, hended, _, _, rfl, ?_, ?_, hRW.1, hRW.2.1, hRW.2.2.1, hRW.2.2.2.mono (by decide) (by decide)⟩
              · show Steps p.tables e below (T294.setTop (mkF m 294 #[.val (.int p1), .val (.long q2), .second, .val (.long q3), .second, .val (.int p4), .val (.int p5), .val (.int p6), .val (.long ka), .second, .val (.long kb), .second, .val (.int pa), .val (.int pb), .val (.int ps), .val (.ref b10), .val (.ref b17), .val (.ref b26), .val (.ref b38), .val (.ref b50), .val (.int u1), .val (.int u2), .val (.ref b68), .val (.int (0 : Int32)), .val (.ref b17)] [(.int (1 : Int32))])) _
                exact retN X294 hx (t := .boolean) Bd.returns (by simp) (hb hby at_294) hrt
              · show own_Q_rm0 Z p1 q2 q3 p4 p5 p6 cs wf h0 n0 _ T294.heap _
                rw [e294]
                exact ⟨rfl, N294⟩
              · rw [hh]
                show CHr Z own_EL s.vm h0 T294.vm T294.heap
                rw [e294]
                exact hC.trans (CHv.at X294 hZ (own_EW hw) hC.1)
            · obtain ⟨LL296, XL296, NL296⟩ : ∃ LL : List Loc, Stand p l e room_1 (s.setVm T61.vm) m #[(.int p1), (.long q2), (.long q3), (.int p4), (.int p5), (.int p6)] below meth c T213 LL 26 194 ∧ Fr n0 LL := ⟨_, X213, N213⟩
              have f297 := (f204.keep K213)
              have f298 := (f205.keep K213)
              have f299 := (f206.keep K213 (ninS ne_a20_b68 nin0))
              have f300 := (f207.keep K213 (ninS ne_b20_b68 nin0))
              have f301 := (f208.keep K213 (ninS ne_a20_b68 nin0))
              have f302 := (f209.keep K213 (ninS ne_b17_b68 nin0))
              have f303 := (f210.keep K213 (ninS ne_b17_b68 nin0))
              have f304 := (f202.keep K213)
              have f305 := (f203.keep K213 (ninS ne_b38_b68 nin0))
              have f306 := (f211.keep K213 (ninS ne_b38_b68 nin0))
              have f307 := (((Q61_0.ext E68).keep K80).keep K213)
              have f308 := (((Q61_1.ext E68).keep K80 (ninS ne_b50_b68 nin0)).keep K213 (ninS ne_b50_b68 nin0))
              have f309 := (((f76.ext E68).keep K80).keep K213)
              have f310 := (((f71.ext E68).keep K80).keep K213)
              have f311 := ((((((((Fc32.keep K37 (ninS (Exa.ne Ex32 f33 (by decide)) nin0)).ext E38).keep K49 (ninS ne_a32_b38 nin0)).ext E50).keep K61 (ninS ne_a32_b50 nin0)).ext E68).keep K80 (ninS ne_a32_b68 nin0)).keep K213 (ninS ne_a32_b68 nin0))
              have f312 := (((f77.ext E68).keep K80 (ninS ne_b32_b68 nin0)).keep K213 (ninS ne_b32_b68 nin0))
              have f313 := ((((((((Fv32.keep K37 (ninS (Exa.ne Ex32 f33 (by decide)) nin0)).ext E38).keep K49 (ninS ne_a32_b38 nin0)).ext E50).keep K61 (ninS ne_a32_b50 nin0)).ext E68).keep K80 (ninS ne_a32_b68 nin0)).keep K213 (ninS ne_a32_b68 nin0))
              have f314 := (((((((Q37_1.ext E38).keep K49 (ninS ne_b26_b38 nin0)).ext E50).keep K61 (ninS ne_b26_b50 nin0)).ext E68).keep K80 (ninS ne_b26_b68 nin0)).keep K213 (ninS ne_b26_b68 nin0))
              have f315 := (((((((Q37_2.ext E38).keep K49 (ninS ne_b26_b38 nin0)).ext E50).keep K61 (ninS ne_b26_b50 nin0)).ext E68).keep K80 (ninS ne_b26_b68 nin0)).keep K213 (ninS ne_b26_b68 nin0))
              have f316 := (((Q61_2.ext E68).keep K80 (ninS ne_b50_b68 nin0)).keep K213 (ninS ne_b50_b68 nin0))
              have o317 : Old Z n0 T213.heap := (Old.keep o212 K213 (allS gz_b68 all0))
              obtain ⟨cq318, kq318, q318a, q318b, q318c⟩ := isOf hZ rfl Q213_0
              obtain ⟨_, _, ⟨T318, L318, k318, n318⟩, -, X318, ⟨Lc318, hQ318, l318, y318, z318⟩, st318⟩ := XL296.virtualBack hx (y := own_y26) (z := own_y26) hown (mvT hZ (own_w hw 166 rfl)) (mvT hZ (own_w hw 167 rfl)) (notFace_of_selects (args := #[]) (mvT hZ (own_w hw 169 rfl))) (mvT hZ (own_w hw 169 rfl)) (mvT hZ (own_w hw 168 rfl)) (by decide) (backOf (W := 0) (rmA54 l Z a0 hw [] b68 b17 a20 b20 ka20 (pa) b38 (ka) b50 (kb) b26 a32 b32 ka32 (pb) (-1 : Int32) cs wf T213.heap n0 o317 G0 Q213_0 f297 f298 f299 f300 f301 f302 f303 Q213_2 f304 f305 f306 Q213_1 f307 f308 f309 f310 f311 f312 f313 f314 f315 f316  (by rw [if_neg (own_irr64 hc242), if_pos hc242, if_pos (own_tri32 hc243 hc270)]) (by decide)) hZ (own_w hw 170 rfl) (own_w hw 119 rfl) (by decide) (by decide)) q318a q318c (g := (mkF m 206 #[.val (.int p1), .val (.long q2), .second, .val (.long q3), .second, .val (.int p4), .val (.int p5), .val (.int p6), .val (.long ka), .second, .val (.long kb), .second, .val (.int pa), .val (.int pb), .val (.int ps), .val (.ref b10), .val (.ref b17), .val (.ref b26), .val (.ref b38), .val (.ref b50), .val (.int u1), .val (.int u2), .val (.ref b68), .unset, .unset] [(.ref b26), (.ref b50), (.ref b68)])) rfl (by rw [hml]; rfl) (Steps.refl _) (argsL := [(.ref b50), (.ref b26)]) (rest := []) (lenOf own_pd17 rfl) rfl (by show 2 * 0 + _ ≤ _; exact Nat.le_of_eq rfl) (hb hby at_206) (fun _ _ => ⟨rfl, rfl, (by decide : 26 + 0 ≤ _), (by decide : 194 + 0 ≤ _)⟩)
              dsimp only [Pt.U, Pt.locs, Pt.cells, Pt.slots] at X318 l318 y318 z318 st318 hQ318
              subst l318 y318 z318
              obtain ⟨rfl, Nq318, e318⟩ := hQ318
              have N318 := Fr.app NL296 Nq318
              obtain ⟨cq319, kq319, q319a, q319b, q319c⟩ := isOf hZ e318 Q213_0
              obtain ⟨_, _, ⟨T319, L319, k319, n319⟩, -, X319, ⟨Lc319, hQ319, l319, y319, z319⟩, st319⟩ := X318.virtualBack hx (y := own_y27) (z := own_y27) hown (mvT hZ (own_w hw 171 rfl)) (mvT hZ (own_w hw 172 rfl)) (notFace_of_selects (args := #[]) (mvT hZ (own_w hw 174 rfl))) (mvT hZ (own_w hw 174 rfl)) (mvT hZ (own_w hw 173 rfl)) (by decide) (backOf (W := 0) (rmA43 l Z a0 hw [] b68 b17 b38 b10  cs wf T213.heap n0 o317 G0 Q213_0 Q213_2 Q213_1  ) hZ (own_w hw 175 rfl) (own_w hw 119 rfl) (by decide) (by decide)) q319a q319c (g := (mkF m 281 #[.val (.int p1), .val (.long q2), .second, .val (.long q3), .second, .val (.int p4), .val (.int p5), .val (.int p6), .val (.long ka), .second, .val (.long kb), .second, .val (.int pa), .val (.int pb), .val (.int ps), .val (.ref b10), .val (.ref b17), .val (.ref b26), .val (.ref b38), .val (.ref b50), .val (.int u1), .val (.int u2), .val (.ref b68), .val (.int (0 : Int32)), .val (.ref b17)] [(.ref b10), (.ref b68)])) rfl (by rw [hml]; rfl) (Steps.refl _) (argsL := [(.ref b10)]) (rest := []) (lenOf own_pd18 rfl) rfl (by show 2 * 0 + _ ≤ _; exact Nat.le_of_eq rfl) (hb hby at_281) (fun _ _ => ⟨rfl, e318, (by decide : 26 + 0 ≤ _), (by decide : 194 + 0 ≤ _)⟩)
              dsimp only [Pt.U, Pt.locs, Pt.cells, Pt.slots] at X319 l319 y319 z319 st319 hQ319
              subst l319 y319 z319
              obtain ⟨rfl, Nq319, e319⟩ := hQ319
              have N319 := Fr.app N318 Nq319
              have g320 : ∀ t, Steps p.tables e below (T319.setTop (mkF m 294 #[.val (.int p1), .val (.long q2), .second, .val (.long q3), .second, .val (.int p4), .val (.int p5), .val (.int p6), .val (.long ka), .second, .val (.long kb), .second, .val (.int pa), .val (.int pb), .val (.int ps), .val (.ref b10), .val (.ref b17), .val (.ref b26), .val (.ref b38), .val (.ref b50), .val (.int u1), .val (.int u2), .val (.ref b68), .val (.int (0 : Int32)), .val (.ref b17)] [(.int (1 : Int32))])) t → Steps p.tables e below (s₁.setTop (entryFrame m #[(.int p1), (.long q2), (.long q3), (.int p4), (.int p5), (.int p6)] maxLocals)) t := by
                intro t k
                refine g215 t ?_
                show Steps p.tables e below (T213.setTop (mkF m 191 #[.val (.int p1), .val (.long q2), .second, .val (.long q3), .second, .val (.int p4), .val (.int p5), .val (.int p6), .val (.long ka), .second, .val (.long kb), .second, .val (.int pa), .val (.int pb), .val (.int ps), .val (.ref b10), .val (.ref b17), .val (.ref b26), .val (.ref b38), .val (.ref b50), .val (.int u1), .val (.int u2), .val (.ref b68), .unset, .unset] [])) _
                refine XS.aload X213.here hx rfl (hb hby at_191) rfl rfl ?_
                refine XS.iload X213.here hx rfl (hb hby at_193) rfl ?_
                refine XS.ifNo X213.here hx rfl (hb hby at_195) rfl ((if0 _ _).trans (feq hc155).1) ?_
                refine XS.aload X213.here hx rfl (hb hby at_198) rfl rfl ?_
                refine XS.goto X213.here hx rfl (pc0 := 200) (pc' := 204) rfl (hb hby at_200) (by decide) (by decide) ?_
                refine XS.aload X213.here hx rfl (hb hby at_204) rfl rfl ?_
                show Steps p.tables e below (T213.setTop (mkF m 206 #[.val (.int p1), .val (.long q2), .second, .val (.long q3), .second, .val (.int p4), .val (.int p5), .val (.int p6), .val (.long ka), .second, .val (.long kb), .second, .val (.int pa), .val (.int pb), .val (.int ps), .val (.ref b10), .val (.ref b17), .val (.ref b26), .val (.ref b38), .val (.ref b50), .val (.int u1), .val (.int u2), .val (.ref b68), .unset, .unset] [(.ref b26), (.ref b50), (.ref b68)])) _
                refine st318.trans ?_
                refine XS.lload X318.here hx rfl (hb hby at_209) rfl ?_
                refine XS.lload X318.here hx rfl (hb hby at_211) rfl ?_
                refine XS.lcmp X318.here hx rfl (hb hby at_213) rfl ?_
                refine XS.ifNo X318.here hx rfl (hb hby at_214) rfl ((if0 _ _).trans (flt (fun q => hc214 ((lw_gt _ _).mp q))).2.2.1) ?_
                refine XS.lload X318.here hx rfl (hb hby at_217) rfl ?_
                show Steps p.tables e below (T318.setTop (mkF m 219 #[.val (.int p1), .val (.long q2), .second, .val (.long q3), .second, .val (.int p4), .val (.int p5), .val (.int p6), .val (.long ka), .second, .val (.long kb), .second, .val (.int pa), .val (.int pb), .val (.int ps), .val (.ref b10), .val (.ref b17), .val (.ref b26), .val (.ref b38), .val (.ref b50), .val (.int u1), .val (.int u2), .val (.ref b68), .unset, .unset] [(.long kb)])) _
                refine XS.lload X318.here hx rfl (hb hby at_219) rfl ?_
                refine XS.lcmp X318.here hx rfl (hb hby at_221) rfl ?_
                refine XS.ifNo X318.here hx rfl (hb hby at_222) rfl ((if0 _ _).trans (teq ((lw_eq _ _).mpr hc242)).2) ?_
                refine XS.iload X318.here hx rfl (hb hby at_225) rfl ?_
                refine XS.iload X318.here hx rfl (hb hby at_227) rfl ?_
                refine XS.icmpYes X318.here hx rfl (pc0 := 229) (pc' := 236) rfl (hb hby at_229) rfl (flt hc243).2.2.2 (by decide) (by decide) ?_
                show Steps p.tables e below (T318.setTop (mkF m 236 #[.val (.int p1), .val (.long q2), .second, .val (.long q3), .second, .val (.int p4), .val (.int p5), .val (.int p6), .val (.long ka), .second, .val (.long kb), .second, .val (.int pa), .val (.int pb), .val (.int ps), .val (.ref b10), .val (.ref b17), .val (.ref b26), .val (.ref b38), .val (.ref b50), .val (.int u1), .val (.int u2), .val (.ref b68), .unset, .unset] [])) _
                refine XS.iconst X318.here hx rfl (hb hby at_236) ?_
                refine XS.istore X318.here hx rfl (hb hby at_237) rfl (l' := #[.val (.int p1), .val (.long q2), .second, .val (.long q3), .second, .val (.int p4), .val (.int p5), .val (.int p6), .val (.long ka), .second, .val (.long kb), .second, .val (.int pa), .val (.int pb), .val (.int ps), .val (.ref b10), .val (.ref b17), .val (.ref b26), .val (.ref b38), .val (.ref b50), .val (.int u1), .val (.int u2), .val (.ref b68), .val (.int (0 : Int32)), .unset]) rfl ?_
                refine XS.iload X318.here hx rfl (hb hby at_239) rfl ?_
                refine XS.ifNo X318.here hx rfl (hb hby at_241) rfl ((if0 _ _).trans (feq hc155).1) ?_
                refine XS.iload X318.here hx rfl (hb hby at_244) rfl ?_
                refine XS.ifNo X318.here hx rfl (hb hby at_246) rfl ((if0 _ _).trans (feq hc81).1) ?_
                show Steps p.tables e below (T318.setTop (mkF m 249 #[.val (.int p1), .val (.long q2), .second, .val (.long q3), .second, .val (.int p4), .val (.int p5), .val (.int p6), .val (.long ka), .second, .val (.long kb), .second, .val (.int pa), .val (.int pb), .val (.int ps), .val (.ref b10), .val (.ref b17), .val (.ref b26), .val (.ref b38), .val (.ref b50), .val (.int u1), .val (.int u2), .val (.ref b68), .val (.int (0 : Int32)), .unset] [])) _
                refine XS.iload X318.here hx rfl (hb hby at_249) rfl ?_
                refine XS.ifYes X318.here hx rfl (pc0 := 251) (pc' := 261) rfl (hb hby at_251) rfl ((if0 _ _).trans (teq (by decide : (0 : Int32) = (0 : Int32))).1) (by decide) (by decide) ?_
                refine XS.iload X318.here hx rfl (hb hby at_261) rfl ?_
                refine XS.ifNo X318.here hx rfl (hb hby at_263) rfl ((if0 _ _).trans (feq hc81).1) ?_
                refine XS.aload X318.here hx rfl (hb hby at_266) rfl rfl ?_
                refine XS.astore X318.here hx rfl (hb hby at_268) rfl rfl (l' := #[.val (.int p1), .val (.long q2), .second, .val (.long q3), .second, .val (.int p4), .val (.int p5), .val (.int p6), .val (.long ka), .second, .val (.long kb), .second, .val (.int pa), .val (.int pb), .val (.int ps), .val (.ref b10), .val (.ref b17), .val (.ref b26), .val (.ref b38), .val (.ref b50), .val (.int u1), .val (.int u2), .val (.ref b68), .val (.int (0 : Int32)), .val (.ref b17)]) rfl ?_
                show Steps p.tables e below (T318.setTop (mkF m 270 #[.val (.int p1), .val (.long q2), .second, .val (.long q3), .second, .val (.int p4), .val (.int p5), .val (.int p6), .val (.long ka), .second, .val (.long kb), .second, .val (.int pa), .val (.int pb), .val (.int ps), .val (.ref b10), .val (.ref b17), .val (.ref b26), .val (.ref b38), .val (.ref b50), .val (.int u1), .val (.int u2), .val (.ref b68), .val (.int (0 : Int32)), .val (.ref b17)] [])) _
                refine XS.goto X318.here hx rfl (pc0 := 270) (pc' := 277) rfl (hb hby at_270) (by decide) (by decide) ?_
                refine XS.aload X318.here hx rfl (hb hby at_277) rfl rfl ?_
                refine XS.aload X318.here hx rfl (hb hby at_279) rfl rfl ?_
                refine st319.trans ?_
                refine XS.aload X319.here hx rfl (hb hby at_284) rfl rfl ?_
                refine Jvm.RoadKit.acmp (g := (mkF m 286 #[.val (.int p1), .val (.long q2), .second, .val (.long q3), .second, .val (.int p4), .val (.int p5), .val (.int p6), .val (.long ka), .second, .val (.long kb), .second, .val (.int pa), .val (.int pb), .val (.int ps), .val (.ref b10), .val (.ref b17), .val (.ref b26), .val (.ref b38), .val (.ref b50), .val (.int u1), .val (.int u2), .val (.ref b68), .val (.int (0 : Int32)), .val (.ref b17)] [(.ref b17), (.ref b17)])) X319 hx rfl rfl rfl (pc0 := 286) (pc' := 289) (same := true) rfl (hb hby at_286) rfl (decide_eq_true rfl) (by decide) (by decide) ?_
                show Steps p.tables e below (T319.setTop (mkF m 289 #[.val (.int p1), .val (.long q2), .second, .val (.long q3), .second, .val (.int p4), .val (.int p5), .val (.int p6), .val (.long ka), .second, .val (.long kb), .second, .val (.int pa), .val (.int pb), .val (.int ps), .val (.ref b10), .val (.ref b17), .val (.ref b26), .val (.ref b38), .val (.ref b50), .val (.int u1), .val (.int u2), .val (.ref b68), .val (.int (0 : Int32)), .val (.ref b17)] [])) _
                refine XS.iconst X319.here hx rfl (hb hby at_289) ?_
                refine XS.goto X319.here hx rfl (pc0 := 290) (pc' := 294) rfl (hb hby at_290) (by decide) (by decide) ?_
                exact k
              obtain ⟨fs, hrt, hrun, hended, hRW⟩ := X319.leaveW hS (by rw [e319]; exact hk) (v := some (.int (1 : Int32))) (fun h => by rw [Bd.returns] at h; cases h)
              refine ⟨_, _, g320 _ ?_, hrun, hended, _, _, rfl, ?_, ?_, hRW.1, hRW.2.1, hRW.2.2.1, hRW.2.2.2.mono (by decide) (by decide)⟩
              · show Steps p.tables e below (T319.setTop (mkF m 294 #[.val (.int p1), .val (.long q2), .second, .val (.long q3), .second, .val (.int p4), .val (.int p5), .val (.int p6), .val (.long ka), .second, .val (.long kb), .second, .val (.int pa), .val (.int pb), .val (.int ps), .val (.ref b10), .val (.ref b17), .val (.ref b26), .val (.ref b38), .val (.ref b50), .val (.int u1), .val (.int u2), .val (.ref b68), .val (.int (0 : Int32)), .val (.ref b17)] [(.int (1 : Int32))])) _
                exact retN X319 hx (t := .boolean) Bd.returns (by simp) (hb hby at_294) hrt
              · show own_Q_rm0 Z p1 q2 q3 p4 p5 p6 cs wf h0 n0 _ T319.heap _
                rw [e319]
                exact ⟨rfl, N319⟩
              · rw [hh]
                show CHr Z own_EL s.vm h0 T319.vm T319.heap
                rw [e319]
                exact hC.trans (CHv.at X319 hZ (own_EW hw) hC.1)
        · obtain ⟨LL321, XL321, NL321⟩ : ∃ LL : List Loc, Stand p l e room_1 (s.setVm T61.vm) m #[(.int p1), (.long q2), (.long q3), (.int p4), (.int p5), (.int p6)] below meth c T213 LL 26 194 ∧ Fr n0 LL := ⟨_, X213, N213⟩
          have f322 := (f204.keep K213)
          have f323 := (f205.keep K213)
          have f324 := (f206.keep K213 (ninS ne_a20_b68 nin0))
          have f325 := (f207.keep K213 (ninS ne_b20_b68 nin0))
          have f326 := (f208.keep K213 (ninS ne_a20_b68 nin0))
          have f327 := (f209.keep K213 (ninS ne_b17_b68 nin0))
          have f328 := (f210.keep K213 (ninS ne_b17_b68 nin0))
          have f329 := (f202.keep K213)
          have f330 := (f203.keep K213 (ninS ne_b38_b68 nin0))
          have f331 := (f211.keep K213 (ninS ne_b38_b68 nin0))
          have f332 := (((Q61_0.ext E68).keep K80).keep K213)
          have f333 := (((Q61_1.ext E68).keep K80 (ninS ne_b50_b68 nin0)).keep K213 (ninS ne_b50_b68 nin0))
          have f334 := (((f76.ext E68).keep K80).keep K213)
          have f335 := (((f71.ext E68).keep K80).keep K213)
          have f336 := ((((((((Fc32.keep K37 (ninS (Exa.ne Ex32 f33 (by decide)) nin0)).ext E38).keep K49 (ninS ne_a32_b38 nin0)).ext E50).keep K61 (ninS ne_a32_b50 nin0)).ext E68).keep K80 (ninS ne_a32_b68 nin0)).keep K213 (ninS ne_a32_b68 nin0))
          have f337 := (((f77.ext E68).keep K80 (ninS ne_b32_b68 nin0)).keep K213 (ninS ne_b32_b68 nin0))
          have f338 := ((((((((Fv32.keep K37 (ninS (Exa.ne Ex32 f33 (by decide)) nin0)).ext E38).keep K49 (ninS ne_a32_b38 nin0)).ext E50).keep K61 (ninS ne_a32_b50 nin0)).ext E68).keep K80 (ninS ne_a32_b68 nin0)).keep K213 (ninS ne_a32_b68 nin0))
          have f339 := (((((((Q37_1.ext E38).keep K49 (ninS ne_b26_b38 nin0)).ext E50).keep K61 (ninS ne_b26_b50 nin0)).ext E68).keep K80 (ninS ne_b26_b68 nin0)).keep K213 (ninS ne_b26_b68 nin0))
          have f340 := (((((((Q37_2.ext E38).keep K49 (ninS ne_b26_b38 nin0)).ext E50).keep K61 (ninS ne_b26_b50 nin0)).ext E68).keep K80 (ninS ne_b26_b68 nin0)).keep K213 (ninS ne_b26_b68 nin0))
          have f341 := (((Q61_2.ext E68).keep K80 (ninS ne_b50_b68 nin0)).keep K213 (ninS ne_b50_b68 nin0))
          have o342 : Old Z n0 T213.heap := (Old.keep o212 K213 (allS gz_b68 all0))
          obtain ⟨cq343, kq343, q343a, q343b, q343c⟩ := isOf hZ rfl Q213_0
          obtain ⟨_, _, ⟨T343, L343, k343, n343⟩, -, X343, ⟨Lc343, hQ343, l343, y343, z343⟩, st343⟩ := XL321.virtualBack hx (y := own_y26) (z := own_y26) hown (mvT hZ (own_w hw 166 rfl)) (mvT hZ (own_w hw 167 rfl)) (notFace_of_selects (args := #[]) (mvT hZ (own_w hw 169 rfl))) (mvT hZ (own_w hw 169 rfl)) (mvT hZ (own_w hw 168 rfl)) (by decide) (backOf (W := 0) (rmA54 l Z a0 hw [] b68 b17 a20 b20 ka20 (pa) b38 (ka) b50 (kb) b26 a32 b32 ka32 (pb) (-1 : Int32) cs wf T213.heap n0 o342 G0 Q213_0 f322 f323 f324 f325 f326 f327 f328 Q213_2 f329 f330 f331 Q213_1 f332 f333 f334 f335 f336 f337 f338 f339 f340 f341  (if_pos (own_tri64 hc214 hc242)) (by decide)) hZ (own_w hw 170 rfl) (own_w hw 119 rfl) (by decide) (by decide)) q343a q343c (g := (mkF m 206 #[.val (.int p1), .val (.long q2), .second, .val (.long q3), .second, .val (.int p4), .val (.int p5), .val (.int p6), .val (.long ka), .second, .val (.long kb), .second, .val (.int pa), .val (.int pb), .val (.int ps), .val (.ref b10), .val (.ref b17), .val (.ref b26), .val (.ref b38), .val (.ref b50), .val (.int u1), .val (.int u2), .val (.ref b68), .unset, .unset] [(.ref b26), (.ref b50), (.ref b68)])) rfl (by rw [hml]; rfl) (Steps.refl _) (argsL := [(.ref b50), (.ref b26)]) (rest := []) (lenOf own_pd17 rfl) rfl (by show 2 * 0 + _ ≤ _; exact Nat.le_of_eq rfl) (hb hby at_206) (fun _ _ => ⟨rfl, rfl, (by decide : 26 + 0 ≤ _), (by decide : 194 + 0 ≤ _)⟩)
          dsimp only [Pt.U, Pt.locs, Pt.cells, Pt.slots] at X343 l343 y343 z343 st343 hQ343
          subst l343 y343 z343
          obtain ⟨rfl, Nq343, e343⟩ := hQ343
          have N343 := Fr.app NL321 Nq343
          obtain ⟨cq344, kq344, q344a, q344b, q344c⟩ := isOf hZ e343 Q213_0
          obtain ⟨_, _, ⟨T344, L344, k344, n344⟩, -, X344, ⟨Lc344, hQ344, l344, y344, z344⟩, st344⟩ := X343.virtualBack hx (y := own_y27) (z := own_y27) hown (mvT hZ (own_w hw 171 rfl)) (mvT hZ (own_w hw 172 rfl)) (notFace_of_selects (args := #[]) (mvT hZ (own_w hw 174 rfl))) (mvT hZ (own_w hw 174 rfl)) (mvT hZ (own_w hw 173 rfl)) (by decide) (backOf (W := 0) (rmA43 l Z a0 hw [] b68 b17 b38 b10  cs wf T213.heap n0 o342 G0 Q213_0 Q213_2 Q213_1  ) hZ (own_w hw 175 rfl) (own_w hw 119 rfl) (by decide) (by decide)) q344a q344c (g := (mkF m 281 #[.val (.int p1), .val (.long q2), .second, .val (.long q3), .second, .val (.int p4), .val (.int p5), .val (.int p6), .val (.long ka), .second, .val (.long kb), .second, .val (.int pa), .val (.int pb), .val (.int ps), .val (.ref b10), .val (.ref b17), .val (.ref b26), .val (.ref b38), .val (.ref b50), .val (.int u1), .val (.int u2), .val (.ref b68), .val (.int (0 : Int32)), .val (.ref b17)] [(.ref b10), (.ref b68)])) rfl (by rw [hml]; rfl) (Steps.refl _) (argsL := [(.ref b10)]) (rest := []) (lenOf own_pd18 rfl) rfl (by show 2 * 0 + _ ≤ _; exact Nat.le_of_eq rfl) (hb hby at_281) (fun _ _ => ⟨rfl, e343, (by decide : 26 + 0 ≤ _), (by decide : 194 + 0 ≤ _)⟩)
          dsimp only [Pt.U, Pt.locs, Pt.cells, Pt.slots] at X344 l344 y344 z344 st344 hQ344
          subst l344 y344 z344
          obtain ⟨rfl, Nq344, e344⟩ := hQ344
          have N344 := Fr.app N343 Nq344
          have g345 : ∀ t, Steps p.tables e below (T344.setTop (mkF m 294 #[.val (.int p1), .val (.long q2), .second, .val (.long q3), .second, .val (.int p4), .val (.int p5), .val (.int p6), .val (.long ka), .second, .val (.long kb), .second, .val (.int pa), .val (.int pb), .val (.int ps), .val (.ref b10), .val (.ref b17), .val (.ref b26), .val (.ref b38), .val (.ref b50), .val (.int u1), .val (.int u2), .val (.ref b68), .val (.int (0 : Int32)), .val (.ref b17)] [(.int (1 : Int32))])) t → Steps p.tables e below (s₁.setTop (entryFrame m #[(.int p1), (.long q2), (.long q3), (.int p4), (.int p5), (.int p6)] maxLocals)) t := by
            intro t k
            refine g215 t ?_
            show Steps p.tables e below (T213.setTop (mkF m 191 #[.val (.int p1), .val (.long q2), .second, .val (.long q3), .second, .val (.int p4), .val (.int p5), .val (.int p6), .val (.long ka), .second, .val (.long kb), .second, .val (.int pa), .val (.int pb), .val (.int ps), .val (.ref b10), .val (.ref b17), .val (.ref b26), .val (.ref b38), .val (.ref b50), .val (.int u1), .val (.int u2), .val (.ref b68), .unset, .unset] [])) _
            refine XS.aload X213.here hx rfl (hb hby at_191) rfl rfl ?_
            refine XS.iload X213.here hx rfl (hb hby at_193) rfl ?_
            refine XS.ifNo X213.here hx rfl (hb hby at_195) rfl ((if0 _ _).trans (feq hc155).1) ?_
            refine XS.aload X213.here hx rfl (hb hby at_198) rfl rfl ?_
            refine XS.goto X213.here hx rfl (pc0 := 200) (pc' := 204) rfl (hb hby at_200) (by decide) (by decide) ?_
            refine XS.aload X213.here hx rfl (hb hby at_204) rfl rfl ?_
            show Steps p.tables e below (T213.setTop (mkF m 206 #[.val (.int p1), .val (.long q2), .second, .val (.long q3), .second, .val (.int p4), .val (.int p5), .val (.int p6), .val (.long ka), .second, .val (.long kb), .second, .val (.int pa), .val (.int pb), .val (.int ps), .val (.ref b10), .val (.ref b17), .val (.ref b26), .val (.ref b38), .val (.ref b50), .val (.int u1), .val (.int u2), .val (.ref b68), .unset, .unset] [(.ref b26), (.ref b50), (.ref b68)])) _
            refine st343.trans ?_
            refine XS.lload X343.here hx rfl (hb hby at_209) rfl ?_
            refine XS.lload X343.here hx rfl (hb hby at_211) rfl ?_
            refine XS.lcmp X343.here hx rfl (hb hby at_213) rfl ?_
            refine XS.ifNo X343.here hx rfl (hb hby at_214) rfl ((if0 _ _).trans (flt (fun q => hc214 ((lw_gt _ _).mp q))).2.2.1) ?_
            refine XS.lload X343.here hx rfl (hb hby at_217) rfl ?_
            show Steps p.tables e below (T343.setTop (mkF m 219 #[.val (.int p1), .val (.long q2), .second, .val (.long q3), .second, .val (.int p4), .val (.int p5), .val (.int p6), .val (.long ka), .second, .val (.long kb), .second, .val (.int pa), .val (.int pb), .val (.int ps), .val (.ref b10), .val (.ref b17), .val (.ref b26), .val (.ref b38), .val (.ref b50), .val (.int u1), .val (.int u2), .val (.ref b68), .unset, .unset] [(.long kb)])) _
            refine XS.lload X343.here hx rfl (hb hby at_219) rfl ?_
            refine XS.lcmp X343.here hx rfl (hb hby at_221) rfl ?_
            refine XS.ifYes X343.here hx rfl (pc0 := 222) (pc' := 236) rfl (hb hby at_222) rfl ((if0 _ _).trans (feq (fun q => hc242 ((lw_eq _ _).mp q))).2) (by decide) (by decide) ?_
            refine XS.iconst X343.here hx rfl (hb hby at_236) ?_
            refine XS.istore X343.here hx rfl (hb hby at_237) rfl (l' := #[.val (.int p1), .val (.long q2), .second, .val (.long q3), .second, .val (.int p4), .val (.int p5), .val (.int p6), .val (.long ka), .second, .val (.long kb), .second, .val (.int pa), .val (.int pb), .val (.int ps), .val (.ref b10), .val (.ref b17), .val (.ref b26), .val (.ref b38), .val (.ref b50), .val (.int u1), .val (.int u2), .val (.ref b68), .val (.int (0 : Int32)), .unset]) rfl ?_
            refine XS.iload X343.here hx rfl (hb hby at_239) rfl ?_
            show Steps p.tables e below (T343.setTop (mkF m 241 #[.val (.int p1), .val (.long q2), .second, .val (.long q3), .second, .val (.int p4), .val (.int p5), .val (.int p6), .val (.long ka), .second, .val (.long kb), .second, .val (.int pa), .val (.int pb), .val (.int ps), .val (.ref b10), .val (.ref b17), .val (.ref b26), .val (.ref b38), .val (.ref b50), .val (.int u1), .val (.int u2), .val (.ref b68), .val (.int (0 : Int32)), .unset] [(.int u2)])) _
            refine XS.ifNo X343.here hx rfl (hb hby at_241) rfl ((if0 _ _).trans (feq hc155).1) ?_
            refine XS.iload X343.here hx rfl (hb hby at_244) rfl ?_
            refine XS.ifNo X343.here hx rfl (hb hby at_246) rfl ((if0 _ _).trans (feq hc81).1) ?_
            refine XS.iload X343.here hx rfl (hb hby at_249) rfl ?_
            refine XS.ifYes X343.here hx rfl (pc0 := 251) (pc' := 261) rfl (hb hby at_251) rfl ((if0 _ _).trans (teq (by decide : (0 : Int32) = (0 : Int32))).1) (by decide) (by decide) ?_
            refine XS.iload X343.here hx rfl (hb hby at_261) rfl ?_
            show Steps p.tables e below (T343.setTop (mkF m 263 #[.val (.int p1), .val (.long q2), .second, .val (.long q3), .second, .val (.int p4), .val (.int p5), .val (.int p6), .val (.long ka), .second, .val (.long kb), .second, .val (.int pa), .val (.int pb), .val (.int ps), .val (.ref b10), .val (.ref b17), .val (.ref b26), .val (.ref b38), .val (.ref b50), .val (.int u1), .val (.int u2), .val (.ref b68), .val (.int (0 : Int32)), .unset] [(.int u1)])) _
            refine XS.ifNo X343.here hx rfl (hb hby at_263) rfl ((if0 _ _).trans (feq hc81).1) ?_
            refine XS.aload X343.here hx rfl (hb hby at_266) rfl rfl ?_
            refine XS.astore X343.here hx rfl (hb hby at_268) rfl rfl (l' := #[.val (.int p1), .val (.long q2), .second, .val (.long q3), .second, .val (.int p4), .val (.int p5), .val (.int p6), .val (.long ka), .second, .val (.long kb), .second, .val (.int pa), .val (.int pb), .val (.int ps), .val (.ref b10), .val (.ref b17), .val (.ref b26), .val (.ref b38), .val (.ref b50), .val (.int u1), .val (.int u2), .val (.ref b68), .val (.int (0 : Int32)), .val (.ref b17)]) rfl ?_
            refine XS.goto X343.here hx rfl (pc0 := 270) (pc' := 277) rfl (hb hby at_270) (by decide) (by decide) ?_
            refine XS.aload X343.here hx rfl (hb hby at_277) rfl rfl ?_
            refine XS.aload X343.here hx rfl (hb hby at_279) rfl rfl ?_
            show Steps p.tables e below (T343.setTop (mkF m 281 #[.val (.int p1), .val (.long q2), .second, .val (.long q3), .second, .val (.int p4), .val (.int p5), .val (.int p6), .val (.long ka), .second, .val (.long kb), .second, .val (.int pa), .val (.int pb), .val (.int ps), .val (.ref b10), .val (.ref b17), .val (.ref b26), .val (.ref b38), .val (.ref b50), .val (.int u1), .val (.int u2), .val (.ref b68), .val (.int (0 : Int32)), .val (.ref b17)] [(.ref b10), (.ref b68)])) _
            refine st344.trans ?_
            refine XS.aload X344.here hx rfl (hb hby at_284) rfl rfl ?_
            refine Jvm.RoadKit.acmp (g := (mkF m 286 #[.val (.int p1), .val (.long q2), .second, .val (.long q3), .second, .val (.int p4), .val (.int p5), .val (.int p6), .val (.long ka), .second, .val (.long kb), .second, .val (.int pa), .val (.int pb), .val (.int ps), .val (.ref b10), .val (.ref b17), .val (.ref b26), .val (.ref b38), .val (.ref b50), .val (.int u1), .val (.int u2), .val (.ref b68), .val (.int (0 : Int32)), .val (.ref b17)] [(.ref b17), (.ref b17)])) X344 hx rfl rfl rfl (pc0 := 286) (pc' := 289) (same := true) rfl (hb hby at_286) rfl (decide_eq_true rfl) (by decide) (by decide) ?_
            refine XS.iconst X344.here hx rfl (hb hby at_289) ?_
            refine XS.goto X344.here hx rfl (pc0 := 290) (pc' := 294) rfl (hb hby at_290) (by decide) (by decide) ?_
            exact k
          obtain ⟨fs, hrt, hrun, hended, hRW⟩ := X344.leaveW hS (by rw [e344]; exact hk) (v := some (.int (1 : Int32))) (fun h => by rw [Bd.returns] at h; cases h)
          refine ⟨_, _, g345 _ ?_, hrun, hended, _, _, rfl, ?_, ?_, hRW.1, hRW.2.1, hRW.2.2.1, hRW.2.2.2.mono (by decide) (by decide)⟩
          · show Steps p.tables e below (T344.setTop (mkF m 294 #[.val (.int p1), .val (.long q2), .second, .val (.long q3), .second, .val (.int p4), .val (.int p5), .val (.int p6), .val (.long ka), .second, .val (.long kb), .second, .val (.int pa), .val (.int pb), .val (.int ps), .val (.ref b10), .val (.ref b17), .val (.ref b26), .val (.ref b38), .val (.ref b50), .val (.int u1), .val (.int u2), .val (.ref b68), .val (.int (0 : Int32)), .val (.ref b17)] [(.int (1 : Int32))])) _
            exact retN X344 hx (t := .boolean) Bd.returns (by simp) (hb hby at_294) hrt
          · show own_Q_rm0 Z p1 q2 q3 p4 p5 p6 cs wf h0 n0 _ T344.heap _
            rw [e344]
            exact ⟨rfl, N344⟩
          · rw [hh]
            show CHr Z own_EL s.vm h0 T344.vm T344.heap
            rw [e344]
            exact hC.trans (CHv.at X344 hZ (own_EW hw) hC.1)
set_option maxRecDepth 65536 in
set_option maxHeartbeats 40000000 in
theorem comes_1 {Post : Tables → Env → Array Value → State → Outcome → State → Prop} (hpost : ∀ tb e args s v u, (limb_1_1.after args s (.returned v) u = true ∧ limb_1_2.after args s (.returned v) u = true ∧ True) → ReturnedEndW s (.returned v) u (Jvm.fieldLocs frame_1_writes args s ++ Jvm.arrayLocs frame_1_arrays args s ++ Jvm.staticLocs frame_1_statics s) 40 4288 → Post tb e args s (.returned v) u) :
    ArmFor flags0 classFile x code maxLocals ret World_1 tables_1 room_1 Calls_1 rest_1 Pre_1 Post := by
  intro l hfl _ _ p e ha hc hk s m args below hf hA hF happ hP
  obtain ⟨hcalls, hrest, hpre⟩ := hP
  obtain ⟨-, -, -, hnamed, -, -, -, hat⟩ := (Spec.applies_iff hf).mp happ
  obtain ⟨hg, hn⟩ := and_e (Cond.before_iff.mp (show (Jvm.Cond.and given_1 narrow_1).before args s = true from hpre))
  obtain ⟨h0a, h0b⟩ := and_e hg
  obtain ⟨h1a, h1b⟩ := and_e h0b
  obtain ⟨h2a, h2b⟩ := and_e h1b
  obtain ⟨h3a, h3b⟩ := and_e h2b
  obtain ⟨h4a, h4b⟩ := and_e h3b
  obtain ⟨h5a, h5b⟩ := and_e h4b
  obtain ⟨w0, w1, w2, w3, w4, w5, rfl⟩ : ∃ w0 w1 w2 w3 w4 w5 : Value, args = #[w0, w1, w2, w3, w4, w5] := by
    have hs : args.size = 6 := by simpa [Cond.value, given_1] using h0a
    obtain ⟨L⟩ := args
    match L, hs with
    | [w0, w1, w2, w3, w4, w5], _ => exact ⟨w0, w1, w2, w3, w4, w5, rfl⟩
  have hw := fun d (hd : d ∈ tables_1) => atoms_spec (ws := Jvm.Cond.code x code maxLocals ret :: tables_1) hat d (List.mem_cons_of_mem _ hd)
  obtain ⟨hsets, hown0⟩ := atoms_of _ (rest_1_c_eq ▸ (show rest_1_c.before _ s = true from hrest))
  have hr0 := Cond.before_iff.mp hown0
  obtain ⟨i0, ei0⟩ := is_v h1a
  obtain rfl : w0 = (.int i0) := Option.some.inj ei0
  obtain ⟨i1, ei1⟩ := isL_v h2a
  obtain rfl : w1 = (.long i1) := Option.some.inj ei1
  obtain ⟨i2, ei2⟩ := isL_v h3a
  obtain rfl : w2 = (.long i2) := Option.some.inj ei2
  obtain ⟨i3, ei3⟩ := is_v h4a
  obtain rfl : w3 = (.int i3) := Option.some.inj ei3
  obtain ⟨i4, ei4⟩ := is_v h5a
  obtain rfl : w4 = (.int i4) := Option.some.inj ei4
  obtain ⟨i5, ei5⟩ := is_v h5b
  obtain rfl : w5 = (.int i5) := Option.some.inj ei5
  have hCH : CHv s own_EL s.vm s.heap := CHv.start (own_EW hw) (fun q hq => hcalls.1 q (own_sub q hq)) (hsets _ (List.mem_of_getElem? (i := 2) rfl)) (own_w hw 9 rfl) (own_w hw 8 rfl)
  obtain ⟨cs, ecs⟩ := is_v (Cond.before_iff.mp (hsets _ (List.mem_of_getElem? (i := 1) rfl)))
  have S_CS := Sta.start ecs (Or.inl (hsets _ (List.mem_of_getElem? (i := 0) rfl)))
  have hcs : ¬ (cs = (0 : Int32)) := gotF (Cond.eq_ints ecs (Term.int_eval 0)) (not_v (Cond.before_iff.mp (hsets _ (List.mem_of_getElem? (i := 2) rfl))))
  obtain ⟨wf, ewf, hwf0⟩ := isR_v (Cond.before_iff.mp (hsets _ (List.mem_of_getElem? (i := 8) rfl)))
  have S_WF := Sta.start ewf (Or.inl (hsets _ (List.mem_of_getElem? (i := 7) rfl)))
  have hwf := ref_cases hwf0
  obtain ⟨n, o, h1, h2, h3, _, L, rfl, ⟨rfl, N⟩, -, hq⟩ := rm0 l s _ hw tables_1 i0 i1 i2 i3 i4 i5 cs wf s.heap s.heap.size (Old.start s) ⟨S_CS, hcs, S_WF, hwf⟩ p e ha hc hk s m _ below hf ((Spec.applies_iff_loose hf).mp happ).1 ⟨rfl, State.Warmed39.refl s, rfl, hCH⟩ trivial
  refine ⟨n, _, h1, h2, h3, hpost _ _ _ _ _ _ ⟨Cond.after_iff.mpr rfl, Cond.after_iff.mpr (eq_i res_at (Term.int_eval (1)) rfl), trivial⟩ ⟨hq.1, hq.2.1, hq.2.2.1, (hq.2.2.2.sift fun y hy => Or.inr (N y hy)).mono (by decide) (by decide)⟩⟩
theorem main_1_1 : Claimed_1_1 := comes_1 fun _ _ _ _ _ _ h hF => ⟨h.1, hF⟩
theorem main_1_2 : Claimed_1_2 := comes_1 fun _ _ _ _ _ _ h hF => ⟨h.2.1, hF⟩
end Jvm.Pilot.@@N@@
namespace Jvm.Pilot.@@N@@
open Jvm Jvm.ClassFile Sem Op Lib Jvm.Free Jvm.Stand Jvm.Pilot.@@N@@.Jvm.D
/-! MADE BY PROGRAM (witnessworld.py) out of the Statement's table words and the real class files: 33 classes; the members and pool entries that the words name. The judged class is class 1, her method 1. -/
namespace start1
open Jvm.ClassFile
def u (s : String) : CpInfo := .utf8 (stringToUtf16 s)
/-- a pool by its gaps: so many unusable entries, then the entry; so many at the end -/
def gap : Nat → List CpInfo → List CpInfo
  | 0, r => r
  | n + 1, r => .unusable :: gap n r
def poolList (es : List (Nat × CpInfo)) (last : Nat) : List CpInfo := es.foldr (fun e r => gap e.1 (e.2 :: r)) (gap last [])
def pool (es : List (Nat × CpInfo)) (last : Nat) : Array CpInfo := ⟨poolList es last⟩
def fileOf (pool : Array CpInfo) (this : Nat) (attrs : Array Attribute := #[]) (ms : Array MethodInfo := #[]) (fl : Nat := 33) (sup : Nat := 0) (ifs : Array Nat := #[]) (fds : Array FieldInfo := #[]) : ClassFile where
  minorVersion := 0
  majorVersion := 65
  constantPool := pool
  accessFlags := fl
  thisClass := this
  superClass := sup
  interfaces := ifs
  fields := fds
  methods := ms
  attributes := attrs
def plain (name : String) (sup : Option ClassId) : Class where
  name := name
  kind := .ordinary
  loader := none
  accessFlags := 33
  super := sup
  interfaces := #[]
  cf := none
  fields := #[]
  methods := #[]
  instanceTypes := #[]
  staticTypes := #[]
  resolved := #[]
  callSites := []
  init := .initialized
  statics := none
  mirror := none

def pool0 : Array CpInfo := pool [(5, u "<init>"), (0, u "()V"), (1, .class_ 10), (1, u "java/lang/Object")] 113

def k0c0 : Code := { maxStack := 0, maxLocals := 1, code := object_method_1_code, exceptionTable := #[], attributes := #[] }
def k0m0 : Method := { name := "<init>", desc := "()V", sig := { parameters := [], returnType := none }, accessFlags := 1, code := some k0c0 }
/-- java/lang/Object -/
def k0 : Class := { plain "java/lang/Object" none with
  accessFlags := 33
  interfaces := #[]
  cf := some (fileOf pool0 8 #[] #[{ accessFlags := 1, nameIndex := 5, descriptorIndex := 6, attributes := #[] }] 33 0 #[] #[])
  fields := #[]
  methods := #[k0m0]
  instanceTypes := #[]
  staticTypes := #[]
  resolved := Array.replicate 124 none
  statics := none }

def pool1 : Array CpInfo := pool [(2, .class_ 4), (0, .nameAndType 5 6), (0, u "java/lang/Object"), (0, u "<init>"), (0, u "()V"), (2, .long 9223372036854775807), (1, .integer 2147483647), (0, .integer 65535), (0, .class_ 14), (0, u "com/example/assemble_quorum/assemblequorum/model/MemberAddress"), (0, .string 16), (0, u "s"), (0, .methodref 13 18), (0, .nameAndType 5 19), (0, u "(Ljava/lang/String;I)V"), (0, .string 21), (0, u "c"), (0, .class_ 23), (0, u "com/example/assemble_quorum/assemblequorum/model/ProposalNumber"), (0, .methodref 22 25), (0, .nameAndType 5 26), (0, u "(JLcom/example/assemble_quorum/assemblequorum/model/MemberAddress;)V"), (0, .class_ 28), (0, u "com/example/assemble_quorum/assemblequorum/service/Round"), (0, .methodref 27 3), (0, .methodref 27 31), (0, .nameAndType 32 33), (0, u "notePrior"), (0, u "(Lcom/example/assemble_quorum/assemblequorum/model/ProposalNumber;Lcom/example/assemble_quorum/assemblequorum/model/MemberAddress;)V"), (0, .methodref 27 35), (0, .nameAndType 36 37), (0, u "finalCandidate"), (0, u "(Lcom/example/assemble_quorum/assemblequorum/model/MemberAddress;)Lcom/example/assemble_quorum/assemblequorum/model/MemberAddress;"), (0, .class_ 39), (0, u "com/example/assemble_quorum/assemblequorum/service/RoundFinalCandidatePinLaw"), (2, u "law"), (0, u "(IJJIII)Z")] 3

def k1m0 : Method := { name := "<init>", desc := "()V", sig := { parameters := [], returnType := none }, accessFlags := 2, code := none }
def k1c1 : Code := { maxStack := 5, maxLocals := 25, code := code, exceptionTable := #[], attributes := #[] }
def k1m1 : Method := { name := "law", desc := "(IJJIII)Z", sig := { parameters := [.int, .long, .long, .int, .int, .int], returnType := some .boolean }, accessFlags := 9, code := some k1c1 }
/-- com/example/assemble_quorum/assemblequorum/service/RoundFinalCandidatePinLaw -/
def k1 : Class := { plain "com/example/assemble_quorum/assemblequorum/service/RoundFinalCandidatePinLaw" (some 0) with
  accessFlags := 49
  interfaces := #[]
  cf := some (fileOf pool1 38 #[] #[{ accessFlags := 2, nameIndex := 5, descriptorIndex := 6, attributes := #[] }, { accessFlags := 9, nameIndex := 42, descriptorIndex := 43, attributes := #[] }] 49 2 #[] #[])
  fields := #[]
  methods := #[k1m0, k1m1]
  instanceTypes := #[]
  staticTypes := #[]
  resolved := Array.replicate 47 none
  statics := none }

def pool2 : Array CpInfo := pool [(1, .class_ 2), (0, u "java/lang/Comparable"), (0, .class_ 4), (0, u "java/lang/Object")] 7

/-- java/lang/Comparable -/
def k2 : Class := { plain "java/lang/Comparable" (some 0) with
  accessFlags := 1537
  interfaces := #[]
  cf := some (fileOf pool2 1 #[] #[] 1537 3 #[] #[])
  fields := #[]
  methods := #[]
  instanceTypes := #[]
  staticTypes := #[]
  resolved := Array.replicate 12 none
  statics := none }

def pool3 : Array CpInfo := pool [(1, .class_ 2), (0, u "com/example/assemble_quorum/assemblequorum/model/MemberAddress"), (0, .methodref 4 5), (0, .class_ 6), (0, .nameAndType 7 8), (0, u "java/lang/Object"), (0, u "<init>"), (0, u "()V"), (0, .string 10), (0, u "host"), (0, .methodref 12 13), (0, .class_ 14), (0, .nameAndType 15 16), (0, u "java/util/Objects"), (0, u "requireNonNull"), (0, u "(Ljava/lang/Object;Ljava/lang/String;)Ljava/lang/Object;"), (0, .methodref 1 18), (0, .nameAndType 19 20), (0, u "checkHost"), (0, u "(Ljava/lang/String;)V"), (0, .integer 65535), (6, .fieldref 1 29), (0, .nameAndType 10 30), (0, u "Ljava/lang/String;"), (0, .fieldref 1 32), (0, .nameAndType 33 34), (0, u "port"), (0, u "I"), (5, .class_ 42), (1, u "java/lang/String"), (6, u "indexOf"), (0, u "(Ljava/lang/String;)I"), (6, .methodref 40 58), (0, .nameAndType 49 59), (0, u "(I)I"), (7, u "(II)I"), (7, u "(Ljava/lang/String;I)V"), (0, .methodref 40 77), (0, .nameAndType 78 50), (0, u "compareTo"), (0, .methodref 80 81), (0, .class_ 82), (0, .nameAndType 83 67), (0, u "java/lang/Integer"), (0, u "compare"), (7, u "()I"), (5, .methodref 40 98), (0, .nameAndType 99 100), (0, u "isEmpty"), (0, u "()Z"), (2, .methodref 40 104), (0, .nameAndType 105 91), (0, u "length"), (2, .methodref 40 109), (0, .nameAndType 110 111), (0, u "charAt"), (0, u "(I)C"), (3, u "(C)Z"), (0, .methodref 1 117), (0, .nameAndType 118 115), (0, u "isNameCharacter"), (24, u "(Lcom/example/assemble_quorum/assemblequorum/model/MemberAddress;)I"), (0, .class_ 145), (0, u "java/lang/Comparable"), (0, u "MAX_HOST_LENGTH"), (2, u "MAX_PORT"), (0, u "PORT_RANGE")] 44

def k3c0 : Code := { maxStack := 3, maxLocals := 3, code := prog_30_method_1_code, exceptionTable := #[], attributes := #[] }
def k3m0 : Method := { name := "<init>", desc := "(Ljava/lang/String;I)V", sig := { parameters := [(.object "java/lang/String"), .int], returnType := none }, accessFlags := 1, code := some k3c0 }
def k3c1 : Code := { maxStack := 2, maxLocals := 3, code := prog_30_method_5_code, exceptionTable := #[], attributes := #[] }
def k3m1 : Method := { name := "compareTo", desc := "(Lcom/example/assemble_quorum/assemblequorum/model/MemberAddress;)I", sig := { parameters := [(.object "com/example/assemble_quorum/assemblequorum/model/MemberAddress")], returnType := some .int }, accessFlags := 1, code := some k3c1 }
def k3c2 : Code := { maxStack := 3, maxLocals := 5, code := prog_30_method_9_code, exceptionTable := #[], attributes := #[] }
def k3m2 : Method := { name := "checkHost", desc := "(Ljava/lang/String;)V", sig := { parameters := [(.object "java/lang/String")], returnType := none }, accessFlags := 10, code := some k3c2 }
def k3c3 : Code := { maxStack := 2, maxLocals := 1, code := prog_30_method_12_code, exceptionTable := #[], attributes := #[] }
def k3m3 : Method := { name := "isNameCharacter", desc := "(C)Z", sig := { parameters := [.char], returnType := some .boolean }, accessFlags := 10, code := some k3c3 }
/-- com/example/assemble_quorum/assemblequorum/model/MemberAddress -/
def k3 : Class := { plain "com/example/assemble_quorum/assemblequorum/model/MemberAddress" (some 0) with
  accessFlags := 33
  interfaces := #[2]
  cf := some (fileOf pool3 1 #[] #[{ accessFlags := 1, nameIndex := 7, descriptorIndex := 75, attributes := #[] }, { accessFlags := 1, nameIndex := 78, descriptorIndex := 143, attributes := #[] }, { accessFlags := 10, nameIndex := 19, descriptorIndex := 20, attributes := #[] }, { accessFlags := 10, nameIndex := 118, descriptorIndex := 115, attributes := #[] }] 33 4 #[144] #[{ accessFlags := 26, nameIndex := 146, descriptorIndex := 34, attributes := #[] }, { accessFlags := 26, nameIndex := 149, descriptorIndex := 34, attributes := #[] }, { accessFlags := 26, nameIndex := 150, descriptorIndex := 30, attributes := #[] }, { accessFlags := 18, nameIndex := 10, descriptorIndex := 30, attributes := #[] }, { accessFlags := 18, nameIndex := 33, descriptorIndex := 34, attributes := #[] }])
  fields := #[{ name := "MAX_HOST_LENGTH", type := .int, accessFlags := 26, slot := 0, constantValue := 0 }, { name := "MAX_PORT", type := .int, accessFlags := 26, slot := 1, constantValue := 0 }, { name := "PORT_RANGE", type := (.object "java/lang/String"), accessFlags := 26, slot := 2, constantValue := 0 }, { name := "host", type := (.object "java/lang/String"), accessFlags := 18, slot := 0, constantValue := 0 }, { name := "port", type := .int, accessFlags := 18, slot := 1, constantValue := 0 }]
  methods := #[k3m0, k3m1, k3m2, k3m3]
  instanceTypes := #[(.object "java/lang/String"), .int]
  staticTypes := #[.int, .int, (.object "java/lang/String")]
  resolved := Array.replicate 195 none
  statics := none }

def pool4 : Array CpInfo := pool [(1, .class_ 2), (0, u "java/io/Serializable"), (0, .class_ 4), (0, u "java/lang/Object")] 2

/-- java/io/Serializable -/
def k4 : Class := { plain "java/io/Serializable" (some 0) with
  accessFlags := 1537
  interfaces := #[]
  cf := some (fileOf pool4 1 #[] #[] 1537 3 #[] #[])
  fields := #[]
  methods := #[]
  instanceTypes := #[]
  staticTypes := #[]
  resolved := Array.replicate 7 none
  statics := none }

def pool5 : Array CpInfo := pool [(2, .class_ 4), (1, u "java/lang/CharSequence"), (42, .class_ 48), (0, u "java/lang/CharSequence$1CodePointIterator"), (10, .class_ 60), (0, u "java/lang/CharSequence$1CharIterator"), (5, .class_ 67), (0, u "java/lang/Object")] 63

/-- java/lang/CharSequence -/
def k5 : Class := { plain "java/lang/CharSequence" (some 0) with
  accessFlags := 1537
  interfaces := #[]
  cf := some (fileOf pool5 2 #[.nestMembers #[47, 59]] #[] 1537 66 #[] #[])
  fields := #[]
  methods := #[]
  instanceTypes := #[]
  staticTypes := #[]
  resolved := Array.replicate 131 none
  statics := none }

def pool6 : Array CpInfo := pool [(1, .class_ 2), (0, u "java/lang/constant/Constable"), (0, .class_ 4), (0, u "java/lang/Object")] 6

/-- java/lang/constant/Constable -/
def k6 : Class := { plain "java/lang/constant/Constable" (some 0) with
  accessFlags := 1537
  interfaces := #[]
  cf := some (fileOf pool6 1 #[] #[] 1537 3 #[] #[])
  fields := #[]
  methods := #[]
  instanceTypes := #[]
  staticTypes := #[]
  resolved := Array.replicate 11 none
  statics := none }

def pool7 : Array CpInfo := pool [(1, .class_ 2), (0, u "java/lang/constant/ConstantDesc"), (0, .class_ 4), (0, u "java/lang/Object")] 32

/-- java/lang/constant/ConstantDesc -/
def k7 : Class := { plain "java/lang/constant/ConstantDesc" (some 0) with
  accessFlags := 1537
  interfaces := #[]
  cf := some (fileOf pool7 1 #[] #[] 1537 3 #[] #[])
  fields := #[]
  methods := #[]
  instanceTypes := #[]
  staticTypes := #[]
  resolved := Array.replicate 37 none
  statics := none }

def pool8 : Array CpInfo := pool [(2, .class_ 4), (1, u "java/lang/Object"), (0, u "<init>"), (0, u "()V"), (2, .fieldref 10 11), (0, .class_ 12), (0, .nameAndType 13 14), (0, u "java/lang/String"), (0, u "value"), (0, u "[B"), (0, .fieldref 10 16), (0, .nameAndType 17 18), (0, u "coder"), (0, u "B"), (2, u "hash"), (0, u "I"), (2, u "hashIsZero"), (0, u "Z"), (11, .fieldref 10 39), (0, .nameAndType 40 26), (0, u "COMPACT_STRINGS"), (66, .class_ 109), (1, u "java/lang/StringLatin1"), (32, u "()Z"), (191, u "()I"), (0, .methodref 10 336), (0, .nameAndType 17 337), (0, u "()B"), (25, u "([BI)C"), (27, u "(II)V"), (35, u "(I)C"), (64, .methodref 10 493), (0, .nameAndType 494 142), (0, u "isLatin1"), (0, .methodref 107 496), (0, .nameAndType 497 363), (0, u "charAt"), (3, u "checkIndex"), (3, .methodref 10 506), (0, .nameAndType 507 334), (0, u "length"), (67, .class_ 576), (0, u "java/lang/CharSequence"), (9, .methodref 107 587), (0, .nameAndType 588 589), (0, u "compareTo"), (0, u "([B[B)I"), (9, u "CASE_INSENSITIVE_ORDER"), (0, u "Ljava/util/Comparator;"), (32, .methodref 10 634), (0, .nameAndType 635 636), (0, u "indexOf"), (0, u "(II)I"), (0, .methodref 107 638), (0, .nameAndType 635 639), (0, u "([BIII)I"), (52, u "isEmpty"), (20, u "(Ljava/lang/String;)I"), (51, u "(I)I"), (287, .fieldref 1054 1055), (0, .class_ 1056), (0, .nameAndType 1057 1058), (0, u "jdk/internal/util/Preconditions"), (0, u "SIOOBE_FORMATTER"), (0, u "Ljava/util/function/BiFunction;"), (0, .methodref 1054 1060), (0, .nameAndType 501 1061), (0, u "(IILjava/util/function/BiFunction;)I"), (39, u "serialPersistentFields"), (0, u "[Ljava/io/ObjectStreamField;"), (0, .class_ 1104), (0, u "java/lang/String$CaseInsensitiveComparator"), (1, .class_ 1107), (0, u "java/io/Serializable"), (0, .class_ 1109), (0, u "java/lang/Comparable"), (0, .class_ 1111), (0, u "java/lang/constant/Constable"), (0, .class_ 1113), (0, u "java/lang/constant/ConstantDesc"), (2, u "serialVersionUID"), (0, u "J"), (3, u "REPL"), (0, u "C"), (2, u "LATIN1"), (1, u "UTF16")] 323

def k8m0 : Method := { name := "<init>", desc := "()V", sig := { parameters := [], returnType := none }, accessFlags := 1, code := none }
def k8c1 : Code := { maxStack := 2, maxLocals := 1, code := jdk_42_method_54_code, exceptionTable := #[], attributes := #[] }
def k8m1 : Method := { name := "length", desc := "()I", sig := { parameters := [], returnType := some .int }, accessFlags := 1, code := some k8c1 }
def k8c2 : Code := { maxStack := 1, maxLocals := 1, code := jdk_42_method_55_code, exceptionTable := #[], attributes := #[] }
def k8m2 : Method := { name := "isEmpty", desc := "()Z", sig := { parameters := [], returnType := some .boolean }, accessFlags := 1, code := some k8c2 }
def k8c3 : Code := { maxStack := 2, maxLocals := 2, code := jdk_42_method_56_code, exceptionTable := #[], attributes := #[] }
def k8m3 : Method := { name := "charAt", desc := "(I)C", sig := { parameters := [.int], returnType := some .char }, accessFlags := 1, code := some k8c3 }
def k8c4 : Code := { maxStack := 2, maxLocals := 5, code := jdk_42_method_71_code, exceptionTable := #[], attributes := #[] }
def k8m4 : Method := { name := "compareTo", desc := "(Ljava/lang/String;)I", sig := { parameters := [(.object "java/lang/String")], returnType := some .int }, accessFlags := 1, code := some k8c4 }
def k8c5 : Code := { maxStack := 3, maxLocals := 2, code := jdk_42_method_79_code, exceptionTable := #[], attributes := #[] }
def k8m5 : Method := { name := "indexOf", desc := "(I)I", sig := { parameters := [.int], returnType := some .int }, accessFlags := 1, code := some k8c5 }
def k8c6 : Code := { maxStack := 4, maxLocals := 3, code := jdk_42_method_80_code, exceptionTable := #[], attributes := #[] }
def k8m6 : Method := { name := "indexOf", desc := "(II)I", sig := { parameters := [.int, .int], returnType := some .int }, accessFlags := 1, code := some k8c6 }
def k8c7 : Code := { maxStack := 1, maxLocals := 1, code := jdk_42_method_152_code, exceptionTable := #[], attributes := #[] }
def k8m7 : Method := { name := "coder", desc := "()B", sig := { parameters := [], returnType := some .byte }, accessFlags := 0, code := some k8c7 }
def k8c8 : Code := { maxStack := 1, maxLocals := 1, code := jdk_42_method_154_code, exceptionTable := #[], attributes := #[] }
def k8m8 : Method := { name := "isLatin1", desc := "()Z", sig := { parameters := [], returnType := some .boolean }, accessFlags := 0, code := some k8c8 }
def k8c9 : Code := { maxStack := 3, maxLocals := 2, code := jdk_42_method_155_code, exceptionTable := #[], attributes := #[] }
def k8m9 : Method := { name := "checkIndex", desc := "(II)V", sig := { parameters := [.int, .int], returnType := none }, accessFlags := 8, code := some k8c9 }
/-- java/lang/String -/
def k8 : Class := { plain "java/lang/String" (some 0) with
  accessFlags := 49
  interfaces := #[4, 2, 5, 6, 7]
  cf := some (fileOf pool8 10 #[.nestMembers #[1103]] #[{ accessFlags := 1, nameIndex := 5, descriptorIndex := 6, attributes := #[] }, { accessFlags := 1, nameIndex := 507, descriptorIndex := 334, attributes := #[] }, { accessFlags := 1, nameIndex := 692, descriptorIndex := 142, attributes := #[] }, { accessFlags := 1, nameIndex := 497, descriptorIndex := 427, attributes := #[] }, { accessFlags := 1, nameIndex := 588, descriptorIndex := 713, attributes := #[] }, { accessFlags := 1, nameIndex := 635, descriptorIndex := 765, attributes := #[] }, { accessFlags := 1, nameIndex := 635, descriptorIndex := 636, attributes := #[] }, { accessFlags := 0, nameIndex := 17, descriptorIndex := 337, attributes := #[] }, { accessFlags := 0, nameIndex := 494, descriptorIndex := 142, attributes := #[] }, { accessFlags := 8, nameIndex := 501, descriptorIndex := 391, attributes := #[] }] 49 2 #[1106, 1108, 575, 1110, 1112] #[{ accessFlags := 18, nameIndex := 13, descriptorIndex := 14, attributes := #[] }, { accessFlags := 18, nameIndex := 17, descriptorIndex := 18, attributes := #[] }, { accessFlags := 2, nameIndex := 21, descriptorIndex := 22, attributes := #[] }, { accessFlags := 2, nameIndex := 25, descriptorIndex := 26, attributes := #[] }, { accessFlags := 26, nameIndex := 1116, descriptorIndex := 1117, attributes := #[] }, { accessFlags := 24, nameIndex := 40, descriptorIndex := 26, attributes := #[] }, { accessFlags := 26, nameIndex := 1101, descriptorIndex := 1102, attributes := #[] }, { accessFlags := 26, nameIndex := 1121, descriptorIndex := 1122, attributes := #[] }, { accessFlags := 25, nameIndex := 599, descriptorIndex := 600, attributes := #[] }, { accessFlags := 24, nameIndex := 1125, descriptorIndex := 18, attributes := #[] }, { accessFlags := 24, nameIndex := 1127, descriptorIndex := 18, attributes := #[] }])
  fields := #[{ name := "value", type := (.array .byte), accessFlags := 18, slot := 0, constantValue := 0 }, { name := "coder", type := .byte, accessFlags := 18, slot := 1, constantValue := 0 }, { name := "hash", type := .int, accessFlags := 2, slot := 2, constantValue := 0 }, { name := "hashIsZero", type := .boolean, accessFlags := 2, slot := 3, constantValue := 0 }, { name := "serialVersionUID", type := .long, accessFlags := 26, slot := 0, constantValue := 0 }, { name := "COMPACT_STRINGS", type := .boolean, accessFlags := 24, slot := 1, constantValue := 0 }, { name := "serialPersistentFields", type := (.array (.object "java/io/ObjectStreamField")), accessFlags := 26, slot := 2, constantValue := 0 }, { name := "REPL", type := .char, accessFlags := 26, slot := 3, constantValue := 0 }, { name := "CASE_INSENSITIVE_ORDER", type := (.object "java/util/Comparator"), accessFlags := 25, slot := 4, constantValue := 0 }, { name := "LATIN1", type := .byte, accessFlags := 24, slot := 5, constantValue := 0 }, { name := "UTF16", type := .byte, accessFlags := 24, slot := 6, constantValue := 0 }]
  methods := #[k8m0, k8m1, k8m2, k8m3, k8m4, k8m5, k8m6, k8m7, k8m8, k8m9]
  instanceTypes := #[(.array .byte), .byte, .int, .boolean]
  staticTypes := #[.long, .boolean, (.array (.object "java/io/ObjectStreamField")), .char, (.object "java/util/Comparator"), .byte, .byte]
  resolved := Array.replicate 1451 none
  statics := some 0 }

def pool9 : Array CpInfo := pool [(2, .class_ 4), (1, u "java/lang/Object"), (0, u "<init>"), (0, u "()V"), (35, .class_ 44), (1, u "java/util/Objects"), (0, u "requireNonNull"), (48, u "(Ljava/lang/Object;Ljava/lang/String;)Ljava/lang/Object;")] 89

def k9m0 : Method := { name := "<init>", desc := "()V", sig := { parameters := [], returnType := none }, accessFlags := 2, code := none }
def k9c1 : Code := { maxStack := 3, maxLocals := 2, code := jdk_31_method_11_code, exceptionTable := #[], attributes := #[] }
def k9m1 : Method := { name := "requireNonNull", desc := "(Ljava/lang/Object;Ljava/lang/String;)Ljava/lang/Object;", sig := { parameters := [(.object "java/lang/Object"), (.object "java/lang/String")], returnType := some (.object "java/lang/Object") }, accessFlags := 9, code := some k9c1 }
/-- java/util/Objects -/
def k9 : Class := { plain "java/util/Objects" (some 0) with
  accessFlags := 49
  interfaces := #[]
  cf := some (fileOf pool9 42 #[] #[{ accessFlags := 2, nameIndex := 5, descriptorIndex := 6, attributes := #[] }, { accessFlags := 9, nameIndex := 45, descriptorIndex := 94, attributes := #[] }] 49 2 #[] #[])
  fields := #[]
  methods := #[k9m0, k9m1]
  instanceTypes := #[]
  staticTypes := #[]
  resolved := Array.replicate 184 none
  statics := none }

def pool10 : Array CpInfo := pool [(1, .class_ 2), (0, u "java/lang/String"), (1, .class_ 6), (1, u "java/lang/Object"), (0, u "<init>"), (0, u "()V"), (0, .methodref 1 10), (0, .nameAndType 11 12), (0, u "checkIndex"), (0, u "(II)V"), (1, .class_ 16), (1, u "java/lang/StringLatin1"), (17, .methodref 14 35), (0, .nameAndType 36 37), (0, u "compareTo"), (0, u "([B[BII)I"), (0, .methodref 39 40), (0, .class_ 41), (0, .nameAndType 42 43), (0, u "java/lang/Math"), (0, u "min"), (0, u "(II)I"), (0, .methodref 45 46), (0, .class_ 47), (0, .nameAndType 48 49), (0, u "jdk/internal/util/ArraysSupport"), (0, u "mismatch"), (0, u "([B[BI)I"), (3, u "([BI)C"), (34, .methodref 14 89), (0, .nameAndType 90 91), (0, u "canEncode"), (0, u "(I)Z"), (0, .methodref 39 93), (0, .nameAndType 94 43), (0, u "max"), (0, .methodref 14 96), (0, .nameAndType 97 98), (0, u "indexOfChar"), (0, u "([BIII)I"), (2, u "indexOf"), (19, u "$assertionsDisabled"), (0, u "Z"), (98, .class_ 223), (1, u "java/lang/StringLatin1$LinesSpliterator"), (28, u "charAt"), (34, u "([B[B)I"), (102, .class_ 391), (0, u "java/lang/StringLatin1$CharsSpliterator")] 3

def k10m0 : Method := { name := "<init>", desc := "()V", sig := { parameters := [], returnType := none }, accessFlags := 0, code := none }
def k10c1 : Code := { maxStack := 2, maxLocals := 2, code := jdk_43_method_2_code, exceptionTable := #[], attributes := #[] }
def k10m1 : Method := { name := "charAt", desc := "([BI)C", sig := { parameters := [(.array .byte), .int], returnType := some .char }, accessFlags := 9, code := some k10c1 }
def k10c2 : Code := { maxStack := 2, maxLocals := 1, code := jdk_43_method_4_code, exceptionTable := #[], attributes := #[] }
def k10m2 : Method := { name := "canEncode", desc := "(I)Z", sig := { parameters := [.int], returnType := some .boolean }, accessFlags := 9, code := some k10c2 }
def k10c3 : Code := { maxStack := 4, maxLocals := 4, code := jdk_43_method_14_code, exceptionTable := #[], attributes := #[] }
def k10m3 : Method := { name := "compareTo", desc := "([B[B)I", sig := { parameters := [(.array .byte), (.array .byte)], returnType := some .int }, accessFlags := 9, code := some k10c3 }
def k10c4 : Code := { maxStack := 3, maxLocals := 6, code := jdk_43_method_15_code, exceptionTable := #[], attributes := #[] }
def k10m4 : Method := { name := "compareTo", desc := "([B[BII)I", sig := { parameters := [(.array .byte), (.array .byte), .int, .int], returnType := some .int }, accessFlags := 9, code := some k10c4 }
def k10c5 : Code := { maxStack := 4, maxLocals := 4, code := jdk_43_method_22_code, exceptionTable := #[], attributes := #[] }
def k10m5 : Method := { name := "indexOf", desc := "([BIII)I", sig := { parameters := [(.array .byte), .int, .int, .int], returnType := some .int }, accessFlags := 9, code := some k10c5 }
def k10c6 : Code := { maxStack := 2, maxLocals := 6, code := jdk_43_method_23_code, exceptionTable := #[], attributes := #[] }
def k10m6 : Method := { name := "indexOfChar", desc := "([BIII)I", sig := { parameters := [(.array .byte), .int, .int, .int], returnType := some .int }, accessFlags := 10, code := some k10c6 }
/-- java/lang/StringLatin1 -/
def k10 : Class := { plain "java/lang/StringLatin1" (some 0) with
  accessFlags := 48
  interfaces := #[]
  cf := some (fileOf pool10 14 #[.nestMembers #[390, 221]] #[{ accessFlags := 0, nameIndex := 7, descriptorIndex := 8, attributes := #[] }, { accessFlags := 9, nameIndex := 252, descriptorIndex := 53, attributes := #[] }, { accessFlags := 9, nameIndex := 90, descriptorIndex := 91, attributes := #[] }, { accessFlags := 9, nameIndex := 36, descriptorIndex := 287, attributes := #[] }, { accessFlags := 9, nameIndex := 36, descriptorIndex := 37, attributes := #[] }, { accessFlags := 9, nameIndex := 101, descriptorIndex := 98, attributes := #[] }, { accessFlags := 10, nameIndex := 97, descriptorIndex := 98, attributes := #[] }] 48 4 #[] #[{ accessFlags := 4120, nameIndex := 121, descriptorIndex := 122, attributes := #[] }])
  fields := #[{ name := "$assertionsDisabled", type := .boolean, accessFlags := 4120, slot := 0, constantValue := 0 }]
  methods := #[k10m0, k10m1, k10m2, k10m3, k10m4, k10m5, k10m6]
  instanceTypes := #[]
  staticTypes := #[.boolean]
  resolved := Array.replicate 395 none
  statics := none }

def pool11 : Array CpInfo := pool [(1, .class_ 2), (0, u "java/lang/Math"), (1, .class_ 6), (1, u "java/lang/Object"), (0, u "<init>"), (0, u "()V"), (89, .class_ 100), (1, u "java/lang/Math$RandomNumberGeneratorHolder"), (71, u "negativeZeroFloatBits"), (0, u "J"), (2, u "negativeZeroDoubleBits"), (21, u "max"), (2, u "min"), (43, u "$assertionsDisabled"), (0, u "Z"), (88, u "(II)I"), (2, u "twoToTheDoubleScaleDown"), (0, u "D"), (4, u "twoToTheDoubleScaleUp"), (9, u "E"), (3, u "PI"), (2, u "TAU"), (2, u "DEGREES_TO_RADIANS"), (0, u "RADIANS_TO_DEGREES")] 94

def k11m0 : Method := { name := "<init>", desc := "()V", sig := { parameters := [], returnType := none }, accessFlags := 2, code := none }
def k11c1 : Code := { maxStack := 2, maxLocals := 2, code := jdk_29_method_65_code, exceptionTable := #[], attributes := #[] }
def k11m1 : Method := { name := "max", desc := "(II)I", sig := { parameters := [.int, .int], returnType := some .int }, accessFlags := 9, code := some k11c1 }
def k11c2 : Code := { maxStack := 2, maxLocals := 2, code := jdk_29_method_69_code, exceptionTable := #[], attributes := #[] }
def k11m2 : Method := { name := "min", desc := "(II)I", sig := { parameters := [.int, .int], returnType := some .int }, accessFlags := 9, code := some k11c2 }
/-- java/lang/Math -/
def k11 : Class := { plain "java/lang/Math" (some 0) with
  accessFlags := 49
  interfaces := #[]
  cf := some (fileOf pool11 1 #[.nestMembers #[98]] #[{ accessFlags := 2, nameIndex := 7, descriptorIndex := 8, attributes := #[] }, { accessFlags := 9, nameIndex := 198, descriptorIndex := 335, attributes := #[] }, { accessFlags := 9, nameIndex := 201, descriptorIndex := 335, attributes := #[] }] 49 4 #[] #[{ accessFlags := 25, nameIndex := 354, descriptorIndex := 339, attributes := #[] }, { accessFlags := 25, nameIndex := 358, descriptorIndex := 339, attributes := #[] }, { accessFlags := 25, nameIndex := 361, descriptorIndex := 339, attributes := #[] }, { accessFlags := 26, nameIndex := 364, descriptorIndex := 339, attributes := #[] }, { accessFlags := 26, nameIndex := 365, descriptorIndex := 339, attributes := #[] }, { accessFlags := 26, nameIndex := 172, descriptorIndex := 173, attributes := #[] }, { accessFlags := 26, nameIndex := 176, descriptorIndex := 173, attributes := #[] }, { accessFlags := 8, nameIndex := 344, descriptorIndex := 339, attributes := #[] }, { accessFlags := 8, nameIndex := 338, descriptorIndex := 339, attributes := #[] }, { accessFlags := 4120, nameIndex := 245, descriptorIndex := 246, attributes := #[] }])
  fields := #[{ name := "E", type := .double, accessFlags := 25, slot := 0, constantValue := 0 }, { name := "PI", type := .double, accessFlags := 25, slot := 1, constantValue := 0 }, { name := "TAU", type := .double, accessFlags := 25, slot := 2, constantValue := 0 }, { name := "DEGREES_TO_RADIANS", type := .double, accessFlags := 26, slot := 3, constantValue := 0 }, { name := "RADIANS_TO_DEGREES", type := .double, accessFlags := 26, slot := 4, constantValue := 0 }, { name := "negativeZeroFloatBits", type := .long, accessFlags := 26, slot := 5, constantValue := 0 }, { name := "negativeZeroDoubleBits", type := .long, accessFlags := 26, slot := 6, constantValue := 0 }, { name := "twoToTheDoubleScaleUp", type := .double, accessFlags := 8, slot := 7, constantValue := 0 }, { name := "twoToTheDoubleScaleDown", type := .double, accessFlags := 8, slot := 8, constantValue := 0 }, { name := "$assertionsDisabled", type := .boolean, accessFlags := 4120, slot := 9, constantValue := 0 }]
  methods := #[k11m0, k11m1, k11m2]
  instanceTypes := #[]
  staticTypes := #[.double, .double, .double, .double, .double, .long, .long, .double, .double, .boolean]
  resolved := Array.replicate 460 none
  statics := none }

def pool12 : Array CpInfo := pool [(2, .class_ 4), (1, u "java/lang/Object"), (0, u "<init>"), (0, u "()V"), (17, .class_ 26), (1, u "jdk/internal/util/Preconditions"), (6, u "checkIndex"), (21, .class_ 56), (0, u "jdk/internal/util/Preconditions$4"), (57, .class_ 115), (0, u "jdk/internal/util/Preconditions$1"), (7, u "SIOOBE_FORMATTER"), (0, u "Ljava/util/function/BiFunction;"), (0, .class_ 126), (0, u "jdk/internal/util/Preconditions$2"), (3, u "AIOOBE_FORMATTER"), (0, .class_ 132), (0, u "jdk/internal/util/Preconditions$3"), (3, u "IOOBE_FORMATTER"), (41, u "(IILjava/util/function/BiFunction;)I")] 15

def k12m0 : Method := { name := "<init>", desc := "()V", sig := { parameters := [], returnType := none }, accessFlags := 1, code := none }
def k12c1 : Code := { maxStack := 3, maxLocals := 3, code := jdk_41_method_11_code, exceptionTable := #[], attributes := #[] }
def k12m1 : Method := { name := "checkIndex", desc := "(IILjava/util/function/BiFunction;)I", sig := { parameters := [.int, .int, (.object "java/util/function/BiFunction")], returnType := some .int }, accessFlags := 9, code := some k12c1 }
/-- jdk/internal/util/Preconditions -/
def k12 : Class := { plain "jdk/internal/util/Preconditions" (some 0) with
  accessFlags := 33
  interfaces := #[]
  cf := some (fileOf pool12 24 #[.nestMembers #[55, 131, 125, 114]] #[{ accessFlags := 1, nameIndex := 5, descriptorIndex := 6, attributes := #[] }, { accessFlags := 9, nameIndex := 33, descriptorIndex := 178, attributes := #[] }] 33 2 #[] #[{ accessFlags := 25, nameIndex := 123, descriptorIndex := 124, attributes := #[] }, { accessFlags := 25, nameIndex := 130, descriptorIndex := 124, attributes := #[] }, { accessFlags := 25, nameIndex := 136, descriptorIndex := 124, attributes := #[] }])
  fields := #[{ name := "SIOOBE_FORMATTER", type := (.object "java/util/function/BiFunction"), accessFlags := 25, slot := 0, constantValue := 0 }, { name := "AIOOBE_FORMATTER", type := (.object "java/util/function/BiFunction"), accessFlags := 25, slot := 1, constantValue := 0 }, { name := "IOOBE_FORMATTER", type := (.object "java/util/function/BiFunction"), accessFlags := 25, slot := 2, constantValue := 0 }]
  methods := #[k12m0, k12m1]
  instanceTypes := #[]
  staticTypes := #[(.object "java/util/function/BiFunction"), (.object "java/util/function/BiFunction"), (.object "java/util/function/BiFunction")]
  resolved := Array.replicate 194 none
  statics := some 1 }

def pool13 : Array CpInfo := pool [(1, .methodref 2 3), (0, .class_ 4), (0, .nameAndType 5 6), (0, u "java/lang/Object"), (0, u "<init>"), (0, u "()V"), (0, .string 8), (0, u "proposer"), (0, .methodref 10 11), (0, .class_ 12), (0, .nameAndType 13 14), (0, u "java/util/Objects"), (0, u "requireNonNull"), (0, u "(Ljava/lang/Object;Ljava/lang/String;)Ljava/lang/Object;"), (7, .fieldref 23 24), (0, .class_ 25), (0, .nameAndType 26 27), (0, u "com/example/assemble_quorum/assemblequorum/model/ProposalNumber"), (0, u "counter"), (0, u "J"), (0, .fieldref 23 29), (0, .nameAndType 8 30), (0, u "Lcom/example/assemble_quorum/assemblequorum/model/MemberAddress;"), (0, .methodref 32 33), (0, .class_ 34), (0, .nameAndType 35 36), (0, u "java/lang/Long"), (0, u "compare"), (0, u "(JJ)I"), (0, .methodref 38 39), (0, .class_ 40), (0, .nameAndType 41 42), (0, u "com/example/assemble_quorum/assemblequorum/model/MemberAddress"), (0, u "compareTo"), (0, u "(Lcom/example/assemble_quorum/assemblequorum/model/MemberAddress;)I"), (23, u "(Lcom/example/assemble_quorum/assemblequorum/model/ProposalNumber;)I"), (0, .class_ 68), (0, u "java/lang/Comparable"), (0, u "(JLcom/example/assemble_quorum/assemblequorum/model/MemberAddress;)V")] 28

def k13c0 : Code := { maxStack := 4, maxLocals := 4, code := prog_33_method_1_code, exceptionTable := #[], attributes := #[] }
def k13m0 : Method := { name := "<init>", desc := "(JLcom/example/assemble_quorum/assemblequorum/model/MemberAddress;)V", sig := { parameters := [.long, (.object "com/example/assemble_quorum/assemblequorum/model/MemberAddress")], returnType := none }, accessFlags := 1, code := some k13c0 }
def k13c1 : Code := { maxStack := 4, maxLocals := 3, code := prog_33_method_4_code, exceptionTable := #[], attributes := #[] }
def k13m1 : Method := { name := "compareTo", desc := "(Lcom/example/assemble_quorum/assemblequorum/model/ProposalNumber;)I", sig := { parameters := [(.object "com/example/assemble_quorum/assemblequorum/model/ProposalNumber")], returnType := some .int }, accessFlags := 1, code := some k13c1 }
/-- com/example/assemble_quorum/assemblequorum/model/ProposalNumber -/
def k13 : Class := { plain "com/example/assemble_quorum/assemblequorum/model/ProposalNumber" (some 0) with
  accessFlags := 33
  interfaces := #[2]
  cf := some (fileOf pool13 23 #[] #[{ accessFlags := 1, nameIndex := 5, descriptorIndex := 69, attributes := #[] }, { accessFlags := 1, nameIndex := 41, descriptorIndex := 66, attributes := #[] }] 33 2 #[67] #[{ accessFlags := 18, nameIndex := 26, descriptorIndex := 27, attributes := #[] }, { accessFlags := 18, nameIndex := 8, descriptorIndex := 30, attributes := #[] }])
  fields := #[{ name := "counter", type := .long, accessFlags := 18, slot := 0, constantValue := 0 }, { name := "proposer", type := (.object "com/example/assemble_quorum/assemblequorum/model/MemberAddress"), accessFlags := 18, slot := 1, constantValue := 0 }]
  methods := #[k13m0, k13m1]
  instanceTypes := #[.long, (.object "com/example/assemble_quorum/assemblequorum/model/MemberAddress")]
  staticTypes := #[]
  resolved := Array.replicate 98 none
  statics := none }

def pool14 : Array CpInfo := pool [(1, .methodref 2 3), (0, .class_ 4), (0, .nameAndType 5 6), (0, u "java/lang/Object"), (0, u "<init>"), (0, u "()V"), (0, .class_ 8), (0, u "java/util/HashSet"), (0, .methodref 7 3), (0, .fieldref 11 12), (0, .class_ 13), (0, .nameAndType 14 15), (0, u "com/example/assemble_quorum/assemblequorum/service/Round"), (0, u "awaited"), (0, u "Ljava/util/Set;"), (0, .fieldref 11 17), (0, .nameAndType 18 15), (0, u "votes"), (2, u "phase"), (0, u "Lcom/example/assemble_quorum/assemblequorum/service/Round$Phase;"), (2, u "deadlineNanos"), (0, u "J"), (25, .class_ 54), (1, u "com/example/assemble_quorum/assemblequorum/service/Round$Phase"), (11, u "target"), (0, u "Lcom/example/assemble_quorum/assemblequorum/model/MemberAddress;"), (2, u "seenVersion"), (11, u "version"), (2, u "number"), (0, u "Lcom/example/assemble_quorum/assemblequorum/model/ProposalNumber;"), (1, .class_ 90), (1, u "com/example/assemble_quorum/assemblequorum/model/ProposalNumber"), (1, .fieldref 11 93), (0, .nameAndType 94 86), (0, u "priorNumber"), (0, .methodref 88 96), (0, .nameAndType 97 98), (0, u "compareTo"), (0, u "(Lcom/example/assemble_quorum/assemblequorum/model/ProposalNumber;)I"), (0, .fieldref 11 100), (0, .nameAndType 101 67), (0, u "priorCandidate"), (29, u "notePrior"), (0, u "(Lcom/example/assemble_quorum/assemblequorum/model/ProposalNumber;Lcom/example/assemble_quorum/assemblequorum/model/MemberAddress;)V"), (0, u "finalCandidate"), (0, u "(Lcom/example/assemble_quorum/assemblequorum/model/MemberAddress;)Lcom/example/assemble_quorum/assemblequorum/model/MemberAddress;")] 7

def k14c0 : Code := { maxStack := 3, maxLocals := 1, code := prog_46_method_1_code, exceptionTable := #[], attributes := #[] }
def k14m0 : Method := { name := "<init>", desc := "()V", sig := { parameters := [], returnType := none }, accessFlags := 0, code := some k14c0 }
def k14c1 : Code := { maxStack := 2, maxLocals := 3, code := prog_46_method_19_code, exceptionTable := #[], attributes := #[] }
def k14m1 : Method := { name := "notePrior", desc := "(Lcom/example/assemble_quorum/assemblequorum/model/ProposalNumber;Lcom/example/assemble_quorum/assemblequorum/model/MemberAddress;)V", sig := { parameters := [(.object "com/example/assemble_quorum/assemblequorum/model/ProposalNumber"), (.object "com/example/assemble_quorum/assemblequorum/model/MemberAddress")], returnType := none }, accessFlags := 0, code := some k14c1 }
def k14c2 : Code := { maxStack := 1, maxLocals := 2, code := prog_46_method_20_code, exceptionTable := #[], attributes := #[] }
def k14m2 : Method := { name := "finalCandidate", desc := "(Lcom/example/assemble_quorum/assemblequorum/model/MemberAddress;)Lcom/example/assemble_quorum/assemblequorum/model/MemberAddress;", sig := { parameters := [(.object "com/example/assemble_quorum/assemblequorum/model/MemberAddress")], returnType := some (.object "com/example/assemble_quorum/assemblequorum/model/MemberAddress") }, accessFlags := 0, code := some k14c2 }
/-- com/example/assemble_quorum/assemblequorum/service/Round -/
def k14 : Class := { plain "com/example/assemble_quorum/assemblequorum/service/Round" (some 0) with
  accessFlags := 32
  interfaces := #[]
  cf := some (fileOf pool14 11 #[.nestMembers #[52]] #[{ accessFlags := 0, nameIndex := 5, descriptorIndex := 6, attributes := #[] }, { accessFlags := 0, nameIndex := 131, descriptorIndex := 132, attributes := #[] }, { accessFlags := 0, nameIndex := 133, descriptorIndex := 134, attributes := #[] }] 32 2 #[] #[{ accessFlags := 2, nameIndex := 21, descriptorIndex := 22, attributes := #[] }, { accessFlags := 2, nameIndex := 25, descriptorIndex := 26, attributes := #[] }, { accessFlags := 18, nameIndex := 14, descriptorIndex := 15, attributes := #[] }, { accessFlags := 18, nameIndex := 18, descriptorIndex := 15, attributes := #[] }, { accessFlags := 2, nameIndex := 66, descriptorIndex := 67, attributes := #[] }, { accessFlags := 2, nameIndex := 70, descriptorIndex := 26, attributes := #[] }, { accessFlags := 2, nameIndex := 82, descriptorIndex := 26, attributes := #[] }, { accessFlags := 2, nameIndex := 85, descriptorIndex := 86, attributes := #[] }, { accessFlags := 2, nameIndex := 94, descriptorIndex := 86, attributes := #[] }, { accessFlags := 2, nameIndex := 101, descriptorIndex := 67, attributes := #[] }])
  fields := #[{ name := "phase", type := (.object "com/example/assemble_quorum/assemblequorum/service/Round$Phase"), accessFlags := 2, slot := 0, constantValue := 0 }, { name := "deadlineNanos", type := .long, accessFlags := 2, slot := 1, constantValue := 0 }, { name := "awaited", type := (.object "java/util/Set"), accessFlags := 18, slot := 2, constantValue := 0 }, { name := "votes", type := (.object "java/util/Set"), accessFlags := 18, slot := 3, constantValue := 0 }, { name := "target", type := (.object "com/example/assemble_quorum/assemblequorum/model/MemberAddress"), accessFlags := 2, slot := 4, constantValue := 0 }, { name := "seenVersion", type := .long, accessFlags := 2, slot := 5, constantValue := 0 }, { name := "version", type := .long, accessFlags := 2, slot := 6, constantValue := 0 }, { name := "number", type := (.object "com/example/assemble_quorum/assemblequorum/model/ProposalNumber"), accessFlags := 2, slot := 7, constantValue := 0 }, { name := "priorNumber", type := (.object "com/example/assemble_quorum/assemblequorum/model/ProposalNumber"), accessFlags := 2, slot := 8, constantValue := 0 }, { name := "priorCandidate", type := (.object "com/example/assemble_quorum/assemblequorum/model/MemberAddress"), accessFlags := 2, slot := 9, constantValue := 0 }]
  methods := #[k14m0, k14m1, k14m2]
  instanceTypes := #[(.object "com/example/assemble_quorum/assemblequorum/service/Round$Phase"), .long, (.object "java/util/Set"), (.object "java/util/Set"), (.object "com/example/assemble_quorum/assemblequorum/model/MemberAddress"), .long, .long, (.object "com/example/assemble_quorum/assemblequorum/model/ProposalNumber"), (.object "com/example/assemble_quorum/assemblequorum/model/ProposalNumber"), (.object "com/example/assemble_quorum/assemblequorum/model/MemberAddress")]
  staticTypes := #[]
  resolved := Array.replicate 142 none
  statics := none }

def pool15 : Array CpInfo := pool [(8, .class_ 10), (1, u "java/lang/Iterable"), (24, .class_ 36), (0, u "java/lang/Object")] 25

/-- java/lang/Iterable -/
def k15 : Class := { plain "java/lang/Iterable" (some 0) with
  accessFlags := 1537
  interfaces := #[]
  cf := some (fileOf pool15 8 #[] #[] 1537 35 #[] #[])
  fields := #[]
  methods := #[]
  instanceTypes := #[]
  staticTypes := #[]
  resolved := Array.replicate 62 none
  statics := none }

def pool16 : Array CpInfo := pool [(10, .class_ 12), (1, u "java/util/Collection"), (47, .class_ 61), (0, u "java/lang/Object"), (0, .class_ 63), (0, u "java/lang/Iterable")] 51

/-- java/util/Collection -/
def k16 : Class := { plain "java/util/Collection" (some 0) with
  accessFlags := 1537
  interfaces := #[15]
  cf := some (fileOf pool16 10 #[] #[] 1537 60 #[62] #[])
  fields := #[]
  methods := #[]
  instanceTypes := #[]
  staticTypes := #[]
  resolved := Array.replicate 115 none
  statics := none }

def pool17 : Array CpInfo := pool [(1, .methodref 2 3), (0, .class_ 4), (0, .nameAndType 5 6), (0, u "java/lang/Object"), (0, u "<init>"), (0, u "()V"), (1, .class_ 10), (1, u "java/util/AbstractCollection"), (66, .class_ 78), (0, u "java/util/Collection")] 81

def k17c0 : Code := { maxStack := 1, maxLocals := 1, code := jdk_22_method_1_code, exceptionTable := #[], attributes := #[] }
def k17m0 : Method := { name := "<init>", desc := "()V", sig := { parameters := [], returnType := none }, accessFlags := 4, code := some k17c0 }
/-- java/util/AbstractCollection -/
def k17 : Class := { plain "java/util/AbstractCollection" (some 0) with
  accessFlags := 1057
  interfaces := #[16]
  cf := some (fileOf pool17 8 #[] #[{ accessFlags := 4, nameIndex := 5, descriptorIndex := 6, attributes := #[] }] 1057 2 #[77] #[])
  fields := #[]
  methods := #[k17m0]
  instanceTypes := #[]
  staticTypes := #[]
  resolved := Array.replicate 160 none
  statics := none }

def pool18 : Array CpInfo := pool [(26, .class_ 27), (0, u "java/lang/Object"), (5, .class_ 34), (0, u "java/util/Set"), (1, .class_ 38), (1, u "java/util/Collection")] 105

/-- java/util/Set -/
def k18 : Class := { plain "java/util/Set" (some 0) with
  accessFlags := 1537
  interfaces := #[16]
  cf := some (fileOf pool18 33 #[] #[] 1537 26 #[36] #[])
  fields := #[]
  methods := #[]
  instanceTypes := #[]
  staticTypes := #[]
  resolved := Array.replicate 144 none
  statics := none }

def pool19 : Array CpInfo := pool [(1, .methodref 2 3), (0, .class_ 4), (0, .nameAndType 5 6), (0, u "java/util/AbstractCollection"), (0, u "<init>"), (0, u "()V"), (0, .class_ 8), (0, u "java/util/Set"), (7, .class_ 17), (0, u "java/util/AbstractSet")] 78

def k19c0 : Code := { maxStack := 1, maxLocals := 1, code := jdk_91_method_1_code, exceptionTable := #[], attributes := #[] }
def k19m0 : Method := { name := "<init>", desc := "()V", sig := { parameters := [], returnType := none }, accessFlags := 4, code := some k19c0 }
/-- java/util/AbstractSet -/
def k19 : Class := { plain "java/util/AbstractSet" (some 17) with
  accessFlags := 1057
  interfaces := #[18]
  cf := some (fileOf pool19 16 #[] #[{ accessFlags := 4, nameIndex := 5, descriptorIndex := 6, attributes := #[] }] 1057 2 #[7] #[])
  fields := #[]
  methods := #[k19m0]
  instanceTypes := #[]
  staticTypes := #[]
  resolved := Array.replicate 96 none
  statics := none }

def pool20 : Array CpInfo := pool [(1, .class_ 2), (0, u "java/lang/Cloneable"), (0, .class_ 4), (0, u "java/lang/Object")] 2

/-- java/lang/Cloneable -/
def k20 : Class := { plain "java/lang/Cloneable" (some 0) with
  accessFlags := 1537
  interfaces := #[]
  cf := some (fileOf pool20 1 #[] #[] 1537 3 #[] #[])
  fields := #[]
  methods := #[]
  instanceTypes := #[]
  staticTypes := #[]
  resolved := Array.replicate 7 none
  statics := none }

def pool21 : Array CpInfo := pool [(1, .methodref 2 3), (0, .class_ 4), (0, .nameAndType 5 6), (0, u "java/util/AbstractSet"), (0, u "<init>"), (0, u "()V"), (0, .class_ 8), (0, u "java/util/HashMap"), (0, .methodref 7 3), (0, .fieldref 11 12), (0, .class_ 13), (0, .nameAndType 14 15), (0, u "java/util/HashSet"), (0, u "map"), (0, u "Ljava/util/HashMap;"), (34, .class_ 52), (1, u "java/util/Set"), (13, u "PRESENT"), (0, u "Ljava/lang/Object;"), (158, .class_ 227), (0, u "java/lang/Cloneable"), (0, .class_ 229), (0, u "java/io/Serializable"), (0, u "serialVersionUID"), (0, u "J")] 71

def k21c0 : Code := { maxStack := 3, maxLocals := 1, code := jdk_93_method_1_code, exceptionTable := #[], attributes := #[] }
def k21m0 : Method := { name := "<init>", desc := "()V", sig := { parameters := [], returnType := none }, accessFlags := 1, code := some k21c0 }
/-- java/util/HashSet -/
def k21 : Class := { plain "java/util/HashSet" (some 19) with
  accessFlags := 33
  interfaces := #[18, 20, 4]
  cf := some (fileOf pool21 11 #[] #[{ accessFlags := 1, nameIndex := 5, descriptorIndex := 6, attributes := #[] }] 33 2 #[50, 226, 228] #[{ accessFlags := 24, nameIndex := 230, descriptorIndex := 231, attributes := #[] }, { accessFlags := 128, nameIndex := 14, descriptorIndex := 15, attributes := #[] }, { accessFlags := 24, nameIndex := 66, descriptorIndex := 67, attributes := #[] }])
  fields := #[{ name := "serialVersionUID", type := .long, accessFlags := 24, slot := 0, constantValue := 0 }, { name := "map", type := (.object "java/util/HashMap"), accessFlags := 128, slot := 0, constantValue := 0 }, { name := "PRESENT", type := (.object "java/lang/Object"), accessFlags := 24, slot := 1, constantValue := 0 }]
  methods := #[k21m0]
  instanceTypes := #[(.object "java/util/HashMap")]
  staticTypes := #[.long, (.object "java/lang/Object")]
  resolved := Array.replicate 303 none
  statics := none }

def pool22 : Array CpInfo := pool [(2, .class_ 4), (1, u "java/util/Map"), (31, .class_ 37), (0, u "java/util/Map$Entry"), (55, .class_ 94), (0, u "java/lang/Object")] 168

/-- java/util/Map -/
def k22 : Class := { plain "java/util/Map" (some 0) with
  accessFlags := 1537
  interfaces := #[]
  cf := some (fileOf pool22 2 #[.nestMembers #[36]] #[] 1537 93 #[] #[])
  fields := #[]
  methods := #[]
  instanceTypes := #[]
  staticTypes := #[]
  resolved := Array.replicate 263 none
  statics := none }

def pool23 : Array CpInfo := pool [(1, .methodref 2 3), (0, .class_ 4), (0, .nameAndType 5 6), (0, u "java/lang/Object"), (0, u "<init>"), (0, u "()V"), (1, .class_ 10), (1, u "java/util/AbstractMap"), (42, .class_ 54), (0, u "java/util/Map"), (9, u "keySet"), (0, u "Ljava/util/Set;"), (0, .class_ 67), (0, u "java/util/AbstractMap$1"), (5, u "values"), (0, u "Ljava/util/Collection;"), (0, .class_ 76), (0, u "java/util/AbstractMap$2"), (104, .class_ 182), (0, u "java/util/AbstractMap$ViewCollection"), (0, .class_ 184), (0, u "java/util/AbstractMap$SimpleImmutableEntry"), (0, .class_ 186), (0, u "java/util/AbstractMap$SimpleEntry"), (0, .class_ 188), (0, u "java/util/AbstractMap$2$1"), (0, .class_ 190), (0, u "java/util/AbstractMap$1$1")] 5

def k23c0 : Code := { maxStack := 1, maxLocals := 1, code := jdk_71_method_1_code, exceptionTable := #[], attributes := #[] }
def k23m0 : Method := { name := "<init>", desc := "()V", sig := { parameters := [], returnType := none }, accessFlags := 4, code := some k23c0 }
/-- java/util/AbstractMap -/
def k23 : Class := { plain "java/util/AbstractMap" (some 0) with
  accessFlags := 1057
  interfaces := #[22]
  cf := some (fileOf pool23 8 #[.nestMembers #[181, 183, 185, 75, 187, 66, 189]] #[{ accessFlags := 4, nameIndex := 5, descriptorIndex := 6, attributes := #[] }] 1057 2 #[53] #[{ accessFlags := 128, nameIndex := 64, descriptorIndex := 65, attributes := #[] }, { accessFlags := 128, nameIndex := 73, descriptorIndex := 74, attributes := #[] }])
  fields := #[{ name := "keySet", type := (.object "java/util/Set"), accessFlags := 128, slot := 0, constantValue := 0 }, { name := "values", type := (.object "java/util/Collection"), accessFlags := 128, slot := 1, constantValue := 0 }]
  methods := #[k23m0]
  instanceTypes := #[(.object "java/util/Set"), (.object "java/util/Collection")]
  staticTypes := #[]
  resolved := Array.replicate 196 none
  statics := none }

def pool24 : Array CpInfo := pool [(40, .class_ 41), (0, u "java/util/HashMap"), (1, .methodref 44 45), (0, .class_ 46), (0, .nameAndType 47 48), (0, u "java/util/AbstractMap"), (0, u "<init>"), (0, u "()V"), (32, .fieldref 40 82), (0, .nameAndType 83 84), (0, u "loadFactor"), (0, u "F"), (5, u "threshold"), (0, u "I"), (0, .float 1061158912), (8, .class_ 103), (1, u "java/util/Map"), (0, u "size"), (2, u "table"), (0, u "[Ljava/util/HashMap$Node;"), (14, u "entrySet"), (39, .class_ 165), (1, u "java/util/HashMap$Node"), (14, .class_ 181), (0, u "java/util/HashMap$TreeNode"), (22, u "modCount"), (37, u "Ljava/util/Set;"), (0, .class_ 244), (0, u "java/util/HashMap$KeySet"), (18, .class_ 264), (0, u "java/util/HashMap$Values"), (3, .class_ 269), (0, u "java/util/HashMap$EntrySet"), (76, .class_ 348), (1, u "java/util/HashMap$UnsafeHolder"), (43, .class_ 393), (0, u "java/lang/Cloneable"), (0, .class_ 395), (0, u "java/io/Serializable"), (0, u "serialVersionUID"), (0, u "J"), (3, u "DEFAULT_INITIAL_CAPACITY"), (1, u "MAXIMUM_CAPACITY"), (0, u "DEFAULT_LOAD_FACTOR"), (0, u "TREEIFY_THRESHOLD"), (1, u "UNTREEIFY_THRESHOLD"), (1, u "MIN_TREEIFY_CAPACITY"), (186, .class_ 597), (0, u "java/util/HashMap$EntrySpliterator"), (0, .class_ 599), (0, u "java/util/HashMap$ValueSpliterator"), (0, .class_ 601), (0, u "java/util/HashMap$KeySpliterator"), (0, .class_ 603), (0, u "java/util/HashMap$HashMapSpliterator"), (0, .class_ 605), (0, u "java/util/HashMap$EntryIterator"), (0, .class_ 607), (0, u "java/util/HashMap$ValueIterator"), (0, .class_ 609), (0, u "java/util/HashMap$KeyIterator"), (0, .class_ 611), (0, u "java/util/HashMap$HashIterator")] 17

def k24c0 : Code := { maxStack := 2, maxLocals := 1, code := jdk_69_method_7_code, exceptionTable := #[], attributes := #[] }
def k24m0 : Method := { name := "<init>", desc := "()V", sig := { parameters := [], returnType := none }, accessFlags := 1, code := some k24c0 }
/-- java/util/HashMap -/
def k24 : Class := { plain "java/util/HashMap" (some 23) with
  accessFlags := 33
  interfaces := #[22, 20, 4]
  cf := some (fileOf pool24 40 #[.nestMembers #[180, 596, 598, 600, 602, 604, 606, 608, 610, 346, 268, 263, 243, 163]] #[{ accessFlags := 1, nameIndex := 47, descriptorIndex := 48, attributes := #[] }] 33 44 #[101, 392, 394] #[{ accessFlags := 26, nameIndex := 396, descriptorIndex := 397, attributes := #[] }, { accessFlags := 24, nameIndex := 401, descriptorIndex := 91, attributes := #[] }, { accessFlags := 24, nameIndex := 403, descriptorIndex := 91, attributes := #[] }, { accessFlags := 24, nameIndex := 404, descriptorIndex := 84, attributes := #[] }, { accessFlags := 24, nameIndex := 405, descriptorIndex := 91, attributes := #[] }, { accessFlags := 24, nameIndex := 407, descriptorIndex := 91, attributes := #[] }, { accessFlags := 24, nameIndex := 409, descriptorIndex := 91, attributes := #[] }, { accessFlags := 128, nameIndex := 107, descriptorIndex := 108, attributes := #[] }, { accessFlags := 128, nameIndex := 123, descriptorIndex := 242, attributes := #[] }, { accessFlags := 128, nameIndex := 104, descriptorIndex := 91, attributes := #[] }, { accessFlags := 128, nameIndex := 204, descriptorIndex := 91, attributes := #[] }, { accessFlags := 0, nameIndex := 90, descriptorIndex := 91, attributes := #[] }, { accessFlags := 16, nameIndex := 83, descriptorIndex := 84, attributes := #[] }])
  fields := #[{ name := "serialVersionUID", type := .long, accessFlags := 26, slot := 0, constantValue := 0 }, { name := "DEFAULT_INITIAL_CAPACITY", type := .int, accessFlags := 24, slot := 1, constantValue := 0 }, { name := "MAXIMUM_CAPACITY", type := .int, accessFlags := 24, slot := 2, constantValue := 0 }, { name := "DEFAULT_LOAD_FACTOR", type := .float, accessFlags := 24, slot := 3, constantValue := 0 }, { name := "TREEIFY_THRESHOLD", type := .int, accessFlags := 24, slot := 4, constantValue := 0 }, { name := "UNTREEIFY_THRESHOLD", type := .int, accessFlags := 24, slot := 5, constantValue := 0 }, { name := "MIN_TREEIFY_CAPACITY", type := .int, accessFlags := 24, slot := 6, constantValue := 0 }, { name := "table", type := (.array (.object "java/util/HashMap$Node")), accessFlags := 128, slot := 2, constantValue := 0 }, { name := "entrySet", type := (.object "java/util/Set"), accessFlags := 128, slot := 3, constantValue := 0 }, { name := "size", type := .int, accessFlags := 128, slot := 4, constantValue := 0 }, { name := "modCount", type := .int, accessFlags := 128, slot := 5, constantValue := 0 }, { name := "threshold", type := .int, accessFlags := 0, slot := 6, constantValue := 0 }, { name := "loadFactor", type := .float, accessFlags := 16, slot := 7, constantValue := 0 }]
  methods := #[k24m0]
  instanceTypes := #[(.object "java/util/Set"), (.object "java/util/Collection"), (.array (.object "java/util/HashMap$Node")), (.object "java/util/Set"), .int, .int, .int, .float]
  staticTypes := #[.long, .int, .int, .float, .int, .int, .int]
  resolved := Array.replicate 629 none
  statics := none }

def pool25 : Array CpInfo := pool [(2, .class_ 4), (1, u "java/lang/Object"), (0, u "<init>"), (0, u "()V"), (1, .class_ 10), (1, u "java/lang/Number"), (2, .class_ 14), (0, u "java/io/Serializable"), (0, u "serialVersionUID"), (0, u "J")] 20

def k25m0 : Method := { name := "<init>", desc := "()V", sig := { parameters := [], returnType := none }, accessFlags := 1, code := none }
/-- java/lang/Number -/
def k25 : Class := { plain "java/lang/Number" (some 0) with
  accessFlags := 1057
  interfaces := #[4]
  cf := some (fileOf pool25 8 #[] #[{ accessFlags := 1, nameIndex := 5, descriptorIndex := 6, attributes := #[] }] 1057 2 #[13] #[{ accessFlags := 26, nameIndex := 15, descriptorIndex := 16, attributes := #[] }])
  fields := #[{ name := "serialVersionUID", type := .long, accessFlags := 26, slot := 0, constantValue := 0 }]
  methods := #[k25m0]
  instanceTypes := #[]
  staticTypes := #[.long]
  resolved := Array.replicate 37 none
  statics := none }

def pool26 : Array CpInfo := pool [(1, .class_ 2), (0, u "java/lang/Long"), (232, .class_ 237), (1, u "java/lang/Long$LongCache"), (33, .class_ 272), (0, u "java/lang/Number"), (2, u "value"), (0, u "J"), (27, u "compare"), (0, u "(JJ)I"), (55, u "TYPE"), (0, u "Ljava/lang/Class;"), (0, .class_ 364), (0, u "java/lang/Comparable"), (0, .class_ 366), (0, u "java/lang/constant/Constable"), (0, .class_ 368), (0, u "java/lang/constant/ConstantDesc"), (0, u "MIN_VALUE"), (1, u "MAX_VALUE"), (4, u "SIZE"), (0, u "I"), (1, u "BYTES"), (1, u "serialVersionUID")] 142

def k26c0 : Code := { maxStack := 4, maxLocals := 4, code := jdk_35_method_42_code, exceptionTable := #[], attributes := #[] }
def k26m0 : Method := { name := "compare", desc := "(JJ)I", sig := { parameters := [.long, .long], returnType := some .int }, accessFlags := 9, code := some k26c0 }
/-- java/lang/Long -/
def k26 : Class := { plain "java/lang/Long" (some 25) with
  accessFlags := 49
  interfaces := #[2, 6, 7]
  cf := some (fileOf pool26 1 #[.nestMembers #[235]] #[{ accessFlags := 9, nameIndex := 304, descriptorIndex := 305, attributes := #[] }] 49 271 #[363, 365, 367] #[{ accessFlags := 25, nameIndex := 369, descriptorIndex := 276, attributes := #[] }, { accessFlags := 25, nameIndex := 371, descriptorIndex := 276, attributes := #[] }, { accessFlags := 25, nameIndex := 361, descriptorIndex := 362, attributes := #[] }, { accessFlags := 18, nameIndex := 275, descriptorIndex := 276, attributes := #[] }, { accessFlags := 25, nameIndex := 376, descriptorIndex := 377, attributes := #[] }, { accessFlags := 25, nameIndex := 379, descriptorIndex := 377, attributes := #[] }, { accessFlags := 26, nameIndex := 381, descriptorIndex := 276, attributes := #[] }])
  fields := #[{ name := "MIN_VALUE", type := .long, accessFlags := 25, slot := 0, constantValue := 0 }, { name := "MAX_VALUE", type := .long, accessFlags := 25, slot := 1, constantValue := 0 }, { name := "TYPE", type := (.object "java/lang/Class"), accessFlags := 25, slot := 2, constantValue := 0 }, { name := "value", type := .long, accessFlags := 18, slot := 0, constantValue := 0 }, { name := "SIZE", type := .int, accessFlags := 25, slot := 3, constantValue := 0 }, { name := "BYTES", type := .int, accessFlags := 25, slot := 4, constantValue := 0 }, { name := "serialVersionUID", type := .long, accessFlags := 26, slot := 5, constantValue := 0 }]
  methods := #[k26m0]
  instanceTypes := #[.long]
  staticTypes := #[.long, .long, (.object "java/lang/Class"), .int, .int, .long]
  resolved := Array.replicate 524 none
  statics := none }

def pool27 : Array CpInfo := pool [(9, u "<init>"), (6, .class_ 18), (1, u "java/lang/Object"), (0, u "()V"), (1, .class_ 23), (1, u "jdk/internal/util/ArraysSupport"), (0, u "LOG2_ARRAY_LONG_INDEX_SCALE"), (0, u "I"), (2, u "U"), (0, u "Ljdk/internal/misc/Unsafe;"), (8, u "BIG_ENDIAN"), (0, u "Z"), (8, u "LOG2_BYTE_BIT_SIZE"), (4, u "LOG2_ARRAY_INT_INDEX_SCALE"), (54, u "JLA"), (0, u "Ljdk/internal/access/JavaLangAccess;"), (11, u "LOG2_ARRAY_BOOLEAN_INDEX_SCALE"), (9, u "LOG2_ARRAY_BYTE_INDEX_SCALE"), (5, u "LOG2_ARRAY_CHAR_INDEX_SCALE"), (5, u "LOG2_ARRAY_SHORT_INDEX_SCALE"), (5, u "mismatch"), (12, u "LOG2_ARRAY_FLOAT_INDEX_SCALE"), (24, u "LOG2_ARRAY_DOUBLE_INDEX_SCALE"), (89, u "T_BOOLEAN"), (2, u "T_CHAR"), (1, u "T_FLOAT"), (1, u "T_DOUBLE"), (1, u "T_BYTE"), (1, u "T_SHORT"), (1, u "T_INT"), (1, u "T_LONG"), (1, u "SOFT_MAX_ARRAY_LENGTH"), (41, u "([B[BI)I")] 41

def k27m0 : Method := { name := "<init>", desc := "()V", sig := { parameters := [], returnType := none }, accessFlags := 2, code := none }
def k27c1 : Code := { maxStack := 8, maxLocals := 4, code := jdk_48_method_13_code, exceptionTable := #[], attributes := #[] }
def k27m1 : Method := { name := "mismatch", desc := "([B[BI)I", sig := { parameters := [(.array .byte), (.array .byte), .int], returnType := some .int }, accessFlags := 9, code := some k27c1 }
/-- jdk/internal/util/ArraysSupport -/
def k27 : Class := { plain "jdk/internal/util/ArraysSupport" (some 0) with
  accessFlags := 33
  interfaces := #[]
  cf := some (fileOf pool27 21 #[] #[{ accessFlags := 2, nameIndex := 9, descriptorIndex := 19, attributes := #[] }, { accessFlags := 9, nameIndex := 149, descriptorIndex := 336, attributes := #[] }] 33 16 #[] #[{ accessFlags := 24, nameIndex := 28, descriptorIndex := 29, attributes := #[] }, { accessFlags := 26, nameIndex := 38, descriptorIndex := 39, attributes := #[] }, { accessFlags := 25, nameIndex := 121, descriptorIndex := 25, attributes := #[] }, { accessFlags := 25, nameIndex := 131, descriptorIndex := 25, attributes := #[] }, { accessFlags := 25, nameIndex := 137, descriptorIndex := 25, attributes := #[] }, { accessFlags := 25, nameIndex := 143, descriptorIndex := 25, attributes := #[] }, { accessFlags := 25, nameIndex := 53, descriptorIndex := 25, attributes := #[] }, { accessFlags := 25, nameIndex := 24, descriptorIndex := 25, attributes := #[] }, { accessFlags := 25, nameIndex := 162, descriptorIndex := 25, attributes := #[] }, { accessFlags := 25, nameIndex := 187, descriptorIndex := 25, attributes := #[] }, { accessFlags := 26, nameIndex := 48, descriptorIndex := 25, attributes := #[] }, { accessFlags := 25, nameIndex := 277, descriptorIndex := 25, attributes := #[] }, { accessFlags := 25, nameIndex := 280, descriptorIndex := 25, attributes := #[] }, { accessFlags := 25, nameIndex := 282, descriptorIndex := 25, attributes := #[] }, { accessFlags := 25, nameIndex := 284, descriptorIndex := 25, attributes := #[] }, { accessFlags := 25, nameIndex := 286, descriptorIndex := 25, attributes := #[] }, { accessFlags := 25, nameIndex := 288, descriptorIndex := 25, attributes := #[] }, { accessFlags := 25, nameIndex := 290, descriptorIndex := 25, attributes := #[] }, { accessFlags := 25, nameIndex := 292, descriptorIndex := 25, attributes := #[] }, { accessFlags := 26, nameIndex := 108, descriptorIndex := 109, attributes := #[] }, { accessFlags := 25, nameIndex := 294, descriptorIndex := 25, attributes := #[] }])
  fields := #[{ name := "U", type := (.object "jdk/internal/misc/Unsafe"), accessFlags := 24, slot := 0, constantValue := 0 }, { name := "BIG_ENDIAN", type := .boolean, accessFlags := 26, slot := 1, constantValue := 0 }, { name := "LOG2_ARRAY_BOOLEAN_INDEX_SCALE", type := .int, accessFlags := 25, slot := 2, constantValue := 0 }, { name := "LOG2_ARRAY_BYTE_INDEX_SCALE", type := .int, accessFlags := 25, slot := 3, constantValue := 0 }, { name := "LOG2_ARRAY_CHAR_INDEX_SCALE", type := .int, accessFlags := 25, slot := 4, constantValue := 0 }, { name := "LOG2_ARRAY_SHORT_INDEX_SCALE", type := .int, accessFlags := 25, slot := 5, constantValue := 0 }, { name := "LOG2_ARRAY_INT_INDEX_SCALE", type := .int, accessFlags := 25, slot := 6, constantValue := 0 }, { name := "LOG2_ARRAY_LONG_INDEX_SCALE", type := .int, accessFlags := 25, slot := 7, constantValue := 0 }, { name := "LOG2_ARRAY_FLOAT_INDEX_SCALE", type := .int, accessFlags := 25, slot := 8, constantValue := 0 }, { name := "LOG2_ARRAY_DOUBLE_INDEX_SCALE", type := .int, accessFlags := 25, slot := 9, constantValue := 0 }, { name := "LOG2_BYTE_BIT_SIZE", type := .int, accessFlags := 26, slot := 10, constantValue := 0 }, { name := "T_BOOLEAN", type := .int, accessFlags := 25, slot := 11, constantValue := 0 }, { name := "T_CHAR", type := .int, accessFlags := 25, slot := 12, constantValue := 0 }, { name := "T_FLOAT", type := .int, accessFlags := 25, slot := 13, constantValue := 0 }, { name := "T_DOUBLE", type := .int, accessFlags := 25, slot := 14, constantValue := 0 }, { name := "T_BYTE", type := .int, accessFlags := 25, slot := 15, constantValue := 0 }, { name := "T_SHORT", type := .int, accessFlags := 25, slot := 16, constantValue := 0 }, { name := "T_INT", type := .int, accessFlags := 25, slot := 17, constantValue := 0 }, { name := "T_LONG", type := .int, accessFlags := 25, slot := 18, constantValue := 0 }, { name := "JLA", type := (.object "jdk/internal/access/JavaLangAccess"), accessFlags := 26, slot := 19, constantValue := 0 }, { name := "SOFT_MAX_ARRAY_LENGTH", type := .int, accessFlags := 25, slot := 20, constantValue := 0 }]
  methods := #[k27m0, k27m1]
  instanceTypes := #[]
  staticTypes := #[(.object "jdk/internal/misc/Unsafe"), .boolean, .int, .int, .int, .int, .int, .int, .int, .int, .int, .int, .int, .int, .int, .int, .int, .int, .int, (.object "jdk/internal/access/JavaLangAccess"), .int]
  resolved := Array.replicate 378 none
  statics := none }

def pool28 : Array CpInfo := pool [(1, .class_ 2), (0, u "java/lang/Integer"), (16, u "digits"), (0, u "[C"), (39, u "(II)I"), (24, u "DigitOnes"), (0, u "[B"), (2, u "DigitTens"), (99, .class_ 190), (0, u "java/lang/Integer$IntegerCache"), (3, u "I"), (8, .class_ 204), (0, u "java/lang/Number"), (2, u "value"), (53, u "compare"), (40, u "TYPE"), (0, u "Ljava/lang/Class;"), (0, .class_ 305), (0, u "java/lang/Comparable"), (0, .class_ 307), (0, u "java/lang/constant/Constable"), (0, .class_ 309), (0, u "java/lang/constant/ConstantDesc"), (0, u "MIN_VALUE"), (1, u "MAX_VALUE"), (3, u "SIZE"), (1, u "BYTES"), (1, u "serialVersionUID"), (0, u "J")] 131

def k28c0 : Code := { maxStack := 2, maxLocals := 2, code := jdk_33_method_40_code, exceptionTable := #[], attributes := #[] }
def k28m0 : Method := { name := "compare", desc := "(II)I", sig := { parameters := [.int, .int], returnType := some .int }, accessFlags := 9, code := some k28c0 }
/-- java/lang/Integer -/
def k28 : Class := { plain "java/lang/Integer" (some 25) with
  accessFlags := 49
  interfaces := #[2, 6, 7]
  cf := some (fileOf pool28 1 #[.nestMembers #[189]] #[{ accessFlags := 9, nameIndex := 261, descriptorIndex := 60, attributes := #[] }] 49 203 #[304, 306, 308] #[{ accessFlags := 25, nameIndex := 310, descriptorIndex := 194, attributes := #[] }, { accessFlags := 25, nameIndex := 312, descriptorIndex := 194, attributes := #[] }, { accessFlags := 25, nameIndex := 302, descriptorIndex := 303, attributes := #[] }, { accessFlags := 24, nameIndex := 19, descriptorIndex := 20, attributes := #[] }, { accessFlags := 24, nameIndex := 89, descriptorIndex := 86, attributes := #[] }, { accessFlags := 24, nameIndex := 85, descriptorIndex := 86, attributes := #[] }, { accessFlags := 18, nameIndex := 207, descriptorIndex := 194, attributes := #[] }, { accessFlags := 25, nameIndex := 316, descriptorIndex := 194, attributes := #[] }, { accessFlags := 25, nameIndex := 318, descriptorIndex := 194, attributes := #[] }, { accessFlags := 26, nameIndex := 320, descriptorIndex := 321, attributes := #[] }])
  fields := #[{ name := "MIN_VALUE", type := .int, accessFlags := 25, slot := 0, constantValue := 0 }, { name := "MAX_VALUE", type := .int, accessFlags := 25, slot := 1, constantValue := 0 }, { name := "TYPE", type := (.object "java/lang/Class"), accessFlags := 25, slot := 2, constantValue := 0 }, { name := "digits", type := (.array .char), accessFlags := 24, slot := 3, constantValue := 0 }, { name := "DigitTens", type := (.array .byte), accessFlags := 24, slot := 4, constantValue := 0 }, { name := "DigitOnes", type := (.array .byte), accessFlags := 24, slot := 5, constantValue := 0 }, { name := "value", type := .int, accessFlags := 18, slot := 0, constantValue := 0 }, { name := "SIZE", type := .int, accessFlags := 25, slot := 6, constantValue := 0 }, { name := "BYTES", type := .int, accessFlags := 25, slot := 7, constantValue := 0 }, { name := "serialVersionUID", type := .long, accessFlags := 26, slot := 8, constantValue := 0 }]
  methods := #[k28m0]
  instanceTypes := #[.int]
  staticTypes := #[.int, .int, (.object "java/lang/Class"), (.array .char), (.array .byte), (.array .byte), .int, .int, .long]
  resolved := Array.replicate 453 none
  statics := none }

/-- the primitive byte -/
def k29 : Class := { plain "byte" none with kind := .primitive 'B', accessFlags := 0x411 }
/-- [B -/
def k30 : Class := { plain "[B" (some 0) with kind := .array 29 .byte, interfaces := #[20, 4], accessFlags := 1041 }

/-- the primitive int -/
def k31 : Class := { plain "int" none with kind := .primitive 'I', accessFlags := 0x411 }
/-- [I -/
def k32 : Class := { plain "[I" (some 0) with kind := .array 31 .int, interfaces := #[20, 4], accessFlags := 1041 }

def heap : Heap := #[{ cls := 8, slots := #[.long 0, .int 1, .null, .int 0, .null, .int 0, .int 0], vm := .statics 8 },
  { cls := 12, slots := #[.null, .null, .null], vm := .statics 12 }]
def classes : Array Class := #[k0, k1, k2, k3, k4, k5, k6, k7, k8, k9, k10, k11, k12, k13, k14, k15, k16, k17, k18, k19, k20, k21, k22, k23, k24, k25, k26, k27, k28, k29, k30, k31, k32]
def interned : List (Array UInt16 × Addr) := []
def slotsUsed : Nat := 10
def theMethod : MethodId := ⟨1, 1⟩
def args0 : Array Value := #[.int 5, .long 7, .long 9, .int 5, .int 6, .int 8]
def aboutOver (below : List Frame) : State where
  vm := { classes := classes, interned := interned.toArray }
  heap := heap
  slotsUsed := slotsUsed
  threads := #[{ frames := .invoking theMethod args0 :: below }]
def below0 : List Frame := [.native { method := ⟨0, 0⟩, args := #[] }]
def about1 : State := aboutOver below0
def p0 : Program := .bare "" "" ""
def e0 : Env := launch0.env 0 0 0
theorem w_frames : about1.frames = Frame.invoking theMethod args0 :: below0 := rfl
set_option maxRecDepth 65536 in
theorem w_args : argsFit about1.vm theMethod args0 = true := by decide +kernel
set_option maxRecDepth 65536 in
theorem w_heap : heapFits about1 = true := by decide +kernel
set_option maxRecDepth 65536 in
theorem w_runnable : about1.curStatus? = some .runnable := by decide +kernel
set_option maxRecDepth 65536 in
theorem w_alone : about1.alone = true := by decide +kernel
set_option maxRecDepth 65536 in
theorem w_named : about1.methodNamed? x = some theMethod := by decide +kernel
set_option maxRecDepth 65536 in
theorem w_hears : about1.hears theMethod below0 = true := by decide +kernel
set_option maxRecDepth 65536 in
theorem w_ripe : about1.ripe theMethod args0 below0 = true := by decide +kernel
theorem w_running : about1.status = .running := rfl
set_option maxRecDepth 65536 in
theorem w_room : about1.hasRoom e0.platform room_1 = true :=
  launch0.hasRoom_least _ room_1 (by decide +kernel) (by decide +kernel) (by decide +kernel) (by decide +kernel) (by decide +kernel) (by decide +kernel)
theorem allAtoms_all (ts : List Jvm.Cond) (a : Array Jvm.Value) (st : Jvm.State) : (allAtoms ts).before a st = ts.all (fun c => c.before a st) := by
  induction ts with
  | nil => rfl
  | cons c t ih =>
    show (Jvm.Cond.and c (allAtoms t)).before a st = _
    rw [Jvm.Cond.before_and, ih, List.all_cons]
def words1 : List Jvm.Cond := Jvm.Cond.code x code maxLocals ret :: tables_1
/-- a 'code' word, met by the world's own term for the bytes: nothing is compared byte by byte -/
theorem code_word {y : MethodName} {bytes : ByteArray} {mx : Nat} {rt : Option FieldType} {a : Array Value} {s : State} {m : MethodId} {meth : Method} {c : Code} (h1 : s.methodNamed? y = some m) (h2 : s.vm.method? m = some meth) (h3 : meth.code = some c) (h4 : c.code = bytes)
    (h5 : (c.maxLocals == mx && c.exceptionTable.isEmpty && decide (c.maxStack ≤ mostOperands) && decide (meth.sig.returnType = rt) && !meth.locks && decide (parseMethodDescriptor y.desc = some meth.sig)) = true) : (Jvm.Cond.code y bytes mx rt).before a s = true := by
  simp only [Bool.and_eq_true, beq_iff_eq, Bool.not_eq_true', decide_eq_true_eq] at h5
  obtain ⟨⟨⟨⟨⟨g1, g2⟩, g3⟩, g4⟩, g5⟩, g6⟩ := h5
  simp [Cond.before, Cond.holds, Cond.value, h1, h2, h3, h4, g1, g2, g3, g4, g5, g6]
def isCode : Jvm.Cond → Bool
  | .code _ _ _ _ => true
  | _ => false
theorem all_split {L : List Jvm.Cond} {P : Jvm.Cond → Bool} (h1 : L.all (fun c => isCode c || P c) = true) (h2 : ∀ c ∈ L.filter isCode, P c = true) : L.all P = true := by
  refine List.all_eq_true.mpr fun c hc => ?_
  have h := List.all_eq_true.mp h1 c hc
  rcases Bool.eq_false_or_eq_true (isCode c) with hi | hi
  · exact h2 c (List.mem_filter.mpr ⟨hc, hi⟩)
  · simpa [hi] using h
set_option maxRecDepth 65536 in
theorem w_c0 : (Jvm.Cond.code x code maxLocals ret).before args0 about1 = true := code_word (m := ⟨1, 1⟩) (meth := k1m1) (c := k1c1) (by decide +kernel) rfl rfl rfl (by decide +kernel)
set_option maxRecDepth 65536 in
theorem w_c1 : (Jvm.Cond.code ({ cls := "com/example/assemble_quorum/assemblequorum/model/MemberAddress", name := "<init>", desc := "(Ljava/lang/String;I)V" } : Jvm.MethodName) prog_30_method_1_code (3 : Nat) (Option.none : Option Jvm.ClassFile.FieldType)).before args0 about1 = true := code_word (m := ⟨3, 0⟩) (meth := k3m0) (c := k3c0) (by decide +kernel) rfl rfl rfl (by decide +kernel)
set_option maxRecDepth 65536 in
theorem w_c2 : (Jvm.Cond.code ({ cls := "java/lang/Object", name := "<init>", desc := "()V" } : Jvm.MethodName) object_method_1_code (1 : Nat) (Option.none : Option Jvm.ClassFile.FieldType)).before args0 about1 = true := code_word (m := ⟨0, 0⟩) (meth := k0m0) (c := k0c0) (by decide +kernel) rfl rfl rfl (by decide +kernel)
set_option maxRecDepth 65536 in
theorem w_c3 : (Jvm.Cond.code ({ cls := "java/util/Objects", name := "requireNonNull", desc := "(Ljava/lang/Object;Ljava/lang/String;)Ljava/lang/Object;" } : Jvm.MethodName) jdk_31_method_11_code (2 : Nat) (Option.some (Jvm.ClassFile.FieldType.object "java/lang/Object"))).before args0 about1 = true := code_word (m := ⟨9, 1⟩) (meth := k9m1) (c := k9c1) (by decide +kernel) rfl rfl rfl (by decide +kernel)
set_option maxRecDepth 65536 in
theorem w_c4 : (Jvm.Cond.code ({ cls := "com/example/assemble_quorum/assemblequorum/model/MemberAddress", name := "checkHost", desc := "(Ljava/lang/String;)V" } : Jvm.MethodName) prog_30_method_9_code (5 : Nat) (Option.none : Option Jvm.ClassFile.FieldType)).before args0 about1 = true := code_word (m := ⟨3, 2⟩) (meth := k3m2) (c := k3c2) (by decide +kernel) rfl rfl rfl (by decide +kernel)
set_option maxRecDepth 65536 in
theorem w_c5 : (Jvm.Cond.code ({ cls := "java/lang/String", name := "isEmpty", desc := "()Z" } : Jvm.MethodName) jdk_42_method_55_code (1 : Nat) (Option.some Jvm.ClassFile.FieldType.boolean)).before args0 about1 = true := code_word (m := ⟨8, 2⟩) (meth := k8m2) (c := k8c2) (by decide +kernel) rfl rfl rfl (by decide +kernel)
set_option maxRecDepth 65536 in
theorem w_c6 : (Jvm.Cond.code ({ cls := "java/lang/String", name := "length", desc := "()I" } : Jvm.MethodName) jdk_42_method_54_code (1 : Nat) (Option.some Jvm.ClassFile.FieldType.int)).before args0 about1 = true := code_word (m := ⟨8, 1⟩) (meth := k8m1) (c := k8c1) (by decide +kernel) rfl rfl rfl (by decide +kernel)
set_option maxRecDepth 65536 in
theorem w_c7 : (Jvm.Cond.code ({ cls := "java/lang/String", name := "coder", desc := "()B" } : Jvm.MethodName) jdk_42_method_152_code (1 : Nat) (Option.some Jvm.ClassFile.FieldType.byte)).before args0 about1 = true := code_word (m := ⟨8, 7⟩) (meth := k8m7) (c := k8c7) (by decide +kernel) rfl rfl rfl (by decide +kernel)
set_option maxRecDepth 65536 in
theorem w_c8 : (Jvm.Cond.code ({ cls := "java/lang/String", name := "indexOf", desc := "(I)I" } : Jvm.MethodName) jdk_42_method_79_code (2 : Nat) (Option.some Jvm.ClassFile.FieldType.int)).before args0 about1 = true := code_word (m := ⟨8, 5⟩) (meth := k8m5) (c := k8c5) (by decide +kernel) rfl rfl rfl (by decide +kernel)
set_option maxRecDepth 65536 in
theorem w_c9 : (Jvm.Cond.code ({ cls := "java/lang/String", name := "indexOf", desc := "(II)I" } : Jvm.MethodName) jdk_42_method_80_code (3 : Nat) (Option.some Jvm.ClassFile.FieldType.int)).before args0 about1 = true := code_word (m := ⟨8, 6⟩) (meth := k8m6) (c := k8c6) (by decide +kernel) rfl rfl rfl (by decide +kernel)
set_option maxRecDepth 65536 in
theorem w_c10 : (Jvm.Cond.code ({ cls := "java/lang/String", name := "isLatin1", desc := "()Z" } : Jvm.MethodName) jdk_42_method_154_code (1 : Nat) (Option.some Jvm.ClassFile.FieldType.boolean)).before args0 about1 = true := code_word (m := ⟨8, 8⟩) (meth := k8m8) (c := k8c8) (by decide +kernel) rfl rfl rfl (by decide +kernel)
set_option maxRecDepth 65536 in
theorem w_c11 : (Jvm.Cond.code ({ cls := "java/lang/StringLatin1", name := "indexOf", desc := "([BIII)I" } : Jvm.MethodName) jdk_43_method_22_code (4 : Nat) (Option.some Jvm.ClassFile.FieldType.int)).before args0 about1 = true := code_word (m := ⟨10, 5⟩) (meth := k10m5) (c := k10c5) (by decide +kernel) rfl rfl rfl (by decide +kernel)
set_option maxRecDepth 65536 in
theorem w_c12 : (Jvm.Cond.code ({ cls := "java/lang/StringLatin1", name := "canEncode", desc := "(I)Z" } : Jvm.MethodName) jdk_43_method_4_code (1 : Nat) (Option.some Jvm.ClassFile.FieldType.boolean)).before args0 about1 = true := code_word (m := ⟨10, 2⟩) (meth := k10m2) (c := k10c2) (by decide +kernel) rfl rfl rfl (by decide +kernel)
set_option maxRecDepth 65536 in
theorem w_c13 : (Jvm.Cond.code ({ cls := "java/lang/Math", name := "max", desc := "(II)I" } : Jvm.MethodName) jdk_29_method_65_code (2 : Nat) (Option.some Jvm.ClassFile.FieldType.int)).before args0 about1 = true := code_word (m := ⟨11, 1⟩) (meth := k11m1) (c := k11c1) (by decide +kernel) rfl rfl rfl (by decide +kernel)
set_option maxRecDepth 65536 in
theorem w_c14 : (Jvm.Cond.code ({ cls := "java/lang/Math", name := "min", desc := "(II)I" } : Jvm.MethodName) jdk_29_method_69_code (2 : Nat) (Option.some Jvm.ClassFile.FieldType.int)).before args0 about1 = true := code_word (m := ⟨11, 2⟩) (meth := k11m2) (c := k11c2) (by decide +kernel) rfl rfl rfl (by decide +kernel)
set_option maxRecDepth 65536 in
theorem w_c15 : (Jvm.Cond.code ({ cls := "java/lang/StringLatin1", name := "indexOfChar", desc := "([BIII)I" } : Jvm.MethodName) jdk_43_method_23_code (6 : Nat) (Option.some Jvm.ClassFile.FieldType.int)).before args0 about1 = true := code_word (m := ⟨10, 6⟩) (meth := k10m6) (c := k10c6) (by decide +kernel) rfl rfl rfl (by decide +kernel)
set_option maxRecDepth 65536 in
theorem w_c16 : (Jvm.Cond.code ({ cls := "java/lang/String", name := "charAt", desc := "(I)C" } : Jvm.MethodName) jdk_42_method_56_code (2 : Nat) (Option.some Jvm.ClassFile.FieldType.char)).before args0 about1 = true := code_word (m := ⟨8, 3⟩) (meth := k8m3) (c := k8c3) (by decide +kernel) rfl rfl rfl (by decide +kernel)
set_option maxRecDepth 65536 in
theorem w_c17 : (Jvm.Cond.code ({ cls := "java/lang/StringLatin1", name := "charAt", desc := "([BI)C" } : Jvm.MethodName) jdk_43_method_2_code (2 : Nat) (Option.some Jvm.ClassFile.FieldType.char)).before args0 about1 = true := code_word (m := ⟨10, 1⟩) (meth := k10m1) (c := k10c1) (by decide +kernel) rfl rfl rfl (by decide +kernel)
set_option maxRecDepth 65536 in
theorem w_c18 : (Jvm.Cond.code ({ cls := "java/lang/String", name := "checkIndex", desc := "(II)V" } : Jvm.MethodName) jdk_42_method_155_code (2 : Nat) (Option.none : Option Jvm.ClassFile.FieldType)).before args0 about1 = true := code_word (m := ⟨8, 9⟩) (meth := k8m9) (c := k8c9) (by decide +kernel) rfl rfl rfl (by decide +kernel)
set_option maxRecDepth 65536 in
theorem w_c19 : (Jvm.Cond.code ({ cls := "jdk/internal/util/Preconditions", name := "checkIndex", desc := "(IILjava/util/function/BiFunction;)I" } : Jvm.MethodName) jdk_41_method_11_code (3 : Nat) (Option.some Jvm.ClassFile.FieldType.int)).before args0 about1 = true := code_word (m := ⟨12, 1⟩) (meth := k12m1) (c := k12c1) (by decide +kernel) rfl rfl rfl (by decide +kernel)
set_option maxRecDepth 65536 in
theorem w_c20 : (Jvm.Cond.code ({ cls := "com/example/assemble_quorum/assemblequorum/model/MemberAddress", name := "isNameCharacter", desc := "(C)Z" } : Jvm.MethodName) prog_30_method_12_code (1 : Nat) (Option.some Jvm.ClassFile.FieldType.boolean)).before args0 about1 = true := code_word (m := ⟨3, 3⟩) (meth := k3m3) (c := k3c3) (by decide +kernel) rfl rfl rfl (by decide +kernel)
set_option maxRecDepth 65536 in
theorem w_c21 : (Jvm.Cond.code ({ cls := "com/example/assemble_quorum/assemblequorum/model/ProposalNumber", name := "<init>", desc := "(JLcom/example/assemble_quorum/assemblequorum/model/MemberAddress;)V" } : Jvm.MethodName) prog_33_method_1_code (4 : Nat) (Option.none : Option Jvm.ClassFile.FieldType)).before args0 about1 = true := code_word (m := ⟨13, 0⟩) (meth := k13m0) (c := k13c0) (by decide +kernel) rfl rfl rfl (by decide +kernel)
set_option maxRecDepth 65536 in
theorem w_c22 : (Jvm.Cond.code ({ cls := "com/example/assemble_quorum/assemblequorum/service/Round", name := "<init>", desc := "()V" } : Jvm.MethodName) prog_46_method_1_code (1 : Nat) (Option.none : Option Jvm.ClassFile.FieldType)).before args0 about1 = true := code_word (m := ⟨14, 0⟩) (meth := k14m0) (c := k14c0) (by decide +kernel) rfl rfl rfl (by decide +kernel)
set_option maxRecDepth 65536 in
theorem w_c23 : (Jvm.Cond.code ({ cls := "java/util/HashSet", name := "<init>", desc := "()V" } : Jvm.MethodName) jdk_93_method_1_code (1 : Nat) (Option.none : Option Jvm.ClassFile.FieldType)).before args0 about1 = true := code_word (m := ⟨21, 0⟩) (meth := k21m0) (c := k21c0) (by decide +kernel) rfl rfl rfl (by decide +kernel)
set_option maxRecDepth 65536 in
theorem w_c24 : (Jvm.Cond.code ({ cls := "java/util/AbstractSet", name := "<init>", desc := "()V" } : Jvm.MethodName) jdk_91_method_1_code (1 : Nat) (Option.none : Option Jvm.ClassFile.FieldType)).before args0 about1 = true := code_word (m := ⟨19, 0⟩) (meth := k19m0) (c := k19c0) (by decide +kernel) rfl rfl rfl (by decide +kernel)
set_option maxRecDepth 65536 in
theorem w_c25 : (Jvm.Cond.code ({ cls := "java/util/AbstractCollection", name := "<init>", desc := "()V" } : Jvm.MethodName) jdk_22_method_1_code (1 : Nat) (Option.none : Option Jvm.ClassFile.FieldType)).before args0 about1 = true := code_word (m := ⟨17, 0⟩) (meth := k17m0) (c := k17c0) (by decide +kernel) rfl rfl rfl (by decide +kernel)
set_option maxRecDepth 65536 in
theorem w_c26 : (Jvm.Cond.code ({ cls := "java/util/HashMap", name := "<init>", desc := "()V" } : Jvm.MethodName) jdk_69_method_7_code (1 : Nat) (Option.none : Option Jvm.ClassFile.FieldType)).before args0 about1 = true := code_word (m := ⟨24, 0⟩) (meth := k24m0) (c := k24c0) (by decide +kernel) rfl rfl rfl (by decide +kernel)
set_option maxRecDepth 65536 in
theorem w_c27 : (Jvm.Cond.code ({ cls := "java/util/AbstractMap", name := "<init>", desc := "()V" } : Jvm.MethodName) jdk_71_method_1_code (1 : Nat) (Option.none : Option Jvm.ClassFile.FieldType)).before args0 about1 = true := code_word (m := ⟨23, 0⟩) (meth := k23m0) (c := k23c0) (by decide +kernel) rfl rfl rfl (by decide +kernel)
set_option maxRecDepth 65536 in
theorem w_c28 : (Jvm.Cond.code ({ cls := "com/example/assemble_quorum/assemblequorum/service/Round", name := "notePrior", desc := "(Lcom/example/assemble_quorum/assemblequorum/model/ProposalNumber;Lcom/example/assemble_quorum/assemblequorum/model/MemberAddress;)V" } : Jvm.MethodName) prog_46_method_19_code (3 : Nat) (Option.none : Option Jvm.ClassFile.FieldType)).before args0 about1 = true := code_word (m := ⟨14, 1⟩) (meth := k14m1) (c := k14c1) (by decide +kernel) rfl rfl rfl (by decide +kernel)
set_option maxRecDepth 65536 in
theorem w_c29 : (Jvm.Cond.code ({ cls := "com/example/assemble_quorum/assemblequorum/service/Round", name := "finalCandidate", desc := "(Lcom/example/assemble_quorum/assemblequorum/model/MemberAddress;)Lcom/example/assemble_quorum/assemblequorum/model/MemberAddress;" } : Jvm.MethodName) prog_46_method_20_code (2 : Nat) (Option.some (Jvm.ClassFile.FieldType.object "com/example/assemble_quorum/assemblequorum/model/MemberAddress"))).before args0 about1 = true := code_word (m := ⟨14, 2⟩) (meth := k14m2) (c := k14c2) (by decide +kernel) rfl rfl rfl (by decide +kernel)
set_option maxRecDepth 65536 in
theorem w_c30 : (Jvm.Cond.code ({ cls := "com/example/assemble_quorum/assemblequorum/model/ProposalNumber", name := "compareTo", desc := "(Lcom/example/assemble_quorum/assemblequorum/model/ProposalNumber;)I" } : Jvm.MethodName) prog_33_method_4_code (3 : Nat) (Option.some Jvm.ClassFile.FieldType.int)).before args0 about1 = true := code_word (m := ⟨13, 1⟩) (meth := k13m1) (c := k13c1) (by decide +kernel) rfl rfl rfl (by decide +kernel)
set_option maxRecDepth 65536 in
theorem w_c31 : (Jvm.Cond.code ({ cls := "java/lang/Long", name := "compare", desc := "(JJ)I" } : Jvm.MethodName) jdk_35_method_42_code (4 : Nat) (Option.some Jvm.ClassFile.FieldType.int)).before args0 about1 = true := code_word (m := ⟨26, 0⟩) (meth := k26m0) (c := k26c0) (by decide +kernel) rfl rfl rfl (by decide +kernel)
set_option maxRecDepth 65536 in
theorem w_c32 : (Jvm.Cond.code ({ cls := "com/example/assemble_quorum/assemblequorum/model/MemberAddress", name := "compareTo", desc := "(Lcom/example/assemble_quorum/assemblequorum/model/MemberAddress;)I" } : Jvm.MethodName) prog_30_method_5_code (3 : Nat) (Option.some Jvm.ClassFile.FieldType.int)).before args0 about1 = true := code_word (m := ⟨3, 1⟩) (meth := k3m1) (c := k3c1) (by decide +kernel) rfl rfl rfl (by decide +kernel)
set_option maxRecDepth 65536 in
theorem w_c33 : (Jvm.Cond.code ({ cls := "java/lang/String", name := "compareTo", desc := "(Ljava/lang/String;)I" } : Jvm.MethodName) jdk_42_method_71_code (5 : Nat) (Option.some Jvm.ClassFile.FieldType.int)).before args0 about1 = true := code_word (m := ⟨8, 4⟩) (meth := k8m4) (c := k8c4) (by decide +kernel) rfl rfl rfl (by decide +kernel)
set_option maxRecDepth 65536 in
theorem w_c34 : (Jvm.Cond.code ({ cls := "java/lang/StringLatin1", name := "compareTo", desc := "([B[B)I" } : Jvm.MethodName) jdk_43_method_14_code (4 : Nat) (Option.some Jvm.ClassFile.FieldType.int)).before args0 about1 = true := code_word (m := ⟨10, 3⟩) (meth := k10m3) (c := k10c3) (by decide +kernel) rfl rfl rfl (by decide +kernel)
set_option maxRecDepth 65536 in
theorem w_c35 : (Jvm.Cond.code ({ cls := "java/lang/StringLatin1", name := "compareTo", desc := "([B[BII)I" } : Jvm.MethodName) jdk_43_method_15_code (6 : Nat) (Option.some Jvm.ClassFile.FieldType.int)).before args0 about1 = true := code_word (m := ⟨10, 4⟩) (meth := k10m4) (c := k10c4) (by decide +kernel) rfl rfl rfl (by decide +kernel)
set_option maxRecDepth 65536 in
theorem w_c36 : (Jvm.Cond.code ({ cls := "jdk/internal/util/ArraysSupport", name := "mismatch", desc := "([B[BI)I" } : Jvm.MethodName) jdk_48_method_13_code (4 : Nat) (Option.some Jvm.ClassFile.FieldType.int)).before args0 about1 = true := code_word (m := ⟨27, 1⟩) (meth := k27m1) (c := k27c1) (by decide +kernel) rfl rfl rfl (by decide +kernel)
set_option maxRecDepth 65536 in
theorem w_c37 : (Jvm.Cond.code ({ cls := "java/lang/Integer", name := "compare", desc := "(II)I" } : Jvm.MethodName) jdk_33_method_40_code (2 : Nat) (Option.some Jvm.ClassFile.FieldType.int)).before args0 about1 = true := code_word (m := ⟨28, 0⟩) (meth := k28m0) (c := k28c0) (by decide +kernel) rfl rfl rfl (by decide +kernel)
def codes1 : List Jvm.Cond := [Jvm.Cond.code x code maxLocals ret, Jvm.Cond.code ({ cls := "com/example/assemble_quorum/assemblequorum/model/MemberAddress", name := "<init>", desc := "(Ljava/lang/String;I)V" } : Jvm.MethodName) prog_30_method_1_code (3 : Nat) (Option.none : Option Jvm.ClassFile.FieldType), Jvm.Cond.code ({ cls := "java/lang/Object", name := "<init>", desc := "()V" } : Jvm.MethodName) object_method_1_code (1 : Nat) (Option.none : Option Jvm.ClassFile.FieldType), Jvm.Cond.code ({ cls := "java/util/Objects", name := "requireNonNull", desc := "(Ljava/lang/Object;Ljava/lang/String;)Ljava/lang/Object;" } : Jvm.MethodName) jdk_31_method_11_code (2 : Nat) (Option.some (Jvm.ClassFile.FieldType.object "java/lang/Object")), Jvm.Cond.code ({ cls := "com/example/assemble_quorum/assemblequorum/model/MemberAddress", name := "checkHost", desc := "(Ljava/lang/String;)V" } : Jvm.MethodName) prog_30_method_9_code (5 : Nat) (Option.none : Option Jvm.ClassFile.FieldType), Jvm.Cond.code ({ cls := "java/lang/String", name := "isEmpty", desc := "()Z" } : Jvm.MethodName) jdk_42_method_55_code (1 : Nat) (Option.some Jvm.ClassFile.FieldType.boolean), Jvm.Cond.code ({ cls := "java/lang/String", name := "length", desc := "()I" } : Jvm.MethodName) jdk_42_method_54_code (1 : Nat) (Option.some Jvm.ClassFile.FieldType.int), Jvm.Cond.code ({ cls := "java/lang/String", name := "coder", desc := "()B" } : Jvm.MethodName) jdk_42_method_152_code (1 : Nat) (Option.some Jvm.ClassFile.FieldType.byte), Jvm.Cond.code ({ cls := "java/lang/String", name := "indexOf", desc := "(I)I" } : Jvm.MethodName) jdk_42_method_79_code (2 : Nat) (Option.some Jvm.ClassFile.FieldType.int), Jvm.Cond.code ({ cls := "java/lang/String", name := "indexOf", desc := "(II)I" } : Jvm.MethodName) jdk_42_method_80_code (3 : Nat) (Option.some Jvm.ClassFile.FieldType.int), Jvm.Cond.code ({ cls := "java/lang/String", name := "isLatin1", desc := "()Z" } : Jvm.MethodName) jdk_42_method_154_code (1 : Nat) (Option.some Jvm.ClassFile.FieldType.boolean), Jvm.Cond.code ({ cls := "java/lang/StringLatin1", name := "indexOf", desc := "([BIII)I" } : Jvm.MethodName) jdk_43_method_22_code (4 : Nat) (Option.some Jvm.ClassFile.FieldType.int), Jvm.Cond.code ({ cls := "java/lang/StringLatin1", name := "canEncode", desc := "(I)Z" } : Jvm.MethodName) jdk_43_method_4_code (1 : Nat) (Option.some Jvm.ClassFile.FieldType.boolean), Jvm.Cond.code ({ cls := "java/lang/Math", name := "max", desc := "(II)I" } : Jvm.MethodName) jdk_29_method_65_code (2 : Nat) (Option.some Jvm.ClassFile.FieldType.int), Jvm.Cond.code ({ cls := "java/lang/Math", name := "min", desc := "(II)I" } : Jvm.MethodName) jdk_29_method_69_code (2 : Nat) (Option.some Jvm.ClassFile.FieldType.int), Jvm.Cond.code ({ cls := "java/lang/StringLatin1", name := "indexOfChar", desc := "([BIII)I" } : Jvm.MethodName) jdk_43_method_23_code (6 : Nat) (Option.some Jvm.ClassFile.FieldType.int), Jvm.Cond.code ({ cls := "java/lang/String", name := "charAt", desc := "(I)C" } : Jvm.MethodName) jdk_42_method_56_code (2 : Nat) (Option.some Jvm.ClassFile.FieldType.char), Jvm.Cond.code ({ cls := "java/lang/StringLatin1", name := "charAt", desc := "([BI)C" } : Jvm.MethodName) jdk_43_method_2_code (2 : Nat) (Option.some Jvm.ClassFile.FieldType.char), Jvm.Cond.code ({ cls := "java/lang/String", name := "checkIndex", desc := "(II)V" } : Jvm.MethodName) jdk_42_method_155_code (2 : Nat) (Option.none : Option Jvm.ClassFile.FieldType), Jvm.Cond.code ({ cls := "jdk/internal/util/Preconditions", name := "checkIndex", desc := "(IILjava/util/function/BiFunction;)I" } : Jvm.MethodName) jdk_41_method_11_code (3 : Nat) (Option.some Jvm.ClassFile.FieldType.int), Jvm.Cond.code ({ cls := "com/example/assemble_quorum/assemblequorum/model/MemberAddress", name := "isNameCharacter", desc := "(C)Z" } : Jvm.MethodName) prog_30_method_12_code (1 : Nat) (Option.some Jvm.ClassFile.FieldType.boolean), Jvm.Cond.code ({ cls := "com/example/assemble_quorum/assemblequorum/model/ProposalNumber", name := "<init>", desc := "(JLcom/example/assemble_quorum/assemblequorum/model/MemberAddress;)V" } : Jvm.MethodName) prog_33_method_1_code (4 : Nat) (Option.none : Option Jvm.ClassFile.FieldType), Jvm.Cond.code ({ cls := "com/example/assemble_quorum/assemblequorum/service/Round", name := "<init>", desc := "()V" } : Jvm.MethodName) prog_46_method_1_code (1 : Nat) (Option.none : Option Jvm.ClassFile.FieldType), Jvm.Cond.code ({ cls := "java/util/HashSet", name := "<init>", desc := "()V" } : Jvm.MethodName) jdk_93_method_1_code (1 : Nat) (Option.none : Option Jvm.ClassFile.FieldType), Jvm.Cond.code ({ cls := "java/util/AbstractSet", name := "<init>", desc := "()V" } : Jvm.MethodName) jdk_91_method_1_code (1 : Nat) (Option.none : Option Jvm.ClassFile.FieldType), Jvm.Cond.code ({ cls := "java/util/AbstractCollection", name := "<init>", desc := "()V" } : Jvm.MethodName) jdk_22_method_1_code (1 : Nat) (Option.none : Option Jvm.ClassFile.FieldType), Jvm.Cond.code ({ cls := "java/util/HashMap", name := "<init>", desc := "()V" } : Jvm.MethodName) jdk_69_method_7_code (1 : Nat) (Option.none : Option Jvm.ClassFile.FieldType), Jvm.Cond.code ({ cls := "java/util/AbstractMap", name := "<init>", desc := "()V" } : Jvm.MethodName) jdk_71_method_1_code (1 : Nat) (Option.none : Option Jvm.ClassFile.FieldType), Jvm.Cond.code ({ cls := "com/example/assemble_quorum/assemblequorum/service/Round", name := "notePrior", desc := "(Lcom/example/assemble_quorum/assemblequorum/model/ProposalNumber;Lcom/example/assemble_quorum/assemblequorum/model/MemberAddress;)V" } : Jvm.MethodName) prog_46_method_19_code (3 : Nat) (Option.none : Option Jvm.ClassFile.FieldType), Jvm.Cond.code ({ cls := "com/example/assemble_quorum/assemblequorum/service/Round", name := "finalCandidate", desc := "(Lcom/example/assemble_quorum/assemblequorum/model/MemberAddress;)Lcom/example/assemble_quorum/assemblequorum/model/MemberAddress;" } : Jvm.MethodName) prog_46_method_20_code (2 : Nat) (Option.some (Jvm.ClassFile.FieldType.object "com/example/assemble_quorum/assemblequorum/model/MemberAddress")), Jvm.Cond.code ({ cls := "com/example/assemble_quorum/assemblequorum/model/ProposalNumber", name := "compareTo", desc := "(Lcom/example/assemble_quorum/assemblequorum/model/ProposalNumber;)I" } : Jvm.MethodName) prog_33_method_4_code (3 : Nat) (Option.some Jvm.ClassFile.FieldType.int), Jvm.Cond.code ({ cls := "java/lang/Long", name := "compare", desc := "(JJ)I" } : Jvm.MethodName) jdk_35_method_42_code (4 : Nat) (Option.some Jvm.ClassFile.FieldType.int), Jvm.Cond.code ({ cls := "com/example/assemble_quorum/assemblequorum/model/MemberAddress", name := "compareTo", desc := "(Lcom/example/assemble_quorum/assemblequorum/model/MemberAddress;)I" } : Jvm.MethodName) prog_30_method_5_code (3 : Nat) (Option.some Jvm.ClassFile.FieldType.int), Jvm.Cond.code ({ cls := "java/lang/String", name := "compareTo", desc := "(Ljava/lang/String;)I" } : Jvm.MethodName) jdk_42_method_71_code (5 : Nat) (Option.some Jvm.ClassFile.FieldType.int), Jvm.Cond.code ({ cls := "java/lang/StringLatin1", name := "compareTo", desc := "([B[B)I" } : Jvm.MethodName) jdk_43_method_14_code (4 : Nat) (Option.some Jvm.ClassFile.FieldType.int), Jvm.Cond.code ({ cls := "java/lang/StringLatin1", name := "compareTo", desc := "([B[BII)I" } : Jvm.MethodName) jdk_43_method_15_code (6 : Nat) (Option.some Jvm.ClassFile.FieldType.int), Jvm.Cond.code ({ cls := "jdk/internal/util/ArraysSupport", name := "mismatch", desc := "([B[BI)I" } : Jvm.MethodName) jdk_48_method_13_code (4 : Nat) (Option.some Jvm.ClassFile.FieldType.int), Jvm.Cond.code ({ cls := "java/lang/Integer", name := "compare", desc := "(II)I" } : Jvm.MethodName) jdk_33_method_40_code (2 : Nat) (Option.some Jvm.ClassFile.FieldType.int)]
set_option maxRecDepth 65536 in
theorem codes_eq : words1.filter isCode = codes1 := rfl
theorem w_codes : ∀ c ∈ words1.filter isCode, c.before args0 about1 = true := by
  rw [codes_eq]
  intro c hc
  simp only [codes1, List.mem_cons, List.not_mem_nil, or_false] at hc
  rcases hc with rfl | rfl | rfl | rfl | rfl | rfl | rfl | rfl | rfl | rfl | rfl | rfl | rfl | rfl | rfl | rfl | rfl | rfl | rfl | rfl | rfl | rfl | rfl | rfl | rfl | rfl | rfl | rfl | rfl | rfl | rfl | rfl | rfl | rfl | rfl | rfl | rfl | rfl
  · exact w_c0
  · exact w_c1
  · exact w_c2
  · exact w_c3
  · exact w_c4
  · exact w_c5
  · exact w_c6
  · exact w_c7
  · exact w_c8
  · exact w_c9
  · exact w_c10
  · exact w_c11
  · exact w_c12
  · exact w_c13
  · exact w_c14
  · exact w_c15
  · exact w_c16
  · exact w_c17
  · exact w_c18
  · exact w_c19
  · exact w_c20
  · exact w_c21
  · exact w_c22
  · exact w_c23
  · exact w_c24
  · exact w_c25
  · exact w_c26
  · exact w_c27
  · exact w_c28
  · exact w_c29
  · exact w_c30
  · exact w_c31
  · exact w_c32
  · exact w_c33
  · exact w_c34
  · exact w_c35
  · exact w_c36
  · exact w_c37
set_option maxRecDepth 65536 in
theorem w_t1 : (words1.take 24).all (fun c => isCode c || c.before args0 about1) = true := by decide +kernel
set_option maxRecDepth 65536 in
theorem w_t2 : ((words1.drop 24).take 24).all (fun c => isCode c || c.before args0 about1) = true := by decide +kernel
set_option maxRecDepth 65536 in
theorem w_t3 : (((words1.drop 24).drop 24).take 24).all (fun c => isCode c || c.before args0 about1) = true := by decide +kernel
set_option maxRecDepth 65536 in
theorem w_t4 : ((((words1.drop 24).drop 24).drop 24).take 24).all (fun c => isCode c || c.before args0 about1) = true := by decide +kernel
set_option maxRecDepth 65536 in
theorem w_t5 : (((((words1.drop 24).drop 24).drop 24).drop 24).take 24).all (fun c => isCode c || c.before args0 about1) = true := by decide +kernel
set_option maxRecDepth 65536 in
theorem w_t6 : ((((((words1.drop 24).drop 24).drop 24).drop 24).drop 24).take 24).all (fun c => isCode c || c.before args0 about1) = true := by decide +kernel
set_option maxRecDepth 65536 in
theorem w_t7 : (((((((words1.drop 24).drop 24).drop 24).drop 24).drop 24).drop 24).take 24).all (fun c => isCode c || c.before args0 about1) = true := by decide +kernel
set_option maxRecDepth 65536 in
theorem w_t8 : ((((((((words1.drop 24).drop 24).drop 24).drop 24).drop 24).drop 24).drop 24).take 24).all (fun c => isCode c || c.before args0 about1) = true := by decide +kernel
set_option maxRecDepth 65536 in
theorem w_t9 : ((((((((words1.drop 24).drop 24).drop 24).drop 24).drop 24).drop 24).drop 24).drop 24).all (fun c => isCode c || c.before args0 about1) = true := by decide +kernel
theorem w_tables : (allAtoms (Jvm.Cond.code x code maxLocals ret :: tables_1)).before args0 about1 = true := by
  rw [allAtoms_all]
  show words1.all (fun c => c.before args0 about1) = true
  refine all_split ?_ w_codes
  rw [← List.take_append_drop 24 words1, List.all_append, w_t1, ← List.take_append_drop 24 (words1.drop 24), List.all_append, w_t2, ← List.take_append_drop 24 ((words1.drop 24).drop 24), List.all_append, w_t3, ← List.take_append_drop 24 (((words1.drop 24).drop 24).drop 24), List.all_append, w_t4, ← List.take_append_drop 24 ((((words1.drop 24).drop 24).drop 24).drop 24), List.all_append, w_t5, ← List.take_append_drop 24 (((((words1.drop 24).drop 24).drop 24).drop 24).drop 24), List.all_append, w_t6, ← List.take_append_drop 24 ((((((words1.drop 24).drop 24).drop 24).drop 24).drop 24).drop 24), List.all_append, w_t7, ← List.take_append_drop 24 (((((((words1.drop 24).drop 24).drop 24).drop 24).drop 24).drop 24).drop 24), List.all_append, w_t8, w_t9]
  rfl
set_option maxRecDepth 65536 in
theorem w_rest : rest_1_c.before args0 about1 = true := by decide +kernel
set_option maxRecDepth 65536 in
theorem w_case : (Jvm.Cond.and given_1 narrow_1).before args0 about1 = true := by decide +kernel
set_option maxRecDepth 65536 in
theorem w_consts : constsHeld consts_1 about1 := Jvm.Lit.constsHeldB_iff.mp (by decide +kernel)
theorem w_applies : (headSpec (Jvm.Cond.code x code maxLocals ret :: tables_1) room_1).applies x e0.platform about1 = true :=
  (Spec.applies_iff w_frames).mpr ⟨w_running, w_runnable, w_alone, w_named, w_hears, w_ripe, w_room, w_tables⟩
theorem atStart : AtStart classFile x code maxLocals ret World_1 tables_1 room_1 Calls_1 rest_1 Pre_1 launch0 p0 e0 about1 theMethod args0 below0 :=
  ⟨lists_1, trivial, launch0.admits_env _ _ _, launch0.least_env, fairChoices_fair.cas, fairChoices_fair.clock, w_frames, w_args, w_heap, w_applies, ⟨w_consts, trivial⟩, w_rest, w_case⟩
end start1
theorem witness_1 : WitnessClaimed_1 := ⟨start1.p0, start1.e0, start1.about1, start1.theMethod, start1.args0, start1.below0, start1.atStart⟩
end Jvm.Pilot.@@N@@
