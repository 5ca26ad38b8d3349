import JvmDerived
import JvmDerived.Pilot.@@N@@Statement
import JvmDerived.Pilot.@@N@@Code
set_option linter.unusedVariables false
set_option linter.unusedSimpArgs false
namespace Jvm.RoadKit
open Sem ClassFile Op Lib Jvm.Stand Jvm.Free Jvm.LawKit
section New
variable {p : Program} {l : Launch} {e : Env} {R : Room} {s : State} {m : MethodId} {args : Array Value} {below : List Frame} {meth : Method} {c : Code} {T : State} {locs : List Loc} {cells slots : Nat}
theorem retI (X : Stand p l e R s m args below meth c T locs cells slots) (hx : p.tables.exec = Jvm.exec) {pc : Nat} {Ls : Array Slot} {z : Int32} {rest : List Value} (hret : meth.sig.returnType = some .int) (hd : decode c.code pc = .ok (.ireturn, 1)) {fs : List Frame}
    (hl : ∀ (f : JFrame) (acts : List Action), f.method = m → f.locked = none → f.entered = [] → (doReturn e (T.setTop f) acts (some (.int z))).1 = T.setFrames fs) : Steps p.tables e below (T.setTop (mkF m pc Ls (.int z :: rest))) (T.setFrames fs) := by
  have hm' : T.vm.method? m = some meth := X.method'
  have hn : narrow .int (.int z) = .int z := rfl
  show Steps p.tables e below (T.setTop { method := m, pc := pc, locals := Ls, stack := _ :: rest, locked := none }) _
  jvm_step X.here [X.here.top, hx, hd, hm', hret, hn]
  first | (intro acts; rw [hl _ acts rfl rfl rfl]) | rw [hl _ _ rfl rfl rfl]
  exact Steps.refl _
end New
end Jvm.RoadKit
namespace Jvm.Pilot.@@N@@
open Jvm Jvm.ClassFile Sem Op Lib Jvm.Free Jvm.Stand Jvm.LawKit Jvm.RoadKit Bundle Jvm.Pilot.@@N@@.Jvm.D
theorem own_irem (x y : Int32) : x - (x / y) * y = x % y := by
  apply Int32.toInt_inj.mp
  have h1 := Int32.le_toInt (x % y)
  have h2 := Int32.toInt_lt (x % y)
  rw [Int32.toInt_sub, Int32.toInt_mul, Int32.toInt_div, Int.bmod_mul_bmod, Int.sub_bmod_bmod, Int.mul_comm (x.toInt.tdiv y.toInt), ← Int.tmod_def, ← Int32.toInt_mod]
  exact Int.bmod_eq_of_le_mul_two (by omega) (by omega)
theorem own_getR {p : Program} {l : Launch} {e : Env} {R : Room} {s : State} {m : MethodId} {args : Array Value} {below : List Frame} {meth : Method} {c : Code} {T : State} {locs : List Loc} {cells slots : Nat} {Z : State} {a0 : Array Value} {h : Heap}
    (X : Stand p l e R s m args below meth c T locs cells slots) (hx : p.tables.exec = Jvm.exec) (hZ : Z.Warmed39 s.vm) {own O n d : String} {index : Nat} (hown : s.vm.findClass own = some m.cls) (w : (Cond.fieldRef own index O n d).before a0 Z = true)
    (eT : T.heap = h) {a : Addr} {v : Value} (F : Fld Z h a O n d v) {g : JFrame} (hg : g.method = m) {rest : List Value} (hs : g.stack = .ref a :: rest) (hd : decode c.code g.pc = .ok (.getfield index, 3)) :
    ∃ T', Stand p l e R s m args below meth c T' locs cells slots ∧ T'.heap = h ∧ ∀ target, Steps p.tables e below (T'.setTop { g with pc := g.pc + 3, stack := v :: rest }) target → Steps p.tables e below (T.setTop g) target := by
  have hT : Z.Warmed39 T.vm := wtrans hZ X.warmed
  have w' := Cond.fieldRef_warmed39 hT w
  have hc : (Z.setVm T.vm).vm.findClass own = some m.cls := by
    rw [show (Z.setVm T.vm).vm = T.vm from rfl, X.warmed.alike.findClass]; exact hown
  obtain ⟨cf, k, i, f, hff, hready⟩ := Cond.fieldRef_spec hc w'
  obtain ⟨cell, cf', k', i', f', q1, q2, q3, q4, q5, q6, q7⟩ := F
  obtain ⟨k2, hi, ek⟩ := State.fieldFound?_setVm (s := Z) hT.alike q2
  cases hff.symm.trans hi
  exact ⟨T, X, eT, fun target ht => (X.getfieldR hx hg hready q3 hs (by rw [eT]; exact q1) q4 q7 hd (Steps.refl _)).trans ht⟩
theorem own_insAny {Z : State} {a0 : Array Value} {h : Heap} {own K C : String} {index d : Nat} {a : Addr} (hd : Z.vm.findClass own = some d) (w : (Cond.classLink own index K).before a0 Z = true) (E : Exa Z h a C) : ∃ b, Ins Z h a K b := by
  obtain ⟨cell, k, h1, -⟩ := E
  obtain ⟨cT, hK, -⟩ := Cond.classLink_spec hd w {} rfl
  exact ⟨_, cell, cT, h1, hK, rfl⟩
theorem own_mvM {Z s : State} {a0 args : Array Value} {own host : String} {y : MethodName} {index : Nat} (hZ : Z.Warmed39 s.vm) (w : (Cond.methodLinkNest own index y host).before a0 Z = true) : (Cond.methodLinkNest own index y host).before args s = true := (Cond.methodLinkNest_wide hZ w :)
theorem own_w {Z : State} {a0 : Array Value} (hw : ∀ d ∈ tables_1, d.before a0 Z = true) (i : Nat) {d : Jvm.Cond} (h : tables_1[i]? = some d) : d.before a0 Z = true := hw _ (List.mem_of_getElem? h)
theorem own_nb (x : Int32) : nar .byte x.toInt8.toInt32 = x.toInt8.toInt32 := by simp [nar]
theorem own_eqI {args : Array Value} {first s : State} {o : Option Outcome} {idx : List Nat} {t : Term} {k : Int32} (h : (Cond.eq t (.int k)).value args first o s idx = some true) : t.eval args first o idx s = some (.int k) :=
  Cond.eq_int (by simp [Cond.holds, h]) (Term.int_eval _)
def own_EL : List (String × Nat) := [("com/example/assemble_quorum/assemblequorum/io/BuilderPriorPinLaw", 24)]
theorem own_EW {Z : State} {a0 : Array Value} (hw : ∀ d ∈ tables_1, d.before a0 Z = true) : EW Z a0 own_EL := (EW.cons (own_w hw 3 rfl) (by decide) EW.nil)
theorem own_sub : ∀ q ∈ own_EL, q ∈ consts_1 := by decide
theorem own_wS {Z : State} {a0 : Array Value} (hw : ∀ d ∈ tables_1, d.before a0 Z = true) : ∀ a ∈ Bundle.stringAtoms, a.before a0 Z = true := by
  intro a ha
  simp only [Bundle.stringAtoms, List.mem_cons, List.not_mem_nil, or_false] at ha
  rcases ha with rfl | rfl | rfl | rfl | rfl | rfl | rfl
  · exact (own_w hw 4 rfl)
  · exact (own_w hw 5 rfl)
  · exact (own_w hw 6 rfl)
  · exact (own_w hw 7 rfl)
  · exact (own_w hw 8 rfl)
  · exact (own_w hw 9 rfl)
  · exact (own_w hw 10 rfl)
def own_Gl (Z : State) (cs : Int32) (wf : Value) (wK0 : Addr) (wK1 : Addr) (wK2 : Addr) (wK3 : Addr) (wL : Addr) : Prop := (Sta Z Z.heap "java/lang/String" "COMPACT_STRINGS" "Z" (.int cs)) ∧ (¬ (cs = (0 : Int32))) ∧ (Sta Z Z.heap "jdk/internal/util/Preconditions" "SIOOBE_FORMATTER" "Ljava/util/function/BiFunction;" wf) ∧ (wf = .null ∨ ∃ x, wf = .ref x) ∧ (Sta Z Z.heap "com/example/assemble_quorum/assemblequorum/io/Message$Kind" "PROPOSAL_ANSWER" "Lcom/example/assemble_quorum/assemblequorum/io/Message$Kind;" (.ref wK0)) ∧ (Sta Z Z.heap "com/example/assemble_quorum/assemblequorum/io/Message$Kind" "HELLO" "Lcom/example/assemble_quorum/assemblequorum/io/Message$Kind;" (.ref wK1)) ∧ (Sta Z Z.heap "com/example/assemble_quorum/assemblequorum/io/Message$Kind" "EVENT" "Lcom/example/assemble_quorum/assemblequorum/io/Message$Kind;" (.ref wK2)) ∧ (Sta Z Z.heap "com/example/assemble_quorum/assemblequorum/io/Message$Kind" "PING" "Lcom/example/assemble_quorum/assemblequorum/io/Message$Kind;" (.ref wK3)) ∧ (Sta Z Z.heap "java/util/ImmutableCollections" "EMPTY_LIST" "Ljava/util/ImmutableCollections$ListN;" (.ref wL)) ∧ (Exa Z Z.heap wL "java/util/ImmutableCollections$ListN") ∧ (Fld Z Z.heap wL "java/util/ImmutableCollections$ListN" "allowNulls" "Z" (.int (0 : Int32)))
theorem own_mask (x z : Int64) (h : z = x &&& (9223372036854775807 : Int64)) : ¬ z < (0 : Int64) := by
  rw [Int64.lt_iff_toInt_lt, show (0 : Int64).toInt = 0 by decide, h]
  have e : (x &&& (9223372036854775807 : Int64)).toInt = x.toInt % 2 ^ 63 := by
    show (x.toBitVec &&& (9223372036854775807 : Int64).toBitVec).toInt = x.toBitVec.toInt % 2 ^ 63
    have hb := x.toBitVec.isLt
    have h1 : (x.toBitVec &&& (9223372036854775807 : Int64).toBitVec).toNat = x.toBitVec.toNat % 2 ^ 63 := by
      rw [BitVec.toNat_and, show (9223372036854775807 : Int64).toBitVec.toNat = 2 ^ 63 - 1 from by decide, Nat.and_two_pow_sub_one_eq_mod]
    rw [BitVec.toInt_eq_toNat_cond, BitVec.toInt_eq_toNat_cond, h1]
    split <;> split <;> omega
  omega
theorem own_port (x z : Int32) (h : z = (x &&& 65535) % 65535 + 1) : ¬ z < (1 : Int32) ∧ ¬ (65535 : Int32) < z := by
  have h1 := c_and x 65535 (by decide)
  have h2 := (c_irem (x &&& 65535) 65535 65535 (by decide)).1 h1.1
  have e : z.toInt = ((x &&& 65535) % 65535).toInt + 1 := by
    rw [h, Int32.toInt_add, show (1 : Int32).toInt = 1 by decide, h2]
    exact Int.bmod_eq_of_le (by omega) (by omega)
  simp only [Int32.lt_iff_toInt_lt, show (1 : Int32).toInt = 1 by decide, show (65535 : Int32).toInt = 65535 by decide]
  omega
theorem own_ef1 (m : MethodId) (x0 : Int32) (x1 : Int64) (x2 : Int32) (x3 : Int32) : entryFrame m #[(.int x0), (.long x1), (.int x2), (.int x3)] maxLocals = mkF m 0 #[.val (.int x0), .val (.long x1), .second, .val (.int x2), .val (.int x3), .unset, .unset, .unset, .unset, .unset, .unset, .unset, .unset] [] := by first | (simp [entryFrame, mkF, argsToLocals, Value.category, maxLocals]; done) | rfl
theorem own_pn0 : plainName "com/example/assemble_quorum/assemblequorum/io/BuilderPriorPinLaw" = true := by first | (simp [plainName, overriddenIn]; done) | decide +kernel
abbrev own_y0 : MethodName := ⟨"com/example/assemble_quorum/assemblequorum/model/MemberAddress", "<init>", "(Ljava/lang/String;I)V"⟩
theorem own_ef2 (m : MethodId) (x0 : Addr) (x1 : Addr) (x2 : Int32) : entryFrame m #[(.ref x0), (.ref x1), (.int x2)] 3 = mkF m 0 #[.val (.ref x0), .val (.ref x1), .val (.int x2)] [] := by first | (simp [entryFrame, mkF, argsToLocals, Value.category]; done) | rfl
theorem own_pn1 : plainName "com/example/assemble_quorum/assemblequorum/model/MemberAddress" = true := by first | (simp [plainName, overriddenIn]; done) | decide +kernel
theorem own_d1_0 : decode prog_31_method_1_code 0 = .ok (.aload_n 0, 1) := by decide +kernel
theorem own_d1_1 : decode prog_31_method_1_code 1 = .ok (.invokespecial 3, 3) := by decide +kernel
theorem own_d1_4 : decode prog_31_method_1_code 4 = .ok (.aload_n 1, 1) := by decide +kernel
theorem own_d1_5 : decode prog_31_method_1_code 5 = .ok (.ldc 9, 2) := by decide +kernel
theorem own_d1_7 : decode prog_31_method_1_code 7 = .ok (.invokestatic 11, 3) := by decide +kernel
abbrev own_y1 : MethodName := ⟨"java/util/Objects", "requireNonNull", "(Ljava/lang/Object;Ljava/lang/String;)Ljava/lang/Object;"⟩
theorem own_ef3 (m : MethodId) (x0 : Addr) (x1 : Addr) : entryFrame m #[(.ref x0), (.ref x1)] 2 = mkF m 0 #[.val (.ref x0), .val (.ref x1)] [] := by first | (simp [entryFrame, mkF, argsToLocals, Value.category]; done) | rfl
theorem own_pn2 : plainName "java/util/Objects" = true := by first | (simp [plainName, overriddenIn]; done) | decide +kernel
theorem own_d3_0 : decode jdk_31_method_11_code 0 = .ok (.aload_n 0, 1) := by decide +kernel
theorem own_d3_1 : decode jdk_31_method_11_code 1 = .ok (.ifnonnull 12, 3) := by decide +kernel
theorem own_d3_13 : decode jdk_31_method_11_code 13 = .ok (.aload_n 0, 1) := by decide +kernel
theorem own_d3_14 : decode jdk_31_method_11_code 14 = .ok (.areturn, 1) := by decide +kernel
def own_Q_rmA1 (Z : State) (ob0 : Addr) (ob1 : Addr)  (cs : Int32) (wf : Value) (wK0 : Addr) (wK1 : Addr) (wK2 : Addr) (wK3 : Addr) (wL : Addr) (h0 : Heap) (n0 : Nat) (v : Option Value) (h : Heap) (L : List Loc) : Prop := v = some (.ref ob0) ∧ Fr n0 L ∧ h = h0
set_option maxRecDepth 65536 in
set_option maxHeartbeats 40000000 in
theorem rmA1 (l : Launch) (Z : State) (a0 : Array Value) (hw : ∀ d ∈ tables_1, d.before a0 Z = true) (ws : List Jvm.Cond) (ob0 : Addr) (ob1 : Addr)  (cs : Int32) (wf : Value) (wK0 : Addr) (wK1 : Addr) (wK2 : Addr) (wK3 : Addr) (wL : Addr) (h0 : Heap) (n0 : Nat) (O0 : Old Z n0 h0) (G : own_Gl Z cs wf wK0 wK1 wK2 wK3 wL) :
    MetFree l own_y1 (head1 (Jvm.Cond.code own_y1 jdk_31_method_11_code 2 (some (.object "java/lang/Object")) :: ws) ({ frames := 0, cells := 0, slots := 0, locals := 0 } : Room)) (fun a U => a = #[(.ref ob0), (.ref ob1)] ∧ Z.Warmed39 U.vm ∧ U.heap = h0) (fun _ _ _ _ _ => True) (fun _ U o U' => ∃ v L, o = .returned v ∧ own_Q_rmA1 Z ob0 ob1 cs wf wK0 wK1 wK2 wK3 wL h0 n0 v U'.heap L ∧ FrameEnd U o U' L ({ frames := 0, cells := 0, slots := 0, locals := 0 } : Room).cells ({ frames := 0, cells := 0, slots := 0, locals := 0 } : Room).slots) := by
  refine MetFree.of_bodySF (plainFor_of_name own_pn2) hisR ?_
  intro p e s m args below meth c s₁ Bd hml0 hP hK
  obtain ⟨rfl, hZ, hh⟩ := hP
  have hx := Bd.exec
  have hby := Bd.bytes
  have hml : c.maxLocals = 2 := hml0
  have hown : s.vm.findClass "java/util/Objects" = some m.cls := findClass_of_methodNamed Bd.named
  have hnm := (name_of_methodNamed Bd.named Bd.method).1
  have X0 : Stand p l e ({ frames := 0, cells := 0, slots := 0, locals := 0 } : Room) s m #[(.ref ob0), (.ref ob1)] below meth c s₁ [] 0 0 := Stand.of_body Bd
  have e0 : s₁.heap = h0 := by rw [← hh, Bd.state]; rfl
  have N0 := Fr.nil n0
  have Z0 : n0 ≤ h0.size := O0.1 ▸ O0.2.1
  have g0 : ∀ t, Steps p.tables e below (s₁.setTop (mkF m 0 #[.val (.ref ob0), .val (.ref ob1)] [])) t → Steps p.tables e below (s₁.setTop (entryFrame m #[(.ref ob0), (.ref ob1)] 2)) t := fun t k => castTop (own_ef3 m (ob0) (ob1)) k
  have G0 := G
  obtain ⟨S_CS, hcs, S_WF, hwf, S_PROPOSAL_ANSWER, S_HELLO, S_EVENT, S_PING, S_L, Ex_L, Fa_L⟩ := G
  have g1 : ∀ t, Steps p.tables e below (s₁.setTop (mkF m 14 #[.val (.ref ob0), .val (.ref ob1)] [(.ref ob0)])) t → Steps p.tables e below (s₁.setTop (entryFrame m #[(.ref ob0), (.ref ob1)] 2)) t := by
    intro t k
    refine g0 t ?_
    show Steps p.tables e below (s₁.setTop (mkF m 0 #[.val (.ref ob0), .val (.ref ob1)] [])) _
    refine XS.aloadN X0.here hx rfl (hb hby own_d3_0) rfl rfl ?_
    refine XS.ifnonnullYes X0.here hx rfl (pc0 := 1) (pc' := 13) rfl (hb hby own_d3_1) rfl (by decide) (by decide) ?_
    refine XS.aloadN X0.here hx rfl (hb hby own_d3_13) rfl rfl ?_
    exact k
  obtain ⟨fs, hrt, hrun, hended, hW, hsame⟩ := X0.leave (v := some (.ref ob0)) (fun h => by rw [Bd.returns] at h; cases h)
  refine ⟨_, _, g1 _ ?_, hrun, hended, _, _, rfl, ?_, ⟨_, rfl⟩, hW, hsame.mono (by decide) (by decide)⟩
  · show Steps p.tables e below (s₁.setTop (mkF m 14 #[.val (.ref ob0), .val (.ref ob1)] [(.ref ob0)])) _
    jvm_step X0.here [X0.here.top, hx, (hb hby own_d3_14), X0.method', Bd.returns, Value.isRef, FieldType.isReference]
    first | (intro acts; rw [hrt _ acts rfl rfl rfl]) | rw [hrt _ _ rfl rfl rfl]
    exact Steps.refl _
  · show own_Q_rmA1 Z ob0 ob1 cs wf wK0 wK1 wK2 wK3 wL h0 n0 _ s₁.heap _
    rw [e0]
    exact ⟨rfl, N0, rfl⟩
theorem own_pd0 : parseMethodDescriptor "(Ljava/lang/Object;Ljava/lang/String;)Ljava/lang/Object;" = some ⟨[(.object "java/lang/Object"), (.object "java/lang/String")], some (.object "java/lang/Object")⟩ := by decide +kernel
theorem own_d1_10 : decode prog_31_method_1_code 10 = .ok (.pop, 1) := by decide +kernel
theorem own_d1_11 : decode prog_31_method_1_code 11 = .ok (.aload_n 1, 1) := by decide +kernel
theorem own_d1_12 : decode prog_31_method_1_code 12 = .ok (.invokestatic 17, 3) := by decide +kernel
abbrev own_y2 : MethodName := ⟨"com/example/assemble_quorum/assemblequorum/model/MemberAddress", "checkHost", "(Ljava/lang/String;)V"⟩
theorem own_ef4 (m : MethodId) (x0 : Addr) : entryFrame m #[(.ref x0)] 5 = mkF m 0 #[.val (.ref x0), .unset, .unset, .unset, .unset] [] := by first | (simp [entryFrame, mkF, argsToLocals, Value.category]; done) | rfl
theorem own_d4_0 : decode prog_31_method_9_code 0 = .ok (.aload_n 0, 1) := by decide +kernel
theorem own_d4_1 : decode prog_31_method_9_code 1 = .ok (.invokevirtual 97, 3) := by decide +kernel
abbrev own_y3 : MethodName := ⟨"java/lang/String", "isEmpty", "()Z"⟩
theorem own_ef5 (m : MethodId) (x0 : Addr) : entryFrame m #[(.ref x0)] 1 = mkF m 0 #[.val (.ref x0)] [] := by first | (simp [entryFrame, mkF, argsToLocals, Value.category]; done) | rfl
theorem own_pn3 : plainName "java/lang/String" = true := by first | (simp [plainName, overriddenIn]; done) | decide +kernel
theorem own_d5_0 : decode jdk_42_method_55_code 0 = .ok (.aload_n 0, 1) := by decide +kernel
theorem own_d5_1 : decode jdk_42_method_55_code 1 = .ok (.getfield 9, 3) := by decide +kernel
theorem own_d5_4 : decode jdk_42_method_55_code 4 = .ok (.arraylength, 1) := by decide +kernel
theorem own_d5_5 : decode jdk_42_method_55_code 5 = .ok (.ifCond .ne 7, 3) := by decide +kernel
theorem own_d5_12 : decode jdk_42_method_55_code 12 = .ok (.iconst 0, 1) := by decide +kernel
theorem own_d5_13 : decode jdk_42_method_55_code 13 = .ok (.ireturn, 1) := by decide +kernel
def own_Q_rmA3 (Z : State) (ob0 : Addr) (ob0_value : Addr) (k_ob0_value : ClassId)  (cs : Int32) (wf : Value) (wK0 : Addr) (wK1 : Addr) (wK2 : Addr) (wK3 : Addr) (wL : Addr) (h0 : Heap) (n0 : Nat) (v : Option Value) (h : Heap) (L : List Loc) : Prop := v = some (.int (0 : Int32)) ∧ Fr n0 L ∧ h = h0
set_option maxRecDepth 65536 in
set_option maxHeartbeats 40000000 in
theorem rmA3 (l : Launch) (Z : State) (a0 : Array Value) (hw : ∀ d ∈ tables_1, d.before a0 Z = true) (ws : List Jvm.Cond) (ob0 : Addr) (ob0_value : Addr) (k_ob0_value : ClassId)  (cs : Int32) (wf : Value) (wK0 : Addr) (wK1 : Addr) (wK2 : Addr) (wK3 : Addr) (wL : Addr) (h0 : Heap) (n0 : Nat) (O0 : Old Z n0 h0) (G : own_Gl Z cs wf wK0 wK1 wK2 wK3 wL) (E_ob0 : Exa Z h0 ob0 "java/lang/String") (F_ob0_coder : Fld Z h0 ob0 "java/lang/String" "coder" "B" (.int (0 : Int32))) (V_ob0_value : Arv Z h0 ob0_value k_ob0_value .byte (1 : Int32) [(.int (104 : Int32))] (.int (0 : Int32))) (F_ob0_value : Fld Z h0 ob0 "java/lang/String" "value" "[B" (.ref ob0_value)) :
    MetFree l own_y3 (head1 (Jvm.Cond.code own_y3 jdk_42_method_55_code 1 (some .boolean) :: ws) ({ frames := 0, cells := 0, slots := 0, locals := 0 } : Room)) (fun a U => a = #[(.ref ob0)] ∧ Z.Warmed39 U.vm ∧ U.heap = h0) (fun _ _ _ _ _ => True) (fun _ U o U' => ∃ v L, o = .returned v ∧ own_Q_rmA3 Z ob0 ob0_value k_ob0_value cs wf wK0 wK1 wK2 wK3 wL h0 n0 v U'.heap L ∧ FrameEnd U o U' L ({ frames := 0, cells := 0, slots := 0, locals := 0 } : Room).cells ({ frames := 0, cells := 0, slots := 0, locals := 0 } : Room).slots) := by
  refine MetFree.of_bodySF (plainFor_of_name own_pn3) hisR ?_
  intro p e s m args below meth c s₁ Bd hml0 hP hK
  obtain ⟨rfl, hZ, hh⟩ := hP
  have hx := Bd.exec
  have hby := Bd.bytes
  have hml : c.maxLocals = 1 := hml0
  have hown : s.vm.findClass "java/lang/String" = some m.cls := findClass_of_methodNamed Bd.named
  have hnm := (name_of_methodNamed Bd.named Bd.method).1
  have X0 : Stand p l e ({ frames := 0, cells := 0, slots := 0, locals := 0 } : Room) s m #[(.ref ob0)] below meth c s₁ [] 0 0 := Stand.of_body Bd
  have e0 : s₁.heap = h0 := by rw [← hh, Bd.state]; rfl
  have N0 := Fr.nil n0
  have Z0 : n0 ≤ h0.size := O0.1 ▸ O0.2.1
  have g0 : ∀ t, Steps p.tables e below (s₁.setTop (mkF m 0 #[.val (.ref ob0)] [])) t → Steps p.tables e below (s₁.setTop (entryFrame m #[(.ref ob0)] 1)) t := fun t k => castTop (own_ef5 m (ob0)) k
  have G0 := G
  obtain ⟨S_CS, hcs, S_WF, hwf, S_PROPOSAL_ANSWER, S_HELLO, S_EVENT, S_PING, S_L, Ex_L, Fa_L⟩ := G
  obtain ⟨T1, X1, e1, st1⟩ := getF X0 hx hZ hown (host := "") (Or.inl (own_w hw 31 rfl)) Via.refl e0 F_ob0_value (g := (mkF m 1 #[.val (.ref ob0)] [(.ref ob0)])) rfl rfl (hb hby own_d5_1)
  obtain ⟨c2, Ar2, cq2, S2, Nn2, Hh2, Gg2⟩ := id V_ob0_value
  have g3 : ∀ t, Steps p.tables e below (T1.setTop (mkF m 13 #[.val (.ref ob0)] [(.int (0 : Int32))])) t → Steps p.tables e below (s₁.setTop (entryFrame m #[(.ref ob0)] 1)) t := by
    intro t k
    refine g0 t ?_
    show Steps p.tables e below (s₁.setTop (mkF m 0 #[.val (.ref ob0)] [])) _
    refine XS.aloadN X0.here hx rfl (hb hby own_d5_0) rfl rfl ?_
    refine st1 _ ?_
    show Steps p.tables e below (T1.setTop (mkF m 4 #[.val (.ref ob0)] [(.ref ob0_value)])) _
    refine X1.arraylength hx (by rw [e1]; exact Ar2.1) (State.isArrayOf_alike hZ.alike Ar2.2.1) (g := (mkF m 4 #[.val (.ref ob0)] [(.ref ob0_value)])) rfl rfl (hb hby own_d5_4) _ ?_
    rw [len_of S2 Nn2]
    refine XS.ifYes X1.here hx rfl (pc0 := 5) (pc' := 12) rfl (hb hby own_d5_5) rfl ((if0 _ _).trans (feq (by decide : ¬ ((1 : Int32) = (0 : Int32)))).2) (by decide) (by decide) ?_
    refine XS.iconst X1.here hx rfl (hb hby own_d5_12) ?_
    exact k
  obtain ⟨fs, hrt, hrun, hended, hW, hsame⟩ := X1.leave (v := some (.int (0 : Int32))) (fun h => by rw [Bd.returns] at h; cases h)
  refine ⟨_, _, g3 _ ?_, hrun, hended, _, _, rfl, ?_, ⟨_, rfl⟩, hW, hsame.mono (by decide) (by decide)⟩
  · show Steps p.tables e below (T1.setTop (mkF m 13 #[.val (.ref ob0)] [(.int (0 : Int32))])) _
    exact retN X1 hx (t := .boolean) Bd.returns (by simp) (hb hby own_d5_13) hrt
  · show own_Q_rmA3 Z ob0 ob0_value k_ob0_value cs wf wK0 wK1 wK2 wK3 wL h0 n0 _ T1.heap _
    rw [e1]
    exact ⟨rfl, N0, rfl⟩
theorem own_pd1 : parseMethodDescriptor "()Z" = some ⟨[], some .boolean⟩ := by decide +kernel
theorem own_d4_4 : decode prog_31_method_9_code 4 = .ok (.ifCond .eq 13, 3) := by decide +kernel
theorem own_d4_17 : decode prog_31_method_9_code 17 = .ok (.aload_n 0, 1) := by decide +kernel
theorem own_d4_18 : decode prog_31_method_9_code 18 = .ok (.invokevirtual 103, 3) := by decide +kernel
abbrev own_y4 : MethodName := ⟨"java/lang/String", "length", "()I"⟩
theorem own_ef6 (m : MethodId) (x0 : Addr) : entryFrame m #[(.ref x0)] 1 = mkF m 0 #[.val (.ref x0)] [] := by first | (simp [entryFrame, mkF, argsToLocals, Value.category]; done) | rfl
theorem own_d6_0 : decode jdk_42_method_54_code 0 = .ok (.aload_n 0, 1) := by decide +kernel
theorem own_d6_1 : decode jdk_42_method_54_code 1 = .ok (.getfield 9, 3) := by decide +kernel
theorem own_d6_4 : decode jdk_42_method_54_code 4 = .ok (.arraylength, 1) := by decide +kernel
theorem own_d6_5 : decode jdk_42_method_54_code 5 = .ok (.aload_n 0, 1) := by decide +kernel
theorem own_d6_6 : decode jdk_42_method_54_code 6 = .ok (.invokevirtual 335, 3) := by decide +kernel
abbrev own_y5 : MethodName := ⟨"java/lang/String", "coder", "()B"⟩
theorem own_ef7 (m : MethodId) (x0 : Addr) : entryFrame m #[(.ref x0)] 1 = mkF m 0 #[.val (.ref x0)] [] := by first | (simp [entryFrame, mkF, argsToLocals, Value.category]; done) | rfl
theorem own_d7_0 : decode jdk_42_method_152_code 0 = .ok (.getstatic 38, 3) := by decide +kernel
theorem own_d7_3 : decode jdk_42_method_152_code 3 = .ok (.ifCond .eq 10, 3) := by decide +kernel
theorem own_d7_6 : decode jdk_42_method_152_code 6 = .ok (.aload_n 0, 1) := by decide +kernel
theorem own_d7_7 : decode jdk_42_method_152_code 7 = .ok (.getfield 15, 3) := by decide +kernel
theorem own_d7_10 : decode jdk_42_method_152_code 10 = .ok (.goto 4, 3) := by decide +kernel
theorem own_d7_14 : decode jdk_42_method_152_code 14 = .ok (.ireturn, 1) := by decide +kernel
def own_Q_rmA5 (Z : State) (ob0 : Addr) (ob0_value : Addr) (k_ob0_value : ClassId)  (cs : Int32) (wf : Value) (wK0 : Addr) (wK1 : Addr) (wK2 : Addr) (wK3 : Addr) (wL : Addr) (h0 : Heap) (n0 : Nat) (v : Option Value) (h : Heap) (L : List Loc) : Prop := v = some (.int (0 : Int32)) ∧ Fr n0 L ∧ h = h0
set_option maxRecDepth 65536 in
set_option maxHeartbeats 40000000 in
theorem rmA5 (l : Launch) (Z : State) (a0 : Array Value) (hw : ∀ d ∈ tables_1, d.before a0 Z = true) (ws : List Jvm.Cond) (ob0 : Addr) (ob0_value : Addr) (k_ob0_value : ClassId)  (cs : Int32) (wf : Value) (wK0 : Addr) (wK1 : Addr) (wK2 : Addr) (wK3 : Addr) (wL : Addr) (h0 : Heap) (n0 : Nat) (O0 : Old Z n0 h0) (G : own_Gl Z cs wf wK0 wK1 wK2 wK3 wL) (E_ob0 : Exa Z h0 ob0 "java/lang/String") (F_ob0_coder : Fld Z h0 ob0 "java/lang/String" "coder" "B" (.int (0 : Int32))) (V_ob0_value : Arv Z h0 ob0_value k_ob0_value .byte (1 : Int32) [(.int (104 : Int32))] (.int (0 : Int32))) (F_ob0_value : Fld Z h0 ob0 "java/lang/String" "value" "[B" (.ref ob0_value)) :
    MetFree l own_y5 (head1 (Jvm.Cond.code own_y5 jdk_42_method_152_code 1 (some .byte) :: ws) ({ frames := 0, cells := 0, slots := 0, locals := 0 } : Room)) (fun a U => a = #[(.ref ob0)] ∧ Z.Warmed39 U.vm ∧ U.heap = h0) (fun _ _ _ _ _ => True) (fun _ U o U' => ∃ v L, o = .returned v ∧ own_Q_rmA5 Z ob0 ob0_value k_ob0_value cs wf wK0 wK1 wK2 wK3 wL h0 n0 v U'.heap L ∧ FrameEnd U o U' L ({ frames := 0, cells := 0, slots := 0, locals := 0 } : Room).cells ({ frames := 0, cells := 0, slots := 0, locals := 0 } : Room).slots) := by
  refine MetFree.of_bodySF (plainFor_of_name own_pn3) hisR ?_
  intro p e s m args below meth c s₁ Bd hml0 hP hK
  obtain ⟨rfl, hZ, hh⟩ := hP
  have hx := Bd.exec
  have hby := Bd.bytes
  have hml : c.maxLocals = 1 := hml0
  have hown : s.vm.findClass "java/lang/String" = some m.cls := findClass_of_methodNamed Bd.named
  have hnm := (name_of_methodNamed Bd.named Bd.method).1
  have X0 : Stand p l e ({ frames := 0, cells := 0, slots := 0, locals := 0 } : Room) s m #[(.ref ob0)] below meth c s₁ [] 0 0 := Stand.of_body Bd
  have e0 : s₁.heap = h0 := by rw [← hh, Bd.state]; rfl
  have N0 := Fr.nil n0
  have Z0 : n0 ≤ h0.size := O0.1 ▸ O0.2.1
  have g0 : ∀ t, Steps p.tables e below (s₁.setTop (mkF m 0 #[.val (.ref ob0)] [])) t → Steps p.tables e below (s₁.setTop (entryFrame m #[(.ref ob0)] 1)) t := fun t k => castTop (own_ef7 m (ob0)) k
  have G0 := G
  obtain ⟨S_CS, hcs, S_WF, hwf, S_PROPOSAL_ANSWER, S_HELLO, S_EVENT, S_PING, S_L, Ex_L, Fa_L⟩ := G
  obtain ⟨T1, X1, e1, st1⟩ := getS2 X0 hx hZ hown (host := "") (Or.inl (own_w hw 42 rfl)) Via.refl e0 (S_CS.ext O0.2) (g := (mkF m 0 #[.val (.ref ob0)] [])) rfl (hb hby own_d7_0)
  have hc2 : ¬ (cs = (0 : Int32)) := hcs
  obtain ⟨T3, X3, e3, st3⟩ := getF X1 hx hZ hown (host := "") (Or.inl (own_w hw 43 rfl)) Via.refl e1 F_ob0_coder (g := (mkF m 7 #[.val (.ref ob0)] [(.ref ob0)])) rfl rfl (hb hby own_d7_7)
  have g4 : ∀ t, Steps p.tables e below (T3.setTop (mkF m 14 #[.val (.ref ob0)] [(.int (0 : Int32))])) t → Steps p.tables e below (s₁.setTop (entryFrame m #[(.ref ob0)] 1)) t := by
    intro t k
    refine g0 t ?_
    show Steps p.tables e below (s₁.setTop (mkF m 0 #[.val (.ref ob0)] [])) _
    refine st1 _ ?_
    refine XS.ifNo X1.here hx rfl (hb hby own_d7_3) rfl ((if0 _ _).trans (feq hc2).1) ?_
    refine XS.aloadN X1.here hx rfl (hb hby own_d7_6) rfl rfl ?_
    refine st3 _ ?_
    refine XS.goto X3.here hx rfl (pc0 := 10) (pc' := 14) rfl (hb hby own_d7_10) (by decide) (by decide) ?_
    exact k
  obtain ⟨fs, hrt, hrun, hended, hW, hsame⟩ := X3.leave (v := some (.int (0 : Int32))) (fun h => by rw [Bd.returns] at h; cases h)
  refine ⟨_, _, g4 _ ?_, hrun, hended, _, _, rfl, ?_, ⟨_, rfl⟩, hW, hsame.mono (by decide) (by decide)⟩
  · show Steps p.tables e below (T3.setTop (mkF m 14 #[.val (.ref ob0)] [(.int (0 : Int32))])) _
    exact retN X3 hx (t := .byte) Bd.returns (by simp) (hb hby own_d7_14) hrt
  · show own_Q_rmA5 Z ob0 ob0_value k_ob0_value cs wf wK0 wK1 wK2 wK3 wL h0 n0 _ T3.heap _
    rw [e3]
    exact ⟨rfl, N0, rfl⟩
theorem own_pd2 : parseMethodDescriptor "()B" = some ⟨[], some .byte⟩ := by decide +kernel
theorem own_d6_9 : decode jdk_42_method_54_code 9 = .ok (.ishr, 1) := by decide +kernel
theorem own_d6_10 : decode jdk_42_method_54_code 10 = .ok (.ireturn, 1) := by decide +kernel
def own_Q_rmA4 (Z : State) (ob0 : Addr) (ob0_value : Addr) (k_ob0_value : ClassId)  (cs : Int32) (wf : Value) (wK0 : Addr) (wK1 : Addr) (wK2 : Addr) (wK3 : Addr) (wL : Addr) (h0 : Heap) (n0 : Nat) (v : Option Value) (h : Heap) (L : List Loc) : Prop := v = some (.int (1 : Int32)) ∧ Fr n0 L ∧ h = h0
set_option maxRecDepth 65536 in
set_option maxHeartbeats 40000000 in
theorem rmA4 (l : Launch) (Z : State) (a0 : Array Value) (hw : ∀ d ∈ tables_1, d.before a0 Z = true) (ws : List Jvm.Cond) (ob0 : Addr) (ob0_value : Addr) (k_ob0_value : ClassId)  (cs : Int32) (wf : Value) (wK0 : Addr) (wK1 : Addr) (wK2 : Addr) (wK3 : Addr) (wL : Addr) (h0 : Heap) (n0 : Nat) (O0 : Old Z n0 h0) (G : own_Gl Z cs wf wK0 wK1 wK2 wK3 wL) (E_ob0 : Exa Z h0 ob0 "java/lang/String") (F_ob0_coder : Fld Z h0 ob0 "java/lang/String" "coder" "B" (.int (0 : Int32))) (V_ob0_value : Arv Z h0 ob0_value k_ob0_value .byte (1 : Int32) [(.int (104 : Int32))] (.int (0 : Int32))) (F_ob0_value : Fld Z h0 ob0 "java/lang/String" "value" "[B" (.ref ob0_value)) :
    MetFree l own_y4 (head1 (Jvm.Cond.code own_y4 jdk_42_method_54_code 1 (some .int) :: ws) ({ frames := 1, cells := 0, slots := 0, locals := 13 } : Room)) (fun a U => a = #[(.ref ob0)] ∧ Z.Warmed39 U.vm ∧ U.heap = h0) (fun _ _ _ _ _ => True) (fun _ U o U' => ∃ v L, o = .returned v ∧ own_Q_rmA4 Z ob0 ob0_value k_ob0_value cs wf wK0 wK1 wK2 wK3 wL h0 n0 v U'.heap L ∧ FrameEnd U o U' L ({ frames := 1, cells := 0, slots := 0, locals := 13 } : Room).cells ({ frames := 1, cells := 0, slots := 0, locals := 13 } : Room).slots) := by
  refine MetFree.of_bodySF (plainFor_of_name own_pn3) hisR ?_
  intro p e s m args below meth c s₁ Bd hml0 hP hK
  obtain ⟨rfl, hZ, hh⟩ := hP
  have hx := Bd.exec
  have hby := Bd.bytes
  have hml : c.maxLocals = 1 := hml0
  have hown : s.vm.findClass "java/lang/String" = some m.cls := findClass_of_methodNamed Bd.named
  have hnm := (name_of_methodNamed Bd.named Bd.method).1
  have X0 : Stand p l e ({ frames := 1, cells := 0, slots := 0, locals := 13 } : Room) s m #[(.ref ob0)] below meth c s₁ [] 0 0 := Stand.of_body Bd
  have e0 : s₁.heap = h0 := by rw [← hh, Bd.state]; rfl
  have N0 := Fr.nil n0
  have Z0 : n0 ≤ h0.size := O0.1 ▸ O0.2.1
  have g0 : ∀ t, Steps p.tables e below (s₁.setTop (mkF m 0 #[.val (.ref ob0)] [])) t → Steps p.tables e below (s₁.setTop (entryFrame m #[(.ref ob0)] 1)) t := fun t k => castTop (own_ef6 m (ob0)) k
  have G0 := G
  obtain ⟨S_CS, hcs, S_WF, hwf, S_PROPOSAL_ANSWER, S_HELLO, S_EVENT, S_PING, S_L, Ex_L, Fa_L⟩ := G
  obtain ⟨T1, X1, e1, st1⟩ := getF X0 hx hZ hown (host := "") (Or.inl (own_w hw 31 rfl)) Via.refl e0 F_ob0_value (g := (mkF m 1 #[.val (.ref ob0)] [(.ref ob0)])) rfl rfl (hb hby own_d6_1)
  obtain ⟨c2, Ar2, cq2, S2, Nn2, Hh2, Gg2⟩ := id V_ob0_value
  obtain ⟨cq3, kq3, q3a, q3b, q3c⟩ := isOf hZ e1 E_ob0
  obtain ⟨_, _, ⟨T3, L3, k3, n3⟩, -, X3, ⟨Lc3, hQ3, l3, y3, z3⟩, st3⟩ := X1.virtualBack hx (y := own_y5) (z := own_y5) hown (mvT hZ (own_w hw 37 rfl)) (mvT hZ (own_w hw 38 rfl)) (notFace_of_selects (args := #[]) (mvT hZ (own_w hw 40 rfl))) (mvT hZ (own_w hw 40 rfl)) (mvT hZ (own_w hw 39 rfl)) (by decide) (backOf (W := 1) (rmA5 l Z a0 hw [] ob0 ob0_value k_ob0_value  cs wf wK0 wK1 wK2 wK3 wL h0 n0 O0 G0 E_ob0 F_ob0_coder V_ob0_value F_ob0_value  ) hZ (own_w hw 41 rfl) (own_w hw 4 rfl) (by decide) (by decide)) q3a q3c (g := (mkF m 6 #[.val (.ref ob0)] [(.ref ob0), (.int (1 : Int32))])) rfl (by rw [hml]; rfl) (Steps.refl _) (argsL := []) (rest := [(.int (1 : Int32))]) (lenOf own_pd2 rfl) rfl (by show 2 * 0 + _ ≤ _; exact Nat.le_of_eq rfl) (hb hby own_d6_6) (fun _ _ => ⟨rfl, e1, (by decide : 0 + 0 ≤ _), (by decide : 0 + 0 ≤ _)⟩)
  dsimp only [Pt.U, Pt.locs, Pt.cells, Pt.slots] at X3 l3 y3 z3 st3 hQ3
  subst l3 y3 z3
  obtain ⟨rfl, Nq3, e3⟩ := hQ3
  have N3 := Fr.app N0 Nq3
  have g4 : ∀ t, Steps p.tables e below (T3.setTop (mkF m 10 #[.val (.ref ob0)] [(.int (1 : Int32))])) t → Steps p.tables e below (s₁.setTop (entryFrame m #[(.ref ob0)] 1)) t := by
    intro t k
    refine g0 t ?_
    show Steps p.tables e below (s₁.setTop (mkF m 0 #[.val (.ref ob0)] [])) _
    refine XS.aloadN X0.here hx rfl (hb hby own_d6_0) rfl rfl ?_
    refine st1 _ ?_
    show Steps p.tables e below (T1.setTop (mkF m 4 #[.val (.ref ob0)] [(.ref ob0_value)])) _
    refine X1.arraylength hx (by rw [e1]; exact Ar2.1) (State.isArrayOf_alike hZ.alike Ar2.2.1) (g := (mkF m 4 #[.val (.ref ob0)] [(.ref ob0_value)])) rfl rfl (hb hby own_d6_4) _ ?_
    rw [len_of S2 Nn2]
    refine XS.aloadN X1.here hx rfl (hb hby own_d6_5) rfl rfl ?_
    refine st3.trans ?_
    show Steps p.tables e below (T3.setTop (mkF m 9 #[.val (.ref ob0)] [(.int (0 : Int32)), (.int (1 : Int32))])) _
    refine XS.ishr X3.here hx rfl (hb hby own_d6_9) rfl ?_
    rw [show ((1 : Int32) >>> ((0 : Int32) &&& 31)) = (1 : Int32) from by decide]
    exact k
  obtain ⟨fs, hrt, hrun, hended, hW, hsame⟩ := X3.leave (v := some (.int (1 : Int32))) (fun h => by rw [Bd.returns] at h; cases h)
  refine ⟨_, _, g4 _ ?_, hrun, hended, _, _, rfl, ?_, ⟨_, rfl⟩, hW, hsame.mono (by decide) (by decide)⟩
  · show Steps p.tables e below (T3.setTop (mkF m 10 #[.val (.ref ob0)] [(.int (1 : Int32))])) _
    exact retI X3 hx Bd.returns (hb hby own_d6_10) hrt
  · show own_Q_rmA4 Z ob0 ob0_value k_ob0_value cs wf wK0 wK1 wK2 wK3 wL h0 n0 _ T3.heap _
    rw [e3]
    exact ⟨rfl, N3, rfl⟩
theorem own_pd3 : parseMethodDescriptor "()I" = some ⟨[], some .int⟩ := by decide +kernel
theorem own_d4_21 : decode prog_31_method_9_code 21 = .ok (.sipush 253, 3) := by decide +kernel
theorem own_d4_24 : decode prog_31_method_9_code 24 = .ok (.if_icmp .le 13, 3) := by decide +kernel
theorem own_d4_37 : decode prog_31_method_9_code 37 = .ok (.aload_n 0, 1) := by decide +kernel
theorem own_d4_38 : decode prog_31_method_9_code 38 = .ok (.bipush 58, 2) := by decide +kernel
theorem own_d4_40 : decode prog_31_method_9_code 40 = .ok (.invokevirtual 57, 3) := by decide +kernel
abbrev own_y6 : MethodName := ⟨"java/lang/String", "indexOf", "(I)I"⟩
theorem own_ef8 (m : MethodId) (x0 : Addr) (x1 : Int32) : entryFrame m #[(.ref x0), (.int x1)] 2 = mkF m 0 #[.val (.ref x0), .val (.int x1)] [] := by first | (simp [entryFrame, mkF, argsToLocals, Value.category]; done) | rfl
theorem own_d8_0 : decode jdk_42_method_79_code 0 = .ok (.aload_n 0, 1) := by decide +kernel
theorem own_d8_1 : decode jdk_42_method_79_code 1 = .ok (.iload_n 1, 1) := by decide +kernel
theorem own_d8_2 : decode jdk_42_method_79_code 2 = .ok (.iconst 0, 1) := by decide +kernel
theorem own_d8_3 : decode jdk_42_method_79_code 3 = .ok (.invokevirtual 633, 3) := by decide +kernel
abbrev own_y7 : MethodName := ⟨"java/lang/String", "indexOf", "(II)I"⟩
theorem own_ef9 (m : MethodId) (x0 : Addr) (x1 : Int32) (x2 : Int32) : entryFrame m #[(.ref x0), (.int x1), (.int x2)] 3 = mkF m 0 #[.val (.ref x0), .val (.int x1), .val (.int x2)] [] := by first | (simp [entryFrame, mkF, argsToLocals, Value.category]; done) | rfl
theorem own_d9_0 : decode jdk_42_method_80_code 0 = .ok (.aload_n 0, 1) := by decide +kernel
theorem own_d9_1 : decode jdk_42_method_80_code 1 = .ok (.invokevirtual 492, 3) := by decide +kernel
abbrev own_y8 : MethodName := ⟨"java/lang/String", "isLatin1", "()Z"⟩
theorem own_ef10 (m : MethodId) (x0 : Addr) : entryFrame m #[(.ref x0)] 1 = mkF m 0 #[.val (.ref x0)] [] := by first | (simp [entryFrame, mkF, argsToLocals, Value.category]; done) | rfl
theorem own_d10_0 : decode jdk_42_method_154_code 0 = .ok (.getstatic 38, 3) := by decide +kernel
theorem own_d10_3 : decode jdk_42_method_154_code 3 = .ok (.ifCond .eq 14, 3) := by decide +kernel
theorem own_d10_6 : decode jdk_42_method_154_code 6 = .ok (.aload_n 0, 1) := by decide +kernel
theorem own_d10_7 : decode jdk_42_method_154_code 7 = .ok (.getfield 15, 3) := by decide +kernel
theorem own_d10_10 : decode jdk_42_method_154_code 10 = .ok (.ifCond .ne 7, 3) := by decide +kernel
theorem own_d10_13 : decode jdk_42_method_154_code 13 = .ok (.iconst 1, 1) := by decide +kernel
theorem own_d10_14 : decode jdk_42_method_154_code 14 = .ok (.goto 4, 3) := by decide +kernel
theorem own_d10_18 : decode jdk_42_method_154_code 18 = .ok (.ireturn, 1) := by decide +kernel
def own_Q_rmA8 (Z : State) (ob0 : Addr) (ob0_value : Addr) (k_ob0_value : ClassId)  (cs : Int32) (wf : Value) (wK0 : Addr) (wK1 : Addr) (wK2 : Addr) (wK3 : Addr) (wL : Addr) (h0 : Heap) (n0 : Nat) (v : Option Value) (h : Heap) (L : List Loc) : Prop := v = some (.int (1 : Int32)) ∧ Fr n0 L ∧ h = h0
set_option maxRecDepth 65536 in
set_option maxHeartbeats 40000000 in
theorem rmA8 (l : Launch) (Z : State) (a0 : Array Value) (hw : ∀ d ∈ tables_1, d.before a0 Z = true) (ws : List Jvm.Cond) (ob0 : Addr) (ob0_value : Addr) (k_ob0_value : ClassId)  (cs : Int32) (wf : Value) (wK0 : Addr) (wK1 : Addr) (wK2 : Addr) (wK3 : Addr) (wL : Addr) (h0 : Heap) (n0 : Nat) (O0 : Old Z n0 h0) (G : own_Gl Z cs wf wK0 wK1 wK2 wK3 wL) (E_ob0 : Exa Z h0 ob0 "java/lang/String") (F_ob0_coder : Fld Z h0 ob0 "java/lang/String" "coder" "B" (.int (0 : Int32))) (V_ob0_value : Arv Z h0 ob0_value k_ob0_value .byte (1 : Int32) [(.int (104 : Int32))] (.int (0 : Int32))) (F_ob0_value : Fld Z h0 ob0 "java/lang/String" "value" "[B" (.ref ob0_value)) :
    MetFree l own_y8 (head1 (Jvm.Cond.code own_y8 jdk_42_method_154_code 1 (some .boolean) :: ws) ({ frames := 0, cells := 0, slots := 0, locals := 0 } : Room)) (fun a U => a = #[(.ref ob0)] ∧ Z.Warmed39 U.vm ∧ U.heap = h0) (fun _ _ _ _ _ => True) (fun _ U o U' => ∃ v L, o = .returned v ∧ own_Q_rmA8 Z ob0 ob0_value k_ob0_value cs wf wK0 wK1 wK2 wK3 wL h0 n0 v U'.heap L ∧ FrameEnd U o U' L ({ frames := 0, cells := 0, slots := 0, locals := 0 } : Room).cells ({ frames := 0, cells := 0, slots := 0, locals := 0 } : Room).slots) := by
  refine MetFree.of_bodySF (plainFor_of_name own_pn3) hisR ?_
  intro p e s m args below meth c s₁ Bd hml0 hP hK
  obtain ⟨rfl, hZ, hh⟩ := hP
  have hx := Bd.exec
  have hby := Bd.bytes
  have hml : c.maxLocals = 1 := hml0
  have hown : s.vm.findClass "java/lang/String" = some m.cls := findClass_of_methodNamed Bd.named
  have hnm := (name_of_methodNamed Bd.named Bd.method).1
  have X0 : Stand p l e ({ frames := 0, cells := 0, slots := 0, locals := 0 } : Room) s m #[(.ref ob0)] below meth c s₁ [] 0 0 := Stand.of_body Bd
  have e0 : s₁.heap = h0 := by rw [← hh, Bd.state]; rfl
  have N0 := Fr.nil n0
  have Z0 : n0 ≤ h0.size := O0.1 ▸ O0.2.1
  have g0 : ∀ t, Steps p.tables e below (s₁.setTop (mkF m 0 #[.val (.ref ob0)] [])) t → Steps p.tables e below (s₁.setTop (entryFrame m #[(.ref ob0)] 1)) t := fun t k => castTop (own_ef10 m (ob0)) k
  have G0 := G
  obtain ⟨S_CS, hcs, S_WF, hwf, S_PROPOSAL_ANSWER, S_HELLO, S_EVENT, S_PING, S_L, Ex_L, Fa_L⟩ := G
  obtain ⟨T1, X1, e1, st1⟩ := getS2 X0 hx hZ hown (host := "") (Or.inl (own_w hw 42 rfl)) Via.refl e0 (S_CS.ext O0.2) (g := (mkF m 0 #[.val (.ref ob0)] [])) rfl (hb hby own_d10_0)
  have hc2 : ¬ (cs = (0 : Int32)) := hcs
  obtain ⟨T3, X3, e3, st3⟩ := getF X1 hx hZ hown (host := "") (Or.inl (own_w hw 43 rfl)) Via.refl e1 F_ob0_coder (g := (mkF m 7 #[.val (.ref ob0)] [(.ref ob0)])) rfl rfl (hb hby own_d10_7)
  have g4 : ∀ t, Steps p.tables e below (T3.setTop (mkF m 18 #[.val (.ref ob0)] [(.int (1 : Int32))])) t → Steps p.tables e below (s₁.setTop (entryFrame m #[(.ref ob0)] 1)) t := by
    intro t k
    refine g0 t ?_
    show Steps p.tables e below (s₁.setTop (mkF m 0 #[.val (.ref ob0)] [])) _
    refine st1 _ ?_
    refine XS.ifNo X1.here hx rfl (hb hby own_d10_3) rfl ((if0 _ _).trans (feq hc2).1) ?_
    refine XS.aloadN X1.here hx rfl (hb hby own_d10_6) rfl rfl ?_
    refine st3 _ ?_
    refine XS.ifNo X3.here hx rfl (hb hby own_d10_10) rfl ((if0 _ _).trans (teq (by decide : (0 : Int32) = (0 : Int32))).2) ?_
    refine XS.iconst X3.here hx rfl (hb hby own_d10_13) ?_
    refine XS.goto X3.here hx rfl (pc0 := 14) (pc' := 18) rfl (hb hby own_d10_14) (by decide) (by decide) ?_
    exact k
  obtain ⟨fs, hrt, hrun, hended, hW, hsame⟩ := X3.leave (v := some (.int (1 : Int32))) (fun h => by rw [Bd.returns] at h; cases h)
  refine ⟨_, _, g4 _ ?_, hrun, hended, _, _, rfl, ?_, ⟨_, rfl⟩, hW, hsame.mono (by decide) (by decide)⟩
  · show Steps p.tables e below (T3.setTop (mkF m 18 #[.val (.ref ob0)] [(.int (1 : Int32))])) _
    exact retN X3 hx (t := .boolean) Bd.returns (by simp) (hb hby own_d10_18) hrt
  · show own_Q_rmA8 Z ob0 ob0_value k_ob0_value cs wf wK0 wK1 wK2 wK3 wL h0 n0 _ T3.heap _
    rw [e3]
    exact ⟨rfl, N0, rfl⟩
theorem own_d9_4 : decode jdk_42_method_80_code 4 = .ok (.ifCond .eq 19, 3) := by decide +kernel
theorem own_d9_7 : decode jdk_42_method_80_code 7 = .ok (.aload_n 0, 1) := by decide +kernel
theorem own_d9_8 : decode jdk_42_method_80_code 8 = .ok (.getfield 9, 3) := by decide +kernel
theorem own_d9_11 : decode jdk_42_method_80_code 11 = .ok (.iload_n 1, 1) := by decide +kernel
theorem own_d9_12 : decode jdk_42_method_80_code 12 = .ok (.iload_n 2, 1) := by decide +kernel
theorem own_d9_13 : decode jdk_42_method_80_code 13 = .ok (.aload_n 0, 1) := by decide +kernel
theorem own_d9_14 : decode jdk_42_method_80_code 14 = .ok (.invokevirtual 505, 3) := by decide +kernel
theorem own_d9_17 : decode jdk_42_method_80_code 17 = .ok (.invokestatic 637, 3) := by decide +kernel
abbrev own_y9 : MethodName := ⟨"java/lang/StringLatin1", "indexOf", "([BIII)I"⟩
theorem own_ef11 (m : MethodId) (x0 : Addr) (x1 : Int32) (x2 : Int32) (x3 : Int32) : entryFrame m #[(.ref x0), (.int x1), (.int x2), (.int x3)] 4 = mkF m 0 #[.val (.ref x0), .val (.int x1), .val (.int x2), .val (.int x3)] [] := by first | (simp [entryFrame, mkF, argsToLocals, Value.category]; done) | rfl
theorem own_pn4 : plainName "java/lang/StringLatin1" = true := by first | (simp [plainName, overriddenIn]; done) | decide +kernel
theorem own_d11_0 : decode jdk_43_method_22_code 0 = .ok (.iload_n 1, 1) := by decide +kernel
theorem own_d11_1 : decode jdk_43_method_22_code 1 = .ok (.invokestatic 88, 3) := by decide +kernel
abbrev own_y10 : MethodName := ⟨"java/lang/StringLatin1", "canEncode", "(I)Z"⟩
theorem own_ef12 (m : MethodId) (x0 : Int32) : entryFrame m #[(.int x0)] 1 = mkF m 0 #[.val (.int x0)] [] := by first | (simp [entryFrame, mkF, argsToLocals, Value.category]; done) | rfl
theorem own_d12_0 : decode jdk_43_method_4_code 0 = .ok (.iload_n 0, 1) := by decide +kernel
theorem own_d12_1 : decode jdk_43_method_4_code 1 = .ok (.ifCond .lt 14, 3) := by decide +kernel
theorem own_d12_4 : decode jdk_43_method_4_code 4 = .ok (.iload_n 0, 1) := by decide +kernel
theorem own_d12_5 : decode jdk_43_method_4_code 5 = .ok (.sipush 255, 3) := by decide +kernel
theorem own_d12_8 : decode jdk_43_method_4_code 8 = .ok (.if_icmp .gt 7, 3) := by decide +kernel
theorem own_d12_11 : decode jdk_43_method_4_code 11 = .ok (.iconst 1, 1) := by decide +kernel
theorem own_d12_12 : decode jdk_43_method_4_code 12 = .ok (.goto 4, 3) := by decide +kernel
theorem own_d12_16 : decode jdk_43_method_4_code 16 = .ok (.ireturn, 1) := by decide +kernel
def own_Q_rmA10 (Z : State)   (cs : Int32) (wf : Value) (wK0 : Addr) (wK1 : Addr) (wK2 : Addr) (wK3 : Addr) (wL : Addr) (h0 : Heap) (n0 : Nat) (v : Option Value) (h : Heap) (L : List Loc) : Prop := v = some (.int (1 : Int32)) ∧ Fr n0 L ∧ h = h0
set_option maxRecDepth 65536 in
set_option maxHeartbeats 40000000 in
theorem rmA10 (l : Launch) (Z : State) (a0 : Array Value) (hw : ∀ d ∈ tables_1, d.before a0 Z = true) (ws : List Jvm.Cond)   (cs : Int32) (wf : Value) (wK0 : Addr) (wK1 : Addr) (wK2 : Addr) (wK3 : Addr) (wL : Addr) (h0 : Heap) (n0 : Nat) (O0 : Old Z n0 h0) (G : own_Gl Z cs wf wK0 wK1 wK2 wK3 wL) :
    MetFree l own_y10 (head1 (Jvm.Cond.code own_y10 jdk_43_method_4_code 1 (some .boolean) :: ws) ({ frames := 0, cells := 0, slots := 0, locals := 0 } : Room)) (fun a U => a = #[(.int (58 : Int32))] ∧ Z.Warmed39 U.vm ∧ U.heap = h0) (fun _ _ _ _ _ => True) (fun _ U o U' => ∃ v L, o = .returned v ∧ own_Q_rmA10 Z cs wf wK0 wK1 wK2 wK3 wL h0 n0 v U'.heap L ∧ FrameEnd U o U' L ({ frames := 0, cells := 0, slots := 0, locals := 0 } : Room).cells ({ frames := 0, cells := 0, slots := 0, locals := 0 } : Room).slots) := by
  refine MetFree.of_bodySF (plainFor_of_name own_pn4) hisR ?_
  intro p e s m args below meth c s₁ Bd hml0 hP hK
  obtain ⟨rfl, hZ, hh⟩ := hP
  have hx := Bd.exec
  have hby := Bd.bytes
  have hml : c.maxLocals = 1 := hml0
  have hown : s.vm.findClass "java/lang/StringLatin1" = some m.cls := findClass_of_methodNamed Bd.named
  have hnm := (name_of_methodNamed Bd.named Bd.method).1
  have X0 : Stand p l e ({ frames := 0, cells := 0, slots := 0, locals := 0 } : Room) s m #[(.int (58 : Int32))] below meth c s₁ [] 0 0 := Stand.of_body Bd
  have e0 : s₁.heap = h0 := by rw [← hh, Bd.state]; rfl
  have N0 := Fr.nil n0
  have Z0 : n0 ≤ h0.size := O0.1 ▸ O0.2.1
  have g0 : ∀ t, Steps p.tables e below (s₁.setTop (mkF m 0 #[.val (.int (58 : Int32))] [])) t → Steps p.tables e below (s₁.setTop (entryFrame m #[(.int (58 : Int32))] 1)) t := fun t k => castTop (own_ef12 m ((58 : Int32))) k
  have G0 := G
  obtain ⟨S_CS, hcs, S_WF, hwf, S_PROPOSAL_ANSWER, S_HELLO, S_EVENT, S_PING, S_L, Ex_L, Fa_L⟩ := G
  have g1 : ∀ t, Steps p.tables e below (s₁.setTop (mkF m 16 #[.val (.int (58 : Int32))] [(.int (1 : Int32))])) t → Steps p.tables e below (s₁.setTop (entryFrame m #[(.int (58 : Int32))] 1)) t := by
    intro t k
    refine g0 t ?_
    show Steps p.tables e below (s₁.setTop (mkF m 0 #[.val (.int (58 : Int32))] [])) _
    refine XS.iloadN X0.here hx rfl (hb hby own_d12_0) rfl ?_
    refine XS.ifNo X0.here hx rfl (hb hby own_d12_1) rfl ((if0 _ _).trans (flt (by decide : ¬ ((58 : Int32) < (0 : Int32)))).1) ?_
    refine XS.iloadN X0.here hx rfl (hb hby own_d12_4) rfl ?_
    refine XS.sipush X0.here hx rfl (hb hby own_d12_5) ?_
    refine XS.icmpNo X0.here hx rfl (hb hby own_d12_8) rfl (flt (by decide : ¬ ((255 : Int32) < (58 : Int32)))).2.2.1 ?_
    refine XS.iconst X0.here hx rfl (hb hby own_d12_11) ?_
    refine XS.goto X0.here hx rfl (pc0 := 12) (pc' := 16) rfl (hb hby own_d12_12) (by decide) (by decide) ?_
    exact k
  obtain ⟨fs, hrt, hrun, hended, hW, hsame⟩ := X0.leave (v := some (.int (1 : Int32))) (fun h => by rw [Bd.returns] at h; cases h)
  refine ⟨_, _, g1 _ ?_, hrun, hended, _, _, rfl, ?_, ⟨_, rfl⟩, hW, hsame.mono (by decide) (by decide)⟩
  · show Steps p.tables e below (s₁.setTop (mkF m 16 #[.val (.int (58 : Int32))] [(.int (1 : Int32))])) _
    exact retN X0 hx (t := .boolean) Bd.returns (by simp) (hb hby own_d12_16) hrt
  · show own_Q_rmA10 Z cs wf wK0 wK1 wK2 wK3 wL h0 n0 _ s₁.heap _
    rw [e0]
    exact ⟨rfl, N0, rfl⟩
theorem own_pd4 : parseMethodDescriptor "(I)Z" = some ⟨[.int], some .boolean⟩ := by decide +kernel
theorem own_d11_4 : decode jdk_43_method_22_code 4 = .ok (.ifCond .ne 5, 3) := by decide +kernel
theorem own_d11_9 : decode jdk_43_method_22_code 9 = .ok (.iload_n 2, 1) := by decide +kernel
theorem own_d11_10 : decode jdk_43_method_22_code 10 = .ok (.iconst 0, 1) := by decide +kernel
theorem own_d11_11 : decode jdk_43_method_22_code 11 = .ok (.invokestatic 92, 3) := by decide +kernel
abbrev own_y11 : MethodName := ⟨"java/lang/Math", "max", "(II)I"⟩
theorem own_ef13 (m : MethodId) (x0 : Int32) (x1 : Int32) : entryFrame m #[(.int x0), (.int x1)] 2 = mkF m 0 #[.val (.int x0), .val (.int x1)] [] := by first | (simp [entryFrame, mkF, argsToLocals, Value.category]; done) | rfl
theorem own_d13_0 : decode jdk_29_method_65_code 0 = .ok (.iload_n 0, 1) := by decide +kernel
theorem own_d13_1 : decode jdk_29_method_65_code 1 = .ok (.iload_n 1, 1) := by decide +kernel
theorem own_d13_2 : decode jdk_29_method_65_code 2 = .ok (.if_icmp .lt 7, 3) := by decide +kernel
theorem own_d13_5 : decode jdk_29_method_65_code 5 = .ok (.iload_n 0, 1) := by decide +kernel
theorem own_d13_6 : decode jdk_29_method_65_code 6 = .ok (.goto 4, 3) := by decide +kernel
theorem own_d13_10 : decode jdk_29_method_65_code 10 = .ok (.ireturn, 1) := by decide +kernel
def own_Q_rmA11 (Z : State)   (cs : Int32) (wf : Value) (wK0 : Addr) (wK1 : Addr) (wK2 : Addr) (wK3 : Addr) (wL : Addr) (h0 : Heap) (n0 : Nat) (v : Option Value) (h : Heap) (L : List Loc) : Prop := v = some (.int (0 : Int32)) ∧ Fr n0 L ∧ h = h0
set_option maxRecDepth 65536 in
set_option maxHeartbeats 40000000 in
theorem rmA11 (l : Launch) (Z : State) (a0 : Array Value) (hw : ∀ d ∈ tables_1, d.before a0 Z = true) (ws : List Jvm.Cond)   (cs : Int32) (wf : Value) (wK0 : Addr) (wK1 : Addr) (wK2 : Addr) (wK3 : Addr) (wL : Addr) (h0 : Heap) (n0 : Nat) (O0 : Old Z n0 h0) (G : own_Gl Z cs wf wK0 wK1 wK2 wK3 wL) :
    MetFree l own_y11 (head1 (Jvm.Cond.code own_y11 jdk_29_method_65_code 2 (some .int) :: ws) ({ frames := 0, cells := 0, slots := 0, locals := 0 } : Room)) (fun a U => a = #[(.int (0 : Int32)), (.int (0 : Int32))] ∧ Z.Warmed39 U.vm ∧ U.heap = h0) (fun _ _ _ _ _ => True) (fun _ U o U' => ∃ v L, o = .returned v ∧ own_Q_rmA11 Z cs wf wK0 wK1 wK2 wK3 wL h0 n0 v U'.heap L ∧ FrameEnd U o U' L ({ frames := 0, cells := 0, slots := 0, locals := 0 } : Room).cells ({ frames := 0, cells := 0, slots := 0, locals := 0 } : Room).slots) := by
  refine MetFree.of_bodySF (Jvm.Free.JP.mathPlain rfl (by decide +kernel)) hisR ?_
  intro p e s m args below meth c s₁ Bd hml0 hP hK
  obtain ⟨rfl, hZ, hh⟩ := hP
  have hx := Bd.exec
  have hby := Bd.bytes
  have hml : c.maxLocals = 2 := hml0
  have hown : s.vm.findClass "java/lang/Math" = some m.cls := findClass_of_methodNamed Bd.named
  have hnm := (name_of_methodNamed Bd.named Bd.method).1
  have X0 : Stand p l e ({ frames := 0, cells := 0, slots := 0, locals := 0 } : Room) s m #[(.int (0 : Int32)), (.int (0 : Int32))] below meth c s₁ [] 0 0 := Stand.of_body Bd
  have e0 : s₁.heap = h0 := by rw [← hh, Bd.state]; rfl
  have N0 := Fr.nil n0
  have Z0 : n0 ≤ h0.size := O0.1 ▸ O0.2.1
  have g0 : ∀ t, Steps p.tables e below (s₁.setTop (mkF m 0 #[.val (.int (0 : Int32)), .val (.int (0 : Int32))] [])) t → Steps p.tables e below (s₁.setTop (entryFrame m #[(.int (0 : Int32)), (.int (0 : Int32))] 2)) t := fun t k => castTop (own_ef13 m ((0 : Int32)) ((0 : Int32))) k
  have G0 := G
  obtain ⟨S_CS, hcs, S_WF, hwf, S_PROPOSAL_ANSWER, S_HELLO, S_EVENT, S_PING, S_L, Ex_L, Fa_L⟩ := G
  have g1 : ∀ t, Steps p.tables e below (s₁.setTop (mkF m 10 #[.val (.int (0 : Int32)), .val (.int (0 : Int32))] [(.int (0 : Int32))])) t → Steps p.tables e below (s₁.setTop (entryFrame m #[(.int (0 : Int32)), (.int (0 : Int32))] 2)) t := by
    intro t k
    refine g0 t ?_
    show Steps p.tables e below (s₁.setTop (mkF m 0 #[.val (.int (0 : Int32)), .val (.int (0 : Int32))] [])) _
    refine XS.iloadN X0.here hx rfl (hb hby own_d13_0) rfl ?_
    refine XS.iloadN X0.here hx rfl (hb hby own_d13_1) rfl ?_
    refine XS.icmpNo X0.here hx rfl (hb hby own_d13_2) rfl (flt (by decide : ¬ ((0 : Int32) < (0 : Int32)))).1 ?_
    refine XS.iloadN X0.here hx rfl (hb hby own_d13_5) rfl ?_
    refine XS.goto X0.here hx rfl (pc0 := 6) (pc' := 10) rfl (hb hby own_d13_6) (by decide) (by decide) ?_
    exact k
  obtain ⟨fs, hrt, hrun, hended, hW, hsame⟩ := X0.leave (v := some (.int (0 : Int32))) (fun h => by rw [Bd.returns] at h; cases h)
  refine ⟨_, _, g1 _ ?_, hrun, hended, _, _, rfl, ?_, ⟨_, rfl⟩, hW, hsame.mono (by decide) (by decide)⟩
  · show Steps p.tables e below (s₁.setTop (mkF m 10 #[.val (.int (0 : Int32)), .val (.int (0 : Int32))] [(.int (0 : Int32))])) _
    exact retI X0 hx Bd.returns (hb hby own_d13_10) hrt
  · show own_Q_rmA11 Z cs wf wK0 wK1 wK2 wK3 wL h0 n0 _ s₁.heap _
    rw [e0]
    exact ⟨rfl, N0, rfl⟩
theorem own_pd5 : parseMethodDescriptor "(II)I" = some ⟨[.int, .int], some .int⟩ := by decide +kernel
theorem own_d11_14 : decode jdk_43_method_22_code 14 = .ok (.istore_n 2, 1) := by decide +kernel
theorem own_d11_15 : decode jdk_43_method_22_code 15 = .ok (.iload_n 3, 1) := by decide +kernel
theorem own_d11_16 : decode jdk_43_method_22_code 16 = .ok (.aload_n 0, 1) := by decide +kernel
theorem own_d11_17 : decode jdk_43_method_22_code 17 = .ok (.arraylength, 1) := by decide +kernel
theorem own_d11_18 : decode jdk_43_method_22_code 18 = .ok (.invokestatic 38, 3) := by decide +kernel
abbrev own_y12 : MethodName := ⟨"java/lang/Math", "min", "(II)I"⟩
theorem own_ef14 (m : MethodId) (x0 : Int32) (x1 : Int32) : entryFrame m #[(.int x0), (.int x1)] 2 = mkF m 0 #[.val (.int x0), .val (.int x1)] [] := by first | (simp [entryFrame, mkF, argsToLocals, Value.category]; done) | rfl
theorem own_d14_0 : decode jdk_29_method_69_code 0 = .ok (.iload_n 0, 1) := by decide +kernel
theorem own_d14_1 : decode jdk_29_method_69_code 1 = .ok (.iload_n 1, 1) := by decide +kernel
theorem own_d14_2 : decode jdk_29_method_69_code 2 = .ok (.if_icmp .gt 7, 3) := by decide +kernel
theorem own_d14_5 : decode jdk_29_method_69_code 5 = .ok (.iload_n 0, 1) := by decide +kernel
theorem own_d14_6 : decode jdk_29_method_69_code 6 = .ok (.goto 4, 3) := by decide +kernel
theorem own_d14_10 : decode jdk_29_method_69_code 10 = .ok (.ireturn, 1) := by decide +kernel
def own_Q_rmA12 (Z : State)   (cs : Int32) (wf : Value) (wK0 : Addr) (wK1 : Addr) (wK2 : Addr) (wK3 : Addr) (wL : Addr) (h0 : Heap) (n0 : Nat) (v : Option Value) (h : Heap) (L : List Loc) : Prop := v = some (.int (1 : Int32)) ∧ Fr n0 L ∧ h = h0
set_option maxRecDepth 65536 in
set_option maxHeartbeats 40000000 in
theorem rmA12 (l : Launch) (Z : State) (a0 : Array Value) (hw : ∀ d ∈ tables_1, d.before a0 Z = true) (ws : List Jvm.Cond)   (cs : Int32) (wf : Value) (wK0 : Addr) (wK1 : Addr) (wK2 : Addr) (wK3 : Addr) (wL : Addr) (h0 : Heap) (n0 : Nat) (O0 : Old Z n0 h0) (G : own_Gl Z cs wf wK0 wK1 wK2 wK3 wL) :
    MetFree l own_y12 (head1 (Jvm.Cond.code own_y12 jdk_29_method_69_code 2 (some .int) :: ws) ({ frames := 0, cells := 0, slots := 0, locals := 0 } : Room)) (fun a U => a = #[(.int (1 : Int32)), (.int (1 : Int32))] ∧ Z.Warmed39 U.vm ∧ U.heap = h0) (fun _ _ _ _ _ => True) (fun _ U o U' => ∃ v L, o = .returned v ∧ own_Q_rmA12 Z cs wf wK0 wK1 wK2 wK3 wL h0 n0 v U'.heap L ∧ FrameEnd U o U' L ({ frames := 0, cells := 0, slots := 0, locals := 0 } : Room).cells ({ frames := 0, cells := 0, slots := 0, locals := 0 } : Room).slots) := by
  refine MetFree.of_bodySF (Jvm.Free.JP.mathPlain rfl (by decide +kernel)) hisR ?_
  intro p e s m args below meth c s₁ Bd hml0 hP hK
  obtain ⟨rfl, hZ, hh⟩ := hP
  have hx := Bd.exec
  have hby := Bd.bytes
  have hml : c.maxLocals = 2 := hml0
  have hown : s.vm.findClass "java/lang/Math" = some m.cls := findClass_of_methodNamed Bd.named
  have hnm := (name_of_methodNamed Bd.named Bd.method).1
  have X0 : Stand p l e ({ frames := 0, cells := 0, slots := 0, locals := 0 } : Room) s m #[(.int (1 : Int32)), (.int (1 : Int32))] below meth c s₁ [] 0 0 := Stand.of_body Bd
  have e0 : s₁.heap = h0 := by rw [← hh, Bd.state]; rfl
  have N0 := Fr.nil n0
  have Z0 : n0 ≤ h0.size := O0.1 ▸ O0.2.1
  have g0 : ∀ t, Steps p.tables e below (s₁.setTop (mkF m 0 #[.val (.int (1 : Int32)), .val (.int (1 : Int32))] [])) t → Steps p.tables e below (s₁.setTop (entryFrame m #[(.int (1 : Int32)), (.int (1 : Int32))] 2)) t := fun t k => castTop (own_ef14 m ((1 : Int32)) ((1 : Int32))) k
  have G0 := G
  obtain ⟨S_CS, hcs, S_WF, hwf, S_PROPOSAL_ANSWER, S_HELLO, S_EVENT, S_PING, S_L, Ex_L, Fa_L⟩ := G
  have g1 : ∀ t, Steps p.tables e below (s₁.setTop (mkF m 10 #[.val (.int (1 : Int32)), .val (.int (1 : Int32))] [(.int (1 : Int32))])) t → Steps p.tables e below (s₁.setTop (entryFrame m #[(.int (1 : Int32)), (.int (1 : Int32))] 2)) t := by
    intro t k
    refine g0 t ?_
    show Steps p.tables e below (s₁.setTop (mkF m 0 #[.val (.int (1 : Int32)), .val (.int (1 : Int32))] [])) _
    refine XS.iloadN X0.here hx rfl (hb hby own_d14_0) rfl ?_
    refine XS.iloadN X0.here hx rfl (hb hby own_d14_1) rfl ?_
    refine XS.icmpNo X0.here hx rfl (hb hby own_d14_2) rfl (flt (by decide : ¬ ((1 : Int32) < (1 : Int32)))).2.2.1 ?_
    refine XS.iloadN X0.here hx rfl (hb hby own_d14_5) rfl ?_
    refine XS.goto X0.here hx rfl (pc0 := 6) (pc' := 10) rfl (hb hby own_d14_6) (by decide) (by decide) ?_
    exact k
  obtain ⟨fs, hrt, hrun, hended, hW, hsame⟩ := X0.leave (v := some (.int (1 : Int32))) (fun h => by rw [Bd.returns] at h; cases h)
  refine ⟨_, _, g1 _ ?_, hrun, hended, _, _, rfl, ?_, ⟨_, rfl⟩, hW, hsame.mono (by decide) (by decide)⟩
  · show Steps p.tables e below (s₁.setTop (mkF m 10 #[.val (.int (1 : Int32)), .val (.int (1 : Int32))] [(.int (1 : Int32))])) _
    exact retI X0 hx Bd.returns (hb hby own_d14_10) hrt
  · show own_Q_rmA12 Z cs wf wK0 wK1 wK2 wK3 wL h0 n0 _ s₁.heap _
    rw [e0]
    exact ⟨rfl, N0, rfl⟩
theorem own_d11_21 : decode jdk_43_method_22_code 21 = .ok (.istore_n 3, 1) := by decide +kernel
theorem own_d11_22 : decode jdk_43_method_22_code 22 = .ok (.iload_n 2, 1) := by decide +kernel
theorem own_d11_23 : decode jdk_43_method_22_code 23 = .ok (.iload_n 3, 1) := by decide +kernel
theorem own_d11_24 : decode jdk_43_method_22_code 24 = .ok (.if_icmp .lt 5, 3) := by decide +kernel
theorem own_d11_29 : decode jdk_43_method_22_code 29 = .ok (.aload_n 0, 1) := by decide +kernel
theorem own_d11_30 : decode jdk_43_method_22_code 30 = .ok (.iload_n 1, 1) := by decide +kernel
theorem own_d11_31 : decode jdk_43_method_22_code 31 = .ok (.iload_n 2, 1) := by decide +kernel
theorem own_d11_32 : decode jdk_43_method_22_code 32 = .ok (.iload_n 3, 1) := by decide +kernel
theorem own_d11_33 : decode jdk_43_method_22_code 33 = .ok (.invokestatic 95, 3) := by decide +kernel
abbrev own_y13 : MethodName := ⟨"java/lang/StringLatin1", "indexOfChar", "([BIII)I"⟩
theorem own_ef15 (m : MethodId) (x0 : Addr) (x1 : Int32) (x2 : Int32) (x3 : Int32) : entryFrame m #[(.ref x0), (.int x1), (.int x2), (.int x3)] 6 = mkF m 0 #[.val (.ref x0), .val (.int x1), .val (.int x2), .val (.int x3), .unset, .unset] [] := by first | (simp [entryFrame, mkF, argsToLocals, Value.category]; done) | rfl
theorem own_d15_0 : decode jdk_43_method_23_code 0 = .ok (.iload_n 1, 1) := by decide +kernel
theorem own_d15_1 : decode jdk_43_method_23_code 1 = .ok (.i2b, 1) := by decide +kernel
theorem own_d15_2 : decode jdk_43_method_23_code 2 = .ok (.istore 4, 2) := by decide +kernel
theorem own_d15_4 : decode jdk_43_method_23_code 4 = .ok (.iload_n 2, 1) := by decide +kernel
theorem own_d15_5 : decode jdk_43_method_23_code 5 = .ok (.istore 5, 2) := by decide +kernel
theorem own_d15_7 : decode jdk_43_method_23_code 7 = .ok (.iload 5, 2) := by decide +kernel
theorem own_d15_9 : decode jdk_43_method_23_code 9 = .ok (.iload_n 3, 1) := by decide +kernel
theorem own_d15_10 : decode jdk_43_method_23_code 10 = .ok (.if_icmp .ge 21, 3) := by decide +kernel
theorem own_d15_13 : decode jdk_43_method_23_code 13 = .ok (.aload_n 0, 1) := by decide +kernel
theorem own_d15_14 : decode jdk_43_method_23_code 14 = .ok (.iload 5, 2) := by decide +kernel
theorem own_d15_16 : decode jdk_43_method_23_code 16 = .ok (.baload, 1) := by decide +kernel
theorem own_d15_17 : decode jdk_43_method_23_code 17 = .ok (.iload 4, 2) := by decide +kernel
theorem own_d15_19 : decode jdk_43_method_23_code 19 = .ok (.if_icmp .ne 6, 3) := by decide +kernel
theorem own_d15_25 : decode jdk_43_method_23_code 25 = .ok (.iinc 5 1, 3) := by decide +kernel
theorem own_d15_28 : decode jdk_43_method_23_code 28 = .ok (.goto (-21), 3) := by decide +kernel
theorem own_d15_31 : decode jdk_43_method_23_code 31 = .ok (.iconst (-1), 1) := by decide +kernel
theorem own_d15_32 : decode jdk_43_method_23_code 32 = .ok (.ireturn, 1) := by decide +kernel
def own_Q_rmA13 (Z : State) (ob0 : Addr) (k_ob0 : ClassId)  (cs : Int32) (wf : Value) (wK0 : Addr) (wK1 : Addr) (wK2 : Addr) (wK3 : Addr) (wL : Addr) (h0 : Heap) (n0 : Nat) (v : Option Value) (h : Heap) (L : List Loc) : Prop := v = some (.int (-1 : Int32)) ∧ Fr n0 L ∧ h = h0
set_option maxRecDepth 65536 in
set_option maxHeartbeats 40000000 in
theorem rmA13 (l : Launch) (Z : State) (a0 : Array Value) (hw : ∀ d ∈ tables_1, d.before a0 Z = true) (ws : List Jvm.Cond) (ob0 : Addr) (k_ob0 : ClassId)  (cs : Int32) (wf : Value) (wK0 : Addr) (wK1 : Addr) (wK2 : Addr) (wK3 : Addr) (wL : Addr) (h0 : Heap) (n0 : Nat) (O0 : Old Z n0 h0) (G : own_Gl Z cs wf wK0 wK1 wK2 wK3 wL) (V_ob0 : Arv Z h0 ob0 k_ob0 .byte (1 : Int32) [(.int (104 : Int32))] (.int (0 : Int32))) :
    MetFree l own_y13 (head1 (Jvm.Cond.code own_y13 jdk_43_method_23_code 6 (some .int) :: ws) ({ frames := 0, cells := 0, slots := 0, locals := 0 } : Room)) (fun a U => a = #[(.ref ob0), (.int (58 : Int32)), (.int (0 : Int32)), (.int (1 : Int32))] ∧ Z.Warmed39 U.vm ∧ U.heap = h0) (fun _ _ _ _ _ => True) (fun _ U o U' => ∃ v L, o = .returned v ∧ own_Q_rmA13 Z ob0 k_ob0 cs wf wK0 wK1 wK2 wK3 wL h0 n0 v U'.heap L ∧ FrameEnd U o U' L ({ frames := 0, cells := 0, slots := 0, locals := 0 } : Room).cells ({ frames := 0, cells := 0, slots := 0, locals := 0 } : Room).slots) := by
  refine MetFree.of_bodySF (plainFor_of_name own_pn4) hisR ?_
  intro p e s m args below meth c s₁ Bd hml0 hP hK
  obtain ⟨rfl, hZ, hh⟩ := hP
  have hx := Bd.exec
  have hby := Bd.bytes
  have hml : c.maxLocals = 6 := hml0
  have hown : s.vm.findClass "java/lang/StringLatin1" = some m.cls := findClass_of_methodNamed Bd.named
  have hnm := (name_of_methodNamed Bd.named Bd.method).1
  have X0 : Stand p l e ({ frames := 0, cells := 0, slots := 0, locals := 0 } : Room) s m #[(.ref ob0), (.int (58 : Int32)), (.int (0 : Int32)), (.int (1 : Int32))] below meth c s₁ [] 0 0 := Stand.of_body Bd
  have e0 : s₁.heap = h0 := by rw [← hh, Bd.state]; rfl
  have N0 := Fr.nil n0
  have Z0 : n0 ≤ h0.size := O0.1 ▸ O0.2.1
  have g0 : ∀ t, Steps p.tables e below (s₁.setTop (mkF m 0 #[.val (.ref ob0), .val (.int (58 : Int32)), .val (.int (0 : Int32)), .val (.int (1 : Int32)), .unset, .unset] [])) t → Steps p.tables e below (s₁.setTop (entryFrame m #[(.ref ob0), (.int (58 : Int32)), (.int (0 : Int32)), (.int (1 : Int32))] 6)) t := fun t k => castTop (own_ef15 m (ob0) ((58 : Int32)) ((0 : Int32)) ((1 : Int32))) k
  have G0 := G
  obtain ⟨S_CS, hcs, S_WF, hwf, S_PROPOSAL_ANSWER, S_HELLO, S_EVENT, S_PING, S_L, Ex_L, Fa_L⟩ := G
  obtain ⟨c1, Ar1, cq1, S1, Nn1, Hh1, Gg1⟩ := id V_ob0
  have hin1 : ¬ ((0 : Int32) < 0 ∨ c1.slots.size ≤ ((0 : Int32)).toNatClampNeg) := inb_of S1 ⟨by decide, by decide⟩
  have hat1 : c1.slots[((0 : Int32)).toNatClampNeg]? = some (.int (104 : Int32)) := Has.at Hh1 hin1 rfl
  have g2 : ∀ t, Steps p.tables e below (s₁.setTop (mkF m 32 #[.val (.ref ob0), .val (.int (58 : Int32)), .val (.int (0 : Int32)), .val (.int (1 : Int32)), .val (.int (58 : Int32)), .val (.int (1 : Int32))] [(.int (-1 : Int32))])) t → Steps p.tables e below (s₁.setTop (entryFrame m #[(.ref ob0), (.int (58 : Int32)), (.int (0 : Int32)), (.int (1 : Int32))] 6)) t := by
    intro t k
    refine g0 t ?_
    show Steps p.tables e below (s₁.setTop (mkF m 0 #[.val (.ref ob0), .val (.int (58 : Int32)), .val (.int (0 : Int32)), .val (.int (1 : Int32)), .unset, .unset] [])) _
    refine XS.iloadN X0.here hx rfl (hb hby own_d15_0) rfl ?_
    show Steps p.tables e below (s₁.setTop (mkF m 1 #[.val (.ref ob0), .val (.int (58 : Int32)), .val (.int (0 : Int32)), .val (.int (1 : Int32)), .unset, .unset] [(.int (58 : Int32))])) _
    refine XS.i2b X0.here hx rfl (hb hby own_d15_1) rfl ?_
    rw [show ((58 : Int32).toInt8.toInt32) = (58 : Int32) from by decide]
    refine XS.istore X0.here hx rfl (hb hby own_d15_2) rfl (l' := #[.val (.ref ob0), .val (.int (58 : Int32)), .val (.int (0 : Int32)), .val (.int (1 : Int32)), .val (.int (58 : Int32)), .unset]) rfl ?_
    refine XS.iloadN X0.here hx rfl (hb hby own_d15_4) rfl ?_
    refine XS.istore X0.here hx rfl (hb hby own_d15_5) rfl (l' := #[.val (.ref ob0), .val (.int (58 : Int32)), .val (.int (0 : Int32)), .val (.int (1 : Int32)), .val (.int (58 : Int32)), .val (.int (0 : Int32))]) rfl ?_
    refine XS.iload X0.here hx rfl (hb hby own_d15_7) rfl ?_
    refine XS.iloadN X0.here hx rfl (hb hby own_d15_9) rfl ?_
    refine XS.icmpNo X0.here hx rfl (hb hby own_d15_10) rfl (tlt (by decide : (0 : Int32) < (1 : Int32))).2.1 ?_
    show Steps p.tables e below (s₁.setTop (mkF m 13 #[.val (.ref ob0), .val (.int (58 : Int32)), .val (.int (0 : Int32)), .val (.int (1 : Int32)), .val (.int (58 : Int32)), .val (.int (0 : Int32))] [])) _
    refine XS.aloadN X0.here hx rfl (hb hby own_d15_13) rfl rfl ?_
    refine XS.iload X0.here hx rfl (hb hby own_d15_14) rfl ?_
    refine X0.baloadBytes hx (j := (0 : Int32)) (v := (.int (104 : Int32))) (by rw [e0]; exact Ar1.1) (State.isArrayOf_alike hZ.alike Ar1.2.1) Ar1.2.2 hin1 hat1 (g := (mkF m 16 #[.val (.ref ob0), .val (.int (58 : Int32)), .val (.int (0 : Int32)), .val (.int (1 : Int32)), .val (.int (58 : Int32)), .val (.int (0 : Int32))] [(.int (0 : Int32)), (.ref ob0)])) rfl rfl (hb hby own_d15_16) _ ?_
    refine XS.iload X0.here hx rfl (hb hby own_d15_17) rfl ?_
    refine XS.icmpYes X0.here hx rfl (pc0 := 19) (pc' := 25) rfl (hb hby own_d15_19) rfl (feq (by decide : ¬ ((104 : Int32) = (58 : Int32)))).2 (by decide) (by decide) ?_
    show Steps p.tables e below (s₁.setTop (mkF m 25 #[.val (.ref ob0), .val (.int (58 : Int32)), .val (.int (0 : Int32)), .val (.int (1 : Int32)), .val (.int (58 : Int32)), .val (.int (0 : Int32))] [])) _
    refine XS.iinc X0.here hx rfl (hb hby own_d15_25) rfl (l' := #[.val (.ref ob0), .val (.int (58 : Int32)), .val (.int (0 : Int32)), .val (.int (1 : Int32)), .val (.int (58 : Int32)), .val (.int ((0 : Int32) + (1 : Int32)))]) rfl ?_
    rw [show ((0 : Int32) + (1 : Int32)) = (1 : Int32) from by decide]
    refine XS.goto X0.here hx rfl (pc0 := 28) (pc' := 7) rfl (hb hby own_d15_28) (by decide) (by decide) ?_
    refine XS.iload X0.here hx rfl (hb hby own_d15_7) rfl ?_
    show Steps p.tables e below (s₁.setTop (mkF m 9 #[.val (.ref ob0), .val (.int (58 : Int32)), .val (.int (0 : Int32)), .val (.int (1 : Int32)), .val (.int (58 : Int32)), .val (.int (1 : Int32))] [(.int (1 : Int32))])) _
    refine XS.iloadN X0.here hx rfl (hb hby own_d15_9) rfl ?_
    refine XS.icmpYes X0.here hx rfl (pc0 := 10) (pc' := 31) rfl (hb hby own_d15_10) rfl (flt (by decide : ¬ ((1 : Int32) < (1 : Int32)))).2.1 (by decide) (by decide) ?_
    refine XS.iconst X0.here hx rfl (hb hby own_d15_31) ?_
    exact k
  obtain ⟨fs, hrt, hrun, hended, hW, hsame⟩ := X0.leave (v := some (.int (-1 : Int32))) (fun h => by rw [Bd.returns] at h; cases h)
  refine ⟨_, _, g2 _ ?_, hrun, hended, _, _, rfl, ?_, ⟨_, rfl⟩, hW, hsame.mono (by decide) (by decide)⟩
  · show Steps p.tables e below (s₁.setTop (mkF m 32 #[.val (.ref ob0), .val (.int (58 : Int32)), .val (.int (0 : Int32)), .val (.int (1 : Int32)), .val (.int (58 : Int32)), .val (.int (1 : Int32))] [(.int (-1 : Int32))])) _
    exact retI X0 hx Bd.returns (hb hby own_d15_32) hrt
  · show own_Q_rmA13 Z ob0 k_ob0 cs wf wK0 wK1 wK2 wK3 wL h0 n0 _ s₁.heap _
    rw [e0]
    exact ⟨rfl, N0, rfl⟩
theorem own_pd6 : parseMethodDescriptor "([BIII)I" = some ⟨[(.array .byte), .int, .int, .int], some .int⟩ := by decide +kernel
theorem own_d11_36 : decode jdk_43_method_22_code 36 = .ok (.ireturn, 1) := by decide +kernel
def own_Q_rmA9 (Z : State) (ob0 : Addr) (k_ob0 : ClassId)  (cs : Int32) (wf : Value) (wK0 : Addr) (wK1 : Addr) (wK2 : Addr) (wK3 : Addr) (wL : Addr) (h0 : Heap) (n0 : Nat) (v : Option Value) (h : Heap) (L : List Loc) : Prop := v = some (.int (-1 : Int32)) ∧ Fr n0 L ∧ h = h0
set_option maxRecDepth 65536 in
set_option maxHeartbeats 40000000 in
theorem rmA9 (l : Launch) (Z : State) (a0 : Array Value) (hw : ∀ d ∈ tables_1, d.before a0 Z = true) (ws : List Jvm.Cond) (ob0 : Addr) (k_ob0 : ClassId)  (cs : Int32) (wf : Value) (wK0 : Addr) (wK1 : Addr) (wK2 : Addr) (wK3 : Addr) (wL : Addr) (h0 : Heap) (n0 : Nat) (O0 : Old Z n0 h0) (G : own_Gl Z cs wf wK0 wK1 wK2 wK3 wL) (V_ob0 : Arv Z h0 ob0 k_ob0 .byte (1 : Int32) [(.int (104 : Int32))] (.int (0 : Int32))) :
    MetFree l own_y9 (head1 (Jvm.Cond.code own_y9 jdk_43_method_22_code 4 (some .int) :: ws) ({ frames := 1, cells := 0, slots := 0, locals := 17 } : Room)) (fun a U => a = #[(.ref ob0), (.int (58 : Int32)), (.int (0 : Int32)), (.int (1 : Int32))] ∧ Z.Warmed39 U.vm ∧ U.heap = h0) (fun _ _ _ _ _ => True) (fun _ U o U' => ∃ v L, o = .returned v ∧ own_Q_rmA9 Z ob0 k_ob0 cs wf wK0 wK1 wK2 wK3 wL h0 n0 v U'.heap L ∧ FrameEnd U o U' L ({ frames := 1, cells := 0, slots := 0, locals := 17 } : Room).cells ({ frames := 1, cells := 0, slots := 0, locals := 17 } : Room).slots) := by
  refine MetFree.of_bodySF (plainFor_of_name own_pn4) hisR ?_
  intro p e s m args below meth c s₁ Bd hml0 hP hK
  obtain ⟨rfl, hZ, hh⟩ := hP
  have hx := Bd.exec
  have hby := Bd.bytes
  have hml : c.maxLocals = 4 := hml0
  have hown : s.vm.findClass "java/lang/StringLatin1" = some m.cls := findClass_of_methodNamed Bd.named
  have hnm := (name_of_methodNamed Bd.named Bd.method).1
  have X0 : Stand p l e ({ frames := 1, cells := 0, slots := 0, locals := 17 } : Room) s m #[(.ref ob0), (.int (58 : Int32)), (.int (0 : Int32)), (.int (1 : Int32))] below meth c s₁ [] 0 0 := Stand.of_body Bd
  have e0 : s₁.heap = h0 := by rw [← hh, Bd.state]; rfl
  have N0 := Fr.nil n0
  have Z0 : n0 ≤ h0.size := O0.1 ▸ O0.2.1
  have g0 : ∀ t, Steps p.tables e below (s₁.setTop (mkF m 0 #[.val (.ref ob0), .val (.int (58 : Int32)), .val (.int (0 : Int32)), .val (.int (1 : Int32))] [])) t → Steps p.tables e below (s₁.setTop (entryFrame m #[(.ref ob0), (.int (58 : Int32)), (.int (0 : Int32)), (.int (1 : Int32))] 4)) t := fun t k => castTop (own_ef11 m (ob0) ((58 : Int32)) ((0 : Int32)) ((1 : Int32))) k
  have G0 := G
  obtain ⟨S_CS, hcs, S_WF, hwf, S_PROPOSAL_ANSWER, S_HELLO, S_EVENT, S_PING, S_L, Ex_L, Fa_L⟩ := G
  obtain ⟨_, _, ⟨T1, L1, k1, n1⟩, -, X1, ⟨Lc1, hQ1, l1, y1, z1⟩, st1⟩ := Jvm.LawKit.callS X0 hx (y := own_y10) hown (mvT hZ (own_w hw 64 rfl)) (mvT hZ (own_w hw 65 rfl)) (mvT hZ (own_w hw 62 rfl)) (mvT hZ (own_w hw 66 rfl)) (by decide) (backOf (W := 0) (rmA10 l Z a0 hw []   cs wf wK0 wK1 wK2 wK3 wL h0 n0 O0 G0   ) hZ (own_w hw 66 rfl) (own_w hw 62 rfl) (by decide) (by decide)) (g := (mkF m 1 #[.val (.ref ob0), .val (.int (58 : Int32)), .val (.int (0 : Int32)), .val (.int (1 : Int32))] [(.int (58 : Int32))])) rfl (by rw [hml]; rfl) (argsL := [(.int (58 : Int32))]) (rest := []) (lenOf own_pd4 rfl) rfl (by show 2 * 0 + _ ≤ _; exact Nat.le_of_eq rfl) (hb hby own_d11_1) (fun _ _ => ⟨rfl, e0, (by decide : 0 + 0 ≤ _), (by decide : 0 + 0 ≤ _)⟩)
  dsimp only [Pt.U, Pt.locs, Pt.cells, Pt.slots] at X1 l1 y1 z1 st1 hQ1
  subst l1 y1 z1
  obtain ⟨rfl, Nq1, e1⟩ := hQ1
  have N1 := Fr.app N0 Nq1
  obtain ⟨_, _, ⟨T2, L2, k2, n2⟩, -, X2, ⟨Lc2, hQ2, l2, y2, z2⟩, st2⟩ := Jvm.LawKit.callS X1 hx (y := own_y11) hown (mvT hZ (own_w hw 67 rfl)) (mvT hZ (own_w hw 68 rfl)) (mvT hZ (own_w hw 69 rfl)) (mvT hZ (own_w hw 70 rfl)) (by decide) (backOf (W := 0) (rmA11 l Z a0 hw []   cs wf wK0 wK1 wK2 wK3 wL h0 n0 O0 G0   ) hZ (own_w hw 70 rfl) (own_w hw 69 rfl) (by decide) (by decide)) (g := (mkF m 11 #[.val (.ref ob0), .val (.int (58 : Int32)), .val (.int (0 : Int32)), .val (.int (1 : Int32))] [(.int (0 : Int32)), (.int (0 : Int32))])) rfl (by rw [hml]; rfl) (argsL := [(.int (0 : Int32)), (.int (0 : Int32))]) (rest := []) (lenOf own_pd5 rfl) rfl (by show 2 * 0 + _ ≤ _; exact Nat.le_of_eq rfl) (hb hby own_d11_11) (fun _ _ => ⟨rfl, e1, (by decide : 0 + 0 ≤ _), (by decide : 0 + 0 ≤ _)⟩)
  dsimp only [Pt.U, Pt.locs, Pt.cells, Pt.slots] at X2 l2 y2 z2 st2 hQ2
  subst l2 y2 z2
  obtain ⟨rfl, Nq2, e2⟩ := hQ2
  have N2 := Fr.app N1 Nq2
  obtain ⟨c3, Ar3, cq3, S3, Nn3, Hh3, Gg3⟩ := id V_ob0
  obtain ⟨_, _, ⟨T4, L4, k4, n4⟩, -, X4, ⟨Lc4, hQ4, l4, y4, z4⟩, st4⟩ := Jvm.LawKit.callS X2 hx (y := own_y12) hown (mvT hZ (own_w hw 71 rfl)) (mvT hZ (own_w hw 72 rfl)) (mvT hZ (own_w hw 69 rfl)) (mvT hZ (own_w hw 73 rfl)) (by decide) (backOf (W := 0) (rmA12 l Z a0 hw []   cs wf wK0 wK1 wK2 wK3 wL h0 n0 O0 G0   ) hZ (own_w hw 73 rfl) (own_w hw 69 rfl) (by decide) (by decide)) (g := (mkF m 18 #[.val (.ref ob0), .val (.int (58 : Int32)), .val (.int (0 : Int32)), .val (.int (1 : Int32))] [(.int (1 : Int32)), (.int (1 : Int32))])) rfl (by rw [hml]; rfl) (argsL := [(.int (1 : Int32)), (.int (1 : Int32))]) (rest := []) (lenOf own_pd5 rfl) rfl (by show 2 * 0 + _ ≤ _; exact Nat.le_of_eq rfl) (hb hby own_d11_18) (fun _ _ => ⟨rfl, e2, (by decide : 0 + 0 ≤ _), (by decide : 0 + 0 ≤ _)⟩)
  dsimp only [Pt.U, Pt.locs, Pt.cells, Pt.slots] at X4 l4 y4 z4 st4 hQ4
  subst l4 y4 z4
  obtain ⟨rfl, Nq4, e4⟩ := hQ4
  have N4 := Fr.app N2 Nq4
  obtain ⟨LL5, XL5, NL5⟩ : ∃ LL : List Loc, Stand p l e ({ frames := 1, cells := 0, slots := 0, locals := 17 } : Room) s m #[(.ref ob0), (.int (58 : Int32)), (.int (0 : Int32)), (.int (1 : Int32))] below meth c T4 LL 0 0 ∧ Fr n0 LL := ⟨_, X4, N4⟩
  obtain ⟨_, _, ⟨T6, L6, k6, n6⟩, -, X6, ⟨Lc6, hQ6, l6, y6, z6⟩, st6⟩ := Jvm.LawKit.callS XL5 hx (y := own_y13) hown (mvT hZ (own_w hw 74 rfl)) (mvT hZ (own_w hw 75 rfl)) (mvT hZ (own_w hw 62 rfl)) (mvT hZ (own_w hw 76 rfl)) (by decide) (backOf (W := 0) (rmA13 l Z a0 hw [] ob0 k_ob0  cs wf wK0 wK1 wK2 wK3 wL h0 n0 O0 G0 V_ob0  ) hZ (own_w hw 76 rfl) (own_w hw 62 rfl) (by decide) (by decide)) (g := (mkF m 33 #[.val (.ref ob0), .val (.int (58 : Int32)), .val (.int (0 : Int32)), .val (.int (1 : Int32))] [(.int (1 : Int32)), (.int (0 : Int32)), (.int (58 : Int32)), (.ref ob0)])) rfl (by rw [hml]; rfl) (argsL := [(.ref ob0), (.int (58 : Int32)), (.int (0 : Int32)), (.int (1 : Int32))]) (rest := []) (lenOf own_pd6 rfl) rfl (by show 2 * 0 + _ ≤ _; exact Nat.le_of_eq rfl) (hb hby own_d11_33) (fun _ _ => ⟨rfl, e4, (by decide : 0 + 0 ≤ _), (by decide : 0 + 0 ≤ _)⟩)
  dsimp only [Pt.U, Pt.locs, Pt.cells, Pt.slots] at X6 l6 y6 z6 st6 hQ6
  subst l6 y6 z6
  obtain ⟨rfl, Nq6, e6⟩ := hQ6
  have N6 := Fr.app NL5 Nq6
  have g7 : ∀ t, Steps p.tables e below (T6.setTop (mkF m 36 #[.val (.ref ob0), .val (.int (58 : Int32)), .val (.int (0 : Int32)), .val (.int (1 : Int32))] [(.int (-1 : Int32))])) t → Steps p.tables e below (s₁.setTop (entryFrame m #[(.ref ob0), (.int (58 : Int32)), (.int (0 : Int32)), (.int (1 : Int32))] 4)) t := by
    intro t k
    refine g0 t ?_
    show Steps p.tables e below (s₁.setTop (mkF m 0 #[.val (.ref ob0), .val (.int (58 : Int32)), .val (.int (0 : Int32)), .val (.int (1 : Int32))] [])) _
    refine XS.iloadN X0.here hx rfl (hb hby own_d11_0) rfl ?_
    refine st1 _ ?_
    refine XS.ifYes X1.here hx rfl (pc0 := 4) (pc' := 9) rfl (hb hby own_d11_4) rfl ((if0 _ _).trans (feq (by decide : ¬ ((1 : Int32) = (0 : Int32)))).2) (by decide) (by decide) ?_
    refine XS.iloadN X1.here hx rfl (hb hby own_d11_9) rfl ?_
    refine XS.iconst X1.here hx rfl (hb hby own_d11_10) ?_
    refine st2 _ ?_
    refine XS.istoreN X2.here hx rfl (hb hby own_d11_14) rfl (l' := #[.val (.ref ob0), .val (.int (58 : Int32)), .val (.int (0 : Int32)), .val (.int (1 : Int32))]) rfl ?_
    refine XS.iloadN X2.here hx rfl (hb hby own_d11_15) rfl ?_
    show Steps p.tables e below (T2.setTop (mkF m 16 #[.val (.ref ob0), .val (.int (58 : Int32)), .val (.int (0 : Int32)), .val (.int (1 : Int32))] [(.int (1 : Int32))])) _
    refine XS.aloadN X2.here hx rfl (hb hby own_d11_16) rfl rfl ?_
    show Steps p.tables e below (T2.setTop (mkF m 17 #[.val (.ref ob0), .val (.int (58 : Int32)), .val (.int (0 : Int32)), .val (.int (1 : Int32))] [(.ref ob0), (.int (1 : Int32))])) _
    refine X2.arraylength hx (by rw [e2]; exact Ar3.1) (State.isArrayOf_alike hZ.alike Ar3.2.1) (g := (mkF m 17 #[.val (.ref ob0), .val (.int (58 : Int32)), .val (.int (0 : Int32)), .val (.int (1 : Int32))] [(.ref ob0), (.int (1 : Int32))])) rfl rfl (hb hby own_d11_17) _ ?_
    rw [len_of S3 Nn3]
    refine st4 _ ?_
    refine XS.istoreN X4.here hx rfl (hb hby own_d11_21) rfl (l' := #[.val (.ref ob0), .val (.int (58 : Int32)), .val (.int (0 : Int32)), .val (.int (1 : Int32))]) rfl ?_
    refine XS.iloadN X4.here hx rfl (hb hby own_d11_22) rfl ?_
    refine XS.iloadN X4.here hx rfl (hb hby own_d11_23) rfl ?_
    refine XS.icmpYes X4.here hx rfl (pc0 := 24) (pc' := 29) rfl (hb hby own_d11_24) rfl (tlt (by decide : (0 : Int32) < (1 : Int32))).1 (by decide) (by decide) ?_
    refine XS.aloadN X4.here hx rfl (hb hby own_d11_29) rfl rfl ?_
    show Steps p.tables e below (T4.setTop (mkF m 30 #[.val (.ref ob0), .val (.int (58 : Int32)), .val (.int (0 : Int32)), .val (.int (1 : Int32))] [(.ref ob0)])) _
    refine XS.iloadN X4.here hx rfl (hb hby own_d11_30) rfl ?_
    refine XS.iloadN X4.here hx rfl (hb hby own_d11_31) rfl ?_
    refine XS.iloadN X4.here hx rfl (hb hby own_d11_32) rfl ?_
    refine st6 _ ?_
    exact k
  obtain ⟨fs, hrt, hrun, hended, hW, hsame⟩ := X6.leave (v := some (.int (-1 : Int32))) (fun h => by rw [Bd.returns] at h; cases h)
  refine ⟨_, _, g7 _ ?_, hrun, hended, _, _, rfl, ?_, ⟨_, rfl⟩, hW, hsame.mono (by decide) (by decide)⟩
  · show Steps p.tables e below (T6.setTop (mkF m 36 #[.val (.ref ob0), .val (.int (58 : Int32)), .val (.int (0 : Int32)), .val (.int (1 : Int32))] [(.int (-1 : Int32))])) _
    exact retI X6 hx Bd.returns (hb hby own_d11_36) hrt
  · show own_Q_rmA9 Z ob0 k_ob0 cs wf wK0 wK1 wK2 wK3 wL h0 n0 _ T6.heap _
    rw [e6]
    exact ⟨rfl, N6, rfl⟩
theorem own_d9_20 : decode jdk_42_method_80_code 20 = .ok (.goto 16, 3) := by decide +kernel
theorem own_d9_36 : decode jdk_42_method_80_code 36 = .ok (.ireturn, 1) := by decide +kernel
def own_Q_rmA7 (Z : State) (ob0 : Addr) (ob0_value : Addr) (k_ob0_value : ClassId)  (cs : Int32) (wf : Value) (wK0 : Addr) (wK1 : Addr) (wK2 : Addr) (wK3 : Addr) (wL : Addr) (h0 : Heap) (n0 : Nat) (v : Option Value) (h : Heap) (L : List Loc) : Prop := v = some (.int (-1 : Int32)) ∧ Fr n0 L ∧ h = h0
set_option maxRecDepth 65536 in
set_option maxHeartbeats 40000000 in
theorem rmA7 (l : Launch) (Z : State) (a0 : Array Value) (hw : ∀ d ∈ tables_1, d.before a0 Z = true) (ws : List Jvm.Cond) (ob0 : Addr) (ob0_value : Addr) (k_ob0_value : ClassId)  (cs : Int32) (wf : Value) (wK0 : Addr) (wK1 : Addr) (wK2 : Addr) (wK3 : Addr) (wL : Addr) (h0 : Heap) (n0 : Nat) (O0 : Old Z n0 h0) (G : own_Gl Z cs wf wK0 wK1 wK2 wK3 wL) (E_ob0 : Exa Z h0 ob0 "java/lang/String") (F_ob0_coder : Fld Z h0 ob0 "java/lang/String" "coder" "B" (.int (0 : Int32))) (V_ob0_value : Arv Z h0 ob0_value k_ob0_value .byte (1 : Int32) [(.int (104 : Int32))] (.int (0 : Int32))) (F_ob0_value : Fld Z h0 ob0 "java/lang/String" "value" "[B" (.ref ob0_value)) :
    MetFree l own_y7 (head1 (Jvm.Cond.code own_y7 jdk_42_method_80_code 3 (some .int) :: ws) ({ frames := 2, cells := 0, slots := 0, locals := 32 } : Room)) (fun a U => a = #[(.ref ob0), (.int (58 : Int32)), (.int (0 : Int32))] ∧ Z.Warmed39 U.vm ∧ U.heap = h0) (fun _ _ _ _ _ => True) (fun _ U o U' => ∃ v L, o = .returned v ∧ own_Q_rmA7 Z ob0 ob0_value k_ob0_value cs wf wK0 wK1 wK2 wK3 wL h0 n0 v U'.heap L ∧ FrameEnd U o U' L ({ frames := 2, cells := 0, slots := 0, locals := 32 } : Room).cells ({ frames := 2, cells := 0, slots := 0, locals := 32 } : Room).slots) := by
  refine MetFree.of_bodySF (plainFor_of_name own_pn3) hisR ?_
  intro p e s m args below meth c s₁ Bd hml0 hP hK
  obtain ⟨rfl, hZ, hh⟩ := hP
  have hx := Bd.exec
  have hby := Bd.bytes
  have hml : c.maxLocals = 3 := hml0
  have hown : s.vm.findClass "java/lang/String" = some m.cls := findClass_of_methodNamed Bd.named
  have hnm := (name_of_methodNamed Bd.named Bd.method).1
  have X0 : Stand p l e ({ frames := 2, cells := 0, slots := 0, locals := 32 } : Room) s m #[(.ref ob0), (.int (58 : Int32)), (.int (0 : Int32))] below meth c s₁ [] 0 0 := Stand.of_body Bd
  have e0 : s₁.heap = h0 := by rw [← hh, Bd.state]; rfl
  have N0 := Fr.nil n0
  have Z0 : n0 ≤ h0.size := O0.1 ▸ O0.2.1
  have g0 : ∀ t, Steps p.tables e below (s₁.setTop (mkF m 0 #[.val (.ref ob0), .val (.int (58 : Int32)), .val (.int (0 : Int32))] [])) t → Steps p.tables e below (s₁.setTop (entryFrame m #[(.ref ob0), (.int (58 : Int32)), (.int (0 : Int32))] 3)) t := fun t k => castTop (own_ef9 m (ob0) ((58 : Int32)) ((0 : Int32))) k
  have G0 := G
  obtain ⟨S_CS, hcs, S_WF, hwf, S_PROPOSAL_ANSWER, S_HELLO, S_EVENT, S_PING, S_L, Ex_L, Fa_L⟩ := G
  obtain ⟨cq1, kq1, q1a, q1b, q1c⟩ := isOf hZ e0 E_ob0
  obtain ⟨_, _, ⟨T1, L1, k1, n1⟩, -, X1, ⟨Lc1, hQ1, l1, y1, z1⟩, st1⟩ := X0.virtualBack hx (y := own_y8) (z := own_y8) hown (mvT hZ (own_w hw 54 rfl)) (mvT hZ (own_w hw 55 rfl)) (notFace_of_selects (args := #[]) (mvT hZ (own_w hw 57 rfl))) (mvT hZ (own_w hw 57 rfl)) (mvT hZ (own_w hw 56 rfl)) (by decide) (backOf (W := 0) (rmA8 l Z a0 hw [] ob0 ob0_value k_ob0_value  cs wf wK0 wK1 wK2 wK3 wL h0 n0 O0 G0 E_ob0 F_ob0_coder V_ob0_value F_ob0_value  ) hZ (own_w hw 58 rfl) (own_w hw 4 rfl) (by decide) (by decide)) q1a q1c (g := (mkF m 1 #[.val (.ref ob0), .val (.int (58 : Int32)), .val (.int (0 : Int32))] [(.ref ob0)])) rfl (by rw [hml]; rfl) (Steps.refl _) (argsL := []) (rest := []) (lenOf own_pd1 rfl) rfl (by show 2 * 0 + _ ≤ _; exact Nat.le_of_eq rfl) (hb hby own_d9_1) (fun _ _ => ⟨rfl, e0, (by decide : 0 + 0 ≤ _), (by decide : 0 + 0 ≤ _)⟩)
  dsimp only [Pt.U, Pt.locs, Pt.cells, Pt.slots] at X1 l1 y1 z1 st1 hQ1
  subst l1 y1 z1
  obtain ⟨rfl, Nq1, e1⟩ := hQ1
  have N1 := Fr.app N0 Nq1
  obtain ⟨T2, X2, e2, st2⟩ := getF X1 hx hZ hown (host := "") (Or.inl (own_w hw 31 rfl)) Via.refl e1 F_ob0_value (g := (mkF m 8 #[.val (.ref ob0), .val (.int (58 : Int32)), .val (.int (0 : Int32))] [(.ref ob0)])) rfl rfl (hb hby own_d9_8)
  obtain ⟨cq3, kq3, q3a, q3b, q3c⟩ := isOf hZ e2 E_ob0
  obtain ⟨_, _, ⟨T3, L3, k3, n3⟩, -, X3, ⟨Lc3, hQ3, l3, y3, z3⟩, st3⟩ := X2.virtualBack hx (y := own_y4) (z := own_y4) hown (mvT hZ (own_w hw 59 rfl)) (mvT hZ (own_w hw 33 rfl)) (notFace_of_selects (args := #[]) (mvT hZ (own_w hw 35 rfl))) (mvT hZ (own_w hw 35 rfl)) (mvT hZ (own_w hw 34 rfl)) (by decide) (backOf (W := 3) (rmA4 l Z a0 hw [] ob0 ob0_value k_ob0_value  cs wf wK0 wK1 wK2 wK3 wL h0 n0 O0 G0 E_ob0 F_ob0_coder V_ob0_value F_ob0_value  ) hZ (own_w hw 36 rfl) (own_w hw 4 rfl) (by decide) (by decide)) q3a q3c (g := (mkF m 14 #[.val (.ref ob0), .val (.int (58 : Int32)), .val (.int (0 : Int32))] [(.ref ob0), (.int (0 : Int32)), (.int (58 : Int32)), (.ref ob0_value)])) rfl (by rw [hml]; rfl) (Steps.refl _) (argsL := []) (rest := [(.int (0 : Int32)), (.int (58 : Int32)), (.ref ob0_value)]) (lenOf own_pd3 rfl) rfl (by show 2 * 0 + _ ≤ _; exact Nat.le_of_eq rfl) (hb hby own_d9_14) (fun _ _ => ⟨rfl, e2, (by decide : 0 + 0 ≤ _), (by decide : 0 + 0 ≤ _)⟩)
  dsimp only [Pt.U, Pt.locs, Pt.cells, Pt.slots] at X3 l3 y3 z3 st3 hQ3
  subst l3 y3 z3
  obtain ⟨rfl, Nq3, e3⟩ := hQ3
  have N3 := Fr.app N1 Nq3
  obtain ⟨_, _, ⟨T4, L4, k4, n4⟩, -, X4, ⟨Lc4, hQ4, l4, y4, z4⟩, st4⟩ := Jvm.LawKit.callS X3 hx (y := own_y9) hown (mvT hZ (own_w hw 60 rfl)) (mvT hZ (own_w hw 61 rfl)) (mvT hZ (own_w hw 62 rfl)) (mvT hZ (own_w hw 63 rfl)) (by decide) (backOf (W := 0) (rmA9 l Z a0 hw [] ob0_value k_ob0_value  cs wf wK0 wK1 wK2 wK3 wL h0 n0 O0 G0 V_ob0_value  ) hZ (own_w hw 63 rfl) (own_w hw 62 rfl) (by decide) (by decide)) (g := (mkF m 17 #[.val (.ref ob0), .val (.int (58 : Int32)), .val (.int (0 : Int32))] [(.int (1 : Int32)), (.int (0 : Int32)), (.int (58 : Int32)), (.ref ob0_value)])) rfl (by rw [hml]; rfl) (argsL := [(.ref ob0_value), (.int (58 : Int32)), (.int (0 : Int32)), (.int (1 : Int32))]) (rest := []) (lenOf own_pd6 rfl) rfl (by show 2 * 0 + _ ≤ _; exact Nat.le_of_eq rfl) (hb hby own_d9_17) (fun _ _ => ⟨rfl, e3, (by decide : 0 + 0 ≤ _), (by decide : 0 + 0 ≤ _)⟩)
  dsimp only [Pt.U, Pt.locs, Pt.cells, Pt.slots] at X4 l4 y4 z4 st4 hQ4
  subst l4 y4 z4
  obtain ⟨rfl, Nq4, e4⟩ := hQ4
  have N4 := Fr.app N3 Nq4
  have g5 : ∀ t, Steps p.tables e below (T4.setTop (mkF m 36 #[.val (.ref ob0), .val (.int (58 : Int32)), .val (.int (0 : Int32))] [(.int (-1 : Int32))])) t → Steps p.tables e below (s₁.setTop (entryFrame m #[(.ref ob0), (.int (58 : Int32)), (.int (0 : Int32))] 3)) t := by
    intro t k
    refine g0 t ?_
    show Steps p.tables e below (s₁.setTop (mkF m 0 #[.val (.ref ob0), .val (.int (58 : Int32)), .val (.int (0 : Int32))] [])) _
    refine XS.aloadN X0.here hx rfl (hb hby own_d9_0) rfl rfl ?_
    refine st1.trans ?_
    refine XS.ifNo X1.here hx rfl (hb hby own_d9_4) rfl ((if0 _ _).trans (feq (by decide : ¬ ((1 : Int32) = (0 : Int32)))).1) ?_
    refine XS.aloadN X1.here hx rfl (hb hby own_d9_7) rfl rfl ?_
    refine st2 _ ?_
    refine XS.iloadN X2.here hx rfl (hb hby own_d9_11) rfl ?_
    refine XS.iloadN X2.here hx rfl (hb hby own_d9_12) rfl ?_
    refine XS.aloadN X2.here hx rfl (hb hby own_d9_13) rfl rfl ?_
    show Steps p.tables e below (T2.setTop (mkF m 14 #[.val (.ref ob0), .val (.int (58 : Int32)), .val (.int (0 : Int32))] [(.ref ob0), (.int (0 : Int32)), (.int (58 : Int32)), (.ref ob0_value)])) _
    refine st3.trans ?_
    refine st4 _ ?_
    refine XS.goto X4.here hx rfl (pc0 := 20) (pc' := 36) rfl (hb hby own_d9_20) (by decide) (by decide) ?_
    exact k
  obtain ⟨fs, hrt, hrun, hended, hW, hsame⟩ := X4.leave (v := some (.int (-1 : Int32))) (fun h => by rw [Bd.returns] at h; cases h)
  refine ⟨_, _, g5 _ ?_, hrun, hended, _, _, rfl, ?_, ⟨_, rfl⟩, hW, hsame.mono (by decide) (by decide)⟩
  · show Steps p.tables e below (T4.setTop (mkF m 36 #[.val (.ref ob0), .val (.int (58 : Int32)), .val (.int (0 : Int32))] [(.int (-1 : Int32))])) _
    exact retI X4 hx Bd.returns (hb hby own_d9_36) hrt
  · show own_Q_rmA7 Z ob0 ob0_value k_ob0_value cs wf wK0 wK1 wK2 wK3 wL h0 n0 _ T4.heap _
    rw [e4]
    exact ⟨rfl, N4, rfl⟩
theorem own_d8_6 : decode jdk_42_method_79_code 6 = .ok (.ireturn, 1) := by decide +kernel
def own_Q_rmA6 (Z : State) (ob0 : Addr) (ob0_value : Addr) (k_ob0_value : ClassId)  (cs : Int32) (wf : Value) (wK0 : Addr) (wK1 : Addr) (wK2 : Addr) (wK3 : Addr) (wL : Addr) (h0 : Heap) (n0 : Nat) (v : Option Value) (h : Heap) (L : List Loc) : Prop := v = some (.int (-1 : Int32)) ∧ Fr n0 L ∧ h = h0
set_option maxRecDepth 65536 in
set_option maxHeartbeats 40000000 in
theorem rmA6 (l : Launch) (Z : State) (a0 : Array Value) (hw : ∀ d ∈ tables_1, d.before a0 Z = true) (ws : List Jvm.Cond) (ob0 : Addr) (ob0_value : Addr) (k_ob0_value : ClassId)  (cs : Int32) (wf : Value) (wK0 : Addr) (wK1 : Addr) (wK2 : Addr) (wK3 : Addr) (wL : Addr) (h0 : Heap) (n0 : Nat) (O0 : Old Z n0 h0) (G : own_Gl Z cs wf wK0 wK1 wK2 wK3 wL) (E_ob0 : Exa Z h0 ob0 "java/lang/String") (F_ob0_coder : Fld Z h0 ob0 "java/lang/String" "coder" "B" (.int (0 : Int32))) (V_ob0_value : Arv Z h0 ob0_value k_ob0_value .byte (1 : Int32) [(.int (104 : Int32))] (.int (0 : Int32))) (F_ob0_value : Fld Z h0 ob0 "java/lang/String" "value" "[B" (.ref ob0_value)) :
    MetFree l own_y6 (head1 (Jvm.Cond.code own_y6 jdk_42_method_79_code 2 (some .int) :: ws) ({ frames := 3, cells := 0, slots := 0, locals := 46 } : Room)) (fun a U => a = #[(.ref ob0), (.int (58 : Int32))] ∧ Z.Warmed39 U.vm ∧ U.heap = h0) (fun _ _ _ _ _ => True) (fun _ U o U' => ∃ v L, o = .returned v ∧ own_Q_rmA6 Z ob0 ob0_value k_ob0_value cs wf wK0 wK1 wK2 wK3 wL h0 n0 v U'.heap L ∧ FrameEnd U o U' L ({ frames := 3, cells := 0, slots := 0, locals := 46 } : Room).cells ({ frames := 3, cells := 0, slots := 0, locals := 46 } : Room).slots) := by
  refine MetFree.of_bodySF (plainFor_of_name own_pn3) hisR ?_
  intro p e s m args below meth c s₁ Bd hml0 hP hK
  obtain ⟨rfl, hZ, hh⟩ := hP
  have hx := Bd.exec
  have hby := Bd.bytes
  have hml : c.maxLocals = 2 := hml0
  have hown : s.vm.findClass "java/lang/String" = some m.cls := findClass_of_methodNamed Bd.named
  have hnm := (name_of_methodNamed Bd.named Bd.method).1
  have X0 : Stand p l e ({ frames := 3, cells := 0, slots := 0, locals := 46 } : Room) s m #[(.ref ob0), (.int (58 : Int32))] below meth c s₁ [] 0 0 := Stand.of_body Bd
  have e0 : s₁.heap = h0 := by rw [← hh, Bd.state]; rfl
  have N0 := Fr.nil n0
  have Z0 : n0 ≤ h0.size := O0.1 ▸ O0.2.1
  have g0 : ∀ t, Steps p.tables e below (s₁.setTop (mkF m 0 #[.val (.ref ob0), .val (.int (58 : Int32))] [])) t → Steps p.tables e below (s₁.setTop (entryFrame m #[(.ref ob0), (.int (58 : Int32))] 2)) t := fun t k => castTop (own_ef8 m (ob0) ((58 : Int32))) k
  have G0 := G
  obtain ⟨S_CS, hcs, S_WF, hwf, S_PROPOSAL_ANSWER, S_HELLO, S_EVENT, S_PING, S_L, Ex_L, Fa_L⟩ := G
  obtain ⟨cq1, kq1, q1a, q1b, q1c⟩ := isOf hZ e0 E_ob0
  obtain ⟨_, _, ⟨T1, L1, k1, n1⟩, -, X1, ⟨Lc1, hQ1, l1, y1, z1⟩, st1⟩ := X0.virtualBack hx (y := own_y7) (z := own_y7) hown (mvT hZ (own_w hw 49 rfl)) (mvT hZ (own_w hw 50 rfl)) (notFace_of_selects (args := #[]) (mvT hZ (own_w hw 52 rfl))) (mvT hZ (own_w hw 52 rfl)) (mvT hZ (own_w hw 51 rfl)) (by decide) (backOf (W := 0) (rmA7 l Z a0 hw [] ob0 ob0_value k_ob0_value  cs wf wK0 wK1 wK2 wK3 wL h0 n0 O0 G0 E_ob0 F_ob0_coder V_ob0_value F_ob0_value  ) hZ (own_w hw 53 rfl) (own_w hw 4 rfl) (by decide) (by decide)) q1a q1c (g := (mkF m 3 #[.val (.ref ob0), .val (.int (58 : Int32))] [(.int (0 : Int32)), (.int (58 : Int32)), (.ref ob0)])) rfl (by rw [hml]; rfl) (Steps.refl _) (argsL := [(.int (58 : Int32)), (.int (0 : Int32))]) (rest := []) (lenOf own_pd5 rfl) rfl (by show 2 * 0 + _ ≤ _; exact Nat.le_of_eq rfl) (hb hby own_d8_3) (fun _ _ => ⟨rfl, e0, (by decide : 0 + 0 ≤ _), (by decide : 0 + 0 ≤ _)⟩)
  dsimp only [Pt.U, Pt.locs, Pt.cells, Pt.slots] at X1 l1 y1 z1 st1 hQ1
  subst l1 y1 z1
  obtain ⟨rfl, Nq1, e1⟩ := hQ1
  have N1 := Fr.app N0 Nq1
  have g2 : ∀ t, Steps p.tables e below (T1.setTop (mkF m 6 #[.val (.ref ob0), .val (.int (58 : Int32))] [(.int (-1 : Int32))])) t → Steps p.tables e below (s₁.setTop (entryFrame m #[(.ref ob0), (.int (58 : Int32))] 2)) t := by
    intro t k
    refine g0 t ?_
    show Steps p.tables e below (s₁.setTop (mkF m 0 #[.val (.ref ob0), .val (.int (58 : Int32))] [])) _
    refine XS.aloadN X0.here hx rfl (hb hby own_d8_0) rfl rfl ?_
    refine XS.iloadN X0.here hx rfl (hb hby own_d8_1) rfl ?_
    refine XS.iconst X0.here hx rfl (hb hby own_d8_2) ?_
    refine st1.trans ?_
    exact k
  obtain ⟨fs, hrt, hrun, hended, hW, hsame⟩ := X1.leave (v := some (.int (-1 : Int32))) (fun h => by rw [Bd.returns] at h; cases h)
  refine ⟨_, _, g2 _ ?_, hrun, hended, _, _, rfl, ?_, ⟨_, rfl⟩, hW, hsame.mono (by decide) (by decide)⟩
  · show Steps p.tables e below (T1.setTop (mkF m 6 #[.val (.ref ob0), .val (.int (58 : Int32))] [(.int (-1 : Int32))])) _
    exact retI X1 hx Bd.returns (hb hby own_d8_6) hrt
  · show own_Q_rmA6 Z ob0 ob0_value k_ob0_value cs wf wK0 wK1 wK2 wK3 wL h0 n0 _ T1.heap _
    rw [e1]
    exact ⟨rfl, N1, rfl⟩
theorem own_pd7 : parseMethodDescriptor "(I)I" = some ⟨[.int], some .int⟩ := by decide +kernel
theorem own_d4_43 : decode prog_31_method_9_code 43 = .ok (.ifCond .lt 7, 3) := by decide +kernel
theorem own_d4_50 : decode prog_31_method_9_code 50 = .ok (.iconst 0, 1) := by decide +kernel
theorem own_d4_51 : decode prog_31_method_9_code 51 = .ok (.istore_n 1, 1) := by decide +kernel
theorem own_d4_52 : decode prog_31_method_9_code 52 = .ok (.iconst 0, 1) := by decide +kernel
theorem own_d4_53 : decode prog_31_method_9_code 53 = .ok (.istore_n 2, 1) := by decide +kernel
theorem own_d4_54 : decode prog_31_method_9_code 54 = .ok (.iload_n 2, 1) := by decide +kernel
theorem own_d4_55 : decode prog_31_method_9_code 55 = .ok (.aload_n 0, 1) := by decide +kernel
theorem own_d4_56 : decode prog_31_method_9_code 56 = .ok (.invokevirtual 103, 3) := by decide +kernel
theorem own_d4_59 : decode prog_31_method_9_code 59 = .ok (.if_icmp .ge 76, 3) := by decide +kernel
theorem own_d4_62 : decode prog_31_method_9_code 62 = .ok (.aload_n 0, 1) := by decide +kernel
theorem own_d4_63 : decode prog_31_method_9_code 63 = .ok (.iload_n 2, 1) := by decide +kernel
theorem own_d4_64 : decode prog_31_method_9_code 64 = .ok (.invokevirtual 108, 3) := by decide +kernel
abbrev own_y14 : MethodName := ⟨"java/lang/String", "charAt", "(I)C"⟩
theorem own_ef16 (m : MethodId) (x0 : Addr) (x1 : Int32) : entryFrame m #[(.ref x0), (.int x1)] 2 = mkF m 0 #[.val (.ref x0), .val (.int x1)] [] := by first | (simp [entryFrame, mkF, argsToLocals, Value.category]; done) | rfl
theorem own_d16_0 : decode jdk_42_method_56_code 0 = .ok (.aload_n 0, 1) := by decide +kernel
theorem own_d16_1 : decode jdk_42_method_56_code 1 = .ok (.invokevirtual 492, 3) := by decide +kernel
theorem own_d16_4 : decode jdk_42_method_56_code 4 = .ok (.ifCond .eq 12, 3) := by decide +kernel
theorem own_d16_7 : decode jdk_42_method_56_code 7 = .ok (.aload_n 0, 1) := by decide +kernel
theorem own_d16_8 : decode jdk_42_method_56_code 8 = .ok (.getfield 9, 3) := by decide +kernel
theorem own_d16_11 : decode jdk_42_method_56_code 11 = .ok (.iload_n 1, 1) := by decide +kernel
theorem own_d16_12 : decode jdk_42_method_56_code 12 = .ok (.invokestatic 495, 3) := by decide +kernel
abbrev own_y15 : MethodName := ⟨"java/lang/StringLatin1", "charAt", "([BI)C"⟩
theorem own_ef17 (m : MethodId) (x0 : Addr) (x1 : Int32) : entryFrame m #[(.ref x0), (.int x1)] 2 = mkF m 0 #[.val (.ref x0), .val (.int x1)] [] := by first | (simp [entryFrame, mkF, argsToLocals, Value.category]; done) | rfl
theorem own_d17_0 : decode jdk_43_method_2_code 0 = .ok (.iload_n 1, 1) := by decide +kernel
theorem own_d17_1 : decode jdk_43_method_2_code 1 = .ok (.aload_n 0, 1) := by decide +kernel
theorem own_d17_2 : decode jdk_43_method_2_code 2 = .ok (.arraylength, 1) := by decide +kernel
theorem own_d17_3 : decode jdk_43_method_2_code 3 = .ok (.invokestatic 9, 3) := by decide +kernel
abbrev own_y16 : MethodName := ⟨"java/lang/String", "checkIndex", "(II)V"⟩
theorem own_ef18 (m : MethodId) (x0 : Int32) (x1 : Int32) : entryFrame m #[(.int x0), (.int x1)] 2 = mkF m 0 #[.val (.int x0), .val (.int x1)] [] := by first | (simp [entryFrame, mkF, argsToLocals, Value.category]; done) | rfl
theorem own_d18_0 : decode jdk_42_method_155_code 0 = .ok (.iload_n 0, 1) := by decide +kernel
theorem own_d18_1 : decode jdk_42_method_155_code 1 = .ok (.iload_n 1, 1) := by decide +kernel
theorem own_d18_2 : decode jdk_42_method_155_code 2 = .ok (.getstatic 1053, 3) := by decide +kernel
theorem own_d18_5 : decode jdk_42_method_155_code 5 = .ok (.invokestatic 1059, 3) := by decide +kernel
abbrev own_y17 : MethodName := ⟨"jdk/internal/util/Preconditions", "checkIndex", "(IILjava/util/function/BiFunction;)I"⟩
theorem own_ef19 (m : MethodId) (x0 : Int32) (x1 : Int32) : entryFrame m #[(.int x0), (.int x1), .null] 3 = mkF m 0 #[.val (.int x0), .val (.int x1), .val .null] [] := by first | (simp [entryFrame, mkF, argsToLocals, Value.category]; done) | rfl
theorem own_pn5 : plainName "jdk/internal/util/Preconditions" = true := by first | (simp [plainName, overriddenIn]; done) | decide +kernel
theorem own_d19_0 : decode jdk_41_method_11_code 0 = .ok (.iload_n 0, 1) := by decide +kernel
theorem own_d19_1 : decode jdk_41_method_11_code 1 = .ok (.ifCond .lt 8, 3) := by decide +kernel
theorem own_d19_4 : decode jdk_41_method_11_code 4 = .ok (.iload_n 0, 1) := by decide +kernel
theorem own_d19_5 : decode jdk_41_method_11_code 5 = .ok (.iload_n 1, 1) := by decide +kernel
theorem own_d19_6 : decode jdk_41_method_11_code 6 = .ok (.if_icmp .lt 10, 3) := by decide +kernel
theorem own_d19_16 : decode jdk_41_method_11_code 16 = .ok (.iload_n 0, 1) := by decide +kernel
theorem own_d19_17 : decode jdk_41_method_11_code 17 = .ok (.ireturn, 1) := by decide +kernel
def own_Q_rmA17 (Z : State)   (cs : Int32) (wf : Value) (wK0 : Addr) (wK1 : Addr) (wK2 : Addr) (wK3 : Addr) (wL : Addr) (h0 : Heap) (n0 : Nat) (v : Option Value) (h : Heap) (L : List Loc) : Prop := v = some (.int (0 : Int32)) ∧ Fr n0 L ∧ h = h0
set_option maxRecDepth 65536 in
set_option maxHeartbeats 40000000 in
theorem rmA17 (l : Launch) (Z : State) (a0 : Array Value) (hw : ∀ d ∈ tables_1, d.before a0 Z = true) (ws : List Jvm.Cond)   (cs : Int32) (wf : Value) (wK0 : Addr) (wK1 : Addr) (wK2 : Addr) (wK3 : Addr) (wL : Addr) (h0 : Heap) (n0 : Nat) (O0 : Old Z n0 h0) (G : own_Gl Z cs wf wK0 wK1 wK2 wK3 wL) :
    MetFree l own_y17 (head1 (Jvm.Cond.code own_y17 jdk_41_method_11_code 3 (some .int) :: ws) ({ frames := 0, cells := 0, slots := 0, locals := 0 } : Room)) (fun a U => a = #[(.int (0 : Int32)), (.int (1 : Int32)), .null] ∧ Z.Warmed39 U.vm ∧ U.heap = h0) (fun _ _ _ _ _ => True) (fun _ U o U' => ∃ v L, o = .returned v ∧ own_Q_rmA17 Z cs wf wK0 wK1 wK2 wK3 wL h0 n0 v U'.heap L ∧ FrameEnd U o U' L ({ frames := 0, cells := 0, slots := 0, locals := 0 } : Room).cells ({ frames := 0, cells := 0, slots := 0, locals := 0 } : Room).slots) := by
  refine MetFree.of_bodySF (plainFor_of_name own_pn5) hisR ?_
  intro p e s m args below meth c s₁ Bd hml0 hP hK
  obtain ⟨rfl, hZ, hh⟩ := hP
  have hx := Bd.exec
  have hby := Bd.bytes
  have hml : c.maxLocals = 3 := hml0
  have hown : s.vm.findClass "jdk/internal/util/Preconditions" = some m.cls := findClass_of_methodNamed Bd.named
  have hnm := (name_of_methodNamed Bd.named Bd.method).1
  have X0 : Stand p l e ({ frames := 0, cells := 0, slots := 0, locals := 0 } : Room) s m #[(.int (0 : Int32)), (.int (1 : Int32)), .null] below meth c s₁ [] 0 0 := Stand.of_body Bd
  have e0 : s₁.heap = h0 := by rw [← hh, Bd.state]; rfl
  have N0 := Fr.nil n0
  have Z0 : n0 ≤ h0.size := O0.1 ▸ O0.2.1
  have g0 : ∀ t, Steps p.tables e below (s₁.setTop (mkF m 0 #[.val (.int (0 : Int32)), .val (.int (1 : Int32)), .val .null] [])) t → Steps p.tables e below (s₁.setTop (entryFrame m #[(.int (0 : Int32)), (.int (1 : Int32)), .null] 3)) t := fun t k => castTop (own_ef19 m ((0 : Int32)) ((1 : Int32))) k
  have G0 := G
  obtain ⟨S_CS, hcs, S_WF, hwf, S_PROPOSAL_ANSWER, S_HELLO, S_EVENT, S_PING, S_L, Ex_L, Fa_L⟩ := G
  have g1 : ∀ t, Steps p.tables e below (s₁.setTop (mkF m 17 #[.val (.int (0 : Int32)), .val (.int (1 : Int32)), .val .null] [(.int (0 : Int32))])) t → Steps p.tables e below (s₁.setTop (entryFrame m #[(.int (0 : Int32)), (.int (1 : Int32)), .null] 3)) t := by
    intro t k
    refine g0 t ?_
    show Steps p.tables e below (s₁.setTop (mkF m 0 #[.val (.int (0 : Int32)), .val (.int (1 : Int32)), .val .null] [])) _
    refine XS.iloadN X0.here hx rfl (hb hby own_d19_0) rfl ?_
    refine XS.ifNo X0.here hx rfl (hb hby own_d19_1) rfl ((if0 _ _).trans (flt (by decide : ¬ ((0 : Int32) < (0 : Int32)))).1) ?_
    refine XS.iloadN X0.here hx rfl (hb hby own_d19_4) rfl ?_
    refine XS.iloadN X0.here hx rfl (hb hby own_d19_5) rfl ?_
    refine XS.icmpYes X0.here hx rfl (pc0 := 6) (pc' := 16) rfl (hb hby own_d19_6) rfl (tlt (by decide : (0 : Int32) < (1 : Int32))).1 (by decide) (by decide) ?_
    refine XS.iloadN X0.here hx rfl (hb hby own_d19_16) rfl ?_
    exact k
  obtain ⟨fs, hrt, hrun, hended, hW, hsame⟩ := X0.leave (v := some (.int (0 : Int32))) (fun h => by rw [Bd.returns] at h; cases h)
  refine ⟨_, _, g1 _ ?_, hrun, hended, _, _, rfl, ?_, ⟨_, rfl⟩, hW, hsame.mono (by decide) (by decide)⟩
  · show Steps p.tables e below (s₁.setTop (mkF m 17 #[.val (.int (0 : Int32)), .val (.int (1 : Int32)), .val .null] [(.int (0 : Int32))])) _
    exact retI X0 hx Bd.returns (hb hby own_d19_17) hrt
  · show own_Q_rmA17 Z cs wf wK0 wK1 wK2 wK3 wL h0 n0 _ s₁.heap _
    rw [e0]
    exact ⟨rfl, N0, rfl⟩
theorem own_pd8 : parseMethodDescriptor "(IILjava/util/function/BiFunction;)I" = some ⟨[.int, .int, (.object "java/util/function/BiFunction")], some .int⟩ := by decide +kernel
theorem own_d18_8 : decode jdk_42_method_155_code 8 = .ok (.pop, 1) := by decide +kernel
theorem own_d18_9 : decode jdk_42_method_155_code 9 = .ok (.return_, 1) := by decide +kernel
theorem own_ef20 (m : MethodId) (x0 : Int32) (x1 : Int32) (x2 : Addr) : entryFrame m #[(.int x0), (.int x1), (.ref x2)] 3 = mkF m 0 #[.val (.int x0), .val (.int x1), .val (.ref x2)] [] := by first | (simp [entryFrame, mkF, argsToLocals, Value.category]; done) | rfl
def own_Q_rmA18 (Z : State) (ob2 : Addr)  (cs : Int32) (wf : Value) (wK0 : Addr) (wK1 : Addr) (wK2 : Addr) (wK3 : Addr) (wL : Addr) (h0 : Heap) (n0 : Nat) (v : Option Value) (h : Heap) (L : List Loc) : Prop := v = some (.int (0 : Int32)) ∧ Fr n0 L ∧ h = h0
set_option maxRecDepth 65536 in
set_option maxHeartbeats 40000000 in
theorem rmA18 (l : Launch) (Z : State) (a0 : Array Value) (hw : ∀ d ∈ tables_1, d.before a0 Z = true) (ws : List Jvm.Cond) (ob2 : Addr)  (cs : Int32) (wf : Value) (wK0 : Addr) (wK1 : Addr) (wK2 : Addr) (wK3 : Addr) (wL : Addr) (h0 : Heap) (n0 : Nat) (O0 : Old Z n0 h0) (G : own_Gl Z cs wf wK0 wK1 wK2 wK3 wL) :
    MetFree l own_y17 (head1 (Jvm.Cond.code own_y17 jdk_41_method_11_code 3 (some .int) :: ws) ({ frames := 0, cells := 0, slots := 0, locals := 0 } : Room)) (fun a U => a = #[(.int (0 : Int32)), (.int (1 : Int32)), (.ref ob2)] ∧ Z.Warmed39 U.vm ∧ U.heap = h0) (fun _ _ _ _ _ => True) (fun _ U o U' => ∃ v L, o = .returned v ∧ own_Q_rmA18 Z ob2 cs wf wK0 wK1 wK2 wK3 wL h0 n0 v U'.heap L ∧ FrameEnd U o U' L ({ frames := 0, cells := 0, slots := 0, locals := 0 } : Room).cells ({ frames := 0, cells := 0, slots := 0, locals := 0 } : Room).slots) := by
  refine MetFree.of_bodySF (plainFor_of_name own_pn5) hisR ?_
  intro p e s m args below meth c s₁ Bd hml0 hP hK
  obtain ⟨rfl, hZ, hh⟩ := hP
  have hx := Bd.exec
  have hby := Bd.bytes
  have hml : c.maxLocals = 3 := hml0
  have hown : s.vm.findClass "jdk/internal/util/Preconditions" = some m.cls := findClass_of_methodNamed Bd.named
  have hnm := (name_of_methodNamed Bd.named Bd.method).1
  have X0 : Stand p l e ({ frames := 0, cells := 0, slots := 0, locals := 0 } : Room) s m #[(.int (0 : Int32)), (.int (1 : Int32)), (.ref ob2)] below meth c s₁ [] 0 0 := Stand.of_body Bd
  have e0 : s₁.heap = h0 := by rw [← hh, Bd.state]; rfl
  have N0 := Fr.nil n0
  have Z0 : n0 ≤ h0.size := O0.1 ▸ O0.2.1
  have g0 : ∀ t, Steps p.tables e below (s₁.setTop (mkF m 0 #[.val (.int (0 : Int32)), .val (.int (1 : Int32)), .val (.ref ob2)] [])) t → Steps p.tables e below (s₁.setTop (entryFrame m #[(.int (0 : Int32)), (.int (1 : Int32)), (.ref ob2)] 3)) t := fun t k => castTop (own_ef20 m ((0 : Int32)) ((1 : Int32)) (ob2)) k
  have G0 := G
  obtain ⟨S_CS, hcs, S_WF, hwf, S_PROPOSAL_ANSWER, S_HELLO, S_EVENT, S_PING, S_L, Ex_L, Fa_L⟩ := G
  have g1 : ∀ t, Steps p.tables e below (s₁.setTop (mkF m 17 #[.val (.int (0 : Int32)), .val (.int (1 : Int32)), .val (.ref ob2)] [(.int (0 : Int32))])) t → Steps p.tables e below (s₁.setTop (entryFrame m #[(.int (0 : Int32)), (.int (1 : Int32)), (.ref ob2)] 3)) t := by
    intro t k
    refine g0 t ?_
    show Steps p.tables e below (s₁.setTop (mkF m 0 #[.val (.int (0 : Int32)), .val (.int (1 : Int32)), .val (.ref ob2)] [])) _
    refine XS.iloadN X0.here hx rfl (hb hby own_d19_0) rfl ?_
    refine XS.ifNo X0.here hx rfl (hb hby own_d19_1) rfl ((if0 _ _).trans (flt (by decide : ¬ ((0 : Int32) < (0 : Int32)))).1) ?_
    refine XS.iloadN X0.here hx rfl (hb hby own_d19_4) rfl ?_
    refine XS.iloadN X0.here hx rfl (hb hby own_d19_5) rfl ?_
    refine XS.icmpYes X0.here hx rfl (pc0 := 6) (pc' := 16) rfl (hb hby own_d19_6) rfl (tlt (by decide : (0 : Int32) < (1 : Int32))).1 (by decide) (by decide) ?_
    refine XS.iloadN X0.here hx rfl (hb hby own_d19_16) rfl ?_
    exact k
  obtain ⟨fs, hrt, hrun, hended, hW, hsame⟩ := X0.leave (v := some (.int (0 : Int32))) (fun h => by rw [Bd.returns] at h; cases h)
  refine ⟨_, _, g1 _ ?_, hrun, hended, _, _, rfl, ?_, ⟨_, rfl⟩, hW, hsame.mono (by decide) (by decide)⟩
  · show Steps p.tables e below (s₁.setTop (mkF m 17 #[.val (.int (0 : Int32)), .val (.int (1 : Int32)), .val (.ref ob2)] [(.int (0 : Int32))])) _
    exact retI X0 hx Bd.returns (hb hby own_d19_17) hrt
  · show own_Q_rmA18 Z ob2 cs wf wK0 wK1 wK2 wK3 wL h0 n0 _ s₁.heap _
    rw [e0]
    exact ⟨rfl, N0, rfl⟩
def own_Q_rmA16 (Z : State)   (cs : Int32) (wf : Value) (wK0 : Addr) (wK1 : Addr) (wK2 : Addr) (wK3 : Addr) (wL : Addr) (h0 : Heap) (n0 : Nat) (v : Option Value) (h : Heap) (L : List Loc) : Prop := v = none ∧ Fr n0 L ∧ h = h0
set_option maxRecDepth 65536 in
set_option maxHeartbeats 40000000 in
theorem rmA16 (l : Launch) (Z : State) (a0 : Array Value) (hw : ∀ d ∈ tables_1, d.before a0 Z = true) (ws : List Jvm.Cond)   (cs : Int32) (wf : Value) (wK0 : Addr) (wK1 : Addr) (wK2 : Addr) (wK3 : Addr) (wL : Addr) (h0 : Heap) (n0 : Nat) (O0 : Old Z n0 h0) (G : own_Gl Z cs wf wK0 wK1 wK2 wK3 wL) :
    MetFree l own_y16 (head1 (Jvm.Cond.code own_y16 jdk_42_method_155_code 2 none :: ws) ({ frames := 1, cells := 0, slots := 0, locals := 14 } : Room)) (fun a U => a = #[(.int (0 : Int32)), (.int (1 : Int32))] ∧ Z.Warmed39 U.vm ∧ U.heap = h0) (fun _ _ _ _ _ => True) (fun _ U o U' => ∃ v L, o = .returned v ∧ own_Q_rmA16 Z cs wf wK0 wK1 wK2 wK3 wL h0 n0 v U'.heap L ∧ FrameEnd U o U' L ({ frames := 1, cells := 0, slots := 0, locals := 14 } : Room).cells ({ frames := 1, cells := 0, slots := 0, locals := 14 } : Room).slots) := by
  refine MetFree.of_bodySF (plainFor_of_name own_pn3) hisR ?_
  intro p e s m args below meth c s₁ Bd hml0 hP hK
  obtain ⟨rfl, hZ, hh⟩ := hP
  have hx := Bd.exec
  have hby := Bd.bytes
  have hml : c.maxLocals = 2 := hml0
  have hown : s.vm.findClass "java/lang/String" = some m.cls := findClass_of_methodNamed Bd.named
  have hnm := (name_of_methodNamed Bd.named Bd.method).1
  have X0 : Stand p l e ({ frames := 1, cells := 0, slots := 0, locals := 14 } : Room) s m #[(.int (0 : Int32)), (.int (1 : Int32))] below meth c s₁ [] 0 0 := Stand.of_body Bd
  have e0 : s₁.heap = h0 := by rw [← hh, Bd.state]; rfl
  have N0 := Fr.nil n0
  have Z0 : n0 ≤ h0.size := O0.1 ▸ O0.2.1
  have g0 : ∀ t, Steps p.tables e below (s₁.setTop (mkF m 0 #[.val (.int (0 : Int32)), .val (.int (1 : Int32))] [])) t → Steps p.tables e below (s₁.setTop (entryFrame m #[(.int (0 : Int32)), (.int (1 : Int32))] 2)) t := fun t k => castTop (own_ef18 m ((0 : Int32)) ((1 : Int32))) k
  have G0 := G
  obtain ⟨S_CS, hcs, S_WF, hwf, S_PROPOSAL_ANSWER, S_HELLO, S_EVENT, S_PING, S_L, Ex_L, Fa_L⟩ := G
  obtain ⟨T1, X1, e1, st1⟩ := getS2 X0 hx hZ hown (host := "") (Or.inl (own_w hw 88 rfl)) Via.refl e0 (S_WF.ext O0.2) (g := (mkF m 2 #[.val (.int (0 : Int32)), .val (.int (1 : Int32))] [(.int (1 : Int32)), (.int (0 : Int32))])) rfl (hb hby own_d18_2)
  have g2 : ∀ t, Steps p.tables e below (T1.setTop (mkF m 5 #[.val (.int (0 : Int32)), .val (.int (1 : Int32))] [wf, (.int (1 : Int32)), (.int (0 : Int32))])) t → Steps p.tables e below (s₁.setTop (entryFrame m #[(.int (0 : Int32)), (.int (1 : Int32))] 2)) t := by
    intro t k
    refine g0 t ?_
    show Steps p.tables e below (s₁.setTop (mkF m 0 #[.val (.int (0 : Int32)), .val (.int (1 : Int32))] [])) _
    refine XS.iloadN X0.here hx rfl (hb hby own_d18_0) rfl ?_
    refine XS.iloadN X0.here hx rfl (hb hby own_d18_1) rfl ?_
    refine st1 _ ?_
    exact k
  rcases hwf with hwf1 | ⟨xf, hwf1⟩
  · skip
    obtain ⟨_, _, ⟨T3, L3, k3, n3⟩, -, X3, ⟨Lc3, hQ3, l3, y3, z3⟩, st3⟩ := Jvm.LawKit.callS X1 hx (y := own_y17) hown (mvT hZ (own_w hw 90 rfl)) (mvT hZ (own_w hw 91 rfl)) (mvT hZ (own_w hw 89 rfl)) (mvT hZ (own_w hw 92 rfl)) (by decide) (backOf (W := 0) (rmA17 l Z a0 hw []   cs wf wK0 wK1 wK2 wK3 wL h0 n0 O0 G0   ) hZ (own_w hw 92 rfl) (own_w hw 89 rfl) (by decide) (by decide)) (g := (mkF m 5 #[.val (.int (0 : Int32)), .val (.int (1 : Int32))] [.null, (.int (1 : Int32)), (.int (0 : Int32))])) rfl (by rw [hml]; rfl) (argsL := [(.int (0 : Int32)), (.int (1 : Int32)), .null]) (rest := []) (lenOf own_pd8 rfl) rfl (by show 2 * 0 + _ ≤ _; exact Nat.le_of_eq rfl) (hb hby own_d18_5) (fun _ _ => ⟨rfl, e1, (by decide : 0 + 0 ≤ _), (by decide : 0 + 0 ≤ _)⟩)
    dsimp only [Pt.U, Pt.locs, Pt.cells, Pt.slots] at X3 l3 y3 z3 st3 hQ3
    subst l3 y3 z3
    obtain ⟨rfl, Nq3, e3⟩ := hQ3
    have N3 := Fr.app N0 Nq3
    have g4 : ∀ t, Steps p.tables e below (T3.setTop (mkF m 9 #[.val (.int (0 : Int32)), .val (.int (1 : Int32))] [])) t → Steps p.tables e below (s₁.setTop (entryFrame m #[(.int (0 : Int32)), (.int (1 : Int32))] 2)) t := by
      intro t k
      refine g2 t ?_
      show Steps p.tables e below (T1.setTop (mkF m 5 #[.val (.int (0 : Int32)), .val (.int (1 : Int32))] [wf, (.int (1 : Int32)), (.int (0 : Int32))])) _
      rw [hwf1]
      refine st3 _ ?_
      refine XS.pop X3.here hx rfl (hb hby own_d18_8) rfl rfl ?_
      exact k
    obtain ⟨fs, hrt, hrun, hended, hW, hsame⟩ := X3.leave (v := none) (fun _ => rfl)
    refine ⟨_, _, g4 _ ?_, hrun, hended, _, _, rfl, ?_, ⟨_, rfl⟩, hW, hsame.mono (by decide) (by decide)⟩
    · show Steps p.tables e below (T3.setTop (mkF m 9 #[.val (.int (0 : Int32)), .val (.int (1 : Int32))] [])) _
      exact X3.returnOut hx Bd.returns (hb hby own_d18_9) hrt
    · show own_Q_rmA16 Z cs wf wK0 wK1 wK2 wK3 wL h0 n0 _ T3.heap _
      rw [e3]
      exact ⟨rfl, N3, rfl⟩
  · skip
    obtain ⟨_, _, ⟨T5, L5, k5, n5⟩, -, X5, ⟨Lc5, hQ5, l5, y5, z5⟩, st5⟩ := Jvm.LawKit.callS X1 hx (y := own_y17) hown (mvT hZ (own_w hw 90 rfl)) (mvT hZ (own_w hw 91 rfl)) (mvT hZ (own_w hw 89 rfl)) (mvT hZ (own_w hw 92 rfl)) (by decide) (backOf (W := 0) (rmA18 l Z a0 hw [] xf  cs wf wK0 wK1 wK2 wK3 wL h0 n0 O0 G0   ) hZ (own_w hw 92 rfl) (own_w hw 89 rfl) (by decide) (by decide)) (g := (mkF m 5 #[.val (.int (0 : Int32)), .val (.int (1 : Int32))] [(.ref xf), (.int (1 : Int32)), (.int (0 : Int32))])) rfl (by rw [hml]; rfl) (argsL := [(.int (0 : Int32)), (.int (1 : Int32)), (.ref xf)]) (rest := []) (lenOf own_pd8 rfl) rfl (by show 2 * 0 + _ ≤ _; exact Nat.le_of_eq rfl) (hb hby own_d18_5) (fun _ _ => ⟨rfl, e1, (by decide : 0 + 0 ≤ _), (by decide : 0 + 0 ≤ _)⟩)
    dsimp only [Pt.U, Pt.locs, Pt.cells, Pt.slots] at X5 l5 y5 z5 st5 hQ5
    subst l5 y5 z5
    obtain ⟨rfl, Nq5, e5⟩ := hQ5
    have N5 := Fr.app N0 Nq5
    have g6 : ∀ t, Steps p.tables e below (T5.setTop (mkF m 9 #[.val (.int (0 : Int32)), .val (.int (1 : Int32))] [])) t → Steps p.tables e below (s₁.setTop (entryFrame m #[(.int (0 : Int32)), (.int (1 : Int32))] 2)) t := by
      intro t k
      refine g2 t ?_
      show Steps p.tables e below (T1.setTop (mkF m 5 #[.val (.int (0 : Int32)), .val (.int (1 : Int32))] [wf, (.int (1 : Int32)), (.int (0 : Int32))])) _
      rw [hwf1]
      refine st5 _ ?_
      refine XS.pop X5.here hx rfl (hb hby own_d18_8) rfl rfl ?_
      exact k
    obtain ⟨fs, hrt, hrun, hended, hW, hsame⟩ := X5.leave (v := none) (fun _ => rfl)
    refine ⟨_, _, g6 _ ?_, hrun, hended, _, _, rfl, ?_, ⟨_, rfl⟩, hW, hsame.mono (by decide) (by decide)⟩
    · show Steps p.tables e below (T5.setTop (mkF m 9 #[.val (.int (0 : Int32)), .val (.int (1 : Int32))] [])) _
      exact X5.returnOut hx Bd.returns (hb hby own_d18_9) hrt
    · show own_Q_rmA16 Z cs wf wK0 wK1 wK2 wK3 wL h0 n0 _ T5.heap _
      rw [e5]
      exact ⟨rfl, N5, rfl⟩
theorem own_pd9 : parseMethodDescriptor "(II)V" = some ⟨[.int, .int], none⟩ := by decide +kernel
theorem own_d17_6 : decode jdk_43_method_2_code 6 = .ok (.aload_n 0, 1) := by decide +kernel
theorem own_d17_7 : decode jdk_43_method_2_code 7 = .ok (.iload_n 1, 1) := by decide +kernel
theorem own_d17_8 : decode jdk_43_method_2_code 8 = .ok (.baload, 1) := by decide +kernel
theorem own_d17_9 : decode jdk_43_method_2_code 9 = .ok (.sipush 255, 3) := by decide +kernel
theorem own_d17_12 : decode jdk_43_method_2_code 12 = .ok (.iand, 1) := by decide +kernel
theorem own_d17_13 : decode jdk_43_method_2_code 13 = .ok (.i2c, 1) := by decide +kernel
theorem own_d17_14 : decode jdk_43_method_2_code 14 = .ok (.ireturn, 1) := by decide +kernel
def own_Q_rmA15 (Z : State) (ob0 : Addr) (k_ob0 : ClassId)  (cs : Int32) (wf : Value) (wK0 : Addr) (wK1 : Addr) (wK2 : Addr) (wK3 : Addr) (wL : Addr) (h0 : Heap) (n0 : Nat) (v : Option Value) (h : Heap) (L : List Loc) : Prop := v = some (.int (104 : Int32)) ∧ Fr n0 L ∧ h = h0
set_option maxRecDepth 65536 in
set_option maxHeartbeats 40000000 in
theorem rmA15 (l : Launch) (Z : State) (a0 : Array Value) (hw : ∀ d ∈ tables_1, d.before a0 Z = true) (ws : List Jvm.Cond) (ob0 : Addr) (k_ob0 : ClassId)  (cs : Int32) (wf : Value) (wK0 : Addr) (wK1 : Addr) (wK2 : Addr) (wK3 : Addr) (wL : Addr) (h0 : Heap) (n0 : Nat) (O0 : Old Z n0 h0) (G : own_Gl Z cs wf wK0 wK1 wK2 wK3 wL) (V_ob0 : Arv Z h0 ob0 k_ob0 .byte (1 : Int32) [(.int (104 : Int32))] (.int (0 : Int32))) :
    MetFree l own_y15 (head1 (Jvm.Cond.code own_y15 jdk_43_method_2_code 2 (some .char) :: ws) ({ frames := 2, cells := 0, slots := 0, locals := 27 } : Room)) (fun a U => a = #[(.ref ob0), (.int (0 : Int32))] ∧ Z.Warmed39 U.vm ∧ U.heap = h0) (fun _ _ _ _ _ => True) (fun _ U o U' => ∃ v L, o = .returned v ∧ own_Q_rmA15 Z ob0 k_ob0 cs wf wK0 wK1 wK2 wK3 wL h0 n0 v U'.heap L ∧ FrameEnd U o U' L ({ frames := 2, cells := 0, slots := 0, locals := 27 } : Room).cells ({ frames := 2, cells := 0, slots := 0, locals := 27 } : Room).slots) := by
  refine MetFree.of_bodySF (plainFor_of_name own_pn4) hisR ?_
  intro p e s m args below meth c s₁ Bd hml0 hP hK
  obtain ⟨rfl, hZ, hh⟩ := hP
  have hx := Bd.exec
  have hby := Bd.bytes
  have hml : c.maxLocals = 2 := hml0
  have hown : s.vm.findClass "java/lang/StringLatin1" = some m.cls := findClass_of_methodNamed Bd.named
  have hnm := (name_of_methodNamed Bd.named Bd.method).1
  have X0 : Stand p l e ({ frames := 2, cells := 0, slots := 0, locals := 27 } : Room) s m #[(.ref ob0), (.int (0 : Int32))] below meth c s₁ [] 0 0 := Stand.of_body Bd
  have e0 : s₁.heap = h0 := by rw [← hh, Bd.state]; rfl
  have N0 := Fr.nil n0
  have Z0 : n0 ≤ h0.size := O0.1 ▸ O0.2.1
  have g0 : ∀ t, Steps p.tables e below (s₁.setTop (mkF m 0 #[.val (.ref ob0), .val (.int (0 : Int32))] [])) t → Steps p.tables e below (s₁.setTop (entryFrame m #[(.ref ob0), (.int (0 : Int32))] 2)) t := fun t k => castTop (own_ef17 m (ob0) ((0 : Int32))) k
  have G0 := G
  obtain ⟨S_CS, hcs, S_WF, hwf, S_PROPOSAL_ANSWER, S_HELLO, S_EVENT, S_PING, S_L, Ex_L, Fa_L⟩ := G
  obtain ⟨c1, Ar1, cq1, S1, Nn1, Hh1, Gg1⟩ := id V_ob0
  obtain ⟨_, _, ⟨T2, L2, k2, n2⟩, -, X2, ⟨Lc2, hQ2, l2, y2, z2⟩, st2⟩ := Jvm.LawKit.callS X0 hx (y := own_y16) hown (mvT hZ (own_w hw 85 rfl)) (mvT hZ (own_w hw 86 rfl)) (mvT hZ (own_w hw 4 rfl)) (mvT hZ (own_w hw 87 rfl)) (by decide) (backOf (W := 0) (rmA16 l Z a0 hw []   cs wf wK0 wK1 wK2 wK3 wL h0 n0 O0 G0   ) hZ (own_w hw 87 rfl) (own_w hw 4 rfl) (by decide) (by decide)) (g := (mkF m 3 #[.val (.ref ob0), .val (.int (0 : Int32))] [(.int (1 : Int32)), (.int (0 : Int32))])) rfl (by rw [hml]; rfl) (argsL := [(.int (0 : Int32)), (.int (1 : Int32))]) (rest := []) (lenOf own_pd9 rfl) rfl (by show 2 * 0 + _ ≤ _; exact Nat.le_of_eq rfl) (hb hby own_d17_3) (fun _ _ => ⟨rfl, e0, (by decide : 0 + 0 ≤ _), (by decide : 0 + 0 ≤ _)⟩)
  dsimp only [Pt.U, Pt.locs, Pt.cells, Pt.slots] at X2 l2 y2 z2 st2 hQ2
  subst l2 y2 z2
  obtain ⟨rfl, Nq2, e2⟩ := hQ2
  have N2 := Fr.app N0 Nq2
  obtain ⟨c3, Ar3, cq3, S3, Nn3, Hh3, Gg3⟩ := id V_ob0
  have hin3 : ¬ ((0 : Int32) < 0 ∨ c3.slots.size ≤ ((0 : Int32)).toNatClampNeg) := inb_of S3 ⟨by decide, by decide⟩
  have hat3 : c3.slots[((0 : Int32)).toNatClampNeg]? = some (.int (104 : Int32)) := Has.at Hh3 hin3 rfl
  have g4 : ∀ t, Steps p.tables e below (T2.setTop (mkF m 14 #[.val (.ref ob0), .val (.int (0 : Int32))] [(.int (104 : Int32))])) t → Steps p.tables e below (s₁.setTop (entryFrame m #[(.ref ob0), (.int (0 : Int32))] 2)) t := by
    intro t k
    refine g0 t ?_
    show Steps p.tables e below (s₁.setTop (mkF m 0 #[.val (.ref ob0), .val (.int (0 : Int32))] [])) _
    refine XS.iloadN X0.here hx rfl (hb hby own_d17_0) rfl ?_
    refine XS.aloadN X0.here hx rfl (hb hby own_d17_1) rfl rfl ?_
    show Steps p.tables e below (s₁.setTop (mkF m 2 #[.val (.ref ob0), .val (.int (0 : Int32))] [(.ref ob0), (.int (0 : Int32))])) _
    refine X0.arraylength hx (by rw [e0]; exact Ar1.1) (State.isArrayOf_alike hZ.alike Ar1.2.1) (g := (mkF m 2 #[.val (.ref ob0), .val (.int (0 : Int32))] [(.ref ob0), (.int (0 : Int32))])) rfl rfl (hb hby own_d17_2) _ ?_
    rw [len_of S1 Nn1]
    refine st2 _ ?_
    refine XS.aloadN X2.here hx rfl (hb hby own_d17_6) rfl rfl ?_
    refine XS.iloadN X2.here hx rfl (hb hby own_d17_7) rfl ?_
    refine X2.baloadBytes hx (j := (0 : Int32)) (v := (.int (104 : Int32))) (by rw [e2]; exact Ar3.1) (State.isArrayOf_alike hZ.alike Ar3.2.1) Ar3.2.2 hin3 hat3 (g := (mkF m 8 #[.val (.ref ob0), .val (.int (0 : Int32))] [(.int (0 : Int32)), (.ref ob0)])) rfl rfl (hb hby own_d17_8) _ ?_
    refine XS.sipush X2.here hx rfl (hb hby own_d17_9) ?_
    show Steps p.tables e below (T2.setTop (mkF m 12 #[.val (.ref ob0), .val (.int (0 : Int32))] [(.int (255 : Int32)), (.int (104 : Int32))])) _
    refine XS.iand X2.here hx rfl (hb hby own_d17_12) rfl ?_
    rw [show ((104 : Int32) &&& (255 : Int32)) = (104 : Int32) from by decide]
    show Steps p.tables e below (T2.setTop (mkF m 13 #[.val (.ref ob0), .val (.int (0 : Int32))] [(.int (104 : Int32))])) _
    refine XS.i2c X2.here hx rfl (hb hby own_d17_13) rfl ?_
    rw [show ((104 : Int32).toUInt32.toUInt16.toUInt32.toInt32) = (104 : Int32) from by decide]
    exact k
  obtain ⟨fs, hrt, hrun, hended, hW, hsame⟩ := X2.leave (v := some (.int (104 : Int32))) (fun h => by rw [Bd.returns] at h; cases h)
  refine ⟨_, _, g4 _ ?_, hrun, hended, _, _, rfl, ?_, ⟨_, rfl⟩, hW, hsame.mono (by decide) (by decide)⟩
  · show Steps p.tables e below (T2.setTop (mkF m 14 #[.val (.ref ob0), .val (.int (0 : Int32))] [(.int (104 : Int32))])) _
    exact retN X2 hx (t := .char) Bd.returns (by simp) (hb hby own_d17_14) hrt
  · show own_Q_rmA15 Z ob0 k_ob0 cs wf wK0 wK1 wK2 wK3 wL h0 n0 _ T2.heap _
    rw [e2]
    exact ⟨rfl, N2, rfl⟩
theorem own_pd10 : parseMethodDescriptor "([BI)C" = some ⟨[(.array .byte), .int], some .char⟩ := by decide +kernel
theorem own_d16_15 : decode jdk_42_method_56_code 15 = .ok (.ireturn, 1) := by decide +kernel
def own_Q_rmA14 (Z : State) (ob0 : Addr) (ob0_value : Addr) (k_ob0_value : ClassId)  (cs : Int32) (wf : Value) (wK0 : Addr) (wK1 : Addr) (wK2 : Addr) (wK3 : Addr) (wL : Addr) (h0 : Heap) (n0 : Nat) (v : Option Value) (h : Heap) (L : List Loc) : Prop := v = some (.int (104 : Int32)) ∧ Fr n0 L ∧ h = h0
set_option maxRecDepth 65536 in
set_option maxHeartbeats 40000000 in
theorem rmA14 (l : Launch) (Z : State) (a0 : Array Value) (hw : ∀ d ∈ tables_1, d.before a0 Z = true) (ws : List Jvm.Cond) (ob0 : Addr) (ob0_value : Addr) (k_ob0_value : ClassId)  (cs : Int32) (wf : Value) (wK0 : Addr) (wK1 : Addr) (wK2 : Addr) (wK3 : Addr) (wL : Addr) (h0 : Heap) (n0 : Nat) (O0 : Old Z n0 h0) (G : own_Gl Z cs wf wK0 wK1 wK2 wK3 wL) (E_ob0 : Exa Z h0 ob0 "java/lang/String") (F_ob0_coder : Fld Z h0 ob0 "java/lang/String" "coder" "B" (.int (0 : Int32))) (V_ob0_value : Arv Z h0 ob0_value k_ob0_value .byte (1 : Int32) [(.int (104 : Int32))] (.int (0 : Int32))) (F_ob0_value : Fld Z h0 ob0 "java/lang/String" "value" "[B" (.ref ob0_value)) :
    MetFree l own_y14 (head1 (Jvm.Cond.code own_y14 jdk_42_method_56_code 2 (some .char) :: ws) ({ frames := 3, cells := 0, slots := 0, locals := 40 } : Room)) (fun a U => a = #[(.ref ob0), (.int (0 : Int32))] ∧ Z.Warmed39 U.vm ∧ U.heap = h0) (fun _ _ _ _ _ => True) (fun _ U o U' => ∃ v L, o = .returned v ∧ own_Q_rmA14 Z ob0 ob0_value k_ob0_value cs wf wK0 wK1 wK2 wK3 wL h0 n0 v U'.heap L ∧ FrameEnd U o U' L ({ frames := 3, cells := 0, slots := 0, locals := 40 } : Room).cells ({ frames := 3, cells := 0, slots := 0, locals := 40 } : Room).slots) := by
  refine MetFree.of_bodySF (plainFor_of_name own_pn3) hisR ?_
  intro p e s m args below meth c s₁ Bd hml0 hP hK
  obtain ⟨rfl, hZ, hh⟩ := hP
  have hx := Bd.exec
  have hby := Bd.bytes
  have hml : c.maxLocals = 2 := hml0
  have hown : s.vm.findClass "java/lang/String" = some m.cls := findClass_of_methodNamed Bd.named
  have hnm := (name_of_methodNamed Bd.named Bd.method).1
  have X0 : Stand p l e ({ frames := 3, cells := 0, slots := 0, locals := 40 } : Room) s m #[(.ref ob0), (.int (0 : Int32))] below meth c s₁ [] 0 0 := Stand.of_body Bd
  have e0 : s₁.heap = h0 := by rw [← hh, Bd.state]; rfl
  have N0 := Fr.nil n0
  have Z0 : n0 ≤ h0.size := O0.1 ▸ O0.2.1
  have g0 : ∀ t, Steps p.tables e below (s₁.setTop (mkF m 0 #[.val (.ref ob0), .val (.int (0 : Int32))] [])) t → Steps p.tables e below (s₁.setTop (entryFrame m #[(.ref ob0), (.int (0 : Int32))] 2)) t := fun t k => castTop (own_ef16 m (ob0) ((0 : Int32))) k
  have G0 := G
  obtain ⟨S_CS, hcs, S_WF, hwf, S_PROPOSAL_ANSWER, S_HELLO, S_EVENT, S_PING, S_L, Ex_L, Fa_L⟩ := G
  obtain ⟨cq1, kq1, q1a, q1b, q1c⟩ := isOf hZ e0 E_ob0
  obtain ⟨_, _, ⟨T1, L1, k1, n1⟩, -, X1, ⟨Lc1, hQ1, l1, y1, z1⟩, st1⟩ := X0.virtualBack hx (y := own_y8) (z := own_y8) hown (mvT hZ (own_w hw 54 rfl)) (mvT hZ (own_w hw 55 rfl)) (notFace_of_selects (args := #[]) (mvT hZ (own_w hw 57 rfl))) (mvT hZ (own_w hw 57 rfl)) (mvT hZ (own_w hw 56 rfl)) (by decide) (backOf (W := 0) (rmA8 l Z a0 hw [] ob0 ob0_value k_ob0_value  cs wf wK0 wK1 wK2 wK3 wL h0 n0 O0 G0 E_ob0 F_ob0_coder V_ob0_value F_ob0_value  ) hZ (own_w hw 58 rfl) (own_w hw 4 rfl) (by decide) (by decide)) q1a q1c (g := (mkF m 1 #[.val (.ref ob0), .val (.int (0 : Int32))] [(.ref ob0)])) rfl (by rw [hml]; rfl) (Steps.refl _) (argsL := []) (rest := []) (lenOf own_pd1 rfl) rfl (by show 2 * 0 + _ ≤ _; exact Nat.le_of_eq rfl) (hb hby own_d16_1) (fun _ _ => ⟨rfl, e0, (by decide : 0 + 0 ≤ _), (by decide : 0 + 0 ≤ _)⟩)
  dsimp only [Pt.U, Pt.locs, Pt.cells, Pt.slots] at X1 l1 y1 z1 st1 hQ1
  subst l1 y1 z1
  obtain ⟨rfl, Nq1, e1⟩ := hQ1
  have N1 := Fr.app N0 Nq1
  obtain ⟨T2, X2, e2, st2⟩ := getF X1 hx hZ hown (host := "") (Or.inl (own_w hw 31 rfl)) Via.refl e1 F_ob0_value (g := (mkF m 8 #[.val (.ref ob0), .val (.int (0 : Int32))] [(.ref ob0)])) rfl rfl (hb hby own_d16_8)
  obtain ⟨_, _, ⟨T3, L3, k3, n3⟩, -, X3, ⟨Lc3, hQ3, l3, y3, z3⟩, st3⟩ := Jvm.LawKit.callS X2 hx (y := own_y15) hown (mvT hZ (own_w hw 82 rfl)) (mvT hZ (own_w hw 83 rfl)) (mvT hZ (own_w hw 62 rfl)) (mvT hZ (own_w hw 84 rfl)) (by decide) (backOf (W := 0) (rmA15 l Z a0 hw [] ob0_value k_ob0_value  cs wf wK0 wK1 wK2 wK3 wL h0 n0 O0 G0 V_ob0_value  ) hZ (own_w hw 84 rfl) (own_w hw 62 rfl) (by decide) (by decide)) (g := (mkF m 12 #[.val (.ref ob0), .val (.int (0 : Int32))] [(.int (0 : Int32)), (.ref ob0_value)])) rfl (by rw [hml]; rfl) (argsL := [(.ref ob0_value), (.int (0 : Int32))]) (rest := []) (lenOf own_pd10 rfl) rfl (by show 2 * 0 + _ ≤ _; exact Nat.le_of_eq rfl) (hb hby own_d16_12) (fun _ _ => ⟨rfl, e2, (by decide : 0 + 0 ≤ _), (by decide : 0 + 0 ≤ _)⟩)
  dsimp only [Pt.U, Pt.locs, Pt.cells, Pt.slots] at X3 l3 y3 z3 st3 hQ3
  subst l3 y3 z3
  obtain ⟨rfl, Nq3, e3⟩ := hQ3
  have N3 := Fr.app N1 Nq3
  have g4 : ∀ t, Steps p.tables e below (T3.setTop (mkF m 15 #[.val (.ref ob0), .val (.int (0 : Int32))] [(.int (104 : Int32))])) t → Steps p.tables e below (s₁.setTop (entryFrame m #[(.ref ob0), (.int (0 : Int32))] 2)) t := by
    intro t k
    refine g0 t ?_
    show Steps p.tables e below (s₁.setTop (mkF m 0 #[.val (.ref ob0), .val (.int (0 : Int32))] [])) _
    refine XS.aloadN X0.here hx rfl (hb hby own_d16_0) rfl rfl ?_
    refine st1.trans ?_
    refine XS.ifNo X1.here hx rfl (hb hby own_d16_4) rfl ((if0 _ _).trans (feq (by decide : ¬ ((1 : Int32) = (0 : Int32)))).1) ?_
    refine XS.aloadN X1.here hx rfl (hb hby own_d16_7) rfl rfl ?_
    refine st2 _ ?_
    refine XS.iloadN X2.here hx rfl (hb hby own_d16_11) rfl ?_
    refine st3 _ ?_
    exact k
  obtain ⟨fs, hrt, hrun, hended, hW, hsame⟩ := X3.leave (v := some (.int (104 : Int32))) (fun h => by rw [Bd.returns] at h; cases h)
  refine ⟨_, _, g4 _ ?_, hrun, hended, _, _, rfl, ?_, ⟨_, rfl⟩, hW, hsame.mono (by decide) (by decide)⟩
  · show Steps p.tables e below (T3.setTop (mkF m 15 #[.val (.ref ob0), .val (.int (0 : Int32))] [(.int (104 : Int32))])) _
    exact retN X3 hx (t := .char) Bd.returns (by simp) (hb hby own_d16_15) hrt
  · show own_Q_rmA14 Z ob0 ob0_value k_ob0_value cs wf wK0 wK1 wK2 wK3 wL h0 n0 _ T3.heap _
    rw [e3]
    exact ⟨rfl, N3, rfl⟩
theorem own_pd11 : parseMethodDescriptor "(I)C" = some ⟨[.int], some .char⟩ := by decide +kernel
theorem own_d4_67 : decode prog_31_method_9_code 67 = .ok (.istore_n 3, 1) := by decide +kernel
theorem own_d4_68 : decode prog_31_method_9_code 68 = .ok (.iload_n 1, 1) := by decide +kernel
theorem own_d4_69 : decode prog_31_method_9_code 69 = .ok (.ifCond .eq 30, 3) := by decide +kernel
theorem own_d4_99 : decode prog_31_method_9_code 99 = .ok (.iload_n 3, 1) := by decide +kernel
theorem own_d4_100 : decode prog_31_method_9_code 100 = .ok (.invokestatic 116, 3) := by decide +kernel
abbrev own_y18 : MethodName := ⟨"com/example/assemble_quorum/assemblequorum/model/MemberAddress", "isNameCharacter", "(C)Z"⟩
theorem own_ef21 (m : MethodId) (x0 : Int32) : entryFrame m #[(.int x0)] 1 = mkF m 0 #[.val (.int x0)] [] := by first | (simp [entryFrame, mkF, argsToLocals, Value.category]; done) | rfl
theorem own_d20_0 : decode prog_31_method_12_code 0 = .ok (.iload_n 0, 1) := by decide +kernel
theorem own_d20_1 : decode prog_31_method_12_code 1 = .ok (.bipush 97, 2) := by decide +kernel
theorem own_d20_3 : decode prog_31_method_12_code 3 = .ok (.if_icmp .lt 9, 3) := by decide +kernel
theorem own_d20_6 : decode prog_31_method_12_code 6 = .ok (.iload_n 0, 1) := by decide +kernel
theorem own_d20_7 : decode prog_31_method_12_code 7 = .ok (.bipush 122, 2) := by decide +kernel
theorem own_d20_9 : decode prog_31_method_12_code 9 = .ok (.if_icmp .le 45, 3) := by decide +kernel
theorem own_d20_54 : decode prog_31_method_12_code 54 = .ok (.iconst 1, 1) := by decide +kernel
theorem own_d20_55 : decode prog_31_method_12_code 55 = .ok (.goto 4, 3) := by decide +kernel
theorem own_d20_59 : decode prog_31_method_12_code 59 = .ok (.ireturn, 1) := by decide +kernel
def own_Q_rmA19 (Z : State)   (cs : Int32) (wf : Value) (wK0 : Addr) (wK1 : Addr) (wK2 : Addr) (wK3 : Addr) (wL : Addr) (h0 : Heap) (n0 : Nat) (v : Option Value) (h : Heap) (L : List Loc) : Prop := v = some (.int (1 : Int32)) ∧ Fr n0 L ∧ h = h0
set_option maxRecDepth 65536 in
set_option maxHeartbeats 40000000 in
theorem rmA19 (l : Launch) (Z : State) (a0 : Array Value) (hw : ∀ d ∈ tables_1, d.before a0 Z = true) (ws : List Jvm.Cond)   (cs : Int32) (wf : Value) (wK0 : Addr) (wK1 : Addr) (wK2 : Addr) (wK3 : Addr) (wL : Addr) (h0 : Heap) (n0 : Nat) (O0 : Old Z n0 h0) (G : own_Gl Z cs wf wK0 wK1 wK2 wK3 wL) :
    MetFree l own_y18 (head1 (Jvm.Cond.code own_y18 prog_31_method_12_code 1 (some .boolean) :: ws) ({ frames := 0, cells := 0, slots := 0, locals := 0 } : Room)) (fun a U => a = #[(.int (104 : Int32))] ∧ Z.Warmed39 U.vm ∧ U.heap = h0) (fun _ _ _ _ _ => True) (fun _ U o U' => ∃ v L, o = .returned v ∧ own_Q_rmA19 Z cs wf wK0 wK1 wK2 wK3 wL h0 n0 v U'.heap L ∧ FrameEnd U o U' L ({ frames := 0, cells := 0, slots := 0, locals := 0 } : Room).cells ({ frames := 0, cells := 0, slots := 0, locals := 0 } : Room).slots) := by
  refine MetFree.of_bodySF (plainFor_of_name own_pn1) hisR ?_
  intro p e s m args below meth c s₁ Bd hml0 hP hK
  obtain ⟨rfl, hZ, hh⟩ := hP
  have hx := Bd.exec
  have hby := Bd.bytes
  have hml : c.maxLocals = 1 := hml0
  have hown : s.vm.findClass "com/example/assemble_quorum/assemblequorum/model/MemberAddress" = some m.cls := findClass_of_methodNamed Bd.named
  have hnm := (name_of_methodNamed Bd.named Bd.method).1
  have X0 : Stand p l e ({ frames := 0, cells := 0, slots := 0, locals := 0 } : Room) s m #[(.int (104 : Int32))] below meth c s₁ [] 0 0 := Stand.of_body Bd
  have e0 : s₁.heap = h0 := by rw [← hh, Bd.state]; rfl
  have N0 := Fr.nil n0
  have Z0 : n0 ≤ h0.size := O0.1 ▸ O0.2.1
  have g0 : ∀ t, Steps p.tables e below (s₁.setTop (mkF m 0 #[.val (.int (104 : Int32))] [])) t → Steps p.tables e below (s₁.setTop (entryFrame m #[(.int (104 : Int32))] 1)) t := fun t k => castTop (own_ef21 m ((104 : Int32))) k
  have G0 := G
  obtain ⟨S_CS, hcs, S_WF, hwf, S_PROPOSAL_ANSWER, S_HELLO, S_EVENT, S_PING, S_L, Ex_L, Fa_L⟩ := G
  have g1 : ∀ t, Steps p.tables e below (s₁.setTop (mkF m 59 #[.val (.int (104 : Int32))] [(.int (1 : Int32))])) t → Steps p.tables e below (s₁.setTop (entryFrame m #[(.int (104 : Int32))] 1)) t := by
    intro t k
    refine g0 t ?_
    show Steps p.tables e below (s₁.setTop (mkF m 0 #[.val (.int (104 : Int32))] [])) _
    refine XS.iloadN X0.here hx rfl (hb hby own_d20_0) rfl ?_
    refine XS.bipush X0.here hx rfl (hb hby own_d20_1) ?_
    refine XS.icmpNo X0.here hx rfl (hb hby own_d20_3) rfl (flt (by decide : ¬ ((104 : Int32) < (97 : Int32)))).1 ?_
    refine XS.iloadN X0.here hx rfl (hb hby own_d20_6) rfl ?_
    refine XS.bipush X0.here hx rfl (hb hby own_d20_7) ?_
    refine XS.icmpYes X0.here hx rfl (pc0 := 9) (pc' := 54) rfl (hb hby own_d20_9) rfl (flt (by decide : ¬ ((122 : Int32) < (104 : Int32)))).2.2.2 (by decide) (by decide) ?_
    refine XS.iconst X0.here hx rfl (hb hby own_d20_54) ?_
    refine XS.goto X0.here hx rfl (pc0 := 55) (pc' := 59) rfl (hb hby own_d20_55) (by decide) (by decide) ?_
    exact k
  obtain ⟨fs, hrt, hrun, hended, hW, hsame⟩ := X0.leave (v := some (.int (1 : Int32))) (fun h => by rw [Bd.returns] at h; cases h)
  refine ⟨_, _, g1 _ ?_, hrun, hended, _, _, rfl, ?_, ⟨_, rfl⟩, hW, hsame.mono (by decide) (by decide)⟩
  · show Steps p.tables e below (s₁.setTop (mkF m 59 #[.val (.int (104 : Int32))] [(.int (1 : Int32))])) _
    exact retN X0 hx (t := .boolean) Bd.returns (by simp) (hb hby own_d20_59) hrt
  · show own_Q_rmA19 Z cs wf wK0 wK1 wK2 wK3 wL h0 n0 _ s₁.heap _
    rw [e0]
    exact ⟨rfl, N0, rfl⟩
theorem own_pd12 : parseMethodDescriptor "(C)Z" = some ⟨[.char], some .boolean⟩ := by decide +kernel
theorem own_d4_103 : decode prog_31_method_9_code 103 = .ok (.istore 4, 2) := by decide +kernel
theorem own_d4_105 : decode prog_31_method_9_code 105 = .ok (.iload 4, 2) := by decide +kernel
theorem own_d4_107 : decode prog_31_method_9_code 107 = .ok (.ifCond .ne 22, 3) := by decide +kernel
theorem own_d4_129 : decode prog_31_method_9_code 129 = .ok (.iinc 2 1, 3) := by decide +kernel
theorem own_d4_132 : decode prog_31_method_9_code 132 = .ok (.goto (-78), 3) := by decide +kernel
theorem own_d4_135 : decode prog_31_method_9_code 135 = .ok (.return_, 1) := by decide +kernel
def own_Q_rmA2 (Z : State) (ob0 : Addr) (ob0_value : Addr) (k_ob0_value : ClassId)  (cs : Int32) (wf : Value) (wK0 : Addr) (wK1 : Addr) (wK2 : Addr) (wK3 : Addr) (wL : Addr) (h0 : Heap) (n0 : Nat) (v : Option Value) (h : Heap) (L : List Loc) : Prop := v = none ∧ Fr n0 L ∧ h = h0
set_option maxRecDepth 65536 in
set_option maxHeartbeats 40000000 in
theorem rmA2 (l : Launch) (Z : State) (a0 : Array Value) (hw : ∀ d ∈ tables_1, d.before a0 Z = true) (ws : List Jvm.Cond) (ob0 : Addr) (ob0_value : Addr) (k_ob0_value : ClassId)  (cs : Int32) (wf : Value) (wK0 : Addr) (wK1 : Addr) (wK2 : Addr) (wK3 : Addr) (wL : Addr) (h0 : Heap) (n0 : Nat) (O0 : Old Z n0 h0) (G : own_Gl Z cs wf wK0 wK1 wK2 wK3 wL) (E_ob0 : Exa Z h0 ob0 "java/lang/String") (F_ob0_coder : Fld Z h0 ob0 "java/lang/String" "coder" "B" (.int (0 : Int32))) (V_ob0_value : Arv Z h0 ob0_value k_ob0_value .byte (1 : Int32) [(.int (104 : Int32))] (.int (0 : Int32))) (F_ob0_value : Fld Z h0 ob0 "java/lang/String" "value" "[B" (.ref ob0_value)) :
    MetFree l own_y2 (head1 (Jvm.Cond.code own_y2 prog_31_method_9_code 5 none :: ws) ({ frames := 4, cells := 0, slots := 0, locals := 59 } : Room)) (fun a U => a = #[(.ref ob0)] ∧ Z.Warmed39 U.vm ∧ U.heap = h0) (fun _ _ _ _ _ => True) (fun _ U o U' => ∃ v L, o = .returned v ∧ own_Q_rmA2 Z ob0 ob0_value k_ob0_value cs wf wK0 wK1 wK2 wK3 wL h0 n0 v U'.heap L ∧ FrameEnd U o U' L ({ frames := 4, cells := 0, slots := 0, locals := 59 } : Room).cells ({ frames := 4, cells := 0, slots := 0, locals := 59 } : Room).slots) := by
  refine MetFree.of_bodySF (plainFor_of_name own_pn1) hisR ?_
  intro p e s m args below meth c s₁ Bd hml0 hP hK
  obtain ⟨rfl, hZ, hh⟩ := hP
  have hx := Bd.exec
  have hby := Bd.bytes
  have hml : c.maxLocals = 5 := hml0
  have hown : s.vm.findClass "com/example/assemble_quorum/assemblequorum/model/MemberAddress" = some m.cls := findClass_of_methodNamed Bd.named
  have hnm := (name_of_methodNamed Bd.named Bd.method).1
  have X0 : Stand p l e ({ frames := 4, cells := 0, slots := 0, locals := 59 } : Room) s m #[(.ref ob0)] below meth c s₁ [] 0 0 := Stand.of_body Bd
  have e0 : s₁.heap = h0 := by rw [← hh, Bd.state]; rfl
  have N0 := Fr.nil n0
  have Z0 : n0 ≤ h0.size := O0.1 ▸ O0.2.1
  have g0 : ∀ t, Steps p.tables e below (s₁.setTop (mkF m 0 #[.val (.ref ob0), .unset, .unset, .unset, .unset] [])) t → Steps p.tables e below (s₁.setTop (entryFrame m #[(.ref ob0)] 5)) t := fun t k => castTop (own_ef4 m (ob0)) k
  have G0 := G
  obtain ⟨S_CS, hcs, S_WF, hwf, S_PROPOSAL_ANSWER, S_HELLO, S_EVENT, S_PING, S_L, Ex_L, Fa_L⟩ := G
  obtain ⟨cq1, kq1, q1a, q1b, q1c⟩ := isOf hZ e0 E_ob0
  obtain ⟨_, _, ⟨T1, L1, k1, n1⟩, -, X1, ⟨Lc1, hQ1, l1, y1, z1⟩, st1⟩ := X0.virtualBack hx (y := own_y3) (z := own_y3) hown (mvT hZ (own_w hw 26 rfl)) (mvT hZ (own_w hw 27 rfl)) (notFace_of_selects (args := #[]) (mvT hZ (own_w hw 29 rfl))) (mvT hZ (own_w hw 29 rfl)) (mvT hZ (own_w hw 28 rfl)) (by decide) (backOf (W := 0) (rmA3 l Z a0 hw [] ob0 ob0_value k_ob0_value  cs wf wK0 wK1 wK2 wK3 wL h0 n0 O0 G0 E_ob0 F_ob0_coder V_ob0_value F_ob0_value  ) hZ (own_w hw 30 rfl) (own_w hw 4 rfl) (by decide) (by decide)) q1a q1c (g := (mkF m 1 #[.val (.ref ob0), .unset, .unset, .unset, .unset] [(.ref ob0)])) rfl (by rw [hml]; rfl) (Steps.refl _) (argsL := []) (rest := []) (lenOf own_pd1 rfl) rfl (by show 2 * 0 + _ ≤ _; exact Nat.le_of_eq rfl) (hb hby own_d4_1) (fun _ _ => ⟨rfl, e0, (by decide : 0 + 0 ≤ _), (by decide : 0 + 0 ≤ _)⟩)
  dsimp only [Pt.U, Pt.locs, Pt.cells, Pt.slots] at X1 l1 y1 z1 st1 hQ1
  subst l1 y1 z1
  obtain ⟨rfl, Nq1, e1⟩ := hQ1
  have N1 := Fr.app N0 Nq1
  obtain ⟨cq2, kq2, q2a, q2b, q2c⟩ := isOf hZ e1 E_ob0
  obtain ⟨_, _, ⟨T2, L2, k2, n2⟩, -, X2, ⟨Lc2, hQ2, l2, y2, z2⟩, st2⟩ := X1.virtualBack hx (y := own_y4) (z := own_y4) hown (mvT hZ (own_w hw 32 rfl)) (mvT hZ (own_w hw 33 rfl)) (notFace_of_selects (args := #[]) (mvT hZ (own_w hw 35 rfl))) (mvT hZ (own_w hw 35 rfl)) (mvT hZ (own_w hw 34 rfl)) (by decide) (backOf (W := 0) (rmA4 l Z a0 hw [] ob0 ob0_value k_ob0_value  cs wf wK0 wK1 wK2 wK3 wL h0 n0 O0 G0 E_ob0 F_ob0_coder V_ob0_value F_ob0_value  ) hZ (own_w hw 36 rfl) (own_w hw 4 rfl) (by decide) (by decide)) q2a q2c (g := (mkF m 18 #[.val (.ref ob0), .unset, .unset, .unset, .unset] [(.ref ob0)])) rfl (by rw [hml]; rfl) (Steps.refl _) (argsL := []) (rest := []) (lenOf own_pd3 rfl) rfl (by show 2 * 0 + _ ≤ _; exact Nat.le_of_eq rfl) (hb hby own_d4_18) (fun _ _ => ⟨rfl, e1, (by decide : 0 + 0 ≤ _), (by decide : 0 + 0 ≤ _)⟩)
  dsimp only [Pt.U, Pt.locs, Pt.cells, Pt.slots] at X2 l2 y2 z2 st2 hQ2
  subst l2 y2 z2
  obtain ⟨rfl, Nq2, e2⟩ := hQ2
  have N2 := Fr.app N1 Nq2
  obtain ⟨cq3, kq3, q3a, q3b, q3c⟩ := isOf hZ e2 E_ob0
  obtain ⟨_, _, ⟨T3, L3, k3, n3⟩, -, X3, ⟨Lc3, hQ3, l3, y3, z3⟩, st3⟩ := X2.virtualBack hx (y := own_y6) (z := own_y6) hown (mvT hZ (own_w hw 44 rfl)) (mvT hZ (own_w hw 45 rfl)) (notFace_of_selects (args := #[]) (mvT hZ (own_w hw 47 rfl))) (mvT hZ (own_w hw 47 rfl)) (mvT hZ (own_w hw 46 rfl)) (by decide) (backOf (W := 0) (rmA6 l Z a0 hw [] ob0 ob0_value k_ob0_value  cs wf wK0 wK1 wK2 wK3 wL h0 n0 O0 G0 E_ob0 F_ob0_coder V_ob0_value F_ob0_value  ) hZ (own_w hw 48 rfl) (own_w hw 4 rfl) (by decide) (by decide)) q3a q3c (g := (mkF m 40 #[.val (.ref ob0), .unset, .unset, .unset, .unset] [(.int (58 : Int32)), (.ref ob0)])) rfl (by rw [hml]; rfl) (Steps.refl _) (argsL := [(.int (58 : Int32))]) (rest := []) (lenOf own_pd7 rfl) rfl (by show 2 * 0 + _ ≤ _; exact Nat.le_of_eq rfl) (hb hby own_d4_40) (fun _ _ => ⟨rfl, e2, (by decide : 0 + 0 ≤ _), (by decide : 0 + 0 ≤ _)⟩)
  dsimp only [Pt.U, Pt.locs, Pt.cells, Pt.slots] at X3 l3 y3 z3 st3 hQ3
  subst l3 y3 z3
  obtain ⟨rfl, Nq3, e3⟩ := hQ3
  have N3 := Fr.app N2 Nq3
  obtain ⟨LL4, XL4, NL4⟩ : ∃ LL : List Loc, Stand p l e ({ frames := 4, cells := 0, slots := 0, locals := 59 } : Room) s m #[(.ref ob0)] below meth c T3 LL 0 0 ∧ Fr n0 LL := ⟨_, X3, N3⟩
  obtain ⟨cq5, kq5, q5a, q5b, q5c⟩ := isOf hZ e3 E_ob0
  obtain ⟨_, _, ⟨T5, L5, k5, n5⟩, -, X5, ⟨Lc5, hQ5, l5, y5, z5⟩, st5⟩ := XL4.virtualBack hx (y := own_y4) (z := own_y4) hown (mvT hZ (own_w hw 32 rfl)) (mvT hZ (own_w hw 33 rfl)) (notFace_of_selects (args := #[]) (mvT hZ (own_w hw 35 rfl))) (mvT hZ (own_w hw 35 rfl)) (mvT hZ (own_w hw 34 rfl)) (by decide) (backOf (W := 1) (rmA4 l Z a0 hw [] ob0 ob0_value k_ob0_value  cs wf wK0 wK1 wK2 wK3 wL h0 n0 O0 G0 E_ob0 F_ob0_coder V_ob0_value F_ob0_value  ) hZ (own_w hw 36 rfl) (own_w hw 4 rfl) (by decide) (by decide)) q5a q5c (g := (mkF m 56 #[.val (.ref ob0), .val (.int (0 : Int32)), .val (.int (0 : Int32)), .unset, .unset] [(.ref ob0), (.int (0 : Int32))])) rfl (by rw [hml]; rfl) (Steps.refl _) (argsL := []) (rest := [(.int (0 : Int32))]) (lenOf own_pd3 rfl) rfl (by show 2 * 0 + _ ≤ _; exact Nat.le_of_eq rfl) (hb hby own_d4_56) (fun _ _ => ⟨rfl, e3, (by decide : 0 + 0 ≤ _), (by decide : 0 + 0 ≤ _)⟩)
  dsimp only [Pt.U, Pt.locs, Pt.cells, Pt.slots] at X5 l5 y5 z5 st5 hQ5
  subst l5 y5 z5
  obtain ⟨rfl, Nq5, e5⟩ := hQ5
  have N5 := Fr.app NL4 Nq5
  obtain ⟨cq6, kq6, q6a, q6b, q6c⟩ := isOf hZ e5 E_ob0
  obtain ⟨_, _, ⟨T6, L6, k6, n6⟩, -, X6, ⟨Lc6, hQ6, l6, y6, z6⟩, st6⟩ := X5.virtualBack hx (y := own_y14) (z := own_y14) hown (mvT hZ (own_w hw 77 rfl)) (mvT hZ (own_w hw 78 rfl)) (notFace_of_selects (args := #[]) (mvT hZ (own_w hw 80 rfl))) (mvT hZ (own_w hw 80 rfl)) (mvT hZ (own_w hw 79 rfl)) (by decide) (backOf (W := 0) (rmA14 l Z a0 hw [] ob0 ob0_value k_ob0_value  cs wf wK0 wK1 wK2 wK3 wL h0 n0 O0 G0 E_ob0 F_ob0_coder V_ob0_value F_ob0_value  ) hZ (own_w hw 81 rfl) (own_w hw 4 rfl) (by decide) (by decide)) q6a q6c (g := (mkF m 64 #[.val (.ref ob0), .val (.int (0 : Int32)), .val (.int (0 : Int32)), .unset, .unset] [(.int (0 : Int32)), (.ref ob0)])) rfl (by rw [hml]; rfl) (Steps.refl _) (argsL := [(.int (0 : Int32))]) (rest := []) (lenOf own_pd11 rfl) rfl (by show 2 * 0 + _ ≤ _; exact Nat.le_of_eq rfl) (hb hby own_d4_64) (fun _ _ => ⟨rfl, e5, (by decide : 0 + 0 ≤ _), (by decide : 0 + 0 ≤ _)⟩)
  dsimp only [Pt.U, Pt.locs, Pt.cells, Pt.slots] at X6 l6 y6 z6 st6 hQ6
  subst l6 y6 z6
  obtain ⟨rfl, Nq6, e6⟩ := hQ6
  have N6 := Fr.app N5 Nq6
  obtain ⟨_, _, ⟨T7, L7, k7, n7⟩, -, X7, ⟨Lc7, hQ7, l7, y7, z7⟩, st7⟩ := Jvm.LawKit.callS X6 hx (y := own_y18) hown (mvT hZ (own_w hw 93 rfl)) (mvT hZ (own_w hw 94 rfl)) (mvT hZ (own_w hw 2 rfl)) (mvT hZ (own_w hw 95 rfl)) (by decide) (backOf (W := 0) (rmA19 l Z a0 hw []   cs wf wK0 wK1 wK2 wK3 wL h0 n0 O0 G0   ) hZ (own_w hw 95 rfl) (own_w hw 2 rfl) (by decide) (by decide)) (g := (mkF m 100 #[.val (.ref ob0), .val (.int (0 : Int32)), .val (.int (0 : Int32)), .val (.int (104 : Int32)), .unset] [(.int (104 : Int32))])) rfl (by rw [hml]; rfl) (argsL := [(.int (104 : Int32))]) (rest := []) (lenOf own_pd12 rfl) rfl (by show 2 * 0 + _ ≤ _; exact Nat.le_of_eq rfl) (hb hby own_d4_100) (fun _ _ => ⟨rfl, e6, (by decide : 0 + 0 ≤ _), (by decide : 0 + 0 ≤ _)⟩)
  dsimp only [Pt.U, Pt.locs, Pt.cells, Pt.slots] at X7 l7 y7 z7 st7 hQ7
  subst l7 y7 z7
  obtain ⟨rfl, Nq7, e7⟩ := hQ7
  have N7 := Fr.app N6 Nq7
  obtain ⟨cq8, kq8, q8a, q8b, q8c⟩ := isOf hZ e7 E_ob0
  obtain ⟨_, _, ⟨T8, L8, k8, n8⟩, -, X8, ⟨Lc8, hQ8, l8, y8, z8⟩, st8⟩ := X7.virtualBack hx (y := own_y4) (z := own_y4) hown (mvT hZ (own_w hw 32 rfl)) (mvT hZ (own_w hw 33 rfl)) (notFace_of_selects (args := #[]) (mvT hZ (own_w hw 35 rfl))) (mvT hZ (own_w hw 35 rfl)) (mvT hZ (own_w hw 34 rfl)) (by decide) (backOf (W := 1) (rmA4 l Z a0 hw [] ob0 ob0_value k_ob0_value  cs wf wK0 wK1 wK2 wK3 wL h0 n0 O0 G0 E_ob0 F_ob0_coder V_ob0_value F_ob0_value  ) hZ (own_w hw 36 rfl) (own_w hw 4 rfl) (by decide) (by decide)) q8a q8c (g := (mkF m 56 #[.val (.ref ob0), .val (.int (0 : Int32)), .val (.int (1 : Int32)), .val (.int (104 : Int32)), .val (.int (1 : Int32))] [(.ref ob0), (.int (1 : Int32))])) rfl (by rw [hml]; rfl) (Steps.refl _) (argsL := []) (rest := [(.int (1 : Int32))]) (lenOf own_pd3 rfl) rfl (by show 2 * 0 + _ ≤ _; exact Nat.le_of_eq rfl) (hb hby own_d4_56) (fun _ _ => ⟨rfl, e7, (by decide : 0 + 0 ≤ _), (by decide : 0 + 0 ≤ _)⟩)
  dsimp only [Pt.U, Pt.locs, Pt.cells, Pt.slots] at X8 l8 y8 z8 st8 hQ8
  subst l8 y8 z8
  obtain ⟨rfl, Nq8, e8⟩ := hQ8
  have N8 := Fr.app N7 Nq8
  have g9 : ∀ t, Steps p.tables e below (T8.setTop (mkF m 135 #[.val (.ref ob0), .val (.int (0 : Int32)), .val (.int (1 : Int32)), .val (.int (104 : Int32)), .val (.int (1 : Int32))] [])) t → Steps p.tables e below (s₁.setTop (entryFrame m #[(.ref ob0)] 5)) t := by
    intro t k
    refine g0 t ?_
    show Steps p.tables e below (s₁.setTop (mkF m 0 #[.val (.ref ob0), .unset, .unset, .unset, .unset] [])) _
    refine XS.aloadN X0.here hx rfl (hb hby own_d4_0) rfl rfl ?_
    refine st1.trans ?_
    refine XS.ifYes X1.here hx rfl (pc0 := 4) (pc' := 17) rfl (hb hby own_d4_4) rfl ((if0 _ _).trans (teq (by decide : (0 : Int32) = (0 : Int32))).1) (by decide) (by decide) ?_
    refine XS.aloadN X1.here hx rfl (hb hby own_d4_17) rfl rfl ?_
    refine st2.trans ?_
    refine XS.sipush X2.here hx rfl (hb hby own_d4_21) ?_
    refine XS.icmpYes X2.here hx rfl (pc0 := 24) (pc' := 37) rfl (hb hby own_d4_24) rfl (flt (by decide : ¬ ((253 : Int32) < (1 : Int32)))).2.2.2 (by decide) (by decide) ?_
    refine XS.aloadN X2.here hx rfl (hb hby own_d4_37) rfl rfl ?_
    show Steps p.tables e below (T2.setTop (mkF m 38 #[.val (.ref ob0), .unset, .unset, .unset, .unset] [(.ref ob0)])) _
    refine XS.bipush X2.here hx rfl (hb hby own_d4_38) ?_
    refine st3.trans ?_
    refine XS.ifYes X3.here hx rfl (pc0 := 43) (pc' := 50) rfl (hb hby own_d4_43) rfl ((if0 _ _).trans (tlt (by decide : (-1 : Int32) < (0 : Int32))).1) (by decide) (by decide) ?_
    refine XS.iconst X3.here hx rfl (hb hby own_d4_50) ?_
    refine XS.istoreN X3.here hx rfl (hb hby own_d4_51) rfl (l' := #[.val (.ref ob0), .val (.int (0 : Int32)), .unset, .unset, .unset]) rfl ?_
    refine XS.iconst X3.here hx rfl (hb hby own_d4_52) ?_
    refine XS.istoreN X3.here hx rfl (hb hby own_d4_53) rfl (l' := #[.val (.ref ob0), .val (.int (0 : Int32)), .val (.int (0 : Int32)), .unset, .unset]) rfl ?_
    refine XS.iloadN X3.here hx rfl (hb hby own_d4_54) rfl ?_
    show Steps p.tables e below (T3.setTop (mkF m 55 #[.val (.ref ob0), .val (.int (0 : Int32)), .val (.int (0 : Int32)), .unset, .unset] [(.int (0 : Int32))])) _
    refine XS.aloadN X3.here hx rfl (hb hby own_d4_55) rfl rfl ?_
    refine st5.trans ?_
    refine XS.icmpNo X5.here hx rfl (hb hby own_d4_59) rfl (tlt (by decide : (0 : Int32) < (1 : Int32))).2.1 ?_
    refine XS.aloadN X5.here hx rfl (hb hby own_d4_62) rfl rfl ?_
    refine XS.iloadN X5.here hx rfl (hb hby own_d4_63) rfl ?_
    refine st6.trans ?_
    refine XS.istoreN X6.here hx rfl (hb hby own_d4_67) rfl (l' := #[.val (.ref ob0), .val (.int (0 : Int32)), .val (.int (0 : Int32)), .val (.int (104 : Int32)), .unset]) rfl ?_
    refine XS.iloadN X6.here hx rfl (hb hby own_d4_68) rfl ?_
    show Steps p.tables e below (T6.setTop (mkF m 69 #[.val (.ref ob0), .val (.int (0 : Int32)), .val (.int (0 : Int32)), .val (.int (104 : Int32)), .unset] [(.int (0 : Int32))])) _
    refine XS.ifYes X6.here hx rfl (pc0 := 69) (pc' := 99) rfl (hb hby own_d4_69) rfl ((if0 _ _).trans (teq (by decide : (0 : Int32) = (0 : Int32))).1) (by decide) (by decide) ?_
    refine XS.iloadN X6.here hx rfl (hb hby own_d4_99) rfl ?_
    refine st7 _ ?_
    refine XS.istore X7.here hx rfl (hb hby own_d4_103) rfl (l' := #[.val (.ref ob0), .val (.int (0 : Int32)), .val (.int (0 : Int32)), .val (.int (104 : Int32)), .val (.int (1 : Int32))]) rfl ?_
    refine XS.iload X7.here hx rfl (hb hby own_d4_105) rfl ?_
    refine XS.ifYes X7.here hx rfl (pc0 := 107) (pc' := 129) rfl (hb hby own_d4_107) rfl ((if0 _ _).trans (feq (by decide : ¬ ((1 : Int32) = (0 : Int32)))).2) (by decide) (by decide) ?_
    show Steps p.tables e below (T7.setTop (mkF m 129 #[.val (.ref ob0), .val (.int (0 : Int32)), .val (.int (0 : Int32)), .val (.int (104 : Int32)), .val (.int (1 : Int32))] [])) _
    refine XS.iinc X7.here hx rfl (hb hby own_d4_129) rfl (l' := #[.val (.ref ob0), .val (.int (0 : Int32)), .val (.int ((0 : Int32) + (1 : Int32))), .val (.int (104 : Int32)), .val (.int (1 : Int32))]) rfl ?_
    rw [show ((0 : Int32) + (1 : Int32)) = (1 : Int32) from by decide]
    refine XS.goto X7.here hx rfl (pc0 := 132) (pc' := 54) rfl (hb hby own_d4_132) (by decide) (by decide) ?_
    show Steps p.tables e below (T7.setTop (mkF m 54 #[.val (.ref ob0), .val (.int (0 : Int32)), .val (.int (1 : Int32)), .val (.int (104 : Int32)), .val (.int (1 : Int32))] [])) _
    refine XS.iloadN X7.here hx rfl (hb hby own_d4_54) rfl ?_
    refine XS.aloadN X7.here hx rfl (hb hby own_d4_55) rfl rfl ?_
    refine st8.trans ?_
    refine XS.icmpYes X8.here hx rfl (pc0 := 59) (pc' := 135) rfl (hb hby own_d4_59) rfl (flt (by decide : ¬ ((1 : Int32) < (1 : Int32)))).2.1 (by decide) (by decide) ?_
    exact k
  obtain ⟨fs, hrt, hrun, hended, hW, hsame⟩ := X8.leave (v := none) (fun _ => rfl)
  refine ⟨_, _, g9 _ ?_, hrun, hended, _, _, rfl, ?_, ⟨_, rfl⟩, hW, hsame.mono (by decide) (by decide)⟩
  · show Steps p.tables e below (T8.setTop (mkF m 135 #[.val (.ref ob0), .val (.int (0 : Int32)), .val (.int (1 : Int32)), .val (.int (104 : Int32)), .val (.int (1 : Int32))] [])) _
    exact X8.returnOut hx Bd.returns (hb hby own_d4_135) hrt
  · show own_Q_rmA2 Z ob0 ob0_value k_ob0_value cs wf wK0 wK1 wK2 wK3 wL h0 n0 _ T8.heap _
    rw [e8]
    exact ⟨rfl, N8, rfl⟩
theorem own_pd13 : parseMethodDescriptor "(Ljava/lang/String;)V" = some ⟨[(.object "java/lang/String")], none⟩ := by decide +kernel
theorem own_d1_15 : decode prog_31_method_1_code 15 = .ok (.iload_n 2, 1) := by decide +kernel
theorem own_d1_16 : decode prog_31_method_1_code 16 = .ok (.iconst 1, 1) := by decide +kernel
theorem own_d1_17 : decode prog_31_method_1_code 17 = .ok (.if_icmp .lt 9, 3) := by decide +kernel
theorem own_d1_20 : decode prog_31_method_1_code 20 = .ok (.iload_n 2, 1) := by decide +kernel
theorem own_d1_21 : decode prog_31_method_1_code 21 = .ok (.ldc 21, 2) := by decide +kernel
theorem own_d1_23 : decode prog_31_method_1_code 23 = .ok (.if_icmp .le 13, 3) := by decide +kernel
theorem own_d1_36 : decode prog_31_method_1_code 36 = .ok (.aload_n 0, 1) := by decide +kernel
theorem own_d1_37 : decode prog_31_method_1_code 37 = .ok (.aload_n 1, 1) := by decide +kernel
theorem own_d1_38 : decode prog_31_method_1_code 38 = .ok (.putfield 28, 3) := by decide +kernel
theorem own_d1_41 : decode prog_31_method_1_code 41 = .ok (.aload_n 0, 1) := by decide +kernel
theorem own_d1_42 : decode prog_31_method_1_code 42 = .ok (.iload_n 2, 1) := by decide +kernel
theorem own_d1_43 : decode prog_31_method_1_code 43 = .ok (.putfield 31, 3) := by decide +kernel
theorem own_la0 {Z : State} {a0 : Array Value} (hw : ∀ d ∈ tables_1, d.before a0 Z = true) : Laid Z a0 "com/example/assemble_quorum/assemblequorum/model/MemberAddress" "com/example/assemble_quorum/assemblequorum/model/MemberAddress" "port" "I" := Or.inr (own_w hw 100 rfl)
theorem own_la1 {Z : State} {a0 : Array Value} (hw : ∀ d ∈ tables_1, d.before a0 Z = true) : Laid Z a0 "com/example/assemble_quorum/assemblequorum/model/MemberAddress" "com/example/assemble_quorum/assemblequorum/model/MemberAddress" "host" "Ljava/lang/String;" := Or.inr (own_w hw 98 rfl)
theorem own_ty0 : parseFieldDescriptor "I" = some .int := by decide
theorem own_ty1 : parseFieldDescriptor "Ljava/lang/String;" = some (.object "java/lang/String") := by decide
theorem own_d1_46 : decode prog_31_method_1_code 46 = .ok (.return_, 1) := by decide +kernel
def own_Q_rmA0 (Z : State) (ob0 : Addr) (ob1 : Addr) (ob1_value : Addr) (k_ob1_value : ClassId) (p2 : Int32)  (cs : Int32) (wf : Value) (wK0 : Addr) (wK1 : Addr) (wK2 : Addr) (wK3 : Addr) (wL : Addr) (h0 : Heap) (n0 : Nat) (v : Option Value) (h : Heap) (L : List Loc) : Prop := v = none ∧ Fr n0 L ∧ Keep h0 h [ob0] ∧ Exa Z h ob0 "com/example/assemble_quorum/assemblequorum/model/MemberAddress" ∧ Fld Z h ob0 "com/example/assemble_quorum/assemblequorum/model/MemberAddress" "host" "Ljava/lang/String;" (.ref ob1) ∧ Fld Z h ob0 "com/example/assemble_quorum/assemblequorum/model/MemberAddress" "port" "I" (.int p2)
set_option maxRecDepth 65536 in
set_option maxHeartbeats 40000000 in
theorem rmA0 (l : Launch) (Z : State) (a0 : Array Value) (hw : ∀ d ∈ tables_1, d.before a0 Z = true) (ws : List Jvm.Cond) (ob0 : Addr) (ob1 : Addr) (ob1_value : Addr) (k_ob1_value : ClassId) (p2 : Int32)  (cs : Int32) (wf : Value) (wK0 : Addr) (wK1 : Addr) (wK2 : Addr) (wK3 : Addr) (wL : Addr) (h0 : Heap) (n0 : Nat) (O0 : Old Z n0 h0) (G : own_Gl Z cs wf wK0 wK1 wK2 wK3 wL) (E_ob0 : Exa Z h0 ob0 "com/example/assemble_quorum/assemblequorum/model/MemberAddress") (F_ob0_host : Fld Z h0 ob0 "com/example/assemble_quorum/assemblequorum/model/MemberAddress" "host" "Ljava/lang/String;" .null) (F_ob0_port : Fld Z h0 ob0 "com/example/assemble_quorum/assemblequorum/model/MemberAddress" "port" "I" (.int (0 : Int32))) (E_ob1 : Exa Z h0 ob1 "java/lang/String") (F_ob1_coder : Fld Z h0 ob1 "java/lang/String" "coder" "B" (.int (0 : Int32))) (V_ob1_value : Arv Z h0 ob1_value k_ob1_value .byte (1 : Int32) [(.int (104 : Int32))] (.int (0 : Int32))) (F_ob1_value : Fld Z h0 ob1 "java/lang/String" "value" "[B" (.ref ob1_value)) (gz_ob0 : n0 ≤ ob0) (hp1 : ¬ p2 < (1 : Int32)) (hp2 : ¬ (65535 : Int32) < p2) :
    MetFree l own_y0 (head1 (Jvm.Cond.code own_y0 prog_31_method_1_code 3 none :: ws) ({ frames := 5, cells := 2, slots := 20, locals := 75 } : Room)) (fun a U => a = #[(.ref ob0), (.ref ob1), (.int p2)] ∧ Z.Warmed39 U.vm ∧ U.heap = h0 ∧ CHv Z own_EL U.vm h0) (fun _ _ _ _ _ => True) (fun _ U o U' => ∃ v L, o = .returned v ∧ own_Q_rmA0 Z ob0 ob1 ob1_value k_ob1_value p2 cs wf wK0 wK1 wK2 wK3 wL h0 n0 v U'.heap L ∧ CHr Z own_EL U.vm U.heap U'.vm U'.heap ∧ ReturnedEndW U o U' L ({ frames := 5, cells := 2, slots := 20, locals := 75 } : Room).cells ({ frames := 5, cells := 2, slots := 20, locals := 75 } : Room).slots) := by
  refine MetFree.of_bodySF (plainFor_of_name own_pn1) hisR ?_
  intro p e s m args below meth c s₁ Bd hml0 hP hK
  obtain ⟨rfl, hZ, hh, hCH⟩ := hP
  have hx := Bd.exec
  have hby := Bd.bytes
  have hml : c.maxLocals = 3 := hml0
  have hown : s.vm.findClass "com/example/assemble_quorum/assemblequorum/model/MemberAddress" = some m.cls := findClass_of_methodNamed Bd.named
  have hnm := (name_of_methodNamed Bd.named Bd.method).1
  have X0 : Stand p l e ({ frames := 5, cells := 2, slots := 20, locals := 75 } : Room) (s.setVm s.vm) m #[(.ref ob0), (.ref ob1), (.int p2)] below meth c s₁ [] 0 0 := Stand.of_body Bd
  have e0 : s₁.heap = h0 := by rw [← hh, Bd.state]; rfl
  have N0 := Fr.nil n0
  have Z0 : n0 ≤ h0.size := O0.1 ▸ O0.2.1
  have g0 : ∀ t, Steps p.tables e below (s₁.setTop (mkF m 0 #[.val (.ref ob0), .val (.ref ob1), .val (.int p2)] [])) t → Steps p.tables e below (s₁.setTop (entryFrame m #[(.ref ob0), (.ref ob1), (.int p2)] 3)) t := fun t k => castTop (own_ef2 m (ob0) (ob1) (p2)) k
  have hC := CHr.refl hCH
  have hS : s.Since s.vm h0.size := (State.WarmedH.refl s).since _
  have hk := Nat.le_refl h0.size
  have G0 := G
  obtain ⟨S_CS, hcs, S_WF, hwf, S_PROPOSAL_ANSWER, S_HELLO, S_EVENT, S_PING, S_L, Ex_L, Fa_L⟩ := G
  obtain ⟨T1, X1, e1, st1⟩ := initO X0 hx hZ hown (own_w hw 15 rfl) (own_w hw 16 rfl) (own_w hw 17 rfl) e0 (g := (mkF m 1 #[.val (.ref ob0), .val (.ref ob1), .val (.int p2)] [(.ref ob0)])) rfl (by rw [hml]; rfl) rfl (hb hby own_d1_1) (by decide) (W := 0) (by show 2 * 0 + _ ≤ _; exact Nat.le_of_eq rfl) (by decide)
  obtain ⟨a2, T2, h2, k2, X2, e2, E2, hS, hk, hZ, hown, C2, -, st2⟩ := ldcOH (s := s) (vm0 := s.vm) X1 hx hZ hown (own_w hw 18 rfl) (own_wS hw) e1 hS hk (own_EW hw) hC.1 (g := (mkF m 5 #[.val (.ref ob0), .val (.ref ob1), .val (.int p2)] [(.ref ob1)])) rfl (hb hby own_d1_5) (n := 16) (by decide) (by decide) (by decide) (by decide)
  have hC := hC.trans C2
  have o3 : Old Z n0 h2 := (Old.ext O0 E2)
  obtain ⟨_, _, ⟨T4, L4, k4, n4⟩, -, X4, ⟨Lc4, hQ4, l4, y4, z4⟩, st4⟩ := Jvm.LawKit.callS X2 hx (y := own_y1) hown (mvT hZ (own_w hw 19 rfl)) (mvT hZ (own_w hw 20 rfl)) (mvT hZ (own_w hw 21 rfl)) (mvT hZ (own_w hw 22 rfl)) (by decide) (backOf (W := 0) (rmA1 l Z a0 hw [] ob1 a2  cs wf wK0 wK1 wK2 wK3 wL h2 n0 o3 G0   ) hZ (own_w hw 22 rfl) (own_w hw 21 rfl) (by decide) (by decide)) (g := (mkF m 7 #[.val (.ref ob0), .val (.ref ob1), .val (.int p2)] [(.ref a2), (.ref ob1)])) rfl (by rw [hml]; rfl) (argsL := [(.ref ob1), (.ref a2)]) (rest := []) (lenOf own_pd0 rfl) rfl (by show 2 * 0 + _ ≤ _; exact Nat.le_of_eq rfl) (hb hby own_d1_7) (fun _ _ => ⟨rfl, e2, (by decide : 2 + 0 ≤ _), (by decide : 20 + 0 ≤ _)⟩)
  dsimp only [Pt.U, Pt.locs, Pt.cells, Pt.slots] at X4 l4 y4 z4 st4 hQ4
  subst l4 y4 z4
  obtain ⟨rfl, Nq4, e4⟩ := hQ4
  have N4 := Fr.app N0 Nq4
  have f5 := (E_ob1.ext E2)
  have f6 := (F_ob1_coder.ext E2)
  have f7 := (V_ob1_value.ext E2)
  have f8 := (F_ob1_value.ext E2)
  obtain ⟨_, _, ⟨T9, L9, k9, n9⟩, -, X9, ⟨Lc9, hQ9, l9, y9, z9⟩, st9⟩ := Jvm.LawKit.callS X4 hx (y := own_y2) hown (mvT hZ (own_w hw 23 rfl)) (mvT hZ (own_w hw 24 rfl)) (mvT hZ (own_w hw 2 rfl)) (mvT hZ (own_w hw 25 rfl)) (by decide) (backOf (W := 0) (rmA2 l Z a0 hw [] ob1 ob1_value k_ob1_value  cs wf wK0 wK1 wK2 wK3 wL h2 n0 o3 G0 f5 f6 f7 f8  ) hZ (own_w hw 25 rfl) (own_w hw 2 rfl) (by decide) (by decide)) (g := (mkF m 12 #[.val (.ref ob0), .val (.ref ob1), .val (.int p2)] [(.ref ob1)])) rfl (by rw [hml]; rfl) (argsL := [(.ref ob1)]) (rest := []) (lenOf own_pd13 rfl) rfl (by show 2 * 0 + _ ≤ _; exact Nat.le_of_eq rfl) (hb hby own_d1_12) (fun _ _ => ⟨rfl, e4, (by decide : 2 + 0 ≤ _), (by decide : 20 + 0 ≤ _)⟩)
  dsimp only [Pt.U, Pt.locs, Pt.cells, Pt.slots] at X9 l9 y9 z9 st9 hQ9
  subst l9 y9 z9
  obtain ⟨rfl, Nq9, e9⟩ := hQ9
  have N9 := Fr.app N4 Nq9
  have hc10 : ¬ (p2 < (1 : Int32)) := hp1
  have hc11 : ¬ ((65535 : Int32) < p2) := hp2
  have f12 := (E_ob0.ext E2)
  have f13 := (F_ob0_host.ext E2)
  obtain ⟨T14, h14, X14, e14, W14, st14⟩ := putF X9 hx hZ hown (host := "") (Or.inl (own_w hw 97 rfl)) Via.refl e9 f13 f12 (Or.inr ⟨(own_w hw 98 rfl), rfl, hnm⟩) (own_w hw 1 rfl) (ty := (.object "java/lang/String")) (by decide) rfl rfl (g := (mkF m 38 #[.val (.ref ob0), .val (.ref ob1), .val (.int p2)] [(.ref ob1), (.ref ob0)])) rfl rfl (hb hby own_d1_38)
  have hC := hC.trans (CHr.wr W14 (Safe.exa hZ.alike f12 (by decide) (by decide)) hC.1)
  have hk := Nat.le_trans hk (Keep.of_wr W14).1
  have Fw14 := f13.same W14
  have N14 := Fr.snoc X14 N9 gz_ob0
  have f15 := (f12.wr W14)
  have f16 := ((F_ob0_port.ext E2).other W14 (Or.inr (slot_ne (own_la0 hw) (own_la1 hw) (by decide) own_ty0 own_ty1)))
  obtain ⟨T17, h17, X17, e17, W17, st17⟩ := putF X14 hx hZ hown (host := "") (Or.inl (own_w hw 99 rfl)) Via.refl e14 f16 f15 (Or.inr ⟨(own_w hw 100 rfl), rfl, hnm⟩) (own_w hw 1 rfl) (ty := .int) (by decide) rfl rfl (g := (mkF m 43 #[.val (.ref ob0), .val (.ref ob1), .val (.int p2)] [(.int p2), (.ref ob0)])) rfl rfl (hb hby own_d1_43)
  have hC := hC.trans (CHr.wr W17 (Safe.exa hZ.alike f15 (by decide) (by decide)) hC.1)
  have hk := Nat.le_trans hk (Keep.of_wr W17).1
  have Fw17 := f16.same W17
  have N17 := Fr.snoc X17 N14 gz_ob0
  have g18 : ∀ t, Steps p.tables e below (T17.setTop (mkF m 46 #[.val (.ref ob0), .val (.ref ob1), .val (.int p2)] [])) t → Steps p.tables e below (s₁.setTop (entryFrame m #[(.ref ob0), (.ref ob1), (.int p2)] 3)) t := by
    intro t k
    refine g0 t ?_
    show Steps p.tables e below (s₁.setTop (mkF m 0 #[.val (.ref ob0), .val (.ref ob1), .val (.int p2)] [])) _
    refine XS.aloadN X0.here hx rfl (hb hby own_d1_0) rfl rfl ?_
    refine st1 _ ?_
    refine XS.aloadN X1.here hx rfl (hb hby own_d1_4) rfl rfl ?_
    refine st2 _ ?_
    refine st4 _ ?_
    refine XS.pop X4.here hx rfl (hb hby own_d1_10) rfl rfl ?_
    refine XS.aloadN X4.here hx rfl (hb hby own_d1_11) rfl rfl ?_
    refine st9 _ ?_
    show Steps p.tables e below (T9.setTop (mkF m 15 #[.val (.ref ob0), .val (.ref ob1), .val (.int p2)] [])) _
    refine XS.iloadN X9.here hx rfl (hb hby own_d1_15) rfl ?_
    refine XS.iconst X9.here hx rfl (hb hby own_d1_16) ?_
    refine XS.icmpNo X9.here hx rfl (hb hby own_d1_17) rfl (flt hc10).1 ?_
    refine XS.iloadN X9.here hx rfl (hb hby own_d1_20) rfl ?_
    refine X9.ldcInt hx hown (mvT hZ (own_w hw 96 rfl)) (g := (mkF m 21 #[.val (.ref ob0), .val (.ref ob1), .val (.int p2)] [(.int p2)])) rfl (hb hby own_d1_21) _ ?_
    refine XS.icmpYes X9.here hx rfl (pc0 := 23) (pc' := 36) rfl (hb hby own_d1_23) rfl (flt hc11).2.2.2 (by decide) (by decide) ?_
    refine XS.aloadN X9.here hx rfl (hb hby own_d1_36) rfl rfl ?_
    refine XS.aloadN X9.here hx rfl (hb hby own_d1_37) rfl rfl ?_
    show Steps p.tables e below (T9.setTop (mkF m 38 #[.val (.ref ob0), .val (.ref ob1), .val (.int p2)] [(.ref ob1), (.ref ob0)])) _
    refine st14 _ ?_
    refine XS.aloadN X14.here hx rfl (hb hby own_d1_41) rfl rfl ?_
    refine XS.iloadN X14.here hx rfl (hb hby own_d1_42) rfl ?_
    refine st17 _ ?_
    exact k
  obtain ⟨fs, hrt, hrun, hended, hRW⟩ := X17.leaveW hS (by rw [e17]; exact hk) (v := none) (fun _ => rfl)
  have f19 := (f15.wr W17)
  have f20 := (Fw14.other W17 (Or.inr (slot_ne (own_la1 hw) (own_la0 hw) (by decide) own_ty1 own_ty0)))
  refine ⟨_, _, g18 _ ?_, hrun, hended, _, _, rfl, ?_, ?_, hRW.1, hRW.2.1, hRW.2.2.1, hRW.2.2.2.mono (by decide) (by decide)⟩
  · show Steps p.tables e below (T17.setTop (mkF m 46 #[.val (.ref ob0), .val (.ref ob1), .val (.int p2)] [])) _
    exact X17.returnOut hx Bd.returns (hb hby own_d1_46) hrt
  · show own_Q_rmA0 Z ob0 ob1 ob1_value k_ob1_value p2 cs wf wK0 wK1 wK2 wK3 wL h0 n0 _ T17.heap _
    rw [e17]
    exact ⟨rfl, N17, (Keep.wr (Keep.wr (Keep.ext (Keep.refl h0 [ob0]) E2) W14 (Or.inl (List.mem_of_getElem? (i := 0) rfl))) W17 (Or.inl (List.mem_of_getElem? (i := 0) rfl))), f19, f20, Fw17⟩
  · rw [hh]
    show CHr Z own_EL s.vm h0 T17.vm T17.heap
    rw [e17]
    exact hC.trans (CHv.at X17 hZ (own_EW hw) hC.1)
theorem own_pd14 : parseMethodDescriptor "(Ljava/lang/String;I)V" = some ⟨[(.object "java/lang/String"), .int], none⟩ := by decide +kernel
abbrev own_y19 : MethodName := ⟨"com/example/assemble_quorum/assemblequorum/model/ProposalNumber", "<init>", "(JLcom/example/assemble_quorum/assemblequorum/model/MemberAddress;)V"⟩
theorem own_ef22 (m : MethodId) (x0 : Addr) (x1 : Int64) (x2 : Addr) : entryFrame m #[(.ref x0), (.long x1), (.ref x2)] 4 = mkF m 0 #[.val (.ref x0), .val (.long x1), .second, .val (.ref x2)] [] := by first | (simp [entryFrame, mkF, argsToLocals, Value.category]; done) | rfl
theorem own_pn6 : plainName "com/example/assemble_quorum/assemblequorum/model/ProposalNumber" = true := by first | (simp [plainName, overriddenIn]; done) | decide +kernel
theorem own_d21_0 : decode prog_34_method_1_code 0 = .ok (.aload_n 0, 1) := by decide +kernel
theorem own_d21_1 : decode prog_34_method_1_code 1 = .ok (.invokespecial 1, 3) := by decide +kernel
theorem own_d21_4 : decode prog_34_method_1_code 4 = .ok (.aload_n 3, 1) := by decide +kernel
theorem own_d21_5 : decode prog_34_method_1_code 5 = .ok (.ldc 7, 2) := by decide +kernel
theorem own_d21_7 : decode prog_34_method_1_code 7 = .ok (.invokestatic 9, 3) := by decide +kernel
theorem own_d21_10 : decode prog_34_method_1_code 10 = .ok (.pop, 1) := by decide +kernel
theorem own_d21_11 : decode prog_34_method_1_code 11 = .ok (.lload_n 1, 1) := by decide +kernel
theorem own_d21_12 : decode prog_34_method_1_code 12 = .ok (.lconst 0, 1) := by decide +kernel
theorem own_d21_13 : decode prog_34_method_1_code 13 = .ok (.lcmp, 1) := by decide +kernel
theorem own_d21_14 : decode prog_34_method_1_code 14 = .ok (.ifCond .ge 13, 3) := by decide +kernel
theorem own_d21_27 : decode prog_34_method_1_code 27 = .ok (.aload_n 0, 1) := by decide +kernel
theorem own_d21_28 : decode prog_34_method_1_code 28 = .ok (.lload_n 1, 1) := by decide +kernel
theorem own_d21_29 : decode prog_34_method_1_code 29 = .ok (.putfield 22, 3) := by decide +kernel
theorem own_d21_32 : decode prog_34_method_1_code 32 = .ok (.aload_n 0, 1) := by decide +kernel
theorem own_d21_33 : decode prog_34_method_1_code 33 = .ok (.aload_n 3, 1) := by decide +kernel
theorem own_d21_34 : decode prog_34_method_1_code 34 = .ok (.putfield 28, 3) := by decide +kernel
theorem own_la2 {Z : State} {a0 : Array Value} (hw : ∀ d ∈ tables_1, d.before a0 Z = true) : Laid Z a0 "com/example/assemble_quorum/assemblequorum/model/ProposalNumber" "com/example/assemble_quorum/assemblequorum/model/ProposalNumber" "proposer" "Lcom/example/assemble_quorum/assemblequorum/model/MemberAddress;" := Or.inr (own_w hw 114 rfl)
theorem own_la3 {Z : State} {a0 : Array Value} (hw : ∀ d ∈ tables_1, d.before a0 Z = true) : Laid Z a0 "com/example/assemble_quorum/assemblequorum/model/ProposalNumber" "com/example/assemble_quorum/assemblequorum/model/ProposalNumber" "counter" "J" := Or.inr (own_w hw 112 rfl)
theorem own_ty2 : parseFieldDescriptor "Lcom/example/assemble_quorum/assemblequorum/model/MemberAddress;" = some (.object "com/example/assemble_quorum/assemblequorum/model/MemberAddress") := by decide
theorem own_ty3 : parseFieldDescriptor "J" = some .long := by decide
theorem own_d21_37 : decode prog_34_method_1_code 37 = .ok (.return_, 1) := by decide +kernel
def own_Q_rmA20 (Z : State) (ob0 : Addr) (p1 : Int64) (ob2 : Addr)  (cs : Int32) (wf : Value) (wK0 : Addr) (wK1 : Addr) (wK2 : Addr) (wK3 : Addr) (wL : Addr) (h0 : Heap) (n0 : Nat) (v : Option Value) (h : Heap) (L : List Loc) : Prop := v = none ∧ Fr n0 L ∧ Keep h0 h [ob0] ∧ Exa Z h ob0 "com/example/assemble_quorum/assemblequorum/model/ProposalNumber" ∧ Fld Z h ob0 "com/example/assemble_quorum/assemblequorum/model/ProposalNumber" "counter" "J" (.long p1) ∧ Fld Z h ob0 "com/example/assemble_quorum/assemblequorum/model/ProposalNumber" "proposer" "Lcom/example/assemble_quorum/assemblequorum/model/MemberAddress;" (.ref ob2)
set_option maxRecDepth 65536 in
set_option maxHeartbeats 40000000 in
theorem rmA20 (l : Launch) (Z : State) (a0 : Array Value) (hw : ∀ d ∈ tables_1, d.before a0 Z = true) (ws : List Jvm.Cond) (ob0 : Addr) (p1 : Int64) (ob2 : Addr)  (cs : Int32) (wf : Value) (wK0 : Addr) (wK1 : Addr) (wK2 : Addr) (wK3 : Addr) (wL : Addr) (h0 : Heap) (n0 : Nat) (O0 : Old Z n0 h0) (G : own_Gl Z cs wf wK0 wK1 wK2 wK3 wL) (E_ob0 : Exa Z h0 ob0 "com/example/assemble_quorum/assemblequorum/model/ProposalNumber") (F_ob0_counter : Fld Z h0 ob0 "com/example/assemble_quorum/assemblequorum/model/ProposalNumber" "counter" "J" (.long (0 : Int64))) (F_ob0_proposer : Fld Z h0 ob0 "com/example/assemble_quorum/assemblequorum/model/ProposalNumber" "proposer" "Lcom/example/assemble_quorum/assemblequorum/model/MemberAddress;" .null) (gz_ob0 : n0 ≤ ob0) (hq : ¬ p1 < (0 : Int64)) :
    MetFree l own_y19 (head1 (Jvm.Cond.code own_y19 prog_34_method_1_code 4 none :: ws) ({ frames := 1, cells := 2, slots := 36, locals := 13 } : Room)) (fun a U => a = #[(.ref ob0), (.long p1), (.ref ob2)] ∧ Z.Warmed39 U.vm ∧ U.heap = h0 ∧ CHv Z own_EL U.vm h0) (fun _ _ _ _ _ => True) (fun _ U o U' => ∃ v L, o = .returned v ∧ own_Q_rmA20 Z ob0 p1 ob2 cs wf wK0 wK1 wK2 wK3 wL h0 n0 v U'.heap L ∧ CHr Z own_EL U.vm U.heap U'.vm U'.heap ∧ ReturnedEndW U o U' L ({ frames := 1, cells := 2, slots := 36, locals := 13 } : Room).cells ({ frames := 1, cells := 2, slots := 36, locals := 13 } : Room).slots) := by
  refine MetFree.of_bodySF (plainFor_of_name own_pn6) hisR ?_
  intro p e s m args below meth c s₁ Bd hml0 hP hK
  obtain ⟨rfl, hZ, hh, hCH⟩ := hP
  have hx := Bd.exec
  have hby := Bd.bytes
  have hml : c.maxLocals = 4 := hml0
  have hown : s.vm.findClass "com/example/assemble_quorum/assemblequorum/model/ProposalNumber" = some m.cls := findClass_of_methodNamed Bd.named
  have hnm := (name_of_methodNamed Bd.named Bd.method).1
  have X0 : Stand p l e ({ frames := 1, cells := 2, slots := 36, locals := 13 } : Room) (s.setVm s.vm) m #[(.ref ob0), (.long p1), (.ref ob2)] below meth c s₁ [] 0 0 := Stand.of_body Bd
  have e0 : s₁.heap = h0 := by rw [← hh, Bd.state]; rfl
  have N0 := Fr.nil n0
  have Z0 : n0 ≤ h0.size := O0.1 ▸ O0.2.1
  have g0 : ∀ t, Steps p.tables e below (s₁.setTop (mkF m 0 #[.val (.ref ob0), .val (.long p1), .second, .val (.ref ob2)] [])) t → Steps p.tables e below (s₁.setTop (entryFrame m #[(.ref ob0), (.long p1), (.ref ob2)] 4)) t := fun t k => castTop (own_ef22 m (ob0) (p1) (ob2)) k
  have hC := CHr.refl hCH
  have hS : s.Since s.vm h0.size := (State.WarmedH.refl s).since _
  have hk := Nat.le_refl h0.size
  have G0 := G
  obtain ⟨S_CS, hcs, S_WF, hwf, S_PROPOSAL_ANSWER, S_HELLO, S_EVENT, S_PING, S_L, Ex_L, Fa_L⟩ := G
  obtain ⟨T1, X1, e1, st1⟩ := initO X0 hx hZ hown (own_w hw 108 rfl) (own_w hw 16 rfl) (own_w hw 17 rfl) e0 (g := (mkF m 1 #[.val (.ref ob0), .val (.long p1), .second, .val (.ref ob2)] [(.ref ob0)])) rfl (by rw [hml]; rfl) rfl (hb hby own_d21_1) (by decide) (W := 0) (by show 2 * 0 + _ ≤ _; exact Nat.le_of_eq rfl) (by decide)
  obtain ⟨a2, T2, h2, k2, X2, e2, E2, hS, hk, hZ, hown, C2, -, st2⟩ := ldcOH (s := s) (vm0 := s.vm) X1 hx hZ hown (own_w hw 109 rfl) (own_wS hw) e1 hS hk (own_EW hw) hC.1 (g := (mkF m 5 #[.val (.ref ob0), .val (.long p1), .second, .val (.ref ob2)] [(.ref ob2)])) rfl (hb hby own_d21_5) (n := 32) (by decide) (by decide) (by decide) (by decide)
  have hC := hC.trans C2
  have o3 : Old Z n0 h2 := (Old.ext O0 E2)
  obtain ⟨_, _, ⟨T4, L4, k4, n4⟩, -, X4, ⟨Lc4, hQ4, l4, y4, z4⟩, st4⟩ := Jvm.LawKit.callS X2 hx (y := own_y1) hown (mvT hZ (own_w hw 110 rfl)) (mvT hZ (own_w hw 20 rfl)) (mvT hZ (own_w hw 21 rfl)) (mvT hZ (own_w hw 22 rfl)) (by decide) (backOf (W := 0) (rmA1 l Z a0 hw [] ob2 a2  cs wf wK0 wK1 wK2 wK3 wL h2 n0 o3 G0   ) hZ (own_w hw 22 rfl) (own_w hw 21 rfl) (by decide) (by decide)) (g := (mkF m 7 #[.val (.ref ob0), .val (.long p1), .second, .val (.ref ob2)] [(.ref a2), (.ref ob2)])) rfl (by rw [hml]; rfl) (argsL := [(.ref ob2), (.ref a2)]) (rest := []) (lenOf own_pd0 rfl) rfl (by show 2 * 0 + _ ≤ _; exact Nat.le_of_eq rfl) (hb hby own_d21_7) (fun _ _ => ⟨rfl, e2, (by decide : 2 + 0 ≤ _), (by decide : 36 + 0 ≤ _)⟩)
  dsimp only [Pt.U, Pt.locs, Pt.cells, Pt.slots] at X4 l4 y4 z4 st4 hQ4
  subst l4 y4 z4
  obtain ⟨rfl, Nq4, e4⟩ := hQ4
  have N4 := Fr.app N0 Nq4
  have hc5 : ¬ (p1 < (0 : Int64)) := hq
  have f6 := (E_ob0.ext E2)
  have f7 := (F_ob0_counter.ext E2)
  obtain ⟨T8, h8, X8, e8, W8, st8⟩ := putF X4 hx hZ hown (host := "") (Or.inl (own_w hw 111 rfl)) Via.refl e4 f7 f6 (Or.inr ⟨(own_w hw 112 rfl), rfl, hnm⟩) (own_w hw 102 rfl) (ty := .long) (by decide) rfl rfl (g := (mkF m 29 #[.val (.ref ob0), .val (.long p1), .second, .val (.ref ob2)] [(.long p1), (.ref ob0)])) rfl rfl (hb hby own_d21_29)
  have hC := hC.trans (CHr.wr W8 (Safe.exa hZ.alike f6 (by decide) (by decide)) hC.1)
  have hk := Nat.le_trans hk (Keep.of_wr W8).1
  have Fw8 := f7.same W8
  have N8 := Fr.snoc X8 N4 gz_ob0
  have f9 := (f6.wr W8)
  have f10 := ((F_ob0_proposer.ext E2).other W8 (Or.inr (slot_ne (own_la2 hw) (own_la3 hw) (by decide) own_ty2 own_ty3)))
  obtain ⟨T11, h11, X11, e11, W11, st11⟩ := putF X8 hx hZ hown (host := "") (Or.inl (own_w hw 113 rfl)) Via.refl e8 f10 f9 (Or.inr ⟨(own_w hw 114 rfl), rfl, hnm⟩) (own_w hw 102 rfl) (ty := (.object "com/example/assemble_quorum/assemblequorum/model/MemberAddress")) (by decide) rfl rfl (g := (mkF m 34 #[.val (.ref ob0), .val (.long p1), .second, .val (.ref ob2)] [(.ref ob2), (.ref ob0)])) rfl rfl (hb hby own_d21_34)
  have hC := hC.trans (CHr.wr W11 (Safe.exa hZ.alike f9 (by decide) (by decide)) hC.1)
  have hk := Nat.le_trans hk (Keep.of_wr W11).1
  have Fw11 := f10.same W11
  have N11 := Fr.snoc X11 N8 gz_ob0
  have g12 : ∀ t, Steps p.tables e below (T11.setTop (mkF m 37 #[.val (.ref ob0), .val (.long p1), .second, .val (.ref ob2)] [])) t → Steps p.tables e below (s₁.setTop (entryFrame m #[(.ref ob0), (.long p1), (.ref ob2)] 4)) t := by
    intro t k
    refine g0 t ?_
    show Steps p.tables e below (s₁.setTop (mkF m 0 #[.val (.ref ob0), .val (.long p1), .second, .val (.ref ob2)] [])) _
    refine XS.aloadN X0.here hx rfl (hb hby own_d21_0) rfl rfl ?_
    refine st1 _ ?_
    refine XS.aloadN X1.here hx rfl (hb hby own_d21_4) rfl rfl ?_
    refine st2 _ ?_
    refine st4 _ ?_
    refine XS.pop X4.here hx rfl (hb hby own_d21_10) rfl rfl ?_
    refine XS.lloadN X4.here hx rfl (hb hby own_d21_11) rfl ?_
    refine XS.lconst X4.here hx rfl (hb hby own_d21_12) ?_
    show Steps p.tables e below (T4.setTop (mkF m 13 #[.val (.ref ob0), .val (.long p1), .second, .val (.ref ob2)] [(.long (0 : Int64)), (.long p1)])) _
    refine XS.lcmp X4.here hx rfl (hb hby own_d21_13) rfl ?_
    refine XS.ifYes X4.here hx rfl (pc0 := 14) (pc' := 27) rfl (hb hby own_d21_14) rfl ((if0 _ _).trans (flt (fun q => hc5 ((lw_lt _ _).mp q))).2.1) (by decide) (by decide) ?_
    refine XS.aloadN X4.here hx rfl (hb hby own_d21_27) rfl rfl ?_
    refine XS.lloadN X4.here hx rfl (hb hby own_d21_28) rfl ?_
    refine st8 _ ?_
    refine XS.aloadN X8.here hx rfl (hb hby own_d21_32) rfl rfl ?_
    refine XS.aloadN X8.here hx rfl (hb hby own_d21_33) rfl rfl ?_
    refine st11 _ ?_
    exact k
  obtain ⟨fs, hrt, hrun, hended, hRW⟩ := X11.leaveW hS (by rw [e11]; exact hk) (v := none) (fun _ => rfl)
  have f13 := (f9.wr W11)
  have f14 := (Fw8.other W11 (Or.inr (slot_ne (own_la3 hw) (own_la2 hw) (by decide) own_ty3 own_ty2)))
  refine ⟨_, _, g12 _ ?_, hrun, hended, _, _, rfl, ?_, ?_, hRW.1, hRW.2.1, hRW.2.2.1, hRW.2.2.2.mono (by decide) (by decide)⟩
  · show Steps p.tables e below (T11.setTop (mkF m 37 #[.val (.ref ob0), .val (.long p1), .second, .val (.ref ob2)] [])) _
    exact X11.returnOut hx Bd.returns (hb hby own_d21_37) hrt
  · show own_Q_rmA20 Z ob0 p1 ob2 cs wf wK0 wK1 wK2 wK3 wL h0 n0 _ T11.heap _
    rw [e11]
    exact ⟨rfl, N11, (Keep.wr (Keep.wr (Keep.ext (Keep.refl h0 [ob0]) E2) W8 (Or.inl (List.mem_of_getElem? (i := 0) rfl))) W11 (Or.inl (List.mem_of_getElem? (i := 0) rfl))), f13, f14, Fw11⟩
  · rw [hh]
    show CHr Z own_EL s.vm h0 T11.vm T11.heap
    rw [e11]
    exact hC.trans (CHv.at X11 hZ (own_EW hw) hC.1)
theorem own_pd15 : parseMethodDescriptor "(JLcom/example/assemble_quorum/assemblequorum/model/MemberAddress;)V" = some ⟨[.long, (.object "com/example/assemble_quorum/assemblequorum/model/MemberAddress")], none⟩ := by decide +kernel
abbrev own_y20 : MethodName := ⟨"com/example/assemble_quorum/assemblequorum/io/BuilderPriorPinLaw", "kindOf", "(I)Lcom/example/assemble_quorum/assemblequorum/io/Message$Kind;"⟩
theorem own_ef23 (m : MethodId) (x0 : Int32) : entryFrame m #[(.int x0)] 2 = mkF m 0 #[.val (.int x0), .unset] [] := by first | (simp [entryFrame, mkF, argsToLocals, Value.category]; done) | rfl
theorem own_d22_0 : decode method_2_code 0 = .ok (.iload_n 0, 1) := by decide +kernel
theorem own_d22_1 : decode method_2_code 1 = .ok (.iconst 3, 1) := by decide +kernel
theorem own_d22_2 : decode method_2_code 2 = .ok (.iand, 1) := by decide +kernel
theorem own_d22_3 : decode method_2_code 3 = .ok (.istore_n 1, 1) := by decide +kernel
theorem own_d22_4 : decode method_2_code 4 = .ok (.iload_n 1, 1) := by decide +kernel
theorem own_d22_5 : decode method_2_code 5 = .ok (.ifCond .ne 7, 3) := by decide +kernel
theorem own_d22_8 : decode method_2_code 8 = .ok (.getstatic 7, 3) := by decide +kernel
theorem own_d22_11 : decode method_2_code 11 = .ok (.areturn, 1) := by decide +kernel
theorem own_d22_12 : decode method_2_code 12 = .ok (.iload_n 1, 1) := by decide +kernel
theorem own_d22_13 : decode method_2_code 13 = .ok (.iconst 1, 1) := by decide +kernel
theorem own_d22_14 : decode method_2_code 14 = .ok (.if_icmp .ne 7, 3) := by decide +kernel
theorem own_d22_17 : decode method_2_code 17 = .ok (.getstatic 13, 3) := by decide +kernel
theorem own_d22_20 : decode method_2_code 20 = .ok (.areturn, 1) := by decide +kernel
theorem own_d22_21 : decode method_2_code 21 = .ok (.iload_n 1, 1) := by decide +kernel
theorem own_d22_22 : decode method_2_code 22 = .ok (.iconst 2, 1) := by decide +kernel
theorem own_d22_23 : decode method_2_code 23 = .ok (.if_icmp .ne 7, 3) := by decide +kernel
theorem own_d22_26 : decode method_2_code 26 = .ok (.getstatic 16, 3) := by decide +kernel
theorem own_d22_29 : decode method_2_code 29 = .ok (.areturn, 1) := by decide +kernel
theorem own_d22_30 : decode method_2_code 30 = .ok (.getstatic 19, 3) := by decide +kernel
theorem own_d22_33 : decode method_2_code 33 = .ok (.areturn, 1) := by decide +kernel
def own_Q_rmA21 (Z : State) (p0 : Int32) (r : Addr) (cs : Int32) (wf : Value) (wK0 : Addr) (wK1 : Addr) (wK2 : Addr) (wK3 : Addr) (wL : Addr) (h0 : Heap) (n0 : Nat) (v : Option Value) (h : Heap) (L : List Loc) : Prop := v = some (.ref r) ∧ Fr n0 L ∧ h = h0
set_option maxRecDepth 65536 in
set_option maxHeartbeats 40000000 in
theorem rmA21 (l : Launch) (Z : State) (a0 : Array Value) (hw : ∀ d ∈ tables_1, d.before a0 Z = true) (ws : List Jvm.Cond) (p0 : Int32) (r : Addr) (cs : Int32) (wf : Value) (wK0 : Addr) (wK1 : Addr) (wK2 : Addr) (wK3 : Addr) (wL : Addr) (h0 : Heap) (n0 : Nat) (O0 : Old Z n0 h0) (G : own_Gl Z cs wf wK0 wK1 wK2 wK3 wL) (hr : (if (p0 &&& (3 : Int32)) = (0 : Int32) then wK0 else if (p0 &&& (3 : Int32)) = (1 : Int32) then wK1 else if (p0 &&& (3 : Int32)) = (2 : Int32) then wK2 else wK3) = r) :
    MetFree l own_y20 (head1 (Jvm.Cond.code own_y20 method_2_code 2 (some (.object "com/example/assemble_quorum/assemblequorum/io/Message$Kind")) :: ws) ({ frames := 0, cells := 0, slots := 0, locals := 0 } : Room)) (fun a U => a = #[(.int p0)] ∧ Z.Warmed39 U.vm ∧ U.heap = h0) (fun _ _ _ _ _ => True) (fun _ U o U' => ∃ v L, o = .returned v ∧ own_Q_rmA21 Z p0 r cs wf wK0 wK1 wK2 wK3 wL h0 n0 v U'.heap L ∧ FrameEnd U o U' L ({ frames := 0, cells := 0, slots := 0, locals := 0 } : Room).cells ({ frames := 0, cells := 0, slots := 0, locals := 0 } : Room).slots) := by
  refine MetFree.of_bodySF (plainFor_of_name own_pn0) hisR ?_
  intro p e s m args below meth c s₁ Bd hml0 hP hK
  obtain ⟨rfl, hZ, hh⟩ := hP
  have hx := Bd.exec
  have hby := Bd.bytes
  have hml : c.maxLocals = 2 := hml0
  have hown : s.vm.findClass "com/example/assemble_quorum/assemblequorum/io/BuilderPriorPinLaw" = some m.cls := findClass_of_methodNamed Bd.named
  have hnm := (name_of_methodNamed Bd.named Bd.method).1
  have X0 : Stand p l e ({ frames := 0, cells := 0, slots := 0, locals := 0 } : Room) s m #[(.int p0)] below meth c s₁ [] 0 0 := Stand.of_body Bd
  have e0 : s₁.heap = h0 := by rw [← hh, Bd.state]; rfl
  have N0 := Fr.nil n0
  have Z0 : n0 ≤ h0.size := O0.1 ▸ O0.2.1
  have g0 : ∀ t, Steps p.tables e below (s₁.setTop (mkF m 0 #[.val (.int p0), .unset] [])) t → Steps p.tables e below (s₁.setTop (entryFrame m #[(.int p0)] 2)) t := fun t k => castTop (own_ef23 m (p0)) k
  have G0 := G
  obtain ⟨S_CS, hcs, S_WF, hwf, S_PROPOSAL_ANSWER, S_HELLO, S_EVENT, S_PING, S_L, Ex_L, Fa_L⟩ := G
  have g2 : ∀ t, Steps p.tables e below (s₁.setTop (mkF m 5 #[.val (.int p0), .val (.int (p0 &&& (3 : Int32)))] [(.int (p0 &&& (3 : Int32)))])) t → Steps p.tables e below (s₁.setTop (entryFrame m #[(.int p0)] 2)) t := by
    intro t k
    refine g0 t ?_
    show Steps p.tables e below (s₁.setTop (mkF m 0 #[.val (.int p0), .unset] [])) _
    refine XS.iloadN X0.here hx rfl (hb hby own_d22_0) rfl ?_
    refine XS.iconst X0.here hx rfl (hb hby own_d22_1) ?_
    show Steps p.tables e below (s₁.setTop (mkF m 2 #[.val (.int p0), .unset] [(.int (3 : Int32)), (.int p0)])) _
    refine XS.iand X0.here hx rfl (hb hby own_d22_2) rfl ?_
    refine XS.istoreN X0.here hx rfl (hb hby own_d22_3) rfl (l' := #[.val (.int p0), .val (.int (p0 &&& (3 : Int32)))]) rfl ?_
    refine XS.iloadN X0.here hx rfl (hb hby own_d22_4) rfl ?_
    exact k
  by_cases hc1 : (p0 &&& (3 : Int32)) = (0 : Int32)
  · obtain ⟨T3, X3, e3, st3⟩ := getS2 X0 hx hZ hown (host := "") (Or.inl (own_w hw 119 rfl)) Via.refl e0 (S_PROPOSAL_ANSWER.ext O0.2) (g := (mkF m 8 #[.val (.int p0), .val (.int (p0 &&& (3 : Int32)))] [])) rfl (hb hby own_d22_8)
    have g4 : ∀ t, Steps p.tables e below (T3.setTop (mkF m 11 #[.val (.int p0), .val (.int (p0 &&& (3 : Int32)))] [(.ref wK0)])) t → Steps p.tables e below (s₁.setTop (entryFrame m #[(.int p0)] 2)) t := by
      intro t k
      refine g2 t ?_
      show Steps p.tables e below (s₁.setTop (mkF m 5 #[.val (.int p0), .val (.int (p0 &&& (3 : Int32)))] [(.int (p0 &&& (3 : Int32)))])) _
      refine XS.ifNo X0.here hx rfl (hb hby own_d22_5) rfl ((if0 _ _).trans (teq hc1).2) ?_
      refine st3 _ ?_
      exact k
    obtain ⟨fs, hrt, hrun, hended, hW, hsame⟩ := X3.leave (v := some (.ref wK0)) (fun h => by rw [Bd.returns] at h; cases h)
    refine ⟨_, _, g4 _ ?_, hrun, hended, _, _, rfl, ?_, ⟨_, rfl⟩, hW, hsame.mono (by decide) (by decide)⟩
    · show Steps p.tables e below (T3.setTop (mkF m 11 #[.val (.int p0), .val (.int (p0 &&& (3 : Int32)))] [(.ref wK0)])) _
      jvm_step X3.here [X3.here.top, hx, (hb hby own_d22_11), X3.method', Bd.returns, Value.isRef, FieldType.isReference]
      first | (intro acts; rw [hrt _ acts rfl rfl rfl]) | rw [hrt _ _ rfl rfl rfl]
      exact Steps.refl _
    · show own_Q_rmA21 Z p0 r cs wf wK0 wK1 wK2 wK3 wL h0 n0 _ T3.heap _
      rw [e3]
      exact ⟨by rw [← hr, if_pos hc1], N0, rfl⟩
  · have g6 : ∀ t, Steps p.tables e below (s₁.setTop (mkF m 14 #[.val (.int p0), .val (.int (p0 &&& (3 : Int32)))] [(.int (1 : Int32)), (.int (p0 &&& (3 : Int32)))])) t → Steps p.tables e below (s₁.setTop (entryFrame m #[(.int p0)] 2)) t := by
      intro t k
      refine g2 t ?_
      show Steps p.tables e below (s₁.setTop (mkF m 5 #[.val (.int p0), .val (.int (p0 &&& (3 : Int32)))] [(.int (p0 &&& (3 : Int32)))])) _
      refine XS.ifYes X0.here hx rfl (pc0 := 5) (pc' := 12) rfl (hb hby own_d22_5) rfl ((if0 _ _).trans (feq hc1).2) (by decide) (by decide) ?_
      refine XS.iloadN X0.here hx rfl (hb hby own_d22_12) rfl ?_
      refine XS.iconst X0.here hx rfl (hb hby own_d22_13) ?_
      exact k
    by_cases hc5 : (p0 &&& (3 : Int32)) = (1 : Int32)
    · obtain ⟨T7, X7, e7, st7⟩ := getS2 X0 hx hZ hown (host := "") (Or.inl (own_w hw 254 rfl)) Via.refl e0 (S_HELLO.ext O0.2) (g := (mkF m 17 #[.val (.int p0), .val (.int (p0 &&& (3 : Int32)))] [])) rfl (hb hby own_d22_17)
      have g8 : ∀ t, Steps p.tables e below (T7.setTop (mkF m 20 #[.val (.int p0), .val (.int (p0 &&& (3 : Int32)))] [(.ref wK1)])) t → Steps p.tables e below (s₁.setTop (entryFrame m #[(.int p0)] 2)) t := by
        intro t k
        refine g6 t ?_
        show Steps p.tables e below (s₁.setTop (mkF m 14 #[.val (.int p0), .val (.int (p0 &&& (3 : Int32)))] [(.int (1 : Int32)), (.int (p0 &&& (3 : Int32)))])) _
        refine XS.icmpNo X0.here hx rfl (hb hby own_d22_14) rfl (teq hc5).2 ?_
        refine st7 _ ?_
        exact k
      obtain ⟨fs, hrt, hrun, hended, hW, hsame⟩ := X7.leave (v := some (.ref wK1)) (fun h => by rw [Bd.returns] at h; cases h)
      refine ⟨_, _, g8 _ ?_, hrun, hended, _, _, rfl, ?_, ⟨_, rfl⟩, hW, hsame.mono (by decide) (by decide)⟩
      · show Steps p.tables e below (T7.setTop (mkF m 20 #[.val (.int p0), .val (.int (p0 &&& (3 : Int32)))] [(.ref wK1)])) _
        jvm_step X7.here [X7.here.top, hx, (hb hby own_d22_20), X7.method', Bd.returns, Value.isRef, FieldType.isReference]
        first | (intro acts; rw [hrt _ acts rfl rfl rfl]) | rw [hrt _ _ rfl rfl rfl]
        exact Steps.refl _
      · show own_Q_rmA21 Z p0 r cs wf wK0 wK1 wK2 wK3 wL h0 n0 _ T7.heap _
        rw [e7]
        exact ⟨by rw [← hr, if_neg hc1, if_pos hc5], N0, rfl⟩
    · have g10 : ∀ t, Steps p.tables e below (s₁.setTop (mkF m 23 #[.val (.int p0), .val (.int (p0 &&& (3 : Int32)))] [(.int (2 : Int32)), (.int (p0 &&& (3 : Int32)))])) t → Steps p.tables e below (s₁.setTop (entryFrame m #[(.int p0)] 2)) t := by
        intro t k
        refine g6 t ?_
        show Steps p.tables e below (s₁.setTop (mkF m 14 #[.val (.int p0), .val (.int (p0 &&& (3 : Int32)))] [(.int (1 : Int32)), (.int (p0 &&& (3 : Int32)))])) _
        refine XS.icmpYes X0.here hx rfl (pc0 := 14) (pc' := 21) rfl (hb hby own_d22_14) rfl (feq hc5).2 (by decide) (by decide) ?_
        refine XS.iloadN X0.here hx rfl (hb hby own_d22_21) rfl ?_
        refine XS.iconst X0.here hx rfl (hb hby own_d22_22) ?_
        exact k
      by_cases hc9 : (p0 &&& (3 : Int32)) = (2 : Int32)
      · obtain ⟨T11, X11, e11, st11⟩ := getS2 X0 hx hZ hown (host := "") (Or.inl (own_w hw 256 rfl)) Via.refl e0 (S_EVENT.ext O0.2) (g := (mkF m 26 #[.val (.int p0), .val (.int (p0 &&& (3 : Int32)))] [])) rfl (hb hby own_d22_26)
        have g12 : ∀ t, Steps p.tables e below (T11.setTop (mkF m 29 #[.val (.int p0), .val (.int (p0 &&& (3 : Int32)))] [(.ref wK2)])) t → Steps p.tables e below (s₁.setTop (entryFrame m #[(.int p0)] 2)) t := by
          intro t k
          refine g10 t ?_
          show Steps p.tables e below (s₁.setTop (mkF m 23 #[.val (.int p0), .val (.int (p0 &&& (3 : Int32)))] [(.int (2 : Int32)), (.int (p0 &&& (3 : Int32)))])) _
          refine XS.icmpNo X0.here hx rfl (hb hby own_d22_23) rfl (teq hc9).2 ?_
          refine st11 _ ?_
          exact k
        obtain ⟨fs, hrt, hrun, hended, hW, hsame⟩ := X11.leave (v := some (.ref wK2)) (fun h => by rw [Bd.returns] at h; cases h)
        refine ⟨_, _, g12 _ ?_, hrun, hended, _, _, rfl, ?_, ⟨_, rfl⟩, hW, hsame.mono (by decide) (by decide)⟩
        · show Steps p.tables e below (T11.setTop (mkF m 29 #[.val (.int p0), .val (.int (p0 &&& (3 : Int32)))] [(.ref wK2)])) _
          jvm_step X11.here [X11.here.top, hx, (hb hby own_d22_29), X11.method', Bd.returns, Value.isRef, FieldType.isReference]
          first | (intro acts; rw [hrt _ acts rfl rfl rfl]) | rw [hrt _ _ rfl rfl rfl]
          exact Steps.refl _
        · show own_Q_rmA21 Z p0 r cs wf wK0 wK1 wK2 wK3 wL h0 n0 _ T11.heap _
          rw [e11]
          exact ⟨by rw [← hr, if_neg hc1, if_neg hc5, if_pos hc9], N0, rfl⟩
      · obtain ⟨T13, X13, e13, st13⟩ := getS2 X0 hx hZ hown (host := "") (Or.inl (own_w hw 252 rfl)) Via.refl e0 (S_PING.ext O0.2) (g := (mkF m 30 #[.val (.int p0), .val (.int (p0 &&& (3 : Int32)))] [])) rfl (hb hby own_d22_30)
        have g14 : ∀ t, Steps p.tables e below (T13.setTop (mkF m 33 #[.val (.int p0), .val (.int (p0 &&& (3 : Int32)))] [(.ref wK3)])) t → Steps p.tables e below (s₁.setTop (entryFrame m #[(.int p0)] 2)) t := by
          intro t k
          refine g10 t ?_
          show Steps p.tables e below (s₁.setTop (mkF m 23 #[.val (.int p0), .val (.int (p0 &&& (3 : Int32)))] [(.int (2 : Int32)), (.int (p0 &&& (3 : Int32)))])) _
          refine XS.icmpYes X0.here hx rfl (pc0 := 23) (pc' := 30) rfl (hb hby own_d22_23) rfl (feq hc9).2 (by decide) (by decide) ?_
          refine st13 _ ?_
          exact k
        obtain ⟨fs, hrt, hrun, hended, hW, hsame⟩ := X13.leave (v := some (.ref wK3)) (fun h => by rw [Bd.returns] at h; cases h)
        refine ⟨_, _, g14 _ ?_, hrun, hended, _, _, rfl, ?_, ⟨_, rfl⟩, hW, hsame.mono (by decide) (by decide)⟩
        · show Steps p.tables e below (T13.setTop (mkF m 33 #[.val (.int p0), .val (.int (p0 &&& (3 : Int32)))] [(.ref wK3)])) _
          jvm_step X13.here [X13.here.top, hx, (hb hby own_d22_33), X13.method', Bd.returns, Value.isRef, FieldType.isReference]
          first | (intro acts; rw [hrt _ acts rfl rfl rfl]) | rw [hrt _ _ rfl rfl rfl]
          exact Steps.refl _
        · show own_Q_rmA21 Z p0 r cs wf wK0 wK1 wK2 wK3 wL h0 n0 _ T13.heap _
          rw [e13]
          exact ⟨by rw [← hr, if_neg hc1, if_neg hc5, if_neg hc9], N0, rfl⟩
theorem own_pd16 : parseMethodDescriptor "(I)Lcom/example/assemble_quorum/assemblequorum/io/Message$Kind;" = some ⟨[.int], some (.object "com/example/assemble_quorum/assemblequorum/io/Message$Kind")⟩ := by decide +kernel
abbrev own_y21 : MethodName := ⟨"com/example/assemble_quorum/assemblequorum/io/Message$Builder", "<init>", "(Lcom/example/assemble_quorum/assemblequorum/io/Message$Kind;)V"⟩
theorem own_ef24 (m : MethodId) (x0 : Addr) (x1 : Addr) : entryFrame m #[(.ref x0), (.ref x1)] 2 = mkF m 0 #[.val (.ref x0), .val (.ref x1)] [] := by first | (simp [entryFrame, mkF, argsToLocals, Value.category]; done) | rfl
theorem own_pn7 : plainName "com/example/assemble_quorum/assemblequorum/io/Message$Builder" = true := by first | (simp [plainName, overriddenIn]; done) | decide +kernel
theorem own_d23_0 : decode prog_18_method_1_code 0 = .ok (.aload_n 0, 1) := by decide +kernel
theorem own_d23_1 : decode prog_18_method_1_code 1 = .ok (.invokespecial 1, 3) := by decide +kernel
theorem own_d23_4 : decode prog_18_method_1_code 4 = .ok (.aload_n 0, 1) := by decide +kernel
theorem own_d23_5 : decode prog_18_method_1_code 5 = .ok (.invokestatic 7, 3) := by decide +kernel
abbrev own_y22 : MethodName := ⟨"java/util/List", "of", "()Ljava/util/List;"⟩
theorem own_ef25 (m : MethodId)  : entryFrame m #[] 0 = mkF m 0 #[] [] := by first | (simp [entryFrame, mkF, argsToLocals, Value.category]; done) | rfl
theorem own_pn8 : plainName "java/util/List" = true := by first | (simp [plainName, overriddenIn]; done) | decide +kernel
theorem own_d24_0 : decode jdk_40_method_36_code 0 = .ok (.getstatic 90, 3) := by decide +kernel
theorem own_d24_3 : decode jdk_40_method_36_code 3 = .ok (.areturn, 1) := by decide +kernel
def own_Q_rmA23 (Z : State)   (cs : Int32) (wf : Value) (wK0 : Addr) (wK1 : Addr) (wK2 : Addr) (wK3 : Addr) (wL : Addr) (h0 : Heap) (n0 : Nat) (v : Option Value) (h : Heap) (L : List Loc) : Prop := v = some (.ref wL) ∧ Fr n0 L ∧ h = h0
set_option maxRecDepth 65536 in
set_option maxHeartbeats 40000000 in
theorem rmA23 (l : Launch) (Z : State) (a0 : Array Value) (hw : ∀ d ∈ tables_1, d.before a0 Z = true) (ws : List Jvm.Cond)   (cs : Int32) (wf : Value) (wK0 : Addr) (wK1 : Addr) (wK2 : Addr) (wK3 : Addr) (wL : Addr) (h0 : Heap) (n0 : Nat) (O0 : Old Z n0 h0) (G : own_Gl Z cs wf wK0 wK1 wK2 wK3 wL) :
    MetFree l own_y22 (head1 (Jvm.Cond.code own_y22 jdk_40_method_36_code 0 (some (.object "java/util/List")) :: ws) ({ frames := 0, cells := 0, slots := 0, locals := 0 } : Room)) (fun a U => a = #[] ∧ Z.Warmed39 U.vm ∧ U.heap = h0) (fun _ _ _ _ _ => True) (fun _ U o U' => ∃ v L, o = .returned v ∧ own_Q_rmA23 Z cs wf wK0 wK1 wK2 wK3 wL h0 n0 v U'.heap L ∧ FrameEnd U o U' L ({ frames := 0, cells := 0, slots := 0, locals := 0 } : Room).cells ({ frames := 0, cells := 0, slots := 0, locals := 0 } : Room).slots) := by
  refine MetFree.of_bodySF (plainFor_of_name own_pn8) hisR ?_
  intro p e s m args below meth c s₁ Bd hml0 hP hK
  obtain ⟨rfl, hZ, hh⟩ := hP
  have hx := Bd.exec
  have hby := Bd.bytes
  have hml : c.maxLocals = 0 := hml0
  have hown : s.vm.findClass "java/util/List" = some m.cls := findClass_of_methodNamed Bd.named
  have hnm := (name_of_methodNamed Bd.named Bd.method).1
  have X0 : Stand p l e ({ frames := 0, cells := 0, slots := 0, locals := 0 } : Room) s m #[] below meth c s₁ [] 0 0 := Stand.of_body Bd
  have e0 : s₁.heap = h0 := by rw [← hh, Bd.state]; rfl
  have N0 := Fr.nil n0
  have Z0 : n0 ≤ h0.size := O0.1 ▸ O0.2.1
  have g0 : ∀ t, Steps p.tables e below (s₁.setTop (mkF m 0 #[] [])) t → Steps p.tables e below (s₁.setTop (entryFrame m #[] 0)) t := fun t k => castTop (own_ef25 m ) k
  have G0 := G
  obtain ⟨S_CS, hcs, S_WF, hwf, S_PROPOSAL_ANSWER, S_HELLO, S_EVENT, S_PING, S_L, Ex_L, Fa_L⟩ := G
  obtain ⟨T1, X1, e1, st1⟩ := getS2 X0 hx hZ hown (host := "") (Or.inl (own_w hw 133 rfl)) Via.refl e0 (S_L.ext O0.2) (g := (mkF m 0 #[] [])) rfl (hb hby own_d24_0)
  have g2 : ∀ t, Steps p.tables e below (T1.setTop (mkF m 3 #[] [(.ref wL)])) t → Steps p.tables e below (s₁.setTop (entryFrame m #[] 0)) t := by
    intro t k
    refine g0 t ?_
    show Steps p.tables e below (s₁.setTop (mkF m 0 #[] [])) _
    refine st1 _ ?_
    exact k
  obtain ⟨fs, hrt, hrun, hended, hW, hsame⟩ := X1.leave (v := some (.ref wL)) (fun h => by rw [Bd.returns] at h; cases h)
  refine ⟨_, _, g2 _ ?_, hrun, hended, _, _, rfl, ?_, ⟨_, rfl⟩, hW, hsame.mono (by decide) (by decide)⟩
  · show Steps p.tables e below (T1.setTop (mkF m 3 #[] [(.ref wL)])) _
    jvm_step X1.here [X1.here.top, hx, (hb hby own_d24_3), X1.method', Bd.returns, Value.isRef, FieldType.isReference]
    first | (intro acts; rw [hrt _ acts rfl rfl rfl]) | rw [hrt _ _ rfl rfl rfl]
    exact Steps.refl _
  · show own_Q_rmA23 Z cs wf wK0 wK1 wK2 wK3 wL h0 n0 _ T1.heap _
    rw [e1]
    exact ⟨rfl, N0, rfl⟩
theorem own_pd17 : parseMethodDescriptor "()Ljava/util/List;" = some ⟨[], some (.object "java/util/List")⟩ := by decide +kernel
theorem own_d23_8 : decode prog_18_method_1_code 8 = .ok (.putfield 13, 3) := by decide +kernel
theorem own_d23_11 : decode prog_18_method_1_code 11 = .ok (.aload_n 0, 1) := by decide +kernel
theorem own_d23_12 : decode prog_18_method_1_code 12 = .ok (.aload_n 1, 1) := by decide +kernel
theorem own_d23_13 : decode prog_18_method_1_code 13 = .ok (.putfield 19, 3) := by decide +kernel
theorem own_la4 {Z : State} {a0 : Array Value} (hw : ∀ d ∈ tables_1, d.before a0 Z = true) : Laid Z a0 "com/example/assemble_quorum/assemblequorum/io/Message$Builder" "com/example/assemble_quorum/assemblequorum/io/Message$Builder" "kind" "Lcom/example/assemble_quorum/assemblequorum/io/Message$Kind;" := Or.inr (own_w hw 138 rfl)
theorem own_la5 {Z : State} {a0 : Array Value} (hw : ∀ d ∈ tables_1, d.before a0 Z = true) : Laid Z a0 "com/example/assemble_quorum/assemblequorum/io/Message$Builder" "com/example/assemble_quorum/assemblequorum/io/Message$Builder" "members" "Ljava/util/List;" := Or.inl (own_w hw 136 rfl)
theorem own_ty4 : parseFieldDescriptor "Lcom/example/assemble_quorum/assemblequorum/io/Message$Kind;" = some (.object "com/example/assemble_quorum/assemblequorum/io/Message$Kind") := by decide
theorem own_ty5 : parseFieldDescriptor "Ljava/util/List;" = some (.object "java/util/List") := by decide
theorem own_d23_16 : decode prog_18_method_1_code 16 = .ok (.return_, 1) := by decide +kernel
theorem own_la6 {Z : State} {a0 : Array Value} (hw : ∀ d ∈ tables_1, d.before a0 Z = true) : Laid Z a0 "com/example/assemble_quorum/assemblequorum/io/Message$Builder" "com/example/assemble_quorum/assemblequorum/io/Message$Builder" "priorNumber" "Lcom/example/assemble_quorum/assemblequorum/model/ProposalNumber;" := Or.inl (own_w hw 145 rfl)
theorem own_ty6 : parseFieldDescriptor "Lcom/example/assemble_quorum/assemblequorum/model/ProposalNumber;" = some (.object "com/example/assemble_quorum/assemblequorum/model/ProposalNumber") := by decide
theorem own_la7 {Z : State} {a0 : Array Value} (hw : ∀ d ∈ tables_1, d.before a0 Z = true) : Laid Z a0 "com/example/assemble_quorum/assemblequorum/io/Message$Builder" "com/example/assemble_quorum/assemblequorum/io/Message$Builder" "priorCandidate" "Lcom/example/assemble_quorum/assemblequorum/model/MemberAddress;" := Or.inl (own_w hw 147 rfl)
theorem own_la8 {Z : State} {a0 : Array Value} (hw : ∀ d ∈ tables_1, d.before a0 Z = true) : Laid Z a0 "com/example/assemble_quorum/assemblequorum/io/Message$Builder" "com/example/assemble_quorum/assemblequorum/io/Message$Builder" "sender" "Lcom/example/assemble_quorum/assemblequorum/model/MemberAddress;" := Or.inl (own_w hw 164 rfl)
theorem own_la9 {Z : State} {a0 : Array Value} (hw : ∀ d ∈ tables_1, d.before a0 Z = true) : Laid Z a0 "com/example/assemble_quorum/assemblequorum/io/Message$Builder" "com/example/assemble_quorum/assemblequorum/io/Message$Builder" "leader" "Lcom/example/assemble_quorum/assemblequorum/model/MemberAddress;" := Or.inl (own_w hw 168 rfl)
theorem own_la10 {Z : State} {a0 : Array Value} (hw : ∀ d ∈ tables_1, d.before a0 Z = true) : Laid Z a0 "com/example/assemble_quorum/assemblequorum/io/Message$Builder" "com/example/assemble_quorum/assemblequorum/io/Message$Builder" "version" "J" := Or.inl (own_w hw 172 rfl)
theorem own_la11 {Z : State} {a0 : Array Value} (hw : ∀ d ∈ tables_1, d.before a0 Z = true) : Laid Z a0 "com/example/assemble_quorum/assemblequorum/io/Message$Builder" "com/example/assemble_quorum/assemblequorum/io/Message$Builder" "number" "Lcom/example/assemble_quorum/assemblequorum/model/ProposalNumber;" := Or.inl (own_w hw 176 rfl)
theorem own_la12 {Z : State} {a0 : Array Value} (hw : ∀ d ∈ tables_1, d.before a0 Z = true) : Laid Z a0 "com/example/assemble_quorum/assemblequorum/io/Message$Builder" "com/example/assemble_quorum/assemblequorum/io/Message$Builder" "candidate" "Lcom/example/assemble_quorum/assemblequorum/model/MemberAddress;" := Or.inl (own_w hw 180 rfl)
theorem own_la13 {Z : State} {a0 : Array Value} (hw : ∀ d ∈ tables_1, d.before a0 Z = true) : Laid Z a0 "com/example/assemble_quorum/assemblequorum/io/Message$Builder" "com/example/assemble_quorum/assemblequorum/io/Message$Builder" "granted" "Z" := Or.inl (own_w hw 184 rfl)
theorem own_ty7 : parseFieldDescriptor "Z" = some .boolean := by decide
theorem own_la14 {Z : State} {a0 : Array Value} (hw : ∀ d ∈ tables_1, d.before a0 Z = true) : Laid Z a0 "com/example/assemble_quorum/assemblequorum/io/Message$Builder" "com/example/assemble_quorum/assemblequorum/io/Message$Builder" "topic" "Ljava/lang/String;" := Or.inl (own_w hw 215 rfl)
theorem own_la15 {Z : State} {a0 : Array Value} (hw : ∀ d ∈ tables_1, d.before a0 Z = true) : Laid Z a0 "com/example/assemble_quorum/assemblequorum/io/Message$Builder" "com/example/assemble_quorum/assemblequorum/io/Message$Builder" "payload" "[B" := Or.inl (own_w hw 219 rfl)
theorem own_ty8 : parseFieldDescriptor "[B" = some (.array .byte) := by decide
def own_Q_rmA22 (Z : State) (ob0 : Addr) (ob1 : Addr)  (cs : Int32) (wf : Value) (wK0 : Addr) (wK1 : Addr) (wK2 : Addr) (wK3 : Addr) (wL : Addr) (h0 : Heap) (n0 : Nat) (v : Option Value) (h : Heap) (L : List Loc) : Prop := v = none ∧ Fr n0 L ∧ Keep h0 h [ob0] ∧ Exa Z h ob0 "com/example/assemble_quorum/assemblequorum/io/Message$Builder" ∧ Fld Z h ob0 "com/example/assemble_quorum/assemblequorum/io/Message$Builder" "members" "Ljava/util/List;" (.ref wL) ∧ Fld Z h ob0 "com/example/assemble_quorum/assemblequorum/io/Message$Builder" "kind" "Lcom/example/assemble_quorum/assemblequorum/io/Message$Kind;" (.ref ob1) ∧ Fld Z h ob0 "com/example/assemble_quorum/assemblequorum/io/Message$Builder" "priorNumber" "Lcom/example/assemble_quorum/assemblequorum/model/ProposalNumber;" .null ∧ Fld Z h ob0 "com/example/assemble_quorum/assemblequorum/io/Message$Builder" "priorCandidate" "Lcom/example/assemble_quorum/assemblequorum/model/MemberAddress;" .null ∧ Fld Z h ob0 "com/example/assemble_quorum/assemblequorum/io/Message$Builder" "sender" "Lcom/example/assemble_quorum/assemblequorum/model/MemberAddress;" .null ∧ Fld Z h ob0 "com/example/assemble_quorum/assemblequorum/io/Message$Builder" "leader" "Lcom/example/assemble_quorum/assemblequorum/model/MemberAddress;" .null ∧ Fld Z h ob0 "com/example/assemble_quorum/assemblequorum/io/Message$Builder" "version" "J" (.long (0 : Int64)) ∧ Fld Z h ob0 "com/example/assemble_quorum/assemblequorum/io/Message$Builder" "number" "Lcom/example/assemble_quorum/assemblequorum/model/ProposalNumber;" .null ∧ Fld Z h ob0 "com/example/assemble_quorum/assemblequorum/io/Message$Builder" "candidate" "Lcom/example/assemble_quorum/assemblequorum/model/MemberAddress;" .null ∧ Fld Z h ob0 "com/example/assemble_quorum/assemblequorum/io/Message$Builder" "granted" "Z" (.int (0 : Int32)) ∧ Fld Z h ob0 "com/example/assemble_quorum/assemblequorum/io/Message$Builder" "topic" "Ljava/lang/String;" .null ∧ Fld Z h ob0 "com/example/assemble_quorum/assemblequorum/io/Message$Builder" "payload" "[B" .null
set_option maxRecDepth 65536 in
set_option maxHeartbeats 40000000 in
theorem rmA22 (l : Launch) (Z : State) (a0 : Array Value) (hw : ∀ d ∈ tables_1, d.before a0 Z = true) (ws : List Jvm.Cond) (ob0 : Addr) (ob1 : Addr)  (cs : Int32) (wf : Value) (wK0 : Addr) (wK1 : Addr) (wK2 : Addr) (wK3 : Addr) (wL : Addr) (h0 : Heap) (n0 : Nat) (O0 : Old Z n0 h0) (G : own_Gl Z cs wf wK0 wK1 wK2 wK3 wL) (E_ob0 : Exa Z h0 ob0 "com/example/assemble_quorum/assemblequorum/io/Message$Builder") (F_ob0_candidate : Fld Z h0 ob0 "com/example/assemble_quorum/assemblequorum/io/Message$Builder" "candidate" "Lcom/example/assemble_quorum/assemblequorum/model/MemberAddress;" .null) (F_ob0_granted : Fld Z h0 ob0 "com/example/assemble_quorum/assemblequorum/io/Message$Builder" "granted" "Z" (.int (0 : Int32))) (F_ob0_kind : Fld Z h0 ob0 "com/example/assemble_quorum/assemblequorum/io/Message$Builder" "kind" "Lcom/example/assemble_quorum/assemblequorum/io/Message$Kind;" .null) (F_ob0_leader : Fld Z h0 ob0 "com/example/assemble_quorum/assemblequorum/io/Message$Builder" "leader" "Lcom/example/assemble_quorum/assemblequorum/model/MemberAddress;" .null) (F_ob0_members : Fld Z h0 ob0 "com/example/assemble_quorum/assemblequorum/io/Message$Builder" "members" "Ljava/util/List;" .null) (F_ob0_number : Fld Z h0 ob0 "com/example/assemble_quorum/assemblequorum/io/Message$Builder" "number" "Lcom/example/assemble_quorum/assemblequorum/model/ProposalNumber;" .null) (F_ob0_payload : Fld Z h0 ob0 "com/example/assemble_quorum/assemblequorum/io/Message$Builder" "payload" "[B" .null) (F_ob0_priorCandidate : Fld Z h0 ob0 "com/example/assemble_quorum/assemblequorum/io/Message$Builder" "priorCandidate" "Lcom/example/assemble_quorum/assemblequorum/model/MemberAddress;" .null) (F_ob0_priorNumber : Fld Z h0 ob0 "com/example/assemble_quorum/assemblequorum/io/Message$Builder" "priorNumber" "Lcom/example/assemble_quorum/assemblequorum/model/ProposalNumber;" .null) (F_ob0_sender : Fld Z h0 ob0 "com/example/assemble_quorum/assemblequorum/io/Message$Builder" "sender" "Lcom/example/assemble_quorum/assemblequorum/model/MemberAddress;" .null) (F_ob0_topic : Fld Z h0 ob0 "com/example/assemble_quorum/assemblequorum/io/Message$Builder" "topic" "Ljava/lang/String;" .null) (F_ob0_version : Fld Z h0 ob0 "com/example/assemble_quorum/assemblequorum/io/Message$Builder" "version" "J" (.long (0 : Int64))) (gz_ob0 : n0 ≤ ob0) :
    MetFree l own_y21 (head1 (Jvm.Cond.code own_y21 prog_18_method_1_code 2 none :: ws) ({ frames := 1, cells := 0, slots := 0, locals := 12 } : Room)) (fun a U => a = #[(.ref ob0), (.ref ob1)] ∧ Z.Warmed39 U.vm ∧ U.heap = h0) (fun _ _ _ _ _ => True) (fun _ U o U' => ∃ v L, o = .returned v ∧ own_Q_rmA22 Z ob0 ob1 cs wf wK0 wK1 wK2 wK3 wL h0 n0 v U'.heap L ∧ FrameEnd U o U' L ({ frames := 1, cells := 0, slots := 0, locals := 12 } : Room).cells ({ frames := 1, cells := 0, slots := 0, locals := 12 } : Room).slots) := by
  refine MetFree.of_bodySF (plainFor_of_name own_pn7) hisR ?_
  intro p e s m args below meth c s₁ Bd hml0 hP hK
  obtain ⟨rfl, hZ, hh⟩ := hP
  have hx := Bd.exec
  have hby := Bd.bytes
  have hml : c.maxLocals = 2 := hml0
  have hown : s.vm.findClass "com/example/assemble_quorum/assemblequorum/io/Message$Builder" = some m.cls := findClass_of_methodNamed Bd.named
  have hnm := (name_of_methodNamed Bd.named Bd.method).1
  have X0 : Stand p l e ({ frames := 1, cells := 0, slots := 0, locals := 12 } : Room) s m #[(.ref ob0), (.ref ob1)] below meth c s₁ [] 0 0 := Stand.of_body Bd
  have e0 : s₁.heap = h0 := by rw [← hh, Bd.state]; rfl
  have N0 := Fr.nil n0
  have Z0 : n0 ≤ h0.size := O0.1 ▸ O0.2.1
  have g0 : ∀ t, Steps p.tables e below (s₁.setTop (mkF m 0 #[.val (.ref ob0), .val (.ref ob1)] [])) t → Steps p.tables e below (s₁.setTop (entryFrame m #[(.ref ob0), (.ref ob1)] 2)) t := fun t k => castTop (own_ef24 m (ob0) (ob1)) k
  have G0 := G
  obtain ⟨S_CS, hcs, S_WF, hwf, S_PROPOSAL_ANSWER, S_HELLO, S_EVENT, S_PING, S_L, Ex_L, Fa_L⟩ := G
  obtain ⟨T1, X1, e1, st1⟩ := initO X0 hx hZ hown (own_w hw 128 rfl) (own_w hw 16 rfl) (own_w hw 17 rfl) e0 (g := (mkF m 1 #[.val (.ref ob0), .val (.ref ob1)] [(.ref ob0)])) rfl (by rw [hml]; rfl) rfl (hb hby own_d23_1) (by decide) (W := 0) (by show 2 * 0 + _ ≤ _; exact Nat.le_of_eq rfl) (by decide)
  obtain ⟨_, _, ⟨T2, L2, k2, n2⟩, -, X2, ⟨Lc2, hQ2, l2, y2, z2⟩, st2⟩ := Jvm.LawKit.callS X1 hx (y := own_y22) hown (mvT hZ (own_w hw 129 rfl)) (mvT hZ (own_w hw 130 rfl)) (mvT hZ (own_w hw 131 rfl)) (mvT hZ (own_w hw 132 rfl)) (by decide) (backOf (W := 1) (rmA23 l Z a0 hw []   cs wf wK0 wK1 wK2 wK3 wL h0 n0 O0 G0   ) hZ (own_w hw 132 rfl) (own_w hw 131 rfl) (by decide) (by decide)) (g := (mkF m 5 #[.val (.ref ob0), .val (.ref ob1)] [(.ref ob0)])) rfl (by rw [hml]; rfl) (argsL := []) (rest := [(.ref ob0)]) (lenOf own_pd17 rfl) rfl (by show 2 * 0 + _ ≤ _; exact Nat.le_of_eq rfl) (hb hby own_d23_5) (fun _ _ => ⟨rfl, e1, (by decide : 0 + 0 ≤ _), (by decide : 0 + 0 ≤ _)⟩)
  dsimp only [Pt.U, Pt.locs, Pt.cells, Pt.slots] at X2 l2 y2 z2 st2 hQ2
  subst l2 y2 z2
  obtain ⟨rfl, Nq2, e2⟩ := hQ2
  have N2 := Fr.app N0 Nq2
  obtain ⟨T3, h3, X3, e3, W3, st3⟩ := putF X2 hx hZ hown (host := "") (Or.inl (own_w hw 135 rfl)) Via.refl e2 F_ob0_members E_ob0 (Or.inl (own_w hw 136 rfl)) (own_w hw 123 rfl) (ty := (.object "java/util/List")) (by decide) rfl rfl (g := (mkF m 8 #[.val (.ref ob0), .val (.ref ob1)] [(.ref wL), (.ref ob0)])) rfl rfl (hb hby own_d23_8)
  have Fw3 := F_ob0_members.same W3
  have N3 := Fr.snoc X3 N2 gz_ob0
  have f4 := (E_ob0.wr W3)
  have f5 := (F_ob0_kind.other W3 (Or.inr (slot_ne (own_la4 hw) (own_la5 hw) (by decide) own_ty4 own_ty5)))
  obtain ⟨T6, h6, X6, e6, W6, st6⟩ := putF X3 hx hZ hown (host := "") (Or.inl (own_w hw 137 rfl)) Via.refl e3 f5 f4 (Or.inr ⟨(own_w hw 138 rfl), rfl, hnm⟩) (own_w hw 123 rfl) (ty := (.object "com/example/assemble_quorum/assemblequorum/io/Message$Kind")) (by decide) rfl rfl (g := (mkF m 13 #[.val (.ref ob0), .val (.ref ob1)] [(.ref ob1), (.ref ob0)])) rfl rfl (hb hby own_d23_13)
  have Fw6 := f5.same W6
  have N6 := Fr.snoc X6 N3 gz_ob0
  have g7 : ∀ t, Steps p.tables e below (T6.setTop (mkF m 16 #[.val (.ref ob0), .val (.ref ob1)] [])) t → Steps p.tables e below (s₁.setTop (entryFrame m #[(.ref ob0), (.ref ob1)] 2)) t := by
    intro t k
    refine g0 t ?_
    show Steps p.tables e below (s₁.setTop (mkF m 0 #[.val (.ref ob0), .val (.ref ob1)] [])) _
    refine XS.aloadN X0.here hx rfl (hb hby own_d23_0) rfl rfl ?_
    refine st1 _ ?_
    refine XS.aloadN X1.here hx rfl (hb hby own_d23_4) rfl rfl ?_
    refine st2 _ ?_
    refine st3 _ ?_
    refine XS.aloadN X3.here hx rfl (hb hby own_d23_11) rfl rfl ?_
    refine XS.aloadN X3.here hx rfl (hb hby own_d23_12) rfl rfl ?_
    refine st6 _ ?_
    exact k
  obtain ⟨fs, hrt, hrun, hended, hW, hsame⟩ := X6.leave (v := none) (fun _ => rfl)
  have f8 := (f4.wr W6)
  have f9 := (Fw3.other W6 (Or.inr (slot_ne (own_la5 hw) (own_la4 hw) (by decide) own_ty5 own_ty4)))
  have f10 := ((F_ob0_priorNumber.other W3 (Or.inr (slot_ne (own_la6 hw) (own_la5 hw) (by decide) own_ty6 own_ty5))).other W6 (Or.inr (slot_ne (own_la6 hw) (own_la4 hw) (by decide) own_ty6 own_ty4)))
  have f11 := ((F_ob0_priorCandidate.other W3 (Or.inr (slot_ne (own_la7 hw) (own_la5 hw) (by decide) own_ty2 own_ty5))).other W6 (Or.inr (slot_ne (own_la7 hw) (own_la4 hw) (by decide) own_ty2 own_ty4)))
  have f12 := ((F_ob0_sender.other W3 (Or.inr (slot_ne (own_la8 hw) (own_la5 hw) (by decide) own_ty2 own_ty5))).other W6 (Or.inr (slot_ne (own_la8 hw) (own_la4 hw) (by decide) own_ty2 own_ty4)))
  have f13 := ((F_ob0_leader.other W3 (Or.inr (slot_ne (own_la9 hw) (own_la5 hw) (by decide) own_ty2 own_ty5))).other W6 (Or.inr (slot_ne (own_la9 hw) (own_la4 hw) (by decide) own_ty2 own_ty4)))
  have f14 := ((F_ob0_version.other W3 (Or.inr (slot_ne (own_la10 hw) (own_la5 hw) (by decide) own_ty3 own_ty5))).other W6 (Or.inr (slot_ne (own_la10 hw) (own_la4 hw) (by decide) own_ty3 own_ty4)))
  have f15 := ((F_ob0_number.other W3 (Or.inr (slot_ne (own_la11 hw) (own_la5 hw) (by decide) own_ty6 own_ty5))).other W6 (Or.inr (slot_ne (own_la11 hw) (own_la4 hw) (by decide) own_ty6 own_ty4)))
  have f16 := ((F_ob0_candidate.other W3 (Or.inr (slot_ne (own_la12 hw) (own_la5 hw) (by decide) own_ty2 own_ty5))).other W6 (Or.inr (slot_ne (own_la12 hw) (own_la4 hw) (by decide) own_ty2 own_ty4)))
  have f17 := ((F_ob0_granted.other W3 (Or.inr (slot_ne (own_la13 hw) (own_la5 hw) (by decide) own_ty7 own_ty5))).other W6 (Or.inr (slot_ne (own_la13 hw) (own_la4 hw) (by decide) own_ty7 own_ty4)))
  have f18 := ((F_ob0_topic.other W3 (Or.inr (slot_ne (own_la14 hw) (own_la5 hw) (by decide) own_ty1 own_ty5))).other W6 (Or.inr (slot_ne (own_la14 hw) (own_la4 hw) (by decide) own_ty1 own_ty4)))
  have f19 := ((F_ob0_payload.other W3 (Or.inr (slot_ne (own_la15 hw) (own_la5 hw) (by decide) own_ty8 own_ty5))).other W6 (Or.inr (slot_ne (own_la15 hw) (own_la4 hw) (by decide) own_ty8 own_ty4)))
  refine ⟨_, _, g7 _ ?_, hrun, hended, _, _, rfl, ?_, ⟨_, rfl⟩, hW, hsame.mono (by decide) (by decide)⟩
  · show Steps p.tables e below (T6.setTop (mkF m 16 #[.val (.ref ob0), .val (.ref ob1)] [])) _
    exact X6.returnOut hx Bd.returns (hb hby own_d23_16) hrt
  · show own_Q_rmA22 Z ob0 ob1 cs wf wK0 wK1 wK2 wK3 wL h0 n0 _ T6.heap _
    rw [e6]
    exact ⟨rfl, N6, (Keep.wr (Keep.wr (Keep.refl h0 [ob0]) W3 (Or.inl (List.mem_of_getElem? (i := 0) rfl))) W6 (Or.inl (List.mem_of_getElem? (i := 0) rfl))), f8, f9, Fw6, f10, f11, f12, f13, f14, f15, f16, f17, f18, f19⟩
theorem own_pd18 : parseMethodDescriptor "(Lcom/example/assemble_quorum/assemblequorum/io/Message$Kind;)V" = some ⟨[(.object "com/example/assemble_quorum/assemblequorum/io/Message$Kind")], none⟩ := by decide +kernel
abbrev own_y23 : MethodName := ⟨"com/example/assemble_quorum/assemblequorum/io/Message$Builder", "prior", "(Lcom/example/assemble_quorum/assemblequorum/model/ProposalNumber;Lcom/example/assemble_quorum/assemblequorum/model/MemberAddress;)Lcom/example/assemble_quorum/assemblequorum/io/Message$Builder;"⟩
theorem own_ef26 (m : MethodId) (x0 : Addr) : entryFrame m #[(.ref x0), .null, .null] 3 = mkF m 0 #[.val (.ref x0), .val .null, .val .null] [] := by first | (simp [entryFrame, mkF, argsToLocals, Value.category]; done) | rfl
theorem own_d25_0 : decode prog_18_method_8_code 0 = .ok (.aload_n 0, 1) := by decide +kernel
theorem own_d25_1 : decode prog_18_method_8_code 1 = .ok (.aload_n 1, 1) := by decide +kernel
theorem own_d25_2 : decode prog_18_method_8_code 2 = .ok (.putfield 52, 3) := by decide +kernel
theorem own_d25_5 : decode prog_18_method_8_code 5 = .ok (.aload_n 0, 1) := by decide +kernel
theorem own_d25_6 : decode prog_18_method_8_code 6 = .ok (.aload_n 2, 1) := by decide +kernel
theorem own_d25_7 : decode prog_18_method_8_code 7 = .ok (.putfield 55, 3) := by decide +kernel
theorem own_d25_10 : decode prog_18_method_8_code 10 = .ok (.aload_n 0, 1) := by decide +kernel
theorem own_d25_11 : decode prog_18_method_8_code 11 = .ok (.areturn, 1) := by decide +kernel
def own_Q_rmA24 (Z : State) (ob0 : Addr) (ob0_kind : Addr)  (cs : Int32) (wf : Value) (wK0 : Addr) (wK1 : Addr) (wK2 : Addr) (wK3 : Addr) (wL : Addr) (h0 : Heap) (n0 : Nat) (v : Option Value) (h : Heap) (L : List Loc) : Prop := v = some (.ref ob0) ∧ Fr n0 L ∧ Keep h0 h [ob0] ∧ Exa Z h ob0 "com/example/assemble_quorum/assemblequorum/io/Message$Builder" ∧ Fld Z h ob0 "com/example/assemble_quorum/assemblequorum/io/Message$Builder" "members" "Ljava/util/List;" (.ref wL) ∧ Fld Z h ob0 "com/example/assemble_quorum/assemblequorum/io/Message$Builder" "kind" "Lcom/example/assemble_quorum/assemblequorum/io/Message$Kind;" (.ref ob0_kind) ∧ Fld Z h ob0 "com/example/assemble_quorum/assemblequorum/io/Message$Builder" "priorNumber" "Lcom/example/assemble_quorum/assemblequorum/model/ProposalNumber;" .null ∧ Fld Z h ob0 "com/example/assemble_quorum/assemblequorum/io/Message$Builder" "priorCandidate" "Lcom/example/assemble_quorum/assemblequorum/model/MemberAddress;" .null ∧ Fld Z h ob0 "com/example/assemble_quorum/assemblequorum/io/Message$Builder" "sender" "Lcom/example/assemble_quorum/assemblequorum/model/MemberAddress;" .null ∧ Fld Z h ob0 "com/example/assemble_quorum/assemblequorum/io/Message$Builder" "leader" "Lcom/example/assemble_quorum/assemblequorum/model/MemberAddress;" .null ∧ Fld Z h ob0 "com/example/assemble_quorum/assemblequorum/io/Message$Builder" "version" "J" (.long (0 : Int64)) ∧ Fld Z h ob0 "com/example/assemble_quorum/assemblequorum/io/Message$Builder" "number" "Lcom/example/assemble_quorum/assemblequorum/model/ProposalNumber;" .null ∧ Fld Z h ob0 "com/example/assemble_quorum/assemblequorum/io/Message$Builder" "candidate" "Lcom/example/assemble_quorum/assemblequorum/model/MemberAddress;" .null ∧ Fld Z h ob0 "com/example/assemble_quorum/assemblequorum/io/Message$Builder" "granted" "Z" (.int (0 : Int32)) ∧ Fld Z h ob0 "com/example/assemble_quorum/assemblequorum/io/Message$Builder" "topic" "Ljava/lang/String;" .null ∧ Fld Z h ob0 "com/example/assemble_quorum/assemblequorum/io/Message$Builder" "payload" "[B" .null
set_option maxRecDepth 65536 in
set_option maxHeartbeats 40000000 in
theorem rmA24 (l : Launch) (Z : State) (a0 : Array Value) (hw : ∀ d ∈ tables_1, d.before a0 Z = true) (ws : List Jvm.Cond) (ob0 : Addr) (ob0_kind : Addr)  (cs : Int32) (wf : Value) (wK0 : Addr) (wK1 : Addr) (wK2 : Addr) (wK3 : Addr) (wL : Addr) (h0 : Heap) (n0 : Nat) (O0 : Old Z n0 h0) (G : own_Gl Z cs wf wK0 wK1 wK2 wK3 wL) (E_ob0 : Exa Z h0 ob0 "com/example/assemble_quorum/assemblequorum/io/Message$Builder") (F_ob0_candidate : Fld Z h0 ob0 "com/example/assemble_quorum/assemblequorum/io/Message$Builder" "candidate" "Lcom/example/assemble_quorum/assemblequorum/model/MemberAddress;" .null) (F_ob0_granted : Fld Z h0 ob0 "com/example/assemble_quorum/assemblequorum/io/Message$Builder" "granted" "Z" (.int (0 : Int32))) (F_ob0_kind : Fld Z h0 ob0 "com/example/assemble_quorum/assemblequorum/io/Message$Builder" "kind" "Lcom/example/assemble_quorum/assemblequorum/io/Message$Kind;" (.ref ob0_kind)) (F_ob0_leader : Fld Z h0 ob0 "com/example/assemble_quorum/assemblequorum/io/Message$Builder" "leader" "Lcom/example/assemble_quorum/assemblequorum/model/MemberAddress;" .null) (F_ob0_members : Fld Z h0 ob0 "com/example/assemble_quorum/assemblequorum/io/Message$Builder" "members" "Ljava/util/List;" (.ref wL)) (F_ob0_number : Fld Z h0 ob0 "com/example/assemble_quorum/assemblequorum/io/Message$Builder" "number" "Lcom/example/assemble_quorum/assemblequorum/model/ProposalNumber;" .null) (F_ob0_payload : Fld Z h0 ob0 "com/example/assemble_quorum/assemblequorum/io/Message$Builder" "payload" "[B" .null) (F_ob0_priorCandidate : Fld Z h0 ob0 "com/example/assemble_quorum/assemblequorum/io/Message$Builder" "priorCandidate" "Lcom/example/assemble_quorum/assemblequorum/model/MemberAddress;" .null) (F_ob0_priorNumber : Fld Z h0 ob0 "com/example/assemble_quorum/assemblequorum/io/Message$Builder" "priorNumber" "Lcom/example/assemble_quorum/assemblequorum/model/ProposalNumber;" .null) (F_ob0_sender : Fld Z h0 ob0 "com/example/assemble_quorum/assemblequorum/io/Message$Builder" "sender" "Lcom/example/assemble_quorum/assemblequorum/model/MemberAddress;" .null) (F_ob0_topic : Fld Z h0 ob0 "com/example/assemble_quorum/assemblequorum/io/Message$Builder" "topic" "Ljava/lang/String;" .null) (F_ob0_version : Fld Z h0 ob0 "com/example/assemble_quorum/assemblequorum/io/Message$Builder" "version" "J" (.long (0 : Int64))) (gz_ob0 : n0 ≤ ob0) :
    MetFree l own_y23 (head1 (Jvm.Cond.code own_y23 prog_18_method_8_code 3 (some (.object "com/example/assemble_quorum/assemblequorum/io/Message$Builder")) :: ws) ({ frames := 0, cells := 0, slots := 0, locals := 0 } : Room)) (fun a U => a = #[(.ref ob0), .null, .null] ∧ Z.Warmed39 U.vm ∧ U.heap = h0) (fun _ _ _ _ _ => True) (fun _ U o U' => ∃ v L, o = .returned v ∧ own_Q_rmA24 Z ob0 ob0_kind cs wf wK0 wK1 wK2 wK3 wL h0 n0 v U'.heap L ∧ FrameEnd U o U' L ({ frames := 0, cells := 0, slots := 0, locals := 0 } : Room).cells ({ frames := 0, cells := 0, slots := 0, locals := 0 } : Room).slots) := by
  refine MetFree.of_bodySF (plainFor_of_name own_pn7) hisR ?_
  intro p e s m args below meth c s₁ Bd hml0 hP hK
  obtain ⟨rfl, hZ, hh⟩ := hP
  have hx := Bd.exec
  have hby := Bd.bytes
  have hml : c.maxLocals = 3 := hml0
  have hown : s.vm.findClass "com/example/assemble_quorum/assemblequorum/io/Message$Builder" = some m.cls := findClass_of_methodNamed Bd.named
  have hnm := (name_of_methodNamed Bd.named Bd.method).1
  have X0 : Stand p l e ({ frames := 0, cells := 0, slots := 0, locals := 0 } : Room) s m #[(.ref ob0), .null, .null] below meth c s₁ [] 0 0 := Stand.of_body Bd
  have e0 : s₁.heap = h0 := by rw [← hh, Bd.state]; rfl
  have N0 := Fr.nil n0
  have Z0 : n0 ≤ h0.size := O0.1 ▸ O0.2.1
  have g0 : ∀ t, Steps p.tables e below (s₁.setTop (mkF m 0 #[.val (.ref ob0), .val .null, .val .null] [])) t → Steps p.tables e below (s₁.setTop (entryFrame m #[(.ref ob0), .null, .null] 3)) t := fun t k => castTop (own_ef26 m (ob0)) k
  have G0 := G
  obtain ⟨S_CS, hcs, S_WF, hwf, S_PROPOSAL_ANSWER, S_HELLO, S_EVENT, S_PING, S_L, Ex_L, Fa_L⟩ := G
  obtain ⟨T1, h1, X1, e1, W1, st1⟩ := putF X0 hx hZ hown (host := "") (Or.inl (own_w hw 144 rfl)) Via.refl e0 F_ob0_priorNumber E_ob0 (Or.inl (own_w hw 145 rfl)) (own_w hw 123 rfl) (ty := (.object "com/example/assemble_quorum/assemblequorum/model/ProposalNumber")) (by decide) rfl rfl (g := (mkF m 2 #[.val (.ref ob0), .val .null, .val .null] [.null, (.ref ob0)])) rfl rfl (hb hby own_d25_2)
  have Fw1 := F_ob0_priorNumber.same W1
  have N1 := Fr.snoc X1 N0 gz_ob0
  have f2 := (E_ob0.wr W1)
  have f3 := (F_ob0_priorCandidate.other W1 (Or.inr (slot_ne (own_la7 hw) (own_la6 hw) (by decide) own_ty2 own_ty6)))
  obtain ⟨T4, h4, X4, e4, W4, st4⟩ := putF X1 hx hZ hown (host := "") (Or.inl (own_w hw 146 rfl)) Via.refl e1 f3 f2 (Or.inl (own_w hw 147 rfl)) (own_w hw 123 rfl) (ty := (.object "com/example/assemble_quorum/assemblequorum/model/MemberAddress")) (by decide) rfl rfl (g := (mkF m 7 #[.val (.ref ob0), .val .null, .val .null] [.null, (.ref ob0)])) rfl rfl (hb hby own_d25_7)
  have Fw4 := f3.same W4
  have N4 := Fr.snoc X4 N1 gz_ob0
  have g5 : ∀ t, Steps p.tables e below (T4.setTop (mkF m 11 #[.val (.ref ob0), .val .null, .val .null] [(.ref ob0)])) t → Steps p.tables e below (s₁.setTop (entryFrame m #[(.ref ob0), .null, .null] 3)) t := by
    intro t k
    refine g0 t ?_
    show Steps p.tables e below (s₁.setTop (mkF m 0 #[.val (.ref ob0), .val .null, .val .null] [])) _
    refine XS.aloadN X0.here hx rfl (hb hby own_d25_0) rfl rfl ?_
    refine XS.aloadN X0.here hx rfl (hb hby own_d25_1) rfl rfl ?_
    refine st1 _ ?_
    refine XS.aloadN X1.here hx rfl (hb hby own_d25_5) rfl rfl ?_
    refine XS.aloadN X1.here hx rfl (hb hby own_d25_6) rfl rfl ?_
    refine st4 _ ?_
    refine XS.aloadN X4.here hx rfl (hb hby own_d25_10) rfl rfl ?_
    exact k
  obtain ⟨fs, hrt, hrun, hended, hW, hsame⟩ := X4.leave (v := some (.ref ob0)) (fun h => by rw [Bd.returns] at h; cases h)
  have f6 := (f2.wr W4)
  have f7 := ((F_ob0_members.other W1 (Or.inr (slot_ne (own_la5 hw) (own_la6 hw) (by decide) own_ty5 own_ty6))).other W4 (Or.inr (slot_ne (own_la5 hw) (own_la7 hw) (by decide) own_ty5 own_ty2)))
  have f8 := ((F_ob0_kind.other W1 (Or.inr (slot_ne (own_la4 hw) (own_la6 hw) (by decide) own_ty4 own_ty6))).other W4 (Or.inr (slot_ne (own_la4 hw) (own_la7 hw) (by decide) own_ty4 own_ty2)))
  have f9 := (Fw1.other W4 (Or.inr (slot_ne (own_la6 hw) (own_la7 hw) (by decide) own_ty6 own_ty2)))
  have f10 := ((F_ob0_sender.other W1 (Or.inr (slot_ne (own_la8 hw) (own_la6 hw) (by decide) own_ty2 own_ty6))).other W4 (Or.inr (slot_ne (own_la8 hw) (own_la7 hw) (by decide) own_ty2 own_ty2)))
  have f11 := ((F_ob0_leader.other W1 (Or.inr (slot_ne (own_la9 hw) (own_la6 hw) (by decide) own_ty2 own_ty6))).other W4 (Or.inr (slot_ne (own_la9 hw) (own_la7 hw) (by decide) own_ty2 own_ty2)))
  have f12 := ((F_ob0_version.other W1 (Or.inr (slot_ne (own_la10 hw) (own_la6 hw) (by decide) own_ty3 own_ty6))).other W4 (Or.inr (slot_ne (own_la10 hw) (own_la7 hw) (by decide) own_ty3 own_ty2)))
  have f13 := ((F_ob0_number.other W1 (Or.inr (slot_ne (own_la11 hw) (own_la6 hw) (by decide) own_ty6 own_ty6))).other W4 (Or.inr (slot_ne (own_la11 hw) (own_la7 hw) (by decide) own_ty6 own_ty2)))
  have f14 := ((F_ob0_candidate.other W1 (Or.inr (slot_ne (own_la12 hw) (own_la6 hw) (by decide) own_ty2 own_ty6))).other W4 (Or.inr (slot_ne (own_la12 hw) (own_la7 hw) (by decide) own_ty2 own_ty2)))
  have f15 := ((F_ob0_granted.other W1 (Or.inr (slot_ne (own_la13 hw) (own_la6 hw) (by decide) own_ty7 own_ty6))).other W4 (Or.inr (slot_ne (own_la13 hw) (own_la7 hw) (by decide) own_ty7 own_ty2)))
  have f16 := ((F_ob0_topic.other W1 (Or.inr (slot_ne (own_la14 hw) (own_la6 hw) (by decide) own_ty1 own_ty6))).other W4 (Or.inr (slot_ne (own_la14 hw) (own_la7 hw) (by decide) own_ty1 own_ty2)))
  have f17 := ((F_ob0_payload.other W1 (Or.inr (slot_ne (own_la15 hw) (own_la6 hw) (by decide) own_ty8 own_ty6))).other W4 (Or.inr (slot_ne (own_la15 hw) (own_la7 hw) (by decide) own_ty8 own_ty2)))
  refine ⟨_, _, g5 _ ?_, hrun, hended, _, _, rfl, ?_, ⟨_, rfl⟩, hW, hsame.mono (by decide) (by decide)⟩
  · show Steps p.tables e below (T4.setTop (mkF m 11 #[.val (.ref ob0), .val .null, .val .null] [(.ref ob0)])) _
    jvm_step X4.here [X4.here.top, hx, (hb hby own_d25_11), X4.method', Bd.returns, Value.isRef, FieldType.isReference]
    first | (intro acts; rw [hrt _ acts rfl rfl rfl]) | rw [hrt _ _ rfl rfl rfl]
    exact Steps.refl _
  · show own_Q_rmA24 Z ob0 ob0_kind cs wf wK0 wK1 wK2 wK3 wL h0 n0 _ T4.heap _
    rw [e4]
    exact ⟨rfl, N4, (Keep.wr (Keep.wr (Keep.refl h0 [ob0]) W1 (Or.inl (List.mem_of_getElem? (i := 0) rfl))) W4 (Or.inl (List.mem_of_getElem? (i := 0) rfl))), f6, f7, f8, f9, Fw4, f10, f11, f12, f13, f14, f15, f16, f17⟩
theorem own_pd19 : parseMethodDescriptor "(Lcom/example/assemble_quorum/assemblequorum/model/ProposalNumber;Lcom/example/assemble_quorum/assemblequorum/model/MemberAddress;)Lcom/example/assemble_quorum/assemblequorum/io/Message$Builder;" = some ⟨[(.object "com/example/assemble_quorum/assemblequorum/model/ProposalNumber"), (.object "com/example/assemble_quorum/assemblequorum/model/MemberAddress")], some (.object "com/example/assemble_quorum/assemblequorum/io/Message$Builder")⟩ := by decide +kernel
abbrev own_y24 : MethodName := ⟨"com/example/assemble_quorum/assemblequorum/io/Message$Builder", "build", "()Lcom/example/assemble_quorum/assemblequorum/io/Message;"⟩
theorem own_ef27 (m : MethodId) (x0 : Addr) : entryFrame m #[(.ref x0)] 1 = mkF m 0 #[.val (.ref x0)] [] := by first | (simp [entryFrame, mkF, argsToLocals, Value.category]; done) | rfl
theorem own_d26_0 : decode prog_18_method_12_code 0 = .ok (.new 66, 3) := by decide +kernel
theorem own_d26_3 : decode prog_18_method_12_code 3 = .ok (.dup, 1) := by decide +kernel
theorem own_d26_4 : decode prog_18_method_12_code 4 = .ok (.aload_n 0, 1) := by decide +kernel
theorem own_d26_5 : decode prog_18_method_12_code 5 = .ok (.invokespecial 68, 3) := by decide +kernel
abbrev own_y25 : MethodName := ⟨"com/example/assemble_quorum/assemblequorum/io/Message", "<init>", "(Lcom/example/assemble_quorum/assemblequorum/io/Message$Builder;)V"⟩
theorem own_ef28 (m : MethodId) (x0 : Addr) (x1 : Addr) : entryFrame m #[(.ref x0), (.ref x1)] 2 = mkF m 0 #[.val (.ref x0), .val (.ref x1)] [] := by first | (simp [entryFrame, mkF, argsToLocals, Value.category]; done) | rfl
theorem own_pn9 : plainName "com/example/assemble_quorum/assemblequorum/io/Message" = true := by first | (simp [plainName, overriddenIn]; done) | decide +kernel
theorem own_d27_0 : decode prog_17_method_1_code 0 = .ok (.aload_n 0, 1) := by decide +kernel
theorem own_d27_1 : decode prog_17_method_1_code 1 = .ok (.invokespecial 1, 3) := by decide +kernel
theorem own_d27_4 : decode prog_17_method_1_code 4 = .ok (.aload_n 0, 1) := by decide +kernel
theorem own_d27_5 : decode prog_17_method_1_code 5 = .ok (.aload_n 1, 1) := by decide +kernel
theorem own_d27_6 : decode prog_17_method_1_code 6 = .ok (.getfield 7, 3) := by decide +kernel
theorem own_d27_9 : decode prog_17_method_1_code 9 = .ok (.putfield 13, 3) := by decide +kernel
theorem own_d27_12 : decode prog_17_method_1_code 12 = .ok (.aload_n 0, 1) := by decide +kernel
theorem own_d27_13 : decode prog_17_method_1_code 13 = .ok (.aload_n 1, 1) := by decide +kernel
theorem own_d27_14 : decode prog_17_method_1_code 14 = .ok (.getfield 16, 3) := by decide +kernel
theorem own_d27_17 : decode prog_17_method_1_code 17 = .ok (.putfield 20, 3) := by decide +kernel
theorem own_la16 {Z : State} {a0 : Array Value} (hw : ∀ d ∈ tables_1, d.before a0 Z = true) : Laid Z a0 "com/example/assemble_quorum/assemblequorum/io/Message" "com/example/assemble_quorum/assemblequorum/io/Message" "sender" "Lcom/example/assemble_quorum/assemblequorum/model/MemberAddress;" := Or.inr (own_w hw 166 rfl)
theorem own_la17 {Z : State} {a0 : Array Value} (hw : ∀ d ∈ tables_1, d.before a0 Z = true) : Laid Z a0 "com/example/assemble_quorum/assemblequorum/io/Message" "com/example/assemble_quorum/assemblequorum/io/Message" "kind" "Lcom/example/assemble_quorum/assemblequorum/io/Message$Kind;" := Or.inr (own_w hw 162 rfl)
theorem own_d27_20 : decode prog_17_method_1_code 20 = .ok (.aload_n 0, 1) := by decide +kernel
theorem own_d27_21 : decode prog_17_method_1_code 21 = .ok (.aload_n 1, 1) := by decide +kernel
theorem own_d27_22 : decode prog_17_method_1_code 22 = .ok (.getfield 21, 3) := by decide +kernel
theorem own_d27_25 : decode prog_17_method_1_code 25 = .ok (.putfield 24, 3) := by decide +kernel
theorem own_la18 {Z : State} {a0 : Array Value} (hw : ∀ d ∈ tables_1, d.before a0 Z = true) : Laid Z a0 "com/example/assemble_quorum/assemblequorum/io/Message" "com/example/assemble_quorum/assemblequorum/io/Message" "leader" "Lcom/example/assemble_quorum/assemblequorum/model/MemberAddress;" := Or.inr (own_w hw 170 rfl)
theorem own_d27_28 : decode prog_17_method_1_code 28 = .ok (.aload_n 0, 1) := by decide +kernel
theorem own_d27_29 : decode prog_17_method_1_code 29 = .ok (.aload_n 1, 1) := by decide +kernel
theorem own_d27_30 : decode prog_17_method_1_code 30 = .ok (.getfield 25, 3) := by decide +kernel
theorem own_d27_33 : decode prog_17_method_1_code 33 = .ok (.putfield 29, 3) := by decide +kernel
theorem own_la19 {Z : State} {a0 : Array Value} (hw : ∀ d ∈ tables_1, d.before a0 Z = true) : Laid Z a0 "com/example/assemble_quorum/assemblequorum/io/Message" "com/example/assemble_quorum/assemblequorum/io/Message" "version" "J" := Or.inr (own_w hw 174 rfl)
theorem own_d27_36 : decode prog_17_method_1_code 36 = .ok (.aload_n 0, 1) := by decide +kernel
theorem own_d27_37 : decode prog_17_method_1_code 37 = .ok (.aload_n 1, 1) := by decide +kernel
theorem own_d27_38 : decode prog_17_method_1_code 38 = .ok (.getfield 30, 3) := by decide +kernel
theorem own_d27_41 : decode prog_17_method_1_code 41 = .ok (.putfield 34, 3) := by decide +kernel
theorem own_la20 {Z : State} {a0 : Array Value} (hw : ∀ d ∈ tables_1, d.before a0 Z = true) : Laid Z a0 "com/example/assemble_quorum/assemblequorum/io/Message" "com/example/assemble_quorum/assemblequorum/io/Message" "number" "Lcom/example/assemble_quorum/assemblequorum/model/ProposalNumber;" := Or.inr (own_w hw 178 rfl)
theorem own_d27_44 : decode prog_17_method_1_code 44 = .ok (.aload_n 0, 1) := by decide +kernel
theorem own_d27_45 : decode prog_17_method_1_code 45 = .ok (.aload_n 1, 1) := by decide +kernel
theorem own_d27_46 : decode prog_17_method_1_code 46 = .ok (.getfield 35, 3) := by decide +kernel
theorem own_d27_49 : decode prog_17_method_1_code 49 = .ok (.putfield 38, 3) := by decide +kernel
theorem own_la21 {Z : State} {a0 : Array Value} (hw : ∀ d ∈ tables_1, d.before a0 Z = true) : Laid Z a0 "com/example/assemble_quorum/assemblequorum/io/Message" "com/example/assemble_quorum/assemblequorum/io/Message" "candidate" "Lcom/example/assemble_quorum/assemblequorum/model/MemberAddress;" := Or.inr (own_w hw 182 rfl)
theorem own_d27_52 : decode prog_17_method_1_code 52 = .ok (.aload_n 0, 1) := by decide +kernel
theorem own_d27_53 : decode prog_17_method_1_code 53 = .ok (.aload_n 1, 1) := by decide +kernel
theorem own_d27_54 : decode prog_17_method_1_code 54 = .ok (.getfield 39, 3) := by decide +kernel
theorem own_d27_57 : decode prog_17_method_1_code 57 = .ok (.putfield 43, 3) := by decide +kernel
theorem own_la22 {Z : State} {a0 : Array Value} (hw : ∀ d ∈ tables_1, d.before a0 Z = true) : Laid Z a0 "com/example/assemble_quorum/assemblequorum/io/Message" "com/example/assemble_quorum/assemblequorum/io/Message" "granted" "Z" := Or.inr (own_w hw 186 rfl)
theorem own_d27_60 : decode prog_17_method_1_code 60 = .ok (.aload_n 0, 1) := by decide +kernel
theorem own_d27_61 : decode prog_17_method_1_code 61 = .ok (.aload_n 1, 1) := by decide +kernel
theorem own_d27_62 : decode prog_17_method_1_code 62 = .ok (.getfield 44, 3) := by decide +kernel
theorem own_d27_65 : decode prog_17_method_1_code 65 = .ok (.putfield 47, 3) := by decide +kernel
theorem own_la23 {Z : State} {a0 : Array Value} (hw : ∀ d ∈ tables_1, d.before a0 Z = true) : Laid Z a0 "com/example/assemble_quorum/assemblequorum/io/Message" "com/example/assemble_quorum/assemblequorum/io/Message" "priorNumber" "Lcom/example/assemble_quorum/assemblequorum/model/ProposalNumber;" := Or.inr (own_w hw 189 rfl)
theorem own_d27_68 : decode prog_17_method_1_code 68 = .ok (.aload_n 0, 1) := by decide +kernel
theorem own_d27_69 : decode prog_17_method_1_code 69 = .ok (.aload_n 1, 1) := by decide +kernel
theorem own_d27_70 : decode prog_17_method_1_code 70 = .ok (.getfield 48, 3) := by decide +kernel
theorem own_d27_73 : decode prog_17_method_1_code 73 = .ok (.putfield 51, 3) := by decide +kernel
theorem own_la24 {Z : State} {a0 : Array Value} (hw : ∀ d ∈ tables_1, d.before a0 Z = true) : Laid Z a0 "com/example/assemble_quorum/assemblequorum/io/Message" "com/example/assemble_quorum/assemblequorum/io/Message" "priorCandidate" "Lcom/example/assemble_quorum/assemblequorum/model/MemberAddress;" := Or.inr (own_w hw 192 rfl)
theorem own_d27_76 : decode prog_17_method_1_code 76 = .ok (.aload_n 0, 1) := by decide +kernel
theorem own_d27_77 : decode prog_17_method_1_code 77 = .ok (.aload_n 1, 1) := by decide +kernel
theorem own_d27_78 : decode prog_17_method_1_code 78 = .ok (.getfield 52, 3) := by decide +kernel
theorem own_d27_81 : decode prog_17_method_1_code 81 = .ok (.invokestatic 56, 3) := by decide +kernel
abbrev own_y26 : MethodName := ⟨"java/util/List", "copyOf", "(Ljava/util/Collection;)Ljava/util/List;"⟩
theorem own_ef29 (m : MethodId) (x0 : Addr) : entryFrame m #[(.ref x0)] 1 = mkF m 0 #[.val (.ref x0)] [] := by first | (simp [entryFrame, mkF, argsToLocals, Value.category]; done) | rfl
theorem own_d28_0 : decode jdk_40_method_48_code 0 = .ok (.aload_n 0, 1) := by decide +kernel
theorem own_d28_1 : decode jdk_40_method_48_code 1 = .ok (.invokestatic 112, 3) := by decide +kernel
abbrev own_y27 : MethodName := ⟨"java/util/ImmutableCollections", "listCopy", "(Ljava/util/Collection;)Ljava/util/List;"⟩
theorem own_ef30 (m : MethodId) (x0 : Addr) : entryFrame m #[(.ref x0)] 2 = mkF m 0 #[.val (.ref x0), .unset] [] := by first | (simp [entryFrame, mkF, argsToLocals, Value.category]; done) | rfl
theorem own_pn10 : plainName "java/util/ImmutableCollections" = true := by first | (simp [plainName, overriddenIn]; done) | decide +kernel
theorem own_d29_0 : decode jdk_56_method_3_code 0 = .ok (.aload_n 0, 1) := by decide +kernel
theorem own_d29_1 : decode jdk_56_method_3_code 1 = .ok (.instanceof 10, 3) := by decide +kernel
theorem own_d29_4 : decode jdk_56_method_3_code 4 = .ok (.ifCond .ne 22, 3) := by decide +kernel
theorem own_d29_7 : decode jdk_56_method_3_code 7 = .ok (.aload_n 0, 1) := by decide +kernel
theorem own_d29_8 : decode jdk_56_method_3_code 8 = .ok (.instanceof 12, 3) := by decide +kernel
theorem own_d29_11 : decode jdk_56_method_3_code 11 = .ok (.ifCond .eq 20, 3) := by decide +kernel
theorem own_d29_14 : decode jdk_56_method_3_code 14 = .ok (.aload_n 0, 1) := by decide +kernel
theorem own_d29_15 : decode jdk_56_method_3_code 15 = .ok (.checkcast 12, 3) := by decide +kernel
theorem own_d29_18 : decode jdk_56_method_3_code 18 = .ok (.astore_n 1, 1) := by decide +kernel
theorem own_d29_19 : decode jdk_56_method_3_code 19 = .ok (.aload_n 1, 1) := by decide +kernel
theorem own_d29_20 : decode jdk_56_method_3_code 20 = .ok (.getfield 14, 3) := by decide +kernel
theorem own_d29_23 : decode jdk_56_method_3_code 23 = .ok (.ifCond .ne 8, 3) := by decide +kernel
theorem own_d29_26 : decode jdk_56_method_3_code 26 = .ok (.aload_n 0, 1) := by decide +kernel
theorem own_d29_27 : decode jdk_56_method_3_code 27 = .ok (.checkcast 18, 3) := by decide +kernel
theorem own_d29_30 : decode jdk_56_method_3_code 30 = .ok (.areturn, 1) := by decide +kernel
def own_Q_rmA28 (Z : State)   (cs : Int32) (wf : Value) (wK0 : Addr) (wK1 : Addr) (wK2 : Addr) (wK3 : Addr) (wL : Addr) (h0 : Heap) (n0 : Nat) (v : Option Value) (h : Heap) (L : List Loc) : Prop := v = some (.ref wL) ∧ Fr n0 L ∧ h = h0
set_option maxRecDepth 65536 in
set_option maxHeartbeats 40000000 in
theorem rmA28 (l : Launch) (Z : State) (a0 : Array Value) (hw : ∀ d ∈ tables_1, d.before a0 Z = true) (ws : List Jvm.Cond)   (cs : Int32) (wf : Value) (wK0 : Addr) (wK1 : Addr) (wK2 : Addr) (wK3 : Addr) (wL : Addr) (h0 : Heap) (n0 : Nat) (O0 : Old Z n0 h0) (G : own_Gl Z cs wf wK0 wK1 wK2 wK3 wL) :
    MetFree l own_y27 (head1 (Jvm.Cond.code own_y27 jdk_56_method_3_code 2 (some (.object "java/util/List")) :: ws) ({ frames := 0, cells := 0, slots := 0, locals := 0 } : Room)) (fun a U => a = #[(.ref wL)] ∧ Z.Warmed39 U.vm ∧ U.heap = h0) (fun _ _ _ _ _ => True) (fun _ U o U' => ∃ v L, o = .returned v ∧ own_Q_rmA28 Z cs wf wK0 wK1 wK2 wK3 wL h0 n0 v U'.heap L ∧ FrameEnd U o U' L ({ frames := 0, cells := 0, slots := 0, locals := 0 } : Room).cells ({ frames := 0, cells := 0, slots := 0, locals := 0 } : Room).slots) := by
  refine MetFree.of_bodySF (plainFor_of_name own_pn10) hisR ?_
  intro p e s m args below meth c s₁ Bd hml0 hP hK
  obtain ⟨rfl, hZ, hh⟩ := hP
  have hx := Bd.exec
  have hby := Bd.bytes
  have hml : c.maxLocals = 2 := hml0
  have hown : s.vm.findClass "java/util/ImmutableCollections" = some m.cls := findClass_of_methodNamed Bd.named
  have hnm := (name_of_methodNamed Bd.named Bd.method).1
  have X0 : Stand p l e ({ frames := 0, cells := 0, slots := 0, locals := 0 } : Room) s m #[(.ref wL)] below meth c s₁ [] 0 0 := Stand.of_body Bd
  have e0 : s₁.heap = h0 := by rw [← hh, Bd.state]; rfl
  have N0 := Fr.nil n0
  have Z0 : n0 ≤ h0.size := O0.1 ▸ O0.2.1
  have g0 : ∀ t, Steps p.tables e below (s₁.setTop (mkF m 0 #[.val (.ref wL), .unset] [])) t → Steps p.tables e below (s₁.setTop (entryFrame m #[(.ref wL)] 2)) t := fun t k => castTop (own_ef30 m (wL)) k
  have G0 := G
  obtain ⟨S_CS, hcs, S_WF, hwf, S_PROPOSAL_ANSWER, S_HELLO, S_EVENT, S_PING, S_L, Ex_L, Fa_L⟩ := G
  have g1 : ∀ t, Steps p.tables e below (s₁.setTop (mkF m 1 #[.val (.ref wL), .unset] [(.ref wL)])) t → Steps p.tables e below (s₁.setTop (entryFrame m #[(.ref wL)] 2)) t := by
    intro t k
    refine g0 t ?_
    show Steps p.tables e below (s₁.setTop (mkF m 0 #[.val (.ref wL), .unset] [])) _
    refine XS.aloadN X0.here hx rfl (hb hby own_d29_0) rfl rfl ?_
    exact k
  obtain ⟨bi, hbi⟩ := own_insAny (by rw [← hZ.alike.findClass]; exact hown) (own_w hw 200 rfl) (Ex_L.ext O0.2)
  rcases bi with _ | _
  · obtain ⟨T2, X2, e2, st2⟩ := instN X0 hx hZ hown (own_w hw 200 rfl) e0 (hh ▸ hbi) (hh ▸ (Ex_L.ext O0.2)) (g := (mkF m 1 #[.val (.ref wL), .unset] [(.ref wL)])) rfl rfl (hb hby own_d29_1)
    obtain ⟨T3, X3, e3, st3⟩ := instY X2 hx hZ hown (own_w hw 206 rfl) e2 (Ins.self (Ex_L.ext O0.2)) (g := (mkF m 8 #[.val (.ref wL), .unset] [(.ref wL)])) rfl rfl (hb hby own_d29_8)
    obtain ⟨T4, X4, e4, st4⟩ := castY X3 hx hZ hown (own_w hw 206 rfl) e3 (Ins.self (Ex_L.ext O0.2)) (g := (mkF m 15 #[.val (.ref wL), .unset] [(.ref wL)])) rfl rfl (hb hby own_d29_15)
    obtain ⟨T5, X5, e5, st5⟩ := getF X4 hx hZ hown (Or.inr (own_w hw 208 rfl)) Via.refl e4 (Fa_L.ext O0.2) (g := (mkF m 20 #[.val (.ref wL), .val (.ref wL)] [(.ref wL)])) rfl rfl (hb hby own_d29_20)
    obtain ⟨T6, X6, e6, st6⟩ := castY X5 hx hZ hown (own_w hw 210 rfl) e5 (Ins.of_exa (Ex_L.ext O0.2) (own_w hw 211 rfl)) (g := (mkF m 27 #[.val (.ref wL), .val (.ref wL)] [(.ref wL)])) rfl rfl (hb hby own_d29_27)
    have g7 : ∀ t, Steps p.tables e below (T6.setTop (mkF m 30 #[.val (.ref wL), .val (.ref wL)] [(.ref wL)])) t → Steps p.tables e below (s₁.setTop (entryFrame m #[(.ref wL)] 2)) t := by
      intro t k
      refine g1 t ?_
      show Steps p.tables e below (s₁.setTop (mkF m 1 #[.val (.ref wL), .unset] [(.ref wL)])) _
      refine st2 _ ?_
      refine XS.ifNo X2.here hx rfl (hb hby own_d29_4) rfl ((if0 _ _).trans (teq (by decide : (0 : Int32) = (0 : Int32))).2) ?_
      refine XS.aloadN X2.here hx rfl (hb hby own_d29_7) rfl rfl ?_
      refine st3 _ ?_
      refine XS.ifNo X3.here hx rfl (hb hby own_d29_11) rfl ((if0 _ _).trans (feq (by decide : ¬ ((1 : Int32) = (0 : Int32)))).1) ?_
      refine XS.aloadN X3.here hx rfl (hb hby own_d29_14) rfl rfl ?_
      refine st4 _ ?_
      refine XS.astoreN X4.here hx rfl (hb hby own_d29_18) rfl rfl (l' := #[.val (.ref wL), .val (.ref wL)]) rfl ?_
      show Steps p.tables e below (T4.setTop (mkF m 19 #[.val (.ref wL), .val (.ref wL)] [])) _
      refine XS.aloadN X4.here hx rfl (hb hby own_d29_19) rfl rfl ?_
      refine st5 _ ?_
      refine XS.ifNo X5.here hx rfl (hb hby own_d29_23) rfl ((if0 _ _).trans (teq (by decide : (0 : Int32) = (0 : Int32))).2) ?_
      refine XS.aloadN X5.here hx rfl (hb hby own_d29_26) rfl rfl ?_
      refine st6 _ ?_
      exact k
    obtain ⟨fs, hrt, hrun, hended, hW, hsame⟩ := X6.leave (v := some (.ref wL)) (fun h => by rw [Bd.returns] at h; cases h)
    refine ⟨_, _, g7 _ ?_, hrun, hended, _, _, rfl, ?_, ⟨_, rfl⟩, hW, hsame.mono (by decide) (by decide)⟩
    · show Steps p.tables e below (T6.setTop (mkF m 30 #[.val (.ref wL), .val (.ref wL)] [(.ref wL)])) _
      jvm_step X6.here [X6.here.top, hx, (hb hby own_d29_30), X6.method', Bd.returns, Value.isRef, FieldType.isReference]
      first | (intro acts; rw [hrt _ acts rfl rfl rfl]) | rw [hrt _ _ rfl rfl rfl]
      exact Steps.refl _
    · show own_Q_rmA28 Z cs wf wK0 wK1 wK2 wK3 wL h0 n0 _ T6.heap _
      rw [e6]
      exact ⟨rfl, N0, rfl⟩
  · obtain ⟨T8, X8, e8, st8⟩ := instY X0 hx hZ hown (own_w hw 200 rfl) e0 hbi (g := (mkF m 1 #[.val (.ref wL), .unset] [(.ref wL)])) rfl rfl (hb hby own_d29_1)
    obtain ⟨T9, X9, e9, st9⟩ := castY X8 hx hZ hown (own_w hw 210 rfl) e8 (Ins.of_exa (Ex_L.ext O0.2) (own_w hw 211 rfl)) (g := (mkF m 27 #[.val (.ref wL), .unset] [(.ref wL)])) rfl rfl (hb hby own_d29_27)
    have g10 : ∀ t, Steps p.tables e below (T9.setTop (mkF m 30 #[.val (.ref wL), .unset] [(.ref wL)])) t → Steps p.tables e below (s₁.setTop (entryFrame m #[(.ref wL)] 2)) t := by
      intro t k
      refine g1 t ?_
      show Steps p.tables e below (s₁.setTop (mkF m 1 #[.val (.ref wL), .unset] [(.ref wL)])) _
      refine st8 _ ?_
      refine XS.ifYes X8.here hx rfl (pc0 := 4) (pc' := 26) rfl (hb hby own_d29_4) rfl ((if0 _ _).trans (feq (by decide : ¬ ((1 : Int32) = (0 : Int32)))).2) (by decide) (by decide) ?_
      refine XS.aloadN X8.here hx rfl (hb hby own_d29_26) rfl rfl ?_
      refine st9 _ ?_
      exact k
    obtain ⟨fs, hrt, hrun, hended, hW, hsame⟩ := X9.leave (v := some (.ref wL)) (fun h => by rw [Bd.returns] at h; cases h)
    refine ⟨_, _, g10 _ ?_, hrun, hended, _, _, rfl, ?_, ⟨_, rfl⟩, hW, hsame.mono (by decide) (by decide)⟩
    · show Steps p.tables e below (T9.setTop (mkF m 30 #[.val (.ref wL), .unset] [(.ref wL)])) _
      jvm_step X9.here [X9.here.top, hx, (hb hby own_d29_30), X9.method', Bd.returns, Value.isRef, FieldType.isReference]
      first | (intro acts; rw [hrt _ acts rfl rfl rfl]) | rw [hrt _ _ rfl rfl rfl]
      exact Steps.refl _
    · show own_Q_rmA28 Z cs wf wK0 wK1 wK2 wK3 wL h0 n0 _ T9.heap _
      rw [e9]
      exact ⟨rfl, N0, rfl⟩
theorem own_pd20 : parseMethodDescriptor "(Ljava/util/Collection;)Ljava/util/List;" = some ⟨[(.object "java/util/Collection")], some (.object "java/util/List")⟩ := by decide +kernel
theorem own_d28_4 : decode jdk_40_method_48_code 4 = .ok (.areturn, 1) := by decide +kernel
def own_Q_rmA27 (Z : State)   (cs : Int32) (wf : Value) (wK0 : Addr) (wK1 : Addr) (wK2 : Addr) (wK3 : Addr) (wL : Addr) (h0 : Heap) (n0 : Nat) (v : Option Value) (h : Heap) (L : List Loc) : Prop := v = some (.ref wL) ∧ Fr n0 L ∧ h = h0
set_option maxRecDepth 65536 in
set_option maxHeartbeats 40000000 in
theorem rmA27 (l : Launch) (Z : State) (a0 : Array Value) (hw : ∀ d ∈ tables_1, d.before a0 Z = true) (ws : List Jvm.Cond)   (cs : Int32) (wf : Value) (wK0 : Addr) (wK1 : Addr) (wK2 : Addr) (wK3 : Addr) (wL : Addr) (h0 : Heap) (n0 : Nat) (O0 : Old Z n0 h0) (G : own_Gl Z cs wf wK0 wK1 wK2 wK3 wL) :
    MetFree l own_y26 (head1 (Jvm.Cond.code own_y26 jdk_40_method_48_code 1 (some (.object "java/util/List")) :: ws) ({ frames := 1, cells := 0, slots := 0, locals := 13 } : Room)) (fun a U => a = #[(.ref wL)] ∧ Z.Warmed39 U.vm ∧ U.heap = h0) (fun _ _ _ _ _ => True) (fun _ U o U' => ∃ v L, o = .returned v ∧ own_Q_rmA27 Z cs wf wK0 wK1 wK2 wK3 wL h0 n0 v U'.heap L ∧ FrameEnd U o U' L ({ frames := 1, cells := 0, slots := 0, locals := 13 } : Room).cells ({ frames := 1, cells := 0, slots := 0, locals := 13 } : Room).slots) := by
  refine MetFree.of_bodySF (plainFor_of_name own_pn8) hisR ?_
  intro p e s m args below meth c s₁ Bd hml0 hP hK
  obtain ⟨rfl, hZ, hh⟩ := hP
  have hx := Bd.exec
  have hby := Bd.bytes
  have hml : c.maxLocals = 1 := hml0
  have hown : s.vm.findClass "java/util/List" = some m.cls := findClass_of_methodNamed Bd.named
  have hnm := (name_of_methodNamed Bd.named Bd.method).1
  have X0 : Stand p l e ({ frames := 1, cells := 0, slots := 0, locals := 13 } : Room) s m #[(.ref wL)] below meth c s₁ [] 0 0 := Stand.of_body Bd
  have e0 : s₁.heap = h0 := by rw [← hh, Bd.state]; rfl
  have N0 := Fr.nil n0
  have Z0 : n0 ≤ h0.size := O0.1 ▸ O0.2.1
  have g0 : ∀ t, Steps p.tables e below (s₁.setTop (mkF m 0 #[.val (.ref wL)] [])) t → Steps p.tables e below (s₁.setTop (entryFrame m #[(.ref wL)] 1)) t := fun t k => castTop (own_ef29 m (wL)) k
  have G0 := G
  obtain ⟨S_CS, hcs, S_WF, hwf, S_PROPOSAL_ANSWER, S_HELLO, S_EVENT, S_PING, S_L, Ex_L, Fa_L⟩ := G
  obtain ⟨_, _, ⟨T1, L1, k1, n1⟩, -, X1, ⟨Lc1, hQ1, l1, y1, z1⟩, st1⟩ := Jvm.LawKit.callS X0 hx (y := own_y27) hown (mvT hZ (own_w hw 197 rfl)) (mvT hZ (own_w hw 198 rfl)) (mvT hZ (own_w hw 134 rfl)) (mvT hZ (own_w hw 199 rfl)) (by decide) (backOf (W := 0) (rmA28 l Z a0 hw []   cs wf wK0 wK1 wK2 wK3 wL h0 n0 O0 G0   ) hZ (own_w hw 199 rfl) (own_w hw 134 rfl) (by decide) (by decide)) (g := (mkF m 1 #[.val (.ref wL)] [(.ref wL)])) rfl (by rw [hml]; rfl) (argsL := [(.ref wL)]) (rest := []) (lenOf own_pd20 rfl) rfl (by show 2 * 0 + _ ≤ _; exact Nat.le_of_eq rfl) (hb hby own_d28_1) (fun _ _ => ⟨rfl, e0, (by decide : 0 + 0 ≤ _), (by decide : 0 + 0 ≤ _)⟩)
  dsimp only [Pt.U, Pt.locs, Pt.cells, Pt.slots] at X1 l1 y1 z1 st1 hQ1
  subst l1 y1 z1
  obtain ⟨rfl, Nq1, e1⟩ := hQ1
  have N1 := Fr.app N0 Nq1
  have g2 : ∀ t, Steps p.tables e below (T1.setTop (mkF m 4 #[.val (.ref wL)] [(.ref wL)])) t → Steps p.tables e below (s₁.setTop (entryFrame m #[(.ref wL)] 1)) t := by
    intro t k
    refine g0 t ?_
    show Steps p.tables e below (s₁.setTop (mkF m 0 #[.val (.ref wL)] [])) _
    refine XS.aloadN X0.here hx rfl (hb hby own_d28_0) rfl rfl ?_
    refine st1 _ ?_
    exact k
  obtain ⟨fs, hrt, hrun, hended, hW, hsame⟩ := X1.leave (v := some (.ref wL)) (fun h => by rw [Bd.returns] at h; cases h)
  refine ⟨_, _, g2 _ ?_, hrun, hended, _, _, rfl, ?_, ⟨_, rfl⟩, hW, hsame.mono (by decide) (by decide)⟩
  · show Steps p.tables e below (T1.setTop (mkF m 4 #[.val (.ref wL)] [(.ref wL)])) _
    jvm_step X1.here [X1.here.top, hx, (hb hby own_d28_4), X1.method', Bd.returns, Value.isRef, FieldType.isReference]
    first | (intro acts; rw [hrt _ acts rfl rfl rfl]) | rw [hrt _ _ rfl rfl rfl]
    exact Steps.refl _
  · show own_Q_rmA27 Z cs wf wK0 wK1 wK2 wK3 wL h0 n0 _ T1.heap _
    rw [e1]
    exact ⟨rfl, N1, rfl⟩
theorem own_d27_84 : decode prog_17_method_1_code 84 = .ok (.putfield 62, 3) := by decide +kernel
theorem own_la25 {Z : State} {a0 : Array Value} (hw : ∀ d ∈ tables_1, d.before a0 Z = true) : Laid Z a0 "com/example/assemble_quorum/assemblequorum/io/Message" "com/example/assemble_quorum/assemblequorum/io/Message" "members" "Ljava/util/List;" := Or.inr (own_w hw 213 rfl)
theorem own_d27_87 : decode prog_17_method_1_code 87 = .ok (.aload_n 0, 1) := by decide +kernel
theorem own_d27_88 : decode prog_17_method_1_code 88 = .ok (.aload_n 1, 1) := by decide +kernel
theorem own_d27_89 : decode prog_17_method_1_code 89 = .ok (.getfield 63, 3) := by decide +kernel
theorem own_d27_92 : decode prog_17_method_1_code 92 = .ok (.putfield 67, 3) := by decide +kernel
theorem own_la26 {Z : State} {a0 : Array Value} (hw : ∀ d ∈ tables_1, d.before a0 Z = true) : Laid Z a0 "com/example/assemble_quorum/assemblequorum/io/Message" "com/example/assemble_quorum/assemblequorum/io/Message" "topic" "Ljava/lang/String;" := Or.inr (own_w hw 217 rfl)
theorem own_d27_95 : decode prog_17_method_1_code 95 = .ok (.aload_n 0, 1) := by decide +kernel
theorem own_d27_96 : decode prog_17_method_1_code 96 = .ok (.aload_n 1, 1) := by decide +kernel
theorem own_d27_97 : decode prog_17_method_1_code 97 = .ok (.getfield 68, 3) := by decide +kernel
theorem own_d27_100 : decode prog_17_method_1_code 100 = .ok (.putfield 72, 3) := by decide +kernel
theorem own_la27 {Z : State} {a0 : Array Value} (hw : ∀ d ∈ tables_1, d.before a0 Z = true) : Laid Z a0 "com/example/assemble_quorum/assemblequorum/io/Message" "com/example/assemble_quorum/assemblequorum/io/Message" "payload" "[B" := Or.inr (own_w hw 221 rfl)
theorem own_d27_103 : decode prog_17_method_1_code 103 = .ok (.return_, 1) := by decide +kernel
def own_Q_rmA26 (Z : State) (ob0 : Addr) (ob1 : Addr) (ob1_kind : Addr)  (cs : Int32) (wf : Value) (wK0 : Addr) (wK1 : Addr) (wK2 : Addr) (wK3 : Addr) (wL : Addr) (h0 : Heap) (n0 : Nat) (v : Option Value) (h : Heap) (L : List Loc) : Prop := v = none ∧ Fr n0 L ∧ Keep h0 h [ob0] ∧ Exa Z h ob0 "com/example/assemble_quorum/assemblequorum/io/Message" ∧ Fld Z h ob0 "com/example/assemble_quorum/assemblequorum/io/Message" "kind" "Lcom/example/assemble_quorum/assemblequorum/io/Message$Kind;" (.ref ob1_kind) ∧ Fld Z h ob0 "com/example/assemble_quorum/assemblequorum/io/Message" "priorNumber" "Lcom/example/assemble_quorum/assemblequorum/model/ProposalNumber;" .null ∧ Fld Z h ob0 "com/example/assemble_quorum/assemblequorum/io/Message" "priorCandidate" "Lcom/example/assemble_quorum/assemblequorum/model/MemberAddress;" .null ∧ Fld Z h ob0 "com/example/assemble_quorum/assemblequorum/io/Message" "number" "Lcom/example/assemble_quorum/assemblequorum/model/ProposalNumber;" .null ∧ Fld Z h ob0 "com/example/assemble_quorum/assemblequorum/io/Message" "candidate" "Lcom/example/assemble_quorum/assemblequorum/model/MemberAddress;" .null ∧ Fld Z h ob0 "com/example/assemble_quorum/assemblequorum/io/Message" "leader" "Lcom/example/assemble_quorum/assemblequorum/model/MemberAddress;" .null
set_option maxRecDepth 65536 in
set_option maxHeartbeats 40000000 in
theorem rmA26 (l : Launch) (Z : State) (a0 : Array Value) (hw : ∀ d ∈ tables_1, d.before a0 Z = true) (ws : List Jvm.Cond) (ob0 : Addr) (ob1 : Addr) (ob1_kind : Addr)  (cs : Int32) (wf : Value) (wK0 : Addr) (wK1 : Addr) (wK2 : Addr) (wK3 : Addr) (wL : Addr) (h0 : Heap) (n0 : Nat) (O0 : Old Z n0 h0) (G : own_Gl Z cs wf wK0 wK1 wK2 wK3 wL) (E_ob0 : Exa Z h0 ob0 "com/example/assemble_quorum/assemblequorum/io/Message") (F_ob0_candidate : Fld Z h0 ob0 "com/example/assemble_quorum/assemblequorum/io/Message" "candidate" "Lcom/example/assemble_quorum/assemblequorum/model/MemberAddress;" .null) (F_ob0_granted : Fld Z h0 ob0 "com/example/assemble_quorum/assemblequorum/io/Message" "granted" "Z" (.int (0 : Int32))) (F_ob0_kind : Fld Z h0 ob0 "com/example/assemble_quorum/assemblequorum/io/Message" "kind" "Lcom/example/assemble_quorum/assemblequorum/io/Message$Kind;" .null) (F_ob0_leader : Fld Z h0 ob0 "com/example/assemble_quorum/assemblequorum/io/Message" "leader" "Lcom/example/assemble_quorum/assemblequorum/model/MemberAddress;" .null) (F_ob0_members : Fld Z h0 ob0 "com/example/assemble_quorum/assemblequorum/io/Message" "members" "Ljava/util/List;" .null) (F_ob0_number : Fld Z h0 ob0 "com/example/assemble_quorum/assemblequorum/io/Message" "number" "Lcom/example/assemble_quorum/assemblequorum/model/ProposalNumber;" .null) (F_ob0_payload : Fld Z h0 ob0 "com/example/assemble_quorum/assemblequorum/io/Message" "payload" "[B" .null) (F_ob0_priorCandidate : Fld Z h0 ob0 "com/example/assemble_quorum/assemblequorum/io/Message" "priorCandidate" "Lcom/example/assemble_quorum/assemblequorum/model/MemberAddress;" .null) (F_ob0_priorNumber : Fld Z h0 ob0 "com/example/assemble_quorum/assemblequorum/io/Message" "priorNumber" "Lcom/example/assemble_quorum/assemblequorum/model/ProposalNumber;" .null) (F_ob0_sender : Fld Z h0 ob0 "com/example/assemble_quorum/assemblequorum/io/Message" "sender" "Lcom/example/assemble_quorum/assemblequorum/model/MemberAddress;" .null) (F_ob0_topic : Fld Z h0 ob0 "com/example/assemble_quorum/assemblequorum/io/Message" "topic" "Ljava/lang/String;" .null) (F_ob0_version : Fld Z h0 ob0 "com/example/assemble_quorum/assemblequorum/io/Message" "version" "J" (.long (0 : Int64))) (E_ob1 : Exa Z h0 ob1 "com/example/assemble_quorum/assemblequorum/io/Message$Builder") (F_ob1_candidate : Fld Z h0 ob1 "com/example/assemble_quorum/assemblequorum/io/Message$Builder" "candidate" "Lcom/example/assemble_quorum/assemblequorum/model/MemberAddress;" .null) (F_ob1_granted : Fld Z h0 ob1 "com/example/assemble_quorum/assemblequorum/io/Message$Builder" "granted" "Z" (.int (0 : Int32))) (F_ob1_kind : Fld Z h0 ob1 "com/example/assemble_quorum/assemblequorum/io/Message$Builder" "kind" "Lcom/example/assemble_quorum/assemblequorum/io/Message$Kind;" (.ref ob1_kind)) (F_ob1_leader : Fld Z h0 ob1 "com/example/assemble_quorum/assemblequorum/io/Message$Builder" "leader" "Lcom/example/assemble_quorum/assemblequorum/model/MemberAddress;" .null) (F_ob1_members : Fld Z h0 ob1 "com/example/assemble_quorum/assemblequorum/io/Message$Builder" "members" "Ljava/util/List;" (.ref wL)) (F_ob1_number : Fld Z h0 ob1 "com/example/assemble_quorum/assemblequorum/io/Message$Builder" "number" "Lcom/example/assemble_quorum/assemblequorum/model/ProposalNumber;" .null) (F_ob1_payload : Fld Z h0 ob1 "com/example/assemble_quorum/assemblequorum/io/Message$Builder" "payload" "[B" .null) (F_ob1_priorCandidate : Fld Z h0 ob1 "com/example/assemble_quorum/assemblequorum/io/Message$Builder" "priorCandidate" "Lcom/example/assemble_quorum/assemblequorum/model/MemberAddress;" .null) (F_ob1_priorNumber : Fld Z h0 ob1 "com/example/assemble_quorum/assemblequorum/io/Message$Builder" "priorNumber" "Lcom/example/assemble_quorum/assemblequorum/model/ProposalNumber;" .null) (F_ob1_sender : Fld Z h0 ob1 "com/example/assemble_quorum/assemblequorum/io/Message$Builder" "sender" "Lcom/example/assemble_quorum/assemblequorum/model/MemberAddress;" .null) (F_ob1_topic : Fld Z h0 ob1 "com/example/assemble_quorum/assemblequorum/io/Message$Builder" "topic" "Ljava/lang/String;" .null) (F_ob1_version : Fld Z h0 ob1 "com/example/assemble_quorum/assemblequorum/io/Message$Builder" "version" "J" (.long (0 : Int64))) (gz_ob0 : n0 ≤ ob0) :
    MetFree l own_y25 (head1 (Jvm.Cond.code own_y25 prog_17_method_1_code 2 none :: ws) ({ frames := 2, cells := 0, slots := 0, locals := 26 } : Room)) (fun a U => a = #[(.ref ob0), (.ref ob1)] ∧ Z.Warmed39 U.vm ∧ U.heap = h0) (fun _ _ _ _ _ => True) (fun _ U o U' => ∃ v L, o = .returned v ∧ own_Q_rmA26 Z ob0 ob1 ob1_kind cs wf wK0 wK1 wK2 wK3 wL h0 n0 v U'.heap L ∧ FrameEnd U o U' L ({ frames := 2, cells := 0, slots := 0, locals := 26 } : Room).cells ({ frames := 2, cells := 0, slots := 0, locals := 26 } : Room).slots) := by
  refine MetFree.of_bodySF (plainFor_of_name own_pn9) hisR ?_
  intro p e s m args below meth c s₁ Bd hml0 hP hK
  obtain ⟨rfl, hZ, hh⟩ := hP
  have hx := Bd.exec
  have hby := Bd.bytes
  have hml : c.maxLocals = 2 := hml0
  have hown : s.vm.findClass "com/example/assemble_quorum/assemblequorum/io/Message" = some m.cls := findClass_of_methodNamed Bd.named
  have hnm := (name_of_methodNamed Bd.named Bd.method).1
  have X0 : Stand p l e ({ frames := 2, cells := 0, slots := 0, locals := 26 } : Room) s m #[(.ref ob0), (.ref ob1)] below meth c s₁ [] 0 0 := Stand.of_body Bd
  have e0 : s₁.heap = h0 := by rw [← hh, Bd.state]; rfl
  have N0 := Fr.nil n0
  have Z0 : n0 ≤ h0.size := O0.1 ▸ O0.2.1
  have g0 : ∀ t, Steps p.tables e below (s₁.setTop (mkF m 0 #[.val (.ref ob0), .val (.ref ob1)] [])) t → Steps p.tables e below (s₁.setTop (entryFrame m #[(.ref ob0), (.ref ob1)] 2)) t := fun t k => castTop (own_ef28 m (ob0) (ob1)) k
  have G0 := G
  obtain ⟨S_CS, hcs, S_WF, hwf, S_PROPOSAL_ANSWER, S_HELLO, S_EVENT, S_PING, S_L, Ex_L, Fa_L⟩ := G
  obtain ⟨T1, X1, e1, st1⟩ := initO X0 hx hZ hown (own_w hw 159 rfl) (own_w hw 16 rfl) (own_w hw 17 rfl) e0 (g := (mkF m 1 #[.val (.ref ob0), .val (.ref ob1)] [(.ref ob0)])) rfl (by rw [hml]; rfl) rfl (hb hby own_d27_1) (by decide) (W := 0) (by show 2 * 0 + _ ≤ _; exact Nat.le_of_eq rfl) (by decide)
  obtain ⟨T2, X2, e2, st2⟩ := own_getR X1 hx hZ hown (own_w hw 160 rfl) e1 F_ob1_kind (g := (mkF m 6 #[.val (.ref ob0), .val (.ref ob1)] [(.ref ob1), (.ref ob0)])) rfl rfl (hb hby own_d27_6)
  obtain ⟨T3, h3, X3, e3, W3, st3⟩ := putF X2 hx hZ hown (host := "") (Or.inl (own_w hw 161 rfl)) Via.refl e2 F_ob0_kind E_ob0 (Or.inr ⟨(own_w hw 162 rfl), rfl, hnm⟩) (own_w hw 154 rfl) (ty := (.object "com/example/assemble_quorum/assemblequorum/io/Message$Kind")) (by decide) rfl rfl (g := (mkF m 9 #[.val (.ref ob0), .val (.ref ob1)] [(.ref ob1_kind), (.ref ob0)])) rfl rfl (hb hby own_d27_9)
  have Fw3 := F_ob0_kind.same W3
  have N3 := Fr.snoc X3 N0 gz_ob0
  have f4 := (F_ob1_sender.other W3 (Or.inl (Exa.ne E_ob1 E_ob0 (by decide))))
  obtain ⟨T5, X5, e5, st5⟩ := own_getR X3 hx hZ hown (own_w hw 163 rfl) e3 f4 (g := (mkF m 14 #[.val (.ref ob0), .val (.ref ob1)] [(.ref ob1), (.ref ob0)])) rfl rfl (hb hby own_d27_14)
  have f6 := (E_ob0.wr W3)
  have f7 := (F_ob0_sender.other W3 (Or.inr (slot_ne (own_la16 hw) (own_la17 hw) (by decide) own_ty2 own_ty4)))
  obtain ⟨T8, h8, X8, e8, W8, st8⟩ := putF X5 hx hZ hown (host := "") (Or.inl (own_w hw 165 rfl)) Via.refl e5 f7 f6 (Or.inr ⟨(own_w hw 166 rfl), rfl, hnm⟩) (own_w hw 154 rfl) (ty := (.object "com/example/assemble_quorum/assemblequorum/model/MemberAddress")) (by decide) rfl rfl (g := (mkF m 17 #[.val (.ref ob0), .val (.ref ob1)] [.null, (.ref ob0)])) rfl rfl (hb hby own_d27_17)
  have Fw8 := f7.same W8
  have N8 := Fr.snoc X8 N3 gz_ob0
  have f9 := ((F_ob1_leader.other W3 (Or.inl (Exa.ne E_ob1 E_ob0 (by decide)))).other W8 (Or.inl (Exa.ne (E_ob1.wr W3) f6 (by decide))))
  obtain ⟨T10, X10, e10, st10⟩ := own_getR X8 hx hZ hown (own_w hw 167 rfl) e8 f9 (g := (mkF m 22 #[.val (.ref ob0), .val (.ref ob1)] [(.ref ob1), (.ref ob0)])) rfl rfl (hb hby own_d27_22)
  have f11 := (f6.wr W8)
  have f12 := ((F_ob0_leader.other W3 (Or.inr (slot_ne (own_la18 hw) (own_la17 hw) (by decide) own_ty2 own_ty4))).other W8 (Or.inr (slot_ne (own_la18 hw) (own_la16 hw) (by decide) own_ty2 own_ty2)))
  obtain ⟨T13, h13, X13, e13, W13, st13⟩ := putF X10 hx hZ hown (host := "") (Or.inl (own_w hw 169 rfl)) Via.refl e10 f12 f11 (Or.inr ⟨(own_w hw 170 rfl), rfl, hnm⟩) (own_w hw 154 rfl) (ty := (.object "com/example/assemble_quorum/assemblequorum/model/MemberAddress")) (by decide) rfl rfl (g := (mkF m 25 #[.val (.ref ob0), .val (.ref ob1)] [.null, (.ref ob0)])) rfl rfl (hb hby own_d27_25)
  have Fw13 := f12.same W13
  have N13 := Fr.snoc X13 N8 gz_ob0
  have f14 := (((F_ob1_version.other W3 (Or.inl (Exa.ne E_ob1 E_ob0 (by decide)))).other W8 (Or.inl (Exa.ne (E_ob1.wr W3) f6 (by decide)))).other W13 (Or.inl (Exa.ne ((E_ob1.wr W3).wr W8) f11 (by decide))))
  obtain ⟨T15, X15, e15, st15⟩ := own_getR X13 hx hZ hown (own_w hw 171 rfl) e13 f14 (g := (mkF m 30 #[.val (.ref ob0), .val (.ref ob1)] [(.ref ob1), (.ref ob0)])) rfl rfl (hb hby own_d27_30)
  have f16 := (f11.wr W13)
  have f17 := (((F_ob0_version.other W3 (Or.inr (slot_ne (own_la19 hw) (own_la17 hw) (by decide) own_ty3 own_ty4))).other W8 (Or.inr (slot_ne (own_la19 hw) (own_la16 hw) (by decide) own_ty3 own_ty2))).other W13 (Or.inr (slot_ne (own_la19 hw) (own_la18 hw) (by decide) own_ty3 own_ty2)))
  obtain ⟨T18, h18, X18, e18, W18, st18⟩ := putF X15 hx hZ hown (host := "") (Or.inl (own_w hw 173 rfl)) Via.refl e15 f17 f16 (Or.inr ⟨(own_w hw 174 rfl), rfl, hnm⟩) (own_w hw 154 rfl) (ty := .long) (by decide) rfl rfl (g := (mkF m 33 #[.val (.ref ob0), .val (.ref ob1)] [(.long (0 : Int64)), (.ref ob0)])) rfl rfl (hb hby own_d27_33)
  have Fw18 := f17.same W18
  have N18 := Fr.snoc X18 N13 gz_ob0
  have f19 := ((((F_ob1_number.other W3 (Or.inl (Exa.ne E_ob1 E_ob0 (by decide)))).other W8 (Or.inl (Exa.ne (E_ob1.wr W3) f6 (by decide)))).other W13 (Or.inl (Exa.ne ((E_ob1.wr W3).wr W8) f11 (by decide)))).other W18 (Or.inl (Exa.ne (((E_ob1.wr W3).wr W8).wr W13) f16 (by decide))))
  obtain ⟨T20, X20, e20, st20⟩ := own_getR X18 hx hZ hown (own_w hw 175 rfl) e18 f19 (g := (mkF m 38 #[.val (.ref ob0), .val (.ref ob1)] [(.ref ob1), (.ref ob0)])) rfl rfl (hb hby own_d27_38)
  have f21 := (f16.wr W18)
  have f22 := ((((F_ob0_number.other W3 (Or.inr (slot_ne (own_la20 hw) (own_la17 hw) (by decide) own_ty6 own_ty4))).other W8 (Or.inr (slot_ne (own_la20 hw) (own_la16 hw) (by decide) own_ty6 own_ty2))).other W13 (Or.inr (slot_ne (own_la20 hw) (own_la18 hw) (by decide) own_ty6 own_ty2))).other W18 (Or.inr (slot_ne (own_la20 hw) (own_la19 hw) (by decide) own_ty6 own_ty3)))
  obtain ⟨T23, h23, X23, e23, W23, st23⟩ := putF X20 hx hZ hown (host := "") (Or.inl (own_w hw 177 rfl)) Via.refl e20 f22 f21 (Or.inr ⟨(own_w hw 178 rfl), rfl, hnm⟩) (own_w hw 154 rfl) (ty := (.object "com/example/assemble_quorum/assemblequorum/model/ProposalNumber")) (by decide) rfl rfl (g := (mkF m 41 #[.val (.ref ob0), .val (.ref ob1)] [.null, (.ref ob0)])) rfl rfl (hb hby own_d27_41)
  have Fw23 := f22.same W23
  have N23 := Fr.snoc X23 N18 gz_ob0
  have f24 := (((((F_ob1_candidate.other W3 (Or.inl (Exa.ne E_ob1 E_ob0 (by decide)))).other W8 (Or.inl (Exa.ne (E_ob1.wr W3) f6 (by decide)))).other W13 (Or.inl (Exa.ne ((E_ob1.wr W3).wr W8) f11 (by decide)))).other W18 (Or.inl (Exa.ne (((E_ob1.wr W3).wr W8).wr W13) f16 (by decide)))).other W23 (Or.inl (Exa.ne ((((E_ob1.wr W3).wr W8).wr W13).wr W18) f21 (by decide))))
  obtain ⟨T25, X25, e25, st25⟩ := own_getR X23 hx hZ hown (own_w hw 179 rfl) e23 f24 (g := (mkF m 46 #[.val (.ref ob0), .val (.ref ob1)] [(.ref ob1), (.ref ob0)])) rfl rfl (hb hby own_d27_46)
  have f26 := (f21.wr W23)
  have f27 := (((((F_ob0_candidate.other W3 (Or.inr (slot_ne (own_la21 hw) (own_la17 hw) (by decide) own_ty2 own_ty4))).other W8 (Or.inr (slot_ne (own_la21 hw) (own_la16 hw) (by decide) own_ty2 own_ty2))).other W13 (Or.inr (slot_ne (own_la21 hw) (own_la18 hw) (by decide) own_ty2 own_ty2))).other W18 (Or.inr (slot_ne (own_la21 hw) (own_la19 hw) (by decide) own_ty2 own_ty3))).other W23 (Or.inr (slot_ne (own_la21 hw) (own_la20 hw) (by decide) own_ty2 own_ty6)))
  obtain ⟨T28, h28, X28, e28, W28, st28⟩ := putF X25 hx hZ hown (host := "") (Or.inl (own_w hw 181 rfl)) Via.refl e25 f27 f26 (Or.inr ⟨(own_w hw 182 rfl), rfl, hnm⟩) (own_w hw 154 rfl) (ty := (.object "com/example/assemble_quorum/assemblequorum/model/MemberAddress")) (by decide) rfl rfl (g := (mkF m 49 #[.val (.ref ob0), .val (.ref ob1)] [.null, (.ref ob0)])) rfl rfl (hb hby own_d27_49)
  have Fw28 := f27.same W28
  have N28 := Fr.snoc X28 N23 gz_ob0
  have f29 := ((((((F_ob1_granted.other W3 (Or.inl (Exa.ne E_ob1 E_ob0 (by decide)))).other W8 (Or.inl (Exa.ne (E_ob1.wr W3) f6 (by decide)))).other W13 (Or.inl (Exa.ne ((E_ob1.wr W3).wr W8) f11 (by decide)))).other W18 (Or.inl (Exa.ne (((E_ob1.wr W3).wr W8).wr W13) f16 (by decide)))).other W23 (Or.inl (Exa.ne ((((E_ob1.wr W3).wr W8).wr W13).wr W18) f21 (by decide)))).other W28 (Or.inl (Exa.ne (((((E_ob1.wr W3).wr W8).wr W13).wr W18).wr W23) f26 (by decide))))
  obtain ⟨T30, X30, e30, st30⟩ := own_getR X28 hx hZ hown (own_w hw 183 rfl) e28 f29 (g := (mkF m 54 #[.val (.ref ob0), .val (.ref ob1)] [(.ref ob1), (.ref ob0)])) rfl rfl (hb hby own_d27_54)
  have f31 := (f26.wr W28)
  have f32 := ((((((F_ob0_granted.other W3 (Or.inr (slot_ne (own_la22 hw) (own_la17 hw) (by decide) own_ty7 own_ty4))).other W8 (Or.inr (slot_ne (own_la22 hw) (own_la16 hw) (by decide) own_ty7 own_ty2))).other W13 (Or.inr (slot_ne (own_la22 hw) (own_la18 hw) (by decide) own_ty7 own_ty2))).other W18 (Or.inr (slot_ne (own_la22 hw) (own_la19 hw) (by decide) own_ty7 own_ty3))).other W23 (Or.inr (slot_ne (own_la22 hw) (own_la20 hw) (by decide) own_ty7 own_ty6))).other W28 (Or.inr (slot_ne (own_la22 hw) (own_la21 hw) (by decide) own_ty7 own_ty2)))
  obtain ⟨T33, h33, X33, e33, W33, st33⟩ := putFN X30 hx hZ hown (own_w hw 185 rfl) Via.refl e30 f32 f31 (Or.inr ⟨(own_w hw 186 rfl), rfl, hnm⟩) (own_w hw 154 rfl) (ty := .boolean) (v' := (.int (0 : Int32))) (by decide) rfl rfl (g := (mkF m 57 #[.val (.ref ob0), .val (.ref ob1)] [(.int (0 : Int32)), (.ref ob0)])) rfl rfl (hb hby own_d27_57)
  have Fw33 := f32.same W33
  have N33 := Fr.snoc X33 N28 gz_ob0
  have f34 := (((((((F_ob1_priorNumber.other W3 (Or.inl (Exa.ne E_ob1 E_ob0 (by decide)))).other W8 (Or.inl (Exa.ne (E_ob1.wr W3) f6 (by decide)))).other W13 (Or.inl (Exa.ne ((E_ob1.wr W3).wr W8) f11 (by decide)))).other W18 (Or.inl (Exa.ne (((E_ob1.wr W3).wr W8).wr W13) f16 (by decide)))).other W23 (Or.inl (Exa.ne ((((E_ob1.wr W3).wr W8).wr W13).wr W18) f21 (by decide)))).other W28 (Or.inl (Exa.ne (((((E_ob1.wr W3).wr W8).wr W13).wr W18).wr W23) f26 (by decide)))).other W33 (Or.inl (Exa.ne ((((((E_ob1.wr W3).wr W8).wr W13).wr W18).wr W23).wr W28) f31 (by decide))))
  obtain ⟨T35, X35, e35, st35⟩ := own_getR X33 hx hZ hown (own_w hw 187 rfl) e33 f34 (g := (mkF m 62 #[.val (.ref ob0), .val (.ref ob1)] [(.ref ob1), (.ref ob0)])) rfl rfl (hb hby own_d27_62)
  have f36 := (f31.wr W33)
  have f37 := (((((((F_ob0_priorNumber.other W3 (Or.inr (slot_ne (own_la23 hw) (own_la17 hw) (by decide) own_ty6 own_ty4))).other W8 (Or.inr (slot_ne (own_la23 hw) (own_la16 hw) (by decide) own_ty6 own_ty2))).other W13 (Or.inr (slot_ne (own_la23 hw) (own_la18 hw) (by decide) own_ty6 own_ty2))).other W18 (Or.inr (slot_ne (own_la23 hw) (own_la19 hw) (by decide) own_ty6 own_ty3))).other W23 (Or.inr (slot_ne (own_la23 hw) (own_la20 hw) (by decide) own_ty6 own_ty6))).other W28 (Or.inr (slot_ne (own_la23 hw) (own_la21 hw) (by decide) own_ty6 own_ty2))).other W33 (Or.inr (slot_ne (own_la23 hw) (own_la22 hw) (by decide) own_ty6 own_ty7)))
  obtain ⟨T38, h38, X38, e38, W38, st38⟩ := putF X35 hx hZ hown (host := "") (Or.inl (own_w hw 188 rfl)) Via.refl e35 f37 f36 (Or.inr ⟨(own_w hw 189 rfl), rfl, hnm⟩) (own_w hw 154 rfl) (ty := (.object "com/example/assemble_quorum/assemblequorum/model/ProposalNumber")) (by decide) rfl rfl (g := (mkF m 65 #[.val (.ref ob0), .val (.ref ob1)] [.null, (.ref ob0)])) rfl rfl (hb hby own_d27_65)
  have Fw38 := f37.same W38
  have N38 := Fr.snoc X38 N33 gz_ob0
  have f39 := ((((((((F_ob1_priorCandidate.other W3 (Or.inl (Exa.ne E_ob1 E_ob0 (by decide)))).other W8 (Or.inl (Exa.ne (E_ob1.wr W3) f6 (by decide)))).other W13 (Or.inl (Exa.ne ((E_ob1.wr W3).wr W8) f11 (by decide)))).other W18 (Or.inl (Exa.ne (((E_ob1.wr W3).wr W8).wr W13) f16 (by decide)))).other W23 (Or.inl (Exa.ne ((((E_ob1.wr W3).wr W8).wr W13).wr W18) f21 (by decide)))).other W28 (Or.inl (Exa.ne (((((E_ob1.wr W3).wr W8).wr W13).wr W18).wr W23) f26 (by decide)))).other W33 (Or.inl (Exa.ne ((((((E_ob1.wr W3).wr W8).wr W13).wr W18).wr W23).wr W28) f31 (by decide)))).other W38 (Or.inl (Exa.ne (((((((E_ob1.wr W3).wr W8).wr W13).wr W18).wr W23).wr W28).wr W33) f36 (by decide))))
  obtain ⟨T40, X40, e40, st40⟩ := own_getR X38 hx hZ hown (own_w hw 190 rfl) e38 f39 (g := (mkF m 70 #[.val (.ref ob0), .val (.ref ob1)] [(.ref ob1), (.ref ob0)])) rfl rfl (hb hby own_d27_70)
  have f41 := (f36.wr W38)
  have f42 := ((((((((F_ob0_priorCandidate.other W3 (Or.inr (slot_ne (own_la24 hw) (own_la17 hw) (by decide) own_ty2 own_ty4))).other W8 (Or.inr (slot_ne (own_la24 hw) (own_la16 hw) (by decide) own_ty2 own_ty2))).other W13 (Or.inr (slot_ne (own_la24 hw) (own_la18 hw) (by decide) own_ty2 own_ty2))).other W18 (Or.inr (slot_ne (own_la24 hw) (own_la19 hw) (by decide) own_ty2 own_ty3))).other W23 (Or.inr (slot_ne (own_la24 hw) (own_la20 hw) (by decide) own_ty2 own_ty6))).other W28 (Or.inr (slot_ne (own_la24 hw) (own_la21 hw) (by decide) own_ty2 own_ty2))).other W33 (Or.inr (slot_ne (own_la24 hw) (own_la22 hw) (by decide) own_ty2 own_ty7))).other W38 (Or.inr (slot_ne (own_la24 hw) (own_la23 hw) (by decide) own_ty2 own_ty6)))
  obtain ⟨T43, h43, X43, e43, W43, st43⟩ := putF X40 hx hZ hown (host := "") (Or.inl (own_w hw 191 rfl)) Via.refl e40 f42 f41 (Or.inr ⟨(own_w hw 192 rfl), rfl, hnm⟩) (own_w hw 154 rfl) (ty := (.object "com/example/assemble_quorum/assemblequorum/model/MemberAddress")) (by decide) rfl rfl (g := (mkF m 73 #[.val (.ref ob0), .val (.ref ob1)] [.null, (.ref ob0)])) rfl rfl (hb hby own_d27_73)
  have Fw43 := f42.same W43
  have N43 := Fr.snoc X43 N38 gz_ob0
  have f44 := (((((((((F_ob1_members.other W3 (Or.inl (Exa.ne E_ob1 E_ob0 (by decide)))).other W8 (Or.inl (Exa.ne (E_ob1.wr W3) f6 (by decide)))).other W13 (Or.inl (Exa.ne ((E_ob1.wr W3).wr W8) f11 (by decide)))).other W18 (Or.inl (Exa.ne (((E_ob1.wr W3).wr W8).wr W13) f16 (by decide)))).other W23 (Or.inl (Exa.ne ((((E_ob1.wr W3).wr W8).wr W13).wr W18) f21 (by decide)))).other W28 (Or.inl (Exa.ne (((((E_ob1.wr W3).wr W8).wr W13).wr W18).wr W23) f26 (by decide)))).other W33 (Or.inl (Exa.ne ((((((E_ob1.wr W3).wr W8).wr W13).wr W18).wr W23).wr W28) f31 (by decide)))).other W38 (Or.inl (Exa.ne (((((((E_ob1.wr W3).wr W8).wr W13).wr W18).wr W23).wr W28).wr W33) f36 (by decide)))).other W43 (Or.inl (Exa.ne ((((((((E_ob1.wr W3).wr W8).wr W13).wr W18).wr W23).wr W28).wr W33).wr W38) f41 (by decide))))
  obtain ⟨T45, X45, e45, st45⟩ := own_getR X43 hx hZ hown (own_w hw 193 rfl) e43 f44 (g := (mkF m 78 #[.val (.ref ob0), .val (.ref ob1)] [(.ref ob1), (.ref ob0)])) rfl rfl (hb hby own_d27_78)
  obtain ⟨LL46, XL46, NL46⟩ : ∃ LL : List Loc, Stand p l e ({ frames := 2, cells := 0, slots := 0, locals := 26 } : Room) s m #[(.ref ob0), (.ref ob1)] below meth c T45 LL 0 0 ∧ Fr n0 LL := ⟨_, X45, N43⟩
  have o47 : Old Z n0 h43 := (Old.wr (Old.wr (Old.wr (Old.wr (Old.wr (Old.wr (Old.wr (Old.wr (Old.wr O0 W3 gz_ob0) W8 gz_ob0) W13 gz_ob0) W18 gz_ob0) W23 gz_ob0) W28 gz_ob0) W33 gz_ob0) W38 gz_ob0) W43 gz_ob0)
  obtain ⟨_, _, ⟨T48, L48, k48, n48⟩, -, X48, ⟨Lc48, hQ48, l48, y48, z48⟩, st48⟩ := Jvm.LawKit.callS XL46 hx (y := own_y26) hown (mvT hZ (own_w hw 194 rfl)) (mvT hZ (own_w hw 195 rfl)) (mvT hZ (own_w hw 131 rfl)) (mvT hZ (own_w hw 196 rfl)) (by decide) (backOf (W := 1) (rmA27 l Z a0 hw []   cs wf wK0 wK1 wK2 wK3 wL h43 n0 o47 G0   ) hZ (own_w hw 196 rfl) (own_w hw 131 rfl) (by decide) (by decide)) (g := (mkF m 81 #[.val (.ref ob0), .val (.ref ob1)] [(.ref wL), (.ref ob0)])) rfl (by rw [hml]; rfl) (argsL := [(.ref wL)]) (rest := [(.ref ob0)]) (lenOf own_pd20 rfl) rfl (by show 2 * 0 + _ ≤ _; exact Nat.le_of_eq rfl) (hb hby own_d27_81) (fun _ _ => ⟨rfl, e45, (by decide : 0 + 0 ≤ _), (by decide : 0 + 0 ≤ _)⟩)
  dsimp only [Pt.U, Pt.locs, Pt.cells, Pt.slots] at X48 l48 y48 z48 st48 hQ48
  subst l48 y48 z48
  obtain ⟨rfl, Nq48, e48⟩ := hQ48
  have N48 := Fr.app NL46 Nq48
  have f49 := (f41.wr W43)
  have f50 := (((((((((F_ob0_members.other W3 (Or.inr (slot_ne (own_la25 hw) (own_la17 hw) (by decide) own_ty5 own_ty4))).other W8 (Or.inr (slot_ne (own_la25 hw) (own_la16 hw) (by decide) own_ty5 own_ty2))).other W13 (Or.inr (slot_ne (own_la25 hw) (own_la18 hw) (by decide) own_ty5 own_ty2))).other W18 (Or.inr (slot_ne (own_la25 hw) (own_la19 hw) (by decide) own_ty5 own_ty3))).other W23 (Or.inr (slot_ne (own_la25 hw) (own_la20 hw) (by decide) own_ty5 own_ty6))).other W28 (Or.inr (slot_ne (own_la25 hw) (own_la21 hw) (by decide) own_ty5 own_ty2))).other W33 (Or.inr (slot_ne (own_la25 hw) (own_la22 hw) (by decide) own_ty5 own_ty7))).other W38 (Or.inr (slot_ne (own_la25 hw) (own_la23 hw) (by decide) own_ty5 own_ty6))).other W43 (Or.inr (slot_ne (own_la25 hw) (own_la24 hw) (by decide) own_ty5 own_ty2)))
  obtain ⟨T51, h51, X51, e51, W51, st51⟩ := putF X48 hx hZ hown (host := "") (Or.inl (own_w hw 212 rfl)) Via.refl e48 f50 f49 (Or.inr ⟨(own_w hw 213 rfl), rfl, hnm⟩) (own_w hw 154 rfl) (ty := (.object "java/util/List")) (by decide) rfl rfl (g := (mkF m 84 #[.val (.ref ob0), .val (.ref ob1)] [(.ref wL), (.ref ob0)])) rfl rfl (hb hby own_d27_84)
  have Fw51 := f50.same W51
  have N51 := Fr.snoc X51 N48 gz_ob0
  have f52 := ((((((((((F_ob1_topic.other W3 (Or.inl (Exa.ne E_ob1 E_ob0 (by decide)))).other W8 (Or.inl (Exa.ne (E_ob1.wr W3) f6 (by decide)))).other W13 (Or.inl (Exa.ne ((E_ob1.wr W3).wr W8) f11 (by decide)))).other W18 (Or.inl (Exa.ne (((E_ob1.wr W3).wr W8).wr W13) f16 (by decide)))).other W23 (Or.inl (Exa.ne ((((E_ob1.wr W3).wr W8).wr W13).wr W18) f21 (by decide)))).other W28 (Or.inl (Exa.ne (((((E_ob1.wr W3).wr W8).wr W13).wr W18).wr W23) f26 (by decide)))).other W33 (Or.inl (Exa.ne ((((((E_ob1.wr W3).wr W8).wr W13).wr W18).wr W23).wr W28) f31 (by decide)))).other W38 (Or.inl (Exa.ne (((((((E_ob1.wr W3).wr W8).wr W13).wr W18).wr W23).wr W28).wr W33) f36 (by decide)))).other W43 (Or.inl (Exa.ne ((((((((E_ob1.wr W3).wr W8).wr W13).wr W18).wr W23).wr W28).wr W33).wr W38) f41 (by decide)))).other W51 (Or.inl (Exa.ne (((((((((E_ob1.wr W3).wr W8).wr W13).wr W18).wr W23).wr W28).wr W33).wr W38).wr W43) f49 (by decide))))
  obtain ⟨T53, X53, e53, st53⟩ := own_getR X51 hx hZ hown (own_w hw 214 rfl) e51 f52 (g := (mkF m 89 #[.val (.ref ob0), .val (.ref ob1)] [(.ref ob1), (.ref ob0)])) rfl rfl (hb hby own_d27_89)
  have f54 := (f49.wr W51)
  have f55 := ((((((((((F_ob0_topic.other W3 (Or.inr (slot_ne (own_la26 hw) (own_la17 hw) (by decide) own_ty1 own_ty4))).other W8 (Or.inr (slot_ne (own_la26 hw) (own_la16 hw) (by decide) own_ty1 own_ty2))).other W13 (Or.inr (slot_ne (own_la26 hw) (own_la18 hw) (by decide) own_ty1 own_ty2))).other W18 (Or.inr (slot_ne (own_la26 hw) (own_la19 hw) (by decide) own_ty1 own_ty3))).other W23 (Or.inr (slot_ne (own_la26 hw) (own_la20 hw) (by decide) own_ty1 own_ty6))).other W28 (Or.inr (slot_ne (own_la26 hw) (own_la21 hw) (by decide) own_ty1 own_ty2))).other W33 (Or.inr (slot_ne (own_la26 hw) (own_la22 hw) (by decide) own_ty1 own_ty7))).other W38 (Or.inr (slot_ne (own_la26 hw) (own_la23 hw) (by decide) own_ty1 own_ty6))).other W43 (Or.inr (slot_ne (own_la26 hw) (own_la24 hw) (by decide) own_ty1 own_ty2))).other W51 (Or.inr (slot_ne (own_la26 hw) (own_la25 hw) (by decide) own_ty1 own_ty5)))
  obtain ⟨T56, h56, X56, e56, W56, st56⟩ := putF X53 hx hZ hown (host := "") (Or.inl (own_w hw 216 rfl)) Via.refl e53 f55 f54 (Or.inr ⟨(own_w hw 217 rfl), rfl, hnm⟩) (own_w hw 154 rfl) (ty := (.object "java/lang/String")) (by decide) rfl rfl (g := (mkF m 92 #[.val (.ref ob0), .val (.ref ob1)] [.null, (.ref ob0)])) rfl rfl (hb hby own_d27_92)
  have Fw56 := f55.same W56
  have N56 := Fr.snoc X56 N51 gz_ob0
  have f57 := (((((((((((F_ob1_payload.other W3 (Or.inl (Exa.ne E_ob1 E_ob0 (by decide)))).other W8 (Or.inl (Exa.ne (E_ob1.wr W3) f6 (by decide)))).other W13 (Or.inl (Exa.ne ((E_ob1.wr W3).wr W8) f11 (by decide)))).other W18 (Or.inl (Exa.ne (((E_ob1.wr W3).wr W8).wr W13) f16 (by decide)))).other W23 (Or.inl (Exa.ne ((((E_ob1.wr W3).wr W8).wr W13).wr W18) f21 (by decide)))).other W28 (Or.inl (Exa.ne (((((E_ob1.wr W3).wr W8).wr W13).wr W18).wr W23) f26 (by decide)))).other W33 (Or.inl (Exa.ne ((((((E_ob1.wr W3).wr W8).wr W13).wr W18).wr W23).wr W28) f31 (by decide)))).other W38 (Or.inl (Exa.ne (((((((E_ob1.wr W3).wr W8).wr W13).wr W18).wr W23).wr W28).wr W33) f36 (by decide)))).other W43 (Or.inl (Exa.ne ((((((((E_ob1.wr W3).wr W8).wr W13).wr W18).wr W23).wr W28).wr W33).wr W38) f41 (by decide)))).other W51 (Or.inl (Exa.ne (((((((((E_ob1.wr W3).wr W8).wr W13).wr W18).wr W23).wr W28).wr W33).wr W38).wr W43) f49 (by decide)))).other W56 (Or.inl (Exa.ne ((((((((((E_ob1.wr W3).wr W8).wr W13).wr W18).wr W23).wr W28).wr W33).wr W38).wr W43).wr W51) f54 (by decide))))
  obtain ⟨T58, X58, e58, st58⟩ := own_getR X56 hx hZ hown (own_w hw 218 rfl) e56 f57 (g := (mkF m 97 #[.val (.ref ob0), .val (.ref ob1)] [(.ref ob1), (.ref ob0)])) rfl rfl (hb hby own_d27_97)
  have f59 := (f54.wr W56)
  have f60 := (((((((((((F_ob0_payload.other W3 (Or.inr (slot_ne (own_la27 hw) (own_la17 hw) (by decide) own_ty8 own_ty4))).other W8 (Or.inr (slot_ne (own_la27 hw) (own_la16 hw) (by decide) own_ty8 own_ty2))).other W13 (Or.inr (slot_ne (own_la27 hw) (own_la18 hw) (by decide) own_ty8 own_ty2))).other W18 (Or.inr (slot_ne (own_la27 hw) (own_la19 hw) (by decide) own_ty8 own_ty3))).other W23 (Or.inr (slot_ne (own_la27 hw) (own_la20 hw) (by decide) own_ty8 own_ty6))).other W28 (Or.inr (slot_ne (own_la27 hw) (own_la21 hw) (by decide) own_ty8 own_ty2))).other W33 (Or.inr (slot_ne (own_la27 hw) (own_la22 hw) (by decide) own_ty8 own_ty7))).other W38 (Or.inr (slot_ne (own_la27 hw) (own_la23 hw) (by decide) own_ty8 own_ty6))).other W43 (Or.inr (slot_ne (own_la27 hw) (own_la24 hw) (by decide) own_ty8 own_ty2))).other W51 (Or.inr (slot_ne (own_la27 hw) (own_la25 hw) (by decide) own_ty8 own_ty5))).other W56 (Or.inr (slot_ne (own_la27 hw) (own_la26 hw) (by decide) own_ty8 own_ty1)))
  obtain ⟨T61, h61, X61, e61, W61, st61⟩ := putF X58 hx hZ hown (host := "") (Or.inl (own_w hw 220 rfl)) Via.refl e58 f60 f59 (Or.inr ⟨(own_w hw 221 rfl), rfl, hnm⟩) (own_w hw 154 rfl) (ty := (.array .byte)) (by decide) rfl rfl (g := (mkF m 100 #[.val (.ref ob0), .val (.ref ob1)] [.null, (.ref ob0)])) rfl rfl (hb hby own_d27_100)
  have Fw61 := f60.same W61
  have N61 := Fr.snoc X61 N56 gz_ob0
  have g62 : ∀ t, Steps p.tables e below (T61.setTop (mkF m 103 #[.val (.ref ob0), .val (.ref ob1)] [])) t → Steps p.tables e below (s₁.setTop (entryFrame m #[(.ref ob0), (.ref ob1)] 2)) t := by
    intro t k
    refine g0 t ?_
    show Steps p.tables e below (s₁.setTop (mkF m 0 #[.val (.ref ob0), .val (.ref ob1)] [])) _
    refine XS.aloadN X0.here hx rfl (hb hby own_d27_0) rfl rfl ?_
    refine st1 _ ?_
    refine XS.aloadN X1.here hx rfl (hb hby own_d27_4) rfl rfl ?_
    refine XS.aloadN X1.here hx rfl (hb hby own_d27_5) rfl rfl ?_
    refine st2 _ ?_
    refine st3 _ ?_
    refine XS.aloadN X3.here hx rfl (hb hby own_d27_12) rfl rfl ?_
    refine XS.aloadN X3.here hx rfl (hb hby own_d27_13) rfl rfl ?_
    show Steps p.tables e below (T3.setTop (mkF m 14 #[.val (.ref ob0), .val (.ref ob1)] [(.ref ob1), (.ref ob0)])) _
    refine st5 _ ?_
    refine st8 _ ?_
    refine XS.aloadN X8.here hx rfl (hb hby own_d27_20) rfl rfl ?_
    refine XS.aloadN X8.here hx rfl (hb hby own_d27_21) rfl rfl ?_
    refine st10 _ ?_
    refine st13 _ ?_
    refine XS.aloadN X13.here hx rfl (hb hby own_d27_28) rfl rfl ?_
    refine XS.aloadN X13.here hx rfl (hb hby own_d27_29) rfl rfl ?_
    show Steps p.tables e below (T13.setTop (mkF m 30 #[.val (.ref ob0), .val (.ref ob1)] [(.ref ob1), (.ref ob0)])) _
    refine st15 _ ?_
    refine st18 _ ?_
    refine XS.aloadN X18.here hx rfl (hb hby own_d27_36) rfl rfl ?_
    refine XS.aloadN X18.here hx rfl (hb hby own_d27_37) rfl rfl ?_
    refine st20 _ ?_
    refine st23 _ ?_
    refine XS.aloadN X23.here hx rfl (hb hby own_d27_44) rfl rfl ?_
    refine XS.aloadN X23.here hx rfl (hb hby own_d27_45) rfl rfl ?_
    show Steps p.tables e below (T23.setTop (mkF m 46 #[.val (.ref ob0), .val (.ref ob1)] [(.ref ob1), (.ref ob0)])) _
    refine st25 _ ?_
    refine st28 _ ?_
    refine XS.aloadN X28.here hx rfl (hb hby own_d27_52) rfl rfl ?_
    refine XS.aloadN X28.here hx rfl (hb hby own_d27_53) rfl rfl ?_
    refine st30 _ ?_
    refine st33 _ ?_
    refine XS.aloadN X33.here hx rfl (hb hby own_d27_60) rfl rfl ?_
    refine XS.aloadN X33.here hx rfl (hb hby own_d27_61) rfl rfl ?_
    show Steps p.tables e below (T33.setTop (mkF m 62 #[.val (.ref ob0), .val (.ref ob1)] [(.ref ob1), (.ref ob0)])) _
    refine st35 _ ?_
    refine st38 _ ?_
    refine XS.aloadN X38.here hx rfl (hb hby own_d27_68) rfl rfl ?_
    refine XS.aloadN X38.here hx rfl (hb hby own_d27_69) rfl rfl ?_
    refine st40 _ ?_
    refine st43 _ ?_
    refine XS.aloadN X43.here hx rfl (hb hby own_d27_76) rfl rfl ?_
    refine XS.aloadN X43.here hx rfl (hb hby own_d27_77) rfl rfl ?_
    show Steps p.tables e below (T43.setTop (mkF m 78 #[.val (.ref ob0), .val (.ref ob1)] [(.ref ob1), (.ref ob0)])) _
    refine st45 _ ?_
    refine st48 _ ?_
    refine st51 _ ?_
    refine XS.aloadN X51.here hx rfl (hb hby own_d27_87) rfl rfl ?_
    refine XS.aloadN X51.here hx rfl (hb hby own_d27_88) rfl rfl ?_
    refine st53 _ ?_
    refine st56 _ ?_
    refine XS.aloadN X56.here hx rfl (hb hby own_d27_95) rfl rfl ?_
    show Steps p.tables e below (T56.setTop (mkF m 96 #[.val (.ref ob0), .val (.ref ob1)] [(.ref ob0)])) _
    refine XS.aloadN X56.here hx rfl (hb hby own_d27_96) rfl rfl ?_
    refine st58 _ ?_
    refine st61 _ ?_
    exact k
  obtain ⟨fs, hrt, hrun, hended, hW, hsame⟩ := X61.leave (v := none) (fun _ => rfl)
  have f63 := (f59.wr W61)
  have f64 := (((((((((((Fw3.other W8 (Or.inr (slot_ne (own_la17 hw) (own_la16 hw) (by decide) own_ty4 own_ty2))).other W13 (Or.inr (slot_ne (own_la17 hw) (own_la18 hw) (by decide) own_ty4 own_ty2))).other W18 (Or.inr (slot_ne (own_la17 hw) (own_la19 hw) (by decide) own_ty4 own_ty3))).other W23 (Or.inr (slot_ne (own_la17 hw) (own_la20 hw) (by decide) own_ty4 own_ty6))).other W28 (Or.inr (slot_ne (own_la17 hw) (own_la21 hw) (by decide) own_ty4 own_ty2))).other W33 (Or.inr (slot_ne (own_la17 hw) (own_la22 hw) (by decide) own_ty4 own_ty7))).other W38 (Or.inr (slot_ne (own_la17 hw) (own_la23 hw) (by decide) own_ty4 own_ty6))).other W43 (Or.inr (slot_ne (own_la17 hw) (own_la24 hw) (by decide) own_ty4 own_ty2))).other W51 (Or.inr (slot_ne (own_la17 hw) (own_la25 hw) (by decide) own_ty4 own_ty5))).other W56 (Or.inr (slot_ne (own_la17 hw) (own_la26 hw) (by decide) own_ty4 own_ty1))).other W61 (Or.inr (slot_ne (own_la17 hw) (own_la27 hw) (by decide) own_ty4 own_ty8)))
  have f65 := ((((Fw38.other W43 (Or.inr (slot_ne (own_la23 hw) (own_la24 hw) (by decide) own_ty6 own_ty2))).other W51 (Or.inr (slot_ne (own_la23 hw) (own_la25 hw) (by decide) own_ty6 own_ty5))).other W56 (Or.inr (slot_ne (own_la23 hw) (own_la26 hw) (by decide) own_ty6 own_ty1))).other W61 (Or.inr (slot_ne (own_la23 hw) (own_la27 hw) (by decide) own_ty6 own_ty8)))
  have f66 := (((Fw43.other W51 (Or.inr (slot_ne (own_la24 hw) (own_la25 hw) (by decide) own_ty2 own_ty5))).other W56 (Or.inr (slot_ne (own_la24 hw) (own_la26 hw) (by decide) own_ty2 own_ty1))).other W61 (Or.inr (slot_ne (own_la24 hw) (own_la27 hw) (by decide) own_ty2 own_ty8)))
  have f67 := (((((((Fw23.other W28 (Or.inr (slot_ne (own_la20 hw) (own_la21 hw) (by decide) own_ty6 own_ty2))).other W33 (Or.inr (slot_ne (own_la20 hw) (own_la22 hw) (by decide) own_ty6 own_ty7))).other W38 (Or.inr (slot_ne (own_la20 hw) (own_la23 hw) (by decide) own_ty6 own_ty6))).other W43 (Or.inr (slot_ne (own_la20 hw) (own_la24 hw) (by decide) own_ty6 own_ty2))).other W51 (Or.inr (slot_ne (own_la20 hw) (own_la25 hw) (by decide) own_ty6 own_ty5))).other W56 (Or.inr (slot_ne (own_la20 hw) (own_la26 hw) (by decide) own_ty6 own_ty1))).other W61 (Or.inr (slot_ne (own_la20 hw) (own_la27 hw) (by decide) own_ty6 own_ty8)))
  have f68 := ((((((Fw28.other W33 (Or.inr (slot_ne (own_la21 hw) (own_la22 hw) (by decide) own_ty2 own_ty7))).other W38 (Or.inr (slot_ne (own_la21 hw) (own_la23 hw) (by decide) own_ty2 own_ty6))).other W43 (Or.inr (slot_ne (own_la21 hw) (own_la24 hw) (by decide) own_ty2 own_ty2))).other W51 (Or.inr (slot_ne (own_la21 hw) (own_la25 hw) (by decide) own_ty2 own_ty5))).other W56 (Or.inr (slot_ne (own_la21 hw) (own_la26 hw) (by decide) own_ty2 own_ty1))).other W61 (Or.inr (slot_ne (own_la21 hw) (own_la27 hw) (by decide) own_ty2 own_ty8)))
  have f69 := (((((((((Fw13.other W18 (Or.inr (slot_ne (own_la18 hw) (own_la19 hw) (by decide) own_ty2 own_ty3))).other W23 (Or.inr (slot_ne (own_la18 hw) (own_la20 hw) (by decide) own_ty2 own_ty6))).other W28 (Or.inr (slot_ne (own_la18 hw) (own_la21 hw) (by decide) own_ty2 own_ty2))).other W33 (Or.inr (slot_ne (own_la18 hw) (own_la22 hw) (by decide) own_ty2 own_ty7))).other W38 (Or.inr (slot_ne (own_la18 hw) (own_la23 hw) (by decide) own_ty2 own_ty6))).other W43 (Or.inr (slot_ne (own_la18 hw) (own_la24 hw) (by decide) own_ty2 own_ty2))).other W51 (Or.inr (slot_ne (own_la18 hw) (own_la25 hw) (by decide) own_ty2 own_ty5))).other W56 (Or.inr (slot_ne (own_la18 hw) (own_la26 hw) (by decide) own_ty2 own_ty1))).other W61 (Or.inr (slot_ne (own_la18 hw) (own_la27 hw) (by decide) own_ty2 own_ty8)))
  refine ⟨_, _, g62 _ ?_, hrun, hended, _, _, rfl, ?_, ⟨_, rfl⟩, hW, hsame.mono (by decide) (by decide)⟩
  · show Steps p.tables e below (T61.setTop (mkF m 103 #[.val (.ref ob0), .val (.ref ob1)] [])) _
    exact X61.returnOut hx Bd.returns (hb hby own_d27_103) hrt
  · show own_Q_rmA26 Z ob0 ob1 ob1_kind cs wf wK0 wK1 wK2 wK3 wL h0 n0 _ T61.heap _
    rw [e61]
    exact ⟨rfl, N61, (Keep.wr (Keep.wr (Keep.wr (Keep.wr (Keep.wr (Keep.wr (Keep.wr (Keep.wr (Keep.wr (Keep.wr (Keep.wr (Keep.wr (Keep.refl h0 [ob0]) W3 (Or.inl (List.mem_of_getElem? (i := 0) rfl))) W8 (Or.inl (List.mem_of_getElem? (i := 0) rfl))) W13 (Or.inl (List.mem_of_getElem? (i := 0) rfl))) W18 (Or.inl (List.mem_of_getElem? (i := 0) rfl))) W23 (Or.inl (List.mem_of_getElem? (i := 0) rfl))) W28 (Or.inl (List.mem_of_getElem? (i := 0) rfl))) W33 (Or.inl (List.mem_of_getElem? (i := 0) rfl))) W38 (Or.inl (List.mem_of_getElem? (i := 0) rfl))) W43 (Or.inl (List.mem_of_getElem? (i := 0) rfl))) W51 (Or.inl (List.mem_of_getElem? (i := 0) rfl))) W56 (Or.inl (List.mem_of_getElem? (i := 0) rfl))) W61 (Or.inl (List.mem_of_getElem? (i := 0) rfl))), f63, f64, f65, f66, f67, f68, f69⟩
theorem own_pd21 : parseMethodDescriptor "(Lcom/example/assemble_quorum/assemblequorum/io/Message$Builder;)V" = some ⟨[(.object "com/example/assemble_quorum/assemblequorum/io/Message$Builder")], none⟩ := by decide +kernel
theorem own_d26_8 : decode prog_18_method_12_code 8 = .ok (.areturn, 1) := by decide +kernel
def own_Q_rmA25 (Z : State) (ob0 : Addr) (ob0_kind : Addr)  (cs : Int32) (wf : Value) (wK0 : Addr) (wK1 : Addr) (wK2 : Addr) (wK3 : Addr) (wL : Addr) (h0 : Heap) (n0 : Nat) (v : Option Value) (h : Heap) (L : List Loc) : Prop := ∃ bm : Addr, v = some (.ref bm) ∧ Fr n0 L ∧ Keep h0 h [] ∧ h0.size ≤ bm ∧ Exa Z h bm "com/example/assemble_quorum/assemblequorum/io/Message" ∧ Fld Z h bm "com/example/assemble_quorum/assemblequorum/io/Message" "kind" "Lcom/example/assemble_quorum/assemblequorum/io/Message$Kind;" (.ref ob0_kind) ∧ Fld Z h bm "com/example/assemble_quorum/assemblequorum/io/Message" "priorNumber" "Lcom/example/assemble_quorum/assemblequorum/model/ProposalNumber;" .null ∧ Fld Z h bm "com/example/assemble_quorum/assemblequorum/io/Message" "priorCandidate" "Lcom/example/assemble_quorum/assemblequorum/model/MemberAddress;" .null ∧ Fld Z h bm "com/example/assemble_quorum/assemblequorum/io/Message" "number" "Lcom/example/assemble_quorum/assemblequorum/model/ProposalNumber;" .null ∧ Fld Z h bm "com/example/assemble_quorum/assemblequorum/io/Message" "candidate" "Lcom/example/assemble_quorum/assemblequorum/model/MemberAddress;" .null ∧ Fld Z h bm "com/example/assemble_quorum/assemblequorum/io/Message" "leader" "Lcom/example/assemble_quorum/assemblequorum/model/MemberAddress;" .null
set_option maxRecDepth 65536 in
set_option maxHeartbeats 40000000 in
theorem rmA25 (l : Launch) (Z : State) (a0 : Array Value) (hw : ∀ d ∈ tables_1, d.before a0 Z = true) (ws : List Jvm.Cond) (ob0 : Addr) (ob0_kind : Addr)  (cs : Int32) (wf : Value) (wK0 : Addr) (wK1 : Addr) (wK2 : Addr) (wK3 : Addr) (wL : Addr) (h0 : Heap) (n0 : Nat) (O0 : Old Z n0 h0) (G : own_Gl Z cs wf wK0 wK1 wK2 wK3 wL) (E_ob0 : Exa Z h0 ob0 "com/example/assemble_quorum/assemblequorum/io/Message$Builder") (F_ob0_candidate : Fld Z h0 ob0 "com/example/assemble_quorum/assemblequorum/io/Message$Builder" "candidate" "Lcom/example/assemble_quorum/assemblequorum/model/MemberAddress;" .null) (F_ob0_granted : Fld Z h0 ob0 "com/example/assemble_quorum/assemblequorum/io/Message$Builder" "granted" "Z" (.int (0 : Int32))) (F_ob0_kind : Fld Z h0 ob0 "com/example/assemble_quorum/assemblequorum/io/Message$Builder" "kind" "Lcom/example/assemble_quorum/assemblequorum/io/Message$Kind;" (.ref ob0_kind)) (F_ob0_leader : Fld Z h0 ob0 "com/example/assemble_quorum/assemblequorum/io/Message$Builder" "leader" "Lcom/example/assemble_quorum/assemblequorum/model/MemberAddress;" .null) (F_ob0_members : Fld Z h0 ob0 "com/example/assemble_quorum/assemblequorum/io/Message$Builder" "members" "Ljava/util/List;" (.ref wL)) (F_ob0_number : Fld Z h0 ob0 "com/example/assemble_quorum/assemblequorum/io/Message$Builder" "number" "Lcom/example/assemble_quorum/assemblequorum/model/ProposalNumber;" .null) (F_ob0_payload : Fld Z h0 ob0 "com/example/assemble_quorum/assemblequorum/io/Message$Builder" "payload" "[B" .null) (F_ob0_priorCandidate : Fld Z h0 ob0 "com/example/assemble_quorum/assemblequorum/io/Message$Builder" "priorCandidate" "Lcom/example/assemble_quorum/assemblequorum/model/MemberAddress;" .null) (F_ob0_priorNumber : Fld Z h0 ob0 "com/example/assemble_quorum/assemblequorum/io/Message$Builder" "priorNumber" "Lcom/example/assemble_quorum/assemblequorum/model/ProposalNumber;" .null) (F_ob0_sender : Fld Z h0 ob0 "com/example/assemble_quorum/assemblequorum/io/Message$Builder" "sender" "Lcom/example/assemble_quorum/assemblequorum/model/MemberAddress;" .null) (F_ob0_topic : Fld Z h0 ob0 "com/example/assemble_quorum/assemblequorum/io/Message$Builder" "topic" "Ljava/lang/String;" .null) (F_ob0_version : Fld Z h0 ob0 "com/example/assemble_quorum/assemblequorum/io/Message$Builder" "version" "J" (.long (0 : Int64))) :
    MetFree l own_y24 (head1 (Jvm.Cond.code own_y24 prog_18_method_12_code 1 (some (.object "com/example/assemble_quorum/assemblequorum/io/Message")) :: ws) ({ frames := 3, cells := 1, slots := 12, locals := 40 } : Room)) (fun a U => a = #[(.ref ob0)] ∧ Z.Warmed39 U.vm ∧ U.heap = h0) (fun _ _ _ _ _ => True) (fun _ U o U' => ∃ v L, o = .returned v ∧ own_Q_rmA25 Z ob0 ob0_kind cs wf wK0 wK1 wK2 wK3 wL h0 n0 v U'.heap L ∧ FrameEnd U o U' L ({ frames := 3, cells := 1, slots := 12, locals := 40 } : Room).cells ({ frames := 3, cells := 1, slots := 12, locals := 40 } : Room).slots) := by
  refine MetFree.of_bodySF (plainFor_of_name own_pn7) hisR ?_
  intro p e s m args below meth c s₁ Bd hml0 hP hK
  obtain ⟨rfl, hZ, hh⟩ := hP
  have hx := Bd.exec
  have hby := Bd.bytes
  have hml : c.maxLocals = 1 := hml0
  have hown : s.vm.findClass "com/example/assemble_quorum/assemblequorum/io/Message$Builder" = some m.cls := findClass_of_methodNamed Bd.named
  have hnm := (name_of_methodNamed Bd.named Bd.method).1
  have X0 : Stand p l e ({ frames := 3, cells := 1, slots := 12, locals := 40 } : Room) s m #[(.ref ob0)] below meth c s₁ [] 0 0 := Stand.of_body Bd
  have e0 : s₁.heap = h0 := by rw [← hh, Bd.state]; rfl
  have N0 := Fr.nil n0
  have Z0 : n0 ≤ h0.size := O0.1 ▸ O0.2.1
  have g0 : ∀ t, Steps p.tables e below (s₁.setTop (mkF m 0 #[.val (.ref ob0)] [])) t → Steps p.tables e below (s₁.setTop (entryFrame m #[(.ref ob0)] 1)) t := fun t k => castTop (own_ef27 m (ob0)) k
  have G0 := G
  obtain ⟨S_CS, hcs, S_WF, hwf, S_PROPOSAL_ANSWER, S_HELLO, S_EVENT, S_PING, S_L, Ex_L, Fa_L⟩ := G
  obtain ⟨T1, h1, X1, e1, E1, A1, D1, -, st1⟩ := newO X0 hx hZ hown (own_w hw 153 rfl) (own_w hw 154 rfl) (own_w hw 155 rfl) e0 (g := (mkF m 0 #[.val (.ref ob0)] [])) rfl (hb hby own_d26_0) (by decide) (by decide)
  obtain ⟨b1, q_b1⟩ : ∃ z, z = h0.size := ⟨_, rfl⟩
  rw [← q_b1] at A1 D1 st1
  have sz_b1 : h0.size ≤ b1 := Nat.le_of_eq q_b1.symm
  have gz_b1 : n0 ≤ b1 := Nat.le_trans Z0 sz_b1
  have ne_ob0_b1 : ob0 ≠ b1 := Nat.ne_of_lt (Nat.lt_of_lt_of_le E_ob0.lt (Nat.le_of_eq q_b1.symm))
  have F1_kind : Fld Z h1 b1 "com/example/assemble_quorum/assemblequorum/io/Message" "kind" "Lcom/example/assemble_quorum/assemblequorum/io/Message$Kind;" .null := D1 (Or.inr (own_w hw 162 rfl)) (ty := (.object "com/example/assemble_quorum/assemblequorum/io/Message$Kind")) (by decide)
  have F1_sender : Fld Z h1 b1 "com/example/assemble_quorum/assemblequorum/io/Message" "sender" "Lcom/example/assemble_quorum/assemblequorum/model/MemberAddress;" .null := D1 (Or.inr (own_w hw 166 rfl)) (ty := (.object "com/example/assemble_quorum/assemblequorum/model/MemberAddress")) (by decide)
  have F1_leader : Fld Z h1 b1 "com/example/assemble_quorum/assemblequorum/io/Message" "leader" "Lcom/example/assemble_quorum/assemblequorum/model/MemberAddress;" .null := D1 (Or.inr (own_w hw 170 rfl)) (ty := (.object "com/example/assemble_quorum/assemblequorum/model/MemberAddress")) (by decide)
  have F1_version : Fld Z h1 b1 "com/example/assemble_quorum/assemblequorum/io/Message" "version" "J" (.long (0 : Int64)) := D1 (Or.inr (own_w hw 174 rfl)) (ty := .long) (by decide)
  have F1_number : Fld Z h1 b1 "com/example/assemble_quorum/assemblequorum/io/Message" "number" "Lcom/example/assemble_quorum/assemblequorum/model/ProposalNumber;" .null := D1 (Or.inr (own_w hw 178 rfl)) (ty := (.object "com/example/assemble_quorum/assemblequorum/model/ProposalNumber")) (by decide)
  have F1_candidate : Fld Z h1 b1 "com/example/assemble_quorum/assemblequorum/io/Message" "candidate" "Lcom/example/assemble_quorum/assemblequorum/model/MemberAddress;" .null := D1 (Or.inr (own_w hw 182 rfl)) (ty := (.object "com/example/assemble_quorum/assemblequorum/model/MemberAddress")) (by decide)
  have F1_granted : Fld Z h1 b1 "com/example/assemble_quorum/assemblequorum/io/Message" "granted" "Z" (.int (0 : Int32)) := D1 (Or.inr (own_w hw 186 rfl)) (ty := .boolean) (by decide)
  have F1_priorNumber : Fld Z h1 b1 "com/example/assemble_quorum/assemblequorum/io/Message" "priorNumber" "Lcom/example/assemble_quorum/assemblequorum/model/ProposalNumber;" .null := D1 (Or.inr (own_w hw 189 rfl)) (ty := (.object "com/example/assemble_quorum/assemblequorum/model/ProposalNumber")) (by decide)
  have F1_priorCandidate : Fld Z h1 b1 "com/example/assemble_quorum/assemblequorum/io/Message" "priorCandidate" "Lcom/example/assemble_quorum/assemblequorum/model/MemberAddress;" .null := D1 (Or.inr (own_w hw 192 rfl)) (ty := (.object "com/example/assemble_quorum/assemblequorum/model/MemberAddress")) (by decide)
  have F1_members : Fld Z h1 b1 "com/example/assemble_quorum/assemblequorum/io/Message" "members" "Ljava/util/List;" .null := D1 (Or.inr (own_w hw 213 rfl)) (ty := (.object "java/util/List")) (by decide)
  have F1_topic : Fld Z h1 b1 "com/example/assemble_quorum/assemblequorum/io/Message" "topic" "Ljava/lang/String;" .null := D1 (Or.inr (own_w hw 217 rfl)) (ty := (.object "java/lang/String")) (by decide)
  have F1_payload : Fld Z h1 b1 "com/example/assemble_quorum/assemblequorum/io/Message" "payload" "[B" .null := D1 (Or.inr (own_w hw 221 rfl)) (ty := (.array .byte)) (by decide)
  have f2 := (E_ob0.ext E1)
  have f3 := (F_ob0_candidate.ext E1)
  have f4 := (F_ob0_granted.ext E1)
  have f5 := (F_ob0_kind.ext E1)
  have f6 := (F_ob0_leader.ext E1)
  have f7 := (F_ob0_members.ext E1)
  have f8 := (F_ob0_number.ext E1)
  have f9 := (F_ob0_payload.ext E1)
  have f10 := (F_ob0_priorCandidate.ext E1)
  have f11 := (F_ob0_priorNumber.ext E1)
  have f12 := (F_ob0_sender.ext E1)
  have f13 := (F_ob0_topic.ext E1)
  have f14 := (F_ob0_version.ext E1)
  have o15 : Old Z n0 h1 := (Old.ext O0 E1)
  obtain ⟨_, _, ⟨T16, L16, k16, n16⟩, -, X16, ⟨Lc16, hQ16, l16, y16, z16⟩, st16⟩ := X1.specialBackNest hx (y := own_y25) rfl hown (own_mvM hZ (own_w hw 156 rfl)) (mvT hZ (own_w hw 157 rfl)) (mvT hZ (own_w hw 158 rfl)) (by decide) (backOf (W := 1) (rmA26 l Z a0 hw [] b1 ob0 ob0_kind  cs wf wK0 wK1 wK2 wK3 wL h1 n0 o15 G0 A1 F1_candidate F1_granted F1_kind F1_leader F1_members F1_number F1_payload F1_priorCandidate F1_priorNumber F1_sender F1_topic F1_version f2 f3 f4 f5 f6 f7 f8 f9 f10 f11 f12 f13 f14 gz_b1 ) hZ (own_w hw 158 rfl) (own_w hw 155 rfl) (by decide) (by decide)) (g := (mkF m 5 #[.val (.ref ob0)] [(.ref ob0), (.ref b1), (.ref b1)])) rfl (by rw [hml]; rfl) (Steps.refl _) (a := b1) (argsL := [(.ref ob0)]) (rest := [(.ref b1)]) (lenOf own_pd21 rfl) rfl (by show 2 * 0 + _ ≤ _; exact Nat.le_of_eq rfl) (hb hby own_d26_5) (fun _ _ => ⟨rfl, e1, (by decide : 1 + 0 ≤ _), (by decide : 12 + 0 ≤ _)⟩)
  dsimp only [Pt.U, Pt.locs, Pt.cells, Pt.slots] at X16 l16 y16 z16 st16 hQ16
  subst l16 y16 z16
  obtain ⟨rfl, Nq16, K16, Q16_0, Q16_1, Q16_2, Q16_3, Q16_4, Q16_5, Q16_6⟩ := hQ16
  have N16 := Fr.app N0 Nq16
  have g17 : ∀ t, Steps p.tables e below (T16.setTop (mkF m 8 #[.val (.ref ob0)] [(.ref b1)])) t → Steps p.tables e below (s₁.setTop (entryFrame m #[(.ref ob0)] 1)) t := by
    intro t k
    refine g0 t ?_
    show Steps p.tables e below (s₁.setTop (mkF m 0 #[.val (.ref ob0)] [])) _
    refine st1 _ ?_
    refine XS.dup X1.here hx rfl (hb hby own_d26_3) rfl rfl ?_
    refine XS.aloadN X1.here hx rfl (hb hby own_d26_4) rfl rfl ?_
    refine st16.trans ?_
    exact k
  obtain ⟨fs, hrt, hrun, hended, hW, hsame⟩ := X16.leave (v := some (.ref b1)) (fun h => by rw [Bd.returns] at h; cases h)
  refine ⟨_, _, g17 _ ?_, hrun, hended, _, _, rfl, ?_, ⟨_, rfl⟩, hW, hsame.mono (by decide) (by decide)⟩
  · show Steps p.tables e below (T16.setTop (mkF m 8 #[.val (.ref ob0)] [(.ref b1)])) _
    jvm_step X16.here [X16.here.top, hx, (hb hby own_d26_8), X16.method', Bd.returns, Value.isRef, FieldType.isReference]
    first | (intro acts; rw [hrt _ acts rfl rfl rfl]) | rw [hrt _ _ rfl rfl rfl]
    exact Steps.refl _
  · show own_Q_rmA25 Z ob0 ob0_kind cs wf wK0 wK1 wK2 wK3 wL h0 n0 _ T16.heap _
    exact ⟨b1, rfl, N16, (Keep.trans (Keep.ext (Keep.refl h0 []) E1) K16 (allS (Or.inr sz_b1) all0)), sz_b1, Q16_0, Q16_1, Q16_2, Q16_3, Q16_4, Q16_5, Q16_6⟩
theorem own_pd22 : parseMethodDescriptor "()Lcom/example/assemble_quorum/assemblequorum/io/Message;" = some ⟨[], some (.object "com/example/assemble_quorum/assemblequorum/io/Message")⟩ := by decide +kernel
abbrev own_y28 : MethodName := ⟨"com/example/assemble_quorum/assemblequorum/io/Message", "priorNumber", "()Lcom/example/assemble_quorum/assemblequorum/model/ProposalNumber;"⟩
theorem own_ef31 (m : MethodId) (x0 : Addr) : entryFrame m #[(.ref x0)] 1 = mkF m 0 #[.val (.ref x0)] [] := by first | (simp [entryFrame, mkF, argsToLocals, Value.category]; done) | rfl
theorem own_d30_0 : decode prog_17_method_27_code 0 = .ok (.aload_n 0, 1) := by decide +kernel
theorem own_d30_1 : decode prog_17_method_27_code 1 = .ok (.getfield 47, 3) := by decide +kernel
theorem own_d30_4 : decode prog_17_method_27_code 4 = .ok (.areturn, 1) := by decide +kernel
def own_Q_rmA29 (Z : State) (ob0 : Addr) (ob0_kind : Addr)  (cs : Int32) (wf : Value) (wK0 : Addr) (wK1 : Addr) (wK2 : Addr) (wK3 : Addr) (wL : Addr) (h0 : Heap) (n0 : Nat) (v : Option Value) (h : Heap) (L : List Loc) : Prop := v = some .null ∧ Fr n0 L ∧ h = h0
set_option maxRecDepth 65536 in
set_option maxHeartbeats 40000000 in
theorem rmA29 (l : Launch) (Z : State) (a0 : Array Value) (hw : ∀ d ∈ tables_1, d.before a0 Z = true) (ws : List Jvm.Cond) (ob0 : Addr) (ob0_kind : Addr)  (cs : Int32) (wf : Value) (wK0 : Addr) (wK1 : Addr) (wK2 : Addr) (wK3 : Addr) (wL : Addr) (h0 : Heap) (n0 : Nat) (O0 : Old Z n0 h0) (G : own_Gl Z cs wf wK0 wK1 wK2 wK3 wL) (E_ob0 : Exa Z h0 ob0 "com/example/assemble_quorum/assemblequorum/io/Message") (F_ob0_candidate : Fld Z h0 ob0 "com/example/assemble_quorum/assemblequorum/io/Message" "candidate" "Lcom/example/assemble_quorum/assemblequorum/model/MemberAddress;" .null) (F_ob0_kind : Fld Z h0 ob0 "com/example/assemble_quorum/assemblequorum/io/Message" "kind" "Lcom/example/assemble_quorum/assemblequorum/io/Message$Kind;" (.ref ob0_kind)) (F_ob0_leader : Fld Z h0 ob0 "com/example/assemble_quorum/assemblequorum/io/Message" "leader" "Lcom/example/assemble_quorum/assemblequorum/model/MemberAddress;" .null) (F_ob0_number : Fld Z h0 ob0 "com/example/assemble_quorum/assemblequorum/io/Message" "number" "Lcom/example/assemble_quorum/assemblequorum/model/ProposalNumber;" .null) (F_ob0_priorCandidate : Fld Z h0 ob0 "com/example/assemble_quorum/assemblequorum/io/Message" "priorCandidate" "Lcom/example/assemble_quorum/assemblequorum/model/MemberAddress;" .null) (F_ob0_priorNumber : Fld Z h0 ob0 "com/example/assemble_quorum/assemblequorum/io/Message" "priorNumber" "Lcom/example/assemble_quorum/assemblequorum/model/ProposalNumber;" .null) :
    MetFree l own_y28 (head1 (Jvm.Cond.code own_y28 prog_17_method_27_code 1 (some (.object "com/example/assemble_quorum/assemblequorum/model/ProposalNumber")) :: ws) ({ frames := 0, cells := 0, slots := 0, locals := 0 } : Room)) (fun a U => a = #[(.ref ob0)] ∧ Z.Warmed39 U.vm ∧ U.heap = h0) (fun _ _ _ _ _ => True) (fun _ U o U' => ∃ v L, o = .returned v ∧ own_Q_rmA29 Z ob0 ob0_kind cs wf wK0 wK1 wK2 wK3 wL h0 n0 v U'.heap L ∧ FrameEnd U o U' L ({ frames := 0, cells := 0, slots := 0, locals := 0 } : Room).cells ({ frames := 0, cells := 0, slots := 0, locals := 0 } : Room).slots) := by
  refine MetFree.of_bodySF (plainFor_of_name own_pn9) hisR ?_
  intro p e s m args below meth c s₁ Bd hml0 hP hK
  obtain ⟨rfl, hZ, hh⟩ := hP
  have hx := Bd.exec
  have hby := Bd.bytes
  have hml : c.maxLocals = 1 := hml0
  have hown : s.vm.findClass "com/example/assemble_quorum/assemblequorum/io/Message" = some m.cls := findClass_of_methodNamed Bd.named
  have hnm := (name_of_methodNamed Bd.named Bd.method).1
  have X0 : Stand p l e ({ frames := 0, cells := 0, slots := 0, locals := 0 } : Room) s m #[(.ref ob0)] below meth c s₁ [] 0 0 := Stand.of_body Bd
  have e0 : s₁.heap = h0 := by rw [← hh, Bd.state]; rfl
  have N0 := Fr.nil n0
  have Z0 : n0 ≤ h0.size := O0.1 ▸ O0.2.1
  have g0 : ∀ t, Steps p.tables e below (s₁.setTop (mkF m 0 #[.val (.ref ob0)] [])) t → Steps p.tables e below (s₁.setTop (entryFrame m #[(.ref ob0)] 1)) t := fun t k => castTop (own_ef31 m (ob0)) k
  have G0 := G
  obtain ⟨S_CS, hcs, S_WF, hwf, S_PROPOSAL_ANSWER, S_HELLO, S_EVENT, S_PING, S_L, Ex_L, Fa_L⟩ := G
  obtain ⟨T1, X1, e1, st1⟩ := getF X0 hx hZ hown (host := "") (Or.inl (own_w hw 188 rfl)) Via.refl e0 F_ob0_priorNumber (g := (mkF m 1 #[.val (.ref ob0)] [(.ref ob0)])) rfl rfl (hb hby own_d30_1)
  have g2 : ∀ t, Steps p.tables e below (T1.setTop (mkF m 4 #[.val (.ref ob0)] [.null])) t → Steps p.tables e below (s₁.setTop (entryFrame m #[(.ref ob0)] 1)) t := by
    intro t k
    refine g0 t ?_
    show Steps p.tables e below (s₁.setTop (mkF m 0 #[.val (.ref ob0)] [])) _
    refine XS.aloadN X0.here hx rfl (hb hby own_d30_0) rfl rfl ?_
    refine st1 _ ?_
    exact k
  obtain ⟨fs, hrt, hrun, hended, hW, hsame⟩ := X1.leave (v := some .null) (fun h => by rw [Bd.returns] at h; cases h)
  refine ⟨_, _, g2 _ ?_, hrun, hended, _, _, rfl, ?_, ⟨_, rfl⟩, hW, hsame.mono (by decide) (by decide)⟩
  · show Steps p.tables e below (T1.setTop (mkF m 4 #[.val (.ref ob0)] [.null])) _
    jvm_step X1.here [X1.here.top, hx, (hb hby own_d30_4), X1.method', Bd.returns, Value.isRef, FieldType.isReference]
    first | (intro acts; rw [hrt _ acts rfl rfl rfl]) | rw [hrt _ _ rfl rfl rfl]
    exact Steps.refl _
  · show own_Q_rmA29 Z ob0 ob0_kind cs wf wK0 wK1 wK2 wK3 wL h0 n0 _ T1.heap _
    rw [e1]
    exact ⟨rfl, N0, rfl⟩
theorem own_pd23 : parseMethodDescriptor "()Lcom/example/assemble_quorum/assemblequorum/model/ProposalNumber;" = some ⟨[], some (.object "com/example/assemble_quorum/assemblequorum/model/ProposalNumber")⟩ := by decide +kernel
abbrev own_y29 : MethodName := ⟨"com/example/assemble_quorum/assemblequorum/io/Message", "priorCandidate", "()Lcom/example/assemble_quorum/assemblequorum/model/MemberAddress;"⟩
theorem own_ef32 (m : MethodId) (x0 : Addr) : entryFrame m #[(.ref x0)] 1 = mkF m 0 #[.val (.ref x0)] [] := by first | (simp [entryFrame, mkF, argsToLocals, Value.category]; done) | rfl
theorem own_d31_0 : decode prog_17_method_28_code 0 = .ok (.aload_n 0, 1) := by decide +kernel
theorem own_d31_1 : decode prog_17_method_28_code 1 = .ok (.getfield 51, 3) := by decide +kernel
theorem own_d31_4 : decode prog_17_method_28_code 4 = .ok (.areturn, 1) := by decide +kernel
def own_Q_rmA30 (Z : State) (ob0 : Addr) (ob0_kind : Addr)  (cs : Int32) (wf : Value) (wK0 : Addr) (wK1 : Addr) (wK2 : Addr) (wK3 : Addr) (wL : Addr) (h0 : Heap) (n0 : Nat) (v : Option Value) (h : Heap) (L : List Loc) : Prop := v = some .null ∧ Fr n0 L ∧ h = h0
set_option maxRecDepth 65536 in
set_option maxHeartbeats 40000000 in
theorem rmA30 (l : Launch) (Z : State) (a0 : Array Value) (hw : ∀ d ∈ tables_1, d.before a0 Z = true) (ws : List Jvm.Cond) (ob0 : Addr) (ob0_kind : Addr)  (cs : Int32) (wf : Value) (wK0 : Addr) (wK1 : Addr) (wK2 : Addr) (wK3 : Addr) (wL : Addr) (h0 : Heap) (n0 : Nat) (O0 : Old Z n0 h0) (G : own_Gl Z cs wf wK0 wK1 wK2 wK3 wL) (E_ob0 : Exa Z h0 ob0 "com/example/assemble_quorum/assemblequorum/io/Message") (F_ob0_candidate : Fld Z h0 ob0 "com/example/assemble_quorum/assemblequorum/io/Message" "candidate" "Lcom/example/assemble_quorum/assemblequorum/model/MemberAddress;" .null) (F_ob0_kind : Fld Z h0 ob0 "com/example/assemble_quorum/assemblequorum/io/Message" "kind" "Lcom/example/assemble_quorum/assemblequorum/io/Message$Kind;" (.ref ob0_kind)) (F_ob0_leader : Fld Z h0 ob0 "com/example/assemble_quorum/assemblequorum/io/Message" "leader" "Lcom/example/assemble_quorum/assemblequorum/model/MemberAddress;" .null) (F_ob0_number : Fld Z h0 ob0 "com/example/assemble_quorum/assemblequorum/io/Message" "number" "Lcom/example/assemble_quorum/assemblequorum/model/ProposalNumber;" .null) (F_ob0_priorCandidate : Fld Z h0 ob0 "com/example/assemble_quorum/assemblequorum/io/Message" "priorCandidate" "Lcom/example/assemble_quorum/assemblequorum/model/MemberAddress;" .null) (F_ob0_priorNumber : Fld Z h0 ob0 "com/example/assemble_quorum/assemblequorum/io/Message" "priorNumber" "Lcom/example/assemble_quorum/assemblequorum/model/ProposalNumber;" .null) :
    MetFree l own_y29 (head1 (Jvm.Cond.code own_y29 prog_17_method_28_code 1 (some (.object "com/example/assemble_quorum/assemblequorum/model/MemberAddress")) :: ws) ({ frames := 0, cells := 0, slots := 0, locals := 0 } : Room)) (fun a U => a = #[(.ref ob0)] ∧ Z.Warmed39 U.vm ∧ U.heap = h0) (fun _ _ _ _ _ => True) (fun _ U o U' => ∃ v L, o = .returned v ∧ own_Q_rmA30 Z ob0 ob0_kind cs wf wK0 wK1 wK2 wK3 wL h0 n0 v U'.heap L ∧ FrameEnd U o U' L ({ frames := 0, cells := 0, slots := 0, locals := 0 } : Room).cells ({ frames := 0, cells := 0, slots := 0, locals := 0 } : Room).slots) := by
  refine MetFree.of_bodySF (plainFor_of_name own_pn9) hisR ?_
  intro p e s m args below meth c s₁ Bd hml0 hP hK
  obtain ⟨rfl, hZ, hh⟩ := hP
  have hx := Bd.exec
  have hby := Bd.bytes
  have hml : c.maxLocals = 1 := hml0
  have hown : s.vm.findClass "com/example/assemble_quorum/assemblequorum/io/Message" = some m.cls := findClass_of_methodNamed Bd.named
  have hnm := (name_of_methodNamed Bd.named Bd.method).1
  have X0 : Stand p l e ({ frames := 0, cells := 0, slots := 0, locals := 0 } : Room) s m #[(.ref ob0)] below meth c s₁ [] 0 0 := Stand.of_body Bd
  have e0 : s₁.heap = h0 := by rw [← hh, Bd.state]; rfl
  have N0 := Fr.nil n0
  have Z0 : n0 ≤ h0.size := O0.1 ▸ O0.2.1
  have g0 : ∀ t, Steps p.tables e below (s₁.setTop (mkF m 0 #[.val (.ref ob0)] [])) t → Steps p.tables e below (s₁.setTop (entryFrame m #[(.ref ob0)] 1)) t := fun t k => castTop (own_ef32 m (ob0)) k
  have G0 := G
  obtain ⟨S_CS, hcs, S_WF, hwf, S_PROPOSAL_ANSWER, S_HELLO, S_EVENT, S_PING, S_L, Ex_L, Fa_L⟩ := G
  obtain ⟨T1, X1, e1, st1⟩ := getF X0 hx hZ hown (host := "") (Or.inl (own_w hw 191 rfl)) Via.refl e0 F_ob0_priorCandidate (g := (mkF m 1 #[.val (.ref ob0)] [(.ref ob0)])) rfl rfl (hb hby own_d31_1)
  have g2 : ∀ t, Steps p.tables e below (T1.setTop (mkF m 4 #[.val (.ref ob0)] [.null])) t → Steps p.tables e below (s₁.setTop (entryFrame m #[(.ref ob0)] 1)) t := by
    intro t k
    refine g0 t ?_
    show Steps p.tables e below (s₁.setTop (mkF m 0 #[.val (.ref ob0)] [])) _
    refine XS.aloadN X0.here hx rfl (hb hby own_d31_0) rfl rfl ?_
    refine st1 _ ?_
    exact k
  obtain ⟨fs, hrt, hrun, hended, hW, hsame⟩ := X1.leave (v := some .null) (fun h => by rw [Bd.returns] at h; cases h)
  refine ⟨_, _, g2 _ ?_, hrun, hended, _, _, rfl, ?_, ⟨_, rfl⟩, hW, hsame.mono (by decide) (by decide)⟩
  · show Steps p.tables e below (T1.setTop (mkF m 4 #[.val (.ref ob0)] [.null])) _
    jvm_step X1.here [X1.here.top, hx, (hb hby own_d31_4), X1.method', Bd.returns, Value.isRef, FieldType.isReference]
    first | (intro acts; rw [hrt _ acts rfl rfl rfl]) | rw [hrt _ _ rfl rfl rfl]
    exact Steps.refl _
  · show own_Q_rmA30 Z ob0 ob0_kind cs wf wK0 wK1 wK2 wK3 wL h0 n0 _ T1.heap _
    rw [e1]
    exact ⟨rfl, N0, rfl⟩
theorem own_pd24 : parseMethodDescriptor "()Lcom/example/assemble_quorum/assemblequorum/model/MemberAddress;" = some ⟨[], some (.object "com/example/assemble_quorum/assemblequorum/model/MemberAddress")⟩ := by decide +kernel
abbrev own_y30 : MethodName := ⟨"com/example/assemble_quorum/assemblequorum/io/Message", "kind", "()Lcom/example/assemble_quorum/assemblequorum/io/Message$Kind;"⟩
theorem own_ef33 (m : MethodId) (x0 : Addr) : entryFrame m #[(.ref x0)] 1 = mkF m 0 #[.val (.ref x0)] [] := by first | (simp [entryFrame, mkF, argsToLocals, Value.category]; done) | rfl
theorem own_d32_0 : decode prog_17_method_20_code 0 = .ok (.aload_n 0, 1) := by decide +kernel
theorem own_d32_1 : decode prog_17_method_20_code 1 = .ok (.getfield 13, 3) := by decide +kernel
theorem own_d32_4 : decode prog_17_method_20_code 4 = .ok (.areturn, 1) := by decide +kernel
def own_Q_rmA31 (Z : State) (ob0 : Addr) (ob0_kind : Addr)  (cs : Int32) (wf : Value) (wK0 : Addr) (wK1 : Addr) (wK2 : Addr) (wK3 : Addr) (wL : Addr) (h0 : Heap) (n0 : Nat) (v : Option Value) (h : Heap) (L : List Loc) : Prop := v = some (.ref ob0_kind) ∧ Fr n0 L ∧ h = h0
set_option maxRecDepth 65536 in
set_option maxHeartbeats 40000000 in
theorem rmA31 (l : Launch) (Z : State) (a0 : Array Value) (hw : ∀ d ∈ tables_1, d.before a0 Z = true) (ws : List Jvm.Cond) (ob0 : Addr) (ob0_kind : Addr)  (cs : Int32) (wf : Value) (wK0 : Addr) (wK1 : Addr) (wK2 : Addr) (wK3 : Addr) (wL : Addr) (h0 : Heap) (n0 : Nat) (O0 : Old Z n0 h0) (G : own_Gl Z cs wf wK0 wK1 wK2 wK3 wL) (E_ob0 : Exa Z h0 ob0 "com/example/assemble_quorum/assemblequorum/io/Message") (F_ob0_candidate : Fld Z h0 ob0 "com/example/assemble_quorum/assemblequorum/io/Message" "candidate" "Lcom/example/assemble_quorum/assemblequorum/model/MemberAddress;" .null) (F_ob0_kind : Fld Z h0 ob0 "com/example/assemble_quorum/assemblequorum/io/Message" "kind" "Lcom/example/assemble_quorum/assemblequorum/io/Message$Kind;" (.ref ob0_kind)) (F_ob0_leader : Fld Z h0 ob0 "com/example/assemble_quorum/assemblequorum/io/Message" "leader" "Lcom/example/assemble_quorum/assemblequorum/model/MemberAddress;" .null) (F_ob0_number : Fld Z h0 ob0 "com/example/assemble_quorum/assemblequorum/io/Message" "number" "Lcom/example/assemble_quorum/assemblequorum/model/ProposalNumber;" .null) (F_ob0_priorCandidate : Fld Z h0 ob0 "com/example/assemble_quorum/assemblequorum/io/Message" "priorCandidate" "Lcom/example/assemble_quorum/assemblequorum/model/MemberAddress;" .null) (F_ob0_priorNumber : Fld Z h0 ob0 "com/example/assemble_quorum/assemblequorum/io/Message" "priorNumber" "Lcom/example/assemble_quorum/assemblequorum/model/ProposalNumber;" .null) :
    MetFree l own_y30 (head1 (Jvm.Cond.code own_y30 prog_17_method_20_code 1 (some (.object "com/example/assemble_quorum/assemblequorum/io/Message$Kind")) :: ws) ({ frames := 0, cells := 0, slots := 0, locals := 0 } : Room)) (fun a U => a = #[(.ref ob0)] ∧ Z.Warmed39 U.vm ∧ U.heap = h0) (fun _ _ _ _ _ => True) (fun _ U o U' => ∃ v L, o = .returned v ∧ own_Q_rmA31 Z ob0 ob0_kind cs wf wK0 wK1 wK2 wK3 wL h0 n0 v U'.heap L ∧ FrameEnd U o U' L ({ frames := 0, cells := 0, slots := 0, locals := 0 } : Room).cells ({ frames := 0, cells := 0, slots := 0, locals := 0 } : Room).slots) := by
  refine MetFree.of_bodySF (plainFor_of_name own_pn9) hisR ?_
  intro p e s m args below meth c s₁ Bd hml0 hP hK
  obtain ⟨rfl, hZ, hh⟩ := hP
  have hx := Bd.exec
  have hby := Bd.bytes
  have hml : c.maxLocals = 1 := hml0
  have hown : s.vm.findClass "com/example/assemble_quorum/assemblequorum/io/Message" = some m.cls := findClass_of_methodNamed Bd.named
  have hnm := (name_of_methodNamed Bd.named Bd.method).1
  have X0 : Stand p l e ({ frames := 0, cells := 0, slots := 0, locals := 0 } : Room) s m #[(.ref ob0)] below meth c s₁ [] 0 0 := Stand.of_body Bd
  have e0 : s₁.heap = h0 := by rw [← hh, Bd.state]; rfl
  have N0 := Fr.nil n0
  have Z0 : n0 ≤ h0.size := O0.1 ▸ O0.2.1
  have g0 : ∀ t, Steps p.tables e below (s₁.setTop (mkF m 0 #[.val (.ref ob0)] [])) t → Steps p.tables e below (s₁.setTop (entryFrame m #[(.ref ob0)] 1)) t := fun t k => castTop (own_ef33 m (ob0)) k
  have G0 := G
  obtain ⟨S_CS, hcs, S_WF, hwf, S_PROPOSAL_ANSWER, S_HELLO, S_EVENT, S_PING, S_L, Ex_L, Fa_L⟩ := G
  obtain ⟨T1, X1, e1, st1⟩ := getF X0 hx hZ hown (host := "") (Or.inl (own_w hw 161 rfl)) Via.refl e0 F_ob0_kind (g := (mkF m 1 #[.val (.ref ob0)] [(.ref ob0)])) rfl rfl (hb hby own_d32_1)
  have g2 : ∀ t, Steps p.tables e below (T1.setTop (mkF m 4 #[.val (.ref ob0)] [(.ref ob0_kind)])) t → Steps p.tables e below (s₁.setTop (entryFrame m #[(.ref ob0)] 1)) t := by
    intro t k
    refine g0 t ?_
    show Steps p.tables e below (s₁.setTop (mkF m 0 #[.val (.ref ob0)] [])) _
    refine XS.aloadN X0.here hx rfl (hb hby own_d32_0) rfl rfl ?_
    refine st1 _ ?_
    exact k
  obtain ⟨fs, hrt, hrun, hended, hW, hsame⟩ := X1.leave (v := some (.ref ob0_kind)) (fun h => by rw [Bd.returns] at h; cases h)
  refine ⟨_, _, g2 _ ?_, hrun, hended, _, _, rfl, ?_, ⟨_, rfl⟩, hW, hsame.mono (by decide) (by decide)⟩
  · show Steps p.tables e below (T1.setTop (mkF m 4 #[.val (.ref ob0)] [(.ref ob0_kind)])) _
    jvm_step X1.here [X1.here.top, hx, (hb hby own_d32_4), X1.method', Bd.returns, Value.isRef, FieldType.isReference]
    first | (intro acts; rw [hrt _ acts rfl rfl rfl]) | rw [hrt _ _ rfl rfl rfl]
    exact Steps.refl _
  · show own_Q_rmA31 Z ob0 ob0_kind cs wf wK0 wK1 wK2 wK3 wL h0 n0 _ T1.heap _
    rw [e1]
    exact ⟨rfl, N0, rfl⟩
theorem own_pd25 : parseMethodDescriptor "()Lcom/example/assemble_quorum/assemblequorum/io/Message$Kind;" = some ⟨[], some (.object "com/example/assemble_quorum/assemblequorum/io/Message$Kind")⟩ := by decide +kernel
abbrev own_y31 : MethodName := ⟨"com/example/assemble_quorum/assemblequorum/io/Message", "number", "()Lcom/example/assemble_quorum/assemblequorum/model/ProposalNumber;"⟩
theorem own_ef34 (m : MethodId) (x0 : Addr) : entryFrame m #[(.ref x0)] 1 = mkF m 0 #[.val (.ref x0)] [] := by first | (simp [entryFrame, mkF, argsToLocals, Value.category]; done) | rfl
theorem own_d33_0 : decode prog_17_method_24_code 0 = .ok (.aload_n 0, 1) := by decide +kernel
theorem own_d33_1 : decode prog_17_method_24_code 1 = .ok (.getfield 34, 3) := by decide +kernel
theorem own_d33_4 : decode prog_17_method_24_code 4 = .ok (.areturn, 1) := by decide +kernel
def own_Q_rmA32 (Z : State) (ob0 : Addr) (ob0_kind : Addr)  (cs : Int32) (wf : Value) (wK0 : Addr) (wK1 : Addr) (wK2 : Addr) (wK3 : Addr) (wL : Addr) (h0 : Heap) (n0 : Nat) (v : Option Value) (h : Heap) (L : List Loc) : Prop := v = some .null ∧ Fr n0 L ∧ h = h0
set_option maxRecDepth 65536 in
set_option maxHeartbeats 40000000 in
theorem rmA32 (l : Launch) (Z : State) (a0 : Array Value) (hw : ∀ d ∈ tables_1, d.before a0 Z = true) (ws : List Jvm.Cond) (ob0 : Addr) (ob0_kind : Addr)  (cs : Int32) (wf : Value) (wK0 : Addr) (wK1 : Addr) (wK2 : Addr) (wK3 : Addr) (wL : Addr) (h0 : Heap) (n0 : Nat) (O0 : Old Z n0 h0) (G : own_Gl Z cs wf wK0 wK1 wK2 wK3 wL) (E_ob0 : Exa Z h0 ob0 "com/example/assemble_quorum/assemblequorum/io/Message") (F_ob0_candidate : Fld Z h0 ob0 "com/example/assemble_quorum/assemblequorum/io/Message" "candidate" "Lcom/example/assemble_quorum/assemblequorum/model/MemberAddress;" .null) (F_ob0_kind : Fld Z h0 ob0 "com/example/assemble_quorum/assemblequorum/io/Message" "kind" "Lcom/example/assemble_quorum/assemblequorum/io/Message$Kind;" (.ref ob0_kind)) (F_ob0_leader : Fld Z h0 ob0 "com/example/assemble_quorum/assemblequorum/io/Message" "leader" "Lcom/example/assemble_quorum/assemblequorum/model/MemberAddress;" .null) (F_ob0_number : Fld Z h0 ob0 "com/example/assemble_quorum/assemblequorum/io/Message" "number" "Lcom/example/assemble_quorum/assemblequorum/model/ProposalNumber;" .null) (F_ob0_priorCandidate : Fld Z h0 ob0 "com/example/assemble_quorum/assemblequorum/io/Message" "priorCandidate" "Lcom/example/assemble_quorum/assemblequorum/model/MemberAddress;" .null) (F_ob0_priorNumber : Fld Z h0 ob0 "com/example/assemble_quorum/assemblequorum/io/Message" "priorNumber" "Lcom/example/assemble_quorum/assemblequorum/model/ProposalNumber;" .null) :
    MetFree l own_y31 (head1 (Jvm.Cond.code own_y31 prog_17_method_24_code 1 (some (.object "com/example/assemble_quorum/assemblequorum/model/ProposalNumber")) :: ws) ({ frames := 0, cells := 0, slots := 0, locals := 0 } : Room)) (fun a U => a = #[(.ref ob0)] ∧ Z.Warmed39 U.vm ∧ U.heap = h0) (fun _ _ _ _ _ => True) (fun _ U o U' => ∃ v L, o = .returned v ∧ own_Q_rmA32 Z ob0 ob0_kind cs wf wK0 wK1 wK2 wK3 wL h0 n0 v U'.heap L ∧ FrameEnd U o U' L ({ frames := 0, cells := 0, slots := 0, locals := 0 } : Room).cells ({ frames := 0, cells := 0, slots := 0, locals := 0 } : Room).slots) := by
  refine MetFree.of_bodySF (plainFor_of_name own_pn9) hisR ?_
  intro p e s m args below meth c s₁ Bd hml0 hP hK
  obtain ⟨rfl, hZ, hh⟩ := hP
  have hx := Bd.exec
  have hby := Bd.bytes
  have hml : c.maxLocals = 1 := hml0
  have hown : s.vm.findClass "com/example/assemble_quorum/assemblequorum/io/Message" = some m.cls := findClass_of_methodNamed Bd.named
  have hnm := (name_of_methodNamed Bd.named Bd.method).1
  have X0 : Stand p l e ({ frames := 0, cells := 0, slots := 0, locals := 0 } : Room) s m #[(.ref ob0)] below meth c s₁ [] 0 0 := Stand.of_body Bd
  have e0 : s₁.heap = h0 := by rw [← hh, Bd.state]; rfl
  have N0 := Fr.nil n0
  have Z0 : n0 ≤ h0.size := O0.1 ▸ O0.2.1
  have g0 : ∀ t, Steps p.tables e below (s₁.setTop (mkF m 0 #[.val (.ref ob0)] [])) t → Steps p.tables e below (s₁.setTop (entryFrame m #[(.ref ob0)] 1)) t := fun t k => castTop (own_ef34 m (ob0)) k
  have G0 := G
  obtain ⟨S_CS, hcs, S_WF, hwf, S_PROPOSAL_ANSWER, S_HELLO, S_EVENT, S_PING, S_L, Ex_L, Fa_L⟩ := G
  obtain ⟨T1, X1, e1, st1⟩ := getF X0 hx hZ hown (host := "") (Or.inl (own_w hw 177 rfl)) Via.refl e0 F_ob0_number (g := (mkF m 1 #[.val (.ref ob0)] [(.ref ob0)])) rfl rfl (hb hby own_d33_1)
  have g2 : ∀ t, Steps p.tables e below (T1.setTop (mkF m 4 #[.val (.ref ob0)] [.null])) t → Steps p.tables e below (s₁.setTop (entryFrame m #[(.ref ob0)] 1)) t := by
    intro t k
    refine g0 t ?_
    show Steps p.tables e below (s₁.setTop (mkF m 0 #[.val (.ref ob0)] [])) _
    refine XS.aloadN X0.here hx rfl (hb hby own_d33_0) rfl rfl ?_
    refine st1 _ ?_
    exact k
  obtain ⟨fs, hrt, hrun, hended, hW, hsame⟩ := X1.leave (v := some .null) (fun h => by rw [Bd.returns] at h; cases h)
  refine ⟨_, _, g2 _ ?_, hrun, hended, _, _, rfl, ?_, ⟨_, rfl⟩, hW, hsame.mono (by decide) (by decide)⟩
  · show Steps p.tables e below (T1.setTop (mkF m 4 #[.val (.ref ob0)] [.null])) _
    jvm_step X1.here [X1.here.top, hx, (hb hby own_d33_4), X1.method', Bd.returns, Value.isRef, FieldType.isReference]
    first | (intro acts; rw [hrt _ acts rfl rfl rfl]) | rw [hrt _ _ rfl rfl rfl]
    exact Steps.refl _
  · show own_Q_rmA32 Z ob0 ob0_kind cs wf wK0 wK1 wK2 wK3 wL h0 n0 _ T1.heap _
    rw [e1]
    exact ⟨rfl, N0, rfl⟩
abbrev own_y32 : MethodName := ⟨"com/example/assemble_quorum/assemblequorum/io/Message", "candidate", "()Lcom/example/assemble_quorum/assemblequorum/model/MemberAddress;"⟩
theorem own_ef35 (m : MethodId) (x0 : Addr) : entryFrame m #[(.ref x0)] 1 = mkF m 0 #[.val (.ref x0)] [] := by first | (simp [entryFrame, mkF, argsToLocals, Value.category]; done) | rfl
theorem own_d34_0 : decode prog_17_method_25_code 0 = .ok (.aload_n 0, 1) := by decide +kernel
theorem own_d34_1 : decode prog_17_method_25_code 1 = .ok (.getfield 38, 3) := by decide +kernel
theorem own_d34_4 : decode prog_17_method_25_code 4 = .ok (.areturn, 1) := by decide +kernel
def own_Q_rmA33 (Z : State) (ob0 : Addr) (ob0_kind : Addr)  (cs : Int32) (wf : Value) (wK0 : Addr) (wK1 : Addr) (wK2 : Addr) (wK3 : Addr) (wL : Addr) (h0 : Heap) (n0 : Nat) (v : Option Value) (h : Heap) (L : List Loc) : Prop := v = some .null ∧ Fr n0 L ∧ h = h0
set_option maxRecDepth 65536 in
set_option maxHeartbeats 40000000 in
theorem rmA33 (l : Launch) (Z : State) (a0 : Array Value) (hw : ∀ d ∈ tables_1, d.before a0 Z = true) (ws : List Jvm.Cond) (ob0 : Addr) (ob0_kind : Addr)  (cs : Int32) (wf : Value) (wK0 : Addr) (wK1 : Addr) (wK2 : Addr) (wK3 : Addr) (wL : Addr) (h0 : Heap) (n0 : Nat) (O0 : Old Z n0 h0) (G : own_Gl Z cs wf wK0 wK1 wK2 wK3 wL) (E_ob0 : Exa Z h0 ob0 "com/example/assemble_quorum/assemblequorum/io/Message") (F_ob0_candidate : Fld Z h0 ob0 "com/example/assemble_quorum/assemblequorum/io/Message" "candidate" "Lcom/example/assemble_quorum/assemblequorum/model/MemberAddress;" .null) (F_ob0_kind : Fld Z h0 ob0 "com/example/assemble_quorum/assemblequorum/io/Message" "kind" "Lcom/example/assemble_quorum/assemblequorum/io/Message$Kind;" (.ref ob0_kind)) (F_ob0_leader : Fld Z h0 ob0 "com/example/assemble_quorum/assemblequorum/io/Message" "leader" "Lcom/example/assemble_quorum/assemblequorum/model/MemberAddress;" .null) (F_ob0_number : Fld Z h0 ob0 "com/example/assemble_quorum/assemblequorum/io/Message" "number" "Lcom/example/assemble_quorum/assemblequorum/model/ProposalNumber;" .null) (F_ob0_priorCandidate : Fld Z h0 ob0 "com/example/assemble_quorum/assemblequorum/io/Message" "priorCandidate" "Lcom/example/assemble_quorum/assemblequorum/model/MemberAddress;" .null) (F_ob0_priorNumber : Fld Z h0 ob0 "com/example/assemble_quorum/assemblequorum/io/Message" "priorNumber" "Lcom/example/assemble_quorum/assemblequorum/model/ProposalNumber;" .null) :
    MetFree l own_y32 (head1 (Jvm.Cond.code own_y32 prog_17_method_25_code 1 (some (.object "com/example/assemble_quorum/assemblequorum/model/MemberAddress")) :: ws) ({ frames := 0, cells := 0, slots := 0, locals := 0 } : Room)) (fun a U => a = #[(.ref ob0)] ∧ Z.Warmed39 U.vm ∧ U.heap = h0) (fun _ _ _ _ _ => True) (fun _ U o U' => ∃ v L, o = .returned v ∧ own_Q_rmA33 Z ob0 ob0_kind cs wf wK0 wK1 wK2 wK3 wL h0 n0 v U'.heap L ∧ FrameEnd U o U' L ({ frames := 0, cells := 0, slots := 0, locals := 0 } : Room).cells ({ frames := 0, cells := 0, slots := 0, locals := 0 } : Room).slots) := by
  refine MetFree.of_bodySF (plainFor_of_name own_pn9) hisR ?_
  intro p e s m args below meth c s₁ Bd hml0 hP hK
  obtain ⟨rfl, hZ, hh⟩ := hP
  have hx := Bd.exec
  have hby := Bd.bytes
  have hml : c.maxLocals = 1 := hml0
  have hown : s.vm.findClass "com/example/assemble_quorum/assemblequorum/io/Message" = some m.cls := findClass_of_methodNamed Bd.named
  have hnm := (name_of_methodNamed Bd.named Bd.method).1
  have X0 : Stand p l e ({ frames := 0, cells := 0, slots := 0, locals := 0 } : Room) s m #[(.ref ob0)] below meth c s₁ [] 0 0 := Stand.of_body Bd
  have e0 : s₁.heap = h0 := by rw [← hh, Bd.state]; rfl
  have N0 := Fr.nil n0
  have Z0 : n0 ≤ h0.size := O0.1 ▸ O0.2.1
  have g0 : ∀ t, Steps p.tables e below (s₁.setTop (mkF m 0 #[.val (.ref ob0)] [])) t → Steps p.tables e below (s₁.setTop (entryFrame m #[(.ref ob0)] 1)) t := fun t k => castTop (own_ef35 m (ob0)) k
  have G0 := G
  obtain ⟨S_CS, hcs, S_WF, hwf, S_PROPOSAL_ANSWER, S_HELLO, S_EVENT, S_PING, S_L, Ex_L, Fa_L⟩ := G
  obtain ⟨T1, X1, e1, st1⟩ := getF X0 hx hZ hown (host := "") (Or.inl (own_w hw 181 rfl)) Via.refl e0 F_ob0_candidate (g := (mkF m 1 #[.val (.ref ob0)] [(.ref ob0)])) rfl rfl (hb hby own_d34_1)
  have g2 : ∀ t, Steps p.tables e below (T1.setTop (mkF m 4 #[.val (.ref ob0)] [.null])) t → Steps p.tables e below (s₁.setTop (entryFrame m #[(.ref ob0)] 1)) t := by
    intro t k
    refine g0 t ?_
    show Steps p.tables e below (s₁.setTop (mkF m 0 #[.val (.ref ob0)] [])) _
    refine XS.aloadN X0.here hx rfl (hb hby own_d34_0) rfl rfl ?_
    refine st1 _ ?_
    exact k
  obtain ⟨fs, hrt, hrun, hended, hW, hsame⟩ := X1.leave (v := some .null) (fun h => by rw [Bd.returns] at h; cases h)
  refine ⟨_, _, g2 _ ?_, hrun, hended, _, _, rfl, ?_, ⟨_, rfl⟩, hW, hsame.mono (by decide) (by decide)⟩
  · show Steps p.tables e below (T1.setTop (mkF m 4 #[.val (.ref ob0)] [.null])) _
    jvm_step X1.here [X1.here.top, hx, (hb hby own_d34_4), X1.method', Bd.returns, Value.isRef, FieldType.isReference]
    first | (intro acts; rw [hrt _ acts rfl rfl rfl]) | rw [hrt _ _ rfl rfl rfl]
    exact Steps.refl _
  · show own_Q_rmA33 Z ob0 ob0_kind cs wf wK0 wK1 wK2 wK3 wL h0 n0 _ T1.heap _
    rw [e1]
    exact ⟨rfl, N0, rfl⟩
abbrev own_y33 : MethodName := ⟨"com/example/assemble_quorum/assemblequorum/io/Message", "leader", "()Lcom/example/assemble_quorum/assemblequorum/model/MemberAddress;"⟩
theorem own_ef36 (m : MethodId) (x0 : Addr) : entryFrame m #[(.ref x0)] 1 = mkF m 0 #[.val (.ref x0)] [] := by first | (simp [entryFrame, mkF, argsToLocals, Value.category]; done) | rfl
theorem own_d35_0 : decode prog_17_method_22_code 0 = .ok (.aload_n 0, 1) := by decide +kernel
theorem own_d35_1 : decode prog_17_method_22_code 1 = .ok (.getfield 24, 3) := by decide +kernel
theorem own_d35_4 : decode prog_17_method_22_code 4 = .ok (.areturn, 1) := by decide +kernel
def own_Q_rmA34 (Z : State) (ob0 : Addr) (ob0_kind : Addr)  (cs : Int32) (wf : Value) (wK0 : Addr) (wK1 : Addr) (wK2 : Addr) (wK3 : Addr) (wL : Addr) (h0 : Heap) (n0 : Nat) (v : Option Value) (h : Heap) (L : List Loc) : Prop := v = some .null ∧ Fr n0 L ∧ h = h0
set_option maxRecDepth 65536 in
set_option maxHeartbeats 40000000 in
theorem rmA34 (l : Launch) (Z : State) (a0 : Array Value) (hw : ∀ d ∈ tables_1, d.before a0 Z = true) (ws : List Jvm.Cond) (ob0 : Addr) (ob0_kind : Addr)  (cs : Int32) (wf : Value) (wK0 : Addr) (wK1 : Addr) (wK2 : Addr) (wK3 : Addr) (wL : Addr) (h0 : Heap) (n0 : Nat) (O0 : Old Z n0 h0) (G : own_Gl Z cs wf wK0 wK1 wK2 wK3 wL) (E_ob0 : Exa Z h0 ob0 "com/example/assemble_quorum/assemblequorum/io/Message") (F_ob0_candidate : Fld Z h0 ob0 "com/example/assemble_quorum/assemblequorum/io/Message" "candidate" "Lcom/example/assemble_quorum/assemblequorum/model/MemberAddress;" .null) (F_ob0_kind : Fld Z h0 ob0 "com/example/assemble_quorum/assemblequorum/io/Message" "kind" "Lcom/example/assemble_quorum/assemblequorum/io/Message$Kind;" (.ref ob0_kind)) (F_ob0_leader : Fld Z h0 ob0 "com/example/assemble_quorum/assemblequorum/io/Message" "leader" "Lcom/example/assemble_quorum/assemblequorum/model/MemberAddress;" .null) (F_ob0_number : Fld Z h0 ob0 "com/example/assemble_quorum/assemblequorum/io/Message" "number" "Lcom/example/assemble_quorum/assemblequorum/model/ProposalNumber;" .null) (F_ob0_priorCandidate : Fld Z h0 ob0 "com/example/assemble_quorum/assemblequorum/io/Message" "priorCandidate" "Lcom/example/assemble_quorum/assemblequorum/model/MemberAddress;" .null) (F_ob0_priorNumber : Fld Z h0 ob0 "com/example/assemble_quorum/assemblequorum/io/Message" "priorNumber" "Lcom/example/assemble_quorum/assemblequorum/model/ProposalNumber;" .null) :
    MetFree l own_y33 (head1 (Jvm.Cond.code own_y33 prog_17_method_22_code 1 (some (.object "com/example/assemble_quorum/assemblequorum/model/MemberAddress")) :: ws) ({ frames := 0, cells := 0, slots := 0, locals := 0 } : Room)) (fun a U => a = #[(.ref ob0)] ∧ Z.Warmed39 U.vm ∧ U.heap = h0) (fun _ _ _ _ _ => True) (fun _ U o U' => ∃ v L, o = .returned v ∧ own_Q_rmA34 Z ob0 ob0_kind cs wf wK0 wK1 wK2 wK3 wL h0 n0 v U'.heap L ∧ FrameEnd U o U' L ({ frames := 0, cells := 0, slots := 0, locals := 0 } : Room).cells ({ frames := 0, cells := 0, slots := 0, locals := 0 } : Room).slots) := by
  refine MetFree.of_bodySF (plainFor_of_name own_pn9) hisR ?_
  intro p e s m args below meth c s₁ Bd hml0 hP hK
  obtain ⟨rfl, hZ, hh⟩ := hP
  have hx := Bd.exec
  have hby := Bd.bytes
  have hml : c.maxLocals = 1 := hml0
  have hown : s.vm.findClass "com/example/assemble_quorum/assemblequorum/io/Message" = some m.cls := findClass_of_methodNamed Bd.named
  have hnm := (name_of_methodNamed Bd.named Bd.method).1
  have X0 : Stand p l e ({ frames := 0, cells := 0, slots := 0, locals := 0 } : Room) s m #[(.ref ob0)] below meth c s₁ [] 0 0 := Stand.of_body Bd
  have e0 : s₁.heap = h0 := by rw [← hh, Bd.state]; rfl
  have N0 := Fr.nil n0
  have Z0 : n0 ≤ h0.size := O0.1 ▸ O0.2.1
  have g0 : ∀ t, Steps p.tables e below (s₁.setTop (mkF m 0 #[.val (.ref ob0)] [])) t → Steps p.tables e below (s₁.setTop (entryFrame m #[(.ref ob0)] 1)) t := fun t k => castTop (own_ef36 m (ob0)) k
  have G0 := G
  obtain ⟨S_CS, hcs, S_WF, hwf, S_PROPOSAL_ANSWER, S_HELLO, S_EVENT, S_PING, S_L, Ex_L, Fa_L⟩ := G
  obtain ⟨T1, X1, e1, st1⟩ := getF X0 hx hZ hown (host := "") (Or.inl (own_w hw 169 rfl)) Via.refl e0 F_ob0_leader (g := (mkF m 1 #[.val (.ref ob0)] [(.ref ob0)])) rfl rfl (hb hby own_d35_1)
  have g2 : ∀ t, Steps p.tables e below (T1.setTop (mkF m 4 #[.val (.ref ob0)] [.null])) t → Steps p.tables e below (s₁.setTop (entryFrame m #[(.ref ob0)] 1)) t := by
    intro t k
    refine g0 t ?_
    show Steps p.tables e below (s₁.setTop (mkF m 0 #[.val (.ref ob0)] [])) _
    refine XS.aloadN X0.here hx rfl (hb hby own_d35_0) rfl rfl ?_
    refine st1 _ ?_
    exact k
  obtain ⟨fs, hrt, hrun, hended, hW, hsame⟩ := X1.leave (v := some .null) (fun h => by rw [Bd.returns] at h; cases h)
  refine ⟨_, _, g2 _ ?_, hrun, hended, _, _, rfl, ?_, ⟨_, rfl⟩, hW, hsame.mono (by decide) (by decide)⟩
  · show Steps p.tables e below (T1.setTop (mkF m 4 #[.val (.ref ob0)] [.null])) _
    jvm_step X1.here [X1.here.top, hx, (hb hby own_d35_4), X1.method', Bd.returns, Value.isRef, FieldType.isReference]
    first | (intro acts; rw [hrt _ acts rfl rfl rfl]) | rw [hrt _ _ rfl rfl rfl]
    exact Steps.refl _
  · show own_Q_rmA34 Z ob0 ob0_kind cs wf wK0 wK1 wK2 wK3 wL h0 n0 _ T1.heap _
    rw [e1]
    exact ⟨rfl, N0, rfl⟩
theorem own_ef37 (m : MethodId) (x0 : Addr) (x1 : Addr) (x2 : Addr) : entryFrame m #[(.ref x0), (.ref x1), (.ref x2)] 3 = mkF m 0 #[.val (.ref x0), .val (.ref x1), .val (.ref x2)] [] := by first | (simp [entryFrame, mkF, argsToLocals, Value.category]; done) | rfl
def own_Q_rmA35 (Z : State) (ob0 : Addr) (ob0_kind : Addr) (ob1 : Addr) (ob2 : Addr)  (cs : Int32) (wf : Value) (wK0 : Addr) (wK1 : Addr) (wK2 : Addr) (wK3 : Addr) (wL : Addr) (h0 : Heap) (n0 : Nat) (v : Option Value) (h : Heap) (L : List Loc) : Prop := v = some (.ref ob0) ∧ Fr n0 L ∧ Keep h0 h [ob0] ∧ Exa Z h ob0 "com/example/assemble_quorum/assemblequorum/io/Message$Builder" ∧ Fld Z h ob0 "com/example/assemble_quorum/assemblequorum/io/Message$Builder" "members" "Ljava/util/List;" (.ref wL) ∧ Fld Z h ob0 "com/example/assemble_quorum/assemblequorum/io/Message$Builder" "kind" "Lcom/example/assemble_quorum/assemblequorum/io/Message$Kind;" (.ref ob0_kind) ∧ Fld Z h ob0 "com/example/assemble_quorum/assemblequorum/io/Message$Builder" "priorNumber" "Lcom/example/assemble_quorum/assemblequorum/model/ProposalNumber;" (.ref ob1) ∧ Fld Z h ob0 "com/example/assemble_quorum/assemblequorum/io/Message$Builder" "priorCandidate" "Lcom/example/assemble_quorum/assemblequorum/model/MemberAddress;" (.ref ob2) ∧ Fld Z h ob0 "com/example/assemble_quorum/assemblequorum/io/Message$Builder" "sender" "Lcom/example/assemble_quorum/assemblequorum/model/MemberAddress;" .null ∧ Fld Z h ob0 "com/example/assemble_quorum/assemblequorum/io/Message$Builder" "leader" "Lcom/example/assemble_quorum/assemblequorum/model/MemberAddress;" .null ∧ Fld Z h ob0 "com/example/assemble_quorum/assemblequorum/io/Message$Builder" "version" "J" (.long (0 : Int64)) ∧ Fld Z h ob0 "com/example/assemble_quorum/assemblequorum/io/Message$Builder" "number" "Lcom/example/assemble_quorum/assemblequorum/model/ProposalNumber;" .null ∧ Fld Z h ob0 "com/example/assemble_quorum/assemblequorum/io/Message$Builder" "candidate" "Lcom/example/assemble_quorum/assemblequorum/model/MemberAddress;" .null ∧ Fld Z h ob0 "com/example/assemble_quorum/assemblequorum/io/Message$Builder" "granted" "Z" (.int (0 : Int32)) ∧ Fld Z h ob0 "com/example/assemble_quorum/assemblequorum/io/Message$Builder" "topic" "Ljava/lang/String;" .null ∧ Fld Z h ob0 "com/example/assemble_quorum/assemblequorum/io/Message$Builder" "payload" "[B" .null
set_option maxRecDepth 65536 in
set_option maxHeartbeats 40000000 in
theorem rmA35 (l : Launch) (Z : State) (a0 : Array Value) (hw : ∀ d ∈ tables_1, d.before a0 Z = true) (ws : List Jvm.Cond) (ob0 : Addr) (ob0_kind : Addr) (ob1 : Addr) (ob2 : Addr)  (cs : Int32) (wf : Value) (wK0 : Addr) (wK1 : Addr) (wK2 : Addr) (wK3 : Addr) (wL : Addr) (h0 : Heap) (n0 : Nat) (O0 : Old Z n0 h0) (G : own_Gl Z cs wf wK0 wK1 wK2 wK3 wL) (E_ob0 : Exa Z h0 ob0 "com/example/assemble_quorum/assemblequorum/io/Message$Builder") (F_ob0_candidate : Fld Z h0 ob0 "com/example/assemble_quorum/assemblequorum/io/Message$Builder" "candidate" "Lcom/example/assemble_quorum/assemblequorum/model/MemberAddress;" .null) (F_ob0_granted : Fld Z h0 ob0 "com/example/assemble_quorum/assemblequorum/io/Message$Builder" "granted" "Z" (.int (0 : Int32))) (F_ob0_kind : Fld Z h0 ob0 "com/example/assemble_quorum/assemblequorum/io/Message$Builder" "kind" "Lcom/example/assemble_quorum/assemblequorum/io/Message$Kind;" (.ref ob0_kind)) (F_ob0_leader : Fld Z h0 ob0 "com/example/assemble_quorum/assemblequorum/io/Message$Builder" "leader" "Lcom/example/assemble_quorum/assemblequorum/model/MemberAddress;" .null) (F_ob0_members : Fld Z h0 ob0 "com/example/assemble_quorum/assemblequorum/io/Message$Builder" "members" "Ljava/util/List;" (.ref wL)) (F_ob0_number : Fld Z h0 ob0 "com/example/assemble_quorum/assemblequorum/io/Message$Builder" "number" "Lcom/example/assemble_quorum/assemblequorum/model/ProposalNumber;" .null) (F_ob0_payload : Fld Z h0 ob0 "com/example/assemble_quorum/assemblequorum/io/Message$Builder" "payload" "[B" .null) (F_ob0_priorCandidate : Fld Z h0 ob0 "com/example/assemble_quorum/assemblequorum/io/Message$Builder" "priorCandidate" "Lcom/example/assemble_quorum/assemblequorum/model/MemberAddress;" .null) (F_ob0_priorNumber : Fld Z h0 ob0 "com/example/assemble_quorum/assemblequorum/io/Message$Builder" "priorNumber" "Lcom/example/assemble_quorum/assemblequorum/model/ProposalNumber;" .null) (F_ob0_sender : Fld Z h0 ob0 "com/example/assemble_quorum/assemblequorum/io/Message$Builder" "sender" "Lcom/example/assemble_quorum/assemblequorum/model/MemberAddress;" .null) (F_ob0_topic : Fld Z h0 ob0 "com/example/assemble_quorum/assemblequorum/io/Message$Builder" "topic" "Ljava/lang/String;" .null) (F_ob0_version : Fld Z h0 ob0 "com/example/assemble_quorum/assemblequorum/io/Message$Builder" "version" "J" (.long (0 : Int64))) (gz_ob0 : n0 ≤ ob0) :
    MetFree l own_y23 (head1 (Jvm.Cond.code own_y23 prog_18_method_8_code 3 (some (.object "com/example/assemble_quorum/assemblequorum/io/Message$Builder")) :: ws) ({ frames := 0, cells := 0, slots := 0, locals := 0 } : Room)) (fun a U => a = #[(.ref ob0), (.ref ob1), (.ref ob2)] ∧ Z.Warmed39 U.vm ∧ U.heap = h0) (fun _ _ _ _ _ => True) (fun _ U o U' => ∃ v L, o = .returned v ∧ own_Q_rmA35 Z ob0 ob0_kind ob1 ob2 cs wf wK0 wK1 wK2 wK3 wL h0 n0 v U'.heap L ∧ FrameEnd U o U' L ({ frames := 0, cells := 0, slots := 0, locals := 0 } : Room).cells ({ frames := 0, cells := 0, slots := 0, locals := 0 } : Room).slots) := by
  refine MetFree.of_bodySF (plainFor_of_name own_pn7) hisR ?_
  intro p e s m args below meth c s₁ Bd hml0 hP hK
  obtain ⟨rfl, hZ, hh⟩ := hP
  have hx := Bd.exec
  have hby := Bd.bytes
  have hml : c.maxLocals = 3 := hml0
  have hown : s.vm.findClass "com/example/assemble_quorum/assemblequorum/io/Message$Builder" = some m.cls := findClass_of_methodNamed Bd.named
  have hnm := (name_of_methodNamed Bd.named Bd.method).1
  have X0 : Stand p l e ({ frames := 0, cells := 0, slots := 0, locals := 0 } : Room) s m #[(.ref ob0), (.ref ob1), (.ref ob2)] below meth c s₁ [] 0 0 := Stand.of_body Bd
  have e0 : s₁.heap = h0 := by rw [← hh, Bd.state]; rfl
  have N0 := Fr.nil n0
  have Z0 : n0 ≤ h0.size := O0.1 ▸ O0.2.1
  have g0 : ∀ t, Steps p.tables e below (s₁.setTop (mkF m 0 #[.val (.ref ob0), .val (.ref ob1), .val (.ref ob2)] [])) t → Steps p.tables e below (s₁.setTop (entryFrame m #[(.ref ob0), (.ref ob1), (.ref ob2)] 3)) t := fun t k => castTop (own_ef37 m (ob0) (ob1) (ob2)) k
  have G0 := G
  obtain ⟨S_CS, hcs, S_WF, hwf, S_PROPOSAL_ANSWER, S_HELLO, S_EVENT, S_PING, S_L, Ex_L, Fa_L⟩ := G
  obtain ⟨T1, h1, X1, e1, W1, st1⟩ := putF X0 hx hZ hown (host := "") (Or.inl (own_w hw 144 rfl)) Via.refl e0 F_ob0_priorNumber E_ob0 (Or.inl (own_w hw 145 rfl)) (own_w hw 123 rfl) (ty := (.object "com/example/assemble_quorum/assemblequorum/model/ProposalNumber")) (by decide) rfl rfl (g := (mkF m 2 #[.val (.ref ob0), .val (.ref ob1), .val (.ref ob2)] [(.ref ob1), (.ref ob0)])) rfl rfl (hb hby own_d25_2)
  have Fw1 := F_ob0_priorNumber.same W1
  have N1 := Fr.snoc X1 N0 gz_ob0
  have f2 := (E_ob0.wr W1)
  have f3 := (F_ob0_priorCandidate.other W1 (Or.inr (slot_ne (own_la7 hw) (own_la6 hw) (by decide) own_ty2 own_ty6)))
  obtain ⟨T4, h4, X4, e4, W4, st4⟩ := putF X1 hx hZ hown (host := "") (Or.inl (own_w hw 146 rfl)) Via.refl e1 f3 f2 (Or.inl (own_w hw 147 rfl)) (own_w hw 123 rfl) (ty := (.object "com/example/assemble_quorum/assemblequorum/model/MemberAddress")) (by decide) rfl rfl (g := (mkF m 7 #[.val (.ref ob0), .val (.ref ob1), .val (.ref ob2)] [(.ref ob2), (.ref ob0)])) rfl rfl (hb hby own_d25_7)
  have Fw4 := f3.same W4
  have N4 := Fr.snoc X4 N1 gz_ob0
  have g5 : ∀ t, Steps p.tables e below (T4.setTop (mkF m 11 #[.val (.ref ob0), .val (.ref ob1), .val (.ref ob2)] [(.ref ob0)])) t → Steps p.tables e below (s₁.setTop (entryFrame m #[(.ref ob0), (.ref ob1), (.ref ob2)] 3)) t := by
    intro t k
    refine g0 t ?_
    show Steps p.tables e below (s₁.setTop (mkF m 0 #[.val (.ref ob0), .val (.ref ob1), .val (.ref ob2)] [])) _
    refine XS.aloadN X0.here hx rfl (hb hby own_d25_0) rfl rfl ?_
    refine XS.aloadN X0.here hx rfl (hb hby own_d25_1) rfl rfl ?_
    refine st1 _ ?_
    refine XS.aloadN X1.here hx rfl (hb hby own_d25_5) rfl rfl ?_
    refine XS.aloadN X1.here hx rfl (hb hby own_d25_6) rfl rfl ?_
    refine st4 _ ?_
    refine XS.aloadN X4.here hx rfl (hb hby own_d25_10) rfl rfl ?_
    exact k
  obtain ⟨fs, hrt, hrun, hended, hW, hsame⟩ := X4.leave (v := some (.ref ob0)) (fun h => by rw [Bd.returns] at h; cases h)
  have f6 := (f2.wr W4)
  have f7 := ((F_ob0_members.other W1 (Or.inr (slot_ne (own_la5 hw) (own_la6 hw) (by decide) own_ty5 own_ty6))).other W4 (Or.inr (slot_ne (own_la5 hw) (own_la7 hw) (by decide) own_ty5 own_ty2)))
  have f8 := ((F_ob0_kind.other W1 (Or.inr (slot_ne (own_la4 hw) (own_la6 hw) (by decide) own_ty4 own_ty6))).other W4 (Or.inr (slot_ne (own_la4 hw) (own_la7 hw) (by decide) own_ty4 own_ty2)))
  have f9 := (Fw1.other W4 (Or.inr (slot_ne (own_la6 hw) (own_la7 hw) (by decide) own_ty6 own_ty2)))
  have f10 := ((F_ob0_sender.other W1 (Or.inr (slot_ne (own_la8 hw) (own_la6 hw) (by decide) own_ty2 own_ty6))).other W4 (Or.inr (slot_ne (own_la8 hw) (own_la7 hw) (by decide) own_ty2 own_ty2)))
  have f11 := ((F_ob0_leader.other W1 (Or.inr (slot_ne (own_la9 hw) (own_la6 hw) (by decide) own_ty2 own_ty6))).other W4 (Or.inr (slot_ne (own_la9 hw) (own_la7 hw) (by decide) own_ty2 own_ty2)))
  have f12 := ((F_ob0_version.other W1 (Or.inr (slot_ne (own_la10 hw) (own_la6 hw) (by decide) own_ty3 own_ty6))).other W4 (Or.inr (slot_ne (own_la10 hw) (own_la7 hw) (by decide) own_ty3 own_ty2)))
  have f13 := ((F_ob0_number.other W1 (Or.inr (slot_ne (own_la11 hw) (own_la6 hw) (by decide) own_ty6 own_ty6))).other W4 (Or.inr (slot_ne (own_la11 hw) (own_la7 hw) (by decide) own_ty6 own_ty2)))
  have f14 := ((F_ob0_candidate.other W1 (Or.inr (slot_ne (own_la12 hw) (own_la6 hw) (by decide) own_ty2 own_ty6))).other W4 (Or.inr (slot_ne (own_la12 hw) (own_la7 hw) (by decide) own_ty2 own_ty2)))
  have f15 := ((F_ob0_granted.other W1 (Or.inr (slot_ne (own_la13 hw) (own_la6 hw) (by decide) own_ty7 own_ty6))).other W4 (Or.inr (slot_ne (own_la13 hw) (own_la7 hw) (by decide) own_ty7 own_ty2)))
  have f16 := ((F_ob0_topic.other W1 (Or.inr (slot_ne (own_la14 hw) (own_la6 hw) (by decide) own_ty1 own_ty6))).other W4 (Or.inr (slot_ne (own_la14 hw) (own_la7 hw) (by decide) own_ty1 own_ty2)))
  have f17 := ((F_ob0_payload.other W1 (Or.inr (slot_ne (own_la15 hw) (own_la6 hw) (by decide) own_ty8 own_ty6))).other W4 (Or.inr (slot_ne (own_la15 hw) (own_la7 hw) (by decide) own_ty8 own_ty2)))
  refine ⟨_, _, g5 _ ?_, hrun, hended, _, _, rfl, ?_, ⟨_, rfl⟩, hW, hsame.mono (by decide) (by decide)⟩
  · show Steps p.tables e below (T4.setTop (mkF m 11 #[.val (.ref ob0), .val (.ref ob1), .val (.ref ob2)] [(.ref ob0)])) _
    jvm_step X4.here [X4.here.top, hx, (hb hby own_d25_11), X4.method', Bd.returns, Value.isRef, FieldType.isReference]
    first | (intro acts; rw [hrt _ acts rfl rfl rfl]) | rw [hrt _ _ rfl rfl rfl]
    exact Steps.refl _
  · show own_Q_rmA35 Z ob0 ob0_kind ob1 ob2 cs wf wK0 wK1 wK2 wK3 wL h0 n0 _ T4.heap _
    rw [e4]
    exact ⟨rfl, N4, (Keep.wr (Keep.wr (Keep.refl h0 [ob0]) W1 (Or.inl (List.mem_of_getElem? (i := 0) rfl))) W4 (Or.inl (List.mem_of_getElem? (i := 0) rfl))), f6, f7, f8, f9, Fw4, f10, f11, f12, f13, f14, f15, f16, f17⟩
theorem own_ef38 (m : MethodId) (x0 : Addr) : entryFrame m #[(.ref x0), .null, .null] 3 = mkF m 0 #[.val (.ref x0), .val .null, .val .null] [] := by first | (simp [entryFrame, mkF, argsToLocals, Value.category]; done) | rfl
def own_Q_rmA36 (Z : State) (ob0 : Addr) (ob0_kind : Addr) (ob0_priorCandidate : Addr) (ob0_priorNumber : Addr)  (cs : Int32) (wf : Value) (wK0 : Addr) (wK1 : Addr) (wK2 : Addr) (wK3 : Addr) (wL : Addr) (h0 : Heap) (n0 : Nat) (v : Option Value) (h : Heap) (L : List Loc) : Prop := v = some (.ref ob0) ∧ Fr n0 L ∧ Keep h0 h [ob0] ∧ Exa Z h ob0 "com/example/assemble_quorum/assemblequorum/io/Message$Builder" ∧ Fld Z h ob0 "com/example/assemble_quorum/assemblequorum/io/Message$Builder" "members" "Ljava/util/List;" (.ref wL) ∧ Fld Z h ob0 "com/example/assemble_quorum/assemblequorum/io/Message$Builder" "kind" "Lcom/example/assemble_quorum/assemblequorum/io/Message$Kind;" (.ref ob0_kind) ∧ Fld Z h ob0 "com/example/assemble_quorum/assemblequorum/io/Message$Builder" "priorNumber" "Lcom/example/assemble_quorum/assemblequorum/model/ProposalNumber;" .null ∧ Fld Z h ob0 "com/example/assemble_quorum/assemblequorum/io/Message$Builder" "priorCandidate" "Lcom/example/assemble_quorum/assemblequorum/model/MemberAddress;" .null ∧ Fld Z h ob0 "com/example/assemble_quorum/assemblequorum/io/Message$Builder" "sender" "Lcom/example/assemble_quorum/assemblequorum/model/MemberAddress;" .null ∧ Fld Z h ob0 "com/example/assemble_quorum/assemblequorum/io/Message$Builder" "leader" "Lcom/example/assemble_quorum/assemblequorum/model/MemberAddress;" .null ∧ Fld Z h ob0 "com/example/assemble_quorum/assemblequorum/io/Message$Builder" "version" "J" (.long (0 : Int64)) ∧ Fld Z h ob0 "com/example/assemble_quorum/assemblequorum/io/Message$Builder" "number" "Lcom/example/assemble_quorum/assemblequorum/model/ProposalNumber;" .null ∧ Fld Z h ob0 "com/example/assemble_quorum/assemblequorum/io/Message$Builder" "candidate" "Lcom/example/assemble_quorum/assemblequorum/model/MemberAddress;" .null ∧ Fld Z h ob0 "com/example/assemble_quorum/assemblequorum/io/Message$Builder" "granted" "Z" (.int (0 : Int32)) ∧ Fld Z h ob0 "com/example/assemble_quorum/assemblequorum/io/Message$Builder" "topic" "Ljava/lang/String;" .null ∧ Fld Z h ob0 "com/example/assemble_quorum/assemblequorum/io/Message$Builder" "payload" "[B" .null
set_option maxRecDepth 65536 in
set_option maxHeartbeats 40000000 in
theorem rmA36 (l : Launch) (Z : State) (a0 : Array Value) (hw : ∀ d ∈ tables_1, d.before a0 Z = true) (ws : List Jvm.Cond) (ob0 : Addr) (ob0_kind : Addr) (ob0_priorCandidate : Addr) (ob0_priorNumber : Addr)  (cs : Int32) (wf : Value) (wK0 : Addr) (wK1 : Addr) (wK2 : Addr) (wK3 : Addr) (wL : Addr) (h0 : Heap) (n0 : Nat) (O0 : Old Z n0 h0) (G : own_Gl Z cs wf wK0 wK1 wK2 wK3 wL) (E_ob0 : Exa Z h0 ob0 "com/example/assemble_quorum/assemblequorum/io/Message$Builder") (F_ob0_candidate : Fld Z h0 ob0 "com/example/assemble_quorum/assemblequorum/io/Message$Builder" "candidate" "Lcom/example/assemble_quorum/assemblequorum/model/MemberAddress;" .null) (F_ob0_granted : Fld Z h0 ob0 "com/example/assemble_quorum/assemblequorum/io/Message$Builder" "granted" "Z" (.int (0 : Int32))) (F_ob0_kind : Fld Z h0 ob0 "com/example/assemble_quorum/assemblequorum/io/Message$Builder" "kind" "Lcom/example/assemble_quorum/assemblequorum/io/Message$Kind;" (.ref ob0_kind)) (F_ob0_leader : Fld Z h0 ob0 "com/example/assemble_quorum/assemblequorum/io/Message$Builder" "leader" "Lcom/example/assemble_quorum/assemblequorum/model/MemberAddress;" .null) (F_ob0_members : Fld Z h0 ob0 "com/example/assemble_quorum/assemblequorum/io/Message$Builder" "members" "Ljava/util/List;" (.ref wL)) (F_ob0_number : Fld Z h0 ob0 "com/example/assemble_quorum/assemblequorum/io/Message$Builder" "number" "Lcom/example/assemble_quorum/assemblequorum/model/ProposalNumber;" .null) (F_ob0_payload : Fld Z h0 ob0 "com/example/assemble_quorum/assemblequorum/io/Message$Builder" "payload" "[B" .null) (F_ob0_priorCandidate : Fld Z h0 ob0 "com/example/assemble_quorum/assemblequorum/io/Message$Builder" "priorCandidate" "Lcom/example/assemble_quorum/assemblequorum/model/MemberAddress;" (.ref ob0_priorCandidate)) (F_ob0_priorNumber : Fld Z h0 ob0 "com/example/assemble_quorum/assemblequorum/io/Message$Builder" "priorNumber" "Lcom/example/assemble_quorum/assemblequorum/model/ProposalNumber;" (.ref ob0_priorNumber)) (F_ob0_sender : Fld Z h0 ob0 "com/example/assemble_quorum/assemblequorum/io/Message$Builder" "sender" "Lcom/example/assemble_quorum/assemblequorum/model/MemberAddress;" .null) (F_ob0_topic : Fld Z h0 ob0 "com/example/assemble_quorum/assemblequorum/io/Message$Builder" "topic" "Ljava/lang/String;" .null) (F_ob0_version : Fld Z h0 ob0 "com/example/assemble_quorum/assemblequorum/io/Message$Builder" "version" "J" (.long (0 : Int64))) (gz_ob0 : n0 ≤ ob0) :
    MetFree l own_y23 (head1 (Jvm.Cond.code own_y23 prog_18_method_8_code 3 (some (.object "com/example/assemble_quorum/assemblequorum/io/Message$Builder")) :: ws) ({ frames := 0, cells := 0, slots := 0, locals := 0 } : Room)) (fun a U => a = #[(.ref ob0), .null, .null] ∧ Z.Warmed39 U.vm ∧ U.heap = h0) (fun _ _ _ _ _ => True) (fun _ U o U' => ∃ v L, o = .returned v ∧ own_Q_rmA36 Z ob0 ob0_kind ob0_priorCandidate ob0_priorNumber cs wf wK0 wK1 wK2 wK3 wL h0 n0 v U'.heap L ∧ FrameEnd U o U' L ({ frames := 0, cells := 0, slots := 0, locals := 0 } : Room).cells ({ frames := 0, cells := 0, slots := 0, locals := 0 } : Room).slots) := by
  refine MetFree.of_bodySF (plainFor_of_name own_pn7) hisR ?_
  intro p e s m args below meth c s₁ Bd hml0 hP hK
  obtain ⟨rfl, hZ, hh⟩ := hP
  have hx := Bd.exec
  have hby := Bd.bytes
  have hml : c.maxLocals = 3 := hml0
  have hown : s.vm.findClass "com/example/assemble_quorum/assemblequorum/io/Message$Builder" = some m.cls := findClass_of_methodNamed Bd.named
  have hnm := (name_of_methodNamed Bd.named Bd.method).1
  have X0 : Stand p l e ({ frames := 0, cells := 0, slots := 0, locals := 0 } : Room) s m #[(.ref ob0), .null, .null] below meth c s₁ [] 0 0 := Stand.of_body Bd
  have e0 : s₁.heap = h0 := by rw [← hh, Bd.state]; rfl
  have N0 := Fr.nil n0
  have Z0 : n0 ≤ h0.size := O0.1 ▸ O0.2.1
  have g0 : ∀ t, Steps p.tables e below (s₁.setTop (mkF m 0 #[.val (.ref ob0), .val .null, .val .null] [])) t → Steps p.tables e below (s₁.setTop (entryFrame m #[(.ref ob0), .null, .null] 3)) t := fun t k => castTop (own_ef38 m (ob0)) k
  have G0 := G
  obtain ⟨S_CS, hcs, S_WF, hwf, S_PROPOSAL_ANSWER, S_HELLO, S_EVENT, S_PING, S_L, Ex_L, Fa_L⟩ := G
  obtain ⟨T1, h1, X1, e1, W1, st1⟩ := putF X0 hx hZ hown (host := "") (Or.inl (own_w hw 144 rfl)) Via.refl e0 F_ob0_priorNumber E_ob0 (Or.inl (own_w hw 145 rfl)) (own_w hw 123 rfl) (ty := (.object "com/example/assemble_quorum/assemblequorum/model/ProposalNumber")) (by decide) rfl rfl (g := (mkF m 2 #[.val (.ref ob0), .val .null, .val .null] [.null, (.ref ob0)])) rfl rfl (hb hby own_d25_2)
  have Fw1 := F_ob0_priorNumber.same W1
  have N1 := Fr.snoc X1 N0 gz_ob0
  have f2 := (E_ob0.wr W1)
  have f3 := (F_ob0_priorCandidate.other W1 (Or.inr (slot_ne (own_la7 hw) (own_la6 hw) (by decide) own_ty2 own_ty6)))
  obtain ⟨T4, h4, X4, e4, W4, st4⟩ := putF X1 hx hZ hown (host := "") (Or.inl (own_w hw 146 rfl)) Via.refl e1 f3 f2 (Or.inl (own_w hw 147 rfl)) (own_w hw 123 rfl) (ty := (.object "com/example/assemble_quorum/assemblequorum/model/MemberAddress")) (by decide) rfl rfl (g := (mkF m 7 #[.val (.ref ob0), .val .null, .val .null] [.null, (.ref ob0)])) rfl rfl (hb hby own_d25_7)
  have Fw4 := f3.same W4
  have N4 := Fr.snoc X4 N1 gz_ob0
  have g5 : ∀ t, Steps p.tables e below (T4.setTop (mkF m 11 #[.val (.ref ob0), .val .null, .val .null] [(.ref ob0)])) t → Steps p.tables e below (s₁.setTop (entryFrame m #[(.ref ob0), .null, .null] 3)) t := by
    intro t k
    refine g0 t ?_
    show Steps p.tables e below (s₁.setTop (mkF m 0 #[.val (.ref ob0), .val .null, .val .null] [])) _
    refine XS.aloadN X0.here hx rfl (hb hby own_d25_0) rfl rfl ?_
    refine XS.aloadN X0.here hx rfl (hb hby own_d25_1) rfl rfl ?_
    refine st1 _ ?_
    refine XS.aloadN X1.here hx rfl (hb hby own_d25_5) rfl rfl ?_
    refine XS.aloadN X1.here hx rfl (hb hby own_d25_6) rfl rfl ?_
    refine st4 _ ?_
    refine XS.aloadN X4.here hx rfl (hb hby own_d25_10) rfl rfl ?_
    exact k
  obtain ⟨fs, hrt, hrun, hended, hW, hsame⟩ := X4.leave (v := some (.ref ob0)) (fun h => by rw [Bd.returns] at h; cases h)
  have f6 := (f2.wr W4)
  have f7 := ((F_ob0_members.other W1 (Or.inr (slot_ne (own_la5 hw) (own_la6 hw) (by decide) own_ty5 own_ty6))).other W4 (Or.inr (slot_ne (own_la5 hw) (own_la7 hw) (by decide) own_ty5 own_ty2)))
  have f8 := ((F_ob0_kind.other W1 (Or.inr (slot_ne (own_la4 hw) (own_la6 hw) (by decide) own_ty4 own_ty6))).other W4 (Or.inr (slot_ne (own_la4 hw) (own_la7 hw) (by decide) own_ty4 own_ty2)))
  have f9 := (Fw1.other W4 (Or.inr (slot_ne (own_la6 hw) (own_la7 hw) (by decide) own_ty6 own_ty2)))
  have f10 := ((F_ob0_sender.other W1 (Or.inr (slot_ne (own_la8 hw) (own_la6 hw) (by decide) own_ty2 own_ty6))).other W4 (Or.inr (slot_ne (own_la8 hw) (own_la7 hw) (by decide) own_ty2 own_ty2)))
  have f11 := ((F_ob0_leader.other W1 (Or.inr (slot_ne (own_la9 hw) (own_la6 hw) (by decide) own_ty2 own_ty6))).other W4 (Or.inr (slot_ne (own_la9 hw) (own_la7 hw) (by decide) own_ty2 own_ty2)))
  have f12 := ((F_ob0_version.other W1 (Or.inr (slot_ne (own_la10 hw) (own_la6 hw) (by decide) own_ty3 own_ty6))).other W4 (Or.inr (slot_ne (own_la10 hw) (own_la7 hw) (by decide) own_ty3 own_ty2)))
  have f13 := ((F_ob0_number.other W1 (Or.inr (slot_ne (own_la11 hw) (own_la6 hw) (by decide) own_ty6 own_ty6))).other W4 (Or.inr (slot_ne (own_la11 hw) (own_la7 hw) (by decide) own_ty6 own_ty2)))
  have f14 := ((F_ob0_candidate.other W1 (Or.inr (slot_ne (own_la12 hw) (own_la6 hw) (by decide) own_ty2 own_ty6))).other W4 (Or.inr (slot_ne (own_la12 hw) (own_la7 hw) (by decide) own_ty2 own_ty2)))
  have f15 := ((F_ob0_granted.other W1 (Or.inr (slot_ne (own_la13 hw) (own_la6 hw) (by decide) own_ty7 own_ty6))).other W4 (Or.inr (slot_ne (own_la13 hw) (own_la7 hw) (by decide) own_ty7 own_ty2)))
  have f16 := ((F_ob0_topic.other W1 (Or.inr (slot_ne (own_la14 hw) (own_la6 hw) (by decide) own_ty1 own_ty6))).other W4 (Or.inr (slot_ne (own_la14 hw) (own_la7 hw) (by decide) own_ty1 own_ty2)))
  have f17 := ((F_ob0_payload.other W1 (Or.inr (slot_ne (own_la15 hw) (own_la6 hw) (by decide) own_ty8 own_ty6))).other W4 (Or.inr (slot_ne (own_la15 hw) (own_la7 hw) (by decide) own_ty8 own_ty2)))
  refine ⟨_, _, g5 _ ?_, hrun, hended, _, _, rfl, ?_, ⟨_, rfl⟩, hW, hsame.mono (by decide) (by decide)⟩
  · show Steps p.tables e below (T4.setTop (mkF m 11 #[.val (.ref ob0), .val .null, .val .null] [(.ref ob0)])) _
    jvm_step X4.here [X4.here.top, hx, (hb hby own_d25_11), X4.method', Bd.returns, Value.isRef, FieldType.isReference]
    first | (intro acts; rw [hrt _ acts rfl rfl rfl]) | rw [hrt _ _ rfl rfl rfl]
    exact Steps.refl _
  · show own_Q_rmA36 Z ob0 ob0_kind ob0_priorCandidate ob0_priorNumber cs wf wK0 wK1 wK2 wK3 wL h0 n0 _ T4.heap _
    rw [e4]
    exact ⟨rfl, N4, (Keep.wr (Keep.wr (Keep.refl h0 [ob0]) W1 (Or.inl (List.mem_of_getElem? (i := 0) rfl))) W4 (Or.inl (List.mem_of_getElem? (i := 0) rfl))), f6, f7, f8, f9, Fw4, f10, f11, f12, f13, f14, f15, f16, f17⟩
theorem own_ef39 (m : MethodId) (x0 : Addr) (x2 : Addr) : entryFrame m #[(.ref x0), .null, (.ref x2)] 3 = mkF m 0 #[.val (.ref x0), .val .null, .val (.ref x2)] [] := by first | (simp [entryFrame, mkF, argsToLocals, Value.category]; done) | rfl
def own_Q_rmA37 (Z : State) (ob0 : Addr) (ob0_kind : Addr) (ob2 : Addr)  (cs : Int32) (wf : Value) (wK0 : Addr) (wK1 : Addr) (wK2 : Addr) (wK3 : Addr) (wL : Addr) (h0 : Heap) (n0 : Nat) (v : Option Value) (h : Heap) (L : List Loc) : Prop := v = some (.ref ob0) ∧ Fr n0 L ∧ Keep h0 h [ob0] ∧ Exa Z h ob0 "com/example/assemble_quorum/assemblequorum/io/Message$Builder" ∧ Fld Z h ob0 "com/example/assemble_quorum/assemblequorum/io/Message$Builder" "members" "Ljava/util/List;" (.ref wL) ∧ Fld Z h ob0 "com/example/assemble_quorum/assemblequorum/io/Message$Builder" "kind" "Lcom/example/assemble_quorum/assemblequorum/io/Message$Kind;" (.ref ob0_kind) ∧ Fld Z h ob0 "com/example/assemble_quorum/assemblequorum/io/Message$Builder" "priorNumber" "Lcom/example/assemble_quorum/assemblequorum/model/ProposalNumber;" .null ∧ Fld Z h ob0 "com/example/assemble_quorum/assemblequorum/io/Message$Builder" "priorCandidate" "Lcom/example/assemble_quorum/assemblequorum/model/MemberAddress;" (.ref ob2) ∧ Fld Z h ob0 "com/example/assemble_quorum/assemblequorum/io/Message$Builder" "sender" "Lcom/example/assemble_quorum/assemblequorum/model/MemberAddress;" .null ∧ Fld Z h ob0 "com/example/assemble_quorum/assemblequorum/io/Message$Builder" "leader" "Lcom/example/assemble_quorum/assemblequorum/model/MemberAddress;" .null ∧ Fld Z h ob0 "com/example/assemble_quorum/assemblequorum/io/Message$Builder" "version" "J" (.long (0 : Int64)) ∧ Fld Z h ob0 "com/example/assemble_quorum/assemblequorum/io/Message$Builder" "number" "Lcom/example/assemble_quorum/assemblequorum/model/ProposalNumber;" .null ∧ Fld Z h ob0 "com/example/assemble_quorum/assemblequorum/io/Message$Builder" "candidate" "Lcom/example/assemble_quorum/assemblequorum/model/MemberAddress;" .null ∧ Fld Z h ob0 "com/example/assemble_quorum/assemblequorum/io/Message$Builder" "granted" "Z" (.int (0 : Int32)) ∧ Fld Z h ob0 "com/example/assemble_quorum/assemblequorum/io/Message$Builder" "topic" "Ljava/lang/String;" .null ∧ Fld Z h ob0 "com/example/assemble_quorum/assemblequorum/io/Message$Builder" "payload" "[B" .null
set_option maxRecDepth 65536 in
set_option maxHeartbeats 40000000 in
theorem rmA37 (l : Launch) (Z : State) (a0 : Array Value) (hw : ∀ d ∈ tables_1, d.before a0 Z = true) (ws : List Jvm.Cond) (ob0 : Addr) (ob0_kind : Addr) (ob2 : Addr)  (cs : Int32) (wf : Value) (wK0 : Addr) (wK1 : Addr) (wK2 : Addr) (wK3 : Addr) (wL : Addr) (h0 : Heap) (n0 : Nat) (O0 : Old Z n0 h0) (G : own_Gl Z cs wf wK0 wK1 wK2 wK3 wL) (E_ob0 : Exa Z h0 ob0 "com/example/assemble_quorum/assemblequorum/io/Message$Builder") (F_ob0_candidate : Fld Z h0 ob0 "com/example/assemble_quorum/assemblequorum/io/Message$Builder" "candidate" "Lcom/example/assemble_quorum/assemblequorum/model/MemberAddress;" .null) (F_ob0_granted : Fld Z h0 ob0 "com/example/assemble_quorum/assemblequorum/io/Message$Builder" "granted" "Z" (.int (0 : Int32))) (F_ob0_kind : Fld Z h0 ob0 "com/example/assemble_quorum/assemblequorum/io/Message$Builder" "kind" "Lcom/example/assemble_quorum/assemblequorum/io/Message$Kind;" (.ref ob0_kind)) (F_ob0_leader : Fld Z h0 ob0 "com/example/assemble_quorum/assemblequorum/io/Message$Builder" "leader" "Lcom/example/assemble_quorum/assemblequorum/model/MemberAddress;" .null) (F_ob0_members : Fld Z h0 ob0 "com/example/assemble_quorum/assemblequorum/io/Message$Builder" "members" "Ljava/util/List;" (.ref wL)) (F_ob0_number : Fld Z h0 ob0 "com/example/assemble_quorum/assemblequorum/io/Message$Builder" "number" "Lcom/example/assemble_quorum/assemblequorum/model/ProposalNumber;" .null) (F_ob0_payload : Fld Z h0 ob0 "com/example/assemble_quorum/assemblequorum/io/Message$Builder" "payload" "[B" .null) (F_ob0_priorCandidate : Fld Z h0 ob0 "com/example/assemble_quorum/assemblequorum/io/Message$Builder" "priorCandidate" "Lcom/example/assemble_quorum/assemblequorum/model/MemberAddress;" .null) (F_ob0_priorNumber : Fld Z h0 ob0 "com/example/assemble_quorum/assemblequorum/io/Message$Builder" "priorNumber" "Lcom/example/assemble_quorum/assemblequorum/model/ProposalNumber;" .null) (F_ob0_sender : Fld Z h0 ob0 "com/example/assemble_quorum/assemblequorum/io/Message$Builder" "sender" "Lcom/example/assemble_quorum/assemblequorum/model/MemberAddress;" .null) (F_ob0_topic : Fld Z h0 ob0 "com/example/assemble_quorum/assemblequorum/io/Message$Builder" "topic" "Ljava/lang/String;" .null) (F_ob0_version : Fld Z h0 ob0 "com/example/assemble_quorum/assemblequorum/io/Message$Builder" "version" "J" (.long (0 : Int64))) (gz_ob0 : n0 ≤ ob0) :
    MetFree l own_y23 (head1 (Jvm.Cond.code own_y23 prog_18_method_8_code 3 (some (.object "com/example/assemble_quorum/assemblequorum/io/Message$Builder")) :: ws) ({ frames := 0, cells := 0, slots := 0, locals := 0 } : Room)) (fun a U => a = #[(.ref ob0), .null, (.ref ob2)] ∧ Z.Warmed39 U.vm ∧ U.heap = h0) (fun _ _ _ _ _ => True) (fun _ U o U' => ∃ v L, o = .returned v ∧ own_Q_rmA37 Z ob0 ob0_kind ob2 cs wf wK0 wK1 wK2 wK3 wL h0 n0 v U'.heap L ∧ FrameEnd U o U' L ({ frames := 0, cells := 0, slots := 0, locals := 0 } : Room).cells ({ frames := 0, cells := 0, slots := 0, locals := 0 } : Room).slots) := by
  refine MetFree.of_bodySF (plainFor_of_name own_pn7) hisR ?_
  intro p e s m args below meth c s₁ Bd hml0 hP hK
  obtain ⟨rfl, hZ, hh⟩ := hP
  have hx := Bd.exec
  have hby := Bd.bytes
  have hml : c.maxLocals = 3 := hml0
  have hown : s.vm.findClass "com/example/assemble_quorum/assemblequorum/io/Message$Builder" = some m.cls := findClass_of_methodNamed Bd.named
  have hnm := (name_of_methodNamed Bd.named Bd.method).1
  have X0 : Stand p l e ({ frames := 0, cells := 0, slots := 0, locals := 0 } : Room) s m #[(.ref ob0), .null, (.ref ob2)] below meth c s₁ [] 0 0 := Stand.of_body Bd
  have e0 : s₁.heap = h0 := by rw [← hh, Bd.state]; rfl
  have N0 := Fr.nil n0
  have Z0 : n0 ≤ h0.size := O0.1 ▸ O0.2.1
  have g0 : ∀ t, Steps p.tables e below (s₁.setTop (mkF m 0 #[.val (.ref ob0), .val .null, .val (.ref ob2)] [])) t → Steps p.tables e below (s₁.setTop (entryFrame m #[(.ref ob0), .null, (.ref ob2)] 3)) t := fun t k => castTop (own_ef39 m (ob0) (ob2)) k
  have G0 := G
  obtain ⟨S_CS, hcs, S_WF, hwf, S_PROPOSAL_ANSWER, S_HELLO, S_EVENT, S_PING, S_L, Ex_L, Fa_L⟩ := G
  obtain ⟨T1, h1, X1, e1, W1, st1⟩ := putF X0 hx hZ hown (host := "") (Or.inl (own_w hw 144 rfl)) Via.refl e0 F_ob0_priorNumber E_ob0 (Or.inl (own_w hw 145 rfl)) (own_w hw 123 rfl) (ty := (.object "com/example/assemble_quorum/assemblequorum/model/ProposalNumber")) (by decide) rfl rfl (g := (mkF m 2 #[.val (.ref ob0), .val .null, .val (.ref ob2)] [.null, (.ref ob0)])) rfl rfl (hb hby own_d25_2)
  have Fw1 := F_ob0_priorNumber.same W1
  have N1 := Fr.snoc X1 N0 gz_ob0
  have f2 := (E_ob0.wr W1)
  have f3 := (F_ob0_priorCandidate.other W1 (Or.inr (slot_ne (own_la7 hw) (own_la6 hw) (by decide) own_ty2 own_ty6)))
  obtain ⟨T4, h4, X4, e4, W4, st4⟩ := putF X1 hx hZ hown (host := "") (Or.inl (own_w hw 146 rfl)) Via.refl e1 f3 f2 (Or.inl (own_w hw 147 rfl)) (own_w hw 123 rfl) (ty := (.object "com/example/assemble_quorum/assemblequorum/model/MemberAddress")) (by decide) rfl rfl (g := (mkF m 7 #[.val (.ref ob0), .val .null, .val (.ref ob2)] [(.ref ob2), (.ref ob0)])) rfl rfl (hb hby own_d25_7)
  have Fw4 := f3.same W4
  have N4 := Fr.snoc X4 N1 gz_ob0
  have g5 : ∀ t, Steps p.tables e below (T4.setTop (mkF m 11 #[.val (.ref ob0), .val .null, .val (.ref ob2)] [(.ref ob0)])) t → Steps p.tables e below (s₁.setTop (entryFrame m #[(.ref ob0), .null, (.ref ob2)] 3)) t := by
    intro t k
    refine g0 t ?_
    show Steps p.tables e below (s₁.setTop (mkF m 0 #[.val (.ref ob0), .val .null, .val (.ref ob2)] [])) _
    refine XS.aloadN X0.here hx rfl (hb hby own_d25_0) rfl rfl ?_
    refine XS.aloadN X0.here hx rfl (hb hby own_d25_1) rfl rfl ?_
    refine st1 _ ?_
    refine XS.aloadN X1.here hx rfl (hb hby own_d25_5) rfl rfl ?_
    refine XS.aloadN X1.here hx rfl (hb hby own_d25_6) rfl rfl ?_
    refine st4 _ ?_
    refine XS.aloadN X4.here hx rfl (hb hby own_d25_10) rfl rfl ?_
    exact k
  obtain ⟨fs, hrt, hrun, hended, hW, hsame⟩ := X4.leave (v := some (.ref ob0)) (fun h => by rw [Bd.returns] at h; cases h)
  have f6 := (f2.wr W4)
  have f7 := ((F_ob0_members.other W1 (Or.inr (slot_ne (own_la5 hw) (own_la6 hw) (by decide) own_ty5 own_ty6))).other W4 (Or.inr (slot_ne (own_la5 hw) (own_la7 hw) (by decide) own_ty5 own_ty2)))
  have f8 := ((F_ob0_kind.other W1 (Or.inr (slot_ne (own_la4 hw) (own_la6 hw) (by decide) own_ty4 own_ty6))).other W4 (Or.inr (slot_ne (own_la4 hw) (own_la7 hw) (by decide) own_ty4 own_ty2)))
  have f9 := (Fw1.other W4 (Or.inr (slot_ne (own_la6 hw) (own_la7 hw) (by decide) own_ty6 own_ty2)))
  have f10 := ((F_ob0_sender.other W1 (Or.inr (slot_ne (own_la8 hw) (own_la6 hw) (by decide) own_ty2 own_ty6))).other W4 (Or.inr (slot_ne (own_la8 hw) (own_la7 hw) (by decide) own_ty2 own_ty2)))
  have f11 := ((F_ob0_leader.other W1 (Or.inr (slot_ne (own_la9 hw) (own_la6 hw) (by decide) own_ty2 own_ty6))).other W4 (Or.inr (slot_ne (own_la9 hw) (own_la7 hw) (by decide) own_ty2 own_ty2)))
  have f12 := ((F_ob0_version.other W1 (Or.inr (slot_ne (own_la10 hw) (own_la6 hw) (by decide) own_ty3 own_ty6))).other W4 (Or.inr (slot_ne (own_la10 hw) (own_la7 hw) (by decide) own_ty3 own_ty2)))
  have f13 := ((F_ob0_number.other W1 (Or.inr (slot_ne (own_la11 hw) (own_la6 hw) (by decide) own_ty6 own_ty6))).other W4 (Or.inr (slot_ne (own_la11 hw) (own_la7 hw) (by decide) own_ty6 own_ty2)))
  have f14 := ((F_ob0_candidate.other W1 (Or.inr (slot_ne (own_la12 hw) (own_la6 hw) (by decide) own_ty2 own_ty6))).other W4 (Or.inr (slot_ne (own_la12 hw) (own_la7 hw) (by decide) own_ty2 own_ty2)))
  have f15 := ((F_ob0_granted.other W1 (Or.inr (slot_ne (own_la13 hw) (own_la6 hw) (by decide) own_ty7 own_ty6))).other W4 (Or.inr (slot_ne (own_la13 hw) (own_la7 hw) (by decide) own_ty7 own_ty2)))
  have f16 := ((F_ob0_topic.other W1 (Or.inr (slot_ne (own_la14 hw) (own_la6 hw) (by decide) own_ty1 own_ty6))).other W4 (Or.inr (slot_ne (own_la14 hw) (own_la7 hw) (by decide) own_ty1 own_ty2)))
  have f17 := ((F_ob0_payload.other W1 (Or.inr (slot_ne (own_la15 hw) (own_la6 hw) (by decide) own_ty8 own_ty6))).other W4 (Or.inr (slot_ne (own_la15 hw) (own_la7 hw) (by decide) own_ty8 own_ty2)))
  refine ⟨_, _, g5 _ ?_, hrun, hended, _, _, rfl, ?_, ⟨_, rfl⟩, hW, hsame.mono (by decide) (by decide)⟩
  · show Steps p.tables e below (T4.setTop (mkF m 11 #[.val (.ref ob0), .val .null, .val (.ref ob2)] [(.ref ob0)])) _
    jvm_step X4.here [X4.here.top, hx, (hb hby own_d25_11), X4.method', Bd.returns, Value.isRef, FieldType.isReference]
    first | (intro acts; rw [hrt _ acts rfl rfl rfl]) | rw [hrt _ _ rfl rfl rfl]
    exact Steps.refl _
  · show own_Q_rmA37 Z ob0 ob0_kind ob2 cs wf wK0 wK1 wK2 wK3 wL h0 n0 _ T4.heap _
    rw [e4]
    exact ⟨rfl, N4, (Keep.wr (Keep.wr (Keep.refl h0 [ob0]) W1 (Or.inl (List.mem_of_getElem? (i := 0) rfl))) W4 (Or.inl (List.mem_of_getElem? (i := 0) rfl))), f6, f7, f8, f9, Fw4, f10, f11, f12, f13, f14, f15, f16, f17⟩
theorem own_ef40 (m : MethodId) (x0 : Addr) : entryFrame m #[(.ref x0)] 1 = mkF m 0 #[.val (.ref x0)] [] := by first | (simp [entryFrame, mkF, argsToLocals, Value.category]; done) | rfl
theorem own_ef41 (m : MethodId) (x0 : Addr) (x1 : Addr) : entryFrame m #[(.ref x0), (.ref x1)] 2 = mkF m 0 #[.val (.ref x0), .val (.ref x1)] [] := by first | (simp [entryFrame, mkF, argsToLocals, Value.category]; done) | rfl
def own_Q_rmA39 (Z : State) (ob0 : Addr) (ob1 : Addr) (ob1_kind : Addr) (ob1_priorCandidate : Addr)  (cs : Int32) (wf : Value) (wK0 : Addr) (wK1 : Addr) (wK2 : Addr) (wK3 : Addr) (wL : Addr) (h0 : Heap) (n0 : Nat) (v : Option Value) (h : Heap) (L : List Loc) : Prop := v = none ∧ Fr n0 L ∧ Keep h0 h [ob0] ∧ Exa Z h ob0 "com/example/assemble_quorum/assemblequorum/io/Message" ∧ Fld Z h ob0 "com/example/assemble_quorum/assemblequorum/io/Message" "kind" "Lcom/example/assemble_quorum/assemblequorum/io/Message$Kind;" (.ref ob1_kind) ∧ Fld Z h ob0 "com/example/assemble_quorum/assemblequorum/io/Message" "priorNumber" "Lcom/example/assemble_quorum/assemblequorum/model/ProposalNumber;" .null ∧ Fld Z h ob0 "com/example/assemble_quorum/assemblequorum/io/Message" "priorCandidate" "Lcom/example/assemble_quorum/assemblequorum/model/MemberAddress;" (.ref ob1_priorCandidate) ∧ Fld Z h ob0 "com/example/assemble_quorum/assemblequorum/io/Message" "number" "Lcom/example/assemble_quorum/assemblequorum/model/ProposalNumber;" .null ∧ Fld Z h ob0 "com/example/assemble_quorum/assemblequorum/io/Message" "candidate" "Lcom/example/assemble_quorum/assemblequorum/model/MemberAddress;" .null ∧ Fld Z h ob0 "com/example/assemble_quorum/assemblequorum/io/Message" "leader" "Lcom/example/assemble_quorum/assemblequorum/model/MemberAddress;" .null
set_option maxRecDepth 65536 in
set_option maxHeartbeats 40000000 in
theorem rmA39 (l : Launch) (Z : State) (a0 : Array Value) (hw : ∀ d ∈ tables_1, d.before a0 Z = true) (ws : List Jvm.Cond) (ob0 : Addr) (ob1 : Addr) (ob1_kind : Addr) (ob1_priorCandidate : Addr)  (cs : Int32) (wf : Value) (wK0 : Addr) (wK1 : Addr) (wK2 : Addr) (wK3 : Addr) (wL : Addr) (h0 : Heap) (n0 : Nat) (O0 : Old Z n0 h0) (G : own_Gl Z cs wf wK0 wK1 wK2 wK3 wL) (E_ob0 : Exa Z h0 ob0 "com/example/assemble_quorum/assemblequorum/io/Message") (F_ob0_candidate : Fld Z h0 ob0 "com/example/assemble_quorum/assemblequorum/io/Message" "candidate" "Lcom/example/assemble_quorum/assemblequorum/model/MemberAddress;" .null) (F_ob0_granted : Fld Z h0 ob0 "com/example/assemble_quorum/assemblequorum/io/Message" "granted" "Z" (.int (0 : Int32))) (F_ob0_kind : Fld Z h0 ob0 "com/example/assemble_quorum/assemblequorum/io/Message" "kind" "Lcom/example/assemble_quorum/assemblequorum/io/Message$Kind;" .null) (F_ob0_leader : Fld Z h0 ob0 "com/example/assemble_quorum/assemblequorum/io/Message" "leader" "Lcom/example/assemble_quorum/assemblequorum/model/MemberAddress;" .null) (F_ob0_members : Fld Z h0 ob0 "com/example/assemble_quorum/assemblequorum/io/Message" "members" "Ljava/util/List;" .null) (F_ob0_number : Fld Z h0 ob0 "com/example/assemble_quorum/assemblequorum/io/Message" "number" "Lcom/example/assemble_quorum/assemblequorum/model/ProposalNumber;" .null) (F_ob0_payload : Fld Z h0 ob0 "com/example/assemble_quorum/assemblequorum/io/Message" "payload" "[B" .null) (F_ob0_priorCandidate : Fld Z h0 ob0 "com/example/assemble_quorum/assemblequorum/io/Message" "priorCandidate" "Lcom/example/assemble_quorum/assemblequorum/model/MemberAddress;" .null) (F_ob0_priorNumber : Fld Z h0 ob0 "com/example/assemble_quorum/assemblequorum/io/Message" "priorNumber" "Lcom/example/assemble_quorum/assemblequorum/model/ProposalNumber;" .null) (F_ob0_sender : Fld Z h0 ob0 "com/example/assemble_quorum/assemblequorum/io/Message" "sender" "Lcom/example/assemble_quorum/assemblequorum/model/MemberAddress;" .null) (F_ob0_topic : Fld Z h0 ob0 "com/example/assemble_quorum/assemblequorum/io/Message" "topic" "Ljava/lang/String;" .null) (F_ob0_version : Fld Z h0 ob0 "com/example/assemble_quorum/assemblequorum/io/Message" "version" "J" (.long (0 : Int64))) (E_ob1 : Exa Z h0 ob1 "com/example/assemble_quorum/assemblequorum/io/Message$Builder") (F_ob1_candidate : Fld Z h0 ob1 "com/example/assemble_quorum/assemblequorum/io/Message$Builder" "candidate" "Lcom/example/assemble_quorum/assemblequorum/model/MemberAddress;" .null) (F_ob1_granted : Fld Z h0 ob1 "com/example/assemble_quorum/assemblequorum/io/Message$Builder" "granted" "Z" (.int (0 : Int32))) (F_ob1_kind : Fld Z h0 ob1 "com/example/assemble_quorum/assemblequorum/io/Message$Builder" "kind" "Lcom/example/assemble_quorum/assemblequorum/io/Message$Kind;" (.ref ob1_kind)) (F_ob1_leader : Fld Z h0 ob1 "com/example/assemble_quorum/assemblequorum/io/Message$Builder" "leader" "Lcom/example/assemble_quorum/assemblequorum/model/MemberAddress;" .null) (F_ob1_members : Fld Z h0 ob1 "com/example/assemble_quorum/assemblequorum/io/Message$Builder" "members" "Ljava/util/List;" (.ref wL)) (F_ob1_number : Fld Z h0 ob1 "com/example/assemble_quorum/assemblequorum/io/Message$Builder" "number" "Lcom/example/assemble_quorum/assemblequorum/model/ProposalNumber;" .null) (F_ob1_payload : Fld Z h0 ob1 "com/example/assemble_quorum/assemblequorum/io/Message$Builder" "payload" "[B" .null) (F_ob1_priorCandidate : Fld Z h0 ob1 "com/example/assemble_quorum/assemblequorum/io/Message$Builder" "priorCandidate" "Lcom/example/assemble_quorum/assemblequorum/model/MemberAddress;" (.ref ob1_priorCandidate)) (F_ob1_priorNumber : Fld Z h0 ob1 "com/example/assemble_quorum/assemblequorum/io/Message$Builder" "priorNumber" "Lcom/example/assemble_quorum/assemblequorum/model/ProposalNumber;" .null) (F_ob1_sender : Fld Z h0 ob1 "com/example/assemble_quorum/assemblequorum/io/Message$Builder" "sender" "Lcom/example/assemble_quorum/assemblequorum/model/MemberAddress;" .null) (F_ob1_topic : Fld Z h0 ob1 "com/example/assemble_quorum/assemblequorum/io/Message$Builder" "topic" "Ljava/lang/String;" .null) (F_ob1_version : Fld Z h0 ob1 "com/example/assemble_quorum/assemblequorum/io/Message$Builder" "version" "J" (.long (0 : Int64))) (gz_ob0 : n0 ≤ ob0) :
    MetFree l own_y25 (head1 (Jvm.Cond.code own_y25 prog_17_method_1_code 2 none :: ws) ({ frames := 2, cells := 0, slots := 0, locals := 26 } : Room)) (fun a U => a = #[(.ref ob0), (.ref ob1)] ∧ Z.Warmed39 U.vm ∧ U.heap = h0) (fun _ _ _ _ _ => True) (fun _ U o U' => ∃ v L, o = .returned v ∧ own_Q_rmA39 Z ob0 ob1 ob1_kind ob1_priorCandidate cs wf wK0 wK1 wK2 wK3 wL h0 n0 v U'.heap L ∧ FrameEnd U o U' L ({ frames := 2, cells := 0, slots := 0, locals := 26 } : Room).cells ({ frames := 2, cells := 0, slots := 0, locals := 26 } : Room).slots) := by
  refine MetFree.of_bodySF (plainFor_of_name own_pn9) hisR ?_
  intro p e s m args below meth c s₁ Bd hml0 hP hK
  obtain ⟨rfl, hZ, hh⟩ := hP
  have hx := Bd.exec
  have hby := Bd.bytes
  have hml : c.maxLocals = 2 := hml0
  have hown : s.vm.findClass "com/example/assemble_quorum/assemblequorum/io/Message" = some m.cls := findClass_of_methodNamed Bd.named
  have hnm := (name_of_methodNamed Bd.named Bd.method).1
  have X0 : Stand p l e ({ frames := 2, cells := 0, slots := 0, locals := 26 } : Room) s m #[(.ref ob0), (.ref ob1)] below meth c s₁ [] 0 0 := Stand.of_body Bd
  have e0 : s₁.heap = h0 := by rw [← hh, Bd.state]; rfl
  have N0 := Fr.nil n0
  have Z0 : n0 ≤ h0.size := O0.1 ▸ O0.2.1
  have g0 : ∀ t, Steps p.tables e below (s₁.setTop (mkF m 0 #[.val (.ref ob0), .val (.ref ob1)] [])) t → Steps p.tables e below (s₁.setTop (entryFrame m #[(.ref ob0), (.ref ob1)] 2)) t := fun t k => castTop (own_ef41 m (ob0) (ob1)) k
  have G0 := G
  obtain ⟨S_CS, hcs, S_WF, hwf, S_PROPOSAL_ANSWER, S_HELLO, S_EVENT, S_PING, S_L, Ex_L, Fa_L⟩ := G
  obtain ⟨T1, X1, e1, st1⟩ := initO X0 hx hZ hown (own_w hw 159 rfl) (own_w hw 16 rfl) (own_w hw 17 rfl) e0 (g := (mkF m 1 #[.val (.ref ob0), .val (.ref ob1)] [(.ref ob0)])) rfl (by rw [hml]; rfl) rfl (hb hby own_d27_1) (by decide) (W := 0) (by show 2 * 0 + _ ≤ _; exact Nat.le_of_eq rfl) (by decide)
  obtain ⟨T2, X2, e2, st2⟩ := own_getR X1 hx hZ hown (own_w hw 160 rfl) e1 F_ob1_kind (g := (mkF m 6 #[.val (.ref ob0), .val (.ref ob1)] [(.ref ob1), (.ref ob0)])) rfl rfl (hb hby own_d27_6)
  obtain ⟨T3, h3, X3, e3, W3, st3⟩ := putF X2 hx hZ hown (host := "") (Or.inl (own_w hw 161 rfl)) Via.refl e2 F_ob0_kind E_ob0 (Or.inr ⟨(own_w hw 162 rfl), rfl, hnm⟩) (own_w hw 154 rfl) (ty := (.object "com/example/assemble_quorum/assemblequorum/io/Message$Kind")) (by decide) rfl rfl (g := (mkF m 9 #[.val (.ref ob0), .val (.ref ob1)] [(.ref ob1_kind), (.ref ob0)])) rfl rfl (hb hby own_d27_9)
  have Fw3 := F_ob0_kind.same W3
  have N3 := Fr.snoc X3 N0 gz_ob0
  have f4 := (F_ob1_sender.other W3 (Or.inl (Exa.ne E_ob1 E_ob0 (by decide))))
  obtain ⟨T5, X5, e5, st5⟩ := own_getR X3 hx hZ hown (own_w hw 163 rfl) e3 f4 (g := (mkF m 14 #[.val (.ref ob0), .val (.ref ob1)] [(.ref ob1), (.ref ob0)])) rfl rfl (hb hby own_d27_14)
  have f6 := (E_ob0.wr W3)
  have f7 := (F_ob0_sender.other W3 (Or.inr (slot_ne (own_la16 hw) (own_la17 hw) (by decide) own_ty2 own_ty4)))
  obtain ⟨T8, h8, X8, e8, W8, st8⟩ := putF X5 hx hZ hown (host := "") (Or.inl (own_w hw 165 rfl)) Via.refl e5 f7 f6 (Or.inr ⟨(own_w hw 166 rfl), rfl, hnm⟩) (own_w hw 154 rfl) (ty := (.object "com/example/assemble_quorum/assemblequorum/model/MemberAddress")) (by decide) rfl rfl (g := (mkF m 17 #[.val (.ref ob0), .val (.ref ob1)] [.null, (.ref ob0)])) rfl rfl (hb hby own_d27_17)
  have Fw8 := f7.same W8
  have N8 := Fr.snoc X8 N3 gz_ob0
  have f9 := ((F_ob1_leader.other W3 (Or.inl (Exa.ne E_ob1 E_ob0 (by decide)))).other W8 (Or.inl (Exa.ne (E_ob1.wr W3) f6 (by decide))))
  obtain ⟨T10, X10, e10, st10⟩ := own_getR X8 hx hZ hown (own_w hw 167 rfl) e8 f9 (g := (mkF m 22 #[.val (.ref ob0), .val (.ref ob1)] [(.ref ob1), (.ref ob0)])) rfl rfl (hb hby own_d27_22)
  have f11 := (f6.wr W8)
  have f12 := ((F_ob0_leader.other W3 (Or.inr (slot_ne (own_la18 hw) (own_la17 hw) (by decide) own_ty2 own_ty4))).other W8 (Or.inr (slot_ne (own_la18 hw) (own_la16 hw) (by decide) own_ty2 own_ty2)))
  obtain ⟨T13, h13, X13, e13, W13, st13⟩ := putF X10 hx hZ hown (host := "") (Or.inl (own_w hw 169 rfl)) Via.refl e10 f12 f11 (Or.inr ⟨(own_w hw 170 rfl), rfl, hnm⟩) (own_w hw 154 rfl) (ty := (.object "com/example/assemble_quorum/assemblequorum/model/MemberAddress")) (by decide) rfl rfl (g := (mkF m 25 #[.val (.ref ob0), .val (.ref ob1)] [.null, (.ref ob0)])) rfl rfl (hb hby own_d27_25)
  have Fw13 := f12.same W13
  have N13 := Fr.snoc X13 N8 gz_ob0
  have f14 := (((F_ob1_version.other W3 (Or.inl (Exa.ne E_ob1 E_ob0 (by decide)))).other W8 (Or.inl (Exa.ne (E_ob1.wr W3) f6 (by decide)))).other W13 (Or.inl (Exa.ne ((E_ob1.wr W3).wr W8) f11 (by decide))))
  obtain ⟨T15, X15, e15, st15⟩ := own_getR X13 hx hZ hown (own_w hw 171 rfl) e13 f14 (g := (mkF m 30 #[.val (.ref ob0), .val (.ref ob1)] [(.ref ob1), (.ref ob0)])) rfl rfl (hb hby own_d27_30)
  have f16 := (f11.wr W13)
  have f17 := (((F_ob0_version.other W3 (Or.inr (slot_ne (own_la19 hw) (own_la17 hw) (by decide) own_ty3 own_ty4))).other W8 (Or.inr (slot_ne (own_la19 hw) (own_la16 hw) (by decide) own_ty3 own_ty2))).other W13 (Or.inr (slot_ne (own_la19 hw) (own_la18 hw) (by decide) own_ty3 own_ty2)))
  obtain ⟨T18, h18, X18, e18, W18, st18⟩ := putF X15 hx hZ hown (host := "") (Or.inl (own_w hw 173 rfl)) Via.refl e15 f17 f16 (Or.inr ⟨(own_w hw 174 rfl), rfl, hnm⟩) (own_w hw 154 rfl) (ty := .long) (by decide) rfl rfl (g := (mkF m 33 #[.val (.ref ob0), .val (.ref ob1)] [(.long (0 : Int64)), (.ref ob0)])) rfl rfl (hb hby own_d27_33)
  have Fw18 := f17.same W18
  have N18 := Fr.snoc X18 N13 gz_ob0
  have f19 := ((((F_ob1_number.other W3 (Or.inl (Exa.ne E_ob1 E_ob0 (by decide)))).other W8 (Or.inl (Exa.ne (E_ob1.wr W3) f6 (by decide)))).other W13 (Or.inl (Exa.ne ((E_ob1.wr W3).wr W8) f11 (by decide)))).other W18 (Or.inl (Exa.ne (((E_ob1.wr W3).wr W8).wr W13) f16 (by decide))))
  obtain ⟨T20, X20, e20, st20⟩ := own_getR X18 hx hZ hown (own_w hw 175 rfl) e18 f19 (g := (mkF m 38 #[.val (.ref ob0), .val (.ref ob1)] [(.ref ob1), (.ref ob0)])) rfl rfl (hb hby own_d27_38)
  have f21 := (f16.wr W18)
  have f22 := ((((F_ob0_number.other W3 (Or.inr (slot_ne (own_la20 hw) (own_la17 hw) (by decide) own_ty6 own_ty4))).other W8 (Or.inr (slot_ne (own_la20 hw) (own_la16 hw) (by decide) own_ty6 own_ty2))).other W13 (Or.inr (slot_ne (own_la20 hw) (own_la18 hw) (by decide) own_ty6 own_ty2))).other W18 (Or.inr (slot_ne (own_la20 hw) (own_la19 hw) (by decide) own_ty6 own_ty3)))
  obtain ⟨T23, h23, X23, e23, W23, st23⟩ := putF X20 hx hZ hown (host := "") (Or.inl (own_w hw 177 rfl)) Via.refl e20 f22 f21 (Or.inr ⟨(own_w hw 178 rfl), rfl, hnm⟩) (own_w hw 154 rfl) (ty := (.object "com/example/assemble_quorum/assemblequorum/model/ProposalNumber")) (by decide) rfl rfl (g := (mkF m 41 #[.val (.ref ob0), .val (.ref ob1)] [.null, (.ref ob0)])) rfl rfl (hb hby own_d27_41)
  have Fw23 := f22.same W23
  have N23 := Fr.snoc X23 N18 gz_ob0
  have f24 := (((((F_ob1_candidate.other W3 (Or.inl (Exa.ne E_ob1 E_ob0 (by decide)))).other W8 (Or.inl (Exa.ne (E_ob1.wr W3) f6 (by decide)))).other W13 (Or.inl (Exa.ne ((E_ob1.wr W3).wr W8) f11 (by decide)))).other W18 (Or.inl (Exa.ne (((E_ob1.wr W3).wr W8).wr W13) f16 (by decide)))).other W23 (Or.inl (Exa.ne ((((E_ob1.wr W3).wr W8).wr W13).wr W18) f21 (by decide))))
  obtain ⟨T25, X25, e25, st25⟩ := own_getR X23 hx hZ hown (own_w hw 179 rfl) e23 f24 (g := (mkF m 46 #[.val (.ref ob0), .val (.ref ob1)] [(.ref ob1), (.ref ob0)])) rfl rfl (hb hby own_d27_46)
  have f26 := (f21.wr W23)
  have f27 := (((((F_ob0_candidate.other W3 (Or.inr (slot_ne (own_la21 hw) (own_la17 hw) (by decide) own_ty2 own_ty4))).other W8 (Or.inr (slot_ne (own_la21 hw) (own_la16 hw) (by decide) own_ty2 own_ty2))).other W13 (Or.inr (slot_ne (own_la21 hw) (own_la18 hw) (by decide) own_ty2 own_ty2))).other W18 (Or.inr (slot_ne (own_la21 hw) (own_la19 hw) (by decide) own_ty2 own_ty3))).other W23 (Or.inr (slot_ne (own_la21 hw) (own_la20 hw) (by decide) own_ty2 own_ty6)))
  obtain ⟨T28, h28, X28, e28, W28, st28⟩ := putF X25 hx hZ hown (host := "") (Or.inl (own_w hw 181 rfl)) Via.refl e25 f27 f26 (Or.inr ⟨(own_w hw 182 rfl), rfl, hnm⟩) (own_w hw 154 rfl) (ty := (.object "com/example/assemble_quorum/assemblequorum/model/MemberAddress")) (by decide) rfl rfl (g := (mkF m 49 #[.val (.ref ob0), .val (.ref ob1)] [.null, (.ref ob0)])) rfl rfl (hb hby own_d27_49)
  have Fw28 := f27.same W28
  have N28 := Fr.snoc X28 N23 gz_ob0
  have f29 := ((((((F_ob1_granted.other W3 (Or.inl (Exa.ne E_ob1 E_ob0 (by decide)))).other W8 (Or.inl (Exa.ne (E_ob1.wr W3) f6 (by decide)))).other W13 (Or.inl (Exa.ne ((E_ob1.wr W3).wr W8) f11 (by decide)))).other W18 (Or.inl (Exa.ne (((E_ob1.wr W3).wr W8).wr W13) f16 (by decide)))).other W23 (Or.inl (Exa.ne ((((E_ob1.wr W3).wr W8).wr W13).wr W18) f21 (by decide)))).other W28 (Or.inl (Exa.ne (((((E_ob1.wr W3).wr W8).wr W13).wr W18).wr W23) f26 (by decide))))
  obtain ⟨T30, X30, e30, st30⟩ := own_getR X28 hx hZ hown (own_w hw 183 rfl) e28 f29 (g := (mkF m 54 #[.val (.ref ob0), .val (.ref ob1)] [(.ref ob1), (.ref ob0)])) rfl rfl (hb hby own_d27_54)
  have f31 := (f26.wr W28)
  have f32 := ((((((F_ob0_granted.other W3 (Or.inr (slot_ne (own_la22 hw) (own_la17 hw) (by decide) own_ty7 own_ty4))).other W8 (Or.inr (slot_ne (own_la22 hw) (own_la16 hw) (by decide) own_ty7 own_ty2))).other W13 (Or.inr (slot_ne (own_la22 hw) (own_la18 hw) (by decide) own_ty7 own_ty2))).other W18 (Or.inr (slot_ne (own_la22 hw) (own_la19 hw) (by decide) own_ty7 own_ty3))).other W23 (Or.inr (slot_ne (own_la22 hw) (own_la20 hw) (by decide) own_ty7 own_ty6))).other W28 (Or.inr (slot_ne (own_la22 hw) (own_la21 hw) (by decide) own_ty7 own_ty2)))
  obtain ⟨T33, h33, X33, e33, W33, st33⟩ := putFN X30 hx hZ hown (own_w hw 185 rfl) Via.refl e30 f32 f31 (Or.inr ⟨(own_w hw 186 rfl), rfl, hnm⟩) (own_w hw 154 rfl) (ty := .boolean) (v' := (.int (0 : Int32))) (by decide) rfl rfl (g := (mkF m 57 #[.val (.ref ob0), .val (.ref ob1)] [(.int (0 : Int32)), (.ref ob0)])) rfl rfl (hb hby own_d27_57)
  have Fw33 := f32.same W33
  have N33 := Fr.snoc X33 N28 gz_ob0
  have f34 := (((((((F_ob1_priorNumber.other W3 (Or.inl (Exa.ne E_ob1 E_ob0 (by decide)))).other W8 (Or.inl (Exa.ne (E_ob1.wr W3) f6 (by decide)))).other W13 (Or.inl (Exa.ne ((E_ob1.wr W3).wr W8) f11 (by decide)))).other W18 (Or.inl (Exa.ne (((E_ob1.wr W3).wr W8).wr W13) f16 (by decide)))).other W23 (Or.inl (Exa.ne ((((E_ob1.wr W3).wr W8).wr W13).wr W18) f21 (by decide)))).other W28 (Or.inl (Exa.ne (((((E_ob1.wr W3).wr W8).wr W13).wr W18).wr W23) f26 (by decide)))).other W33 (Or.inl (Exa.ne ((((((E_ob1.wr W3).wr W8).wr W13).wr W18).wr W23).wr W28) f31 (by decide))))
  obtain ⟨T35, X35, e35, st35⟩ := own_getR X33 hx hZ hown (own_w hw 187 rfl) e33 f34 (g := (mkF m 62 #[.val (.ref ob0), .val (.ref ob1)] [(.ref ob1), (.ref ob0)])) rfl rfl (hb hby own_d27_62)
  have f36 := (f31.wr W33)
  have f37 := (((((((F_ob0_priorNumber.other W3 (Or.inr (slot_ne (own_la23 hw) (own_la17 hw) (by decide) own_ty6 own_ty4))).other W8 (Or.inr (slot_ne (own_la23 hw) (own_la16 hw) (by decide) own_ty6 own_ty2))).other W13 (Or.inr (slot_ne (own_la23 hw) (own_la18 hw) (by decide) own_ty6 own_ty2))).other W18 (Or.inr (slot_ne (own_la23 hw) (own_la19 hw) (by decide) own_ty6 own_ty3))).other W23 (Or.inr (slot_ne (own_la23 hw) (own_la20 hw) (by decide) own_ty6 own_ty6))).other W28 (Or.inr (slot_ne (own_la23 hw) (own_la21 hw) (by decide) own_ty6 own_ty2))).other W33 (Or.inr (slot_ne (own_la23 hw) (own_la22 hw) (by decide) own_ty6 own_ty7)))
  obtain ⟨T38, h38, X38, e38, W38, st38⟩ := putF X35 hx hZ hown (host := "") (Or.inl (own_w hw 188 rfl)) Via.refl e35 f37 f36 (Or.inr ⟨(own_w hw 189 rfl), rfl, hnm⟩) (own_w hw 154 rfl) (ty := (.object "com/example/assemble_quorum/assemblequorum/model/ProposalNumber")) (by decide) rfl rfl (g := (mkF m 65 #[.val (.ref ob0), .val (.ref ob1)] [.null, (.ref ob0)])) rfl rfl (hb hby own_d27_65)
  have Fw38 := f37.same W38
  have N38 := Fr.snoc X38 N33 gz_ob0
  have f39 := ((((((((F_ob1_priorCandidate.other W3 (Or.inl (Exa.ne E_ob1 E_ob0 (by decide)))).other W8 (Or.inl (Exa.ne (E_ob1.wr W3) f6 (by decide)))).other W13 (Or.inl (Exa.ne ((E_ob1.wr W3).wr W8) f11 (by decide)))).other W18 (Or.inl (Exa.ne (((E_ob1.wr W3).wr W8).wr W13) f16 (by decide)))).other W23 (Or.inl (Exa.ne ((((E_ob1.wr W3).wr W8).wr W13).wr W18) f21 (by decide)))).other W28 (Or.inl (Exa.ne (((((E_ob1.wr W3).wr W8).wr W13).wr W18).wr W23) f26 (by decide)))).other W33 (Or.inl (Exa.ne ((((((E_ob1.wr W3).wr W8).wr W13).wr W18).wr W23).wr W28) f31 (by decide)))).other W38 (Or.inl (Exa.ne (((((((E_ob1.wr W3).wr W8).wr W13).wr W18).wr W23).wr W28).wr W33) f36 (by decide))))
  obtain ⟨T40, X40, e40, st40⟩ := own_getR X38 hx hZ hown (own_w hw 190 rfl) e38 f39 (g := (mkF m 70 #[.val (.ref ob0), .val (.ref ob1)] [(.ref ob1), (.ref ob0)])) rfl rfl (hb hby own_d27_70)
  have f41 := (f36.wr W38)
  have f42 := ((((((((F_ob0_priorCandidate.other W3 (Or.inr (slot_ne (own_la24 hw) (own_la17 hw) (by decide) own_ty2 own_ty4))).other W8 (Or.inr (slot_ne (own_la24 hw) (own_la16 hw) (by decide) own_ty2 own_ty2))).other W13 (Or.inr (slot_ne (own_la24 hw) (own_la18 hw) (by decide) own_ty2 own_ty2))).other W18 (Or.inr (slot_ne (own_la24 hw) (own_la19 hw) (by decide) own_ty2 own_ty3))).other W23 (Or.inr (slot_ne (own_la24 hw) (own_la20 hw) (by decide) own_ty2 own_ty6))).other W28 (Or.inr (slot_ne (own_la24 hw) (own_la21 hw) (by decide) own_ty2 own_ty2))).other W33 (Or.inr (slot_ne (own_la24 hw) (own_la22 hw) (by decide) own_ty2 own_ty7))).other W38 (Or.inr (slot_ne (own_la24 hw) (own_la23 hw) (by decide) own_ty2 own_ty6)))
  obtain ⟨T43, h43, X43, e43, W43, st43⟩ := putF X40 hx hZ hown (host := "") (Or.inl (own_w hw 191 rfl)) Via.refl e40 f42 f41 (Or.inr ⟨(own_w hw 192 rfl), rfl, hnm⟩) (own_w hw 154 rfl) (ty := (.object "com/example/assemble_quorum/assemblequorum/model/MemberAddress")) (by decide) rfl rfl (g := (mkF m 73 #[.val (.ref ob0), .val (.ref ob1)] [(.ref ob1_priorCandidate), (.ref ob0)])) rfl rfl (hb hby own_d27_73)
  have Fw43 := f42.same W43
  have N43 := Fr.snoc X43 N38 gz_ob0
  have f44 := (((((((((F_ob1_members.other W3 (Or.inl (Exa.ne E_ob1 E_ob0 (by decide)))).other W8 (Or.inl (Exa.ne (E_ob1.wr W3) f6 (by decide)))).other W13 (Or.inl (Exa.ne ((E_ob1.wr W3).wr W8) f11 (by decide)))).other W18 (Or.inl (Exa.ne (((E_ob1.wr W3).wr W8).wr W13) f16 (by decide)))).other W23 (Or.inl (Exa.ne ((((E_ob1.wr W3).wr W8).wr W13).wr W18) f21 (by decide)))).other W28 (Or.inl (Exa.ne (((((E_ob1.wr W3).wr W8).wr W13).wr W18).wr W23) f26 (by decide)))).other W33 (Or.inl (Exa.ne ((((((E_ob1.wr W3).wr W8).wr W13).wr W18).wr W23).wr W28) f31 (by decide)))).other W38 (Or.inl (Exa.ne (((((((E_ob1.wr W3).wr W8).wr W13).wr W18).wr W23).wr W28).wr W33) f36 (by decide)))).other W43 (Or.inl (Exa.ne ((((((((E_ob1.wr W3).wr W8).wr W13).wr W18).wr W23).wr W28).wr W33).wr W38) f41 (by decide))))
  obtain ⟨T45, X45, e45, st45⟩ := own_getR X43 hx hZ hown (own_w hw 193 rfl) e43 f44 (g := (mkF m 78 #[.val (.ref ob0), .val (.ref ob1)] [(.ref ob1), (.ref ob0)])) rfl rfl (hb hby own_d27_78)
  obtain ⟨LL46, XL46, NL46⟩ : ∃ LL : List Loc, Stand p l e ({ frames := 2, cells := 0, slots := 0, locals := 26 } : Room) s m #[(.ref ob0), (.ref ob1)] below meth c T45 LL 0 0 ∧ Fr n0 LL := ⟨_, X45, N43⟩
  have o47 : Old Z n0 h43 := (Old.wr (Old.wr (Old.wr (Old.wr (Old.wr (Old.wr (Old.wr (Old.wr (Old.wr O0 W3 gz_ob0) W8 gz_ob0) W13 gz_ob0) W18 gz_ob0) W23 gz_ob0) W28 gz_ob0) W33 gz_ob0) W38 gz_ob0) W43 gz_ob0)
  obtain ⟨_, _, ⟨T48, L48, k48, n48⟩, -, X48, ⟨Lc48, hQ48, l48, y48, z48⟩, st48⟩ := Jvm.LawKit.callS XL46 hx (y := own_y26) hown (mvT hZ (own_w hw 194 rfl)) (mvT hZ (own_w hw 195 rfl)) (mvT hZ (own_w hw 131 rfl)) (mvT hZ (own_w hw 196 rfl)) (by decide) (backOf (W := 1) (rmA27 l Z a0 hw []   cs wf wK0 wK1 wK2 wK3 wL h43 n0 o47 G0   ) hZ (own_w hw 196 rfl) (own_w hw 131 rfl) (by decide) (by decide)) (g := (mkF m 81 #[.val (.ref ob0), .val (.ref ob1)] [(.ref wL), (.ref ob0)])) rfl (by rw [hml]; rfl) (argsL := [(.ref wL)]) (rest := [(.ref ob0)]) (lenOf own_pd20 rfl) rfl (by show 2 * 0 + _ ≤ _; exact Nat.le_of_eq rfl) (hb hby own_d27_81) (fun _ _ => ⟨rfl, e45, (by decide : 0 + 0 ≤ _), (by decide : 0 + 0 ≤ _)⟩)
  dsimp only [Pt.U, Pt.locs, Pt.cells, Pt.slots] at X48 l48 y48 z48 st48 hQ48
  subst l48 y48 z48
  obtain ⟨rfl, Nq48, e48⟩ := hQ48
  have N48 := Fr.app NL46 Nq48
  have f49 := (f41.wr W43)
  have f50 := (((((((((F_ob0_members.other W3 (Or.inr (slot_ne (own_la25 hw) (own_la17 hw) (by decide) own_ty5 own_ty4))).other W8 (Or.inr (slot_ne (own_la25 hw) (own_la16 hw) (by decide) own_ty5 own_ty2))).other W13 (Or.inr (slot_ne (own_la25 hw) (own_la18 hw) (by decide) own_ty5 own_ty2))).other W18 (Or.inr (slot_ne (own_la25 hw) (own_la19 hw) (by decide) own_ty5 own_ty3))).other W23 (Or.inr (slot_ne (own_la25 hw) (own_la20 hw) (by decide) own_ty5 own_ty6))).other W28 (Or.inr (slot_ne (own_la25 hw) (own_la21 hw) (by decide) own_ty5 own_ty2))).other W33 (Or.inr (slot_ne (own_la25 hw) (own_la22 hw) (by decide) own_ty5 own_ty7))).other W38 (Or.inr (slot_ne (own_la25 hw) (own_la23 hw) (by decide) own_ty5 own_ty6))).other W43 (Or.inr (slot_ne (own_la25 hw) (own_la24 hw) (by decide) own_ty5 own_ty2)))
  obtain ⟨T51, h51, X51, e51, W51, st51⟩ := putF X48 hx hZ hown (host := "") (Or.inl (own_w hw 212 rfl)) Via.refl e48 f50 f49 (Or.inr ⟨(own_w hw 213 rfl), rfl, hnm⟩) (own_w hw 154 rfl) (ty := (.object "java/util/List")) (by decide) rfl rfl (g := (mkF m 84 #[.val (.ref ob0), .val (.ref ob1)] [(.ref wL), (.ref ob0)])) rfl rfl (hb hby own_d27_84)
  have Fw51 := f50.same W51
  have N51 := Fr.snoc X51 N48 gz_ob0
  have f52 := ((((((((((F_ob1_topic.other W3 (Or.inl (Exa.ne E_ob1 E_ob0 (by decide)))).other W8 (Or.inl (Exa.ne (E_ob1.wr W3) f6 (by decide)))).other W13 (Or.inl (Exa.ne ((E_ob1.wr W3).wr W8) f11 (by decide)))).other W18 (Or.inl (Exa.ne (((E_ob1.wr W3).wr W8).wr W13) f16 (by decide)))).other W23 (Or.inl (Exa.ne ((((E_ob1.wr W3).wr W8).wr W13).wr W18) f21 (by decide)))).other W28 (Or.inl (Exa.ne (((((E_ob1.wr W3).wr W8).wr W13).wr W18).wr W23) f26 (by decide)))).other W33 (Or.inl (Exa.ne ((((((E_ob1.wr W3).wr W8).wr W13).wr W18).wr W23).wr W28) f31 (by decide)))).other W38 (Or.inl (Exa.ne (((((((E_ob1.wr W3).wr W8).wr W13).wr W18).wr W23).wr W28).wr W33) f36 (by decide)))).other W43 (Or.inl (Exa.ne ((((((((E_ob1.wr W3).wr W8).wr W13).wr W18).wr W23).wr W28).wr W33).wr W38) f41 (by decide)))).other W51 (Or.inl (Exa.ne (((((((((E_ob1.wr W3).wr W8).wr W13).wr W18).wr W23).wr W28).wr W33).wr W38).wr W43) f49 (by decide))))
  obtain ⟨T53, X53, e53, st53⟩ := own_getR X51 hx hZ hown (own_w hw 214 rfl) e51 f52 (g := (mkF m 89 #[.val (.ref ob0), .val (.ref ob1)] [(.ref ob1), (.ref ob0)])) rfl rfl (hb hby own_d27_89)
  have f54 := (f49.wr W51)
  have f55 := ((((((((((F_ob0_topic.other W3 (Or.inr (slot_ne (own_la26 hw) (own_la17 hw) (by decide) own_ty1 own_ty4))).other W8 (Or.inr (slot_ne (own_la26 hw) (own_la16 hw) (by decide) own_ty1 own_ty2))).other W13 (Or.inr (slot_ne (own_la26 hw) (own_la18 hw) (by decide) own_ty1 own_ty2))).other W18 (Or.inr (slot_ne (own_la26 hw) (own_la19 hw) (by decide) own_ty1 own_ty3))).other W23 (Or.inr (slot_ne (own_la26 hw) (own_la20 hw) (by decide) own_ty1 own_ty6))).other W28 (Or.inr (slot_ne (own_la26 hw) (own_la21 hw) (by decide) own_ty1 own_ty2))).other W33 (Or.inr (slot_ne (own_la26 hw) (own_la22 hw) (by decide) own_ty1 own_ty7))).other W38 (Or.inr (slot_ne (own_la26 hw) (own_la23 hw) (by decide) own_ty1 own_ty6))).other W43 (Or.inr (slot_ne (own_la26 hw) (own_la24 hw) (by decide) own_ty1 own_ty2))).other W51 (Or.inr (slot_ne (own_la26 hw) (own_la25 hw) (by decide) own_ty1 own_ty5)))
  obtain ⟨T56, h56, X56, e56, W56, st56⟩ := putF X53 hx hZ hown (host := "") (Or.inl (own_w hw 216 rfl)) Via.refl e53 f55 f54 (Or.inr ⟨(own_w hw 217 rfl), rfl, hnm⟩) (own_w hw 154 rfl) (ty := (.object "java/lang/String")) (by decide) rfl rfl (g := (mkF m 92 #[.val (.ref ob0), .val (.ref ob1)] [.null, (.ref ob0)])) rfl rfl (hb hby own_d27_92)
  have Fw56 := f55.same W56
  have N56 := Fr.snoc X56 N51 gz_ob0
  have f57 := (((((((((((F_ob1_payload.other W3 (Or.inl (Exa.ne E_ob1 E_ob0 (by decide)))).other W8 (Or.inl (Exa.ne (E_ob1.wr W3) f6 (by decide)))).other W13 (Or.inl (Exa.ne ((E_ob1.wr W3).wr W8) f11 (by decide)))).other W18 (Or.inl (Exa.ne (((E_ob1.wr W3).wr W8).wr W13) f16 (by decide)))).other W23 (Or.inl (Exa.ne ((((E_ob1.wr W3).wr W8).wr W13).wr W18) f21 (by decide)))).other W28 (Or.inl (Exa.ne (((((E_ob1.wr W3).wr W8).wr W13).wr W18).wr W23) f26 (by decide)))).other W33 (Or.inl (Exa.ne ((((((E_ob1.wr W3).wr W8).wr W13).wr W18).wr W23).wr W28) f31 (by decide)))).other W38 (Or.inl (Exa.ne (((((((E_ob1.wr W3).wr W8).wr W13).wr W18).wr W23).wr W28).wr W33) f36 (by decide)))).other W43 (Or.inl (Exa.ne ((((((((E_ob1.wr W3).wr W8).wr W13).wr W18).wr W23).wr W28).wr W33).wr W38) f41 (by decide)))).other W51 (Or.inl (Exa.ne (((((((((E_ob1.wr W3).wr W8).wr W13).wr W18).wr W23).wr W28).wr W33).wr W38).wr W43) f49 (by decide)))).other W56 (Or.inl (Exa.ne ((((((((((E_ob1.wr W3).wr W8).wr W13).wr W18).wr W23).wr W28).wr W33).wr W38).wr W43).wr W51) f54 (by decide))))
  obtain ⟨T58, X58, e58, st58⟩ := own_getR X56 hx hZ hown (own_w hw 218 rfl) e56 f57 (g := (mkF m 97 #[.val (.ref ob0), .val (.ref ob1)] [(.ref ob1), (.ref ob0)])) rfl rfl (hb hby own_d27_97)
  have f59 := (f54.wr W56)
  have f60 := (((((((((((F_ob0_payload.other W3 (Or.inr (slot_ne (own_la27 hw) (own_la17 hw) (by decide) own_ty8 own_ty4))).other W8 (Or.inr (slot_ne (own_la27 hw) (own_la16 hw) (by decide) own_ty8 own_ty2))).other W13 (Or.inr (slot_ne (own_la27 hw) (own_la18 hw) (by decide) own_ty8 own_ty2))).other W18 (Or.inr (slot_ne (own_la27 hw) (own_la19 hw) (by decide) own_ty8 own_ty3))).other W23 (Or.inr (slot_ne (own_la27 hw) (own_la20 hw) (by decide) own_ty8 own_ty6))).other W28 (Or.inr (slot_ne (own_la27 hw) (own_la21 hw) (by decide) own_ty8 own_ty2))).other W33 (Or.inr (slot_ne (own_la27 hw) (own_la22 hw) (by decide) own_ty8 own_ty7))).other W38 (Or.inr (slot_ne (own_la27 hw) (own_la23 hw) (by decide) own_ty8 own_ty6))).other W43 (Or.inr (slot_ne (own_la27 hw) (own_la24 hw) (by decide) own_ty8 own_ty2))).other W51 (Or.inr (slot_ne (own_la27 hw) (own_la25 hw) (by decide) own_ty8 own_ty5))).other W56 (Or.inr (slot_ne (own_la27 hw) (own_la26 hw) (by decide) own_ty8 own_ty1)))
  obtain ⟨T61, h61, X61, e61, W61, st61⟩ := putF X58 hx hZ hown (host := "") (Or.inl (own_w hw 220 rfl)) Via.refl e58 f60 f59 (Or.inr ⟨(own_w hw 221 rfl), rfl, hnm⟩) (own_w hw 154 rfl) (ty := (.array .byte)) (by decide) rfl rfl (g := (mkF m 100 #[.val (.ref ob0), .val (.ref ob1)] [.null, (.ref ob0)])) rfl rfl (hb hby own_d27_100)
  have Fw61 := f60.same W61
  have N61 := Fr.snoc X61 N56 gz_ob0
  have g62 : ∀ t, Steps p.tables e below (T61.setTop (mkF m 103 #[.val (.ref ob0), .val (.ref ob1)] [])) t → Steps p.tables e below (s₁.setTop (entryFrame m #[(.ref ob0), (.ref ob1)] 2)) t := by
    intro t k
    refine g0 t ?_
    show Steps p.tables e below (s₁.setTop (mkF m 0 #[.val (.ref ob0), .val (.ref ob1)] [])) _
    refine XS.aloadN X0.here hx rfl (hb hby own_d27_0) rfl rfl ?_
    refine st1 _ ?_
    refine XS.aloadN X1.here hx rfl (hb hby own_d27_4) rfl rfl ?_
    refine XS.aloadN X1.here hx rfl (hb hby own_d27_5) rfl rfl ?_
    refine st2 _ ?_
    refine st3 _ ?_
    refine XS.aloadN X3.here hx rfl (hb hby own_d27_12) rfl rfl ?_
    refine XS.aloadN X3.here hx rfl (hb hby own_d27_13) rfl rfl ?_
    show Steps p.tables e below (T3.setTop (mkF m 14 #[.val (.ref ob0), .val (.ref ob1)] [(.ref ob1), (.ref ob0)])) _
    refine st5 _ ?_
    refine st8 _ ?_
    refine XS.aloadN X8.here hx rfl (hb hby own_d27_20) rfl rfl ?_
    refine XS.aloadN X8.here hx rfl (hb hby own_d27_21) rfl rfl ?_
    refine st10 _ ?_
    refine st13 _ ?_
    refine XS.aloadN X13.here hx rfl (hb hby own_d27_28) rfl rfl ?_
    refine XS.aloadN X13.here hx rfl (hb hby own_d27_29) rfl rfl ?_
    show Steps p.tables e below (T13.setTop (mkF m 30 #[.val (.ref ob0), .val (.ref ob1)] [(.ref ob1), (.ref ob0)])) _
    refine st15 _ ?_
    refine st18 _ ?_
    refine XS.aloadN X18.here hx rfl (hb hby own_d27_36) rfl rfl ?_
    refine XS.aloadN X18.here hx rfl (hb hby own_d27_37) rfl rfl ?_
    refine st20 _ ?_
    refine st23 _ ?_
    refine XS.aloadN X23.here hx rfl (hb hby own_d27_44) rfl rfl ?_
    refine XS.aloadN X23.here hx rfl (hb hby own_d27_45) rfl rfl ?_
    show Steps p.tables e below (T23.setTop (mkF m 46 #[.val (.ref ob0), .val (.ref ob1)] [(.ref ob1), (.ref ob0)])) _
    refine st25 _ ?_
    refine st28 _ ?_
    refine XS.aloadN X28.here hx rfl (hb hby own_d27_52) rfl rfl ?_
    refine XS.aloadN X28.here hx rfl (hb hby own_d27_53) rfl rfl ?_
    refine st30 _ ?_
    refine st33 _ ?_
    refine XS.aloadN X33.here hx rfl (hb hby own_d27_60) rfl rfl ?_
    refine XS.aloadN X33.here hx rfl (hb hby own_d27_61) rfl rfl ?_
    show Steps p.tables e below (T33.setTop (mkF m 62 #[.val (.ref ob0), .val (.ref ob1)] [(.ref ob1), (.ref ob0)])) _
    refine st35 _ ?_
    refine st38 _ ?_
    refine XS.aloadN X38.here hx rfl (hb hby own_d27_68) rfl rfl ?_
    refine XS.aloadN X38.here hx rfl (hb hby own_d27_69) rfl rfl ?_
    refine st40 _ ?_
    refine st43 _ ?_
    refine XS.aloadN X43.here hx rfl (hb hby own_d27_76) rfl rfl ?_
    refine XS.aloadN X43.here hx rfl (hb hby own_d27_77) rfl rfl ?_
    show Steps p.tables e below (T43.setTop (mkF m 78 #[.val (.ref ob0), .val (.ref ob1)] [(.ref ob1), (.ref ob0)])) _
    refine st45 _ ?_
    refine st48 _ ?_
    refine st51 _ ?_
    refine XS.aloadN X51.here hx rfl (hb hby own_d27_87) rfl rfl ?_
    refine XS.aloadN X51.here hx rfl (hb hby own_d27_88) rfl rfl ?_
    refine st53 _ ?_
    refine st56 _ ?_
    refine XS.aloadN X56.here hx rfl (hb hby own_d27_95) rfl rfl ?_
    show Steps p.tables e below (T56.setTop (mkF m 96 #[.val (.ref ob0), .val (.ref ob1)] [(.ref ob0)])) _
    refine XS.aloadN X56.here hx rfl (hb hby own_d27_96) rfl rfl ?_
    refine st58 _ ?_
    refine st61 _ ?_
    exact k
  obtain ⟨fs, hrt, hrun, hended, hW, hsame⟩ := X61.leave (v := none) (fun _ => rfl)
  have f63 := (f59.wr W61)
  have f64 := (((((((((((Fw3.other W8 (Or.inr (slot_ne (own_la17 hw) (own_la16 hw) (by decide) own_ty4 own_ty2))).other W13 (Or.inr (slot_ne (own_la17 hw) (own_la18 hw) (by decide) own_ty4 own_ty2))).other W18 (Or.inr (slot_ne (own_la17 hw) (own_la19 hw) (by decide) own_ty4 own_ty3))).other W23 (Or.inr (slot_ne (own_la17 hw) (own_la20 hw) (by decide) own_ty4 own_ty6))).other W28 (Or.inr (slot_ne (own_la17 hw) (own_la21 hw) (by decide) own_ty4 own_ty2))).other W33 (Or.inr (slot_ne (own_la17 hw) (own_la22 hw) (by decide) own_ty4 own_ty7))).other W38 (Or.inr (slot_ne (own_la17 hw) (own_la23 hw) (by decide) own_ty4 own_ty6))).other W43 (Or.inr (slot_ne (own_la17 hw) (own_la24 hw) (by decide) own_ty4 own_ty2))).other W51 (Or.inr (slot_ne (own_la17 hw) (own_la25 hw) (by decide) own_ty4 own_ty5))).other W56 (Or.inr (slot_ne (own_la17 hw) (own_la26 hw) (by decide) own_ty4 own_ty1))).other W61 (Or.inr (slot_ne (own_la17 hw) (own_la27 hw) (by decide) own_ty4 own_ty8)))
  have f65 := ((((Fw38.other W43 (Or.inr (slot_ne (own_la23 hw) (own_la24 hw) (by decide) own_ty6 own_ty2))).other W51 (Or.inr (slot_ne (own_la23 hw) (own_la25 hw) (by decide) own_ty6 own_ty5))).other W56 (Or.inr (slot_ne (own_la23 hw) (own_la26 hw) (by decide) own_ty6 own_ty1))).other W61 (Or.inr (slot_ne (own_la23 hw) (own_la27 hw) (by decide) own_ty6 own_ty8)))
  have f66 := (((Fw43.other W51 (Or.inr (slot_ne (own_la24 hw) (own_la25 hw) (by decide) own_ty2 own_ty5))).other W56 (Or.inr (slot_ne (own_la24 hw) (own_la26 hw) (by decide) own_ty2 own_ty1))).other W61 (Or.inr (slot_ne (own_la24 hw) (own_la27 hw) (by decide) own_ty2 own_ty8)))
  have f67 := (((((((Fw23.other W28 (Or.inr (slot_ne (own_la20 hw) (own_la21 hw) (by decide) own_ty6 own_ty2))).other W33 (Or.inr (slot_ne (own_la20 hw) (own_la22 hw) (by decide) own_ty6 own_ty7))).other W38 (Or.inr (slot_ne (own_la20 hw) (own_la23 hw) (by decide) own_ty6 own_ty6))).other W43 (Or.inr (slot_ne (own_la20 hw) (own_la24 hw) (by decide) own_ty6 own_ty2))).other W51 (Or.inr (slot_ne (own_la20 hw) (own_la25 hw) (by decide) own_ty6 own_ty5))).other W56 (Or.inr (slot_ne (own_la20 hw) (own_la26 hw) (by decide) own_ty6 own_ty1))).other W61 (Or.inr (slot_ne (own_la20 hw) (own_la27 hw) (by decide) own_ty6 own_ty8)))
  have f68 := ((((((Fw28.other W33 (Or.inr (slot_ne (own_la21 hw) (own_la22 hw) (by decide) own_ty2 own_ty7))).other W38 (Or.inr (slot_ne (own_la21 hw) (own_la23 hw) (by decide) own_ty2 own_ty6))).other W43 (Or.inr (slot_ne (own_la21 hw) (own_la24 hw) (by decide) own_ty2 own_ty2))).other W51 (Or.inr (slot_ne (own_la21 hw) (own_la25 hw) (by decide) own_ty2 own_ty5))).other W56 (Or.inr (slot_ne (own_la21 hw) (own_la26 hw) (by decide) own_ty2 own_ty1))).other W61 (Or.inr (slot_ne (own_la21 hw) (own_la27 hw) (by decide) own_ty2 own_ty8)))
  have f69 := (((((((((Fw13.other W18 (Or.inr (slot_ne (own_la18 hw) (own_la19 hw) (by decide) own_ty2 own_ty3))).other W23 (Or.inr (slot_ne (own_la18 hw) (own_la20 hw) (by decide) own_ty2 own_ty6))).other W28 (Or.inr (slot_ne (own_la18 hw) (own_la21 hw) (by decide) own_ty2 own_ty2))).other W33 (Or.inr (slot_ne (own_la18 hw) (own_la22 hw) (by decide) own_ty2 own_ty7))).other W38 (Or.inr (slot_ne (own_la18 hw) (own_la23 hw) (by decide) own_ty2 own_ty6))).other W43 (Or.inr (slot_ne (own_la18 hw) (own_la24 hw) (by decide) own_ty2 own_ty2))).other W51 (Or.inr (slot_ne (own_la18 hw) (own_la25 hw) (by decide) own_ty2 own_ty5))).other W56 (Or.inr (slot_ne (own_la18 hw) (own_la26 hw) (by decide) own_ty2 own_ty1))).other W61 (Or.inr (slot_ne (own_la18 hw) (own_la27 hw) (by decide) own_ty2 own_ty8)))
  refine ⟨_, _, g62 _ ?_, hrun, hended, _, _, rfl, ?_, ⟨_, rfl⟩, hW, hsame.mono (by decide) (by decide)⟩
  · show Steps p.tables e below (T61.setTop (mkF m 103 #[.val (.ref ob0), .val (.ref ob1)] [])) _
    exact X61.returnOut hx Bd.returns (hb hby own_d27_103) hrt
  · show own_Q_rmA39 Z ob0 ob1 ob1_kind ob1_priorCandidate cs wf wK0 wK1 wK2 wK3 wL h0 n0 _ T61.heap _
    rw [e61]
    exact ⟨rfl, N61, (Keep.wr (Keep.wr (Keep.wr (Keep.wr (Keep.wr (Keep.wr (Keep.wr (Keep.wr (Keep.wr (Keep.wr (Keep.wr (Keep.wr (Keep.refl h0 [ob0]) W3 (Or.inl (List.mem_of_getElem? (i := 0) rfl))) W8 (Or.inl (List.mem_of_getElem? (i := 0) rfl))) W13 (Or.inl (List.mem_of_getElem? (i := 0) rfl))) W18 (Or.inl (List.mem_of_getElem? (i := 0) rfl))) W23 (Or.inl (List.mem_of_getElem? (i := 0) rfl))) W28 (Or.inl (List.mem_of_getElem? (i := 0) rfl))) W33 (Or.inl (List.mem_of_getElem? (i := 0) rfl))) W38 (Or.inl (List.mem_of_getElem? (i := 0) rfl))) W43 (Or.inl (List.mem_of_getElem? (i := 0) rfl))) W51 (Or.inl (List.mem_of_getElem? (i := 0) rfl))) W56 (Or.inl (List.mem_of_getElem? (i := 0) rfl))) W61 (Or.inl (List.mem_of_getElem? (i := 0) rfl))), f63, f64, f65, f66, f67, f68, f69⟩
def own_Q_rmA38 (Z : State) (ob0 : Addr) (ob0_kind : Addr) (ob0_priorCandidate : Addr)  (cs : Int32) (wf : Value) (wK0 : Addr) (wK1 : Addr) (wK2 : Addr) (wK3 : Addr) (wL : Addr) (h0 : Heap) (n0 : Nat) (v : Option Value) (h : Heap) (L : List Loc) : Prop := ∃ bm : Addr, v = some (.ref bm) ∧ Fr n0 L ∧ Keep h0 h [] ∧ h0.size ≤ bm ∧ Exa Z h bm "com/example/assemble_quorum/assemblequorum/io/Message" ∧ Fld Z h bm "com/example/assemble_quorum/assemblequorum/io/Message" "kind" "Lcom/example/assemble_quorum/assemblequorum/io/Message$Kind;" (.ref ob0_kind) ∧ Fld Z h bm "com/example/assemble_quorum/assemblequorum/io/Message" "priorNumber" "Lcom/example/assemble_quorum/assemblequorum/model/ProposalNumber;" .null ∧ Fld Z h bm "com/example/assemble_quorum/assemblequorum/io/Message" "priorCandidate" "Lcom/example/assemble_quorum/assemblequorum/model/MemberAddress;" (.ref ob0_priorCandidate) ∧ Fld Z h bm "com/example/assemble_quorum/assemblequorum/io/Message" "number" "Lcom/example/assemble_quorum/assemblequorum/model/ProposalNumber;" .null ∧ Fld Z h bm "com/example/assemble_quorum/assemblequorum/io/Message" "candidate" "Lcom/example/assemble_quorum/assemblequorum/model/MemberAddress;" .null ∧ Fld Z h bm "com/example/assemble_quorum/assemblequorum/io/Message" "leader" "Lcom/example/assemble_quorum/assemblequorum/model/MemberAddress;" .null
set_option maxRecDepth 65536 in
set_option maxHeartbeats 40000000 in
theorem rmA38 (l : Launch) (Z : State) (a0 : Array Value) (hw : ∀ d ∈ tables_1, d.before a0 Z = true) (ws : List Jvm.Cond) (ob0 : Addr) (ob0_kind : Addr) (ob0_priorCandidate : Addr)  (cs : Int32) (wf : Value) (wK0 : Addr) (wK1 : Addr) (wK2 : Addr) (wK3 : Addr) (wL : Addr) (h0 : Heap) (n0 : Nat) (O0 : Old Z n0 h0) (G : own_Gl Z cs wf wK0 wK1 wK2 wK3 wL) (E_ob0 : Exa Z h0 ob0 "com/example/assemble_quorum/assemblequorum/io/Message$Builder") (F_ob0_candidate : Fld Z h0 ob0 "com/example/assemble_quorum/assemblequorum/io/Message$Builder" "candidate" "Lcom/example/assemble_quorum/assemblequorum/model/MemberAddress;" .null) (F_ob0_granted : Fld Z h0 ob0 "com/example/assemble_quorum/assemblequorum/io/Message$Builder" "granted" "Z" (.int (0 : Int32))) (F_ob0_kind : Fld Z h0 ob0 "com/example/assemble_quorum/assemblequorum/io/Message$Builder" "kind" "Lcom/example/assemble_quorum/assemblequorum/io/Message$Kind;" (.ref ob0_kind)) (F_ob0_leader : Fld Z h0 ob0 "com/example/assemble_quorum/assemblequorum/io/Message$Builder" "leader" "Lcom/example/assemble_quorum/assemblequorum/model/MemberAddress;" .null) (F_ob0_members : Fld Z h0 ob0 "com/example/assemble_quorum/assemblequorum/io/Message$Builder" "members" "Ljava/util/List;" (.ref wL)) (F_ob0_number : Fld Z h0 ob0 "com/example/assemble_quorum/assemblequorum/io/Message$Builder" "number" "Lcom/example/assemble_quorum/assemblequorum/model/ProposalNumber;" .null) (F_ob0_payload : Fld Z h0 ob0 "com/example/assemble_quorum/assemblequorum/io/Message$Builder" "payload" "[B" .null) (F_ob0_priorCandidate : Fld Z h0 ob0 "com/example/assemble_quorum/assemblequorum/io/Message$Builder" "priorCandidate" "Lcom/example/assemble_quorum/assemblequorum/model/MemberAddress;" (.ref ob0_priorCandidate)) (F_ob0_priorNumber : Fld Z h0 ob0 "com/example/assemble_quorum/assemblequorum/io/Message$Builder" "priorNumber" "Lcom/example/assemble_quorum/assemblequorum/model/ProposalNumber;" .null) (F_ob0_sender : Fld Z h0 ob0 "com/example/assemble_quorum/assemblequorum/io/Message$Builder" "sender" "Lcom/example/assemble_quorum/assemblequorum/model/MemberAddress;" .null) (F_ob0_topic : Fld Z h0 ob0 "com/example/assemble_quorum/assemblequorum/io/Message$Builder" "topic" "Ljava/lang/String;" .null) (F_ob0_version : Fld Z h0 ob0 "com/example/assemble_quorum/assemblequorum/io/Message$Builder" "version" "J" (.long (0 : Int64))) :
    MetFree l own_y24 (head1 (Jvm.Cond.code own_y24 prog_18_method_12_code 1 (some (.object "com/example/assemble_quorum/assemblequorum/io/Message")) :: ws) ({ frames := 3, cells := 1, slots := 12, locals := 40 } : Room)) (fun a U => a = #[(.ref ob0)] ∧ Z.Warmed39 U.vm ∧ U.heap = h0) (fun _ _ _ _ _ => True) (fun _ U o U' => ∃ v L, o = .returned v ∧ own_Q_rmA38 Z ob0 ob0_kind ob0_priorCandidate cs wf wK0 wK1 wK2 wK3 wL h0 n0 v U'.heap L ∧ FrameEnd U o U' L ({ frames := 3, cells := 1, slots := 12, locals := 40 } : Room).cells ({ frames := 3, cells := 1, slots := 12, locals := 40 } : Room).slots) := by
  refine MetFree.of_bodySF (plainFor_of_name own_pn7) hisR ?_
  intro p e s m args below meth c s₁ Bd hml0 hP hK
  obtain ⟨rfl, hZ, hh⟩ := hP
  have hx := Bd.exec
  have hby := Bd.bytes
  have hml : c.maxLocals = 1 := hml0
  have hown : s.vm.findClass "com/example/assemble_quorum/assemblequorum/io/Message$Builder" = some m.cls := findClass_of_methodNamed Bd.named
  have hnm := (name_of_methodNamed Bd.named Bd.method).1
  have X0 : Stand p l e ({ frames := 3, cells := 1, slots := 12, locals := 40 } : Room) s m #[(.ref ob0)] below meth c s₁ [] 0 0 := Stand.of_body Bd
  have e0 : s₁.heap = h0 := by rw [← hh, Bd.state]; rfl
  have N0 := Fr.nil n0
  have Z0 : n0 ≤ h0.size := O0.1 ▸ O0.2.1
  have g0 : ∀ t, Steps p.tables e below (s₁.setTop (mkF m 0 #[.val (.ref ob0)] [])) t → Steps p.tables e below (s₁.setTop (entryFrame m #[(.ref ob0)] 1)) t := fun t k => castTop (own_ef40 m (ob0)) k
  have G0 := G
  obtain ⟨S_CS, hcs, S_WF, hwf, S_PROPOSAL_ANSWER, S_HELLO, S_EVENT, S_PING, S_L, Ex_L, Fa_L⟩ := G
  obtain ⟨T1, h1, X1, e1, E1, A1, D1, -, st1⟩ := newO X0 hx hZ hown (own_w hw 153 rfl) (own_w hw 154 rfl) (own_w hw 155 rfl) e0 (g := (mkF m 0 #[.val (.ref ob0)] [])) rfl (hb hby own_d26_0) (by decide) (by decide)
  obtain ⟨b1, q_b1⟩ : ∃ z, z = h0.size := ⟨_, rfl⟩
  rw [← q_b1] at A1 D1 st1
  have sz_b1 : h0.size ≤ b1 := Nat.le_of_eq q_b1.symm
  have gz_b1 : n0 ≤ b1 := Nat.le_trans Z0 sz_b1
  have ne_ob0_b1 : ob0 ≠ b1 := Nat.ne_of_lt (Nat.lt_of_lt_of_le E_ob0.lt (Nat.le_of_eq q_b1.symm))
  have F1_kind : Fld Z h1 b1 "com/example/assemble_quorum/assemblequorum/io/Message" "kind" "Lcom/example/assemble_quorum/assemblequorum/io/Message$Kind;" .null := D1 (Or.inr (own_w hw 162 rfl)) (ty := (.object "com/example/assemble_quorum/assemblequorum/io/Message$Kind")) (by decide)
  have F1_sender : Fld Z h1 b1 "com/example/assemble_quorum/assemblequorum/io/Message" "sender" "Lcom/example/assemble_quorum/assemblequorum/model/MemberAddress;" .null := D1 (Or.inr (own_w hw 166 rfl)) (ty := (.object "com/example/assemble_quorum/assemblequorum/model/MemberAddress")) (by decide)
  have F1_leader : Fld Z h1 b1 "com/example/assemble_quorum/assemblequorum/io/Message" "leader" "Lcom/example/assemble_quorum/assemblequorum/model/MemberAddress;" .null := D1 (Or.inr (own_w hw 170 rfl)) (ty := (.object "com/example/assemble_quorum/assemblequorum/model/MemberAddress")) (by decide)
  have F1_version : Fld Z h1 b1 "com/example/assemble_quorum/assemblequorum/io/Message" "version" "J" (.long (0 : Int64)) := D1 (Or.inr (own_w hw 174 rfl)) (ty := .long) (by decide)
  have F1_number : Fld Z h1 b1 "com/example/assemble_quorum/assemblequorum/io/Message" "number" "Lcom/example/assemble_quorum/assemblequorum/model/ProposalNumber;" .null := D1 (Or.inr (own_w hw 178 rfl)) (ty := (.object "com/example/assemble_quorum/assemblequorum/model/ProposalNumber")) (by decide)
  have F1_candidate : Fld Z h1 b1 "com/example/assemble_quorum/assemblequorum/io/Message" "candidate" "Lcom/example/assemble_quorum/assemblequorum/model/MemberAddress;" .null := D1 (Or.inr (own_w hw 182 rfl)) (ty := (.object "com/example/assemble_quorum/assemblequorum/model/MemberAddress")) (by decide)
  have F1_granted : Fld Z h1 b1 "com/example/assemble_quorum/assemblequorum/io/Message" "granted" "Z" (.int (0 : Int32)) := D1 (Or.inr (own_w hw 186 rfl)) (ty := .boolean) (by decide)
  have F1_priorNumber : Fld Z h1 b1 "com/example/assemble_quorum/assemblequorum/io/Message" "priorNumber" "Lcom/example/assemble_quorum/assemblequorum/model/ProposalNumber;" .null := D1 (Or.inr (own_w hw 189 rfl)) (ty := (.object "com/example/assemble_quorum/assemblequorum/model/ProposalNumber")) (by decide)
  have F1_priorCandidate : Fld Z h1 b1 "com/example/assemble_quorum/assemblequorum/io/Message" "priorCandidate" "Lcom/example/assemble_quorum/assemblequorum/model/MemberAddress;" .null := D1 (Or.inr (own_w hw 192 rfl)) (ty := (.object "com/example/assemble_quorum/assemblequorum/model/MemberAddress")) (by decide)
  have F1_members : Fld Z h1 b1 "com/example/assemble_quorum/assemblequorum/io/Message" "members" "Ljava/util/List;" .null := D1 (Or.inr (own_w hw 213 rfl)) (ty := (.object "java/util/List")) (by decide)
  have F1_topic : Fld Z h1 b1 "com/example/assemble_quorum/assemblequorum/io/Message" "topic" "Ljava/lang/String;" .null := D1 (Or.inr (own_w hw 217 rfl)) (ty := (.object "java/lang/String")) (by decide)
  have F1_payload : Fld Z h1 b1 "com/example/assemble_quorum/assemblequorum/io/Message" "payload" "[B" .null := D1 (Or.inr (own_w hw 221 rfl)) (ty := (.array .byte)) (by decide)
  have f2 := (E_ob0.ext E1)
  have f3 := (F_ob0_candidate.ext E1)
  have f4 := (F_ob0_granted.ext E1)
  have f5 := (F_ob0_kind.ext E1)
  have f6 := (F_ob0_leader.ext E1)
  have f7 := (F_ob0_members.ext E1)
  have f8 := (F_ob0_number.ext E1)
  have f9 := (F_ob0_payload.ext E1)
  have f10 := (F_ob0_priorCandidate.ext E1)
  have f11 := (F_ob0_priorNumber.ext E1)
  have f12 := (F_ob0_sender.ext E1)
  have f13 := (F_ob0_topic.ext E1)
  have f14 := (F_ob0_version.ext E1)
  have o15 : Old Z n0 h1 := (Old.ext O0 E1)
  obtain ⟨_, _, ⟨T16, L16, k16, n16⟩, -, X16, ⟨Lc16, hQ16, l16, y16, z16⟩, st16⟩ := X1.specialBackNest hx (y := own_y25) rfl hown (own_mvM hZ (own_w hw 156 rfl)) (mvT hZ (own_w hw 157 rfl)) (mvT hZ (own_w hw 158 rfl)) (by decide) (backOf (W := 1) (rmA39 l Z a0 hw [] b1 ob0 ob0_kind ob0_priorCandidate  cs wf wK0 wK1 wK2 wK3 wL h1 n0 o15 G0 A1 F1_candidate F1_granted F1_kind F1_leader F1_members F1_number F1_payload F1_priorCandidate F1_priorNumber F1_sender F1_topic F1_version f2 f3 f4 f5 f6 f7 f8 f9 f10 f11 f12 f13 f14 gz_b1 ) hZ (own_w hw 158 rfl) (own_w hw 155 rfl) (by decide) (by decide)) (g := (mkF m 5 #[.val (.ref ob0)] [(.ref ob0), (.ref b1), (.ref b1)])) rfl (by rw [hml]; rfl) (Steps.refl _) (a := b1) (argsL := [(.ref ob0)]) (rest := [(.ref b1)]) (lenOf own_pd21 rfl) rfl (by show 2 * 0 + _ ≤ _; exact Nat.le_of_eq rfl) (hb hby own_d26_5) (fun _ _ => ⟨rfl, e1, (by decide : 1 + 0 ≤ _), (by decide : 12 + 0 ≤ _)⟩)
  dsimp only [Pt.U, Pt.locs, Pt.cells, Pt.slots] at X16 l16 y16 z16 st16 hQ16
  subst l16 y16 z16
  obtain ⟨rfl, Nq16, K16, Q16_0, Q16_1, Q16_2, Q16_3, Q16_4, Q16_5, Q16_6⟩ := hQ16
  have N16 := Fr.app N0 Nq16
  have g17 : ∀ t, Steps p.tables e below (T16.setTop (mkF m 8 #[.val (.ref ob0)] [(.ref b1)])) t → Steps p.tables e below (s₁.setTop (entryFrame m #[(.ref ob0)] 1)) t := by
    intro t k
    refine g0 t ?_
    show Steps p.tables e below (s₁.setTop (mkF m 0 #[.val (.ref ob0)] [])) _
    refine st1 _ ?_
    refine XS.dup X1.here hx rfl (hb hby own_d26_3) rfl rfl ?_
    refine XS.aloadN X1.here hx rfl (hb hby own_d26_4) rfl rfl ?_
    refine st16.trans ?_
    exact k
  obtain ⟨fs, hrt, hrun, hended, hW, hsame⟩ := X16.leave (v := some (.ref b1)) (fun h => by rw [Bd.returns] at h; cases h)
  refine ⟨_, _, g17 _ ?_, hrun, hended, _, _, rfl, ?_, ⟨_, rfl⟩, hW, hsame.mono (by decide) (by decide)⟩
  · show Steps p.tables e below (T16.setTop (mkF m 8 #[.val (.ref ob0)] [(.ref b1)])) _
    jvm_step X16.here [X16.here.top, hx, (hb hby own_d26_8), X16.method', Bd.returns, Value.isRef, FieldType.isReference]
    first | (intro acts; rw [hrt _ acts rfl rfl rfl]) | rw [hrt _ _ rfl rfl rfl]
    exact Steps.refl _
  · show own_Q_rmA38 Z ob0 ob0_kind ob0_priorCandidate cs wf wK0 wK1 wK2 wK3 wL h0 n0 _ T16.heap _
    exact ⟨b1, rfl, N16, (Keep.trans (Keep.ext (Keep.refl h0 []) E1) K16 (allS (Or.inr sz_b1) all0)), sz_b1, Q16_0, Q16_1, Q16_2, Q16_3, Q16_4, Q16_5, Q16_6⟩
theorem own_ef42 (m : MethodId) (x0 : Addr) : entryFrame m #[(.ref x0)] 1 = mkF m 0 #[.val (.ref x0)] [] := by first | (simp [entryFrame, mkF, argsToLocals, Value.category]; done) | rfl
def own_Q_rmA40 (Z : State) (ob0 : Addr) (ob0_kind : Addr) (ob0_priorCandidate : Addr)  (cs : Int32) (wf : Value) (wK0 : Addr) (wK1 : Addr) (wK2 : Addr) (wK3 : Addr) (wL : Addr) (h0 : Heap) (n0 : Nat) (v : Option Value) (h : Heap) (L : List Loc) : Prop := v = some .null ∧ Fr n0 L ∧ h = h0
set_option maxRecDepth 65536 in
set_option maxHeartbeats 40000000 in
theorem rmA40 (l : Launch) (Z : State) (a0 : Array Value) (hw : ∀ d ∈ tables_1, d.before a0 Z = true) (ws : List Jvm.Cond) (ob0 : Addr) (ob0_kind : Addr) (ob0_priorCandidate : Addr)  (cs : Int32) (wf : Value) (wK0 : Addr) (wK1 : Addr) (wK2 : Addr) (wK3 : Addr) (wL : Addr) (h0 : Heap) (n0 : Nat) (O0 : Old Z n0 h0) (G : own_Gl Z cs wf wK0 wK1 wK2 wK3 wL) (E_ob0 : Exa Z h0 ob0 "com/example/assemble_quorum/assemblequorum/io/Message") (F_ob0_candidate : Fld Z h0 ob0 "com/example/assemble_quorum/assemblequorum/io/Message" "candidate" "Lcom/example/assemble_quorum/assemblequorum/model/MemberAddress;" .null) (F_ob0_kind : Fld Z h0 ob0 "com/example/assemble_quorum/assemblequorum/io/Message" "kind" "Lcom/example/assemble_quorum/assemblequorum/io/Message$Kind;" (.ref ob0_kind)) (F_ob0_leader : Fld Z h0 ob0 "com/example/assemble_quorum/assemblequorum/io/Message" "leader" "Lcom/example/assemble_quorum/assemblequorum/model/MemberAddress;" .null) (F_ob0_number : Fld Z h0 ob0 "com/example/assemble_quorum/assemblequorum/io/Message" "number" "Lcom/example/assemble_quorum/assemblequorum/model/ProposalNumber;" .null) (F_ob0_priorCandidate : Fld Z h0 ob0 "com/example/assemble_quorum/assemblequorum/io/Message" "priorCandidate" "Lcom/example/assemble_quorum/assemblequorum/model/MemberAddress;" (.ref ob0_priorCandidate)) (F_ob0_priorNumber : Fld Z h0 ob0 "com/example/assemble_quorum/assemblequorum/io/Message" "priorNumber" "Lcom/example/assemble_quorum/assemblequorum/model/ProposalNumber;" .null) :
    MetFree l own_y28 (head1 (Jvm.Cond.code own_y28 prog_17_method_27_code 1 (some (.object "com/example/assemble_quorum/assemblequorum/model/ProposalNumber")) :: ws) ({ frames := 0, cells := 0, slots := 0, locals := 0 } : Room)) (fun a U => a = #[(.ref ob0)] ∧ Z.Warmed39 U.vm ∧ U.heap = h0) (fun _ _ _ _ _ => True) (fun _ U o U' => ∃ v L, o = .returned v ∧ own_Q_rmA40 Z ob0 ob0_kind ob0_priorCandidate cs wf wK0 wK1 wK2 wK3 wL h0 n0 v U'.heap L ∧ FrameEnd U o U' L ({ frames := 0, cells := 0, slots := 0, locals := 0 } : Room).cells ({ frames := 0, cells := 0, slots := 0, locals := 0 } : Room).slots) := by
  refine MetFree.of_bodySF (plainFor_of_name own_pn9) hisR ?_
  intro p e s m args below meth c s₁ Bd hml0 hP hK
  obtain ⟨rfl, hZ, hh⟩ := hP
  have hx := Bd.exec
  have hby := Bd.bytes
  have hml : c.maxLocals = 1 := hml0
  have hown : s.vm.findClass "com/example/assemble_quorum/assemblequorum/io/Message" = some m.cls := findClass_of_methodNamed Bd.named
  have hnm := (name_of_methodNamed Bd.named Bd.method).1
  have X0 : Stand p l e ({ frames := 0, cells := 0, slots := 0, locals := 0 } : Room) s m #[(.ref ob0)] below meth c s₁ [] 0 0 := Stand.of_body Bd
  have e0 : s₁.heap = h0 := by rw [← hh, Bd.state]; rfl
  have N0 := Fr.nil n0
  have Z0 : n0 ≤ h0.size := O0.1 ▸ O0.2.1
  have g0 : ∀ t, Steps p.tables e below (s₁.setTop (mkF m 0 #[.val (.ref ob0)] [])) t → Steps p.tables e below (s₁.setTop (entryFrame m #[(.ref ob0)] 1)) t := fun t k => castTop (own_ef42 m (ob0)) k
  have G0 := G
  obtain ⟨S_CS, hcs, S_WF, hwf, S_PROPOSAL_ANSWER, S_HELLO, S_EVENT, S_PING, S_L, Ex_L, Fa_L⟩ := G
  obtain ⟨T1, X1, e1, st1⟩ := getF X0 hx hZ hown (host := "") (Or.inl (own_w hw 188 rfl)) Via.refl e0 F_ob0_priorNumber (g := (mkF m 1 #[.val (.ref ob0)] [(.ref ob0)])) rfl rfl (hb hby own_d30_1)
  have g2 : ∀ t, Steps p.tables e below (T1.setTop (mkF m 4 #[.val (.ref ob0)] [.null])) t → Steps p.tables e below (s₁.setTop (entryFrame m #[(.ref ob0)] 1)) t := by
    intro t k
    refine g0 t ?_
    show Steps p.tables e below (s₁.setTop (mkF m 0 #[.val (.ref ob0)] [])) _
    refine XS.aloadN X0.here hx rfl (hb hby own_d30_0) rfl rfl ?_
    refine st1 _ ?_
    exact k
  obtain ⟨fs, hrt, hrun, hended, hW, hsame⟩ := X1.leave (v := some .null) (fun h => by rw [Bd.returns] at h; cases h)
  refine ⟨_, _, g2 _ ?_, hrun, hended, _, _, rfl, ?_, ⟨_, rfl⟩, hW, hsame.mono (by decide) (by decide)⟩
  · show Steps p.tables e below (T1.setTop (mkF m 4 #[.val (.ref ob0)] [.null])) _
    jvm_step X1.here [X1.here.top, hx, (hb hby own_d30_4), X1.method', Bd.returns, Value.isRef, FieldType.isReference]
    first | (intro acts; rw [hrt _ acts rfl rfl rfl]) | rw [hrt _ _ rfl rfl rfl]
    exact Steps.refl _
  · show own_Q_rmA40 Z ob0 ob0_kind ob0_priorCandidate cs wf wK0 wK1 wK2 wK3 wL h0 n0 _ T1.heap _
    rw [e1]
    exact ⟨rfl, N0, rfl⟩
theorem own_ef43 (m : MethodId) (x0 : Addr) : entryFrame m #[(.ref x0)] 1 = mkF m 0 #[.val (.ref x0)] [] := by first | (simp [entryFrame, mkF, argsToLocals, Value.category]; done) | rfl
def own_Q_rmA41 (Z : State) (ob0 : Addr) (ob0_kind : Addr) (ob0_priorCandidate : Addr)  (cs : Int32) (wf : Value) (wK0 : Addr) (wK1 : Addr) (wK2 : Addr) (wK3 : Addr) (wL : Addr) (h0 : Heap) (n0 : Nat) (v : Option Value) (h : Heap) (L : List Loc) : Prop := v = some (.ref ob0_priorCandidate) ∧ Fr n0 L ∧ h = h0
set_option maxRecDepth 65536 in
set_option maxHeartbeats 40000000 in
theorem rmA41 (l : Launch) (Z : State) (a0 : Array Value) (hw : ∀ d ∈ tables_1, d.before a0 Z = true) (ws : List Jvm.Cond) (ob0 : Addr) (ob0_kind : Addr) (ob0_priorCandidate : Addr)  (cs : Int32) (wf : Value) (wK0 : Addr) (wK1 : Addr) (wK2 : Addr) (wK3 : Addr) (wL : Addr) (h0 : Heap) (n0 : Nat) (O0 : Old Z n0 h0) (G : own_Gl Z cs wf wK0 wK1 wK2 wK3 wL) (E_ob0 : Exa Z h0 ob0 "com/example/assemble_quorum/assemblequorum/io/Message") (F_ob0_candidate : Fld Z h0 ob0 "com/example/assemble_quorum/assemblequorum/io/Message" "candidate" "Lcom/example/assemble_quorum/assemblequorum/model/MemberAddress;" .null) (F_ob0_kind : Fld Z h0 ob0 "com/example/assemble_quorum/assemblequorum/io/Message" "kind" "Lcom/example/assemble_quorum/assemblequorum/io/Message$Kind;" (.ref ob0_kind)) (F_ob0_leader : Fld Z h0 ob0 "com/example/assemble_quorum/assemblequorum/io/Message" "leader" "Lcom/example/assemble_quorum/assemblequorum/model/MemberAddress;" .null) (F_ob0_number : Fld Z h0 ob0 "com/example/assemble_quorum/assemblequorum/io/Message" "number" "Lcom/example/assemble_quorum/assemblequorum/model/ProposalNumber;" .null) (F_ob0_priorCandidate : Fld Z h0 ob0 "com/example/assemble_quorum/assemblequorum/io/Message" "priorCandidate" "Lcom/example/assemble_quorum/assemblequorum/model/MemberAddress;" (.ref ob0_priorCandidate)) (F_ob0_priorNumber : Fld Z h0 ob0 "com/example/assemble_quorum/assemblequorum/io/Message" "priorNumber" "Lcom/example/assemble_quorum/assemblequorum/model/ProposalNumber;" .null) :
    MetFree l own_y29 (head1 (Jvm.Cond.code own_y29 prog_17_method_28_code 1 (some (.object "com/example/assemble_quorum/assemblequorum/model/MemberAddress")) :: ws) ({ frames := 0, cells := 0, slots := 0, locals := 0 } : Room)) (fun a U => a = #[(.ref ob0)] ∧ Z.Warmed39 U.vm ∧ U.heap = h0) (fun _ _ _ _ _ => True) (fun _ U o U' => ∃ v L, o = .returned v ∧ own_Q_rmA41 Z ob0 ob0_kind ob0_priorCandidate cs wf wK0 wK1 wK2 wK3 wL h0 n0 v U'.heap L ∧ FrameEnd U o U' L ({ frames := 0, cells := 0, slots := 0, locals := 0 } : Room).cells ({ frames := 0, cells := 0, slots := 0, locals := 0 } : Room).slots) := by
  refine MetFree.of_bodySF (plainFor_of_name own_pn9) hisR ?_
  intro p e s m args below meth c s₁ Bd hml0 hP hK
  obtain ⟨rfl, hZ, hh⟩ := hP
  have hx := Bd.exec
  have hby := Bd.bytes
  have hml : c.maxLocals = 1 := hml0
  have hown : s.vm.findClass "com/example/assemble_quorum/assemblequorum/io/Message" = some m.cls := findClass_of_methodNamed Bd.named
  have hnm := (name_of_methodNamed Bd.named Bd.method).1
  have X0 : Stand p l e ({ frames := 0, cells := 0, slots := 0, locals := 0 } : Room) s m #[(.ref ob0)] below meth c s₁ [] 0 0 := Stand.of_body Bd
  have e0 : s₁.heap = h0 := by rw [← hh, Bd.state]; rfl
  have N0 := Fr.nil n0
  have Z0 : n0 ≤ h0.size := O0.1 ▸ O0.2.1
  have g0 : ∀ t, Steps p.tables e below (s₁.setTop (mkF m 0 #[.val (.ref ob0)] [])) t → Steps p.tables e below (s₁.setTop (entryFrame m #[(.ref ob0)] 1)) t := fun t k => castTop (own_ef43 m (ob0)) k
  have G0 := G
  obtain ⟨S_CS, hcs, S_WF, hwf, S_PROPOSAL_ANSWER, S_HELLO, S_EVENT, S_PING, S_L, Ex_L, Fa_L⟩ := G
  obtain ⟨T1, X1, e1, st1⟩ := getF X0 hx hZ hown (host := "") (Or.inl (own_w hw 191 rfl)) Via.refl e0 F_ob0_priorCandidate (g := (mkF m 1 #[.val (.ref ob0)] [(.ref ob0)])) rfl rfl (hb hby own_d31_1)
  have g2 : ∀ t, Steps p.tables e below (T1.setTop (mkF m 4 #[.val (.ref ob0)] [(.ref ob0_priorCandidate)])) t → Steps p.tables e below (s₁.setTop (entryFrame m #[(.ref ob0)] 1)) t := by
    intro t k
    refine g0 t ?_
    show Steps p.tables e below (s₁.setTop (mkF m 0 #[.val (.ref ob0)] [])) _
    refine XS.aloadN X0.here hx rfl (hb hby own_d31_0) rfl rfl ?_
    refine st1 _ ?_
    exact k
  obtain ⟨fs, hrt, hrun, hended, hW, hsame⟩ := X1.leave (v := some (.ref ob0_priorCandidate)) (fun h => by rw [Bd.returns] at h; cases h)
  refine ⟨_, _, g2 _ ?_, hrun, hended, _, _, rfl, ?_, ⟨_, rfl⟩, hW, hsame.mono (by decide) (by decide)⟩
  · show Steps p.tables e below (T1.setTop (mkF m 4 #[.val (.ref ob0)] [(.ref ob0_priorCandidate)])) _
    jvm_step X1.here [X1.here.top, hx, (hb hby own_d31_4), X1.method', Bd.returns, Value.isRef, FieldType.isReference]
    first | (intro acts; rw [hrt _ acts rfl rfl rfl]) | rw [hrt _ _ rfl rfl rfl]
    exact Steps.refl _
  · show own_Q_rmA41 Z ob0 ob0_kind ob0_priorCandidate cs wf wK0 wK1 wK2 wK3 wL h0 n0 _ T1.heap _
    rw [e1]
    exact ⟨rfl, N0, rfl⟩
theorem own_ef44 (m : MethodId) (x0 : Addr) : entryFrame m #[(.ref x0)] 1 = mkF m 0 #[.val (.ref x0)] [] := by first | (simp [entryFrame, mkF, argsToLocals, Value.category]; done) | rfl
def own_Q_rmA42 (Z : State) (ob0 : Addr) (ob0_kind : Addr) (ob0_priorCandidate : Addr)  (cs : Int32) (wf : Value) (wK0 : Addr) (wK1 : Addr) (wK2 : Addr) (wK3 : Addr) (wL : Addr) (h0 : Heap) (n0 : Nat) (v : Option Value) (h : Heap) (L : List Loc) : Prop := v = some (.ref ob0_kind) ∧ Fr n0 L ∧ h = h0
set_option maxRecDepth 65536 in
set_option maxHeartbeats 40000000 in
theorem rmA42 (l : Launch) (Z : State) (a0 : Array Value) (hw : ∀ d ∈ tables_1, d.before a0 Z = true) (ws : List Jvm.Cond) (ob0 : Addr) (ob0_kind : Addr) (ob0_priorCandidate : Addr)  (cs : Int32) (wf : Value) (wK0 : Addr) (wK1 : Addr) (wK2 : Addr) (wK3 : Addr) (wL : Addr) (h0 : Heap) (n0 : Nat) (O0 : Old Z n0 h0) (G : own_Gl Z cs wf wK0 wK1 wK2 wK3 wL) (E_ob0 : Exa Z h0 ob0 "com/example/assemble_quorum/assemblequorum/io/Message") (F_ob0_candidate : Fld Z h0 ob0 "com/example/assemble_quorum/assemblequorum/io/Message" "candidate" "Lcom/example/assemble_quorum/assemblequorum/model/MemberAddress;" .null) (F_ob0_kind : Fld Z h0 ob0 "com/example/assemble_quorum/assemblequorum/io/Message" "kind" "Lcom/example/assemble_quorum/assemblequorum/io/Message$Kind;" (.ref ob0_kind)) (F_ob0_leader : Fld Z h0 ob0 "com/example/assemble_quorum/assemblequorum/io/Message" "leader" "Lcom/example/assemble_quorum/assemblequorum/model/MemberAddress;" .null) (F_ob0_number : Fld Z h0 ob0 "com/example/assemble_quorum/assemblequorum/io/Message" "number" "Lcom/example/assemble_quorum/assemblequorum/model/ProposalNumber;" .null) (F_ob0_priorCandidate : Fld Z h0 ob0 "com/example/assemble_quorum/assemblequorum/io/Message" "priorCandidate" "Lcom/example/assemble_quorum/assemblequorum/model/MemberAddress;" (.ref ob0_priorCandidate)) (F_ob0_priorNumber : Fld Z h0 ob0 "com/example/assemble_quorum/assemblequorum/io/Message" "priorNumber" "Lcom/example/assemble_quorum/assemblequorum/model/ProposalNumber;" .null) :
    MetFree l own_y30 (head1 (Jvm.Cond.code own_y30 prog_17_method_20_code 1 (some (.object "com/example/assemble_quorum/assemblequorum/io/Message$Kind")) :: ws) ({ frames := 0, cells := 0, slots := 0, locals := 0 } : Room)) (fun a U => a = #[(.ref ob0)] ∧ Z.Warmed39 U.vm ∧ U.heap = h0) (fun _ _ _ _ _ => True) (fun _ U o U' => ∃ v L, o = .returned v ∧ own_Q_rmA42 Z ob0 ob0_kind ob0_priorCandidate cs wf wK0 wK1 wK2 wK3 wL h0 n0 v U'.heap L ∧ FrameEnd U o U' L ({ frames := 0, cells := 0, slots := 0, locals := 0 } : Room).cells ({ frames := 0, cells := 0, slots := 0, locals := 0 } : Room).slots) := by
  refine MetFree.of_bodySF (plainFor_of_name own_pn9) hisR ?_
  intro p e s m args below meth c s₁ Bd hml0 hP hK
  obtain ⟨rfl, hZ, hh⟩ := hP
  have hx := Bd.exec
  have hby := Bd.bytes
  have hml : c.maxLocals = 1 := hml0
  have hown : s.vm.findClass "com/example/assemble_quorum/assemblequorum/io/Message" = some m.cls := findClass_of_methodNamed Bd.named
  have hnm := (name_of_methodNamed Bd.named Bd.method).1
  have X0 : Stand p l e ({ frames := 0, cells := 0, slots := 0, locals := 0 } : Room) s m #[(.ref ob0)] below meth c s₁ [] 0 0 := Stand.of_body Bd
  have e0 : s₁.heap = h0 := by rw [← hh, Bd.state]; rfl
  have N0 := Fr.nil n0
  have Z0 : n0 ≤ h0.size := O0.1 ▸ O0.2.1
  have g0 : ∀ t, Steps p.tables e below (s₁.setTop (mkF m 0 #[.val (.ref ob0)] [])) t → Steps p.tables e below (s₁.setTop (entryFrame m #[(.ref ob0)] 1)) t := fun t k => castTop (own_ef44 m (ob0)) k
  have G0 := G
  obtain ⟨S_CS, hcs, S_WF, hwf, S_PROPOSAL_ANSWER, S_HELLO, S_EVENT, S_PING, S_L, Ex_L, Fa_L⟩ := G
  obtain ⟨T1, X1, e1, st1⟩ := getF X0 hx hZ hown (host := "") (Or.inl (own_w hw 161 rfl)) Via.refl e0 F_ob0_kind (g := (mkF m 1 #[.val (.ref ob0)] [(.ref ob0)])) rfl rfl (hb hby own_d32_1)
  have g2 : ∀ t, Steps p.tables e below (T1.setTop (mkF m 4 #[.val (.ref ob0)] [(.ref ob0_kind)])) t → Steps p.tables e below (s₁.setTop (entryFrame m #[(.ref ob0)] 1)) t := by
    intro t k
    refine g0 t ?_
    show Steps p.tables e below (s₁.setTop (mkF m 0 #[.val (.ref ob0)] [])) _
    refine XS.aloadN X0.here hx rfl (hb hby own_d32_0) rfl rfl ?_
    refine st1 _ ?_
    exact k
  obtain ⟨fs, hrt, hrun, hended, hW, hsame⟩ := X1.leave (v := some (.ref ob0_kind)) (fun h => by rw [Bd.returns] at h; cases h)
  refine ⟨_, _, g2 _ ?_, hrun, hended, _, _, rfl, ?_, ⟨_, rfl⟩, hW, hsame.mono (by decide) (by decide)⟩
  · show Steps p.tables e below (T1.setTop (mkF m 4 #[.val (.ref ob0)] [(.ref ob0_kind)])) _
    jvm_step X1.here [X1.here.top, hx, (hb hby own_d32_4), X1.method', Bd.returns, Value.isRef, FieldType.isReference]
    first | (intro acts; rw [hrt _ acts rfl rfl rfl]) | rw [hrt _ _ rfl rfl rfl]
    exact Steps.refl _
  · show own_Q_rmA42 Z ob0 ob0_kind ob0_priorCandidate cs wf wK0 wK1 wK2 wK3 wL h0 n0 _ T1.heap _
    rw [e1]
    exact ⟨rfl, N0, rfl⟩
theorem own_ef45 (m : MethodId) (x0 : Addr) : entryFrame m #[(.ref x0)] 1 = mkF m 0 #[.val (.ref x0)] [] := by first | (simp [entryFrame, mkF, argsToLocals, Value.category]; done) | rfl
def own_Q_rmA43 (Z : State) (ob0 : Addr) (ob0_kind : Addr) (ob0_priorCandidate : Addr)  (cs : Int32) (wf : Value) (wK0 : Addr) (wK1 : Addr) (wK2 : Addr) (wK3 : Addr) (wL : Addr) (h0 : Heap) (n0 : Nat) (v : Option Value) (h : Heap) (L : List Loc) : Prop := v = some .null ∧ Fr n0 L ∧ h = h0
set_option maxRecDepth 65536 in
set_option maxHeartbeats 40000000 in
theorem rmA43 (l : Launch) (Z : State) (a0 : Array Value) (hw : ∀ d ∈ tables_1, d.before a0 Z = true) (ws : List Jvm.Cond) (ob0 : Addr) (ob0_kind : Addr) (ob0_priorCandidate : Addr)  (cs : Int32) (wf : Value) (wK0 : Addr) (wK1 : Addr) (wK2 : Addr) (wK3 : Addr) (wL : Addr) (h0 : Heap) (n0 : Nat) (O0 : Old Z n0 h0) (G : own_Gl Z cs wf wK0 wK1 wK2 wK3 wL) (E_ob0 : Exa Z h0 ob0 "com/example/assemble_quorum/assemblequorum/io/Message") (F_ob0_candidate : Fld Z h0 ob0 "com/example/assemble_quorum/assemblequorum/io/Message" "candidate" "Lcom/example/assemble_quorum/assemblequorum/model/MemberAddress;" .null) (F_ob0_kind : Fld Z h0 ob0 "com/example/assemble_quorum/assemblequorum/io/Message" "kind" "Lcom/example/assemble_quorum/assemblequorum/io/Message$Kind;" (.ref ob0_kind)) (F_ob0_leader : Fld Z h0 ob0 "com/example/assemble_quorum/assemblequorum/io/Message" "leader" "Lcom/example/assemble_quorum/assemblequorum/model/MemberAddress;" .null) (F_ob0_number : Fld Z h0 ob0 "com/example/assemble_quorum/assemblequorum/io/Message" "number" "Lcom/example/assemble_quorum/assemblequorum/model/ProposalNumber;" .null) (F_ob0_priorCandidate : Fld Z h0 ob0 "com/example/assemble_quorum/assemblequorum/io/Message" "priorCandidate" "Lcom/example/assemble_quorum/assemblequorum/model/MemberAddress;" (.ref ob0_priorCandidate)) (F_ob0_priorNumber : Fld Z h0 ob0 "com/example/assemble_quorum/assemblequorum/io/Message" "priorNumber" "Lcom/example/assemble_quorum/assemblequorum/model/ProposalNumber;" .null) :
    MetFree l own_y31 (head1 (Jvm.Cond.code own_y31 prog_17_method_24_code 1 (some (.object "com/example/assemble_quorum/assemblequorum/model/ProposalNumber")) :: ws) ({ frames := 0, cells := 0, slots := 0, locals := 0 } : Room)) (fun a U => a = #[(.ref ob0)] ∧ Z.Warmed39 U.vm ∧ U.heap = h0) (fun _ _ _ _ _ => True) (fun _ U o U' => ∃ v L, o = .returned v ∧ own_Q_rmA43 Z ob0 ob0_kind ob0_priorCandidate cs wf wK0 wK1 wK2 wK3 wL h0 n0 v U'.heap L ∧ FrameEnd U o U' L ({ frames := 0, cells := 0, slots := 0, locals := 0 } : Room).cells ({ frames := 0, cells := 0, slots := 0, locals := 0 } : Room).slots) := by
  refine MetFree.of_bodySF (plainFor_of_name own_pn9) hisR ?_
  intro p e s m args below meth c s₁ Bd hml0 hP hK
  obtain ⟨rfl, hZ, hh⟩ := hP
  have hx := Bd.exec
  have hby := Bd.bytes
  have hml : c.maxLocals = 1 := hml0
  have hown : s.vm.findClass "com/example/assemble_quorum/assemblequorum/io/Message" = some m.cls := findClass_of_methodNamed Bd.named
  have hnm := (name_of_methodNamed Bd.named Bd.method).1
  have X0 : Stand p l e ({ frames := 0, cells := 0, slots := 0, locals := 0 } : Room) s m #[(.ref ob0)] below meth c s₁ [] 0 0 := Stand.of_body Bd
  have e0 : s₁.heap = h0 := by rw [← hh, Bd.state]; rfl
  have N0 := Fr.nil n0
  have Z0 : n0 ≤ h0.size := O0.1 ▸ O0.2.1
  have g0 : ∀ t, Steps p.tables e below (s₁.setTop (mkF m 0 #[.val (.ref ob0)] [])) t → Steps p.tables e below (s₁.setTop (entryFrame m #[(.ref ob0)] 1)) t := fun t k => castTop (own_ef45 m (ob0)) k
  have G0 := G
  obtain ⟨S_CS, hcs, S_WF, hwf, S_PROPOSAL_ANSWER, S_HELLO, S_EVENT, S_PING, S_L, Ex_L, Fa_L⟩ := G
  obtain ⟨T1, X1, e1, st1⟩ := getF X0 hx hZ hown (host := "") (Or.inl (own_w hw 177 rfl)) Via.refl e0 F_ob0_number (g := (mkF m 1 #[.val (.ref ob0)] [(.ref ob0)])) rfl rfl (hb hby own_d33_1)
  have g2 : ∀ t, Steps p.tables e below (T1.setTop (mkF m 4 #[.val (.ref ob0)] [.null])) t → Steps p.tables e below (s₁.setTop (entryFrame m #[(.ref ob0)] 1)) t := by
    intro t k
    refine g0 t ?_
    show Steps p.tables e below (s₁.setTop (mkF m 0 #[.val (.ref ob0)] [])) _
    refine XS.aloadN X0.here hx rfl (hb hby own_d33_0) rfl rfl ?_
    refine st1 _ ?_
    exact k
  obtain ⟨fs, hrt, hrun, hended, hW, hsame⟩ := X1.leave (v := some .null) (fun h => by rw [Bd.returns] at h; cases h)
  refine ⟨_, _, g2 _ ?_, hrun, hended, _, _, rfl, ?_, ⟨_, rfl⟩, hW, hsame.mono (by decide) (by decide)⟩
  · show Steps p.tables e below (T1.setTop (mkF m 4 #[.val (.ref ob0)] [.null])) _
    jvm_step X1.here [X1.here.top, hx, (hb hby own_d33_4), X1.method', Bd.returns, Value.isRef, FieldType.isReference]
    first | (intro acts; rw [hrt _ acts rfl rfl rfl]) | rw [hrt _ _ rfl rfl rfl]
    exact Steps.refl _
  · show own_Q_rmA43 Z ob0 ob0_kind ob0_priorCandidate cs wf wK0 wK1 wK2 wK3 wL h0 n0 _ T1.heap _
    rw [e1]
    exact ⟨rfl, N0, rfl⟩
theorem own_ef46 (m : MethodId) (x0 : Addr) : entryFrame m #[(.ref x0)] 1 = mkF m 0 #[.val (.ref x0)] [] := by first | (simp [entryFrame, mkF, argsToLocals, Value.category]; done) | rfl
def own_Q_rmA44 (Z : State) (ob0 : Addr) (ob0_kind : Addr) (ob0_priorCandidate : Addr)  (cs : Int32) (wf : Value) (wK0 : Addr) (wK1 : Addr) (wK2 : Addr) (wK3 : Addr) (wL : Addr) (h0 : Heap) (n0 : Nat) (v : Option Value) (h : Heap) (L : List Loc) : Prop := v = some .null ∧ Fr n0 L ∧ h = h0
set_option maxRecDepth 65536 in
set_option maxHeartbeats 40000000 in
theorem rmA44 (l : Launch) (Z : State) (a0 : Array Value) (hw : ∀ d ∈ tables_1, d.before a0 Z = true) (ws : List Jvm.Cond) (ob0 : Addr) (ob0_kind : Addr) (ob0_priorCandidate : Addr)  (cs : Int32) (wf : Value) (wK0 : Addr) (wK1 : Addr) (wK2 : Addr) (wK3 : Addr) (wL : Addr) (h0 : Heap) (n0 : Nat) (O0 : Old Z n0 h0) (G : own_Gl Z cs wf wK0 wK1 wK2 wK3 wL) (E_ob0 : Exa Z h0 ob0 "com/example/assemble_quorum/assemblequorum/io/Message") (F_ob0_candidate : Fld Z h0 ob0 "com/example/assemble_quorum/assemblequorum/io/Message" "candidate" "Lcom/example/assemble_quorum/assemblequorum/model/MemberAddress;" .null) (F_ob0_kind : Fld Z h0 ob0 "com/example/assemble_quorum/assemblequorum/io/Message" "kind" "Lcom/example/assemble_quorum/assemblequorum/io/Message$Kind;" (.ref ob0_kind)) (F_ob0_leader : Fld Z h0 ob0 "com/example/assemble_quorum/assemblequorum/io/Message" "leader" "Lcom/example/assemble_quorum/assemblequorum/model/MemberAddress;" .null) (F_ob0_number : Fld Z h0 ob0 "com/example/assemble_quorum/assemblequorum/io/Message" "number" "Lcom/example/assemble_quorum/assemblequorum/model/ProposalNumber;" .null) (F_ob0_priorCandidate : Fld Z h0 ob0 "com/example/assemble_quorum/assemblequorum/io/Message" "priorCandidate" "Lcom/example/assemble_quorum/assemblequorum/model/MemberAddress;" (.ref ob0_priorCandidate)) (F_ob0_priorNumber : Fld Z h0 ob0 "com/example/assemble_quorum/assemblequorum/io/Message" "priorNumber" "Lcom/example/assemble_quorum/assemblequorum/model/ProposalNumber;" .null) :
    MetFree l own_y32 (head1 (Jvm.Cond.code own_y32 prog_17_method_25_code 1 (some (.object "com/example/assemble_quorum/assemblequorum/model/MemberAddress")) :: ws) ({ frames := 0, cells := 0, slots := 0, locals := 0 } : Room)) (fun a U => a = #[(.ref ob0)] ∧ Z.Warmed39 U.vm ∧ U.heap = h0) (fun _ _ _ _ _ => True) (fun _ U o U' => ∃ v L, o = .returned v ∧ own_Q_rmA44 Z ob0 ob0_kind ob0_priorCandidate cs wf wK0 wK1 wK2 wK3 wL h0 n0 v U'.heap L ∧ FrameEnd U o U' L ({ frames := 0, cells := 0, slots := 0, locals := 0 } : Room).cells ({ frames := 0, cells := 0, slots := 0, locals := 0 } : Room).slots) := by
  refine MetFree.of_bodySF (plainFor_of_name own_pn9) hisR ?_
  intro p e s m args below meth c s₁ Bd hml0 hP hK
  obtain ⟨rfl, hZ, hh⟩ := hP
  have hx := Bd.exec
  have hby := Bd.bytes
  have hml : c.maxLocals = 1 := hml0
  have hown : s.vm.findClass "com/example/assemble_quorum/assemblequorum/io/Message" = some m.cls := findClass_of_methodNamed Bd.named
  have hnm := (name_of_methodNamed Bd.named Bd.method).1
  have X0 : Stand p l e ({ frames := 0, cells := 0, slots := 0, locals := 0 } : Room) s m #[(.ref ob0)] below meth c s₁ [] 0 0 := Stand.of_body Bd
  have e0 : s₁.heap = h0 := by rw [← hh, Bd.state]; rfl
  have N0 := Fr.nil n0
  have Z0 : n0 ≤ h0.size := O0.1 ▸ O0.2.1
  have g0 : ∀ t, Steps p.tables e below (s₁.setTop (mkF m 0 #[.val (.ref ob0)] [])) t → Steps p.tables e below (s₁.setTop (entryFrame m #[(.ref ob0)] 1)) t := fun t k => castTop (own_ef46 m (ob0)) k
  have G0 := G
  obtain ⟨S_CS, hcs, S_WF, hwf, S_PROPOSAL_ANSWER, S_HELLO, S_EVENT, S_PING, S_L, Ex_L, Fa_L⟩ := G
  obtain ⟨T1, X1, e1, st1⟩ := getF X0 hx hZ hown (host := "") (Or.inl (own_w hw 181 rfl)) Via.refl e0 F_ob0_candidate (g := (mkF m 1 #[.val (.ref ob0)] [(.ref ob0)])) rfl rfl (hb hby own_d34_1)
  have g2 : ∀ t, Steps p.tables e below (T1.setTop (mkF m 4 #[.val (.ref ob0)] [.null])) t → Steps p.tables e below (s₁.setTop (entryFrame m #[(.ref ob0)] 1)) t := by
    intro t k
    refine g0 t ?_
    show Steps p.tables e below (s₁.setTop (mkF m 0 #[.val (.ref ob0)] [])) _
    refine XS.aloadN X0.here hx rfl (hb hby own_d34_0) rfl rfl ?_
    refine st1 _ ?_
    exact k
  obtain ⟨fs, hrt, hrun, hended, hW, hsame⟩ := X1.leave (v := some .null) (fun h => by rw [Bd.returns] at h; cases h)
  refine ⟨_, _, g2 _ ?_, hrun, hended, _, _, rfl, ?_, ⟨_, rfl⟩, hW, hsame.mono (by decide) (by decide)⟩
  · show Steps p.tables e below (T1.setTop (mkF m 4 #[.val (.ref ob0)] [.null])) _
    jvm_step X1.here [X1.here.top, hx, (hb hby own_d34_4), X1.method', Bd.returns, Value.isRef, FieldType.isReference]
    first | (intro acts; rw [hrt _ acts rfl rfl rfl]) | rw [hrt _ _ rfl rfl rfl]
    exact Steps.refl _
  · show own_Q_rmA44 Z ob0 ob0_kind ob0_priorCandidate cs wf wK0 wK1 wK2 wK3 wL h0 n0 _ T1.heap _
    rw [e1]
    exact ⟨rfl, N0, rfl⟩
theorem own_ef47 (m : MethodId) (x0 : Addr) : entryFrame m #[(.ref x0)] 1 = mkF m 0 #[.val (.ref x0)] [] := by first | (simp [entryFrame, mkF, argsToLocals, Value.category]; done) | rfl
def own_Q_rmA45 (Z : State) (ob0 : Addr) (ob0_kind : Addr) (ob0_priorCandidate : Addr)  (cs : Int32) (wf : Value) (wK0 : Addr) (wK1 : Addr) (wK2 : Addr) (wK3 : Addr) (wL : Addr) (h0 : Heap) (n0 : Nat) (v : Option Value) (h : Heap) (L : List Loc) : Prop := v = some .null ∧ Fr n0 L ∧ h = h0
set_option maxRecDepth 65536 in
set_option maxHeartbeats 40000000 in
theorem rmA45 (l : Launch) (Z : State) (a0 : Array Value) (hw : ∀ d ∈ tables_1, d.before a0 Z = true) (ws : List Jvm.Cond) (ob0 : Addr) (ob0_kind : Addr) (ob0_priorCandidate : Addr)  (cs : Int32) (wf : Value) (wK0 : Addr) (wK1 : Addr) (wK2 : Addr) (wK3 : Addr) (wL : Addr) (h0 : Heap) (n0 : Nat) (O0 : Old Z n0 h0) (G : own_Gl Z cs wf wK0 wK1 wK2 wK3 wL) (E_ob0 : Exa Z h0 ob0 "com/example/assemble_quorum/assemblequorum/io/Message") (F_ob0_candidate : Fld Z h0 ob0 "com/example/assemble_quorum/assemblequorum/io/Message" "candidate" "Lcom/example/assemble_quorum/assemblequorum/model/MemberAddress;" .null) (F_ob0_kind : Fld Z h0 ob0 "com/example/assemble_quorum/assemblequorum/io/Message" "kind" "Lcom/example/assemble_quorum/assemblequorum/io/Message$Kind;" (.ref ob0_kind)) (F_ob0_leader : Fld Z h0 ob0 "com/example/assemble_quorum/assemblequorum/io/Message" "leader" "Lcom/example/assemble_quorum/assemblequorum/model/MemberAddress;" .null) (F_ob0_number : Fld Z h0 ob0 "com/example/assemble_quorum/assemblequorum/io/Message" "number" "Lcom/example/assemble_quorum/assemblequorum/model/ProposalNumber;" .null) (F_ob0_priorCandidate : Fld Z h0 ob0 "com/example/assemble_quorum/assemblequorum/io/Message" "priorCandidate" "Lcom/example/assemble_quorum/assemblequorum/model/MemberAddress;" (.ref ob0_priorCandidate)) (F_ob0_priorNumber : Fld Z h0 ob0 "com/example/assemble_quorum/assemblequorum/io/Message" "priorNumber" "Lcom/example/assemble_quorum/assemblequorum/model/ProposalNumber;" .null) :
    MetFree l own_y33 (head1 (Jvm.Cond.code own_y33 prog_17_method_22_code 1 (some (.object "com/example/assemble_quorum/assemblequorum/model/MemberAddress")) :: ws) ({ frames := 0, cells := 0, slots := 0, locals := 0 } : Room)) (fun a U => a = #[(.ref ob0)] ∧ Z.Warmed39 U.vm ∧ U.heap = h0) (fun _ _ _ _ _ => True) (fun _ U o U' => ∃ v L, o = .returned v ∧ own_Q_rmA45 Z ob0 ob0_kind ob0_priorCandidate cs wf wK0 wK1 wK2 wK3 wL h0 n0 v U'.heap L ∧ FrameEnd U o U' L ({ frames := 0, cells := 0, slots := 0, locals := 0 } : Room).cells ({ frames := 0, cells := 0, slots := 0, locals := 0 } : Room).slots) := by
  refine MetFree.of_bodySF (plainFor_of_name own_pn9) hisR ?_
  intro p e s m args below meth c s₁ Bd hml0 hP hK
  obtain ⟨rfl, hZ, hh⟩ := hP
  have hx := Bd.exec
  have hby := Bd.bytes
  have hml : c.maxLocals = 1 := hml0
  have hown : s.vm.findClass "com/example/assemble_quorum/assemblequorum/io/Message" = some m.cls := findClass_of_methodNamed Bd.named
  have hnm := (name_of_methodNamed Bd.named Bd.method).1
  have X0 : Stand p l e ({ frames := 0, cells := 0, slots := 0, locals := 0 } : Room) s m #[(.ref ob0)] below meth c s₁ [] 0 0 := Stand.of_body Bd
  have e0 : s₁.heap = h0 := by rw [← hh, Bd.state]; rfl
  have N0 := Fr.nil n0
  have Z0 : n0 ≤ h0.size := O0.1 ▸ O0.2.1
  have g0 : ∀ t, Steps p.tables e below (s₁.setTop (mkF m 0 #[.val (.ref ob0)] [])) t → Steps p.tables e below (s₁.setTop (entryFrame m #[(.ref ob0)] 1)) t := fun t k => castTop (own_ef47 m (ob0)) k
  have G0 := G
  obtain ⟨S_CS, hcs, S_WF, hwf, S_PROPOSAL_ANSWER, S_HELLO, S_EVENT, S_PING, S_L, Ex_L, Fa_L⟩ := G
  obtain ⟨T1, X1, e1, st1⟩ := getF X0 hx hZ hown (host := "") (Or.inl (own_w hw 169 rfl)) Via.refl e0 F_ob0_leader (g := (mkF m 1 #[.val (.ref ob0)] [(.ref ob0)])) rfl rfl (hb hby own_d35_1)
  have g2 : ∀ t, Steps p.tables e below (T1.setTop (mkF m 4 #[.val (.ref ob0)] [.null])) t → Steps p.tables e below (s₁.setTop (entryFrame m #[(.ref ob0)] 1)) t := by
    intro t k
    refine g0 t ?_
    show Steps p.tables e below (s₁.setTop (mkF m 0 #[.val (.ref ob0)] [])) _
    refine XS.aloadN X0.here hx rfl (hb hby own_d35_0) rfl rfl ?_
    refine st1 _ ?_
    exact k
  obtain ⟨fs, hrt, hrun, hended, hW, hsame⟩ := X1.leave (v := some .null) (fun h => by rw [Bd.returns] at h; cases h)
  refine ⟨_, _, g2 _ ?_, hrun, hended, _, _, rfl, ?_, ⟨_, rfl⟩, hW, hsame.mono (by decide) (by decide)⟩
  · show Steps p.tables e below (T1.setTop (mkF m 4 #[.val (.ref ob0)] [.null])) _
    jvm_step X1.here [X1.here.top, hx, (hb hby own_d35_4), X1.method', Bd.returns, Value.isRef, FieldType.isReference]
    first | (intro acts; rw [hrt _ acts rfl rfl rfl]) | rw [hrt _ _ rfl rfl rfl]
    exact Steps.refl _
  · show own_Q_rmA45 Z ob0 ob0_kind ob0_priorCandidate cs wf wK0 wK1 wK2 wK3 wL h0 n0 _ T1.heap _
    rw [e1]
    exact ⟨rfl, N0, rfl⟩
theorem own_ef48 (m : MethodId) (x0 : Addr) (x2 : Addr) : entryFrame m #[(.ref x0), .null, (.ref x2)] 3 = mkF m 0 #[.val (.ref x0), .val .null, .val (.ref x2)] [] := by first | (simp [entryFrame, mkF, argsToLocals, Value.category]; done) | rfl
def own_Q_rmA46 (Z : State) (ob0 : Addr) (ob0_kind : Addr) (ob0_priorCandidate : Addr) (ob0_priorNumber : Addr)  (cs : Int32) (wf : Value) (wK0 : Addr) (wK1 : Addr) (wK2 : Addr) (wK3 : Addr) (wL : Addr) (h0 : Heap) (n0 : Nat) (v : Option Value) (h : Heap) (L : List Loc) : Prop := v = some (.ref ob0) ∧ Fr n0 L ∧ Keep h0 h [ob0] ∧ Exa Z h ob0 "com/example/assemble_quorum/assemblequorum/io/Message$Builder" ∧ Fld Z h ob0 "com/example/assemble_quorum/assemblequorum/io/Message$Builder" "members" "Ljava/util/List;" (.ref wL) ∧ Fld Z h ob0 "com/example/assemble_quorum/assemblequorum/io/Message$Builder" "kind" "Lcom/example/assemble_quorum/assemblequorum/io/Message$Kind;" (.ref ob0_kind) ∧ Fld Z h ob0 "com/example/assemble_quorum/assemblequorum/io/Message$Builder" "priorNumber" "Lcom/example/assemble_quorum/assemblequorum/model/ProposalNumber;" .null ∧ Fld Z h ob0 "com/example/assemble_quorum/assemblequorum/io/Message$Builder" "priorCandidate" "Lcom/example/assemble_quorum/assemblequorum/model/MemberAddress;" (.ref ob0_priorCandidate) ∧ Fld Z h ob0 "com/example/assemble_quorum/assemblequorum/io/Message$Builder" "sender" "Lcom/example/assemble_quorum/assemblequorum/model/MemberAddress;" .null ∧ Fld Z h ob0 "com/example/assemble_quorum/assemblequorum/io/Message$Builder" "leader" "Lcom/example/assemble_quorum/assemblequorum/model/MemberAddress;" .null ∧ Fld Z h ob0 "com/example/assemble_quorum/assemblequorum/io/Message$Builder" "version" "J" (.long (0 : Int64)) ∧ Fld Z h ob0 "com/example/assemble_quorum/assemblequorum/io/Message$Builder" "number" "Lcom/example/assemble_quorum/assemblequorum/model/ProposalNumber;" .null ∧ Fld Z h ob0 "com/example/assemble_quorum/assemblequorum/io/Message$Builder" "candidate" "Lcom/example/assemble_quorum/assemblequorum/model/MemberAddress;" .null ∧ Fld Z h ob0 "com/example/assemble_quorum/assemblequorum/io/Message$Builder" "granted" "Z" (.int (0 : Int32)) ∧ Fld Z h ob0 "com/example/assemble_quorum/assemblequorum/io/Message$Builder" "topic" "Ljava/lang/String;" .null ∧ Fld Z h ob0 "com/example/assemble_quorum/assemblequorum/io/Message$Builder" "payload" "[B" .null
set_option maxRecDepth 65536 in
set_option maxHeartbeats 40000000 in
theorem rmA46 (l : Launch) (Z : State) (a0 : Array Value) (hw : ∀ d ∈ tables_1, d.before a0 Z = true) (ws : List Jvm.Cond) (ob0 : Addr) (ob0_kind : Addr) (ob0_priorCandidate : Addr) (ob0_priorNumber : Addr)  (cs : Int32) (wf : Value) (wK0 : Addr) (wK1 : Addr) (wK2 : Addr) (wK3 : Addr) (wL : Addr) (h0 : Heap) (n0 : Nat) (O0 : Old Z n0 h0) (G : own_Gl Z cs wf wK0 wK1 wK2 wK3 wL) (E_ob0 : Exa Z h0 ob0 "com/example/assemble_quorum/assemblequorum/io/Message$Builder") (F_ob0_candidate : Fld Z h0 ob0 "com/example/assemble_quorum/assemblequorum/io/Message$Builder" "candidate" "Lcom/example/assemble_quorum/assemblequorum/model/MemberAddress;" .null) (F_ob0_granted : Fld Z h0 ob0 "com/example/assemble_quorum/assemblequorum/io/Message$Builder" "granted" "Z" (.int (0 : Int32))) (F_ob0_kind : Fld Z h0 ob0 "com/example/assemble_quorum/assemblequorum/io/Message$Builder" "kind" "Lcom/example/assemble_quorum/assemblequorum/io/Message$Kind;" (.ref ob0_kind)) (F_ob0_leader : Fld Z h0 ob0 "com/example/assemble_quorum/assemblequorum/io/Message$Builder" "leader" "Lcom/example/assemble_quorum/assemblequorum/model/MemberAddress;" .null) (F_ob0_members : Fld Z h0 ob0 "com/example/assemble_quorum/assemblequorum/io/Message$Builder" "members" "Ljava/util/List;" (.ref wL)) (F_ob0_number : Fld Z h0 ob0 "com/example/assemble_quorum/assemblequorum/io/Message$Builder" "number" "Lcom/example/assemble_quorum/assemblequorum/model/ProposalNumber;" .null) (F_ob0_payload : Fld Z h0 ob0 "com/example/assemble_quorum/assemblequorum/io/Message$Builder" "payload" "[B" .null) (F_ob0_priorCandidate : Fld Z h0 ob0 "com/example/assemble_quorum/assemblequorum/io/Message$Builder" "priorCandidate" "Lcom/example/assemble_quorum/assemblequorum/model/MemberAddress;" (.ref ob0_priorCandidate)) (F_ob0_priorNumber : Fld Z h0 ob0 "com/example/assemble_quorum/assemblequorum/io/Message$Builder" "priorNumber" "Lcom/example/assemble_quorum/assemblequorum/model/ProposalNumber;" (.ref ob0_priorNumber)) (F_ob0_sender : Fld Z h0 ob0 "com/example/assemble_quorum/assemblequorum/io/Message$Builder" "sender" "Lcom/example/assemble_quorum/assemblequorum/model/MemberAddress;" .null) (F_ob0_topic : Fld Z h0 ob0 "com/example/assemble_quorum/assemblequorum/io/Message$Builder" "topic" "Ljava/lang/String;" .null) (F_ob0_version : Fld Z h0 ob0 "com/example/assemble_quorum/assemblequorum/io/Message$Builder" "version" "J" (.long (0 : Int64))) (gz_ob0 : n0 ≤ ob0) :
    MetFree l own_y23 (head1 (Jvm.Cond.code own_y23 prog_18_method_8_code 3 (some (.object "com/example/assemble_quorum/assemblequorum/io/Message$Builder")) :: ws) ({ frames := 0, cells := 0, slots := 0, locals := 0 } : Room)) (fun a U => a = #[(.ref ob0), .null, (.ref ob0_priorCandidate)] ∧ Z.Warmed39 U.vm ∧ U.heap = h0) (fun _ _ _ _ _ => True) (fun _ U o U' => ∃ v L, o = .returned v ∧ own_Q_rmA46 Z ob0 ob0_kind ob0_priorCandidate ob0_priorNumber cs wf wK0 wK1 wK2 wK3 wL h0 n0 v U'.heap L ∧ FrameEnd U o U' L ({ frames := 0, cells := 0, slots := 0, locals := 0 } : Room).cells ({ frames := 0, cells := 0, slots := 0, locals := 0 } : Room).slots) := by
  refine MetFree.of_bodySF (plainFor_of_name own_pn7) hisR ?_
  intro p e s m args below meth c s₁ Bd hml0 hP hK
  obtain ⟨rfl, hZ, hh⟩ := hP
  have hx := Bd.exec
  have hby := Bd.bytes
  have hml : c.maxLocals = 3 := hml0
  have hown : s.vm.findClass "com/example/assemble_quorum/assemblequorum/io/Message$Builder" = some m.cls := findClass_of_methodNamed Bd.named
  have hnm := (name_of_methodNamed Bd.named Bd.method).1
  have X0 : Stand p l e ({ frames := 0, cells := 0, slots := 0, locals := 0 } : Room) s m #[(.ref ob0), .null, (.ref ob0_priorCandidate)] below meth c s₁ [] 0 0 := Stand.of_body Bd
  have e0 : s₁.heap = h0 := by rw [← hh, Bd.state]; rfl
  have N0 := Fr.nil n0
  have Z0 : n0 ≤ h0.size := O0.1 ▸ O0.2.1
  have g0 : ∀ t, Steps p.tables e below (s₁.setTop (mkF m 0 #[.val (.ref ob0), .val .null, .val (.ref ob0_priorCandidate)] [])) t → Steps p.tables e below (s₁.setTop (entryFrame m #[(.ref ob0), .null, (.ref ob0_priorCandidate)] 3)) t := fun t k => castTop (own_ef48 m (ob0) (ob0_priorCandidate)) k
  have G0 := G
  obtain ⟨S_CS, hcs, S_WF, hwf, S_PROPOSAL_ANSWER, S_HELLO, S_EVENT, S_PING, S_L, Ex_L, Fa_L⟩ := G
  obtain ⟨T1, h1, X1, e1, W1, st1⟩ := putF X0 hx hZ hown (host := "") (Or.inl (own_w hw 144 rfl)) Via.refl e0 F_ob0_priorNumber E_ob0 (Or.inl (own_w hw 145 rfl)) (own_w hw 123 rfl) (ty := (.object "com/example/assemble_quorum/assemblequorum/model/ProposalNumber")) (by decide) rfl rfl (g := (mkF m 2 #[.val (.ref ob0), .val .null, .val (.ref ob0_priorCandidate)] [.null, (.ref ob0)])) rfl rfl (hb hby own_d25_2)
  have Fw1 := F_ob0_priorNumber.same W1
  have N1 := Fr.snoc X1 N0 gz_ob0
  have f2 := (E_ob0.wr W1)
  have f3 := (F_ob0_priorCandidate.other W1 (Or.inr (slot_ne (own_la7 hw) (own_la6 hw) (by decide) own_ty2 own_ty6)))
  obtain ⟨T4, h4, X4, e4, W4, st4⟩ := putF X1 hx hZ hown (host := "") (Or.inl (own_w hw 146 rfl)) Via.refl e1 f3 f2 (Or.inl (own_w hw 147 rfl)) (own_w hw 123 rfl) (ty := (.object "com/example/assemble_quorum/assemblequorum/model/MemberAddress")) (by decide) rfl rfl (g := (mkF m 7 #[.val (.ref ob0), .val .null, .val (.ref ob0_priorCandidate)] [(.ref ob0_priorCandidate), (.ref ob0)])) rfl rfl (hb hby own_d25_7)
  have Fw4 := f3.same W4
  have N4 := Fr.snoc X4 N1 gz_ob0
  have g5 : ∀ t, Steps p.tables e below (T4.setTop (mkF m 11 #[.val (.ref ob0), .val .null, .val (.ref ob0_priorCandidate)] [(.ref ob0)])) t → Steps p.tables e below (s₁.setTop (entryFrame m #[(.ref ob0), .null, (.ref ob0_priorCandidate)] 3)) t := by
    intro t k
    refine g0 t ?_
    show Steps p.tables e below (s₁.setTop (mkF m 0 #[.val (.ref ob0), .val .null, .val (.ref ob0_priorCandidate)] [])) _
    refine XS.aloadN X0.here hx rfl (hb hby own_d25_0) rfl rfl ?_
    refine XS.aloadN X0.here hx rfl (hb hby own_d25_1) rfl rfl ?_
    refine st1 _ ?_
    refine XS.aloadN X1.here hx rfl (hb hby own_d25_5) rfl rfl ?_
    refine XS.aloadN X1.here hx rfl (hb hby own_d25_6) rfl rfl ?_
    refine st4 _ ?_
    refine XS.aloadN X4.here hx rfl (hb hby own_d25_10) rfl rfl ?_
    exact k
  obtain ⟨fs, hrt, hrun, hended, hW, hsame⟩ := X4.leave (v := some (.ref ob0)) (fun h => by rw [Bd.returns] at h; cases h)
  have f6 := (f2.wr W4)
  have f7 := ((F_ob0_members.other W1 (Or.inr (slot_ne (own_la5 hw) (own_la6 hw) (by decide) own_ty5 own_ty6))).other W4 (Or.inr (slot_ne (own_la5 hw) (own_la7 hw) (by decide) own_ty5 own_ty2)))
  have f8 := ((F_ob0_kind.other W1 (Or.inr (slot_ne (own_la4 hw) (own_la6 hw) (by decide) own_ty4 own_ty6))).other W4 (Or.inr (slot_ne (own_la4 hw) (own_la7 hw) (by decide) own_ty4 own_ty2)))
  have f9 := (Fw1.other W4 (Or.inr (slot_ne (own_la6 hw) (own_la7 hw) (by decide) own_ty6 own_ty2)))
  have f10 := ((F_ob0_sender.other W1 (Or.inr (slot_ne (own_la8 hw) (own_la6 hw) (by decide) own_ty2 own_ty6))).other W4 (Or.inr (slot_ne (own_la8 hw) (own_la7 hw) (by decide) own_ty2 own_ty2)))
  have f11 := ((F_ob0_leader.other W1 (Or.inr (slot_ne (own_la9 hw) (own_la6 hw) (by decide) own_ty2 own_ty6))).other W4 (Or.inr (slot_ne (own_la9 hw) (own_la7 hw) (by decide) own_ty2 own_ty2)))
  have f12 := ((F_ob0_version.other W1 (Or.inr (slot_ne (own_la10 hw) (own_la6 hw) (by decide) own_ty3 own_ty6))).other W4 (Or.inr (slot_ne (own_la10 hw) (own_la7 hw) (by decide) own_ty3 own_ty2)))
  have f13 := ((F_ob0_number.other W1 (Or.inr (slot_ne (own_la11 hw) (own_la6 hw) (by decide) own_ty6 own_ty6))).other W4 (Or.inr (slot_ne (own_la11 hw) (own_la7 hw) (by decide) own_ty6 own_ty2)))
  have f14 := ((F_ob0_candidate.other W1 (Or.inr (slot_ne (own_la12 hw) (own_la6 hw) (by decide) own_ty2 own_ty6))).other W4 (Or.inr (slot_ne (own_la12 hw) (own_la7 hw) (by decide) own_ty2 own_ty2)))
  have f15 := ((F_ob0_granted.other W1 (Or.inr (slot_ne (own_la13 hw) (own_la6 hw) (by decide) own_ty7 own_ty6))).other W4 (Or.inr (slot_ne (own_la13 hw) (own_la7 hw) (by decide) own_ty7 own_ty2)))
  have f16 := ((F_ob0_topic.other W1 (Or.inr (slot_ne (own_la14 hw) (own_la6 hw) (by decide) own_ty1 own_ty6))).other W4 (Or.inr (slot_ne (own_la14 hw) (own_la7 hw) (by decide) own_ty1 own_ty2)))
  have f17 := ((F_ob0_payload.other W1 (Or.inr (slot_ne (own_la15 hw) (own_la6 hw) (by decide) own_ty8 own_ty6))).other W4 (Or.inr (slot_ne (own_la15 hw) (own_la7 hw) (by decide) own_ty8 own_ty2)))
  refine ⟨_, _, g5 _ ?_, hrun, hended, _, _, rfl, ?_, ⟨_, rfl⟩, hW, hsame.mono (by decide) (by decide)⟩
  · show Steps p.tables e below (T4.setTop (mkF m 11 #[.val (.ref ob0), .val .null, .val (.ref ob0_priorCandidate)] [(.ref ob0)])) _
    jvm_step X4.here [X4.here.top, hx, (hb hby own_d25_11), X4.method', Bd.returns, Value.isRef, FieldType.isReference]
    first | (intro acts; rw [hrt _ acts rfl rfl rfl]) | rw [hrt _ _ rfl rfl rfl]
    exact Steps.refl _
  · show own_Q_rmA46 Z ob0 ob0_kind ob0_priorCandidate ob0_priorNumber cs wf wK0 wK1 wK2 wK3 wL h0 n0 _ T4.heap _
    rw [e4]
    exact ⟨rfl, N4, (Keep.wr (Keep.wr (Keep.refl h0 [ob0]) W1 (Or.inl (List.mem_of_getElem? (i := 0) rfl))) W4 (Or.inl (List.mem_of_getElem? (i := 0) rfl))), f6, f7, f8, f9, Fw4, f10, f11, f12, f13, f14, f15, f16, f17⟩
theorem own_ef49 (m : MethodId) (x0 : Addr) (x1 : Addr) : entryFrame m #[(.ref x0), (.ref x1), .null] 3 = mkF m 0 #[.val (.ref x0), .val (.ref x1), .val .null] [] := by first | (simp [entryFrame, mkF, argsToLocals, Value.category]; done) | rfl
def own_Q_rmA47 (Z : State) (ob0 : Addr) (ob0_kind : Addr) (ob1 : Addr)  (cs : Int32) (wf : Value) (wK0 : Addr) (wK1 : Addr) (wK2 : Addr) (wK3 : Addr) (wL : Addr) (h0 : Heap) (n0 : Nat) (v : Option Value) (h : Heap) (L : List Loc) : Prop := v = some (.ref ob0) ∧ Fr n0 L ∧ Keep h0 h [ob0] ∧ Exa Z h ob0 "com/example/assemble_quorum/assemblequorum/io/Message$Builder" ∧ Fld Z h ob0 "com/example/assemble_quorum/assemblequorum/io/Message$Builder" "members" "Ljava/util/List;" (.ref wL) ∧ Fld Z h ob0 "com/example/assemble_quorum/assemblequorum/io/Message$Builder" "kind" "Lcom/example/assemble_quorum/assemblequorum/io/Message$Kind;" (.ref ob0_kind) ∧ Fld Z h ob0 "com/example/assemble_quorum/assemblequorum/io/Message$Builder" "priorNumber" "Lcom/example/assemble_quorum/assemblequorum/model/ProposalNumber;" (.ref ob1) ∧ Fld Z h ob0 "com/example/assemble_quorum/assemblequorum/io/Message$Builder" "priorCandidate" "Lcom/example/assemble_quorum/assemblequorum/model/MemberAddress;" .null ∧ Fld Z h ob0 "com/example/assemble_quorum/assemblequorum/io/Message$Builder" "sender" "Lcom/example/assemble_quorum/assemblequorum/model/MemberAddress;" .null ∧ Fld Z h ob0 "com/example/assemble_quorum/assemblequorum/io/Message$Builder" "leader" "Lcom/example/assemble_quorum/assemblequorum/model/MemberAddress;" .null ∧ Fld Z h ob0 "com/example/assemble_quorum/assemblequorum/io/Message$Builder" "version" "J" (.long (0 : Int64)) ∧ Fld Z h ob0 "com/example/assemble_quorum/assemblequorum/io/Message$Builder" "number" "Lcom/example/assemble_quorum/assemblequorum/model/ProposalNumber;" .null ∧ Fld Z h ob0 "com/example/assemble_quorum/assemblequorum/io/Message$Builder" "candidate" "Lcom/example/assemble_quorum/assemblequorum/model/MemberAddress;" .null ∧ Fld Z h ob0 "com/example/assemble_quorum/assemblequorum/io/Message$Builder" "granted" "Z" (.int (0 : Int32)) ∧ Fld Z h ob0 "com/example/assemble_quorum/assemblequorum/io/Message$Builder" "topic" "Ljava/lang/String;" .null ∧ Fld Z h ob0 "com/example/assemble_quorum/assemblequorum/io/Message$Builder" "payload" "[B" .null
set_option maxRecDepth 65536 in
set_option maxHeartbeats 40000000 in
theorem rmA47 (l : Launch) (Z : State) (a0 : Array Value) (hw : ∀ d ∈ tables_1, d.before a0 Z = true) (ws : List Jvm.Cond) (ob0 : Addr) (ob0_kind : Addr) (ob1 : Addr)  (cs : Int32) (wf : Value) (wK0 : Addr) (wK1 : Addr) (wK2 : Addr) (wK3 : Addr) (wL : Addr) (h0 : Heap) (n0 : Nat) (O0 : Old Z n0 h0) (G : own_Gl Z cs wf wK0 wK1 wK2 wK3 wL) (E_ob0 : Exa Z h0 ob0 "com/example/assemble_quorum/assemblequorum/io/Message$Builder") (F_ob0_candidate : Fld Z h0 ob0 "com/example/assemble_quorum/assemblequorum/io/Message$Builder" "candidate" "Lcom/example/assemble_quorum/assemblequorum/model/MemberAddress;" .null) (F_ob0_granted : Fld Z h0 ob0 "com/example/assemble_quorum/assemblequorum/io/Message$Builder" "granted" "Z" (.int (0 : Int32))) (F_ob0_kind : Fld Z h0 ob0 "com/example/assemble_quorum/assemblequorum/io/Message$Builder" "kind" "Lcom/example/assemble_quorum/assemblequorum/io/Message$Kind;" (.ref ob0_kind)) (F_ob0_leader : Fld Z h0 ob0 "com/example/assemble_quorum/assemblequorum/io/Message$Builder" "leader" "Lcom/example/assemble_quorum/assemblequorum/model/MemberAddress;" .null) (F_ob0_members : Fld Z h0 ob0 "com/example/assemble_quorum/assemblequorum/io/Message$Builder" "members" "Ljava/util/List;" (.ref wL)) (F_ob0_number : Fld Z h0 ob0 "com/example/assemble_quorum/assemblequorum/io/Message$Builder" "number" "Lcom/example/assemble_quorum/assemblequorum/model/ProposalNumber;" .null) (F_ob0_payload : Fld Z h0 ob0 "com/example/assemble_quorum/assemblequorum/io/Message$Builder" "payload" "[B" .null) (F_ob0_priorCandidate : Fld Z h0 ob0 "com/example/assemble_quorum/assemblequorum/io/Message$Builder" "priorCandidate" "Lcom/example/assemble_quorum/assemblequorum/model/MemberAddress;" .null) (F_ob0_priorNumber : Fld Z h0 ob0 "com/example/assemble_quorum/assemblequorum/io/Message$Builder" "priorNumber" "Lcom/example/assemble_quorum/assemblequorum/model/ProposalNumber;" .null) (F_ob0_sender : Fld Z h0 ob0 "com/example/assemble_quorum/assemblequorum/io/Message$Builder" "sender" "Lcom/example/assemble_quorum/assemblequorum/model/MemberAddress;" .null) (F_ob0_topic : Fld Z h0 ob0 "com/example/assemble_quorum/assemblequorum/io/Message$Builder" "topic" "Ljava/lang/String;" .null) (F_ob0_version : Fld Z h0 ob0 "com/example/assemble_quorum/assemblequorum/io/Message$Builder" "version" "J" (.long (0 : Int64))) (gz_ob0 : n0 ≤ ob0) :
    MetFree l own_y23 (head1 (Jvm.Cond.code own_y23 prog_18_method_8_code 3 (some (.object "com/example/assemble_quorum/assemblequorum/io/Message$Builder")) :: ws) ({ frames := 0, cells := 0, slots := 0, locals := 0 } : Room)) (fun a U => a = #[(.ref ob0), (.ref ob1), .null] ∧ Z.Warmed39 U.vm ∧ U.heap = h0) (fun _ _ _ _ _ => True) (fun _ U o U' => ∃ v L, o = .returned v ∧ own_Q_rmA47 Z ob0 ob0_kind ob1 cs wf wK0 wK1 wK2 wK3 wL h0 n0 v U'.heap L ∧ FrameEnd U o U' L ({ frames := 0, cells := 0, slots := 0, locals := 0 } : Room).cells ({ frames := 0, cells := 0, slots := 0, locals := 0 } : Room).slots) := by
  refine MetFree.of_bodySF (plainFor_of_name own_pn7) hisR ?_
  intro p e s m args below meth c s₁ Bd hml0 hP hK
  obtain ⟨rfl, hZ, hh⟩ := hP
  have hx := Bd.exec
  have hby := Bd.bytes
  have hml : c.maxLocals = 3 := hml0
  have hown : s.vm.findClass "com/example/assemble_quorum/assemblequorum/io/Message$Builder" = some m.cls := findClass_of_methodNamed Bd.named
  have hnm := (name_of_methodNamed Bd.named Bd.method).1
  have X0 : Stand p l e ({ frames := 0, cells := 0, slots := 0, locals := 0 } : Room) s m #[(.ref ob0), (.ref ob1), .null] below meth c s₁ [] 0 0 := Stand.of_body Bd
  have e0 : s₁.heap = h0 := by rw [← hh, Bd.state]; rfl
  have N0 := Fr.nil n0
  have Z0 : n0 ≤ h0.size := O0.1 ▸ O0.2.1
  have g0 : ∀ t, Steps p.tables e below (s₁.setTop (mkF m 0 #[.val (.ref ob0), .val (.ref ob1), .val .null] [])) t → Steps p.tables e below (s₁.setTop (entryFrame m #[(.ref ob0), (.ref ob1), .null] 3)) t := fun t k => castTop (own_ef49 m (ob0) (ob1)) k
  have G0 := G
  obtain ⟨S_CS, hcs, S_WF, hwf, S_PROPOSAL_ANSWER, S_HELLO, S_EVENT, S_PING, S_L, Ex_L, Fa_L⟩ := G
  obtain ⟨T1, h1, X1, e1, W1, st1⟩ := putF X0 hx hZ hown (host := "") (Or.inl (own_w hw 144 rfl)) Via.refl e0 F_ob0_priorNumber E_ob0 (Or.inl (own_w hw 145 rfl)) (own_w hw 123 rfl) (ty := (.object "com/example/assemble_quorum/assemblequorum/model/ProposalNumber")) (by decide) rfl rfl (g := (mkF m 2 #[.val (.ref ob0), .val (.ref ob1), .val .null] [(.ref ob1), (.ref ob0)])) rfl rfl (hb hby own_d25_2)
  have Fw1 := F_ob0_priorNumber.same W1
  have N1 := Fr.snoc X1 N0 gz_ob0
  have f2 := (E_ob0.wr W1)
  have f3 := (F_ob0_priorCandidate.other W1 (Or.inr (slot_ne (own_la7 hw) (own_la6 hw) (by decide) own_ty2 own_ty6)))
  obtain ⟨T4, h4, X4, e4, W4, st4⟩ := putF X1 hx hZ hown (host := "") (Or.inl (own_w hw 146 rfl)) Via.refl e1 f3 f2 (Or.inl (own_w hw 147 rfl)) (own_w hw 123 rfl) (ty := (.object "com/example/assemble_quorum/assemblequorum/model/MemberAddress")) (by decide) rfl rfl (g := (mkF m 7 #[.val (.ref ob0), .val (.ref ob1), .val .null] [.null, (.ref ob0)])) rfl rfl (hb hby own_d25_7)
  have Fw4 := f3.same W4
  have N4 := Fr.snoc X4 N1 gz_ob0
  have g5 : ∀ t, Steps p.tables e below (T4.setTop (mkF m 11 #[.val (.ref ob0), .val (.ref ob1), .val .null] [(.ref ob0)])) t → Steps p.tables e below (s₁.setTop (entryFrame m #[(.ref ob0), (.ref ob1), .null] 3)) t := by
    intro t k
    refine g0 t ?_
    show Steps p.tables e below (s₁.setTop (mkF m 0 #[.val (.ref ob0), .val (.ref ob1), .val .null] [])) _
    refine XS.aloadN X0.here hx rfl (hb hby own_d25_0) rfl rfl ?_
    refine XS.aloadN X0.here hx rfl (hb hby own_d25_1) rfl rfl ?_
    refine st1 _ ?_
    refine XS.aloadN X1.here hx rfl (hb hby own_d25_5) rfl rfl ?_
    refine XS.aloadN X1.here hx rfl (hb hby own_d25_6) rfl rfl ?_
    refine st4 _ ?_
    refine XS.aloadN X4.here hx rfl (hb hby own_d25_10) rfl rfl ?_
    exact k
  obtain ⟨fs, hrt, hrun, hended, hW, hsame⟩ := X4.leave (v := some (.ref ob0)) (fun h => by rw [Bd.returns] at h; cases h)
  have f6 := (f2.wr W4)
  have f7 := ((F_ob0_members.other W1 (Or.inr (slot_ne (own_la5 hw) (own_la6 hw) (by decide) own_ty5 own_ty6))).other W4 (Or.inr (slot_ne (own_la5 hw) (own_la7 hw) (by decide) own_ty5 own_ty2)))
  have f8 := ((F_ob0_kind.other W1 (Or.inr (slot_ne (own_la4 hw) (own_la6 hw) (by decide) own_ty4 own_ty6))).other W4 (Or.inr (slot_ne (own_la4 hw) (own_la7 hw) (by decide) own_ty4 own_ty2)))
  have f9 := (Fw1.other W4 (Or.inr (slot_ne (own_la6 hw) (own_la7 hw) (by decide) own_ty6 own_ty2)))
  have f10 := ((F_ob0_sender.other W1 (Or.inr (slot_ne (own_la8 hw) (own_la6 hw) (by decide) own_ty2 own_ty6))).other W4 (Or.inr (slot_ne (own_la8 hw) (own_la7 hw) (by decide) own_ty2 own_ty2)))
  have f11 := ((F_ob0_leader.other W1 (Or.inr (slot_ne (own_la9 hw) (own_la6 hw) (by decide) own_ty2 own_ty6))).other W4 (Or.inr (slot_ne (own_la9 hw) (own_la7 hw) (by decide) own_ty2 own_ty2)))
  have f12 := ((F_ob0_version.other W1 (Or.inr (slot_ne (own_la10 hw) (own_la6 hw) (by decide) own_ty3 own_ty6))).other W4 (Or.inr (slot_ne (own_la10 hw) (own_la7 hw) (by decide) own_ty3 own_ty2)))
  have f13 := ((F_ob0_number.other W1 (Or.inr (slot_ne (own_la11 hw) (own_la6 hw) (by decide) own_ty6 own_ty6))).other W4 (Or.inr (slot_ne (own_la11 hw) (own_la7 hw) (by decide) own_ty6 own_ty2)))
  have f14 := ((F_ob0_candidate.other W1 (Or.inr (slot_ne (own_la12 hw) (own_la6 hw) (by decide) own_ty2 own_ty6))).other W4 (Or.inr (slot_ne (own_la12 hw) (own_la7 hw) (by decide) own_ty2 own_ty2)))
  have f15 := ((F_ob0_granted.other W1 (Or.inr (slot_ne (own_la13 hw) (own_la6 hw) (by decide) own_ty7 own_ty6))).other W4 (Or.inr (slot_ne (own_la13 hw) (own_la7 hw) (by decide) own_ty7 own_ty2)))
  have f16 := ((F_ob0_topic.other W1 (Or.inr (slot_ne (own_la14 hw) (own_la6 hw) (by decide) own_ty1 own_ty6))).other W4 (Or.inr (slot_ne (own_la14 hw) (own_la7 hw) (by decide) own_ty1 own_ty2)))
  have f17 := ((F_ob0_payload.other W1 (Or.inr (slot_ne (own_la15 hw) (own_la6 hw) (by decide) own_ty8 own_ty6))).other W4 (Or.inr (slot_ne (own_la15 hw) (own_la7 hw) (by decide) own_ty8 own_ty2)))
  refine ⟨_, _, g5 _ ?_, hrun, hended, _, _, rfl, ?_, ⟨_, rfl⟩, hW, hsame.mono (by decide) (by decide)⟩
  · show Steps p.tables e below (T4.setTop (mkF m 11 #[.val (.ref ob0), .val (.ref ob1), .val .null] [(.ref ob0)])) _
    jvm_step X4.here [X4.here.top, hx, (hb hby own_d25_11), X4.method', Bd.returns, Value.isRef, FieldType.isReference]
    first | (intro acts; rw [hrt _ acts rfl rfl rfl]) | rw [hrt _ _ rfl rfl rfl]
    exact Steps.refl _
  · show own_Q_rmA47 Z ob0 ob0_kind ob1 cs wf wK0 wK1 wK2 wK3 wL h0 n0 _ T4.heap _
    rw [e4]
    exact ⟨rfl, N4, (Keep.wr (Keep.wr (Keep.refl h0 [ob0]) W1 (Or.inl (List.mem_of_getElem? (i := 0) rfl))) W4 (Or.inl (List.mem_of_getElem? (i := 0) rfl))), f6, f7, f8, f9, Fw4, f10, f11, f12, f13, f14, f15, f16, f17⟩
theorem own_ef50 (m : MethodId) (x0 : Addr) : entryFrame m #[(.ref x0)] 1 = mkF m 0 #[.val (.ref x0)] [] := by first | (simp [entryFrame, mkF, argsToLocals, Value.category]; done) | rfl
theorem own_ef51 (m : MethodId) (x0 : Addr) (x1 : Addr) : entryFrame m #[(.ref x0), (.ref x1)] 2 = mkF m 0 #[.val (.ref x0), .val (.ref x1)] [] := by first | (simp [entryFrame, mkF, argsToLocals, Value.category]; done) | rfl
def own_Q_rmA49 (Z : State) (ob0 : Addr) (ob1 : Addr) (ob1_kind : Addr) (ob1_priorNumber : Addr)  (cs : Int32) (wf : Value) (wK0 : Addr) (wK1 : Addr) (wK2 : Addr) (wK3 : Addr) (wL : Addr) (h0 : Heap) (n0 : Nat) (v : Option Value) (h : Heap) (L : List Loc) : Prop := v = none ∧ Fr n0 L ∧ Keep h0 h [ob0] ∧ Exa Z h ob0 "com/example/assemble_quorum/assemblequorum/io/Message" ∧ Fld Z h ob0 "com/example/assemble_quorum/assemblequorum/io/Message" "kind" "Lcom/example/assemble_quorum/assemblequorum/io/Message$Kind;" (.ref ob1_kind) ∧ Fld Z h ob0 "com/example/assemble_quorum/assemblequorum/io/Message" "priorNumber" "Lcom/example/assemble_quorum/assemblequorum/model/ProposalNumber;" (.ref ob1_priorNumber) ∧ Fld Z h ob0 "com/example/assemble_quorum/assemblequorum/io/Message" "priorCandidate" "Lcom/example/assemble_quorum/assemblequorum/model/MemberAddress;" .null ∧ Fld Z h ob0 "com/example/assemble_quorum/assemblequorum/io/Message" "number" "Lcom/example/assemble_quorum/assemblequorum/model/ProposalNumber;" .null ∧ Fld Z h ob0 "com/example/assemble_quorum/assemblequorum/io/Message" "candidate" "Lcom/example/assemble_quorum/assemblequorum/model/MemberAddress;" .null ∧ Fld Z h ob0 "com/example/assemble_quorum/assemblequorum/io/Message" "leader" "Lcom/example/assemble_quorum/assemblequorum/model/MemberAddress;" .null
set_option maxRecDepth 65536 in
set_option maxHeartbeats 40000000 in
theorem rmA49 (l : Launch) (Z : State) (a0 : Array Value) (hw : ∀ d ∈ tables_1, d.before a0 Z = true) (ws : List Jvm.Cond) (ob0 : Addr) (ob1 : Addr) (ob1_kind : Addr) (ob1_priorNumber : Addr)  (cs : Int32) (wf : Value) (wK0 : Addr) (wK1 : Addr) (wK2 : Addr) (wK3 : Addr) (wL : Addr) (h0 : Heap) (n0 : Nat) (O0 : Old Z n0 h0) (G : own_Gl Z cs wf wK0 wK1 wK2 wK3 wL) (E_ob0 : Exa Z h0 ob0 "com/example/assemble_quorum/assemblequorum/io/Message") (F_ob0_candidate : Fld Z h0 ob0 "com/example/assemble_quorum/assemblequorum/io/Message" "candidate" "Lcom/example/assemble_quorum/assemblequorum/model/MemberAddress;" .null) (F_ob0_granted : Fld Z h0 ob0 "com/example/assemble_quorum/assemblequorum/io/Message" "granted" "Z" (.int (0 : Int32))) (F_ob0_kind : Fld Z h0 ob0 "com/example/assemble_quorum/assemblequorum/io/Message" "kind" "Lcom/example/assemble_quorum/assemblequorum/io/Message$Kind;" .null) (F_ob0_leader : Fld Z h0 ob0 "com/example/assemble_quorum/assemblequorum/io/Message" "leader" "Lcom/example/assemble_quorum/assemblequorum/model/MemberAddress;" .null) (F_ob0_members : Fld Z h0 ob0 "com/example/assemble_quorum/assemblequorum/io/Message" "members" "Ljava/util/List;" .null) (F_ob0_number : Fld Z h0 ob0 "com/example/assemble_quorum/assemblequorum/io/Message" "number" "Lcom/example/assemble_quorum/assemblequorum/model/ProposalNumber;" .null) (F_ob0_payload : Fld Z h0 ob0 "com/example/assemble_quorum/assemblequorum/io/Message" "payload" "[B" .null) (F_ob0_priorCandidate : Fld Z h0 ob0 "com/example/assemble_quorum/assemblequorum/io/Message" "priorCandidate" "Lcom/example/assemble_quorum/assemblequorum/model/MemberAddress;" .null) (F_ob0_priorNumber : Fld Z h0 ob0 "com/example/assemble_quorum/assemblequorum/io/Message" "priorNumber" "Lcom/example/assemble_quorum/assemblequorum/model/ProposalNumber;" .null) (F_ob0_sender : Fld Z h0 ob0 "com/example/assemble_quorum/assemblequorum/io/Message" "sender" "Lcom/example/assemble_quorum/assemblequorum/model/MemberAddress;" .null) (F_ob0_topic : Fld Z h0 ob0 "com/example/assemble_quorum/assemblequorum/io/Message" "topic" "Ljava/lang/String;" .null) (F_ob0_version : Fld Z h0 ob0 "com/example/assemble_quorum/assemblequorum/io/Message" "version" "J" (.long (0 : Int64))) (E_ob1 : Exa Z h0 ob1 "com/example/assemble_quorum/assemblequorum/io/Message$Builder") (F_ob1_candidate : Fld Z h0 ob1 "com/example/assemble_quorum/assemblequorum/io/Message$Builder" "candidate" "Lcom/example/assemble_quorum/assemblequorum/model/MemberAddress;" .null) (F_ob1_granted : Fld Z h0 ob1 "com/example/assemble_quorum/assemblequorum/io/Message$Builder" "granted" "Z" (.int (0 : Int32))) (F_ob1_kind : Fld Z h0 ob1 "com/example/assemble_quorum/assemblequorum/io/Message$Builder" "kind" "Lcom/example/assemble_quorum/assemblequorum/io/Message$Kind;" (.ref ob1_kind)) (F_ob1_leader : Fld Z h0 ob1 "com/example/assemble_quorum/assemblequorum/io/Message$Builder" "leader" "Lcom/example/assemble_quorum/assemblequorum/model/MemberAddress;" .null) (F_ob1_members : Fld Z h0 ob1 "com/example/assemble_quorum/assemblequorum/io/Message$Builder" "members" "Ljava/util/List;" (.ref wL)) (F_ob1_number : Fld Z h0 ob1 "com/example/assemble_quorum/assemblequorum/io/Message$Builder" "number" "Lcom/example/assemble_quorum/assemblequorum/model/ProposalNumber;" .null) (F_ob1_payload : Fld Z h0 ob1 "com/example/assemble_quorum/assemblequorum/io/Message$Builder" "payload" "[B" .null) (F_ob1_priorCandidate : Fld Z h0 ob1 "com/example/assemble_quorum/assemblequorum/io/Message$Builder" "priorCandidate" "Lcom/example/assemble_quorum/assemblequorum/model/MemberAddress;" .null) (F_ob1_priorNumber : Fld Z h0 ob1 "com/example/assemble_quorum/assemblequorum/io/Message$Builder" "priorNumber" "Lcom/example/assemble_quorum/assemblequorum/model/ProposalNumber;" (.ref ob1_priorNumber)) (F_ob1_sender : Fld Z h0 ob1 "com/example/assemble_quorum/assemblequorum/io/Message$Builder" "sender" "Lcom/example/assemble_quorum/assemblequorum/model/MemberAddress;" .null) (F_ob1_topic : Fld Z h0 ob1 "com/example/assemble_quorum/assemblequorum/io/Message$Builder" "topic" "Ljava/lang/String;" .null) (F_ob1_version : Fld Z h0 ob1 "com/example/assemble_quorum/assemblequorum/io/Message$Builder" "version" "J" (.long (0 : Int64))) (gz_ob0 : n0 ≤ ob0) :
    MetFree l own_y25 (head1 (Jvm.Cond.code own_y25 prog_17_method_1_code 2 none :: ws) ({ frames := 2, cells := 0, slots := 0, locals := 26 } : Room)) (fun a U => a = #[(.ref ob0), (.ref ob1)] ∧ Z.Warmed39 U.vm ∧ U.heap = h0) (fun _ _ _ _ _ => True) (fun _ U o U' => ∃ v L, o = .returned v ∧ own_Q_rmA49 Z ob0 ob1 ob1_kind ob1_priorNumber cs wf wK0 wK1 wK2 wK3 wL h0 n0 v U'.heap L ∧ FrameEnd U o U' L ({ frames := 2, cells := 0, slots := 0, locals := 26 } : Room).cells ({ frames := 2, cells := 0, slots := 0, locals := 26 } : Room).slots) := by
  refine MetFree.of_bodySF (plainFor_of_name own_pn9) hisR ?_
  intro p e s m args below meth c s₁ Bd hml0 hP hK
  obtain ⟨rfl, hZ, hh⟩ := hP
  have hx := Bd.exec
  have hby := Bd.bytes
  have hml : c.maxLocals = 2 := hml0
  have hown : s.vm.findClass "com/example/assemble_quorum/assemblequorum/io/Message" = some m.cls := findClass_of_methodNamed Bd.named
  have hnm := (name_of_methodNamed Bd.named Bd.method).1
  have X0 : Stand p l e ({ frames := 2, cells := 0, slots := 0, locals := 26 } : Room) s m #[(.ref ob0), (.ref ob1)] below meth c s₁ [] 0 0 := Stand.of_body Bd
  have e0 : s₁.heap = h0 := by rw [← hh, Bd.state]; rfl
  have N0 := Fr.nil n0
  have Z0 : n0 ≤ h0.size := O0.1 ▸ O0.2.1
  have g0 : ∀ t, Steps p.tables e below (s₁.setTop (mkF m 0 #[.val (.ref ob0), .val (.ref ob1)] [])) t → Steps p.tables e below (s₁.setTop (entryFrame m #[(.ref ob0), (.ref ob1)] 2)) t := fun t k => castTop (own_ef51 m (ob0) (ob1)) k
  have G0 := G
  obtain ⟨S_CS, hcs, S_WF, hwf, S_PROPOSAL_ANSWER, S_HELLO, S_EVENT, S_PING, S_L, Ex_L, Fa_L⟩ := G
  obtain ⟨T1, X1, e1, st1⟩ := initO X0 hx hZ hown (own_w hw 159 rfl) (own_w hw 16 rfl) (own_w hw 17 rfl) e0 (g := (mkF m 1 #[.val (.ref ob0), .val (.ref ob1)] [(.ref ob0)])) rfl (by rw [hml]; rfl) rfl (hb hby own_d27_1) (by decide) (W := 0) (by show 2 * 0 + _ ≤ _; exact Nat.le_of_eq rfl) (by decide)
  obtain ⟨T2, X2, e2, st2⟩ := own_getR X1 hx hZ hown (own_w hw 160 rfl) e1 F_ob1_kind (g := (mkF m 6 #[.val (.ref ob0), .val (.ref ob1)] [(.ref ob1), (.ref ob0)])) rfl rfl (hb hby own_d27_6)
  obtain ⟨T3, h3, X3, e3, W3, st3⟩ := putF X2 hx hZ hown (host := "") (Or.inl (own_w hw 161 rfl)) Via.refl e2 F_ob0_kind E_ob0 (Or.inr ⟨(own_w hw 162 rfl), rfl, hnm⟩) (own_w hw 154 rfl) (ty := (.object "com/example/assemble_quorum/assemblequorum/io/Message$Kind")) (by decide) rfl rfl (g := (mkF m 9 #[.val (.ref ob0), .val (.ref ob1)] [(.ref ob1_kind), (.ref ob0)])) rfl rfl (hb hby own_d27_9)
  have Fw3 := F_ob0_kind.same W3
  have N3 := Fr.snoc X3 N0 gz_ob0
  have f4 := (F_ob1_sender.other W3 (Or.inl (Exa.ne E_ob1 E_ob0 (by decide))))
  obtain ⟨T5, X5, e5, st5⟩ := own_getR X3 hx hZ hown (own_w hw 163 rfl) e3 f4 (g := (mkF m 14 #[.val (.ref ob0), .val (.ref ob1)] [(.ref ob1), (.ref ob0)])) rfl rfl (hb hby own_d27_14)
  have f6 := (E_ob0.wr W3)
  have f7 := (F_ob0_sender.other W3 (Or.inr (slot_ne (own_la16 hw) (own_la17 hw) (by decide) own_ty2 own_ty4)))
  obtain ⟨T8, h8, X8, e8, W8, st8⟩ := putF X5 hx hZ hown (host := "") (Or.inl (own_w hw 165 rfl)) Via.refl e5 f7 f6 (Or.inr ⟨(own_w hw 166 rfl), rfl, hnm⟩) (own_w hw 154 rfl) (ty := (.object "com/example/assemble_quorum/assemblequorum/model/MemberAddress")) (by decide) rfl rfl (g := (mkF m 17 #[.val (.ref ob0), .val (.ref ob1)] [.null, (.ref ob0)])) rfl rfl (hb hby own_d27_17)
  have Fw8 := f7.same W8
  have N8 := Fr.snoc X8 N3 gz_ob0
  have f9 := ((F_ob1_leader.other W3 (Or.inl (Exa.ne E_ob1 E_ob0 (by decide)))).other W8 (Or.inl (Exa.ne (E_ob1.wr W3) f6 (by decide))))
  obtain ⟨T10, X10, e10, st10⟩ := own_getR X8 hx hZ hown (own_w hw 167 rfl) e8 f9 (g := (mkF m 22 #[.val (.ref ob0), .val (.ref ob1)] [(.ref ob1), (.ref ob0)])) rfl rfl (hb hby own_d27_22)
  have f11 := (f6.wr W8)
  have f12 := ((F_ob0_leader.other W3 (Or.inr (slot_ne (own_la18 hw) (own_la17 hw) (by decide) own_ty2 own_ty4))).other W8 (Or.inr (slot_ne (own_la18 hw) (own_la16 hw) (by decide) own_ty2 own_ty2)))
  obtain ⟨T13, h13, X13, e13, W13, st13⟩ := putF X10 hx hZ hown (host := "") (Or.inl (own_w hw 169 rfl)) Via.refl e10 f12 f11 (Or.inr ⟨(own_w hw 170 rfl), rfl, hnm⟩) (own_w hw 154 rfl) (ty := (.object "com/example/assemble_quorum/assemblequorum/model/MemberAddress")) (by decide) rfl rfl (g := (mkF m 25 #[.val (.ref ob0), .val (.ref ob1)] [.null, (.ref ob0)])) rfl rfl (hb hby own_d27_25)
  have Fw13 := f12.same W13
  have N13 := Fr.snoc X13 N8 gz_ob0
  have f14 := (((F_ob1_version.other W3 (Or.inl (Exa.ne E_ob1 E_ob0 (by decide)))).other W8 (Or.inl (Exa.ne (E_ob1.wr W3) f6 (by decide)))).other W13 (Or.inl (Exa.ne ((E_ob1.wr W3).wr W8) f11 (by decide))))
  obtain ⟨T15, X15, e15, st15⟩ := own_getR X13 hx hZ hown (own_w hw 171 rfl) e13 f14 (g := (mkF m 30 #[.val (.ref ob0), .val (.ref ob1)] [(.ref ob1), (.ref ob0)])) rfl rfl (hb hby own_d27_30)
  have f16 := (f11.wr W13)
  have f17 := (((F_ob0_version.other W3 (Or.inr (slot_ne (own_la19 hw) (own_la17 hw) (by decide) own_ty3 own_ty4))).other W8 (Or.inr (slot_ne (own_la19 hw) (own_la16 hw) (by decide) own_ty3 own_ty2))).other W13 (Or.inr (slot_ne (own_la19 hw) (own_la18 hw) (by decide) own_ty3 own_ty2)))
  obtain ⟨T18, h18, X18, e18, W18, st18⟩ := putF X15 hx hZ hown (host := "") (Or.inl (own_w hw 173 rfl)) Via.refl e15 f17 f16 (Or.inr ⟨(own_w hw 174 rfl), rfl, hnm⟩) (own_w hw 154 rfl) (ty := .long) (by decide) rfl rfl (g := (mkF m 33 #[.val (.ref ob0), .val (.ref ob1)] [(.long (0 : Int64)), (.ref ob0)])) rfl rfl (hb hby own_d27_33)
  have Fw18 := f17.same W18
  have N18 := Fr.snoc X18 N13 gz_ob0
  have f19 := ((((F_ob1_number.other W3 (Or.inl (Exa.ne E_ob1 E_ob0 (by decide)))).other W8 (Or.inl (Exa.ne (E_ob1.wr W3) f6 (by decide)))).other W13 (Or.inl (Exa.ne ((E_ob1.wr W3).wr W8) f11 (by decide)))).other W18 (Or.inl (Exa.ne (((E_ob1.wr W3).wr W8).wr W13) f16 (by decide))))
  obtain ⟨T20, X20, e20, st20⟩ := own_getR X18 hx hZ hown (own_w hw 175 rfl) e18 f19 (g := (mkF m 38 #[.val (.ref ob0), .val (.ref ob1)] [(.ref ob1), (.ref ob0)])) rfl rfl (hb hby own_d27_38)
  have f21 := (f16.wr W18)
  have f22 := ((((F_ob0_number.other W3 (Or.inr (slot_ne (own_la20 hw) (own_la17 hw) (by decide) own_ty6 own_ty4))).other W8 (Or.inr (slot_ne (own_la20 hw) (own_la16 hw) (by decide) own_ty6 own_ty2))).other W13 (Or.inr (slot_ne (own_la20 hw) (own_la18 hw) (by decide) own_ty6 own_ty2))).other W18 (Or.inr (slot_ne (own_la20 hw) (own_la19 hw) (by decide) own_ty6 own_ty3)))
  obtain ⟨T23, h23, X23, e23, W23, st23⟩ := putF X20 hx hZ hown (host := "") (Or.inl (own_w hw 177 rfl)) Via.refl e20 f22 f21 (Or.inr ⟨(own_w hw 178 rfl), rfl, hnm⟩) (own_w hw 154 rfl) (ty := (.object "com/example/assemble_quorum/assemblequorum/model/ProposalNumber")) (by decide) rfl rfl (g := (mkF m 41 #[.val (.ref ob0), .val (.ref ob1)] [.null, (.ref ob0)])) rfl rfl (hb hby own_d27_41)
  have Fw23 := f22.same W23
  have N23 := Fr.snoc X23 N18 gz_ob0
  have f24 := (((((F_ob1_candidate.other W3 (Or.inl (Exa.ne E_ob1 E_ob0 (by decide)))).other W8 (Or.inl (Exa.ne (E_ob1.wr W3) f6 (by decide)))).other W13 (Or.inl (Exa.ne ((E_ob1.wr W3).wr W8) f11 (by decide)))).other W18 (Or.inl (Exa.ne (((E_ob1.wr W3).wr W8).wr W13) f16 (by decide)))).other W23 (Or.inl (Exa.ne ((((E_ob1.wr W3).wr W8).wr W13).wr W18) f21 (by decide))))
  obtain ⟨T25, X25, e25, st25⟩ := own_getR X23 hx hZ hown (own_w hw 179 rfl) e23 f24 (g := (mkF m 46 #[.val (.ref ob0), .val (.ref ob1)] [(.ref ob1), (.ref ob0)])) rfl rfl (hb hby own_d27_46)
  have f26 := (f21.wr W23)
  have f27 := (((((F_ob0_candidate.other W3 (Or.inr (slot_ne (own_la21 hw) (own_la17 hw) (by decide) own_ty2 own_ty4))).other W8 (Or.inr (slot_ne (own_la21 hw) (own_la16 hw) (by decide) own_ty2 own_ty2))).other W13 (Or.inr (slot_ne (own_la21 hw) (own_la18 hw) (by decide) own_ty2 own_ty2))).other W18 (Or.inr (slot_ne (own_la21 hw) (own_la19 hw) (by decide) own_ty2 own_ty3))).other W23 (Or.inr (slot_ne (own_la21 hw) (own_la20 hw) (by decide) own_ty2 own_ty6)))
  obtain ⟨T28, h28, X28, e28, W28, st28⟩ := putF X25 hx hZ hown (host := "") (Or.inl (own_w hw 181 rfl)) Via.refl e25 f27 f26 (Or.inr ⟨(own_w hw 182 rfl), rfl, hnm⟩) (own_w hw 154 rfl) (ty := (.object "com/example/assemble_quorum/assemblequorum/model/MemberAddress")) (by decide) rfl rfl (g := (mkF m 49 #[.val (.ref ob0), .val (.ref ob1)] [.null, (.ref ob0)])) rfl rfl (hb hby own_d27_49)
  have Fw28 := f27.same W28
  have N28 := Fr.snoc X28 N23 gz_ob0
  have f29 := ((((((F_ob1_granted.other W3 (Or.inl (Exa.ne E_ob1 E_ob0 (by decide)))).other W8 (Or.inl (Exa.ne (E_ob1.wr W3) f6 (by decide)))).other W13 (Or.inl (Exa.ne ((E_ob1.wr W3).wr W8) f11 (by decide)))).other W18 (Or.inl (Exa.ne (((E_ob1.wr W3).wr W8).wr W13) f16 (by decide)))).other W23 (Or.inl (Exa.ne ((((E_ob1.wr W3).wr W8).wr W13).wr W18) f21 (by decide)))).other W28 (Or.inl (Exa.ne (((((E_ob1.wr W3).wr W8).wr W13).wr W18).wr W23) f26 (by decide))))
  obtain ⟨T30, X30, e30, st30⟩ := own_getR X28 hx hZ hown (own_w hw 183 rfl) e28 f29 (g := (mkF m 54 #[.val (.ref ob0), .val (.ref ob1)] [(.ref ob1), (.ref ob0)])) rfl rfl (hb hby own_d27_54)
  have f31 := (f26.wr W28)
  have f32 := ((((((F_ob0_granted.other W3 (Or.inr (slot_ne (own_la22 hw) (own_la17 hw) (by decide) own_ty7 own_ty4))).other W8 (Or.inr (slot_ne (own_la22 hw) (own_la16 hw) (by decide) own_ty7 own_ty2))).other W13 (Or.inr (slot_ne (own_la22 hw) (own_la18 hw) (by decide) own_ty7 own_ty2))).other W18 (Or.inr (slot_ne (own_la22 hw) (own_la19 hw) (by decide) own_ty7 own_ty3))).other W23 (Or.inr (slot_ne (own_la22 hw) (own_la20 hw) (by decide) own_ty7 own_ty6))).other W28 (Or.inr (slot_ne (own_la22 hw) (own_la21 hw) (by decide) own_ty7 own_ty2)))
  obtain ⟨T33, h33, X33, e33, W33, st33⟩ := putFN X30 hx hZ hown (own_w hw 185 rfl) Via.refl e30 f32 f31 (Or.inr ⟨(own_w hw 186 rfl), rfl, hnm⟩) (own_w hw 154 rfl) (ty := .boolean) (v' := (.int (0 : Int32))) (by decide) rfl rfl (g := (mkF m 57 #[.val (.ref ob0), .val (.ref ob1)] [(.int (0 : Int32)), (.ref ob0)])) rfl rfl (hb hby own_d27_57)
  have Fw33 := f32.same W33
  have N33 := Fr.snoc X33 N28 gz_ob0
  have f34 := (((((((F_ob1_priorNumber.other W3 (Or.inl (Exa.ne E_ob1 E_ob0 (by decide)))).other W8 (Or.inl (Exa.ne (E_ob1.wr W3) f6 (by decide)))).other W13 (Or.inl (Exa.ne ((E_ob1.wr W3).wr W8) f11 (by decide)))).other W18 (Or.inl (Exa.ne (((E_ob1.wr W3).wr W8).wr W13) f16 (by decide)))).other W23 (Or.inl (Exa.ne ((((E_ob1.wr W3).wr W8).wr W13).wr W18) f21 (by decide)))).other W28 (Or.inl (Exa.ne (((((E_ob1.wr W3).wr W8).wr W13).wr W18).wr W23) f26 (by decide)))).other W33 (Or.inl (Exa.ne ((((((E_ob1.wr W3).wr W8).wr W13).wr W18).wr W23).wr W28) f31 (by decide))))
  obtain ⟨T35, X35, e35, st35⟩ := own_getR X33 hx hZ hown (own_w hw 187 rfl) e33 f34 (g := (mkF m 62 #[.val (.ref ob0), .val (.ref ob1)] [(.ref ob1), (.ref ob0)])) rfl rfl (hb hby own_d27_62)
  have f36 := (f31.wr W33)
  have f37 := (((((((F_ob0_priorNumber.other W3 (Or.inr (slot_ne (own_la23 hw) (own_la17 hw) (by decide) own_ty6 own_ty4))).other W8 (Or.inr (slot_ne (own_la23 hw) (own_la16 hw) (by decide) own_ty6 own_ty2))).other W13 (Or.inr (slot_ne (own_la23 hw) (own_la18 hw) (by decide) own_ty6 own_ty2))).other W18 (Or.inr (slot_ne (own_la23 hw) (own_la19 hw) (by decide) own_ty6 own_ty3))).other W23 (Or.inr (slot_ne (own_la23 hw) (own_la20 hw) (by decide) own_ty6 own_ty6))).other W28 (Or.inr (slot_ne (own_la23 hw) (own_la21 hw) (by decide) own_ty6 own_ty2))).other W33 (Or.inr (slot_ne (own_la23 hw) (own_la22 hw) (by decide) own_ty6 own_ty7)))
  obtain ⟨T38, h38, X38, e38, W38, st38⟩ := putF X35 hx hZ hown (host := "") (Or.inl (own_w hw 188 rfl)) Via.refl e35 f37 f36 (Or.inr ⟨(own_w hw 189 rfl), rfl, hnm⟩) (own_w hw 154 rfl) (ty := (.object "com/example/assemble_quorum/assemblequorum/model/ProposalNumber")) (by decide) rfl rfl (g := (mkF m 65 #[.val (.ref ob0), .val (.ref ob1)] [(.ref ob1_priorNumber), (.ref ob0)])) rfl rfl (hb hby own_d27_65)
  have Fw38 := f37.same W38
  have N38 := Fr.snoc X38 N33 gz_ob0
  have f39 := ((((((((F_ob1_priorCandidate.other W3 (Or.inl (Exa.ne E_ob1 E_ob0 (by decide)))).other W8 (Or.inl (Exa.ne (E_ob1.wr W3) f6 (by decide)))).other W13 (Or.inl (Exa.ne ((E_ob1.wr W3).wr W8) f11 (by decide)))).other W18 (Or.inl (Exa.ne (((E_ob1.wr W3).wr W8).wr W13) f16 (by decide)))).other W23 (Or.inl (Exa.ne ((((E_ob1.wr W3).wr W8).wr W13).wr W18) f21 (by decide)))).other W28 (Or.inl (Exa.ne (((((E_ob1.wr W3).wr W8).wr W13).wr W18).wr W23) f26 (by decide)))).other W33 (Or.inl (Exa.ne ((((((E_ob1.wr W3).wr W8).wr W13).wr W18).wr W23).wr W28) f31 (by decide)))).other W38 (Or.inl (Exa.ne (((((((E_ob1.wr W3).wr W8).wr W13).wr W18).wr W23).wr W28).wr W33) f36 (by decide))))
  obtain ⟨T40, X40, e40, st40⟩ := own_getR X38 hx hZ hown (own_w hw 190 rfl) e38 f39 (g := (mkF m 70 #[.val (.ref ob0), .val (.ref ob1)] [(.ref ob1), (.ref ob0)])) rfl rfl (hb hby own_d27_70)
  have f41 := (f36.wr W38)
  have f42 := ((((((((F_ob0_priorCandidate.other W3 (Or.inr (slot_ne (own_la24 hw) (own_la17 hw) (by decide) own_ty2 own_ty4))).other W8 (Or.inr (slot_ne (own_la24 hw) (own_la16 hw) (by decide) own_ty2 own_ty2))).other W13 (Or.inr (slot_ne (own_la24 hw) (own_la18 hw) (by decide) own_ty2 own_ty2))).other W18 (Or.inr (slot_ne (own_la24 hw) (own_la19 hw) (by decide) own_ty2 own_ty3))).other W23 (Or.inr (slot_ne (own_la24 hw) (own_la20 hw) (by decide) own_ty2 own_ty6))).other W28 (Or.inr (slot_ne (own_la24 hw) (own_la21 hw) (by decide) own_ty2 own_ty2))).other W33 (Or.inr (slot_ne (own_la24 hw) (own_la22 hw) (by decide) own_ty2 own_ty7))).other W38 (Or.inr (slot_ne (own_la24 hw) (own_la23 hw) (by decide) own_ty2 own_ty6)))
  obtain ⟨T43, h43, X43, e43, W43, st43⟩ := putF X40 hx hZ hown (host := "") (Or.inl (own_w hw 191 rfl)) Via.refl e40 f42 f41 (Or.inr ⟨(own_w hw 192 rfl), rfl, hnm⟩) (own_w hw 154 rfl) (ty := (.object "com/example/assemble_quorum/assemblequorum/model/MemberAddress")) (by decide) rfl rfl (g := (mkF m 73 #[.val (.ref ob0), .val (.ref ob1)] [.null, (.ref ob0)])) rfl rfl (hb hby own_d27_73)
  have Fw43 := f42.same W43
  have N43 := Fr.snoc X43 N38 gz_ob0
  have f44 := (((((((((F_ob1_members.other W3 (Or.inl (Exa.ne E_ob1 E_ob0 (by decide)))).other W8 (Or.inl (Exa.ne (E_ob1.wr W3) f6 (by decide)))).other W13 (Or.inl (Exa.ne ((E_ob1.wr W3).wr W8) f11 (by decide)))).other W18 (Or.inl (Exa.ne (((E_ob1.wr W3).wr W8).wr W13) f16 (by decide)))).other W23 (Or.inl (Exa.ne ((((E_ob1.wr W3).wr W8).wr W13).wr W18) f21 (by decide)))).other W28 (Or.inl (Exa.ne (((((E_ob1.wr W3).wr W8).wr W13).wr W18).wr W23) f26 (by decide)))).other W33 (Or.inl (Exa.ne ((((((E_ob1.wr W3).wr W8).wr W13).wr W18).wr W23).wr W28) f31 (by decide)))).other W38 (Or.inl (Exa.ne (((((((E_ob1.wr W3).wr W8).wr W13).wr W18).wr W23).wr W28).wr W33) f36 (by decide)))).other W43 (Or.inl (Exa.ne ((((((((E_ob1.wr W3).wr W8).wr W13).wr W18).wr W23).wr W28).wr W33).wr W38) f41 (by decide))))
  obtain ⟨T45, X45, e45, st45⟩ := own_getR X43 hx hZ hown (own_w hw 193 rfl) e43 f44 (g := (mkF m 78 #[.val (.ref ob0), .val (.ref ob1)] [(.ref ob1), (.ref ob0)])) rfl rfl (hb hby own_d27_78)
  obtain ⟨LL46, XL46, NL46⟩ : ∃ LL : List Loc, Stand p l e ({ frames := 2, cells := 0, slots := 0, locals := 26 } : Room) s m #[(.ref ob0), (.ref ob1)] below meth c T45 LL 0 0 ∧ Fr n0 LL := ⟨_, X45, N43⟩
  have o47 : Old Z n0 h43 := (Old.wr (Old.wr (Old.wr (Old.wr (Old.wr (Old.wr (Old.wr (Old.wr (Old.wr O0 W3 gz_ob0) W8 gz_ob0) W13 gz_ob0) W18 gz_ob0) W23 gz_ob0) W28 gz_ob0) W33 gz_ob0) W38 gz_ob0) W43 gz_ob0)
  obtain ⟨_, _, ⟨T48, L48, k48, n48⟩, -, X48, ⟨Lc48, hQ48, l48, y48, z48⟩, st48⟩ := Jvm.LawKit.callS XL46 hx (y := own_y26) hown (mvT hZ (own_w hw 194 rfl)) (mvT hZ (own_w hw 195 rfl)) (mvT hZ (own_w hw 131 rfl)) (mvT hZ (own_w hw 196 rfl)) (by decide) (backOf (W := 1) (rmA27 l Z a0 hw []   cs wf wK0 wK1 wK2 wK3 wL h43 n0 o47 G0   ) hZ (own_w hw 196 rfl) (own_w hw 131 rfl) (by decide) (by decide)) (g := (mkF m 81 #[.val (.ref ob0), .val (.ref ob1)] [(.ref wL), (.ref ob0)])) rfl (by rw [hml]; rfl) (argsL := [(.ref wL)]) (rest := [(.ref ob0)]) (lenOf own_pd20 rfl) rfl (by show 2 * 0 + _ ≤ _; exact Nat.le_of_eq rfl) (hb hby own_d27_81) (fun _ _ => ⟨rfl, e45, (by decide : 0 + 0 ≤ _), (by decide : 0 + 0 ≤ _)⟩)
  dsimp only [Pt.U, Pt.locs, Pt.cells, Pt.slots] at X48 l48 y48 z48 st48 hQ48
  subst l48 y48 z48
  obtain ⟨rfl, Nq48, e48⟩ := hQ48
  have N48 := Fr.app NL46 Nq48
  have f49 := (f41.wr W43)
  have f50 := (((((((((F_ob0_members.other W3 (Or.inr (slot_ne (own_la25 hw) (own_la17 hw) (by decide) own_ty5 own_ty4))).other W8 (Or.inr (slot_ne (own_la25 hw) (own_la16 hw) (by decide) own_ty5 own_ty2))).other W13 (Or.inr (slot_ne (own_la25 hw) (own_la18 hw) (by decide) own_ty5 own_ty2))).other W18 (Or.inr (slot_ne (own_la25 hw) (own_la19 hw) (by decide) own_ty5 own_ty3))).other W23 (Or.inr (slot_ne (own_la25 hw) (own_la20 hw) (by decide) own_ty5 own_ty6))).other W28 (Or.inr (slot_ne (own_la25 hw) (own_la21 hw) (by decide) own_ty5 own_ty2))).other W33 (Or.inr (slot_ne (own_la25 hw) (own_la22 hw) (by decide) own_ty5 own_ty7))).other W38 (Or.inr (slot_ne (own_la25 hw) (own_la23 hw) (by decide) own_ty5 own_ty6))).other W43 (Or.inr (slot_ne (own_la25 hw) (own_la24 hw) (by decide) own_ty5 own_ty2)))
  obtain ⟨T51, h51, X51, e51, W51, st51⟩ := putF X48 hx hZ hown (host := "") (Or.inl (own_w hw 212 rfl)) Via.refl e48 f50 f49 (Or.inr ⟨(own_w hw 213 rfl), rfl, hnm⟩) (own_w hw 154 rfl) (ty := (.object "java/util/List")) (by decide) rfl rfl (g := (mkF m 84 #[.val (.ref ob0), .val (.ref ob1)] [(.ref wL), (.ref ob0)])) rfl rfl (hb hby own_d27_84)
  have Fw51 := f50.same W51
  have N51 := Fr.snoc X51 N48 gz_ob0
  have f52 := ((((((((((F_ob1_topic.other W3 (Or.inl (Exa.ne E_ob1 E_ob0 (by decide)))).other W8 (Or.inl (Exa.ne (E_ob1.wr W3) f6 (by decide)))).other W13 (Or.inl (Exa.ne ((E_ob1.wr W3).wr W8) f11 (by decide)))).other W18 (Or.inl (Exa.ne (((E_ob1.wr W3).wr W8).wr W13) f16 (by decide)))).other W23 (Or.inl (Exa.ne ((((E_ob1.wr W3).wr W8).wr W13).wr W18) f21 (by decide)))).other W28 (Or.inl (Exa.ne (((((E_ob1.wr W3).wr W8).wr W13).wr W18).wr W23) f26 (by decide)))).other W33 (Or.inl (Exa.ne ((((((E_ob1.wr W3).wr W8).wr W13).wr W18).wr W23).wr W28) f31 (by decide)))).other W38 (Or.inl (Exa.ne (((((((E_ob1.wr W3).wr W8).wr W13).wr W18).wr W23).wr W28).wr W33) f36 (by decide)))).other W43 (Or.inl (Exa.ne ((((((((E_ob1.wr W3).wr W8).wr W13).wr W18).wr W23).wr W28).wr W33).wr W38) f41 (by decide)))).other W51 (Or.inl (Exa.ne (((((((((E_ob1.wr W3).wr W8).wr W13).wr W18).wr W23).wr W28).wr W33).wr W38).wr W43) f49 (by decide))))
  obtain ⟨T53, X53, e53, st53⟩ := own_getR X51 hx hZ hown (own_w hw 214 rfl) e51 f52 (g := (mkF m 89 #[.val (.ref ob0), .val (.ref ob1)] [(.ref ob1), (.ref ob0)])) rfl rfl (hb hby own_d27_89)
  have f54 := (f49.wr W51)
  have f55 := ((((((((((F_ob0_topic.other W3 (Or.inr (slot_ne (own_la26 hw) (own_la17 hw) (by decide) own_ty1 own_ty4))).other W8 (Or.inr (slot_ne (own_la26 hw) (own_la16 hw) (by decide) own_ty1 own_ty2))).other W13 (Or.inr (slot_ne (own_la26 hw) (own_la18 hw) (by decide) own_ty1 own_ty2))).other W18 (Or.inr (slot_ne (own_la26 hw) (own_la19 hw) (by decide) own_ty1 own_ty3))).other W23 (Or.inr (slot_ne (own_la26 hw) (own_la20 hw) (by decide) own_ty1 own_ty6))).other W28 (Or.inr (slot_ne (own_la26 hw) (own_la21 hw) (by decide) own_ty1 own_ty2))).other W33 (Or.inr (slot_ne (own_la26 hw) (own_la22 hw) (by decide) own_ty1 own_ty7))).other W38 (Or.inr (slot_ne (own_la26 hw) (own_la23 hw) (by decide) own_ty1 own_ty6))).other W43 (Or.inr (slot_ne (own_la26 hw) (own_la24 hw) (by decide) own_ty1 own_ty2))).other W51 (Or.inr (slot_ne (own_la26 hw) (own_la25 hw) (by decide) own_ty1 own_ty5)))
  obtain ⟨T56, h56, X56, e56, W56, st56⟩ := putF X53 hx hZ hown (host := "") (Or.inl (own_w hw 216 rfl)) Via.refl e53 f55 f54 (Or.inr ⟨(own_w hw 217 rfl), rfl, hnm⟩) (own_w hw 154 rfl) (ty := (.object "java/lang/String")) (by decide) rfl rfl (g := (mkF m 92 #[.val (.ref ob0), .val (.ref ob1)] [.null, (.ref ob0)])) rfl rfl (hb hby own_d27_92)
  have Fw56 := f55.same W56
  have N56 := Fr.snoc X56 N51 gz_ob0
  have f57 := (((((((((((F_ob1_payload.other W3 (Or.inl (Exa.ne E_ob1 E_ob0 (by decide)))).other W8 (Or.inl (Exa.ne (E_ob1.wr W3) f6 (by decide)))).other W13 (Or.inl (Exa.ne ((E_ob1.wr W3).wr W8) f11 (by decide)))).other W18 (Or.inl (Exa.ne (((E_ob1.wr W3).wr W8).wr W13) f16 (by decide)))).other W23 (Or.inl (Exa.ne ((((E_ob1.wr W3).wr W8).wr W13).wr W18) f21 (by decide)))).other W28 (Or.inl (Exa.ne (((((E_ob1.wr W3).wr W8).wr W13).wr W18).wr W23) f26 (by decide)))).other W33 (Or.inl (Exa.ne ((((((E_ob1.wr W3).wr W8).wr W13).wr W18).wr W23).wr W28) f31 (by decide)))).other W38 (Or.inl (Exa.ne (((((((E_ob1.wr W3).wr W8).wr W13).wr W18).wr W23).wr W28).wr W33) f36 (by decide)))).other W43 (Or.inl (Exa.ne ((((((((E_ob1.wr W3).wr W8).wr W13).wr W18).wr W23).wr W28).wr W33).wr W38) f41 (by decide)))).other W51 (Or.inl (Exa.ne (((((((((E_ob1.wr W3).wr W8).wr W13).wr W18).wr W23).wr W28).wr W33).wr W38).wr W43) f49 (by decide)))).other W56 (Or.inl (Exa.ne ((((((((((E_ob1.wr W3).wr W8).wr W13).wr W18).wr W23).wr W28).wr W33).wr W38).wr W43).wr W51) f54 (by decide))))
  obtain ⟨T58, X58, e58, st58⟩ := own_getR X56 hx hZ hown (own_w hw 218 rfl) e56 f57 (g := (mkF m 97 #[.val (.ref ob0), .val (.ref ob1)] [(.ref ob1), (.ref ob0)])) rfl rfl (hb hby own_d27_97)
  have f59 := (f54.wr W56)
  have f60 := (((((((((((F_ob0_payload.other W3 (Or.inr (slot_ne (own_la27 hw) (own_la17 hw) (by decide) own_ty8 own_ty4))).other W8 (Or.inr (slot_ne (own_la27 hw) (own_la16 hw) (by decide) own_ty8 own_ty2))).other W13 (Or.inr (slot_ne (own_la27 hw) (own_la18 hw) (by decide) own_ty8 own_ty2))).other W18 (Or.inr (slot_ne (own_la27 hw) (own_la19 hw) (by decide) own_ty8 own_ty3))).other W23 (Or.inr (slot_ne (own_la27 hw) (own_la20 hw) (by decide) own_ty8 own_ty6))).other W28 (Or.inr (slot_ne (own_la27 hw) (own_la21 hw) (by decide) own_ty8 own_ty2))).other W33 (Or.inr (slot_ne (own_la27 hw) (own_la22 hw) (by decide) own_ty8 own_ty7))).other W38 (Or.inr (slot_ne (own_la27 hw) (own_la23 hw) (by decide) own_ty8 own_ty6))).other W43 (Or.inr (slot_ne (own_la27 hw) (own_la24 hw) (by decide) own_ty8 own_ty2))).other W51 (Or.inr (slot_ne (own_la27 hw) (own_la25 hw) (by decide) own_ty8 own_ty5))).other W56 (Or.inr (slot_ne (own_la27 hw) (own_la26 hw) (by decide) own_ty8 own_ty1)))
  obtain ⟨T61, h61, X61, e61, W61, st61⟩ := putF X58 hx hZ hown (host := "") (Or.inl (own_w hw 220 rfl)) Via.refl e58 f60 f59 (Or.inr ⟨(own_w hw 221 rfl), rfl, hnm⟩) (own_w hw 154 rfl) (ty := (.array .byte)) (by decide) rfl rfl (g := (mkF m 100 #[.val (.ref ob0), .val (.ref ob1)] [.null, (.ref ob0)])) rfl rfl (hb hby own_d27_100)
  have Fw61 := f60.same W61
  have N61 := Fr.snoc X61 N56 gz_ob0
  have g62 : ∀ t, Steps p.tables e below (T61.setTop (mkF m 103 #[.val (.ref ob0), .val (.ref ob1)] [])) t → Steps p.tables e below (s₁.setTop (entryFrame m #[(.ref ob0), (.ref ob1)] 2)) t := by
    intro t k
    refine g0 t ?_
    show Steps p.tables e below (s₁.setTop (mkF m 0 #[.val (.ref ob0), .val (.ref ob1)] [])) _
    refine XS.aloadN X0.here hx rfl (hb hby own_d27_0) rfl rfl ?_
    refine st1 _ ?_
    refine XS.aloadN X1.here hx rfl (hb hby own_d27_4) rfl rfl ?_
    refine XS.aloadN X1.here hx rfl (hb hby own_d27_5) rfl rfl ?_
    refine st2 _ ?_
    refine st3 _ ?_
    refine XS.aloadN X3.here hx rfl (hb hby own_d27_12) rfl rfl ?_
    refine XS.aloadN X3.here hx rfl (hb hby own_d27_13) rfl rfl ?_
    show Steps p.tables e below (T3.setTop (mkF m 14 #[.val (.ref ob0), .val (.ref ob1)] [(.ref ob1), (.ref ob0)])) _
    refine st5 _ ?_
    refine st8 _ ?_
    refine XS.aloadN X8.here hx rfl (hb hby own_d27_20) rfl rfl ?_
    refine XS.aloadN X8.here hx rfl (hb hby own_d27_21) rfl rfl ?_
    refine st10 _ ?_
    refine st13 _ ?_
    refine XS.aloadN X13.here hx rfl (hb hby own_d27_28) rfl rfl ?_
    refine XS.aloadN X13.here hx rfl (hb hby own_d27_29) rfl rfl ?_
    show Steps p.tables e below (T13.setTop (mkF m 30 #[.val (.ref ob0), .val (.ref ob1)] [(.ref ob1), (.ref ob0)])) _
    refine st15 _ ?_
    refine st18 _ ?_
    refine XS.aloadN X18.here hx rfl (hb hby own_d27_36) rfl rfl ?_
    refine XS.aloadN X18.here hx rfl (hb hby own_d27_37) rfl rfl ?_
    refine st20 _ ?_
    refine st23 _ ?_
    refine XS.aloadN X23.here hx rfl (hb hby own_d27_44) rfl rfl ?_
    refine XS.aloadN X23.here hx rfl (hb hby own_d27_45) rfl rfl ?_
    show Steps p.tables e below (T23.setTop (mkF m 46 #[.val (.ref ob0), .val (.ref ob1)] [(.ref ob1), (.ref ob0)])) _
    refine st25 _ ?_
    refine st28 _ ?_
    refine XS.aloadN X28.here hx rfl (hb hby own_d27_52) rfl rfl ?_
    refine XS.aloadN X28.here hx rfl (hb hby own_d27_53) rfl rfl ?_
    refine st30 _ ?_
    refine st33 _ ?_
    refine XS.aloadN X33.here hx rfl (hb hby own_d27_60) rfl rfl ?_
    refine XS.aloadN X33.here hx rfl (hb hby own_d27_61) rfl rfl ?_
    show Steps p.tables e below (T33.setTop (mkF m 62 #[.val (.ref ob0), .val (.ref ob1)] [(.ref ob1), (.ref ob0)])) _
    refine st35 _ ?_
    refine st38 _ ?_
    refine XS.aloadN X38.here hx rfl (hb hby own_d27_68) rfl rfl ?_
    refine XS.aloadN X38.here hx rfl (hb hby own_d27_69) rfl rfl ?_
    refine st40 _ ?_
    refine st43 _ ?_
    refine XS.aloadN X43.here hx rfl (hb hby own_d27_76) rfl rfl ?_
    refine XS.aloadN X43.here hx rfl (hb hby own_d27_77) rfl rfl ?_
    show Steps p.tables e below (T43.setTop (mkF m 78 #[.val (.ref ob0), .val (.ref ob1)] [(.ref ob1), (.ref ob0)])) _
    refine st45 _ ?_
    refine st48 _ ?_
    refine st51 _ ?_
    refine XS.aloadN X51.here hx rfl (hb hby own_d27_87) rfl rfl ?_
    refine XS.aloadN X51.here hx rfl (hb hby own_d27_88) rfl rfl ?_
    refine st53 _ ?_
    refine st56 _ ?_
    refine XS.aloadN X56.here hx rfl (hb hby own_d27_95) rfl rfl ?_
    show Steps p.tables e below (T56.setTop (mkF m 96 #[.val (.ref ob0), .val (.ref ob1)] [(.ref ob0)])) _
    refine XS.aloadN X56.here hx rfl (hb hby own_d27_96) rfl rfl ?_
    refine st58 _ ?_
    refine st61 _ ?_
    exact k
  obtain ⟨fs, hrt, hrun, hended, hW, hsame⟩ := X61.leave (v := none) (fun _ => rfl)
  have f63 := (f59.wr W61)
  have f64 := (((((((((((Fw3.other W8 (Or.inr (slot_ne (own_la17 hw) (own_la16 hw) (by decide) own_ty4 own_ty2))).other W13 (Or.inr (slot_ne (own_la17 hw) (own_la18 hw) (by decide) own_ty4 own_ty2))).other W18 (Or.inr (slot_ne (own_la17 hw) (own_la19 hw) (by decide) own_ty4 own_ty3))).other W23 (Or.inr (slot_ne (own_la17 hw) (own_la20 hw) (by decide) own_ty4 own_ty6))).other W28 (Or.inr (slot_ne (own_la17 hw) (own_la21 hw) (by decide) own_ty4 own_ty2))).other W33 (Or.inr (slot_ne (own_la17 hw) (own_la22 hw) (by decide) own_ty4 own_ty7))).other W38 (Or.inr (slot_ne (own_la17 hw) (own_la23 hw) (by decide) own_ty4 own_ty6))).other W43 (Or.inr (slot_ne (own_la17 hw) (own_la24 hw) (by decide) own_ty4 own_ty2))).other W51 (Or.inr (slot_ne (own_la17 hw) (own_la25 hw) (by decide) own_ty4 own_ty5))).other W56 (Or.inr (slot_ne (own_la17 hw) (own_la26 hw) (by decide) own_ty4 own_ty1))).other W61 (Or.inr (slot_ne (own_la17 hw) (own_la27 hw) (by decide) own_ty4 own_ty8)))
  have f65 := ((((Fw38.other W43 (Or.inr (slot_ne (own_la23 hw) (own_la24 hw) (by decide) own_ty6 own_ty2))).other W51 (Or.inr (slot_ne (own_la23 hw) (own_la25 hw) (by decide) own_ty6 own_ty5))).other W56 (Or.inr (slot_ne (own_la23 hw) (own_la26 hw) (by decide) own_ty6 own_ty1))).other W61 (Or.inr (slot_ne (own_la23 hw) (own_la27 hw) (by decide) own_ty6 own_ty8)))
  have f66 := (((Fw43.other W51 (Or.inr (slot_ne (own_la24 hw) (own_la25 hw) (by decide) own_ty2 own_ty5))).other W56 (Or.inr (slot_ne (own_la24 hw) (own_la26 hw) (by decide) own_ty2 own_ty1))).other W61 (Or.inr (slot_ne (own_la24 hw) (own_la27 hw) (by decide) own_ty2 own_ty8)))
  have f67 := (((((((Fw23.other W28 (Or.inr (slot_ne (own_la20 hw) (own_la21 hw) (by decide) own_ty6 own_ty2))).other W33 (Or.inr (slot_ne (own_la20 hw) (own_la22 hw) (by decide) own_ty6 own_ty7))).other W38 (Or.inr (slot_ne (own_la20 hw) (own_la23 hw) (by decide) own_ty6 own_ty6))).other W43 (Or.inr (slot_ne (own_la20 hw) (own_la24 hw) (by decide) own_ty6 own_ty2))).other W51 (Or.inr (slot_ne (own_la20 hw) (own_la25 hw) (by decide) own_ty6 own_ty5))).other W56 (Or.inr (slot_ne (own_la20 hw) (own_la26 hw) (by decide) own_ty6 own_ty1))).other W61 (Or.inr (slot_ne (own_la20 hw) (own_la27 hw) (by decide) own_ty6 own_ty8)))
  have f68 := ((((((Fw28.other W33 (Or.inr (slot_ne (own_la21 hw) (own_la22 hw) (by decide) own_ty2 own_ty7))).other W38 (Or.inr (slot_ne (own_la21 hw) (own_la23 hw) (by decide) own_ty2 own_ty6))).other W43 (Or.inr (slot_ne (own_la21 hw) (own_la24 hw) (by decide) own_ty2 own_ty2))).other W51 (Or.inr (slot_ne (own_la21 hw) (own_la25 hw) (by decide) own_ty2 own_ty5))).other W56 (Or.inr (slot_ne (own_la21 hw) (own_la26 hw) (by decide) own_ty2 own_ty1))).other W61 (Or.inr (slot_ne (own_la21 hw) (own_la27 hw) (by decide) own_ty2 own_ty8)))
  have f69 := (((((((((Fw13.other W18 (Or.inr (slot_ne (own_la18 hw) (own_la19 hw) (by decide) own_ty2 own_ty3))).other W23 (Or.inr (slot_ne (own_la18 hw) (own_la20 hw) (by decide) own_ty2 own_ty6))).other W28 (Or.inr (slot_ne (own_la18 hw) (own_la21 hw) (by decide) own_ty2 own_ty2))).other W33 (Or.inr (slot_ne (own_la18 hw) (own_la22 hw) (by decide) own_ty2 own_ty7))).other W38 (Or.inr (slot_ne (own_la18 hw) (own_la23 hw) (by decide) own_ty2 own_ty6))).other W43 (Or.inr (slot_ne (own_la18 hw) (own_la24 hw) (by decide) own_ty2 own_ty2))).other W51 (Or.inr (slot_ne (own_la18 hw) (own_la25 hw) (by decide) own_ty2 own_ty5))).other W56 (Or.inr (slot_ne (own_la18 hw) (own_la26 hw) (by decide) own_ty2 own_ty1))).other W61 (Or.inr (slot_ne (own_la18 hw) (own_la27 hw) (by decide) own_ty2 own_ty8)))
  refine ⟨_, _, g62 _ ?_, hrun, hended, _, _, rfl, ?_, ⟨_, rfl⟩, hW, hsame.mono (by decide) (by decide)⟩
  · show Steps p.tables e below (T61.setTop (mkF m 103 #[.val (.ref ob0), .val (.ref ob1)] [])) _
    exact X61.returnOut hx Bd.returns (hb hby own_d27_103) hrt
  · show own_Q_rmA49 Z ob0 ob1 ob1_kind ob1_priorNumber cs wf wK0 wK1 wK2 wK3 wL h0 n0 _ T61.heap _
    rw [e61]
    exact ⟨rfl, N61, (Keep.wr (Keep.wr (Keep.wr (Keep.wr (Keep.wr (Keep.wr (Keep.wr (Keep.wr (Keep.wr (Keep.wr (Keep.wr (Keep.wr (Keep.refl h0 [ob0]) W3 (Or.inl (List.mem_of_getElem? (i := 0) rfl))) W8 (Or.inl (List.mem_of_getElem? (i := 0) rfl))) W13 (Or.inl (List.mem_of_getElem? (i := 0) rfl))) W18 (Or.inl (List.mem_of_getElem? (i := 0) rfl))) W23 (Or.inl (List.mem_of_getElem? (i := 0) rfl))) W28 (Or.inl (List.mem_of_getElem? (i := 0) rfl))) W33 (Or.inl (List.mem_of_getElem? (i := 0) rfl))) W38 (Or.inl (List.mem_of_getElem? (i := 0) rfl))) W43 (Or.inl (List.mem_of_getElem? (i := 0) rfl))) W51 (Or.inl (List.mem_of_getElem? (i := 0) rfl))) W56 (Or.inl (List.mem_of_getElem? (i := 0) rfl))) W61 (Or.inl (List.mem_of_getElem? (i := 0) rfl))), f63, f64, f65, f66, f67, f68, f69⟩
def own_Q_rmA48 (Z : State) (ob0 : Addr) (ob0_kind : Addr) (ob0_priorNumber : Addr)  (cs : Int32) (wf : Value) (wK0 : Addr) (wK1 : Addr) (wK2 : Addr) (wK3 : Addr) (wL : Addr) (h0 : Heap) (n0 : Nat) (v : Option Value) (h : Heap) (L : List Loc) : Prop := ∃ bm : Addr, v = some (.ref bm) ∧ Fr n0 L ∧ Keep h0 h [] ∧ h0.size ≤ bm ∧ Exa Z h bm "com/example/assemble_quorum/assemblequorum/io/Message" ∧ Fld Z h bm "com/example/assemble_quorum/assemblequorum/io/Message" "kind" "Lcom/example/assemble_quorum/assemblequorum/io/Message$Kind;" (.ref ob0_kind) ∧ Fld Z h bm "com/example/assemble_quorum/assemblequorum/io/Message" "priorNumber" "Lcom/example/assemble_quorum/assemblequorum/model/ProposalNumber;" (.ref ob0_priorNumber) ∧ Fld Z h bm "com/example/assemble_quorum/assemblequorum/io/Message" "priorCandidate" "Lcom/example/assemble_quorum/assemblequorum/model/MemberAddress;" .null ∧ Fld Z h bm "com/example/assemble_quorum/assemblequorum/io/Message" "number" "Lcom/example/assemble_quorum/assemblequorum/model/ProposalNumber;" .null ∧ Fld Z h bm "com/example/assemble_quorum/assemblequorum/io/Message" "candidate" "Lcom/example/assemble_quorum/assemblequorum/model/MemberAddress;" .null ∧ Fld Z h bm "com/example/assemble_quorum/assemblequorum/io/Message" "leader" "Lcom/example/assemble_quorum/assemblequorum/model/MemberAddress;" .null
set_option maxRecDepth 65536 in
set_option maxHeartbeats 40000000 in
theorem rmA48 (l : Launch) (Z : State) (a0 : Array Value) (hw : ∀ d ∈ tables_1, d.before a0 Z = true) (ws : List Jvm.Cond) (ob0 : Addr) (ob0_kind : Addr) (ob0_priorNumber : Addr)  (cs : Int32) (wf : Value) (wK0 : Addr) (wK1 : Addr) (wK2 : Addr) (wK3 : Addr) (wL : Addr) (h0 : Heap) (n0 : Nat) (O0 : Old Z n0 h0) (G : own_Gl Z cs wf wK0 wK1 wK2 wK3 wL) (E_ob0 : Exa Z h0 ob0 "com/example/assemble_quorum/assemblequorum/io/Message$Builder") (F_ob0_candidate : Fld Z h0 ob0 "com/example/assemble_quorum/assemblequorum/io/Message$Builder" "candidate" "Lcom/example/assemble_quorum/assemblequorum/model/MemberAddress;" .null) (F_ob0_granted : Fld Z h0 ob0 "com/example/assemble_quorum/assemblequorum/io/Message$Builder" "granted" "Z" (.int (0 : Int32))) (F_ob0_kind : Fld Z h0 ob0 "com/example/assemble_quorum/assemblequorum/io/Message$Builder" "kind" "Lcom/example/assemble_quorum/assemblequorum/io/Message$Kind;" (.ref ob0_kind)) (F_ob0_leader : Fld Z h0 ob0 "com/example/assemble_quorum/assemblequorum/io/Message$Builder" "leader" "Lcom/example/assemble_quorum/assemblequorum/model/MemberAddress;" .null) (F_ob0_members : Fld Z h0 ob0 "com/example/assemble_quorum/assemblequorum/io/Message$Builder" "members" "Ljava/util/List;" (.ref wL)) (F_ob0_number : Fld Z h0 ob0 "com/example/assemble_quorum/assemblequorum/io/Message$Builder" "number" "Lcom/example/assemble_quorum/assemblequorum/model/ProposalNumber;" .null) (F_ob0_payload : Fld Z h0 ob0 "com/example/assemble_quorum/assemblequorum/io/Message$Builder" "payload" "[B" .null) (F_ob0_priorCandidate : Fld Z h0 ob0 "com/example/assemble_quorum/assemblequorum/io/Message$Builder" "priorCandidate" "Lcom/example/assemble_quorum/assemblequorum/model/MemberAddress;" .null) (F_ob0_priorNumber : Fld Z h0 ob0 "com/example/assemble_quorum/assemblequorum/io/Message$Builder" "priorNumber" "Lcom/example/assemble_quorum/assemblequorum/model/ProposalNumber;" (.ref ob0_priorNumber)) (F_ob0_sender : Fld Z h0 ob0 "com/example/assemble_quorum/assemblequorum/io/Message$Builder" "sender" "Lcom/example/assemble_quorum/assemblequorum/model/MemberAddress;" .null) (F_ob0_topic : Fld Z h0 ob0 "com/example/assemble_quorum/assemblequorum/io/Message$Builder" "topic" "Ljava/lang/String;" .null) (F_ob0_version : Fld Z h0 ob0 "com/example/assemble_quorum/assemblequorum/io/Message$Builder" "version" "J" (.long (0 : Int64))) :
    MetFree l own_y24 (head1 (Jvm.Cond.code own_y24 prog_18_method_12_code 1 (some (.object "com/example/assemble_quorum/assemblequorum/io/Message")) :: ws) ({ frames := 3, cells := 1, slots := 12, locals := 40 } : Room)) (fun a U => a = #[(.ref ob0)] ∧ Z.Warmed39 U.vm ∧ U.heap = h0) (fun _ _ _ _ _ => True) (fun _ U o U' => ∃ v L, o = .returned v ∧ own_Q_rmA48 Z ob0 ob0_kind ob0_priorNumber cs wf wK0 wK1 wK2 wK3 wL h0 n0 v U'.heap L ∧ FrameEnd U o U' L ({ frames := 3, cells := 1, slots := 12, locals := 40 } : Room).cells ({ frames := 3, cells := 1, slots := 12, locals := 40 } : Room).slots) := by
  refine MetFree.of_bodySF (plainFor_of_name own_pn7) hisR ?_
  intro p e s m args below meth c s₁ Bd hml0 hP hK
  obtain ⟨rfl, hZ, hh⟩ := hP
  have hx := Bd.exec
  have hby := Bd.bytes
  have hml : c.maxLocals = 1 := hml0
  have hown : s.vm.findClass "com/example/assemble_quorum/assemblequorum/io/Message$Builder" = some m.cls := findClass_of_methodNamed Bd.named
  have hnm := (name_of_methodNamed Bd.named Bd.method).1
  have X0 : Stand p l e ({ frames := 3, cells := 1, slots := 12, locals := 40 } : Room) s m #[(.ref ob0)] below meth c s₁ [] 0 0 := Stand.of_body Bd
  have e0 : s₁.heap = h0 := by rw [← hh, Bd.state]; rfl
  have N0 := Fr.nil n0
  have Z0 : n0 ≤ h0.size := O0.1 ▸ O0.2.1
  have g0 : ∀ t, Steps p.tables e below (s₁.setTop (mkF m 0 #[.val (.ref ob0)] [])) t → Steps p.tables e below (s₁.setTop (entryFrame m #[(.ref ob0)] 1)) t := fun t k => castTop (own_ef50 m (ob0)) k
  have G0 := G
  obtain ⟨S_CS, hcs, S_WF, hwf, S_PROPOSAL_ANSWER, S_HELLO, S_EVENT, S_PING, S_L, Ex_L, Fa_L⟩ := G
  obtain ⟨T1, h1, X1, e1, E1, A1, D1, -, st1⟩ := newO X0 hx hZ hown (own_w hw 153 rfl) (own_w hw 154 rfl) (own_w hw 155 rfl) e0 (g := (mkF m 0 #[.val (.ref ob0)] [])) rfl (hb hby own_d26_0) (by decide) (by decide)
  obtain ⟨b1, q_b1⟩ : ∃ z, z = h0.size := ⟨_, rfl⟩
  rw [← q_b1] at A1 D1 st1
  have sz_b1 : h0.size ≤ b1 := Nat.le_of_eq q_b1.symm
  have gz_b1 : n0 ≤ b1 := Nat.le_trans Z0 sz_b1
  have ne_ob0_b1 : ob0 ≠ b1 := Nat.ne_of_lt (Nat.lt_of_lt_of_le E_ob0.lt (Nat.le_of_eq q_b1.symm))
  have F1_kind : Fld Z h1 b1 "com/example/assemble_quorum/assemblequorum/io/Message" "kind" "Lcom/example/assemble_quorum/assemblequorum/io/Message$Kind;" .null := D1 (Or.inr (own_w hw 162 rfl)) (ty := (.object "com/example/assemble_quorum/assemblequorum/io/Message$Kind")) (by decide)
  have F1_sender : Fld Z h1 b1 "com/example/assemble_quorum/assemblequorum/io/Message" "sender" "Lcom/example/assemble_quorum/assemblequorum/model/MemberAddress;" .null := D1 (Or.inr (own_w hw 166 rfl)) (ty := (.object "com/example/assemble_quorum/assemblequorum/model/MemberAddress")) (by decide)
  have F1_leader : Fld Z h1 b1 "com/example/assemble_quorum/assemblequorum/io/Message" "leader" "Lcom/example/assemble_quorum/assemblequorum/model/MemberAddress;" .null := D1 (Or.inr (own_w hw 170 rfl)) (ty := (.object "com/example/assemble_quorum/assemblequorum/model/MemberAddress")) (by decide)
  have F1_version : Fld Z h1 b1 "com/example/assemble_quorum/assemblequorum/io/Message" "version" "J" (.long (0 : Int64)) := D1 (Or.inr (own_w hw 174 rfl)) (ty := .long) (by decide)
  have F1_number : Fld Z h1 b1 "com/example/assemble_quorum/assemblequorum/io/Message" "number" "Lcom/example/assemble_quorum/assemblequorum/model/ProposalNumber;" .null := D1 (Or.inr (own_w hw 178 rfl)) (ty := (.object "com/example/assemble_quorum/assemblequorum/model/ProposalNumber")) (by decide)
  have F1_candidate : Fld Z h1 b1 "com/example/assemble_quorum/assemblequorum/io/Message" "candidate" "Lcom/example/assemble_quorum/assemblequorum/model/MemberAddress;" .null := D1 (Or.inr (own_w hw 182 rfl)) (ty := (.object "com/example/assemble_quorum/assemblequorum/model/MemberAddress")) (by decide)
  have F1_granted : Fld Z h1 b1 "com/example/assemble_quorum/assemblequorum/io/Message" "granted" "Z" (.int (0 : Int32)) := D1 (Or.inr (own_w hw 186 rfl)) (ty := .boolean) (by decide)
  have F1_priorNumber : Fld Z h1 b1 "com/example/assemble_quorum/assemblequorum/io/Message" "priorNumber" "Lcom/example/assemble_quorum/assemblequorum/model/ProposalNumber;" .null := D1 (Or.inr (own_w hw 189 rfl)) (ty := (.object "com/example/assemble_quorum/assemblequorum/model/ProposalNumber")) (by decide)
  have F1_priorCandidate : Fld Z h1 b1 "com/example/assemble_quorum/assemblequorum/io/Message" "priorCandidate" "Lcom/example/assemble_quorum/assemblequorum/model/MemberAddress;" .null := D1 (Or.inr (own_w hw 192 rfl)) (ty := (.object "com/example/assemble_quorum/assemblequorum/model/MemberAddress")) (by decide)
  have F1_members : Fld Z h1 b1 "com/example/assemble_quorum/assemblequorum/io/Message" "members" "Ljava/util/List;" .null := D1 (Or.inr (own_w hw 213 rfl)) (ty := (.object "java/util/List")) (by decide)
  have F1_topic : Fld Z h1 b1 "com/example/assemble_quorum/assemblequorum/io/Message" "topic" "Ljava/lang/String;" .null := D1 (Or.inr (own_w hw 217 rfl)) (ty := (.object "java/lang/String")) (by decide)
  have F1_payload : Fld Z h1 b1 "com/example/assemble_quorum/assemblequorum/io/Message" "payload" "[B" .null := D1 (Or.inr (own_w hw 221 rfl)) (ty := (.array .byte)) (by decide)
  have f2 := (E_ob0.ext E1)
  have f3 := (F_ob0_candidate.ext E1)
  have f4 := (F_ob0_granted.ext E1)
  have f5 := (F_ob0_kind.ext E1)
  have f6 := (F_ob0_leader.ext E1)
  have f7 := (F_ob0_members.ext E1)
  have f8 := (F_ob0_number.ext E1)
  have f9 := (F_ob0_payload.ext E1)
  have f10 := (F_ob0_priorCandidate.ext E1)
  have f11 := (F_ob0_priorNumber.ext E1)
  have f12 := (F_ob0_sender.ext E1)
  have f13 := (F_ob0_topic.ext E1)
  have f14 := (F_ob0_version.ext E1)
  have o15 : Old Z n0 h1 := (Old.ext O0 E1)
  obtain ⟨_, _, ⟨T16, L16, k16, n16⟩, -, X16, ⟨Lc16, hQ16, l16, y16, z16⟩, st16⟩ := X1.specialBackNest hx (y := own_y25) rfl hown (own_mvM hZ (own_w hw 156 rfl)) (mvT hZ (own_w hw 157 rfl)) (mvT hZ (own_w hw 158 rfl)) (by decide) (backOf (W := 1) (rmA49 l Z a0 hw [] b1 ob0 ob0_kind ob0_priorNumber  cs wf wK0 wK1 wK2 wK3 wL h1 n0 o15 G0 A1 F1_candidate F1_granted F1_kind F1_leader F1_members F1_number F1_payload F1_priorCandidate F1_priorNumber F1_sender F1_topic F1_version f2 f3 f4 f5 f6 f7 f8 f9 f10 f11 f12 f13 f14 gz_b1 ) hZ (own_w hw 158 rfl) (own_w hw 155 rfl) (by decide) (by decide)) (g := (mkF m 5 #[.val (.ref ob0)] [(.ref ob0), (.ref b1), (.ref b1)])) rfl (by rw [hml]; rfl) (Steps.refl _) (a := b1) (argsL := [(.ref ob0)]) (rest := [(.ref b1)]) (lenOf own_pd21 rfl) rfl (by show 2 * 0 + _ ≤ _; exact Nat.le_of_eq rfl) (hb hby own_d26_5) (fun _ _ => ⟨rfl, e1, (by decide : 1 + 0 ≤ _), (by decide : 12 + 0 ≤ _)⟩)
  dsimp only [Pt.U, Pt.locs, Pt.cells, Pt.slots] at X16 l16 y16 z16 st16 hQ16
  subst l16 y16 z16
  obtain ⟨rfl, Nq16, K16, Q16_0, Q16_1, Q16_2, Q16_3, Q16_4, Q16_5, Q16_6⟩ := hQ16
  have N16 := Fr.app N0 Nq16
  have g17 : ∀ t, Steps p.tables e below (T16.setTop (mkF m 8 #[.val (.ref ob0)] [(.ref b1)])) t → Steps p.tables e below (s₁.setTop (entryFrame m #[(.ref ob0)] 1)) t := by
    intro t k
    refine g0 t ?_
    show Steps p.tables e below (s₁.setTop (mkF m 0 #[.val (.ref ob0)] [])) _
    refine st1 _ ?_
    refine XS.dup X1.here hx rfl (hb hby own_d26_3) rfl rfl ?_
    refine XS.aloadN X1.here hx rfl (hb hby own_d26_4) rfl rfl ?_
    refine st16.trans ?_
    exact k
  obtain ⟨fs, hrt, hrun, hended, hW, hsame⟩ := X16.leave (v := some (.ref b1)) (fun h => by rw [Bd.returns] at h; cases h)
  refine ⟨_, _, g17 _ ?_, hrun, hended, _, _, rfl, ?_, ⟨_, rfl⟩, hW, hsame.mono (by decide) (by decide)⟩
  · show Steps p.tables e below (T16.setTop (mkF m 8 #[.val (.ref ob0)] [(.ref b1)])) _
    jvm_step X16.here [X16.here.top, hx, (hb hby own_d26_8), X16.method', Bd.returns, Value.isRef, FieldType.isReference]
    first | (intro acts; rw [hrt _ acts rfl rfl rfl]) | rw [hrt _ _ rfl rfl rfl]
    exact Steps.refl _
  · show own_Q_rmA48 Z ob0 ob0_kind ob0_priorNumber cs wf wK0 wK1 wK2 wK3 wL h0 n0 _ T16.heap _
    exact ⟨b1, rfl, N16, (Keep.trans (Keep.ext (Keep.refl h0 []) E1) K16 (allS (Or.inr sz_b1) all0)), sz_b1, Q16_0, Q16_1, Q16_2, Q16_3, Q16_4, Q16_5, Q16_6⟩
theorem own_ef52 (m : MethodId) (x0 : Addr) : entryFrame m #[(.ref x0)] 1 = mkF m 0 #[.val (.ref x0)] [] := by first | (simp [entryFrame, mkF, argsToLocals, Value.category]; done) | rfl
def own_Q_rmA50 (Z : State) (ob0 : Addr) (ob0_kind : Addr) (ob0_priorNumber : Addr)  (cs : Int32) (wf : Value) (wK0 : Addr) (wK1 : Addr) (wK2 : Addr) (wK3 : Addr) (wL : Addr) (h0 : Heap) (n0 : Nat) (v : Option Value) (h : Heap) (L : List Loc) : Prop := v = some (.ref ob0_priorNumber) ∧ Fr n0 L ∧ h = h0
set_option maxRecDepth 65536 in
set_option maxHeartbeats 40000000 in
theorem rmA50 (l : Launch) (Z : State) (a0 : Array Value) (hw : ∀ d ∈ tables_1, d.before a0 Z = true) (ws : List Jvm.Cond) (ob0 : Addr) (ob0_kind : Addr) (ob0_priorNumber : Addr)  (cs : Int32) (wf : Value) (wK0 : Addr) (wK1 : Addr) (wK2 : Addr) (wK3 : Addr) (wL : Addr) (h0 : Heap) (n0 : Nat) (O0 : Old Z n0 h0) (G : own_Gl Z cs wf wK0 wK1 wK2 wK3 wL) (E_ob0 : Exa Z h0 ob0 "com/example/assemble_quorum/assemblequorum/io/Message") (F_ob0_candidate : Fld Z h0 ob0 "com/example/assemble_quorum/assemblequorum/io/Message" "candidate" "Lcom/example/assemble_quorum/assemblequorum/model/MemberAddress;" .null) (F_ob0_kind : Fld Z h0 ob0 "com/example/assemble_quorum/assemblequorum/io/Message" "kind" "Lcom/example/assemble_quorum/assemblequorum/io/Message$Kind;" (.ref ob0_kind)) (F_ob0_leader : Fld Z h0 ob0 "com/example/assemble_quorum/assemblequorum/io/Message" "leader" "Lcom/example/assemble_quorum/assemblequorum/model/MemberAddress;" .null) (F_ob0_number : Fld Z h0 ob0 "com/example/assemble_quorum/assemblequorum/io/Message" "number" "Lcom/example/assemble_quorum/assemblequorum/model/ProposalNumber;" .null) (F_ob0_priorCandidate : Fld Z h0 ob0 "com/example/assemble_quorum/assemblequorum/io/Message" "priorCandidate" "Lcom/example/assemble_quorum/assemblequorum/model/MemberAddress;" .null) (F_ob0_priorNumber : Fld Z h0 ob0 "com/example/assemble_quorum/assemblequorum/io/Message" "priorNumber" "Lcom/example/assemble_quorum/assemblequorum/model/ProposalNumber;" (.ref ob0_priorNumber)) :
    MetFree l own_y28 (head1 (Jvm.Cond.code own_y28 prog_17_method_27_code 1 (some (.object "com/example/assemble_quorum/assemblequorum/model/ProposalNumber")) :: ws) ({ frames := 0, cells := 0, slots := 0, locals := 0 } : Room)) (fun a U => a = #[(.ref ob0)] ∧ Z.Warmed39 U.vm ∧ U.heap = h0) (fun _ _ _ _ _ => True) (fun _ U o U' => ∃ v L, o = .returned v ∧ own_Q_rmA50 Z ob0 ob0_kind ob0_priorNumber cs wf wK0 wK1 wK2 wK3 wL h0 n0 v U'.heap L ∧ FrameEnd U o U' L ({ frames := 0, cells := 0, slots := 0, locals := 0 } : Room).cells ({ frames := 0, cells := 0, slots := 0, locals := 0 } : Room).slots) := by
  refine MetFree.of_bodySF (plainFor_of_name own_pn9) hisR ?_
  intro p e s m args below meth c s₁ Bd hml0 hP hK
  obtain ⟨rfl, hZ, hh⟩ := hP
  have hx := Bd.exec
  have hby := Bd.bytes
  have hml : c.maxLocals = 1 := hml0
  have hown : s.vm.findClass "com/example/assemble_quorum/assemblequorum/io/Message" = some m.cls := findClass_of_methodNamed Bd.named
  have hnm := (name_of_methodNamed Bd.named Bd.method).1
  have X0 : Stand p l e ({ frames := 0, cells := 0, slots := 0, locals := 0 } : Room) s m #[(.ref ob0)] below meth c s₁ [] 0 0 := Stand.of_body Bd
  have e0 : s₁.heap = h0 := by rw [← hh, Bd.state]; rfl
  have N0 := Fr.nil n0
  have Z0 : n0 ≤ h0.size := O0.1 ▸ O0.2.1
  have g0 : ∀ t, Steps p.tables e below (s₁.setTop (mkF m 0 #[.val (.ref ob0)] [])) t → Steps p.tables e below (s₁.setTop (entryFrame m #[(.ref ob0)] 1)) t := fun t k => castTop (own_ef52 m (ob0)) k
  have G0 := G
  obtain ⟨S_CS, hcs, S_WF, hwf, S_PROPOSAL_ANSWER, S_HELLO, S_EVENT, S_PING, S_L, Ex_L, Fa_L⟩ := G
  obtain ⟨T1, X1, e1, st1⟩ := getF X0 hx hZ hown (host := "") (Or.inl (own_w hw 188 rfl)) Via.refl e0 F_ob0_priorNumber (g := (mkF m 1 #[.val (.ref ob0)] [(.ref ob0)])) rfl rfl (hb hby own_d30_1)
  have g2 : ∀ t, Steps p.tables e below (T1.setTop (mkF m 4 #[.val (.ref ob0)] [(.ref ob0_priorNumber)])) t → Steps p.tables e below (s₁.setTop (entryFrame m #[(.ref ob0)] 1)) t := by
    intro t k
    refine g0 t ?_
    show Steps p.tables e below (s₁.setTop (mkF m 0 #[.val (.ref ob0)] [])) _
    refine XS.aloadN X0.here hx rfl (hb hby own_d30_0) rfl rfl ?_
    refine st1 _ ?_
    exact k
  obtain ⟨fs, hrt, hrun, hended, hW, hsame⟩ := X1.leave (v := some (.ref ob0_priorNumber)) (fun h => by rw [Bd.returns] at h; cases h)
  refine ⟨_, _, g2 _ ?_, hrun, hended, _, _, rfl, ?_, ⟨_, rfl⟩, hW, hsame.mono (by decide) (by decide)⟩
  · show Steps p.tables e below (T1.setTop (mkF m 4 #[.val (.ref ob0)] [(.ref ob0_priorNumber)])) _
    jvm_step X1.here [X1.here.top, hx, (hb hby own_d30_4), X1.method', Bd.returns, Value.isRef, FieldType.isReference]
    first | (intro acts; rw [hrt _ acts rfl rfl rfl]) | rw [hrt _ _ rfl rfl rfl]
    exact Steps.refl _
  · show own_Q_rmA50 Z ob0 ob0_kind ob0_priorNumber cs wf wK0 wK1 wK2 wK3 wL h0 n0 _ T1.heap _
    rw [e1]
    exact ⟨rfl, N0, rfl⟩
theorem own_ef53 (m : MethodId) (x0 : Addr) : entryFrame m #[(.ref x0)] 1 = mkF m 0 #[.val (.ref x0)] [] := by first | (simp [entryFrame, mkF, argsToLocals, Value.category]; done) | rfl
def own_Q_rmA51 (Z : State) (ob0 : Addr) (ob0_kind : Addr) (ob0_priorNumber : Addr)  (cs : Int32) (wf : Value) (wK0 : Addr) (wK1 : Addr) (wK2 : Addr) (wK3 : Addr) (wL : Addr) (h0 : Heap) (n0 : Nat) (v : Option Value) (h : Heap) (L : List Loc) : Prop := v = some .null ∧ Fr n0 L ∧ h = h0
set_option maxRecDepth 65536 in
set_option maxHeartbeats 40000000 in
theorem rmA51 (l : Launch) (Z : State) (a0 : Array Value) (hw : ∀ d ∈ tables_1, d.before a0 Z = true) (ws : List Jvm.Cond) (ob0 : Addr) (ob0_kind : Addr) (ob0_priorNumber : Addr)  (cs : Int32) (wf : Value) (wK0 : Addr) (wK1 : Addr) (wK2 : Addr) (wK3 : Addr) (wL : Addr) (h0 : Heap) (n0 : Nat) (O0 : Old Z n0 h0) (G : own_Gl Z cs wf wK0 wK1 wK2 wK3 wL) (E_ob0 : Exa Z h0 ob0 "com/example/assemble_quorum/assemblequorum/io/Message") (F_ob0_candidate : Fld Z h0 ob0 "com/example/assemble_quorum/assemblequorum/io/Message" "candidate" "Lcom/example/assemble_quorum/assemblequorum/model/MemberAddress;" .null) (F_ob0_kind : Fld Z h0 ob0 "com/example/assemble_quorum/assemblequorum/io/Message" "kind" "Lcom/example/assemble_quorum/assemblequorum/io/Message$Kind;" (.ref ob0_kind)) (F_ob0_leader : Fld Z h0 ob0 "com/example/assemble_quorum/assemblequorum/io/Message" "leader" "Lcom/example/assemble_quorum/assemblequorum/model/MemberAddress;" .null) (F_ob0_number : Fld Z h0 ob0 "com/example/assemble_quorum/assemblequorum/io/Message" "number" "Lcom/example/assemble_quorum/assemblequorum/model/ProposalNumber;" .null) (F_ob0_priorCandidate : Fld Z h0 ob0 "com/example/assemble_quorum/assemblequorum/io/Message" "priorCandidate" "Lcom/example/assemble_quorum/assemblequorum/model/MemberAddress;" .null) (F_ob0_priorNumber : Fld Z h0 ob0 "com/example/assemble_quorum/assemblequorum/io/Message" "priorNumber" "Lcom/example/assemble_quorum/assemblequorum/model/ProposalNumber;" (.ref ob0_priorNumber)) :
    MetFree l own_y29 (head1 (Jvm.Cond.code own_y29 prog_17_method_28_code 1 (some (.object "com/example/assemble_quorum/assemblequorum/model/MemberAddress")) :: ws) ({ frames := 0, cells := 0, slots := 0, locals := 0 } : Room)) (fun a U => a = #[(.ref ob0)] ∧ Z.Warmed39 U.vm ∧ U.heap = h0) (fun _ _ _ _ _ => True) (fun _ U o U' => ∃ v L, o = .returned v ∧ own_Q_rmA51 Z ob0 ob0_kind ob0_priorNumber cs wf wK0 wK1 wK2 wK3 wL h0 n0 v U'.heap L ∧ FrameEnd U o U' L ({ frames := 0, cells := 0, slots := 0, locals := 0 } : Room).cells ({ frames := 0, cells := 0, slots := 0, locals := 0 } : Room).slots) := by
  refine MetFree.of_bodySF (plainFor_of_name own_pn9) hisR ?_
  intro p e s m args below meth c s₁ Bd hml0 hP hK
  obtain ⟨rfl, hZ, hh⟩ := hP
  have hx := Bd.exec
  have hby := Bd.bytes
  have hml : c.maxLocals = 1 := hml0
  have hown : s.vm.findClass "com/example/assemble_quorum/assemblequorum/io/Message" = some m.cls := findClass_of_methodNamed Bd.named
  have hnm := (name_of_methodNamed Bd.named Bd.method).1
  have X0 : Stand p l e ({ frames := 0, cells := 0, slots := 0, locals := 0 } : Room) s m #[(.ref ob0)] below meth c s₁ [] 0 0 := Stand.of_body Bd
  have e0 : s₁.heap = h0 := by rw [← hh, Bd.state]; rfl
  have N0 := Fr.nil n0
  have Z0 : n0 ≤ h0.size := O0.1 ▸ O0.2.1
  have g0 : ∀ t, Steps p.tables e below (s₁.setTop (mkF m 0 #[.val (.ref ob0)] [])) t → Steps p.tables e below (s₁.setTop (entryFrame m #[(.ref ob0)] 1)) t := fun t k => castTop (own_ef53 m (ob0)) k
  have G0 := G
  obtain ⟨S_CS, hcs, S_WF, hwf, S_PROPOSAL_ANSWER, S_HELLO, S_EVENT, S_PING, S_L, Ex_L, Fa_L⟩ := G
  obtain ⟨T1, X1, e1, st1⟩ := getF X0 hx hZ hown (host := "") (Or.inl (own_w hw 191 rfl)) Via.refl e0 F_ob0_priorCandidate (g := (mkF m 1 #[.val (.ref ob0)] [(.ref ob0)])) rfl rfl (hb hby own_d31_1)
  have g2 : ∀ t, Steps p.tables e below (T1.setTop (mkF m 4 #[.val (.ref ob0)] [.null])) t → Steps p.tables e below (s₁.setTop (entryFrame m #[(.ref ob0)] 1)) t := by
    intro t k
    refine g0 t ?_
    show Steps p.tables e below (s₁.setTop (mkF m 0 #[.val (.ref ob0)] [])) _
    refine XS.aloadN X0.here hx rfl (hb hby own_d31_0) rfl rfl ?_
    refine st1 _ ?_
    exact k
  obtain ⟨fs, hrt, hrun, hended, hW, hsame⟩ := X1.leave (v := some .null) (fun h => by rw [Bd.returns] at h; cases h)
  refine ⟨_, _, g2 _ ?_, hrun, hended, _, _, rfl, ?_, ⟨_, rfl⟩, hW, hsame.mono (by decide) (by decide)⟩
  · show Steps p.tables e below (T1.setTop (mkF m 4 #[.val (.ref ob0)] [.null])) _
    jvm_step X1.here [X1.here.top, hx, (hb hby own_d31_4), X1.method', Bd.returns, Value.isRef, FieldType.isReference]
    first | (intro acts; rw [hrt _ acts rfl rfl rfl]) | rw [hrt _ _ rfl rfl rfl]
    exact Steps.refl _
  · show own_Q_rmA51 Z ob0 ob0_kind ob0_priorNumber cs wf wK0 wK1 wK2 wK3 wL h0 n0 _ T1.heap _
    rw [e1]
    exact ⟨rfl, N0, rfl⟩
theorem own_ef54 (m : MethodId) (x0 : Addr) : entryFrame m #[(.ref x0)] 1 = mkF m 0 #[.val (.ref x0)] [] := by first | (simp [entryFrame, mkF, argsToLocals, Value.category]; done) | rfl
def own_Q_rmA52 (Z : State) (ob0 : Addr) (ob0_kind : Addr) (ob0_priorNumber : Addr)  (cs : Int32) (wf : Value) (wK0 : Addr) (wK1 : Addr) (wK2 : Addr) (wK3 : Addr) (wL : Addr) (h0 : Heap) (n0 : Nat) (v : Option Value) (h : Heap) (L : List Loc) : Prop := v = some (.ref ob0_kind) ∧ Fr n0 L ∧ h = h0
set_option maxRecDepth 65536 in
set_option maxHeartbeats 40000000 in
theorem rmA52 (l : Launch) (Z : State) (a0 : Array Value) (hw : ∀ d ∈ tables_1, d.before a0 Z = true) (ws : List Jvm.Cond) (ob0 : Addr) (ob0_kind : Addr) (ob0_priorNumber : Addr)  (cs : Int32) (wf : Value) (wK0 : Addr) (wK1 : Addr) (wK2 : Addr) (wK3 : Addr) (wL : Addr) (h0 : Heap) (n0 : Nat) (O0 : Old Z n0 h0) (G : own_Gl Z cs wf wK0 wK1 wK2 wK3 wL) (E_ob0 : Exa Z h0 ob0 "com/example/assemble_quorum/assemblequorum/io/Message") (F_ob0_candidate : Fld Z h0 ob0 "com/example/assemble_quorum/assemblequorum/io/Message" "candidate" "Lcom/example/assemble_quorum/assemblequorum/model/MemberAddress;" .null) (F_ob0_kind : Fld Z h0 ob0 "com/example/assemble_quorum/assemblequorum/io/Message" "kind" "Lcom/example/assemble_quorum/assemblequorum/io/Message$Kind;" (.ref ob0_kind)) (F_ob0_leader : Fld Z h0 ob0 "com/example/assemble_quorum/assemblequorum/io/Message" "leader" "Lcom/example/assemble_quorum/assemblequorum/model/MemberAddress;" .null) (F_ob0_number : Fld Z h0 ob0 "com/example/assemble_quorum/assemblequorum/io/Message" "number" "Lcom/example/assemble_quorum/assemblequorum/model/ProposalNumber;" .null) (F_ob0_priorCandidate : Fld Z h0 ob0 "com/example/assemble_quorum/assemblequorum/io/Message" "priorCandidate" "Lcom/example/assemble_quorum/assemblequorum/model/MemberAddress;" .null) (F_ob0_priorNumber : Fld Z h0 ob0 "com/example/assemble_quorum/assemblequorum/io/Message" "priorNumber" "Lcom/example/assemble_quorum/assemblequorum/model/ProposalNumber;" (.ref ob0_priorNumber)) :
    MetFree l own_y30 (head1 (Jvm.Cond.code own_y30 prog_17_method_20_code 1 (some (.object "com/example/assemble_quorum/assemblequorum/io/Message$Kind")) :: ws) ({ frames := 0, cells := 0, slots := 0, locals := 0 } : Room)) (fun a U => a = #[(.ref ob0)] ∧ Z.Warmed39 U.vm ∧ U.heap = h0) (fun _ _ _ _ _ => True) (fun _ U o U' => ∃ v L, o = .returned v ∧ own_Q_rmA52 Z ob0 ob0_kind ob0_priorNumber cs wf wK0 wK1 wK2 wK3 wL h0 n0 v U'.heap L ∧ FrameEnd U o U' L ({ frames := 0, cells := 0, slots := 0, locals := 0 } : Room).cells ({ frames := 0, cells := 0, slots := 0, locals := 0 } : Room).slots) := by
  refine MetFree.of_bodySF (plainFor_of_name own_pn9) hisR ?_
  intro p e s m args below meth c s₁ Bd hml0 hP hK
  obtain ⟨rfl, hZ, hh⟩ := hP
  have hx := Bd.exec
  have hby := Bd.bytes
  have hml : c.maxLocals = 1 := hml0
  have hown : s.vm.findClass "com/example/assemble_quorum/assemblequorum/io/Message" = some m.cls := findClass_of_methodNamed Bd.named
  have hnm := (name_of_methodNamed Bd.named Bd.method).1
  have X0 : Stand p l e ({ frames := 0, cells := 0, slots := 0, locals := 0 } : Room) s m #[(.ref ob0)] below meth c s₁ [] 0 0 := Stand.of_body Bd
  have e0 : s₁.heap = h0 := by rw [← hh, Bd.state]; rfl
  have N0 := Fr.nil n0
  have Z0 : n0 ≤ h0.size := O0.1 ▸ O0.2.1
  have g0 : ∀ t, Steps p.tables e below (s₁.setTop (mkF m 0 #[.val (.ref ob0)] [])) t → Steps p.tables e below (s₁.setTop (entryFrame m #[(.ref ob0)] 1)) t := fun t k => castTop (own_ef54 m (ob0)) k
  have G0 := G
  obtain ⟨S_CS, hcs, S_WF, hwf, S_PROPOSAL_ANSWER, S_HELLO, S_EVENT, S_PING, S_L, Ex_L, Fa_L⟩ := G
  obtain ⟨T1, X1, e1, st1⟩ := getF X0 hx hZ hown (host := "") (Or.inl (own_w hw 161 rfl)) Via.refl e0 F_ob0_kind (g := (mkF m 1 #[.val (.ref ob0)] [(.ref ob0)])) rfl rfl (hb hby own_d32_1)
  have g2 : ∀ t, Steps p.tables e below (T1.setTop (mkF m 4 #[.val (.ref ob0)] [(.ref ob0_kind)])) t → Steps p.tables e below (s₁.setTop (entryFrame m #[(.ref ob0)] 1)) t := by
    intro t k
    refine g0 t ?_
    show Steps p.tables e below (s₁.setTop (mkF m 0 #[.val (.ref ob0)] [])) _
    refine XS.aloadN X0.here hx rfl (hb hby own_d32_0) rfl rfl ?_
    refine st1 _ ?_
    exact k
  obtain ⟨fs, hrt, hrun, hended, hW, hsame⟩ := X1.leave (v := some (.ref ob0_kind)) (fun h => by rw [Bd.returns] at h; cases h)
  refine ⟨_, _, g2 _ ?_, hrun, hended, _, _, rfl, ?_, ⟨_, rfl⟩, hW, hsame.mono (by decide) (by decide)⟩
  · show Steps p.tables e below (T1.setTop (mkF m 4 #[.val (.ref ob0)] [(.ref ob0_kind)])) _
    jvm_step X1.here [X1.here.top, hx, (hb hby own_d32_4), X1.method', Bd.returns, Value.isRef, FieldType.isReference]
    first | (intro acts; rw [hrt _ acts rfl rfl rfl]) | rw [hrt _ _ rfl rfl rfl]
    exact Steps.refl _
  · show own_Q_rmA52 Z ob0 ob0_kind ob0_priorNumber cs wf wK0 wK1 wK2 wK3 wL h0 n0 _ T1.heap _
    rw [e1]
    exact ⟨rfl, N0, rfl⟩
theorem own_ef55 (m : MethodId) (x0 : Addr) : entryFrame m #[(.ref x0)] 1 = mkF m 0 #[.val (.ref x0)] [] := by first | (simp [entryFrame, mkF, argsToLocals, Value.category]; done) | rfl
def own_Q_rmA53 (Z : State) (ob0 : Addr) (ob0_kind : Addr) (ob0_priorNumber : Addr)  (cs : Int32) (wf : Value) (wK0 : Addr) (wK1 : Addr) (wK2 : Addr) (wK3 : Addr) (wL : Addr) (h0 : Heap) (n0 : Nat) (v : Option Value) (h : Heap) (L : List Loc) : Prop := v = some .null ∧ Fr n0 L ∧ h = h0
set_option maxRecDepth 65536 in
set_option maxHeartbeats 40000000 in
theorem rmA53 (l : Launch) (Z : State) (a0 : Array Value) (hw : ∀ d ∈ tables_1, d.before a0 Z = true) (ws : List Jvm.Cond) (ob0 : Addr) (ob0_kind : Addr) (ob0_priorNumber : Addr)  (cs : Int32) (wf : Value) (wK0 : Addr) (wK1 : Addr) (wK2 : Addr) (wK3 : Addr) (wL : Addr) (h0 : Heap) (n0 : Nat) (O0 : Old Z n0 h0) (G : own_Gl Z cs wf wK0 wK1 wK2 wK3 wL) (E_ob0 : Exa Z h0 ob0 "com/example/assemble_quorum/assemblequorum/io/Message") (F_ob0_candidate : Fld Z h0 ob0 "com/example/assemble_quorum/assemblequorum/io/Message" "candidate" "Lcom/example/assemble_quorum/assemblequorum/model/MemberAddress;" .null) (F_ob0_kind : Fld Z h0 ob0 "com/example/assemble_quorum/assemblequorum/io/Message" "kind" "Lcom/example/assemble_quorum/assemblequorum/io/Message$Kind;" (.ref ob0_kind)) (F_ob0_leader : Fld Z h0 ob0 "com/example/assemble_quorum/assemblequorum/io/Message" "leader" "Lcom/example/assemble_quorum/assemblequorum/model/MemberAddress;" .null) (F_ob0_number : Fld Z h0 ob0 "com/example/assemble_quorum/assemblequorum/io/Message" "number" "Lcom/example/assemble_quorum/assemblequorum/model/ProposalNumber;" .null) (F_ob0_priorCandidate : Fld Z h0 ob0 "com/example/assemble_quorum/assemblequorum/io/Message" "priorCandidate" "Lcom/example/assemble_quorum/assemblequorum/model/MemberAddress;" .null) (F_ob0_priorNumber : Fld Z h0 ob0 "com/example/assemble_quorum/assemblequorum/io/Message" "priorNumber" "Lcom/example/assemble_quorum/assemblequorum/model/ProposalNumber;" (.ref ob0_priorNumber)) :
    MetFree l own_y31 (head1 (Jvm.Cond.code own_y31 prog_17_method_24_code 1 (some (.object "com/example/assemble_quorum/assemblequorum/model/ProposalNumber")) :: ws) ({ frames := 0, cells := 0, slots := 0, locals := 0 } : Room)) (fun a U => a = #[(.ref ob0)] ∧ Z.Warmed39 U.vm ∧ U.heap = h0) (fun _ _ _ _ _ => True) (fun _ U o U' => ∃ v L, o = .returned v ∧ own_Q_rmA53 Z ob0 ob0_kind ob0_priorNumber cs wf wK0 wK1 wK2 wK3 wL h0 n0 v U'.heap L ∧ FrameEnd U o U' L ({ frames := 0, cells := 0, slots := 0, locals := 0 } : Room).cells ({ frames := 0, cells := 0, slots := 0, locals := 0 } : Room).slots) := by
  refine MetFree.of_bodySF (plainFor_of_name own_pn9) hisR ?_
  intro p e s m args below meth c s₁ Bd hml0 hP hK
  obtain ⟨rfl, hZ, hh⟩ := hP
  have hx := Bd.exec
  have hby := Bd.bytes
  have hml : c.maxLocals = 1 := hml0
  have hown : s.vm.findClass "com/example/assemble_quorum/assemblequorum/io/Message" = some m.cls := findClass_of_methodNamed Bd.named
  have hnm := (name_of_methodNamed Bd.named Bd.method).1
  have X0 : Stand p l e ({ frames := 0, cells := 0, slots := 0, locals := 0 } : Room) s m #[(.ref ob0)] below meth c s₁ [] 0 0 := Stand.of_body Bd
  have e0 : s₁.heap = h0 := by rw [← hh, Bd.state]; rfl
  have N0 := Fr.nil n0
  have Z0 : n0 ≤ h0.size := O0.1 ▸ O0.2.1
  have g0 : ∀ t, Steps p.tables e below (s₁.setTop (mkF m 0 #[.val (.ref ob0)] [])) t → Steps p.tables e below (s₁.setTop (entryFrame m #[(.ref ob0)] 1)) t := fun t k => castTop (own_ef55 m (ob0)) k
  have G0 := G
  obtain ⟨S_CS, hcs, S_WF, hwf, S_PROPOSAL_ANSWER, S_HELLO, S_EVENT, S_PING, S_L, Ex_L, Fa_L⟩ := G
  obtain ⟨T1, X1, e1, st1⟩ := getF X0 hx hZ hown (host := "") (Or.inl (own_w hw 177 rfl)) Via.refl e0 F_ob0_number (g := (mkF m 1 #[.val (.ref ob0)] [(.ref ob0)])) rfl rfl (hb hby own_d33_1)
  have g2 : ∀ t, Steps p.tables e below (T1.setTop (mkF m 4 #[.val (.ref ob0)] [.null])) t → Steps p.tables e below (s₁.setTop (entryFrame m #[(.ref ob0)] 1)) t := by
    intro t k
    refine g0 t ?_
    show Steps p.tables e below (s₁.setTop (mkF m 0 #[.val (.ref ob0)] [])) _
    refine XS.aloadN X0.here hx rfl (hb hby own_d33_0) rfl rfl ?_
    refine st1 _ ?_
    exact k
  obtain ⟨fs, hrt, hrun, hended, hW, hsame⟩ := X1.leave (v := some .null) (fun h => by rw [Bd.returns] at h; cases h)
  refine ⟨_, _, g2 _ ?_, hrun, hended, _, _, rfl, ?_, ⟨_, rfl⟩, hW, hsame.mono (by decide) (by decide)⟩
  · show Steps p.tables e below (T1.setTop (mkF m 4 #[.val (.ref ob0)] [.null])) _
    jvm_step X1.here [X1.here.top, hx, (hb hby own_d33_4), X1.method', Bd.returns, Value.isRef, FieldType.isReference]
    first | (intro acts; rw [hrt _ acts rfl rfl rfl]) | rw [hrt _ _ rfl rfl rfl]
    exact Steps.refl _
  · show own_Q_rmA53 Z ob0 ob0_kind ob0_priorNumber cs wf wK0 wK1 wK2 wK3 wL h0 n0 _ T1.heap _
    rw [e1]
    exact ⟨rfl, N0, rfl⟩
theorem own_ef56 (m : MethodId) (x0 : Addr) : entryFrame m #[(.ref x0)] 1 = mkF m 0 #[.val (.ref x0)] [] := by first | (simp [entryFrame, mkF, argsToLocals, Value.category]; done) | rfl
def own_Q_rmA54 (Z : State) (ob0 : Addr) (ob0_kind : Addr) (ob0_priorNumber : Addr)  (cs : Int32) (wf : Value) (wK0 : Addr) (wK1 : Addr) (wK2 : Addr) (wK3 : Addr) (wL : Addr) (h0 : Heap) (n0 : Nat) (v : Option Value) (h : Heap) (L : List Loc) : Prop := v = some .null ∧ Fr n0 L ∧ h = h0
set_option maxRecDepth 65536 in
set_option maxHeartbeats 40000000 in
theorem rmA54 (l : Launch) (Z : State) (a0 : Array Value) (hw : ∀ d ∈ tables_1, d.before a0 Z = true) (ws : List Jvm.Cond) (ob0 : Addr) (ob0_kind : Addr) (ob0_priorNumber : Addr)  (cs : Int32) (wf : Value) (wK0 : Addr) (wK1 : Addr) (wK2 : Addr) (wK3 : Addr) (wL : Addr) (h0 : Heap) (n0 : Nat) (O0 : Old Z n0 h0) (G : own_Gl Z cs wf wK0 wK1 wK2 wK3 wL) (E_ob0 : Exa Z h0 ob0 "com/example/assemble_quorum/assemblequorum/io/Message") (F_ob0_candidate : Fld Z h0 ob0 "com/example/assemble_quorum/assemblequorum/io/Message" "candidate" "Lcom/example/assemble_quorum/assemblequorum/model/MemberAddress;" .null) (F_ob0_kind : Fld Z h0 ob0 "com/example/assemble_quorum/assemblequorum/io/Message" "kind" "Lcom/example/assemble_quorum/assemblequorum/io/Message$Kind;" (.ref ob0_kind)) (F_ob0_leader : Fld Z h0 ob0 "com/example/assemble_quorum/assemblequorum/io/Message" "leader" "Lcom/example/assemble_quorum/assemblequorum/model/MemberAddress;" .null) (F_ob0_number : Fld Z h0 ob0 "com/example/assemble_quorum/assemblequorum/io/Message" "number" "Lcom/example/assemble_quorum/assemblequorum/model/ProposalNumber;" .null) (F_ob0_priorCandidate : Fld Z h0 ob0 "com/example/assemble_quorum/assemblequorum/io/Message" "priorCandidate" "Lcom/example/assemble_quorum/assemblequorum/model/MemberAddress;" .null) (F_ob0_priorNumber : Fld Z h0 ob0 "com/example/assemble_quorum/assemblequorum/io/Message" "priorNumber" "Lcom/example/assemble_quorum/assemblequorum/model/ProposalNumber;" (.ref ob0_priorNumber)) :
    MetFree l own_y32 (head1 (Jvm.Cond.code own_y32 prog_17_method_25_code 1 (some (.object "com/example/assemble_quorum/assemblequorum/model/MemberAddress")) :: ws) ({ frames := 0, cells := 0, slots := 0, locals := 0 } : Room)) (fun a U => a = #[(.ref ob0)] ∧ Z.Warmed39 U.vm ∧ U.heap = h0) (fun _ _ _ _ _ => True) (fun _ U o U' => ∃ v L, o = .returned v ∧ own_Q_rmA54 Z ob0 ob0_kind ob0_priorNumber cs wf wK0 wK1 wK2 wK3 wL h0 n0 v U'.heap L ∧ FrameEnd U o U' L ({ frames := 0, cells := 0, slots := 0, locals := 0 } : Room).cells ({ frames := 0, cells := 0, slots := 0, locals := 0 } : Room).slots) := by
  refine MetFree.of_bodySF (plainFor_of_name own_pn9) hisR ?_
  intro p e s m args below meth c s₁ Bd hml0 hP hK
  obtain ⟨rfl, hZ, hh⟩ := hP
  have hx := Bd.exec
  have hby := Bd.bytes
  have hml : c.maxLocals = 1 := hml0
  have hown : s.vm.findClass "com/example/assemble_quorum/assemblequorum/io/Message" = some m.cls := findClass_of_methodNamed Bd.named
  have hnm := (name_of_methodNamed Bd.named Bd.method).1
  have X0 : Stand p l e ({ frames := 0, cells := 0, slots := 0, locals := 0 } : Room) s m #[(.ref ob0)] below meth c s₁ [] 0 0 := Stand.of_body Bd
  have e0 : s₁.heap = h0 := by rw [← hh, Bd.state]; rfl
  have N0 := Fr.nil n0
  have Z0 : n0 ≤ h0.size := O0.1 ▸ O0.2.1
  have g0 : ∀ t, Steps p.tables e below (s₁.setTop (mkF m 0 #[.val (.ref ob0)] [])) t → Steps p.tables e below (s₁.setTop (entryFrame m #[(.ref ob0)] 1)) t := fun t k => castTop (own_ef56 m (ob0)) k
  have G0 := G
  obtain ⟨S_CS, hcs, S_WF, hwf, S_PROPOSAL_ANSWER, S_HELLO, S_EVENT, S_PING, S_L, Ex_L, Fa_L⟩ := G
  obtain ⟨T1, X1, e1, st1⟩ := getF X0 hx hZ hown (host := "") (Or.inl (own_w hw 181 rfl)) Via.refl e0 F_ob0_candidate (g := (mkF m 1 #[.val (.ref ob0)] [(.ref ob0)])) rfl rfl (hb hby own_d34_1)
  have g2 : ∀ t, Steps p.tables e below (T1.setTop (mkF m 4 #[.val (.ref ob0)] [.null])) t → Steps p.tables e below (s₁.setTop (entryFrame m #[(.ref ob0)] 1)) t := by
    intro t k
    refine g0 t ?_
    show Steps p.tables e below (s₁.setTop (mkF m 0 #[.val (.ref ob0)] [])) _
    refine XS.aloadN X0.here hx rfl (hb hby own_d34_0) rfl rfl ?_
    refine st1 _ ?_
    exact k
  obtain ⟨fs, hrt, hrun, hended, hW, hsame⟩ := X1.leave (v := some .null) (fun h => by rw [Bd.returns] at h; cases h)
  refine ⟨_, _, g2 _ ?_, hrun, hended, _, _, rfl, ?_, ⟨_, rfl⟩, hW, hsame.mono (by decide) (by decide)⟩
  · show Steps p.tables e below (T1.setTop (mkF m 4 #[.val (.ref ob0)] [.null])) _
    jvm_step X1.here [X1.here.top, hx, (hb hby own_d34_4), X1.method', Bd.returns, Value.isRef, FieldType.isReference]
    first | (intro acts; rw [hrt _ acts rfl rfl rfl]) | rw [hrt _ _ rfl rfl rfl]
    exact Steps.refl _
  · show own_Q_rmA54 Z ob0 ob0_kind ob0_priorNumber cs wf wK0 wK1 wK2 wK3 wL h0 n0 _ T1.heap _
    rw [e1]
    exact ⟨rfl, N0, rfl⟩
theorem own_ef57 (m : MethodId) (x0 : Addr) : entryFrame m #[(.ref x0)] 1 = mkF m 0 #[.val (.ref x0)] [] := by first | (simp [entryFrame, mkF, argsToLocals, Value.category]; done) | rfl
def own_Q_rmA55 (Z : State) (ob0 : Addr) (ob0_kind : Addr) (ob0_priorNumber : Addr)  (cs : Int32) (wf : Value) (wK0 : Addr) (wK1 : Addr) (wK2 : Addr) (wK3 : Addr) (wL : Addr) (h0 : Heap) (n0 : Nat) (v : Option Value) (h : Heap) (L : List Loc) : Prop := v = some .null ∧ Fr n0 L ∧ h = h0
set_option maxRecDepth 65536 in
set_option maxHeartbeats 40000000 in
theorem rmA55 (l : Launch) (Z : State) (a0 : Array Value) (hw : ∀ d ∈ tables_1, d.before a0 Z = true) (ws : List Jvm.Cond) (ob0 : Addr) (ob0_kind : Addr) (ob0_priorNumber : Addr)  (cs : Int32) (wf : Value) (wK0 : Addr) (wK1 : Addr) (wK2 : Addr) (wK3 : Addr) (wL : Addr) (h0 : Heap) (n0 : Nat) (O0 : Old Z n0 h0) (G : own_Gl Z cs wf wK0 wK1 wK2 wK3 wL) (E_ob0 : Exa Z h0 ob0 "com/example/assemble_quorum/assemblequorum/io/Message") (F_ob0_candidate : Fld Z h0 ob0 "com/example/assemble_quorum/assemblequorum/io/Message" "candidate" "Lcom/example/assemble_quorum/assemblequorum/model/MemberAddress;" .null) (F_ob0_kind : Fld Z h0 ob0 "com/example/assemble_quorum/assemblequorum/io/Message" "kind" "Lcom/example/assemble_quorum/assemblequorum/io/Message$Kind;" (.ref ob0_kind)) (F_ob0_leader : Fld Z h0 ob0 "com/example/assemble_quorum/assemblequorum/io/Message" "leader" "Lcom/example/assemble_quorum/assemblequorum/model/MemberAddress;" .null) (F_ob0_number : Fld Z h0 ob0 "com/example/assemble_quorum/assemblequorum/io/Message" "number" "Lcom/example/assemble_quorum/assemblequorum/model/ProposalNumber;" .null) (F_ob0_priorCandidate : Fld Z h0 ob0 "com/example/assemble_quorum/assemblequorum/io/Message" "priorCandidate" "Lcom/example/assemble_quorum/assemblequorum/model/MemberAddress;" .null) (F_ob0_priorNumber : Fld Z h0 ob0 "com/example/assemble_quorum/assemblequorum/io/Message" "priorNumber" "Lcom/example/assemble_quorum/assemblequorum/model/ProposalNumber;" (.ref ob0_priorNumber)) :
    MetFree l own_y33 (head1 (Jvm.Cond.code own_y33 prog_17_method_22_code 1 (some (.object "com/example/assemble_quorum/assemblequorum/model/MemberAddress")) :: ws) ({ frames := 0, cells := 0, slots := 0, locals := 0 } : Room)) (fun a U => a = #[(.ref ob0)] ∧ Z.Warmed39 U.vm ∧ U.heap = h0) (fun _ _ _ _ _ => True) (fun _ U o U' => ∃ v L, o = .returned v ∧ own_Q_rmA55 Z ob0 ob0_kind ob0_priorNumber cs wf wK0 wK1 wK2 wK3 wL h0 n0 v U'.heap L ∧ FrameEnd U o U' L ({ frames := 0, cells := 0, slots := 0, locals := 0 } : Room).cells ({ frames := 0, cells := 0, slots := 0, locals := 0 } : Room).slots) := by
  refine MetFree.of_bodySF (plainFor_of_name own_pn9) hisR ?_
  intro p e s m args below meth c s₁ Bd hml0 hP hK
  obtain ⟨rfl, hZ, hh⟩ := hP
  have hx := Bd.exec
  have hby := Bd.bytes
  have hml : c.maxLocals = 1 := hml0
  have hown : s.vm.findClass "com/example/assemble_quorum/assemblequorum/io/Message" = some m.cls := findClass_of_methodNamed Bd.named
  have hnm := (name_of_methodNamed Bd.named Bd.method).1
  have X0 : Stand p l e ({ frames := 0, cells := 0, slots := 0, locals := 0 } : Room) s m #[(.ref ob0)] below meth c s₁ [] 0 0 := Stand.of_body Bd
  have e0 : s₁.heap = h0 := by rw [← hh, Bd.state]; rfl
  have N0 := Fr.nil n0
  have Z0 : n0 ≤ h0.size := O0.1 ▸ O0.2.1
  have g0 : ∀ t, Steps p.tables e below (s₁.setTop (mkF m 0 #[.val (.ref ob0)] [])) t → Steps p.tables e below (s₁.setTop (entryFrame m #[(.ref ob0)] 1)) t := fun t k => castTop (own_ef57 m (ob0)) k
  have G0 := G
  obtain ⟨S_CS, hcs, S_WF, hwf, S_PROPOSAL_ANSWER, S_HELLO, S_EVENT, S_PING, S_L, Ex_L, Fa_L⟩ := G
  obtain ⟨T1, X1, e1, st1⟩ := getF X0 hx hZ hown (host := "") (Or.inl (own_w hw 169 rfl)) Via.refl e0 F_ob0_leader (g := (mkF m 1 #[.val (.ref ob0)] [(.ref ob0)])) rfl rfl (hb hby own_d35_1)
  have g2 : ∀ t, Steps p.tables e below (T1.setTop (mkF m 4 #[.val (.ref ob0)] [.null])) t → Steps p.tables e below (s₁.setTop (entryFrame m #[(.ref ob0)] 1)) t := by
    intro t k
    refine g0 t ?_
    show Steps p.tables e below (s₁.setTop (mkF m 0 #[.val (.ref ob0)] [])) _
    refine XS.aloadN X0.here hx rfl (hb hby own_d35_0) rfl rfl ?_
    refine st1 _ ?_
    exact k
  obtain ⟨fs, hrt, hrun, hended, hW, hsame⟩ := X1.leave (v := some .null) (fun h => by rw [Bd.returns] at h; cases h)
  refine ⟨_, _, g2 _ ?_, hrun, hended, _, _, rfl, ?_, ⟨_, rfl⟩, hW, hsame.mono (by decide) (by decide)⟩
  · show Steps p.tables e below (T1.setTop (mkF m 4 #[.val (.ref ob0)] [.null])) _
    jvm_step X1.here [X1.here.top, hx, (hb hby own_d35_4), X1.method', Bd.returns, Value.isRef, FieldType.isReference]
    first | (intro acts; rw [hrt _ acts rfl rfl rfl]) | rw [hrt _ _ rfl rfl rfl]
    exact Steps.refl _
  · show own_Q_rmA55 Z ob0 ob0_kind ob0_priorNumber cs wf wK0 wK1 wK2 wK3 wL h0 n0 _ T1.heap _
    rw [e1]
    exact ⟨rfl, N0, rfl⟩
theorem own_ef58 (m : MethodId) (x0 : Addr) (x1 : Addr) : entryFrame m #[(.ref x0), (.ref x1), .null] 3 = mkF m 0 #[.val (.ref x0), .val (.ref x1), .val .null] [] := by first | (simp [entryFrame, mkF, argsToLocals, Value.category]; done) | rfl
def own_Q_rmA56 (Z : State) (ob0 : Addr) (ob0_kind : Addr) (ob0_priorCandidate : Addr) (ob0_priorNumber : Addr)  (cs : Int32) (wf : Value) (wK0 : Addr) (wK1 : Addr) (wK2 : Addr) (wK3 : Addr) (wL : Addr) (h0 : Heap) (n0 : Nat) (v : Option Value) (h : Heap) (L : List Loc) : Prop := v = some (.ref ob0) ∧ Fr n0 L ∧ Keep h0 h [ob0] ∧ Exa Z h ob0 "com/example/assemble_quorum/assemblequorum/io/Message$Builder" ∧ Fld Z h ob0 "com/example/assemble_quorum/assemblequorum/io/Message$Builder" "members" "Ljava/util/List;" (.ref wL) ∧ Fld Z h ob0 "com/example/assemble_quorum/assemblequorum/io/Message$Builder" "kind" "Lcom/example/assemble_quorum/assemblequorum/io/Message$Kind;" (.ref ob0_kind) ∧ Fld Z h ob0 "com/example/assemble_quorum/assemblequorum/io/Message$Builder" "priorNumber" "Lcom/example/assemble_quorum/assemblequorum/model/ProposalNumber;" (.ref ob0_priorNumber) ∧ Fld Z h ob0 "com/example/assemble_quorum/assemblequorum/io/Message$Builder" "priorCandidate" "Lcom/example/assemble_quorum/assemblequorum/model/MemberAddress;" .null ∧ Fld Z h ob0 "com/example/assemble_quorum/assemblequorum/io/Message$Builder" "sender" "Lcom/example/assemble_quorum/assemblequorum/model/MemberAddress;" .null ∧ Fld Z h ob0 "com/example/assemble_quorum/assemblequorum/io/Message$Builder" "leader" "Lcom/example/assemble_quorum/assemblequorum/model/MemberAddress;" .null ∧ Fld Z h ob0 "com/example/assemble_quorum/assemblequorum/io/Message$Builder" "version" "J" (.long (0 : Int64)) ∧ Fld Z h ob0 "com/example/assemble_quorum/assemblequorum/io/Message$Builder" "number" "Lcom/example/assemble_quorum/assemblequorum/model/ProposalNumber;" .null ∧ Fld Z h ob0 "com/example/assemble_quorum/assemblequorum/io/Message$Builder" "candidate" "Lcom/example/assemble_quorum/assemblequorum/model/MemberAddress;" .null ∧ Fld Z h ob0 "com/example/assemble_quorum/assemblequorum/io/Message$Builder" "granted" "Z" (.int (0 : Int32)) ∧ Fld Z h ob0 "com/example/assemble_quorum/assemblequorum/io/Message$Builder" "topic" "Ljava/lang/String;" .null ∧ Fld Z h ob0 "com/example/assemble_quorum/assemblequorum/io/Message$Builder" "payload" "[B" .null
set_option maxRecDepth 65536 in
set_option maxHeartbeats 40000000 in
theorem rmA56 (l : Launch) (Z : State) (a0 : Array Value) (hw : ∀ d ∈ tables_1, d.before a0 Z = true) (ws : List Jvm.Cond) (ob0 : Addr) (ob0_kind : Addr) (ob0_priorCandidate : Addr) (ob0_priorNumber : Addr)  (cs : Int32) (wf : Value) (wK0 : Addr) (wK1 : Addr) (wK2 : Addr) (wK3 : Addr) (wL : Addr) (h0 : Heap) (n0 : Nat) (O0 : Old Z n0 h0) (G : own_Gl Z cs wf wK0 wK1 wK2 wK3 wL) (E_ob0 : Exa Z h0 ob0 "com/example/assemble_quorum/assemblequorum/io/Message$Builder") (F_ob0_candidate : Fld Z h0 ob0 "com/example/assemble_quorum/assemblequorum/io/Message$Builder" "candidate" "Lcom/example/assemble_quorum/assemblequorum/model/MemberAddress;" .null) (F_ob0_granted : Fld Z h0 ob0 "com/example/assemble_quorum/assemblequorum/io/Message$Builder" "granted" "Z" (.int (0 : Int32))) (F_ob0_kind : Fld Z h0 ob0 "com/example/assemble_quorum/assemblequorum/io/Message$Builder" "kind" "Lcom/example/assemble_quorum/assemblequorum/io/Message$Kind;" (.ref ob0_kind)) (F_ob0_leader : Fld Z h0 ob0 "com/example/assemble_quorum/assemblequorum/io/Message$Builder" "leader" "Lcom/example/assemble_quorum/assemblequorum/model/MemberAddress;" .null) (F_ob0_members : Fld Z h0 ob0 "com/example/assemble_quorum/assemblequorum/io/Message$Builder" "members" "Ljava/util/List;" (.ref wL)) (F_ob0_number : Fld Z h0 ob0 "com/example/assemble_quorum/assemblequorum/io/Message$Builder" "number" "Lcom/example/assemble_quorum/assemblequorum/model/ProposalNumber;" .null) (F_ob0_payload : Fld Z h0 ob0 "com/example/assemble_quorum/assemblequorum/io/Message$Builder" "payload" "[B" .null) (F_ob0_priorCandidate : Fld Z h0 ob0 "com/example/assemble_quorum/assemblequorum/io/Message$Builder" "priorCandidate" "Lcom/example/assemble_quorum/assemblequorum/model/MemberAddress;" (.ref ob0_priorCandidate)) (F_ob0_priorNumber : Fld Z h0 ob0 "com/example/assemble_quorum/assemblequorum/io/Message$Builder" "priorNumber" "Lcom/example/assemble_quorum/assemblequorum/model/ProposalNumber;" (.ref ob0_priorNumber)) (F_ob0_sender : Fld Z h0 ob0 "com/example/assemble_quorum/assemblequorum/io/Message$Builder" "sender" "Lcom/example/assemble_quorum/assemblequorum/model/MemberAddress;" .null) (F_ob0_topic : Fld Z h0 ob0 "com/example/assemble_quorum/assemblequorum/io/Message$Builder" "topic" "Ljava/lang/String;" .null) (F_ob0_version : Fld Z h0 ob0 "com/example/assemble_quorum/assemblequorum/io/Message$Builder" "version" "J" (.long (0 : Int64))) (gz_ob0 : n0 ≤ ob0) :
    MetFree l own_y23 (head1 (Jvm.Cond.code own_y23 prog_18_method_8_code 3 (some (.object "com/example/assemble_quorum/assemblequorum/io/Message$Builder")) :: ws) ({ frames := 0, cells := 0, slots := 0, locals := 0 } : Room)) (fun a U => a = #[(.ref ob0), (.ref ob0_priorNumber), .null] ∧ Z.Warmed39 U.vm ∧ U.heap = h0) (fun _ _ _ _ _ => True) (fun _ U o U' => ∃ v L, o = .returned v ∧ own_Q_rmA56 Z ob0 ob0_kind ob0_priorCandidate ob0_priorNumber cs wf wK0 wK1 wK2 wK3 wL h0 n0 v U'.heap L ∧ FrameEnd U o U' L ({ frames := 0, cells := 0, slots := 0, locals := 0 } : Room).cells ({ frames := 0, cells := 0, slots := 0, locals := 0 } : Room).slots) := by
  refine MetFree.of_bodySF (plainFor_of_name own_pn7) hisR ?_
  intro p e s m args below meth c s₁ Bd hml0 hP hK
  obtain ⟨rfl, hZ, hh⟩ := hP
  have hx := Bd.exec
  have hby := Bd.bytes
  have hml : c.maxLocals = 3 := hml0
  have hown : s.vm.findClass "com/example/assemble_quorum/assemblequorum/io/Message$Builder" = some m.cls := findClass_of_methodNamed Bd.named
  have hnm := (name_of_methodNamed Bd.named Bd.method).1
  have X0 : Stand p l e ({ frames := 0, cells := 0, slots := 0, locals := 0 } : Room) s m #[(.ref ob0), (.ref ob0_priorNumber), .null] below meth c s₁ [] 0 0 := Stand.of_body Bd
  have e0 : s₁.heap = h0 := by rw [← hh, Bd.state]; rfl
  have N0 := Fr.nil n0
  have Z0 : n0 ≤ h0.size := O0.1 ▸ O0.2.1
  have g0 : ∀ t, Steps p.tables e below (s₁.setTop (mkF m 0 #[.val (.ref ob0), .val (.ref ob0_priorNumber), .val .null] [])) t → Steps p.tables e below (s₁.setTop (entryFrame m #[(.ref ob0), (.ref ob0_priorNumber), .null] 3)) t := fun t k => castTop (own_ef58 m (ob0) (ob0_priorNumber)) k
  have G0 := G
  obtain ⟨S_CS, hcs, S_WF, hwf, S_PROPOSAL_ANSWER, S_HELLO, S_EVENT, S_PING, S_L, Ex_L, Fa_L⟩ := G
  obtain ⟨T1, h1, X1, e1, W1, st1⟩ := putF X0 hx hZ hown (host := "") (Or.inl (own_w hw 144 rfl)) Via.refl e0 F_ob0_priorNumber E_ob0 (Or.inl (own_w hw 145 rfl)) (own_w hw 123 rfl) (ty := (.object "com/example/assemble_quorum/assemblequorum/model/ProposalNumber")) (by decide) rfl rfl (g := (mkF m 2 #[.val (.ref ob0), .val (.ref ob0_priorNumber), .val .null] [(.ref ob0_priorNumber), (.ref ob0)])) rfl rfl (hb hby own_d25_2)
  have Fw1 := F_ob0_priorNumber.same W1
  have N1 := Fr.snoc X1 N0 gz_ob0
  have f2 := (E_ob0.wr W1)
  have f3 := (F_ob0_priorCandidate.other W1 (Or.inr (slot_ne (own_la7 hw) (own_la6 hw) (by decide) own_ty2 own_ty6)))
  obtain ⟨T4, h4, X4, e4, W4, st4⟩ := putF X1 hx hZ hown (host := "") (Or.inl (own_w hw 146 rfl)) Via.refl e1 f3 f2 (Or.inl (own_w hw 147 rfl)) (own_w hw 123 rfl) (ty := (.object "com/example/assemble_quorum/assemblequorum/model/MemberAddress")) (by decide) rfl rfl (g := (mkF m 7 #[.val (.ref ob0), .val (.ref ob0_priorNumber), .val .null] [.null, (.ref ob0)])) rfl rfl (hb hby own_d25_7)
  have Fw4 := f3.same W4
  have N4 := Fr.snoc X4 N1 gz_ob0
  have g5 : ∀ t, Steps p.tables e below (T4.setTop (mkF m 11 #[.val (.ref ob0), .val (.ref ob0_priorNumber), .val .null] [(.ref ob0)])) t → Steps p.tables e below (s₁.setTop (entryFrame m #[(.ref ob0), (.ref ob0_priorNumber), .null] 3)) t := by
    intro t k
    refine g0 t ?_
    show Steps p.tables e below (s₁.setTop (mkF m 0 #[.val (.ref ob0), .val (.ref ob0_priorNumber), .val .null] [])) _
    refine XS.aloadN X0.here hx rfl (hb hby own_d25_0) rfl rfl ?_
    refine XS.aloadN X0.here hx rfl (hb hby own_d25_1) rfl rfl ?_
    refine st1 _ ?_
    refine XS.aloadN X1.here hx rfl (hb hby own_d25_5) rfl rfl ?_
    refine XS.aloadN X1.here hx rfl (hb hby own_d25_6) rfl rfl ?_
    refine st4 _ ?_
    refine XS.aloadN X4.here hx rfl (hb hby own_d25_10) rfl rfl ?_
    exact k
  obtain ⟨fs, hrt, hrun, hended, hW, hsame⟩ := X4.leave (v := some (.ref ob0)) (fun h => by rw [Bd.returns] at h; cases h)
  have f6 := (f2.wr W4)
  have f7 := ((F_ob0_members.other W1 (Or.inr (slot_ne (own_la5 hw) (own_la6 hw) (by decide) own_ty5 own_ty6))).other W4 (Or.inr (slot_ne (own_la5 hw) (own_la7 hw) (by decide) own_ty5 own_ty2)))
  have f8 := ((F_ob0_kind.other W1 (Or.inr (slot_ne (own_la4 hw) (own_la6 hw) (by decide) own_ty4 own_ty6))).other W4 (Or.inr (slot_ne (own_la4 hw) (own_la7 hw) (by decide) own_ty4 own_ty2)))
  have f9 := (Fw1.other W4 (Or.inr (slot_ne (own_la6 hw) (own_la7 hw) (by decide) own_ty6 own_ty2)))
  have f10 := ((F_ob0_sender.other W1 (Or.inr (slot_ne (own_la8 hw) (own_la6 hw) (by decide) own_ty2 own_ty6))).other W4 (Or.inr (slot_ne (own_la8 hw) (own_la7 hw) (by decide) own_ty2 own_ty2)))
  have f11 := ((F_ob0_leader.other W1 (Or.inr (slot_ne (own_la9 hw) (own_la6 hw) (by decide) own_ty2 own_ty6))).other W4 (Or.inr (slot_ne (own_la9 hw) (own_la7 hw) (by decide) own_ty2 own_ty2)))
  have f12 := ((F_ob0_version.other W1 (Or.inr (slot_ne (own_la10 hw) (own_la6 hw) (by decide) own_ty3 own_ty6))).other W4 (Or.inr (slot_ne (own_la10 hw) (own_la7 hw) (by decide) own_ty3 own_ty2)))
  have f13 := ((F_ob0_number.other W1 (Or.inr (slot_ne (own_la11 hw) (own_la6 hw) (by decide) own_ty6 own_ty6))).other W4 (Or.inr (slot_ne (own_la11 hw) (own_la7 hw) (by decide) own_ty6 own_ty2)))
  have f14 := ((F_ob0_candidate.other W1 (Or.inr (slot_ne (own_la12 hw) (own_la6 hw) (by decide) own_ty2 own_ty6))).other W4 (Or.inr (slot_ne (own_la12 hw) (own_la7 hw) (by decide) own_ty2 own_ty2)))
  have f15 := ((F_ob0_granted.other W1 (Or.inr (slot_ne (own_la13 hw) (own_la6 hw) (by decide) own_ty7 own_ty6))).other W4 (Or.inr (slot_ne (own_la13 hw) (own_la7 hw) (by decide) own_ty7 own_ty2)))
  have f16 := ((F_ob0_topic.other W1 (Or.inr (slot_ne (own_la14 hw) (own_la6 hw) (by decide) own_ty1 own_ty6))).other W4 (Or.inr (slot_ne (own_la14 hw) (own_la7 hw) (by decide) own_ty1 own_ty2)))
  have f17 := ((F_ob0_payload.other W1 (Or.inr (slot_ne (own_la15 hw) (own_la6 hw) (by decide) own_ty8 own_ty6))).other W4 (Or.inr (slot_ne (own_la15 hw) (own_la7 hw) (by decide) own_ty8 own_ty2)))
  refine ⟨_, _, g5 _ ?_, hrun, hended, _, _, rfl, ?_, ⟨_, rfl⟩, hW, hsame.mono (by decide) (by decide)⟩
  · show Steps p.tables e below (T4.setTop (mkF m 11 #[.val (.ref ob0), .val (.ref ob0_priorNumber), .val .null] [(.ref ob0)])) _
    jvm_step X4.here [X4.here.top, hx, (hb hby own_d25_11), X4.method', Bd.returns, Value.isRef, FieldType.isReference]
    first | (intro acts; rw [hrt _ acts rfl rfl rfl]) | rw [hrt _ _ rfl rfl rfl]
    exact Steps.refl _
  · show own_Q_rmA56 Z ob0 ob0_kind ob0_priorCandidate ob0_priorNumber cs wf wK0 wK1 wK2 wK3 wL h0 n0 _ T4.heap _
    rw [e4]
    exact ⟨rfl, N4, (Keep.wr (Keep.wr (Keep.refl h0 [ob0]) W1 (Or.inl (List.mem_of_getElem? (i := 0) rfl))) W4 (Or.inl (List.mem_of_getElem? (i := 0) rfl))), f6, f7, f8, f9, Fw4, f10, f11, f12, f13, f14, f15, f16, f17⟩
theorem own_ef59 (m : MethodId) (x0 : Addr) : entryFrame m #[(.ref x0)] 1 = mkF m 0 #[.val (.ref x0)] [] := by first | (simp [entryFrame, mkF, argsToLocals, Value.category]; done) | rfl
theorem own_ef60 (m : MethodId) (x0 : Addr) (x1 : Addr) : entryFrame m #[(.ref x0), (.ref x1)] 2 = mkF m 0 #[.val (.ref x0), .val (.ref x1)] [] := by first | (simp [entryFrame, mkF, argsToLocals, Value.category]; done) | rfl
def own_Q_rmA58 (Z : State) (ob0 : Addr) (ob1 : Addr) (ob1_kind : Addr) (ob1_priorCandidate : Addr) (ob1_priorNumber : Addr)  (cs : Int32) (wf : Value) (wK0 : Addr) (wK1 : Addr) (wK2 : Addr) (wK3 : Addr) (wL : Addr) (h0 : Heap) (n0 : Nat) (v : Option Value) (h : Heap) (L : List Loc) : Prop := v = none ∧ Fr n0 L ∧ Keep h0 h [ob0] ∧ Exa Z h ob0 "com/example/assemble_quorum/assemblequorum/io/Message" ∧ Fld Z h ob0 "com/example/assemble_quorum/assemblequorum/io/Message" "kind" "Lcom/example/assemble_quorum/assemblequorum/io/Message$Kind;" (.ref ob1_kind) ∧ Fld Z h ob0 "com/example/assemble_quorum/assemblequorum/io/Message" "priorNumber" "Lcom/example/assemble_quorum/assemblequorum/model/ProposalNumber;" (.ref ob1_priorNumber) ∧ Fld Z h ob0 "com/example/assemble_quorum/assemblequorum/io/Message" "priorCandidate" "Lcom/example/assemble_quorum/assemblequorum/model/MemberAddress;" (.ref ob1_priorCandidate) ∧ Fld Z h ob0 "com/example/assemble_quorum/assemblequorum/io/Message" "number" "Lcom/example/assemble_quorum/assemblequorum/model/ProposalNumber;" .null ∧ Fld Z h ob0 "com/example/assemble_quorum/assemblequorum/io/Message" "candidate" "Lcom/example/assemble_quorum/assemblequorum/model/MemberAddress;" .null ∧ Fld Z h ob0 "com/example/assemble_quorum/assemblequorum/io/Message" "leader" "Lcom/example/assemble_quorum/assemblequorum/model/MemberAddress;" .null
set_option maxRecDepth 65536 in
set_option maxHeartbeats 40000000 in
theorem rmA58 (l : Launch) (Z : State) (a0 : Array Value) (hw : ∀ d ∈ tables_1, d.before a0 Z = true) (ws : List Jvm.Cond) (ob0 : Addr) (ob1 : Addr) (ob1_kind : Addr) (ob1_priorCandidate : Addr) (ob1_priorNumber : Addr)  (cs : Int32) (wf : Value) (wK0 : Addr) (wK1 : Addr) (wK2 : Addr) (wK3 : Addr) (wL : Addr) (h0 : Heap) (n0 : Nat) (O0 : Old Z n0 h0) (G : own_Gl Z cs wf wK0 wK1 wK2 wK3 wL) (E_ob0 : Exa Z h0 ob0 "com/example/assemble_quorum/assemblequorum/io/Message") (F_ob0_candidate : Fld Z h0 ob0 "com/example/assemble_quorum/assemblequorum/io/Message" "candidate" "Lcom/example/assemble_quorum/assemblequorum/model/MemberAddress;" .null) (F_ob0_granted : Fld Z h0 ob0 "com/example/assemble_quorum/assemblequorum/io/Message" "granted" "Z" (.int (0 : Int32))) (F_ob0_kind : Fld Z h0 ob0 "com/example/assemble_quorum/assemblequorum/io/Message" "kind" "Lcom/example/assemble_quorum/assemblequorum/io/Message$Kind;" .null) (F_ob0_leader : Fld Z h0 ob0 "com/example/assemble_quorum/assemblequorum/io/Message" "leader" "Lcom/example/assemble_quorum/assemblequorum/model/MemberAddress;" .null) (F_ob0_members : Fld Z h0 ob0 "com/example/assemble_quorum/assemblequorum/io/Message" "members" "Ljava/util/List;" .null) (F_ob0_number : Fld Z h0 ob0 "com/example/assemble_quorum/assemblequorum/io/Message" "number" "Lcom/example/assemble_quorum/assemblequorum/model/ProposalNumber;" .null) (F_ob0_payload : Fld Z h0 ob0 "com/example/assemble_quorum/assemblequorum/io/Message" "payload" "[B" .null) (F_ob0_priorCandidate : Fld Z h0 ob0 "com/example/assemble_quorum/assemblequorum/io/Message" "priorCandidate" "Lcom/example/assemble_quorum/assemblequorum/model/MemberAddress;" .null) (F_ob0_priorNumber : Fld Z h0 ob0 "com/example/assemble_quorum/assemblequorum/io/Message" "priorNumber" "Lcom/example/assemble_quorum/assemblequorum/model/ProposalNumber;" .null) (F_ob0_sender : Fld Z h0 ob0 "com/example/assemble_quorum/assemblequorum/io/Message" "sender" "Lcom/example/assemble_quorum/assemblequorum/model/MemberAddress;" .null) (F_ob0_topic : Fld Z h0 ob0 "com/example/assemble_quorum/assemblequorum/io/Message" "topic" "Ljava/lang/String;" .null) (F_ob0_version : Fld Z h0 ob0 "com/example/assemble_quorum/assemblequorum/io/Message" "version" "J" (.long (0 : Int64))) (E_ob1 : Exa Z h0 ob1 "com/example/assemble_quorum/assemblequorum/io/Message$Builder") (F_ob1_candidate : Fld Z h0 ob1 "com/example/assemble_quorum/assemblequorum/io/Message$Builder" "candidate" "Lcom/example/assemble_quorum/assemblequorum/model/MemberAddress;" .null) (F_ob1_granted : Fld Z h0 ob1 "com/example/assemble_quorum/assemblequorum/io/Message$Builder" "granted" "Z" (.int (0 : Int32))) (F_ob1_kind : Fld Z h0 ob1 "com/example/assemble_quorum/assemblequorum/io/Message$Builder" "kind" "Lcom/example/assemble_quorum/assemblequorum/io/Message$Kind;" (.ref ob1_kind)) (F_ob1_leader : Fld Z h0 ob1 "com/example/assemble_quorum/assemblequorum/io/Message$Builder" "leader" "Lcom/example/assemble_quorum/assemblequorum/model/MemberAddress;" .null) (F_ob1_members : Fld Z h0 ob1 "com/example/assemble_quorum/assemblequorum/io/Message$Builder" "members" "Ljava/util/List;" (.ref wL)) (F_ob1_number : Fld Z h0 ob1 "com/example/assemble_quorum/assemblequorum/io/Message$Builder" "number" "Lcom/example/assemble_quorum/assemblequorum/model/ProposalNumber;" .null) (F_ob1_payload : Fld Z h0 ob1 "com/example/assemble_quorum/assemblequorum/io/Message$Builder" "payload" "[B" .null) (F_ob1_priorCandidate : Fld Z h0 ob1 "com/example/assemble_quorum/assemblequorum/io/Message$Builder" "priorCandidate" "Lcom/example/assemble_quorum/assemblequorum/model/MemberAddress;" (.ref ob1_priorCandidate)) (F_ob1_priorNumber : Fld Z h0 ob1 "com/example/assemble_quorum/assemblequorum/io/Message$Builder" "priorNumber" "Lcom/example/assemble_quorum/assemblequorum/model/ProposalNumber;" (.ref ob1_priorNumber)) (F_ob1_sender : Fld Z h0 ob1 "com/example/assemble_quorum/assemblequorum/io/Message$Builder" "sender" "Lcom/example/assemble_quorum/assemblequorum/model/MemberAddress;" .null) (F_ob1_topic : Fld Z h0 ob1 "com/example/assemble_quorum/assemblequorum/io/Message$Builder" "topic" "Ljava/lang/String;" .null) (F_ob1_version : Fld Z h0 ob1 "com/example/assemble_quorum/assemblequorum/io/Message$Builder" "version" "J" (.long (0 : Int64))) (gz_ob0 : n0 ≤ ob0) :
    MetFree l own_y25 (head1 (Jvm.Cond.code own_y25 prog_17_method_1_code 2 none :: ws) ({ frames := 2, cells := 0, slots := 0, locals := 26 } : Room)) (fun a U => a = #[(.ref ob0), (.ref ob1)] ∧ Z.Warmed39 U.vm ∧ U.heap = h0) (fun _ _ _ _ _ => True) (fun _ U o U' => ∃ v L, o = .returned v ∧ own_Q_rmA58 Z ob0 ob1 ob1_kind ob1_priorCandidate ob1_priorNumber cs wf wK0 wK1 wK2 wK3 wL h0 n0 v U'.heap L ∧ FrameEnd U o U' L ({ frames := 2, cells := 0, slots := 0, locals := 26 } : Room).cells ({ frames := 2, cells := 0, slots := 0, locals := 26 } : Room).slots) := by
  refine MetFree.of_bodySF (plainFor_of_name own_pn9) hisR ?_
  intro p e s m args below meth c s₁ Bd hml0 hP hK
  obtain ⟨rfl, hZ, hh⟩ := hP
  have hx := Bd.exec
  have hby := Bd.bytes
  have hml : c.maxLocals = 2 := hml0
  have hown : s.vm.findClass "com/example/assemble_quorum/assemblequorum/io/Message" = some m.cls := findClass_of_methodNamed Bd.named
  have hnm := (name_of_methodNamed Bd.named Bd.method).1
  have X0 : Stand p l e ({ frames := 2, cells := 0, slots := 0, locals := 26 } : Room) s m #[(.ref ob0), (.ref ob1)] below meth c s₁ [] 0 0 := Stand.of_body Bd
  have e0 : s₁.heap = h0 := by rw [← hh, Bd.state]; rfl
  have N0 := Fr.nil n0
  have Z0 : n0 ≤ h0.size := O0.1 ▸ O0.2.1
  have g0 : ∀ t, Steps p.tables e below (s₁.setTop (mkF m 0 #[.val (.ref ob0), .val (.ref ob1)] [])) t → Steps p.tables e below (s₁.setTop (entryFrame m #[(.ref ob0), (.ref ob1)] 2)) t := fun t k => castTop (own_ef60 m (ob0) (ob1)) k
  have G0 := G
  obtain ⟨S_CS, hcs, S_WF, hwf, S_PROPOSAL_ANSWER, S_HELLO, S_EVENT, S_PING, S_L, Ex_L, Fa_L⟩ := G
  obtain ⟨T1, X1, e1, st1⟩ := initO X0 hx hZ hown (own_w hw 159 rfl) (own_w hw 16 rfl) (own_w hw 17 rfl) e0 (g := (mkF m 1 #[.val (.ref ob0), .val (.ref ob1)] [(.ref ob0)])) rfl (by rw [hml]; rfl) rfl (hb hby own_d27_1) (by decide) (W := 0) (by show 2 * 0 + _ ≤ _; exact Nat.le_of_eq rfl) (by decide)
  obtain ⟨T2, X2, e2, st2⟩ := own_getR X1 hx hZ hown (own_w hw 160 rfl) e1 F_ob1_kind (g := (mkF m 6 #[.val (.ref ob0), .val (.ref ob1)] [(.ref ob1), (.ref ob0)])) rfl rfl (hb hby own_d27_6)
  obtain ⟨T3, h3, X3, e3, W3, st3⟩ := putF X2 hx hZ hown (host := "") (Or.inl (own_w hw 161 rfl)) Via.refl e2 F_ob0_kind E_ob0 (Or.inr ⟨(own_w hw 162 rfl), rfl, hnm⟩) (own_w hw 154 rfl) (ty := (.object "com/example/assemble_quorum/assemblequorum/io/Message$Kind")) (by decide) rfl rfl (g := (mkF m 9 #[.val (.ref ob0), .val (.ref ob1)] [(.ref ob1_kind), (.ref ob0)])) rfl rfl (hb hby own_d27_9)
  have Fw3 := F_ob0_kind.same W3
  have N3 := Fr.snoc X3 N0 gz_ob0
  have f4 := (F_ob1_sender.other W3 (Or.inl (Exa.ne E_ob1 E_ob0 (by decide))))
  obtain ⟨T5, X5, e5, st5⟩ := own_getR X3 hx hZ hown (own_w hw 163 rfl) e3 f4 (g := (mkF m 14 #[.val (.ref ob0), .val (.ref ob1)] [(.ref ob1), (.ref ob0)])) rfl rfl (hb hby own_d27_14)
  have f6 := (E_ob0.wr W3)
  have f7 := (F_ob0_sender.other W3 (Or.inr (slot_ne (own_la16 hw) (own_la17 hw) (by decide) own_ty2 own_ty4)))
  obtain ⟨T8, h8, X8, e8, W8, st8⟩ := putF X5 hx hZ hown (host := "") (Or.inl (own_w hw 165 rfl)) Via.refl e5 f7 f6 (Or.inr ⟨(own_w hw 166 rfl), rfl, hnm⟩) (own_w hw 154 rfl) (ty := (.object "com/example/assemble_quorum/assemblequorum/model/MemberAddress")) (by decide) rfl rfl (g := (mkF m 17 #[.val (.ref ob0), .val (.ref ob1)] [.null, (.ref ob0)])) rfl rfl (hb hby own_d27_17)
  have Fw8 := f7.same W8
  have N8 := Fr.snoc X8 N3 gz_ob0
  have f9 := ((F_ob1_leader.other W3 (Or.inl (Exa.ne E_ob1 E_ob0 (by decide)))).other W8 (Or.inl (Exa.ne (E_ob1.wr W3) f6 (by decide))))
  obtain ⟨T10, X10, e10, st10⟩ := own_getR X8 hx hZ hown (own_w hw 167 rfl) e8 f9 (g := (mkF m 22 #[.val (.ref ob0), .val (.ref ob1)] [(.ref ob1), (.ref ob0)])) rfl rfl (hb hby own_d27_22)
  have f11 := (f6.wr W8)
  have f12 := ((F_ob0_leader.other W3 (Or.inr (slot_ne (own_la18 hw) (own_la17 hw) (by decide) own_ty2 own_ty4))).other W8 (Or.inr (slot_ne (own_la18 hw) (own_la16 hw) (by decide) own_ty2 own_ty2)))
  obtain ⟨T13, h13, X13, e13, W13, st13⟩ := putF X10 hx hZ hown (host := "") (Or.inl (own_w hw 169 rfl)) Via.refl e10 f12 f11 (Or.inr ⟨(own_w hw 170 rfl), rfl, hnm⟩) (own_w hw 154 rfl) (ty := (.object "com/example/assemble_quorum/assemblequorum/model/MemberAddress")) (by decide) rfl rfl (g := (mkF m 25 #[.val (.ref ob0), .val (.ref ob1)] [.null, (.ref ob0)])) rfl rfl (hb hby own_d27_25)
  have Fw13 := f12.same W13
  have N13 := Fr.snoc X13 N8 gz_ob0
  have f14 := (((F_ob1_version.other W3 (Or.inl (Exa.ne E_ob1 E_ob0 (by decide)))).other W8 (Or.inl (Exa.ne (E_ob1.wr W3) f6 (by decide)))).other W13 (Or.inl (Exa.ne ((E_ob1.wr W3).wr W8) f11 (by decide))))
  obtain ⟨T15, X15, e15, st15⟩ := own_getR X13 hx hZ hown (own_w hw 171 rfl) e13 f14 (g := (mkF m 30 #[.val (.ref ob0), .val (.ref ob1)] [(.ref ob1), (.ref ob0)])) rfl rfl (hb hby own_d27_30)
  have f16 := (f11.wr W13)
  have f17 := (((F_ob0_version.other W3 (Or.inr (slot_ne (own_la19 hw) (own_la17 hw) (by decide) own_ty3 own_ty4))).other W8 (Or.inr (slot_ne (own_la19 hw) (own_la16 hw) (by decide) own_ty3 own_ty2))).other W13 (Or.inr (slot_ne (own_la19 hw) (own_la18 hw) (by decide) own_ty3 own_ty2)))
  obtain ⟨T18, h18, X18, e18, W18, st18⟩ := putF X15 hx hZ hown (host := "") (Or.inl (own_w hw 173 rfl)) Via.refl e15 f17 f16 (Or.inr ⟨(own_w hw 174 rfl), rfl, hnm⟩) (own_w hw 154 rfl) (ty := .long) (by decide) rfl rfl (g := (mkF m 33 #[.val (.ref ob0), .val (.ref ob1)] [(.long (0 : Int64)), (.ref ob0)])) rfl rfl (hb hby own_d27_33)
  have Fw18 := f17.same W18
  have N18 := Fr.snoc X18 N13 gz_ob0
  have f19 := ((((F_ob1_number.other W3 (Or.inl (Exa.ne E_ob1 E_ob0 (by decide)))).other W8 (Or.inl (Exa.ne (E_ob1.wr W3) f6 (by decide)))).other W13 (Or.inl (Exa.ne ((E_ob1.wr W3).wr W8) f11 (by decide)))).other W18 (Or.inl (Exa.ne (((E_ob1.wr W3).wr W8).wr W13) f16 (by decide))))
  obtain ⟨T20, X20, e20, st20⟩ := own_getR X18 hx hZ hown (own_w hw 175 rfl) e18 f19 (g := (mkF m 38 #[.val (.ref ob0), .val (.ref ob1)] [(.ref ob1), (.ref ob0)])) rfl rfl (hb hby own_d27_38)
  have f21 := (f16.wr W18)
  have f22 := ((((F_ob0_number.other W3 (Or.inr (slot_ne (own_la20 hw) (own_la17 hw) (by decide) own_ty6 own_ty4))).other W8 (Or.inr (slot_ne (own_la20 hw) (own_la16 hw) (by decide) own_ty6 own_ty2))).other W13 (Or.inr (slot_ne (own_la20 hw) (own_la18 hw) (by decide) own_ty6 own_ty2))).other W18 (Or.inr (slot_ne (own_la20 hw) (own_la19 hw) (by decide) own_ty6 own_ty3)))
  obtain ⟨T23, h23, X23, e23, W23, st23⟩ := putF X20 hx hZ hown (host := "") (Or.inl (own_w hw 177 rfl)) Via.refl e20 f22 f21 (Or.inr ⟨(own_w hw 178 rfl), rfl, hnm⟩) (own_w hw 154 rfl) (ty := (.object "com/example/assemble_quorum/assemblequorum/model/ProposalNumber")) (by decide) rfl rfl (g := (mkF m 41 #[.val (.ref ob0), .val (.ref ob1)] [.null, (.ref ob0)])) rfl rfl (hb hby own_d27_41)
  have Fw23 := f22.same W23
  have N23 := Fr.snoc X23 N18 gz_ob0
  have f24 := (((((F_ob1_candidate.other W3 (Or.inl (Exa.ne E_ob1 E_ob0 (by decide)))).other W8 (Or.inl (Exa.ne (E_ob1.wr W3) f6 (by decide)))).other W13 (Or.inl (Exa.ne ((E_ob1.wr W3).wr W8) f11 (by decide)))).other W18 (Or.inl (Exa.ne (((E_ob1.wr W3).wr W8).wr W13) f16 (by decide)))).other W23 (Or.inl (Exa.ne ((((E_ob1.wr W3).wr W8).wr W13).wr W18) f21 (by decide))))
  obtain ⟨T25, X25, e25, st25⟩ := own_getR X23 hx hZ hown (own_w hw 179 rfl) e23 f24 (g := (mkF m 46 #[.val (.ref ob0), .val (.ref ob1)] [(.ref ob1), (.ref ob0)])) rfl rfl (hb hby own_d27_46)
  have f26 := (f21.wr W23)
  have f27 := (((((F_ob0_candidate.other W3 (Or.inr (slot_ne (own_la21 hw) (own_la17 hw) (by decide) own_ty2 own_ty4))).other W8 (Or.inr (slot_ne (own_la21 hw) (own_la16 hw) (by decide) own_ty2 own_ty2))).other W13 (Or.inr (slot_ne (own_la21 hw) (own_la18 hw) (by decide) own_ty2 own_ty2))).other W18 (Or.inr (slot_ne (own_la21 hw) (own_la19 hw) (by decide) own_ty2 own_ty3))).other W23 (Or.inr (slot_ne (own_la21 hw) (own_la20 hw) (by decide) own_ty2 own_ty6)))
  obtain ⟨T28, h28, X28, e28, W28, st28⟩ := putF X25 hx hZ hown (host := "") (Or.inl (own_w hw 181 rfl)) Via.refl e25 f27 f26 (Or.inr ⟨(own_w hw 182 rfl), rfl, hnm⟩) (own_w hw 154 rfl) (ty := (.object "com/example/assemble_quorum/assemblequorum/model/MemberAddress")) (by decide) rfl rfl (g := (mkF m 49 #[.val (.ref ob0), .val (.ref ob1)] [.null, (.ref ob0)])) rfl rfl (hb hby own_d27_49)
  have Fw28 := f27.same W28
  have N28 := Fr.snoc X28 N23 gz_ob0
  have f29 := ((((((F_ob1_granted.other W3 (Or.inl (Exa.ne E_ob1 E_ob0 (by decide)))).other W8 (Or.inl (Exa.ne (E_ob1.wr W3) f6 (by decide)))).other W13 (Or.inl (Exa.ne ((E_ob1.wr W3).wr W8) f11 (by decide)))).other W18 (Or.inl (Exa.ne (((E_ob1.wr W3).wr W8).wr W13) f16 (by decide)))).other W23 (Or.inl (Exa.ne ((((E_ob1.wr W3).wr W8).wr W13).wr W18) f21 (by decide)))).other W28 (Or.inl (Exa.ne (((((E_ob1.wr W3).wr W8).wr W13).wr W18).wr W23) f26 (by decide))))
  obtain ⟨T30, X30, e30, st30⟩ := own_getR X28 hx hZ hown (own_w hw 183 rfl) e28 f29 (g := (mkF m 54 #[.val (.ref ob0), .val (.ref ob1)] [(.ref ob1), (.ref ob0)])) rfl rfl (hb hby own_d27_54)
  have f31 := (f26.wr W28)
  have f32 := ((((((F_ob0_granted.other W3 (Or.inr (slot_ne (own_la22 hw) (own_la17 hw) (by decide) own_ty7 own_ty4))).other W8 (Or.inr (slot_ne (own_la22 hw) (own_la16 hw) (by decide) own_ty7 own_ty2))).other W13 (Or.inr (slot_ne (own_la22 hw) (own_la18 hw) (by decide) own_ty7 own_ty2))).other W18 (Or.inr (slot_ne (own_la22 hw) (own_la19 hw) (by decide) own_ty7 own_ty3))).other W23 (Or.inr (slot_ne (own_la22 hw) (own_la20 hw) (by decide) own_ty7 own_ty6))).other W28 (Or.inr (slot_ne (own_la22 hw) (own_la21 hw) (by decide) own_ty7 own_ty2)))
  obtain ⟨T33, h33, X33, e33, W33, st33⟩ := putFN X30 hx hZ hown (own_w hw 185 rfl) Via.refl e30 f32 f31 (Or.inr ⟨(own_w hw 186 rfl), rfl, hnm⟩) (own_w hw 154 rfl) (ty := .boolean) (v' := (.int (0 : Int32))) (by decide) rfl rfl (g := (mkF m 57 #[.val (.ref ob0), .val (.ref ob1)] [(.int (0 : Int32)), (.ref ob0)])) rfl rfl (hb hby own_d27_57)
  have Fw33 := f32.same W33
  have N33 := Fr.snoc X33 N28 gz_ob0
  have f34 := (((((((F_ob1_priorNumber.other W3 (Or.inl (Exa.ne E_ob1 E_ob0 (by decide)))).other W8 (Or.inl (Exa.ne (E_ob1.wr W3) f6 (by decide)))).other W13 (Or.inl (Exa.ne ((E_ob1.wr W3).wr W8) f11 (by decide)))).other W18 (Or.inl (Exa.ne (((E_ob1.wr W3).wr W8).wr W13) f16 (by decide)))).other W23 (Or.inl (Exa.ne ((((E_ob1.wr W3).wr W8).wr W13).wr W18) f21 (by decide)))).other W28 (Or.inl (Exa.ne (((((E_ob1.wr W3).wr W8).wr W13).wr W18).wr W23) f26 (by decide)))).other W33 (Or.inl (Exa.ne ((((((E_ob1.wr W3).wr W8).wr W13).wr W18).wr W23).wr W28) f31 (by decide))))
  obtain ⟨T35, X35, e35, st35⟩ := own_getR X33 hx hZ hown (own_w hw 187 rfl) e33 f34 (g := (mkF m 62 #[.val (.ref ob0), .val (.ref ob1)] [(.ref ob1), (.ref ob0)])) rfl rfl (hb hby own_d27_62)
  have f36 := (f31.wr W33)
  have f37 := (((((((F_ob0_priorNumber.other W3 (Or.inr (slot_ne (own_la23 hw) (own_la17 hw) (by decide) own_ty6 own_ty4))).other W8 (Or.inr (slot_ne (own_la23 hw) (own_la16 hw) (by decide) own_ty6 own_ty2))).other W13 (Or.inr (slot_ne (own_la23 hw) (own_la18 hw) (by decide) own_ty6 own_ty2))).other W18 (Or.inr (slot_ne (own_la23 hw) (own_la19 hw) (by decide) own_ty6 own_ty3))).other W23 (Or.inr (slot_ne (own_la23 hw) (own_la20 hw) (by decide) own_ty6 own_ty6))).other W28 (Or.inr (slot_ne (own_la23 hw) (own_la21 hw) (by decide) own_ty6 own_ty2))).other W33 (Or.inr (slot_ne (own_la23 hw) (own_la22 hw) (by decide) own_ty6 own_ty7)))
  obtain ⟨T38, h38, X38, e38, W38, st38⟩ := putF X35 hx hZ hown (host := "") (Or.inl (own_w hw 188 rfl)) Via.refl e35 f37 f36 (Or.inr ⟨(own_w hw 189 rfl), rfl, hnm⟩) (own_w hw 154 rfl) (ty := (.object "com/example/assemble_quorum/assemblequorum/model/ProposalNumber")) (by decide) rfl rfl (g := (mkF m 65 #[.val (.ref ob0), .val (.ref ob1)] [(.ref ob1_priorNumber), (.ref ob0)])) rfl rfl (hb hby own_d27_65)
  have Fw38 := f37.same W38
  have N38 := Fr.snoc X38 N33 gz_ob0
  have f39 := ((((((((F_ob1_priorCandidate.other W3 (Or.inl (Exa.ne E_ob1 E_ob0 (by decide)))).other W8 (Or.inl (Exa.ne (E_ob1.wr W3) f6 (by decide)))).other W13 (Or.inl (Exa.ne ((E_ob1.wr W3).wr W8) f11 (by decide)))).other W18 (Or.inl (Exa.ne (((E_ob1.wr W3).wr W8).wr W13) f16 (by decide)))).other W23 (Or.inl (Exa.ne ((((E_ob1.wr W3).wr W8).wr W13).wr W18) f21 (by decide)))).other W28 (Or.inl (Exa.ne (((((E_ob1.wr W3).wr W8).wr W13).wr W18).wr W23) f26 (by decide)))).other W33 (Or.inl (Exa.ne ((((((E_ob1.wr W3).wr W8).wr W13).wr W18).wr W23).wr W28) f31 (by decide)))).other W38 (Or.inl (Exa.ne (((((((E_ob1.wr W3).wr W8).wr W13).wr W18).wr W23).wr W28).wr W33) f36 (by decide))))
  obtain ⟨T40, X40, e40, st40⟩ := own_getR X38 hx hZ hown (own_w hw 190 rfl) e38 f39 (g := (mkF m 70 #[.val (.ref ob0), .val (.ref ob1)] [(.ref ob1), (.ref ob0)])) rfl rfl (hb hby own_d27_70)
  have f41 := (f36.wr W38)
  have f42 := ((((((((F_ob0_priorCandidate.other W3 (Or.inr (slot_ne (own_la24 hw) (own_la17 hw) (by decide) own_ty2 own_ty4))).other W8 (Or.inr (slot_ne (own_la24 hw) (own_la16 hw) (by decide) own_ty2 own_ty2))).other W13 (Or.inr (slot_ne (own_la24 hw) (own_la18 hw) (by decide) own_ty2 own_ty2))).other W18 (Or.inr (slot_ne (own_la24 hw) (own_la19 hw) (by decide) own_ty2 own_ty3))).other W23 (Or.inr (slot_ne (own_la24 hw) (own_la20 hw) (by decide) own_ty2 own_ty6))).other W28 (Or.inr (slot_ne (own_la24 hw) (own_la21 hw) (by decide) own_ty2 own_ty2))).other W33 (Or.inr (slot_ne (own_la24 hw) (own_la22 hw) (by decide) own_ty2 own_ty7))).other W38 (Or.inr (slot_ne (own_la24 hw) (own_la23 hw) (by decide) own_ty2 own_ty6)))
  obtain ⟨T43, h43, X43, e43, W43, st43⟩ := putF X40 hx hZ hown (host := "") (Or.inl (own_w hw 191 rfl)) Via.refl e40 f42 f41 (Or.inr ⟨(own_w hw 192 rfl), rfl, hnm⟩) (own_w hw 154 rfl) (ty := (.object "com/example/assemble_quorum/assemblequorum/model/MemberAddress")) (by decide) rfl rfl (g := (mkF m 73 #[.val (.ref ob0), .val (.ref ob1)] [(.ref ob1_priorCandidate), (.ref ob0)])) rfl rfl (hb hby own_d27_73)
  have Fw43 := f42.same W43
  have N43 := Fr.snoc X43 N38 gz_ob0
  have f44 := (((((((((F_ob1_members.other W3 (Or.inl (Exa.ne E_ob1 E_ob0 (by decide)))).other W8 (Or.inl (Exa.ne (E_ob1.wr W3) f6 (by decide)))).other W13 (Or.inl (Exa.ne ((E_ob1.wr W3).wr W8) f11 (by decide)))).other W18 (Or.inl (Exa.ne (((E_ob1.wr W3).wr W8).wr W13) f16 (by decide)))).other W23 (Or.inl (Exa.ne ((((E_ob1.wr W3).wr W8).wr W13).wr W18) f21 (by decide)))).other W28 (Or.inl (Exa.ne (((((E_ob1.wr W3).wr W8).wr W13).wr W18).wr W23) f26 (by decide)))).other W33 (Or.inl (Exa.ne ((((((E_ob1.wr W3).wr W8).wr W13).wr W18).wr W23).wr W28) f31 (by decide)))).other W38 (Or.inl (Exa.ne (((((((E_ob1.wr W3).wr W8).wr W13).wr W18).wr W23).wr W28).wr W33) f36 (by decide)))).other W43 (Or.inl (Exa.ne ((((((((E_ob1.wr W3).wr W8).wr W13).wr W18).wr W23).wr W28).wr W33).wr W38) f41 (by decide))))
  obtain ⟨T45, X45, e45, st45⟩ := own_getR X43 hx hZ hown (own_w hw 193 rfl) e43 f44 (g := (mkF m 78 #[.val (.ref ob0), .val (.ref ob1)] [(.ref ob1), (.ref ob0)])) rfl rfl (hb hby own_d27_78)
  obtain ⟨LL46, XL46, NL46⟩ : ∃ LL : List Loc, Stand p l e ({ frames := 2, cells := 0, slots := 0, locals := 26 } : Room) s m #[(.ref ob0), (.ref ob1)] below meth c T45 LL 0 0 ∧ Fr n0 LL := ⟨_, X45, N43⟩
  have o47 : Old Z n0 h43 := (Old.wr (Old.wr (Old.wr (Old.wr (Old.wr (Old.wr (Old.wr (Old.wr (Old.wr O0 W3 gz_ob0) W8 gz_ob0) W13 gz_ob0) W18 gz_ob0) W23 gz_ob0) W28 gz_ob0) W33 gz_ob0) W38 gz_ob0) W43 gz_ob0)
  obtain ⟨_, _, ⟨T48, L48, k48, n48⟩, -, X48, ⟨Lc48, hQ48, l48, y48, z48⟩, st48⟩ := Jvm.LawKit.callS XL46 hx (y := own_y26) hown (mvT hZ (own_w hw 194 rfl)) (mvT hZ (own_w hw 195 rfl)) (mvT hZ (own_w hw 131 rfl)) (mvT hZ (own_w hw 196 rfl)) (by decide) (backOf (W := 1) (rmA27 l Z a0 hw []   cs wf wK0 wK1 wK2 wK3 wL h43 n0 o47 G0   ) hZ (own_w hw 196 rfl) (own_w hw 131 rfl) (by decide) (by decide)) (g := (mkF m 81 #[.val (.ref ob0), .val (.ref ob1)] [(.ref wL), (.ref ob0)])) rfl (by rw [hml]; rfl) (argsL := [(.ref wL)]) (rest := [(.ref ob0)]) (lenOf own_pd20 rfl) rfl (by show 2 * 0 + _ ≤ _; exact Nat.le_of_eq rfl) (hb hby own_d27_81) (fun _ _ => ⟨rfl, e45, (by decide : 0 + 0 ≤ _), (by decide : 0 + 0 ≤ _)⟩)
  dsimp only [Pt.U, Pt.locs, Pt.cells, Pt.slots] at X48 l48 y48 z48 st48 hQ48
  subst l48 y48 z48
  obtain ⟨rfl, Nq48, e48⟩ := hQ48
  have N48 := Fr.app NL46 Nq48
  have f49 := (f41.wr W43)
  have f50 := (((((((((F_ob0_members.other W3 (Or.inr (slot_ne (own_la25 hw) (own_la17 hw) (by decide) own_ty5 own_ty4))).other W8 (Or.inr (slot_ne (own_la25 hw) (own_la16 hw) (by decide) own_ty5 own_ty2))).other W13 (Or.inr (slot_ne (own_la25 hw) (own_la18 hw) (by decide) own_ty5 own_ty2))).other W18 (Or.inr (slot_ne (own_la25 hw) (own_la19 hw) (by decide) own_ty5 own_ty3))).other W23 (Or.inr (slot_ne (own_la25 hw) (own_la20 hw) (by decide) own_ty5 own_ty6))).other W28 (Or.inr (slot_ne (own_la25 hw) (own_la21 hw) (by decide) own_ty5 own_ty2))).other W33 (Or.inr (slot_ne (own_la25 hw) (own_la22 hw) (by decide) own_ty5 own_ty7))).other W38 (Or.inr (slot_ne (own_la25 hw) (own_la23 hw) (by decide) own_ty5 own_ty6))).other W43 (Or.inr (slot_ne (own_la25 hw) (own_la24 hw) (by decide) own_ty5 own_ty2)))
  obtain ⟨T51, h51, X51, e51, W51, st51⟩ := putF X48 hx hZ hown (host := "") (Or.inl (own_w hw 212 rfl)) Via.refl e48 f50 f49 (Or.inr ⟨(own_w hw 213 rfl), rfl, hnm⟩) (own_w hw 154 rfl) (ty := (.object "java/util/List")) (by decide) rfl rfl (g := (mkF m 84 #[.val (.ref ob0), .val (.ref ob1)] [(.ref wL), (.ref ob0)])) rfl rfl (hb hby own_d27_84)
  have Fw51 := f50.same W51
  have N51 := Fr.snoc X51 N48 gz_ob0
  have f52 := ((((((((((F_ob1_topic.other W3 (Or.inl (Exa.ne E_ob1 E_ob0 (by decide)))).other W8 (Or.inl (Exa.ne (E_ob1.wr W3) f6 (by decide)))).other W13 (Or.inl (Exa.ne ((E_ob1.wr W3).wr W8) f11 (by decide)))).other W18 (Or.inl (Exa.ne (((E_ob1.wr W3).wr W8).wr W13) f16 (by decide)))).other W23 (Or.inl (Exa.ne ((((E_ob1.wr W3).wr W8).wr W13).wr W18) f21 (by decide)))).other W28 (Or.inl (Exa.ne (((((E_ob1.wr W3).wr W8).wr W13).wr W18).wr W23) f26 (by decide)))).other W33 (Or.inl (Exa.ne ((((((E_ob1.wr W3).wr W8).wr W13).wr W18).wr W23).wr W28) f31 (by decide)))).other W38 (Or.inl (Exa.ne (((((((E_ob1.wr W3).wr W8).wr W13).wr W18).wr W23).wr W28).wr W33) f36 (by decide)))).other W43 (Or.inl (Exa.ne ((((((((E_ob1.wr W3).wr W8).wr W13).wr W18).wr W23).wr W28).wr W33).wr W38) f41 (by decide)))).other W51 (Or.inl (Exa.ne (((((((((E_ob1.wr W3).wr W8).wr W13).wr W18).wr W23).wr W28).wr W33).wr W38).wr W43) f49 (by decide))))
  obtain ⟨T53, X53, e53, st53⟩ := own_getR X51 hx hZ hown (own_w hw 214 rfl) e51 f52 (g := (mkF m 89 #[.val (.ref ob0), .val (.ref ob1)] [(.ref ob1), (.ref ob0)])) rfl rfl (hb hby own_d27_89)
  have f54 := (f49.wr W51)
  have f55 := ((((((((((F_ob0_topic.other W3 (Or.inr (slot_ne (own_la26 hw) (own_la17 hw) (by decide) own_ty1 own_ty4))).other W8 (Or.inr (slot_ne (own_la26 hw) (own_la16 hw) (by decide) own_ty1 own_ty2))).other W13 (Or.inr (slot_ne (own_la26 hw) (own_la18 hw) (by decide) own_ty1 own_ty2))).other W18 (Or.inr (slot_ne (own_la26 hw) (own_la19 hw) (by decide) own_ty1 own_ty3))).other W23 (Or.inr (slot_ne (own_la26 hw) (own_la20 hw) (by decide) own_ty1 own_ty6))).other W28 (Or.inr (slot_ne (own_la26 hw) (own_la21 hw) (by decide) own_ty1 own_ty2))).other W33 (Or.inr (slot_ne (own_la26 hw) (own_la22 hw) (by decide) own_ty1 own_ty7))).other W38 (Or.inr (slot_ne (own_la26 hw) (own_la23 hw) (by decide) own_ty1 own_ty6))).other W43 (Or.inr (slot_ne (own_la26 hw) (own_la24 hw) (by decide) own_ty1 own_ty2))).other W51 (Or.inr (slot_ne (own_la26 hw) (own_la25 hw) (by decide) own_ty1 own_ty5)))
  obtain ⟨T56, h56, X56, e56, W56, st56⟩ := putF X53 hx hZ hown (host := "") (Or.inl (own_w hw 216 rfl)) Via.refl e53 f55 f54 (Or.inr ⟨(own_w hw 217 rfl), rfl, hnm⟩) (own_w hw 154 rfl) (ty := (.object "java/lang/String")) (by decide) rfl rfl (g := (mkF m 92 #[.val (.ref ob0), .val (.ref ob1)] [.null, (.ref ob0)])) rfl rfl (hb hby own_d27_92)
  have Fw56 := f55.same W56
  have N56 := Fr.snoc X56 N51 gz_ob0
  have f57 := (((((((((((F_ob1_payload.other W3 (Or.inl (Exa.ne E_ob1 E_ob0 (by decide)))).other W8 (Or.inl (Exa.ne (E_ob1.wr W3) f6 (by decide)))).other W13 (Or.inl (Exa.ne ((E_ob1.wr W3).wr W8) f11 (by decide)))).other W18 (Or.inl (Exa.ne (((E_ob1.wr W3).wr W8).wr W13) f16 (by decide)))).other W23 (Or.inl (Exa.ne ((((E_ob1.wr W3).wr W8).wr W13).wr W18) f21 (by decide)))).other W28 (Or.inl (Exa.ne (((((E_ob1.wr W3).wr W8).wr W13).wr W18).wr W23) f26 (by decide)))).other W33 (Or.inl (Exa.ne ((((((E_ob1.wr W3).wr W8).wr W13).wr W18).wr W23).wr W28) f31 (by decide)))).other W38 (Or.inl (Exa.ne (((((((E_ob1.wr W3).wr W8).wr W13).wr W18).wr W23).wr W28).wr W33) f36 (by decide)))).other W43 (Or.inl (Exa.ne ((((((((E_ob1.wr W3).wr W8).wr W13).wr W18).wr W23).wr W28).wr W33).wr W38) f41 (by decide)))).other W51 (Or.inl (Exa.ne (((((((((E_ob1.wr W3).wr W8).wr W13).wr W18).wr W23).wr W28).wr W33).wr W38).wr W43) f49 (by decide)))).other W56 (Or.inl (Exa.ne ((((((((((E_ob1.wr W3).wr W8).wr W13).wr W18).wr W23).wr W28).wr W33).wr W38).wr W43).wr W51) f54 (by decide))))
  obtain ⟨T58, X58, e58, st58⟩ := own_getR X56 hx hZ hown (own_w hw 218 rfl) e56 f57 (g := (mkF m 97 #[.val (.ref ob0), .val (.ref ob1)] [(.ref ob1), (.ref ob0)])) rfl rfl (hb hby own_d27_97)
  have f59 := (f54.wr W56)
  have f60 := (((((((((((F_ob0_payload.other W3 (Or.inr (slot_ne (own_la27 hw) (own_la17 hw) (by decide) own_ty8 own_ty4))).other W8 (Or.inr (slot_ne (own_la27 hw) (own_la16 hw) (by decide) own_ty8 own_ty2))).other W13 (Or.inr (slot_ne (own_la27 hw) (own_la18 hw) (by decide) own_ty8 own_ty2))).other W18 (Or.inr (slot_ne (own_la27 hw) (own_la19 hw) (by decide) own_ty8 own_ty3))).other W23 (Or.inr (slot_ne (own_la27 hw) (own_la20 hw) (by decide) own_ty8 own_ty6))).other W28 (Or.inr (slot_ne (own_la27 hw) (own_la21 hw) (by decide) own_ty8 own_ty2))).other W33 (Or.inr (slot_ne (own_la27 hw) (own_la22 hw) (by decide) own_ty8 own_ty7))).other W38 (Or.inr (slot_ne (own_la27 hw) (own_la23 hw) (by decide) own_ty8 own_ty6))).other W43 (Or.inr (slot_ne (own_la27 hw) (own_la24 hw) (by decide) own_ty8 own_ty2))).other W51 (Or.inr (slot_ne (own_la27 hw) (own_la25 hw) (by decide) own_ty8 own_ty5))).other W56 (Or.inr (slot_ne (own_la27 hw) (own_la26 hw) (by decide) own_ty8 own_ty1)))
  obtain ⟨T61, h61, X61, e61, W61, st61⟩ := putF X58 hx hZ hown (host := "") (Or.inl (own_w hw 220 rfl)) Via.refl e58 f60 f59 (Or.inr ⟨(own_w hw 221 rfl), rfl, hnm⟩) (own_w hw 154 rfl) (ty := (.array .byte)) (by decide) rfl rfl (g := (mkF m 100 #[.val (.ref ob0), .val (.ref ob1)] [.null, (.ref ob0)])) rfl rfl (hb hby own_d27_100)
  have Fw61 := f60.same W61
  have N61 := Fr.snoc X61 N56 gz_ob0
  have g62 : ∀ t, Steps p.tables e below (T61.setTop (mkF m 103 #[.val (.ref ob0), .val (.ref ob1)] [])) t → Steps p.tables e below (s₁.setTop (entryFrame m #[(.ref ob0), (.ref ob1)] 2)) t := by
    intro t k
    refine g0 t ?_
    show Steps p.tables e below (s₁.setTop (mkF m 0 #[.val (.ref ob0), .val (.ref ob1)] [])) _
    refine XS.aloadN X0.here hx rfl (hb hby own_d27_0) rfl rfl ?_
    refine st1 _ ?_
    refine XS.aloadN X1.here hx rfl (hb hby own_d27_4) rfl rfl ?_
    refine XS.aloadN X1.here hx rfl (hb hby own_d27_5) rfl rfl ?_
    refine st2 _ ?_
    refine st3 _ ?_
    refine XS.aloadN X3.here hx rfl (hb hby own_d27_12) rfl rfl ?_
    refine XS.aloadN X3.here hx rfl (hb hby own_d27_13) rfl rfl ?_
    show Steps p.tables e below (T3.setTop (mkF m 14 #[.val (.ref ob0), .val (.ref ob1)] [(.ref ob1), (.ref ob0)])) _
    refine st5 _ ?_
    refine st8 _ ?_
    refine XS.aloadN X8.here hx rfl (hb hby own_d27_20) rfl rfl ?_
    refine XS.aloadN X8.here hx rfl (hb hby own_d27_21) rfl rfl ?_
    refine st10 _ ?_
    refine st13 _ ?_
    refine XS.aloadN X13.here hx rfl (hb hby own_d27_28) rfl rfl ?_
    refine XS.aloadN X13.here hx rfl (hb hby own_d27_29) rfl rfl ?_
    show Steps p.tables e below (T13.setTop (mkF m 30 #[.val (.ref ob0), .val (.ref ob1)] [(.ref ob1), (.ref ob0)])) _
    refine st15 _ ?_
    refine st18 _ ?_
    refine XS.aloadN X18.here hx rfl (hb hby own_d27_36) rfl rfl ?_
    refine XS.aloadN X18.here hx rfl (hb hby own_d27_37) rfl rfl ?_
    refine st20 _ ?_
    refine st23 _ ?_
    refine XS.aloadN X23.here hx rfl (hb hby own_d27_44) rfl rfl ?_
    refine XS.aloadN X23.here hx rfl (hb hby own_d27_45) rfl rfl ?_
    show Steps p.tables e below (T23.setTop (mkF m 46 #[.val (.ref ob0), .val (.ref ob1)] [(.ref ob1), (.ref ob0)])) _
    refine st25 _ ?_
    refine st28 _ ?_
    refine XS.aloadN X28.here hx rfl (hb hby own_d27_52) rfl rfl ?_
    refine XS.aloadN X28.here hx rfl (hb hby own_d27_53) rfl rfl ?_
    refine st30 _ ?_
    refine st33 _ ?_
    refine XS.aloadN X33.here hx rfl (hb hby own_d27_60) rfl rfl ?_
    refine XS.aloadN X33.here hx rfl (hb hby own_d27_61) rfl rfl ?_
    show Steps p.tables e below (T33.setTop (mkF m 62 #[.val (.ref ob0), .val (.ref ob1)] [(.ref ob1), (.ref ob0)])) _
    refine st35 _ ?_
    refine st38 _ ?_
    refine XS.aloadN X38.here hx rfl (hb hby own_d27_68) rfl rfl ?_
    refine XS.aloadN X38.here hx rfl (hb hby own_d27_69) rfl rfl ?_
    refine st40 _ ?_
    refine st43 _ ?_
    refine XS.aloadN X43.here hx rfl (hb hby own_d27_76) rfl rfl ?_
    refine XS.aloadN X43.here hx rfl (hb hby own_d27_77) rfl rfl ?_
    show Steps p.tables e below (T43.setTop (mkF m 78 #[.val (.ref ob0), .val (.ref ob1)] [(.ref ob1), (.ref ob0)])) _
    refine st45 _ ?_
    refine st48 _ ?_
    refine st51 _ ?_
    refine XS.aloadN X51.here hx rfl (hb hby own_d27_87) rfl rfl ?_
    refine XS.aloadN X51.here hx rfl (hb hby own_d27_88) rfl rfl ?_
    refine st53 _ ?_
    refine st56 _ ?_
    refine XS.aloadN X56.here hx rfl (hb hby own_d27_95) rfl rfl ?_
    show Steps p.tables e below (T56.setTop (mkF m 96 #[.val (.ref ob0), .val (.ref ob1)] [(.ref ob0)])) _
    refine XS.aloadN X56.here hx rfl (hb hby own_d27_96) rfl rfl ?_
    refine st58 _ ?_
    refine st61 _ ?_
    exact k
  obtain ⟨fs, hrt, hrun, hended, hW, hsame⟩ := X61.leave (v := none) (fun _ => rfl)
  have f63 := (f59.wr W61)
  have f64 := (((((((((((Fw3.other W8 (Or.inr (slot_ne (own_la17 hw) (own_la16 hw) (by decide) own_ty4 own_ty2))).other W13 (Or.inr (slot_ne (own_la17 hw) (own_la18 hw) (by decide) own_ty4 own_ty2))).other W18 (Or.inr (slot_ne (own_la17 hw) (own_la19 hw) (by decide) own_ty4 own_ty3))).other W23 (Or.inr (slot_ne (own_la17 hw) (own_la20 hw) (by decide) own_ty4 own_ty6))).other W28 (Or.inr (slot_ne (own_la17 hw) (own_la21 hw) (by decide) own_ty4 own_ty2))).other W33 (Or.inr (slot_ne (own_la17 hw) (own_la22 hw) (by decide) own_ty4 own_ty7))).other W38 (Or.inr (slot_ne (own_la17 hw) (own_la23 hw) (by decide) own_ty4 own_ty6))).other W43 (Or.inr (slot_ne (own_la17 hw) (own_la24 hw) (by decide) own_ty4 own_ty2))).other W51 (Or.inr (slot_ne (own_la17 hw) (own_la25 hw) (by decide) own_ty4 own_ty5))).other W56 (Or.inr (slot_ne (own_la17 hw) (own_la26 hw) (by decide) own_ty4 own_ty1))).other W61 (Or.inr (slot_ne (own_la17 hw) (own_la27 hw) (by decide) own_ty4 own_ty8)))
  have f65 := ((((Fw38.other W43 (Or.inr (slot_ne (own_la23 hw) (own_la24 hw) (by decide) own_ty6 own_ty2))).other W51 (Or.inr (slot_ne (own_la23 hw) (own_la25 hw) (by decide) own_ty6 own_ty5))).other W56 (Or.inr (slot_ne (own_la23 hw) (own_la26 hw) (by decide) own_ty6 own_ty1))).other W61 (Or.inr (slot_ne (own_la23 hw) (own_la27 hw) (by decide) own_ty6 own_ty8)))
  have f66 := (((Fw43.other W51 (Or.inr (slot_ne (own_la24 hw) (own_la25 hw) (by decide) own_ty2 own_ty5))).other W56 (Or.inr (slot_ne (own_la24 hw) (own_la26 hw) (by decide) own_ty2 own_ty1))).other W61 (Or.inr (slot_ne (own_la24 hw) (own_la27 hw) (by decide) own_ty2 own_ty8)))
  have f67 := (((((((Fw23.other W28 (Or.inr (slot_ne (own_la20 hw) (own_la21 hw) (by decide) own_ty6 own_ty2))).other W33 (Or.inr (slot_ne (own_la20 hw) (own_la22 hw) (by decide) own_ty6 own_ty7))).other W38 (Or.inr (slot_ne (own_la20 hw) (own_la23 hw) (by decide) own_ty6 own_ty6))).other W43 (Or.inr (slot_ne (own_la20 hw) (own_la24 hw) (by decide) own_ty6 own_ty2))).other W51 (Or.inr (slot_ne (own_la20 hw) (own_la25 hw) (by decide) own_ty6 own_ty5))).other W56 (Or.inr (slot_ne (own_la20 hw) (own_la26 hw) (by decide) own_ty6 own_ty1))).other W61 (Or.inr (slot_ne (own_la20 hw) (own_la27 hw) (by decide) own_ty6 own_ty8)))
  have f68 := ((((((Fw28.other W33 (Or.inr (slot_ne (own_la21 hw) (own_la22 hw) (by decide) own_ty2 own_ty7))).other W38 (Or.inr (slot_ne (own_la21 hw) (own_la23 hw) (by decide) own_ty2 own_ty6))).other W43 (Or.inr (slot_ne (own_la21 hw) (own_la24 hw) (by decide) own_ty2 own_ty2))).other W51 (Or.inr (slot_ne (own_la21 hw) (own_la25 hw) (by decide) own_ty2 own_ty5))).other W56 (Or.inr (slot_ne (own_la21 hw) (own_la26 hw) (by decide) own_ty2 own_ty1))).other W61 (Or.inr (slot_ne (own_la21 hw) (own_la27 hw) (by decide) own_ty2 own_ty8)))
  have f69 := (((((((((Fw13.other W18 (Or.inr (slot_ne (own_la18 hw) (own_la19 hw) (by decide) own_ty2 own_ty3))).other W23 (Or.inr (slot_ne (own_la18 hw) (own_la20 hw) (by decide) own_ty2 own_ty6))).other W28 (Or.inr (slot_ne (own_la18 hw) (own_la21 hw) (by decide) own_ty2 own_ty2))).other W33 (Or.inr (slot_ne (own_la18 hw) (own_la22 hw) (by decide) own_ty2 own_ty7))).other W38 (Or.inr (slot_ne (own_la18 hw) (own_la23 hw) (by decide) own_ty2 own_ty6))).other W43 (Or.inr (slot_ne (own_la18 hw) (own_la24 hw) (by decide) own_ty2 own_ty2))).other W51 (Or.inr (slot_ne (own_la18 hw) (own_la25 hw) (by decide) own_ty2 own_ty5))).other W56 (Or.inr (slot_ne (own_la18 hw) (own_la26 hw) (by decide) own_ty2 own_ty1))).other W61 (Or.inr (slot_ne (own_la18 hw) (own_la27 hw) (by decide) own_ty2 own_ty8)))
  refine ⟨_, _, g62 _ ?_, hrun, hended, _, _, rfl, ?_, ⟨_, rfl⟩, hW, hsame.mono (by decide) (by decide)⟩
  · show Steps p.tables e below (T61.setTop (mkF m 103 #[.val (.ref ob0), .val (.ref ob1)] [])) _
    exact X61.returnOut hx Bd.returns (hb hby own_d27_103) hrt
  · show own_Q_rmA58 Z ob0 ob1 ob1_kind ob1_priorCandidate ob1_priorNumber cs wf wK0 wK1 wK2 wK3 wL h0 n0 _ T61.heap _
    rw [e61]
    exact ⟨rfl, N61, (Keep.wr (Keep.wr (Keep.wr (Keep.wr (Keep.wr (Keep.wr (Keep.wr (Keep.wr (Keep.wr (Keep.wr (Keep.wr (Keep.wr (Keep.refl h0 [ob0]) W3 (Or.inl (List.mem_of_getElem? (i := 0) rfl))) W8 (Or.inl (List.mem_of_getElem? (i := 0) rfl))) W13 (Or.inl (List.mem_of_getElem? (i := 0) rfl))) W18 (Or.inl (List.mem_of_getElem? (i := 0) rfl))) W23 (Or.inl (List.mem_of_getElem? (i := 0) rfl))) W28 (Or.inl (List.mem_of_getElem? (i := 0) rfl))) W33 (Or.inl (List.mem_of_getElem? (i := 0) rfl))) W38 (Or.inl (List.mem_of_getElem? (i := 0) rfl))) W43 (Or.inl (List.mem_of_getElem? (i := 0) rfl))) W51 (Or.inl (List.mem_of_getElem? (i := 0) rfl))) W56 (Or.inl (List.mem_of_getElem? (i := 0) rfl))) W61 (Or.inl (List.mem_of_getElem? (i := 0) rfl))), f63, f64, f65, f66, f67, f68, f69⟩
def own_Q_rmA57 (Z : State) (ob0 : Addr) (ob0_kind : Addr) (ob0_priorCandidate : Addr) (ob0_priorNumber : Addr)  (cs : Int32) (wf : Value) (wK0 : Addr) (wK1 : Addr) (wK2 : Addr) (wK3 : Addr) (wL : Addr) (h0 : Heap) (n0 : Nat) (v : Option Value) (h : Heap) (L : List Loc) : Prop := ∃ bm : Addr, v = some (.ref bm) ∧ Fr n0 L ∧ Keep h0 h [] ∧ h0.size ≤ bm ∧ Exa Z h bm "com/example/assemble_quorum/assemblequorum/io/Message" ∧ Fld Z h bm "com/example/assemble_quorum/assemblequorum/io/Message" "kind" "Lcom/example/assemble_quorum/assemblequorum/io/Message$Kind;" (.ref ob0_kind) ∧ Fld Z h bm "com/example/assemble_quorum/assemblequorum/io/Message" "priorNumber" "Lcom/example/assemble_quorum/assemblequorum/model/ProposalNumber;" (.ref ob0_priorNumber) ∧ Fld Z h bm "com/example/assemble_quorum/assemblequorum/io/Message" "priorCandidate" "Lcom/example/assemble_quorum/assemblequorum/model/MemberAddress;" (.ref ob0_priorCandidate) ∧ Fld Z h bm "com/example/assemble_quorum/assemblequorum/io/Message" "number" "Lcom/example/assemble_quorum/assemblequorum/model/ProposalNumber;" .null ∧ Fld Z h bm "com/example/assemble_quorum/assemblequorum/io/Message" "candidate" "Lcom/example/assemble_quorum/assemblequorum/model/MemberAddress;" .null ∧ Fld Z h bm "com/example/assemble_quorum/assemblequorum/io/Message" "leader" "Lcom/example/assemble_quorum/assemblequorum/model/MemberAddress;" .null
set_option maxRecDepth 65536 in
set_option maxHeartbeats 40000000 in
theorem rmA57 (l : Launch) (Z : State) (a0 : Array Value) (hw : ∀ d ∈ tables_1, d.before a0 Z = true) (ws : List Jvm.Cond) (ob0 : Addr) (ob0_kind : Addr) (ob0_priorCandidate : Addr) (ob0_priorNumber : Addr)  (cs : Int32) (wf : Value) (wK0 : Addr) (wK1 : Addr) (wK2 : Addr) (wK3 : Addr) (wL : Addr) (h0 : Heap) (n0 : Nat) (O0 : Old Z n0 h0) (G : own_Gl Z cs wf wK0 wK1 wK2 wK3 wL) (E_ob0 : Exa Z h0 ob0 "com/example/assemble_quorum/assemblequorum/io/Message$Builder") (F_ob0_candidate : Fld Z h0 ob0 "com/example/assemble_quorum/assemblequorum/io/Message$Builder" "candidate" "Lcom/example/assemble_quorum/assemblequorum/model/MemberAddress;" .null) (F_ob0_granted : Fld Z h0 ob0 "com/example/assemble_quorum/assemblequorum/io/Message$Builder" "granted" "Z" (.int (0 : Int32))) (F_ob0_kind : Fld Z h0 ob0 "com/example/assemble_quorum/assemblequorum/io/Message$Builder" "kind" "Lcom/example/assemble_quorum/assemblequorum/io/Message$Kind;" (.ref ob0_kind)) (F_ob0_leader : Fld Z h0 ob0 "com/example/assemble_quorum/assemblequorum/io/Message$Builder" "leader" "Lcom/example/assemble_quorum/assemblequorum/model/MemberAddress;" .null) (F_ob0_members : Fld Z h0 ob0 "com/example/assemble_quorum/assemblequorum/io/Message$Builder" "members" "Ljava/util/List;" (.ref wL)) (F_ob0_number : Fld Z h0 ob0 "com/example/assemble_quorum/assemblequorum/io/Message$Builder" "number" "Lcom/example/assemble_quorum/assemblequorum/model/ProposalNumber;" .null) (F_ob0_payload : Fld Z h0 ob0 "com/example/assemble_quorum/assemblequorum/io/Message$Builder" "payload" "[B" .null) (F_ob0_priorCandidate : Fld Z h0 ob0 "com/example/assemble_quorum/assemblequorum/io/Message$Builder" "priorCandidate" "Lcom/example/assemble_quorum/assemblequorum/model/MemberAddress;" (.ref ob0_priorCandidate)) (F_ob0_priorNumber : Fld Z h0 ob0 "com/example/assemble_quorum/assemblequorum/io/Message$Builder" "priorNumber" "Lcom/example/assemble_quorum/assemblequorum/model/ProposalNumber;" (.ref ob0_priorNumber)) (F_ob0_sender : Fld Z h0 ob0 "com/example/assemble_quorum/assemblequorum/io/Message$Builder" "sender" "Lcom/example/assemble_quorum/assemblequorum/model/MemberAddress;" .null) (F_ob0_topic : Fld Z h0 ob0 "com/example/assemble_quorum/assemblequorum/io/Message$Builder" "topic" "Ljava/lang/String;" .null) (F_ob0_version : Fld Z h0 ob0 "com/example/assemble_quorum/assemblequorum/io/Message$Builder" "version" "J" (.long (0 : Int64))) :
    MetFree l own_y24 (head1 (Jvm.Cond.code own_y24 prog_18_method_12_code 1 (some (.object "com/example/assemble_quorum/assemblequorum/io/Message")) :: ws) ({ frames := 3, cells := 1, slots := 12, locals := 40 } : Room)) (fun a U => a = #[(.ref ob0)] ∧ Z.Warmed39 U.vm ∧ U.heap = h0) (fun _ _ _ _ _ => True) (fun _ U o U' => ∃ v L, o = .returned v ∧ own_Q_rmA57 Z ob0 ob0_kind ob0_priorCandidate ob0_priorNumber cs wf wK0 wK1 wK2 wK3 wL h0 n0 v U'.heap L ∧ FrameEnd U o U' L ({ frames := 3, cells := 1, slots := 12, locals := 40 } : Room).cells ({ frames := 3, cells := 1, slots := 12, locals := 40 } : Room).slots) := by
  refine MetFree.of_bodySF (plainFor_of_name own_pn7) hisR ?_
  intro p e s m args below meth c s₁ Bd hml0 hP hK
  obtain ⟨rfl, hZ, hh⟩ := hP
  have hx := Bd.exec
  have hby := Bd.bytes
  have hml : c.maxLocals = 1 := hml0
  have hown : s.vm.findClass "com/example/assemble_quorum/assemblequorum/io/Message$Builder" = some m.cls := findClass_of_methodNamed Bd.named
  have hnm := (name_of_methodNamed Bd.named Bd.method).1
  have X0 : Stand p l e ({ frames := 3, cells := 1, slots := 12, locals := 40 } : Room) s m #[(.ref ob0)] below meth c s₁ [] 0 0 := Stand.of_body Bd
  have e0 : s₁.heap = h0 := by rw [← hh, Bd.state]; rfl
  have N0 := Fr.nil n0
  have Z0 : n0 ≤ h0.size := O0.1 ▸ O0.2.1
  have g0 : ∀ t, Steps p.tables e below (s₁.setTop (mkF m 0 #[.val (.ref ob0)] [])) t → Steps p.tables e below (s₁.setTop (entryFrame m #[(.ref ob0)] 1)) t := fun t k => castTop (own_ef59 m (ob0)) k
  have G0 := G
  obtain ⟨S_CS, hcs, S_WF, hwf, S_PROPOSAL_ANSWER, S_HELLO, S_EVENT, S_PING, S_L, Ex_L, Fa_L⟩ := G
  obtain ⟨T1, h1, X1, e1, E1, A1, D1, -, st1⟩ := newO X0 hx hZ hown (own_w hw 153 rfl) (own_w hw 154 rfl) (own_w hw 155 rfl) e0 (g := (mkF m 0 #[.val (.ref ob0)] [])) rfl (hb hby own_d26_0) (by decide) (by decide)
  obtain ⟨b1, q_b1⟩ : ∃ z, z = h0.size := ⟨_, rfl⟩
  rw [← q_b1] at A1 D1 st1
  have sz_b1 : h0.size ≤ b1 := Nat.le_of_eq q_b1.symm
  have gz_b1 : n0 ≤ b1 := Nat.le_trans Z0 sz_b1
  have ne_ob0_b1 : ob0 ≠ b1 := Nat.ne_of_lt (Nat.lt_of_lt_of_le E_ob0.lt (Nat.le_of_eq q_b1.symm))
  have F1_kind : Fld Z h1 b1 "com/example/assemble_quorum/assemblequorum/io/Message" "kind" "Lcom/example/assemble_quorum/assemblequorum/io/Message$Kind;" .null := D1 (Or.inr (own_w hw 162 rfl)) (ty := (.object "com/example/assemble_quorum/assemblequorum/io/Message$Kind")) (by decide)
  have F1_sender : Fld Z h1 b1 "com/example/assemble_quorum/assemblequorum/io/Message" "sender" "Lcom/example/assemble_quorum/assemblequorum/model/MemberAddress;" .null := D1 (Or.inr (own_w hw 166 rfl)) (ty := (.object "com/example/assemble_quorum/assemblequorum/model/MemberAddress")) (by decide)
  have F1_leader : Fld Z h1 b1 "com/example/assemble_quorum/assemblequorum/io/Message" "leader" "Lcom/example/assemble_quorum/assemblequorum/model/MemberAddress;" .null := D1 (Or.inr (own_w hw 170 rfl)) (ty := (.object "com/example/assemble_quorum/assemblequorum/model/MemberAddress")) (by decide)
  have F1_version : Fld Z h1 b1 "com/example/assemble_quorum/assemblequorum/io/Message" "version" "J" (.long (0 : Int64)) := D1 (Or.inr (own_w hw 174 rfl)) (ty := .long) (by decide)
  have F1_number : Fld Z h1 b1 "com/example/assemble_quorum/assemblequorum/io/Message" "number" "Lcom/example/assemble_quorum/assemblequorum/model/ProposalNumber;" .null := D1 (Or.inr (own_w hw 178 rfl)) (ty := (.object "com/example/assemble_quorum/assemblequorum/model/ProposalNumber")) (by decide)
  have F1_candidate : Fld Z h1 b1 "com/example/assemble_quorum/assemblequorum/io/Message" "candidate" "Lcom/example/assemble_quorum/assemblequorum/model/MemberAddress;" .null := D1 (Or.inr (own_w hw 182 rfl)) (ty := (.object "com/example/assemble_quorum/assemblequorum/model/MemberAddress")) (by decide)
  have F1_granted : Fld Z h1 b1 "com/example/assemble_quorum/assemblequorum/io/Message" "granted" "Z" (.int (0 : Int32)) := D1 (Or.inr (own_w hw 186 rfl)) (ty := .boolean) (by decide)
  have F1_priorNumber : Fld Z h1 b1 "com/example/assemble_quorum/assemblequorum/io/Message" "priorNumber" "Lcom/example/assemble_quorum/assemblequorum/model/ProposalNumber;" .null := D1 (Or.inr (own_w hw 189 rfl)) (ty := (.object "com/example/assemble_quorum/assemblequorum/model/ProposalNumber")) (by decide)
  have F1_priorCandidate : Fld Z h1 b1 "com/example/assemble_quorum/assemblequorum/io/Message" "priorCandidate" "Lcom/example/assemble_quorum/assemblequorum/model/MemberAddress;" .null := D1 (Or.inr (own_w hw 192 rfl)) (ty := (.object "com/example/assemble_quorum/assemblequorum/model/MemberAddress")) (by decide)
  have F1_members : Fld Z h1 b1 "com/example/assemble_quorum/assemblequorum/io/Message" "members" "Ljava/util/List;" .null := D1 (Or.inr (own_w hw 213 rfl)) (ty := (.object "java/util/List")) (by decide)
  have F1_topic : Fld Z h1 b1 "com/example/assemble_quorum/assemblequorum/io/Message" "topic" "Ljava/lang/String;" .null := D1 (Or.inr (own_w hw 217 rfl)) (ty := (.object "java/lang/String")) (by decide)
  have F1_payload : Fld Z h1 b1 "com/example/assemble_quorum/assemblequorum/io/Message" "payload" "[B" .null := D1 (Or.inr (own_w hw 221 rfl)) (ty := (.array .byte)) (by decide)
  have f2 := (E_ob0.ext E1)
  have f3 := (F_ob0_candidate.ext E1)
  have f4 := (F_ob0_granted.ext E1)
  have f5 := (F_ob0_kind.ext E1)
  have f6 := (F_ob0_leader.ext E1)
  have f7 := (F_ob0_members.ext E1)
  have f8 := (F_ob0_number.ext E1)
  have f9 := (F_ob0_payload.ext E1)
  have f10 := (F_ob0_priorCandidate.ext E1)
  have f11 := (F_ob0_priorNumber.ext E1)
  have f12 := (F_ob0_sender.ext E1)
  have f13 := (F_ob0_topic.ext E1)
  have f14 := (F_ob0_version.ext E1)
  have o15 : Old Z n0 h1 := (Old.ext O0 E1)
  obtain ⟨_, _, ⟨T16, L16, k16, n16⟩, -, X16, ⟨Lc16, hQ16, l16, y16, z16⟩, st16⟩ := X1.specialBackNest hx (y := own_y25) rfl hown (own_mvM hZ (own_w hw 156 rfl)) (mvT hZ (own_w hw 157 rfl)) (mvT hZ (own_w hw 158 rfl)) (by decide) (backOf (W := 1) (rmA58 l Z a0 hw [] b1 ob0 ob0_kind ob0_priorCandidate ob0_priorNumber  cs wf wK0 wK1 wK2 wK3 wL h1 n0 o15 G0 A1 F1_candidate F1_granted F1_kind F1_leader F1_members F1_number F1_payload F1_priorCandidate F1_priorNumber F1_sender F1_topic F1_version f2 f3 f4 f5 f6 f7 f8 f9 f10 f11 f12 f13 f14 gz_b1 ) hZ (own_w hw 158 rfl) (own_w hw 155 rfl) (by decide) (by decide)) (g := (mkF m 5 #[.val (.ref ob0)] [(.ref ob0), (.ref b1), (.ref b1)])) rfl (by rw [hml]; rfl) (Steps.refl _) (a := b1) (argsL := [(.ref ob0)]) (rest := [(.ref b1)]) (lenOf own_pd21 rfl) rfl (by show 2 * 0 + _ ≤ _; exact Nat.le_of_eq rfl) (hb hby own_d26_5) (fun _ _ => ⟨rfl, e1, (by decide : 1 + 0 ≤ _), (by decide : 12 + 0 ≤ _)⟩)
  dsimp only [Pt.U, Pt.locs, Pt.cells, Pt.slots] at X16 l16 y16 z16 st16 hQ16
  subst l16 y16 z16
  obtain ⟨rfl, Nq16, K16, Q16_0, Q16_1, Q16_2, Q16_3, Q16_4, Q16_5, Q16_6⟩ := hQ16
  have N16 := Fr.app N0 Nq16
  have g17 : ∀ t, Steps p.tables e below (T16.setTop (mkF m 8 #[.val (.ref ob0)] [(.ref b1)])) t → Steps p.tables e below (s₁.setTop (entryFrame m #[(.ref ob0)] 1)) t := by
    intro t k
    refine g0 t ?_
    show Steps p.tables e below (s₁.setTop (mkF m 0 #[.val (.ref ob0)] [])) _
    refine st1 _ ?_
    refine XS.dup X1.here hx rfl (hb hby own_d26_3) rfl rfl ?_
    refine XS.aloadN X1.here hx rfl (hb hby own_d26_4) rfl rfl ?_
    refine st16.trans ?_
    exact k
  obtain ⟨fs, hrt, hrun, hended, hW, hsame⟩ := X16.leave (v := some (.ref b1)) (fun h => by rw [Bd.returns] at h; cases h)
  refine ⟨_, _, g17 _ ?_, hrun, hended, _, _, rfl, ?_, ⟨_, rfl⟩, hW, hsame.mono (by decide) (by decide)⟩
  · show Steps p.tables e below (T16.setTop (mkF m 8 #[.val (.ref ob0)] [(.ref b1)])) _
    jvm_step X16.here [X16.here.top, hx, (hb hby own_d26_8), X16.method', Bd.returns, Value.isRef, FieldType.isReference]
    first | (intro acts; rw [hrt _ acts rfl rfl rfl]) | rw [hrt _ _ rfl rfl rfl]
    exact Steps.refl _
  · show own_Q_rmA57 Z ob0 ob0_kind ob0_priorCandidate ob0_priorNumber cs wf wK0 wK1 wK2 wK3 wL h0 n0 _ T16.heap _
    exact ⟨b1, rfl, N16, (Keep.trans (Keep.ext (Keep.refl h0 []) E1) K16 (allS (Or.inr sz_b1) all0)), sz_b1, Q16_0, Q16_1, Q16_2, Q16_3, Q16_4, Q16_5, Q16_6⟩
theorem own_ef61 (m : MethodId) (x0 : Addr) : entryFrame m #[(.ref x0)] 1 = mkF m 0 #[.val (.ref x0)] [] := by first | (simp [entryFrame, mkF, argsToLocals, Value.category]; done) | rfl
def own_Q_rmA59 (Z : State) (ob0 : Addr) (ob0_kind : Addr) (ob0_priorCandidate : Addr) (ob0_priorNumber : Addr)  (cs : Int32) (wf : Value) (wK0 : Addr) (wK1 : Addr) (wK2 : Addr) (wK3 : Addr) (wL : Addr) (h0 : Heap) (n0 : Nat) (v : Option Value) (h : Heap) (L : List Loc) : Prop := v = some (.ref ob0_priorNumber) ∧ Fr n0 L ∧ h = h0
set_option maxRecDepth 65536 in
set_option maxHeartbeats 40000000 in
theorem rmA59 (l : Launch) (Z : State) (a0 : Array Value) (hw : ∀ d ∈ tables_1, d.before a0 Z = true) (ws : List Jvm.Cond) (ob0 : Addr) (ob0_kind : Addr) (ob0_priorCandidate : Addr) (ob0_priorNumber : Addr)  (cs : Int32) (wf : Value) (wK0 : Addr) (wK1 : Addr) (wK2 : Addr) (wK3 : Addr) (wL : Addr) (h0 : Heap) (n0 : Nat) (O0 : Old Z n0 h0) (G : own_Gl Z cs wf wK0 wK1 wK2 wK3 wL) (E_ob0 : Exa Z h0 ob0 "com/example/assemble_quorum/assemblequorum/io/Message") (F_ob0_candidate : Fld Z h0 ob0 "com/example/assemble_quorum/assemblequorum/io/Message" "candidate" "Lcom/example/assemble_quorum/assemblequorum/model/MemberAddress;" .null) (F_ob0_kind : Fld Z h0 ob0 "com/example/assemble_quorum/assemblequorum/io/Message" "kind" "Lcom/example/assemble_quorum/assemblequorum/io/Message$Kind;" (.ref ob0_kind)) (F_ob0_leader : Fld Z h0 ob0 "com/example/assemble_quorum/assemblequorum/io/Message" "leader" "Lcom/example/assemble_quorum/assemblequorum/model/MemberAddress;" .null) (F_ob0_number : Fld Z h0 ob0 "com/example/assemble_quorum/assemblequorum/io/Message" "number" "Lcom/example/assemble_quorum/assemblequorum/model/ProposalNumber;" .null) (F_ob0_priorCandidate : Fld Z h0 ob0 "com/example/assemble_quorum/assemblequorum/io/Message" "priorCandidate" "Lcom/example/assemble_quorum/assemblequorum/model/MemberAddress;" (.ref ob0_priorCandidate)) (F_ob0_priorNumber : Fld Z h0 ob0 "com/example/assemble_quorum/assemblequorum/io/Message" "priorNumber" "Lcom/example/assemble_quorum/assemblequorum/model/ProposalNumber;" (.ref ob0_priorNumber)) :
    MetFree l own_y28 (head1 (Jvm.Cond.code own_y28 prog_17_method_27_code 1 (some (.object "com/example/assemble_quorum/assemblequorum/model/ProposalNumber")) :: ws) ({ frames := 0, cells := 0, slots := 0, locals := 0 } : Room)) (fun a U => a = #[(.ref ob0)] ∧ Z.Warmed39 U.vm ∧ U.heap = h0) (fun _ _ _ _ _ => True) (fun _ U o U' => ∃ v L, o = .returned v ∧ own_Q_rmA59 Z ob0 ob0_kind ob0_priorCandidate ob0_priorNumber cs wf wK0 wK1 wK2 wK3 wL h0 n0 v U'.heap L ∧ FrameEnd U o U' L ({ frames := 0, cells := 0, slots := 0, locals := 0 } : Room).cells ({ frames := 0, cells := 0, slots := 0, locals := 0 } : Room).slots) := by
  refine MetFree.of_bodySF (plainFor_of_name own_pn9) hisR ?_
  intro p e s m args below meth c s₁ Bd hml0 hP hK
  obtain ⟨rfl, hZ, hh⟩ := hP
  have hx := Bd.exec
  have hby := Bd.bytes
  have hml : c.maxLocals = 1 := hml0
  have hown : s.vm.findClass "com/example/assemble_quorum/assemblequorum/io/Message" = some m.cls := findClass_of_methodNamed Bd.named
  have hnm := (name_of_methodNamed Bd.named Bd.method).1
  have X0 : Stand p l e ({ frames := 0, cells := 0, slots := 0, locals := 0 } : Room) s m #[(.ref ob0)] below meth c s₁ [] 0 0 := Stand.of_body Bd
  have e0 : s₁.heap = h0 := by rw [← hh, Bd.state]; rfl
  have N0 := Fr.nil n0
  have Z0 : n0 ≤ h0.size := O0.1 ▸ O0.2.1
  have g0 : ∀ t, Steps p.tables e below (s₁.setTop (mkF m 0 #[.val (.ref ob0)] [])) t → Steps p.tables e below (s₁.setTop (entryFrame m #[(.ref ob0)] 1)) t := fun t k => castTop (own_ef61 m (ob0)) k
  have G0 := G
  obtain ⟨S_CS, hcs, S_WF, hwf, S_PROPOSAL_ANSWER, S_HELLO, S_EVENT, S_PING, S_L, Ex_L, Fa_L⟩ := G
  obtain ⟨T1, X1, e1, st1⟩ := getF X0 hx hZ hown (host := "") (Or.inl (own_w hw 188 rfl)) Via.refl e0 F_ob0_priorNumber (g := (mkF m 1 #[.val (.ref ob0)] [(.ref ob0)])) rfl rfl (hb hby own_d30_1)
  have g2 : ∀ t, Steps p.tables e below (T1.setTop (mkF m 4 #[.val (.ref ob0)] [(.ref ob0_priorNumber)])) t → Steps p.tables e below (s₁.setTop (entryFrame m #[(.ref ob0)] 1)) t := by
    intro t k
    refine g0 t ?_
    show Steps p.tables e below (s₁.setTop (mkF m 0 #[.val (.ref ob0)] [])) _
    refine XS.aloadN X0.here hx rfl (hb hby own_d30_0) rfl rfl ?_
    refine st1 _ ?_
    exact k
  obtain ⟨fs, hrt, hrun, hended, hW, hsame⟩ := X1.leave (v := some (.ref ob0_priorNumber)) (fun h => by rw [Bd.returns] at h; cases h)
  refine ⟨_, _, g2 _ ?_, hrun, hended, _, _, rfl, ?_, ⟨_, rfl⟩, hW, hsame.mono (by decide) (by decide)⟩
  · show Steps p.tables e below (T1.setTop (mkF m 4 #[.val (.ref ob0)] [(.ref ob0_priorNumber)])) _
    jvm_step X1.here [X1.here.top, hx, (hb hby own_d30_4), X1.method', Bd.returns, Value.isRef, FieldType.isReference]
    first | (intro acts; rw [hrt _ acts rfl rfl rfl]) | rw [hrt _ _ rfl rfl rfl]
    exact Steps.refl _
  · show own_Q_rmA59 Z ob0 ob0_kind ob0_priorCandidate ob0_priorNumber cs wf wK0 wK1 wK2 wK3 wL h0 n0 _ T1.heap _
    rw [e1]
    exact ⟨rfl, N0, rfl⟩
theorem own_ef62 (m : MethodId) (x0 : Addr) : entryFrame m #[(.ref x0)] 1 = mkF m 0 #[.val (.ref x0)] [] := by first | (simp [entryFrame, mkF, argsToLocals, Value.category]; done) | rfl
def own_Q_rmA60 (Z : State) (ob0 : Addr) (ob0_kind : Addr) (ob0_priorCandidate : Addr) (ob0_priorNumber : Addr)  (cs : Int32) (wf : Value) (wK0 : Addr) (wK1 : Addr) (wK2 : Addr) (wK3 : Addr) (wL : Addr) (h0 : Heap) (n0 : Nat) (v : Option Value) (h : Heap) (L : List Loc) : Prop := v = some (.ref ob0_priorCandidate) ∧ Fr n0 L ∧ h = h0
set_option maxRecDepth 65536 in
set_option maxHeartbeats 40000000 in
theorem rmA60 (l : Launch) (Z : State) (a0 : Array Value) (hw : ∀ d ∈ tables_1, d.before a0 Z = true) (ws : List Jvm.Cond) (ob0 : Addr) (ob0_kind : Addr) (ob0_priorCandidate : Addr) (ob0_priorNumber : Addr)  (cs : Int32) (wf : Value) (wK0 : Addr) (wK1 : Addr) (wK2 : Addr) (wK3 : Addr) (wL : Addr) (h0 : Heap) (n0 : Nat) (O0 : Old Z n0 h0) (G : own_Gl Z cs wf wK0 wK1 wK2 wK3 wL) (E_ob0 : Exa Z h0 ob0 "com/example/assemble_quorum/assemblequorum/io/Message") (F_ob0_candidate : Fld Z h0 ob0 "com/example/assemble_quorum/assemblequorum/io/Message" "candidate" "Lcom/example/assemble_quorum/assemblequorum/model/MemberAddress;" .null) (F_ob0_kind : Fld Z h0 ob0 "com/example/assemble_quorum/assemblequorum/io/Message" "kind" "Lcom/example/assemble_quorum/assemblequorum/io/Message$Kind;" (.ref ob0_kind)) (F_ob0_leader : Fld Z h0 ob0 "com/example/assemble_quorum/assemblequorum/io/Message" "leader" "Lcom/example/assemble_quorum/assemblequorum/model/MemberAddress;" .null) (F_ob0_number : Fld Z h0 ob0 "com/example/assemble_quorum/assemblequorum/io/Message" "number" "Lcom/example/assemble_quorum/assemblequorum/model/ProposalNumber;" .null) (F_ob0_priorCandidate : Fld Z h0 ob0 "com/example/assemble_quorum/assemblequorum/io/Message" "priorCandidate" "Lcom/example/assemble_quorum/assemblequorum/model/MemberAddress;" (.ref ob0_priorCandidate)) (F_ob0_priorNumber : Fld Z h0 ob0 "com/example/assemble_quorum/assemblequorum/io/Message" "priorNumber" "Lcom/example/assemble_quorum/assemblequorum/model/ProposalNumber;" (.ref ob0_priorNumber)) :
    MetFree l own_y29 (head1 (Jvm.Cond.code own_y29 prog_17_method_28_code 1 (some (.object "com/example/assemble_quorum/assemblequorum/model/MemberAddress")) :: ws) ({ frames := 0, cells := 0, slots := 0, locals := 0 } : Room)) (fun a U => a = #[(.ref ob0)] ∧ Z.Warmed39 U.vm ∧ U.heap = h0) (fun _ _ _ _ _ => True) (fun _ U o U' => ∃ v L, o = .returned v ∧ own_Q_rmA60 Z ob0 ob0_kind ob0_priorCandidate ob0_priorNumber cs wf wK0 wK1 wK2 wK3 wL h0 n0 v U'.heap L ∧ FrameEnd U o U' L ({ frames := 0, cells := 0, slots := 0, locals := 0 } : Room).cells ({ frames := 0, cells := 0, slots := 0, locals := 0 } : Room).slots) := by
  refine MetFree.of_bodySF (plainFor_of_name own_pn9) hisR ?_
  intro p e s m args below meth c s₁ Bd hml0 hP hK
  obtain ⟨rfl, hZ, hh⟩ := hP
  have hx := Bd.exec
  have hby := Bd.bytes
  have hml : c.maxLocals = 1 := hml0
  have hown : s.vm.findClass "com/example/assemble_quorum/assemblequorum/io/Message" = some m.cls := findClass_of_methodNamed Bd.named
  have hnm := (name_of_methodNamed Bd.named Bd.method).1
  have X0 : Stand p l e ({ frames := 0, cells := 0, slots := 0, locals := 0 } : Room) s m #[(.ref ob0)] below meth c s₁ [] 0 0 := Stand.of_body Bd
  have e0 : s₁.heap = h0 := by rw [← hh, Bd.state]; rfl
  have N0 := Fr.nil n0
  have Z0 : n0 ≤ h0.size := O0.1 ▸ O0.2.1
  have g0 : ∀ t, Steps p.tables e below (s₁.setTop (mkF m 0 #[.val (.ref ob0)] [])) t → Steps p.tables e below (s₁.setTop (entryFrame m #[(.ref ob0)] 1)) t := fun t k => castTop (own_ef62 m (ob0)) k
  have G0 := G
  obtain ⟨S_CS, hcs, S_WF, hwf, S_PROPOSAL_ANSWER, S_HELLO, S_EVENT, S_PING, S_L, Ex_L, Fa_L⟩ := G
  obtain ⟨T1, X1, e1, st1⟩ := getF X0 hx hZ hown (host := "") (Or.inl (own_w hw 191 rfl)) Via.refl e0 F_ob0_priorCandidate (g := (mkF m 1 #[.val (.ref ob0)] [(.ref ob0)])) rfl rfl (hb hby own_d31_1)
  have g2 : ∀ t, Steps p.tables e below (T1.setTop (mkF m 4 #[.val (.ref ob0)] [(.ref ob0_priorCandidate)])) t → Steps p.tables e below (s₁.setTop (entryFrame m #[(.ref ob0)] 1)) t := by
    intro t k
    refine g0 t ?_
    show Steps p.tables e below (s₁.setTop (mkF m 0 #[.val (.ref ob0)] [])) _
    refine XS.aloadN X0.here hx rfl (hb hby own_d31_0) rfl rfl ?_
    refine st1 _ ?_
    exact k
  obtain ⟨fs, hrt, hrun, hended, hW, hsame⟩ := X1.leave (v := some (.ref ob0_priorCandidate)) (fun h => by rw [Bd.returns] at h; cases h)
  refine ⟨_, _, g2 _ ?_, hrun, hended, _, _, rfl, ?_, ⟨_, rfl⟩, hW, hsame.mono (by decide) (by decide)⟩
  · show Steps p.tables e below (T1.setTop (mkF m 4 #[.val (.ref ob0)] [(.ref ob0_priorCandidate)])) _
    jvm_step X1.here [X1.here.top, hx, (hb hby own_d31_4), X1.method', Bd.returns, Value.isRef, FieldType.isReference]
    first | (intro acts; rw [hrt _ acts rfl rfl rfl]) | rw [hrt _ _ rfl rfl rfl]
    exact Steps.refl _
  · show own_Q_rmA60 Z ob0 ob0_kind ob0_priorCandidate ob0_priorNumber cs wf wK0 wK1 wK2 wK3 wL h0 n0 _ T1.heap _
    rw [e1]
    exact ⟨rfl, N0, rfl⟩
theorem own_ef63 (m : MethodId) (x0 : Addr) : entryFrame m #[(.ref x0)] 1 = mkF m 0 #[.val (.ref x0)] [] := by first | (simp [entryFrame, mkF, argsToLocals, Value.category]; done) | rfl
def own_Q_rmA61 (Z : State) (ob0 : Addr) (ob0_kind : Addr) (ob0_priorCandidate : Addr) (ob0_priorNumber : Addr)  (cs : Int32) (wf : Value) (wK0 : Addr) (wK1 : Addr) (wK2 : Addr) (wK3 : Addr) (wL : Addr) (h0 : Heap) (n0 : Nat) (v : Option Value) (h : Heap) (L : List Loc) : Prop := v = some (.ref ob0_kind) ∧ Fr n0 L ∧ h = h0
set_option maxRecDepth 65536 in
set_option maxHeartbeats 40000000 in
theorem rmA61 (l : Launch) (Z : State) (a0 : Array Value) (hw : ∀ d ∈ tables_1, d.before a0 Z = true) (ws : List Jvm.Cond) (ob0 : Addr) (ob0_kind : Addr) (ob0_priorCandidate : Addr) (ob0_priorNumber : Addr)  (cs : Int32) (wf : Value) (wK0 : Addr) (wK1 : Addr) (wK2 : Addr) (wK3 : Addr) (wL : Addr) (h0 : Heap) (n0 : Nat) (O0 : Old Z n0 h0) (G : own_Gl Z cs wf wK0 wK1 wK2 wK3 wL) (E_ob0 : Exa Z h0 ob0 "com/example/assemble_quorum/assemblequorum/io/Message") (F_ob0_candidate : Fld Z h0 ob0 "com/example/assemble_quorum/assemblequorum/io/Message" "candidate" "Lcom/example/assemble_quorum/assemblequorum/model/MemberAddress;" .null) (F_ob0_kind : Fld Z h0 ob0 "com/example/assemble_quorum/assemblequorum/io/Message" "kind" "Lcom/example/assemble_quorum/assemblequorum/io/Message$Kind;" (.ref ob0_kind)) (F_ob0_leader : Fld Z h0 ob0 "com/example/assemble_quorum/assemblequorum/io/Message" "leader" "Lcom/example/assemble_quorum/assemblequorum/model/MemberAddress;" .null) (F_ob0_number : Fld Z h0 ob0 "com/example/assemble_quorum/assemblequorum/io/Message" "number" "Lcom/example/assemble_quorum/assemblequorum/model/ProposalNumber;" .null) (F_ob0_priorCandidate : Fld Z h0 ob0 "com/example/assemble_quorum/assemblequorum/io/Message" "priorCandidate" "Lcom/example/assemble_quorum/assemblequorum/model/MemberAddress;" (.ref ob0_priorCandidate)) (F_ob0_priorNumber : Fld Z h0 ob0 "com/example/assemble_quorum/assemblequorum/io/Message" "priorNumber" "Lcom/example/assemble_quorum/assemblequorum/model/ProposalNumber;" (.ref ob0_priorNumber)) :
    MetFree l own_y30 (head1 (Jvm.Cond.code own_y30 prog_17_method_20_code 1 (some (.object "com/example/assemble_quorum/assemblequorum/io/Message$Kind")) :: ws) ({ frames := 0, cells := 0, slots := 0, locals := 0 } : Room)) (fun a U => a = #[(.ref ob0)] ∧ Z.Warmed39 U.vm ∧ U.heap = h0) (fun _ _ _ _ _ => True) (fun _ U o U' => ∃ v L, o = .returned v ∧ own_Q_rmA61 Z ob0 ob0_kind ob0_priorCandidate ob0_priorNumber cs wf wK0 wK1 wK2 wK3 wL h0 n0 v U'.heap L ∧ FrameEnd U o U' L ({ frames := 0, cells := 0, slots := 0, locals := 0 } : Room).cells ({ frames := 0, cells := 0, slots := 0, locals := 0 } : Room).slots) := by
  refine MetFree.of_bodySF (plainFor_of_name own_pn9) hisR ?_
  intro p e s m args below meth c s₁ Bd hml0 hP hK
  obtain ⟨rfl, hZ, hh⟩ := hP
  have hx := Bd.exec
  have hby := Bd.bytes
  have hml : c.maxLocals = 1 := hml0
  have hown : s.vm.findClass "com/example/assemble_quorum/assemblequorum/io/Message" = some m.cls := findClass_of_methodNamed Bd.named
  have hnm := (name_of_methodNamed Bd.named Bd.method).1
  have X0 : Stand p l e ({ frames := 0, cells := 0, slots := 0, locals := 0 } : Room) s m #[(.ref ob0)] below meth c s₁ [] 0 0 := Stand.of_body Bd
  have e0 : s₁.heap = h0 := by rw [← hh, Bd.state]; rfl
  have N0 := Fr.nil n0
  have Z0 : n0 ≤ h0.size := O0.1 ▸ O0.2.1
  have g0 : ∀ t, Steps p.tables e below (s₁.setTop (mkF m 0 #[.val (.ref ob0)] [])) t → Steps p.tables e below (s₁.setTop (entryFrame m #[(.ref ob0)] 1)) t := fun t k => castTop (own_ef63 m (ob0)) k
  have G0 := G
  obtain ⟨S_CS, hcs, S_WF, hwf, S_PROPOSAL_ANSWER, S_HELLO, S_EVENT, S_PING, S_L, Ex_L, Fa_L⟩ := G
  obtain ⟨T1, X1, e1, st1⟩ := getF X0 hx hZ hown (host := "") (Or.inl (own_w hw 161 rfl)) Via.refl e0 F_ob0_kind (g := (mkF m 1 #[.val (.ref ob0)] [(.ref ob0)])) rfl rfl (hb hby own_d32_1)
  have g2 : ∀ t, Steps p.tables e below (T1.setTop (mkF m 4 #[.val (.ref ob0)] [(.ref ob0_kind)])) t → Steps p.tables e below (s₁.setTop (entryFrame m #[(.ref ob0)] 1)) t := by
    intro t k
    refine g0 t ?_
    show Steps p.tables e below (s₁.setTop (mkF m 0 #[.val (.ref ob0)] [])) _
    refine XS.aloadN X0.here hx rfl (hb hby own_d32_0) rfl rfl ?_
    refine st1 _ ?_
    exact k
  obtain ⟨fs, hrt, hrun, hended, hW, hsame⟩ := X1.leave (v := some (.ref ob0_kind)) (fun h => by rw [Bd.returns] at h; cases h)
  refine ⟨_, _, g2 _ ?_, hrun, hended, _, _, rfl, ?_, ⟨_, rfl⟩, hW, hsame.mono (by decide) (by decide)⟩
  · show Steps p.tables e below (T1.setTop (mkF m 4 #[.val (.ref ob0)] [(.ref ob0_kind)])) _
    jvm_step X1.here [X1.here.top, hx, (hb hby own_d32_4), X1.method', Bd.returns, Value.isRef, FieldType.isReference]
    first | (intro acts; rw [hrt _ acts rfl rfl rfl]) | rw [hrt _ _ rfl rfl rfl]
    exact Steps.refl _
  · show own_Q_rmA61 Z ob0 ob0_kind ob0_priorCandidate ob0_priorNumber cs wf wK0 wK1 wK2 wK3 wL h0 n0 _ T1.heap _
    rw [e1]
    exact ⟨rfl, N0, rfl⟩
theorem own_ef64 (m : MethodId) (x0 : Addr) : entryFrame m #[(.ref x0)] 1 = mkF m 0 #[.val (.ref x0)] [] := by first | (simp [entryFrame, mkF, argsToLocals, Value.category]; done) | rfl
def own_Q_rmA62 (Z : State) (ob0 : Addr) (ob0_kind : Addr) (ob0_priorCandidate : Addr) (ob0_priorNumber : Addr)  (cs : Int32) (wf : Value) (wK0 : Addr) (wK1 : Addr) (wK2 : Addr) (wK3 : Addr) (wL : Addr) (h0 : Heap) (n0 : Nat) (v : Option Value) (h : Heap) (L : List Loc) : Prop := v = some .null ∧ Fr n0 L ∧ h = h0
set_option maxRecDepth 65536 in
set_option maxHeartbeats 40000000 in
theorem rmA62 (l : Launch) (Z : State) (a0 : Array Value) (hw : ∀ d ∈ tables_1, d.before a0 Z = true) (ws : List Jvm.Cond) (ob0 : Addr) (ob0_kind : Addr) (ob0_priorCandidate : Addr) (ob0_priorNumber : Addr)  (cs : Int32) (wf : Value) (wK0 : Addr) (wK1 : Addr) (wK2 : Addr) (wK3 : Addr) (wL : Addr) (h0 : Heap) (n0 : Nat) (O0 : Old Z n0 h0) (G : own_Gl Z cs wf wK0 wK1 wK2 wK3 wL) (E_ob0 : Exa Z h0 ob0 "com/example/assemble_quorum/assemblequorum/io/Message") (F_ob0_candidate : Fld Z h0 ob0 "com/example/assemble_quorum/assemblequorum/io/Message" "candidate" "Lcom/example/assemble_quorum/assemblequorum/model/MemberAddress;" .null) (F_ob0_kind : Fld Z h0 ob0 "com/example/assemble_quorum/assemblequorum/io/Message" "kind" "Lcom/example/assemble_quorum/assemblequorum/io/Message$Kind;" (.ref ob0_kind)) (F_ob0_leader : Fld Z h0 ob0 "com/example/assemble_quorum/assemblequorum/io/Message" "leader" "Lcom/example/assemble_quorum/assemblequorum/model/MemberAddress;" .null) (F_ob0_number : Fld Z h0 ob0 "com/example/assemble_quorum/assemblequorum/io/Message" "number" "Lcom/example/assemble_quorum/assemblequorum/model/ProposalNumber;" .null) (F_ob0_priorCandidate : Fld Z h0 ob0 "com/example/assemble_quorum/assemblequorum/io/Message" "priorCandidate" "Lcom/example/assemble_quorum/assemblequorum/model/MemberAddress;" (.ref ob0_priorCandidate)) (F_ob0_priorNumber : Fld Z h0 ob0 "com/example/assemble_quorum/assemblequorum/io/Message" "priorNumber" "Lcom/example/assemble_quorum/assemblequorum/model/ProposalNumber;" (.ref ob0_priorNumber)) :
    MetFree l own_y31 (head1 (Jvm.Cond.code own_y31 prog_17_method_24_code 1 (some (.object "com/example/assemble_quorum/assemblequorum/model/ProposalNumber")) :: ws) ({ frames := 0, cells := 0, slots := 0, locals := 0 } : Room)) (fun a U => a = #[(.ref ob0)] ∧ Z.Warmed39 U.vm ∧ U.heap = h0) (fun _ _ _ _ _ => True) (fun _ U o U' => ∃ v L, o = .returned v ∧ own_Q_rmA62 Z ob0 ob0_kind ob0_priorCandidate ob0_priorNumber cs wf wK0 wK1 wK2 wK3 wL h0 n0 v U'.heap L ∧ FrameEnd U o U' L ({ frames := 0, cells := 0, slots := 0, locals := 0 } : Room).cells ({ frames := 0, cells := 0, slots := 0, locals := 0 } : Room).slots) := by
  refine MetFree.of_bodySF (plainFor_of_name own_pn9) hisR ?_
  intro p e s m args below meth c s₁ Bd hml0 hP hK
  obtain ⟨rfl, hZ, hh⟩ := hP
  have hx := Bd.exec
  have hby := Bd.bytes
  have hml : c.maxLocals = 1 := hml0
  have hown : s.vm.findClass "com/example/assemble_quorum/assemblequorum/io/Message" = some m.cls := findClass_of_methodNamed Bd.named
  have hnm := (name_of_methodNamed Bd.named Bd.method).1
  have X0 : Stand p l e ({ frames := 0, cells := 0, slots := 0, locals := 0 } : Room) s m #[(.ref ob0)] below meth c s₁ [] 0 0 := Stand.of_body Bd
  have e0 : s₁.heap = h0 := by rw [← hh, Bd.state]; rfl
  have N0 := Fr.nil n0
  have Z0 : n0 ≤ h0.size := O0.1 ▸ O0.2.1
  have g0 : ∀ t, Steps p.tables e below (s₁.setTop (mkF m 0 #[.val (.ref ob0)] [])) t → Steps p.tables e below (s₁.setTop (entryFrame m #[(.ref ob0)] 1)) t := fun t k => castTop (own_ef64 m (ob0)) k
  have G0 := G
  obtain ⟨S_CS, hcs, S_WF, hwf, S_PROPOSAL_ANSWER, S_HELLO, S_EVENT, S_PING, S_L, Ex_L, Fa_L⟩ := G
  obtain ⟨T1, X1, e1, st1⟩ := getF X0 hx hZ hown (host := "") (Or.inl (own_w hw 177 rfl)) Via.refl e0 F_ob0_number (g := (mkF m 1 #[.val (.ref ob0)] [(.ref ob0)])) rfl rfl (hb hby own_d33_1)
  have g2 : ∀ t, Steps p.tables e below (T1.setTop (mkF m 4 #[.val (.ref ob0)] [.null])) t → Steps p.tables e below (s₁.setTop (entryFrame m #[(.ref ob0)] 1)) t := by
    intro t k
    refine g0 t ?_
    show Steps p.tables e below (s₁.setTop (mkF m 0 #[.val (.ref ob0)] [])) _
    refine XS.aloadN X0.here hx rfl (hb hby own_d33_0) rfl rfl ?_
    refine st1 _ ?_
    exact k
  obtain ⟨fs, hrt, hrun, hended, hW, hsame⟩ := X1.leave (v := some .null) (fun h => by rw [Bd.returns] at h; cases h)
  refine ⟨_, _, g2 _ ?_, hrun, hended, _, _, rfl, ?_, ⟨_, rfl⟩, hW, hsame.mono (by decide) (by decide)⟩
  · show Steps p.tables e below (T1.setTop (mkF m 4 #[.val (.ref ob0)] [.null])) _
    jvm_step X1.here [X1.here.top, hx, (hb hby own_d33_4), X1.method', Bd.returns, Value.isRef, FieldType.isReference]
    first | (intro acts; rw [hrt _ acts rfl rfl rfl]) | rw [hrt _ _ rfl rfl rfl]
    exact Steps.refl _
  · show own_Q_rmA62 Z ob0 ob0_kind ob0_priorCandidate ob0_priorNumber cs wf wK0 wK1 wK2 wK3 wL h0 n0 _ T1.heap _
    rw [e1]
    exact ⟨rfl, N0, rfl⟩
theorem own_ef65 (m : MethodId) (x0 : Addr) : entryFrame m #[(.ref x0)] 1 = mkF m 0 #[.val (.ref x0)] [] := by first | (simp [entryFrame, mkF, argsToLocals, Value.category]; done) | rfl
def own_Q_rmA63 (Z : State) (ob0 : Addr) (ob0_kind : Addr) (ob0_priorCandidate : Addr) (ob0_priorNumber : Addr)  (cs : Int32) (wf : Value) (wK0 : Addr) (wK1 : Addr) (wK2 : Addr) (wK3 : Addr) (wL : Addr) (h0 : Heap) (n0 : Nat) (v : Option Value) (h : Heap) (L : List Loc) : Prop := v = some .null ∧ Fr n0 L ∧ h = h0
set_option maxRecDepth 65536 in
set_option maxHeartbeats 40000000 in
theorem rmA63 (l : Launch) (Z : State) (a0 : Array Value) (hw : ∀ d ∈ tables_1, d.before a0 Z = true) (ws : List Jvm.Cond) (ob0 : Addr) (ob0_kind : Addr) (ob0_priorCandidate : Addr) (ob0_priorNumber : Addr)  (cs : Int32) (wf : Value) (wK0 : Addr) (wK1 : Addr) (wK2 : Addr) (wK3 : Addr) (wL : Addr) (h0 : Heap) (n0 : Nat) (O0 : Old Z n0 h0) (G : own_Gl Z cs wf wK0 wK1 wK2 wK3 wL) (E_ob0 : Exa Z h0 ob0 "com/example/assemble_quorum/assemblequorum/io/Message") (F_ob0_candidate : Fld Z h0 ob0 "com/example/assemble_quorum/assemblequorum/io/Message" "candidate" "Lcom/example/assemble_quorum/assemblequorum/model/MemberAddress;" .null) (F_ob0_kind : Fld Z h0 ob0 "com/example/assemble_quorum/assemblequorum/io/Message" "kind" "Lcom/example/assemble_quorum/assemblequorum/io/Message$Kind;" (.ref ob0_kind)) (F_ob0_leader : Fld Z h0 ob0 "com/example/assemble_quorum/assemblequorum/io/Message" "leader" "Lcom/example/assemble_quorum/assemblequorum/model/MemberAddress;" .null) (F_ob0_number : Fld Z h0 ob0 "com/example/assemble_quorum/assemblequorum/io/Message" "number" "Lcom/example/assemble_quorum/assemblequorum/model/ProposalNumber;" .null) (F_ob0_priorCandidate : Fld Z h0 ob0 "com/example/assemble_quorum/assemblequorum/io/Message" "priorCandidate" "Lcom/example/assemble_quorum/assemblequorum/model/MemberAddress;" (.ref ob0_priorCandidate)) (F_ob0_priorNumber : Fld Z h0 ob0 "com/example/assemble_quorum/assemblequorum/io/Message" "priorNumber" "Lcom/example/assemble_quorum/assemblequorum/model/ProposalNumber;" (.ref ob0_priorNumber)) :
    MetFree l own_y32 (head1 (Jvm.Cond.code own_y32 prog_17_method_25_code 1 (some (.object "com/example/assemble_quorum/assemblequorum/model/MemberAddress")) :: ws) ({ frames := 0, cells := 0, slots := 0, locals := 0 } : Room)) (fun a U => a = #[(.ref ob0)] ∧ Z.Warmed39 U.vm ∧ U.heap = h0) (fun _ _ _ _ _ => True) (fun _ U o U' => ∃ v L, o = .returned v ∧ own_Q_rmA63 Z ob0 ob0_kind ob0_priorCandidate ob0_priorNumber cs wf wK0 wK1 wK2 wK3 wL h0 n0 v U'.heap L ∧ FrameEnd U o U' L ({ frames := 0, cells := 0, slots := 0, locals := 0 } : Room).cells ({ frames := 0, cells := 0, slots := 0, locals := 0 } : Room).slots) := by
  refine MetFree.of_bodySF (plainFor_of_name own_pn9) hisR ?_
  intro p e s m args below meth c s₁ Bd hml0 hP hK
  obtain ⟨rfl, hZ, hh⟩ := hP
  have hx := Bd.exec
  have hby := Bd.bytes
  have hml : c.maxLocals = 1 := hml0
  have hown : s.vm.findClass "com/example/assemble_quorum/assemblequorum/io/Message" = some m.cls := findClass_of_methodNamed Bd.named
  have hnm := (name_of_methodNamed Bd.named Bd.method).1
  have X0 : Stand p l e ({ frames := 0, cells := 0, slots := 0, locals := 0 } : Room) s m #[(.ref ob0)] below meth c s₁ [] 0 0 := Stand.of_body Bd
  have e0 : s₁.heap = h0 := by rw [← hh, Bd.state]; rfl
  have N0 := Fr.nil n0
  have Z0 : n0 ≤ h0.size := O0.1 ▸ O0.2.1
  have g0 : ∀ t, Steps p.tables e below (s₁.setTop (mkF m 0 #[.val (.ref ob0)] [])) t → Steps p.tables e below (s₁.setTop (entryFrame m #[(.ref ob0)] 1)) t := fun t k => castTop (own_ef65 m (ob0)) k
  have G0 := G
  obtain ⟨S_CS, hcs, S_WF, hwf, S_PROPOSAL_ANSWER, S_HELLO, S_EVENT, S_PING, S_L, Ex_L, Fa_L⟩ := G
  obtain ⟨T1, X1, e1, st1⟩ := getF X0 hx hZ hown (host := "") (Or.inl (own_w hw 181 rfl)) Via.refl e0 F_ob0_candidate (g := (mkF m 1 #[.val (.ref ob0)] [(.ref ob0)])) rfl rfl (hb hby own_d34_1)
  have g2 : ∀ t, Steps p.tables e below (T1.setTop (mkF m 4 #[.val (.ref ob0)] [.null])) t → Steps p.tables e below (s₁.setTop (entryFrame m #[(.ref ob0)] 1)) t := by
    intro t k
    refine g0 t ?_
    show Steps p.tables e below (s₁.setTop (mkF m 0 #[.val (.ref ob0)] [])) _
    refine XS.aloadN X0.here hx rfl (hb hby own_d34_0) rfl rfl ?_
    refine st1 _ ?_
    exact k
  obtain ⟨fs, hrt, hrun, hended, hW, hsame⟩ := X1.leave (v := some .null) (fun h => by rw [Bd.returns] at h; cases h)
  refine ⟨_, _, g2 _ ?_, hrun, hended, _, _, rfl, ?_, ⟨_, rfl⟩, hW, hsame.mono (by decide) (by decide)⟩
  · show Steps p.tables e below (T1.setTop (mkF m 4 #[.val (.ref ob0)] [.null])) _
    jvm_step X1.here [X1.here.top, hx, (hb hby own_d34_4), X1.method', Bd.returns, Value.isRef, FieldType.isReference]
    first | (intro acts; rw [hrt _ acts rfl rfl rfl]) | rw [hrt _ _ rfl rfl rfl]
    exact Steps.refl _
  · show own_Q_rmA63 Z ob0 ob0_kind ob0_priorCandidate ob0_priorNumber cs wf wK0 wK1 wK2 wK3 wL h0 n0 _ T1.heap _
    rw [e1]
    exact ⟨rfl, N0, rfl⟩
theorem own_ef66 (m : MethodId) (x0 : Addr) : entryFrame m #[(.ref x0)] 1 = mkF m 0 #[.val (.ref x0)] [] := by first | (simp [entryFrame, mkF, argsToLocals, Value.category]; done) | rfl
def own_Q_rmA64 (Z : State) (ob0 : Addr) (ob0_kind : Addr) (ob0_priorCandidate : Addr) (ob0_priorNumber : Addr)  (cs : Int32) (wf : Value) (wK0 : Addr) (wK1 : Addr) (wK2 : Addr) (wK3 : Addr) (wL : Addr) (h0 : Heap) (n0 : Nat) (v : Option Value) (h : Heap) (L : List Loc) : Prop := v = some .null ∧ Fr n0 L ∧ h = h0
set_option maxRecDepth 65536 in
set_option maxHeartbeats 40000000 in
theorem rmA64 (l : Launch) (Z : State) (a0 : Array Value) (hw : ∀ d ∈ tables_1, d.before a0 Z = true) (ws : List Jvm.Cond) (ob0 : Addr) (ob0_kind : Addr) (ob0_priorCandidate : Addr) (ob0_priorNumber : Addr)  (cs : Int32) (wf : Value) (wK0 : Addr) (wK1 : Addr) (wK2 : Addr) (wK3 : Addr) (wL : Addr) (h0 : Heap) (n0 : Nat) (O0 : Old Z n0 h0) (G : own_Gl Z cs wf wK0 wK1 wK2 wK3 wL) (E_ob0 : Exa Z h0 ob0 "com/example/assemble_quorum/assemblequorum/io/Message") (F_ob0_candidate : Fld Z h0 ob0 "com/example/assemble_quorum/assemblequorum/io/Message" "candidate" "Lcom/example/assemble_quorum/assemblequorum/model/MemberAddress;" .null) (F_ob0_kind : Fld Z h0 ob0 "com/example/assemble_quorum/assemblequorum/io/Message" "kind" "Lcom/example/assemble_quorum/assemblequorum/io/Message$Kind;" (.ref ob0_kind)) (F_ob0_leader : Fld Z h0 ob0 "com/example/assemble_quorum/assemblequorum/io/Message" "leader" "Lcom/example/assemble_quorum/assemblequorum/model/MemberAddress;" .null) (F_ob0_number : Fld Z h0 ob0 "com/example/assemble_quorum/assemblequorum/io/Message" "number" "Lcom/example/assemble_quorum/assemblequorum/model/ProposalNumber;" .null) (F_ob0_priorCandidate : Fld Z h0 ob0 "com/example/assemble_quorum/assemblequorum/io/Message" "priorCandidate" "Lcom/example/assemble_quorum/assemblequorum/model/MemberAddress;" (.ref ob0_priorCandidate)) (F_ob0_priorNumber : Fld Z h0 ob0 "com/example/assemble_quorum/assemblequorum/io/Message" "priorNumber" "Lcom/example/assemble_quorum/assemblequorum/model/ProposalNumber;" (.ref ob0_priorNumber)) :
    MetFree l own_y33 (head1 (Jvm.Cond.code own_y33 prog_17_method_22_code 1 (some (.object "com/example/assemble_quorum/assemblequorum/model/MemberAddress")) :: ws) ({ frames := 0, cells := 0, slots := 0, locals := 0 } : Room)) (fun a U => a = #[(.ref ob0)] ∧ Z.Warmed39 U.vm ∧ U.heap = h0) (fun _ _ _ _ _ => True) (fun _ U o U' => ∃ v L, o = .returned v ∧ own_Q_rmA64 Z ob0 ob0_kind ob0_priorCandidate ob0_priorNumber cs wf wK0 wK1 wK2 wK3 wL h0 n0 v U'.heap L ∧ FrameEnd U o U' L ({ frames := 0, cells := 0, slots := 0, locals := 0 } : Room).cells ({ frames := 0, cells := 0, slots := 0, locals := 0 } : Room).slots) := by
  refine MetFree.of_bodySF (plainFor_of_name own_pn9) hisR ?_
  intro p e s m args below meth c s₁ Bd hml0 hP hK
  obtain ⟨rfl, hZ, hh⟩ := hP
  have hx := Bd.exec
  have hby := Bd.bytes
  have hml : c.maxLocals = 1 := hml0
  have hown : s.vm.findClass "com/example/assemble_quorum/assemblequorum/io/Message" = some m.cls := findClass_of_methodNamed Bd.named
  have hnm := (name_of_methodNamed Bd.named Bd.method).1
  have X0 : Stand p l e ({ frames := 0, cells := 0, slots := 0, locals := 0 } : Room) s m #[(.ref ob0)] below meth c s₁ [] 0 0 := Stand.of_body Bd
  have e0 : s₁.heap = h0 := by rw [← hh, Bd.state]; rfl
  have N0 := Fr.nil n0
  have Z0 : n0 ≤ h0.size := O0.1 ▸ O0.2.1
  have g0 : ∀ t, Steps p.tables e below (s₁.setTop (mkF m 0 #[.val (.ref ob0)] [])) t → Steps p.tables e below (s₁.setTop (entryFrame m #[(.ref ob0)] 1)) t := fun t k => castTop (own_ef66 m (ob0)) k
  have G0 := G
  obtain ⟨S_CS, hcs, S_WF, hwf, S_PROPOSAL_ANSWER, S_HELLO, S_EVENT, S_PING, S_L, Ex_L, Fa_L⟩ := G
  obtain ⟨T1, X1, e1, st1⟩ := getF X0 hx hZ hown (host := "") (Or.inl (own_w hw 169 rfl)) Via.refl e0 F_ob0_leader (g := (mkF m 1 #[.val (.ref ob0)] [(.ref ob0)])) rfl rfl (hb hby own_d35_1)
  have g2 : ∀ t, Steps p.tables e below (T1.setTop (mkF m 4 #[.val (.ref ob0)] [.null])) t → Steps p.tables e below (s₁.setTop (entryFrame m #[(.ref ob0)] 1)) t := by
    intro t k
    refine g0 t ?_
    show Steps p.tables e below (s₁.setTop (mkF m 0 #[.val (.ref ob0)] [])) _
    refine XS.aloadN X0.here hx rfl (hb hby own_d35_0) rfl rfl ?_
    refine st1 _ ?_
    exact k
  obtain ⟨fs, hrt, hrun, hended, hW, hsame⟩ := X1.leave (v := some .null) (fun h => by rw [Bd.returns] at h; cases h)
  refine ⟨_, _, g2 _ ?_, hrun, hended, _, _, rfl, ?_, ⟨_, rfl⟩, hW, hsame.mono (by decide) (by decide)⟩
  · show Steps p.tables e below (T1.setTop (mkF m 4 #[.val (.ref ob0)] [.null])) _
    jvm_step X1.here [X1.here.top, hx, (hb hby own_d35_4), X1.method', Bd.returns, Value.isRef, FieldType.isReference]
    first | (intro acts; rw [hrt _ acts rfl rfl rfl]) | rw [hrt _ _ rfl rfl rfl]
    exact Steps.refl _
  · show own_Q_rmA64 Z ob0 ob0_kind ob0_priorCandidate ob0_priorNumber cs wf wK0 wK1 wK2 wK3 wL h0 n0 _ T1.heap _
    rw [e1]
    exact ⟨rfl, N0, rfl⟩
theorem own_ef67 (m : MethodId) (x0 : Addr) (x1 : Addr) (x2 : Addr) : entryFrame m #[(.ref x0), (.ref x1), (.ref x2)] 3 = mkF m 0 #[.val (.ref x0), .val (.ref x1), .val (.ref x2)] [] := by first | (simp [entryFrame, mkF, argsToLocals, Value.category]; done) | rfl
def own_Q_rmA65 (Z : State) (ob0 : Addr) (ob0_kind : Addr) (ob0_priorCandidate : Addr) (ob0_priorNumber : Addr)  (cs : Int32) (wf : Value) (wK0 : Addr) (wK1 : Addr) (wK2 : Addr) (wK3 : Addr) (wL : Addr) (h0 : Heap) (n0 : Nat) (v : Option Value) (h : Heap) (L : List Loc) : Prop := v = some (.ref ob0) ∧ Fr n0 L ∧ Keep h0 h [ob0] ∧ Exa Z h ob0 "com/example/assemble_quorum/assemblequorum/io/Message$Builder" ∧ Fld Z h ob0 "com/example/assemble_quorum/assemblequorum/io/Message$Builder" "members" "Ljava/util/List;" (.ref wL) ∧ Fld Z h ob0 "com/example/assemble_quorum/assemblequorum/io/Message$Builder" "kind" "Lcom/example/assemble_quorum/assemblequorum/io/Message$Kind;" (.ref ob0_kind) ∧ Fld Z h ob0 "com/example/assemble_quorum/assemblequorum/io/Message$Builder" "priorNumber" "Lcom/example/assemble_quorum/assemblequorum/model/ProposalNumber;" (.ref ob0_priorNumber) ∧ Fld Z h ob0 "com/example/assemble_quorum/assemblequorum/io/Message$Builder" "priorCandidate" "Lcom/example/assemble_quorum/assemblequorum/model/MemberAddress;" (.ref ob0_priorCandidate) ∧ Fld Z h ob0 "com/example/assemble_quorum/assemblequorum/io/Message$Builder" "sender" "Lcom/example/assemble_quorum/assemblequorum/model/MemberAddress;" .null ∧ Fld Z h ob0 "com/example/assemble_quorum/assemblequorum/io/Message$Builder" "leader" "Lcom/example/assemble_quorum/assemblequorum/model/MemberAddress;" .null ∧ Fld Z h ob0 "com/example/assemble_quorum/assemblequorum/io/Message$Builder" "version" "J" (.long (0 : Int64)) ∧ Fld Z h ob0 "com/example/assemble_quorum/assemblequorum/io/Message$Builder" "number" "Lcom/example/assemble_quorum/assemblequorum/model/ProposalNumber;" .null ∧ Fld Z h ob0 "com/example/assemble_quorum/assemblequorum/io/Message$Builder" "candidate" "Lcom/example/assemble_quorum/assemblequorum/model/MemberAddress;" .null ∧ Fld Z h ob0 "com/example/assemble_quorum/assemblequorum/io/Message$Builder" "granted" "Z" (.int (0 : Int32)) ∧ Fld Z h ob0 "com/example/assemble_quorum/assemblequorum/io/Message$Builder" "topic" "Ljava/lang/String;" .null ∧ Fld Z h ob0 "com/example/assemble_quorum/assemblequorum/io/Message$Builder" "payload" "[B" .null
set_option maxRecDepth 65536 in
set_option maxHeartbeats 40000000 in
theorem rmA65 (l : Launch) (Z : State) (a0 : Array Value) (hw : ∀ d ∈ tables_1, d.before a0 Z = true) (ws : List Jvm.Cond) (ob0 : Addr) (ob0_kind : Addr) (ob0_priorCandidate : Addr) (ob0_priorNumber : Addr)  (cs : Int32) (wf : Value) (wK0 : Addr) (wK1 : Addr) (wK2 : Addr) (wK3 : Addr) (wL : Addr) (h0 : Heap) (n0 : Nat) (O0 : Old Z n0 h0) (G : own_Gl Z cs wf wK0 wK1 wK2 wK3 wL) (E_ob0 : Exa Z h0 ob0 "com/example/assemble_quorum/assemblequorum/io/Message$Builder") (F_ob0_candidate : Fld Z h0 ob0 "com/example/assemble_quorum/assemblequorum/io/Message$Builder" "candidate" "Lcom/example/assemble_quorum/assemblequorum/model/MemberAddress;" .null) (F_ob0_granted : Fld Z h0 ob0 "com/example/assemble_quorum/assemblequorum/io/Message$Builder" "granted" "Z" (.int (0 : Int32))) (F_ob0_kind : Fld Z h0 ob0 "com/example/assemble_quorum/assemblequorum/io/Message$Builder" "kind" "Lcom/example/assemble_quorum/assemblequorum/io/Message$Kind;" (.ref ob0_kind)) (F_ob0_leader : Fld Z h0 ob0 "com/example/assemble_quorum/assemblequorum/io/Message$Builder" "leader" "Lcom/example/assemble_quorum/assemblequorum/model/MemberAddress;" .null) (F_ob0_members : Fld Z h0 ob0 "com/example/assemble_quorum/assemblequorum/io/Message$Builder" "members" "Ljava/util/List;" (.ref wL)) (F_ob0_number : Fld Z h0 ob0 "com/example/assemble_quorum/assemblequorum/io/Message$Builder" "number" "Lcom/example/assemble_quorum/assemblequorum/model/ProposalNumber;" .null) (F_ob0_payload : Fld Z h0 ob0 "com/example/assemble_quorum/assemblequorum/io/Message$Builder" "payload" "[B" .null) (F_ob0_priorCandidate : Fld Z h0 ob0 "com/example/assemble_quorum/assemblequorum/io/Message$Builder" "priorCandidate" "Lcom/example/assemble_quorum/assemblequorum/model/MemberAddress;" (.ref ob0_priorCandidate)) (F_ob0_priorNumber : Fld Z h0 ob0 "com/example/assemble_quorum/assemblequorum/io/Message$Builder" "priorNumber" "Lcom/example/assemble_quorum/assemblequorum/model/ProposalNumber;" (.ref ob0_priorNumber)) (F_ob0_sender : Fld Z h0 ob0 "com/example/assemble_quorum/assemblequorum/io/Message$Builder" "sender" "Lcom/example/assemble_quorum/assemblequorum/model/MemberAddress;" .null) (F_ob0_topic : Fld Z h0 ob0 "com/example/assemble_quorum/assemblequorum/io/Message$Builder" "topic" "Ljava/lang/String;" .null) (F_ob0_version : Fld Z h0 ob0 "com/example/assemble_quorum/assemblequorum/io/Message$Builder" "version" "J" (.long (0 : Int64))) (gz_ob0 : n0 ≤ ob0) :
    MetFree l own_y23 (head1 (Jvm.Cond.code own_y23 prog_18_method_8_code 3 (some (.object "com/example/assemble_quorum/assemblequorum/io/Message$Builder")) :: ws) ({ frames := 0, cells := 0, slots := 0, locals := 0 } : Room)) (fun a U => a = #[(.ref ob0), (.ref ob0_priorNumber), (.ref ob0_priorCandidate)] ∧ Z.Warmed39 U.vm ∧ U.heap = h0) (fun _ _ _ _ _ => True) (fun _ U o U' => ∃ v L, o = .returned v ∧ own_Q_rmA65 Z ob0 ob0_kind ob0_priorCandidate ob0_priorNumber cs wf wK0 wK1 wK2 wK3 wL h0 n0 v U'.heap L ∧ FrameEnd U o U' L ({ frames := 0, cells := 0, slots := 0, locals := 0 } : Room).cells ({ frames := 0, cells := 0, slots := 0, locals := 0 } : Room).slots) := by
  refine MetFree.of_bodySF (plainFor_of_name own_pn7) hisR ?_
  intro p e s m args below meth c s₁ Bd hml0 hP hK
  obtain ⟨rfl, hZ, hh⟩ := hP
  have hx := Bd.exec
  have hby := Bd.bytes
  have hml : c.maxLocals = 3 := hml0
  have hown : s.vm.findClass "com/example/assemble_quorum/assemblequorum/io/Message$Builder" = some m.cls := findClass_of_methodNamed Bd.named
  have hnm := (name_of_methodNamed Bd.named Bd.method).1
  have X0 : Stand p l e ({ frames := 0, cells := 0, slots := 0, locals := 0 } : Room) s m #[(.ref ob0), (.ref ob0_priorNumber), (.ref ob0_priorCandidate)] below meth c s₁ [] 0 0 := Stand.of_body Bd
  have e0 : s₁.heap = h0 := by rw [← hh, Bd.state]; rfl
  have N0 := Fr.nil n0
  have Z0 : n0 ≤ h0.size := O0.1 ▸ O0.2.1
  have g0 : ∀ t, Steps p.tables e below (s₁.setTop (mkF m 0 #[.val (.ref ob0), .val (.ref ob0_priorNumber), .val (.ref ob0_priorCandidate)] [])) t → Steps p.tables e below (s₁.setTop (entryFrame m #[(.ref ob0), (.ref ob0_priorNumber), (.ref ob0_priorCandidate)] 3)) t := fun t k => castTop (own_ef67 m (ob0) (ob0_priorNumber) (ob0_priorCandidate)) k
  have G0 := G
  obtain ⟨S_CS, hcs, S_WF, hwf, S_PROPOSAL_ANSWER, S_HELLO, S_EVENT, S_PING, S_L, Ex_L, Fa_L⟩ := G
  obtain ⟨T1, h1, X1, e1, W1, st1⟩ := putF X0 hx hZ hown (host := "") (Or.inl (own_w hw 144 rfl)) Via.refl e0 F_ob0_priorNumber E_ob0 (Or.inl (own_w hw 145 rfl)) (own_w hw 123 rfl) (ty := (.object "com/example/assemble_quorum/assemblequorum/model/ProposalNumber")) (by decide) rfl rfl (g := (mkF m 2 #[.val (.ref ob0), .val (.ref ob0_priorNumber), .val (.ref ob0_priorCandidate)] [(.ref ob0_priorNumber), (.ref ob0)])) rfl rfl (hb hby own_d25_2)
  have Fw1 := F_ob0_priorNumber.same W1
  have N1 := Fr.snoc X1 N0 gz_ob0
  have f2 := (E_ob0.wr W1)
  have f3 := (F_ob0_priorCandidate.other W1 (Or.inr (slot_ne (own_la7 hw) (own_la6 hw) (by decide) own_ty2 own_ty6)))
  obtain ⟨T4, h4, X4, e4, W4, st4⟩ := putF X1 hx hZ hown (host := "") (Or.inl (own_w hw 146 rfl)) Via.refl e1 f3 f2 (Or.inl (own_w hw 147 rfl)) (own_w hw 123 rfl) (ty := (.object "com/example/assemble_quorum/assemblequorum/model/MemberAddress")) (by decide) rfl rfl (g := (mkF m 7 #[.val (.ref ob0), .val (.ref ob0_priorNumber), .val (.ref ob0_priorCandidate)] [(.ref ob0_priorCandidate), (.ref ob0)])) rfl rfl (hb hby own_d25_7)
  have Fw4 := f3.same W4
  have N4 := Fr.snoc X4 N1 gz_ob0
  have g5 : ∀ t, Steps p.tables e below (T4.setTop (mkF m 11 #[.val (.ref ob0), .val (.ref ob0_priorNumber), .val (.ref ob0_priorCandidate)] [(.ref ob0)])) t → Steps p.tables e below (s₁.setTop (entryFrame m #[(.ref ob0), (.ref ob0_priorNumber), (.ref ob0_priorCandidate)] 3)) t := by
    intro t k
    refine g0 t ?_
    show Steps p.tables e below (s₁.setTop (mkF m 0 #[.val (.ref ob0), .val (.ref ob0_priorNumber), .val (.ref ob0_priorCandidate)] [])) _
    refine XS.aloadN X0.here hx rfl (hb hby own_d25_0) rfl rfl ?_
    refine XS.aloadN X0.here hx rfl (hb hby own_d25_1) rfl rfl ?_
    refine st1 _ ?_
    refine XS.aloadN X1.here hx rfl (hb hby own_d25_5) rfl rfl ?_
    refine XS.aloadN X1.here hx rfl (hb hby own_d25_6) rfl rfl ?_
    refine st4 _ ?_
    refine XS.aloadN X4.here hx rfl (hb hby own_d25_10) rfl rfl ?_
    exact k
  obtain ⟨fs, hrt, hrun, hended, hW, hsame⟩ := X4.leave (v := some (.ref ob0)) (fun h => by rw [Bd.returns] at h; cases h)
  have f6 := (f2.wr W4)
  have f7 := ((F_ob0_members.other W1 (Or.inr (slot_ne (own_la5 hw) (own_la6 hw) (by decide) own_ty5 own_ty6))).other W4 (Or.inr (slot_ne (own_la5 hw) (own_la7 hw) (by decide) own_ty5 own_ty2)))
  have f8 := ((F_ob0_kind.other W1 (Or.inr (slot_ne (own_la4 hw) (own_la6 hw) (by decide) own_ty4 own_ty6))).other W4 (Or.inr (slot_ne (own_la4 hw) (own_la7 hw) (by decide) own_ty4 own_ty2)))
  have f9 := (Fw1.other W4 (Or.inr (slot_ne (own_la6 hw) (own_la7 hw) (by decide) own_ty6 own_ty2)))
  have f10 := ((F_ob0_sender.other W1 (Or.inr (slot_ne (own_la8 hw) (own_la6 hw) (by decide) own_ty2 own_ty6))).other W4 (Or.inr (slot_ne (own_la8 hw) (own_la7 hw) (by decide) own_ty2 own_ty2)))
  have f11 := ((F_ob0_leader.other W1 (Or.inr (slot_ne (own_la9 hw) (own_la6 hw) (by decide) own_ty2 own_ty6))).other W4 (Or.inr (slot_ne (own_la9 hw) (own_la7 hw) (by decide) own_ty2 own_ty2)))
  have f12 := ((F_ob0_version.other W1 (Or.inr (slot_ne (own_la10 hw) (own_la6 hw) (by decide) own_ty3 own_ty6))).other W4 (Or.inr (slot_ne (own_la10 hw) (own_la7 hw) (by decide) own_ty3 own_ty2)))
  have f13 := ((F_ob0_number.other W1 (Or.inr (slot_ne (own_la11 hw) (own_la6 hw) (by decide) own_ty6 own_ty6))).other W4 (Or.inr (slot_ne (own_la11 hw) (own_la7 hw) (by decide) own_ty6 own_ty2)))
  have f14 := ((F_ob0_candidate.other W1 (Or.inr (slot_ne (own_la12 hw) (own_la6 hw) (by decide) own_ty2 own_ty6))).other W4 (Or.inr (slot_ne (own_la12 hw) (own_la7 hw) (by decide) own_ty2 own_ty2)))
  have f15 := ((F_ob0_granted.other W1 (Or.inr (slot_ne (own_la13 hw) (own_la6 hw) (by decide) own_ty7 own_ty6))).other W4 (Or.inr (slot_ne (own_la13 hw) (own_la7 hw) (by decide) own_ty7 own_ty2)))
  have f16 := ((F_ob0_topic.other W1 (Or.inr (slot_ne (own_la14 hw) (own_la6 hw) (by decide) own_ty1 own_ty6))).other W4 (Or.inr (slot_ne (own_la14 hw) (own_la7 hw) (by decide) own_ty1 own_ty2)))
  have f17 := ((F_ob0_payload.other W1 (Or.inr (slot_ne (own_la15 hw) (own_la6 hw) (by decide) own_ty8 own_ty6))).other W4 (Or.inr (slot_ne (own_la15 hw) (own_la7 hw) (by decide) own_ty8 own_ty2)))
  refine ⟨_, _, g5 _ ?_, hrun, hended, _, _, rfl, ?_, ⟨_, rfl⟩, hW, hsame.mono (by decide) (by decide)⟩
  · show Steps p.tables e below (T4.setTop (mkF m 11 #[.val (.ref ob0), .val (.ref ob0_priorNumber), .val (.ref ob0_priorCandidate)] [(.ref ob0)])) _
    jvm_step X4.here [X4.here.top, hx, (hb hby own_d25_11), X4.method', Bd.returns, Value.isRef, FieldType.isReference]
    first | (intro acts; rw [hrt _ acts rfl rfl rfl]) | rw [hrt _ _ rfl rfl rfl]
    exact Steps.refl _
  · show own_Q_rmA65 Z ob0 ob0_kind ob0_priorCandidate ob0_priorNumber cs wf wK0 wK1 wK2 wK3 wL h0 n0 _ T4.heap _
    rw [e4]
    exact ⟨rfl, N4, (Keep.wr (Keep.wr (Keep.refl h0 [ob0]) W1 (Or.inl (List.mem_of_getElem? (i := 0) rfl))) W4 (Or.inl (List.mem_of_getElem? (i := 0) rfl))), f6, f7, f8, f9, Fw4, f10, f11, f12, f13, f14, f15, f16, f17⟩
def own_Q_rm0 (Z : State) (p1 : Int32) (q2 : Int64) (p3 p4 : Int32) (cs : Int32) (wf : Value) (wK0 : Addr) (wK1 : Addr) (wK2 : Addr) (wK3 : Addr) (wL : Addr) (h0 : Heap) (n0 : Nat) (v : Option Value) (h : Heap) (L : List Loc) : Prop := v = some (.int (1 : Int32)) ∧ Fr n0 L
set_option maxRecDepth 65536 in
set_option maxHeartbeats 40000000 in
theorem rm0 (l : Launch) (Z : State) (a0 : Array Value) (hw : ∀ d ∈ tables_1, d.before a0 Z = true) (ws : List Jvm.Cond) (p1 : Int32) (q2 : Int64) (p3 p4 : Int32) (cs : Int32) (wf : Value) (wK0 : Addr) (wK1 : Addr) (wK2 : Addr) (wK3 : Addr) (wL : Addr) (h0 : Heap) (n0 : Nat) (O0 : Old Z n0 h0) (G : own_Gl Z cs wf wK0 wK1 wK2 wK3 wL) :
    MetFree l x (head1 (Jvm.Cond.code x code maxLocals ret :: ws) room_1) (fun a U => a = #[(.int p1), (.long q2), (.int p3), (.int p4)] ∧ Z.Warmed39 U.vm ∧ U.heap = h0 ∧ CHv Z own_EL U.vm h0) (fun _ _ _ _ _ => True) (fun _ U o U' => ∃ v L, o = .returned v ∧ own_Q_rm0 Z p1 q2 p3 p4 cs wf wK0 wK1 wK2 wK3 wL h0 n0 v U'.heap L ∧ CHr Z own_EL U.vm U.heap U'.vm U'.heap ∧ ReturnedEndW U o U' L room_1.cells room_1.slots) := by
  refine MetFree.of_bodySF (plainFor_of_name own_pn0) hisR ?_
  intro p e s m args below meth c s₁ Bd hml0 hP hK
  obtain ⟨rfl, hZ, hh, hCH⟩ := hP
  have hx := Bd.exec
  have hby := Bd.bytes
  have hml : c.maxLocals = 13 := hml0
  have hown : s.vm.findClass "com/example/assemble_quorum/assemblequorum/io/BuilderPriorPinLaw" = some m.cls := findClass_of_methodNamed Bd.named
  have hnm := (name_of_methodNamed Bd.named Bd.method).1
  have X0 : Stand p l e room_1 (s.setVm s.vm) m #[(.int p1), (.long q2), (.int p3), (.int p4)] below meth c s₁ [] 0 0 := Stand.of_body Bd
  have e0 : s₁.heap = h0 := by rw [← hh, Bd.state]; rfl
  have N0 := Fr.nil n0
  have Z0 : n0 ≤ h0.size := O0.1 ▸ O0.2.1
  have g0 : ∀ t, Steps p.tables e below (s₁.setTop (mkF m 0 #[.val (.int p1), .val (.long q2), .second, .val (.int p3), .val (.int p4), .unset, .unset, .unset, .unset, .unset, .unset, .unset, .unset] [])) t → Steps p.tables e below (s₁.setTop (entryFrame m #[(.int p1), (.long q2), (.int p3), (.int p4)] maxLocals)) t := fun t k => castTop (own_ef1 m (p1) (q2) (p3) (p4)) k
  have hC := CHr.refl hCH
  have hS : s.Since s.vm h0.size := (State.WarmedH.refl s).since _
  have hk := Nat.le_refl h0.size
  have G0 := G
  obtain ⟨S_CS, hcs, S_WF, hwf, S_PROPOSAL_ANSWER, S_HELLO, S_EVENT, S_PING, S_L, Ex_L, Fa_L⟩ := G
  obtain ⟨T1, h1, X1, e1, E1, A1, D1, -, st1⟩ := newO X0 hx hZ hown (own_w hw 0 rfl) (own_w hw 1 rfl) (own_w hw 2 rfl) e0 (g := (mkF m 0 #[.val (.int p1), .val (.long q2), .second, .val (.int p3), .val (.int p4), .unset, .unset, .unset, .unset, .unset, .unset, .unset, .unset] [])) rfl (hb hby at_0) (by decide) (by decide)
  obtain ⟨b1, q_b1⟩ : ∃ z, z = h0.size := ⟨_, rfl⟩
  rw [← q_b1] at A1 D1 st1
  have sz_b1 : h0.size ≤ b1 := Nat.le_of_eq q_b1.symm
  have gz_b1 : n0 ≤ b1 := Nat.le_trans Z0 sz_b1
  have hC := hC.trans (CHr.ext E1 hC.1)
  have hk := Nat.le_trans hk E1.1
  have F1_host : Fld Z h1 b1 "com/example/assemble_quorum/assemblequorum/model/MemberAddress" "host" "Ljava/lang/String;" .null := D1 (Or.inr (own_w hw 98 rfl)) (ty := (.object "java/lang/String")) (by decide)
  have F1_port : Fld Z h1 b1 "com/example/assemble_quorum/assemblequorum/model/MemberAddress" "port" "I" (.int (0 : Int32)) := D1 (Or.inr (own_w hw 100 rfl)) (ty := .int) (by decide)
  obtain ⟨a2, T2, h2, k2, b2, ka2, X2, e2, E2, hS, hk, hZ, hown, Ex2, Fc2, Fv2, Va2, -, -, C2, -, -, st2⟩ := ldcCH (s := s) (vm0 := s.vm) X1 hx hZ hown (own_w hw 3 rfl) (own_wS hw) e1 hS hk (own_EW hw) (List.mem_of_getElem? (i := 0) rfl) hC.1 (vs := [(.int (104 : Int32))]) (z := (1 : Int32)) ⟨by decide, by decide⟩ (by decide) (by decide) (g := (mkF m 4 #[.val (.int p1), .val (.long q2), .second, .val (.int p3), .val (.int p4), .unset, .unset, .unset, .unset, .unset, .unset, .unset, .unset] [(.ref b1), (.ref b1)])) rfl (hb hby at_4) (n := 4) (by decide) (by decide) (by decide) (by decide)
  have hC := hC.trans C2
  obtain ⟨po, hv_po⟩ : ∃ z : Int32, z = (((p3 &&& (65535 : Int32)) % (65535 : Int32)) + (1 : Int32)) := ⟨_, rfl⟩
  have g3 : ∀ t, Steps p.tables e below (T2.setTop (mkF m 15 #[.val (.int p1), .val (.long q2), .second, .val (.int p3), .val (.int p4), .unset, .unset, .unset, .unset, .unset, .unset, .unset, .unset] [(.int po), (.ref a2), (.ref b1), (.ref b1)])) t → Steps p.tables e below (s₁.setTop (entryFrame m #[(.int p1), (.long q2), (.int p3), (.int p4)] maxLocals)) t := by
    intro t k
    rw [hv_po] at k
    refine g0 t ?_
    show Steps p.tables e below (s₁.setTop (mkF m 0 #[.val (.int p1), .val (.long q2), .second, .val (.int p3), .val (.int p4), .unset, .unset, .unset, .unset, .unset, .unset, .unset, .unset] [])) _
    refine st1 _ ?_
    refine XS.dup X1.here hx rfl (hb hby at_3) rfl rfl ?_
    refine st2 _ ?_
    refine XS.iloadN X2.here hx rfl (hb hby at_6) rfl ?_
    refine X2.ldcInt hx hown (mvT hZ (own_w hw 11 rfl)) (g := (mkF m 7 #[.val (.int p1), .val (.long q2), .second, .val (.int p3), .val (.int p4), .unset, .unset, .unset, .unset, .unset, .unset, .unset, .unset] [(.int p3), (.ref a2), (.ref b1), (.ref b1)])) rfl (hb hby at_7) _ ?_
    show Steps p.tables e below (T2.setTop (mkF m 9 #[.val (.int p1), .val (.long q2), .second, .val (.int p3), .val (.int p4), .unset, .unset, .unset, .unset, .unset, .unset, .unset, .unset] [(.int (65535 : Int32)), (.int p3), (.ref a2), (.ref b1), (.ref b1)])) _
    refine XS.iand X2.here hx rfl (hb hby at_9) rfl ?_
    refine X2.ldcInt hx hown (mvT hZ (own_w hw 11 rfl)) (g := (mkF m 10 #[.val (.int p1), .val (.long q2), .second, .val (.int p3), .val (.int p4), .unset, .unset, .unset, .unset, .unset, .unset, .unset, .unset] [(.int (p3 &&& (65535 : Int32))), (.ref a2), (.ref b1), (.ref b1)])) rfl (hb hby at_10) _ ?_
    show Steps p.tables e below (T2.setTop (mkF m 12 #[.val (.int p1), .val (.long q2), .second, .val (.int p3), .val (.int p4), .unset, .unset, .unset, .unset, .unset, .unset, .unset, .unset] [(.int (65535 : Int32)), (.int (p3 &&& (65535 : Int32))), (.ref a2), (.ref b1), (.ref b1)])) _
    refine XS.irem X2.here hx rfl (hb hby at_12) rfl (by decide) ?_
    rw [own_irem]
    show Steps p.tables e below (T2.setTop (mkF m 13 #[.val (.int p1), .val (.long q2), .second, .val (.int p3), .val (.int p4), .unset, .unset, .unset, .unset, .unset, .unset, .unset, .unset] [(.int ((p3 &&& (65535 : Int32)) % (65535 : Int32))), (.ref a2), (.ref b1), (.ref b1)])) _
    refine XS.iconst X2.here hx rfl (hb hby at_13) ?_
    show Steps p.tables e below (T2.setTop (mkF m 14 #[.val (.int p1), .val (.long q2), .second, .val (.int p3), .val (.int p4), .unset, .unset, .unset, .unset, .unset, .unset, .unset, .unset] [(.int (1 : Int32)), (.int ((p3 &&& (65535 : Int32)) % (65535 : Int32))), (.ref a2), (.ref b1), (.ref b1)])) _
    refine XS.iadd X2.here hx rfl (hb hby at_14) rfl ?_
    exact k
  have hpo := own_port _ _ hv_po
  have f4 := (A1.ext E2)
  have f5 := (F1_host.ext E2)
  have f6 := (F1_port.ext E2)
  have o7 : Old Z n0 h2 := (Old.ext (Old.ext O0 E1) E2)
  obtain ⟨_, _, ⟨T8, L8, k8, n8⟩, -, X8, hSn8, hgn8, ⟨Lc8, hQ8, l8, y8, z8, C8⟩, st8⟩ := X2.specialBackS hx (y := own_y0) rfl hown (mvT hZ (own_w hw 12 rfl)) (mvT hZ (own_w hw 13 rfl)) (mvT hZ (own_w hw 14 rfl)) (by decide) (backOfSH (s := s) (vm0 := T2.vm) (W := 1) (rmA0 l Z a0 hw [] b1 a2 b2 ka2 (po)  cs wf wK0 wK1 wK2 wK3 wL h2 n0 o7 G0 f4 f5 f6 Ex2 Fc2 Va2 Fv2 gz_b1 hpo.1 hpo.2) hZ (own_w hw 14 rfl) (own_w hw 2 rfl) (by decide) (by decide) (own_EW hw) hC.1) (g := (mkF m 15 #[.val (.int p1), .val (.long q2), .second, .val (.int p3), .val (.int p4), .unset, .unset, .unset, .unset, .unset, .unset, .unset, .unset] [(.int po), (.ref a2), (.ref b1), (.ref b1)])) rfl (by rw [hml]; rfl) (Steps.refl _) (a := b1) (argsL := [(.ref a2), (.int po)]) (rest := [(.ref b1)]) (lenOf own_pd14 rfl) rfl (by show 2 * 0 + _ ≤ _; exact Nat.le_of_eq rfl) (hb hby at_15) (fun _ _ => ⟨rfl, e2, (by decide : 3 + 2 ≤ _), (by decide : 10 + 20 ≤ _)⟩)
  dsimp only [Pt.U, Pt.locs, Pt.cells, Pt.slots] at X8 l8 y8 z8 st8 hQ8 hSn8 hgn8 C8
  subst l8 y8 z8
  have hS := foldS hS (by rw [e2]; exact hk) hSn8 hgn8
  have hk := Nat.le_refl T8.heap.size
  have hZ : Z.Warmed39 T8.vm := State.Warmed39.trans (t := s.setVm T2.vm) hZ hSn8.1
  have hown : T8.vm.findClass "com/example/assemble_quorum/assemblequorum/io/BuilderPriorPinLaw" = some m.cls := by rw [hSn8.1.alike.findClass]; exact hown
  have hC := hC.trans C8
  obtain ⟨rfl, Nq8, K8, Q8_0, Q8_1, Q8_2⟩ := hQ8
  have N8 := Fr.app N0 Nq8
  obtain ⟨T9, h9, X9, e9, E9, A9, D9, -, st9⟩ := newO X8 hx hZ hown (own_w hw 101 rfl) (own_w hw 102 rfl) (own_w hw 103 rfl) rfl (g := (mkF m 20 #[.val (.int p1), .val (.long q2), .second, .val (.int p3), .val (.int p4), .val (.ref b1), .unset, .unset, .unset, .unset, .unset, .unset, .unset] [])) rfl (hb hby at_20) (by decide) (by decide)
  obtain ⟨b9, q_b9⟩ : ∃ z, z = T8.heap.size := ⟨_, rfl⟩
  rw [← q_b9] at A9 D9 st9
  have sz_b9 : h0.size ≤ b9 := Nat.le_trans (Nat.le_trans (Nat.le_trans E1.1 E2.1) K8.1) (Nat.le_of_eq q_b9.symm)
  have gz_b9 : n0 ≤ b9 := Nat.le_trans Z0 sz_b9
  have f10 := (Ex2.keep K8)
  have ne_a2_b9 : a2 ≠ b9 := Nat.ne_of_lt (Nat.lt_of_lt_of_le f10.lt (Nat.le_of_eq q_b9.symm))
  have ne_b1_b9 : b1 ≠ b9 := Nat.ne_of_lt (Nat.lt_of_lt_of_le Q8_0.lt (Nat.le_of_eq q_b9.symm))
  have f11 := (Va2.keep K8 (ninS (Ne.symm (Exa.neArv f4 Va2 (own_w hw 1 rfl))) nin0))
  have ne_b2_b9 : b2 ≠ b9 := Nat.ne_of_lt (Nat.lt_of_lt_of_le f11.lt (Nat.le_of_eq q_b9.symm))
  have hC := hC.trans (CHr.ext E9 hC.1)
  have hk := Nat.le_trans hk E9.1
  have F9_counter : Fld Z h9 b9 "com/example/assemble_quorum/assemblequorum/model/ProposalNumber" "counter" "J" (.long (0 : Int64)) := D9 (Or.inr (own_w hw 112 rfl)) (ty := .long) (by decide)
  have F9_proposer : Fld Z h9 b9 "com/example/assemble_quorum/assemblequorum/model/ProposalNumber" "proposer" "Lcom/example/assemble_quorum/assemblequorum/model/MemberAddress;" .null := D9 (Or.inr (own_w hw 114 rfl)) (ty := (.object "com/example/assemble_quorum/assemblequorum/model/MemberAddress")) (by decide)
  obtain ⟨ka, hv_ka⟩ : ∃ z : Int64, z = (q2 &&& (9223372036854775807 : Int64)) := ⟨_, rfl⟩
  have g12 : ∀ t, Steps p.tables e below (T9.setTop (mkF m 29 #[.val (.int p1), .val (.long q2), .second, .val (.int p3), .val (.int p4), .val (.ref b1), .unset, .unset, .unset, .unset, .unset, .unset, .unset] [(.long ka), (.ref b9), (.ref b9)])) t → Steps p.tables e below (s₁.setTop (entryFrame m #[(.int p1), (.long q2), (.int p3), (.int p4)] maxLocals)) t := by
    intro t k
    rw [hv_ka] at k
    refine g3 t ?_
    show Steps p.tables e below (T2.setTop (mkF m 15 #[.val (.int p1), .val (.long q2), .second, .val (.int p3), .val (.int p4), .unset, .unset, .unset, .unset, .unset, .unset, .unset, .unset] [(.int po), (.ref a2), (.ref b1), (.ref b1)])) _
    refine st8.trans ?_
    refine XS.astore X8.here hx rfl (hb hby at_18) rfl rfl (l' := #[.val (.int p1), .val (.long q2), .second, .val (.int p3), .val (.int p4), .val (.ref b1), .unset, .unset, .unset, .unset, .unset, .unset, .unset]) rfl ?_
    refine st9 _ ?_
    refine XS.dup X9.here hx rfl (hb hby at_23) rfl rfl ?_
    refine XS.lloadN X9.here hx rfl (hb hby at_24) rfl ?_
    refine X9.ldc2Long hx hown (mvT hZ (own_w hw 104 rfl)) (g := (mkF m 25 #[.val (.int p1), .val (.long q2), .second, .val (.int p3), .val (.int p4), .val (.ref b1), .unset, .unset, .unset, .unset, .unset, .unset, .unset] [(.long q2), (.ref b9), (.ref b9)])) rfl (hb hby at_25) _ ?_
    show Steps p.tables e below (T9.setTop (mkF m 28 #[.val (.int p1), .val (.long q2), .second, .val (.int p3), .val (.int p4), .val (.ref b1), .unset, .unset, .unset, .unset, .unset, .unset, .unset] [(.long (9223372036854775807 : Int64)), (.long q2), (.ref b9), (.ref b9)])) _
    refine XS.land X9.here hx rfl (hb hby at_28) rfl ?_
    exact k
  have hka := own_mask _ _ hv_ka
  have o13 : Old Z n0 h9 := (Old.ext (Old.keep o7 K8 (allS gz_b1 all0)) E9)
  obtain ⟨_, _, ⟨T14, L14, k14, n14⟩, -, X14, hSn14, hgn14, ⟨Lc14, hQ14, l14, y14, z14, C14⟩, st14⟩ := X9.specialBackS hx (y := own_y19) rfl hown (mvT hZ (own_w hw 105 rfl)) (mvT hZ (own_w hw 106 rfl)) (mvT hZ (own_w hw 107 rfl)) (by decide) (backOfSH (s := s) (vm0 := T8.vm) (W := 1) (rmA20 l Z a0 hw [] b9 (ka) b1  cs wf wK0 wK1 wK2 wK3 wL h9 n0 o13 G0 A9 F9_counter F9_proposer gz_b9 hka) hZ (own_w hw 107 rfl) (own_w hw 103 rfl) (by decide) (by decide) (own_EW hw) hC.1) (g := (mkF m 31 #[.val (.int p1), .val (.long q2), .second, .val (.int p3), .val (.int p4), .val (.ref b1), .unset, .unset, .unset, .unset, .unset, .unset, .unset] [(.ref b1), (.long ka), (.ref b9), (.ref b9)])) rfl (by rw [hml]; rfl) (Steps.refl _) (a := b9) (argsL := [(.long ka), (.ref b1)]) (rest := [(.ref b9)]) (lenOf own_pd15 rfl) rfl (by show 2 * 0 + _ ≤ _; exact Nat.le_of_eq rfl) (hb hby at_31) (fun _ _ => ⟨rfl, e9, (by decide : 6 + 2 ≤ _), (by decide : 32 + 36 ≤ _)⟩)
  dsimp only [Pt.U, Pt.locs, Pt.cells, Pt.slots] at X14 l14 y14 z14 st14 hQ14 hSn14 hgn14 C14
  subst l14 y14 z14
  have hS := foldS hS (by rw [e9]; exact hk) hSn14 hgn14
  have hk := Nat.le_refl T14.heap.size
  have hZ : Z.Warmed39 T14.vm := State.Warmed39.trans (t := s.setVm T8.vm) hZ hSn14.1
  have hown : T14.vm.findClass "com/example/assemble_quorum/assemblequorum/io/BuilderPriorPinLaw" = some m.cls := by rw [hSn14.1.alike.findClass]; exact hown
  have hC := hC.trans C14
  obtain ⟨rfl, Nq14, K14, Q14_0, Q14_1, Q14_2⟩ := hQ14
  have N14 := Fr.app N8 Nq14
  have g16 : ∀ t, Steps p.tables e below (T14.setTop (mkF m 40 #[.val (.int p1), .val (.long q2), .second, .val (.int p3), .val (.int p4), .val (.ref b1), .val (.ref b9), .unset, .unset, .unset, .unset, .unset, .unset] [(.int (p4 &&& (1 : Int32)))])) t → Steps p.tables e below (s₁.setTop (entryFrame m #[(.int p1), (.long q2), (.int p3), (.int p4)] maxLocals)) t := by
    intro t k
    refine g12 t ?_
    show Steps p.tables e below (T9.setTop (mkF m 29 #[.val (.int p1), .val (.long q2), .second, .val (.int p3), .val (.int p4), .val (.ref b1), .unset, .unset, .unset, .unset, .unset, .unset, .unset] [(.long ka), (.ref b9), (.ref b9)])) _
    refine XS.aload X9.here hx rfl (hb hby at_29) rfl rfl ?_
    refine st14.trans ?_
    refine XS.astore X14.here hx rfl (hb hby at_34) rfl rfl (l' := #[.val (.int p1), .val (.long q2), .second, .val (.int p3), .val (.int p4), .val (.ref b1), .val (.ref b9), .unset, .unset, .unset, .unset, .unset, .unset]) rfl ?_
    refine XS.iload X14.here hx rfl (hb hby at_36) rfl ?_
    refine XS.iconst X14.here hx rfl (hb hby at_38) ?_
    show Steps p.tables e below (T14.setTop (mkF m 39 #[.val (.int p1), .val (.long q2), .second, .val (.int p3), .val (.int p4), .val (.ref b1), .val (.ref b9), .unset, .unset, .unset, .unset, .unset, .unset] [(.int (1 : Int32)), (.int p4)])) _
    refine XS.iand X14.here hx rfl (hb hby at_39) rfl ?_
    exact k
  by_cases hc15 : (p4 &&& (1 : Int32)) = (0 : Int32)
  · have g18 : ∀ t, Steps p.tables e below (T14.setTop (mkF m 55 #[.val (.int p1), .val (.long q2), .second, .val (.int p3), .val (.int p4), .val (.ref b1), .val (.ref b9), .val .null, .unset, .unset, .unset, .unset, .unset] [(.int (p4 &&& (2 : Int32)))])) t → Steps p.tables e below (s₁.setTop (entryFrame m #[(.int p1), (.long q2), (.int p3), (.int p4)] maxLocals)) t := by
      intro t k
      refine g16 t ?_
      show Steps p.tables e below (T14.setTop (mkF m 40 #[.val (.int p1), .val (.long q2), .second, .val (.int p3), .val (.int p4), .val (.ref b1), .val (.ref b9), .unset, .unset, .unset, .unset, .unset, .unset] [(.int (p4 &&& (1 : Int32)))])) _
      refine XS.ifYes X14.here hx rfl (pc0 := 40) (pc' := 48) rfl (hb hby at_40) rfl ((if0 _ _).trans (teq hc15).1) (by decide) (by decide) ?_
      refine XS.aconstNull X14.here hx rfl (hb hby at_48) ?_
      refine XS.astore X14.here hx rfl (hb hby at_49) rfl rfl (l' := #[.val (.int p1), .val (.long q2), .second, .val (.int p3), .val (.int p4), .val (.ref b1), .val (.ref b9), .val .null, .unset, .unset, .unset, .unset, .unset]) rfl ?_
      refine XS.iload X14.here hx rfl (hb hby at_51) rfl ?_
      refine XS.iconst X14.here hx rfl (hb hby at_53) ?_
      show Steps p.tables e below (T14.setTop (mkF m 54 #[.val (.int p1), .val (.long q2), .second, .val (.int p3), .val (.int p4), .val (.ref b1), .val (.ref b9), .val .null, .unset, .unset, .unset, .unset, .unset] [(.int (2 : Int32)), (.int p4)])) _
      refine XS.iand X14.here hx rfl (hb hby at_54) rfl ?_
      exact k
    by_cases hc17 : (p4 &&& (2 : Int32)) = (0 : Int32)
    · have o19 : Old Z n0 T14.heap := (Old.keep o13 K14 (allS gz_b9 all0))
      obtain ⟨rk, hrk⟩ : ∃ z : Addr, (if (p1 &&& (3 : Int32)) = (0 : Int32) then wK0 else if (p1 &&& (3 : Int32)) = (1 : Int32) then wK1 else if (p1 &&& (3 : Int32)) = (2 : Int32) then wK2 else wK3) = z := ⟨_, rfl⟩
      obtain ⟨_, _, ⟨T20, L20, k20, n20⟩, -, X20, ⟨Lc20, hQ20, l20, y20, z20⟩, st20⟩ := Jvm.LawKit.callS X14 hx (y := own_y20) hown (mvT hZ (own_w hw 115 rfl)) (mvT hZ (own_w hw 116 rfl)) (mvT hZ (own_w hw 117 rfl)) (mvT hZ (own_w hw 118 rfl)) (by decide) (backOf (W := 0) (rmA21 l Z a0 hw [] (p1) rk cs wf wK0 wK1 wK2 wK3 wL T14.heap n0 o19 G0   hrk) hZ (own_w hw 118 rfl) (own_w hw 117 rfl) (by decide) (by decide)) (g := (mkF m 67 #[.val (.int p1), .val (.long q2), .second, .val (.int p3), .val (.int p4), .val (.ref b1), .val (.ref b9), .val .null, .val .null, .unset, .unset, .unset, .unset] [(.int p1)])) rfl (by rw [hml]; rfl) (argsL := [(.int p1)]) (rest := []) (lenOf own_pd16 rfl) rfl (by show 2 * 0 + _ ≤ _; exact Nat.le_of_eq rfl) (hb hby at_67) (fun _ _ => ⟨rfl, rfl, (by decide : 8 + 0 ≤ _), (by decide : 68 + 0 ≤ _)⟩)
      dsimp only [Pt.U, Pt.locs, Pt.cells, Pt.slots] at X20 l20 y20 z20 st20 hQ20
      subst l20 y20 z20
      obtain ⟨rfl, Nq20, e20⟩ := hQ20
      have N20 := Fr.app N14 Nq20
      obtain ⟨T21, h21, X21, e21, E21, A21, D21, -, st21⟩ := newO X20 hx hZ hown (own_w hw 122 rfl) (own_w hw 123 rfl) (own_w hw 124 rfl) e20 (g := (mkF m 72 #[.val (.int p1), .val (.long q2), .second, .val (.int p3), .val (.int p4), .val (.ref b1), .val (.ref b9), .val .null, .val .null, .val (.ref rk), .unset, .unset, .unset] [])) rfl (hb hby at_72) (by decide) (by decide)
      obtain ⟨b21, q_b21⟩ : ∃ z, z = T14.heap.size := ⟨_, rfl⟩
      rw [← q_b21] at A21 D21 st21
      have sz_b21 : h0.size ≤ b21 := Nat.le_trans (Nat.le_trans (Nat.le_trans (Nat.le_trans (Nat.le_trans E1.1 E2.1) K8.1) E9.1) K14.1) (Nat.le_of_eq q_b21.symm)
      have gz_b21 : n0 ≤ b21 := Nat.le_trans Z0 sz_b21
      have f22 := ((f10.ext E9).keep K14)
      have ne_a2_b21 : a2 ≠ b21 := Nat.ne_of_lt (Nat.lt_of_lt_of_le f22.lt (Nat.le_of_eq q_b21.symm))
      have f23 := ((Q8_0.ext E9).keep K14)
      have ne_b1_b21 : b1 ≠ b21 := Nat.ne_of_lt (Nat.lt_of_lt_of_le f23.lt (Nat.le_of_eq q_b21.symm))
      have f24 := ((f11.ext E9).keep K14 (ninS ne_b2_b9 nin0))
      have ne_b2_b21 : b2 ≠ b21 := Nat.ne_of_lt (Nat.lt_of_lt_of_le f24.lt (Nat.le_of_eq q_b21.symm))
      have ne_b9_b21 : b9 ≠ b21 := Nat.ne_of_lt (Nat.lt_of_lt_of_le Q14_0.lt (Nat.le_of_eq q_b21.symm))
      have hC := hC.trans (CHr.ext E21 hC.1)
      have hk := Nat.le_trans hk E21.1
      have F21_members : Fld Z h21 b21 "com/example/assemble_quorum/assemblequorum/io/Message$Builder" "members" "Ljava/util/List;" .null := D21 (Or.inl (own_w hw 136 rfl)) (ty := (.object "java/util/List")) (by decide)
      have F21_kind : Fld Z h21 b21 "com/example/assemble_quorum/assemblequorum/io/Message$Builder" "kind" "Lcom/example/assemble_quorum/assemblequorum/io/Message$Kind;" .null := D21 (Or.inr (own_w hw 138 rfl)) (ty := (.object "com/example/assemble_quorum/assemblequorum/io/Message$Kind")) (by decide)
      have F21_priorNumber : Fld Z h21 b21 "com/example/assemble_quorum/assemblequorum/io/Message$Builder" "priorNumber" "Lcom/example/assemble_quorum/assemblequorum/model/ProposalNumber;" .null := D21 (Or.inl (own_w hw 145 rfl)) (ty := (.object "com/example/assemble_quorum/assemblequorum/model/ProposalNumber")) (by decide)
      have F21_priorCandidate : Fld Z h21 b21 "com/example/assemble_quorum/assemblequorum/io/Message$Builder" "priorCandidate" "Lcom/example/assemble_quorum/assemblequorum/model/MemberAddress;" .null := D21 (Or.inl (own_w hw 147 rfl)) (ty := (.object "com/example/assemble_quorum/assemblequorum/model/MemberAddress")) (by decide)
      have F21_sender : Fld Z h21 b21 "com/example/assemble_quorum/assemblequorum/io/Message$Builder" "sender" "Lcom/example/assemble_quorum/assemblequorum/model/MemberAddress;" .null := D21 (Or.inl (own_w hw 164 rfl)) (ty := (.object "com/example/assemble_quorum/assemblequorum/model/MemberAddress")) (by decide)
      have F21_leader : Fld Z h21 b21 "com/example/assemble_quorum/assemblequorum/io/Message$Builder" "leader" "Lcom/example/assemble_quorum/assemblequorum/model/MemberAddress;" .null := D21 (Or.inl (own_w hw 168 rfl)) (ty := (.object "com/example/assemble_quorum/assemblequorum/model/MemberAddress")) (by decide)
      have F21_version : Fld Z h21 b21 "com/example/assemble_quorum/assemblequorum/io/Message$Builder" "version" "J" (.long (0 : Int64)) := D21 (Or.inl (own_w hw 172 rfl)) (ty := .long) (by decide)
      have F21_number : Fld Z h21 b21 "com/example/assemble_quorum/assemblequorum/io/Message$Builder" "number" "Lcom/example/assemble_quorum/assemblequorum/model/ProposalNumber;" .null := D21 (Or.inl (own_w hw 176 rfl)) (ty := (.object "com/example/assemble_quorum/assemblequorum/model/ProposalNumber")) (by decide)
      have F21_candidate : Fld Z h21 b21 "com/example/assemble_quorum/assemblequorum/io/Message$Builder" "candidate" "Lcom/example/assemble_quorum/assemblequorum/model/MemberAddress;" .null := D21 (Or.inl (own_w hw 180 rfl)) (ty := (.object "com/example/assemble_quorum/assemblequorum/model/MemberAddress")) (by decide)
      have F21_granted : Fld Z h21 b21 "com/example/assemble_quorum/assemblequorum/io/Message$Builder" "granted" "Z" (.int (0 : Int32)) := D21 (Or.inl (own_w hw 184 rfl)) (ty := .boolean) (by decide)
      have F21_topic : Fld Z h21 b21 "com/example/assemble_quorum/assemblequorum/io/Message$Builder" "topic" "Ljava/lang/String;" .null := D21 (Or.inl (own_w hw 215 rfl)) (ty := (.object "java/lang/String")) (by decide)
      have F21_payload : Fld Z h21 b21 "com/example/assemble_quorum/assemblequorum/io/Message$Builder" "payload" "[B" .null := D21 (Or.inl (own_w hw 219 rfl)) (ty := (.array .byte)) (by decide)
      obtain ⟨LL25, XL25, NL25⟩ : ∃ LL : List Loc, Stand p l e room_1 (s.setVm T14.vm) m #[(.int p1), (.long q2), (.int p3), (.int p4)] below meth c T21 LL 9 80 ∧ Fr n0 LL := ⟨_, X21, N20⟩
      have o26 : Old Z n0 h21 := (Old.ext o19 E21)
      obtain ⟨_, _, ⟨T27, L27, k27, n27⟩, -, X27, ⟨Lc27, hQ27, l27, y27, z27⟩, st27⟩ := XL25.specialBack hx (y := own_y21) rfl hown (mvT hZ (own_w hw 125 rfl)) (mvT hZ (own_w hw 126 rfl)) (mvT hZ (own_w hw 127 rfl)) (by decide) (backOf (W := 1) (rmA22 l Z a0 hw [] b21 rk  cs wf wK0 wK1 wK2 wK3 wL h21 n0 o26 G0 A21 F21_candidate F21_granted F21_kind F21_leader F21_members F21_number F21_payload F21_priorCandidate F21_priorNumber F21_sender F21_topic F21_version gz_b21 ) hZ (own_w hw 127 rfl) (own_w hw 124 rfl) (by decide) (by decide)) (g := (mkF m 78 #[.val (.int p1), .val (.long q2), .second, .val (.int p3), .val (.int p4), .val (.ref b1), .val (.ref b9), .val .null, .val .null, .val (.ref rk), .unset, .unset, .unset] [(.ref rk), (.ref b21), (.ref b21)])) rfl (by rw [hml]; rfl) (Steps.refl _) (a := b21) (argsL := [(.ref rk)]) (rest := [(.ref b21)]) (lenOf own_pd18 rfl) rfl (by show 2 * 0 + _ ≤ _; exact Nat.le_of_eq rfl) (hb hby at_78) (fun _ _ => ⟨rfl, e21, (by decide : 9 + 0 ≤ _), (by decide : 80 + 0 ≤ _)⟩)
      dsimp only [Pt.U, Pt.locs, Pt.cells, Pt.slots] at X27 l27 y27 z27 st27 hQ27
      subst l27 y27 z27
      obtain ⟨rfl, Nq27, K27, Q27_0, Q27_1, Q27_2, Q27_3, Q27_4, Q27_5, Q27_6, Q27_7, Q27_8, Q27_9, Q27_10, Q27_11, Q27_12⟩ := hQ27
      have hC := hC.trans (CHr.keep K27 (sfS (Safe.exa hZ.alike A21 (by decide) (by decide)) sf0) hC.1)
      have hk := Nat.le_trans hk K27.1
      have N27 := Fr.app NL25 Nq27
      have g29 : ∀ t, Steps p.tables e below (T27.setTop (mkF m 87 #[.val (.int p1), .val (.long q2), .second, .val (.int p3), .val (.int p4), .val (.ref b1), .val (.ref b9), .val .null, .val .null, .val (.ref rk), .val (.ref b21), .unset, .unset] [(.int (p4 &&& (4 : Int32)))])) t → Steps p.tables e below (s₁.setTop (entryFrame m #[(.int p1), (.long q2), (.int p3), (.int p4)] maxLocals)) t := by
        intro t k
        refine g18 t ?_
        show Steps p.tables e below (T14.setTop (mkF m 55 #[.val (.int p1), .val (.long q2), .second, .val (.int p3), .val (.int p4), .val (.ref b1), .val (.ref b9), .val .null, .unset, .unset, .unset, .unset, .unset] [(.int (p4 &&& (2 : Int32)))])) _
        refine XS.ifYes X14.here hx rfl (pc0 := 55) (pc' := 63) rfl (hb hby at_55) rfl ((if0 _ _).trans (teq hc17).1) (by decide) (by decide) ?_
        refine XS.aconstNull X14.here hx rfl (hb hby at_63) ?_
        refine XS.astore X14.here hx rfl (hb hby at_64) rfl rfl (l' := #[.val (.int p1), .val (.long q2), .second, .val (.int p3), .val (.int p4), .val (.ref b1), .val (.ref b9), .val .null, .val .null, .unset, .unset, .unset, .unset]) rfl ?_
        refine XS.iloadN X14.here hx rfl (hb hby at_66) rfl ?_
        refine st20 _ ?_
        refine XS.astore X20.here hx rfl (hb hby at_70) rfl rfl (l' := #[.val (.int p1), .val (.long q2), .second, .val (.int p3), .val (.int p4), .val (.ref b1), .val (.ref b9), .val .null, .val .null, .val (.ref rk), .unset, .unset, .unset]) rfl ?_
        refine st21 _ ?_
        refine XS.dup X21.here hx rfl (hb hby at_75) rfl rfl ?_
        show Steps p.tables e below (T21.setTop (mkF m 76 #[.val (.int p1), .val (.long q2), .second, .val (.int p3), .val (.int p4), .val (.ref b1), .val (.ref b9), .val .null, .val .null, .val (.ref rk), .unset, .unset, .unset] [(.ref b21), (.ref b21)])) _
        refine XS.aload X21.here hx rfl (hb hby at_76) rfl rfl ?_
        refine st27.trans ?_
        refine XS.astore X27.here hx rfl (hb hby at_81) rfl rfl (l' := #[.val (.int p1), .val (.long q2), .second, .val (.int p3), .val (.int p4), .val (.ref b1), .val (.ref b9), .val .null, .val .null, .val (.ref rk), .val (.ref b21), .unset, .unset]) rfl ?_
        refine XS.iload X27.here hx rfl (hb hby at_83) rfl ?_
        refine XS.iconst X27.here hx rfl (hb hby at_85) ?_
        show Steps p.tables e below (T27.setTop (mkF m 86 #[.val (.int p1), .val (.long q2), .second, .val (.int p3), .val (.int p4), .val (.ref b1), .val (.ref b9), .val .null, .val .null, .val (.ref rk), .val (.ref b21), .unset, .unset] [(.int (4 : Int32)), (.int p4)])) _
        refine XS.iand X27.here hx rfl (hb hby at_86) rfl ?_
        exact k
      by_cases hc28 : (p4 &&& (4 : Int32)) = (0 : Int32)
      · have o30 : Old Z n0 T27.heap := (Old.keep o26 K27 (allS gz_b21 all0))
        obtain ⟨cq31, kq31, q31a, q31b, q31c⟩ := isOf hZ rfl Q27_0
        obtain ⟨_, _, ⟨T31, L31, k31, n31⟩, -, X31, ⟨Lc31, hQ31, l31, y31, z31⟩, st31⟩ := X27.virtualBack hx (y := own_y23) (z := own_y23) hown (mvT hZ (own_w hw 139 rfl)) (mvT hZ (own_w hw 140 rfl)) (notFace_of_selects (args := #[]) (mvT hZ (own_w hw 142 rfl))) (mvT hZ (own_w hw 142 rfl)) (mvT hZ (own_w hw 141 rfl)) (by decide) (backOf (W := 0) (rmA24 l Z a0 hw [] b21 rk  cs wf wK0 wK1 wK2 wK3 wL T27.heap n0 o30 G0 Q27_0 Q27_9 Q27_10 Q27_2 Q27_6 Q27_1 Q27_8 Q27_12 Q27_4 Q27_3 Q27_5 Q27_11 Q27_7 gz_b21 ) hZ (own_w hw 143 rfl) (own_w hw 124 rfl) (by decide) (by decide)) q31a q31c (g := (mkF m 116 #[.val (.int p1), .val (.long q2), .second, .val (.int p3), .val (.int p4), .val (.ref b1), .val (.ref b9), .val .null, .val .null, .val (.ref rk), .val (.ref b21), .unset, .unset] [.null, .null, (.ref b21)])) rfl (by rw [hml]; rfl) (Steps.refl _) (argsL := [.null, .null]) (rest := []) (lenOf own_pd19 rfl) rfl (by show 2 * 0 + _ ≤ _; exact Nat.le_of_eq rfl) (hb hby at_116) (fun _ _ => ⟨rfl, rfl, (by decide : 9 + 0 ≤ _), (by decide : 80 + 0 ≤ _)⟩)
        dsimp only [Pt.U, Pt.locs, Pt.cells, Pt.slots] at X31 l31 y31 z31 st31 hQ31
        subst l31 y31 z31
        obtain ⟨rfl, Nq31, K31, Q31_0, Q31_1, Q31_2, Q31_3, Q31_4, Q31_5, Q31_6, Q31_7, Q31_8, Q31_9, Q31_10, Q31_11, Q31_12⟩ := hQ31
        have hC := hC.trans (CHr.keep K31 (sfS (Safe.exa hZ.alike Q27_0 (by decide) (by decide)) sf0) hC.1)
        have hk := Nat.le_trans hk K31.1
        have N31 := Fr.app N27 Nq31
        have o32 : Old Z n0 T31.heap := (Old.keep o30 K31 (allS gz_b21 all0))
        obtain ⟨cq33, kq33, q33a, q33b, q33c⟩ := isOf hZ rfl Q31_0
        obtain ⟨_, _, ⟨T33, L33, k33, n33⟩, -, X33, ⟨Lc33, hQ33, l33, y33, z33⟩, st33⟩ := X31.virtualBack hx (y := own_y24) (z := own_y24) hown (mvT hZ (own_w hw 148 rfl)) (mvT hZ (own_w hw 149 rfl)) (notFace_of_selects (args := #[]) (mvT hZ (own_w hw 151 rfl))) (mvT hZ (own_w hw 151 rfl)) (mvT hZ (own_w hw 150 rfl)) (by decide) (backOf (W := 0) (rmA25 l Z a0 hw [] b21 rk  cs wf wK0 wK1 wK2 wK3 wL T31.heap n0 o32 G0 Q31_0 Q31_9 Q31_10 Q31_2 Q31_6 Q31_1 Q31_8 Q31_12 Q31_4 Q31_3 Q31_5 Q31_11 Q31_7  ) hZ (own_w hw 152 rfl) (own_w hw 124 rfl) (by decide) (by decide)) q33a q33c (g := (mkF m 132 #[.val (.int p1), .val (.long q2), .second, .val (.int p3), .val (.int p4), .val (.ref b1), .val (.ref b9), .val .null, .val .null, .val (.ref rk), .val (.ref b21), .val (.ref b21), .unset] [(.ref b21)])) rfl (by rw [hml]; rfl) (Steps.refl _) (argsL := []) (rest := []) (lenOf own_pd22 rfl) rfl (by show 2 * 0 + _ ≤ _; exact Nat.le_of_eq rfl) (hb hby at_132) (fun _ _ => ⟨rfl, rfl, (by decide : 9 + 1 ≤ _), (by decide : 80 + 12 ≤ _)⟩)
        dsimp only [Pt.U, Pt.locs, Pt.cells, Pt.slots] at X33 l33 y33 z33 st33 hQ33
        subst l33 y33 z33
        obtain ⟨bm, rfl, Nq33, K33, hb33, Q33_0, Q33_1, Q33_2, Q33_3, Q33_4, Q33_5, Q33_6⟩ := hQ33
        have hC := hC.trans (CHr.keep K33 sf0 hC.1)
        have hk := Nat.le_trans hk K33.1
        have N33 := Fr.app N31 Nq33
        have sz_bm : h0.size ≤ bm := Nat.le_trans (Nat.le_trans (Nat.le_trans (Nat.le_trans (Nat.le_trans (Nat.le_trans (Nat.le_trans (Nat.le_trans E1.1 E2.1) K8.1) E9.1) K14.1) E21.1) K27.1) K31.1) hb33
        have gz_bm : n0 ≤ bm := Nat.le_trans Z0 sz_bm
        have ne_a2_bm : a2 ≠ bm := Nat.ne_of_lt (Nat.lt_of_lt_of_le (((f22.ext E21).keep K27).keep K31).lt hb33)
        have ne_b1_bm : b1 ≠ bm := Nat.ne_of_lt (Nat.lt_of_lt_of_le (((f23.ext E21).keep K27).keep K31).lt hb33)
        have ne_b2_bm : b2 ≠ bm := Nat.ne_of_lt (Nat.lt_of_lt_of_le (((f24.ext E21).keep K27 (ninS ne_b2_b21 nin0)).keep K31 (ninS ne_b2_b21 nin0)).lt hb33)
        have ne_b21_bm : b21 ≠ bm := Nat.ne_of_lt (Nat.lt_of_lt_of_le Q31_0.lt hb33)
        have ne_b9_bm : b9 ≠ bm := Nat.ne_of_lt (Nat.lt_of_lt_of_le (((Q14_0.ext E21).keep K27).keep K31).lt hb33)
        have o34 : Old Z n0 T33.heap := (Old.keep o32 K33 all0)
        obtain ⟨cq35, kq35, q35a, q35b, q35c⟩ := isOf hZ rfl Q33_0
        obtain ⟨_, _, ⟨T35, L35, k35, n35⟩, -, X35, ⟨Lc35, hQ35, l35, y35, z35⟩, st35⟩ := X33.virtualBack hx (y := own_y28) (z := own_y28) hown (mvT hZ (own_w hw 222 rfl)) (mvT hZ (own_w hw 223 rfl)) (notFace_of_selects (args := #[]) (mvT hZ (own_w hw 225 rfl))) (mvT hZ (own_w hw 225 rfl)) (mvT hZ (own_w hw 224 rfl)) (by decide) (backOf (W := 0) (rmA29 l Z a0 hw [] bm rk  cs wf wK0 wK1 wK2 wK3 wL T33.heap n0 o34 G0 Q33_0 Q33_5 Q33_1 Q33_6 Q33_4 Q33_3 Q33_2  ) hZ (own_w hw 226 rfl) (own_w hw 155 rfl) (by decide) (by decide)) q35a q35c (g := (mkF m 139 #[.val (.int p1), .val (.long q2), .second, .val (.int p3), .val (.int p4), .val (.ref b1), .val (.ref b9), .val .null, .val .null, .val (.ref rk), .val (.ref b21), .val (.ref b21), .val (.ref bm)] [(.ref bm)])) rfl (by rw [hml]; rfl) (Steps.refl _) (argsL := []) (rest := []) (lenOf own_pd23 rfl) rfl (by show 2 * 0 + _ ≤ _; exact Nat.le_of_eq rfl) (hb hby at_139) (fun _ _ => ⟨rfl, rfl, (by decide : 10 + 0 ≤ _), (by decide : 92 + 0 ≤ _)⟩)
        dsimp only [Pt.U, Pt.locs, Pt.cells, Pt.slots] at X35 l35 y35 z35 st35 hQ35
        subst l35 y35 z35
        obtain ⟨rfl, Nq35, e35⟩ := hQ35
        have N35 := Fr.app N33 Nq35
        obtain ⟨LL36, XL36, NL36⟩ : ∃ LL : List Loc, Stand p l e room_1 (s.setVm T14.vm) m #[(.int p1), (.long q2), (.int p3), (.int p4)] below meth c T35 LL 10 92 ∧ Fr n0 LL := ⟨_, X35, N35⟩
        obtain ⟨cq37, kq37, q37a, q37b, q37c⟩ := isOf hZ e35 Q33_0
        obtain ⟨_, _, ⟨T37, L37, k37, n37⟩, -, X37, ⟨Lc37, hQ37, l37, y37, z37⟩, st37⟩ := XL36.virtualBack hx (y := own_y29) (z := own_y29) hown (mvT hZ (own_w hw 227 rfl)) (mvT hZ (own_w hw 228 rfl)) (notFace_of_selects (args := #[]) (mvT hZ (own_w hw 230 rfl))) (mvT hZ (own_w hw 230 rfl)) (mvT hZ (own_w hw 229 rfl)) (by decide) (backOf (W := 0) (rmA30 l Z a0 hw [] bm rk  cs wf wK0 wK1 wK2 wK3 wL T33.heap n0 o34 G0 Q33_0 Q33_5 Q33_1 Q33_6 Q33_4 Q33_3 Q33_2  ) hZ (own_w hw 231 rfl) (own_w hw 155 rfl) (by decide) (by decide)) q37a q37c (g := (mkF m 149 #[.val (.int p1), .val (.long q2), .second, .val (.int p3), .val (.int p4), .val (.ref b1), .val (.ref b9), .val .null, .val .null, .val (.ref rk), .val (.ref b21), .val (.ref b21), .val (.ref bm)] [(.ref bm)])) rfl (by rw [hml]; rfl) (Steps.refl _) (argsL := []) (rest := []) (lenOf own_pd24 rfl) rfl (by show 2 * 0 + _ ≤ _; exact Nat.le_of_eq rfl) (hb hby at_149) (fun _ _ => ⟨rfl, e35, (by decide : 10 + 0 ≤ _), (by decide : 92 + 0 ≤ _)⟩)
        dsimp only [Pt.U, Pt.locs, Pt.cells, Pt.slots] at X37 l37 y37 z37 st37 hQ37
        subst l37 y37 z37
        obtain ⟨rfl, Nq37, e37⟩ := hQ37
        have N37 := Fr.app NL36 Nq37
        obtain ⟨cq38, kq38, q38a, q38b, q38c⟩ := isOf hZ e37 Q33_0
        obtain ⟨_, _, ⟨T38, L38, k38, n38⟩, -, X38, ⟨Lc38, hQ38, l38, y38, z38⟩, st38⟩ := X37.virtualBack hx (y := own_y30) (z := own_y30) hown (mvT hZ (own_w hw 232 rfl)) (mvT hZ (own_w hw 233 rfl)) (notFace_of_selects (args := #[]) (mvT hZ (own_w hw 235 rfl))) (mvT hZ (own_w hw 235 rfl)) (mvT hZ (own_w hw 234 rfl)) (by decide) (backOf (W := 0) (rmA31 l Z a0 hw [] bm rk  cs wf wK0 wK1 wK2 wK3 wL T33.heap n0 o34 G0 Q33_0 Q33_5 Q33_1 Q33_6 Q33_4 Q33_3 Q33_2  ) hZ (own_w hw 236 rfl) (own_w hw 155 rfl) (by decide) (by decide)) q38a q38c (g := (mkF m 159 #[.val (.int p1), .val (.long q2), .second, .val (.int p3), .val (.int p4), .val (.ref b1), .val (.ref b9), .val .null, .val .null, .val (.ref rk), .val (.ref b21), .val (.ref b21), .val (.ref bm)] [(.ref bm)])) rfl (by rw [hml]; rfl) (Steps.refl _) (argsL := []) (rest := []) (lenOf own_pd25 rfl) rfl (by show 2 * 0 + _ ≤ _; exact Nat.le_of_eq rfl) (hb hby at_159) (fun _ _ => ⟨rfl, e37, (by decide : 10 + 0 ≤ _), (by decide : 92 + 0 ≤ _)⟩)
        dsimp only [Pt.U, Pt.locs, Pt.cells, Pt.slots] at X38 l38 y38 z38 st38 hQ38
        subst l38 y38 z38
        obtain ⟨rfl, Nq38, e38⟩ := hQ38
        have N38 := Fr.app N37 Nq38
        obtain ⟨cq39, kq39, q39a, q39b, q39c⟩ := isOf hZ e38 Q33_0
        obtain ⟨_, _, ⟨T39, L39, k39, n39⟩, -, X39, ⟨Lc39, hQ39, l39, y39, z39⟩, st39⟩ := X38.virtualBack hx (y := own_y31) (z := own_y31) hown (mvT hZ (own_w hw 237 rfl)) (mvT hZ (own_w hw 238 rfl)) (notFace_of_selects (args := #[]) (mvT hZ (own_w hw 240 rfl))) (mvT hZ (own_w hw 240 rfl)) (mvT hZ (own_w hw 239 rfl)) (by decide) (backOf (W := 0) (rmA32 l Z a0 hw [] bm rk  cs wf wK0 wK1 wK2 wK3 wL T33.heap n0 o34 G0 Q33_0 Q33_5 Q33_1 Q33_6 Q33_4 Q33_3 Q33_2  ) hZ (own_w hw 241 rfl) (own_w hw 155 rfl) (by decide) (by decide)) q39a q39c (g := (mkF m 169 #[.val (.int p1), .val (.long q2), .second, .val (.int p3), .val (.int p4), .val (.ref b1), .val (.ref b9), .val .null, .val .null, .val (.ref rk), .val (.ref b21), .val (.ref b21), .val (.ref bm)] [(.ref bm)])) rfl (by rw [hml]; rfl) (Steps.refl _) (argsL := []) (rest := []) (lenOf own_pd23 rfl) rfl (by show 2 * 0 + _ ≤ _; exact Nat.le_of_eq rfl) (hb hby at_169) (fun _ _ => ⟨rfl, e38, (by decide : 10 + 0 ≤ _), (by decide : 92 + 0 ≤ _)⟩)
        dsimp only [Pt.U, Pt.locs, Pt.cells, Pt.slots] at X39 l39 y39 z39 st39 hQ39
        subst l39 y39 z39
        obtain ⟨rfl, Nq39, e39⟩ := hQ39
        have N39 := Fr.app N38 Nq39
        obtain ⟨cq40, kq40, q40a, q40b, q40c⟩ := isOf hZ e39 Q33_0
        obtain ⟨_, _, ⟨T40, L40, k40, n40⟩, -, X40, ⟨Lc40, hQ40, l40, y40, z40⟩, st40⟩ := X39.virtualBack hx (y := own_y32) (z := own_y32) hown (mvT hZ (own_w hw 242 rfl)) (mvT hZ (own_w hw 243 rfl)) (notFace_of_selects (args := #[]) (mvT hZ (own_w hw 245 rfl))) (mvT hZ (own_w hw 245 rfl)) (mvT hZ (own_w hw 244 rfl)) (by decide) (backOf (W := 0) (rmA33 l Z a0 hw [] bm rk  cs wf wK0 wK1 wK2 wK3 wL T33.heap n0 o34 G0 Q33_0 Q33_5 Q33_1 Q33_6 Q33_4 Q33_3 Q33_2  ) hZ (own_w hw 246 rfl) (own_w hw 155 rfl) (by decide) (by decide)) q40a q40c (g := (mkF m 177 #[.val (.int p1), .val (.long q2), .second, .val (.int p3), .val (.int p4), .val (.ref b1), .val (.ref b9), .val .null, .val .null, .val (.ref rk), .val (.ref b21), .val (.ref b21), .val (.ref bm)] [(.ref bm)])) rfl (by rw [hml]; rfl) (Steps.refl _) (argsL := []) (rest := []) (lenOf own_pd24 rfl) rfl (by show 2 * 0 + _ ≤ _; exact Nat.le_of_eq rfl) (hb hby at_177) (fun _ _ => ⟨rfl, e39, (by decide : 10 + 0 ≤ _), (by decide : 92 + 0 ≤ _)⟩)
        dsimp only [Pt.U, Pt.locs, Pt.cells, Pt.slots] at X40 l40 y40 z40 st40 hQ40
        subst l40 y40 z40
        obtain ⟨rfl, Nq40, e40⟩ := hQ40
        have N40 := Fr.app N39 Nq40
        obtain ⟨LL41, XL41, NL41⟩ : ∃ LL : List Loc, Stand p l e room_1 (s.setVm T14.vm) m #[(.int p1), (.long q2), (.int p3), (.int p4)] below meth c T40 LL 10 92 ∧ Fr n0 LL := ⟨_, X40, N40⟩
        obtain ⟨cq42, kq42, q42a, q42b, q42c⟩ := isOf hZ e40 Q33_0
        obtain ⟨_, _, ⟨T42, L42, k42, n42⟩, -, X42, ⟨Lc42, hQ42, l42, y42, z42⟩, st42⟩ := XL41.virtualBack hx (y := own_y33) (z := own_y33) hown (mvT hZ (own_w hw 247 rfl)) (mvT hZ (own_w hw 248 rfl)) (notFace_of_selects (args := #[]) (mvT hZ (own_w hw 250 rfl))) (mvT hZ (own_w hw 250 rfl)) (mvT hZ (own_w hw 249 rfl)) (by decide) (backOf (W := 0) (rmA34 l Z a0 hw [] bm rk  cs wf wK0 wK1 wK2 wK3 wL T33.heap n0 o34 G0 Q33_0 Q33_5 Q33_1 Q33_6 Q33_4 Q33_3 Q33_2  ) hZ (own_w hw 251 rfl) (own_w hw 155 rfl) (by decide) (by decide)) q42a q42c (g := (mkF m 185 #[.val (.int p1), .val (.long q2), .second, .val (.int p3), .val (.int p4), .val (.ref b1), .val (.ref b9), .val .null, .val .null, .val (.ref rk), .val (.ref b21), .val (.ref b21), .val (.ref bm)] [(.ref bm)])) rfl (by rw [hml]; rfl) (Steps.refl _) (argsL := []) (rest := []) (lenOf own_pd24 rfl) rfl (by show 2 * 0 + _ ≤ _; exact Nat.le_of_eq rfl) (hb hby at_185) (fun _ _ => ⟨rfl, e40, (by decide : 10 + 0 ≤ _), (by decide : 92 + 0 ≤ _)⟩)
        dsimp only [Pt.U, Pt.locs, Pt.cells, Pt.slots] at X42 l42 y42 z42 st42 hQ42
        subst l42 y42 z42
        obtain ⟨rfl, Nq42, e42⟩ := hQ42
        have N42 := Fr.app NL41 Nq42
        have g43 : ∀ t, Steps p.tables e below (T42.setTop (mkF m 196 #[.val (.int p1), .val (.long q2), .second, .val (.int p3), .val (.int p4), .val (.ref b1), .val (.ref b9), .val .null, .val .null, .val (.ref rk), .val (.ref b21), .val (.ref b21), .val (.ref bm)] [(.int (1 : Int32))])) t → Steps p.tables e below (s₁.setTop (entryFrame m #[(.int p1), (.long q2), (.int p3), (.int p4)] maxLocals)) t := by
          intro t k
          refine g29 t ?_
          show Steps p.tables e below (T27.setTop (mkF m 87 #[.val (.int p1), .val (.long q2), .second, .val (.int p3), .val (.int p4), .val (.ref b1), .val (.ref b9), .val .null, .val .null, .val (.ref rk), .val (.ref b21), .unset, .unset] [(.int (p4 &&& (4 : Int32)))])) _
          refine XS.ifYes X27.here hx rfl (pc0 := 87) (pc' := 110) rfl (hb hby at_87) rfl ((if0 _ _).trans (teq hc28).1) (by decide) (by decide) ?_
          refine XS.aload X27.here hx rfl (hb hby at_110) rfl rfl ?_
          refine XS.aload X27.here hx rfl (hb hby at_112) rfl rfl ?_
          refine XS.aload X27.here hx rfl (hb hby at_114) rfl rfl ?_
          refine st31.trans ?_
          refine XS.astore X31.here hx rfl (hb hby at_119) rfl rfl (l' := #[.val (.int p1), .val (.long q2), .second, .val (.int p3), .val (.int p4), .val (.ref b1), .val (.ref b9), .val .null, .val .null, .val (.ref rk), .val (.ref b21), .val (.ref b21), .unset]) rfl ?_
          refine XS.aload X31.here hx rfl (hb hby at_121) rfl rfl ?_
          refine XS.aload X31.here hx rfl (hb hby at_123) rfl rfl ?_
          show Steps p.tables e below (T31.setTop (mkF m 125 #[.val (.int p1), .val (.long q2), .second, .val (.int p3), .val (.int p4), .val (.ref b1), .val (.ref b9), .val .null, .val .null, .val (.ref rk), .val (.ref b21), .val (.ref b21), .unset] [(.ref b21), (.ref b21)])) _
          refine Jvm.RoadKit.acmp (g := (mkF m 125 #[.val (.int p1), .val (.long q2), .second, .val (.int p3), .val (.int p4), .val (.ref b1), .val (.ref b9), .val .null, .val .null, .val (.ref rk), .val (.ref b21), .val (.ref b21), .unset] [(.ref b21), (.ref b21)])) X31 hx rfl rfl rfl (pc0 := 125) (pc' := 130) (same := true) rfl (hb hby at_125) rfl (decide_eq_true rfl) (by decide) (by decide) ?_
          refine XS.aload X31.here hx rfl (hb hby at_130) rfl rfl ?_
          refine st33.trans ?_
          refine XS.astore X33.here hx rfl (hb hby at_135) rfl rfl (l' := #[.val (.int p1), .val (.long q2), .second, .val (.int p3), .val (.int p4), .val (.ref b1), .val (.ref b9), .val .null, .val .null, .val (.ref rk), .val (.ref b21), .val (.ref b21), .val (.ref bm)]) rfl ?_
          refine XS.aload X33.here hx rfl (hb hby at_137) rfl rfl ?_
          refine st35.trans ?_
          refine XS.aload X35.here hx rfl (hb hby at_142) rfl rfl ?_
          refine Jvm.RoadKit.acmp (g := (mkF m 144 #[.val (.int p1), .val (.long q2), .second, .val (.int p3), .val (.int p4), .val (.ref b1), .val (.ref b9), .val .null, .val .null, .val (.ref rk), .val (.ref b21), .val (.ref b21), .val (.ref bm)] [.null, .null])) X35 hx rfl rfl rfl (pc0 := 144) (pc' := 147) (same := true) rfl (hb hby at_144) rfl (decide_eq_true rfl) (by decide) (by decide) ?_
          show Steps p.tables e below (T35.setTop (mkF m 147 #[.val (.int p1), .val (.long q2), .second, .val (.int p3), .val (.int p4), .val (.ref b1), .val (.ref b9), .val .null, .val .null, .val (.ref rk), .val (.ref b21), .val (.ref b21), .val (.ref bm)] [])) _
          refine XS.aload X35.here hx rfl (hb hby at_147) rfl rfl ?_
          refine st37.trans ?_
          refine XS.aload X37.here hx rfl (hb hby at_152) rfl rfl ?_
          refine Jvm.RoadKit.acmp (g := (mkF m 154 #[.val (.int p1), .val (.long q2), .second, .val (.int p3), .val (.int p4), .val (.ref b1), .val (.ref b9), .val .null, .val .null, .val (.ref rk), .val (.ref b21), .val (.ref b21), .val (.ref bm)] [.null, .null])) X37 hx rfl rfl rfl (pc0 := 154) (pc' := 157) (same := true) rfl (hb hby at_154) rfl (decide_eq_true rfl) (by decide) (by decide) ?_
          refine XS.aload X37.here hx rfl (hb hby at_157) rfl rfl ?_
          refine st38.trans ?_
          refine XS.aload X38.here hx rfl (hb hby at_162) rfl rfl ?_
          refine Jvm.RoadKit.acmp (g := (mkF m 164 #[.val (.int p1), .val (.long q2), .second, .val (.int p3), .val (.int p4), .val (.ref b1), .val (.ref b9), .val .null, .val .null, .val (.ref rk), .val (.ref b21), .val (.ref b21), .val (.ref bm)] [(.ref rk), (.ref rk)])) X38 hx rfl rfl rfl (pc0 := 164) (pc' := 167) (same := true) rfl (hb hby at_164) rfl (decide_eq_true rfl) (by decide) (by decide) ?_
          show Steps p.tables e below (T38.setTop (mkF m 167 #[.val (.int p1), .val (.long q2), .second, .val (.int p3), .val (.int p4), .val (.ref b1), .val (.ref b9), .val .null, .val .null, .val (.ref rk), .val (.ref b21), .val (.ref b21), .val (.ref bm)] [])) _
          refine XS.aload X38.here hx rfl (hb hby at_167) rfl rfl ?_
          refine st39.trans ?_
          refine XS.ifnonnullNo X39.here hx rfl (hb hby at_172) rfl ?_
          refine XS.aload X39.here hx rfl (hb hby at_175) rfl rfl ?_
          refine st40.trans ?_
          refine XS.ifnonnullNo X40.here hx rfl (hb hby at_180) rfl ?_
          refine XS.aload X40.here hx rfl (hb hby at_183) rfl rfl ?_
          refine st42.trans ?_
          show Steps p.tables e below (T42.setTop (mkF m 188 #[.val (.int p1), .val (.long q2), .second, .val (.int p3), .val (.int p4), .val (.ref b1), .val (.ref b9), .val .null, .val .null, .val (.ref rk), .val (.ref b21), .val (.ref b21), .val (.ref bm)] [.null])) _
          refine XS.ifnonnullNo X42.here hx rfl (hb hby at_188) rfl ?_
          refine XS.iconst X42.here hx rfl (hb hby at_191) ?_
          refine XS.goto X42.here hx rfl (pc0 := 192) (pc' := 196) rfl (hb hby at_192) (by decide) (by decide) ?_
          exact k
        obtain ⟨fs, hrt, hrun, hended, hRW⟩ := X42.leaveW hS (by rw [e42]; exact hk) (v := some (.int (1 : Int32))) (fun h => by rw [Bd.returns] at h; cases h)
        refine ⟨_, _, g43 _ ?_, hrun, hended, _, _, rfl, ?_, ?_, hRW.1, hRW.2.1, hRW.2.2.1, hRW.2.2.2.mono (by decide) (by decide)⟩
        · show Steps p.tables e below (T42.setTop (mkF m 196 #[.val (.int p1), .val (.long q2), .second, .val (.int p3), .val (.int p4), .val (.ref b1), .val (.ref b9), .val .null, .val .null, .val (.ref rk), .val (.ref b21), .val (.ref b21), .val (.ref bm)] [(.int (1 : Int32))])) _
          exact retN X42 hx (t := .boolean) Bd.returns (by simp) (hb hby at_196) hrt
        · show own_Q_rm0 Z p1 q2 p3 p4 cs wf wK0 wK1 wK2 wK3 wL h0 n0 _ T42.heap _
          rw [e42]
          exact ⟨rfl, N42⟩
        · rw [hh]
          show CHr Z own_EL s.vm h0 T42.vm T42.heap
          rw [e42]
          exact hC.trans (CHv.at X42 hZ (own_EW hw) hC.1)
      · have o44 : Old Z n0 T27.heap := (Old.keep o26 K27 (allS gz_b21 all0))
        obtain ⟨cq45, kq45, q45a, q45b, q45c⟩ := isOf hZ rfl Q27_0
        obtain ⟨_, _, ⟨T45, L45, k45, n45⟩, -, X45, ⟨Lc45, hQ45, l45, y45, z45⟩, st45⟩ := X27.virtualBack hx (y := own_y23) (z := own_y23) hown (mvT hZ (own_w hw 139 rfl)) (mvT hZ (own_w hw 140 rfl)) (notFace_of_selects (args := #[]) (mvT hZ (own_w hw 142 rfl))) (mvT hZ (own_w hw 142 rfl)) (mvT hZ (own_w hw 141 rfl)) (by decide) (backOf (W := 0) (rmA35 l Z a0 hw [] b21 rk b9 b1  cs wf wK0 wK1 wK2 wK3 wL T27.heap n0 o44 G0 Q27_0 Q27_9 Q27_10 Q27_2 Q27_6 Q27_1 Q27_8 Q27_12 Q27_4 Q27_3 Q27_5 Q27_11 Q27_7 gz_b21 ) hZ (own_w hw 143 rfl) (own_w hw 124 rfl) (by decide) (by decide)) q45a q45c (g := (mkF m 96 #[.val (.int p1), .val (.long q2), .second, .val (.int p3), .val (.int p4), .val (.ref b1), .val (.ref b9), .val .null, .val .null, .val (.ref rk), .val (.ref b21), .unset, .unset] [(.ref b1), (.ref b9), (.ref b21)])) rfl (by rw [hml]; rfl) (Steps.refl _) (argsL := [(.ref b9), (.ref b1)]) (rest := []) (lenOf own_pd19 rfl) rfl (by show 2 * 0 + _ ≤ _; exact Nat.le_of_eq rfl) (hb hby at_96) (fun _ _ => ⟨rfl, rfl, (by decide : 9 + 0 ≤ _), (by decide : 80 + 0 ≤ _)⟩)
        dsimp only [Pt.U, Pt.locs, Pt.cells, Pt.slots] at X45 l45 y45 z45 st45 hQ45
        subst l45 y45 z45
        obtain ⟨rfl, Nq45, K45, Q45_0, Q45_1, Q45_2, Q45_3, Q45_4, Q45_5, Q45_6, Q45_7, Q45_8, Q45_9, Q45_10, Q45_11, Q45_12⟩ := hQ45
        have hC := hC.trans (CHr.keep K45 (sfS (Safe.exa hZ.alike Q27_0 (by decide) (by decide)) sf0) hC.1)
        have hk := Nat.le_trans hk K45.1
        have N45 := Fr.app N27 Nq45
        have o46 : Old Z n0 T45.heap := (Old.keep o44 K45 (allS gz_b21 all0))
        obtain ⟨cq47, kq47, q47a, q47b, q47c⟩ := isOf hZ rfl Q45_0
        obtain ⟨_, _, ⟨T47, L47, k47, n47⟩, -, X47, ⟨Lc47, hQ47, l47, y47, z47⟩, st47⟩ := X45.virtualBack hx (y := own_y23) (z := own_y23) hown (mvT hZ (own_w hw 139 rfl)) (mvT hZ (own_w hw 140 rfl)) (notFace_of_selects (args := #[]) (mvT hZ (own_w hw 142 rfl))) (mvT hZ (own_w hw 142 rfl)) (mvT hZ (own_w hw 141 rfl)) (by decide) (backOf (W := 0) (rmA36 l Z a0 hw [] b21 rk b1 b9  cs wf wK0 wK1 wK2 wK3 wL T45.heap n0 o46 G0 Q45_0 Q45_9 Q45_10 Q45_2 Q45_6 Q45_1 Q45_8 Q45_12 Q45_4 Q45_3 Q45_5 Q45_11 Q45_7 gz_b21 ) hZ (own_w hw 143 rfl) (own_w hw 124 rfl) (by decide) (by decide)) q47a q47c (g := (mkF m 116 #[.val (.int p1), .val (.long q2), .second, .val (.int p3), .val (.int p4), .val (.ref b1), .val (.ref b9), .val .null, .val .null, .val (.ref rk), .val (.ref b21), .val (.ref b21), .unset] [.null, .null, (.ref b21)])) rfl (by rw [hml]; rfl) (Steps.refl _) (argsL := [.null, .null]) (rest := []) (lenOf own_pd19 rfl) rfl (by show 2 * 0 + _ ≤ _; exact Nat.le_of_eq rfl) (hb hby at_116) (fun _ _ => ⟨rfl, rfl, (by decide : 9 + 0 ≤ _), (by decide : 80 + 0 ≤ _)⟩)
        dsimp only [Pt.U, Pt.locs, Pt.cells, Pt.slots] at X47 l47 y47 z47 st47 hQ47
        subst l47 y47 z47
        obtain ⟨rfl, Nq47, K47, Q47_0, Q47_1, Q47_2, Q47_3, Q47_4, Q47_5, Q47_6, Q47_7, Q47_8, Q47_9, Q47_10, Q47_11, Q47_12⟩ := hQ47
        have hC := hC.trans (CHr.keep K47 (sfS (Safe.exa hZ.alike Q45_0 (by decide) (by decide)) sf0) hC.1)
        have hk := Nat.le_trans hk K47.1
        have N47 := Fr.app N45 Nq47
        have o48 : Old Z n0 T47.heap := (Old.keep o46 K47 (allS gz_b21 all0))
        obtain ⟨cq49, kq49, q49a, q49b, q49c⟩ := isOf hZ rfl Q47_0
        obtain ⟨_, _, ⟨T49, L49, k49, n49⟩, -, X49, ⟨Lc49, hQ49, l49, y49, z49⟩, st49⟩ := X47.virtualBack hx (y := own_y24) (z := own_y24) hown (mvT hZ (own_w hw 148 rfl)) (mvT hZ (own_w hw 149 rfl)) (notFace_of_selects (args := #[]) (mvT hZ (own_w hw 151 rfl))) (mvT hZ (own_w hw 151 rfl)) (mvT hZ (own_w hw 150 rfl)) (by decide) (backOf (W := 0) (rmA25 l Z a0 hw [] b21 rk  cs wf wK0 wK1 wK2 wK3 wL T47.heap n0 o48 G0 Q47_0 Q47_9 Q47_10 Q47_2 Q47_6 Q47_1 Q47_8 Q47_12 Q47_4 Q47_3 Q47_5 Q47_11 Q47_7  ) hZ (own_w hw 152 rfl) (own_w hw 124 rfl) (by decide) (by decide)) q49a q49c (g := (mkF m 132 #[.val (.int p1), .val (.long q2), .second, .val (.int p3), .val (.int p4), .val (.ref b1), .val (.ref b9), .val .null, .val .null, .val (.ref rk), .val (.ref b21), .val (.ref b21), .unset] [(.ref b21)])) rfl (by rw [hml]; rfl) (Steps.refl _) (argsL := []) (rest := []) (lenOf own_pd22 rfl) rfl (by show 2 * 0 + _ ≤ _; exact Nat.le_of_eq rfl) (hb hby at_132) (fun _ _ => ⟨rfl, rfl, (by decide : 9 + 1 ≤ _), (by decide : 80 + 12 ≤ _)⟩)
        dsimp only [Pt.U, Pt.locs, Pt.cells, Pt.slots] at X49 l49 y49 z49 st49 hQ49
        subst l49 y49 z49
        obtain ⟨bm, rfl, Nq49, K49, hb49, Q49_0, Q49_1, Q49_2, Q49_3, Q49_4, Q49_5, Q49_6⟩ := hQ49
        have hC := hC.trans (CHr.keep K49 sf0 hC.1)
        have hk := Nat.le_trans hk K49.1
        have N49 := Fr.app N47 Nq49
        have sz_bm : h0.size ≤ bm := Nat.le_trans (Nat.le_trans (Nat.le_trans (Nat.le_trans (Nat.le_trans (Nat.le_trans (Nat.le_trans (Nat.le_trans (Nat.le_trans E1.1 E2.1) K8.1) E9.1) K14.1) E21.1) K27.1) K45.1) K47.1) hb49
        have gz_bm : n0 ≤ bm := Nat.le_trans Z0 sz_bm
        have ne_a2_bm : a2 ≠ bm := Nat.ne_of_lt (Nat.lt_of_lt_of_le ((((f22.ext E21).keep K27).keep K45).keep K47).lt hb49)
        have ne_b1_bm : b1 ≠ bm := Nat.ne_of_lt (Nat.lt_of_lt_of_le ((((f23.ext E21).keep K27).keep K45).keep K47).lt hb49)
        have ne_b2_bm : b2 ≠ bm := Nat.ne_of_lt (Nat.lt_of_lt_of_le ((((f24.ext E21).keep K27 (ninS ne_b2_b21 nin0)).keep K45 (ninS ne_b2_b21 nin0)).keep K47 (ninS ne_b2_b21 nin0)).lt hb49)
        have ne_b21_bm : b21 ≠ bm := Nat.ne_of_lt (Nat.lt_of_lt_of_le Q47_0.lt hb49)
        have ne_b9_bm : b9 ≠ bm := Nat.ne_of_lt (Nat.lt_of_lt_of_le ((((Q14_0.ext E21).keep K27).keep K45).keep K47).lt hb49)
        obtain ⟨LL50, XL50, NL50⟩ : ∃ LL : List Loc, Stand p l e room_1 (s.setVm T14.vm) m #[(.int p1), (.long q2), (.int p3), (.int p4)] below meth c T49 LL 10 92 ∧ Fr n0 LL := ⟨_, X49, N49⟩
        have o51 : Old Z n0 T49.heap := (Old.keep o48 K49 all0)
        obtain ⟨cq52, kq52, q52a, q52b, q52c⟩ := isOf hZ rfl Q49_0
        obtain ⟨_, _, ⟨T52, L52, k52, n52⟩, -, X52, ⟨Lc52, hQ52, l52, y52, z52⟩, st52⟩ := XL50.virtualBack hx (y := own_y28) (z := own_y28) hown (mvT hZ (own_w hw 222 rfl)) (mvT hZ (own_w hw 223 rfl)) (notFace_of_selects (args := #[]) (mvT hZ (own_w hw 225 rfl))) (mvT hZ (own_w hw 225 rfl)) (mvT hZ (own_w hw 224 rfl)) (by decide) (backOf (W := 0) (rmA29 l Z a0 hw [] bm rk  cs wf wK0 wK1 wK2 wK3 wL T49.heap n0 o51 G0 Q49_0 Q49_5 Q49_1 Q49_6 Q49_4 Q49_3 Q49_2  ) hZ (own_w hw 226 rfl) (own_w hw 155 rfl) (by decide) (by decide)) q52a q52c (g := (mkF m 139 #[.val (.int p1), .val (.long q2), .second, .val (.int p3), .val (.int p4), .val (.ref b1), .val (.ref b9), .val .null, .val .null, .val (.ref rk), .val (.ref b21), .val (.ref b21), .val (.ref bm)] [(.ref bm)])) rfl (by rw [hml]; rfl) (Steps.refl _) (argsL := []) (rest := []) (lenOf own_pd23 rfl) rfl (by show 2 * 0 + _ ≤ _; exact Nat.le_of_eq rfl) (hb hby at_139) (fun _ _ => ⟨rfl, rfl, (by decide : 10 + 0 ≤ _), (by decide : 92 + 0 ≤ _)⟩)
        dsimp only [Pt.U, Pt.locs, Pt.cells, Pt.slots] at X52 l52 y52 z52 st52 hQ52
        subst l52 y52 z52
        obtain ⟨rfl, Nq52, e52⟩ := hQ52
        have N52 := Fr.app NL50 Nq52
        obtain ⟨cq53, kq53, q53a, q53b, q53c⟩ := isOf hZ e52 Q49_0
        obtain ⟨_, _, ⟨T53, L53, k53, n53⟩, -, X53, ⟨Lc53, hQ53, l53, y53, z53⟩, st53⟩ := X52.virtualBack hx (y := own_y29) (z := own_y29) hown (mvT hZ (own_w hw 227 rfl)) (mvT hZ (own_w hw 228 rfl)) (notFace_of_selects (args := #[]) (mvT hZ (own_w hw 230 rfl))) (mvT hZ (own_w hw 230 rfl)) (mvT hZ (own_w hw 229 rfl)) (by decide) (backOf (W := 0) (rmA30 l Z a0 hw [] bm rk  cs wf wK0 wK1 wK2 wK3 wL T49.heap n0 o51 G0 Q49_0 Q49_5 Q49_1 Q49_6 Q49_4 Q49_3 Q49_2  ) hZ (own_w hw 231 rfl) (own_w hw 155 rfl) (by decide) (by decide)) q53a q53c (g := (mkF m 149 #[.val (.int p1), .val (.long q2), .second, .val (.int p3), .val (.int p4), .val (.ref b1), .val (.ref b9), .val .null, .val .null, .val (.ref rk), .val (.ref b21), .val (.ref b21), .val (.ref bm)] [(.ref bm)])) rfl (by rw [hml]; rfl) (Steps.refl _) (argsL := []) (rest := []) (lenOf own_pd24 rfl) rfl (by show 2 * 0 + _ ≤ _; exact Nat.le_of_eq rfl) (hb hby at_149) (fun _ _ => ⟨rfl, e52, (by decide : 10 + 0 ≤ _), (by decide : 92 + 0 ≤ _)⟩)
        dsimp only [Pt.U, Pt.locs, Pt.cells, Pt.slots] at X53 l53 y53 z53 st53 hQ53
        subst l53 y53 z53
        obtain ⟨rfl, Nq53, e53⟩ := hQ53
        have N53 := Fr.app N52 Nq53
        obtain ⟨cq54, kq54, q54a, q54b, q54c⟩ := isOf hZ e53 Q49_0
        obtain ⟨_, _, ⟨T54, L54, k54, n54⟩, -, X54, ⟨Lc54, hQ54, l54, y54, z54⟩, st54⟩ := X53.virtualBack hx (y := own_y30) (z := own_y30) hown (mvT hZ (own_w hw 232 rfl)) (mvT hZ (own_w hw 233 rfl)) (notFace_of_selects (args := #[]) (mvT hZ (own_w hw 235 rfl))) (mvT hZ (own_w hw 235 rfl)) (mvT hZ (own_w hw 234 rfl)) (by decide) (backOf (W := 0) (rmA31 l Z a0 hw [] bm rk  cs wf wK0 wK1 wK2 wK3 wL T49.heap n0 o51 G0 Q49_0 Q49_5 Q49_1 Q49_6 Q49_4 Q49_3 Q49_2  ) hZ (own_w hw 236 rfl) (own_w hw 155 rfl) (by decide) (by decide)) q54a q54c (g := (mkF m 159 #[.val (.int p1), .val (.long q2), .second, .val (.int p3), .val (.int p4), .val (.ref b1), .val (.ref b9), .val .null, .val .null, .val (.ref rk), .val (.ref b21), .val (.ref b21), .val (.ref bm)] [(.ref bm)])) rfl (by rw [hml]; rfl) (Steps.refl _) (argsL := []) (rest := []) (lenOf own_pd25 rfl) rfl (by show 2 * 0 + _ ≤ _; exact Nat.le_of_eq rfl) (hb hby at_159) (fun _ _ => ⟨rfl, e53, (by decide : 10 + 0 ≤ _), (by decide : 92 + 0 ≤ _)⟩)
        dsimp only [Pt.U, Pt.locs, Pt.cells, Pt.slots] at X54 l54 y54 z54 st54 hQ54
        subst l54 y54 z54
        obtain ⟨rfl, Nq54, e54⟩ := hQ54
        have N54 := Fr.app N53 Nq54
        obtain ⟨cq55, kq55, q55a, q55b, q55c⟩ := isOf hZ e54 Q49_0
        obtain ⟨_, _, ⟨T55, L55, k55, n55⟩, -, X55, ⟨Lc55, hQ55, l55, y55, z55⟩, st55⟩ := X54.virtualBack hx (y := own_y31) (z := own_y31) hown (mvT hZ (own_w hw 237 rfl)) (mvT hZ (own_w hw 238 rfl)) (notFace_of_selects (args := #[]) (mvT hZ (own_w hw 240 rfl))) (mvT hZ (own_w hw 240 rfl)) (mvT hZ (own_w hw 239 rfl)) (by decide) (backOf (W := 0) (rmA32 l Z a0 hw [] bm rk  cs wf wK0 wK1 wK2 wK3 wL T49.heap n0 o51 G0 Q49_0 Q49_5 Q49_1 Q49_6 Q49_4 Q49_3 Q49_2  ) hZ (own_w hw 241 rfl) (own_w hw 155 rfl) (by decide) (by decide)) q55a q55c (g := (mkF m 169 #[.val (.int p1), .val (.long q2), .second, .val (.int p3), .val (.int p4), .val (.ref b1), .val (.ref b9), .val .null, .val .null, .val (.ref rk), .val (.ref b21), .val (.ref b21), .val (.ref bm)] [(.ref bm)])) rfl (by rw [hml]; rfl) (Steps.refl _) (argsL := []) (rest := []) (lenOf own_pd23 rfl) rfl (by show 2 * 0 + _ ≤ _; exact Nat.le_of_eq rfl) (hb hby at_169) (fun _ _ => ⟨rfl, e54, (by decide : 10 + 0 ≤ _), (by decide : 92 + 0 ≤ _)⟩)
        dsimp only [Pt.U, Pt.locs, Pt.cells, Pt.slots] at X55 l55 y55 z55 st55 hQ55
        subst l55 y55 z55
        obtain ⟨rfl, Nq55, e55⟩ := hQ55
        have N55 := Fr.app N54 Nq55
        obtain ⟨LL56, XL56, NL56⟩ : ∃ LL : List Loc, Stand p l e room_1 (s.setVm T14.vm) m #[(.int p1), (.long q2), (.int p3), (.int p4)] below meth c T55 LL 10 92 ∧ Fr n0 LL := ⟨_, X55, N55⟩
        obtain ⟨cq57, kq57, q57a, q57b, q57c⟩ := isOf hZ e55 Q49_0
        obtain ⟨_, _, ⟨T57, L57, k57, n57⟩, -, X57, ⟨Lc57, hQ57, l57, y57, z57⟩, st57⟩ := XL56.virtualBack hx (y := own_y32) (z := own_y32) hown (mvT hZ (own_w hw 242 rfl)) (mvT hZ (own_w hw 243 rfl)) (notFace_of_selects (args := #[]) (mvT hZ (own_w hw 245 rfl))) (mvT hZ (own_w hw 245 rfl)) (mvT hZ (own_w hw 244 rfl)) (by decide) (backOf (W := 0) (rmA33 l Z a0 hw [] bm rk  cs wf wK0 wK1 wK2 wK3 wL T49.heap n0 o51 G0 Q49_0 Q49_5 Q49_1 Q49_6 Q49_4 Q49_3 Q49_2  ) hZ (own_w hw 246 rfl) (own_w hw 155 rfl) (by decide) (by decide)) q57a q57c (g := (mkF m 177 #[.val (.int p1), .val (.long q2), .second, .val (.int p3), .val (.int p4), .val (.ref b1), .val (.ref b9), .val .null, .val .null, .val (.ref rk), .val (.ref b21), .val (.ref b21), .val (.ref bm)] [(.ref bm)])) rfl (by rw [hml]; rfl) (Steps.refl _) (argsL := []) (rest := []) (lenOf own_pd24 rfl) rfl (by show 2 * 0 + _ ≤ _; exact Nat.le_of_eq rfl) (hb hby at_177) (fun _ _ => ⟨rfl, e55, (by decide : 10 + 0 ≤ _), (by decide : 92 + 0 ≤ _)⟩)
        dsimp only [Pt.U, Pt.locs, Pt.cells, Pt.slots] at X57 l57 y57 z57 st57 hQ57
        subst l57 y57 z57
        obtain ⟨rfl, Nq57, e57⟩ := hQ57
        have N57 := Fr.app NL56 Nq57
        obtain ⟨cq58, kq58, q58a, q58b, q58c⟩ := isOf hZ e57 Q49_0
        obtain ⟨_, _, ⟨T58, L58, k58, n58⟩, -, X58, ⟨Lc58, hQ58, l58, y58, z58⟩, st58⟩ := X57.virtualBack hx (y := own_y33) (z := own_y33) hown (mvT hZ (own_w hw 247 rfl)) (mvT hZ (own_w hw 248 rfl)) (notFace_of_selects (args := #[]) (mvT hZ (own_w hw 250 rfl))) (mvT hZ (own_w hw 250 rfl)) (mvT hZ (own_w hw 249 rfl)) (by decide) (backOf (W := 0) (rmA34 l Z a0 hw [] bm rk  cs wf wK0 wK1 wK2 wK3 wL T49.heap n0 o51 G0 Q49_0 Q49_5 Q49_1 Q49_6 Q49_4 Q49_3 Q49_2  ) hZ (own_w hw 251 rfl) (own_w hw 155 rfl) (by decide) (by decide)) q58a q58c (g := (mkF m 185 #[.val (.int p1), .val (.long q2), .second, .val (.int p3), .val (.int p4), .val (.ref b1), .val (.ref b9), .val .null, .val .null, .val (.ref rk), .val (.ref b21), .val (.ref b21), .val (.ref bm)] [(.ref bm)])) rfl (by rw [hml]; rfl) (Steps.refl _) (argsL := []) (rest := []) (lenOf own_pd24 rfl) rfl (by show 2 * 0 + _ ≤ _; exact Nat.le_of_eq rfl) (hb hby at_185) (fun _ _ => ⟨rfl, e57, (by decide : 10 + 0 ≤ _), (by decide : 92 + 0 ≤ _)⟩)
        dsimp only [Pt.U, Pt.locs, Pt.cells, Pt.slots] at X58 l58 y58 z58 st58 hQ58
        subst l58 y58 z58
        obtain ⟨rfl, Nq58, e58⟩ := hQ58
        have N58 := Fr.app N57 Nq58
        have g59 : ∀ t, Steps p.tables e below (T58.setTop (mkF m 196 #[.val (.int p1), .val (.long q2), .second, .val (.int p3), .val (.int p4), .val (.ref b1), .val (.ref b9), .val .null, .val .null, .val (.ref rk), .val (.ref b21), .val (.ref b21), .val (.ref bm)] [(.int (1 : Int32))])) t → Steps p.tables e below (s₁.setTop (entryFrame m #[(.int p1), (.long q2), (.int p3), (.int p4)] maxLocals)) t := by
          intro t k
          refine g29 t ?_
          show Steps p.tables e below (T27.setTop (mkF m 87 #[.val (.int p1), .val (.long q2), .second, .val (.int p3), .val (.int p4), .val (.ref b1), .val (.ref b9), .val .null, .val .null, .val (.ref rk), .val (.ref b21), .unset, .unset] [(.int (p4 &&& (4 : Int32)))])) _
          refine XS.ifNo X27.here hx rfl (hb hby at_87) rfl ((if0 _ _).trans (feq hc28).1) ?_
          refine XS.aload X27.here hx rfl (hb hby at_90) rfl rfl ?_
          refine XS.aload X27.here hx rfl (hb hby at_92) rfl rfl ?_
          refine XS.aload X27.here hx rfl (hb hby at_94) rfl rfl ?_
          refine st45.trans ?_
          refine XS.astore X45.here hx rfl (hb hby at_99) rfl rfl (l' := #[.val (.int p1), .val (.long q2), .second, .val (.int p3), .val (.int p4), .val (.ref b1), .val (.ref b9), .val .null, .val .null, .val (.ref rk), .val (.ref b21), .val (.ref b21), .unset]) rfl ?_
          refine XS.aload X45.here hx rfl (hb hby at_101) rfl rfl ?_
          refine XS.aload X45.here hx rfl (hb hby at_103) rfl rfl ?_
          show Steps p.tables e below (T45.setTop (mkF m 105 #[.val (.int p1), .val (.long q2), .second, .val (.int p3), .val (.int p4), .val (.ref b1), .val (.ref b9), .val .null, .val .null, .val (.ref rk), .val (.ref b21), .val (.ref b21), .unset] [(.ref b21), (.ref b21)])) _
          refine Jvm.RoadKit.acmp (g := (mkF m 105 #[.val (.int p1), .val (.long q2), .second, .val (.int p3), .val (.int p4), .val (.ref b1), .val (.ref b9), .val .null, .val .null, .val (.ref rk), .val (.ref b21), .val (.ref b21), .unset] [(.ref b21), (.ref b21)])) X45 hx rfl rfl rfl (pc0 := 105) (pc' := 110) (same := true) rfl (hb hby at_105) rfl (decide_eq_true rfl) (by decide) (by decide) ?_
          refine XS.aload X45.here hx rfl (hb hby at_110) rfl rfl ?_
          refine XS.aload X45.here hx rfl (hb hby at_112) rfl rfl ?_
          refine XS.aload X45.here hx rfl (hb hby at_114) rfl rfl ?_
          refine st47.trans ?_
          refine XS.astore X47.here hx rfl (hb hby at_119) rfl rfl (l' := #[.val (.int p1), .val (.long q2), .second, .val (.int p3), .val (.int p4), .val (.ref b1), .val (.ref b9), .val .null, .val .null, .val (.ref rk), .val (.ref b21), .val (.ref b21), .unset]) rfl ?_
          refine XS.aload X47.here hx rfl (hb hby at_121) rfl rfl ?_
          refine XS.aload X47.here hx rfl (hb hby at_123) rfl rfl ?_
          show Steps p.tables e below (T47.setTop (mkF m 125 #[.val (.int p1), .val (.long q2), .second, .val (.int p3), .val (.int p4), .val (.ref b1), .val (.ref b9), .val .null, .val .null, .val (.ref rk), .val (.ref b21), .val (.ref b21), .unset] [(.ref b21), (.ref b21)])) _
          refine Jvm.RoadKit.acmp (g := (mkF m 125 #[.val (.int p1), .val (.long q2), .second, .val (.int p3), .val (.int p4), .val (.ref b1), .val (.ref b9), .val .null, .val .null, .val (.ref rk), .val (.ref b21), .val (.ref b21), .unset] [(.ref b21), (.ref b21)])) X47 hx rfl rfl rfl (pc0 := 125) (pc' := 130) (same := true) rfl (hb hby at_125) rfl (decide_eq_true rfl) (by decide) (by decide) ?_
          refine XS.aload X47.here hx rfl (hb hby at_130) rfl rfl ?_
          refine st49.trans ?_
          refine XS.astore X49.here hx rfl (hb hby at_135) rfl rfl (l' := #[.val (.int p1), .val (.long q2), .second, .val (.int p3), .val (.int p4), .val (.ref b1), .val (.ref b9), .val .null, .val .null, .val (.ref rk), .val (.ref b21), .val (.ref b21), .val (.ref bm)]) rfl ?_
          refine XS.aload X49.here hx rfl (hb hby at_137) rfl rfl ?_
          refine st52.trans ?_
          refine XS.aload X52.here hx rfl (hb hby at_142) rfl rfl ?_
          refine Jvm.RoadKit.acmp (g := (mkF m 144 #[.val (.int p1), .val (.long q2), .second, .val (.int p3), .val (.int p4), .val (.ref b1), .val (.ref b9), .val .null, .val .null, .val (.ref rk), .val (.ref b21), .val (.ref b21), .val (.ref bm)] [.null, .null])) X52 hx rfl rfl rfl (pc0 := 144) (pc' := 147) (same := true) rfl (hb hby at_144) rfl (decide_eq_true rfl) (by decide) (by decide) ?_
          show Steps p.tables e below (T52.setTop (mkF m 147 #[.val (.int p1), .val (.long q2), .second, .val (.int p3), .val (.int p4), .val (.ref b1), .val (.ref b9), .val .null, .val .null, .val (.ref rk), .val (.ref b21), .val (.ref b21), .val (.ref bm)] [])) _
          refine XS.aload X52.here hx rfl (hb hby at_147) rfl rfl ?_
          refine st53.trans ?_
          refine XS.aload X53.here hx rfl (hb hby at_152) rfl rfl ?_
          refine Jvm.RoadKit.acmp (g := (mkF m 154 #[.val (.int p1), .val (.long q2), .second, .val (.int p3), .val (.int p4), .val (.ref b1), .val (.ref b9), .val .null, .val .null, .val (.ref rk), .val (.ref b21), .val (.ref b21), .val (.ref bm)] [.null, .null])) X53 hx rfl rfl rfl (pc0 := 154) (pc' := 157) (same := true) rfl (hb hby at_154) rfl (decide_eq_true rfl) (by decide) (by decide) ?_
          refine XS.aload X53.here hx rfl (hb hby at_157) rfl rfl ?_
          refine st54.trans ?_
          refine XS.aload X54.here hx rfl (hb hby at_162) rfl rfl ?_
          refine Jvm.RoadKit.acmp (g := (mkF m 164 #[.val (.int p1), .val (.long q2), .second, .val (.int p3), .val (.int p4), .val (.ref b1), .val (.ref b9), .val .null, .val .null, .val (.ref rk), .val (.ref b21), .val (.ref b21), .val (.ref bm)] [(.ref rk), (.ref rk)])) X54 hx rfl rfl rfl (pc0 := 164) (pc' := 167) (same := true) rfl (hb hby at_164) rfl (decide_eq_true rfl) (by decide) (by decide) ?_
          show Steps p.tables e below (T54.setTop (mkF m 167 #[.val (.int p1), .val (.long q2), .second, .val (.int p3), .val (.int p4), .val (.ref b1), .val (.ref b9), .val .null, .val .null, .val (.ref rk), .val (.ref b21), .val (.ref b21), .val (.ref bm)] [])) _
          refine XS.aload X54.here hx rfl (hb hby at_167) rfl rfl ?_
          refine st55.trans ?_
          refine XS.ifnonnullNo X55.here hx rfl (hb hby at_172) rfl ?_
          refine XS.aload X55.here hx rfl (hb hby at_175) rfl rfl ?_
          refine st57.trans ?_
          refine XS.ifnonnullNo X57.here hx rfl (hb hby at_180) rfl ?_
          refine XS.aload X57.here hx rfl (hb hby at_183) rfl rfl ?_
          refine st58.trans ?_
          show Steps p.tables e below (T58.setTop (mkF m 188 #[.val (.int p1), .val (.long q2), .second, .val (.int p3), .val (.int p4), .val (.ref b1), .val (.ref b9), .val .null, .val .null, .val (.ref rk), .val (.ref b21), .val (.ref b21), .val (.ref bm)] [.null])) _
          refine XS.ifnonnullNo X58.here hx rfl (hb hby at_188) rfl ?_
          refine XS.iconst X58.here hx rfl (hb hby at_191) ?_
          refine XS.goto X58.here hx rfl (pc0 := 192) (pc' := 196) rfl (hb hby at_192) (by decide) (by decide) ?_
          exact k
        obtain ⟨fs, hrt, hrun, hended, hRW⟩ := X58.leaveW hS (by rw [e58]; exact hk) (v := some (.int (1 : Int32))) (fun h => by rw [Bd.returns] at h; cases h)
        refine ⟨_, _, g59 _ ?_, hrun, hended, _, _, rfl, ?_, ?_, hRW.1, hRW.2.1, hRW.2.2.1, hRW.2.2.2.mono (by decide) (by decide)⟩
        · show Steps p.tables e below (T58.setTop (mkF m 196 #[.val (.int p1), .val (.long q2), .second, .val (.int p3), .val (.int p4), .val (.ref b1), .val (.ref b9), .val .null, .val .null, .val (.ref rk), .val (.ref b21), .val (.ref b21), .val (.ref bm)] [(.int (1 : Int32))])) _
          exact retN X58 hx (t := .boolean) Bd.returns (by simp) (hb hby at_196) hrt
        · show own_Q_rm0 Z p1 q2 p3 p4 cs wf wK0 wK1 wK2 wK3 wL h0 n0 _ T58.heap _
          rw [e58]
          exact ⟨rfl, N58⟩
        · rw [hh]
          show CHr Z own_EL s.vm h0 T58.vm T58.heap
          rw [e58]
          exact hC.trans (CHv.at X58 hZ (own_EW hw) hC.1)
    · have o60 : Old Z n0 T14.heap := (Old.keep o13 K14 (allS gz_b9 all0))
      obtain ⟨rk, hrk⟩ : ∃ z : Addr, (if (p1 &&& (3 : Int32)) = (0 : Int32) then wK0 else if (p1 &&& (3 : Int32)) = (1 : Int32) then wK1 else if (p1 &&& (3 : Int32)) = (2 : Int32) then wK2 else wK3) = z := ⟨_, rfl⟩
      obtain ⟨_, _, ⟨T61, L61, k61, n61⟩, -, X61, ⟨Lc61, hQ61, l61, y61, z61⟩, st61⟩ := Jvm.LawKit.callS X14 hx (y := own_y20) hown (mvT hZ (own_w hw 115 rfl)) (mvT hZ (own_w hw 116 rfl)) (mvT hZ (own_w hw 117 rfl)) (mvT hZ (own_w hw 118 rfl)) (by decide) (backOf (W := 0) (rmA21 l Z a0 hw [] (p1) rk cs wf wK0 wK1 wK2 wK3 wL T14.heap n0 o60 G0   hrk) hZ (own_w hw 118 rfl) (own_w hw 117 rfl) (by decide) (by decide)) (g := (mkF m 67 #[.val (.int p1), .val (.long q2), .second, .val (.int p3), .val (.int p4), .val (.ref b1), .val (.ref b9), .val .null, .val (.ref b1), .unset, .unset, .unset, .unset] [(.int p1)])) rfl (by rw [hml]; rfl) (argsL := [(.int p1)]) (rest := []) (lenOf own_pd16 rfl) rfl (by show 2 * 0 + _ ≤ _; exact Nat.le_of_eq rfl) (hb hby at_67) (fun _ _ => ⟨rfl, rfl, (by decide : 8 + 0 ≤ _), (by decide : 68 + 0 ≤ _)⟩)
      dsimp only [Pt.U, Pt.locs, Pt.cells, Pt.slots] at X61 l61 y61 z61 st61 hQ61
      subst l61 y61 z61
      obtain ⟨rfl, Nq61, e61⟩ := hQ61
      have N61 := Fr.app N14 Nq61
      obtain ⟨T62, h62, X62, e62, E62, A62, D62, -, st62⟩ := newO X61 hx hZ hown (own_w hw 122 rfl) (own_w hw 123 rfl) (own_w hw 124 rfl) e61 (g := (mkF m 72 #[.val (.int p1), .val (.long q2), .second, .val (.int p3), .val (.int p4), .val (.ref b1), .val (.ref b9), .val .null, .val (.ref b1), .val (.ref rk), .unset, .unset, .unset] [])) rfl (hb hby at_72) (by decide) (by decide)
      obtain ⟨b62, q_b62⟩ : ∃ z, z = T14.heap.size := ⟨_, rfl⟩
      rw [← q_b62] at A62 D62 st62
      have sz_b62 : h0.size ≤ b62 := Nat.le_trans (Nat.le_trans (Nat.le_trans (Nat.le_trans (Nat.le_trans E1.1 E2.1) K8.1) E9.1) K14.1) (Nat.le_of_eq q_b62.symm)
      have gz_b62 : n0 ≤ b62 := Nat.le_trans Z0 sz_b62
      have f63 := ((f10.ext E9).keep K14)
      have ne_a2_b62 : a2 ≠ b62 := Nat.ne_of_lt (Nat.lt_of_lt_of_le f63.lt (Nat.le_of_eq q_b62.symm))
      have f64 := ((Q8_0.ext E9).keep K14)
      have ne_b1_b62 : b1 ≠ b62 := Nat.ne_of_lt (Nat.lt_of_lt_of_le f64.lt (Nat.le_of_eq q_b62.symm))
      have f65 := ((f11.ext E9).keep K14 (ninS ne_b2_b9 nin0))
      have ne_b2_b62 : b2 ≠ b62 := Nat.ne_of_lt (Nat.lt_of_lt_of_le f65.lt (Nat.le_of_eq q_b62.symm))
      have ne_b9_b62 : b9 ≠ b62 := Nat.ne_of_lt (Nat.lt_of_lt_of_le Q14_0.lt (Nat.le_of_eq q_b62.symm))
      have hC := hC.trans (CHr.ext E62 hC.1)
      have hk := Nat.le_trans hk E62.1
      have F62_members : Fld Z h62 b62 "com/example/assemble_quorum/assemblequorum/io/Message$Builder" "members" "Ljava/util/List;" .null := D62 (Or.inl (own_w hw 136 rfl)) (ty := (.object "java/util/List")) (by decide)
      have F62_kind : Fld Z h62 b62 "com/example/assemble_quorum/assemblequorum/io/Message$Builder" "kind" "Lcom/example/assemble_quorum/assemblequorum/io/Message$Kind;" .null := D62 (Or.inr (own_w hw 138 rfl)) (ty := (.object "com/example/assemble_quorum/assemblequorum/io/Message$Kind")) (by decide)
      have F62_priorNumber : Fld Z h62 b62 "com/example/assemble_quorum/assemblequorum/io/Message$Builder" "priorNumber" "Lcom/example/assemble_quorum/assemblequorum/model/ProposalNumber;" .null := D62 (Or.inl (own_w hw 145 rfl)) (ty := (.object "com/example/assemble_quorum/assemblequorum/model/ProposalNumber")) (by decide)
      have F62_priorCandidate : Fld Z h62 b62 "com/example/assemble_quorum/assemblequorum/io/Message$Builder" "priorCandidate" "Lcom/example/assemble_quorum/assemblequorum/model/MemberAddress;" .null := D62 (Or.inl (own_w hw 147 rfl)) (ty := (.object "com/example/assemble_quorum/assemblequorum/model/MemberAddress")) (by decide)
      have F62_sender : Fld Z h62 b62 "com/example/assemble_quorum/assemblequorum/io/Message$Builder" "sender" "Lcom/example/assemble_quorum/assemblequorum/model/MemberAddress;" .null := D62 (Or.inl (own_w hw 164 rfl)) (ty := (.object "com/example/assemble_quorum/assemblequorum/model/MemberAddress")) (by decide)
      have F62_leader : Fld Z h62 b62 "com/example/assemble_quorum/assemblequorum/io/Message$Builder" "leader" "Lcom/example/assemble_quorum/assemblequorum/model/MemberAddress;" .null := D62 (Or.inl (own_w hw 168 rfl)) (ty := (.object "com/example/assemble_quorum/assemblequorum/model/MemberAddress")) (by decide)
      have F62_version : Fld Z h62 b62 "com/example/assemble_quorum/assemblequorum/io/Message$Builder" "version" "J" (.long (0 : Int64)) := D62 (Or.inl (own_w hw 172 rfl)) (ty := .long) (by decide)
      have F62_number : Fld Z h62 b62 "com/example/assemble_quorum/assemblequorum/io/Message$Builder" "number" "Lcom/example/assemble_quorum/assemblequorum/model/ProposalNumber;" .null := D62 (Or.inl (own_w hw 176 rfl)) (ty := (.object "com/example/assemble_quorum/assemblequorum/model/ProposalNumber")) (by decide)
      have F62_candidate : Fld Z h62 b62 "com/example/assemble_quorum/assemblequorum/io/Message$Builder" "candidate" "Lcom/example/assemble_quorum/assemblequorum/model/MemberAddress;" .null := D62 (Or.inl (own_w hw 180 rfl)) (ty := (.object "com/example/assemble_quorum/assemblequorum/model/MemberAddress")) (by decide)
      have F62_granted : Fld Z h62 b62 "com/example/assemble_quorum/assemblequorum/io/Message$Builder" "granted" "Z" (.int (0 : Int32)) := D62 (Or.inl (own_w hw 184 rfl)) (ty := .boolean) (by decide)
      have F62_topic : Fld Z h62 b62 "com/example/assemble_quorum/assemblequorum/io/Message$Builder" "topic" "Ljava/lang/String;" .null := D62 (Or.inl (own_w hw 215 rfl)) (ty := (.object "java/lang/String")) (by decide)
      have F62_payload : Fld Z h62 b62 "com/example/assemble_quorum/assemblequorum/io/Message$Builder" "payload" "[B" .null := D62 (Or.inl (own_w hw 219 rfl)) (ty := (.array .byte)) (by decide)
      obtain ⟨LL66, XL66, NL66⟩ : ∃ LL : List Loc, Stand p l e room_1 (s.setVm T14.vm) m #[(.int p1), (.long q2), (.int p3), (.int p4)] below meth c T62 LL 9 80 ∧ Fr n0 LL := ⟨_, X62, N61⟩
      have o67 : Old Z n0 h62 := (Old.ext o60 E62)
      obtain ⟨_, _, ⟨T68, L68, k68, n68⟩, -, X68, ⟨Lc68, hQ68, l68, y68, z68⟩, st68⟩ := XL66.specialBack hx (y := own_y21) rfl hown (mvT hZ (own_w hw 125 rfl)) (mvT hZ (own_w hw 126 rfl)) (mvT hZ (own_w hw 127 rfl)) (by decide) (backOf (W := 1) (rmA22 l Z a0 hw [] b62 rk  cs wf wK0 wK1 wK2 wK3 wL h62 n0 o67 G0 A62 F62_candidate F62_granted F62_kind F62_leader F62_members F62_number F62_payload F62_priorCandidate F62_priorNumber F62_sender F62_topic F62_version gz_b62 ) hZ (own_w hw 127 rfl) (own_w hw 124 rfl) (by decide) (by decide)) (g := (mkF m 78 #[.val (.int p1), .val (.long q2), .second, .val (.int p3), .val (.int p4), .val (.ref b1), .val (.ref b9), .val .null, .val (.ref b1), .val (.ref rk), .unset, .unset, .unset] [(.ref rk), (.ref b62), (.ref b62)])) rfl (by rw [hml]; rfl) (Steps.refl _) (a := b62) (argsL := [(.ref rk)]) (rest := [(.ref b62)]) (lenOf own_pd18 rfl) rfl (by show 2 * 0 + _ ≤ _; exact Nat.le_of_eq rfl) (hb hby at_78) (fun _ _ => ⟨rfl, e62, (by decide : 9 + 0 ≤ _), (by decide : 80 + 0 ≤ _)⟩)
      dsimp only [Pt.U, Pt.locs, Pt.cells, Pt.slots] at X68 l68 y68 z68 st68 hQ68
      subst l68 y68 z68
      obtain ⟨rfl, Nq68, K68, Q68_0, Q68_1, Q68_2, Q68_3, Q68_4, Q68_5, Q68_6, Q68_7, Q68_8, Q68_9, Q68_10, Q68_11, Q68_12⟩ := hQ68
      have hC := hC.trans (CHr.keep K68 (sfS (Safe.exa hZ.alike A62 (by decide) (by decide)) sf0) hC.1)
      have hk := Nat.le_trans hk K68.1
      have N68 := Fr.app NL66 Nq68
      have g70 : ∀ t, Steps p.tables e below (T68.setTop (mkF m 87 #[.val (.int p1), .val (.long q2), .second, .val (.int p3), .val (.int p4), .val (.ref b1), .val (.ref b9), .val .null, .val (.ref b1), .val (.ref rk), .val (.ref b62), .unset, .unset] [(.int (p4 &&& (4 : Int32)))])) t → Steps p.tables e below (s₁.setTop (entryFrame m #[(.int p1), (.long q2), (.int p3), (.int p4)] maxLocals)) t := by
        intro t k
        refine g18 t ?_
        show Steps p.tables e below (T14.setTop (mkF m 55 #[.val (.int p1), .val (.long q2), .second, .val (.int p3), .val (.int p4), .val (.ref b1), .val (.ref b9), .val .null, .unset, .unset, .unset, .unset, .unset] [(.int (p4 &&& (2 : Int32)))])) _
        refine XS.ifNo X14.here hx rfl (hb hby at_55) rfl ((if0 _ _).trans (feq hc17).1) ?_
        refine XS.aload X14.here hx rfl (hb hby at_58) rfl rfl ?_
        refine XS.goto X14.here hx rfl (pc0 := 60) (pc' := 64) rfl (hb hby at_60) (by decide) (by decide) ?_
        refine XS.astore X14.here hx rfl (hb hby at_64) rfl rfl (l' := #[.val (.int p1), .val (.long q2), .second, .val (.int p3), .val (.int p4), .val (.ref b1), .val (.ref b9), .val .null, .val (.ref b1), .unset, .unset, .unset, .unset]) rfl ?_
        refine XS.iloadN X14.here hx rfl (hb hby at_66) rfl ?_
        refine st61 _ ?_
        refine XS.astore X61.here hx rfl (hb hby at_70) rfl rfl (l' := #[.val (.int p1), .val (.long q2), .second, .val (.int p3), .val (.int p4), .val (.ref b1), .val (.ref b9), .val .null, .val (.ref b1), .val (.ref rk), .unset, .unset, .unset]) rfl ?_
        refine st62 _ ?_
        show Steps p.tables e below (T62.setTop (mkF m 75 #[.val (.int p1), .val (.long q2), .second, .val (.int p3), .val (.int p4), .val (.ref b1), .val (.ref b9), .val .null, .val (.ref b1), .val (.ref rk), .unset, .unset, .unset] [(.ref b62)])) _
        refine XS.dup X62.here hx rfl (hb hby at_75) rfl rfl ?_
        refine XS.aload X62.here hx rfl (hb hby at_76) rfl rfl ?_
        refine st68.trans ?_
        refine XS.astore X68.here hx rfl (hb hby at_81) rfl rfl (l' := #[.val (.int p1), .val (.long q2), .second, .val (.int p3), .val (.int p4), .val (.ref b1), .val (.ref b9), .val .null, .val (.ref b1), .val (.ref rk), .val (.ref b62), .unset, .unset]) rfl ?_
        refine XS.iload X68.here hx rfl (hb hby at_83) rfl ?_
        refine XS.iconst X68.here hx rfl (hb hby at_85) ?_
        show Steps p.tables e below (T68.setTop (mkF m 86 #[.val (.int p1), .val (.long q2), .second, .val (.int p3), .val (.int p4), .val (.ref b1), .val (.ref b9), .val .null, .val (.ref b1), .val (.ref rk), .val (.ref b62), .unset, .unset] [(.int (4 : Int32)), (.int p4)])) _
        refine XS.iand X68.here hx rfl (hb hby at_86) rfl ?_
        exact k
      by_cases hc69 : (p4 &&& (4 : Int32)) = (0 : Int32)
      · have o71 : Old Z n0 T68.heap := (Old.keep o67 K68 (allS gz_b62 all0))
        obtain ⟨cq72, kq72, q72a, q72b, q72c⟩ := isOf hZ rfl Q68_0
        obtain ⟨_, _, ⟨T72, L72, k72, n72⟩, -, X72, ⟨Lc72, hQ72, l72, y72, z72⟩, st72⟩ := X68.virtualBack hx (y := own_y23) (z := own_y23) hown (mvT hZ (own_w hw 139 rfl)) (mvT hZ (own_w hw 140 rfl)) (notFace_of_selects (args := #[]) (mvT hZ (own_w hw 142 rfl))) (mvT hZ (own_w hw 142 rfl)) (mvT hZ (own_w hw 141 rfl)) (by decide) (backOf (W := 0) (rmA37 l Z a0 hw [] b62 rk b1  cs wf wK0 wK1 wK2 wK3 wL T68.heap n0 o71 G0 Q68_0 Q68_9 Q68_10 Q68_2 Q68_6 Q68_1 Q68_8 Q68_12 Q68_4 Q68_3 Q68_5 Q68_11 Q68_7 gz_b62 ) hZ (own_w hw 143 rfl) (own_w hw 124 rfl) (by decide) (by decide)) q72a q72c (g := (mkF m 116 #[.val (.int p1), .val (.long q2), .second, .val (.int p3), .val (.int p4), .val (.ref b1), .val (.ref b9), .val .null, .val (.ref b1), .val (.ref rk), .val (.ref b62), .unset, .unset] [(.ref b1), .null, (.ref b62)])) rfl (by rw [hml]; rfl) (Steps.refl _) (argsL := [.null, (.ref b1)]) (rest := []) (lenOf own_pd19 rfl) rfl (by show 2 * 0 + _ ≤ _; exact Nat.le_of_eq rfl) (hb hby at_116) (fun _ _ => ⟨rfl, rfl, (by decide : 9 + 0 ≤ _), (by decide : 80 + 0 ≤ _)⟩)
        dsimp only [Pt.U, Pt.locs, Pt.cells, Pt.slots] at X72 l72 y72 z72 st72 hQ72
        subst l72 y72 z72
        obtain ⟨rfl, Nq72, K72, Q72_0, Q72_1, Q72_2, Q72_3, Q72_4, Q72_5, Q72_6, Q72_7, Q72_8, Q72_9, Q72_10, Q72_11, Q72_12⟩ := hQ72
        have hC := hC.trans (CHr.keep K72 (sfS (Safe.exa hZ.alike Q68_0 (by decide) (by decide)) sf0) hC.1)
        have hk := Nat.le_trans hk K72.1
        have N72 := Fr.app N68 Nq72
        have o73 : Old Z n0 T72.heap := (Old.keep o71 K72 (allS gz_b62 all0))
        obtain ⟨cq74, kq74, q74a, q74b, q74c⟩ := isOf hZ rfl Q72_0
        obtain ⟨_, _, ⟨T74, L74, k74, n74⟩, -, X74, ⟨Lc74, hQ74, l74, y74, z74⟩, st74⟩ := X72.virtualBack hx (y := own_y24) (z := own_y24) hown (mvT hZ (own_w hw 148 rfl)) (mvT hZ (own_w hw 149 rfl)) (notFace_of_selects (args := #[]) (mvT hZ (own_w hw 151 rfl))) (mvT hZ (own_w hw 151 rfl)) (mvT hZ (own_w hw 150 rfl)) (by decide) (backOf (W := 0) (rmA38 l Z a0 hw [] b62 rk b1  cs wf wK0 wK1 wK2 wK3 wL T72.heap n0 o73 G0 Q72_0 Q72_9 Q72_10 Q72_2 Q72_6 Q72_1 Q72_8 Q72_12 Q72_4 Q72_3 Q72_5 Q72_11 Q72_7  ) hZ (own_w hw 152 rfl) (own_w hw 124 rfl) (by decide) (by decide)) q74a q74c (g := (mkF m 132 #[.val (.int p1), .val (.long q2), .second, .val (.int p3), .val (.int p4), .val (.ref b1), .val (.ref b9), .val .null, .val (.ref b1), .val (.ref rk), .val (.ref b62), .val (.ref b62), .unset] [(.ref b62)])) rfl (by rw [hml]; rfl) (Steps.refl _) (argsL := []) (rest := []) (lenOf own_pd22 rfl) rfl (by show 2 * 0 + _ ≤ _; exact Nat.le_of_eq rfl) (hb hby at_132) (fun _ _ => ⟨rfl, rfl, (by decide : 9 + 1 ≤ _), (by decide : 80 + 12 ≤ _)⟩)
        dsimp only [Pt.U, Pt.locs, Pt.cells, Pt.slots] at X74 l74 y74 z74 st74 hQ74
        subst l74 y74 z74
        obtain ⟨bm, rfl, Nq74, K74, hb74, Q74_0, Q74_1, Q74_2, Q74_3, Q74_4, Q74_5, Q74_6⟩ := hQ74
        have hC := hC.trans (CHr.keep K74 sf0 hC.1)
        have hk := Nat.le_trans hk K74.1
        have N74 := Fr.app N72 Nq74
        have sz_bm : h0.size ≤ bm := Nat.le_trans (Nat.le_trans (Nat.le_trans (Nat.le_trans (Nat.le_trans (Nat.le_trans (Nat.le_trans (Nat.le_trans E1.1 E2.1) K8.1) E9.1) K14.1) E62.1) K68.1) K72.1) hb74
        have gz_bm : n0 ≤ bm := Nat.le_trans Z0 sz_bm
        have ne_a2_bm : a2 ≠ bm := Nat.ne_of_lt (Nat.lt_of_lt_of_le (((f63.ext E62).keep K68).keep K72).lt hb74)
        have ne_b1_bm : b1 ≠ bm := Nat.ne_of_lt (Nat.lt_of_lt_of_le (((f64.ext E62).keep K68).keep K72).lt hb74)
        have ne_b2_bm : b2 ≠ bm := Nat.ne_of_lt (Nat.lt_of_lt_of_le (((f65.ext E62).keep K68 (ninS ne_b2_b62 nin0)).keep K72 (ninS ne_b2_b62 nin0)).lt hb74)
        have ne_b62_bm : b62 ≠ bm := Nat.ne_of_lt (Nat.lt_of_lt_of_le Q72_0.lt hb74)
        have ne_b9_bm : b9 ≠ bm := Nat.ne_of_lt (Nat.lt_of_lt_of_le (((Q14_0.ext E62).keep K68).keep K72).lt hb74)
        have o75 : Old Z n0 T74.heap := (Old.keep o73 K74 all0)
        obtain ⟨cq76, kq76, q76a, q76b, q76c⟩ := isOf hZ rfl Q74_0
        obtain ⟨_, _, ⟨T76, L76, k76, n76⟩, -, X76, ⟨Lc76, hQ76, l76, y76, z76⟩, st76⟩ := X74.virtualBack hx (y := own_y28) (z := own_y28) hown (mvT hZ (own_w hw 222 rfl)) (mvT hZ (own_w hw 223 rfl)) (notFace_of_selects (args := #[]) (mvT hZ (own_w hw 225 rfl))) (mvT hZ (own_w hw 225 rfl)) (mvT hZ (own_w hw 224 rfl)) (by decide) (backOf (W := 0) (rmA40 l Z a0 hw [] bm rk b1  cs wf wK0 wK1 wK2 wK3 wL T74.heap n0 o75 G0 Q74_0 Q74_5 Q74_1 Q74_6 Q74_4 Q74_3 Q74_2  ) hZ (own_w hw 226 rfl) (own_w hw 155 rfl) (by decide) (by decide)) q76a q76c (g := (mkF m 139 #[.val (.int p1), .val (.long q2), .second, .val (.int p3), .val (.int p4), .val (.ref b1), .val (.ref b9), .val .null, .val (.ref b1), .val (.ref rk), .val (.ref b62), .val (.ref b62), .val (.ref bm)] [(.ref bm)])) rfl (by rw [hml]; rfl) (Steps.refl _) (argsL := []) (rest := []) (lenOf own_pd23 rfl) rfl (by show 2 * 0 + _ ≤ _; exact Nat.le_of_eq rfl) (hb hby at_139) (fun _ _ => ⟨rfl, rfl, (by decide : 10 + 0 ≤ _), (by decide : 92 + 0 ≤ _)⟩)
        dsimp only [Pt.U, Pt.locs, Pt.cells, Pt.slots] at X76 l76 y76 z76 st76 hQ76
        subst l76 y76 z76
        obtain ⟨rfl, Nq76, e76⟩ := hQ76
        have N76 := Fr.app N74 Nq76
        obtain ⟨LL77, XL77, NL77⟩ : ∃ LL : List Loc, Stand p l e room_1 (s.setVm T14.vm) m #[(.int p1), (.long q2), (.int p3), (.int p4)] below meth c T76 LL 10 92 ∧ Fr n0 LL := ⟨_, X76, N76⟩
        obtain ⟨cq78, kq78, q78a, q78b, q78c⟩ := isOf hZ e76 Q74_0
        obtain ⟨_, _, ⟨T78, L78, k78, n78⟩, -, X78, ⟨Lc78, hQ78, l78, y78, z78⟩, st78⟩ := XL77.virtualBack hx (y := own_y29) (z := own_y29) hown (mvT hZ (own_w hw 227 rfl)) (mvT hZ (own_w hw 228 rfl)) (notFace_of_selects (args := #[]) (mvT hZ (own_w hw 230 rfl))) (mvT hZ (own_w hw 230 rfl)) (mvT hZ (own_w hw 229 rfl)) (by decide) (backOf (W := 0) (rmA41 l Z a0 hw [] bm rk b1  cs wf wK0 wK1 wK2 wK3 wL T74.heap n0 o75 G0 Q74_0 Q74_5 Q74_1 Q74_6 Q74_4 Q74_3 Q74_2  ) hZ (own_w hw 231 rfl) (own_w hw 155 rfl) (by decide) (by decide)) q78a q78c (g := (mkF m 149 #[.val (.int p1), .val (.long q2), .second, .val (.int p3), .val (.int p4), .val (.ref b1), .val (.ref b9), .val .null, .val (.ref b1), .val (.ref rk), .val (.ref b62), .val (.ref b62), .val (.ref bm)] [(.ref bm)])) rfl (by rw [hml]; rfl) (Steps.refl _) (argsL := []) (rest := []) (lenOf own_pd24 rfl) rfl (by show 2 * 0 + _ ≤ _; exact Nat.le_of_eq rfl) (hb hby at_149) (fun _ _ => ⟨rfl, e76, (by decide : 10 + 0 ≤ _), (by decide : 92 + 0 ≤ _)⟩)
        dsimp only [Pt.U, Pt.locs, Pt.cells, Pt.slots] at X78 l78 y78 z78 st78 hQ78
        subst l78 y78 z78
        obtain ⟨rfl, Nq78, e78⟩ := hQ78
        have N78 := Fr.app NL77 Nq78
        obtain ⟨cq79, kq79, q79a, q79b, q79c⟩ := isOf hZ e78 Q74_0
        obtain ⟨_, _, ⟨T79, L79, k79, n79⟩, -, X79, ⟨Lc79, hQ79, l79, y79, z79⟩, st79⟩ := X78.virtualBack hx (y := own_y30) (z := own_y30) hown (mvT hZ (own_w hw 232 rfl)) (mvT hZ (own_w hw 233 rfl)) (notFace_of_selects (args := #[]) (mvT hZ (own_w hw 235 rfl))) (mvT hZ (own_w hw 235 rfl)) (mvT hZ (own_w hw 234 rfl)) (by decide) (backOf (W := 0) (rmA42 l Z a0 hw [] bm rk b1  cs wf wK0 wK1 wK2 wK3 wL T74.heap n0 o75 G0 Q74_0 Q74_5 Q74_1 Q74_6 Q74_4 Q74_3 Q74_2  ) hZ (own_w hw 236 rfl) (own_w hw 155 rfl) (by decide) (by decide)) q79a q79c (g := (mkF m 159 #[.val (.int p1), .val (.long q2), .second, .val (.int p3), .val (.int p4), .val (.ref b1), .val (.ref b9), .val .null, .val (.ref b1), .val (.ref rk), .val (.ref b62), .val (.ref b62), .val (.ref bm)] [(.ref bm)])) rfl (by rw [hml]; rfl) (Steps.refl _) (argsL := []) (rest := []) (lenOf own_pd25 rfl) rfl (by show 2 * 0 + _ ≤ _; exact Nat.le_of_eq rfl) (hb hby at_159) (fun _ _ => ⟨rfl, e78, (by decide : 10 + 0 ≤ _), (by decide : 92 + 0 ≤ _)⟩)
        dsimp only [Pt.U, Pt.locs, Pt.cells, Pt.slots] at X79 l79 y79 z79 st79 hQ79
        subst l79 y79 z79
        obtain ⟨rfl, Nq79, e79⟩ := hQ79
        have N79 := Fr.app N78 Nq79
        obtain ⟨cq80, kq80, q80a, q80b, q80c⟩ := isOf hZ e79 Q74_0
        obtain ⟨_, _, ⟨T80, L80, k80, n80⟩, -, X80, ⟨Lc80, hQ80, l80, y80, z80⟩, st80⟩ := X79.virtualBack hx (y := own_y31) (z := own_y31) hown (mvT hZ (own_w hw 237 rfl)) (mvT hZ (own_w hw 238 rfl)) (notFace_of_selects (args := #[]) (mvT hZ (own_w hw 240 rfl))) (mvT hZ (own_w hw 240 rfl)) (mvT hZ (own_w hw 239 rfl)) (by decide) (backOf (W := 0) (rmA43 l Z a0 hw [] bm rk b1  cs wf wK0 wK1 wK2 wK3 wL T74.heap n0 o75 G0 Q74_0 Q74_5 Q74_1 Q74_6 Q74_4 Q74_3 Q74_2  ) hZ (own_w hw 241 rfl) (own_w hw 155 rfl) (by decide) (by decide)) q80a q80c (g := (mkF m 169 #[.val (.int p1), .val (.long q2), .second, .val (.int p3), .val (.int p4), .val (.ref b1), .val (.ref b9), .val .null, .val (.ref b1), .val (.ref rk), .val (.ref b62), .val (.ref b62), .val (.ref bm)] [(.ref bm)])) rfl (by rw [hml]; rfl) (Steps.refl _) (argsL := []) (rest := []) (lenOf own_pd23 rfl) rfl (by show 2 * 0 + _ ≤ _; exact Nat.le_of_eq rfl) (hb hby at_169) (fun _ _ => ⟨rfl, e79, (by decide : 10 + 0 ≤ _), (by decide : 92 + 0 ≤ _)⟩)
        dsimp only [Pt.U, Pt.locs, Pt.cells, Pt.slots] at X80 l80 y80 z80 st80 hQ80
        subst l80 y80 z80
        obtain ⟨rfl, Nq80, e80⟩ := hQ80
        have N80 := Fr.app N79 Nq80
        obtain ⟨cq81, kq81, q81a, q81b, q81c⟩ := isOf hZ e80 Q74_0
        obtain ⟨_, _, ⟨T81, L81, k81, n81⟩, -, X81, ⟨Lc81, hQ81, l81, y81, z81⟩, st81⟩ := X80.virtualBack hx (y := own_y32) (z := own_y32) hown (mvT hZ (own_w hw 242 rfl)) (mvT hZ (own_w hw 243 rfl)) (notFace_of_selects (args := #[]) (mvT hZ (own_w hw 245 rfl))) (mvT hZ (own_w hw 245 rfl)) (mvT hZ (own_w hw 244 rfl)) (by decide) (backOf (W := 0) (rmA44 l Z a0 hw [] bm rk b1  cs wf wK0 wK1 wK2 wK3 wL T74.heap n0 o75 G0 Q74_0 Q74_5 Q74_1 Q74_6 Q74_4 Q74_3 Q74_2  ) hZ (own_w hw 246 rfl) (own_w hw 155 rfl) (by decide) (by decide)) q81a q81c (g := (mkF m 177 #[.val (.int p1), .val (.long q2), .second, .val (.int p3), .val (.int p4), .val (.ref b1), .val (.ref b9), .val .null, .val (.ref b1), .val (.ref rk), .val (.ref b62), .val (.ref b62), .val (.ref bm)] [(.ref bm)])) rfl (by rw [hml]; rfl) (Steps.refl _) (argsL := []) (rest := []) (lenOf own_pd24 rfl) rfl (by show 2 * 0 + _ ≤ _; exact Nat.le_of_eq rfl) (hb hby at_177) (fun _ _ => ⟨rfl, e80, (by decide : 10 + 0 ≤ _), (by decide : 92 + 0 ≤ _)⟩)
        dsimp only [Pt.U, Pt.locs, Pt.cells, Pt.slots] at X81 l81 y81 z81 st81 hQ81
        subst l81 y81 z81
        obtain ⟨rfl, Nq81, e81⟩ := hQ81
        have N81 := Fr.app N80 Nq81
        obtain ⟨LL82, XL82, NL82⟩ : ∃ LL : List Loc, Stand p l e room_1 (s.setVm T14.vm) m #[(.int p1), (.long q2), (.int p3), (.int p4)] below meth c T81 LL 10 92 ∧ Fr n0 LL := ⟨_, X81, N81⟩
        obtain ⟨cq83, kq83, q83a, q83b, q83c⟩ := isOf hZ e81 Q74_0
        obtain ⟨_, _, ⟨T83, L83, k83, n83⟩, -, X83, ⟨Lc83, hQ83, l83, y83, z83⟩, st83⟩ := XL82.virtualBack hx (y := own_y33) (z := own_y33) hown (mvT hZ (own_w hw 247 rfl)) (mvT hZ (own_w hw 248 rfl)) (notFace_of_selects (args := #[]) (mvT hZ (own_w hw 250 rfl))) (mvT hZ (own_w hw 250 rfl)) (mvT hZ (own_w hw 249 rfl)) (by decide) (backOf (W := 0) (rmA45 l Z a0 hw [] bm rk b1  cs wf wK0 wK1 wK2 wK3 wL T74.heap n0 o75 G0 Q74_0 Q74_5 Q74_1 Q74_6 Q74_4 Q74_3 Q74_2  ) hZ (own_w hw 251 rfl) (own_w hw 155 rfl) (by decide) (by decide)) q83a q83c (g := (mkF m 185 #[.val (.int p1), .val (.long q2), .second, .val (.int p3), .val (.int p4), .val (.ref b1), .val (.ref b9), .val .null, .val (.ref b1), .val (.ref rk), .val (.ref b62), .val (.ref b62), .val (.ref bm)] [(.ref bm)])) rfl (by rw [hml]; rfl) (Steps.refl _) (argsL := []) (rest := []) (lenOf own_pd24 rfl) rfl (by show 2 * 0 + _ ≤ _; exact Nat.le_of_eq rfl) (hb hby at_185) (fun _ _ => ⟨rfl, e81, (by decide : 10 + 0 ≤ _), (by decide : 92 + 0 ≤ _)⟩)
        dsimp only [Pt.U, Pt.locs, Pt.cells, Pt.slots] at X83 l83 y83 z83 st83 hQ83
        subst l83 y83 z83
        obtain ⟨rfl, Nq83, e83⟩ := hQ83
        have N83 := Fr.app NL82 Nq83
        have g84 : ∀ t, Steps p.tables e below (T83.setTop (mkF m 196 #[.val (.int p1), .val (.long q2), .second, .val (.int p3), .val (.int p4), .val (.ref b1), .val (.ref b9), .val .null, .val (.ref b1), .val (.ref rk), .val (.ref b62), .val (.ref b62), .val (.ref bm)] [(.int (1 : Int32))])) t → Steps p.tables e below (s₁.setTop (entryFrame m #[(.int p1), (.long q2), (.int p3), (.int p4)] maxLocals)) t := by
          intro t k
          refine g70 t ?_
          show Steps p.tables e below (T68.setTop (mkF m 87 #[.val (.int p1), .val (.long q2), .second, .val (.int p3), .val (.int p4), .val (.ref b1), .val (.ref b9), .val .null, .val (.ref b1), .val (.ref rk), .val (.ref b62), .unset, .unset] [(.int (p4 &&& (4 : Int32)))])) _
          refine XS.ifYes X68.here hx rfl (pc0 := 87) (pc' := 110) rfl (hb hby at_87) rfl ((if0 _ _).trans (teq hc69).1) (by decide) (by decide) ?_
          refine XS.aload X68.here hx rfl (hb hby at_110) rfl rfl ?_
          refine XS.aload X68.here hx rfl (hb hby at_112) rfl rfl ?_
          refine XS.aload X68.here hx rfl (hb hby at_114) rfl rfl ?_
          refine st72.trans ?_
          refine XS.astore X72.here hx rfl (hb hby at_119) rfl rfl (l' := #[.val (.int p1), .val (.long q2), .second, .val (.int p3), .val (.int p4), .val (.ref b1), .val (.ref b9), .val .null, .val (.ref b1), .val (.ref rk), .val (.ref b62), .val (.ref b62), .unset]) rfl ?_
          refine XS.aload X72.here hx rfl (hb hby at_121) rfl rfl ?_
          refine XS.aload X72.here hx rfl (hb hby at_123) rfl rfl ?_
          show Steps p.tables e below (T72.setTop (mkF m 125 #[.val (.int p1), .val (.long q2), .second, .val (.int p3), .val (.int p4), .val (.ref b1), .val (.ref b9), .val .null, .val (.ref b1), .val (.ref rk), .val (.ref b62), .val (.ref b62), .unset] [(.ref b62), (.ref b62)])) _
          refine Jvm.RoadKit.acmp (g := (mkF m 125 #[.val (.int p1), .val (.long q2), .second, .val (.int p3), .val (.int p4), .val (.ref b1), .val (.ref b9), .val .null, .val (.ref b1), .val (.ref rk), .val (.ref b62), .val (.ref b62), .unset] [(.ref b62), (.ref b62)])) X72 hx rfl rfl rfl (pc0 := 125) (pc' := 130) (same := true) rfl (hb hby at_125) rfl (decide_eq_true rfl) (by decide) (by decide) ?_
          refine XS.aload X72.here hx rfl (hb hby at_130) rfl rfl ?_
          refine st74.trans ?_
          refine XS.astore X74.here hx rfl (hb hby at_135) rfl rfl (l' := #[.val (.int p1), .val (.long q2), .second, .val (.int p3), .val (.int p4), .val (.ref b1), .val (.ref b9), .val .null, .val (.ref b1), .val (.ref rk), .val (.ref b62), .val (.ref b62), .val (.ref bm)]) rfl ?_
          refine XS.aload X74.here hx rfl (hb hby at_137) rfl rfl ?_
          refine st76.trans ?_
          refine XS.aload X76.here hx rfl (hb hby at_142) rfl rfl ?_
          refine Jvm.RoadKit.acmp (g := (mkF m 144 #[.val (.int p1), .val (.long q2), .second, .val (.int p3), .val (.int p4), .val (.ref b1), .val (.ref b9), .val .null, .val (.ref b1), .val (.ref rk), .val (.ref b62), .val (.ref b62), .val (.ref bm)] [.null, .null])) X76 hx rfl rfl rfl (pc0 := 144) (pc' := 147) (same := true) rfl (hb hby at_144) rfl (decide_eq_true rfl) (by decide) (by decide) ?_
          show Steps p.tables e below (T76.setTop (mkF m 147 #[.val (.int p1), .val (.long q2), .second, .val (.int p3), .val (.int p4), .val (.ref b1), .val (.ref b9), .val .null, .val (.ref b1), .val (.ref rk), .val (.ref b62), .val (.ref b62), .val (.ref bm)] [])) _
          refine XS.aload X76.here hx rfl (hb hby at_147) rfl rfl ?_
          refine st78.trans ?_
          refine XS.aload X78.here hx rfl (hb hby at_152) rfl rfl ?_
          refine Jvm.RoadKit.acmp (g := (mkF m 154 #[.val (.int p1), .val (.long q2), .second, .val (.int p3), .val (.int p4), .val (.ref b1), .val (.ref b9), .val .null, .val (.ref b1), .val (.ref rk), .val (.ref b62), .val (.ref b62), .val (.ref bm)] [(.ref b1), (.ref b1)])) X78 hx rfl rfl rfl (pc0 := 154) (pc' := 157) (same := true) rfl (hb hby at_154) rfl (decide_eq_true rfl) (by decide) (by decide) ?_
          refine XS.aload X78.here hx rfl (hb hby at_157) rfl rfl ?_
          refine st79.trans ?_
          refine XS.aload X79.here hx rfl (hb hby at_162) rfl rfl ?_
          refine Jvm.RoadKit.acmp (g := (mkF m 164 #[.val (.int p1), .val (.long q2), .second, .val (.int p3), .val (.int p4), .val (.ref b1), .val (.ref b9), .val .null, .val (.ref b1), .val (.ref rk), .val (.ref b62), .val (.ref b62), .val (.ref bm)] [(.ref rk), (.ref rk)])) X79 hx rfl rfl rfl (pc0 := 164) (pc' := 167) (same := true) rfl (hb hby at_164) rfl (decide_eq_true rfl) (by decide) (by decide) ?_
          show Steps p.tables e below (T79.setTop (mkF m 167 #[.val (.int p1), .val (.long q2), .second, .val (.int p3), .val (.int p4), .val (.ref b1), .val (.ref b9), .val .null, .val (.ref b1), .val (.ref rk), .val (.ref b62), .val (.ref b62), .val (.ref bm)] [])) _
          refine XS.aload X79.here hx rfl (hb hby at_167) rfl rfl ?_
          refine st80.trans ?_
          refine XS.ifnonnullNo X80.here hx rfl (hb hby at_172) rfl ?_
          refine XS.aload X80.here hx rfl (hb hby at_175) rfl rfl ?_
          refine st81.trans ?_
          refine XS.ifnonnullNo X81.here hx rfl (hb hby at_180) rfl ?_
          refine XS.aload X81.here hx rfl (hb hby at_183) rfl rfl ?_
          refine st83.trans ?_
          show Steps p.tables e below (T83.setTop (mkF m 188 #[.val (.int p1), .val (.long q2), .second, .val (.int p3), .val (.int p4), .val (.ref b1), .val (.ref b9), .val .null, .val (.ref b1), .val (.ref rk), .val (.ref b62), .val (.ref b62), .val (.ref bm)] [.null])) _
          refine XS.ifnonnullNo X83.here hx rfl (hb hby at_188) rfl ?_
          refine XS.iconst X83.here hx rfl (hb hby at_191) ?_
          refine XS.goto X83.here hx rfl (pc0 := 192) (pc' := 196) rfl (hb hby at_192) (by decide) (by decide) ?_
          exact k
        obtain ⟨fs, hrt, hrun, hended, hRW⟩ := X83.leaveW hS (by rw [e83]; exact hk) (v := some (.int (1 : Int32))) (fun h => by rw [Bd.returns] at h; cases h)
        refine ⟨_, _, g84 _ ?_, hrun, hended, _, _, rfl, ?_, ?_, hRW.1, hRW.2.1, hRW.2.2.1, hRW.2.2.2.mono (by decide) (by decide)⟩
        · show Steps p.tables e below (T83.setTop (mkF m 196 #[.val (.int p1), .val (.long q2), .second, .val (.int p3), .val (.int p4), .val (.ref b1), .val (.ref b9), .val .null, .val (.ref b1), .val (.ref rk), .val (.ref b62), .val (.ref b62), .val (.ref bm)] [(.int (1 : Int32))])) _
          exact retN X83 hx (t := .boolean) Bd.returns (by simp) (hb hby at_196) hrt
        · show own_Q_rm0 Z p1 q2 p3 p4 cs wf wK0 wK1 wK2 wK3 wL h0 n0 _ T83.heap _
          rw [e83]
          exact ⟨rfl, N83⟩
        · rw [hh]
          show CHr Z own_EL s.vm h0 T83.vm T83.heap
          rw [e83]
          exact hC.trans (CHv.at X83 hZ (own_EW hw) hC.1)
      · have o85 : Old Z n0 T68.heap := (Old.keep o67 K68 (allS gz_b62 all0))
        obtain ⟨cq86, kq86, q86a, q86b, q86c⟩ := isOf hZ rfl Q68_0
        obtain ⟨_, _, ⟨T86, L86, k86, n86⟩, -, X86, ⟨Lc86, hQ86, l86, y86, z86⟩, st86⟩ := X68.virtualBack hx (y := own_y23) (z := own_y23) hown (mvT hZ (own_w hw 139 rfl)) (mvT hZ (own_w hw 140 rfl)) (notFace_of_selects (args := #[]) (mvT hZ (own_w hw 142 rfl))) (mvT hZ (own_w hw 142 rfl)) (mvT hZ (own_w hw 141 rfl)) (by decide) (backOf (W := 0) (rmA35 l Z a0 hw [] b62 rk b9 b1  cs wf wK0 wK1 wK2 wK3 wL T68.heap n0 o85 G0 Q68_0 Q68_9 Q68_10 Q68_2 Q68_6 Q68_1 Q68_8 Q68_12 Q68_4 Q68_3 Q68_5 Q68_11 Q68_7 gz_b62 ) hZ (own_w hw 143 rfl) (own_w hw 124 rfl) (by decide) (by decide)) q86a q86c (g := (mkF m 96 #[.val (.int p1), .val (.long q2), .second, .val (.int p3), .val (.int p4), .val (.ref b1), .val (.ref b9), .val .null, .val (.ref b1), .val (.ref rk), .val (.ref b62), .unset, .unset] [(.ref b1), (.ref b9), (.ref b62)])) rfl (by rw [hml]; rfl) (Steps.refl _) (argsL := [(.ref b9), (.ref b1)]) (rest := []) (lenOf own_pd19 rfl) rfl (by show 2 * 0 + _ ≤ _; exact Nat.le_of_eq rfl) (hb hby at_96) (fun _ _ => ⟨rfl, rfl, (by decide : 9 + 0 ≤ _), (by decide : 80 + 0 ≤ _)⟩)
        dsimp only [Pt.U, Pt.locs, Pt.cells, Pt.slots] at X86 l86 y86 z86 st86 hQ86
        subst l86 y86 z86
        obtain ⟨rfl, Nq86, K86, Q86_0, Q86_1, Q86_2, Q86_3, Q86_4, Q86_5, Q86_6, Q86_7, Q86_8, Q86_9, Q86_10, Q86_11, Q86_12⟩ := hQ86
        have hC := hC.trans (CHr.keep K86 (sfS (Safe.exa hZ.alike Q68_0 (by decide) (by decide)) sf0) hC.1)
        have hk := Nat.le_trans hk K86.1
        have N86 := Fr.app N68 Nq86
        have o87 : Old Z n0 T86.heap := (Old.keep o85 K86 (allS gz_b62 all0))
        obtain ⟨cq88, kq88, q88a, q88b, q88c⟩ := isOf hZ rfl Q86_0
        obtain ⟨_, _, ⟨T88, L88, k88, n88⟩, -, X88, ⟨Lc88, hQ88, l88, y88, z88⟩, st88⟩ := X86.virtualBack hx (y := own_y23) (z := own_y23) hown (mvT hZ (own_w hw 139 rfl)) (mvT hZ (own_w hw 140 rfl)) (notFace_of_selects (args := #[]) (mvT hZ (own_w hw 142 rfl))) (mvT hZ (own_w hw 142 rfl)) (mvT hZ (own_w hw 141 rfl)) (by decide) (backOf (W := 0) (rmA46 l Z a0 hw [] b62 rk b1 b9  cs wf wK0 wK1 wK2 wK3 wL T86.heap n0 o87 G0 Q86_0 Q86_9 Q86_10 Q86_2 Q86_6 Q86_1 Q86_8 Q86_12 Q86_4 Q86_3 Q86_5 Q86_11 Q86_7 gz_b62 ) hZ (own_w hw 143 rfl) (own_w hw 124 rfl) (by decide) (by decide)) q88a q88c (g := (mkF m 116 #[.val (.int p1), .val (.long q2), .second, .val (.int p3), .val (.int p4), .val (.ref b1), .val (.ref b9), .val .null, .val (.ref b1), .val (.ref rk), .val (.ref b62), .val (.ref b62), .unset] [(.ref b1), .null, (.ref b62)])) rfl (by rw [hml]; rfl) (Steps.refl _) (argsL := [.null, (.ref b1)]) (rest := []) (lenOf own_pd19 rfl) rfl (by show 2 * 0 + _ ≤ _; exact Nat.le_of_eq rfl) (hb hby at_116) (fun _ _ => ⟨rfl, rfl, (by decide : 9 + 0 ≤ _), (by decide : 80 + 0 ≤ _)⟩)
        dsimp only [Pt.U, Pt.locs, Pt.cells, Pt.slots] at X88 l88 y88 z88 st88 hQ88
        subst l88 y88 z88
        obtain ⟨rfl, Nq88, K88, Q88_0, Q88_1, Q88_2, Q88_3, Q88_4, Q88_5, Q88_6, Q88_7, Q88_8, Q88_9, Q88_10, Q88_11, Q88_12⟩ := hQ88
        have hC := hC.trans (CHr.keep K88 (sfS (Safe.exa hZ.alike Q86_0 (by decide) (by decide)) sf0) hC.1)
        have hk := Nat.le_trans hk K88.1
        have N88 := Fr.app N86 Nq88
        have o89 : Old Z n0 T88.heap := (Old.keep o87 K88 (allS gz_b62 all0))
        obtain ⟨cq90, kq90, q90a, q90b, q90c⟩ := isOf hZ rfl Q88_0
        obtain ⟨_, _, ⟨T90, L90, k90, n90⟩, -, X90, ⟨Lc90, hQ90, l90, y90, z90⟩, st90⟩ := X88.virtualBack hx (y := own_y24) (z := own_y24) hown (mvT hZ (own_w hw 148 rfl)) (mvT hZ (own_w hw 149 rfl)) (notFace_of_selects (args := #[]) (mvT hZ (own_w hw 151 rfl))) (mvT hZ (own_w hw 151 rfl)) (mvT hZ (own_w hw 150 rfl)) (by decide) (backOf (W := 0) (rmA38 l Z a0 hw [] b62 rk b1  cs wf wK0 wK1 wK2 wK3 wL T88.heap n0 o89 G0 Q88_0 Q88_9 Q88_10 Q88_2 Q88_6 Q88_1 Q88_8 Q88_12 Q88_4 Q88_3 Q88_5 Q88_11 Q88_7  ) hZ (own_w hw 152 rfl) (own_w hw 124 rfl) (by decide) (by decide)) q90a q90c (g := (mkF m 132 #[.val (.int p1), .val (.long q2), .second, .val (.int p3), .val (.int p4), .val (.ref b1), .val (.ref b9), .val .null, .val (.ref b1), .val (.ref rk), .val (.ref b62), .val (.ref b62), .unset] [(.ref b62)])) rfl (by rw [hml]; rfl) (Steps.refl _) (argsL := []) (rest := []) (lenOf own_pd22 rfl) rfl (by show 2 * 0 + _ ≤ _; exact Nat.le_of_eq rfl) (hb hby at_132) (fun _ _ => ⟨rfl, rfl, (by decide : 9 + 1 ≤ _), (by decide : 80 + 12 ≤ _)⟩)
        dsimp only [Pt.U, Pt.locs, Pt.cells, Pt.slots] at X90 l90 y90 z90 st90 hQ90
        subst l90 y90 z90
        obtain ⟨bm, rfl, Nq90, K90, hb90, Q90_0, Q90_1, Q90_2, Q90_3, Q90_4, Q90_5, Q90_6⟩ := hQ90
        have hC := hC.trans (CHr.keep K90 sf0 hC.1)
        have hk := Nat.le_trans hk K90.1
        have N90 := Fr.app N88 Nq90
        have sz_bm : h0.size ≤ bm := Nat.le_trans (Nat.le_trans (Nat.le_trans (Nat.le_trans (Nat.le_trans (Nat.le_trans (Nat.le_trans (Nat.le_trans (Nat.le_trans E1.1 E2.1) K8.1) E9.1) K14.1) E62.1) K68.1) K86.1) K88.1) hb90
        have gz_bm : n0 ≤ bm := Nat.le_trans Z0 sz_bm
        have ne_a2_bm : a2 ≠ bm := Nat.ne_of_lt (Nat.lt_of_lt_of_le ((((f63.ext E62).keep K68).keep K86).keep K88).lt hb90)
        have ne_b1_bm : b1 ≠ bm := Nat.ne_of_lt (Nat.lt_of_lt_of_le ((((f64.ext E62).keep K68).keep K86).keep K88).lt hb90)
        have ne_b2_bm : b2 ≠ bm := Nat.ne_of_lt (Nat.lt_of_lt_of_le ((((f65.ext E62).keep K68 (ninS ne_b2_b62 nin0)).keep K86 (ninS ne_b2_b62 nin0)).keep K88 (ninS ne_b2_b62 nin0)).lt hb90)
        have ne_b62_bm : b62 ≠ bm := Nat.ne_of_lt (Nat.lt_of_lt_of_le Q88_0.lt hb90)
        have ne_b9_bm : b9 ≠ bm := Nat.ne_of_lt (Nat.lt_of_lt_of_le ((((Q14_0.ext E62).keep K68).keep K86).keep K88).lt hb90)
        obtain ⟨LL91, XL91, NL91⟩ : ∃ LL : List Loc, Stand p l e room_1 (s.setVm T14.vm) m #[(.int p1), (.long q2), (.int p3), (.int p4)] below meth c T90 LL 10 92 ∧ Fr n0 LL := ⟨_, X90, N90⟩
        have o92 : Old Z n0 T90.heap := (Old.keep o89 K90 all0)
        obtain ⟨cq93, kq93, q93a, q93b, q93c⟩ := isOf hZ rfl Q90_0
        obtain ⟨_, _, ⟨T93, L93, k93, n93⟩, -, X93, ⟨Lc93, hQ93, l93, y93, z93⟩, st93⟩ := XL91.virtualBack hx (y := own_y28) (z := own_y28) hown (mvT hZ (own_w hw 222 rfl)) (mvT hZ (own_w hw 223 rfl)) (notFace_of_selects (args := #[]) (mvT hZ (own_w hw 225 rfl))) (mvT hZ (own_w hw 225 rfl)) (mvT hZ (own_w hw 224 rfl)) (by decide) (backOf (W := 0) (rmA40 l Z a0 hw [] bm rk b1  cs wf wK0 wK1 wK2 wK3 wL T90.heap n0 o92 G0 Q90_0 Q90_5 Q90_1 Q90_6 Q90_4 Q90_3 Q90_2  ) hZ (own_w hw 226 rfl) (own_w hw 155 rfl) (by decide) (by decide)) q93a q93c (g := (mkF m 139 #[.val (.int p1), .val (.long q2), .second, .val (.int p3), .val (.int p4), .val (.ref b1), .val (.ref b9), .val .null, .val (.ref b1), .val (.ref rk), .val (.ref b62), .val (.ref b62), .val (.ref bm)] [(.ref bm)])) rfl (by rw [hml]; rfl) (Steps.refl _) (argsL := []) (rest := []) (lenOf own_pd23 rfl) rfl (by show 2 * 0 + _ ≤ _; exact Nat.le_of_eq rfl) (hb hby at_139) (fun _ _ => ⟨rfl, rfl, (by decide : 10 + 0 ≤ _), (by decide : 92 + 0 ≤ _)⟩)
        dsimp only [Pt.U, Pt.locs, Pt.cells, Pt.slots] at X93 l93 y93 z93 st93 hQ93
        subst l93 y93 z93
        obtain ⟨rfl, Nq93, e93⟩ := hQ93
        have N93 := Fr.app NL91 Nq93
        obtain ⟨cq94, kq94, q94a, q94b, q94c⟩ := isOf hZ e93 Q90_0
        obtain ⟨_, _, ⟨T94, L94, k94, n94⟩, -, X94, ⟨Lc94, hQ94, l94, y94, z94⟩, st94⟩ := X93.virtualBack hx (y := own_y29) (z := own_y29) hown (mvT hZ (own_w hw 227 rfl)) (mvT hZ (own_w hw 228 rfl)) (notFace_of_selects (args := #[]) (mvT hZ (own_w hw 230 rfl))) (mvT hZ (own_w hw 230 rfl)) (mvT hZ (own_w hw 229 rfl)) (by decide) (backOf (W := 0) (rmA41 l Z a0 hw [] bm rk b1  cs wf wK0 wK1 wK2 wK3 wL T90.heap n0 o92 G0 Q90_0 Q90_5 Q90_1 Q90_6 Q90_4 Q90_3 Q90_2  ) hZ (own_w hw 231 rfl) (own_w hw 155 rfl) (by decide) (by decide)) q94a q94c (g := (mkF m 149 #[.val (.int p1), .val (.long q2), .second, .val (.int p3), .val (.int p4), .val (.ref b1), .val (.ref b9), .val .null, .val (.ref b1), .val (.ref rk), .val (.ref b62), .val (.ref b62), .val (.ref bm)] [(.ref bm)])) rfl (by rw [hml]; rfl) (Steps.refl _) (argsL := []) (rest := []) (lenOf own_pd24 rfl) rfl (by show 2 * 0 + _ ≤ _; exact Nat.le_of_eq rfl) (hb hby at_149) (fun _ _ => ⟨rfl, e93, (by decide : 10 + 0 ≤ _), (by decide : 92 + 0 ≤ _)⟩)
        dsimp only [Pt.U, Pt.locs, Pt.cells, Pt.slots] at X94 l94 y94 z94 st94 hQ94
        subst l94 y94 z94
        obtain ⟨rfl, Nq94, e94⟩ := hQ94
        have N94 := Fr.app N93 Nq94
        obtain ⟨cq95, kq95, q95a, q95b, q95c⟩ := isOf hZ e94 Q90_0
        obtain ⟨_, _, ⟨T95, L95, k95, n95⟩, -, X95, ⟨Lc95, hQ95, l95, y95, z95⟩, st95⟩ := X94.virtualBack hx (y := own_y30) (z := own_y30) hown (mvT hZ (own_w hw 232 rfl)) (mvT hZ (own_w hw 233 rfl)) (notFace_of_selects (args := #[]) (mvT hZ (own_w hw 235 rfl))) (mvT hZ (own_w hw 235 rfl)) (mvT hZ (own_w hw 234 rfl)) (by decide) (backOf (W := 0) (rmA42 l Z a0 hw [] bm rk b1  cs wf wK0 wK1 wK2 wK3 wL T90.heap n0 o92 G0 Q90_0 Q90_5 Q90_1 Q90_6 Q90_4 Q90_3 Q90_2  ) hZ (own_w hw 236 rfl) (own_w hw 155 rfl) (by decide) (by decide)) q95a q95c (g := (mkF m 159 #[.val (.int p1), .val (.long q2), .second, .val (.int p3), .val (.int p4), .val (.ref b1), .val (.ref b9), .val .null, .val (.ref b1), .val (.ref rk), .val (.ref b62), .val (.ref b62), .val (.ref bm)] [(.ref bm)])) rfl (by rw [hml]; rfl) (Steps.refl _) (argsL := []) (rest := []) (lenOf own_pd25 rfl) rfl (by show 2 * 0 + _ ≤ _; exact Nat.le_of_eq rfl) (hb hby at_159) (fun _ _ => ⟨rfl, e94, (by decide : 10 + 0 ≤ _), (by decide : 92 + 0 ≤ _)⟩)
        dsimp only [Pt.U, Pt.locs, Pt.cells, Pt.slots] at X95 l95 y95 z95 st95 hQ95
        subst l95 y95 z95
        obtain ⟨rfl, Nq95, e95⟩ := hQ95
        have N95 := Fr.app N94 Nq95
        obtain ⟨cq96, kq96, q96a, q96b, q96c⟩ := isOf hZ e95 Q90_0
        obtain ⟨_, _, ⟨T96, L96, k96, n96⟩, -, X96, ⟨Lc96, hQ96, l96, y96, z96⟩, st96⟩ := X95.virtualBack hx (y := own_y31) (z := own_y31) hown (mvT hZ (own_w hw 237 rfl)) (mvT hZ (own_w hw 238 rfl)) (notFace_of_selects (args := #[]) (mvT hZ (own_w hw 240 rfl))) (mvT hZ (own_w hw 240 rfl)) (mvT hZ (own_w hw 239 rfl)) (by decide) (backOf (W := 0) (rmA43 l Z a0 hw [] bm rk b1  cs wf wK0 wK1 wK2 wK3 wL T90.heap n0 o92 G0 Q90_0 Q90_5 Q90_1 Q90_6 Q90_4 Q90_3 Q90_2  ) hZ (own_w hw 241 rfl) (own_w hw 155 rfl) (by decide) (by decide)) q96a q96c (g := (mkF m 169 #[.val (.int p1), .val (.long q2), .second, .val (.int p3), .val (.int p4), .val (.ref b1), .val (.ref b9), .val .null, .val (.ref b1), .val (.ref rk), .val (.ref b62), .val (.ref b62), .val (.ref bm)] [(.ref bm)])) rfl (by rw [hml]; rfl) (Steps.refl _) (argsL := []) (rest := []) (lenOf own_pd23 rfl) rfl (by show 2 * 0 + _ ≤ _; exact Nat.le_of_eq rfl) (hb hby at_169) (fun _ _ => ⟨rfl, e95, (by decide : 10 + 0 ≤ _), (by decide : 92 + 0 ≤ _)⟩)
        dsimp only [Pt.U, Pt.locs, Pt.cells, Pt.slots] at X96 l96 y96 z96 st96 hQ96
        subst l96 y96 z96
        obtain ⟨rfl, Nq96, e96⟩ := hQ96
        have N96 := Fr.app N95 Nq96
        obtain ⟨LL97, XL97, NL97⟩ : ∃ LL : List Loc, Stand p l e room_1 (s.setVm T14.vm) m #[(.int p1), (.long q2), (.int p3), (.int p4)] below meth c T96 LL 10 92 ∧ Fr n0 LL := ⟨_, X96, N96⟩
        obtain ⟨cq98, kq98, q98a, q98b, q98c⟩ := isOf hZ e96 Q90_0
        obtain ⟨_, _, ⟨T98, L98, k98, n98⟩, -, X98, ⟨Lc98, hQ98, l98, y98, z98⟩, st98⟩ := XL97.virtualBack hx (y := own_y32) (z := own_y32) hown (mvT hZ (own_w hw 242 rfl)) (mvT hZ (own_w hw 243 rfl)) (notFace_of_selects (args := #[]) (mvT hZ (own_w hw 245 rfl))) (mvT hZ (own_w hw 245 rfl)) (mvT hZ (own_w hw 244 rfl)) (by decide) (backOf (W := 0) (rmA44 l Z a0 hw [] bm rk b1  cs wf wK0 wK1 wK2 wK3 wL T90.heap n0 o92 G0 Q90_0 Q90_5 Q90_1 Q90_6 Q90_4 Q90_3 Q90_2  ) hZ (own_w hw 246 rfl) (own_w hw 155 rfl) (by decide) (by decide)) q98a q98c (g := (mkF m 177 #[.val (.int p1), .val (.long q2), .second, .val (.int p3), .val (.int p4), .val (.ref b1), .val (.ref b9), .val .null, .val (.ref b1), .val (.ref rk), .val (.ref b62), .val (.ref b62), .val (.ref bm)] [(.ref bm)])) rfl (by rw [hml]; rfl) (Steps.refl _) (argsL := []) (rest := []) (lenOf own_pd24 rfl) rfl (by show 2 * 0 + _ ≤ _; exact Nat.le_of_eq rfl) (hb hby at_177) (fun _ _ => ⟨rfl, e96, (by decide : 10 + 0 ≤ _), (by decide : 92 + 0 ≤ _)⟩)
        dsimp only [Pt.U, Pt.locs, Pt.cells, Pt.slots] at X98 l98 y98 z98 st98 hQ98
        subst l98 y98 z98
        obtain ⟨rfl, Nq98, e98⟩ := hQ98
        have N98 := Fr.app NL97 Nq98
        obtain ⟨cq99, kq99, q99a, q99b, q99c⟩ := isOf hZ e98 Q90_0
        obtain ⟨_, _, ⟨T99, L99, k99, n99⟩, -, X99, ⟨Lc99, hQ99, l99, y99, z99⟩, st99⟩ := X98.virtualBack hx (y := own_y33) (z := own_y33) hown (mvT hZ (own_w hw 247 rfl)) (mvT hZ (own_w hw 248 rfl)) (notFace_of_selects (args := #[]) (mvT hZ (own_w hw 250 rfl))) (mvT hZ (own_w hw 250 rfl)) (mvT hZ (own_w hw 249 rfl)) (by decide) (backOf (W := 0) (rmA45 l Z a0 hw [] bm rk b1  cs wf wK0 wK1 wK2 wK3 wL T90.heap n0 o92 G0 Q90_0 Q90_5 Q90_1 Q90_6 Q90_4 Q90_3 Q90_2  ) hZ (own_w hw 251 rfl) (own_w hw 155 rfl) (by decide) (by decide)) q99a q99c (g := (mkF m 185 #[.val (.int p1), .val (.long q2), .second, .val (.int p3), .val (.int p4), .val (.ref b1), .val (.ref b9), .val .null, .val (.ref b1), .val (.ref rk), .val (.ref b62), .val (.ref b62), .val (.ref bm)] [(.ref bm)])) rfl (by rw [hml]; rfl) (Steps.refl _) (argsL := []) (rest := []) (lenOf own_pd24 rfl) rfl (by show 2 * 0 + _ ≤ _; exact Nat.le_of_eq rfl) (hb hby at_185) (fun _ _ => ⟨rfl, e98, (by decide : 10 + 0 ≤ _), (by decide : 92 + 0 ≤ _)⟩)
        dsimp only [Pt.U, Pt.locs, Pt.cells, Pt.slots] at X99 l99 y99 z99 st99 hQ99
        subst l99 y99 z99
        obtain ⟨rfl, Nq99, e99⟩ := hQ99
        have N99 := Fr.app N98 Nq99
        have g100 : ∀ t, Steps p.tables e below (T99.setTop (mkF m 196 #[.val (.int p1), .val (.long q2), .second, .val (.int p3), .val (.int p4), .val (.ref b1), .val (.ref b9), .val .null, .val (.ref b1), .val (.ref rk), .val (.ref b62), .val (.ref b62), .val (.ref bm)] [(.int (1 : Int32))])) t → Steps p.tables e below (s₁.setTop (entryFrame m #[(.int p1), (.long q2), (.int p3), (.int p4)] maxLocals)) t := by
          intro t k
          refine g70 t ?_
          show Steps p.tables e below (T68.setTop (mkF m 87 #[.val (.int p1), .val (.long q2), .second, .val (.int p3), .val (.int p4), .val (.ref b1), .val (.ref b9), .val .null, .val (.ref b1), .val (.ref rk), .val (.ref b62), .unset, .unset] [(.int (p4 &&& (4 : Int32)))])) _
          refine XS.ifNo X68.here hx rfl (hb hby at_87) rfl ((if0 _ _).trans (feq hc69).1) ?_
          refine XS.aload X68.here hx rfl (hb hby at_90) rfl rfl ?_
          refine XS.aload X68.here hx rfl (hb hby at_92) rfl rfl ?_
          refine XS.aload X68.here hx rfl (hb hby at_94) rfl rfl ?_
          refine st86.trans ?_
          refine XS.astore X86.here hx rfl (hb hby at_99) rfl rfl (l' := #[.val (.int p1), .val (.long q2), .second, .val (.int p3), .val (.int p4), .val (.ref b1), .val (.ref b9), .val .null, .val (.ref b1), .val (.ref rk), .val (.ref b62), .val (.ref b62), .unset]) rfl ?_
          refine XS.aload X86.here hx rfl (hb hby at_101) rfl rfl ?_
          refine XS.aload X86.here hx rfl (hb hby at_103) rfl rfl ?_
          show Steps p.tables e below (T86.setTop (mkF m 105 #[.val (.int p1), .val (.long q2), .second, .val (.int p3), .val (.int p4), .val (.ref b1), .val (.ref b9), .val .null, .val (.ref b1), .val (.ref rk), .val (.ref b62), .val (.ref b62), .unset] [(.ref b62), (.ref b62)])) _
          refine Jvm.RoadKit.acmp (g := (mkF m 105 #[.val (.int p1), .val (.long q2), .second, .val (.int p3), .val (.int p4), .val (.ref b1), .val (.ref b9), .val .null, .val (.ref b1), .val (.ref rk), .val (.ref b62), .val (.ref b62), .unset] [(.ref b62), (.ref b62)])) X86 hx rfl rfl rfl (pc0 := 105) (pc' := 110) (same := true) rfl (hb hby at_105) rfl (decide_eq_true rfl) (by decide) (by decide) ?_
          refine XS.aload X86.here hx rfl (hb hby at_110) rfl rfl ?_
          refine XS.aload X86.here hx rfl (hb hby at_112) rfl rfl ?_
          refine XS.aload X86.here hx rfl (hb hby at_114) rfl rfl ?_
          refine st88.trans ?_
          refine XS.astore X88.here hx rfl (hb hby at_119) rfl rfl (l' := #[.val (.int p1), .val (.long q2), .second, .val (.int p3), .val (.int p4), .val (.ref b1), .val (.ref b9), .val .null, .val (.ref b1), .val (.ref rk), .val (.ref b62), .val (.ref b62), .unset]) rfl ?_
          refine XS.aload X88.here hx rfl (hb hby at_121) rfl rfl ?_
          refine XS.aload X88.here hx rfl (hb hby at_123) rfl rfl ?_
          show Steps p.tables e below (T88.setTop (mkF m 125 #[.val (.int p1), .val (.long q2), .second, .val (.int p3), .val (.int p4), .val (.ref b1), .val (.ref b9), .val .null, .val (.ref b1), .val (.ref rk), .val (.ref b62), .val (.ref b62), .unset] [(.ref b62), (.ref b62)])) _
          refine Jvm.RoadKit.acmp (g := (mkF m 125 #[.val (.int p1), .val (.long q2), .second, .val (.int p3), .val (.int p4), .val (.ref b1), .val (.ref b9), .val .null, .val (.ref b1), .val (.ref rk), .val (.ref b62), .val (.ref b62), .unset] [(.ref b62), (.ref b62)])) X88 hx rfl rfl rfl (pc0 := 125) (pc' := 130) (same := true) rfl (hb hby at_125) rfl (decide_eq_true rfl) (by decide) (by decide) ?_
          refine XS.aload X88.here hx rfl (hb hby at_130) rfl rfl ?_
          refine st90.trans ?_
          refine XS.astore X90.here hx rfl (hb hby at_135) rfl rfl (l' := #[.val (.int p1), .val (.long q2), .second, .val (.int p3), .val (.int p4), .val (.ref b1), .val (.ref b9), .val .null, .val (.ref b1), .val (.ref rk), .val (.ref b62), .val (.ref b62), .val (.ref bm)]) rfl ?_
          refine XS.aload X90.here hx rfl (hb hby at_137) rfl rfl ?_
          refine st93.trans ?_
          refine XS.aload X93.here hx rfl (hb hby at_142) rfl rfl ?_
          refine Jvm.RoadKit.acmp (g := (mkF m 144 #[.val (.int p1), .val (.long q2), .second, .val (.int p3), .val (.int p4), .val (.ref b1), .val (.ref b9), .val .null, .val (.ref b1), .val (.ref rk), .val (.ref b62), .val (.ref b62), .val (.ref bm)] [.null, .null])) X93 hx rfl rfl rfl (pc0 := 144) (pc' := 147) (same := true) rfl (hb hby at_144) rfl (decide_eq_true rfl) (by decide) (by decide) ?_
          show Steps p.tables e below (T93.setTop (mkF m 147 #[.val (.int p1), .val (.long q2), .second, .val (.int p3), .val (.int p4), .val (.ref b1), .val (.ref b9), .val .null, .val (.ref b1), .val (.ref rk), .val (.ref b62), .val (.ref b62), .val (.ref bm)] [])) _
          refine XS.aload X93.here hx rfl (hb hby at_147) rfl rfl ?_
          refine st94.trans ?_
          refine XS.aload X94.here hx rfl (hb hby at_152) rfl rfl ?_
          refine Jvm.RoadKit.acmp (g := (mkF m 154 #[.val (.int p1), .val (.long q2), .second, .val (.int p3), .val (.int p4), .val (.ref b1), .val (.ref b9), .val .null, .val (.ref b1), .val (.ref rk), .val (.ref b62), .val (.ref b62), .val (.ref bm)] [(.ref b1), (.ref b1)])) X94 hx rfl rfl rfl (pc0 := 154) (pc' := 157) (same := true) rfl (hb hby at_154) rfl (decide_eq_true rfl) (by decide) (by decide) ?_
          refine XS.aload X94.here hx rfl (hb hby at_157) rfl rfl ?_
          refine st95.trans ?_
          refine XS.aload X95.here hx rfl (hb hby at_162) rfl rfl ?_
          refine Jvm.RoadKit.acmp (g := (mkF m 164 #[.val (.int p1), .val (.long q2), .second, .val (.int p3), .val (.int p4), .val (.ref b1), .val (.ref b9), .val .null, .val (.ref b1), .val (.ref rk), .val (.ref b62), .val (.ref b62), .val (.ref bm)] [(.ref rk), (.ref rk)])) X95 hx rfl rfl rfl (pc0 := 164) (pc' := 167) (same := true) rfl (hb hby at_164) rfl (decide_eq_true rfl) (by decide) (by decide) ?_
          show Steps p.tables e below (T95.setTop (mkF m 167 #[.val (.int p1), .val (.long q2), .second, .val (.int p3), .val (.int p4), .val (.ref b1), .val (.ref b9), .val .null, .val (.ref b1), .val (.ref rk), .val (.ref b62), .val (.ref b62), .val (.ref bm)] [])) _
          refine XS.aload X95.here hx rfl (hb hby at_167) rfl rfl ?_
          refine st96.trans ?_
          refine XS.ifnonnullNo X96.here hx rfl (hb hby at_172) rfl ?_
          refine XS.aload X96.here hx rfl (hb hby at_175) rfl rfl ?_
          refine st98.trans ?_
          refine XS.ifnonnullNo X98.here hx rfl (hb hby at_180) rfl ?_
          refine XS.aload X98.here hx rfl (hb hby at_183) rfl rfl ?_
          refine st99.trans ?_
          show Steps p.tables e below (T99.setTop (mkF m 188 #[.val (.int p1), .val (.long q2), .second, .val (.int p3), .val (.int p4), .val (.ref b1), .val (.ref b9), .val .null, .val (.ref b1), .val (.ref rk), .val (.ref b62), .val (.ref b62), .val (.ref bm)] [.null])) _
          refine XS.ifnonnullNo X99.here hx rfl (hb hby at_188) rfl ?_
          refine XS.iconst X99.here hx rfl (hb hby at_191) ?_
          refine XS.goto X99.here hx rfl (pc0 := 192) (pc' := 196) rfl (hb hby at_192) (by decide) (by decide) ?_
          exact k
        obtain ⟨fs, hrt, hrun, hended, hRW⟩ := X99.leaveW hS (by rw [e99]; exact hk) (v := some (.int (1 : Int32))) (fun h => by rw [Bd.returns] at h; cases h)
        refine ⟨_, _, g100 _ ?_, hrun, hended, _, _, rfl, ?_, ?_, hRW.1, hRW.2.1, hRW.2.2.1, hRW.2.2.2.mono (by decide) (by decide)⟩
        · show Steps p.tables e below (T99.setTop (mkF m 196 #[.val (.int p1), .val (.long q2), .second, .val (.int p3), .val (.int p4), .val (.ref b1), .val (.ref b9), .val .null, .val (.ref b1), .val (.ref rk), .val (.ref b62), .val (.ref b62), .val (.ref bm)] [(.int (1 : Int32))])) _
          exact retN X99 hx (t := .boolean) Bd.returns (by simp) (hb hby at_196) hrt
        · show own_Q_rm0 Z p1 q2 p3 p4 cs wf wK0 wK1 wK2 wK3 wL h0 n0 _ T99.heap _
          rw [e99]
          exact ⟨rfl, N99⟩
        · rw [hh]
          show CHr Z own_EL s.vm h0 T99.vm T99.heap
          rw [e99]
          exact hC.trans (CHv.at X99 hZ (own_EW hw) hC.1)
  · have g102 : ∀ t, Steps p.tables e below (T14.setTop (mkF m 55 #[.val (.int p1), .val (.long q2), .second, .val (.int p3), .val (.int p4), .val (.ref b1), .val (.ref b9), .val (.ref b9), .unset, .unset, .unset, .unset, .unset] [(.int (p4 &&& (2 : Int32)))])) t → Steps p.tables e below (s₁.setTop (entryFrame m #[(.int p1), (.long q2), (.int p3), (.int p4)] maxLocals)) t := by
      intro t k
      refine g16 t ?_
      show Steps p.tables e below (T14.setTop (mkF m 40 #[.val (.int p1), .val (.long q2), .second, .val (.int p3), .val (.int p4), .val (.ref b1), .val (.ref b9), .unset, .unset, .unset, .unset, .unset, .unset] [(.int (p4 &&& (1 : Int32)))])) _
      refine XS.ifNo X14.here hx rfl (hb hby at_40) rfl ((if0 _ _).trans (feq hc15).1) ?_
      refine XS.aload X14.here hx rfl (hb hby at_43) rfl rfl ?_
      refine XS.goto X14.here hx rfl (pc0 := 45) (pc' := 49) rfl (hb hby at_45) (by decide) (by decide) ?_
      refine XS.astore X14.here hx rfl (hb hby at_49) rfl rfl (l' := #[.val (.int p1), .val (.long q2), .second, .val (.int p3), .val (.int p4), .val (.ref b1), .val (.ref b9), .val (.ref b9), .unset, .unset, .unset, .unset, .unset]) rfl ?_
      refine XS.iload X14.here hx rfl (hb hby at_51) rfl ?_
      refine XS.iconst X14.here hx rfl (hb hby at_53) ?_
      show Steps p.tables e below (T14.setTop (mkF m 54 #[.val (.int p1), .val (.long q2), .second, .val (.int p3), .val (.int p4), .val (.ref b1), .val (.ref b9), .val (.ref b9), .unset, .unset, .unset, .unset, .unset] [(.int (2 : Int32)), (.int p4)])) _
      refine XS.iand X14.here hx rfl (hb hby at_54) rfl ?_
      exact k
    by_cases hc101 : (p4 &&& (2 : Int32)) = (0 : Int32)
    · have o103 : Old Z n0 T14.heap := (Old.keep o13 K14 (allS gz_b9 all0))
      obtain ⟨rk, hrk⟩ : ∃ z : Addr, (if (p1 &&& (3 : Int32)) = (0 : Int32) then wK0 else if (p1 &&& (3 : Int32)) = (1 : Int32) then wK1 else if (p1 &&& (3 : Int32)) = (2 : Int32) then wK2 else wK3) = z := ⟨_, rfl⟩
      obtain ⟨_, _, ⟨T104, L104, k104, n104⟩, -, X104, ⟨Lc104, hQ104, l104, y104, z104⟩, st104⟩ := Jvm.LawKit.callS X14 hx (y := own_y20) hown (mvT hZ (own_w hw 115 rfl)) (mvT hZ (own_w hw 116 rfl)) (mvT hZ (own_w hw 117 rfl)) (mvT hZ (own_w hw 118 rfl)) (by decide) (backOf (W := 0) (rmA21 l Z a0 hw [] (p1) rk cs wf wK0 wK1 wK2 wK3 wL T14.heap n0 o103 G0   hrk) hZ (own_w hw 118 rfl) (own_w hw 117 rfl) (by decide) (by decide)) (g := (mkF m 67 #[.val (.int p1), .val (.long q2), .second, .val (.int p3), .val (.int p4), .val (.ref b1), .val (.ref b9), .val (.ref b9), .val .null, .unset, .unset, .unset, .unset] [(.int p1)])) rfl (by rw [hml]; rfl) (argsL := [(.int p1)]) (rest := []) (lenOf own_pd16 rfl) rfl (by show 2 * 0 + _ ≤ _; exact Nat.le_of_eq rfl) (hb hby at_67) (fun _ _ => ⟨rfl, rfl, (by decide : 8 + 0 ≤ _), (by decide : 68 + 0 ≤ _)⟩)
      dsimp only [Pt.U, Pt.locs, Pt.cells, Pt.slots] at X104 l104 y104 z104 st104 hQ104
      subst l104 y104 z104
      obtain ⟨rfl, Nq104, e104⟩ := hQ104
      have N104 := Fr.app N14 Nq104
      obtain ⟨T105, h105, X105, e105, E105, A105, D105, -, st105⟩ := newO X104 hx hZ hown (own_w hw 122 rfl) (own_w hw 123 rfl) (own_w hw 124 rfl) e104 (g := (mkF m 72 #[.val (.int p1), .val (.long q2), .second, .val (.int p3), .val (.int p4), .val (.ref b1), .val (.ref b9), .val (.ref b9), .val .null, .val (.ref rk), .unset, .unset, .unset] [])) rfl (hb hby at_72) (by decide) (by decide)
      obtain ⟨b105, q_b105⟩ : ∃ z, z = T14.heap.size := ⟨_, rfl⟩
      rw [← q_b105] at A105 D105 st105
      have sz_b105 : h0.size ≤ b105 := Nat.le_trans (Nat.le_trans (Nat.le_trans (Nat.le_trans (Nat.le_trans E1.1 E2.1) K8.1) E9.1) K14.1) (Nat.le_of_eq q_b105.symm)
      have gz_b105 : n0 ≤ b105 := Nat.le_trans Z0 sz_b105
      have f106 := ((f10.ext E9).keep K14)
      have ne_a2_b105 : a2 ≠ b105 := Nat.ne_of_lt (Nat.lt_of_lt_of_le f106.lt (Nat.le_of_eq q_b105.symm))
      have f107 := ((Q8_0.ext E9).keep K14)
      have ne_b1_b105 : b1 ≠ b105 := Nat.ne_of_lt (Nat.lt_of_lt_of_le f107.lt (Nat.le_of_eq q_b105.symm))
      have f108 := ((f11.ext E9).keep K14 (ninS ne_b2_b9 nin0))
      have ne_b2_b105 : b2 ≠ b105 := Nat.ne_of_lt (Nat.lt_of_lt_of_le f108.lt (Nat.le_of_eq q_b105.symm))
      have ne_b9_b105 : b9 ≠ b105 := Nat.ne_of_lt (Nat.lt_of_lt_of_le Q14_0.lt (Nat.le_of_eq q_b105.symm))
      have hC := hC.trans (CHr.ext E105 hC.1)
      have hk := Nat.le_trans hk E105.1
      have F105_members : Fld Z h105 b105 "com/example/assemble_quorum/assemblequorum/io/Message$Builder" "members" "Ljava/util/List;" .null := D105 (Or.inl (own_w hw 136 rfl)) (ty := (.object "java/util/List")) (by decide)
      have F105_kind : Fld Z h105 b105 "com/example/assemble_quorum/assemblequorum/io/Message$Builder" "kind" "Lcom/example/assemble_quorum/assemblequorum/io/Message$Kind;" .null := D105 (Or.inr (own_w hw 138 rfl)) (ty := (.object "com/example/assemble_quorum/assemblequorum/io/Message$Kind")) (by decide)
      have F105_priorNumber : Fld Z h105 b105 "com/example/assemble_quorum/assemblequorum/io/Message$Builder" "priorNumber" "Lcom/example/assemble_quorum/assemblequorum/model/ProposalNumber;" .null := D105 (Or.inl (own_w hw 145 rfl)) (ty := (.object "com/example/assemble_quorum/assemblequorum/model/ProposalNumber")) (by decide)
      have F105_priorCandidate : Fld Z h105 b105 "com/example/assemble_quorum/assemblequorum/io/Message$Builder" "priorCandidate" "Lcom/example/assemble_quorum/assemblequorum/model/MemberAddress;" .null := D105 (Or.inl (own_w hw 147 rfl)) (ty := (.object "com/example/assemble_quorum/assemblequorum/model/MemberAddress")) (by decide)
      have F105_sender : Fld Z h105 b105 "com/example/assemble_quorum/assemblequorum/io/Message$Builder" "sender" "Lcom/example/assemble_quorum/assemblequorum/model/MemberAddress;" .null := D105 (Or.inl (own_w hw 164 rfl)) (ty := (.object "com/example/assemble_quorum/assemblequorum/model/MemberAddress")) (by decide)
      have F105_leader : Fld Z h105 b105 "com/example/assemble_quorum/assemblequorum/io/Message$Builder" "leader" "Lcom/example/assemble_quorum/assemblequorum/model/MemberAddress;" .null := D105 (Or.inl (own_w hw 168 rfl)) (ty := (.object "com/example/assemble_quorum/assemblequorum/model/MemberAddress")) (by decide)
      have F105_version : Fld Z h105 b105 "com/example/assemble_quorum/assemblequorum/io/Message$Builder" "version" "J" (.long (0 : Int64)) := D105 (Or.inl (own_w hw 172 rfl)) (ty := .long) (by decide)
      have F105_number : Fld Z h105 b105 "com/example/assemble_quorum/assemblequorum/io/Message$Builder" "number" "Lcom/example/assemble_quorum/assemblequorum/model/ProposalNumber;" .null := D105 (Or.inl (own_w hw 176 rfl)) (ty := (.object "com/example/assemble_quorum/assemblequorum/model/ProposalNumber")) (by decide)
      have F105_candidate : Fld Z h105 b105 "com/example/assemble_quorum/assemblequorum/io/Message$Builder" "candidate" "Lcom/example/assemble_quorum/assemblequorum/model/MemberAddress;" .null := D105 (Or.inl (own_w hw 180 rfl)) (ty := (.object "com/example/assemble_quorum/assemblequorum/model/MemberAddress")) (by decide)
      have F105_granted : Fld Z h105 b105 "com/example/assemble_quorum/assemblequorum/io/Message$Builder" "granted" "Z" (.int (0 : Int32)) := D105 (Or.inl (own_w hw 184 rfl)) (ty := .boolean) (by decide)
      have F105_topic : Fld Z h105 b105 "com/example/assemble_quorum/assemblequorum/io/Message$Builder" "topic" "Ljava/lang/String;" .null := D105 (Or.inl (own_w hw 215 rfl)) (ty := (.object "java/lang/String")) (by decide)
      have F105_payload : Fld Z h105 b105 "com/example/assemble_quorum/assemblequorum/io/Message$Builder" "payload" "[B" .null := D105 (Or.inl (own_w hw 219 rfl)) (ty := (.array .byte)) (by decide)
      obtain ⟨LL109, XL109, NL109⟩ : ∃ LL : List Loc, Stand p l e room_1 (s.setVm T14.vm) m #[(.int p1), (.long q2), (.int p3), (.int p4)] below meth c T105 LL 9 80 ∧ Fr n0 LL := ⟨_, X105, N104⟩
      have o110 : Old Z n0 h105 := (Old.ext o103 E105)
      obtain ⟨_, _, ⟨T111, L111, k111, n111⟩, -, X111, ⟨Lc111, hQ111, l111, y111, z111⟩, st111⟩ := XL109.specialBack hx (y := own_y21) rfl hown (mvT hZ (own_w hw 125 rfl)) (mvT hZ (own_w hw 126 rfl)) (mvT hZ (own_w hw 127 rfl)) (by decide) (backOf (W := 1) (rmA22 l Z a0 hw [] b105 rk  cs wf wK0 wK1 wK2 wK3 wL h105 n0 o110 G0 A105 F105_candidate F105_granted F105_kind F105_leader F105_members F105_number F105_payload F105_priorCandidate F105_priorNumber F105_sender F105_topic F105_version gz_b105 ) hZ (own_w hw 127 rfl) (own_w hw 124 rfl) (by decide) (by decide)) (g := (mkF m 78 #[.val (.int p1), .val (.long q2), .second, .val (.int p3), .val (.int p4), .val (.ref b1), .val (.ref b9), .val (.ref b9), .val .null, .val (.ref rk), .unset, .unset, .unset] [(.ref rk), (.ref b105), (.ref b105)])) rfl (by rw [hml]; rfl) (Steps.refl _) (a := b105) (argsL := [(.ref rk)]) (rest := [(.ref b105)]) (lenOf own_pd18 rfl) rfl (by show 2 * 0 + _ ≤ _; exact Nat.le_of_eq rfl) (hb hby at_78) (fun _ _ => ⟨rfl, e105, (by decide : 9 + 0 ≤ _), (by decide : 80 + 0 ≤ _)⟩)
      dsimp only [Pt.U, Pt.locs, Pt.cells, Pt.slots] at X111 l111 y111 z111 st111 hQ111
      subst l111 y111 z111
      obtain ⟨rfl, Nq111, K111, Q111_0, Q111_1, Q111_2, Q111_3, Q111_4, Q111_5, Q111_6, Q111_7, Q111_8, Q111_9, Q111_10, Q111_11, Q111_12⟩ := hQ111
      have hC := hC.trans (CHr.keep K111 (sfS (Safe.exa hZ.alike A105 (by decide) (by decide)) sf0) hC.1)
      have hk := Nat.le_trans hk K111.1
      have N111 := Fr.app NL109 Nq111
      have g113 : ∀ t, Steps p.tables e below (T111.setTop (mkF m 87 #[.val (.int p1), .val (.long q2), .second, .val (.int p3), .val (.int p4), .val (.ref b1), .val (.ref b9), .val (.ref b9), .val .null, .val (.ref rk), .val (.ref b105), .unset, .unset] [(.int (p4 &&& (4 : Int32)))])) t → Steps p.tables e below (s₁.setTop (entryFrame m #[(.int p1), (.long q2), (.int p3), (.int p4)] maxLocals)) t := by
        intro t k
        refine g102 t ?_
        show Steps p.tables e below (T14.setTop (mkF m 55 #[.val (.int p1), .val (.long q2), .second, .val (.int p3), .val (.int p4), .val (.ref b1), .val (.ref b9), .val (.ref b9), .unset, .unset, .unset, .unset, .unset] [(.int (p4 &&& (2 : Int32)))])) _
        refine XS.ifYes X14.here hx rfl (pc0 := 55) (pc' := 63) rfl (hb hby at_55) rfl ((if0 _ _).trans (teq hc101).1) (by decide) (by decide) ?_
        refine XS.aconstNull X14.here hx rfl (hb hby at_63) ?_
        refine XS.astore X14.here hx rfl (hb hby at_64) rfl rfl (l' := #[.val (.int p1), .val (.long q2), .second, .val (.int p3), .val (.int p4), .val (.ref b1), .val (.ref b9), .val (.ref b9), .val .null, .unset, .unset, .unset, .unset]) rfl ?_
        refine XS.iloadN X14.here hx rfl (hb hby at_66) rfl ?_
        refine st104 _ ?_
        refine XS.astore X104.here hx rfl (hb hby at_70) rfl rfl (l' := #[.val (.int p1), .val (.long q2), .second, .val (.int p3), .val (.int p4), .val (.ref b1), .val (.ref b9), .val (.ref b9), .val .null, .val (.ref rk), .unset, .unset, .unset]) rfl ?_
        refine st105 _ ?_
        refine XS.dup X105.here hx rfl (hb hby at_75) rfl rfl ?_
        show Steps p.tables e below (T105.setTop (mkF m 76 #[.val (.int p1), .val (.long q2), .second, .val (.int p3), .val (.int p4), .val (.ref b1), .val (.ref b9), .val (.ref b9), .val .null, .val (.ref rk), .unset, .unset, .unset] [(.ref b105), (.ref b105)])) _
        refine XS.aload X105.here hx rfl (hb hby at_76) rfl rfl ?_
        refine st111.trans ?_
        refine XS.astore X111.here hx rfl (hb hby at_81) rfl rfl (l' := #[.val (.int p1), .val (.long q2), .second, .val (.int p3), .val (.int p4), .val (.ref b1), .val (.ref b9), .val (.ref b9), .val .null, .val (.ref rk), .val (.ref b105), .unset, .unset]) rfl ?_
        refine XS.iload X111.here hx rfl (hb hby at_83) rfl ?_
        refine XS.iconst X111.here hx rfl (hb hby at_85) ?_
        show Steps p.tables e below (T111.setTop (mkF m 86 #[.val (.int p1), .val (.long q2), .second, .val (.int p3), .val (.int p4), .val (.ref b1), .val (.ref b9), .val (.ref b9), .val .null, .val (.ref rk), .val (.ref b105), .unset, .unset] [(.int (4 : Int32)), (.int p4)])) _
        refine XS.iand X111.here hx rfl (hb hby at_86) rfl ?_
        exact k
      by_cases hc112 : (p4 &&& (4 : Int32)) = (0 : Int32)
      · have o114 : Old Z n0 T111.heap := (Old.keep o110 K111 (allS gz_b105 all0))
        obtain ⟨cq115, kq115, q115a, q115b, q115c⟩ := isOf hZ rfl Q111_0
        obtain ⟨_, _, ⟨T115, L115, k115, n115⟩, -, X115, ⟨Lc115, hQ115, l115, y115, z115⟩, st115⟩ := X111.virtualBack hx (y := own_y23) (z := own_y23) hown (mvT hZ (own_w hw 139 rfl)) (mvT hZ (own_w hw 140 rfl)) (notFace_of_selects (args := #[]) (mvT hZ (own_w hw 142 rfl))) (mvT hZ (own_w hw 142 rfl)) (mvT hZ (own_w hw 141 rfl)) (by decide) (backOf (W := 0) (rmA47 l Z a0 hw [] b105 rk b9  cs wf wK0 wK1 wK2 wK3 wL T111.heap n0 o114 G0 Q111_0 Q111_9 Q111_10 Q111_2 Q111_6 Q111_1 Q111_8 Q111_12 Q111_4 Q111_3 Q111_5 Q111_11 Q111_7 gz_b105 ) hZ (own_w hw 143 rfl) (own_w hw 124 rfl) (by decide) (by decide)) q115a q115c (g := (mkF m 116 #[.val (.int p1), .val (.long q2), .second, .val (.int p3), .val (.int p4), .val (.ref b1), .val (.ref b9), .val (.ref b9), .val .null, .val (.ref rk), .val (.ref b105), .unset, .unset] [.null, (.ref b9), (.ref b105)])) rfl (by rw [hml]; rfl) (Steps.refl _) (argsL := [(.ref b9), .null]) (rest := []) (lenOf own_pd19 rfl) rfl (by show 2 * 0 + _ ≤ _; exact Nat.le_of_eq rfl) (hb hby at_116) (fun _ _ => ⟨rfl, rfl, (by decide : 9 + 0 ≤ _), (by decide : 80 + 0 ≤ _)⟩)
        dsimp only [Pt.U, Pt.locs, Pt.cells, Pt.slots] at X115 l115 y115 z115 st115 hQ115
        subst l115 y115 z115
        obtain ⟨rfl, Nq115, K115, Q115_0, Q115_1, Q115_2, Q115_3, Q115_4, Q115_5, Q115_6, Q115_7, Q115_8, Q115_9, Q115_10, Q115_11, Q115_12⟩ := hQ115
        have hC := hC.trans (CHr.keep K115 (sfS (Safe.exa hZ.alike Q111_0 (by decide) (by decide)) sf0) hC.1)
        have hk := Nat.le_trans hk K115.1
        have N115 := Fr.app N111 Nq115
        have o116 : Old Z n0 T115.heap := (Old.keep o114 K115 (allS gz_b105 all0))
        obtain ⟨cq117, kq117, q117a, q117b, q117c⟩ := isOf hZ rfl Q115_0
        obtain ⟨_, _, ⟨T117, L117, k117, n117⟩, -, X117, ⟨Lc117, hQ117, l117, y117, z117⟩, st117⟩ := X115.virtualBack hx (y := own_y24) (z := own_y24) hown (mvT hZ (own_w hw 148 rfl)) (mvT hZ (own_w hw 149 rfl)) (notFace_of_selects (args := #[]) (mvT hZ (own_w hw 151 rfl))) (mvT hZ (own_w hw 151 rfl)) (mvT hZ (own_w hw 150 rfl)) (by decide) (backOf (W := 0) (rmA48 l Z a0 hw [] b105 rk b9  cs wf wK0 wK1 wK2 wK3 wL T115.heap n0 o116 G0 Q115_0 Q115_9 Q115_10 Q115_2 Q115_6 Q115_1 Q115_8 Q115_12 Q115_4 Q115_3 Q115_5 Q115_11 Q115_7  ) hZ (own_w hw 152 rfl) (own_w hw 124 rfl) (by decide) (by decide)) q117a q117c (g := (mkF m 132 #[.val (.int p1), .val (.long q2), .second, .val (.int p3), .val (.int p4), .val (.ref b1), .val (.ref b9), .val (.ref b9), .val .null, .val (.ref rk), .val (.ref b105), .val (.ref b105), .unset] [(.ref b105)])) rfl (by rw [hml]; rfl) (Steps.refl _) (argsL := []) (rest := []) (lenOf own_pd22 rfl) rfl (by show 2 * 0 + _ ≤ _; exact Nat.le_of_eq rfl) (hb hby at_132) (fun _ _ => ⟨rfl, rfl, (by decide : 9 + 1 ≤ _), (by decide : 80 + 12 ≤ _)⟩)
        dsimp only [Pt.U, Pt.locs, Pt.cells, Pt.slots] at X117 l117 y117 z117 st117 hQ117
        subst l117 y117 z117
        obtain ⟨bm, rfl, Nq117, K117, hb117, Q117_0, Q117_1, Q117_2, Q117_3, Q117_4, Q117_5, Q117_6⟩ := hQ117
        have hC := hC.trans (CHr.keep K117 sf0 hC.1)
        have hk := Nat.le_trans hk K117.1
        have N117 := Fr.app N115 Nq117
        have sz_bm : h0.size ≤ bm := Nat.le_trans (Nat.le_trans (Nat.le_trans (Nat.le_trans (Nat.le_trans (Nat.le_trans (Nat.le_trans (Nat.le_trans E1.1 E2.1) K8.1) E9.1) K14.1) E105.1) K111.1) K115.1) hb117
        have gz_bm : n0 ≤ bm := Nat.le_trans Z0 sz_bm
        have ne_a2_bm : a2 ≠ bm := Nat.ne_of_lt (Nat.lt_of_lt_of_le (((f106.ext E105).keep K111).keep K115).lt hb117)
        have ne_b1_bm : b1 ≠ bm := Nat.ne_of_lt (Nat.lt_of_lt_of_le (((f107.ext E105).keep K111).keep K115).lt hb117)
        have ne_b105_bm : b105 ≠ bm := Nat.ne_of_lt (Nat.lt_of_lt_of_le Q115_0.lt hb117)
        have ne_b2_bm : b2 ≠ bm := Nat.ne_of_lt (Nat.lt_of_lt_of_le (((f108.ext E105).keep K111 (ninS ne_b2_b105 nin0)).keep K115 (ninS ne_b2_b105 nin0)).lt hb117)
        have ne_b9_bm : b9 ≠ bm := Nat.ne_of_lt (Nat.lt_of_lt_of_le (((Q14_0.ext E105).keep K111).keep K115).lt hb117)
        have o118 : Old Z n0 T117.heap := (Old.keep o116 K117 all0)
        obtain ⟨cq119, kq119, q119a, q119b, q119c⟩ := isOf hZ rfl Q117_0
        obtain ⟨_, _, ⟨T119, L119, k119, n119⟩, -, X119, ⟨Lc119, hQ119, l119, y119, z119⟩, st119⟩ := X117.virtualBack hx (y := own_y28) (z := own_y28) hown (mvT hZ (own_w hw 222 rfl)) (mvT hZ (own_w hw 223 rfl)) (notFace_of_selects (args := #[]) (mvT hZ (own_w hw 225 rfl))) (mvT hZ (own_w hw 225 rfl)) (mvT hZ (own_w hw 224 rfl)) (by decide) (backOf (W := 0) (rmA50 l Z a0 hw [] bm rk b9  cs wf wK0 wK1 wK2 wK3 wL T117.heap n0 o118 G0 Q117_0 Q117_5 Q117_1 Q117_6 Q117_4 Q117_3 Q117_2  ) hZ (own_w hw 226 rfl) (own_w hw 155 rfl) (by decide) (by decide)) q119a q119c (g := (mkF m 139 #[.val (.int p1), .val (.long q2), .second, .val (.int p3), .val (.int p4), .val (.ref b1), .val (.ref b9), .val (.ref b9), .val .null, .val (.ref rk), .val (.ref b105), .val (.ref b105), .val (.ref bm)] [(.ref bm)])) rfl (by rw [hml]; rfl) (Steps.refl _) (argsL := []) (rest := []) (lenOf own_pd23 rfl) rfl (by show 2 * 0 + _ ≤ _; exact Nat.le_of_eq rfl) (hb hby at_139) (fun _ _ => ⟨rfl, rfl, (by decide : 10 + 0 ≤ _), (by decide : 92 + 0 ≤ _)⟩)
        dsimp only [Pt.U, Pt.locs, Pt.cells, Pt.slots] at X119 l119 y119 z119 st119 hQ119
        subst l119 y119 z119
        obtain ⟨rfl, Nq119, e119⟩ := hQ119
        have N119 := Fr.app N117 Nq119
        obtain ⟨LL120, XL120, NL120⟩ : ∃ LL : List Loc, Stand p l e room_1 (s.setVm T14.vm) m #[(.int p1), (.long q2), (.int p3), (.int p4)] below meth c T119 LL 10 92 ∧ Fr n0 LL := ⟨_, X119, N119⟩
        obtain ⟨cq121, kq121, q121a, q121b, q121c⟩ := isOf hZ e119 Q117_0
        obtain ⟨_, _, ⟨T121, L121, k121, n121⟩, -, X121, ⟨Lc121, hQ121, l121, y121, z121⟩, st121⟩ := XL120.virtualBack hx (y := own_y29) (z := own_y29) hown (mvT hZ (own_w hw 227 rfl)) (mvT hZ (own_w hw 228 rfl)) (notFace_of_selects (args := #[]) (mvT hZ (own_w hw 230 rfl))) (mvT hZ (own_w hw 230 rfl)) (mvT hZ (own_w hw 229 rfl)) (by decide) (backOf (W := 0) (rmA51 l Z a0 hw [] bm rk b9  cs wf wK0 wK1 wK2 wK3 wL T117.heap n0 o118 G0 Q117_0 Q117_5 Q117_1 Q117_6 Q117_4 Q117_3 Q117_2  ) hZ (own_w hw 231 rfl) (own_w hw 155 rfl) (by decide) (by decide)) q121a q121c (g := (mkF m 149 #[.val (.int p1), .val (.long q2), .second, .val (.int p3), .val (.int p4), .val (.ref b1), .val (.ref b9), .val (.ref b9), .val .null, .val (.ref rk), .val (.ref b105), .val (.ref b105), .val (.ref bm)] [(.ref bm)])) rfl (by rw [hml]; rfl) (Steps.refl _) (argsL := []) (rest := []) (lenOf own_pd24 rfl) rfl (by show 2 * 0 + _ ≤ _; exact Nat.le_of_eq rfl) (hb hby at_149) (fun _ _ => ⟨rfl, e119, (by decide : 10 + 0 ≤ _), (by decide : 92 + 0 ≤ _)⟩)
        dsimp only [Pt.U, Pt.locs, Pt.cells, Pt.slots] at X121 l121 y121 z121 st121 hQ121
        subst l121 y121 z121
        obtain ⟨rfl, Nq121, e121⟩ := hQ121
        have N121 := Fr.app NL120 Nq121
        obtain ⟨cq122, kq122, q122a, q122b, q122c⟩ := isOf hZ e121 Q117_0
        obtain ⟨_, _, ⟨T122, L122, k122, n122⟩, -, X122, ⟨Lc122, hQ122, l122, y122, z122⟩, st122⟩ := X121.virtualBack hx (y := own_y30) (z := own_y30) hown (mvT hZ (own_w hw 232 rfl)) (mvT hZ (own_w hw 233 rfl)) (notFace_of_selects (args := #[]) (mvT hZ (own_w hw 235 rfl))) (mvT hZ (own_w hw 235 rfl)) (mvT hZ (own_w hw 234 rfl)) (by decide) (backOf (W := 0) (rmA52 l Z a0 hw [] bm rk b9  cs wf wK0 wK1 wK2 wK3 wL T117.heap n0 o118 G0 Q117_0 Q117_5 Q117_1 Q117_6 Q117_4 Q117_3 Q117_2  ) hZ (own_w hw 236 rfl) (own_w hw 155 rfl) (by decide) (by decide)) q122a q122c (g := (mkF m 159 #[.val (.int p1), .val (.long q2), .second, .val (.int p3), .val (.int p4), .val (.ref b1), .val (.ref b9), .val (.ref b9), .val .null, .val (.ref rk), .val (.ref b105), .val (.ref b105), .val (.ref bm)] [(.ref bm)])) rfl (by rw [hml]; rfl) (Steps.refl _) (argsL := []) (rest := []) (lenOf own_pd25 rfl) rfl (by show 2 * 0 + _ ≤ _; exact Nat.le_of_eq rfl) (hb hby at_159) (fun _ _ => ⟨rfl, e121, (by decide : 10 + 0 ≤ _), (by decide : 92 + 0 ≤ _)⟩)
        dsimp only [Pt.U, Pt.locs, Pt.cells, Pt.slots] at X122 l122 y122 z122 st122 hQ122
        subst l122 y122 z122
        obtain ⟨rfl, Nq122, e122⟩ := hQ122
        have N122 := Fr.app N121 Nq122
        obtain ⟨cq123, kq123, q123a, q123b, q123c⟩ := isOf hZ e122 Q117_0
        obtain ⟨_, _, ⟨T123, L123, k123, n123⟩, -, X123, ⟨Lc123, hQ123, l123, y123, z123⟩, st123⟩ := X122.virtualBack hx (y := own_y31) (z := own_y31) hown (mvT hZ (own_w hw 237 rfl)) (mvT hZ (own_w hw 238 rfl)) (notFace_of_selects (args := #[]) (mvT hZ (own_w hw 240 rfl))) (mvT hZ (own_w hw 240 rfl)) (mvT hZ (own_w hw 239 rfl)) (by decide) (backOf (W := 0) (rmA53 l Z a0 hw [] bm rk b9  cs wf wK0 wK1 wK2 wK3 wL T117.heap n0 o118 G0 Q117_0 Q117_5 Q117_1 Q117_6 Q117_4 Q117_3 Q117_2  ) hZ (own_w hw 241 rfl) (own_w hw 155 rfl) (by decide) (by decide)) q123a q123c (g := (mkF m 169 #[.val (.int p1), .val (.long q2), .second, .val (.int p3), .val (.int p4), .val (.ref b1), .val (.ref b9), .val (.ref b9), .val .null, .val (.ref rk), .val (.ref b105), .val (.ref b105), .val (.ref bm)] [(.ref bm)])) rfl (by rw [hml]; rfl) (Steps.refl _) (argsL := []) (rest := []) (lenOf own_pd23 rfl) rfl (by show 2 * 0 + _ ≤ _; exact Nat.le_of_eq rfl) (hb hby at_169) (fun _ _ => ⟨rfl, e122, (by decide : 10 + 0 ≤ _), (by decide : 92 + 0 ≤ _)⟩)
        dsimp only [Pt.U, Pt.locs, Pt.cells, Pt.slots] at X123 l123 y123 z123 st123 hQ123
        subst l123 y123 z123
        obtain ⟨rfl, Nq123, e123⟩ := hQ123
        have N123 := Fr.app N122 Nq123
        obtain ⟨cq124, kq124, q124a, q124b, q124c⟩ := isOf hZ e123 Q117_0
        obtain ⟨_, _, ⟨T124, L124, k124, n124⟩, -, X124, ⟨Lc124, hQ124, l124, y124, z124⟩, st124⟩ := X123.virtualBack hx (y := own_y32) (z := own_y32) hown (mvT hZ (own_w hw 242 rfl)) (mvT hZ (own_w hw 243 rfl)) (notFace_of_selects (args := #[]) (mvT hZ (own_w hw 245 rfl))) (mvT hZ (own_w hw 245 rfl)) (mvT hZ (own_w hw 244 rfl)) (by decide) (backOf (W := 0) (rmA54 l Z a0 hw [] bm rk b9  cs wf wK0 wK1 wK2 wK3 wL T117.heap n0 o118 G0 Q117_0 Q117_5 Q117_1 Q117_6 Q117_4 Q117_3 Q117_2  ) hZ (own_w hw 246 rfl) (own_w hw 155 rfl) (by decide) (by decide)) q124a q124c (g := (mkF m 177 #[.val (.int p1), .val (.long q2), .second, .val (.int p3), .val (.int p4), .val (.ref b1), .val (.ref b9), .val (.ref b9), .val .null, .val (.ref rk), .val (.ref b105), .val (.ref b105), .val (.ref bm)] [(.ref bm)])) rfl (by rw [hml]; rfl) (Steps.refl _) (argsL := []) (rest := []) (lenOf own_pd24 rfl) rfl (by show 2 * 0 + _ ≤ _; exact Nat.le_of_eq rfl) (hb hby at_177) (fun _ _ => ⟨rfl, e123, (by decide : 10 + 0 ≤ _), (by decide : 92 + 0 ≤ _)⟩)
        dsimp only [Pt.U, Pt.locs, Pt.cells, Pt.slots] at X124 l124 y124 z124 st124 hQ124
        subst l124 y124 z124
        obtain ⟨rfl, Nq124, e124⟩ := hQ124
        have N124 := Fr.app N123 Nq124
        obtain ⟨LL125, XL125, NL125⟩ : ∃ LL : List Loc, Stand p l e room_1 (s.setVm T14.vm) m #[(.int p1), (.long q2), (.int p3), (.int p4)] below meth c T124 LL 10 92 ∧ Fr n0 LL := ⟨_, X124, N124⟩
        obtain ⟨cq126, kq126, q126a, q126b, q126c⟩ := isOf hZ e124 Q117_0
        obtain ⟨_, _, ⟨T126, L126, k126, n126⟩, -, X126, ⟨Lc126, hQ126, l126, y126, z126⟩, st126⟩ := XL125.virtualBack hx (y := own_y33) (z := own_y33) hown (mvT hZ (own_w hw 247 rfl)) (mvT hZ (own_w hw 248 rfl)) (notFace_of_selects (args := #[]) (mvT hZ (own_w hw 250 rfl))) (mvT hZ (own_w hw 250 rfl)) (mvT hZ (own_w hw 249 rfl)) (by decide) (backOf (W := 0) (rmA55 l Z a0 hw [] bm rk b9  cs wf wK0 wK1 wK2 wK3 wL T117.heap n0 o118 G0 Q117_0 Q117_5 Q117_1 Q117_6 Q117_4 Q117_3 Q117_2  ) hZ (own_w hw 251 rfl) (own_w hw 155 rfl) (by decide) (by decide)) q126a q126c (g := (mkF m 185 #[.val (.int p1), .val (.long q2), .second, .val (.int p3), .val (.int p4), .val (.ref b1), .val (.ref b9), .val (.ref b9), .val .null, .val (.ref rk), .val (.ref b105), .val (.ref b105), .val (.ref bm)] [(.ref bm)])) rfl (by rw [hml]; rfl) (Steps.refl _) (argsL := []) (rest := []) (lenOf own_pd24 rfl) rfl (by show 2 * 0 + _ ≤ _; exact Nat.le_of_eq rfl) (hb hby at_185) (fun _ _ => ⟨rfl, e124, (by decide : 10 + 0 ≤ _), (by decide : 92 + 0 ≤ _)⟩)
        dsimp only [Pt.U, Pt.locs, Pt.cells, Pt.slots] at X126 l126 y126 z126 st126 hQ126
        subst l126 y126 z126
        obtain ⟨rfl, Nq126, e126⟩ := hQ126
        have N126 := Fr.app NL125 Nq126
        have g127 : ∀ t, Steps p.tables e below (T126.setTop (mkF m 196 #[.val (.int p1), .val (.long q2), .second, .val (.int p3), .val (.int p4), .val (.ref b1), .val (.ref b9), .val (.ref b9), .val .null, .val (.ref rk), .val (.ref b105), .val (.ref b105), .val (.ref bm)] [(.int (1 : Int32))])) t → Steps p.tables e below (s₁.setTop (entryFrame m #[(.int p1), (.long q2), (.int p3), (.int p4)] maxLocals)) t := by
          intro t k
          refine g113 t ?_
          show Steps p.tables e below (T111.setTop (mkF m 87 #[.val (.int p1), .val (.long q2), .second, .val (.int p3), .val (.int p4), .val (.ref b1), .val (.ref b9), .val (.ref b9), .val .null, .val (.ref rk), .val (.ref b105), .unset, .unset] [(.int (p4 &&& (4 : Int32)))])) _
          refine XS.ifYes X111.here hx rfl (pc0 := 87) (pc' := 110) rfl (hb hby at_87) rfl ((if0 _ _).trans (teq hc112).1) (by decide) (by decide) ?_
          refine XS.aload X111.here hx rfl (hb hby at_110) rfl rfl ?_
          refine XS.aload X111.here hx rfl (hb hby at_112) rfl rfl ?_
          refine XS.aload X111.here hx rfl (hb hby at_114) rfl rfl ?_
          refine st115.trans ?_
          refine XS.astore X115.here hx rfl (hb hby at_119) rfl rfl (l' := #[.val (.int p1), .val (.long q2), .second, .val (.int p3), .val (.int p4), .val (.ref b1), .val (.ref b9), .val (.ref b9), .val .null, .val (.ref rk), .val (.ref b105), .val (.ref b105), .unset]) rfl ?_
          refine XS.aload X115.here hx rfl (hb hby at_121) rfl rfl ?_
          refine XS.aload X115.here hx rfl (hb hby at_123) rfl rfl ?_
          show Steps p.tables e below (T115.setTop (mkF m 125 #[.val (.int p1), .val (.long q2), .second, .val (.int p3), .val (.int p4), .val (.ref b1), .val (.ref b9), .val (.ref b9), .val .null, .val (.ref rk), .val (.ref b105), .val (.ref b105), .unset] [(.ref b105), (.ref b105)])) _
          refine Jvm.RoadKit.acmp (g := (mkF m 125 #[.val (.int p1), .val (.long q2), .second, .val (.int p3), .val (.int p4), .val (.ref b1), .val (.ref b9), .val (.ref b9), .val .null, .val (.ref rk), .val (.ref b105), .val (.ref b105), .unset] [(.ref b105), (.ref b105)])) X115 hx rfl rfl rfl (pc0 := 125) (pc' := 130) (same := true) rfl (hb hby at_125) rfl (decide_eq_true rfl) (by decide) (by decide) ?_
          refine XS.aload X115.here hx rfl (hb hby at_130) rfl rfl ?_
          refine st117.trans ?_
          refine XS.astore X117.here hx rfl (hb hby at_135) rfl rfl (l' := #[.val (.int p1), .val (.long q2), .second, .val (.int p3), .val (.int p4), .val (.ref b1), .val (.ref b9), .val (.ref b9), .val .null, .val (.ref rk), .val (.ref b105), .val (.ref b105), .val (.ref bm)]) rfl ?_
          refine XS.aload X117.here hx rfl (hb hby at_137) rfl rfl ?_
          refine st119.trans ?_
          refine XS.aload X119.here hx rfl (hb hby at_142) rfl rfl ?_
          refine Jvm.RoadKit.acmp (g := (mkF m 144 #[.val (.int p1), .val (.long q2), .second, .val (.int p3), .val (.int p4), .val (.ref b1), .val (.ref b9), .val (.ref b9), .val .null, .val (.ref rk), .val (.ref b105), .val (.ref b105), .val (.ref bm)] [(.ref b9), (.ref b9)])) X119 hx rfl rfl rfl (pc0 := 144) (pc' := 147) (same := true) rfl (hb hby at_144) rfl (decide_eq_true rfl) (by decide) (by decide) ?_
          show Steps p.tables e below (T119.setTop (mkF m 147 #[.val (.int p1), .val (.long q2), .second, .val (.int p3), .val (.int p4), .val (.ref b1), .val (.ref b9), .val (.ref b9), .val .null, .val (.ref rk), .val (.ref b105), .val (.ref b105), .val (.ref bm)] [])) _
          refine XS.aload X119.here hx rfl (hb hby at_147) rfl rfl ?_
          refine st121.trans ?_
          refine XS.aload X121.here hx rfl (hb hby at_152) rfl rfl ?_
          refine Jvm.RoadKit.acmp (g := (mkF m 154 #[.val (.int p1), .val (.long q2), .second, .val (.int p3), .val (.int p4), .val (.ref b1), .val (.ref b9), .val (.ref b9), .val .null, .val (.ref rk), .val (.ref b105), .val (.ref b105), .val (.ref bm)] [.null, .null])) X121 hx rfl rfl rfl (pc0 := 154) (pc' := 157) (same := true) rfl (hb hby at_154) rfl (decide_eq_true rfl) (by decide) (by decide) ?_
          refine XS.aload X121.here hx rfl (hb hby at_157) rfl rfl ?_
          refine st122.trans ?_
          refine XS.aload X122.here hx rfl (hb hby at_162) rfl rfl ?_
          refine Jvm.RoadKit.acmp (g := (mkF m 164 #[.val (.int p1), .val (.long q2), .second, .val (.int p3), .val (.int p4), .val (.ref b1), .val (.ref b9), .val (.ref b9), .val .null, .val (.ref rk), .val (.ref b105), .val (.ref b105), .val (.ref bm)] [(.ref rk), (.ref rk)])) X122 hx rfl rfl rfl (pc0 := 164) (pc' := 167) (same := true) rfl (hb hby at_164) rfl (decide_eq_true rfl) (by decide) (by decide) ?_
          show Steps p.tables e below (T122.setTop (mkF m 167 #[.val (.int p1), .val (.long q2), .second, .val (.int p3), .val (.int p4), .val (.ref b1), .val (.ref b9), .val (.ref b9), .val .null, .val (.ref rk), .val (.ref b105), .val (.ref b105), .val (.ref bm)] [])) _
          refine XS.aload X122.here hx rfl (hb hby at_167) rfl rfl ?_
          refine st123.trans ?_
          refine XS.ifnonnullNo X123.here hx rfl (hb hby at_172) rfl ?_
          refine XS.aload X123.here hx rfl (hb hby at_175) rfl rfl ?_
          refine st124.trans ?_
          refine XS.ifnonnullNo X124.here hx rfl (hb hby at_180) rfl ?_
          refine XS.aload X124.here hx rfl (hb hby at_183) rfl rfl ?_
          refine st126.trans ?_
          show Steps p.tables e below (T126.setTop (mkF m 188 #[.val (.int p1), .val (.long q2), .second, .val (.int p3), .val (.int p4), .val (.ref b1), .val (.ref b9), .val (.ref b9), .val .null, .val (.ref rk), .val (.ref b105), .val (.ref b105), .val (.ref bm)] [.null])) _
          refine XS.ifnonnullNo X126.here hx rfl (hb hby at_188) rfl ?_
          refine XS.iconst X126.here hx rfl (hb hby at_191) ?_
          refine XS.goto X126.here hx rfl (pc0 := 192) (pc' := 196) rfl (hb hby at_192) (by decide) (by decide) ?_
          exact k
        obtain ⟨fs, hrt, hrun, hended, hRW⟩ := X126.leaveW hS (by rw [e126]; exact hk) (v := some (.int (1 : Int32))) (fun h => by rw [Bd.returns] at h; cases h)
        refine ⟨_, _, g127 _ ?_, hrun, hended, _, _, rfl, ?_, ?_, hRW.1, hRW.2.1, hRW.2.2.1, hRW.2.2.2.mono (by decide) (by decide)⟩
        · show Steps p.tables e below (T126.setTop (mkF m 196 #[.val (.int p1), .val (.long q2), .second, .val (.int p3), .val (.int p4), .val (.ref b1), .val (.ref b9), .val (.ref b9), .val .null, .val (.ref rk), .val (.ref b105), .val (.ref b105), .val (.ref bm)] [(.int (1 : Int32))])) _
          exact retN X126 hx (t := .boolean) Bd.returns (by simp) (hb hby at_196) hrt
        · show own_Q_rm0 Z p1 q2 p3 p4 cs wf wK0 wK1 wK2 wK3 wL h0 n0 _ T126.heap _
          rw [e126]
          exact ⟨rfl, N126⟩
        · rw [hh]
          show CHr Z own_EL s.vm h0 T126.vm T126.heap
          rw [e126]
          exact hC.trans (CHv.at X126 hZ (own_EW hw) hC.1)
      · have o128 : Old Z n0 T111.heap := (Old.keep o110 K111 (allS gz_b105 all0))
        obtain ⟨cq129, kq129, q129a, q129b, q129c⟩ := isOf hZ rfl Q111_0
        obtain ⟨_, _, ⟨T129, L129, k129, n129⟩, -, X129, ⟨Lc129, hQ129, l129, y129, z129⟩, st129⟩ := X111.virtualBack hx (y := own_y23) (z := own_y23) hown (mvT hZ (own_w hw 139 rfl)) (mvT hZ (own_w hw 140 rfl)) (notFace_of_selects (args := #[]) (mvT hZ (own_w hw 142 rfl))) (mvT hZ (own_w hw 142 rfl)) (mvT hZ (own_w hw 141 rfl)) (by decide) (backOf (W := 0) (rmA35 l Z a0 hw [] b105 rk b9 b1  cs wf wK0 wK1 wK2 wK3 wL T111.heap n0 o128 G0 Q111_0 Q111_9 Q111_10 Q111_2 Q111_6 Q111_1 Q111_8 Q111_12 Q111_4 Q111_3 Q111_5 Q111_11 Q111_7 gz_b105 ) hZ (own_w hw 143 rfl) (own_w hw 124 rfl) (by decide) (by decide)) q129a q129c (g := (mkF m 96 #[.val (.int p1), .val (.long q2), .second, .val (.int p3), .val (.int p4), .val (.ref b1), .val (.ref b9), .val (.ref b9), .val .null, .val (.ref rk), .val (.ref b105), .unset, .unset] [(.ref b1), (.ref b9), (.ref b105)])) rfl (by rw [hml]; rfl) (Steps.refl _) (argsL := [(.ref b9), (.ref b1)]) (rest := []) (lenOf own_pd19 rfl) rfl (by show 2 * 0 + _ ≤ _; exact Nat.le_of_eq rfl) (hb hby at_96) (fun _ _ => ⟨rfl, rfl, (by decide : 9 + 0 ≤ _), (by decide : 80 + 0 ≤ _)⟩)
        dsimp only [Pt.U, Pt.locs, Pt.cells, Pt.slots] at X129 l129 y129 z129 st129 hQ129
        subst l129 y129 z129
        obtain ⟨rfl, Nq129, K129, Q129_0, Q129_1, Q129_2, Q129_3, Q129_4, Q129_5, Q129_6, Q129_7, Q129_8, Q129_9, Q129_10, Q129_11, Q129_12⟩ := hQ129
        have hC := hC.trans (CHr.keep K129 (sfS (Safe.exa hZ.alike Q111_0 (by decide) (by decide)) sf0) hC.1)
        have hk := Nat.le_trans hk K129.1
        have N129 := Fr.app N111 Nq129
        have o130 : Old Z n0 T129.heap := (Old.keep o128 K129 (allS gz_b105 all0))
        obtain ⟨cq131, kq131, q131a, q131b, q131c⟩ := isOf hZ rfl Q129_0
        obtain ⟨_, _, ⟨T131, L131, k131, n131⟩, -, X131, ⟨Lc131, hQ131, l131, y131, z131⟩, st131⟩ := X129.virtualBack hx (y := own_y23) (z := own_y23) hown (mvT hZ (own_w hw 139 rfl)) (mvT hZ (own_w hw 140 rfl)) (notFace_of_selects (args := #[]) (mvT hZ (own_w hw 142 rfl))) (mvT hZ (own_w hw 142 rfl)) (mvT hZ (own_w hw 141 rfl)) (by decide) (backOf (W := 0) (rmA56 l Z a0 hw [] b105 rk b1 b9  cs wf wK0 wK1 wK2 wK3 wL T129.heap n0 o130 G0 Q129_0 Q129_9 Q129_10 Q129_2 Q129_6 Q129_1 Q129_8 Q129_12 Q129_4 Q129_3 Q129_5 Q129_11 Q129_7 gz_b105 ) hZ (own_w hw 143 rfl) (own_w hw 124 rfl) (by decide) (by decide)) q131a q131c (g := (mkF m 116 #[.val (.int p1), .val (.long q2), .second, .val (.int p3), .val (.int p4), .val (.ref b1), .val (.ref b9), .val (.ref b9), .val .null, .val (.ref rk), .val (.ref b105), .val (.ref b105), .unset] [.null, (.ref b9), (.ref b105)])) rfl (by rw [hml]; rfl) (Steps.refl _) (argsL := [(.ref b9), .null]) (rest := []) (lenOf own_pd19 rfl) rfl (by show 2 * 0 + _ ≤ _; exact Nat.le_of_eq rfl) (hb hby at_116) (fun _ _ => ⟨rfl, rfl, (by decide : 9 + 0 ≤ _), (by decide : 80 + 0 ≤ _)⟩)
        dsimp only [Pt.U, Pt.locs, Pt.cells, Pt.slots] at X131 l131 y131 z131 st131 hQ131
        subst l131 y131 z131
        obtain ⟨rfl, Nq131, K131, Q131_0, Q131_1, Q131_2, Q131_3, Q131_4, Q131_5, Q131_6, Q131_7, Q131_8, Q131_9, Q131_10, Q131_11, Q131_12⟩ := hQ131
        have hC := hC.trans (CHr.keep K131 (sfS (Safe.exa hZ.alike Q129_0 (by decide) (by decide)) sf0) hC.1)
        have hk := Nat.le_trans hk K131.1
        have N131 := Fr.app N129 Nq131
        have o132 : Old Z n0 T131.heap := (Old.keep o130 K131 (allS gz_b105 all0))
        obtain ⟨cq133, kq133, q133a, q133b, q133c⟩ := isOf hZ rfl Q131_0
        obtain ⟨_, _, ⟨T133, L133, k133, n133⟩, -, X133, ⟨Lc133, hQ133, l133, y133, z133⟩, st133⟩ := X131.virtualBack hx (y := own_y24) (z := own_y24) hown (mvT hZ (own_w hw 148 rfl)) (mvT hZ (own_w hw 149 rfl)) (notFace_of_selects (args := #[]) (mvT hZ (own_w hw 151 rfl))) (mvT hZ (own_w hw 151 rfl)) (mvT hZ (own_w hw 150 rfl)) (by decide) (backOf (W := 0) (rmA48 l Z a0 hw [] b105 rk b9  cs wf wK0 wK1 wK2 wK3 wL T131.heap n0 o132 G0 Q131_0 Q131_9 Q131_10 Q131_2 Q131_6 Q131_1 Q131_8 Q131_12 Q131_4 Q131_3 Q131_5 Q131_11 Q131_7  ) hZ (own_w hw 152 rfl) (own_w hw 124 rfl) (by decide) (by decide)) q133a q133c (g := (mkF m 132 #[.val (.int p1), .val (.long q2), .second, .val (.int p3), .val (.int p4), .val (.ref b1), .val (.ref b9), .val (.ref b9), .val .null, .val (.ref rk), .val (.ref b105), .val (.ref b105), .unset] [(.ref b105)])) rfl (by rw [hml]; rfl) (Steps.refl _) (argsL := []) (rest := []) (lenOf own_pd22 rfl) rfl (by show 2 * 0 + _ ≤ _; exact Nat.le_of_eq rfl) (hb hby at_132) (fun _ _ => ⟨rfl, rfl, (by decide : 9 + 1 ≤ _), (by decide : 80 + 12 ≤ _)⟩)
        dsimp only [Pt.U, Pt.locs, Pt.cells, Pt.slots] at X133 l133 y133 z133 st133 hQ133
        subst l133 y133 z133
        obtain ⟨bm, rfl, Nq133, K133, hb133, Q133_0, Q133_1, Q133_2, Q133_3, Q133_4, Q133_5, Q133_6⟩ := hQ133
        have hC := hC.trans (CHr.keep K133 sf0 hC.1)
        have hk := Nat.le_trans hk K133.1
        have N133 := Fr.app N131 Nq133
        have sz_bm : h0.size ≤ bm := Nat.le_trans (Nat.le_trans (Nat.le_trans (Nat.le_trans (Nat.le_trans (Nat.le_trans (Nat.le_trans (Nat.le_trans (Nat.le_trans E1.1 E2.1) K8.1) E9.1) K14.1) E105.1) K111.1) K129.1) K131.1) hb133
        have gz_bm : n0 ≤ bm := Nat.le_trans Z0 sz_bm
        have ne_a2_bm : a2 ≠ bm := Nat.ne_of_lt (Nat.lt_of_lt_of_le ((((f106.ext E105).keep K111).keep K129).keep K131).lt hb133)
        have ne_b1_bm : b1 ≠ bm := Nat.ne_of_lt (Nat.lt_of_lt_of_le ((((f107.ext E105).keep K111).keep K129).keep K131).lt hb133)
        have ne_b105_bm : b105 ≠ bm := Nat.ne_of_lt (Nat.lt_of_lt_of_le Q131_0.lt hb133)
        have ne_b2_bm : b2 ≠ bm := Nat.ne_of_lt (Nat.lt_of_lt_of_le ((((f108.ext E105).keep K111 (ninS ne_b2_b105 nin0)).keep K129 (ninS ne_b2_b105 nin0)).keep K131 (ninS ne_b2_b105 nin0)).lt hb133)
        have ne_b9_bm : b9 ≠ bm := Nat.ne_of_lt (Nat.lt_of_lt_of_le ((((Q14_0.ext E105).keep K111).keep K129).keep K131).lt hb133)
        obtain ⟨LL134, XL134, NL134⟩ : ∃ LL : List Loc, Stand p l e room_1 (s.setVm T14.vm) m #[(.int p1), (.long q2), (.int p3), (.int p4)] below meth c T133 LL 10 92 ∧ Fr n0 LL := ⟨_, X133, N133⟩
        have o135 : Old Z n0 T133.heap := (Old.keep o132 K133 all0)
        obtain ⟨cq136, kq136, q136a, q136b, q136c⟩ := isOf hZ rfl Q133_0
        obtain ⟨_, _, ⟨T136, L136, k136, n136⟩, -, X136, ⟨Lc136, hQ136, l136, y136, z136⟩, st136⟩ := XL134.virtualBack hx (y := own_y28) (z := own_y28) hown (mvT hZ (own_w hw 222 rfl)) (mvT hZ (own_w hw 223 rfl)) (notFace_of_selects (args := #[]) (mvT hZ (own_w hw 225 rfl))) (mvT hZ (own_w hw 225 rfl)) (mvT hZ (own_w hw 224 rfl)) (by decide) (backOf (W := 0) (rmA50 l Z a0 hw [] bm rk b9  cs wf wK0 wK1 wK2 wK3 wL T133.heap n0 o135 G0 Q133_0 Q133_5 Q133_1 Q133_6 Q133_4 Q133_3 Q133_2  ) hZ (own_w hw 226 rfl) (own_w hw 155 rfl) (by decide) (by decide)) q136a q136c (g := (mkF m 139 #[.val (.int p1), .val (.long q2), .second, .val (.int p3), .val (.int p4), .val (.ref b1), .val (.ref b9), .val (.ref b9), .val .null, .val (.ref rk), .val (.ref b105), .val (.ref b105), .val (.ref bm)] [(.ref bm)])) rfl (by rw [hml]; rfl) (Steps.refl _) (argsL := []) (rest := []) (lenOf own_pd23 rfl) rfl (by show 2 * 0 + _ ≤ _; exact Nat.le_of_eq rfl) (hb hby at_139) (fun _ _ => ⟨rfl, rfl, (by decide : 10 + 0 ≤ _), (by decide : 92 + 0 ≤ _)⟩)
        dsimp only [Pt.U, Pt.locs, Pt.cells, Pt.slots] at X136 l136 y136 z136 st136 hQ136
        subst l136 y136 z136
        obtain ⟨rfl, Nq136, e136⟩ := hQ136
        have N136 := Fr.app NL134 Nq136
        obtain ⟨cq137, kq137, q137a, q137b, q137c⟩ := isOf hZ e136 Q133_0
        obtain ⟨_, _, ⟨T137, L137, k137, n137⟩, -, X137, ⟨Lc137, hQ137, l137, y137, z137⟩, st137⟩ := X136.virtualBack hx (y := own_y29) (z := own_y29) hown (mvT hZ (own_w hw 227 rfl)) (mvT hZ (own_w hw 228 rfl)) (notFace_of_selects (args := #[]) (mvT hZ (own_w hw 230 rfl))) (mvT hZ (own_w hw 230 rfl)) (mvT hZ (own_w hw 229 rfl)) (by decide) (backOf (W := 0) (rmA51 l Z a0 hw [] bm rk b9  cs wf wK0 wK1 wK2 wK3 wL T133.heap n0 o135 G0 Q133_0 Q133_5 Q133_1 Q133_6 Q133_4 Q133_3 Q133_2  ) hZ (own_w hw 231 rfl) (own_w hw 155 rfl) (by decide) (by decide)) q137a q137c (g := (mkF m 149 #[.val (.int p1), .val (.long q2), .second, .val (.int p3), .val (.int p4), .val (.ref b1), .val (.ref b9), .val (.ref b9), .val .null, .val (.ref rk), .val (.ref b105), .val (.ref b105), .val (.ref bm)] [(.ref bm)])) rfl (by rw [hml]; rfl) (Steps.refl _) (argsL := []) (rest := []) (lenOf own_pd24 rfl) rfl (by show 2 * 0 + _ ≤ _; exact Nat.le_of_eq rfl) (hb hby at_149) (fun _ _ => ⟨rfl, e136, (by decide : 10 + 0 ≤ _), (by decide : 92 + 0 ≤ _)⟩)
        dsimp only [Pt.U, Pt.locs, Pt.cells, Pt.slots] at X137 l137 y137 z137 st137 hQ137
        subst l137 y137 z137
        obtain ⟨rfl, Nq137, e137⟩ := hQ137
        have N137 := Fr.app N136 Nq137
        obtain ⟨cq138, kq138, q138a, q138b, q138c⟩ := isOf hZ e137 Q133_0
        obtain ⟨_, _, ⟨T138, L138, k138, n138⟩, -, X138, ⟨Lc138, hQ138, l138, y138, z138⟩, st138⟩ := X137.virtualBack hx (y := own_y30) (z := own_y30) hown (mvT hZ (own_w hw 232 rfl)) (mvT hZ (own_w hw 233 rfl)) (notFace_of_selects (args := #[]) (mvT hZ (own_w hw 235 rfl))) (mvT hZ (own_w hw 235 rfl)) (mvT hZ (own_w hw 234 rfl)) (by decide) (backOf (W := 0) (rmA52 l Z a0 hw [] bm rk b9  cs wf wK0 wK1 wK2 wK3 wL T133.heap n0 o135 G0 Q133_0 Q133_5 Q133_1 Q133_6 Q133_4 Q133_3 Q133_2  ) hZ (own_w hw 236 rfl) (own_w hw 155 rfl) (by decide) (by decide)) q138a q138c (g := (mkF m 159 #[.val (.int p1), .val (.long q2), .second, .val (.int p3), .val (.int p4), .val (.ref b1), .val (.ref b9), .val (.ref b9), .val .null, .val (.ref rk), .val (.ref b105), .val (.ref b105), .val (.ref bm)] [(.ref bm)])) rfl (by rw [hml]; rfl) (Steps.refl _) (argsL := []) (rest := []) (lenOf own_pd25 rfl) rfl (by show 2 * 0 + _ ≤ _; exact Nat.le_of_eq rfl) (hb hby at_159) (fun _ _ => ⟨rfl, e137, (by decide : 10 + 0 ≤ _), (by decide : 92 + 0 ≤ _)⟩)
        dsimp only [Pt.U, Pt.locs, Pt.cells, Pt.slots] at X138 l138 y138 z138 st138 hQ138
        subst l138 y138 z138
        obtain ⟨rfl, Nq138, e138⟩ := hQ138
        have N138 := Fr.app N137 Nq138
        obtain ⟨cq139, kq139, q139a, q139b, q139c⟩ := isOf hZ e138 Q133_0
        obtain ⟨_, _, ⟨T139, L139, k139, n139⟩, -, X139, ⟨Lc139, hQ139, l139, y139, z139⟩, st139⟩ := X138.virtualBack hx (y := own_y31) (z := own_y31) hown (mvT hZ (own_w hw 237 rfl)) (mvT hZ (own_w hw 238 rfl)) (notFace_of_selects (args := #[]) (mvT hZ (own_w hw 240 rfl))) (mvT hZ (own_w hw 240 rfl)) (mvT hZ (own_w hw 239 rfl)) (by decide) (backOf (W := 0) (rmA53 l Z a0 hw [] bm rk b9  cs wf wK0 wK1 wK2 wK3 wL T133.heap n0 o135 G0 Q133_0 Q133_5 Q133_1 Q133_6 Q133_4 Q133_3 Q133_2  ) hZ (own_w hw 241 rfl) (own_w hw 155 rfl) (by decide) (by decide)) q139a q139c (g := (mkF m 169 #[.val (.int p1), .val (.long q2), .second, .val (.int p3), .val (.int p4), .val (.ref b1), .val (.ref b9), .val (.ref b9), .val .null, .val (.ref rk), .val (.ref b105), .val (.ref b105), .val (.ref bm)] [(.ref bm)])) rfl (by rw [hml]; rfl) (Steps.refl _) (argsL := []) (rest := []) (lenOf own_pd23 rfl) rfl (by show 2 * 0 + _ ≤ _; exact Nat.le_of_eq rfl) (hb hby at_169) (fun _ _ => ⟨rfl, e138, (by decide : 10 + 0 ≤ _), (by decide : 92 + 0 ≤ _)⟩)
        dsimp only [Pt.U, Pt.locs, Pt.cells, Pt.slots] at X139 l139 y139 z139 st139 hQ139
        subst l139 y139 z139
        obtain ⟨rfl, Nq139, e139⟩ := hQ139
        have N139 := Fr.app N138 Nq139
        obtain ⟨LL140, XL140, NL140⟩ : ∃ LL : List Loc, Stand p l e room_1 (s.setVm T14.vm) m #[(.int p1), (.long q2), (.int p3), (.int p4)] below meth c T139 LL 10 92 ∧ Fr n0 LL := ⟨_, X139, N139⟩
        obtain ⟨cq141, kq141, q141a, q141b, q141c⟩ := isOf hZ e139 Q133_0
        obtain ⟨_, _, ⟨T141, L141, k141, n141⟩, -, X141, ⟨Lc141, hQ141, l141, y141, z141⟩, st141⟩ := XL140.virtualBack hx (y := own_y32) (z := own_y32) hown (mvT hZ (own_w hw 242 rfl)) (mvT hZ (own_w hw 243 rfl)) (notFace_of_selects (args := #[]) (mvT hZ (own_w hw 245 rfl))) (mvT hZ (own_w hw 245 rfl)) (mvT hZ (own_w hw 244 rfl)) (by decide) (backOf (W := 0) (rmA54 l Z a0 hw [] bm rk b9  cs wf wK0 wK1 wK2 wK3 wL T133.heap n0 o135 G0 Q133_0 Q133_5 Q133_1 Q133_6 Q133_4 Q133_3 Q133_2  ) hZ (own_w hw 246 rfl) (own_w hw 155 rfl) (by decide) (by decide)) q141a q141c (g := (mkF m 177 #[.val (.int p1), .val (.long q2), .second, .val (.int p3), .val (.int p4), .val (.ref b1), .val (.ref b9), .val (.ref b9), .val .null, .val (.ref rk), .val (.ref b105), .val (.ref b105), .val (.ref bm)] [(.ref bm)])) rfl (by rw [hml]; rfl) (Steps.refl _) (argsL := []) (rest := []) (lenOf own_pd24 rfl) rfl (by show 2 * 0 + _ ≤ _; exact Nat.le_of_eq rfl) (hb hby at_177) (fun _ _ => ⟨rfl, e139, (by decide : 10 + 0 ≤ _), (by decide : 92 + 0 ≤ _)⟩)
        dsimp only [Pt.U, Pt.locs, Pt.cells, Pt.slots] at X141 l141 y141 z141 st141 hQ141
        subst l141 y141 z141
        obtain ⟨rfl, Nq141, e141⟩ := hQ141
        have N141 := Fr.app NL140 Nq141
        obtain ⟨cq142, kq142, q142a, q142b, q142c⟩ := isOf hZ e141 Q133_0
        obtain ⟨_, _, ⟨T142, L142, k142, n142⟩, -, X142, ⟨Lc142, hQ142, l142, y142, z142⟩, st142⟩ := X141.virtualBack hx (y := own_y33) (z := own_y33) hown (mvT hZ (own_w hw 247 rfl)) (mvT hZ (own_w hw 248 rfl)) (notFace_of_selects (args := #[]) (mvT hZ (own_w hw 250 rfl))) (mvT hZ (own_w hw 250 rfl)) (mvT hZ (own_w hw 249 rfl)) (by decide) (backOf (W := 0) (rmA55 l Z a0 hw [] bm rk b9  cs wf wK0 wK1 wK2 wK3 wL T133.heap n0 o135 G0 Q133_0 Q133_5 Q133_1 Q133_6 Q133_4 Q133_3 Q133_2  ) hZ (own_w hw 251 rfl) (own_w hw 155 rfl) (by decide) (by decide)) q142a q142c (g := (mkF m 185 #[.val (.int p1), .val (.long q2), .second, .val (.int p3), .val (.int p4), .val (.ref b1), .val (.ref b9), .val (.ref b9), .val .null, .val (.ref rk), .val (.ref b105), .val (.ref b105), .val (.ref bm)] [(.ref bm)])) rfl (by rw [hml]; rfl) (Steps.refl _) (argsL := []) (rest := []) (lenOf own_pd24 rfl) rfl (by show 2 * 0 + _ ≤ _; exact Nat.le_of_eq rfl) (hb hby at_185) (fun _ _ => ⟨rfl, e141, (by decide : 10 + 0 ≤ _), (by decide : 92 + 0 ≤ _)⟩)
        dsimp only [Pt.U, Pt.locs, Pt.cells, Pt.slots] at X142 l142 y142 z142 st142 hQ142
        subst l142 y142 z142
        obtain ⟨rfl, Nq142, e142⟩ := hQ142
        have N142 := Fr.app N141 Nq142
        have g143 : ∀ t, Steps p.tables e below (T142.setTop (mkF m 196 #[.val (.int p1), .val (.long q2), .second, .val (.int p3), .val (.int p4), .val (.ref b1), .val (.ref b9), .val (.ref b9), .val .null, .val (.ref rk), .val (.ref b105), .val (.ref b105), .val (.ref bm)] [(.int (1 : Int32))])) t → Steps p.tables e below (s₁.setTop (entryFrame m #[(.int p1), (.long q2), (.int p3), (.int p4)] maxLocals)) t := by
          intro t k
          refine g113 t ?_
          show Steps p.tables e below (T111.setTop (mkF m 87 #[.val (.int p1), .val (.long q2), .second, .val (.int p3), .val (.int p4), .val (.ref b1), .val (.ref b9), .val (.ref b9), .val .null, .val (.ref rk), .val (.ref b105), .unset, .unset] [(.int (p4 &&& (4 : Int32)))])) _
          refine XS.ifNo X111.here hx rfl (hb hby at_87) rfl ((if0 _ _).trans (feq hc112).1) ?_
          refine XS.aload X111.here hx rfl (hb hby at_90) rfl rfl ?_
          refine XS.aload X111.here hx rfl (hb hby at_92) rfl rfl ?_
          refine XS.aload X111.here hx rfl (hb hby at_94) rfl rfl ?_
          refine st129.trans ?_
          refine XS.astore X129.here hx rfl (hb hby at_99) rfl rfl (l' := #[.val (.int p1), .val (.long q2), .second, .val (.int p3), .val (.int p4), .val (.ref b1), .val (.ref b9), .val (.ref b9), .val .null, .val (.ref rk), .val (.ref b105), .val (.ref b105), .unset]) rfl ?_
          refine XS.aload X129.here hx rfl (hb hby at_101) rfl rfl ?_
          refine XS.aload X129.here hx rfl (hb hby at_103) rfl rfl ?_
          show Steps p.tables e below (T129.setTop (mkF m 105 #[.val (.int p1), .val (.long q2), .second, .val (.int p3), .val (.int p4), .val (.ref b1), .val (.ref b9), .val (.ref b9), .val .null, .val (.ref rk), .val (.ref b105), .val (.ref b105), .unset] [(.ref b105), (.ref b105)])) _
          refine Jvm.RoadKit.acmp (g := (mkF m 105 #[.val (.int p1), .val (.long q2), .second, .val (.int p3), .val (.int p4), .val (.ref b1), .val (.ref b9), .val (.ref b9), .val .null, .val (.ref rk), .val (.ref b105), .val (.ref b105), .unset] [(.ref b105), (.ref b105)])) X129 hx rfl rfl rfl (pc0 := 105) (pc' := 110) (same := true) rfl (hb hby at_105) rfl (decide_eq_true rfl) (by decide) (by decide) ?_
          refine XS.aload X129.here hx rfl (hb hby at_110) rfl rfl ?_
          refine XS.aload X129.here hx rfl (hb hby at_112) rfl rfl ?_
          refine XS.aload X129.here hx rfl (hb hby at_114) rfl rfl ?_
          refine st131.trans ?_
          refine XS.astore X131.here hx rfl (hb hby at_119) rfl rfl (l' := #[.val (.int p1), .val (.long q2), .second, .val (.int p3), .val (.int p4), .val (.ref b1), .val (.ref b9), .val (.ref b9), .val .null, .val (.ref rk), .val (.ref b105), .val (.ref b105), .unset]) rfl ?_
          refine XS.aload X131.here hx rfl (hb hby at_121) rfl rfl ?_
          refine XS.aload X131.here hx rfl (hb hby at_123) rfl rfl ?_
          show Steps p.tables e below (T131.setTop (mkF m 125 #[.val (.int p1), .val (.long q2), .second, .val (.int p3), .val (.int p4), .val (.ref b1), .val (.ref b9), .val (.ref b9), .val .null, .val (.ref rk), .val (.ref b105), .val (.ref b105), .unset] [(.ref b105), (.ref b105)])) _
          refine Jvm.RoadKit.acmp (g := (mkF m 125 #[.val (.int p1), .val (.long q2), .second, .val (.int p3), .val (.int p4), .val (.ref b1), .val (.ref b9), .val (.ref b9), .val .null, .val (.ref rk), .val (.ref b105), .val (.ref b105), .unset] [(.ref b105), (.ref b105)])) X131 hx rfl rfl rfl (pc0 := 125) (pc' := 130) (same := true) rfl (hb hby at_125) rfl (decide_eq_true rfl) (by decide) (by decide) ?_
          refine XS.aload X131.here hx rfl (hb hby at_130) rfl rfl ?_
          refine st133.trans ?_
          refine XS.astore X133.here hx rfl (hb hby at_135) rfl rfl (l' := #[.val (.int p1), .val (.long q2), .second, .val (.int p3), .val (.int p4), .val (.ref b1), .val (.ref b9), .val (.ref b9), .val .null, .val (.ref rk), .val (.ref b105), .val (.ref b105), .val (.ref bm)]) rfl ?_
          refine XS.aload X133.here hx rfl (hb hby at_137) rfl rfl ?_
          refine st136.trans ?_
          refine XS.aload X136.here hx rfl (hb hby at_142) rfl rfl ?_
          refine Jvm.RoadKit.acmp (g := (mkF m 144 #[.val (.int p1), .val (.long q2), .second, .val (.int p3), .val (.int p4), .val (.ref b1), .val (.ref b9), .val (.ref b9), .val .null, .val (.ref rk), .val (.ref b105), .val (.ref b105), .val (.ref bm)] [(.ref b9), (.ref b9)])) X136 hx rfl rfl rfl (pc0 := 144) (pc' := 147) (same := true) rfl (hb hby at_144) rfl (decide_eq_true rfl) (by decide) (by decide) ?_
          show Steps p.tables e below (T136.setTop (mkF m 147 #[.val (.int p1), .val (.long q2), .second, .val (.int p3), .val (.int p4), .val (.ref b1), .val (.ref b9), .val (.ref b9), .val .null, .val (.ref rk), .val (.ref b105), .val (.ref b105), .val (.ref bm)] [])) _
          refine XS.aload X136.here hx rfl (hb hby at_147) rfl rfl ?_
          refine st137.trans ?_
          refine XS.aload X137.here hx rfl (hb hby at_152) rfl rfl ?_
          refine Jvm.RoadKit.acmp (g := (mkF m 154 #[.val (.int p1), .val (.long q2), .second, .val (.int p3), .val (.int p4), .val (.ref b1), .val (.ref b9), .val (.ref b9), .val .null, .val (.ref rk), .val (.ref b105), .val (.ref b105), .val (.ref bm)] [.null, .null])) X137 hx rfl rfl rfl (pc0 := 154) (pc' := 157) (same := true) rfl (hb hby at_154) rfl (decide_eq_true rfl) (by decide) (by decide) ?_
          refine XS.aload X137.here hx rfl (hb hby at_157) rfl rfl ?_
          refine st138.trans ?_
          refine XS.aload X138.here hx rfl (hb hby at_162) rfl rfl ?_
          refine Jvm.RoadKit.acmp (g := (mkF m 164 #[.val (.int p1), .val (.long q2), .second, .val (.int p3), .val (.int p4), .val (.ref b1), .val (.ref b9), .val (.ref b9), .val .null, .val (.ref rk), .val (.ref b105), .val (.ref b105), .val (.ref bm)] [(.ref rk), (.ref rk)])) X138 hx rfl rfl rfl (pc0 := 164) (pc' := 167) (same := true) rfl (hb hby at_164) rfl (decide_eq_true rfl) (by decide) (by decide) ?_
          show Steps p.tables e below (T138.setTop (mkF m 167 #[.val (.int p1), .val (.long q2), .second, .val (.int p3), .val (.int p4), .val (.ref b1), .val (.ref b9), .val (.ref b9), .val .null, .val (.ref rk), .val (.ref b105), .val (.ref b105), .val (.ref bm)] [])) _
          refine XS.aload X138.here hx rfl (hb hby at_167) rfl rfl ?_
          refine st139.trans ?_
          refine XS.ifnonnullNo X139.here hx rfl (hb hby at_172) rfl ?_
          refine XS.aload X139.here hx rfl (hb hby at_175) rfl rfl ?_
          refine st141.trans ?_
          refine XS.ifnonnullNo X141.here hx rfl (hb hby at_180) rfl ?_
          refine XS.aload X141.here hx rfl (hb hby at_183) rfl rfl ?_
          refine st142.trans ?_
          show Steps p.tables e below (T142.setTop (mkF m 188 #[.val (.int p1), .val (.long q2), .second, .val (.int p3), .val (.int p4), .val (.ref b1), .val (.ref b9), .val (.ref b9), .val .null, .val (.ref rk), .val (.ref b105), .val (.ref b105), .val (.ref bm)] [.null])) _
          refine XS.ifnonnullNo X142.here hx rfl (hb hby at_188) rfl ?_
          refine XS.iconst X142.here hx rfl (hb hby at_191) ?_
          refine XS.goto X142.here hx rfl (pc0 := 192) (pc' := 196) rfl (hb hby at_192) (by decide) (by decide) ?_
          exact k
        obtain ⟨fs, hrt, hrun, hended, hRW⟩ := X142.leaveW hS (by rw [e142]; exact hk) (v := some (.int (1 : Int32))) (fun h => by rw [Bd.returns] at h; cases h)
        refine ⟨_, _, g143 _ ?_, hrun, hended, _, _, rfl, ?_, ?_, hRW.1, hRW.2.1, hRW.2.2.1, hRW.2.2.2.mono (by decide) (by decide)⟩
        · show Steps p.tables e below (T142.setTop (mkF m 196 #[.val (.int p1), .val (.long q2), .second, .val (.int p3), .val (.int p4), .val (.ref b1), .val (.ref b9), .val (.ref b9), .val .null, .val (.ref rk), .val (.ref b105), .val (.ref b105), .val (.ref bm)] [(.int (1 : Int32))])) _
          exact retN X142 hx (t := .boolean) Bd.returns (by simp) (hb hby at_196) hrt
        · show own_Q_rm0 Z p1 q2 p3 p4 cs wf wK0 wK1 wK2 wK3 wL h0 n0 _ T142.heap _
          rw [e142]
          exact ⟨rfl, N142⟩
        · rw [hh]
          show CHr Z own_EL s.vm h0 T142.vm T142.heap
          rw [e142]
          exact hC.trans (CHv.at X142 hZ (own_EW hw) hC.1)
    · have o144 : Old Z n0 T14.heap := (Old.keep o13 K14 (allS gz_b9 all0))
      obtain ⟨rk, hrk⟩ : ∃ z : Addr, (if (p1 &&& (3 : Int32)) = (0 : Int32) then wK0 else if (p1 &&& (3 : Int32)) = (1 : Int32) then wK1 else if (p1 &&& (3 : Int32)) = (2 : Int32) then wK2 else wK3) = z := ⟨_, rfl⟩
      obtain ⟨_, _, ⟨T145, L145, k145, n145⟩, -, X145, ⟨Lc145, hQ145, l145, y145, z145⟩, st145⟩ := Jvm.LawKit.callS X14 hx (y := own_y20) hown (mvT hZ (own_w hw 115 rfl)) (mvT hZ (own_w hw 116 rfl)) (mvT hZ (own_w hw 117 rfl)) (mvT hZ (own_w hw 118 rfl)) (by decide) (backOf (W := 0) (rmA21 l Z a0 hw [] (p1) rk cs wf wK0 wK1 wK2 wK3 wL T14.heap n0 o144 G0   hrk) hZ (own_w hw 118 rfl) (own_w hw 117 rfl) (by decide) (by decide)) (g := (mkF m 67 #[.val (.int p1), .val (.long q2), .second, .val (.int p3), .val (.int p4), .val (.ref b1), .val (.ref b9), .val (.ref b9), .val (.ref b1), .unset, .unset, .unset, .unset] [(.int p1)])) rfl (by rw [hml]; rfl) (argsL := [(.int p1)]) (rest := []) (lenOf own_pd16 rfl) rfl (by show 2 * 0 + _ ≤ _; exact Nat.le_of_eq rfl) (hb hby at_67) (fun _ _ => ⟨rfl, rfl, (by decide : 8 + 0 ≤ _), (by decide : 68 + 0 ≤ _)⟩)
      dsimp only [Pt.U, Pt.locs, Pt.cells, Pt.slots] at X145 l145 y145 z145 st145 hQ145
      subst l145 y145 z145
      obtain ⟨rfl, Nq145, e145⟩ := hQ145
      have N145 := Fr.app N14 Nq145
      obtain ⟨T146, h146, X146, e146, E146, A146, D146, -, st146⟩ := newO X145 hx hZ hown (own_w hw 122 rfl) (own_w hw 123 rfl) (own_w hw 124 rfl) e145 (g := (mkF m 72 #[.val (.int p1), .val (.long q2), .second, .val (.int p3), .val (.int p4), .val (.ref b1), .val (.ref b9), .val (.ref b9), .val (.ref b1), .val (.ref rk), .unset, .unset, .unset] [])) rfl (hb hby at_72) (by decide) (by decide)
      obtain ⟨b146, q_b146⟩ : ∃ z, z = T14.heap.size := ⟨_, rfl⟩
      rw [← q_b146] at A146 D146 st146
      have sz_b146 : h0.size ≤ b146 := Nat.le_trans (Nat.le_trans (Nat.le_trans (Nat.le_trans (Nat.le_trans E1.1 E2.1) K8.1) E9.1) K14.1) (Nat.le_of_eq q_b146.symm)
      have gz_b146 : n0 ≤ b146 := Nat.le_trans Z0 sz_b146
      have f147 := ((f10.ext E9).keep K14)
      have ne_a2_b146 : a2 ≠ b146 := Nat.ne_of_lt (Nat.lt_of_lt_of_le f147.lt (Nat.le_of_eq q_b146.symm))
      have f148 := ((Q8_0.ext E9).keep K14)
      have ne_b1_b146 : b1 ≠ b146 := Nat.ne_of_lt (Nat.lt_of_lt_of_le f148.lt (Nat.le_of_eq q_b146.symm))
      have f149 := ((f11.ext E9).keep K14 (ninS ne_b2_b9 nin0))
      have ne_b2_b146 : b2 ≠ b146 := Nat.ne_of_lt (Nat.lt_of_lt_of_le f149.lt (Nat.le_of_eq q_b146.symm))
      have ne_b9_b146 : b9 ≠ b146 := Nat.ne_of_lt (Nat.lt_of_lt_of_le Q14_0.lt (Nat.le_of_eq q_b146.symm))
      have hC := hC.trans (CHr.ext E146 hC.1)
      have hk := Nat.le_trans hk E146.1
      have F146_members : Fld Z h146 b146 "com/example/assemble_quorum/assemblequorum/io/Message$Builder" "members" "Ljava/util/List;" .null := D146 (Or.inl (own_w hw 136 rfl)) (ty := (.object "java/util/List")) (by decide)
      have F146_kind : Fld Z h146 b146 "com/example/assemble_quorum/assemblequorum/io/Message$Builder" "kind" "Lcom/example/assemble_quorum/assemblequorum/io/Message$Kind;" .null := D146 (Or.inr (own_w hw 138 rfl)) (ty := (.object "com/example/assemble_quorum/assemblequorum/io/Message$Kind")) (by decide)
      have F146_priorNumber : Fld Z h146 b146 "com/example/assemble_quorum/assemblequorum/io/Message$Builder" "priorNumber" "Lcom/example/assemble_quorum/assemblequorum/model/ProposalNumber;" .null := D146 (Or.inl (own_w hw 145 rfl)) (ty := (.object "com/example/assemble_quorum/assemblequorum/model/ProposalNumber")) (by decide)
      have F146_priorCandidate : Fld Z h146 b146 "com/example/assemble_quorum/assemblequorum/io/Message$Builder" "priorCandidate" "Lcom/example/assemble_quorum/assemblequorum/model/MemberAddress;" .null := D146 (Or.inl (own_w hw 147 rfl)) (ty := (.object "com/example/assemble_quorum/assemblequorum/model/MemberAddress")) (by decide)
      have F146_sender : Fld Z h146 b146 "com/example/assemble_quorum/assemblequorum/io/Message$Builder" "sender" "Lcom/example/assemble_quorum/assemblequorum/model/MemberAddress;" .null := D146 (Or.inl (own_w hw 164 rfl)) (ty := (.object "com/example/assemble_quorum/assemblequorum/model/MemberAddress")) (by decide)
      have F146_leader : Fld Z h146 b146 "com/example/assemble_quorum/assemblequorum/io/Message$Builder" "leader" "Lcom/example/assemble_quorum/assemblequorum/model/MemberAddress;" .null := D146 (Or.inl (own_w hw 168 rfl)) (ty := (.object "com/example/assemble_quorum/assemblequorum/model/MemberAddress")) (by decide)
      have F146_version : Fld Z h146 b146 "com/example/assemble_quorum/assemblequorum/io/Message$Builder" "version" "J" (.long (0 : Int64)) := D146 (Or.inl (own_w hw 172 rfl)) (ty := .long) (by decide)
      have F146_number : Fld Z h146 b146 "com/example/assemble_quorum/assemblequorum/io/Message$Builder" "number" "Lcom/example/assemble_quorum/assemblequorum/model/ProposalNumber;" .null := D146 (Or.inl (own_w hw 176 rfl)) (ty := (.object "com/example/assemble_quorum/assemblequorum/model/ProposalNumber")) (by decide)
      have F146_candidate : Fld Z h146 b146 "com/example/assemble_quorum/assemblequorum/io/Message$Builder" "candidate" "Lcom/example/assemble_quorum/assemblequorum/model/MemberAddress;" .null := D146 (Or.inl (own_w hw 180 rfl)) (ty := (.object "com/example/assemble_quorum/assemblequorum/model/MemberAddress")) (by decide)
      have F146_granted : Fld Z h146 b146 "com/example/assemble_quorum/assemblequorum/io/Message$Builder" "granted" "Z" (.int (0 : Int32)) := D146 (Or.inl (own_w hw 184 rfl)) (ty := .boolean) (by decide)
      have F146_topic : Fld Z h146 b146 "com/example/assemble_quorum/assemblequorum/io/Message$Builder" "topic" "Ljava/lang/String;" .null := D146 (Or.inl (own_w hw 215 rfl)) (ty := (.object "java/lang/String")) (by decide)
      have F146_payload : Fld Z h146 b146 "com/example/assemble_quorum/assemblequorum/io/Message$Builder" "payload" "[B" .null := D146 (Or.inl (own_w hw 219 rfl)) (ty := (.array .byte)) (by decide)
      obtain ⟨LL150, XL150, NL150⟩ : ∃ LL : List Loc, Stand p l e room_1 (s.setVm T14.vm) m #[(.int p1), (.long q2), (.int p3), (.int p4)] below meth c T146 LL 9 80 ∧ Fr n0 LL := ⟨_, X146, N145⟩
      have o151 : Old Z n0 h146 := (Old.ext o144 E146)
      obtain ⟨_, _, ⟨T152, L152, k152, n152⟩, -, X152, ⟨Lc152, hQ152, l152, y152, z152⟩, st152⟩ := XL150.specialBack hx (y := own_y21) rfl hown (mvT hZ (own_w hw 125 rfl)) (mvT hZ (own_w hw 126 rfl)) (mvT hZ (own_w hw 127 rfl)) (by decide) (backOf (W := 1) (rmA22 l Z a0 hw [] b146 rk  cs wf wK0 wK1 wK2 wK3 wL h146 n0 o151 G0 A146 F146_candidate F146_granted F146_kind F146_leader F146_members F146_number F146_payload F146_priorCandidate F146_priorNumber F146_sender F146_topic F146_version gz_b146 ) hZ (own_w hw 127 rfl) (own_w hw 124 rfl) (by decide) (by decide)) (g := (mkF m 78 #[.val (.int p1), .val (.long q2), .second, .val (.int p3), .val (.int p4), .val (.ref b1), .val (.ref b9), .val (.ref b9), .val (.ref b1), .val (.ref rk), .unset, .unset, .unset] [(.ref rk), (.ref b146), (.ref b146)])) rfl (by rw [hml]; rfl) (Steps.refl _) (a := b146) (argsL := [(.ref rk)]) (rest := [(.ref b146)]) (lenOf own_pd18 rfl) rfl (by show 2 * 0 + _ ≤ _; exact Nat.le_of_eq rfl) (hb hby at_78) (fun _ _ => ⟨rfl, e146, (by decide : 9 + 0 ≤ _), (by decide : 80 + 0 ≤ _)⟩)
      dsimp only [Pt.U, Pt.locs, Pt.cells, Pt.slots] at X152 l152 y152 z152 st152 hQ152
      subst l152 y152 z152
      obtain ⟨rfl, Nq152, K152, Q152_0, Q152_1, Q152_2, Q152_3, Q152_4, Q152_5, Q152_6, Q152_7, Q152_8, Q152_9, Q152_10, Q152_11, Q152_12⟩ := hQ152
      have hC := hC.trans (CHr.keep K152 (sfS (Safe.exa hZ.alike A146 (by decide) (by decide)) sf0) hC.1)
      have hk := Nat.le_trans hk K152.1
      have N152 := Fr.app NL150 Nq152
      have g154 : ∀ t, Steps p.tables e below (T152.setTop (mkF m 87 #[.val (.int p1), .val (.long q2), .second, .val (.int p3), .val (.int p4), .val (.ref b1), .val (.ref b9), .val (.ref b9), .val (.ref b1), .val (.ref rk), .val (.ref b146), .unset, .unset] [(.int (p4 &&& (4 : Int32)))])) t → Steps p.tables e below (s₁.setTop (entryFrame m #[(.int p1), (.long q2), (.int p3), (.int p4)] maxLocals)) t := by
        intro t k
        refine g102 t ?_
        show Steps p.tables e below (T14.setTop (mkF m 55 #[.val (.int p1), .val (.long q2), .second, .val (.int p3), .val (.int p4), .val (.ref b1), .val (.ref b9), .val (.ref b9), .unset, .unset, .unset, .unset, .unset] [(.int (p4 &&& (2 : Int32)))])) _
        refine XS.ifNo X14.here hx rfl (hb hby at_55) rfl ((if0 _ _).trans (feq hc101).1) ?_
        refine XS.aload X14.here hx rfl (hb hby at_58) rfl rfl ?_
        refine XS.goto X14.here hx rfl (pc0 := 60) (pc' := 64) rfl (hb hby at_60) (by decide) (by decide) ?_
        refine XS.astore X14.here hx rfl (hb hby at_64) rfl rfl (l' := #[.val (.int p1), .val (.long q2), .second, .val (.int p3), .val (.int p4), .val (.ref b1), .val (.ref b9), .val (.ref b9), .val (.ref b1), .unset, .unset, .unset, .unset]) rfl ?_
        refine XS.iloadN X14.here hx rfl (hb hby at_66) rfl ?_
        refine st145 _ ?_
        refine XS.astore X145.here hx rfl (hb hby at_70) rfl rfl (l' := #[.val (.int p1), .val (.long q2), .second, .val (.int p3), .val (.int p4), .val (.ref b1), .val (.ref b9), .val (.ref b9), .val (.ref b1), .val (.ref rk), .unset, .unset, .unset]) rfl ?_
        refine st146 _ ?_
        show Steps p.tables e below (T146.setTop (mkF m 75 #[.val (.int p1), .val (.long q2), .second, .val (.int p3), .val (.int p4), .val (.ref b1), .val (.ref b9), .val (.ref b9), .val (.ref b1), .val (.ref rk), .unset, .unset, .unset] [(.ref b146)])) _
        refine XS.dup X146.here hx rfl (hb hby at_75) rfl rfl ?_
        refine XS.aload X146.here hx rfl (hb hby at_76) rfl rfl ?_
        refine st152.trans ?_
        refine XS.astore X152.here hx rfl (hb hby at_81) rfl rfl (l' := #[.val (.int p1), .val (.long q2), .second, .val (.int p3), .val (.int p4), .val (.ref b1), .val (.ref b9), .val (.ref b9), .val (.ref b1), .val (.ref rk), .val (.ref b146), .unset, .unset]) rfl ?_
        refine XS.iload X152.here hx rfl (hb hby at_83) rfl ?_
        refine XS.iconst X152.here hx rfl (hb hby at_85) ?_
        show Steps p.tables e below (T152.setTop (mkF m 86 #[.val (.int p1), .val (.long q2), .second, .val (.int p3), .val (.int p4), .val (.ref b1), .val (.ref b9), .val (.ref b9), .val (.ref b1), .val (.ref rk), .val (.ref b146), .unset, .unset] [(.int (4 : Int32)), (.int p4)])) _
        refine XS.iand X152.here hx rfl (hb hby at_86) rfl ?_
        exact k
      by_cases hc153 : (p4 &&& (4 : Int32)) = (0 : Int32)
      · have o155 : Old Z n0 T152.heap := (Old.keep o151 K152 (allS gz_b146 all0))
        obtain ⟨cq156, kq156, q156a, q156b, q156c⟩ := isOf hZ rfl Q152_0
        obtain ⟨_, _, ⟨T156, L156, k156, n156⟩, -, X156, ⟨Lc156, hQ156, l156, y156, z156⟩, st156⟩ := X152.virtualBack hx (y := own_y23) (z := own_y23) hown (mvT hZ (own_w hw 139 rfl)) (mvT hZ (own_w hw 140 rfl)) (notFace_of_selects (args := #[]) (mvT hZ (own_w hw 142 rfl))) (mvT hZ (own_w hw 142 rfl)) (mvT hZ (own_w hw 141 rfl)) (by decide) (backOf (W := 0) (rmA35 l Z a0 hw [] b146 rk b9 b1  cs wf wK0 wK1 wK2 wK3 wL T152.heap n0 o155 G0 Q152_0 Q152_9 Q152_10 Q152_2 Q152_6 Q152_1 Q152_8 Q152_12 Q152_4 Q152_3 Q152_5 Q152_11 Q152_7 gz_b146 ) hZ (own_w hw 143 rfl) (own_w hw 124 rfl) (by decide) (by decide)) q156a q156c (g := (mkF m 116 #[.val (.int p1), .val (.long q2), .second, .val (.int p3), .val (.int p4), .val (.ref b1), .val (.ref b9), .val (.ref b9), .val (.ref b1), .val (.ref rk), .val (.ref b146), .unset, .unset] [(.ref b1), (.ref b9), (.ref b146)])) rfl (by rw [hml]; rfl) (Steps.refl _) (argsL := [(.ref b9), (.ref b1)]) (rest := []) (lenOf own_pd19 rfl) rfl (by show 2 * 0 + _ ≤ _; exact Nat.le_of_eq rfl) (hb hby at_116) (fun _ _ => ⟨rfl, rfl, (by decide : 9 + 0 ≤ _), (by decide : 80 + 0 ≤ _)⟩)
        dsimp only [Pt.U, Pt.locs, Pt.cells, Pt.slots] at X156 l156 y156 z156 st156 hQ156
        subst l156 y156 z156
        obtain ⟨rfl, Nq156, K156, Q156_0, Q156_1, Q156_2, Q156_3, Q156_4, Q156_5, Q156_6, Q156_7, Q156_8, Q156_9, Q156_10, Q156_11, Q156_12⟩ := hQ156
        have hC := hC.trans (CHr.keep K156 (sfS (Safe.exa hZ.alike Q152_0 (by decide) (by decide)) sf0) hC.1)
        have hk := Nat.le_trans hk K156.1
        have N156 := Fr.app N152 Nq156
        have o157 : Old Z n0 T156.heap := (Old.keep o155 K156 (allS gz_b146 all0))
        obtain ⟨cq158, kq158, q158a, q158b, q158c⟩ := isOf hZ rfl Q156_0
        obtain ⟨_, _, ⟨T158, L158, k158, n158⟩, -, X158, ⟨Lc158, hQ158, l158, y158, z158⟩, st158⟩ := X156.virtualBack hx (y := own_y24) (z := own_y24) hown (mvT hZ (own_w hw 148 rfl)) (mvT hZ (own_w hw 149 rfl)) (notFace_of_selects (args := #[]) (mvT hZ (own_w hw 151 rfl))) (mvT hZ (own_w hw 151 rfl)) (mvT hZ (own_w hw 150 rfl)) (by decide) (backOf (W := 0) (rmA57 l Z a0 hw [] b146 rk b1 b9  cs wf wK0 wK1 wK2 wK3 wL T156.heap n0 o157 G0 Q156_0 Q156_9 Q156_10 Q156_2 Q156_6 Q156_1 Q156_8 Q156_12 Q156_4 Q156_3 Q156_5 Q156_11 Q156_7  ) hZ (own_w hw 152 rfl) (own_w hw 124 rfl) (by decide) (by decide)) q158a q158c (g := (mkF m 132 #[.val (.int p1), .val (.long q2), .second, .val (.int p3), .val (.int p4), .val (.ref b1), .val (.ref b9), .val (.ref b9), .val (.ref b1), .val (.ref rk), .val (.ref b146), .val (.ref b146), .unset] [(.ref b146)])) rfl (by rw [hml]; rfl) (Steps.refl _) (argsL := []) (rest := []) (lenOf own_pd22 rfl) rfl (by show 2 * 0 + _ ≤ _; exact Nat.le_of_eq rfl) (hb hby at_132) (fun _ _ => ⟨rfl, rfl, (by decide : 9 + 1 ≤ _), (by decide : 80 + 12 ≤ _)⟩)
        dsimp only [Pt.U, Pt.locs, Pt.cells, Pt.slots] at X158 l158 y158 z158 st158 hQ158
        subst l158 y158 z158
        obtain ⟨bm, rfl, Nq158, K158, hb158, Q158_0, Q158_1, Q158_2, Q158_3, Q158_4, Q158_5, Q158_6⟩ := hQ158
        have hC := hC.trans (CHr.keep K158 sf0 hC.1)
        have hk := Nat.le_trans hk K158.1
        have N158 := Fr.app N156 Nq158
        have sz_bm : h0.size ≤ bm := Nat.le_trans (Nat.le_trans (Nat.le_trans (Nat.le_trans (Nat.le_trans (Nat.le_trans (Nat.le_trans (Nat.le_trans E1.1 E2.1) K8.1) E9.1) K14.1) E146.1) K152.1) K156.1) hb158
        have gz_bm : n0 ≤ bm := Nat.le_trans Z0 sz_bm
        have ne_a2_bm : a2 ≠ bm := Nat.ne_of_lt (Nat.lt_of_lt_of_le (((f147.ext E146).keep K152).keep K156).lt hb158)
        have ne_b1_bm : b1 ≠ bm := Nat.ne_of_lt (Nat.lt_of_lt_of_le (((f148.ext E146).keep K152).keep K156).lt hb158)
        have ne_b146_bm : b146 ≠ bm := Nat.ne_of_lt (Nat.lt_of_lt_of_le Q156_0.lt hb158)
        have ne_b2_bm : b2 ≠ bm := Nat.ne_of_lt (Nat.lt_of_lt_of_le (((f149.ext E146).keep K152 (ninS ne_b2_b146 nin0)).keep K156 (ninS ne_b2_b146 nin0)).lt hb158)
        have ne_b9_bm : b9 ≠ bm := Nat.ne_of_lt (Nat.lt_of_lt_of_le (((Q14_0.ext E146).keep K152).keep K156).lt hb158)
        have o159 : Old Z n0 T158.heap := (Old.keep o157 K158 all0)
        obtain ⟨cq160, kq160, q160a, q160b, q160c⟩ := isOf hZ rfl Q158_0
        obtain ⟨_, _, ⟨T160, L160, k160, n160⟩, -, X160, ⟨Lc160, hQ160, l160, y160, z160⟩, st160⟩ := X158.virtualBack hx (y := own_y28) (z := own_y28) hown (mvT hZ (own_w hw 222 rfl)) (mvT hZ (own_w hw 223 rfl)) (notFace_of_selects (args := #[]) (mvT hZ (own_w hw 225 rfl))) (mvT hZ (own_w hw 225 rfl)) (mvT hZ (own_w hw 224 rfl)) (by decide) (backOf (W := 0) (rmA59 l Z a0 hw [] bm rk b1 b9  cs wf wK0 wK1 wK2 wK3 wL T158.heap n0 o159 G0 Q158_0 Q158_5 Q158_1 Q158_6 Q158_4 Q158_3 Q158_2  ) hZ (own_w hw 226 rfl) (own_w hw 155 rfl) (by decide) (by decide)) q160a q160c (g := (mkF m 139 #[.val (.int p1), .val (.long q2), .second, .val (.int p3), .val (.int p4), .val (.ref b1), .val (.ref b9), .val (.ref b9), .val (.ref b1), .val (.ref rk), .val (.ref b146), .val (.ref b146), .val (.ref bm)] [(.ref bm)])) rfl (by rw [hml]; rfl) (Steps.refl _) (argsL := []) (rest := []) (lenOf own_pd23 rfl) rfl (by show 2 * 0 + _ ≤ _; exact Nat.le_of_eq rfl) (hb hby at_139) (fun _ _ => ⟨rfl, rfl, (by decide : 10 + 0 ≤ _), (by decide : 92 + 0 ≤ _)⟩)
        dsimp only [Pt.U, Pt.locs, Pt.cells, Pt.slots] at X160 l160 y160 z160 st160 hQ160
        subst l160 y160 z160
        obtain ⟨rfl, Nq160, e160⟩ := hQ160
        have N160 := Fr.app N158 Nq160
        obtain ⟨LL161, XL161, NL161⟩ : ∃ LL : List Loc, Stand p l e room_1 (s.setVm T14.vm) m #[(.int p1), (.long q2), (.int p3), (.int p4)] below meth c T160 LL 10 92 ∧ Fr n0 LL := ⟨_, X160, N160⟩
        obtain ⟨cq162, kq162, q162a, q162b, q162c⟩ := isOf hZ e160 Q158_0
        obtain ⟨_, _, ⟨T162, L162, k162, n162⟩, -, X162, ⟨Lc162, hQ162, l162, y162, z162⟩, st162⟩ := XL161.virtualBack hx (y := own_y29) (z := own_y29) hown (mvT hZ (own_w hw 227 rfl)) (mvT hZ (own_w hw 228 rfl)) (notFace_of_selects (args := #[]) (mvT hZ (own_w hw 230 rfl))) (mvT hZ (own_w hw 230 rfl)) (mvT hZ (own_w hw 229 rfl)) (by decide) (backOf (W := 0) (rmA60 l Z a0 hw [] bm rk b1 b9  cs wf wK0 wK1 wK2 wK3 wL T158.heap n0 o159 G0 Q158_0 Q158_5 Q158_1 Q158_6 Q158_4 Q158_3 Q158_2  ) hZ (own_w hw 231 rfl) (own_w hw 155 rfl) (by decide) (by decide)) q162a q162c (g := (mkF m 149 #[.val (.int p1), .val (.long q2), .second, .val (.int p3), .val (.int p4), .val (.ref b1), .val (.ref b9), .val (.ref b9), .val (.ref b1), .val (.ref rk), .val (.ref b146), .val (.ref b146), .val (.ref bm)] [(.ref bm)])) rfl (by rw [hml]; rfl) (Steps.refl _) (argsL := []) (rest := []) (lenOf own_pd24 rfl) rfl (by show 2 * 0 + _ ≤ _; exact Nat.le_of_eq rfl) (hb hby at_149) (fun _ _ => ⟨rfl, e160, (by decide : 10 + 0 ≤ _), (by decide : 92 + 0 ≤ _)⟩)
        dsimp only [Pt.U, Pt.locs, Pt.cells, Pt.slots] at X162 l162 y162 z162 st162 hQ162
        subst l162 y162 z162
        obtain ⟨rfl, Nq162, e162⟩ := hQ162
        have N162 := Fr.app NL161 Nq162
        obtain ⟨cq163, kq163, q163a, q163b, q163c⟩ := isOf hZ e162 Q158_0
        obtain ⟨_, _, ⟨T163, L163, k163, n163⟩, -, X163, ⟨Lc163, hQ163, l163, y163, z163⟩, st163⟩ := X162.virtualBack hx (y := own_y30) (z := own_y30) hown (mvT hZ (own_w hw 232 rfl)) (mvT hZ (own_w hw 233 rfl)) (notFace_of_selects (args := #[]) (mvT hZ (own_w hw 235 rfl))) (mvT hZ (own_w hw 235 rfl)) (mvT hZ (own_w hw 234 rfl)) (by decide) (backOf (W := 0) (rmA61 l Z a0 hw [] bm rk b1 b9  cs wf wK0 wK1 wK2 wK3 wL T158.heap n0 o159 G0 Q158_0 Q158_5 Q158_1 Q158_6 Q158_4 Q158_3 Q158_2  ) hZ (own_w hw 236 rfl) (own_w hw 155 rfl) (by decide) (by decide)) q163a q163c (g := (mkF m 159 #[.val (.int p1), .val (.long q2), .second, .val (.int p3), .val (.int p4), .val (.ref b1), .val (.ref b9), .val (.ref b9), .val (.ref b1), .val (.ref rk), .val (.ref b146), .val (.ref b146), .val (.ref bm)] [(.ref bm)])) rfl (by rw [hml]; rfl) (Steps.refl _) (argsL := []) (rest := []) (lenOf own_pd25 rfl) rfl (by show 2 * 0 + _ ≤ _; exact Nat.le_of_eq rfl) (hb hby at_159) (fun _ _ => ⟨rfl, e162, (by decide : 10 + 0 ≤ _), (by decide : 92 + 0 ≤ _)⟩)
        dsimp only [Pt.U, Pt.locs, Pt.cells, Pt.slots] at X163 l163 y163 z163 st163 hQ163
        subst l163 y163 z163
        obtain ⟨rfl, Nq163, e163⟩ := hQ163
        have N163 := Fr.app N162 Nq163
        obtain ⟨cq164, kq164, q164a, q164b, q164c⟩ := isOf hZ e163 Q158_0
        obtain ⟨_, _, ⟨T164, L164, k164, n164⟩, -, X164, ⟨Lc164, hQ164, l164, y164, z164⟩, st164⟩ := X163.virtualBack hx (y := own_y31) (z := own_y31) hown (mvT hZ (own_w hw 237 rfl)) (mvT hZ (own_w hw 238 rfl)) (notFace_of_selects (args := #[]) (mvT hZ (own_w hw 240 rfl))) (mvT hZ (own_w hw 240 rfl)) (mvT hZ (own_w hw 239 rfl)) (by decide) (backOf (W := 0) (rmA62 l Z a0 hw [] bm rk b1 b9  cs wf wK0 wK1 wK2 wK3 wL T158.heap n0 o159 G0 Q158_0 Q158_5 Q158_1 Q158_6 Q158_4 Q158_3 Q158_2  ) hZ (own_w hw 241 rfl) (own_w hw 155 rfl) (by decide) (by decide)) q164a q164c (g := (mkF m 169 #[.val (.int p1), .val (.long q2), .second, .val (.int p3), .val (.int p4), .val (.ref b1), .val (.ref b9), .val (.ref b9), .val (.ref b1), .val (.ref rk), .val (.ref b146), .val (.ref b146), .val (.ref bm)] [(.ref bm)])) rfl (by rw [hml]; rfl) (Steps.refl _) (argsL := []) (rest := []) (lenOf own_pd23 rfl) rfl (by show 2 * 0 + _ ≤ _; exact Nat.le_of_eq rfl) (hb hby at_169) (fun _ _ => ⟨rfl, e163, (by decide : 10 + 0 ≤ _), (by decide : 92 + 0 ≤ _)⟩)
        dsimp only [Pt.U, Pt.locs, Pt.cells, Pt.slots] at X164 l164 y164 z164 st164 hQ164
        subst l164 y164 z164
        obtain ⟨rfl, Nq164, e164⟩ := hQ164
        have N164 := Fr.app N163 Nq164
        obtain ⟨cq165, kq165, q165a, q165b, q165c⟩ := isOf hZ e164 Q158_0
        obtain ⟨_, _, ⟨T165, L165, k165, n165⟩, -, X165, ⟨Lc165, hQ165, l165, y165, z165⟩, st165⟩ := X164.virtualBack hx (y := own_y32) (z := own_y32) hown (mvT hZ (own_w hw 242 rfl)) (mvT hZ (own_w hw 243 rfl)) (notFace_of_selects (args := #[]) (mvT hZ (own_w hw 245 rfl))) (mvT hZ (own_w hw 245 rfl)) (mvT hZ (own_w hw 244 rfl)) (by decide) (backOf (W := 0) (rmA63 l Z a0 hw [] bm rk b1 b9  cs wf wK0 wK1 wK2 wK3 wL T158.heap n0 o159 G0 Q158_0 Q158_5 Q158_1 Q158_6 Q158_4 Q158_3 Q158_2  ) hZ (own_w hw 246 rfl) (own_w hw 155 rfl) (by decide) (by decide)) q165a q165c (g := (mkF m 177 #[.val (.int p1), .val (.long q2), .second, .val (.int p3), .val (.int p4), .val (.ref b1), .val (.ref b9), .val (.ref b9), .val (.ref b1), .val (.ref rk), .val (.ref b146), .val (.ref b146), .val (.ref bm)] [(.ref bm)])) rfl (by rw [hml]; rfl) (Steps.refl _) (argsL := []) (rest := []) (lenOf own_pd24 rfl) rfl (by show 2 * 0 + _ ≤ _; exact Nat.le_of_eq rfl) (hb hby at_177) (fun _ _ => ⟨rfl, e164, (by decide : 10 + 0 ≤ _), (by decide : 92 + 0 ≤ _)⟩)
        dsimp only [Pt.U, Pt.locs, Pt.cells, Pt.slots] at X165 l165 y165 z165 st165 hQ165
        subst l165 y165 z165
        obtain ⟨rfl, Nq165, e165⟩ := hQ165
        have N165 := Fr.app N164 Nq165
        obtain ⟨LL166, XL166, NL166⟩ : ∃ LL : List Loc, Stand p l e room_1 (s.setVm T14.vm) m #[(.int p1), (.long q2), (.int p3), (.int p4)] below meth c T165 LL 10 92 ∧ Fr n0 LL := ⟨_, X165, N165⟩
        obtain ⟨cq167, kq167, q167a, q167b, q167c⟩ := isOf hZ e165 Q158_0
        obtain ⟨_, _, ⟨T167, L167, k167, n167⟩, -, X167, ⟨Lc167, hQ167, l167, y167, z167⟩, st167⟩ := XL166.virtualBack hx (y := own_y33) (z := own_y33) hown (mvT hZ (own_w hw 247 rfl)) (mvT hZ (own_w hw 248 rfl)) (notFace_of_selects (args := #[]) (mvT hZ (own_w hw 250 rfl))) (mvT hZ (own_w hw 250 rfl)) (mvT hZ (own_w hw 249 rfl)) (by decide) (backOf (W := 0) (rmA64 l Z a0 hw [] bm rk b1 b9  cs wf wK0 wK1 wK2 wK3 wL T158.heap n0 o159 G0 Q158_0 Q158_5 Q158_1 Q158_6 Q158_4 Q158_3 Q158_2  ) hZ (own_w hw 251 rfl) (own_w hw 155 rfl) (by decide) (by decide)) q167a q167c (g := (mkF m 185 #[.val (.int p1), .val (.long q2), .second, .val (.int p3), .val (.int p4), .val (.ref b1), .val (.ref b9), .val (.ref b9), .val (.ref b1), .val (.ref rk), .val (.ref b146), .val (.ref b146), .val (.ref bm)] [(.ref bm)])) rfl (by rw [hml]; rfl) (Steps.refl _) (argsL := []) (rest := []) (lenOf own_pd24 rfl) rfl (by show 2 * 0 + _ ≤ _; exact Nat.le_of_eq rfl) (hb hby at_185) (fun _ _ => ⟨rfl, e165, (by decide : 10 + 0 ≤ _), (by decide : 92 + 0 ≤ _)⟩)
        dsimp only [Pt.U, Pt.locs, Pt.cells, Pt.slots] at X167 l167 y167 z167 st167 hQ167
        subst l167 y167 z167
        obtain ⟨rfl, Nq167, e167⟩ := hQ167
        have N167 := Fr.app NL166 Nq167
        have g168 : ∀ t, Steps p.tables e below (T167.setTop (mkF m 196 #[.val (.int p1), .val (.long q2), .second, .val (.int p3), .val (.int p4), .val (.ref b1), .val (.ref b9), .val (.ref b9), .val (.ref b1), .val (.ref rk), .val (.ref b146), .val (.ref b146), .val (.ref bm)] [(.int (1 : Int32))])) t → Steps p.tables e below (s₁.setTop (entryFrame m #[(.int p1), (.long q2), (.int p3), (.int p4)] maxLocals)) t := by
          intro t k
          refine g154 t ?_
          show Steps p.tables e below (T152.setTop (mkF m 87 #[.val (.int p1), .val (.long q2), .second, .val (.int p3), .val (.int p4), .val (.ref b1), .val (.ref b9), .val (.ref b9), .val (.ref b1), .val (.ref rk), .val (.ref b146), .unset, .unset] [(.int (p4 &&& (4 : Int32)))])) _
          refine XS.ifYes X152.here hx rfl (pc0 := 87) (pc' := 110) rfl (hb hby at_87) rfl ((if0 _ _).trans (teq hc153).1) (by decide) (by decide) ?_
          refine XS.aload X152.here hx rfl (hb hby at_110) rfl rfl ?_
          refine XS.aload X152.here hx rfl (hb hby at_112) rfl rfl ?_
          refine XS.aload X152.here hx rfl (hb hby at_114) rfl rfl ?_
          refine st156.trans ?_
          refine XS.astore X156.here hx rfl (hb hby at_119) rfl rfl (l' := #[.val (.int p1), .val (.long q2), .second, .val (.int p3), .val (.int p4), .val (.ref b1), .val (.ref b9), .val (.ref b9), .val (.ref b1), .val (.ref rk), .val (.ref b146), .val (.ref b146), .unset]) rfl ?_
          refine XS.aload X156.here hx rfl (hb hby at_121) rfl rfl ?_
          refine XS.aload X156.here hx rfl (hb hby at_123) rfl rfl ?_
          show Steps p.tables e below (T156.setTop (mkF m 125 #[.val (.int p1), .val (.long q2), .second, .val (.int p3), .val (.int p4), .val (.ref b1), .val (.ref b9), .val (.ref b9), .val (.ref b1), .val (.ref rk), .val (.ref b146), .val (.ref b146), .unset] [(.ref b146), (.ref b146)])) _
          refine Jvm.RoadKit.acmp (g := (mkF m 125 #[.val (.int p1), .val (.long q2), .second, .val (.int p3), .val (.int p4), .val (.ref b1), .val (.ref b9), .val (.ref b9), .val (.ref b1), .val (.ref rk), .val (.ref b146), .val (.ref b146), .unset] [(.ref b146), (.ref b146)])) X156 hx rfl rfl rfl (pc0 := 125) (pc' := 130) (same := true) rfl (hb hby at_125) rfl (decide_eq_true rfl) (by decide) (by decide) ?_
          refine XS.aload X156.here hx rfl (hb hby at_130) rfl rfl ?_
          refine st158.trans ?_
          refine XS.astore X158.here hx rfl (hb hby at_135) rfl rfl (l' := #[.val (.int p1), .val (.long q2), .second, .val (.int p3), .val (.int p4), .val (.ref b1), .val (.ref b9), .val (.ref b9), .val (.ref b1), .val (.ref rk), .val (.ref b146), .val (.ref b146), .val (.ref bm)]) rfl ?_
          refine XS.aload X158.here hx rfl (hb hby at_137) rfl rfl ?_
          refine st160.trans ?_
          refine XS.aload X160.here hx rfl (hb hby at_142) rfl rfl ?_
          refine Jvm.RoadKit.acmp (g := (mkF m 144 #[.val (.int p1), .val (.long q2), .second, .val (.int p3), .val (.int p4), .val (.ref b1), .val (.ref b9), .val (.ref b9), .val (.ref b1), .val (.ref rk), .val (.ref b146), .val (.ref b146), .val (.ref bm)] [(.ref b9), (.ref b9)])) X160 hx rfl rfl rfl (pc0 := 144) (pc' := 147) (same := true) rfl (hb hby at_144) rfl (decide_eq_true rfl) (by decide) (by decide) ?_
          show Steps p.tables e below (T160.setTop (mkF m 147 #[.val (.int p1), .val (.long q2), .second, .val (.int p3), .val (.int p4), .val (.ref b1), .val (.ref b9), .val (.ref b9), .val (.ref b1), .val (.ref rk), .val (.ref b146), .val (.ref b146), .val (.ref bm)] [])) _
          refine XS.aload X160.here hx rfl (hb hby at_147) rfl rfl ?_
          refine st162.trans ?_
          refine XS.aload X162.here hx rfl (hb hby at_152) rfl rfl ?_
          refine Jvm.RoadKit.acmp (g := (mkF m 154 #[.val (.int p1), .val (.long q2), .second, .val (.int p3), .val (.int p4), .val (.ref b1), .val (.ref b9), .val (.ref b9), .val (.ref b1), .val (.ref rk), .val (.ref b146), .val (.ref b146), .val (.ref bm)] [(.ref b1), (.ref b1)])) X162 hx rfl rfl rfl (pc0 := 154) (pc' := 157) (same := true) rfl (hb hby at_154) rfl (decide_eq_true rfl) (by decide) (by decide) ?_
          refine XS.aload X162.here hx rfl (hb hby at_157) rfl rfl ?_
          refine st163.trans ?_
          refine XS.aload X163.here hx rfl (hb hby at_162) rfl rfl ?_
          refine Jvm.RoadKit.acmp (g := (mkF m 164 #[.val (.int p1), .val (.long q2), .second, .val (.int p3), .val (.int p4), .val (.ref b1), .val (.ref b9), .val (.ref b9), .val (.ref b1), .val (.ref rk), .val (.ref b146), .val (.ref b146), .val (.ref bm)] [(.ref rk), (.ref rk)])) X163 hx rfl rfl rfl (pc0 := 164) (pc' := 167) (same := true) rfl (hb hby at_164) rfl (decide_eq_true rfl) (by decide) (by decide) ?_
          show Steps p.tables e below (T163.setTop (mkF m 167 #[.val (.int p1), .val (.long q2), .second, .val (.int p3), .val (.int p4), .val (.ref b1), .val (.ref b9), .val (.ref b9), .val (.ref b1), .val (.ref rk), .val (.ref b146), .val (.ref b146), .val (.ref bm)] [])) _
          refine XS.aload X163.here hx rfl (hb hby at_167) rfl rfl ?_
          refine st164.trans ?_
          refine XS.ifnonnullNo X164.here hx rfl (hb hby at_172) rfl ?_
          refine XS.aload X164.here hx rfl (hb hby at_175) rfl rfl ?_
          refine st165.trans ?_
          refine XS.ifnonnullNo X165.here hx rfl (hb hby at_180) rfl ?_
          refine XS.aload X165.here hx rfl (hb hby at_183) rfl rfl ?_
          refine st167.trans ?_
          show Steps p.tables e below (T167.setTop (mkF m 188 #[.val (.int p1), .val (.long q2), .second, .val (.int p3), .val (.int p4), .val (.ref b1), .val (.ref b9), .val (.ref b9), .val (.ref b1), .val (.ref rk), .val (.ref b146), .val (.ref b146), .val (.ref bm)] [.null])) _
          refine XS.ifnonnullNo X167.here hx rfl (hb hby at_188) rfl ?_
          refine XS.iconst X167.here hx rfl (hb hby at_191) ?_
          refine XS.goto X167.here hx rfl (pc0 := 192) (pc' := 196) rfl (hb hby at_192) (by decide) (by decide) ?_
          exact k
        obtain ⟨fs, hrt, hrun, hended, hRW⟩ := X167.leaveW hS (by rw [e167]; exact hk) (v := some (.int (1 : Int32))) (fun h => by rw [Bd.returns] at h; cases h)
        refine ⟨_, _, g168 _ ?_, hrun, hended, _, _, rfl, ?_, ?_, hRW.1, hRW.2.1, hRW.2.2.1, hRW.2.2.2.mono (by decide) (by decide)⟩
        · show Steps p.tables e below (T167.setTop (mkF m 196 #[.val (.int p1), .val (.long q2), .second, .val (.int p3), .val (.int p4), .val (.ref b1), .val (.ref b9), .val (.ref b9), .val (.ref b1), .val (.ref rk), .val (.ref b146), .val (.ref b146), .val (.ref bm)] [(.int (1 : Int32))])) _
          exact retN X167 hx (t := .boolean) Bd.returns (by simp) (hb hby at_196) hrt
        · show own_Q_rm0 Z p1 q2 p3 p4 cs wf wK0 wK1 wK2 wK3 wL h0 n0 _ T167.heap _
          rw [e167]
          exact ⟨rfl, N167⟩
        · rw [hh]
          show CHr Z own_EL s.vm h0 T167.vm T167.heap
          rw [e167]
          exact hC.trans (CHv.at X167 hZ (own_EW hw) hC.1)
      · have o169 : Old Z n0 T152.heap := (Old.keep o151 K152 (allS gz_b146 all0))
        obtain ⟨cq170, kq170, q170a, q170b, q170c⟩ := isOf hZ rfl Q152_0
        obtain ⟨_, _, ⟨T170, L170, k170, n170⟩, -, X170, ⟨Lc170, hQ170, l170, y170, z170⟩, st170⟩ := X152.virtualBack hx (y := own_y23) (z := own_y23) hown (mvT hZ (own_w hw 139 rfl)) (mvT hZ (own_w hw 140 rfl)) (notFace_of_selects (args := #[]) (mvT hZ (own_w hw 142 rfl))) (mvT hZ (own_w hw 142 rfl)) (mvT hZ (own_w hw 141 rfl)) (by decide) (backOf (W := 0) (rmA35 l Z a0 hw [] b146 rk b9 b1  cs wf wK0 wK1 wK2 wK3 wL T152.heap n0 o169 G0 Q152_0 Q152_9 Q152_10 Q152_2 Q152_6 Q152_1 Q152_8 Q152_12 Q152_4 Q152_3 Q152_5 Q152_11 Q152_7 gz_b146 ) hZ (own_w hw 143 rfl) (own_w hw 124 rfl) (by decide) (by decide)) q170a q170c (g := (mkF m 96 #[.val (.int p1), .val (.long q2), .second, .val (.int p3), .val (.int p4), .val (.ref b1), .val (.ref b9), .val (.ref b9), .val (.ref b1), .val (.ref rk), .val (.ref b146), .unset, .unset] [(.ref b1), (.ref b9), (.ref b146)])) rfl (by rw [hml]; rfl) (Steps.refl _) (argsL := [(.ref b9), (.ref b1)]) (rest := []) (lenOf own_pd19 rfl) rfl (by show 2 * 0 + _ ≤ _; exact Nat.le_of_eq rfl) (hb hby at_96) (fun _ _ => ⟨rfl, rfl, (by decide : 9 + 0 ≤ _), (by decide : 80 + 0 ≤ _)⟩)
        dsimp only [Pt.U, Pt.locs, Pt.cells, Pt.slots] at X170 l170 y170 z170 st170 hQ170
        subst l170 y170 z170
        obtain ⟨rfl, Nq170, K170, Q170_0, Q170_1, Q170_2, Q170_3, Q170_4, Q170_5, Q170_6, Q170_7, Q170_8, Q170_9, Q170_10, Q170_11, Q170_12⟩ := hQ170
        have hC := hC.trans (CHr.keep K170 (sfS (Safe.exa hZ.alike Q152_0 (by decide) (by decide)) sf0) hC.1)
        have hk := Nat.le_trans hk K170.1
        have N170 := Fr.app N152 Nq170
        have o171 : Old Z n0 T170.heap := (Old.keep o169 K170 (allS gz_b146 all0))
        obtain ⟨cq172, kq172, q172a, q172b, q172c⟩ := isOf hZ rfl Q170_0
        obtain ⟨_, _, ⟨T172, L172, k172, n172⟩, -, X172, ⟨Lc172, hQ172, l172, y172, z172⟩, st172⟩ := X170.virtualBack hx (y := own_y23) (z := own_y23) hown (mvT hZ (own_w hw 139 rfl)) (mvT hZ (own_w hw 140 rfl)) (notFace_of_selects (args := #[]) (mvT hZ (own_w hw 142 rfl))) (mvT hZ (own_w hw 142 rfl)) (mvT hZ (own_w hw 141 rfl)) (by decide) (backOf (W := 0) (rmA65 l Z a0 hw [] b146 rk b1 b9  cs wf wK0 wK1 wK2 wK3 wL T170.heap n0 o171 G0 Q170_0 Q170_9 Q170_10 Q170_2 Q170_6 Q170_1 Q170_8 Q170_12 Q170_4 Q170_3 Q170_5 Q170_11 Q170_7 gz_b146 ) hZ (own_w hw 143 rfl) (own_w hw 124 rfl) (by decide) (by decide)) q172a q172c (g := (mkF m 116 #[.val (.int p1), .val (.long q2), .second, .val (.int p3), .val (.int p4), .val (.ref b1), .val (.ref b9), .val (.ref b9), .val (.ref b1), .val (.ref rk), .val (.ref b146), .val (.ref b146), .unset] [(.ref b1), (.ref b9), (.ref b146)])) rfl (by rw [hml]; rfl) (Steps.refl _) (argsL := [(.ref b9), (.ref b1)]) (rest := []) (lenOf own_pd19 rfl) rfl (by show 2 * 0 + _ ≤ _; exact Nat.le_of_eq rfl) (hb hby at_116) (fun _ _ => ⟨rfl, rfl, (by decide : 9 + 0 ≤ _), (by decide : 80 + 0 ≤ _)⟩)
        dsimp only [Pt.U, Pt.locs, Pt.cells, Pt.slots] at X172 l172 y172 z172 st172 hQ172
        subst l172 y172 z172
        obtain ⟨rfl, Nq172, K172, Q172_0, Q172_1, Q172_2, Q172_3, Q172_4, Q172_5, Q172_6, Q172_7, Q172_8, Q172_9, Q172_10, Q172_11, Q172_12⟩ := hQ172
        have hC := hC.trans (CHr.keep K172 (sfS (Safe.exa hZ.alike Q170_0 (by decide) (by decide)) sf0) hC.1)
        have hk := Nat.le_trans hk K172.1
        have N172 := Fr.app N170 Nq172
        have o173 : Old Z n0 T172.heap := (Old.keep o171 K172 (allS gz_b146 all0))
        obtain ⟨cq174, kq174, q174a, q174b, q174c⟩ := isOf hZ rfl Q172_0
        obtain ⟨_, _, ⟨T174, L174, k174, n174⟩, -, X174, ⟨Lc174, hQ174, l174, y174, z174⟩, st174⟩ := X172.virtualBack hx (y := own_y24) (z := own_y24) hown (mvT hZ (own_w hw 148 rfl)) (mvT hZ (own_w hw 149 rfl)) (notFace_of_selects (args := #[]) (mvT hZ (own_w hw 151 rfl))) (mvT hZ (own_w hw 151 rfl)) (mvT hZ (own_w hw 150 rfl)) (by decide) (backOf (W := 0) (rmA57 l Z a0 hw [] b146 rk b1 b9  cs wf wK0 wK1 wK2 wK3 wL T172.heap n0 o173 G0 Q172_0 Q172_9 Q172_10 Q172_2 Q172_6 Q172_1 Q172_8 Q172_12 Q172_4 Q172_3 Q172_5 Q172_11 Q172_7  ) hZ (own_w hw 152 rfl) (own_w hw 124 rfl) (by decide) (by decide)) q174a q174c (g := (mkF m 132 #[.val (.int p1), .val (.long q2), .second, .val (.int p3), .val (.int p4), .val (.ref b1), .val (.ref b9), .val (.ref b9), .val (.ref b1), .val (.ref rk), .val (.ref b146), .val (.ref b146), .unset] [(.ref b146)])) rfl (by rw [hml]; rfl) (Steps.refl _) (argsL := []) (rest := []) (lenOf own_pd22 rfl) rfl (by show 2 * 0 + _ ≤ _; exact Nat.le_of_eq rfl) (hb hby at_132) (fun _ _ => ⟨rfl, rfl, (by decide : 9 + 1 ≤ _), (by decide : 80 + 12 ≤ _)⟩)
        dsimp only [Pt.U, Pt.locs, Pt.cells, Pt.slots] at X174 l174 y174 z174 st174 hQ174
        subst l174 y174 z174
        obtain ⟨bm, rfl, Nq174, K174, hb174, Q174_0, Q174_1, Q174_2, Q174_3, Q174_4, Q174_5, Q174_6⟩ := hQ174
        have hC := hC.trans (CHr.keep K174 sf0 hC.1)
        have hk := Nat.le_trans hk K174.1
        have N174 := Fr.app N172 Nq174
        have sz_bm : h0.size ≤ bm := Nat.le_trans (Nat.le_trans (Nat.le_trans (Nat.le_trans (Nat.le_trans (Nat.le_trans (Nat.le_trans (Nat.le_trans (Nat.le_trans E1.1 E2.1) K8.1) E9.1) K14.1) E146.1) K152.1) K170.1) K172.1) hb174
        have gz_bm : n0 ≤ bm := Nat.le_trans Z0 sz_bm
        have ne_a2_bm : a2 ≠ bm := Nat.ne_of_lt (Nat.lt_of_lt_of_le ((((f147.ext E146).keep K152).keep K170).keep K172).lt hb174)
        have ne_b1_bm : b1 ≠ bm := Nat.ne_of_lt (Nat.lt_of_lt_of_le ((((f148.ext E146).keep K152).keep K170).keep K172).lt hb174)
        have ne_b146_bm : b146 ≠ bm := Nat.ne_of_lt (Nat.lt_of_lt_of_le Q172_0.lt hb174)
        have ne_b2_bm : b2 ≠ bm := Nat.ne_of_lt (Nat.lt_of_lt_of_le ((((f149.ext E146).keep K152 (ninS ne_b2_b146 nin0)).keep K170 (ninS ne_b2_b146 nin0)).keep K172 (ninS ne_b2_b146 nin0)).lt hb174)
        have ne_b9_bm : b9 ≠ bm := Nat.ne_of_lt (Nat.lt_of_lt_of_le ((((Q14_0.ext E146).keep K152).keep K170).keep K172).lt hb174)
        obtain ⟨LL175, XL175, NL175⟩ : ∃ LL : List Loc, Stand p l e room_1 (s.setVm T14.vm) m #[(.int p1), (.long q2), (.int p3), (.int p4)] below meth c T174 LL 10 92 ∧ Fr n0 LL := ⟨_, X174, N174⟩
        have o176 : Old Z n0 T174.heap := (Old.keep o173 K174 all0)
        obtain ⟨cq177, kq177, q177a, q177b, q177c⟩ := isOf hZ rfl Q174_0
        obtain ⟨_, _, ⟨T177, L177, k177, n177⟩, -, X177, ⟨Lc177, hQ177, l177, y177, z177⟩, st177⟩ := XL175.virtualBack hx (y := own_y28) (z := own_y28) hown (mvT hZ (own_w hw 222 rfl)) (mvT hZ (own_w hw 223 rfl)) (notFace_of_selects (args := #[]) (mvT hZ (own_w hw 225 rfl))) (mvT hZ (own_w hw 225 rfl)) (mvT hZ (own_w hw 224 rfl)) (by decide) (backOf (W := 0) (rmA59 l Z a0 hw [] bm rk b1 b9  cs wf wK0 wK1 wK2 wK3 wL T174.heap n0 o176 G0 Q174_0 Q174_5 Q174_1 Q174_6 Q174_4 Q174_3 Q174_2  ) hZ (own_w hw 226 rfl) (own_w hw 155 rfl) (by decide) (by decide)) q177a q177c (g := (mkF m 139 #[.val (.int p1), .val (.long q2), .second, .val (.int p3), .val (.int p4), .val (.ref b1), .val (.ref b9), .val (.ref b9), .val (.ref b1), .val (.ref rk), .val (.ref b146), .val (.ref b146), .val (.ref bm)] [(.ref bm)])) rfl (by rw [hml]; rfl) (Steps.refl _) (argsL := []) (rest := []) (lenOf own_pd23 rfl) rfl (by show 2 * 0 + _ ≤ _; exact Nat.le_of_eq rfl) (hb hby at_139) (fun _ _ => ⟨rfl, rfl, (by decide : 10 + 0 ≤ _), (by decide : 92 + 0 ≤ _)⟩)
        dsimp only [Pt.U, Pt.locs, Pt.cells, Pt.slots] at X177 l177 y177 z177 st177 hQ177
        subst l177 y177 z177
        obtain ⟨rfl, Nq177, e177⟩ := hQ177
        have N177 := Fr.app NL175 Nq177
        obtain ⟨cq178, kq178, q178a, q178b, q178c⟩ := isOf hZ e177 Q174_0
        obtain ⟨_, _, ⟨T178, L178, k178, n178⟩, -, X178, ⟨Lc178, hQ178, l178, y178, z178⟩, st178⟩ := X177.virtualBack hx (y := own_y29) (z := own_y29) hown (mvT hZ (own_w hw 227 rfl)) (mvT hZ (own_w hw 228 rfl)) (notFace_of_selects (args := #[]) (mvT hZ (own_w hw 230 rfl))) (mvT hZ (own_w hw 230 rfl)) (mvT hZ (own_w hw 229 rfl)) (by decide) (backOf (W := 0) (rmA60 l Z a0 hw [] bm rk b1 b9  cs wf wK0 wK1 wK2 wK3 wL T174.heap n0 o176 G0 Q174_0 Q174_5 Q174_1 Q174_6 Q174_4 Q174_3 Q174_2  ) hZ (own_w hw 231 rfl) (own_w hw 155 rfl) (by decide) (by decide)) q178a q178c (g := (mkF m 149 #[.val (.int p1), .val (.long q2), .second, .val (.int p3), .val (.int p4), .val (.ref b1), .val (.ref b9), .val (.ref b9), .val (.ref b1), .val (.ref rk), .val (.ref b146), .val (.ref b146), .val (.ref bm)] [(.ref bm)])) rfl (by rw [hml]; rfl) (Steps.refl _) (argsL := []) (rest := []) (lenOf own_pd24 rfl) rfl (by show 2 * 0 + _ ≤ _; exact Nat.le_of_eq rfl) (hb hby at_149) (fun _ _ => ⟨rfl, e177, (by decide : 10 + 0 ≤ _), (by decide : 92 + 0 ≤ _)⟩)
        dsimp only [Pt.U, Pt.locs, Pt.cells, Pt.slots] at X178 l178 y178 z178 st178 hQ178
        subst l178 y178 z178
        obtain ⟨rfl, Nq178, e178⟩ := hQ178
        have N178 := Fr.app N177 Nq178
        obtain ⟨cq179, kq179, q179a, q179b, q179c⟩ := isOf hZ e178 Q174_0
        obtain ⟨_, _, ⟨T179, L179, k179, n179⟩, -, X179, ⟨Lc179, hQ179, l179, y179, z179⟩, st179⟩ := X178.virtualBack hx (y := own_y30) (z := own_y30) hown (mvT hZ (own_w hw 232 rfl)) (mvT hZ (own_w hw 233 rfl)) (notFace_of_selects (args := #[]) (mvT hZ (own_w hw 235 rfl))) (mvT hZ (own_w hw 235 rfl)) (mvT hZ (own_w hw 234 rfl)) (by decide) (backOf (W := 0) (rmA61 l Z a0 hw [] bm rk b1 b9  cs wf wK0 wK1 wK2 wK3 wL T174.heap n0 o176 G0 Q174_0 Q174_5 Q174_1 Q174_6 Q174_4 Q174_3 Q174_2  ) hZ (own_w hw 236 rfl) (own_w hw 155 rfl) (by decide) (by decide)) q179a q179c (g := (mkF m 159 #[.val (.int p1), .val (.long q2), .second, .val (.int p3), .val (.int p4), .val (.ref b1), .val (.ref b9), .val (.ref b9), .val (.ref b1), .val (.ref rk), .val (.ref b146), .val (.ref b146), .val (.ref bm)] [(.ref bm)])) rfl (by rw [hml]; rfl) (Steps.refl _) (argsL := []) (rest := []) (lenOf own_pd25 rfl) rfl (by show 2 * 0 + _ ≤ _; exact Nat.le_of_eq rfl) (hb hby at_159) (fun _ _ => ⟨rfl, e178, (by decide : 10 + 0 ≤ _), (by decide : 92 + 0 ≤ _)⟩)
        dsimp only [Pt.U, Pt.locs, Pt.cells, Pt.slots] at X179 l179 y179 z179 st179 hQ179
        subst l179 y179 z179
        obtain ⟨rfl, Nq179, e179⟩ := hQ179
        have N179 := Fr.app N178 Nq179
        obtain ⟨cq180, kq180, q180a, q180b, q180c⟩ := isOf hZ e179 Q174_0
        obtain ⟨_, _, ⟨T180, L180, k180, n180⟩, -, X180, ⟨Lc180, hQ180, l180, y180, z180⟩, st180⟩ := X179.virtualBack hx (y := own_y31) (z := own_y31) hown (mvT hZ (own_w hw 237 rfl)) (mvT hZ (own_w hw 238 rfl)) (notFace_of_selects (args := #[]) (mvT hZ (own_w hw 240 rfl))) (mvT hZ (own_w hw 240 rfl)) (mvT hZ (own_w hw 239 rfl)) (by decide) (backOf (W := 0) (rmA62 l Z a0 hw [] bm rk b1 b9  cs wf wK0 wK1 wK2 wK3 wL T174.heap n0 o176 G0 Q174_0 Q174_5 Q174_1 Q174_6 Q174_4 Q174_3 Q174_2  ) hZ (own_w hw 241 rfl) (own_w hw 155 rfl) (by decide) (by decide)) q180a q180c (g := (mkF m 169 #[.val (.int p1), .val (.long q2), .second, .val (.int p3), .val (.int p4), .val (.ref b1), .val (.ref b9), .val (.ref b9), .val (.ref b1), .val (.ref rk), .val (.ref b146), .val (.ref b146), .val (.ref bm)] [(.ref bm)])) rfl (by rw [hml]; rfl) (Steps.refl _) (argsL := []) (rest := []) (lenOf own_pd23 rfl) rfl (by show 2 * 0 + _ ≤ _; exact Nat.le_of_eq rfl) (hb hby at_169) (fun _ _ => ⟨rfl, e179, (by decide : 10 + 0 ≤ _), (by decide : 92 + 0 ≤ _)⟩)
        dsimp only [Pt.U, Pt.locs, Pt.cells, Pt.slots] at X180 l180 y180 z180 st180 hQ180
        subst l180 y180 z180
        obtain ⟨rfl, Nq180, e180⟩ := hQ180
        have N180 := Fr.app N179 Nq180
        obtain ⟨LL181, XL181, NL181⟩ : ∃ LL : List Loc, Stand p l e room_1 (s.setVm T14.vm) m #[(.int p1), (.long q2), (.int p3), (.int p4)] below meth c T180 LL 10 92 ∧ Fr n0 LL := ⟨_, X180, N180⟩
        obtain ⟨cq182, kq182, q182a, q182b, q182c⟩ := isOf hZ e180 Q174_0
        obtain ⟨_, _, ⟨T182, L182, k182, n182⟩, -, X182, ⟨Lc182, hQ182, l182, y182, z182⟩, st182⟩ := XL181.virtualBack hx (y := own_y32) (z := own_y32) hown (mvT hZ (own_w hw 242 rfl)) (mvT hZ (own_w hw 243 rfl)) (notFace_of_selects (args := #[]) (mvT hZ (own_w hw 245 rfl))) (mvT hZ (own_w hw 245 rfl)) (mvT hZ (own_w hw 244 rfl)) (by decide) (backOf (W := 0) (rmA63 l Z a0 hw [] bm rk b1 b9  cs wf wK0 wK1 wK2 wK3 wL T174.heap n0 o176 G0 Q174_0 Q174_5 Q174_1 Q174_6 Q174_4 Q174_3 Q174_2  ) hZ (own_w hw 246 rfl) (own_w hw 155 rfl) (by decide) (by decide)) q182a q182c (g := (mkF m 177 #[.val (.int p1), .val (.long q2), .second, .val (.int p3), .val (.int p4), .val (.ref b1), .val (.ref b9), .val (.ref b9), .val (.ref b1), .val (.ref rk), .val (.ref b146), .val (.ref b146), .val (.ref bm)] [(.ref bm)])) rfl (by rw [hml]; rfl) (Steps.refl _) (argsL := []) (rest := []) (lenOf own_pd24 rfl) rfl (by show 2 * 0 + _ ≤ _; exact Nat.le_of_eq rfl) (hb hby at_177) (fun _ _ => ⟨rfl, e180, (by decide : 10 + 0 ≤ _), (by decide : 92 + 0 ≤ _)⟩)
        dsimp only [Pt.U, Pt.locs, Pt.cells, Pt.slots] at X182 l182 y182 z182 st182 hQ182
        subst l182 y182 z182
        obtain ⟨rfl, Nq182, e182⟩ := hQ182
        have N182 := Fr.app NL181 Nq182
        obtain ⟨cq183, kq183, q183a, q183b, q183c⟩ := isOf hZ e182 Q174_0
        obtain ⟨_, _, ⟨T183, L183, k183, n183⟩, -, X183, ⟨Lc183, hQ183, l183, y183, z183⟩, st183⟩ := X182.virtualBack hx (y := own_y33) (z := own_y33) hown (mvT hZ (own_w hw 247 rfl)) (mvT hZ (own_w hw 248 rfl)) (notFace_of_selects (args := #[]) (mvT hZ (own_w hw 250 rfl))) (mvT hZ (own_w hw 250 rfl)) (mvT hZ (own_w hw 249 rfl)) (by decide) (backOf (W := 0) (rmA64 l Z a0 hw [] bm rk b1 b9  cs wf wK0 wK1 wK2 wK3 wL T174.heap n0 o176 G0 Q174_0 Q174_5 Q174_1 Q174_6 Q174_4 Q174_3 Q174_2  ) hZ (own_w hw 251 rfl) (own_w hw 155 rfl) (by decide) (by decide)) q183a q183c (g := (mkF m 185 #[.val (.int p1), .val (.long q2), .second, .val (.int p3), .val (.int p4), .val (.ref b1), .val (.ref b9), .val (.ref b9), .val (.ref b1), .val (.ref rk), .val (.ref b146), .val (.ref b146), .val (.ref bm)] [(.ref bm)])) rfl (by rw [hml]; rfl) (Steps.refl _) (argsL := []) (rest := []) (lenOf own_pd24 rfl) rfl (by show 2 * 0 + _ ≤ _; exact Nat.le_of_eq rfl) (hb hby at_185) (fun _ _ => ⟨rfl, e182, (by decide : 10 + 0 ≤ _), (by decide : 92 + 0 ≤ _)⟩)
        dsimp only [Pt.U, Pt.locs, Pt.cells, Pt.slots] at X183 l183 y183 z183 st183 hQ183
        subst l183 y183 z183
        obtain ⟨rfl, Nq183, e183⟩ := hQ183
        have N183 := Fr.app N182 Nq183
        have g184 : ∀ t, Steps p.tables e below (T183.setTop (mkF m 196 #[.val (.int p1), .val (.long q2), .second, .val (.int p3), .val (.int p4), .val (.ref b1), .val (.ref b9), .val (.ref b9), .val (.ref b1), .val (.ref rk), .val (.ref b146), .val (.ref b146), .val (.ref bm)] [(.int (1 : Int32))])) t → Steps p.tables e below (s₁.setTop (entryFrame m #[(.int p1), (.long q2), (.int p3), (.int p4)] maxLocals)) t := by
          intro t k
          refine g154 t ?_
          show Steps p.tables e below (T152.setTop (mkF m 87 #[.val (.int p1), .val (.long q2), .second, .val (.int p3), .val (.int p4), .val (.ref b1), .val (.ref b9), .val (.ref b9), .val (.ref b1), .val (.ref rk), .val (.ref b146), .unset, .unset] [(.int (p4 &&& (4 : Int32)))])) _
          refine XS.ifNo X152.here hx rfl (hb hby at_87) rfl ((if0 _ _).trans (feq hc153).1) ?_
          refine XS.aload X152.here hx rfl (hb hby at_90) rfl rfl ?_
          refine XS.aload X152.here hx rfl (hb hby at_92) rfl rfl ?_
          refine XS.aload X152.here hx rfl (hb hby at_94) rfl rfl ?_
          refine st170.trans ?_
          refine XS.astore X170.here hx rfl (hb hby at_99) rfl rfl (l' := #[.val (.int p1), .val (.long q2), .second, .val (.int p3), .val (.int p4), .val (.ref b1), .val (.ref b9), .val (.ref b9), .val (.ref b1), .val (.ref rk), .val (.ref b146), .val (.ref b146), .unset]) rfl ?_
          refine XS.aload X170.here hx rfl (hb hby at_101) rfl rfl ?_
          refine XS.aload X170.here hx rfl (hb hby at_103) rfl rfl ?_
          show Steps p.tables e below (T170.setTop (mkF m 105 #[.val (.int p1), .val (.long q2), .second, .val (.int p3), .val (.int p4), .val (.ref b1), .val (.ref b9), .val (.ref b9), .val (.ref b1), .val (.ref rk), .val (.ref b146), .val (.ref b146), .unset] [(.ref b146), (.ref b146)])) _
          refine Jvm.RoadKit.acmp (g := (mkF m 105 #[.val (.int p1), .val (.long q2), .second, .val (.int p3), .val (.int p4), .val (.ref b1), .val (.ref b9), .val (.ref b9), .val (.ref b1), .val (.ref rk), .val (.ref b146), .val (.ref b146), .unset] [(.ref b146), (.ref b146)])) X170 hx rfl rfl rfl (pc0 := 105) (pc' := 110) (same := true) rfl (hb hby at_105) rfl (decide_eq_true rfl) (by decide) (by decide) ?_
          refine XS.aload X170.here hx rfl (hb hby at_110) rfl rfl ?_
          refine XS.aload X170.here hx rfl (hb hby at_112) rfl rfl ?_
          refine XS.aload X170.here hx rfl (hb hby at_114) rfl rfl ?_
          refine st172.trans ?_
          refine XS.astore X172.here hx rfl (hb hby at_119) rfl rfl (l' := #[.val (.int p1), .val (.long q2), .second, .val (.int p3), .val (.int p4), .val (.ref b1), .val (.ref b9), .val (.ref b9), .val (.ref b1), .val (.ref rk), .val (.ref b146), .val (.ref b146), .unset]) rfl ?_
          refine XS.aload X172.here hx rfl (hb hby at_121) rfl rfl ?_
          refine XS.aload X172.here hx rfl (hb hby at_123) rfl rfl ?_
          show Steps p.tables e below (T172.setTop (mkF m 125 #[.val (.int p1), .val (.long q2), .second, .val (.int p3), .val (.int p4), .val (.ref b1), .val (.ref b9), .val (.ref b9), .val (.ref b1), .val (.ref rk), .val (.ref b146), .val (.ref b146), .unset] [(.ref b146), (.ref b146)])) _
          refine Jvm.RoadKit.acmp (g := (mkF m 125 #[.val (.int p1), .val (.long q2), .second, .val (.int p3), .val (.int p4), .val (.ref b1), .val (.ref b9), .val (.ref b9), .val (.ref b1), .val (.ref rk), .val (.ref b146), .val (.ref b146), .unset] [(.ref b146), (.ref b146)])) X172 hx rfl rfl rfl (pc0 := 125) (pc' := 130) (same := true) rfl (hb hby at_125) rfl (decide_eq_true rfl) (by decide) (by decide) ?_
          refine XS.aload X172.here hx rfl (hb hby at_130) rfl rfl ?_
          refine st174.trans ?_
          refine XS.astore X174.here hx rfl (hb hby at_135) rfl rfl (l' := #[.val (.int p1), .val (.long q2), .second, .val (.int p3), .val (.int p4), .val (.ref b1), .val (.ref b9), .val (.ref b9), .val (.ref b1), .val (.ref rk), .val (.ref b146), .val (.ref b146), .val (.ref bm)]) rfl ?_
          refine XS.aload X174.here hx rfl (hb hby at_137) rfl rfl ?_
          refine st177.trans ?_
          refine XS.aload X177.here hx rfl (hb hby at_142) rfl rfl ?_
          refine Jvm.RoadKit.acmp (g := (mkF m 144 #[.val (.int p1), .val (.long q2), .second, .val (.int p3), .val (.int p4), .val (.ref b1), .val (.ref b9), .val (.ref b9), .val (.ref b1), .val (.ref rk), .val (.ref b146), .val (.ref b146), .val (.ref bm)] [(.ref b9), (.ref b9)])) X177 hx rfl rfl rfl (pc0 := 144) (pc' := 147) (same := true) rfl (hb hby at_144) rfl (decide_eq_true rfl) (by decide) (by decide) ?_
          show Steps p.tables e below (T177.setTop (mkF m 147 #[.val (.int p1), .val (.long q2), .second, .val (.int p3), .val (.int p4), .val (.ref b1), .val (.ref b9), .val (.ref b9), .val (.ref b1), .val (.ref rk), .val (.ref b146), .val (.ref b146), .val (.ref bm)] [])) _
          refine XS.aload X177.here hx rfl (hb hby at_147) rfl rfl ?_
          refine st178.trans ?_
          refine XS.aload X178.here hx rfl (hb hby at_152) rfl rfl ?_
          refine Jvm.RoadKit.acmp (g := (mkF m 154 #[.val (.int p1), .val (.long q2), .second, .val (.int p3), .val (.int p4), .val (.ref b1), .val (.ref b9), .val (.ref b9), .val (.ref b1), .val (.ref rk), .val (.ref b146), .val (.ref b146), .val (.ref bm)] [(.ref b1), (.ref b1)])) X178 hx rfl rfl rfl (pc0 := 154) (pc' := 157) (same := true) rfl (hb hby at_154) rfl (decide_eq_true rfl) (by decide) (by decide) ?_
          refine XS.aload X178.here hx rfl (hb hby at_157) rfl rfl ?_
          refine st179.trans ?_
          refine XS.aload X179.here hx rfl (hb hby at_162) rfl rfl ?_
          refine Jvm.RoadKit.acmp (g := (mkF m 164 #[.val (.int p1), .val (.long q2), .second, .val (.int p3), .val (.int p4), .val (.ref b1), .val (.ref b9), .val (.ref b9), .val (.ref b1), .val (.ref rk), .val (.ref b146), .val (.ref b146), .val (.ref bm)] [(.ref rk), (.ref rk)])) X179 hx rfl rfl rfl (pc0 := 164) (pc' := 167) (same := true) rfl (hb hby at_164) rfl (decide_eq_true rfl) (by decide) (by decide) ?_
          show Steps p.tables e below (T179.setTop (mkF m 167 #[.val (.int p1), .val (.long q2), .second, .val (.int p3), .val (.int p4), .val (.ref b1), .val (.ref b9), .val (.ref b9), .val (.ref b1), .val (.ref rk), .val (.ref b146), .val (.ref b146), .val (.ref bm)] [])) _
          refine XS.aload X179.here hx rfl (hb hby at_167) rfl rfl ?_
          refine st180.trans ?_
          refine XS.ifnonnullNo X180.here hx rfl (hb hby at_172) rfl ?_
          refine XS.aload X180.here hx rfl (hb hby at_175) rfl rfl ?_
          refine st182.trans ?_
          refine XS.ifnonnullNo X182.here hx rfl (hb hby at_180) rfl ?_
          refine XS.aload X182.here hx rfl (hb hby at_183) rfl rfl ?_
          refine st183.trans ?_
          show Steps p.tables e below (T183.setTop (mkF m 188 #[.val (.int p1), .val (.long q2), .second, .val (.int p3), .val (.int p4), .val (.ref b1), .val (.ref b9), .val (.ref b9), .val (.ref b1), .val (.ref rk), .val (.ref b146), .val (.ref b146), .val (.ref bm)] [.null])) _
          refine XS.ifnonnullNo X183.here hx rfl (hb hby at_188) rfl ?_
          refine XS.iconst X183.here hx rfl (hb hby at_191) ?_
          refine XS.goto X183.here hx rfl (pc0 := 192) (pc' := 196) rfl (hb hby at_192) (by decide) (by decide) ?_
          exact k
        obtain ⟨fs, hrt, hrun, hended, hRW⟩ := X183.leaveW hS (by rw [e183]; exact hk) (v := some (.int (1 : Int32))) (fun h => by rw [Bd.returns] at h; cases h)
        refine ⟨_, _, g184 _ ?_, hrun, hended, _, _, rfl, ?_, ?_, hRW.1, hRW.2.1, hRW.2.2.1, hRW.2.2.2.mono (by decide) (by decide)⟩
        · show Steps p.tables e below (T183.setTop (mkF m 196 #[.val (.int p1), .val (.long q2), .second, .val (.int p3), .val (.int p4), .val (.ref b1), .val (.ref b9), .val (.ref b9), .val (.ref b1), .val (.ref rk), .val (.ref b146), .val (.ref b146), .val (.ref bm)] [(.int (1 : Int32))])) _
          exact retN X183 hx (t := .boolean) Bd.returns (by simp) (hb hby at_196) hrt
        · show own_Q_rm0 Z p1 q2 p3 p4 cs wf wK0 wK1 wK2 wK3 wL h0 n0 _ T183.heap _
          rw [e183]
          exact ⟨rfl, N183⟩
        · rw [hh]
          show CHr Z own_EL s.vm h0 T183.vm T183.heap
          rw [e183]
          exact hC.trans (CHv.at X183 hZ (own_EW hw) hC.1)
set_option maxRecDepth 65536 in
set_option maxHeartbeats 40000000 in
theorem comes_1 {Post : Tables → Env → Array Value → State → Outcome → State → Prop} (hpost : ∀ tb e args s v u, (limb_1_1.after args s (.returned v) u = true ∧ limb_1_2.after args s (.returned v) u = true ∧ True) → ReturnedEndW s (.returned v) u (Jvm.fieldLocs frame_1_writes args s ++ Jvm.arrayLocs frame_1_arrays args s ++ Jvm.staticLocs frame_1_statics s) 24 3264 → Post tb e args s (.returned v) u) :
    ArmFor flags0 classFile x code maxLocals ret World_1 tables_1 room_1 Calls_1 rest_1 Pre_1 Post := by
  intro l hfl _ _ p e ha hc hk s m args below hf hA hF happ hP
  obtain ⟨hcalls, hrest, hpre⟩ := hP
  obtain ⟨-, -, -, hnamed, -, -, -, hat⟩ := (Spec.applies_iff hf).mp happ
  obtain ⟨hg, hn⟩ := and_e (Cond.before_iff.mp (show (Jvm.Cond.and given_1 narrow_1).before args s = true from hpre))
  obtain ⟨h0a, h0b⟩ := and_e hg
  obtain ⟨h1a, h1b⟩ := and_e h0b
  obtain ⟨h2a, h2b⟩ := and_e h1b
  obtain ⟨h3a, h3b⟩ := and_e h2b
  obtain ⟨h4a, h4b⟩ := and_e hn
  obtain ⟨h5a, h5b⟩ := and_e h4b
  obtain ⟨h6a, h6b⟩ := and_e h5b
  obtain ⟨w0, w1, w2, w3, rfl⟩ : ∃ w0 w1 w2 w3 : Value, args = #[w0, w1, w2, w3] := by
    have hs : args.size = 4 := by simpa [Cond.value, given_1] using h0a
    obtain ⟨L⟩ := args
    match L, hs with
    | [w0, w1, w2, w3], _ => exact ⟨w0, w1, w2, w3, rfl⟩
  have hw := fun d (hd : d ∈ tables_1) => atoms_spec (ws := Jvm.Cond.code x code maxLocals ret :: tables_1) hat d (List.mem_cons_of_mem _ hd)
  obtain ⟨hsets, hown0⟩ := atoms_of _ (rest_1_c_eq ▸ (show rest_1_c.before _ s = true from hrest))
  have hr0 := Cond.before_iff.mp hown0
  obtain ⟨i0, ei0⟩ := is_v h1a
  obtain rfl : w0 = (.int i0) := Option.some.inj ei0
  obtain ⟨i1, ei1⟩ := isL_v h2a
  obtain rfl : w1 = (.long i1) := Option.some.inj ei1
  obtain ⟨i2, ei2⟩ := is_v h3a
  obtain rfl : w2 = (.int i2) := Option.some.inj ei2
  obtain ⟨i3, ei3⟩ := is_v h3b
  obtain rfl : w3 = (.int i3) := Option.some.inj ei3
  obtain ⟨w_PROPOSAL_ANSWER, ew_PROPOSAL_ANSWER⟩ := exa_v h4a
  have S_PROPOSAL_ANSWER := Sta.start ew_PROPOSAL_ANSWER (Or.inr ⟨(own_w hw 120 rfl), (own_w hw 121 rfl)⟩)
  have Ex_PROPOSAL_ANSWER : Exa s s.heap w_PROPOSAL_ANSWER "com/example/assemble_quorum/assemblequorum/io/Message$Kind" := Exa.start ew_PROPOSAL_ANSWER h4a
  obtain ⟨w_PING, ew_PING⟩ := exa_v h5a
  have S_PING := Sta.start ew_PING (Or.inr ⟨(own_w hw 120 rfl), (own_w hw 253 rfl)⟩)
  have Ex_PING : Exa s s.heap w_PING "com/example/assemble_quorum/assemblequorum/io/Message$Kind" := Exa.start ew_PING h5a
  obtain ⟨w_HELLO, ew_HELLO⟩ := exa_v h6a
  have S_HELLO := Sta.start ew_HELLO (Or.inr ⟨(own_w hw 120 rfl), (own_w hw 255 rfl)⟩)
  have Ex_HELLO : Exa s s.heap w_HELLO "com/example/assemble_quorum/assemblequorum/io/Message$Kind" := Exa.start ew_HELLO h6a
  obtain ⟨w_EVENT, ew_EVENT⟩ := exa_v h6b
  have S_EVENT := Sta.start ew_EVENT (Or.inr ⟨(own_w hw 120 rfl), (own_w hw 257 rfl)⟩)
  have Ex_EVENT : Exa s s.heap w_EVENT "com/example/assemble_quorum/assemblequorum/io/Message$Kind" := Exa.start ew_EVENT h6b
  have hCH : CHv s own_EL s.vm s.heap := CHv.start (own_EW hw) (fun q hq => hcalls.1 q (own_sub q hq)) (hsets _ (List.mem_of_getElem? (i := 2) rfl)) (own_w hw 6 rfl) (own_w hw 5 rfl)
  obtain ⟨cs, ecs⟩ := is_v (Cond.before_iff.mp (hsets _ (List.mem_of_getElem? (i := 1) rfl)))
  have S_CS := Sta.start ecs (Or.inl (hsets _ (List.mem_of_getElem? (i := 0) rfl)))
  have hcs : ¬ (cs = (0 : Int32)) := gotF (Cond.eq_ints ecs (Term.int_eval 0)) (not_v (Cond.before_iff.mp (hsets _ (List.mem_of_getElem? (i := 2) rfl))))
  obtain ⟨wf, ewf, hwf0⟩ := isR_v (Cond.before_iff.mp (hsets _ (List.mem_of_getElem? (i := 8) rfl)))
  have S_WF := Sta.start ewf (Or.inl (hsets _ (List.mem_of_getElem? (i := 7) rfl)))
  have hwf := ref_cases hwf0
  have hxL := Cond.before_iff.mp (hsets _ (List.mem_of_getElem? (i := 11) rfl))
  obtain ⟨w_L, ew_L⟩ := exa_v hxL
  have S_L := Sta.start ew_L (Or.inl (hsets _ (List.mem_of_getElem? (i := 10) rfl)))
  have Ex_L : Exa s s.heap w_L "java/util/ImmutableCollections$ListN" := Exa.start ew_L hxL
  have Fa_L : Fld s s.heap w_L "java/util/ImmutableCollections$ListN" "allowNulls" "Z" (.int (0 : Int32)) := Fld.start ((fld_at ew_L).symm.trans (own_eqI (Cond.before_iff.mp (hsets _ (List.mem_of_getElem? (i := 15) rfl)))))
  obtain ⟨n, o, h1, h2, h3, _, L, rfl, ⟨rfl, N⟩, -, hq⟩ := rm0 l s _ hw tables_1 i0 i1 i2 i3 cs wf w_PROPOSAL_ANSWER w_HELLO w_EVENT w_PING w_L s.heap s.heap.size (Old.start s) ⟨S_CS, hcs, S_WF, hwf, S_PROPOSAL_ANSWER, S_HELLO, S_EVENT, S_PING, S_L, Ex_L, Fa_L⟩ p e ha hc hk s m _ below hf ((Spec.applies_iff_loose hf).mp happ).1 ⟨rfl, State.Warmed39.refl s, rfl, hCH⟩ trivial
  refine ⟨n, _, h1, h2, h3, hpost _ _ _ _ _ _ ⟨Cond.after_iff.mpr rfl, Cond.after_iff.mpr (eq_i res_at (Term.int_eval (1)) rfl), trivial⟩ ⟨hq.1, hq.2.1, hq.2.2.1, (hq.2.2.2.sift fun y hy => Or.inr (N y hy)).mono (by decide) (by decide)⟩⟩
theorem main_1_1 : Claimed_1_1 := comes_1 fun _ _ _ _ _ _ h hF => ⟨h.1, hF⟩
theorem main_1_2 : Claimed_1_2 := comes_1 fun _ _ _ _ _ _ h hF => ⟨h.2.1, hF⟩
end Jvm.Pilot.@@N@@
namespace Jvm.Pilot.@@N@@
open Jvm Jvm.ClassFile Sem Op Lib Jvm.Free Jvm.Stand Jvm.Pilot.@@N@@.Jvm.D
/-! MADE BY PROGRAM (witnessworld.py) out of the Statement's table words and the real class files: 36 classes; the members and pool entries that the words name. The judged class is class 1, her method 2. -/
namespace start1
open Jvm.ClassFile
def u (s : String) : CpInfo := .utf8 (stringToUtf16 s)
/-- a pool by its gaps: so many unusable entries, then the entry; so many at the end -/
def gap : Nat → List CpInfo → List CpInfo
  | 0, r => r
  | n + 1, r => .unusable :: gap n r
def poolList (es : List (Nat × CpInfo)) (last : Nat) : List CpInfo := es.foldr (fun e r => gap e.1 (e.2 :: r)) (gap last [])
def pool (es : List (Nat × CpInfo)) (last : Nat) : Array CpInfo := ⟨poolList es last⟩
def fileOf (pool : Array CpInfo) (this : Nat) (attrs : Array Attribute := #[]) (ms : Array MethodInfo := #[]) (fl : Nat := 33) (sup : Nat := 0) (ifs : Array Nat := #[]) (fds : Array FieldInfo := #[]) : ClassFile where
  minorVersion := 0
  majorVersion := 65
  constantPool := pool
  accessFlags := fl
  thisClass := this
  superClass := sup
  interfaces := ifs
  fields := fds
  methods := ms
  attributes := attrs
def plain (name : String) (sup : Option ClassId) : Class where
  name := name
  kind := .ordinary
  loader := none
  accessFlags := 33
  super := sup
  interfaces := #[]
  cf := none
  fields := #[]
  methods := #[]
  instanceTypes := #[]
  staticTypes := #[]
  resolved := #[]
  callSites := []
  init := .initialized
  statics := none
  mirror := none

def pool0 : Array CpInfo := pool [(5, u "<init>"), (0, u "()V"), (1, .class_ 10), (1, u "java/lang/Object")] 113

def k0c0 : Code := { maxStack := 0, maxLocals := 1, code := object_method_1_code, exceptionTable := #[], attributes := #[] }
def k0m0 : Method := { name := "<init>", desc := "()V", sig := { parameters := [], returnType := none }, accessFlags := 1, code := some k0c0 }
/-- java/lang/Object -/
def k0 : Class := { plain "java/lang/Object" none with
  accessFlags := 33
  interfaces := #[]
  cf := some (fileOf pool0 8 #[] #[{ accessFlags := 1, nameIndex := 5, descriptorIndex := 6, attributes := #[] }] 33 0 #[] #[])
  fields := #[]
  methods := #[k0m0]
  instanceTypes := #[]
  staticTypes := #[]
  resolved := Array.replicate 124 none
  statics := none }

def pool1 : Array CpInfo := pool [(2, .class_ 4), (1, u "java/lang/Object"), (0, u "<init>"), (0, u "()V"), (0, .fieldref 8 9), (0, .class_ 10), (0, .nameAndType 11 12), (0, u "com/example/assemble_quorum/assemblequorum/io/Message$Kind"), (0, u "PROPOSAL_ANSWER"), (0, u "Lcom/example/assemble_quorum/assemblequorum/io/Message$Kind;"), (0, .fieldref 8 14), (0, .nameAndType 15 12), (0, u "HELLO"), (0, .fieldref 8 17), (0, .nameAndType 18 12), (0, u "EVENT"), (0, .fieldref 8 20), (0, .nameAndType 21 12), (0, u "PING"), (0, .class_ 23), (0, u "com/example/assemble_quorum/assemblequorum/model/MemberAddress"), (0, .string 25), (0, u "h"), (0, .integer 65535), (0, .methodref 22 28), (0, .nameAndType 5 29), (0, u "(Ljava/lang/String;I)V"), (0, .class_ 31), (0, u "com/example/assemble_quorum/assemblequorum/model/ProposalNumber"), (2, .long 9223372036854775807), (1, .methodref 30 37), (0, .nameAndType 5 38), (0, u "(JLcom/example/assemble_quorum/assemblequorum/model/MemberAddress;)V"), (0, .methodref 40 41), (0, .class_ 42), (0, .nameAndType 43 44), (0, u "com/example/assemble_quorum/assemblequorum/io/BuilderPriorPinLaw"), (0, u "kindOf"), (0, u "(I)Lcom/example/assemble_quorum/assemblequorum/io/Message$Kind;"), (0, .class_ 46), (0, u "com/example/assemble_quorum/assemblequorum/io/Message$Builder"), (0, .methodref 45 48), (0, .nameAndType 5 49), (0, u "(Lcom/example/assemble_quorum/assemblequorum/io/Message$Kind;)V"), (0, .methodref 45 51), (0, .nameAndType 52 53), (0, u "prior"), (0, u "(Lcom/example/assemble_quorum/assemblequorum/model/ProposalNumber;Lcom/example/assemble_quorum/assemblequorum/model/MemberAddress;)Lcom/example/assemble_quorum/assemblequorum/io/Message$Builder;"), (0, .methodref 45 55), (0, .nameAndType 56 57), (0, u "build"), (0, u "()Lcom/example/assemble_quorum/assemblequorum/io/Message;"), (0, .methodref 59 60), (0, .class_ 61), (0, .nameAndType 62 63), (0, u "com/example/assemble_quorum/assemblequorum/io/Message"), (0, u "priorNumber"), (0, u "()Lcom/example/assemble_quorum/assemblequorum/model/ProposalNumber;"), (0, .methodref 59 65), (0, .nameAndType 66 67), (0, u "priorCandidate"), (0, u "()Lcom/example/assemble_quorum/assemblequorum/model/MemberAddress;"), (0, .methodref 59 69), (0, .nameAndType 70 71), (0, u "kind"), (0, u "()Lcom/example/assemble_quorum/assemblequorum/io/Message$Kind;"), (0, .methodref 59 73), (0, .nameAndType 74 63), (0, u "number"), (0, .methodref 59 76), (0, .nameAndType 77 67), (0, u "candidate"), (0, .methodref 59 79), (0, .nameAndType 80 67), (0, u "leader"), (3, u "law"), (0, u "(IJII)Z")] 5

def k1m0 : Method := { name := "<init>", desc := "()V", sig := { parameters := [], returnType := none }, accessFlags := 2, code := none }
def k1c1 : Code := { maxStack := 2, maxLocals := 2, code := method_2_code, exceptionTable := #[], attributes := #[] }
def k1m1 : Method := { name := "kindOf", desc := "(I)Lcom/example/assemble_quorum/assemblequorum/io/Message$Kind;", sig := { parameters := [.int], returnType := some (.object "com/example/assemble_quorum/assemblequorum/io/Message$Kind") }, accessFlags := 10, code := some k1c1 }
def k1c2 : Code := { maxStack := 6, maxLocals := 13, code := code, exceptionTable := #[], attributes := #[] }
def k1m2 : Method := { name := "law", desc := "(IJII)Z", sig := { parameters := [.int, .long, .int, .int], returnType := some .boolean }, accessFlags := 9, code := some k1c2 }
/-- com/example/assemble_quorum/assemblequorum/io/BuilderPriorPinLaw -/
def k1 : Class := { plain "com/example/assemble_quorum/assemblequorum/io/BuilderPriorPinLaw" (some 0) with
  accessFlags := 49
  interfaces := #[]
  cf := some (fileOf pool1 40 #[] #[{ accessFlags := 2, nameIndex := 5, descriptorIndex := 6, attributes := #[] }, { accessFlags := 10, nameIndex := 43, descriptorIndex := 44, attributes := #[] }, { accessFlags := 9, nameIndex := 84, descriptorIndex := 85, attributes := #[] }] 49 2 #[] #[])
  fields := #[]
  methods := #[k1m0, k1m1, k1m2]
  instanceTypes := #[]
  staticTypes := #[]
  resolved := Array.replicate 91 none
  statics := none }

def pool2 : Array CpInfo := pool [(1, .class_ 2), (0, u "java/lang/Comparable"), (0, .class_ 4), (0, u "java/lang/Object")] 7

/-- java/lang/Comparable -/
def k2 : Class := { plain "java/lang/Comparable" (some 0) with
  accessFlags := 1537
  interfaces := #[]
  cf := some (fileOf pool2 1 #[] #[] 1537 3 #[] #[])
  fields := #[]
  methods := #[]
  instanceTypes := #[]
  staticTypes := #[]
  resolved := Array.replicate 12 none
  statics := none }

def pool3 : Array CpInfo := pool [(1, .class_ 2), (0, u "com/example/assemble_quorum/assemblequorum/model/MemberAddress"), (0, .methodref 4 5), (0, .class_ 6), (0, .nameAndType 7 8), (0, u "java/lang/Object"), (0, u "<init>"), (0, u "()V"), (0, .string 10), (0, u "host"), (0, .methodref 12 13), (0, .class_ 14), (0, .nameAndType 15 16), (0, u "java/util/Objects"), (0, u "requireNonNull"), (0, u "(Ljava/lang/Object;Ljava/lang/String;)Ljava/lang/Object;"), (0, .methodref 1 18), (0, .nameAndType 19 20), (0, u "checkHost"), (0, u "(Ljava/lang/String;)V"), (0, .integer 65535), (6, .fieldref 1 29), (0, .nameAndType 10 30), (0, u "Ljava/lang/String;"), (0, .fieldref 1 32), (0, .nameAndType 33 34), (0, u "port"), (0, u "I"), (5, .class_ 42), (1, u "java/lang/String"), (6, u "indexOf"), (7, .methodref 40 58), (0, .nameAndType 49 59), (0, u "(I)I"), (15, u "(Ljava/lang/String;I)V"), (15, u "()I"), (5, .methodref 40 98), (0, .nameAndType 99 100), (0, u "isEmpty"), (0, u "()Z"), (2, .methodref 40 104), (0, .nameAndType 105 91), (0, u "length"), (2, .methodref 40 109), (0, .nameAndType 110 111), (0, u "charAt"), (0, u "(I)C"), (3, u "(C)Z"), (0, .methodref 1 117), (0, .nameAndType 118 115), (0, u "isNameCharacter"), (25, .class_ 145), (0, u "java/lang/Comparable"), (0, u "MAX_HOST_LENGTH"), (2, u "MAX_PORT"), (0, u "PORT_RANGE")] 44

def k3c0 : Code := { maxStack := 3, maxLocals := 3, code := prog_31_method_1_code, exceptionTable := #[], attributes := #[] }
def k3m0 : Method := { name := "<init>", desc := "(Ljava/lang/String;I)V", sig := { parameters := [(.object "java/lang/String"), .int], returnType := none }, accessFlags := 1, code := some k3c0 }
def k3c1 : Code := { maxStack := 3, maxLocals := 5, code := prog_31_method_9_code, exceptionTable := #[], attributes := #[] }
def k3m1 : Method := { name := "checkHost", desc := "(Ljava/lang/String;)V", sig := { parameters := [(.object "java/lang/String")], returnType := none }, accessFlags := 10, code := some k3c1 }
def k3c2 : Code := { maxStack := 2, maxLocals := 1, code := prog_31_method_12_code, exceptionTable := #[], attributes := #[] }
def k3m2 : Method := { name := "isNameCharacter", desc := "(C)Z", sig := { parameters := [.char], returnType := some .boolean }, accessFlags := 10, code := some k3c2 }
/-- com/example/assemble_quorum/assemblequorum/model/MemberAddress -/
def k3 : Class := { plain "com/example/assemble_quorum/assemblequorum/model/MemberAddress" (some 0) with
  accessFlags := 33
  interfaces := #[2]
  cf := some (fileOf pool3 1 #[] #[{ accessFlags := 1, nameIndex := 7, descriptorIndex := 75, attributes := #[] }, { accessFlags := 10, nameIndex := 19, descriptorIndex := 20, attributes := #[] }, { accessFlags := 10, nameIndex := 118, descriptorIndex := 115, attributes := #[] }] 33 4 #[144] #[{ accessFlags := 26, nameIndex := 146, descriptorIndex := 34, attributes := #[] }, { accessFlags := 26, nameIndex := 149, descriptorIndex := 34, attributes := #[] }, { accessFlags := 26, nameIndex := 150, descriptorIndex := 30, attributes := #[] }, { accessFlags := 18, nameIndex := 10, descriptorIndex := 30, attributes := #[] }, { accessFlags := 18, nameIndex := 33, descriptorIndex := 34, attributes := #[] }])
  fields := #[{ name := "MAX_HOST_LENGTH", type := .int, accessFlags := 26, slot := 0, constantValue := 0 }, { name := "MAX_PORT", type := .int, accessFlags := 26, slot := 1, constantValue := 0 }, { name := "PORT_RANGE", type := (.object "java/lang/String"), accessFlags := 26, slot := 2, constantValue := 0 }, { name := "host", type := (.object "java/lang/String"), accessFlags := 18, slot := 0, constantValue := 0 }, { name := "port", type := .int, accessFlags := 18, slot := 1, constantValue := 0 }]
  methods := #[k3m0, k3m1, k3m2]
  instanceTypes := #[(.object "java/lang/String"), .int]
  staticTypes := #[.int, .int, (.object "java/lang/String")]
  resolved := Array.replicate 195 none
  statics := none }

def pool4 : Array CpInfo := pool [(1, .class_ 2), (0, u "java/io/Serializable"), (0, .class_ 4), (0, u "java/lang/Object")] 2

/-- java/io/Serializable -/
def k4 : Class := { plain "java/io/Serializable" (some 0) with
  accessFlags := 1537
  interfaces := #[]
  cf := some (fileOf pool4 1 #[] #[] 1537 3 #[] #[])
  fields := #[]
  methods := #[]
  instanceTypes := #[]
  staticTypes := #[]
  resolved := Array.replicate 7 none
  statics := none }

def pool5 : Array CpInfo := pool [(2, .class_ 4), (1, u "java/lang/CharSequence"), (42, .class_ 48), (0, u "java/lang/CharSequence$1CodePointIterator"), (10, .class_ 60), (0, u "java/lang/CharSequence$1CharIterator"), (5, .class_ 67), (0, u "java/lang/Object")] 63

/-- java/lang/CharSequence -/
def k5 : Class := { plain "java/lang/CharSequence" (some 0) with
  accessFlags := 1537
  interfaces := #[]
  cf := some (fileOf pool5 2 #[.nestMembers #[47, 59]] #[] 1537 66 #[] #[])
  fields := #[]
  methods := #[]
  instanceTypes := #[]
  staticTypes := #[]
  resolved := Array.replicate 131 none
  statics := none }

def pool6 : Array CpInfo := pool [(1, .class_ 2), (0, u "java/lang/constant/Constable"), (0, .class_ 4), (0, u "java/lang/Object")] 6

/-- java/lang/constant/Constable -/
def k6 : Class := { plain "java/lang/constant/Constable" (some 0) with
  accessFlags := 1537
  interfaces := #[]
  cf := some (fileOf pool6 1 #[] #[] 1537 3 #[] #[])
  fields := #[]
  methods := #[]
  instanceTypes := #[]
  staticTypes := #[]
  resolved := Array.replicate 11 none
  statics := none }

def pool7 : Array CpInfo := pool [(1, .class_ 2), (0, u "java/lang/constant/ConstantDesc"), (0, .class_ 4), (0, u "java/lang/Object")] 32

/-- java/lang/constant/ConstantDesc -/
def k7 : Class := { plain "java/lang/constant/ConstantDesc" (some 0) with
  accessFlags := 1537
  interfaces := #[]
  cf := some (fileOf pool7 1 #[] #[] 1537 3 #[] #[])
  fields := #[]
  methods := #[]
  instanceTypes := #[]
  staticTypes := #[]
  resolved := Array.replicate 37 none
  statics := none }

def pool8 : Array CpInfo := pool [(2, .class_ 4), (1, u "java/lang/Object"), (0, u "<init>"), (0, u "()V"), (2, .fieldref 10 11), (0, .class_ 12), (0, .nameAndType 13 14), (0, u "java/lang/String"), (0, u "value"), (0, u "[B"), (0, .fieldref 10 16), (0, .nameAndType 17 18), (0, u "coder"), (0, u "B"), (2, u "hash"), (0, u "I"), (2, u "hashIsZero"), (0, u "Z"), (11, .fieldref 10 39), (0, .nameAndType 40 26), (0, u "COMPACT_STRINGS"), (66, .class_ 109), (1, u "java/lang/StringLatin1"), (32, u "()Z"), (191, u "()I"), (0, .methodref 10 336), (0, .nameAndType 17 337), (0, u "()B"), (25, u "([BI)C"), (27, u "(II)V"), (35, u "(I)C"), (64, .methodref 10 493), (0, .nameAndType 494 142), (0, u "isLatin1"), (0, .methodref 107 496), (0, .nameAndType 497 363), (0, u "charAt"), (3, u "checkIndex"), (3, .methodref 10 506), (0, .nameAndType 507 334), (0, u "length"), (67, .class_ 576), (0, u "java/lang/CharSequence"), (22, u "CASE_INSENSITIVE_ORDER"), (0, u "Ljava/util/Comparator;"), (32, .methodref 10 634), (0, .nameAndType 635 636), (0, u "indexOf"), (0, u "(II)I"), (0, .methodref 107 638), (0, .nameAndType 635 639), (0, u "([BIII)I"), (52, u "isEmpty"), (72, u "(I)I"), (287, .fieldref 1054 1055), (0, .class_ 1056), (0, .nameAndType 1057 1058), (0, u "jdk/internal/util/Preconditions"), (0, u "SIOOBE_FORMATTER"), (0, u "Ljava/util/function/BiFunction;"), (0, .methodref 1054 1060), (0, .nameAndType 501 1061), (0, u "(IILjava/util/function/BiFunction;)I"), (39, u "serialPersistentFields"), (0, u "[Ljava/io/ObjectStreamField;"), (0, .class_ 1104), (0, u "java/lang/String$CaseInsensitiveComparator"), (1, .class_ 1107), (0, u "java/io/Serializable"), (0, .class_ 1109), (0, u "java/lang/Comparable"), (0, .class_ 1111), (0, u "java/lang/constant/Constable"), (0, .class_ 1113), (0, u "java/lang/constant/ConstantDesc"), (2, u "serialVersionUID"), (0, u "J"), (3, u "REPL"), (0, u "C"), (2, u "LATIN1"), (1, u "UTF16")] 323

def k8m0 : Method := { name := "<init>", desc := "()V", sig := { parameters := [], returnType := none }, accessFlags := 1, code := none }
def k8c1 : Code := { maxStack := 2, maxLocals := 1, code := jdk_42_method_54_code, exceptionTable := #[], attributes := #[] }
def k8m1 : Method := { name := "length", desc := "()I", sig := { parameters := [], returnType := some .int }, accessFlags := 1, code := some k8c1 }
def k8c2 : Code := { maxStack := 1, maxLocals := 1, code := jdk_42_method_55_code, exceptionTable := #[], attributes := #[] }
def k8m2 : Method := { name := "isEmpty", desc := "()Z", sig := { parameters := [], returnType := some .boolean }, accessFlags := 1, code := some k8c2 }
def k8c3 : Code := { maxStack := 2, maxLocals := 2, code := jdk_42_method_56_code, exceptionTable := #[], attributes := #[] }
def k8m3 : Method := { name := "charAt", desc := "(I)C", sig := { parameters := [.int], returnType := some .char }, accessFlags := 1, code := some k8c3 }
def k8c4 : Code := { maxStack := 3, maxLocals := 2, code := jdk_42_method_79_code, exceptionTable := #[], attributes := #[] }
def k8m4 : Method := { name := "indexOf", desc := "(I)I", sig := { parameters := [.int], returnType := some .int }, accessFlags := 1, code := some k8c4 }
def k8c5 : Code := { maxStack := 4, maxLocals := 3, code := jdk_42_method_80_code, exceptionTable := #[], attributes := #[] }
def k8m5 : Method := { name := "indexOf", desc := "(II)I", sig := { parameters := [.int, .int], returnType := some .int }, accessFlags := 1, code := some k8c5 }
def k8c6 : Code := { maxStack := 1, maxLocals := 1, code := jdk_42_method_152_code, exceptionTable := #[], attributes := #[] }
def k8m6 : Method := { name := "coder", desc := "()B", sig := { parameters := [], returnType := some .byte }, accessFlags := 0, code := some k8c6 }
def k8c7 : Code := { maxStack := 1, maxLocals := 1, code := jdk_42_method_154_code, exceptionTable := #[], attributes := #[] }
def k8m7 : Method := { name := "isLatin1", desc := "()Z", sig := { parameters := [], returnType := some .boolean }, accessFlags := 0, code := some k8c7 }
def k8c8 : Code := { maxStack := 3, maxLocals := 2, code := jdk_42_method_155_code, exceptionTable := #[], attributes := #[] }
def k8m8 : Method := { name := "checkIndex", desc := "(II)V", sig := { parameters := [.int, .int], returnType := none }, accessFlags := 8, code := some k8c8 }
/-- java/lang/String -/
def k8 : Class := { plain "java/lang/String" (some 0) with
  accessFlags := 49
  interfaces := #[4, 2, 5, 6, 7]
  cf := some (fileOf pool8 10 #[.nestMembers #[1103]] #[{ accessFlags := 1, nameIndex := 5, descriptorIndex := 6, attributes := #[] }, { accessFlags := 1, nameIndex := 507, descriptorIndex := 334, attributes := #[] }, { accessFlags := 1, nameIndex := 692, descriptorIndex := 142, attributes := #[] }, { accessFlags := 1, nameIndex := 497, descriptorIndex := 427, attributes := #[] }, { accessFlags := 1, nameIndex := 635, descriptorIndex := 765, attributes := #[] }, { accessFlags := 1, nameIndex := 635, descriptorIndex := 636, attributes := #[] }, { accessFlags := 0, nameIndex := 17, descriptorIndex := 337, attributes := #[] }, { accessFlags := 0, nameIndex := 494, descriptorIndex := 142, attributes := #[] }, { accessFlags := 8, nameIndex := 501, descriptorIndex := 391, attributes := #[] }] 49 2 #[1106, 1108, 575, 1110, 1112] #[{ accessFlags := 18, nameIndex := 13, descriptorIndex := 14, attributes := #[] }, { accessFlags := 18, nameIndex := 17, descriptorIndex := 18, attributes := #[] }, { accessFlags := 2, nameIndex := 21, descriptorIndex := 22, attributes := #[] }, { accessFlags := 2, nameIndex := 25, descriptorIndex := 26, attributes := #[] }, { accessFlags := 26, nameIndex := 1116, descriptorIndex := 1117, attributes := #[] }, { accessFlags := 24, nameIndex := 40, descriptorIndex := 26, attributes := #[] }, { accessFlags := 26, nameIndex := 1101, descriptorIndex := 1102, attributes := #[] }, { accessFlags := 26, nameIndex := 1121, descriptorIndex := 1122, attributes := #[] }, { accessFlags := 25, nameIndex := 599, descriptorIndex := 600, attributes := #[] }, { accessFlags := 24, nameIndex := 1125, descriptorIndex := 18, attributes := #[] }, { accessFlags := 24, nameIndex := 1127, descriptorIndex := 18, attributes := #[] }])
  fields := #[{ name := "value", type := (.array .byte), accessFlags := 18, slot := 0, constantValue := 0 }, { name := "coder", type := .byte, accessFlags := 18, slot := 1, constantValue := 0 }, { name := "hash", type := .int, accessFlags := 2, slot := 2, constantValue := 0 }, { name := "hashIsZero", type := .boolean, accessFlags := 2, slot := 3, constantValue := 0 }, { name := "serialVersionUID", type := .long, accessFlags := 26, slot := 0, constantValue := 0 }, { name := "COMPACT_STRINGS", type := .boolean, accessFlags := 24, slot := 1, constantValue := 0 }, { name := "serialPersistentFields", type := (.array (.object "java/io/ObjectStreamField")), accessFlags := 26, slot := 2, constantValue := 0 }, { name := "REPL", type := .char, accessFlags := 26, slot := 3, constantValue := 0 }, { name := "CASE_INSENSITIVE_ORDER", type := (.object "java/util/Comparator"), accessFlags := 25, slot := 4, constantValue := 0 }, { name := "LATIN1", type := .byte, accessFlags := 24, slot := 5, constantValue := 0 }, { name := "UTF16", type := .byte, accessFlags := 24, slot := 6, constantValue := 0 }]
  methods := #[k8m0, k8m1, k8m2, k8m3, k8m4, k8m5, k8m6, k8m7, k8m8]
  instanceTypes := #[(.array .byte), .byte, .int, .boolean]
  staticTypes := #[.long, .boolean, (.array (.object "java/io/ObjectStreamField")), .char, (.object "java/util/Comparator"), .byte, .byte]
  resolved := Array.replicate 1451 none
  statics := some 0 }

def pool9 : Array CpInfo := pool [(2, .class_ 4), (1, u "java/lang/Object"), (0, u "<init>"), (0, u "()V"), (35, .class_ 44), (1, u "java/util/Objects"), (0, u "requireNonNull"), (48, u "(Ljava/lang/Object;Ljava/lang/String;)Ljava/lang/Object;")] 89

def k9m0 : Method := { name := "<init>", desc := "()V", sig := { parameters := [], returnType := none }, accessFlags := 2, code := none }
def k9c1 : Code := { maxStack := 3, maxLocals := 2, code := jdk_31_method_11_code, exceptionTable := #[], attributes := #[] }
def k9m1 : Method := { name := "requireNonNull", desc := "(Ljava/lang/Object;Ljava/lang/String;)Ljava/lang/Object;", sig := { parameters := [(.object "java/lang/Object"), (.object "java/lang/String")], returnType := some (.object "java/lang/Object") }, accessFlags := 9, code := some k9c1 }
/-- java/util/Objects -/
def k9 : Class := { plain "java/util/Objects" (some 0) with
  accessFlags := 49
  interfaces := #[]
  cf := some (fileOf pool9 42 #[] #[{ accessFlags := 2, nameIndex := 5, descriptorIndex := 6, attributes := #[] }, { accessFlags := 9, nameIndex := 45, descriptorIndex := 94, attributes := #[] }] 49 2 #[] #[])
  fields := #[]
  methods := #[k9m0, k9m1]
  instanceTypes := #[]
  staticTypes := #[]
  resolved := Array.replicate 184 none
  statics := none }

def pool10 : Array CpInfo := pool [(1, .class_ 2), (0, u "java/lang/String"), (1, .class_ 6), (1, u "java/lang/Object"), (0, u "<init>"), (0, u "()V"), (0, .methodref 1 10), (0, .nameAndType 11 12), (0, u "checkIndex"), (0, u "(II)V"), (1, .class_ 16), (1, u "java/lang/StringLatin1"), (21, .methodref 39 40), (0, .class_ 41), (0, .nameAndType 42 43), (0, u "java/lang/Math"), (0, u "min"), (0, u "(II)I"), (9, u "([BI)C"), (34, .methodref 14 89), (0, .nameAndType 90 91), (0, u "canEncode"), (0, u "(I)Z"), (0, .methodref 39 93), (0, .nameAndType 94 43), (0, u "max"), (0, .methodref 14 96), (0, .nameAndType 97 98), (0, u "indexOfChar"), (0, u "([BIII)I"), (2, u "indexOf"), (19, u "$assertionsDisabled"), (0, u "Z"), (98, .class_ 223), (1, u "java/lang/StringLatin1$LinesSpliterator"), (28, u "charAt"), (137, .class_ 391), (0, u "java/lang/StringLatin1$CharsSpliterator")] 3

def k10m0 : Method := { name := "<init>", desc := "()V", sig := { parameters := [], returnType := none }, accessFlags := 0, code := none }
def k10c1 : Code := { maxStack := 2, maxLocals := 2, code := jdk_43_method_2_code, exceptionTable := #[], attributes := #[] }
def k10m1 : Method := { name := "charAt", desc := "([BI)C", sig := { parameters := [(.array .byte), .int], returnType := some .char }, accessFlags := 9, code := some k10c1 }
def k10c2 : Code := { maxStack := 2, maxLocals := 1, code := jdk_43_method_4_code, exceptionTable := #[], attributes := #[] }
def k10m2 : Method := { name := "canEncode", desc := "(I)Z", sig := { parameters := [.int], returnType := some .boolean }, accessFlags := 9, code := some k10c2 }
def k10c3 : Code := { maxStack := 4, maxLocals := 4, code := jdk_43_method_22_code, exceptionTable := #[], attributes := #[] }
def k10m3 : Method := { name := "indexOf", desc := "([BIII)I", sig := { parameters := [(.array .byte), .int, .int, .int], returnType := some .int }, accessFlags := 9, code := some k10c3 }
def k10c4 : Code := { maxStack := 2, maxLocals := 6, code := jdk_43_method_23_code, exceptionTable := #[], attributes := #[] }
def k10m4 : Method := { name := "indexOfChar", desc := "([BIII)I", sig := { parameters := [(.array .byte), .int, .int, .int], returnType := some .int }, accessFlags := 10, code := some k10c4 }
/-- java/lang/StringLatin1 -/
def k10 : Class := { plain "java/lang/StringLatin1" (some 0) with
  accessFlags := 48
  interfaces := #[]
  cf := some (fileOf pool10 14 #[.nestMembers #[390, 221]] #[{ accessFlags := 0, nameIndex := 7, descriptorIndex := 8, attributes := #[] }, { accessFlags := 9, nameIndex := 252, descriptorIndex := 53, attributes := #[] }, { accessFlags := 9, nameIndex := 90, descriptorIndex := 91, attributes := #[] }, { accessFlags := 9, nameIndex := 101, descriptorIndex := 98, attributes := #[] }, { accessFlags := 10, nameIndex := 97, descriptorIndex := 98, attributes := #[] }] 48 4 #[] #[{ accessFlags := 4120, nameIndex := 121, descriptorIndex := 122, attributes := #[] }])
  fields := #[{ name := "$assertionsDisabled", type := .boolean, accessFlags := 4120, slot := 0, constantValue := 0 }]
  methods := #[k10m0, k10m1, k10m2, k10m3, k10m4]
  instanceTypes := #[]
  staticTypes := #[.boolean]
  resolved := Array.replicate 395 none
  statics := none }

def pool11 : Array CpInfo := pool [(1, .class_ 2), (0, u "java/lang/Math"), (1, .class_ 6), (1, u "java/lang/Object"), (0, u "<init>"), (0, u "()V"), (89, .class_ 100), (1, u "java/lang/Math$RandomNumberGeneratorHolder"), (71, u "negativeZeroFloatBits"), (0, u "J"), (2, u "negativeZeroDoubleBits"), (21, u "max"), (2, u "min"), (43, u "$assertionsDisabled"), (0, u "Z"), (88, u "(II)I"), (2, u "twoToTheDoubleScaleDown"), (0, u "D"), (4, u "twoToTheDoubleScaleUp"), (9, u "E"), (3, u "PI"), (2, u "TAU"), (2, u "DEGREES_TO_RADIANS"), (0, u "RADIANS_TO_DEGREES")] 94

def k11m0 : Method := { name := "<init>", desc := "()V", sig := { parameters := [], returnType := none }, accessFlags := 2, code := none }
def k11c1 : Code := { maxStack := 2, maxLocals := 2, code := jdk_29_method_65_code, exceptionTable := #[], attributes := #[] }
def k11m1 : Method := { name := "max", desc := "(II)I", sig := { parameters := [.int, .int], returnType := some .int }, accessFlags := 9, code := some k11c1 }
def k11c2 : Code := { maxStack := 2, maxLocals := 2, code := jdk_29_method_69_code, exceptionTable := #[], attributes := #[] }
def k11m2 : Method := { name := "min", desc := "(II)I", sig := { parameters := [.int, .int], returnType := some .int }, accessFlags := 9, code := some k11c2 }
/-- java/lang/Math -/
def k11 : Class := { plain "java/lang/Math" (some 0) with
  accessFlags := 49
  interfaces := #[]
  cf := some (fileOf pool11 1 #[.nestMembers #[98]] #[{ accessFlags := 2, nameIndex := 7, descriptorIndex := 8, attributes := #[] }, { accessFlags := 9, nameIndex := 198, descriptorIndex := 335, attributes := #[] }, { accessFlags := 9, nameIndex := 201, descriptorIndex := 335, attributes := #[] }] 49 4 #[] #[{ accessFlags := 25, nameIndex := 354, descriptorIndex := 339, attributes := #[] }, { accessFlags := 25, nameIndex := 358, descriptorIndex := 339, attributes := #[] }, { accessFlags := 25, nameIndex := 361, descriptorIndex := 339, attributes := #[] }, { accessFlags := 26, nameIndex := 364, descriptorIndex := 339, attributes := #[] }, { accessFlags := 26, nameIndex := 365, descriptorIndex := 339, attributes := #[] }, { accessFlags := 26, nameIndex := 172, descriptorIndex := 173, attributes := #[] }, { accessFlags := 26, nameIndex := 176, descriptorIndex := 173, attributes := #[] }, { accessFlags := 8, nameIndex := 344, descriptorIndex := 339, attributes := #[] }, { accessFlags := 8, nameIndex := 338, descriptorIndex := 339, attributes := #[] }, { accessFlags := 4120, nameIndex := 245, descriptorIndex := 246, attributes := #[] }])
  fields := #[{ name := "E", type := .double, accessFlags := 25, slot := 0, constantValue := 0 }, { name := "PI", type := .double, accessFlags := 25, slot := 1, constantValue := 0 }, { name := "TAU", type := .double, accessFlags := 25, slot := 2, constantValue := 0 }, { name := "DEGREES_TO_RADIANS", type := .double, accessFlags := 26, slot := 3, constantValue := 0 }, { name := "RADIANS_TO_DEGREES", type := .double, accessFlags := 26, slot := 4, constantValue := 0 }, { name := "negativeZeroFloatBits", type := .long, accessFlags := 26, slot := 5, constantValue := 0 }, { name := "negativeZeroDoubleBits", type := .long, accessFlags := 26, slot := 6, constantValue := 0 }, { name := "twoToTheDoubleScaleUp", type := .double, accessFlags := 8, slot := 7, constantValue := 0 }, { name := "twoToTheDoubleScaleDown", type := .double, accessFlags := 8, slot := 8, constantValue := 0 }, { name := "$assertionsDisabled", type := .boolean, accessFlags := 4120, slot := 9, constantValue := 0 }]
  methods := #[k11m0, k11m1, k11m2]
  instanceTypes := #[]
  staticTypes := #[.double, .double, .double, .double, .double, .long, .long, .double, .double, .boolean]
  resolved := Array.replicate 460 none
  statics := none }

def pool12 : Array CpInfo := pool [(2, .class_ 4), (1, u "java/lang/Object"), (0, u "<init>"), (0, u "()V"), (17, .class_ 26), (1, u "jdk/internal/util/Preconditions"), (6, u "checkIndex"), (21, .class_ 56), (0, u "jdk/internal/util/Preconditions$4"), (57, .class_ 115), (0, u "jdk/internal/util/Preconditions$1"), (7, u "SIOOBE_FORMATTER"), (0, u "Ljava/util/function/BiFunction;"), (0, .class_ 126), (0, u "jdk/internal/util/Preconditions$2"), (3, u "AIOOBE_FORMATTER"), (0, .class_ 132), (0, u "jdk/internal/util/Preconditions$3"), (3, u "IOOBE_FORMATTER"), (41, u "(IILjava/util/function/BiFunction;)I")] 15

def k12m0 : Method := { name := "<init>", desc := "()V", sig := { parameters := [], returnType := none }, accessFlags := 1, code := none }
def k12c1 : Code := { maxStack := 3, maxLocals := 3, code := jdk_41_method_11_code, exceptionTable := #[], attributes := #[] }
def k12m1 : Method := { name := "checkIndex", desc := "(IILjava/util/function/BiFunction;)I", sig := { parameters := [.int, .int, (.object "java/util/function/BiFunction")], returnType := some .int }, accessFlags := 9, code := some k12c1 }
/-- jdk/internal/util/Preconditions -/
def k12 : Class := { plain "jdk/internal/util/Preconditions" (some 0) with
  accessFlags := 33
  interfaces := #[]
  cf := some (fileOf pool12 24 #[.nestMembers #[55, 131, 125, 114]] #[{ accessFlags := 1, nameIndex := 5, descriptorIndex := 6, attributes := #[] }, { accessFlags := 9, nameIndex := 33, descriptorIndex := 178, attributes := #[] }] 33 2 #[] #[{ accessFlags := 25, nameIndex := 123, descriptorIndex := 124, attributes := #[] }, { accessFlags := 25, nameIndex := 130, descriptorIndex := 124, attributes := #[] }, { accessFlags := 25, nameIndex := 136, descriptorIndex := 124, attributes := #[] }])
  fields := #[{ name := "SIOOBE_FORMATTER", type := (.object "java/util/function/BiFunction"), accessFlags := 25, slot := 0, constantValue := 0 }, { name := "AIOOBE_FORMATTER", type := (.object "java/util/function/BiFunction"), accessFlags := 25, slot := 1, constantValue := 0 }, { name := "IOOBE_FORMATTER", type := (.object "java/util/function/BiFunction"), accessFlags := 25, slot := 2, constantValue := 0 }]
  methods := #[k12m0, k12m1]
  instanceTypes := #[]
  staticTypes := #[(.object "java/util/function/BiFunction"), (.object "java/util/function/BiFunction"), (.object "java/util/function/BiFunction")]
  resolved := Array.replicate 194 none
  statics := some 1 }

def pool13 : Array CpInfo := pool [(1, .methodref 2 3), (0, .class_ 4), (0, .nameAndType 5 6), (0, u "java/lang/Object"), (0, u "<init>"), (0, u "()V"), (0, .string 8), (0, u "proposer"), (0, .methodref 10 11), (0, .class_ 12), (0, .nameAndType 13 14), (0, u "java/util/Objects"), (0, u "requireNonNull"), (0, u "(Ljava/lang/Object;Ljava/lang/String;)Ljava/lang/Object;"), (7, .fieldref 23 24), (0, .class_ 25), (0, .nameAndType 26 27), (0, u "com/example/assemble_quorum/assemblequorum/model/ProposalNumber"), (0, u "counter"), (0, u "J"), (0, .fieldref 23 29), (0, .nameAndType 8 30), (0, u "Lcom/example/assemble_quorum/assemblequorum/model/MemberAddress;"), (36, .class_ 68), (0, u "java/lang/Comparable"), (0, u "(JLcom/example/assemble_quorum/assemblequorum/model/MemberAddress;)V")] 28

def k13c0 : Code := { maxStack := 4, maxLocals := 4, code := prog_34_method_1_code, exceptionTable := #[], attributes := #[] }
def k13m0 : Method := { name := "<init>", desc := "(JLcom/example/assemble_quorum/assemblequorum/model/MemberAddress;)V", sig := { parameters := [.long, (.object "com/example/assemble_quorum/assemblequorum/model/MemberAddress")], returnType := none }, accessFlags := 1, code := some k13c0 }
/-- com/example/assemble_quorum/assemblequorum/model/ProposalNumber -/
def k13 : Class := { plain "com/example/assemble_quorum/assemblequorum/model/ProposalNumber" (some 0) with
  accessFlags := 33
  interfaces := #[2]
  cf := some (fileOf pool13 23 #[] #[{ accessFlags := 1, nameIndex := 5, descriptorIndex := 69, attributes := #[] }] 33 2 #[67] #[{ accessFlags := 18, nameIndex := 26, descriptorIndex := 27, attributes := #[] }, { accessFlags := 18, nameIndex := 8, descriptorIndex := 30, attributes := #[] }])
  fields := #[{ name := "counter", type := .long, accessFlags := 18, slot := 0, constantValue := 0 }, { name := "proposer", type := (.object "com/example/assemble_quorum/assemblequorum/model/MemberAddress"), accessFlags := 18, slot := 1, constantValue := 0 }]
  methods := #[k13m0]
  instanceTypes := #[.long, (.object "com/example/assemble_quorum/assemblequorum/model/MemberAddress")]
  staticTypes := #[]
  resolved := Array.replicate 98 none
  statics := none }

def pool14 : Array CpInfo := pool [(2, .class_ 4), (1, u "java/lang/Enum"), (0, u "name"), (0, u "Ljava/lang/String;"), (2, u "ordinal"), (0, u "I"), (1, .class_ 14), (1, u "java/lang/Object"), (4, u "hash"), (86, .class_ 108), (1, u "java/lang/Enum$EnumDesc"), (2, .class_ 112), (0, u "java/lang/constant/Constable"), (0, .class_ 114), (0, u "java/lang/Comparable"), (0, .class_ 116), (0, u "java/io/Serializable")] 87

/-- java/lang/Enum -/
def k14 : Class := { plain "java/lang/Enum" (some 0) with
  accessFlags := 1057
  interfaces := #[6, 2, 4]
  cf := some (fileOf pool14 2 #[.nestMembers #[106]] #[] 1057 12 #[111, 113, 115] #[{ accessFlags := 18, nameIndex := 5, descriptorIndex := 6, attributes := #[] }, { accessFlags := 18, nameIndex := 9, descriptorIndex := 10, attributes := #[] }, { accessFlags := 2, nameIndex := 19, descriptorIndex := 10, attributes := #[] }])
  fields := #[{ name := "name", type := (.object "java/lang/String"), accessFlags := 18, slot := 0, constantValue := 0 }, { name := "ordinal", type := .int, accessFlags := 18, slot := 1, constantValue := 0 }, { name := "hash", type := .int, accessFlags := 2, slot := 2, constantValue := 0 }]
  methods := #[]
  instanceTypes := #[(.object "java/lang/String"), .int, .int]
  staticTypes := #[]
  resolved := Array.replicate 204 none
  statics := none }

def pool15 : Array CpInfo := pool [(1, .class_ 2), (0, u "com/example/assemble_quorum/assemblequorum/io/Message$Kind"), (2, u "HELLO"), (0, u "Lcom/example/assemble_quorum/assemblequorum/io/Message$Kind;"), (2, u "LEADER_QUERY"), (2, u "LEADER_ANSWER"), (2, u "JOIN_REQUEST"), (2, u "JOIN_ANSWER"), (2, u "MEMBERS"), (2, u "HEALTH_QUERY"), (2, u "HEALTH_ANSWER"), (2, u "PROPOSAL"), (2, u "PROPOSAL_ANSWER"), (2, u "FINAL_PROPOSAL"), (2, u "FINAL_ANSWER"), (2, u "ELECTED"), (2, u "KEEP_ALIVE"), (2, u "ACKNOWLEDGEMENT"), (2, u "PING"), (2, u "EVENT"), (2, u "$VALUES"), (0, u "[Lcom/example/assemble_quorum/assemblequorum/io/Message$Kind;"), (6, .class_ 67), (1, u "java/lang/Enum"), (8, u "code"), (0, u "I"), (38, .class_ 117), (0, u "com/example/assemble_quorum/assemblequorum/io/Message")] 2

/-- com/example/assemble_quorum/assemblequorum/io/Message$Kind -/
def k15 : Class := { plain "com/example/assemble_quorum/assemblequorum/io/Message$Kind" (some 14) with
  accessFlags := 16433
  interfaces := #[]
  cf := some (fileOf pool15 1 #[.nestHost 116] #[] 16433 65 #[] #[{ accessFlags := 16409, nameIndex := 5, descriptorIndex := 6, attributes := #[] }, { accessFlags := 16409, nameIndex := 9, descriptorIndex := 6, attributes := #[] }, { accessFlags := 16409, nameIndex := 12, descriptorIndex := 6, attributes := #[] }, { accessFlags := 16409, nameIndex := 15, descriptorIndex := 6, attributes := #[] }, { accessFlags := 16409, nameIndex := 18, descriptorIndex := 6, attributes := #[] }, { accessFlags := 16409, nameIndex := 21, descriptorIndex := 6, attributes := #[] }, { accessFlags := 16409, nameIndex := 24, descriptorIndex := 6, attributes := #[] }, { accessFlags := 16409, nameIndex := 27, descriptorIndex := 6, attributes := #[] }, { accessFlags := 16409, nameIndex := 30, descriptorIndex := 6, attributes := #[] }, { accessFlags := 16409, nameIndex := 33, descriptorIndex := 6, attributes := #[] }, { accessFlags := 16409, nameIndex := 36, descriptorIndex := 6, attributes := #[] }, { accessFlags := 16409, nameIndex := 39, descriptorIndex := 6, attributes := #[] }, { accessFlags := 16409, nameIndex := 42, descriptorIndex := 6, attributes := #[] }, { accessFlags := 16409, nameIndex := 45, descriptorIndex := 6, attributes := #[] }, { accessFlags := 16409, nameIndex := 48, descriptorIndex := 6, attributes := #[] }, { accessFlags := 16409, nameIndex := 51, descriptorIndex := 6, attributes := #[] }, { accessFlags := 16409, nameIndex := 54, descriptorIndex := 6, attributes := #[] }, { accessFlags := 18, nameIndex := 76, descriptorIndex := 77, attributes := #[] }, { accessFlags := 4122, nameIndex := 57, descriptorIndex := 58, attributes := #[] }])
  fields := #[{ name := "HELLO", type := (.object "com/example/assemble_quorum/assemblequorum/io/Message$Kind"), accessFlags := 16409, slot := 0, constantValue := 0 }, { name := "LEADER_QUERY", type := (.object "com/example/assemble_quorum/assemblequorum/io/Message$Kind"), accessFlags := 16409, slot := 1, constantValue := 0 }, { name := "LEADER_ANSWER", type := (.object "com/example/assemble_quorum/assemblequorum/io/Message$Kind"), accessFlags := 16409, slot := 2, constantValue := 0 }, { name := "JOIN_REQUEST", type := (.object "com/example/assemble_quorum/assemblequorum/io/Message$Kind"), accessFlags := 16409, slot := 3, constantValue := 0 }, { name := "JOIN_ANSWER", type := (.object "com/example/assemble_quorum/assemblequorum/io/Message$Kind"), accessFlags := 16409, slot := 4, constantValue := 0 }, { name := "MEMBERS", type := (.object "com/example/assemble_quorum/assemblequorum/io/Message$Kind"), accessFlags := 16409, slot := 5, constantValue := 0 }, { name := "HEALTH_QUERY", type := (.object "com/example/assemble_quorum/assemblequorum/io/Message$Kind"), accessFlags := 16409, slot := 6, constantValue := 0 }, { name := "HEALTH_ANSWER", type := (.object "com/example/assemble_quorum/assemblequorum/io/Message$Kind"), accessFlags := 16409, slot := 7, constantValue := 0 }, { name := "PROPOSAL", type := (.object "com/example/assemble_quorum/assemblequorum/io/Message$Kind"), accessFlags := 16409, slot := 8, constantValue := 0 }, { name := "PROPOSAL_ANSWER", type := (.object "com/example/assemble_quorum/assemblequorum/io/Message$Kind"), accessFlags := 16409, slot := 9, constantValue := 0 }, { name := "FINAL_PROPOSAL", type := (.object "com/example/assemble_quorum/assemblequorum/io/Message$Kind"), accessFlags := 16409, slot := 10, constantValue := 0 }, { name := "FINAL_ANSWER", type := (.object "com/example/assemble_quorum/assemblequorum/io/Message$Kind"), accessFlags := 16409, slot := 11, constantValue := 0 }, { name := "ELECTED", type := (.object "com/example/assemble_quorum/assemblequorum/io/Message$Kind"), accessFlags := 16409, slot := 12, constantValue := 0 }, { name := "KEEP_ALIVE", type := (.object "com/example/assemble_quorum/assemblequorum/io/Message$Kind"), accessFlags := 16409, slot := 13, constantValue := 0 }, { name := "ACKNOWLEDGEMENT", type := (.object "com/example/assemble_quorum/assemblequorum/io/Message$Kind"), accessFlags := 16409, slot := 14, constantValue := 0 }, { name := "PING", type := (.object "com/example/assemble_quorum/assemblequorum/io/Message$Kind"), accessFlags := 16409, slot := 15, constantValue := 0 }, { name := "EVENT", type := (.object "com/example/assemble_quorum/assemblequorum/io/Message$Kind"), accessFlags := 16409, slot := 16, constantValue := 0 }, { name := "code", type := .int, accessFlags := 18, slot := 3, constantValue := 0 }, { name := "$VALUES", type := (.array (.object "com/example/assemble_quorum/assemblequorum/io/Message$Kind")), accessFlags := 4122, slot := 17, constantValue := 0 }]
  methods := #[]
  instanceTypes := #[(.object "java/lang/String"), .int, .int, .int]
  staticTypes := #[(.object "com/example/assemble_quorum/assemblequorum/io/Message$Kind"), (.object "com/example/assemble_quorum/assemblequorum/io/Message$Kind"), (.object "com/example/assemble_quorum/assemblequorum/io/Message$Kind"), (.object "com/example/assemble_quorum/assemblequorum/io/Message$Kind"), (.object "com/example/assemble_quorum/assemblequorum/io/Message$Kind"), (.object "com/example/assemble_quorum/assemblequorum/io/Message$Kind"), (.object "com/example/assemble_quorum/assemblequorum/io/Message$Kind"), (.object "com/example/assemble_quorum/assemblequorum/io/Message$Kind"), (.object "com/example/assemble_quorum/assemblequorum/io/Message$Kind"), (.object "com/example/assemble_quorum/assemblequorum/io/Message$Kind"), (.object "com/example/assemble_quorum/assemblequorum/io/Message$Kind"), (.object "com/example/assemble_quorum/assemblequorum/io/Message$Kind"), (.object "com/example/assemble_quorum/assemblequorum/io/Message$Kind"), (.object "com/example/assemble_quorum/assemblequorum/io/Message$Kind"), (.object "com/example/assemble_quorum/assemblequorum/io/Message$Kind"), (.object "com/example/assemble_quorum/assemblequorum/io/Message$Kind"), (.object "com/example/assemble_quorum/assemblequorum/io/Message$Kind"), (.array (.object "com/example/assemble_quorum/assemblequorum/io/Message$Kind"))]
  resolved := Array.replicate 120 none
  statics := some 2 }

def pool16 : Array CpInfo := pool [(1, .methodref 2 3), (0, .class_ 4), (0, .nameAndType 5 6), (0, u "java/lang/Object"), (0, u "<init>"), (0, u "()V"), (0, .interfaceMethodref 8 9), (0, .class_ 10), (0, .nameAndType 11 12), (0, u "java/util/List"), (0, u "of"), (0, u "()Ljava/util/List;"), (0, .fieldref 14 15), (0, .class_ 16), (0, .nameAndType 17 18), (0, u "com/example/assemble_quorum/assemblequorum/io/Message$Builder"), (0, u "members"), (0, u "Ljava/util/List;"), (0, .fieldref 14 20), (0, .nameAndType 21 22), (0, u "kind"), (0, u "Lcom/example/assemble_quorum/assemblequorum/io/Message$Kind;"), (2, u "sender"), (0, u "Lcom/example/assemble_quorum/assemblequorum/model/MemberAddress;"), (2, u "leader"), (9, u "version"), (0, u "J"), (2, u "number"), (0, u "Lcom/example/assemble_quorum/assemblequorum/model/ProposalNumber;"), (2, u "candidate"), (2, u "granted"), (0, u "Z"), (0, .fieldref 14 53), (0, .nameAndType 54 44), (0, u "priorNumber"), (0, .fieldref 14 56), (0, .nameAndType 57 26), (0, u "priorCandidate"), (2, u "topic"), (0, u "Ljava/lang/String;"), (2, u "payload"), (0, u "[B"), (0, .class_ 67), (0, u "com/example/assemble_quorum/assemblequorum/io/Message"), (0, .methodref 66 69), (0, .nameAndType 5 70), (0, u "(Lcom/example/assemble_quorum/assemblequorum/io/Message$Builder;)V"), (2, u "(Lcom/example/assemble_quorum/assemblequorum/io/Message$Kind;)V"), (7, u "prior"), (0, u "(Lcom/example/assemble_quorum/assemblequorum/model/ProposalNumber;Lcom/example/assemble_quorum/assemblequorum/model/MemberAddress;)Lcom/example/assemble_quorum/assemblequorum/io/Message$Builder;"), (4, u "build"), (0, u "()Lcom/example/assemble_quorum/assemblequorum/io/Message;")] 8

def k16c0 : Code := { maxStack := 2, maxLocals := 2, code := prog_18_method_1_code, exceptionTable := #[], attributes := #[] }
def k16m0 : Method := { name := "<init>", desc := "(Lcom/example/assemble_quorum/assemblequorum/io/Message$Kind;)V", sig := { parameters := [(.object "com/example/assemble_quorum/assemblequorum/io/Message$Kind")], returnType := none }, accessFlags := 0, code := some k16c0 }
def k16c1 : Code := { maxStack := 2, maxLocals := 3, code := prog_18_method_8_code, exceptionTable := #[], attributes := #[] }
def k16m1 : Method := { name := "prior", desc := "(Lcom/example/assemble_quorum/assemblequorum/model/ProposalNumber;Lcom/example/assemble_quorum/assemblequorum/model/MemberAddress;)Lcom/example/assemble_quorum/assemblequorum/io/Message$Builder;", sig := { parameters := [(.object "com/example/assemble_quorum/assemblequorum/model/ProposalNumber"), (.object "com/example/assemble_quorum/assemblequorum/model/MemberAddress")], returnType := some (.object "com/example/assemble_quorum/assemblequorum/io/Message$Builder") }, accessFlags := 0, code := some k16c1 }
def k16c2 : Code := { maxStack := 3, maxLocals := 1, code := prog_18_method_12_code, exceptionTable := #[], attributes := #[] }
def k16m2 : Method := { name := "build", desc := "()Lcom/example/assemble_quorum/assemblequorum/io/Message;", sig := { parameters := [], returnType := some (.object "com/example/assemble_quorum/assemblequorum/io/Message") }, accessFlags := 0, code := some k16c2 }
/-- com/example/assemble_quorum/assemblequorum/io/Message$Builder -/
def k16 : Class := { plain "com/example/assemble_quorum/assemblequorum/io/Message$Builder" (some 0) with
  accessFlags := 32
  interfaces := #[]
  cf := some (fileOf pool16 14 #[.nestHost 66] #[{ accessFlags := 0, nameIndex := 5, descriptorIndex := 73, attributes := #[] }, { accessFlags := 0, nameIndex := 81, descriptorIndex := 82, attributes := #[] }, { accessFlags := 0, nameIndex := 87, descriptorIndex := 88, attributes := #[] }] 32 2 #[] #[{ accessFlags := 18, nameIndex := 21, descriptorIndex := 22, attributes := #[] }, { accessFlags := 2, nameIndex := 25, descriptorIndex := 26, attributes := #[] }, { accessFlags := 2, nameIndex := 29, descriptorIndex := 26, attributes := #[] }, { accessFlags := 2, nameIndex := 39, descriptorIndex := 40, attributes := #[] }, { accessFlags := 2, nameIndex := 43, descriptorIndex := 44, attributes := #[] }, { accessFlags := 2, nameIndex := 47, descriptorIndex := 26, attributes := #[] }, { accessFlags := 2, nameIndex := 50, descriptorIndex := 51, attributes := #[] }, { accessFlags := 2, nameIndex := 54, descriptorIndex := 44, attributes := #[] }, { accessFlags := 2, nameIndex := 57, descriptorIndex := 26, attributes := #[] }, { accessFlags := 2, nameIndex := 17, descriptorIndex := 18, attributes := #[] }, { accessFlags := 2, nameIndex := 60, descriptorIndex := 61, attributes := #[] }, { accessFlags := 2, nameIndex := 64, descriptorIndex := 65, attributes := #[] }])
  fields := #[{ name := "kind", type := (.object "com/example/assemble_quorum/assemblequorum/io/Message$Kind"), accessFlags := 18, slot := 0, constantValue := 0 }, { name := "sender", type := (.object "com/example/assemble_quorum/assemblequorum/model/MemberAddress"), accessFlags := 2, slot := 1, constantValue := 0 }, { name := "leader", type := (.object "com/example/assemble_quorum/assemblequorum/model/MemberAddress"), accessFlags := 2, slot := 2, constantValue := 0 }, { name := "version", type := .long, accessFlags := 2, slot := 3, constantValue := 0 }, { name := "number", type := (.object "com/example/assemble_quorum/assemblequorum/model/ProposalNumber"), accessFlags := 2, slot := 4, constantValue := 0 }, { name := "candidate", type := (.object "com/example/assemble_quorum/assemblequorum/model/MemberAddress"), accessFlags := 2, slot := 5, constantValue := 0 }, { name := "granted", type := .boolean, accessFlags := 2, slot := 6, constantValue := 0 }, { name := "priorNumber", type := (.object "com/example/assemble_quorum/assemblequorum/model/ProposalNumber"), accessFlags := 2, slot := 7, constantValue := 0 }, { name := "priorCandidate", type := (.object "com/example/assemble_quorum/assemblequorum/model/MemberAddress"), accessFlags := 2, slot := 8, constantValue := 0 }, { name := "members", type := (.object "java/util/List"), accessFlags := 2, slot := 9, constantValue := 0 }, { name := "topic", type := (.object "java/lang/String"), accessFlags := 2, slot := 10, constantValue := 0 }, { name := "payload", type := (.array .byte), accessFlags := 2, slot := 11, constantValue := 0 }]
  methods := #[k16m0, k16m1, k16m2]
  instanceTypes := #[(.object "com/example/assemble_quorum/assemblequorum/io/Message$Kind"), (.object "com/example/assemble_quorum/assemblequorum/model/MemberAddress"), (.object "com/example/assemble_quorum/assemblequorum/model/MemberAddress"), .long, (.object "com/example/assemble_quorum/assemblequorum/model/ProposalNumber"), (.object "com/example/assemble_quorum/assemblequorum/model/MemberAddress"), .boolean, (.object "com/example/assemble_quorum/assemblequorum/model/ProposalNumber"), (.object "com/example/assemble_quorum/assemblequorum/model/MemberAddress"), (.object "java/util/List"), (.object "java/lang/String"), (.array .byte)]
  staticTypes := #[]
  resolved := Array.replicate 97 none
  statics := none }

def pool17 : Array CpInfo := pool [(8, .class_ 10), (1, u "java/lang/Iterable"), (24, .class_ 36), (0, u "java/lang/Object")] 25

/-- java/lang/Iterable -/
def k17 : Class := { plain "java/lang/Iterable" (some 0) with
  accessFlags := 1537
  interfaces := #[]
  cf := some (fileOf pool17 8 #[] #[] 1537 35 #[] #[])
  fields := #[]
  methods := #[]
  instanceTypes := #[]
  staticTypes := #[]
  resolved := Array.replicate 62 none
  statics := none }

def pool18 : Array CpInfo := pool [(10, .class_ 12), (1, u "java/util/Collection"), (47, .class_ 61), (0, u "java/lang/Object"), (0, .class_ 63), (0, u "java/lang/Iterable")] 51

/-- java/util/Collection -/
def k18 : Class := { plain "java/util/Collection" (some 0) with
  accessFlags := 1537
  interfaces := #[17]
  cf := some (fileOf pool18 10 #[] #[] 1537 60 #[62] #[])
  fields := #[]
  methods := #[]
  instanceTypes := #[]
  staticTypes := #[]
  resolved := Array.replicate 115 none
  statics := none }

def pool19 : Array CpInfo := pool [(8, .class_ 10), (1, u "java/util/SequencedCollection"), (15, .class_ 27), (0, u "java/lang/Object"), (0, .class_ 29), (0, u "java/util/Collection")] 27

/-- java/util/SequencedCollection -/
def k19 : Class := { plain "java/util/SequencedCollection" (some 0) with
  accessFlags := 1537
  interfaces := #[18]
  cf := some (fileOf pool19 8 #[] #[] 1537 26 #[28] #[])
  fields := #[]
  methods := #[]
  instanceTypes := #[]
  staticTypes := #[]
  resolved := Array.replicate 57 none
  statics := none }

def pool20 : Array CpInfo := pool [(8, .class_ 10), (1, u "java/util/List"), (77, u "of"), (1, .fieldref 91 92), (0, .class_ 93), (0, .nameAndType 94 95), (0, u "java/util/ImmutableCollections"), (0, u "EMPTY_LIST"), (0, u "Ljava/util/ImmutableCollections$ListN;"), (7, .class_ 104), (0, u "java/lang/Object"), (7, .methodref 91 113), (0, .nameAndType 114 115), (0, u "listCopy"), (0, u "(Ljava/util/Collection;)Ljava/util/List;"), (3, u "()Ljava/util/List;"), (0, .class_ 121), (0, u "java/util/SequencedCollection"), (112, u "copyOf")] 16

def k20c0 : Code := { maxStack := 1, maxLocals := 0, code := jdk_40_method_36_code, exceptionTable := #[], attributes := #[] }
def k20m0 : Method := { name := "of", desc := "()Ljava/util/List;", sig := { parameters := [], returnType := some (.object "java/util/List") }, accessFlags := 9, code := some k20c0 }
def k20c1 : Code := { maxStack := 1, maxLocals := 1, code := jdk_40_method_48_code, exceptionTable := #[], attributes := #[] }
def k20m1 : Method := { name := "copyOf", desc := "(Ljava/util/Collection;)Ljava/util/List;", sig := { parameters := [(.object "java/util/Collection")], returnType := some (.object "java/util/List") }, accessFlags := 9, code := some k20c1 }
/-- java/util/List -/
def k20 : Class := { plain "java/util/List" (some 0) with
  accessFlags := 1537
  interfaces := #[19]
  cf := some (fileOf pool20 8 #[] #[{ accessFlags := 9, nameIndex := 88, descriptorIndex := 119, attributes := #[] }, { accessFlags := 9, nameIndex := 234, descriptorIndex := 115, attributes := #[] }] 1537 103 #[120] #[])
  fields := #[]
  methods := #[k20m0, k20m1]
  instanceTypes := #[]
  staticTypes := #[]
  resolved := Array.replicate 251 none
  statics := none }

def pool21 : Array CpInfo := pool [(2, .class_ 4), (1, u "java/lang/Object"), (0, u "<init>"), (0, u "()V"), (3, .class_ 11), (0, u "java/util/ImmutableCollections$List12"), (0, .class_ 13), (0, u "java/util/ImmutableCollections$ListN"), (0, .fieldref 12 15), (0, .nameAndType 16 17), (0, u "allowNulls"), (0, u "Z"), (0, .class_ 19), (0, u "java/util/List"), (27, .class_ 49), (1, u "java/util/ImmutableCollections"), (0, u "$assertionsDisabled"), (5, u "[Ljava/lang/Object;"), (5, u "EMPTY_LIST"), (0, u "Ljava/util/ImmutableCollections$ListN;"), (8, u "EMPTY_LIST_NULLS"), (22, u "SALT32L"), (0, u "J"), (2, u "REVERSE"), (6, u "archivedObjects"), (2, u "EMPTY"), (0, u "Ljava/lang/Object;"), (0, .class_ 112), (0, u "java/util/ImmutableCollections$SetN"), (5, u "EMPTY_SET"), (0, u "Ljava/util/ImmutableCollections$SetN;"), (0, .class_ 121), (0, u "java/util/ImmutableCollections$MapN"), (3, u "EMPTY_MAP"), (0, u "Ljava/util/ImmutableCollections$MapN;"), (4, u "EXPAND_FACTOR"), (0, u "I"), (9, u "listCopy"), (0, u "(Ljava/util/Collection;)Ljava/util/List;"), (25, .class_ 170), (0, u "java/util/ImmutableCollections$MapN$MapNIterator"), (0, .class_ 172), (0, u "java/util/ImmutableCollections$MapN$1"), (0, .class_ 174), (0, u "java/util/ImmutableCollections$Map1"), (0, .class_ 176), (0, u "java/util/ImmutableCollections$AbstractImmutableMap"), (0, .class_ 178), (0, u "java/util/ImmutableCollections$SetN$SetNIterator"), (0, .class_ 180), (0, u "java/util/ImmutableCollections$Set12"), (0, .class_ 182), (0, u "java/util/ImmutableCollections$Set12$1"), (0, .class_ 184), (0, u "java/util/ImmutableCollections$AbstractImmutableSet"), (0, .class_ 186), (0, u "java/util/ImmutableCollections$SubList"), (0, .class_ 188), (0, u "java/util/ImmutableCollections$ListItr"), (0, .class_ 190), (0, u "java/util/ImmutableCollections$AbstractImmutableList"), (0, .class_ 192), (0, u "java/util/ImmutableCollections$AbstractImmutableCollection"), (0, .class_ 194), (0, u "java/util/ImmutableCollections$Access"), (0, .class_ 196), (0, u "java/util/ImmutableCollections$Access$1")] 16

def k21m0 : Method := { name := "<init>", desc := "()V", sig := { parameters := [], returnType := none }, accessFlags := 2, code := none }
def k21c1 : Code := { maxStack := 1, maxLocals := 2, code := jdk_56_method_3_code, exceptionTable := #[], attributes := #[] }
def k21m1 : Method := { name := "listCopy", desc := "(Ljava/util/Collection;)Ljava/util/List;", sig := { parameters := [(.object "java/util/Collection")], returnType := some (.object "java/util/List") }, accessFlags := 8, code := some k21c1 }
/-- java/util/ImmutableCollections -/
def k21 : Class := { plain "java/util/ImmutableCollections" (some 0) with
  accessFlags := 32
  interfaces := #[]
  cf := some (fileOf pool21 47 #[.nestMembers #[120, 169, 171, 173, 175, 111, 177, 179, 181, 183, 12, 10, 185, 187, 189, 191, 193, 195]] #[{ accessFlags := 2, nameIndex := 5, descriptorIndex := 6, attributes := #[] }, { accessFlags := 8, nameIndex := 142, descriptorIndex := 143, attributes := #[] }] 32 2 #[] #[{ accessFlags := 26, nameIndex := 95, descriptorIndex := 96, attributes := #[] }, { accessFlags := 26, nameIndex := 99, descriptorIndex := 17, attributes := #[] }, { accessFlags := 10, nameIndex := 106, descriptorIndex := 56, attributes := #[] }, { accessFlags := 26, nameIndex := 109, descriptorIndex := 110, attributes := #[] }, { accessFlags := 24, nameIndex := 62, descriptorIndex := 63, attributes := #[] }, { accessFlags := 24, nameIndex := 72, descriptorIndex := 63, attributes := #[] }, { accessFlags := 24, nameIndex := 118, descriptorIndex := 119, attributes := #[] }, { accessFlags := 24, nameIndex := 125, descriptorIndex := 126, attributes := #[] }, { accessFlags := 24, nameIndex := 131, descriptorIndex := 132, attributes := #[] }, { accessFlags := 4120, nameIndex := 50, descriptorIndex := 17, attributes := #[] }])
  fields := #[{ name := "SALT32L", type := .long, accessFlags := 26, slot := 0, constantValue := 0 }, { name := "REVERSE", type := .boolean, accessFlags := 26, slot := 1, constantValue := 0 }, { name := "archivedObjects", type := (.array (.object "java/lang/Object")), accessFlags := 10, slot := 2, constantValue := 0 }, { name := "EMPTY", type := (.object "java/lang/Object"), accessFlags := 26, slot := 3, constantValue := 0 }, { name := "EMPTY_LIST", type := (.object "java/util/ImmutableCollections$ListN"), accessFlags := 24, slot := 4, constantValue := 0 }, { name := "EMPTY_LIST_NULLS", type := (.object "java/util/ImmutableCollections$ListN"), accessFlags := 24, slot := 5, constantValue := 0 }, { name := "EMPTY_SET", type := (.object "java/util/ImmutableCollections$SetN"), accessFlags := 24, slot := 6, constantValue := 0 }, { name := "EMPTY_MAP", type := (.object "java/util/ImmutableCollections$MapN"), accessFlags := 24, slot := 7, constantValue := 0 }, { name := "EXPAND_FACTOR", type := .int, accessFlags := 24, slot := 8, constantValue := 0 }, { name := "$assertionsDisabled", type := .boolean, accessFlags := 4120, slot := 9, constantValue := 0 }]
  methods := #[k21m0, k21m1]
  instanceTypes := #[]
  staticTypes := #[.long, .boolean, (.array (.object "java/lang/Object")), (.object "java/lang/Object"), (.object "java/util/ImmutableCollections$ListN"), (.object "java/util/ImmutableCollections$ListN"), (.object "java/util/ImmutableCollections$SetN"), (.object "java/util/ImmutableCollections$MapN"), .int, .boolean]
  resolved := Array.replicate 213 none
  statics := some 3 }

def pool22 : Array CpInfo := pool [(1, .methodref 2 3), (0, .class_ 4), (0, .nameAndType 5 6), (0, u "java/lang/Object"), (0, u "<init>"), (0, u "()V"), (0, .fieldref 8 9), (0, .class_ 10), (0, .nameAndType 11 12), (0, u "com/example/assemble_quorum/assemblequorum/io/Message$Builder"), (0, u "kind"), (0, u "Lcom/example/assemble_quorum/assemblequorum/io/Message$Kind;"), (0, .fieldref 14 9), (0, .class_ 15), (0, u "com/example/assemble_quorum/assemblequorum/io/Message"), (0, .fieldref 8 17), (0, .nameAndType 18 19), (0, u "sender"), (0, u "Lcom/example/assemble_quorum/assemblequorum/model/MemberAddress;"), (0, .fieldref 14 17), (0, .fieldref 8 22), (0, .nameAndType 23 19), (0, u "leader"), (0, .fieldref 14 22), (0, .fieldref 8 26), (0, .nameAndType 27 28), (0, u "version"), (0, u "J"), (0, .fieldref 14 26), (0, .fieldref 8 31), (0, .nameAndType 32 33), (0, u "number"), (0, u "Lcom/example/assemble_quorum/assemblequorum/model/ProposalNumber;"), (0, .fieldref 14 31), (0, .fieldref 8 36), (0, .nameAndType 37 19), (0, u "candidate"), (0, .fieldref 14 36), (0, .fieldref 8 40), (0, .nameAndType 41 42), (0, u "granted"), (0, u "Z"), (0, .fieldref 14 40), (0, .fieldref 8 45), (0, .nameAndType 46 33), (0, u "priorNumber"), (0, .fieldref 14 45), (0, .fieldref 8 49), (0, .nameAndType 50 19), (0, u "priorCandidate"), (0, .fieldref 14 49), (0, .fieldref 8 53), (0, .nameAndType 54 55), (0, u "members"), (0, u "Ljava/util/List;"), (0, .interfaceMethodref 57 58), (0, .class_ 59), (0, .nameAndType 60 61), (0, u "java/util/List"), (0, u "copyOf"), (0, u "(Ljava/util/Collection;)Ljava/util/List;"), (0, .fieldref 14 53), (0, .fieldref 8 64), (0, .nameAndType 65 66), (0, u "topic"), (0, u "Ljava/lang/String;"), (0, .fieldref 14 64), (0, .fieldref 8 69), (0, .nameAndType 70 71), (0, u "payload"), (0, u "[B"), (0, .fieldref 14 69), (1, .class_ 76), (1, u "com/example/assemble_quorum/assemblequorum/io/Message$Kind"), (208, u "MAX_TOPIC_BYTES"), (0, u "I"), (1, u "MAX_EVENT_BYTES"), (2, u "(Lcom/example/assemble_quorum/assemblequorum/io/Message$Builder;)V"), (31, u "()Lcom/example/assemble_quorum/assemblequorum/io/Message$Kind;"), (0, u "()Lcom/example/assemble_quorum/assemblequorum/model/MemberAddress;"), (1, u "()Lcom/example/assemble_quorum/assemblequorum/model/ProposalNumber;")] 32

def k22c0 : Code := { maxStack := 3, maxLocals := 2, code := prog_17_method_1_code, exceptionTable := #[], attributes := #[] }
def k22m0 : Method := { name := "<init>", desc := "(Lcom/example/assemble_quorum/assemblequorum/io/Message$Builder;)V", sig := { parameters := [(.object "com/example/assemble_quorum/assemblequorum/io/Message$Builder")], returnType := none }, accessFlags := 2, code := some k22c0 }
def k22c1 : Code := { maxStack := 1, maxLocals := 1, code := prog_17_method_20_code, exceptionTable := #[], attributes := #[] }
def k22m1 : Method := { name := "kind", desc := "()Lcom/example/assemble_quorum/assemblequorum/io/Message$Kind;", sig := { parameters := [], returnType := some (.object "com/example/assemble_quorum/assemblequorum/io/Message$Kind") }, accessFlags := 1, code := some k22c1 }
def k22c2 : Code := { maxStack := 1, maxLocals := 1, code := prog_17_method_22_code, exceptionTable := #[], attributes := #[] }
def k22m2 : Method := { name := "leader", desc := "()Lcom/example/assemble_quorum/assemblequorum/model/MemberAddress;", sig := { parameters := [], returnType := some (.object "com/example/assemble_quorum/assemblequorum/model/MemberAddress") }, accessFlags := 1, code := some k22c2 }
def k22c3 : Code := { maxStack := 1, maxLocals := 1, code := prog_17_method_24_code, exceptionTable := #[], attributes := #[] }
def k22m3 : Method := { name := "number", desc := "()Lcom/example/assemble_quorum/assemblequorum/model/ProposalNumber;", sig := { parameters := [], returnType := some (.object "com/example/assemble_quorum/assemblequorum/model/ProposalNumber") }, accessFlags := 1, code := some k22c3 }
def k22c4 : Code := { maxStack := 1, maxLocals := 1, code := prog_17_method_25_code, exceptionTable := #[], attributes := #[] }
def k22m4 : Method := { name := "candidate", desc := "()Lcom/example/assemble_quorum/assemblequorum/model/MemberAddress;", sig := { parameters := [], returnType := some (.object "com/example/assemble_quorum/assemblequorum/model/MemberAddress") }, accessFlags := 1, code := some k22c4 }
def k22c5 : Code := { maxStack := 1, maxLocals := 1, code := prog_17_method_27_code, exceptionTable := #[], attributes := #[] }
def k22m5 : Method := { name := "priorNumber", desc := "()Lcom/example/assemble_quorum/assemblequorum/model/ProposalNumber;", sig := { parameters := [], returnType := some (.object "com/example/assemble_quorum/assemblequorum/model/ProposalNumber") }, accessFlags := 1, code := some k22c5 }
def k22c6 : Code := { maxStack := 1, maxLocals := 1, code := prog_17_method_28_code, exceptionTable := #[], attributes := #[] }
def k22m6 : Method := { name := "priorCandidate", desc := "()Lcom/example/assemble_quorum/assemblequorum/model/MemberAddress;", sig := { parameters := [], returnType := some (.object "com/example/assemble_quorum/assemblequorum/model/MemberAddress") }, accessFlags := 1, code := some k22c6 }
/-- com/example/assemble_quorum/assemblequorum/io/Message -/
def k22 : Class := { plain "com/example/assemble_quorum/assemblequorum/io/Message" (some 0) with
  accessFlags := 33
  interfaces := #[]
  cf := some (fileOf pool22 14 #[.nestMembers #[8, 74]] #[{ accessFlags := 2, nameIndex := 5, descriptorIndex := 291, attributes := #[] }, { accessFlags := 1, nameIndex := 11, descriptorIndex := 323, attributes := #[] }, { accessFlags := 1, nameIndex := 23, descriptorIndex := 324, attributes := #[] }, { accessFlags := 1, nameIndex := 32, descriptorIndex := 326, attributes := #[] }, { accessFlags := 1, nameIndex := 37, descriptorIndex := 324, attributes := #[] }, { accessFlags := 1, nameIndex := 46, descriptorIndex := 326, attributes := #[] }, { accessFlags := 1, nameIndex := 50, descriptorIndex := 324, attributes := #[] }] 33 2 #[] #[{ accessFlags := 25, nameIndex := 285, descriptorIndex := 286, attributes := #[] }, { accessFlags := 25, nameIndex := 288, descriptorIndex := 286, attributes := #[] }, { accessFlags := 18, nameIndex := 11, descriptorIndex := 12, attributes := #[] }, { accessFlags := 18, nameIndex := 18, descriptorIndex := 19, attributes := #[] }, { accessFlags := 18, nameIndex := 23, descriptorIndex := 19, attributes := #[] }, { accessFlags := 18, nameIndex := 27, descriptorIndex := 28, attributes := #[] }, { accessFlags := 18, nameIndex := 32, descriptorIndex := 33, attributes := #[] }, { accessFlags := 18, nameIndex := 37, descriptorIndex := 19, attributes := #[] }, { accessFlags := 18, nameIndex := 41, descriptorIndex := 42, attributes := #[] }, { accessFlags := 18, nameIndex := 46, descriptorIndex := 33, attributes := #[] }, { accessFlags := 18, nameIndex := 50, descriptorIndex := 19, attributes := #[] }, { accessFlags := 18, nameIndex := 54, descriptorIndex := 55, attributes := #[] }, { accessFlags := 18, nameIndex := 65, descriptorIndex := 66, attributes := #[] }, { accessFlags := 18, nameIndex := 70, descriptorIndex := 71, attributes := #[] }])
  fields := #[{ name := "MAX_TOPIC_BYTES", type := .int, accessFlags := 25, slot := 0, constantValue := 0 }, { name := "MAX_EVENT_BYTES", type := .int, accessFlags := 25, slot := 1, constantValue := 0 }, { name := "kind", type := (.object "com/example/assemble_quorum/assemblequorum/io/Message$Kind"), accessFlags := 18, slot := 0, constantValue := 0 }, { name := "sender", type := (.object "com/example/assemble_quorum/assemblequorum/model/MemberAddress"), accessFlags := 18, slot := 1, constantValue := 0 }, { name := "leader", type := (.object "com/example/assemble_quorum/assemblequorum/model/MemberAddress"), accessFlags := 18, slot := 2, constantValue := 0 }, { name := "version", type := .long, accessFlags := 18, slot := 3, constantValue := 0 }, { name := "number", type := (.object "com/example/assemble_quorum/assemblequorum/model/ProposalNumber"), accessFlags := 18, slot := 4, constantValue := 0 }, { name := "candidate", type := (.object "com/example/assemble_quorum/assemblequorum/model/MemberAddress"), accessFlags := 18, slot := 5, constantValue := 0 }, { name := "granted", type := .boolean, accessFlags := 18, slot := 6, constantValue := 0 }, { name := "priorNumber", type := (.object "com/example/assemble_quorum/assemblequorum/model/ProposalNumber"), accessFlags := 18, slot := 7, constantValue := 0 }, { name := "priorCandidate", type := (.object "com/example/assemble_quorum/assemblequorum/model/MemberAddress"), accessFlags := 18, slot := 8, constantValue := 0 }, { name := "members", type := (.object "java/util/List"), accessFlags := 18, slot := 9, constantValue := 0 }, { name := "topic", type := (.object "java/lang/String"), accessFlags := 18, slot := 10, constantValue := 0 }, { name := "payload", type := (.array .byte), accessFlags := 18, slot := 11, constantValue := 0 }]
  methods := #[k22m0, k22m1, k22m2, k22m3, k22m4, k22m5, k22m6]
  instanceTypes := #[(.object "com/example/assemble_quorum/assemblequorum/io/Message$Kind"), (.object "com/example/assemble_quorum/assemblequorum/model/MemberAddress"), (.object "com/example/assemble_quorum/assemblequorum/model/MemberAddress"), .long, (.object "com/example/assemble_quorum/assemblequorum/model/ProposalNumber"), (.object "com/example/assemble_quorum/assemblequorum/model/MemberAddress"), .boolean, (.object "com/example/assemble_quorum/assemblequorum/model/ProposalNumber"), (.object "com/example/assemble_quorum/assemblequorum/model/MemberAddress"), (.object "java/util/List"), (.object "java/lang/String"), (.array .byte)]
  staticTypes := #[.int, .int]
  resolved := ((((((((((((Array.replicate 359 none).setIfInBounds 7 (some (.field 16 0))).setIfInBounds 16 (some (.field 16 1))).setIfInBounds 21 (some (.field 16 2))).setIfInBounds 25 (some (.field 16 3))).setIfInBounds 30 (some (.field 16 4))).setIfInBounds 35 (some (.field 16 5))).setIfInBounds 39 (some (.field 16 6))).setIfInBounds 44 (some (.field 16 7))).setIfInBounds 48 (some (.field 16 8))).setIfInBounds 52 (some (.field 16 9))).setIfInBounds 63 (some (.field 16 10))).setIfInBounds 68 (some (.field 16 11))
  statics := none }

def pool23 : Array CpInfo := pool [(2, .class_ 4), (1, u "java/lang/Object"), (0, u "<init>"), (0, u "()V"), (1, .class_ 10), (1, u "java/util/AbstractCollection"), (66, .class_ 78), (0, u "java/util/Collection")] 81

def k23m0 : Method := { name := "<init>", desc := "()V", sig := { parameters := [], returnType := none }, accessFlags := 4, code := none }
/-- java/util/AbstractCollection -/
def k23 : Class := { plain "java/util/AbstractCollection" (some 0) with
  accessFlags := 1057
  interfaces := #[18]
  cf := some (fileOf pool23 8 #[] #[{ accessFlags := 4, nameIndex := 5, descriptorIndex := 6, attributes := #[] }] 1057 2 #[77] #[])
  fields := #[]
  methods := #[k23m0]
  instanceTypes := #[]
  staticTypes := #[]
  resolved := Array.replicate 160 none
  statics := none }

def pool24 : Array CpInfo := pool [(2, .class_ 4), (1, u "java/util/AbstractCollection"), (0, u "<init>"), (0, u "()V"), (1, .class_ 10), (1, u "java/util/ImmutableCollections"), (2, .class_ 14), (0, u "java/util/ImmutableCollections$AbstractImmutableCollection")] 41

def k24m0 : Method := { name := "<init>", desc := "()V", sig := { parameters := [], returnType := none }, accessFlags := 0, code := none }
/-- java/util/ImmutableCollections$AbstractImmutableCollection -/
def k24 : Class := { plain "java/util/ImmutableCollections$AbstractImmutableCollection" (some 23) with
  accessFlags := 1056
  interfaces := #[]
  cf := some (fileOf pool24 13 #[.nestHost 8] #[{ accessFlags := 0, nameIndex := 5, descriptorIndex := 6, attributes := #[] }] 1056 2 #[] #[])
  fields := #[]
  methods := #[k24m0]
  instanceTypes := #[]
  staticTypes := #[]
  resolved := Array.replicate 56 none
  statics := none }

def pool25 : Array CpInfo := pool [(1, .class_ 2), (0, u "java/util/RandomAccess"), (0, .class_ 4), (0, u "java/lang/Object")] 2

/-- java/util/RandomAccess -/
def k25 : Class := { plain "java/util/RandomAccess" (some 0) with
  accessFlags := 1537
  interfaces := #[]
  cf := some (fileOf pool25 1 #[] #[] 1537 3 #[] #[])
  fields := #[]
  methods := #[]
  instanceTypes := #[]
  staticTypes := #[]
  resolved := Array.replicate 7 none
  statics := none }

def pool26 : Array CpInfo := pool [(2, .class_ 4), (1, u "java/util/ImmutableCollections$AbstractImmutableCollection"), (0, u "<init>"), (0, u "()V"), (1, .class_ 10), (1, u "java/util/ImmutableCollections"), (3, .class_ 16), (1, u "java/util/ImmutableCollections$AbstractImmutableList"), (60, .class_ 78), (0, u "java/util/List"), (45, .class_ 125), (0, u "java/util/RandomAccess")] 70

def k26m0 : Method := { name := "<init>", desc := "()V", sig := { parameters := [], returnType := none }, accessFlags := 0, code := none }
/-- java/util/ImmutableCollections$AbstractImmutableList -/
def k26 : Class := { plain "java/util/ImmutableCollections$AbstractImmutableList" (some 24) with
  accessFlags := 1056
  interfaces := #[20, 25]
  cf := some (fileOf pool26 14 #[.nestHost 8] #[{ accessFlags := 0, nameIndex := 5, descriptorIndex := 6, attributes := #[] }] 1056 2 #[77, 124] #[])
  fields := #[]
  methods := #[k26m0]
  instanceTypes := #[]
  staticTypes := #[]
  resolved := Array.replicate 196 none
  statics := none }

def pool27 : Array CpInfo := pool [(2, .class_ 4), (1, u "java/util/ImmutableCollections$AbstractImmutableList"), (9, .class_ 16), (1, u "java/util/ImmutableCollections$List12"), (0, u "e0"), (0, u "Ljava/lang/Object;"), (1, .class_ 22), (1, u "java/util/ImmutableCollections"), (3, u "e1"), (43, .class_ 71), (0, u "java/io/Serializable")] 53

/-- java/util/ImmutableCollections$List12 -/
def k27 : Class := { plain "java/util/ImmutableCollections$List12" (some 26) with
  accessFlags := 48
  interfaces := #[4]
  cf := some (fileOf pool27 14 #[.nestHost 20] #[] 48 2 #[70] #[{ accessFlags := 18, nameIndex := 17, descriptorIndex := 18, attributes := #[] }, { accessFlags := 18, nameIndex := 26, descriptorIndex := 18, attributes := #[] }])
  fields := #[{ name := "e0", type := (.object "java/lang/Object"), accessFlags := 18, slot := 0, constantValue := 0 }, { name := "e1", type := (.object "java/lang/Object"), accessFlags := 18, slot := 1, constantValue := 0 }]
  methods := #[]
  instanceTypes := #[(.object "java/lang/Object"), (.object "java/lang/Object")]
  staticTypes := #[]
  resolved := Array.replicate 125 none
  statics := none }

def pool28 : Array CpInfo := pool [(2, .class_ 4), (1, u "java/util/ImmutableCollections$AbstractImmutableList"), (3, .class_ 10), (1, u "java/util/ImmutableCollections$ListN"), (0, u "elements"), (0, u "[Ljava/lang/Object;"), (2, u "allowNulls"), (0, u "Z"), (42, .class_ 60), (0, u "java/io/Serializable"), (53, .class_ 115), (0, u "java/util/ImmutableCollections")] 3

/-- java/util/ImmutableCollections$ListN -/
def k28 : Class := { plain "java/util/ImmutableCollections$ListN" (some 26) with
  accessFlags := 48
  interfaces := #[4]
  cf := some (fileOf pool28 8 #[.nestHost 114] #[] 48 2 #[59] #[{ accessFlags := 18, nameIndex := 11, descriptorIndex := 12, attributes := #[] }, { accessFlags := 18, nameIndex := 15, descriptorIndex := 16, attributes := #[] }])
  fields := #[{ name := "elements", type := (.array (.object "java/lang/Object")), accessFlags := 18, slot := 0, constantValue := 0 }, { name := "allowNulls", type := .boolean, accessFlags := 18, slot := 1, constantValue := 0 }]
  methods := #[]
  instanceTypes := #[(.array (.object "java/lang/Object")), .boolean]
  staticTypes := #[]
  resolved := Array.replicate 119 none
  statics := none }

def pool29 : Array CpInfo := pool [(9, u "<init>"), (6, .class_ 18), (1, u "java/lang/Object"), (0, u "()V"), (1, .class_ 23), (1, u "jdk/internal/util/ArraysSupport"), (0, u "LOG2_ARRAY_LONG_INDEX_SCALE"), (0, u "I"), (2, u "U"), (0, u "Ljdk/internal/misc/Unsafe;"), (8, u "BIG_ENDIAN"), (0, u "Z"), (8, u "LOG2_BYTE_BIT_SIZE"), (4, u "LOG2_ARRAY_INT_INDEX_SCALE"), (54, u "JLA"), (0, u "Ljdk/internal/access/JavaLangAccess;"), (11, u "LOG2_ARRAY_BOOLEAN_INDEX_SCALE"), (9, u "LOG2_ARRAY_BYTE_INDEX_SCALE"), (5, u "LOG2_ARRAY_CHAR_INDEX_SCALE"), (5, u "LOG2_ARRAY_SHORT_INDEX_SCALE"), (18, u "LOG2_ARRAY_FLOAT_INDEX_SCALE"), (24, u "LOG2_ARRAY_DOUBLE_INDEX_SCALE"), (89, u "T_BOOLEAN"), (2, u "T_CHAR"), (1, u "T_FLOAT"), (1, u "T_DOUBLE"), (1, u "T_BYTE"), (1, u "T_SHORT"), (1, u "T_INT"), (1, u "T_LONG"), (1, u "SOFT_MAX_ARRAY_LENGTH")] 83

def k29m0 : Method := { name := "<init>", desc := "()V", sig := { parameters := [], returnType := none }, accessFlags := 2, code := none }
/-- jdk/internal/util/ArraysSupport -/
def k29 : Class := { plain "jdk/internal/util/ArraysSupport" (some 0) with
  accessFlags := 33
  interfaces := #[]
  cf := some (fileOf pool29 21 #[] #[{ accessFlags := 2, nameIndex := 9, descriptorIndex := 19, attributes := #[] }] 33 16 #[] #[{ accessFlags := 24, nameIndex := 28, descriptorIndex := 29, attributes := #[] }, { accessFlags := 26, nameIndex := 38, descriptorIndex := 39, attributes := #[] }, { accessFlags := 25, nameIndex := 121, descriptorIndex := 25, attributes := #[] }, { accessFlags := 25, nameIndex := 131, descriptorIndex := 25, attributes := #[] }, { accessFlags := 25, nameIndex := 137, descriptorIndex := 25, attributes := #[] }, { accessFlags := 25, nameIndex := 143, descriptorIndex := 25, attributes := #[] }, { accessFlags := 25, nameIndex := 53, descriptorIndex := 25, attributes := #[] }, { accessFlags := 25, nameIndex := 24, descriptorIndex := 25, attributes := #[] }, { accessFlags := 25, nameIndex := 162, descriptorIndex := 25, attributes := #[] }, { accessFlags := 25, nameIndex := 187, descriptorIndex := 25, attributes := #[] }, { accessFlags := 26, nameIndex := 48, descriptorIndex := 25, attributes := #[] }, { accessFlags := 25, nameIndex := 277, descriptorIndex := 25, attributes := #[] }, { accessFlags := 25, nameIndex := 280, descriptorIndex := 25, attributes := #[] }, { accessFlags := 25, nameIndex := 282, descriptorIndex := 25, attributes := #[] }, { accessFlags := 25, nameIndex := 284, descriptorIndex := 25, attributes := #[] }, { accessFlags := 25, nameIndex := 286, descriptorIndex := 25, attributes := #[] }, { accessFlags := 25, nameIndex := 288, descriptorIndex := 25, attributes := #[] }, { accessFlags := 25, nameIndex := 290, descriptorIndex := 25, attributes := #[] }, { accessFlags := 25, nameIndex := 292, descriptorIndex := 25, attributes := #[] }, { accessFlags := 26, nameIndex := 108, descriptorIndex := 109, attributes := #[] }, { accessFlags := 25, nameIndex := 294, descriptorIndex := 25, attributes := #[] }])
  fields := #[{ name := "U", type := (.object "jdk/internal/misc/Unsafe"), accessFlags := 24, slot := 0, constantValue := 0 }, { name := "BIG_ENDIAN", type := .boolean, accessFlags := 26, slot := 1, constantValue := 0 }, { name := "LOG2_ARRAY_BOOLEAN_INDEX_SCALE", type := .int, accessFlags := 25, slot := 2, constantValue := 0 }, { name := "LOG2_ARRAY_BYTE_INDEX_SCALE", type := .int, accessFlags := 25, slot := 3, constantValue := 0 }, { name := "LOG2_ARRAY_CHAR_INDEX_SCALE", type := .int, accessFlags := 25, slot := 4, constantValue := 0 }, { name := "LOG2_ARRAY_SHORT_INDEX_SCALE", type := .int, accessFlags := 25, slot := 5, constantValue := 0 }, { name := "LOG2_ARRAY_INT_INDEX_SCALE", type := .int, accessFlags := 25, slot := 6, constantValue := 0 }, { name := "LOG2_ARRAY_LONG_INDEX_SCALE", type := .int, accessFlags := 25, slot := 7, constantValue := 0 }, { name := "LOG2_ARRAY_FLOAT_INDEX_SCALE", type := .int, accessFlags := 25, slot := 8, constantValue := 0 }, { name := "LOG2_ARRAY_DOUBLE_INDEX_SCALE", type := .int, accessFlags := 25, slot := 9, constantValue := 0 }, { name := "LOG2_BYTE_BIT_SIZE", type := .int, accessFlags := 26, slot := 10, constantValue := 0 }, { name := "T_BOOLEAN", type := .int, accessFlags := 25, slot := 11, constantValue := 0 }, { name := "T_CHAR", type := .int, accessFlags := 25, slot := 12, constantValue := 0 }, { name := "T_FLOAT", type := .int, accessFlags := 25, slot := 13, constantValue := 0 }, { name := "T_DOUBLE", type := .int, accessFlags := 25, slot := 14, constantValue := 0 }, { name := "T_BYTE", type := .int, accessFlags := 25, slot := 15, constantValue := 0 }, { name := "T_SHORT", type := .int, accessFlags := 25, slot := 16, constantValue := 0 }, { name := "T_INT", type := .int, accessFlags := 25, slot := 17, constantValue := 0 }, { name := "T_LONG", type := .int, accessFlags := 25, slot := 18, constantValue := 0 }, { name := "JLA", type := (.object "jdk/internal/access/JavaLangAccess"), accessFlags := 26, slot := 19, constantValue := 0 }, { name := "SOFT_MAX_ARRAY_LENGTH", type := .int, accessFlags := 25, slot := 20, constantValue := 0 }]
  methods := #[k29m0]
  instanceTypes := #[]
  staticTypes := #[(.object "jdk/internal/misc/Unsafe"), .boolean, .int, .int, .int, .int, .int, .int, .int, .int, .int, .int, .int, .int, .int, .int, .int, .int, .int, (.object "jdk/internal/access/JavaLangAccess"), .int]
  resolved := Array.replicate 378 none
  statics := none }

def pool30 : Array CpInfo := pool [(1, u "java/lang/Cloneable"), (0, .class_ 1), (0, u "java/lang/Object"), (0, .class_ 3)] 3

/-- java/lang/Cloneable -/
def k30 : Class := { plain "java/lang/Cloneable" (some 0) with
  accessFlags := 1537
  interfaces := #[]
  cf := some (fileOf pool30 2 #[] #[] 1537 4 #[] #[])
  fields := #[]
  methods := #[]
  instanceTypes := #[]
  staticTypes := #[]
  resolved := Array.replicate 8 none
  statics := none }

/-- the primitive byte -/
def k31 : Class := { plain "byte" none with kind := .primitive 'B', accessFlags := 0x411 }
/-- [B -/
def k32 : Class := { plain "[B" (some 0) with kind := .array 31 .byte, interfaces := #[30, 4], accessFlags := 1041 }

/-- the primitive int -/
def k33 : Class := { plain "int" none with kind := .primitive 'I', accessFlags := 0x411 }
/-- [I -/
def k34 : Class := { plain "[I" (some 0) with kind := .array 33 .int, interfaces := #[30, 4], accessFlags := 1041 }

/-- [Ljava/lang/Object; -/
def k35 : Class := { plain "[Ljava/lang/Object;" (some 0) with kind := .array 0 (.object "java/lang/Object"), interfaces := #[30, 4], accessFlags := 1041 }

def heap : Heap := #[{ cls := 8, slots := #[.long 0, .int 1, .null, .int 0, .null, .int 0, .int 0], vm := .statics 8 },
  { cls := 12, slots := #[.null, .null, .null], vm := .statics 12 },
  { cls := 15, slots := #[.ref 6, .null, .null, .null, .null, .null, .null, .null, .null, .ref 5, .null, .null, .null, .null, .null, .ref 8, .ref 7, .null], vm := .statics 15 },
  { cls := 21, slots := #[.long 0, .int 0, .null, .null, .ref 9, .null, .null, .null, .int 0, .int 0], vm := .statics 21 },
  { cls := 35, slots := #[], vm := .none },
  { cls := 15, slots := #[.null, .int 0, .int 0, .int 0], vm := .none },
  { cls := 15, slots := #[.null, .int 1, .int 0, .int 0], vm := .none },
  { cls := 15, slots := #[.null, .int 2, .int 0, .int 0], vm := .none },
  { cls := 15, slots := #[.null, .int 3, .int 0, .int 0], vm := .none },
  { cls := 28, slots := #[.ref 4, .int 0], vm := .none }]
def classes : Array Class := #[k0, k1, k2, k3, k4, k5, k6, k7, k8, k9, k10, k11, k12, k13, k14, k15, k16, k17, k18, k19, k20, k21, k22, k23, k24, k25, k26, k27, k28, k29, k30, k31, k32, k33, k34, k35]
def interned : List (Array UInt16 × Addr) := []
def slotsUsed : Nat := 56
def theMethod : MethodId := ⟨1, 2⟩
def args0 : Array Value := #[.int 5, .long 7, .int 9, .int 5]
def aboutOver (below : List Frame) : State where
  vm := { classes := classes, interned := interned.toArray }
  heap := heap
  slotsUsed := slotsUsed
  threads := #[{ frames := .invoking theMethod args0 :: below }]
def below0 : List Frame := [.native { method := ⟨0, 0⟩, args := #[] }]
def about1 : State := aboutOver below0
def p0 : Program := .bare "" "" ""
def e0 : Env := launch0.env 0 0 0
theorem w_frames : about1.frames = Frame.invoking theMethod args0 :: below0 := rfl
set_option maxRecDepth 65536 in
theorem w_args : argsFit about1.vm theMethod args0 = true := by decide +kernel
set_option maxRecDepth 65536 in
theorem w_heap : heapFits about1 = true := by decide +kernel
set_option maxRecDepth 65536 in
theorem w_runnable : about1.curStatus? = some .runnable := by decide +kernel
set_option maxRecDepth 65536 in
theorem w_alone : about1.alone = true := by decide +kernel
set_option maxRecDepth 65536 in
theorem w_named : about1.methodNamed? x = some theMethod := by decide +kernel
set_option maxRecDepth 65536 in
theorem w_hears : about1.hears theMethod below0 = true := by decide +kernel
set_option maxRecDepth 65536 in
theorem w_ripe : about1.ripe theMethod args0 below0 = true := by decide +kernel
theorem w_running : about1.status = .running := rfl
set_option maxRecDepth 65536 in
theorem w_room : about1.hasRoom e0.platform room_1 = true :=
  launch0.hasRoom_least _ room_1 (by decide +kernel) (by decide +kernel) (by decide +kernel) (by decide +kernel) (by decide +kernel) (by decide +kernel)
theorem allAtoms_all (ts : List Jvm.Cond) (a : Array Jvm.Value) (st : Jvm.State) : (allAtoms ts).before a st = ts.all (fun c => c.before a st) := by
  induction ts with
  | nil => rfl
  | cons c t ih =>
    show (Jvm.Cond.and c (allAtoms t)).before a st = _
    rw [Jvm.Cond.before_and, ih, List.all_cons]
def words1 : List Jvm.Cond := Jvm.Cond.code x code maxLocals ret :: tables_1
/-- a 'code' word, met by the world's own term for the bytes: nothing is compared byte by byte -/
theorem code_word {y : MethodName} {bytes : ByteArray} {mx : Nat} {rt : Option FieldType} {a : Array Value} {s : State} {m : MethodId} {meth : Method} {c : Code} (h1 : s.methodNamed? y = some m) (h2 : s.vm.method? m = some meth) (h3 : meth.code = some c) (h4 : c.code = bytes)
    (h5 : (c.maxLocals == mx && c.exceptionTable.isEmpty && decide (c.maxStack ≤ mostOperands) && decide (meth.sig.returnType = rt) && !meth.locks && decide (parseMethodDescriptor y.desc = some meth.sig)) = true) : (Jvm.Cond.code y bytes mx rt).before a s = true := by
  simp only [Bool.and_eq_true, beq_iff_eq, Bool.not_eq_true', decide_eq_true_eq] at h5
  obtain ⟨⟨⟨⟨⟨g1, g2⟩, g3⟩, g4⟩, g5⟩, g6⟩ := h5
  simp [Cond.before, Cond.holds, Cond.value, h1, h2, h3, h4, g1, g2, g3, g4, g5, g6]
def isCode : Jvm.Cond → Bool
  | .code _ _ _ _ => true
  | _ => false
theorem all_split {L : List Jvm.Cond} {P : Jvm.Cond → Bool} (h1 : L.all (fun c => isCode c || P c) = true) (h2 : ∀ c ∈ L.filter isCode, P c = true) : L.all P = true := by
  refine List.all_eq_true.mpr fun c hc => ?_
  have h := List.all_eq_true.mp h1 c hc
  rcases Bool.eq_false_or_eq_true (isCode c) with hi | hi
  · exact h2 c (List.mem_filter.mpr ⟨hc, hi⟩)
  · simpa [hi] using h
set_option maxRecDepth 65536 in
theorem w_c0 : (Jvm.Cond.code x code maxLocals ret).before args0 about1 = true := code_word (m := ⟨1, 2⟩) (meth := k1m2) (c := k1c2) (by decide +kernel) rfl rfl rfl (by decide +kernel)
set_option maxRecDepth 65536 in
theorem w_c1 : (Jvm.Cond.code ({ cls := "com/example/assemble_quorum/assemblequorum/model/MemberAddress", name := "<init>", desc := "(Ljava/lang/String;I)V" } : Jvm.MethodName) prog_31_method_1_code (3 : Nat) (Option.none : Option Jvm.ClassFile.FieldType)).before args0 about1 = true := code_word (m := ⟨3, 0⟩) (meth := k3m0) (c := k3c0) (by decide +kernel) rfl rfl rfl (by decide +kernel)
set_option maxRecDepth 65536 in
theorem w_c2 : (Jvm.Cond.code ({ cls := "java/lang/Object", name := "<init>", desc := "()V" } : Jvm.MethodName) object_method_1_code (1 : Nat) (Option.none : Option Jvm.ClassFile.FieldType)).before args0 about1 = true := code_word (m := ⟨0, 0⟩) (meth := k0m0) (c := k0c0) (by decide +kernel) rfl rfl rfl (by decide +kernel)
set_option maxRecDepth 65536 in
theorem w_c3 : (Jvm.Cond.code ({ cls := "java/util/Objects", name := "requireNonNull", desc := "(Ljava/lang/Object;Ljava/lang/String;)Ljava/lang/Object;" } : Jvm.MethodName) jdk_31_method_11_code (2 : Nat) (Option.some (Jvm.ClassFile.FieldType.object "java/lang/Object"))).before args0 about1 = true := code_word (m := ⟨9, 1⟩) (meth := k9m1) (c := k9c1) (by decide +kernel) rfl rfl rfl (by decide +kernel)
set_option maxRecDepth 65536 in
theorem w_c4 : (Jvm.Cond.code ({ cls := "com/example/assemble_quorum/assemblequorum/model/MemberAddress", name := "checkHost", desc := "(Ljava/lang/String;)V" } : Jvm.MethodName) prog_31_method_9_code (5 : Nat) (Option.none : Option Jvm.ClassFile.FieldType)).before args0 about1 = true := code_word (m := ⟨3, 1⟩) (meth := k3m1) (c := k3c1) (by decide +kernel) rfl rfl rfl (by decide +kernel)
set_option maxRecDepth 65536 in
theorem w_c5 : (Jvm.Cond.code ({ cls := "java/lang/String", name := "isEmpty", desc := "()Z" } : Jvm.MethodName) jdk_42_method_55_code (1 : Nat) (Option.some Jvm.ClassFile.FieldType.boolean)).before args0 about1 = true := code_word (m := ⟨8, 2⟩) (meth := k8m2) (c := k8c2) (by decide +kernel) rfl rfl rfl (by decide +kernel)
set_option maxRecDepth 65536 in
theorem w_c6 : (Jvm.Cond.code ({ cls := "java/lang/String", name := "length", desc := "()I" } : Jvm.MethodName) jdk_42_method_54_code (1 : Nat) (Option.some Jvm.ClassFile.FieldType.int)).before args0 about1 = true := code_word (m := ⟨8, 1⟩) (meth := k8m1) (c := k8c1) (by decide +kernel) rfl rfl rfl (by decide +kernel)
set_option maxRecDepth 65536 in
theorem w_c7 : (Jvm.Cond.code ({ cls := "java/lang/String", name := "coder", desc := "()B" } : Jvm.MethodName) jdk_42_method_152_code (1 : Nat) (Option.some Jvm.ClassFile.FieldType.byte)).before args0 about1 = true := code_word (m := ⟨8, 6⟩) (meth := k8m6) (c := k8c6) (by decide +kernel) rfl rfl rfl (by decide +kernel)
set_option maxRecDepth 65536 in
theorem w_c8 : (Jvm.Cond.code ({ cls := "java/lang/String", name := "indexOf", desc := "(I)I" } : Jvm.MethodName) jdk_42_method_79_code (2 : Nat) (Option.some Jvm.ClassFile.FieldType.int)).before args0 about1 = true := code_word (m := ⟨8, 4⟩) (meth := k8m4) (c := k8c4) (by decide +kernel) rfl rfl rfl (by decide +kernel)
set_option maxRecDepth 65536 in
theorem w_c9 : (Jvm.Cond.code ({ cls := "java/lang/String", name := "indexOf", desc := "(II)I" } : Jvm.MethodName) jdk_42_method_80_code (3 : Nat) (Option.some Jvm.ClassFile.FieldType.int)).before args0 about1 = true := code_word (m := ⟨8, 5⟩) (meth := k8m5) (c := k8c5) (by decide +kernel) rfl rfl rfl (by decide +kernel)
set_option maxRecDepth 65536 in
theorem w_c10 : (Jvm.Cond.code ({ cls := "java/lang/String", name := "isLatin1", desc := "()Z" } : Jvm.MethodName) jdk_42_method_154_code (1 : Nat) (Option.some Jvm.ClassFile.FieldType.boolean)).before args0 about1 = true := code_word (m := ⟨8, 7⟩) (meth := k8m7) (c := k8c7) (by decide +kernel) rfl rfl rfl (by decide +kernel)
set_option maxRecDepth 65536 in
theorem w_c11 : (Jvm.Cond.code ({ cls := "java/lang/StringLatin1", name := "indexOf", desc := "([BIII)I" } : Jvm.MethodName) jdk_43_method_22_code (4 : Nat) (Option.some Jvm.ClassFile.FieldType.int)).before args0 about1 = true := code_word (m := ⟨10, 3⟩) (meth := k10m3) (c := k10c3) (by decide +kernel) rfl rfl rfl (by decide +kernel)
set_option maxRecDepth 65536 in
theorem w_c12 : (Jvm.Cond.code ({ cls := "java/lang/StringLatin1", name := "canEncode", desc := "(I)Z" } : Jvm.MethodName) jdk_43_method_4_code (1 : Nat) (Option.some Jvm.ClassFile.FieldType.boolean)).before args0 about1 = true := code_word (m := ⟨10, 2⟩) (meth := k10m2) (c := k10c2) (by decide +kernel) rfl rfl rfl (by decide +kernel)
set_option maxRecDepth 65536 in
theorem w_c13 : (Jvm.Cond.code ({ cls := "java/lang/Math", name := "max", desc := "(II)I" } : Jvm.MethodName) jdk_29_method_65_code (2 : Nat) (Option.some Jvm.ClassFile.FieldType.int)).before args0 about1 = true := code_word (m := ⟨11, 1⟩) (meth := k11m1) (c := k11c1) (by decide +kernel) rfl rfl rfl (by decide +kernel)
set_option maxRecDepth 65536 in
theorem w_c14 : (Jvm.Cond.code ({ cls := "java/lang/Math", name := "min", desc := "(II)I" } : Jvm.MethodName) jdk_29_method_69_code (2 : Nat) (Option.some Jvm.ClassFile.FieldType.int)).before args0 about1 = true := code_word (m := ⟨11, 2⟩) (meth := k11m2) (c := k11c2) (by decide +kernel) rfl rfl rfl (by decide +kernel)
set_option maxRecDepth 65536 in
theorem w_c15 : (Jvm.Cond.code ({ cls := "java/lang/StringLatin1", name := "indexOfChar", desc := "([BIII)I" } : Jvm.MethodName) jdk_43_method_23_code (6 : Nat) (Option.some Jvm.ClassFile.FieldType.int)).before args0 about1 = true := code_word (m := ⟨10, 4⟩) (meth := k10m4) (c := k10c4) (by decide +kernel) rfl rfl rfl (by decide +kernel)
set_option maxRecDepth 65536 in
theorem w_c16 : (Jvm.Cond.code ({ cls := "java/lang/String", name := "charAt", desc := "(I)C" } : Jvm.MethodName) jdk_42_method_56_code (2 : Nat) (Option.some Jvm.ClassFile.FieldType.char)).before args0 about1 = true := code_word (m := ⟨8, 3⟩) (meth := k8m3) (c := k8c3) (by decide +kernel) rfl rfl rfl (by decide +kernel)
set_option maxRecDepth 65536 in
theorem w_c17 : (Jvm.Cond.code ({ cls := "java/lang/StringLatin1", name := "charAt", desc := "([BI)C" } : Jvm.MethodName) jdk_43_method_2_code (2 : Nat) (Option.some Jvm.ClassFile.FieldType.char)).before args0 about1 = true := code_word (m := ⟨10, 1⟩) (meth := k10m1) (c := k10c1) (by decide +kernel) rfl rfl rfl (by decide +kernel)
set_option maxRecDepth 65536 in
theorem w_c18 : (Jvm.Cond.code ({ cls := "java/lang/String", name := "checkIndex", desc := "(II)V" } : Jvm.MethodName) jdk_42_method_155_code (2 : Nat) (Option.none : Option Jvm.ClassFile.FieldType)).before args0 about1 = true := code_word (m := ⟨8, 8⟩) (meth := k8m8) (c := k8c8) (by decide +kernel) rfl rfl rfl (by decide +kernel)
set_option maxRecDepth 65536 in
theorem w_c19 : (Jvm.Cond.code ({ cls := "jdk/internal/util/Preconditions", name := "checkIndex", desc := "(IILjava/util/function/BiFunction;)I" } : Jvm.MethodName) jdk_41_method_11_code (3 : Nat) (Option.some Jvm.ClassFile.FieldType.int)).before args0 about1 = true := code_word (m := ⟨12, 1⟩) (meth := k12m1) (c := k12c1) (by decide +kernel) rfl rfl rfl (by decide +kernel)
set_option maxRecDepth 65536 in
theorem w_c20 : (Jvm.Cond.code ({ cls := "com/example/assemble_quorum/assemblequorum/model/MemberAddress", name := "isNameCharacter", desc := "(C)Z" } : Jvm.MethodName) prog_31_method_12_code (1 : Nat) (Option.some Jvm.ClassFile.FieldType.boolean)).before args0 about1 = true := code_word (m := ⟨3, 2⟩) (meth := k3m2) (c := k3c2) (by decide +kernel) rfl rfl rfl (by decide +kernel)
set_option maxRecDepth 65536 in
theorem w_c21 : (Jvm.Cond.code ({ cls := "com/example/assemble_quorum/assemblequorum/model/ProposalNumber", name := "<init>", desc := "(JLcom/example/assemble_quorum/assemblequorum/model/MemberAddress;)V" } : Jvm.MethodName) prog_34_method_1_code (4 : Nat) (Option.none : Option Jvm.ClassFile.FieldType)).before args0 about1 = true := code_word (m := ⟨13, 0⟩) (meth := k13m0) (c := k13c0) (by decide +kernel) rfl rfl rfl (by decide +kernel)
set_option maxRecDepth 65536 in
theorem w_c22 : (Jvm.Cond.code ({ cls := "com/example/assemble_quorum/assemblequorum/io/BuilderPriorPinLaw", name := "kindOf", desc := "(I)Lcom/example/assemble_quorum/assemblequorum/io/Message$Kind;" } : Jvm.MethodName) method_2_code (2 : Nat) (Option.some (Jvm.ClassFile.FieldType.object "com/example/assemble_quorum/assemblequorum/io/Message$Kind"))).before args0 about1 = true := code_word (m := ⟨1, 1⟩) (meth := k1m1) (c := k1c1) (by decide +kernel) rfl rfl rfl (by decide +kernel)
set_option maxRecDepth 65536 in
theorem w_c23 : (Jvm.Cond.code ({ cls := "com/example/assemble_quorum/assemblequorum/io/Message$Builder", name := "<init>", desc := "(Lcom/example/assemble_quorum/assemblequorum/io/Message$Kind;)V" } : Jvm.MethodName) prog_18_method_1_code (2 : Nat) (Option.none : Option Jvm.ClassFile.FieldType)).before args0 about1 = true := code_word (m := ⟨16, 0⟩) (meth := k16m0) (c := k16c0) (by decide +kernel) rfl rfl rfl (by decide +kernel)
set_option maxRecDepth 65536 in
theorem w_c24 : (Jvm.Cond.code ({ cls := "java/util/List", name := "of", desc := "()Ljava/util/List;" } : Jvm.MethodName) jdk_40_method_36_code (0 : Nat) (Option.some (Jvm.ClassFile.FieldType.object "java/util/List"))).before args0 about1 = true := code_word (m := ⟨20, 0⟩) (meth := k20m0) (c := k20c0) (by decide +kernel) rfl rfl rfl (by decide +kernel)
set_option maxRecDepth 65536 in
theorem w_c25 : (Jvm.Cond.code ({ cls := "com/example/assemble_quorum/assemblequorum/io/Message$Builder", name := "prior", desc := "(Lcom/example/assemble_quorum/assemblequorum/model/ProposalNumber;Lcom/example/assemble_quorum/assemblequorum/model/MemberAddress;)Lcom/example/assemble_quorum/assemblequorum/io/Message$Builder;" } : Jvm.MethodName) prog_18_method_8_code (3 : Nat) (Option.some (Jvm.ClassFile.FieldType.object "com/example/assemble_quorum/assemblequorum/io/Message$Builder"))).before args0 about1 = true := code_word (m := ⟨16, 1⟩) (meth := k16m1) (c := k16c1) (by decide +kernel) rfl rfl rfl (by decide +kernel)
set_option maxRecDepth 65536 in
theorem w_c26 : (Jvm.Cond.code ({ cls := "com/example/assemble_quorum/assemblequorum/io/Message$Builder", name := "build", desc := "()Lcom/example/assemble_quorum/assemblequorum/io/Message;" } : Jvm.MethodName) prog_18_method_12_code (1 : Nat) (Option.some (Jvm.ClassFile.FieldType.object "com/example/assemble_quorum/assemblequorum/io/Message"))).before args0 about1 = true := code_word (m := ⟨16, 2⟩) (meth := k16m2) (c := k16c2) (by decide +kernel) rfl rfl rfl (by decide +kernel)
set_option maxRecDepth 65536 in
theorem w_c27 : (Jvm.Cond.code ({ cls := "com/example/assemble_quorum/assemblequorum/io/Message", name := "<init>", desc := "(Lcom/example/assemble_quorum/assemblequorum/io/Message$Builder;)V" } : Jvm.MethodName) prog_17_method_1_code (2 : Nat) (Option.none : Option Jvm.ClassFile.FieldType)).before args0 about1 = true := code_word (m := ⟨22, 0⟩) (meth := k22m0) (c := k22c0) (by decide +kernel) rfl rfl rfl (by decide +kernel)
set_option maxRecDepth 65536 in
theorem w_c28 : (Jvm.Cond.code ({ cls := "java/util/List", name := "copyOf", desc := "(Ljava/util/Collection;)Ljava/util/List;" } : Jvm.MethodName) jdk_40_method_48_code (1 : Nat) (Option.some (Jvm.ClassFile.FieldType.object "java/util/List"))).before args0 about1 = true := code_word (m := ⟨20, 1⟩) (meth := k20m1) (c := k20c1) (by decide +kernel) rfl rfl rfl (by decide +kernel)
set_option maxRecDepth 65536 in
theorem w_c29 : (Jvm.Cond.code ({ cls := "java/util/ImmutableCollections", name := "listCopy", desc := "(Ljava/util/Collection;)Ljava/util/List;" } : Jvm.MethodName) jdk_56_method_3_code (2 : Nat) (Option.some (Jvm.ClassFile.FieldType.object "java/util/List"))).before args0 about1 = true := code_word (m := ⟨21, 1⟩) (meth := k21m1) (c := k21c1) (by decide +kernel) rfl rfl rfl (by decide +kernel)
set_option maxRecDepth 65536 in
theorem w_c30 : (Jvm.Cond.code ({ cls := "com/example/assemble_quorum/assemblequorum/io/Message", name := "priorNumber", desc := "()Lcom/example/assemble_quorum/assemblequorum/model/ProposalNumber;" } : Jvm.MethodName) prog_17_method_27_code (1 : Nat) (Option.some (Jvm.ClassFile.FieldType.object "com/example/assemble_quorum/assemblequorum/model/ProposalNumber"))).before args0 about1 = true := code_word (m := ⟨22, 5⟩) (meth := k22m5) (c := k22c5) (by decide +kernel) rfl rfl rfl (by decide +kernel)
set_option maxRecDepth 65536 in
theorem w_c31 : (Jvm.Cond.code ({ cls := "com/example/assemble_quorum/assemblequorum/io/Message", name := "priorCandidate", desc := "()Lcom/example/assemble_quorum/assemblequorum/model/MemberAddress;" } : Jvm.MethodName) prog_17_method_28_code (1 : Nat) (Option.some (Jvm.ClassFile.FieldType.object "com/example/assemble_quorum/assemblequorum/model/MemberAddress"))).before args0 about1 = true := code_word (m := ⟨22, 6⟩) (meth := k22m6) (c := k22c6) (by decide +kernel) rfl rfl rfl (by decide +kernel)
set_option maxRecDepth 65536 in
theorem w_c32 : (Jvm.Cond.code ({ cls := "com/example/assemble_quorum/assemblequorum/io/Message", name := "kind", desc := "()Lcom/example/assemble_quorum/assemblequorum/io/Message$Kind;" } : Jvm.MethodName) prog_17_method_20_code (1 : Nat) (Option.some (Jvm.ClassFile.FieldType.object "com/example/assemble_quorum/assemblequorum/io/Message$Kind"))).before args0 about1 = true := code_word (m := ⟨22, 1⟩) (meth := k22m1) (c := k22c1) (by decide +kernel) rfl rfl rfl (by decide +kernel)
set_option maxRecDepth 65536 in
theorem w_c33 : (Jvm.Cond.code ({ cls := "com/example/assemble_quorum/assemblequorum/io/Message", name := "number", desc := "()Lcom/example/assemble_quorum/assemblequorum/model/ProposalNumber;" } : Jvm.MethodName) prog_17_method_24_code (1 : Nat) (Option.some (Jvm.ClassFile.FieldType.object "com/example/assemble_quorum/assemblequorum/model/ProposalNumber"))).before args0 about1 = true := code_word (m := ⟨22, 3⟩) (meth := k22m3) (c := k22c3) (by decide +kernel) rfl rfl rfl (by decide +kernel)
set_option maxRecDepth 65536 in
theorem w_c34 : (Jvm.Cond.code ({ cls := "com/example/assemble_quorum/assemblequorum/io/Message", name := "candidate", desc := "()Lcom/example/assemble_quorum/assemblequorum/model/MemberAddress;" } : Jvm.MethodName) prog_17_method_25_code (1 : Nat) (Option.some (Jvm.ClassFile.FieldType.object "com/example/assemble_quorum/assemblequorum/model/MemberAddress"))).before args0 about1 = true := code_word (m := ⟨22, 4⟩) (meth := k22m4) (c := k22c4) (by decide +kernel) rfl rfl rfl (by decide +kernel)
set_option maxRecDepth 65536 in
theorem w_c35 : (Jvm.Cond.code ({ cls := "com/example/assemble_quorum/assemblequorum/io/Message", name := "leader", desc := "()Lcom/example/assemble_quorum/assemblequorum/model/MemberAddress;" } : Jvm.MethodName) prog_17_method_22_code (1 : Nat) (Option.some (Jvm.ClassFile.FieldType.object "com/example/assemble_quorum/assemblequorum/model/MemberAddress"))).before args0 about1 = true := code_word (m := ⟨22, 2⟩) (meth := k22m2) (c := k22c2) (by decide +kernel) rfl rfl rfl (by decide +kernel)
def codes1 : List Jvm.Cond := [Jvm.Cond.code x code maxLocals ret, Jvm.Cond.code ({ cls := "com/example/assemble_quorum/assemblequorum/model/MemberAddress", name := "<init>", desc := "(Ljava/lang/String;I)V" } : Jvm.MethodName) prog_31_method_1_code (3 : Nat) (Option.none : Option Jvm.ClassFile.FieldType), Jvm.Cond.code ({ cls := "java/lang/Object", name := "<init>", desc := "()V" } : Jvm.MethodName) object_method_1_code (1 : Nat) (Option.none : Option Jvm.ClassFile.FieldType), Jvm.Cond.code ({ cls := "java/util/Objects", name := "requireNonNull", desc := "(Ljava/lang/Object;Ljava/lang/String;)Ljava/lang/Object;" } : Jvm.MethodName) jdk_31_method_11_code (2 : Nat) (Option.some (Jvm.ClassFile.FieldType.object "java/lang/Object")), Jvm.Cond.code ({ cls := "com/example/assemble_quorum/assemblequorum/model/MemberAddress", name := "checkHost", desc := "(Ljava/lang/String;)V" } : Jvm.MethodName) prog_31_method_9_code (5 : Nat) (Option.none : Option Jvm.ClassFile.FieldType), Jvm.Cond.code ({ cls := "java/lang/String", name := "isEmpty", desc := "()Z" } : Jvm.MethodName) jdk_42_method_55_code (1 : Nat) (Option.some Jvm.ClassFile.FieldType.boolean), Jvm.Cond.code ({ cls := "java/lang/String", name := "length", desc := "()I" } : Jvm.MethodName) jdk_42_method_54_code (1 : Nat) (Option.some Jvm.ClassFile.FieldType.int), Jvm.Cond.code ({ cls := "java/lang/String", name := "coder", desc := "()B" } : Jvm.MethodName) jdk_42_method_152_code (1 : Nat) (Option.some Jvm.ClassFile.FieldType.byte), Jvm.Cond.code ({ cls := "java/lang/String", name := "indexOf", desc := "(I)I" } : Jvm.MethodName) jdk_42_method_79_code (2 : Nat) (Option.some Jvm.ClassFile.FieldType.int), Jvm.Cond.code ({ cls := "java/lang/String", name := "indexOf", desc := "(II)I" } : Jvm.MethodName) jdk_42_method_80_code (3 : Nat) (Option.some Jvm.ClassFile.FieldType.int), Jvm.Cond.code ({ cls := "java/lang/String", name := "isLatin1", desc := "()Z" } : Jvm.MethodName) jdk_42_method_154_code (1 : Nat) (Option.some Jvm.ClassFile.FieldType.boolean), Jvm.Cond.code ({ cls := "java/lang/StringLatin1", name := "indexOf", desc := "([BIII)I" } : Jvm.MethodName) jdk_43_method_22_code (4 : Nat) (Option.some Jvm.ClassFile.FieldType.int), Jvm.Cond.code ({ cls := "java/lang/StringLatin1", name := "canEncode", desc := "(I)Z" } : Jvm.MethodName) jdk_43_method_4_code (1 : Nat) (Option.some Jvm.ClassFile.FieldType.boolean), Jvm.Cond.code ({ cls := "java/lang/Math", name := "max", desc := "(II)I" } : Jvm.MethodName) jdk_29_method_65_code (2 : Nat) (Option.some Jvm.ClassFile.FieldType.int), Jvm.Cond.code ({ cls := "java/lang/Math", name := "min", desc := "(II)I" } : Jvm.MethodName) jdk_29_method_69_code (2 : Nat) (Option.some Jvm.ClassFile.FieldType.int), Jvm.Cond.code ({ cls := "java/lang/StringLatin1", name := "indexOfChar", desc := "([BIII)I" } : Jvm.MethodName) jdk_43_method_23_code (6 : Nat) (Option.some Jvm.ClassFile.FieldType.int), Jvm.Cond.code ({ cls := "java/lang/String", name := "charAt", desc := "(I)C" } : Jvm.MethodName) jdk_42_method_56_code (2 : Nat) (Option.some Jvm.ClassFile.FieldType.char), Jvm.Cond.code ({ cls := "java/lang/StringLatin1", name := "charAt", desc := "([BI)C" } : Jvm.MethodName) jdk_43_method_2_code (2 : Nat) (Option.some Jvm.ClassFile.FieldType.char), Jvm.Cond.code ({ cls := "java/lang/String", name := "checkIndex", desc := "(II)V" } : Jvm.MethodName) jdk_42_method_155_code (2 : Nat) (Option.none : Option Jvm.ClassFile.FieldType), Jvm.Cond.code ({ cls := "jdk/internal/util/Preconditions", name := "checkIndex", desc := "(IILjava/util/function/BiFunction;)I" } : Jvm.MethodName) jdk_41_method_11_code (3 : Nat) (Option.some Jvm.ClassFile.FieldType.int), Jvm.Cond.code ({ cls := "com/example/assemble_quorum/assemblequorum/model/MemberAddress", name := "isNameCharacter", desc := "(C)Z" } : Jvm.MethodName) prog_31_method_12_code (1 : Nat) (Option.some Jvm.ClassFile.FieldType.boolean), Jvm.Cond.code ({ cls := "com/example/assemble_quorum/assemblequorum/model/ProposalNumber", name := "<init>", desc := "(JLcom/example/assemble_quorum/assemblequorum/model/MemberAddress;)V" } : Jvm.MethodName) prog_34_method_1_code (4 : Nat) (Option.none : Option Jvm.ClassFile.FieldType), Jvm.Cond.code ({ cls := "com/example/assemble_quorum/assemblequorum/io/BuilderPriorPinLaw", name := "kindOf", desc := "(I)Lcom/example/assemble_quorum/assemblequorum/io/Message$Kind;" } : Jvm.MethodName) method_2_code (2 : Nat) (Option.some (Jvm.ClassFile.FieldType.object "com/example/assemble_quorum/assemblequorum/io/Message$Kind")), Jvm.Cond.code ({ cls := "com/example/assemble_quorum/assemblequorum/io/Message$Builder", name := "<init>", desc := "(Lcom/example/assemble_quorum/assemblequorum/io/Message$Kind;)V" } : Jvm.MethodName) prog_18_method_1_code (2 : Nat) (Option.none : Option Jvm.ClassFile.FieldType), Jvm.Cond.code ({ cls := "java/util/List", name := "of", desc := "()Ljava/util/List;" } : Jvm.MethodName) jdk_40_method_36_code (0 : Nat) (Option.some (Jvm.ClassFile.FieldType.object "java/util/List")), Jvm.Cond.code ({ cls := "com/example/assemble_quorum/assemblequorum/io/Message$Builder", name := "prior", desc := "(Lcom/example/assemble_quorum/assemblequorum/model/ProposalNumber;Lcom/example/assemble_quorum/assemblequorum/model/MemberAddress;)Lcom/example/assemble_quorum/assemblequorum/io/Message$Builder;" } : Jvm.MethodName) prog_18_method_8_code (3 : Nat) (Option.some (Jvm.ClassFile.FieldType.object "com/example/assemble_quorum/assemblequorum/io/Message$Builder")), Jvm.Cond.code ({ cls := "com/example/assemble_quorum/assemblequorum/io/Message$Builder", name := "build", desc := "()Lcom/example/assemble_quorum/assemblequorum/io/Message;" } : Jvm.MethodName) prog_18_method_12_code (1 : Nat) (Option.some (Jvm.ClassFile.FieldType.object "com/example/assemble_quorum/assemblequorum/io/Message")), Jvm.Cond.code ({ cls := "com/example/assemble_quorum/assemblequorum/io/Message", name := "<init>", desc := "(Lcom/example/assemble_quorum/assemblequorum/io/Message$Builder;)V" } : Jvm.MethodName) prog_17_method_1_code (2 : Nat) (Option.none : Option Jvm.ClassFile.FieldType), Jvm.Cond.code ({ cls := "java/util/List", name := "copyOf", desc := "(Ljava/util/Collection;)Ljava/util/List;" } : Jvm.MethodName) jdk_40_method_48_code (1 : Nat) (Option.some (Jvm.ClassFile.FieldType.object "java/util/List")), Jvm.Cond.code ({ cls := "java/util/ImmutableCollections", name := "listCopy", desc := "(Ljava/util/Collection;)Ljava/util/List;" } : Jvm.MethodName) jdk_56_method_3_code (2 : Nat) (Option.some (Jvm.ClassFile.FieldType.object "java/util/List")), Jvm.Cond.code ({ cls := "com/example/assemble_quorum/assemblequorum/io/Message", name := "priorNumber", desc := "()Lcom/example/assemble_quorum/assemblequorum/model/ProposalNumber;" } : Jvm.MethodName) prog_17_method_27_code (1 : Nat) (Option.some (Jvm.ClassFile.FieldType.object "com/example/assemble_quorum/assemblequorum/model/ProposalNumber")), Jvm.Cond.code ({ cls := "com/example/assemble_quorum/assemblequorum/io/Message", name := "priorCandidate", desc := "()Lcom/example/assemble_quorum/assemblequorum/model/MemberAddress;" } : Jvm.MethodName) prog_17_method_28_code (1 : Nat) (Option.some (Jvm.ClassFile.FieldType.object "com/example/assemble_quorum/assemblequorum/model/MemberAddress")), Jvm.Cond.code ({ cls := "com/example/assemble_quorum/assemblequorum/io/Message", name := "kind", desc := "()Lcom/example/assemble_quorum/assemblequorum/io/Message$Kind;" } : Jvm.MethodName) prog_17_method_20_code (1 : Nat) (Option.some (Jvm.ClassFile.FieldType.object "com/example/assemble_quorum/assemblequorum/io/Message$Kind")), Jvm.Cond.code ({ cls := "com/example/assemble_quorum/assemblequorum/io/Message", name := "number", desc := "()Lcom/example/assemble_quorum/assemblequorum/model/ProposalNumber;" } : Jvm.MethodName) prog_17_method_24_code (1 : Nat) (Option.some (Jvm.ClassFile.FieldType.object "com/example/assemble_quorum/assemblequorum/model/ProposalNumber")), Jvm.Cond.code ({ cls := "com/example/assemble_quorum/assemblequorum/io/Message", name := "candidate", desc := "()Lcom/example/assemble_quorum/assemblequorum/model/MemberAddress;" } : Jvm.MethodName) prog_17_method_25_code (1 : Nat) (Option.some (Jvm.ClassFile.FieldType.object "com/example/assemble_quorum/assemblequorum/model/MemberAddress")), Jvm.Cond.code ({ cls := "com/example/assemble_quorum/assemblequorum/io/Message", name := "leader", desc := "()Lcom/example/assemble_quorum/assemblequorum/model/MemberAddress;" } : Jvm.MethodName) prog_17_method_22_code (1 : Nat) (Option.some (Jvm.ClassFile.FieldType.object "com/example/assemble_quorum/assemblequorum/model/MemberAddress"))]
set_option maxRecDepth 65536 in
theorem codes_eq : words1.filter isCode = codes1 := rfl
theorem w_codes : ∀ c ∈ words1.filter isCode, c.before args0 about1 = true := by
  rw [codes_eq]
  intro c hc
  simp only [codes1, List.mem_cons, List.not_mem_nil, or_false] at hc
  rcases hc with rfl | rfl | rfl | rfl | rfl | rfl | rfl | rfl | rfl | rfl | rfl | rfl | rfl | rfl | rfl | rfl | rfl | rfl | rfl | rfl | rfl | rfl | rfl | rfl | rfl | rfl | rfl | rfl | rfl | rfl | rfl | rfl | rfl | rfl | rfl | rfl
  · exact w_c0
  · exact w_c1
  · exact w_c2
  · exact w_c3
  · exact w_c4
  · exact w_c5
  · exact w_c6
  · exact w_c7
  · exact w_c8
  · exact w_c9
  · exact w_c10
  · exact w_c11
  · exact w_c12
  · exact w_c13
  · exact w_c14
  · exact w_c15
  · exact w_c16
  · exact w_c17
  · exact w_c18
  · exact w_c19
  · exact w_c20
  · exact w_c21
  · exact w_c22
  · exact w_c23
  · exact w_c24
  · exact w_c25
  · exact w_c26
  · exact w_c27
  · exact w_c28
  · exact w_c29
  · exact w_c30
  · exact w_c31
  · exact w_c32
  · exact w_c33
  · exact w_c34
  · exact w_c35
set_option maxRecDepth 65536 in
theorem w_t1 : (words1.take 24).all (fun c => isCode c || c.before args0 about1) = true := by decide +kernel
set_option maxRecDepth 65536 in
theorem w_t2 : ((words1.drop 24).take 24).all (fun c => isCode c || c.before args0 about1) = true := by decide +kernel
set_option maxRecDepth 65536 in
theorem w_t3 : (((words1.drop 24).drop 24).take 24).all (fun c => isCode c || c.before args0 about1) = true := by decide +kernel
set_option maxRecDepth 65536 in
theorem w_t4 : ((((words1.drop 24).drop 24).drop 24).take 24).all (fun c => isCode c || c.before args0 about1) = true := by decide +kernel
set_option maxRecDepth 65536 in
theorem w_t5 : (((((words1.drop 24).drop 24).drop 24).drop 24).take 24).all (fun c => isCode c || c.before args0 about1) = true := by decide +kernel
set_option maxRecDepth 65536 in
theorem w_t6 : ((((((words1.drop 24).drop 24).drop 24).drop 24).drop 24).take 24).all (fun c => isCode c || c.before args0 about1) = true := by decide +kernel
set_option maxRecDepth 65536 in
theorem w_t7 : (((((((words1.drop 24).drop 24).drop 24).drop 24).drop 24).drop 24).take 24).all (fun c => isCode c || c.before args0 about1) = true := by decide +kernel
set_option maxRecDepth 65536 in
theorem w_t8 : ((((((((words1.drop 24).drop 24).drop 24).drop 24).drop 24).drop 24).drop 24).take 24).all (fun c => isCode c || c.before args0 about1) = true := by decide +kernel
set_option maxRecDepth 65536 in
theorem w_t9 : (((((((((words1.drop 24).drop 24).drop 24).drop 24).drop 24).drop 24).drop 24).drop 24).take 24).all (fun c => isCode c || c.before args0 about1) = true := by decide +kernel
set_option maxRecDepth 65536 in
theorem w_t10 : ((((((((((words1.drop 24).drop 24).drop 24).drop 24).drop 24).drop 24).drop 24).drop 24).drop 24).take 24).all (fun c => isCode c || c.before args0 about1) = true := by decide +kernel
set_option maxRecDepth 65536 in
theorem w_t11 : ((((((((((words1.drop 24).drop 24).drop 24).drop 24).drop 24).drop 24).drop 24).drop 24).drop 24).drop 24).all (fun c => isCode c || c.before args0 about1) = true := by decide +kernel
theorem w_tables : (allAtoms (Jvm.Cond.code x code maxLocals ret :: tables_1)).before args0 about1 = true := by
  rw [allAtoms_all]
  show words1.all (fun c => c.before args0 about1) = true
  refine all_split ?_ w_codes
  rw [← List.take_append_drop 24 words1, List.all_append, w_t1, ← List.take_append_drop 24 (words1.drop 24), List.all_append, w_t2, ← List.take_append_drop 24 ((words1.drop 24).drop 24), List.all_append, w_t3, ← List.take_append_drop 24 (((words1.drop 24).drop 24).drop 24), List.all_append, w_t4, ← List.take_append_drop 24 ((((words1.drop 24).drop 24).drop 24).drop 24), List.all_append, w_t5, ← List.take_append_drop 24 (((((words1.drop 24).drop 24).drop 24).drop 24).drop 24), List.all_append, w_t6, ← List.take_append_drop 24 ((((((words1.drop 24).drop 24).drop 24).drop 24).drop 24).drop 24), List.all_append, w_t7, ← List.take_append_drop 24 (((((((words1.drop 24).drop 24).drop 24).drop 24).drop 24).drop 24).drop 24), List.all_append, w_t8, ← List.take_append_drop 24 ((((((((words1.drop 24).drop 24).drop 24).drop 24).drop 24).drop 24).drop 24).drop 24), List.all_append, w_t9, ← List.take_append_drop 24 (((((((((words1.drop 24).drop 24).drop 24).drop 24).drop 24).drop 24).drop 24).drop 24).drop 24), List.all_append, w_t10, w_t11]
  rfl
set_option maxRecDepth 65536 in
theorem w_rest : rest_1_c.before args0 about1 = true := by decide +kernel
set_option maxRecDepth 65536 in
theorem w_case : (Jvm.Cond.and given_1 narrow_1).before args0 about1 = true := by decide +kernel
set_option maxRecDepth 65536 in
theorem w_consts : constsHeld consts_1 about1 := Jvm.Lit.constsHeldB_iff.mp (by decide +kernel)
theorem w_applies : (headSpec (Jvm.Cond.code x code maxLocals ret :: tables_1) room_1).applies x e0.platform about1 = true :=
  (Spec.applies_iff w_frames).mpr ⟨w_running, w_runnable, w_alone, w_named, w_hears, w_ripe, w_room, w_tables⟩
theorem atStart : AtStart classFile x code maxLocals ret World_1 tables_1 room_1 Calls_1 rest_1 Pre_1 launch0 p0 e0 about1 theMethod args0 below0 :=
  ⟨lists_1, trivial, launch0.admits_env _ _ _, launch0.least_env, fairChoices_fair.cas, fairChoices_fair.clock, w_frames, w_args, w_heap, w_applies, ⟨w_consts, trivial⟩, w_rest, w_case⟩
end start1
theorem witness_1 : WitnessClaimed_1 := ⟨start1.p0, start1.e0, start1.about1, start1.theMethod, start1.args0, start1.below0, start1.atStart⟩
end Jvm.Pilot.@@N@@
