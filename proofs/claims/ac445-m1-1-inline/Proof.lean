import JvmDerived
import JvmDerived.Pilot.@@N@@Statement
import JvmDerived.Pilot.@@N@@Code
set_option linter.unusedVariables false
set_option linter.unusedSimpArgs false
namespace Jvm.RoadKit
open Sem ClassFile Op Lib Jvm.Stand Jvm.Free Jvm.LawKit
section New
variable {p : Program} {l : Launch} {e : Env} {R : Room} {s : State} {m : MethodId} {args : Array Value} {below : List Frame} {meth : Method} {c : Code} {T : State} {locs : List Loc} {cells slots : Nat}
theorem retI (X : Stand p l e R s m args below meth c T locs cells slots) (hx : p.tables.exec = Jvm.exec) {pc : Nat} {Ls : Array Slot} {z : Int32} {rest : List Value} (hret : meth.sig.returnType = some .int) (hd : decode c.code pc = .ok (.ireturn, 1)) {fs : List Frame}
    (hl : ∀ (f : JFrame) (acts : List Action), f.method = m → f.locked = none → f.entered = [] → (doReturn e (T.setTop f) acts (some (.int z))).1 = T.setFrames fs) : Steps p.tables e below (T.setTop (mkF m pc Ls (.int z :: rest))) (T.setFrames fs) := by
  have hm' : T.vm.method? m = some meth := X.method'
  have hn : narrow .int (.int z) = .int z := rfl
  show Steps p.tables e below (T.setTop { method := m, pc := pc, locals := Ls, stack := _ :: rest, locked := none }) _
  jvm_step X.here [X.here.top, hx, hd, hm', hret, hn]
  first | (intro acts; rw [hl _ acts rfl rfl rfl]) | rw [hl _ _ rfl rfl rfl]
  exact Steps.refl _
end New
end Jvm.RoadKit
namespace Jvm.Pilot.@@N@@
open Jvm Jvm.ClassFile Sem Op Lib Jvm.Free Jvm.Stand Jvm.LawKit Jvm.RoadKit Bundle Jvm.Pilot.@@N@@.Jvm.D
theorem own_irem (x y : Int32) : x - (x / y) * y = x % y := by
  apply Int32.toInt_inj.mp
  have h1 := Int32.le_toInt (x % y)
  have h2 := Int32.toInt_lt (x % y)
  rw [Int32.toInt_sub, Int32.toInt_mul, Int32.toInt_div, Int.bmod_mul_bmod, Int.sub_bmod_bmod, Int.mul_comm (x.toInt.tdiv y.toInt), ← Int.tmod_def, ← Int32.toInt_mod]
  exact Int.bmod_eq_of_le_mul_two (by omega) (by omega)
theorem own_getR {p : Program} {l : Launch} {e : Env} {R : Room} {s : State} {m : MethodId} {args : Array Value} {below : List Frame} {meth : Method} {c : Code} {T : State} {locs : List Loc} {cells slots : Nat} {Z : State} {a0 : Array Value} {h : Heap}
    (X : Stand p l e R s m args below meth c T locs cells slots) (hx : p.tables.exec = Jvm.exec) (hZ : Z.Warmed39 s.vm) {own O n d : String} {index : Nat} (hown : s.vm.findClass own = some m.cls) (w : (Cond.fieldRef own index O n d).before a0 Z = true)
    (eT : T.heap = h) {a : Addr} {v : Value} (F : Fld Z h a O n d v) {g : JFrame} (hg : g.method = m) {rest : List Value} (hs : g.stack = .ref a :: rest) (hd : decode c.code g.pc = .ok (.getfield index, 3)) :
    ∃ T', Stand p l e R s m args below meth c T' locs cells slots ∧ T'.heap = h ∧ ∀ target, Steps p.tables e below (T'.setTop { g with pc := g.pc + 3, stack := v :: rest }) target → Steps p.tables e below (T.setTop g) target := by
  have hT : Z.Warmed39 T.vm := wtrans hZ X.warmed
  have w' := Cond.fieldRef_warmed39 hT w
  have hc : (Z.setVm T.vm).vm.findClass own = some m.cls := by
    rw [show (Z.setVm T.vm).vm = T.vm from rfl, X.warmed.alike.findClass]; exact hown
  obtain ⟨cf, k, i, f, hff, hready⟩ := Cond.fieldRef_spec hc w'
  obtain ⟨cell, cf', k', i', f', q1, q2, q3, q4, q5, q6, q7⟩ := F
  obtain ⟨k2, hi, ek⟩ := State.fieldFound?_setVm (s := Z) hT.alike q2
  cases hff.symm.trans hi
  exact ⟨T, X, eT, fun target ht => (X.getfieldR hx hg hready q3 hs (by rw [eT]; exact q1) q4 q7 hd (Steps.refl _)).trans ht⟩
theorem own_insAny {Z : State} {a0 : Array Value} {h : Heap} {own K C : String} {index d : Nat} {a : Addr} (hd : Z.vm.findClass own = some d) (w : (Cond.classLink own index K).before a0 Z = true) (E : Exa Z h a C) : ∃ b, Ins Z h a K b := by
  obtain ⟨cell, k, h1, -⟩ := E
  obtain ⟨cT, hK, -⟩ := Cond.classLink_spec hd w {} rfl
  exact ⟨_, cell, cT, h1, hK, rfl⟩
theorem own_mvM {Z s : State} {a0 args : Array Value} {own host : String} {y : MethodName} {index : Nat} (hZ : Z.Warmed39 s.vm) (w : (Cond.methodLinkNest own index y host).before a0 Z = true) : (Cond.methodLinkNest own index y host).before args s = true := (Cond.methodLinkNest_wide hZ w :)
theorem own_w {Z : State} {a0 : Array Value} (hw : ∀ d ∈ tables_1, d.before a0 Z = true) (i : Nat) {d : Jvm.Cond} (h : tables_1[i]? = some d) : d.before a0 Z = true := hw _ (List.mem_of_getElem? h)
theorem own_nb (x : Int32) : nar .byte x.toInt8.toInt32 = x.toInt8.toInt32 := by simp [nar]
theorem own_nb2 (x : Int32) : x.toInt8.toInt32.toInt8.toInt32 = x.toInt8.toInt32 := by simp
theorem own_eqI {args : Array Value} {first s : State} {o : Option Outcome} {idx : List Nat} {t : Term} {k : Int32} (h : (Cond.eq t (.int k)).value args first o s idx = some true) : t.eval args first o idx s = some (.int k) :=
  Cond.eq_int (by simp [Cond.holds, h]) (Term.int_eval _)
def own_EL : List (String × Nat) := [("java/lang/String", 7), ("com/example/momus/momus/cli/Option", 32)]
theorem own_EW {Z : State} {a0 : Array Value} (hw : ∀ d ∈ tables_1, d.before a0 Z = true) : EW Z a0 own_EL := (EW.cons (own_w hw 201 rfl) (by decide) (EW.cons (own_w hw 152 rfl) (by decide) EW.nil))
theorem own_sub : ∀ q ∈ own_EL, q ∈ consts_1 := by decide
theorem own_wS {Z : State} {a0 : Array Value} (hw : ∀ d ∈ tables_1, d.before a0 Z = true) : ∀ a ∈ Bundle.stringAtoms, a.before a0 Z = true := by
  intro a ha
  simp only [Bundle.stringAtoms, List.mem_cons, List.not_mem_nil, or_false] at ha
  rcases ha with rfl | rfl | rfl | rfl | rfl | rfl | rfl
  · exact (own_w hw 3 rfl)
  · exact (own_w hw 2 rfl)
  · exact (own_w hw 19 rfl)
  · exact (own_w hw 29 rfl)
  · exact (own_w hw 27 rfl)
  · exact (own_w hw 85 rfl)
  · exact (own_w hw 86 rfl)
theorem own_selSelf {s : State} {args : Array Value} {y : MethodName} {K : String} (hsel : (Cond.selects K y y).before args s = true) (hpriv : s.PrivateAt y) (hinst : (Cond.instanceMethod y).before args s = true) (hy : y.cls ≠ "java/lang/invoke/MethodHandle" ∧ y.cls ≠ "java/lang/invoke/VarHandle") : (Cond.selects y.cls y y).before args s = true := by
  obtain ⟨c2, r2, m2, -, -, q3, -, kP, hkP, hkPi⟩ := Cond.selects_spec hsel
  exact selects_self_of_private (findClass_of_methodNamed q3) hkP hkPi hpriv hinst hy
theorem own_same {s : State} {args : Array Value} {y z : MethodName} {K : String} (hsel : (Cond.selects K z z).before args s = true) (hc : z.cls = y.cls) (hinst : (Cond.instanceMethod y).before args s = true) (hy : y.cls ≠ "java/lang/invoke/MethodHandle" ∧ y.cls ≠ "java/lang/invoke/VarHandle") : (Cond.sameMethod y.cls y.cls y.name y.desc).before args s = true := by
  obtain ⟨c2, r2, m2, -, -, q3, -, kP, hkP, hkPi⟩ := Cond.selects_spec hsel
  obtain ⟨mk, methM, hnamed, -⟩ := Cond.instanceMethod_spec hinst
  have hf := State.methodFound?_of_named hnamed hy
  have h1 := findClass_of_methodNamed hnamed
  have h2 := findClass_of_methodNamed q3
  rw [hc, h1] at h2
  rw [← Option.some.inj h2] at hkP
  have hn : s.methodNamed? ⟨y.cls, y.name, y.desc⟩ = some mk := hnamed
  simp only [Cond.before, Cond.holds, Cond.value, h1, hf, hn, hkP]
  simp; exact hkPi
theorem own_nf {s : State} {args : Array Value} {y z : MethodName} {K : String} (hsel : (Cond.selects K z z).before args s = true) (hc : z.cls = y.cls) : NotFace s y := fun r0 h0 => by
  obtain ⟨c2, r2, m2, -, -, q3, -, kP, hkP, hkPi⟩ := Cond.selects_spec hsel
  have h1 := findClass_of_methodNamed h0
  have h2 := findClass_of_methodNamed q3
  rw [hc, h1] at h2
  rw [← Option.some.inj h2] at hkP
  exact ⟨kP, hkP, hkPi⟩
theorem own_safeNull {Z : State} {EL : List (String × Nat)} {vm : Vm} {h : Heap} {x : Addr} (hal : Z.vm.Alike vm) (E : Exa Z h x "java/lang/String") (F0 : Fld Z h x "java/lang/String" "value" "[B" .null) : Safe Z EL vm h x := fun B => by
  obtain ⟨cell, k, e1, e2, e3, -, -⟩ := E
  obtain ⟨cell', cf, kk, i, f, g1, g2, -, -, -, -, g3⟩ := F0
  cases e1.symm.trans g1
  obtain ⟨p, -, u, a, -, q, -, F, rfl | rfl⟩ := B
  · cases (show h[q.sa]? = some q.sC from F.ha).symm.trans e1
    obtain ⟨cS, ⟨⟨-, -, -, ⟨c1, k1, i1, f1, -⟩, -, -, -, v1, -⟩, -⟩, -⟩ := F
    obtain ⟨k3, e5, -⟩ := State.fieldFound?_setVm (s := { Z with heap := h }) hal g2
    have e4 := (show (Wst Z vm h).fieldFound? _ _ _ = _ from e5).symm.trans f1
    simp only [Option.some.injEq, Prod.mk.injEq] at e4
    rw [← e4.2.2.2, g3] at v1
    simp at v1
  · cases (show h[q.sd]? = some q.SA from F.hd).symm.trans e1
    obtain ⟨cS, -, -, f', -⟩ := F
    have f2 : vm.findClass "[B" = some q.SA.cls := f'
    rw [hal.findClass] at f2
    obtain ⟨k1, q1, q2⟩ := Vm.findClass_spec f2
    obtain ⟨k2, q3, q4⟩ := Vm.findClass_spec e2
    cases q1.symm.trans q3
    exact absurd (q2.symm.trans q4) (by decide)
def own_Gl (Z : State) (cs : Int32) (wf : Value) : Prop := (Sta Z Z.heap "java/lang/String" "COMPACT_STRINGS" "Z" (.int cs)) ∧ (¬ (cs = (0 : Int32))) ∧ (Sta Z Z.heap "jdk/internal/util/Preconditions" "SIOOBE_FORMATTER" "Ljava/util/function/BiFunction;" wf) ∧ (wf = .null ∨ ∃ x, wf = .ref x)
theorem own_cplen (vd : List Value) (f : Nat → Value) (a n : Nat) (h : a + n ≤ vd.length) : (vd.take a ++ (List.range n).map f ++ vd.drop (a + n)).length = vd.length := by
  simp; omega
theorem own_shr0 (z : Int32) : (z >>> ((0 : Int32) &&& 31)) = z := by
  apply Int32.toBitVec_inj.mp
  simp
theorem own_shl0 (z : Int32) : (z <<< ((0 : Int32) &&& 31)) = z := by
  apply Int32.toBitVec_inj.mp
  simp
theorem own_and3 (x z : Int32) (h : z = (x &&& 3)) : z = 0 ∨ z = 1 ∨ z = 2 ∨ z = 3 := by
  have h1 := c_and x 3 (by decide)
  rw [← h] at h1
  simp only [← Int32.toInt_inj, show (0 : Int32).toInt = 0 by decide, show (1 : Int32).toInt = 1 by decide, show (2 : Int32).toInt = 2 by decide, show (3 : Int32).toInt = 3 by decide] at h1 ⊢
  omega
theorem own_chr (x z d : Int32) (hd : d = (x &&& (255 : Int32)).toUInt32.toUInt16.toUInt32.toInt32) (h : z = nar .char d) : 0 ≤ z.toInt ∧ z.toInt ≤ 255 := by
  have h1 := c_and x 255 (by decide)
  have e2 : (255 : Int32).toInt = 255 := by decide
  have h2 := c_i2c (x &&& (255 : Int32))
  rw [← hd] at h2
  have h3 := c_i2c d
  have h4 : z = d.toUInt32.toUInt16.toUInt32.toInt32 := h
  rw [← h4] at h3
  omega
theorem own_chd (x d : Int32) (hd : d = (x &&& (255 : Int32)).toUInt32.toUInt16.toUInt32.toInt32) : ¬ ((255 : Int32) < d) := by
  have h1 := c_and x 255 (by decide)
  have e2 : (255 : Int32).toInt = 255 := by decide
  have h2 := c_i2c (x &&& (255 : Int32))
  rw [← hd] at h2
  rw [Int32.lt_iff_toInt_lt, e2]; omega
theorem own_le255 (z : Int32) (h : 0 ≤ z.toInt ∧ z.toInt ≤ 255) : ¬ ((255 : Int32) < z) := by
  rw [Int32.lt_iff_toInt_lt, show (255 : Int32).toInt = 255 by decide]; omega
theorem own_ef1 (m : MethodId) (x0 : Int32) (x1 : Int32) (x2 : Int32) (x3 : Int32) (x4 : Int32) : entryFrame m #[(.int x0), (.int x1), (.int x2), (.int x3), (.int x4)] maxLocals = mkF m 0 #[.val (.int x0), .val (.int x1), .val (.int x2), .val (.int x3), .val (.int x4), .unset, .unset, .unset, .unset, .unset, .unset, .unset, .unset, .unset, .unset, .unset, .unset] [] := by first | (simp [entryFrame, mkF, argsToLocals, Value.category, maxLocals]; done) | rfl
theorem own_pn0 : plainName "com/example/momus/momus/cli/OptionTakesValuePinLaw" = true := by first | (simp [plainName, overriddenIn]; done) | decide +kernel
abbrev own_y0 : MethodName := ⟨"java/lang/String", "<init>", "([C)V"⟩
theorem own_ef2 (m : MethodId) (x0 : Addr) (x1 : Addr) : entryFrame m #[(.ref x0), (.ref x1)] 2 = mkF m 0 #[.val (.ref x0), .val (.ref x1)] [] := by first | (simp [entryFrame, mkF, argsToLocals, Value.category]; done) | rfl
theorem own_pn1 : plainName "java/lang/String" = true := by first | (simp [plainName, overriddenIn]; done) | decide +kernel
theorem own_d1_0 : decode jdk_42_method_3_code 0 = .ok (.aload_n 0, 1) := by decide +kernel
theorem own_d1_1 : decode jdk_42_method_3_code 1 = .ok (.aload_n 1, 1) := by decide +kernel
theorem own_d1_2 : decode jdk_42_method_3_code 2 = .ok (.iconst 0, 1) := by decide +kernel
theorem own_d1_3 : decode jdk_42_method_3_code 3 = .ok (.aload_n 1, 1) := by decide +kernel
theorem own_d1_4 : decode jdk_42_method_3_code 4 = .ok (.arraylength, 1) := by decide +kernel
theorem own_d1_5 : decode jdk_42_method_3_code 5 = .ok (.aconst_null, 1) := by decide +kernel
theorem own_d1_6 : decode jdk_42_method_3_code 6 = .ok (.invokespecial 27, 3) := by decide +kernel
abbrev own_y1 : MethodName := ⟨"java/lang/String", "<init>", "([CIILjava/lang/Void;)V"⟩
theorem own_ef3 (m : MethodId) (x0 : Addr) (x1 : Addr) (x2 : Int32) (x3 : Int32) : entryFrame m #[(.ref x0), (.ref x1), (.int x2), (.int x3), .null] 6 = mkF m 0 #[.val (.ref x0), .val (.ref x1), .val (.int x2), .val (.int x3), .val .null, .unset] [] := by first | (simp [entryFrame, mkF, argsToLocals, Value.category]; done) | rfl
theorem own_d2_0 : decode jdk_42_method_149_code 0 = .ok (.aload_n 0, 1) := by decide +kernel
theorem own_d2_1 : decode jdk_42_method_149_code 1 = .ok (.invokespecial 1, 3) := by decide +kernel
theorem own_d2_4 : decode jdk_42_method_149_code 4 = .ok (.iload_n 3, 1) := by decide +kernel
theorem own_d2_5 : decode jdk_42_method_149_code 5 = .ok (.ifCond .ne 22, 3) := by decide +kernel
theorem own_d2_27 : decode jdk_42_method_149_code 27 = .ok (.getstatic 38, 3) := by decide +kernel
theorem own_d2_30 : decode jdk_42_method_149_code 30 = .ok (.ifCond .eq 28, 3) := by decide +kernel
theorem own_d2_33 : decode jdk_42_method_149_code 33 = .ok (.aload_n 1, 1) := by decide +kernel
theorem own_d2_34 : decode jdk_42_method_149_code 34 = .ok (.iload_n 2, 1) := by decide +kernel
theorem own_d2_35 : decode jdk_42_method_149_code 35 = .ok (.iload_n 3, 1) := by decide +kernel
theorem own_d2_36 : decode jdk_42_method_149_code 36 = .ok (.invokestatic 177, 3) := by decide +kernel
abbrev own_y2 : MethodName := ⟨"java/lang/StringUTF16", "compress", "([CII)[B"⟩
theorem own_ef4 (m : MethodId) (x0 : Addr) (x1 : Int32) (x2 : Int32) : entryFrame m #[(.ref x0), (.int x1), (.int x2)] 6 = mkF m 0 #[.val (.ref x0), .val (.int x1), .val (.int x2), .unset, .unset, .unset] [] := by first | (simp [entryFrame, mkF, argsToLocals, Value.category]; done) | rfl
theorem own_pn2 : plainName "java/lang/StringUTF16" = true := by first | (simp [plainName, overriddenIn]; done) | decide +kernel
theorem own_d4_0 : decode jdk_52_method_16_code 0 = .ok (.iload_n 2, 1) := by decide +kernel
theorem own_d4_1 : decode jdk_52_method_16_code 1 = .ok (.newarray .byte, 2) := by decide +kernel
theorem own_d4_3 : decode jdk_52_method_16_code 3 = .ok (.astore_n 3, 1) := by decide +kernel
theorem own_d4_4 : decode jdk_52_method_16_code 4 = .ok (.aload_n 0, 1) := by decide +kernel
theorem own_d4_5 : decode jdk_52_method_16_code 5 = .ok (.iload_n 1, 1) := by decide +kernel
theorem own_d4_6 : decode jdk_52_method_16_code 6 = .ok (.aload_n 3, 1) := by decide +kernel
theorem own_d4_7 : decode jdk_52_method_16_code 7 = .ok (.iconst 0, 1) := by decide +kernel
theorem own_d4_8 : decode jdk_52_method_16_code 8 = .ok (.iload_n 2, 1) := by decide +kernel
theorem own_d4_9 : decode jdk_52_method_16_code 9 = .ok (.invokestatic 115, 3) := by decide +kernel
abbrev own_y3 : MethodName := ⟨"java/lang/StringUTF16", "compress", "([CI[BII)I"⟩
theorem own_ef5 (m : MethodId) (x0 : Addr) (x1 : Int32) (x2 : Addr) (x3 : Int32) (x4 : Int32) : entryFrame m #[(.ref x0), (.int x1), (.ref x2), (.int x3), (.int x4)] 7 = mkF m 0 #[.val (.ref x0), .val (.int x1), .val (.ref x2), .val (.int x3), .val (.int x4), .unset, .unset] [] := by first | (simp [entryFrame, mkF, argsToLocals, Value.category]; done) | rfl
theorem own_d5_0 : decode jdk_52_method_21_code 0 = .ok (.iconst 0, 1) := by decide +kernel
theorem own_d5_1 : decode jdk_52_method_21_code 1 = .ok (.istore 5, 2) := by decide +kernel
theorem own_d5_3 : decode jdk_52_method_21_code 3 = .ok (.iload 5, 2) := by decide +kernel
theorem own_d5_5 : decode jdk_52_method_21_code 5 = .ok (.iload 4, 2) := by decide +kernel
theorem own_d5_7 : decode jdk_52_method_21_code 7 = .ok (.if_icmp .ge 37, 3) := by decide +kernel
theorem own_d5_10 : decode jdk_52_method_21_code 10 = .ok (.aload_n 0, 1) := by decide +kernel
theorem own_d5_11 : decode jdk_52_method_21_code 11 = .ok (.iload_n 1, 1) := by decide +kernel
theorem own_d5_12 : decode jdk_52_method_21_code 12 = .ok (.caload, 1) := by decide +kernel
theorem own_d5_13 : decode jdk_52_method_21_code 13 = .ok (.istore 6, 2) := by decide +kernel
theorem own_d5_15 : decode jdk_52_method_21_code 15 = .ok (.iload 6, 2) := by decide +kernel
theorem own_d5_17 : decode jdk_52_method_21_code 17 = .ok (.sipush 255, 3) := by decide +kernel
theorem own_d5_20 : decode jdk_52_method_21_code 20 = .ok (.if_icmp .le 6, 3) := by decide +kernel
theorem own_d5_26 : decode jdk_52_method_21_code 26 = .ok (.aload_n 2, 1) := by decide +kernel
theorem own_d5_27 : decode jdk_52_method_21_code 27 = .ok (.iload_n 3, 1) := by decide +kernel
theorem own_d5_28 : decode jdk_52_method_21_code 28 = .ok (.iload 6, 2) := by decide +kernel
theorem own_d5_30 : decode jdk_52_method_21_code 30 = .ok (.i2b, 1) := by decide +kernel
theorem own_d5_31 : decode jdk_52_method_21_code 31 = .ok (.bastore, 1) := by decide +kernel
theorem own_d5_32 : decode jdk_52_method_21_code 32 = .ok (.iinc 1 1, 3) := by decide +kernel
theorem own_d5_35 : decode jdk_52_method_21_code 35 = .ok (.iinc 3 1, 3) := by decide +kernel
theorem own_d5_38 : decode jdk_52_method_21_code 38 = .ok (.iinc 5 1, 3) := by decide +kernel
theorem own_d5_41 : decode jdk_52_method_21_code 41 = .ok (.goto (-38), 3) := by decide +kernel
theorem own_d5_44 : decode jdk_52_method_21_code 44 = .ok (.iload 4, 2) := by decide +kernel
theorem own_d5_46 : decode jdk_52_method_21_code 46 = .ok (.ireturn, 1) := by decide +kernel
def own_Q_rmA3 (Z : State) (ob0 : Addr) (k_ob0 : ClassId) (ob0_0 : Int32) (ob0_1 : Int32) (ob2 : Addr) (k_ob2 : ClassId)  (cs : Int32) (wf : Value) (h0 : Heap) (n0 : Nat) (v : Option Value) (h : Heap) (L : List Loc) : Prop := v = some (.int (2 : Int32)) ∧ Fr n0 L ∧ Keep h0 h [ob2] ∧ Arv Z h ob2 k_ob2 .byte (2 : Int32) [(.int (ob0_0.toInt8.toInt32)), (.int (ob0_1.toInt8.toInt32))] (.int (0 : Int32))
set_option maxRecDepth 65536 in
set_option maxHeartbeats 40000000 in
theorem rmA3 (l : Launch) (Z : State) (a0 : Array Value) (hw : ∀ d ∈ tables_1, d.before a0 Z = true) (ws : List Jvm.Cond) (ob0 : Addr) (k_ob0 : ClassId) (ob0_0 : Int32) (ob0_1 : Int32) (ob2 : Addr) (k_ob2 : ClassId)  (cs : Int32) (wf : Value) (h0 : Heap) (n0 : Nat) (O0 : Old Z n0 h0) (G : own_Gl Z cs wf) (V_ob0 : Arv Z h0 ob0 k_ob0 .char (2 : Int32) [(.int ob0_0), (.int ob0_1)] (.int (0 : Int32))) (V_ob2 : Arv Z h0 ob2 k_ob2 .byte (2 : Int32) [(.int (0 : Int32)), (.int (0 : Int32))] (.int (0 : Int32))) (gz_ob2 : n0 ≤ ob2) (hx0 : ¬ ((255 : Int32) < ob0_0)) (hx1 : ¬ ((255 : Int32) < ob0_1)) (hne : ob0 ≠ ob2) :
    MetFree l own_y3 (head1 (Jvm.Cond.code own_y3 jdk_52_method_21_code 7 (some .int) :: ws) ({ frames := 0, cells := 0, slots := 0, locals := 0 } : Room)) (fun a U => a = #[(.ref ob0), (.int (0 : Int32)), (.ref ob2), (.int (0 : Int32)), (.int (2 : Int32))] ∧ Z.Warmed39 U.vm ∧ U.heap = h0) (fun _ _ _ _ _ => True) (fun _ U o U' => ∃ v L, o = .returned v ∧ own_Q_rmA3 Z ob0 k_ob0 ob0_0 ob0_1 ob2 k_ob2 cs wf h0 n0 v U'.heap L ∧ FrameEnd U o U' L ({ frames := 0, cells := 0, slots := 0, locals := 0 } : Room).cells ({ frames := 0, cells := 0, slots := 0, locals := 0 } : Room).slots) := by
  refine MetFree.of_bodySF (plainFor_of_name own_pn2) hisR ?_
  intro p e s m args below meth c s₁ Bd hml0 hP hK
  obtain ⟨rfl, hZ, hh⟩ := hP
  have hx := Bd.exec
  have hby := Bd.bytes
  have hml : c.maxLocals = 7 := hml0
  have hown : s.vm.findClass "java/lang/StringUTF16" = some m.cls := findClass_of_methodNamed Bd.named
  have hnm := (name_of_methodNamed Bd.named Bd.method).1
  have X0 : Stand p l e ({ frames := 0, cells := 0, slots := 0, locals := 0 } : Room) s m #[(.ref ob0), (.int (0 : Int32)), (.ref ob2), (.int (0 : Int32)), (.int (2 : Int32))] below meth c s₁ [] 0 0 := Stand.of_body Bd
  have e0 : s₁.heap = h0 := by rw [← hh, Bd.state]; rfl
  have N0 := Fr.nil n0
  have Z0 : n0 ≤ h0.size := O0.1 ▸ O0.2.1
  have g0 : ∀ t, Steps p.tables e below (s₁.setTop (mkF m 0 #[.val (.ref ob0), .val (.int (0 : Int32)), .val (.ref ob2), .val (.int (0 : Int32)), .val (.int (2 : Int32)), .unset, .unset] [])) t → Steps p.tables e below (s₁.setTop (entryFrame m #[(.ref ob0), (.int (0 : Int32)), (.ref ob2), (.int (0 : Int32)), (.int (2 : Int32))] 7)) t := fun t k => castTop (own_ef5 m (ob0) ((0 : Int32)) (ob2) ((0 : Int32)) ((2 : Int32))) k
  have G0 := G
  obtain ⟨S_CS, hcs, S_WF, hwf⟩ := G
  obtain ⟨c1, Ar1, cq1, S1, Nn1, Hh1, Gg1⟩ := id V_ob0
  have hin1 : ¬ ((0 : Int32) < 0 ∨ c1.slots.size ≤ ((0 : Int32)).toNatClampNeg) := inb_of S1 ⟨by decide, by decide⟩
  have hat1 : c1.slots[((0 : Int32)).toNatClampNeg]? = some (.int ob0_0) := Has.at Hh1 hin1 rfl
  have hc2 : ¬ ((255 : Int32) < ob0_0) := hx0
  obtain ⟨c3, Ar3, cq3, S3, Nn3, Hh3, Gg3⟩ := id V_ob2
  have hin3 : ¬ ((0 : Int32) < 0 ∨ c3.slots.size ≤ ((0 : Int32)).toNatClampNeg) := inb_of S3 ⟨by decide, by decide⟩
  obtain ⟨T4, h4, X4, e4, W4, st4⟩ := stB X0 hx hZ e0 Ar3 (j := (0 : Int32)) hin3 (g := (mkF m 31 #[.val (.ref ob0), .val (.int (0 : Int32)), .val (.ref ob2), .val (.int (0 : Int32)), .val (.int (2 : Int32)), .val (.int (0 : Int32)), .val (.int ob0_0)] [(.int (ob0_0.toInt8.toInt32)), (.int (0 : Int32)), (.ref ob2)])) rfl rfl (hb hby own_d5_31)
  have V4 := Arv.set Ar3 cq3 S3 Nn3 Hh3 Gg3 (fits_nar_byte _) W4 0 rfl (Nat.le_of_ble_eq_true rfl)
  have V4a : Arv Z h4 ob2 k_ob2 .byte (2 : Int32) [(.int (ob0_0.toInt8.toInt32)), (.int (0 : Int32))] (.int (0 : Int32)) := by have q := V4; first | (rw [own_nb] at q; exact q) | (rw [own_nb2] at q; exact q) | (simp only [own_nb2] at q; exact q)
  have N4 := Fr.snoc X4 N0 gz_ob2
  have f5 := (V_ob0.other W4 hne)
  obtain ⟨c6, Ar6, cq6, S6, Nn6, Hh6, Gg6⟩ := id f5
  have hin6 : ¬ ((1 : Int32) < 0 ∨ c6.slots.size ≤ ((1 : Int32)).toNatClampNeg) := inb_of S6 ⟨by decide, by decide⟩
  have hat6 : c6.slots[((1 : Int32)).toNatClampNeg]? = some (.int ob0_1) := Has.at Hh6 hin6 rfl
  have hc7 : ¬ ((255 : Int32) < ob0_1) := hx1
  obtain ⟨c8, Ar8, cq8, S8, Nn8, Hh8, Gg8⟩ := id V4a
  have hin8 : ¬ ((1 : Int32) < 0 ∨ c8.slots.size ≤ ((1 : Int32)).toNatClampNeg) := inb_of S8 ⟨by decide, by decide⟩
  obtain ⟨T9, h9, X9, e9, W9, st9⟩ := stB X4 hx hZ e4 Ar8 (j := (1 : Int32)) hin8 (g := (mkF m 31 #[.val (.ref ob0), .val (.int (1 : Int32)), .val (.ref ob2), .val (.int (1 : Int32)), .val (.int (2 : Int32)), .val (.int (1 : Int32)), .val (.int ob0_1)] [(.int (ob0_1.toInt8.toInt32)), (.int (1 : Int32)), (.ref ob2)])) rfl rfl (hb hby own_d5_31)
  have V9 := Arv.set Ar8 cq8 S8 Nn8 Hh8 Gg8 (fits_nar_byte _) W9 1 rfl (Nat.le_of_ble_eq_true rfl)
  have V9a : Arv Z h9 ob2 k_ob2 .byte (2 : Int32) [(.int (ob0_0.toInt8.toInt32)), (.int (ob0_1.toInt8.toInt32))] (.int (0 : Int32)) := by have q := V9; first | (rw [own_nb] at q; exact q) | (rw [own_nb2] at q; exact q) | (simp only [own_nb2] at q; exact q)
  have N9 := Fr.snoc X9 N4 gz_ob2
  have g10 : ∀ t, Steps p.tables e below (T9.setTop (mkF m 46 #[.val (.ref ob0), .val (.int (2 : Int32)), .val (.ref ob2), .val (.int (2 : Int32)), .val (.int (2 : Int32)), .val (.int (2 : Int32)), .val (.int ob0_1)] [(.int (2 : Int32))])) t → Steps p.tables e below (s₁.setTop (entryFrame m #[(.ref ob0), (.int (0 : Int32)), (.ref ob2), (.int (0 : Int32)), (.int (2 : Int32))] 7)) t := by
    intro t k
    refine g0 t ?_
    show Steps p.tables e below (s₁.setTop (mkF m 0 #[.val (.ref ob0), .val (.int (0 : Int32)), .val (.ref ob2), .val (.int (0 : Int32)), .val (.int (2 : Int32)), .unset, .unset] [])) _
    refine XS.iconst X0.here hx rfl (hb hby own_d5_0) ?_
    refine XS.istore X0.here hx rfl (hb hby own_d5_1) rfl (l' := #[.val (.ref ob0), .val (.int (0 : Int32)), .val (.ref ob2), .val (.int (0 : Int32)), .val (.int (2 : Int32)), .val (.int (0 : Int32)), .unset]) rfl ?_
    refine XS.iload X0.here hx rfl (hb hby own_d5_3) rfl ?_
    refine XS.iload X0.here hx rfl (hb hby own_d5_5) rfl ?_
    show Steps p.tables e below (s₁.setTop (mkF m 7 #[.val (.ref ob0), .val (.int (0 : Int32)), .val (.ref ob2), .val (.int (0 : Int32)), .val (.int (2 : Int32)), .val (.int (0 : Int32)), .unset] [(.int (2 : Int32)), (.int (0 : Int32))])) _
    refine XS.icmpNo X0.here hx rfl (hb hby own_d5_7) rfl (tlt (by decide : (0 : Int32) < (2 : Int32))).2.1 ?_
    refine XS.aloadN X0.here hx rfl (hb hby own_d5_10) rfl rfl ?_
    refine XS.iloadN X0.here hx rfl (hb hby own_d5_11) rfl ?_
    refine X0.caload hx (j := (0 : Int32)) (v := (.int ob0_0)) (by rw [e0]; exact Ar1.1) (State.isArrayOf_alike hZ.alike Ar1.2.1) Ar1.2.2 hin1 hat1 (g := (mkF m 12 #[.val (.ref ob0), .val (.int (0 : Int32)), .val (.ref ob2), .val (.int (0 : Int32)), .val (.int (2 : Int32)), .val (.int (0 : Int32)), .unset] [(.int (0 : Int32)), (.ref ob0)])) rfl rfl (hb hby own_d5_12) _ ?_
    show Steps p.tables e below (s₁.setTop (mkF m 13 #[.val (.ref ob0), .val (.int (0 : Int32)), .val (.ref ob2), .val (.int (0 : Int32)), .val (.int (2 : Int32)), .val (.int (0 : Int32)), .unset] [(.int ob0_0)])) _
    refine XS.istore X0.here hx rfl (hb hby own_d5_13) rfl (l' := #[.val (.ref ob0), .val (.int (0 : Int32)), .val (.ref ob2), .val (.int (0 : Int32)), .val (.int (2 : Int32)), .val (.int (0 : Int32)), .val (.int ob0_0)]) rfl ?_
    refine XS.iload X0.here hx rfl (hb hby own_d5_15) rfl ?_
    refine XS.sipush X0.here hx rfl (hb hby own_d5_17) ?_
    refine XS.icmpYes X0.here hx rfl (pc0 := 20) (pc' := 26) rfl (hb hby own_d5_20) rfl (flt hc2).2.2.2 (by decide) (by decide) ?_
    show Steps p.tables e below (s₁.setTop (mkF m 26 #[.val (.ref ob0), .val (.int (0 : Int32)), .val (.ref ob2), .val (.int (0 : Int32)), .val (.int (2 : Int32)), .val (.int (0 : Int32)), .val (.int ob0_0)] [])) _
    refine XS.aloadN X0.here hx rfl (hb hby own_d5_26) rfl rfl ?_
    refine XS.iloadN X0.here hx rfl (hb hby own_d5_27) rfl ?_
    refine XS.iload X0.here hx rfl (hb hby own_d5_28) rfl ?_
    show Steps p.tables e below (s₁.setTop (mkF m 30 #[.val (.ref ob0), .val (.int (0 : Int32)), .val (.ref ob2), .val (.int (0 : Int32)), .val (.int (2 : Int32)), .val (.int (0 : Int32)), .val (.int ob0_0)] [(.int ob0_0), (.int (0 : Int32)), (.ref ob2)])) _
    refine XS.i2b X0.here hx rfl (hb hby own_d5_30) rfl ?_
    show Steps p.tables e below (s₁.setTop (mkF m 31 #[.val (.ref ob0), .val (.int (0 : Int32)), .val (.ref ob2), .val (.int (0 : Int32)), .val (.int (2 : Int32)), .val (.int (0 : Int32)), .val (.int ob0_0)] [(.int (ob0_0.toInt8.toInt32)), (.int (0 : Int32)), (.ref ob2)])) _
    refine st4 _ ?_
    show Steps p.tables e below (T4.setTop (mkF m 32 #[.val (.ref ob0), .val (.int (0 : Int32)), .val (.ref ob2), .val (.int (0 : Int32)), .val (.int (2 : Int32)), .val (.int (0 : Int32)), .val (.int ob0_0)] [])) _
    refine XS.iinc X4.here hx rfl (hb hby own_d5_32) rfl (l' := #[.val (.ref ob0), .val (.int ((0 : Int32) + (1 : Int32))), .val (.ref ob2), .val (.int (0 : Int32)), .val (.int (2 : Int32)), .val (.int (0 : Int32)), .val (.int ob0_0)]) rfl ?_
    rw [show ((0 : Int32) + (1 : Int32)) = (1 : Int32) from by decide]
    show Steps p.tables e below (T4.setTop (mkF m 35 #[.val (.ref ob0), .val (.int (1 : Int32)), .val (.ref ob2), .val (.int (0 : Int32)), .val (.int (2 : Int32)), .val (.int (0 : Int32)), .val (.int ob0_0)] [])) _
    refine XS.iinc X4.here hx rfl (hb hby own_d5_35) rfl (l' := #[.val (.ref ob0), .val (.int (1 : Int32)), .val (.ref ob2), .val (.int ((0 : Int32) + (1 : Int32))), .val (.int (2 : Int32)), .val (.int (0 : Int32)), .val (.int ob0_0)]) rfl ?_
    rw [show ((0 : Int32) + (1 : Int32)) = (1 : Int32) from by decide]
    show Steps p.tables e below (T4.setTop (mkF m 38 #[.val (.ref ob0), .val (.int (1 : Int32)), .val (.ref ob2), .val (.int (1 : Int32)), .val (.int (2 : Int32)), .val (.int (0 : Int32)), .val (.int ob0_0)] [])) _
    refine XS.iinc X4.here hx rfl (hb hby own_d5_38) rfl (l' := #[.val (.ref ob0), .val (.int (1 : Int32)), .val (.ref ob2), .val (.int (1 : Int32)), .val (.int (2 : Int32)), .val (.int ((0 : Int32) + (1 : Int32))), .val (.int ob0_0)]) rfl ?_
    rw [show ((0 : Int32) + (1 : Int32)) = (1 : Int32) from by decide]
    show Steps p.tables e below (T4.setTop (mkF m 41 #[.val (.ref ob0), .val (.int (1 : Int32)), .val (.ref ob2), .val (.int (1 : Int32)), .val (.int (2 : Int32)), .val (.int (1 : Int32)), .val (.int ob0_0)] [])) _
    refine XS.goto X4.here hx rfl (pc0 := 41) (pc' := 3) rfl (hb hby own_d5_41) (by decide) (by decide) ?_
    refine XS.iload X4.here hx rfl (hb hby own_d5_3) rfl ?_
    refine XS.iload X4.here hx rfl (hb hby own_d5_5) rfl ?_
    refine XS.icmpNo X4.here hx rfl (hb hby own_d5_7) rfl (tlt (by decide : (1 : Int32) < (2 : Int32))).2.1 ?_
    show Steps p.tables e below (T4.setTop (mkF m 10 #[.val (.ref ob0), .val (.int (1 : Int32)), .val (.ref ob2), .val (.int (1 : Int32)), .val (.int (2 : Int32)), .val (.int (1 : Int32)), .val (.int ob0_0)] [])) _
    refine XS.aloadN X4.here hx rfl (hb hby own_d5_10) rfl rfl ?_
    refine XS.iloadN X4.here hx rfl (hb hby own_d5_11) rfl ?_
    refine X4.caload hx (j := (1 : Int32)) (v := (.int ob0_1)) (by rw [e4]; exact Ar6.1) (State.isArrayOf_alike hZ.alike Ar6.2.1) Ar6.2.2 hin6 hat6 (g := (mkF m 12 #[.val (.ref ob0), .val (.int (1 : Int32)), .val (.ref ob2), .val (.int (1 : Int32)), .val (.int (2 : Int32)), .val (.int (1 : Int32)), .val (.int ob0_0)] [(.int (1 : Int32)), (.ref ob0)])) rfl rfl (hb hby own_d5_12) _ ?_
    refine XS.istore X4.here hx rfl (hb hby own_d5_13) rfl (l' := #[.val (.ref ob0), .val (.int (1 : Int32)), .val (.ref ob2), .val (.int (1 : Int32)), .val (.int (2 : Int32)), .val (.int (1 : Int32)), .val (.int ob0_1)]) rfl ?_
    show Steps p.tables e below (T4.setTop (mkF m 15 #[.val (.ref ob0), .val (.int (1 : Int32)), .val (.ref ob2), .val (.int (1 : Int32)), .val (.int (2 : Int32)), .val (.int (1 : Int32)), .val (.int ob0_1)] [])) _
    refine XS.iload X4.here hx rfl (hb hby own_d5_15) rfl ?_
    refine XS.sipush X4.here hx rfl (hb hby own_d5_17) ?_
    refine XS.icmpYes X4.here hx rfl (pc0 := 20) (pc' := 26) rfl (hb hby own_d5_20) rfl (flt hc7).2.2.2 (by decide) (by decide) ?_
    refine XS.aloadN X4.here hx rfl (hb hby own_d5_26) rfl rfl ?_
    show Steps p.tables e below (T4.setTop (mkF m 27 #[.val (.ref ob0), .val (.int (1 : Int32)), .val (.ref ob2), .val (.int (1 : Int32)), .val (.int (2 : Int32)), .val (.int (1 : Int32)), .val (.int ob0_1)] [(.ref ob2)])) _
    refine XS.iloadN X4.here hx rfl (hb hby own_d5_27) rfl ?_
    refine XS.iload X4.here hx rfl (hb hby own_d5_28) rfl ?_
    show Steps p.tables e below (T4.setTop (mkF m 30 #[.val (.ref ob0), .val (.int (1 : Int32)), .val (.ref ob2), .val (.int (1 : Int32)), .val (.int (2 : Int32)), .val (.int (1 : Int32)), .val (.int ob0_1)] [(.int ob0_1), (.int (1 : Int32)), (.ref ob2)])) _
    refine XS.i2b X4.here hx rfl (hb hby own_d5_30) rfl ?_
    refine st9 _ ?_
    show Steps p.tables e below (T9.setTop (mkF m 32 #[.val (.ref ob0), .val (.int (1 : Int32)), .val (.ref ob2), .val (.int (1 : Int32)), .val (.int (2 : Int32)), .val (.int (1 : Int32)), .val (.int ob0_1)] [])) _
    refine XS.iinc X9.here hx rfl (hb hby own_d5_32) rfl (l' := #[.val (.ref ob0), .val (.int ((1 : Int32) + (1 : Int32))), .val (.ref ob2), .val (.int (1 : Int32)), .val (.int (2 : Int32)), .val (.int (1 : Int32)), .val (.int ob0_1)]) rfl ?_
    rw [show ((1 : Int32) + (1 : Int32)) = (2 : Int32) from by decide]
    show Steps p.tables e below (T9.setTop (mkF m 35 #[.val (.ref ob0), .val (.int (2 : Int32)), .val (.ref ob2), .val (.int (1 : Int32)), .val (.int (2 : Int32)), .val (.int (1 : Int32)), .val (.int ob0_1)] [])) _
    refine XS.iinc X9.here hx rfl (hb hby own_d5_35) rfl (l' := #[.val (.ref ob0), .val (.int (2 : Int32)), .val (.ref ob2), .val (.int ((1 : Int32) + (1 : Int32))), .val (.int (2 : Int32)), .val (.int (1 : Int32)), .val (.int ob0_1)]) rfl ?_
    rw [show ((1 : Int32) + (1 : Int32)) = (2 : Int32) from by decide]
    show Steps p.tables e below (T9.setTop (mkF m 38 #[.val (.ref ob0), .val (.int (2 : Int32)), .val (.ref ob2), .val (.int (2 : Int32)), .val (.int (2 : Int32)), .val (.int (1 : Int32)), .val (.int ob0_1)] [])) _
    refine XS.iinc X9.here hx rfl (hb hby own_d5_38) rfl (l' := #[.val (.ref ob0), .val (.int (2 : Int32)), .val (.ref ob2), .val (.int (2 : Int32)), .val (.int (2 : Int32)), .val (.int ((1 : Int32) + (1 : Int32))), .val (.int ob0_1)]) rfl ?_
    rw [show ((1 : Int32) + (1 : Int32)) = (2 : Int32) from by decide]
    refine XS.goto X9.here hx rfl (pc0 := 41) (pc' := 3) rfl (hb hby own_d5_41) (by decide) (by decide) ?_
    show Steps p.tables e below (T9.setTop (mkF m 3 #[.val (.ref ob0), .val (.int (2 : Int32)), .val (.ref ob2), .val (.int (2 : Int32)), .val (.int (2 : Int32)), .val (.int (2 : Int32)), .val (.int ob0_1)] [])) _
    refine XS.iload X9.here hx rfl (hb hby own_d5_3) rfl ?_
    refine XS.iload X9.here hx rfl (hb hby own_d5_5) rfl ?_
    refine XS.icmpYes X9.here hx rfl (pc0 := 7) (pc' := 44) rfl (hb hby own_d5_7) rfl (flt (by decide : ¬ ((2 : Int32) < (2 : Int32)))).2.1 (by decide) (by decide) ?_
    refine XS.iload X9.here hx rfl (hb hby own_d5_44) rfl ?_
    exact k
  obtain ⟨fs, hrt, hrun, hended, hW, hsame⟩ := X9.leave (v := some (.int (2 : Int32))) (fun h => by rw [Bd.returns] at h; cases h)
  refine ⟨_, _, g10 _ ?_, hrun, hended, _, _, rfl, ?_, ⟨_, rfl⟩, hW, hsame.mono (by decide) (by decide)⟩
  · show Steps p.tables e below (T9.setTop (mkF m 46 #[.val (.ref ob0), .val (.int (2 : Int32)), .val (.ref ob2), .val (.int (2 : Int32)), .val (.int (2 : Int32)), .val (.int (2 : Int32)), .val (.int ob0_1)] [(.int (2 : Int32))])) _
    exact retI X9 hx Bd.returns (hb hby own_d5_46) hrt
  · show own_Q_rmA3 Z ob0 k_ob0 ob0_0 ob0_1 ob2 k_ob2 cs wf h0 n0 _ T9.heap _
    rw [e9]
    exact ⟨rfl, N9, (Keep.wr (Keep.wr (Keep.refl h0 [ob2]) W4 (Or.inl (List.mem_of_getElem? (i := 0) rfl))) W9 (Or.inl (List.mem_of_getElem? (i := 0) rfl))), V9a⟩
theorem own_pd0 : parseMethodDescriptor "([CI[BII)I" = some ⟨[(.array .char), .int, (.array .byte), .int, .int], some .int⟩ := by decide +kernel
theorem own_d4_12 : decode jdk_52_method_16_code 12 = .ok (.istore 4, 2) := by decide +kernel
theorem own_d4_14 : decode jdk_52_method_16_code 14 = .ok (.iload 4, 2) := by decide +kernel
theorem own_d4_16 : decode jdk_52_method_16_code 16 = .ok (.iload_n 2, 1) := by decide +kernel
theorem own_d4_17 : decode jdk_52_method_16_code 17 = .ok (.if_icmp .eq 40, 3) := by decide +kernel
theorem own_d4_57 : decode jdk_52_method_16_code 57 = .ok (.aload_n 3, 1) := by decide +kernel
theorem own_d4_58 : decode jdk_52_method_16_code 58 = .ok (.areturn, 1) := by decide +kernel
def own_Q_rmA2 (Z : State) (ob0 : Addr) (k_ob0 : ClassId) (ob0_0 : Int32) (ob0_1 : Int32)  (cs : Int32) (wf : Value) (h0 : Heap) (n0 : Nat) (v : Option Value) (h : Heap) (L : List Loc) : Prop := ∃ rb : Addr, ∃ rk : ClassId, v = some (.ref rb) ∧ Fr n0 L ∧ Keep h0 h [] ∧ h0.size ≤ rb ∧ Arv Z h rb rk .byte (2 : Int32) [(.int (ob0_0.toInt8.toInt32)), (.int (ob0_1.toInt8.toInt32))] (.int (0 : Int32))
set_option maxRecDepth 65536 in
set_option maxHeartbeats 40000000 in
theorem rmA2 (l : Launch) (Z : State) (a0 : Array Value) (hw : ∀ d ∈ tables_1, d.before a0 Z = true) (ws : List Jvm.Cond) (ob0 : Addr) (k_ob0 : ClassId) (ob0_0 : Int32) (ob0_1 : Int32)  (cs : Int32) (wf : Value) (h0 : Heap) (n0 : Nat) (O0 : Old Z n0 h0) (G : own_Gl Z cs wf) (V_ob0 : Arv Z h0 ob0 k_ob0 .char (2 : Int32) [(.int ob0_0), (.int ob0_1)] (.int (0 : Int32))) (hx0 : ¬ ((255 : Int32) < ob0_0)) (hx1 : ¬ ((255 : Int32) < ob0_1)) :
    MetFree l own_y2 (head1 (Jvm.Cond.code own_y2 jdk_52_method_16_code 6 (some (.array .byte)) :: ws) ({ frames := 1, cells := 1, slots := 2, locals := 18 } : Room)) (fun a U => a = #[(.ref ob0), (.int (0 : Int32)), (.int (2 : Int32))] ∧ Z.Warmed39 U.vm ∧ U.heap = h0) (fun _ _ _ _ _ => True) (fun _ U o U' => ∃ v L, o = .returned v ∧ own_Q_rmA2 Z ob0 k_ob0 ob0_0 ob0_1 cs wf h0 n0 v U'.heap L ∧ FrameEnd U o U' L ({ frames := 1, cells := 1, slots := 2, locals := 18 } : Room).cells ({ frames := 1, cells := 1, slots := 2, locals := 18 } : Room).slots) := by
  refine MetFree.of_bodySF (plainFor_of_name own_pn2) hisR ?_
  intro p e s m args below meth c s₁ Bd hml0 hP hK
  obtain ⟨rfl, hZ, hh⟩ := hP
  have hx := Bd.exec
  have hby := Bd.bytes
  have hml : c.maxLocals = 6 := hml0
  have hown : s.vm.findClass "java/lang/StringUTF16" = some m.cls := findClass_of_methodNamed Bd.named
  have hnm := (name_of_methodNamed Bd.named Bd.method).1
  have X0 : Stand p l e ({ frames := 1, cells := 1, slots := 2, locals := 18 } : Room) s m #[(.ref ob0), (.int (0 : Int32)), (.int (2 : Int32))] below meth c s₁ [] 0 0 := Stand.of_body Bd
  have e0 : s₁.heap = h0 := by rw [← hh, Bd.state]; rfl
  have N0 := Fr.nil n0
  have Z0 : n0 ≤ h0.size := O0.1 ▸ O0.2.1
  have g0 : ∀ t, Steps p.tables e below (s₁.setTop (mkF m 0 #[.val (.ref ob0), .val (.int (0 : Int32)), .val (.int (2 : Int32)), .unset, .unset, .unset] [])) t → Steps p.tables e below (s₁.setTop (entryFrame m #[(.ref ob0), (.int (0 : Int32)), (.int (2 : Int32))] 6)) t := fun t k => castTop (own_ef4 m (ob0) ((0 : Int32)) ((2 : Int32))) k
  have G0 := G
  obtain ⟨S_CS, hcs, S_WF, hwf⟩ := G
  obtain ⟨T1, h1, k1, X1, e1, E1, A1, st1⟩ := newP X0 hx hZ (own_w hw 19 rfl) e0 (g := (mkF m 1 #[.val (.ref ob0), .val (.int (0 : Int32)), .val (.int (2 : Int32)), .unset, .unset, .unset] [(.int (2 : Int32))])) rfl (hb hby own_d4_1) rfl (by decide) (cap := 2) (by decide) (by decide) (by decide) (by decide)
  obtain ⟨b1, q_b1⟩ : ∃ z, z = h0.size := ⟨_, rfl⟩
  rw [← q_b1] at A1 st1
  have sz_b1 : h0.size ≤ b1 := Nat.le_of_eq q_b1.symm
  have gz_b1 : n0 ≤ b1 := Nat.le_trans Z0 sz_b1
  have ne_ob0_b1 : ob0 ≠ b1 := Nat.ne_of_lt (Nat.lt_of_lt_of_le V_ob0.lt (Nat.le_of_eq q_b1.symm))
  have V1 : Arv Z h1 b1 k1 .byte (2 : Int32) [(.int (0 : Int32)), (.int (0 : Int32))] (.int (0 : Int32)) := (Arv.new A1 (by decide)).pad (pad_rep [] (.int (0 : Int32)) 2)
  have f2 := (V_ob0.ext E1)
  have o3 : Old Z n0 h1 := (Old.ext O0 E1)
  obtain ⟨_, _, ⟨T4, L4, k4, n4⟩, -, X4, ⟨Lc4, hQ4, l4, y4, z4⟩, st4⟩ := Jvm.LawKit.callS X1 hx (y := own_y3) hown (mvT hZ (own_w hw 20 rfl)) (mvT hZ (own_w hw 21 rfl)) (mvT hZ (own_w hw 17 rfl)) (mvT hZ (own_w hw 22 rfl)) (by decide) (backOf (W := 0) (rmA3 l Z a0 hw [] ob0 k_ob0 (ob0_0) (ob0_1) b1 k1  cs wf h1 n0 o3 G0 f2 V1 gz_b1 hx0 hx1 ne_ob0_b1) hZ (own_w hw 22 rfl) (own_w hw 17 rfl) (by decide) (by decide)) (g := (mkF m 9 #[.val (.ref ob0), .val (.int (0 : Int32)), .val (.int (2 : Int32)), .val (.ref b1), .unset, .unset] [(.int (2 : Int32)), (.int (0 : Int32)), (.ref b1), (.int (0 : Int32)), (.ref ob0)])) rfl (by rw [hml]; rfl) (argsL := [(.ref ob0), (.int (0 : Int32)), (.ref b1), (.int (0 : Int32)), (.int (2 : Int32))]) (rest := []) (lenOf own_pd0 rfl) rfl (by show 2 * 0 + _ ≤ _; exact Nat.le_of_eq rfl) (hb hby own_d4_9) (fun _ _ => ⟨rfl, e1, (by decide : 1 + 0 ≤ _), (by decide : 2 + 0 ≤ _)⟩)
  dsimp only [Pt.U, Pt.locs, Pt.cells, Pt.slots] at X4 l4 y4 z4 st4 hQ4
  subst l4 y4 z4
  obtain ⟨rfl, Nq4, K4, Va4⟩ := hQ4
  have N4 := Fr.app N0 Nq4
  have g5 : ∀ t, Steps p.tables e below (T4.setTop (mkF m 58 #[.val (.ref ob0), .val (.int (0 : Int32)), .val (.int (2 : Int32)), .val (.ref b1), .val (.int (2 : Int32)), .unset] [(.ref b1)])) t → Steps p.tables e below (s₁.setTop (entryFrame m #[(.ref ob0), (.int (0 : Int32)), (.int (2 : Int32))] 6)) t := by
    intro t k
    refine g0 t ?_
    show Steps p.tables e below (s₁.setTop (mkF m 0 #[.val (.ref ob0), .val (.int (0 : Int32)), .val (.int (2 : Int32)), .unset, .unset, .unset] [])) _
    refine XS.iloadN X0.here hx rfl (hb hby own_d4_0) rfl ?_
    refine st1 _ ?_
    refine XS.astoreN X1.here hx rfl (hb hby own_d4_3) rfl rfl (l' := #[.val (.ref ob0), .val (.int (0 : Int32)), .val (.int (2 : Int32)), .val (.ref b1), .unset, .unset]) rfl ?_
    refine XS.aloadN X1.here hx rfl (hb hby own_d4_4) rfl rfl ?_
    show Steps p.tables e below (T1.setTop (mkF m 5 #[.val (.ref ob0), .val (.int (0 : Int32)), .val (.int (2 : Int32)), .val (.ref b1), .unset, .unset] [(.ref ob0)])) _
    refine XS.iloadN X1.here hx rfl (hb hby own_d4_5) rfl ?_
    refine XS.aloadN X1.here hx rfl (hb hby own_d4_6) rfl rfl ?_
    refine XS.iconst X1.here hx rfl (hb hby own_d4_7) ?_
    refine XS.iloadN X1.here hx rfl (hb hby own_d4_8) rfl ?_
    show Steps p.tables e below (T1.setTop (mkF m 9 #[.val (.ref ob0), .val (.int (0 : Int32)), .val (.int (2 : Int32)), .val (.ref b1), .unset, .unset] [(.int (2 : Int32)), (.int (0 : Int32)), (.ref b1), (.int (0 : Int32)), (.ref ob0)])) _
    refine st4 _ ?_
    refine XS.istore X4.here hx rfl (hb hby own_d4_12) rfl (l' := #[.val (.ref ob0), .val (.int (0 : Int32)), .val (.int (2 : Int32)), .val (.ref b1), .val (.int (2 : Int32)), .unset]) rfl ?_
    refine XS.iload X4.here hx rfl (hb hby own_d4_14) rfl ?_
    refine XS.iloadN X4.here hx rfl (hb hby own_d4_16) rfl ?_
    show Steps p.tables e below (T4.setTop (mkF m 17 #[.val (.ref ob0), .val (.int (0 : Int32)), .val (.int (2 : Int32)), .val (.ref b1), .val (.int (2 : Int32)), .unset] [(.int (2 : Int32)), (.int (2 : Int32))])) _
    refine XS.icmpYes X4.here hx rfl (pc0 := 17) (pc' := 57) rfl (hb hby own_d4_17) rfl (teq (by decide : (2 : Int32) = (2 : Int32))).1 (by decide) (by decide) ?_
    refine XS.aloadN X4.here hx rfl (hb hby own_d4_57) rfl rfl ?_
    exact k
  obtain ⟨fs, hrt, hrun, hended, hW, hsame⟩ := X4.leave (v := some (.ref b1)) (fun h => by rw [Bd.returns] at h; cases h)
  refine ⟨_, _, g5 _ ?_, hrun, hended, _, _, rfl, ?_, ⟨_, rfl⟩, hW, hsame.mono (by decide) (by decide)⟩
  · show Steps p.tables e below (T4.setTop (mkF m 58 #[.val (.ref ob0), .val (.int (0 : Int32)), .val (.int (2 : Int32)), .val (.ref b1), .val (.int (2 : Int32)), .unset] [(.ref b1)])) _
    jvm_step X4.here [X4.here.top, hx, (hb hby own_d4_58), X4.method', Bd.returns, Value.isRef, FieldType.isReference]
    first | (intro acts; rw [hrt _ acts rfl rfl rfl]) | rw [hrt _ _ rfl rfl rfl]
    exact Steps.refl _
  · show own_Q_rmA2 Z ob0 k_ob0 ob0_0 ob0_1 cs wf h0 n0 _ T4.heap _
    exact ⟨b1, _, rfl, N4, (Keep.trans (Keep.ext (Keep.refl h0 []) E1) K4 (allS (Or.inr sz_b1) all0)), sz_b1, Va4⟩
theorem own_pd1 : parseMethodDescriptor "([CII)[B" = some ⟨[(.array .char), .int, .int], some (.array .byte)⟩ := by decide +kernel
theorem own_d2_39 : decode jdk_42_method_149_code 39 = .ok (.astore 5, 2) := by decide +kernel
theorem own_d2_41 : decode jdk_42_method_149_code 41 = .ok (.aload_n 0, 1) := by decide +kernel
theorem own_d2_42 : decode jdk_42_method_149_code 42 = .ok (.aload 5, 2) := by decide +kernel
theorem own_d2_44 : decode jdk_42_method_149_code 44 = .ok (.iload_n 3, 1) := by decide +kernel
theorem own_d2_45 : decode jdk_42_method_149_code 45 = .ok (.invokestatic 47, 3) := by decide +kernel
abbrev own_y4 : MethodName := ⟨"java/lang/StringUTF16", "coderFromArrayLen", "([BI)B"⟩
theorem own_ef6 (m : MethodId) (x0 : Addr) (x1 : Int32) : entryFrame m #[(.ref x0), (.int x1)] 2 = mkF m 0 #[.val (.ref x0), .val (.int x1)] [] := by first | (simp [entryFrame, mkF, argsToLocals, Value.category]; done) | rfl
theorem own_d6_0 : decode jdk_52_method_15_code 0 = .ok (.iload_n 1, 1) := by decide +kernel
theorem own_d6_1 : decode jdk_52_method_15_code 1 = .ok (.aload_n 0, 1) := by decide +kernel
theorem own_d6_2 : decode jdk_52_method_15_code 2 = .ok (.arraylength, 1) := by decide +kernel
theorem own_d6_3 : decode jdk_52_method_15_code 3 = .ok (.isub, 1) := by decide +kernel
theorem own_d6_4 : decode jdk_52_method_15_code 4 = .ok (.bipush 31, 2) := by decide +kernel
theorem own_d6_6 : decode jdk_52_method_15_code 6 = .ok (.iushr, 1) := by decide +kernel
theorem own_d6_7 : decode jdk_52_method_15_code 7 = .ok (.i2b, 1) := by decide +kernel
theorem own_d6_8 : decode jdk_52_method_15_code 8 = .ok (.ireturn, 1) := by decide +kernel
def own_Q_rmA4 (Z : State) (ob0 : Addr) (k_ob0 : ClassId) (ob0_0 : Int32) (ob0_1 : Int32)  (cs : Int32) (wf : Value) (h0 : Heap) (n0 : Nat) (v : Option Value) (h : Heap) (L : List Loc) : Prop := v = some (.int (0 : Int32)) ∧ Fr n0 L ∧ h = h0
set_option maxRecDepth 65536 in
set_option maxHeartbeats 40000000 in
theorem rmA4 (l : Launch) (Z : State) (a0 : Array Value) (hw : ∀ d ∈ tables_1, d.before a0 Z = true) (ws : List Jvm.Cond) (ob0 : Addr) (k_ob0 : ClassId) (ob0_0 : Int32) (ob0_1 : Int32)  (cs : Int32) (wf : Value) (h0 : Heap) (n0 : Nat) (O0 : Old Z n0 h0) (G : own_Gl Z cs wf) (V_ob0 : Arv Z h0 ob0 k_ob0 .byte (2 : Int32) [(.int ob0_0), (.int ob0_1)] (.int (0 : Int32))) :
    MetFree l own_y4 (head1 (Jvm.Cond.code own_y4 jdk_52_method_15_code 2 (some .byte) :: ws) ({ frames := 0, cells := 0, slots := 0, locals := 0 } : Room)) (fun a U => a = #[(.ref ob0), (.int (2 : Int32))] ∧ Z.Warmed39 U.vm ∧ U.heap = h0) (fun _ _ _ _ _ => True) (fun _ U o U' => ∃ v L, o = .returned v ∧ own_Q_rmA4 Z ob0 k_ob0 ob0_0 ob0_1 cs wf h0 n0 v U'.heap L ∧ FrameEnd U o U' L ({ frames := 0, cells := 0, slots := 0, locals := 0 } : Room).cells ({ frames := 0, cells := 0, slots := 0, locals := 0 } : Room).slots) := by
  refine MetFree.of_bodySF (plainFor_of_name own_pn2) hisR ?_
  intro p e s m args below meth c s₁ Bd hml0 hP hK
  obtain ⟨rfl, hZ, hh⟩ := hP
  have hx := Bd.exec
  have hby := Bd.bytes
  have hml : c.maxLocals = 2 := hml0
  have hown : s.vm.findClass "java/lang/StringUTF16" = some m.cls := findClass_of_methodNamed Bd.named
  have hnm := (name_of_methodNamed Bd.named Bd.method).1
  have X0 : Stand p l e ({ frames := 0, cells := 0, slots := 0, locals := 0 } : Room) s m #[(.ref ob0), (.int (2 : Int32))] below meth c s₁ [] 0 0 := Stand.of_body Bd
  have e0 : s₁.heap = h0 := by rw [← hh, Bd.state]; rfl
  have N0 := Fr.nil n0
  have Z0 : n0 ≤ h0.size := O0.1 ▸ O0.2.1
  have g0 : ∀ t, Steps p.tables e below (s₁.setTop (mkF m 0 #[.val (.ref ob0), .val (.int (2 : Int32))] [])) t → Steps p.tables e below (s₁.setTop (entryFrame m #[(.ref ob0), (.int (2 : Int32))] 2)) t := fun t k => castTop (own_ef6 m (ob0) ((2 : Int32))) k
  have G0 := G
  obtain ⟨S_CS, hcs, S_WF, hwf⟩ := G
  obtain ⟨c1, Ar1, cq1, S1, Nn1, Hh1, Gg1⟩ := id V_ob0
  have g2 : ∀ t, Steps p.tables e below (s₁.setTop (mkF m 8 #[.val (.ref ob0), .val (.int (2 : Int32))] [(.int (0 : Int32))])) t → Steps p.tables e below (s₁.setTop (entryFrame m #[(.ref ob0), (.int (2 : Int32))] 2)) t := by
    intro t k
    refine g0 t ?_
    show Steps p.tables e below (s₁.setTop (mkF m 0 #[.val (.ref ob0), .val (.int (2 : Int32))] [])) _
    refine XS.iloadN X0.here hx rfl (hb hby own_d6_0) rfl ?_
    refine XS.aloadN X0.here hx rfl (hb hby own_d6_1) rfl rfl ?_
    show Steps p.tables e below (s₁.setTop (mkF m 2 #[.val (.ref ob0), .val (.int (2 : Int32))] [(.ref ob0), (.int (2 : Int32))])) _
    refine X0.arraylength hx (by rw [e0]; exact Ar1.1) (State.isArrayOf_alike hZ.alike Ar1.2.1) (g := (mkF m 2 #[.val (.ref ob0), .val (.int (2 : Int32))] [(.ref ob0), (.int (2 : Int32))])) rfl rfl (hb hby own_d6_2) _ ?_
    rw [len_of S1 Nn1]
    show Steps p.tables e below (s₁.setTop (mkF m 3 #[.val (.ref ob0), .val (.int (2 : Int32))] [(.int (2 : Int32)), (.int (2 : Int32))])) _
    refine XS.isub X0.here hx rfl (hb hby own_d6_3) rfl ?_
    rw [show ((2 : Int32) - (2 : Int32)) = (0 : Int32) from by decide]
    show Steps p.tables e below (s₁.setTop (mkF m 4 #[.val (.ref ob0), .val (.int (2 : Int32))] [(.int (0 : Int32))])) _
    refine XS.bipush X0.here hx rfl (hb hby own_d6_4) ?_
    show Steps p.tables e below (s₁.setTop (mkF m 6 #[.val (.ref ob0), .val (.int (2 : Int32))] [(.int (31 : Int32)), (.int (0 : Int32))])) _
    refine XS.iushr X0.here hx rfl (hb hby own_d6_6) rfl ?_
    rw [show (((0 : Int32).toUInt32 >>> ((31 : Int32) &&& 31).toUInt32).toInt32) = (0 : Int32) from by decide]
    show Steps p.tables e below (s₁.setTop (mkF m 7 #[.val (.ref ob0), .val (.int (2 : Int32))] [(.int (0 : Int32))])) _
    refine XS.i2b X0.here hx rfl (hb hby own_d6_7) rfl ?_
    rw [show ((0 : Int32).toInt8.toInt32) = (0 : Int32) from by decide]
    exact k
  obtain ⟨fs, hrt, hrun, hended, hW, hsame⟩ := X0.leave (v := some (.int (0 : Int32))) (fun h => by rw [Bd.returns] at h; cases h)
  refine ⟨_, _, g2 _ ?_, hrun, hended, _, _, rfl, ?_, ⟨_, rfl⟩, hW, hsame.mono (by decide) (by decide)⟩
  · show Steps p.tables e below (s₁.setTop (mkF m 8 #[.val (.ref ob0), .val (.int (2 : Int32))] [(.int (0 : Int32))])) _
    exact retN X0 hx (t := .byte) Bd.returns (by simp) (hb hby own_d6_8) hrt
  · show own_Q_rmA4 Z ob0 k_ob0 ob0_0 ob0_1 cs wf h0 n0 _ s₁.heap _
    rw [e0]
    exact ⟨rfl, N0, rfl⟩
theorem own_pd2 : parseMethodDescriptor "([BI)B" = some ⟨[(.array .byte), .int], some .byte⟩ := by decide +kernel
theorem own_d2_48 : decode jdk_42_method_149_code 48 = .ok (.putfield 15, 3) := by decide +kernel
theorem own_d2_51 : decode jdk_42_method_149_code 51 = .ok (.aload_n 0, 1) := by decide +kernel
theorem own_d2_52 : decode jdk_42_method_149_code 52 = .ok (.aload 5, 2) := by decide +kernel
theorem own_d2_54 : decode jdk_42_method_149_code 54 = .ok (.putfield 9, 3) := by decide +kernel
theorem own_la0 {Z : State} {a0 : Array Value} (hw : ∀ d ∈ tables_1, d.before a0 Z = true) : Laid Z a0 "java/lang/String" "java/lang/String" "value" "[B" := Or.inr (own_w hw 29 rfl)
theorem own_la1 {Z : State} {a0 : Array Value} (hw : ∀ d ∈ tables_1, d.before a0 Z = true) : Laid Z a0 "java/lang/String" "java/lang/String" "coder" "B" := Or.inr (own_w hw 27 rfl)
theorem own_ty0 : parseFieldDescriptor "[B" = some (.array .byte) := by decide
theorem own_ty1 : parseFieldDescriptor "B" = some .byte := by decide
theorem own_d2_57 : decode jdk_42_method_149_code 57 = .ok (.return_, 1) := by decide +kernel
def own_Q_rmA1 (Z : State) (ob0 : Addr) (ob1 : Addr) (k_ob1 : ClassId) (ob1_0 : Int32) (ob1_1 : Int32)  (cs : Int32) (wf : Value) (h0 : Heap) (n0 : Nat) (v : Option Value) (h : Heap) (L : List Loc) : Prop := v = none ∧ Fr n0 L ∧ Keep h0 h [ob0] ∧ ∃ rb : Addr, ∃ rk : ClassId, h0.size ≤ rb ∧ Exa Z h ob0 "java/lang/String" ∧ Fld Z h ob0 "java/lang/String" "coder" "B" (.int (0 : Int32)) ∧ Fld Z h ob0 "java/lang/String" "value" "[B" (.ref rb) ∧ ∃ sl : List Value, Arv Z h rb rk .byte (2 : Int32) sl (.int (0 : Int32))
set_option maxRecDepth 65536 in
set_option maxHeartbeats 40000000 in
theorem rmA1 (l : Launch) (Z : State) (a0 : Array Value) (hw : ∀ d ∈ tables_1, d.before a0 Z = true) (ws : List Jvm.Cond) (ob0 : Addr) (ob1 : Addr) (k_ob1 : ClassId) (ob1_0 : Int32) (ob1_1 : Int32)  (cs : Int32) (wf : Value) (h0 : Heap) (n0 : Nat) (O0 : Old Z n0 h0) (G : own_Gl Z cs wf) (E_ob0 : Exa Z h0 ob0 "java/lang/String") (F_ob0_coder : Fld Z h0 ob0 "java/lang/String" "coder" "B" (.int (0 : Int32))) (F_ob0_value : Fld Z h0 ob0 "java/lang/String" "value" "[B" .null) (V_ob1 : Arv Z h0 ob1 k_ob1 .char (2 : Int32) [(.int ob1_0), (.int ob1_1)] (.int (0 : Int32))) (gz_ob0 : n0 ≤ ob0) (hx0 : ¬ ((255 : Int32) < ob1_0)) (hx1 : ¬ ((255 : Int32) < ob1_1)) :
    MetFree l own_y1 (head1 (Jvm.Cond.code own_y1 jdk_42_method_149_code 6 none :: ws) ({ frames := 2, cells := 1, slots := 2, locals := 35 } : Room)) (fun a U => a = #[(.ref ob0), (.ref ob1), (.int (0 : Int32)), (.int (2 : Int32)), .null] ∧ Z.Warmed39 U.vm ∧ U.heap = h0) (fun _ _ _ _ _ => True) (fun _ U o U' => ∃ v L, o = .returned v ∧ own_Q_rmA1 Z ob0 ob1 k_ob1 ob1_0 ob1_1 cs wf h0 n0 v U'.heap L ∧ FrameEnd U o U' L ({ frames := 2, cells := 1, slots := 2, locals := 35 } : Room).cells ({ frames := 2, cells := 1, slots := 2, locals := 35 } : Room).slots) := by
  refine MetFree.of_bodySF (plainFor_of_name own_pn1) hisR ?_
  intro p e s m args below meth c s₁ Bd hml0 hP hK
  obtain ⟨rfl, hZ, hh⟩ := hP
  have hx := Bd.exec
  have hby := Bd.bytes
  have hml : c.maxLocals = 6 := hml0
  have hown : s.vm.findClass "java/lang/String" = some m.cls := findClass_of_methodNamed Bd.named
  have hnm := (name_of_methodNamed Bd.named Bd.method).1
  have X0 : Stand p l e ({ frames := 2, cells := 1, slots := 2, locals := 35 } : Room) s m #[(.ref ob0), (.ref ob1), (.int (0 : Int32)), (.int (2 : Int32)), .null] below meth c s₁ [] 0 0 := Stand.of_body Bd
  have e0 : s₁.heap = h0 := by rw [← hh, Bd.state]; rfl
  have N0 := Fr.nil n0
  have Z0 : n0 ≤ h0.size := O0.1 ▸ O0.2.1
  have g0 : ∀ t, Steps p.tables e below (s₁.setTop (mkF m 0 #[.val (.ref ob0), .val (.ref ob1), .val (.int (0 : Int32)), .val (.int (2 : Int32)), .val .null, .unset] [])) t → Steps p.tables e below (s₁.setTop (entryFrame m #[(.ref ob0), (.ref ob1), (.int (0 : Int32)), (.int (2 : Int32)), .null] 6)) t := fun t k => castTop (own_ef3 m (ob0) (ob1) ((0 : Int32)) ((2 : Int32))) k
  have G0 := G
  obtain ⟨S_CS, hcs, S_WF, hwf⟩ := G
  obtain ⟨T1, X1, e1, st1⟩ := initO X0 hx hZ hown (own_w hw 11 rfl) (own_w hw 12 rfl) (own_w hw 13 rfl) e0 (g := (mkF m 1 #[.val (.ref ob0), .val (.ref ob1), .val (.int (0 : Int32)), .val (.int (2 : Int32)), .val .null, .unset] [(.ref ob0)])) rfl (by rw [hml]; rfl) rfl (hb hby own_d2_1) (by decide) (W := 0) (by show 2 * 0 + _ ≤ _; exact Nat.le_of_eq rfl) (by decide)
  obtain ⟨T2, X2, e2, st2⟩ := getS2 X1 hx hZ hown (host := "") (Or.inl (own_w hw 14 rfl)) Via.refl e1 (S_CS.ext O0.2) (g := (mkF m 27 #[.val (.ref ob0), .val (.ref ob1), .val (.int (0 : Int32)), .val (.int (2 : Int32)), .val .null, .unset] [])) rfl (hb hby own_d2_27)
  have hc3 : ¬ (cs = (0 : Int32)) := hcs
  obtain ⟨_, _, ⟨T4, L4, k4, n4⟩, -, X4, ⟨Lc4, hQ4, l4, y4, z4⟩, st4⟩ := Jvm.LawKit.callS X2 hx (y := own_y2) hown (mvT hZ (own_w hw 15 rfl)) (mvT hZ (own_w hw 16 rfl)) (mvT hZ (own_w hw 17 rfl)) (mvT hZ (own_w hw 18 rfl)) (by decide) (backOf (W := 0) (rmA2 l Z a0 hw [] ob1 k_ob1 (ob1_0) (ob1_1)  cs wf h0 n0 O0 G0 V_ob1  hx0 hx1) hZ (own_w hw 18 rfl) (own_w hw 17 rfl) (by decide) (by decide)) (g := (mkF m 36 #[.val (.ref ob0), .val (.ref ob1), .val (.int (0 : Int32)), .val (.int (2 : Int32)), .val .null, .unset] [(.int (2 : Int32)), (.int (0 : Int32)), (.ref ob1)])) rfl (by rw [hml]; rfl) (argsL := [(.ref ob1), (.int (0 : Int32)), (.int (2 : Int32))]) (rest := []) (lenOf own_pd1 rfl) rfl (by show 2 * 0 + _ ≤ _; exact Nat.le_of_eq rfl) (hb hby own_d2_36) (fun _ _ => ⟨rfl, e2, (by decide : 0 + 1 ≤ _), (by decide : 0 + 2 ≤ _)⟩)
  dsimp only [Pt.U, Pt.locs, Pt.cells, Pt.slots] at X4 l4 y4 z4 st4 hQ4
  subst l4 y4 z4
  obtain ⟨rb4, rk4, rfl, Nq4, K4, hb4, Va4⟩ := hQ4
  have N4 := Fr.app N0 Nq4
  have sz_rb4 : h0.size ≤ rb4 := hb4
  have gz_rb4 : n0 ≤ rb4 := Nat.le_trans Z0 sz_rb4
  have ne_ob0_rb4 : ob0 ≠ rb4 := Nat.ne_of_lt (Nat.lt_of_lt_of_le E_ob0.lt hb4)
  have ne_ob1_rb4 : ob1 ≠ rb4 := Nat.ne_of_lt (Nat.lt_of_lt_of_le V_ob1.lt hb4)
  have o5 : Old Z n0 T4.heap := (Old.keep O0 K4 all0)
  obtain ⟨_, _, ⟨T6, L6, k6, n6⟩, -, X6, ⟨Lc6, hQ6, l6, y6, z6⟩, st6⟩ := Jvm.LawKit.callS X4 hx (y := own_y4) hown (mvT hZ (own_w hw 23 rfl)) (mvT hZ (own_w hw 24 rfl)) (mvT hZ (own_w hw 17 rfl)) (mvT hZ (own_w hw 25 rfl)) (by decide) (backOf (W := 1) (rmA4 l Z a0 hw [] rb4 rk4 ((ob1_0.toInt8.toInt32)) ((ob1_1.toInt8.toInt32))  cs wf T4.heap n0 o5 G0 Va4  ) hZ (own_w hw 25 rfl) (own_w hw 17 rfl) (by decide) (by decide)) (g := (mkF m 45 #[.val (.ref ob0), .val (.ref ob1), .val (.int (0 : Int32)), .val (.int (2 : Int32)), .val .null, .val (.ref rb4)] [(.int (2 : Int32)), (.ref rb4), (.ref ob0)])) rfl (by rw [hml]; rfl) (argsL := [(.ref rb4), (.int (2 : Int32))]) (rest := [(.ref ob0)]) (lenOf own_pd2 rfl) rfl (by show 2 * 0 + _ ≤ _; exact Nat.le_of_eq rfl) (hb hby own_d2_45) (fun _ _ => ⟨rfl, rfl, (by decide : 1 + 0 ≤ _), (by decide : 2 + 0 ≤ _)⟩)
  dsimp only [Pt.U, Pt.locs, Pt.cells, Pt.slots] at X6 l6 y6 z6 st6 hQ6
  subst l6 y6 z6
  obtain ⟨rfl, Nq6, e6⟩ := hQ6
  have N6 := Fr.app N4 Nq6
  have f7 := (E_ob0.keep K4)
  have f8 := (F_ob0_coder.keep K4 nin0)
  obtain ⟨T9, h9, X9, e9, W9, st9⟩ := putFN X6 hx hZ hown (own_w hw 26 rfl) Via.refl e6 f8 f7 (Or.inr ⟨(own_w hw 27 rfl), rfl, hnm⟩) (own_w hw 2 rfl) (ty := .byte) (v' := (.int (0 : Int32))) (by decide) rfl rfl (g := (mkF m 48 #[.val (.ref ob0), .val (.ref ob1), .val (.int (0 : Int32)), .val (.int (2 : Int32)), .val .null, .val (.ref rb4)] [(.int (0 : Int32)), (.ref ob0)])) rfl rfl (hb hby own_d2_48)
  have Fw9 := f8.same W9
  have N9 := Fr.snoc X9 N6 gz_ob0
  have f10 := (f7.wr W9)
  have f11 := ((F_ob0_value.keep K4 nin0).other W9 (Or.inr (slot_ne (own_la0 hw) (own_la1 hw) (by decide) own_ty0 own_ty1)))
  obtain ⟨T12, h12, X12, e12, W12, st12⟩ := putF X9 hx hZ hown (host := "") (Or.inl (own_w hw 28 rfl)) Via.refl e9 f11 f10 (Or.inr ⟨(own_w hw 29 rfl), rfl, hnm⟩) (own_w hw 2 rfl) (ty := (.array .byte)) (by decide) rfl rfl (g := (mkF m 54 #[.val (.ref ob0), .val (.ref ob1), .val (.int (0 : Int32)), .val (.int (2 : Int32)), .val .null, .val (.ref rb4)] [(.ref rb4), (.ref ob0)])) rfl rfl (hb hby own_d2_54)
  have Fw12 := f11.same W12
  have N12 := Fr.snoc X12 N9 gz_ob0
  have g13 : ∀ t, Steps p.tables e below (T12.setTop (mkF m 57 #[.val (.ref ob0), .val (.ref ob1), .val (.int (0 : Int32)), .val (.int (2 : Int32)), .val .null, .val (.ref rb4)] [])) t → Steps p.tables e below (s₁.setTop (entryFrame m #[(.ref ob0), (.ref ob1), (.int (0 : Int32)), (.int (2 : Int32)), .null] 6)) t := by
    intro t k
    refine g0 t ?_
    show Steps p.tables e below (s₁.setTop (mkF m 0 #[.val (.ref ob0), .val (.ref ob1), .val (.int (0 : Int32)), .val (.int (2 : Int32)), .val .null, .unset] [])) _
    refine XS.aloadN X0.here hx rfl (hb hby own_d2_0) rfl rfl ?_
    refine st1 _ ?_
    refine XS.iloadN X1.here hx rfl (hb hby own_d2_4) rfl ?_
    refine XS.ifYes X1.here hx rfl (pc0 := 5) (pc' := 27) rfl (hb hby own_d2_5) rfl ((if0 _ _).trans (feq (by decide : ¬ ((2 : Int32) = (0 : Int32)))).2) (by decide) (by decide) ?_
    show Steps p.tables e below (T1.setTop (mkF m 27 #[.val (.ref ob0), .val (.ref ob1), .val (.int (0 : Int32)), .val (.int (2 : Int32)), .val .null, .unset] [])) _
    refine st2 _ ?_
    refine XS.ifNo X2.here hx rfl (hb hby own_d2_30) rfl ((if0 _ _).trans (feq hc3).1) ?_
    refine XS.aloadN X2.here hx rfl (hb hby own_d2_33) rfl rfl ?_
    refine XS.iloadN X2.here hx rfl (hb hby own_d2_34) rfl ?_
    show Steps p.tables e below (T2.setTop (mkF m 35 #[.val (.ref ob0), .val (.ref ob1), .val (.int (0 : Int32)), .val (.int (2 : Int32)), .val .null, .unset] [(.int (0 : Int32)), (.ref ob1)])) _
    refine XS.iloadN X2.here hx rfl (hb hby own_d2_35) rfl ?_
    refine st4 _ ?_
    refine XS.astore X4.here hx rfl (hb hby own_d2_39) rfl rfl (l' := #[.val (.ref ob0), .val (.ref ob1), .val (.int (0 : Int32)), .val (.int (2 : Int32)), .val .null, .val (.ref rb4)]) rfl ?_
    refine XS.aloadN X4.here hx rfl (hb hby own_d2_41) rfl rfl ?_
    show Steps p.tables e below (T4.setTop (mkF m 42 #[.val (.ref ob0), .val (.ref ob1), .val (.int (0 : Int32)), .val (.int (2 : Int32)), .val .null, .val (.ref rb4)] [(.ref ob0)])) _
    refine XS.aload X4.here hx rfl (hb hby own_d2_42) rfl rfl ?_
    refine XS.iloadN X4.here hx rfl (hb hby own_d2_44) rfl ?_
    refine st6 _ ?_
    refine st9 _ ?_
    show Steps p.tables e below (T9.setTop (mkF m 51 #[.val (.ref ob0), .val (.ref ob1), .val (.int (0 : Int32)), .val (.int (2 : Int32)), .val .null, .val (.ref rb4)] [])) _
    refine XS.aloadN X9.here hx rfl (hb hby own_d2_51) rfl rfl ?_
    refine XS.aload X9.here hx rfl (hb hby own_d2_52) rfl rfl ?_
    refine st12 _ ?_
    exact k
  obtain ⟨fs, hrt, hrun, hended, hW, hsame⟩ := X12.leave (v := none) (fun _ => rfl)
  have f14 := (f10.wr W12)
  have f15 := (Fw9.other W12 (Or.inr (slot_ne (own_la1 hw) (own_la0 hw) (by decide) own_ty1 own_ty0)))
  have f16 := ((Va4.other W9 (Ne.symm ne_ob0_rb4)).other W12 (Ne.symm ne_ob0_rb4))
  refine ⟨_, _, g13 _ ?_, hrun, hended, _, _, rfl, ?_, ⟨_, rfl⟩, hW, hsame.mono (by decide) (by decide)⟩
  · show Steps p.tables e below (T12.setTop (mkF m 57 #[.val (.ref ob0), .val (.ref ob1), .val (.int (0 : Int32)), .val (.int (2 : Int32)), .val .null, .val (.ref rb4)] [])) _
    exact X12.returnOut hx Bd.returns (hb hby own_d2_57) hrt
  · show own_Q_rmA1 Z ob0 ob1 k_ob1 ob1_0 ob1_1 cs wf h0 n0 _ T12.heap _
    rw [e12]
    exact ⟨rfl, N12, (Keep.wr (Keep.wr (Keep.trans (Keep.refl h0 [ob0]) K4 all0) W9 (Or.inl (List.mem_of_getElem? (i := 0) rfl))) W12 (Or.inl (List.mem_of_getElem? (i := 0) rfl))), rb4, _, sz_rb4, f14, f15, Fw12, _, f16⟩
theorem own_pd3 : parseMethodDescriptor "([CIILjava/lang/Void;)V" = some ⟨[(.array .char), .int, .int, (.object "java/lang/Void")], none⟩ := by decide +kernel
theorem own_d1_9 : decode jdk_42_method_3_code 9 = .ok (.return_, 1) := by decide +kernel
def own_Q_rmA0 (Z : State) (ob0 : Addr) (ob1 : Addr) (k_ob1 : ClassId) (ob1_0 : Int32) (ob1_1 : Int32)  (cs : Int32) (wf : Value) (h0 : Heap) (n0 : Nat) (v : Option Value) (h : Heap) (L : List Loc) : Prop := v = none ∧ Fr n0 L ∧ Keep h0 h [ob0] ∧ ∃ rb : Addr, ∃ rk : ClassId, h0.size ≤ rb ∧ Exa Z h ob0 "java/lang/String" ∧ Fld Z h ob0 "java/lang/String" "coder" "B" (.int (0 : Int32)) ∧ Fld Z h ob0 "java/lang/String" "value" "[B" (.ref rb) ∧ ∃ sl : List Value, Arv Z h rb rk .byte (2 : Int32) sl (.int (0 : Int32))
set_option maxRecDepth 65536 in
set_option maxHeartbeats 40000000 in
theorem rmA0 (l : Launch) (Z : State) (a0 : Array Value) (hw : ∀ d ∈ tables_1, d.before a0 Z = true) (ws : List Jvm.Cond) (ob0 : Addr) (ob1 : Addr) (k_ob1 : ClassId) (ob1_0 : Int32) (ob1_1 : Int32)  (cs : Int32) (wf : Value) (h0 : Heap) (n0 : Nat) (O0 : Old Z n0 h0) (G : own_Gl Z cs wf) (E_ob0 : Exa Z h0 ob0 "java/lang/String") (F_ob0_coder : Fld Z h0 ob0 "java/lang/String" "coder" "B" (.int (0 : Int32))) (F_ob0_value : Fld Z h0 ob0 "java/lang/String" "value" "[B" .null) (V_ob1 : Arv Z h0 ob1 k_ob1 .char (2 : Int32) [(.int ob1_0), (.int ob1_1)] (.int (0 : Int32))) (gz_ob0 : n0 ≤ ob0) (hx0 : ¬ ((255 : Int32) < ob1_0)) (hx1 : ¬ ((255 : Int32) < ob1_1)) :
    MetFree l own_y0 (head1 (Jvm.Cond.code own_y0 jdk_42_method_3_code 2 none :: ws) ({ frames := 3, cells := 1, slots := 2, locals := 52 } : Room)) (fun a U => a = #[(.ref ob0), (.ref ob1)] ∧ Z.Warmed39 U.vm ∧ U.heap = h0) (fun _ _ _ _ _ => True) (fun _ U o U' => ∃ v L, o = .returned v ∧ own_Q_rmA0 Z ob0 ob1 k_ob1 ob1_0 ob1_1 cs wf h0 n0 v U'.heap L ∧ FrameEnd U o U' L ({ frames := 3, cells := 1, slots := 2, locals := 52 } : Room).cells ({ frames := 3, cells := 1, slots := 2, locals := 52 } : Room).slots) := by
  refine MetFree.of_bodySF (plainFor_of_name own_pn1) hisR ?_
  intro p e s m args below meth c s₁ Bd hml0 hP hK
  obtain ⟨rfl, hZ, hh⟩ := hP
  have hx := Bd.exec
  have hby := Bd.bytes
  have hml : c.maxLocals = 2 := hml0
  have hown : s.vm.findClass "java/lang/String" = some m.cls := findClass_of_methodNamed Bd.named
  have hnm := (name_of_methodNamed Bd.named Bd.method).1
  have X0 : Stand p l e ({ frames := 3, cells := 1, slots := 2, locals := 52 } : Room) s m #[(.ref ob0), (.ref ob1)] below meth c s₁ [] 0 0 := Stand.of_body Bd
  have e0 : s₁.heap = h0 := by rw [← hh, Bd.state]; rfl
  have N0 := Fr.nil n0
  have Z0 : n0 ≤ h0.size := O0.1 ▸ O0.2.1
  have g0 : ∀ t, Steps p.tables e below (s₁.setTop (mkF m 0 #[.val (.ref ob0), .val (.ref ob1)] [])) t → Steps p.tables e below (s₁.setTop (entryFrame m #[(.ref ob0), (.ref ob1)] 2)) t := fun t k => castTop (own_ef2 m (ob0) (ob1)) k
  have G0 := G
  obtain ⟨S_CS, hcs, S_WF, hwf⟩ := G
  obtain ⟨c1, Ar1, cq1, S1, Nn1, Hh1, Gg1⟩ := id V_ob1
  obtain ⟨_, _, ⟨T2, L2, k2, n2⟩, -, X2, ⟨Lc2, hQ2, l2, y2, z2⟩, st2⟩ := X0.specialBack hx (y := own_y1) rfl hown (mvT hZ (own_w hw 7 rfl)) (mvT hZ (own_w hw 8 rfl)) (mvT hZ (own_w hw 10 rfl)) (by decide) (backOf (W := 0) (rmA1 l Z a0 hw [] ob0 ob1 k_ob1 (ob1_0) (ob1_1)  cs wf h0 n0 O0 G0 E_ob0 F_ob0_coder F_ob0_value V_ob1 gz_ob0 hx0 hx1) hZ (own_w hw 10 rfl) (own_w hw 3 rfl) (by decide) (by decide)) (g := (mkF m 6 #[.val (.ref ob0), .val (.ref ob1)] [.null, (.int (2 : Int32)), (.int (0 : Int32)), (.ref ob1), (.ref ob0)])) rfl (by rw [hml]; rfl) (Steps.refl _) (a := ob0) (argsL := [(.ref ob1), (.int (0 : Int32)), (.int (2 : Int32)), .null]) (rest := []) (lenOf own_pd3 rfl) rfl (by show 2 * 0 + _ ≤ _; exact Nat.le_of_eq rfl) (hb hby own_d1_6) (fun _ _ => ⟨rfl, e0, (by decide : 0 + 1 ≤ _), (by decide : 0 + 2 ≤ _)⟩)
  dsimp only [Pt.U, Pt.locs, Pt.cells, Pt.slots] at X2 l2 y2 z2 st2 hQ2
  subst l2 y2 z2
  obtain ⟨rfl, Nq2, K2, rb2, rk2, hb2, Qe2, Qc2, Qv2, sl2, Va2⟩ := hQ2
  have N2 := Fr.app N0 Nq2
  have sz_rb2 : h0.size ≤ rb2 := hb2
  have gz_rb2 : n0 ≤ rb2 := Nat.le_trans Z0 sz_rb2
  have ne_ob0_rb2 : ob0 ≠ rb2 := Nat.ne_of_lt (Nat.lt_of_lt_of_le E_ob0.lt hb2)
  have ne_ob1_rb2 : ob1 ≠ rb2 := Nat.ne_of_lt (Nat.lt_of_lt_of_le V_ob1.lt hb2)
  have g3 : ∀ t, Steps p.tables e below (T2.setTop (mkF m 9 #[.val (.ref ob0), .val (.ref ob1)] [])) t → Steps p.tables e below (s₁.setTop (entryFrame m #[(.ref ob0), (.ref ob1)] 2)) t := by
    intro t k
    refine g0 t ?_
    show Steps p.tables e below (s₁.setTop (mkF m 0 #[.val (.ref ob0), .val (.ref ob1)] [])) _
    refine XS.aloadN X0.here hx rfl (hb hby own_d1_0) rfl rfl ?_
    refine XS.aloadN X0.here hx rfl (hb hby own_d1_1) rfl rfl ?_
    refine XS.iconst X0.here hx rfl (hb hby own_d1_2) ?_
    refine XS.aloadN X0.here hx rfl (hb hby own_d1_3) rfl rfl ?_
    show Steps p.tables e below (s₁.setTop (mkF m 4 #[.val (.ref ob0), .val (.ref ob1)] [(.ref ob1), (.int (0 : Int32)), (.ref ob1), (.ref ob0)])) _
    refine X0.arraylength hx (by rw [e0]; exact Ar1.1) (State.isArrayOf_alike hZ.alike Ar1.2.1) (g := (mkF m 4 #[.val (.ref ob0), .val (.ref ob1)] [(.ref ob1), (.int (0 : Int32)), (.ref ob1), (.ref ob0)])) rfl rfl (hb hby own_d1_4) _ ?_
    rw [len_of S1 Nn1]
    refine XS.aconstNull X0.here hx rfl (hb hby own_d1_5) ?_
    refine st2.trans ?_
    exact k
  obtain ⟨fs, hrt, hrun, hended, hW, hsame⟩ := X2.leave (v := none) (fun _ => rfl)
  refine ⟨_, _, g3 _ ?_, hrun, hended, _, _, rfl, ?_, ⟨_, rfl⟩, hW, hsame.mono (by decide) (by decide)⟩
  · show Steps p.tables e below (T2.setTop (mkF m 9 #[.val (.ref ob0), .val (.ref ob1)] [])) _
    exact X2.returnOut hx Bd.returns (hb hby own_d1_9) hrt
  · show own_Q_rmA0 Z ob0 ob1 k_ob1 ob1_0 ob1_1 cs wf h0 n0 _ T2.heap _
    exact ⟨rfl, N2, (Keep.trans (Keep.refl h0 [ob0]) K2 (allS (Or.inl (List.mem_of_getElem? (i := 0) rfl)) all0)), rb2, _, sz_rb2, Qe2, Qc2, Qv2, _, Va2⟩
theorem own_pd4 : parseMethodDescriptor "([C)V" = some ⟨[(.array .char)], none⟩ := by decide +kernel
abbrev own_y5 : MethodName := ⟨"java/lang/String", "valueOf", "(C)Ljava/lang/String;"⟩
theorem own_ef7 (m : MethodId) (x0 : Int32) : entryFrame m #[(.int x0)] 1 = mkF m 0 #[.val (.int x0)] [] := by first | (simp [entryFrame, mkF, argsToLocals, Value.category]; done) | rfl
theorem own_d7_0 : decode jdk_42_method_139_code 0 = .ok (.getstatic 38, 3) := by decide +kernel
theorem own_d7_3 : decode jdk_42_method_139_code 3 = .ok (.ifCond .eq 23, 3) := by decide +kernel
theorem own_d7_6 : decode jdk_42_method_139_code 6 = .ok (.iload_n 0, 1) := by decide +kernel
theorem own_d7_7 : decode jdk_42_method_139_code 7 = .ok (.invokestatic 1015, 3) := by decide +kernel
abbrev own_y6 : MethodName := ⟨"java/lang/StringLatin1", "canEncode", "(C)Z"⟩
theorem own_pn3 : plainName "java/lang/StringLatin1" = true := by first | (simp [plainName, overriddenIn]; done) | decide +kernel
theorem own_d8_0 : decode jdk_43_method_3_code 0 = .ok (.iload_n 0, 1) := by decide +kernel
theorem own_d8_1 : decode jdk_43_method_3_code 1 = .ok (.sipush 255, 3) := by decide +kernel
theorem own_d8_4 : decode jdk_43_method_3_code 4 = .ok (.if_icmp .gt 7, 3) := by decide +kernel
theorem own_d8_7 : decode jdk_43_method_3_code 7 = .ok (.iconst 1, 1) := by decide +kernel
theorem own_d8_8 : decode jdk_43_method_3_code 8 = .ok (.goto 4, 3) := by decide +kernel
theorem own_d8_12 : decode jdk_43_method_3_code 12 = .ok (.ireturn, 1) := by decide +kernel
def own_Q_rmA6 (Z : State) (p0 : Int32)  (cs : Int32) (wf : Value) (h0 : Heap) (n0 : Nat) (v : Option Value) (h : Heap) (L : List Loc) : Prop := v = some (.int (1 : Int32)) ∧ Fr n0 L ∧ h = h0
set_option maxRecDepth 65536 in
set_option maxHeartbeats 40000000 in
theorem rmA6 (l : Launch) (Z : State) (a0 : Array Value) (hw : ∀ d ∈ tables_1, d.before a0 Z = true) (ws : List Jvm.Cond) (p0 : Int32)  (cs : Int32) (wf : Value) (h0 : Heap) (n0 : Nat) (O0 : Old Z n0 h0) (G : own_Gl Z cs wf) (hx0 : ¬ ((255 : Int32) < p0)) :
    MetFree l own_y6 (head1 (Jvm.Cond.code own_y6 jdk_43_method_3_code 1 (some .boolean) :: ws) ({ frames := 0, cells := 0, slots := 0, locals := 0 } : Room)) (fun a U => a = #[(.int p0)] ∧ Z.Warmed39 U.vm ∧ U.heap = h0) (fun _ _ _ _ _ => True) (fun _ U o U' => ∃ v L, o = .returned v ∧ own_Q_rmA6 Z p0 cs wf h0 n0 v U'.heap L ∧ FrameEnd U o U' L ({ frames := 0, cells := 0, slots := 0, locals := 0 } : Room).cells ({ frames := 0, cells := 0, slots := 0, locals := 0 } : Room).slots) := by
  refine MetFree.of_bodySF (plainFor_of_name own_pn3) hisR ?_
  intro p e s m args below meth c s₁ Bd hml0 hP hK
  obtain ⟨rfl, hZ, hh⟩ := hP
  have hx := Bd.exec
  have hby := Bd.bytes
  have hml : c.maxLocals = 1 := hml0
  have hown : s.vm.findClass "java/lang/StringLatin1" = some m.cls := findClass_of_methodNamed Bd.named
  have hnm := (name_of_methodNamed Bd.named Bd.method).1
  have X0 : Stand p l e ({ frames := 0, cells := 0, slots := 0, locals := 0 } : Room) s m #[(.int p0)] below meth c s₁ [] 0 0 := Stand.of_body Bd
  have e0 : s₁.heap = h0 := by rw [← hh, Bd.state]; rfl
  have N0 := Fr.nil n0
  have Z0 : n0 ≤ h0.size := O0.1 ▸ O0.2.1
  have g0 : ∀ t, Steps p.tables e below (s₁.setTop (mkF m 0 #[.val (.int p0)] [])) t → Steps p.tables e below (s₁.setTop (entryFrame m #[(.int p0)] 1)) t := fun t k => castTop (own_ef7 m (p0)) k
  have G0 := G
  obtain ⟨S_CS, hcs, S_WF, hwf⟩ := G
  have hc1 : ¬ ((255 : Int32) < p0) := hx0
  have g2 : ∀ t, Steps p.tables e below (s₁.setTop (mkF m 12 #[.val (.int p0)] [(.int (1 : Int32))])) t → Steps p.tables e below (s₁.setTop (entryFrame m #[(.int p0)] 1)) t := by
    intro t k
    refine g0 t ?_
    show Steps p.tables e below (s₁.setTop (mkF m 0 #[.val (.int p0)] [])) _
    refine XS.iloadN X0.here hx rfl (hb hby own_d8_0) rfl ?_
    refine XS.sipush X0.here hx rfl (hb hby own_d8_1) ?_
    refine XS.icmpNo X0.here hx rfl (hb hby own_d8_4) rfl (flt hc1).2.2.1 ?_
    refine XS.iconst X0.here hx rfl (hb hby own_d8_7) ?_
    show Steps p.tables e below (s₁.setTop (mkF m 8 #[.val (.int p0)] [(.int (1 : Int32))])) _
    refine XS.goto X0.here hx rfl (pc0 := 8) (pc' := 12) rfl (hb hby own_d8_8) (by decide) (by decide) ?_
    exact k
  obtain ⟨fs, hrt, hrun, hended, hW, hsame⟩ := X0.leave (v := some (.int (1 : Int32))) (fun h => by rw [Bd.returns] at h; cases h)
  refine ⟨_, _, g2 _ ?_, hrun, hended, _, _, rfl, ?_, ⟨_, rfl⟩, hW, hsame.mono (by decide) (by decide)⟩
  · show Steps p.tables e below (s₁.setTop (mkF m 12 #[.val (.int p0)] [(.int (1 : Int32))])) _
    exact retN X0 hx (t := .boolean) Bd.returns (by simp) (hb hby own_d8_12) hrt
  · show own_Q_rmA6 Z p0 cs wf h0 n0 _ s₁.heap _
    rw [e0]
    exact ⟨rfl, N0, rfl⟩
theorem own_pd5 : parseMethodDescriptor "(C)Z" = some ⟨[.char], some .boolean⟩ := by decide +kernel
theorem own_d7_10 : decode jdk_42_method_139_code 10 = .ok (.ifCond .eq 16, 3) := by decide +kernel
theorem own_d7_13 : decode jdk_42_method_139_code 13 = .ok (.new 10, 3) := by decide +kernel
theorem own_d7_16 : decode jdk_42_method_139_code 16 = .ok (.dup, 1) := by decide +kernel
theorem own_d7_17 : decode jdk_42_method_139_code 17 = .ok (.iload_n 0, 1) := by decide +kernel
theorem own_d7_18 : decode jdk_42_method_139_code 18 = .ok (.invokestatic 1018, 3) := by decide +kernel
abbrev own_y7 : MethodName := ⟨"java/lang/StringLatin1", "toBytes", "(C)[B"⟩
theorem own_d9_0 : decode jdk_43_method_46_code 0 = .ok (.iconst 1, 1) := by decide +kernel
theorem own_d9_1 : decode jdk_43_method_46_code 1 = .ok (.newarray .byte, 2) := by decide +kernel
theorem own_d9_3 : decode jdk_43_method_46_code 3 = .ok (.dup, 1) := by decide +kernel
theorem own_d9_4 : decode jdk_43_method_46_code 4 = .ok (.iconst 0, 1) := by decide +kernel
theorem own_d9_5 : decode jdk_43_method_46_code 5 = .ok (.iload_n 0, 1) := by decide +kernel
theorem own_d9_6 : decode jdk_43_method_46_code 6 = .ok (.i2b, 1) := by decide +kernel
theorem own_d9_7 : decode jdk_43_method_46_code 7 = .ok (.bastore, 1) := by decide +kernel
theorem own_d9_8 : decode jdk_43_method_46_code 8 = .ok (.areturn, 1) := by decide +kernel
def own_Q_rmA7 (Z : State) (p0 : Int32)  (cs : Int32) (wf : Value) (h0 : Heap) (n0 : Nat) (v : Option Value) (h : Heap) (L : List Loc) : Prop := ∃ rb : Addr, ∃ rk : ClassId, v = some (.ref rb) ∧ Fr n0 L ∧ Keep h0 h [] ∧ h0.size ≤ rb ∧ Arv Z h rb rk .byte (1 : Int32) [(.int (p0.toInt8.toInt32))] (.int (0 : Int32))
set_option maxRecDepth 65536 in
set_option maxHeartbeats 40000000 in
theorem rmA7 (l : Launch) (Z : State) (a0 : Array Value) (hw : ∀ d ∈ tables_1, d.before a0 Z = true) (ws : List Jvm.Cond) (p0 : Int32)  (cs : Int32) (wf : Value) (h0 : Heap) (n0 : Nat) (O0 : Old Z n0 h0) (G : own_Gl Z cs wf) :
    MetFree l own_y7 (head1 (Jvm.Cond.code own_y7 jdk_43_method_46_code 1 (some (.array .byte)) :: ws) ({ frames := 0, cells := 1, slots := 1, locals := 0 } : Room)) (fun a U => a = #[(.int p0)] ∧ Z.Warmed39 U.vm ∧ U.heap = h0) (fun _ _ _ _ _ => True) (fun _ U o U' => ∃ v L, o = .returned v ∧ own_Q_rmA7 Z p0 cs wf h0 n0 v U'.heap L ∧ FrameEnd U o U' L ({ frames := 0, cells := 1, slots := 1, locals := 0 } : Room).cells ({ frames := 0, cells := 1, slots := 1, locals := 0 } : Room).slots) := by
  refine MetFree.of_bodySF (plainFor_of_name own_pn3) hisR ?_
  intro p e s m args below meth c s₁ Bd hml0 hP hK
  obtain ⟨rfl, hZ, hh⟩ := hP
  have hx := Bd.exec
  have hby := Bd.bytes
  have hml : c.maxLocals = 1 := hml0
  have hown : s.vm.findClass "java/lang/StringLatin1" = some m.cls := findClass_of_methodNamed Bd.named
  have hnm := (name_of_methodNamed Bd.named Bd.method).1
  have X0 : Stand p l e ({ frames := 0, cells := 1, slots := 1, locals := 0 } : Room) s m #[(.int p0)] below meth c s₁ [] 0 0 := Stand.of_body Bd
  have e0 : s₁.heap = h0 := by rw [← hh, Bd.state]; rfl
  have N0 := Fr.nil n0
  have Z0 : n0 ≤ h0.size := O0.1 ▸ O0.2.1
  have g0 : ∀ t, Steps p.tables e below (s₁.setTop (mkF m 0 #[.val (.int p0)] [])) t → Steps p.tables e below (s₁.setTop (entryFrame m #[(.int p0)] 1)) t := fun t k => castTop (own_ef7 m (p0)) k
  have G0 := G
  obtain ⟨S_CS, hcs, S_WF, hwf⟩ := G
  obtain ⟨T1, h1, k1, X1, e1, E1, A1, st1⟩ := newP X0 hx hZ (own_w hw 19 rfl) e0 (g := (mkF m 1 #[.val (.int p0)] [(.int (1 : Int32))])) rfl (hb hby own_d9_1) rfl (by decide) (cap := 1) (by decide) (by decide) (by decide) (by decide)
  obtain ⟨b1, q_b1⟩ : ∃ z, z = h0.size := ⟨_, rfl⟩
  rw [← q_b1] at A1 st1
  have sz_b1 : h0.size ≤ b1 := Nat.le_of_eq q_b1.symm
  have gz_b1 : n0 ≤ b1 := Nat.le_trans Z0 sz_b1
  have V1 : Arv Z h1 b1 k1 .byte (1 : Int32) [(.int (0 : Int32))] (.int (0 : Int32)) := (Arv.new A1 (by decide)).pad (pad_rep [] (.int (0 : Int32)) 1)
  obtain ⟨c2, Ar2, cq2, S2, Nn2, Hh2, Gg2⟩ := id V1
  have hin2 : ¬ ((0 : Int32) < 0 ∨ c2.slots.size ≤ ((0 : Int32)).toNatClampNeg) := inb_of S2 ⟨by decide, by decide⟩
  obtain ⟨T3, h3, X3, e3, W3, st3⟩ := stB X1 hx hZ e1 Ar2 (j := (0 : Int32)) hin2 (g := (mkF m 7 #[.val (.int p0)] [(.int (p0.toInt8.toInt32)), (.int (0 : Int32)), (.ref b1), (.ref b1)])) rfl rfl (hb hby own_d9_7)
  have V3 := Arv.set Ar2 cq2 S2 Nn2 Hh2 Gg2 (fits_nar_byte _) W3 0 rfl (Nat.le_of_ble_eq_true rfl)
  have V3a : Arv Z h3 b1 k1 .byte (1 : Int32) [(.int (p0.toInt8.toInt32))] (.int (0 : Int32)) := by have q := V3; first | (rw [own_nb] at q; exact q) | (rw [own_nb2] at q; exact q) | (simp only [own_nb2] at q; exact q)
  have N3 := Fr.snoc X3 N0 gz_b1
  have g4 : ∀ t, Steps p.tables e below (T3.setTop (mkF m 8 #[.val (.int p0)] [(.ref b1)])) t → Steps p.tables e below (s₁.setTop (entryFrame m #[(.int p0)] 1)) t := by
    intro t k
    refine g0 t ?_
    show Steps p.tables e below (s₁.setTop (mkF m 0 #[.val (.int p0)] [])) _
    refine XS.iconst X0.here hx rfl (hb hby own_d9_0) ?_
    refine st1 _ ?_
    refine XS.dup X1.here hx rfl (hb hby own_d9_3) rfl rfl ?_
    refine XS.iconst X1.here hx rfl (hb hby own_d9_4) ?_
    show Steps p.tables e below (T1.setTop (mkF m 5 #[.val (.int p0)] [(.int (0 : Int32)), (.ref b1), (.ref b1)])) _
    refine XS.iloadN X1.here hx rfl (hb hby own_d9_5) rfl ?_
    show Steps p.tables e below (T1.setTop (mkF m 6 #[.val (.int p0)] [(.int p0), (.int (0 : Int32)), (.ref b1), (.ref b1)])) _
    refine XS.i2b X1.here hx rfl (hb hby own_d9_6) rfl ?_
    refine st3 _ ?_
    exact k
  obtain ⟨fs, hrt, hrun, hended, hW, hsame⟩ := X3.leave (v := some (.ref b1)) (fun h => by rw [Bd.returns] at h; cases h)
  refine ⟨_, _, g4 _ ?_, hrun, hended, _, _, rfl, ?_, ⟨_, rfl⟩, hW, hsame.mono (by decide) (by decide)⟩
  · show Steps p.tables e below (T3.setTop (mkF m 8 #[.val (.int p0)] [(.ref b1)])) _
    jvm_step X3.here [X3.here.top, hx, (hb hby own_d9_8), X3.method', Bd.returns, Value.isRef, FieldType.isReference]
    first | (intro acts; rw [hrt _ acts rfl rfl rfl]) | rw [hrt _ _ rfl rfl rfl]
    exact Steps.refl _
  · show own_Q_rmA7 Z p0 cs wf h0 n0 _ T3.heap _
    rw [e3]
    exact ⟨b1, _, rfl, N3, (Keep.wr (Keep.ext (Keep.refl h0 []) E1) W3 (Or.inr sz_b1)), sz_b1, V3a⟩
theorem own_pd6 : parseMethodDescriptor "(C)[B" = some ⟨[.char], some (.array .byte)⟩ := by decide +kernel
theorem own_d7_21 : decode jdk_42_method_139_code 21 = .ok (.iconst 0, 1) := by decide +kernel
theorem own_d7_22 : decode jdk_42_method_139_code 22 = .ok (.invokespecial 209, 3) := by decide +kernel
abbrev own_y8 : MethodName := ⟨"java/lang/String", "<init>", "([BB)V"⟩
theorem own_ef10 (m : MethodId) (x0 : Addr) (x1 : Addr) (x2 : Int32) : entryFrame m #[(.ref x0), (.ref x1), (.int x2)] 3 = mkF m 0 #[.val (.ref x0), .val (.ref x1), .val (.int x2)] [] := by first | (simp [entryFrame, mkF, argsToLocals, Value.category]; done) | rfl
theorem own_d10_0 : decode jdk_42_method_151_code 0 = .ok (.aload_n 0, 1) := by decide +kernel
theorem own_d10_1 : decode jdk_42_method_151_code 1 = .ok (.invokespecial 1, 3) := by decide +kernel
theorem own_d10_4 : decode jdk_42_method_151_code 4 = .ok (.aload_n 0, 1) := by decide +kernel
theorem own_d10_5 : decode jdk_42_method_151_code 5 = .ok (.aload_n 1, 1) := by decide +kernel
theorem own_d10_6 : decode jdk_42_method_151_code 6 = .ok (.putfield 9, 3) := by decide +kernel
theorem own_d10_9 : decode jdk_42_method_151_code 9 = .ok (.aload_n 0, 1) := by decide +kernel
theorem own_d10_10 : decode jdk_42_method_151_code 10 = .ok (.iload_n 2, 1) := by decide +kernel
theorem own_d10_11 : decode jdk_42_method_151_code 11 = .ok (.putfield 15, 3) := by decide +kernel
theorem own_d10_14 : decode jdk_42_method_151_code 14 = .ok (.return_, 1) := by decide +kernel
def own_Q_rmA8 (Z : State) (ob0 : Addr) (ob1 : Addr) (k_ob1 : ClassId) (ob1_0 : Int32)  (cs : Int32) (wf : Value) (h0 : Heap) (n0 : Nat) (v : Option Value) (h : Heap) (L : List Loc) : Prop := v = none ∧ Fr n0 L ∧ Keep h0 h [ob0] ∧ Exa Z h ob0 "java/lang/String" ∧ Fld Z h ob0 "java/lang/String" "coder" "B" (.int (0 : Int32)) ∧ Fld Z h ob0 "java/lang/String" "value" "[B" (.ref ob1)
set_option maxRecDepth 65536 in
set_option maxHeartbeats 40000000 in
theorem rmA8 (l : Launch) (Z : State) (a0 : Array Value) (hw : ∀ d ∈ tables_1, d.before a0 Z = true) (ws : List Jvm.Cond) (ob0 : Addr) (ob1 : Addr) (k_ob1 : ClassId) (ob1_0 : Int32)  (cs : Int32) (wf : Value) (h0 : Heap) (n0 : Nat) (O0 : Old Z n0 h0) (G : own_Gl Z cs wf) (E_ob0 : Exa Z h0 ob0 "java/lang/String") (F_ob0_coder : Fld Z h0 ob0 "java/lang/String" "coder" "B" (.int (0 : Int32))) (F_ob0_value : Fld Z h0 ob0 "java/lang/String" "value" "[B" .null) (V_ob1 : Arv Z h0 ob1 k_ob1 .byte (1 : Int32) [(.int ob1_0)] (.int (0 : Int32))) (gz_ob0 : n0 ≤ ob0) :
    MetFree l own_y8 (head1 (Jvm.Cond.code own_y8 jdk_42_method_151_code 3 none :: ws) ({ frames := 1, cells := 0, slots := 0, locals := 12 } : Room)) (fun a U => a = #[(.ref ob0), (.ref ob1), (.int (0 : Int32))] ∧ Z.Warmed39 U.vm ∧ U.heap = h0) (fun _ _ _ _ _ => True) (fun _ U o U' => ∃ v L, o = .returned v ∧ own_Q_rmA8 Z ob0 ob1 k_ob1 ob1_0 cs wf h0 n0 v U'.heap L ∧ FrameEnd U o U' L ({ frames := 1, cells := 0, slots := 0, locals := 12 } : Room).cells ({ frames := 1, cells := 0, slots := 0, locals := 12 } : Room).slots) := by
  refine MetFree.of_bodySF (plainFor_of_name own_pn1) hisR ?_
  intro p e s m args below meth c s₁ Bd hml0 hP hK
  obtain ⟨rfl, hZ, hh⟩ := hP
  have hx := Bd.exec
  have hby := Bd.bytes
  have hml : c.maxLocals = 3 := hml0
  have hown : s.vm.findClass "java/lang/String" = some m.cls := findClass_of_methodNamed Bd.named
  have hnm := (name_of_methodNamed Bd.named Bd.method).1
  have X0 : Stand p l e ({ frames := 1, cells := 0, slots := 0, locals := 12 } : Room) s m #[(.ref ob0), (.ref ob1), (.int (0 : Int32))] below meth c s₁ [] 0 0 := Stand.of_body Bd
  have e0 : s₁.heap = h0 := by rw [← hh, Bd.state]; rfl
  have N0 := Fr.nil n0
  have Z0 : n0 ≤ h0.size := O0.1 ▸ O0.2.1
  have g0 : ∀ t, Steps p.tables e below (s₁.setTop (mkF m 0 #[.val (.ref ob0), .val (.ref ob1), .val (.int (0 : Int32))] [])) t → Steps p.tables e below (s₁.setTop (entryFrame m #[(.ref ob0), (.ref ob1), (.int (0 : Int32))] 3)) t := fun t k => castTop (own_ef10 m (ob0) (ob1) ((0 : Int32))) k
  have G0 := G
  obtain ⟨S_CS, hcs, S_WF, hwf⟩ := G
  obtain ⟨T1, X1, e1, st1⟩ := initO X0 hx hZ hown (own_w hw 11 rfl) (own_w hw 12 rfl) (own_w hw 13 rfl) e0 (g := (mkF m 1 #[.val (.ref ob0), .val (.ref ob1), .val (.int (0 : Int32))] [(.ref ob0)])) rfl (by rw [hml]; rfl) rfl (hb hby own_d10_1) (by decide) (W := 0) (by show 2 * 0 + _ ≤ _; exact Nat.le_of_eq rfl) (by decide)
  obtain ⟨T2, h2, X2, e2, W2, st2⟩ := putF X1 hx hZ hown (host := "") (Or.inl (own_w hw 28 rfl)) Via.refl e1 F_ob0_value E_ob0 (Or.inr ⟨(own_w hw 29 rfl), rfl, hnm⟩) (own_w hw 2 rfl) (ty := (.array .byte)) (by decide) rfl rfl (g := (mkF m 6 #[.val (.ref ob0), .val (.ref ob1), .val (.int (0 : Int32))] [(.ref ob1), (.ref ob0)])) rfl rfl (hb hby own_d10_6)
  have Fw2 := F_ob0_value.same W2
  have N2 := Fr.snoc X2 N0 gz_ob0
  have f3 := (E_ob0.wr W2)
  have f4 := (F_ob0_coder.other W2 (Or.inr (slot_ne (own_la1 hw) (own_la0 hw) (by decide) own_ty1 own_ty0)))
  obtain ⟨T5, h5, X5, e5, W5, st5⟩ := putFN X2 hx hZ hown (own_w hw 26 rfl) Via.refl e2 f4 f3 (Or.inr ⟨(own_w hw 27 rfl), rfl, hnm⟩) (own_w hw 2 rfl) (ty := .byte) (v' := (.int (0 : Int32))) (by decide) rfl rfl (g := (mkF m 11 #[.val (.ref ob0), .val (.ref ob1), .val (.int (0 : Int32))] [(.int (0 : Int32)), (.ref ob0)])) rfl rfl (hb hby own_d10_11)
  have Fw5 := f4.same W5
  have N5 := Fr.snoc X5 N2 gz_ob0
  have g6 : ∀ t, Steps p.tables e below (T5.setTop (mkF m 14 #[.val (.ref ob0), .val (.ref ob1), .val (.int (0 : Int32))] [])) t → Steps p.tables e below (s₁.setTop (entryFrame m #[(.ref ob0), (.ref ob1), (.int (0 : Int32))] 3)) t := by
    intro t k
    refine g0 t ?_
    show Steps p.tables e below (s₁.setTop (mkF m 0 #[.val (.ref ob0), .val (.ref ob1), .val (.int (0 : Int32))] [])) _
    refine XS.aloadN X0.here hx rfl (hb hby own_d10_0) rfl rfl ?_
    refine st1 _ ?_
    refine XS.aloadN X1.here hx rfl (hb hby own_d10_4) rfl rfl ?_
    refine XS.aloadN X1.here hx rfl (hb hby own_d10_5) rfl rfl ?_
    show Steps p.tables e below (T1.setTop (mkF m 6 #[.val (.ref ob0), .val (.ref ob1), .val (.int (0 : Int32))] [(.ref ob1), (.ref ob0)])) _
    refine st2 _ ?_
    refine XS.aloadN X2.here hx rfl (hb hby own_d10_9) rfl rfl ?_
    refine XS.iloadN X2.here hx rfl (hb hby own_d10_10) rfl ?_
    refine st5 _ ?_
    exact k
  obtain ⟨fs, hrt, hrun, hended, hW, hsame⟩ := X5.leave (v := none) (fun _ => rfl)
  have f7 := (f3.wr W5)
  have f8 := (Fw2.other W5 (Or.inr (slot_ne (own_la0 hw) (own_la1 hw) (by decide) own_ty0 own_ty1)))
  refine ⟨_, _, g6 _ ?_, hrun, hended, _, _, rfl, ?_, ⟨_, rfl⟩, hW, hsame.mono (by decide) (by decide)⟩
  · show Steps p.tables e below (T5.setTop (mkF m 14 #[.val (.ref ob0), .val (.ref ob1), .val (.int (0 : Int32))] [])) _
    exact X5.returnOut hx Bd.returns (hb hby own_d10_14) hrt
  · show own_Q_rmA8 Z ob0 ob1 k_ob1 ob1_0 cs wf h0 n0 _ T5.heap _
    rw [e5]
    exact ⟨rfl, N5, (Keep.wr (Keep.wr (Keep.refl h0 [ob0]) W2 (Or.inl (List.mem_of_getElem? (i := 0) rfl))) W5 (Or.inl (List.mem_of_getElem? (i := 0) rfl))), f7, Fw5, f8⟩
theorem own_pd7 : parseMethodDescriptor "([BB)V" = some ⟨[(.array .byte), .byte], none⟩ := by decide +kernel
theorem own_d7_25 : decode jdk_42_method_139_code 25 = .ok (.areturn, 1) := by decide +kernel
def own_Q_rmA5 (Z : State) (p0 : Int32)  (cs : Int32) (wf : Value) (h0 : Heap) (n0 : Nat) (v : Option Value) (h : Heap) (L : List Loc) : Prop := ∃ sa sb : Addr, ∃ sk : ClassId, ∃ sl : List Value, v = some (.ref sa) ∧ Fr n0 L ∧ Keep h0 h [] ∧ h0.size ≤ sa ∧ h0.size ≤ sb ∧ Exa Z h sa "java/lang/String" ∧ Fld Z h sa "java/lang/String" "coder" "B" (.int (0 : Int32)) ∧ Fld Z h sa "java/lang/String" "value" "[B" (.ref sb) ∧ Arv Z h sb sk .byte (1 : Int32) sl (.int (0 : Int32))
set_option maxRecDepth 65536 in
set_option maxHeartbeats 40000000 in
theorem rmA5 (l : Launch) (Z : State) (a0 : Array Value) (hw : ∀ d ∈ tables_1, d.before a0 Z = true) (ws : List Jvm.Cond) (p0 : Int32)  (cs : Int32) (wf : Value) (h0 : Heap) (n0 : Nat) (O0 : Old Z n0 h0) (G : own_Gl Z cs wf) (hx0 : ¬ ((255 : Int32) < p0)) :
    MetFree l own_y5 (head1 (Jvm.Cond.code own_y5 jdk_42_method_139_code 1 (some (.object "java/lang/String")) :: ws) ({ frames := 2, cells := 2, slots := 5, locals := 27 } : Room)) (fun a U => a = #[(.int p0)] ∧ Z.Warmed39 U.vm ∧ U.heap = h0) (fun _ _ _ _ _ => True) (fun _ U o U' => ∃ v L, o = .returned v ∧ own_Q_rmA5 Z p0 cs wf h0 n0 v U'.heap L ∧ FrameEnd U o U' L ({ frames := 2, cells := 2, slots := 5, locals := 27 } : Room).cells ({ frames := 2, cells := 2, slots := 5, locals := 27 } : Room).slots) := by
  refine MetFree.of_bodySF (plainFor_of_name own_pn1) hisR ?_
  intro p e s m args below meth c s₁ Bd hml0 hP hK
  obtain ⟨rfl, hZ, hh⟩ := hP
  have hx := Bd.exec
  have hby := Bd.bytes
  have hml : c.maxLocals = 1 := hml0
  have hown : s.vm.findClass "java/lang/String" = some m.cls := findClass_of_methodNamed Bd.named
  have hnm := (name_of_methodNamed Bd.named Bd.method).1
  have X0 : Stand p l e ({ frames := 2, cells := 2, slots := 5, locals := 27 } : Room) s m #[(.int p0)] below meth c s₁ [] 0 0 := Stand.of_body Bd
  have e0 : s₁.heap = h0 := by rw [← hh, Bd.state]; rfl
  have N0 := Fr.nil n0
  have Z0 : n0 ≤ h0.size := O0.1 ▸ O0.2.1
  have g0 : ∀ t, Steps p.tables e below (s₁.setTop (mkF m 0 #[.val (.int p0)] [])) t → Steps p.tables e below (s₁.setTop (entryFrame m #[(.int p0)] 1)) t := fun t k => castTop (own_ef7 m (p0)) k
  have G0 := G
  obtain ⟨S_CS, hcs, S_WF, hwf⟩ := G
  obtain ⟨T1, X1, e1, st1⟩ := getS2 X0 hx hZ hown (host := "") (Or.inl (own_w hw 14 rfl)) Via.refl e0 (S_CS.ext O0.2) (g := (mkF m 0 #[.val (.int p0)] [])) rfl (hb hby own_d7_0)
  have hc2 : ¬ (cs = (0 : Int32)) := hcs
  obtain ⟨_, _, ⟨T3, L3, k3, n3⟩, -, X3, ⟨Lc3, hQ3, l3, y3, z3⟩, st3⟩ := Jvm.LawKit.callS X1 hx (y := own_y6) hown (mvT hZ (own_w hw 33 rfl)) (mvT hZ (own_w hw 34 rfl)) (mvT hZ (own_w hw 35 rfl)) (mvT hZ (own_w hw 36 rfl)) (by decide) (backOf (W := 0) (rmA6 l Z a0 hw [] (p0)  cs wf h0 n0 O0 G0   hx0) hZ (own_w hw 36 rfl) (own_w hw 35 rfl) (by decide) (by decide)) (g := (mkF m 7 #[.val (.int p0)] [(.int p0)])) rfl (by rw [hml]; rfl) (argsL := [(.int p0)]) (rest := []) (lenOf own_pd5 rfl) rfl (by show 2 * 0 + _ ≤ _; exact Nat.le_of_eq rfl) (hb hby own_d7_7) (fun _ _ => ⟨rfl, e1, (by decide : 0 + 0 ≤ _), (by decide : 0 + 0 ≤ _)⟩)
  dsimp only [Pt.U, Pt.locs, Pt.cells, Pt.slots] at X3 l3 y3 z3 st3 hQ3
  subst l3 y3 z3
  obtain ⟨rfl, Nq3, e3⟩ := hQ3
  have N3 := Fr.app N0 Nq3
  obtain ⟨T4, h4, X4, e4, E4, A4, D4, -, st4⟩ := newO X3 hx hZ hown (own_w hw 37 rfl) (own_w hw 2 rfl) (own_w hw 3 rfl) e3 (g := (mkF m 13 #[.val (.int p0)] [])) rfl (hb hby own_d7_13) (by decide) (by decide)
  obtain ⟨b4, q_b4⟩ : ∃ z, z = h0.size := ⟨_, rfl⟩
  rw [← q_b4] at A4 D4 st4
  have sz_b4 : h0.size ≤ b4 := Nat.le_of_eq q_b4.symm
  have gz_b4 : n0 ≤ b4 := Nat.le_trans Z0 sz_b4
  have F4_coder : Fld Z h4 b4 "java/lang/String" "coder" "B" (.int (0 : Int32)) := D4 (Or.inr (own_w hw 27 rfl)) (ty := .byte) (by decide)
  have F4_value : Fld Z h4 b4 "java/lang/String" "value" "[B" .null := D4 (Or.inr (own_w hw 29 rfl)) (ty := (.array .byte)) (by decide)
  have o5 : Old Z n0 h4 := (Old.ext O0 E4)
  obtain ⟨_, _, ⟨T6, L6, k6, n6⟩, -, X6, ⟨Lc6, hQ6, l6, y6, z6⟩, st6⟩ := Jvm.LawKit.callS X4 hx (y := own_y7) hown (mvT hZ (own_w hw 38 rfl)) (mvT hZ (own_w hw 39 rfl)) (mvT hZ (own_w hw 35 rfl)) (mvT hZ (own_w hw 40 rfl)) (by decide) (backOf (W := 2) (rmA7 l Z a0 hw [] (p0)  cs wf h4 n0 o5 G0   ) hZ (own_w hw 40 rfl) (own_w hw 35 rfl) (by decide) (by decide)) (g := (mkF m 18 #[.val (.int p0)] [(.int p0), (.ref b4), (.ref b4)])) rfl (by rw [hml]; rfl) (argsL := [(.int p0)]) (rest := [(.ref b4), (.ref b4)]) (lenOf own_pd6 rfl) rfl (by show 2 * 0 + _ ≤ _; exact Nat.le_of_eq rfl) (hb hby own_d7_18) (fun _ _ => ⟨rfl, e4, (by decide : 1 + 1 ≤ _), (by decide : 4 + 1 ≤ _)⟩)
  dsimp only [Pt.U, Pt.locs, Pt.cells, Pt.slots] at X6 l6 y6 z6 st6 hQ6
  subst l6 y6 z6
  obtain ⟨rb6, rk6, rfl, Nq6, K6, hb6, Va6⟩ := hQ6
  have N6 := Fr.app N3 Nq6
  have sz_rb6 : h0.size ≤ rb6 := Nat.le_trans E4.1 hb6
  have gz_rb6 : n0 ≤ rb6 := Nat.le_trans Z0 sz_rb6
  have ne_b4_rb6 : b4 ≠ rb6 := Nat.ne_of_lt (Nat.lt_of_lt_of_le A4.lt hb6)
  have f7 := (A4.keep K6)
  have f8 := (F4_coder.keep K6 nin0)
  have f9 := (F4_value.keep K6 nin0)
  have o10 : Old Z n0 T6.heap := (Old.keep o5 K6 all0)
  obtain ⟨_, _, ⟨T11, L11, k11, n11⟩, -, X11, ⟨Lc11, hQ11, l11, y11, z11⟩, st11⟩ := X6.specialBack hx (y := own_y8) rfl hown (mvT hZ (own_w hw 41 rfl)) (mvT hZ (own_w hw 42 rfl)) (mvT hZ (own_w hw 43 rfl)) (by decide) (backOf (W := 1) (rmA8 l Z a0 hw [] b4 rb6 rk6 ((p0.toInt8.toInt32))  cs wf T6.heap n0 o10 G0 f7 f8 f9 Va6 gz_b4 ) hZ (own_w hw 43 rfl) (own_w hw 3 rfl) (by decide) (by decide)) (g := (mkF m 22 #[.val (.int p0)] [(.int (0 : Int32)), (.ref rb6), (.ref b4), (.ref b4)])) rfl (by rw [hml]; rfl) (Steps.refl _) (a := b4) (argsL := [(.ref rb6), (.int (0 : Int32))]) (rest := [(.ref b4)]) (lenOf own_pd7 rfl) rfl (by show 2 * 0 + _ ≤ _; exact Nat.le_of_eq rfl) (hb hby own_d7_22) (fun _ _ => ⟨rfl, rfl, (by decide : 2 + 0 ≤ _), (by decide : 5 + 0 ≤ _)⟩)
  dsimp only [Pt.U, Pt.locs, Pt.cells, Pt.slots] at X11 l11 y11 z11 st11 hQ11
  subst l11 y11 z11
  obtain ⟨rfl, Nq11, K11, Q11_0, Q11_1, Q11_2⟩ := hQ11
  have N11 := Fr.app N6 Nq11
  have g12 : ∀ t, Steps p.tables e below (T11.setTop (mkF m 25 #[.val (.int p0)] [(.ref b4)])) t → Steps p.tables e below (s₁.setTop (entryFrame m #[(.int p0)] 1)) t := by
    intro t k
    refine g0 t ?_
    show Steps p.tables e below (s₁.setTop (mkF m 0 #[.val (.int p0)] [])) _
    refine st1 _ ?_
    refine XS.ifNo X1.here hx rfl (hb hby own_d7_3) rfl ((if0 _ _).trans (feq hc2).1) ?_
    refine XS.iloadN X1.here hx rfl (hb hby own_d7_6) rfl ?_
    refine st3 _ ?_
    show Steps p.tables e below (T3.setTop (mkF m 10 #[.val (.int p0)] [(.int (1 : Int32))])) _
    refine XS.ifNo X3.here hx rfl (hb hby own_d7_10) rfl ((if0 _ _).trans (feq (by decide : ¬ ((1 : Int32) = (0 : Int32)))).1) ?_
    refine st4 _ ?_
    refine XS.dup X4.here hx rfl (hb hby own_d7_16) rfl rfl ?_
    refine XS.iloadN X4.here hx rfl (hb hby own_d7_17) rfl ?_
    show Steps p.tables e below (T4.setTop (mkF m 18 #[.val (.int p0)] [(.int p0), (.ref b4), (.ref b4)])) _
    refine st6 _ ?_
    refine XS.iconst X6.here hx rfl (hb hby own_d7_21) ?_
    refine st11.trans ?_
    exact k
  obtain ⟨fs, hrt, hrun, hended, hW, hsame⟩ := X11.leave (v := some (.ref b4)) (fun h => by rw [Bd.returns] at h; cases h)
  have f13 := (Va6.keep K11 (ninS (Ne.symm ne_b4_rb6) nin0))
  refine ⟨_, _, g12 _ ?_, hrun, hended, _, _, rfl, ?_, ⟨_, rfl⟩, hW, hsame.mono (by decide) (by decide)⟩
  · show Steps p.tables e below (T11.setTop (mkF m 25 #[.val (.int p0)] [(.ref b4)])) _
    jvm_step X11.here [X11.here.top, hx, (hb hby own_d7_25), X11.method', Bd.returns, Value.isRef, FieldType.isReference]
    first | (intro acts; rw [hrt _ acts rfl rfl rfl]) | rw [hrt _ _ rfl rfl rfl]
    exact Steps.refl _
  · show own_Q_rmA5 Z p0 cs wf h0 n0 _ T11.heap _
    exact ⟨b4, rb6, _, _, rfl, N11, (Keep.trans (Keep.trans (Keep.ext (Keep.refl h0 []) E4) K6 all0) K11 (allS (Or.inr sz_b4) all0)), sz_b4, sz_rb6, Q11_0, Q11_1, Q11_2, f13⟩
theorem own_pd8 : parseMethodDescriptor "(C)Ljava/lang/String;" = some ⟨[.char], some (.object "java/lang/String")⟩ := by decide +kernel
abbrev own_y9 : MethodName := ⟨"com/example/momus/momus/cli/Option", "<init>", "(Ljava/lang/String;Ljava/lang/String;Ljava/lang/String;Ljava/lang/String;)V"⟩
theorem own_ef11 (m : MethodId) (x0 : Addr) (x1 : Addr) (x3 : Addr) : entryFrame m #[(.ref x0), (.ref x1), .null, (.ref x3), .null] 5 = mkF m 0 #[.val (.ref x0), .val (.ref x1), .val .null, .val (.ref x3), .val .null] [] := by first | (simp [entryFrame, mkF, argsToLocals, Value.category]; done) | rfl
theorem own_pn4 : plainName "com/example/momus/momus/cli/Option" = true := by first | (simp [plainName, overriddenIn]; done) | decide +kernel
theorem own_d11_0 : decode prog_13_method_1_code 0 = .ok (.aload_n 0, 1) := by decide +kernel
theorem own_d11_1 : decode prog_13_method_1_code 1 = .ok (.invokespecial 1, 3) := by decide +kernel
abbrev own_y10 : MethodName := ⟨"java/lang/Record", "<init>", "()V"⟩
theorem own_ef12 (m : MethodId) (x0 : Addr) : entryFrame m #[(.ref x0)] 1 = mkF m 0 #[.val (.ref x0)] [] := by first | (simp [entryFrame, mkF, argsToLocals, Value.category]; done) | rfl
theorem own_pn5 : plainName "java/lang/Record" = true := by first | (simp [plainName, overriddenIn]; done) | decide +kernel
theorem own_d12_0 : decode jdk_30_method_1_code 0 = .ok (.aload_n 0, 1) := by decide +kernel
theorem own_d12_1 : decode jdk_30_method_1_code 1 = .ok (.invokespecial 1, 3) := by decide +kernel
theorem own_d12_4 : decode jdk_30_method_1_code 4 = .ok (.return_, 1) := by decide +kernel
def own_Q_rmA10 (Z : State) (ob0 : Addr)  (cs : Int32) (wf : Value) (h0 : Heap) (n0 : Nat) (v : Option Value) (h : Heap) (L : List Loc) : Prop := v = none ∧ Fr n0 L ∧ h = h0
set_option maxRecDepth 65536 in
set_option maxHeartbeats 40000000 in
theorem rmA10 (l : Launch) (Z : State) (a0 : Array Value) (hw : ∀ d ∈ tables_1, d.before a0 Z = true) (ws : List Jvm.Cond) (ob0 : Addr)  (cs : Int32) (wf : Value) (h0 : Heap) (n0 : Nat) (O0 : Old Z n0 h0) (G : own_Gl Z cs wf) (E_ob0 : Exa Z h0 ob0 "com/example/momus/momus/cli/Option") (F_ob0_argument : Fld Z h0 ob0 "com/example/momus/momus/cli/Option" "argument" "Ljava/lang/String;" .null) (F_ob0_byDefault : Fld Z h0 ob0 "com/example/momus/momus/cli/Option" "byDefault" "Ljava/lang/String;" .null) (F_ob0_description : Fld Z h0 ob0 "com/example/momus/momus/cli/Option" "description" "Ljava/lang/String;" .null) (F_ob0_name : Fld Z h0 ob0 "com/example/momus/momus/cli/Option" "name" "Ljava/lang/String;" .null) :
    MetFree l own_y10 (head1 (Jvm.Cond.code own_y10 jdk_30_method_1_code 1 none :: ws) ({ frames := 1, cells := 0, slots := 0, locals := 12 } : Room)) (fun a U => a = #[(.ref ob0)] ∧ Z.Warmed39 U.vm ∧ U.heap = h0) (fun _ _ _ _ _ => True) (fun _ U o U' => ∃ v L, o = .returned v ∧ own_Q_rmA10 Z ob0 cs wf h0 n0 v U'.heap L ∧ FrameEnd U o U' L ({ frames := 1, cells := 0, slots := 0, locals := 12 } : Room).cells ({ frames := 1, cells := 0, slots := 0, locals := 12 } : Room).slots) := by
  refine MetFree.of_bodySF (plainFor_of_name own_pn5) hisR ?_
  intro p e s m args below meth c s₁ Bd hml0 hP hK
  obtain ⟨rfl, hZ, hh⟩ := hP
  have hx := Bd.exec
  have hby := Bd.bytes
  have hml : c.maxLocals = 1 := hml0
  have hown : s.vm.findClass "java/lang/Record" = some m.cls := findClass_of_methodNamed Bd.named
  have hnm := (name_of_methodNamed Bd.named Bd.method).1
  have X0 : Stand p l e ({ frames := 1, cells := 0, slots := 0, locals := 12 } : Room) s m #[(.ref ob0)] below meth c s₁ [] 0 0 := Stand.of_body Bd
  have e0 : s₁.heap = h0 := by rw [← hh, Bd.state]; rfl
  have N0 := Fr.nil n0
  have Z0 : n0 ≤ h0.size := O0.1 ▸ O0.2.1
  have g0 : ∀ t, Steps p.tables e below (s₁.setTop (mkF m 0 #[.val (.ref ob0)] [])) t → Steps p.tables e below (s₁.setTop (entryFrame m #[(.ref ob0)] 1)) t := fun t k => castTop (own_ef12 m (ob0)) k
  have G0 := G
  obtain ⟨S_CS, hcs, S_WF, hwf⟩ := G
  obtain ⟨T1, X1, e1, st1⟩ := initO X0 hx hZ hown (own_w hw 55 rfl) (own_w hw 12 rfl) (own_w hw 13 rfl) e0 (g := (mkF m 1 #[.val (.ref ob0)] [(.ref ob0)])) rfl (by rw [hml]; rfl) rfl (hb hby own_d12_1) (by decide) (W := 0) (by show 2 * 0 + _ ≤ _; exact Nat.le_of_eq rfl) (by decide)
  have g2 : ∀ t, Steps p.tables e below (T1.setTop (mkF m 4 #[.val (.ref ob0)] [])) t → Steps p.tables e below (s₁.setTop (entryFrame m #[(.ref ob0)] 1)) t := by
    intro t k
    refine g0 t ?_
    show Steps p.tables e below (s₁.setTop (mkF m 0 #[.val (.ref ob0)] [])) _
    refine XS.aloadN X0.here hx rfl (hb hby own_d12_0) rfl rfl ?_
    refine st1 _ ?_
    exact k
  obtain ⟨fs, hrt, hrun, hended, hW, hsame⟩ := X1.leave (v := none) (fun _ => rfl)
  refine ⟨_, _, g2 _ ?_, hrun, hended, _, _, rfl, ?_, ⟨_, rfl⟩, hW, hsame.mono (by decide) (by decide)⟩
  · show Steps p.tables e below (T1.setTop (mkF m 4 #[.val (.ref ob0)] [])) _
    exact X1.returnOut hx Bd.returns (hb hby own_d12_4) hrt
  · show own_Q_rmA10 Z ob0 cs wf h0 n0 _ T1.heap _
    rw [e1]
    exact ⟨rfl, N0, rfl⟩
theorem own_pd9 : parseMethodDescriptor "()V" = some ⟨[], none⟩ := by decide +kernel
theorem own_d11_4 : decode prog_13_method_1_code 4 = .ok (.aload_n 0, 1) := by decide +kernel
theorem own_d11_5 : decode prog_13_method_1_code 5 = .ok (.aload_n 1, 1) := by decide +kernel
theorem own_d11_6 : decode prog_13_method_1_code 6 = .ok (.putfield 7, 3) := by decide +kernel
theorem own_d11_9 : decode prog_13_method_1_code 9 = .ok (.aload_n 0, 1) := by decide +kernel
theorem own_d11_10 : decode prog_13_method_1_code 10 = .ok (.aload_n 2, 1) := by decide +kernel
theorem own_d11_11 : decode prog_13_method_1_code 11 = .ok (.putfield 13, 3) := by decide +kernel
theorem own_la2 {Z : State} {a0 : Array Value} (hw : ∀ d ∈ tables_1, d.before a0 Z = true) : Laid Z a0 "com/example/momus/momus/cli/Option" "com/example/momus/momus/cli/Option" "argument" "Ljava/lang/String;" := Or.inr (own_w hw 59 rfl)
theorem own_la3 {Z : State} {a0 : Array Value} (hw : ∀ d ∈ tables_1, d.before a0 Z = true) : Laid Z a0 "com/example/momus/momus/cli/Option" "com/example/momus/momus/cli/Option" "name" "Ljava/lang/String;" := Or.inr (own_w hw 57 rfl)
theorem own_ty2 : parseFieldDescriptor "Ljava/lang/String;" = some (.object "java/lang/String") := by decide
theorem own_d11_14 : decode prog_13_method_1_code 14 = .ok (.aload_n 0, 1) := by decide +kernel
theorem own_d11_15 : decode prog_13_method_1_code 15 = .ok (.aload_n 3, 1) := by decide +kernel
theorem own_d11_16 : decode prog_13_method_1_code 16 = .ok (.putfield 16, 3) := by decide +kernel
theorem own_la4 {Z : State} {a0 : Array Value} (hw : ∀ d ∈ tables_1, d.before a0 Z = true) : Laid Z a0 "com/example/momus/momus/cli/Option" "com/example/momus/momus/cli/Option" "description" "Ljava/lang/String;" := Or.inr (own_w hw 61 rfl)
theorem own_d11_19 : decode prog_13_method_1_code 19 = .ok (.aload_n 0, 1) := by decide +kernel
theorem own_d11_20 : decode prog_13_method_1_code 20 = .ok (.aload 4, 2) := by decide +kernel
theorem own_d11_22 : decode prog_13_method_1_code 22 = .ok (.putfield 19, 3) := by decide +kernel
theorem own_la5 {Z : State} {a0 : Array Value} (hw : ∀ d ∈ tables_1, d.before a0 Z = true) : Laid Z a0 "com/example/momus/momus/cli/Option" "com/example/momus/momus/cli/Option" "byDefault" "Ljava/lang/String;" := Or.inr (own_w hw 63 rfl)
theorem own_d11_25 : decode prog_13_method_1_code 25 = .ok (.return_, 1) := by decide +kernel
def own_Q_rmA9 (Z : State) (ob0 : Addr) (ob1 : Addr) (ob3 : Addr)  (cs : Int32) (wf : Value) (h0 : Heap) (n0 : Nat) (v : Option Value) (h : Heap) (L : List Loc) : Prop := v = none ∧ Fr n0 L ∧ Keep h0 h [ob0] ∧ Exa Z h ob0 "com/example/momus/momus/cli/Option" ∧ Fld Z h ob0 "com/example/momus/momus/cli/Option" "name" "Ljava/lang/String;" (.ref ob1) ∧ Fld Z h ob0 "com/example/momus/momus/cli/Option" "argument" "Ljava/lang/String;" .null
set_option maxRecDepth 65536 in
set_option maxHeartbeats 40000000 in
theorem rmA9 (l : Launch) (Z : State) (a0 : Array Value) (hw : ∀ d ∈ tables_1, d.before a0 Z = true) (ws : List Jvm.Cond) (ob0 : Addr) (ob1 : Addr) (ob3 : Addr)  (cs : Int32) (wf : Value) (h0 : Heap) (n0 : Nat) (O0 : Old Z n0 h0) (G : own_Gl Z cs wf) (E_ob0 : Exa Z h0 ob0 "com/example/momus/momus/cli/Option") (F_ob0_argument : Fld Z h0 ob0 "com/example/momus/momus/cli/Option" "argument" "Ljava/lang/String;" .null) (F_ob0_byDefault : Fld Z h0 ob0 "com/example/momus/momus/cli/Option" "byDefault" "Ljava/lang/String;" .null) (F_ob0_description : Fld Z h0 ob0 "com/example/momus/momus/cli/Option" "description" "Ljava/lang/String;" .null) (F_ob0_name : Fld Z h0 ob0 "com/example/momus/momus/cli/Option" "name" "Ljava/lang/String;" .null) (gz_ob0 : n0 ≤ ob0) :
    MetFree l own_y9 (head1 (Jvm.Cond.code own_y9 prog_13_method_1_code 5 none :: ws) ({ frames := 2, cells := 0, slots := 0, locals := 24 } : Room)) (fun a U => a = #[(.ref ob0), (.ref ob1), .null, (.ref ob3), .null] ∧ Z.Warmed39 U.vm ∧ U.heap = h0) (fun _ _ _ _ _ => True) (fun _ U o U' => ∃ v L, o = .returned v ∧ own_Q_rmA9 Z ob0 ob1 ob3 cs wf h0 n0 v U'.heap L ∧ FrameEnd U o U' L ({ frames := 2, cells := 0, slots := 0, locals := 24 } : Room).cells ({ frames := 2, cells := 0, slots := 0, locals := 24 } : Room).slots) := by
  refine MetFree.of_bodySF (plainFor_of_name own_pn4) hisR ?_
  intro p e s m args below meth c s₁ Bd hml0 hP hK
  obtain ⟨rfl, hZ, hh⟩ := hP
  have hx := Bd.exec
  have hby := Bd.bytes
  have hml : c.maxLocals = 5 := hml0
  have hown : s.vm.findClass "com/example/momus/momus/cli/Option" = some m.cls := findClass_of_methodNamed Bd.named
  have hnm := (name_of_methodNamed Bd.named Bd.method).1
  have X0 : Stand p l e ({ frames := 2, cells := 0, slots := 0, locals := 24 } : Room) s m #[(.ref ob0), (.ref ob1), .null, (.ref ob3), .null] below meth c s₁ [] 0 0 := Stand.of_body Bd
  have e0 : s₁.heap = h0 := by rw [← hh, Bd.state]; rfl
  have N0 := Fr.nil n0
  have Z0 : n0 ≤ h0.size := O0.1 ▸ O0.2.1
  have g0 : ∀ t, Steps p.tables e below (s₁.setTop (mkF m 0 #[.val (.ref ob0), .val (.ref ob1), .val .null, .val (.ref ob3), .val .null] [])) t → Steps p.tables e below (s₁.setTop (entryFrame m #[(.ref ob0), (.ref ob1), .null, (.ref ob3), .null] 5)) t := fun t k => castTop (own_ef11 m (ob0) (ob1) (ob3)) k
  have G0 := G
  obtain ⟨S_CS, hcs, S_WF, hwf⟩ := G
  obtain ⟨_, _, ⟨T1, L1, k1, n1⟩, -, X1, ⟨Lc1, hQ1, l1, y1, z1⟩, st1⟩ := X0.specialBack hx (y := own_y10) rfl hown (mvT hZ (own_w hw 50 rfl)) (mvT hZ (own_w hw 51 rfl)) (mvT hZ (own_w hw 54 rfl)) (by decide) (backOf (W := 0) (rmA10 l Z a0 hw [] ob0  cs wf h0 n0 O0 G0 E_ob0 F_ob0_argument F_ob0_byDefault F_ob0_description F_ob0_name  ) hZ (own_w hw 54 rfl) (own_w hw 53 rfl) (by decide) (by decide)) (g := (mkF m 1 #[.val (.ref ob0), .val (.ref ob1), .val .null, .val (.ref ob3), .val .null] [(.ref ob0)])) rfl (by rw [hml]; rfl) (Steps.refl _) (a := ob0) (argsL := []) (rest := []) (lenOf own_pd9 rfl) rfl (by show 2 * 0 + _ ≤ _; exact Nat.le_of_eq rfl) (hb hby own_d11_1) (fun _ _ => ⟨rfl, e0, (by decide : 0 + 0 ≤ _), (by decide : 0 + 0 ≤ _)⟩)
  dsimp only [Pt.U, Pt.locs, Pt.cells, Pt.slots] at X1 l1 y1 z1 st1 hQ1
  subst l1 y1 z1
  obtain ⟨rfl, Nq1, e1⟩ := hQ1
  have N1 := Fr.app N0 Nq1
  obtain ⟨T2, h2, X2, e2, W2, st2⟩ := putF X1 hx hZ hown (host := "") (Or.inl (own_w hw 56 rfl)) Via.refl e1 F_ob0_name E_ob0 (Or.inr ⟨(own_w hw 57 rfl), rfl, hnm⟩) (own_w hw 45 rfl) (ty := (.object "java/lang/String")) (by decide) rfl rfl (g := (mkF m 6 #[.val (.ref ob0), .val (.ref ob1), .val .null, .val (.ref ob3), .val .null] [(.ref ob1), (.ref ob0)])) rfl rfl (hb hby own_d11_6)
  have Fw2 := F_ob0_name.same W2
  have N2 := Fr.snoc X2 N1 gz_ob0
  have f3 := (E_ob0.wr W2)
  have f4 := (F_ob0_argument.other W2 (Or.inr (slot_ne (own_la2 hw) (own_la3 hw) (by decide) own_ty2 own_ty2)))
  obtain ⟨T5, h5, X5, e5, W5, st5⟩ := putF X2 hx hZ hown (host := "") (Or.inl (own_w hw 58 rfl)) Via.refl e2 f4 f3 (Or.inr ⟨(own_w hw 59 rfl), rfl, hnm⟩) (own_w hw 45 rfl) (ty := (.object "java/lang/String")) (by decide) rfl rfl (g := (mkF m 11 #[.val (.ref ob0), .val (.ref ob1), .val .null, .val (.ref ob3), .val .null] [.null, (.ref ob0)])) rfl rfl (hb hby own_d11_11)
  have Fw5 := f4.same W5
  have N5 := Fr.snoc X5 N2 gz_ob0
  have f6 := (f3.wr W5)
  have f7 := ((F_ob0_description.other W2 (Or.inr (slot_ne (own_la4 hw) (own_la3 hw) (by decide) own_ty2 own_ty2))).other W5 (Or.inr (slot_ne (own_la4 hw) (own_la2 hw) (by decide) own_ty2 own_ty2)))
  obtain ⟨T8, h8, X8, e8, W8, st8⟩ := putF X5 hx hZ hown (host := "") (Or.inl (own_w hw 60 rfl)) Via.refl e5 f7 f6 (Or.inr ⟨(own_w hw 61 rfl), rfl, hnm⟩) (own_w hw 45 rfl) (ty := (.object "java/lang/String")) (by decide) rfl rfl (g := (mkF m 16 #[.val (.ref ob0), .val (.ref ob1), .val .null, .val (.ref ob3), .val .null] [(.ref ob3), (.ref ob0)])) rfl rfl (hb hby own_d11_16)
  have Fw8 := f7.same W8
  have N8 := Fr.snoc X8 N5 gz_ob0
  have f9 := (f6.wr W8)
  have f10 := (((F_ob0_byDefault.other W2 (Or.inr (slot_ne (own_la5 hw) (own_la3 hw) (by decide) own_ty2 own_ty2))).other W5 (Or.inr (slot_ne (own_la5 hw) (own_la2 hw) (by decide) own_ty2 own_ty2))).other W8 (Or.inr (slot_ne (own_la5 hw) (own_la4 hw) (by decide) own_ty2 own_ty2)))
  obtain ⟨T11, h11, X11, e11, W11, st11⟩ := putF X8 hx hZ hown (host := "") (Or.inl (own_w hw 62 rfl)) Via.refl e8 f10 f9 (Or.inr ⟨(own_w hw 63 rfl), rfl, hnm⟩) (own_w hw 45 rfl) (ty := (.object "java/lang/String")) (by decide) rfl rfl (g := (mkF m 22 #[.val (.ref ob0), .val (.ref ob1), .val .null, .val (.ref ob3), .val .null] [.null, (.ref ob0)])) rfl rfl (hb hby own_d11_22)
  have Fw11 := f10.same W11
  have N11 := Fr.snoc X11 N8 gz_ob0
  have g12 : ∀ t, Steps p.tables e below (T11.setTop (mkF m 25 #[.val (.ref ob0), .val (.ref ob1), .val .null, .val (.ref ob3), .val .null] [])) t → Steps p.tables e below (s₁.setTop (entryFrame m #[(.ref ob0), (.ref ob1), .null, (.ref ob3), .null] 5)) t := by
    intro t k
    refine g0 t ?_
    show Steps p.tables e below (s₁.setTop (mkF m 0 #[.val (.ref ob0), .val (.ref ob1), .val .null, .val (.ref ob3), .val .null] [])) _
    refine XS.aloadN X0.here hx rfl (hb hby own_d11_0) rfl rfl ?_
    refine st1.trans ?_
    refine XS.aloadN X1.here hx rfl (hb hby own_d11_4) rfl rfl ?_
    refine XS.aloadN X1.here hx rfl (hb hby own_d11_5) rfl rfl ?_
    show Steps p.tables e below (T1.setTop (mkF m 6 #[.val (.ref ob0), .val (.ref ob1), .val .null, .val (.ref ob3), .val .null] [(.ref ob1), (.ref ob0)])) _
    refine st2 _ ?_
    refine XS.aloadN X2.here hx rfl (hb hby own_d11_9) rfl rfl ?_
    refine XS.aloadN X2.here hx rfl (hb hby own_d11_10) rfl rfl ?_
    refine st5 _ ?_
    show Steps p.tables e below (T5.setTop (mkF m 14 #[.val (.ref ob0), .val (.ref ob1), .val .null, .val (.ref ob3), .val .null] [])) _
    refine XS.aloadN X5.here hx rfl (hb hby own_d11_14) rfl rfl ?_
    refine XS.aloadN X5.here hx rfl (hb hby own_d11_15) rfl rfl ?_
    refine st8 _ ?_
    refine XS.aloadN X8.here hx rfl (hb hby own_d11_19) rfl rfl ?_
    show Steps p.tables e below (T8.setTop (mkF m 20 #[.val (.ref ob0), .val (.ref ob1), .val .null, .val (.ref ob3), .val .null] [(.ref ob0)])) _
    refine XS.aload X8.here hx rfl (hb hby own_d11_20) rfl rfl ?_
    refine st11 _ ?_
    exact k
  obtain ⟨fs, hrt, hrun, hended, hW, hsame⟩ := X11.leave (v := none) (fun _ => rfl)
  have f13 := (f9.wr W11)
  have f14 := (((Fw2.other W5 (Or.inr (slot_ne (own_la3 hw) (own_la2 hw) (by decide) own_ty2 own_ty2))).other W8 (Or.inr (slot_ne (own_la3 hw) (own_la4 hw) (by decide) own_ty2 own_ty2))).other W11 (Or.inr (slot_ne (own_la3 hw) (own_la5 hw) (by decide) own_ty2 own_ty2)))
  have f15 := ((Fw5.other W8 (Or.inr (slot_ne (own_la2 hw) (own_la4 hw) (by decide) own_ty2 own_ty2))).other W11 (Or.inr (slot_ne (own_la2 hw) (own_la5 hw) (by decide) own_ty2 own_ty2)))
  refine ⟨_, _, g12 _ ?_, hrun, hended, _, _, rfl, ?_, ⟨_, rfl⟩, hW, hsame.mono (by decide) (by decide)⟩
  · show Steps p.tables e below (T11.setTop (mkF m 25 #[.val (.ref ob0), .val (.ref ob1), .val .null, .val (.ref ob3), .val .null] [])) _
    exact X11.returnOut hx Bd.returns (hb hby own_d11_25) hrt
  · show own_Q_rmA9 Z ob0 ob1 ob3 cs wf h0 n0 _ T11.heap _
    rw [e11]
    exact ⟨rfl, N11, (Keep.wr (Keep.wr (Keep.wr (Keep.wr (Keep.refl h0 [ob0]) W2 (Or.inl (List.mem_of_getElem? (i := 0) rfl))) W5 (Or.inl (List.mem_of_getElem? (i := 0) rfl))) W8 (Or.inl (List.mem_of_getElem? (i := 0) rfl))) W11 (Or.inl (List.mem_of_getElem? (i := 0) rfl))), f13, f14, f15⟩
theorem own_pd10 : parseMethodDescriptor "(Ljava/lang/String;Ljava/lang/String;Ljava/lang/String;Ljava/lang/String;)V" = some ⟨[(.object "java/lang/String"), (.object "java/lang/String"), (.object "java/lang/String"), (.object "java/lang/String")], none⟩ := by decide +kernel
abbrev own_y11 : MethodName := ⟨"com/example/momus/momus/cli/Option", "takesValue", "()Z"⟩
theorem own_d13_0 : decode prog_13_method_3_code 0 = .ok (.aload_n 0, 1) := by decide +kernel
theorem own_d13_1 : decode prog_13_method_3_code 1 = .ok (.getfield 13, 3) := by decide +kernel
theorem own_d13_4 : decode prog_13_method_3_code 4 = .ok (.ifnull 7, 3) := by decide +kernel
theorem own_d13_11 : decode prog_13_method_3_code 11 = .ok (.iconst 0, 1) := by decide +kernel
theorem own_d13_12 : decode prog_13_method_3_code 12 = .ok (.ireturn, 1) := by decide +kernel
def own_Q_rmA11 (Z : State) (ob0 : Addr)  (cs : Int32) (wf : Value) (h0 : Heap) (n0 : Nat) (v : Option Value) (h : Heap) (L : List Loc) : Prop := v = some (.int (0 : Int32)) ∧ Fr n0 L ∧ h = h0
set_option maxRecDepth 65536 in
set_option maxHeartbeats 40000000 in
theorem rmA11 (l : Launch) (Z : State) (a0 : Array Value) (hw : ∀ d ∈ tables_1, d.before a0 Z = true) (ws : List Jvm.Cond) (ob0 : Addr)  (cs : Int32) (wf : Value) (h0 : Heap) (n0 : Nat) (O0 : Old Z n0 h0) (G : own_Gl Z cs wf) (E_ob0 : Exa Z h0 ob0 "com/example/momus/momus/cli/Option") (F_ob0_argument : Fld Z h0 ob0 "com/example/momus/momus/cli/Option" "argument" "Ljava/lang/String;" .null) :
    MetFree l own_y11 (head1 (Jvm.Cond.code own_y11 prog_13_method_3_code 1 (some .boolean) :: ws) ({ frames := 0, cells := 0, slots := 0, locals := 0 } : Room)) (fun a U => a = #[(.ref ob0)] ∧ Z.Warmed39 U.vm ∧ U.heap = h0) (fun _ _ _ _ _ => True) (fun _ U o U' => ∃ v L, o = .returned v ∧ own_Q_rmA11 Z ob0 cs wf h0 n0 v U'.heap L ∧ FrameEnd U o U' L ({ frames := 0, cells := 0, slots := 0, locals := 0 } : Room).cells ({ frames := 0, cells := 0, slots := 0, locals := 0 } : Room).slots) := by
  refine MetFree.of_bodySF (plainFor_of_name own_pn4) hisR ?_
  intro p e s m args below meth c s₁ Bd hml0 hP hK
  obtain ⟨rfl, hZ, hh⟩ := hP
  have hx := Bd.exec
  have hby := Bd.bytes
  have hml : c.maxLocals = 1 := hml0
  have hown : s.vm.findClass "com/example/momus/momus/cli/Option" = some m.cls := findClass_of_methodNamed Bd.named
  have hnm := (name_of_methodNamed Bd.named Bd.method).1
  have X0 : Stand p l e ({ frames := 0, cells := 0, slots := 0, locals := 0 } : Room) s m #[(.ref ob0)] below meth c s₁ [] 0 0 := Stand.of_body Bd
  have e0 : s₁.heap = h0 := by rw [← hh, Bd.state]; rfl
  have N0 := Fr.nil n0
  have Z0 : n0 ≤ h0.size := O0.1 ▸ O0.2.1
  have g0 : ∀ t, Steps p.tables e below (s₁.setTop (mkF m 0 #[.val (.ref ob0)] [])) t → Steps p.tables e below (s₁.setTop (entryFrame m #[(.ref ob0)] 1)) t := fun t k => castTop (own_ef12 m (ob0)) k
  have G0 := G
  obtain ⟨S_CS, hcs, S_WF, hwf⟩ := G
  obtain ⟨T1, X1, e1, st1⟩ := getF X0 hx hZ hown (host := "") (Or.inl (own_w hw 58 rfl)) Via.refl e0 F_ob0_argument (g := (mkF m 1 #[.val (.ref ob0)] [(.ref ob0)])) rfl rfl (hb hby own_d13_1)
  have g2 : ∀ t, Steps p.tables e below (T1.setTop (mkF m 12 #[.val (.ref ob0)] [(.int (0 : Int32))])) t → Steps p.tables e below (s₁.setTop (entryFrame m #[(.ref ob0)] 1)) t := by
    intro t k
    refine g0 t ?_
    show Steps p.tables e below (s₁.setTop (mkF m 0 #[.val (.ref ob0)] [])) _
    refine XS.aloadN X0.here hx rfl (hb hby own_d13_0) rfl rfl ?_
    refine st1 _ ?_
    refine XS.ifnullYes X1.here hx rfl (pc0 := 4) (pc' := 11) rfl (hb hby own_d13_4) rfl (by decide) (by decide) ?_
    refine XS.iconst X1.here hx rfl (hb hby own_d13_11) ?_
    exact k
  obtain ⟨fs, hrt, hrun, hended, hW, hsame⟩ := X1.leave (v := some (.int (0 : Int32))) (fun h => by rw [Bd.returns] at h; cases h)
  refine ⟨_, _, g2 _ ?_, hrun, hended, _, _, rfl, ?_, ⟨_, rfl⟩, hW, hsame.mono (by decide) (by decide)⟩
  · show Steps p.tables e below (T1.setTop (mkF m 12 #[.val (.ref ob0)] [(.int (0 : Int32))])) _
    exact retN X1 hx (t := .boolean) Bd.returns (by simp) (hb hby own_d13_12) hrt
  · show own_Q_rmA11 Z ob0 cs wf h0 n0 _ T1.heap _
    rw [e1]
    exact ⟨rfl, N0, rfl⟩
theorem own_pd11 : parseMethodDescriptor "()Z" = some ⟨[], some .boolean⟩ := by decide +kernel
abbrev own_y12 : MethodName := ⟨"com/example/momus/momus/cli/Option", "term", "()Ljava/lang/String;"⟩
theorem own_d14_0 : decode prog_13_method_4_code 0 = .ok (.aload_n 0, 1) := by decide +kernel
theorem own_d14_1 : decode prog_13_method_4_code 1 = .ok (.getfield 13, 3) := by decide +kernel
theorem own_d14_4 : decode prog_13_method_4_code 4 = .ok (.ifnonnull 10, 3) := by decide +kernel
theorem own_d14_7 : decode prog_13_method_4_code 7 = .ok (.aload_n 0, 1) := by decide +kernel
theorem own_d14_8 : decode prog_13_method_4_code 8 = .ok (.getfield 7, 3) := by decide +kernel
theorem own_d14_11 : decode prog_13_method_4_code 11 = .ok (.goto 32, 3) := by decide +kernel
theorem own_d14_43 : decode prog_13_method_4_code 43 = .ok (.areturn, 1) := by decide +kernel
def own_Q_rmA12 (Z : State) (ob0 : Addr) (ob0_name : Addr)  (cs : Int32) (wf : Value) (h0 : Heap) (n0 : Nat) (v : Option Value) (h : Heap) (L : List Loc) : Prop := v = some (.ref ob0_name) ∧ Fr n0 L ∧ h = h0
set_option maxRecDepth 65536 in
set_option maxHeartbeats 40000000 in
theorem rmA12 (l : Launch) (Z : State) (a0 : Array Value) (hw : ∀ d ∈ tables_1, d.before a0 Z = true) (ws : List Jvm.Cond) (ob0 : Addr) (ob0_name : Addr)  (cs : Int32) (wf : Value) (h0 : Heap) (n0 : Nat) (O0 : Old Z n0 h0) (G : own_Gl Z cs wf) (E_ob0 : Exa Z h0 ob0 "com/example/momus/momus/cli/Option") (F_ob0_argument : Fld Z h0 ob0 "com/example/momus/momus/cli/Option" "argument" "Ljava/lang/String;" .null) (F_ob0_name : Fld Z h0 ob0 "com/example/momus/momus/cli/Option" "name" "Ljava/lang/String;" (.ref ob0_name)) :
    MetFree l own_y12 (head1 (Jvm.Cond.code own_y12 prog_13_method_4_code 1 (some (.object "java/lang/String")) :: ws) ({ frames := 0, cells := 0, slots := 0, locals := 0 } : Room)) (fun a U => a = #[(.ref ob0)] ∧ Z.Warmed39 U.vm ∧ U.heap = h0) (fun _ _ _ _ _ => True) (fun _ U o U' => ∃ v L, o = .returned v ∧ own_Q_rmA12 Z ob0 ob0_name cs wf h0 n0 v U'.heap L ∧ FrameEnd U o U' L ({ frames := 0, cells := 0, slots := 0, locals := 0 } : Room).cells ({ frames := 0, cells := 0, slots := 0, locals := 0 } : Room).slots) := by
  refine MetFree.of_bodySF (plainFor_of_name own_pn4) hisR ?_
  intro p e s m args below meth c s₁ Bd hml0 hP hK
  obtain ⟨rfl, hZ, hh⟩ := hP
  have hx := Bd.exec
  have hby := Bd.bytes
  have hml : c.maxLocals = 1 := hml0
  have hown : s.vm.findClass "com/example/momus/momus/cli/Option" = some m.cls := findClass_of_methodNamed Bd.named
  have hnm := (name_of_methodNamed Bd.named Bd.method).1
  have X0 : Stand p l e ({ frames := 0, cells := 0, slots := 0, locals := 0 } : Room) s m #[(.ref ob0)] below meth c s₁ [] 0 0 := Stand.of_body Bd
  have e0 : s₁.heap = h0 := by rw [← hh, Bd.state]; rfl
  have N0 := Fr.nil n0
  have Z0 : n0 ≤ h0.size := O0.1 ▸ O0.2.1
  have g0 : ∀ t, Steps p.tables e below (s₁.setTop (mkF m 0 #[.val (.ref ob0)] [])) t → Steps p.tables e below (s₁.setTop (entryFrame m #[(.ref ob0)] 1)) t := fun t k => castTop (own_ef12 m (ob0)) k
  have G0 := G
  obtain ⟨S_CS, hcs, S_WF, hwf⟩ := G
  obtain ⟨T1, X1, e1, st1⟩ := getF X0 hx hZ hown (host := "") (Or.inl (own_w hw 58 rfl)) Via.refl e0 F_ob0_argument (g := (mkF m 1 #[.val (.ref ob0)] [(.ref ob0)])) rfl rfl (hb hby own_d14_1)
  obtain ⟨T2, X2, e2, st2⟩ := getF X1 hx hZ hown (host := "") (Or.inl (own_w hw 56 rfl)) Via.refl e1 F_ob0_name (g := (mkF m 8 #[.val (.ref ob0)] [(.ref ob0)])) rfl rfl (hb hby own_d14_8)
  have g3 : ∀ t, Steps p.tables e below (T2.setTop (mkF m 43 #[.val (.ref ob0)] [(.ref ob0_name)])) t → Steps p.tables e below (s₁.setTop (entryFrame m #[(.ref ob0)] 1)) t := by
    intro t k
    refine g0 t ?_
    show Steps p.tables e below (s₁.setTop (mkF m 0 #[.val (.ref ob0)] [])) _
    refine XS.aloadN X0.here hx rfl (hb hby own_d14_0) rfl rfl ?_
    refine st1 _ ?_
    refine XS.ifnonnullNo X1.here hx rfl (hb hby own_d14_4) rfl ?_
    refine XS.aloadN X1.here hx rfl (hb hby own_d14_7) rfl rfl ?_
    show Steps p.tables e below (T1.setTop (mkF m 8 #[.val (.ref ob0)] [(.ref ob0)])) _
    refine st2 _ ?_
    refine XS.goto X2.here hx rfl (pc0 := 11) (pc' := 43) rfl (hb hby own_d14_11) (by decide) (by decide) ?_
    exact k
  obtain ⟨fs, hrt, hrun, hended, hW, hsame⟩ := X2.leave (v := some (.ref ob0_name)) (fun h => by rw [Bd.returns] at h; cases h)
  refine ⟨_, _, g3 _ ?_, hrun, hended, _, _, rfl, ?_, ⟨_, rfl⟩, hW, hsame.mono (by decide) (by decide)⟩
  · show Steps p.tables e below (T2.setTop (mkF m 43 #[.val (.ref ob0)] [(.ref ob0_name)])) _
    jvm_step X2.here [X2.here.top, hx, (hb hby own_d14_43), X2.method', Bd.returns, Value.isRef, FieldType.isReference]
    first | (intro acts; rw [hrt _ acts rfl rfl rfl]) | rw [hrt _ _ rfl rfl rfl]
    exact Steps.refl _
  · show own_Q_rmA12 Z ob0 ob0_name cs wf h0 n0 _ T2.heap _
    rw [e2]
    exact ⟨rfl, N0, rfl⟩
theorem own_pd12 : parseMethodDescriptor "()Ljava/lang/String;" = some ⟨[], some (.object "java/lang/String")⟩ := by decide +kernel
abbrev own_y13 : MethodName := ⟨"java/lang/String", "equals", "(Ljava/lang/Object;)Z"⟩
theorem own_ef15 (m : MethodId) (x0 : Addr) (x1 : Addr) : entryFrame m #[(.ref x0), (.ref x1)] 3 = mkF m 0 #[.val (.ref x0), .val (.ref x1), .unset] [] := by first | (simp [entryFrame, mkF, argsToLocals, Value.category]; done) | rfl
theorem own_d15_0 : decode jdk_42_method_66_code 0 = .ok (.aload_n 0, 1) := by decide +kernel
theorem own_d15_1 : decode jdk_42_method_66_code 1 = .ok (.aload_n 1, 1) := by decide +kernel
theorem own_d15_2 : decode jdk_42_method_66_code 2 = .ok (.if_acmp .ne 5, 3) := by decide +kernel
theorem own_d15_5 : decode jdk_42_method_66_code 5 = .ok (.iconst 1, 1) := by decide +kernel
theorem own_d15_6 : decode jdk_42_method_66_code 6 = .ok (.ireturn, 1) := by decide +kernel
def own_Q_rmA13 (Z : State) (ob0 : Addr) (ob0_value : Addr) (k_ob0_value : ClassId) (ob0_value_l : List Value)  (cs : Int32) (wf : Value) (h0 : Heap) (n0 : Nat) (v : Option Value) (h : Heap) (L : List Loc) : Prop := v = some (.int (1 : Int32)) ∧ Fr n0 L ∧ h = h0
set_option maxRecDepth 65536 in
set_option maxHeartbeats 40000000 in
theorem rmA13 (l : Launch) (Z : State) (a0 : Array Value) (hw : ∀ d ∈ tables_1, d.before a0 Z = true) (ws : List Jvm.Cond) (ob0 : Addr) (ob0_value : Addr) (k_ob0_value : ClassId) (ob0_value_l : List Value)  (cs : Int32) (wf : Value) (h0 : Heap) (n0 : Nat) (O0 : Old Z n0 h0) (G : own_Gl Z cs wf) (E_ob0 : Exa Z h0 ob0 "java/lang/String") (F_ob0_coder : Fld Z h0 ob0 "java/lang/String" "coder" "B" (.int (0 : Int32))) (V_ob0_value : Arv Z h0 ob0_value k_ob0_value .byte (2 : Int32) ob0_value_l (.int (0 : Int32))) (F_ob0_value : Fld Z h0 ob0 "java/lang/String" "value" "[B" (.ref ob0_value)) :
    MetFree l own_y13 (head1 (Jvm.Cond.code own_y13 jdk_42_method_66_code 3 (some .boolean) :: ws) ({ frames := 0, cells := 0, slots := 0, locals := 0 } : Room)) (fun a U => a = #[(.ref ob0), (.ref ob0)] ∧ Z.Warmed39 U.vm ∧ U.heap = h0) (fun _ _ _ _ _ => True) (fun _ U o U' => ∃ v L, o = .returned v ∧ own_Q_rmA13 Z ob0 ob0_value k_ob0_value ob0_value_l cs wf h0 n0 v U'.heap L ∧ FrameEnd U o U' L ({ frames := 0, cells := 0, slots := 0, locals := 0 } : Room).cells ({ frames := 0, cells := 0, slots := 0, locals := 0 } : Room).slots) := by
  refine MetFree.of_bodySF (plainFor_of_name own_pn1) hisR ?_
  intro p e s m args below meth c s₁ Bd hml0 hP hK
  obtain ⟨rfl, hZ, hh⟩ := hP
  have hx := Bd.exec
  have hby := Bd.bytes
  have hml : c.maxLocals = 3 := hml0
  have hown : s.vm.findClass "java/lang/String" = some m.cls := findClass_of_methodNamed Bd.named
  have hnm := (name_of_methodNamed Bd.named Bd.method).1
  have X0 : Stand p l e ({ frames := 0, cells := 0, slots := 0, locals := 0 } : Room) s m #[(.ref ob0), (.ref ob0)] below meth c s₁ [] 0 0 := Stand.of_body Bd
  have e0 : s₁.heap = h0 := by rw [← hh, Bd.state]; rfl
  have N0 := Fr.nil n0
  have Z0 : n0 ≤ h0.size := O0.1 ▸ O0.2.1
  have g0 : ∀ t, Steps p.tables e below (s₁.setTop (mkF m 0 #[.val (.ref ob0), .val (.ref ob0), .unset] [])) t → Steps p.tables e below (s₁.setTop (entryFrame m #[(.ref ob0), (.ref ob0)] 3)) t := fun t k => castTop (own_ef15 m (ob0) (ob0)) k
  have G0 := G
  obtain ⟨S_CS, hcs, S_WF, hwf⟩ := G
  have g1 : ∀ t, Steps p.tables e below (s₁.setTop (mkF m 6 #[.val (.ref ob0), .val (.ref ob0), .unset] [(.int (1 : Int32))])) t → Steps p.tables e below (s₁.setTop (entryFrame m #[(.ref ob0), (.ref ob0)] 3)) t := by
    intro t k
    refine g0 t ?_
    show Steps p.tables e below (s₁.setTop (mkF m 0 #[.val (.ref ob0), .val (.ref ob0), .unset] [])) _
    refine XS.aloadN X0.here hx rfl (hb hby own_d15_0) rfl rfl ?_
    refine XS.aloadN X0.here hx rfl (hb hby own_d15_1) rfl rfl ?_
    refine Jvm.RoadKit.acmp (g := (mkF m 2 #[.val (.ref ob0), .val (.ref ob0), .unset] [(.ref ob0), (.ref ob0)])) X0 hx rfl rfl rfl (pc0 := 2) (pc' := 5) (same := true) rfl (hb hby own_d15_2) rfl (decide_eq_true rfl) (by decide) (by decide) ?_
    refine XS.iconst X0.here hx rfl (hb hby own_d15_5) ?_
    exact k
  obtain ⟨fs, hrt, hrun, hended, hW, hsame⟩ := X0.leave (v := some (.int (1 : Int32))) (fun h => by rw [Bd.returns] at h; cases h)
  refine ⟨_, _, g1 _ ?_, hrun, hended, _, _, rfl, ?_, ⟨_, rfl⟩, hW, hsame.mono (by decide) (by decide)⟩
  · show Steps p.tables e below (s₁.setTop (mkF m 6 #[.val (.ref ob0), .val (.ref ob0), .unset] [(.int (1 : Int32))])) _
    exact retN X0 hx (t := .boolean) Bd.returns (by simp) (hb hby own_d15_6) hrt
  · show own_Q_rmA13 Z ob0 ob0_value k_ob0_value ob0_value_l cs wf h0 n0 _ s₁.heap _
    rw [e0]
    exact ⟨rfl, N0, rfl⟩
theorem own_pd13 : parseMethodDescriptor "(Ljava/lang/Object;)Z" = some ⟨[(.object "java/lang/Object")], some .boolean⟩ := by decide +kernel
abbrev own_y14 : MethodName := ⟨"com/example/momus/momus/cli/Option", "flag", "(Ljava/lang/String;Ljava/lang/String;Ljava/lang/String;)Lcom/example/momus/momus/cli/Option;"⟩
theorem own_ef16 (m : MethodId) (x0 : Addr) (x1 : Addr) : entryFrame m #[(.ref x0), (.ref x1), .null] 3 = mkF m 0 #[.val (.ref x0), .val (.ref x1), .val .null] [] := by first | (simp [entryFrame, mkF, argsToLocals, Value.category]; done) | rfl
theorem own_d16_0 : decode prog_13_method_2_code 0 = .ok (.new 8, 3) := by decide +kernel
theorem own_d16_3 : decode prog_13_method_2_code 3 = .ok (.dup, 1) := by decide +kernel
theorem own_d16_4 : decode prog_13_method_2_code 4 = .ok (.aload_n 0, 1) := by decide +kernel
theorem own_d16_5 : decode prog_13_method_2_code 5 = .ok (.aconst_null, 1) := by decide +kernel
theorem own_d16_6 : decode prog_13_method_2_code 6 = .ok (.aload_n 1, 1) := by decide +kernel
theorem own_d16_7 : decode prog_13_method_2_code 7 = .ok (.aload_n 2, 1) := by decide +kernel
theorem own_d16_8 : decode prog_13_method_2_code 8 = .ok (.invokespecial 22, 3) := by decide +kernel
theorem own_d16_11 : decode prog_13_method_2_code 11 = .ok (.areturn, 1) := by decide +kernel
def own_Q_rmA14 (Z : State) (ob0 : Addr) (ob1 : Addr)  (cs : Int32) (wf : Value) (h0 : Heap) (n0 : Nat) (v : Option Value) (h : Heap) (L : List Loc) : Prop := ∃ fa : Addr, v = some (.ref fa) ∧ Fr n0 L ∧ Keep h0 h [] ∧ h0.size ≤ fa ∧ Exa Z h fa "com/example/momus/momus/cli/Option" ∧ Fld Z h fa "com/example/momus/momus/cli/Option" "argument" "Ljava/lang/String;" .null
set_option maxRecDepth 65536 in
set_option maxHeartbeats 40000000 in
theorem rmA14 (l : Launch) (Z : State) (a0 : Array Value) (hw : ∀ d ∈ tables_1, d.before a0 Z = true) (ws : List Jvm.Cond) (ob0 : Addr) (ob1 : Addr)  (cs : Int32) (wf : Value) (h0 : Heap) (n0 : Nat) (O0 : Old Z n0 h0) (G : own_Gl Z cs wf) :
    MetFree l own_y14 (head1 (Jvm.Cond.code own_y14 prog_13_method_2_code 3 (some (.object "com/example/momus/momus/cli/Option")) :: ws) ({ frames := 3, cells := 1, slots := 4, locals := 41 } : Room)) (fun a U => a = #[(.ref ob0), (.ref ob1), .null] ∧ Z.Warmed39 U.vm ∧ U.heap = h0) (fun _ _ _ _ _ => True) (fun _ U o U' => ∃ v L, o = .returned v ∧ own_Q_rmA14 Z ob0 ob1 cs wf h0 n0 v U'.heap L ∧ FrameEnd U o U' L ({ frames := 3, cells := 1, slots := 4, locals := 41 } : Room).cells ({ frames := 3, cells := 1, slots := 4, locals := 41 } : Room).slots) := by
  refine MetFree.of_bodySF (plainFor_of_name own_pn4) hisR ?_
  intro p e s m args below meth c s₁ Bd hml0 hP hK
  obtain ⟨rfl, hZ, hh⟩ := hP
  have hx := Bd.exec
  have hby := Bd.bytes
  have hml : c.maxLocals = 3 := hml0
  have hown : s.vm.findClass "com/example/momus/momus/cli/Option" = some m.cls := findClass_of_methodNamed Bd.named
  have hnm := (name_of_methodNamed Bd.named Bd.method).1
  have X0 : Stand p l e ({ frames := 3, cells := 1, slots := 4, locals := 41 } : Room) s m #[(.ref ob0), (.ref ob1), .null] below meth c s₁ [] 0 0 := Stand.of_body Bd
  have e0 : s₁.heap = h0 := by rw [← hh, Bd.state]; rfl
  have N0 := Fr.nil n0
  have Z0 : n0 ≤ h0.size := O0.1 ▸ O0.2.1
  have g0 : ∀ t, Steps p.tables e below (s₁.setTop (mkF m 0 #[.val (.ref ob0), .val (.ref ob1), .val .null] [])) t → Steps p.tables e below (s₁.setTop (entryFrame m #[(.ref ob0), (.ref ob1), .null] 3)) t := fun t k => castTop (own_ef16 m (ob0) (ob1)) k
  have G0 := G
  obtain ⟨S_CS, hcs, S_WF, hwf⟩ := G
  obtain ⟨T1, h1, X1, e1, E1, A1, D1, -, st1⟩ := newO X0 hx hZ hown (own_w hw 82 rfl) (own_w hw 45 rfl) (own_w hw 46 rfl) e0 (g := (mkF m 0 #[.val (.ref ob0), .val (.ref ob1), .val .null] [])) rfl (hb hby own_d16_0) (by decide) (by decide)
  obtain ⟨b1, q_b1⟩ : ∃ z, z = h0.size := ⟨_, rfl⟩
  rw [← q_b1] at A1 D1 st1
  have sz_b1 : h0.size ≤ b1 := Nat.le_of_eq q_b1.symm
  have gz_b1 : n0 ≤ b1 := Nat.le_trans Z0 sz_b1
  have F1_name : Fld Z h1 b1 "com/example/momus/momus/cli/Option" "name" "Ljava/lang/String;" .null := D1 (Or.inr (own_w hw 57 rfl)) (ty := (.object "java/lang/String")) (by decide)
  have F1_argument : Fld Z h1 b1 "com/example/momus/momus/cli/Option" "argument" "Ljava/lang/String;" .null := D1 (Or.inr (own_w hw 59 rfl)) (ty := (.object "java/lang/String")) (by decide)
  have F1_description : Fld Z h1 b1 "com/example/momus/momus/cli/Option" "description" "Ljava/lang/String;" .null := D1 (Or.inr (own_w hw 61 rfl)) (ty := (.object "java/lang/String")) (by decide)
  have F1_byDefault : Fld Z h1 b1 "com/example/momus/momus/cli/Option" "byDefault" "Ljava/lang/String;" .null := D1 (Or.inr (own_w hw 63 rfl)) (ty := (.object "java/lang/String")) (by decide)
  have o2 : Old Z n0 h1 := (Old.ext O0 E1)
  obtain ⟨_, _, ⟨T3, L3, k3, n3⟩, -, X3, ⟨Lc3, hQ3, l3, y3, z3⟩, st3⟩ := X1.specialBack hx (y := own_y9) rfl hown (mvT hZ (own_w hw 83 rfl)) (mvT hZ (own_w hw 48 rfl)) (mvT hZ (own_w hw 49 rfl)) (by decide) (backOf (W := 1) (rmA9 l Z a0 hw [] b1 ob0 ob1  cs wf h1 n0 o2 G0 A1 F1_argument F1_byDefault F1_description F1_name gz_b1 ) hZ (own_w hw 49 rfl) (own_w hw 46 rfl) (by decide) (by decide)) (g := (mkF m 8 #[.val (.ref ob0), .val (.ref ob1), .val .null] [.null, (.ref ob1), .null, (.ref ob0), (.ref b1), (.ref b1)])) rfl (by rw [hml]; rfl) (Steps.refl _) (a := b1) (argsL := [(.ref ob0), .null, (.ref ob1), .null]) (rest := [(.ref b1)]) (lenOf own_pd10 rfl) rfl (by show 2 * 0 + _ ≤ _; exact Nat.le_of_eq rfl) (hb hby own_d16_8) (fun _ _ => ⟨rfl, e1, (by decide : 1 + 0 ≤ _), (by decide : 4 + 0 ≤ _)⟩)
  dsimp only [Pt.U, Pt.locs, Pt.cells, Pt.slots] at X3 l3 y3 z3 st3 hQ3
  subst l3 y3 z3
  obtain ⟨rfl, Nq3, K3, Q3_0, Q3_1, Q3_2⟩ := hQ3
  have N3 := Fr.app N0 Nq3
  have g4 : ∀ t, Steps p.tables e below (T3.setTop (mkF m 11 #[.val (.ref ob0), .val (.ref ob1), .val .null] [(.ref b1)])) t → Steps p.tables e below (s₁.setTop (entryFrame m #[(.ref ob0), (.ref ob1), .null] 3)) t := by
    intro t k
    refine g0 t ?_
    show Steps p.tables e below (s₁.setTop (mkF m 0 #[.val (.ref ob0), .val (.ref ob1), .val .null] [])) _
    refine st1 _ ?_
    refine XS.dup X1.here hx rfl (hb hby own_d16_3) rfl rfl ?_
    refine XS.aloadN X1.here hx rfl (hb hby own_d16_4) rfl rfl ?_
    refine XS.aconstNull X1.here hx rfl (hb hby own_d16_5) ?_
    show Steps p.tables e below (T1.setTop (mkF m 6 #[.val (.ref ob0), .val (.ref ob1), .val .null] [.null, (.ref ob0), (.ref b1), (.ref b1)])) _
    refine XS.aloadN X1.here hx rfl (hb hby own_d16_6) rfl rfl ?_
    refine XS.aloadN X1.here hx rfl (hb hby own_d16_7) rfl rfl ?_
    refine st3.trans ?_
    exact k
  obtain ⟨fs, hrt, hrun, hended, hW, hsame⟩ := X3.leave (v := some (.ref b1)) (fun h => by rw [Bd.returns] at h; cases h)
  refine ⟨_, _, g4 _ ?_, hrun, hended, _, _, rfl, ?_, ⟨_, rfl⟩, hW, hsame.mono (by decide) (by decide)⟩
  · show Steps p.tables e below (T3.setTop (mkF m 11 #[.val (.ref ob0), .val (.ref ob1), .val .null] [(.ref b1)])) _
    jvm_step X3.here [X3.here.top, hx, (hb hby own_d16_11), X3.method', Bd.returns, Value.isRef, FieldType.isReference]
    first | (intro acts; rw [hrt _ acts rfl rfl rfl]) | rw [hrt _ _ rfl rfl rfl]
    exact Steps.refl _
  · show own_Q_rmA14 Z ob0 ob1 cs wf h0 n0 _ T3.heap _
    exact ⟨b1, rfl, N3, (Keep.trans (Keep.ext (Keep.refl h0 []) E1) K3 (allS (Or.inr sz_b1) all0)), sz_b1, Q3_0, Q3_2⟩
theorem own_pd14 : parseMethodDescriptor "(Ljava/lang/String;Ljava/lang/String;Ljava/lang/String;)Lcom/example/momus/momus/cli/Option;" = some ⟨[(.object "java/lang/String"), (.object "java/lang/String"), (.object "java/lang/String")], some (.object "com/example/momus/momus/cli/Option")⟩ := by decide +kernel
theorem own_ef17 (m : MethodId) (x0 : Addr) (x1 : Addr) (x3 : Addr) (x4 : Addr) : entryFrame m #[(.ref x0), (.ref x1), .null, (.ref x3), (.ref x4)] 5 = mkF m 0 #[.val (.ref x0), .val (.ref x1), .val .null, .val (.ref x3), .val (.ref x4)] [] := by first | (simp [entryFrame, mkF, argsToLocals, Value.category]; done) | rfl
def own_Q_rmA15 (Z : State) (ob0 : Addr) (ob1 : Addr) (ob3 : Addr) (ob4 : Addr)  (cs : Int32) (wf : Value) (h0 : Heap) (n0 : Nat) (v : Option Value) (h : Heap) (L : List Loc) : Prop := v = none ∧ Fr n0 L ∧ Keep h0 h [ob0] ∧ Exa Z h ob0 "com/example/momus/momus/cli/Option" ∧ Fld Z h ob0 "com/example/momus/momus/cli/Option" "name" "Ljava/lang/String;" (.ref ob1) ∧ Fld Z h ob0 "com/example/momus/momus/cli/Option" "argument" "Ljava/lang/String;" .null
set_option maxRecDepth 65536 in
set_option maxHeartbeats 40000000 in
theorem rmA15 (l : Launch) (Z : State) (a0 : Array Value) (hw : ∀ d ∈ tables_1, d.before a0 Z = true) (ws : List Jvm.Cond) (ob0 : Addr) (ob1 : Addr) (ob3 : Addr) (ob4 : Addr)  (cs : Int32) (wf : Value) (h0 : Heap) (n0 : Nat) (O0 : Old Z n0 h0) (G : own_Gl Z cs wf) (E_ob0 : Exa Z h0 ob0 "com/example/momus/momus/cli/Option") (F_ob0_argument : Fld Z h0 ob0 "com/example/momus/momus/cli/Option" "argument" "Ljava/lang/String;" .null) (F_ob0_byDefault : Fld Z h0 ob0 "com/example/momus/momus/cli/Option" "byDefault" "Ljava/lang/String;" .null) (F_ob0_description : Fld Z h0 ob0 "com/example/momus/momus/cli/Option" "description" "Ljava/lang/String;" .null) (F_ob0_name : Fld Z h0 ob0 "com/example/momus/momus/cli/Option" "name" "Ljava/lang/String;" .null) (gz_ob0 : n0 ≤ ob0) :
    MetFree l own_y9 (head1 (Jvm.Cond.code own_y9 prog_13_method_1_code 5 none :: ws) ({ frames := 2, cells := 0, slots := 0, locals := 24 } : Room)) (fun a U => a = #[(.ref ob0), (.ref ob1), .null, (.ref ob3), (.ref ob4)] ∧ Z.Warmed39 U.vm ∧ U.heap = h0) (fun _ _ _ _ _ => True) (fun _ U o U' => ∃ v L, o = .returned v ∧ own_Q_rmA15 Z ob0 ob1 ob3 ob4 cs wf h0 n0 v U'.heap L ∧ FrameEnd U o U' L ({ frames := 2, cells := 0, slots := 0, locals := 24 } : Room).cells ({ frames := 2, cells := 0, slots := 0, locals := 24 } : Room).slots) := by
  refine MetFree.of_bodySF (plainFor_of_name own_pn4) hisR ?_
  intro p e s m args below meth c s₁ Bd hml0 hP hK
  obtain ⟨rfl, hZ, hh⟩ := hP
  have hx := Bd.exec
  have hby := Bd.bytes
  have hml : c.maxLocals = 5 := hml0
  have hown : s.vm.findClass "com/example/momus/momus/cli/Option" = some m.cls := findClass_of_methodNamed Bd.named
  have hnm := (name_of_methodNamed Bd.named Bd.method).1
  have X0 : Stand p l e ({ frames := 2, cells := 0, slots := 0, locals := 24 } : Room) s m #[(.ref ob0), (.ref ob1), .null, (.ref ob3), (.ref ob4)] below meth c s₁ [] 0 0 := Stand.of_body Bd
  have e0 : s₁.heap = h0 := by rw [← hh, Bd.state]; rfl
  have N0 := Fr.nil n0
  have Z0 : n0 ≤ h0.size := O0.1 ▸ O0.2.1
  have g0 : ∀ t, Steps p.tables e below (s₁.setTop (mkF m 0 #[.val (.ref ob0), .val (.ref ob1), .val .null, .val (.ref ob3), .val (.ref ob4)] [])) t → Steps p.tables e below (s₁.setTop (entryFrame m #[(.ref ob0), (.ref ob1), .null, (.ref ob3), (.ref ob4)] 5)) t := fun t k => castTop (own_ef17 m (ob0) (ob1) (ob3) (ob4)) k
  have G0 := G
  obtain ⟨S_CS, hcs, S_WF, hwf⟩ := G
  obtain ⟨_, _, ⟨T1, L1, k1, n1⟩, -, X1, ⟨Lc1, hQ1, l1, y1, z1⟩, st1⟩ := X0.specialBack hx (y := own_y10) rfl hown (mvT hZ (own_w hw 50 rfl)) (mvT hZ (own_w hw 51 rfl)) (mvT hZ (own_w hw 54 rfl)) (by decide) (backOf (W := 0) (rmA10 l Z a0 hw [] ob0  cs wf h0 n0 O0 G0 E_ob0 F_ob0_argument F_ob0_byDefault F_ob0_description F_ob0_name  ) hZ (own_w hw 54 rfl) (own_w hw 53 rfl) (by decide) (by decide)) (g := (mkF m 1 #[.val (.ref ob0), .val (.ref ob1), .val .null, .val (.ref ob3), .val (.ref ob4)] [(.ref ob0)])) rfl (by rw [hml]; rfl) (Steps.refl _) (a := ob0) (argsL := []) (rest := []) (lenOf own_pd9 rfl) rfl (by show 2 * 0 + _ ≤ _; exact Nat.le_of_eq rfl) (hb hby own_d11_1) (fun _ _ => ⟨rfl, e0, (by decide : 0 + 0 ≤ _), (by decide : 0 + 0 ≤ _)⟩)
  dsimp only [Pt.U, Pt.locs, Pt.cells, Pt.slots] at X1 l1 y1 z1 st1 hQ1
  subst l1 y1 z1
  obtain ⟨rfl, Nq1, e1⟩ := hQ1
  have N1 := Fr.app N0 Nq1
  obtain ⟨T2, h2, X2, e2, W2, st2⟩ := putF X1 hx hZ hown (host := "") (Or.inl (own_w hw 56 rfl)) Via.refl e1 F_ob0_name E_ob0 (Or.inr ⟨(own_w hw 57 rfl), rfl, hnm⟩) (own_w hw 45 rfl) (ty := (.object "java/lang/String")) (by decide) rfl rfl (g := (mkF m 6 #[.val (.ref ob0), .val (.ref ob1), .val .null, .val (.ref ob3), .val (.ref ob4)] [(.ref ob1), (.ref ob0)])) rfl rfl (hb hby own_d11_6)
  have Fw2 := F_ob0_name.same W2
  have N2 := Fr.snoc X2 N1 gz_ob0
  have f3 := (E_ob0.wr W2)
  have f4 := (F_ob0_argument.other W2 (Or.inr (slot_ne (own_la2 hw) (own_la3 hw) (by decide) own_ty2 own_ty2)))
  obtain ⟨T5, h5, X5, e5, W5, st5⟩ := putF X2 hx hZ hown (host := "") (Or.inl (own_w hw 58 rfl)) Via.refl e2 f4 f3 (Or.inr ⟨(own_w hw 59 rfl), rfl, hnm⟩) (own_w hw 45 rfl) (ty := (.object "java/lang/String")) (by decide) rfl rfl (g := (mkF m 11 #[.val (.ref ob0), .val (.ref ob1), .val .null, .val (.ref ob3), .val (.ref ob4)] [.null, (.ref ob0)])) rfl rfl (hb hby own_d11_11)
  have Fw5 := f4.same W5
  have N5 := Fr.snoc X5 N2 gz_ob0
  have f6 := (f3.wr W5)
  have f7 := ((F_ob0_description.other W2 (Or.inr (slot_ne (own_la4 hw) (own_la3 hw) (by decide) own_ty2 own_ty2))).other W5 (Or.inr (slot_ne (own_la4 hw) (own_la2 hw) (by decide) own_ty2 own_ty2)))
  obtain ⟨T8, h8, X8, e8, W8, st8⟩ := putF X5 hx hZ hown (host := "") (Or.inl (own_w hw 60 rfl)) Via.refl e5 f7 f6 (Or.inr ⟨(own_w hw 61 rfl), rfl, hnm⟩) (own_w hw 45 rfl) (ty := (.object "java/lang/String")) (by decide) rfl rfl (g := (mkF m 16 #[.val (.ref ob0), .val (.ref ob1), .val .null, .val (.ref ob3), .val (.ref ob4)] [(.ref ob3), (.ref ob0)])) rfl rfl (hb hby own_d11_16)
  have Fw8 := f7.same W8
  have N8 := Fr.snoc X8 N5 gz_ob0
  have f9 := (f6.wr W8)
  have f10 := (((F_ob0_byDefault.other W2 (Or.inr (slot_ne (own_la5 hw) (own_la3 hw) (by decide) own_ty2 own_ty2))).other W5 (Or.inr (slot_ne (own_la5 hw) (own_la2 hw) (by decide) own_ty2 own_ty2))).other W8 (Or.inr (slot_ne (own_la5 hw) (own_la4 hw) (by decide) own_ty2 own_ty2)))
  obtain ⟨T11, h11, X11, e11, W11, st11⟩ := putF X8 hx hZ hown (host := "") (Or.inl (own_w hw 62 rfl)) Via.refl e8 f10 f9 (Or.inr ⟨(own_w hw 63 rfl), rfl, hnm⟩) (own_w hw 45 rfl) (ty := (.object "java/lang/String")) (by decide) rfl rfl (g := (mkF m 22 #[.val (.ref ob0), .val (.ref ob1), .val .null, .val (.ref ob3), .val (.ref ob4)] [(.ref ob4), (.ref ob0)])) rfl rfl (hb hby own_d11_22)
  have Fw11 := f10.same W11
  have N11 := Fr.snoc X11 N8 gz_ob0
  have g12 : ∀ t, Steps p.tables e below (T11.setTop (mkF m 25 #[.val (.ref ob0), .val (.ref ob1), .val .null, .val (.ref ob3), .val (.ref ob4)] [])) t → Steps p.tables e below (s₁.setTop (entryFrame m #[(.ref ob0), (.ref ob1), .null, (.ref ob3), (.ref ob4)] 5)) t := by
    intro t k
    refine g0 t ?_
    show Steps p.tables e below (s₁.setTop (mkF m 0 #[.val (.ref ob0), .val (.ref ob1), .val .null, .val (.ref ob3), .val (.ref ob4)] [])) _
    refine XS.aloadN X0.here hx rfl (hb hby own_d11_0) rfl rfl ?_
    refine st1.trans ?_
    refine XS.aloadN X1.here hx rfl (hb hby own_d11_4) rfl rfl ?_
    refine XS.aloadN X1.here hx rfl (hb hby own_d11_5) rfl rfl ?_
    show Steps p.tables e below (T1.setTop (mkF m 6 #[.val (.ref ob0), .val (.ref ob1), .val .null, .val (.ref ob3), .val (.ref ob4)] [(.ref ob1), (.ref ob0)])) _
    refine st2 _ ?_
    refine XS.aloadN X2.here hx rfl (hb hby own_d11_9) rfl rfl ?_
    refine XS.aloadN X2.here hx rfl (hb hby own_d11_10) rfl rfl ?_
    refine st5 _ ?_
    show Steps p.tables e below (T5.setTop (mkF m 14 #[.val (.ref ob0), .val (.ref ob1), .val .null, .val (.ref ob3), .val (.ref ob4)] [])) _
    refine XS.aloadN X5.here hx rfl (hb hby own_d11_14) rfl rfl ?_
    refine XS.aloadN X5.here hx rfl (hb hby own_d11_15) rfl rfl ?_
    refine st8 _ ?_
    refine XS.aloadN X8.here hx rfl (hb hby own_d11_19) rfl rfl ?_
    show Steps p.tables e below (T8.setTop (mkF m 20 #[.val (.ref ob0), .val (.ref ob1), .val .null, .val (.ref ob3), .val (.ref ob4)] [(.ref ob0)])) _
    refine XS.aload X8.here hx rfl (hb hby own_d11_20) rfl rfl ?_
    refine st11 _ ?_
    exact k
  obtain ⟨fs, hrt, hrun, hended, hW, hsame⟩ := X11.leave (v := none) (fun _ => rfl)
  have f13 := (f9.wr W11)
  have f14 := (((Fw2.other W5 (Or.inr (slot_ne (own_la3 hw) (own_la2 hw) (by decide) own_ty2 own_ty2))).other W8 (Or.inr (slot_ne (own_la3 hw) (own_la4 hw) (by decide) own_ty2 own_ty2))).other W11 (Or.inr (slot_ne (own_la3 hw) (own_la5 hw) (by decide) own_ty2 own_ty2)))
  have f15 := ((Fw5.other W8 (Or.inr (slot_ne (own_la2 hw) (own_la4 hw) (by decide) own_ty2 own_ty2))).other W11 (Or.inr (slot_ne (own_la2 hw) (own_la5 hw) (by decide) own_ty2 own_ty2)))
  refine ⟨_, _, g12 _ ?_, hrun, hended, _, _, rfl, ?_, ⟨_, rfl⟩, hW, hsame.mono (by decide) (by decide)⟩
  · show Steps p.tables e below (T11.setTop (mkF m 25 #[.val (.ref ob0), .val (.ref ob1), .val .null, .val (.ref ob3), .val (.ref ob4)] [])) _
    exact X11.returnOut hx Bd.returns (hb hby own_d11_25) hrt
  · show own_Q_rmA15 Z ob0 ob1 ob3 ob4 cs wf h0 n0 _ T11.heap _
    rw [e11]
    exact ⟨rfl, N11, (Keep.wr (Keep.wr (Keep.wr (Keep.wr (Keep.refl h0 [ob0]) W2 (Or.inl (List.mem_of_getElem? (i := 0) rfl))) W5 (Or.inl (List.mem_of_getElem? (i := 0) rfl))) W8 (Or.inl (List.mem_of_getElem? (i := 0) rfl))) W11 (Or.inl (List.mem_of_getElem? (i := 0) rfl))), f13, f14, f15⟩
theorem own_ef18 (m : MethodId) (x0 : Addr) (x1 : Addr) (x2 : Addr) : entryFrame m #[(.ref x0), (.ref x1), (.ref x2)] 3 = mkF m 0 #[.val (.ref x0), .val (.ref x1), .val (.ref x2)] [] := by first | (simp [entryFrame, mkF, argsToLocals, Value.category]; done) | rfl
def own_Q_rmA16 (Z : State) (ob0 : Addr) (ob1 : Addr) (ob2 : Addr)  (cs : Int32) (wf : Value) (h0 : Heap) (n0 : Nat) (v : Option Value) (h : Heap) (L : List Loc) : Prop := ∃ fa : Addr, v = some (.ref fa) ∧ Fr n0 L ∧ Keep h0 h [] ∧ h0.size ≤ fa ∧ Exa Z h fa "com/example/momus/momus/cli/Option" ∧ Fld Z h fa "com/example/momus/momus/cli/Option" "argument" "Ljava/lang/String;" .null
set_option maxRecDepth 65536 in
set_option maxHeartbeats 40000000 in
theorem rmA16 (l : Launch) (Z : State) (a0 : Array Value) (hw : ∀ d ∈ tables_1, d.before a0 Z = true) (ws : List Jvm.Cond) (ob0 : Addr) (ob1 : Addr) (ob2 : Addr)  (cs : Int32) (wf : Value) (h0 : Heap) (n0 : Nat) (O0 : Old Z n0 h0) (G : own_Gl Z cs wf) :
    MetFree l own_y14 (head1 (Jvm.Cond.code own_y14 prog_13_method_2_code 3 (some (.object "com/example/momus/momus/cli/Option")) :: ws) ({ frames := 3, cells := 1, slots := 4, locals := 41 } : Room)) (fun a U => a = #[(.ref ob0), (.ref ob1), (.ref ob2)] ∧ Z.Warmed39 U.vm ∧ U.heap = h0) (fun _ _ _ _ _ => True) (fun _ U o U' => ∃ v L, o = .returned v ∧ own_Q_rmA16 Z ob0 ob1 ob2 cs wf h0 n0 v U'.heap L ∧ FrameEnd U o U' L ({ frames := 3, cells := 1, slots := 4, locals := 41 } : Room).cells ({ frames := 3, cells := 1, slots := 4, locals := 41 } : Room).slots) := by
  refine MetFree.of_bodySF (plainFor_of_name own_pn4) hisR ?_
  intro p e s m args below meth c s₁ Bd hml0 hP hK
  obtain ⟨rfl, hZ, hh⟩ := hP
  have hx := Bd.exec
  have hby := Bd.bytes
  have hml : c.maxLocals = 3 := hml0
  have hown : s.vm.findClass "com/example/momus/momus/cli/Option" = some m.cls := findClass_of_methodNamed Bd.named
  have hnm := (name_of_methodNamed Bd.named Bd.method).1
  have X0 : Stand p l e ({ frames := 3, cells := 1, slots := 4, locals := 41 } : Room) s m #[(.ref ob0), (.ref ob1), (.ref ob2)] below meth c s₁ [] 0 0 := Stand.of_body Bd
  have e0 : s₁.heap = h0 := by rw [← hh, Bd.state]; rfl
  have N0 := Fr.nil n0
  have Z0 : n0 ≤ h0.size := O0.1 ▸ O0.2.1
  have g0 : ∀ t, Steps p.tables e below (s₁.setTop (mkF m 0 #[.val (.ref ob0), .val (.ref ob1), .val (.ref ob2)] [])) t → Steps p.tables e below (s₁.setTop (entryFrame m #[(.ref ob0), (.ref ob1), (.ref ob2)] 3)) t := fun t k => castTop (own_ef18 m (ob0) (ob1) (ob2)) k
  have G0 := G
  obtain ⟨S_CS, hcs, S_WF, hwf⟩ := G
  obtain ⟨T1, h1, X1, e1, E1, A1, D1, -, st1⟩ := newO X0 hx hZ hown (own_w hw 82 rfl) (own_w hw 45 rfl) (own_w hw 46 rfl) e0 (g := (mkF m 0 #[.val (.ref ob0), .val (.ref ob1), .val (.ref ob2)] [])) rfl (hb hby own_d16_0) (by decide) (by decide)
  obtain ⟨b1, q_b1⟩ : ∃ z, z = h0.size := ⟨_, rfl⟩
  rw [← q_b1] at A1 D1 st1
  have sz_b1 : h0.size ≤ b1 := Nat.le_of_eq q_b1.symm
  have gz_b1 : n0 ≤ b1 := Nat.le_trans Z0 sz_b1
  have F1_name : Fld Z h1 b1 "com/example/momus/momus/cli/Option" "name" "Ljava/lang/String;" .null := D1 (Or.inr (own_w hw 57 rfl)) (ty := (.object "java/lang/String")) (by decide)
  have F1_argument : Fld Z h1 b1 "com/example/momus/momus/cli/Option" "argument" "Ljava/lang/String;" .null := D1 (Or.inr (own_w hw 59 rfl)) (ty := (.object "java/lang/String")) (by decide)
  have F1_description : Fld Z h1 b1 "com/example/momus/momus/cli/Option" "description" "Ljava/lang/String;" .null := D1 (Or.inr (own_w hw 61 rfl)) (ty := (.object "java/lang/String")) (by decide)
  have F1_byDefault : Fld Z h1 b1 "com/example/momus/momus/cli/Option" "byDefault" "Ljava/lang/String;" .null := D1 (Or.inr (own_w hw 63 rfl)) (ty := (.object "java/lang/String")) (by decide)
  have o2 : Old Z n0 h1 := (Old.ext O0 E1)
  obtain ⟨_, _, ⟨T3, L3, k3, n3⟩, -, X3, ⟨Lc3, hQ3, l3, y3, z3⟩, st3⟩ := X1.specialBack hx (y := own_y9) rfl hown (mvT hZ (own_w hw 83 rfl)) (mvT hZ (own_w hw 48 rfl)) (mvT hZ (own_w hw 49 rfl)) (by decide) (backOf (W := 1) (rmA15 l Z a0 hw [] b1 ob0 ob1 ob2  cs wf h1 n0 o2 G0 A1 F1_argument F1_byDefault F1_description F1_name gz_b1 ) hZ (own_w hw 49 rfl) (own_w hw 46 rfl) (by decide) (by decide)) (g := (mkF m 8 #[.val (.ref ob0), .val (.ref ob1), .val (.ref ob2)] [(.ref ob2), (.ref ob1), .null, (.ref ob0), (.ref b1), (.ref b1)])) rfl (by rw [hml]; rfl) (Steps.refl _) (a := b1) (argsL := [(.ref ob0), .null, (.ref ob1), (.ref ob2)]) (rest := [(.ref b1)]) (lenOf own_pd10 rfl) rfl (by show 2 * 0 + _ ≤ _; exact Nat.le_of_eq rfl) (hb hby own_d16_8) (fun _ _ => ⟨rfl, e1, (by decide : 1 + 0 ≤ _), (by decide : 4 + 0 ≤ _)⟩)
  dsimp only [Pt.U, Pt.locs, Pt.cells, Pt.slots] at X3 l3 y3 z3 st3 hQ3
  subst l3 y3 z3
  obtain ⟨rfl, Nq3, K3, Q3_0, Q3_1, Q3_2⟩ := hQ3
  have N3 := Fr.app N0 Nq3
  have g4 : ∀ t, Steps p.tables e below (T3.setTop (mkF m 11 #[.val (.ref ob0), .val (.ref ob1), .val (.ref ob2)] [(.ref b1)])) t → Steps p.tables e below (s₁.setTop (entryFrame m #[(.ref ob0), (.ref ob1), (.ref ob2)] 3)) t := by
    intro t k
    refine g0 t ?_
    show Steps p.tables e below (s₁.setTop (mkF m 0 #[.val (.ref ob0), .val (.ref ob1), .val (.ref ob2)] [])) _
    refine st1 _ ?_
    refine XS.dup X1.here hx rfl (hb hby own_d16_3) rfl rfl ?_
    refine XS.aloadN X1.here hx rfl (hb hby own_d16_4) rfl rfl ?_
    refine XS.aconstNull X1.here hx rfl (hb hby own_d16_5) ?_
    show Steps p.tables e below (T1.setTop (mkF m 6 #[.val (.ref ob0), .val (.ref ob1), .val (.ref ob2)] [.null, (.ref ob0), (.ref b1), (.ref b1)])) _
    refine XS.aloadN X1.here hx rfl (hb hby own_d16_6) rfl rfl ?_
    refine XS.aloadN X1.here hx rfl (hb hby own_d16_7) rfl rfl ?_
    refine st3.trans ?_
    exact k
  obtain ⟨fs, hrt, hrun, hended, hW, hsame⟩ := X3.leave (v := some (.ref b1)) (fun h => by rw [Bd.returns] at h; cases h)
  refine ⟨_, _, g4 _ ?_, hrun, hended, _, _, rfl, ?_, ⟨_, rfl⟩, hW, hsame.mono (by decide) (by decide)⟩
  · show Steps p.tables e below (T3.setTop (mkF m 11 #[.val (.ref ob0), .val (.ref ob1), .val (.ref ob2)] [(.ref b1)])) _
    jvm_step X3.here [X3.here.top, hx, (hb hby own_d16_11), X3.method', Bd.returns, Value.isRef, FieldType.isReference]
    first | (intro acts; rw [hrt _ acts rfl rfl rfl]) | rw [hrt _ _ rfl rfl rfl]
    exact Steps.refl _
  · show own_Q_rmA16 Z ob0 ob1 ob2 cs wf h0 n0 _ T3.heap _
    exact ⟨b1, rfl, N3, (Keep.trans (Keep.ext (Keep.refl h0 []) E1) K3 (allS (Or.inr sz_b1) all0)), sz_b1, Q3_0, Q3_2⟩
theorem own_d2_8 : decode jdk_42_method_149_code 8 = .ok (.aload_n 0, 1) := by decide +kernel
theorem own_d2_9 : decode jdk_42_method_149_code 9 = .ok (.ldc 7, 2) := by decide +kernel
theorem own_d2_11 : decode jdk_42_method_149_code 11 = .ok (.getfield 9, 3) := by decide +kernel
theorem own_d2_14 : decode jdk_42_method_149_code 14 = .ok (.putfield 9, 3) := by decide +kernel
theorem own_d2_17 : decode jdk_42_method_149_code 17 = .ok (.aload_n 0, 1) := by decide +kernel
theorem own_d2_18 : decode jdk_42_method_149_code 18 = .ok (.ldc 7, 2) := by decide +kernel
theorem own_d2_20 : decode jdk_42_method_149_code 20 = .ok (.getfield 15, 3) := by decide +kernel
theorem own_d2_23 : decode jdk_42_method_149_code 23 = .ok (.putfield 15, 3) := by decide +kernel
theorem own_d2_26 : decode jdk_42_method_149_code 26 = .ok (.return_, 1) := by decide +kernel
def own_Q_rmA18 (Z : State) (ob0 : Addr) (ob1 : Addr) (k_ob1 : ClassId)  (cs : Int32) (wf : Value) (h0 : Heap) (n0 : Nat) (v : Option Value) (h : Heap) (L : List Loc) : Prop := v = none ∧ Fr n0 L ∧ Keep h0 h [ob0] ∧ ∃ rb : Addr, ∃ rk : ClassId, Exa Z h ob0 "java/lang/String" ∧ Fld Z h ob0 "java/lang/String" "coder" "B" (.int (0 : Int32)) ∧ Fld Z h ob0 "java/lang/String" "value" "[B" (.ref rb) ∧ ∃ sl : List Value, Arv Z h rb rk .byte (0 : Int32) sl (.int (0 : Int32))
set_option maxRecDepth 65536 in
set_option maxHeartbeats 40000000 in
theorem rmA18 (l : Launch) (Z : State) (a0 : Array Value) (hw : ∀ d ∈ tables_1, d.before a0 Z = true) (ws : List Jvm.Cond) (ob0 : Addr) (ob1 : Addr) (k_ob1 : ClassId)  (cs : Int32) (wf : Value) (h0 : Heap) (n0 : Nat) (O0 : Old Z n0 h0) (G : own_Gl Z cs wf) (E_ob0 : Exa Z h0 ob0 "java/lang/String") (F_ob0_coder : Fld Z h0 ob0 "java/lang/String" "coder" "B" (.int (0 : Int32))) (F_ob0_value : Fld Z h0 ob0 "java/lang/String" "value" "[B" .null) (V_ob1 : Arv Z h0 ob1 k_ob1 .char (0 : Int32) [] (.int (0 : Int32))) (gz_ob0 : n0 ≤ ob0) :
    MetFree l own_y1 (head1 (Jvm.Cond.code own_y1 jdk_42_method_149_code 6 none :: ws) ({ frames := 1, cells := 4, slots := 8, locals := 12 } : Room)) (fun a U => a = #[(.ref ob0), (.ref ob1), (.int (0 : Int32)), (.int (0 : Int32)), .null] ∧ Z.Warmed39 U.vm ∧ U.heap = h0 ∧ CHv Z own_EL U.vm h0) (fun _ _ _ _ _ => True) (fun _ U o U' => ∃ v L, o = .returned v ∧ own_Q_rmA18 Z ob0 ob1 k_ob1 cs wf h0 n0 v U'.heap L ∧ CHr Z own_EL U.vm U.heap U'.vm U'.heap ∧ ReturnedEndW U o U' L ({ frames := 1, cells := 4, slots := 8, locals := 12 } : Room).cells ({ frames := 1, cells := 4, slots := 8, locals := 12 } : Room).slots) := by
  refine MetFree.of_bodySF (plainFor_of_name own_pn1) hisR ?_
  intro p e s m args below meth c s₁ Bd hml0 hP hK
  obtain ⟨rfl, hZ, hh, hCH⟩ := hP
  have hx := Bd.exec
  have hby := Bd.bytes
  have hml : c.maxLocals = 6 := hml0
  have hown : s.vm.findClass "java/lang/String" = some m.cls := findClass_of_methodNamed Bd.named
  have hnm := (name_of_methodNamed Bd.named Bd.method).1
  have X0 : Stand p l e ({ frames := 1, cells := 4, slots := 8, locals := 12 } : Room) (s.setVm s.vm) m #[(.ref ob0), (.ref ob1), (.int (0 : Int32)), (.int (0 : Int32)), .null] below meth c s₁ [] 0 0 := Stand.of_body Bd
  have e0 : s₁.heap = h0 := by rw [← hh, Bd.state]; rfl
  have N0 := Fr.nil n0
  have Z0 : n0 ≤ h0.size := O0.1 ▸ O0.2.1
  have g0 : ∀ t, Steps p.tables e below (s₁.setTop (mkF m 0 #[.val (.ref ob0), .val (.ref ob1), .val (.int (0 : Int32)), .val (.int (0 : Int32)), .val .null, .unset] [])) t → Steps p.tables e below (s₁.setTop (entryFrame m #[(.ref ob0), (.ref ob1), (.int (0 : Int32)), (.int (0 : Int32)), .null] 6)) t := fun t k => castTop (own_ef3 m (ob0) (ob1) ((0 : Int32)) ((0 : Int32))) k
  have hC := CHr.refl hCH
  have hS : s.Since s.vm h0.size := (State.WarmedH.refl s).since _
  have hk := Nat.le_refl h0.size
  have G0 := G
  obtain ⟨S_CS, hcs, S_WF, hwf⟩ := G
  have sf_ob0 : Safe Z own_EL s.vm h0 ob0 := own_safeNull hZ.alike E_ob0 F_ob0_value
  obtain ⟨T1, X1, e1, st1⟩ := initO X0 hx hZ hown (own_w hw 11 rfl) (own_w hw 12 rfl) (own_w hw 13 rfl) e0 (g := (mkF m 1 #[.val (.ref ob0), .val (.ref ob1), .val (.int (0 : Int32)), .val (.int (0 : Int32)), .val .null, .unset] [(.ref ob0)])) rfl (by rw [hml]; rfl) rfl (hb hby own_d2_1) (by decide) (W := 0) (by show 2 * 0 + _ ≤ _; exact Nat.le_of_eq rfl) (by decide)
  obtain ⟨a2, T2, h2, k2, b2, ka2, X2, e2, E2, hS, hk, hZ, hown, Ex2, Fc2, Fv2, Va2, -, -, C2, -, -, st2⟩ := ldcCH (s := s) (vm0 := s.vm) X1 hx hZ hown (own_w hw 201 rfl) (own_wS hw) e1 hS hk (own_EW hw) (List.mem_of_getElem? (i := 0) rfl) hC.1 (vs := []) (z := (0 : Int32)) ⟨by decide, by decide⟩ (by decide) (by decide) (g := (mkF m 9 #[.val (.ref ob0), .val (.ref ob1), .val (.int (0 : Int32)), .val (.int (0 : Int32)), .val .null, .unset] [(.ref ob0)])) rfl (hb hby own_d2_9) (n := 0) (by decide) (by decide) (by decide) (by decide)
  have sf_ob0 := CHr.safe C2 E_ob0.lt sf_ob0
  have hC := hC.trans C2
  obtain ⟨T3, X3, e3, st3⟩ := getF X2 hx hZ hown (host := "") (Or.inl (own_w hw 28 rfl)) Via.refl e2 Fv2 (g := (mkF m 11 #[.val (.ref ob0), .val (.ref ob1), .val (.int (0 : Int32)), .val (.int (0 : Int32)), .val .null, .unset] [(.ref a2), (.ref ob0)])) rfl rfl (hb hby own_d2_11)
  have f4 := (E_ob0.ext E2)
  have f5 := (F_ob0_value.ext E2)
  obtain ⟨T6, h6, X6, e6, W6, st6⟩ := putF X3 hx hZ hown (host := "") (Or.inl (own_w hw 28 rfl)) Via.refl e3 f5 f4 (Or.inr ⟨(own_w hw 29 rfl), rfl, hnm⟩) (own_w hw 2 rfl) (ty := (.array .byte)) (by decide) rfl rfl (g := (mkF m 14 #[.val (.ref ob0), .val (.ref ob1), .val (.int (0 : Int32)), .val (.int (0 : Int32)), .val .null, .unset] [(.ref b2), (.ref ob0)])) rfl rfl (hb hby own_d2_14)
  have qs6 := sf_ob0
  have sf_ob0 := Safe.wr W6 qs6 hC.1 sf_ob0
  have hC := hC.trans (CHr.wr W6 qs6 hC.1)
  have hk := Nat.le_trans hk (Keep.of_wr W6).1
  have Fw6 := f5.same W6
  have N6 := Fr.snoc X6 N0 gz_ob0
  obtain ⟨a7, T7, h7, k7, b7, ka7, X7, e7, E7, hS, hk, hZ, hown, Ex7, Fc7, Fv7, Va7, -, -, C7, -, -, st7⟩ := ldcCH (s := s) (vm0 := T2.vm) X6 hx hZ hown (own_w hw 201 rfl) (own_wS hw) e6 hS hk (own_EW hw) (List.mem_of_getElem? (i := 0) rfl) hC.1 (vs := []) (z := (0 : Int32)) ⟨by decide, by decide⟩ (by decide) (by decide) (g := (mkF m 18 #[.val (.ref ob0), .val (.ref ob1), .val (.int (0 : Int32)), .val (.int (0 : Int32)), .val .null, .unset] [(.ref ob0)])) rfl (hb hby own_d2_18) (n := 0) (by decide) (by decide) (by decide) (by decide)
  have f8 := (f4.wr W6)
  have sf_ob0 := CHr.safe C7 f8.lt sf_ob0
  have hC := hC.trans C7
  obtain ⟨T9, X9, e9, st9⟩ := getF X7 hx hZ hown (host := "") (Or.inl (own_w hw 26 rfl)) Via.refl e7 Fc7 (g := (mkF m 20 #[.val (.ref ob0), .val (.ref ob1), .val (.int (0 : Int32)), .val (.int (0 : Int32)), .val .null, .unset] [(.ref a7), (.ref ob0)])) rfl rfl (hb hby own_d2_20)
  have f10 := (f8.ext E7)
  have f11 := (((F_ob0_coder.ext E2).other W6 (Or.inr (slot_ne (own_la1 hw) (own_la0 hw) (by decide) own_ty1 own_ty0))).ext E7)
  obtain ⟨T12, h12, X12, e12, W12, st12⟩ := putFN X9 hx hZ hown (own_w hw 26 rfl) Via.refl e9 f11 f10 (Or.inr ⟨(own_w hw 27 rfl), rfl, hnm⟩) (own_w hw 2 rfl) (ty := .byte) (v' := (.int (0 : Int32))) (by decide) rfl rfl (g := (mkF m 23 #[.val (.ref ob0), .val (.ref ob1), .val (.int (0 : Int32)), .val (.int (0 : Int32)), .val .null, .unset] [(.int (0 : Int32)), (.ref ob0)])) rfl rfl (hb hby own_d2_23)
  have qs12 := sf_ob0
  have sf_ob0 := Safe.wr W12 qs12 hC.1 sf_ob0
  have hC := hC.trans (CHr.wr W12 qs12 hC.1)
  have hk := Nat.le_trans hk (Keep.of_wr W12).1
  have Fw12 := f11.same W12
  have N12 := Fr.snoc X12 N6 gz_ob0
  have g13 : ∀ t, Steps p.tables e below (T12.setTop (mkF m 26 #[.val (.ref ob0), .val (.ref ob1), .val (.int (0 : Int32)), .val (.int (0 : Int32)), .val .null, .unset] [])) t → Steps p.tables e below (s₁.setTop (entryFrame m #[(.ref ob0), (.ref ob1), (.int (0 : Int32)), (.int (0 : Int32)), .null] 6)) t := by
    intro t k
    refine g0 t ?_
    show Steps p.tables e below (s₁.setTop (mkF m 0 #[.val (.ref ob0), .val (.ref ob1), .val (.int (0 : Int32)), .val (.int (0 : Int32)), .val .null, .unset] [])) _
    refine XS.aloadN X0.here hx rfl (hb hby own_d2_0) rfl rfl ?_
    refine st1 _ ?_
    refine XS.iloadN X1.here hx rfl (hb hby own_d2_4) rfl ?_
    refine XS.ifNo X1.here hx rfl (hb hby own_d2_5) rfl ((if0 _ _).trans (teq (by decide : (0 : Int32) = (0 : Int32))).2) ?_
    show Steps p.tables e below (T1.setTop (mkF m 8 #[.val (.ref ob0), .val (.ref ob1), .val (.int (0 : Int32)), .val (.int (0 : Int32)), .val .null, .unset] [])) _
    refine XS.aloadN X1.here hx rfl (hb hby own_d2_8) rfl rfl ?_
    refine st2 _ ?_
    refine st3 _ ?_
    refine st6 _ ?_
    show Steps p.tables e below (T6.setTop (mkF m 17 #[.val (.ref ob0), .val (.ref ob1), .val (.int (0 : Int32)), .val (.int (0 : Int32)), .val .null, .unset] [])) _
    refine XS.aloadN X6.here hx rfl (hb hby own_d2_17) rfl rfl ?_
    refine st7 _ ?_
    refine st9 _ ?_
    refine st12 _ ?_
    exact k
  obtain ⟨fs, hrt, hrun, hended, hRW⟩ := X12.leaveW hS (by rw [e12]; exact hk) (v := none) (fun _ => rfl)
  have f14 := (f10.wr W12)
  have f15 := ((Fw6.ext E7).other W12 (Or.inr (slot_ne (own_la0 hw) (own_la1 hw) (by decide) own_ty0 own_ty1)))
  have f16 := (((Va2.other W6 (Ne.symm (Exa.neArv f4 Va2 (own_w hw 2 rfl)))).ext E7).other W12 (Ne.symm (Exa.neArv f10 ((Va2.other W6 (Ne.symm (Exa.neArv f4 Va2 (own_w hw 2 rfl)))).ext E7) (own_w hw 2 rfl))))
  refine ⟨_, _, g13 _ ?_, hrun, hended, _, _, rfl, ?_, ?_, hRW.1, hRW.2.1, hRW.2.2.1, hRW.2.2.2.mono (by decide) (by decide)⟩
  · show Steps p.tables e below (T12.setTop (mkF m 26 #[.val (.ref ob0), .val (.ref ob1), .val (.int (0 : Int32)), .val (.int (0 : Int32)), .val .null, .unset] [])) _
    exact X12.returnOut hx Bd.returns (hb hby own_d2_26) hrt
  · show own_Q_rmA18 Z ob0 ob1 k_ob1 cs wf h0 n0 _ T12.heap _
    rw [e12]
    exact ⟨rfl, N12, (Keep.wr (Keep.ext (Keep.wr (Keep.ext (Keep.refl h0 [ob0]) E2) W6 (Or.inl (List.mem_of_getElem? (i := 0) rfl))) E7) W12 (Or.inl (List.mem_of_getElem? (i := 0) rfl))), b2, _, f14, Fw12, f15, _, f16⟩
  · rw [hh]
    show CHr Z own_EL s.vm h0 T12.vm T12.heap
    rw [e12]
    exact hC.trans (CHv.at X12 hZ (own_EW hw) hC.1)
def own_Q_rmA17 (Z : State) (ob0 : Addr) (ob1 : Addr) (k_ob1 : ClassId)  (cs : Int32) (wf : Value) (h0 : Heap) (n0 : Nat) (v : Option Value) (h : Heap) (L : List Loc) : Prop := v = none ∧ Fr n0 L ∧ Keep h0 h [ob0] ∧ ∃ rb : Addr, ∃ rk : ClassId, Exa Z h ob0 "java/lang/String" ∧ Fld Z h ob0 "java/lang/String" "coder" "B" (.int (0 : Int32)) ∧ Fld Z h ob0 "java/lang/String" "value" "[B" (.ref rb) ∧ ∃ sl : List Value, Arv Z h rb rk .byte (0 : Int32) sl (.int (0 : Int32))
set_option maxRecDepth 65536 in
set_option maxHeartbeats 40000000 in
theorem rmA17 (l : Launch) (Z : State) (a0 : Array Value) (hw : ∀ d ∈ tables_1, d.before a0 Z = true) (ws : List Jvm.Cond) (ob0 : Addr) (ob1 : Addr) (k_ob1 : ClassId)  (cs : Int32) (wf : Value) (h0 : Heap) (n0 : Nat) (O0 : Old Z n0 h0) (G : own_Gl Z cs wf) (E_ob0 : Exa Z h0 ob0 "java/lang/String") (F_ob0_coder : Fld Z h0 ob0 "java/lang/String" "coder" "B" (.int (0 : Int32))) (F_ob0_value : Fld Z h0 ob0 "java/lang/String" "value" "[B" .null) (V_ob1 : Arv Z h0 ob1 k_ob1 .char (0 : Int32) [] (.int (0 : Int32))) (gz_ob0 : n0 ≤ ob0) :
    MetFree l own_y0 (head1 (Jvm.Cond.code own_y0 jdk_42_method_3_code 2 none :: ws) ({ frames := 2, cells := 4, slots := 8, locals := 29 } : Room)) (fun a U => a = #[(.ref ob0), (.ref ob1)] ∧ Z.Warmed39 U.vm ∧ U.heap = h0 ∧ CHv Z own_EL U.vm h0) (fun _ _ _ _ _ => True) (fun _ U o U' => ∃ v L, o = .returned v ∧ own_Q_rmA17 Z ob0 ob1 k_ob1 cs wf h0 n0 v U'.heap L ∧ CHr Z own_EL U.vm U.heap U'.vm U'.heap ∧ ReturnedEndW U o U' L ({ frames := 2, cells := 4, slots := 8, locals := 29 } : Room).cells ({ frames := 2, cells := 4, slots := 8, locals := 29 } : Room).slots) := by
  refine MetFree.of_bodySF (plainFor_of_name own_pn1) hisR ?_
  intro p e s m args below meth c s₁ Bd hml0 hP hK
  obtain ⟨rfl, hZ, hh, hCH⟩ := hP
  have hx := Bd.exec
  have hby := Bd.bytes
  have hml : c.maxLocals = 2 := hml0
  have hown : s.vm.findClass "java/lang/String" = some m.cls := findClass_of_methodNamed Bd.named
  have hnm := (name_of_methodNamed Bd.named Bd.method).1
  have X0 : Stand p l e ({ frames := 2, cells := 4, slots := 8, locals := 29 } : Room) (s.setVm s.vm) m #[(.ref ob0), (.ref ob1)] below meth c s₁ [] 0 0 := Stand.of_body Bd
  have e0 : s₁.heap = h0 := by rw [← hh, Bd.state]; rfl
  have N0 := Fr.nil n0
  have Z0 : n0 ≤ h0.size := O0.1 ▸ O0.2.1
  have g0 : ∀ t, Steps p.tables e below (s₁.setTop (mkF m 0 #[.val (.ref ob0), .val (.ref ob1)] [])) t → Steps p.tables e below (s₁.setTop (entryFrame m #[(.ref ob0), (.ref ob1)] 2)) t := fun t k => castTop (own_ef2 m (ob0) (ob1)) k
  have hC := CHr.refl hCH
  have hS : s.Since s.vm h0.size := (State.WarmedH.refl s).since _
  have hk := Nat.le_refl h0.size
  have G0 := G
  obtain ⟨S_CS, hcs, S_WF, hwf⟩ := G
  obtain ⟨c1, Ar1, cq1, S1, Nn1, Hh1, Gg1⟩ := id V_ob1
  have g2 : ∀ t, Steps p.tables e below (s₁.setTop (mkF m 5 #[.val (.ref ob0), .val (.ref ob1)] [(.int (0 : Int32)), (.int (0 : Int32)), (.ref ob1), (.ref ob0)])) t → Steps p.tables e below (s₁.setTop (entryFrame m #[(.ref ob0), (.ref ob1)] 2)) t := by
    intro t k
    refine g0 t ?_
    show Steps p.tables e below (s₁.setTop (mkF m 0 #[.val (.ref ob0), .val (.ref ob1)] [])) _
    refine XS.aloadN X0.here hx rfl (hb hby own_d1_0) rfl rfl ?_
    refine XS.aloadN X0.here hx rfl (hb hby own_d1_1) rfl rfl ?_
    refine XS.iconst X0.here hx rfl (hb hby own_d1_2) ?_
    refine XS.aloadN X0.here hx rfl (hb hby own_d1_3) rfl rfl ?_
    show Steps p.tables e below (s₁.setTop (mkF m 4 #[.val (.ref ob0), .val (.ref ob1)] [(.ref ob1), (.int (0 : Int32)), (.ref ob1), (.ref ob0)])) _
    refine X0.arraylength hx (by rw [e0]; exact Ar1.1) (State.isArrayOf_alike hZ.alike Ar1.2.1) (g := (mkF m 4 #[.val (.ref ob0), .val (.ref ob1)] [(.ref ob1), (.int (0 : Int32)), (.ref ob1), (.ref ob0)])) rfl rfl (hb hby own_d1_4) _ ?_
    rw [len_of S1 Nn1]
    exact k
  obtain ⟨_, _, ⟨T3, L3, k3, n3⟩, -, X3, hSn3, hgn3, ⟨Lc3, hQ3, l3, y3, z3, C3⟩, st3⟩ := X0.specialBackS hx (y := own_y1) rfl hown (mvT hZ (own_w hw 7 rfl)) (mvT hZ (own_w hw 8 rfl)) (mvT hZ (own_w hw 10 rfl)) (by decide) (backOfSH (s := s) (vm0 := s.vm) (W := 0) (rmA18 l Z a0 hw [] ob0 ob1 k_ob1  cs wf h0 n0 O0 G0 E_ob0 F_ob0_coder F_ob0_value V_ob1 gz_ob0 ) hZ (own_w hw 10 rfl) (own_w hw 3 rfl) (by decide) (by decide) (own_EW hw) hC.1) (g := (mkF m 6 #[.val (.ref ob0), .val (.ref ob1)] [.null, (.int (0 : Int32)), (.int (0 : Int32)), (.ref ob1), (.ref ob0)])) rfl (by rw [hml]; rfl) (Steps.refl _) (a := ob0) (argsL := [(.ref ob1), (.int (0 : Int32)), (.int (0 : Int32)), .null]) (rest := []) (lenOf own_pd3 rfl) rfl (by show 2 * 0 + _ ≤ _; exact Nat.le_of_eq rfl) (hb hby own_d1_6) (fun _ _ => ⟨rfl, e0, (by decide : 0 + 4 ≤ _), (by decide : 0 + 8 ≤ _)⟩)
  dsimp only [Pt.U, Pt.locs, Pt.cells, Pt.slots] at X3 l3 y3 z3 st3 hQ3 hSn3 hgn3 C3
  subst l3 y3 z3
  have hS := foldS hS (by rw [e0]; exact hk) hSn3 hgn3
  have hk := Nat.le_refl T3.heap.size
  have hZ : Z.Warmed39 T3.vm := State.Warmed39.trans (t := s.setVm s.vm) hZ hSn3.1
  have hown : T3.vm.findClass "java/lang/String" = some m.cls := by rw [hSn3.1.alike.findClass]; exact hown
  have hC := hC.trans C3
  obtain ⟨rfl, Nq3, K3, rb3, rk3, Qe3, Qc3, Qv3, sl3, Va3⟩ := hQ3
  have N3 := Fr.app N0 Nq3
  obtain ⟨LL4, XL4, NL4⟩ : ∃ LL : List Loc, Stand p l e ({ frames := 2, cells := 4, slots := 8, locals := 29 } : Room) (s.setVm T3.vm) m #[(.ref ob0), (.ref ob1)] below meth c T3 LL 4 8 ∧ Fr n0 LL := ⟨_, X3, N3⟩
  have g5 : ∀ t, Steps p.tables e below (T3.setTop (mkF m 9 #[.val (.ref ob0), .val (.ref ob1)] [])) t → Steps p.tables e below (s₁.setTop (entryFrame m #[(.ref ob0), (.ref ob1)] 2)) t := by
    intro t k
    refine g2 t ?_
    show Steps p.tables e below (s₁.setTop (mkF m 5 #[.val (.ref ob0), .val (.ref ob1)] [(.int (0 : Int32)), (.int (0 : Int32)), (.ref ob1), (.ref ob0)])) _
    refine XS.aconstNull X0.here hx rfl (hb hby own_d1_5) ?_
    refine st3.trans ?_
    exact k
  obtain ⟨fs, hrt, hrun, hended, hRW⟩ := XL4.leaveW hS hk (v := none) (fun _ => rfl)
  refine ⟨_, _, g5 _ ?_, hrun, hended, _, _, rfl, ?_, ?_, hRW.1, hRW.2.1, hRW.2.2.1, hRW.2.2.2.mono (by decide) (by decide)⟩
  · show Steps p.tables e below (T3.setTop (mkF m 9 #[.val (.ref ob0), .val (.ref ob1)] [])) _
    exact XL4.returnOut hx Bd.returns (hb hby own_d1_9) hrt
  · show own_Q_rmA17 Z ob0 ob1 k_ob1 cs wf h0 n0 _ T3.heap _
    exact ⟨rfl, NL4, (Keep.trans (Keep.refl h0 [ob0]) K3 (allS (Or.inl (List.mem_of_getElem? (i := 0) rfl)) all0)), rb3, _, Qe3, Qc3, Qv3, _, Va3⟩
  · rw [hh]
    show CHr Z own_EL s.vm h0 T3.vm T3.heap
    exact hC.trans (CHv.at XL4 hZ (own_EW hw) hC.1)
theorem own_ef21 (m : MethodId) (x0 : Addr) (x1 : Addr) (x2 : Addr) (x3 : Addr) : entryFrame m #[(.ref x0), (.ref x1), (.ref x2), (.ref x3), .null] 5 = mkF m 0 #[.val (.ref x0), .val (.ref x1), .val (.ref x2), .val (.ref x3), .val .null] [] := by first | (simp [entryFrame, mkF, argsToLocals, Value.category]; done) | rfl
def own_Q_rmA19 (Z : State) (ob0 : Addr) (ob1 : Addr) (ob2 : Addr) (ob3 : Addr)  (cs : Int32) (wf : Value) (h0 : Heap) (n0 : Nat) (v : Option Value) (h : Heap) (L : List Loc) : Prop := v = none ∧ Fr n0 L ∧ Keep h0 h [ob0] ∧ Exa Z h ob0 "com/example/momus/momus/cli/Option" ∧ Fld Z h ob0 "com/example/momus/momus/cli/Option" "name" "Ljava/lang/String;" (.ref ob1) ∧ Fld Z h ob0 "com/example/momus/momus/cli/Option" "argument" "Ljava/lang/String;" (.ref ob2)
set_option maxRecDepth 65536 in
set_option maxHeartbeats 40000000 in
theorem rmA19 (l : Launch) (Z : State) (a0 : Array Value) (hw : ∀ d ∈ tables_1, d.before a0 Z = true) (ws : List Jvm.Cond) (ob0 : Addr) (ob1 : Addr) (ob2 : Addr) (ob3 : Addr)  (cs : Int32) (wf : Value) (h0 : Heap) (n0 : Nat) (O0 : Old Z n0 h0) (G : own_Gl Z cs wf) (E_ob0 : Exa Z h0 ob0 "com/example/momus/momus/cli/Option") (F_ob0_argument : Fld Z h0 ob0 "com/example/momus/momus/cli/Option" "argument" "Ljava/lang/String;" .null) (F_ob0_byDefault : Fld Z h0 ob0 "com/example/momus/momus/cli/Option" "byDefault" "Ljava/lang/String;" .null) (F_ob0_description : Fld Z h0 ob0 "com/example/momus/momus/cli/Option" "description" "Ljava/lang/String;" .null) (F_ob0_name : Fld Z h0 ob0 "com/example/momus/momus/cli/Option" "name" "Ljava/lang/String;" .null) (gz_ob0 : n0 ≤ ob0) :
    MetFree l own_y9 (head1 (Jvm.Cond.code own_y9 prog_13_method_1_code 5 none :: ws) ({ frames := 2, cells := 0, slots := 0, locals := 24 } : Room)) (fun a U => a = #[(.ref ob0), (.ref ob1), (.ref ob2), (.ref ob3), .null] ∧ Z.Warmed39 U.vm ∧ U.heap = h0) (fun _ _ _ _ _ => True) (fun _ U o U' => ∃ v L, o = .returned v ∧ own_Q_rmA19 Z ob0 ob1 ob2 ob3 cs wf h0 n0 v U'.heap L ∧ FrameEnd U o U' L ({ frames := 2, cells := 0, slots := 0, locals := 24 } : Room).cells ({ frames := 2, cells := 0, slots := 0, locals := 24 } : Room).slots) := by
  refine MetFree.of_bodySF (plainFor_of_name own_pn4) hisR ?_
  intro p e s m args below meth c s₁ Bd hml0 hP hK
  obtain ⟨rfl, hZ, hh⟩ := hP
  have hx := Bd.exec
  have hby := Bd.bytes
  have hml : c.maxLocals = 5 := hml0
  have hown : s.vm.findClass "com/example/momus/momus/cli/Option" = some m.cls := findClass_of_methodNamed Bd.named
  have hnm := (name_of_methodNamed Bd.named Bd.method).1
  have X0 : Stand p l e ({ frames := 2, cells := 0, slots := 0, locals := 24 } : Room) s m #[(.ref ob0), (.ref ob1), (.ref ob2), (.ref ob3), .null] below meth c s₁ [] 0 0 := Stand.of_body Bd
  have e0 : s₁.heap = h0 := by rw [← hh, Bd.state]; rfl
  have N0 := Fr.nil n0
  have Z0 : n0 ≤ h0.size := O0.1 ▸ O0.2.1
  have g0 : ∀ t, Steps p.tables e below (s₁.setTop (mkF m 0 #[.val (.ref ob0), .val (.ref ob1), .val (.ref ob2), .val (.ref ob3), .val .null] [])) t → Steps p.tables e below (s₁.setTop (entryFrame m #[(.ref ob0), (.ref ob1), (.ref ob2), (.ref ob3), .null] 5)) t := fun t k => castTop (own_ef21 m (ob0) (ob1) (ob2) (ob3)) k
  have G0 := G
  obtain ⟨S_CS, hcs, S_WF, hwf⟩ := G
  obtain ⟨_, _, ⟨T1, L1, k1, n1⟩, -, X1, ⟨Lc1, hQ1, l1, y1, z1⟩, st1⟩ := X0.specialBack hx (y := own_y10) rfl hown (mvT hZ (own_w hw 50 rfl)) (mvT hZ (own_w hw 51 rfl)) (mvT hZ (own_w hw 54 rfl)) (by decide) (backOf (W := 0) (rmA10 l Z a0 hw [] ob0  cs wf h0 n0 O0 G0 E_ob0 F_ob0_argument F_ob0_byDefault F_ob0_description F_ob0_name  ) hZ (own_w hw 54 rfl) (own_w hw 53 rfl) (by decide) (by decide)) (g := (mkF m 1 #[.val (.ref ob0), .val (.ref ob1), .val (.ref ob2), .val (.ref ob3), .val .null] [(.ref ob0)])) rfl (by rw [hml]; rfl) (Steps.refl _) (a := ob0) (argsL := []) (rest := []) (lenOf own_pd9 rfl) rfl (by show 2 * 0 + _ ≤ _; exact Nat.le_of_eq rfl) (hb hby own_d11_1) (fun _ _ => ⟨rfl, e0, (by decide : 0 + 0 ≤ _), (by decide : 0 + 0 ≤ _)⟩)
  dsimp only [Pt.U, Pt.locs, Pt.cells, Pt.slots] at X1 l1 y1 z1 st1 hQ1
  subst l1 y1 z1
  obtain ⟨rfl, Nq1, e1⟩ := hQ1
  have N1 := Fr.app N0 Nq1
  obtain ⟨T2, h2, X2, e2, W2, st2⟩ := putF X1 hx hZ hown (host := "") (Or.inl (own_w hw 56 rfl)) Via.refl e1 F_ob0_name E_ob0 (Or.inr ⟨(own_w hw 57 rfl), rfl, hnm⟩) (own_w hw 45 rfl) (ty := (.object "java/lang/String")) (by decide) rfl rfl (g := (mkF m 6 #[.val (.ref ob0), .val (.ref ob1), .val (.ref ob2), .val (.ref ob3), .val .null] [(.ref ob1), (.ref ob0)])) rfl rfl (hb hby own_d11_6)
  have Fw2 := F_ob0_name.same W2
  have N2 := Fr.snoc X2 N1 gz_ob0
  have f3 := (E_ob0.wr W2)
  have f4 := (F_ob0_argument.other W2 (Or.inr (slot_ne (own_la2 hw) (own_la3 hw) (by decide) own_ty2 own_ty2)))
  obtain ⟨T5, h5, X5, e5, W5, st5⟩ := putF X2 hx hZ hown (host := "") (Or.inl (own_w hw 58 rfl)) Via.refl e2 f4 f3 (Or.inr ⟨(own_w hw 59 rfl), rfl, hnm⟩) (own_w hw 45 rfl) (ty := (.object "java/lang/String")) (by decide) rfl rfl (g := (mkF m 11 #[.val (.ref ob0), .val (.ref ob1), .val (.ref ob2), .val (.ref ob3), .val .null] [(.ref ob2), (.ref ob0)])) rfl rfl (hb hby own_d11_11)
  have Fw5 := f4.same W5
  have N5 := Fr.snoc X5 N2 gz_ob0
  have f6 := (f3.wr W5)
  have f7 := ((F_ob0_description.other W2 (Or.inr (slot_ne (own_la4 hw) (own_la3 hw) (by decide) own_ty2 own_ty2))).other W5 (Or.inr (slot_ne (own_la4 hw) (own_la2 hw) (by decide) own_ty2 own_ty2)))
  obtain ⟨T8, h8, X8, e8, W8, st8⟩ := putF X5 hx hZ hown (host := "") (Or.inl (own_w hw 60 rfl)) Via.refl e5 f7 f6 (Or.inr ⟨(own_w hw 61 rfl), rfl, hnm⟩) (own_w hw 45 rfl) (ty := (.object "java/lang/String")) (by decide) rfl rfl (g := (mkF m 16 #[.val (.ref ob0), .val (.ref ob1), .val (.ref ob2), .val (.ref ob3), .val .null] [(.ref ob3), (.ref ob0)])) rfl rfl (hb hby own_d11_16)
  have Fw8 := f7.same W8
  have N8 := Fr.snoc X8 N5 gz_ob0
  have f9 := (f6.wr W8)
  have f10 := (((F_ob0_byDefault.other W2 (Or.inr (slot_ne (own_la5 hw) (own_la3 hw) (by decide) own_ty2 own_ty2))).other W5 (Or.inr (slot_ne (own_la5 hw) (own_la2 hw) (by decide) own_ty2 own_ty2))).other W8 (Or.inr (slot_ne (own_la5 hw) (own_la4 hw) (by decide) own_ty2 own_ty2)))
  obtain ⟨T11, h11, X11, e11, W11, st11⟩ := putF X8 hx hZ hown (host := "") (Or.inl (own_w hw 62 rfl)) Via.refl e8 f10 f9 (Or.inr ⟨(own_w hw 63 rfl), rfl, hnm⟩) (own_w hw 45 rfl) (ty := (.object "java/lang/String")) (by decide) rfl rfl (g := (mkF m 22 #[.val (.ref ob0), .val (.ref ob1), .val (.ref ob2), .val (.ref ob3), .val .null] [.null, (.ref ob0)])) rfl rfl (hb hby own_d11_22)
  have Fw11 := f10.same W11
  have N11 := Fr.snoc X11 N8 gz_ob0
  have g12 : ∀ t, Steps p.tables e below (T11.setTop (mkF m 25 #[.val (.ref ob0), .val (.ref ob1), .val (.ref ob2), .val (.ref ob3), .val .null] [])) t → Steps p.tables e below (s₁.setTop (entryFrame m #[(.ref ob0), (.ref ob1), (.ref ob2), (.ref ob3), .null] 5)) t := by
    intro t k
    refine g0 t ?_
    show Steps p.tables e below (s₁.setTop (mkF m 0 #[.val (.ref ob0), .val (.ref ob1), .val (.ref ob2), .val (.ref ob3), .val .null] [])) _
    refine XS.aloadN X0.here hx rfl (hb hby own_d11_0) rfl rfl ?_
    refine st1.trans ?_
    refine XS.aloadN X1.here hx rfl (hb hby own_d11_4) rfl rfl ?_
    refine XS.aloadN X1.here hx rfl (hb hby own_d11_5) rfl rfl ?_
    show Steps p.tables e below (T1.setTop (mkF m 6 #[.val (.ref ob0), .val (.ref ob1), .val (.ref ob2), .val (.ref ob3), .val .null] [(.ref ob1), (.ref ob0)])) _
    refine st2 _ ?_
    refine XS.aloadN X2.here hx rfl (hb hby own_d11_9) rfl rfl ?_
    refine XS.aloadN X2.here hx rfl (hb hby own_d11_10) rfl rfl ?_
    refine st5 _ ?_
    show Steps p.tables e below (T5.setTop (mkF m 14 #[.val (.ref ob0), .val (.ref ob1), .val (.ref ob2), .val (.ref ob3), .val .null] [])) _
    refine XS.aloadN X5.here hx rfl (hb hby own_d11_14) rfl rfl ?_
    refine XS.aloadN X5.here hx rfl (hb hby own_d11_15) rfl rfl ?_
    refine st8 _ ?_
    refine XS.aloadN X8.here hx rfl (hb hby own_d11_19) rfl rfl ?_
    show Steps p.tables e below (T8.setTop (mkF m 20 #[.val (.ref ob0), .val (.ref ob1), .val (.ref ob2), .val (.ref ob3), .val .null] [(.ref ob0)])) _
    refine XS.aload X8.here hx rfl (hb hby own_d11_20) rfl rfl ?_
    refine st11 _ ?_
    exact k
  obtain ⟨fs, hrt, hrun, hended, hW, hsame⟩ := X11.leave (v := none) (fun _ => rfl)
  have f13 := (f9.wr W11)
  have f14 := (((Fw2.other W5 (Or.inr (slot_ne (own_la3 hw) (own_la2 hw) (by decide) own_ty2 own_ty2))).other W8 (Or.inr (slot_ne (own_la3 hw) (own_la4 hw) (by decide) own_ty2 own_ty2))).other W11 (Or.inr (slot_ne (own_la3 hw) (own_la5 hw) (by decide) own_ty2 own_ty2)))
  have f15 := ((Fw5.other W8 (Or.inr (slot_ne (own_la2 hw) (own_la4 hw) (by decide) own_ty2 own_ty2))).other W11 (Or.inr (slot_ne (own_la2 hw) (own_la5 hw) (by decide) own_ty2 own_ty2)))
  refine ⟨_, _, g12 _ ?_, hrun, hended, _, _, rfl, ?_, ⟨_, rfl⟩, hW, hsame.mono (by decide) (by decide)⟩
  · show Steps p.tables e below (T11.setTop (mkF m 25 #[.val (.ref ob0), .val (.ref ob1), .val (.ref ob2), .val (.ref ob3), .val .null] [])) _
    exact X11.returnOut hx Bd.returns (hb hby own_d11_25) hrt
  · show own_Q_rmA19 Z ob0 ob1 ob2 ob3 cs wf h0 n0 _ T11.heap _
    rw [e11]
    exact ⟨rfl, N11, (Keep.wr (Keep.wr (Keep.wr (Keep.wr (Keep.refl h0 [ob0]) W2 (Or.inl (List.mem_of_getElem? (i := 0) rfl))) W5 (Or.inl (List.mem_of_getElem? (i := 0) rfl))) W8 (Or.inl (List.mem_of_getElem? (i := 0) rfl))) W11 (Or.inl (List.mem_of_getElem? (i := 0) rfl))), f13, f14, f15⟩
theorem own_d13_7 : decode prog_13_method_3_code 7 = .ok (.iconst 1, 1) := by decide +kernel
theorem own_d13_8 : decode prog_13_method_3_code 8 = .ok (.goto 4, 3) := by decide +kernel
def own_Q_rmA20 (Z : State) (ob0 : Addr) (ob0_argument : Addr)  (cs : Int32) (wf : Value) (h0 : Heap) (n0 : Nat) (v : Option Value) (h : Heap) (L : List Loc) : Prop := v = some (.int (1 : Int32)) ∧ Fr n0 L ∧ h = h0
set_option maxRecDepth 65536 in
set_option maxHeartbeats 40000000 in
theorem rmA20 (l : Launch) (Z : State) (a0 : Array Value) (hw : ∀ d ∈ tables_1, d.before a0 Z = true) (ws : List Jvm.Cond) (ob0 : Addr) (ob0_argument : Addr)  (cs : Int32) (wf : Value) (h0 : Heap) (n0 : Nat) (O0 : Old Z n0 h0) (G : own_Gl Z cs wf) (E_ob0 : Exa Z h0 ob0 "com/example/momus/momus/cli/Option") (F_ob0_argument : Fld Z h0 ob0 "com/example/momus/momus/cli/Option" "argument" "Ljava/lang/String;" (.ref ob0_argument)) :
    MetFree l own_y11 (head1 (Jvm.Cond.code own_y11 prog_13_method_3_code 1 (some .boolean) :: ws) ({ frames := 0, cells := 0, slots := 0, locals := 0 } : Room)) (fun a U => a = #[(.ref ob0)] ∧ Z.Warmed39 U.vm ∧ U.heap = h0) (fun _ _ _ _ _ => True) (fun _ U o U' => ∃ v L, o = .returned v ∧ own_Q_rmA20 Z ob0 ob0_argument cs wf h0 n0 v U'.heap L ∧ FrameEnd U o U' L ({ frames := 0, cells := 0, slots := 0, locals := 0 } : Room).cells ({ frames := 0, cells := 0, slots := 0, locals := 0 } : Room).slots) := by
  refine MetFree.of_bodySF (plainFor_of_name own_pn4) hisR ?_
  intro p e s m args below meth c s₁ Bd hml0 hP hK
  obtain ⟨rfl, hZ, hh⟩ := hP
  have hx := Bd.exec
  have hby := Bd.bytes
  have hml : c.maxLocals = 1 := hml0
  have hown : s.vm.findClass "com/example/momus/momus/cli/Option" = some m.cls := findClass_of_methodNamed Bd.named
  have hnm := (name_of_methodNamed Bd.named Bd.method).1
  have X0 : Stand p l e ({ frames := 0, cells := 0, slots := 0, locals := 0 } : Room) s m #[(.ref ob0)] below meth c s₁ [] 0 0 := Stand.of_body Bd
  have e0 : s₁.heap = h0 := by rw [← hh, Bd.state]; rfl
  have N0 := Fr.nil n0
  have Z0 : n0 ≤ h0.size := O0.1 ▸ O0.2.1
  have g0 : ∀ t, Steps p.tables e below (s₁.setTop (mkF m 0 #[.val (.ref ob0)] [])) t → Steps p.tables e below (s₁.setTop (entryFrame m #[(.ref ob0)] 1)) t := fun t k => castTop (own_ef12 m (ob0)) k
  have G0 := G
  obtain ⟨S_CS, hcs, S_WF, hwf⟩ := G
  obtain ⟨T1, X1, e1, st1⟩ := getF X0 hx hZ hown (host := "") (Or.inl (own_w hw 58 rfl)) Via.refl e0 F_ob0_argument (g := (mkF m 1 #[.val (.ref ob0)] [(.ref ob0)])) rfl rfl (hb hby own_d13_1)
  have g2 : ∀ t, Steps p.tables e below (T1.setTop (mkF m 12 #[.val (.ref ob0)] [(.int (1 : Int32))])) t → Steps p.tables e below (s₁.setTop (entryFrame m #[(.ref ob0)] 1)) t := by
    intro t k
    refine g0 t ?_
    show Steps p.tables e below (s₁.setTop (mkF m 0 #[.val (.ref ob0)] [])) _
    refine XS.aloadN X0.here hx rfl (hb hby own_d13_0) rfl rfl ?_
    refine st1 _ ?_
    refine XS.ifnullNo X1.here hx rfl (hb hby own_d13_4) rfl ?_
    refine XS.iconst X1.here hx rfl (hb hby own_d13_7) ?_
    show Steps p.tables e below (T1.setTop (mkF m 8 #[.val (.ref ob0)] [(.int (1 : Int32))])) _
    refine XS.goto X1.here hx rfl (pc0 := 8) (pc' := 12) rfl (hb hby own_d13_8) (by decide) (by decide) ?_
    exact k
  obtain ⟨fs, hrt, hrun, hended, hW, hsame⟩ := X1.leave (v := some (.int (1 : Int32))) (fun h => by rw [Bd.returns] at h; cases h)
  refine ⟨_, _, g2 _ ?_, hrun, hended, _, _, rfl, ?_, ⟨_, rfl⟩, hW, hsame.mono (by decide) (by decide)⟩
  · show Steps p.tables e below (T1.setTop (mkF m 12 #[.val (.ref ob0)] [(.int (1 : Int32))])) _
    exact retN X1 hx (t := .boolean) Bd.returns (by simp) (hb hby own_d13_12) hrt
  · show own_Q_rmA20 Z ob0 ob0_argument cs wf h0 n0 _ T1.heap _
    rw [e1]
    exact ⟨rfl, N0, rfl⟩
theorem own_d14_14 : decode prog_13_method_4_code 14 = .ok (.new 25, 3) := by decide +kernel
theorem own_d14_17 : decode prog_13_method_4_code 17 = .ok (.dup, 1) := by decide +kernel
theorem own_d14_18 : decode prog_13_method_4_code 18 = .ok (.invokespecial 27, 3) := by decide +kernel
abbrev own_y15 : MethodName := ⟨"java/lang/StringBuilder", "<init>", "()V"⟩
theorem own_pn6 : plainName "java/lang/StringBuilder" = true := by first | (simp [plainName, overriddenIn]; done) | decide +kernel
theorem own_d17_0 : decode jdk_67_method_1_code 0 = .ok (.aload_n 0, 1) := by decide +kernel
theorem own_d17_1 : decode jdk_67_method_1_code 1 = .ok (.bipush 16, 2) := by decide +kernel
theorem own_d17_3 : decode jdk_67_method_1_code 3 = .ok (.invokespecial 1, 3) := by decide +kernel
abbrev own_y16 : MethodName := ⟨"java/lang/AbstractStringBuilder", "<init>", "(I)V"⟩
theorem own_pn7 : plainName "java/lang/AbstractStringBuilder" = true := by first | (simp [plainName, overriddenIn]; done) | decide +kernel
theorem own_d18_0 : decode jdk_68_method_2_code 0 = .ok (.aload_n 0, 1) := by decide +kernel
theorem own_d18_1 : decode jdk_68_method_2_code 1 = .ok (.invokespecial 3, 3) := by decide +kernel
theorem own_d18_4 : decode jdk_68_method_2_code 4 = .ok (.getstatic 18, 3) := by decide +kernel
theorem own_d18_7 : decode jdk_68_method_2_code 7 = .ok (.ifCond .eq 18, 3) := by decide +kernel
theorem own_d18_10 : decode jdk_68_method_2_code 10 = .ok (.aload_n 0, 1) := by decide +kernel
theorem own_d18_11 : decode jdk_68_method_2_code 11 = .ok (.iload_n 1, 1) := by decide +kernel
theorem own_d18_12 : decode jdk_68_method_2_code 12 = .ok (.newarray .byte, 2) := by decide +kernel
theorem own_d18_14 : decode jdk_68_method_2_code 14 = .ok (.putfield 15, 3) := by decide +kernel
theorem own_d18_17 : decode jdk_68_method_2_code 17 = .ok (.aload_n 0, 1) := by decide +kernel
theorem own_d18_18 : decode jdk_68_method_2_code 18 = .ok (.iconst 0, 1) := by decide +kernel
theorem own_d18_19 : decode jdk_68_method_2_code 19 = .ok (.putfield 22, 3) := by decide +kernel
theorem own_la6 {Z : State} {a0 : Array Value} (hw : ∀ d ∈ tables_1, d.before a0 Z = true) : Laid Z a0 "java/lang/StringBuilder" "java/lang/AbstractStringBuilder" "coder" "B" := Or.inl (own_w hw 104 rfl)
theorem own_la7 {Z : State} {a0 : Array Value} (hw : ∀ d ∈ tables_1, d.before a0 Z = true) : Laid Z a0 "java/lang/StringBuilder" "java/lang/AbstractStringBuilder" "value" "[B" := Or.inl (own_w hw 102 rfl)
theorem own_d18_22 : decode jdk_68_method_2_code 22 = .ok (.goto 16, 3) := by decide +kernel
theorem own_d18_38 : decode jdk_68_method_2_code 38 = .ok (.return_, 1) := by decide +kernel
theorem own_la8 {Z : State} {a0 : Array Value} (hw : ∀ d ∈ tables_1, d.before a0 Z = true) : Laid Z a0 "java/lang/StringBuilder" "java/lang/AbstractStringBuilder" "count" "I" := Or.inl (own_w hw 126 rfl)
theorem own_ty3 : parseFieldDescriptor "I" = some .int := by decide
def own_Q_rmA23 (Z : State) (ob0 : Addr)  (cs : Int32) (wf : Value) (h0 : Heap) (n0 : Nat) (v : Option Value) (h : Heap) (L : List Loc) : Prop := v = none ∧ Fr n0 L ∧ Keep h0 h [ob0] ∧ ∃ rb : Addr, ∃ rk : ClassId, h0.size ≤ rb ∧ Exa Z h ob0 "java/lang/StringBuilder" ∧ Fld Z h ob0 "java/lang/AbstractStringBuilder" "count" "I" (.int (0 : Int32)) ∧ Fld Z h ob0 "java/lang/AbstractStringBuilder" "coder" "B" (.int (0 : Int32)) ∧ Fld Z h ob0 "java/lang/AbstractStringBuilder" "value" "[B" (.ref rb) ∧ ∃ sl : List Value, Arv Z h rb rk .byte (16 : Int32) sl (.int (0 : Int32)) ∧ sl.length = 16
set_option maxRecDepth 65536 in
set_option maxHeartbeats 40000000 in
theorem rmA23 (l : Launch) (Z : State) (a0 : Array Value) (hw : ∀ d ∈ tables_1, d.before a0 Z = true) (ws : List Jvm.Cond) (ob0 : Addr)  (cs : Int32) (wf : Value) (h0 : Heap) (n0 : Nat) (O0 : Old Z n0 h0) (G : own_Gl Z cs wf) (E_ob0 : Exa Z h0 ob0 "java/lang/StringBuilder") (F_ob0_coder : Fld Z h0 ob0 "java/lang/AbstractStringBuilder" "coder" "B" (.int (0 : Int32))) (F_ob0_count : Fld Z h0 ob0 "java/lang/AbstractStringBuilder" "count" "I" (.int (0 : Int32))) (F_ob0_value : Fld Z h0 ob0 "java/lang/AbstractStringBuilder" "value" "[B" .null) (gz_ob0 : n0 ≤ ob0) :
    MetFree l own_y16 (head1 (Jvm.Cond.code own_y16 jdk_68_method_2_code 2 none :: ws) ({ frames := 1, cells := 1, slots := 16, locals := 12 } : Room)) (fun a U => a = #[(.ref ob0), (.int (16 : Int32))] ∧ Z.Warmed39 U.vm ∧ U.heap = h0) (fun _ _ _ _ _ => True) (fun _ U o U' => ∃ v L, o = .returned v ∧ own_Q_rmA23 Z ob0 cs wf h0 n0 v U'.heap L ∧ FrameEnd U o U' L ({ frames := 1, cells := 1, slots := 16, locals := 12 } : Room).cells ({ frames := 1, cells := 1, slots := 16, locals := 12 } : Room).slots) := by
  refine MetFree.of_bodySF (plainFor_of_name own_pn7) hisR ?_
  intro p e s m args below meth c s₁ Bd hml0 hP hK
  obtain ⟨rfl, hZ, hh⟩ := hP
  have hx := Bd.exec
  have hby := Bd.bytes
  have hml : c.maxLocals = 2 := hml0
  have hown : s.vm.findClass "java/lang/AbstractStringBuilder" = some m.cls := findClass_of_methodNamed Bd.named
  have hnm := (name_of_methodNamed Bd.named Bd.method).1
  have X0 : Stand p l e ({ frames := 1, cells := 1, slots := 16, locals := 12 } : Room) s m #[(.ref ob0), (.int (16 : Int32))] below meth c s₁ [] 0 0 := Stand.of_body Bd
  have e0 : s₁.heap = h0 := by rw [← hh, Bd.state]; rfl
  have N0 := Fr.nil n0
  have Z0 : n0 ≤ h0.size := O0.1 ▸ O0.2.1
  have g0 : ∀ t, Steps p.tables e below (s₁.setTop (mkF m 0 #[.val (.ref ob0), .val (.int (16 : Int32))] [])) t → Steps p.tables e below (s₁.setTop (entryFrame m #[(.ref ob0), (.int (16 : Int32))] 2)) t := fun t k => castTop (own_ef6 m (ob0) ((16 : Int32))) k
  have G0 := G
  obtain ⟨S_CS, hcs, S_WF, hwf⟩ := G
  obtain ⟨T1, X1, e1, st1⟩ := initO X0 hx hZ hown (own_w hw 99 rfl) (own_w hw 12 rfl) (own_w hw 13 rfl) e0 (g := (mkF m 1 #[.val (.ref ob0), .val (.int (16 : Int32))] [(.ref ob0)])) rfl (by rw [hml]; rfl) rfl (hb hby own_d18_1) (by decide) (W := 0) (by show 2 * 0 + _ ≤ _; exact Nat.le_of_eq rfl) (by decide)
  obtain ⟨T2, X2, e2, st2⟩ := getS2 X1 hx hZ hown (host := "") (Or.inl (own_w hw 100 rfl)) Via.refl e1 (S_CS.ext O0.2) (g := (mkF m 4 #[.val (.ref ob0), .val (.int (16 : Int32))] [])) rfl (hb hby own_d18_4)
  have hc3 : ¬ (cs = (0 : Int32)) := hcs
  obtain ⟨T4, h4, k4, X4, e4, E4, A4, st4⟩ := newP X2 hx hZ (own_w hw 19 rfl) e2 (g := (mkF m 12 #[.val (.ref ob0), .val (.int (16 : Int32))] [(.int (16 : Int32)), (.ref ob0)])) rfl (hb hby own_d18_12) rfl (by decide) (cap := 16) (by decide) (by decide) (by decide) (by decide)
  obtain ⟨b4, q_b4⟩ : ∃ z, z = h0.size := ⟨_, rfl⟩
  rw [← q_b4] at A4 st4
  have sz_b4 : h0.size ≤ b4 := Nat.le_of_eq q_b4.symm
  have gz_b4 : n0 ≤ b4 := Nat.le_trans Z0 sz_b4
  have ne_ob0_b4 : ob0 ≠ b4 := Nat.ne_of_lt (Nat.lt_of_lt_of_le E_ob0.lt (Nat.le_of_eq q_b4.symm))
  have V4 : Arv Z h4 b4 k4 .byte (16 : Int32) [(.int (0 : Int32)), (.int (0 : Int32)), (.int (0 : Int32)), (.int (0 : Int32)), (.int (0 : Int32)), (.int (0 : Int32)), (.int (0 : Int32)), (.int (0 : Int32)), (.int (0 : Int32)), (.int (0 : Int32)), (.int (0 : Int32)), (.int (0 : Int32)), (.int (0 : Int32)), (.int (0 : Int32)), (.int (0 : Int32)), (.int (0 : Int32))] (.int (0 : Int32)) := (Arv.new A4 (by decide)).pad (pad_rep [] (.int (0 : Int32)) 16)
  have f5 := (E_ob0.ext E4)
  have f6 := (F_ob0_value.ext E4)
  obtain ⟨T7, h7, X7, e7, W7, st7⟩ := putF X4 hx hZ hown (host := "") (Or.inl (own_w hw 101 rfl)) Via.refl e4 f6 f5 (Or.inl (own_w hw 102 rfl)) (own_w hw 88 rfl) (ty := (.array .byte)) (by decide) rfl rfl (g := (mkF m 14 #[.val (.ref ob0), .val (.int (16 : Int32))] [(.ref b4), (.ref ob0)])) rfl rfl (hb hby own_d18_14)
  have Fw7 := f6.same W7
  have N7 := Fr.snoc X7 N0 gz_ob0
  have f8 := (f5.wr W7)
  have f9 := ((F_ob0_coder.ext E4).other W7 (Or.inr (slot_ne (own_la6 hw) (own_la7 hw) (by decide) own_ty1 own_ty0)))
  obtain ⟨T10, h10, X10, e10, W10, st10⟩ := putFN X7 hx hZ hown (own_w hw 103 rfl) Via.refl e7 f9 f8 (Or.inl (own_w hw 104 rfl)) (own_w hw 88 rfl) (ty := .byte) (v' := (.int (0 : Int32))) (by decide) rfl rfl (g := (mkF m 19 #[.val (.ref ob0), .val (.int (16 : Int32))] [(.int (0 : Int32)), (.ref ob0)])) rfl rfl (hb hby own_d18_19)
  have Fw10 := f9.same W10
  have N10 := Fr.snoc X10 N7 gz_ob0
  have g11 : ∀ t, Steps p.tables e below (T10.setTop (mkF m 38 #[.val (.ref ob0), .val (.int (16 : Int32))] [])) t → Steps p.tables e below (s₁.setTop (entryFrame m #[(.ref ob0), (.int (16 : Int32))] 2)) t := by
    intro t k
    refine g0 t ?_
    show Steps p.tables e below (s₁.setTop (mkF m 0 #[.val (.ref ob0), .val (.int (16 : Int32))] [])) _
    refine XS.aloadN X0.here hx rfl (hb hby own_d18_0) rfl rfl ?_
    refine st1 _ ?_
    refine st2 _ ?_
    refine XS.ifNo X2.here hx rfl (hb hby own_d18_7) rfl ((if0 _ _).trans (feq hc3).1) ?_
    show Steps p.tables e below (T2.setTop (mkF m 10 #[.val (.ref ob0), .val (.int (16 : Int32))] [])) _
    refine XS.aloadN X2.here hx rfl (hb hby own_d18_10) rfl rfl ?_
    refine XS.iloadN X2.here hx rfl (hb hby own_d18_11) rfl ?_
    refine st4 _ ?_
    refine st7 _ ?_
    show Steps p.tables e below (T7.setTop (mkF m 17 #[.val (.ref ob0), .val (.int (16 : Int32))] [])) _
    refine XS.aloadN X7.here hx rfl (hb hby own_d18_17) rfl rfl ?_
    refine XS.iconst X7.here hx rfl (hb hby own_d18_18) ?_
    refine st10 _ ?_
    refine XS.goto X10.here hx rfl (pc0 := 22) (pc' := 38) rfl (hb hby own_d18_22) (by decide) (by decide) ?_
    exact k
  obtain ⟨fs, hrt, hrun, hended, hW, hsame⟩ := X10.leave (v := none) (fun _ => rfl)
  have f12 := (f8.wr W10)
  have f13 := (((F_ob0_count.ext E4).other W7 (Or.inr (slot_ne (own_la8 hw) (own_la7 hw) (by decide) own_ty3 own_ty0))).other W10 (Or.inr (slot_ne (own_la8 hw) (own_la6 hw) (by decide) own_ty3 own_ty1)))
  have f14 := (Fw7.other W10 (Or.inr (slot_ne (own_la7 hw) (own_la6 hw) (by decide) own_ty0 own_ty1)))
  have f15 := ((V4.other W7 (Ne.symm ne_ob0_b4)).other W10 (Ne.symm ne_ob0_b4))
  refine ⟨_, _, g11 _ ?_, hrun, hended, _, _, rfl, ?_, ⟨_, rfl⟩, hW, hsame.mono (by decide) (by decide)⟩
  · show Steps p.tables e below (T10.setTop (mkF m 38 #[.val (.ref ob0), .val (.int (16 : Int32))] [])) _
    exact X10.returnOut hx Bd.returns (hb hby own_d18_38) hrt
  · show own_Q_rmA23 Z ob0 cs wf h0 n0 _ T10.heap _
    rw [e10]
    exact ⟨rfl, N10, (Keep.wr (Keep.wr (Keep.ext (Keep.refl h0 [ob0]) E4) W7 (Or.inl (List.mem_of_getElem? (i := 0) rfl))) W10 (Or.inl (List.mem_of_getElem? (i := 0) rfl))), b4, _, sz_b4, f12, f13, Fw10, f14, _, f15, rfl⟩
theorem own_pd15 : parseMethodDescriptor "(I)V" = some ⟨[.int], none⟩ := by decide +kernel
theorem own_d17_6 : decode jdk_67_method_1_code 6 = .ok (.return_, 1) := by decide +kernel
def own_Q_rmA22 (Z : State) (ob0 : Addr)  (cs : Int32) (wf : Value) (h0 : Heap) (n0 : Nat) (v : Option Value) (h : Heap) (L : List Loc) : Prop := v = none ∧ Fr n0 L ∧ Keep h0 h [ob0] ∧ ∃ rb : Addr, ∃ rk : ClassId, h0.size ≤ rb ∧ Exa Z h ob0 "java/lang/StringBuilder" ∧ Fld Z h ob0 "java/lang/AbstractStringBuilder" "count" "I" (.int (0 : Int32)) ∧ Fld Z h ob0 "java/lang/AbstractStringBuilder" "coder" "B" (.int (0 : Int32)) ∧ Fld Z h ob0 "java/lang/AbstractStringBuilder" "value" "[B" (.ref rb) ∧ ∃ sl : List Value, Arv Z h rb rk .byte (16 : Int32) sl (.int (0 : Int32)) ∧ sl.length = 16
set_option maxRecDepth 65536 in
set_option maxHeartbeats 40000000 in
theorem rmA22 (l : Launch) (Z : State) (a0 : Array Value) (hw : ∀ d ∈ tables_1, d.before a0 Z = true) (ws : List Jvm.Cond) (ob0 : Addr)  (cs : Int32) (wf : Value) (h0 : Heap) (n0 : Nat) (O0 : Old Z n0 h0) (G : own_Gl Z cs wf) (E_ob0 : Exa Z h0 ob0 "java/lang/StringBuilder") (F_ob0_coder : Fld Z h0 ob0 "java/lang/AbstractStringBuilder" "coder" "B" (.int (0 : Int32))) (F_ob0_count : Fld Z h0 ob0 "java/lang/AbstractStringBuilder" "count" "I" (.int (0 : Int32))) (F_ob0_value : Fld Z h0 ob0 "java/lang/AbstractStringBuilder" "value" "[B" .null) (gz_ob0 : n0 ≤ ob0) :
    MetFree l own_y15 (head1 (Jvm.Cond.code own_y15 jdk_67_method_1_code 1 none :: ws) ({ frames := 2, cells := 1, slots := 16, locals := 25 } : Room)) (fun a U => a = #[(.ref ob0)] ∧ Z.Warmed39 U.vm ∧ U.heap = h0) (fun _ _ _ _ _ => True) (fun _ U o U' => ∃ v L, o = .returned v ∧ own_Q_rmA22 Z ob0 cs wf h0 n0 v U'.heap L ∧ FrameEnd U o U' L ({ frames := 2, cells := 1, slots := 16, locals := 25 } : Room).cells ({ frames := 2, cells := 1, slots := 16, locals := 25 } : Room).slots) := by
  refine MetFree.of_bodySF (plainFor_of_name own_pn6) hisR ?_
  intro p e s m args below meth c s₁ Bd hml0 hP hK
  obtain ⟨rfl, hZ, hh⟩ := hP
  have hx := Bd.exec
  have hby := Bd.bytes
  have hml : c.maxLocals = 1 := hml0
  have hown : s.vm.findClass "java/lang/StringBuilder" = some m.cls := findClass_of_methodNamed Bd.named
  have hnm := (name_of_methodNamed Bd.named Bd.method).1
  have X0 : Stand p l e ({ frames := 2, cells := 1, slots := 16, locals := 25 } : Room) s m #[(.ref ob0)] below meth c s₁ [] 0 0 := Stand.of_body Bd
  have e0 : s₁.heap = h0 := by rw [← hh, Bd.state]; rfl
  have N0 := Fr.nil n0
  have Z0 : n0 ≤ h0.size := O0.1 ▸ O0.2.1
  have g0 : ∀ t, Steps p.tables e below (s₁.setTop (mkF m 0 #[.val (.ref ob0)] [])) t → Steps p.tables e below (s₁.setTop (entryFrame m #[(.ref ob0)] 1)) t := fun t k => castTop (own_ef12 m (ob0)) k
  have G0 := G
  obtain ⟨S_CS, hcs, S_WF, hwf⟩ := G
  obtain ⟨_, _, ⟨T1, L1, k1, n1⟩, -, X1, ⟨Lc1, hQ1, l1, y1, z1⟩, st1⟩ := X0.specialBack hx (y := own_y16) rfl hown (mvT hZ (own_w hw 93 rfl)) (mvT hZ (own_w hw 94 rfl)) (mvT hZ (own_w hw 98 rfl)) (by decide) (backOf (W := 0) (rmA23 l Z a0 hw [] ob0  cs wf h0 n0 O0 G0 E_ob0 F_ob0_coder F_ob0_count F_ob0_value gz_ob0 ) hZ (own_w hw 98 rfl) (own_w hw 97 rfl) (by decide) (by decide)) (g := (mkF m 3 #[.val (.ref ob0)] [(.int (16 : Int32)), (.ref ob0)])) rfl (by rw [hml]; rfl) (Steps.refl _) (a := ob0) (argsL := [(.int (16 : Int32))]) (rest := []) (lenOf own_pd15 rfl) rfl (by show 2 * 0 + _ ≤ _; exact Nat.le_of_eq rfl) (hb hby own_d17_3) (fun _ _ => ⟨rfl, e0, (by decide : 0 + 1 ≤ _), (by decide : 0 + 16 ≤ _)⟩)
  dsimp only [Pt.U, Pt.locs, Pt.cells, Pt.slots] at X1 l1 y1 z1 st1 hQ1
  subst l1 y1 z1
  obtain ⟨rfl, Nq1, K1, rb1, rk1, hb1, Qe1, Qn1, Qc1, Qv1, sl1, Va1, hl1⟩ := hQ1
  have N1 := Fr.app N0 Nq1
  have sz_rb1 : h0.size ≤ rb1 := hb1
  have gz_rb1 : n0 ≤ rb1 := Nat.le_trans Z0 sz_rb1
  have ne_ob0_rb1 : ob0 ≠ rb1 := Nat.ne_of_lt (Nat.lt_of_lt_of_le E_ob0.lt hb1)
  have g2 : ∀ t, Steps p.tables e below (T1.setTop (mkF m 6 #[.val (.ref ob0)] [])) t → Steps p.tables e below (s₁.setTop (entryFrame m #[(.ref ob0)] 1)) t := by
    intro t k
    refine g0 t ?_
    show Steps p.tables e below (s₁.setTop (mkF m 0 #[.val (.ref ob0)] [])) _
    refine XS.aloadN X0.here hx rfl (hb hby own_d17_0) rfl rfl ?_
    refine XS.bipush X0.here hx rfl (hb hby own_d17_1) ?_
    refine st1.trans ?_
    exact k
  obtain ⟨fs, hrt, hrun, hended, hW, hsame⟩ := X1.leave (v := none) (fun _ => rfl)
  refine ⟨_, _, g2 _ ?_, hrun, hended, _, _, rfl, ?_, ⟨_, rfl⟩, hW, hsame.mono (by decide) (by decide)⟩
  · show Steps p.tables e below (T1.setTop (mkF m 6 #[.val (.ref ob0)] [])) _
    exact X1.returnOut hx Bd.returns (hb hby own_d17_6) hrt
  · show own_Q_rmA22 Z ob0 cs wf h0 n0 _ T1.heap _
    exact ⟨rfl, N1, (Keep.trans (Keep.refl h0 [ob0]) K1 (allS (Or.inl (List.mem_of_getElem? (i := 0) rfl)) all0)), rb1, _, sz_rb1, Qe1, Qn1, Qc1, Qv1, _, Va1, hl1⟩
theorem own_d14_21 : decode prog_13_method_4_code 21 = .ok (.aload_n 0, 1) := by decide +kernel
theorem own_d14_22 : decode prog_13_method_4_code 22 = .ok (.getfield 7, 3) := by decide +kernel
theorem own_d14_25 : decode prog_13_method_4_code 25 = .ok (.invokevirtual 28, 3) := by decide +kernel
abbrev own_y17 : MethodName := ⟨"java/lang/StringBuilder", "append", "(Ljava/lang/String;)Ljava/lang/StringBuilder;"⟩
theorem own_d19_0 : decode jdk_67_method_7_code 0 = .ok (.aload_n 0, 1) := by decide +kernel
theorem own_d19_1 : decode jdk_67_method_7_code 1 = .ok (.aload_n 1, 1) := by decide +kernel
theorem own_d19_2 : decode jdk_67_method_7_code 2 = .ok (.invokespecial 29, 3) := by decide +kernel
abbrev own_y18 : MethodName := ⟨"java/lang/AbstractStringBuilder", "append", "(Ljava/lang/String;)Ljava/lang/AbstractStringBuilder;"⟩
theorem own_d20_0 : decode jdk_68_method_22_code 0 = .ok (.aload_n 1, 1) := by decide +kernel
theorem own_d20_1 : decode jdk_68_method_22_code 1 = .ok (.ifnonnull 8, 3) := by decide +kernel
theorem own_d20_9 : decode jdk_68_method_22_code 9 = .ok (.aload_n 1, 1) := by decide +kernel
theorem own_d20_10 : decode jdk_68_method_22_code 10 = .ok (.invokevirtual 32, 3) := by decide +kernel
abbrev own_y19 : MethodName := ⟨"java/lang/String", "length", "()I"⟩
theorem own_d21_0 : decode jdk_42_method_54_code 0 = .ok (.aload_n 0, 1) := by decide +kernel
theorem own_d21_1 : decode jdk_42_method_54_code 1 = .ok (.getfield 9, 3) := by decide +kernel
theorem own_d21_4 : decode jdk_42_method_54_code 4 = .ok (.arraylength, 1) := by decide +kernel
theorem own_d21_5 : decode jdk_42_method_54_code 5 = .ok (.aload_n 0, 1) := by decide +kernel
theorem own_d21_6 : decode jdk_42_method_54_code 6 = .ok (.invokevirtual 335, 3) := by decide +kernel
abbrev own_y20 : MethodName := ⟨"java/lang/String", "coder", "()B"⟩
theorem own_d22_0 : decode jdk_42_method_152_code 0 = .ok (.getstatic 38, 3) := by decide +kernel
theorem own_d22_3 : decode jdk_42_method_152_code 3 = .ok (.ifCond .eq 10, 3) := by decide +kernel
theorem own_d22_6 : decode jdk_42_method_152_code 6 = .ok (.aload_n 0, 1) := by decide +kernel
theorem own_d22_7 : decode jdk_42_method_152_code 7 = .ok (.getfield 15, 3) := by decide +kernel
theorem own_d22_10 : decode jdk_42_method_152_code 10 = .ok (.goto 4, 3) := by decide +kernel
theorem own_d22_14 : decode jdk_42_method_152_code 14 = .ok (.ireturn, 1) := by decide +kernel
def own_Q_rmA27 (Z : State) (ob0 : Addr)  (cs : Int32) (wf : Value) (h0 : Heap) (n0 : Nat) (v : Option Value) (h : Heap) (L : List Loc) : Prop := v = some (.int (0 : Int32)) ∧ Fr n0 L ∧ h = h0
set_option maxRecDepth 65536 in
set_option maxHeartbeats 40000000 in
theorem rmA27 (l : Launch) (Z : State) (a0 : Array Value) (hw : ∀ d ∈ tables_1, d.before a0 Z = true) (ws : List Jvm.Cond) (ob0 : Addr)  (cs : Int32) (wf : Value) (h0 : Heap) (n0 : Nat) (O0 : Old Z n0 h0) (G : own_Gl Z cs wf) (E_ob0 : Exa Z h0 ob0 "java/lang/String") (F_ob0_coder : Fld Z h0 ob0 "java/lang/String" "coder" "B" (.int (0 : Int32))) :
    MetFree l own_y20 (head1 (Jvm.Cond.code own_y20 jdk_42_method_152_code 1 (some .byte) :: ws) ({ frames := 0, cells := 0, slots := 0, locals := 0 } : Room)) (fun a U => a = #[(.ref ob0)] ∧ Z.Warmed39 U.vm ∧ U.heap = h0) (fun _ _ _ _ _ => True) (fun _ U o U' => ∃ v L, o = .returned v ∧ own_Q_rmA27 Z ob0 cs wf h0 n0 v U'.heap L ∧ FrameEnd U o U' L ({ frames := 0, cells := 0, slots := 0, locals := 0 } : Room).cells ({ frames := 0, cells := 0, slots := 0, locals := 0 } : Room).slots) := by
  refine MetFree.of_bodySF (plainFor_of_name own_pn1) hisR ?_
  intro p e s m args below meth c s₁ Bd hml0 hP hK
  obtain ⟨rfl, hZ, hh⟩ := hP
  have hx := Bd.exec
  have hby := Bd.bytes
  have hml : c.maxLocals = 1 := hml0
  have hown : s.vm.findClass "java/lang/String" = some m.cls := findClass_of_methodNamed Bd.named
  have hnm := (name_of_methodNamed Bd.named Bd.method).1
  have X0 : Stand p l e ({ frames := 0, cells := 0, slots := 0, locals := 0 } : Room) s m #[(.ref ob0)] below meth c s₁ [] 0 0 := Stand.of_body Bd
  have e0 : s₁.heap = h0 := by rw [← hh, Bd.state]; rfl
  have N0 := Fr.nil n0
  have Z0 : n0 ≤ h0.size := O0.1 ▸ O0.2.1
  have g0 : ∀ t, Steps p.tables e below (s₁.setTop (mkF m 0 #[.val (.ref ob0)] [])) t → Steps p.tables e below (s₁.setTop (entryFrame m #[(.ref ob0)] 1)) t := fun t k => castTop (own_ef12 m (ob0)) k
  have G0 := G
  obtain ⟨S_CS, hcs, S_WF, hwf⟩ := G
  obtain ⟨T1, X1, e1, st1⟩ := getS2 X0 hx hZ hown (host := "") (Or.inl (own_w hw 14 rfl)) Via.refl e0 (S_CS.ext O0.2) (g := (mkF m 0 #[.val (.ref ob0)] [])) rfl (hb hby own_d22_0)
  have hc2 : ¬ (cs = (0 : Int32)) := hcs
  obtain ⟨T3, X3, e3, st3⟩ := getF X1 hx hZ hown (host := "") (Or.inl (own_w hw 26 rfl)) Via.refl e1 F_ob0_coder (g := (mkF m 7 #[.val (.ref ob0)] [(.ref ob0)])) rfl rfl (hb hby own_d22_7)
  have g4 : ∀ t, Steps p.tables e below (T3.setTop (mkF m 14 #[.val (.ref ob0)] [(.int (0 : Int32))])) t → Steps p.tables e below (s₁.setTop (entryFrame m #[(.ref ob0)] 1)) t := by
    intro t k
    refine g0 t ?_
    show Steps p.tables e below (s₁.setTop (mkF m 0 #[.val (.ref ob0)] [])) _
    refine st1 _ ?_
    refine XS.ifNo X1.here hx rfl (hb hby own_d22_3) rfl ((if0 _ _).trans (feq hc2).1) ?_
    refine XS.aloadN X1.here hx rfl (hb hby own_d22_6) rfl rfl ?_
    refine st3 _ ?_
    show Steps p.tables e below (T3.setTop (mkF m 10 #[.val (.ref ob0)] [(.int (0 : Int32))])) _
    refine XS.goto X3.here hx rfl (pc0 := 10) (pc' := 14) rfl (hb hby own_d22_10) (by decide) (by decide) ?_
    exact k
  obtain ⟨fs, hrt, hrun, hended, hW, hsame⟩ := X3.leave (v := some (.int (0 : Int32))) (fun h => by rw [Bd.returns] at h; cases h)
  refine ⟨_, _, g4 _ ?_, hrun, hended, _, _, rfl, ?_, ⟨_, rfl⟩, hW, hsame.mono (by decide) (by decide)⟩
  · show Steps p.tables e below (T3.setTop (mkF m 14 #[.val (.ref ob0)] [(.int (0 : Int32))])) _
    exact retN X3 hx (t := .byte) Bd.returns (by simp) (hb hby own_d22_14) hrt
  · show own_Q_rmA27 Z ob0 cs wf h0 n0 _ T3.heap _
    rw [e3]
    exact ⟨rfl, N0, rfl⟩
theorem own_pd16 : parseMethodDescriptor "()B" = some ⟨[], some .byte⟩ := by decide +kernel
theorem own_d21_9 : decode jdk_42_method_54_code 9 = .ok (.ishr, 1) := by decide +kernel
theorem own_d21_10 : decode jdk_42_method_54_code 10 = .ok (.ireturn, 1) := by decide +kernel
def own_Q_rmA26 (Z : State) (ob0 : Addr) (ob0_value : Addr) (k_ob0_value : ClassId) (ob0_value_z : Int32) (ob0_value_l : List Value)  (cs : Int32) (wf : Value) (h0 : Heap) (n0 : Nat) (v : Option Value) (h : Heap) (L : List Loc) : Prop := v = some (.int (ob0_value_z >>> ((0 : Int32) &&& 31))) ∧ Fr n0 L ∧ h = h0
set_option maxRecDepth 65536 in
set_option maxHeartbeats 40000000 in
theorem rmA26 (l : Launch) (Z : State) (a0 : Array Value) (hw : ∀ d ∈ tables_1, d.before a0 Z = true) (ws : List Jvm.Cond) (ob0 : Addr) (ob0_value : Addr) (k_ob0_value : ClassId) (ob0_value_z : Int32) (ob0_value_l : List Value)  (cs : Int32) (wf : Value) (h0 : Heap) (n0 : Nat) (O0 : Old Z n0 h0) (G : own_Gl Z cs wf) (E_ob0 : Exa Z h0 ob0 "java/lang/String") (F_ob0_coder : Fld Z h0 ob0 "java/lang/String" "coder" "B" (.int (0 : Int32))) (V_ob0_value : Arv Z h0 ob0_value k_ob0_value .byte ob0_value_z ob0_value_l (.int (0 : Int32))) (F_ob0_value : Fld Z h0 ob0 "java/lang/String" "value" "[B" (.ref ob0_value)) :
    MetFree l own_y19 (head1 (Jvm.Cond.code own_y19 jdk_42_method_54_code 1 (some .int) :: ws) ({ frames := 1, cells := 0, slots := 0, locals := 13 } : Room)) (fun a U => a = #[(.ref ob0)] ∧ Z.Warmed39 U.vm ∧ U.heap = h0) (fun _ _ _ _ _ => True) (fun _ U o U' => ∃ v L, o = .returned v ∧ own_Q_rmA26 Z ob0 ob0_value k_ob0_value ob0_value_z ob0_value_l cs wf h0 n0 v U'.heap L ∧ FrameEnd U o U' L ({ frames := 1, cells := 0, slots := 0, locals := 13 } : Room).cells ({ frames := 1, cells := 0, slots := 0, locals := 13 } : Room).slots) := by
  refine MetFree.of_bodySF (plainFor_of_name own_pn1) hisR ?_
  intro p e s m args below meth c s₁ Bd hml0 hP hK
  obtain ⟨rfl, hZ, hh⟩ := hP
  have hx := Bd.exec
  have hby := Bd.bytes
  have hml : c.maxLocals = 1 := hml0
  have hown : s.vm.findClass "java/lang/String" = some m.cls := findClass_of_methodNamed Bd.named
  have hnm := (name_of_methodNamed Bd.named Bd.method).1
  have X0 : Stand p l e ({ frames := 1, cells := 0, slots := 0, locals := 13 } : Room) s m #[(.ref ob0)] below meth c s₁ [] 0 0 := Stand.of_body Bd
  have e0 : s₁.heap = h0 := by rw [← hh, Bd.state]; rfl
  have N0 := Fr.nil n0
  have Z0 : n0 ≤ h0.size := O0.1 ▸ O0.2.1
  have g0 : ∀ t, Steps p.tables e below (s₁.setTop (mkF m 0 #[.val (.ref ob0)] [])) t → Steps p.tables e below (s₁.setTop (entryFrame m #[(.ref ob0)] 1)) t := fun t k => castTop (own_ef12 m (ob0)) k
  have G0 := G
  obtain ⟨S_CS, hcs, S_WF, hwf⟩ := G
  obtain ⟨T1, X1, e1, st1⟩ := getF X0 hx hZ hown (host := "") (Or.inl (own_w hw 28 rfl)) Via.refl e0 F_ob0_value (g := (mkF m 1 #[.val (.ref ob0)] [(.ref ob0)])) rfl rfl (hb hby own_d21_1)
  obtain ⟨c2, Ar2, cq2, S2, Nn2, Hh2, Gg2⟩ := id V_ob0_value
  obtain ⟨cq3, kq3, q3a, q3b, q3c⟩ := isOf hZ e1 E_ob0
  obtain ⟨_, _, ⟨T3, L3, k3, n3⟩, -, X3, ⟨Lc3, hQ3, l3, y3, z3⟩, st3⟩ := X1.virtualBack hx (y := own_y20) (z := own_y20) hown (mvT hZ (own_w hw 120 rfl)) (mvT hZ (own_w hw 121 rfl)) (notFace_of_selects (args := #[]) (mvT hZ (own_w hw 123 rfl))) (mvT hZ (own_w hw 123 rfl)) (mvT hZ (own_w hw 122 rfl)) (by decide) (backOf (W := 1) (rmA27 l Z a0 hw [] ob0  cs wf h0 n0 O0 G0 E_ob0 F_ob0_coder  ) hZ (own_w hw 124 rfl) (own_w hw 3 rfl) (by decide) (by decide)) q3a q3c (g := (mkF m 6 #[.val (.ref ob0)] [(.ref ob0), (.int ob0_value_z)])) rfl (by rw [hml]; rfl) (Steps.refl _) (argsL := []) (rest := [(.int ob0_value_z)]) (lenOf own_pd16 rfl) rfl (by show 2 * 0 + _ ≤ _; exact Nat.le_of_eq rfl) (hb hby own_d21_6) (fun _ _ => ⟨rfl, e1, (by decide : 0 + 0 ≤ _), (by decide : 0 + 0 ≤ _)⟩)
  dsimp only [Pt.U, Pt.locs, Pt.cells, Pt.slots] at X3 l3 y3 z3 st3 hQ3
  subst l3 y3 z3
  obtain ⟨rfl, Nq3, e3⟩ := hQ3
  have N3 := Fr.app N0 Nq3
  have g4 : ∀ t, Steps p.tables e below (T3.setTop (mkF m 10 #[.val (.ref ob0)] [(.int (ob0_value_z >>> ((0 : Int32) &&& 31)))])) t → Steps p.tables e below (s₁.setTop (entryFrame m #[(.ref ob0)] 1)) t := by
    intro t k
    refine g0 t ?_
    show Steps p.tables e below (s₁.setTop (mkF m 0 #[.val (.ref ob0)] [])) _
    refine XS.aloadN X0.here hx rfl (hb hby own_d21_0) rfl rfl ?_
    refine st1 _ ?_
    show Steps p.tables e below (T1.setTop (mkF m 4 #[.val (.ref ob0)] [(.ref ob0_value)])) _
    refine X1.arraylength hx (by rw [e1]; exact Ar2.1) (State.isArrayOf_alike hZ.alike Ar2.2.1) (g := (mkF m 4 #[.val (.ref ob0)] [(.ref ob0_value)])) rfl rfl (hb hby own_d21_4) _ ?_
    rw [len_of S2 Nn2]
    refine XS.aloadN X1.here hx rfl (hb hby own_d21_5) rfl rfl ?_
    show Steps p.tables e below (T1.setTop (mkF m 6 #[.val (.ref ob0)] [(.ref ob0), (.int ob0_value_z)])) _
    refine st3.trans ?_
    show Steps p.tables e below (T3.setTop (mkF m 9 #[.val (.ref ob0)] [(.int (0 : Int32)), (.int ob0_value_z)])) _
    refine XS.ishr X3.here hx rfl (hb hby own_d21_9) rfl ?_
    exact k
  obtain ⟨fs, hrt, hrun, hended, hW, hsame⟩ := X3.leave (v := some (.int (ob0_value_z >>> ((0 : Int32) &&& 31)))) (fun h => by rw [Bd.returns] at h; cases h)
  refine ⟨_, _, g4 _ ?_, hrun, hended, _, _, rfl, ?_, ⟨_, rfl⟩, hW, hsame.mono (by decide) (by decide)⟩
  · show Steps p.tables e below (T3.setTop (mkF m 10 #[.val (.ref ob0)] [(.int (ob0_value_z >>> ((0 : Int32) &&& 31)))])) _
    exact retI X3 hx Bd.returns (hb hby own_d21_10) hrt
  · show own_Q_rmA26 Z ob0 ob0_value k_ob0_value ob0_value_z ob0_value_l cs wf h0 n0 _ T3.heap _
    rw [e3]
    exact ⟨rfl, N3, rfl⟩
theorem own_pd17 : parseMethodDescriptor "()I" = some ⟨[], some .int⟩ := by decide +kernel
theorem own_d20_13 : decode jdk_68_method_22_code 13 = .ok (.istore_n 2, 1) := by decide +kernel
theorem own_d20_14 : decode jdk_68_method_22_code 14 = .ok (.aload_n 0, 1) := by decide +kernel
theorem own_d20_15 : decode jdk_68_method_22_code 15 = .ok (.aload_n 0, 1) := by decide +kernel
theorem own_d20_16 : decode jdk_68_method_22_code 16 = .ok (.getfield 79, 3) := by decide +kernel
theorem own_d20_19 : decode jdk_68_method_22_code 19 = .ok (.iload_n 2, 1) := by decide +kernel
theorem own_d20_20 : decode jdk_68_method_22_code 20 = .ok (.iadd, 1) := by decide +kernel
theorem own_d20_21 : decode jdk_68_method_22_code 21 = .ok (.invokevirtual 100, 3) := by decide +kernel
abbrev own_y21 : MethodName := ⟨"java/lang/AbstractStringBuilder", "ensureCapacityInternal", "(I)V"⟩
theorem own_ef30 (m : MethodId) (x0 : Addr) (x1 : Int32) : entryFrame m #[(.ref x0), (.int x1)] 3 = mkF m 0 #[.val (.ref x0), .val (.int x1), .unset] [] := by first | (simp [entryFrame, mkF, argsToLocals, Value.category]; done) | rfl
theorem own_d23_0 : decode jdk_68_method_9_code 0 = .ok (.aload_n 0, 1) := by decide +kernel
theorem own_d23_1 : decode jdk_68_method_9_code 1 = .ok (.getfield 15, 3) := by decide +kernel
theorem own_d23_4 : decode jdk_68_method_9_code 4 = .ok (.arraylength, 1) := by decide +kernel
theorem own_d23_5 : decode jdk_68_method_9_code 5 = .ok (.aload_n 0, 1) := by decide +kernel
theorem own_d23_6 : decode jdk_68_method_9_code 6 = .ok (.getfield 22, 3) := by decide +kernel
theorem own_d23_9 : decode jdk_68_method_9_code 9 = .ok (.ishr, 1) := by decide +kernel
theorem own_d23_10 : decode jdk_68_method_9_code 10 = .ok (.istore_n 2, 1) := by decide +kernel
theorem own_d23_11 : decode jdk_68_method_9_code 11 = .ok (.iload_n 1, 1) := by decide +kernel
theorem own_d23_12 : decode jdk_68_method_9_code 12 = .ok (.iload_n 2, 1) := by decide +kernel
theorem own_d23_13 : decode jdk_68_method_9_code 13 = .ok (.isub, 1) := by decide +kernel
theorem own_d23_14 : decode jdk_68_method_9_code 14 = .ok (.ifCond .le 24, 3) := by decide +kernel
theorem own_d23_38 : decode jdk_68_method_9_code 38 = .ok (.return_, 1) := by decide +kernel
def own_Q_rmA28 (Z : State) (ob0 : Addr) (ob0_value : Addr) (k_ob0_value : ClassId) (ob0_value_l : List Value) (p1 : Int32)  (cs : Int32) (wf : Value) (h0 : Heap) (n0 : Nat) (v : Option Value) (h : Heap) (L : List Loc) : Prop := v = none ∧ Fr n0 L ∧ h = h0
set_option maxRecDepth 65536 in
set_option maxHeartbeats 40000000 in
theorem rmA28 (l : Launch) (Z : State) (a0 : Array Value) (hw : ∀ d ∈ tables_1, d.before a0 Z = true) (ws : List Jvm.Cond) (ob0 : Addr) (ob0_value : Addr) (k_ob0_value : ClassId) (ob0_value_l : List Value) (p1 : Int32)  (cs : Int32) (wf : Value) (h0 : Heap) (n0 : Nat) (O0 : Old Z n0 h0) (G : own_Gl Z cs wf) (E_ob0 : Exa Z h0 ob0 "java/lang/StringBuilder") (F_ob0_coder : Fld Z h0 ob0 "java/lang/AbstractStringBuilder" "coder" "B" (.int (0 : Int32))) (V_ob0_value : Arv Z h0 ob0_value k_ob0_value .byte (16 : Int32) ob0_value_l (.int (0 : Int32))) (F_ob0_value : Fld Z h0 ob0 "java/lang/AbstractStringBuilder" "value" "[B" (.ref ob0_value)) (hcap : ¬ ((0 : Int32) < (p1 - (16 : Int32)))) :
    MetFree l own_y21 (head1 (Jvm.Cond.code own_y21 jdk_68_method_9_code 3 none :: ws) ({ frames := 0, cells := 0, slots := 0, locals := 0 } : Room)) (fun a U => a = #[(.ref ob0), (.int p1)] ∧ Z.Warmed39 U.vm ∧ U.heap = h0) (fun _ _ _ _ _ => True) (fun _ U o U' => ∃ v L, o = .returned v ∧ own_Q_rmA28 Z ob0 ob0_value k_ob0_value ob0_value_l p1 cs wf h0 n0 v U'.heap L ∧ FrameEnd U o U' L ({ frames := 0, cells := 0, slots := 0, locals := 0 } : Room).cells ({ frames := 0, cells := 0, slots := 0, locals := 0 } : Room).slots) := by
  refine MetFree.of_bodySF (plainFor_of_name own_pn7) hisR ?_
  intro p e s m args below meth c s₁ Bd hml0 hP hK
  obtain ⟨rfl, hZ, hh⟩ := hP
  have hx := Bd.exec
  have hby := Bd.bytes
  have hml : c.maxLocals = 3 := hml0
  have hown : s.vm.findClass "java/lang/AbstractStringBuilder" = some m.cls := findClass_of_methodNamed Bd.named
  have hnm := (name_of_methodNamed Bd.named Bd.method).1
  have X0 : Stand p l e ({ frames := 0, cells := 0, slots := 0, locals := 0 } : Room) s m #[(.ref ob0), (.int p1)] below meth c s₁ [] 0 0 := Stand.of_body Bd
  have e0 : s₁.heap = h0 := by rw [← hh, Bd.state]; rfl
  have N0 := Fr.nil n0
  have Z0 : n0 ≤ h0.size := O0.1 ▸ O0.2.1
  have g0 : ∀ t, Steps p.tables e below (s₁.setTop (mkF m 0 #[.val (.ref ob0), .val (.int p1), .unset] [])) t → Steps p.tables e below (s₁.setTop (entryFrame m #[(.ref ob0), (.int p1)] 3)) t := fun t k => castTop (own_ef30 m (ob0) (p1)) k
  have G0 := G
  obtain ⟨S_CS, hcs, S_WF, hwf⟩ := G
  obtain ⟨T1, X1, e1, st1⟩ := getF X0 hx hZ hown (host := "") (Or.inl (own_w hw 101 rfl)) Via.refl e0 F_ob0_value (g := (mkF m 1 #[.val (.ref ob0), .val (.int p1), .unset] [(.ref ob0)])) rfl rfl (hb hby own_d23_1)
  obtain ⟨c2, Ar2, cq2, S2, Nn2, Hh2, Gg2⟩ := id V_ob0_value
  obtain ⟨T3, X3, e3, st3⟩ := getF X1 hx hZ hown (host := "") (Or.inl (own_w hw 103 rfl)) Via.refl e1 F_ob0_coder (g := (mkF m 6 #[.val (.ref ob0), .val (.int p1), .unset] [(.ref ob0), (.int (16 : Int32))])) rfl rfl (hb hby own_d23_6)
  have hc4 : ¬ ((0 : Int32) < (p1 - (16 : Int32))) := hcap
  have g5 : ∀ t, Steps p.tables e below (T3.setTop (mkF m 38 #[.val (.ref ob0), .val (.int p1), .val (.int (16 : Int32))] [])) t → Steps p.tables e below (s₁.setTop (entryFrame m #[(.ref ob0), (.int p1)] 3)) t := by
    intro t k
    refine g0 t ?_
    show Steps p.tables e below (s₁.setTop (mkF m 0 #[.val (.ref ob0), .val (.int p1), .unset] [])) _
    refine XS.aloadN X0.here hx rfl (hb hby own_d23_0) rfl rfl ?_
    refine st1 _ ?_
    show Steps p.tables e below (T1.setTop (mkF m 4 #[.val (.ref ob0), .val (.int p1), .unset] [(.ref ob0_value)])) _
    refine X1.arraylength hx (by rw [e1]; exact Ar2.1) (State.isArrayOf_alike hZ.alike Ar2.2.1) (g := (mkF m 4 #[.val (.ref ob0), .val (.int p1), .unset] [(.ref ob0_value)])) rfl rfl (hb hby own_d23_4) _ ?_
    rw [len_of S2 Nn2]
    refine XS.aloadN X1.here hx rfl (hb hby own_d23_5) rfl rfl ?_
    show Steps p.tables e below (T1.setTop (mkF m 6 #[.val (.ref ob0), .val (.int p1), .unset] [(.ref ob0), (.int (16 : Int32))])) _
    refine st3 _ ?_
    show Steps p.tables e below (T3.setTop (mkF m 9 #[.val (.ref ob0), .val (.int p1), .unset] [(.int (0 : Int32)), (.int (16 : Int32))])) _
    refine XS.ishr X3.here hx rfl (hb hby own_d23_9) rfl ?_
    rw [show ((16 : Int32) >>> ((0 : Int32) &&& 31)) = (16 : Int32) from by decide]
    refine XS.istoreN X3.here hx rfl (hb hby own_d23_10) rfl (l' := #[.val (.ref ob0), .val (.int p1), .val (.int (16 : Int32))]) rfl ?_
    refine XS.iloadN X3.here hx rfl (hb hby own_d23_11) rfl ?_
    show Steps p.tables e below (T3.setTop (mkF m 12 #[.val (.ref ob0), .val (.int p1), .val (.int (16 : Int32))] [(.int p1)])) _
    refine XS.iloadN X3.here hx rfl (hb hby own_d23_12) rfl ?_
    show Steps p.tables e below (T3.setTop (mkF m 13 #[.val (.ref ob0), .val (.int p1), .val (.int (16 : Int32))] [(.int (16 : Int32)), (.int p1)])) _
    refine XS.isub X3.here hx rfl (hb hby own_d23_13) rfl ?_
    refine XS.ifYes X3.here hx rfl (pc0 := 14) (pc' := 38) rfl (hb hby own_d23_14) rfl ((if0 _ _).trans (flt hc4).2.2.2) (by decide) (by decide) ?_
    exact k
  obtain ⟨fs, hrt, hrun, hended, hW, hsame⟩ := X3.leave (v := none) (fun _ => rfl)
  refine ⟨_, _, g5 _ ?_, hrun, hended, _, _, rfl, ?_, ⟨_, rfl⟩, hW, hsame.mono (by decide) (by decide)⟩
  · show Steps p.tables e below (T3.setTop (mkF m 38 #[.val (.ref ob0), .val (.int p1), .val (.int (16 : Int32))] [])) _
    exact X3.returnOut hx Bd.returns (hb hby own_d23_38) hrt
  · show own_Q_rmA28 Z ob0 ob0_value k_ob0_value ob0_value_l p1 cs wf h0 n0 _ T3.heap _
    rw [e3]
    exact ⟨rfl, N0, rfl⟩
theorem own_d20_24 : decode jdk_68_method_22_code 24 = .ok (.aload_n 0, 1) := by decide +kernel
theorem own_d20_25 : decode jdk_68_method_22_code 25 = .ok (.aload_n 0, 1) := by decide +kernel
theorem own_d20_26 : decode jdk_68_method_22_code 26 = .ok (.getfield 79, 3) := by decide +kernel
theorem own_d20_29 : decode jdk_68_method_22_code 29 = .ok (.aload_n 1, 1) := by decide +kernel
theorem own_d20_30 : decode jdk_68_method_22_code 30 = .ok (.invokevirtual 208, 3) := by decide +kernel
abbrev own_y22 : MethodName := ⟨"java/lang/AbstractStringBuilder", "putStringAt", "(ILjava/lang/String;)V"⟩
theorem own_ef31 (m : MethodId) (x0 : Addr) (x1 : Int32) (x2 : Addr) : entryFrame m #[(.ref x0), (.int x1), (.ref x2)] 3 = mkF m 0 #[.val (.ref x0), .val (.int x1), .val (.ref x2)] [] := by first | (simp [entryFrame, mkF, argsToLocals, Value.category]; done) | rfl
theorem own_d24_0 : decode jdk_68_method_73_code 0 = .ok (.aload_n 0, 1) := by decide +kernel
theorem own_d24_1 : decode jdk_68_method_73_code 1 = .ok (.aload_n 2, 1) := by decide +kernel
theorem own_d24_2 : decode jdk_68_method_73_code 2 = .ok (.invokevirtual 397, 3) := by decide +kernel
abbrev own_y23 : MethodName := ⟨"java/lang/AbstractStringBuilder", "inflateIfNeededFor", "(Ljava/lang/String;)V"⟩
theorem own_d25_0 : decode jdk_68_method_71_code 0 = .ok (.getstatic 18, 3) := by decide +kernel
theorem own_d25_3 : decode jdk_68_method_71_code 3 = .ok (.ifCond .eq 18, 3) := by decide +kernel
theorem own_d25_6 : decode jdk_68_method_71_code 6 = .ok (.aload_n 0, 1) := by decide +kernel
theorem own_d25_7 : decode jdk_68_method_71_code 7 = .ok (.getfield 22, 3) := by decide +kernel
theorem own_d25_10 : decode jdk_68_method_71_code 10 = .ok (.aload_n 1, 1) := by decide +kernel
theorem own_d25_11 : decode jdk_68_method_71_code 11 = .ok (.invokevirtual 40, 3) := by decide +kernel
theorem own_d25_14 : decode jdk_68_method_71_code 14 = .ok (.if_icmp .eq 7, 3) := by decide +kernel
theorem own_d25_21 : decode jdk_68_method_71_code 21 = .ok (.return_, 1) := by decide +kernel
def own_Q_rmA30 (Z : State) (ob0 : Addr) (ob1 : Addr)  (cs : Int32) (wf : Value) (h0 : Heap) (n0 : Nat) (v : Option Value) (h : Heap) (L : List Loc) : Prop := v = none ∧ Fr n0 L ∧ h = h0
set_option maxRecDepth 65536 in
set_option maxHeartbeats 40000000 in
theorem rmA30 (l : Launch) (Z : State) (a0 : Array Value) (hw : ∀ d ∈ tables_1, d.before a0 Z = true) (ws : List Jvm.Cond) (ob0 : Addr) (ob1 : Addr)  (cs : Int32) (wf : Value) (h0 : Heap) (n0 : Nat) (O0 : Old Z n0 h0) (G : own_Gl Z cs wf) (E_ob0 : Exa Z h0 ob0 "java/lang/StringBuilder") (F_ob0_coder : Fld Z h0 ob0 "java/lang/AbstractStringBuilder" "coder" "B" (.int (0 : Int32))) (E_ob1 : Exa Z h0 ob1 "java/lang/String") (F_ob1_coder : Fld Z h0 ob1 "java/lang/String" "coder" "B" (.int (0 : Int32))) :
    MetFree l own_y23 (head1 (Jvm.Cond.code own_y23 jdk_68_method_71_code 2 none :: ws) ({ frames := 1, cells := 0, slots := 0, locals := 13 } : Room)) (fun a U => a = #[(.ref ob0), (.ref ob1)] ∧ Z.Warmed39 U.vm ∧ U.heap = h0) (fun _ _ _ _ _ => True) (fun _ U o U' => ∃ v L, o = .returned v ∧ own_Q_rmA30 Z ob0 ob1 cs wf h0 n0 v U'.heap L ∧ FrameEnd U o U' L ({ frames := 1, cells := 0, slots := 0, locals := 13 } : Room).cells ({ frames := 1, cells := 0, slots := 0, locals := 13 } : Room).slots) := by
  refine MetFree.of_bodySF (plainFor_of_name own_pn7) hisR ?_
  intro p e s m args below meth c s₁ Bd hml0 hP hK
  obtain ⟨rfl, hZ, hh⟩ := hP
  have hx := Bd.exec
  have hby := Bd.bytes
  have hml : c.maxLocals = 2 := hml0
  have hown : s.vm.findClass "java/lang/AbstractStringBuilder" = some m.cls := findClass_of_methodNamed Bd.named
  have hnm := (name_of_methodNamed Bd.named Bd.method).1
  have X0 : Stand p l e ({ frames := 1, cells := 0, slots := 0, locals := 13 } : Room) s m #[(.ref ob0), (.ref ob1)] below meth c s₁ [] 0 0 := Stand.of_body Bd
  have e0 : s₁.heap = h0 := by rw [← hh, Bd.state]; rfl
  have N0 := Fr.nil n0
  have Z0 : n0 ≤ h0.size := O0.1 ▸ O0.2.1
  have g0 : ∀ t, Steps p.tables e below (s₁.setTop (mkF m 0 #[.val (.ref ob0), .val (.ref ob1)] [])) t → Steps p.tables e below (s₁.setTop (entryFrame m #[(.ref ob0), (.ref ob1)] 2)) t := fun t k => castTop (own_ef2 m (ob0) (ob1)) k
  have G0 := G
  obtain ⟨S_CS, hcs, S_WF, hwf⟩ := G
  obtain ⟨T1, X1, e1, st1⟩ := getS2 X0 hx hZ hown (host := "") (Or.inl (own_w hw 100 rfl)) Via.refl e0 (S_CS.ext O0.2) (g := (mkF m 0 #[.val (.ref ob0), .val (.ref ob1)] [])) rfl (hb hby own_d25_0)
  have hc2 : ¬ (cs = (0 : Int32)) := hcs
  obtain ⟨T3, X3, e3, st3⟩ := getF X1 hx hZ hown (host := "") (Or.inl (own_w hw 103 rfl)) Via.refl e1 F_ob0_coder (g := (mkF m 7 #[.val (.ref ob0), .val (.ref ob1)] [(.ref ob0)])) rfl rfl (hb hby own_d25_7)
  obtain ⟨cq4, kq4, q4a, q4b, q4c⟩ := isOf hZ e3 E_ob1
  obtain ⟨_, _, ⟨T4, L4, k4, n4⟩, -, X4, ⟨Lc4, hQ4, l4, y4, z4⟩, st4⟩ := X3.virtualBack hx (y := own_y20) (z := own_y20) hown (mvT hZ (own_w hw 142 rfl)) (mvT hZ (own_w hw 121 rfl)) (notFace_of_selects (args := #[]) (mvT hZ (own_w hw 123 rfl))) (mvT hZ (own_w hw 123 rfl)) (mvT hZ (own_w hw 122 rfl)) (by decide) (backOf (W := 1) (rmA27 l Z a0 hw [] ob1  cs wf h0 n0 O0 G0 E_ob1 F_ob1_coder  ) hZ (own_w hw 124 rfl) (own_w hw 3 rfl) (by decide) (by decide)) q4a q4c (g := (mkF m 11 #[.val (.ref ob0), .val (.ref ob1)] [(.ref ob1), (.int (0 : Int32))])) rfl (by rw [hml]; rfl) (Steps.refl _) (argsL := []) (rest := [(.int (0 : Int32))]) (lenOf own_pd16 rfl) rfl (by show 2 * 0 + _ ≤ _; exact Nat.le_of_eq rfl) (hb hby own_d25_11) (fun _ _ => ⟨rfl, e3, (by decide : 0 + 0 ≤ _), (by decide : 0 + 0 ≤ _)⟩)
  dsimp only [Pt.U, Pt.locs, Pt.cells, Pt.slots] at X4 l4 y4 z4 st4 hQ4
  subst l4 y4 z4
  obtain ⟨rfl, Nq4, e4⟩ := hQ4
  have N4 := Fr.app N0 Nq4
  have g5 : ∀ t, Steps p.tables e below (T4.setTop (mkF m 21 #[.val (.ref ob0), .val (.ref ob1)] [])) t → Steps p.tables e below (s₁.setTop (entryFrame m #[(.ref ob0), (.ref ob1)] 2)) t := by
    intro t k
    refine g0 t ?_
    show Steps p.tables e below (s₁.setTop (mkF m 0 #[.val (.ref ob0), .val (.ref ob1)] [])) _
    refine st1 _ ?_
    refine XS.ifNo X1.here hx rfl (hb hby own_d25_3) rfl ((if0 _ _).trans (feq hc2).1) ?_
    refine XS.aloadN X1.here hx rfl (hb hby own_d25_6) rfl rfl ?_
    refine st3 _ ?_
    show Steps p.tables e below (T3.setTop (mkF m 10 #[.val (.ref ob0), .val (.ref ob1)] [(.int (0 : Int32))])) _
    refine XS.aloadN X3.here hx rfl (hb hby own_d25_10) rfl rfl ?_
    refine st4.trans ?_
    refine XS.icmpYes X4.here hx rfl (pc0 := 14) (pc' := 21) rfl (hb hby own_d25_14) rfl (teq (by decide : (0 : Int32) = (0 : Int32))).1 (by decide) (by decide) ?_
    exact k
  obtain ⟨fs, hrt, hrun, hended, hW, hsame⟩ := X4.leave (v := none) (fun _ => rfl)
  refine ⟨_, _, g5 _ ?_, hrun, hended, _, _, rfl, ?_, ⟨_, rfl⟩, hW, hsame.mono (by decide) (by decide)⟩
  · show Steps p.tables e below (T4.setTop (mkF m 21 #[.val (.ref ob0), .val (.ref ob1)] [])) _
    exact X4.returnOut hx Bd.returns (hb hby own_d25_21) hrt
  · show own_Q_rmA30 Z ob0 ob1 cs wf h0 n0 _ T4.heap _
    rw [e4]
    exact ⟨rfl, N4, rfl⟩
theorem own_pd18 : parseMethodDescriptor "(Ljava/lang/String;)V" = some ⟨[(.object "java/lang/String")], none⟩ := by decide +kernel
theorem own_d24_5 : decode jdk_68_method_73_code 5 = .ok (.aload_n 2, 1) := by decide +kernel
theorem own_d24_6 : decode jdk_68_method_73_code 6 = .ok (.aload_n 0, 1) := by decide +kernel
theorem own_d24_7 : decode jdk_68_method_73_code 7 = .ok (.getfield 15, 3) := by decide +kernel
theorem own_d24_10 : decode jdk_68_method_73_code 10 = .ok (.iload_n 1, 1) := by decide +kernel
theorem own_d24_11 : decode jdk_68_method_73_code 11 = .ok (.aload_n 0, 1) := by decide +kernel
theorem own_d24_12 : decode jdk_68_method_73_code 12 = .ok (.getfield 22, 3) := by decide +kernel
theorem own_d24_15 : decode jdk_68_method_73_code 15 = .ok (.invokevirtual 399, 3) := by decide +kernel
abbrev own_y24 : MethodName := ⟨"java/lang/String", "getBytes", "([BIB)V"⟩
theorem own_ef33 (m : MethodId) (x0 : Addr) (x1 : Addr) (x2 : Int32) (x3 : Int32) : entryFrame m #[(.ref x0), (.ref x1), (.int x2), (.int x3)] 4 = mkF m 0 #[.val (.ref x0), .val (.ref x1), .val (.int x2), .val (.int x3)] [] := by first | (simp [entryFrame, mkF, argsToLocals, Value.category]; done) | rfl
theorem own_d26_0 : decode jdk_42_method_147_code 0 = .ok (.aload_n 0, 1) := by decide +kernel
theorem own_d26_1 : decode jdk_42_method_147_code 1 = .ok (.invokevirtual 335, 3) := by decide +kernel
theorem own_d26_4 : decode jdk_42_method_147_code 4 = .ok (.iload_n 3, 1) := by decide +kernel
theorem own_d26_5 : decode jdk_42_method_147_code 5 = .ok (.if_icmp .ne 23, 3) := by decide +kernel
theorem own_d26_8 : decode jdk_42_method_147_code 8 = .ok (.aload_n 0, 1) := by decide +kernel
theorem own_d26_9 : decode jdk_42_method_147_code 9 = .ok (.getfield 9, 3) := by decide +kernel
theorem own_d26_12 : decode jdk_42_method_147_code 12 = .ok (.iconst 0, 1) := by decide +kernel
theorem own_d26_13 : decode jdk_42_method_147_code 13 = .ok (.aload_n 1, 1) := by decide +kernel
theorem own_d26_14 : decode jdk_42_method_147_code 14 = .ok (.iload_n 2, 1) := by decide +kernel
theorem own_d26_15 : decode jdk_42_method_147_code 15 = .ok (.iload_n 3, 1) := by decide +kernel
theorem own_d26_16 : decode jdk_42_method_147_code 16 = .ok (.ishl, 1) := by decide +kernel
theorem own_d26_17 : decode jdk_42_method_147_code 17 = .ok (.aload_n 0, 1) := by decide +kernel
theorem own_d26_18 : decode jdk_42_method_147_code 18 = .ok (.getfield 9, 3) := by decide +kernel
theorem own_d26_21 : decode jdk_42_method_147_code 21 = .ok (.arraylength, 1) := by decide +kernel
theorem own_d26_22 : decode jdk_42_method_147_code 22 = .ok (.invokestatic 212, 3) := by decide +kernel
theorem own_d26_25 : decode jdk_42_method_147_code 25 = .ok (.goto 18, 3) := by decide +kernel
theorem own_d26_43 : decode jdk_42_method_147_code 43 = .ok (.return_, 1) := by decide +kernel
def own_Q_rmA31 (Z : State) (ob0 : Addr) (ob0_value : Addr) (k_ob0_value : ClassId) (ob0_value_z : Int32) (ob0_value_l : List Value) (ob1 : Addr) (k_ob1 : ClassId) (ob1_l : List Value) (p2 : Int32)  (cs : Int32) (wf : Value) (h0 : Heap) (n0 : Nat) (v : Option Value) (h : Heap) (L : List Loc) : Prop := v = none ∧ Fr n0 L ∧ Keep h0 h [ob1] ∧ ∃ sl : List Value, Arv Z h ob1 k_ob1 .byte (16 : Int32) sl (.int (0 : Int32)) ∧ sl.length = 16
set_option maxRecDepth 65536 in
set_option maxHeartbeats 40000000 in
theorem rmA31 (l : Launch) (Z : State) (a0 : Array Value) (hw : ∀ d ∈ tables_1, d.before a0 Z = true) (ws : List Jvm.Cond) (ob0 : Addr) (ob0_value : Addr) (k_ob0_value : ClassId) (ob0_value_z : Int32) (ob0_value_l : List Value) (ob1 : Addr) (k_ob1 : ClassId) (ob1_l : List Value) (p2 : Int32)  (cs : Int32) (wf : Value) (h0 : Heap) (n0 : Nat) (O0 : Old Z n0 h0) (G : own_Gl Z cs wf) (E_ob0 : Exa Z h0 ob0 "java/lang/String") (F_ob0_coder : Fld Z h0 ob0 "java/lang/String" "coder" "B" (.int (0 : Int32))) (V_ob0_value : Arv Z h0 ob0_value k_ob0_value .byte ob0_value_z ob0_value_l (.int (0 : Int32))) (F_ob0_value : Fld Z h0 ob0 "java/lang/String" "value" "[B" (.ref ob0_value)) (V_ob1 : Arv Z h0 ob1 k_ob1 .byte (16 : Int32) ob1_l (.int (0 : Int32))) (gz_ob1 : n0 ≤ ob1) (hi0 : ¬ (p2 < (0 : Int32))) (hz0 : ¬ (ob0_value_z < (0 : Int32))) (hcap : ¬ ((0 : Int32) < ((p2 + ob0_value_z) - (16 : Int32)))) (hdp : (p2).toNatClampNeg + (ob0_value_z).toNatClampNeg ≤ (16 : Int32).toNatClampNeg) (hl16 : ob1_l.length = 16) :
    MetFree l own_y24 (head1 (Jvm.Cond.code own_y24 jdk_42_method_147_code 4 none :: ws) ({ frames := 1, cells := 0, slots := 0, locals := 51 } : Room)) (fun a U => a = #[(.ref ob0), (.ref ob1), (.int p2), (.int (0 : Int32))] ∧ Z.Warmed39 U.vm ∧ U.heap = h0) (fun _ _ _ _ _ => True) (fun _ U o U' => ∃ v L, o = .returned v ∧ own_Q_rmA31 Z ob0 ob0_value k_ob0_value ob0_value_z ob0_value_l ob1 k_ob1 ob1_l p2 cs wf h0 n0 v U'.heap L ∧ FrameEnd U o U' L ({ frames := 1, cells := 0, slots := 0, locals := 51 } : Room).cells ({ frames := 1, cells := 0, slots := 0, locals := 51 } : Room).slots) := by
  refine MetFree.of_bodySF (plainFor_of_name own_pn1) hisR ?_
  intro p e s m args below meth c s₁ Bd hml0 hP hK
  obtain ⟨rfl, hZ, hh⟩ := hP
  have hx := Bd.exec
  have hby := Bd.bytes
  have hml : c.maxLocals = 4 := hml0
  have hown : s.vm.findClass "java/lang/String" = some m.cls := findClass_of_methodNamed Bd.named
  have hnm := (name_of_methodNamed Bd.named Bd.method).1
  have X0 : Stand p l e ({ frames := 1, cells := 0, slots := 0, locals := 51 } : Room) s m #[(.ref ob0), (.ref ob1), (.int p2), (.int (0 : Int32))] below meth c s₁ [] 0 0 := Stand.of_body Bd
  have e0 : s₁.heap = h0 := by rw [← hh, Bd.state]; rfl
  have N0 := Fr.nil n0
  have Z0 : n0 ≤ h0.size := O0.1 ▸ O0.2.1
  have g0 : ∀ t, Steps p.tables e below (s₁.setTop (mkF m 0 #[.val (.ref ob0), .val (.ref ob1), .val (.int p2), .val (.int (0 : Int32))] [])) t → Steps p.tables e below (s₁.setTop (entryFrame m #[(.ref ob0), (.ref ob1), (.int p2), (.int (0 : Int32))] 4)) t := fun t k => castTop (own_ef33 m (ob0) (ob1) (p2) ((0 : Int32))) k
  have G0 := G
  obtain ⟨S_CS, hcs, S_WF, hwf⟩ := G
  obtain ⟨cq1, kq1, q1a, q1b, q1c⟩ := isOf hZ e0 E_ob0
  obtain ⟨_, _, ⟨T1, L1, k1, n1⟩, -, X1, ⟨Lc1, hQ1, l1, y1, z1⟩, st1⟩ := X0.virtualBack hx (y := own_y20) (z := own_y20) hown (mvT hZ (own_w hw 120 rfl)) (mvT hZ (own_w hw 121 rfl)) (notFace_of_selects (args := #[]) (mvT hZ (own_w hw 123 rfl))) (mvT hZ (own_w hw 123 rfl)) (mvT hZ (own_w hw 122 rfl)) (by decide) (backOf (W := 0) (rmA27 l Z a0 hw [] ob0  cs wf h0 n0 O0 G0 E_ob0 F_ob0_coder  ) hZ (own_w hw 124 rfl) (own_w hw 3 rfl) (by decide) (by decide)) q1a q1c (g := (mkF m 1 #[.val (.ref ob0), .val (.ref ob1), .val (.int p2), .val (.int (0 : Int32))] [(.ref ob0)])) rfl (by rw [hml]; rfl) (Steps.refl _) (argsL := []) (rest := []) (lenOf own_pd16 rfl) rfl (by show 2 * 0 + _ ≤ _; exact Nat.le_of_eq rfl) (hb hby own_d26_1) (fun _ _ => ⟨rfl, e0, (by decide : 0 + 0 ≤ _), (by decide : 0 + 0 ≤ _)⟩)
  dsimp only [Pt.U, Pt.locs, Pt.cells, Pt.slots] at X1 l1 y1 z1 st1 hQ1
  subst l1 y1 z1
  obtain ⟨rfl, Nq1, e1⟩ := hQ1
  have N1 := Fr.app N0 Nq1
  obtain ⟨T2, X2, e2, st2⟩ := getF X1 hx hZ hown (host := "") (Or.inl (own_w hw 28 rfl)) Via.refl e1 F_ob0_value (g := (mkF m 9 #[.val (.ref ob0), .val (.ref ob1), .val (.int p2), .val (.int (0 : Int32))] [(.ref ob0)])) rfl rfl (hb hby own_d26_9)
  obtain ⟨T3, X3, e3, st3⟩ := getF X2 hx hZ hown (host := "") (Or.inl (own_w hw 28 rfl)) Via.refl e2 F_ob0_value (g := (mkF m 18 #[.val (.ref ob0), .val (.ref ob1), .val (.int p2), .val (.int (0 : Int32))] [(.ref ob0), (.int p2), (.ref ob1), (.int (0 : Int32)), (.ref ob0_value)])) rfl rfl (hb hby own_d26_18)
  obtain ⟨c4, Ar4, cq4, S4, Nn4, Hh4, Gg4⟩ := id V_ob0_value
  have hll5 := Nat.le_trans hdp (Nat.le_of_eq (Eq.trans (by decide : (16 : Int32).toNatClampNeg = 16) hl16.symm))
  obtain ⟨T5, h5, L5, X5, e5, N5, K5, V5, st5⟩ := cpA X3 hx hZ hown (own_w hw 148 rfl) (own_w hw 151 rfl) (own_w hw 149 rfl) (own_w hw 150 rfl) e3 V_ob0_value V_ob1 (Or.inl ⟨rfl, rfl⟩) (by decide) hi0 hz0 (Nat.le_of_eq (Nat.zero_add _)) hdp rfl hll5 N1 gz_ob1 (g := (mkF m 22 #[.val (.ref ob0), .val (.ref ob1), .val (.int p2), .val (.int (0 : Int32))] [(.int ob0_value_z), (.int p2), (.ref ob1), (.int (0 : Int32)), (.ref ob0_value)])) rfl (by rw [hml]; rfl) rfl (hb hby own_d26_22) (by decide) (W := 0) (by show 2 * 0 + _ ≤ _; exact Nat.le_of_eq rfl) (by decide)
  obtain ⟨vl5, V5a, hl5⟩ : ∃ q : List Value, Arv Z h5 ob1 k_ob1 .byte (16 : Int32) q (.int (0 : Int32)) ∧ q.length = 16 := ⟨_, V5, (own_cplen _ _ _ _ hll5).trans hl16⟩
  have g6 : ∀ t, Steps p.tables e below (T5.setTop (mkF m 43 #[.val (.ref ob0), .val (.ref ob1), .val (.int p2), .val (.int (0 : Int32))] [])) t → Steps p.tables e below (s₁.setTop (entryFrame m #[(.ref ob0), (.ref ob1), (.int p2), (.int (0 : Int32))] 4)) t := by
    intro t k
    refine g0 t ?_
    show Steps p.tables e below (s₁.setTop (mkF m 0 #[.val (.ref ob0), .val (.ref ob1), .val (.int p2), .val (.int (0 : Int32))] [])) _
    refine XS.aloadN X0.here hx rfl (hb hby own_d26_0) rfl rfl ?_
    refine st1.trans ?_
    refine XS.iloadN X1.here hx rfl (hb hby own_d26_4) rfl ?_
    refine XS.icmpNo X1.here hx rfl (hb hby own_d26_5) rfl (teq (by decide : (0 : Int32) = (0 : Int32))).2 ?_
    show Steps p.tables e below (T1.setTop (mkF m 8 #[.val (.ref ob0), .val (.ref ob1), .val (.int p2), .val (.int (0 : Int32))] [])) _
    refine XS.aloadN X1.here hx rfl (hb hby own_d26_8) rfl rfl ?_
    refine st2 _ ?_
    refine XS.iconst X2.here hx rfl (hb hby own_d26_12) ?_
    refine XS.aloadN X2.here hx rfl (hb hby own_d26_13) rfl rfl ?_
    show Steps p.tables e below (T2.setTop (mkF m 14 #[.val (.ref ob0), .val (.ref ob1), .val (.int p2), .val (.int (0 : Int32))] [(.ref ob1), (.int (0 : Int32)), (.ref ob0_value)])) _
    refine XS.iloadN X2.here hx rfl (hb hby own_d26_14) rfl ?_
    refine XS.iloadN X2.here hx rfl (hb hby own_d26_15) rfl ?_
    show Steps p.tables e below (T2.setTop (mkF m 16 #[.val (.ref ob0), .val (.ref ob1), .val (.int p2), .val (.int (0 : Int32))] [(.int (0 : Int32)), (.int p2), (.ref ob1), (.int (0 : Int32)), (.ref ob0_value)])) _
    refine XS.ishl X2.here hx rfl (hb hby own_d26_16) rfl ?_
    rw [own_shl0]
    refine XS.aloadN X2.here hx rfl (hb hby own_d26_17) rfl rfl ?_
    show Steps p.tables e below (T2.setTop (mkF m 18 #[.val (.ref ob0), .val (.ref ob1), .val (.int p2), .val (.int (0 : Int32))] [(.ref ob0), (.int p2), (.ref ob1), (.int (0 : Int32)), (.ref ob0_value)])) _
    refine st3 _ ?_
    show Steps p.tables e below (T3.setTop (mkF m 21 #[.val (.ref ob0), .val (.ref ob1), .val (.int p2), .val (.int (0 : Int32))] [(.ref ob0_value), (.int p2), (.ref ob1), (.int (0 : Int32)), (.ref ob0_value)])) _
    refine X3.arraylength hx (by rw [e3]; exact Ar4.1) (State.isArrayOf_alike hZ.alike Ar4.2.1) (g := (mkF m 21 #[.val (.ref ob0), .val (.ref ob1), .val (.int p2), .val (.int (0 : Int32))] [(.ref ob0_value), (.int p2), (.ref ob1), (.int (0 : Int32)), (.ref ob0_value)])) rfl rfl (hb hby own_d26_21) _ ?_
    rw [len_of S4 Nn4]
    refine st5 _ ?_
    refine XS.goto X5.here hx rfl (pc0 := 25) (pc' := 43) rfl (hb hby own_d26_25) (by decide) (by decide) ?_
    exact k
  obtain ⟨fs, hrt, hrun, hended, hW, hsame⟩ := X5.leave (v := none) (fun _ => rfl)
  refine ⟨_, _, g6 _ ?_, hrun, hended, _, _, rfl, ?_, ⟨_, rfl⟩, hW, hsame.mono (by decide) (by decide)⟩
  · show Steps p.tables e below (T5.setTop (mkF m 43 #[.val (.ref ob0), .val (.ref ob1), .val (.int p2), .val (.int (0 : Int32))] [])) _
    exact X5.returnOut hx Bd.returns (hb hby own_d26_43) hrt
  · show own_Q_rmA31 Z ob0 ob0_value k_ob0_value ob0_value_z ob0_value_l ob1 k_ob1 ob1_l p2 cs wf h0 n0 _ T5.heap _
    rw [e5]
    exact ⟨rfl, N5, (Keep.trans (Keep.refl h0 [ob1]) K5 (allS (Or.inl (List.mem_of_getElem? (i := 0) rfl)) all0)), _, V5a, hl5⟩
theorem own_pd19 : parseMethodDescriptor "([BIB)V" = some ⟨[(.array .byte), .int, .byte], none⟩ := by decide +kernel
theorem own_d24_18 : decode jdk_68_method_73_code 18 = .ok (.return_, 1) := by decide +kernel
def own_Q_rmA29 (Z : State) (ob0 : Addr) (ob0_value : Addr) (k_ob0_value : ClassId) (ob0_value_l : List Value) (p1 : Int32) (ob2 : Addr) (ob2_value : Addr) (k_ob2_value : ClassId) (ob2_value_z : Int32) (ob2_value_l : List Value)  (cs : Int32) (wf : Value) (h0 : Heap) (n0 : Nat) (v : Option Value) (h : Heap) (L : List Loc) : Prop := v = none ∧ Fr n0 L ∧ Keep h0 h [ob0_value] ∧ ∃ sl : List Value, Arv Z h ob0_value k_ob0_value .byte (16 : Int32) sl (.int (0 : Int32)) ∧ sl.length = 16
set_option maxRecDepth 65536 in
set_option maxHeartbeats 40000000 in
theorem rmA29 (l : Launch) (Z : State) (a0 : Array Value) (hw : ∀ d ∈ tables_1, d.before a0 Z = true) (ws : List Jvm.Cond) (ob0 : Addr) (ob0_value : Addr) (k_ob0_value : ClassId) (ob0_value_l : List Value) (p1 : Int32) (ob2 : Addr) (ob2_value : Addr) (k_ob2_value : ClassId) (ob2_value_z : Int32) (ob2_value_l : List Value)  (cs : Int32) (wf : Value) (h0 : Heap) (n0 : Nat) (O0 : Old Z n0 h0) (G : own_Gl Z cs wf) (E_ob0 : Exa Z h0 ob0 "java/lang/StringBuilder") (F_ob0_coder : Fld Z h0 ob0 "java/lang/AbstractStringBuilder" "coder" "B" (.int (0 : Int32))) (V_ob0_value : Arv Z h0 ob0_value k_ob0_value .byte (16 : Int32) ob0_value_l (.int (0 : Int32))) (F_ob0_value : Fld Z h0 ob0 "java/lang/AbstractStringBuilder" "value" "[B" (.ref ob0_value)) (E_ob2 : Exa Z h0 ob2 "java/lang/String") (F_ob2_coder : Fld Z h0 ob2 "java/lang/String" "coder" "B" (.int (0 : Int32))) (V_ob2_value : Arv Z h0 ob2_value k_ob2_value .byte ob2_value_z ob2_value_l (.int (0 : Int32))) (F_ob2_value : Fld Z h0 ob2 "java/lang/String" "value" "[B" (.ref ob2_value)) (gz_ob0_value : n0 ≤ ob0_value) (hi0 : ¬ (p1 < (0 : Int32))) (hz0 : ¬ (ob2_value_z < (0 : Int32))) (hcap : ¬ ((0 : Int32) < ((p1 + ob2_value_z) - (16 : Int32)))) (hdp : (p1).toNatClampNeg + (ob2_value_z).toNatClampNeg ≤ (16 : Int32).toNatClampNeg) (hl16 : ob0_value_l.length = 16) :
    MetFree l own_y22 (head1 (Jvm.Cond.code own_y22 jdk_68_method_73_code 3 none :: ws) ({ frames := 2, cells := 0, slots := 0, locals := 66 } : Room)) (fun a U => a = #[(.ref ob0), (.int p1), (.ref ob2)] ∧ Z.Warmed39 U.vm ∧ U.heap = h0) (fun _ _ _ _ _ => True) (fun _ U o U' => ∃ v L, o = .returned v ∧ own_Q_rmA29 Z ob0 ob0_value k_ob0_value ob0_value_l p1 ob2 ob2_value k_ob2_value ob2_value_z ob2_value_l cs wf h0 n0 v U'.heap L ∧ FrameEnd U o U' L ({ frames := 2, cells := 0, slots := 0, locals := 66 } : Room).cells ({ frames := 2, cells := 0, slots := 0, locals := 66 } : Room).slots) := by
  refine MetFree.of_bodySF (plainFor_of_name own_pn7) hisR ?_
  intro p e s m args below meth c s₁ Bd hml0 hP hK
  obtain ⟨rfl, hZ, hh⟩ := hP
  have hx := Bd.exec
  have hby := Bd.bytes
  have hml : c.maxLocals = 3 := hml0
  have hown : s.vm.findClass "java/lang/AbstractStringBuilder" = some m.cls := findClass_of_methodNamed Bd.named
  have hnm := (name_of_methodNamed Bd.named Bd.method).1
  have X0 : Stand p l e ({ frames := 2, cells := 0, slots := 0, locals := 66 } : Room) s m #[(.ref ob0), (.int p1), (.ref ob2)] below meth c s₁ [] 0 0 := Stand.of_body Bd
  have e0 : s₁.heap = h0 := by rw [← hh, Bd.state]; rfl
  have N0 := Fr.nil n0
  have Z0 : n0 ≤ h0.size := O0.1 ▸ O0.2.1
  have g0 : ∀ t, Steps p.tables e below (s₁.setTop (mkF m 0 #[.val (.ref ob0), .val (.int p1), .val (.ref ob2)] [])) t → Steps p.tables e below (s₁.setTop (entryFrame m #[(.ref ob0), (.int p1), (.ref ob2)] 3)) t := fun t k => castTop (own_ef31 m (ob0) (p1) (ob2)) k
  have G0 := G
  obtain ⟨S_CS, hcs, S_WF, hwf⟩ := G
  obtain ⟨cq1, q1, q1'⟩ := E_ob0.cell
  obtain ⟨_, _, ⟨T1, L1, k1, n1⟩, -, X1, ⟨Lc1, hQ1, l1, y1, z1⟩, st1⟩ := X0.privateBack hx (y := own_y23) hown (mvT hZ (own_w hw 137 rfl)) (mvT hZ (own_w hw 138 rfl)) (own_selSelf (mvT hZ (own_w hw 140 rfl)) (Cond.privateMethod_at (mvP hZ (own_w hw 139 rfl) (args := #[]))) (mvT hZ (own_w hw 138 rfl)) (by decide)) (Cond.privateMethod_at (mvP hZ (own_w hw 139 rfl) (args := #[]))) (mvT hZ (own_w hw 141 rfl)) (by decide) (backOf (W := 0) (rmA30 l Z a0 hw [] ob0 ob2  cs wf h0 n0 O0 G0 E_ob0 F_ob0_coder E_ob2 F_ob2_coder  ) hZ (own_w hw 141 rfl) (own_w hw 97 rfl) (by decide) (by decide)) (g := (mkF m 2 #[.val (.ref ob0), .val (.int p1), .val (.ref ob2)] [(.ref ob2), (.ref ob0)])) rfl (by rw [hml]; rfl) (Steps.refl _) (a := ob0) (by rw [e0]; exact q1) q1' (argsL := [(.ref ob2)]) (rest := []) (lenOf own_pd18 rfl) rfl (by show 2 * 0 + _ ≤ _; exact Nat.le_of_eq rfl) (hb hby own_d24_2) (fun _ _ => ⟨rfl, e0, (by decide : 0 + 0 ≤ _), (by decide : 0 + 0 ≤ _)⟩)
  dsimp only [Pt.U, Pt.locs, Pt.cells, Pt.slots] at X1 l1 y1 z1 st1 hQ1
  subst l1 y1 z1
  obtain ⟨rfl, Nq1, e1⟩ := hQ1
  have N1 := Fr.app N0 Nq1
  obtain ⟨T2, X2, e2, st2⟩ := getF X1 hx hZ hown (host := "") (Or.inl (own_w hw 101 rfl)) Via.refl e1 F_ob0_value (g := (mkF m 7 #[.val (.ref ob0), .val (.int p1), .val (.ref ob2)] [(.ref ob0), (.ref ob2)])) rfl rfl (hb hby own_d24_7)
  obtain ⟨T3, X3, e3, st3⟩ := getF X2 hx hZ hown (host := "") (Or.inl (own_w hw 103 rfl)) Via.refl e2 F_ob0_coder (g := (mkF m 12 #[.val (.ref ob0), .val (.int p1), .val (.ref ob2)] [(.ref ob0), (.int p1), (.ref ob0_value), (.ref ob2)])) rfl rfl (hb hby own_d24_12)
  obtain ⟨cq4, kq4, q4a, q4b, q4c⟩ := isOf hZ e3 E_ob2
  obtain ⟨_, _, ⟨T4, L4, k4, n4⟩, -, X4, ⟨Lc4, hQ4, l4, y4, z4⟩, st4⟩ := X3.virtualBack hx (y := own_y24) (z := own_y24) hown (mvT hZ (own_w hw 143 rfl)) (mvT hZ (own_w hw 144 rfl)) (notFace_of_selects (args := #[]) (mvT hZ (own_w hw 146 rfl))) (mvT hZ (own_w hw 146 rfl)) (mvT hZ (own_w hw 145 rfl)) (by decide) (backOf (W := 0) (rmA31 l Z a0 hw [] ob2 ob2_value k_ob2_value (ob2_value_z) ob2_value_l ob0_value k_ob0_value ob0_value_l (p1)  cs wf h0 n0 O0 G0 E_ob2 F_ob2_coder V_ob2_value F_ob2_value V_ob0_value gz_ob0_value hi0 hz0 hcap hdp hl16) hZ (own_w hw 147 rfl) (own_w hw 3 rfl) (by decide) (by decide)) q4a q4c (g := (mkF m 15 #[.val (.ref ob0), .val (.int p1), .val (.ref ob2)] [(.int (0 : Int32)), (.int p1), (.ref ob0_value), (.ref ob2)])) rfl (by rw [hml]; rfl) (Steps.refl _) (argsL := [(.ref ob0_value), (.int p1), (.int (0 : Int32))]) (rest := []) (lenOf own_pd19 rfl) rfl (by show 2 * 0 + _ ≤ _; exact Nat.le_of_eq rfl) (hb hby own_d24_15) (fun _ _ => ⟨rfl, e3, (by decide : 0 + 0 ≤ _), (by decide : 0 + 0 ≤ _)⟩)
  dsimp only [Pt.U, Pt.locs, Pt.cells, Pt.slots] at X4 l4 y4 z4 st4 hQ4
  subst l4 y4 z4
  obtain ⟨rfl, Nq4, K4, sl4, Va4, hl4⟩ := hQ4
  have N4 := Fr.app N1 Nq4
  have g5 : ∀ t, Steps p.tables e below (T4.setTop (mkF m 18 #[.val (.ref ob0), .val (.int p1), .val (.ref ob2)] [])) t → Steps p.tables e below (s₁.setTop (entryFrame m #[(.ref ob0), (.int p1), (.ref ob2)] 3)) t := by
    intro t k
    refine g0 t ?_
    show Steps p.tables e below (s₁.setTop (mkF m 0 #[.val (.ref ob0), .val (.int p1), .val (.ref ob2)] [])) _
    refine XS.aloadN X0.here hx rfl (hb hby own_d24_0) rfl rfl ?_
    refine XS.aloadN X0.here hx rfl (hb hby own_d24_1) rfl rfl ?_
    refine st1.trans ?_
    refine XS.aloadN X1.here hx rfl (hb hby own_d24_5) rfl rfl ?_
    show Steps p.tables e below (T1.setTop (mkF m 6 #[.val (.ref ob0), .val (.int p1), .val (.ref ob2)] [(.ref ob2)])) _
    refine XS.aloadN X1.here hx rfl (hb hby own_d24_6) rfl rfl ?_
    refine st2 _ ?_
    refine XS.iloadN X2.here hx rfl (hb hby own_d24_10) rfl ?_
    refine XS.aloadN X2.here hx rfl (hb hby own_d24_11) rfl rfl ?_
    show Steps p.tables e below (T2.setTop (mkF m 12 #[.val (.ref ob0), .val (.int p1), .val (.ref ob2)] [(.ref ob0), (.int p1), (.ref ob0_value), (.ref ob2)])) _
    refine st3 _ ?_
    refine st4.trans ?_
    exact k
  obtain ⟨fs, hrt, hrun, hended, hW, hsame⟩ := X4.leave (v := none) (fun _ => rfl)
  refine ⟨_, _, g5 _ ?_, hrun, hended, _, _, rfl, ?_, ⟨_, rfl⟩, hW, hsame.mono (by decide) (by decide)⟩
  · show Steps p.tables e below (T4.setTop (mkF m 18 #[.val (.ref ob0), .val (.int p1), .val (.ref ob2)] [])) _
    exact X4.returnOut hx Bd.returns (hb hby own_d24_18) hrt
  · show own_Q_rmA29 Z ob0 ob0_value k_ob0_value ob0_value_l p1 ob2 ob2_value k_ob2_value ob2_value_z ob2_value_l cs wf h0 n0 _ T4.heap _
    exact ⟨rfl, N4, (Keep.trans (Keep.refl h0 [ob0_value]) K4 (allS (Or.inl (List.mem_of_getElem? (i := 0) rfl)) all0)), _, Va4, hl4⟩
theorem own_pd20 : parseMethodDescriptor "(ILjava/lang/String;)V" = some ⟨[.int, (.object "java/lang/String")], none⟩ := by decide +kernel
theorem own_d20_33 : decode jdk_68_method_22_code 33 = .ok (.aload_n 0, 1) := by decide +kernel
theorem own_d20_34 : decode jdk_68_method_22_code 34 = .ok (.dup, 1) := by decide +kernel
theorem own_d20_35 : decode jdk_68_method_22_code 35 = .ok (.getfield 79, 3) := by decide +kernel
theorem own_d20_38 : decode jdk_68_method_22_code 38 = .ok (.iload_n 2, 1) := by decide +kernel
theorem own_d20_39 : decode jdk_68_method_22_code 39 = .ok (.iadd, 1) := by decide +kernel
theorem own_d20_40 : decode jdk_68_method_22_code 40 = .ok (.putfield 79, 3) := by decide +kernel
theorem own_d20_43 : decode jdk_68_method_22_code 43 = .ok (.aload_n 0, 1) := by decide +kernel
theorem own_d20_44 : decode jdk_68_method_22_code 44 = .ok (.areturn, 1) := by decide +kernel
def own_Q_rmA25 (Z : State) (ob0 : Addr) (ob0_count : Int32) (ob0_value : Addr) (k_ob0_value : ClassId) (ob0_value_l : List Value) (ob1 : Addr) (ob1_value : Addr) (k_ob1_value : ClassId) (ob1_value_z : Int32) (ob1_value_l : List Value)  (cs : Int32) (wf : Value) (h0 : Heap) (n0 : Nat) (v : Option Value) (h : Heap) (L : List Loc) : Prop := v = some (.ref ob0) ∧ Fr n0 L ∧ Keep h0 h [ob0, ob0_value] ∧ Fld Z h ob0 "java/lang/AbstractStringBuilder" "count" "I" (.int (ob0_count + ob1_value_z)) ∧ Fld Z h ob0 "java/lang/AbstractStringBuilder" "coder" "B" (.int (0 : Int32)) ∧ Fld Z h ob0 "java/lang/AbstractStringBuilder" "value" "[B" (.ref ob0_value) ∧ ∃ sl : List Value, Arv Z h ob0_value k_ob0_value .byte (16 : Int32) sl (.int (0 : Int32)) ∧ sl.length = 16
set_option maxRecDepth 65536 in
set_option maxHeartbeats 40000000 in
theorem rmA25 (l : Launch) (Z : State) (a0 : Array Value) (hw : ∀ d ∈ tables_1, d.before a0 Z = true) (ws : List Jvm.Cond) (ob0 : Addr) (ob0_count : Int32) (ob0_value : Addr) (k_ob0_value : ClassId) (ob0_value_l : List Value) (ob1 : Addr) (ob1_value : Addr) (k_ob1_value : ClassId) (ob1_value_z : Int32) (ob1_value_l : List Value)  (cs : Int32) (wf : Value) (h0 : Heap) (n0 : Nat) (O0 : Old Z n0 h0) (G : own_Gl Z cs wf) (E_ob0 : Exa Z h0 ob0 "java/lang/StringBuilder") (F_ob0_coder : Fld Z h0 ob0 "java/lang/AbstractStringBuilder" "coder" "B" (.int (0 : Int32))) (F_ob0_count : Fld Z h0 ob0 "java/lang/AbstractStringBuilder" "count" "I" (.int ob0_count)) (V_ob0_value : Arv Z h0 ob0_value k_ob0_value .byte (16 : Int32) ob0_value_l (.int (0 : Int32))) (F_ob0_value : Fld Z h0 ob0 "java/lang/AbstractStringBuilder" "value" "[B" (.ref ob0_value)) (E_ob1 : Exa Z h0 ob1 "java/lang/String") (F_ob1_coder : Fld Z h0 ob1 "java/lang/String" "coder" "B" (.int (0 : Int32))) (V_ob1_value : Arv Z h0 ob1_value k_ob1_value .byte ob1_value_z ob1_value_l (.int (0 : Int32))) (F_ob1_value : Fld Z h0 ob1 "java/lang/String" "value" "[B" (.ref ob1_value)) (gz_ob0 : n0 ≤ ob0) (gz_ob0_value : n0 ≤ ob0_value) (hi0 : ¬ (ob0_count < (0 : Int32))) (hz0 : ¬ (ob1_value_z < (0 : Int32))) (hcap : ¬ ((0 : Int32) < ((ob0_count + ob1_value_z) - (16 : Int32)))) (hdp : (ob0_count).toNatClampNeg + (ob1_value_z).toNatClampNeg ≤ (16 : Int32).toNatClampNeg) (hl16 : ob0_value_l.length = 16) :
    MetFree l own_y18 (head1 (Jvm.Cond.code own_y18 jdk_68_method_22_code 3 (some (.object "java/lang/AbstractStringBuilder")) :: ws) ({ frames := 3, cells := 0, slots := 0, locals := 80 } : Room)) (fun a U => a = #[(.ref ob0), (.ref ob1)] ∧ Z.Warmed39 U.vm ∧ U.heap = h0) (fun _ _ _ _ _ => True) (fun _ U o U' => ∃ v L, o = .returned v ∧ own_Q_rmA25 Z ob0 ob0_count ob0_value k_ob0_value ob0_value_l ob1 ob1_value k_ob1_value ob1_value_z ob1_value_l cs wf h0 n0 v U'.heap L ∧ FrameEnd U o U' L ({ frames := 3, cells := 0, slots := 0, locals := 80 } : Room).cells ({ frames := 3, cells := 0, slots := 0, locals := 80 } : Room).slots) := by
  refine MetFree.of_bodySF (plainFor_of_name own_pn7) hisR ?_
  intro p e s m args below meth c s₁ Bd hml0 hP hK
  obtain ⟨rfl, hZ, hh⟩ := hP
  have hx := Bd.exec
  have hby := Bd.bytes
  have hml : c.maxLocals = 3 := hml0
  have hown : s.vm.findClass "java/lang/AbstractStringBuilder" = some m.cls := findClass_of_methodNamed Bd.named
  have hnm := (name_of_methodNamed Bd.named Bd.method).1
  have X0 : Stand p l e ({ frames := 3, cells := 0, slots := 0, locals := 80 } : Room) s m #[(.ref ob0), (.ref ob1)] below meth c s₁ [] 0 0 := Stand.of_body Bd
  have e0 : s₁.heap = h0 := by rw [← hh, Bd.state]; rfl
  have N0 := Fr.nil n0
  have Z0 : n0 ≤ h0.size := O0.1 ▸ O0.2.1
  have g0 : ∀ t, Steps p.tables e below (s₁.setTop (mkF m 0 #[.val (.ref ob0), .val (.ref ob1), .unset] [])) t → Steps p.tables e below (s₁.setTop (entryFrame m #[(.ref ob0), (.ref ob1)] 3)) t := fun t k => castTop (own_ef15 m (ob0) (ob1)) k
  have G0 := G
  obtain ⟨S_CS, hcs, S_WF, hwf⟩ := G
  obtain ⟨cq1, kq1, q1a, q1b, q1c⟩ := isOf hZ e0 E_ob1
  obtain ⟨_, _, ⟨T1, L1, k1, n1⟩, -, X1, ⟨Lc1, hQ1, l1, y1, z1⟩, st1⟩ := X0.virtualBack hx (y := own_y19) (z := own_y19) hown (mvT hZ (own_w hw 115 rfl)) (mvT hZ (own_w hw 116 rfl)) (notFace_of_selects (args := #[]) (mvT hZ (own_w hw 118 rfl))) (mvT hZ (own_w hw 118 rfl)) (mvT hZ (own_w hw 117 rfl)) (by decide) (backOf (W := 0) (rmA26 l Z a0 hw [] ob1 ob1_value k_ob1_value (ob1_value_z) ob1_value_l  cs wf h0 n0 O0 G0 E_ob1 F_ob1_coder V_ob1_value F_ob1_value  ) hZ (own_w hw 119 rfl) (own_w hw 3 rfl) (by decide) (by decide)) q1a q1c (g := (mkF m 10 #[.val (.ref ob0), .val (.ref ob1), .unset] [(.ref ob1)])) rfl (by rw [hml]; rfl) (Steps.refl _) (argsL := []) (rest := []) (lenOf own_pd17 rfl) rfl (by show 2 * 0 + _ ≤ _; exact Nat.le_of_eq rfl) (hb hby own_d20_10) (fun _ _ => ⟨rfl, e0, (by decide : 0 + 0 ≤ _), (by decide : 0 + 0 ≤ _)⟩)
  dsimp only [Pt.U, Pt.locs, Pt.cells, Pt.slots] at X1 l1 y1 z1 st1 hQ1
  subst l1 y1 z1
  obtain ⟨rfl, Nq1, e1⟩ := hQ1
  have N1 := Fr.app N0 Nq1
  obtain ⟨T2, X2, e2, st2⟩ := getF X1 hx hZ hown (host := "") (Or.inl (own_w hw 125 rfl)) Via.refl e1 F_ob0_count (g := (mkF m 16 #[.val (.ref ob0), .val (.ref ob1), .val (.int ob1_value_z)] [(.ref ob0), (.ref ob0)])) rfl rfl (hb hby own_d20_16)
  obtain ⟨cq3, q3, q3'⟩ := E_ob0.cell
  obtain ⟨_, _, ⟨T3, L3, k3, n3⟩, -, X3, ⟨Lc3, hQ3, l3, y3, z3⟩, st3⟩ := X2.privateBack hx (y := own_y21) hown (mvT hZ (own_w hw 127 rfl)) (mvT hZ (own_w hw 128 rfl)) (own_selSelf (mvT hZ (own_w hw 130 rfl)) (Cond.privateMethod_at (mvP hZ (own_w hw 129 rfl) (args := #[]))) (mvT hZ (own_w hw 128 rfl)) (by decide)) (Cond.privateMethod_at (mvP hZ (own_w hw 129 rfl) (args := #[]))) (mvT hZ (own_w hw 131 rfl)) (by decide) (backOf (W := 0) (rmA28 l Z a0 hw [] ob0 ob0_value k_ob0_value ob0_value_l ((ob0_count + ob1_value_z))  cs wf h0 n0 O0 G0 E_ob0 F_ob0_coder V_ob0_value F_ob0_value  hcap) hZ (own_w hw 131 rfl) (own_w hw 97 rfl) (by decide) (by decide)) (g := (mkF m 21 #[.val (.ref ob0), .val (.ref ob1), .val (.int ob1_value_z)] [(.int (ob0_count + ob1_value_z)), (.ref ob0)])) rfl (by rw [hml]; rfl) (Steps.refl _) (a := ob0) (by rw [e2]; exact q3) q3' (argsL := [(.int (ob0_count + ob1_value_z))]) (rest := []) (lenOf own_pd15 rfl) rfl (by show 2 * 0 + _ ≤ _; exact Nat.le_of_eq rfl) (hb hby own_d20_21) (fun _ _ => ⟨rfl, e2, (by decide : 0 + 0 ≤ _), (by decide : 0 + 0 ≤ _)⟩)
  dsimp only [Pt.U, Pt.locs, Pt.cells, Pt.slots] at X3 l3 y3 z3 st3 hQ3
  subst l3 y3 z3
  obtain ⟨rfl, Nq3, e3⟩ := hQ3
  have N3 := Fr.app N1 Nq3
  obtain ⟨T4, X4, e4, st4⟩ := getF X3 hx hZ hown (host := "") (Or.inl (own_w hw 125 rfl)) Via.refl e3 F_ob0_count (g := (mkF m 26 #[.val (.ref ob0), .val (.ref ob1), .val (.int ob1_value_z)] [(.ref ob0), (.ref ob0)])) rfl rfl (hb hby own_d20_26)
  obtain ⟨cq5, q5, q5'⟩ := E_ob0.cell
  obtain ⟨_, _, ⟨T5, L5, k5, n5⟩, -, X5, ⟨Lc5, hQ5, l5, y5, z5⟩, st5⟩ := X4.privateBack hx (y := own_y22) hown (mvT hZ (own_w hw 132 rfl)) (mvT hZ (own_w hw 133 rfl)) (own_selSelf (mvT hZ (own_w hw 135 rfl)) (Cond.privateMethod_at (mvP hZ (own_w hw 134 rfl) (args := #[]))) (mvT hZ (own_w hw 133 rfl)) (by decide)) (Cond.privateMethod_at (mvP hZ (own_w hw 134 rfl) (args := #[]))) (mvT hZ (own_w hw 136 rfl)) (by decide) (backOf (W := 0) (rmA29 l Z a0 hw [] ob0 ob0_value k_ob0_value ob0_value_l (ob0_count) ob1 ob1_value k_ob1_value (ob1_value_z) ob1_value_l  cs wf h0 n0 O0 G0 E_ob0 F_ob0_coder V_ob0_value F_ob0_value E_ob1 F_ob1_coder V_ob1_value F_ob1_value gz_ob0_value hi0 hz0 hcap hdp hl16) hZ (own_w hw 136 rfl) (own_w hw 97 rfl) (by decide) (by decide)) (g := (mkF m 30 #[.val (.ref ob0), .val (.ref ob1), .val (.int ob1_value_z)] [(.ref ob1), (.int ob0_count), (.ref ob0)])) rfl (by rw [hml]; rfl) (Steps.refl _) (a := ob0) (by rw [e4]; exact q5) q5' (argsL := [(.int ob0_count), (.ref ob1)]) (rest := []) (lenOf own_pd20 rfl) rfl (by show 2 * 0 + _ ≤ _; exact Nat.le_of_eq rfl) (hb hby own_d20_30) (fun _ _ => ⟨rfl, e4, (by decide : 0 + 0 ≤ _), (by decide : 0 + 0 ≤ _)⟩)
  dsimp only [Pt.U, Pt.locs, Pt.cells, Pt.slots] at X5 l5 y5 z5 st5 hQ5
  subst l5 y5 z5
  obtain ⟨rfl, Nq5, K5, sl5, Va5, hl5⟩ := hQ5
  have N5 := Fr.app N3 Nq5
  have f6 := (F_ob0_count.keep K5 (ninS (Exa.neArv E_ob0 V_ob0_value (own_w hw 88 rfl)) nin0))
  obtain ⟨T7, X7, e7, st7⟩ := getF X5 hx hZ hown (host := "") (Or.inl (own_w hw 125 rfl)) Via.refl rfl f6 (g := (mkF m 35 #[.val (.ref ob0), .val (.ref ob1), .val (.int ob1_value_z)] [(.ref ob0), (.ref ob0)])) rfl rfl (hb hby own_d20_35)
  have f8 := (E_ob0.keep K5)
  obtain ⟨T9, h9, X9, e9, W9, st9⟩ := putF X7 hx hZ hown (host := "") (Or.inl (own_w hw 125 rfl)) Via.refl e7 f6 f8 (Or.inl (own_w hw 126 rfl)) (own_w hw 88 rfl) (ty := .int) (by decide) rfl rfl (g := (mkF m 40 #[.val (.ref ob0), .val (.ref ob1), .val (.int ob1_value_z)] [(.int (ob0_count + ob1_value_z)), (.ref ob0)])) rfl rfl (hb hby own_d20_40)
  have Fw9 := f6.same W9
  have N9 := Fr.snoc X9 N5 gz_ob0
  have g10 : ∀ t, Steps p.tables e below (T9.setTop (mkF m 44 #[.val (.ref ob0), .val (.ref ob1), .val (.int ob1_value_z)] [(.ref ob0)])) t → Steps p.tables e below (s₁.setTop (entryFrame m #[(.ref ob0), (.ref ob1)] 3)) t := by
    intro t k
    refine g0 t ?_
    show Steps p.tables e below (s₁.setTop (mkF m 0 #[.val (.ref ob0), .val (.ref ob1), .unset] [])) _
    refine XS.aloadN X0.here hx rfl (hb hby own_d20_0) rfl rfl ?_
    refine XS.ifnonnullYes X0.here hx rfl (pc0 := 1) (pc' := 9) rfl (hb hby own_d20_1) rfl (by decide) (by decide) ?_
    refine XS.aloadN X0.here hx rfl (hb hby own_d20_9) rfl rfl ?_
    refine st1.trans ?_
    rw [own_shr0]
    show Steps p.tables e below (T1.setTop (mkF m 13 #[.val (.ref ob0), .val (.ref ob1), .unset] [(.int ob1_value_z)])) _
    refine XS.istoreN X1.here hx rfl (hb hby own_d20_13) rfl (l' := #[.val (.ref ob0), .val (.ref ob1), .val (.int ob1_value_z)]) rfl ?_
    refine XS.aloadN X1.here hx rfl (hb hby own_d20_14) rfl rfl ?_
    refine XS.aloadN X1.here hx rfl (hb hby own_d20_15) rfl rfl ?_
    refine st2 _ ?_
    show Steps p.tables e below (T2.setTop (mkF m 19 #[.val (.ref ob0), .val (.ref ob1), .val (.int ob1_value_z)] [(.int ob0_count), (.ref ob0)])) _
    refine XS.iloadN X2.here hx rfl (hb hby own_d20_19) rfl ?_
    show Steps p.tables e below (T2.setTop (mkF m 20 #[.val (.ref ob0), .val (.ref ob1), .val (.int ob1_value_z)] [(.int ob1_value_z), (.int ob0_count), (.ref ob0)])) _
    refine XS.iadd X2.here hx rfl (hb hby own_d20_20) rfl ?_
    refine st3.trans ?_
    refine XS.aloadN X3.here hx rfl (hb hby own_d20_24) rfl rfl ?_
    show Steps p.tables e below (T3.setTop (mkF m 25 #[.val (.ref ob0), .val (.ref ob1), .val (.int ob1_value_z)] [(.ref ob0)])) _
    refine XS.aloadN X3.here hx rfl (hb hby own_d20_25) rfl rfl ?_
    refine st4 _ ?_
    refine XS.aloadN X4.here hx rfl (hb hby own_d20_29) rfl rfl ?_
    refine st5.trans ?_
    show Steps p.tables e below (T5.setTop (mkF m 33 #[.val (.ref ob0), .val (.ref ob1), .val (.int ob1_value_z)] [])) _
    refine XS.aloadN X5.here hx rfl (hb hby own_d20_33) rfl rfl ?_
    refine XS.dup X5.here hx rfl (hb hby own_d20_34) rfl rfl ?_
    refine st7 _ ?_
    refine XS.iloadN X7.here hx rfl (hb hby own_d20_38) rfl ?_
    show Steps p.tables e below (T7.setTop (mkF m 39 #[.val (.ref ob0), .val (.ref ob1), .val (.int ob1_value_z)] [(.int ob1_value_z), (.int ob0_count), (.ref ob0)])) _
    refine XS.iadd X7.here hx rfl (hb hby own_d20_39) rfl ?_
    refine st9 _ ?_
    refine XS.aloadN X9.here hx rfl (hb hby own_d20_43) rfl rfl ?_
    exact k
  obtain ⟨fs, hrt, hrun, hended, hW, hsame⟩ := X9.leave (v := some (.ref ob0)) (fun h => by rw [Bd.returns] at h; cases h)
  have f11 := ((F_ob0_coder.keep K5 (ninS (Exa.neArv E_ob0 V_ob0_value (own_w hw 88 rfl)) nin0)).other W9 (Or.inr (slot_ne (own_la6 hw) (own_la8 hw) (by decide) own_ty1 own_ty3)))
  have f12 := ((F_ob0_value.keep K5 (ninS (Exa.neArv E_ob0 V_ob0_value (own_w hw 88 rfl)) nin0)).other W9 (Or.inr (slot_ne (own_la7 hw) (own_la8 hw) (by decide) own_ty0 own_ty3)))
  have f13 := (Va5.other W9 (Ne.symm (Exa.neArv f8 Va5 (own_w hw 88 rfl))))
  refine ⟨_, _, g10 _ ?_, hrun, hended, _, _, rfl, ?_, ⟨_, rfl⟩, hW, hsame.mono (by decide) (by decide)⟩
  · show Steps p.tables e below (T9.setTop (mkF m 44 #[.val (.ref ob0), .val (.ref ob1), .val (.int ob1_value_z)] [(.ref ob0)])) _
    jvm_step X9.here [X9.here.top, hx, (hb hby own_d20_44), X9.method', Bd.returns, Value.isRef, FieldType.isReference]
    first | (intro acts; rw [hrt _ acts rfl rfl rfl]) | rw [hrt _ _ rfl rfl rfl]
    exact Steps.refl _
  · show own_Q_rmA25 Z ob0 ob0_count ob0_value k_ob0_value ob0_value_l ob1 ob1_value k_ob1_value ob1_value_z ob1_value_l cs wf h0 n0 _ T9.heap _
    rw [e9]
    exact ⟨rfl, N9, (Keep.wr (Keep.trans (Keep.refl h0 [ob0, ob0_value]) K5 (allS (Or.inl (List.mem_of_getElem? (i := 1) rfl)) all0)) W9 (Or.inl (List.mem_of_getElem? (i := 0) rfl))), Fw9, f11, f12, _, f13, hl5⟩
theorem own_pd21 : parseMethodDescriptor "(Ljava/lang/String;)Ljava/lang/AbstractStringBuilder;" = some ⟨[(.object "java/lang/String")], some (.object "java/lang/AbstractStringBuilder")⟩ := by decide +kernel
theorem own_d19_5 : decode jdk_67_method_7_code 5 = .ok (.pop, 1) := by decide +kernel
theorem own_d19_6 : decode jdk_67_method_7_code 6 = .ok (.aload_n 0, 1) := by decide +kernel
theorem own_d19_7 : decode jdk_67_method_7_code 7 = .ok (.areturn, 1) := by decide +kernel
def own_Q_rmA24 (Z : State) (ob0 : Addr) (ob0_count : Int32) (ob0_value : Addr) (k_ob0_value : ClassId) (ob0_value_l : List Value) (ob1 : Addr) (ob1_value : Addr) (k_ob1_value : ClassId) (ob1_value_z : Int32) (ob1_value_l : List Value)  (cs : Int32) (wf : Value) (h0 : Heap) (n0 : Nat) (v : Option Value) (h : Heap) (L : List Loc) : Prop := v = some (.ref ob0) ∧ Fr n0 L ∧ Keep h0 h [ob0, ob0_value] ∧ Fld Z h ob0 "java/lang/AbstractStringBuilder" "count" "I" (.int (ob0_count + ob1_value_z)) ∧ Fld Z h ob0 "java/lang/AbstractStringBuilder" "coder" "B" (.int (0 : Int32)) ∧ Fld Z h ob0 "java/lang/AbstractStringBuilder" "value" "[B" (.ref ob0_value) ∧ ∃ sl : List Value, Arv Z h ob0_value k_ob0_value .byte (16 : Int32) sl (.int (0 : Int32)) ∧ sl.length = 16
set_option maxRecDepth 65536 in
set_option maxHeartbeats 40000000 in
theorem rmA24 (l : Launch) (Z : State) (a0 : Array Value) (hw : ∀ d ∈ tables_1, d.before a0 Z = true) (ws : List Jvm.Cond) (ob0 : Addr) (ob0_count : Int32) (ob0_value : Addr) (k_ob0_value : ClassId) (ob0_value_l : List Value) (ob1 : Addr) (ob1_value : Addr) (k_ob1_value : ClassId) (ob1_value_z : Int32) (ob1_value_l : List Value)  (cs : Int32) (wf : Value) (h0 : Heap) (n0 : Nat) (O0 : Old Z n0 h0) (G : own_Gl Z cs wf) (E_ob0 : Exa Z h0 ob0 "java/lang/StringBuilder") (F_ob0_coder : Fld Z h0 ob0 "java/lang/AbstractStringBuilder" "coder" "B" (.int (0 : Int32))) (F_ob0_count : Fld Z h0 ob0 "java/lang/AbstractStringBuilder" "count" "I" (.int ob0_count)) (V_ob0_value : Arv Z h0 ob0_value k_ob0_value .byte (16 : Int32) ob0_value_l (.int (0 : Int32))) (F_ob0_value : Fld Z h0 ob0 "java/lang/AbstractStringBuilder" "value" "[B" (.ref ob0_value)) (E_ob1 : Exa Z h0 ob1 "java/lang/String") (F_ob1_coder : Fld Z h0 ob1 "java/lang/String" "coder" "B" (.int (0 : Int32))) (V_ob1_value : Arv Z h0 ob1_value k_ob1_value .byte ob1_value_z ob1_value_l (.int (0 : Int32))) (F_ob1_value : Fld Z h0 ob1 "java/lang/String" "value" "[B" (.ref ob1_value)) (gz_ob0 : n0 ≤ ob0) (gz_ob0_value : n0 ≤ ob0_value) (hi0 : ¬ (ob0_count < (0 : Int32))) (hz0 : ¬ (ob1_value_z < (0 : Int32))) (hcap : ¬ ((0 : Int32) < ((ob0_count + ob1_value_z) - (16 : Int32)))) (hdp : (ob0_count).toNatClampNeg + (ob1_value_z).toNatClampNeg ≤ (16 : Int32).toNatClampNeg) (hl16 : ob0_value_l.length = 16) :
    MetFree l own_y17 (head1 (Jvm.Cond.code own_y17 jdk_67_method_7_code 2 (some (.object "java/lang/StringBuilder")) :: ws) ({ frames := 4, cells := 0, slots := 0, locals := 94 } : Room)) (fun a U => a = #[(.ref ob0), (.ref ob1)] ∧ Z.Warmed39 U.vm ∧ U.heap = h0) (fun _ _ _ _ _ => True) (fun _ U o U' => ∃ v L, o = .returned v ∧ own_Q_rmA24 Z ob0 ob0_count ob0_value k_ob0_value ob0_value_l ob1 ob1_value k_ob1_value ob1_value_z ob1_value_l cs wf h0 n0 v U'.heap L ∧ FrameEnd U o U' L ({ frames := 4, cells := 0, slots := 0, locals := 94 } : Room).cells ({ frames := 4, cells := 0, slots := 0, locals := 94 } : Room).slots) := by
  refine MetFree.of_bodySF (plainFor_of_name own_pn6) hisR ?_
  intro p e s m args below meth c s₁ Bd hml0 hP hK
  obtain ⟨rfl, hZ, hh⟩ := hP
  have hx := Bd.exec
  have hby := Bd.bytes
  have hml : c.maxLocals = 2 := hml0
  have hown : s.vm.findClass "java/lang/StringBuilder" = some m.cls := findClass_of_methodNamed Bd.named
  have hnm := (name_of_methodNamed Bd.named Bd.method).1
  have X0 : Stand p l e ({ frames := 4, cells := 0, slots := 0, locals := 94 } : Room) s m #[(.ref ob0), (.ref ob1)] below meth c s₁ [] 0 0 := Stand.of_body Bd
  have e0 : s₁.heap = h0 := by rw [← hh, Bd.state]; rfl
  have N0 := Fr.nil n0
  have Z0 : n0 ≤ h0.size := O0.1 ▸ O0.2.1
  have g0 : ∀ t, Steps p.tables e below (s₁.setTop (mkF m 0 #[.val (.ref ob0), .val (.ref ob1)] [])) t → Steps p.tables e below (s₁.setTop (entryFrame m #[(.ref ob0), (.ref ob1)] 2)) t := fun t k => castTop (own_ef2 m (ob0) (ob1)) k
  have G0 := G
  obtain ⟨S_CS, hcs, S_WF, hwf⟩ := G
  obtain ⟨_, _, ⟨T1, L1, k1, n1⟩, -, X1, ⟨Lc1, hQ1, l1, y1, z1⟩, st1⟩ := superBack X0 hx hZ (y := own_y18) hown (own_w hw 110 rfl) (own_same (own_w hw 130 rfl) rfl (own_w hw 111 rfl) (by decide)) (own_w hw 111 rfl) (own_w hw 112 rfl) (by decide) (backOf (W := 0) (rmA25 l Z a0 hw [] ob0 (ob0_count) ob0_value k_ob0_value ob0_value_l ob1 ob1_value k_ob1_value (ob1_value_z) ob1_value_l  cs wf h0 n0 O0 G0 E_ob0 F_ob0_coder F_ob0_count V_ob0_value F_ob0_value E_ob1 F_ob1_coder V_ob1_value F_ob1_value gz_ob0 gz_ob0_value hi0 hz0 hcap hdp hl16) hZ (own_w hw 114 rfl) (own_w hw 97 rfl) (by decide) (by decide)) e0 (Ins.self E_ob0) (g := (mkF m 2 #[.val (.ref ob0), .val (.ref ob1)] [(.ref ob1), (.ref ob0)])) rfl (by rw [hml]; rfl) (own_w hw 114 rfl) (argsL := [(.ref ob1)]) (rest := []) (lenOf own_pd21 rfl) rfl (by show 2 * 0 + _ ≤ _; exact Nat.le_of_eq rfl) (hb hby own_d19_2) (fun _ _ => ⟨rfl, e0, (by decide : 0 + 0 ≤ _), (by decide : 0 + 0 ≤ _)⟩)
  dsimp only [Pt.U, Pt.locs, Pt.cells, Pt.slots] at X1 l1 y1 z1 st1 hQ1
  subst l1 y1 z1
  obtain ⟨rfl, Nq1, K1, Qn1, Qc1, Qv1, sl1, Va1, hl1⟩ := hQ1
  have N1 := Fr.app N0 Nq1
  have g2 : ∀ t, Steps p.tables e below (T1.setTop (mkF m 7 #[.val (.ref ob0), .val (.ref ob1)] [(.ref ob0)])) t → Steps p.tables e below (s₁.setTop (entryFrame m #[(.ref ob0), (.ref ob1)] 2)) t := by
    intro t k
    refine g0 t ?_
    show Steps p.tables e below (s₁.setTop (mkF m 0 #[.val (.ref ob0), .val (.ref ob1)] [])) _
    refine XS.aloadN X0.here hx rfl (hb hby own_d19_0) rfl rfl ?_
    refine XS.aloadN X0.here hx rfl (hb hby own_d19_1) rfl rfl ?_
    refine st1.trans ?_
    refine XS.pop X1.here hx rfl (hb hby own_d19_5) rfl rfl ?_
    show Steps p.tables e below (T1.setTop (mkF m 6 #[.val (.ref ob0), .val (.ref ob1)] [])) _
    refine XS.aloadN X1.here hx rfl (hb hby own_d19_6) rfl rfl ?_
    exact k
  obtain ⟨fs, hrt, hrun, hended, hW, hsame⟩ := X1.leave (v := some (.ref ob0)) (fun h => by rw [Bd.returns] at h; cases h)
  refine ⟨_, _, g2 _ ?_, hrun, hended, _, _, rfl, ?_, ⟨_, rfl⟩, hW, hsame.mono (by decide) (by decide)⟩
  · show Steps p.tables e below (T1.setTop (mkF m 7 #[.val (.ref ob0), .val (.ref ob1)] [(.ref ob0)])) _
    jvm_step X1.here [X1.here.top, hx, (hb hby own_d19_7), X1.method', Bd.returns, Value.isRef, FieldType.isReference]
    first | (intro acts; rw [hrt _ acts rfl rfl rfl]) | rw [hrt _ _ rfl rfl rfl]
    exact Steps.refl _
  · show own_Q_rmA24 Z ob0 ob0_count ob0_value k_ob0_value ob0_value_l ob1 ob1_value k_ob1_value ob1_value_z ob1_value_l cs wf h0 n0 _ T1.heap _
    exact ⟨rfl, N1, (Keep.trans (Keep.refl h0 [ob0, ob0_value]) K1 (allS (Or.inl (List.mem_of_getElem? (i := 0) rfl)) (allS (Or.inl (List.mem_of_getElem? (i := 1) rfl)) all0))), Qn1, Qc1, Qv1, _, Va1, hl1⟩
theorem own_pd22 : parseMethodDescriptor "(Ljava/lang/String;)Ljava/lang/StringBuilder;" = some ⟨[(.object "java/lang/String")], some (.object "java/lang/StringBuilder")⟩ := by decide +kernel
theorem own_d14_28 : decode prog_13_method_4_code 28 = .ok (.ldc 32, 2) := by decide +kernel
theorem own_d14_30 : decode prog_13_method_4_code 30 = .ok (.invokevirtual 28, 3) := by decide +kernel
def own_Q_rmA34 (Z : State) (ob0 : Addr) (ob0_value : Addr) (k_ob0_value : ClassId) (ob0_value_z : Int32)  (cs : Int32) (wf : Value) (h0 : Heap) (n0 : Nat) (v : Option Value) (h : Heap) (L : List Loc) : Prop := v = some (.int (ob0_value_z >>> ((0 : Int32) &&& 31))) ∧ Fr n0 L ∧ h = h0
set_option maxRecDepth 65536 in
set_option maxHeartbeats 40000000 in
theorem rmA34 (l : Launch) (Z : State) (a0 : Array Value) (hw : ∀ d ∈ tables_1, d.before a0 Z = true) (ws : List Jvm.Cond) (ob0 : Addr) (ob0_value : Addr) (k_ob0_value : ClassId) (ob0_value_z : Int32)  (cs : Int32) (wf : Value) (h0 : Heap) (n0 : Nat) (O0 : Old Z n0 h0) (G : own_Gl Z cs wf) (E_ob0 : Exa Z h0 ob0 "java/lang/String") (F_ob0_coder : Fld Z h0 ob0 "java/lang/String" "coder" "B" (.int (0 : Int32))) (V_ob0_value : Arv Z h0 ob0_value k_ob0_value .byte ob0_value_z [(.int (32 : Int32))] (.int (0 : Int32))) (F_ob0_value : Fld Z h0 ob0 "java/lang/String" "value" "[B" (.ref ob0_value)) :
    MetFree l own_y19 (head1 (Jvm.Cond.code own_y19 jdk_42_method_54_code 1 (some .int) :: ws) ({ frames := 1, cells := 0, slots := 0, locals := 13 } : Room)) (fun a U => a = #[(.ref ob0)] ∧ Z.Warmed39 U.vm ∧ U.heap = h0) (fun _ _ _ _ _ => True) (fun _ U o U' => ∃ v L, o = .returned v ∧ own_Q_rmA34 Z ob0 ob0_value k_ob0_value ob0_value_z cs wf h0 n0 v U'.heap L ∧ FrameEnd U o U' L ({ frames := 1, cells := 0, slots := 0, locals := 13 } : Room).cells ({ frames := 1, cells := 0, slots := 0, locals := 13 } : Room).slots) := by
  refine MetFree.of_bodySF (plainFor_of_name own_pn1) hisR ?_
  intro p e s m args below meth c s₁ Bd hml0 hP hK
  obtain ⟨rfl, hZ, hh⟩ := hP
  have hx := Bd.exec
  have hby := Bd.bytes
  have hml : c.maxLocals = 1 := hml0
  have hown : s.vm.findClass "java/lang/String" = some m.cls := findClass_of_methodNamed Bd.named
  have hnm := (name_of_methodNamed Bd.named Bd.method).1
  have X0 : Stand p l e ({ frames := 1, cells := 0, slots := 0, locals := 13 } : Room) s m #[(.ref ob0)] below meth c s₁ [] 0 0 := Stand.of_body Bd
  have e0 : s₁.heap = h0 := by rw [← hh, Bd.state]; rfl
  have N0 := Fr.nil n0
  have Z0 : n0 ≤ h0.size := O0.1 ▸ O0.2.1
  have g0 : ∀ t, Steps p.tables e below (s₁.setTop (mkF m 0 #[.val (.ref ob0)] [])) t → Steps p.tables e below (s₁.setTop (entryFrame m #[(.ref ob0)] 1)) t := fun t k => castTop (own_ef12 m (ob0)) k
  have G0 := G
  obtain ⟨S_CS, hcs, S_WF, hwf⟩ := G
  obtain ⟨T1, X1, e1, st1⟩ := getF X0 hx hZ hown (host := "") (Or.inl (own_w hw 28 rfl)) Via.refl e0 F_ob0_value (g := (mkF m 1 #[.val (.ref ob0)] [(.ref ob0)])) rfl rfl (hb hby own_d21_1)
  obtain ⟨c2, Ar2, cq2, S2, Nn2, Hh2, Gg2⟩ := id V_ob0_value
  obtain ⟨cq3, kq3, q3a, q3b, q3c⟩ := isOf hZ e1 E_ob0
  obtain ⟨_, _, ⟨T3, L3, k3, n3⟩, -, X3, ⟨Lc3, hQ3, l3, y3, z3⟩, st3⟩ := X1.virtualBack hx (y := own_y20) (z := own_y20) hown (mvT hZ (own_w hw 120 rfl)) (mvT hZ (own_w hw 121 rfl)) (notFace_of_selects (args := #[]) (mvT hZ (own_w hw 123 rfl))) (mvT hZ (own_w hw 123 rfl)) (mvT hZ (own_w hw 122 rfl)) (by decide) (backOf (W := 1) (rmA27 l Z a0 hw [] ob0  cs wf h0 n0 O0 G0 E_ob0 F_ob0_coder  ) hZ (own_w hw 124 rfl) (own_w hw 3 rfl) (by decide) (by decide)) q3a q3c (g := (mkF m 6 #[.val (.ref ob0)] [(.ref ob0), (.int ob0_value_z)])) rfl (by rw [hml]; rfl) (Steps.refl _) (argsL := []) (rest := [(.int ob0_value_z)]) (lenOf own_pd16 rfl) rfl (by show 2 * 0 + _ ≤ _; exact Nat.le_of_eq rfl) (hb hby own_d21_6) (fun _ _ => ⟨rfl, e1, (by decide : 0 + 0 ≤ _), (by decide : 0 + 0 ≤ _)⟩)
  dsimp only [Pt.U, Pt.locs, Pt.cells, Pt.slots] at X3 l3 y3 z3 st3 hQ3
  subst l3 y3 z3
  obtain ⟨rfl, Nq3, e3⟩ := hQ3
  have N3 := Fr.app N0 Nq3
  have g4 : ∀ t, Steps p.tables e below (T3.setTop (mkF m 10 #[.val (.ref ob0)] [(.int (ob0_value_z >>> ((0 : Int32) &&& 31)))])) t → Steps p.tables e below (s₁.setTop (entryFrame m #[(.ref ob0)] 1)) t := by
    intro t k
    refine g0 t ?_
    show Steps p.tables e below (s₁.setTop (mkF m 0 #[.val (.ref ob0)] [])) _
    refine XS.aloadN X0.here hx rfl (hb hby own_d21_0) rfl rfl ?_
    refine st1 _ ?_
    show Steps p.tables e below (T1.setTop (mkF m 4 #[.val (.ref ob0)] [(.ref ob0_value)])) _
    refine X1.arraylength hx (by rw [e1]; exact Ar2.1) (State.isArrayOf_alike hZ.alike Ar2.2.1) (g := (mkF m 4 #[.val (.ref ob0)] [(.ref ob0_value)])) rfl rfl (hb hby own_d21_4) _ ?_
    rw [len_of S2 Nn2]
    refine XS.aloadN X1.here hx rfl (hb hby own_d21_5) rfl rfl ?_
    show Steps p.tables e below (T1.setTop (mkF m 6 #[.val (.ref ob0)] [(.ref ob0), (.int ob0_value_z)])) _
    refine st3.trans ?_
    show Steps p.tables e below (T3.setTop (mkF m 9 #[.val (.ref ob0)] [(.int (0 : Int32)), (.int ob0_value_z)])) _
    refine XS.ishr X3.here hx rfl (hb hby own_d21_9) rfl ?_
    exact k
  obtain ⟨fs, hrt, hrun, hended, hW, hsame⟩ := X3.leave (v := some (.int (ob0_value_z >>> ((0 : Int32) &&& 31)))) (fun h => by rw [Bd.returns] at h; cases h)
  refine ⟨_, _, g4 _ ?_, hrun, hended, _, _, rfl, ?_, ⟨_, rfl⟩, hW, hsame.mono (by decide) (by decide)⟩
  · show Steps p.tables e below (T3.setTop (mkF m 10 #[.val (.ref ob0)] [(.int (ob0_value_z >>> ((0 : Int32) &&& 31)))])) _
    exact retI X3 hx Bd.returns (hb hby own_d21_10) hrt
  · show own_Q_rmA34 Z ob0 ob0_value k_ob0_value ob0_value_z cs wf h0 n0 _ T3.heap _
    rw [e3]
    exact ⟨rfl, N3, rfl⟩
def own_Q_rmA36 (Z : State) (ob0 : Addr) (ob0_value : Addr) (k_ob0_value : ClassId) (ob0_value_z : Int32) (ob1 : Addr) (k_ob1 : ClassId) (ob1_l : List Value) (p2 : Int32)  (cs : Int32) (wf : Value) (h0 : Heap) (n0 : Nat) (v : Option Value) (h : Heap) (L : List Loc) : Prop := v = none ∧ Fr n0 L ∧ Keep h0 h [ob1] ∧ ∃ sl : List Value, Arv Z h ob1 k_ob1 .byte (16 : Int32) sl (.int (0 : Int32)) ∧ sl.length = 16
set_option maxRecDepth 65536 in
set_option maxHeartbeats 40000000 in
theorem rmA36 (l : Launch) (Z : State) (a0 : Array Value) (hw : ∀ d ∈ tables_1, d.before a0 Z = true) (ws : List Jvm.Cond) (ob0 : Addr) (ob0_value : Addr) (k_ob0_value : ClassId) (ob0_value_z : Int32) (ob1 : Addr) (k_ob1 : ClassId) (ob1_l : List Value) (p2 : Int32)  (cs : Int32) (wf : Value) (h0 : Heap) (n0 : Nat) (O0 : Old Z n0 h0) (G : own_Gl Z cs wf) (E_ob0 : Exa Z h0 ob0 "java/lang/String") (F_ob0_coder : Fld Z h0 ob0 "java/lang/String" "coder" "B" (.int (0 : Int32))) (V_ob0_value : Arv Z h0 ob0_value k_ob0_value .byte ob0_value_z [(.int (32 : Int32))] (.int (0 : Int32))) (F_ob0_value : Fld Z h0 ob0 "java/lang/String" "value" "[B" (.ref ob0_value)) (V_ob1 : Arv Z h0 ob1 k_ob1 .byte (16 : Int32) ob1_l (.int (0 : Int32))) (gz_ob1 : n0 ≤ ob1) (hi0 : ¬ (p2 < (0 : Int32))) (hz0 : ¬ (ob0_value_z < (0 : Int32))) (hcap : ¬ ((0 : Int32) < ((p2 + ob0_value_z) - (16 : Int32)))) (hdp : (p2).toNatClampNeg + (ob0_value_z).toNatClampNeg ≤ (16 : Int32).toNatClampNeg) (hl16 : ob1_l.length = 16) :
    MetFree l own_y24 (head1 (Jvm.Cond.code own_y24 jdk_42_method_147_code 4 none :: ws) ({ frames := 1, cells := 0, slots := 0, locals := 51 } : Room)) (fun a U => a = #[(.ref ob0), (.ref ob1), (.int p2), (.int (0 : Int32))] ∧ Z.Warmed39 U.vm ∧ U.heap = h0) (fun _ _ _ _ _ => True) (fun _ U o U' => ∃ v L, o = .returned v ∧ own_Q_rmA36 Z ob0 ob0_value k_ob0_value ob0_value_z ob1 k_ob1 ob1_l p2 cs wf h0 n0 v U'.heap L ∧ FrameEnd U o U' L ({ frames := 1, cells := 0, slots := 0, locals := 51 } : Room).cells ({ frames := 1, cells := 0, slots := 0, locals := 51 } : Room).slots) := by
  refine MetFree.of_bodySF (plainFor_of_name own_pn1) hisR ?_
  intro p e s m args below meth c s₁ Bd hml0 hP hK
  obtain ⟨rfl, hZ, hh⟩ := hP
  have hx := Bd.exec
  have hby := Bd.bytes
  have hml : c.maxLocals = 4 := hml0
  have hown : s.vm.findClass "java/lang/String" = some m.cls := findClass_of_methodNamed Bd.named
  have hnm := (name_of_methodNamed Bd.named Bd.method).1
  have X0 : Stand p l e ({ frames := 1, cells := 0, slots := 0, locals := 51 } : Room) s m #[(.ref ob0), (.ref ob1), (.int p2), (.int (0 : Int32))] below meth c s₁ [] 0 0 := Stand.of_body Bd
  have e0 : s₁.heap = h0 := by rw [← hh, Bd.state]; rfl
  have N0 := Fr.nil n0
  have Z0 : n0 ≤ h0.size := O0.1 ▸ O0.2.1
  have g0 : ∀ t, Steps p.tables e below (s₁.setTop (mkF m 0 #[.val (.ref ob0), .val (.ref ob1), .val (.int p2), .val (.int (0 : Int32))] [])) t → Steps p.tables e below (s₁.setTop (entryFrame m #[(.ref ob0), (.ref ob1), (.int p2), (.int (0 : Int32))] 4)) t := fun t k => castTop (own_ef33 m (ob0) (ob1) (p2) ((0 : Int32))) k
  have G0 := G
  obtain ⟨S_CS, hcs, S_WF, hwf⟩ := G
  obtain ⟨cq1, kq1, q1a, q1b, q1c⟩ := isOf hZ e0 E_ob0
  obtain ⟨_, _, ⟨T1, L1, k1, n1⟩, -, X1, ⟨Lc1, hQ1, l1, y1, z1⟩, st1⟩ := X0.virtualBack hx (y := own_y20) (z := own_y20) hown (mvT hZ (own_w hw 120 rfl)) (mvT hZ (own_w hw 121 rfl)) (notFace_of_selects (args := #[]) (mvT hZ (own_w hw 123 rfl))) (mvT hZ (own_w hw 123 rfl)) (mvT hZ (own_w hw 122 rfl)) (by decide) (backOf (W := 0) (rmA27 l Z a0 hw [] ob0  cs wf h0 n0 O0 G0 E_ob0 F_ob0_coder  ) hZ (own_w hw 124 rfl) (own_w hw 3 rfl) (by decide) (by decide)) q1a q1c (g := (mkF m 1 #[.val (.ref ob0), .val (.ref ob1), .val (.int p2), .val (.int (0 : Int32))] [(.ref ob0)])) rfl (by rw [hml]; rfl) (Steps.refl _) (argsL := []) (rest := []) (lenOf own_pd16 rfl) rfl (by show 2 * 0 + _ ≤ _; exact Nat.le_of_eq rfl) (hb hby own_d26_1) (fun _ _ => ⟨rfl, e0, (by decide : 0 + 0 ≤ _), (by decide : 0 + 0 ≤ _)⟩)
  dsimp only [Pt.U, Pt.locs, Pt.cells, Pt.slots] at X1 l1 y1 z1 st1 hQ1
  subst l1 y1 z1
  obtain ⟨rfl, Nq1, e1⟩ := hQ1
  have N1 := Fr.app N0 Nq1
  obtain ⟨T2, X2, e2, st2⟩ := getF X1 hx hZ hown (host := "") (Or.inl (own_w hw 28 rfl)) Via.refl e1 F_ob0_value (g := (mkF m 9 #[.val (.ref ob0), .val (.ref ob1), .val (.int p2), .val (.int (0 : Int32))] [(.ref ob0)])) rfl rfl (hb hby own_d26_9)
  obtain ⟨T3, X3, e3, st3⟩ := getF X2 hx hZ hown (host := "") (Or.inl (own_w hw 28 rfl)) Via.refl e2 F_ob0_value (g := (mkF m 18 #[.val (.ref ob0), .val (.ref ob1), .val (.int p2), .val (.int (0 : Int32))] [(.ref ob0), (.int p2), (.ref ob1), (.int (0 : Int32)), (.ref ob0_value)])) rfl rfl (hb hby own_d26_18)
  obtain ⟨c4, Ar4, cq4, S4, Nn4, Hh4, Gg4⟩ := id V_ob0_value
  have hll5 := Nat.le_trans hdp (Nat.le_of_eq (Eq.trans (by decide : (16 : Int32).toNatClampNeg = 16) hl16.symm))
  obtain ⟨T5, h5, L5, X5, e5, N5, K5, V5, st5⟩ := cpA X3 hx hZ hown (own_w hw 148 rfl) (own_w hw 151 rfl) (own_w hw 149 rfl) (own_w hw 150 rfl) e3 V_ob0_value V_ob1 (Or.inl ⟨rfl, rfl⟩) (by decide) hi0 hz0 (Nat.le_of_eq (Nat.zero_add _)) hdp rfl hll5 N1 gz_ob1 (g := (mkF m 22 #[.val (.ref ob0), .val (.ref ob1), .val (.int p2), .val (.int (0 : Int32))] [(.int ob0_value_z), (.int p2), (.ref ob1), (.int (0 : Int32)), (.ref ob0_value)])) rfl (by rw [hml]; rfl) rfl (hb hby own_d26_22) (by decide) (W := 0) (by show 2 * 0 + _ ≤ _; exact Nat.le_of_eq rfl) (by decide)
  obtain ⟨vl5, V5a, hl5⟩ : ∃ q : List Value, Arv Z h5 ob1 k_ob1 .byte (16 : Int32) q (.int (0 : Int32)) ∧ q.length = 16 := ⟨_, V5, (own_cplen _ _ _ _ hll5).trans hl16⟩
  have g6 : ∀ t, Steps p.tables e below (T5.setTop (mkF m 43 #[.val (.ref ob0), .val (.ref ob1), .val (.int p2), .val (.int (0 : Int32))] [])) t → Steps p.tables e below (s₁.setTop (entryFrame m #[(.ref ob0), (.ref ob1), (.int p2), (.int (0 : Int32))] 4)) t := by
    intro t k
    refine g0 t ?_
    show Steps p.tables e below (s₁.setTop (mkF m 0 #[.val (.ref ob0), .val (.ref ob1), .val (.int p2), .val (.int (0 : Int32))] [])) _
    refine XS.aloadN X0.here hx rfl (hb hby own_d26_0) rfl rfl ?_
    refine st1.trans ?_
    refine XS.iloadN X1.here hx rfl (hb hby own_d26_4) rfl ?_
    refine XS.icmpNo X1.here hx rfl (hb hby own_d26_5) rfl (teq (by decide : (0 : Int32) = (0 : Int32))).2 ?_
    show Steps p.tables e below (T1.setTop (mkF m 8 #[.val (.ref ob0), .val (.ref ob1), .val (.int p2), .val (.int (0 : Int32))] [])) _
    refine XS.aloadN X1.here hx rfl (hb hby own_d26_8) rfl rfl ?_
    refine st2 _ ?_
    refine XS.iconst X2.here hx rfl (hb hby own_d26_12) ?_
    refine XS.aloadN X2.here hx rfl (hb hby own_d26_13) rfl rfl ?_
    show Steps p.tables e below (T2.setTop (mkF m 14 #[.val (.ref ob0), .val (.ref ob1), .val (.int p2), .val (.int (0 : Int32))] [(.ref ob1), (.int (0 : Int32)), (.ref ob0_value)])) _
    refine XS.iloadN X2.here hx rfl (hb hby own_d26_14) rfl ?_
    refine XS.iloadN X2.here hx rfl (hb hby own_d26_15) rfl ?_
    show Steps p.tables e below (T2.setTop (mkF m 16 #[.val (.ref ob0), .val (.ref ob1), .val (.int p2), .val (.int (0 : Int32))] [(.int (0 : Int32)), (.int p2), (.ref ob1), (.int (0 : Int32)), (.ref ob0_value)])) _
    refine XS.ishl X2.here hx rfl (hb hby own_d26_16) rfl ?_
    rw [own_shl0]
    refine XS.aloadN X2.here hx rfl (hb hby own_d26_17) rfl rfl ?_
    show Steps p.tables e below (T2.setTop (mkF m 18 #[.val (.ref ob0), .val (.ref ob1), .val (.int p2), .val (.int (0 : Int32))] [(.ref ob0), (.int p2), (.ref ob1), (.int (0 : Int32)), (.ref ob0_value)])) _
    refine st3 _ ?_
    show Steps p.tables e below (T3.setTop (mkF m 21 #[.val (.ref ob0), .val (.ref ob1), .val (.int p2), .val (.int (0 : Int32))] [(.ref ob0_value), (.int p2), (.ref ob1), (.int (0 : Int32)), (.ref ob0_value)])) _
    refine X3.arraylength hx (by rw [e3]; exact Ar4.1) (State.isArrayOf_alike hZ.alike Ar4.2.1) (g := (mkF m 21 #[.val (.ref ob0), .val (.ref ob1), .val (.int p2), .val (.int (0 : Int32))] [(.ref ob0_value), (.int p2), (.ref ob1), (.int (0 : Int32)), (.ref ob0_value)])) rfl rfl (hb hby own_d26_21) _ ?_
    rw [len_of S4 Nn4]
    refine st5 _ ?_
    refine XS.goto X5.here hx rfl (pc0 := 25) (pc' := 43) rfl (hb hby own_d26_25) (by decide) (by decide) ?_
    exact k
  obtain ⟨fs, hrt, hrun, hended, hW, hsame⟩ := X5.leave (v := none) (fun _ => rfl)
  refine ⟨_, _, g6 _ ?_, hrun, hended, _, _, rfl, ?_, ⟨_, rfl⟩, hW, hsame.mono (by decide) (by decide)⟩
  · show Steps p.tables e below (T5.setTop (mkF m 43 #[.val (.ref ob0), .val (.ref ob1), .val (.int p2), .val (.int (0 : Int32))] [])) _
    exact X5.returnOut hx Bd.returns (hb hby own_d26_43) hrt
  · show own_Q_rmA36 Z ob0 ob0_value k_ob0_value ob0_value_z ob1 k_ob1 ob1_l p2 cs wf h0 n0 _ T5.heap _
    rw [e5]
    exact ⟨rfl, N5, (Keep.trans (Keep.refl h0 [ob1]) K5 (allS (Or.inl (List.mem_of_getElem? (i := 0) rfl)) all0)), _, V5a, hl5⟩
def own_Q_rmA35 (Z : State) (ob0 : Addr) (ob0_value : Addr) (k_ob0_value : ClassId) (ob0_value_l : List Value) (p1 : Int32) (ob2 : Addr) (ob2_value : Addr) (k_ob2_value : ClassId) (ob2_value_z : Int32)  (cs : Int32) (wf : Value) (h0 : Heap) (n0 : Nat) (v : Option Value) (h : Heap) (L : List Loc) : Prop := v = none ∧ Fr n0 L ∧ Keep h0 h [ob0_value] ∧ ∃ sl : List Value, Arv Z h ob0_value k_ob0_value .byte (16 : Int32) sl (.int (0 : Int32)) ∧ sl.length = 16
set_option maxRecDepth 65536 in
set_option maxHeartbeats 40000000 in
theorem rmA35 (l : Launch) (Z : State) (a0 : Array Value) (hw : ∀ d ∈ tables_1, d.before a0 Z = true) (ws : List Jvm.Cond) (ob0 : Addr) (ob0_value : Addr) (k_ob0_value : ClassId) (ob0_value_l : List Value) (p1 : Int32) (ob2 : Addr) (ob2_value : Addr) (k_ob2_value : ClassId) (ob2_value_z : Int32)  (cs : Int32) (wf : Value) (h0 : Heap) (n0 : Nat) (O0 : Old Z n0 h0) (G : own_Gl Z cs wf) (E_ob0 : Exa Z h0 ob0 "java/lang/StringBuilder") (F_ob0_coder : Fld Z h0 ob0 "java/lang/AbstractStringBuilder" "coder" "B" (.int (0 : Int32))) (V_ob0_value : Arv Z h0 ob0_value k_ob0_value .byte (16 : Int32) ob0_value_l (.int (0 : Int32))) (F_ob0_value : Fld Z h0 ob0 "java/lang/AbstractStringBuilder" "value" "[B" (.ref ob0_value)) (E_ob2 : Exa Z h0 ob2 "java/lang/String") (F_ob2_coder : Fld Z h0 ob2 "java/lang/String" "coder" "B" (.int (0 : Int32))) (V_ob2_value : Arv Z h0 ob2_value k_ob2_value .byte ob2_value_z [(.int (32 : Int32))] (.int (0 : Int32))) (F_ob2_value : Fld Z h0 ob2 "java/lang/String" "value" "[B" (.ref ob2_value)) (gz_ob0_value : n0 ≤ ob0_value) (hi0 : ¬ (p1 < (0 : Int32))) (hz0 : ¬ (ob2_value_z < (0 : Int32))) (hcap : ¬ ((0 : Int32) < ((p1 + ob2_value_z) - (16 : Int32)))) (hdp : (p1).toNatClampNeg + (ob2_value_z).toNatClampNeg ≤ (16 : Int32).toNatClampNeg) (hl16 : ob0_value_l.length = 16) :
    MetFree l own_y22 (head1 (Jvm.Cond.code own_y22 jdk_68_method_73_code 3 none :: ws) ({ frames := 2, cells := 0, slots := 0, locals := 66 } : Room)) (fun a U => a = #[(.ref ob0), (.int p1), (.ref ob2)] ∧ Z.Warmed39 U.vm ∧ U.heap = h0) (fun _ _ _ _ _ => True) (fun _ U o U' => ∃ v L, o = .returned v ∧ own_Q_rmA35 Z ob0 ob0_value k_ob0_value ob0_value_l p1 ob2 ob2_value k_ob2_value ob2_value_z cs wf h0 n0 v U'.heap L ∧ FrameEnd U o U' L ({ frames := 2, cells := 0, slots := 0, locals := 66 } : Room).cells ({ frames := 2, cells := 0, slots := 0, locals := 66 } : Room).slots) := by
  refine MetFree.of_bodySF (plainFor_of_name own_pn7) hisR ?_
  intro p e s m args below meth c s₁ Bd hml0 hP hK
  obtain ⟨rfl, hZ, hh⟩ := hP
  have hx := Bd.exec
  have hby := Bd.bytes
  have hml : c.maxLocals = 3 := hml0
  have hown : s.vm.findClass "java/lang/AbstractStringBuilder" = some m.cls := findClass_of_methodNamed Bd.named
  have hnm := (name_of_methodNamed Bd.named Bd.method).1
  have X0 : Stand p l e ({ frames := 2, cells := 0, slots := 0, locals := 66 } : Room) s m #[(.ref ob0), (.int p1), (.ref ob2)] below meth c s₁ [] 0 0 := Stand.of_body Bd
  have e0 : s₁.heap = h0 := by rw [← hh, Bd.state]; rfl
  have N0 := Fr.nil n0
  have Z0 : n0 ≤ h0.size := O0.1 ▸ O0.2.1
  have g0 : ∀ t, Steps p.tables e below (s₁.setTop (mkF m 0 #[.val (.ref ob0), .val (.int p1), .val (.ref ob2)] [])) t → Steps p.tables e below (s₁.setTop (entryFrame m #[(.ref ob0), (.int p1), (.ref ob2)] 3)) t := fun t k => castTop (own_ef31 m (ob0) (p1) (ob2)) k
  have G0 := G
  obtain ⟨S_CS, hcs, S_WF, hwf⟩ := G
  obtain ⟨cq1, q1, q1'⟩ := E_ob0.cell
  obtain ⟨_, _, ⟨T1, L1, k1, n1⟩, -, X1, ⟨Lc1, hQ1, l1, y1, z1⟩, st1⟩ := X0.privateBack hx (y := own_y23) hown (mvT hZ (own_w hw 137 rfl)) (mvT hZ (own_w hw 138 rfl)) (own_selSelf (mvT hZ (own_w hw 140 rfl)) (Cond.privateMethod_at (mvP hZ (own_w hw 139 rfl) (args := #[]))) (mvT hZ (own_w hw 138 rfl)) (by decide)) (Cond.privateMethod_at (mvP hZ (own_w hw 139 rfl) (args := #[]))) (mvT hZ (own_w hw 141 rfl)) (by decide) (backOf (W := 0) (rmA30 l Z a0 hw [] ob0 ob2  cs wf h0 n0 O0 G0 E_ob0 F_ob0_coder E_ob2 F_ob2_coder  ) hZ (own_w hw 141 rfl) (own_w hw 97 rfl) (by decide) (by decide)) (g := (mkF m 2 #[.val (.ref ob0), .val (.int p1), .val (.ref ob2)] [(.ref ob2), (.ref ob0)])) rfl (by rw [hml]; rfl) (Steps.refl _) (a := ob0) (by rw [e0]; exact q1) q1' (argsL := [(.ref ob2)]) (rest := []) (lenOf own_pd18 rfl) rfl (by show 2 * 0 + _ ≤ _; exact Nat.le_of_eq rfl) (hb hby own_d24_2) (fun _ _ => ⟨rfl, e0, (by decide : 0 + 0 ≤ _), (by decide : 0 + 0 ≤ _)⟩)
  dsimp only [Pt.U, Pt.locs, Pt.cells, Pt.slots] at X1 l1 y1 z1 st1 hQ1
  subst l1 y1 z1
  obtain ⟨rfl, Nq1, e1⟩ := hQ1
  have N1 := Fr.app N0 Nq1
  obtain ⟨T2, X2, e2, st2⟩ := getF X1 hx hZ hown (host := "") (Or.inl (own_w hw 101 rfl)) Via.refl e1 F_ob0_value (g := (mkF m 7 #[.val (.ref ob0), .val (.int p1), .val (.ref ob2)] [(.ref ob0), (.ref ob2)])) rfl rfl (hb hby own_d24_7)
  obtain ⟨T3, X3, e3, st3⟩ := getF X2 hx hZ hown (host := "") (Or.inl (own_w hw 103 rfl)) Via.refl e2 F_ob0_coder (g := (mkF m 12 #[.val (.ref ob0), .val (.int p1), .val (.ref ob2)] [(.ref ob0), (.int p1), (.ref ob0_value), (.ref ob2)])) rfl rfl (hb hby own_d24_12)
  obtain ⟨cq4, kq4, q4a, q4b, q4c⟩ := isOf hZ e3 E_ob2
  obtain ⟨_, _, ⟨T4, L4, k4, n4⟩, -, X4, ⟨Lc4, hQ4, l4, y4, z4⟩, st4⟩ := X3.virtualBack hx (y := own_y24) (z := own_y24) hown (mvT hZ (own_w hw 143 rfl)) (mvT hZ (own_w hw 144 rfl)) (notFace_of_selects (args := #[]) (mvT hZ (own_w hw 146 rfl))) (mvT hZ (own_w hw 146 rfl)) (mvT hZ (own_w hw 145 rfl)) (by decide) (backOf (W := 0) (rmA36 l Z a0 hw [] ob2 ob2_value k_ob2_value (ob2_value_z) ob0_value k_ob0_value ob0_value_l (p1)  cs wf h0 n0 O0 G0 E_ob2 F_ob2_coder V_ob2_value F_ob2_value V_ob0_value gz_ob0_value hi0 hz0 hcap hdp hl16) hZ (own_w hw 147 rfl) (own_w hw 3 rfl) (by decide) (by decide)) q4a q4c (g := (mkF m 15 #[.val (.ref ob0), .val (.int p1), .val (.ref ob2)] [(.int (0 : Int32)), (.int p1), (.ref ob0_value), (.ref ob2)])) rfl (by rw [hml]; rfl) (Steps.refl _) (argsL := [(.ref ob0_value), (.int p1), (.int (0 : Int32))]) (rest := []) (lenOf own_pd19 rfl) rfl (by show 2 * 0 + _ ≤ _; exact Nat.le_of_eq rfl) (hb hby own_d24_15) (fun _ _ => ⟨rfl, e3, (by decide : 0 + 0 ≤ _), (by decide : 0 + 0 ≤ _)⟩)
  dsimp only [Pt.U, Pt.locs, Pt.cells, Pt.slots] at X4 l4 y4 z4 st4 hQ4
  subst l4 y4 z4
  obtain ⟨rfl, Nq4, K4, sl4, Va4, hl4⟩ := hQ4
  have N4 := Fr.app N1 Nq4
  have g5 : ∀ t, Steps p.tables e below (T4.setTop (mkF m 18 #[.val (.ref ob0), .val (.int p1), .val (.ref ob2)] [])) t → Steps p.tables e below (s₁.setTop (entryFrame m #[(.ref ob0), (.int p1), (.ref ob2)] 3)) t := by
    intro t k
    refine g0 t ?_
    show Steps p.tables e below (s₁.setTop (mkF m 0 #[.val (.ref ob0), .val (.int p1), .val (.ref ob2)] [])) _
    refine XS.aloadN X0.here hx rfl (hb hby own_d24_0) rfl rfl ?_
    refine XS.aloadN X0.here hx rfl (hb hby own_d24_1) rfl rfl ?_
    refine st1.trans ?_
    refine XS.aloadN X1.here hx rfl (hb hby own_d24_5) rfl rfl ?_
    show Steps p.tables e below (T1.setTop (mkF m 6 #[.val (.ref ob0), .val (.int p1), .val (.ref ob2)] [(.ref ob2)])) _
    refine XS.aloadN X1.here hx rfl (hb hby own_d24_6) rfl rfl ?_
    refine st2 _ ?_
    refine XS.iloadN X2.here hx rfl (hb hby own_d24_10) rfl ?_
    refine XS.aloadN X2.here hx rfl (hb hby own_d24_11) rfl rfl ?_
    show Steps p.tables e below (T2.setTop (mkF m 12 #[.val (.ref ob0), .val (.int p1), .val (.ref ob2)] [(.ref ob0), (.int p1), (.ref ob0_value), (.ref ob2)])) _
    refine st3 _ ?_
    refine st4.trans ?_
    exact k
  obtain ⟨fs, hrt, hrun, hended, hW, hsame⟩ := X4.leave (v := none) (fun _ => rfl)
  refine ⟨_, _, g5 _ ?_, hrun, hended, _, _, rfl, ?_, ⟨_, rfl⟩, hW, hsame.mono (by decide) (by decide)⟩
  · show Steps p.tables e below (T4.setTop (mkF m 18 #[.val (.ref ob0), .val (.int p1), .val (.ref ob2)] [])) _
    exact X4.returnOut hx Bd.returns (hb hby own_d24_18) hrt
  · show own_Q_rmA35 Z ob0 ob0_value k_ob0_value ob0_value_l p1 ob2 ob2_value k_ob2_value ob2_value_z cs wf h0 n0 _ T4.heap _
    exact ⟨rfl, N4, (Keep.trans (Keep.refl h0 [ob0_value]) K4 (allS (Or.inl (List.mem_of_getElem? (i := 0) rfl)) all0)), _, Va4, hl4⟩
def own_Q_rmA33 (Z : State) (ob0 : Addr) (ob0_count : Int32) (ob0_value : Addr) (k_ob0_value : ClassId) (ob0_value_l : List Value) (ob1 : Addr) (ob1_value : Addr) (k_ob1_value : ClassId) (ob1_value_z : Int32)  (cs : Int32) (wf : Value) (h0 : Heap) (n0 : Nat) (v : Option Value) (h : Heap) (L : List Loc) : Prop := v = some (.ref ob0) ∧ Fr n0 L ∧ Keep h0 h [ob0, ob0_value] ∧ Fld Z h ob0 "java/lang/AbstractStringBuilder" "count" "I" (.int (ob0_count + ob1_value_z)) ∧ Fld Z h ob0 "java/lang/AbstractStringBuilder" "coder" "B" (.int (0 : Int32)) ∧ Fld Z h ob0 "java/lang/AbstractStringBuilder" "value" "[B" (.ref ob0_value) ∧ ∃ sl : List Value, Arv Z h ob0_value k_ob0_value .byte (16 : Int32) sl (.int (0 : Int32)) ∧ sl.length = 16
set_option maxRecDepth 65536 in
set_option maxHeartbeats 40000000 in
theorem rmA33 (l : Launch) (Z : State) (a0 : Array Value) (hw : ∀ d ∈ tables_1, d.before a0 Z = true) (ws : List Jvm.Cond) (ob0 : Addr) (ob0_count : Int32) (ob0_value : Addr) (k_ob0_value : ClassId) (ob0_value_l : List Value) (ob1 : Addr) (ob1_value : Addr) (k_ob1_value : ClassId) (ob1_value_z : Int32)  (cs : Int32) (wf : Value) (h0 : Heap) (n0 : Nat) (O0 : Old Z n0 h0) (G : own_Gl Z cs wf) (E_ob0 : Exa Z h0 ob0 "java/lang/StringBuilder") (F_ob0_coder : Fld Z h0 ob0 "java/lang/AbstractStringBuilder" "coder" "B" (.int (0 : Int32))) (F_ob0_count : Fld Z h0 ob0 "java/lang/AbstractStringBuilder" "count" "I" (.int ob0_count)) (V_ob0_value : Arv Z h0 ob0_value k_ob0_value .byte (16 : Int32) ob0_value_l (.int (0 : Int32))) (F_ob0_value : Fld Z h0 ob0 "java/lang/AbstractStringBuilder" "value" "[B" (.ref ob0_value)) (E_ob1 : Exa Z h0 ob1 "java/lang/String") (F_ob1_coder : Fld Z h0 ob1 "java/lang/String" "coder" "B" (.int (0 : Int32))) (V_ob1_value : Arv Z h0 ob1_value k_ob1_value .byte ob1_value_z [(.int (32 : Int32))] (.int (0 : Int32))) (F_ob1_value : Fld Z h0 ob1 "java/lang/String" "value" "[B" (.ref ob1_value)) (gz_ob0 : n0 ≤ ob0) (gz_ob0_value : n0 ≤ ob0_value) (hi0 : ¬ (ob0_count < (0 : Int32))) (hz0 : ¬ (ob1_value_z < (0 : Int32))) (hcap : ¬ ((0 : Int32) < ((ob0_count + ob1_value_z) - (16 : Int32)))) (hdp : (ob0_count).toNatClampNeg + (ob1_value_z).toNatClampNeg ≤ (16 : Int32).toNatClampNeg) (hl16 : ob0_value_l.length = 16) :
    MetFree l own_y18 (head1 (Jvm.Cond.code own_y18 jdk_68_method_22_code 3 (some (.object "java/lang/AbstractStringBuilder")) :: ws) ({ frames := 3, cells := 0, slots := 0, locals := 80 } : Room)) (fun a U => a = #[(.ref ob0), (.ref ob1)] ∧ Z.Warmed39 U.vm ∧ U.heap = h0) (fun _ _ _ _ _ => True) (fun _ U o U' => ∃ v L, o = .returned v ∧ own_Q_rmA33 Z ob0 ob0_count ob0_value k_ob0_value ob0_value_l ob1 ob1_value k_ob1_value ob1_value_z cs wf h0 n0 v U'.heap L ∧ FrameEnd U o U' L ({ frames := 3, cells := 0, slots := 0, locals := 80 } : Room).cells ({ frames := 3, cells := 0, slots := 0, locals := 80 } : Room).slots) := by
  refine MetFree.of_bodySF (plainFor_of_name own_pn7) hisR ?_
  intro p e s m args below meth c s₁ Bd hml0 hP hK
  obtain ⟨rfl, hZ, hh⟩ := hP
  have hx := Bd.exec
  have hby := Bd.bytes
  have hml : c.maxLocals = 3 := hml0
  have hown : s.vm.findClass "java/lang/AbstractStringBuilder" = some m.cls := findClass_of_methodNamed Bd.named
  have hnm := (name_of_methodNamed Bd.named Bd.method).1
  have X0 : Stand p l e ({ frames := 3, cells := 0, slots := 0, locals := 80 } : Room) s m #[(.ref ob0), (.ref ob1)] below meth c s₁ [] 0 0 := Stand.of_body Bd
  have e0 : s₁.heap = h0 := by rw [← hh, Bd.state]; rfl
  have N0 := Fr.nil n0
  have Z0 : n0 ≤ h0.size := O0.1 ▸ O0.2.1
  have g0 : ∀ t, Steps p.tables e below (s₁.setTop (mkF m 0 #[.val (.ref ob0), .val (.ref ob1), .unset] [])) t → Steps p.tables e below (s₁.setTop (entryFrame m #[(.ref ob0), (.ref ob1)] 3)) t := fun t k => castTop (own_ef15 m (ob0) (ob1)) k
  have G0 := G
  obtain ⟨S_CS, hcs, S_WF, hwf⟩ := G
  obtain ⟨cq1, kq1, q1a, q1b, q1c⟩ := isOf hZ e0 E_ob1
  obtain ⟨_, _, ⟨T1, L1, k1, n1⟩, -, X1, ⟨Lc1, hQ1, l1, y1, z1⟩, st1⟩ := X0.virtualBack hx (y := own_y19) (z := own_y19) hown (mvT hZ (own_w hw 115 rfl)) (mvT hZ (own_w hw 116 rfl)) (notFace_of_selects (args := #[]) (mvT hZ (own_w hw 118 rfl))) (mvT hZ (own_w hw 118 rfl)) (mvT hZ (own_w hw 117 rfl)) (by decide) (backOf (W := 0) (rmA34 l Z a0 hw [] ob1 ob1_value k_ob1_value (ob1_value_z)  cs wf h0 n0 O0 G0 E_ob1 F_ob1_coder V_ob1_value F_ob1_value  ) hZ (own_w hw 119 rfl) (own_w hw 3 rfl) (by decide) (by decide)) q1a q1c (g := (mkF m 10 #[.val (.ref ob0), .val (.ref ob1), .unset] [(.ref ob1)])) rfl (by rw [hml]; rfl) (Steps.refl _) (argsL := []) (rest := []) (lenOf own_pd17 rfl) rfl (by show 2 * 0 + _ ≤ _; exact Nat.le_of_eq rfl) (hb hby own_d20_10) (fun _ _ => ⟨rfl, e0, (by decide : 0 + 0 ≤ _), (by decide : 0 + 0 ≤ _)⟩)
  dsimp only [Pt.U, Pt.locs, Pt.cells, Pt.slots] at X1 l1 y1 z1 st1 hQ1
  subst l1 y1 z1
  obtain ⟨rfl, Nq1, e1⟩ := hQ1
  have N1 := Fr.app N0 Nq1
  obtain ⟨T2, X2, e2, st2⟩ := getF X1 hx hZ hown (host := "") (Or.inl (own_w hw 125 rfl)) Via.refl e1 F_ob0_count (g := (mkF m 16 #[.val (.ref ob0), .val (.ref ob1), .val (.int ob1_value_z)] [(.ref ob0), (.ref ob0)])) rfl rfl (hb hby own_d20_16)
  obtain ⟨cq3, q3, q3'⟩ := E_ob0.cell
  obtain ⟨_, _, ⟨T3, L3, k3, n3⟩, -, X3, ⟨Lc3, hQ3, l3, y3, z3⟩, st3⟩ := X2.privateBack hx (y := own_y21) hown (mvT hZ (own_w hw 127 rfl)) (mvT hZ (own_w hw 128 rfl)) (own_selSelf (mvT hZ (own_w hw 130 rfl)) (Cond.privateMethod_at (mvP hZ (own_w hw 129 rfl) (args := #[]))) (mvT hZ (own_w hw 128 rfl)) (by decide)) (Cond.privateMethod_at (mvP hZ (own_w hw 129 rfl) (args := #[]))) (mvT hZ (own_w hw 131 rfl)) (by decide) (backOf (W := 0) (rmA28 l Z a0 hw [] ob0 ob0_value k_ob0_value ob0_value_l ((ob0_count + ob1_value_z))  cs wf h0 n0 O0 G0 E_ob0 F_ob0_coder V_ob0_value F_ob0_value  hcap) hZ (own_w hw 131 rfl) (own_w hw 97 rfl) (by decide) (by decide)) (g := (mkF m 21 #[.val (.ref ob0), .val (.ref ob1), .val (.int ob1_value_z)] [(.int (ob0_count + ob1_value_z)), (.ref ob0)])) rfl (by rw [hml]; rfl) (Steps.refl _) (a := ob0) (by rw [e2]; exact q3) q3' (argsL := [(.int (ob0_count + ob1_value_z))]) (rest := []) (lenOf own_pd15 rfl) rfl (by show 2 * 0 + _ ≤ _; exact Nat.le_of_eq rfl) (hb hby own_d20_21) (fun _ _ => ⟨rfl, e2, (by decide : 0 + 0 ≤ _), (by decide : 0 + 0 ≤ _)⟩)
  dsimp only [Pt.U, Pt.locs, Pt.cells, Pt.slots] at X3 l3 y3 z3 st3 hQ3
  subst l3 y3 z3
  obtain ⟨rfl, Nq3, e3⟩ := hQ3
  have N3 := Fr.app N1 Nq3
  obtain ⟨T4, X4, e4, st4⟩ := getF X3 hx hZ hown (host := "") (Or.inl (own_w hw 125 rfl)) Via.refl e3 F_ob0_count (g := (mkF m 26 #[.val (.ref ob0), .val (.ref ob1), .val (.int ob1_value_z)] [(.ref ob0), (.ref ob0)])) rfl rfl (hb hby own_d20_26)
  obtain ⟨cq5, q5, q5'⟩ := E_ob0.cell
  obtain ⟨_, _, ⟨T5, L5, k5, n5⟩, -, X5, ⟨Lc5, hQ5, l5, y5, z5⟩, st5⟩ := X4.privateBack hx (y := own_y22) hown (mvT hZ (own_w hw 132 rfl)) (mvT hZ (own_w hw 133 rfl)) (own_selSelf (mvT hZ (own_w hw 135 rfl)) (Cond.privateMethod_at (mvP hZ (own_w hw 134 rfl) (args := #[]))) (mvT hZ (own_w hw 133 rfl)) (by decide)) (Cond.privateMethod_at (mvP hZ (own_w hw 134 rfl) (args := #[]))) (mvT hZ (own_w hw 136 rfl)) (by decide) (backOf (W := 0) (rmA35 l Z a0 hw [] ob0 ob0_value k_ob0_value ob0_value_l (ob0_count) ob1 ob1_value k_ob1_value (ob1_value_z)  cs wf h0 n0 O0 G0 E_ob0 F_ob0_coder V_ob0_value F_ob0_value E_ob1 F_ob1_coder V_ob1_value F_ob1_value gz_ob0_value hi0 hz0 hcap hdp hl16) hZ (own_w hw 136 rfl) (own_w hw 97 rfl) (by decide) (by decide)) (g := (mkF m 30 #[.val (.ref ob0), .val (.ref ob1), .val (.int ob1_value_z)] [(.ref ob1), (.int ob0_count), (.ref ob0)])) rfl (by rw [hml]; rfl) (Steps.refl _) (a := ob0) (by rw [e4]; exact q5) q5' (argsL := [(.int ob0_count), (.ref ob1)]) (rest := []) (lenOf own_pd20 rfl) rfl (by show 2 * 0 + _ ≤ _; exact Nat.le_of_eq rfl) (hb hby own_d20_30) (fun _ _ => ⟨rfl, e4, (by decide : 0 + 0 ≤ _), (by decide : 0 + 0 ≤ _)⟩)
  dsimp only [Pt.U, Pt.locs, Pt.cells, Pt.slots] at X5 l5 y5 z5 st5 hQ5
  subst l5 y5 z5
  obtain ⟨rfl, Nq5, K5, sl5, Va5, hl5⟩ := hQ5
  have N5 := Fr.app N3 Nq5
  have f6 := (F_ob0_count.keep K5 (ninS (Exa.neArv E_ob0 V_ob0_value (own_w hw 88 rfl)) nin0))
  obtain ⟨T7, X7, e7, st7⟩ := getF X5 hx hZ hown (host := "") (Or.inl (own_w hw 125 rfl)) Via.refl rfl f6 (g := (mkF m 35 #[.val (.ref ob0), .val (.ref ob1), .val (.int ob1_value_z)] [(.ref ob0), (.ref ob0)])) rfl rfl (hb hby own_d20_35)
  have f8 := (E_ob0.keep K5)
  obtain ⟨T9, h9, X9, e9, W9, st9⟩ := putF X7 hx hZ hown (host := "") (Or.inl (own_w hw 125 rfl)) Via.refl e7 f6 f8 (Or.inl (own_w hw 126 rfl)) (own_w hw 88 rfl) (ty := .int) (by decide) rfl rfl (g := (mkF m 40 #[.val (.ref ob0), .val (.ref ob1), .val (.int ob1_value_z)] [(.int (ob0_count + ob1_value_z)), (.ref ob0)])) rfl rfl (hb hby own_d20_40)
  have Fw9 := f6.same W9
  have N9 := Fr.snoc X9 N5 gz_ob0
  have g10 : ∀ t, Steps p.tables e below (T9.setTop (mkF m 44 #[.val (.ref ob0), .val (.ref ob1), .val (.int ob1_value_z)] [(.ref ob0)])) t → Steps p.tables e below (s₁.setTop (entryFrame m #[(.ref ob0), (.ref ob1)] 3)) t := by
    intro t k
    refine g0 t ?_
    show Steps p.tables e below (s₁.setTop (mkF m 0 #[.val (.ref ob0), .val (.ref ob1), .unset] [])) _
    refine XS.aloadN X0.here hx rfl (hb hby own_d20_0) rfl rfl ?_
    refine XS.ifnonnullYes X0.here hx rfl (pc0 := 1) (pc' := 9) rfl (hb hby own_d20_1) rfl (by decide) (by decide) ?_
    refine XS.aloadN X0.here hx rfl (hb hby own_d20_9) rfl rfl ?_
    refine st1.trans ?_
    rw [own_shr0]
    show Steps p.tables e below (T1.setTop (mkF m 13 #[.val (.ref ob0), .val (.ref ob1), .unset] [(.int ob1_value_z)])) _
    refine XS.istoreN X1.here hx rfl (hb hby own_d20_13) rfl (l' := #[.val (.ref ob0), .val (.ref ob1), .val (.int ob1_value_z)]) rfl ?_
    refine XS.aloadN X1.here hx rfl (hb hby own_d20_14) rfl rfl ?_
    refine XS.aloadN X1.here hx rfl (hb hby own_d20_15) rfl rfl ?_
    refine st2 _ ?_
    show Steps p.tables e below (T2.setTop (mkF m 19 #[.val (.ref ob0), .val (.ref ob1), .val (.int ob1_value_z)] [(.int ob0_count), (.ref ob0)])) _
    refine XS.iloadN X2.here hx rfl (hb hby own_d20_19) rfl ?_
    show Steps p.tables e below (T2.setTop (mkF m 20 #[.val (.ref ob0), .val (.ref ob1), .val (.int ob1_value_z)] [(.int ob1_value_z), (.int ob0_count), (.ref ob0)])) _
    refine XS.iadd X2.here hx rfl (hb hby own_d20_20) rfl ?_
    refine st3.trans ?_
    refine XS.aloadN X3.here hx rfl (hb hby own_d20_24) rfl rfl ?_
    show Steps p.tables e below (T3.setTop (mkF m 25 #[.val (.ref ob0), .val (.ref ob1), .val (.int ob1_value_z)] [(.ref ob0)])) _
    refine XS.aloadN X3.here hx rfl (hb hby own_d20_25) rfl rfl ?_
    refine st4 _ ?_
    refine XS.aloadN X4.here hx rfl (hb hby own_d20_29) rfl rfl ?_
    refine st5.trans ?_
    show Steps p.tables e below (T5.setTop (mkF m 33 #[.val (.ref ob0), .val (.ref ob1), .val (.int ob1_value_z)] [])) _
    refine XS.aloadN X5.here hx rfl (hb hby own_d20_33) rfl rfl ?_
    refine XS.dup X5.here hx rfl (hb hby own_d20_34) rfl rfl ?_
    refine st7 _ ?_
    refine XS.iloadN X7.here hx rfl (hb hby own_d20_38) rfl ?_
    show Steps p.tables e below (T7.setTop (mkF m 39 #[.val (.ref ob0), .val (.ref ob1), .val (.int ob1_value_z)] [(.int ob1_value_z), (.int ob0_count), (.ref ob0)])) _
    refine XS.iadd X7.here hx rfl (hb hby own_d20_39) rfl ?_
    refine st9 _ ?_
    refine XS.aloadN X9.here hx rfl (hb hby own_d20_43) rfl rfl ?_
    exact k
  obtain ⟨fs, hrt, hrun, hended, hW, hsame⟩ := X9.leave (v := some (.ref ob0)) (fun h => by rw [Bd.returns] at h; cases h)
  have f11 := ((F_ob0_coder.keep K5 (ninS (Exa.neArv E_ob0 V_ob0_value (own_w hw 88 rfl)) nin0)).other W9 (Or.inr (slot_ne (own_la6 hw) (own_la8 hw) (by decide) own_ty1 own_ty3)))
  have f12 := ((F_ob0_value.keep K5 (ninS (Exa.neArv E_ob0 V_ob0_value (own_w hw 88 rfl)) nin0)).other W9 (Or.inr (slot_ne (own_la7 hw) (own_la8 hw) (by decide) own_ty0 own_ty3)))
  have f13 := (Va5.other W9 (Ne.symm (Exa.neArv f8 Va5 (own_w hw 88 rfl))))
  refine ⟨_, _, g10 _ ?_, hrun, hended, _, _, rfl, ?_, ⟨_, rfl⟩, hW, hsame.mono (by decide) (by decide)⟩
  · show Steps p.tables e below (T9.setTop (mkF m 44 #[.val (.ref ob0), .val (.ref ob1), .val (.int ob1_value_z)] [(.ref ob0)])) _
    jvm_step X9.here [X9.here.top, hx, (hb hby own_d20_44), X9.method', Bd.returns, Value.isRef, FieldType.isReference]
    first | (intro acts; rw [hrt _ acts rfl rfl rfl]) | rw [hrt _ _ rfl rfl rfl]
    exact Steps.refl _
  · show own_Q_rmA33 Z ob0 ob0_count ob0_value k_ob0_value ob0_value_l ob1 ob1_value k_ob1_value ob1_value_z cs wf h0 n0 _ T9.heap _
    rw [e9]
    exact ⟨rfl, N9, (Keep.wr (Keep.trans (Keep.refl h0 [ob0, ob0_value]) K5 (allS (Or.inl (List.mem_of_getElem? (i := 1) rfl)) all0)) W9 (Or.inl (List.mem_of_getElem? (i := 0) rfl))), Fw9, f11, f12, _, f13, hl5⟩
def own_Q_rmA32 (Z : State) (ob0 : Addr) (ob0_count : Int32) (ob0_value : Addr) (k_ob0_value : ClassId) (ob0_value_l : List Value) (ob1 : Addr) (ob1_value : Addr) (k_ob1_value : ClassId) (ob1_value_z : Int32)  (cs : Int32) (wf : Value) (h0 : Heap) (n0 : Nat) (v : Option Value) (h : Heap) (L : List Loc) : Prop := v = some (.ref ob0) ∧ Fr n0 L ∧ Keep h0 h [ob0, ob0_value] ∧ Fld Z h ob0 "java/lang/AbstractStringBuilder" "count" "I" (.int (ob0_count + ob1_value_z)) ∧ Fld Z h ob0 "java/lang/AbstractStringBuilder" "coder" "B" (.int (0 : Int32)) ∧ Fld Z h ob0 "java/lang/AbstractStringBuilder" "value" "[B" (.ref ob0_value) ∧ ∃ sl : List Value, Arv Z h ob0_value k_ob0_value .byte (16 : Int32) sl (.int (0 : Int32)) ∧ sl.length = 16
set_option maxRecDepth 65536 in
set_option maxHeartbeats 40000000 in
theorem rmA32 (l : Launch) (Z : State) (a0 : Array Value) (hw : ∀ d ∈ tables_1, d.before a0 Z = true) (ws : List Jvm.Cond) (ob0 : Addr) (ob0_count : Int32) (ob0_value : Addr) (k_ob0_value : ClassId) (ob0_value_l : List Value) (ob1 : Addr) (ob1_value : Addr) (k_ob1_value : ClassId) (ob1_value_z : Int32)  (cs : Int32) (wf : Value) (h0 : Heap) (n0 : Nat) (O0 : Old Z n0 h0) (G : own_Gl Z cs wf) (E_ob0 : Exa Z h0 ob0 "java/lang/StringBuilder") (F_ob0_coder : Fld Z h0 ob0 "java/lang/AbstractStringBuilder" "coder" "B" (.int (0 : Int32))) (F_ob0_count : Fld Z h0 ob0 "java/lang/AbstractStringBuilder" "count" "I" (.int ob0_count)) (V_ob0_value : Arv Z h0 ob0_value k_ob0_value .byte (16 : Int32) ob0_value_l (.int (0 : Int32))) (F_ob0_value : Fld Z h0 ob0 "java/lang/AbstractStringBuilder" "value" "[B" (.ref ob0_value)) (E_ob1 : Exa Z h0 ob1 "java/lang/String") (F_ob1_coder : Fld Z h0 ob1 "java/lang/String" "coder" "B" (.int (0 : Int32))) (V_ob1_value : Arv Z h0 ob1_value k_ob1_value .byte ob1_value_z [(.int (32 : Int32))] (.int (0 : Int32))) (F_ob1_value : Fld Z h0 ob1 "java/lang/String" "value" "[B" (.ref ob1_value)) (gz_ob0 : n0 ≤ ob0) (gz_ob0_value : n0 ≤ ob0_value) (hi0 : ¬ (ob0_count < (0 : Int32))) (hz0 : ¬ (ob1_value_z < (0 : Int32))) (hcap : ¬ ((0 : Int32) < ((ob0_count + ob1_value_z) - (16 : Int32)))) (hdp : (ob0_count).toNatClampNeg + (ob1_value_z).toNatClampNeg ≤ (16 : Int32).toNatClampNeg) (hl16 : ob0_value_l.length = 16) :
    MetFree l own_y17 (head1 (Jvm.Cond.code own_y17 jdk_67_method_7_code 2 (some (.object "java/lang/StringBuilder")) :: ws) ({ frames := 4, cells := 0, slots := 0, locals := 94 } : Room)) (fun a U => a = #[(.ref ob0), (.ref ob1)] ∧ Z.Warmed39 U.vm ∧ U.heap = h0) (fun _ _ _ _ _ => True) (fun _ U o U' => ∃ v L, o = .returned v ∧ own_Q_rmA32 Z ob0 ob0_count ob0_value k_ob0_value ob0_value_l ob1 ob1_value k_ob1_value ob1_value_z cs wf h0 n0 v U'.heap L ∧ FrameEnd U o U' L ({ frames := 4, cells := 0, slots := 0, locals := 94 } : Room).cells ({ frames := 4, cells := 0, slots := 0, locals := 94 } : Room).slots) := by
  refine MetFree.of_bodySF (plainFor_of_name own_pn6) hisR ?_
  intro p e s m args below meth c s₁ Bd hml0 hP hK
  obtain ⟨rfl, hZ, hh⟩ := hP
  have hx := Bd.exec
  have hby := Bd.bytes
  have hml : c.maxLocals = 2 := hml0
  have hown : s.vm.findClass "java/lang/StringBuilder" = some m.cls := findClass_of_methodNamed Bd.named
  have hnm := (name_of_methodNamed Bd.named Bd.method).1
  have X0 : Stand p l e ({ frames := 4, cells := 0, slots := 0, locals := 94 } : Room) s m #[(.ref ob0), (.ref ob1)] below meth c s₁ [] 0 0 := Stand.of_body Bd
  have e0 : s₁.heap = h0 := by rw [← hh, Bd.state]; rfl
  have N0 := Fr.nil n0
  have Z0 : n0 ≤ h0.size := O0.1 ▸ O0.2.1
  have g0 : ∀ t, Steps p.tables e below (s₁.setTop (mkF m 0 #[.val (.ref ob0), .val (.ref ob1)] [])) t → Steps p.tables e below (s₁.setTop (entryFrame m #[(.ref ob0), (.ref ob1)] 2)) t := fun t k => castTop (own_ef2 m (ob0) (ob1)) k
  have G0 := G
  obtain ⟨S_CS, hcs, S_WF, hwf⟩ := G
  obtain ⟨_, _, ⟨T1, L1, k1, n1⟩, -, X1, ⟨Lc1, hQ1, l1, y1, z1⟩, st1⟩ := superBack X0 hx hZ (y := own_y18) hown (own_w hw 110 rfl) (own_same (own_w hw 130 rfl) rfl (own_w hw 111 rfl) (by decide)) (own_w hw 111 rfl) (own_w hw 112 rfl) (by decide) (backOf (W := 0) (rmA33 l Z a0 hw [] ob0 (ob0_count) ob0_value k_ob0_value ob0_value_l ob1 ob1_value k_ob1_value (ob1_value_z)  cs wf h0 n0 O0 G0 E_ob0 F_ob0_coder F_ob0_count V_ob0_value F_ob0_value E_ob1 F_ob1_coder V_ob1_value F_ob1_value gz_ob0 gz_ob0_value hi0 hz0 hcap hdp hl16) hZ (own_w hw 114 rfl) (own_w hw 97 rfl) (by decide) (by decide)) e0 (Ins.self E_ob0) (g := (mkF m 2 #[.val (.ref ob0), .val (.ref ob1)] [(.ref ob1), (.ref ob0)])) rfl (by rw [hml]; rfl) (own_w hw 114 rfl) (argsL := [(.ref ob1)]) (rest := []) (lenOf own_pd21 rfl) rfl (by show 2 * 0 + _ ≤ _; exact Nat.le_of_eq rfl) (hb hby own_d19_2) (fun _ _ => ⟨rfl, e0, (by decide : 0 + 0 ≤ _), (by decide : 0 + 0 ≤ _)⟩)
  dsimp only [Pt.U, Pt.locs, Pt.cells, Pt.slots] at X1 l1 y1 z1 st1 hQ1
  subst l1 y1 z1
  obtain ⟨rfl, Nq1, K1, Qn1, Qc1, Qv1, sl1, Va1, hl1⟩ := hQ1
  have N1 := Fr.app N0 Nq1
  have g2 : ∀ t, Steps p.tables e below (T1.setTop (mkF m 7 #[.val (.ref ob0), .val (.ref ob1)] [(.ref ob0)])) t → Steps p.tables e below (s₁.setTop (entryFrame m #[(.ref ob0), (.ref ob1)] 2)) t := by
    intro t k
    refine g0 t ?_
    show Steps p.tables e below (s₁.setTop (mkF m 0 #[.val (.ref ob0), .val (.ref ob1)] [])) _
    refine XS.aloadN X0.here hx rfl (hb hby own_d19_0) rfl rfl ?_
    refine XS.aloadN X0.here hx rfl (hb hby own_d19_1) rfl rfl ?_
    refine st1.trans ?_
    refine XS.pop X1.here hx rfl (hb hby own_d19_5) rfl rfl ?_
    show Steps p.tables e below (T1.setTop (mkF m 6 #[.val (.ref ob0), .val (.ref ob1)] [])) _
    refine XS.aloadN X1.here hx rfl (hb hby own_d19_6) rfl rfl ?_
    exact k
  obtain ⟨fs, hrt, hrun, hended, hW, hsame⟩ := X1.leave (v := some (.ref ob0)) (fun h => by rw [Bd.returns] at h; cases h)
  refine ⟨_, _, g2 _ ?_, hrun, hended, _, _, rfl, ?_, ⟨_, rfl⟩, hW, hsame.mono (by decide) (by decide)⟩
  · show Steps p.tables e below (T1.setTop (mkF m 7 #[.val (.ref ob0), .val (.ref ob1)] [(.ref ob0)])) _
    jvm_step X1.here [X1.here.top, hx, (hb hby own_d19_7), X1.method', Bd.returns, Value.isRef, FieldType.isReference]
    first | (intro acts; rw [hrt _ acts rfl rfl rfl]) | rw [hrt _ _ rfl rfl rfl]
    exact Steps.refl _
  · show own_Q_rmA32 Z ob0 ob0_count ob0_value k_ob0_value ob0_value_l ob1 ob1_value k_ob1_value ob1_value_z cs wf h0 n0 _ T1.heap _
    exact ⟨rfl, N1, (Keep.trans (Keep.refl h0 [ob0, ob0_value]) K1 (allS (Or.inl (List.mem_of_getElem? (i := 0) rfl)) (allS (Or.inl (List.mem_of_getElem? (i := 1) rfl)) all0))), Qn1, Qc1, Qv1, _, Va1, hl1⟩
theorem own_d14_33 : decode prog_13_method_4_code 33 = .ok (.aload_n 0, 1) := by decide +kernel
theorem own_d14_34 : decode prog_13_method_4_code 34 = .ok (.getfield 13, 3) := by decide +kernel
theorem own_d14_37 : decode prog_13_method_4_code 37 = .ok (.invokevirtual 28, 3) := by decide +kernel
theorem own_d14_40 : decode prog_13_method_4_code 40 = .ok (.invokevirtual 34, 3) := by decide +kernel
abbrev own_y25 : MethodName := ⟨"java/lang/StringBuilder", "toString", "()Ljava/lang/String;"⟩
theorem own_d27_0 : decode jdk_67_method_42_code 0 = .ok (.new 18, 3) := by decide +kernel
theorem own_d27_3 : decode jdk_67_method_42_code 3 = .ok (.dup, 1) := by decide +kernel
theorem own_d27_4 : decode jdk_67_method_42_code 4 = .ok (.aload_n 0, 1) := by decide +kernel
theorem own_d27_5 : decode jdk_67_method_42_code 5 = .ok (.invokespecial 137, 3) := by decide +kernel
abbrev own_y26 : MethodName := ⟨"java/lang/String", "<init>", "(Ljava/lang/StringBuilder;)V"⟩
theorem own_d28_0 : decode jdk_42_method_53_code 0 = .ok (.aload_n 0, 1) := by decide +kernel
theorem own_d28_1 : decode jdk_42_method_53_code 1 = .ok (.aload_n 1, 1) := by decide +kernel
theorem own_d28_2 : decode jdk_42_method_53_code 2 = .ok (.aconst_null, 1) := by decide +kernel
theorem own_d28_3 : decode jdk_42_method_53_code 3 = .ok (.invokespecial 489, 3) := by decide +kernel
abbrev own_y27 : MethodName := ⟨"java/lang/String", "<init>", "(Ljava/lang/AbstractStringBuilder;Ljava/lang/Void;)V"⟩
theorem own_ef41 (m : MethodId) (x0 : Addr) (x1 : Addr) : entryFrame m #[(.ref x0), (.ref x1), .null] 5 = mkF m 0 #[.val (.ref x0), .val (.ref x1), .val .null, .unset, .unset] [] := by first | (simp [entryFrame, mkF, argsToLocals, Value.category]; done) | rfl
theorem own_d29_0 : decode jdk_42_method_150_code 0 = .ok (.aload_n 0, 1) := by decide +kernel
theorem own_d29_1 : decode jdk_42_method_150_code 1 = .ok (.invokespecial 1, 3) := by decide +kernel
theorem own_d29_4 : decode jdk_42_method_150_code 4 = .ok (.aload_n 1, 1) := by decide +kernel
theorem own_d29_5 : decode jdk_42_method_150_code 5 = .ok (.invokevirtual 552, 3) := by decide +kernel
abbrev own_y28 : MethodName := ⟨"java/lang/AbstractStringBuilder", "getValue", "()[B"⟩
theorem own_d30_0 : decode jdk_68_method_64_code 0 = .ok (.aload_n 0, 1) := by decide +kernel
theorem own_d30_1 : decode jdk_68_method_64_code 1 = .ok (.getfield 15, 3) := by decide +kernel
theorem own_d30_4 : decode jdk_68_method_64_code 4 = .ok (.areturn, 1) := by decide +kernel
def own_Q_rmA40 (Z : State) (ob0 : Addr) (ob0_value : Addr)  (cs : Int32) (wf : Value) (h0 : Heap) (n0 : Nat) (v : Option Value) (h : Heap) (L : List Loc) : Prop := v = some (.ref ob0_value) ∧ Fr n0 L ∧ h = h0
set_option maxRecDepth 65536 in
set_option maxHeartbeats 40000000 in
theorem rmA40 (l : Launch) (Z : State) (a0 : Array Value) (hw : ∀ d ∈ tables_1, d.before a0 Z = true) (ws : List Jvm.Cond) (ob0 : Addr) (ob0_value : Addr)  (cs : Int32) (wf : Value) (h0 : Heap) (n0 : Nat) (O0 : Old Z n0 h0) (G : own_Gl Z cs wf) (E_ob0 : Exa Z h0 ob0 "java/lang/StringBuilder") (F_ob0_value : Fld Z h0 ob0 "java/lang/AbstractStringBuilder" "value" "[B" (.ref ob0_value)) :
    MetFree l own_y28 (head1 (Jvm.Cond.code own_y28 jdk_68_method_64_code 1 (some (.array .byte)) :: ws) ({ frames := 0, cells := 0, slots := 0, locals := 0 } : Room)) (fun a U => a = #[(.ref ob0)] ∧ Z.Warmed39 U.vm ∧ U.heap = h0) (fun _ _ _ _ _ => True) (fun _ U o U' => ∃ v L, o = .returned v ∧ own_Q_rmA40 Z ob0 ob0_value cs wf h0 n0 v U'.heap L ∧ FrameEnd U o U' L ({ frames := 0, cells := 0, slots := 0, locals := 0 } : Room).cells ({ frames := 0, cells := 0, slots := 0, locals := 0 } : Room).slots) := by
  refine MetFree.of_bodySF (plainFor_of_name own_pn7) hisR ?_
  intro p e s m args below meth c s₁ Bd hml0 hP hK
  obtain ⟨rfl, hZ, hh⟩ := hP
  have hx := Bd.exec
  have hby := Bd.bytes
  have hml : c.maxLocals = 1 := hml0
  have hown : s.vm.findClass "java/lang/AbstractStringBuilder" = some m.cls := findClass_of_methodNamed Bd.named
  have hnm := (name_of_methodNamed Bd.named Bd.method).1
  have X0 : Stand p l e ({ frames := 0, cells := 0, slots := 0, locals := 0 } : Room) s m #[(.ref ob0)] below meth c s₁ [] 0 0 := Stand.of_body Bd
  have e0 : s₁.heap = h0 := by rw [← hh, Bd.state]; rfl
  have N0 := Fr.nil n0
  have Z0 : n0 ≤ h0.size := O0.1 ▸ O0.2.1
  have g0 : ∀ t, Steps p.tables e below (s₁.setTop (mkF m 0 #[.val (.ref ob0)] [])) t → Steps p.tables e below (s₁.setTop (entryFrame m #[(.ref ob0)] 1)) t := fun t k => castTop (own_ef12 m (ob0)) k
  have G0 := G
  obtain ⟨S_CS, hcs, S_WF, hwf⟩ := G
  obtain ⟨T1, X1, e1, st1⟩ := getF X0 hx hZ hown (host := "") (Or.inl (own_w hw 101 rfl)) Via.refl e0 F_ob0_value (g := (mkF m 1 #[.val (.ref ob0)] [(.ref ob0)])) rfl rfl (hb hby own_d30_1)
  have g2 : ∀ t, Steps p.tables e below (T1.setTop (mkF m 4 #[.val (.ref ob0)] [(.ref ob0_value)])) t → Steps p.tables e below (s₁.setTop (entryFrame m #[(.ref ob0)] 1)) t := by
    intro t k
    refine g0 t ?_
    show Steps p.tables e below (s₁.setTop (mkF m 0 #[.val (.ref ob0)] [])) _
    refine XS.aloadN X0.here hx rfl (hb hby own_d30_0) rfl rfl ?_
    refine st1 _ ?_
    exact k
  obtain ⟨fs, hrt, hrun, hended, hW, hsame⟩ := X1.leave (v := some (.ref ob0_value)) (fun h => by rw [Bd.returns] at h; cases h)
  refine ⟨_, _, g2 _ ?_, hrun, hended, _, _, rfl, ?_, ⟨_, rfl⟩, hW, hsame.mono (by decide) (by decide)⟩
  · show Steps p.tables e below (T1.setTop (mkF m 4 #[.val (.ref ob0)] [(.ref ob0_value)])) _
    jvm_step X1.here [X1.here.top, hx, (hb hby own_d30_4), X1.method', Bd.returns, Value.isRef, FieldType.isReference]
    first | (intro acts; rw [hrt _ acts rfl rfl rfl]) | rw [hrt _ _ rfl rfl rfl]
    exact Steps.refl _
  · show own_Q_rmA40 Z ob0 ob0_value cs wf h0 n0 _ T1.heap _
    rw [e1]
    exact ⟨rfl, N0, rfl⟩
theorem own_pd23 : parseMethodDescriptor "()[B" = some ⟨[], some (.array .byte)⟩ := by decide +kernel
theorem own_d29_8 : decode jdk_42_method_150_code 8 = .ok (.astore_n 3, 1) := by decide +kernel
theorem own_d29_9 : decode jdk_42_method_150_code 9 = .ok (.aload_n 1, 1) := by decide +kernel
theorem own_d29_10 : decode jdk_42_method_150_code 10 = .ok (.invokevirtual 549, 3) := by decide +kernel
abbrev own_y29 : MethodName := ⟨"java/lang/StringBuilder", "length", "()I"⟩
theorem own_d31_0 : decode jdk_67_method_93_code 0 = .ok (.aload_n 0, 1) := by decide +kernel
theorem own_d31_1 : decode jdk_67_method_93_code 1 = .ok (.invokespecial 343, 3) := by decide +kernel
abbrev own_y30 : MethodName := ⟨"java/lang/AbstractStringBuilder", "length", "()I"⟩
theorem own_d32_0 : decode jdk_68_method_6_code 0 = .ok (.aload_n 0, 1) := by decide +kernel
theorem own_d32_1 : decode jdk_68_method_6_code 1 = .ok (.getfield 79, 3) := by decide +kernel
theorem own_d32_4 : decode jdk_68_method_6_code 4 = .ok (.ireturn, 1) := by decide +kernel
def own_Q_rmA42 (Z : State) (ob0 : Addr) (ob0_count : Int32)  (cs : Int32) (wf : Value) (h0 : Heap) (n0 : Nat) (v : Option Value) (h : Heap) (L : List Loc) : Prop := v = some (.int ob0_count) ∧ Fr n0 L ∧ h = h0
set_option maxRecDepth 65536 in
set_option maxHeartbeats 40000000 in
theorem rmA42 (l : Launch) (Z : State) (a0 : Array Value) (hw : ∀ d ∈ tables_1, d.before a0 Z = true) (ws : List Jvm.Cond) (ob0 : Addr) (ob0_count : Int32)  (cs : Int32) (wf : Value) (h0 : Heap) (n0 : Nat) (O0 : Old Z n0 h0) (G : own_Gl Z cs wf) (E_ob0 : Exa Z h0 ob0 "java/lang/StringBuilder") (F_ob0_count : Fld Z h0 ob0 "java/lang/AbstractStringBuilder" "count" "I" (.int ob0_count)) :
    MetFree l own_y30 (head1 (Jvm.Cond.code own_y30 jdk_68_method_6_code 1 (some .int) :: ws) ({ frames := 0, cells := 0, slots := 0, locals := 0 } : Room)) (fun a U => a = #[(.ref ob0)] ∧ Z.Warmed39 U.vm ∧ U.heap = h0) (fun _ _ _ _ _ => True) (fun _ U o U' => ∃ v L, o = .returned v ∧ own_Q_rmA42 Z ob0 ob0_count cs wf h0 n0 v U'.heap L ∧ FrameEnd U o U' L ({ frames := 0, cells := 0, slots := 0, locals := 0 } : Room).cells ({ frames := 0, cells := 0, slots := 0, locals := 0 } : Room).slots) := by
  refine MetFree.of_bodySF (plainFor_of_name own_pn7) hisR ?_
  intro p e s m args below meth c s₁ Bd hml0 hP hK
  obtain ⟨rfl, hZ, hh⟩ := hP
  have hx := Bd.exec
  have hby := Bd.bytes
  have hml : c.maxLocals = 1 := hml0
  have hown : s.vm.findClass "java/lang/AbstractStringBuilder" = some m.cls := findClass_of_methodNamed Bd.named
  have hnm := (name_of_methodNamed Bd.named Bd.method).1
  have X0 : Stand p l e ({ frames := 0, cells := 0, slots := 0, locals := 0 } : Room) s m #[(.ref ob0)] below meth c s₁ [] 0 0 := Stand.of_body Bd
  have e0 : s₁.heap = h0 := by rw [← hh, Bd.state]; rfl
  have N0 := Fr.nil n0
  have Z0 : n0 ≤ h0.size := O0.1 ▸ O0.2.1
  have g0 : ∀ t, Steps p.tables e below (s₁.setTop (mkF m 0 #[.val (.ref ob0)] [])) t → Steps p.tables e below (s₁.setTop (entryFrame m #[(.ref ob0)] 1)) t := fun t k => castTop (own_ef12 m (ob0)) k
  have G0 := G
  obtain ⟨S_CS, hcs, S_WF, hwf⟩ := G
  obtain ⟨T1, X1, e1, st1⟩ := getF X0 hx hZ hown (host := "") (Or.inl (own_w hw 125 rfl)) Via.refl e0 F_ob0_count (g := (mkF m 1 #[.val (.ref ob0)] [(.ref ob0)])) rfl rfl (hb hby own_d32_1)
  have g2 : ∀ t, Steps p.tables e below (T1.setTop (mkF m 4 #[.val (.ref ob0)] [(.int ob0_count)])) t → Steps p.tables e below (s₁.setTop (entryFrame m #[(.ref ob0)] 1)) t := by
    intro t k
    refine g0 t ?_
    show Steps p.tables e below (s₁.setTop (mkF m 0 #[.val (.ref ob0)] [])) _
    refine XS.aloadN X0.here hx rfl (hb hby own_d32_0) rfl rfl ?_
    refine st1 _ ?_
    exact k
  obtain ⟨fs, hrt, hrun, hended, hW, hsame⟩ := X1.leave (v := some (.int ob0_count)) (fun h => by rw [Bd.returns] at h; cases h)
  refine ⟨_, _, g2 _ ?_, hrun, hended, _, _, rfl, ?_, ⟨_, rfl⟩, hW, hsame.mono (by decide) (by decide)⟩
  · show Steps p.tables e below (T1.setTop (mkF m 4 #[.val (.ref ob0)] [(.int ob0_count)])) _
    exact retI X1 hx Bd.returns (hb hby own_d32_4) hrt
  · show own_Q_rmA42 Z ob0 ob0_count cs wf h0 n0 _ T1.heap _
    rw [e1]
    exact ⟨rfl, N0, rfl⟩
theorem own_d31_4 : decode jdk_67_method_93_code 4 = .ok (.ireturn, 1) := by decide +kernel
def own_Q_rmA41 (Z : State) (ob0 : Addr) (ob0_count : Int32)  (cs : Int32) (wf : Value) (h0 : Heap) (n0 : Nat) (v : Option Value) (h : Heap) (L : List Loc) : Prop := v = some (.int ob0_count) ∧ Fr n0 L ∧ h = h0
set_option maxRecDepth 65536 in
set_option maxHeartbeats 40000000 in
theorem rmA41 (l : Launch) (Z : State) (a0 : Array Value) (hw : ∀ d ∈ tables_1, d.before a0 Z = true) (ws : List Jvm.Cond) (ob0 : Addr) (ob0_count : Int32)  (cs : Int32) (wf : Value) (h0 : Heap) (n0 : Nat) (O0 : Old Z n0 h0) (G : own_Gl Z cs wf) (E_ob0 : Exa Z h0 ob0 "java/lang/StringBuilder") (F_ob0_count : Fld Z h0 ob0 "java/lang/AbstractStringBuilder" "count" "I" (.int ob0_count)) :
    MetFree l own_y29 (head1 (Jvm.Cond.code own_y29 jdk_67_method_93_code 1 (some .int) :: ws) ({ frames := 1, cells := 0, slots := 0, locals := 12 } : Room)) (fun a U => a = #[(.ref ob0)] ∧ Z.Warmed39 U.vm ∧ U.heap = h0) (fun _ _ _ _ _ => True) (fun _ U o U' => ∃ v L, o = .returned v ∧ own_Q_rmA41 Z ob0 ob0_count cs wf h0 n0 v U'.heap L ∧ FrameEnd U o U' L ({ frames := 1, cells := 0, slots := 0, locals := 12 } : Room).cells ({ frames := 1, cells := 0, slots := 0, locals := 12 } : Room).slots) := by
  refine MetFree.of_bodySF (plainFor_of_name own_pn6) hisR ?_
  intro p e s m args below meth c s₁ Bd hml0 hP hK
  obtain ⟨rfl, hZ, hh⟩ := hP
  have hx := Bd.exec
  have hby := Bd.bytes
  have hml : c.maxLocals = 1 := hml0
  have hown : s.vm.findClass "java/lang/StringBuilder" = some m.cls := findClass_of_methodNamed Bd.named
  have hnm := (name_of_methodNamed Bd.named Bd.method).1
  have X0 : Stand p l e ({ frames := 1, cells := 0, slots := 0, locals := 12 } : Room) s m #[(.ref ob0)] below meth c s₁ [] 0 0 := Stand.of_body Bd
  have e0 : s₁.heap = h0 := by rw [← hh, Bd.state]; rfl
  have N0 := Fr.nil n0
  have Z0 : n0 ≤ h0.size := O0.1 ▸ O0.2.1
  have g0 : ∀ t, Steps p.tables e below (s₁.setTop (mkF m 0 #[.val (.ref ob0)] [])) t → Steps p.tables e below (s₁.setTop (entryFrame m #[(.ref ob0)] 1)) t := fun t k => castTop (own_ef12 m (ob0)) k
  have G0 := G
  obtain ⟨S_CS, hcs, S_WF, hwf⟩ := G
  obtain ⟨_, _, ⟨T1, L1, k1, n1⟩, -, X1, ⟨Lc1, hQ1, l1, y1, z1⟩, st1⟩ := superBack X0 hx hZ (y := own_y30) hown (own_w hw 176 rfl) (own_same (own_w hw 130 rfl) rfl (own_w hw 172 rfl) (by decide)) (own_w hw 172 rfl) (own_w hw 112 rfl) (by decide) (backOf (W := 0) (rmA42 l Z a0 hw [] ob0 (ob0_count)  cs wf h0 n0 O0 G0 E_ob0 F_ob0_count  ) hZ (own_w hw 177 rfl) (own_w hw 97 rfl) (by decide) (by decide)) e0 (Ins.self E_ob0) (g := (mkF m 1 #[.val (.ref ob0)] [(.ref ob0)])) rfl (by rw [hml]; rfl) (own_w hw 177 rfl) (argsL := []) (rest := []) (lenOf own_pd17 rfl) rfl (by show 2 * 0 + _ ≤ _; exact Nat.le_of_eq rfl) (hb hby own_d31_1) (fun _ _ => ⟨rfl, e0, (by decide : 0 + 0 ≤ _), (by decide : 0 + 0 ≤ _)⟩)
  dsimp only [Pt.U, Pt.locs, Pt.cells, Pt.slots] at X1 l1 y1 z1 st1 hQ1
  subst l1 y1 z1
  obtain ⟨rfl, Nq1, e1⟩ := hQ1
  have N1 := Fr.app N0 Nq1
  have g2 : ∀ t, Steps p.tables e below (T1.setTop (mkF m 4 #[.val (.ref ob0)] [(.int ob0_count)])) t → Steps p.tables e below (s₁.setTop (entryFrame m #[(.ref ob0)] 1)) t := by
    intro t k
    refine g0 t ?_
    show Steps p.tables e below (s₁.setTop (mkF m 0 #[.val (.ref ob0)] [])) _
    refine XS.aloadN X0.here hx rfl (hb hby own_d31_0) rfl rfl ?_
    refine st1.trans ?_
    exact k
  obtain ⟨fs, hrt, hrun, hended, hW, hsame⟩ := X1.leave (v := some (.int ob0_count)) (fun h => by rw [Bd.returns] at h; cases h)
  refine ⟨_, _, g2 _ ?_, hrun, hended, _, _, rfl, ?_, ⟨_, rfl⟩, hW, hsame.mono (by decide) (by decide)⟩
  · show Steps p.tables e below (T1.setTop (mkF m 4 #[.val (.ref ob0)] [(.int ob0_count)])) _
    exact retI X1 hx Bd.returns (hb hby own_d31_4) hrt
  · show own_Q_rmA41 Z ob0 ob0_count cs wf h0 n0 _ T1.heap _
    rw [e1]
    exact ⟨rfl, N1, rfl⟩
theorem own_d29_13 : decode jdk_42_method_150_code 13 = .ok (.istore 4, 2) := by decide +kernel
theorem own_d29_15 : decode jdk_42_method_150_code 15 = .ok (.aload_n 1, 1) := by decide +kernel
theorem own_d29_16 : decode jdk_42_method_150_code 16 = .ok (.invokevirtual 1047, 3) := by decide +kernel
abbrev own_y31 : MethodName := ⟨"java/lang/AbstractStringBuilder", "isLatin1", "()Z"⟩
theorem own_d33_0 : decode jdk_68_method_68_code 0 = .ok (.getstatic 18, 3) := by decide +kernel
theorem own_d33_3 : decode jdk_68_method_68_code 3 = .ok (.ifCond .eq 14, 3) := by decide +kernel
theorem own_d33_6 : decode jdk_68_method_68_code 6 = .ok (.aload_n 0, 1) := by decide +kernel
theorem own_d33_7 : decode jdk_68_method_68_code 7 = .ok (.getfield 22, 3) := by decide +kernel
theorem own_d33_10 : decode jdk_68_method_68_code 10 = .ok (.ifCond .ne 7, 3) := by decide +kernel
theorem own_d33_13 : decode jdk_68_method_68_code 13 = .ok (.iconst 1, 1) := by decide +kernel
theorem own_d33_14 : decode jdk_68_method_68_code 14 = .ok (.goto 4, 3) := by decide +kernel
theorem own_d33_18 : decode jdk_68_method_68_code 18 = .ok (.ireturn, 1) := by decide +kernel
def own_Q_rmA43 (Z : State) (ob0 : Addr)  (cs : Int32) (wf : Value) (h0 : Heap) (n0 : Nat) (v : Option Value) (h : Heap) (L : List Loc) : Prop := v = some (.int (1 : Int32)) ∧ Fr n0 L ∧ h = h0
set_option maxRecDepth 65536 in
set_option maxHeartbeats 40000000 in
theorem rmA43 (l : Launch) (Z : State) (a0 : Array Value) (hw : ∀ d ∈ tables_1, d.before a0 Z = true) (ws : List Jvm.Cond) (ob0 : Addr)  (cs : Int32) (wf : Value) (h0 : Heap) (n0 : Nat) (O0 : Old Z n0 h0) (G : own_Gl Z cs wf) (E_ob0 : Exa Z h0 ob0 "java/lang/StringBuilder") (F_ob0_coder : Fld Z h0 ob0 "java/lang/AbstractStringBuilder" "coder" "B" (.int (0 : Int32))) :
    MetFree l own_y31 (head1 (Jvm.Cond.code own_y31 jdk_68_method_68_code 1 (some .boolean) :: ws) ({ frames := 0, cells := 0, slots := 0, locals := 0 } : Room)) (fun a U => a = #[(.ref ob0)] ∧ Z.Warmed39 U.vm ∧ U.heap = h0) (fun _ _ _ _ _ => True) (fun _ U o U' => ∃ v L, o = .returned v ∧ own_Q_rmA43 Z ob0 cs wf h0 n0 v U'.heap L ∧ FrameEnd U o U' L ({ frames := 0, cells := 0, slots := 0, locals := 0 } : Room).cells ({ frames := 0, cells := 0, slots := 0, locals := 0 } : Room).slots) := by
  refine MetFree.of_bodySF (plainFor_of_name own_pn7) hisR ?_
  intro p e s m args below meth c s₁ Bd hml0 hP hK
  obtain ⟨rfl, hZ, hh⟩ := hP
  have hx := Bd.exec
  have hby := Bd.bytes
  have hml : c.maxLocals = 1 := hml0
  have hown : s.vm.findClass "java/lang/AbstractStringBuilder" = some m.cls := findClass_of_methodNamed Bd.named
  have hnm := (name_of_methodNamed Bd.named Bd.method).1
  have X0 : Stand p l e ({ frames := 0, cells := 0, slots := 0, locals := 0 } : Room) s m #[(.ref ob0)] below meth c s₁ [] 0 0 := Stand.of_body Bd
  have e0 : s₁.heap = h0 := by rw [← hh, Bd.state]; rfl
  have N0 := Fr.nil n0
  have Z0 : n0 ≤ h0.size := O0.1 ▸ O0.2.1
  have g0 : ∀ t, Steps p.tables e below (s₁.setTop (mkF m 0 #[.val (.ref ob0)] [])) t → Steps p.tables e below (s₁.setTop (entryFrame m #[(.ref ob0)] 1)) t := fun t k => castTop (own_ef12 m (ob0)) k
  have G0 := G
  obtain ⟨S_CS, hcs, S_WF, hwf⟩ := G
  obtain ⟨T1, X1, e1, st1⟩ := getS2 X0 hx hZ hown (host := "") (Or.inl (own_w hw 100 rfl)) Via.refl e0 (S_CS.ext O0.2) (g := (mkF m 0 #[.val (.ref ob0)] [])) rfl (hb hby own_d33_0)
  have hc2 : ¬ (cs = (0 : Int32)) := hcs
  obtain ⟨T3, X3, e3, st3⟩ := getF X1 hx hZ hown (host := "") (Or.inl (own_w hw 103 rfl)) Via.refl e1 F_ob0_coder (g := (mkF m 7 #[.val (.ref ob0)] [(.ref ob0)])) rfl rfl (hb hby own_d33_7)
  have g4 : ∀ t, Steps p.tables e below (T3.setTop (mkF m 18 #[.val (.ref ob0)] [(.int (1 : Int32))])) t → Steps p.tables e below (s₁.setTop (entryFrame m #[(.ref ob0)] 1)) t := by
    intro t k
    refine g0 t ?_
    show Steps p.tables e below (s₁.setTop (mkF m 0 #[.val (.ref ob0)] [])) _
    refine st1 _ ?_
    refine XS.ifNo X1.here hx rfl (hb hby own_d33_3) rfl ((if0 _ _).trans (feq hc2).1) ?_
    refine XS.aloadN X1.here hx rfl (hb hby own_d33_6) rfl rfl ?_
    refine st3 _ ?_
    show Steps p.tables e below (T3.setTop (mkF m 10 #[.val (.ref ob0)] [(.int (0 : Int32))])) _
    refine XS.ifNo X3.here hx rfl (hb hby own_d33_10) rfl ((if0 _ _).trans (teq (by decide : (0 : Int32) = (0 : Int32))).2) ?_
    refine XS.iconst X3.here hx rfl (hb hby own_d33_13) ?_
    refine XS.goto X3.here hx rfl (pc0 := 14) (pc' := 18) rfl (hb hby own_d33_14) (by decide) (by decide) ?_
    exact k
  obtain ⟨fs, hrt, hrun, hended, hW, hsame⟩ := X3.leave (v := some (.int (1 : Int32))) (fun h => by rw [Bd.returns] at h; cases h)
  refine ⟨_, _, g4 _ ?_, hrun, hended, _, _, rfl, ?_, ⟨_, rfl⟩, hW, hsame.mono (by decide) (by decide)⟩
  · show Steps p.tables e below (T3.setTop (mkF m 18 #[.val (.ref ob0)] [(.int (1 : Int32))])) _
    exact retN X3 hx (t := .boolean) Bd.returns (by simp) (hb hby own_d33_18) hrt
  · show own_Q_rmA43 Z ob0 cs wf h0 n0 _ T3.heap _
    rw [e3]
    exact ⟨rfl, N0, rfl⟩
theorem own_d29_19 : decode jdk_42_method_150_code 19 = .ok (.ifCond .eq 22, 3) := by decide +kernel
theorem own_d29_22 : decode jdk_42_method_150_code 22 = .ok (.aload_n 0, 1) := by decide +kernel
theorem own_d29_23 : decode jdk_42_method_150_code 23 = .ok (.iconst 0, 1) := by decide +kernel
theorem own_d29_24 : decode jdk_42_method_150_code 24 = .ok (.putfield 15, 3) := by decide +kernel
theorem own_d29_27 : decode jdk_42_method_150_code 27 = .ok (.aload_n 0, 1) := by decide +kernel
theorem own_d29_28 : decode jdk_42_method_150_code 28 = .ok (.aload_n 3, 1) := by decide +kernel
theorem own_d29_29 : decode jdk_42_method_150_code 29 = .ok (.iconst 0, 1) := by decide +kernel
theorem own_d29_30 : decode jdk_42_method_150_code 30 = .ok (.iload 4, 2) := by decide +kernel
theorem own_d29_32 : decode jdk_42_method_150_code 32 = .ok (.invokestatic 54, 3) := by decide +kernel
abbrev own_y32 : MethodName := ⟨"java/util/Arrays", "copyOfRange", "([BII)[B"⟩
theorem own_ef46 (m : MethodId) (x0 : Addr) (x1 : Int32) (x2 : Int32) : entryFrame m #[(.ref x0), (.int x1), (.int x2)] 3 = mkF m 0 #[.val (.ref x0), .val (.int x1), .val (.int x2)] [] := by first | (simp [entryFrame, mkF, argsToLocals, Value.category]; done) | rfl
theorem own_pn8 : plainName "java/util/Arrays" = true := by first | (simp [plainName, overriddenIn]; done) | decide +kernel
theorem own_d34_0 : decode jdk_65_method_132_code 0 = .ok (.iload_n 1, 1) := by decide +kernel
theorem own_d34_1 : decode jdk_65_method_132_code 1 = .ok (.ifCond .ne 9, 3) := by decide +kernel
theorem own_d34_4 : decode jdk_65_method_132_code 4 = .ok (.iload_n 2, 1) := by decide +kernel
theorem own_d34_5 : decode jdk_65_method_132_code 5 = .ok (.aload_n 0, 1) := by decide +kernel
theorem own_d34_6 : decode jdk_65_method_132_code 6 = .ok (.arraylength, 1) := by decide +kernel
theorem own_d34_7 : decode jdk_65_method_132_code 7 = .ok (.if_icmp .eq 10, 3) := by decide +kernel
theorem own_d34_10 : decode jdk_65_method_132_code 10 = .ok (.aload_n 0, 1) := by decide +kernel
theorem own_d34_11 : decode jdk_65_method_132_code 11 = .ok (.iload_n 1, 1) := by decide +kernel
theorem own_d34_12 : decode jdk_65_method_132_code 12 = .ok (.iload_n 2, 1) := by decide +kernel
theorem own_d34_13 : decode jdk_65_method_132_code 13 = .ok (.invokestatic 339, 3) := by decide +kernel
abbrev own_y33 : MethodName := ⟨"java/util/Arrays", "copyOfRangeByte", "([BII)[B"⟩
theorem own_ef47 (m : MethodId) (x0 : Addr) (x1 : Int32) (x2 : Int32) : entryFrame m #[(.ref x0), (.int x1), (.int x2)] 5 = mkF m 0 #[.val (.ref x0), .val (.int x1), .val (.int x2), .unset, .unset] [] := by first | (simp [entryFrame, mkF, argsToLocals, Value.category]; done) | rfl
theorem own_d35_0 : decode jdk_65_method_133_code 0 = .ok (.iload_n 1, 1) := by decide +kernel
theorem own_d35_1 : decode jdk_65_method_133_code 1 = .ok (.iload_n 2, 1) := by decide +kernel
theorem own_d35_2 : decode jdk_65_method_133_code 2 = .ok (.invokestatic 343, 3) := by decide +kernel
abbrev own_y34 : MethodName := ⟨"java/util/Arrays", "checkLength", "(II)V"⟩
theorem own_ef48 (m : MethodId) (x0 : Int32) (x1 : Int32) : entryFrame m #[(.int x0), (.int x1)] 2 = mkF m 0 #[.val (.int x0), .val (.int x1)] [] := by first | (simp [entryFrame, mkF, argsToLocals, Value.category]; done) | rfl
theorem own_d36_0 : decode jdk_65_method_131_code 0 = .ok (.iload_n 1, 1) := by decide +kernel
theorem own_d36_1 : decode jdk_65_method_131_code 1 = .ok (.iload_n 0, 1) := by decide +kernel
theorem own_d36_2 : decode jdk_65_method_131_code 2 = .ok (.if_icmp .ge 35, 3) := by decide +kernel
theorem own_d36_37 : decode jdk_65_method_131_code 37 = .ok (.return_, 1) := by decide +kernel
def own_Q_rmA46 (Z : State) (p1 : Int32)  (cs : Int32) (wf : Value) (h0 : Heap) (n0 : Nat) (v : Option Value) (h : Heap) (L : List Loc) : Prop := v = none ∧ Fr n0 L ∧ h = h0
set_option maxRecDepth 65536 in
set_option maxHeartbeats 40000000 in
theorem rmA46 (l : Launch) (Z : State) (a0 : Array Value) (hw : ∀ d ∈ tables_1, d.before a0 Z = true) (ws : List Jvm.Cond) (p1 : Int32)  (cs : Int32) (wf : Value) (h0 : Heap) (n0 : Nat) (O0 : Old Z n0 h0) (G : own_Gl Z cs wf) (hn0 : ¬ (p1 < (0 : Int32))) :
    MetFree l own_y34 (head1 (Jvm.Cond.code own_y34 jdk_65_method_131_code 2 none :: ws) ({ frames := 0, cells := 0, slots := 0, locals := 0 } : Room)) (fun a U => a = #[(.int (0 : Int32)), (.int p1)] ∧ Z.Warmed39 U.vm ∧ U.heap = h0) (fun _ _ _ _ _ => True) (fun _ U o U' => ∃ v L, o = .returned v ∧ own_Q_rmA46 Z p1 cs wf h0 n0 v U'.heap L ∧ FrameEnd U o U' L ({ frames := 0, cells := 0, slots := 0, locals := 0 } : Room).cells ({ frames := 0, cells := 0, slots := 0, locals := 0 } : Room).slots) := by
  refine MetFree.of_bodySF (plainFor_of_name own_pn8) hisR ?_
  intro p e s m args below meth c s₁ Bd hml0 hP hK
  obtain ⟨rfl, hZ, hh⟩ := hP
  have hx := Bd.exec
  have hby := Bd.bytes
  have hml : c.maxLocals = 2 := hml0
  have hown : s.vm.findClass "java/util/Arrays" = some m.cls := findClass_of_methodNamed Bd.named
  have hnm := (name_of_methodNamed Bd.named Bd.method).1
  have X0 : Stand p l e ({ frames := 0, cells := 0, slots := 0, locals := 0 } : Room) s m #[(.int (0 : Int32)), (.int p1)] below meth c s₁ [] 0 0 := Stand.of_body Bd
  have e0 : s₁.heap = h0 := by rw [← hh, Bd.state]; rfl
  have N0 := Fr.nil n0
  have Z0 : n0 ≤ h0.size := O0.1 ▸ O0.2.1
  have g0 : ∀ t, Steps p.tables e below (s₁.setTop (mkF m 0 #[.val (.int (0 : Int32)), .val (.int p1)] [])) t → Steps p.tables e below (s₁.setTop (entryFrame m #[(.int (0 : Int32)), (.int p1)] 2)) t := fun t k => castTop (own_ef48 m ((0 : Int32)) (p1)) k
  have G0 := G
  obtain ⟨S_CS, hcs, S_WF, hwf⟩ := G
  have hc1 : ¬ (p1 < (0 : Int32)) := hn0
  have g2 : ∀ t, Steps p.tables e below (s₁.setTop (mkF m 37 #[.val (.int (0 : Int32)), .val (.int p1)] [])) t → Steps p.tables e below (s₁.setTop (entryFrame m #[(.int (0 : Int32)), (.int p1)] 2)) t := by
    intro t k
    refine g0 t ?_
    show Steps p.tables e below (s₁.setTop (mkF m 0 #[.val (.int (0 : Int32)), .val (.int p1)] [])) _
    refine XS.iloadN X0.here hx rfl (hb hby own_d36_0) rfl ?_
    refine XS.iloadN X0.here hx rfl (hb hby own_d36_1) rfl ?_
    refine XS.icmpYes X0.here hx rfl (pc0 := 2) (pc' := 37) rfl (hb hby own_d36_2) rfl (flt hc1).2.1 (by decide) (by decide) ?_
    exact k
  obtain ⟨fs, hrt, hrun, hended, hW, hsame⟩ := X0.leave (v := none) (fun _ => rfl)
  refine ⟨_, _, g2 _ ?_, hrun, hended, _, _, rfl, ?_, ⟨_, rfl⟩, hW, hsame.mono (by decide) (by decide)⟩
  · show Steps p.tables e below (s₁.setTop (mkF m 37 #[.val (.int (0 : Int32)), .val (.int p1)] [])) _
    exact X0.returnOut hx Bd.returns (hb hby own_d36_37) hrt
  · show own_Q_rmA46 Z p1 cs wf h0 n0 _ s₁.heap _
    rw [e0]
    exact ⟨rfl, N0, rfl⟩
theorem own_pd24 : parseMethodDescriptor "(II)V" = some ⟨[.int, .int], none⟩ := by decide +kernel
theorem own_d35_5 : decode jdk_65_method_133_code 5 = .ok (.iload_n 2, 1) := by decide +kernel
theorem own_d35_6 : decode jdk_65_method_133_code 6 = .ok (.iload_n 1, 1) := by decide +kernel
theorem own_d35_7 : decode jdk_65_method_133_code 7 = .ok (.isub, 1) := by decide +kernel
theorem own_d35_8 : decode jdk_65_method_133_code 8 = .ok (.istore_n 3, 1) := by decide +kernel
theorem own_d35_9 : decode jdk_65_method_133_code 9 = .ok (.iload_n 3, 1) := by decide +kernel
theorem own_d35_10 : decode jdk_65_method_133_code 10 = .ok (.newarray .byte, 2) := by decide +kernel
theorem own_d35_12 : decode jdk_65_method_133_code 12 = .ok (.astore 4, 2) := by decide +kernel
theorem own_d35_14 : decode jdk_65_method_133_code 14 = .ok (.aload_n 0, 1) := by decide +kernel
theorem own_d35_15 : decode jdk_65_method_133_code 15 = .ok (.iload_n 1, 1) := by decide +kernel
theorem own_d35_16 : decode jdk_65_method_133_code 16 = .ok (.aload 4, 2) := by decide +kernel
theorem own_d35_18 : decode jdk_65_method_133_code 18 = .ok (.iconst 0, 1) := by decide +kernel
theorem own_d35_19 : decode jdk_65_method_133_code 19 = .ok (.aload_n 0, 1) := by decide +kernel
theorem own_d35_20 : decode jdk_65_method_133_code 20 = .ok (.arraylength, 1) := by decide +kernel
theorem own_d35_21 : decode jdk_65_method_133_code 21 = .ok (.iload_n 1, 1) := by decide +kernel
theorem own_d35_22 : decode jdk_65_method_133_code 22 = .ok (.isub, 1) := by decide +kernel
theorem own_d35_23 : decode jdk_65_method_133_code 23 = .ok (.iload_n 3, 1) := by decide +kernel
theorem own_d35_24 : decode jdk_65_method_133_code 24 = .ok (.invokestatic 304, 3) := by decide +kernel
abbrev own_y35 : MethodName := ⟨"java/lang/Math", "min", "(II)I"⟩
theorem own_d37_0 : decode jdk_29_method_69_code 0 = .ok (.iload_n 0, 1) := by decide +kernel
theorem own_d37_1 : decode jdk_29_method_69_code 1 = .ok (.iload_n 1, 1) := by decide +kernel
theorem own_d37_2 : decode jdk_29_method_69_code 2 = .ok (.if_icmp .gt 7, 3) := by decide +kernel
theorem own_d37_9 : decode jdk_29_method_69_code 9 = .ok (.iload_n 1, 1) := by decide +kernel
theorem own_d37_10 : decode jdk_29_method_69_code 10 = .ok (.ireturn, 1) := by decide +kernel
theorem own_d37_5 : decode jdk_29_method_69_code 5 = .ok (.iload_n 0, 1) := by decide +kernel
theorem own_d37_6 : decode jdk_29_method_69_code 6 = .ok (.goto 4, 3) := by decide +kernel
def own_Q_rmA47 (Z : State) (p1 : Int32) (r : Int32) (cs : Int32) (wf : Value) (h0 : Heap) (n0 : Nat) (v : Option Value) (h : Heap) (L : List Loc) : Prop := v = some (.int r) ∧ Fr n0 L ∧ h = h0
set_option maxRecDepth 65536 in
set_option maxHeartbeats 40000000 in
theorem rmA47 (l : Launch) (Z : State) (a0 : Array Value) (hw : ∀ d ∈ tables_1, d.before a0 Z = true) (ws : List Jvm.Cond) (p1 : Int32) (r : Int32) (cs : Int32) (wf : Value) (h0 : Heap) (n0 : Nat) (O0 : Old Z n0 h0) (G : own_Gl Z cs wf) (hr : (if p1 < (16 : Int32) then p1 else (16 : Int32)) = r) :
    MetFree l own_y35 (head1 (Jvm.Cond.code own_y35 jdk_29_method_69_code 2 (some .int) :: ws) ({ frames := 0, cells := 0, slots := 0, locals := 0 } : Room)) (fun a U => a = #[(.int (16 : Int32)), (.int p1)] ∧ Z.Warmed39 U.vm ∧ U.heap = h0) (fun _ _ _ _ _ => True) (fun _ U o U' => ∃ v L, o = .returned v ∧ own_Q_rmA47 Z p1 r cs wf h0 n0 v U'.heap L ∧ FrameEnd U o U' L ({ frames := 0, cells := 0, slots := 0, locals := 0 } : Room).cells ({ frames := 0, cells := 0, slots := 0, locals := 0 } : Room).slots) := by
  refine MetFree.of_bodySF (Jvm.Free.JP.mathPlain rfl (by decide +kernel)) hisR ?_
  intro p e s m args below meth c s₁ Bd hml0 hP hK
  obtain ⟨rfl, hZ, hh⟩ := hP
  have hx := Bd.exec
  have hby := Bd.bytes
  have hml : c.maxLocals = 2 := hml0
  have hown : s.vm.findClass "java/lang/Math" = some m.cls := findClass_of_methodNamed Bd.named
  have hnm := (name_of_methodNamed Bd.named Bd.method).1
  have X0 : Stand p l e ({ frames := 0, cells := 0, slots := 0, locals := 0 } : Room) s m #[(.int (16 : Int32)), (.int p1)] below meth c s₁ [] 0 0 := Stand.of_body Bd
  have e0 : s₁.heap = h0 := by rw [← hh, Bd.state]; rfl
  have N0 := Fr.nil n0
  have Z0 : n0 ≤ h0.size := O0.1 ▸ O0.2.1
  have g0 : ∀ t, Steps p.tables e below (s₁.setTop (mkF m 0 #[.val (.int (16 : Int32)), .val (.int p1)] [])) t → Steps p.tables e below (s₁.setTop (entryFrame m #[(.int (16 : Int32)), (.int p1)] 2)) t := fun t k => castTop (own_ef48 m ((16 : Int32)) (p1)) k
  have G0 := G
  obtain ⟨S_CS, hcs, S_WF, hwf⟩ := G
  have g2 : ∀ t, Steps p.tables e below (s₁.setTop (mkF m 2 #[.val (.int (16 : Int32)), .val (.int p1)] [(.int p1), (.int (16 : Int32))])) t → Steps p.tables e below (s₁.setTop (entryFrame m #[(.int (16 : Int32)), (.int p1)] 2)) t := by
    intro t k
    refine g0 t ?_
    show Steps p.tables e below (s₁.setTop (mkF m 0 #[.val (.int (16 : Int32)), .val (.int p1)] [])) _
    refine XS.iloadN X0.here hx rfl (hb hby own_d37_0) rfl ?_
    refine XS.iloadN X0.here hx rfl (hb hby own_d37_1) rfl ?_
    exact k
  by_cases hc1 : p1 < (16 : Int32)
  · have g3 : ∀ t, Steps p.tables e below (s₁.setTop (mkF m 10 #[.val (.int (16 : Int32)), .val (.int p1)] [(.int p1)])) t → Steps p.tables e below (s₁.setTop (entryFrame m #[(.int (16 : Int32)), (.int p1)] 2)) t := by
      intro t k
      refine g2 t ?_
      show Steps p.tables e below (s₁.setTop (mkF m 2 #[.val (.int (16 : Int32)), .val (.int p1)] [(.int p1), (.int (16 : Int32))])) _
      refine XS.icmpYes X0.here hx rfl (pc0 := 2) (pc' := 9) rfl (hb hby own_d37_2) rfl (tlt hc1).2.2.1 (by decide) (by decide) ?_
      refine XS.iloadN X0.here hx rfl (hb hby own_d37_9) rfl ?_
      exact k
    obtain ⟨fs, hrt, hrun, hended, hW, hsame⟩ := X0.leave (v := some (.int p1)) (fun h => by rw [Bd.returns] at h; cases h)
    refine ⟨_, _, g3 _ ?_, hrun, hended, _, _, rfl, ?_, ⟨_, rfl⟩, hW, hsame.mono (by decide) (by decide)⟩
    · show Steps p.tables e below (s₁.setTop (mkF m 10 #[.val (.int (16 : Int32)), .val (.int p1)] [(.int p1)])) _
      exact retI X0 hx Bd.returns (hb hby own_d37_10) hrt
    · show own_Q_rmA47 Z p1 r cs wf h0 n0 _ s₁.heap _
      rw [e0]
      exact ⟨by rw [← hr, if_pos hc1], N0, rfl⟩
  · have g4 : ∀ t, Steps p.tables e below (s₁.setTop (mkF m 10 #[.val (.int (16 : Int32)), .val (.int p1)] [(.int (16 : Int32))])) t → Steps p.tables e below (s₁.setTop (entryFrame m #[(.int (16 : Int32)), (.int p1)] 2)) t := by
      intro t k
      refine g2 t ?_
      show Steps p.tables e below (s₁.setTop (mkF m 2 #[.val (.int (16 : Int32)), .val (.int p1)] [(.int p1), (.int (16 : Int32))])) _
      refine XS.icmpNo X0.here hx rfl (hb hby own_d37_2) rfl (flt hc1).2.2.1 ?_
      refine XS.iloadN X0.here hx rfl (hb hby own_d37_5) rfl ?_
      refine XS.goto X0.here hx rfl (pc0 := 6) (pc' := 10) rfl (hb hby own_d37_6) (by decide) (by decide) ?_
      exact k
    obtain ⟨fs, hrt, hrun, hended, hW, hsame⟩ := X0.leave (v := some (.int (16 : Int32))) (fun h => by rw [Bd.returns] at h; cases h)
    refine ⟨_, _, g4 _ ?_, hrun, hended, _, _, rfl, ?_, ⟨_, rfl⟩, hW, hsame.mono (by decide) (by decide)⟩
    · show Steps p.tables e below (s₁.setTop (mkF m 10 #[.val (.int (16 : Int32)), .val (.int p1)] [(.int (16 : Int32))])) _
      exact retI X0 hx Bd.returns (hb hby own_d37_10) hrt
    · show own_Q_rmA47 Z p1 r cs wf h0 n0 _ s₁.heap _
      rw [e0]
      exact ⟨by rw [← hr, if_neg hc1], N0, rfl⟩
theorem own_pd25 : parseMethodDescriptor "(II)I" = some ⟨[.int, .int], some .int⟩ := by decide +kernel
theorem own_d35_27 : decode jdk_65_method_133_code 27 = .ok (.invokestatic 150, 3) := by decide +kernel
theorem own_d35_30 : decode jdk_65_method_133_code 30 = .ok (.aload 4, 2) := by decide +kernel
theorem own_d35_32 : decode jdk_65_method_133_code 32 = .ok (.areturn, 1) := by decide +kernel
def own_Q_rmA45 (Z : State) (ob0 : Addr) (k_ob0 : ClassId) (ob0_l : List Value) (p2 : Int32)  (cs : Int32) (wf : Value) (h0 : Heap) (n0 : Nat) (v : Option Value) (h : Heap) (L : List Loc) : Prop := ∃ rb : Addr, ∃ rk : ClassId, v = some (.ref rb) ∧ Fr n0 L ∧ Keep h0 h [] ∧ h0.size ≤ rb ∧ ∃ sl : List Value, Arv Z h rb rk .byte p2 sl (.int (0 : Int32))
set_option maxRecDepth 65536 in
set_option maxHeartbeats 40000000 in
theorem rmA45 (l : Launch) (Z : State) (a0 : Array Value) (hw : ∀ d ∈ tables_1, d.before a0 Z = true) (ws : List Jvm.Cond) (ob0 : Addr) (k_ob0 : ClassId) (ob0_l : List Value) (p2 : Int32)  (cs : Int32) (wf : Value) (h0 : Heap) (n0 : Nat) (O0 : Old Z n0 h0) (G : own_Gl Z cs wf) (V_ob0 : Arv Z h0 ob0 k_ob0 .byte (16 : Int32) ob0_l (.int (0 : Int32))) (hn0 : ¬ (p2 < (0 : Int32))) (hn16 : ¬ (p2 = (16 : Int32))) (hm0 : ¬ (p2 < 0)) (hm5 : (p2).toNatClampNeg ≤ 5) (hcp : (0 : Int32).toNatClampNeg + (p2).toNatClampNeg ≤ (16 : Int32).toNatClampNeg) (hmin : (if p2 < (16 : Int32) then p2 else (16 : Int32)) = p2) (hsub : (p2 - (0 : Int32)) = p2) :
    MetFree l own_y33 (head1 (Jvm.Cond.code own_y33 jdk_65_method_133_code 5 (some (.array .byte)) :: ws) ({ frames := 1, cells := 1, slots := 5, locals := 51 } : Room)) (fun a U => a = #[(.ref ob0), (.int (0 : Int32)), (.int p2)] ∧ Z.Warmed39 U.vm ∧ U.heap = h0) (fun _ _ _ _ _ => True) (fun _ U o U' => ∃ v L, o = .returned v ∧ own_Q_rmA45 Z ob0 k_ob0 ob0_l p2 cs wf h0 n0 v U'.heap L ∧ FrameEnd U o U' L ({ frames := 1, cells := 1, slots := 5, locals := 51 } : Room).cells ({ frames := 1, cells := 1, slots := 5, locals := 51 } : Room).slots) := by
  refine MetFree.of_bodySF (plainFor_of_name own_pn8) hisR ?_
  intro p e s m args below meth c s₁ Bd hml0 hP hK
  obtain ⟨rfl, hZ, hh⟩ := hP
  have hx := Bd.exec
  have hby := Bd.bytes
  have hml : c.maxLocals = 5 := hml0
  have hown : s.vm.findClass "java/util/Arrays" = some m.cls := findClass_of_methodNamed Bd.named
  have hnm := (name_of_methodNamed Bd.named Bd.method).1
  have X0 : Stand p l e ({ frames := 1, cells := 1, slots := 5, locals := 51 } : Room) s m #[(.ref ob0), (.int (0 : Int32)), (.int p2)] below meth c s₁ [] 0 0 := Stand.of_body Bd
  have e0 : s₁.heap = h0 := by rw [← hh, Bd.state]; rfl
  have N0 := Fr.nil n0
  have Z0 : n0 ≤ h0.size := O0.1 ▸ O0.2.1
  have g0 : ∀ t, Steps p.tables e below (s₁.setTop (mkF m 0 #[.val (.ref ob0), .val (.int (0 : Int32)), .val (.int p2), .unset, .unset] [])) t → Steps p.tables e below (s₁.setTop (entryFrame m #[(.ref ob0), (.int (0 : Int32)), (.int p2)] 5)) t := fun t k => castTop (own_ef47 m (ob0) ((0 : Int32)) (p2)) k
  have G0 := G
  obtain ⟨S_CS, hcs, S_WF, hwf⟩ := G
  obtain ⟨_, _, ⟨T1, L1, k1, n1⟩, -, X1, ⟨Lc1, hQ1, l1, y1, z1⟩, st1⟩ := Jvm.LawKit.callS X0 hx (y := own_y34) hown (mvT hZ (own_w hw 190 rfl)) (mvT hZ (own_w hw 191 rfl)) (mvT hZ (own_w hw 185 rfl)) (mvT hZ (own_w hw 192 rfl)) (by decide) (backOf (W := 0) (rmA46 l Z a0 hw [] (p2)  cs wf h0 n0 O0 G0   hn0) hZ (own_w hw 192 rfl) (own_w hw 185 rfl) (by decide) (by decide)) (g := (mkF m 2 #[.val (.ref ob0), .val (.int (0 : Int32)), .val (.int p2), .unset, .unset] [(.int p2), (.int (0 : Int32))])) rfl (by rw [hml]; rfl) (argsL := [(.int (0 : Int32)), (.int p2)]) (rest := []) (lenOf own_pd24 rfl) rfl (by show 2 * 0 + _ ≤ _; exact Nat.le_of_eq rfl) (hb hby own_d35_2) (fun _ _ => ⟨rfl, e0, (by decide : 0 + 0 ≤ _), (by decide : 0 + 0 ≤ _)⟩)
  dsimp only [Pt.U, Pt.locs, Pt.cells, Pt.slots] at X1 l1 y1 z1 st1 hQ1
  subst l1 y1 z1
  obtain ⟨rfl, Nq1, e1⟩ := hQ1
  have N1 := Fr.app N0 Nq1
  obtain ⟨T2, h2, k2, X2, e2, E2, A2, st2⟩ := newP X1 hx hZ (own_w hw 19 rfl) e1 (g := (mkF m 10 #[.val (.ref ob0), .val (.int (0 : Int32)), .val (.int p2), .val (.int p2), .unset] [(.int p2)])) rfl (hb hby own_d35_10) rfl hm0 (cap := 5) hm5 (by decide) (by decide) (by decide)
  obtain ⟨b2, q_b2⟩ : ∃ z, z = h0.size := ⟨_, rfl⟩
  rw [← q_b2] at A2 st2
  have sz_b2 : h0.size ≤ b2 := Nat.le_of_eq q_b2.symm
  have gz_b2 : n0 ≤ b2 := Nat.le_trans Z0 sz_b2
  have ne_ob0_b2 : ob0 ≠ b2 := Nat.ne_of_lt (Nat.lt_of_lt_of_le V_ob0.lt (Nat.le_of_eq q_b2.symm))
  have V2 : Arv Z h2 b2 k2 .byte p2 [(.int (0 : Int32)), (.int (0 : Int32)), (.int (0 : Int32)), (.int (0 : Int32)), (.int (0 : Int32))] (.int (0 : Int32)) := (Arv.new A2 hm0).pad (pad_rep [] (.int (0 : Int32)) 5)
  have f3 := (V_ob0.ext E2)
  obtain ⟨c4, Ar4, cq4, S4, Nn4, Hh4, Gg4⟩ := id f3
  have o5 : Old Z n0 h2 := (Old.ext O0 E2)
  obtain ⟨_, _, ⟨T6, L6, k6, n6⟩, -, X6, ⟨Lc6, hQ6, l6, y6, z6⟩, st6⟩ := Jvm.LawKit.callS X2 hx (y := own_y35) hown (mvT hZ (own_w hw 193 rfl)) (mvT hZ (own_w hw 194 rfl)) (mvT hZ (own_w hw 195 rfl)) (mvT hZ (own_w hw 196 rfl)) (by decide) (backOf (W := 4) (rmA47 l Z a0 hw [] (p2) p2 cs wf h2 n0 o5 G0   hmin) hZ (own_w hw 196 rfl) (own_w hw 195 rfl) (by decide) (by decide)) (g := (mkF m 24 #[.val (.ref ob0), .val (.int (0 : Int32)), .val (.int p2), .val (.int p2), .val (.ref b2)] [(.int p2), (.int (16 : Int32)), (.int (0 : Int32)), (.ref b2), (.int (0 : Int32)), (.ref ob0)])) rfl (by rw [hml]; rfl) (argsL := [(.int (16 : Int32)), (.int p2)]) (rest := [(.int (0 : Int32)), (.ref b2), (.int (0 : Int32)), (.ref ob0)]) (lenOf own_pd25 rfl) rfl (by show 2 * 0 + _ ≤ _; exact Nat.le_of_eq rfl) (hb hby own_d35_24) (fun _ _ => ⟨rfl, e2, (by decide : 1 + 0 ≤ _), (by decide : 5 + 0 ≤ _)⟩)
  dsimp only [Pt.U, Pt.locs, Pt.cells, Pt.slots] at X6 l6 y6 z6 st6 hQ6
  subst l6 y6 z6
  obtain ⟨rfl, Nq6, e6⟩ := hQ6
  have N6 := Fr.app N1 Nq6
  obtain ⟨T7, h7, L7, X7, e7, N7, K7, V7, st7⟩ := cpA X6 hx hZ hown (own_w hw 197 rfl) (own_w hw 151 rfl) (own_w hw 149 rfl) (own_w hw 150 rfl) e6 f3 V2 (Or.inl ⟨rfl, rfl⟩) (by decide) (by decide) hm0 hcp (Nat.le_of_eq (Nat.zero_add _)) rfl (Nat.le_trans (Nat.le_of_eq (Nat.zero_add _)) hm5) N6 gz_b2 (g := (mkF m 27 #[.val (.ref ob0), .val (.int (0 : Int32)), .val (.int p2), .val (.int p2), .val (.ref b2)] [(.int p2), (.int (0 : Int32)), (.ref b2), (.int (0 : Int32)), (.ref ob0)])) rfl (by rw [hml]; rfl) rfl (hb hby own_d35_27) (by decide) (W := 0) (by show 2 * 0 + _ ≤ _; exact Nat.le_of_eq rfl) (by decide)
  obtain ⟨vl7, V7a⟩ : ∃ q : List Value, Arv Z h7 b2 k2 .byte p2 q (.int (0 : Int32)) := ⟨_, V7⟩
  have g8 : ∀ t, Steps p.tables e below (T7.setTop (mkF m 32 #[.val (.ref ob0), .val (.int (0 : Int32)), .val (.int p2), .val (.int p2), .val (.ref b2)] [(.ref b2)])) t → Steps p.tables e below (s₁.setTop (entryFrame m #[(.ref ob0), (.int (0 : Int32)), (.int p2)] 5)) t := by
    intro t k
    refine g0 t ?_
    show Steps p.tables e below (s₁.setTop (mkF m 0 #[.val (.ref ob0), .val (.int (0 : Int32)), .val (.int p2), .unset, .unset] [])) _
    refine XS.iloadN X0.here hx rfl (hb hby own_d35_0) rfl ?_
    refine XS.iloadN X0.here hx rfl (hb hby own_d35_1) rfl ?_
    refine st1 _ ?_
    refine XS.iloadN X1.here hx rfl (hb hby own_d35_5) rfl ?_
    show Steps p.tables e below (T1.setTop (mkF m 6 #[.val (.ref ob0), .val (.int (0 : Int32)), .val (.int p2), .unset, .unset] [(.int p2)])) _
    refine XS.iloadN X1.here hx rfl (hb hby own_d35_6) rfl ?_
    show Steps p.tables e below (T1.setTop (mkF m 7 #[.val (.ref ob0), .val (.int (0 : Int32)), .val (.int p2), .unset, .unset] [(.int (0 : Int32)), (.int p2)])) _
    refine XS.isub X1.here hx rfl (hb hby own_d35_7) rfl ?_
    rw [hsub]
    refine XS.istoreN X1.here hx rfl (hb hby own_d35_8) rfl (l' := #[.val (.ref ob0), .val (.int (0 : Int32)), .val (.int p2), .val (.int p2), .unset]) rfl ?_
    refine XS.iloadN X1.here hx rfl (hb hby own_d35_9) rfl ?_
    show Steps p.tables e below (T1.setTop (mkF m 10 #[.val (.ref ob0), .val (.int (0 : Int32)), .val (.int p2), .val (.int p2), .unset] [(.int p2)])) _
    refine st2 _ ?_
    refine XS.astore X2.here hx rfl (hb hby own_d35_12) rfl rfl (l' := #[.val (.ref ob0), .val (.int (0 : Int32)), .val (.int p2), .val (.int p2), .val (.ref b2)]) rfl ?_
    refine XS.aloadN X2.here hx rfl (hb hby own_d35_14) rfl rfl ?_
    refine XS.iloadN X2.here hx rfl (hb hby own_d35_15) rfl ?_
    show Steps p.tables e below (T2.setTop (mkF m 16 #[.val (.ref ob0), .val (.int (0 : Int32)), .val (.int p2), .val (.int p2), .val (.ref b2)] [(.int (0 : Int32)), (.ref ob0)])) _
    refine XS.aload X2.here hx rfl (hb hby own_d35_16) rfl rfl ?_
    refine XS.iconst X2.here hx rfl (hb hby own_d35_18) ?_
    refine XS.aloadN X2.here hx rfl (hb hby own_d35_19) rfl rfl ?_
    show Steps p.tables e below (T2.setTop (mkF m 20 #[.val (.ref ob0), .val (.int (0 : Int32)), .val (.int p2), .val (.int p2), .val (.ref b2)] [(.ref ob0), (.int (0 : Int32)), (.ref b2), (.int (0 : Int32)), (.ref ob0)])) _
    refine X2.arraylength hx (by rw [e2]; exact Ar4.1) (State.isArrayOf_alike hZ.alike Ar4.2.1) (g := (mkF m 20 #[.val (.ref ob0), .val (.int (0 : Int32)), .val (.int p2), .val (.int p2), .val (.ref b2)] [(.ref ob0), (.int (0 : Int32)), (.ref b2), (.int (0 : Int32)), (.ref ob0)])) rfl rfl (hb hby own_d35_20) _ ?_
    rw [len_of S4 Nn4]
    show Steps p.tables e below (T2.setTop (mkF m 21 #[.val (.ref ob0), .val (.int (0 : Int32)), .val (.int p2), .val (.int p2), .val (.ref b2)] [(.int (16 : Int32)), (.int (0 : Int32)), (.ref b2), (.int (0 : Int32)), (.ref ob0)])) _
    refine XS.iloadN X2.here hx rfl (hb hby own_d35_21) rfl ?_
    show Steps p.tables e below (T2.setTop (mkF m 22 #[.val (.ref ob0), .val (.int (0 : Int32)), .val (.int p2), .val (.int p2), .val (.ref b2)] [(.int (0 : Int32)), (.int (16 : Int32)), (.int (0 : Int32)), (.ref b2), (.int (0 : Int32)), (.ref ob0)])) _
    refine XS.isub X2.here hx rfl (hb hby own_d35_22) rfl ?_
    rw [show ((16 : Int32) - (0 : Int32)) = (16 : Int32) from by decide]
    refine XS.iloadN X2.here hx rfl (hb hby own_d35_23) rfl ?_
    refine st6 _ ?_
    show Steps p.tables e below (T6.setTop (mkF m 27 #[.val (.ref ob0), .val (.int (0 : Int32)), .val (.int p2), .val (.int p2), .val (.ref b2)] [(.int p2), (.int (0 : Int32)), (.ref b2), (.int (0 : Int32)), (.ref ob0)])) _
    refine st7 _ ?_
    refine XS.aload X7.here hx rfl (hb hby own_d35_30) rfl rfl ?_
    exact k
  obtain ⟨fs, hrt, hrun, hended, hW, hsame⟩ := X7.leave (v := some (.ref b2)) (fun h => by rw [Bd.returns] at h; cases h)
  refine ⟨_, _, g8 _ ?_, hrun, hended, _, _, rfl, ?_, ⟨_, rfl⟩, hW, hsame.mono (by decide) (by decide)⟩
  · show Steps p.tables e below (T7.setTop (mkF m 32 #[.val (.ref ob0), .val (.int (0 : Int32)), .val (.int p2), .val (.int p2), .val (.ref b2)] [(.ref b2)])) _
    jvm_step X7.here [X7.here.top, hx, (hb hby own_d35_32), X7.method', Bd.returns, Value.isRef, FieldType.isReference]
    first | (intro acts; rw [hrt _ acts rfl rfl rfl]) | rw [hrt _ _ rfl rfl rfl]
    exact Steps.refl _
  · show own_Q_rmA45 Z ob0 k_ob0 ob0_l p2 cs wf h0 n0 _ T7.heap _
    rw [e7]
    exact ⟨b2, _, rfl, N7, (Keep.trans (Keep.ext (Keep.refl h0 []) E2) K7 (allS (Or.inr sz_b2) all0)), sz_b2, _, V7a⟩
theorem own_pd26 : parseMethodDescriptor "([BII)[B" = some ⟨[(.array .byte), .int, .int], some (.array .byte)⟩ := by decide +kernel
theorem own_d34_16 : decode jdk_65_method_132_code 16 = .ok (.areturn, 1) := by decide +kernel
def own_Q_rmA44 (Z : State) (ob0 : Addr) (k_ob0 : ClassId) (ob0_l : List Value) (p2 : Int32)  (cs : Int32) (wf : Value) (h0 : Heap) (n0 : Nat) (v : Option Value) (h : Heap) (L : List Loc) : Prop := ∃ rb : Addr, ∃ rk : ClassId, v = some (.ref rb) ∧ Fr n0 L ∧ Keep h0 h [] ∧ h0.size ≤ rb ∧ ∃ sl : List Value, Arv Z h rb rk .byte p2 sl (.int (0 : Int32))
set_option maxRecDepth 65536 in
set_option maxHeartbeats 40000000 in
theorem rmA44 (l : Launch) (Z : State) (a0 : Array Value) (hw : ∀ d ∈ tables_1, d.before a0 Z = true) (ws : List Jvm.Cond) (ob0 : Addr) (k_ob0 : ClassId) (ob0_l : List Value) (p2 : Int32)  (cs : Int32) (wf : Value) (h0 : Heap) (n0 : Nat) (O0 : Old Z n0 h0) (G : own_Gl Z cs wf) (V_ob0 : Arv Z h0 ob0 k_ob0 .byte (16 : Int32) ob0_l (.int (0 : Int32))) (hn0 : ¬ (p2 < (0 : Int32))) (hn16 : ¬ (p2 = (16 : Int32))) (hm0 : ¬ (p2 < 0)) (hm5 : (p2).toNatClampNeg ≤ 5) (hcp : (0 : Int32).toNatClampNeg + (p2).toNatClampNeg ≤ (16 : Int32).toNatClampNeg) (hmin : (if p2 < (16 : Int32) then p2 else (16 : Int32)) = p2) (hsub : (p2 - (0 : Int32)) = p2) :
    MetFree l own_y32 (head1 (Jvm.Cond.code own_y32 jdk_65_method_132_code 3 (some (.array .byte)) :: ws) ({ frames := 2, cells := 1, slots := 5, locals := 67 } : Room)) (fun a U => a = #[(.ref ob0), (.int (0 : Int32)), (.int p2)] ∧ Z.Warmed39 U.vm ∧ U.heap = h0) (fun _ _ _ _ _ => True) (fun _ U o U' => ∃ v L, o = .returned v ∧ own_Q_rmA44 Z ob0 k_ob0 ob0_l p2 cs wf h0 n0 v U'.heap L ∧ FrameEnd U o U' L ({ frames := 2, cells := 1, slots := 5, locals := 67 } : Room).cells ({ frames := 2, cells := 1, slots := 5, locals := 67 } : Room).slots) := by
  refine MetFree.of_bodySF (plainFor_of_name own_pn8) hisR ?_
  intro p e s m args below meth c s₁ Bd hml0 hP hK
  obtain ⟨rfl, hZ, hh⟩ := hP
  have hx := Bd.exec
  have hby := Bd.bytes
  have hml : c.maxLocals = 3 := hml0
  have hown : s.vm.findClass "java/util/Arrays" = some m.cls := findClass_of_methodNamed Bd.named
  have hnm := (name_of_methodNamed Bd.named Bd.method).1
  have X0 : Stand p l e ({ frames := 2, cells := 1, slots := 5, locals := 67 } : Room) s m #[(.ref ob0), (.int (0 : Int32)), (.int p2)] below meth c s₁ [] 0 0 := Stand.of_body Bd
  have e0 : s₁.heap = h0 := by rw [← hh, Bd.state]; rfl
  have N0 := Fr.nil n0
  have Z0 : n0 ≤ h0.size := O0.1 ▸ O0.2.1
  have g0 : ∀ t, Steps p.tables e below (s₁.setTop (mkF m 0 #[.val (.ref ob0), .val (.int (0 : Int32)), .val (.int p2)] [])) t → Steps p.tables e below (s₁.setTop (entryFrame m #[(.ref ob0), (.int (0 : Int32)), (.int p2)] 3)) t := fun t k => castTop (own_ef46 m (ob0) ((0 : Int32)) (p2)) k
  have G0 := G
  obtain ⟨S_CS, hcs, S_WF, hwf⟩ := G
  obtain ⟨c1, Ar1, cq1, S1, Nn1, Hh1, Gg1⟩ := id V_ob0
  have hc2 : ¬ (p2 = (16 : Int32)) := hn16
  obtain ⟨_, _, ⟨T3, L3, k3, n3⟩, -, X3, ⟨Lc3, hQ3, l3, y3, z3⟩, st3⟩ := Jvm.LawKit.callS X0 hx (y := own_y33) hown (mvT hZ (own_w hw 187 rfl)) (mvT hZ (own_w hw 188 rfl)) (mvT hZ (own_w hw 185 rfl)) (mvT hZ (own_w hw 189 rfl)) (by decide) (backOf (W := 0) (rmA45 l Z a0 hw [] ob0 k_ob0 ob0_l (p2)  cs wf h0 n0 O0 G0 V_ob0  hn0 hn16 hm0 hm5 hcp hmin hsub) hZ (own_w hw 189 rfl) (own_w hw 185 rfl) (by decide) (by decide)) (g := (mkF m 13 #[.val (.ref ob0), .val (.int (0 : Int32)), .val (.int p2)] [(.int p2), (.int (0 : Int32)), (.ref ob0)])) rfl (by rw [hml]; rfl) (argsL := [(.ref ob0), (.int (0 : Int32)), (.int p2)]) (rest := []) (lenOf own_pd26 rfl) rfl (by show 2 * 0 + _ ≤ _; exact Nat.le_of_eq rfl) (hb hby own_d34_13) (fun _ _ => ⟨rfl, e0, (by decide : 0 + 1 ≤ _), (by decide : 0 + 5 ≤ _)⟩)
  dsimp only [Pt.U, Pt.locs, Pt.cells, Pt.slots] at X3 l3 y3 z3 st3 hQ3
  subst l3 y3 z3
  obtain ⟨rb3, rk3, rfl, Nq3, K3, hb3, sl3, Va3⟩ := hQ3
  have N3 := Fr.app N0 Nq3
  have sz_rb3 : h0.size ≤ rb3 := hb3
  have gz_rb3 : n0 ≤ rb3 := Nat.le_trans Z0 sz_rb3
  have ne_ob0_rb3 : ob0 ≠ rb3 := Nat.ne_of_lt (Nat.lt_of_lt_of_le V_ob0.lt hb3)
  have g4 : ∀ t, Steps p.tables e below (T3.setTop (mkF m 16 #[.val (.ref ob0), .val (.int (0 : Int32)), .val (.int p2)] [(.ref rb3)])) t → Steps p.tables e below (s₁.setTop (entryFrame m #[(.ref ob0), (.int (0 : Int32)), (.int p2)] 3)) t := by
    intro t k
    refine g0 t ?_
    show Steps p.tables e below (s₁.setTop (mkF m 0 #[.val (.ref ob0), .val (.int (0 : Int32)), .val (.int p2)] [])) _
    refine XS.iloadN X0.here hx rfl (hb hby own_d34_0) rfl ?_
    refine XS.ifNo X0.here hx rfl (hb hby own_d34_1) rfl ((if0 _ _).trans (teq (by decide : (0 : Int32) = (0 : Int32))).2) ?_
    refine XS.iloadN X0.here hx rfl (hb hby own_d34_4) rfl ?_
    refine XS.aloadN X0.here hx rfl (hb hby own_d34_5) rfl rfl ?_
    show Steps p.tables e below (s₁.setTop (mkF m 6 #[.val (.ref ob0), .val (.int (0 : Int32)), .val (.int p2)] [(.ref ob0), (.int p2)])) _
    refine X0.arraylength hx (by rw [e0]; exact Ar1.1) (State.isArrayOf_alike hZ.alike Ar1.2.1) (g := (mkF m 6 #[.val (.ref ob0), .val (.int (0 : Int32)), .val (.int p2)] [(.ref ob0), (.int p2)])) rfl rfl (hb hby own_d34_6) _ ?_
    rw [len_of S1 Nn1]
    refine XS.icmpNo X0.here hx rfl (hb hby own_d34_7) rfl (feq hc2).1 ?_
    refine XS.aloadN X0.here hx rfl (hb hby own_d34_10) rfl rfl ?_
    refine XS.iloadN X0.here hx rfl (hb hby own_d34_11) rfl ?_
    show Steps p.tables e below (s₁.setTop (mkF m 12 #[.val (.ref ob0), .val (.int (0 : Int32)), .val (.int p2)] [(.int (0 : Int32)), (.ref ob0)])) _
    refine XS.iloadN X0.here hx rfl (hb hby own_d34_12) rfl ?_
    refine st3 _ ?_
    exact k
  obtain ⟨fs, hrt, hrun, hended, hW, hsame⟩ := X3.leave (v := some (.ref rb3)) (fun h => by rw [Bd.returns] at h; cases h)
  refine ⟨_, _, g4 _ ?_, hrun, hended, _, _, rfl, ?_, ⟨_, rfl⟩, hW, hsame.mono (by decide) (by decide)⟩
  · show Steps p.tables e below (T3.setTop (mkF m 16 #[.val (.ref ob0), .val (.int (0 : Int32)), .val (.int p2)] [(.ref rb3)])) _
    jvm_step X3.here [X3.here.top, hx, (hb hby own_d34_16), X3.method', Bd.returns, Value.isRef, FieldType.isReference]
    first | (intro acts; rw [hrt _ acts rfl rfl rfl]) | rw [hrt _ _ rfl rfl rfl]
    exact Steps.refl _
  · show own_Q_rmA44 Z ob0 k_ob0 ob0_l p2 cs wf h0 n0 _ T3.heap _
    exact ⟨rb3, _, rfl, N3, (Keep.trans (Keep.refl h0 []) K3 all0), sz_rb3, _, Va3⟩
theorem own_d29_35 : decode jdk_42_method_150_code 35 = .ok (.putfield 9, 3) := by decide +kernel
theorem own_d29_38 : decode jdk_42_method_150_code 38 = .ok (.goto 59, 3) := by decide +kernel
theorem own_d29_97 : decode jdk_42_method_150_code 97 = .ok (.return_, 1) := by decide +kernel
def own_Q_rmA39 (Z : State) (ob0 : Addr) (ob1 : Addr) (ob1_count : Int32) (ob1_value : Addr) (k_ob1_value : ClassId) (ob1_value_l : List Value)  (cs : Int32) (wf : Value) (h0 : Heap) (n0 : Nat) (v : Option Value) (h : Heap) (L : List Loc) : Prop := v = none ∧ Fr n0 L ∧ Keep h0 h [ob0] ∧ ∃ rb : Addr, ∃ rk : ClassId, h0.size ≤ rb ∧ Exa Z h ob0 "java/lang/String" ∧ Fld Z h ob0 "java/lang/String" "coder" "B" (.int (0 : Int32)) ∧ Fld Z h ob0 "java/lang/String" "value" "[B" (.ref rb) ∧ ∃ sl : List Value, Arv Z h rb rk .byte ob1_count sl (.int (0 : Int32))
set_option maxRecDepth 65536 in
set_option maxHeartbeats 40000000 in
theorem rmA39 (l : Launch) (Z : State) (a0 : Array Value) (hw : ∀ d ∈ tables_1, d.before a0 Z = true) (ws : List Jvm.Cond) (ob0 : Addr) (ob1 : Addr) (ob1_count : Int32) (ob1_value : Addr) (k_ob1_value : ClassId) (ob1_value_l : List Value)  (cs : Int32) (wf : Value) (h0 : Heap) (n0 : Nat) (O0 : Old Z n0 h0) (G : own_Gl Z cs wf) (E_ob0 : Exa Z h0 ob0 "java/lang/String") (F_ob0_coder : Fld Z h0 ob0 "java/lang/String" "coder" "B" (.int (0 : Int32))) (F_ob0_value : Fld Z h0 ob0 "java/lang/String" "value" "[B" .null) (E_ob1 : Exa Z h0 ob1 "java/lang/StringBuilder") (F_ob1_coder : Fld Z h0 ob1 "java/lang/AbstractStringBuilder" "coder" "B" (.int (0 : Int32))) (F_ob1_count : Fld Z h0 ob1 "java/lang/AbstractStringBuilder" "count" "I" (.int ob1_count)) (V_ob1_value : Arv Z h0 ob1_value k_ob1_value .byte (16 : Int32) ob1_value_l (.int (0 : Int32))) (F_ob1_value : Fld Z h0 ob1 "java/lang/AbstractStringBuilder" "value" "[B" (.ref ob1_value)) (gz_ob0 : n0 ≤ ob0) (hn0 : ¬ (ob1_count < (0 : Int32))) (hn16 : ¬ (ob1_count = (16 : Int32))) (hm0 : ¬ (ob1_count < 0)) (hm5 : (ob1_count).toNatClampNeg ≤ 5) (hcp : (0 : Int32).toNatClampNeg + (ob1_count).toNatClampNeg ≤ (16 : Int32).toNatClampNeg) (hmin : (if ob1_count < (16 : Int32) then ob1_count else (16 : Int32)) = ob1_count) (hsub : (ob1_count - (0 : Int32)) = ob1_count) :
    MetFree l own_y27 (head1 (Jvm.Cond.code own_y27 jdk_42_method_150_code 5 none :: ws) ({ frames := 3, cells := 1, slots := 5, locals := 82 } : Room)) (fun a U => a = #[(.ref ob0), (.ref ob1), .null] ∧ Z.Warmed39 U.vm ∧ U.heap = h0) (fun _ _ _ _ _ => True) (fun _ U o U' => ∃ v L, o = .returned v ∧ own_Q_rmA39 Z ob0 ob1 ob1_count ob1_value k_ob1_value ob1_value_l cs wf h0 n0 v U'.heap L ∧ FrameEnd U o U' L ({ frames := 3, cells := 1, slots := 5, locals := 82 } : Room).cells ({ frames := 3, cells := 1, slots := 5, locals := 82 } : Room).slots) := by
  refine MetFree.of_bodySF (plainFor_of_name own_pn1) hisR ?_
  intro p e s m args below meth c s₁ Bd hml0 hP hK
  obtain ⟨rfl, hZ, hh⟩ := hP
  have hx := Bd.exec
  have hby := Bd.bytes
  have hml : c.maxLocals = 5 := hml0
  have hown : s.vm.findClass "java/lang/String" = some m.cls := findClass_of_methodNamed Bd.named
  have hnm := (name_of_methodNamed Bd.named Bd.method).1
  have X0 : Stand p l e ({ frames := 3, cells := 1, slots := 5, locals := 82 } : Room) s m #[(.ref ob0), (.ref ob1), .null] below meth c s₁ [] 0 0 := Stand.of_body Bd
  have e0 : s₁.heap = h0 := by rw [← hh, Bd.state]; rfl
  have N0 := Fr.nil n0
  have Z0 : n0 ≤ h0.size := O0.1 ▸ O0.2.1
  have g0 : ∀ t, Steps p.tables e below (s₁.setTop (mkF m 0 #[.val (.ref ob0), .val (.ref ob1), .val .null, .unset, .unset] [])) t → Steps p.tables e below (s₁.setTop (entryFrame m #[(.ref ob0), (.ref ob1), .null] 5)) t := fun t k => castTop (own_ef41 m (ob0) (ob1)) k
  have G0 := G
  obtain ⟨S_CS, hcs, S_WF, hwf⟩ := G
  obtain ⟨T1, X1, e1, st1⟩ := initO X0 hx hZ hown (own_w hw 11 rfl) (own_w hw 12 rfl) (own_w hw 13 rfl) e0 (g := (mkF m 1 #[.val (.ref ob0), .val (.ref ob1), .val .null, .unset, .unset] [(.ref ob0)])) rfl (by rw [hml]; rfl) rfl (hb hby own_d29_1) (by decide) (W := 0) (by show 2 * 0 + _ ≤ _; exact Nat.le_of_eq rfl) (by decide)
  obtain ⟨cq2, kq2, q2a, q2b, q2c⟩ := isOf hZ e1 E_ob1
  obtain ⟨_, _, ⟨T2, L2, k2, n2⟩, -, X2, ⟨Lc2, hQ2, l2, y2, z2⟩, st2⟩ := X1.virtualBack hx (y := own_y28) (z := own_y28) hown (mvT hZ (own_w hw 165 rfl)) (mvT hZ (own_w hw 166 rfl)) (notFace_of_selects (args := #[]) (mvT hZ (own_w hw 168 rfl))) (mvT hZ (own_w hw 168 rfl)) (mvT hZ (own_w hw 167 rfl)) (by decide) (backOf (W := 0) (rmA40 l Z a0 hw [] ob1 ob1_value  cs wf h0 n0 O0 G0 E_ob1 F_ob1_value  ) hZ (own_w hw 169 rfl) (own_w hw 97 rfl) (by decide) (by decide)) q2a q2c (g := (mkF m 5 #[.val (.ref ob0), .val (.ref ob1), .val .null, .unset, .unset] [(.ref ob1)])) rfl (by rw [hml]; rfl) (Steps.refl _) (argsL := []) (rest := []) (lenOf own_pd23 rfl) rfl (by show 2 * 0 + _ ≤ _; exact Nat.le_of_eq rfl) (hb hby own_d29_5) (fun _ _ => ⟨rfl, e1, (by decide : 0 + 0 ≤ _), (by decide : 0 + 0 ≤ _)⟩)
  dsimp only [Pt.U, Pt.locs, Pt.cells, Pt.slots] at X2 l2 y2 z2 st2 hQ2
  subst l2 y2 z2
  obtain ⟨rfl, Nq2, e2⟩ := hQ2
  have N2 := Fr.app N0 Nq2
  obtain ⟨cq3, kq3, q3a, q3b, q3c⟩ := isOf hZ e2 E_ob1
  obtain ⟨_, _, ⟨T3, L3, k3, n3⟩, -, X3, ⟨Lc3, hQ3, l3, y3, z3⟩, st3⟩ := X2.virtualBack hx (y := own_y30) (z := own_y29) hown (mvT hZ (own_w hw 170 rfl)) (mvT hZ (own_w hw 171 rfl)) (own_nf (args := #[]) (mvT hZ (own_w hw 130 rfl)) rfl) (mvT hZ (own_w hw 173 rfl)) (mvT hZ (own_w hw 174 rfl)) (by decide) (backOf (W := 0) (rmA41 l Z a0 hw [] ob1 (ob1_count)  cs wf h0 n0 O0 G0 E_ob1 F_ob1_count  ) hZ (own_w hw 175 rfl) (own_w hw 89 rfl) (by decide) (by decide)) q3a q3c (g := (mkF m 10 #[.val (.ref ob0), .val (.ref ob1), .val .null, .val (.ref ob1_value), .unset] [(.ref ob1)])) rfl (by rw [hml]; rfl) (Steps.refl _) (argsL := []) (rest := []) (lenOf own_pd17 rfl) rfl (by show 2 * 0 + _ ≤ _; exact Nat.le_of_eq rfl) (hb hby own_d29_10) (fun _ _ => ⟨rfl, e2, (by decide : 0 + 0 ≤ _), (by decide : 0 + 0 ≤ _)⟩)
  dsimp only [Pt.U, Pt.locs, Pt.cells, Pt.slots] at X3 l3 y3 z3 st3 hQ3
  subst l3 y3 z3
  obtain ⟨rfl, Nq3, e3⟩ := hQ3
  have N3 := Fr.app N2 Nq3
  obtain ⟨cq4, kq4, q4a, q4b, q4c⟩ := isOf hZ e3 E_ob1
  obtain ⟨_, _, ⟨T4, L4, k4, n4⟩, -, X4, ⟨Lc4, hQ4, l4, y4, z4⟩, st4⟩ := X3.virtualBack hx (y := own_y31) (z := own_y31) hown (mvT hZ (own_w hw 178 rfl)) (mvT hZ (own_w hw 179 rfl)) (notFace_of_selects (args := #[]) (mvT hZ (own_w hw 181 rfl))) (mvT hZ (own_w hw 181 rfl)) (mvT hZ (own_w hw 180 rfl)) (by decide) (backOf (W := 0) (rmA43 l Z a0 hw [] ob1  cs wf h0 n0 O0 G0 E_ob1 F_ob1_coder  ) hZ (own_w hw 182 rfl) (own_w hw 97 rfl) (by decide) (by decide)) q4a q4c (g := (mkF m 16 #[.val (.ref ob0), .val (.ref ob1), .val .null, .val (.ref ob1_value), .val (.int ob1_count)] [(.ref ob1)])) rfl (by rw [hml]; rfl) (Steps.refl _) (argsL := []) (rest := []) (lenOf own_pd11 rfl) rfl (by show 2 * 0 + _ ≤ _; exact Nat.le_of_eq rfl) (hb hby own_d29_16) (fun _ _ => ⟨rfl, e3, (by decide : 0 + 0 ≤ _), (by decide : 0 + 0 ≤ _)⟩)
  dsimp only [Pt.U, Pt.locs, Pt.cells, Pt.slots] at X4 l4 y4 z4 st4 hQ4
  subst l4 y4 z4
  obtain ⟨rfl, Nq4, e4⟩ := hQ4
  have N4 := Fr.app N3 Nq4
  obtain ⟨T5, h5, X5, e5, W5, st5⟩ := putFN X4 hx hZ hown (own_w hw 26 rfl) Via.refl e4 F_ob0_coder E_ob0 (Or.inr ⟨(own_w hw 27 rfl), rfl, hnm⟩) (own_w hw 2 rfl) (ty := .byte) (v' := (.int (0 : Int32))) (by decide) rfl rfl (g := (mkF m 24 #[.val (.ref ob0), .val (.ref ob1), .val .null, .val (.ref ob1_value), .val (.int ob1_count)] [(.int (0 : Int32)), (.ref ob0)])) rfl rfl (hb hby own_d29_24)
  have Fw5 := F_ob0_coder.same W5
  have N5 := Fr.snoc X5 N4 gz_ob0
  obtain ⟨LL6, XL6, NL6⟩ : ∃ LL : List Loc, Stand p l e ({ frames := 3, cells := 1, slots := 5, locals := 82 } : Room) s m #[(.ref ob0), (.ref ob1), .null] below meth c T5 LL 0 0 ∧ Fr n0 LL := ⟨_, X5, N5⟩
  have f7 := (V_ob1_value.other W5 (Ne.symm (Exa.neArv E_ob0 V_ob1_value (own_w hw 2 rfl))))
  have o8 : Old Z n0 h5 := (Old.wr O0 W5 gz_ob0)
  obtain ⟨_, _, ⟨T9, L9, k9, n9⟩, -, X9, ⟨Lc9, hQ9, l9, y9, z9⟩, st9⟩ := Jvm.LawKit.callS XL6 hx (y := own_y32) hown (mvT hZ (own_w hw 183 rfl)) (mvT hZ (own_w hw 184 rfl)) (mvT hZ (own_w hw 185 rfl)) (mvT hZ (own_w hw 186 rfl)) (by decide) (backOf (W := 1) (rmA44 l Z a0 hw [] ob1_value k_ob1_value ob1_value_l (ob1_count)  cs wf h5 n0 o8 G0 f7  hn0 hn16 hm0 hm5 hcp hmin hsub) hZ (own_w hw 186 rfl) (own_w hw 185 rfl) (by decide) (by decide)) (g := (mkF m 32 #[.val (.ref ob0), .val (.ref ob1), .val .null, .val (.ref ob1_value), .val (.int ob1_count)] [(.int ob1_count), (.int (0 : Int32)), (.ref ob1_value), (.ref ob0)])) rfl (by rw [hml]; rfl) (argsL := [(.ref ob1_value), (.int (0 : Int32)), (.int ob1_count)]) (rest := [(.ref ob0)]) (lenOf own_pd26 rfl) rfl (by show 2 * 0 + _ ≤ _; exact Nat.le_of_eq rfl) (hb hby own_d29_32) (fun _ _ => ⟨rfl, e5, (by decide : 0 + 1 ≤ _), (by decide : 0 + 5 ≤ _)⟩)
  dsimp only [Pt.U, Pt.locs, Pt.cells, Pt.slots] at X9 l9 y9 z9 st9 hQ9
  subst l9 y9 z9
  obtain ⟨rb9, rk9, rfl, Nq9, K9, hb9, sl9, Va9⟩ := hQ9
  have N9 := Fr.app NL6 Nq9
  have sz_rb9 : h0.size ≤ rb9 := Nat.le_trans (Keep.of_wr W5).1 hb9
  have gz_rb9 : n0 ≤ rb9 := Nat.le_trans Z0 sz_rb9
  have ne_ob0_rb9 : ob0 ≠ rb9 := Nat.ne_of_lt (Nat.lt_of_lt_of_le (E_ob0.wr W5).lt hb9)
  have ne_ob1_rb9 : ob1 ≠ rb9 := Nat.ne_of_lt (Nat.lt_of_lt_of_le (E_ob1.wr W5).lt hb9)
  have ne_ob1_value_rb9 : ob1_value ≠ rb9 := Nat.ne_of_lt (Nat.lt_of_lt_of_le f7.lt hb9)
  have f10 := ((E_ob0.wr W5).keep K9)
  have f11 := ((F_ob0_value.other W5 (Or.inr (slot_ne (own_la0 hw) (own_la1 hw) (by decide) own_ty0 own_ty1))).keep K9 nin0)
  obtain ⟨T12, h12, X12, e12, W12, st12⟩ := putF X9 hx hZ hown (host := "") (Or.inl (own_w hw 28 rfl)) Via.refl rfl f11 f10 (Or.inr ⟨(own_w hw 29 rfl), rfl, hnm⟩) (own_w hw 2 rfl) (ty := (.array .byte)) (by decide) rfl rfl (g := (mkF m 35 #[.val (.ref ob0), .val (.ref ob1), .val .null, .val (.ref ob1_value), .val (.int ob1_count)] [(.ref rb9), (.ref ob0)])) rfl rfl (hb hby own_d29_35)
  have Fw12 := f11.same W12
  have N12 := Fr.snoc X12 N9 gz_ob0
  have g13 : ∀ t, Steps p.tables e below (T12.setTop (mkF m 97 #[.val (.ref ob0), .val (.ref ob1), .val .null, .val (.ref ob1_value), .val (.int ob1_count)] [])) t → Steps p.tables e below (s₁.setTop (entryFrame m #[(.ref ob0), (.ref ob1), .null] 5)) t := by
    intro t k
    refine g0 t ?_
    show Steps p.tables e below (s₁.setTop (mkF m 0 #[.val (.ref ob0), .val (.ref ob1), .val .null, .unset, .unset] [])) _
    refine XS.aloadN X0.here hx rfl (hb hby own_d29_0) rfl rfl ?_
    refine st1 _ ?_
    refine XS.aloadN X1.here hx rfl (hb hby own_d29_4) rfl rfl ?_
    refine st2.trans ?_
    show Steps p.tables e below (T2.setTop (mkF m 8 #[.val (.ref ob0), .val (.ref ob1), .val .null, .unset, .unset] [(.ref ob1_value)])) _
    refine XS.astoreN X2.here hx rfl (hb hby own_d29_8) rfl rfl (l' := #[.val (.ref ob0), .val (.ref ob1), .val .null, .val (.ref ob1_value), .unset]) rfl ?_
    refine XS.aloadN X2.here hx rfl (hb hby own_d29_9) rfl rfl ?_
    refine st3.trans ?_
    refine XS.istore X3.here hx rfl (hb hby own_d29_13) rfl (l' := #[.val (.ref ob0), .val (.ref ob1), .val .null, .val (.ref ob1_value), .val (.int ob1_count)]) rfl ?_
    show Steps p.tables e below (T3.setTop (mkF m 15 #[.val (.ref ob0), .val (.ref ob1), .val .null, .val (.ref ob1_value), .val (.int ob1_count)] [])) _
    refine XS.aloadN X3.here hx rfl (hb hby own_d29_15) rfl rfl ?_
    refine st4.trans ?_
    refine XS.ifNo X4.here hx rfl (hb hby own_d29_19) rfl ((if0 _ _).trans (feq (by decide : ¬ ((1 : Int32) = (0 : Int32)))).1) ?_
    refine XS.aloadN X4.here hx rfl (hb hby own_d29_22) rfl rfl ?_
    show Steps p.tables e below (T4.setTop (mkF m 23 #[.val (.ref ob0), .val (.ref ob1), .val .null, .val (.ref ob1_value), .val (.int ob1_count)] [(.ref ob0)])) _
    refine XS.iconst X4.here hx rfl (hb hby own_d29_23) ?_
    refine st5 _ ?_
    refine XS.aloadN X5.here hx rfl (hb hby own_d29_27) rfl rfl ?_
    refine XS.aloadN X5.here hx rfl (hb hby own_d29_28) rfl rfl ?_
    show Steps p.tables e below (T5.setTop (mkF m 29 #[.val (.ref ob0), .val (.ref ob1), .val .null, .val (.ref ob1_value), .val (.int ob1_count)] [(.ref ob1_value), (.ref ob0)])) _
    refine XS.iconst X5.here hx rfl (hb hby own_d29_29) ?_
    refine XS.iload X5.here hx rfl (hb hby own_d29_30) rfl ?_
    refine st9 _ ?_
    refine st12 _ ?_
    show Steps p.tables e below (T12.setTop (mkF m 38 #[.val (.ref ob0), .val (.ref ob1), .val .null, .val (.ref ob1_value), .val (.int ob1_count)] [])) _
    refine XS.goto X12.here hx rfl (pc0 := 38) (pc' := 97) rfl (hb hby own_d29_38) (by decide) (by decide) ?_
    exact k
  obtain ⟨fs, hrt, hrun, hended, hW, hsame⟩ := X12.leave (v := none) (fun _ => rfl)
  have f14 := (f10.wr W12)
  have f15 := ((Fw5.keep K9 nin0).other W12 (Or.inr (slot_ne (own_la1 hw) (own_la0 hw) (by decide) own_ty1 own_ty0)))
  have f16 := (Va9.other W12 (Ne.symm ne_ob0_rb9))
  refine ⟨_, _, g13 _ ?_, hrun, hended, _, _, rfl, ?_, ⟨_, rfl⟩, hW, hsame.mono (by decide) (by decide)⟩
  · show Steps p.tables e below (T12.setTop (mkF m 97 #[.val (.ref ob0), .val (.ref ob1), .val .null, .val (.ref ob1_value), .val (.int ob1_count)] [])) _
    exact X12.returnOut hx Bd.returns (hb hby own_d29_97) hrt
  · show own_Q_rmA39 Z ob0 ob1 ob1_count ob1_value k_ob1_value ob1_value_l cs wf h0 n0 _ T12.heap _
    rw [e12]
    exact ⟨rfl, N12, (Keep.wr (Keep.trans (Keep.wr (Keep.refl h0 [ob0]) W5 (Or.inl (List.mem_of_getElem? (i := 0) rfl))) K9 all0) W12 (Or.inl (List.mem_of_getElem? (i := 0) rfl))), rb9, _, sz_rb9, f14, f15, Fw12, _, f16⟩
theorem own_pd27 : parseMethodDescriptor "(Ljava/lang/AbstractStringBuilder;Ljava/lang/Void;)V" = some ⟨[(.object "java/lang/AbstractStringBuilder"), (.object "java/lang/Void")], none⟩ := by decide +kernel
theorem own_d28_6 : decode jdk_42_method_53_code 6 = .ok (.return_, 1) := by decide +kernel
def own_Q_rmA38 (Z : State) (ob0 : Addr) (ob1 : Addr) (ob1_count : Int32) (ob1_value : Addr) (k_ob1_value : ClassId) (ob1_value_l : List Value)  (cs : Int32) (wf : Value) (h0 : Heap) (n0 : Nat) (v : Option Value) (h : Heap) (L : List Loc) : Prop := v = none ∧ Fr n0 L ∧ Keep h0 h [ob0] ∧ ∃ rb : Addr, ∃ rk : ClassId, h0.size ≤ rb ∧ Exa Z h ob0 "java/lang/String" ∧ Fld Z h ob0 "java/lang/String" "coder" "B" (.int (0 : Int32)) ∧ Fld Z h ob0 "java/lang/String" "value" "[B" (.ref rb) ∧ ∃ sl : List Value, Arv Z h rb rk .byte ob1_count sl (.int (0 : Int32))
set_option maxRecDepth 65536 in
set_option maxHeartbeats 40000000 in
theorem rmA38 (l : Launch) (Z : State) (a0 : Array Value) (hw : ∀ d ∈ tables_1, d.before a0 Z = true) (ws : List Jvm.Cond) (ob0 : Addr) (ob1 : Addr) (ob1_count : Int32) (ob1_value : Addr) (k_ob1_value : ClassId) (ob1_value_l : List Value)  (cs : Int32) (wf : Value) (h0 : Heap) (n0 : Nat) (O0 : Old Z n0 h0) (G : own_Gl Z cs wf) (E_ob0 : Exa Z h0 ob0 "java/lang/String") (F_ob0_coder : Fld Z h0 ob0 "java/lang/String" "coder" "B" (.int (0 : Int32))) (F_ob0_value : Fld Z h0 ob0 "java/lang/String" "value" "[B" .null) (E_ob1 : Exa Z h0 ob1 "java/lang/StringBuilder") (F_ob1_coder : Fld Z h0 ob1 "java/lang/AbstractStringBuilder" "coder" "B" (.int (0 : Int32))) (F_ob1_count : Fld Z h0 ob1 "java/lang/AbstractStringBuilder" "count" "I" (.int ob1_count)) (V_ob1_value : Arv Z h0 ob1_value k_ob1_value .byte (16 : Int32) ob1_value_l (.int (0 : Int32))) (F_ob1_value : Fld Z h0 ob1 "java/lang/AbstractStringBuilder" "value" "[B" (.ref ob1_value)) (gz_ob0 : n0 ≤ ob0) (hn0 : ¬ (ob1_count < (0 : Int32))) (hn16 : ¬ (ob1_count = (16 : Int32))) (hm0 : ¬ (ob1_count < 0)) (hm5 : (ob1_count).toNatClampNeg ≤ 5) (hcp : (0 : Int32).toNatClampNeg + (ob1_count).toNatClampNeg ≤ (16 : Int32).toNatClampNeg) (hmin : (if ob1_count < (16 : Int32) then ob1_count else (16 : Int32)) = ob1_count) (hsub : (ob1_count - (0 : Int32)) = ob1_count) :
    MetFree l own_y26 (head1 (Jvm.Cond.code own_y26 jdk_42_method_53_code 2 none :: ws) ({ frames := 4, cells := 1, slots := 5, locals := 98 } : Room)) (fun a U => a = #[(.ref ob0), (.ref ob1)] ∧ Z.Warmed39 U.vm ∧ U.heap = h0) (fun _ _ _ _ _ => True) (fun _ U o U' => ∃ v L, o = .returned v ∧ own_Q_rmA38 Z ob0 ob1 ob1_count ob1_value k_ob1_value ob1_value_l cs wf h0 n0 v U'.heap L ∧ FrameEnd U o U' L ({ frames := 4, cells := 1, slots := 5, locals := 98 } : Room).cells ({ frames := 4, cells := 1, slots := 5, locals := 98 } : Room).slots) := by
  refine MetFree.of_bodySF (plainFor_of_name own_pn1) hisR ?_
  intro p e s m args below meth c s₁ Bd hml0 hP hK
  obtain ⟨rfl, hZ, hh⟩ := hP
  have hx := Bd.exec
  have hby := Bd.bytes
  have hml : c.maxLocals = 2 := hml0
  have hown : s.vm.findClass "java/lang/String" = some m.cls := findClass_of_methodNamed Bd.named
  have hnm := (name_of_methodNamed Bd.named Bd.method).1
  have X0 : Stand p l e ({ frames := 4, cells := 1, slots := 5, locals := 98 } : Room) s m #[(.ref ob0), (.ref ob1)] below meth c s₁ [] 0 0 := Stand.of_body Bd
  have e0 : s₁.heap = h0 := by rw [← hh, Bd.state]; rfl
  have N0 := Fr.nil n0
  have Z0 : n0 ≤ h0.size := O0.1 ▸ O0.2.1
  have g0 : ∀ t, Steps p.tables e below (s₁.setTop (mkF m 0 #[.val (.ref ob0), .val (.ref ob1)] [])) t → Steps p.tables e below (s₁.setTop (entryFrame m #[(.ref ob0), (.ref ob1)] 2)) t := fun t k => castTop (own_ef2 m (ob0) (ob1)) k
  have G0 := G
  obtain ⟨S_CS, hcs, S_WF, hwf⟩ := G
  obtain ⟨_, _, ⟨T1, L1, k1, n1⟩, -, X1, ⟨Lc1, hQ1, l1, y1, z1⟩, st1⟩ := X0.specialBack hx (y := own_y27) rfl hown (mvT hZ (own_w hw 162 rfl)) (mvT hZ (own_w hw 163 rfl)) (mvT hZ (own_w hw 164 rfl)) (by decide) (backOf (W := 0) (rmA39 l Z a0 hw [] ob0 ob1 (ob1_count) ob1_value k_ob1_value ob1_value_l  cs wf h0 n0 O0 G0 E_ob0 F_ob0_coder F_ob0_value E_ob1 F_ob1_coder F_ob1_count V_ob1_value F_ob1_value gz_ob0 hn0 hn16 hm0 hm5 hcp hmin hsub) hZ (own_w hw 164 rfl) (own_w hw 3 rfl) (by decide) (by decide)) (g := (mkF m 3 #[.val (.ref ob0), .val (.ref ob1)] [.null, (.ref ob1), (.ref ob0)])) rfl (by rw [hml]; rfl) (Steps.refl _) (a := ob0) (argsL := [(.ref ob1), .null]) (rest := []) (lenOf own_pd27 rfl) rfl (by show 2 * 0 + _ ≤ _; exact Nat.le_of_eq rfl) (hb hby own_d28_3) (fun _ _ => ⟨rfl, e0, (by decide : 0 + 1 ≤ _), (by decide : 0 + 5 ≤ _)⟩)
  dsimp only [Pt.U, Pt.locs, Pt.cells, Pt.slots] at X1 l1 y1 z1 st1 hQ1
  subst l1 y1 z1
  obtain ⟨rfl, Nq1, K1, rb1, rk1, hb1, Qe1, Qc1, Qv1, sl1, Va1⟩ := hQ1
  have N1 := Fr.app N0 Nq1
  have sz_rb1 : h0.size ≤ rb1 := hb1
  have gz_rb1 : n0 ≤ rb1 := Nat.le_trans Z0 sz_rb1
  have ne_ob0_rb1 : ob0 ≠ rb1 := Nat.ne_of_lt (Nat.lt_of_lt_of_le E_ob0.lt hb1)
  have ne_ob1_rb1 : ob1 ≠ rb1 := Nat.ne_of_lt (Nat.lt_of_lt_of_le E_ob1.lt hb1)
  have ne_ob1_value_rb1 : ob1_value ≠ rb1 := Nat.ne_of_lt (Nat.lt_of_lt_of_le V_ob1_value.lt hb1)
  have g2 : ∀ t, Steps p.tables e below (T1.setTop (mkF m 6 #[.val (.ref ob0), .val (.ref ob1)] [])) t → Steps p.tables e below (s₁.setTop (entryFrame m #[(.ref ob0), (.ref ob1)] 2)) t := by
    intro t k
    refine g0 t ?_
    show Steps p.tables e below (s₁.setTop (mkF m 0 #[.val (.ref ob0), .val (.ref ob1)] [])) _
    refine XS.aloadN X0.here hx rfl (hb hby own_d28_0) rfl rfl ?_
    refine XS.aloadN X0.here hx rfl (hb hby own_d28_1) rfl rfl ?_
    refine XS.aconstNull X0.here hx rfl (hb hby own_d28_2) ?_
    refine st1.trans ?_
    exact k
  obtain ⟨fs, hrt, hrun, hended, hW, hsame⟩ := X1.leave (v := none) (fun _ => rfl)
  refine ⟨_, _, g2 _ ?_, hrun, hended, _, _, rfl, ?_, ⟨_, rfl⟩, hW, hsame.mono (by decide) (by decide)⟩
  · show Steps p.tables e below (T1.setTop (mkF m 6 #[.val (.ref ob0), .val (.ref ob1)] [])) _
    exact X1.returnOut hx Bd.returns (hb hby own_d28_6) hrt
  · show own_Q_rmA38 Z ob0 ob1 ob1_count ob1_value k_ob1_value ob1_value_l cs wf h0 n0 _ T1.heap _
    exact ⟨rfl, N1, (Keep.trans (Keep.refl h0 [ob0]) K1 (allS (Or.inl (List.mem_of_getElem? (i := 0) rfl)) all0)), rb1, _, sz_rb1, Qe1, Qc1, Qv1, _, Va1⟩
theorem own_pd28 : parseMethodDescriptor "(Ljava/lang/StringBuilder;)V" = some ⟨[(.object "java/lang/StringBuilder")], none⟩ := by decide +kernel
theorem own_d27_8 : decode jdk_67_method_42_code 8 = .ok (.areturn, 1) := by decide +kernel
def own_Q_rmA37 (Z : State) (ob0 : Addr) (ob0_count : Int32) (ob0_value : Addr) (k_ob0_value : ClassId) (ob0_value_l : List Value)  (cs : Int32) (wf : Value) (h0 : Heap) (n0 : Nat) (v : Option Value) (h : Heap) (L : List Loc) : Prop := ∃ sa sb : Addr, ∃ sk : ClassId, ∃ sl : List Value, v = some (.ref sa) ∧ Fr n0 L ∧ Keep h0 h [] ∧ h0.size ≤ sa ∧ h0.size ≤ sb ∧ Exa Z h sa "java/lang/String" ∧ Fld Z h sa "java/lang/String" "coder" "B" (.int (0 : Int32)) ∧ Fld Z h sa "java/lang/String" "value" "[B" (.ref sb) ∧ Arv Z h sb sk .byte ob0_count sl (.int (0 : Int32))
set_option maxRecDepth 65536 in
set_option maxHeartbeats 40000000 in
theorem rmA37 (l : Launch) (Z : State) (a0 : Array Value) (hw : ∀ d ∈ tables_1, d.before a0 Z = true) (ws : List Jvm.Cond) (ob0 : Addr) (ob0_count : Int32) (ob0_value : Addr) (k_ob0_value : ClassId) (ob0_value_l : List Value)  (cs : Int32) (wf : Value) (h0 : Heap) (n0 : Nat) (O0 : Old Z n0 h0) (G : own_Gl Z cs wf) (E_ob0 : Exa Z h0 ob0 "java/lang/StringBuilder") (F_ob0_coder : Fld Z h0 ob0 "java/lang/AbstractStringBuilder" "coder" "B" (.int (0 : Int32))) (F_ob0_count : Fld Z h0 ob0 "java/lang/AbstractStringBuilder" "count" "I" (.int ob0_count)) (V_ob0_value : Arv Z h0 ob0_value k_ob0_value .byte (16 : Int32) ob0_value_l (.int (0 : Int32))) (F_ob0_value : Fld Z h0 ob0 "java/lang/AbstractStringBuilder" "value" "[B" (.ref ob0_value)) (hn0 : ¬ (ob0_count < (0 : Int32))) (hn16 : ¬ (ob0_count = (16 : Int32))) (hm0 : ¬ (ob0_count < 0)) (hm5 : (ob0_count).toNatClampNeg ≤ 5) (hcp : (0 : Int32).toNatClampNeg + (ob0_count).toNatClampNeg ≤ (16 : Int32).toNatClampNeg) (hmin : (if ob0_count < (16 : Int32) then ob0_count else (16 : Int32)) = ob0_count) (hsub : (ob0_count - (0 : Int32)) = ob0_count) :
    MetFree l own_y25 (head1 (Jvm.Cond.code own_y25 jdk_67_method_42_code 1 (some (.object "java/lang/String")) :: ws) ({ frames := 5, cells := 2, slots := 9, locals := 112 } : Room)) (fun a U => a = #[(.ref ob0)] ∧ Z.Warmed39 U.vm ∧ U.heap = h0) (fun _ _ _ _ _ => True) (fun _ U o U' => ∃ v L, o = .returned v ∧ own_Q_rmA37 Z ob0 ob0_count ob0_value k_ob0_value ob0_value_l cs wf h0 n0 v U'.heap L ∧ FrameEnd U o U' L ({ frames := 5, cells := 2, slots := 9, locals := 112 } : Room).cells ({ frames := 5, cells := 2, slots := 9, locals := 112 } : Room).slots) := by
  refine MetFree.of_bodySF (plainFor_of_name own_pn6) hisR ?_
  intro p e s m args below meth c s₁ Bd hml0 hP hK
  obtain ⟨rfl, hZ, hh⟩ := hP
  have hx := Bd.exec
  have hby := Bd.bytes
  have hml : c.maxLocals = 1 := hml0
  have hown : s.vm.findClass "java/lang/StringBuilder" = some m.cls := findClass_of_methodNamed Bd.named
  have hnm := (name_of_methodNamed Bd.named Bd.method).1
  have X0 : Stand p l e ({ frames := 5, cells := 2, slots := 9, locals := 112 } : Room) s m #[(.ref ob0)] below meth c s₁ [] 0 0 := Stand.of_body Bd
  have e0 : s₁.heap = h0 := by rw [← hh, Bd.state]; rfl
  have N0 := Fr.nil n0
  have Z0 : n0 ≤ h0.size := O0.1 ▸ O0.2.1
  have g0 : ∀ t, Steps p.tables e below (s₁.setTop (mkF m 0 #[.val (.ref ob0)] [])) t → Steps p.tables e below (s₁.setTop (entryFrame m #[(.ref ob0)] 1)) t := fun t k => castTop (own_ef12 m (ob0)) k
  have G0 := G
  obtain ⟨S_CS, hcs, S_WF, hwf⟩ := G
  obtain ⟨T1, h1, X1, e1, E1, A1, D1, -, st1⟩ := newO X0 hx hZ hown (own_w hw 158 rfl) (own_w hw 2 rfl) (own_w hw 3 rfl) e0 (g := (mkF m 0 #[.val (.ref ob0)] [])) rfl (hb hby own_d27_0) (by decide) (by decide)
  obtain ⟨b1, q_b1⟩ : ∃ z, z = h0.size := ⟨_, rfl⟩
  rw [← q_b1] at A1 D1 st1
  have sz_b1 : h0.size ≤ b1 := Nat.le_of_eq q_b1.symm
  have gz_b1 : n0 ≤ b1 := Nat.le_trans Z0 sz_b1
  have ne_ob0_b1 : ob0 ≠ b1 := Nat.ne_of_lt (Nat.lt_of_lt_of_le E_ob0.lt (Nat.le_of_eq q_b1.symm))
  have ne_ob0_value_b1 : ob0_value ≠ b1 := Nat.ne_of_lt (Nat.lt_of_lt_of_le V_ob0_value.lt (Nat.le_of_eq q_b1.symm))
  have F1_coder : Fld Z h1 b1 "java/lang/String" "coder" "B" (.int (0 : Int32)) := D1 (Or.inr (own_w hw 27 rfl)) (ty := .byte) (by decide)
  have F1_value : Fld Z h1 b1 "java/lang/String" "value" "[B" .null := D1 (Or.inr (own_w hw 29 rfl)) (ty := (.array .byte)) (by decide)
  have f2 := (E_ob0.ext E1)
  have f3 := (F_ob0_coder.ext E1)
  have f4 := (F_ob0_count.ext E1)
  have f5 := (V_ob0_value.ext E1)
  have f6 := (F_ob0_value.ext E1)
  have o7 : Old Z n0 h1 := (Old.ext O0 E1)
  obtain ⟨_, _, ⟨T8, L8, k8, n8⟩, -, X8, ⟨Lc8, hQ8, l8, y8, z8⟩, st8⟩ := X1.specialBack hx (y := own_y26) rfl hown (mvT hZ (own_w hw 159 rfl)) (mvT hZ (own_w hw 160 rfl)) (mvT hZ (own_w hw 161 rfl)) (by decide) (backOf (W := 1) (rmA38 l Z a0 hw [] b1 ob0 (ob0_count) ob0_value k_ob0_value ob0_value_l  cs wf h1 n0 o7 G0 A1 F1_coder F1_value f2 f3 f4 f5 f6 gz_b1 hn0 hn16 hm0 hm5 hcp hmin hsub) hZ (own_w hw 161 rfl) (own_w hw 3 rfl) (by decide) (by decide)) (g := (mkF m 5 #[.val (.ref ob0)] [(.ref ob0), (.ref b1), (.ref b1)])) rfl (by rw [hml]; rfl) (Steps.refl _) (a := b1) (argsL := [(.ref ob0)]) (rest := [(.ref b1)]) (lenOf own_pd28 rfl) rfl (by show 2 * 0 + _ ≤ _; exact Nat.le_of_eq rfl) (hb hby own_d27_5) (fun _ _ => ⟨rfl, e1, (by decide : 1 + 1 ≤ _), (by decide : 4 + 5 ≤ _)⟩)
  dsimp only [Pt.U, Pt.locs, Pt.cells, Pt.slots] at X8 l8 y8 z8 st8 hQ8
  subst l8 y8 z8
  obtain ⟨rfl, Nq8, K8, rb8, rk8, hb8, Qe8, Qc8, Qv8, sl8, Va8⟩ := hQ8
  have N8 := Fr.app N0 Nq8
  have sz_rb8 : h0.size ≤ rb8 := Nat.le_trans E1.1 hb8
  have gz_rb8 : n0 ≤ rb8 := Nat.le_trans Z0 sz_rb8
  have ne_b1_rb8 : b1 ≠ rb8 := Nat.ne_of_lt (Nat.lt_of_lt_of_le A1.lt hb8)
  have ne_ob0_rb8 : ob0 ≠ rb8 := Nat.ne_of_lt (Nat.lt_of_lt_of_le f2.lt hb8)
  have ne_ob0_value_rb8 : ob0_value ≠ rb8 := Nat.ne_of_lt (Nat.lt_of_lt_of_le f5.lt hb8)
  have g9 : ∀ t, Steps p.tables e below (T8.setTop (mkF m 8 #[.val (.ref ob0)] [(.ref b1)])) t → Steps p.tables e below (s₁.setTop (entryFrame m #[(.ref ob0)] 1)) t := by
    intro t k
    refine g0 t ?_
    show Steps p.tables e below (s₁.setTop (mkF m 0 #[.val (.ref ob0)] [])) _
    refine st1 _ ?_
    refine XS.dup X1.here hx rfl (hb hby own_d27_3) rfl rfl ?_
    refine XS.aloadN X1.here hx rfl (hb hby own_d27_4) rfl rfl ?_
    refine st8.trans ?_
    exact k
  obtain ⟨fs, hrt, hrun, hended, hW, hsame⟩ := X8.leave (v := some (.ref b1)) (fun h => by rw [Bd.returns] at h; cases h)
  refine ⟨_, _, g9 _ ?_, hrun, hended, _, _, rfl, ?_, ⟨_, rfl⟩, hW, hsame.mono (by decide) (by decide)⟩
  · show Steps p.tables e below (T8.setTop (mkF m 8 #[.val (.ref ob0)] [(.ref b1)])) _
    jvm_step X8.here [X8.here.top, hx, (hb hby own_d27_8), X8.method', Bd.returns, Value.isRef, FieldType.isReference]
    first | (intro acts; rw [hrt _ acts rfl rfl rfl]) | rw [hrt _ _ rfl rfl rfl]
    exact Steps.refl _
  · show own_Q_rmA37 Z ob0 ob0_count ob0_value k_ob0_value ob0_value_l cs wf h0 n0 _ T8.heap _
    exact ⟨b1, rb8, _, _, rfl, N8, (Keep.trans (Keep.ext (Keep.refl h0 []) E1) K8 (allS (Or.inr sz_b1) all0)), sz_b1, sz_rb8, Qe8, Qc8, Qv8, Va8⟩
def own_Q_rmA21 (Z : State) (ob0 : Addr) (ob0_argument : Addr) (ob0_argument_value : Addr) (k_ob0_argument_value : ClassId) (ob0_argument_value_l : List Value) (ob0_name : Addr) (ob0_name_value : Addr) (k_ob0_name_value : ClassId) (ob0_name_value_l : List Value)  (cs : Int32) (wf : Value) (h0 : Heap) (n0 : Nat) (v : Option Value) (h : Heap) (L : List Loc) : Prop := ∃ sa sb : Addr, ∃ sk : ClassId, ∃ sl : List Value, v = some (.ref sa) ∧ Fr n0 L ∧ Keep h0 h [] ∧ h0.size ≤ sa ∧ h0.size ≤ sb ∧ Exa Z h sa "java/lang/String" ∧ Fld Z h sa "java/lang/String" "coder" "B" (.int (0 : Int32)) ∧ Fld Z h sa "java/lang/String" "value" "[B" (.ref sb) ∧ Arv Z h sb sk .byte (3 : Int32) sl (.int (0 : Int32))
set_option maxRecDepth 65536 in
set_option maxHeartbeats 40000000 in
theorem rmA21 (l : Launch) (Z : State) (a0 : Array Value) (hw : ∀ d ∈ tables_1, d.before a0 Z = true) (ws : List Jvm.Cond) (ob0 : Addr) (ob0_argument : Addr) (ob0_argument_value : Addr) (k_ob0_argument_value : ClassId) (ob0_argument_value_l : List Value) (ob0_name : Addr) (ob0_name_value : Addr) (k_ob0_name_value : ClassId) (ob0_name_value_l : List Value)  (cs : Int32) (wf : Value) (h0 : Heap) (n0 : Nat) (O0 : Old Z n0 h0) (G : own_Gl Z cs wf) (E_ob0 : Exa Z h0 ob0 "com/example/momus/momus/cli/Option") (E_ob0_argument : Exa Z h0 ob0_argument "java/lang/String") (F_ob0_argument_coder : Fld Z h0 ob0_argument "java/lang/String" "coder" "B" (.int (0 : Int32))) (V_ob0_argument_value : Arv Z h0 ob0_argument_value k_ob0_argument_value .byte (0 : Int32) ob0_argument_value_l (.int (0 : Int32))) (F_ob0_argument_value : Fld Z h0 ob0_argument "java/lang/String" "value" "[B" (.ref ob0_argument_value)) (F_ob0_argument : Fld Z h0 ob0 "com/example/momus/momus/cli/Option" "argument" "Ljava/lang/String;" (.ref ob0_argument)) (E_ob0_name : Exa Z h0 ob0_name "java/lang/String") (F_ob0_name_coder : Fld Z h0 ob0_name "java/lang/String" "coder" "B" (.int (0 : Int32))) (V_ob0_name_value : Arv Z h0 ob0_name_value k_ob0_name_value .byte (2 : Int32) ob0_name_value_l (.int (0 : Int32))) (F_ob0_name_value : Fld Z h0 ob0_name "java/lang/String" "value" "[B" (.ref ob0_name_value)) (F_ob0_name : Fld Z h0 ob0 "com/example/momus/momus/cli/Option" "name" "Ljava/lang/String;" (.ref ob0_name)) :
    MetFree l own_y12 (head1 (Jvm.Cond.code own_y12 prog_13_method_4_code 1 (some (.object "java/lang/String")) :: ws) ({ frames := 6, cells := 6, slots := 37, locals := 124 } : Room)) (fun a U => a = #[(.ref ob0)] ∧ Z.Warmed39 U.vm ∧ U.heap = h0 ∧ CHv Z own_EL U.vm h0) (fun _ _ _ _ _ => True) (fun _ U o U' => ∃ v L, o = .returned v ∧ own_Q_rmA21 Z ob0 ob0_argument ob0_argument_value k_ob0_argument_value ob0_argument_value_l ob0_name ob0_name_value k_ob0_name_value ob0_name_value_l cs wf h0 n0 v U'.heap L ∧ CHr Z own_EL U.vm U.heap U'.vm U'.heap ∧ ReturnedEndW U o U' L ({ frames := 6, cells := 6, slots := 37, locals := 124 } : Room).cells ({ frames := 6, cells := 6, slots := 37, locals := 124 } : Room).slots) := by
  refine MetFree.of_bodySF (plainFor_of_name own_pn4) hisR ?_
  intro p e s m args below meth c s₁ Bd hml0 hP hK
  obtain ⟨rfl, hZ, hh, hCH⟩ := hP
  have hx := Bd.exec
  have hby := Bd.bytes
  have hml : c.maxLocals = 1 := hml0
  have hown : s.vm.findClass "com/example/momus/momus/cli/Option" = some m.cls := findClass_of_methodNamed Bd.named
  have hnm := (name_of_methodNamed Bd.named Bd.method).1
  have X0 : Stand p l e ({ frames := 6, cells := 6, slots := 37, locals := 124 } : Room) (s.setVm s.vm) m #[(.ref ob0)] below meth c s₁ [] 0 0 := Stand.of_body Bd
  have e0 : s₁.heap = h0 := by rw [← hh, Bd.state]; rfl
  have N0 := Fr.nil n0
  have Z0 : n0 ≤ h0.size := O0.1 ▸ O0.2.1
  have g0 : ∀ t, Steps p.tables e below (s₁.setTop (mkF m 0 #[.val (.ref ob0)] [])) t → Steps p.tables e below (s₁.setTop (entryFrame m #[(.ref ob0)] 1)) t := fun t k => castTop (own_ef12 m (ob0)) k
  have hC := CHr.refl hCH
  have hS : s.Since s.vm h0.size := (State.WarmedH.refl s).since _
  have hk := Nat.le_refl h0.size
  have G0 := G
  obtain ⟨S_CS, hcs, S_WF, hwf⟩ := G
  obtain ⟨T1, X1, e1, st1⟩ := getF X0 hx hZ hown (host := "") (Or.inl (own_w hw 58 rfl)) Via.refl e0 F_ob0_argument (g := (mkF m 1 #[.val (.ref ob0)] [(.ref ob0)])) rfl rfl (hb hby own_d14_1)
  obtain ⟨T2, h2, X2, e2, E2, A2, D2, -, st2⟩ := newO X1 hx hZ hown (own_w hw 87 rfl) (own_w hw 88 rfl) (own_w hw 89 rfl) e1 (g := (mkF m 14 #[.val (.ref ob0)] [])) rfl (hb hby own_d14_14) (by decide) (by decide)
  obtain ⟨b2, q_b2⟩ : ∃ z, z = h0.size := ⟨_, rfl⟩
  rw [← q_b2] at A2 D2 st2
  have sz_b2 : h0.size ≤ b2 := Nat.le_of_eq q_b2.symm
  have gz_b2 : n0 ≤ b2 := Nat.le_trans Z0 sz_b2
  have ne_ob0_b2 : ob0 ≠ b2 := Nat.ne_of_lt (Nat.lt_of_lt_of_le E_ob0.lt (Nat.le_of_eq q_b2.symm))
  have ne_ob0_argument_b2 : ob0_argument ≠ b2 := Nat.ne_of_lt (Nat.lt_of_lt_of_le E_ob0_argument.lt (Nat.le_of_eq q_b2.symm))
  have ne_ob0_argument_value_b2 : ob0_argument_value ≠ b2 := Nat.ne_of_lt (Nat.lt_of_lt_of_le V_ob0_argument_value.lt (Nat.le_of_eq q_b2.symm))
  have ne_ob0_name_b2 : ob0_name ≠ b2 := Nat.ne_of_lt (Nat.lt_of_lt_of_le E_ob0_name.lt (Nat.le_of_eq q_b2.symm))
  have ne_ob0_name_value_b2 : ob0_name_value ≠ b2 := Nat.ne_of_lt (Nat.lt_of_lt_of_le V_ob0_name_value.lt (Nat.le_of_eq q_b2.symm))
  have hC := hC.trans (CHr.ext E2 hC.1)
  have hk := Nat.le_trans hk E2.1
  have F2_value : Fld Z h2 b2 "java/lang/AbstractStringBuilder" "value" "[B" .null := D2 (Or.inl (own_w hw 102 rfl)) (ty := (.array .byte)) (by decide)
  have F2_coder : Fld Z h2 b2 "java/lang/AbstractStringBuilder" "coder" "B" (.int (0 : Int32)) := D2 (Or.inl (own_w hw 104 rfl)) (ty := .byte) (by decide)
  have F2_count : Fld Z h2 b2 "java/lang/AbstractStringBuilder" "count" "I" (.int (0 : Int32)) := D2 (Or.inl (own_w hw 126 rfl)) (ty := .int) (by decide)
  have o3 : Old Z n0 h2 := (Old.ext O0 E2)
  obtain ⟨_, _, ⟨T4, L4, k4, n4⟩, -, X4, ⟨Lc4, hQ4, l4, y4, z4⟩, st4⟩ := X2.specialBack hx (y := own_y15) rfl hown (mvT hZ (own_w hw 90 rfl)) (mvT hZ (own_w hw 91 rfl)) (mvT hZ (own_w hw 92 rfl)) (by decide) (backOf (W := 1) (rmA22 l Z a0 hw [] b2  cs wf h2 n0 o3 G0 A2 F2_coder F2_count F2_value gz_b2 ) hZ (own_w hw 92 rfl) (own_w hw 89 rfl) (by decide) (by decide)) (g := (mkF m 18 #[.val (.ref ob0)] [(.ref b2), (.ref b2)])) rfl (by rw [hml]; rfl) (Steps.refl _) (a := b2) (argsL := []) (rest := [(.ref b2)]) (lenOf own_pd9 rfl) rfl (by show 2 * 0 + _ ≤ _; exact Nat.le_of_eq rfl) (hb hby own_d14_18) (fun _ _ => ⟨rfl, e2, (by decide : 1 + 1 ≤ _), (by decide : 4 + 16 ≤ _)⟩)
  dsimp only [Pt.U, Pt.locs, Pt.cells, Pt.slots] at X4 l4 y4 z4 st4 hQ4
  subst l4 y4 z4
  obtain ⟨rfl, Nq4, K4, rb4, rk4, hb4, Qe4, Qn4, Qc4, Qv4, sl4, Va4, hl4⟩ := hQ4
  have qf4 := (sfS (EL := own_EL) (Safe.exa hZ.alike A2 (by decide) (by decide)) sf0)
  have hCo4 := hC.1
  have hC := hC.trans (CHr.keep K4 qf4 hC.1)
  have hk := Nat.le_trans hk K4.1
  have N4 := Fr.app N0 Nq4
  have sz_rb4 : h0.size ≤ rb4 := Nat.le_trans E2.1 hb4
  have gz_rb4 : n0 ≤ rb4 := Nat.le_trans Z0 sz_rb4
  have sf_rb4 := Safe.keep (EL := own_EL) K4 qf4 hCo4 (Safe.new hb4)
  have ne_b2_rb4 : b2 ≠ rb4 := Nat.ne_of_lt (Nat.lt_of_lt_of_le A2.lt hb4)
  have ne_ob0_rb4 : ob0 ≠ rb4 := Nat.ne_of_lt (Nat.lt_of_lt_of_le (E_ob0.ext E2).lt hb4)
  have ne_ob0_argument_rb4 : ob0_argument ≠ rb4 := Nat.ne_of_lt (Nat.lt_of_lt_of_le (E_ob0_argument.ext E2).lt hb4)
  have ne_ob0_argument_value_rb4 : ob0_argument_value ≠ rb4 := Nat.ne_of_lt (Nat.lt_of_lt_of_le (V_ob0_argument_value.ext E2).lt hb4)
  have ne_ob0_name_rb4 : ob0_name ≠ rb4 := Nat.ne_of_lt (Nat.lt_of_lt_of_le (E_ob0_name.ext E2).lt hb4)
  have ne_ob0_name_value_rb4 : ob0_name_value ≠ rb4 := Nat.ne_of_lt (Nat.lt_of_lt_of_le (V_ob0_name_value.ext E2).lt hb4)
  have f5 := ((F_ob0_name.ext E2).keep K4 (ninS ne_ob0_b2 nin0))
  obtain ⟨T6, X6, e6, st6⟩ := getF X4 hx hZ hown (host := "") (Or.inl (own_w hw 56 rfl)) Via.refl rfl f5 (g := (mkF m 22 #[.val (.ref ob0)] [(.ref ob0), (.ref b2)])) rfl rfl (hb hby own_d14_22)
  have f7 := ((E_ob0_name.ext E2).keep K4)
  have f8 := ((F_ob0_name_coder.ext E2).keep K4 (ninS ne_ob0_name_b2 nin0))
  have f9 := ((V_ob0_name_value.ext E2).keep K4 (ninS ne_ob0_name_value_b2 nin0))
  have f10 := ((F_ob0_name_value.ext E2).keep K4 (ninS ne_ob0_name_b2 nin0))
  have o11 : Old Z n0 T4.heap := (Old.keep o3 K4 (allS gz_b2 all0))
  obtain ⟨cq12, kq12, q12a, q12b, q12c⟩ := isOf hZ e6 Qe4
  obtain ⟨_, _, ⟨T12, L12, k12, n12⟩, -, X12, ⟨Lc12, hQ12, l12, y12, z12⟩, st12⟩ := X6.virtualBack hx (y := own_y17) (z := own_y17) hown (mvT hZ (own_w hw 105 rfl)) (mvT hZ (own_w hw 106 rfl)) (notFace_of_selects (args := #[]) (mvT hZ (own_w hw 108 rfl))) (mvT hZ (own_w hw 108 rfl)) (mvT hZ (own_w hw 107 rfl)) (by decide) (backOf (W := 0) (rmA24 l Z a0 hw [] b2 ((0 : Int32)) rb4 rk4 sl4 ob0_name ob0_name_value k_ob0_name_value ((2 : Int32)) ob0_name_value_l  cs wf T4.heap n0 o11 G0 Qe4 Qc4 Qn4 Va4 Qv4 f7 f8 f9 f10 gz_b2 gz_rb4 (by decide) (by decide) (by decide) (by decide) hl4) hZ (own_w hw 109 rfl) (own_w hw 89 rfl) (by decide) (by decide)) q12a q12c (g := (mkF m 25 #[.val (.ref ob0)] [(.ref ob0_name), (.ref b2)])) rfl (by rw [hml]; rfl) (Steps.refl _) (argsL := [(.ref ob0_name)]) (rest := []) (lenOf own_pd22 rfl) rfl (by show 2 * 0 + _ ≤ _; exact Nat.le_of_eq rfl) (hb hby own_d14_25) (fun _ _ => ⟨rfl, e6, (by decide : 2 + 0 ≤ _), (by decide : 20 + 0 ≤ _)⟩)
  dsimp only [Pt.U, Pt.locs, Pt.cells, Pt.slots] at X12 l12 y12 z12 st12 hQ12
  subst l12 y12 z12
  obtain ⟨rfl, Nq12, K12, Qn12, Qc12, Qv12, sl12, Va12, hl12⟩ := hQ12
  have qf12 := (sfS (EL := own_EL) (Safe.exa hZ.alike Qe4 (by decide) (by decide)) (sfS (EL := own_EL) sf_rb4 sf0))
  have hCo12 := hC.1
  have sf_rb4 := Safe.keep K12 qf12 hC.1 sf_rb4
  have hC := hC.trans (CHr.keep K12 qf12 hC.1)
  have hk := Nat.le_trans hk K12.1
  have N12 := Fr.app N4 Nq12
  have Qm12 : Fld Z T12.heap b2 "java/lang/AbstractStringBuilder" "count" "I" (.int (2 : Int32)) := by have q := Qn12; rw [show ((0 : Int32) + (2 : Int32)) = (2 : Int32) from by decide] at q; exact q
  obtain ⟨a13, T13, h13, k13, b13, ka13, X13, e13, E13, hS, hk, hZ, hown, Ex13, Fc13, Fv13, Va13, -, -, C13, -, -, st13⟩ := ldcCH (s := s) (vm0 := s.vm) X12 hx hZ hown (own_w hw 152 rfl) (own_wS hw) rfl hS hk (own_EW hw) (List.mem_of_getElem? (i := 1) rfl) hC.1 (vs := [(.int (32 : Int32))]) (z := (1 : Int32)) ⟨by decide, by decide⟩ (by decide) (by decide) (g := (mkF m 28 #[.val (.ref ob0)] [(.ref b2)])) rfl (hb hby own_d14_28) (n := 4) (by decide) (by decide) (by decide) (by decide)
  have sf_rb4 := CHr.safe C13 Va12.lt sf_rb4
  have hC := hC.trans C13
  have f14 := ((Qe4.keep K12).ext E13)
  have f15 := (Qc12.ext E13)
  have f16 := (Qm12.ext E13)
  have f17 := (Va12.ext E13)
  have f18 := (Qv12.ext E13)
  have o19 : Old Z n0 h13 := (Old.ext (Old.keep o11 K12 (allS gz_b2 (allS gz_rb4 all0))) E13)
  obtain ⟨cq20, kq20, q20a, q20b, q20c⟩ := isOf hZ e13 f14
  obtain ⟨_, _, ⟨T20, L20, k20, n20⟩, -, X20, ⟨Lc20, hQ20, l20, y20, z20⟩, st20⟩ := X13.virtualBack hx (y := own_y17) (z := own_y17) hown (mvT hZ (own_w hw 105 rfl)) (mvT hZ (own_w hw 106 rfl)) (notFace_of_selects (args := #[]) (mvT hZ (own_w hw 108 rfl))) (mvT hZ (own_w hw 108 rfl)) (mvT hZ (own_w hw 107 rfl)) (by decide) (backOf (W := 0) (rmA32 l Z a0 hw [] b2 ((2 : Int32)) rb4 rk4 sl12 a13 b13 ka13 ((1 : Int32))  cs wf h13 n0 o19 G0 f14 f15 f16 f17 f18 Ex13 Fc13 Va13 Fv13 gz_b2 gz_rb4 (by decide) (by decide) (by decide) (by decide) hl12) hZ (own_w hw 109 rfl) (own_w hw 89 rfl) (by decide) (by decide)) q20a q20c (g := (mkF m 30 #[.val (.ref ob0)] [(.ref a13), (.ref b2)])) rfl (by rw [hml]; rfl) (Steps.refl _) (argsL := [(.ref a13)]) (rest := []) (lenOf own_pd22 rfl) rfl (by show 2 * 0 + _ ≤ _; exact Nat.le_of_eq rfl) (hb hby own_d14_30) (fun _ _ => ⟨rfl, e13, (by decide : 4 + 0 ≤ _), (by decide : 28 + 0 ≤ _)⟩)
  dsimp only [Pt.U, Pt.locs, Pt.cells, Pt.slots] at X20 l20 y20 z20 st20 hQ20
  subst l20 y20 z20
  obtain ⟨rfl, Nq20, K20, Qn20, Qc20, Qv20, sl20, Va20, hl20⟩ := hQ20
  have qf20 := (sfS (EL := own_EL) (Safe.exa hZ.alike f14 (by decide) (by decide)) (sfS (EL := own_EL) sf_rb4 sf0))
  have hCo20 := hC.1
  have sf_rb4 := Safe.keep K20 qf20 hC.1 sf_rb4
  have hC := hC.trans (CHr.keep K20 qf20 hC.1)
  have hk := Nat.le_trans hk K20.1
  have N20 := Fr.app N12 Nq20
  have Qm20 : Fld Z T20.heap b2 "java/lang/AbstractStringBuilder" "count" "I" (.int (3 : Int32)) := by have q := Qn20; rw [show ((2 : Int32) + (1 : Int32)) = (3 : Int32) from by decide] at q; exact q
  have f21 := (((((F_ob0_argument.ext E2).keep K4 (ninS ne_ob0_b2 nin0)).keep K12 (ninS ne_ob0_b2 (ninS ne_ob0_rb4 nin0))).ext E13).keep K20 (ninS ne_ob0_b2 (ninS ne_ob0_rb4 nin0)))
  obtain ⟨T22, X22, e22, st22⟩ := getF X20 hx hZ hown (host := "") (Or.inl (own_w hw 58 rfl)) Via.refl rfl f21 (g := (mkF m 34 #[.val (.ref ob0)] [(.ref ob0), (.ref b2)])) rfl rfl (hb hby own_d14_34)
  obtain ⟨LL23, XL23, NL23⟩ : ∃ LL : List Loc, Stand p l e ({ frames := 6, cells := 6, slots := 37, locals := 124 } : Room) (s.setVm T13.vm) m #[(.ref ob0)] below meth c T22 LL 4 28 ∧ Fr n0 LL := ⟨_, X22, N20⟩
  have f24 := (f14.keep K20)
  have f25 := (((((E_ob0_argument.ext E2).keep K4).keep K12).ext E13).keep K20)
  have f26 := (((((F_ob0_argument_coder.ext E2).keep K4 (ninS ne_ob0_argument_b2 nin0)).keep K12 (ninS ne_ob0_argument_b2 (ninS ne_ob0_argument_rb4 nin0))).ext E13).keep K20 (ninS ne_ob0_argument_b2 (ninS ne_ob0_argument_rb4 nin0)))
  have f27 := (((((V_ob0_argument_value.ext E2).keep K4 (ninS ne_ob0_argument_value_b2 nin0)).keep K12 (ninS ne_ob0_argument_value_b2 (ninS ne_ob0_argument_value_rb4 nin0))).ext E13).keep K20 (ninS ne_ob0_argument_value_b2 (ninS ne_ob0_argument_value_rb4 nin0)))
  have f28 := (((((F_ob0_argument_value.ext E2).keep K4 (ninS ne_ob0_argument_b2 nin0)).keep K12 (ninS ne_ob0_argument_b2 (ninS ne_ob0_argument_rb4 nin0))).ext E13).keep K20 (ninS ne_ob0_argument_b2 (ninS ne_ob0_argument_rb4 nin0)))
  have o29 : Old Z n0 T20.heap := (Old.keep o19 K20 (allS gz_b2 (allS gz_rb4 all0)))
  obtain ⟨cq30, kq30, q30a, q30b, q30c⟩ := isOf hZ e22 f24
  obtain ⟨_, _, ⟨T30, L30, k30, n30⟩, -, X30, ⟨Lc30, hQ30, l30, y30, z30⟩, st30⟩ := XL23.virtualBack hx (y := own_y17) (z := own_y17) hown (mvT hZ (own_w hw 105 rfl)) (mvT hZ (own_w hw 106 rfl)) (notFace_of_selects (args := #[]) (mvT hZ (own_w hw 108 rfl))) (mvT hZ (own_w hw 108 rfl)) (mvT hZ (own_w hw 107 rfl)) (by decide) (backOf (W := 0) (rmA24 l Z a0 hw [] b2 ((3 : Int32)) rb4 rk4 sl20 ob0_argument ob0_argument_value k_ob0_argument_value ((0 : Int32)) ob0_argument_value_l  cs wf T20.heap n0 o29 G0 f24 Qc20 Qm20 Va20 Qv20 f25 f26 f27 f28 gz_b2 gz_rb4 (by decide) (by decide) (by decide) (by decide) hl20) hZ (own_w hw 109 rfl) (own_w hw 89 rfl) (by decide) (by decide)) q30a q30c (g := (mkF m 37 #[.val (.ref ob0)] [(.ref ob0_argument), (.ref b2)])) rfl (by rw [hml]; rfl) (Steps.refl _) (argsL := [(.ref ob0_argument)]) (rest := []) (lenOf own_pd22 rfl) rfl (by show 2 * 0 + _ ≤ _; exact Nat.le_of_eq rfl) (hb hby own_d14_37) (fun _ _ => ⟨rfl, e22, (by decide : 4 + 0 ≤ _), (by decide : 28 + 0 ≤ _)⟩)
  dsimp only [Pt.U, Pt.locs, Pt.cells, Pt.slots] at X30 l30 y30 z30 st30 hQ30
  subst l30 y30 z30
  obtain ⟨rfl, Nq30, K30, Qn30, Qc30, Qv30, sl30, Va30, hl30⟩ := hQ30
  have qf30 := (sfS (EL := own_EL) (Safe.exa hZ.alike f24 (by decide) (by decide)) (sfS (EL := own_EL) sf_rb4 sf0))
  have hCo30 := hC.1
  have sf_rb4 := Safe.keep K30 qf30 hC.1 sf_rb4
  have hC := hC.trans (CHr.keep K30 qf30 hC.1)
  have hk := Nat.le_trans hk K30.1
  have N30 := Fr.app NL23 Nq30
  have Qm30 : Fld Z T30.heap b2 "java/lang/AbstractStringBuilder" "count" "I" (.int (3 : Int32)) := by have q := Qn30; rw [show ((3 : Int32) + (0 : Int32)) = (3 : Int32) from by decide] at q; exact q
  have f31 := (f24.keep K30)
  have o32 : Old Z n0 T30.heap := (Old.keep o29 K30 (allS gz_b2 (allS gz_rb4 all0)))
  obtain ⟨cq33, kq33, q33a, q33b, q33c⟩ := isOf hZ rfl f31
  obtain ⟨_, _, ⟨T33, L33, k33, n33⟩, -, X33, ⟨Lc33, hQ33, l33, y33, z33⟩, st33⟩ := X30.virtualBack hx (y := own_y25) (z := own_y25) hown (mvT hZ (own_w hw 153 rfl)) (mvT hZ (own_w hw 154 rfl)) (notFace_of_selects (args := #[]) (mvT hZ (own_w hw 156 rfl))) (mvT hZ (own_w hw 156 rfl)) (mvT hZ (own_w hw 155 rfl)) (by decide) (backOf (W := 0) (rmA37 l Z a0 hw [] b2 ((3 : Int32)) rb4 rk4 sl30  cs wf T30.heap n0 o32 G0 f31 Qc30 Qm30 Va30 Qv30  (by decide) (by decide) (by decide) (by decide) (by decide) (by decide) (by decide)) hZ (own_w hw 157 rfl) (own_w hw 89 rfl) (by decide) (by decide)) q33a q33c (g := (mkF m 40 #[.val (.ref ob0)] [(.ref b2)])) rfl (by rw [hml]; rfl) (Steps.refl _) (argsL := []) (rest := []) (lenOf own_pd12 rfl) rfl (by show 2 * 0 + _ ≤ _; exact Nat.le_of_eq rfl) (hb hby own_d14_40) (fun _ _ => ⟨rfl, rfl, (by decide : 4 + 2 ≤ _), (by decide : 28 + 9 ≤ _)⟩)
  dsimp only [Pt.U, Pt.locs, Pt.cells, Pt.slots] at X33 l33 y33 z33 st33 hQ33
  subst l33 y33 z33
  obtain ⟨sa33, sb33, sk33, sl33, rfl, Nq33, K33, hba33, hbb33, Qe33, Qc33, Qv33, Qa33⟩ := hQ33
  have hCo33 := hC.1
  have sf_rb4 := Safe.keep K33 sf0 hC.1 sf_rb4
  have hC := hC.trans (CHr.keep K33 sf0 hC.1)
  have hk := Nat.le_trans hk K33.1
  have N33 := Fr.app N30 Nq33
  have sz_sa33 : h0.size ≤ sa33 := Nat.le_trans (Nat.le_trans (Nat.le_trans (Nat.le_trans (Nat.le_trans (Nat.le_trans E2.1 K4.1) K12.1) E13.1) K20.1) K30.1) hba33
  have gz_sa33 : n0 ≤ sa33 := Nat.le_trans Z0 sz_sa33
  have sf_sa33 := Safe.keep (EL := own_EL) K33 sf0 hCo33 (Safe.new hba33)
  have ne_a13_sa33 : a13 ≠ sa33 := Nat.ne_of_lt (Nat.lt_of_lt_of_le ((Ex13.keep K20).keep K30).lt hba33)
  have ne_b2_sa33 : b2 ≠ sa33 := Nat.ne_of_lt (Nat.lt_of_lt_of_le f31.lt hba33)
  have ne_ob0_sa33 : ob0 ≠ sa33 := Nat.ne_of_lt (Nat.lt_of_lt_of_le ((((((E_ob0.ext E2).keep K4).keep K12).ext E13).keep K20).keep K30).lt hba33)
  have ne_ob0_argument_sa33 : ob0_argument ≠ sa33 := Nat.ne_of_lt (Nat.lt_of_lt_of_le (f25.keep K30).lt hba33)
  have ne_ob0_argument_value_sa33 : ob0_argument_value ≠ sa33 := Nat.ne_of_lt (Nat.lt_of_lt_of_le (f27.keep K30 (ninS ne_ob0_argument_value_b2 (ninS ne_ob0_argument_value_rb4 nin0))).lt hba33)
  have ne_ob0_name_sa33 : ob0_name ≠ sa33 := Nat.ne_of_lt (Nat.lt_of_lt_of_le ((((f7.keep K12).ext E13).keep K20).keep K30).lt hba33)
  have ne_ob0_name_value_sa33 : ob0_name_value ≠ sa33 := Nat.ne_of_lt (Nat.lt_of_lt_of_le ((((f9.keep K12 (ninS ne_ob0_name_value_b2 (ninS ne_ob0_name_value_rb4 nin0))).ext E13).keep K20 (ninS ne_ob0_name_value_b2 (ninS ne_ob0_name_value_rb4 nin0))).keep K30 (ninS ne_ob0_name_value_b2 (ninS ne_ob0_name_value_rb4 nin0))).lt hba33)
  have ne_rb4_sa33 : rb4 ≠ sa33 := Nat.ne_of_lt (Nat.lt_of_lt_of_le Va30.lt hba33)
  have sz_sb33 : h0.size ≤ sb33 := Nat.le_trans (Nat.le_trans (Nat.le_trans (Nat.le_trans (Nat.le_trans (Nat.le_trans E2.1 K4.1) K12.1) E13.1) K20.1) K30.1) hbb33
  have gz_sb33 : n0 ≤ sb33 := Nat.le_trans Z0 sz_sb33
  have sf_sb33 := Safe.keep (EL := own_EL) K33 sf0 hCo33 (Safe.new hbb33)
  have ne_a13_sb33 : a13 ≠ sb33 := Nat.ne_of_lt (Nat.lt_of_lt_of_le ((Ex13.keep K20).keep K30).lt hbb33)
  have ne_b2_sb33 : b2 ≠ sb33 := Nat.ne_of_lt (Nat.lt_of_lt_of_le f31.lt hbb33)
  have ne_ob0_sb33 : ob0 ≠ sb33 := Nat.ne_of_lt (Nat.lt_of_lt_of_le ((((((E_ob0.ext E2).keep K4).keep K12).ext E13).keep K20).keep K30).lt hbb33)
  have ne_ob0_argument_sb33 : ob0_argument ≠ sb33 := Nat.ne_of_lt (Nat.lt_of_lt_of_le (f25.keep K30).lt hbb33)
  have ne_ob0_argument_value_sb33 : ob0_argument_value ≠ sb33 := Nat.ne_of_lt (Nat.lt_of_lt_of_le (f27.keep K30 (ninS ne_ob0_argument_value_b2 (ninS ne_ob0_argument_value_rb4 nin0))).lt hbb33)
  have ne_ob0_name_sb33 : ob0_name ≠ sb33 := Nat.ne_of_lt (Nat.lt_of_lt_of_le ((((f7.keep K12).ext E13).keep K20).keep K30).lt hbb33)
  have ne_ob0_name_value_sb33 : ob0_name_value ≠ sb33 := Nat.ne_of_lt (Nat.lt_of_lt_of_le ((((f9.keep K12 (ninS ne_ob0_name_value_b2 (ninS ne_ob0_name_value_rb4 nin0))).ext E13).keep K20 (ninS ne_ob0_name_value_b2 (ninS ne_ob0_name_value_rb4 nin0))).keep K30 (ninS ne_ob0_name_value_b2 (ninS ne_ob0_name_value_rb4 nin0))).lt hbb33)
  have ne_rb4_sb33 : rb4 ≠ sb33 := Nat.ne_of_lt (Nat.lt_of_lt_of_le Va30.lt hbb33)
  have g34 : ∀ t, Steps p.tables e below (T33.setTop (mkF m 43 #[.val (.ref ob0)] [(.ref sa33)])) t → Steps p.tables e below (s₁.setTop (entryFrame m #[(.ref ob0)] 1)) t := by
    intro t k
    refine g0 t ?_
    show Steps p.tables e below (s₁.setTop (mkF m 0 #[.val (.ref ob0)] [])) _
    refine XS.aloadN X0.here hx rfl (hb hby own_d14_0) rfl rfl ?_
    refine st1 _ ?_
    refine XS.ifnonnullYes X1.here hx rfl (pc0 := 4) (pc' := 14) rfl (hb hby own_d14_4) rfl (by decide) (by decide) ?_
    refine st2 _ ?_
    show Steps p.tables e below (T2.setTop (mkF m 17 #[.val (.ref ob0)] [(.ref b2)])) _
    refine XS.dup X2.here hx rfl (hb hby own_d14_17) rfl rfl ?_
    refine st4.trans ?_
    refine XS.aloadN X4.here hx rfl (hb hby own_d14_21) rfl rfl ?_
    refine st6 _ ?_
    show Steps p.tables e below (T6.setTop (mkF m 25 #[.val (.ref ob0)] [(.ref ob0_name), (.ref b2)])) _
    refine st12.trans ?_
    refine st13 _ ?_
    refine st20.trans ?_
    refine XS.aloadN X20.here hx rfl (hb hby own_d14_33) rfl rfl ?_
    show Steps p.tables e below (T20.setTop (mkF m 34 #[.val (.ref ob0)] [(.ref ob0), (.ref b2)])) _
    refine st22 _ ?_
    refine st30.trans ?_
    refine st33.trans ?_
    exact k
  obtain ⟨fs, hrt, hrun, hended, hRW⟩ := X33.leaveW hS hk (v := some (.ref sa33)) (fun h => by rw [Bd.returns] at h; cases h)
  refine ⟨_, _, g34 _ ?_, hrun, hended, _, _, rfl, ?_, ?_, hRW.1, hRW.2.1, hRW.2.2.1, hRW.2.2.2.mono (by decide) (by decide)⟩
  · show Steps p.tables e below (T33.setTop (mkF m 43 #[.val (.ref ob0)] [(.ref sa33)])) _
    jvm_step X33.here [X33.here.top, hx, (hb hby own_d14_43), X33.method', Bd.returns, Value.isRef, FieldType.isReference]
    first | (intro acts; rw [hrt _ acts rfl rfl rfl]) | rw [hrt _ _ rfl rfl rfl]
    exact Steps.refl _
  · show own_Q_rmA21 Z ob0 ob0_argument ob0_argument_value k_ob0_argument_value ob0_argument_value_l ob0_name ob0_name_value k_ob0_name_value ob0_name_value_l cs wf h0 n0 _ T33.heap _
    exact ⟨sa33, sb33, _, _, rfl, N33, (Keep.trans (Keep.trans (Keep.trans (Keep.ext (Keep.trans (Keep.trans (Keep.ext (Keep.refl h0 []) E2) K4 (allS (Or.inr sz_b2) all0)) K12 (allS (Or.inr sz_b2) (allS (Or.inr sz_rb4) all0))) E13) K20 (allS (Or.inr sz_b2) (allS (Or.inr sz_rb4) all0))) K30 (allS (Or.inr sz_b2) (allS (Or.inr sz_rb4) all0))) K33 all0), sz_sa33, sz_sb33, Qe33, Qc33, Qv33, Qa33⟩
  · rw [hh]
    show CHr Z own_EL s.vm h0 T33.vm T33.heap
    exact hC.trans (CHv.at X33 hZ (own_EW hw) hC.1)
theorem own_d15_7 : decode jdk_42_method_66_code 7 = .ok (.aload_n 1, 1) := by decide +kernel
theorem own_d15_8 : decode jdk_42_method_66_code 8 = .ok (.instanceof 10, 3) := by decide +kernel
theorem own_d15_11 : decode jdk_42_method_66_code 11 = .ok (.ifCond .eq 43, 3) := by decide +kernel
theorem own_d15_14 : decode jdk_42_method_66_code 14 = .ok (.aload_n 1, 1) := by decide +kernel
theorem own_d15_15 : decode jdk_42_method_66_code 15 = .ok (.checkcast 10, 3) := by decide +kernel
theorem own_d15_18 : decode jdk_42_method_66_code 18 = .ok (.astore_n 2, 1) := by decide +kernel
theorem own_d15_19 : decode jdk_42_method_66_code 19 = .ok (.getstatic 38, 3) := by decide +kernel
theorem own_d15_22 : decode jdk_42_method_66_code 22 = .ok (.ifCond .eq 14, 3) := by decide +kernel
theorem own_d15_25 : decode jdk_42_method_66_code 25 = .ok (.aload_n 0, 1) := by decide +kernel
theorem own_d15_26 : decode jdk_42_method_66_code 26 = .ok (.getfield 15, 3) := by decide +kernel
theorem own_d15_29 : decode jdk_42_method_66_code 29 = .ok (.aload_n 2, 1) := by decide +kernel
theorem own_d15_30 : decode jdk_42_method_66_code 30 = .ok (.getfield 15, 3) := by decide +kernel
theorem own_d15_33 : decode jdk_42_method_66_code 33 = .ok (.if_icmp .ne 21, 3) := by decide +kernel
theorem own_d15_36 : decode jdk_42_method_66_code 36 = .ok (.aload_n 0, 1) := by decide +kernel
theorem own_d15_37 : decode jdk_42_method_66_code 37 = .ok (.getfield 9, 3) := by decide +kernel
theorem own_d15_40 : decode jdk_42_method_66_code 40 = .ok (.aload_n 2, 1) := by decide +kernel
theorem own_d15_41 : decode jdk_42_method_66_code 41 = .ok (.getfield 9, 3) := by decide +kernel
theorem own_d15_44 : decode jdk_42_method_66_code 44 = .ok (.invokestatic 541, 3) := by decide +kernel
abbrev own_y36 : MethodName := ⟨"java/lang/StringLatin1", "equals", "([B[B)Z"⟩
theorem own_d38_0 : decode jdk_43_method_13_code 0 = .ok (.aload_n 0, 1) := by decide +kernel
theorem own_d38_1 : decode jdk_43_method_13_code 1 = .ok (.arraylength, 1) := by decide +kernel
theorem own_d38_2 : decode jdk_43_method_13_code 2 = .ok (.aload_n 1, 1) := by decide +kernel
theorem own_d38_3 : decode jdk_43_method_13_code 3 = .ok (.arraylength, 1) := by decide +kernel
theorem own_d38_4 : decode jdk_43_method_13_code 4 = .ok (.if_icmp .ne 30, 3) := by decide +kernel
theorem own_d38_34 : decode jdk_43_method_13_code 34 = .ok (.iconst 0, 1) := by decide +kernel
theorem own_d38_35 : decode jdk_43_method_13_code 35 = .ok (.ireturn, 1) := by decide +kernel
def own_Q_rmA49 (Z : State) (ob0 : Addr) (k_ob0 : ClassId) (ob0_l : List Value) (ob1 : Addr) (k_ob1 : ClassId) (ob1_l : List Value)  (cs : Int32) (wf : Value) (h0 : Heap) (n0 : Nat) (v : Option Value) (h : Heap) (L : List Loc) : Prop := v = some (.int (0 : Int32)) ∧ Fr n0 L ∧ h = h0
set_option maxRecDepth 65536 in
set_option maxHeartbeats 40000000 in
theorem rmA49 (l : Launch) (Z : State) (a0 : Array Value) (hw : ∀ d ∈ tables_1, d.before a0 Z = true) (ws : List Jvm.Cond) (ob0 : Addr) (k_ob0 : ClassId) (ob0_l : List Value) (ob1 : Addr) (k_ob1 : ClassId) (ob1_l : List Value)  (cs : Int32) (wf : Value) (h0 : Heap) (n0 : Nat) (O0 : Old Z n0 h0) (G : own_Gl Z cs wf) (V_ob0 : Arv Z h0 ob0 k_ob0 .byte (3 : Int32) ob0_l (.int (0 : Int32))) (V_ob1 : Arv Z h0 ob1 k_ob1 .byte (2 : Int32) ob1_l (.int (0 : Int32))) :
    MetFree l own_y36 (head1 (Jvm.Cond.code own_y36 jdk_43_method_13_code 3 (some .boolean) :: ws) ({ frames := 0, cells := 0, slots := 0, locals := 0 } : Room)) (fun a U => a = #[(.ref ob0), (.ref ob1)] ∧ Z.Warmed39 U.vm ∧ U.heap = h0) (fun _ _ _ _ _ => True) (fun _ U o U' => ∃ v L, o = .returned v ∧ own_Q_rmA49 Z ob0 k_ob0 ob0_l ob1 k_ob1 ob1_l cs wf h0 n0 v U'.heap L ∧ FrameEnd U o U' L ({ frames := 0, cells := 0, slots := 0, locals := 0 } : Room).cells ({ frames := 0, cells := 0, slots := 0, locals := 0 } : Room).slots) := by
  refine MetFree.of_bodySF (plainFor_of_name own_pn3) hisR ?_
  intro p e s m args below meth c s₁ Bd hml0 hP hK
  obtain ⟨rfl, hZ, hh⟩ := hP
  have hx := Bd.exec
  have hby := Bd.bytes
  have hml : c.maxLocals = 3 := hml0
  have hown : s.vm.findClass "java/lang/StringLatin1" = some m.cls := findClass_of_methodNamed Bd.named
  have hnm := (name_of_methodNamed Bd.named Bd.method).1
  have X0 : Stand p l e ({ frames := 0, cells := 0, slots := 0, locals := 0 } : Room) s m #[(.ref ob0), (.ref ob1)] below meth c s₁ [] 0 0 := Stand.of_body Bd
  have e0 : s₁.heap = h0 := by rw [← hh, Bd.state]; rfl
  have N0 := Fr.nil n0
  have Z0 : n0 ≤ h0.size := O0.1 ▸ O0.2.1
  have g0 : ∀ t, Steps p.tables e below (s₁.setTop (mkF m 0 #[.val (.ref ob0), .val (.ref ob1), .unset] [])) t → Steps p.tables e below (s₁.setTop (entryFrame m #[(.ref ob0), (.ref ob1)] 3)) t := fun t k => castTop (own_ef15 m (ob0) (ob1)) k
  have G0 := G
  obtain ⟨S_CS, hcs, S_WF, hwf⟩ := G
  obtain ⟨c1, Ar1, cq1, S1, Nn1, Hh1, Gg1⟩ := id V_ob0
  obtain ⟨c2, Ar2, cq2, S2, Nn2, Hh2, Gg2⟩ := id V_ob1
  have g3 : ∀ t, Steps p.tables e below (s₁.setTop (mkF m 35 #[.val (.ref ob0), .val (.ref ob1), .unset] [(.int (0 : Int32))])) t → Steps p.tables e below (s₁.setTop (entryFrame m #[(.ref ob0), (.ref ob1)] 3)) t := by
    intro t k
    refine g0 t ?_
    show Steps p.tables e below (s₁.setTop (mkF m 0 #[.val (.ref ob0), .val (.ref ob1), .unset] [])) _
    refine XS.aloadN X0.here hx rfl (hb hby own_d38_0) rfl rfl ?_
    show Steps p.tables e below (s₁.setTop (mkF m 1 #[.val (.ref ob0), .val (.ref ob1), .unset] [(.ref ob0)])) _
    refine X0.arraylength hx (by rw [e0]; exact Ar1.1) (State.isArrayOf_alike hZ.alike Ar1.2.1) (g := (mkF m 1 #[.val (.ref ob0), .val (.ref ob1), .unset] [(.ref ob0)])) rfl rfl (hb hby own_d38_1) _ ?_
    rw [len_of S1 Nn1]
    refine XS.aloadN X0.here hx rfl (hb hby own_d38_2) rfl rfl ?_
    show Steps p.tables e below (s₁.setTop (mkF m 3 #[.val (.ref ob0), .val (.ref ob1), .unset] [(.ref ob1), (.int (3 : Int32))])) _
    refine X0.arraylength hx (by rw [e0]; exact Ar2.1) (State.isArrayOf_alike hZ.alike Ar2.2.1) (g := (mkF m 3 #[.val (.ref ob0), .val (.ref ob1), .unset] [(.ref ob1), (.int (3 : Int32))])) rfl rfl (hb hby own_d38_3) _ ?_
    rw [len_of S2 Nn2]
    show Steps p.tables e below (s₁.setTop (mkF m 4 #[.val (.ref ob0), .val (.ref ob1), .unset] [(.int (2 : Int32)), (.int (3 : Int32))])) _
    refine XS.icmpYes X0.here hx rfl (pc0 := 4) (pc' := 34) rfl (hb hby own_d38_4) rfl (feq (by decide : ¬ ((3 : Int32) = (2 : Int32)))).2 (by decide) (by decide) ?_
    refine XS.iconst X0.here hx rfl (hb hby own_d38_34) ?_
    exact k
  obtain ⟨fs, hrt, hrun, hended, hW, hsame⟩ := X0.leave (v := some (.int (0 : Int32))) (fun h => by rw [Bd.returns] at h; cases h)
  refine ⟨_, _, g3 _ ?_, hrun, hended, _, _, rfl, ?_, ⟨_, rfl⟩, hW, hsame.mono (by decide) (by decide)⟩
  · show Steps p.tables e below (s₁.setTop (mkF m 35 #[.val (.ref ob0), .val (.ref ob1), .unset] [(.int (0 : Int32))])) _
    exact retN X0 hx (t := .boolean) Bd.returns (by simp) (hb hby own_d38_35) hrt
  · show own_Q_rmA49 Z ob0 k_ob0 ob0_l ob1 k_ob1 ob1_l cs wf h0 n0 _ s₁.heap _
    rw [e0]
    exact ⟨rfl, N0, rfl⟩
theorem own_pd29 : parseMethodDescriptor "([B[B)Z" = some ⟨[(.array .byte), (.array .byte)], some .boolean⟩ := by decide +kernel
theorem own_d15_47 : decode jdk_42_method_66_code 47 = .ok (.ifCond .eq 7, 3) := by decide +kernel
theorem own_d15_54 : decode jdk_42_method_66_code 54 = .ok (.iconst 0, 1) := by decide +kernel
theorem own_d15_55 : decode jdk_42_method_66_code 55 = .ok (.ireturn, 1) := by decide +kernel
def own_Q_rmA48 (Z : State) (ob0 : Addr) (ob0_value : Addr) (k_ob0_value : ClassId) (ob0_value_l : List Value) (ob1 : Addr) (ob1_value : Addr) (k_ob1_value : ClassId) (ob1_value_l : List Value)  (cs : Int32) (wf : Value) (h0 : Heap) (n0 : Nat) (v : Option Value) (h : Heap) (L : List Loc) : Prop := v = some (.int (0 : Int32)) ∧ Fr n0 L ∧ h = h0
set_option maxRecDepth 65536 in
set_option maxHeartbeats 40000000 in
theorem rmA48 (l : Launch) (Z : State) (a0 : Array Value) (hw : ∀ d ∈ tables_1, d.before a0 Z = true) (ws : List Jvm.Cond) (ob0 : Addr) (ob0_value : Addr) (k_ob0_value : ClassId) (ob0_value_l : List Value) (ob1 : Addr) (ob1_value : Addr) (k_ob1_value : ClassId) (ob1_value_l : List Value)  (cs : Int32) (wf : Value) (h0 : Heap) (n0 : Nat) (O0 : Old Z n0 h0) (G : own_Gl Z cs wf) (E_ob0 : Exa Z h0 ob0 "java/lang/String") (F_ob0_coder : Fld Z h0 ob0 "java/lang/String" "coder" "B" (.int (0 : Int32))) (V_ob0_value : Arv Z h0 ob0_value k_ob0_value .byte (3 : Int32) ob0_value_l (.int (0 : Int32))) (F_ob0_value : Fld Z h0 ob0 "java/lang/String" "value" "[B" (.ref ob0_value)) (E_ob1 : Exa Z h0 ob1 "java/lang/String") (F_ob1_coder : Fld Z h0 ob1 "java/lang/String" "coder" "B" (.int (0 : Int32))) (V_ob1_value : Arv Z h0 ob1_value k_ob1_value .byte (2 : Int32) ob1_value_l (.int (0 : Int32))) (F_ob1_value : Fld Z h0 ob1 "java/lang/String" "value" "[B" (.ref ob1_value)) (hne : ob0 ≠ ob1) :
    MetFree l own_y13 (head1 (Jvm.Cond.code own_y13 jdk_42_method_66_code 3 (some .boolean) :: ws) ({ frames := 1, cells := 0, slots := 0, locals := 14 } : Room)) (fun a U => a = #[(.ref ob0), (.ref ob1)] ∧ Z.Warmed39 U.vm ∧ U.heap = h0) (fun _ _ _ _ _ => True) (fun _ U o U' => ∃ v L, o = .returned v ∧ own_Q_rmA48 Z ob0 ob0_value k_ob0_value ob0_value_l ob1 ob1_value k_ob1_value ob1_value_l cs wf h0 n0 v U'.heap L ∧ FrameEnd U o U' L ({ frames := 1, cells := 0, slots := 0, locals := 14 } : Room).cells ({ frames := 1, cells := 0, slots := 0, locals := 14 } : Room).slots) := by
  refine MetFree.of_bodySF (plainFor_of_name own_pn1) hisR ?_
  intro p e s m args below meth c s₁ Bd hml0 hP hK
  obtain ⟨rfl, hZ, hh⟩ := hP
  have hx := Bd.exec
  have hby := Bd.bytes
  have hml : c.maxLocals = 3 := hml0
  have hown : s.vm.findClass "java/lang/String" = some m.cls := findClass_of_methodNamed Bd.named
  have hnm := (name_of_methodNamed Bd.named Bd.method).1
  have X0 : Stand p l e ({ frames := 1, cells := 0, slots := 0, locals := 14 } : Room) s m #[(.ref ob0), (.ref ob1)] below meth c s₁ [] 0 0 := Stand.of_body Bd
  have e0 : s₁.heap = h0 := by rw [← hh, Bd.state]; rfl
  have N0 := Fr.nil n0
  have Z0 : n0 ≤ h0.size := O0.1 ▸ O0.2.1
  have g0 : ∀ t, Steps p.tables e below (s₁.setTop (mkF m 0 #[.val (.ref ob0), .val (.ref ob1), .unset] [])) t → Steps p.tables e below (s₁.setTop (entryFrame m #[(.ref ob0), (.ref ob1)] 3)) t := fun t k => castTop (own_ef15 m (ob0) (ob1)) k
  have G0 := G
  obtain ⟨S_CS, hcs, S_WF, hwf⟩ := G
  obtain ⟨T1, X1, e1, st1⟩ := instY X0 hx hZ hown (own_w hw 37 rfl) e0 (Ins.self E_ob1) (g := (mkF m 8 #[.val (.ref ob0), .val (.ref ob1), .unset] [(.ref ob1)])) rfl rfl (hb hby own_d15_8)
  obtain ⟨T2, X2, e2, st2⟩ := castY X1 hx hZ hown (own_w hw 37 rfl) e1 (Ins.self E_ob1) (g := (mkF m 15 #[.val (.ref ob0), .val (.ref ob1), .unset] [(.ref ob1)])) rfl rfl (hb hby own_d15_15)
  obtain ⟨T3, X3, e3, st3⟩ := getS2 X2 hx hZ hown (host := "") (Or.inl (own_w hw 14 rfl)) Via.refl e2 (S_CS.ext O0.2) (g := (mkF m 19 #[.val (.ref ob0), .val (.ref ob1), .val (.ref ob1)] [])) rfl (hb hby own_d15_19)
  have hc4 : ¬ (cs = (0 : Int32)) := hcs
  obtain ⟨T5, X5, e5, st5⟩ := getF X3 hx hZ hown (host := "") (Or.inl (own_w hw 26 rfl)) Via.refl e3 F_ob0_coder (g := (mkF m 26 #[.val (.ref ob0), .val (.ref ob1), .val (.ref ob1)] [(.ref ob0)])) rfl rfl (hb hby own_d15_26)
  obtain ⟨T6, X6, e6, st6⟩ := getF X5 hx hZ hown (host := "") (Or.inl (own_w hw 26 rfl)) Via.refl e5 F_ob1_coder (g := (mkF m 30 #[.val (.ref ob0), .val (.ref ob1), .val (.ref ob1)] [(.ref ob1), (.int (0 : Int32))])) rfl rfl (hb hby own_d15_30)
  obtain ⟨T7, X7, e7, st7⟩ := getF X6 hx hZ hown (host := "") (Or.inl (own_w hw 28 rfl)) Via.refl e6 F_ob0_value (g := (mkF m 37 #[.val (.ref ob0), .val (.ref ob1), .val (.ref ob1)] [(.ref ob0)])) rfl rfl (hb hby own_d15_37)
  obtain ⟨T8, X8, e8, st8⟩ := getF X7 hx hZ hown (host := "") (Or.inl (own_w hw 28 rfl)) Via.refl e7 F_ob1_value (g := (mkF m 41 #[.val (.ref ob0), .val (.ref ob1), .val (.ref ob1)] [(.ref ob1), (.ref ob0_value)])) rfl rfl (hb hby own_d15_41)
  obtain ⟨_, _, ⟨T9, L9, k9, n9⟩, -, X9, ⟨Lc9, hQ9, l9, y9, z9⟩, st9⟩ := Jvm.LawKit.callS X8 hx (y := own_y36) hown (mvT hZ (own_w hw 198 rfl)) (mvT hZ (own_w hw 199 rfl)) (mvT hZ (own_w hw 35 rfl)) (mvT hZ (own_w hw 200 rfl)) (by decide) (backOf (W := 0) (rmA49 l Z a0 hw [] ob0_value k_ob0_value ob0_value_l ob1_value k_ob1_value ob1_value_l  cs wf h0 n0 O0 G0 V_ob0_value V_ob1_value  ) hZ (own_w hw 200 rfl) (own_w hw 35 rfl) (by decide) (by decide)) (g := (mkF m 44 #[.val (.ref ob0), .val (.ref ob1), .val (.ref ob1)] [(.ref ob1_value), (.ref ob0_value)])) rfl (by rw [hml]; rfl) (argsL := [(.ref ob0_value), (.ref ob1_value)]) (rest := []) (lenOf own_pd29 rfl) rfl (by show 2 * 0 + _ ≤ _; exact Nat.le_of_eq rfl) (hb hby own_d15_44) (fun _ _ => ⟨rfl, e8, (by decide : 0 + 0 ≤ _), (by decide : 0 + 0 ≤ _)⟩)
  dsimp only [Pt.U, Pt.locs, Pt.cells, Pt.slots] at X9 l9 y9 z9 st9 hQ9
  subst l9 y9 z9
  obtain ⟨rfl, Nq9, e9⟩ := hQ9
  have N9 := Fr.app N0 Nq9
  have g10 : ∀ t, Steps p.tables e below (T9.setTop (mkF m 55 #[.val (.ref ob0), .val (.ref ob1), .val (.ref ob1)] [(.int (0 : Int32))])) t → Steps p.tables e below (s₁.setTop (entryFrame m #[(.ref ob0), (.ref ob1)] 3)) t := by
    intro t k
    refine g0 t ?_
    show Steps p.tables e below (s₁.setTop (mkF m 0 #[.val (.ref ob0), .val (.ref ob1), .unset] [])) _
    refine XS.aloadN X0.here hx rfl (hb hby own_d15_0) rfl rfl ?_
    refine XS.aloadN X0.here hx rfl (hb hby own_d15_1) rfl rfl ?_
    refine Jvm.RoadKit.acmp (g := (mkF m 2 #[.val (.ref ob0), .val (.ref ob1), .unset] [(.ref ob1), (.ref ob0)])) X0 hx rfl rfl rfl (pc0 := 2) (pc' := 7) (same := false) rfl (hb hby own_d15_2) rfl (decide_eq_false fun q => hne (Value.ref.inj q)) (by decide) (by decide) ?_
    refine XS.aloadN X0.here hx rfl (hb hby own_d15_7) rfl rfl ?_
    show Steps p.tables e below (s₁.setTop (mkF m 8 #[.val (.ref ob0), .val (.ref ob1), .unset] [(.ref ob1)])) _
    refine st1 _ ?_
    refine XS.ifNo X1.here hx rfl (hb hby own_d15_11) rfl ((if0 _ _).trans (feq (by decide : ¬ ((1 : Int32) = (0 : Int32)))).1) ?_
    refine XS.aloadN X1.here hx rfl (hb hby own_d15_14) rfl rfl ?_
    refine st2 _ ?_
    show Steps p.tables e below (T2.setTop (mkF m 18 #[.val (.ref ob0), .val (.ref ob1), .unset] [(.ref ob1)])) _
    refine XS.astoreN X2.here hx rfl (hb hby own_d15_18) rfl rfl (l' := #[.val (.ref ob0), .val (.ref ob1), .val (.ref ob1)]) rfl ?_
    refine st3 _ ?_
    refine XS.ifNo X3.here hx rfl (hb hby own_d15_22) rfl ((if0 _ _).trans (feq hc4).1) ?_
    refine XS.aloadN X3.here hx rfl (hb hby own_d15_25) rfl rfl ?_
    show Steps p.tables e below (T3.setTop (mkF m 26 #[.val (.ref ob0), .val (.ref ob1), .val (.ref ob1)] [(.ref ob0)])) _
    refine st5 _ ?_
    refine XS.aloadN X5.here hx rfl (hb hby own_d15_29) rfl rfl ?_
    refine st6 _ ?_
    refine XS.icmpNo X6.here hx rfl (hb hby own_d15_33) rfl (teq (by decide : (0 : Int32) = (0 : Int32))).2 ?_
    show Steps p.tables e below (T6.setTop (mkF m 36 #[.val (.ref ob0), .val (.ref ob1), .val (.ref ob1)] [])) _
    refine XS.aloadN X6.here hx rfl (hb hby own_d15_36) rfl rfl ?_
    refine st7 _ ?_
    refine XS.aloadN X7.here hx rfl (hb hby own_d15_40) rfl rfl ?_
    refine st8 _ ?_
    show Steps p.tables e below (T8.setTop (mkF m 44 #[.val (.ref ob0), .val (.ref ob1), .val (.ref ob1)] [(.ref ob1_value), (.ref ob0_value)])) _
    refine st9 _ ?_
    refine XS.ifYes X9.here hx rfl (pc0 := 47) (pc' := 54) rfl (hb hby own_d15_47) rfl ((if0 _ _).trans (teq (by decide : (0 : Int32) = (0 : Int32))).1) (by decide) (by decide) ?_
    refine XS.iconst X9.here hx rfl (hb hby own_d15_54) ?_
    exact k
  obtain ⟨fs, hrt, hrun, hended, hW, hsame⟩ := X9.leave (v := some (.int (0 : Int32))) (fun h => by rw [Bd.returns] at h; cases h)
  refine ⟨_, _, g10 _ ?_, hrun, hended, _, _, rfl, ?_, ⟨_, rfl⟩, hW, hsame.mono (by decide) (by decide)⟩
  · show Steps p.tables e below (T9.setTop (mkF m 55 #[.val (.ref ob0), .val (.ref ob1), .val (.ref ob1)] [(.int (0 : Int32))])) _
    exact retN X9 hx (t := .boolean) Bd.returns (by simp) (hb hby own_d15_55) hrt
  · show own_Q_rmA48 Z ob0 ob0_value k_ob0_value ob0_value_l ob1 ob1_value k_ob1_value ob1_value_l cs wf h0 n0 _ T9.heap _
    rw [e9]
    exact ⟨rfl, N9, rfl⟩
theorem own_ef52 (m : MethodId) (x0 : Addr) (x1 : Addr) (x2 : Addr) (x3 : Addr) (x4 : Addr) : entryFrame m #[(.ref x0), (.ref x1), (.ref x2), (.ref x3), (.ref x4)] 5 = mkF m 0 #[.val (.ref x0), .val (.ref x1), .val (.ref x2), .val (.ref x3), .val (.ref x4)] [] := by first | (simp [entryFrame, mkF, argsToLocals, Value.category]; done) | rfl
def own_Q_rmA50 (Z : State) (ob0 : Addr) (ob1 : Addr) (ob2 : Addr) (ob3 : Addr) (ob4 : Addr)  (cs : Int32) (wf : Value) (h0 : Heap) (n0 : Nat) (v : Option Value) (h : Heap) (L : List Loc) : Prop := v = none ∧ Fr n0 L ∧ Keep h0 h [ob0] ∧ Exa Z h ob0 "com/example/momus/momus/cli/Option" ∧ Fld Z h ob0 "com/example/momus/momus/cli/Option" "name" "Ljava/lang/String;" (.ref ob1) ∧ Fld Z h ob0 "com/example/momus/momus/cli/Option" "argument" "Ljava/lang/String;" (.ref ob2)
set_option maxRecDepth 65536 in
set_option maxHeartbeats 40000000 in
theorem rmA50 (l : Launch) (Z : State) (a0 : Array Value) (hw : ∀ d ∈ tables_1, d.before a0 Z = true) (ws : List Jvm.Cond) (ob0 : Addr) (ob1 : Addr) (ob2 : Addr) (ob3 : Addr) (ob4 : Addr)  (cs : Int32) (wf : Value) (h0 : Heap) (n0 : Nat) (O0 : Old Z n0 h0) (G : own_Gl Z cs wf) (E_ob0 : Exa Z h0 ob0 "com/example/momus/momus/cli/Option") (F_ob0_argument : Fld Z h0 ob0 "com/example/momus/momus/cli/Option" "argument" "Ljava/lang/String;" .null) (F_ob0_byDefault : Fld Z h0 ob0 "com/example/momus/momus/cli/Option" "byDefault" "Ljava/lang/String;" .null) (F_ob0_description : Fld Z h0 ob0 "com/example/momus/momus/cli/Option" "description" "Ljava/lang/String;" .null) (F_ob0_name : Fld Z h0 ob0 "com/example/momus/momus/cli/Option" "name" "Ljava/lang/String;" .null) (gz_ob0 : n0 ≤ ob0) :
    MetFree l own_y9 (head1 (Jvm.Cond.code own_y9 prog_13_method_1_code 5 none :: ws) ({ frames := 2, cells := 0, slots := 0, locals := 24 } : Room)) (fun a U => a = #[(.ref ob0), (.ref ob1), (.ref ob2), (.ref ob3), (.ref ob4)] ∧ Z.Warmed39 U.vm ∧ U.heap = h0) (fun _ _ _ _ _ => True) (fun _ U o U' => ∃ v L, o = .returned v ∧ own_Q_rmA50 Z ob0 ob1 ob2 ob3 ob4 cs wf h0 n0 v U'.heap L ∧ FrameEnd U o U' L ({ frames := 2, cells := 0, slots := 0, locals := 24 } : Room).cells ({ frames := 2, cells := 0, slots := 0, locals := 24 } : Room).slots) := by
  refine MetFree.of_bodySF (plainFor_of_name own_pn4) hisR ?_
  intro p e s m args below meth c s₁ Bd hml0 hP hK
  obtain ⟨rfl, hZ, hh⟩ := hP
  have hx := Bd.exec
  have hby := Bd.bytes
  have hml : c.maxLocals = 5 := hml0
  have hown : s.vm.findClass "com/example/momus/momus/cli/Option" = some m.cls := findClass_of_methodNamed Bd.named
  have hnm := (name_of_methodNamed Bd.named Bd.method).1
  have X0 : Stand p l e ({ frames := 2, cells := 0, slots := 0, locals := 24 } : Room) s m #[(.ref ob0), (.ref ob1), (.ref ob2), (.ref ob3), (.ref ob4)] below meth c s₁ [] 0 0 := Stand.of_body Bd
  have e0 : s₁.heap = h0 := by rw [← hh, Bd.state]; rfl
  have N0 := Fr.nil n0
  have Z0 : n0 ≤ h0.size := O0.1 ▸ O0.2.1
  have g0 : ∀ t, Steps p.tables e below (s₁.setTop (mkF m 0 #[.val (.ref ob0), .val (.ref ob1), .val (.ref ob2), .val (.ref ob3), .val (.ref ob4)] [])) t → Steps p.tables e below (s₁.setTop (entryFrame m #[(.ref ob0), (.ref ob1), (.ref ob2), (.ref ob3), (.ref ob4)] 5)) t := fun t k => castTop (own_ef52 m (ob0) (ob1) (ob2) (ob3) (ob4)) k
  have G0 := G
  obtain ⟨S_CS, hcs, S_WF, hwf⟩ := G
  obtain ⟨_, _, ⟨T1, L1, k1, n1⟩, -, X1, ⟨Lc1, hQ1, l1, y1, z1⟩, st1⟩ := X0.specialBack hx (y := own_y10) rfl hown (mvT hZ (own_w hw 50 rfl)) (mvT hZ (own_w hw 51 rfl)) (mvT hZ (own_w hw 54 rfl)) (by decide) (backOf (W := 0) (rmA10 l Z a0 hw [] ob0  cs wf h0 n0 O0 G0 E_ob0 F_ob0_argument F_ob0_byDefault F_ob0_description F_ob0_name  ) hZ (own_w hw 54 rfl) (own_w hw 53 rfl) (by decide) (by decide)) (g := (mkF m 1 #[.val (.ref ob0), .val (.ref ob1), .val (.ref ob2), .val (.ref ob3), .val (.ref ob4)] [(.ref ob0)])) rfl (by rw [hml]; rfl) (Steps.refl _) (a := ob0) (argsL := []) (rest := []) (lenOf own_pd9 rfl) rfl (by show 2 * 0 + _ ≤ _; exact Nat.le_of_eq rfl) (hb hby own_d11_1) (fun _ _ => ⟨rfl, e0, (by decide : 0 + 0 ≤ _), (by decide : 0 + 0 ≤ _)⟩)
  dsimp only [Pt.U, Pt.locs, Pt.cells, Pt.slots] at X1 l1 y1 z1 st1 hQ1
  subst l1 y1 z1
  obtain ⟨rfl, Nq1, e1⟩ := hQ1
  have N1 := Fr.app N0 Nq1
  obtain ⟨T2, h2, X2, e2, W2, st2⟩ := putF X1 hx hZ hown (host := "") (Or.inl (own_w hw 56 rfl)) Via.refl e1 F_ob0_name E_ob0 (Or.inr ⟨(own_w hw 57 rfl), rfl, hnm⟩) (own_w hw 45 rfl) (ty := (.object "java/lang/String")) (by decide) rfl rfl (g := (mkF m 6 #[.val (.ref ob0), .val (.ref ob1), .val (.ref ob2), .val (.ref ob3), .val (.ref ob4)] [(.ref ob1), (.ref ob0)])) rfl rfl (hb hby own_d11_6)
  have Fw2 := F_ob0_name.same W2
  have N2 := Fr.snoc X2 N1 gz_ob0
  have f3 := (E_ob0.wr W2)
  have f4 := (F_ob0_argument.other W2 (Or.inr (slot_ne (own_la2 hw) (own_la3 hw) (by decide) own_ty2 own_ty2)))
  obtain ⟨T5, h5, X5, e5, W5, st5⟩ := putF X2 hx hZ hown (host := "") (Or.inl (own_w hw 58 rfl)) Via.refl e2 f4 f3 (Or.inr ⟨(own_w hw 59 rfl), rfl, hnm⟩) (own_w hw 45 rfl) (ty := (.object "java/lang/String")) (by decide) rfl rfl (g := (mkF m 11 #[.val (.ref ob0), .val (.ref ob1), .val (.ref ob2), .val (.ref ob3), .val (.ref ob4)] [(.ref ob2), (.ref ob0)])) rfl rfl (hb hby own_d11_11)
  have Fw5 := f4.same W5
  have N5 := Fr.snoc X5 N2 gz_ob0
  have f6 := (f3.wr W5)
  have f7 := ((F_ob0_description.other W2 (Or.inr (slot_ne (own_la4 hw) (own_la3 hw) (by decide) own_ty2 own_ty2))).other W5 (Or.inr (slot_ne (own_la4 hw) (own_la2 hw) (by decide) own_ty2 own_ty2)))
  obtain ⟨T8, h8, X8, e8, W8, st8⟩ := putF X5 hx hZ hown (host := "") (Or.inl (own_w hw 60 rfl)) Via.refl e5 f7 f6 (Or.inr ⟨(own_w hw 61 rfl), rfl, hnm⟩) (own_w hw 45 rfl) (ty := (.object "java/lang/String")) (by decide) rfl rfl (g := (mkF m 16 #[.val (.ref ob0), .val (.ref ob1), .val (.ref ob2), .val (.ref ob3), .val (.ref ob4)] [(.ref ob3), (.ref ob0)])) rfl rfl (hb hby own_d11_16)
  have Fw8 := f7.same W8
  have N8 := Fr.snoc X8 N5 gz_ob0
  have f9 := (f6.wr W8)
  have f10 := (((F_ob0_byDefault.other W2 (Or.inr (slot_ne (own_la5 hw) (own_la3 hw) (by decide) own_ty2 own_ty2))).other W5 (Or.inr (slot_ne (own_la5 hw) (own_la2 hw) (by decide) own_ty2 own_ty2))).other W8 (Or.inr (slot_ne (own_la5 hw) (own_la4 hw) (by decide) own_ty2 own_ty2)))
  obtain ⟨T11, h11, X11, e11, W11, st11⟩ := putF X8 hx hZ hown (host := "") (Or.inl (own_w hw 62 rfl)) Via.refl e8 f10 f9 (Or.inr ⟨(own_w hw 63 rfl), rfl, hnm⟩) (own_w hw 45 rfl) (ty := (.object "java/lang/String")) (by decide) rfl rfl (g := (mkF m 22 #[.val (.ref ob0), .val (.ref ob1), .val (.ref ob2), .val (.ref ob3), .val (.ref ob4)] [(.ref ob4), (.ref ob0)])) rfl rfl (hb hby own_d11_22)
  have Fw11 := f10.same W11
  have N11 := Fr.snoc X11 N8 gz_ob0
  have g12 : ∀ t, Steps p.tables e below (T11.setTop (mkF m 25 #[.val (.ref ob0), .val (.ref ob1), .val (.ref ob2), .val (.ref ob3), .val (.ref ob4)] [])) t → Steps p.tables e below (s₁.setTop (entryFrame m #[(.ref ob0), (.ref ob1), (.ref ob2), (.ref ob3), (.ref ob4)] 5)) t := by
    intro t k
    refine g0 t ?_
    show Steps p.tables e below (s₁.setTop (mkF m 0 #[.val (.ref ob0), .val (.ref ob1), .val (.ref ob2), .val (.ref ob3), .val (.ref ob4)] [])) _
    refine XS.aloadN X0.here hx rfl (hb hby own_d11_0) rfl rfl ?_
    refine st1.trans ?_
    refine XS.aloadN X1.here hx rfl (hb hby own_d11_4) rfl rfl ?_
    refine XS.aloadN X1.here hx rfl (hb hby own_d11_5) rfl rfl ?_
    show Steps p.tables e below (T1.setTop (mkF m 6 #[.val (.ref ob0), .val (.ref ob1), .val (.ref ob2), .val (.ref ob3), .val (.ref ob4)] [(.ref ob1), (.ref ob0)])) _
    refine st2 _ ?_
    refine XS.aloadN X2.here hx rfl (hb hby own_d11_9) rfl rfl ?_
    refine XS.aloadN X2.here hx rfl (hb hby own_d11_10) rfl rfl ?_
    refine st5 _ ?_
    show Steps p.tables e below (T5.setTop (mkF m 14 #[.val (.ref ob0), .val (.ref ob1), .val (.ref ob2), .val (.ref ob3), .val (.ref ob4)] [])) _
    refine XS.aloadN X5.here hx rfl (hb hby own_d11_14) rfl rfl ?_
    refine XS.aloadN X5.here hx rfl (hb hby own_d11_15) rfl rfl ?_
    refine st8 _ ?_
    refine XS.aloadN X8.here hx rfl (hb hby own_d11_19) rfl rfl ?_
    show Steps p.tables e below (T8.setTop (mkF m 20 #[.val (.ref ob0), .val (.ref ob1), .val (.ref ob2), .val (.ref ob3), .val (.ref ob4)] [(.ref ob0)])) _
    refine XS.aload X8.here hx rfl (hb hby own_d11_20) rfl rfl ?_
    refine st11 _ ?_
    exact k
  obtain ⟨fs, hrt, hrun, hended, hW, hsame⟩ := X11.leave (v := none) (fun _ => rfl)
  have f13 := (f9.wr W11)
  have f14 := (((Fw2.other W5 (Or.inr (slot_ne (own_la3 hw) (own_la2 hw) (by decide) own_ty2 own_ty2))).other W8 (Or.inr (slot_ne (own_la3 hw) (own_la4 hw) (by decide) own_ty2 own_ty2))).other W11 (Or.inr (slot_ne (own_la3 hw) (own_la5 hw) (by decide) own_ty2 own_ty2)))
  have f15 := ((Fw5.other W8 (Or.inr (slot_ne (own_la2 hw) (own_la4 hw) (by decide) own_ty2 own_ty2))).other W11 (Or.inr (slot_ne (own_la2 hw) (own_la5 hw) (by decide) own_ty2 own_ty2)))
  refine ⟨_, _, g12 _ ?_, hrun, hended, _, _, rfl, ?_, ⟨_, rfl⟩, hW, hsame.mono (by decide) (by decide)⟩
  · show Steps p.tables e below (T11.setTop (mkF m 25 #[.val (.ref ob0), .val (.ref ob1), .val (.ref ob2), .val (.ref ob3), .val (.ref ob4)] [])) _
    exact X11.returnOut hx Bd.returns (hb hby own_d11_25) hrt
  · show own_Q_rmA50 Z ob0 ob1 ob2 ob3 ob4 cs wf h0 n0 _ T11.heap _
    rw [e11]
    exact ⟨rfl, N11, (Keep.wr (Keep.wr (Keep.wr (Keep.wr (Keep.refl h0 [ob0]) W2 (Or.inl (List.mem_of_getElem? (i := 0) rfl))) W5 (Or.inl (List.mem_of_getElem? (i := 0) rfl))) W8 (Or.inl (List.mem_of_getElem? (i := 0) rfl))) W11 (Or.inl (List.mem_of_getElem? (i := 0) rfl))), f13, f14, f15⟩
def own_Q_rmA51 (Z : State) (ob0 : Addr) (ob0_argument : Addr) (ob0_argument_value : Addr) (k_ob0_argument_value : ClassId) (ob0_argument_value_l : List Value) (ob0_name : Addr) (ob0_name_value : Addr) (k_ob0_name_value : ClassId) (ob0_name_value_l : List Value)  (cs : Int32) (wf : Value) (h0 : Heap) (n0 : Nat) (v : Option Value) (h : Heap) (L : List Loc) : Prop := ∃ sa sb : Addr, ∃ sk : ClassId, ∃ sl : List Value, v = some (.ref sa) ∧ Fr n0 L ∧ Keep h0 h [] ∧ h0.size ≤ sa ∧ h0.size ≤ sb ∧ Exa Z h sa "java/lang/String" ∧ Fld Z h sa "java/lang/String" "coder" "B" (.int (0 : Int32)) ∧ Fld Z h sa "java/lang/String" "value" "[B" (.ref sb) ∧ Arv Z h sb sk .byte (4 : Int32) sl (.int (0 : Int32))
set_option maxRecDepth 65536 in
set_option maxHeartbeats 40000000 in
theorem rmA51 (l : Launch) (Z : State) (a0 : Array Value) (hw : ∀ d ∈ tables_1, d.before a0 Z = true) (ws : List Jvm.Cond) (ob0 : Addr) (ob0_argument : Addr) (ob0_argument_value : Addr) (k_ob0_argument_value : ClassId) (ob0_argument_value_l : List Value) (ob0_name : Addr) (ob0_name_value : Addr) (k_ob0_name_value : ClassId) (ob0_name_value_l : List Value)  (cs : Int32) (wf : Value) (h0 : Heap) (n0 : Nat) (O0 : Old Z n0 h0) (G : own_Gl Z cs wf) (E_ob0 : Exa Z h0 ob0 "com/example/momus/momus/cli/Option") (E_ob0_argument : Exa Z h0 ob0_argument "java/lang/String") (F_ob0_argument_coder : Fld Z h0 ob0_argument "java/lang/String" "coder" "B" (.int (0 : Int32))) (V_ob0_argument_value : Arv Z h0 ob0_argument_value k_ob0_argument_value .byte (1 : Int32) ob0_argument_value_l (.int (0 : Int32))) (F_ob0_argument_value : Fld Z h0 ob0_argument "java/lang/String" "value" "[B" (.ref ob0_argument_value)) (F_ob0_argument : Fld Z h0 ob0 "com/example/momus/momus/cli/Option" "argument" "Ljava/lang/String;" (.ref ob0_argument)) (E_ob0_name : Exa Z h0 ob0_name "java/lang/String") (F_ob0_name_coder : Fld Z h0 ob0_name "java/lang/String" "coder" "B" (.int (0 : Int32))) (V_ob0_name_value : Arv Z h0 ob0_name_value k_ob0_name_value .byte (2 : Int32) ob0_name_value_l (.int (0 : Int32))) (F_ob0_name_value : Fld Z h0 ob0_name "java/lang/String" "value" "[B" (.ref ob0_name_value)) (F_ob0_name : Fld Z h0 ob0 "com/example/momus/momus/cli/Option" "name" "Ljava/lang/String;" (.ref ob0_name)) :
    MetFree l own_y12 (head1 (Jvm.Cond.code own_y12 prog_13_method_4_code 1 (some (.object "java/lang/String")) :: ws) ({ frames := 6, cells := 6, slots := 37, locals := 124 } : Room)) (fun a U => a = #[(.ref ob0)] ∧ Z.Warmed39 U.vm ∧ U.heap = h0 ∧ CHv Z own_EL U.vm h0) (fun _ _ _ _ _ => True) (fun _ U o U' => ∃ v L, o = .returned v ∧ own_Q_rmA51 Z ob0 ob0_argument ob0_argument_value k_ob0_argument_value ob0_argument_value_l ob0_name ob0_name_value k_ob0_name_value ob0_name_value_l cs wf h0 n0 v U'.heap L ∧ CHr Z own_EL U.vm U.heap U'.vm U'.heap ∧ ReturnedEndW U o U' L ({ frames := 6, cells := 6, slots := 37, locals := 124 } : Room).cells ({ frames := 6, cells := 6, slots := 37, locals := 124 } : Room).slots) := by
  refine MetFree.of_bodySF (plainFor_of_name own_pn4) hisR ?_
  intro p e s m args below meth c s₁ Bd hml0 hP hK
  obtain ⟨rfl, hZ, hh, hCH⟩ := hP
  have hx := Bd.exec
  have hby := Bd.bytes
  have hml : c.maxLocals = 1 := hml0
  have hown : s.vm.findClass "com/example/momus/momus/cli/Option" = some m.cls := findClass_of_methodNamed Bd.named
  have hnm := (name_of_methodNamed Bd.named Bd.method).1
  have X0 : Stand p l e ({ frames := 6, cells := 6, slots := 37, locals := 124 } : Room) (s.setVm s.vm) m #[(.ref ob0)] below meth c s₁ [] 0 0 := Stand.of_body Bd
  have e0 : s₁.heap = h0 := by rw [← hh, Bd.state]; rfl
  have N0 := Fr.nil n0
  have Z0 : n0 ≤ h0.size := O0.1 ▸ O0.2.1
  have g0 : ∀ t, Steps p.tables e below (s₁.setTop (mkF m 0 #[.val (.ref ob0)] [])) t → Steps p.tables e below (s₁.setTop (entryFrame m #[(.ref ob0)] 1)) t := fun t k => castTop (own_ef12 m (ob0)) k
  have hC := CHr.refl hCH
  have hS : s.Since s.vm h0.size := (State.WarmedH.refl s).since _
  have hk := Nat.le_refl h0.size
  have G0 := G
  obtain ⟨S_CS, hcs, S_WF, hwf⟩ := G
  obtain ⟨T1, X1, e1, st1⟩ := getF X0 hx hZ hown (host := "") (Or.inl (own_w hw 58 rfl)) Via.refl e0 F_ob0_argument (g := (mkF m 1 #[.val (.ref ob0)] [(.ref ob0)])) rfl rfl (hb hby own_d14_1)
  obtain ⟨T2, h2, X2, e2, E2, A2, D2, -, st2⟩ := newO X1 hx hZ hown (own_w hw 87 rfl) (own_w hw 88 rfl) (own_w hw 89 rfl) e1 (g := (mkF m 14 #[.val (.ref ob0)] [])) rfl (hb hby own_d14_14) (by decide) (by decide)
  obtain ⟨b2, q_b2⟩ : ∃ z, z = h0.size := ⟨_, rfl⟩
  rw [← q_b2] at A2 D2 st2
  have sz_b2 : h0.size ≤ b2 := Nat.le_of_eq q_b2.symm
  have gz_b2 : n0 ≤ b2 := Nat.le_trans Z0 sz_b2
  have ne_ob0_b2 : ob0 ≠ b2 := Nat.ne_of_lt (Nat.lt_of_lt_of_le E_ob0.lt (Nat.le_of_eq q_b2.symm))
  have ne_ob0_argument_b2 : ob0_argument ≠ b2 := Nat.ne_of_lt (Nat.lt_of_lt_of_le E_ob0_argument.lt (Nat.le_of_eq q_b2.symm))
  have ne_ob0_argument_value_b2 : ob0_argument_value ≠ b2 := Nat.ne_of_lt (Nat.lt_of_lt_of_le V_ob0_argument_value.lt (Nat.le_of_eq q_b2.symm))
  have ne_ob0_name_b2 : ob0_name ≠ b2 := Nat.ne_of_lt (Nat.lt_of_lt_of_le E_ob0_name.lt (Nat.le_of_eq q_b2.symm))
  have ne_ob0_name_value_b2 : ob0_name_value ≠ b2 := Nat.ne_of_lt (Nat.lt_of_lt_of_le V_ob0_name_value.lt (Nat.le_of_eq q_b2.symm))
  have hC := hC.trans (CHr.ext E2 hC.1)
  have hk := Nat.le_trans hk E2.1
  have F2_value : Fld Z h2 b2 "java/lang/AbstractStringBuilder" "value" "[B" .null := D2 (Or.inl (own_w hw 102 rfl)) (ty := (.array .byte)) (by decide)
  have F2_coder : Fld Z h2 b2 "java/lang/AbstractStringBuilder" "coder" "B" (.int (0 : Int32)) := D2 (Or.inl (own_w hw 104 rfl)) (ty := .byte) (by decide)
  have F2_count : Fld Z h2 b2 "java/lang/AbstractStringBuilder" "count" "I" (.int (0 : Int32)) := D2 (Or.inl (own_w hw 126 rfl)) (ty := .int) (by decide)
  have o3 : Old Z n0 h2 := (Old.ext O0 E2)
  obtain ⟨_, _, ⟨T4, L4, k4, n4⟩, -, X4, ⟨Lc4, hQ4, l4, y4, z4⟩, st4⟩ := X2.specialBack hx (y := own_y15) rfl hown (mvT hZ (own_w hw 90 rfl)) (mvT hZ (own_w hw 91 rfl)) (mvT hZ (own_w hw 92 rfl)) (by decide) (backOf (W := 1) (rmA22 l Z a0 hw [] b2  cs wf h2 n0 o3 G0 A2 F2_coder F2_count F2_value gz_b2 ) hZ (own_w hw 92 rfl) (own_w hw 89 rfl) (by decide) (by decide)) (g := (mkF m 18 #[.val (.ref ob0)] [(.ref b2), (.ref b2)])) rfl (by rw [hml]; rfl) (Steps.refl _) (a := b2) (argsL := []) (rest := [(.ref b2)]) (lenOf own_pd9 rfl) rfl (by show 2 * 0 + _ ≤ _; exact Nat.le_of_eq rfl) (hb hby own_d14_18) (fun _ _ => ⟨rfl, e2, (by decide : 1 + 1 ≤ _), (by decide : 4 + 16 ≤ _)⟩)
  dsimp only [Pt.U, Pt.locs, Pt.cells, Pt.slots] at X4 l4 y4 z4 st4 hQ4
  subst l4 y4 z4
  obtain ⟨rfl, Nq4, K4, rb4, rk4, hb4, Qe4, Qn4, Qc4, Qv4, sl4, Va4, hl4⟩ := hQ4
  have qf4 := (sfS (EL := own_EL) (Safe.exa hZ.alike A2 (by decide) (by decide)) sf0)
  have hCo4 := hC.1
  have hC := hC.trans (CHr.keep K4 qf4 hC.1)
  have hk := Nat.le_trans hk K4.1
  have N4 := Fr.app N0 Nq4
  have sz_rb4 : h0.size ≤ rb4 := Nat.le_trans E2.1 hb4
  have gz_rb4 : n0 ≤ rb4 := Nat.le_trans Z0 sz_rb4
  have sf_rb4 := Safe.keep (EL := own_EL) K4 qf4 hCo4 (Safe.new hb4)
  have ne_b2_rb4 : b2 ≠ rb4 := Nat.ne_of_lt (Nat.lt_of_lt_of_le A2.lt hb4)
  have ne_ob0_rb4 : ob0 ≠ rb4 := Nat.ne_of_lt (Nat.lt_of_lt_of_le (E_ob0.ext E2).lt hb4)
  have ne_ob0_argument_rb4 : ob0_argument ≠ rb4 := Nat.ne_of_lt (Nat.lt_of_lt_of_le (E_ob0_argument.ext E2).lt hb4)
  have ne_ob0_argument_value_rb4 : ob0_argument_value ≠ rb4 := Nat.ne_of_lt (Nat.lt_of_lt_of_le (V_ob0_argument_value.ext E2).lt hb4)
  have ne_ob0_name_rb4 : ob0_name ≠ rb4 := Nat.ne_of_lt (Nat.lt_of_lt_of_le (E_ob0_name.ext E2).lt hb4)
  have ne_ob0_name_value_rb4 : ob0_name_value ≠ rb4 := Nat.ne_of_lt (Nat.lt_of_lt_of_le (V_ob0_name_value.ext E2).lt hb4)
  have f5 := ((F_ob0_name.ext E2).keep K4 (ninS ne_ob0_b2 nin0))
  obtain ⟨T6, X6, e6, st6⟩ := getF X4 hx hZ hown (host := "") (Or.inl (own_w hw 56 rfl)) Via.refl rfl f5 (g := (mkF m 22 #[.val (.ref ob0)] [(.ref ob0), (.ref b2)])) rfl rfl (hb hby own_d14_22)
  have f7 := ((E_ob0_name.ext E2).keep K4)
  have f8 := ((F_ob0_name_coder.ext E2).keep K4 (ninS ne_ob0_name_b2 nin0))
  have f9 := ((V_ob0_name_value.ext E2).keep K4 (ninS ne_ob0_name_value_b2 nin0))
  have f10 := ((F_ob0_name_value.ext E2).keep K4 (ninS ne_ob0_name_b2 nin0))
  have o11 : Old Z n0 T4.heap := (Old.keep o3 K4 (allS gz_b2 all0))
  obtain ⟨cq12, kq12, q12a, q12b, q12c⟩ := isOf hZ e6 Qe4
  obtain ⟨_, _, ⟨T12, L12, k12, n12⟩, -, X12, ⟨Lc12, hQ12, l12, y12, z12⟩, st12⟩ := X6.virtualBack hx (y := own_y17) (z := own_y17) hown (mvT hZ (own_w hw 105 rfl)) (mvT hZ (own_w hw 106 rfl)) (notFace_of_selects (args := #[]) (mvT hZ (own_w hw 108 rfl))) (mvT hZ (own_w hw 108 rfl)) (mvT hZ (own_w hw 107 rfl)) (by decide) (backOf (W := 0) (rmA24 l Z a0 hw [] b2 ((0 : Int32)) rb4 rk4 sl4 ob0_name ob0_name_value k_ob0_name_value ((2 : Int32)) ob0_name_value_l  cs wf T4.heap n0 o11 G0 Qe4 Qc4 Qn4 Va4 Qv4 f7 f8 f9 f10 gz_b2 gz_rb4 (by decide) (by decide) (by decide) (by decide) hl4) hZ (own_w hw 109 rfl) (own_w hw 89 rfl) (by decide) (by decide)) q12a q12c (g := (mkF m 25 #[.val (.ref ob0)] [(.ref ob0_name), (.ref b2)])) rfl (by rw [hml]; rfl) (Steps.refl _) (argsL := [(.ref ob0_name)]) (rest := []) (lenOf own_pd22 rfl) rfl (by show 2 * 0 + _ ≤ _; exact Nat.le_of_eq rfl) (hb hby own_d14_25) (fun _ _ => ⟨rfl, e6, (by decide : 2 + 0 ≤ _), (by decide : 20 + 0 ≤ _)⟩)
  dsimp only [Pt.U, Pt.locs, Pt.cells, Pt.slots] at X12 l12 y12 z12 st12 hQ12
  subst l12 y12 z12
  obtain ⟨rfl, Nq12, K12, Qn12, Qc12, Qv12, sl12, Va12, hl12⟩ := hQ12
  have qf12 := (sfS (EL := own_EL) (Safe.exa hZ.alike Qe4 (by decide) (by decide)) (sfS (EL := own_EL) sf_rb4 sf0))
  have hCo12 := hC.1
  have sf_rb4 := Safe.keep K12 qf12 hC.1 sf_rb4
  have hC := hC.trans (CHr.keep K12 qf12 hC.1)
  have hk := Nat.le_trans hk K12.1
  have N12 := Fr.app N4 Nq12
  have Qm12 : Fld Z T12.heap b2 "java/lang/AbstractStringBuilder" "count" "I" (.int (2 : Int32)) := by have q := Qn12; rw [show ((0 : Int32) + (2 : Int32)) = (2 : Int32) from by decide] at q; exact q
  obtain ⟨a13, T13, h13, k13, b13, ka13, X13, e13, E13, hS, hk, hZ, hown, Ex13, Fc13, Fv13, Va13, -, -, C13, -, -, st13⟩ := ldcCH (s := s) (vm0 := s.vm) X12 hx hZ hown (own_w hw 152 rfl) (own_wS hw) rfl hS hk (own_EW hw) (List.mem_of_getElem? (i := 1) rfl) hC.1 (vs := [(.int (32 : Int32))]) (z := (1 : Int32)) ⟨by decide, by decide⟩ (by decide) (by decide) (g := (mkF m 28 #[.val (.ref ob0)] [(.ref b2)])) rfl (hb hby own_d14_28) (n := 4) (by decide) (by decide) (by decide) (by decide)
  have sf_rb4 := CHr.safe C13 Va12.lt sf_rb4
  have hC := hC.trans C13
  have f14 := ((Qe4.keep K12).ext E13)
  have f15 := (Qc12.ext E13)
  have f16 := (Qm12.ext E13)
  have f17 := (Va12.ext E13)
  have f18 := (Qv12.ext E13)
  have o19 : Old Z n0 h13 := (Old.ext (Old.keep o11 K12 (allS gz_b2 (allS gz_rb4 all0))) E13)
  obtain ⟨cq20, kq20, q20a, q20b, q20c⟩ := isOf hZ e13 f14
  obtain ⟨_, _, ⟨T20, L20, k20, n20⟩, -, X20, ⟨Lc20, hQ20, l20, y20, z20⟩, st20⟩ := X13.virtualBack hx (y := own_y17) (z := own_y17) hown (mvT hZ (own_w hw 105 rfl)) (mvT hZ (own_w hw 106 rfl)) (notFace_of_selects (args := #[]) (mvT hZ (own_w hw 108 rfl))) (mvT hZ (own_w hw 108 rfl)) (mvT hZ (own_w hw 107 rfl)) (by decide) (backOf (W := 0) (rmA32 l Z a0 hw [] b2 ((2 : Int32)) rb4 rk4 sl12 a13 b13 ka13 ((1 : Int32))  cs wf h13 n0 o19 G0 f14 f15 f16 f17 f18 Ex13 Fc13 Va13 Fv13 gz_b2 gz_rb4 (by decide) (by decide) (by decide) (by decide) hl12) hZ (own_w hw 109 rfl) (own_w hw 89 rfl) (by decide) (by decide)) q20a q20c (g := (mkF m 30 #[.val (.ref ob0)] [(.ref a13), (.ref b2)])) rfl (by rw [hml]; rfl) (Steps.refl _) (argsL := [(.ref a13)]) (rest := []) (lenOf own_pd22 rfl) rfl (by show 2 * 0 + _ ≤ _; exact Nat.le_of_eq rfl) (hb hby own_d14_30) (fun _ _ => ⟨rfl, e13, (by decide : 4 + 0 ≤ _), (by decide : 28 + 0 ≤ _)⟩)
  dsimp only [Pt.U, Pt.locs, Pt.cells, Pt.slots] at X20 l20 y20 z20 st20 hQ20
  subst l20 y20 z20
  obtain ⟨rfl, Nq20, K20, Qn20, Qc20, Qv20, sl20, Va20, hl20⟩ := hQ20
  have qf20 := (sfS (EL := own_EL) (Safe.exa hZ.alike f14 (by decide) (by decide)) (sfS (EL := own_EL) sf_rb4 sf0))
  have hCo20 := hC.1
  have sf_rb4 := Safe.keep K20 qf20 hC.1 sf_rb4
  have hC := hC.trans (CHr.keep K20 qf20 hC.1)
  have hk := Nat.le_trans hk K20.1
  have N20 := Fr.app N12 Nq20
  have Qm20 : Fld Z T20.heap b2 "java/lang/AbstractStringBuilder" "count" "I" (.int (3 : Int32)) := by have q := Qn20; rw [show ((2 : Int32) + (1 : Int32)) = (3 : Int32) from by decide] at q; exact q
  have f21 := (((((F_ob0_argument.ext E2).keep K4 (ninS ne_ob0_b2 nin0)).keep K12 (ninS ne_ob0_b2 (ninS ne_ob0_rb4 nin0))).ext E13).keep K20 (ninS ne_ob0_b2 (ninS ne_ob0_rb4 nin0)))
  obtain ⟨T22, X22, e22, st22⟩ := getF X20 hx hZ hown (host := "") (Or.inl (own_w hw 58 rfl)) Via.refl rfl f21 (g := (mkF m 34 #[.val (.ref ob0)] [(.ref ob0), (.ref b2)])) rfl rfl (hb hby own_d14_34)
  obtain ⟨LL23, XL23, NL23⟩ : ∃ LL : List Loc, Stand p l e ({ frames := 6, cells := 6, slots := 37, locals := 124 } : Room) (s.setVm T13.vm) m #[(.ref ob0)] below meth c T22 LL 4 28 ∧ Fr n0 LL := ⟨_, X22, N20⟩
  have f24 := (f14.keep K20)
  have f25 := (((((E_ob0_argument.ext E2).keep K4).keep K12).ext E13).keep K20)
  have f26 := (((((F_ob0_argument_coder.ext E2).keep K4 (ninS ne_ob0_argument_b2 nin0)).keep K12 (ninS ne_ob0_argument_b2 (ninS ne_ob0_argument_rb4 nin0))).ext E13).keep K20 (ninS ne_ob0_argument_b2 (ninS ne_ob0_argument_rb4 nin0)))
  have f27 := (((((V_ob0_argument_value.ext E2).keep K4 (ninS ne_ob0_argument_value_b2 nin0)).keep K12 (ninS ne_ob0_argument_value_b2 (ninS ne_ob0_argument_value_rb4 nin0))).ext E13).keep K20 (ninS ne_ob0_argument_value_b2 (ninS ne_ob0_argument_value_rb4 nin0)))
  have f28 := (((((F_ob0_argument_value.ext E2).keep K4 (ninS ne_ob0_argument_b2 nin0)).keep K12 (ninS ne_ob0_argument_b2 (ninS ne_ob0_argument_rb4 nin0))).ext E13).keep K20 (ninS ne_ob0_argument_b2 (ninS ne_ob0_argument_rb4 nin0)))
  have o29 : Old Z n0 T20.heap := (Old.keep o19 K20 (allS gz_b2 (allS gz_rb4 all0)))
  obtain ⟨cq30, kq30, q30a, q30b, q30c⟩ := isOf hZ e22 f24
  obtain ⟨_, _, ⟨T30, L30, k30, n30⟩, -, X30, ⟨Lc30, hQ30, l30, y30, z30⟩, st30⟩ := XL23.virtualBack hx (y := own_y17) (z := own_y17) hown (mvT hZ (own_w hw 105 rfl)) (mvT hZ (own_w hw 106 rfl)) (notFace_of_selects (args := #[]) (mvT hZ (own_w hw 108 rfl))) (mvT hZ (own_w hw 108 rfl)) (mvT hZ (own_w hw 107 rfl)) (by decide) (backOf (W := 0) (rmA24 l Z a0 hw [] b2 ((3 : Int32)) rb4 rk4 sl20 ob0_argument ob0_argument_value k_ob0_argument_value ((1 : Int32)) ob0_argument_value_l  cs wf T20.heap n0 o29 G0 f24 Qc20 Qm20 Va20 Qv20 f25 f26 f27 f28 gz_b2 gz_rb4 (by decide) (by decide) (by decide) (by decide) hl20) hZ (own_w hw 109 rfl) (own_w hw 89 rfl) (by decide) (by decide)) q30a q30c (g := (mkF m 37 #[.val (.ref ob0)] [(.ref ob0_argument), (.ref b2)])) rfl (by rw [hml]; rfl) (Steps.refl _) (argsL := [(.ref ob0_argument)]) (rest := []) (lenOf own_pd22 rfl) rfl (by show 2 * 0 + _ ≤ _; exact Nat.le_of_eq rfl) (hb hby own_d14_37) (fun _ _ => ⟨rfl, e22, (by decide : 4 + 0 ≤ _), (by decide : 28 + 0 ≤ _)⟩)
  dsimp only [Pt.U, Pt.locs, Pt.cells, Pt.slots] at X30 l30 y30 z30 st30 hQ30
  subst l30 y30 z30
  obtain ⟨rfl, Nq30, K30, Qn30, Qc30, Qv30, sl30, Va30, hl30⟩ := hQ30
  have qf30 := (sfS (EL := own_EL) (Safe.exa hZ.alike f24 (by decide) (by decide)) (sfS (EL := own_EL) sf_rb4 sf0))
  have hCo30 := hC.1
  have sf_rb4 := Safe.keep K30 qf30 hC.1 sf_rb4
  have hC := hC.trans (CHr.keep K30 qf30 hC.1)
  have hk := Nat.le_trans hk K30.1
  have N30 := Fr.app NL23 Nq30
  have Qm30 : Fld Z T30.heap b2 "java/lang/AbstractStringBuilder" "count" "I" (.int (4 : Int32)) := by have q := Qn30; rw [show ((3 : Int32) + (1 : Int32)) = (4 : Int32) from by decide] at q; exact q
  have f31 := (f24.keep K30)
  have o32 : Old Z n0 T30.heap := (Old.keep o29 K30 (allS gz_b2 (allS gz_rb4 all0)))
  obtain ⟨cq33, kq33, q33a, q33b, q33c⟩ := isOf hZ rfl f31
  obtain ⟨_, _, ⟨T33, L33, k33, n33⟩, -, X33, ⟨Lc33, hQ33, l33, y33, z33⟩, st33⟩ := X30.virtualBack hx (y := own_y25) (z := own_y25) hown (mvT hZ (own_w hw 153 rfl)) (mvT hZ (own_w hw 154 rfl)) (notFace_of_selects (args := #[]) (mvT hZ (own_w hw 156 rfl))) (mvT hZ (own_w hw 156 rfl)) (mvT hZ (own_w hw 155 rfl)) (by decide) (backOf (W := 0) (rmA37 l Z a0 hw [] b2 ((4 : Int32)) rb4 rk4 sl30  cs wf T30.heap n0 o32 G0 f31 Qc30 Qm30 Va30 Qv30  (by decide) (by decide) (by decide) (by decide) (by decide) (by decide) (by decide)) hZ (own_w hw 157 rfl) (own_w hw 89 rfl) (by decide) (by decide)) q33a q33c (g := (mkF m 40 #[.val (.ref ob0)] [(.ref b2)])) rfl (by rw [hml]; rfl) (Steps.refl _) (argsL := []) (rest := []) (lenOf own_pd12 rfl) rfl (by show 2 * 0 + _ ≤ _; exact Nat.le_of_eq rfl) (hb hby own_d14_40) (fun _ _ => ⟨rfl, rfl, (by decide : 4 + 2 ≤ _), (by decide : 28 + 9 ≤ _)⟩)
  dsimp only [Pt.U, Pt.locs, Pt.cells, Pt.slots] at X33 l33 y33 z33 st33 hQ33
  subst l33 y33 z33
  obtain ⟨sa33, sb33, sk33, sl33, rfl, Nq33, K33, hba33, hbb33, Qe33, Qc33, Qv33, Qa33⟩ := hQ33
  have hCo33 := hC.1
  have sf_rb4 := Safe.keep K33 sf0 hC.1 sf_rb4
  have hC := hC.trans (CHr.keep K33 sf0 hC.1)
  have hk := Nat.le_trans hk K33.1
  have N33 := Fr.app N30 Nq33
  have sz_sa33 : h0.size ≤ sa33 := Nat.le_trans (Nat.le_trans (Nat.le_trans (Nat.le_trans (Nat.le_trans (Nat.le_trans E2.1 K4.1) K12.1) E13.1) K20.1) K30.1) hba33
  have gz_sa33 : n0 ≤ sa33 := Nat.le_trans Z0 sz_sa33
  have sf_sa33 := Safe.keep (EL := own_EL) K33 sf0 hCo33 (Safe.new hba33)
  have ne_a13_sa33 : a13 ≠ sa33 := Nat.ne_of_lt (Nat.lt_of_lt_of_le ((Ex13.keep K20).keep K30).lt hba33)
  have ne_b2_sa33 : b2 ≠ sa33 := Nat.ne_of_lt (Nat.lt_of_lt_of_le f31.lt hba33)
  have ne_ob0_sa33 : ob0 ≠ sa33 := Nat.ne_of_lt (Nat.lt_of_lt_of_le ((((((E_ob0.ext E2).keep K4).keep K12).ext E13).keep K20).keep K30).lt hba33)
  have ne_ob0_argument_sa33 : ob0_argument ≠ sa33 := Nat.ne_of_lt (Nat.lt_of_lt_of_le (f25.keep K30).lt hba33)
  have ne_ob0_argument_value_sa33 : ob0_argument_value ≠ sa33 := Nat.ne_of_lt (Nat.lt_of_lt_of_le (f27.keep K30 (ninS ne_ob0_argument_value_b2 (ninS ne_ob0_argument_value_rb4 nin0))).lt hba33)
  have ne_ob0_name_sa33 : ob0_name ≠ sa33 := Nat.ne_of_lt (Nat.lt_of_lt_of_le ((((f7.keep K12).ext E13).keep K20).keep K30).lt hba33)
  have ne_ob0_name_value_sa33 : ob0_name_value ≠ sa33 := Nat.ne_of_lt (Nat.lt_of_lt_of_le ((((f9.keep K12 (ninS ne_ob0_name_value_b2 (ninS ne_ob0_name_value_rb4 nin0))).ext E13).keep K20 (ninS ne_ob0_name_value_b2 (ninS ne_ob0_name_value_rb4 nin0))).keep K30 (ninS ne_ob0_name_value_b2 (ninS ne_ob0_name_value_rb4 nin0))).lt hba33)
  have ne_rb4_sa33 : rb4 ≠ sa33 := Nat.ne_of_lt (Nat.lt_of_lt_of_le Va30.lt hba33)
  have sz_sb33 : h0.size ≤ sb33 := Nat.le_trans (Nat.le_trans (Nat.le_trans (Nat.le_trans (Nat.le_trans (Nat.le_trans E2.1 K4.1) K12.1) E13.1) K20.1) K30.1) hbb33
  have gz_sb33 : n0 ≤ sb33 := Nat.le_trans Z0 sz_sb33
  have sf_sb33 := Safe.keep (EL := own_EL) K33 sf0 hCo33 (Safe.new hbb33)
  have ne_a13_sb33 : a13 ≠ sb33 := Nat.ne_of_lt (Nat.lt_of_lt_of_le ((Ex13.keep K20).keep K30).lt hbb33)
  have ne_b2_sb33 : b2 ≠ sb33 := Nat.ne_of_lt (Nat.lt_of_lt_of_le f31.lt hbb33)
  have ne_ob0_sb33 : ob0 ≠ sb33 := Nat.ne_of_lt (Nat.lt_of_lt_of_le ((((((E_ob0.ext E2).keep K4).keep K12).ext E13).keep K20).keep K30).lt hbb33)
  have ne_ob0_argument_sb33 : ob0_argument ≠ sb33 := Nat.ne_of_lt (Nat.lt_of_lt_of_le (f25.keep K30).lt hbb33)
  have ne_ob0_argument_value_sb33 : ob0_argument_value ≠ sb33 := Nat.ne_of_lt (Nat.lt_of_lt_of_le (f27.keep K30 (ninS ne_ob0_argument_value_b2 (ninS ne_ob0_argument_value_rb4 nin0))).lt hbb33)
  have ne_ob0_name_sb33 : ob0_name ≠ sb33 := Nat.ne_of_lt (Nat.lt_of_lt_of_le ((((f7.keep K12).ext E13).keep K20).keep K30).lt hbb33)
  have ne_ob0_name_value_sb33 : ob0_name_value ≠ sb33 := Nat.ne_of_lt (Nat.lt_of_lt_of_le ((((f9.keep K12 (ninS ne_ob0_name_value_b2 (ninS ne_ob0_name_value_rb4 nin0))).ext E13).keep K20 (ninS ne_ob0_name_value_b2 (ninS ne_ob0_name_value_rb4 nin0))).keep K30 (ninS ne_ob0_name_value_b2 (ninS ne_ob0_name_value_rb4 nin0))).lt hbb33)
  have ne_rb4_sb33 : rb4 ≠ sb33 := Nat.ne_of_lt (Nat.lt_of_lt_of_le Va30.lt hbb33)
  have g34 : ∀ t, Steps p.tables e below (T33.setTop (mkF m 43 #[.val (.ref ob0)] [(.ref sa33)])) t → Steps p.tables e below (s₁.setTop (entryFrame m #[(.ref ob0)] 1)) t := by
    intro t k
    refine g0 t ?_
    show Steps p.tables e below (s₁.setTop (mkF m 0 #[.val (.ref ob0)] [])) _
    refine XS.aloadN X0.here hx rfl (hb hby own_d14_0) rfl rfl ?_
    refine st1 _ ?_
    refine XS.ifnonnullYes X1.here hx rfl (pc0 := 4) (pc' := 14) rfl (hb hby own_d14_4) rfl (by decide) (by decide) ?_
    refine st2 _ ?_
    show Steps p.tables e below (T2.setTop (mkF m 17 #[.val (.ref ob0)] [(.ref b2)])) _
    refine XS.dup X2.here hx rfl (hb hby own_d14_17) rfl rfl ?_
    refine st4.trans ?_
    refine XS.aloadN X4.here hx rfl (hb hby own_d14_21) rfl rfl ?_
    refine st6 _ ?_
    show Steps p.tables e below (T6.setTop (mkF m 25 #[.val (.ref ob0)] [(.ref ob0_name), (.ref b2)])) _
    refine st12.trans ?_
    refine st13 _ ?_
    refine st20.trans ?_
    refine XS.aloadN X20.here hx rfl (hb hby own_d14_33) rfl rfl ?_
    show Steps p.tables e below (T20.setTop (mkF m 34 #[.val (.ref ob0)] [(.ref ob0), (.ref b2)])) _
    refine st22 _ ?_
    refine st30.trans ?_
    refine st33.trans ?_
    exact k
  obtain ⟨fs, hrt, hrun, hended, hRW⟩ := X33.leaveW hS hk (v := some (.ref sa33)) (fun h => by rw [Bd.returns] at h; cases h)
  refine ⟨_, _, g34 _ ?_, hrun, hended, _, _, rfl, ?_, ?_, hRW.1, hRW.2.1, hRW.2.2.1, hRW.2.2.2.mono (by decide) (by decide)⟩
  · show Steps p.tables e below (T33.setTop (mkF m 43 #[.val (.ref ob0)] [(.ref sa33)])) _
    jvm_step X33.here [X33.here.top, hx, (hb hby own_d14_43), X33.method', Bd.returns, Value.isRef, FieldType.isReference]
    first | (intro acts; rw [hrt _ acts rfl rfl rfl]) | rw [hrt _ _ rfl rfl rfl]
    exact Steps.refl _
  · show own_Q_rmA51 Z ob0 ob0_argument ob0_argument_value k_ob0_argument_value ob0_argument_value_l ob0_name ob0_name_value k_ob0_name_value ob0_name_value_l cs wf h0 n0 _ T33.heap _
    exact ⟨sa33, sb33, _, _, rfl, N33, (Keep.trans (Keep.trans (Keep.trans (Keep.ext (Keep.trans (Keep.trans (Keep.ext (Keep.refl h0 []) E2) K4 (allS (Or.inr sz_b2) all0)) K12 (allS (Or.inr sz_b2) (allS (Or.inr sz_rb4) all0))) E13) K20 (allS (Or.inr sz_b2) (allS (Or.inr sz_rb4) all0))) K30 (allS (Or.inr sz_b2) (allS (Or.inr sz_rb4) all0))) K33 all0), sz_sa33, sz_sb33, Qe33, Qc33, Qv33, Qa33⟩
  · rw [hh]
    show CHr Z own_EL s.vm h0 T33.vm T33.heap
    exact hC.trans (CHv.at X33 hZ (own_EW hw) hC.1)
def own_Q_rmA53 (Z : State) (ob0 : Addr) (k_ob0 : ClassId) (ob0_l : List Value) (ob1 : Addr) (k_ob1 : ClassId) (ob1_l : List Value)  (cs : Int32) (wf : Value) (h0 : Heap) (n0 : Nat) (v : Option Value) (h : Heap) (L : List Loc) : Prop := v = some (.int (0 : Int32)) ∧ Fr n0 L ∧ h = h0
set_option maxRecDepth 65536 in
set_option maxHeartbeats 40000000 in
theorem rmA53 (l : Launch) (Z : State) (a0 : Array Value) (hw : ∀ d ∈ tables_1, d.before a0 Z = true) (ws : List Jvm.Cond) (ob0 : Addr) (k_ob0 : ClassId) (ob0_l : List Value) (ob1 : Addr) (k_ob1 : ClassId) (ob1_l : List Value)  (cs : Int32) (wf : Value) (h0 : Heap) (n0 : Nat) (O0 : Old Z n0 h0) (G : own_Gl Z cs wf) (V_ob0 : Arv Z h0 ob0 k_ob0 .byte (4 : Int32) ob0_l (.int (0 : Int32))) (V_ob1 : Arv Z h0 ob1 k_ob1 .byte (2 : Int32) ob1_l (.int (0 : Int32))) :
    MetFree l own_y36 (head1 (Jvm.Cond.code own_y36 jdk_43_method_13_code 3 (some .boolean) :: ws) ({ frames := 0, cells := 0, slots := 0, locals := 0 } : Room)) (fun a U => a = #[(.ref ob0), (.ref ob1)] ∧ Z.Warmed39 U.vm ∧ U.heap = h0) (fun _ _ _ _ _ => True) (fun _ U o U' => ∃ v L, o = .returned v ∧ own_Q_rmA53 Z ob0 k_ob0 ob0_l ob1 k_ob1 ob1_l cs wf h0 n0 v U'.heap L ∧ FrameEnd U o U' L ({ frames := 0, cells := 0, slots := 0, locals := 0 } : Room).cells ({ frames := 0, cells := 0, slots := 0, locals := 0 } : Room).slots) := by
  refine MetFree.of_bodySF (plainFor_of_name own_pn3) hisR ?_
  intro p e s m args below meth c s₁ Bd hml0 hP hK
  obtain ⟨rfl, hZ, hh⟩ := hP
  have hx := Bd.exec
  have hby := Bd.bytes
  have hml : c.maxLocals = 3 := hml0
  have hown : s.vm.findClass "java/lang/StringLatin1" = some m.cls := findClass_of_methodNamed Bd.named
  have hnm := (name_of_methodNamed Bd.named Bd.method).1
  have X0 : Stand p l e ({ frames := 0, cells := 0, slots := 0, locals := 0 } : Room) s m #[(.ref ob0), (.ref ob1)] below meth c s₁ [] 0 0 := Stand.of_body Bd
  have e0 : s₁.heap = h0 := by rw [← hh, Bd.state]; rfl
  have N0 := Fr.nil n0
  have Z0 : n0 ≤ h0.size := O0.1 ▸ O0.2.1
  have g0 : ∀ t, Steps p.tables e below (s₁.setTop (mkF m 0 #[.val (.ref ob0), .val (.ref ob1), .unset] [])) t → Steps p.tables e below (s₁.setTop (entryFrame m #[(.ref ob0), (.ref ob1)] 3)) t := fun t k => castTop (own_ef15 m (ob0) (ob1)) k
  have G0 := G
  obtain ⟨S_CS, hcs, S_WF, hwf⟩ := G
  obtain ⟨c1, Ar1, cq1, S1, Nn1, Hh1, Gg1⟩ := id V_ob0
  obtain ⟨c2, Ar2, cq2, S2, Nn2, Hh2, Gg2⟩ := id V_ob1
  have g3 : ∀ t, Steps p.tables e below (s₁.setTop (mkF m 35 #[.val (.ref ob0), .val (.ref ob1), .unset] [(.int (0 : Int32))])) t → Steps p.tables e below (s₁.setTop (entryFrame m #[(.ref ob0), (.ref ob1)] 3)) t := by
    intro t k
    refine g0 t ?_
    show Steps p.tables e below (s₁.setTop (mkF m 0 #[.val (.ref ob0), .val (.ref ob1), .unset] [])) _
    refine XS.aloadN X0.here hx rfl (hb hby own_d38_0) rfl rfl ?_
    show Steps p.tables e below (s₁.setTop (mkF m 1 #[.val (.ref ob0), .val (.ref ob1), .unset] [(.ref ob0)])) _
    refine X0.arraylength hx (by rw [e0]; exact Ar1.1) (State.isArrayOf_alike hZ.alike Ar1.2.1) (g := (mkF m 1 #[.val (.ref ob0), .val (.ref ob1), .unset] [(.ref ob0)])) rfl rfl (hb hby own_d38_1) _ ?_
    rw [len_of S1 Nn1]
    refine XS.aloadN X0.here hx rfl (hb hby own_d38_2) rfl rfl ?_
    show Steps p.tables e below (s₁.setTop (mkF m 3 #[.val (.ref ob0), .val (.ref ob1), .unset] [(.ref ob1), (.int (4 : Int32))])) _
    refine X0.arraylength hx (by rw [e0]; exact Ar2.1) (State.isArrayOf_alike hZ.alike Ar2.2.1) (g := (mkF m 3 #[.val (.ref ob0), .val (.ref ob1), .unset] [(.ref ob1), (.int (4 : Int32))])) rfl rfl (hb hby own_d38_3) _ ?_
    rw [len_of S2 Nn2]
    show Steps p.tables e below (s₁.setTop (mkF m 4 #[.val (.ref ob0), .val (.ref ob1), .unset] [(.int (2 : Int32)), (.int (4 : Int32))])) _
    refine XS.icmpYes X0.here hx rfl (pc0 := 4) (pc' := 34) rfl (hb hby own_d38_4) rfl (feq (by decide : ¬ ((4 : Int32) = (2 : Int32)))).2 (by decide) (by decide) ?_
    refine XS.iconst X0.here hx rfl (hb hby own_d38_34) ?_
    exact k
  obtain ⟨fs, hrt, hrun, hended, hW, hsame⟩ := X0.leave (v := some (.int (0 : Int32))) (fun h => by rw [Bd.returns] at h; cases h)
  refine ⟨_, _, g3 _ ?_, hrun, hended, _, _, rfl, ?_, ⟨_, rfl⟩, hW, hsame.mono (by decide) (by decide)⟩
  · show Steps p.tables e below (s₁.setTop (mkF m 35 #[.val (.ref ob0), .val (.ref ob1), .unset] [(.int (0 : Int32))])) _
    exact retN X0 hx (t := .boolean) Bd.returns (by simp) (hb hby own_d38_35) hrt
  · show own_Q_rmA53 Z ob0 k_ob0 ob0_l ob1 k_ob1 ob1_l cs wf h0 n0 _ s₁.heap _
    rw [e0]
    exact ⟨rfl, N0, rfl⟩
def own_Q_rmA52 (Z : State) (ob0 : Addr) (ob0_value : Addr) (k_ob0_value : ClassId) (ob0_value_l : List Value) (ob1 : Addr) (ob1_value : Addr) (k_ob1_value : ClassId) (ob1_value_l : List Value)  (cs : Int32) (wf : Value) (h0 : Heap) (n0 : Nat) (v : Option Value) (h : Heap) (L : List Loc) : Prop := v = some (.int (0 : Int32)) ∧ Fr n0 L ∧ h = h0
set_option maxRecDepth 65536 in
set_option maxHeartbeats 40000000 in
theorem rmA52 (l : Launch) (Z : State) (a0 : Array Value) (hw : ∀ d ∈ tables_1, d.before a0 Z = true) (ws : List Jvm.Cond) (ob0 : Addr) (ob0_value : Addr) (k_ob0_value : ClassId) (ob0_value_l : List Value) (ob1 : Addr) (ob1_value : Addr) (k_ob1_value : ClassId) (ob1_value_l : List Value)  (cs : Int32) (wf : Value) (h0 : Heap) (n0 : Nat) (O0 : Old Z n0 h0) (G : own_Gl Z cs wf) (E_ob0 : Exa Z h0 ob0 "java/lang/String") (F_ob0_coder : Fld Z h0 ob0 "java/lang/String" "coder" "B" (.int (0 : Int32))) (V_ob0_value : Arv Z h0 ob0_value k_ob0_value .byte (4 : Int32) ob0_value_l (.int (0 : Int32))) (F_ob0_value : Fld Z h0 ob0 "java/lang/String" "value" "[B" (.ref ob0_value)) (E_ob1 : Exa Z h0 ob1 "java/lang/String") (F_ob1_coder : Fld Z h0 ob1 "java/lang/String" "coder" "B" (.int (0 : Int32))) (V_ob1_value : Arv Z h0 ob1_value k_ob1_value .byte (2 : Int32) ob1_value_l (.int (0 : Int32))) (F_ob1_value : Fld Z h0 ob1 "java/lang/String" "value" "[B" (.ref ob1_value)) (hne : ob0 ≠ ob1) :
    MetFree l own_y13 (head1 (Jvm.Cond.code own_y13 jdk_42_method_66_code 3 (some .boolean) :: ws) ({ frames := 1, cells := 0, slots := 0, locals := 14 } : Room)) (fun a U => a = #[(.ref ob0), (.ref ob1)] ∧ Z.Warmed39 U.vm ∧ U.heap = h0) (fun _ _ _ _ _ => True) (fun _ U o U' => ∃ v L, o = .returned v ∧ own_Q_rmA52 Z ob0 ob0_value k_ob0_value ob0_value_l ob1 ob1_value k_ob1_value ob1_value_l cs wf h0 n0 v U'.heap L ∧ FrameEnd U o U' L ({ frames := 1, cells := 0, slots := 0, locals := 14 } : Room).cells ({ frames := 1, cells := 0, slots := 0, locals := 14 } : Room).slots) := by
  refine MetFree.of_bodySF (plainFor_of_name own_pn1) hisR ?_
  intro p e s m args below meth c s₁ Bd hml0 hP hK
  obtain ⟨rfl, hZ, hh⟩ := hP
  have hx := Bd.exec
  have hby := Bd.bytes
  have hml : c.maxLocals = 3 := hml0
  have hown : s.vm.findClass "java/lang/String" = some m.cls := findClass_of_methodNamed Bd.named
  have hnm := (name_of_methodNamed Bd.named Bd.method).1
  have X0 : Stand p l e ({ frames := 1, cells := 0, slots := 0, locals := 14 } : Room) s m #[(.ref ob0), (.ref ob1)] below meth c s₁ [] 0 0 := Stand.of_body Bd
  have e0 : s₁.heap = h0 := by rw [← hh, Bd.state]; rfl
  have N0 := Fr.nil n0
  have Z0 : n0 ≤ h0.size := O0.1 ▸ O0.2.1
  have g0 : ∀ t, Steps p.tables e below (s₁.setTop (mkF m 0 #[.val (.ref ob0), .val (.ref ob1), .unset] [])) t → Steps p.tables e below (s₁.setTop (entryFrame m #[(.ref ob0), (.ref ob1)] 3)) t := fun t k => castTop (own_ef15 m (ob0) (ob1)) k
  have G0 := G
  obtain ⟨S_CS, hcs, S_WF, hwf⟩ := G
  obtain ⟨T1, X1, e1, st1⟩ := instY X0 hx hZ hown (own_w hw 37 rfl) e0 (Ins.self E_ob1) (g := (mkF m 8 #[.val (.ref ob0), .val (.ref ob1), .unset] [(.ref ob1)])) rfl rfl (hb hby own_d15_8)
  obtain ⟨T2, X2, e2, st2⟩ := castY X1 hx hZ hown (own_w hw 37 rfl) e1 (Ins.self E_ob1) (g := (mkF m 15 #[.val (.ref ob0), .val (.ref ob1), .unset] [(.ref ob1)])) rfl rfl (hb hby own_d15_15)
  obtain ⟨T3, X3, e3, st3⟩ := getS2 X2 hx hZ hown (host := "") (Or.inl (own_w hw 14 rfl)) Via.refl e2 (S_CS.ext O0.2) (g := (mkF m 19 #[.val (.ref ob0), .val (.ref ob1), .val (.ref ob1)] [])) rfl (hb hby own_d15_19)
  have hc4 : ¬ (cs = (0 : Int32)) := hcs
  obtain ⟨T5, X5, e5, st5⟩ := getF X3 hx hZ hown (host := "") (Or.inl (own_w hw 26 rfl)) Via.refl e3 F_ob0_coder (g := (mkF m 26 #[.val (.ref ob0), .val (.ref ob1), .val (.ref ob1)] [(.ref ob0)])) rfl rfl (hb hby own_d15_26)
  obtain ⟨T6, X6, e6, st6⟩ := getF X5 hx hZ hown (host := "") (Or.inl (own_w hw 26 rfl)) Via.refl e5 F_ob1_coder (g := (mkF m 30 #[.val (.ref ob0), .val (.ref ob1), .val (.ref ob1)] [(.ref ob1), (.int (0 : Int32))])) rfl rfl (hb hby own_d15_30)
  obtain ⟨T7, X7, e7, st7⟩ := getF X6 hx hZ hown (host := "") (Or.inl (own_w hw 28 rfl)) Via.refl e6 F_ob0_value (g := (mkF m 37 #[.val (.ref ob0), .val (.ref ob1), .val (.ref ob1)] [(.ref ob0)])) rfl rfl (hb hby own_d15_37)
  obtain ⟨T8, X8, e8, st8⟩ := getF X7 hx hZ hown (host := "") (Or.inl (own_w hw 28 rfl)) Via.refl e7 F_ob1_value (g := (mkF m 41 #[.val (.ref ob0), .val (.ref ob1), .val (.ref ob1)] [(.ref ob1), (.ref ob0_value)])) rfl rfl (hb hby own_d15_41)
  obtain ⟨_, _, ⟨T9, L9, k9, n9⟩, -, X9, ⟨Lc9, hQ9, l9, y9, z9⟩, st9⟩ := Jvm.LawKit.callS X8 hx (y := own_y36) hown (mvT hZ (own_w hw 198 rfl)) (mvT hZ (own_w hw 199 rfl)) (mvT hZ (own_w hw 35 rfl)) (mvT hZ (own_w hw 200 rfl)) (by decide) (backOf (W := 0) (rmA53 l Z a0 hw [] ob0_value k_ob0_value ob0_value_l ob1_value k_ob1_value ob1_value_l  cs wf h0 n0 O0 G0 V_ob0_value V_ob1_value  ) hZ (own_w hw 200 rfl) (own_w hw 35 rfl) (by decide) (by decide)) (g := (mkF m 44 #[.val (.ref ob0), .val (.ref ob1), .val (.ref ob1)] [(.ref ob1_value), (.ref ob0_value)])) rfl (by rw [hml]; rfl) (argsL := [(.ref ob0_value), (.ref ob1_value)]) (rest := []) (lenOf own_pd29 rfl) rfl (by show 2 * 0 + _ ≤ _; exact Nat.le_of_eq rfl) (hb hby own_d15_44) (fun _ _ => ⟨rfl, e8, (by decide : 0 + 0 ≤ _), (by decide : 0 + 0 ≤ _)⟩)
  dsimp only [Pt.U, Pt.locs, Pt.cells, Pt.slots] at X9 l9 y9 z9 st9 hQ9
  subst l9 y9 z9
  obtain ⟨rfl, Nq9, e9⟩ := hQ9
  have N9 := Fr.app N0 Nq9
  have g10 : ∀ t, Steps p.tables e below (T9.setTop (mkF m 55 #[.val (.ref ob0), .val (.ref ob1), .val (.ref ob1)] [(.int (0 : Int32))])) t → Steps p.tables e below (s₁.setTop (entryFrame m #[(.ref ob0), (.ref ob1)] 3)) t := by
    intro t k
    refine g0 t ?_
    show Steps p.tables e below (s₁.setTop (mkF m 0 #[.val (.ref ob0), .val (.ref ob1), .unset] [])) _
    refine XS.aloadN X0.here hx rfl (hb hby own_d15_0) rfl rfl ?_
    refine XS.aloadN X0.here hx rfl (hb hby own_d15_1) rfl rfl ?_
    refine Jvm.RoadKit.acmp (g := (mkF m 2 #[.val (.ref ob0), .val (.ref ob1), .unset] [(.ref ob1), (.ref ob0)])) X0 hx rfl rfl rfl (pc0 := 2) (pc' := 7) (same := false) rfl (hb hby own_d15_2) rfl (decide_eq_false fun q => hne (Value.ref.inj q)) (by decide) (by decide) ?_
    refine XS.aloadN X0.here hx rfl (hb hby own_d15_7) rfl rfl ?_
    show Steps p.tables e below (s₁.setTop (mkF m 8 #[.val (.ref ob0), .val (.ref ob1), .unset] [(.ref ob1)])) _
    refine st1 _ ?_
    refine XS.ifNo X1.here hx rfl (hb hby own_d15_11) rfl ((if0 _ _).trans (feq (by decide : ¬ ((1 : Int32) = (0 : Int32)))).1) ?_
    refine XS.aloadN X1.here hx rfl (hb hby own_d15_14) rfl rfl ?_
    refine st2 _ ?_
    show Steps p.tables e below (T2.setTop (mkF m 18 #[.val (.ref ob0), .val (.ref ob1), .unset] [(.ref ob1)])) _
    refine XS.astoreN X2.here hx rfl (hb hby own_d15_18) rfl rfl (l' := #[.val (.ref ob0), .val (.ref ob1), .val (.ref ob1)]) rfl ?_
    refine st3 _ ?_
    refine XS.ifNo X3.here hx rfl (hb hby own_d15_22) rfl ((if0 _ _).trans (feq hc4).1) ?_
    refine XS.aloadN X3.here hx rfl (hb hby own_d15_25) rfl rfl ?_
    show Steps p.tables e below (T3.setTop (mkF m 26 #[.val (.ref ob0), .val (.ref ob1), .val (.ref ob1)] [(.ref ob0)])) _
    refine st5 _ ?_
    refine XS.aloadN X5.here hx rfl (hb hby own_d15_29) rfl rfl ?_
    refine st6 _ ?_
    refine XS.icmpNo X6.here hx rfl (hb hby own_d15_33) rfl (teq (by decide : (0 : Int32) = (0 : Int32))).2 ?_
    show Steps p.tables e below (T6.setTop (mkF m 36 #[.val (.ref ob0), .val (.ref ob1), .val (.ref ob1)] [])) _
    refine XS.aloadN X6.here hx rfl (hb hby own_d15_36) rfl rfl ?_
    refine st7 _ ?_
    refine XS.aloadN X7.here hx rfl (hb hby own_d15_40) rfl rfl ?_
    refine st8 _ ?_
    show Steps p.tables e below (T8.setTop (mkF m 44 #[.val (.ref ob0), .val (.ref ob1), .val (.ref ob1)] [(.ref ob1_value), (.ref ob0_value)])) _
    refine st9 _ ?_
    refine XS.ifYes X9.here hx rfl (pc0 := 47) (pc' := 54) rfl (hb hby own_d15_47) rfl ((if0 _ _).trans (teq (by decide : (0 : Int32) = (0 : Int32))).1) (by decide) (by decide) ?_
    refine XS.iconst X9.here hx rfl (hb hby own_d15_54) ?_
    exact k
  obtain ⟨fs, hrt, hrun, hended, hW, hsame⟩ := X9.leave (v := some (.int (0 : Int32))) (fun h => by rw [Bd.returns] at h; cases h)
  refine ⟨_, _, g10 _ ?_, hrun, hended, _, _, rfl, ?_, ⟨_, rfl⟩, hW, hsame.mono (by decide) (by decide)⟩
  · show Steps p.tables e below (T9.setTop (mkF m 55 #[.val (.ref ob0), .val (.ref ob1), .val (.ref ob1)] [(.int (0 : Int32))])) _
    exact retN X9 hx (t := .boolean) Bd.returns (by simp) (hb hby own_d15_55) hrt
  · show own_Q_rmA52 Z ob0 ob0_value k_ob0_value ob0_value_l ob1 ob1_value k_ob1_value ob1_value_l cs wf h0 n0 _ T9.heap _
    rw [e9]
    exact ⟨rfl, N9, rfl⟩
def own_Q_rmA54 (Z : State) (ob0 : Addr) (ob0_argument : Addr) (ob0_argument_value : Addr) (k_ob0_argument_value : ClassId) (ob0_argument_value_l : List Value) (ob0_name : Addr) (ob0_name_value : Addr) (k_ob0_name_value : ClassId) (ob0_name_value_l : List Value)  (cs : Int32) (wf : Value) (h0 : Heap) (n0 : Nat) (v : Option Value) (h : Heap) (L : List Loc) : Prop := ∃ sa sb : Addr, ∃ sk : ClassId, ∃ sl : List Value, v = some (.ref sa) ∧ Fr n0 L ∧ Keep h0 h [] ∧ h0.size ≤ sa ∧ h0.size ≤ sb ∧ Exa Z h sa "java/lang/String" ∧ Fld Z h sa "java/lang/String" "coder" "B" (.int (0 : Int32)) ∧ Fld Z h sa "java/lang/String" "value" "[B" (.ref sb) ∧ Arv Z h sb sk .byte (5 : Int32) sl (.int (0 : Int32))
set_option maxRecDepth 65536 in
set_option maxHeartbeats 40000000 in
theorem rmA54 (l : Launch) (Z : State) (a0 : Array Value) (hw : ∀ d ∈ tables_1, d.before a0 Z = true) (ws : List Jvm.Cond) (ob0 : Addr) (ob0_argument : Addr) (ob0_argument_value : Addr) (k_ob0_argument_value : ClassId) (ob0_argument_value_l : List Value) (ob0_name : Addr) (ob0_name_value : Addr) (k_ob0_name_value : ClassId) (ob0_name_value_l : List Value)  (cs : Int32) (wf : Value) (h0 : Heap) (n0 : Nat) (O0 : Old Z n0 h0) (G : own_Gl Z cs wf) (E_ob0 : Exa Z h0 ob0 "com/example/momus/momus/cli/Option") (E_ob0_argument : Exa Z h0 ob0_argument "java/lang/String") (F_ob0_argument_coder : Fld Z h0 ob0_argument "java/lang/String" "coder" "B" (.int (0 : Int32))) (V_ob0_argument_value : Arv Z h0 ob0_argument_value k_ob0_argument_value .byte (2 : Int32) ob0_argument_value_l (.int (0 : Int32))) (F_ob0_argument_value : Fld Z h0 ob0_argument "java/lang/String" "value" "[B" (.ref ob0_argument_value)) (F_ob0_argument : Fld Z h0 ob0 "com/example/momus/momus/cli/Option" "argument" "Ljava/lang/String;" (.ref ob0_argument)) (E_ob0_name : Exa Z h0 ob0_name "java/lang/String") (F_ob0_name_coder : Fld Z h0 ob0_name "java/lang/String" "coder" "B" (.int (0 : Int32))) (V_ob0_name_value : Arv Z h0 ob0_name_value k_ob0_name_value .byte (2 : Int32) ob0_name_value_l (.int (0 : Int32))) (F_ob0_name_value : Fld Z h0 ob0_name "java/lang/String" "value" "[B" (.ref ob0_name_value)) (F_ob0_name : Fld Z h0 ob0 "com/example/momus/momus/cli/Option" "name" "Ljava/lang/String;" (.ref ob0_name)) :
    MetFree l own_y12 (head1 (Jvm.Cond.code own_y12 prog_13_method_4_code 1 (some (.object "java/lang/String")) :: ws) ({ frames := 6, cells := 6, slots := 37, locals := 124 } : Room)) (fun a U => a = #[(.ref ob0)] ∧ Z.Warmed39 U.vm ∧ U.heap = h0 ∧ CHv Z own_EL U.vm h0) (fun _ _ _ _ _ => True) (fun _ U o U' => ∃ v L, o = .returned v ∧ own_Q_rmA54 Z ob0 ob0_argument ob0_argument_value k_ob0_argument_value ob0_argument_value_l ob0_name ob0_name_value k_ob0_name_value ob0_name_value_l cs wf h0 n0 v U'.heap L ∧ CHr Z own_EL U.vm U.heap U'.vm U'.heap ∧ ReturnedEndW U o U' L ({ frames := 6, cells := 6, slots := 37, locals := 124 } : Room).cells ({ frames := 6, cells := 6, slots := 37, locals := 124 } : Room).slots) := by
  refine MetFree.of_bodySF (plainFor_of_name own_pn4) hisR ?_
  intro p e s m args below meth c s₁ Bd hml0 hP hK
  obtain ⟨rfl, hZ, hh, hCH⟩ := hP
  have hx := Bd.exec
  have hby := Bd.bytes
  have hml : c.maxLocals = 1 := hml0
  have hown : s.vm.findClass "com/example/momus/momus/cli/Option" = some m.cls := findClass_of_methodNamed Bd.named
  have hnm := (name_of_methodNamed Bd.named Bd.method).1
  have X0 : Stand p l e ({ frames := 6, cells := 6, slots := 37, locals := 124 } : Room) (s.setVm s.vm) m #[(.ref ob0)] below meth c s₁ [] 0 0 := Stand.of_body Bd
  have e0 : s₁.heap = h0 := by rw [← hh, Bd.state]; rfl
  have N0 := Fr.nil n0
  have Z0 : n0 ≤ h0.size := O0.1 ▸ O0.2.1
  have g0 : ∀ t, Steps p.tables e below (s₁.setTop (mkF m 0 #[.val (.ref ob0)] [])) t → Steps p.tables e below (s₁.setTop (entryFrame m #[(.ref ob0)] 1)) t := fun t k => castTop (own_ef12 m (ob0)) k
  have hC := CHr.refl hCH
  have hS : s.Since s.vm h0.size := (State.WarmedH.refl s).since _
  have hk := Nat.le_refl h0.size
  have G0 := G
  obtain ⟨S_CS, hcs, S_WF, hwf⟩ := G
  obtain ⟨T1, X1, e1, st1⟩ := getF X0 hx hZ hown (host := "") (Or.inl (own_w hw 58 rfl)) Via.refl e0 F_ob0_argument (g := (mkF m 1 #[.val (.ref ob0)] [(.ref ob0)])) rfl rfl (hb hby own_d14_1)
  obtain ⟨T2, h2, X2, e2, E2, A2, D2, -, st2⟩ := newO X1 hx hZ hown (own_w hw 87 rfl) (own_w hw 88 rfl) (own_w hw 89 rfl) e1 (g := (mkF m 14 #[.val (.ref ob0)] [])) rfl (hb hby own_d14_14) (by decide) (by decide)
  obtain ⟨b2, q_b2⟩ : ∃ z, z = h0.size := ⟨_, rfl⟩
  rw [← q_b2] at A2 D2 st2
  have sz_b2 : h0.size ≤ b2 := Nat.le_of_eq q_b2.symm
  have gz_b2 : n0 ≤ b2 := Nat.le_trans Z0 sz_b2
  have ne_ob0_b2 : ob0 ≠ b2 := Nat.ne_of_lt (Nat.lt_of_lt_of_le E_ob0.lt (Nat.le_of_eq q_b2.symm))
  have ne_ob0_argument_b2 : ob0_argument ≠ b2 := Nat.ne_of_lt (Nat.lt_of_lt_of_le E_ob0_argument.lt (Nat.le_of_eq q_b2.symm))
  have ne_ob0_argument_value_b2 : ob0_argument_value ≠ b2 := Nat.ne_of_lt (Nat.lt_of_lt_of_le V_ob0_argument_value.lt (Nat.le_of_eq q_b2.symm))
  have ne_ob0_name_b2 : ob0_name ≠ b2 := Nat.ne_of_lt (Nat.lt_of_lt_of_le E_ob0_name.lt (Nat.le_of_eq q_b2.symm))
  have ne_ob0_name_value_b2 : ob0_name_value ≠ b2 := Nat.ne_of_lt (Nat.lt_of_lt_of_le V_ob0_name_value.lt (Nat.le_of_eq q_b2.symm))
  have hC := hC.trans (CHr.ext E2 hC.1)
  have hk := Nat.le_trans hk E2.1
  have F2_value : Fld Z h2 b2 "java/lang/AbstractStringBuilder" "value" "[B" .null := D2 (Or.inl (own_w hw 102 rfl)) (ty := (.array .byte)) (by decide)
  have F2_coder : Fld Z h2 b2 "java/lang/AbstractStringBuilder" "coder" "B" (.int (0 : Int32)) := D2 (Or.inl (own_w hw 104 rfl)) (ty := .byte) (by decide)
  have F2_count : Fld Z h2 b2 "java/lang/AbstractStringBuilder" "count" "I" (.int (0 : Int32)) := D2 (Or.inl (own_w hw 126 rfl)) (ty := .int) (by decide)
  have o3 : Old Z n0 h2 := (Old.ext O0 E2)
  obtain ⟨_, _, ⟨T4, L4, k4, n4⟩, -, X4, ⟨Lc4, hQ4, l4, y4, z4⟩, st4⟩ := X2.specialBack hx (y := own_y15) rfl hown (mvT hZ (own_w hw 90 rfl)) (mvT hZ (own_w hw 91 rfl)) (mvT hZ (own_w hw 92 rfl)) (by decide) (backOf (W := 1) (rmA22 l Z a0 hw [] b2  cs wf h2 n0 o3 G0 A2 F2_coder F2_count F2_value gz_b2 ) hZ (own_w hw 92 rfl) (own_w hw 89 rfl) (by decide) (by decide)) (g := (mkF m 18 #[.val (.ref ob0)] [(.ref b2), (.ref b2)])) rfl (by rw [hml]; rfl) (Steps.refl _) (a := b2) (argsL := []) (rest := [(.ref b2)]) (lenOf own_pd9 rfl) rfl (by show 2 * 0 + _ ≤ _; exact Nat.le_of_eq rfl) (hb hby own_d14_18) (fun _ _ => ⟨rfl, e2, (by decide : 1 + 1 ≤ _), (by decide : 4 + 16 ≤ _)⟩)
  dsimp only [Pt.U, Pt.locs, Pt.cells, Pt.slots] at X4 l4 y4 z4 st4 hQ4
  subst l4 y4 z4
  obtain ⟨rfl, Nq4, K4, rb4, rk4, hb4, Qe4, Qn4, Qc4, Qv4, sl4, Va4, hl4⟩ := hQ4
  have qf4 := (sfS (EL := own_EL) (Safe.exa hZ.alike A2 (by decide) (by decide)) sf0)
  have hCo4 := hC.1
  have hC := hC.trans (CHr.keep K4 qf4 hC.1)
  have hk := Nat.le_trans hk K4.1
  have N4 := Fr.app N0 Nq4
  have sz_rb4 : h0.size ≤ rb4 := Nat.le_trans E2.1 hb4
  have gz_rb4 : n0 ≤ rb4 := Nat.le_trans Z0 sz_rb4
  have sf_rb4 := Safe.keep (EL := own_EL) K4 qf4 hCo4 (Safe.new hb4)
  have ne_b2_rb4 : b2 ≠ rb4 := Nat.ne_of_lt (Nat.lt_of_lt_of_le A2.lt hb4)
  have ne_ob0_rb4 : ob0 ≠ rb4 := Nat.ne_of_lt (Nat.lt_of_lt_of_le (E_ob0.ext E2).lt hb4)
  have ne_ob0_argument_rb4 : ob0_argument ≠ rb4 := Nat.ne_of_lt (Nat.lt_of_lt_of_le (E_ob0_argument.ext E2).lt hb4)
  have ne_ob0_argument_value_rb4 : ob0_argument_value ≠ rb4 := Nat.ne_of_lt (Nat.lt_of_lt_of_le (V_ob0_argument_value.ext E2).lt hb4)
  have ne_ob0_name_rb4 : ob0_name ≠ rb4 := Nat.ne_of_lt (Nat.lt_of_lt_of_le (E_ob0_name.ext E2).lt hb4)
  have ne_ob0_name_value_rb4 : ob0_name_value ≠ rb4 := Nat.ne_of_lt (Nat.lt_of_lt_of_le (V_ob0_name_value.ext E2).lt hb4)
  have f5 := ((F_ob0_name.ext E2).keep K4 (ninS ne_ob0_b2 nin0))
  obtain ⟨T6, X6, e6, st6⟩ := getF X4 hx hZ hown (host := "") (Or.inl (own_w hw 56 rfl)) Via.refl rfl f5 (g := (mkF m 22 #[.val (.ref ob0)] [(.ref ob0), (.ref b2)])) rfl rfl (hb hby own_d14_22)
  have f7 := ((E_ob0_name.ext E2).keep K4)
  have f8 := ((F_ob0_name_coder.ext E2).keep K4 (ninS ne_ob0_name_b2 nin0))
  have f9 := ((V_ob0_name_value.ext E2).keep K4 (ninS ne_ob0_name_value_b2 nin0))
  have f10 := ((F_ob0_name_value.ext E2).keep K4 (ninS ne_ob0_name_b2 nin0))
  have o11 : Old Z n0 T4.heap := (Old.keep o3 K4 (allS gz_b2 all0))
  obtain ⟨cq12, kq12, q12a, q12b, q12c⟩ := isOf hZ e6 Qe4
  obtain ⟨_, _, ⟨T12, L12, k12, n12⟩, -, X12, ⟨Lc12, hQ12, l12, y12, z12⟩, st12⟩ := X6.virtualBack hx (y := own_y17) (z := own_y17) hown (mvT hZ (own_w hw 105 rfl)) (mvT hZ (own_w hw 106 rfl)) (notFace_of_selects (args := #[]) (mvT hZ (own_w hw 108 rfl))) (mvT hZ (own_w hw 108 rfl)) (mvT hZ (own_w hw 107 rfl)) (by decide) (backOf (W := 0) (rmA24 l Z a0 hw [] b2 ((0 : Int32)) rb4 rk4 sl4 ob0_name ob0_name_value k_ob0_name_value ((2 : Int32)) ob0_name_value_l  cs wf T4.heap n0 o11 G0 Qe4 Qc4 Qn4 Va4 Qv4 f7 f8 f9 f10 gz_b2 gz_rb4 (by decide) (by decide) (by decide) (by decide) hl4) hZ (own_w hw 109 rfl) (own_w hw 89 rfl) (by decide) (by decide)) q12a q12c (g := (mkF m 25 #[.val (.ref ob0)] [(.ref ob0_name), (.ref b2)])) rfl (by rw [hml]; rfl) (Steps.refl _) (argsL := [(.ref ob0_name)]) (rest := []) (lenOf own_pd22 rfl) rfl (by show 2 * 0 + _ ≤ _; exact Nat.le_of_eq rfl) (hb hby own_d14_25) (fun _ _ => ⟨rfl, e6, (by decide : 2 + 0 ≤ _), (by decide : 20 + 0 ≤ _)⟩)
  dsimp only [Pt.U, Pt.locs, Pt.cells, Pt.slots] at X12 l12 y12 z12 st12 hQ12
  subst l12 y12 z12
  obtain ⟨rfl, Nq12, K12, Qn12, Qc12, Qv12, sl12, Va12, hl12⟩ := hQ12
  have qf12 := (sfS (EL := own_EL) (Safe.exa hZ.alike Qe4 (by decide) (by decide)) (sfS (EL := own_EL) sf_rb4 sf0))
  have hCo12 := hC.1
  have sf_rb4 := Safe.keep K12 qf12 hC.1 sf_rb4
  have hC := hC.trans (CHr.keep K12 qf12 hC.1)
  have hk := Nat.le_trans hk K12.1
  have N12 := Fr.app N4 Nq12
  have Qm12 : Fld Z T12.heap b2 "java/lang/AbstractStringBuilder" "count" "I" (.int (2 : Int32)) := by have q := Qn12; rw [show ((0 : Int32) + (2 : Int32)) = (2 : Int32) from by decide] at q; exact q
  obtain ⟨a13, T13, h13, k13, b13, ka13, X13, e13, E13, hS, hk, hZ, hown, Ex13, Fc13, Fv13, Va13, -, -, C13, -, -, st13⟩ := ldcCH (s := s) (vm0 := s.vm) X12 hx hZ hown (own_w hw 152 rfl) (own_wS hw) rfl hS hk (own_EW hw) (List.mem_of_getElem? (i := 1) rfl) hC.1 (vs := [(.int (32 : Int32))]) (z := (1 : Int32)) ⟨by decide, by decide⟩ (by decide) (by decide) (g := (mkF m 28 #[.val (.ref ob0)] [(.ref b2)])) rfl (hb hby own_d14_28) (n := 4) (by decide) (by decide) (by decide) (by decide)
  have sf_rb4 := CHr.safe C13 Va12.lt sf_rb4
  have hC := hC.trans C13
  have f14 := ((Qe4.keep K12).ext E13)
  have f15 := (Qc12.ext E13)
  have f16 := (Qm12.ext E13)
  have f17 := (Va12.ext E13)
  have f18 := (Qv12.ext E13)
  have o19 : Old Z n0 h13 := (Old.ext (Old.keep o11 K12 (allS gz_b2 (allS gz_rb4 all0))) E13)
  obtain ⟨cq20, kq20, q20a, q20b, q20c⟩ := isOf hZ e13 f14
  obtain ⟨_, _, ⟨T20, L20, k20, n20⟩, -, X20, ⟨Lc20, hQ20, l20, y20, z20⟩, st20⟩ := X13.virtualBack hx (y := own_y17) (z := own_y17) hown (mvT hZ (own_w hw 105 rfl)) (mvT hZ (own_w hw 106 rfl)) (notFace_of_selects (args := #[]) (mvT hZ (own_w hw 108 rfl))) (mvT hZ (own_w hw 108 rfl)) (mvT hZ (own_w hw 107 rfl)) (by decide) (backOf (W := 0) (rmA32 l Z a0 hw [] b2 ((2 : Int32)) rb4 rk4 sl12 a13 b13 ka13 ((1 : Int32))  cs wf h13 n0 o19 G0 f14 f15 f16 f17 f18 Ex13 Fc13 Va13 Fv13 gz_b2 gz_rb4 (by decide) (by decide) (by decide) (by decide) hl12) hZ (own_w hw 109 rfl) (own_w hw 89 rfl) (by decide) (by decide)) q20a q20c (g := (mkF m 30 #[.val (.ref ob0)] [(.ref a13), (.ref b2)])) rfl (by rw [hml]; rfl) (Steps.refl _) (argsL := [(.ref a13)]) (rest := []) (lenOf own_pd22 rfl) rfl (by show 2 * 0 + _ ≤ _; exact Nat.le_of_eq rfl) (hb hby own_d14_30) (fun _ _ => ⟨rfl, e13, (by decide : 4 + 0 ≤ _), (by decide : 28 + 0 ≤ _)⟩)
  dsimp only [Pt.U, Pt.locs, Pt.cells, Pt.slots] at X20 l20 y20 z20 st20 hQ20
  subst l20 y20 z20
  obtain ⟨rfl, Nq20, K20, Qn20, Qc20, Qv20, sl20, Va20, hl20⟩ := hQ20
  have qf20 := (sfS (EL := own_EL) (Safe.exa hZ.alike f14 (by decide) (by decide)) (sfS (EL := own_EL) sf_rb4 sf0))
  have hCo20 := hC.1
  have sf_rb4 := Safe.keep K20 qf20 hC.1 sf_rb4
  have hC := hC.trans (CHr.keep K20 qf20 hC.1)
  have hk := Nat.le_trans hk K20.1
  have N20 := Fr.app N12 Nq20
  have Qm20 : Fld Z T20.heap b2 "java/lang/AbstractStringBuilder" "count" "I" (.int (3 : Int32)) := by have q := Qn20; rw [show ((2 : Int32) + (1 : Int32)) = (3 : Int32) from by decide] at q; exact q
  have f21 := (((((F_ob0_argument.ext E2).keep K4 (ninS ne_ob0_b2 nin0)).keep K12 (ninS ne_ob0_b2 (ninS ne_ob0_rb4 nin0))).ext E13).keep K20 (ninS ne_ob0_b2 (ninS ne_ob0_rb4 nin0)))
  obtain ⟨T22, X22, e22, st22⟩ := getF X20 hx hZ hown (host := "") (Or.inl (own_w hw 58 rfl)) Via.refl rfl f21 (g := (mkF m 34 #[.val (.ref ob0)] [(.ref ob0), (.ref b2)])) rfl rfl (hb hby own_d14_34)
  obtain ⟨LL23, XL23, NL23⟩ : ∃ LL : List Loc, Stand p l e ({ frames := 6, cells := 6, slots := 37, locals := 124 } : Room) (s.setVm T13.vm) m #[(.ref ob0)] below meth c T22 LL 4 28 ∧ Fr n0 LL := ⟨_, X22, N20⟩
  have f24 := (f14.keep K20)
  have f25 := (((((E_ob0_argument.ext E2).keep K4).keep K12).ext E13).keep K20)
  have f26 := (((((F_ob0_argument_coder.ext E2).keep K4 (ninS ne_ob0_argument_b2 nin0)).keep K12 (ninS ne_ob0_argument_b2 (ninS ne_ob0_argument_rb4 nin0))).ext E13).keep K20 (ninS ne_ob0_argument_b2 (ninS ne_ob0_argument_rb4 nin0)))
  have f27 := (((((V_ob0_argument_value.ext E2).keep K4 (ninS ne_ob0_argument_value_b2 nin0)).keep K12 (ninS ne_ob0_argument_value_b2 (ninS ne_ob0_argument_value_rb4 nin0))).ext E13).keep K20 (ninS ne_ob0_argument_value_b2 (ninS ne_ob0_argument_value_rb4 nin0)))
  have f28 := (((((F_ob0_argument_value.ext E2).keep K4 (ninS ne_ob0_argument_b2 nin0)).keep K12 (ninS ne_ob0_argument_b2 (ninS ne_ob0_argument_rb4 nin0))).ext E13).keep K20 (ninS ne_ob0_argument_b2 (ninS ne_ob0_argument_rb4 nin0)))
  have o29 : Old Z n0 T20.heap := (Old.keep o19 K20 (allS gz_b2 (allS gz_rb4 all0)))
  obtain ⟨cq30, kq30, q30a, q30b, q30c⟩ := isOf hZ e22 f24
  obtain ⟨_, _, ⟨T30, L30, k30, n30⟩, -, X30, ⟨Lc30, hQ30, l30, y30, z30⟩, st30⟩ := XL23.virtualBack hx (y := own_y17) (z := own_y17) hown (mvT hZ (own_w hw 105 rfl)) (mvT hZ (own_w hw 106 rfl)) (notFace_of_selects (args := #[]) (mvT hZ (own_w hw 108 rfl))) (mvT hZ (own_w hw 108 rfl)) (mvT hZ (own_w hw 107 rfl)) (by decide) (backOf (W := 0) (rmA24 l Z a0 hw [] b2 ((3 : Int32)) rb4 rk4 sl20 ob0_argument ob0_argument_value k_ob0_argument_value ((2 : Int32)) ob0_argument_value_l  cs wf T20.heap n0 o29 G0 f24 Qc20 Qm20 Va20 Qv20 f25 f26 f27 f28 gz_b2 gz_rb4 (by decide) (by decide) (by decide) (by decide) hl20) hZ (own_w hw 109 rfl) (own_w hw 89 rfl) (by decide) (by decide)) q30a q30c (g := (mkF m 37 #[.val (.ref ob0)] [(.ref ob0_argument), (.ref b2)])) rfl (by rw [hml]; rfl) (Steps.refl _) (argsL := [(.ref ob0_argument)]) (rest := []) (lenOf own_pd22 rfl) rfl (by show 2 * 0 + _ ≤ _; exact Nat.le_of_eq rfl) (hb hby own_d14_37) (fun _ _ => ⟨rfl, e22, (by decide : 4 + 0 ≤ _), (by decide : 28 + 0 ≤ _)⟩)
  dsimp only [Pt.U, Pt.locs, Pt.cells, Pt.slots] at X30 l30 y30 z30 st30 hQ30
  subst l30 y30 z30
  obtain ⟨rfl, Nq30, K30, Qn30, Qc30, Qv30, sl30, Va30, hl30⟩ := hQ30
  have qf30 := (sfS (EL := own_EL) (Safe.exa hZ.alike f24 (by decide) (by decide)) (sfS (EL := own_EL) sf_rb4 sf0))
  have hCo30 := hC.1
  have sf_rb4 := Safe.keep K30 qf30 hC.1 sf_rb4
  have hC := hC.trans (CHr.keep K30 qf30 hC.1)
  have hk := Nat.le_trans hk K30.1
  have N30 := Fr.app NL23 Nq30
  have Qm30 : Fld Z T30.heap b2 "java/lang/AbstractStringBuilder" "count" "I" (.int (5 : Int32)) := by have q := Qn30; rw [show ((3 : Int32) + (2 : Int32)) = (5 : Int32) from by decide] at q; exact q
  have f31 := (f24.keep K30)
  have o32 : Old Z n0 T30.heap := (Old.keep o29 K30 (allS gz_b2 (allS gz_rb4 all0)))
  obtain ⟨cq33, kq33, q33a, q33b, q33c⟩ := isOf hZ rfl f31
  obtain ⟨_, _, ⟨T33, L33, k33, n33⟩, -, X33, ⟨Lc33, hQ33, l33, y33, z33⟩, st33⟩ := X30.virtualBack hx (y := own_y25) (z := own_y25) hown (mvT hZ (own_w hw 153 rfl)) (mvT hZ (own_w hw 154 rfl)) (notFace_of_selects (args := #[]) (mvT hZ (own_w hw 156 rfl))) (mvT hZ (own_w hw 156 rfl)) (mvT hZ (own_w hw 155 rfl)) (by decide) (backOf (W := 0) (rmA37 l Z a0 hw [] b2 ((5 : Int32)) rb4 rk4 sl30  cs wf T30.heap n0 o32 G0 f31 Qc30 Qm30 Va30 Qv30  (by decide) (by decide) (by decide) (by decide) (by decide) (by decide) (by decide)) hZ (own_w hw 157 rfl) (own_w hw 89 rfl) (by decide) (by decide)) q33a q33c (g := (mkF m 40 #[.val (.ref ob0)] [(.ref b2)])) rfl (by rw [hml]; rfl) (Steps.refl _) (argsL := []) (rest := []) (lenOf own_pd12 rfl) rfl (by show 2 * 0 + _ ≤ _; exact Nat.le_of_eq rfl) (hb hby own_d14_40) (fun _ _ => ⟨rfl, rfl, (by decide : 4 + 2 ≤ _), (by decide : 28 + 9 ≤ _)⟩)
  dsimp only [Pt.U, Pt.locs, Pt.cells, Pt.slots] at X33 l33 y33 z33 st33 hQ33
  subst l33 y33 z33
  obtain ⟨sa33, sb33, sk33, sl33, rfl, Nq33, K33, hba33, hbb33, Qe33, Qc33, Qv33, Qa33⟩ := hQ33
  have hCo33 := hC.1
  have sf_rb4 := Safe.keep K33 sf0 hC.1 sf_rb4
  have hC := hC.trans (CHr.keep K33 sf0 hC.1)
  have hk := Nat.le_trans hk K33.1
  have N33 := Fr.app N30 Nq33
  have sz_sa33 : h0.size ≤ sa33 := Nat.le_trans (Nat.le_trans (Nat.le_trans (Nat.le_trans (Nat.le_trans (Nat.le_trans E2.1 K4.1) K12.1) E13.1) K20.1) K30.1) hba33
  have gz_sa33 : n0 ≤ sa33 := Nat.le_trans Z0 sz_sa33
  have sf_sa33 := Safe.keep (EL := own_EL) K33 sf0 hCo33 (Safe.new hba33)
  have ne_a13_sa33 : a13 ≠ sa33 := Nat.ne_of_lt (Nat.lt_of_lt_of_le ((Ex13.keep K20).keep K30).lt hba33)
  have ne_b2_sa33 : b2 ≠ sa33 := Nat.ne_of_lt (Nat.lt_of_lt_of_le f31.lt hba33)
  have ne_ob0_sa33 : ob0 ≠ sa33 := Nat.ne_of_lt (Nat.lt_of_lt_of_le ((((((E_ob0.ext E2).keep K4).keep K12).ext E13).keep K20).keep K30).lt hba33)
  have ne_ob0_argument_sa33 : ob0_argument ≠ sa33 := Nat.ne_of_lt (Nat.lt_of_lt_of_le (f25.keep K30).lt hba33)
  have ne_ob0_argument_value_sa33 : ob0_argument_value ≠ sa33 := Nat.ne_of_lt (Nat.lt_of_lt_of_le (f27.keep K30 (ninS ne_ob0_argument_value_b2 (ninS ne_ob0_argument_value_rb4 nin0))).lt hba33)
  have ne_ob0_name_sa33 : ob0_name ≠ sa33 := Nat.ne_of_lt (Nat.lt_of_lt_of_le ((((f7.keep K12).ext E13).keep K20).keep K30).lt hba33)
  have ne_ob0_name_value_sa33 : ob0_name_value ≠ sa33 := Nat.ne_of_lt (Nat.lt_of_lt_of_le ((((f9.keep K12 (ninS ne_ob0_name_value_b2 (ninS ne_ob0_name_value_rb4 nin0))).ext E13).keep K20 (ninS ne_ob0_name_value_b2 (ninS ne_ob0_name_value_rb4 nin0))).keep K30 (ninS ne_ob0_name_value_b2 (ninS ne_ob0_name_value_rb4 nin0))).lt hba33)
  have ne_rb4_sa33 : rb4 ≠ sa33 := Nat.ne_of_lt (Nat.lt_of_lt_of_le Va30.lt hba33)
  have sz_sb33 : h0.size ≤ sb33 := Nat.le_trans (Nat.le_trans (Nat.le_trans (Nat.le_trans (Nat.le_trans (Nat.le_trans E2.1 K4.1) K12.1) E13.1) K20.1) K30.1) hbb33
  have gz_sb33 : n0 ≤ sb33 := Nat.le_trans Z0 sz_sb33
  have sf_sb33 := Safe.keep (EL := own_EL) K33 sf0 hCo33 (Safe.new hbb33)
  have ne_a13_sb33 : a13 ≠ sb33 := Nat.ne_of_lt (Nat.lt_of_lt_of_le ((Ex13.keep K20).keep K30).lt hbb33)
  have ne_b2_sb33 : b2 ≠ sb33 := Nat.ne_of_lt (Nat.lt_of_lt_of_le f31.lt hbb33)
  have ne_ob0_sb33 : ob0 ≠ sb33 := Nat.ne_of_lt (Nat.lt_of_lt_of_le ((((((E_ob0.ext E2).keep K4).keep K12).ext E13).keep K20).keep K30).lt hbb33)
  have ne_ob0_argument_sb33 : ob0_argument ≠ sb33 := Nat.ne_of_lt (Nat.lt_of_lt_of_le (f25.keep K30).lt hbb33)
  have ne_ob0_argument_value_sb33 : ob0_argument_value ≠ sb33 := Nat.ne_of_lt (Nat.lt_of_lt_of_le (f27.keep K30 (ninS ne_ob0_argument_value_b2 (ninS ne_ob0_argument_value_rb4 nin0))).lt hbb33)
  have ne_ob0_name_sb33 : ob0_name ≠ sb33 := Nat.ne_of_lt (Nat.lt_of_lt_of_le ((((f7.keep K12).ext E13).keep K20).keep K30).lt hbb33)
  have ne_ob0_name_value_sb33 : ob0_name_value ≠ sb33 := Nat.ne_of_lt (Nat.lt_of_lt_of_le ((((f9.keep K12 (ninS ne_ob0_name_value_b2 (ninS ne_ob0_name_value_rb4 nin0))).ext E13).keep K20 (ninS ne_ob0_name_value_b2 (ninS ne_ob0_name_value_rb4 nin0))).keep K30 (ninS ne_ob0_name_value_b2 (ninS ne_ob0_name_value_rb4 nin0))).lt hbb33)
  have ne_rb4_sb33 : rb4 ≠ sb33 := Nat.ne_of_lt (Nat.lt_of_lt_of_le Va30.lt hbb33)
  have g34 : ∀ t, Steps p.tables e below (T33.setTop (mkF m 43 #[.val (.ref ob0)] [(.ref sa33)])) t → Steps p.tables e below (s₁.setTop (entryFrame m #[(.ref ob0)] 1)) t := by
    intro t k
    refine g0 t ?_
    show Steps p.tables e below (s₁.setTop (mkF m 0 #[.val (.ref ob0)] [])) _
    refine XS.aloadN X0.here hx rfl (hb hby own_d14_0) rfl rfl ?_
    refine st1 _ ?_
    refine XS.ifnonnullYes X1.here hx rfl (pc0 := 4) (pc' := 14) rfl (hb hby own_d14_4) rfl (by decide) (by decide) ?_
    refine st2 _ ?_
    show Steps p.tables e below (T2.setTop (mkF m 17 #[.val (.ref ob0)] [(.ref b2)])) _
    refine XS.dup X2.here hx rfl (hb hby own_d14_17) rfl rfl ?_
    refine st4.trans ?_
    refine XS.aloadN X4.here hx rfl (hb hby own_d14_21) rfl rfl ?_
    refine st6 _ ?_
    show Steps p.tables e below (T6.setTop (mkF m 25 #[.val (.ref ob0)] [(.ref ob0_name), (.ref b2)])) _
    refine st12.trans ?_
    refine st13 _ ?_
    refine st20.trans ?_
    refine XS.aloadN X20.here hx rfl (hb hby own_d14_33) rfl rfl ?_
    show Steps p.tables e below (T20.setTop (mkF m 34 #[.val (.ref ob0)] [(.ref ob0), (.ref b2)])) _
    refine st22 _ ?_
    refine st30.trans ?_
    refine st33.trans ?_
    exact k
  obtain ⟨fs, hrt, hrun, hended, hRW⟩ := X33.leaveW hS hk (v := some (.ref sa33)) (fun h => by rw [Bd.returns] at h; cases h)
  refine ⟨_, _, g34 _ ?_, hrun, hended, _, _, rfl, ?_, ?_, hRW.1, hRW.2.1, hRW.2.2.1, hRW.2.2.2.mono (by decide) (by decide)⟩
  · show Steps p.tables e below (T33.setTop (mkF m 43 #[.val (.ref ob0)] [(.ref sa33)])) _
    jvm_step X33.here [X33.here.top, hx, (hb hby own_d14_43), X33.method', Bd.returns, Value.isRef, FieldType.isReference]
    first | (intro acts; rw [hrt _ acts rfl rfl rfl]) | rw [hrt _ _ rfl rfl rfl]
    exact Steps.refl _
  · show own_Q_rmA54 Z ob0 ob0_argument ob0_argument_value k_ob0_argument_value ob0_argument_value_l ob0_name ob0_name_value k_ob0_name_value ob0_name_value_l cs wf h0 n0 _ T33.heap _
    exact ⟨sa33, sb33, _, _, rfl, N33, (Keep.trans (Keep.trans (Keep.trans (Keep.ext (Keep.trans (Keep.trans (Keep.ext (Keep.refl h0 []) E2) K4 (allS (Or.inr sz_b2) all0)) K12 (allS (Or.inr sz_b2) (allS (Or.inr sz_rb4) all0))) E13) K20 (allS (Or.inr sz_b2) (allS (Or.inr sz_rb4) all0))) K30 (allS (Or.inr sz_b2) (allS (Or.inr sz_rb4) all0))) K33 all0), sz_sa33, sz_sb33, Qe33, Qc33, Qv33, Qa33⟩
  · rw [hh]
    show CHr Z own_EL s.vm h0 T33.vm T33.heap
    exact hC.trans (CHv.at X33 hZ (own_EW hw) hC.1)
def own_Q_rmA56 (Z : State) (ob0 : Addr) (k_ob0 : ClassId) (ob0_l : List Value) (ob1 : Addr) (k_ob1 : ClassId) (ob1_l : List Value)  (cs : Int32) (wf : Value) (h0 : Heap) (n0 : Nat) (v : Option Value) (h : Heap) (L : List Loc) : Prop := v = some (.int (0 : Int32)) ∧ Fr n0 L ∧ h = h0
set_option maxRecDepth 65536 in
set_option maxHeartbeats 40000000 in
theorem rmA56 (l : Launch) (Z : State) (a0 : Array Value) (hw : ∀ d ∈ tables_1, d.before a0 Z = true) (ws : List Jvm.Cond) (ob0 : Addr) (k_ob0 : ClassId) (ob0_l : List Value) (ob1 : Addr) (k_ob1 : ClassId) (ob1_l : List Value)  (cs : Int32) (wf : Value) (h0 : Heap) (n0 : Nat) (O0 : Old Z n0 h0) (G : own_Gl Z cs wf) (V_ob0 : Arv Z h0 ob0 k_ob0 .byte (5 : Int32) ob0_l (.int (0 : Int32))) (V_ob1 : Arv Z h0 ob1 k_ob1 .byte (2 : Int32) ob1_l (.int (0 : Int32))) :
    MetFree l own_y36 (head1 (Jvm.Cond.code own_y36 jdk_43_method_13_code 3 (some .boolean) :: ws) ({ frames := 0, cells := 0, slots := 0, locals := 0 } : Room)) (fun a U => a = #[(.ref ob0), (.ref ob1)] ∧ Z.Warmed39 U.vm ∧ U.heap = h0) (fun _ _ _ _ _ => True) (fun _ U o U' => ∃ v L, o = .returned v ∧ own_Q_rmA56 Z ob0 k_ob0 ob0_l ob1 k_ob1 ob1_l cs wf h0 n0 v U'.heap L ∧ FrameEnd U o U' L ({ frames := 0, cells := 0, slots := 0, locals := 0 } : Room).cells ({ frames := 0, cells := 0, slots := 0, locals := 0 } : Room).slots) := by
  refine MetFree.of_bodySF (plainFor_of_name own_pn3) hisR ?_
  intro p e s m args below meth c s₁ Bd hml0 hP hK
  obtain ⟨rfl, hZ, hh⟩ := hP
  have hx := Bd.exec
  have hby := Bd.bytes
  have hml : c.maxLocals = 3 := hml0
  have hown : s.vm.findClass "java/lang/StringLatin1" = some m.cls := findClass_of_methodNamed Bd.named
  have hnm := (name_of_methodNamed Bd.named Bd.method).1
  have X0 : Stand p l e ({ frames := 0, cells := 0, slots := 0, locals := 0 } : Room) s m #[(.ref ob0), (.ref ob1)] below meth c s₁ [] 0 0 := Stand.of_body Bd
  have e0 : s₁.heap = h0 := by rw [← hh, Bd.state]; rfl
  have N0 := Fr.nil n0
  have Z0 : n0 ≤ h0.size := O0.1 ▸ O0.2.1
  have g0 : ∀ t, Steps p.tables e below (s₁.setTop (mkF m 0 #[.val (.ref ob0), .val (.ref ob1), .unset] [])) t → Steps p.tables e below (s₁.setTop (entryFrame m #[(.ref ob0), (.ref ob1)] 3)) t := fun t k => castTop (own_ef15 m (ob0) (ob1)) k
  have G0 := G
  obtain ⟨S_CS, hcs, S_WF, hwf⟩ := G
  obtain ⟨c1, Ar1, cq1, S1, Nn1, Hh1, Gg1⟩ := id V_ob0
  obtain ⟨c2, Ar2, cq2, S2, Nn2, Hh2, Gg2⟩ := id V_ob1
  have g3 : ∀ t, Steps p.tables e below (s₁.setTop (mkF m 35 #[.val (.ref ob0), .val (.ref ob1), .unset] [(.int (0 : Int32))])) t → Steps p.tables e below (s₁.setTop (entryFrame m #[(.ref ob0), (.ref ob1)] 3)) t := by
    intro t k
    refine g0 t ?_
    show Steps p.tables e below (s₁.setTop (mkF m 0 #[.val (.ref ob0), .val (.ref ob1), .unset] [])) _
    refine XS.aloadN X0.here hx rfl (hb hby own_d38_0) rfl rfl ?_
    show Steps p.tables e below (s₁.setTop (mkF m 1 #[.val (.ref ob0), .val (.ref ob1), .unset] [(.ref ob0)])) _
    refine X0.arraylength hx (by rw [e0]; exact Ar1.1) (State.isArrayOf_alike hZ.alike Ar1.2.1) (g := (mkF m 1 #[.val (.ref ob0), .val (.ref ob1), .unset] [(.ref ob0)])) rfl rfl (hb hby own_d38_1) _ ?_
    rw [len_of S1 Nn1]
    refine XS.aloadN X0.here hx rfl (hb hby own_d38_2) rfl rfl ?_
    show Steps p.tables e below (s₁.setTop (mkF m 3 #[.val (.ref ob0), .val (.ref ob1), .unset] [(.ref ob1), (.int (5 : Int32))])) _
    refine X0.arraylength hx (by rw [e0]; exact Ar2.1) (State.isArrayOf_alike hZ.alike Ar2.2.1) (g := (mkF m 3 #[.val (.ref ob0), .val (.ref ob1), .unset] [(.ref ob1), (.int (5 : Int32))])) rfl rfl (hb hby own_d38_3) _ ?_
    rw [len_of S2 Nn2]
    show Steps p.tables e below (s₁.setTop (mkF m 4 #[.val (.ref ob0), .val (.ref ob1), .unset] [(.int (2 : Int32)), (.int (5 : Int32))])) _
    refine XS.icmpYes X0.here hx rfl (pc0 := 4) (pc' := 34) rfl (hb hby own_d38_4) rfl (feq (by decide : ¬ ((5 : Int32) = (2 : Int32)))).2 (by decide) (by decide) ?_
    refine XS.iconst X0.here hx rfl (hb hby own_d38_34) ?_
    exact k
  obtain ⟨fs, hrt, hrun, hended, hW, hsame⟩ := X0.leave (v := some (.int (0 : Int32))) (fun h => by rw [Bd.returns] at h; cases h)
  refine ⟨_, _, g3 _ ?_, hrun, hended, _, _, rfl, ?_, ⟨_, rfl⟩, hW, hsame.mono (by decide) (by decide)⟩
  · show Steps p.tables e below (s₁.setTop (mkF m 35 #[.val (.ref ob0), .val (.ref ob1), .unset] [(.int (0 : Int32))])) _
    exact retN X0 hx (t := .boolean) Bd.returns (by simp) (hb hby own_d38_35) hrt
  · show own_Q_rmA56 Z ob0 k_ob0 ob0_l ob1 k_ob1 ob1_l cs wf h0 n0 _ s₁.heap _
    rw [e0]
    exact ⟨rfl, N0, rfl⟩
def own_Q_rmA55 (Z : State) (ob0 : Addr) (ob0_value : Addr) (k_ob0_value : ClassId) (ob0_value_l : List Value) (ob1 : Addr) (ob1_value : Addr) (k_ob1_value : ClassId) (ob1_value_l : List Value)  (cs : Int32) (wf : Value) (h0 : Heap) (n0 : Nat) (v : Option Value) (h : Heap) (L : List Loc) : Prop := v = some (.int (0 : Int32)) ∧ Fr n0 L ∧ h = h0
set_option maxRecDepth 65536 in
set_option maxHeartbeats 40000000 in
theorem rmA55 (l : Launch) (Z : State) (a0 : Array Value) (hw : ∀ d ∈ tables_1, d.before a0 Z = true) (ws : List Jvm.Cond) (ob0 : Addr) (ob0_value : Addr) (k_ob0_value : ClassId) (ob0_value_l : List Value) (ob1 : Addr) (ob1_value : Addr) (k_ob1_value : ClassId) (ob1_value_l : List Value)  (cs : Int32) (wf : Value) (h0 : Heap) (n0 : Nat) (O0 : Old Z n0 h0) (G : own_Gl Z cs wf) (E_ob0 : Exa Z h0 ob0 "java/lang/String") (F_ob0_coder : Fld Z h0 ob0 "java/lang/String" "coder" "B" (.int (0 : Int32))) (V_ob0_value : Arv Z h0 ob0_value k_ob0_value .byte (5 : Int32) ob0_value_l (.int (0 : Int32))) (F_ob0_value : Fld Z h0 ob0 "java/lang/String" "value" "[B" (.ref ob0_value)) (E_ob1 : Exa Z h0 ob1 "java/lang/String") (F_ob1_coder : Fld Z h0 ob1 "java/lang/String" "coder" "B" (.int (0 : Int32))) (V_ob1_value : Arv Z h0 ob1_value k_ob1_value .byte (2 : Int32) ob1_value_l (.int (0 : Int32))) (F_ob1_value : Fld Z h0 ob1 "java/lang/String" "value" "[B" (.ref ob1_value)) (hne : ob0 ≠ ob1) :
    MetFree l own_y13 (head1 (Jvm.Cond.code own_y13 jdk_42_method_66_code 3 (some .boolean) :: ws) ({ frames := 1, cells := 0, slots := 0, locals := 14 } : Room)) (fun a U => a = #[(.ref ob0), (.ref ob1)] ∧ Z.Warmed39 U.vm ∧ U.heap = h0) (fun _ _ _ _ _ => True) (fun _ U o U' => ∃ v L, o = .returned v ∧ own_Q_rmA55 Z ob0 ob0_value k_ob0_value ob0_value_l ob1 ob1_value k_ob1_value ob1_value_l cs wf h0 n0 v U'.heap L ∧ FrameEnd U o U' L ({ frames := 1, cells := 0, slots := 0, locals := 14 } : Room).cells ({ frames := 1, cells := 0, slots := 0, locals := 14 } : Room).slots) := by
  refine MetFree.of_bodySF (plainFor_of_name own_pn1) hisR ?_
  intro p e s m args below meth c s₁ Bd hml0 hP hK
  obtain ⟨rfl, hZ, hh⟩ := hP
  have hx := Bd.exec
  have hby := Bd.bytes
  have hml : c.maxLocals = 3 := hml0
  have hown : s.vm.findClass "java/lang/String" = some m.cls := findClass_of_methodNamed Bd.named
  have hnm := (name_of_methodNamed Bd.named Bd.method).1
  have X0 : Stand p l e ({ frames := 1, cells := 0, slots := 0, locals := 14 } : Room) s m #[(.ref ob0), (.ref ob1)] below meth c s₁ [] 0 0 := Stand.of_body Bd
  have e0 : s₁.heap = h0 := by rw [← hh, Bd.state]; rfl
  have N0 := Fr.nil n0
  have Z0 : n0 ≤ h0.size := O0.1 ▸ O0.2.1
  have g0 : ∀ t, Steps p.tables e below (s₁.setTop (mkF m 0 #[.val (.ref ob0), .val (.ref ob1), .unset] [])) t → Steps p.tables e below (s₁.setTop (entryFrame m #[(.ref ob0), (.ref ob1)] 3)) t := fun t k => castTop (own_ef15 m (ob0) (ob1)) k
  have G0 := G
  obtain ⟨S_CS, hcs, S_WF, hwf⟩ := G
  obtain ⟨T1, X1, e1, st1⟩ := instY X0 hx hZ hown (own_w hw 37 rfl) e0 (Ins.self E_ob1) (g := (mkF m 8 #[.val (.ref ob0), .val (.ref ob1), .unset] [(.ref ob1)])) rfl rfl (hb hby own_d15_8)
  obtain ⟨T2, X2, e2, st2⟩ := castY X1 hx hZ hown (own_w hw 37 rfl) e1 (Ins.self E_ob1) (g := (mkF m 15 #[.val (.ref ob0), .val (.ref ob1), .unset] [(.ref ob1)])) rfl rfl (hb hby own_d15_15)
  obtain ⟨T3, X3, e3, st3⟩ := getS2 X2 hx hZ hown (host := "") (Or.inl (own_w hw 14 rfl)) Via.refl e2 (S_CS.ext O0.2) (g := (mkF m 19 #[.val (.ref ob0), .val (.ref ob1), .val (.ref ob1)] [])) rfl (hb hby own_d15_19)
  have hc4 : ¬ (cs = (0 : Int32)) := hcs
  obtain ⟨T5, X5, e5, st5⟩ := getF X3 hx hZ hown (host := "") (Or.inl (own_w hw 26 rfl)) Via.refl e3 F_ob0_coder (g := (mkF m 26 #[.val (.ref ob0), .val (.ref ob1), .val (.ref ob1)] [(.ref ob0)])) rfl rfl (hb hby own_d15_26)
  obtain ⟨T6, X6, e6, st6⟩ := getF X5 hx hZ hown (host := "") (Or.inl (own_w hw 26 rfl)) Via.refl e5 F_ob1_coder (g := (mkF m 30 #[.val (.ref ob0), .val (.ref ob1), .val (.ref ob1)] [(.ref ob1), (.int (0 : Int32))])) rfl rfl (hb hby own_d15_30)
  obtain ⟨T7, X7, e7, st7⟩ := getF X6 hx hZ hown (host := "") (Or.inl (own_w hw 28 rfl)) Via.refl e6 F_ob0_value (g := (mkF m 37 #[.val (.ref ob0), .val (.ref ob1), .val (.ref ob1)] [(.ref ob0)])) rfl rfl (hb hby own_d15_37)
  obtain ⟨T8, X8, e8, st8⟩ := getF X7 hx hZ hown (host := "") (Or.inl (own_w hw 28 rfl)) Via.refl e7 F_ob1_value (g := (mkF m 41 #[.val (.ref ob0), .val (.ref ob1), .val (.ref ob1)] [(.ref ob1), (.ref ob0_value)])) rfl rfl (hb hby own_d15_41)
  obtain ⟨_, _, ⟨T9, L9, k9, n9⟩, -, X9, ⟨Lc9, hQ9, l9, y9, z9⟩, st9⟩ := Jvm.LawKit.callS X8 hx (y := own_y36) hown (mvT hZ (own_w hw 198 rfl)) (mvT hZ (own_w hw 199 rfl)) (mvT hZ (own_w hw 35 rfl)) (mvT hZ (own_w hw 200 rfl)) (by decide) (backOf (W := 0) (rmA56 l Z a0 hw [] ob0_value k_ob0_value ob0_value_l ob1_value k_ob1_value ob1_value_l  cs wf h0 n0 O0 G0 V_ob0_value V_ob1_value  ) hZ (own_w hw 200 rfl) (own_w hw 35 rfl) (by decide) (by decide)) (g := (mkF m 44 #[.val (.ref ob0), .val (.ref ob1), .val (.ref ob1)] [(.ref ob1_value), (.ref ob0_value)])) rfl (by rw [hml]; rfl) (argsL := [(.ref ob0_value), (.ref ob1_value)]) (rest := []) (lenOf own_pd29 rfl) rfl (by show 2 * 0 + _ ≤ _; exact Nat.le_of_eq rfl) (hb hby own_d15_44) (fun _ _ => ⟨rfl, e8, (by decide : 0 + 0 ≤ _), (by decide : 0 + 0 ≤ _)⟩)
  dsimp only [Pt.U, Pt.locs, Pt.cells, Pt.slots] at X9 l9 y9 z9 st9 hQ9
  subst l9 y9 z9
  obtain ⟨rfl, Nq9, e9⟩ := hQ9
  have N9 := Fr.app N0 Nq9
  have g10 : ∀ t, Steps p.tables e below (T9.setTop (mkF m 55 #[.val (.ref ob0), .val (.ref ob1), .val (.ref ob1)] [(.int (0 : Int32))])) t → Steps p.tables e below (s₁.setTop (entryFrame m #[(.ref ob0), (.ref ob1)] 3)) t := by
    intro t k
    refine g0 t ?_
    show Steps p.tables e below (s₁.setTop (mkF m 0 #[.val (.ref ob0), .val (.ref ob1), .unset] [])) _
    refine XS.aloadN X0.here hx rfl (hb hby own_d15_0) rfl rfl ?_
    refine XS.aloadN X0.here hx rfl (hb hby own_d15_1) rfl rfl ?_
    refine Jvm.RoadKit.acmp (g := (mkF m 2 #[.val (.ref ob0), .val (.ref ob1), .unset] [(.ref ob1), (.ref ob0)])) X0 hx rfl rfl rfl (pc0 := 2) (pc' := 7) (same := false) rfl (hb hby own_d15_2) rfl (decide_eq_false fun q => hne (Value.ref.inj q)) (by decide) (by decide) ?_
    refine XS.aloadN X0.here hx rfl (hb hby own_d15_7) rfl rfl ?_
    show Steps p.tables e below (s₁.setTop (mkF m 8 #[.val (.ref ob0), .val (.ref ob1), .unset] [(.ref ob1)])) _
    refine st1 _ ?_
    refine XS.ifNo X1.here hx rfl (hb hby own_d15_11) rfl ((if0 _ _).trans (feq (by decide : ¬ ((1 : Int32) = (0 : Int32)))).1) ?_
    refine XS.aloadN X1.here hx rfl (hb hby own_d15_14) rfl rfl ?_
    refine st2 _ ?_
    show Steps p.tables e below (T2.setTop (mkF m 18 #[.val (.ref ob0), .val (.ref ob1), .unset] [(.ref ob1)])) _
    refine XS.astoreN X2.here hx rfl (hb hby own_d15_18) rfl rfl (l' := #[.val (.ref ob0), .val (.ref ob1), .val (.ref ob1)]) rfl ?_
    refine st3 _ ?_
    refine XS.ifNo X3.here hx rfl (hb hby own_d15_22) rfl ((if0 _ _).trans (feq hc4).1) ?_
    refine XS.aloadN X3.here hx rfl (hb hby own_d15_25) rfl rfl ?_
    show Steps p.tables e below (T3.setTop (mkF m 26 #[.val (.ref ob0), .val (.ref ob1), .val (.ref ob1)] [(.ref ob0)])) _
    refine st5 _ ?_
    refine XS.aloadN X5.here hx rfl (hb hby own_d15_29) rfl rfl ?_
    refine st6 _ ?_
    refine XS.icmpNo X6.here hx rfl (hb hby own_d15_33) rfl (teq (by decide : (0 : Int32) = (0 : Int32))).2 ?_
    show Steps p.tables e below (T6.setTop (mkF m 36 #[.val (.ref ob0), .val (.ref ob1), .val (.ref ob1)] [])) _
    refine XS.aloadN X6.here hx rfl (hb hby own_d15_36) rfl rfl ?_
    refine st7 _ ?_
    refine XS.aloadN X7.here hx rfl (hb hby own_d15_40) rfl rfl ?_
    refine st8 _ ?_
    show Steps p.tables e below (T8.setTop (mkF m 44 #[.val (.ref ob0), .val (.ref ob1), .val (.ref ob1)] [(.ref ob1_value), (.ref ob0_value)])) _
    refine st9 _ ?_
    refine XS.ifYes X9.here hx rfl (pc0 := 47) (pc' := 54) rfl (hb hby own_d15_47) rfl ((if0 _ _).trans (teq (by decide : (0 : Int32) = (0 : Int32))).1) (by decide) (by decide) ?_
    refine XS.iconst X9.here hx rfl (hb hby own_d15_54) ?_
    exact k
  obtain ⟨fs, hrt, hrun, hended, hW, hsame⟩ := X9.leave (v := some (.int (0 : Int32))) (fun h => by rw [Bd.returns] at h; cases h)
  refine ⟨_, _, g10 _ ?_, hrun, hended, _, _, rfl, ?_, ⟨_, rfl⟩, hW, hsame.mono (by decide) (by decide)⟩
  · show Steps p.tables e below (T9.setTop (mkF m 55 #[.val (.ref ob0), .val (.ref ob1), .val (.ref ob1)] [(.int (0 : Int32))])) _
    exact retN X9 hx (t := .boolean) Bd.returns (by simp) (hb hby own_d15_55) hrt
  · show own_Q_rmA55 Z ob0 ob0_value k_ob0_value ob0_value_l ob1 ob1_value k_ob1_value ob1_value_l cs wf h0 n0 _ T9.heap _
    rw [e9]
    exact ⟨rfl, N9, rfl⟩
def own_Q_rm0 (Z : State) (p1 p2 p3 p4 p5 : Int32) (cs : Int32) (wf : Value) (h0 : Heap) (n0 : Nat) (v : Option Value) (h : Heap) (L : List Loc) : Prop := v = some (.int (1 : Int32)) ∧ Fr n0 L
set_option maxRecDepth 65536 in
set_option maxHeartbeats 40000000 in
theorem rm0 (l : Launch) (Z : State) (a0 : Array Value) (hw : ∀ d ∈ tables_1, d.before a0 Z = true) (ws : List Jvm.Cond) (p1 p2 p3 p4 p5 : Int32) (cs : Int32) (wf : Value) (h0 : Heap) (n0 : Nat) (O0 : Old Z n0 h0) (G : own_Gl Z cs wf) :
    MetFree l x (head1 (Jvm.Cond.code x code maxLocals ret :: ws) room_1) (fun a U => a = #[(.int p1), (.int p2), (.int p3), (.int p4), (.int p5)] ∧ Z.Warmed39 U.vm ∧ U.heap = h0 ∧ CHv Z own_EL U.vm h0) (fun _ _ _ _ _ => True) (fun _ U o U' => ∃ v L, o = .returned v ∧ own_Q_rm0 Z p1 p2 p3 p4 p5 cs wf h0 n0 v U'.heap L ∧ CHr Z own_EL U.vm U.heap U'.vm U'.heap ∧ ReturnedEndW U o U' L room_1.cells room_1.slots) := by
  refine MetFree.of_bodySF (plainFor_of_name own_pn0) hisR ?_
  intro p e s m args below meth c s₁ Bd hml0 hP hK
  obtain ⟨rfl, hZ, hh, hCH⟩ := hP
  have hx := Bd.exec
  have hby := Bd.bytes
  have hml : c.maxLocals = 17 := hml0
  have hown : s.vm.findClass "com/example/momus/momus/cli/OptionTakesValuePinLaw" = some m.cls := findClass_of_methodNamed Bd.named
  have hnm := (name_of_methodNamed Bd.named Bd.method).1
  have X0 : Stand p l e room_1 (s.setVm s.vm) m #[(.int p1), (.int p2), (.int p3), (.int p4), (.int p5)] below meth c s₁ [] 0 0 := Stand.of_body Bd
  have e0 : s₁.heap = h0 := by rw [← hh, Bd.state]; rfl
  have N0 := Fr.nil n0
  have Z0 : n0 ≤ h0.size := O0.1 ▸ O0.2.1
  have g0 : ∀ t, Steps p.tables e below (s₁.setTop (mkF m 0 #[.val (.int p1), .val (.int p2), .val (.int p3), .val (.int p4), .val (.int p5), .unset, .unset, .unset, .unset, .unset, .unset, .unset, .unset, .unset, .unset, .unset, .unset] [])) t → Steps p.tables e below (s₁.setTop (entryFrame m #[(.int p1), (.int p2), (.int p3), (.int p4), (.int p5)] maxLocals)) t := fun t k => castTop (own_ef1 m (p1) (p2) (p3) (p4) (p5)) k
  have hC := CHr.refl hCH
  have hS : s.Since s.vm h0.size := (State.WarmedH.refl s).since _
  have hk := Nat.le_refl h0.size
  have G0 := G
  obtain ⟨S_CS, hcs, S_WF, hwf⟩ := G
  obtain ⟨T1, h1, k1, X1, e1, E1, A1, st1⟩ := newP X0 hx hZ (own_w hw 0 rfl) e0 (g := (mkF m 1 #[.val (.int p1), .val (.int p2), .val (.int p3), .val (.int p4), .val (.int p5), .unset, .unset, .unset, .unset, .unset, .unset, .unset, .unset, .unset, .unset, .unset, .unset] [(.int (2 : Int32))])) rfl (hb hby at_1) rfl (by decide) (cap := 2) (by decide) (by decide) (by decide) (by decide)
  obtain ⟨b1, q_b1⟩ : ∃ z, z = h0.size := ⟨_, rfl⟩
  rw [← q_b1] at A1 st1
  have sz_b1 : h0.size ≤ b1 := Nat.le_of_eq q_b1.symm
  have gz_b1 : n0 ≤ b1 := Nat.le_trans Z0 sz_b1
  have V1 : Arv Z h1 b1 k1 .char (2 : Int32) [(.int (0 : Int32)), (.int (0 : Int32))] (.int (0 : Int32)) := (Arv.new A1 (by decide)).pad (pad_rep [] (.int (0 : Int32)) 2)
  have hC := hC.trans (CHr.ext E1 hC.1)
  have hk := Nat.le_trans hk E1.1
  obtain ⟨d0, hv_d0⟩ : ∃ z : Int32, z = ((p1 &&& (255 : Int32)).toUInt32.toUInt16.toUInt32.toInt32) := ⟨_, rfl⟩
  have g2 : ∀ t, Steps p.tables e below (T1.setTop (mkF m 14 #[.val (.int p1), .val (.int p2), .val (.int p3), .val (.int p4), .val (.int p5), .val (.ref b1), .unset, .unset, .unset, .unset, .unset, .unset, .unset, .unset, .unset, .unset, .unset] [(.int d0), (.int (0 : Int32)), (.ref b1)])) t → Steps p.tables e below (s₁.setTop (entryFrame m #[(.int p1), (.int p2), (.int p3), (.int p4), (.int p5)] maxLocals)) t := by
    intro t k
    rw [hv_d0] at k
    refine g0 t ?_
    show Steps p.tables e below (s₁.setTop (mkF m 0 #[.val (.int p1), .val (.int p2), .val (.int p3), .val (.int p4), .val (.int p5), .unset, .unset, .unset, .unset, .unset, .unset, .unset, .unset, .unset, .unset, .unset, .unset] [])) _
    refine XS.iconst X0.here hx rfl (hb hby at_0) ?_
    refine st1 _ ?_
    refine XS.astore X1.here hx rfl (hb hby at_3) rfl rfl (l' := #[.val (.int p1), .val (.int p2), .val (.int p3), .val (.int p4), .val (.int p5), .val (.ref b1), .unset, .unset, .unset, .unset, .unset, .unset, .unset, .unset, .unset, .unset, .unset]) rfl ?_
    refine XS.aload X1.here hx rfl (hb hby at_5) rfl rfl ?_
    show Steps p.tables e below (T1.setTop (mkF m 7 #[.val (.int p1), .val (.int p2), .val (.int p3), .val (.int p4), .val (.int p5), .val (.ref b1), .unset, .unset, .unset, .unset, .unset, .unset, .unset, .unset, .unset, .unset, .unset] [(.ref b1)])) _
    refine XS.iconst X1.here hx rfl (hb hby at_7) ?_
    refine XS.iloadN X1.here hx rfl (hb hby at_8) rfl ?_
    refine XS.sipush X1.here hx rfl (hb hby at_9) ?_
    show Steps p.tables e below (T1.setTop (mkF m 12 #[.val (.int p1), .val (.int p2), .val (.int p3), .val (.int p4), .val (.int p5), .val (.ref b1), .unset, .unset, .unset, .unset, .unset, .unset, .unset, .unset, .unset, .unset, .unset] [(.int (255 : Int32)), (.int p1), (.int (0 : Int32)), (.ref b1)])) _
    refine XS.iand X1.here hx rfl (hb hby at_12) rfl ?_
    show Steps p.tables e below (T1.setTop (mkF m 13 #[.val (.int p1), .val (.int p2), .val (.int p3), .val (.int p4), .val (.int p5), .val (.ref b1), .unset, .unset, .unset, .unset, .unset, .unset, .unset, .unset, .unset, .unset, .unset] [(.int (p1 &&& (255 : Int32))), (.int (0 : Int32)), (.ref b1)])) _
    refine XS.i2c X1.here hx rfl (hb hby at_13) rfl ?_
    exact k
  obtain ⟨c3, Ar3, cq3, S3, Nn3, Hh3, Gg3⟩ := id V1
  have hin3 : ¬ ((0 : Int32) < 0 ∨ c3.slots.size ≤ ((0 : Int32)).toNatClampNeg) := inb_of S3 ⟨by decide, by decide⟩
  obtain ⟨T4, h4, X4, e4, W4, st4⟩ := stC X1 hx hZ e1 Ar3 (j := (0 : Int32)) hin3 (g := (mkF m 14 #[.val (.int p1), .val (.int p2), .val (.int p3), .val (.int p4), .val (.int p5), .val (.ref b1), .unset, .unset, .unset, .unset, .unset, .unset, .unset, .unset, .unset, .unset, .unset] [(.int d0), (.int (0 : Int32)), (.ref b1)])) rfl rfl (hb hby at_14)
  have V4 := Arv.set Ar3 cq3 S3 Nn3 Hh3 Gg3 (fits_nar_char _) W4 0 rfl (Nat.le_of_ble_eq_true rfl)
  obtain ⟨c0, hv_c0⟩ : ∃ z : Int32, z = (nar .char d0) := ⟨_, rfl⟩
  have hC := hC.trans (CHr.wr W4 (Safe.arv hZ.alike V1 (by decide)) hC.1)
  have hk := Nat.le_trans hk (Keep.of_wr W4).1
  have V4a : Arv Z h4 b1 k1 .char (2 : Int32) [(.int c0), (.int (0 : Int32))] (.int (0 : Int32)) := by have q := V4; rw [← hv_c0] at q; exact q
  have N4 := Fr.snoc X4 N0 gz_b1
  obtain ⟨d1, hv_d1⟩ : ∃ z : Int32, z = ((p2 &&& (255 : Int32)).toUInt32.toUInt16.toUInt32.toInt32) := ⟨_, rfl⟩
  have g5 : ∀ t, Steps p.tables e below (T4.setTop (mkF m 24 #[.val (.int p1), .val (.int p2), .val (.int p3), .val (.int p4), .val (.int p5), .val (.ref b1), .unset, .unset, .unset, .unset, .unset, .unset, .unset, .unset, .unset, .unset, .unset] [(.int d1), (.int (1 : Int32)), (.ref b1)])) t → Steps p.tables e below (s₁.setTop (entryFrame m #[(.int p1), (.int p2), (.int p3), (.int p4), (.int p5)] maxLocals)) t := by
    intro t k
    rw [hv_d1] at k
    refine g2 t ?_
    show Steps p.tables e below (T1.setTop (mkF m 14 #[.val (.int p1), .val (.int p2), .val (.int p3), .val (.int p4), .val (.int p5), .val (.ref b1), .unset, .unset, .unset, .unset, .unset, .unset, .unset, .unset, .unset, .unset, .unset] [(.int d0), (.int (0 : Int32)), (.ref b1)])) _
    refine st4 _ ?_
    refine XS.aload X4.here hx rfl (hb hby at_15) rfl rfl ?_
    refine XS.iconst X4.here hx rfl (hb hby at_17) ?_
    refine XS.iloadN X4.here hx rfl (hb hby at_18) rfl ?_
    show Steps p.tables e below (T4.setTop (mkF m 19 #[.val (.int p1), .val (.int p2), .val (.int p3), .val (.int p4), .val (.int p5), .val (.ref b1), .unset, .unset, .unset, .unset, .unset, .unset, .unset, .unset, .unset, .unset, .unset] [(.int p2), (.int (1 : Int32)), (.ref b1)])) _
    refine XS.sipush X4.here hx rfl (hb hby at_19) ?_
    show Steps p.tables e below (T4.setTop (mkF m 22 #[.val (.int p1), .val (.int p2), .val (.int p3), .val (.int p4), .val (.int p5), .val (.ref b1), .unset, .unset, .unset, .unset, .unset, .unset, .unset, .unset, .unset, .unset, .unset] [(.int (255 : Int32)), (.int p2), (.int (1 : Int32)), (.ref b1)])) _
    refine XS.iand X4.here hx rfl (hb hby at_22) rfl ?_
    show Steps p.tables e below (T4.setTop (mkF m 23 #[.val (.int p1), .val (.int p2), .val (.int p3), .val (.int p4), .val (.int p5), .val (.ref b1), .unset, .unset, .unset, .unset, .unset, .unset, .unset, .unset, .unset, .unset, .unset] [(.int (p2 &&& (255 : Int32))), (.int (1 : Int32)), (.ref b1)])) _
    refine XS.i2c X4.here hx rfl (hb hby at_23) rfl ?_
    exact k
  obtain ⟨c6, Ar6, cq6, S6, Nn6, Hh6, Gg6⟩ := id V4a
  have hin6 : ¬ ((1 : Int32) < 0 ∨ c6.slots.size ≤ ((1 : Int32)).toNatClampNeg) := inb_of S6 ⟨by decide, by decide⟩
  obtain ⟨T7, h7, X7, e7, W7, st7⟩ := stC X4 hx hZ e4 Ar6 (j := (1 : Int32)) hin6 (g := (mkF m 24 #[.val (.int p1), .val (.int p2), .val (.int p3), .val (.int p4), .val (.int p5), .val (.ref b1), .unset, .unset, .unset, .unset, .unset, .unset, .unset, .unset, .unset, .unset, .unset] [(.int d1), (.int (1 : Int32)), (.ref b1)])) rfl rfl (hb hby at_24)
  have V7 := Arv.set Ar6 cq6 S6 Nn6 Hh6 Gg6 (fits_nar_char _) W7 1 rfl (Nat.le_of_ble_eq_true rfl)
  obtain ⟨c1, hv_c1⟩ : ∃ z : Int32, z = (nar .char d1) := ⟨_, rfl⟩
  have hC := hC.trans (CHr.wr W7 (Safe.arv hZ.alike V4a (by decide)) hC.1)
  have hk := Nat.le_trans hk (Keep.of_wr W7).1
  have V7a : Arv Z h7 b1 k1 .char (2 : Int32) [(.int c0), (.int c1)] (.int (0 : Int32)) := by have q := V7; rw [← hv_c1] at q; exact q
  have N7 := Fr.snoc X7 N4 gz_b1
  have hc_c0 := own_chr _ _ _ hv_d0 hv_c0
  have hx_c0 := own_le255 _ hc_c0
  have hc_c1 := own_chr _ _ _ hv_d1 hv_c1
  have hx_c1 := own_le255 _ hc_c1
  obtain ⟨T8, h8, X8, e8, E8, A8, D8, -, st8⟩ := newO X7 hx hZ hown (own_w hw 1 rfl) (own_w hw 2 rfl) (own_w hw 3 rfl) e7 (g := (mkF m 25 #[.val (.int p1), .val (.int p2), .val (.int p3), .val (.int p4), .val (.int p5), .val (.ref b1), .unset, .unset, .unset, .unset, .unset, .unset, .unset, .unset, .unset, .unset, .unset] [])) rfl (hb hby at_25) (by decide) (by decide)
  obtain ⟨b8, q_b8⟩ : ∃ z, z = h7.size := ⟨_, rfl⟩
  rw [← q_b8] at A8 D8 st8
  have sz_b8 : h0.size ≤ b8 := Nat.le_trans (Nat.le_trans (Nat.le_trans E1.1 (Keep.of_wr W4).1) (Keep.of_wr W7).1) (Nat.le_of_eq q_b8.symm)
  have gz_b8 : n0 ≤ b8 := Nat.le_trans Z0 sz_b8
  have ne_b1_b8 : b1 ≠ b8 := Nat.ne_of_lt (Nat.lt_of_lt_of_le V7a.lt (Nat.le_of_eq q_b8.symm))
  have sf0_b8 := Safe.ext E8 hC.1 (Safe.new (Nat.le_of_eq q_b8.symm))
  have hC := hC.trans (CHr.ext E8 hC.1)
  have hk := Nat.le_trans hk E8.1
  have sf_b8 := sf0_b8
  have F8_coder : Fld Z h8 b8 "java/lang/String" "coder" "B" (.int (0 : Int32)) := D8 (Or.inr (own_w hw 27 rfl)) (ty := .byte) (by decide)
  have F8_value : Fld Z h8 b8 "java/lang/String" "value" "[B" .null := D8 (Or.inr (own_w hw 29 rfl)) (ty := (.array .byte)) (by decide)
  have f9 := (V7a.ext E8)
  have o10 : Old Z n0 h8 := (Old.ext (Old.wr (Old.wr (Old.ext O0 E1) W4 gz_b1) W7 gz_b1) E8)
  obtain ⟨_, _, ⟨T11, L11, k11, n11⟩, -, X11, ⟨Lc11, hQ11, l11, y11, z11⟩, st11⟩ := X8.specialBack hx (y := own_y0) rfl hown (mvT hZ (own_w hw 4 rfl)) (mvT hZ (own_w hw 5 rfl)) (mvT hZ (own_w hw 6 rfl)) (by decide) (backOf (W := 1) (rmA0 l Z a0 hw [] b8 b1 k1 (c0) (c1)  cs wf h8 n0 o10 G0 A8 F8_coder F8_value f9 gz_b8 hx_c0 hx_c1) hZ (own_w hw 6 rfl) (own_w hw 3 rfl) (by decide) (by decide)) (g := (mkF m 31 #[.val (.int p1), .val (.int p2), .val (.int p3), .val (.int p4), .val (.int p5), .val (.ref b1), .unset, .unset, .unset, .unset, .unset, .unset, .unset, .unset, .unset, .unset, .unset] [(.ref b1), (.ref b8), (.ref b8)])) rfl (by rw [hml]; rfl) (Steps.refl _) (a := b8) (argsL := [(.ref b1)]) (rest := [(.ref b8)]) (lenOf own_pd4 rfl) rfl (by show 2 * 0 + _ ≤ _; exact Nat.le_of_eq rfl) (hb hby at_31) (fun _ _ => ⟨rfl, e8, (by decide : 2 + 1 ≤ _), (by decide : 6 + 2 ≤ _)⟩)
  dsimp only [Pt.U, Pt.locs, Pt.cells, Pt.slots] at X11 l11 y11 z11 st11 hQ11
  subst l11 y11 z11
  obtain ⟨rfl, Nq11, K11, rb11, rk11, hb11, Qe11, Qc11, Qv11, sl11, Va11⟩ := hQ11
  have qf11 := (sfS (EL := own_EL) sf_b8 sf0)
  have hCo11 := hC.1
  have sf_b8 := Safe.keep K11 qf11 hC.1 sf_b8
  have hC := hC.trans (CHr.keep K11 qf11 hC.1)
  have hk := Nat.le_trans hk K11.1
  have N11 := Fr.app N7 Nq11
  have sz_rb11 : h0.size ≤ rb11 := Nat.le_trans (Nat.le_trans (Nat.le_trans (Nat.le_trans E1.1 (Keep.of_wr W4).1) (Keep.of_wr W7).1) E8.1) hb11
  have gz_rb11 : n0 ≤ rb11 := Nat.le_trans Z0 sz_rb11
  have sf_rb11 := Safe.keep (EL := own_EL) K11 qf11 hCo11 (Safe.new hb11)
  have ne_b1_rb11 : b1 ≠ rb11 := Nat.ne_of_lt (Nat.lt_of_lt_of_le f9.lt hb11)
  have ne_b8_rb11 : b8 ≠ rb11 := Nat.ne_of_lt (Nat.lt_of_lt_of_le A8.lt hb11)
  obtain ⟨md, hv_md⟩ : ∃ z : Int32, z = (p5 &&& (3 : Int32)) := ⟨_, rfl⟩
  have g12 : ∀ t, Steps p.tables e below (T11.setTop (mkF m 40 #[.val (.int p1), .val (.int p2), .val (.int p3), .val (.int p4), .val (.int p5), .val (.ref b1), .val (.ref b8), .unset, .unset, .unset, .unset, .unset, .unset, .unset, .unset, .unset, .unset] [(.int md)])) t → Steps p.tables e below (s₁.setTop (entryFrame m #[(.int p1), (.int p2), (.int p3), (.int p4), (.int p5)] maxLocals)) t := by
    intro t k
    rw [hv_md] at k
    refine g5 t ?_
    show Steps p.tables e below (T4.setTop (mkF m 24 #[.val (.int p1), .val (.int p2), .val (.int p3), .val (.int p4), .val (.int p5), .val (.ref b1), .unset, .unset, .unset, .unset, .unset, .unset, .unset, .unset, .unset, .unset, .unset] [(.int d1), (.int (1 : Int32)), (.ref b1)])) _
    refine st7 _ ?_
    refine st8 _ ?_
    refine XS.dup X8.here hx rfl (hb hby at_28) rfl rfl ?_
    refine XS.aload X8.here hx rfl (hb hby at_29) rfl rfl ?_
    show Steps p.tables e below (T8.setTop (mkF m 31 #[.val (.int p1), .val (.int p2), .val (.int p3), .val (.int p4), .val (.int p5), .val (.ref b1), .unset, .unset, .unset, .unset, .unset, .unset, .unset, .unset, .unset, .unset, .unset] [(.ref b1), (.ref b8), (.ref b8)])) _
    refine st11.trans ?_
    refine XS.astore X11.here hx rfl (hb hby at_34) rfl rfl (l' := #[.val (.int p1), .val (.int p2), .val (.int p3), .val (.int p4), .val (.int p5), .val (.ref b1), .val (.ref b8), .unset, .unset, .unset, .unset, .unset, .unset, .unset, .unset, .unset, .unset]) rfl ?_
    refine XS.iload X11.here hx rfl (hb hby at_36) rfl ?_
    refine XS.iconst X11.here hx rfl (hb hby at_38) ?_
    show Steps p.tables e below (T11.setTop (mkF m 39 #[.val (.int p1), .val (.int p2), .val (.int p3), .val (.int p4), .val (.int p5), .val (.ref b1), .val (.ref b8), .unset, .unset, .unset, .unset, .unset, .unset, .unset, .unset, .unset, .unset] [(.int (3 : Int32)), (.int p5)])) _
    refine XS.iand X11.here hx rfl (hb hby at_39) rfl ?_
    exact k
  have g13 : ∀ t, Steps p.tables e below (T11.setTop (mkF m 42 #[.val (.int p1), .val (.int p2), .val (.int p3), .val (.int p4), .val (.int p5), .val (.ref b1), .val (.ref b8), .val (.int md), .unset, .unset, .unset, .unset, .unset, .unset, .unset, .unset, .unset] [])) t → Steps p.tables e below (s₁.setTop (entryFrame m #[(.int p1), (.int p2), (.int p3), (.int p4), (.int p5)] maxLocals)) t := by
    intro t k
    refine g12 t ?_
    show Steps p.tables e below (T11.setTop (mkF m 40 #[.val (.int p1), .val (.int p2), .val (.int p3), .val (.int p4), .val (.int p5), .val (.ref b1), .val (.ref b8), .unset, .unset, .unset, .unset, .unset, .unset, .unset, .unset, .unset, .unset] [(.int md)])) _
    refine XS.istore X11.here hx rfl (hb hby at_40) rfl (l' := #[.val (.int p1), .val (.int p2), .val (.int p3), .val (.int p4), .val (.int p5), .val (.ref b1), .val (.ref b8), .val (.int md), .unset, .unset, .unset, .unset, .unset, .unset, .unset, .unset, .unset]) rfl ?_
    exact k
  rcases ((own_and3 _ _ hv_md) : md = (0 : Int32) ∨ md = (1 : Int32) ∨ md = (2 : Int32) ∨ md = (3 : Int32)) with rfl | rfl | rfl | rfl
  · skip
    obtain ⟨v3, hv_v3⟩ : ∃ z : Int32, z = ((p4 &&& (255 : Int32)).toUInt32.toUInt16.toUInt32.toInt32) := ⟨_, rfl⟩
    have g14 : ∀ t, Steps p.tables e below (T11.setTop (mkF m 136 #[.val (.int p1), .val (.int p2), .val (.int p3), .val (.int p4), .val (.int p5), .val (.ref b1), .val (.ref b8), .val (.int (0 : Int32)), .val .null, .unset, .unset, .unset, .unset, .unset, .unset, .unset, .unset] [(.int v3)])) t → Steps p.tables e below (s₁.setTop (entryFrame m #[(.int p1), (.int p2), (.int p3), (.int p4), (.int p5)] maxLocals)) t := by
      intro t k
      rw [hv_v3] at k
      refine g13 t ?_
      show Steps p.tables e below (T11.setTop (mkF m 42 #[.val (.int p1), .val (.int p2), .val (.int p3), .val (.int p4), .val (.int p5), .val (.ref b1), .val (.ref b8), .val (.int (0 : Int32)), .unset, .unset, .unset, .unset, .unset, .unset, .unset, .unset, .unset] [])) _
      refine XS.iload X11.here hx rfl (hb hby at_42) rfl ?_
      refine XS.ifNo X11.here hx rfl (hb hby at_44) rfl ((if0 _ _).trans (teq (by decide : (0 : Int32) = (0 : Int32))).2) ?_
      refine XS.aconstNull X11.here hx rfl (hb hby at_47) ?_
      refine XS.astore X11.here hx rfl (hb hby at_48) rfl rfl (l' := #[.val (.int p1), .val (.int p2), .val (.int p3), .val (.int p4), .val (.int p5), .val (.ref b1), .val (.ref b8), .val (.int (0 : Int32)), .val .null, .unset, .unset, .unset, .unset, .unset, .unset, .unset, .unset]) rfl ?_
      show Steps p.tables e below (T11.setTop (mkF m 50 #[.val (.int p1), .val (.int p2), .val (.int p3), .val (.int p4), .val (.int p5), .val (.ref b1), .val (.ref b8), .val (.int (0 : Int32)), .val .null, .unset, .unset, .unset, .unset, .unset, .unset, .unset, .unset] [])) _
      refine XS.goto X11.here hx rfl (pc0 := 50) (pc' := 130) rfl (hb hby at_50) (by decide) (by decide) ?_
      refine XS.iloadN X11.here hx rfl (hb hby at_130) rfl ?_
      refine XS.sipush X11.here hx rfl (hb hby at_131) ?_
      show Steps p.tables e below (T11.setTop (mkF m 134 #[.val (.int p1), .val (.int p2), .val (.int p3), .val (.int p4), .val (.int p5), .val (.ref b1), .val (.ref b8), .val (.int (0 : Int32)), .val .null, .unset, .unset, .unset, .unset, .unset, .unset, .unset, .unset] [(.int (255 : Int32)), (.int p4)])) _
      refine XS.iand X11.here hx rfl (hb hby at_134) rfl ?_
      show Steps p.tables e below (T11.setTop (mkF m 135 #[.val (.int p1), .val (.int p2), .val (.int p3), .val (.int p4), .val (.int p5), .val (.ref b1), .val (.ref b8), .val (.int (0 : Int32)), .val .null, .unset, .unset, .unset, .unset, .unset, .unset, .unset, .unset] [(.int (p4 &&& (255 : Int32)))])) _
      refine XS.i2c X11.here hx rfl (hb hby at_135) rfl ?_
      exact k
    obtain ⟨LL15, XL15, NL15⟩ : ∃ LL : List Loc, Stand p l e room_1 (s.setVm s.vm) m #[(.int p1), (.int p2), (.int p3), (.int p4), (.int p5)] below meth c T11 LL 3 8 ∧ Fr n0 LL := ⟨_, X11, N11⟩
    have o16 : Old Z n0 T11.heap := (Old.keep o10 K11 (allS gz_b8 all0))
    obtain ⟨_, _, ⟨T17, L17, k17, n17⟩, -, X17, ⟨Lc17, hQ17, l17, y17, z17⟩, st17⟩ := Jvm.LawKit.callS XL15 hx (y := own_y5) hown (mvT hZ (own_w hw 30 rfl)) (mvT hZ (own_w hw 31 rfl)) (mvT hZ (own_w hw 3 rfl)) (mvT hZ (own_w hw 32 rfl)) (by decide) (backOf (W := 0) (rmA5 l Z a0 hw [] (v3)  cs wf T11.heap n0 o16 G0   (own_chd _ _ hv_v3)) hZ (own_w hw 32 rfl) (own_w hw 3 rfl) (by decide) (by decide)) (g := (mkF m 136 #[.val (.int p1), .val (.int p2), .val (.int p3), .val (.int p4), .val (.int p5), .val (.ref b1), .val (.ref b8), .val (.int (0 : Int32)), .val .null, .unset, .unset, .unset, .unset, .unset, .unset, .unset, .unset] [(.int v3)])) rfl (by rw [hml]; rfl) (argsL := [(.int v3)]) (rest := []) (lenOf own_pd8 rfl) rfl (by show 2 * 0 + _ ≤ _; exact Nat.le_of_eq rfl) (hb hby at_136) (fun _ _ => ⟨rfl, rfl, (by decide : 3 + 2 ≤ _), (by decide : 8 + 5 ≤ _)⟩)
    dsimp only [Pt.U, Pt.locs, Pt.cells, Pt.slots] at X17 l17 y17 z17 st17 hQ17
    subst l17 y17 z17
    obtain ⟨sa17, sb17, sk17, sl17, rfl, Nq17, K17, hba17, hbb17, Qe17, Qc17, Qv17, Qa17⟩ := hQ17
    have hCo17 := hC.1
    have sf_b8 := Safe.keep K17 sf0 hC.1 sf_b8
    have sf_rb11 := Safe.keep K17 sf0 hC.1 sf_rb11
    have hC := hC.trans (CHr.keep K17 sf0 hC.1)
    have hk := Nat.le_trans hk K17.1
    have N17 := Fr.app NL15 Nq17
    have sz_sa17 : h0.size ≤ sa17 := Nat.le_trans (Nat.le_trans (Nat.le_trans (Nat.le_trans (Nat.le_trans E1.1 (Keep.of_wr W4).1) (Keep.of_wr W7).1) E8.1) K11.1) hba17
    have gz_sa17 : n0 ≤ sa17 := Nat.le_trans Z0 sz_sa17
    have sf_sa17 := Safe.keep (EL := own_EL) K17 sf0 hCo17 (Safe.new hba17)
    have ne_b1_sa17 : b1 ≠ sa17 := Nat.ne_of_lt (Nat.lt_of_lt_of_le (f9.keep K11 (ninS ne_b1_b8 nin0)).lt hba17)
    have ne_b8_sa17 : b8 ≠ sa17 := Nat.ne_of_lt (Nat.lt_of_lt_of_le Qe11.lt hba17)
    have ne_rb11_sa17 : rb11 ≠ sa17 := Nat.ne_of_lt (Nat.lt_of_lt_of_le Va11.lt hba17)
    have sz_sb17 : h0.size ≤ sb17 := Nat.le_trans (Nat.le_trans (Nat.le_trans (Nat.le_trans (Nat.le_trans E1.1 (Keep.of_wr W4).1) (Keep.of_wr W7).1) E8.1) K11.1) hbb17
    have gz_sb17 : n0 ≤ sb17 := Nat.le_trans Z0 sz_sb17
    have sf_sb17 := Safe.keep (EL := own_EL) K17 sf0 hCo17 (Safe.new hbb17)
    have ne_b1_sb17 : b1 ≠ sb17 := Nat.ne_of_lt (Nat.lt_of_lt_of_le (f9.keep K11 (ninS ne_b1_b8 nin0)).lt hbb17)
    have ne_b8_sb17 : b8 ≠ sb17 := Nat.ne_of_lt (Nat.lt_of_lt_of_le Qe11.lt hbb17)
    have ne_rb11_sb17 : rb11 ≠ sb17 := Nat.ne_of_lt (Nat.lt_of_lt_of_le Va11.lt hbb17)
    obtain ⟨bd, hv_bd⟩ : ∃ z : Int32, z = ((p5 >>> ((2 : Int32) &&& 31)) &&& (1 : Int32)) := ⟨_, rfl⟩
    have g18 : ∀ t, Steps p.tables e below (T17.setTop (mkF m 147 #[.val (.int p1), .val (.int p2), .val (.int p3), .val (.int p4), .val (.int p5), .val (.ref b1), .val (.ref b8), .val (.int (0 : Int32)), .val .null, .val (.ref sa17), .unset, .unset, .unset, .unset, .unset, .unset, .unset] [(.int bd)])) t → Steps p.tables e below (s₁.setTop (entryFrame m #[(.int p1), (.int p2), (.int p3), (.int p4), (.int p5)] maxLocals)) t := by
      intro t k
      rw [hv_bd] at k
      refine g14 t ?_
      show Steps p.tables e below (T11.setTop (mkF m 136 #[.val (.int p1), .val (.int p2), .val (.int p3), .val (.int p4), .val (.int p5), .val (.ref b1), .val (.ref b8), .val (.int (0 : Int32)), .val .null, .unset, .unset, .unset, .unset, .unset, .unset, .unset, .unset] [(.int v3)])) _
      refine st17 _ ?_
      refine XS.astore X17.here hx rfl (hb hby at_139) rfl rfl (l' := #[.val (.int p1), .val (.int p2), .val (.int p3), .val (.int p4), .val (.int p5), .val (.ref b1), .val (.ref b8), .val (.int (0 : Int32)), .val .null, .val (.ref sa17), .unset, .unset, .unset, .unset, .unset, .unset, .unset]) rfl ?_
      refine XS.iload X17.here hx rfl (hb hby at_141) rfl ?_
      refine XS.iconst X17.here hx rfl (hb hby at_143) ?_
      show Steps p.tables e below (T17.setTop (mkF m 144 #[.val (.int p1), .val (.int p2), .val (.int p3), .val (.int p4), .val (.int p5), .val (.ref b1), .val (.ref b8), .val (.int (0 : Int32)), .val .null, .val (.ref sa17), .unset, .unset, .unset, .unset, .unset, .unset, .unset] [(.int (2 : Int32)), (.int p5)])) _
      refine XS.ishr X17.here hx rfl (hb hby at_144) rfl ?_
      refine XS.iconst X17.here hx rfl (hb hby at_145) ?_
      show Steps p.tables e below (T17.setTop (mkF m 146 #[.val (.int p1), .val (.int p2), .val (.int p3), .val (.int p4), .val (.int p5), .val (.ref b1), .val (.ref b8), .val (.int (0 : Int32)), .val .null, .val (.ref sa17), .unset, .unset, .unset, .unset, .unset, .unset, .unset] [(.int (1 : Int32)), (.int (p5 >>> ((2 : Int32) &&& 31)))])) _
      refine XS.iand X17.here hx rfl (hb hby at_146) rfl ?_
      exact k
    by_cases hc19 : bd = (0 : Int32)
    · obtain ⟨T20, h20, X20, e20, E20, A20, D20, -, st20⟩ := newO X17 hx hZ hown (own_w hw 44 rfl) (own_w hw 45 rfl) (own_w hw 46 rfl) rfl (g := (mkF m 158 #[.val (.int p1), .val (.int p2), .val (.int p3), .val (.int p4), .val (.int p5), .val (.ref b1), .val (.ref b8), .val (.int (0 : Int32)), .val .null, .val (.ref sa17), .val .null, .unset, .unset, .unset, .unset, .unset, .unset] [])) rfl (hb hby at_158) (by decide) (by decide)
      obtain ⟨b20, q_b20⟩ : ∃ z, z = T17.heap.size := ⟨_, rfl⟩
      rw [← q_b20] at A20 D20 st20
      have sz_b20 : h0.size ≤ b20 := Nat.le_trans (Nat.le_trans (Nat.le_trans (Nat.le_trans (Nat.le_trans (Nat.le_trans E1.1 (Keep.of_wr W4).1) (Keep.of_wr W7).1) E8.1) K11.1) K17.1) (Nat.le_of_eq q_b20.symm)
      have gz_b20 : n0 ≤ b20 := Nat.le_trans Z0 sz_b20
      have f21 := ((f9.keep K11 (ninS ne_b1_b8 nin0)).keep K17 nin0)
      have ne_b1_b20 : b1 ≠ b20 := Nat.ne_of_lt (Nat.lt_of_lt_of_le f21.lt (Nat.le_of_eq q_b20.symm))
      have f22 := (Qe11.keep K17)
      have ne_b8_b20 : b8 ≠ b20 := Nat.ne_of_lt (Nat.lt_of_lt_of_le f22.lt (Nat.le_of_eq q_b20.symm))
      have f23 := (Va11.keep K17 nin0)
      have ne_rb11_b20 : rb11 ≠ b20 := Nat.ne_of_lt (Nat.lt_of_lt_of_le f23.lt (Nat.le_of_eq q_b20.symm))
      have ne_sa17_b20 : sa17 ≠ b20 := Nat.ne_of_lt (Nat.lt_of_lt_of_le Qe17.lt (Nat.le_of_eq q_b20.symm))
      have ne_sb17_b20 : sb17 ≠ b20 := Nat.ne_of_lt (Nat.lt_of_lt_of_le Qa17.lt (Nat.le_of_eq q_b20.symm))
      have sf_b8 := Safe.ext E20 hC.1 sf_b8
      have sf_rb11 := Safe.ext E20 hC.1 sf_rb11
      have sf_sa17 := Safe.ext E20 hC.1 sf_sa17
      have sf_sb17 := Safe.ext E20 hC.1 sf_sb17
      have hC := hC.trans (CHr.ext E20 hC.1)
      have hk := Nat.le_trans hk E20.1
      have F20_name : Fld Z h20 b20 "com/example/momus/momus/cli/Option" "name" "Ljava/lang/String;" .null := D20 (Or.inr (own_w hw 57 rfl)) (ty := (.object "java/lang/String")) (by decide)
      have F20_argument : Fld Z h20 b20 "com/example/momus/momus/cli/Option" "argument" "Ljava/lang/String;" .null := D20 (Or.inr (own_w hw 59 rfl)) (ty := (.object "java/lang/String")) (by decide)
      have F20_description : Fld Z h20 b20 "com/example/momus/momus/cli/Option" "description" "Ljava/lang/String;" .null := D20 (Or.inr (own_w hw 61 rfl)) (ty := (.object "java/lang/String")) (by decide)
      have F20_byDefault : Fld Z h20 b20 "com/example/momus/momus/cli/Option" "byDefault" "Ljava/lang/String;" .null := D20 (Or.inr (own_w hw 63 rfl)) (ty := (.object "java/lang/String")) (by decide)
      have o24 : Old Z n0 h20 := (Old.ext (Old.keep o16 K17 all0) E20)
      obtain ⟨_, _, ⟨T25, L25, k25, n25⟩, -, X25, ⟨Lc25, hQ25, l25, y25, z25⟩, st25⟩ := X20.specialBack hx (y := own_y9) rfl hown (mvT hZ (own_w hw 47 rfl)) (mvT hZ (own_w hw 48 rfl)) (mvT hZ (own_w hw 49 rfl)) (by decide) (backOf (W := 1) (rmA9 l Z a0 hw [] b20 b8 sa17  cs wf h20 n0 o24 G0 A20 F20_argument F20_byDefault F20_description F20_name gz_b20 ) hZ (own_w hw 49 rfl) (own_w hw 46 rfl) (by decide) (by decide)) (g := (mkF m 170 #[.val (.int p1), .val (.int p2), .val (.int p3), .val (.int p4), .val (.int p5), .val (.ref b1), .val (.ref b8), .val (.int (0 : Int32)), .val .null, .val (.ref sa17), .val .null, .unset, .unset, .unset, .unset, .unset, .unset] [.null, (.ref sa17), .null, (.ref b8), (.ref b20), (.ref b20)])) rfl (by rw [hml]; rfl) (Steps.refl _) (a := b20) (argsL := [(.ref b8), .null, (.ref sa17), .null]) (rest := [(.ref b20)]) (lenOf own_pd10 rfl) rfl (by show 2 * 0 + _ ≤ _; exact Nat.le_of_eq rfl) (hb hby at_170) (fun _ _ => ⟨rfl, e20, (by decide : 6 + 0 ≤ _), (by decide : 17 + 0 ≤ _)⟩)
      dsimp only [Pt.U, Pt.locs, Pt.cells, Pt.slots] at X25 l25 y25 z25 st25 hQ25
      subst l25 y25 z25
      obtain ⟨rfl, Nq25, K25, Q25_0, Q25_1, Q25_2⟩ := hQ25
      have qf25 := (sfS (EL := own_EL) (Safe.exa hZ.alike A20 (by decide) (by decide)) sf0)
      have hCo25 := hC.1
      have sf_b8 := Safe.keep K25 qf25 hC.1 sf_b8
      have sf_rb11 := Safe.keep K25 qf25 hC.1 sf_rb11
      have sf_sa17 := Safe.keep K25 qf25 hC.1 sf_sa17
      have sf_sb17 := Safe.keep K25 qf25 hC.1 sf_sb17
      have hC := hC.trans (CHr.keep K25 qf25 hC.1)
      have hk := Nat.le_trans hk K25.1
      have N25 := Fr.app N17 Nq25
      have o26 : Old Z n0 T25.heap := (Old.keep o24 K25 (allS gz_b20 all0))
      obtain ⟨cq27, kq27, q27a, q27b, q27c⟩ := isOf hZ rfl Q25_0
      obtain ⟨_, _, ⟨T27, L27, k27, n27⟩, -, X27, ⟨Lc27, hQ27, l27, y27, z27⟩, st27⟩ := X25.virtualBack hx (y := own_y11) (z := own_y11) hown (mvT hZ (own_w hw 64 rfl)) (mvT hZ (own_w hw 65 rfl)) (notFace_of_selects (args := #[]) (mvT hZ (own_w hw 67 rfl))) (mvT hZ (own_w hw 67 rfl)) (mvT hZ (own_w hw 66 rfl)) (by decide) (backOf (W := 0) (rmA11 l Z a0 hw [] b20  cs wf T25.heap n0 o26 G0 Q25_0 Q25_2  ) hZ (own_w hw 68 rfl) (own_w hw 46 rfl) (by decide) (by decide)) q27a q27c (g := (mkF m 177 #[.val (.int p1), .val (.int p2), .val (.int p3), .val (.int p4), .val (.int p5), .val (.ref b1), .val (.ref b8), .val (.int (0 : Int32)), .val .null, .val (.ref sa17), .val .null, .val (.ref b20), .unset, .unset, .unset, .unset, .unset] [(.ref b20)])) rfl (by rw [hml]; rfl) (Steps.refl _) (argsL := []) (rest := []) (lenOf own_pd11 rfl) rfl (by show 2 * 0 + _ ≤ _; exact Nat.le_of_eq rfl) (hb hby at_177) (fun _ _ => ⟨rfl, rfl, (by decide : 6 + 0 ≤ _), (by decide : 17 + 0 ≤ _)⟩)
      dsimp only [Pt.U, Pt.locs, Pt.cells, Pt.slots] at X27 l27 y27 z27 st27 hQ27
      subst l27 y27 z27
      obtain ⟨rfl, Nq27, e27⟩ := hQ27
      have N27 := Fr.app N25 Nq27
      have f28 := ((f22.ext E20).keep K25)
      have f29 := (((Qc11.keep K17 nin0).ext E20).keep K25 (ninS ne_b8_b20 nin0))
      have f30 := ((f23.ext E20).keep K25 (ninS ne_rb11_b20 nin0))
      have f31 := (((Qv11.keep K17 nin0).ext E20).keep K25 (ninS ne_b8_b20 nin0))
      obtain ⟨cq32, kq32, q32a, q32b, q32c⟩ := isOf hZ e27 Q25_0
      obtain ⟨_, _, ⟨T32, L32, k32, n32⟩, -, X32, ⟨Lc32, hQ32, l32, y32, z32⟩, st32⟩ := X27.virtualBack hx (y := own_y12) (z := own_y12) hown (mvT hZ (own_w hw 69 rfl)) (mvT hZ (own_w hw 70 rfl)) (notFace_of_selects (args := #[]) (mvT hZ (own_w hw 72 rfl))) (mvT hZ (own_w hw 72 rfl)) (mvT hZ (own_w hw 71 rfl)) (by decide) (backOf (W := 0) (rmA12 l Z a0 hw [] b20 b8  cs wf T25.heap n0 o26 G0 Q25_0 Q25_2 Q25_1  ) hZ (own_w hw 73 rfl) (own_w hw 46 rfl) (by decide) (by decide)) q32a q32c (g := (mkF m 196 #[.val (.int p1), .val (.int p2), .val (.int p3), .val (.int p4), .val (.int p5), .val (.ref b1), .val (.ref b8), .val (.int (0 : Int32)), .val .null, .val (.ref sa17), .val .null, .val (.ref b20), .val (.int (0 : Int32)), .val (.int (0 : Int32)), .unset, .unset, .unset] [(.ref b20)])) rfl (by rw [hml]; rfl) (Steps.refl _) (argsL := []) (rest := []) (lenOf own_pd12 rfl) rfl (by show 2 * 0 + _ ≤ _; exact Nat.le_of_eq rfl) (hb hby at_196) (fun _ _ => ⟨rfl, e27, (by decide : 6 + 0 ≤ _), (by decide : 17 + 0 ≤ _)⟩)
      dsimp only [Pt.U, Pt.locs, Pt.cells, Pt.slots] at X32 l32 y32 z32 st32 hQ32
      subst l32 y32 z32
      obtain ⟨rfl, Nq32, e32⟩ := hQ32
      have N32 := Fr.app N27 Nq32
      obtain ⟨LL33, XL33, NL33⟩ : ∃ LL : List Loc, Stand p l e room_1 (s.setVm s.vm) m #[(.int p1), (.int p2), (.int p3), (.int p4), (.int p5)] below meth c T32 LL 6 17 ∧ Fr n0 LL := ⟨_, X32, N32⟩
      obtain ⟨cq34, kq34, q34a, q34b, q34c⟩ := isOf hZ e32 f28
      obtain ⟨_, _, ⟨T34, L34, k34, n34⟩, -, X34, ⟨Lc34, hQ34, l34, y34, z34⟩, st34⟩ := XL33.virtualBack hx (y := own_y13) (z := own_y13) hown (mvT hZ (own_w hw 74 rfl)) (mvT hZ (own_w hw 75 rfl)) (notFace_of_selects (args := #[]) (mvT hZ (own_w hw 77 rfl))) (mvT hZ (own_w hw 77 rfl)) (mvT hZ (own_w hw 76 rfl)) (by decide) (backOf (W := 0) (rmA13 l Z a0 hw [] b8 rb11 rk11 sl11  cs wf T25.heap n0 o26 G0 f28 f29 f30 f31  ) hZ (own_w hw 78 rfl) (own_w hw 3 rfl) (by decide) (by decide)) q34a q34c (g := (mkF m 201 #[.val (.int p1), .val (.int p2), .val (.int p3), .val (.int p4), .val (.int p5), .val (.ref b1), .val (.ref b8), .val (.int (0 : Int32)), .val .null, .val (.ref sa17), .val .null, .val (.ref b20), .val (.int (0 : Int32)), .val (.int (0 : Int32)), .unset, .unset, .unset] [(.ref b8), (.ref b8)])) rfl (by rw [hml]; rfl) (Steps.refl _) (argsL := [(.ref b8)]) (rest := []) (lenOf own_pd13 rfl) rfl (by show 2 * 0 + _ ≤ _; exact Nat.le_of_eq rfl) (hb hby at_201) (fun _ _ => ⟨rfl, e32, (by decide : 6 + 0 ≤ _), (by decide : 17 + 0 ≤ _)⟩)
      dsimp only [Pt.U, Pt.locs, Pt.cells, Pt.slots] at X34 l34 y34 z34 st34 hQ34
      subst l34 y34 z34
      obtain ⟨rfl, Nq34, e34⟩ := hQ34
      have N34 := Fr.app NL33 Nq34
      obtain ⟨_, _, ⟨T35, L35, k35, n35⟩, -, X35, ⟨Lc35, hQ35, l35, y35, z35⟩, st35⟩ := Jvm.LawKit.callS X34 hx (y := own_y14) hown (mvT hZ (own_w hw 79 rfl)) (mvT hZ (own_w hw 80 rfl)) (mvT hZ (own_w hw 46 rfl)) (mvT hZ (own_w hw 81 rfl)) (by decide) (backOf (W := 0) (rmA14 l Z a0 hw [] b8 sa17  cs wf T25.heap n0 o26 G0   ) hZ (own_w hw 81 rfl) (own_w hw 46 rfl) (by decide) (by decide)) (g := (mkF m 220 #[.val (.int p1), .val (.int p2), .val (.int p3), .val (.int p4), .val (.int p5), .val (.ref b1), .val (.ref b8), .val (.int (0 : Int32)), .val .null, .val (.ref sa17), .val .null, .val (.ref b20), .val (.int (0 : Int32)), .val (.int (0 : Int32)), .val (.int (0 : Int32)), .unset, .unset] [.null, (.ref sa17), (.ref b8)])) rfl (by rw [hml]; rfl) (argsL := [(.ref b8), (.ref sa17), .null]) (rest := []) (lenOf own_pd14 rfl) rfl (by show 2 * 0 + _ ≤ _; exact Nat.le_of_eq rfl) (hb hby at_220) (fun _ _ => ⟨rfl, e34, (by decide : 6 + 1 ≤ _), (by decide : 17 + 4 ≤ _)⟩)
      dsimp only [Pt.U, Pt.locs, Pt.cells, Pt.slots] at X35 l35 y35 z35 st35 hQ35
      subst l35 y35 z35
      obtain ⟨fa35, rfl, Nq35, K35, hb35, Qe35, Qg35⟩ := hQ35
      have hCo35 := hC.1
      have sf_b8 := Safe.keep K35 sf0 hC.1 sf_b8
      have sf_rb11 := Safe.keep K35 sf0 hC.1 sf_rb11
      have sf_sa17 := Safe.keep K35 sf0 hC.1 sf_sa17
      have sf_sb17 := Safe.keep K35 sf0 hC.1 sf_sb17
      have hC := hC.trans (CHr.keep K35 sf0 hC.1)
      have hk := Nat.le_trans hk K35.1
      have N35 := Fr.app N34 Nq35
      have sz_fa35 : h0.size ≤ fa35 := Nat.le_trans (Nat.le_trans (Nat.le_trans (Nat.le_trans (Nat.le_trans (Nat.le_trans (Nat.le_trans (Nat.le_trans E1.1 (Keep.of_wr W4).1) (Keep.of_wr W7).1) E8.1) K11.1) K17.1) E20.1) K25.1) hb35
      have gz_fa35 : n0 ≤ fa35 := Nat.le_trans Z0 sz_fa35
      have sf_fa35 := Safe.keep (EL := own_EL) K35 sf0 hCo35 (Safe.new hb35)
      have ne_b1_fa35 : b1 ≠ fa35 := Nat.ne_of_lt (Nat.lt_of_lt_of_le ((f21.ext E20).keep K25 (ninS ne_b1_b20 nin0)).lt hb35)
      have ne_b20_fa35 : b20 ≠ fa35 := Nat.ne_of_lt (Nat.lt_of_lt_of_le Q25_0.lt hb35)
      have ne_b8_fa35 : b8 ≠ fa35 := Nat.ne_of_lt (Nat.lt_of_lt_of_le f28.lt hb35)
      have ne_rb11_fa35 : rb11 ≠ fa35 := Nat.ne_of_lt (Nat.lt_of_lt_of_le f30.lt hb35)
      have ne_sa17_fa35 : sa17 ≠ fa35 := Nat.ne_of_lt (Nat.lt_of_lt_of_le ((Qe17.ext E20).keep K25).lt hb35)
      have ne_sb17_fa35 : sb17 ≠ fa35 := Nat.ne_of_lt (Nat.lt_of_lt_of_le ((Qa17.ext E20).keep K25 (ninS ne_sb17_b20 nin0)).lt hb35)
      have o36 : Old Z n0 T35.heap := (Old.keep o26 K35 all0)
      obtain ⟨cq37, kq37, q37a, q37b, q37c⟩ := isOf hZ rfl Qe35
      obtain ⟨_, _, ⟨T37, L37, k37, n37⟩, -, X37, ⟨Lc37, hQ37, l37, y37, z37⟩, st37⟩ := X35.virtualBack hx (y := own_y11) (z := own_y11) hown (mvT hZ (own_w hw 64 rfl)) (mvT hZ (own_w hw 65 rfl)) (notFace_of_selects (args := #[]) (mvT hZ (own_w hw 67 rfl))) (mvT hZ (own_w hw 67 rfl)) (mvT hZ (own_w hw 66 rfl)) (by decide) (backOf (W := 0) (rmA11 l Z a0 hw [] fa35  cs wf T35.heap n0 o36 G0 Qe35 Qg35  ) hZ (own_w hw 68 rfl) (own_w hw 46 rfl) (by decide) (by decide)) q37a q37c (g := (mkF m 227 #[.val (.int p1), .val (.int p2), .val (.int p3), .val (.int p4), .val (.int p5), .val (.ref b1), .val (.ref b8), .val (.int (0 : Int32)), .val .null, .val (.ref sa17), .val .null, .val (.ref b20), .val (.int (0 : Int32)), .val (.int (0 : Int32)), .val (.int (0 : Int32)), .val (.ref fa35), .unset] [(.ref fa35)])) rfl (by rw [hml]; rfl) (Steps.refl _) (argsL := []) (rest := []) (lenOf own_pd11 rfl) rfl (by show 2 * 0 + _ ≤ _; exact Nat.le_of_eq rfl) (hb hby at_227) (fun _ _ => ⟨rfl, rfl, (by decide : 7 + 0 ≤ _), (by decide : 21 + 0 ≤ _)⟩)
      dsimp only [Pt.U, Pt.locs, Pt.cells, Pt.slots] at X37 l37 y37 z37 st37 hQ37
      subst l37 y37 z37
      obtain ⟨rfl, Nq37, e37⟩ := hQ37
      have N37 := Fr.app N35 Nq37
      have g38 : ∀ t, Steps p.tables e below (T37.setTop (mkF m 256 #[.val (.int p1), .val (.int p2), .val (.int p3), .val (.int p4), .val (.int p5), .val (.ref b1), .val (.ref b8), .val (.int (0 : Int32)), .val .null, .val (.ref sa17), .val .null, .val (.ref b20), .val (.int (0 : Int32)), .val (.int (0 : Int32)), .val (.int (0 : Int32)), .val (.ref fa35), .val (.int (0 : Int32))] [(.int (1 : Int32))])) t → Steps p.tables e below (s₁.setTop (entryFrame m #[(.int p1), (.int p2), (.int p3), (.int p4), (.int p5)] maxLocals)) t := by
        intro t k
        refine g18 t ?_
        show Steps p.tables e below (T17.setTop (mkF m 147 #[.val (.int p1), .val (.int p2), .val (.int p3), .val (.int p4), .val (.int p5), .val (.ref b1), .val (.ref b8), .val (.int (0 : Int32)), .val .null, .val (.ref sa17), .unset, .unset, .unset, .unset, .unset, .unset, .unset] [(.int bd)])) _
        refine XS.ifNo X17.here hx rfl (hb hby at_147) rfl ((if0 _ _).trans (teq hc19).2) ?_
        refine XS.aconstNull X17.here hx rfl (hb hby at_150) ?_
        refine XS.goto X17.here hx rfl (pc0 := 151) (pc' := 156) rfl (hb hby at_151) (by decide) (by decide) ?_
        refine XS.astore X17.here hx rfl (hb hby at_156) rfl rfl (l' := #[.val (.int p1), .val (.int p2), .val (.int p3), .val (.int p4), .val (.int p5), .val (.ref b1), .val (.ref b8), .val (.int (0 : Int32)), .val .null, .val (.ref sa17), .val .null, .unset, .unset, .unset, .unset, .unset, .unset]) rfl ?_
        show Steps p.tables e below (T17.setTop (mkF m 158 #[.val (.int p1), .val (.int p2), .val (.int p3), .val (.int p4), .val (.int p5), .val (.ref b1), .val (.ref b8), .val (.int (0 : Int32)), .val .null, .val (.ref sa17), .val .null, .unset, .unset, .unset, .unset, .unset, .unset] [])) _
        refine st20 _ ?_
        refine XS.dup X20.here hx rfl (hb hby at_161) rfl rfl ?_
        refine XS.aload X20.here hx rfl (hb hby at_162) rfl rfl ?_
        refine XS.aload X20.here hx rfl (hb hby at_164) rfl rfl ?_
        show Steps p.tables e below (T20.setTop (mkF m 166 #[.val (.int p1), .val (.int p2), .val (.int p3), .val (.int p4), .val (.int p5), .val (.ref b1), .val (.ref b8), .val (.int (0 : Int32)), .val .null, .val (.ref sa17), .val .null, .unset, .unset, .unset, .unset, .unset, .unset] [.null, (.ref b8), (.ref b20), (.ref b20)])) _
        refine XS.aload X20.here hx rfl (hb hby at_166) rfl rfl ?_
        refine XS.aload X20.here hx rfl (hb hby at_168) rfl rfl ?_
        refine st25.trans ?_
        refine XS.astore X25.here hx rfl (hb hby at_173) rfl rfl (l' := #[.val (.int p1), .val (.int p2), .val (.int p3), .val (.int p4), .val (.int p5), .val (.ref b1), .val (.ref b8), .val (.int (0 : Int32)), .val .null, .val (.ref sa17), .val .null, .val (.ref b20), .unset, .unset, .unset, .unset, .unset]) rfl ?_
        show Steps p.tables e below (T25.setTop (mkF m 175 #[.val (.int p1), .val (.int p2), .val (.int p3), .val (.int p4), .val (.int p5), .val (.ref b1), .val (.ref b8), .val (.int (0 : Int32)), .val .null, .val (.ref sa17), .val .null, .val (.ref b20), .unset, .unset, .unset, .unset, .unset] [])) _
        refine XS.aload X25.here hx rfl (hb hby at_175) rfl rfl ?_
        refine st27.trans ?_
        refine XS.istore X27.here hx rfl (hb hby at_180) rfl (l' := #[.val (.int p1), .val (.int p2), .val (.int p3), .val (.int p4), .val (.int p5), .val (.ref b1), .val (.ref b8), .val (.int (0 : Int32)), .val .null, .val (.ref sa17), .val .null, .val (.ref b20), .val (.int (0 : Int32)), .unset, .unset, .unset, .unset]) rfl ?_
        refine XS.iload X27.here hx rfl (hb hby at_182) rfl ?_
        show Steps p.tables e below (T27.setTop (mkF m 184 #[.val (.int p1), .val (.int p2), .val (.int p3), .val (.int p4), .val (.int p5), .val (.ref b1), .val (.ref b8), .val (.int (0 : Int32)), .val .null, .val (.ref sa17), .val .null, .val (.ref b20), .val (.int (0 : Int32)), .unset, .unset, .unset, .unset] [(.int (0 : Int32))])) _
        refine XS.ifYes X27.here hx rfl (pc0 := 184) (pc' := 191) rfl (hb hby at_184) rfl ((if0 _ _).trans (teq (by decide : (0 : Int32) = (0 : Int32))).1) (by decide) (by decide) ?_
        refine XS.iconst X27.here hx rfl (hb hby at_191) ?_
        refine XS.istore X27.here hx rfl (hb hby at_192) rfl (l' := #[.val (.int p1), .val (.int p2), .val (.int p3), .val (.int p4), .val (.int p5), .val (.ref b1), .val (.ref b8), .val (.int (0 : Int32)), .val .null, .val (.ref sa17), .val .null, .val (.ref b20), .val (.int (0 : Int32)), .val (.int (0 : Int32)), .unset, .unset, .unset]) rfl ?_
        refine XS.aload X27.here hx rfl (hb hby at_194) rfl rfl ?_
        show Steps p.tables e below (T27.setTop (mkF m 196 #[.val (.int p1), .val (.int p2), .val (.int p3), .val (.int p4), .val (.int p5), .val (.ref b1), .val (.ref b8), .val (.int (0 : Int32)), .val .null, .val (.ref sa17), .val .null, .val (.ref b20), .val (.int (0 : Int32)), .val (.int (0 : Int32)), .unset, .unset, .unset] [(.ref b20)])) _
        refine st32.trans ?_
        refine XS.aload X32.here hx rfl (hb hby at_199) rfl rfl ?_
        refine st34.trans ?_
        refine XS.ifYes X34.here hx rfl (pc0 := 204) (pc' := 211) rfl (hb hby at_204) rfl ((if0 _ _).trans (feq (by decide : ¬ ((1 : Int32) = (0 : Int32)))).2) (by decide) (by decide) ?_
        show Steps p.tables e below (T34.setTop (mkF m 211 #[.val (.int p1), .val (.int p2), .val (.int p3), .val (.int p4), .val (.int p5), .val (.ref b1), .val (.ref b8), .val (.int (0 : Int32)), .val .null, .val (.ref sa17), .val .null, .val (.ref b20), .val (.int (0 : Int32)), .val (.int (0 : Int32)), .unset, .unset, .unset] [])) _
        refine XS.iconst X34.here hx rfl (hb hby at_211) ?_
        refine XS.istore X34.here hx rfl (hb hby at_212) rfl (l' := #[.val (.int p1), .val (.int p2), .val (.int p3), .val (.int p4), .val (.int p5), .val (.ref b1), .val (.ref b8), .val (.int (0 : Int32)), .val .null, .val (.ref sa17), .val .null, .val (.ref b20), .val (.int (0 : Int32)), .val (.int (0 : Int32)), .val (.int (0 : Int32)), .unset, .unset]) rfl ?_
        refine XS.aload X34.here hx rfl (hb hby at_214) rfl rfl ?_
        refine XS.aload X34.here hx rfl (hb hby at_216) rfl rfl ?_
        show Steps p.tables e below (T34.setTop (mkF m 218 #[.val (.int p1), .val (.int p2), .val (.int p3), .val (.int p4), .val (.int p5), .val (.ref b1), .val (.ref b8), .val (.int (0 : Int32)), .val .null, .val (.ref sa17), .val .null, .val (.ref b20), .val (.int (0 : Int32)), .val (.int (0 : Int32)), .val (.int (0 : Int32)), .unset, .unset] [(.ref sa17), (.ref b8)])) _
        refine XS.aload X34.here hx rfl (hb hby at_218) rfl rfl ?_
        refine st35 _ ?_
        refine XS.astore X35.here hx rfl (hb hby at_223) rfl rfl (l' := #[.val (.int p1), .val (.int p2), .val (.int p3), .val (.int p4), .val (.int p5), .val (.ref b1), .val (.ref b8), .val (.int (0 : Int32)), .val .null, .val (.ref sa17), .val .null, .val (.ref b20), .val (.int (0 : Int32)), .val (.int (0 : Int32)), .val (.int (0 : Int32)), .val (.ref fa35), .unset]) rfl ?_
        refine XS.aload X35.here hx rfl (hb hby at_225) rfl rfl ?_
        show Steps p.tables e below (T35.setTop (mkF m 227 #[.val (.int p1), .val (.int p2), .val (.int p3), .val (.int p4), .val (.int p5), .val (.ref b1), .val (.ref b8), .val (.int (0 : Int32)), .val .null, .val (.ref sa17), .val .null, .val (.ref b20), .val (.int (0 : Int32)), .val (.int (0 : Int32)), .val (.int (0 : Int32)), .val (.ref fa35), .unset] [(.ref fa35)])) _
        refine st37.trans ?_
        refine XS.istore X37.here hx rfl (hb hby at_230) rfl (l' := #[.val (.int p1), .val (.int p2), .val (.int p3), .val (.int p4), .val (.int p5), .val (.ref b1), .val (.ref b8), .val (.int (0 : Int32)), .val .null, .val (.ref sa17), .val .null, .val (.ref b20), .val (.int (0 : Int32)), .val (.int (0 : Int32)), .val (.int (0 : Int32)), .val (.ref fa35), .val (.int (0 : Int32))]) rfl ?_
        refine XS.iload X37.here hx rfl (hb hby at_232) rfl ?_
        refine XS.iload X37.here hx rfl (hb hby at_234) rfl ?_
        show Steps p.tables e below (T37.setTop (mkF m 236 #[.val (.int p1), .val (.int p2), .val (.int p3), .val (.int p4), .val (.int p5), .val (.ref b1), .val (.ref b8), .val (.int (0 : Int32)), .val .null, .val (.ref sa17), .val .null, .val (.ref b20), .val (.int (0 : Int32)), .val (.int (0 : Int32)), .val (.int (0 : Int32)), .val (.ref fa35), .val (.int (0 : Int32))] [(.int (0 : Int32)), (.int (0 : Int32))])) _
        refine XS.icmpNo X37.here hx rfl (hb hby at_236) rfl (teq (by decide : (0 : Int32) = (0 : Int32))).2 ?_
        refine XS.iload X37.here hx rfl (hb hby at_239) rfl ?_
        refine XS.iload X37.here hx rfl (hb hby at_241) rfl ?_
        refine XS.icmpNo X37.here hx rfl (hb hby at_243) rfl (teq (by decide : (0 : Int32) = (0 : Int32))).2 ?_
        show Steps p.tables e below (T37.setTop (mkF m 246 #[.val (.int p1), .val (.int p2), .val (.int p3), .val (.int p4), .val (.int p5), .val (.ref b1), .val (.ref b8), .val (.int (0 : Int32)), .val .null, .val (.ref sa17), .val .null, .val (.ref b20), .val (.int (0 : Int32)), .val (.int (0 : Int32)), .val (.int (0 : Int32)), .val (.ref fa35), .val (.int (0 : Int32))] [])) _
        refine XS.iload X37.here hx rfl (hb hby at_246) rfl ?_
        refine XS.ifNo X37.here hx rfl (hb hby at_248) rfl ((if0 _ _).trans (teq (by decide : (0 : Int32) = (0 : Int32))).2) ?_
        refine XS.iconst X37.here hx rfl (hb hby at_251) ?_
        refine XS.goto X37.here hx rfl (pc0 := 252) (pc' := 256) rfl (hb hby at_252) (by decide) (by decide) ?_
        exact k
      obtain ⟨fs, hrt, hrun, hended, hRW⟩ := X37.leaveW hS (by rw [e37]; exact hk) (v := some (.int (1 : Int32))) (fun h => by rw [Bd.returns] at h; cases h)
      refine ⟨_, _, g38 _ ?_, hrun, hended, _, _, rfl, ?_, ?_, hRW.1, hRW.2.1, hRW.2.2.1, hRW.2.2.2.mono (by decide) (by decide)⟩
      · show Steps p.tables e below (T37.setTop (mkF m 256 #[.val (.int p1), .val (.int p2), .val (.int p3), .val (.int p4), .val (.int p5), .val (.ref b1), .val (.ref b8), .val (.int (0 : Int32)), .val .null, .val (.ref sa17), .val .null, .val (.ref b20), .val (.int (0 : Int32)), .val (.int (0 : Int32)), .val (.int (0 : Int32)), .val (.ref fa35), .val (.int (0 : Int32))] [(.int (1 : Int32))])) _
        exact retN X37 hx (t := .boolean) Bd.returns (by simp) (hb hby at_256) hrt
      · show own_Q_rm0 Z p1 p2 p3 p4 p5 cs wf h0 n0 _ T37.heap _
        rw [e37]
        exact ⟨rfl, N37⟩
      · rw [hh]
        show CHr Z own_EL s.vm h0 T37.vm T37.heap
        rw [e37]
        exact hC.trans (CHv.at X37 hZ (own_EW hw) hC.1)
    · obtain ⟨a39, T39, h39, k39, X39, e39, E39, hS, hk, hZ, hown, C39, -, st39⟩ := ldcOH (s := s) (vm0 := s.vm) X17 hx hZ hown (own_w hw 84 rfl) (own_wS hw) rfl hS hk (own_EW hw) hC.1 (g := (mkF m 154 #[.val (.int p1), .val (.int p2), .val (.int p3), .val (.int p4), .val (.int p5), .val (.ref b1), .val (.ref b8), .val (.int (0 : Int32)), .val .null, .val (.ref sa17), .unset, .unset, .unset, .unset, .unset, .unset, .unset] [])) rfl (hb hby at_154) (n := 4) (by decide) (by decide) (by decide) (by decide)
      have f40 := (Qe11.keep K17)
      have sf_b8 := CHr.safe C39 f40.lt sf_b8
      have f41 := (Va11.keep K17 nin0)
      have sf_rb11 := CHr.safe C39 f41.lt sf_rb11
      have sf_sa17 := CHr.safe C39 Qe17.lt sf_sa17
      have sf_sb17 := CHr.safe C39 Qa17.lt sf_sb17
      have hC := hC.trans C39
      obtain ⟨T42, h42, X42, e42, E42, A42, D42, -, st42⟩ := newO X39 hx hZ hown (own_w hw 44 rfl) (own_w hw 45 rfl) (own_w hw 46 rfl) e39 (g := (mkF m 158 #[.val (.int p1), .val (.int p2), .val (.int p3), .val (.int p4), .val (.int p5), .val (.ref b1), .val (.ref b8), .val (.int (0 : Int32)), .val .null, .val (.ref sa17), .val (.ref a39), .unset, .unset, .unset, .unset, .unset, .unset] [])) rfl (hb hby at_158) (by decide) (by decide)
      obtain ⟨b42, q_b42⟩ : ∃ z, z = h39.size := ⟨_, rfl⟩
      rw [← q_b42] at A42 D42 st42
      have sz_b42 : h0.size ≤ b42 := Nat.le_trans (Nat.le_trans (Nat.le_trans (Nat.le_trans (Nat.le_trans (Nat.le_trans (Nat.le_trans E1.1 (Keep.of_wr W4).1) (Keep.of_wr W7).1) E8.1) K11.1) K17.1) E39.1) (Nat.le_of_eq q_b42.symm)
      have gz_b42 : n0 ≤ b42 := Nat.le_trans Z0 sz_b42
      have f43 := (((f9.keep K11 (ninS ne_b1_b8 nin0)).keep K17 nin0).ext E39)
      have ne_b1_b42 : b1 ≠ b42 := Nat.ne_of_lt (Nat.lt_of_lt_of_le f43.lt (Nat.le_of_eq q_b42.symm))
      have f44 := (f40.ext E39)
      have ne_b8_b42 : b8 ≠ b42 := Nat.ne_of_lt (Nat.lt_of_lt_of_le f44.lt (Nat.le_of_eq q_b42.symm))
      have f45 := (f41.ext E39)
      have ne_rb11_b42 : rb11 ≠ b42 := Nat.ne_of_lt (Nat.lt_of_lt_of_le f45.lt (Nat.le_of_eq q_b42.symm))
      have f46 := (Qe17.ext E39)
      have ne_sa17_b42 : sa17 ≠ b42 := Nat.ne_of_lt (Nat.lt_of_lt_of_le f46.lt (Nat.le_of_eq q_b42.symm))
      have f47 := (Qa17.ext E39)
      have ne_sb17_b42 : sb17 ≠ b42 := Nat.ne_of_lt (Nat.lt_of_lt_of_le f47.lt (Nat.le_of_eq q_b42.symm))
      have sf_b8 := Safe.ext E42 hC.1 sf_b8
      have sf_rb11 := Safe.ext E42 hC.1 sf_rb11
      have sf_sa17 := Safe.ext E42 hC.1 sf_sa17
      have sf_sb17 := Safe.ext E42 hC.1 sf_sb17
      have hC := hC.trans (CHr.ext E42 hC.1)
      have hk := Nat.le_trans hk E42.1
      have F42_name : Fld Z h42 b42 "com/example/momus/momus/cli/Option" "name" "Ljava/lang/String;" .null := D42 (Or.inr (own_w hw 57 rfl)) (ty := (.object "java/lang/String")) (by decide)
      have F42_argument : Fld Z h42 b42 "com/example/momus/momus/cli/Option" "argument" "Ljava/lang/String;" .null := D42 (Or.inr (own_w hw 59 rfl)) (ty := (.object "java/lang/String")) (by decide)
      have F42_description : Fld Z h42 b42 "com/example/momus/momus/cli/Option" "description" "Ljava/lang/String;" .null := D42 (Or.inr (own_w hw 61 rfl)) (ty := (.object "java/lang/String")) (by decide)
      have F42_byDefault : Fld Z h42 b42 "com/example/momus/momus/cli/Option" "byDefault" "Ljava/lang/String;" .null := D42 (Or.inr (own_w hw 63 rfl)) (ty := (.object "java/lang/String")) (by decide)
      have o48 : Old Z n0 h42 := (Old.ext (Old.ext (Old.keep o16 K17 all0) E39) E42)
      obtain ⟨_, _, ⟨T49, L49, k49, n49⟩, -, X49, ⟨Lc49, hQ49, l49, y49, z49⟩, st49⟩ := X42.specialBack hx (y := own_y9) rfl hown (mvT hZ (own_w hw 47 rfl)) (mvT hZ (own_w hw 48 rfl)) (mvT hZ (own_w hw 49 rfl)) (by decide) (backOf (W := 1) (rmA15 l Z a0 hw [] b42 b8 sa17 a39  cs wf h42 n0 o48 G0 A42 F42_argument F42_byDefault F42_description F42_name gz_b42 ) hZ (own_w hw 49 rfl) (own_w hw 46 rfl) (by decide) (by decide)) (g := (mkF m 170 #[.val (.int p1), .val (.int p2), .val (.int p3), .val (.int p4), .val (.int p5), .val (.ref b1), .val (.ref b8), .val (.int (0 : Int32)), .val .null, .val (.ref sa17), .val (.ref a39), .unset, .unset, .unset, .unset, .unset, .unset] [(.ref a39), (.ref sa17), .null, (.ref b8), (.ref b42), (.ref b42)])) rfl (by rw [hml]; rfl) (Steps.refl _) (a := b42) (argsL := [(.ref b8), .null, (.ref sa17), (.ref a39)]) (rest := [(.ref b42)]) (lenOf own_pd10 rfl) rfl (by show 2 * 0 + _ ≤ _; exact Nat.le_of_eq rfl) (hb hby at_170) (fun _ _ => ⟨rfl, e42, (by decide : 8 + 0 ≤ _), (by decide : 25 + 0 ≤ _)⟩)
      dsimp only [Pt.U, Pt.locs, Pt.cells, Pt.slots] at X49 l49 y49 z49 st49 hQ49
      subst l49 y49 z49
      obtain ⟨rfl, Nq49, K49, Q49_0, Q49_1, Q49_2⟩ := hQ49
      have qf49 := (sfS (EL := own_EL) (Safe.exa hZ.alike A42 (by decide) (by decide)) sf0)
      have hCo49 := hC.1
      have sf_b8 := Safe.keep K49 qf49 hC.1 sf_b8
      have sf_rb11 := Safe.keep K49 qf49 hC.1 sf_rb11
      have sf_sa17 := Safe.keep K49 qf49 hC.1 sf_sa17
      have sf_sb17 := Safe.keep K49 qf49 hC.1 sf_sb17
      have hC := hC.trans (CHr.keep K49 qf49 hC.1)
      have hk := Nat.le_trans hk K49.1
      have N49 := Fr.app N17 Nq49
      have o50 : Old Z n0 T49.heap := (Old.keep o48 K49 (allS gz_b42 all0))
      obtain ⟨cq51, kq51, q51a, q51b, q51c⟩ := isOf hZ rfl Q49_0
      obtain ⟨_, _, ⟨T51, L51, k51, n51⟩, -, X51, ⟨Lc51, hQ51, l51, y51, z51⟩, st51⟩ := X49.virtualBack hx (y := own_y11) (z := own_y11) hown (mvT hZ (own_w hw 64 rfl)) (mvT hZ (own_w hw 65 rfl)) (notFace_of_selects (args := #[]) (mvT hZ (own_w hw 67 rfl))) (mvT hZ (own_w hw 67 rfl)) (mvT hZ (own_w hw 66 rfl)) (by decide) (backOf (W := 0) (rmA11 l Z a0 hw [] b42  cs wf T49.heap n0 o50 G0 Q49_0 Q49_2  ) hZ (own_w hw 68 rfl) (own_w hw 46 rfl) (by decide) (by decide)) q51a q51c (g := (mkF m 177 #[.val (.int p1), .val (.int p2), .val (.int p3), .val (.int p4), .val (.int p5), .val (.ref b1), .val (.ref b8), .val (.int (0 : Int32)), .val .null, .val (.ref sa17), .val (.ref a39), .val (.ref b42), .unset, .unset, .unset, .unset, .unset] [(.ref b42)])) rfl (by rw [hml]; rfl) (Steps.refl _) (argsL := []) (rest := []) (lenOf own_pd11 rfl) rfl (by show 2 * 0 + _ ≤ _; exact Nat.le_of_eq rfl) (hb hby at_177) (fun _ _ => ⟨rfl, rfl, (by decide : 8 + 0 ≤ _), (by decide : 25 + 0 ≤ _)⟩)
      dsimp only [Pt.U, Pt.locs, Pt.cells, Pt.slots] at X51 l51 y51 z51 st51 hQ51
      subst l51 y51 z51
      obtain ⟨rfl, Nq51, e51⟩ := hQ51
      have N51 := Fr.app N49 Nq51
      have f52 := ((f44.ext E42).keep K49)
      have f53 := ((((Qc11.keep K17 nin0).ext E39).ext E42).keep K49 (ninS ne_b8_b42 nin0))
      have f54 := ((f45.ext E42).keep K49 (ninS ne_rb11_b42 nin0))
      have f55 := ((((Qv11.keep K17 nin0).ext E39).ext E42).keep K49 (ninS ne_b8_b42 nin0))
      obtain ⟨cq56, kq56, q56a, q56b, q56c⟩ := isOf hZ e51 Q49_0
      obtain ⟨_, _, ⟨T56, L56, k56, n56⟩, -, X56, ⟨Lc56, hQ56, l56, y56, z56⟩, st56⟩ := X51.virtualBack hx (y := own_y12) (z := own_y12) hown (mvT hZ (own_w hw 69 rfl)) (mvT hZ (own_w hw 70 rfl)) (notFace_of_selects (args := #[]) (mvT hZ (own_w hw 72 rfl))) (mvT hZ (own_w hw 72 rfl)) (mvT hZ (own_w hw 71 rfl)) (by decide) (backOf (W := 0) (rmA12 l Z a0 hw [] b42 b8  cs wf T49.heap n0 o50 G0 Q49_0 Q49_2 Q49_1  ) hZ (own_w hw 73 rfl) (own_w hw 46 rfl) (by decide) (by decide)) q56a q56c (g := (mkF m 196 #[.val (.int p1), .val (.int p2), .val (.int p3), .val (.int p4), .val (.int p5), .val (.ref b1), .val (.ref b8), .val (.int (0 : Int32)), .val .null, .val (.ref sa17), .val (.ref a39), .val (.ref b42), .val (.int (0 : Int32)), .val (.int (0 : Int32)), .unset, .unset, .unset] [(.ref b42)])) rfl (by rw [hml]; rfl) (Steps.refl _) (argsL := []) (rest := []) (lenOf own_pd12 rfl) rfl (by show 2 * 0 + _ ≤ _; exact Nat.le_of_eq rfl) (hb hby at_196) (fun _ _ => ⟨rfl, e51, (by decide : 8 + 0 ≤ _), (by decide : 25 + 0 ≤ _)⟩)
      dsimp only [Pt.U, Pt.locs, Pt.cells, Pt.slots] at X56 l56 y56 z56 st56 hQ56
      subst l56 y56 z56
      obtain ⟨rfl, Nq56, e56⟩ := hQ56
      have N56 := Fr.app N51 Nq56
      obtain ⟨LL57, XL57, NL57⟩ : ∃ LL : List Loc, Stand p l e room_1 (s.setVm T39.vm) m #[(.int p1), (.int p2), (.int p3), (.int p4), (.int p5)] below meth c T56 LL 8 25 ∧ Fr n0 LL := ⟨_, X56, N56⟩
      obtain ⟨cq58, kq58, q58a, q58b, q58c⟩ := isOf hZ e56 f52
      obtain ⟨_, _, ⟨T58, L58, k58, n58⟩, -, X58, ⟨Lc58, hQ58, l58, y58, z58⟩, st58⟩ := XL57.virtualBack hx (y := own_y13) (z := own_y13) hown (mvT hZ (own_w hw 74 rfl)) (mvT hZ (own_w hw 75 rfl)) (notFace_of_selects (args := #[]) (mvT hZ (own_w hw 77 rfl))) (mvT hZ (own_w hw 77 rfl)) (mvT hZ (own_w hw 76 rfl)) (by decide) (backOf (W := 0) (rmA13 l Z a0 hw [] b8 rb11 rk11 sl11  cs wf T49.heap n0 o50 G0 f52 f53 f54 f55  ) hZ (own_w hw 78 rfl) (own_w hw 3 rfl) (by decide) (by decide)) q58a q58c (g := (mkF m 201 #[.val (.int p1), .val (.int p2), .val (.int p3), .val (.int p4), .val (.int p5), .val (.ref b1), .val (.ref b8), .val (.int (0 : Int32)), .val .null, .val (.ref sa17), .val (.ref a39), .val (.ref b42), .val (.int (0 : Int32)), .val (.int (0 : Int32)), .unset, .unset, .unset] [(.ref b8), (.ref b8)])) rfl (by rw [hml]; rfl) (Steps.refl _) (argsL := [(.ref b8)]) (rest := []) (lenOf own_pd13 rfl) rfl (by show 2 * 0 + _ ≤ _; exact Nat.le_of_eq rfl) (hb hby at_201) (fun _ _ => ⟨rfl, e56, (by decide : 8 + 0 ≤ _), (by decide : 25 + 0 ≤ _)⟩)
      dsimp only [Pt.U, Pt.locs, Pt.cells, Pt.slots] at X58 l58 y58 z58 st58 hQ58
      subst l58 y58 z58
      obtain ⟨rfl, Nq58, e58⟩ := hQ58
      have N58 := Fr.app NL57 Nq58
      obtain ⟨_, _, ⟨T59, L59, k59, n59⟩, -, X59, ⟨Lc59, hQ59, l59, y59, z59⟩, st59⟩ := Jvm.LawKit.callS X58 hx (y := own_y14) hown (mvT hZ (own_w hw 79 rfl)) (mvT hZ (own_w hw 80 rfl)) (mvT hZ (own_w hw 46 rfl)) (mvT hZ (own_w hw 81 rfl)) (by decide) (backOf (W := 0) (rmA16 l Z a0 hw [] b8 sa17 a39  cs wf T49.heap n0 o50 G0   ) hZ (own_w hw 81 rfl) (own_w hw 46 rfl) (by decide) (by decide)) (g := (mkF m 220 #[.val (.int p1), .val (.int p2), .val (.int p3), .val (.int p4), .val (.int p5), .val (.ref b1), .val (.ref b8), .val (.int (0 : Int32)), .val .null, .val (.ref sa17), .val (.ref a39), .val (.ref b42), .val (.int (0 : Int32)), .val (.int (0 : Int32)), .val (.int (0 : Int32)), .unset, .unset] [(.ref a39), (.ref sa17), (.ref b8)])) rfl (by rw [hml]; rfl) (argsL := [(.ref b8), (.ref sa17), (.ref a39)]) (rest := []) (lenOf own_pd14 rfl) rfl (by show 2 * 0 + _ ≤ _; exact Nat.le_of_eq rfl) (hb hby at_220) (fun _ _ => ⟨rfl, e58, (by decide : 8 + 1 ≤ _), (by decide : 25 + 4 ≤ _)⟩)
      dsimp only [Pt.U, Pt.locs, Pt.cells, Pt.slots] at X59 l59 y59 z59 st59 hQ59
      subst l59 y59 z59
      obtain ⟨fa59, rfl, Nq59, K59, hb59, Qe59, Qg59⟩ := hQ59
      have hCo59 := hC.1
      have sf_b8 := Safe.keep K59 sf0 hC.1 sf_b8
      have sf_rb11 := Safe.keep K59 sf0 hC.1 sf_rb11
      have sf_sa17 := Safe.keep K59 sf0 hC.1 sf_sa17
      have sf_sb17 := Safe.keep K59 sf0 hC.1 sf_sb17
      have hC := hC.trans (CHr.keep K59 sf0 hC.1)
      have hk := Nat.le_trans hk K59.1
      have N59 := Fr.app N58 Nq59
      have sz_fa59 : h0.size ≤ fa59 := Nat.le_trans (Nat.le_trans (Nat.le_trans (Nat.le_trans (Nat.le_trans (Nat.le_trans (Nat.le_trans (Nat.le_trans (Nat.le_trans E1.1 (Keep.of_wr W4).1) (Keep.of_wr W7).1) E8.1) K11.1) K17.1) E39.1) E42.1) K49.1) hb59
      have gz_fa59 : n0 ≤ fa59 := Nat.le_trans Z0 sz_fa59
      have sf_fa59 := Safe.keep (EL := own_EL) K59 sf0 hCo59 (Safe.new hb59)
      have ne_b1_fa59 : b1 ≠ fa59 := Nat.ne_of_lt (Nat.lt_of_lt_of_le ((f43.ext E42).keep K49 (ninS ne_b1_b42 nin0)).lt hb59)
      have ne_b42_fa59 : b42 ≠ fa59 := Nat.ne_of_lt (Nat.lt_of_lt_of_le Q49_0.lt hb59)
      have ne_b8_fa59 : b8 ≠ fa59 := Nat.ne_of_lt (Nat.lt_of_lt_of_le f52.lt hb59)
      have ne_rb11_fa59 : rb11 ≠ fa59 := Nat.ne_of_lt (Nat.lt_of_lt_of_le f54.lt hb59)
      have ne_sa17_fa59 : sa17 ≠ fa59 := Nat.ne_of_lt (Nat.lt_of_lt_of_le ((f46.ext E42).keep K49).lt hb59)
      have ne_sb17_fa59 : sb17 ≠ fa59 := Nat.ne_of_lt (Nat.lt_of_lt_of_le ((f47.ext E42).keep K49 (ninS ne_sb17_b42 nin0)).lt hb59)
      have o60 : Old Z n0 T59.heap := (Old.keep o50 K59 all0)
      obtain ⟨cq61, kq61, q61a, q61b, q61c⟩ := isOf hZ rfl Qe59
      obtain ⟨_, _, ⟨T61, L61, k61, n61⟩, -, X61, ⟨Lc61, hQ61, l61, y61, z61⟩, st61⟩ := X59.virtualBack hx (y := own_y11) (z := own_y11) hown (mvT hZ (own_w hw 64 rfl)) (mvT hZ (own_w hw 65 rfl)) (notFace_of_selects (args := #[]) (mvT hZ (own_w hw 67 rfl))) (mvT hZ (own_w hw 67 rfl)) (mvT hZ (own_w hw 66 rfl)) (by decide) (backOf (W := 0) (rmA11 l Z a0 hw [] fa59  cs wf T59.heap n0 o60 G0 Qe59 Qg59  ) hZ (own_w hw 68 rfl) (own_w hw 46 rfl) (by decide) (by decide)) q61a q61c (g := (mkF m 227 #[.val (.int p1), .val (.int p2), .val (.int p3), .val (.int p4), .val (.int p5), .val (.ref b1), .val (.ref b8), .val (.int (0 : Int32)), .val .null, .val (.ref sa17), .val (.ref a39), .val (.ref b42), .val (.int (0 : Int32)), .val (.int (0 : Int32)), .val (.int (0 : Int32)), .val (.ref fa59), .unset] [(.ref fa59)])) rfl (by rw [hml]; rfl) (Steps.refl _) (argsL := []) (rest := []) (lenOf own_pd11 rfl) rfl (by show 2 * 0 + _ ≤ _; exact Nat.le_of_eq rfl) (hb hby at_227) (fun _ _ => ⟨rfl, rfl, (by decide : 9 + 0 ≤ _), (by decide : 29 + 0 ≤ _)⟩)
      dsimp only [Pt.U, Pt.locs, Pt.cells, Pt.slots] at X61 l61 y61 z61 st61 hQ61
      subst l61 y61 z61
      obtain ⟨rfl, Nq61, e61⟩ := hQ61
      have N61 := Fr.app N59 Nq61
      have g62 : ∀ t, Steps p.tables e below (T61.setTop (mkF m 256 #[.val (.int p1), .val (.int p2), .val (.int p3), .val (.int p4), .val (.int p5), .val (.ref b1), .val (.ref b8), .val (.int (0 : Int32)), .val .null, .val (.ref sa17), .val (.ref a39), .val (.ref b42), .val (.int (0 : Int32)), .val (.int (0 : Int32)), .val (.int (0 : Int32)), .val (.ref fa59), .val (.int (0 : Int32))] [(.int (1 : Int32))])) t → Steps p.tables e below (s₁.setTop (entryFrame m #[(.int p1), (.int p2), (.int p3), (.int p4), (.int p5)] maxLocals)) t := by
        intro t k
        refine g18 t ?_
        show Steps p.tables e below (T17.setTop (mkF m 147 #[.val (.int p1), .val (.int p2), .val (.int p3), .val (.int p4), .val (.int p5), .val (.ref b1), .val (.ref b8), .val (.int (0 : Int32)), .val .null, .val (.ref sa17), .unset, .unset, .unset, .unset, .unset, .unset, .unset] [(.int bd)])) _
        refine XS.ifYes X17.here hx rfl (pc0 := 147) (pc' := 154) rfl (hb hby at_147) rfl ((if0 _ _).trans (feq hc19).2) (by decide) (by decide) ?_
        refine st39 _ ?_
        refine XS.astore X39.here hx rfl (hb hby at_156) rfl rfl (l' := #[.val (.int p1), .val (.int p2), .val (.int p3), .val (.int p4), .val (.int p5), .val (.ref b1), .val (.ref b8), .val (.int (0 : Int32)), .val .null, .val (.ref sa17), .val (.ref a39), .unset, .unset, .unset, .unset, .unset, .unset]) rfl ?_
        refine st42 _ ?_
        show Steps p.tables e below (T42.setTop (mkF m 161 #[.val (.int p1), .val (.int p2), .val (.int p3), .val (.int p4), .val (.int p5), .val (.ref b1), .val (.ref b8), .val (.int (0 : Int32)), .val .null, .val (.ref sa17), .val (.ref a39), .unset, .unset, .unset, .unset, .unset, .unset] [(.ref b42)])) _
        refine XS.dup X42.here hx rfl (hb hby at_161) rfl rfl ?_
        refine XS.aload X42.here hx rfl (hb hby at_162) rfl rfl ?_
        refine XS.aload X42.here hx rfl (hb hby at_164) rfl rfl ?_
        refine XS.aload X42.here hx rfl (hb hby at_166) rfl rfl ?_
        show Steps p.tables e below (T42.setTop (mkF m 168 #[.val (.int p1), .val (.int p2), .val (.int p3), .val (.int p4), .val (.int p5), .val (.ref b1), .val (.ref b8), .val (.int (0 : Int32)), .val .null, .val (.ref sa17), .val (.ref a39), .unset, .unset, .unset, .unset, .unset, .unset] [(.ref sa17), .null, (.ref b8), (.ref b42), (.ref b42)])) _
        refine XS.aload X42.here hx rfl (hb hby at_168) rfl rfl ?_
        refine st49.trans ?_
        refine XS.astore X49.here hx rfl (hb hby at_173) rfl rfl (l' := #[.val (.int p1), .val (.int p2), .val (.int p3), .val (.int p4), .val (.int p5), .val (.ref b1), .val (.ref b8), .val (.int (0 : Int32)), .val .null, .val (.ref sa17), .val (.ref a39), .val (.ref b42), .unset, .unset, .unset, .unset, .unset]) rfl ?_
        refine XS.aload X49.here hx rfl (hb hby at_175) rfl rfl ?_
        show Steps p.tables e below (T49.setTop (mkF m 177 #[.val (.int p1), .val (.int p2), .val (.int p3), .val (.int p4), .val (.int p5), .val (.ref b1), .val (.ref b8), .val (.int (0 : Int32)), .val .null, .val (.ref sa17), .val (.ref a39), .val (.ref b42), .unset, .unset, .unset, .unset, .unset] [(.ref b42)])) _
        refine st51.trans ?_
        refine XS.istore X51.here hx rfl (hb hby at_180) rfl (l' := #[.val (.int p1), .val (.int p2), .val (.int p3), .val (.int p4), .val (.int p5), .val (.ref b1), .val (.ref b8), .val (.int (0 : Int32)), .val .null, .val (.ref sa17), .val (.ref a39), .val (.ref b42), .val (.int (0 : Int32)), .unset, .unset, .unset, .unset]) rfl ?_
        refine XS.iload X51.here hx rfl (hb hby at_182) rfl ?_
        refine XS.ifYes X51.here hx rfl (pc0 := 184) (pc' := 191) rfl (hb hby at_184) rfl ((if0 _ _).trans (teq (by decide : (0 : Int32) = (0 : Int32))).1) (by decide) (by decide) ?_
        show Steps p.tables e below (T51.setTop (mkF m 191 #[.val (.int p1), .val (.int p2), .val (.int p3), .val (.int p4), .val (.int p5), .val (.ref b1), .val (.ref b8), .val (.int (0 : Int32)), .val .null, .val (.ref sa17), .val (.ref a39), .val (.ref b42), .val (.int (0 : Int32)), .unset, .unset, .unset, .unset] [])) _
        refine XS.iconst X51.here hx rfl (hb hby at_191) ?_
        refine XS.istore X51.here hx rfl (hb hby at_192) rfl (l' := #[.val (.int p1), .val (.int p2), .val (.int p3), .val (.int p4), .val (.int p5), .val (.ref b1), .val (.ref b8), .val (.int (0 : Int32)), .val .null, .val (.ref sa17), .val (.ref a39), .val (.ref b42), .val (.int (0 : Int32)), .val (.int (0 : Int32)), .unset, .unset, .unset]) rfl ?_
        refine XS.aload X51.here hx rfl (hb hby at_194) rfl rfl ?_
        refine st56.trans ?_
        show Steps p.tables e below (T56.setTop (mkF m 199 #[.val (.int p1), .val (.int p2), .val (.int p3), .val (.int p4), .val (.int p5), .val (.ref b1), .val (.ref b8), .val (.int (0 : Int32)), .val .null, .val (.ref sa17), .val (.ref a39), .val (.ref b42), .val (.int (0 : Int32)), .val (.int (0 : Int32)), .unset, .unset, .unset] [(.ref b8)])) _
        refine XS.aload X56.here hx rfl (hb hby at_199) rfl rfl ?_
        refine st58.trans ?_
        refine XS.ifYes X58.here hx rfl (pc0 := 204) (pc' := 211) rfl (hb hby at_204) rfl ((if0 _ _).trans (feq (by decide : ¬ ((1 : Int32) = (0 : Int32)))).2) (by decide) (by decide) ?_
        refine XS.iconst X58.here hx rfl (hb hby at_211) ?_
        show Steps p.tables e below (T58.setTop (mkF m 212 #[.val (.int p1), .val (.int p2), .val (.int p3), .val (.int p4), .val (.int p5), .val (.ref b1), .val (.ref b8), .val (.int (0 : Int32)), .val .null, .val (.ref sa17), .val (.ref a39), .val (.ref b42), .val (.int (0 : Int32)), .val (.int (0 : Int32)), .unset, .unset, .unset] [(.int (0 : Int32))])) _
        refine XS.istore X58.here hx rfl (hb hby at_212) rfl (l' := #[.val (.int p1), .val (.int p2), .val (.int p3), .val (.int p4), .val (.int p5), .val (.ref b1), .val (.ref b8), .val (.int (0 : Int32)), .val .null, .val (.ref sa17), .val (.ref a39), .val (.ref b42), .val (.int (0 : Int32)), .val (.int (0 : Int32)), .val (.int (0 : Int32)), .unset, .unset]) rfl ?_
        refine XS.aload X58.here hx rfl (hb hby at_214) rfl rfl ?_
        refine XS.aload X58.here hx rfl (hb hby at_216) rfl rfl ?_
        refine XS.aload X58.here hx rfl (hb hby at_218) rfl rfl ?_
        show Steps p.tables e below (T58.setTop (mkF m 220 #[.val (.int p1), .val (.int p2), .val (.int p3), .val (.int p4), .val (.int p5), .val (.ref b1), .val (.ref b8), .val (.int (0 : Int32)), .val .null, .val (.ref sa17), .val (.ref a39), .val (.ref b42), .val (.int (0 : Int32)), .val (.int (0 : Int32)), .val (.int (0 : Int32)), .unset, .unset] [(.ref a39), (.ref sa17), (.ref b8)])) _
        refine st59 _ ?_
        refine XS.astore X59.here hx rfl (hb hby at_223) rfl rfl (l' := #[.val (.int p1), .val (.int p2), .val (.int p3), .val (.int p4), .val (.int p5), .val (.ref b1), .val (.ref b8), .val (.int (0 : Int32)), .val .null, .val (.ref sa17), .val (.ref a39), .val (.ref b42), .val (.int (0 : Int32)), .val (.int (0 : Int32)), .val (.int (0 : Int32)), .val (.ref fa59), .unset]) rfl ?_
        refine XS.aload X59.here hx rfl (hb hby at_225) rfl rfl ?_
        refine st61.trans ?_
        show Steps p.tables e below (T61.setTop (mkF m 230 #[.val (.int p1), .val (.int p2), .val (.int p3), .val (.int p4), .val (.int p5), .val (.ref b1), .val (.ref b8), .val (.int (0 : Int32)), .val .null, .val (.ref sa17), .val (.ref a39), .val (.ref b42), .val (.int (0 : Int32)), .val (.int (0 : Int32)), .val (.int (0 : Int32)), .val (.ref fa59), .unset] [(.int (0 : Int32))])) _
        refine XS.istore X61.here hx rfl (hb hby at_230) rfl (l' := #[.val (.int p1), .val (.int p2), .val (.int p3), .val (.int p4), .val (.int p5), .val (.ref b1), .val (.ref b8), .val (.int (0 : Int32)), .val .null, .val (.ref sa17), .val (.ref a39), .val (.ref b42), .val (.int (0 : Int32)), .val (.int (0 : Int32)), .val (.int (0 : Int32)), .val (.ref fa59), .val (.int (0 : Int32))]) rfl ?_
        refine XS.iload X61.here hx rfl (hb hby at_232) rfl ?_
        refine XS.iload X61.here hx rfl (hb hby at_234) rfl ?_
        refine XS.icmpNo X61.here hx rfl (hb hby at_236) rfl (teq (by decide : (0 : Int32) = (0 : Int32))).2 ?_
        show Steps p.tables e below (T61.setTop (mkF m 239 #[.val (.int p1), .val (.int p2), .val (.int p3), .val (.int p4), .val (.int p5), .val (.ref b1), .val (.ref b8), .val (.int (0 : Int32)), .val .null, .val (.ref sa17), .val (.ref a39), .val (.ref b42), .val (.int (0 : Int32)), .val (.int (0 : Int32)), .val (.int (0 : Int32)), .val (.ref fa59), .val (.int (0 : Int32))] [])) _
        refine XS.iload X61.here hx rfl (hb hby at_239) rfl ?_
        refine XS.iload X61.here hx rfl (hb hby at_241) rfl ?_
        refine XS.icmpNo X61.here hx rfl (hb hby at_243) rfl (teq (by decide : (0 : Int32) = (0 : Int32))).2 ?_
        refine XS.iload X61.here hx rfl (hb hby at_246) rfl ?_
        show Steps p.tables e below (T61.setTop (mkF m 248 #[.val (.int p1), .val (.int p2), .val (.int p3), .val (.int p4), .val (.int p5), .val (.ref b1), .val (.ref b8), .val (.int (0 : Int32)), .val .null, .val (.ref sa17), .val (.ref a39), .val (.ref b42), .val (.int (0 : Int32)), .val (.int (0 : Int32)), .val (.int (0 : Int32)), .val (.ref fa59), .val (.int (0 : Int32))] [(.int (0 : Int32))])) _
        refine XS.ifNo X61.here hx rfl (hb hby at_248) rfl ((if0 _ _).trans (teq (by decide : (0 : Int32) = (0 : Int32))).2) ?_
        refine XS.iconst X61.here hx rfl (hb hby at_251) ?_
        refine XS.goto X61.here hx rfl (pc0 := 252) (pc' := 256) rfl (hb hby at_252) (by decide) (by decide) ?_
        exact k
      obtain ⟨fs, hrt, hrun, hended, hRW⟩ := X61.leaveW hS (by rw [e61]; exact hk) (v := some (.int (1 : Int32))) (fun h => by rw [Bd.returns] at h; cases h)
      refine ⟨_, _, g62 _ ?_, hrun, hended, _, _, rfl, ?_, ?_, hRW.1, hRW.2.1, hRW.2.2.1, hRW.2.2.2.mono (by decide) (by decide)⟩
      · show Steps p.tables e below (T61.setTop (mkF m 256 #[.val (.int p1), .val (.int p2), .val (.int p3), .val (.int p4), .val (.int p5), .val (.ref b1), .val (.ref b8), .val (.int (0 : Int32)), .val .null, .val (.ref sa17), .val (.ref a39), .val (.ref b42), .val (.int (0 : Int32)), .val (.int (0 : Int32)), .val (.int (0 : Int32)), .val (.ref fa59), .val (.int (0 : Int32))] [(.int (1 : Int32))])) _
        exact retN X61 hx (t := .boolean) Bd.returns (by simp) (hb hby at_256) hrt
      · show own_Q_rm0 Z p1 p2 p3 p4 p5 cs wf h0 n0 _ T61.heap _
        rw [e61]
        exact ⟨rfl, N61⟩
      · rw [hh]
        show CHr Z own_EL s.vm h0 T61.vm T61.heap
        rw [e61]
        exact hC.trans (CHv.at X61 hZ (own_EW hw) hC.1)
  · skip
    obtain ⟨T63, h63, X63, e63, E63, A63, D63, -, st63⟩ := newO X11 hx hZ hown (own_w hw 1 rfl) (own_w hw 2 rfl) (own_w hw 3 rfl) rfl (g := (mkF m 59 #[.val (.int p1), .val (.int p2), .val (.int p3), .val (.int p4), .val (.int p5), .val (.ref b1), .val (.ref b8), .val (.int (1 : Int32)), .unset, .unset, .unset, .unset, .unset, .unset, .unset, .unset, .unset] [])) rfl (hb hby at_59) (by decide) (by decide)
    obtain ⟨b63, q_b63⟩ : ∃ z, z = T11.heap.size := ⟨_, rfl⟩
    rw [← q_b63] at A63 D63 st63
    have sz_b63 : h0.size ≤ b63 := Nat.le_trans (Nat.le_trans (Nat.le_trans (Nat.le_trans (Nat.le_trans E1.1 (Keep.of_wr W4).1) (Keep.of_wr W7).1) E8.1) K11.1) (Nat.le_of_eq q_b63.symm)
    have gz_b63 : n0 ≤ b63 := Nat.le_trans Z0 sz_b63
    have f64 := (f9.keep K11 (ninS ne_b1_b8 nin0))
    have ne_b1_b63 : b1 ≠ b63 := Nat.ne_of_lt (Nat.lt_of_lt_of_le f64.lt (Nat.le_of_eq q_b63.symm))
    have ne_b8_b63 : b8 ≠ b63 := Nat.ne_of_lt (Nat.lt_of_lt_of_le Qe11.lt (Nat.le_of_eq q_b63.symm))
    have ne_rb11_b63 : rb11 ≠ b63 := Nat.ne_of_lt (Nat.lt_of_lt_of_le Va11.lt (Nat.le_of_eq q_b63.symm))
    have sf0_b63 := Safe.ext E63 hC.1 (Safe.new (Nat.le_of_eq q_b63.symm))
    have sf_b8 := Safe.ext E63 hC.1 sf_b8
    have sf_rb11 := Safe.ext E63 hC.1 sf_rb11
    have hC := hC.trans (CHr.ext E63 hC.1)
    have hk := Nat.le_trans hk E63.1
    have sf_b63 := sf0_b63
    have F63_coder : Fld Z h63 b63 "java/lang/String" "coder" "B" (.int (0 : Int32)) := D63 (Or.inr (own_w hw 27 rfl)) (ty := .byte) (by decide)
    have F63_value : Fld Z h63 b63 "java/lang/String" "value" "[B" .null := D63 (Or.inr (own_w hw 29 rfl)) (ty := (.array .byte)) (by decide)
    obtain ⟨T65, h65, k65, X65, e65, E65, A65, st65⟩ := newP X63 hx hZ (own_w hw 0 rfl) e63 (g := (mkF m 64 #[.val (.int p1), .val (.int p2), .val (.int p3), .val (.int p4), .val (.int p5), .val (.ref b1), .val (.ref b8), .val (.int (1 : Int32)), .unset, .unset, .unset, .unset, .unset, .unset, .unset, .unset, .unset] [(.int (0 : Int32)), (.ref b63), (.ref b63)])) rfl (hb hby at_64) rfl (by decide) (cap := 0) (by decide) (by decide) (by decide) (by decide)
    obtain ⟨b65, q_b65⟩ : ∃ z, z = h63.size := ⟨_, rfl⟩
    rw [← q_b65] at A65 st65
    have sz_b65 : h0.size ≤ b65 := Nat.le_trans (Nat.le_trans (Nat.le_trans (Nat.le_trans (Nat.le_trans (Nat.le_trans E1.1 (Keep.of_wr W4).1) (Keep.of_wr W7).1) E8.1) K11.1) E63.1) (Nat.le_of_eq q_b65.symm)
    have gz_b65 : n0 ≤ b65 := Nat.le_trans Z0 sz_b65
    have f66 := (f64.ext E63)
    have ne_b1_b65 : b1 ≠ b65 := Nat.ne_of_lt (Nat.lt_of_lt_of_le f66.lt (Nat.le_of_eq q_b65.symm))
    have ne_b63_b65 : b63 ≠ b65 := Nat.ne_of_lt (Nat.lt_of_lt_of_le A63.lt (Nat.le_of_eq q_b65.symm))
    have f67 := (Qe11.ext E63)
    have ne_b8_b65 : b8 ≠ b65 := Nat.ne_of_lt (Nat.lt_of_lt_of_le f67.lt (Nat.le_of_eq q_b65.symm))
    have f68 := (Va11.ext E63)
    have ne_rb11_b65 : rb11 ≠ b65 := Nat.ne_of_lt (Nat.lt_of_lt_of_le f68.lt (Nat.le_of_eq q_b65.symm))
    have V65 : Arv Z h65 b65 k65 .char (0 : Int32) [] (.int (0 : Int32)) := (Arv.new A65 (by decide)).pad (pad_rep [] (.int (0 : Int32)) 0)
    have sf_b8 := Safe.ext E65 hC.1 sf_b8
    have sf_rb11 := Safe.ext E65 hC.1 sf_rb11
    have sf_b63 := Safe.ext E65 hC.1 sf_b63
    have hC := hC.trans (CHr.ext E65 hC.1)
    have hk := Nat.le_trans hk E65.1
    obtain ⟨LL69, XL69, NL69⟩ : ∃ LL : List Loc, Stand p l e room_1 (s.setVm s.vm) m #[(.int p1), (.int p2), (.int p3), (.int p4), (.int p5)] below meth c T65 LL 5 12 ∧ Fr n0 LL := ⟨_, X65, N11⟩
    have f70 := (A63.ext E65)
    have f71 := (F63_coder.ext E65)
    have f72 := (F63_value.ext E65)
    have o73 : Old Z n0 h65 := (Old.ext (Old.ext (Old.keep o10 K11 (allS gz_b8 all0)) E63) E65)
    obtain ⟨_, _, ⟨T74, L74, k74, n74⟩, -, X74, hSn74, hgn74, ⟨Lc74, hQ74, l74, y74, z74, C74⟩, st74⟩ := XL69.specialBackS hx (y := own_y0) rfl hown (mvT hZ (own_w hw 4 rfl)) (mvT hZ (own_w hw 5 rfl)) (mvT hZ (own_w hw 6 rfl)) (by decide) (backOfSH (s := s) (vm0 := s.vm) (W := 1) (rmA17 l Z a0 hw [] b63 b65 k65  cs wf h65 n0 o73 G0 f70 f71 f72 V65 gz_b63 ) hZ (own_w hw 6 rfl) (own_w hw 3 rfl) (by decide) (by decide) (own_EW hw) hC.1) (g := (mkF m 66 #[.val (.int p1), .val (.int p2), .val (.int p3), .val (.int p4), .val (.int p5), .val (.ref b1), .val (.ref b8), .val (.int (1 : Int32)), .unset, .unset, .unset, .unset, .unset, .unset, .unset, .unset, .unset] [(.ref b65), (.ref b63), (.ref b63)])) rfl (by rw [hml]; rfl) (Steps.refl _) (a := b63) (argsL := [(.ref b65)]) (rest := [(.ref b63)]) (lenOf own_pd4 rfl) rfl (by show 2 * 0 + _ ≤ _; exact Nat.le_of_eq rfl) (hb hby at_66) (fun _ _ => ⟨rfl, e65, (by decide : 5 + 4 ≤ _), (by decide : 12 + 8 ≤ _)⟩)
    dsimp only [Pt.U, Pt.locs, Pt.cells, Pt.slots] at X74 l74 y74 z74 st74 hQ74 hSn74 hgn74 C74
    subst l74 y74 z74
    have hS := foldS hS (by rw [e65]; exact hk) hSn74 hgn74
    have hk := Nat.le_refl T74.heap.size
    have hZ : Z.Warmed39 T74.vm := State.Warmed39.trans (t := s.setVm s.vm) hZ hSn74.1
    have hown : T74.vm.findClass "com/example/momus/momus/cli/OptionTakesValuePinLaw" = some m.cls := by rw [hSn74.1.alike.findClass]; exact hown
    have f75 := (f67.ext E65)
    have sf_b8 := CHr.safe C74 f75.lt sf_b8
    have f76 := (f68.ext E65)
    have sf_rb11 := CHr.safe C74 f76.lt sf_rb11
    have sf_b63 := CHr.safe C74 f70.lt sf_b63
    have hC := hC.trans C74
    obtain ⟨rfl, Nq74, K74, rb74, rk74, Qe74, Qc74, Qv74, sl74, Va74⟩ := hQ74
    have N74 := Fr.app NL69 Nq74
    obtain ⟨LL77, XL77, NL77⟩ : ∃ LL : List Loc, Stand p l e room_1 (s.setVm T74.vm) m #[(.int p1), (.int p2), (.int p3), (.int p4), (.int p5)] below meth c T74 LL 9 20 ∧ Fr n0 LL := ⟨_, X74, N74⟩
    obtain ⟨v3, hv_v3⟩ : ∃ z : Int32, z = ((p4 &&& (255 : Int32)).toUInt32.toUInt16.toUInt32.toInt32) := ⟨_, rfl⟩
    have g78 : ∀ t, Steps p.tables e below (T74.setTop (mkF m 136 #[.val (.int p1), .val (.int p2), .val (.int p3), .val (.int p4), .val (.int p5), .val (.ref b1), .val (.ref b8), .val (.int (1 : Int32)), .val (.ref b63), .unset, .unset, .unset, .unset, .unset, .unset, .unset, .unset] [(.int v3)])) t → Steps p.tables e below (s₁.setTop (entryFrame m #[(.int p1), (.int p2), (.int p3), (.int p4), (.int p5)] maxLocals)) t := by
      intro t k
      rw [hv_v3] at k
      refine g13 t ?_
      show Steps p.tables e below (T11.setTop (mkF m 42 #[.val (.int p1), .val (.int p2), .val (.int p3), .val (.int p4), .val (.int p5), .val (.ref b1), .val (.ref b8), .val (.int (1 : Int32)), .unset, .unset, .unset, .unset, .unset, .unset, .unset, .unset, .unset] [])) _
      refine XS.iload X11.here hx rfl (hb hby at_42) rfl ?_
      refine XS.ifYes X11.here hx rfl (pc0 := 44) (pc' := 53) rfl (hb hby at_44) rfl ((if0 _ _).trans (feq (by decide : ¬ ((1 : Int32) = (0 : Int32)))).2) (by decide) (by decide) ?_
      refine XS.iload X11.here hx rfl (hb hby at_53) rfl ?_
      refine XS.iconst X11.here hx rfl (hb hby at_55) ?_
      show Steps p.tables e below (T11.setTop (mkF m 56 #[.val (.int p1), .val (.int p2), .val (.int p3), .val (.int p4), .val (.int p5), .val (.ref b1), .val (.ref b8), .val (.int (1 : Int32)), .unset, .unset, .unset, .unset, .unset, .unset, .unset, .unset, .unset] [(.int (1 : Int32)), (.int (1 : Int32))])) _
      refine XS.icmpNo X11.here hx rfl (hb hby at_56) rfl (teq (by decide : (1 : Int32) = (1 : Int32))).2 ?_
      refine st63 _ ?_
      refine XS.dup X63.here hx rfl (hb hby at_62) rfl rfl ?_
      refine XS.iconst X63.here hx rfl (hb hby at_63) ?_
      show Steps p.tables e below (T63.setTop (mkF m 64 #[.val (.int p1), .val (.int p2), .val (.int p3), .val (.int p4), .val (.int p5), .val (.ref b1), .val (.ref b8), .val (.int (1 : Int32)), .unset, .unset, .unset, .unset, .unset, .unset, .unset, .unset, .unset] [(.int (0 : Int32)), (.ref b63), (.ref b63)])) _
      refine st65 _ ?_
      refine st74.trans ?_
      refine XS.astore XL77.here hx rfl (hb hby at_69) rfl rfl (l' := #[.val (.int p1), .val (.int p2), .val (.int p3), .val (.int p4), .val (.int p5), .val (.ref b1), .val (.ref b8), .val (.int (1 : Int32)), .val (.ref b63), .unset, .unset, .unset, .unset, .unset, .unset, .unset, .unset]) rfl ?_
      refine XS.goto XL77.here hx rfl (pc0 := 71) (pc' := 130) rfl (hb hby at_71) (by decide) (by decide) ?_
      show Steps p.tables e below (T74.setTop (mkF m 130 #[.val (.int p1), .val (.int p2), .val (.int p3), .val (.int p4), .val (.int p5), .val (.ref b1), .val (.ref b8), .val (.int (1 : Int32)), .val (.ref b63), .unset, .unset, .unset, .unset, .unset, .unset, .unset, .unset] [])) _
      refine XS.iloadN XL77.here hx rfl (hb hby at_130) rfl ?_
      refine XS.sipush XL77.here hx rfl (hb hby at_131) ?_
      show Steps p.tables e below (T74.setTop (mkF m 134 #[.val (.int p1), .val (.int p2), .val (.int p3), .val (.int p4), .val (.int p5), .val (.ref b1), .val (.ref b8), .val (.int (1 : Int32)), .val (.ref b63), .unset, .unset, .unset, .unset, .unset, .unset, .unset, .unset] [(.int (255 : Int32)), (.int p4)])) _
      refine XS.iand XL77.here hx rfl (hb hby at_134) rfl ?_
      show Steps p.tables e below (T74.setTop (mkF m 135 #[.val (.int p1), .val (.int p2), .val (.int p3), .val (.int p4), .val (.int p5), .val (.ref b1), .val (.ref b8), .val (.int (1 : Int32)), .val (.ref b63), .unset, .unset, .unset, .unset, .unset, .unset, .unset, .unset] [(.int (p4 &&& (255 : Int32)))])) _
      refine XS.i2c XL77.here hx rfl (hb hby at_135) rfl ?_
      exact k
    have o79 : Old Z n0 T74.heap := (Old.keep o73 K74 (allS gz_b63 all0))
    obtain ⟨_, _, ⟨T80, L80, k80, n80⟩, -, X80, ⟨Lc80, hQ80, l80, y80, z80⟩, st80⟩ := Jvm.LawKit.callS XL77 hx (y := own_y5) hown (mvT hZ (own_w hw 30 rfl)) (mvT hZ (own_w hw 31 rfl)) (mvT hZ (own_w hw 3 rfl)) (mvT hZ (own_w hw 32 rfl)) (by decide) (backOf (W := 0) (rmA5 l Z a0 hw [] (v3)  cs wf T74.heap n0 o79 G0   (own_chd _ _ hv_v3)) hZ (own_w hw 32 rfl) (own_w hw 3 rfl) (by decide) (by decide)) (g := (mkF m 136 #[.val (.int p1), .val (.int p2), .val (.int p3), .val (.int p4), .val (.int p5), .val (.ref b1), .val (.ref b8), .val (.int (1 : Int32)), .val (.ref b63), .unset, .unset, .unset, .unset, .unset, .unset, .unset, .unset] [(.int v3)])) rfl (by rw [hml]; rfl) (argsL := [(.int v3)]) (rest := []) (lenOf own_pd8 rfl) rfl (by show 2 * 0 + _ ≤ _; exact Nat.le_of_eq rfl) (hb hby at_136) (fun _ _ => ⟨rfl, rfl, (by decide : 9 + 2 ≤ _), (by decide : 20 + 5 ≤ _)⟩)
    dsimp only [Pt.U, Pt.locs, Pt.cells, Pt.slots] at X80 l80 y80 z80 st80 hQ80
    subst l80 y80 z80
    obtain ⟨sa80, sb80, sk80, sl80, rfl, Nq80, K80, hba80, hbb80, Qe80, Qc80, Qv80, Qa80⟩ := hQ80
    have hCo80 := hC.1
    have sf_b8 := Safe.keep K80 sf0 hC.1 sf_b8
    have sf_rb11 := Safe.keep K80 sf0 hC.1 sf_rb11
    have sf_b63 := Safe.keep K80 sf0 hC.1 sf_b63
    have hC := hC.trans (CHr.keep K80 sf0 hC.1)
    have hk := Nat.le_trans hk K80.1
    have N80 := Fr.app NL77 Nq80
    have sz_sa80 : h0.size ≤ sa80 := Nat.le_trans (Nat.le_trans (Nat.le_trans (Nat.le_trans (Nat.le_trans (Nat.le_trans (Nat.le_trans (Nat.le_trans E1.1 (Keep.of_wr W4).1) (Keep.of_wr W7).1) E8.1) K11.1) E63.1) E65.1) K74.1) hba80
    have gz_sa80 : n0 ≤ sa80 := Nat.le_trans Z0 sz_sa80
    have sf_sa80 := Safe.keep (EL := own_EL) K80 sf0 hCo80 (Safe.new hba80)
    have ne_b1_sa80 : b1 ≠ sa80 := Nat.ne_of_lt (Nat.lt_of_lt_of_le ((f66.ext E65).keep K74 (ninS ne_b1_b63 nin0)).lt hba80)
    have ne_b63_sa80 : b63 ≠ sa80 := Nat.ne_of_lt (Nat.lt_of_lt_of_le Qe74.lt hba80)
    have ne_b65_sa80 : b65 ≠ sa80 := Nat.ne_of_lt (Nat.lt_of_lt_of_le (V65.keep K74 (ninS (Ne.symm ne_b63_b65) nin0)).lt hba80)
    have ne_b8_sa80 : b8 ≠ sa80 := Nat.ne_of_lt (Nat.lt_of_lt_of_le (f75.keep K74).lt hba80)
    have ne_rb11_sa80 : rb11 ≠ sa80 := Nat.ne_of_lt (Nat.lt_of_lt_of_le (f76.keep K74 (ninS ne_rb11_b63 nin0)).lt hba80)
    have ne_rb74_sa80 : rb74 ≠ sa80 := Nat.ne_of_lt (Nat.lt_of_lt_of_le Va74.lt hba80)
    have sz_sb80 : h0.size ≤ sb80 := Nat.le_trans (Nat.le_trans (Nat.le_trans (Nat.le_trans (Nat.le_trans (Nat.le_trans (Nat.le_trans (Nat.le_trans E1.1 (Keep.of_wr W4).1) (Keep.of_wr W7).1) E8.1) K11.1) E63.1) E65.1) K74.1) hbb80
    have gz_sb80 : n0 ≤ sb80 := Nat.le_trans Z0 sz_sb80
    have sf_sb80 := Safe.keep (EL := own_EL) K80 sf0 hCo80 (Safe.new hbb80)
    have ne_b1_sb80 : b1 ≠ sb80 := Nat.ne_of_lt (Nat.lt_of_lt_of_le ((f66.ext E65).keep K74 (ninS ne_b1_b63 nin0)).lt hbb80)
    have ne_b63_sb80 : b63 ≠ sb80 := Nat.ne_of_lt (Nat.lt_of_lt_of_le Qe74.lt hbb80)
    have ne_b65_sb80 : b65 ≠ sb80 := Nat.ne_of_lt (Nat.lt_of_lt_of_le (V65.keep K74 (ninS (Ne.symm ne_b63_b65) nin0)).lt hbb80)
    have ne_b8_sb80 : b8 ≠ sb80 := Nat.ne_of_lt (Nat.lt_of_lt_of_le (f75.keep K74).lt hbb80)
    have ne_rb11_sb80 : rb11 ≠ sb80 := Nat.ne_of_lt (Nat.lt_of_lt_of_le (f76.keep K74 (ninS ne_rb11_b63 nin0)).lt hbb80)
    have ne_rb74_sb80 : rb74 ≠ sb80 := Nat.ne_of_lt (Nat.lt_of_lt_of_le Va74.lt hbb80)
    obtain ⟨bd, hv_bd⟩ : ∃ z : Int32, z = ((p5 >>> ((2 : Int32) &&& 31)) &&& (1 : Int32)) := ⟨_, rfl⟩
    have g81 : ∀ t, Steps p.tables e below (T80.setTop (mkF m 147 #[.val (.int p1), .val (.int p2), .val (.int p3), .val (.int p4), .val (.int p5), .val (.ref b1), .val (.ref b8), .val (.int (1 : Int32)), .val (.ref b63), .val (.ref sa80), .unset, .unset, .unset, .unset, .unset, .unset, .unset] [(.int bd)])) t → Steps p.tables e below (s₁.setTop (entryFrame m #[(.int p1), (.int p2), (.int p3), (.int p4), (.int p5)] maxLocals)) t := by
      intro t k
      rw [hv_bd] at k
      refine g78 t ?_
      show Steps p.tables e below (T74.setTop (mkF m 136 #[.val (.int p1), .val (.int p2), .val (.int p3), .val (.int p4), .val (.int p5), .val (.ref b1), .val (.ref b8), .val (.int (1 : Int32)), .val (.ref b63), .unset, .unset, .unset, .unset, .unset, .unset, .unset, .unset] [(.int v3)])) _
      refine st80 _ ?_
      refine XS.astore X80.here hx rfl (hb hby at_139) rfl rfl (l' := #[.val (.int p1), .val (.int p2), .val (.int p3), .val (.int p4), .val (.int p5), .val (.ref b1), .val (.ref b8), .val (.int (1 : Int32)), .val (.ref b63), .val (.ref sa80), .unset, .unset, .unset, .unset, .unset, .unset, .unset]) rfl ?_
      refine XS.iload X80.here hx rfl (hb hby at_141) rfl ?_
      refine XS.iconst X80.here hx rfl (hb hby at_143) ?_
      show Steps p.tables e below (T80.setTop (mkF m 144 #[.val (.int p1), .val (.int p2), .val (.int p3), .val (.int p4), .val (.int p5), .val (.ref b1), .val (.ref b8), .val (.int (1 : Int32)), .val (.ref b63), .val (.ref sa80), .unset, .unset, .unset, .unset, .unset, .unset, .unset] [(.int (2 : Int32)), (.int p5)])) _
      refine XS.ishr X80.here hx rfl (hb hby at_144) rfl ?_
      refine XS.iconst X80.here hx rfl (hb hby at_145) ?_
      show Steps p.tables e below (T80.setTop (mkF m 146 #[.val (.int p1), .val (.int p2), .val (.int p3), .val (.int p4), .val (.int p5), .val (.ref b1), .val (.ref b8), .val (.int (1 : Int32)), .val (.ref b63), .val (.ref sa80), .unset, .unset, .unset, .unset, .unset, .unset, .unset] [(.int (1 : Int32)), (.int (p5 >>> ((2 : Int32) &&& 31)))])) _
      refine XS.iand X80.here hx rfl (hb hby at_146) rfl ?_
      exact k
    by_cases hc82 : bd = (0 : Int32)
    · obtain ⟨T83, h83, X83, e83, E83, A83, D83, -, st83⟩ := newO X80 hx hZ hown (own_w hw 44 rfl) (own_w hw 45 rfl) (own_w hw 46 rfl) rfl (g := (mkF m 158 #[.val (.int p1), .val (.int p2), .val (.int p3), .val (.int p4), .val (.int p5), .val (.ref b1), .val (.ref b8), .val (.int (1 : Int32)), .val (.ref b63), .val (.ref sa80), .val .null, .unset, .unset, .unset, .unset, .unset, .unset] [])) rfl (hb hby at_158) (by decide) (by decide)
      obtain ⟨b83, q_b83⟩ : ∃ z, z = T80.heap.size := ⟨_, rfl⟩
      rw [← q_b83] at A83 D83 st83
      have sz_b83 : h0.size ≤ b83 := Nat.le_trans (Nat.le_trans (Nat.le_trans (Nat.le_trans (Nat.le_trans (Nat.le_trans (Nat.le_trans (Nat.le_trans (Nat.le_trans E1.1 (Keep.of_wr W4).1) (Keep.of_wr W7).1) E8.1) K11.1) E63.1) E65.1) K74.1) K80.1) (Nat.le_of_eq q_b83.symm)
      have gz_b83 : n0 ≤ b83 := Nat.le_trans Z0 sz_b83
      have f84 := (((f66.ext E65).keep K74 (ninS ne_b1_b63 nin0)).keep K80 nin0)
      have ne_b1_b83 : b1 ≠ b83 := Nat.ne_of_lt (Nat.lt_of_lt_of_le f84.lt (Nat.le_of_eq q_b83.symm))
      have f85 := (Qe74.keep K80)
      have ne_b63_b83 : b63 ≠ b83 := Nat.ne_of_lt (Nat.lt_of_lt_of_le f85.lt (Nat.le_of_eq q_b83.symm))
      have f86 := ((V65.keep K74 (ninS (Ne.symm ne_b63_b65) nin0)).keep K80 nin0)
      have ne_b65_b83 : b65 ≠ b83 := Nat.ne_of_lt (Nat.lt_of_lt_of_le f86.lt (Nat.le_of_eq q_b83.symm))
      have f87 := ((f75.keep K74).keep K80)
      have ne_b8_b83 : b8 ≠ b83 := Nat.ne_of_lt (Nat.lt_of_lt_of_le f87.lt (Nat.le_of_eq q_b83.symm))
      have f88 := ((f76.keep K74 (ninS ne_rb11_b63 nin0)).keep K80 nin0)
      have ne_rb11_b83 : rb11 ≠ b83 := Nat.ne_of_lt (Nat.lt_of_lt_of_le f88.lt (Nat.le_of_eq q_b83.symm))
      have f89 := (Va74.keep K80 nin0)
      have ne_rb74_b83 : rb74 ≠ b83 := Nat.ne_of_lt (Nat.lt_of_lt_of_le f89.lt (Nat.le_of_eq q_b83.symm))
      have ne_sa80_b83 : sa80 ≠ b83 := Nat.ne_of_lt (Nat.lt_of_lt_of_le Qe80.lt (Nat.le_of_eq q_b83.symm))
      have ne_sb80_b83 : sb80 ≠ b83 := Nat.ne_of_lt (Nat.lt_of_lt_of_le Qa80.lt (Nat.le_of_eq q_b83.symm))
      have sf_b8 := Safe.ext E83 hC.1 sf_b8
      have sf_rb11 := Safe.ext E83 hC.1 sf_rb11
      have sf_b63 := Safe.ext E83 hC.1 sf_b63
      have sf_sa80 := Safe.ext E83 hC.1 sf_sa80
      have sf_sb80 := Safe.ext E83 hC.1 sf_sb80
      have hC := hC.trans (CHr.ext E83 hC.1)
      have hk := Nat.le_trans hk E83.1
      have F83_name : Fld Z h83 b83 "com/example/momus/momus/cli/Option" "name" "Ljava/lang/String;" .null := D83 (Or.inr (own_w hw 57 rfl)) (ty := (.object "java/lang/String")) (by decide)
      have F83_argument : Fld Z h83 b83 "com/example/momus/momus/cli/Option" "argument" "Ljava/lang/String;" .null := D83 (Or.inr (own_w hw 59 rfl)) (ty := (.object "java/lang/String")) (by decide)
      have F83_description : Fld Z h83 b83 "com/example/momus/momus/cli/Option" "description" "Ljava/lang/String;" .null := D83 (Or.inr (own_w hw 61 rfl)) (ty := (.object "java/lang/String")) (by decide)
      have F83_byDefault : Fld Z h83 b83 "com/example/momus/momus/cli/Option" "byDefault" "Ljava/lang/String;" .null := D83 (Or.inr (own_w hw 63 rfl)) (ty := (.object "java/lang/String")) (by decide)
      have o90 : Old Z n0 h83 := (Old.ext (Old.keep o79 K80 all0) E83)
      obtain ⟨_, _, ⟨T91, L91, k91, n91⟩, -, X91, ⟨Lc91, hQ91, l91, y91, z91⟩, st91⟩ := X83.specialBack hx (y := own_y9) rfl hown (mvT hZ (own_w hw 47 rfl)) (mvT hZ (own_w hw 48 rfl)) (mvT hZ (own_w hw 49 rfl)) (by decide) (backOf (W := 1) (rmA19 l Z a0 hw [] b83 b8 b63 sa80  cs wf h83 n0 o90 G0 A83 F83_argument F83_byDefault F83_description F83_name gz_b83 ) hZ (own_w hw 49 rfl) (own_w hw 46 rfl) (by decide) (by decide)) (g := (mkF m 170 #[.val (.int p1), .val (.int p2), .val (.int p3), .val (.int p4), .val (.int p5), .val (.ref b1), .val (.ref b8), .val (.int (1 : Int32)), .val (.ref b63), .val (.ref sa80), .val .null, .unset, .unset, .unset, .unset, .unset, .unset] [.null, (.ref sa80), (.ref b63), (.ref b8), (.ref b83), (.ref b83)])) rfl (by rw [hml]; rfl) (Steps.refl _) (a := b83) (argsL := [(.ref b8), (.ref b63), (.ref sa80), .null]) (rest := [(.ref b83)]) (lenOf own_pd10 rfl) rfl (by show 2 * 0 + _ ≤ _; exact Nat.le_of_eq rfl) (hb hby at_170) (fun _ _ => ⟨rfl, e83, (by decide : 12 + 0 ≤ _), (by decide : 29 + 0 ≤ _)⟩)
      dsimp only [Pt.U, Pt.locs, Pt.cells, Pt.slots] at X91 l91 y91 z91 st91 hQ91
      subst l91 y91 z91
      obtain ⟨rfl, Nq91, K91, Q91_0, Q91_1, Q91_2⟩ := hQ91
      have qf91 := (sfS (EL := own_EL) (Safe.exa hZ.alike A83 (by decide) (by decide)) sf0)
      have hCo91 := hC.1
      have sf_b8 := Safe.keep K91 qf91 hC.1 sf_b8
      have sf_rb11 := Safe.keep K91 qf91 hC.1 sf_rb11
      have sf_b63 := Safe.keep K91 qf91 hC.1 sf_b63
      have sf_sa80 := Safe.keep K91 qf91 hC.1 sf_sa80
      have sf_sb80 := Safe.keep K91 qf91 hC.1 sf_sb80
      have hC := hC.trans (CHr.keep K91 qf91 hC.1)
      have hk := Nat.le_trans hk K91.1
      have N91 := Fr.app N80 Nq91
      have o92 : Old Z n0 T91.heap := (Old.keep o90 K91 (allS gz_b83 all0))
      obtain ⟨cq93, kq93, q93a, q93b, q93c⟩ := isOf hZ rfl Q91_0
      obtain ⟨_, _, ⟨T93, L93, k93, n93⟩, -, X93, ⟨Lc93, hQ93, l93, y93, z93⟩, st93⟩ := X91.virtualBack hx (y := own_y11) (z := own_y11) hown (mvT hZ (own_w hw 64 rfl)) (mvT hZ (own_w hw 65 rfl)) (notFace_of_selects (args := #[]) (mvT hZ (own_w hw 67 rfl))) (mvT hZ (own_w hw 67 rfl)) (mvT hZ (own_w hw 66 rfl)) (by decide) (backOf (W := 0) (rmA20 l Z a0 hw [] b83 b63  cs wf T91.heap n0 o92 G0 Q91_0 Q91_2  ) hZ (own_w hw 68 rfl) (own_w hw 46 rfl) (by decide) (by decide)) q93a q93c (g := (mkF m 177 #[.val (.int p1), .val (.int p2), .val (.int p3), .val (.int p4), .val (.int p5), .val (.ref b1), .val (.ref b8), .val (.int (1 : Int32)), .val (.ref b63), .val (.ref sa80), .val .null, .val (.ref b83), .unset, .unset, .unset, .unset, .unset] [(.ref b83)])) rfl (by rw [hml]; rfl) (Steps.refl _) (argsL := []) (rest := []) (lenOf own_pd11 rfl) rfl (by show 2 * 0 + _ ≤ _; exact Nat.le_of_eq rfl) (hb hby at_177) (fun _ _ => ⟨rfl, rfl, (by decide : 12 + 0 ≤ _), (by decide : 29 + 0 ≤ _)⟩)
      dsimp only [Pt.U, Pt.locs, Pt.cells, Pt.slots] at X93 l93 y93 z93 st93 hQ93
      subst l93 y93 z93
      obtain ⟨rfl, Nq93, e93⟩ := hQ93
      have N93 := Fr.app N91 Nq93
      obtain ⟨LL94, XL94, NL94⟩ : ∃ LL : List Loc, Stand p l e room_1 (s.setVm T74.vm) m #[(.int p1), (.int p2), (.int p3), (.int p4), (.int p5)] below meth c T93 LL 12 29 ∧ Fr n0 LL := ⟨_, X93, N93⟩
      have f95 := ((f85.ext E83).keep K91)
      have f96 := (((Qc74.keep K80 nin0).ext E83).keep K91 (ninS ne_b63_b83 nin0))
      have f97 := ((f89.ext E83).keep K91 (ninS ne_rb74_b83 nin0))
      have f98 := (((Qv74.keep K80 nin0).ext E83).keep K91 (ninS ne_b63_b83 nin0))
      have f99 := ((f87.ext E83).keep K91)
      have f100 := ((((((Qc11.ext E63).ext E65).keep K74 (ninS ne_b8_b63 nin0)).keep K80 nin0).ext E83).keep K91 (ninS ne_b8_b83 nin0))
      have f101 := ((f88.ext E83).keep K91 (ninS ne_rb11_b83 nin0))
      have f102 := ((((((Qv11.ext E63).ext E65).keep K74 (ninS ne_b8_b63 nin0)).keep K80 nin0).ext E83).keep K91 (ninS ne_b8_b83 nin0))
      obtain ⟨cq103, kq103, q103a, q103b, q103c⟩ := isOf hZ e93 Q91_0
      obtain ⟨_, _, ⟨T103, L103, k103, n103⟩, -, X103, hSn103, hgn103, ⟨Lc103, hQ103, l103, y103, z103, C103⟩, st103⟩ := XL94.virtualBackS hx (y := own_y12) (z := own_y12) hown (mvT hZ (own_w hw 69 rfl)) (mvT hZ (own_w hw 70 rfl)) (notFace_of_selects (args := #[]) (mvT hZ (own_w hw 72 rfl))) (mvT hZ (own_w hw 72 rfl)) (mvT hZ (own_w hw 71 rfl)) (by decide) (backOfSH (s := s) (vm0 := T74.vm) (W := 0) (rmA21 l Z a0 hw [] b83 b63 rb74 rk74 sl74 b8 rb11 rk11 sl11  cs wf T91.heap n0 o92 G0 Q91_0 f95 f96 f97 f98 Q91_2 f99 f100 f101 f102 Q91_1  ) hZ (own_w hw 73 rfl) (own_w hw 46 rfl) (by decide) (by decide) (own_EW hw) hC.1) q103a q103c (g := (mkF m 196 #[.val (.int p1), .val (.int p2), .val (.int p3), .val (.int p4), .val (.int p5), .val (.ref b1), .val (.ref b8), .val (.int (1 : Int32)), .val (.ref b63), .val (.ref sa80), .val .null, .val (.ref b83), .val (.int (1 : Int32)), .val (.int (1 : Int32)), .unset, .unset, .unset] [(.ref b83)])) rfl (by rw [hml]; rfl) (Steps.refl _) (argsL := []) (rest := []) (lenOf own_pd12 rfl) rfl (by show 2 * 0 + _ ≤ _; exact Nat.le_of_eq rfl) (hb hby at_196) (fun _ _ => ⟨rfl, e93, (by decide : 12 + 6 ≤ _), (by decide : 29 + 37 ≤ _)⟩)
      dsimp only [Pt.U, Pt.locs, Pt.cells, Pt.slots] at X103 l103 y103 z103 st103 hQ103 hSn103 hgn103 C103
      subst l103 y103 z103
      have hS := foldS hS (by rw [e93]; exact hk) hSn103 hgn103
      have hk := Nat.le_refl T103.heap.size
      have hZ : Z.Warmed39 T103.vm := State.Warmed39.trans (t := s.setVm T74.vm) hZ hSn103.1
      have hown : T103.vm.findClass "com/example/momus/momus/cli/OptionTakesValuePinLaw" = some m.cls := by rw [hSn103.1.alike.findClass]; exact hown
      have sf_b8 := CHr.safe C103 f99.lt sf_b8
      have sf_rb11 := CHr.safe C103 f101.lt sf_rb11
      have sf_b63 := CHr.safe C103 f95.lt sf_b63
      have f104 := ((Qe80.ext E83).keep K91)
      have sf_sa80 := CHr.safe C103 f104.lt sf_sa80
      have f105 := ((Qa80.ext E83).keep K91 (ninS ne_sb80_b83 nin0))
      have sf_sb80 := CHr.safe C103 f105.lt sf_sb80
      have hC := hC.trans C103
      obtain ⟨sa103, sb103, sk103, sl103, rfl, Nq103, K103, hba103, hbb103, Qe103, Qc103, Qv103, Qa103⟩ := hQ103
      have N103 := Fr.app NL94 Nq103
      obtain ⟨LL106, XL106, NL106⟩ : ∃ LL : List Loc, Stand p l e room_1 (s.setVm T103.vm) m #[(.int p1), (.int p2), (.int p3), (.int p4), (.int p5)] below meth c T103 LL 18 66 ∧ Fr n0 LL := ⟨_, X103, N103⟩
      have sz_sa103 : h0.size ≤ sa103 := Nat.le_trans (Nat.le_trans (Nat.le_trans (Nat.le_trans (Nat.le_trans (Nat.le_trans (Nat.le_trans (Nat.le_trans (Nat.le_trans (Nat.le_trans (Nat.le_trans E1.1 (Keep.of_wr W4).1) (Keep.of_wr W7).1) E8.1) K11.1) E63.1) E65.1) K74.1) K80.1) E83.1) K91.1) hba103
      have gz_sa103 : n0 ≤ sa103 := Nat.le_trans Z0 sz_sa103
      have ne_b1_sa103 : b1 ≠ sa103 := Nat.ne_of_lt (Nat.lt_of_lt_of_le ((f84.ext E83).keep K91 (ninS ne_b1_b83 nin0)).lt hba103)
      have ne_b63_sa103 : b63 ≠ sa103 := Nat.ne_of_lt (Nat.lt_of_lt_of_le f95.lt hba103)
      have ne_b65_sa103 : b65 ≠ sa103 := Nat.ne_of_lt (Nat.lt_of_lt_of_le ((f86.ext E83).keep K91 (ninS ne_b65_b83 nin0)).lt hba103)
      have ne_b8_sa103 : b8 ≠ sa103 := Nat.ne_of_lt (Nat.lt_of_lt_of_le f99.lt hba103)
      have ne_b83_sa103 : b83 ≠ sa103 := Nat.ne_of_lt (Nat.lt_of_lt_of_le Q91_0.lt hba103)
      have ne_rb11_sa103 : rb11 ≠ sa103 := Nat.ne_of_lt (Nat.lt_of_lt_of_le f101.lt hba103)
      have ne_rb74_sa103 : rb74 ≠ sa103 := Nat.ne_of_lt (Nat.lt_of_lt_of_le f97.lt hba103)
      have ne_sa80_sa103 : sa80 ≠ sa103 := Nat.ne_of_lt (Nat.lt_of_lt_of_le f104.lt hba103)
      have ne_sb80_sa103 : sb80 ≠ sa103 := Nat.ne_of_lt (Nat.lt_of_lt_of_le f105.lt hba103)
      have sz_sb103 : h0.size ≤ sb103 := Nat.le_trans (Nat.le_trans (Nat.le_trans (Nat.le_trans (Nat.le_trans (Nat.le_trans (Nat.le_trans (Nat.le_trans (Nat.le_trans (Nat.le_trans (Nat.le_trans E1.1 (Keep.of_wr W4).1) (Keep.of_wr W7).1) E8.1) K11.1) E63.1) E65.1) K74.1) K80.1) E83.1) K91.1) hbb103
      have gz_sb103 : n0 ≤ sb103 := Nat.le_trans Z0 sz_sb103
      have ne_b1_sb103 : b1 ≠ sb103 := Nat.ne_of_lt (Nat.lt_of_lt_of_le ((f84.ext E83).keep K91 (ninS ne_b1_b83 nin0)).lt hbb103)
      have ne_b63_sb103 : b63 ≠ sb103 := Nat.ne_of_lt (Nat.lt_of_lt_of_le f95.lt hbb103)
      have ne_b65_sb103 : b65 ≠ sb103 := Nat.ne_of_lt (Nat.lt_of_lt_of_le ((f86.ext E83).keep K91 (ninS ne_b65_b83 nin0)).lt hbb103)
      have ne_b8_sb103 : b8 ≠ sb103 := Nat.ne_of_lt (Nat.lt_of_lt_of_le f99.lt hbb103)
      have ne_b83_sb103 : b83 ≠ sb103 := Nat.ne_of_lt (Nat.lt_of_lt_of_le Q91_0.lt hbb103)
      have ne_rb11_sb103 : rb11 ≠ sb103 := Nat.ne_of_lt (Nat.lt_of_lt_of_le f101.lt hbb103)
      have ne_rb74_sb103 : rb74 ≠ sb103 := Nat.ne_of_lt (Nat.lt_of_lt_of_le f97.lt hbb103)
      have ne_sa80_sb103 : sa80 ≠ sb103 := Nat.ne_of_lt (Nat.lt_of_lt_of_le f104.lt hbb103)
      have ne_sb80_sb103 : sb80 ≠ sb103 := Nat.ne_of_lt (Nat.lt_of_lt_of_le f105.lt hbb103)
      have f107 := (f99.keep K103)
      have f108 := (f100.keep K103 nin0)
      have f109 := (f101.keep K103 nin0)
      have f110 := (f102.keep K103 nin0)
      have o111 : Old Z n0 T103.heap := (Old.keep o92 K103 all0)
      obtain ⟨cq112, kq112, q112a, q112b, q112c⟩ := isOf hZ rfl Qe103
      obtain ⟨_, _, ⟨T112, L112, k112, n112⟩, -, X112, ⟨Lc112, hQ112, l112, y112, z112⟩, st112⟩ := XL106.virtualBack hx (y := own_y13) (z := own_y13) hown (mvT hZ (own_w hw 74 rfl)) (mvT hZ (own_w hw 75 rfl)) (notFace_of_selects (args := #[]) (mvT hZ (own_w hw 77 rfl))) (mvT hZ (own_w hw 77 rfl)) (mvT hZ (own_w hw 76 rfl)) (by decide) (backOf (W := 0) (rmA48 l Z a0 hw [] sa103 sb103 sk103 sl103 b8 rb11 rk11 sl11  cs wf T103.heap n0 o111 G0 Qe103 Qc103 Qa103 Qv103 f107 f108 f109 f110  (Ne.symm ne_b8_sa103)) hZ (own_w hw 78 rfl) (own_w hw 3 rfl) (by decide) (by decide)) q112a q112c (g := (mkF m 201 #[.val (.int p1), .val (.int p2), .val (.int p3), .val (.int p4), .val (.int p5), .val (.ref b1), .val (.ref b8), .val (.int (1 : Int32)), .val (.ref b63), .val (.ref sa80), .val .null, .val (.ref b83), .val (.int (1 : Int32)), .val (.int (1 : Int32)), .unset, .unset, .unset] [(.ref b8), (.ref sa103)])) rfl (by rw [hml]; rfl) (Steps.refl _) (argsL := [(.ref b8)]) (rest := []) (lenOf own_pd13 rfl) rfl (by show 2 * 0 + _ ≤ _; exact Nat.le_of_eq rfl) (hb hby at_201) (fun _ _ => ⟨rfl, rfl, (by decide : 18 + 0 ≤ _), (by decide : 66 + 0 ≤ _)⟩)
      dsimp only [Pt.U, Pt.locs, Pt.cells, Pt.slots] at X112 l112 y112 z112 st112 hQ112
      subst l112 y112 z112
      obtain ⟨rfl, Nq112, e112⟩ := hQ112
      have N112 := Fr.app NL106 Nq112
      obtain ⟨_, _, ⟨T113, L113, k113, n113⟩, -, X113, ⟨Lc113, hQ113, l113, y113, z113⟩, st113⟩ := Jvm.LawKit.callS X112 hx (y := own_y14) hown (mvT hZ (own_w hw 79 rfl)) (mvT hZ (own_w hw 80 rfl)) (mvT hZ (own_w hw 46 rfl)) (mvT hZ (own_w hw 81 rfl)) (by decide) (backOf (W := 0) (rmA14 l Z a0 hw [] b8 sa80  cs wf T103.heap n0 o111 G0   ) hZ (own_w hw 81 rfl) (own_w hw 46 rfl) (by decide) (by decide)) (g := (mkF m 220 #[.val (.int p1), .val (.int p2), .val (.int p3), .val (.int p4), .val (.int p5), .val (.ref b1), .val (.ref b8), .val (.int (1 : Int32)), .val (.ref b63), .val (.ref sa80), .val .null, .val (.ref b83), .val (.int (1 : Int32)), .val (.int (1 : Int32)), .val (.int (1 : Int32)), .unset, .unset] [.null, (.ref sa80), (.ref b8)])) rfl (by rw [hml]; rfl) (argsL := [(.ref b8), (.ref sa80), .null]) (rest := []) (lenOf own_pd14 rfl) rfl (by show 2 * 0 + _ ≤ _; exact Nat.le_of_eq rfl) (hb hby at_220) (fun _ _ => ⟨rfl, e112, (by decide : 18 + 1 ≤ _), (by decide : 66 + 4 ≤ _)⟩)
      dsimp only [Pt.U, Pt.locs, Pt.cells, Pt.slots] at X113 l113 y113 z113 st113 hQ113
      subst l113 y113 z113
      obtain ⟨fa113, rfl, Nq113, K113, hb113, Qe113, Qg113⟩ := hQ113
      have hCo113 := hC.1
      have sf_b8 := Safe.keep K113 sf0 hC.1 sf_b8
      have sf_rb11 := Safe.keep K113 sf0 hC.1 sf_rb11
      have sf_b63 := Safe.keep K113 sf0 hC.1 sf_b63
      have sf_sa80 := Safe.keep K113 sf0 hC.1 sf_sa80
      have sf_sb80 := Safe.keep K113 sf0 hC.1 sf_sb80
      have hC := hC.trans (CHr.keep K113 sf0 hC.1)
      have hk := Nat.le_trans hk K113.1
      have N113 := Fr.app N112 Nq113
      have sz_fa113 : h0.size ≤ fa113 := Nat.le_trans (Nat.le_trans (Nat.le_trans (Nat.le_trans (Nat.le_trans (Nat.le_trans (Nat.le_trans (Nat.le_trans (Nat.le_trans (Nat.le_trans (Nat.le_trans (Nat.le_trans E1.1 (Keep.of_wr W4).1) (Keep.of_wr W7).1) E8.1) K11.1) E63.1) E65.1) K74.1) K80.1) E83.1) K91.1) K103.1) hb113
      have gz_fa113 : n0 ≤ fa113 := Nat.le_trans Z0 sz_fa113
      have sf_fa113 := Safe.keep (EL := own_EL) K113 sf0 hCo113 (Safe.new hb113)
      have ne_b1_fa113 : b1 ≠ fa113 := Nat.ne_of_lt (Nat.lt_of_lt_of_le (((f84.ext E83).keep K91 (ninS ne_b1_b83 nin0)).keep K103 nin0).lt hb113)
      have ne_b63_fa113 : b63 ≠ fa113 := Nat.ne_of_lt (Nat.lt_of_lt_of_le (f95.keep K103).lt hb113)
      have ne_b65_fa113 : b65 ≠ fa113 := Nat.ne_of_lt (Nat.lt_of_lt_of_le (((f86.ext E83).keep K91 (ninS ne_b65_b83 nin0)).keep K103 nin0).lt hb113)
      have ne_b8_fa113 : b8 ≠ fa113 := Nat.ne_of_lt (Nat.lt_of_lt_of_le f107.lt hb113)
      have ne_b83_fa113 : b83 ≠ fa113 := Nat.ne_of_lt (Nat.lt_of_lt_of_le (Q91_0.keep K103).lt hb113)
      have ne_rb11_fa113 : rb11 ≠ fa113 := Nat.ne_of_lt (Nat.lt_of_lt_of_le f109.lt hb113)
      have ne_rb74_fa113 : rb74 ≠ fa113 := Nat.ne_of_lt (Nat.lt_of_lt_of_le (f97.keep K103 nin0).lt hb113)
      have ne_sa103_fa113 : sa103 ≠ fa113 := Nat.ne_of_lt (Nat.lt_of_lt_of_le Qe103.lt hb113)
      have ne_sa80_fa113 : sa80 ≠ fa113 := Nat.ne_of_lt (Nat.lt_of_lt_of_le (f104.keep K103).lt hb113)
      have ne_sb103_fa113 : sb103 ≠ fa113 := Nat.ne_of_lt (Nat.lt_of_lt_of_le Qa103.lt hb113)
      have ne_sb80_fa113 : sb80 ≠ fa113 := Nat.ne_of_lt (Nat.lt_of_lt_of_le (f105.keep K103 nin0).lt hb113)
      have o114 : Old Z n0 T113.heap := (Old.keep o111 K113 all0)
      obtain ⟨cq115, kq115, q115a, q115b, q115c⟩ := isOf hZ rfl Qe113
      obtain ⟨_, _, ⟨T115, L115, k115, n115⟩, -, X115, ⟨Lc115, hQ115, l115, y115, z115⟩, st115⟩ := X113.virtualBack hx (y := own_y11) (z := own_y11) hown (mvT hZ (own_w hw 64 rfl)) (mvT hZ (own_w hw 65 rfl)) (notFace_of_selects (args := #[]) (mvT hZ (own_w hw 67 rfl))) (mvT hZ (own_w hw 67 rfl)) (mvT hZ (own_w hw 66 rfl)) (by decide) (backOf (W := 0) (rmA11 l Z a0 hw [] fa113  cs wf T113.heap n0 o114 G0 Qe113 Qg113  ) hZ (own_w hw 68 rfl) (own_w hw 46 rfl) (by decide) (by decide)) q115a q115c (g := (mkF m 227 #[.val (.int p1), .val (.int p2), .val (.int p3), .val (.int p4), .val (.int p5), .val (.ref b1), .val (.ref b8), .val (.int (1 : Int32)), .val (.ref b63), .val (.ref sa80), .val .null, .val (.ref b83), .val (.int (1 : Int32)), .val (.int (1 : Int32)), .val (.int (1 : Int32)), .val (.ref fa113), .unset] [(.ref fa113)])) rfl (by rw [hml]; rfl) (Steps.refl _) (argsL := []) (rest := []) (lenOf own_pd11 rfl) rfl (by show 2 * 0 + _ ≤ _; exact Nat.le_of_eq rfl) (hb hby at_227) (fun _ _ => ⟨rfl, rfl, (by decide : 19 + 0 ≤ _), (by decide : 70 + 0 ≤ _)⟩)
      dsimp only [Pt.U, Pt.locs, Pt.cells, Pt.slots] at X115 l115 y115 z115 st115 hQ115
      subst l115 y115 z115
      obtain ⟨rfl, Nq115, e115⟩ := hQ115
      have N115 := Fr.app N113 Nq115
      have g116 : ∀ t, Steps p.tables e below (T115.setTop (mkF m 256 #[.val (.int p1), .val (.int p2), .val (.int p3), .val (.int p4), .val (.int p5), .val (.ref b1), .val (.ref b8), .val (.int (1 : Int32)), .val (.ref b63), .val (.ref sa80), .val .null, .val (.ref b83), .val (.int (1 : Int32)), .val (.int (1 : Int32)), .val (.int (1 : Int32)), .val (.ref fa113), .val (.int (0 : Int32))] [(.int (1 : Int32))])) t → Steps p.tables e below (s₁.setTop (entryFrame m #[(.int p1), (.int p2), (.int p3), (.int p4), (.int p5)] maxLocals)) t := by
        intro t k
        refine g81 t ?_
        show Steps p.tables e below (T80.setTop (mkF m 147 #[.val (.int p1), .val (.int p2), .val (.int p3), .val (.int p4), .val (.int p5), .val (.ref b1), .val (.ref b8), .val (.int (1 : Int32)), .val (.ref b63), .val (.ref sa80), .unset, .unset, .unset, .unset, .unset, .unset, .unset] [(.int bd)])) _
        refine XS.ifNo X80.here hx rfl (hb hby at_147) rfl ((if0 _ _).trans (teq hc82).2) ?_
        refine XS.aconstNull X80.here hx rfl (hb hby at_150) ?_
        refine XS.goto X80.here hx rfl (pc0 := 151) (pc' := 156) rfl (hb hby at_151) (by decide) (by decide) ?_
        refine XS.astore X80.here hx rfl (hb hby at_156) rfl rfl (l' := #[.val (.int p1), .val (.int p2), .val (.int p3), .val (.int p4), .val (.int p5), .val (.ref b1), .val (.ref b8), .val (.int (1 : Int32)), .val (.ref b63), .val (.ref sa80), .val .null, .unset, .unset, .unset, .unset, .unset, .unset]) rfl ?_
        show Steps p.tables e below (T80.setTop (mkF m 158 #[.val (.int p1), .val (.int p2), .val (.int p3), .val (.int p4), .val (.int p5), .val (.ref b1), .val (.ref b8), .val (.int (1 : Int32)), .val (.ref b63), .val (.ref sa80), .val .null, .unset, .unset, .unset, .unset, .unset, .unset] [])) _
        refine st83 _ ?_
        refine XS.dup X83.here hx rfl (hb hby at_161) rfl rfl ?_
        refine XS.aload X83.here hx rfl (hb hby at_162) rfl rfl ?_
        refine XS.aload X83.here hx rfl (hb hby at_164) rfl rfl ?_
        show Steps p.tables e below (T83.setTop (mkF m 166 #[.val (.int p1), .val (.int p2), .val (.int p3), .val (.int p4), .val (.int p5), .val (.ref b1), .val (.ref b8), .val (.int (1 : Int32)), .val (.ref b63), .val (.ref sa80), .val .null, .unset, .unset, .unset, .unset, .unset, .unset] [(.ref b63), (.ref b8), (.ref b83), (.ref b83)])) _
        refine XS.aload X83.here hx rfl (hb hby at_166) rfl rfl ?_
        refine XS.aload X83.here hx rfl (hb hby at_168) rfl rfl ?_
        refine st91.trans ?_
        refine XS.astore X91.here hx rfl (hb hby at_173) rfl rfl (l' := #[.val (.int p1), .val (.int p2), .val (.int p3), .val (.int p4), .val (.int p5), .val (.ref b1), .val (.ref b8), .val (.int (1 : Int32)), .val (.ref b63), .val (.ref sa80), .val .null, .val (.ref b83), .unset, .unset, .unset, .unset, .unset]) rfl ?_
        show Steps p.tables e below (T91.setTop (mkF m 175 #[.val (.int p1), .val (.int p2), .val (.int p3), .val (.int p4), .val (.int p5), .val (.ref b1), .val (.ref b8), .val (.int (1 : Int32)), .val (.ref b63), .val (.ref sa80), .val .null, .val (.ref b83), .unset, .unset, .unset, .unset, .unset] [])) _
        refine XS.aload X91.here hx rfl (hb hby at_175) rfl rfl ?_
        refine st93.trans ?_
        refine XS.istore X93.here hx rfl (hb hby at_180) rfl (l' := #[.val (.int p1), .val (.int p2), .val (.int p3), .val (.int p4), .val (.int p5), .val (.ref b1), .val (.ref b8), .val (.int (1 : Int32)), .val (.ref b63), .val (.ref sa80), .val .null, .val (.ref b83), .val (.int (1 : Int32)), .unset, .unset, .unset, .unset]) rfl ?_
        refine XS.iload X93.here hx rfl (hb hby at_182) rfl ?_
        show Steps p.tables e below (T93.setTop (mkF m 184 #[.val (.int p1), .val (.int p2), .val (.int p3), .val (.int p4), .val (.int p5), .val (.ref b1), .val (.ref b8), .val (.int (1 : Int32)), .val (.ref b63), .val (.ref sa80), .val .null, .val (.ref b83), .val (.int (1 : Int32)), .unset, .unset, .unset, .unset] [(.int (1 : Int32))])) _
        refine XS.ifNo X93.here hx rfl (hb hby at_184) rfl ((if0 _ _).trans (feq (by decide : ¬ ((1 : Int32) = (0 : Int32)))).1) ?_
        refine XS.iconst X93.here hx rfl (hb hby at_187) ?_
        refine XS.goto X93.here hx rfl (pc0 := 188) (pc' := 192) rfl (hb hby at_188) (by decide) (by decide) ?_
        refine XS.istore X93.here hx rfl (hb hby at_192) rfl (l' := #[.val (.int p1), .val (.int p2), .val (.int p3), .val (.int p4), .val (.int p5), .val (.ref b1), .val (.ref b8), .val (.int (1 : Int32)), .val (.ref b63), .val (.ref sa80), .val .null, .val (.ref b83), .val (.int (1 : Int32)), .val (.int (1 : Int32)), .unset, .unset, .unset]) rfl ?_
        show Steps p.tables e below (T93.setTop (mkF m 194 #[.val (.int p1), .val (.int p2), .val (.int p3), .val (.int p4), .val (.int p5), .val (.ref b1), .val (.ref b8), .val (.int (1 : Int32)), .val (.ref b63), .val (.ref sa80), .val .null, .val (.ref b83), .val (.int (1 : Int32)), .val (.int (1 : Int32)), .unset, .unset, .unset] [])) _
        refine XS.aload X93.here hx rfl (hb hby at_194) rfl rfl ?_
        refine st103.trans ?_
        refine XS.aload XL106.here hx rfl (hb hby at_199) rfl rfl ?_
        refine st112.trans ?_
        show Steps p.tables e below (T112.setTop (mkF m 204 #[.val (.int p1), .val (.int p2), .val (.int p3), .val (.int p4), .val (.int p5), .val (.ref b1), .val (.ref b8), .val (.int (1 : Int32)), .val (.ref b63), .val (.ref sa80), .val .null, .val (.ref b83), .val (.int (1 : Int32)), .val (.int (1 : Int32)), .unset, .unset, .unset] [(.int (0 : Int32))])) _
        refine XS.ifNo X112.here hx rfl (hb hby at_204) rfl ((if0 _ _).trans (teq (by decide : (0 : Int32) = (0 : Int32))).2) ?_
        refine XS.iconst X112.here hx rfl (hb hby at_207) ?_
        refine XS.goto X112.here hx rfl (pc0 := 208) (pc' := 212) rfl (hb hby at_208) (by decide) (by decide) ?_
        refine XS.istore X112.here hx rfl (hb hby at_212) rfl (l' := #[.val (.int p1), .val (.int p2), .val (.int p3), .val (.int p4), .val (.int p5), .val (.ref b1), .val (.ref b8), .val (.int (1 : Int32)), .val (.ref b63), .val (.ref sa80), .val .null, .val (.ref b83), .val (.int (1 : Int32)), .val (.int (1 : Int32)), .val (.int (1 : Int32)), .unset, .unset]) rfl ?_
        show Steps p.tables e below (T112.setTop (mkF m 214 #[.val (.int p1), .val (.int p2), .val (.int p3), .val (.int p4), .val (.int p5), .val (.ref b1), .val (.ref b8), .val (.int (1 : Int32)), .val (.ref b63), .val (.ref sa80), .val .null, .val (.ref b83), .val (.int (1 : Int32)), .val (.int (1 : Int32)), .val (.int (1 : Int32)), .unset, .unset] [])) _
        refine XS.aload X112.here hx rfl (hb hby at_214) rfl rfl ?_
        refine XS.aload X112.here hx rfl (hb hby at_216) rfl rfl ?_
        refine XS.aload X112.here hx rfl (hb hby at_218) rfl rfl ?_
        refine st113 _ ?_
        show Steps p.tables e below (T113.setTop (mkF m 223 #[.val (.int p1), .val (.int p2), .val (.int p3), .val (.int p4), .val (.int p5), .val (.ref b1), .val (.ref b8), .val (.int (1 : Int32)), .val (.ref b63), .val (.ref sa80), .val .null, .val (.ref b83), .val (.int (1 : Int32)), .val (.int (1 : Int32)), .val (.int (1 : Int32)), .unset, .unset] [(.ref fa113)])) _
        refine XS.astore X113.here hx rfl (hb hby at_223) rfl rfl (l' := #[.val (.int p1), .val (.int p2), .val (.int p3), .val (.int p4), .val (.int p5), .val (.ref b1), .val (.ref b8), .val (.int (1 : Int32)), .val (.ref b63), .val (.ref sa80), .val .null, .val (.ref b83), .val (.int (1 : Int32)), .val (.int (1 : Int32)), .val (.int (1 : Int32)), .val (.ref fa113), .unset]) rfl ?_
        refine XS.aload X113.here hx rfl (hb hby at_225) rfl rfl ?_
        refine st115.trans ?_
        refine XS.istore X115.here hx rfl (hb hby at_230) rfl (l' := #[.val (.int p1), .val (.int p2), .val (.int p3), .val (.int p4), .val (.int p5), .val (.ref b1), .val (.ref b8), .val (.int (1 : Int32)), .val (.ref b63), .val (.ref sa80), .val .null, .val (.ref b83), .val (.int (1 : Int32)), .val (.int (1 : Int32)), .val (.int (1 : Int32)), .val (.ref fa113), .val (.int (0 : Int32))]) rfl ?_
        show Steps p.tables e below (T115.setTop (mkF m 232 #[.val (.int p1), .val (.int p2), .val (.int p3), .val (.int p4), .val (.int p5), .val (.ref b1), .val (.ref b8), .val (.int (1 : Int32)), .val (.ref b63), .val (.ref sa80), .val .null, .val (.ref b83), .val (.int (1 : Int32)), .val (.int (1 : Int32)), .val (.int (1 : Int32)), .val (.ref fa113), .val (.int (0 : Int32))] [])) _
        refine XS.iload X115.here hx rfl (hb hby at_232) rfl ?_
        refine XS.iload X115.here hx rfl (hb hby at_234) rfl ?_
        refine XS.icmpNo X115.here hx rfl (hb hby at_236) rfl (teq (by decide : (1 : Int32) = (1 : Int32))).2 ?_
        refine XS.iload X115.here hx rfl (hb hby at_239) rfl ?_
        show Steps p.tables e below (T115.setTop (mkF m 241 #[.val (.int p1), .val (.int p2), .val (.int p3), .val (.int p4), .val (.int p5), .val (.ref b1), .val (.ref b8), .val (.int (1 : Int32)), .val (.ref b63), .val (.ref sa80), .val .null, .val (.ref b83), .val (.int (1 : Int32)), .val (.int (1 : Int32)), .val (.int (1 : Int32)), .val (.ref fa113), .val (.int (0 : Int32))] [(.int (1 : Int32))])) _
        refine XS.iload X115.here hx rfl (hb hby at_241) rfl ?_
        refine XS.icmpNo X115.here hx rfl (hb hby at_243) rfl (teq (by decide : (1 : Int32) = (1 : Int32))).2 ?_
        refine XS.iload X115.here hx rfl (hb hby at_246) rfl ?_
        refine XS.ifNo X115.here hx rfl (hb hby at_248) rfl ((if0 _ _).trans (teq (by decide : (0 : Int32) = (0 : Int32))).2) ?_
        show Steps p.tables e below (T115.setTop (mkF m 251 #[.val (.int p1), .val (.int p2), .val (.int p3), .val (.int p4), .val (.int p5), .val (.ref b1), .val (.ref b8), .val (.int (1 : Int32)), .val (.ref b63), .val (.ref sa80), .val .null, .val (.ref b83), .val (.int (1 : Int32)), .val (.int (1 : Int32)), .val (.int (1 : Int32)), .val (.ref fa113), .val (.int (0 : Int32))] [])) _
        refine XS.iconst X115.here hx rfl (hb hby at_251) ?_
        refine XS.goto X115.here hx rfl (pc0 := 252) (pc' := 256) rfl (hb hby at_252) (by decide) (by decide) ?_
        exact k
      obtain ⟨fs, hrt, hrun, hended, hRW⟩ := X115.leaveW hS (by rw [e115]; exact hk) (v := some (.int (1 : Int32))) (fun h => by rw [Bd.returns] at h; cases h)
      refine ⟨_, _, g116 _ ?_, hrun, hended, _, _, rfl, ?_, ?_, hRW.1, hRW.2.1, hRW.2.2.1, hRW.2.2.2.mono (by decide) (by decide)⟩
      · show Steps p.tables e below (T115.setTop (mkF m 256 #[.val (.int p1), .val (.int p2), .val (.int p3), .val (.int p4), .val (.int p5), .val (.ref b1), .val (.ref b8), .val (.int (1 : Int32)), .val (.ref b63), .val (.ref sa80), .val .null, .val (.ref b83), .val (.int (1 : Int32)), .val (.int (1 : Int32)), .val (.int (1 : Int32)), .val (.ref fa113), .val (.int (0 : Int32))] [(.int (1 : Int32))])) _
        exact retN X115 hx (t := .boolean) Bd.returns (by simp) (hb hby at_256) hrt
      · show own_Q_rm0 Z p1 p2 p3 p4 p5 cs wf h0 n0 _ T115.heap _
        rw [e115]
        exact ⟨rfl, N115⟩
      · rw [hh]
        show CHr Z own_EL s.vm h0 T115.vm T115.heap
        rw [e115]
        exact hC.trans (CHv.at X115 hZ (own_EW hw) hC.1)
    · obtain ⟨a117, T117, h117, k117, X117, e117, E117, hS, hk, hZ, hown, C117, -, st117⟩ := ldcOH (s := s) (vm0 := T74.vm) X80 hx hZ hown (own_w hw 84 rfl) (own_wS hw) rfl hS hk (own_EW hw) hC.1 (g := (mkF m 154 #[.val (.int p1), .val (.int p2), .val (.int p3), .val (.int p4), .val (.int p5), .val (.ref b1), .val (.ref b8), .val (.int (1 : Int32)), .val (.ref b63), .val (.ref sa80), .unset, .unset, .unset, .unset, .unset, .unset, .unset] [])) rfl (hb hby at_154) (n := 4) (by decide) (by decide) (by decide) (by decide)
      have f118 := ((f75.keep K74).keep K80)
      have sf_b8 := CHr.safe C117 f118.lt sf_b8
      have f119 := ((f76.keep K74 (ninS ne_rb11_b63 nin0)).keep K80 nin0)
      have sf_rb11 := CHr.safe C117 f119.lt sf_rb11
      have f120 := (Qe74.keep K80)
      have sf_b63 := CHr.safe C117 f120.lt sf_b63
      have sf_sa80 := CHr.safe C117 Qe80.lt sf_sa80
      have sf_sb80 := CHr.safe C117 Qa80.lt sf_sb80
      have hC := hC.trans C117
      obtain ⟨T121, h121, X121, e121, E121, A121, D121, -, st121⟩ := newO X117 hx hZ hown (own_w hw 44 rfl) (own_w hw 45 rfl) (own_w hw 46 rfl) e117 (g := (mkF m 158 #[.val (.int p1), .val (.int p2), .val (.int p3), .val (.int p4), .val (.int p5), .val (.ref b1), .val (.ref b8), .val (.int (1 : Int32)), .val (.ref b63), .val (.ref sa80), .val (.ref a117), .unset, .unset, .unset, .unset, .unset, .unset] [])) rfl (hb hby at_158) (by decide) (by decide)
      obtain ⟨b121, q_b121⟩ : ∃ z, z = h117.size := ⟨_, rfl⟩
      rw [← q_b121] at A121 D121 st121
      have sz_b121 : h0.size ≤ b121 := Nat.le_trans (Nat.le_trans (Nat.le_trans (Nat.le_trans (Nat.le_trans (Nat.le_trans (Nat.le_trans (Nat.le_trans (Nat.le_trans (Nat.le_trans E1.1 (Keep.of_wr W4).1) (Keep.of_wr W7).1) E8.1) K11.1) E63.1) E65.1) K74.1) K80.1) E117.1) (Nat.le_of_eq q_b121.symm)
      have gz_b121 : n0 ≤ b121 := Nat.le_trans Z0 sz_b121
      have f122 := ((((f66.ext E65).keep K74 (ninS ne_b1_b63 nin0)).keep K80 nin0).ext E117)
      have ne_b1_b121 : b1 ≠ b121 := Nat.ne_of_lt (Nat.lt_of_lt_of_le f122.lt (Nat.le_of_eq q_b121.symm))
      have f123 := (f120.ext E117)
      have ne_b63_b121 : b63 ≠ b121 := Nat.ne_of_lt (Nat.lt_of_lt_of_le f123.lt (Nat.le_of_eq q_b121.symm))
      have f124 := (((V65.keep K74 (ninS (Ne.symm ne_b63_b65) nin0)).keep K80 nin0).ext E117)
      have ne_b65_b121 : b65 ≠ b121 := Nat.ne_of_lt (Nat.lt_of_lt_of_le f124.lt (Nat.le_of_eq q_b121.symm))
      have f125 := (f118.ext E117)
      have ne_b8_b121 : b8 ≠ b121 := Nat.ne_of_lt (Nat.lt_of_lt_of_le f125.lt (Nat.le_of_eq q_b121.symm))
      have f126 := (f119.ext E117)
      have ne_rb11_b121 : rb11 ≠ b121 := Nat.ne_of_lt (Nat.lt_of_lt_of_le f126.lt (Nat.le_of_eq q_b121.symm))
      have f127 := ((Va74.keep K80 nin0).ext E117)
      have ne_rb74_b121 : rb74 ≠ b121 := Nat.ne_of_lt (Nat.lt_of_lt_of_le f127.lt (Nat.le_of_eq q_b121.symm))
      have f128 := (Qe80.ext E117)
      have ne_sa80_b121 : sa80 ≠ b121 := Nat.ne_of_lt (Nat.lt_of_lt_of_le f128.lt (Nat.le_of_eq q_b121.symm))
      have f129 := (Qa80.ext E117)
      have ne_sb80_b121 : sb80 ≠ b121 := Nat.ne_of_lt (Nat.lt_of_lt_of_le f129.lt (Nat.le_of_eq q_b121.symm))
      have sf_b8 := Safe.ext E121 hC.1 sf_b8
      have sf_rb11 := Safe.ext E121 hC.1 sf_rb11
      have sf_b63 := Safe.ext E121 hC.1 sf_b63
      have sf_sa80 := Safe.ext E121 hC.1 sf_sa80
      have sf_sb80 := Safe.ext E121 hC.1 sf_sb80
      have hC := hC.trans (CHr.ext E121 hC.1)
      have hk := Nat.le_trans hk E121.1
      have F121_name : Fld Z h121 b121 "com/example/momus/momus/cli/Option" "name" "Ljava/lang/String;" .null := D121 (Or.inr (own_w hw 57 rfl)) (ty := (.object "java/lang/String")) (by decide)
      have F121_argument : Fld Z h121 b121 "com/example/momus/momus/cli/Option" "argument" "Ljava/lang/String;" .null := D121 (Or.inr (own_w hw 59 rfl)) (ty := (.object "java/lang/String")) (by decide)
      have F121_description : Fld Z h121 b121 "com/example/momus/momus/cli/Option" "description" "Ljava/lang/String;" .null := D121 (Or.inr (own_w hw 61 rfl)) (ty := (.object "java/lang/String")) (by decide)
      have F121_byDefault : Fld Z h121 b121 "com/example/momus/momus/cli/Option" "byDefault" "Ljava/lang/String;" .null := D121 (Or.inr (own_w hw 63 rfl)) (ty := (.object "java/lang/String")) (by decide)
      have o130 : Old Z n0 h121 := (Old.ext (Old.ext (Old.keep o79 K80 all0) E117) E121)
      obtain ⟨_, _, ⟨T131, L131, k131, n131⟩, -, X131, ⟨Lc131, hQ131, l131, y131, z131⟩, st131⟩ := X121.specialBack hx (y := own_y9) rfl hown (mvT hZ (own_w hw 47 rfl)) (mvT hZ (own_w hw 48 rfl)) (mvT hZ (own_w hw 49 rfl)) (by decide) (backOf (W := 1) (rmA50 l Z a0 hw [] b121 b8 b63 sa80 a117  cs wf h121 n0 o130 G0 A121 F121_argument F121_byDefault F121_description F121_name gz_b121 ) hZ (own_w hw 49 rfl) (own_w hw 46 rfl) (by decide) (by decide)) (g := (mkF m 170 #[.val (.int p1), .val (.int p2), .val (.int p3), .val (.int p4), .val (.int p5), .val (.ref b1), .val (.ref b8), .val (.int (1 : Int32)), .val (.ref b63), .val (.ref sa80), .val (.ref a117), .unset, .unset, .unset, .unset, .unset, .unset] [(.ref a117), (.ref sa80), (.ref b63), (.ref b8), (.ref b121), (.ref b121)])) rfl (by rw [hml]; rfl) (Steps.refl _) (a := b121) (argsL := [(.ref b8), (.ref b63), (.ref sa80), (.ref a117)]) (rest := [(.ref b121)]) (lenOf own_pd10 rfl) rfl (by show 2 * 0 + _ ≤ _; exact Nat.le_of_eq rfl) (hb hby at_170) (fun _ _ => ⟨rfl, e121, (by decide : 14 + 0 ≤ _), (by decide : 37 + 0 ≤ _)⟩)
      dsimp only [Pt.U, Pt.locs, Pt.cells, Pt.slots] at X131 l131 y131 z131 st131 hQ131
      subst l131 y131 z131
      obtain ⟨rfl, Nq131, K131, Q131_0, Q131_1, Q131_2⟩ := hQ131
      have qf131 := (sfS (EL := own_EL) (Safe.exa hZ.alike A121 (by decide) (by decide)) sf0)
      have hCo131 := hC.1
      have sf_b8 := Safe.keep K131 qf131 hC.1 sf_b8
      have sf_rb11 := Safe.keep K131 qf131 hC.1 sf_rb11
      have sf_b63 := Safe.keep K131 qf131 hC.1 sf_b63
      have sf_sa80 := Safe.keep K131 qf131 hC.1 sf_sa80
      have sf_sb80 := Safe.keep K131 qf131 hC.1 sf_sb80
      have hC := hC.trans (CHr.keep K131 qf131 hC.1)
      have hk := Nat.le_trans hk K131.1
      have N131 := Fr.app N80 Nq131
      have o132 : Old Z n0 T131.heap := (Old.keep o130 K131 (allS gz_b121 all0))
      obtain ⟨cq133, kq133, q133a, q133b, q133c⟩ := isOf hZ rfl Q131_0
      obtain ⟨_, _, ⟨T133, L133, k133, n133⟩, -, X133, ⟨Lc133, hQ133, l133, y133, z133⟩, st133⟩ := X131.virtualBack hx (y := own_y11) (z := own_y11) hown (mvT hZ (own_w hw 64 rfl)) (mvT hZ (own_w hw 65 rfl)) (notFace_of_selects (args := #[]) (mvT hZ (own_w hw 67 rfl))) (mvT hZ (own_w hw 67 rfl)) (mvT hZ (own_w hw 66 rfl)) (by decide) (backOf (W := 0) (rmA20 l Z a0 hw [] b121 b63  cs wf T131.heap n0 o132 G0 Q131_0 Q131_2  ) hZ (own_w hw 68 rfl) (own_w hw 46 rfl) (by decide) (by decide)) q133a q133c (g := (mkF m 177 #[.val (.int p1), .val (.int p2), .val (.int p3), .val (.int p4), .val (.int p5), .val (.ref b1), .val (.ref b8), .val (.int (1 : Int32)), .val (.ref b63), .val (.ref sa80), .val (.ref a117), .val (.ref b121), .unset, .unset, .unset, .unset, .unset] [(.ref b121)])) rfl (by rw [hml]; rfl) (Steps.refl _) (argsL := []) (rest := []) (lenOf own_pd11 rfl) rfl (by show 2 * 0 + _ ≤ _; exact Nat.le_of_eq rfl) (hb hby at_177) (fun _ _ => ⟨rfl, rfl, (by decide : 14 + 0 ≤ _), (by decide : 37 + 0 ≤ _)⟩)
      dsimp only [Pt.U, Pt.locs, Pt.cells, Pt.slots] at X133 l133 y133 z133 st133 hQ133
      subst l133 y133 z133
      obtain ⟨rfl, Nq133, e133⟩ := hQ133
      have N133 := Fr.app N131 Nq133
      obtain ⟨LL134, XL134, NL134⟩ : ∃ LL : List Loc, Stand p l e room_1 (s.setVm T117.vm) m #[(.int p1), (.int p2), (.int p3), (.int p4), (.int p5)] below meth c T133 LL 14 37 ∧ Fr n0 LL := ⟨_, X133, N133⟩
      have f135 := ((f123.ext E121).keep K131)
      have f136 := ((((Qc74.keep K80 nin0).ext E117).ext E121).keep K131 (ninS ne_b63_b121 nin0))
      have f137 := ((f127.ext E121).keep K131 (ninS ne_rb74_b121 nin0))
      have f138 := ((((Qv74.keep K80 nin0).ext E117).ext E121).keep K131 (ninS ne_b63_b121 nin0))
      have f139 := ((f125.ext E121).keep K131)
      have f140 := (((((((Qc11.ext E63).ext E65).keep K74 (ninS ne_b8_b63 nin0)).keep K80 nin0).ext E117).ext E121).keep K131 (ninS ne_b8_b121 nin0))
      have f141 := ((f126.ext E121).keep K131 (ninS ne_rb11_b121 nin0))
      have f142 := (((((((Qv11.ext E63).ext E65).keep K74 (ninS ne_b8_b63 nin0)).keep K80 nin0).ext E117).ext E121).keep K131 (ninS ne_b8_b121 nin0))
      obtain ⟨cq143, kq143, q143a, q143b, q143c⟩ := isOf hZ e133 Q131_0
      obtain ⟨_, _, ⟨T143, L143, k143, n143⟩, -, X143, hSn143, hgn143, ⟨Lc143, hQ143, l143, y143, z143, C143⟩, st143⟩ := XL134.virtualBackS hx (y := own_y12) (z := own_y12) hown (mvT hZ (own_w hw 69 rfl)) (mvT hZ (own_w hw 70 rfl)) (notFace_of_selects (args := #[]) (mvT hZ (own_w hw 72 rfl))) (mvT hZ (own_w hw 72 rfl)) (mvT hZ (own_w hw 71 rfl)) (by decide) (backOfSH (s := s) (vm0 := T117.vm) (W := 0) (rmA21 l Z a0 hw [] b121 b63 rb74 rk74 sl74 b8 rb11 rk11 sl11  cs wf T131.heap n0 o132 G0 Q131_0 f135 f136 f137 f138 Q131_2 f139 f140 f141 f142 Q131_1  ) hZ (own_w hw 73 rfl) (own_w hw 46 rfl) (by decide) (by decide) (own_EW hw) hC.1) q143a q143c (g := (mkF m 196 #[.val (.int p1), .val (.int p2), .val (.int p3), .val (.int p4), .val (.int p5), .val (.ref b1), .val (.ref b8), .val (.int (1 : Int32)), .val (.ref b63), .val (.ref sa80), .val (.ref a117), .val (.ref b121), .val (.int (1 : Int32)), .val (.int (1 : Int32)), .unset, .unset, .unset] [(.ref b121)])) rfl (by rw [hml]; rfl) (Steps.refl _) (argsL := []) (rest := []) (lenOf own_pd12 rfl) rfl (by show 2 * 0 + _ ≤ _; exact Nat.le_of_eq rfl) (hb hby at_196) (fun _ _ => ⟨rfl, e133, (by decide : 14 + 6 ≤ _), (by decide : 37 + 37 ≤ _)⟩)
      dsimp only [Pt.U, Pt.locs, Pt.cells, Pt.slots] at X143 l143 y143 z143 st143 hQ143 hSn143 hgn143 C143
      subst l143 y143 z143
      have hS := foldS hS (by rw [e133]; exact hk) hSn143 hgn143
      have hk := Nat.le_refl T143.heap.size
      have hZ : Z.Warmed39 T143.vm := State.Warmed39.trans (t := s.setVm T117.vm) hZ hSn143.1
      have hown : T143.vm.findClass "com/example/momus/momus/cli/OptionTakesValuePinLaw" = some m.cls := by rw [hSn143.1.alike.findClass]; exact hown
      have sf_b8 := CHr.safe C143 f139.lt sf_b8
      have sf_rb11 := CHr.safe C143 f141.lt sf_rb11
      have sf_b63 := CHr.safe C143 f135.lt sf_b63
      have f144 := ((f128.ext E121).keep K131)
      have sf_sa80 := CHr.safe C143 f144.lt sf_sa80
      have f145 := ((f129.ext E121).keep K131 (ninS ne_sb80_b121 nin0))
      have sf_sb80 := CHr.safe C143 f145.lt sf_sb80
      have hC := hC.trans C143
      obtain ⟨sa143, sb143, sk143, sl143, rfl, Nq143, K143, hba143, hbb143, Qe143, Qc143, Qv143, Qa143⟩ := hQ143
      have N143 := Fr.app NL134 Nq143
      obtain ⟨LL146, XL146, NL146⟩ : ∃ LL : List Loc, Stand p l e room_1 (s.setVm T143.vm) m #[(.int p1), (.int p2), (.int p3), (.int p4), (.int p5)] below meth c T143 LL 20 74 ∧ Fr n0 LL := ⟨_, X143, N143⟩
      have sz_sa143 : h0.size ≤ sa143 := Nat.le_trans (Nat.le_trans (Nat.le_trans (Nat.le_trans (Nat.le_trans (Nat.le_trans (Nat.le_trans (Nat.le_trans (Nat.le_trans (Nat.le_trans (Nat.le_trans (Nat.le_trans E1.1 (Keep.of_wr W4).1) (Keep.of_wr W7).1) E8.1) K11.1) E63.1) E65.1) K74.1) K80.1) E117.1) E121.1) K131.1) hba143
      have gz_sa143 : n0 ≤ sa143 := Nat.le_trans Z0 sz_sa143
      have ne_b1_sa143 : b1 ≠ sa143 := Nat.ne_of_lt (Nat.lt_of_lt_of_le ((f122.ext E121).keep K131 (ninS ne_b1_b121 nin0)).lt hba143)
      have ne_b121_sa143 : b121 ≠ sa143 := Nat.ne_of_lt (Nat.lt_of_lt_of_le Q131_0.lt hba143)
      have ne_b63_sa143 : b63 ≠ sa143 := Nat.ne_of_lt (Nat.lt_of_lt_of_le f135.lt hba143)
      have ne_b65_sa143 : b65 ≠ sa143 := Nat.ne_of_lt (Nat.lt_of_lt_of_le ((f124.ext E121).keep K131 (ninS ne_b65_b121 nin0)).lt hba143)
      have ne_b8_sa143 : b8 ≠ sa143 := Nat.ne_of_lt (Nat.lt_of_lt_of_le f139.lt hba143)
      have ne_rb11_sa143 : rb11 ≠ sa143 := Nat.ne_of_lt (Nat.lt_of_lt_of_le f141.lt hba143)
      have ne_rb74_sa143 : rb74 ≠ sa143 := Nat.ne_of_lt (Nat.lt_of_lt_of_le f137.lt hba143)
      have ne_sa80_sa143 : sa80 ≠ sa143 := Nat.ne_of_lt (Nat.lt_of_lt_of_le f144.lt hba143)
      have ne_sb80_sa143 : sb80 ≠ sa143 := Nat.ne_of_lt (Nat.lt_of_lt_of_le f145.lt hba143)
      have sz_sb143 : h0.size ≤ sb143 := Nat.le_trans (Nat.le_trans (Nat.le_trans (Nat.le_trans (Nat.le_trans (Nat.le_trans (Nat.le_trans (Nat.le_trans (Nat.le_trans (Nat.le_trans (Nat.le_trans (Nat.le_trans E1.1 (Keep.of_wr W4).1) (Keep.of_wr W7).1) E8.1) K11.1) E63.1) E65.1) K74.1) K80.1) E117.1) E121.1) K131.1) hbb143
      have gz_sb143 : n0 ≤ sb143 := Nat.le_trans Z0 sz_sb143
      have ne_b1_sb143 : b1 ≠ sb143 := Nat.ne_of_lt (Nat.lt_of_lt_of_le ((f122.ext E121).keep K131 (ninS ne_b1_b121 nin0)).lt hbb143)
      have ne_b121_sb143 : b121 ≠ sb143 := Nat.ne_of_lt (Nat.lt_of_lt_of_le Q131_0.lt hbb143)
      have ne_b63_sb143 : b63 ≠ sb143 := Nat.ne_of_lt (Nat.lt_of_lt_of_le f135.lt hbb143)
      have ne_b65_sb143 : b65 ≠ sb143 := Nat.ne_of_lt (Nat.lt_of_lt_of_le ((f124.ext E121).keep K131 (ninS ne_b65_b121 nin0)).lt hbb143)
      have ne_b8_sb143 : b8 ≠ sb143 := Nat.ne_of_lt (Nat.lt_of_lt_of_le f139.lt hbb143)
      have ne_rb11_sb143 : rb11 ≠ sb143 := Nat.ne_of_lt (Nat.lt_of_lt_of_le f141.lt hbb143)
      have ne_rb74_sb143 : rb74 ≠ sb143 := Nat.ne_of_lt (Nat.lt_of_lt_of_le f137.lt hbb143)
      have ne_sa80_sb143 : sa80 ≠ sb143 := Nat.ne_of_lt (Nat.lt_of_lt_of_le f144.lt hbb143)
      have ne_sb80_sb143 : sb80 ≠ sb143 := Nat.ne_of_lt (Nat.lt_of_lt_of_le f145.lt hbb143)
      have f147 := (f139.keep K143)
      have f148 := (f140.keep K143 nin0)
      have f149 := (f141.keep K143 nin0)
      have f150 := (f142.keep K143 nin0)
      have o151 : Old Z n0 T143.heap := (Old.keep o132 K143 all0)
      obtain ⟨cq152, kq152, q152a, q152b, q152c⟩ := isOf hZ rfl Qe143
      obtain ⟨_, _, ⟨T152, L152, k152, n152⟩, -, X152, ⟨Lc152, hQ152, l152, y152, z152⟩, st152⟩ := XL146.virtualBack hx (y := own_y13) (z := own_y13) hown (mvT hZ (own_w hw 74 rfl)) (mvT hZ (own_w hw 75 rfl)) (notFace_of_selects (args := #[]) (mvT hZ (own_w hw 77 rfl))) (mvT hZ (own_w hw 77 rfl)) (mvT hZ (own_w hw 76 rfl)) (by decide) (backOf (W := 0) (rmA48 l Z a0 hw [] sa143 sb143 sk143 sl143 b8 rb11 rk11 sl11  cs wf T143.heap n0 o151 G0 Qe143 Qc143 Qa143 Qv143 f147 f148 f149 f150  (Ne.symm ne_b8_sa143)) hZ (own_w hw 78 rfl) (own_w hw 3 rfl) (by decide) (by decide)) q152a q152c (g := (mkF m 201 #[.val (.int p1), .val (.int p2), .val (.int p3), .val (.int p4), .val (.int p5), .val (.ref b1), .val (.ref b8), .val (.int (1 : Int32)), .val (.ref b63), .val (.ref sa80), .val (.ref a117), .val (.ref b121), .val (.int (1 : Int32)), .val (.int (1 : Int32)), .unset, .unset, .unset] [(.ref b8), (.ref sa143)])) rfl (by rw [hml]; rfl) (Steps.refl _) (argsL := [(.ref b8)]) (rest := []) (lenOf own_pd13 rfl) rfl (by show 2 * 0 + _ ≤ _; exact Nat.le_of_eq rfl) (hb hby at_201) (fun _ _ => ⟨rfl, rfl, (by decide : 20 + 0 ≤ _), (by decide : 74 + 0 ≤ _)⟩)
      dsimp only [Pt.U, Pt.locs, Pt.cells, Pt.slots] at X152 l152 y152 z152 st152 hQ152
      subst l152 y152 z152
      obtain ⟨rfl, Nq152, e152⟩ := hQ152
      have N152 := Fr.app NL146 Nq152
      obtain ⟨_, _, ⟨T153, L153, k153, n153⟩, -, X153, ⟨Lc153, hQ153, l153, y153, z153⟩, st153⟩ := Jvm.LawKit.callS X152 hx (y := own_y14) hown (mvT hZ (own_w hw 79 rfl)) (mvT hZ (own_w hw 80 rfl)) (mvT hZ (own_w hw 46 rfl)) (mvT hZ (own_w hw 81 rfl)) (by decide) (backOf (W := 0) (rmA16 l Z a0 hw [] b8 sa80 a117  cs wf T143.heap n0 o151 G0   ) hZ (own_w hw 81 rfl) (own_w hw 46 rfl) (by decide) (by decide)) (g := (mkF m 220 #[.val (.int p1), .val (.int p2), .val (.int p3), .val (.int p4), .val (.int p5), .val (.ref b1), .val (.ref b8), .val (.int (1 : Int32)), .val (.ref b63), .val (.ref sa80), .val (.ref a117), .val (.ref b121), .val (.int (1 : Int32)), .val (.int (1 : Int32)), .val (.int (1 : Int32)), .unset, .unset] [(.ref a117), (.ref sa80), (.ref b8)])) rfl (by rw [hml]; rfl) (argsL := [(.ref b8), (.ref sa80), (.ref a117)]) (rest := []) (lenOf own_pd14 rfl) rfl (by show 2 * 0 + _ ≤ _; exact Nat.le_of_eq rfl) (hb hby at_220) (fun _ _ => ⟨rfl, e152, (by decide : 20 + 1 ≤ _), (by decide : 74 + 4 ≤ _)⟩)
      dsimp only [Pt.U, Pt.locs, Pt.cells, Pt.slots] at X153 l153 y153 z153 st153 hQ153
      subst l153 y153 z153
      obtain ⟨fa153, rfl, Nq153, K153, hb153, Qe153, Qg153⟩ := hQ153
      have hCo153 := hC.1
      have sf_b8 := Safe.keep K153 sf0 hC.1 sf_b8
      have sf_rb11 := Safe.keep K153 sf0 hC.1 sf_rb11
      have sf_b63 := Safe.keep K153 sf0 hC.1 sf_b63
      have sf_sa80 := Safe.keep K153 sf0 hC.1 sf_sa80
      have sf_sb80 := Safe.keep K153 sf0 hC.1 sf_sb80
      have hC := hC.trans (CHr.keep K153 sf0 hC.1)
      have hk := Nat.le_trans hk K153.1
      have N153 := Fr.app N152 Nq153
      have sz_fa153 : h0.size ≤ fa153 := Nat.le_trans (Nat.le_trans (Nat.le_trans (Nat.le_trans (Nat.le_trans (Nat.le_trans (Nat.le_trans (Nat.le_trans (Nat.le_trans (Nat.le_trans (Nat.le_trans (Nat.le_trans (Nat.le_trans E1.1 (Keep.of_wr W4).1) (Keep.of_wr W7).1) E8.1) K11.1) E63.1) E65.1) K74.1) K80.1) E117.1) E121.1) K131.1) K143.1) hb153
      have gz_fa153 : n0 ≤ fa153 := Nat.le_trans Z0 sz_fa153
      have sf_fa153 := Safe.keep (EL := own_EL) K153 sf0 hCo153 (Safe.new hb153)
      have ne_b1_fa153 : b1 ≠ fa153 := Nat.ne_of_lt (Nat.lt_of_lt_of_le (((f122.ext E121).keep K131 (ninS ne_b1_b121 nin0)).keep K143 nin0).lt hb153)
      have ne_b121_fa153 : b121 ≠ fa153 := Nat.ne_of_lt (Nat.lt_of_lt_of_le (Q131_0.keep K143).lt hb153)
      have ne_b63_fa153 : b63 ≠ fa153 := Nat.ne_of_lt (Nat.lt_of_lt_of_le (f135.keep K143).lt hb153)
      have ne_b65_fa153 : b65 ≠ fa153 := Nat.ne_of_lt (Nat.lt_of_lt_of_le (((f124.ext E121).keep K131 (ninS ne_b65_b121 nin0)).keep K143 nin0).lt hb153)
      have ne_b8_fa153 : b8 ≠ fa153 := Nat.ne_of_lt (Nat.lt_of_lt_of_le f147.lt hb153)
      have ne_rb11_fa153 : rb11 ≠ fa153 := Nat.ne_of_lt (Nat.lt_of_lt_of_le f149.lt hb153)
      have ne_rb74_fa153 : rb74 ≠ fa153 := Nat.ne_of_lt (Nat.lt_of_lt_of_le (f137.keep K143 nin0).lt hb153)
      have ne_sa143_fa153 : sa143 ≠ fa153 := Nat.ne_of_lt (Nat.lt_of_lt_of_le Qe143.lt hb153)
      have ne_sa80_fa153 : sa80 ≠ fa153 := Nat.ne_of_lt (Nat.lt_of_lt_of_le (f144.keep K143).lt hb153)
      have ne_sb143_fa153 : sb143 ≠ fa153 := Nat.ne_of_lt (Nat.lt_of_lt_of_le Qa143.lt hb153)
      have ne_sb80_fa153 : sb80 ≠ fa153 := Nat.ne_of_lt (Nat.lt_of_lt_of_le (f145.keep K143 nin0).lt hb153)
      have o154 : Old Z n0 T153.heap := (Old.keep o151 K153 all0)
      obtain ⟨cq155, kq155, q155a, q155b, q155c⟩ := isOf hZ rfl Qe153
      obtain ⟨_, _, ⟨T155, L155, k155, n155⟩, -, X155, ⟨Lc155, hQ155, l155, y155, z155⟩, st155⟩ := X153.virtualBack hx (y := own_y11) (z := own_y11) hown (mvT hZ (own_w hw 64 rfl)) (mvT hZ (own_w hw 65 rfl)) (notFace_of_selects (args := #[]) (mvT hZ (own_w hw 67 rfl))) (mvT hZ (own_w hw 67 rfl)) (mvT hZ (own_w hw 66 rfl)) (by decide) (backOf (W := 0) (rmA11 l Z a0 hw [] fa153  cs wf T153.heap n0 o154 G0 Qe153 Qg153  ) hZ (own_w hw 68 rfl) (own_w hw 46 rfl) (by decide) (by decide)) q155a q155c (g := (mkF m 227 #[.val (.int p1), .val (.int p2), .val (.int p3), .val (.int p4), .val (.int p5), .val (.ref b1), .val (.ref b8), .val (.int (1 : Int32)), .val (.ref b63), .val (.ref sa80), .val (.ref a117), .val (.ref b121), .val (.int (1 : Int32)), .val (.int (1 : Int32)), .val (.int (1 : Int32)), .val (.ref fa153), .unset] [(.ref fa153)])) rfl (by rw [hml]; rfl) (Steps.refl _) (argsL := []) (rest := []) (lenOf own_pd11 rfl) rfl (by show 2 * 0 + _ ≤ _; exact Nat.le_of_eq rfl) (hb hby at_227) (fun _ _ => ⟨rfl, rfl, (by decide : 21 + 0 ≤ _), (by decide : 78 + 0 ≤ _)⟩)
      dsimp only [Pt.U, Pt.locs, Pt.cells, Pt.slots] at X155 l155 y155 z155 st155 hQ155
      subst l155 y155 z155
      obtain ⟨rfl, Nq155, e155⟩ := hQ155
      have N155 := Fr.app N153 Nq155
      have g156 : ∀ t, Steps p.tables e below (T155.setTop (mkF m 256 #[.val (.int p1), .val (.int p2), .val (.int p3), .val (.int p4), .val (.int p5), .val (.ref b1), .val (.ref b8), .val (.int (1 : Int32)), .val (.ref b63), .val (.ref sa80), .val (.ref a117), .val (.ref b121), .val (.int (1 : Int32)), .val (.int (1 : Int32)), .val (.int (1 : Int32)), .val (.ref fa153), .val (.int (0 : Int32))] [(.int (1 : Int32))])) t → Steps p.tables e below (s₁.setTop (entryFrame m #[(.int p1), (.int p2), (.int p3), (.int p4), (.int p5)] maxLocals)) t := by
        intro t k
        refine g81 t ?_
        show Steps p.tables e below (T80.setTop (mkF m 147 #[.val (.int p1), .val (.int p2), .val (.int p3), .val (.int p4), .val (.int p5), .val (.ref b1), .val (.ref b8), .val (.int (1 : Int32)), .val (.ref b63), .val (.ref sa80), .unset, .unset, .unset, .unset, .unset, .unset, .unset] [(.int bd)])) _
        refine XS.ifYes X80.here hx rfl (pc0 := 147) (pc' := 154) rfl (hb hby at_147) rfl ((if0 _ _).trans (feq hc82).2) (by decide) (by decide) ?_
        refine st117 _ ?_
        refine XS.astore X117.here hx rfl (hb hby at_156) rfl rfl (l' := #[.val (.int p1), .val (.int p2), .val (.int p3), .val (.int p4), .val (.int p5), .val (.ref b1), .val (.ref b8), .val (.int (1 : Int32)), .val (.ref b63), .val (.ref sa80), .val (.ref a117), .unset, .unset, .unset, .unset, .unset, .unset]) rfl ?_
        refine st121 _ ?_
        show Steps p.tables e below (T121.setTop (mkF m 161 #[.val (.int p1), .val (.int p2), .val (.int p3), .val (.int p4), .val (.int p5), .val (.ref b1), .val (.ref b8), .val (.int (1 : Int32)), .val (.ref b63), .val (.ref sa80), .val (.ref a117), .unset, .unset, .unset, .unset, .unset, .unset] [(.ref b121)])) _
        refine XS.dup X121.here hx rfl (hb hby at_161) rfl rfl ?_
        refine XS.aload X121.here hx rfl (hb hby at_162) rfl rfl ?_
        refine XS.aload X121.here hx rfl (hb hby at_164) rfl rfl ?_
        refine XS.aload X121.here hx rfl (hb hby at_166) rfl rfl ?_
        show Steps p.tables e below (T121.setTop (mkF m 168 #[.val (.int p1), .val (.int p2), .val (.int p3), .val (.int p4), .val (.int p5), .val (.ref b1), .val (.ref b8), .val (.int (1 : Int32)), .val (.ref b63), .val (.ref sa80), .val (.ref a117), .unset, .unset, .unset, .unset, .unset, .unset] [(.ref sa80), (.ref b63), (.ref b8), (.ref b121), (.ref b121)])) _
        refine XS.aload X121.here hx rfl (hb hby at_168) rfl rfl ?_
        refine st131.trans ?_
        refine XS.astore X131.here hx rfl (hb hby at_173) rfl rfl (l' := #[.val (.int p1), .val (.int p2), .val (.int p3), .val (.int p4), .val (.int p5), .val (.ref b1), .val (.ref b8), .val (.int (1 : Int32)), .val (.ref b63), .val (.ref sa80), .val (.ref a117), .val (.ref b121), .unset, .unset, .unset, .unset, .unset]) rfl ?_
        refine XS.aload X131.here hx rfl (hb hby at_175) rfl rfl ?_
        show Steps p.tables e below (T131.setTop (mkF m 177 #[.val (.int p1), .val (.int p2), .val (.int p3), .val (.int p4), .val (.int p5), .val (.ref b1), .val (.ref b8), .val (.int (1 : Int32)), .val (.ref b63), .val (.ref sa80), .val (.ref a117), .val (.ref b121), .unset, .unset, .unset, .unset, .unset] [(.ref b121)])) _
        refine st133.trans ?_
        refine XS.istore X133.here hx rfl (hb hby at_180) rfl (l' := #[.val (.int p1), .val (.int p2), .val (.int p3), .val (.int p4), .val (.int p5), .val (.ref b1), .val (.ref b8), .val (.int (1 : Int32)), .val (.ref b63), .val (.ref sa80), .val (.ref a117), .val (.ref b121), .val (.int (1 : Int32)), .unset, .unset, .unset, .unset]) rfl ?_
        refine XS.iload X133.here hx rfl (hb hby at_182) rfl ?_
        refine XS.ifNo X133.here hx rfl (hb hby at_184) rfl ((if0 _ _).trans (feq (by decide : ¬ ((1 : Int32) = (0 : Int32)))).1) ?_
        show Steps p.tables e below (T133.setTop (mkF m 187 #[.val (.int p1), .val (.int p2), .val (.int p3), .val (.int p4), .val (.int p5), .val (.ref b1), .val (.ref b8), .val (.int (1 : Int32)), .val (.ref b63), .val (.ref sa80), .val (.ref a117), .val (.ref b121), .val (.int (1 : Int32)), .unset, .unset, .unset, .unset] [])) _
        refine XS.iconst X133.here hx rfl (hb hby at_187) ?_
        refine XS.goto X133.here hx rfl (pc0 := 188) (pc' := 192) rfl (hb hby at_188) (by decide) (by decide) ?_
        refine XS.istore X133.here hx rfl (hb hby at_192) rfl (l' := #[.val (.int p1), .val (.int p2), .val (.int p3), .val (.int p4), .val (.int p5), .val (.ref b1), .val (.ref b8), .val (.int (1 : Int32)), .val (.ref b63), .val (.ref sa80), .val (.ref a117), .val (.ref b121), .val (.int (1 : Int32)), .val (.int (1 : Int32)), .unset, .unset, .unset]) rfl ?_
        refine XS.aload X133.here hx rfl (hb hby at_194) rfl rfl ?_
        show Steps p.tables e below (T133.setTop (mkF m 196 #[.val (.int p1), .val (.int p2), .val (.int p3), .val (.int p4), .val (.int p5), .val (.ref b1), .val (.ref b8), .val (.int (1 : Int32)), .val (.ref b63), .val (.ref sa80), .val (.ref a117), .val (.ref b121), .val (.int (1 : Int32)), .val (.int (1 : Int32)), .unset, .unset, .unset] [(.ref b121)])) _
        refine st143.trans ?_
        refine XS.aload XL146.here hx rfl (hb hby at_199) rfl rfl ?_
        refine st152.trans ?_
        refine XS.ifNo X152.here hx rfl (hb hby at_204) rfl ((if0 _ _).trans (teq (by decide : (0 : Int32) = (0 : Int32))).2) ?_
        show Steps p.tables e below (T152.setTop (mkF m 207 #[.val (.int p1), .val (.int p2), .val (.int p3), .val (.int p4), .val (.int p5), .val (.ref b1), .val (.ref b8), .val (.int (1 : Int32)), .val (.ref b63), .val (.ref sa80), .val (.ref a117), .val (.ref b121), .val (.int (1 : Int32)), .val (.int (1 : Int32)), .unset, .unset, .unset] [])) _
        refine XS.iconst X152.here hx rfl (hb hby at_207) ?_
        refine XS.goto X152.here hx rfl (pc0 := 208) (pc' := 212) rfl (hb hby at_208) (by decide) (by decide) ?_
        refine XS.istore X152.here hx rfl (hb hby at_212) rfl (l' := #[.val (.int p1), .val (.int p2), .val (.int p3), .val (.int p4), .val (.int p5), .val (.ref b1), .val (.ref b8), .val (.int (1 : Int32)), .val (.ref b63), .val (.ref sa80), .val (.ref a117), .val (.ref b121), .val (.int (1 : Int32)), .val (.int (1 : Int32)), .val (.int (1 : Int32)), .unset, .unset]) rfl ?_
        refine XS.aload X152.here hx rfl (hb hby at_214) rfl rfl ?_
        show Steps p.tables e below (T152.setTop (mkF m 216 #[.val (.int p1), .val (.int p2), .val (.int p3), .val (.int p4), .val (.int p5), .val (.ref b1), .val (.ref b8), .val (.int (1 : Int32)), .val (.ref b63), .val (.ref sa80), .val (.ref a117), .val (.ref b121), .val (.int (1 : Int32)), .val (.int (1 : Int32)), .val (.int (1 : Int32)), .unset, .unset] [(.ref b8)])) _
        refine XS.aload X152.here hx rfl (hb hby at_216) rfl rfl ?_
        refine XS.aload X152.here hx rfl (hb hby at_218) rfl rfl ?_
        refine st153 _ ?_
        refine XS.astore X153.here hx rfl (hb hby at_223) rfl rfl (l' := #[.val (.int p1), .val (.int p2), .val (.int p3), .val (.int p4), .val (.int p5), .val (.ref b1), .val (.ref b8), .val (.int (1 : Int32)), .val (.ref b63), .val (.ref sa80), .val (.ref a117), .val (.ref b121), .val (.int (1 : Int32)), .val (.int (1 : Int32)), .val (.int (1 : Int32)), .val (.ref fa153), .unset]) rfl ?_
        show Steps p.tables e below (T153.setTop (mkF m 225 #[.val (.int p1), .val (.int p2), .val (.int p3), .val (.int p4), .val (.int p5), .val (.ref b1), .val (.ref b8), .val (.int (1 : Int32)), .val (.ref b63), .val (.ref sa80), .val (.ref a117), .val (.ref b121), .val (.int (1 : Int32)), .val (.int (1 : Int32)), .val (.int (1 : Int32)), .val (.ref fa153), .unset] [])) _
        refine XS.aload X153.here hx rfl (hb hby at_225) rfl rfl ?_
        refine st155.trans ?_
        refine XS.istore X155.here hx rfl (hb hby at_230) rfl (l' := #[.val (.int p1), .val (.int p2), .val (.int p3), .val (.int p4), .val (.int p5), .val (.ref b1), .val (.ref b8), .val (.int (1 : Int32)), .val (.ref b63), .val (.ref sa80), .val (.ref a117), .val (.ref b121), .val (.int (1 : Int32)), .val (.int (1 : Int32)), .val (.int (1 : Int32)), .val (.ref fa153), .val (.int (0 : Int32))]) rfl ?_
        refine XS.iload X155.here hx rfl (hb hby at_232) rfl ?_
        show Steps p.tables e below (T155.setTop (mkF m 234 #[.val (.int p1), .val (.int p2), .val (.int p3), .val (.int p4), .val (.int p5), .val (.ref b1), .val (.ref b8), .val (.int (1 : Int32)), .val (.ref b63), .val (.ref sa80), .val (.ref a117), .val (.ref b121), .val (.int (1 : Int32)), .val (.int (1 : Int32)), .val (.int (1 : Int32)), .val (.ref fa153), .val (.int (0 : Int32))] [(.int (1 : Int32))])) _
        refine XS.iload X155.here hx rfl (hb hby at_234) rfl ?_
        refine XS.icmpNo X155.here hx rfl (hb hby at_236) rfl (teq (by decide : (1 : Int32) = (1 : Int32))).2 ?_
        refine XS.iload X155.here hx rfl (hb hby at_239) rfl ?_
        refine XS.iload X155.here hx rfl (hb hby at_241) rfl ?_
        show Steps p.tables e below (T155.setTop (mkF m 243 #[.val (.int p1), .val (.int p2), .val (.int p3), .val (.int p4), .val (.int p5), .val (.ref b1), .val (.ref b8), .val (.int (1 : Int32)), .val (.ref b63), .val (.ref sa80), .val (.ref a117), .val (.ref b121), .val (.int (1 : Int32)), .val (.int (1 : Int32)), .val (.int (1 : Int32)), .val (.ref fa153), .val (.int (0 : Int32))] [(.int (1 : Int32)), (.int (1 : Int32))])) _
        refine XS.icmpNo X155.here hx rfl (hb hby at_243) rfl (teq (by decide : (1 : Int32) = (1 : Int32))).2 ?_
        refine XS.iload X155.here hx rfl (hb hby at_246) rfl ?_
        refine XS.ifNo X155.here hx rfl (hb hby at_248) rfl ((if0 _ _).trans (teq (by decide : (0 : Int32) = (0 : Int32))).2) ?_
        refine XS.iconst X155.here hx rfl (hb hby at_251) ?_
        show Steps p.tables e below (T155.setTop (mkF m 252 #[.val (.int p1), .val (.int p2), .val (.int p3), .val (.int p4), .val (.int p5), .val (.ref b1), .val (.ref b8), .val (.int (1 : Int32)), .val (.ref b63), .val (.ref sa80), .val (.ref a117), .val (.ref b121), .val (.int (1 : Int32)), .val (.int (1 : Int32)), .val (.int (1 : Int32)), .val (.ref fa153), .val (.int (0 : Int32))] [(.int (1 : Int32))])) _
        refine XS.goto X155.here hx rfl (pc0 := 252) (pc' := 256) rfl (hb hby at_252) (by decide) (by decide) ?_
        exact k
      obtain ⟨fs, hrt, hrun, hended, hRW⟩ := X155.leaveW hS (by rw [e155]; exact hk) (v := some (.int (1 : Int32))) (fun h => by rw [Bd.returns] at h; cases h)
      refine ⟨_, _, g156 _ ?_, hrun, hended, _, _, rfl, ?_, ?_, hRW.1, hRW.2.1, hRW.2.2.1, hRW.2.2.2.mono (by decide) (by decide)⟩
      · show Steps p.tables e below (T155.setTop (mkF m 256 #[.val (.int p1), .val (.int p2), .val (.int p3), .val (.int p4), .val (.int p5), .val (.ref b1), .val (.ref b8), .val (.int (1 : Int32)), .val (.ref b63), .val (.ref sa80), .val (.ref a117), .val (.ref b121), .val (.int (1 : Int32)), .val (.int (1 : Int32)), .val (.int (1 : Int32)), .val (.ref fa153), .val (.int (0 : Int32))] [(.int (1 : Int32))])) _
        exact retN X155 hx (t := .boolean) Bd.returns (by simp) (hb hby at_256) hrt
      · show own_Q_rm0 Z p1 p2 p3 p4 p5 cs wf h0 n0 _ T155.heap _
        rw [e155]
        exact ⟨rfl, N155⟩
      · rw [hh]
        show CHr Z own_EL s.vm h0 T155.vm T155.heap
        rw [e155]
        exact hC.trans (CHv.at X155 hZ (own_EW hw) hC.1)
  · skip
    obtain ⟨v2, hv_v2⟩ : ∃ z : Int32, z = ((p3 &&& (255 : Int32)).toUInt32.toUInt16.toUInt32.toInt32) := ⟨_, rfl⟩
    have g157 : ∀ t, Steps p.tables e below (T11.setTop (mkF m 86 #[.val (.int p1), .val (.int p2), .val (.int p3), .val (.int p4), .val (.int p5), .val (.ref b1), .val (.ref b8), .val (.int (2 : Int32)), .unset, .unset, .unset, .unset, .unset, .unset, .unset, .unset, .unset] [(.int v2)])) t → Steps p.tables e below (s₁.setTop (entryFrame m #[(.int p1), (.int p2), (.int p3), (.int p4), (.int p5)] maxLocals)) t := by
      intro t k
      rw [hv_v2] at k
      refine g13 t ?_
      show Steps p.tables e below (T11.setTop (mkF m 42 #[.val (.int p1), .val (.int p2), .val (.int p3), .val (.int p4), .val (.int p5), .val (.ref b1), .val (.ref b8), .val (.int (2 : Int32)), .unset, .unset, .unset, .unset, .unset, .unset, .unset, .unset, .unset] [])) _
      refine XS.iload X11.here hx rfl (hb hby at_42) rfl ?_
      refine XS.ifYes X11.here hx rfl (pc0 := 44) (pc' := 53) rfl (hb hby at_44) rfl ((if0 _ _).trans (feq (by decide : ¬ ((2 : Int32) = (0 : Int32)))).2) (by decide) (by decide) ?_
      refine XS.iload X11.here hx rfl (hb hby at_53) rfl ?_
      refine XS.iconst X11.here hx rfl (hb hby at_55) ?_
      show Steps p.tables e below (T11.setTop (mkF m 56 #[.val (.int p1), .val (.int p2), .val (.int p3), .val (.int p4), .val (.int p5), .val (.ref b1), .val (.ref b8), .val (.int (2 : Int32)), .unset, .unset, .unset, .unset, .unset, .unset, .unset, .unset, .unset] [(.int (1 : Int32)), (.int (2 : Int32))])) _
      refine XS.icmpYes X11.here hx rfl (pc0 := 56) (pc' := 74) rfl (hb hby at_56) rfl (feq (by decide : ¬ ((2 : Int32) = (1 : Int32)))).2 (by decide) (by decide) ?_
      refine XS.iload X11.here hx rfl (hb hby at_74) rfl ?_
      refine XS.iconst X11.here hx rfl (hb hby at_76) ?_
      refine XS.icmpNo X11.here hx rfl (hb hby at_77) rfl (teq (by decide : (2 : Int32) = (2 : Int32))).2 ?_
      show Steps p.tables e below (T11.setTop (mkF m 80 #[.val (.int p1), .val (.int p2), .val (.int p3), .val (.int p4), .val (.int p5), .val (.ref b1), .val (.ref b8), .val (.int (2 : Int32)), .unset, .unset, .unset, .unset, .unset, .unset, .unset, .unset, .unset] [])) _
      refine XS.iloadN X11.here hx rfl (hb hby at_80) rfl ?_
      refine XS.sipush X11.here hx rfl (hb hby at_81) ?_
      show Steps p.tables e below (T11.setTop (mkF m 84 #[.val (.int p1), .val (.int p2), .val (.int p3), .val (.int p4), .val (.int p5), .val (.ref b1), .val (.ref b8), .val (.int (2 : Int32)), .unset, .unset, .unset, .unset, .unset, .unset, .unset, .unset, .unset] [(.int (255 : Int32)), (.int p3)])) _
      refine XS.iand X11.here hx rfl (hb hby at_84) rfl ?_
      show Steps p.tables e below (T11.setTop (mkF m 85 #[.val (.int p1), .val (.int p2), .val (.int p3), .val (.int p4), .val (.int p5), .val (.ref b1), .val (.ref b8), .val (.int (2 : Int32)), .unset, .unset, .unset, .unset, .unset, .unset, .unset, .unset, .unset] [(.int (p3 &&& (255 : Int32)))])) _
      refine XS.i2c X11.here hx rfl (hb hby at_85) rfl ?_
      exact k
    obtain ⟨LL158, XL158, NL158⟩ : ∃ LL : List Loc, Stand p l e room_1 (s.setVm s.vm) m #[(.int p1), (.int p2), (.int p3), (.int p4), (.int p5)] below meth c T11 LL 3 8 ∧ Fr n0 LL := ⟨_, X11, N11⟩
    have o159 : Old Z n0 T11.heap := (Old.keep o10 K11 (allS gz_b8 all0))
    obtain ⟨_, _, ⟨T160, L160, k160, n160⟩, -, X160, ⟨Lc160, hQ160, l160, y160, z160⟩, st160⟩ := Jvm.LawKit.callS XL158 hx (y := own_y5) hown (mvT hZ (own_w hw 30 rfl)) (mvT hZ (own_w hw 31 rfl)) (mvT hZ (own_w hw 3 rfl)) (mvT hZ (own_w hw 32 rfl)) (by decide) (backOf (W := 0) (rmA5 l Z a0 hw [] (v2)  cs wf T11.heap n0 o159 G0   (own_chd _ _ hv_v2)) hZ (own_w hw 32 rfl) (own_w hw 3 rfl) (by decide) (by decide)) (g := (mkF m 86 #[.val (.int p1), .val (.int p2), .val (.int p3), .val (.int p4), .val (.int p5), .val (.ref b1), .val (.ref b8), .val (.int (2 : Int32)), .unset, .unset, .unset, .unset, .unset, .unset, .unset, .unset, .unset] [(.int v2)])) rfl (by rw [hml]; rfl) (argsL := [(.int v2)]) (rest := []) (lenOf own_pd8 rfl) rfl (by show 2 * 0 + _ ≤ _; exact Nat.le_of_eq rfl) (hb hby at_86) (fun _ _ => ⟨rfl, rfl, (by decide : 3 + 2 ≤ _), (by decide : 8 + 5 ≤ _)⟩)
    dsimp only [Pt.U, Pt.locs, Pt.cells, Pt.slots] at X160 l160 y160 z160 st160 hQ160
    subst l160 y160 z160
    obtain ⟨sa160, sb160, sk160, sl160, rfl, Nq160, K160, hba160, hbb160, Qe160, Qc160, Qv160, Qa160⟩ := hQ160
    have hCo160 := hC.1
    have sf_b8 := Safe.keep K160 sf0 hC.1 sf_b8
    have sf_rb11 := Safe.keep K160 sf0 hC.1 sf_rb11
    have hC := hC.trans (CHr.keep K160 sf0 hC.1)
    have hk := Nat.le_trans hk K160.1
    have N160 := Fr.app NL158 Nq160
    have sz_sa160 : h0.size ≤ sa160 := Nat.le_trans (Nat.le_trans (Nat.le_trans (Nat.le_trans (Nat.le_trans E1.1 (Keep.of_wr W4).1) (Keep.of_wr W7).1) E8.1) K11.1) hba160
    have gz_sa160 : n0 ≤ sa160 := Nat.le_trans Z0 sz_sa160
    have sf_sa160 := Safe.keep (EL := own_EL) K160 sf0 hCo160 (Safe.new hba160)
    have ne_b1_sa160 : b1 ≠ sa160 := Nat.ne_of_lt (Nat.lt_of_lt_of_le (f9.keep K11 (ninS ne_b1_b8 nin0)).lt hba160)
    have ne_b8_sa160 : b8 ≠ sa160 := Nat.ne_of_lt (Nat.lt_of_lt_of_le Qe11.lt hba160)
    have ne_rb11_sa160 : rb11 ≠ sa160 := Nat.ne_of_lt (Nat.lt_of_lt_of_le Va11.lt hba160)
    have sz_sb160 : h0.size ≤ sb160 := Nat.le_trans (Nat.le_trans (Nat.le_trans (Nat.le_trans (Nat.le_trans E1.1 (Keep.of_wr W4).1) (Keep.of_wr W7).1) E8.1) K11.1) hbb160
    have gz_sb160 : n0 ≤ sb160 := Nat.le_trans Z0 sz_sb160
    have sf_sb160 := Safe.keep (EL := own_EL) K160 sf0 hCo160 (Safe.new hbb160)
    have ne_b1_sb160 : b1 ≠ sb160 := Nat.ne_of_lt (Nat.lt_of_lt_of_le (f9.keep K11 (ninS ne_b1_b8 nin0)).lt hbb160)
    have ne_b8_sb160 : b8 ≠ sb160 := Nat.ne_of_lt (Nat.lt_of_lt_of_le Qe11.lt hbb160)
    have ne_rb11_sb160 : rb11 ≠ sb160 := Nat.ne_of_lt (Nat.lt_of_lt_of_le Va11.lt hbb160)
    obtain ⟨v3, hv_v3⟩ : ∃ z : Int32, z = ((p4 &&& (255 : Int32)).toUInt32.toUInt16.toUInt32.toInt32) := ⟨_, rfl⟩
    have g161 : ∀ t, Steps p.tables e below (T160.setTop (mkF m 136 #[.val (.int p1), .val (.int p2), .val (.int p3), .val (.int p4), .val (.int p5), .val (.ref b1), .val (.ref b8), .val (.int (2 : Int32)), .val (.ref sa160), .unset, .unset, .unset, .unset, .unset, .unset, .unset, .unset] [(.int v3)])) t → Steps p.tables e below (s₁.setTop (entryFrame m #[(.int p1), (.int p2), (.int p3), (.int p4), (.int p5)] maxLocals)) t := by
      intro t k
      rw [hv_v3] at k
      refine g157 t ?_
      show Steps p.tables e below (T11.setTop (mkF m 86 #[.val (.int p1), .val (.int p2), .val (.int p3), .val (.int p4), .val (.int p5), .val (.ref b1), .val (.ref b8), .val (.int (2 : Int32)), .unset, .unset, .unset, .unset, .unset, .unset, .unset, .unset, .unset] [(.int v2)])) _
      refine st160 _ ?_
      refine XS.astore X160.here hx rfl (hb hby at_89) rfl rfl (l' := #[.val (.int p1), .val (.int p2), .val (.int p3), .val (.int p4), .val (.int p5), .val (.ref b1), .val (.ref b8), .val (.int (2 : Int32)), .val (.ref sa160), .unset, .unset, .unset, .unset, .unset, .unset, .unset, .unset]) rfl ?_
      refine XS.goto X160.here hx rfl (pc0 := 91) (pc' := 130) rfl (hb hby at_91) (by decide) (by decide) ?_
      refine XS.iloadN X160.here hx rfl (hb hby at_130) rfl ?_
      show Steps p.tables e below (T160.setTop (mkF m 131 #[.val (.int p1), .val (.int p2), .val (.int p3), .val (.int p4), .val (.int p5), .val (.ref b1), .val (.ref b8), .val (.int (2 : Int32)), .val (.ref sa160), .unset, .unset, .unset, .unset, .unset, .unset, .unset, .unset] [(.int p4)])) _
      refine XS.sipush X160.here hx rfl (hb hby at_131) ?_
      show Steps p.tables e below (T160.setTop (mkF m 134 #[.val (.int p1), .val (.int p2), .val (.int p3), .val (.int p4), .val (.int p5), .val (.ref b1), .val (.ref b8), .val (.int (2 : Int32)), .val (.ref sa160), .unset, .unset, .unset, .unset, .unset, .unset, .unset, .unset] [(.int (255 : Int32)), (.int p4)])) _
      refine XS.iand X160.here hx rfl (hb hby at_134) rfl ?_
      show Steps p.tables e below (T160.setTop (mkF m 135 #[.val (.int p1), .val (.int p2), .val (.int p3), .val (.int p4), .val (.int p5), .val (.ref b1), .val (.ref b8), .val (.int (2 : Int32)), .val (.ref sa160), .unset, .unset, .unset, .unset, .unset, .unset, .unset, .unset] [(.int (p4 &&& (255 : Int32)))])) _
      refine XS.i2c X160.here hx rfl (hb hby at_135) rfl ?_
      exact k
    have o162 : Old Z n0 T160.heap := (Old.keep o159 K160 all0)
    obtain ⟨_, _, ⟨T163, L163, k163, n163⟩, -, X163, ⟨Lc163, hQ163, l163, y163, z163⟩, st163⟩ := Jvm.LawKit.callS X160 hx (y := own_y5) hown (mvT hZ (own_w hw 30 rfl)) (mvT hZ (own_w hw 31 rfl)) (mvT hZ (own_w hw 3 rfl)) (mvT hZ (own_w hw 32 rfl)) (by decide) (backOf (W := 0) (rmA5 l Z a0 hw [] (v3)  cs wf T160.heap n0 o162 G0   (own_chd _ _ hv_v3)) hZ (own_w hw 32 rfl) (own_w hw 3 rfl) (by decide) (by decide)) (g := (mkF m 136 #[.val (.int p1), .val (.int p2), .val (.int p3), .val (.int p4), .val (.int p5), .val (.ref b1), .val (.ref b8), .val (.int (2 : Int32)), .val (.ref sa160), .unset, .unset, .unset, .unset, .unset, .unset, .unset, .unset] [(.int v3)])) rfl (by rw [hml]; rfl) (argsL := [(.int v3)]) (rest := []) (lenOf own_pd8 rfl) rfl (by show 2 * 0 + _ ≤ _; exact Nat.le_of_eq rfl) (hb hby at_136) (fun _ _ => ⟨rfl, rfl, (by decide : 5 + 2 ≤ _), (by decide : 13 + 5 ≤ _)⟩)
    dsimp only [Pt.U, Pt.locs, Pt.cells, Pt.slots] at X163 l163 y163 z163 st163 hQ163
    subst l163 y163 z163
    obtain ⟨sa163, sb163, sk163, sl163, rfl, Nq163, K163, hba163, hbb163, Qe163, Qc163, Qv163, Qa163⟩ := hQ163
    have hCo163 := hC.1
    have sf_b8 := Safe.keep K163 sf0 hC.1 sf_b8
    have sf_rb11 := Safe.keep K163 sf0 hC.1 sf_rb11
    have sf_sa160 := Safe.keep K163 sf0 hC.1 sf_sa160
    have sf_sb160 := Safe.keep K163 sf0 hC.1 sf_sb160
    have hC := hC.trans (CHr.keep K163 sf0 hC.1)
    have hk := Nat.le_trans hk K163.1
    have N163 := Fr.app N160 Nq163
    have sz_sa163 : h0.size ≤ sa163 := Nat.le_trans (Nat.le_trans (Nat.le_trans (Nat.le_trans (Nat.le_trans (Nat.le_trans E1.1 (Keep.of_wr W4).1) (Keep.of_wr W7).1) E8.1) K11.1) K160.1) hba163
    have gz_sa163 : n0 ≤ sa163 := Nat.le_trans Z0 sz_sa163
    have sf_sa163 := Safe.keep (EL := own_EL) K163 sf0 hCo163 (Safe.new hba163)
    have ne_b1_sa163 : b1 ≠ sa163 := Nat.ne_of_lt (Nat.lt_of_lt_of_le ((f9.keep K11 (ninS ne_b1_b8 nin0)).keep K160 nin0).lt hba163)
    have ne_b8_sa163 : b8 ≠ sa163 := Nat.ne_of_lt (Nat.lt_of_lt_of_le (Qe11.keep K160).lt hba163)
    have ne_rb11_sa163 : rb11 ≠ sa163 := Nat.ne_of_lt (Nat.lt_of_lt_of_le (Va11.keep K160 nin0).lt hba163)
    have ne_sa160_sa163 : sa160 ≠ sa163 := Nat.ne_of_lt (Nat.lt_of_lt_of_le Qe160.lt hba163)
    have ne_sb160_sa163 : sb160 ≠ sa163 := Nat.ne_of_lt (Nat.lt_of_lt_of_le Qa160.lt hba163)
    have sz_sb163 : h0.size ≤ sb163 := Nat.le_trans (Nat.le_trans (Nat.le_trans (Nat.le_trans (Nat.le_trans (Nat.le_trans E1.1 (Keep.of_wr W4).1) (Keep.of_wr W7).1) E8.1) K11.1) K160.1) hbb163
    have gz_sb163 : n0 ≤ sb163 := Nat.le_trans Z0 sz_sb163
    have sf_sb163 := Safe.keep (EL := own_EL) K163 sf0 hCo163 (Safe.new hbb163)
    have ne_b1_sb163 : b1 ≠ sb163 := Nat.ne_of_lt (Nat.lt_of_lt_of_le ((f9.keep K11 (ninS ne_b1_b8 nin0)).keep K160 nin0).lt hbb163)
    have ne_b8_sb163 : b8 ≠ sb163 := Nat.ne_of_lt (Nat.lt_of_lt_of_le (Qe11.keep K160).lt hbb163)
    have ne_rb11_sb163 : rb11 ≠ sb163 := Nat.ne_of_lt (Nat.lt_of_lt_of_le (Va11.keep K160 nin0).lt hbb163)
    have ne_sa160_sb163 : sa160 ≠ sb163 := Nat.ne_of_lt (Nat.lt_of_lt_of_le Qe160.lt hbb163)
    have ne_sb160_sb163 : sb160 ≠ sb163 := Nat.ne_of_lt (Nat.lt_of_lt_of_le Qa160.lt hbb163)
    obtain ⟨bd, hv_bd⟩ : ∃ z : Int32, z = ((p5 >>> ((2 : Int32) &&& 31)) &&& (1 : Int32)) := ⟨_, rfl⟩
    have g164 : ∀ t, Steps p.tables e below (T163.setTop (mkF m 147 #[.val (.int p1), .val (.int p2), .val (.int p3), .val (.int p4), .val (.int p5), .val (.ref b1), .val (.ref b8), .val (.int (2 : Int32)), .val (.ref sa160), .val (.ref sa163), .unset, .unset, .unset, .unset, .unset, .unset, .unset] [(.int bd)])) t → Steps p.tables e below (s₁.setTop (entryFrame m #[(.int p1), (.int p2), (.int p3), (.int p4), (.int p5)] maxLocals)) t := by
      intro t k
      rw [hv_bd] at k
      refine g161 t ?_
      show Steps p.tables e below (T160.setTop (mkF m 136 #[.val (.int p1), .val (.int p2), .val (.int p3), .val (.int p4), .val (.int p5), .val (.ref b1), .val (.ref b8), .val (.int (2 : Int32)), .val (.ref sa160), .unset, .unset, .unset, .unset, .unset, .unset, .unset, .unset] [(.int v3)])) _
      refine st163 _ ?_
      refine XS.astore X163.here hx rfl (hb hby at_139) rfl rfl (l' := #[.val (.int p1), .val (.int p2), .val (.int p3), .val (.int p4), .val (.int p5), .val (.ref b1), .val (.ref b8), .val (.int (2 : Int32)), .val (.ref sa160), .val (.ref sa163), .unset, .unset, .unset, .unset, .unset, .unset, .unset]) rfl ?_
      refine XS.iload X163.here hx rfl (hb hby at_141) rfl ?_
      refine XS.iconst X163.here hx rfl (hb hby at_143) ?_
      show Steps p.tables e below (T163.setTop (mkF m 144 #[.val (.int p1), .val (.int p2), .val (.int p3), .val (.int p4), .val (.int p5), .val (.ref b1), .val (.ref b8), .val (.int (2 : Int32)), .val (.ref sa160), .val (.ref sa163), .unset, .unset, .unset, .unset, .unset, .unset, .unset] [(.int (2 : Int32)), (.int p5)])) _
      refine XS.ishr X163.here hx rfl (hb hby at_144) rfl ?_
      refine XS.iconst X163.here hx rfl (hb hby at_145) ?_
      show Steps p.tables e below (T163.setTop (mkF m 146 #[.val (.int p1), .val (.int p2), .val (.int p3), .val (.int p4), .val (.int p5), .val (.ref b1), .val (.ref b8), .val (.int (2 : Int32)), .val (.ref sa160), .val (.ref sa163), .unset, .unset, .unset, .unset, .unset, .unset, .unset] [(.int (1 : Int32)), (.int (p5 >>> ((2 : Int32) &&& 31)))])) _
      refine XS.iand X163.here hx rfl (hb hby at_146) rfl ?_
      exact k
    by_cases hc165 : bd = (0 : Int32)
    · obtain ⟨T166, h166, X166, e166, E166, A166, D166, -, st166⟩ := newO X163 hx hZ hown (own_w hw 44 rfl) (own_w hw 45 rfl) (own_w hw 46 rfl) rfl (g := (mkF m 158 #[.val (.int p1), .val (.int p2), .val (.int p3), .val (.int p4), .val (.int p5), .val (.ref b1), .val (.ref b8), .val (.int (2 : Int32)), .val (.ref sa160), .val (.ref sa163), .val .null, .unset, .unset, .unset, .unset, .unset, .unset] [])) rfl (hb hby at_158) (by decide) (by decide)
      obtain ⟨b166, q_b166⟩ : ∃ z, z = T163.heap.size := ⟨_, rfl⟩
      rw [← q_b166] at A166 D166 st166
      have sz_b166 : h0.size ≤ b166 := Nat.le_trans (Nat.le_trans (Nat.le_trans (Nat.le_trans (Nat.le_trans (Nat.le_trans (Nat.le_trans E1.1 (Keep.of_wr W4).1) (Keep.of_wr W7).1) E8.1) K11.1) K160.1) K163.1) (Nat.le_of_eq q_b166.symm)
      have gz_b166 : n0 ≤ b166 := Nat.le_trans Z0 sz_b166
      have f167 := (((f9.keep K11 (ninS ne_b1_b8 nin0)).keep K160 nin0).keep K163 nin0)
      have ne_b1_b166 : b1 ≠ b166 := Nat.ne_of_lt (Nat.lt_of_lt_of_le f167.lt (Nat.le_of_eq q_b166.symm))
      have f168 := ((Qe11.keep K160).keep K163)
      have ne_b8_b166 : b8 ≠ b166 := Nat.ne_of_lt (Nat.lt_of_lt_of_le f168.lt (Nat.le_of_eq q_b166.symm))
      have f169 := ((Va11.keep K160 nin0).keep K163 nin0)
      have ne_rb11_b166 : rb11 ≠ b166 := Nat.ne_of_lt (Nat.lt_of_lt_of_le f169.lt (Nat.le_of_eq q_b166.symm))
      have f170 := (Qe160.keep K163)
      have ne_sa160_b166 : sa160 ≠ b166 := Nat.ne_of_lt (Nat.lt_of_lt_of_le f170.lt (Nat.le_of_eq q_b166.symm))
      have ne_sa163_b166 : sa163 ≠ b166 := Nat.ne_of_lt (Nat.lt_of_lt_of_le Qe163.lt (Nat.le_of_eq q_b166.symm))
      have f171 := (Qa160.keep K163 nin0)
      have ne_sb160_b166 : sb160 ≠ b166 := Nat.ne_of_lt (Nat.lt_of_lt_of_le f171.lt (Nat.le_of_eq q_b166.symm))
      have ne_sb163_b166 : sb163 ≠ b166 := Nat.ne_of_lt (Nat.lt_of_lt_of_le Qa163.lt (Nat.le_of_eq q_b166.symm))
      have sf_b8 := Safe.ext E166 hC.1 sf_b8
      have sf_rb11 := Safe.ext E166 hC.1 sf_rb11
      have sf_sa160 := Safe.ext E166 hC.1 sf_sa160
      have sf_sb160 := Safe.ext E166 hC.1 sf_sb160
      have sf_sa163 := Safe.ext E166 hC.1 sf_sa163
      have sf_sb163 := Safe.ext E166 hC.1 sf_sb163
      have hC := hC.trans (CHr.ext E166 hC.1)
      have hk := Nat.le_trans hk E166.1
      have F166_name : Fld Z h166 b166 "com/example/momus/momus/cli/Option" "name" "Ljava/lang/String;" .null := D166 (Or.inr (own_w hw 57 rfl)) (ty := (.object "java/lang/String")) (by decide)
      have F166_argument : Fld Z h166 b166 "com/example/momus/momus/cli/Option" "argument" "Ljava/lang/String;" .null := D166 (Or.inr (own_w hw 59 rfl)) (ty := (.object "java/lang/String")) (by decide)
      have F166_description : Fld Z h166 b166 "com/example/momus/momus/cli/Option" "description" "Ljava/lang/String;" .null := D166 (Or.inr (own_w hw 61 rfl)) (ty := (.object "java/lang/String")) (by decide)
      have F166_byDefault : Fld Z h166 b166 "com/example/momus/momus/cli/Option" "byDefault" "Ljava/lang/String;" .null := D166 (Or.inr (own_w hw 63 rfl)) (ty := (.object "java/lang/String")) (by decide)
      have o172 : Old Z n0 h166 := (Old.ext (Old.keep o162 K163 all0) E166)
      obtain ⟨_, _, ⟨T173, L173, k173, n173⟩, -, X173, ⟨Lc173, hQ173, l173, y173, z173⟩, st173⟩ := X166.specialBack hx (y := own_y9) rfl hown (mvT hZ (own_w hw 47 rfl)) (mvT hZ (own_w hw 48 rfl)) (mvT hZ (own_w hw 49 rfl)) (by decide) (backOf (W := 1) (rmA19 l Z a0 hw [] b166 b8 sa160 sa163  cs wf h166 n0 o172 G0 A166 F166_argument F166_byDefault F166_description F166_name gz_b166 ) hZ (own_w hw 49 rfl) (own_w hw 46 rfl) (by decide) (by decide)) (g := (mkF m 170 #[.val (.int p1), .val (.int p2), .val (.int p3), .val (.int p4), .val (.int p5), .val (.ref b1), .val (.ref b8), .val (.int (2 : Int32)), .val (.ref sa160), .val (.ref sa163), .val .null, .unset, .unset, .unset, .unset, .unset, .unset] [.null, (.ref sa163), (.ref sa160), (.ref b8), (.ref b166), (.ref b166)])) rfl (by rw [hml]; rfl) (Steps.refl _) (a := b166) (argsL := [(.ref b8), (.ref sa160), (.ref sa163), .null]) (rest := [(.ref b166)]) (lenOf own_pd10 rfl) rfl (by show 2 * 0 + _ ≤ _; exact Nat.le_of_eq rfl) (hb hby at_170) (fun _ _ => ⟨rfl, e166, (by decide : 8 + 0 ≤ _), (by decide : 22 + 0 ≤ _)⟩)
      dsimp only [Pt.U, Pt.locs, Pt.cells, Pt.slots] at X173 l173 y173 z173 st173 hQ173
      subst l173 y173 z173
      obtain ⟨rfl, Nq173, K173, Q173_0, Q173_1, Q173_2⟩ := hQ173
      have qf173 := (sfS (EL := own_EL) (Safe.exa hZ.alike A166 (by decide) (by decide)) sf0)
      have hCo173 := hC.1
      have sf_b8 := Safe.keep K173 qf173 hC.1 sf_b8
      have sf_rb11 := Safe.keep K173 qf173 hC.1 sf_rb11
      have sf_sa160 := Safe.keep K173 qf173 hC.1 sf_sa160
      have sf_sb160 := Safe.keep K173 qf173 hC.1 sf_sb160
      have sf_sa163 := Safe.keep K173 qf173 hC.1 sf_sa163
      have sf_sb163 := Safe.keep K173 qf173 hC.1 sf_sb163
      have hC := hC.trans (CHr.keep K173 qf173 hC.1)
      have hk := Nat.le_trans hk K173.1
      have N173 := Fr.app N163 Nq173
      have o174 : Old Z n0 T173.heap := (Old.keep o172 K173 (allS gz_b166 all0))
      obtain ⟨cq175, kq175, q175a, q175b, q175c⟩ := isOf hZ rfl Q173_0
      obtain ⟨_, _, ⟨T175, L175, k175, n175⟩, -, X175, ⟨Lc175, hQ175, l175, y175, z175⟩, st175⟩ := X173.virtualBack hx (y := own_y11) (z := own_y11) hown (mvT hZ (own_w hw 64 rfl)) (mvT hZ (own_w hw 65 rfl)) (notFace_of_selects (args := #[]) (mvT hZ (own_w hw 67 rfl))) (mvT hZ (own_w hw 67 rfl)) (mvT hZ (own_w hw 66 rfl)) (by decide) (backOf (W := 0) (rmA20 l Z a0 hw [] b166 sa160  cs wf T173.heap n0 o174 G0 Q173_0 Q173_2  ) hZ (own_w hw 68 rfl) (own_w hw 46 rfl) (by decide) (by decide)) q175a q175c (g := (mkF m 177 #[.val (.int p1), .val (.int p2), .val (.int p3), .val (.int p4), .val (.int p5), .val (.ref b1), .val (.ref b8), .val (.int (2 : Int32)), .val (.ref sa160), .val (.ref sa163), .val .null, .val (.ref b166), .unset, .unset, .unset, .unset, .unset] [(.ref b166)])) rfl (by rw [hml]; rfl) (Steps.refl _) (argsL := []) (rest := []) (lenOf own_pd11 rfl) rfl (by show 2 * 0 + _ ≤ _; exact Nat.le_of_eq rfl) (hb hby at_177) (fun _ _ => ⟨rfl, rfl, (by decide : 8 + 0 ≤ _), (by decide : 22 + 0 ≤ _)⟩)
      dsimp only [Pt.U, Pt.locs, Pt.cells, Pt.slots] at X175 l175 y175 z175 st175 hQ175
      subst l175 y175 z175
      obtain ⟨rfl, Nq175, e175⟩ := hQ175
      have N175 := Fr.app N173 Nq175
      obtain ⟨LL176, XL176, NL176⟩ : ∃ LL : List Loc, Stand p l e room_1 (s.setVm s.vm) m #[(.int p1), (.int p2), (.int p3), (.int p4), (.int p5)] below meth c T175 LL 8 22 ∧ Fr n0 LL := ⟨_, X175, N175⟩
      have f177 := ((f170.ext E166).keep K173)
      have f178 := (((Qc160.keep K163 nin0).ext E166).keep K173 (ninS ne_sa160_b166 nin0))
      have f179 := ((f171.ext E166).keep K173 (ninS ne_sb160_b166 nin0))
      have f180 := (((Qv160.keep K163 nin0).ext E166).keep K173 (ninS ne_sa160_b166 nin0))
      have f181 := ((f168.ext E166).keep K173)
      have f182 := ((((Qc11.keep K160 nin0).keep K163 nin0).ext E166).keep K173 (ninS ne_b8_b166 nin0))
      have f183 := ((f169.ext E166).keep K173 (ninS ne_rb11_b166 nin0))
      have f184 := ((((Qv11.keep K160 nin0).keep K163 nin0).ext E166).keep K173 (ninS ne_b8_b166 nin0))
      obtain ⟨cq185, kq185, q185a, q185b, q185c⟩ := isOf hZ e175 Q173_0
      obtain ⟨_, _, ⟨T185, L185, k185, n185⟩, -, X185, hSn185, hgn185, ⟨Lc185, hQ185, l185, y185, z185, C185⟩, st185⟩ := XL176.virtualBackS hx (y := own_y12) (z := own_y12) hown (mvT hZ (own_w hw 69 rfl)) (mvT hZ (own_w hw 70 rfl)) (notFace_of_selects (args := #[]) (mvT hZ (own_w hw 72 rfl))) (mvT hZ (own_w hw 72 rfl)) (mvT hZ (own_w hw 71 rfl)) (by decide) (backOfSH (s := s) (vm0 := s.vm) (W := 0) (rmA51 l Z a0 hw [] b166 sa160 sb160 sk160 sl160 b8 rb11 rk11 sl11  cs wf T173.heap n0 o174 G0 Q173_0 f177 f178 f179 f180 Q173_2 f181 f182 f183 f184 Q173_1  ) hZ (own_w hw 73 rfl) (own_w hw 46 rfl) (by decide) (by decide) (own_EW hw) hC.1) q185a q185c (g := (mkF m 196 #[.val (.int p1), .val (.int p2), .val (.int p3), .val (.int p4), .val (.int p5), .val (.ref b1), .val (.ref b8), .val (.int (2 : Int32)), .val (.ref sa160), .val (.ref sa163), .val .null, .val (.ref b166), .val (.int (1 : Int32)), .val (.int (1 : Int32)), .unset, .unset, .unset] [(.ref b166)])) rfl (by rw [hml]; rfl) (Steps.refl _) (argsL := []) (rest := []) (lenOf own_pd12 rfl) rfl (by show 2 * 0 + _ ≤ _; exact Nat.le_of_eq rfl) (hb hby at_196) (fun _ _ => ⟨rfl, e175, (by decide : 8 + 6 ≤ _), (by decide : 22 + 37 ≤ _)⟩)
      dsimp only [Pt.U, Pt.locs, Pt.cells, Pt.slots] at X185 l185 y185 z185 st185 hQ185 hSn185 hgn185 C185
      subst l185 y185 z185
      have hS := foldS hS (by rw [e175]; exact hk) hSn185 hgn185
      have hk := Nat.le_refl T185.heap.size
      have hZ : Z.Warmed39 T185.vm := State.Warmed39.trans (t := s.setVm s.vm) hZ hSn185.1
      have hown : T185.vm.findClass "com/example/momus/momus/cli/OptionTakesValuePinLaw" = some m.cls := by rw [hSn185.1.alike.findClass]; exact hown
      have sf_b8 := CHr.safe C185 f181.lt sf_b8
      have sf_rb11 := CHr.safe C185 f183.lt sf_rb11
      have sf_sa160 := CHr.safe C185 f177.lt sf_sa160
      have sf_sb160 := CHr.safe C185 f179.lt sf_sb160
      have f186 := ((Qe163.ext E166).keep K173)
      have sf_sa163 := CHr.safe C185 f186.lt sf_sa163
      have f187 := ((Qa163.ext E166).keep K173 (ninS ne_sb163_b166 nin0))
      have sf_sb163 := CHr.safe C185 f187.lt sf_sb163
      have hC := hC.trans C185
      obtain ⟨sa185, sb185, sk185, sl185, rfl, Nq185, K185, hba185, hbb185, Qe185, Qc185, Qv185, Qa185⟩ := hQ185
      have N185 := Fr.app NL176 Nq185
      obtain ⟨LL188, XL188, NL188⟩ : ∃ LL : List Loc, Stand p l e room_1 (s.setVm T185.vm) m #[(.int p1), (.int p2), (.int p3), (.int p4), (.int p5)] below meth c T185 LL 14 59 ∧ Fr n0 LL := ⟨_, X185, N185⟩
      have sz_sa185 : h0.size ≤ sa185 := Nat.le_trans (Nat.le_trans (Nat.le_trans (Nat.le_trans (Nat.le_trans (Nat.le_trans (Nat.le_trans (Nat.le_trans (Nat.le_trans E1.1 (Keep.of_wr W4).1) (Keep.of_wr W7).1) E8.1) K11.1) K160.1) K163.1) E166.1) K173.1) hba185
      have gz_sa185 : n0 ≤ sa185 := Nat.le_trans Z0 sz_sa185
      have ne_b1_sa185 : b1 ≠ sa185 := Nat.ne_of_lt (Nat.lt_of_lt_of_le ((f167.ext E166).keep K173 (ninS ne_b1_b166 nin0)).lt hba185)
      have ne_b166_sa185 : b166 ≠ sa185 := Nat.ne_of_lt (Nat.lt_of_lt_of_le Q173_0.lt hba185)
      have ne_b8_sa185 : b8 ≠ sa185 := Nat.ne_of_lt (Nat.lt_of_lt_of_le f181.lt hba185)
      have ne_rb11_sa185 : rb11 ≠ sa185 := Nat.ne_of_lt (Nat.lt_of_lt_of_le f183.lt hba185)
      have ne_sa160_sa185 : sa160 ≠ sa185 := Nat.ne_of_lt (Nat.lt_of_lt_of_le f177.lt hba185)
      have ne_sa163_sa185 : sa163 ≠ sa185 := Nat.ne_of_lt (Nat.lt_of_lt_of_le f186.lt hba185)
      have ne_sb160_sa185 : sb160 ≠ sa185 := Nat.ne_of_lt (Nat.lt_of_lt_of_le f179.lt hba185)
      have ne_sb163_sa185 : sb163 ≠ sa185 := Nat.ne_of_lt (Nat.lt_of_lt_of_le f187.lt hba185)
      have sz_sb185 : h0.size ≤ sb185 := Nat.le_trans (Nat.le_trans (Nat.le_trans (Nat.le_trans (Nat.le_trans (Nat.le_trans (Nat.le_trans (Nat.le_trans (Nat.le_trans E1.1 (Keep.of_wr W4).1) (Keep.of_wr W7).1) E8.1) K11.1) K160.1) K163.1) E166.1) K173.1) hbb185
      have gz_sb185 : n0 ≤ sb185 := Nat.le_trans Z0 sz_sb185
      have ne_b1_sb185 : b1 ≠ sb185 := Nat.ne_of_lt (Nat.lt_of_lt_of_le ((f167.ext E166).keep K173 (ninS ne_b1_b166 nin0)).lt hbb185)
      have ne_b166_sb185 : b166 ≠ sb185 := Nat.ne_of_lt (Nat.lt_of_lt_of_le Q173_0.lt hbb185)
      have ne_b8_sb185 : b8 ≠ sb185 := Nat.ne_of_lt (Nat.lt_of_lt_of_le f181.lt hbb185)
      have ne_rb11_sb185 : rb11 ≠ sb185 := Nat.ne_of_lt (Nat.lt_of_lt_of_le f183.lt hbb185)
      have ne_sa160_sb185 : sa160 ≠ sb185 := Nat.ne_of_lt (Nat.lt_of_lt_of_le f177.lt hbb185)
      have ne_sa163_sb185 : sa163 ≠ sb185 := Nat.ne_of_lt (Nat.lt_of_lt_of_le f186.lt hbb185)
      have ne_sb160_sb185 : sb160 ≠ sb185 := Nat.ne_of_lt (Nat.lt_of_lt_of_le f179.lt hbb185)
      have ne_sb163_sb185 : sb163 ≠ sb185 := Nat.ne_of_lt (Nat.lt_of_lt_of_le f187.lt hbb185)
      have f189 := (f181.keep K185)
      have f190 := (f182.keep K185 nin0)
      have f191 := (f183.keep K185 nin0)
      have f192 := (f184.keep K185 nin0)
      have o193 : Old Z n0 T185.heap := (Old.keep o174 K185 all0)
      obtain ⟨cq194, kq194, q194a, q194b, q194c⟩ := isOf hZ rfl Qe185
      obtain ⟨_, _, ⟨T194, L194, k194, n194⟩, -, X194, ⟨Lc194, hQ194, l194, y194, z194⟩, st194⟩ := XL188.virtualBack hx (y := own_y13) (z := own_y13) hown (mvT hZ (own_w hw 74 rfl)) (mvT hZ (own_w hw 75 rfl)) (notFace_of_selects (args := #[]) (mvT hZ (own_w hw 77 rfl))) (mvT hZ (own_w hw 77 rfl)) (mvT hZ (own_w hw 76 rfl)) (by decide) (backOf (W := 0) (rmA52 l Z a0 hw [] sa185 sb185 sk185 sl185 b8 rb11 rk11 sl11  cs wf T185.heap n0 o193 G0 Qe185 Qc185 Qa185 Qv185 f189 f190 f191 f192  (Ne.symm ne_b8_sa185)) hZ (own_w hw 78 rfl) (own_w hw 3 rfl) (by decide) (by decide)) q194a q194c (g := (mkF m 201 #[.val (.int p1), .val (.int p2), .val (.int p3), .val (.int p4), .val (.int p5), .val (.ref b1), .val (.ref b8), .val (.int (2 : Int32)), .val (.ref sa160), .val (.ref sa163), .val .null, .val (.ref b166), .val (.int (1 : Int32)), .val (.int (1 : Int32)), .unset, .unset, .unset] [(.ref b8), (.ref sa185)])) rfl (by rw [hml]; rfl) (Steps.refl _) (argsL := [(.ref b8)]) (rest := []) (lenOf own_pd13 rfl) rfl (by show 2 * 0 + _ ≤ _; exact Nat.le_of_eq rfl) (hb hby at_201) (fun _ _ => ⟨rfl, rfl, (by decide : 14 + 0 ≤ _), (by decide : 59 + 0 ≤ _)⟩)
      dsimp only [Pt.U, Pt.locs, Pt.cells, Pt.slots] at X194 l194 y194 z194 st194 hQ194
      subst l194 y194 z194
      obtain ⟨rfl, Nq194, e194⟩ := hQ194
      have N194 := Fr.app NL188 Nq194
      obtain ⟨_, _, ⟨T195, L195, k195, n195⟩, -, X195, ⟨Lc195, hQ195, l195, y195, z195⟩, st195⟩ := Jvm.LawKit.callS X194 hx (y := own_y14) hown (mvT hZ (own_w hw 79 rfl)) (mvT hZ (own_w hw 80 rfl)) (mvT hZ (own_w hw 46 rfl)) (mvT hZ (own_w hw 81 rfl)) (by decide) (backOf (W := 0) (rmA14 l Z a0 hw [] b8 sa163  cs wf T185.heap n0 o193 G0   ) hZ (own_w hw 81 rfl) (own_w hw 46 rfl) (by decide) (by decide)) (g := (mkF m 220 #[.val (.int p1), .val (.int p2), .val (.int p3), .val (.int p4), .val (.int p5), .val (.ref b1), .val (.ref b8), .val (.int (2 : Int32)), .val (.ref sa160), .val (.ref sa163), .val .null, .val (.ref b166), .val (.int (1 : Int32)), .val (.int (1 : Int32)), .val (.int (1 : Int32)), .unset, .unset] [.null, (.ref sa163), (.ref b8)])) rfl (by rw [hml]; rfl) (argsL := [(.ref b8), (.ref sa163), .null]) (rest := []) (lenOf own_pd14 rfl) rfl (by show 2 * 0 + _ ≤ _; exact Nat.le_of_eq rfl) (hb hby at_220) (fun _ _ => ⟨rfl, e194, (by decide : 14 + 1 ≤ _), (by decide : 59 + 4 ≤ _)⟩)
      dsimp only [Pt.U, Pt.locs, Pt.cells, Pt.slots] at X195 l195 y195 z195 st195 hQ195
      subst l195 y195 z195
      obtain ⟨fa195, rfl, Nq195, K195, hb195, Qe195, Qg195⟩ := hQ195
      have hCo195 := hC.1
      have sf_b8 := Safe.keep K195 sf0 hC.1 sf_b8
      have sf_rb11 := Safe.keep K195 sf0 hC.1 sf_rb11
      have sf_sa160 := Safe.keep K195 sf0 hC.1 sf_sa160
      have sf_sb160 := Safe.keep K195 sf0 hC.1 sf_sb160
      have sf_sa163 := Safe.keep K195 sf0 hC.1 sf_sa163
      have sf_sb163 := Safe.keep K195 sf0 hC.1 sf_sb163
      have hC := hC.trans (CHr.keep K195 sf0 hC.1)
      have hk := Nat.le_trans hk K195.1
      have N195 := Fr.app N194 Nq195
      have sz_fa195 : h0.size ≤ fa195 := Nat.le_trans (Nat.le_trans (Nat.le_trans (Nat.le_trans (Nat.le_trans (Nat.le_trans (Nat.le_trans (Nat.le_trans (Nat.le_trans (Nat.le_trans E1.1 (Keep.of_wr W4).1) (Keep.of_wr W7).1) E8.1) K11.1) K160.1) K163.1) E166.1) K173.1) K185.1) hb195
      have gz_fa195 : n0 ≤ fa195 := Nat.le_trans Z0 sz_fa195
      have sf_fa195 := Safe.keep (EL := own_EL) K195 sf0 hCo195 (Safe.new hb195)
      have ne_b1_fa195 : b1 ≠ fa195 := Nat.ne_of_lt (Nat.lt_of_lt_of_le (((f167.ext E166).keep K173 (ninS ne_b1_b166 nin0)).keep K185 nin0).lt hb195)
      have ne_b166_fa195 : b166 ≠ fa195 := Nat.ne_of_lt (Nat.lt_of_lt_of_le (Q173_0.keep K185).lt hb195)
      have ne_b8_fa195 : b8 ≠ fa195 := Nat.ne_of_lt (Nat.lt_of_lt_of_le f189.lt hb195)
      have ne_rb11_fa195 : rb11 ≠ fa195 := Nat.ne_of_lt (Nat.lt_of_lt_of_le f191.lt hb195)
      have ne_sa160_fa195 : sa160 ≠ fa195 := Nat.ne_of_lt (Nat.lt_of_lt_of_le (f177.keep K185).lt hb195)
      have ne_sa163_fa195 : sa163 ≠ fa195 := Nat.ne_of_lt (Nat.lt_of_lt_of_le (f186.keep K185).lt hb195)
      have ne_sa185_fa195 : sa185 ≠ fa195 := Nat.ne_of_lt (Nat.lt_of_lt_of_le Qe185.lt hb195)
      have ne_sb160_fa195 : sb160 ≠ fa195 := Nat.ne_of_lt (Nat.lt_of_lt_of_le (f179.keep K185 nin0).lt hb195)
      have ne_sb163_fa195 : sb163 ≠ fa195 := Nat.ne_of_lt (Nat.lt_of_lt_of_le (f187.keep K185 nin0).lt hb195)
      have ne_sb185_fa195 : sb185 ≠ fa195 := Nat.ne_of_lt (Nat.lt_of_lt_of_le Qa185.lt hb195)
      have o196 : Old Z n0 T195.heap := (Old.keep o193 K195 all0)
      obtain ⟨cq197, kq197, q197a, q197b, q197c⟩ := isOf hZ rfl Qe195
      obtain ⟨_, _, ⟨T197, L197, k197, n197⟩, -, X197, ⟨Lc197, hQ197, l197, y197, z197⟩, st197⟩ := X195.virtualBack hx (y := own_y11) (z := own_y11) hown (mvT hZ (own_w hw 64 rfl)) (mvT hZ (own_w hw 65 rfl)) (notFace_of_selects (args := #[]) (mvT hZ (own_w hw 67 rfl))) (mvT hZ (own_w hw 67 rfl)) (mvT hZ (own_w hw 66 rfl)) (by decide) (backOf (W := 0) (rmA11 l Z a0 hw [] fa195  cs wf T195.heap n0 o196 G0 Qe195 Qg195  ) hZ (own_w hw 68 rfl) (own_w hw 46 rfl) (by decide) (by decide)) q197a q197c (g := (mkF m 227 #[.val (.int p1), .val (.int p2), .val (.int p3), .val (.int p4), .val (.int p5), .val (.ref b1), .val (.ref b8), .val (.int (2 : Int32)), .val (.ref sa160), .val (.ref sa163), .val .null, .val (.ref b166), .val (.int (1 : Int32)), .val (.int (1 : Int32)), .val (.int (1 : Int32)), .val (.ref fa195), .unset] [(.ref fa195)])) rfl (by rw [hml]; rfl) (Steps.refl _) (argsL := []) (rest := []) (lenOf own_pd11 rfl) rfl (by show 2 * 0 + _ ≤ _; exact Nat.le_of_eq rfl) (hb hby at_227) (fun _ _ => ⟨rfl, rfl, (by decide : 15 + 0 ≤ _), (by decide : 63 + 0 ≤ _)⟩)
      dsimp only [Pt.U, Pt.locs, Pt.cells, Pt.slots] at X197 l197 y197 z197 st197 hQ197
      subst l197 y197 z197
      obtain ⟨rfl, Nq197, e197⟩ := hQ197
      have N197 := Fr.app N195 Nq197
      have g198 : ∀ t, Steps p.tables e below (T197.setTop (mkF m 256 #[.val (.int p1), .val (.int p2), .val (.int p3), .val (.int p4), .val (.int p5), .val (.ref b1), .val (.ref b8), .val (.int (2 : Int32)), .val (.ref sa160), .val (.ref sa163), .val .null, .val (.ref b166), .val (.int (1 : Int32)), .val (.int (1 : Int32)), .val (.int (1 : Int32)), .val (.ref fa195), .val (.int (0 : Int32))] [(.int (1 : Int32))])) t → Steps p.tables e below (s₁.setTop (entryFrame m #[(.int p1), (.int p2), (.int p3), (.int p4), (.int p5)] maxLocals)) t := by
        intro t k
        refine g164 t ?_
        show Steps p.tables e below (T163.setTop (mkF m 147 #[.val (.int p1), .val (.int p2), .val (.int p3), .val (.int p4), .val (.int p5), .val (.ref b1), .val (.ref b8), .val (.int (2 : Int32)), .val (.ref sa160), .val (.ref sa163), .unset, .unset, .unset, .unset, .unset, .unset, .unset] [(.int bd)])) _
        refine XS.ifNo X163.here hx rfl (hb hby at_147) rfl ((if0 _ _).trans (teq hc165).2) ?_
        refine XS.aconstNull X163.here hx rfl (hb hby at_150) ?_
        refine XS.goto X163.here hx rfl (pc0 := 151) (pc' := 156) rfl (hb hby at_151) (by decide) (by decide) ?_
        refine XS.astore X163.here hx rfl (hb hby at_156) rfl rfl (l' := #[.val (.int p1), .val (.int p2), .val (.int p3), .val (.int p4), .val (.int p5), .val (.ref b1), .val (.ref b8), .val (.int (2 : Int32)), .val (.ref sa160), .val (.ref sa163), .val .null, .unset, .unset, .unset, .unset, .unset, .unset]) rfl ?_
        show Steps p.tables e below (T163.setTop (mkF m 158 #[.val (.int p1), .val (.int p2), .val (.int p3), .val (.int p4), .val (.int p5), .val (.ref b1), .val (.ref b8), .val (.int (2 : Int32)), .val (.ref sa160), .val (.ref sa163), .val .null, .unset, .unset, .unset, .unset, .unset, .unset] [])) _
        refine st166 _ ?_
        refine XS.dup X166.here hx rfl (hb hby at_161) rfl rfl ?_
        refine XS.aload X166.here hx rfl (hb hby at_162) rfl rfl ?_
        refine XS.aload X166.here hx rfl (hb hby at_164) rfl rfl ?_
        show Steps p.tables e below (T166.setTop (mkF m 166 #[.val (.int p1), .val (.int p2), .val (.int p3), .val (.int p4), .val (.int p5), .val (.ref b1), .val (.ref b8), .val (.int (2 : Int32)), .val (.ref sa160), .val (.ref sa163), .val .null, .unset, .unset, .unset, .unset, .unset, .unset] [(.ref sa160), (.ref b8), (.ref b166), (.ref b166)])) _
        refine XS.aload X166.here hx rfl (hb hby at_166) rfl rfl ?_
        refine XS.aload X166.here hx rfl (hb hby at_168) rfl rfl ?_
        refine st173.trans ?_
        refine XS.astore X173.here hx rfl (hb hby at_173) rfl rfl (l' := #[.val (.int p1), .val (.int p2), .val (.int p3), .val (.int p4), .val (.int p5), .val (.ref b1), .val (.ref b8), .val (.int (2 : Int32)), .val (.ref sa160), .val (.ref sa163), .val .null, .val (.ref b166), .unset, .unset, .unset, .unset, .unset]) rfl ?_
        show Steps p.tables e below (T173.setTop (mkF m 175 #[.val (.int p1), .val (.int p2), .val (.int p3), .val (.int p4), .val (.int p5), .val (.ref b1), .val (.ref b8), .val (.int (2 : Int32)), .val (.ref sa160), .val (.ref sa163), .val .null, .val (.ref b166), .unset, .unset, .unset, .unset, .unset] [])) _
        refine XS.aload X173.here hx rfl (hb hby at_175) rfl rfl ?_
        refine st175.trans ?_
        refine XS.istore X175.here hx rfl (hb hby at_180) rfl (l' := #[.val (.int p1), .val (.int p2), .val (.int p3), .val (.int p4), .val (.int p5), .val (.ref b1), .val (.ref b8), .val (.int (2 : Int32)), .val (.ref sa160), .val (.ref sa163), .val .null, .val (.ref b166), .val (.int (1 : Int32)), .unset, .unset, .unset, .unset]) rfl ?_
        refine XS.iload X175.here hx rfl (hb hby at_182) rfl ?_
        show Steps p.tables e below (T175.setTop (mkF m 184 #[.val (.int p1), .val (.int p2), .val (.int p3), .val (.int p4), .val (.int p5), .val (.ref b1), .val (.ref b8), .val (.int (2 : Int32)), .val (.ref sa160), .val (.ref sa163), .val .null, .val (.ref b166), .val (.int (1 : Int32)), .unset, .unset, .unset, .unset] [(.int (2 : Int32))])) _
        refine XS.ifNo X175.here hx rfl (hb hby at_184) rfl ((if0 _ _).trans (feq (by decide : ¬ ((2 : Int32) = (0 : Int32)))).1) ?_
        refine XS.iconst X175.here hx rfl (hb hby at_187) ?_
        refine XS.goto X175.here hx rfl (pc0 := 188) (pc' := 192) rfl (hb hby at_188) (by decide) (by decide) ?_
        refine XS.istore X175.here hx rfl (hb hby at_192) rfl (l' := #[.val (.int p1), .val (.int p2), .val (.int p3), .val (.int p4), .val (.int p5), .val (.ref b1), .val (.ref b8), .val (.int (2 : Int32)), .val (.ref sa160), .val (.ref sa163), .val .null, .val (.ref b166), .val (.int (1 : Int32)), .val (.int (1 : Int32)), .unset, .unset, .unset]) rfl ?_
        show Steps p.tables e below (T175.setTop (mkF m 194 #[.val (.int p1), .val (.int p2), .val (.int p3), .val (.int p4), .val (.int p5), .val (.ref b1), .val (.ref b8), .val (.int (2 : Int32)), .val (.ref sa160), .val (.ref sa163), .val .null, .val (.ref b166), .val (.int (1 : Int32)), .val (.int (1 : Int32)), .unset, .unset, .unset] [])) _
        refine XS.aload X175.here hx rfl (hb hby at_194) rfl rfl ?_
        refine st185.trans ?_
        refine XS.aload XL188.here hx rfl (hb hby at_199) rfl rfl ?_
        refine st194.trans ?_
        show Steps p.tables e below (T194.setTop (mkF m 204 #[.val (.int p1), .val (.int p2), .val (.int p3), .val (.int p4), .val (.int p5), .val (.ref b1), .val (.ref b8), .val (.int (2 : Int32)), .val (.ref sa160), .val (.ref sa163), .val .null, .val (.ref b166), .val (.int (1 : Int32)), .val (.int (1 : Int32)), .unset, .unset, .unset] [(.int (0 : Int32))])) _
        refine XS.ifNo X194.here hx rfl (hb hby at_204) rfl ((if0 _ _).trans (teq (by decide : (0 : Int32) = (0 : Int32))).2) ?_
        refine XS.iconst X194.here hx rfl (hb hby at_207) ?_
        refine XS.goto X194.here hx rfl (pc0 := 208) (pc' := 212) rfl (hb hby at_208) (by decide) (by decide) ?_
        refine XS.istore X194.here hx rfl (hb hby at_212) rfl (l' := #[.val (.int p1), .val (.int p2), .val (.int p3), .val (.int p4), .val (.int p5), .val (.ref b1), .val (.ref b8), .val (.int (2 : Int32)), .val (.ref sa160), .val (.ref sa163), .val .null, .val (.ref b166), .val (.int (1 : Int32)), .val (.int (1 : Int32)), .val (.int (1 : Int32)), .unset, .unset]) rfl ?_
        show Steps p.tables e below (T194.setTop (mkF m 214 #[.val (.int p1), .val (.int p2), .val (.int p3), .val (.int p4), .val (.int p5), .val (.ref b1), .val (.ref b8), .val (.int (2 : Int32)), .val (.ref sa160), .val (.ref sa163), .val .null, .val (.ref b166), .val (.int (1 : Int32)), .val (.int (1 : Int32)), .val (.int (1 : Int32)), .unset, .unset] [])) _
        refine XS.aload X194.here hx rfl (hb hby at_214) rfl rfl ?_
        refine XS.aload X194.here hx rfl (hb hby at_216) rfl rfl ?_
        refine XS.aload X194.here hx rfl (hb hby at_218) rfl rfl ?_
        refine st195 _ ?_
        show Steps p.tables e below (T195.setTop (mkF m 223 #[.val (.int p1), .val (.int p2), .val (.int p3), .val (.int p4), .val (.int p5), .val (.ref b1), .val (.ref b8), .val (.int (2 : Int32)), .val (.ref sa160), .val (.ref sa163), .val .null, .val (.ref b166), .val (.int (1 : Int32)), .val (.int (1 : Int32)), .val (.int (1 : Int32)), .unset, .unset] [(.ref fa195)])) _
        refine XS.astore X195.here hx rfl (hb hby at_223) rfl rfl (l' := #[.val (.int p1), .val (.int p2), .val (.int p3), .val (.int p4), .val (.int p5), .val (.ref b1), .val (.ref b8), .val (.int (2 : Int32)), .val (.ref sa160), .val (.ref sa163), .val .null, .val (.ref b166), .val (.int (1 : Int32)), .val (.int (1 : Int32)), .val (.int (1 : Int32)), .val (.ref fa195), .unset]) rfl ?_
        refine XS.aload X195.here hx rfl (hb hby at_225) rfl rfl ?_
        refine st197.trans ?_
        refine XS.istore X197.here hx rfl (hb hby at_230) rfl (l' := #[.val (.int p1), .val (.int p2), .val (.int p3), .val (.int p4), .val (.int p5), .val (.ref b1), .val (.ref b8), .val (.int (2 : Int32)), .val (.ref sa160), .val (.ref sa163), .val .null, .val (.ref b166), .val (.int (1 : Int32)), .val (.int (1 : Int32)), .val (.int (1 : Int32)), .val (.ref fa195), .val (.int (0 : Int32))]) rfl ?_
        show Steps p.tables e below (T197.setTop (mkF m 232 #[.val (.int p1), .val (.int p2), .val (.int p3), .val (.int p4), .val (.int p5), .val (.ref b1), .val (.ref b8), .val (.int (2 : Int32)), .val (.ref sa160), .val (.ref sa163), .val .null, .val (.ref b166), .val (.int (1 : Int32)), .val (.int (1 : Int32)), .val (.int (1 : Int32)), .val (.ref fa195), .val (.int (0 : Int32))] [])) _
        refine XS.iload X197.here hx rfl (hb hby at_232) rfl ?_
        refine XS.iload X197.here hx rfl (hb hby at_234) rfl ?_
        refine XS.icmpNo X197.here hx rfl (hb hby at_236) rfl (teq (by decide : (1 : Int32) = (1 : Int32))).2 ?_
        refine XS.iload X197.here hx rfl (hb hby at_239) rfl ?_
        show Steps p.tables e below (T197.setTop (mkF m 241 #[.val (.int p1), .val (.int p2), .val (.int p3), .val (.int p4), .val (.int p5), .val (.ref b1), .val (.ref b8), .val (.int (2 : Int32)), .val (.ref sa160), .val (.ref sa163), .val .null, .val (.ref b166), .val (.int (1 : Int32)), .val (.int (1 : Int32)), .val (.int (1 : Int32)), .val (.ref fa195), .val (.int (0 : Int32))] [(.int (1 : Int32))])) _
        refine XS.iload X197.here hx rfl (hb hby at_241) rfl ?_
        refine XS.icmpNo X197.here hx rfl (hb hby at_243) rfl (teq (by decide : (1 : Int32) = (1 : Int32))).2 ?_
        refine XS.iload X197.here hx rfl (hb hby at_246) rfl ?_
        refine XS.ifNo X197.here hx rfl (hb hby at_248) rfl ((if0 _ _).trans (teq (by decide : (0 : Int32) = (0 : Int32))).2) ?_
        show Steps p.tables e below (T197.setTop (mkF m 251 #[.val (.int p1), .val (.int p2), .val (.int p3), .val (.int p4), .val (.int p5), .val (.ref b1), .val (.ref b8), .val (.int (2 : Int32)), .val (.ref sa160), .val (.ref sa163), .val .null, .val (.ref b166), .val (.int (1 : Int32)), .val (.int (1 : Int32)), .val (.int (1 : Int32)), .val (.ref fa195), .val (.int (0 : Int32))] [])) _
        refine XS.iconst X197.here hx rfl (hb hby at_251) ?_
        refine XS.goto X197.here hx rfl (pc0 := 252) (pc' := 256) rfl (hb hby at_252) (by decide) (by decide) ?_
        exact k
      obtain ⟨fs, hrt, hrun, hended, hRW⟩ := X197.leaveW hS (by rw [e197]; exact hk) (v := some (.int (1 : Int32))) (fun h => by rw [Bd.returns] at h; cases h)
      refine ⟨_, _, g198 _ ?_, hrun, hended, _, _, rfl, ?_, ?_, hRW.1, hRW.2.1, hRW.2.2.1, hRW.2.2.2.mono (by decide) (by decide)⟩
      · show Steps p.tables e below (T197.setTop (mkF m 256 #[.val (.int p1), .val (.int p2), .val (.int p3), .val (.int p4), .val (.int p5), .val (.ref b1), .val (.ref b8), .val (.int (2 : Int32)), .val (.ref sa160), .val (.ref sa163), .val .null, .val (.ref b166), .val (.int (1 : Int32)), .val (.int (1 : Int32)), .val (.int (1 : Int32)), .val (.ref fa195), .val (.int (0 : Int32))] [(.int (1 : Int32))])) _
        exact retN X197 hx (t := .boolean) Bd.returns (by simp) (hb hby at_256) hrt
      · show own_Q_rm0 Z p1 p2 p3 p4 p5 cs wf h0 n0 _ T197.heap _
        rw [e197]
        exact ⟨rfl, N197⟩
      · rw [hh]
        show CHr Z own_EL s.vm h0 T197.vm T197.heap
        rw [e197]
        exact hC.trans (CHv.at X197 hZ (own_EW hw) hC.1)
    · obtain ⟨a199, T199, h199, k199, X199, e199, E199, hS, hk, hZ, hown, C199, -, st199⟩ := ldcOH (s := s) (vm0 := s.vm) X163 hx hZ hown (own_w hw 84 rfl) (own_wS hw) rfl hS hk (own_EW hw) hC.1 (g := (mkF m 154 #[.val (.int p1), .val (.int p2), .val (.int p3), .val (.int p4), .val (.int p5), .val (.ref b1), .val (.ref b8), .val (.int (2 : Int32)), .val (.ref sa160), .val (.ref sa163), .unset, .unset, .unset, .unset, .unset, .unset, .unset] [])) rfl (hb hby at_154) (n := 4) (by decide) (by decide) (by decide) (by decide)
      have f200 := ((Qe11.keep K160).keep K163)
      have sf_b8 := CHr.safe C199 f200.lt sf_b8
      have f201 := ((Va11.keep K160 nin0).keep K163 nin0)
      have sf_rb11 := CHr.safe C199 f201.lt sf_rb11
      have f202 := (Qe160.keep K163)
      have sf_sa160 := CHr.safe C199 f202.lt sf_sa160
      have f203 := (Qa160.keep K163 nin0)
      have sf_sb160 := CHr.safe C199 f203.lt sf_sb160
      have sf_sa163 := CHr.safe C199 Qe163.lt sf_sa163
      have sf_sb163 := CHr.safe C199 Qa163.lt sf_sb163
      have hC := hC.trans C199
      obtain ⟨T204, h204, X204, e204, E204, A204, D204, -, st204⟩ := newO X199 hx hZ hown (own_w hw 44 rfl) (own_w hw 45 rfl) (own_w hw 46 rfl) e199 (g := (mkF m 158 #[.val (.int p1), .val (.int p2), .val (.int p3), .val (.int p4), .val (.int p5), .val (.ref b1), .val (.ref b8), .val (.int (2 : Int32)), .val (.ref sa160), .val (.ref sa163), .val (.ref a199), .unset, .unset, .unset, .unset, .unset, .unset] [])) rfl (hb hby at_158) (by decide) (by decide)
      obtain ⟨b204, q_b204⟩ : ∃ z, z = h199.size := ⟨_, rfl⟩
      rw [← q_b204] at A204 D204 st204
      have sz_b204 : h0.size ≤ b204 := Nat.le_trans (Nat.le_trans (Nat.le_trans (Nat.le_trans (Nat.le_trans (Nat.le_trans (Nat.le_trans (Nat.le_trans E1.1 (Keep.of_wr W4).1) (Keep.of_wr W7).1) E8.1) K11.1) K160.1) K163.1) E199.1) (Nat.le_of_eq q_b204.symm)
      have gz_b204 : n0 ≤ b204 := Nat.le_trans Z0 sz_b204
      have f205 := ((((f9.keep K11 (ninS ne_b1_b8 nin0)).keep K160 nin0).keep K163 nin0).ext E199)
      have ne_b1_b204 : b1 ≠ b204 := Nat.ne_of_lt (Nat.lt_of_lt_of_le f205.lt (Nat.le_of_eq q_b204.symm))
      have f206 := (f200.ext E199)
      have ne_b8_b204 : b8 ≠ b204 := Nat.ne_of_lt (Nat.lt_of_lt_of_le f206.lt (Nat.le_of_eq q_b204.symm))
      have f207 := (f201.ext E199)
      have ne_rb11_b204 : rb11 ≠ b204 := Nat.ne_of_lt (Nat.lt_of_lt_of_le f207.lt (Nat.le_of_eq q_b204.symm))
      have f208 := (f202.ext E199)
      have ne_sa160_b204 : sa160 ≠ b204 := Nat.ne_of_lt (Nat.lt_of_lt_of_le f208.lt (Nat.le_of_eq q_b204.symm))
      have f209 := (Qe163.ext E199)
      have ne_sa163_b204 : sa163 ≠ b204 := Nat.ne_of_lt (Nat.lt_of_lt_of_le f209.lt (Nat.le_of_eq q_b204.symm))
      have f210 := (f203.ext E199)
      have ne_sb160_b204 : sb160 ≠ b204 := Nat.ne_of_lt (Nat.lt_of_lt_of_le f210.lt (Nat.le_of_eq q_b204.symm))
      have f211 := (Qa163.ext E199)
      have ne_sb163_b204 : sb163 ≠ b204 := Nat.ne_of_lt (Nat.lt_of_lt_of_le f211.lt (Nat.le_of_eq q_b204.symm))
      have sf_b8 := Safe.ext E204 hC.1 sf_b8
      have sf_rb11 := Safe.ext E204 hC.1 sf_rb11
      have sf_sa160 := Safe.ext E204 hC.1 sf_sa160
      have sf_sb160 := Safe.ext E204 hC.1 sf_sb160
      have sf_sa163 := Safe.ext E204 hC.1 sf_sa163
      have sf_sb163 := Safe.ext E204 hC.1 sf_sb163
      have hC := hC.trans (CHr.ext E204 hC.1)
      have hk := Nat.le_trans hk E204.1
      have F204_name : Fld Z h204 b204 "com/example/momus/momus/cli/Option" "name" "Ljava/lang/String;" .null := D204 (Or.inr (own_w hw 57 rfl)) (ty := (.object "java/lang/String")) (by decide)
      have F204_argument : Fld Z h204 b204 "com/example/momus/momus/cli/Option" "argument" "Ljava/lang/String;" .null := D204 (Or.inr (own_w hw 59 rfl)) (ty := (.object "java/lang/String")) (by decide)
      have F204_description : Fld Z h204 b204 "com/example/momus/momus/cli/Option" "description" "Ljava/lang/String;" .null := D204 (Or.inr (own_w hw 61 rfl)) (ty := (.object "java/lang/String")) (by decide)
      have F204_byDefault : Fld Z h204 b204 "com/example/momus/momus/cli/Option" "byDefault" "Ljava/lang/String;" .null := D204 (Or.inr (own_w hw 63 rfl)) (ty := (.object "java/lang/String")) (by decide)
      have o212 : Old Z n0 h204 := (Old.ext (Old.ext (Old.keep o162 K163 all0) E199) E204)
      obtain ⟨_, _, ⟨T213, L213, k213, n213⟩, -, X213, ⟨Lc213, hQ213, l213, y213, z213⟩, st213⟩ := X204.specialBack hx (y := own_y9) rfl hown (mvT hZ (own_w hw 47 rfl)) (mvT hZ (own_w hw 48 rfl)) (mvT hZ (own_w hw 49 rfl)) (by decide) (backOf (W := 1) (rmA50 l Z a0 hw [] b204 b8 sa160 sa163 a199  cs wf h204 n0 o212 G0 A204 F204_argument F204_byDefault F204_description F204_name gz_b204 ) hZ (own_w hw 49 rfl) (own_w hw 46 rfl) (by decide) (by decide)) (g := (mkF m 170 #[.val (.int p1), .val (.int p2), .val (.int p3), .val (.int p4), .val (.int p5), .val (.ref b1), .val (.ref b8), .val (.int (2 : Int32)), .val (.ref sa160), .val (.ref sa163), .val (.ref a199), .unset, .unset, .unset, .unset, .unset, .unset] [(.ref a199), (.ref sa163), (.ref sa160), (.ref b8), (.ref b204), (.ref b204)])) rfl (by rw [hml]; rfl) (Steps.refl _) (a := b204) (argsL := [(.ref b8), (.ref sa160), (.ref sa163), (.ref a199)]) (rest := [(.ref b204)]) (lenOf own_pd10 rfl) rfl (by show 2 * 0 + _ ≤ _; exact Nat.le_of_eq rfl) (hb hby at_170) (fun _ _ => ⟨rfl, e204, (by decide : 10 + 0 ≤ _), (by decide : 30 + 0 ≤ _)⟩)
      dsimp only [Pt.U, Pt.locs, Pt.cells, Pt.slots] at X213 l213 y213 z213 st213 hQ213
      subst l213 y213 z213
      obtain ⟨rfl, Nq213, K213, Q213_0, Q213_1, Q213_2⟩ := hQ213
      have qf213 := (sfS (EL := own_EL) (Safe.exa hZ.alike A204 (by decide) (by decide)) sf0)
      have hCo213 := hC.1
      have sf_b8 := Safe.keep K213 qf213 hC.1 sf_b8
      have sf_rb11 := Safe.keep K213 qf213 hC.1 sf_rb11
      have sf_sa160 := Safe.keep K213 qf213 hC.1 sf_sa160
      have sf_sb160 := Safe.keep K213 qf213 hC.1 sf_sb160
      have sf_sa163 := Safe.keep K213 qf213 hC.1 sf_sa163
      have sf_sb163 := Safe.keep K213 qf213 hC.1 sf_sb163
      have hC := hC.trans (CHr.keep K213 qf213 hC.1)
      have hk := Nat.le_trans hk K213.1
      have N213 := Fr.app N163 Nq213
      have o214 : Old Z n0 T213.heap := (Old.keep o212 K213 (allS gz_b204 all0))
      obtain ⟨cq215, kq215, q215a, q215b, q215c⟩ := isOf hZ rfl Q213_0
      obtain ⟨_, _, ⟨T215, L215, k215, n215⟩, -, X215, ⟨Lc215, hQ215, l215, y215, z215⟩, st215⟩ := X213.virtualBack hx (y := own_y11) (z := own_y11) hown (mvT hZ (own_w hw 64 rfl)) (mvT hZ (own_w hw 65 rfl)) (notFace_of_selects (args := #[]) (mvT hZ (own_w hw 67 rfl))) (mvT hZ (own_w hw 67 rfl)) (mvT hZ (own_w hw 66 rfl)) (by decide) (backOf (W := 0) (rmA20 l Z a0 hw [] b204 sa160  cs wf T213.heap n0 o214 G0 Q213_0 Q213_2  ) hZ (own_w hw 68 rfl) (own_w hw 46 rfl) (by decide) (by decide)) q215a q215c (g := (mkF m 177 #[.val (.int p1), .val (.int p2), .val (.int p3), .val (.int p4), .val (.int p5), .val (.ref b1), .val (.ref b8), .val (.int (2 : Int32)), .val (.ref sa160), .val (.ref sa163), .val (.ref a199), .val (.ref b204), .unset, .unset, .unset, .unset, .unset] [(.ref b204)])) rfl (by rw [hml]; rfl) (Steps.refl _) (argsL := []) (rest := []) (lenOf own_pd11 rfl) rfl (by show 2 * 0 + _ ≤ _; exact Nat.le_of_eq rfl) (hb hby at_177) (fun _ _ => ⟨rfl, rfl, (by decide : 10 + 0 ≤ _), (by decide : 30 + 0 ≤ _)⟩)
      dsimp only [Pt.U, Pt.locs, Pt.cells, Pt.slots] at X215 l215 y215 z215 st215 hQ215
      subst l215 y215 z215
      obtain ⟨rfl, Nq215, e215⟩ := hQ215
      have N215 := Fr.app N213 Nq215
      obtain ⟨LL216, XL216, NL216⟩ : ∃ LL : List Loc, Stand p l e room_1 (s.setVm T199.vm) m #[(.int p1), (.int p2), (.int p3), (.int p4), (.int p5)] below meth c T215 LL 10 30 ∧ Fr n0 LL := ⟨_, X215, N215⟩
      have f217 := ((f208.ext E204).keep K213)
      have f218 := ((((Qc160.keep K163 nin0).ext E199).ext E204).keep K213 (ninS ne_sa160_b204 nin0))
      have f219 := ((f210.ext E204).keep K213 (ninS ne_sb160_b204 nin0))
      have f220 := ((((Qv160.keep K163 nin0).ext E199).ext E204).keep K213 (ninS ne_sa160_b204 nin0))
      have f221 := ((f206.ext E204).keep K213)
      have f222 := (((((Qc11.keep K160 nin0).keep K163 nin0).ext E199).ext E204).keep K213 (ninS ne_b8_b204 nin0))
      have f223 := ((f207.ext E204).keep K213 (ninS ne_rb11_b204 nin0))
      have f224 := (((((Qv11.keep K160 nin0).keep K163 nin0).ext E199).ext E204).keep K213 (ninS ne_b8_b204 nin0))
      obtain ⟨cq225, kq225, q225a, q225b, q225c⟩ := isOf hZ e215 Q213_0
      obtain ⟨_, _, ⟨T225, L225, k225, n225⟩, -, X225, hSn225, hgn225, ⟨Lc225, hQ225, l225, y225, z225, C225⟩, st225⟩ := XL216.virtualBackS hx (y := own_y12) (z := own_y12) hown (mvT hZ (own_w hw 69 rfl)) (mvT hZ (own_w hw 70 rfl)) (notFace_of_selects (args := #[]) (mvT hZ (own_w hw 72 rfl))) (mvT hZ (own_w hw 72 rfl)) (mvT hZ (own_w hw 71 rfl)) (by decide) (backOfSH (s := s) (vm0 := T199.vm) (W := 0) (rmA51 l Z a0 hw [] b204 sa160 sb160 sk160 sl160 b8 rb11 rk11 sl11  cs wf T213.heap n0 o214 G0 Q213_0 f217 f218 f219 f220 Q213_2 f221 f222 f223 f224 Q213_1  ) hZ (own_w hw 73 rfl) (own_w hw 46 rfl) (by decide) (by decide) (own_EW hw) hC.1) q225a q225c (g := (mkF m 196 #[.val (.int p1), .val (.int p2), .val (.int p3), .val (.int p4), .val (.int p5), .val (.ref b1), .val (.ref b8), .val (.int (2 : Int32)), .val (.ref sa160), .val (.ref sa163), .val (.ref a199), .val (.ref b204), .val (.int (1 : Int32)), .val (.int (1 : Int32)), .unset, .unset, .unset] [(.ref b204)])) rfl (by rw [hml]; rfl) (Steps.refl _) (argsL := []) (rest := []) (lenOf own_pd12 rfl) rfl (by show 2 * 0 + _ ≤ _; exact Nat.le_of_eq rfl) (hb hby at_196) (fun _ _ => ⟨rfl, e215, (by decide : 10 + 6 ≤ _), (by decide : 30 + 37 ≤ _)⟩)
      dsimp only [Pt.U, Pt.locs, Pt.cells, Pt.slots] at X225 l225 y225 z225 st225 hQ225 hSn225 hgn225 C225
      subst l225 y225 z225
      have hS := foldS hS (by rw [e215]; exact hk) hSn225 hgn225
      have hk := Nat.le_refl T225.heap.size
      have hZ : Z.Warmed39 T225.vm := State.Warmed39.trans (t := s.setVm T199.vm) hZ hSn225.1
      have hown : T225.vm.findClass "com/example/momus/momus/cli/OptionTakesValuePinLaw" = some m.cls := by rw [hSn225.1.alike.findClass]; exact hown
      have sf_b8 := CHr.safe C225 f221.lt sf_b8
      have sf_rb11 := CHr.safe C225 f223.lt sf_rb11
      have sf_sa160 := CHr.safe C225 f217.lt sf_sa160
      have sf_sb160 := CHr.safe C225 f219.lt sf_sb160
      have f226 := ((f209.ext E204).keep K213)
      have sf_sa163 := CHr.safe C225 f226.lt sf_sa163
      have f227 := ((f211.ext E204).keep K213 (ninS ne_sb163_b204 nin0))
      have sf_sb163 := CHr.safe C225 f227.lt sf_sb163
      have hC := hC.trans C225
      obtain ⟨sa225, sb225, sk225, sl225, rfl, Nq225, K225, hba225, hbb225, Qe225, Qc225, Qv225, Qa225⟩ := hQ225
      have N225 := Fr.app NL216 Nq225
      obtain ⟨LL228, XL228, NL228⟩ : ∃ LL : List Loc, Stand p l e room_1 (s.setVm T225.vm) m #[(.int p1), (.int p2), (.int p3), (.int p4), (.int p5)] below meth c T225 LL 16 67 ∧ Fr n0 LL := ⟨_, X225, N225⟩
      have sz_sa225 : h0.size ≤ sa225 := Nat.le_trans (Nat.le_trans (Nat.le_trans (Nat.le_trans (Nat.le_trans (Nat.le_trans (Nat.le_trans (Nat.le_trans (Nat.le_trans (Nat.le_trans E1.1 (Keep.of_wr W4).1) (Keep.of_wr W7).1) E8.1) K11.1) K160.1) K163.1) E199.1) E204.1) K213.1) hba225
      have gz_sa225 : n0 ≤ sa225 := Nat.le_trans Z0 sz_sa225
      have ne_b1_sa225 : b1 ≠ sa225 := Nat.ne_of_lt (Nat.lt_of_lt_of_le ((f205.ext E204).keep K213 (ninS ne_b1_b204 nin0)).lt hba225)
      have ne_b204_sa225 : b204 ≠ sa225 := Nat.ne_of_lt (Nat.lt_of_lt_of_le Q213_0.lt hba225)
      have ne_b8_sa225 : b8 ≠ sa225 := Nat.ne_of_lt (Nat.lt_of_lt_of_le f221.lt hba225)
      have ne_rb11_sa225 : rb11 ≠ sa225 := Nat.ne_of_lt (Nat.lt_of_lt_of_le f223.lt hba225)
      have ne_sa160_sa225 : sa160 ≠ sa225 := Nat.ne_of_lt (Nat.lt_of_lt_of_le f217.lt hba225)
      have ne_sa163_sa225 : sa163 ≠ sa225 := Nat.ne_of_lt (Nat.lt_of_lt_of_le f226.lt hba225)
      have ne_sb160_sa225 : sb160 ≠ sa225 := Nat.ne_of_lt (Nat.lt_of_lt_of_le f219.lt hba225)
      have ne_sb163_sa225 : sb163 ≠ sa225 := Nat.ne_of_lt (Nat.lt_of_lt_of_le f227.lt hba225)
      have sz_sb225 : h0.size ≤ sb225 := Nat.le_trans (Nat.le_trans (Nat.le_trans (Nat.le_trans (Nat.le_trans (Nat.le_trans (Nat.le_trans (Nat.le_trans (Nat.le_trans (Nat.le_trans E1.1 (Keep.of_wr W4).1) (Keep.of_wr W7).1) E8.1) K11.1) K160.1) K163.1) E199.1) E204.1) K213.1) hbb225
      have gz_sb225 : n0 ≤ sb225 := Nat.le_trans Z0 sz_sb225
      have ne_b1_sb225 : b1 ≠ sb225 := Nat.ne_of_lt (Nat.lt_of_lt_of_le ((f205.ext E204).keep K213 (ninS ne_b1_b204 nin0)).lt hbb225)
      have ne_b204_sb225 : b204 ≠ sb225 := Nat.ne_of_lt (Nat.lt_of_lt_of_le Q213_0.lt hbb225)
      have ne_b8_sb225 : b8 ≠ sb225 := Nat.ne_of_lt (Nat.lt_of_lt_of_le f221.lt hbb225)
      have ne_rb11_sb225 : rb11 ≠ sb225 := Nat.ne_of_lt (Nat.lt_of_lt_of_le f223.lt hbb225)
      have ne_sa160_sb225 : sa160 ≠ sb225 := Nat.ne_of_lt (Nat.lt_of_lt_of_le f217.lt hbb225)
      have ne_sa163_sb225 : sa163 ≠ sb225 := Nat.ne_of_lt (Nat.lt_of_lt_of_le f226.lt hbb225)
      have ne_sb160_sb225 : sb160 ≠ sb225 := Nat.ne_of_lt (Nat.lt_of_lt_of_le f219.lt hbb225)
      have ne_sb163_sb225 : sb163 ≠ sb225 := Nat.ne_of_lt (Nat.lt_of_lt_of_le f227.lt hbb225)
      have f229 := (f221.keep K225)
      have f230 := (f222.keep K225 nin0)
      have f231 := (f223.keep K225 nin0)
      have f232 := (f224.keep K225 nin0)
      have o233 : Old Z n0 T225.heap := (Old.keep o214 K225 all0)
      obtain ⟨cq234, kq234, q234a, q234b, q234c⟩ := isOf hZ rfl Qe225
      obtain ⟨_, _, ⟨T234, L234, k234, n234⟩, -, X234, ⟨Lc234, hQ234, l234, y234, z234⟩, st234⟩ := XL228.virtualBack hx (y := own_y13) (z := own_y13) hown (mvT hZ (own_w hw 74 rfl)) (mvT hZ (own_w hw 75 rfl)) (notFace_of_selects (args := #[]) (mvT hZ (own_w hw 77 rfl))) (mvT hZ (own_w hw 77 rfl)) (mvT hZ (own_w hw 76 rfl)) (by decide) (backOf (W := 0) (rmA52 l Z a0 hw [] sa225 sb225 sk225 sl225 b8 rb11 rk11 sl11  cs wf T225.heap n0 o233 G0 Qe225 Qc225 Qa225 Qv225 f229 f230 f231 f232  (Ne.symm ne_b8_sa225)) hZ (own_w hw 78 rfl) (own_w hw 3 rfl) (by decide) (by decide)) q234a q234c (g := (mkF m 201 #[.val (.int p1), .val (.int p2), .val (.int p3), .val (.int p4), .val (.int p5), .val (.ref b1), .val (.ref b8), .val (.int (2 : Int32)), .val (.ref sa160), .val (.ref sa163), .val (.ref a199), .val (.ref b204), .val (.int (1 : Int32)), .val (.int (1 : Int32)), .unset, .unset, .unset] [(.ref b8), (.ref sa225)])) rfl (by rw [hml]; rfl) (Steps.refl _) (argsL := [(.ref b8)]) (rest := []) (lenOf own_pd13 rfl) rfl (by show 2 * 0 + _ ≤ _; exact Nat.le_of_eq rfl) (hb hby at_201) (fun _ _ => ⟨rfl, rfl, (by decide : 16 + 0 ≤ _), (by decide : 67 + 0 ≤ _)⟩)
      dsimp only [Pt.U, Pt.locs, Pt.cells, Pt.slots] at X234 l234 y234 z234 st234 hQ234
      subst l234 y234 z234
      obtain ⟨rfl, Nq234, e234⟩ := hQ234
      have N234 := Fr.app NL228 Nq234
      obtain ⟨_, _, ⟨T235, L235, k235, n235⟩, -, X235, ⟨Lc235, hQ235, l235, y235, z235⟩, st235⟩ := Jvm.LawKit.callS X234 hx (y := own_y14) hown (mvT hZ (own_w hw 79 rfl)) (mvT hZ (own_w hw 80 rfl)) (mvT hZ (own_w hw 46 rfl)) (mvT hZ (own_w hw 81 rfl)) (by decide) (backOf (W := 0) (rmA16 l Z a0 hw [] b8 sa163 a199  cs wf T225.heap n0 o233 G0   ) hZ (own_w hw 81 rfl) (own_w hw 46 rfl) (by decide) (by decide)) (g := (mkF m 220 #[.val (.int p1), .val (.int p2), .val (.int p3), .val (.int p4), .val (.int p5), .val (.ref b1), .val (.ref b8), .val (.int (2 : Int32)), .val (.ref sa160), .val (.ref sa163), .val (.ref a199), .val (.ref b204), .val (.int (1 : Int32)), .val (.int (1 : Int32)), .val (.int (1 : Int32)), .unset, .unset] [(.ref a199), (.ref sa163), (.ref b8)])) rfl (by rw [hml]; rfl) (argsL := [(.ref b8), (.ref sa163), (.ref a199)]) (rest := []) (lenOf own_pd14 rfl) rfl (by show 2 * 0 + _ ≤ _; exact Nat.le_of_eq rfl) (hb hby at_220) (fun _ _ => ⟨rfl, e234, (by decide : 16 + 1 ≤ _), (by decide : 67 + 4 ≤ _)⟩)
      dsimp only [Pt.U, Pt.locs, Pt.cells, Pt.slots] at X235 l235 y235 z235 st235 hQ235
      subst l235 y235 z235
      obtain ⟨fa235, rfl, Nq235, K235, hb235, Qe235, Qg235⟩ := hQ235
      have hCo235 := hC.1
      have sf_b8 := Safe.keep K235 sf0 hC.1 sf_b8
      have sf_rb11 := Safe.keep K235 sf0 hC.1 sf_rb11
      have sf_sa160 := Safe.keep K235 sf0 hC.1 sf_sa160
      have sf_sb160 := Safe.keep K235 sf0 hC.1 sf_sb160
      have sf_sa163 := Safe.keep K235 sf0 hC.1 sf_sa163
      have sf_sb163 := Safe.keep K235 sf0 hC.1 sf_sb163
      have hC := hC.trans (CHr.keep K235 sf0 hC.1)
      have hk := Nat.le_trans hk K235.1
      have N235 := Fr.app N234 Nq235
      have sz_fa235 : h0.size ≤ fa235 := Nat.le_trans (Nat.le_trans (Nat.le_trans (Nat.le_trans (Nat.le_trans (Nat.le_trans (Nat.le_trans (Nat.le_trans (Nat.le_trans (Nat.le_trans (Nat.le_trans E1.1 (Keep.of_wr W4).1) (Keep.of_wr W7).1) E8.1) K11.1) K160.1) K163.1) E199.1) E204.1) K213.1) K225.1) hb235
      have gz_fa235 : n0 ≤ fa235 := Nat.le_trans Z0 sz_fa235
      have sf_fa235 := Safe.keep (EL := own_EL) K235 sf0 hCo235 (Safe.new hb235)
      have ne_b1_fa235 : b1 ≠ fa235 := Nat.ne_of_lt (Nat.lt_of_lt_of_le (((f205.ext E204).keep K213 (ninS ne_b1_b204 nin0)).keep K225 nin0).lt hb235)
      have ne_b204_fa235 : b204 ≠ fa235 := Nat.ne_of_lt (Nat.lt_of_lt_of_le (Q213_0.keep K225).lt hb235)
      have ne_b8_fa235 : b8 ≠ fa235 := Nat.ne_of_lt (Nat.lt_of_lt_of_le f229.lt hb235)
      have ne_rb11_fa235 : rb11 ≠ fa235 := Nat.ne_of_lt (Nat.lt_of_lt_of_le f231.lt hb235)
      have ne_sa160_fa235 : sa160 ≠ fa235 := Nat.ne_of_lt (Nat.lt_of_lt_of_le (f217.keep K225).lt hb235)
      have ne_sa163_fa235 : sa163 ≠ fa235 := Nat.ne_of_lt (Nat.lt_of_lt_of_le (f226.keep K225).lt hb235)
      have ne_sa225_fa235 : sa225 ≠ fa235 := Nat.ne_of_lt (Nat.lt_of_lt_of_le Qe225.lt hb235)
      have ne_sb160_fa235 : sb160 ≠ fa235 := Nat.ne_of_lt (Nat.lt_of_lt_of_le (f219.keep K225 nin0).lt hb235)
      have ne_sb163_fa235 : sb163 ≠ fa235 := Nat.ne_of_lt (Nat.lt_of_lt_of_le (f227.keep K225 nin0).lt hb235)
      have ne_sb225_fa235 : sb225 ≠ fa235 := Nat.ne_of_lt (Nat.lt_of_lt_of_le Qa225.lt hb235)
      have o236 : Old Z n0 T235.heap := (Old.keep o233 K235 all0)
      obtain ⟨cq237, kq237, q237a, q237b, q237c⟩ := isOf hZ rfl Qe235
      obtain ⟨_, _, ⟨T237, L237, k237, n237⟩, -, X237, ⟨Lc237, hQ237, l237, y237, z237⟩, st237⟩ := X235.virtualBack hx (y := own_y11) (z := own_y11) hown (mvT hZ (own_w hw 64 rfl)) (mvT hZ (own_w hw 65 rfl)) (notFace_of_selects (args := #[]) (mvT hZ (own_w hw 67 rfl))) (mvT hZ (own_w hw 67 rfl)) (mvT hZ (own_w hw 66 rfl)) (by decide) (backOf (W := 0) (rmA11 l Z a0 hw [] fa235  cs wf T235.heap n0 o236 G0 Qe235 Qg235  ) hZ (own_w hw 68 rfl) (own_w hw 46 rfl) (by decide) (by decide)) q237a q237c (g := (mkF m 227 #[.val (.int p1), .val (.int p2), .val (.int p3), .val (.int p4), .val (.int p5), .val (.ref b1), .val (.ref b8), .val (.int (2 : Int32)), .val (.ref sa160), .val (.ref sa163), .val (.ref a199), .val (.ref b204), .val (.int (1 : Int32)), .val (.int (1 : Int32)), .val (.int (1 : Int32)), .val (.ref fa235), .unset] [(.ref fa235)])) rfl (by rw [hml]; rfl) (Steps.refl _) (argsL := []) (rest := []) (lenOf own_pd11 rfl) rfl (by show 2 * 0 + _ ≤ _; exact Nat.le_of_eq rfl) (hb hby at_227) (fun _ _ => ⟨rfl, rfl, (by decide : 17 + 0 ≤ _), (by decide : 71 + 0 ≤ _)⟩)
      dsimp only [Pt.U, Pt.locs, Pt.cells, Pt.slots] at X237 l237 y237 z237 st237 hQ237
      subst l237 y237 z237
      obtain ⟨rfl, Nq237, e237⟩ := hQ237
      have N237 := Fr.app N235 Nq237
      have g238 : ∀ t, Steps p.tables e below (T237.setTop (mkF m 256 #[.val (.int p1), .val (.int p2), .val (.int p3), .val (.int p4), .val (.int p5), .val (.ref b1), .val (.ref b8), .val (.int (2 : Int32)), .val (.ref sa160), .val (.ref sa163), .val (.ref a199), .val (.ref b204), .val (.int (1 : Int32)), .val (.int (1 : Int32)), .val (.int (1 : Int32)), .val (.ref fa235), .val (.int (0 : Int32))] [(.int (1 : Int32))])) t → Steps p.tables e below (s₁.setTop (entryFrame m #[(.int p1), (.int p2), (.int p3), (.int p4), (.int p5)] maxLocals)) t := by
        intro t k
        refine g164 t ?_
        show Steps p.tables e below (T163.setTop (mkF m 147 #[.val (.int p1), .val (.int p2), .val (.int p3), .val (.int p4), .val (.int p5), .val (.ref b1), .val (.ref b8), .val (.int (2 : Int32)), .val (.ref sa160), .val (.ref sa163), .unset, .unset, .unset, .unset, .unset, .unset, .unset] [(.int bd)])) _
        refine XS.ifYes X163.here hx rfl (pc0 := 147) (pc' := 154) rfl (hb hby at_147) rfl ((if0 _ _).trans (feq hc165).2) (by decide) (by decide) ?_
        refine st199 _ ?_
        refine XS.astore X199.here hx rfl (hb hby at_156) rfl rfl (l' := #[.val (.int p1), .val (.int p2), .val (.int p3), .val (.int p4), .val (.int p5), .val (.ref b1), .val (.ref b8), .val (.int (2 : Int32)), .val (.ref sa160), .val (.ref sa163), .val (.ref a199), .unset, .unset, .unset, .unset, .unset, .unset]) rfl ?_
        refine st204 _ ?_
        show Steps p.tables e below (T204.setTop (mkF m 161 #[.val (.int p1), .val (.int p2), .val (.int p3), .val (.int p4), .val (.int p5), .val (.ref b1), .val (.ref b8), .val (.int (2 : Int32)), .val (.ref sa160), .val (.ref sa163), .val (.ref a199), .unset, .unset, .unset, .unset, .unset, .unset] [(.ref b204)])) _
        refine XS.dup X204.here hx rfl (hb hby at_161) rfl rfl ?_
        refine XS.aload X204.here hx rfl (hb hby at_162) rfl rfl ?_
        refine XS.aload X204.here hx rfl (hb hby at_164) rfl rfl ?_
        refine XS.aload X204.here hx rfl (hb hby at_166) rfl rfl ?_
        show Steps p.tables e below (T204.setTop (mkF m 168 #[.val (.int p1), .val (.int p2), .val (.int p3), .val (.int p4), .val (.int p5), .val (.ref b1), .val (.ref b8), .val (.int (2 : Int32)), .val (.ref sa160), .val (.ref sa163), .val (.ref a199), .unset, .unset, .unset, .unset, .unset, .unset] [(.ref sa163), (.ref sa160), (.ref b8), (.ref b204), (.ref b204)])) _
        refine XS.aload X204.here hx rfl (hb hby at_168) rfl rfl ?_
        refine st213.trans ?_
        refine XS.astore X213.here hx rfl (hb hby at_173) rfl rfl (l' := #[.val (.int p1), .val (.int p2), .val (.int p3), .val (.int p4), .val (.int p5), .val (.ref b1), .val (.ref b8), .val (.int (2 : Int32)), .val (.ref sa160), .val (.ref sa163), .val (.ref a199), .val (.ref b204), .unset, .unset, .unset, .unset, .unset]) rfl ?_
        refine XS.aload X213.here hx rfl (hb hby at_175) rfl rfl ?_
        show Steps p.tables e below (T213.setTop (mkF m 177 #[.val (.int p1), .val (.int p2), .val (.int p3), .val (.int p4), .val (.int p5), .val (.ref b1), .val (.ref b8), .val (.int (2 : Int32)), .val (.ref sa160), .val (.ref sa163), .val (.ref a199), .val (.ref b204), .unset, .unset, .unset, .unset, .unset] [(.ref b204)])) _
        refine st215.trans ?_
        refine XS.istore X215.here hx rfl (hb hby at_180) rfl (l' := #[.val (.int p1), .val (.int p2), .val (.int p3), .val (.int p4), .val (.int p5), .val (.ref b1), .val (.ref b8), .val (.int (2 : Int32)), .val (.ref sa160), .val (.ref sa163), .val (.ref a199), .val (.ref b204), .val (.int (1 : Int32)), .unset, .unset, .unset, .unset]) rfl ?_
        refine XS.iload X215.here hx rfl (hb hby at_182) rfl ?_
        refine XS.ifNo X215.here hx rfl (hb hby at_184) rfl ((if0 _ _).trans (feq (by decide : ¬ ((2 : Int32) = (0 : Int32)))).1) ?_
        show Steps p.tables e below (T215.setTop (mkF m 187 #[.val (.int p1), .val (.int p2), .val (.int p3), .val (.int p4), .val (.int p5), .val (.ref b1), .val (.ref b8), .val (.int (2 : Int32)), .val (.ref sa160), .val (.ref sa163), .val (.ref a199), .val (.ref b204), .val (.int (1 : Int32)), .unset, .unset, .unset, .unset] [])) _
        refine XS.iconst X215.here hx rfl (hb hby at_187) ?_
        refine XS.goto X215.here hx rfl (pc0 := 188) (pc' := 192) rfl (hb hby at_188) (by decide) (by decide) ?_
        refine XS.istore X215.here hx rfl (hb hby at_192) rfl (l' := #[.val (.int p1), .val (.int p2), .val (.int p3), .val (.int p4), .val (.int p5), .val (.ref b1), .val (.ref b8), .val (.int (2 : Int32)), .val (.ref sa160), .val (.ref sa163), .val (.ref a199), .val (.ref b204), .val (.int (1 : Int32)), .val (.int (1 : Int32)), .unset, .unset, .unset]) rfl ?_
        refine XS.aload X215.here hx rfl (hb hby at_194) rfl rfl ?_
        show Steps p.tables e below (T215.setTop (mkF m 196 #[.val (.int p1), .val (.int p2), .val (.int p3), .val (.int p4), .val (.int p5), .val (.ref b1), .val (.ref b8), .val (.int (2 : Int32)), .val (.ref sa160), .val (.ref sa163), .val (.ref a199), .val (.ref b204), .val (.int (1 : Int32)), .val (.int (1 : Int32)), .unset, .unset, .unset] [(.ref b204)])) _
        refine st225.trans ?_
        refine XS.aload XL228.here hx rfl (hb hby at_199) rfl rfl ?_
        refine st234.trans ?_
        refine XS.ifNo X234.here hx rfl (hb hby at_204) rfl ((if0 _ _).trans (teq (by decide : (0 : Int32) = (0 : Int32))).2) ?_
        show Steps p.tables e below (T234.setTop (mkF m 207 #[.val (.int p1), .val (.int p2), .val (.int p3), .val (.int p4), .val (.int p5), .val (.ref b1), .val (.ref b8), .val (.int (2 : Int32)), .val (.ref sa160), .val (.ref sa163), .val (.ref a199), .val (.ref b204), .val (.int (1 : Int32)), .val (.int (1 : Int32)), .unset, .unset, .unset] [])) _
        refine XS.iconst X234.here hx rfl (hb hby at_207) ?_
        refine XS.goto X234.here hx rfl (pc0 := 208) (pc' := 212) rfl (hb hby at_208) (by decide) (by decide) ?_
        refine XS.istore X234.here hx rfl (hb hby at_212) rfl (l' := #[.val (.int p1), .val (.int p2), .val (.int p3), .val (.int p4), .val (.int p5), .val (.ref b1), .val (.ref b8), .val (.int (2 : Int32)), .val (.ref sa160), .val (.ref sa163), .val (.ref a199), .val (.ref b204), .val (.int (1 : Int32)), .val (.int (1 : Int32)), .val (.int (1 : Int32)), .unset, .unset]) rfl ?_
        refine XS.aload X234.here hx rfl (hb hby at_214) rfl rfl ?_
        show Steps p.tables e below (T234.setTop (mkF m 216 #[.val (.int p1), .val (.int p2), .val (.int p3), .val (.int p4), .val (.int p5), .val (.ref b1), .val (.ref b8), .val (.int (2 : Int32)), .val (.ref sa160), .val (.ref sa163), .val (.ref a199), .val (.ref b204), .val (.int (1 : Int32)), .val (.int (1 : Int32)), .val (.int (1 : Int32)), .unset, .unset] [(.ref b8)])) _
        refine XS.aload X234.here hx rfl (hb hby at_216) rfl rfl ?_
        refine XS.aload X234.here hx rfl (hb hby at_218) rfl rfl ?_
        refine st235 _ ?_
        refine XS.astore X235.here hx rfl (hb hby at_223) rfl rfl (l' := #[.val (.int p1), .val (.int p2), .val (.int p3), .val (.int p4), .val (.int p5), .val (.ref b1), .val (.ref b8), .val (.int (2 : Int32)), .val (.ref sa160), .val (.ref sa163), .val (.ref a199), .val (.ref b204), .val (.int (1 : Int32)), .val (.int (1 : Int32)), .val (.int (1 : Int32)), .val (.ref fa235), .unset]) rfl ?_
        show Steps p.tables e below (T235.setTop (mkF m 225 #[.val (.int p1), .val (.int p2), .val (.int p3), .val (.int p4), .val (.int p5), .val (.ref b1), .val (.ref b8), .val (.int (2 : Int32)), .val (.ref sa160), .val (.ref sa163), .val (.ref a199), .val (.ref b204), .val (.int (1 : Int32)), .val (.int (1 : Int32)), .val (.int (1 : Int32)), .val (.ref fa235), .unset] [])) _
        refine XS.aload X235.here hx rfl (hb hby at_225) rfl rfl ?_
        refine st237.trans ?_
        refine XS.istore X237.here hx rfl (hb hby at_230) rfl (l' := #[.val (.int p1), .val (.int p2), .val (.int p3), .val (.int p4), .val (.int p5), .val (.ref b1), .val (.ref b8), .val (.int (2 : Int32)), .val (.ref sa160), .val (.ref sa163), .val (.ref a199), .val (.ref b204), .val (.int (1 : Int32)), .val (.int (1 : Int32)), .val (.int (1 : Int32)), .val (.ref fa235), .val (.int (0 : Int32))]) rfl ?_
        refine XS.iload X237.here hx rfl (hb hby at_232) rfl ?_
        show Steps p.tables e below (T237.setTop (mkF m 234 #[.val (.int p1), .val (.int p2), .val (.int p3), .val (.int p4), .val (.int p5), .val (.ref b1), .val (.ref b8), .val (.int (2 : Int32)), .val (.ref sa160), .val (.ref sa163), .val (.ref a199), .val (.ref b204), .val (.int (1 : Int32)), .val (.int (1 : Int32)), .val (.int (1 : Int32)), .val (.ref fa235), .val (.int (0 : Int32))] [(.int (1 : Int32))])) _
        refine XS.iload X237.here hx rfl (hb hby at_234) rfl ?_
        refine XS.icmpNo X237.here hx rfl (hb hby at_236) rfl (teq (by decide : (1 : Int32) = (1 : Int32))).2 ?_
        refine XS.iload X237.here hx rfl (hb hby at_239) rfl ?_
        refine XS.iload X237.here hx rfl (hb hby at_241) rfl ?_
        show Steps p.tables e below (T237.setTop (mkF m 243 #[.val (.int p1), .val (.int p2), .val (.int p3), .val (.int p4), .val (.int p5), .val (.ref b1), .val (.ref b8), .val (.int (2 : Int32)), .val (.ref sa160), .val (.ref sa163), .val (.ref a199), .val (.ref b204), .val (.int (1 : Int32)), .val (.int (1 : Int32)), .val (.int (1 : Int32)), .val (.ref fa235), .val (.int (0 : Int32))] [(.int (1 : Int32)), (.int (1 : Int32))])) _
        refine XS.icmpNo X237.here hx rfl (hb hby at_243) rfl (teq (by decide : (1 : Int32) = (1 : Int32))).2 ?_
        refine XS.iload X237.here hx rfl (hb hby at_246) rfl ?_
        refine XS.ifNo X237.here hx rfl (hb hby at_248) rfl ((if0 _ _).trans (teq (by decide : (0 : Int32) = (0 : Int32))).2) ?_
        refine XS.iconst X237.here hx rfl (hb hby at_251) ?_
        show Steps p.tables e below (T237.setTop (mkF m 252 #[.val (.int p1), .val (.int p2), .val (.int p3), .val (.int p4), .val (.int p5), .val (.ref b1), .val (.ref b8), .val (.int (2 : Int32)), .val (.ref sa160), .val (.ref sa163), .val (.ref a199), .val (.ref b204), .val (.int (1 : Int32)), .val (.int (1 : Int32)), .val (.int (1 : Int32)), .val (.ref fa235), .val (.int (0 : Int32))] [(.int (1 : Int32))])) _
        refine XS.goto X237.here hx rfl (pc0 := 252) (pc' := 256) rfl (hb hby at_252) (by decide) (by decide) ?_
        exact k
      obtain ⟨fs, hrt, hrun, hended, hRW⟩ := X237.leaveW hS (by rw [e237]; exact hk) (v := some (.int (1 : Int32))) (fun h => by rw [Bd.returns] at h; cases h)
      refine ⟨_, _, g238 _ ?_, hrun, hended, _, _, rfl, ?_, ?_, hRW.1, hRW.2.1, hRW.2.2.1, hRW.2.2.2.mono (by decide) (by decide)⟩
      · show Steps p.tables e below (T237.setTop (mkF m 256 #[.val (.int p1), .val (.int p2), .val (.int p3), .val (.int p4), .val (.int p5), .val (.ref b1), .val (.ref b8), .val (.int (2 : Int32)), .val (.ref sa160), .val (.ref sa163), .val (.ref a199), .val (.ref b204), .val (.int (1 : Int32)), .val (.int (1 : Int32)), .val (.int (1 : Int32)), .val (.ref fa235), .val (.int (0 : Int32))] [(.int (1 : Int32))])) _
        exact retN X237 hx (t := .boolean) Bd.returns (by simp) (hb hby at_256) hrt
      · show own_Q_rm0 Z p1 p2 p3 p4 p5 cs wf h0 n0 _ T237.heap _
        rw [e237]
        exact ⟨rfl, N237⟩
      · rw [hh]
        show CHr Z own_EL s.vm h0 T237.vm T237.heap
        rw [e237]
        exact hC.trans (CHv.at X237 hZ (own_EW hw) hC.1)
  · skip
    obtain ⟨T239, h239, k239, X239, e239, E239, A239, st239⟩ := newP X11 hx hZ (own_w hw 0 rfl) rfl (g := (mkF m 95 #[.val (.int p1), .val (.int p2), .val (.int p3), .val (.int p4), .val (.int p5), .val (.ref b1), .val (.ref b8), .val (.int (3 : Int32)), .unset, .unset, .unset, .unset, .unset, .unset, .unset, .unset, .unset] [(.int (2 : Int32))])) rfl (hb hby at_95) rfl (by decide) (cap := 2) (by decide) (by decide) (by decide) (by decide)
    obtain ⟨b239, q_b239⟩ : ∃ z, z = T11.heap.size := ⟨_, rfl⟩
    rw [← q_b239] at A239 st239
    have sz_b239 : h0.size ≤ b239 := Nat.le_trans (Nat.le_trans (Nat.le_trans (Nat.le_trans (Nat.le_trans E1.1 (Keep.of_wr W4).1) (Keep.of_wr W7).1) E8.1) K11.1) (Nat.le_of_eq q_b239.symm)
    have gz_b239 : n0 ≤ b239 := Nat.le_trans Z0 sz_b239
    have f240 := (f9.keep K11 (ninS ne_b1_b8 nin0))
    have ne_b1_b239 : b1 ≠ b239 := Nat.ne_of_lt (Nat.lt_of_lt_of_le f240.lt (Nat.le_of_eq q_b239.symm))
    have ne_b8_b239 : b8 ≠ b239 := Nat.ne_of_lt (Nat.lt_of_lt_of_le Qe11.lt (Nat.le_of_eq q_b239.symm))
    have ne_rb11_b239 : rb11 ≠ b239 := Nat.ne_of_lt (Nat.lt_of_lt_of_le Va11.lt (Nat.le_of_eq q_b239.symm))
    have V239 : Arv Z h239 b239 k239 .char (2 : Int32) [(.int (0 : Int32)), (.int (0 : Int32))] (.int (0 : Int32)) := (Arv.new A239 (by decide)).pad (pad_rep [] (.int (0 : Int32)) 2)
    have sf_b8 := Safe.ext E239 hC.1 sf_b8
    have sf_rb11 := Safe.ext E239 hC.1 sf_rb11
    have hC := hC.trans (CHr.ext E239 hC.1)
    have hk := Nat.le_trans hk E239.1
    obtain ⟨d2, hv_d2⟩ : ∃ z : Int32, z = ((p3 &&& (255 : Int32)).toUInt32.toUInt16.toUInt32.toInt32) := ⟨_, rfl⟩
    have g241 : ∀ t, Steps p.tables e below (T239.setTop (mkF m 108 #[.val (.int p1), .val (.int p2), .val (.int p3), .val (.int p4), .val (.int p5), .val (.ref b1), .val (.ref b8), .val (.int (3 : Int32)), .unset, .val (.ref b239), .unset, .unset, .unset, .unset, .unset, .unset, .unset] [(.int d2), (.int (0 : Int32)), (.ref b239)])) t → Steps p.tables e below (s₁.setTop (entryFrame m #[(.int p1), (.int p2), (.int p3), (.int p4), (.int p5)] maxLocals)) t := by
      intro t k
      rw [hv_d2] at k
      refine g13 t ?_
      show Steps p.tables e below (T11.setTop (mkF m 42 #[.val (.int p1), .val (.int p2), .val (.int p3), .val (.int p4), .val (.int p5), .val (.ref b1), .val (.ref b8), .val (.int (3 : Int32)), .unset, .unset, .unset, .unset, .unset, .unset, .unset, .unset, .unset] [])) _
      refine XS.iload X11.here hx rfl (hb hby at_42) rfl ?_
      refine XS.ifYes X11.here hx rfl (pc0 := 44) (pc' := 53) rfl (hb hby at_44) rfl ((if0 _ _).trans (feq (by decide : ¬ ((3 : Int32) = (0 : Int32)))).2) (by decide) (by decide) ?_
      refine XS.iload X11.here hx rfl (hb hby at_53) rfl ?_
      refine XS.iconst X11.here hx rfl (hb hby at_55) ?_
      show Steps p.tables e below (T11.setTop (mkF m 56 #[.val (.int p1), .val (.int p2), .val (.int p3), .val (.int p4), .val (.int p5), .val (.ref b1), .val (.ref b8), .val (.int (3 : Int32)), .unset, .unset, .unset, .unset, .unset, .unset, .unset, .unset, .unset] [(.int (1 : Int32)), (.int (3 : Int32))])) _
      refine XS.icmpYes X11.here hx rfl (pc0 := 56) (pc' := 74) rfl (hb hby at_56) rfl (feq (by decide : ¬ ((3 : Int32) = (1 : Int32)))).2 (by decide) (by decide) ?_
      refine XS.iload X11.here hx rfl (hb hby at_74) rfl ?_
      refine XS.iconst X11.here hx rfl (hb hby at_76) ?_
      refine XS.icmpYes X11.here hx rfl (pc0 := 77) (pc' := 94) rfl (hb hby at_77) rfl (feq (by decide : ¬ ((3 : Int32) = (2 : Int32)))).2 (by decide) (by decide) ?_
      show Steps p.tables e below (T11.setTop (mkF m 94 #[.val (.int p1), .val (.int p2), .val (.int p3), .val (.int p4), .val (.int p5), .val (.ref b1), .val (.ref b8), .val (.int (3 : Int32)), .unset, .unset, .unset, .unset, .unset, .unset, .unset, .unset, .unset] [])) _
      refine XS.iconst X11.here hx rfl (hb hby at_94) ?_
      refine st239 _ ?_
      refine XS.astore X239.here hx rfl (hb hby at_97) rfl rfl (l' := #[.val (.int p1), .val (.int p2), .val (.int p3), .val (.int p4), .val (.int p5), .val (.ref b1), .val (.ref b8), .val (.int (3 : Int32)), .unset, .val (.ref b239), .unset, .unset, .unset, .unset, .unset, .unset, .unset]) rfl ?_
      refine XS.aload X239.here hx rfl (hb hby at_99) rfl rfl ?_
      show Steps p.tables e below (T239.setTop (mkF m 101 #[.val (.int p1), .val (.int p2), .val (.int p3), .val (.int p4), .val (.int p5), .val (.ref b1), .val (.ref b8), .val (.int (3 : Int32)), .unset, .val (.ref b239), .unset, .unset, .unset, .unset, .unset, .unset, .unset] [(.ref b239)])) _
      refine XS.iconst X239.here hx rfl (hb hby at_101) ?_
      refine XS.iloadN X239.here hx rfl (hb hby at_102) rfl ?_
      refine XS.sipush X239.here hx rfl (hb hby at_103) ?_
      show Steps p.tables e below (T239.setTop (mkF m 106 #[.val (.int p1), .val (.int p2), .val (.int p3), .val (.int p4), .val (.int p5), .val (.ref b1), .val (.ref b8), .val (.int (3 : Int32)), .unset, .val (.ref b239), .unset, .unset, .unset, .unset, .unset, .unset, .unset] [(.int (255 : Int32)), (.int p3), (.int (0 : Int32)), (.ref b239)])) _
      refine XS.iand X239.here hx rfl (hb hby at_106) rfl ?_
      show Steps p.tables e below (T239.setTop (mkF m 107 #[.val (.int p1), .val (.int p2), .val (.int p3), .val (.int p4), .val (.int p5), .val (.ref b1), .val (.ref b8), .val (.int (3 : Int32)), .unset, .val (.ref b239), .unset, .unset, .unset, .unset, .unset, .unset, .unset] [(.int (p3 &&& (255 : Int32))), (.int (0 : Int32)), (.ref b239)])) _
      refine XS.i2c X239.here hx rfl (hb hby at_107) rfl ?_
      exact k
    obtain ⟨c242, Ar242, cq242, S242, Nn242, Hh242, Gg242⟩ := id V239
    have hin242 : ¬ ((0 : Int32) < 0 ∨ c242.slots.size ≤ ((0 : Int32)).toNatClampNeg) := inb_of S242 ⟨by decide, by decide⟩
    obtain ⟨T243, h243, X243, e243, W243, st243⟩ := stC X239 hx hZ e239 Ar242 (j := (0 : Int32)) hin242 (g := (mkF m 108 #[.val (.int p1), .val (.int p2), .val (.int p3), .val (.int p4), .val (.int p5), .val (.ref b1), .val (.ref b8), .val (.int (3 : Int32)), .unset, .val (.ref b239), .unset, .unset, .unset, .unset, .unset, .unset, .unset] [(.int d2), (.int (0 : Int32)), (.ref b239)])) rfl rfl (hb hby at_108)
    have V243 := Arv.set Ar242 cq242 S242 Nn242 Hh242 Gg242 (fits_nar_char _) W243 0 rfl (Nat.le_of_ble_eq_true rfl)
    obtain ⟨c2, hv_c2⟩ : ∃ z : Int32, z = (nar .char d2) := ⟨_, rfl⟩
    have sf_b8 := Safe.wr W243 (Safe.arv hZ.alike V239 (by decide)) hC.1 sf_b8
    have sf_rb11 := Safe.wr W243 (Safe.arv hZ.alike V239 (by decide)) hC.1 sf_rb11
    have hC := hC.trans (CHr.wr W243 (Safe.arv hZ.alike V239 (by decide)) hC.1)
    have hk := Nat.le_trans hk (Keep.of_wr W243).1
    have V243a : Arv Z h243 b239 k239 .char (2 : Int32) [(.int c2), (.int (0 : Int32))] (.int (0 : Int32)) := by have q := V243; rw [← hv_c2] at q; exact q
    have N243 := Fr.snoc X243 N11 gz_b239
    obtain ⟨d3, hv_d3⟩ : ∃ z : Int32, z = ((p4 &&& (255 : Int32)).toUInt32.toUInt16.toUInt32.toInt32) := ⟨_, rfl⟩
    have g244 : ∀ t, Steps p.tables e below (T243.setTop (mkF m 118 #[.val (.int p1), .val (.int p2), .val (.int p3), .val (.int p4), .val (.int p5), .val (.ref b1), .val (.ref b8), .val (.int (3 : Int32)), .unset, .val (.ref b239), .unset, .unset, .unset, .unset, .unset, .unset, .unset] [(.int d3), (.int (1 : Int32)), (.ref b239)])) t → Steps p.tables e below (s₁.setTop (entryFrame m #[(.int p1), (.int p2), (.int p3), (.int p4), (.int p5)] maxLocals)) t := by
      intro t k
      rw [hv_d3] at k
      refine g241 t ?_
      show Steps p.tables e below (T239.setTop (mkF m 108 #[.val (.int p1), .val (.int p2), .val (.int p3), .val (.int p4), .val (.int p5), .val (.ref b1), .val (.ref b8), .val (.int (3 : Int32)), .unset, .val (.ref b239), .unset, .unset, .unset, .unset, .unset, .unset, .unset] [(.int d2), (.int (0 : Int32)), (.ref b239)])) _
      refine st243 _ ?_
      refine XS.aload X243.here hx rfl (hb hby at_109) rfl rfl ?_
      refine XS.iconst X243.here hx rfl (hb hby at_111) ?_
      refine XS.iloadN X243.here hx rfl (hb hby at_112) rfl ?_
      show Steps p.tables e below (T243.setTop (mkF m 113 #[.val (.int p1), .val (.int p2), .val (.int p3), .val (.int p4), .val (.int p5), .val (.ref b1), .val (.ref b8), .val (.int (3 : Int32)), .unset, .val (.ref b239), .unset, .unset, .unset, .unset, .unset, .unset, .unset] [(.int p4), (.int (1 : Int32)), (.ref b239)])) _
      refine XS.sipush X243.here hx rfl (hb hby at_113) ?_
      show Steps p.tables e below (T243.setTop (mkF m 116 #[.val (.int p1), .val (.int p2), .val (.int p3), .val (.int p4), .val (.int p5), .val (.ref b1), .val (.ref b8), .val (.int (3 : Int32)), .unset, .val (.ref b239), .unset, .unset, .unset, .unset, .unset, .unset, .unset] [(.int (255 : Int32)), (.int p4), (.int (1 : Int32)), (.ref b239)])) _
      refine XS.iand X243.here hx rfl (hb hby at_116) rfl ?_
      show Steps p.tables e below (T243.setTop (mkF m 117 #[.val (.int p1), .val (.int p2), .val (.int p3), .val (.int p4), .val (.int p5), .val (.ref b1), .val (.ref b8), .val (.int (3 : Int32)), .unset, .val (.ref b239), .unset, .unset, .unset, .unset, .unset, .unset, .unset] [(.int (p4 &&& (255 : Int32))), (.int (1 : Int32)), (.ref b239)])) _
      refine XS.i2c X243.here hx rfl (hb hby at_117) rfl ?_
      exact k
    obtain ⟨c245, Ar245, cq245, S245, Nn245, Hh245, Gg245⟩ := id V243a
    have hin245 : ¬ ((1 : Int32) < 0 ∨ c245.slots.size ≤ ((1 : Int32)).toNatClampNeg) := inb_of S245 ⟨by decide, by decide⟩
    obtain ⟨T246, h246, X246, e246, W246, st246⟩ := stC X243 hx hZ e243 Ar245 (j := (1 : Int32)) hin245 (g := (mkF m 118 #[.val (.int p1), .val (.int p2), .val (.int p3), .val (.int p4), .val (.int p5), .val (.ref b1), .val (.ref b8), .val (.int (3 : Int32)), .unset, .val (.ref b239), .unset, .unset, .unset, .unset, .unset, .unset, .unset] [(.int d3), (.int (1 : Int32)), (.ref b239)])) rfl rfl (hb hby at_118)
    have V246 := Arv.set Ar245 cq245 S245 Nn245 Hh245 Gg245 (fits_nar_char _) W246 1 rfl (Nat.le_of_ble_eq_true rfl)
    obtain ⟨c3, hv_c3⟩ : ∃ z : Int32, z = (nar .char d3) := ⟨_, rfl⟩
    have sf_b8 := Safe.wr W246 (Safe.arv hZ.alike V243a (by decide)) hC.1 sf_b8
    have sf_rb11 := Safe.wr W246 (Safe.arv hZ.alike V243a (by decide)) hC.1 sf_rb11
    have hC := hC.trans (CHr.wr W246 (Safe.arv hZ.alike V243a (by decide)) hC.1)
    have hk := Nat.le_trans hk (Keep.of_wr W246).1
    have V246a : Arv Z h246 b239 k239 .char (2 : Int32) [(.int c2), (.int c3)] (.int (0 : Int32)) := by have q := V246; rw [← hv_c3] at q; exact q
    have N246 := Fr.snoc X246 N243 gz_b239
    have hc_c2 := own_chr _ _ _ hv_d2 hv_c2
    have hx_c2 := own_le255 _ hc_c2
    have hc_c3 := own_chr _ _ _ hv_d3 hv_c3
    have hx_c3 := own_le255 _ hc_c3
    obtain ⟨T247, h247, X247, e247, E247, A247, D247, -, st247⟩ := newO X246 hx hZ hown (own_w hw 1 rfl) (own_w hw 2 rfl) (own_w hw 3 rfl) e246 (g := (mkF m 119 #[.val (.int p1), .val (.int p2), .val (.int p3), .val (.int p4), .val (.int p5), .val (.ref b1), .val (.ref b8), .val (.int (3 : Int32)), .unset, .val (.ref b239), .unset, .unset, .unset, .unset, .unset, .unset, .unset] [])) rfl (hb hby at_119) (by decide) (by decide)
    obtain ⟨b247, q_b247⟩ : ∃ z, z = h246.size := ⟨_, rfl⟩
    rw [← q_b247] at A247 D247 st247
    have sz_b247 : h0.size ≤ b247 := Nat.le_trans (Nat.le_trans (Nat.le_trans (Nat.le_trans (Nat.le_trans (Nat.le_trans (Nat.le_trans (Nat.le_trans E1.1 (Keep.of_wr W4).1) (Keep.of_wr W7).1) E8.1) K11.1) E239.1) (Keep.of_wr W243).1) (Keep.of_wr W246).1) (Nat.le_of_eq q_b247.symm)
    have gz_b247 : n0 ≤ b247 := Nat.le_trans Z0 sz_b247
    have f248 := (((f240.ext E239).other W243 ne_b1_b239).other W246 ne_b1_b239)
    have ne_b1_b247 : b1 ≠ b247 := Nat.ne_of_lt (Nat.lt_of_lt_of_le f248.lt (Nat.le_of_eq q_b247.symm))
    have ne_b239_b247 : b239 ≠ b247 := Nat.ne_of_lt (Nat.lt_of_lt_of_le V246a.lt (Nat.le_of_eq q_b247.symm))
    have f249 := (((Qe11.ext E239).wr W243).wr W246)
    have ne_b8_b247 : b8 ≠ b247 := Nat.ne_of_lt (Nat.lt_of_lt_of_le f249.lt (Nat.le_of_eq q_b247.symm))
    have f250 := (((Va11.ext E239).other W243 ne_rb11_b239).other W246 ne_rb11_b239)
    have ne_rb11_b247 : rb11 ≠ b247 := Nat.ne_of_lt (Nat.lt_of_lt_of_le f250.lt (Nat.le_of_eq q_b247.symm))
    have sf0_b247 := Safe.ext E247 hC.1 (Safe.new (Nat.le_of_eq q_b247.symm))
    have sf_b8 := Safe.ext E247 hC.1 sf_b8
    have sf_rb11 := Safe.ext E247 hC.1 sf_rb11
    have hC := hC.trans (CHr.ext E247 hC.1)
    have hk := Nat.le_trans hk E247.1
    have sf_b247 := sf0_b247
    have F247_coder : Fld Z h247 b247 "java/lang/String" "coder" "B" (.int (0 : Int32)) := D247 (Or.inr (own_w hw 27 rfl)) (ty := .byte) (by decide)
    have F247_value : Fld Z h247 b247 "java/lang/String" "value" "[B" .null := D247 (Or.inr (own_w hw 29 rfl)) (ty := (.array .byte)) (by decide)
    obtain ⟨LL251, XL251, NL251⟩ : ∃ LL : List Loc, Stand p l e room_1 (s.setVm s.vm) m #[(.int p1), (.int p2), (.int p3), (.int p4), (.int p5)] below meth c T247 LL 5 14 ∧ Fr n0 LL := ⟨_, X247, N246⟩
    have f252 := (V246a.ext E247)
    have o253 : Old Z n0 h247 := (Old.ext (Old.wr (Old.wr (Old.ext (Old.keep o10 K11 (allS gz_b8 all0)) E239) W243 gz_b239) W246 gz_b239) E247)
    obtain ⟨_, _, ⟨T254, L254, k254, n254⟩, -, X254, ⟨Lc254, hQ254, l254, y254, z254⟩, st254⟩ := XL251.specialBack hx (y := own_y0) rfl hown (mvT hZ (own_w hw 4 rfl)) (mvT hZ (own_w hw 5 rfl)) (mvT hZ (own_w hw 6 rfl)) (by decide) (backOf (W := 1) (rmA0 l Z a0 hw [] b247 b239 k239 (c2) (c3)  cs wf h247 n0 o253 G0 A247 F247_coder F247_value f252 gz_b247 hx_c2 hx_c3) hZ (own_w hw 6 rfl) (own_w hw 3 rfl) (by decide) (by decide)) (g := (mkF m 125 #[.val (.int p1), .val (.int p2), .val (.int p3), .val (.int p4), .val (.int p5), .val (.ref b1), .val (.ref b8), .val (.int (3 : Int32)), .unset, .val (.ref b239), .unset, .unset, .unset, .unset, .unset, .unset, .unset] [(.ref b239), (.ref b247), (.ref b247)])) rfl (by rw [hml]; rfl) (Steps.refl _) (a := b247) (argsL := [(.ref b239)]) (rest := [(.ref b247)]) (lenOf own_pd4 rfl) rfl (by show 2 * 0 + _ ≤ _; exact Nat.le_of_eq rfl) (hb hby at_125) (fun _ _ => ⟨rfl, e247, (by decide : 5 + 1 ≤ _), (by decide : 14 + 2 ≤ _)⟩)
    dsimp only [Pt.U, Pt.locs, Pt.cells, Pt.slots] at X254 l254 y254 z254 st254 hQ254
    subst l254 y254 z254
    obtain ⟨rfl, Nq254, K254, rb254, rk254, hb254, Qe254, Qc254, Qv254, sl254, Va254⟩ := hQ254
    have qf254 := (sfS (EL := own_EL) sf_b247 sf0)
    have hCo254 := hC.1
    have sf_b8 := Safe.keep K254 qf254 hC.1 sf_b8
    have sf_rb11 := Safe.keep K254 qf254 hC.1 sf_rb11
    have sf_b247 := Safe.keep K254 qf254 hC.1 sf_b247
    have hC := hC.trans (CHr.keep K254 qf254 hC.1)
    have hk := Nat.le_trans hk K254.1
    have N254 := Fr.app NL251 Nq254
    have sz_rb254 : h0.size ≤ rb254 := Nat.le_trans (Nat.le_trans (Nat.le_trans (Nat.le_trans (Nat.le_trans (Nat.le_trans (Nat.le_trans (Nat.le_trans (Nat.le_trans E1.1 (Keep.of_wr W4).1) (Keep.of_wr W7).1) E8.1) K11.1) E239.1) (Keep.of_wr W243).1) (Keep.of_wr W246).1) E247.1) hb254
    have gz_rb254 : n0 ≤ rb254 := Nat.le_trans Z0 sz_rb254
    have sf_rb254 := Safe.keep (EL := own_EL) K254 qf254 hCo254 (Safe.new hb254)
    have ne_b1_rb254 : b1 ≠ rb254 := Nat.ne_of_lt (Nat.lt_of_lt_of_le (f248.ext E247).lt hb254)
    have ne_b239_rb254 : b239 ≠ rb254 := Nat.ne_of_lt (Nat.lt_of_lt_of_le f252.lt hb254)
    have ne_b247_rb254 : b247 ≠ rb254 := Nat.ne_of_lt (Nat.lt_of_lt_of_le A247.lt hb254)
    have ne_b8_rb254 : b8 ≠ rb254 := Nat.ne_of_lt (Nat.lt_of_lt_of_le (f249.ext E247).lt hb254)
    have ne_rb11_rb254 : rb11 ≠ rb254 := Nat.ne_of_lt (Nat.lt_of_lt_of_le (f250.ext E247).lt hb254)
    obtain ⟨v3, hv_v3⟩ : ∃ z : Int32, z = ((p4 &&& (255 : Int32)).toUInt32.toUInt16.toUInt32.toInt32) := ⟨_, rfl⟩
    have g255 : ∀ t, Steps p.tables e below (T254.setTop (mkF m 136 #[.val (.int p1), .val (.int p2), .val (.int p3), .val (.int p4), .val (.int p5), .val (.ref b1), .val (.ref b8), .val (.int (3 : Int32)), .val (.ref b247), .val (.ref b239), .unset, .unset, .unset, .unset, .unset, .unset, .unset] [(.int v3)])) t → Steps p.tables e below (s₁.setTop (entryFrame m #[(.int p1), (.int p2), (.int p3), (.int p4), (.int p5)] maxLocals)) t := by
      intro t k
      rw [hv_v3] at k
      refine g244 t ?_
      show Steps p.tables e below (T243.setTop (mkF m 118 #[.val (.int p1), .val (.int p2), .val (.int p3), .val (.int p4), .val (.int p5), .val (.ref b1), .val (.ref b8), .val (.int (3 : Int32)), .unset, .val (.ref b239), .unset, .unset, .unset, .unset, .unset, .unset, .unset] [(.int d3), (.int (1 : Int32)), (.ref b239)])) _
      refine st246 _ ?_
      refine st247 _ ?_
      refine XS.dup X247.here hx rfl (hb hby at_122) rfl rfl ?_
      refine XS.aload X247.here hx rfl (hb hby at_123) rfl rfl ?_
      show Steps p.tables e below (T247.setTop (mkF m 125 #[.val (.int p1), .val (.int p2), .val (.int p3), .val (.int p4), .val (.int p5), .val (.ref b1), .val (.ref b8), .val (.int (3 : Int32)), .unset, .val (.ref b239), .unset, .unset, .unset, .unset, .unset, .unset, .unset] [(.ref b239), (.ref b247), (.ref b247)])) _
      refine st254.trans ?_
      refine XS.astore X254.here hx rfl (hb hby at_128) rfl rfl (l' := #[.val (.int p1), .val (.int p2), .val (.int p3), .val (.int p4), .val (.int p5), .val (.ref b1), .val (.ref b8), .val (.int (3 : Int32)), .val (.ref b247), .val (.ref b239), .unset, .unset, .unset, .unset, .unset, .unset, .unset]) rfl ?_
      refine XS.iloadN X254.here hx rfl (hb hby at_130) rfl ?_
      refine XS.sipush X254.here hx rfl (hb hby at_131) ?_
      show Steps p.tables e below (T254.setTop (mkF m 134 #[.val (.int p1), .val (.int p2), .val (.int p3), .val (.int p4), .val (.int p5), .val (.ref b1), .val (.ref b8), .val (.int (3 : Int32)), .val (.ref b247), .val (.ref b239), .unset, .unset, .unset, .unset, .unset, .unset, .unset] [(.int (255 : Int32)), (.int p4)])) _
      refine XS.iand X254.here hx rfl (hb hby at_134) rfl ?_
      show Steps p.tables e below (T254.setTop (mkF m 135 #[.val (.int p1), .val (.int p2), .val (.int p3), .val (.int p4), .val (.int p5), .val (.ref b1), .val (.ref b8), .val (.int (3 : Int32)), .val (.ref b247), .val (.ref b239), .unset, .unset, .unset, .unset, .unset, .unset, .unset] [(.int (p4 &&& (255 : Int32)))])) _
      refine XS.i2c X254.here hx rfl (hb hby at_135) rfl ?_
      exact k
    have o256 : Old Z n0 T254.heap := (Old.keep o253 K254 (allS gz_b247 all0))
    obtain ⟨_, _, ⟨T257, L257, k257, n257⟩, -, X257, ⟨Lc257, hQ257, l257, y257, z257⟩, st257⟩ := Jvm.LawKit.callS X254 hx (y := own_y5) hown (mvT hZ (own_w hw 30 rfl)) (mvT hZ (own_w hw 31 rfl)) (mvT hZ (own_w hw 3 rfl)) (mvT hZ (own_w hw 32 rfl)) (by decide) (backOf (W := 0) (rmA5 l Z a0 hw [] (v3)  cs wf T254.heap n0 o256 G0   (own_chd _ _ hv_v3)) hZ (own_w hw 32 rfl) (own_w hw 3 rfl) (by decide) (by decide)) (g := (mkF m 136 #[.val (.int p1), .val (.int p2), .val (.int p3), .val (.int p4), .val (.int p5), .val (.ref b1), .val (.ref b8), .val (.int (3 : Int32)), .val (.ref b247), .val (.ref b239), .unset, .unset, .unset, .unset, .unset, .unset, .unset] [(.int v3)])) rfl (by rw [hml]; rfl) (argsL := [(.int v3)]) (rest := []) (lenOf own_pd8 rfl) rfl (by show 2 * 0 + _ ≤ _; exact Nat.le_of_eq rfl) (hb hby at_136) (fun _ _ => ⟨rfl, rfl, (by decide : 6 + 2 ≤ _), (by decide : 16 + 5 ≤ _)⟩)
    dsimp only [Pt.U, Pt.locs, Pt.cells, Pt.slots] at X257 l257 y257 z257 st257 hQ257
    subst l257 y257 z257
    obtain ⟨sa257, sb257, sk257, sl257, rfl, Nq257, K257, hba257, hbb257, Qe257, Qc257, Qv257, Qa257⟩ := hQ257
    have hCo257 := hC.1
    have sf_b8 := Safe.keep K257 sf0 hC.1 sf_b8
    have sf_rb11 := Safe.keep K257 sf0 hC.1 sf_rb11
    have sf_b247 := Safe.keep K257 sf0 hC.1 sf_b247
    have sf_rb254 := Safe.keep K257 sf0 hC.1 sf_rb254
    have hC := hC.trans (CHr.keep K257 sf0 hC.1)
    have hk := Nat.le_trans hk K257.1
    have N257 := Fr.app N254 Nq257
    have sz_sa257 : h0.size ≤ sa257 := Nat.le_trans (Nat.le_trans (Nat.le_trans (Nat.le_trans (Nat.le_trans (Nat.le_trans (Nat.le_trans (Nat.le_trans (Nat.le_trans (Nat.le_trans E1.1 (Keep.of_wr W4).1) (Keep.of_wr W7).1) E8.1) K11.1) E239.1) (Keep.of_wr W243).1) (Keep.of_wr W246).1) E247.1) K254.1) hba257
    have gz_sa257 : n0 ≤ sa257 := Nat.le_trans Z0 sz_sa257
    have sf_sa257 := Safe.keep (EL := own_EL) K257 sf0 hCo257 (Safe.new hba257)
    have ne_b1_sa257 : b1 ≠ sa257 := Nat.ne_of_lt (Nat.lt_of_lt_of_le ((f248.ext E247).keep K254 (ninS ne_b1_b247 nin0)).lt hba257)
    have ne_b239_sa257 : b239 ≠ sa257 := Nat.ne_of_lt (Nat.lt_of_lt_of_le (f252.keep K254 (ninS ne_b239_b247 nin0)).lt hba257)
    have ne_b247_sa257 : b247 ≠ sa257 := Nat.ne_of_lt (Nat.lt_of_lt_of_le Qe254.lt hba257)
    have ne_b8_sa257 : b8 ≠ sa257 := Nat.ne_of_lt (Nat.lt_of_lt_of_le ((f249.ext E247).keep K254).lt hba257)
    have ne_rb11_sa257 : rb11 ≠ sa257 := Nat.ne_of_lt (Nat.lt_of_lt_of_le ((f250.ext E247).keep K254 (ninS ne_rb11_b247 nin0)).lt hba257)
    have ne_rb254_sa257 : rb254 ≠ sa257 := Nat.ne_of_lt (Nat.lt_of_lt_of_le Va254.lt hba257)
    have sz_sb257 : h0.size ≤ sb257 := Nat.le_trans (Nat.le_trans (Nat.le_trans (Nat.le_trans (Nat.le_trans (Nat.le_trans (Nat.le_trans (Nat.le_trans (Nat.le_trans (Nat.le_trans E1.1 (Keep.of_wr W4).1) (Keep.of_wr W7).1) E8.1) K11.1) E239.1) (Keep.of_wr W243).1) (Keep.of_wr W246).1) E247.1) K254.1) hbb257
    have gz_sb257 : n0 ≤ sb257 := Nat.le_trans Z0 sz_sb257
    have sf_sb257 := Safe.keep (EL := own_EL) K257 sf0 hCo257 (Safe.new hbb257)
    have ne_b1_sb257 : b1 ≠ sb257 := Nat.ne_of_lt (Nat.lt_of_lt_of_le ((f248.ext E247).keep K254 (ninS ne_b1_b247 nin0)).lt hbb257)
    have ne_b239_sb257 : b239 ≠ sb257 := Nat.ne_of_lt (Nat.lt_of_lt_of_le (f252.keep K254 (ninS ne_b239_b247 nin0)).lt hbb257)
    have ne_b247_sb257 : b247 ≠ sb257 := Nat.ne_of_lt (Nat.lt_of_lt_of_le Qe254.lt hbb257)
    have ne_b8_sb257 : b8 ≠ sb257 := Nat.ne_of_lt (Nat.lt_of_lt_of_le ((f249.ext E247).keep K254).lt hbb257)
    have ne_rb11_sb257 : rb11 ≠ sb257 := Nat.ne_of_lt (Nat.lt_of_lt_of_le ((f250.ext E247).keep K254 (ninS ne_rb11_b247 nin0)).lt hbb257)
    have ne_rb254_sb257 : rb254 ≠ sb257 := Nat.ne_of_lt (Nat.lt_of_lt_of_le Va254.lt hbb257)
    obtain ⟨bd, hv_bd⟩ : ∃ z : Int32, z = ((p5 >>> ((2 : Int32) &&& 31)) &&& (1 : Int32)) := ⟨_, rfl⟩
    have g258 : ∀ t, Steps p.tables e below (T257.setTop (mkF m 147 #[.val (.int p1), .val (.int p2), .val (.int p3), .val (.int p4), .val (.int p5), .val (.ref b1), .val (.ref b8), .val (.int (3 : Int32)), .val (.ref b247), .val (.ref sa257), .unset, .unset, .unset, .unset, .unset, .unset, .unset] [(.int bd)])) t → Steps p.tables e below (s₁.setTop (entryFrame m #[(.int p1), (.int p2), (.int p3), (.int p4), (.int p5)] maxLocals)) t := by
      intro t k
      rw [hv_bd] at k
      refine g255 t ?_
      show Steps p.tables e below (T254.setTop (mkF m 136 #[.val (.int p1), .val (.int p2), .val (.int p3), .val (.int p4), .val (.int p5), .val (.ref b1), .val (.ref b8), .val (.int (3 : Int32)), .val (.ref b247), .val (.ref b239), .unset, .unset, .unset, .unset, .unset, .unset, .unset] [(.int v3)])) _
      refine st257 _ ?_
      refine XS.astore X257.here hx rfl (hb hby at_139) rfl rfl (l' := #[.val (.int p1), .val (.int p2), .val (.int p3), .val (.int p4), .val (.int p5), .val (.ref b1), .val (.ref b8), .val (.int (3 : Int32)), .val (.ref b247), .val (.ref sa257), .unset, .unset, .unset, .unset, .unset, .unset, .unset]) rfl ?_
      refine XS.iload X257.here hx rfl (hb hby at_141) rfl ?_
      refine XS.iconst X257.here hx rfl (hb hby at_143) ?_
      show Steps p.tables e below (T257.setTop (mkF m 144 #[.val (.int p1), .val (.int p2), .val (.int p3), .val (.int p4), .val (.int p5), .val (.ref b1), .val (.ref b8), .val (.int (3 : Int32)), .val (.ref b247), .val (.ref sa257), .unset, .unset, .unset, .unset, .unset, .unset, .unset] [(.int (2 : Int32)), (.int p5)])) _
      refine XS.ishr X257.here hx rfl (hb hby at_144) rfl ?_
      refine XS.iconst X257.here hx rfl (hb hby at_145) ?_
      show Steps p.tables e below (T257.setTop (mkF m 146 #[.val (.int p1), .val (.int p2), .val (.int p3), .val (.int p4), .val (.int p5), .val (.ref b1), .val (.ref b8), .val (.int (3 : Int32)), .val (.ref b247), .val (.ref sa257), .unset, .unset, .unset, .unset, .unset, .unset, .unset] [(.int (1 : Int32)), (.int (p5 >>> ((2 : Int32) &&& 31)))])) _
      refine XS.iand X257.here hx rfl (hb hby at_146) rfl ?_
      exact k
    by_cases hc259 : bd = (0 : Int32)
    · obtain ⟨T260, h260, X260, e260, E260, A260, D260, -, st260⟩ := newO X257 hx hZ hown (own_w hw 44 rfl) (own_w hw 45 rfl) (own_w hw 46 rfl) rfl (g := (mkF m 158 #[.val (.int p1), .val (.int p2), .val (.int p3), .val (.int p4), .val (.int p5), .val (.ref b1), .val (.ref b8), .val (.int (3 : Int32)), .val (.ref b247), .val (.ref sa257), .val .null, .unset, .unset, .unset, .unset, .unset, .unset] [])) rfl (hb hby at_158) (by decide) (by decide)
      obtain ⟨b260, q_b260⟩ : ∃ z, z = T257.heap.size := ⟨_, rfl⟩
      rw [← q_b260] at A260 D260 st260
      have sz_b260 : h0.size ≤ b260 := Nat.le_trans (Nat.le_trans (Nat.le_trans (Nat.le_trans (Nat.le_trans (Nat.le_trans (Nat.le_trans (Nat.le_trans (Nat.le_trans (Nat.le_trans (Nat.le_trans E1.1 (Keep.of_wr W4).1) (Keep.of_wr W7).1) E8.1) K11.1) E239.1) (Keep.of_wr W243).1) (Keep.of_wr W246).1) E247.1) K254.1) K257.1) (Nat.le_of_eq q_b260.symm)
      have gz_b260 : n0 ≤ b260 := Nat.le_trans Z0 sz_b260
      have f261 := (((f248.ext E247).keep K254 (ninS ne_b1_b247 nin0)).keep K257 nin0)
      have ne_b1_b260 : b1 ≠ b260 := Nat.ne_of_lt (Nat.lt_of_lt_of_le f261.lt (Nat.le_of_eq q_b260.symm))
      have f262 := ((f252.keep K254 (ninS ne_b239_b247 nin0)).keep K257 nin0)
      have ne_b239_b260 : b239 ≠ b260 := Nat.ne_of_lt (Nat.lt_of_lt_of_le f262.lt (Nat.le_of_eq q_b260.symm))
      have f263 := (Qe254.keep K257)
      have ne_b247_b260 : b247 ≠ b260 := Nat.ne_of_lt (Nat.lt_of_lt_of_le f263.lt (Nat.le_of_eq q_b260.symm))
      have f264 := (((f249.ext E247).keep K254).keep K257)
      have ne_b8_b260 : b8 ≠ b260 := Nat.ne_of_lt (Nat.lt_of_lt_of_le f264.lt (Nat.le_of_eq q_b260.symm))
      have f265 := (((f250.ext E247).keep K254 (ninS ne_rb11_b247 nin0)).keep K257 nin0)
      have ne_rb11_b260 : rb11 ≠ b260 := Nat.ne_of_lt (Nat.lt_of_lt_of_le f265.lt (Nat.le_of_eq q_b260.symm))
      have f266 := (Va254.keep K257 nin0)
      have ne_rb254_b260 : rb254 ≠ b260 := Nat.ne_of_lt (Nat.lt_of_lt_of_le f266.lt (Nat.le_of_eq q_b260.symm))
      have ne_sa257_b260 : sa257 ≠ b260 := Nat.ne_of_lt (Nat.lt_of_lt_of_le Qe257.lt (Nat.le_of_eq q_b260.symm))
      have ne_sb257_b260 : sb257 ≠ b260 := Nat.ne_of_lt (Nat.lt_of_lt_of_le Qa257.lt (Nat.le_of_eq q_b260.symm))
      have sf_b8 := Safe.ext E260 hC.1 sf_b8
      have sf_rb11 := Safe.ext E260 hC.1 sf_rb11
      have sf_b247 := Safe.ext E260 hC.1 sf_b247
      have sf_rb254 := Safe.ext E260 hC.1 sf_rb254
      have sf_sa257 := Safe.ext E260 hC.1 sf_sa257
      have sf_sb257 := Safe.ext E260 hC.1 sf_sb257
      have hC := hC.trans (CHr.ext E260 hC.1)
      have hk := Nat.le_trans hk E260.1
      have F260_name : Fld Z h260 b260 "com/example/momus/momus/cli/Option" "name" "Ljava/lang/String;" .null := D260 (Or.inr (own_w hw 57 rfl)) (ty := (.object "java/lang/String")) (by decide)
      have F260_argument : Fld Z h260 b260 "com/example/momus/momus/cli/Option" "argument" "Ljava/lang/String;" .null := D260 (Or.inr (own_w hw 59 rfl)) (ty := (.object "java/lang/String")) (by decide)
      have F260_description : Fld Z h260 b260 "com/example/momus/momus/cli/Option" "description" "Ljava/lang/String;" .null := D260 (Or.inr (own_w hw 61 rfl)) (ty := (.object "java/lang/String")) (by decide)
      have F260_byDefault : Fld Z h260 b260 "com/example/momus/momus/cli/Option" "byDefault" "Ljava/lang/String;" .null := D260 (Or.inr (own_w hw 63 rfl)) (ty := (.object "java/lang/String")) (by decide)
      have o267 : Old Z n0 h260 := (Old.ext (Old.keep o256 K257 all0) E260)
      obtain ⟨_, _, ⟨T268, L268, k268, n268⟩, -, X268, ⟨Lc268, hQ268, l268, y268, z268⟩, st268⟩ := X260.specialBack hx (y := own_y9) rfl hown (mvT hZ (own_w hw 47 rfl)) (mvT hZ (own_w hw 48 rfl)) (mvT hZ (own_w hw 49 rfl)) (by decide) (backOf (W := 1) (rmA19 l Z a0 hw [] b260 b8 b247 sa257  cs wf h260 n0 o267 G0 A260 F260_argument F260_byDefault F260_description F260_name gz_b260 ) hZ (own_w hw 49 rfl) (own_w hw 46 rfl) (by decide) (by decide)) (g := (mkF m 170 #[.val (.int p1), .val (.int p2), .val (.int p3), .val (.int p4), .val (.int p5), .val (.ref b1), .val (.ref b8), .val (.int (3 : Int32)), .val (.ref b247), .val (.ref sa257), .val .null, .unset, .unset, .unset, .unset, .unset, .unset] [.null, (.ref sa257), (.ref b247), (.ref b8), (.ref b260), (.ref b260)])) rfl (by rw [hml]; rfl) (Steps.refl _) (a := b260) (argsL := [(.ref b8), (.ref b247), (.ref sa257), .null]) (rest := [(.ref b260)]) (lenOf own_pd10 rfl) rfl (by show 2 * 0 + _ ≤ _; exact Nat.le_of_eq rfl) (hb hby at_170) (fun _ _ => ⟨rfl, e260, (by decide : 9 + 0 ≤ _), (by decide : 25 + 0 ≤ _)⟩)
      dsimp only [Pt.U, Pt.locs, Pt.cells, Pt.slots] at X268 l268 y268 z268 st268 hQ268
      subst l268 y268 z268
      obtain ⟨rfl, Nq268, K268, Q268_0, Q268_1, Q268_2⟩ := hQ268
      have qf268 := (sfS (EL := own_EL) (Safe.exa hZ.alike A260 (by decide) (by decide)) sf0)
      have hCo268 := hC.1
      have sf_b8 := Safe.keep K268 qf268 hC.1 sf_b8
      have sf_rb11 := Safe.keep K268 qf268 hC.1 sf_rb11
      have sf_b247 := Safe.keep K268 qf268 hC.1 sf_b247
      have sf_rb254 := Safe.keep K268 qf268 hC.1 sf_rb254
      have sf_sa257 := Safe.keep K268 qf268 hC.1 sf_sa257
      have sf_sb257 := Safe.keep K268 qf268 hC.1 sf_sb257
      have hC := hC.trans (CHr.keep K268 qf268 hC.1)
      have hk := Nat.le_trans hk K268.1
      have N268 := Fr.app N257 Nq268
      have o269 : Old Z n0 T268.heap := (Old.keep o267 K268 (allS gz_b260 all0))
      obtain ⟨cq270, kq270, q270a, q270b, q270c⟩ := isOf hZ rfl Q268_0
      obtain ⟨_, _, ⟨T270, L270, k270, n270⟩, -, X270, ⟨Lc270, hQ270, l270, y270, z270⟩, st270⟩ := X268.virtualBack hx (y := own_y11) (z := own_y11) hown (mvT hZ (own_w hw 64 rfl)) (mvT hZ (own_w hw 65 rfl)) (notFace_of_selects (args := #[]) (mvT hZ (own_w hw 67 rfl))) (mvT hZ (own_w hw 67 rfl)) (mvT hZ (own_w hw 66 rfl)) (by decide) (backOf (W := 0) (rmA20 l Z a0 hw [] b260 b247  cs wf T268.heap n0 o269 G0 Q268_0 Q268_2  ) hZ (own_w hw 68 rfl) (own_w hw 46 rfl) (by decide) (by decide)) q270a q270c (g := (mkF m 177 #[.val (.int p1), .val (.int p2), .val (.int p3), .val (.int p4), .val (.int p5), .val (.ref b1), .val (.ref b8), .val (.int (3 : Int32)), .val (.ref b247), .val (.ref sa257), .val .null, .val (.ref b260), .unset, .unset, .unset, .unset, .unset] [(.ref b260)])) rfl (by rw [hml]; rfl) (Steps.refl _) (argsL := []) (rest := []) (lenOf own_pd11 rfl) rfl (by show 2 * 0 + _ ≤ _; exact Nat.le_of_eq rfl) (hb hby at_177) (fun _ _ => ⟨rfl, rfl, (by decide : 9 + 0 ≤ _), (by decide : 25 + 0 ≤ _)⟩)
      dsimp only [Pt.U, Pt.locs, Pt.cells, Pt.slots] at X270 l270 y270 z270 st270 hQ270
      subst l270 y270 z270
      obtain ⟨rfl, Nq270, e270⟩ := hQ270
      have N270 := Fr.app N268 Nq270
      obtain ⟨LL271, XL271, NL271⟩ : ∃ LL : List Loc, Stand p l e room_1 (s.setVm s.vm) m #[(.int p1), (.int p2), (.int p3), (.int p4), (.int p5)] below meth c T270 LL 9 25 ∧ Fr n0 LL := ⟨_, X270, N270⟩
      have f272 := ((f263.ext E260).keep K268)
      have f273 := (((Qc254.keep K257 nin0).ext E260).keep K268 (ninS ne_b247_b260 nin0))
      have f274 := ((f266.ext E260).keep K268 (ninS ne_rb254_b260 nin0))
      have f275 := (((Qv254.keep K257 nin0).ext E260).keep K268 (ninS ne_b247_b260 nin0))
      have f276 := ((f264.ext E260).keep K268)
      have f277 := ((((((((Qc11.ext E239).other W243 (Or.inl ne_b8_b239)).other W246 (Or.inl ne_b8_b239)).ext E247).keep K254 (ninS ne_b8_b247 nin0)).keep K257 nin0).ext E260).keep K268 (ninS ne_b8_b260 nin0))
      have f278 := ((f265.ext E260).keep K268 (ninS ne_rb11_b260 nin0))
      have f279 := ((((((((Qv11.ext E239).other W243 (Or.inl ne_b8_b239)).other W246 (Or.inl ne_b8_b239)).ext E247).keep K254 (ninS ne_b8_b247 nin0)).keep K257 nin0).ext E260).keep K268 (ninS ne_b8_b260 nin0))
      obtain ⟨cq280, kq280, q280a, q280b, q280c⟩ := isOf hZ e270 Q268_0
      obtain ⟨_, _, ⟨T280, L280, k280, n280⟩, -, X280, hSn280, hgn280, ⟨Lc280, hQ280, l280, y280, z280, C280⟩, st280⟩ := XL271.virtualBackS hx (y := own_y12) (z := own_y12) hown (mvT hZ (own_w hw 69 rfl)) (mvT hZ (own_w hw 70 rfl)) (notFace_of_selects (args := #[]) (mvT hZ (own_w hw 72 rfl))) (mvT hZ (own_w hw 72 rfl)) (mvT hZ (own_w hw 71 rfl)) (by decide) (backOfSH (s := s) (vm0 := s.vm) (W := 0) (rmA54 l Z a0 hw [] b260 b247 rb254 rk254 sl254 b8 rb11 rk11 sl11  cs wf T268.heap n0 o269 G0 Q268_0 f272 f273 f274 f275 Q268_2 f276 f277 f278 f279 Q268_1  ) hZ (own_w hw 73 rfl) (own_w hw 46 rfl) (by decide) (by decide) (own_EW hw) hC.1) q280a q280c (g := (mkF m 196 #[.val (.int p1), .val (.int p2), .val (.int p3), .val (.int p4), .val (.int p5), .val (.ref b1), .val (.ref b8), .val (.int (3 : Int32)), .val (.ref b247), .val (.ref sa257), .val .null, .val (.ref b260), .val (.int (1 : Int32)), .val (.int (1 : Int32)), .unset, .unset, .unset] [(.ref b260)])) rfl (by rw [hml]; rfl) (Steps.refl _) (argsL := []) (rest := []) (lenOf own_pd12 rfl) rfl (by show 2 * 0 + _ ≤ _; exact Nat.le_of_eq rfl) (hb hby at_196) (fun _ _ => ⟨rfl, e270, (by decide : 9 + 6 ≤ _), (by decide : 25 + 37 ≤ _)⟩)
      dsimp only [Pt.U, Pt.locs, Pt.cells, Pt.slots] at X280 l280 y280 z280 st280 hQ280 hSn280 hgn280 C280
      subst l280 y280 z280
      have hS := foldS hS (by rw [e270]; exact hk) hSn280 hgn280
      have hk := Nat.le_refl T280.heap.size
      have hZ : Z.Warmed39 T280.vm := State.Warmed39.trans (t := s.setVm s.vm) hZ hSn280.1
      have hown : T280.vm.findClass "com/example/momus/momus/cli/OptionTakesValuePinLaw" = some m.cls := by rw [hSn280.1.alike.findClass]; exact hown
      have sf_b8 := CHr.safe C280 f276.lt sf_b8
      have sf_rb11 := CHr.safe C280 f278.lt sf_rb11
      have sf_b247 := CHr.safe C280 f272.lt sf_b247
      have sf_rb254 := CHr.safe C280 f274.lt sf_rb254
      have f281 := ((Qe257.ext E260).keep K268)
      have sf_sa257 := CHr.safe C280 f281.lt sf_sa257
      have f282 := ((Qa257.ext E260).keep K268 (ninS ne_sb257_b260 nin0))
      have sf_sb257 := CHr.safe C280 f282.lt sf_sb257
      have hC := hC.trans C280
      obtain ⟨sa280, sb280, sk280, sl280, rfl, Nq280, K280, hba280, hbb280, Qe280, Qc280, Qv280, Qa280⟩ := hQ280
      have N280 := Fr.app NL271 Nq280
      obtain ⟨LL283, XL283, NL283⟩ : ∃ LL : List Loc, Stand p l e room_1 (s.setVm T280.vm) m #[(.int p1), (.int p2), (.int p3), (.int p4), (.int p5)] below meth c T280 LL 15 62 ∧ Fr n0 LL := ⟨_, X280, N280⟩
      have sz_sa280 : h0.size ≤ sa280 := Nat.le_trans (Nat.le_trans (Nat.le_trans (Nat.le_trans (Nat.le_trans (Nat.le_trans (Nat.le_trans (Nat.le_trans (Nat.le_trans (Nat.le_trans (Nat.le_trans (Nat.le_trans (Nat.le_trans E1.1 (Keep.of_wr W4).1) (Keep.of_wr W7).1) E8.1) K11.1) E239.1) (Keep.of_wr W243).1) (Keep.of_wr W246).1) E247.1) K254.1) K257.1) E260.1) K268.1) hba280
      have gz_sa280 : n0 ≤ sa280 := Nat.le_trans Z0 sz_sa280
      have ne_b1_sa280 : b1 ≠ sa280 := Nat.ne_of_lt (Nat.lt_of_lt_of_le ((f261.ext E260).keep K268 (ninS ne_b1_b260 nin0)).lt hba280)
      have ne_b239_sa280 : b239 ≠ sa280 := Nat.ne_of_lt (Nat.lt_of_lt_of_le ((f262.ext E260).keep K268 (ninS ne_b239_b260 nin0)).lt hba280)
      have ne_b247_sa280 : b247 ≠ sa280 := Nat.ne_of_lt (Nat.lt_of_lt_of_le f272.lt hba280)
      have ne_b260_sa280 : b260 ≠ sa280 := Nat.ne_of_lt (Nat.lt_of_lt_of_le Q268_0.lt hba280)
      have ne_b8_sa280 : b8 ≠ sa280 := Nat.ne_of_lt (Nat.lt_of_lt_of_le f276.lt hba280)
      have ne_rb11_sa280 : rb11 ≠ sa280 := Nat.ne_of_lt (Nat.lt_of_lt_of_le f278.lt hba280)
      have ne_rb254_sa280 : rb254 ≠ sa280 := Nat.ne_of_lt (Nat.lt_of_lt_of_le f274.lt hba280)
      have ne_sa257_sa280 : sa257 ≠ sa280 := Nat.ne_of_lt (Nat.lt_of_lt_of_le f281.lt hba280)
      have ne_sb257_sa280 : sb257 ≠ sa280 := Nat.ne_of_lt (Nat.lt_of_lt_of_le f282.lt hba280)
      have sz_sb280 : h0.size ≤ sb280 := Nat.le_trans (Nat.le_trans (Nat.le_trans (Nat.le_trans (Nat.le_trans (Nat.le_trans (Nat.le_trans (Nat.le_trans (Nat.le_trans (Nat.le_trans (Nat.le_trans (Nat.le_trans (Nat.le_trans E1.1 (Keep.of_wr W4).1) (Keep.of_wr W7).1) E8.1) K11.1) E239.1) (Keep.of_wr W243).1) (Keep.of_wr W246).1) E247.1) K254.1) K257.1) E260.1) K268.1) hbb280
      have gz_sb280 : n0 ≤ sb280 := Nat.le_trans Z0 sz_sb280
      have ne_b1_sb280 : b1 ≠ sb280 := Nat.ne_of_lt (Nat.lt_of_lt_of_le ((f261.ext E260).keep K268 (ninS ne_b1_b260 nin0)).lt hbb280)
      have ne_b239_sb280 : b239 ≠ sb280 := Nat.ne_of_lt (Nat.lt_of_lt_of_le ((f262.ext E260).keep K268 (ninS ne_b239_b260 nin0)).lt hbb280)
      have ne_b247_sb280 : b247 ≠ sb280 := Nat.ne_of_lt (Nat.lt_of_lt_of_le f272.lt hbb280)
      have ne_b260_sb280 : b260 ≠ sb280 := Nat.ne_of_lt (Nat.lt_of_lt_of_le Q268_0.lt hbb280)
      have ne_b8_sb280 : b8 ≠ sb280 := Nat.ne_of_lt (Nat.lt_of_lt_of_le f276.lt hbb280)
      have ne_rb11_sb280 : rb11 ≠ sb280 := Nat.ne_of_lt (Nat.lt_of_lt_of_le f278.lt hbb280)
      have ne_rb254_sb280 : rb254 ≠ sb280 := Nat.ne_of_lt (Nat.lt_of_lt_of_le f274.lt hbb280)
      have ne_sa257_sb280 : sa257 ≠ sb280 := Nat.ne_of_lt (Nat.lt_of_lt_of_le f281.lt hbb280)
      have ne_sb257_sb280 : sb257 ≠ sb280 := Nat.ne_of_lt (Nat.lt_of_lt_of_le f282.lt hbb280)
      have f284 := (f276.keep K280)
      have f285 := (f277.keep K280 nin0)
      have f286 := (f278.keep K280 nin0)
      have f287 := (f279.keep K280 nin0)
      have o288 : Old Z n0 T280.heap := (Old.keep o269 K280 all0)
      obtain ⟨cq289, kq289, q289a, q289b, q289c⟩ := isOf hZ rfl Qe280
      obtain ⟨_, _, ⟨T289, L289, k289, n289⟩, -, X289, ⟨Lc289, hQ289, l289, y289, z289⟩, st289⟩ := XL283.virtualBack hx (y := own_y13) (z := own_y13) hown (mvT hZ (own_w hw 74 rfl)) (mvT hZ (own_w hw 75 rfl)) (notFace_of_selects (args := #[]) (mvT hZ (own_w hw 77 rfl))) (mvT hZ (own_w hw 77 rfl)) (mvT hZ (own_w hw 76 rfl)) (by decide) (backOf (W := 0) (rmA55 l Z a0 hw [] sa280 sb280 sk280 sl280 b8 rb11 rk11 sl11  cs wf T280.heap n0 o288 G0 Qe280 Qc280 Qa280 Qv280 f284 f285 f286 f287  (Ne.symm ne_b8_sa280)) hZ (own_w hw 78 rfl) (own_w hw 3 rfl) (by decide) (by decide)) q289a q289c (g := (mkF m 201 #[.val (.int p1), .val (.int p2), .val (.int p3), .val (.int p4), .val (.int p5), .val (.ref b1), .val (.ref b8), .val (.int (3 : Int32)), .val (.ref b247), .val (.ref sa257), .val .null, .val (.ref b260), .val (.int (1 : Int32)), .val (.int (1 : Int32)), .unset, .unset, .unset] [(.ref b8), (.ref sa280)])) rfl (by rw [hml]; rfl) (Steps.refl _) (argsL := [(.ref b8)]) (rest := []) (lenOf own_pd13 rfl) rfl (by show 2 * 0 + _ ≤ _; exact Nat.le_of_eq rfl) (hb hby at_201) (fun _ _ => ⟨rfl, rfl, (by decide : 15 + 0 ≤ _), (by decide : 62 + 0 ≤ _)⟩)
      dsimp only [Pt.U, Pt.locs, Pt.cells, Pt.slots] at X289 l289 y289 z289 st289 hQ289
      subst l289 y289 z289
      obtain ⟨rfl, Nq289, e289⟩ := hQ289
      have N289 := Fr.app NL283 Nq289
      obtain ⟨_, _, ⟨T290, L290, k290, n290⟩, -, X290, ⟨Lc290, hQ290, l290, y290, z290⟩, st290⟩ := Jvm.LawKit.callS X289 hx (y := own_y14) hown (mvT hZ (own_w hw 79 rfl)) (mvT hZ (own_w hw 80 rfl)) (mvT hZ (own_w hw 46 rfl)) (mvT hZ (own_w hw 81 rfl)) (by decide) (backOf (W := 0) (rmA14 l Z a0 hw [] b8 sa257  cs wf T280.heap n0 o288 G0   ) hZ (own_w hw 81 rfl) (own_w hw 46 rfl) (by decide) (by decide)) (g := (mkF m 220 #[.val (.int p1), .val (.int p2), .val (.int p3), .val (.int p4), .val (.int p5), .val (.ref b1), .val (.ref b8), .val (.int (3 : Int32)), .val (.ref b247), .val (.ref sa257), .val .null, .val (.ref b260), .val (.int (1 : Int32)), .val (.int (1 : Int32)), .val (.int (1 : Int32)), .unset, .unset] [.null, (.ref sa257), (.ref b8)])) rfl (by rw [hml]; rfl) (argsL := [(.ref b8), (.ref sa257), .null]) (rest := []) (lenOf own_pd14 rfl) rfl (by show 2 * 0 + _ ≤ _; exact Nat.le_of_eq rfl) (hb hby at_220) (fun _ _ => ⟨rfl, e289, (by decide : 15 + 1 ≤ _), (by decide : 62 + 4 ≤ _)⟩)
      dsimp only [Pt.U, Pt.locs, Pt.cells, Pt.slots] at X290 l290 y290 z290 st290 hQ290
      subst l290 y290 z290
      obtain ⟨fa290, rfl, Nq290, K290, hb290, Qe290, Qg290⟩ := hQ290
      have hCo290 := hC.1
      have sf_b8 := Safe.keep K290 sf0 hC.1 sf_b8
      have sf_rb11 := Safe.keep K290 sf0 hC.1 sf_rb11
      have sf_b247 := Safe.keep K290 sf0 hC.1 sf_b247
      have sf_rb254 := Safe.keep K290 sf0 hC.1 sf_rb254
      have sf_sa257 := Safe.keep K290 sf0 hC.1 sf_sa257
      have sf_sb257 := Safe.keep K290 sf0 hC.1 sf_sb257
      have hC := hC.trans (CHr.keep K290 sf0 hC.1)
      have hk := Nat.le_trans hk K290.1
      have N290 := Fr.app N289 Nq290
      have sz_fa290 : h0.size ≤ fa290 := Nat.le_trans (Nat.le_trans (Nat.le_trans (Nat.le_trans (Nat.le_trans (Nat.le_trans (Nat.le_trans (Nat.le_trans (Nat.le_trans (Nat.le_trans (Nat.le_trans (Nat.le_trans (Nat.le_trans (Nat.le_trans E1.1 (Keep.of_wr W4).1) (Keep.of_wr W7).1) E8.1) K11.1) E239.1) (Keep.of_wr W243).1) (Keep.of_wr W246).1) E247.1) K254.1) K257.1) E260.1) K268.1) K280.1) hb290
      have gz_fa290 : n0 ≤ fa290 := Nat.le_trans Z0 sz_fa290
      have sf_fa290 := Safe.keep (EL := own_EL) K290 sf0 hCo290 (Safe.new hb290)
      have ne_b1_fa290 : b1 ≠ fa290 := Nat.ne_of_lt (Nat.lt_of_lt_of_le (((f261.ext E260).keep K268 (ninS ne_b1_b260 nin0)).keep K280 nin0).lt hb290)
      have ne_b239_fa290 : b239 ≠ fa290 := Nat.ne_of_lt (Nat.lt_of_lt_of_le (((f262.ext E260).keep K268 (ninS ne_b239_b260 nin0)).keep K280 nin0).lt hb290)
      have ne_b247_fa290 : b247 ≠ fa290 := Nat.ne_of_lt (Nat.lt_of_lt_of_le (f272.keep K280).lt hb290)
      have ne_b260_fa290 : b260 ≠ fa290 := Nat.ne_of_lt (Nat.lt_of_lt_of_le (Q268_0.keep K280).lt hb290)
      have ne_b8_fa290 : b8 ≠ fa290 := Nat.ne_of_lt (Nat.lt_of_lt_of_le f284.lt hb290)
      have ne_rb11_fa290 : rb11 ≠ fa290 := Nat.ne_of_lt (Nat.lt_of_lt_of_le f286.lt hb290)
      have ne_rb254_fa290 : rb254 ≠ fa290 := Nat.ne_of_lt (Nat.lt_of_lt_of_le (f274.keep K280 nin0).lt hb290)
      have ne_sa257_fa290 : sa257 ≠ fa290 := Nat.ne_of_lt (Nat.lt_of_lt_of_le (f281.keep K280).lt hb290)
      have ne_sa280_fa290 : sa280 ≠ fa290 := Nat.ne_of_lt (Nat.lt_of_lt_of_le Qe280.lt hb290)
      have ne_sb257_fa290 : sb257 ≠ fa290 := Nat.ne_of_lt (Nat.lt_of_lt_of_le (f282.keep K280 nin0).lt hb290)
      have ne_sb280_fa290 : sb280 ≠ fa290 := Nat.ne_of_lt (Nat.lt_of_lt_of_le Qa280.lt hb290)
      have o291 : Old Z n0 T290.heap := (Old.keep o288 K290 all0)
      obtain ⟨cq292, kq292, q292a, q292b, q292c⟩ := isOf hZ rfl Qe290
      obtain ⟨_, _, ⟨T292, L292, k292, n292⟩, -, X292, ⟨Lc292, hQ292, l292, y292, z292⟩, st292⟩ := X290.virtualBack hx (y := own_y11) (z := own_y11) hown (mvT hZ (own_w hw 64 rfl)) (mvT hZ (own_w hw 65 rfl)) (notFace_of_selects (args := #[]) (mvT hZ (own_w hw 67 rfl))) (mvT hZ (own_w hw 67 rfl)) (mvT hZ (own_w hw 66 rfl)) (by decide) (backOf (W := 0) (rmA11 l Z a0 hw [] fa290  cs wf T290.heap n0 o291 G0 Qe290 Qg290  ) hZ (own_w hw 68 rfl) (own_w hw 46 rfl) (by decide) (by decide)) q292a q292c (g := (mkF m 227 #[.val (.int p1), .val (.int p2), .val (.int p3), .val (.int p4), .val (.int p5), .val (.ref b1), .val (.ref b8), .val (.int (3 : Int32)), .val (.ref b247), .val (.ref sa257), .val .null, .val (.ref b260), .val (.int (1 : Int32)), .val (.int (1 : Int32)), .val (.int (1 : Int32)), .val (.ref fa290), .unset] [(.ref fa290)])) rfl (by rw [hml]; rfl) (Steps.refl _) (argsL := []) (rest := []) (lenOf own_pd11 rfl) rfl (by show 2 * 0 + _ ≤ _; exact Nat.le_of_eq rfl) (hb hby at_227) (fun _ _ => ⟨rfl, rfl, (by decide : 16 + 0 ≤ _), (by decide : 66 + 0 ≤ _)⟩)
      dsimp only [Pt.U, Pt.locs, Pt.cells, Pt.slots] at X292 l292 y292 z292 st292 hQ292
      subst l292 y292 z292
      obtain ⟨rfl, Nq292, e292⟩ := hQ292
      have N292 := Fr.app N290 Nq292
      have g293 : ∀ t, Steps p.tables e below (T292.setTop (mkF m 256 #[.val (.int p1), .val (.int p2), .val (.int p3), .val (.int p4), .val (.int p5), .val (.ref b1), .val (.ref b8), .val (.int (3 : Int32)), .val (.ref b247), .val (.ref sa257), .val .null, .val (.ref b260), .val (.int (1 : Int32)), .val (.int (1 : Int32)), .val (.int (1 : Int32)), .val (.ref fa290), .val (.int (0 : Int32))] [(.int (1 : Int32))])) t → Steps p.tables e below (s₁.setTop (entryFrame m #[(.int p1), (.int p2), (.int p3), (.int p4), (.int p5)] maxLocals)) t := by
        intro t k
        refine g258 t ?_
        show Steps p.tables e below (T257.setTop (mkF m 147 #[.val (.int p1), .val (.int p2), .val (.int p3), .val (.int p4), .val (.int p5), .val (.ref b1), .val (.ref b8), .val (.int (3 : Int32)), .val (.ref b247), .val (.ref sa257), .unset, .unset, .unset, .unset, .unset, .unset, .unset] [(.int bd)])) _
        refine XS.ifNo X257.here hx rfl (hb hby at_147) rfl ((if0 _ _).trans (teq hc259).2) ?_
        refine XS.aconstNull X257.here hx rfl (hb hby at_150) ?_
        refine XS.goto X257.here hx rfl (pc0 := 151) (pc' := 156) rfl (hb hby at_151) (by decide) (by decide) ?_
        refine XS.astore X257.here hx rfl (hb hby at_156) rfl rfl (l' := #[.val (.int p1), .val (.int p2), .val (.int p3), .val (.int p4), .val (.int p5), .val (.ref b1), .val (.ref b8), .val (.int (3 : Int32)), .val (.ref b247), .val (.ref sa257), .val .null, .unset, .unset, .unset, .unset, .unset, .unset]) rfl ?_
        show Steps p.tables e below (T257.setTop (mkF m 158 #[.val (.int p1), .val (.int p2), .val (.int p3), .val (.int p4), .val (.int p5), .val (.ref b1), .val (.ref b8), .val (.int (3 : Int32)), .val (.ref b247), .val (.ref sa257), .val .null, .unset, .unset, .unset, .unset, .unset, .unset] [])) _
        refine st260 _ ?_
        refine XS.dup X260.here hx rfl (hb hby at_161) rfl rfl ?_
        refine XS.aload X260.here hx rfl (hb hby at_162) rfl rfl ?_
        refine XS.aload X260.here hx rfl (hb hby at_164) rfl rfl ?_
        show Steps p.tables e below (T260.setTop (mkF m 166 #[.val (.int p1), .val (.int p2), .val (.int p3), .val (.int p4), .val (.int p5), .val (.ref b1), .val (.ref b8), .val (.int (3 : Int32)), .val (.ref b247), .val (.ref sa257), .val .null, .unset, .unset, .unset, .unset, .unset, .unset] [(.ref b247), (.ref b8), (.ref b260), (.ref b260)])) _
        refine XS.aload X260.here hx rfl (hb hby at_166) rfl rfl ?_
        refine XS.aload X260.here hx rfl (hb hby at_168) rfl rfl ?_
        refine st268.trans ?_
        refine XS.astore X268.here hx rfl (hb hby at_173) rfl rfl (l' := #[.val (.int p1), .val (.int p2), .val (.int p3), .val (.int p4), .val (.int p5), .val (.ref b1), .val (.ref b8), .val (.int (3 : Int32)), .val (.ref b247), .val (.ref sa257), .val .null, .val (.ref b260), .unset, .unset, .unset, .unset, .unset]) rfl ?_
        show Steps p.tables e below (T268.setTop (mkF m 175 #[.val (.int p1), .val (.int p2), .val (.int p3), .val (.int p4), .val (.int p5), .val (.ref b1), .val (.ref b8), .val (.int (3 : Int32)), .val (.ref b247), .val (.ref sa257), .val .null, .val (.ref b260), .unset, .unset, .unset, .unset, .unset] [])) _
        refine XS.aload X268.here hx rfl (hb hby at_175) rfl rfl ?_
        refine st270.trans ?_
        refine XS.istore X270.here hx rfl (hb hby at_180) rfl (l' := #[.val (.int p1), .val (.int p2), .val (.int p3), .val (.int p4), .val (.int p5), .val (.ref b1), .val (.ref b8), .val (.int (3 : Int32)), .val (.ref b247), .val (.ref sa257), .val .null, .val (.ref b260), .val (.int (1 : Int32)), .unset, .unset, .unset, .unset]) rfl ?_
        refine XS.iload X270.here hx rfl (hb hby at_182) rfl ?_
        show Steps p.tables e below (T270.setTop (mkF m 184 #[.val (.int p1), .val (.int p2), .val (.int p3), .val (.int p4), .val (.int p5), .val (.ref b1), .val (.ref b8), .val (.int (3 : Int32)), .val (.ref b247), .val (.ref sa257), .val .null, .val (.ref b260), .val (.int (1 : Int32)), .unset, .unset, .unset, .unset] [(.int (3 : Int32))])) _
        refine XS.ifNo X270.here hx rfl (hb hby at_184) rfl ((if0 _ _).trans (feq (by decide : ¬ ((3 : Int32) = (0 : Int32)))).1) ?_
        refine XS.iconst X270.here hx rfl (hb hby at_187) ?_
        refine XS.goto X270.here hx rfl (pc0 := 188) (pc' := 192) rfl (hb hby at_188) (by decide) (by decide) ?_
        refine XS.istore X270.here hx rfl (hb hby at_192) rfl (l' := #[.val (.int p1), .val (.int p2), .val (.int p3), .val (.int p4), .val (.int p5), .val (.ref b1), .val (.ref b8), .val (.int (3 : Int32)), .val (.ref b247), .val (.ref sa257), .val .null, .val (.ref b260), .val (.int (1 : Int32)), .val (.int (1 : Int32)), .unset, .unset, .unset]) rfl ?_
        show Steps p.tables e below (T270.setTop (mkF m 194 #[.val (.int p1), .val (.int p2), .val (.int p3), .val (.int p4), .val (.int p5), .val (.ref b1), .val (.ref b8), .val (.int (3 : Int32)), .val (.ref b247), .val (.ref sa257), .val .null, .val (.ref b260), .val (.int (1 : Int32)), .val (.int (1 : Int32)), .unset, .unset, .unset] [])) _
        refine XS.aload X270.here hx rfl (hb hby at_194) rfl rfl ?_
        refine st280.trans ?_
        refine XS.aload XL283.here hx rfl (hb hby at_199) rfl rfl ?_
        refine st289.trans ?_
        show Steps p.tables e below (T289.setTop (mkF m 204 #[.val (.int p1), .val (.int p2), .val (.int p3), .val (.int p4), .val (.int p5), .val (.ref b1), .val (.ref b8), .val (.int (3 : Int32)), .val (.ref b247), .val (.ref sa257), .val .null, .val (.ref b260), .val (.int (1 : Int32)), .val (.int (1 : Int32)), .unset, .unset, .unset] [(.int (0 : Int32))])) _
        refine XS.ifNo X289.here hx rfl (hb hby at_204) rfl ((if0 _ _).trans (teq (by decide : (0 : Int32) = (0 : Int32))).2) ?_
        refine XS.iconst X289.here hx rfl (hb hby at_207) ?_
        refine XS.goto X289.here hx rfl (pc0 := 208) (pc' := 212) rfl (hb hby at_208) (by decide) (by decide) ?_
        refine XS.istore X289.here hx rfl (hb hby at_212) rfl (l' := #[.val (.int p1), .val (.int p2), .val (.int p3), .val (.int p4), .val (.int p5), .val (.ref b1), .val (.ref b8), .val (.int (3 : Int32)), .val (.ref b247), .val (.ref sa257), .val .null, .val (.ref b260), .val (.int (1 : Int32)), .val (.int (1 : Int32)), .val (.int (1 : Int32)), .unset, .unset]) rfl ?_
        show Steps p.tables e below (T289.setTop (mkF m 214 #[.val (.int p1), .val (.int p2), .val (.int p3), .val (.int p4), .val (.int p5), .val (.ref b1), .val (.ref b8), .val (.int (3 : Int32)), .val (.ref b247), .val (.ref sa257), .val .null, .val (.ref b260), .val (.int (1 : Int32)), .val (.int (1 : Int32)), .val (.int (1 : Int32)), .unset, .unset] [])) _
        refine XS.aload X289.here hx rfl (hb hby at_214) rfl rfl ?_
        refine XS.aload X289.here hx rfl (hb hby at_216) rfl rfl ?_
        refine XS.aload X289.here hx rfl (hb hby at_218) rfl rfl ?_
        refine st290 _ ?_
        show Steps p.tables e below (T290.setTop (mkF m 223 #[.val (.int p1), .val (.int p2), .val (.int p3), .val (.int p4), .val (.int p5), .val (.ref b1), .val (.ref b8), .val (.int (3 : Int32)), .val (.ref b247), .val (.ref sa257), .val .null, .val (.ref b260), .val (.int (1 : Int32)), .val (.int (1 : Int32)), .val (.int (1 : Int32)), .unset, .unset] [(.ref fa290)])) _
        refine XS.astore X290.here hx rfl (hb hby at_223) rfl rfl (l' := #[.val (.int p1), .val (.int p2), .val (.int p3), .val (.int p4), .val (.int p5), .val (.ref b1), .val (.ref b8), .val (.int (3 : Int32)), .val (.ref b247), .val (.ref sa257), .val .null, .val (.ref b260), .val (.int (1 : Int32)), .val (.int (1 : Int32)), .val (.int (1 : Int32)), .val (.ref fa290), .unset]) rfl ?_
        refine XS.aload X290.here hx rfl (hb hby at_225) rfl rfl ?_
        refine st292.trans ?_
        refine XS.istore X292.here hx rfl (hb hby at_230) rfl (l' := #[.val (.int p1), .val (.int p2), .val (.int p3), .val (.int p4), .val (.int p5), .val (.ref b1), .val (.ref b8), .val (.int (3 : Int32)), .val (.ref b247), .val (.ref sa257), .val .null, .val (.ref b260), .val (.int (1 : Int32)), .val (.int (1 : Int32)), .val (.int (1 : Int32)), .val (.ref fa290), .val (.int (0 : Int32))]) rfl ?_
        show Steps p.tables e below (T292.setTop (mkF m 232 #[.val (.int p1), .val (.int p2), .val (.int p3), .val (.int p4), .val (.int p5), .val (.ref b1), .val (.ref b8), .val (.int (3 : Int32)), .val (.ref b247), .val (.ref sa257), .val .null, .val (.ref b260), .val (.int (1 : Int32)), .val (.int (1 : Int32)), .val (.int (1 : Int32)), .val (.ref fa290), .val (.int (0 : Int32))] [])) _
        refine XS.iload X292.here hx rfl (hb hby at_232) rfl ?_
        refine XS.iload X292.here hx rfl (hb hby at_234) rfl ?_
        refine XS.icmpNo X292.here hx rfl (hb hby at_236) rfl (teq (by decide : (1 : Int32) = (1 : Int32))).2 ?_
        refine XS.iload X292.here hx rfl (hb hby at_239) rfl ?_
        show Steps p.tables e below (T292.setTop (mkF m 241 #[.val (.int p1), .val (.int p2), .val (.int p3), .val (.int p4), .val (.int p5), .val (.ref b1), .val (.ref b8), .val (.int (3 : Int32)), .val (.ref b247), .val (.ref sa257), .val .null, .val (.ref b260), .val (.int (1 : Int32)), .val (.int (1 : Int32)), .val (.int (1 : Int32)), .val (.ref fa290), .val (.int (0 : Int32))] [(.int (1 : Int32))])) _
        refine XS.iload X292.here hx rfl (hb hby at_241) rfl ?_
        refine XS.icmpNo X292.here hx rfl (hb hby at_243) rfl (teq (by decide : (1 : Int32) = (1 : Int32))).2 ?_
        refine XS.iload X292.here hx rfl (hb hby at_246) rfl ?_
        refine XS.ifNo X292.here hx rfl (hb hby at_248) rfl ((if0 _ _).trans (teq (by decide : (0 : Int32) = (0 : Int32))).2) ?_
        show Steps p.tables e below (T292.setTop (mkF m 251 #[.val (.int p1), .val (.int p2), .val (.int p3), .val (.int p4), .val (.int p5), .val (.ref b1), .val (.ref b8), .val (.int (3 : Int32)), .val (.ref b247), .val (.ref sa257), .val .null, .val (.ref b260), .val (.int (1 : Int32)), .val (.int (1 : Int32)), .val (.int (1 : Int32)), .val (.ref fa290), .val (.int (0 : Int32))] [])) _
        refine XS.iconst X292.here hx rfl (hb hby at_251) ?_
        refine XS.goto X292.here hx rfl (pc0 := 252) (pc' := 256) rfl (hb hby at_252) (by decide) (by decide) ?_
        exact k
      obtain ⟨fs, hrt, hrun, hended, hRW⟩ := X292.leaveW hS (by rw [e292]; exact hk) (v := some (.int (1 : Int32))) (fun h => by rw [Bd.returns] at h; cases h)
      refine ⟨_, _, g293 _ ?_, hrun, hended, _, _, rfl, ?_, ?_, hRW.1, hRW.2.1, hRW.2.2.1, hRW.2.2.2.mono (by decide) (by decide)⟩
      · show Steps p.tables e below (T292.setTop (mkF m 256 #[.val (.int p1), .val (.int p2), .val (.int p3), .val (.int p4), .val (.int p5), .val (.ref b1), .val (.ref b8), .val (.int (3 : Int32)), .val (.ref b247), .val (.ref sa257), .val .null, .val (.ref b260), .val (.int (1 : Int32)), .val (.int (1 : Int32)), .val (.int (1 : Int32)), .val (.ref fa290), .val (.int (0 : Int32))] [(.int (1 : Int32))])) _
        exact retN X292 hx (t := .boolean) Bd.returns (by simp) (hb hby at_256) hrt
      · show own_Q_rm0 Z p1 p2 p3 p4 p5 cs wf h0 n0 _ T292.heap _
        rw [e292]
        exact ⟨rfl, N292⟩
      · rw [hh]
        show CHr Z own_EL s.vm h0 T292.vm T292.heap
        rw [e292]
        exact hC.trans (CHv.at X292 hZ (own_EW hw) hC.1)
    · obtain ⟨a294, T294, h294, k294, X294, e294, E294, hS, hk, hZ, hown, C294, -, st294⟩ := ldcOH (s := s) (vm0 := s.vm) X257 hx hZ hown (own_w hw 84 rfl) (own_wS hw) rfl hS hk (own_EW hw) hC.1 (g := (mkF m 154 #[.val (.int p1), .val (.int p2), .val (.int p3), .val (.int p4), .val (.int p5), .val (.ref b1), .val (.ref b8), .val (.int (3 : Int32)), .val (.ref b247), .val (.ref sa257), .unset, .unset, .unset, .unset, .unset, .unset, .unset] [])) rfl (hb hby at_154) (n := 4) (by decide) (by decide) (by decide) (by decide)
      have f295 := (((f249.ext E247).keep K254).keep K257)
      have sf_b8 := CHr.safe C294 f295.lt sf_b8
      have f296 := (((f250.ext E247).keep K254 (ninS ne_rb11_b247 nin0)).keep K257 nin0)
      have sf_rb11 := CHr.safe C294 f296.lt sf_rb11
      have f297 := (Qe254.keep K257)
      have sf_b247 := CHr.safe C294 f297.lt sf_b247
      have f298 := (Va254.keep K257 nin0)
      have sf_rb254 := CHr.safe C294 f298.lt sf_rb254
      have sf_sa257 := CHr.safe C294 Qe257.lt sf_sa257
      have sf_sb257 := CHr.safe C294 Qa257.lt sf_sb257
      have hC := hC.trans C294
      obtain ⟨T299, h299, X299, e299, E299, A299, D299, -, st299⟩ := newO X294 hx hZ hown (own_w hw 44 rfl) (own_w hw 45 rfl) (own_w hw 46 rfl) e294 (g := (mkF m 158 #[.val (.int p1), .val (.int p2), .val (.int p3), .val (.int p4), .val (.int p5), .val (.ref b1), .val (.ref b8), .val (.int (3 : Int32)), .val (.ref b247), .val (.ref sa257), .val (.ref a294), .unset, .unset, .unset, .unset, .unset, .unset] [])) rfl (hb hby at_158) (by decide) (by decide)
      obtain ⟨b299, q_b299⟩ : ∃ z, z = h294.size := ⟨_, rfl⟩
      rw [← q_b299] at A299 D299 st299
      have sz_b299 : h0.size ≤ b299 := Nat.le_trans (Nat.le_trans (Nat.le_trans (Nat.le_trans (Nat.le_trans (Nat.le_trans (Nat.le_trans (Nat.le_trans (Nat.le_trans (Nat.le_trans (Nat.le_trans (Nat.le_trans E1.1 (Keep.of_wr W4).1) (Keep.of_wr W7).1) E8.1) K11.1) E239.1) (Keep.of_wr W243).1) (Keep.of_wr W246).1) E247.1) K254.1) K257.1) E294.1) (Nat.le_of_eq q_b299.symm)
      have gz_b299 : n0 ≤ b299 := Nat.le_trans Z0 sz_b299
      have f300 := ((((f248.ext E247).keep K254 (ninS ne_b1_b247 nin0)).keep K257 nin0).ext E294)
      have ne_b1_b299 : b1 ≠ b299 := Nat.ne_of_lt (Nat.lt_of_lt_of_le f300.lt (Nat.le_of_eq q_b299.symm))
      have f301 := (((f252.keep K254 (ninS ne_b239_b247 nin0)).keep K257 nin0).ext E294)
      have ne_b239_b299 : b239 ≠ b299 := Nat.ne_of_lt (Nat.lt_of_lt_of_le f301.lt (Nat.le_of_eq q_b299.symm))
      have f302 := (f297.ext E294)
      have ne_b247_b299 : b247 ≠ b299 := Nat.ne_of_lt (Nat.lt_of_lt_of_le f302.lt (Nat.le_of_eq q_b299.symm))
      have f303 := (f295.ext E294)
      have ne_b8_b299 : b8 ≠ b299 := Nat.ne_of_lt (Nat.lt_of_lt_of_le f303.lt (Nat.le_of_eq q_b299.symm))
      have f304 := (f296.ext E294)
      have ne_rb11_b299 : rb11 ≠ b299 := Nat.ne_of_lt (Nat.lt_of_lt_of_le f304.lt (Nat.le_of_eq q_b299.symm))
      have f305 := (f298.ext E294)
      have ne_rb254_b299 : rb254 ≠ b299 := Nat.ne_of_lt (Nat.lt_of_lt_of_le f305.lt (Nat.le_of_eq q_b299.symm))
      have f306 := (Qe257.ext E294)
      have ne_sa257_b299 : sa257 ≠ b299 := Nat.ne_of_lt (Nat.lt_of_lt_of_le f306.lt (Nat.le_of_eq q_b299.symm))
      have f307 := (Qa257.ext E294)
      have ne_sb257_b299 : sb257 ≠ b299 := Nat.ne_of_lt (Nat.lt_of_lt_of_le f307.lt (Nat.le_of_eq q_b299.symm))
      have sf_b8 := Safe.ext E299 hC.1 sf_b8
      have sf_rb11 := Safe.ext E299 hC.1 sf_rb11
      have sf_b247 := Safe.ext E299 hC.1 sf_b247
      have sf_rb254 := Safe.ext E299 hC.1 sf_rb254
      have sf_sa257 := Safe.ext E299 hC.1 sf_sa257
      have sf_sb257 := Safe.ext E299 hC.1 sf_sb257
      have hC := hC.trans (CHr.ext E299 hC.1)
      have hk := Nat.le_trans hk E299.1
      have F299_name : Fld Z h299 b299 "com/example/momus/momus/cli/Option" "name" "Ljava/lang/String;" .null := D299 (Or.inr (own_w hw 57 rfl)) (ty := (.object "java/lang/String")) (by decide)
      have F299_argument : Fld Z h299 b299 "com/example/momus/momus/cli/Option" "argument" "Ljava/lang/String;" .null := D299 (Or.inr (own_w hw 59 rfl)) (ty := (.object "java/lang/String")) (by decide)
      have F299_description : Fld Z h299 b299 "com/example/momus/momus/cli/Option" "description" "Ljava/lang/String;" .null := D299 (Or.inr (own_w hw 61 rfl)) (ty := (.object "java/lang/String")) (by decide)
      have F299_byDefault : Fld Z h299 b299 "com/example/momus/momus/cli/Option" "byDefault" "Ljava/lang/String;" .null := D299 (Or.inr (own_w hw 63 rfl)) (ty := (.object "java/lang/String")) (by decide)
      have o308 : Old Z n0 h299 := (Old.ext (Old.ext (Old.keep o256 K257 all0) E294) E299)
      obtain ⟨_, _, ⟨T309, L309, k309, n309⟩, -, X309, ⟨Lc309, hQ309, l309, y309, z309⟩, st309⟩ := X299.specialBack hx (y := own_y9) rfl hown (mvT hZ (own_w hw 47 rfl)) (mvT hZ (own_w hw 48 rfl)) (mvT hZ (own_w hw 49 rfl)) (by decide) (backOf (W := 1) (rmA50 l Z a0 hw [] b299 b8 b247 sa257 a294  cs wf h299 n0 o308 G0 A299 F299_argument F299_byDefault F299_description F299_name gz_b299 ) hZ (own_w hw 49 rfl) (own_w hw 46 rfl) (by decide) (by decide)) (g := (mkF m 170 #[.val (.int p1), .val (.int p2), .val (.int p3), .val (.int p4), .val (.int p5), .val (.ref b1), .val (.ref b8), .val (.int (3 : Int32)), .val (.ref b247), .val (.ref sa257), .val (.ref a294), .unset, .unset, .unset, .unset, .unset, .unset] [(.ref a294), (.ref sa257), (.ref b247), (.ref b8), (.ref b299), (.ref b299)])) rfl (by rw [hml]; rfl) (Steps.refl _) (a := b299) (argsL := [(.ref b8), (.ref b247), (.ref sa257), (.ref a294)]) (rest := [(.ref b299)]) (lenOf own_pd10 rfl) rfl (by show 2 * 0 + _ ≤ _; exact Nat.le_of_eq rfl) (hb hby at_170) (fun _ _ => ⟨rfl, e299, (by decide : 11 + 0 ≤ _), (by decide : 33 + 0 ≤ _)⟩)
      dsimp only [Pt.U, Pt.locs, Pt.cells, Pt.slots] at X309 l309 y309 z309 st309 hQ309
      subst l309 y309 z309
      obtain ⟨rfl, Nq309, K309, Q309_0, Q309_1, Q309_2⟩ := hQ309
      have qf309 := (sfS (EL := own_EL) (Safe.exa hZ.alike A299 (by decide) (by decide)) sf0)
      have hCo309 := hC.1
      have sf_b8 := Safe.keep K309 qf309 hC.1 sf_b8
      have sf_rb11 := Safe.keep K309 qf309 hC.1 sf_rb11
      have sf_b247 := Safe.keep K309 qf309 hC.1 sf_b247
      have sf_rb254 := Safe.keep K309 qf309 hC.1 sf_rb254
      have sf_sa257 := Safe.keep K309 qf309 hC.1 sf_sa257
      have sf_sb257 := Safe.keep K309 qf309 hC.1 sf_sb257
      have hC := hC.trans (CHr.keep K309 qf309 hC.1)
      have hk := Nat.le_trans hk K309.1
      have N309 := Fr.app N257 Nq309
      have o310 : Old Z n0 T309.heap := (Old.keep o308 K309 (allS gz_b299 all0))
      obtain ⟨cq311, kq311, q311a, q311b, q311c⟩ := isOf hZ rfl Q309_0
      obtain ⟨_, _, ⟨T311, L311, k311, n311⟩, -, X311, ⟨Lc311, hQ311, l311, y311, z311⟩, st311⟩ := X309.virtualBack hx (y := own_y11) (z := own_y11) hown (mvT hZ (own_w hw 64 rfl)) (mvT hZ (own_w hw 65 rfl)) (notFace_of_selects (args := #[]) (mvT hZ (own_w hw 67 rfl))) (mvT hZ (own_w hw 67 rfl)) (mvT hZ (own_w hw 66 rfl)) (by decide) (backOf (W := 0) (rmA20 l Z a0 hw [] b299 b247  cs wf T309.heap n0 o310 G0 Q309_0 Q309_2  ) hZ (own_w hw 68 rfl) (own_w hw 46 rfl) (by decide) (by decide)) q311a q311c (g := (mkF m 177 #[.val (.int p1), .val (.int p2), .val (.int p3), .val (.int p4), .val (.int p5), .val (.ref b1), .val (.ref b8), .val (.int (3 : Int32)), .val (.ref b247), .val (.ref sa257), .val (.ref a294), .val (.ref b299), .unset, .unset, .unset, .unset, .unset] [(.ref b299)])) rfl (by rw [hml]; rfl) (Steps.refl _) (argsL := []) (rest := []) (lenOf own_pd11 rfl) rfl (by show 2 * 0 + _ ≤ _; exact Nat.le_of_eq rfl) (hb hby at_177) (fun _ _ => ⟨rfl, rfl, (by decide : 11 + 0 ≤ _), (by decide : 33 + 0 ≤ _)⟩)
      dsimp only [Pt.U, Pt.locs, Pt.cells, Pt.slots] at X311 l311 y311 z311 st311 hQ311
      subst l311 y311 z311
      obtain ⟨rfl, Nq311, e311⟩ := hQ311
      have N311 := Fr.app N309 Nq311
      obtain ⟨LL312, XL312, NL312⟩ : ∃ LL : List Loc, Stand p l e room_1 (s.setVm T294.vm) m #[(.int p1), (.int p2), (.int p3), (.int p4), (.int p5)] below meth c T311 LL 11 33 ∧ Fr n0 LL := ⟨_, X311, N311⟩
      have f313 := ((f302.ext E299).keep K309)
      have f314 := ((((Qc254.keep K257 nin0).ext E294).ext E299).keep K309 (ninS ne_b247_b299 nin0))
      have f315 := ((f305.ext E299).keep K309 (ninS ne_rb254_b299 nin0))
      have f316 := ((((Qv254.keep K257 nin0).ext E294).ext E299).keep K309 (ninS ne_b247_b299 nin0))
      have f317 := ((f303.ext E299).keep K309)
      have f318 := (((((((((Qc11.ext E239).other W243 (Or.inl ne_b8_b239)).other W246 (Or.inl ne_b8_b239)).ext E247).keep K254 (ninS ne_b8_b247 nin0)).keep K257 nin0).ext E294).ext E299).keep K309 (ninS ne_b8_b299 nin0))
      have f319 := ((f304.ext E299).keep K309 (ninS ne_rb11_b299 nin0))
      have f320 := (((((((((Qv11.ext E239).other W243 (Or.inl ne_b8_b239)).other W246 (Or.inl ne_b8_b239)).ext E247).keep K254 (ninS ne_b8_b247 nin0)).keep K257 nin0).ext E294).ext E299).keep K309 (ninS ne_b8_b299 nin0))
      obtain ⟨cq321, kq321, q321a, q321b, q321c⟩ := isOf hZ e311 Q309_0
      obtain ⟨_, _, ⟨T321, L321, k321, n321⟩, -, X321, hSn321, hgn321, ⟨Lc321, hQ321, l321, y321, z321, C321⟩, st321⟩ := XL312.virtualBackS hx (y := own_y12) (z := own_y12) hown (mvT hZ (own_w hw 69 rfl)) (mvT hZ (own_w hw 70 rfl)) (notFace_of_selects (args := #[]) (mvT hZ (own_w hw 72 rfl))) (mvT hZ (own_w hw 72 rfl)) (mvT hZ (own_w hw 71 rfl)) (by decide) (backOfSH (s := s) (vm0 := T294.vm) (W := 0) (rmA54 l Z a0 hw [] b299 b247 rb254 rk254 sl254 b8 rb11 rk11 sl11  cs wf T309.heap n0 o310 G0 Q309_0 f313 f314 f315 f316 Q309_2 f317 f318 f319 f320 Q309_1  ) hZ (own_w hw 73 rfl) (own_w hw 46 rfl) (by decide) (by decide) (own_EW hw) hC.1) q321a q321c (g := (mkF m 196 #[.val (.int p1), .val (.int p2), .val (.int p3), .val (.int p4), .val (.int p5), .val (.ref b1), .val (.ref b8), .val (.int (3 : Int32)), .val (.ref b247), .val (.ref sa257), .val (.ref a294), .val (.ref b299), .val (.int (1 : Int32)), .val (.int (1 : Int32)), .unset, .unset, .unset] [(.ref b299)])) rfl (by rw [hml]; rfl) (Steps.refl _) (argsL := []) (rest := []) (lenOf own_pd12 rfl) rfl (by show 2 * 0 + _ ≤ _; exact Nat.le_of_eq rfl) (hb hby at_196) (fun _ _ => ⟨rfl, e311, (by decide : 11 + 6 ≤ _), (by decide : 33 + 37 ≤ _)⟩)
      dsimp only [Pt.U, Pt.locs, Pt.cells, Pt.slots] at X321 l321 y321 z321 st321 hQ321 hSn321 hgn321 C321
      subst l321 y321 z321
      have hS := foldS hS (by rw [e311]; exact hk) hSn321 hgn321
      have hk := Nat.le_refl T321.heap.size
      have hZ : Z.Warmed39 T321.vm := State.Warmed39.trans (t := s.setVm T294.vm) hZ hSn321.1
      have hown : T321.vm.findClass "com/example/momus/momus/cli/OptionTakesValuePinLaw" = some m.cls := by rw [hSn321.1.alike.findClass]; exact hown
      have sf_b8 := CHr.safe C321 f317.lt sf_b8
      have sf_rb11 := CHr.safe C321 f319.lt sf_rb11
      have sf_b247 := CHr.safe C321 f313.lt sf_b247
      have sf_rb254 := CHr.safe C321 f315.lt sf_rb254
      have f322 := ((f306.ext E299).keep K309)
      have sf_sa257 := CHr.safe C321 f322.lt sf_sa257
      have f323 := ((f307.ext E299).keep K309 (ninS ne_sb257_b299 nin0))
      have sf_sb257 := CHr.safe C321 f323.lt sf_sb257
      have hC := hC.trans C321
      obtain ⟨sa321, sb321, sk321, sl321, rfl, Nq321, K321, hba321, hbb321, Qe321, Qc321, Qv321, Qa321⟩ := hQ321
      have N321 := Fr.app NL312 Nq321
      obtain ⟨LL324, XL324, NL324⟩ : ∃ LL : List Loc, Stand p l e room_1 (s.setVm T321.vm) m #[(.int p1), (.int p2), (.int p3), (.int p4), (.int p5)] below meth c T321 LL 17 70 ∧ Fr n0 LL := ⟨_, X321, N321⟩
      have sz_sa321 : h0.size ≤ sa321 := Nat.le_trans (Nat.le_trans (Nat.le_trans (Nat.le_trans (Nat.le_trans (Nat.le_trans (Nat.le_trans (Nat.le_trans (Nat.le_trans (Nat.le_trans (Nat.le_trans (Nat.le_trans (Nat.le_trans (Nat.le_trans E1.1 (Keep.of_wr W4).1) (Keep.of_wr W7).1) E8.1) K11.1) E239.1) (Keep.of_wr W243).1) (Keep.of_wr W246).1) E247.1) K254.1) K257.1) E294.1) E299.1) K309.1) hba321
      have gz_sa321 : n0 ≤ sa321 := Nat.le_trans Z0 sz_sa321
      have ne_b1_sa321 : b1 ≠ sa321 := Nat.ne_of_lt (Nat.lt_of_lt_of_le ((f300.ext E299).keep K309 (ninS ne_b1_b299 nin0)).lt hba321)
      have ne_b239_sa321 : b239 ≠ sa321 := Nat.ne_of_lt (Nat.lt_of_lt_of_le ((f301.ext E299).keep K309 (ninS ne_b239_b299 nin0)).lt hba321)
      have ne_b247_sa321 : b247 ≠ sa321 := Nat.ne_of_lt (Nat.lt_of_lt_of_le f313.lt hba321)
      have ne_b299_sa321 : b299 ≠ sa321 := Nat.ne_of_lt (Nat.lt_of_lt_of_le Q309_0.lt hba321)
      have ne_b8_sa321 : b8 ≠ sa321 := Nat.ne_of_lt (Nat.lt_of_lt_of_le f317.lt hba321)
      have ne_rb11_sa321 : rb11 ≠ sa321 := Nat.ne_of_lt (Nat.lt_of_lt_of_le f319.lt hba321)
      have ne_rb254_sa321 : rb254 ≠ sa321 := Nat.ne_of_lt (Nat.lt_of_lt_of_le f315.lt hba321)
      have ne_sa257_sa321 : sa257 ≠ sa321 := Nat.ne_of_lt (Nat.lt_of_lt_of_le f322.lt hba321)
      have ne_sb257_sa321 : sb257 ≠ sa321 := Nat.ne_of_lt (Nat.lt_of_lt_of_le f323.lt hba321)
      have sz_sb321 : h0.size ≤ sb321 := Nat.le_trans (Nat.le_trans (Nat.le_trans (Nat.le_trans (Nat.le_trans (Nat.le_trans (Nat.le_trans (Nat.le_trans (Nat.le_trans (Nat.le_trans (Nat.le_trans (Nat.le_trans (Nat.le_trans (Nat.le_trans E1.1 (Keep.of_wr W4).1) (Keep.of_wr W7).1) E8.1) K11.1) E239.1) (Keep.of_wr W243).1) (Keep.of_wr W246).1) E247.1) K254.1) K257.1) E294.1) E299.1) K309.1) hbb321
      have gz_sb321 : n0 ≤ sb321 := Nat.le_trans Z0 sz_sb321
      have ne_b1_sb321 : b1 ≠ sb321 := Nat.ne_of_lt (Nat.lt_of_lt_of_le ((f300.ext E299).keep K309 (ninS ne_b1_b299 nin0)).lt hbb321)
      have ne_b239_sb321 : b239 ≠ sb321 := Nat.ne_of_lt (Nat.lt_of_lt_of_le ((f301.ext E299).keep K309 (ninS ne_b239_b299 nin0)).lt hbb321)
      have ne_b247_sb321 : b247 ≠ sb321 := Nat.ne_of_lt (Nat.lt_of_lt_of_le f313.lt hbb321)
      have ne_b299_sb321 : b299 ≠ sb321 := Nat.ne_of_lt (Nat.lt_of_lt_of_le Q309_0.lt hbb321)
      have ne_b8_sb321 : b8 ≠ sb321 := Nat.ne_of_lt (Nat.lt_of_lt_of_le f317.lt hbb321)
      have ne_rb11_sb321 : rb11 ≠ sb321 := Nat.ne_of_lt (Nat.lt_of_lt_of_le f319.lt hbb321)
      have ne_rb254_sb321 : rb254 ≠ sb321 := Nat.ne_of_lt (Nat.lt_of_lt_of_le f315.lt hbb321)
      have ne_sa257_sb321 : sa257 ≠ sb321 := Nat.ne_of_lt (Nat.lt_of_lt_of_le f322.lt hbb321)
      have ne_sb257_sb321 : sb257 ≠ sb321 := Nat.ne_of_lt (Nat.lt_of_lt_of_le f323.lt hbb321)
      have f325 := (f317.keep K321)
      have f326 := (f318.keep K321 nin0)
      have f327 := (f319.keep K321 nin0)
      have f328 := (f320.keep K321 nin0)
      have o329 : Old Z n0 T321.heap := (Old.keep o310 K321 all0)
      obtain ⟨cq330, kq330, q330a, q330b, q330c⟩ := isOf hZ rfl Qe321
      obtain ⟨_, _, ⟨T330, L330, k330, n330⟩, -, X330, ⟨Lc330, hQ330, l330, y330, z330⟩, st330⟩ := XL324.virtualBack hx (y := own_y13) (z := own_y13) hown (mvT hZ (own_w hw 74 rfl)) (mvT hZ (own_w hw 75 rfl)) (notFace_of_selects (args := #[]) (mvT hZ (own_w hw 77 rfl))) (mvT hZ (own_w hw 77 rfl)) (mvT hZ (own_w hw 76 rfl)) (by decide) (backOf (W := 0) (rmA55 l Z a0 hw [] sa321 sb321 sk321 sl321 b8 rb11 rk11 sl11  cs wf T321.heap n0 o329 G0 Qe321 Qc321 Qa321 Qv321 f325 f326 f327 f328  (Ne.symm ne_b8_sa321)) hZ (own_w hw 78 rfl) (own_w hw 3 rfl) (by decide) (by decide)) q330a q330c (g := (mkF m 201 #[.val (.int p1), .val (.int p2), .val (.int p3), .val (.int p4), .val (.int p5), .val (.ref b1), .val (.ref b8), .val (.int (3 : Int32)), .val (.ref b247), .val (.ref sa257), .val (.ref a294), .val (.ref b299), .val (.int (1 : Int32)), .val (.int (1 : Int32)), .unset, .unset, .unset] [(.ref b8), (.ref sa321)])) rfl (by rw [hml]; rfl) (Steps.refl _) (argsL := [(.ref b8)]) (rest := []) (lenOf own_pd13 rfl) rfl (by show 2 * 0 + _ ≤ _; exact Nat.le_of_eq rfl) (hb hby at_201) (fun _ _ => ⟨rfl, rfl, (by decide : 17 + 0 ≤ _), (by decide : 70 + 0 ≤ _)⟩)
      dsimp only [Pt.U, Pt.locs, Pt.cells, Pt.slots] at X330 l330 y330 z330 st330 hQ330
      subst l330 y330 z330
      obtain ⟨rfl, Nq330, e330⟩ := hQ330
      have N330 := Fr.app NL324 Nq330
      obtain ⟨_, _, ⟨T331, L331, k331, n331⟩, -, X331, ⟨Lc331, hQ331, l331, y331, z331⟩, st331⟩ := Jvm.LawKit.callS X330 hx (y := own_y14) hown (mvT hZ (own_w hw 79 rfl)) (mvT hZ (own_w hw 80 rfl)) (mvT hZ (own_w hw 46 rfl)) (mvT hZ (own_w hw 81 rfl)) (by decide) (backOf (W := 0) (rmA16 l Z a0 hw [] b8 sa257 a294  cs wf T321.heap n0 o329 G0   ) hZ (own_w hw 81 rfl) (own_w hw 46 rfl) (by decide) (by decide)) (g := (mkF m 220 #[.val (.int p1), .val (.int p2), .val (.int p3), .val (.int p4), .val (.int p5), .val (.ref b1), .val (.ref b8), .val (.int (3 : Int32)), .val (.ref b247), .val (.ref sa257), .val (.ref a294), .val (.ref b299), .val (.int (1 : Int32)), .val (.int (1 : Int32)), .val (.int (1 : Int32)), .unset, .unset] [(.ref a294), (.ref sa257), (.ref b8)])) rfl (by rw [hml]; rfl) (argsL := [(.ref b8), (.ref sa257), (.ref a294)]) (rest := []) (lenOf own_pd14 rfl) rfl (by show 2 * 0 + _ ≤ _; exact Nat.le_of_eq rfl) (hb hby at_220) (fun _ _ => ⟨rfl, e330, (by decide : 17 + 1 ≤ _), (by decide : 70 + 4 ≤ _)⟩)
      dsimp only [Pt.U, Pt.locs, Pt.cells, Pt.slots] at X331 l331 y331 z331 st331 hQ331
      subst l331 y331 z331
      obtain ⟨fa331, rfl, Nq331, K331, hb331, Qe331, Qg331⟩ := hQ331
      have hCo331 := hC.1
      have sf_b8 := Safe.keep K331 sf0 hC.1 sf_b8
      have sf_rb11 := Safe.keep K331 sf0 hC.1 sf_rb11
      have sf_b247 := Safe.keep K331 sf0 hC.1 sf_b247
      have sf_rb254 := Safe.keep K331 sf0 hC.1 sf_rb254
      have sf_sa257 := Safe.keep K331 sf0 hC.1 sf_sa257
      have sf_sb257 := Safe.keep K331 sf0 hC.1 sf_sb257
      have hC := hC.trans (CHr.keep K331 sf0 hC.1)
      have hk := Nat.le_trans hk K331.1
      have N331 := Fr.app N330 Nq331
      have sz_fa331 : h0.size ≤ fa331 := Nat.le_trans (Nat.le_trans (Nat.le_trans (Nat.le_trans (Nat.le_trans (Nat.le_trans (Nat.le_trans (Nat.le_trans (Nat.le_trans (Nat.le_trans (Nat.le_trans (Nat.le_trans (Nat.le_trans (Nat.le_trans (Nat.le_trans E1.1 (Keep.of_wr W4).1) (Keep.of_wr W7).1) E8.1) K11.1) E239.1) (Keep.of_wr W243).1) (Keep.of_wr W246).1) E247.1) K254.1) K257.1) E294.1) E299.1) K309.1) K321.1) hb331
      have gz_fa331 : n0 ≤ fa331 := Nat.le_trans Z0 sz_fa331
      have sf_fa331 := Safe.keep (EL := own_EL) K331 sf0 hCo331 (Safe.new hb331)
      have ne_b1_fa331 : b1 ≠ fa331 := Nat.ne_of_lt (Nat.lt_of_lt_of_le (((f300.ext E299).keep K309 (ninS ne_b1_b299 nin0)).keep K321 nin0).lt hb331)
      have ne_b239_fa331 : b239 ≠ fa331 := Nat.ne_of_lt (Nat.lt_of_lt_of_le (((f301.ext E299).keep K309 (ninS ne_b239_b299 nin0)).keep K321 nin0).lt hb331)
      have ne_b247_fa331 : b247 ≠ fa331 := Nat.ne_of_lt (Nat.lt_of_lt_of_le (f313.keep K321).lt hb331)
      have ne_b299_fa331 : b299 ≠ fa331 := Nat.ne_of_lt (Nat.lt_of_lt_of_le (Q309_0.keep K321).lt hb331)
      have ne_b8_fa331 : b8 ≠ fa331 := Nat.ne_of_lt (Nat.lt_of_lt_of_le f325.lt hb331)
      have ne_rb11_fa331 : rb11 ≠ fa331 := Nat.ne_of_lt (Nat.lt_of_lt_of_le f327.lt hb331)
      have ne_rb254_fa331 : rb254 ≠ fa331 := Nat.ne_of_lt (Nat.lt_of_lt_of_le (f315.keep K321 nin0).lt hb331)
      have ne_sa257_fa331 : sa257 ≠ fa331 := Nat.ne_of_lt (Nat.lt_of_lt_of_le (f322.keep K321).lt hb331)
      have ne_sa321_fa331 : sa321 ≠ fa331 := Nat.ne_of_lt (Nat.lt_of_lt_of_le Qe321.lt hb331)
      have ne_sb257_fa331 : sb257 ≠ fa331 := Nat.ne_of_lt (Nat.lt_of_lt_of_le (f323.keep K321 nin0).lt hb331)
      have ne_sb321_fa331 : sb321 ≠ fa331 := Nat.ne_of_lt (Nat.lt_of_lt_of_le Qa321.lt hb331)
      have o332 : Old Z n0 T331.heap := (Old.keep o329 K331 all0)
      obtain ⟨cq333, kq333, q333a, q333b, q333c⟩ := isOf hZ rfl Qe331
      obtain ⟨_, _, ⟨T333, L333, k333, n333⟩, -, X333, ⟨Lc333, hQ333, l333, y333, z333⟩, st333⟩ := X331.virtualBack hx (y := own_y11) (z := own_y11) hown (mvT hZ (own_w hw 64 rfl)) (mvT hZ (own_w hw 65 rfl)) (notFace_of_selects (args := #[]) (mvT hZ (own_w hw 67 rfl))) (mvT hZ (own_w hw 67 rfl)) (mvT hZ (own_w hw 66 rfl)) (by decide) (backOf (W := 0) (rmA11 l Z a0 hw [] fa331  cs wf T331.heap n0 o332 G0 Qe331 Qg331  ) hZ (own_w hw 68 rfl) (own_w hw 46 rfl) (by decide) (by decide)) q333a q333c (g := (mkF m 227 #[.val (.int p1), .val (.int p2), .val (.int p3), .val (.int p4), .val (.int p5), .val (.ref b1), .val (.ref b8), .val (.int (3 : Int32)), .val (.ref b247), .val (.ref sa257), .val (.ref a294), .val (.ref b299), .val (.int (1 : Int32)), .val (.int (1 : Int32)), .val (.int (1 : Int32)), .val (.ref fa331), .unset] [(.ref fa331)])) rfl (by rw [hml]; rfl) (Steps.refl _) (argsL := []) (rest := []) (lenOf own_pd11 rfl) rfl (by show 2 * 0 + _ ≤ _; exact Nat.le_of_eq rfl) (hb hby at_227) (fun _ _ => ⟨rfl, rfl, (by decide : 18 + 0 ≤ _), (by decide : 74 + 0 ≤ _)⟩)
      dsimp only [Pt.U, Pt.locs, Pt.cells, Pt.slots] at X333 l333 y333 z333 st333 hQ333
      subst l333 y333 z333
      obtain ⟨rfl, Nq333, e333⟩ := hQ333
      have N333 := Fr.app N331 Nq333
      have g334 : ∀ t, Steps p.tables e below (T333.setTop (mkF m 256 #[.val (.int p1), .val (.int p2), .val (.int p3), .val (.int p4), .val (.int p5), .val (.ref b1), .val (.ref b8), .val (.int (3 : Int32)), .val (.ref b247), .val (.ref sa257), .val (.ref a294), .val (.ref b299), .val (.int (1 : Int32)), .val (.int (1 : Int32)), .val (.int (1 : Int32)), .val (.ref fa331), .val (.int (0 : Int32))] [(.int (1 : Int32))])) t → Steps p.tables e below (s₁.setTop (entryFrame m #[(.int p1), (.int p2), (.int p3), (.int p4), (.int p5)] maxLocals)) t := by
        intro t k
        refine g258 t ?_
        show Steps p.tables e below (T257.setTop (mkF m 147 #[.val (.int p1), .val (.int p2), .val (.int p3), .val (.int p4), .val (.int p5), .val (.ref b1), .val (.ref b8), .val (.int (3 : Int32)), .val (.ref b247), .val (.ref sa257), .unset, .unset, .unset, .unset, .unset, .unset, .unset] [(.int bd)])) _
        refine XS.ifYes X257.here hx rfl (pc0 := 147) (pc' := 154) rfl (hb hby at_147) rfl ((if0 _ _).trans (feq hc259).2) (by decide) (by decide) ?_
        refine st294 _ ?_
        refine XS.astore X294.here hx rfl (hb hby at_156) rfl rfl (l' := #[.val (.int p1), .val (.int p2), .val (.int p3), .val (.int p4), .val (.int p5), .val (.ref b1), .val (.ref b8), .val (.int (3 : Int32)), .val (.ref b247), .val (.ref sa257), .val (.ref a294), .unset, .unset, .unset, .unset, .unset, .unset]) rfl ?_
        refine st299 _ ?_
        show Steps p.tables e below (T299.setTop (mkF m 161 #[.val (.int p1), .val (.int p2), .val (.int p3), .val (.int p4), .val (.int p5), .val (.ref b1), .val (.ref b8), .val (.int (3 : Int32)), .val (.ref b247), .val (.ref sa257), .val (.ref a294), .unset, .unset, .unset, .unset, .unset, .unset] [(.ref b299)])) _
        refine XS.dup X299.here hx rfl (hb hby at_161) rfl rfl ?_
        refine XS.aload X299.here hx rfl (hb hby at_162) rfl rfl ?_
        refine XS.aload X299.here hx rfl (hb hby at_164) rfl rfl ?_
        refine XS.aload X299.here hx rfl (hb hby at_166) rfl rfl ?_
        show Steps p.tables e below (T299.setTop (mkF m 168 #[.val (.int p1), .val (.int p2), .val (.int p3), .val (.int p4), .val (.int p5), .val (.ref b1), .val (.ref b8), .val (.int (3 : Int32)), .val (.ref b247), .val (.ref sa257), .val (.ref a294), .unset, .unset, .unset, .unset, .unset, .unset] [(.ref sa257), (.ref b247), (.ref b8), (.ref b299), (.ref b299)])) _
        refine XS.aload X299.here hx rfl (hb hby at_168) rfl rfl ?_
        refine st309.trans ?_
        refine XS.astore X309.here hx rfl (hb hby at_173) rfl rfl (l' := #[.val (.int p1), .val (.int p2), .val (.int p3), .val (.int p4), .val (.int p5), .val (.ref b1), .val (.ref b8), .val (.int (3 : Int32)), .val (.ref b247), .val (.ref sa257), .val (.ref a294), .val (.ref b299), .unset, .unset, .unset, .unset, .unset]) rfl ?_
        refine XS.aload X309.here hx rfl (hb hby at_175) rfl rfl ?_
        show Steps p.tables e below (T309.setTop (mkF m 177 #[.val (.int p1), .val (.int p2), .val (.int p3), .val (.int p4), .val (.int p5), .val (.ref b1), .val (.ref b8), .val (.int (3 : Int32)), .val (.ref b247), .val (.ref sa257), .val (.ref a294), .val (.ref b299), .unset, .unset, .unset, .unset, .unset] [(.ref b299)])) _
        refine st311.trans ?_
        refine XS.istore X311.here hx rfl (hb hby at_180) rfl (l' := #[.val (.int p1), .val (.int p2), .val (.int p3), .val (.int p4), .val (.int p5), .val (.ref b1), .val (.ref b8), .val (.int (3 : Int32)), .val (.ref b247), .val (.ref sa257), .val (.ref a294), .val (.ref b299), .val (.int (1 : Int32)), .unset, .unset, .unset, .unset]) rfl ?_
        refine XS.iload X311.here hx rfl (hb hby at_182) rfl ?_
        refine XS.ifNo X311.here hx rfl (hb hby at_184) rfl ((if0 _ _).trans (feq (by decide : ¬ ((3 : Int32) = (0 : Int32)))).1) ?_
        show Steps p.tables e below (T311.setTop (mkF m 187 #[.val (.int p1), .val (.int p2), .val (.int p3), .val (.int p4), .val (.int p5), .val (.ref b1), .val (.ref b8), .val (.int (3 : Int32)), .val (.ref b247), .val (.ref sa257), .val (.ref a294), .val (.ref b299), .val (.int (1 : Int32)), .unset, .unset, .unset, .unset] [])) _
        refine XS.iconst X311.here hx rfl (hb hby at_187) ?_
        refine XS.goto X311.here hx rfl (pc0 := 188) (pc' := 192) rfl (hb hby at_188) (by decide) (by decide) ?_
        refine XS.istore X311.here hx rfl (hb hby at_192) rfl (l' := #[.val (.int p1), .val (.int p2), .val (.int p3), .val (.int p4), .val (.int p5), .val (.ref b1), .val (.ref b8), .val (.int (3 : Int32)), .val (.ref b247), .val (.ref sa257), .val (.ref a294), .val (.ref b299), .val (.int (1 : Int32)), .val (.int (1 : Int32)), .unset, .unset, .unset]) rfl ?_
        refine XS.aload X311.here hx rfl (hb hby at_194) rfl rfl ?_
        show Steps p.tables e below (T311.setTop (mkF m 196 #[.val (.int p1), .val (.int p2), .val (.int p3), .val (.int p4), .val (.int p5), .val (.ref b1), .val (.ref b8), .val (.int (3 : Int32)), .val (.ref b247), .val (.ref sa257), .val (.ref a294), .val (.ref b299), .val (.int (1 : Int32)), .val (.int (1 : Int32)), .unset, .unset, .unset] [(.ref b299)])) _
        refine st321.trans ?_
        refine XS.aload XL324.here hx rfl (hb hby at_199) rfl rfl ?_
        refine st330.trans ?_
        refine XS.ifNo X330.here hx rfl (hb hby at_204) rfl ((if0 _ _).trans (teq (by decide : (0 : Int32) = (0 : Int32))).2) ?_
        show Steps p.tables e below (T330.setTop (mkF m 207 #[.val (.int p1), .val (.int p2), .val (.int p3), .val (.int p4), .val (.int p5), .val (.ref b1), .val (.ref b8), .val (.int (3 : Int32)), .val (.ref b247), .val (.ref sa257), .val (.ref a294), .val (.ref b299), .val (.int (1 : Int32)), .val (.int (1 : Int32)), .unset, .unset, .unset] [])) _
        refine XS.iconst X330.here hx rfl (hb hby at_207) ?_
        refine XS.goto X330.here hx rfl (pc0 := 208) (pc' := 212) rfl (hb hby at_208) (by decide) (by decide) ?_
        refine XS.istore X330.here hx rfl (hb hby at_212) rfl (l' := #[.val (.int p1), .val (.int p2), .val (.int p3), .val (.int p4), .val (.int p5), .val (.ref b1), .val (.ref b8), .val (.int (3 : Int32)), .val (.ref b247), .val (.ref sa257), .val (.ref a294), .val (.ref b299), .val (.int (1 : Int32)), .val (.int (1 : Int32)), .val (.int (1 : Int32)), .unset, .unset]) rfl ?_
        refine XS.aload X330.here hx rfl (hb hby at_214) rfl rfl ?_
        show Steps p.tables e below (T330.setTop (mkF m 216 #[.val (.int p1), .val (.int p2), .val (.int p3), .val (.int p4), .val (.int p5), .val (.ref b1), .val (.ref b8), .val (.int (3 : Int32)), .val (.ref b247), .val (.ref sa257), .val (.ref a294), .val (.ref b299), .val (.int (1 : Int32)), .val (.int (1 : Int32)), .val (.int (1 : Int32)), .unset, .unset] [(.ref b8)])) _
        refine XS.aload X330.here hx rfl (hb hby at_216) rfl rfl ?_
        refine XS.aload X330.here hx rfl (hb hby at_218) rfl rfl ?_
        refine st331 _ ?_
        refine XS.astore X331.here hx rfl (hb hby at_223) rfl rfl (l' := #[.val (.int p1), .val (.int p2), .val (.int p3), .val (.int p4), .val (.int p5), .val (.ref b1), .val (.ref b8), .val (.int (3 : Int32)), .val (.ref b247), .val (.ref sa257), .val (.ref a294), .val (.ref b299), .val (.int (1 : Int32)), .val (.int (1 : Int32)), .val (.int (1 : Int32)), .val (.ref fa331), .unset]) rfl ?_
        show Steps p.tables e below (T331.setTop (mkF m 225 #[.val (.int p1), .val (.int p2), .val (.int p3), .val (.int p4), .val (.int p5), .val (.ref b1), .val (.ref b8), .val (.int (3 : Int32)), .val (.ref b247), .val (.ref sa257), .val (.ref a294), .val (.ref b299), .val (.int (1 : Int32)), .val (.int (1 : Int32)), .val (.int (1 : Int32)), .val (.ref fa331), .unset] [])) _
        refine XS.aload X331.here hx rfl (hb hby at_225) rfl rfl ?_
        refine st333.trans ?_
        refine XS.istore X333.here hx rfl (hb hby at_230) rfl (l' := #[.val (.int p1), .val (.int p2), .val (.int p3), .val (.int p4), .val (.int p5), .val (.ref b1), .val (.ref b8), .val (.int (3 : Int32)), .val (.ref b247), .val (.ref sa257), .val (.ref a294), .val (.ref b299), .val (.int (1 : Int32)), .val (.int (1 : Int32)), .val (.int (1 : Int32)), .val (.ref fa331), .val (.int (0 : Int32))]) rfl ?_
        refine XS.iload X333.here hx rfl (hb hby at_232) rfl ?_
        show Steps p.tables e below (T333.setTop (mkF m 234 #[.val (.int p1), .val (.int p2), .val (.int p3), .val (.int p4), .val (.int p5), .val (.ref b1), .val (.ref b8), .val (.int (3 : Int32)), .val (.ref b247), .val (.ref sa257), .val (.ref a294), .val (.ref b299), .val (.int (1 : Int32)), .val (.int (1 : Int32)), .val (.int (1 : Int32)), .val (.ref fa331), .val (.int (0 : Int32))] [(.int (1 : Int32))])) _
        refine XS.iload X333.here hx rfl (hb hby at_234) rfl ?_
        refine XS.icmpNo X333.here hx rfl (hb hby at_236) rfl (teq (by decide : (1 : Int32) = (1 : Int32))).2 ?_
        refine XS.iload X333.here hx rfl (hb hby at_239) rfl ?_
        refine XS.iload X333.here hx rfl (hb hby at_241) rfl ?_
        show Steps p.tables e below (T333.setTop (mkF m 243 #[.val (.int p1), .val (.int p2), .val (.int p3), .val (.int p4), .val (.int p5), .val (.ref b1), .val (.ref b8), .val (.int (3 : Int32)), .val (.ref b247), .val (.ref sa257), .val (.ref a294), .val (.ref b299), .val (.int (1 : Int32)), .val (.int (1 : Int32)), .val (.int (1 : Int32)), .val (.ref fa331), .val (.int (0 : Int32))] [(.int (1 : Int32)), (.int (1 : Int32))])) _
        refine XS.icmpNo X333.here hx rfl (hb hby at_243) rfl (teq (by decide : (1 : Int32) = (1 : Int32))).2 ?_
        refine XS.iload X333.here hx rfl (hb hby at_246) rfl ?_
        refine XS.ifNo X333.here hx rfl (hb hby at_248) rfl ((if0 _ _).trans (teq (by decide : (0 : Int32) = (0 : Int32))).2) ?_
        refine XS.iconst X333.here hx rfl (hb hby at_251) ?_
        show Steps p.tables e below (T333.setTop (mkF m 252 #[.val (.int p1), .val (.int p2), .val (.int p3), .val (.int p4), .val (.int p5), .val (.ref b1), .val (.ref b8), .val (.int (3 : Int32)), .val (.ref b247), .val (.ref sa257), .val (.ref a294), .val (.ref b299), .val (.int (1 : Int32)), .val (.int (1 : Int32)), .val (.int (1 : Int32)), .val (.ref fa331), .val (.int (0 : Int32))] [(.int (1 : Int32))])) _
        refine XS.goto X333.here hx rfl (pc0 := 252) (pc' := 256) rfl (hb hby at_252) (by decide) (by decide) ?_
        exact k
      obtain ⟨fs, hrt, hrun, hended, hRW⟩ := X333.leaveW hS (by rw [e333]; exact hk) (v := some (.int (1 : Int32))) (fun h => by rw [Bd.returns] at h; cases h)
      refine ⟨_, _, g334 _ ?_, hrun, hended, _, _, rfl, ?_, ?_, hRW.1, hRW.2.1, hRW.2.2.1, hRW.2.2.2.mono (by decide) (by decide)⟩
      · show Steps p.tables e below (T333.setTop (mkF m 256 #[.val (.int p1), .val (.int p2), .val (.int p3), .val (.int p4), .val (.int p5), .val (.ref b1), .val (.ref b8), .val (.int (3 : Int32)), .val (.ref b247), .val (.ref sa257), .val (.ref a294), .val (.ref b299), .val (.int (1 : Int32)), .val (.int (1 : Int32)), .val (.int (1 : Int32)), .val (.ref fa331), .val (.int (0 : Int32))] [(.int (1 : Int32))])) _
        exact retN X333 hx (t := .boolean) Bd.returns (by simp) (hb hby at_256) hrt
      · show own_Q_rm0 Z p1 p2 p3 p4 p5 cs wf h0 n0 _ T333.heap _
        rw [e333]
        exact ⟨rfl, N333⟩
      · rw [hh]
        show CHr Z own_EL s.vm h0 T333.vm T333.heap
        rw [e333]
        exact hC.trans (CHv.at X333 hZ (own_EW hw) hC.1)
set_option maxRecDepth 65536 in
set_option maxHeartbeats 40000000 in
theorem comes_1 {Post : Tables → Env → Array Value → State → Outcome → State → Prop} (hpost : ∀ tb e args s v u, (limb_1_1.after args s (.returned v) u = true ∧ limb_1_2.after args s (.returned v) u = true ∧ True) → ReturnedEndW s (.returned v) u (Jvm.fieldLocs frame_1_writes args s ++ Jvm.arrayLocs frame_1_arrays args s ++ Jvm.staticLocs frame_1_statics s) 48 3264 → Post tb e args s (.returned v) u) :
    ArmFor flags0 classFile x code maxLocals ret World_1 tables_1 room_1 Calls_1 rest_1 Pre_1 Post := by
  intro l hfl _ _ p e ha hc hk s m args below hf hA hF happ hP
  obtain ⟨hcalls, hrest, hpre⟩ := hP
  obtain ⟨-, -, -, hnamed, -, -, -, hat⟩ := (Spec.applies_iff hf).mp happ
  obtain ⟨hg, hn⟩ := and_e (Cond.before_iff.mp (show (Jvm.Cond.and given_1 narrow_1).before args s = true from hpre))
  obtain ⟨h0a, h0b⟩ := and_e hg
  obtain ⟨h1a, h1b⟩ := and_e h0b
  obtain ⟨h2a, h2b⟩ := and_e h1b
  obtain ⟨h3a, h3b⟩ := and_e h2b
  obtain ⟨h4a, h4b⟩ := and_e h3b
  obtain ⟨w0, w1, w2, w3, w4, rfl⟩ : ∃ w0 w1 w2 w3 w4 : Value, args = #[w0, w1, w2, w3, w4] := by
    have hs : args.size = 5 := by simpa [Cond.value, given_1] using h0a
    obtain ⟨L⟩ := args
    match L, hs with
    | [w0, w1, w2, w3, w4], _ => exact ⟨w0, w1, w2, w3, w4, rfl⟩
  have hw := fun d (hd : d ∈ tables_1) => atoms_spec (ws := Jvm.Cond.code x code maxLocals ret :: tables_1) hat d (List.mem_cons_of_mem _ hd)
  obtain ⟨hsets, hown0⟩ := atoms_of _ (rest_1_c_eq ▸ (show rest_1_c.before _ s = true from hrest))
  have hr0 := Cond.before_iff.mp hown0
  obtain ⟨i0, ei0⟩ := is_v h1a
  obtain rfl : w0 = (.int i0) := Option.some.inj ei0
  obtain ⟨i1, ei1⟩ := is_v h2a
  obtain rfl : w1 = (.int i1) := Option.some.inj ei1
  obtain ⟨i2, ei2⟩ := is_v h3a
  obtain rfl : w2 = (.int i2) := Option.some.inj ei2
  obtain ⟨i3, ei3⟩ := is_v h4a
  obtain rfl : w3 = (.int i3) := Option.some.inj ei3
  obtain ⟨i4, ei4⟩ := is_v h4b
  obtain rfl : w4 = (.int i4) := Option.some.inj ei4
  have hCH : CHv s own_EL s.vm s.heap := CHv.start (own_EW hw) (fun q hq => hcalls.1 q (own_sub q hq)) (hsets _ (List.mem_of_getElem? (i := 2) rfl)) (own_w hw 19 rfl) (own_w hw 2 rfl)
  obtain ⟨cs, ecs⟩ := is_v (Cond.before_iff.mp (hsets _ (List.mem_of_getElem? (i := 1) rfl)))
  have S_CS := Sta.start ecs (Or.inl (hsets _ (List.mem_of_getElem? (i := 0) rfl)))
  have hcs : ¬ (cs = (0 : Int32)) := gotF (Cond.eq_ints ecs (Term.int_eval 0)) (not_v (Cond.before_iff.mp (hsets _ (List.mem_of_getElem? (i := 2) rfl))))
  obtain ⟨wf, ewf, hwf0⟩ := isR_v (Cond.before_iff.mp (hsets _ (List.mem_of_getElem? (i := 8) rfl)))
  have S_WF := Sta.start ewf (Or.inl (hsets _ (List.mem_of_getElem? (i := 7) rfl)))
  have hwf := ref_cases hwf0
  obtain ⟨n, o, h1, h2, h3, _, L, rfl, ⟨rfl, N⟩, -, hq⟩ := rm0 l s _ hw tables_1 i0 i1 i2 i3 i4 cs wf s.heap s.heap.size (Old.start s) ⟨S_CS, hcs, S_WF, hwf⟩ p e ha hc hk s m _ below hf ((Spec.applies_iff_loose hf).mp happ).1 ⟨rfl, State.Warmed39.refl s, rfl, hCH⟩ trivial
  refine ⟨n, _, h1, h2, h3, hpost _ _ _ _ _ _ ⟨Cond.after_iff.mpr rfl, Cond.after_iff.mpr (eq_i res_at (Term.int_eval (1)) rfl), trivial⟩ ⟨hq.1, hq.2.1, hq.2.2.1, (hq.2.2.2.sift fun y hy => Or.inr (N y hy)).mono (by decide) (by decide)⟩⟩
theorem main_1_1 : Claimed_1_1 := comes_1 fun _ _ _ _ _ _ h hF => ⟨h.1, hF⟩
theorem main_1_2 : Claimed_1_2 := comes_1 fun _ _ _ _ _ _ h hF => ⟨h.2.1, hF⟩
end Jvm.Pilot.@@N@@
namespace Jvm.Pilot.@@N@@
open Jvm Jvm.ClassFile Sem Op Lib Jvm.Free Jvm.Stand Jvm.Pilot.@@N@@.Jvm.D
/-! MADE BY PROGRAM (witnessworld.py) out of the Statement's table words and the real class files: 28 classes; the members and pool entries that the words name. The judged class is class 1, her method 1. -/
namespace start1
open Jvm.ClassFile
def u (s : String) : CpInfo := .utf8 (stringToUtf16 s)
/-- a pool by its gaps: so many unusable entries, then the entry; so many at the end -/
def gap : Nat → List CpInfo → List CpInfo
  | 0, r => r
  | n + 1, r => .unusable :: gap n r
def poolList (es : List (Nat × CpInfo)) (last : Nat) : List CpInfo := es.foldr (fun e r => gap e.1 (e.2 :: r)) (gap last [])
def pool (es : List (Nat × CpInfo)) (last : Nat) : Array CpInfo := ⟨poolList es last⟩
def fileOf (pool : Array CpInfo) (this : Nat) (attrs : Array Attribute := #[]) (ms : Array MethodInfo := #[]) (fl : Nat := 33) (sup : Nat := 0) (ifs : Array Nat := #[]) (fds : Array FieldInfo := #[]) : ClassFile where
  minorVersion := 0
  majorVersion := 65
  constantPool := pool
  accessFlags := fl
  thisClass := this
  superClass := sup
  interfaces := ifs
  fields := fds
  methods := ms
  attributes := attrs
def plain (name : String) (sup : Option ClassId) : Class where
  name := name
  kind := .ordinary
  loader := none
  accessFlags := 33
  super := sup
  interfaces := #[]
  cf := none
  fields := #[]
  methods := #[]
  instanceTypes := #[]
  staticTypes := #[]
  resolved := #[]
  callSites := []
  init := .initialized
  statics := none
  mirror := none

def pool0 : Array CpInfo := pool [(5, u "<init>"), (0, u "()V"), (1, .class_ 10), (1, u "java/lang/Object")] 113

def k0c0 : Code := { maxStack := 0, maxLocals := 1, code := object_method_1_code, exceptionTable := #[], attributes := #[] }
def k0m0 : Method := { name := "<init>", desc := "()V", sig := { parameters := [], returnType := none }, accessFlags := 1, code := some k0c0 }
/-- java/lang/Object -/
def k0 : Class := { plain "java/lang/Object" none with
  accessFlags := 33
  interfaces := #[]
  cf := some (fileOf pool0 8 #[] #[{ accessFlags := 1, nameIndex := 5, descriptorIndex := 6, attributes := #[] }] 33 0 #[] #[])
  fields := #[]
  methods := #[k0m0]
  instanceTypes := #[]
  staticTypes := #[]
  resolved := Array.replicate 124 none
  statics := none }

def pool1 : Array CpInfo := pool [(2, .class_ 4), (1, u "java/lang/Object"), (0, u "<init>"), (0, u "()V"), (0, .class_ 8), (0, u "java/lang/String"), (0, .methodref 7 10), (0, .nameAndType 5 11), (0, u "([C)V"), (0, .methodref 7 13), (0, .nameAndType 14 15), (0, u "valueOf"), (0, u "(C)Ljava/lang/String;"), (0, .string 17), (0, u "x"), (0, .class_ 19), (0, u "com/example/momus/momus/cli/Option"), (0, .methodref 18 21), (0, .nameAndType 5 22), (0, u "(Ljava/lang/String;Ljava/lang/String;Ljava/lang/String;Ljava/lang/String;)V"), (0, .methodref 18 24), (0, .nameAndType 25 26), (0, u "takesValue"), (0, u "()Z"), (0, .methodref 18 28), (0, .nameAndType 29 30), (0, u "term"), (0, u "()Ljava/lang/String;"), (0, .methodref 7 32), (0, .nameAndType 33 34), (0, u "equals"), (0, u "(Ljava/lang/Object;)Z"), (0, .methodref 18 36), (0, .nameAndType 37 38), (0, u "flag"), (0, u "(Ljava/lang/String;Ljava/lang/String;Ljava/lang/String;)Lcom/example/momus/momus/cli/Option;"), (0, .class_ 40), (0, u "com/example/momus/momus/cli/OptionTakesValuePinLaw"), (2, u "law"), (0, u "(IIIII)Z")] 5

def k1m0 : Method := { name := "<init>", desc := "()V", sig := { parameters := [], returnType := none }, accessFlags := 1, code := none }
def k1c1 : Code := { maxStack := 6, maxLocals := 17, code := code, exceptionTable := #[], attributes := #[] }
def k1m1 : Method := { name := "law", desc := "(IIIII)Z", sig := { parameters := [.int, .int, .int, .int, .int], returnType := some .boolean }, accessFlags := 9, code := some k1c1 }
/-- com/example/momus/momus/cli/OptionTakesValuePinLaw -/
def k1 : Class := { plain "com/example/momus/momus/cli/OptionTakesValuePinLaw" (some 0) with
  accessFlags := 49
  interfaces := #[]
  cf := some (fileOf pool1 39 #[] #[{ accessFlags := 1, nameIndex := 5, descriptorIndex := 6, attributes := #[] }, { accessFlags := 9, nameIndex := 43, descriptorIndex := 44, attributes := #[] }] 49 2 #[] #[])
  fields := #[]
  methods := #[k1m0, k1m1]
  instanceTypes := #[]
  staticTypes := #[]
  resolved := Array.replicate 50 none
  statics := none }

def pool2 : Array CpInfo := pool [(1, .class_ 2), (0, u "java/io/Serializable"), (0, .class_ 4), (0, u "java/lang/Object")] 2

/-- java/io/Serializable -/
def k2 : Class := { plain "java/io/Serializable" (some 0) with
  accessFlags := 1537
  interfaces := #[]
  cf := some (fileOf pool2 1 #[] #[] 1537 3 #[] #[])
  fields := #[]
  methods := #[]
  instanceTypes := #[]
  staticTypes := #[]
  resolved := Array.replicate 7 none
  statics := none }

def pool3 : Array CpInfo := pool [(1, .class_ 2), (0, u "java/lang/Comparable"), (0, .class_ 4), (0, u "java/lang/Object")] 7

/-- java/lang/Comparable -/
def k3 : Class := { plain "java/lang/Comparable" (some 0) with
  accessFlags := 1537
  interfaces := #[]
  cf := some (fileOf pool3 1 #[] #[] 1537 3 #[] #[])
  fields := #[]
  methods := #[]
  instanceTypes := #[]
  staticTypes := #[]
  resolved := Array.replicate 12 none
  statics := none }

def pool4 : Array CpInfo := pool [(2, .class_ 4), (1, u "java/lang/CharSequence"), (42, .class_ 48), (0, u "java/lang/CharSequence$1CodePointIterator"), (10, .class_ 60), (0, u "java/lang/CharSequence$1CharIterator"), (5, .class_ 67), (0, u "java/lang/Object")] 63

/-- java/lang/CharSequence -/
def k4 : Class := { plain "java/lang/CharSequence" (some 0) with
  accessFlags := 1537
  interfaces := #[]
  cf := some (fileOf pool4 2 #[.nestMembers #[47, 59]] #[] 1537 66 #[] #[])
  fields := #[]
  methods := #[]
  instanceTypes := #[]
  staticTypes := #[]
  resolved := Array.replicate 131 none
  statics := none }

def pool5 : Array CpInfo := pool [(1, .class_ 2), (0, u "java/lang/constant/Constable"), (0, .class_ 4), (0, u "java/lang/Object")] 6

/-- java/lang/constant/Constable -/
def k5 : Class := { plain "java/lang/constant/Constable" (some 0) with
  accessFlags := 1537
  interfaces := #[]
  cf := some (fileOf pool5 1 #[] #[] 1537 3 #[] #[])
  fields := #[]
  methods := #[]
  instanceTypes := #[]
  staticTypes := #[]
  resolved := Array.replicate 11 none
  statics := none }

def pool6 : Array CpInfo := pool [(1, .class_ 2), (0, u "java/lang/constant/ConstantDesc"), (0, .class_ 4), (0, u "java/lang/Object")] 32

/-- java/lang/constant/ConstantDesc -/
def k6 : Class := { plain "java/lang/constant/ConstantDesc" (some 0) with
  accessFlags := 1537
  interfaces := #[]
  cf := some (fileOf pool6 1 #[] #[] 1537 3 #[] #[])
  fields := #[]
  methods := #[]
  instanceTypes := #[]
  staticTypes := #[]
  resolved := Array.replicate 37 none
  statics := none }

def pool7 : Array CpInfo := pool [(1, .methodref 2 3), (0, .class_ 4), (0, .nameAndType 5 6), (0, u "java/lang/Object"), (0, u "<init>"), (0, u "()V"), (0, .string 8), (0, u ""), (0, .fieldref 10 11), (0, .class_ 12), (0, .nameAndType 13 14), (0, u "java/lang/String"), (0, u "value"), (0, u "[B"), (0, .fieldref 10 16), (0, .nameAndType 17 18), (0, u "coder"), (0, u "B"), (2, u "hash"), (0, u "I"), (2, u "hashIsZero"), (0, u "Z"), (0, .methodref 10 28), (0, .nameAndType 5 29), (0, u "([CIILjava/lang/Void;)V"), (8, .fieldref 10 39), (0, .nameAndType 40 26), (0, u "COMPACT_STRINGS"), (1, .class_ 44), (1, u "java/lang/StringUTF16"), (0, u "compress"), (1, .methodref 42 48), (0, .nameAndType 49 50), (0, u "coderFromArrayLen"), (0, u "([BI)B"), (2, u "toBytes"), (0, .methodref 55 56), (0, .class_ 57), (0, .nameAndType 58 59), (0, u "java/util/Arrays"), (0, u "copyOfRange"), (0, u "([BII)[B"), (47, .class_ 109), (1, u "java/lang/StringLatin1"), (32, u "()Z"), (34, .methodref 42 178), (0, .nameAndType 45 179), (0, u "([CII)[B"), (13, .class_ 195), (1, u "java/lang/System"), (13, .methodref 10 210), (0, .nameAndType 5 211), (0, u "([BB)V"), (0, .methodref 193 213), (0, .nameAndType 214 215), (0, u "arraycopy"), (0, u "(Ljava/lang/Object;ILjava/lang/Object;II)V"), (118, u "()I"), (0, .methodref 10 336), (0, .nameAndType 17 337), (0, u "()B"), (2, u "()[B"), (28, u "(C)Z"), (119, .methodref 10 490), (0, .nameAndType 5 491), (0, u "(Ljava/lang/AbstractStringBuilder;Ljava/lang/Void;)V"), (1, .nameAndType 494 142), (0, u "isLatin1"), (11, .nameAndType 507 334), (0, u "length"), (24, u "getBytes"), (8, .methodref 107 542), (0, .nameAndType 543 544), (0, u "equals"), (0, u "([B[B)Z"), (4, .methodref 550 506), (0, .class_ 551), (0, u "java/lang/AbstractStringBuilder"), (0, .methodref 550 553), (0, .nameAndType 554 340), (0, u "getValue"), (18, u "(Ljava/lang/Object;)Z"), (1, .class_ 576), (0, u "java/lang/CharSequence"), (22, u "CASE_INSENSITIVE_ORDER"), (0, u "Ljava/util/Comparator;"), (181, u "valueOf"), (0, u "(C)Ljava/lang/String;"), (37, u "([BIB)V"), (188, u "([C)V"), (4, .methodref 107 1016), (0, .nameAndType 1017 369), (0, u "canEncode"), (0, .methodref 107 1019), (0, .nameAndType 53 1020), (0, u "(C)[B"), (26, .methodref 550 493), (53, u "serialPersistentFields"), (0, u "[Ljava/io/ObjectStreamField;"), (0, .class_ 1104), (0, u "java/lang/String$CaseInsensitiveComparator"), (1, .class_ 1107), (0, u "java/io/Serializable"), (0, .class_ 1109), (0, u "java/lang/Comparable"), (0, .class_ 1111), (0, u "java/lang/constant/Constable"), (0, .class_ 1113), (0, u "java/lang/constant/ConstantDesc"), (2, u "serialVersionUID"), (0, u "J"), (3, u "REPL"), (0, u "C"), (2, u "LATIN1"), (1, u "UTF16"), (105, u "(Ljava/lang/StringBuilder;)V")] 217

def k7m0 : Method := { name := "<init>", desc := "()V", sig := { parameters := [], returnType := none }, accessFlags := 1, code := none }
def k7c1 : Code := { maxStack := 5, maxLocals := 2, code := jdk_42_method_3_code, exceptionTable := #[], attributes := #[] }
def k7m1 : Method := { name := "<init>", desc := "([C)V", sig := { parameters := [(.array .char)], returnType := none }, accessFlags := 1, code := some k7c1 }
def k7c2 : Code := { maxStack := 3, maxLocals := 2, code := jdk_42_method_53_code, exceptionTable := #[], attributes := #[] }
def k7m2 : Method := { name := "<init>", desc := "(Ljava/lang/StringBuilder;)V", sig := { parameters := [(.object "java/lang/StringBuilder")], returnType := none }, accessFlags := 1, code := some k7c2 }
def k7c3 : Code := { maxStack := 2, maxLocals := 1, code := jdk_42_method_54_code, exceptionTable := #[], attributes := #[] }
def k7m3 : Method := { name := "length", desc := "()I", sig := { parameters := [], returnType := some .int }, accessFlags := 1, code := some k7c3 }
def k7c4 : Code := { maxStack := 2, maxLocals := 3, code := jdk_42_method_66_code, exceptionTable := #[], attributes := #[] }
def k7m4 : Method := { name := "equals", desc := "(Ljava/lang/Object;)Z", sig := { parameters := [(.object "java/lang/Object")], returnType := some .boolean }, accessFlags := 1, code := some k7c4 }
def k7c5 : Code := { maxStack := 4, maxLocals := 1, code := jdk_42_method_139_code, exceptionTable := #[], attributes := #[] }
def k7m5 : Method := { name := "valueOf", desc := "(C)Ljava/lang/String;", sig := { parameters := [.char], returnType := some (.object "java/lang/String") }, accessFlags := 9, code := some k7c5 }
def k7c6 : Code := { maxStack := 5, maxLocals := 4, code := jdk_42_method_147_code, exceptionTable := #[], attributes := #[] }
def k7m6 : Method := { name := "getBytes", desc := "([BIB)V", sig := { parameters := [(.array .byte), .int, .byte], returnType := none }, accessFlags := 0, code := some k7c6 }
def k7c7 : Code := { maxStack := 4, maxLocals := 6, code := jdk_42_method_149_code, exceptionTable := #[], attributes := #[] }
def k7m7 : Method := { name := "<init>", desc := "([CIILjava/lang/Void;)V", sig := { parameters := [(.array .char), .int, .int, (.object "java/lang/Void")], returnType := none }, accessFlags := 2, code := some k7c7 }
def k7c8 : Code := { maxStack := 5, maxLocals := 5, code := jdk_42_method_150_code, exceptionTable := #[], attributes := #[] }
def k7m8 : Method := { name := "<init>", desc := "(Ljava/lang/AbstractStringBuilder;Ljava/lang/Void;)V", sig := { parameters := [(.object "java/lang/AbstractStringBuilder"), (.object "java/lang/Void")], returnType := none }, accessFlags := 0, code := some k7c8 }
def k7c9 : Code := { maxStack := 2, maxLocals := 3, code := jdk_42_method_151_code, exceptionTable := #[], attributes := #[] }
def k7m9 : Method := { name := "<init>", desc := "([BB)V", sig := { parameters := [(.array .byte), .byte], returnType := none }, accessFlags := 0, code := some k7c9 }
def k7c10 : Code := { maxStack := 1, maxLocals := 1, code := jdk_42_method_152_code, exceptionTable := #[], attributes := #[] }
def k7m10 : Method := { name := "coder", desc := "()B", sig := { parameters := [], returnType := some .byte }, accessFlags := 0, code := some k7c10 }
/-- java/lang/String -/
def k7 : Class := { plain "java/lang/String" (some 0) with
  accessFlags := 49
  interfaces := #[2, 3, 4, 5, 6]
  cf := some (fileOf pool7 10 #[.nestMembers #[1103]] #[{ accessFlags := 1, nameIndex := 5, descriptorIndex := 6, attributes := #[] }, { accessFlags := 1, nameIndex := 5, descriptorIndex := 1010, attributes := #[] }, { accessFlags := 1, nameIndex := 5, descriptorIndex := 1233, attributes := #[] }, { accessFlags := 1, nameIndex := 507, descriptorIndex := 334, attributes := #[] }, { accessFlags := 1, nameIndex := 543, descriptorIndex := 573, attributes := #[] }, { accessFlags := 9, nameIndex := 782, descriptorIndex := 783, attributes := #[] }, { accessFlags := 0, nameIndex := 532, descriptorIndex := 821, attributes := #[] }, { accessFlags := 2, nameIndex := 5, descriptorIndex := 29, attributes := #[] }, { accessFlags := 0, nameIndex := 5, descriptorIndex := 491, attributes := #[] }, { accessFlags := 0, nameIndex := 5, descriptorIndex := 211, attributes := #[] }, { accessFlags := 0, nameIndex := 17, descriptorIndex := 337, attributes := #[] }] 49 2 #[1106, 1108, 575, 1110, 1112] #[{ accessFlags := 18, nameIndex := 13, descriptorIndex := 14, attributes := #[] }, { accessFlags := 18, nameIndex := 17, descriptorIndex := 18, attributes := #[] }, { accessFlags := 2, nameIndex := 21, descriptorIndex := 22, attributes := #[] }, { accessFlags := 2, nameIndex := 25, descriptorIndex := 26, attributes := #[] }, { accessFlags := 26, nameIndex := 1116, descriptorIndex := 1117, attributes := #[] }, { accessFlags := 24, nameIndex := 40, descriptorIndex := 26, attributes := #[] }, { accessFlags := 26, nameIndex := 1101, descriptorIndex := 1102, attributes := #[] }, { accessFlags := 26, nameIndex := 1121, descriptorIndex := 1122, attributes := #[] }, { accessFlags := 25, nameIndex := 599, descriptorIndex := 600, attributes := #[] }, { accessFlags := 24, nameIndex := 1125, descriptorIndex := 18, attributes := #[] }, { accessFlags := 24, nameIndex := 1127, descriptorIndex := 18, attributes := #[] }])
  fields := #[{ name := "value", type := (.array .byte), accessFlags := 18, slot := 0, constantValue := 0 }, { name := "coder", type := .byte, accessFlags := 18, slot := 1, constantValue := 0 }, { name := "hash", type := .int, accessFlags := 2, slot := 2, constantValue := 0 }, { name := "hashIsZero", type := .boolean, accessFlags := 2, slot := 3, constantValue := 0 }, { name := "serialVersionUID", type := .long, accessFlags := 26, slot := 0, constantValue := 0 }, { name := "COMPACT_STRINGS", type := .boolean, accessFlags := 24, slot := 1, constantValue := 0 }, { name := "serialPersistentFields", type := (.array (.object "java/io/ObjectStreamField")), accessFlags := 26, slot := 2, constantValue := 0 }, { name := "REPL", type := .char, accessFlags := 26, slot := 3, constantValue := 0 }, { name := "CASE_INSENSITIVE_ORDER", type := (.object "java/util/Comparator"), accessFlags := 25, slot := 4, constantValue := 0 }, { name := "LATIN1", type := .byte, accessFlags := 24, slot := 5, constantValue := 0 }, { name := "UTF16", type := .byte, accessFlags := 24, slot := 6, constantValue := 0 }]
  methods := #[k7m0, k7m1, k7m2, k7m3, k7m4, k7m5, k7m6, k7m7, k7m8, k7m9, k7m10]
  instanceTypes := #[(.array .byte), .byte, .int, .boolean]
  staticTypes := #[.long, .boolean, (.array (.object "java/io/ObjectStreamField")), .char, (.object "java/util/Comparator"), .byte, .byte]
  resolved := Array.replicate 1451 none
  statics := some 0 }

def pool8 : Array CpInfo := pool [(6, .class_ 8), (1, u "java/lang/Object"), (0, u "<init>"), (0, u "()V"), (1, .class_ 14), (1, u "java/lang/StringUTF16"), (31, u "$assertionsDisabled"), (0, u "Z"), (13, u "HI_BYTE_SHIFT"), (0, u "I"), (2, u "LO_BYTE_SHIFT"), (49, .methodref 12 116), (0, .nameAndType 117 118), (0, u "compress"), (0, u "([CI[BII)I"), (3, u "([CII)[B"), (138, u "coderFromArrayLen"), (0, u "([BI)B"), (106, .class_ 371), (1, u "java/lang/StringUTF16$LinesSpliterator"), (58, u "MAX_LENGTH"), (196, .class_ 628), (0, u "java/lang/StringUTF16$CodePointsSpliterator"), (0, .class_ 630), (0, u "java/lang/StringUTF16$CharsSpliterator")] 4

def k8m0 : Method := { name := "<init>", desc := "()V", sig := { parameters := [], returnType := none }, accessFlags := 0, code := none }
def k8c1 : Code := { maxStack := 2, maxLocals := 2, code := jdk_52_method_15_code, exceptionTable := #[], attributes := #[] }
def k8m1 : Method := { name := "coderFromArrayLen", desc := "([BI)B", sig := { parameters := [(.array .byte), .int], returnType := some .byte }, accessFlags := 8, code := some k8c1 }
def k8c2 : Code := { maxStack := 5, maxLocals := 6, code := jdk_52_method_16_code, exceptionTable := #[], attributes := #[] }
def k8m2 : Method := { name := "compress", desc := "([CII)[B", sig := { parameters := [(.array .char), .int, .int], returnType := some (.array .byte) }, accessFlags := 9, code := some k8c2 }
def k8c3 : Code := { maxStack := 3, maxLocals := 7, code := jdk_52_method_21_code, exceptionTable := #[], attributes := #[] }
def k8m3 : Method := { name := "compress", desc := "([CI[BII)I", sig := { parameters := [(.array .char), .int, (.array .byte), .int, .int], returnType := some .int }, accessFlags := 9, code := some k8c3 }
/-- java/lang/StringUTF16 -/
def k8 : Class := { plain "java/lang/StringUTF16" (some 0) with
  accessFlags := 48
  interfaces := #[]
  cf := some (fileOf pool8 12 #[.nestMembers #[627, 629, 369]] #[{ accessFlags := 0, nameIndex := 9, descriptorIndex := 10, attributes := #[] }, { accessFlags := 8, nameIndex := 261, descriptorIndex := 262, attributes := #[] }, { accessFlags := 9, nameIndex := 117, descriptorIndex := 122, attributes := #[] }, { accessFlags := 9, nameIndex := 117, descriptorIndex := 118, attributes := #[] }] 48 6 #[] #[{ accessFlags := 26, nameIndex := 61, descriptorIndex := 62, attributes := #[] }, { accessFlags := 26, nameIndex := 65, descriptorIndex := 62, attributes := #[] }, { accessFlags := 24, nameIndex := 430, descriptorIndex := 62, attributes := #[] }, { accessFlags := 4120, nameIndex := 46, descriptorIndex := 47, attributes := #[] }])
  fields := #[{ name := "HI_BYTE_SHIFT", type := .int, accessFlags := 26, slot := 0, constantValue := 0 }, { name := "LO_BYTE_SHIFT", type := .int, accessFlags := 26, slot := 1, constantValue := 0 }, { name := "MAX_LENGTH", type := .int, accessFlags := 24, slot := 2, constantValue := 0 }, { name := "$assertionsDisabled", type := .boolean, accessFlags := 4120, slot := 3, constantValue := 0 }]
  methods := #[k8m0, k8m1, k8m2, k8m3]
  instanceTypes := #[]
  staticTypes := #[.int, .int, .int, .boolean]
  resolved := Array.replicate 635 none
  statics := none }

def pool9 : Array CpInfo := pool [(4, .class_ 6), (1, u "java/lang/Object"), (0, u "<init>"), (0, u "()V"), (5, .class_ 16), (1, u "java/lang/StringLatin1"), (73, u "canEncode"), (14, u "(C)Z"), (15, u "$assertionsDisabled"), (0, u "Z"), (98, .class_ 223), (1, u "java/lang/StringLatin1$LinesSpliterator"), (57, u "equals"), (0, u "([B[B)Z"), (97, u "toBytes"), (1, u "(C)[B"), (7, .class_ 391), (0, u "java/lang/StringLatin1$CharsSpliterator")] 3

def k9m0 : Method := { name := "<init>", desc := "()V", sig := { parameters := [], returnType := none }, accessFlags := 0, code := none }
def k9c1 : Code := { maxStack := 2, maxLocals := 1, code := jdk_43_method_3_code, exceptionTable := #[], attributes := #[] }
def k9m1 : Method := { name := "canEncode", desc := "(C)Z", sig := { parameters := [.char], returnType := some .boolean }, accessFlags := 9, code := some k9c1 }
def k9c2 : Code := { maxStack := 3, maxLocals := 3, code := jdk_43_method_13_code, exceptionTable := #[], attributes := #[] }
def k9m2 : Method := { name := "equals", desc := "([B[B)Z", sig := { parameters := [(.array .byte), (.array .byte)], returnType := some .boolean }, accessFlags := 9, code := some k9c2 }
def k9c3 : Code := { maxStack := 4, maxLocals := 1, code := jdk_43_method_46_code, exceptionTable := #[], attributes := #[] }
def k9m3 : Method := { name := "toBytes", desc := "(C)[B", sig := { parameters := [.char], returnType := some (.array .byte) }, accessFlags := 9, code := some k9c3 }
/-- java/lang/StringLatin1 -/
def k9 : Class := { plain "java/lang/StringLatin1" (some 0) with
  accessFlags := 48
  interfaces := #[]
  cf := some (fileOf pool9 14 #[.nestMembers #[390, 221]] #[{ accessFlags := 0, nameIndex := 7, descriptorIndex := 8, attributes := #[] }, { accessFlags := 9, nameIndex := 90, descriptorIndex := 105, attributes := #[] }, { accessFlags := 9, nameIndex := 281, descriptorIndex := 282, attributes := #[] }, { accessFlags := 9, nameIndex := 380, descriptorIndex := 382, attributes := #[] }] 48 4 #[] #[{ accessFlags := 4120, nameIndex := 121, descriptorIndex := 122, attributes := #[] }])
  fields := #[{ name := "$assertionsDisabled", type := .boolean, accessFlags := 4120, slot := 0, constantValue := 0 }]
  methods := #[k9m0, k9m1, k9m2, k9m3]
  instanceTypes := #[]
  staticTypes := #[.boolean]
  resolved := Array.replicate 395 none
  statics := none }

def pool10 : Array CpInfo := pool [(1, .methodref 2 3), (0, .class_ 4), (0, .nameAndType 5 6), (0, u "java/lang/Object"), (0, u "<init>"), (0, u "()V"), (0, .class_ 8), (0, u "java/lang/Record")] 13

def k10c0 : Code := { maxStack := 1, maxLocals := 1, code := jdk_30_method_1_code, exceptionTable := #[], attributes := #[] }
def k10m0 : Method := { name := "<init>", desc := "()V", sig := { parameters := [], returnType := none }, accessFlags := 4, code := some k10c0 }
/-- java/lang/Record -/
def k10 : Class := { plain "java/lang/Record" (some 0) with
  accessFlags := 1057
  interfaces := #[]
  cf := some (fileOf pool10 7 #[] #[{ accessFlags := 4, nameIndex := 5, descriptorIndex := 6, attributes := #[] }] 1057 2 #[] #[])
  fields := #[]
  methods := #[k10m0]
  instanceTypes := #[]
  staticTypes := #[]
  resolved := Array.replicate 22 none
  statics := none }

def pool11 : Array CpInfo := pool [(2, .class_ 4), (1, u "com/example/momus/momus/cli/Parameter"), (36, .class_ 42), (0, u "java/lang/Object")] 14

/-- com/example/momus/momus/cli/Parameter -/
def k11 : Class := { plain "com/example/momus/momus/cli/Parameter" (some 0) with
  accessFlags := 1536
  interfaces := #[]
  cf := some (fileOf pool11 2 #[] #[] 1536 41 #[] #[])
  fields := #[]
  methods := #[]
  instanceTypes := #[]
  staticTypes := #[]
  resolved := Array.replicate 57 none
  statics := none }

def pool12 : Array CpInfo := pool [(1, .methodref 2 3), (0, .class_ 4), (0, .nameAndType 5 6), (0, u "java/lang/Record"), (0, u "<init>"), (0, u "()V"), (0, .fieldref 8 9), (0, .class_ 10), (0, .nameAndType 11 12), (0, u "com/example/momus/momus/cli/Option"), (0, u "name"), (0, u "Ljava/lang/String;"), (0, .fieldref 8 14), (0, .nameAndType 15 12), (0, u "argument"), (0, .fieldref 8 17), (0, .nameAndType 18 12), (0, u "description"), (0, .fieldref 8 20), (0, .nameAndType 21 12), (0, u "byDefault"), (0, .methodref 8 23), (0, .nameAndType 5 24), (0, u "(Ljava/lang/String;Ljava/lang/String;Ljava/lang/String;Ljava/lang/String;)V"), (0, .class_ 26), (0, u "java/lang/StringBuilder"), (0, .methodref 25 3), (0, .methodref 25 29), (0, .nameAndType 30 31), (0, u "append"), (0, u "(Ljava/lang/String;)Ljava/lang/StringBuilder;"), (0, .string 33), (0, u " "), (0, .methodref 25 35), (0, .nameAndType 36 37), (0, u "toString"), (0, u "()Ljava/lang/String;"), (11, .class_ 50), (0, u "com/example/momus/momus/cli/Parameter"), (3, u "flag"), (0, u "(Ljava/lang/String;Ljava/lang/String;Ljava/lang/String;)Lcom/example/momus/momus/cli/Option;"), (0, u "takesValue"), (0, u "()Z"), (1, u "term")] 27

def k12c0 : Code := { maxStack := 2, maxLocals := 5, code := prog_13_method_1_code, exceptionTable := #[], attributes := #[] }
def k12m0 : Method := { name := "<init>", desc := "(Ljava/lang/String;Ljava/lang/String;Ljava/lang/String;Ljava/lang/String;)V", sig := { parameters := [(.object "java/lang/String"), (.object "java/lang/String"), (.object "java/lang/String"), (.object "java/lang/String")], returnType := none }, accessFlags := 0, code := some k12c0 }
def k12c1 : Code := { maxStack := 6, maxLocals := 3, code := prog_13_method_2_code, exceptionTable := #[], attributes := #[] }
def k12m1 : Method := { name := "flag", desc := "(Ljava/lang/String;Ljava/lang/String;Ljava/lang/String;)Lcom/example/momus/momus/cli/Option;", sig := { parameters := [(.object "java/lang/String"), (.object "java/lang/String"), (.object "java/lang/String")], returnType := some (.object "com/example/momus/momus/cli/Option") }, accessFlags := 8, code := some k12c1 }
def k12c2 : Code := { maxStack := 1, maxLocals := 1, code := prog_13_method_3_code, exceptionTable := #[], attributes := #[] }
def k12m2 : Method := { name := "takesValue", desc := "()Z", sig := { parameters := [], returnType := some .boolean }, accessFlags := 0, code := some k12c2 }
def k12c3 : Code := { maxStack := 2, maxLocals := 1, code := prog_13_method_4_code, exceptionTable := #[], attributes := #[] }
def k12m3 : Method := { name := "term", desc := "()Ljava/lang/String;", sig := { parameters := [], returnType := some (.object "java/lang/String") }, accessFlags := 1, code := some k12c3 }
/-- com/example/momus/momus/cli/Option -/
def k12 : Class := { plain "com/example/momus/momus/cli/Option" (some 10) with
  accessFlags := 48
  interfaces := #[11]
  cf := some (fileOf pool12 8 #[] #[{ accessFlags := 0, nameIndex := 5, descriptorIndex := 24, attributes := #[] }, { accessFlags := 8, nameIndex := 54, descriptorIndex := 55, attributes := #[] }, { accessFlags := 0, nameIndex := 56, descriptorIndex := 57, attributes := #[] }, { accessFlags := 1, nameIndex := 59, descriptorIndex := 37, attributes := #[] }] 48 2 #[49] #[{ accessFlags := 18, nameIndex := 11, descriptorIndex := 12, attributes := #[] }, { accessFlags := 18, nameIndex := 15, descriptorIndex := 12, attributes := #[] }, { accessFlags := 18, nameIndex := 18, descriptorIndex := 12, attributes := #[] }, { accessFlags := 18, nameIndex := 21, descriptorIndex := 12, attributes := #[] }])
  fields := #[{ name := "name", type := (.object "java/lang/String"), accessFlags := 18, slot := 0, constantValue := 0 }, { name := "argument", type := (.object "java/lang/String"), accessFlags := 18, slot := 1, constantValue := 0 }, { name := "description", type := (.object "java/lang/String"), accessFlags := 18, slot := 2, constantValue := 0 }, { name := "byDefault", type := (.object "java/lang/String"), accessFlags := 18, slot := 3, constantValue := 0 }]
  methods := #[k12m0, k12m1, k12m2, k12m3]
  instanceTypes := #[(.object "java/lang/String"), (.object "java/lang/String"), (.object "java/lang/String"), (.object "java/lang/String")]
  staticTypes := #[]
  resolved := Array.replicate 87 none
  statics := none }

def pool13 : Array CpInfo := pool [(1, .class_ 2), (0, u "java/lang/Appendable"), (0, .class_ 4), (0, u "java/lang/Object")] 9

/-- java/lang/Appendable -/
def k13 : Class := { plain "java/lang/Appendable" (some 0) with
  accessFlags := 1537
  interfaces := #[]
  cf := some (fileOf pool13 1 #[] #[] 1537 3 #[] #[])
  fields := #[]
  methods := #[]
  instanceTypes := #[]
  staticTypes := #[]
  resolved := Array.replicate 14 none
  statics := none }

def pool14 : Array CpInfo := pool [(1, .class_ 2), (0, u "java/lang/String"), (0, .methodref 4 5), (0, .class_ 6), (0, .nameAndType 7 8), (0, u "java/lang/Object"), (0, u "<init>"), (0, u "()V"), (1, .class_ 12), (1, u "java/lang/AbstractStringBuilder"), (0, u "EMPTYVALUE"), (0, u "[B"), (0, .fieldref 10 16), (0, .nameAndType 17 14), (0, u "value"), (0, .fieldref 1 19), (0, .nameAndType 20 21), (0, u "COMPACT_STRINGS"), (0, u "Z"), (0, .fieldref 10 23), (0, .nameAndType 24 25), (0, u "coder"), (0, u "B"), (6, .methodref 1 33), (0, .nameAndType 34 35), (0, u "length"), (0, u "()I"), (4, .methodref 1 41), (0, .nameAndType 24 42), (0, u "()B"), (2, u "append"), (0, u "(Ljava/lang/String;)Ljava/lang/AbstractStringBuilder;"), (1, .class_ 49), (0, u "java/lang/CharSequence"), (19, u "(Ljava/lang/String;)V"), (5, u "maybeLatin1"), (3, .fieldref 10 80), (0, .nameAndType 81 82), (0, u "count"), (0, u "I"), (2, u "isLatin1"), (0, u "()Z"), (13, .methodref 10 101), (0, .nameAndType 102 103), (0, u "ensureCapacityInternal"), (0, u "(I)V"), (104, .methodref 10 209), (0, .nameAndType 210 211), (0, u "putStringAt"), (0, u "(ILjava/lang/String;)V"), (5, u "inflateIfNeededFor"), (2, .nameAndType 221 222), (0, u "getBytes"), (0, u "([BIB)V"), (174, .methodref 10 398), (0, .nameAndType 217 69), (0, .methodref 1 220), (3, u "()[B"), (40, .class_ 445), (0, u "java/lang/Appendable"), (106, u "getValue")] 56

def k14m0 : Method := { name := "<init>", desc := "()V", sig := { parameters := [], returnType := none }, accessFlags := 0, code := none }
def k14c1 : Code := { maxStack := 2, maxLocals := 2, code := jdk_68_method_2_code, exceptionTable := #[], attributes := #[] }
def k14m1 : Method := { name := "<init>", desc := "(I)V", sig := { parameters := [.int], returnType := none }, accessFlags := 0, code := some k14c1 }
def k14c2 : Code := { maxStack := 1, maxLocals := 1, code := jdk_68_method_6_code, exceptionTable := #[], attributes := #[] }
def k14m2 : Method := { name := "length", desc := "()I", sig := { parameters := [], returnType := some .int }, accessFlags := 1, code := some k14c2 }
def k14c3 : Code := { maxStack := 4, maxLocals := 3, code := jdk_68_method_9_code, exceptionTable := #[], attributes := #[] }
def k14m3 : Method := { name := "ensureCapacityInternal", desc := "(I)V", sig := { parameters := [.int], returnType := none }, accessFlags := 2, code := some k14c3 }
def k14c4 : Code := { maxStack := 3, maxLocals := 3, code := jdk_68_method_22_code, exceptionTable := #[], attributes := #[] }
def k14m4 : Method := { name := "append", desc := "(Ljava/lang/String;)Ljava/lang/AbstractStringBuilder;", sig := { parameters := [(.object "java/lang/String")], returnType := some (.object "java/lang/AbstractStringBuilder") }, accessFlags := 1, code := some k14c4 }
def k14c5 : Code := { maxStack := 1, maxLocals := 1, code := jdk_68_method_64_code, exceptionTable := #[], attributes := #[] }
def k14m5 : Method := { name := "getValue", desc := "()[B", sig := { parameters := [], returnType := some (.array .byte) }, accessFlags := 16, code := some k14c5 }
def k14c6 : Code := { maxStack := 1, maxLocals := 1, code := jdk_68_method_68_code, exceptionTable := #[], attributes := #[] }
def k14m6 : Method := { name := "isLatin1", desc := "()Z", sig := { parameters := [], returnType := some .boolean }, accessFlags := 16, code := some k14c6 }
def k14c7 : Code := { maxStack := 2, maxLocals := 2, code := jdk_68_method_71_code, exceptionTable := #[], attributes := #[] }
def k14m7 : Method := { name := "inflateIfNeededFor", desc := "(Ljava/lang/String;)V", sig := { parameters := [(.object "java/lang/String")], returnType := none }, accessFlags := 2, code := some k14c7 }
def k14c8 : Code := { maxStack := 4, maxLocals := 3, code := jdk_68_method_73_code, exceptionTable := #[], attributes := #[] }
def k14m8 : Method := { name := "putStringAt", desc := "(ILjava/lang/String;)V", sig := { parameters := [.int, (.object "java/lang/String")], returnType := none }, accessFlags := 2, code := some k14c8 }
/-- java/lang/AbstractStringBuilder -/
def k14 : Class := { plain "java/lang/AbstractStringBuilder" (some 0) with
  accessFlags := 1056
  interfaces := #[13, 4]
  cf := some (fileOf pool14 10 #[] #[{ accessFlags := 0, nameIndex := 7, descriptorIndex := 8, attributes := #[] }, { accessFlags := 0, nameIndex := 7, descriptorIndex := 103, attributes := #[] }, { accessFlags := 1, nameIndex := 34, descriptorIndex := 35, attributes := #[] }, { accessFlags := 2, nameIndex := 102, descriptorIndex := 103, attributes := #[] }, { accessFlags := 1, nameIndex := 45, descriptorIndex := 46, attributes := #[] }, { accessFlags := 16, nameIndex := 552, descriptorIndex := 403, attributes := #[] }, { accessFlags := 16, nameIndex := 85, descriptorIndex := 86, attributes := #[] }, { accessFlags := 2, nameIndex := 217, descriptorIndex := 69, attributes := #[] }, { accessFlags := 2, nameIndex := 210, descriptorIndex := 211, attributes := #[] }] 1056 4 #[444, 48] #[{ accessFlags := 0, nameIndex := 17, descriptorIndex := 14, attributes := #[] }, { accessFlags := 0, nameIndex := 24, descriptorIndex := 25, attributes := #[] }, { accessFlags := 0, nameIndex := 75, descriptorIndex := 21, attributes := #[] }, { accessFlags := 0, nameIndex := 81, descriptorIndex := 82, attributes := #[] }, { accessFlags := 26, nameIndex := 13, descriptorIndex := 14, attributes := #[] }])
  fields := #[{ name := "value", type := (.array .byte), accessFlags := 0, slot := 0, constantValue := 0 }, { name := "coder", type := .byte, accessFlags := 0, slot := 1, constantValue := 0 }, { name := "maybeLatin1", type := .boolean, accessFlags := 0, slot := 2, constantValue := 0 }, { name := "count", type := .int, accessFlags := 0, slot := 3, constantValue := 0 }, { name := "EMPTYVALUE", type := (.array .byte), accessFlags := 26, slot := 0, constantValue := 0 }]
  methods := #[k14m0, k14m1, k14m2, k14m3, k14m4, k14m5, k14m6, k14m7, k14m8]
  instanceTypes := #[(.array .byte), .byte, .boolean, .int]
  staticTypes := #[(.array .byte)]
  resolved := Array.replicate 609 none
  statics := none }

def pool15 : Array CpInfo := pool [(1, .methodref 2 3), (0, .class_ 4), (0, .nameAndType 5 6), (0, u "java/lang/AbstractStringBuilder"), (0, u "<init>"), (0, u "(I)V"), (11, .class_ 20), (1, u "java/lang/String"), (3, .class_ 26), (1, u "java/lang/StringBuilder"), (0, u "append"), (0, u "(Ljava/lang/String;)Ljava/lang/StringBuilder;"), (0, .methodref 2 30), (0, .nameAndType 27 31), (0, u "(Ljava/lang/String;)Ljava/lang/AbstractStringBuilder;"), (105, .methodref 18 138), (0, .nameAndType 5 139), (0, u "(Ljava/lang/StringBuilder;)V"), (5, u "()V"), (10, u "()I"), (186, .methodref 2 344), (0, .nameAndType 345 156), (0, u "length"), (3, .class_ 350), (0, u "java/lang/Appendable"), (0, .class_ 352), (0, u "java/io/Serializable"), (0, .class_ 354), (0, u "java/lang/Comparable"), (0, .class_ 356), (0, u "java/lang/CharSequence"), (0, u "serialVersionUID"), (0, u "J"), (40, u "toString"), (0, u "()Ljava/lang/String;")] 21

def k15c0 : Code := { maxStack := 2, maxLocals := 1, code := jdk_67_method_1_code, exceptionTable := #[], attributes := #[] }
def k15m0 : Method := { name := "<init>", desc := "()V", sig := { parameters := [], returnType := none }, accessFlags := 1, code := some k15c0 }
def k15c1 : Code := { maxStack := 2, maxLocals := 2, code := jdk_67_method_7_code, exceptionTable := #[], attributes := #[] }
def k15m1 : Method := { name := "append", desc := "(Ljava/lang/String;)Ljava/lang/StringBuilder;", sig := { parameters := [(.object "java/lang/String")], returnType := some (.object "java/lang/StringBuilder") }, accessFlags := 1, code := some k15c1 }
def k15c2 : Code := { maxStack := 3, maxLocals := 1, code := jdk_67_method_42_code, exceptionTable := #[], attributes := #[] }
def k15m2 : Method := { name := "toString", desc := "()Ljava/lang/String;", sig := { parameters := [], returnType := some (.object "java/lang/String") }, accessFlags := 1, code := some k15c2 }
def k15c3 : Code := { maxStack := 1, maxLocals := 1, code := jdk_67_method_93_code, exceptionTable := #[], attributes := #[] }
def k15m3 : Method := { name := "length", desc := "()I", sig := { parameters := [], returnType := some .int }, accessFlags := 4161, code := some k15c3 }
/-- java/lang/StringBuilder -/
def k15 : Class := { plain "java/lang/StringBuilder" (some 14) with
  accessFlags := 49
  interfaces := #[13, 2, 3, 4]
  cf := some (fileOf pool15 24 #[] #[{ accessFlags := 1, nameIndex := 5, descriptorIndex := 145, attributes := #[] }, { accessFlags := 1, nameIndex := 27, descriptorIndex := 28, attributes := #[] }, { accessFlags := 1, nameIndex := 399, descriptorIndex := 400, attributes := #[] }, { accessFlags := 4161, nameIndex := 345, descriptorIndex := 156, attributes := #[] }] 49 2 #[349, 351, 353, 355] #[{ accessFlags := 24, nameIndex := 357, descriptorIndex := 358, attributes := #[] }])
  fields := #[{ name := "serialVersionUID", type := .long, accessFlags := 24, slot := 0, constantValue := 0 }]
  methods := #[k15m0, k15m1, k15m2, k15m3]
  instanceTypes := #[(.array .byte), .byte, .boolean, .int]
  staticTypes := #[.long]
  resolved := Array.replicate 422 none
  statics := none }

def pool16 : Array CpInfo := pool [(2, .class_ 4), (1, u "java/lang/Object"), (0, u "<init>"), (0, u "()V"), (1, .class_ 10), (1, u "java/lang/System"), (0, u "allowSecurityManager"), (0, u "I"), (16, u "cons"), (0, u "Ljava/io/Console;"), (77, .class_ 110), (1, u "java/lang/System$CallersHolder"), (43, u "initialErrStream"), (0, u "Ljava/io/PrintStream;"), (19, u "security"), (0, u "Ljava/lang/SecurityManager;"), (31, .class_ 209), (0, u "java/lang/System$1"), (7, u "props"), (0, u "Ljava/util/Properties;"), (2, u "lineSeparator"), (0, u "Ljava/lang/String;"), (96, .class_ 321), (1, u "java/lang/System$LoggerFinder"), (5, .class_ 328), (0, u "java/lang/System$Logger"), (67, u "err"), (2, u "out"), (91, u "notSupportedJnuEncoding"), (15, u "in"), (17, u "initialIn"), (0, u "Ljava/io/InputStream;"), (35, u "bootLayer"), (0, u "Ljava/lang/ModuleLayer;"), (99, .class_ 664), (0, u "java/lang/System$2"), (9, u "NEVER"), (2, u "MAYBE"), (49, u "arraycopy"), (0, u "(Ljava/lang/Object;ILjava/lang/Object;II)V"), (72, .class_ 802), (0, u "java/lang/System$Logger$Level")] 31

def k16m0 : Method := { name := "<init>", desc := "()V", sig := { parameters := [], returnType := none }, accessFlags := 2, code := none }
def k16m1 : Method := { name := "arraycopy", desc := "(Ljava/lang/Object;ILjava/lang/Object;II)V", sig := { parameters := [(.object "java/lang/Object"), .int, (.object "java/lang/Object"), .int, .int], returnType := none }, accessFlags := 265, code := none }
/-- java/lang/System -/
def k16 : Class := { plain "java/lang/System" (some 0) with
  accessFlags := 49
  interfaces := #[]
  cf := some (fileOf pool16 8 #[.nestMembers #[319, 327, 801, 108, 663, 208]] #[{ accessFlags := 2, nameIndex := 5, descriptorIndex := 6, attributes := #[] }, { accessFlags := 265, nameIndex := 727, descriptorIndex := 728, attributes := #[] }] 49 2 #[] #[{ accessFlags := 25, nameIndex := 507, descriptorIndex := 526, attributes := #[] }, { accessFlags := 25, nameIndex := 399, descriptorIndex := 155, attributes := #[] }, { accessFlags := 25, nameIndex := 396, descriptorIndex := 155, attributes := #[] }, { accessFlags := 10, nameIndex := 525, descriptorIndex := 526, attributes := #[] }, { accessFlags := 26, nameIndex := 674, descriptorIndex := 12, attributes := #[] }, { accessFlags := 26, nameIndex := 677, descriptorIndex := 12, attributes := #[] }, { accessFlags := 10, nameIndex := 11, descriptorIndex := 12, attributes := #[] }, { accessFlags := 74, nameIndex := 175, descriptorIndex := 176, attributes := #[] }, { accessFlags := 10, nameIndex := 491, descriptorIndex := 222, attributes := #[] }, { accessFlags := 74, nameIndex := 29, descriptorIndex := 30, attributes := #[] }, { accessFlags := 74, nameIndex := 154, descriptorIndex := 155, attributes := #[] }, { accessFlags := 10, nameIndex := 217, descriptorIndex := 218, attributes := #[] }, { accessFlags := 10, nameIndex := 221, descriptorIndex := 222, attributes := #[] }, { accessFlags := 8, nameIndex := 562, descriptorIndex := 563, attributes := #[] }])
  fields := #[{ name := "in", type := (.object "java/io/InputStream"), accessFlags := 25, slot := 0, constantValue := 0 }, { name := "out", type := (.object "java/io/PrintStream"), accessFlags := 25, slot := 1, constantValue := 0 }, { name := "err", type := (.object "java/io/PrintStream"), accessFlags := 25, slot := 2, constantValue := 0 }, { name := "initialIn", type := (.object "java/io/InputStream"), accessFlags := 10, slot := 3, constantValue := 0 }, { name := "NEVER", type := .int, accessFlags := 26, slot := 4, constantValue := 0 }, { name := "MAYBE", type := .int, accessFlags := 26, slot := 5, constantValue := 0 }, { name := "allowSecurityManager", type := .int, accessFlags := 10, slot := 6, constantValue := 0 }, { name := "security", type := (.object "java/lang/SecurityManager"), accessFlags := 74, slot := 7, constantValue := 0 }, { name := "notSupportedJnuEncoding", type := (.object "java/lang/String"), accessFlags := 10, slot := 8, constantValue := 0 }, { name := "cons", type := (.object "java/io/Console"), accessFlags := 74, slot := 9, constantValue := 0 }, { name := "initialErrStream", type := (.object "java/io/PrintStream"), accessFlags := 74, slot := 10, constantValue := 0 }, { name := "props", type := (.object "java/util/Properties"), accessFlags := 10, slot := 11, constantValue := 0 }, { name := "lineSeparator", type := (.object "java/lang/String"), accessFlags := 10, slot := 12, constantValue := 0 }, { name := "bootLayer", type := (.object "java/lang/ModuleLayer"), accessFlags := 8, slot := 13, constantValue := 0 }]
  methods := #[k16m0, k16m1]
  instanceTypes := #[]
  staticTypes := #[(.object "java/io/InputStream"), (.object "java/io/PrintStream"), (.object "java/io/PrintStream"), (.object "java/io/InputStream"), .int, .int, .int, (.object "java/lang/SecurityManager"), (.object "java/lang/String"), (.object "java/io/Console"), (.object "java/io/PrintStream"), (.object "java/util/Properties"), (.object "java/lang/String"), (.object "java/lang/ModuleLayer")]
  resolved := Array.replicate 834 none
  statics := none }

def pool17 : Array CpInfo := pool [(2, .class_ 4), (1, u "java/lang/Object"), (0, u "<init>"), (0, u "()V"), (7, .class_ 16), (1, u "java/util/Arrays"), (57, .class_ 76), (1, u "java/util/Arrays$NaturalOrder"), (36, .class_ 115), (1, u "java/util/Arrays$LegacyMergeSort"), (1, u "Z"), (21, u "copyOfRange"), (10, .methodref 151 152), (0, .class_ 153), (0, .nameAndType 154 155), (0, u "java/lang/System"), (0, u "arraycopy"), (0, u "(Ljava/lang/Object;ILjava/lang/Object;II)V"), (148, .methodref 305 306), (0, .class_ 307), (0, .nameAndType 308 309), (0, u "java/lang/Math"), (0, u "min"), (0, u "(II)I"), (29, .methodref 14 340), (0, .nameAndType 341 342), (0, u "copyOfRangeByte"), (0, u "([BII)[B"), (0, .methodref 14 344), (0, .nameAndType 345 346), (0, u "checkLength"), (0, u "(II)V"), (28, .class_ 376), (0, u "java/util/Arrays$ArrayList"), (68, u "$assertionsDisabled"), (269, u "MIN_ARRAY_SORT_GRAN"), (0, u "I"), (2, u "INSERTIONSORT_THRESHOLD"), (255, .class_ 976), (0, u "java/util/Arrays$ArrayItr")] 52

def k17m0 : Method := { name := "<init>", desc := "()V", sig := { parameters := [], returnType := none }, accessFlags := 2, code := none }
def k17c1 : Code := { maxStack := 4, maxLocals := 2, code := jdk_65_method_131_code, exceptionTable := #[], attributes := #[] }
def k17m1 : Method := { name := "checkLength", desc := "(II)V", sig := { parameters := [.int, .int], returnType := none }, accessFlags := 10, code := some k17c1 }
def k17c2 : Code := { maxStack := 3, maxLocals := 3, code := jdk_65_method_132_code, exceptionTable := #[], attributes := #[] }
def k17m2 : Method := { name := "copyOfRange", desc := "([BII)[B", sig := { parameters := [(.array .byte), .int, .int], returnType := some (.array .byte) }, accessFlags := 9, code := some k17c2 }
def k17c3 : Code := { maxStack := 6, maxLocals := 5, code := jdk_65_method_133_code, exceptionTable := #[], attributes := #[] }
def k17m3 : Method := { name := "copyOfRangeByte", desc := "([BII)[B", sig := { parameters := [(.array .byte), .int, .int], returnType := some (.array .byte) }, accessFlags := 10, code := some k17c3 }
/-- java/util/Arrays -/
def k17 : Class := { plain "java/util/Arrays" (some 0) with
  accessFlags := 49
  interfaces := #[]
  cf := some (fileOf pool17 14 #[.nestMembers #[975, 375, 113, 74]] #[{ accessFlags := 2, nameIndex := 5, descriptorIndex := 6, attributes := #[] }, { accessFlags := 10, nameIndex := 345, descriptorIndex := 346, attributes := #[] }, { accessFlags := 9, nameIndex := 139, descriptorIndex := 342, attributes := #[] }, { accessFlags := 10, nameIndex := 341, descriptorIndex := 342, attributes := #[] }] 49 2 #[] #[{ accessFlags := 26, nameIndex := 715, descriptorIndex := 716, attributes := #[] }, { accessFlags := 26, nameIndex := 719, descriptorIndex := 716, attributes := #[] }, { accessFlags := 4120, nameIndex := 445, descriptorIndex := 117, attributes := #[] }])
  fields := #[{ name := "MIN_ARRAY_SORT_GRAN", type := .int, accessFlags := 26, slot := 0, constantValue := 0 }, { name := "INSERTIONSORT_THRESHOLD", type := .int, accessFlags := 26, slot := 1, constantValue := 0 }, { name := "$assertionsDisabled", type := .boolean, accessFlags := 4120, slot := 2, constantValue := 0 }]
  methods := #[k17m0, k17m1, k17m2, k17m3]
  instanceTypes := #[]
  staticTypes := #[.int, .int, .boolean]
  resolved := Array.replicate 1029 none
  statics := none }

def pool18 : Array CpInfo := pool [(1, .class_ 2), (0, u "java/lang/Math"), (1, .class_ 6), (1, u "java/lang/Object"), (0, u "<init>"), (0, u "()V"), (89, .class_ 100), (1, u "java/lang/Math$RandomNumberGeneratorHolder"), (71, u "negativeZeroFloatBits"), (0, u "J"), (2, u "negativeZeroDoubleBits"), (24, u "min"), (43, u "$assertionsDisabled"), (0, u "Z"), (88, u "(II)I"), (2, u "twoToTheDoubleScaleDown"), (0, u "D"), (4, u "twoToTheDoubleScaleUp"), (9, u "E"), (3, u "PI"), (2, u "TAU"), (2, u "DEGREES_TO_RADIANS"), (0, u "RADIANS_TO_DEGREES")] 94

def k18m0 : Method := { name := "<init>", desc := "()V", sig := { parameters := [], returnType := none }, accessFlags := 2, code := none }
def k18c1 : Code := { maxStack := 2, maxLocals := 2, code := jdk_29_method_69_code, exceptionTable := #[], attributes := #[] }
def k18m1 : Method := { name := "min", desc := "(II)I", sig := { parameters := [.int, .int], returnType := some .int }, accessFlags := 9, code := some k18c1 }
/-- java/lang/Math -/
def k18 : Class := { plain "java/lang/Math" (some 0) with
  accessFlags := 49
  interfaces := #[]
  cf := some (fileOf pool18 1 #[.nestMembers #[98]] #[{ accessFlags := 2, nameIndex := 7, descriptorIndex := 8, attributes := #[] }, { accessFlags := 9, nameIndex := 201, descriptorIndex := 335, attributes := #[] }] 49 4 #[] #[{ accessFlags := 25, nameIndex := 354, descriptorIndex := 339, attributes := #[] }, { accessFlags := 25, nameIndex := 358, descriptorIndex := 339, attributes := #[] }, { accessFlags := 25, nameIndex := 361, descriptorIndex := 339, attributes := #[] }, { accessFlags := 26, nameIndex := 364, descriptorIndex := 339, attributes := #[] }, { accessFlags := 26, nameIndex := 365, descriptorIndex := 339, attributes := #[] }, { accessFlags := 26, nameIndex := 172, descriptorIndex := 173, attributes := #[] }, { accessFlags := 26, nameIndex := 176, descriptorIndex := 173, attributes := #[] }, { accessFlags := 8, nameIndex := 344, descriptorIndex := 339, attributes := #[] }, { accessFlags := 8, nameIndex := 338, descriptorIndex := 339, attributes := #[] }, { accessFlags := 4120, nameIndex := 245, descriptorIndex := 246, attributes := #[] }])
  fields := #[{ name := "E", type := .double, accessFlags := 25, slot := 0, constantValue := 0 }, { name := "PI", type := .double, accessFlags := 25, slot := 1, constantValue := 0 }, { name := "TAU", type := .double, accessFlags := 25, slot := 2, constantValue := 0 }, { name := "DEGREES_TO_RADIANS", type := .double, accessFlags := 26, slot := 3, constantValue := 0 }, { name := "RADIANS_TO_DEGREES", type := .double, accessFlags := 26, slot := 4, constantValue := 0 }, { name := "negativeZeroFloatBits", type := .long, accessFlags := 26, slot := 5, constantValue := 0 }, { name := "negativeZeroDoubleBits", type := .long, accessFlags := 26, slot := 6, constantValue := 0 }, { name := "twoToTheDoubleScaleUp", type := .double, accessFlags := 8, slot := 7, constantValue := 0 }, { name := "twoToTheDoubleScaleDown", type := .double, accessFlags := 8, slot := 8, constantValue := 0 }, { name := "$assertionsDisabled", type := .boolean, accessFlags := 4120, slot := 9, constantValue := 0 }]
  methods := #[k18m0, k18m1]
  instanceTypes := #[]
  staticTypes := #[.double, .double, .double, .double, .double, .long, .long, .double, .double, .boolean]
  resolved := Array.replicate 460 none
  statics := none }

def pool19 : Array CpInfo := pool [(2, .class_ 4), (1, u "java/lang/Object"), (0, u "<init>"), (0, u "()V"), (17, .class_ 26), (1, u "jdk/internal/util/Preconditions"), (28, .class_ 56), (0, u "jdk/internal/util/Preconditions$4"), (57, .class_ 115), (0, u "jdk/internal/util/Preconditions$1"), (7, u "SIOOBE_FORMATTER"), (0, u "Ljava/util/function/BiFunction;"), (0, .class_ 126), (0, u "jdk/internal/util/Preconditions$2"), (3, u "AIOOBE_FORMATTER"), (0, .class_ 132), (0, u "jdk/internal/util/Preconditions$3"), (3, u "IOOBE_FORMATTER")] 57

def k19m0 : Method := { name := "<init>", desc := "()V", sig := { parameters := [], returnType := none }, accessFlags := 1, code := none }
/-- jdk/internal/util/Preconditions -/
def k19 : Class := { plain "jdk/internal/util/Preconditions" (some 0) with
  accessFlags := 33
  interfaces := #[]
  cf := some (fileOf pool19 24 #[.nestMembers #[55, 131, 125, 114]] #[{ accessFlags := 1, nameIndex := 5, descriptorIndex := 6, attributes := #[] }] 33 2 #[] #[{ accessFlags := 25, nameIndex := 123, descriptorIndex := 124, attributes := #[] }, { accessFlags := 25, nameIndex := 130, descriptorIndex := 124, attributes := #[] }, { accessFlags := 25, nameIndex := 136, descriptorIndex := 124, attributes := #[] }])
  fields := #[{ name := "SIOOBE_FORMATTER", type := (.object "java/util/function/BiFunction"), accessFlags := 25, slot := 0, constantValue := 0 }, { name := "AIOOBE_FORMATTER", type := (.object "java/util/function/BiFunction"), accessFlags := 25, slot := 1, constantValue := 0 }, { name := "IOOBE_FORMATTER", type := (.object "java/util/function/BiFunction"), accessFlags := 25, slot := 2, constantValue := 0 }]
  methods := #[k19m0]
  instanceTypes := #[]
  staticTypes := #[(.object "java/util/function/BiFunction"), (.object "java/util/function/BiFunction"), (.object "java/util/function/BiFunction")]
  resolved := Array.replicate 194 none
  statics := some 1 }

def pool20 : Array CpInfo := pool [(9, u "<init>"), (6, .class_ 18), (1, u "java/lang/Object"), (0, u "()V"), (1, .class_ 23), (1, u "jdk/internal/util/ArraysSupport"), (0, u "LOG2_ARRAY_LONG_INDEX_SCALE"), (0, u "I"), (2, u "U"), (0, u "Ljdk/internal/misc/Unsafe;"), (8, u "BIG_ENDIAN"), (0, u "Z"), (8, u "LOG2_BYTE_BIT_SIZE"), (4, u "LOG2_ARRAY_INT_INDEX_SCALE"), (54, u "JLA"), (0, u "Ljdk/internal/access/JavaLangAccess;"), (11, u "LOG2_ARRAY_BOOLEAN_INDEX_SCALE"), (9, u "LOG2_ARRAY_BYTE_INDEX_SCALE"), (5, u "LOG2_ARRAY_CHAR_INDEX_SCALE"), (5, u "LOG2_ARRAY_SHORT_INDEX_SCALE"), (18, u "LOG2_ARRAY_FLOAT_INDEX_SCALE"), (24, u "LOG2_ARRAY_DOUBLE_INDEX_SCALE"), (89, u "T_BOOLEAN"), (2, u "T_CHAR"), (1, u "T_FLOAT"), (1, u "T_DOUBLE"), (1, u "T_BYTE"), (1, u "T_SHORT"), (1, u "T_INT"), (1, u "T_LONG"), (1, u "SOFT_MAX_ARRAY_LENGTH")] 83

def k20m0 : Method := { name := "<init>", desc := "()V", sig := { parameters := [], returnType := none }, accessFlags := 2, code := none }
/-- jdk/internal/util/ArraysSupport -/
def k20 : Class := { plain "jdk/internal/util/ArraysSupport" (some 0) with
  accessFlags := 33
  interfaces := #[]
  cf := some (fileOf pool20 21 #[] #[{ accessFlags := 2, nameIndex := 9, descriptorIndex := 19, attributes := #[] }] 33 16 #[] #[{ accessFlags := 24, nameIndex := 28, descriptorIndex := 29, attributes := #[] }, { accessFlags := 26, nameIndex := 38, descriptorIndex := 39, attributes := #[] }, { accessFlags := 25, nameIndex := 121, descriptorIndex := 25, attributes := #[] }, { accessFlags := 25, nameIndex := 131, descriptorIndex := 25, attributes := #[] }, { accessFlags := 25, nameIndex := 137, descriptorIndex := 25, attributes := #[] }, { accessFlags := 25, nameIndex := 143, descriptorIndex := 25, attributes := #[] }, { accessFlags := 25, nameIndex := 53, descriptorIndex := 25, attributes := #[] }, { accessFlags := 25, nameIndex := 24, descriptorIndex := 25, attributes := #[] }, { accessFlags := 25, nameIndex := 162, descriptorIndex := 25, attributes := #[] }, { accessFlags := 25, nameIndex := 187, descriptorIndex := 25, attributes := #[] }, { accessFlags := 26, nameIndex := 48, descriptorIndex := 25, attributes := #[] }, { accessFlags := 25, nameIndex := 277, descriptorIndex := 25, attributes := #[] }, { accessFlags := 25, nameIndex := 280, descriptorIndex := 25, attributes := #[] }, { accessFlags := 25, nameIndex := 282, descriptorIndex := 25, attributes := #[] }, { accessFlags := 25, nameIndex := 284, descriptorIndex := 25, attributes := #[] }, { accessFlags := 25, nameIndex := 286, descriptorIndex := 25, attributes := #[] }, { accessFlags := 25, nameIndex := 288, descriptorIndex := 25, attributes := #[] }, { accessFlags := 25, nameIndex := 290, descriptorIndex := 25, attributes := #[] }, { accessFlags := 25, nameIndex := 292, descriptorIndex := 25, attributes := #[] }, { accessFlags := 26, nameIndex := 108, descriptorIndex := 109, attributes := #[] }, { accessFlags := 25, nameIndex := 294, descriptorIndex := 25, attributes := #[] }])
  fields := #[{ name := "U", type := (.object "jdk/internal/misc/Unsafe"), accessFlags := 24, slot := 0, constantValue := 0 }, { name := "BIG_ENDIAN", type := .boolean, accessFlags := 26, slot := 1, constantValue := 0 }, { name := "LOG2_ARRAY_BOOLEAN_INDEX_SCALE", type := .int, accessFlags := 25, slot := 2, constantValue := 0 }, { name := "LOG2_ARRAY_BYTE_INDEX_SCALE", type := .int, accessFlags := 25, slot := 3, constantValue := 0 }, { name := "LOG2_ARRAY_CHAR_INDEX_SCALE", type := .int, accessFlags := 25, slot := 4, constantValue := 0 }, { name := "LOG2_ARRAY_SHORT_INDEX_SCALE", type := .int, accessFlags := 25, slot := 5, constantValue := 0 }, { name := "LOG2_ARRAY_INT_INDEX_SCALE", type := .int, accessFlags := 25, slot := 6, constantValue := 0 }, { name := "LOG2_ARRAY_LONG_INDEX_SCALE", type := .int, accessFlags := 25, slot := 7, constantValue := 0 }, { name := "LOG2_ARRAY_FLOAT_INDEX_SCALE", type := .int, accessFlags := 25, slot := 8, constantValue := 0 }, { name := "LOG2_ARRAY_DOUBLE_INDEX_SCALE", type := .int, accessFlags := 25, slot := 9, constantValue := 0 }, { name := "LOG2_BYTE_BIT_SIZE", type := .int, accessFlags := 26, slot := 10, constantValue := 0 }, { name := "T_BOOLEAN", type := .int, accessFlags := 25, slot := 11, constantValue := 0 }, { name := "T_CHAR", type := .int, accessFlags := 25, slot := 12, constantValue := 0 }, { name := "T_FLOAT", type := .int, accessFlags := 25, slot := 13, constantValue := 0 }, { name := "T_DOUBLE", type := .int, accessFlags := 25, slot := 14, constantValue := 0 }, { name := "T_BYTE", type := .int, accessFlags := 25, slot := 15, constantValue := 0 }, { name := "T_SHORT", type := .int, accessFlags := 25, slot := 16, constantValue := 0 }, { name := "T_INT", type := .int, accessFlags := 25, slot := 17, constantValue := 0 }, { name := "T_LONG", type := .int, accessFlags := 25, slot := 18, constantValue := 0 }, { name := "JLA", type := (.object "jdk/internal/access/JavaLangAccess"), accessFlags := 26, slot := 19, constantValue := 0 }, { name := "SOFT_MAX_ARRAY_LENGTH", type := .int, accessFlags := 25, slot := 20, constantValue := 0 }]
  methods := #[k20m0]
  instanceTypes := #[]
  staticTypes := #[(.object "jdk/internal/misc/Unsafe"), .boolean, .int, .int, .int, .int, .int, .int, .int, .int, .int, .int, .int, .int, .int, .int, .int, .int, .int, (.object "jdk/internal/access/JavaLangAccess"), .int]
  resolved := Array.replicate 378 none
  statics := none }

def pool21 : Array CpInfo := pool [(1, u "java/lang/Cloneable"), (0, .class_ 1), (0, u "java/lang/Object"), (0, .class_ 3)] 3

/-- java/lang/Cloneable -/
def k21 : Class := { plain "java/lang/Cloneable" (some 0) with
  accessFlags := 1537
  interfaces := #[]
  cf := some (fileOf pool21 2 #[] #[] 1537 4 #[] #[])
  fields := #[]
  methods := #[]
  instanceTypes := #[]
  staticTypes := #[]
  resolved := Array.replicate 8 none
  statics := none }

/-- the primitive byte -/
def k22 : Class := { plain "byte" none with kind := .primitive 'B', accessFlags := 0x411 }
/-- [B -/
def k23 : Class := { plain "[B" (some 0) with kind := .array 22 .byte, interfaces := #[21, 2], accessFlags := 1041 }

/-- the primitive char -/
def k24 : Class := { plain "char" none with kind := .primitive 'C', accessFlags := 0x411 }
/-- [C -/
def k25 : Class := { plain "[C" (some 0) with kind := .array 24 .char, interfaces := #[21, 2], accessFlags := 1041 }

/-- the primitive int -/
def k26 : Class := { plain "int" none with kind := .primitive 'I', accessFlags := 0x411 }
/-- [I -/
def k27 : Class := { plain "[I" (some 0) with kind := .array 26 .int, interfaces := #[21, 2], accessFlags := 1041 }

def heap : Heap := #[{ cls := 7, slots := #[.long 0, .int 1, .null, .int 0, .null, .int 0, .int 0], vm := .statics 7 },
  { cls := 19, slots := #[.null, .null, .null], vm := .statics 19 }]
def classes : Array Class := #[k0, k1, k2, k3, k4, k5, k6, k7, k8, k9, k10, k11, k12, k13, k14, k15, k16, k17, k18, k19, k20, k21, k22, k23, k24, k25, k26, k27]
def interned : List (Array UInt16 × Addr) := []
def slotsUsed : Nat := 10
def theMethod : MethodId := ⟨1, 1⟩
def args0 : Array Value := #[.int 5, .int 7, .int 9, .int 5, .int 6]
def aboutOver (below : List Frame) : State where
  vm := { classes := classes, interned := interned.toArray }
  heap := heap
  slotsUsed := slotsUsed
  threads := #[{ frames := .invoking theMethod args0 :: below }]
def below0 : List Frame := [.native { method := ⟨0, 0⟩, args := #[] }]
def about1 : State := aboutOver below0
def p0 : Program := .bare "" "" ""
def e0 : Env := launch0.env 0 0 0
theorem w_frames : about1.frames = Frame.invoking theMethod args0 :: below0 := rfl
set_option maxRecDepth 65536 in
theorem w_args : argsFit about1.vm theMethod args0 = true := by decide +kernel
set_option maxRecDepth 65536 in
theorem w_heap : heapFits about1 = true := by decide +kernel
set_option maxRecDepth 65536 in
theorem w_runnable : about1.curStatus? = some .runnable := by decide +kernel
set_option maxRecDepth 65536 in
theorem w_alone : about1.alone = true := by decide +kernel
set_option maxRecDepth 65536 in
theorem w_named : about1.methodNamed? x = some theMethod := by decide +kernel
set_option maxRecDepth 65536 in
theorem w_hears : about1.hears theMethod below0 = true := by decide +kernel
set_option maxRecDepth 65536 in
theorem w_ripe : about1.ripe theMethod args0 below0 = true := by decide +kernel
theorem w_running : about1.status = .running := rfl
set_option maxRecDepth 65536 in
theorem w_room : about1.hasRoom e0.platform room_1 = true :=
  launch0.hasRoom_least _ room_1 (by decide +kernel) (by decide +kernel) (by decide +kernel) (by decide +kernel) (by decide +kernel) (by decide +kernel)
theorem allAtoms_all (ts : List Jvm.Cond) (a : Array Jvm.Value) (st : Jvm.State) : (allAtoms ts).before a st = ts.all (fun c => c.before a st) := by
  induction ts with
  | nil => rfl
  | cons c t ih =>
    show (Jvm.Cond.and c (allAtoms t)).before a st = _
    rw [Jvm.Cond.before_and, ih, List.all_cons]
def words1 : List Jvm.Cond := Jvm.Cond.code x code maxLocals ret :: tables_1
/-- a 'code' word, met by the world's own term for the bytes: nothing is compared byte by byte -/
theorem code_word {y : MethodName} {bytes : ByteArray} {mx : Nat} {rt : Option FieldType} {a : Array Value} {s : State} {m : MethodId} {meth : Method} {c : Code} (h1 : s.methodNamed? y = some m) (h2 : s.vm.method? m = some meth) (h3 : meth.code = some c) (h4 : c.code = bytes)
    (h5 : (c.maxLocals == mx && c.exceptionTable.isEmpty && decide (c.maxStack ≤ mostOperands) && decide (meth.sig.returnType = rt) && !meth.locks && decide (parseMethodDescriptor y.desc = some meth.sig)) = true) : (Jvm.Cond.code y bytes mx rt).before a s = true := by
  simp only [Bool.and_eq_true, beq_iff_eq, Bool.not_eq_true', decide_eq_true_eq] at h5
  obtain ⟨⟨⟨⟨⟨g1, g2⟩, g3⟩, g4⟩, g5⟩, g6⟩ := h5
  simp [Cond.before, Cond.holds, Cond.value, h1, h2, h3, h4, g1, g2, g3, g4, g5, g6]
def isCode : Jvm.Cond → Bool
  | .code _ _ _ _ => true
  | _ => false
theorem all_split {L : List Jvm.Cond} {P : Jvm.Cond → Bool} (h1 : L.all (fun c => isCode c || P c) = true) (h2 : ∀ c ∈ L.filter isCode, P c = true) : L.all P = true := by
  refine List.all_eq_true.mpr fun c hc => ?_
  have h := List.all_eq_true.mp h1 c hc
  rcases Bool.eq_false_or_eq_true (isCode c) with hi | hi
  · exact h2 c (List.mem_filter.mpr ⟨hc, hi⟩)
  · simpa [hi] using h
set_option maxRecDepth 65536 in
theorem w_c0 : (Jvm.Cond.code x code maxLocals ret).before args0 about1 = true := code_word (m := ⟨1, 1⟩) (meth := k1m1) (c := k1c1) (by decide +kernel) rfl rfl rfl (by decide +kernel)
set_option maxRecDepth 65536 in
theorem w_c1 : (Jvm.Cond.code ({ cls := "java/lang/String", name := "<init>", desc := "([C)V" } : Jvm.MethodName) jdk_42_method_3_code (2 : Nat) (Option.none : Option Jvm.ClassFile.FieldType)).before args0 about1 = true := code_word (m := ⟨7, 1⟩) (meth := k7m1) (c := k7c1) (by decide +kernel) rfl rfl rfl (by decide +kernel)
set_option maxRecDepth 65536 in
theorem w_c2 : (Jvm.Cond.code ({ cls := "java/lang/String", name := "<init>", desc := "([CIILjava/lang/Void;)V" } : Jvm.MethodName) jdk_42_method_149_code (6 : Nat) (Option.none : Option Jvm.ClassFile.FieldType)).before args0 about1 = true := code_word (m := ⟨7, 7⟩) (meth := k7m7) (c := k7c7) (by decide +kernel) rfl rfl rfl (by decide +kernel)
set_option maxRecDepth 65536 in
theorem w_c3 : (Jvm.Cond.code ({ cls := "java/lang/Object", name := "<init>", desc := "()V" } : Jvm.MethodName) object_method_1_code (1 : Nat) (Option.none : Option Jvm.ClassFile.FieldType)).before args0 about1 = true := code_word (m := ⟨0, 0⟩) (meth := k0m0) (c := k0c0) (by decide +kernel) rfl rfl rfl (by decide +kernel)
set_option maxRecDepth 65536 in
theorem w_c4 : (Jvm.Cond.code ({ cls := "java/lang/StringUTF16", name := "compress", desc := "([CII)[B" } : Jvm.MethodName) jdk_52_method_16_code (6 : Nat) (Option.some (Jvm.ClassFile.FieldType.array Jvm.ClassFile.FieldType.byte))).before args0 about1 = true := code_word (m := ⟨8, 2⟩) (meth := k8m2) (c := k8c2) (by decide +kernel) rfl rfl rfl (by decide +kernel)
set_option maxRecDepth 65536 in
theorem w_c5 : (Jvm.Cond.code ({ cls := "java/lang/StringUTF16", name := "compress", desc := "([CI[BII)I" } : Jvm.MethodName) jdk_52_method_21_code (7 : Nat) (Option.some Jvm.ClassFile.FieldType.int)).before args0 about1 = true := code_word (m := ⟨8, 3⟩) (meth := k8m3) (c := k8c3) (by decide +kernel) rfl rfl rfl (by decide +kernel)
set_option maxRecDepth 65536 in
theorem w_c6 : (Jvm.Cond.code ({ cls := "java/lang/StringUTF16", name := "coderFromArrayLen", desc := "([BI)B" } : Jvm.MethodName) jdk_52_method_15_code (2 : Nat) (Option.some Jvm.ClassFile.FieldType.byte)).before args0 about1 = true := code_word (m := ⟨8, 1⟩) (meth := k8m1) (c := k8c1) (by decide +kernel) rfl rfl rfl (by decide +kernel)
set_option maxRecDepth 65536 in
theorem w_c7 : (Jvm.Cond.code ({ cls := "java/lang/String", name := "valueOf", desc := "(C)Ljava/lang/String;" } : Jvm.MethodName) jdk_42_method_139_code (1 : Nat) (Option.some (Jvm.ClassFile.FieldType.object "java/lang/String"))).before args0 about1 = true := code_word (m := ⟨7, 5⟩) (meth := k7m5) (c := k7c5) (by decide +kernel) rfl rfl rfl (by decide +kernel)
set_option maxRecDepth 65536 in
theorem w_c8 : (Jvm.Cond.code ({ cls := "java/lang/StringLatin1", name := "canEncode", desc := "(C)Z" } : Jvm.MethodName) jdk_43_method_3_code (1 : Nat) (Option.some Jvm.ClassFile.FieldType.boolean)).before args0 about1 = true := code_word (m := ⟨9, 1⟩) (meth := k9m1) (c := k9c1) (by decide +kernel) rfl rfl rfl (by decide +kernel)
set_option maxRecDepth 65536 in
theorem w_c9 : (Jvm.Cond.code ({ cls := "java/lang/StringLatin1", name := "toBytes", desc := "(C)[B" } : Jvm.MethodName) jdk_43_method_46_code (1 : Nat) (Option.some (Jvm.ClassFile.FieldType.array Jvm.ClassFile.FieldType.byte))).before args0 about1 = true := code_word (m := ⟨9, 3⟩) (meth := k9m3) (c := k9c3) (by decide +kernel) rfl rfl rfl (by decide +kernel)
set_option maxRecDepth 65536 in
theorem w_c10 : (Jvm.Cond.code ({ cls := "java/lang/String", name := "<init>", desc := "([BB)V" } : Jvm.MethodName) jdk_42_method_151_code (3 : Nat) (Option.none : Option Jvm.ClassFile.FieldType)).before args0 about1 = true := code_word (m := ⟨7, 9⟩) (meth := k7m9) (c := k7c9) (by decide +kernel) rfl rfl rfl (by decide +kernel)
set_option maxRecDepth 65536 in
theorem w_c11 : (Jvm.Cond.code ({ cls := "com/example/momus/momus/cli/Option", name := "<init>", desc := "(Ljava/lang/String;Ljava/lang/String;Ljava/lang/String;Ljava/lang/String;)V" } : Jvm.MethodName) prog_13_method_1_code (5 : Nat) (Option.none : Option Jvm.ClassFile.FieldType)).before args0 about1 = true := code_word (m := ⟨12, 0⟩) (meth := k12m0) (c := k12c0) (by decide +kernel) rfl rfl rfl (by decide +kernel)
set_option maxRecDepth 65536 in
theorem w_c12 : (Jvm.Cond.code ({ cls := "java/lang/Record", name := "<init>", desc := "()V" } : Jvm.MethodName) jdk_30_method_1_code (1 : Nat) (Option.none : Option Jvm.ClassFile.FieldType)).before args0 about1 = true := code_word (m := ⟨10, 0⟩) (meth := k10m0) (c := k10c0) (by decide +kernel) rfl rfl rfl (by decide +kernel)
set_option maxRecDepth 65536 in
theorem w_c13 : (Jvm.Cond.code ({ cls := "com/example/momus/momus/cli/Option", name := "takesValue", desc := "()Z" } : Jvm.MethodName) prog_13_method_3_code (1 : Nat) (Option.some Jvm.ClassFile.FieldType.boolean)).before args0 about1 = true := code_word (m := ⟨12, 2⟩) (meth := k12m2) (c := k12c2) (by decide +kernel) rfl rfl rfl (by decide +kernel)
set_option maxRecDepth 65536 in
theorem w_c14 : (Jvm.Cond.code ({ cls := "com/example/momus/momus/cli/Option", name := "term", desc := "()Ljava/lang/String;" } : Jvm.MethodName) prog_13_method_4_code (1 : Nat) (Option.some (Jvm.ClassFile.FieldType.object "java/lang/String"))).before args0 about1 = true := code_word (m := ⟨12, 3⟩) (meth := k12m3) (c := k12c3) (by decide +kernel) rfl rfl rfl (by decide +kernel)
set_option maxRecDepth 65536 in
theorem w_c15 : (Jvm.Cond.code ({ cls := "java/lang/String", name := "equals", desc := "(Ljava/lang/Object;)Z" } : Jvm.MethodName) jdk_42_method_66_code (3 : Nat) (Option.some Jvm.ClassFile.FieldType.boolean)).before args0 about1 = true := code_word (m := ⟨7, 4⟩) (meth := k7m4) (c := k7c4) (by decide +kernel) rfl rfl rfl (by decide +kernel)
set_option maxRecDepth 65536 in
theorem w_c16 : (Jvm.Cond.code ({ cls := "com/example/momus/momus/cli/Option", name := "flag", desc := "(Ljava/lang/String;Ljava/lang/String;Ljava/lang/String;)Lcom/example/momus/momus/cli/Option;" } : Jvm.MethodName) prog_13_method_2_code (3 : Nat) (Option.some (Jvm.ClassFile.FieldType.object "com/example/momus/momus/cli/Option"))).before args0 about1 = true := code_word (m := ⟨12, 1⟩) (meth := k12m1) (c := k12c1) (by decide +kernel) rfl rfl rfl (by decide +kernel)
set_option maxRecDepth 65536 in
theorem w_c17 : (Jvm.Cond.code ({ cls := "java/lang/StringBuilder", name := "<init>", desc := "()V" } : Jvm.MethodName) jdk_67_method_1_code (1 : Nat) (Option.none : Option Jvm.ClassFile.FieldType)).before args0 about1 = true := code_word (m := ⟨15, 0⟩) (meth := k15m0) (c := k15c0) (by decide +kernel) rfl rfl rfl (by decide +kernel)
set_option maxRecDepth 65536 in
theorem w_c18 : (Jvm.Cond.code ({ cls := "java/lang/AbstractStringBuilder", name := "<init>", desc := "(I)V" } : Jvm.MethodName) jdk_68_method_2_code (2 : Nat) (Option.none : Option Jvm.ClassFile.FieldType)).before args0 about1 = true := code_word (m := ⟨14, 1⟩) (meth := k14m1) (c := k14c1) (by decide +kernel) rfl rfl rfl (by decide +kernel)
set_option maxRecDepth 65536 in
theorem w_c19 : (Jvm.Cond.code ({ cls := "java/lang/StringBuilder", name := "append", desc := "(Ljava/lang/String;)Ljava/lang/StringBuilder;" } : Jvm.MethodName) jdk_67_method_7_code (2 : Nat) (Option.some (Jvm.ClassFile.FieldType.object "java/lang/StringBuilder"))).before args0 about1 = true := code_word (m := ⟨15, 1⟩) (meth := k15m1) (c := k15c1) (by decide +kernel) rfl rfl rfl (by decide +kernel)
set_option maxRecDepth 65536 in
theorem w_c20 : (Jvm.Cond.code ({ cls := "java/lang/AbstractStringBuilder", name := "append", desc := "(Ljava/lang/String;)Ljava/lang/AbstractStringBuilder;" } : Jvm.MethodName) jdk_68_method_22_code (3 : Nat) (Option.some (Jvm.ClassFile.FieldType.object "java/lang/AbstractStringBuilder"))).before args0 about1 = true := code_word (m := ⟨14, 4⟩) (meth := k14m4) (c := k14c4) (by decide +kernel) rfl rfl rfl (by decide +kernel)
set_option maxRecDepth 65536 in
theorem w_c21 : (Jvm.Cond.code ({ cls := "java/lang/String", name := "length", desc := "()I" } : Jvm.MethodName) jdk_42_method_54_code (1 : Nat) (Option.some Jvm.ClassFile.FieldType.int)).before args0 about1 = true := code_word (m := ⟨7, 3⟩) (meth := k7m3) (c := k7c3) (by decide +kernel) rfl rfl rfl (by decide +kernel)
set_option maxRecDepth 65536 in
theorem w_c22 : (Jvm.Cond.code ({ cls := "java/lang/String", name := "coder", desc := "()B" } : Jvm.MethodName) jdk_42_method_152_code (1 : Nat) (Option.some Jvm.ClassFile.FieldType.byte)).before args0 about1 = true := code_word (m := ⟨7, 10⟩) (meth := k7m10) (c := k7c10) (by decide +kernel) rfl rfl rfl (by decide +kernel)
set_option maxRecDepth 65536 in
theorem w_c23 : (Jvm.Cond.code ({ cls := "java/lang/AbstractStringBuilder", name := "ensureCapacityInternal", desc := "(I)V" } : Jvm.MethodName) jdk_68_method_9_code (3 : Nat) (Option.none : Option Jvm.ClassFile.FieldType)).before args0 about1 = true := code_word (m := ⟨14, 3⟩) (meth := k14m3) (c := k14c3) (by decide +kernel) rfl rfl rfl (by decide +kernel)
set_option maxRecDepth 65536 in
theorem w_c24 : (Jvm.Cond.code ({ cls := "java/lang/AbstractStringBuilder", name := "putStringAt", desc := "(ILjava/lang/String;)V" } : Jvm.MethodName) jdk_68_method_73_code (3 : Nat) (Option.none : Option Jvm.ClassFile.FieldType)).before args0 about1 = true := code_word (m := ⟨14, 8⟩) (meth := k14m8) (c := k14c8) (by decide +kernel) rfl rfl rfl (by decide +kernel)
set_option maxRecDepth 65536 in
theorem w_c25 : (Jvm.Cond.code ({ cls := "java/lang/AbstractStringBuilder", name := "inflateIfNeededFor", desc := "(Ljava/lang/String;)V" } : Jvm.MethodName) jdk_68_method_71_code (2 : Nat) (Option.none : Option Jvm.ClassFile.FieldType)).before args0 about1 = true := code_word (m := ⟨14, 7⟩) (meth := k14m7) (c := k14c7) (by decide +kernel) rfl rfl rfl (by decide +kernel)
set_option maxRecDepth 65536 in
theorem w_c26 : (Jvm.Cond.code ({ cls := "java/lang/String", name := "getBytes", desc := "([BIB)V" } : Jvm.MethodName) jdk_42_method_147_code (4 : Nat) (Option.none : Option Jvm.ClassFile.FieldType)).before args0 about1 = true := code_word (m := ⟨7, 6⟩) (meth := k7m6) (c := k7c6) (by decide +kernel) rfl rfl rfl (by decide +kernel)
set_option maxRecDepth 65536 in
theorem w_c27 : (Jvm.Cond.code ({ cls := "java/lang/StringBuilder", name := "toString", desc := "()Ljava/lang/String;" } : Jvm.MethodName) jdk_67_method_42_code (1 : Nat) (Option.some (Jvm.ClassFile.FieldType.object "java/lang/String"))).before args0 about1 = true := code_word (m := ⟨15, 2⟩) (meth := k15m2) (c := k15c2) (by decide +kernel) rfl rfl rfl (by decide +kernel)
set_option maxRecDepth 65536 in
theorem w_c28 : (Jvm.Cond.code ({ cls := "java/lang/String", name := "<init>", desc := "(Ljava/lang/StringBuilder;)V" } : Jvm.MethodName) jdk_42_method_53_code (2 : Nat) (Option.none : Option Jvm.ClassFile.FieldType)).before args0 about1 = true := code_word (m := ⟨7, 2⟩) (meth := k7m2) (c := k7c2) (by decide +kernel) rfl rfl rfl (by decide +kernel)
set_option maxRecDepth 65536 in
theorem w_c29 : (Jvm.Cond.code ({ cls := "java/lang/String", name := "<init>", desc := "(Ljava/lang/AbstractStringBuilder;Ljava/lang/Void;)V" } : Jvm.MethodName) jdk_42_method_150_code (5 : Nat) (Option.none : Option Jvm.ClassFile.FieldType)).before args0 about1 = true := code_word (m := ⟨7, 8⟩) (meth := k7m8) (c := k7c8) (by decide +kernel) rfl rfl rfl (by decide +kernel)
set_option maxRecDepth 65536 in
theorem w_c30 : (Jvm.Cond.code ({ cls := "java/lang/AbstractStringBuilder", name := "getValue", desc := "()[B" } : Jvm.MethodName) jdk_68_method_64_code (1 : Nat) (Option.some (Jvm.ClassFile.FieldType.array Jvm.ClassFile.FieldType.byte))).before args0 about1 = true := code_word (m := ⟨14, 5⟩) (meth := k14m5) (c := k14c5) (by decide +kernel) rfl rfl rfl (by decide +kernel)
set_option maxRecDepth 65536 in
theorem w_c31 : (Jvm.Cond.code ({ cls := "java/lang/StringBuilder", name := "length", desc := "()I" } : Jvm.MethodName) jdk_67_method_93_code (1 : Nat) (Option.some Jvm.ClassFile.FieldType.int)).before args0 about1 = true := code_word (m := ⟨15, 3⟩) (meth := k15m3) (c := k15c3) (by decide +kernel) rfl rfl rfl (by decide +kernel)
set_option maxRecDepth 65536 in
theorem w_c32 : (Jvm.Cond.code ({ cls := "java/lang/AbstractStringBuilder", name := "length", desc := "()I" } : Jvm.MethodName) jdk_68_method_6_code (1 : Nat) (Option.some Jvm.ClassFile.FieldType.int)).before args0 about1 = true := code_word (m := ⟨14, 2⟩) (meth := k14m2) (c := k14c2) (by decide +kernel) rfl rfl rfl (by decide +kernel)
set_option maxRecDepth 65536 in
theorem w_c33 : (Jvm.Cond.code ({ cls := "java/lang/AbstractStringBuilder", name := "isLatin1", desc := "()Z" } : Jvm.MethodName) jdk_68_method_68_code (1 : Nat) (Option.some Jvm.ClassFile.FieldType.boolean)).before args0 about1 = true := code_word (m := ⟨14, 6⟩) (meth := k14m6) (c := k14c6) (by decide +kernel) rfl rfl rfl (by decide +kernel)
set_option maxRecDepth 65536 in
theorem w_c34 : (Jvm.Cond.code ({ cls := "java/util/Arrays", name := "copyOfRange", desc := "([BII)[B" } : Jvm.MethodName) jdk_65_method_132_code (3 : Nat) (Option.some (Jvm.ClassFile.FieldType.array Jvm.ClassFile.FieldType.byte))).before args0 about1 = true := code_word (m := ⟨17, 2⟩) (meth := k17m2) (c := k17c2) (by decide +kernel) rfl rfl rfl (by decide +kernel)
set_option maxRecDepth 65536 in
theorem w_c35 : (Jvm.Cond.code ({ cls := "java/util/Arrays", name := "copyOfRangeByte", desc := "([BII)[B" } : Jvm.MethodName) jdk_65_method_133_code (5 : Nat) (Option.some (Jvm.ClassFile.FieldType.array Jvm.ClassFile.FieldType.byte))).before args0 about1 = true := code_word (m := ⟨17, 3⟩) (meth := k17m3) (c := k17c3) (by decide +kernel) rfl rfl rfl (by decide +kernel)
set_option maxRecDepth 65536 in
theorem w_c36 : (Jvm.Cond.code ({ cls := "java/util/Arrays", name := "checkLength", desc := "(II)V" } : Jvm.MethodName) jdk_65_method_131_code (2 : Nat) (Option.none : Option Jvm.ClassFile.FieldType)).before args0 about1 = true := code_word (m := ⟨17, 1⟩) (meth := k17m1) (c := k17c1) (by decide +kernel) rfl rfl rfl (by decide +kernel)
set_option maxRecDepth 65536 in
theorem w_c37 : (Jvm.Cond.code ({ cls := "java/lang/Math", name := "min", desc := "(II)I" } : Jvm.MethodName) jdk_29_method_69_code (2 : Nat) (Option.some Jvm.ClassFile.FieldType.int)).before args0 about1 = true := code_word (m := ⟨18, 1⟩) (meth := k18m1) (c := k18c1) (by decide +kernel) rfl rfl rfl (by decide +kernel)
set_option maxRecDepth 65536 in
theorem w_c38 : (Jvm.Cond.code ({ cls := "java/lang/StringLatin1", name := "equals", desc := "([B[B)Z" } : Jvm.MethodName) jdk_43_method_13_code (3 : Nat) (Option.some Jvm.ClassFile.FieldType.boolean)).before args0 about1 = true := code_word (m := ⟨9, 2⟩) (meth := k9m2) (c := k9c2) (by decide +kernel) rfl rfl rfl (by decide +kernel)
def codes1 : List Jvm.Cond := [Jvm.Cond.code x code maxLocals ret, Jvm.Cond.code ({ cls := "java/lang/String", name := "<init>", desc := "([C)V" } : Jvm.MethodName) jdk_42_method_3_code (2 : Nat) (Option.none : Option Jvm.ClassFile.FieldType), Jvm.Cond.code ({ cls := "java/lang/String", name := "<init>", desc := "([CIILjava/lang/Void;)V" } : Jvm.MethodName) jdk_42_method_149_code (6 : Nat) (Option.none : Option Jvm.ClassFile.FieldType), Jvm.Cond.code ({ cls := "java/lang/Object", name := "<init>", desc := "()V" } : Jvm.MethodName) object_method_1_code (1 : Nat) (Option.none : Option Jvm.ClassFile.FieldType), Jvm.Cond.code ({ cls := "java/lang/StringUTF16", name := "compress", desc := "([CII)[B" } : Jvm.MethodName) jdk_52_method_16_code (6 : Nat) (Option.some (Jvm.ClassFile.FieldType.array Jvm.ClassFile.FieldType.byte)), Jvm.Cond.code ({ cls := "java/lang/StringUTF16", name := "compress", desc := "([CI[BII)I" } : Jvm.MethodName) jdk_52_method_21_code (7 : Nat) (Option.some Jvm.ClassFile.FieldType.int), Jvm.Cond.code ({ cls := "java/lang/StringUTF16", name := "coderFromArrayLen", desc := "([BI)B" } : Jvm.MethodName) jdk_52_method_15_code (2 : Nat) (Option.some Jvm.ClassFile.FieldType.byte), Jvm.Cond.code ({ cls := "java/lang/String", name := "valueOf", desc := "(C)Ljava/lang/String;" } : Jvm.MethodName) jdk_42_method_139_code (1 : Nat) (Option.some (Jvm.ClassFile.FieldType.object "java/lang/String")), Jvm.Cond.code ({ cls := "java/lang/StringLatin1", name := "canEncode", desc := "(C)Z" } : Jvm.MethodName) jdk_43_method_3_code (1 : Nat) (Option.some Jvm.ClassFile.FieldType.boolean), Jvm.Cond.code ({ cls := "java/lang/StringLatin1", name := "toBytes", desc := "(C)[B" } : Jvm.MethodName) jdk_43_method_46_code (1 : Nat) (Option.some (Jvm.ClassFile.FieldType.array Jvm.ClassFile.FieldType.byte)), Jvm.Cond.code ({ cls := "java/lang/String", name := "<init>", desc := "([BB)V" } : Jvm.MethodName) jdk_42_method_151_code (3 : Nat) (Option.none : Option Jvm.ClassFile.FieldType), Jvm.Cond.code ({ cls := "com/example/momus/momus/cli/Option", name := "<init>", desc := "(Ljava/lang/String;Ljava/lang/String;Ljava/lang/String;Ljava/lang/String;)V" } : Jvm.MethodName) prog_13_method_1_code (5 : Nat) (Option.none : Option Jvm.ClassFile.FieldType), Jvm.Cond.code ({ cls := "java/lang/Record", name := "<init>", desc := "()V" } : Jvm.MethodName) jdk_30_method_1_code (1 : Nat) (Option.none : Option Jvm.ClassFile.FieldType), Jvm.Cond.code ({ cls := "com/example/momus/momus/cli/Option", name := "takesValue", desc := "()Z" } : Jvm.MethodName) prog_13_method_3_code (1 : Nat) (Option.some Jvm.ClassFile.FieldType.boolean), Jvm.Cond.code ({ cls := "com/example/momus/momus/cli/Option", name := "term", desc := "()Ljava/lang/String;" } : Jvm.MethodName) prog_13_method_4_code (1 : Nat) (Option.some (Jvm.ClassFile.FieldType.object "java/lang/String")), Jvm.Cond.code ({ cls := "java/lang/String", name := "equals", desc := "(Ljava/lang/Object;)Z" } : Jvm.MethodName) jdk_42_method_66_code (3 : Nat) (Option.some Jvm.ClassFile.FieldType.boolean), Jvm.Cond.code ({ cls := "com/example/momus/momus/cli/Option", name := "flag", desc := "(Ljava/lang/String;Ljava/lang/String;Ljava/lang/String;)Lcom/example/momus/momus/cli/Option;" } : Jvm.MethodName) prog_13_method_2_code (3 : Nat) (Option.some (Jvm.ClassFile.FieldType.object "com/example/momus/momus/cli/Option")), Jvm.Cond.code ({ cls := "java/lang/StringBuilder", name := "<init>", desc := "()V" } : Jvm.MethodName) jdk_67_method_1_code (1 : Nat) (Option.none : Option Jvm.ClassFile.FieldType), Jvm.Cond.code ({ cls := "java/lang/AbstractStringBuilder", name := "<init>", desc := "(I)V" } : Jvm.MethodName) jdk_68_method_2_code (2 : Nat) (Option.none : Option Jvm.ClassFile.FieldType), Jvm.Cond.code ({ cls := "java/lang/StringBuilder", name := "append", desc := "(Ljava/lang/String;)Ljava/lang/StringBuilder;" } : Jvm.MethodName) jdk_67_method_7_code (2 : Nat) (Option.some (Jvm.ClassFile.FieldType.object "java/lang/StringBuilder")), Jvm.Cond.code ({ cls := "java/lang/AbstractStringBuilder", name := "append", desc := "(Ljava/lang/String;)Ljava/lang/AbstractStringBuilder;" } : Jvm.MethodName) jdk_68_method_22_code (3 : Nat) (Option.some (Jvm.ClassFile.FieldType.object "java/lang/AbstractStringBuilder")), Jvm.Cond.code ({ cls := "java/lang/String", name := "length", desc := "()I" } : Jvm.MethodName) jdk_42_method_54_code (1 : Nat) (Option.some Jvm.ClassFile.FieldType.int), Jvm.Cond.code ({ cls := "java/lang/String", name := "coder", desc := "()B" } : Jvm.MethodName) jdk_42_method_152_code (1 : Nat) (Option.some Jvm.ClassFile.FieldType.byte), Jvm.Cond.code ({ cls := "java/lang/AbstractStringBuilder", name := "ensureCapacityInternal", desc := "(I)V" } : Jvm.MethodName) jdk_68_method_9_code (3 : Nat) (Option.none : Option Jvm.ClassFile.FieldType), Jvm.Cond.code ({ cls := "java/lang/AbstractStringBuilder", name := "putStringAt", desc := "(ILjava/lang/String;)V" } : Jvm.MethodName) jdk_68_method_73_code (3 : Nat) (Option.none : Option Jvm.ClassFile.FieldType), Jvm.Cond.code ({ cls := "java/lang/AbstractStringBuilder", name := "inflateIfNeededFor", desc := "(Ljava/lang/String;)V" } : Jvm.MethodName) jdk_68_method_71_code (2 : Nat) (Option.none : Option Jvm.ClassFile.FieldType), Jvm.Cond.code ({ cls := "java/lang/String", name := "getBytes", desc := "([BIB)V" } : Jvm.MethodName) jdk_42_method_147_code (4 : Nat) (Option.none : Option Jvm.ClassFile.FieldType), Jvm.Cond.code ({ cls := "java/lang/StringBuilder", name := "toString", desc := "()Ljava/lang/String;" } : Jvm.MethodName) jdk_67_method_42_code (1 : Nat) (Option.some (Jvm.ClassFile.FieldType.object "java/lang/String")), Jvm.Cond.code ({ cls := "java/lang/String", name := "<init>", desc := "(Ljava/lang/StringBuilder;)V" } : Jvm.MethodName) jdk_42_method_53_code (2 : Nat) (Option.none : Option Jvm.ClassFile.FieldType), Jvm.Cond.code ({ cls := "java/lang/String", name := "<init>", desc := "(Ljava/lang/AbstractStringBuilder;Ljava/lang/Void;)V" } : Jvm.MethodName) jdk_42_method_150_code (5 : Nat) (Option.none : Option Jvm.ClassFile.FieldType), Jvm.Cond.code ({ cls := "java/lang/AbstractStringBuilder", name := "getValue", desc := "()[B" } : Jvm.MethodName) jdk_68_method_64_code (1 : Nat) (Option.some (Jvm.ClassFile.FieldType.array Jvm.ClassFile.FieldType.byte)), Jvm.Cond.code ({ cls := "java/lang/StringBuilder", name := "length", desc := "()I" } : Jvm.MethodName) jdk_67_method_93_code (1 : Nat) (Option.some Jvm.ClassFile.FieldType.int), Jvm.Cond.code ({ cls := "java/lang/AbstractStringBuilder", name := "length", desc := "()I" } : Jvm.MethodName) jdk_68_method_6_code (1 : Nat) (Option.some Jvm.ClassFile.FieldType.int), Jvm.Cond.code ({ cls := "java/lang/AbstractStringBuilder", name := "isLatin1", desc := "()Z" } : Jvm.MethodName) jdk_68_method_68_code (1 : Nat) (Option.some Jvm.ClassFile.FieldType.boolean), Jvm.Cond.code ({ cls := "java/util/Arrays", name := "copyOfRange", desc := "([BII)[B" } : Jvm.MethodName) jdk_65_method_132_code (3 : Nat) (Option.some (Jvm.ClassFile.FieldType.array Jvm.ClassFile.FieldType.byte)), Jvm.Cond.code ({ cls := "java/util/Arrays", name := "copyOfRangeByte", desc := "([BII)[B" } : Jvm.MethodName) jdk_65_method_133_code (5 : Nat) (Option.some (Jvm.ClassFile.FieldType.array Jvm.ClassFile.FieldType.byte)), Jvm.Cond.code ({ cls := "java/util/Arrays", name := "checkLength", desc := "(II)V" } : Jvm.MethodName) jdk_65_method_131_code (2 : Nat) (Option.none : Option Jvm.ClassFile.FieldType), Jvm.Cond.code ({ cls := "java/lang/Math", name := "min", desc := "(II)I" } : Jvm.MethodName) jdk_29_method_69_code (2 : Nat) (Option.some Jvm.ClassFile.FieldType.int), Jvm.Cond.code ({ cls := "java/lang/StringLatin1", name := "equals", desc := "([B[B)Z" } : Jvm.MethodName) jdk_43_method_13_code (3 : Nat) (Option.some Jvm.ClassFile.FieldType.boolean)]
set_option maxRecDepth 65536 in
theorem codes_eq : words1.filter isCode = codes1 := rfl
theorem w_codes : ∀ c ∈ words1.filter isCode, c.before args0 about1 = true := by
  rw [codes_eq]
  intro c hc
  simp only [codes1, List.mem_cons, List.not_mem_nil, or_false] at hc
  rcases hc with rfl | rfl | rfl | rfl | rfl | rfl | rfl | rfl | rfl | rfl | rfl | rfl | rfl | rfl | rfl | rfl | rfl | rfl | rfl | rfl | rfl | rfl | rfl | rfl | rfl | rfl | rfl | rfl | rfl | rfl | rfl | rfl | rfl | rfl | rfl | rfl | rfl | rfl | rfl
  · exact w_c0
  · exact w_c1
  · exact w_c2
  · exact w_c3
  · exact w_c4
  · exact w_c5
  · exact w_c6
  · exact w_c7
  · exact w_c8
  · exact w_c9
  · exact w_c10
  · exact w_c11
  · exact w_c12
  · exact w_c13
  · exact w_c14
  · exact w_c15
  · exact w_c16
  · exact w_c17
  · exact w_c18
  · exact w_c19
  · exact w_c20
  · exact w_c21
  · exact w_c22
  · exact w_c23
  · exact w_c24
  · exact w_c25
  · exact w_c26
  · exact w_c27
  · exact w_c28
  · exact w_c29
  · exact w_c30
  · exact w_c31
  · exact w_c32
  · exact w_c33
  · exact w_c34
  · exact w_c35
  · exact w_c36
  · exact w_c37
  · exact w_c38
set_option maxRecDepth 65536 in
theorem w_t1 : (words1.take 24).all (fun c => isCode c || c.before args0 about1) = true := by decide +kernel
set_option maxRecDepth 65536 in
theorem w_t2 : ((words1.drop 24).take 24).all (fun c => isCode c || c.before args0 about1) = true := by decide +kernel
set_option maxRecDepth 65536 in
theorem w_t3 : (((words1.drop 24).drop 24).take 24).all (fun c => isCode c || c.before args0 about1) = true := by decide +kernel
set_option maxRecDepth 65536 in
theorem w_t4 : ((((words1.drop 24).drop 24).drop 24).take 24).all (fun c => isCode c || c.before args0 about1) = true := by decide +kernel
set_option maxRecDepth 65536 in
theorem w_t5 : (((((words1.drop 24).drop 24).drop 24).drop 24).take 24).all (fun c => isCode c || c.before args0 about1) = true := by decide +kernel
set_option maxRecDepth 65536 in
theorem w_t6 : ((((((words1.drop 24).drop 24).drop 24).drop 24).drop 24).take 24).all (fun c => isCode c || c.before args0 about1) = true := by decide +kernel
set_option maxRecDepth 65536 in
theorem w_t7 : (((((((words1.drop 24).drop 24).drop 24).drop 24).drop 24).drop 24).take 24).all (fun c => isCode c || c.before args0 about1) = true := by decide +kernel
set_option maxRecDepth 65536 in
theorem w_t8 : ((((((((words1.drop 24).drop 24).drop 24).drop 24).drop 24).drop 24).drop 24).take 24).all (fun c => isCode c || c.before args0 about1) = true := by decide +kernel
set_option maxRecDepth 65536 in
theorem w_t9 : ((((((((words1.drop 24).drop 24).drop 24).drop 24).drop 24).drop 24).drop 24).drop 24).all (fun c => isCode c || c.before args0 about1) = true := by decide +kernel
theorem w_tables : (allAtoms (Jvm.Cond.code x code maxLocals ret :: tables_1)).before args0 about1 = true := by
  rw [allAtoms_all]
  show words1.all (fun c => c.before args0 about1) = true
  refine all_split ?_ w_codes
  rw [← List.take_append_drop 24 words1, List.all_append, w_t1, ← List.take_append_drop 24 (words1.drop 24), List.all_append, w_t2, ← List.take_append_drop 24 ((words1.drop 24).drop 24), List.all_append, w_t3, ← List.take_append_drop 24 (((words1.drop 24).drop 24).drop 24), List.all_append, w_t4, ← List.take_append_drop 24 ((((words1.drop 24).drop 24).drop 24).drop 24), List.all_append, w_t5, ← List.take_append_drop 24 (((((words1.drop 24).drop 24).drop 24).drop 24).drop 24), List.all_append, w_t6, ← List.take_append_drop 24 ((((((words1.drop 24).drop 24).drop 24).drop 24).drop 24).drop 24), List.all_append, w_t7, ← List.take_append_drop 24 (((((((words1.drop 24).drop 24).drop 24).drop 24).drop 24).drop 24).drop 24), List.all_append, w_t8, w_t9]
  rfl
set_option maxRecDepth 65536 in
theorem w_rest : rest_1_c.before args0 about1 = true := by decide +kernel
set_option maxRecDepth 65536 in
theorem w_case : (Jvm.Cond.and given_1 narrow_1).before args0 about1 = true := by decide +kernel
set_option maxRecDepth 65536 in
theorem w_consts : constsHeld consts_1 about1 := Jvm.Lit.constsHeldB_iff.mp (by decide +kernel)
theorem w_applies : (headSpec (Jvm.Cond.code x code maxLocals ret :: tables_1) room_1).applies x e0.platform about1 = true :=
  (Spec.applies_iff w_frames).mpr ⟨w_running, w_runnable, w_alone, w_named, w_hears, w_ripe, w_room, w_tables⟩
theorem atStart : AtStart classFile x code maxLocals ret World_1 tables_1 room_1 Calls_1 rest_1 Pre_1 launch0 p0 e0 about1 theMethod args0 below0 :=
  ⟨lists_1, trivial, launch0.admits_env _ _ _, launch0.least_env, fairChoices_fair.cas, fairChoices_fair.clock, w_frames, w_args, w_heap, w_applies, ⟨w_consts, trivial⟩, w_rest, w_case⟩
end start1
theorem witness_1 : WitnessClaimed_1 := ⟨start1.p0, start1.e0, start1.about1, start1.theMethod, start1.args0, start1.below0, start1.atStart⟩
end Jvm.Pilot.@@N@@
