import JvmDerived
import JvmDerived.Pilot.@@N@@Statement
import JvmDerived.Pilot.@@N@@Code
set_option linter.unusedVariables false
set_option linter.unusedSimpArgs false
namespace Jvm.RoadKit
open Sem ClassFile Op Lib Jvm.Stand Jvm.Free Jvm.LawKit
section New
variable {p : Program} {l : Launch} {e : Env} {R : Room} {s : State} {m : MethodId} {args : Array Value} {below : List Frame} {meth : Method} {c : Code} {T : State} {locs : List Loc} {cells slots : Nat}
theorem retI (X : Stand p l e R s m args below meth c T locs cells slots) (hx : p.tables.exec = Jvm.exec) {pc : Nat} {Ls : Array Slot} {z : Int32} {rest : List Value} (hret : meth.sig.returnType = some .int) (hd : decode c.code pc = .ok (.ireturn, 1)) {fs : List Frame}
    (hl : ∀ (f : JFrame) (acts : List Action), f.method = m → f.locked = none → f.entered = [] → (doReturn e (T.setTop f) acts (some (.int z))).1 = T.setFrames fs) : Steps p.tables e below (T.setTop (mkF m pc Ls (.int z :: rest))) (T.setFrames fs) := by
  have hm' : T.vm.method? m = some meth := X.method'
  have hn : narrow .int (.int z) = .int z := rfl
  show Steps p.tables e below (T.setTop { method := m, pc := pc, locals := Ls, stack := _ :: rest, locked := none }) _
  jvm_step X.here [X.here.top, hx, hd, hm', hret, hn]
  first | (intro acts; rw [hl _ acts rfl rfl rfl]) | rw [hl _ _ rfl rfl rfl]
  exact Steps.refl _
end New
end Jvm.RoadKit
namespace Jvm.Pilot.@@N@@
open Jvm Jvm.ClassFile Sem Op Lib Jvm.Free Jvm.Stand Jvm.LawKit Jvm.RoadKit Bundle Jvm.Pilot.@@N@@.Jvm.D
theorem own_irem (x y : Int32) : x - (x / y) * y = x % y := by
  apply Int32.toInt_inj.mp
  have h1 := Int32.le_toInt (x % y)
  have h2 := Int32.toInt_lt (x % y)
  rw [Int32.toInt_sub, Int32.toInt_mul, Int32.toInt_div, Int.bmod_mul_bmod, Int.sub_bmod_bmod, Int.mul_comm (x.toInt.tdiv y.toInt), ← Int.tmod_def, ← Int32.toInt_mod]
  exact Int.bmod_eq_of_le_mul_two (by omega) (by omega)
theorem own_eqI {args : Array Value} {first s : State} {o : Option Outcome} {idx : List Nat} {t : Term} {k : Int32} (h : (Cond.eq t (.int k)).value args first o s idx = some true) : t.eval args first o idx s = some (.int k) :=
  Cond.eq_int (by simp [Cond.holds, h]) (Term.int_eval _)
def own_Gl (Z : State) (w0 w1 w2 w3 w4 w5 w6 w7 w8 w9 w10 w11 w12 w13 w14 w15 w16 w17 w18 w19 w20 w21 w22 w23 w24 w25 w26 w27 w28 w29 w30 : Addr) : Prop := Sta Z Z.heap "com/example/chalkline/chalkline/runtime/Opcode" "PUSH" "Lcom/example/chalkline/chalkline/runtime/Opcode;" (.ref w0) ∧ Sta Z Z.heap "com/example/chalkline/chalkline/runtime/Opcode" "PUSH_NULL" "Lcom/example/chalkline/chalkline/runtime/Opcode;" (.ref w1) ∧ Sta Z Z.heap "com/example/chalkline/chalkline/runtime/Opcode" "LOAD" "Lcom/example/chalkline/chalkline/runtime/Opcode;" (.ref w2) ∧ Sta Z Z.heap "com/example/chalkline/chalkline/runtime/Opcode" "STORE" "Lcom/example/chalkline/chalkline/runtime/Opcode;" (.ref w3) ∧ Sta Z Z.heap "com/example/chalkline/chalkline/runtime/Opcode" "LOAD_LOCAL" "Lcom/example/chalkline/chalkline/runtime/Opcode;" (.ref w4) ∧ Sta Z Z.heap "com/example/chalkline/chalkline/runtime/Opcode" "STORE_LOCAL" "Lcom/example/chalkline/chalkline/runtime/Opcode;" (.ref w5) ∧ Sta Z Z.heap "com/example/chalkline/chalkline/runtime/Opcode" "POP" "Lcom/example/chalkline/chalkline/runtime/Opcode;" (.ref w6) ∧ Sta Z Z.heap "com/example/chalkline/chalkline/runtime/Opcode" "ADD" "Lcom/example/chalkline/chalkline/runtime/Opcode;" (.ref w7) ∧ Sta Z Z.heap "com/example/chalkline/chalkline/runtime/Opcode" "SUBTRACT" "Lcom/example/chalkline/chalkline/runtime/Opcode;" (.ref w8) ∧ Sta Z Z.heap "com/example/chalkline/chalkline/runtime/Opcode" "MULTIPLY" "Lcom/example/chalkline/chalkline/runtime/Opcode;" (.ref w9) ∧ Sta Z Z.heap "com/example/chalkline/chalkline/runtime/Opcode" "DIVIDE" "Lcom/example/chalkline/chalkline/runtime/Opcode;" (.ref w10) ∧ Sta Z Z.heap "com/example/chalkline/chalkline/runtime/Opcode" "REMAINDER" "Lcom/example/chalkline/chalkline/runtime/Opcode;" (.ref w11) ∧ Sta Z Z.heap "com/example/chalkline/chalkline/runtime/Opcode" "NEGATE" "Lcom/example/chalkline/chalkline/runtime/Opcode;" (.ref w12) ∧ Sta Z Z.heap "com/example/chalkline/chalkline/runtime/Opcode" "LESS" "Lcom/example/chalkline/chalkline/runtime/Opcode;" (.ref w13) ∧ Sta Z Z.heap "com/example/chalkline/chalkline/runtime/Opcode" "LESS_EQUAL" "Lcom/example/chalkline/chalkline/runtime/Opcode;" (.ref w14) ∧ Sta Z Z.heap "com/example/chalkline/chalkline/runtime/Opcode" "GREATER" "Lcom/example/chalkline/chalkline/runtime/Opcode;" (.ref w15) ∧ Sta Z Z.heap "com/example/chalkline/chalkline/runtime/Opcode" "GREATER_EQUAL" "Lcom/example/chalkline/chalkline/runtime/Opcode;" (.ref w16) ∧ Sta Z Z.heap "com/example/chalkline/chalkline/runtime/Opcode" "EQUAL" "Lcom/example/chalkline/chalkline/runtime/Opcode;" (.ref w17) ∧ Sta Z Z.heap "com/example/chalkline/chalkline/runtime/Opcode" "NOT_EQUAL" "Lcom/example/chalkline/chalkline/runtime/Opcode;" (.ref w18) ∧ Sta Z Z.heap "com/example/chalkline/chalkline/runtime/Opcode" "NOT" "Lcom/example/chalkline/chalkline/runtime/Opcode;" (.ref w19) ∧ Sta Z Z.heap "com/example/chalkline/chalkline/runtime/Opcode" "ARRAY" "Lcom/example/chalkline/chalkline/runtime/Opcode;" (.ref w20) ∧ Sta Z Z.heap "com/example/chalkline/chalkline/runtime/Opcode" "GET_ELEMENT" "Lcom/example/chalkline/chalkline/runtime/Opcode;" (.ref w21) ∧ Sta Z Z.heap "com/example/chalkline/chalkline/runtime/Opcode" "SET_ELEMENT" "Lcom/example/chalkline/chalkline/runtime/Opcode;" (.ref w22) ∧ Sta Z Z.heap "com/example/chalkline/chalkline/runtime/Opcode" "JUMP" "Lcom/example/chalkline/chalkline/runtime/Opcode;" (.ref w23) ∧ Sta Z Z.heap "com/example/chalkline/chalkline/runtime/Opcode" "JUMP_IF_FALSE" "Lcom/example/chalkline/chalkline/runtime/Opcode;" (.ref w24) ∧ Sta Z Z.heap "com/example/chalkline/chalkline/runtime/Opcode" "JUMP_IF_TRUE" "Lcom/example/chalkline/chalkline/runtime/Opcode;" (.ref w25) ∧ Sta Z Z.heap "com/example/chalkline/chalkline/runtime/Opcode" "FUNCTION" "Lcom/example/chalkline/chalkline/runtime/Opcode;" (.ref w26) ∧ Sta Z Z.heap "com/example/chalkline/chalkline/runtime/Opcode" "CALL" "Lcom/example/chalkline/chalkline/runtime/Opcode;" (.ref w27) ∧ Sta Z Z.heap "com/example/chalkline/chalkline/runtime/Opcode" "RETURN" "Lcom/example/chalkline/chalkline/runtime/Opcode;" (.ref w28) ∧ Sta Z Z.heap "com/example/chalkline/chalkline/runtime/Opcode" "PRINT" "Lcom/example/chalkline/chalkline/runtime/Opcode;" (.ref w29) ∧ Sta Z Z.heap "com/example/chalkline/chalkline/runtime/Opcode" "HALT" "Lcom/example/chalkline/chalkline/runtime/Opcode;" (.ref w30) ∧ Exa Z Z.heap w0 "com/example/chalkline/chalkline/runtime/Opcode" ∧ Exa Z Z.heap w1 "com/example/chalkline/chalkline/runtime/Opcode" ∧ Exa Z Z.heap w2 "com/example/chalkline/chalkline/runtime/Opcode" ∧ Exa Z Z.heap w3 "com/example/chalkline/chalkline/runtime/Opcode" ∧ Exa Z Z.heap w4 "com/example/chalkline/chalkline/runtime/Opcode" ∧ Exa Z Z.heap w5 "com/example/chalkline/chalkline/runtime/Opcode" ∧ Exa Z Z.heap w6 "com/example/chalkline/chalkline/runtime/Opcode" ∧ Exa Z Z.heap w7 "com/example/chalkline/chalkline/runtime/Opcode" ∧ Exa Z Z.heap w8 "com/example/chalkline/chalkline/runtime/Opcode" ∧ Exa Z Z.heap w9 "com/example/chalkline/chalkline/runtime/Opcode" ∧ Exa Z Z.heap w10 "com/example/chalkline/chalkline/runtime/Opcode" ∧ Exa Z Z.heap w11 "com/example/chalkline/chalkline/runtime/Opcode" ∧ Exa Z Z.heap w12 "com/example/chalkline/chalkline/runtime/Opcode" ∧ Exa Z Z.heap w13 "com/example/chalkline/chalkline/runtime/Opcode" ∧ Exa Z Z.heap w14 "com/example/chalkline/chalkline/runtime/Opcode" ∧ Exa Z Z.heap w15 "com/example/chalkline/chalkline/runtime/Opcode" ∧ Exa Z Z.heap w16 "com/example/chalkline/chalkline/runtime/Opcode" ∧ Exa Z Z.heap w17 "com/example/chalkline/chalkline/runtime/Opcode" ∧ Exa Z Z.heap w18 "com/example/chalkline/chalkline/runtime/Opcode" ∧ Exa Z Z.heap w19 "com/example/chalkline/chalkline/runtime/Opcode" ∧ Exa Z Z.heap w20 "com/example/chalkline/chalkline/runtime/Opcode" ∧ Exa Z Z.heap w21 "com/example/chalkline/chalkline/runtime/Opcode" ∧ Exa Z Z.heap w22 "com/example/chalkline/chalkline/runtime/Opcode" ∧ Exa Z Z.heap w23 "com/example/chalkline/chalkline/runtime/Opcode" ∧ Exa Z Z.heap w24 "com/example/chalkline/chalkline/runtime/Opcode" ∧ Exa Z Z.heap w25 "com/example/chalkline/chalkline/runtime/Opcode" ∧ Exa Z Z.heap w26 "com/example/chalkline/chalkline/runtime/Opcode" ∧ Exa Z Z.heap w27 "com/example/chalkline/chalkline/runtime/Opcode" ∧ Exa Z Z.heap w28 "com/example/chalkline/chalkline/runtime/Opcode" ∧ Exa Z Z.heap w29 "com/example/chalkline/chalkline/runtime/Opcode" ∧ Exa Z Z.heap w30 "com/example/chalkline/chalkline/runtime/Opcode"
def own_Od (Z : State) (w0 w1 w2 w3 w4 w5 w6 w7 w8 w9 w10 w11 w12 w13 w14 w15 w16 w17 w18 w19 w20 w21 w22 w23 w24 w25 w26 w27 w28 w29 w30 : Addr) : Prop := Fld Z Z.heap w0 "java/lang/Enum" "ordinal" "I" (.int (0 : Int32)) ∧ Fld Z Z.heap w1 "java/lang/Enum" "ordinal" "I" (.int (1 : Int32)) ∧ Fld Z Z.heap w2 "java/lang/Enum" "ordinal" "I" (.int (2 : Int32)) ∧ Fld Z Z.heap w3 "java/lang/Enum" "ordinal" "I" (.int (3 : Int32)) ∧ Fld Z Z.heap w4 "java/lang/Enum" "ordinal" "I" (.int (4 : Int32)) ∧ Fld Z Z.heap w5 "java/lang/Enum" "ordinal" "I" (.int (5 : Int32)) ∧ Fld Z Z.heap w6 "java/lang/Enum" "ordinal" "I" (.int (6 : Int32)) ∧ Fld Z Z.heap w7 "java/lang/Enum" "ordinal" "I" (.int (7 : Int32)) ∧ Fld Z Z.heap w8 "java/lang/Enum" "ordinal" "I" (.int (8 : Int32)) ∧ Fld Z Z.heap w9 "java/lang/Enum" "ordinal" "I" (.int (9 : Int32)) ∧ Fld Z Z.heap w10 "java/lang/Enum" "ordinal" "I" (.int (10 : Int32)) ∧ Fld Z Z.heap w11 "java/lang/Enum" "ordinal" "I" (.int (11 : Int32)) ∧ Fld Z Z.heap w12 "java/lang/Enum" "ordinal" "I" (.int (12 : Int32)) ∧ Fld Z Z.heap w13 "java/lang/Enum" "ordinal" "I" (.int (13 : Int32)) ∧ Fld Z Z.heap w14 "java/lang/Enum" "ordinal" "I" (.int (14 : Int32)) ∧ Fld Z Z.heap w15 "java/lang/Enum" "ordinal" "I" (.int (15 : Int32)) ∧ Fld Z Z.heap w16 "java/lang/Enum" "ordinal" "I" (.int (16 : Int32)) ∧ Fld Z Z.heap w17 "java/lang/Enum" "ordinal" "I" (.int (17 : Int32)) ∧ Fld Z Z.heap w18 "java/lang/Enum" "ordinal" "I" (.int (18 : Int32)) ∧ Fld Z Z.heap w19 "java/lang/Enum" "ordinal" "I" (.int (19 : Int32)) ∧ Fld Z Z.heap w20 "java/lang/Enum" "ordinal" "I" (.int (20 : Int32)) ∧ Fld Z Z.heap w21 "java/lang/Enum" "ordinal" "I" (.int (21 : Int32)) ∧ Fld Z Z.heap w22 "java/lang/Enum" "ordinal" "I" (.int (22 : Int32)) ∧ Fld Z Z.heap w23 "java/lang/Enum" "ordinal" "I" (.int (23 : Int32)) ∧ Fld Z Z.heap w24 "java/lang/Enum" "ordinal" "I" (.int (24 : Int32)) ∧ Fld Z Z.heap w25 "java/lang/Enum" "ordinal" "I" (.int (25 : Int32)) ∧ Fld Z Z.heap w26 "java/lang/Enum" "ordinal" "I" (.int (26 : Int32)) ∧ Fld Z Z.heap w27 "java/lang/Enum" "ordinal" "I" (.int (27 : Int32)) ∧ Fld Z Z.heap w28 "java/lang/Enum" "ordinal" "I" (.int (28 : Int32)) ∧ Fld Z Z.heap w29 "java/lang/Enum" "ordinal" "I" (.int (29 : Int32)) ∧ Fld Z Z.heap w30 "java/lang/Enum" "ordinal" "I" (.int (30 : Int32))
theorem own_all31 : ∀ k : Fin 31, k.val.toInt32 = 0 ∨ k.val.toInt32 = 1 ∨ k.val.toInt32 = 2 ∨ k.val.toInt32 = 3 ∨ k.val.toInt32 = 4 ∨ k.val.toInt32 = 5 ∨ k.val.toInt32 = 6 ∨ k.val.toInt32 = 7 ∨ k.val.toInt32 = 8 ∨ k.val.toInt32 = 9 ∨ k.val.toInt32 = 10 ∨ k.val.toInt32 = 11 ∨ k.val.toInt32 = 12 ∨ k.val.toInt32 = 13 ∨ k.val.toInt32 = 14 ∨ k.val.toInt32 = 15 ∨ k.val.toInt32 = 16 ∨ k.val.toInt32 = 17 ∨ k.val.toInt32 = 18 ∨ k.val.toInt32 = 19 ∨ k.val.toInt32 = 20 ∨ k.val.toInt32 = 21 ∨ k.val.toInt32 = 22 ∨ k.val.toInt32 = 23 ∨ k.val.toInt32 = 24 ∨ k.val.toInt32 = 25 ∨ k.val.toInt32 = 26 ∨ k.val.toInt32 = 27 ∨ k.val.toInt32 = 28 ∨ k.val.toInt32 = 29 ∨ k.val.toInt32 = 30 := by decide +kernel
theorem own_mod31 (x z : Int32) (h : z = (x &&& 2147483647) % 31) : z = 0 ∨ z = 1 ∨ z = 2 ∨ z = 3 ∨ z = 4 ∨ z = 5 ∨ z = 6 ∨ z = 7 ∨ z = 8 ∨ z = 9 ∨ z = 10 ∨ z = 11 ∨ z = 12 ∨ z = 13 ∨ z = 14 ∨ z = 15 ∨ z = 16 ∨ z = 17 ∨ z = 18 ∨ z = 19 ∨ z = 20 ∨ z = 21 ∨ z = 22 ∨ z = 23 ∨ z = 24 ∨ z = 25 ∨ z = 26 ∨ z = 27 ∨ z = 28 ∨ z = 29 ∨ z = 30 := by
  have h1 := c_and x 2147483647 (by decide)
  have h2 := (c_irem (x &&& 2147483647) 31 31 (by decide)).1 h1.1
  rw [← h] at h2
  have h3 : z.toInt.toNat < 31 := by omega
  have h4 : z = z.toInt.toNat.toInt32 := Int32.toInt_inj.mp (by rw [len_toInt (by omega)]; omega)
  have h5 := own_all31 ⟨z.toInt.toNat, h3⟩
  rw [← h4] at h5
  exact h5
theorem own_ni {x y : Int32} (h : x ≠ y) : Value.int x ≠ Value.int y := fun q => h (Value.int.inj q)
theorem own_ef1 (m : MethodId) (x0 : Addr) : entryFrame m #[(.ref x0)] 1 = mkF m 0 #[.val (.ref x0)] [] := by first | (simp [entryFrame, mkF, argsToLocals, Value.category]; done) | rfl
theorem own_pn0 : plainName "com/example/chalkline/chalkline/runtime/Opcode" = true := by first | (simp [plainName, overriddenIn]; done) | decide +kernel
theorem own_d1_0 : decode prog_69_method_9_code 0 = .ok (.aload_n 0, 1) := by decide +kernel
theorem own_d1_1 : decode prog_69_method_9_code 1 = .ok (.getstatic 73, 3) := by decide +kernel
theorem own_d1_4 : decode prog_69_method_9_code 4 = .ok (.if_acmp .eq 21, 3) := by decide +kernel
theorem own_d1_25 : decode prog_69_method_9_code 25 = .ok (.iconst 0, 1) := by decide +kernel
theorem own_d1_26 : decode prog_69_method_9_code 26 = .ok (.ireturn, 1) := by decide +kernel
theorem own_d1_7 : decode prog_69_method_9_code 7 = .ok (.aload_n 0, 1) := by decide +kernel
theorem own_d1_8 : decode prog_69_method_9_code 8 = .ok (.getstatic 88, 3) := by decide +kernel
theorem own_d1_11 : decode prog_69_method_9_code 11 = .ok (.if_acmp .eq 14, 3) := by decide +kernel
theorem own_d1_14 : decode prog_69_method_9_code 14 = .ok (.aload_n 0, 1) := by decide +kernel
theorem own_d1_15 : decode prog_69_method_9_code 15 = .ok (.getstatic 94, 3) := by decide +kernel
theorem own_d1_18 : decode prog_69_method_9_code 18 = .ok (.if_acmp .eq 7, 3) := by decide +kernel
theorem own_d1_21 : decode prog_69_method_9_code 21 = .ok (.iconst 1, 1) := by decide +kernel
theorem own_d1_22 : decode prog_69_method_9_code 22 = .ok (.goto 4, 3) := by decide +kernel
def own_Q_rmM (Z : State) (a1 : Addr) (r : Int32) (w0 w1 w2 w3 w4 w5 w6 w7 w8 w9 w10 w11 w12 w13 w14 w15 w16 w17 w18 w19 w20 w21 w22 w23 w24 w25 w26 w27 w28 w29 w30 : Addr) (h0 : Heap) (n0 : Nat) (v : Option Value) (h : Heap) (L : List Loc) : Prop := v = some (.int r) ∧ Fr n0 L ∧ h = h0
set_option maxRecDepth 65536 in
set_option maxHeartbeats 40000000 in
theorem rmM (l : Launch) (Z : State) (a0 : Array Value) (hw : ∀ d ∈ tables_1, d.before a0 Z = true) (ws : List Jvm.Cond) (a1 : Addr) (r : Int32) (w0 w1 w2 w3 w4 w5 w6 w7 w8 w9 w10 w11 w12 w13 w14 w15 w16 w17 w18 w19 w20 w21 w22 w23 w24 w25 w26 w27 w28 w29 w30 : Addr) (h0 : Heap) (n0 : Nat) (O0 : Old Z n0 h0) (G : own_Gl Z w0 w1 w2 w3 w4 w5 w6 w7 w8 w9 w10 w11 w12 w13 w14 w15 w16 w17 w18 w19 w20 w21 w22 w23 w24 w25 w26 w27 w28 w29 w30) (hr : (if a1 = w23 then (0 : Int32) else if a1 = w28 then (0 : Int32) else if a1 = w30 then (0 : Int32) else (1 : Int32)) = r) :
    MetFree l (⟨"com/example/chalkline/chalkline/runtime/Opcode", "fallsThrough", "()Z"⟩ : MethodName) (head1 (Jvm.Cond.code (⟨"com/example/chalkline/chalkline/runtime/Opcode", "fallsThrough", "()Z"⟩ : MethodName) prog_69_method_9_code 1 (some .boolean) :: ws) ({ frames := 0, cells := 0, slots := 0, locals := 0 } : Room)) (fun a U => a = #[(.ref a1)] ∧ Z.Warmed39 U.vm ∧ U.heap = h0) (fun _ _ _ _ _ => True) (fun _ U o U' => ∃ v L, o = .returned v ∧ own_Q_rmM Z a1 r w0 w1 w2 w3 w4 w5 w6 w7 w8 w9 w10 w11 w12 w13 w14 w15 w16 w17 w18 w19 w20 w21 w22 w23 w24 w25 w26 w27 w28 w29 w30 h0 n0 v U'.heap L ∧ FrameEnd U o U' L ({ frames := 0, cells := 0, slots := 0, locals := 0 } : Room).cells ({ frames := 0, cells := 0, slots := 0, locals := 0 } : Room).slots) := by
  refine MetFree.of_bodySF (plainFor_of_name own_pn0) hisR ?_
  intro p e s m args below meth c s₁ Bd hml0 hP hK
  obtain ⟨rfl, hZ, hh⟩ := hP
  have hx := Bd.exec
  have hby := Bd.bytes
  have hml : c.maxLocals = 1 := hml0
  have hown : s.vm.findClass "com/example/chalkline/chalkline/runtime/Opcode" = some m.cls := findClass_of_methodNamed Bd.named
  have hnm := (name_of_methodNamed Bd.named Bd.method).1
  have X0 : Stand p l e ({ frames := 0, cells := 0, slots := 0, locals := 0 } : Room) s m #[(.ref a1)] below meth c s₁ [] 0 0 := Stand.of_body Bd
  have e0 : s₁.heap = h0 := by rw [← hh, Bd.state]; rfl
  have N0 := Fr.nil n0
  have Z0 : n0 ≤ h0.size := O0.1 ▸ O0.2.1
  have g0 : ∀ t, Steps p.tables e below (s₁.setTop (mkF m 0 #[.val (.ref a1)] [])) t → Steps p.tables e below (s₁.setTop (entryFrame m #[(.ref a1)] 1)) t := fun t k => castTop (own_ef1 m (a1)) k
  have G0 := G
  obtain ⟨S_PUSH, S_PUSH_NULL, S_LOAD, S_STORE, S_LOAD_LOCAL, S_STORE_LOCAL, S_POP, S_ADD, S_SUBTRACT, S_MULTIPLY, S_DIVIDE, S_REMAINDER, S_NEGATE, S_LESS, S_LESS_EQUAL, S_GREATER, S_GREATER_EQUAL, S_EQUAL, S_NOT_EQUAL, S_NOT, S_ARRAY, S_GET_ELEMENT, S_SET_ELEMENT, S_JUMP, S_JUMP_IF_FALSE, S_JUMP_IF_TRUE, S_FUNCTION, S_CALL, S_RETURN, S_PRINT, S_HALT, Ex_PUSH, Ex_PUSH_NULL, Ex_LOAD, Ex_STORE, Ex_LOAD_LOCAL, Ex_STORE_LOCAL, Ex_POP, Ex_ADD, Ex_SUBTRACT, Ex_MULTIPLY, Ex_DIVIDE, Ex_REMAINDER, Ex_NEGATE, Ex_LESS, Ex_LESS_EQUAL, Ex_GREATER, Ex_GREATER_EQUAL, Ex_EQUAL, Ex_NOT_EQUAL, Ex_NOT, Ex_ARRAY, Ex_GET_ELEMENT, Ex_SET_ELEMENT, Ex_JUMP, Ex_JUMP_IF_FALSE, Ex_JUMP_IF_TRUE, Ex_FUNCTION, Ex_CALL, Ex_RETURN, Ex_PRINT, Ex_HALT⟩ := G
  obtain ⟨T1, X1, e1, st1⟩ := getS2 X0 hx hZ hown (host := "") (Or.inl (hw _ (List.mem_of_getElem? (i := 72) rfl))) Via.refl e0 (S_JUMP.ext O0.2) (g := (mkF m 1 #[.val (.ref a1)] [(.ref a1)])) rfl (hb hby own_d1_1)
  have g3 : ∀ t, Steps p.tables e below (T1.setTop (mkF m 4 #[.val (.ref a1)] [(.ref w23), (.ref a1)])) t → Steps p.tables e below (s₁.setTop (entryFrame m #[(.ref a1)] 1)) t := by
    intro t k
    refine g0 t ?_
    show Steps p.tables e below (s₁.setTop (mkF m 0 #[.val (.ref a1)] [])) _
    refine XS.aloadN X0.here hx rfl (hb hby own_d1_0) rfl rfl ?_
    show Steps p.tables e below (s₁.setTop (mkF m 1 #[.val (.ref a1)] [(.ref a1)])) _
    refine st1 _ ?_
    exact k
  by_cases hc2 : a1 = w23
  · have g4 : ∀ t, Steps p.tables e below (T1.setTop (mkF m 26 #[.val (.ref a1)] [(.int (0 : Int32))])) t → Steps p.tables e below (s₁.setTop (entryFrame m #[(.ref a1)] 1)) t := by
      intro t k
      refine g3 t ?_
      show Steps p.tables e below (T1.setTop (mkF m 4 #[.val (.ref a1)] [(.ref w23), (.ref a1)])) _
      refine Jvm.RoadKit.acmp (g := (mkF m 4 #[.val (.ref a1)] [(.ref w23), (.ref a1)])) X1 hx rfl rfl rfl (pc0 := 4) (pc' := 25) (same := true) rfl (hb hby own_d1_4) rfl (decide_eq_true (congrArg Value.ref hc2)) (by decide) (by decide) ?_
      show Steps p.tables e below (T1.setTop (mkF m 25 #[.val (.ref a1)] [])) _
      refine XS.iconst X1.here hx rfl (hb hby own_d1_25) ?_
      exact k
    obtain ⟨fs, hrt, hrun, hended, hW, hsame⟩ := X1.leave (v := some (.int (0 : Int32))) (fun h => by rw [Bd.returns] at h; cases h)
    refine ⟨_, _, g4 _ ?_, hrun, hended, _, _, rfl, ?_, ⟨_, rfl⟩, hW, hsame.mono (by decide) (by decide)⟩
    · show Steps p.tables e below (T1.setTop (mkF m 26 #[.val (.ref a1)] [(.int (0 : Int32))])) _
      exact retN X1 hx (t := .boolean) Bd.returns (by simp) (hb hby own_d1_26) hrt
    · show own_Q_rmM Z a1 r w0 w1 w2 w3 w4 w5 w6 w7 w8 w9 w10 w11 w12 w13 w14 w15 w16 w17 w18 w19 w20 w21 w22 w23 w24 w25 w26 w27 w28 w29 w30 h0 n0 _ T1.heap _
      rw [e1]
      exact ⟨by rw [← hr, if_pos hc2], N0, rfl⟩
  · obtain ⟨T5, X5, e5, st5⟩ := getS2 X1 hx hZ hown (host := "") (Or.inl (hw _ (List.mem_of_getElem? (i := 73) rfl))) Via.refl e1 (S_RETURN.ext O0.2) (g := (mkF m 8 #[.val (.ref a1)] [(.ref a1)])) rfl (hb hby own_d1_8)
    have g7 : ∀ t, Steps p.tables e below (T5.setTop (mkF m 11 #[.val (.ref a1)] [(.ref w28), (.ref a1)])) t → Steps p.tables e below (s₁.setTop (entryFrame m #[(.ref a1)] 1)) t := by
      intro t k
      refine g3 t ?_
      show Steps p.tables e below (T1.setTop (mkF m 4 #[.val (.ref a1)] [(.ref w23), (.ref a1)])) _
      refine Jvm.RoadKit.acmp (g := (mkF m 4 #[.val (.ref a1)] [(.ref w23), (.ref a1)])) X1 hx rfl rfl rfl (pc0 := 4) (pc' := 7) (same := false) rfl (hb hby own_d1_4) rfl (decide_eq_false fun q => hc2 (Value.ref.inj q)) (by decide) (by decide) ?_
      show Steps p.tables e below (T1.setTop (mkF m 7 #[.val (.ref a1)] [])) _
      refine XS.aloadN X1.here hx rfl (hb hby own_d1_7) rfl rfl ?_
      show Steps p.tables e below (T1.setTop (mkF m 8 #[.val (.ref a1)] [(.ref a1)])) _
      refine st5 _ ?_
      exact k
    by_cases hc6 : a1 = w28
    · have g8 : ∀ t, Steps p.tables e below (T5.setTop (mkF m 26 #[.val (.ref a1)] [(.int (0 : Int32))])) t → Steps p.tables e below (s₁.setTop (entryFrame m #[(.ref a1)] 1)) t := by
        intro t k
        refine g7 t ?_
        show Steps p.tables e below (T5.setTop (mkF m 11 #[.val (.ref a1)] [(.ref w28), (.ref a1)])) _
        refine Jvm.RoadKit.acmp (g := (mkF m 11 #[.val (.ref a1)] [(.ref w28), (.ref a1)])) X5 hx rfl rfl rfl (pc0 := 11) (pc' := 25) (same := true) rfl (hb hby own_d1_11) rfl (decide_eq_true (congrArg Value.ref hc6)) (by decide) (by decide) ?_
        show Steps p.tables e below (T5.setTop (mkF m 25 #[.val (.ref a1)] [])) _
        refine XS.iconst X5.here hx rfl (hb hby own_d1_25) ?_
        exact k
      obtain ⟨fs, hrt, hrun, hended, hW, hsame⟩ := X5.leave (v := some (.int (0 : Int32))) (fun h => by rw [Bd.returns] at h; cases h)
      refine ⟨_, _, g8 _ ?_, hrun, hended, _, _, rfl, ?_, ⟨_, rfl⟩, hW, hsame.mono (by decide) (by decide)⟩
      · show Steps p.tables e below (T5.setTop (mkF m 26 #[.val (.ref a1)] [(.int (0 : Int32))])) _
        exact retN X5 hx (t := .boolean) Bd.returns (by simp) (hb hby own_d1_26) hrt
      · show own_Q_rmM Z a1 r w0 w1 w2 w3 w4 w5 w6 w7 w8 w9 w10 w11 w12 w13 w14 w15 w16 w17 w18 w19 w20 w21 w22 w23 w24 w25 w26 w27 w28 w29 w30 h0 n0 _ T5.heap _
        rw [e5]
        exact ⟨by rw [← hr, if_neg hc2, if_pos hc6], N0, rfl⟩
    · obtain ⟨T9, X9, e9, st9⟩ := getS2 X5 hx hZ hown (host := "") (Or.inl (hw _ (List.mem_of_getElem? (i := 74) rfl))) Via.refl e5 (S_HALT.ext O0.2) (g := (mkF m 15 #[.val (.ref a1)] [(.ref a1)])) rfl (hb hby own_d1_15)
      have g11 : ∀ t, Steps p.tables e below (T9.setTop (mkF m 18 #[.val (.ref a1)] [(.ref w30), (.ref a1)])) t → Steps p.tables e below (s₁.setTop (entryFrame m #[(.ref a1)] 1)) t := by
        intro t k
        refine g7 t ?_
        show Steps p.tables e below (T5.setTop (mkF m 11 #[.val (.ref a1)] [(.ref w28), (.ref a1)])) _
        refine Jvm.RoadKit.acmp (g := (mkF m 11 #[.val (.ref a1)] [(.ref w28), (.ref a1)])) X5 hx rfl rfl rfl (pc0 := 11) (pc' := 14) (same := false) rfl (hb hby own_d1_11) rfl (decide_eq_false fun q => hc6 (Value.ref.inj q)) (by decide) (by decide) ?_
        show Steps p.tables e below (T5.setTop (mkF m 14 #[.val (.ref a1)] [])) _
        refine XS.aloadN X5.here hx rfl (hb hby own_d1_14) rfl rfl ?_
        show Steps p.tables e below (T5.setTop (mkF m 15 #[.val (.ref a1)] [(.ref a1)])) _
        refine st9 _ ?_
        exact k
      by_cases hc10 : a1 = w30
      · have g12 : ∀ t, Steps p.tables e below (T9.setTop (mkF m 26 #[.val (.ref a1)] [(.int (0 : Int32))])) t → Steps p.tables e below (s₁.setTop (entryFrame m #[(.ref a1)] 1)) t := by
          intro t k
          refine g11 t ?_
          show Steps p.tables e below (T9.setTop (mkF m 18 #[.val (.ref a1)] [(.ref w30), (.ref a1)])) _
          refine Jvm.RoadKit.acmp (g := (mkF m 18 #[.val (.ref a1)] [(.ref w30), (.ref a1)])) X9 hx rfl rfl rfl (pc0 := 18) (pc' := 25) (same := true) rfl (hb hby own_d1_18) rfl (decide_eq_true (congrArg Value.ref hc10)) (by decide) (by decide) ?_
          show Steps p.tables e below (T9.setTop (mkF m 25 #[.val (.ref a1)] [])) _
          refine XS.iconst X9.here hx rfl (hb hby own_d1_25) ?_
          exact k
        obtain ⟨fs, hrt, hrun, hended, hW, hsame⟩ := X9.leave (v := some (.int (0 : Int32))) (fun h => by rw [Bd.returns] at h; cases h)
        refine ⟨_, _, g12 _ ?_, hrun, hended, _, _, rfl, ?_, ⟨_, rfl⟩, hW, hsame.mono (by decide) (by decide)⟩
        · show Steps p.tables e below (T9.setTop (mkF m 26 #[.val (.ref a1)] [(.int (0 : Int32))])) _
          exact retN X9 hx (t := .boolean) Bd.returns (by simp) (hb hby own_d1_26) hrt
        · show own_Q_rmM Z a1 r w0 w1 w2 w3 w4 w5 w6 w7 w8 w9 w10 w11 w12 w13 w14 w15 w16 w17 w18 w19 w20 w21 w22 w23 w24 w25 w26 w27 w28 w29 w30 h0 n0 _ T9.heap _
          rw [e9]
          exact ⟨by rw [← hr, if_neg hc2, if_neg hc6, if_pos hc10], N0, rfl⟩
      · have g13 : ∀ t, Steps p.tables e below (T9.setTop (mkF m 26 #[.val (.ref a1)] [(.int (1 : Int32))])) t → Steps p.tables e below (s₁.setTop (entryFrame m #[(.ref a1)] 1)) t := by
          intro t k
          refine g11 t ?_
          show Steps p.tables e below (T9.setTop (mkF m 18 #[.val (.ref a1)] [(.ref w30), (.ref a1)])) _
          refine Jvm.RoadKit.acmp (g := (mkF m 18 #[.val (.ref a1)] [(.ref w30), (.ref a1)])) X9 hx rfl rfl rfl (pc0 := 18) (pc' := 21) (same := false) rfl (hb hby own_d1_18) rfl (decide_eq_false fun q => hc10 (Value.ref.inj q)) (by decide) (by decide) ?_
          show Steps p.tables e below (T9.setTop (mkF m 21 #[.val (.ref a1)] [])) _
          refine XS.iconst X9.here hx rfl (hb hby own_d1_21) ?_
          show Steps p.tables e below (T9.setTop (mkF m 22 #[.val (.ref a1)] [(.int (1 : Int32))])) _
          refine XS.goto X9.here hx rfl (pc0 := 22) (pc' := 26) rfl (hb hby own_d1_22) (by decide) (by decide) ?_
          exact k
        obtain ⟨fs, hrt, hrun, hended, hW, hsame⟩ := X9.leave (v := some (.int (1 : Int32))) (fun h => by rw [Bd.returns] at h; cases h)
        refine ⟨_, _, g13 _ ?_, hrun, hended, _, _, rfl, ?_, ⟨_, rfl⟩, hW, hsame.mono (by decide) (by decide)⟩
        · show Steps p.tables e below (T9.setTop (mkF m 26 #[.val (.ref a1)] [(.int (1 : Int32))])) _
          exact retN X9 hx (t := .boolean) Bd.returns (by simp) (hb hby own_d1_26) hrt
        · show own_Q_rmM Z a1 r w0 w1 w2 w3 w4 w5 w6 w7 w8 w9 w10 w11 w12 w13 w14 w15 w16 w17 w18 w19 w20 w21 w22 w23 w24 w25 w26 w27 w28 w29 w30 h0 n0 _ T9.heap _
          rw [e9]
          exact ⟨by rw [← hr, if_neg hc2, if_neg hc6, if_neg hc10], N0, rfl⟩
theorem own_ef2 (m : MethodId) (x0 : Int32) : entryFrame m #[(.int x0)] maxLocals = mkF m 0 #[.val (.int x0), .unset, .unset, .unset] [] := by first | (simp [entryFrame, mkF, argsToLocals, Value.category, maxLocals]; done) | rfl
theorem own_pn1 : plainName "com/example/chalkline/chalkline/runtime/OpcodeFallsThroughPinLaw" = true := by first | (simp [plainName, overriddenIn]; done) | decide +kernel
theorem own_pd0 : parseMethodDescriptor "()Z" = some ⟨[], some .boolean⟩ := by decide +kernel
def own_Q_rm0 (Z : State) (p1 : Int32) (w0 w1 w2 w3 w4 w5 w6 w7 w8 w9 w10 w11 w12 w13 w14 w15 w16 w17 w18 w19 w20 w21 w22 w23 w24 w25 w26 w27 w28 w29 w30 : Addr) (h0 : Heap) (n0 : Nat) (v : Option Value) (h : Heap) (L : List Loc) : Prop := v = some (.int (1 : Int32)) ∧ Fr n0 L
set_option maxRecDepth 65536 in
set_option maxHeartbeats 40000000 in
theorem rm0 (l : Launch) (Z : State) (a0 : Array Value) (hw : ∀ d ∈ tables_1, d.before a0 Z = true) (ws : List Jvm.Cond) (p1 : Int32) (w0 w1 w2 w3 w4 w5 w6 w7 w8 w9 w10 w11 w12 w13 w14 w15 w16 w17 w18 w19 w20 w21 w22 w23 w24 w25 w26 w27 w28 w29 w30 : Addr) (h0 : Heap) (n0 : Nat) (O0 : Old Z n0 h0) (G : own_Gl Z w0 w1 w2 w3 w4 w5 w6 w7 w8 w9 w10 w11 w12 w13 w14 w15 w16 w17 w18 w19 w20 w21 w22 w23 w24 w25 w26 w27 w28 w29 w30) (Od : own_Od Z w0 w1 w2 w3 w4 w5 w6 w7 w8 w9 w10 w11 w12 w13 w14 w15 w16 w17 w18 w19 w20 w21 w22 w23 w24 w25 w26 w27 w28 w29 w30) :
    MetFree l x (head1 (Jvm.Cond.code x code maxLocals ret :: ws) room_1) (fun a U => a = #[(.int p1)] ∧ Z.Warmed39 U.vm ∧ U.heap = h0) (fun _ _ _ _ _ => True) (fun _ U o U' => ∃ v L, o = .returned v ∧ own_Q_rm0 Z p1 w0 w1 w2 w3 w4 w5 w6 w7 w8 w9 w10 w11 w12 w13 w14 w15 w16 w17 w18 w19 w20 w21 w22 w23 w24 w25 w26 w27 w28 w29 w30 h0 n0 v U'.heap L ∧ FrameEnd U o U' L room_1.cells room_1.slots) := by
  refine MetFree.of_bodySF (plainFor_of_name own_pn1) hisR ?_
  intro p e s m args below meth c s₁ Bd hml0 hP hK
  obtain ⟨rfl, hZ, hh⟩ := hP
  have hx := Bd.exec
  have hby := Bd.bytes
  have hml : c.maxLocals = 4 := hml0
  have hown : s.vm.findClass "com/example/chalkline/chalkline/runtime/OpcodeFallsThroughPinLaw" = some m.cls := findClass_of_methodNamed Bd.named
  have hnm := (name_of_methodNamed Bd.named Bd.method).1
  have X0 : Stand p l e room_1 s m #[(.int p1)] below meth c s₁ [] 0 0 := Stand.of_body Bd
  have e0 : s₁.heap = h0 := by rw [← hh, Bd.state]; rfl
  have N0 := Fr.nil n0
  have Z0 : n0 ≤ h0.size := O0.1 ▸ O0.2.1
  have g0 : ∀ t, Steps p.tables e below (s₁.setTop (mkF m 0 #[.val (.int p1), .unset, .unset, .unset] [])) t → Steps p.tables e below (s₁.setTop (entryFrame m #[(.int p1)] maxLocals)) t := fun t k => castTop (own_ef2 m (p1)) k
  obtain ⟨Fo0, Fo1, Fo2, Fo3, Fo4, Fo5, Fo6, Fo7, Fo8, Fo9, Fo10, Fo11, Fo12, Fo13, Fo14, Fo15, Fo16, Fo17, Fo18, Fo19, Fo20, Fo21, Fo22, Fo23, Fo24, Fo25, Fo26, Fo27, Fo28, Fo29, Fo30⟩ := Od
  have G0 := G
  obtain ⟨S_PUSH, S_PUSH_NULL, S_LOAD, S_STORE, S_LOAD_LOCAL, S_STORE_LOCAL, S_POP, S_ADD, S_SUBTRACT, S_MULTIPLY, S_DIVIDE, S_REMAINDER, S_NEGATE, S_LESS, S_LESS_EQUAL, S_GREATER, S_GREATER_EQUAL, S_EQUAL, S_NOT_EQUAL, S_NOT, S_ARRAY, S_GET_ELEMENT, S_SET_ELEMENT, S_JUMP, S_JUMP_IF_FALSE, S_JUMP_IF_TRUE, S_FUNCTION, S_CALL, S_RETURN, S_PRINT, S_HALT, Ex_PUSH, Ex_PUSH_NULL, Ex_LOAD, Ex_STORE, Ex_LOAD_LOCAL, Ex_STORE_LOCAL, Ex_POP, Ex_ADD, Ex_SUBTRACT, Ex_MULTIPLY, Ex_DIVIDE, Ex_REMAINDER, Ex_NEGATE, Ex_LESS, Ex_LESS_EQUAL, Ex_GREATER, Ex_GREATER_EQUAL, Ex_EQUAL, Ex_NOT_EQUAL, Ex_NOT, Ex_ARRAY, Ex_GET_ELEMENT, Ex_SET_ELEMENT, Ex_JUMP, Ex_JUMP_IF_FALSE, Ex_JUMP_IF_TRUE, Ex_FUNCTION, Ex_CALL, Ex_RETURN, Ex_PRINT, Ex_HALT⟩ := G
  obtain ⟨T1, h1, k1, X1, e1, E1, A1, Ov1, st1⟩ := newR X0 hx hZ hown (hw _ (List.mem_of_getElem? (i := 0) rfl)) (hw _ (List.mem_of_getElem? (i := 1) rfl)) e0 (g := (mkF m 2 #[.val (.int p1), .unset, .unset, .unset] [(.int (31 : Int32))])) rfl (hb hby at_2) rfl (by decide) (cap := 31) (by decide) (by decide) (by decide) (by decide)
  obtain ⟨b1, q_b1⟩ : ∃ z, z = h0.size := ⟨_, rfl⟩
  rw [← q_b1] at A1 st1
  have sz_b1 : h0.size ≤ b1 := Nat.le_of_eq q_b1.symm
  have gz_b1 : n0 ≤ b1 := Nat.le_trans Z0 sz_b1
  have V1 : Arv Z h1 b1 k1 (.object "com/example/chalkline/chalkline/runtime/Opcode") (31 : Int32) [.null, .null, .null, .null, .null, .null, .null, .null, .null, .null, .null, .null, .null, .null, .null, .null, .null, .null, .null, .null, .null, .null, .null, .null, .null, .null, .null, .null, .null, .null, .null] .null := (Arv.new A1 (by decide)).pad (pad_rep [] .null 31)
  have o2 : Old Z n0 h1 := (Old.ext O0 E1)
  obtain ⟨T3, X3, e3, st3⟩ := getS2 X1 hx hZ hown (host := "") (Or.inl (hw _ (List.mem_of_getElem? (i := 2) rfl))) Via.refl e1 (S_PUSH.ext o2.2) (g := (mkF m 7 #[.val (.int p1), .unset, .unset, .unset] [(.int (0 : Int32)), (.ref b1), (.ref b1)])) rfl (hb hby at_7)
  obtain ⟨c4, Ar4, cq4, S4, Nn4, Hh4, Gg4⟩ := id V1
  have hin4 : ¬ ((0 : Int32) < 0 ∨ c4.slots.size ≤ ((0 : Int32)).toNatClampNeg) := inb_of S4 ⟨by decide, by decide⟩
  obtain ⟨T5, h5, X5, e5, W5, st5⟩ := stR X3 hx hZ e3 Ar4 (j := (0 : Int32)) hin4 rfl (Sto.ofV Ar4 cq4 Ov1 (Ins.self (Ex_PUSH.ext o2.2))) (g := (mkF m 10 #[.val (.int p1), .unset, .unset, .unset] [(.ref w0), (.int (0 : Int32)), (.ref b1), (.ref b1)])) rfl rfl (hb hby at_10)
  have V5 := Arv.set Ar4 cq4 S4 Nn4 Hh4 Gg4 rfl W5 0 rfl (Nat.le_of_ble_eq_true rfl)
  have V5a : Arv Z h5 b1 k1 (.object "com/example/chalkline/chalkline/runtime/Opcode") (31 : Int32) [(.ref w0), .null, .null, .null, .null, .null, .null, .null, .null, .null, .null, .null, .null, .null, .null, .null, .null, .null, .null, .null, .null, .null, .null, .null, .null, .null, .null, .null, .null, .null, .null] .null := V5
  have N5 := Fr.snoc X5 N0 gz_b1
  have o6 : Old Z n0 h5 := (Old.wr o2 W5 gz_b1)
  obtain ⟨T7, X7, e7, st7⟩ := getS2 X5 hx hZ hown (host := "") (Or.inl (hw _ (List.mem_of_getElem? (i := 6) rfl))) Via.refl e5 (S_PUSH_NULL.ext o6.2) (g := (mkF m 13 #[.val (.int p1), .unset, .unset, .unset] [(.int (1 : Int32)), (.ref b1), (.ref b1)])) rfl (hb hby at_13)
  obtain ⟨c8, Ar8, cq8, S8, Nn8, Hh8, Gg8⟩ := id V5a
  have hin8 : ¬ ((1 : Int32) < 0 ∨ c8.slots.size ≤ ((1 : Int32)).toNatClampNeg) := inb_of S8 ⟨by decide, by decide⟩
  obtain ⟨T9, h9, X9, e9, W9, st9⟩ := stR X7 hx hZ e7 Ar8 (j := (1 : Int32)) hin8 rfl (Sto.ofV Ar8 cq8 Ov1 (Ins.self (Ex_PUSH_NULL.ext o6.2))) (g := (mkF m 16 #[.val (.int p1), .unset, .unset, .unset] [(.ref w1), (.int (1 : Int32)), (.ref b1), (.ref b1)])) rfl rfl (hb hby at_16)
  have V9 := Arv.set Ar8 cq8 S8 Nn8 Hh8 Gg8 rfl W9 1 rfl (Nat.le_of_ble_eq_true rfl)
  have V9a : Arv Z h9 b1 k1 (.object "com/example/chalkline/chalkline/runtime/Opcode") (31 : Int32) [(.ref w0), (.ref w1), .null, .null, .null, .null, .null, .null, .null, .null, .null, .null, .null, .null, .null, .null, .null, .null, .null, .null, .null, .null, .null, .null, .null, .null, .null, .null, .null, .null, .null] .null := V9
  have N9 := Fr.snoc X9 N5 gz_b1
  have o10 : Old Z n0 h9 := (Old.wr o6 W9 gz_b1)
  obtain ⟨T11, X11, e11, st11⟩ := getS2 X9 hx hZ hown (host := "") (Or.inl (hw _ (List.mem_of_getElem? (i := 8) rfl))) Via.refl e9 (S_LOAD.ext o10.2) (g := (mkF m 19 #[.val (.int p1), .unset, .unset, .unset] [(.int (2 : Int32)), (.ref b1), (.ref b1)])) rfl (hb hby at_19)
  obtain ⟨c12, Ar12, cq12, S12, Nn12, Hh12, Gg12⟩ := id V9a
  have hin12 : ¬ ((2 : Int32) < 0 ∨ c12.slots.size ≤ ((2 : Int32)).toNatClampNeg) := inb_of S12 ⟨by decide, by decide⟩
  obtain ⟨T13, h13, X13, e13, W13, st13⟩ := stR X11 hx hZ e11 Ar12 (j := (2 : Int32)) hin12 rfl (Sto.ofV Ar12 cq12 Ov1 (Ins.self (Ex_LOAD.ext o10.2))) (g := (mkF m 22 #[.val (.int p1), .unset, .unset, .unset] [(.ref w2), (.int (2 : Int32)), (.ref b1), (.ref b1)])) rfl rfl (hb hby at_22)
  have V13 := Arv.set Ar12 cq12 S12 Nn12 Hh12 Gg12 rfl W13 2 rfl (Nat.le_of_ble_eq_true rfl)
  have V13a : Arv Z h13 b1 k1 (.object "com/example/chalkline/chalkline/runtime/Opcode") (31 : Int32) [(.ref w0), (.ref w1), (.ref w2), .null, .null, .null, .null, .null, .null, .null, .null, .null, .null, .null, .null, .null, .null, .null, .null, .null, .null, .null, .null, .null, .null, .null, .null, .null, .null, .null, .null] .null := V13
  have N13 := Fr.snoc X13 N9 gz_b1
  have o14 : Old Z n0 h13 := (Old.wr o10 W13 gz_b1)
  obtain ⟨T15, X15, e15, st15⟩ := getS2 X13 hx hZ hown (host := "") (Or.inl (hw _ (List.mem_of_getElem? (i := 10) rfl))) Via.refl e13 (S_STORE.ext o14.2) (g := (mkF m 25 #[.val (.int p1), .unset, .unset, .unset] [(.int (3 : Int32)), (.ref b1), (.ref b1)])) rfl (hb hby at_25)
  obtain ⟨c16, Ar16, cq16, S16, Nn16, Hh16, Gg16⟩ := id V13a
  have hin16 : ¬ ((3 : Int32) < 0 ∨ c16.slots.size ≤ ((3 : Int32)).toNatClampNeg) := inb_of S16 ⟨by decide, by decide⟩
  obtain ⟨T17, h17, X17, e17, W17, st17⟩ := stR X15 hx hZ e15 Ar16 (j := (3 : Int32)) hin16 rfl (Sto.ofV Ar16 cq16 Ov1 (Ins.self (Ex_STORE.ext o14.2))) (g := (mkF m 28 #[.val (.int p1), .unset, .unset, .unset] [(.ref w3), (.int (3 : Int32)), (.ref b1), (.ref b1)])) rfl rfl (hb hby at_28)
  have V17 := Arv.set Ar16 cq16 S16 Nn16 Hh16 Gg16 rfl W17 3 rfl (Nat.le_of_ble_eq_true rfl)
  have V17a : Arv Z h17 b1 k1 (.object "com/example/chalkline/chalkline/runtime/Opcode") (31 : Int32) [(.ref w0), (.ref w1), (.ref w2), (.ref w3), .null, .null, .null, .null, .null, .null, .null, .null, .null, .null, .null, .null, .null, .null, .null, .null, .null, .null, .null, .null, .null, .null, .null, .null, .null, .null, .null] .null := V17
  have N17 := Fr.snoc X17 N13 gz_b1
  have o18 : Old Z n0 h17 := (Old.wr o14 W17 gz_b1)
  obtain ⟨T19, X19, e19, st19⟩ := getS2 X17 hx hZ hown (host := "") (Or.inl (hw _ (List.mem_of_getElem? (i := 12) rfl))) Via.refl e17 (S_LOAD_LOCAL.ext o18.2) (g := (mkF m 31 #[.val (.int p1), .unset, .unset, .unset] [(.int (4 : Int32)), (.ref b1), (.ref b1)])) rfl (hb hby at_31)
  obtain ⟨c20, Ar20, cq20, S20, Nn20, Hh20, Gg20⟩ := id V17a
  have hin20 : ¬ ((4 : Int32) < 0 ∨ c20.slots.size ≤ ((4 : Int32)).toNatClampNeg) := inb_of S20 ⟨by decide, by decide⟩
  obtain ⟨T21, h21, X21, e21, W21, st21⟩ := stR X19 hx hZ e19 Ar20 (j := (4 : Int32)) hin20 rfl (Sto.ofV Ar20 cq20 Ov1 (Ins.self (Ex_LOAD_LOCAL.ext o18.2))) (g := (mkF m 34 #[.val (.int p1), .unset, .unset, .unset] [(.ref w4), (.int (4 : Int32)), (.ref b1), (.ref b1)])) rfl rfl (hb hby at_34)
  have V21 := Arv.set Ar20 cq20 S20 Nn20 Hh20 Gg20 rfl W21 4 rfl (Nat.le_of_ble_eq_true rfl)
  have V21a : Arv Z h21 b1 k1 (.object "com/example/chalkline/chalkline/runtime/Opcode") (31 : Int32) [(.ref w0), (.ref w1), (.ref w2), (.ref w3), (.ref w4), .null, .null, .null, .null, .null, .null, .null, .null, .null, .null, .null, .null, .null, .null, .null, .null, .null, .null, .null, .null, .null, .null, .null, .null, .null, .null] .null := V21
  have N21 := Fr.snoc X21 N17 gz_b1
  have o22 : Old Z n0 h21 := (Old.wr o18 W21 gz_b1)
  obtain ⟨T23, X23, e23, st23⟩ := getS2 X21 hx hZ hown (host := "") (Or.inl (hw _ (List.mem_of_getElem? (i := 14) rfl))) Via.refl e21 (S_STORE_LOCAL.ext o22.2) (g := (mkF m 37 #[.val (.int p1), .unset, .unset, .unset] [(.int (5 : Int32)), (.ref b1), (.ref b1)])) rfl (hb hby at_37)
  obtain ⟨c24, Ar24, cq24, S24, Nn24, Hh24, Gg24⟩ := id V21a
  have hin24 : ¬ ((5 : Int32) < 0 ∨ c24.slots.size ≤ ((5 : Int32)).toNatClampNeg) := inb_of S24 ⟨by decide, by decide⟩
  obtain ⟨T25, h25, X25, e25, W25, st25⟩ := stR X23 hx hZ e23 Ar24 (j := (5 : Int32)) hin24 rfl (Sto.ofV Ar24 cq24 Ov1 (Ins.self (Ex_STORE_LOCAL.ext o22.2))) (g := (mkF m 40 #[.val (.int p1), .unset, .unset, .unset] [(.ref w5), (.int (5 : Int32)), (.ref b1), (.ref b1)])) rfl rfl (hb hby at_40)
  have V25 := Arv.set Ar24 cq24 S24 Nn24 Hh24 Gg24 rfl W25 5 rfl (Nat.le_of_ble_eq_true rfl)
  have V25a : Arv Z h25 b1 k1 (.object "com/example/chalkline/chalkline/runtime/Opcode") (31 : Int32) [(.ref w0), (.ref w1), (.ref w2), (.ref w3), (.ref w4), (.ref w5), .null, .null, .null, .null, .null, .null, .null, .null, .null, .null, .null, .null, .null, .null, .null, .null, .null, .null, .null, .null, .null, .null, .null, .null, .null] .null := V25
  have N25 := Fr.snoc X25 N21 gz_b1
  have o26 : Old Z n0 h25 := (Old.wr o22 W25 gz_b1)
  obtain ⟨T27, X27, e27, st27⟩ := getS2 X25 hx hZ hown (host := "") (Or.inl (hw _ (List.mem_of_getElem? (i := 16) rfl))) Via.refl e25 (S_POP.ext o26.2) (g := (mkF m 44 #[.val (.int p1), .unset, .unset, .unset] [(.int (6 : Int32)), (.ref b1), (.ref b1)])) rfl (hb hby at_44)
  obtain ⟨c28, Ar28, cq28, S28, Nn28, Hh28, Gg28⟩ := id V25a
  have hin28 : ¬ ((6 : Int32) < 0 ∨ c28.slots.size ≤ ((6 : Int32)).toNatClampNeg) := inb_of S28 ⟨by decide, by decide⟩
  obtain ⟨T29, h29, X29, e29, W29, st29⟩ := stR X27 hx hZ e27 Ar28 (j := (6 : Int32)) hin28 rfl (Sto.ofV Ar28 cq28 Ov1 (Ins.self (Ex_POP.ext o26.2))) (g := (mkF m 47 #[.val (.int p1), .unset, .unset, .unset] [(.ref w6), (.int (6 : Int32)), (.ref b1), (.ref b1)])) rfl rfl (hb hby at_47)
  have V29 := Arv.set Ar28 cq28 S28 Nn28 Hh28 Gg28 rfl W29 6 rfl (Nat.le_of_ble_eq_true rfl)
  have V29a : Arv Z h29 b1 k1 (.object "com/example/chalkline/chalkline/runtime/Opcode") (31 : Int32) [(.ref w0), (.ref w1), (.ref w2), (.ref w3), (.ref w4), (.ref w5), (.ref w6), .null, .null, .null, .null, .null, .null, .null, .null, .null, .null, .null, .null, .null, .null, .null, .null, .null, .null, .null, .null, .null, .null, .null, .null] .null := V29
  have N29 := Fr.snoc X29 N25 gz_b1
  have o30 : Old Z n0 h29 := (Old.wr o26 W29 gz_b1)
  obtain ⟨T31, X31, e31, st31⟩ := getS2 X29 hx hZ hown (host := "") (Or.inl (hw _ (List.mem_of_getElem? (i := 18) rfl))) Via.refl e29 (S_ADD.ext o30.2) (g := (mkF m 51 #[.val (.int p1), .unset, .unset, .unset] [(.int (7 : Int32)), (.ref b1), (.ref b1)])) rfl (hb hby at_51)
  obtain ⟨c32, Ar32, cq32, S32, Nn32, Hh32, Gg32⟩ := id V29a
  have hin32 : ¬ ((7 : Int32) < 0 ∨ c32.slots.size ≤ ((7 : Int32)).toNatClampNeg) := inb_of S32 ⟨by decide, by decide⟩
  obtain ⟨T33, h33, X33, e33, W33, st33⟩ := stR X31 hx hZ e31 Ar32 (j := (7 : Int32)) hin32 rfl (Sto.ofV Ar32 cq32 Ov1 (Ins.self (Ex_ADD.ext o30.2))) (g := (mkF m 54 #[.val (.int p1), .unset, .unset, .unset] [(.ref w7), (.int (7 : Int32)), (.ref b1), (.ref b1)])) rfl rfl (hb hby at_54)
  have V33 := Arv.set Ar32 cq32 S32 Nn32 Hh32 Gg32 rfl W33 7 rfl (Nat.le_of_ble_eq_true rfl)
  have V33a : Arv Z h33 b1 k1 (.object "com/example/chalkline/chalkline/runtime/Opcode") (31 : Int32) [(.ref w0), (.ref w1), (.ref w2), (.ref w3), (.ref w4), (.ref w5), (.ref w6), (.ref w7), .null, .null, .null, .null, .null, .null, .null, .null, .null, .null, .null, .null, .null, .null, .null, .null, .null, .null, .null, .null, .null, .null, .null] .null := V33
  have N33 := Fr.snoc X33 N29 gz_b1
  have o34 : Old Z n0 h33 := (Old.wr o30 W33 gz_b1)
  obtain ⟨T35, X35, e35, st35⟩ := getS2 X33 hx hZ hown (host := "") (Or.inl (hw _ (List.mem_of_getElem? (i := 20) rfl))) Via.refl e33 (S_SUBTRACT.ext o34.2) (g := (mkF m 58 #[.val (.int p1), .unset, .unset, .unset] [(.int (8 : Int32)), (.ref b1), (.ref b1)])) rfl (hb hby at_58)
  obtain ⟨c36, Ar36, cq36, S36, Nn36, Hh36, Gg36⟩ := id V33a
  have hin36 : ¬ ((8 : Int32) < 0 ∨ c36.slots.size ≤ ((8 : Int32)).toNatClampNeg) := inb_of S36 ⟨by decide, by decide⟩
  obtain ⟨T37, h37, X37, e37, W37, st37⟩ := stR X35 hx hZ e35 Ar36 (j := (8 : Int32)) hin36 rfl (Sto.ofV Ar36 cq36 Ov1 (Ins.self (Ex_SUBTRACT.ext o34.2))) (g := (mkF m 61 #[.val (.int p1), .unset, .unset, .unset] [(.ref w8), (.int (8 : Int32)), (.ref b1), (.ref b1)])) rfl rfl (hb hby at_61)
  have V37 := Arv.set Ar36 cq36 S36 Nn36 Hh36 Gg36 rfl W37 8 rfl (Nat.le_of_ble_eq_true rfl)
  have V37a : Arv Z h37 b1 k1 (.object "com/example/chalkline/chalkline/runtime/Opcode") (31 : Int32) [(.ref w0), (.ref w1), (.ref w2), (.ref w3), (.ref w4), (.ref w5), (.ref w6), (.ref w7), (.ref w8), .null, .null, .null, .null, .null, .null, .null, .null, .null, .null, .null, .null, .null, .null, .null, .null, .null, .null, .null, .null, .null, .null] .null := V37
  have N37 := Fr.snoc X37 N33 gz_b1
  have o38 : Old Z n0 h37 := (Old.wr o34 W37 gz_b1)
  obtain ⟨T39, X39, e39, st39⟩ := getS2 X37 hx hZ hown (host := "") (Or.inl (hw _ (List.mem_of_getElem? (i := 22) rfl))) Via.refl e37 (S_MULTIPLY.ext o38.2) (g := (mkF m 65 #[.val (.int p1), .unset, .unset, .unset] [(.int (9 : Int32)), (.ref b1), (.ref b1)])) rfl (hb hby at_65)
  obtain ⟨c40, Ar40, cq40, S40, Nn40, Hh40, Gg40⟩ := id V37a
  have hin40 : ¬ ((9 : Int32) < 0 ∨ c40.slots.size ≤ ((9 : Int32)).toNatClampNeg) := inb_of S40 ⟨by decide, by decide⟩
  obtain ⟨T41, h41, X41, e41, W41, st41⟩ := stR X39 hx hZ e39 Ar40 (j := (9 : Int32)) hin40 rfl (Sto.ofV Ar40 cq40 Ov1 (Ins.self (Ex_MULTIPLY.ext o38.2))) (g := (mkF m 68 #[.val (.int p1), .unset, .unset, .unset] [(.ref w9), (.int (9 : Int32)), (.ref b1), (.ref b1)])) rfl rfl (hb hby at_68)
  have V41 := Arv.set Ar40 cq40 S40 Nn40 Hh40 Gg40 rfl W41 9 rfl (Nat.le_of_ble_eq_true rfl)
  have V41a : Arv Z h41 b1 k1 (.object "com/example/chalkline/chalkline/runtime/Opcode") (31 : Int32) [(.ref w0), (.ref w1), (.ref w2), (.ref w3), (.ref w4), (.ref w5), (.ref w6), (.ref w7), (.ref w8), (.ref w9), .null, .null, .null, .null, .null, .null, .null, .null, .null, .null, .null, .null, .null, .null, .null, .null, .null, .null, .null, .null, .null] .null := V41
  have N41 := Fr.snoc X41 N37 gz_b1
  have o42 : Old Z n0 h41 := (Old.wr o38 W41 gz_b1)
  obtain ⟨T43, X43, e43, st43⟩ := getS2 X41 hx hZ hown (host := "") (Or.inl (hw _ (List.mem_of_getElem? (i := 24) rfl))) Via.refl e41 (S_DIVIDE.ext o42.2) (g := (mkF m 72 #[.val (.int p1), .unset, .unset, .unset] [(.int (10 : Int32)), (.ref b1), (.ref b1)])) rfl (hb hby at_72)
  obtain ⟨c44, Ar44, cq44, S44, Nn44, Hh44, Gg44⟩ := id V41a
  have hin44 : ¬ ((10 : Int32) < 0 ∨ c44.slots.size ≤ ((10 : Int32)).toNatClampNeg) := inb_of S44 ⟨by decide, by decide⟩
  obtain ⟨T45, h45, X45, e45, W45, st45⟩ := stR X43 hx hZ e43 Ar44 (j := (10 : Int32)) hin44 rfl (Sto.ofV Ar44 cq44 Ov1 (Ins.self (Ex_DIVIDE.ext o42.2))) (g := (mkF m 75 #[.val (.int p1), .unset, .unset, .unset] [(.ref w10), (.int (10 : Int32)), (.ref b1), (.ref b1)])) rfl rfl (hb hby at_75)
  have V45 := Arv.set Ar44 cq44 S44 Nn44 Hh44 Gg44 rfl W45 10 rfl (Nat.le_of_ble_eq_true rfl)
  have V45a : Arv Z h45 b1 k1 (.object "com/example/chalkline/chalkline/runtime/Opcode") (31 : Int32) [(.ref w0), (.ref w1), (.ref w2), (.ref w3), (.ref w4), (.ref w5), (.ref w6), (.ref w7), (.ref w8), (.ref w9), (.ref w10), .null, .null, .null, .null, .null, .null, .null, .null, .null, .null, .null, .null, .null, .null, .null, .null, .null, .null, .null, .null] .null := V45
  have N45 := Fr.snoc X45 N41 gz_b1
  have o46 : Old Z n0 h45 := (Old.wr o42 W45 gz_b1)
  obtain ⟨T47, X47, e47, st47⟩ := getS2 X45 hx hZ hown (host := "") (Or.inl (hw _ (List.mem_of_getElem? (i := 26) rfl))) Via.refl e45 (S_REMAINDER.ext o46.2) (g := (mkF m 79 #[.val (.int p1), .unset, .unset, .unset] [(.int (11 : Int32)), (.ref b1), (.ref b1)])) rfl (hb hby at_79)
  obtain ⟨c48, Ar48, cq48, S48, Nn48, Hh48, Gg48⟩ := id V45a
  have hin48 : ¬ ((11 : Int32) < 0 ∨ c48.slots.size ≤ ((11 : Int32)).toNatClampNeg) := inb_of S48 ⟨by decide, by decide⟩
  obtain ⟨T49, h49, X49, e49, W49, st49⟩ := stR X47 hx hZ e47 Ar48 (j := (11 : Int32)) hin48 rfl (Sto.ofV Ar48 cq48 Ov1 (Ins.self (Ex_REMAINDER.ext o46.2))) (g := (mkF m 82 #[.val (.int p1), .unset, .unset, .unset] [(.ref w11), (.int (11 : Int32)), (.ref b1), (.ref b1)])) rfl rfl (hb hby at_82)
  have V49 := Arv.set Ar48 cq48 S48 Nn48 Hh48 Gg48 rfl W49 11 rfl (Nat.le_of_ble_eq_true rfl)
  have V49a : Arv Z h49 b1 k1 (.object "com/example/chalkline/chalkline/runtime/Opcode") (31 : Int32) [(.ref w0), (.ref w1), (.ref w2), (.ref w3), (.ref w4), (.ref w5), (.ref w6), (.ref w7), (.ref w8), (.ref w9), (.ref w10), (.ref w11), .null, .null, .null, .null, .null, .null, .null, .null, .null, .null, .null, .null, .null, .null, .null, .null, .null, .null, .null] .null := V49
  have N49 := Fr.snoc X49 N45 gz_b1
  have o50 : Old Z n0 h49 := (Old.wr o46 W49 gz_b1)
  obtain ⟨T51, X51, e51, st51⟩ := getS2 X49 hx hZ hown (host := "") (Or.inl (hw _ (List.mem_of_getElem? (i := 28) rfl))) Via.refl e49 (S_NEGATE.ext o50.2) (g := (mkF m 86 #[.val (.int p1), .unset, .unset, .unset] [(.int (12 : Int32)), (.ref b1), (.ref b1)])) rfl (hb hby at_86)
  obtain ⟨c52, Ar52, cq52, S52, Nn52, Hh52, Gg52⟩ := id V49a
  have hin52 : ¬ ((12 : Int32) < 0 ∨ c52.slots.size ≤ ((12 : Int32)).toNatClampNeg) := inb_of S52 ⟨by decide, by decide⟩
  obtain ⟨T53, h53, X53, e53, W53, st53⟩ := stR X51 hx hZ e51 Ar52 (j := (12 : Int32)) hin52 rfl (Sto.ofV Ar52 cq52 Ov1 (Ins.self (Ex_NEGATE.ext o50.2))) (g := (mkF m 89 #[.val (.int p1), .unset, .unset, .unset] [(.ref w12), (.int (12 : Int32)), (.ref b1), (.ref b1)])) rfl rfl (hb hby at_89)
  have V53 := Arv.set Ar52 cq52 S52 Nn52 Hh52 Gg52 rfl W53 12 rfl (Nat.le_of_ble_eq_true rfl)
  have V53a : Arv Z h53 b1 k1 (.object "com/example/chalkline/chalkline/runtime/Opcode") (31 : Int32) [(.ref w0), (.ref w1), (.ref w2), (.ref w3), (.ref w4), (.ref w5), (.ref w6), (.ref w7), (.ref w8), (.ref w9), (.ref w10), (.ref w11), (.ref w12), .null, .null, .null, .null, .null, .null, .null, .null, .null, .null, .null, .null, .null, .null, .null, .null, .null, .null] .null := V53
  have N53 := Fr.snoc X53 N49 gz_b1
  have o54 : Old Z n0 h53 := (Old.wr o50 W53 gz_b1)
  obtain ⟨T55, X55, e55, st55⟩ := getS2 X53 hx hZ hown (host := "") (Or.inl (hw _ (List.mem_of_getElem? (i := 30) rfl))) Via.refl e53 (S_LESS.ext o54.2) (g := (mkF m 93 #[.val (.int p1), .unset, .unset, .unset] [(.int (13 : Int32)), (.ref b1), (.ref b1)])) rfl (hb hby at_93)
  obtain ⟨c56, Ar56, cq56, S56, Nn56, Hh56, Gg56⟩ := id V53a
  have hin56 : ¬ ((13 : Int32) < 0 ∨ c56.slots.size ≤ ((13 : Int32)).toNatClampNeg) := inb_of S56 ⟨by decide, by decide⟩
  obtain ⟨T57, h57, X57, e57, W57, st57⟩ := stR X55 hx hZ e55 Ar56 (j := (13 : Int32)) hin56 rfl (Sto.ofV Ar56 cq56 Ov1 (Ins.self (Ex_LESS.ext o54.2))) (g := (mkF m 96 #[.val (.int p1), .unset, .unset, .unset] [(.ref w13), (.int (13 : Int32)), (.ref b1), (.ref b1)])) rfl rfl (hb hby at_96)
  have V57 := Arv.set Ar56 cq56 S56 Nn56 Hh56 Gg56 rfl W57 13 rfl (Nat.le_of_ble_eq_true rfl)
  have V57a : Arv Z h57 b1 k1 (.object "com/example/chalkline/chalkline/runtime/Opcode") (31 : Int32) [(.ref w0), (.ref w1), (.ref w2), (.ref w3), (.ref w4), (.ref w5), (.ref w6), (.ref w7), (.ref w8), (.ref w9), (.ref w10), (.ref w11), (.ref w12), (.ref w13), .null, .null, .null, .null, .null, .null, .null, .null, .null, .null, .null, .null, .null, .null, .null, .null, .null] .null := V57
  have N57 := Fr.snoc X57 N53 gz_b1
  have o58 : Old Z n0 h57 := (Old.wr o54 W57 gz_b1)
  obtain ⟨T59, X59, e59, st59⟩ := getS2 X57 hx hZ hown (host := "") (Or.inl (hw _ (List.mem_of_getElem? (i := 32) rfl))) Via.refl e57 (S_LESS_EQUAL.ext o58.2) (g := (mkF m 100 #[.val (.int p1), .unset, .unset, .unset] [(.int (14 : Int32)), (.ref b1), (.ref b1)])) rfl (hb hby at_100)
  obtain ⟨c60, Ar60, cq60, S60, Nn60, Hh60, Gg60⟩ := id V57a
  have hin60 : ¬ ((14 : Int32) < 0 ∨ c60.slots.size ≤ ((14 : Int32)).toNatClampNeg) := inb_of S60 ⟨by decide, by decide⟩
  obtain ⟨T61, h61, X61, e61, W61, st61⟩ := stR X59 hx hZ e59 Ar60 (j := (14 : Int32)) hin60 rfl (Sto.ofV Ar60 cq60 Ov1 (Ins.self (Ex_LESS_EQUAL.ext o58.2))) (g := (mkF m 103 #[.val (.int p1), .unset, .unset, .unset] [(.ref w14), (.int (14 : Int32)), (.ref b1), (.ref b1)])) rfl rfl (hb hby at_103)
  have V61 := Arv.set Ar60 cq60 S60 Nn60 Hh60 Gg60 rfl W61 14 rfl (Nat.le_of_ble_eq_true rfl)
  have V61a : Arv Z h61 b1 k1 (.object "com/example/chalkline/chalkline/runtime/Opcode") (31 : Int32) [(.ref w0), (.ref w1), (.ref w2), (.ref w3), (.ref w4), (.ref w5), (.ref w6), (.ref w7), (.ref w8), (.ref w9), (.ref w10), (.ref w11), (.ref w12), (.ref w13), (.ref w14), .null, .null, .null, .null, .null, .null, .null, .null, .null, .null, .null, .null, .null, .null, .null, .null] .null := V61
  have N61 := Fr.snoc X61 N57 gz_b1
  have o62 : Old Z n0 h61 := (Old.wr o58 W61 gz_b1)
  obtain ⟨T63, X63, e63, st63⟩ := getS2 X61 hx hZ hown (host := "") (Or.inl (hw _ (List.mem_of_getElem? (i := 34) rfl))) Via.refl e61 (S_GREATER.ext o62.2) (g := (mkF m 107 #[.val (.int p1), .unset, .unset, .unset] [(.int (15 : Int32)), (.ref b1), (.ref b1)])) rfl (hb hby at_107)
  obtain ⟨c64, Ar64, cq64, S64, Nn64, Hh64, Gg64⟩ := id V61a
  have hin64 : ¬ ((15 : Int32) < 0 ∨ c64.slots.size ≤ ((15 : Int32)).toNatClampNeg) := inb_of S64 ⟨by decide, by decide⟩
  obtain ⟨T65, h65, X65, e65, W65, st65⟩ := stR X63 hx hZ e63 Ar64 (j := (15 : Int32)) hin64 rfl (Sto.ofV Ar64 cq64 Ov1 (Ins.self (Ex_GREATER.ext o62.2))) (g := (mkF m 110 #[.val (.int p1), .unset, .unset, .unset] [(.ref w15), (.int (15 : Int32)), (.ref b1), (.ref b1)])) rfl rfl (hb hby at_110)
  have V65 := Arv.set Ar64 cq64 S64 Nn64 Hh64 Gg64 rfl W65 15 rfl (Nat.le_of_ble_eq_true rfl)
  have V65a : Arv Z h65 b1 k1 (.object "com/example/chalkline/chalkline/runtime/Opcode") (31 : Int32) [(.ref w0), (.ref w1), (.ref w2), (.ref w3), (.ref w4), (.ref w5), (.ref w6), (.ref w7), (.ref w8), (.ref w9), (.ref w10), (.ref w11), (.ref w12), (.ref w13), (.ref w14), (.ref w15), .null, .null, .null, .null, .null, .null, .null, .null, .null, .null, .null, .null, .null, .null, .null] .null := V65
  have N65 := Fr.snoc X65 N61 gz_b1
  have o66 : Old Z n0 h65 := (Old.wr o62 W65 gz_b1)
  obtain ⟨T67, X67, e67, st67⟩ := getS2 X65 hx hZ hown (host := "") (Or.inl (hw _ (List.mem_of_getElem? (i := 36) rfl))) Via.refl e65 (S_GREATER_EQUAL.ext o66.2) (g := (mkF m 114 #[.val (.int p1), .unset, .unset, .unset] [(.int (16 : Int32)), (.ref b1), (.ref b1)])) rfl (hb hby at_114)
  obtain ⟨c68, Ar68, cq68, S68, Nn68, Hh68, Gg68⟩ := id V65a
  have hin68 : ¬ ((16 : Int32) < 0 ∨ c68.slots.size ≤ ((16 : Int32)).toNatClampNeg) := inb_of S68 ⟨by decide, by decide⟩
  obtain ⟨T69, h69, X69, e69, W69, st69⟩ := stR X67 hx hZ e67 Ar68 (j := (16 : Int32)) hin68 rfl (Sto.ofV Ar68 cq68 Ov1 (Ins.self (Ex_GREATER_EQUAL.ext o66.2))) (g := (mkF m 117 #[.val (.int p1), .unset, .unset, .unset] [(.ref w16), (.int (16 : Int32)), (.ref b1), (.ref b1)])) rfl rfl (hb hby at_117)
  have V69 := Arv.set Ar68 cq68 S68 Nn68 Hh68 Gg68 rfl W69 16 rfl (Nat.le_of_ble_eq_true rfl)
  have V69a : Arv Z h69 b1 k1 (.object "com/example/chalkline/chalkline/runtime/Opcode") (31 : Int32) [(.ref w0), (.ref w1), (.ref w2), (.ref w3), (.ref w4), (.ref w5), (.ref w6), (.ref w7), (.ref w8), (.ref w9), (.ref w10), (.ref w11), (.ref w12), (.ref w13), (.ref w14), (.ref w15), (.ref w16), .null, .null, .null, .null, .null, .null, .null, .null, .null, .null, .null, .null, .null, .null] .null := V69
  have N69 := Fr.snoc X69 N65 gz_b1
  have o70 : Old Z n0 h69 := (Old.wr o66 W69 gz_b1)
  obtain ⟨T71, X71, e71, st71⟩ := getS2 X69 hx hZ hown (host := "") (Or.inl (hw _ (List.mem_of_getElem? (i := 38) rfl))) Via.refl e69 (S_EQUAL.ext o70.2) (g := (mkF m 121 #[.val (.int p1), .unset, .unset, .unset] [(.int (17 : Int32)), (.ref b1), (.ref b1)])) rfl (hb hby at_121)
  obtain ⟨c72, Ar72, cq72, S72, Nn72, Hh72, Gg72⟩ := id V69a
  have hin72 : ¬ ((17 : Int32) < 0 ∨ c72.slots.size ≤ ((17 : Int32)).toNatClampNeg) := inb_of S72 ⟨by decide, by decide⟩
  obtain ⟨T73, h73, X73, e73, W73, st73⟩ := stR X71 hx hZ e71 Ar72 (j := (17 : Int32)) hin72 rfl (Sto.ofV Ar72 cq72 Ov1 (Ins.self (Ex_EQUAL.ext o70.2))) (g := (mkF m 124 #[.val (.int p1), .unset, .unset, .unset] [(.ref w17), (.int (17 : Int32)), (.ref b1), (.ref b1)])) rfl rfl (hb hby at_124)
  have V73 := Arv.set Ar72 cq72 S72 Nn72 Hh72 Gg72 rfl W73 17 rfl (Nat.le_of_ble_eq_true rfl)
  have V73a : Arv Z h73 b1 k1 (.object "com/example/chalkline/chalkline/runtime/Opcode") (31 : Int32) [(.ref w0), (.ref w1), (.ref w2), (.ref w3), (.ref w4), (.ref w5), (.ref w6), (.ref w7), (.ref w8), (.ref w9), (.ref w10), (.ref w11), (.ref w12), (.ref w13), (.ref w14), (.ref w15), (.ref w16), (.ref w17), .null, .null, .null, .null, .null, .null, .null, .null, .null, .null, .null, .null, .null] .null := V73
  have N73 := Fr.snoc X73 N69 gz_b1
  have o74 : Old Z n0 h73 := (Old.wr o70 W73 gz_b1)
  obtain ⟨T75, X75, e75, st75⟩ := getS2 X73 hx hZ hown (host := "") (Or.inl (hw _ (List.mem_of_getElem? (i := 40) rfl))) Via.refl e73 (S_NOT_EQUAL.ext o74.2) (g := (mkF m 128 #[.val (.int p1), .unset, .unset, .unset] [(.int (18 : Int32)), (.ref b1), (.ref b1)])) rfl (hb hby at_128)
  obtain ⟨c76, Ar76, cq76, S76, Nn76, Hh76, Gg76⟩ := id V73a
  have hin76 : ¬ ((18 : Int32) < 0 ∨ c76.slots.size ≤ ((18 : Int32)).toNatClampNeg) := inb_of S76 ⟨by decide, by decide⟩
  obtain ⟨T77, h77, X77, e77, W77, st77⟩ := stR X75 hx hZ e75 Ar76 (j := (18 : Int32)) hin76 rfl (Sto.ofV Ar76 cq76 Ov1 (Ins.self (Ex_NOT_EQUAL.ext o74.2))) (g := (mkF m 131 #[.val (.int p1), .unset, .unset, .unset] [(.ref w18), (.int (18 : Int32)), (.ref b1), (.ref b1)])) rfl rfl (hb hby at_131)
  have V77 := Arv.set Ar76 cq76 S76 Nn76 Hh76 Gg76 rfl W77 18 rfl (Nat.le_of_ble_eq_true rfl)
  have V77a : Arv Z h77 b1 k1 (.object "com/example/chalkline/chalkline/runtime/Opcode") (31 : Int32) [(.ref w0), (.ref w1), (.ref w2), (.ref w3), (.ref w4), (.ref w5), (.ref w6), (.ref w7), (.ref w8), (.ref w9), (.ref w10), (.ref w11), (.ref w12), (.ref w13), (.ref w14), (.ref w15), (.ref w16), (.ref w17), (.ref w18), .null, .null, .null, .null, .null, .null, .null, .null, .null, .null, .null, .null] .null := V77
  have N77 := Fr.snoc X77 N73 gz_b1
  have o78 : Old Z n0 h77 := (Old.wr o74 W77 gz_b1)
  obtain ⟨T79, X79, e79, st79⟩ := getS2 X77 hx hZ hown (host := "") (Or.inl (hw _ (List.mem_of_getElem? (i := 42) rfl))) Via.refl e77 (S_NOT.ext o78.2) (g := (mkF m 135 #[.val (.int p1), .unset, .unset, .unset] [(.int (19 : Int32)), (.ref b1), (.ref b1)])) rfl (hb hby at_135)
  obtain ⟨c80, Ar80, cq80, S80, Nn80, Hh80, Gg80⟩ := id V77a
  have hin80 : ¬ ((19 : Int32) < 0 ∨ c80.slots.size ≤ ((19 : Int32)).toNatClampNeg) := inb_of S80 ⟨by decide, by decide⟩
  obtain ⟨T81, h81, X81, e81, W81, st81⟩ := stR X79 hx hZ e79 Ar80 (j := (19 : Int32)) hin80 rfl (Sto.ofV Ar80 cq80 Ov1 (Ins.self (Ex_NOT.ext o78.2))) (g := (mkF m 138 #[.val (.int p1), .unset, .unset, .unset] [(.ref w19), (.int (19 : Int32)), (.ref b1), (.ref b1)])) rfl rfl (hb hby at_138)
  have V81 := Arv.set Ar80 cq80 S80 Nn80 Hh80 Gg80 rfl W81 19 rfl (Nat.le_of_ble_eq_true rfl)
  have V81a : Arv Z h81 b1 k1 (.object "com/example/chalkline/chalkline/runtime/Opcode") (31 : Int32) [(.ref w0), (.ref w1), (.ref w2), (.ref w3), (.ref w4), (.ref w5), (.ref w6), (.ref w7), (.ref w8), (.ref w9), (.ref w10), (.ref w11), (.ref w12), (.ref w13), (.ref w14), (.ref w15), (.ref w16), (.ref w17), (.ref w18), (.ref w19), .null, .null, .null, .null, .null, .null, .null, .null, .null, .null, .null] .null := V81
  have N81 := Fr.snoc X81 N77 gz_b1
  have o82 : Old Z n0 h81 := (Old.wr o78 W81 gz_b1)
  obtain ⟨T83, X83, e83, st83⟩ := getS2 X81 hx hZ hown (host := "") (Or.inl (hw _ (List.mem_of_getElem? (i := 44) rfl))) Via.refl e81 (S_ARRAY.ext o82.2) (g := (mkF m 142 #[.val (.int p1), .unset, .unset, .unset] [(.int (20 : Int32)), (.ref b1), (.ref b1)])) rfl (hb hby at_142)
  obtain ⟨c84, Ar84, cq84, S84, Nn84, Hh84, Gg84⟩ := id V81a
  have hin84 : ¬ ((20 : Int32) < 0 ∨ c84.slots.size ≤ ((20 : Int32)).toNatClampNeg) := inb_of S84 ⟨by decide, by decide⟩
  obtain ⟨T85, h85, X85, e85, W85, st85⟩ := stR X83 hx hZ e83 Ar84 (j := (20 : Int32)) hin84 rfl (Sto.ofV Ar84 cq84 Ov1 (Ins.self (Ex_ARRAY.ext o82.2))) (g := (mkF m 145 #[.val (.int p1), .unset, .unset, .unset] [(.ref w20), (.int (20 : Int32)), (.ref b1), (.ref b1)])) rfl rfl (hb hby at_145)
  have V85 := Arv.set Ar84 cq84 S84 Nn84 Hh84 Gg84 rfl W85 20 rfl (Nat.le_of_ble_eq_true rfl)
  have V85a : Arv Z h85 b1 k1 (.object "com/example/chalkline/chalkline/runtime/Opcode") (31 : Int32) [(.ref w0), (.ref w1), (.ref w2), (.ref w3), (.ref w4), (.ref w5), (.ref w6), (.ref w7), (.ref w8), (.ref w9), (.ref w10), (.ref w11), (.ref w12), (.ref w13), (.ref w14), (.ref w15), (.ref w16), (.ref w17), (.ref w18), (.ref w19), (.ref w20), .null, .null, .null, .null, .null, .null, .null, .null, .null, .null] .null := V85
  have N85 := Fr.snoc X85 N81 gz_b1
  have o86 : Old Z n0 h85 := (Old.wr o82 W85 gz_b1)
  obtain ⟨T87, X87, e87, st87⟩ := getS2 X85 hx hZ hown (host := "") (Or.inl (hw _ (List.mem_of_getElem? (i := 46) rfl))) Via.refl e85 (S_GET_ELEMENT.ext o86.2) (g := (mkF m 149 #[.val (.int p1), .unset, .unset, .unset] [(.int (21 : Int32)), (.ref b1), (.ref b1)])) rfl (hb hby at_149)
  obtain ⟨c88, Ar88, cq88, S88, Nn88, Hh88, Gg88⟩ := id V85a
  have hin88 : ¬ ((21 : Int32) < 0 ∨ c88.slots.size ≤ ((21 : Int32)).toNatClampNeg) := inb_of S88 ⟨by decide, by decide⟩
  obtain ⟨T89, h89, X89, e89, W89, st89⟩ := stR X87 hx hZ e87 Ar88 (j := (21 : Int32)) hin88 rfl (Sto.ofV Ar88 cq88 Ov1 (Ins.self (Ex_GET_ELEMENT.ext o86.2))) (g := (mkF m 152 #[.val (.int p1), .unset, .unset, .unset] [(.ref w21), (.int (21 : Int32)), (.ref b1), (.ref b1)])) rfl rfl (hb hby at_152)
  have V89 := Arv.set Ar88 cq88 S88 Nn88 Hh88 Gg88 rfl W89 21 rfl (Nat.le_of_ble_eq_true rfl)
  have V89a : Arv Z h89 b1 k1 (.object "com/example/chalkline/chalkline/runtime/Opcode") (31 : Int32) [(.ref w0), (.ref w1), (.ref w2), (.ref w3), (.ref w4), (.ref w5), (.ref w6), (.ref w7), (.ref w8), (.ref w9), (.ref w10), (.ref w11), (.ref w12), (.ref w13), (.ref w14), (.ref w15), (.ref w16), (.ref w17), (.ref w18), (.ref w19), (.ref w20), (.ref w21), .null, .null, .null, .null, .null, .null, .null, .null, .null] .null := V89
  have N89 := Fr.snoc X89 N85 gz_b1
  have o90 : Old Z n0 h89 := (Old.wr o86 W89 gz_b1)
  obtain ⟨T91, X91, e91, st91⟩ := getS2 X89 hx hZ hown (host := "") (Or.inl (hw _ (List.mem_of_getElem? (i := 48) rfl))) Via.refl e89 (S_SET_ELEMENT.ext o90.2) (g := (mkF m 156 #[.val (.int p1), .unset, .unset, .unset] [(.int (22 : Int32)), (.ref b1), (.ref b1)])) rfl (hb hby at_156)
  obtain ⟨c92, Ar92, cq92, S92, Nn92, Hh92, Gg92⟩ := id V89a
  have hin92 : ¬ ((22 : Int32) < 0 ∨ c92.slots.size ≤ ((22 : Int32)).toNatClampNeg) := inb_of S92 ⟨by decide, by decide⟩
  obtain ⟨T93, h93, X93, e93, W93, st93⟩ := stR X91 hx hZ e91 Ar92 (j := (22 : Int32)) hin92 rfl (Sto.ofV Ar92 cq92 Ov1 (Ins.self (Ex_SET_ELEMENT.ext o90.2))) (g := (mkF m 159 #[.val (.int p1), .unset, .unset, .unset] [(.ref w22), (.int (22 : Int32)), (.ref b1), (.ref b1)])) rfl rfl (hb hby at_159)
  have V93 := Arv.set Ar92 cq92 S92 Nn92 Hh92 Gg92 rfl W93 22 rfl (Nat.le_of_ble_eq_true rfl)
  have V93a : Arv Z h93 b1 k1 (.object "com/example/chalkline/chalkline/runtime/Opcode") (31 : Int32) [(.ref w0), (.ref w1), (.ref w2), (.ref w3), (.ref w4), (.ref w5), (.ref w6), (.ref w7), (.ref w8), (.ref w9), (.ref w10), (.ref w11), (.ref w12), (.ref w13), (.ref w14), (.ref w15), (.ref w16), (.ref w17), (.ref w18), (.ref w19), (.ref w20), (.ref w21), (.ref w22), .null, .null, .null, .null, .null, .null, .null, .null] .null := V93
  have N93 := Fr.snoc X93 N89 gz_b1
  have o94 : Old Z n0 h93 := (Old.wr o90 W93 gz_b1)
  obtain ⟨T95, X95, e95, st95⟩ := getS2 X93 hx hZ hown (host := "") (Or.inl (hw _ (List.mem_of_getElem? (i := 50) rfl))) Via.refl e93 (S_JUMP.ext o94.2) (g := (mkF m 163 #[.val (.int p1), .unset, .unset, .unset] [(.int (23 : Int32)), (.ref b1), (.ref b1)])) rfl (hb hby at_163)
  obtain ⟨c96, Ar96, cq96, S96, Nn96, Hh96, Gg96⟩ := id V93a
  have hin96 : ¬ ((23 : Int32) < 0 ∨ c96.slots.size ≤ ((23 : Int32)).toNatClampNeg) := inb_of S96 ⟨by decide, by decide⟩
  obtain ⟨T97, h97, X97, e97, W97, st97⟩ := stR X95 hx hZ e95 Ar96 (j := (23 : Int32)) hin96 rfl (Sto.ofV Ar96 cq96 Ov1 (Ins.self (Ex_JUMP.ext o94.2))) (g := (mkF m 166 #[.val (.int p1), .unset, .unset, .unset] [(.ref w23), (.int (23 : Int32)), (.ref b1), (.ref b1)])) rfl rfl (hb hby at_166)
  have V97 := Arv.set Ar96 cq96 S96 Nn96 Hh96 Gg96 rfl W97 23 rfl (Nat.le_of_ble_eq_true rfl)
  have V97a : Arv Z h97 b1 k1 (.object "com/example/chalkline/chalkline/runtime/Opcode") (31 : Int32) [(.ref w0), (.ref w1), (.ref w2), (.ref w3), (.ref w4), (.ref w5), (.ref w6), (.ref w7), (.ref w8), (.ref w9), (.ref w10), (.ref w11), (.ref w12), (.ref w13), (.ref w14), (.ref w15), (.ref w16), (.ref w17), (.ref w18), (.ref w19), (.ref w20), (.ref w21), (.ref w22), (.ref w23), .null, .null, .null, .null, .null, .null, .null] .null := V97
  have N97 := Fr.snoc X97 N93 gz_b1
  have o98 : Old Z n0 h97 := (Old.wr o94 W97 gz_b1)
  obtain ⟨T99, X99, e99, st99⟩ := getS2 X97 hx hZ hown (host := "") (Or.inl (hw _ (List.mem_of_getElem? (i := 52) rfl))) Via.refl e97 (S_JUMP_IF_FALSE.ext o98.2) (g := (mkF m 170 #[.val (.int p1), .unset, .unset, .unset] [(.int (24 : Int32)), (.ref b1), (.ref b1)])) rfl (hb hby at_170)
  obtain ⟨c100, Ar100, cq100, S100, Nn100, Hh100, Gg100⟩ := id V97a
  have hin100 : ¬ ((24 : Int32) < 0 ∨ c100.slots.size ≤ ((24 : Int32)).toNatClampNeg) := inb_of S100 ⟨by decide, by decide⟩
  obtain ⟨T101, h101, X101, e101, W101, st101⟩ := stR X99 hx hZ e99 Ar100 (j := (24 : Int32)) hin100 rfl (Sto.ofV Ar100 cq100 Ov1 (Ins.self (Ex_JUMP_IF_FALSE.ext o98.2))) (g := (mkF m 173 #[.val (.int p1), .unset, .unset, .unset] [(.ref w24), (.int (24 : Int32)), (.ref b1), (.ref b1)])) rfl rfl (hb hby at_173)
  have V101 := Arv.set Ar100 cq100 S100 Nn100 Hh100 Gg100 rfl W101 24 rfl (Nat.le_of_ble_eq_true rfl)
  have V101a : Arv Z h101 b1 k1 (.object "com/example/chalkline/chalkline/runtime/Opcode") (31 : Int32) [(.ref w0), (.ref w1), (.ref w2), (.ref w3), (.ref w4), (.ref w5), (.ref w6), (.ref w7), (.ref w8), (.ref w9), (.ref w10), (.ref w11), (.ref w12), (.ref w13), (.ref w14), (.ref w15), (.ref w16), (.ref w17), (.ref w18), (.ref w19), (.ref w20), (.ref w21), (.ref w22), (.ref w23), (.ref w24), .null, .null, .null, .null, .null, .null] .null := V101
  have N101 := Fr.snoc X101 N97 gz_b1
  have o102 : Old Z n0 h101 := (Old.wr o98 W101 gz_b1)
  obtain ⟨T103, X103, e103, st103⟩ := getS2 X101 hx hZ hown (host := "") (Or.inl (hw _ (List.mem_of_getElem? (i := 54) rfl))) Via.refl e101 (S_JUMP_IF_TRUE.ext o102.2) (g := (mkF m 177 #[.val (.int p1), .unset, .unset, .unset] [(.int (25 : Int32)), (.ref b1), (.ref b1)])) rfl (hb hby at_177)
  obtain ⟨c104, Ar104, cq104, S104, Nn104, Hh104, Gg104⟩ := id V101a
  have hin104 : ¬ ((25 : Int32) < 0 ∨ c104.slots.size ≤ ((25 : Int32)).toNatClampNeg) := inb_of S104 ⟨by decide, by decide⟩
  obtain ⟨T105, h105, X105, e105, W105, st105⟩ := stR X103 hx hZ e103 Ar104 (j := (25 : Int32)) hin104 rfl (Sto.ofV Ar104 cq104 Ov1 (Ins.self (Ex_JUMP_IF_TRUE.ext o102.2))) (g := (mkF m 180 #[.val (.int p1), .unset, .unset, .unset] [(.ref w25), (.int (25 : Int32)), (.ref b1), (.ref b1)])) rfl rfl (hb hby at_180)
  have V105 := Arv.set Ar104 cq104 S104 Nn104 Hh104 Gg104 rfl W105 25 rfl (Nat.le_of_ble_eq_true rfl)
  have V105a : Arv Z h105 b1 k1 (.object "com/example/chalkline/chalkline/runtime/Opcode") (31 : Int32) [(.ref w0), (.ref w1), (.ref w2), (.ref w3), (.ref w4), (.ref w5), (.ref w6), (.ref w7), (.ref w8), (.ref w9), (.ref w10), (.ref w11), (.ref w12), (.ref w13), (.ref w14), (.ref w15), (.ref w16), (.ref w17), (.ref w18), (.ref w19), (.ref w20), (.ref w21), (.ref w22), (.ref w23), (.ref w24), (.ref w25), .null, .null, .null, .null, .null] .null := V105
  have N105 := Fr.snoc X105 N101 gz_b1
  have o106 : Old Z n0 h105 := (Old.wr o102 W105 gz_b1)
  obtain ⟨T107, X107, e107, st107⟩ := getS2 X105 hx hZ hown (host := "") (Or.inl (hw _ (List.mem_of_getElem? (i := 56) rfl))) Via.refl e105 (S_FUNCTION.ext o106.2) (g := (mkF m 184 #[.val (.int p1), .unset, .unset, .unset] [(.int (26 : Int32)), (.ref b1), (.ref b1)])) rfl (hb hby at_184)
  obtain ⟨c108, Ar108, cq108, S108, Nn108, Hh108, Gg108⟩ := id V105a
  have hin108 : ¬ ((26 : Int32) < 0 ∨ c108.slots.size ≤ ((26 : Int32)).toNatClampNeg) := inb_of S108 ⟨by decide, by decide⟩
  obtain ⟨T109, h109, X109, e109, W109, st109⟩ := stR X107 hx hZ e107 Ar108 (j := (26 : Int32)) hin108 rfl (Sto.ofV Ar108 cq108 Ov1 (Ins.self (Ex_FUNCTION.ext o106.2))) (g := (mkF m 187 #[.val (.int p1), .unset, .unset, .unset] [(.ref w26), (.int (26 : Int32)), (.ref b1), (.ref b1)])) rfl rfl (hb hby at_187)
  have V109 := Arv.set Ar108 cq108 S108 Nn108 Hh108 Gg108 rfl W109 26 rfl (Nat.le_of_ble_eq_true rfl)
  have V109a : Arv Z h109 b1 k1 (.object "com/example/chalkline/chalkline/runtime/Opcode") (31 : Int32) [(.ref w0), (.ref w1), (.ref w2), (.ref w3), (.ref w4), (.ref w5), (.ref w6), (.ref w7), (.ref w8), (.ref w9), (.ref w10), (.ref w11), (.ref w12), (.ref w13), (.ref w14), (.ref w15), (.ref w16), (.ref w17), (.ref w18), (.ref w19), (.ref w20), (.ref w21), (.ref w22), (.ref w23), (.ref w24), (.ref w25), (.ref w26), .null, .null, .null, .null] .null := V109
  have N109 := Fr.snoc X109 N105 gz_b1
  have o110 : Old Z n0 h109 := (Old.wr o106 W109 gz_b1)
  obtain ⟨T111, X111, e111, st111⟩ := getS2 X109 hx hZ hown (host := "") (Or.inl (hw _ (List.mem_of_getElem? (i := 58) rfl))) Via.refl e109 (S_CALL.ext o110.2) (g := (mkF m 191 #[.val (.int p1), .unset, .unset, .unset] [(.int (27 : Int32)), (.ref b1), (.ref b1)])) rfl (hb hby at_191)
  obtain ⟨c112, Ar112, cq112, S112, Nn112, Hh112, Gg112⟩ := id V109a
  have hin112 : ¬ ((27 : Int32) < 0 ∨ c112.slots.size ≤ ((27 : Int32)).toNatClampNeg) := inb_of S112 ⟨by decide, by decide⟩
  obtain ⟨T113, h113, X113, e113, W113, st113⟩ := stR X111 hx hZ e111 Ar112 (j := (27 : Int32)) hin112 rfl (Sto.ofV Ar112 cq112 Ov1 (Ins.self (Ex_CALL.ext o110.2))) (g := (mkF m 194 #[.val (.int p1), .unset, .unset, .unset] [(.ref w27), (.int (27 : Int32)), (.ref b1), (.ref b1)])) rfl rfl (hb hby at_194)
  have V113 := Arv.set Ar112 cq112 S112 Nn112 Hh112 Gg112 rfl W113 27 rfl (Nat.le_of_ble_eq_true rfl)
  have V113a : Arv Z h113 b1 k1 (.object "com/example/chalkline/chalkline/runtime/Opcode") (31 : Int32) [(.ref w0), (.ref w1), (.ref w2), (.ref w3), (.ref w4), (.ref w5), (.ref w6), (.ref w7), (.ref w8), (.ref w9), (.ref w10), (.ref w11), (.ref w12), (.ref w13), (.ref w14), (.ref w15), (.ref w16), (.ref w17), (.ref w18), (.ref w19), (.ref w20), (.ref w21), (.ref w22), (.ref w23), (.ref w24), (.ref w25), (.ref w26), (.ref w27), .null, .null, .null] .null := V113
  have N113 := Fr.snoc X113 N109 gz_b1
  have o114 : Old Z n0 h113 := (Old.wr o110 W113 gz_b1)
  obtain ⟨T115, X115, e115, st115⟩ := getS2 X113 hx hZ hown (host := "") (Or.inl (hw _ (List.mem_of_getElem? (i := 60) rfl))) Via.refl e113 (S_RETURN.ext o114.2) (g := (mkF m 198 #[.val (.int p1), .unset, .unset, .unset] [(.int (28 : Int32)), (.ref b1), (.ref b1)])) rfl (hb hby at_198)
  obtain ⟨c116, Ar116, cq116, S116, Nn116, Hh116, Gg116⟩ := id V113a
  have hin116 : ¬ ((28 : Int32) < 0 ∨ c116.slots.size ≤ ((28 : Int32)).toNatClampNeg) := inb_of S116 ⟨by decide, by decide⟩
  obtain ⟨T117, h117, X117, e117, W117, st117⟩ := stR X115 hx hZ e115 Ar116 (j := (28 : Int32)) hin116 rfl (Sto.ofV Ar116 cq116 Ov1 (Ins.self (Ex_RETURN.ext o114.2))) (g := (mkF m 201 #[.val (.int p1), .unset, .unset, .unset] [(.ref w28), (.int (28 : Int32)), (.ref b1), (.ref b1)])) rfl rfl (hb hby at_201)
  have V117 := Arv.set Ar116 cq116 S116 Nn116 Hh116 Gg116 rfl W117 28 rfl (Nat.le_of_ble_eq_true rfl)
  have V117a : Arv Z h117 b1 k1 (.object "com/example/chalkline/chalkline/runtime/Opcode") (31 : Int32) [(.ref w0), (.ref w1), (.ref w2), (.ref w3), (.ref w4), (.ref w5), (.ref w6), (.ref w7), (.ref w8), (.ref w9), (.ref w10), (.ref w11), (.ref w12), (.ref w13), (.ref w14), (.ref w15), (.ref w16), (.ref w17), (.ref w18), (.ref w19), (.ref w20), (.ref w21), (.ref w22), (.ref w23), (.ref w24), (.ref w25), (.ref w26), (.ref w27), (.ref w28), .null, .null] .null := V117
  have N117 := Fr.snoc X117 N113 gz_b1
  have o118 : Old Z n0 h117 := (Old.wr o114 W117 gz_b1)
  obtain ⟨T119, X119, e119, st119⟩ := getS2 X117 hx hZ hown (host := "") (Or.inl (hw _ (List.mem_of_getElem? (i := 62) rfl))) Via.refl e117 (S_PRINT.ext o118.2) (g := (mkF m 205 #[.val (.int p1), .unset, .unset, .unset] [(.int (29 : Int32)), (.ref b1), (.ref b1)])) rfl (hb hby at_205)
  obtain ⟨c120, Ar120, cq120, S120, Nn120, Hh120, Gg120⟩ := id V117a
  have hin120 : ¬ ((29 : Int32) < 0 ∨ c120.slots.size ≤ ((29 : Int32)).toNatClampNeg) := inb_of S120 ⟨by decide, by decide⟩
  obtain ⟨T121, h121, X121, e121, W121, st121⟩ := stR X119 hx hZ e119 Ar120 (j := (29 : Int32)) hin120 rfl (Sto.ofV Ar120 cq120 Ov1 (Ins.self (Ex_PRINT.ext o118.2))) (g := (mkF m 208 #[.val (.int p1), .unset, .unset, .unset] [(.ref w29), (.int (29 : Int32)), (.ref b1), (.ref b1)])) rfl rfl (hb hby at_208)
  have V121 := Arv.set Ar120 cq120 S120 Nn120 Hh120 Gg120 rfl W121 29 rfl (Nat.le_of_ble_eq_true rfl)
  have V121a : Arv Z h121 b1 k1 (.object "com/example/chalkline/chalkline/runtime/Opcode") (31 : Int32) [(.ref w0), (.ref w1), (.ref w2), (.ref w3), (.ref w4), (.ref w5), (.ref w6), (.ref w7), (.ref w8), (.ref w9), (.ref w10), (.ref w11), (.ref w12), (.ref w13), (.ref w14), (.ref w15), (.ref w16), (.ref w17), (.ref w18), (.ref w19), (.ref w20), (.ref w21), (.ref w22), (.ref w23), (.ref w24), (.ref w25), (.ref w26), (.ref w27), (.ref w28), (.ref w29), .null] .null := V121
  have N121 := Fr.snoc X121 N117 gz_b1
  have o122 : Old Z n0 h121 := (Old.wr o118 W121 gz_b1)
  obtain ⟨T123, X123, e123, st123⟩ := getS2 X121 hx hZ hown (host := "") (Or.inl (hw _ (List.mem_of_getElem? (i := 64) rfl))) Via.refl e121 (S_HALT.ext o122.2) (g := (mkF m 212 #[.val (.int p1), .unset, .unset, .unset] [(.int (30 : Int32)), (.ref b1), (.ref b1)])) rfl (hb hby at_212)
  obtain ⟨c124, Ar124, cq124, S124, Nn124, Hh124, Gg124⟩ := id V121a
  have hin124 : ¬ ((30 : Int32) < 0 ∨ c124.slots.size ≤ ((30 : Int32)).toNatClampNeg) := inb_of S124 ⟨by decide, by decide⟩
  obtain ⟨T125, h125, X125, e125, W125, st125⟩ := stR X123 hx hZ e123 Ar124 (j := (30 : Int32)) hin124 rfl (Sto.ofV Ar124 cq124 Ov1 (Ins.self (Ex_HALT.ext o122.2))) (g := (mkF m 215 #[.val (.int p1), .unset, .unset, .unset] [(.ref w30), (.int (30 : Int32)), (.ref b1), (.ref b1)])) rfl rfl (hb hby at_215)
  have V125 := Arv.set Ar124 cq124 S124 Nn124 Hh124 Gg124 rfl W125 30 rfl (Nat.le_of_ble_eq_true rfl)
  have V125a : Arv Z h125 b1 k1 (.object "com/example/chalkline/chalkline/runtime/Opcode") (31 : Int32) [(.ref w0), (.ref w1), (.ref w2), (.ref w3), (.ref w4), (.ref w5), (.ref w6), (.ref w7), (.ref w8), (.ref w9), (.ref w10), (.ref w11), (.ref w12), (.ref w13), (.ref w14), (.ref w15), (.ref w16), (.ref w17), (.ref w18), (.ref w19), (.ref w20), (.ref w21), (.ref w22), (.ref w23), (.ref w24), (.ref w25), (.ref w26), (.ref w27), (.ref w28), (.ref w29), (.ref w30)] .null := V125
  have N125 := Fr.snoc X125 N121 gz_b1
  obtain ⟨ix, hv_ix⟩ : ∃ z : Int32, z = ((p1 &&& (2147483647 : Int32)) % (31 : Int32)) := ⟨_, rfl⟩
  have g126 : ∀ t, Steps p.tables e below (T125.setTop (mkF m 224 #[.val (.int p1), .val (.ref b1), .unset, .unset] [(.int ix)])) t → Steps p.tables e below (s₁.setTop (entryFrame m #[(.int p1)] maxLocals)) t := by
    intro t k
    rw [hv_ix] at k
    refine g0 t ?_
    show Steps p.tables e below (s₁.setTop (mkF m 0 #[.val (.int p1), .unset, .unset, .unset] [])) _
    refine XS.bipush X0.here hx rfl (hb hby at_0) ?_
    show Steps p.tables e below (s₁.setTop (mkF m 2 #[.val (.int p1), .unset, .unset, .unset] [(.int (31 : Int32))])) _
    refine st1 _ ?_
    show Steps p.tables e below (T1.setTop (mkF m 5 #[.val (.int p1), .unset, .unset, .unset] [(.ref b1)])) _
    refine XS.dup X1.here hx rfl (hb hby at_5) rfl rfl ?_
    show Steps p.tables e below (T1.setTop (mkF m 6 #[.val (.int p1), .unset, .unset, .unset] [(.ref b1), (.ref b1)])) _
    refine XS.iconst X1.here hx rfl (hb hby at_6) ?_
    show Steps p.tables e below (T1.setTop (mkF m 7 #[.val (.int p1), .unset, .unset, .unset] [(.int (0 : Int32)), (.ref b1), (.ref b1)])) _
    refine st3 _ ?_
    show Steps p.tables e below (T3.setTop (mkF m 10 #[.val (.int p1), .unset, .unset, .unset] [(.ref w0), (.int (0 : Int32)), (.ref b1), (.ref b1)])) _
    refine st5 _ ?_
    show Steps p.tables e below (T5.setTop (mkF m 11 #[.val (.int p1), .unset, .unset, .unset] [(.ref b1)])) _
    refine XS.dup X5.here hx rfl (hb hby at_11) rfl rfl ?_
    show Steps p.tables e below (T5.setTop (mkF m 12 #[.val (.int p1), .unset, .unset, .unset] [(.ref b1), (.ref b1)])) _
    refine XS.iconst X5.here hx rfl (hb hby at_12) ?_
    show Steps p.tables e below (T5.setTop (mkF m 13 #[.val (.int p1), .unset, .unset, .unset] [(.int (1 : Int32)), (.ref b1), (.ref b1)])) _
    refine st7 _ ?_
    show Steps p.tables e below (T7.setTop (mkF m 16 #[.val (.int p1), .unset, .unset, .unset] [(.ref w1), (.int (1 : Int32)), (.ref b1), (.ref b1)])) _
    refine st9 _ ?_
    show Steps p.tables e below (T9.setTop (mkF m 17 #[.val (.int p1), .unset, .unset, .unset] [(.ref b1)])) _
    refine XS.dup X9.here hx rfl (hb hby at_17) rfl rfl ?_
    show Steps p.tables e below (T9.setTop (mkF m 18 #[.val (.int p1), .unset, .unset, .unset] [(.ref b1), (.ref b1)])) _
    refine XS.iconst X9.here hx rfl (hb hby at_18) ?_
    show Steps p.tables e below (T9.setTop (mkF m 19 #[.val (.int p1), .unset, .unset, .unset] [(.int (2 : Int32)), (.ref b1), (.ref b1)])) _
    refine st11 _ ?_
    show Steps p.tables e below (T11.setTop (mkF m 22 #[.val (.int p1), .unset, .unset, .unset] [(.ref w2), (.int (2 : Int32)), (.ref b1), (.ref b1)])) _
    refine st13 _ ?_
    show Steps p.tables e below (T13.setTop (mkF m 23 #[.val (.int p1), .unset, .unset, .unset] [(.ref b1)])) _
    refine XS.dup X13.here hx rfl (hb hby at_23) rfl rfl ?_
    show Steps p.tables e below (T13.setTop (mkF m 24 #[.val (.int p1), .unset, .unset, .unset] [(.ref b1), (.ref b1)])) _
    refine XS.iconst X13.here hx rfl (hb hby at_24) ?_
    show Steps p.tables e below (T13.setTop (mkF m 25 #[.val (.int p1), .unset, .unset, .unset] [(.int (3 : Int32)), (.ref b1), (.ref b1)])) _
    refine st15 _ ?_
    show Steps p.tables e below (T15.setTop (mkF m 28 #[.val (.int p1), .unset, .unset, .unset] [(.ref w3), (.int (3 : Int32)), (.ref b1), (.ref b1)])) _
    refine st17 _ ?_
    show Steps p.tables e below (T17.setTop (mkF m 29 #[.val (.int p1), .unset, .unset, .unset] [(.ref b1)])) _
    refine XS.dup X17.here hx rfl (hb hby at_29) rfl rfl ?_
    show Steps p.tables e below (T17.setTop (mkF m 30 #[.val (.int p1), .unset, .unset, .unset] [(.ref b1), (.ref b1)])) _
    refine XS.iconst X17.here hx rfl (hb hby at_30) ?_
    show Steps p.tables e below (T17.setTop (mkF m 31 #[.val (.int p1), .unset, .unset, .unset] [(.int (4 : Int32)), (.ref b1), (.ref b1)])) _
    refine st19 _ ?_
    show Steps p.tables e below (T19.setTop (mkF m 34 #[.val (.int p1), .unset, .unset, .unset] [(.ref w4), (.int (4 : Int32)), (.ref b1), (.ref b1)])) _
    refine st21 _ ?_
    show Steps p.tables e below (T21.setTop (mkF m 35 #[.val (.int p1), .unset, .unset, .unset] [(.ref b1)])) _
    refine XS.dup X21.here hx rfl (hb hby at_35) rfl rfl ?_
    show Steps p.tables e below (T21.setTop (mkF m 36 #[.val (.int p1), .unset, .unset, .unset] [(.ref b1), (.ref b1)])) _
    refine XS.iconst X21.here hx rfl (hb hby at_36) ?_
    show Steps p.tables e below (T21.setTop (mkF m 37 #[.val (.int p1), .unset, .unset, .unset] [(.int (5 : Int32)), (.ref b1), (.ref b1)])) _
    refine st23 _ ?_
    show Steps p.tables e below (T23.setTop (mkF m 40 #[.val (.int p1), .unset, .unset, .unset] [(.ref w5), (.int (5 : Int32)), (.ref b1), (.ref b1)])) _
    refine st25 _ ?_
    show Steps p.tables e below (T25.setTop (mkF m 41 #[.val (.int p1), .unset, .unset, .unset] [(.ref b1)])) _
    refine XS.dup X25.here hx rfl (hb hby at_41) rfl rfl ?_
    show Steps p.tables e below (T25.setTop (mkF m 42 #[.val (.int p1), .unset, .unset, .unset] [(.ref b1), (.ref b1)])) _
    refine XS.bipush X25.here hx rfl (hb hby at_42) ?_
    show Steps p.tables e below (T25.setTop (mkF m 44 #[.val (.int p1), .unset, .unset, .unset] [(.int (6 : Int32)), (.ref b1), (.ref b1)])) _
    refine st27 _ ?_
    show Steps p.tables e below (T27.setTop (mkF m 47 #[.val (.int p1), .unset, .unset, .unset] [(.ref w6), (.int (6 : Int32)), (.ref b1), (.ref b1)])) _
    refine st29 _ ?_
    show Steps p.tables e below (T29.setTop (mkF m 48 #[.val (.int p1), .unset, .unset, .unset] [(.ref b1)])) _
    refine XS.dup X29.here hx rfl (hb hby at_48) rfl rfl ?_
    show Steps p.tables e below (T29.setTop (mkF m 49 #[.val (.int p1), .unset, .unset, .unset] [(.ref b1), (.ref b1)])) _
    refine XS.bipush X29.here hx rfl (hb hby at_49) ?_
    show Steps p.tables e below (T29.setTop (mkF m 51 #[.val (.int p1), .unset, .unset, .unset] [(.int (7 : Int32)), (.ref b1), (.ref b1)])) _
    refine st31 _ ?_
    show Steps p.tables e below (T31.setTop (mkF m 54 #[.val (.int p1), .unset, .unset, .unset] [(.ref w7), (.int (7 : Int32)), (.ref b1), (.ref b1)])) _
    refine st33 _ ?_
    show Steps p.tables e below (T33.setTop (mkF m 55 #[.val (.int p1), .unset, .unset, .unset] [(.ref b1)])) _
    refine XS.dup X33.here hx rfl (hb hby at_55) rfl rfl ?_
    show Steps p.tables e below (T33.setTop (mkF m 56 #[.val (.int p1), .unset, .unset, .unset] [(.ref b1), (.ref b1)])) _
    refine XS.bipush X33.here hx rfl (hb hby at_56) ?_
    show Steps p.tables e below (T33.setTop (mkF m 58 #[.val (.int p1), .unset, .unset, .unset] [(.int (8 : Int32)), (.ref b1), (.ref b1)])) _
    refine st35 _ ?_
    show Steps p.tables e below (T35.setTop (mkF m 61 #[.val (.int p1), .unset, .unset, .unset] [(.ref w8), (.int (8 : Int32)), (.ref b1), (.ref b1)])) _
    refine st37 _ ?_
    show Steps p.tables e below (T37.setTop (mkF m 62 #[.val (.int p1), .unset, .unset, .unset] [(.ref b1)])) _
    refine XS.dup X37.here hx rfl (hb hby at_62) rfl rfl ?_
    show Steps p.tables e below (T37.setTop (mkF m 63 #[.val (.int p1), .unset, .unset, .unset] [(.ref b1), (.ref b1)])) _
    refine XS.bipush X37.here hx rfl (hb hby at_63) ?_
    show Steps p.tables e below (T37.setTop (mkF m 65 #[.val (.int p1), .unset, .unset, .unset] [(.int (9 : Int32)), (.ref b1), (.ref b1)])) _
    refine st39 _ ?_
    show Steps p.tables e below (T39.setTop (mkF m 68 #[.val (.int p1), .unset, .unset, .unset] [(.ref w9), (.int (9 : Int32)), (.ref b1), (.ref b1)])) _
    refine st41 _ ?_
    show Steps p.tables e below (T41.setTop (mkF m 69 #[.val (.int p1), .unset, .unset, .unset] [(.ref b1)])) _
    refine XS.dup X41.here hx rfl (hb hby at_69) rfl rfl ?_
    show Steps p.tables e below (T41.setTop (mkF m 70 #[.val (.int p1), .unset, .unset, .unset] [(.ref b1), (.ref b1)])) _
    refine XS.bipush X41.here hx rfl (hb hby at_70) ?_
    show Steps p.tables e below (T41.setTop (mkF m 72 #[.val (.int p1), .unset, .unset, .unset] [(.int (10 : Int32)), (.ref b1), (.ref b1)])) _
    refine st43 _ ?_
    show Steps p.tables e below (T43.setTop (mkF m 75 #[.val (.int p1), .unset, .unset, .unset] [(.ref w10), (.int (10 : Int32)), (.ref b1), (.ref b1)])) _
    refine st45 _ ?_
    show Steps p.tables e below (T45.setTop (mkF m 76 #[.val (.int p1), .unset, .unset, .unset] [(.ref b1)])) _
    refine XS.dup X45.here hx rfl (hb hby at_76) rfl rfl ?_
    show Steps p.tables e below (T45.setTop (mkF m 77 #[.val (.int p1), .unset, .unset, .unset] [(.ref b1), (.ref b1)])) _
    refine XS.bipush X45.here hx rfl (hb hby at_77) ?_
    show Steps p.tables e below (T45.setTop (mkF m 79 #[.val (.int p1), .unset, .unset, .unset] [(.int (11 : Int32)), (.ref b1), (.ref b1)])) _
    refine st47 _ ?_
    show Steps p.tables e below (T47.setTop (mkF m 82 #[.val (.int p1), .unset, .unset, .unset] [(.ref w11), (.int (11 : Int32)), (.ref b1), (.ref b1)])) _
    refine st49 _ ?_
    show Steps p.tables e below (T49.setTop (mkF m 83 #[.val (.int p1), .unset, .unset, .unset] [(.ref b1)])) _
    refine XS.dup X49.here hx rfl (hb hby at_83) rfl rfl ?_
    show Steps p.tables e below (T49.setTop (mkF m 84 #[.val (.int p1), .unset, .unset, .unset] [(.ref b1), (.ref b1)])) _
    refine XS.bipush X49.here hx rfl (hb hby at_84) ?_
    show Steps p.tables e below (T49.setTop (mkF m 86 #[.val (.int p1), .unset, .unset, .unset] [(.int (12 : Int32)), (.ref b1), (.ref b1)])) _
    refine st51 _ ?_
    show Steps p.tables e below (T51.setTop (mkF m 89 #[.val (.int p1), .unset, .unset, .unset] [(.ref w12), (.int (12 : Int32)), (.ref b1), (.ref b1)])) _
    refine st53 _ ?_
    show Steps p.tables e below (T53.setTop (mkF m 90 #[.val (.int p1), .unset, .unset, .unset] [(.ref b1)])) _
    refine XS.dup X53.here hx rfl (hb hby at_90) rfl rfl ?_
    show Steps p.tables e below (T53.setTop (mkF m 91 #[.val (.int p1), .unset, .unset, .unset] [(.ref b1), (.ref b1)])) _
    refine XS.bipush X53.here hx rfl (hb hby at_91) ?_
    show Steps p.tables e below (T53.setTop (mkF m 93 #[.val (.int p1), .unset, .unset, .unset] [(.int (13 : Int32)), (.ref b1), (.ref b1)])) _
    refine st55 _ ?_
    show Steps p.tables e below (T55.setTop (mkF m 96 #[.val (.int p1), .unset, .unset, .unset] [(.ref w13), (.int (13 : Int32)), (.ref b1), (.ref b1)])) _
    refine st57 _ ?_
    show Steps p.tables e below (T57.setTop (mkF m 97 #[.val (.int p1), .unset, .unset, .unset] [(.ref b1)])) _
    refine XS.dup X57.here hx rfl (hb hby at_97) rfl rfl ?_
    show Steps p.tables e below (T57.setTop (mkF m 98 #[.val (.int p1), .unset, .unset, .unset] [(.ref b1), (.ref b1)])) _
    refine XS.bipush X57.here hx rfl (hb hby at_98) ?_
    show Steps p.tables e below (T57.setTop (mkF m 100 #[.val (.int p1), .unset, .unset, .unset] [(.int (14 : Int32)), (.ref b1), (.ref b1)])) _
    refine st59 _ ?_
    show Steps p.tables e below (T59.setTop (mkF m 103 #[.val (.int p1), .unset, .unset, .unset] [(.ref w14), (.int (14 : Int32)), (.ref b1), (.ref b1)])) _
    refine st61 _ ?_
    show Steps p.tables e below (T61.setTop (mkF m 104 #[.val (.int p1), .unset, .unset, .unset] [(.ref b1)])) _
    refine XS.dup X61.here hx rfl (hb hby at_104) rfl rfl ?_
    show Steps p.tables e below (T61.setTop (mkF m 105 #[.val (.int p1), .unset, .unset, .unset] [(.ref b1), (.ref b1)])) _
    refine XS.bipush X61.here hx rfl (hb hby at_105) ?_
    show Steps p.tables e below (T61.setTop (mkF m 107 #[.val (.int p1), .unset, .unset, .unset] [(.int (15 : Int32)), (.ref b1), (.ref b1)])) _
    refine st63 _ ?_
    show Steps p.tables e below (T63.setTop (mkF m 110 #[.val (.int p1), .unset, .unset, .unset] [(.ref w15), (.int (15 : Int32)), (.ref b1), (.ref b1)])) _
    refine st65 _ ?_
    show Steps p.tables e below (T65.setTop (mkF m 111 #[.val (.int p1), .unset, .unset, .unset] [(.ref b1)])) _
    refine XS.dup X65.here hx rfl (hb hby at_111) rfl rfl ?_
    show Steps p.tables e below (T65.setTop (mkF m 112 #[.val (.int p1), .unset, .unset, .unset] [(.ref b1), (.ref b1)])) _
    refine XS.bipush X65.here hx rfl (hb hby at_112) ?_
    show Steps p.tables e below (T65.setTop (mkF m 114 #[.val (.int p1), .unset, .unset, .unset] [(.int (16 : Int32)), (.ref b1), (.ref b1)])) _
    refine st67 _ ?_
    show Steps p.tables e below (T67.setTop (mkF m 117 #[.val (.int p1), .unset, .unset, .unset] [(.ref w16), (.int (16 : Int32)), (.ref b1), (.ref b1)])) _
    refine st69 _ ?_
    show Steps p.tables e below (T69.setTop (mkF m 118 #[.val (.int p1), .unset, .unset, .unset] [(.ref b1)])) _
    refine XS.dup X69.here hx rfl (hb hby at_118) rfl rfl ?_
    show Steps p.tables e below (T69.setTop (mkF m 119 #[.val (.int p1), .unset, .unset, .unset] [(.ref b1), (.ref b1)])) _
    refine XS.bipush X69.here hx rfl (hb hby at_119) ?_
    show Steps p.tables e below (T69.setTop (mkF m 121 #[.val (.int p1), .unset, .unset, .unset] [(.int (17 : Int32)), (.ref b1), (.ref b1)])) _
    refine st71 _ ?_
    show Steps p.tables e below (T71.setTop (mkF m 124 #[.val (.int p1), .unset, .unset, .unset] [(.ref w17), (.int (17 : Int32)), (.ref b1), (.ref b1)])) _
    refine st73 _ ?_
    show Steps p.tables e below (T73.setTop (mkF m 125 #[.val (.int p1), .unset, .unset, .unset] [(.ref b1)])) _
    refine XS.dup X73.here hx rfl (hb hby at_125) rfl rfl ?_
    show Steps p.tables e below (T73.setTop (mkF m 126 #[.val (.int p1), .unset, .unset, .unset] [(.ref b1), (.ref b1)])) _
    refine XS.bipush X73.here hx rfl (hb hby at_126) ?_
    show Steps p.tables e below (T73.setTop (mkF m 128 #[.val (.int p1), .unset, .unset, .unset] [(.int (18 : Int32)), (.ref b1), (.ref b1)])) _
    refine st75 _ ?_
    show Steps p.tables e below (T75.setTop (mkF m 131 #[.val (.int p1), .unset, .unset, .unset] [(.ref w18), (.int (18 : Int32)), (.ref b1), (.ref b1)])) _
    refine st77 _ ?_
    show Steps p.tables e below (T77.setTop (mkF m 132 #[.val (.int p1), .unset, .unset, .unset] [(.ref b1)])) _
    refine XS.dup X77.here hx rfl (hb hby at_132) rfl rfl ?_
    show Steps p.tables e below (T77.setTop (mkF m 133 #[.val (.int p1), .unset, .unset, .unset] [(.ref b1), (.ref b1)])) _
    refine XS.bipush X77.here hx rfl (hb hby at_133) ?_
    show Steps p.tables e below (T77.setTop (mkF m 135 #[.val (.int p1), .unset, .unset, .unset] [(.int (19 : Int32)), (.ref b1), (.ref b1)])) _
    refine st79 _ ?_
    show Steps p.tables e below (T79.setTop (mkF m 138 #[.val (.int p1), .unset, .unset, .unset] [(.ref w19), (.int (19 : Int32)), (.ref b1), (.ref b1)])) _
    refine st81 _ ?_
    show Steps p.tables e below (T81.setTop (mkF m 139 #[.val (.int p1), .unset, .unset, .unset] [(.ref b1)])) _
    refine XS.dup X81.here hx rfl (hb hby at_139) rfl rfl ?_
    show Steps p.tables e below (T81.setTop (mkF m 140 #[.val (.int p1), .unset, .unset, .unset] [(.ref b1), (.ref b1)])) _
    refine XS.bipush X81.here hx rfl (hb hby at_140) ?_
    show Steps p.tables e below (T81.setTop (mkF m 142 #[.val (.int p1), .unset, .unset, .unset] [(.int (20 : Int32)), (.ref b1), (.ref b1)])) _
    refine st83 _ ?_
    show Steps p.tables e below (T83.setTop (mkF m 145 #[.val (.int p1), .unset, .unset, .unset] [(.ref w20), (.int (20 : Int32)), (.ref b1), (.ref b1)])) _
    refine st85 _ ?_
    show Steps p.tables e below (T85.setTop (mkF m 146 #[.val (.int p1), .unset, .unset, .unset] [(.ref b1)])) _
    refine XS.dup X85.here hx rfl (hb hby at_146) rfl rfl ?_
    show Steps p.tables e below (T85.setTop (mkF m 147 #[.val (.int p1), .unset, .unset, .unset] [(.ref b1), (.ref b1)])) _
    refine XS.bipush X85.here hx rfl (hb hby at_147) ?_
    show Steps p.tables e below (T85.setTop (mkF m 149 #[.val (.int p1), .unset, .unset, .unset] [(.int (21 : Int32)), (.ref b1), (.ref b1)])) _
    refine st87 _ ?_
    show Steps p.tables e below (T87.setTop (mkF m 152 #[.val (.int p1), .unset, .unset, .unset] [(.ref w21), (.int (21 : Int32)), (.ref b1), (.ref b1)])) _
    refine st89 _ ?_
    show Steps p.tables e below (T89.setTop (mkF m 153 #[.val (.int p1), .unset, .unset, .unset] [(.ref b1)])) _
    refine XS.dup X89.here hx rfl (hb hby at_153) rfl rfl ?_
    show Steps p.tables e below (T89.setTop (mkF m 154 #[.val (.int p1), .unset, .unset, .unset] [(.ref b1), (.ref b1)])) _
    refine XS.bipush X89.here hx rfl (hb hby at_154) ?_
    show Steps p.tables e below (T89.setTop (mkF m 156 #[.val (.int p1), .unset, .unset, .unset] [(.int (22 : Int32)), (.ref b1), (.ref b1)])) _
    refine st91 _ ?_
    show Steps p.tables e below (T91.setTop (mkF m 159 #[.val (.int p1), .unset, .unset, .unset] [(.ref w22), (.int (22 : Int32)), (.ref b1), (.ref b1)])) _
    refine st93 _ ?_
    show Steps p.tables e below (T93.setTop (mkF m 160 #[.val (.int p1), .unset, .unset, .unset] [(.ref b1)])) _
    refine XS.dup X93.here hx rfl (hb hby at_160) rfl rfl ?_
    show Steps p.tables e below (T93.setTop (mkF m 161 #[.val (.int p1), .unset, .unset, .unset] [(.ref b1), (.ref b1)])) _
    refine XS.bipush X93.here hx rfl (hb hby at_161) ?_
    show Steps p.tables e below (T93.setTop (mkF m 163 #[.val (.int p1), .unset, .unset, .unset] [(.int (23 : Int32)), (.ref b1), (.ref b1)])) _
    refine st95 _ ?_
    show Steps p.tables e below (T95.setTop (mkF m 166 #[.val (.int p1), .unset, .unset, .unset] [(.ref w23), (.int (23 : Int32)), (.ref b1), (.ref b1)])) _
    refine st97 _ ?_
    show Steps p.tables e below (T97.setTop (mkF m 167 #[.val (.int p1), .unset, .unset, .unset] [(.ref b1)])) _
    refine XS.dup X97.here hx rfl (hb hby at_167) rfl rfl ?_
    show Steps p.tables e below (T97.setTop (mkF m 168 #[.val (.int p1), .unset, .unset, .unset] [(.ref b1), (.ref b1)])) _
    refine XS.bipush X97.here hx rfl (hb hby at_168) ?_
    show Steps p.tables e below (T97.setTop (mkF m 170 #[.val (.int p1), .unset, .unset, .unset] [(.int (24 : Int32)), (.ref b1), (.ref b1)])) _
    refine st99 _ ?_
    show Steps p.tables e below (T99.setTop (mkF m 173 #[.val (.int p1), .unset, .unset, .unset] [(.ref w24), (.int (24 : Int32)), (.ref b1), (.ref b1)])) _
    refine st101 _ ?_
    show Steps p.tables e below (T101.setTop (mkF m 174 #[.val (.int p1), .unset, .unset, .unset] [(.ref b1)])) _
    refine XS.dup X101.here hx rfl (hb hby at_174) rfl rfl ?_
    show Steps p.tables e below (T101.setTop (mkF m 175 #[.val (.int p1), .unset, .unset, .unset] [(.ref b1), (.ref b1)])) _
    refine XS.bipush X101.here hx rfl (hb hby at_175) ?_
    show Steps p.tables e below (T101.setTop (mkF m 177 #[.val (.int p1), .unset, .unset, .unset] [(.int (25 : Int32)), (.ref b1), (.ref b1)])) _
    refine st103 _ ?_
    show Steps p.tables e below (T103.setTop (mkF m 180 #[.val (.int p1), .unset, .unset, .unset] [(.ref w25), (.int (25 : Int32)), (.ref b1), (.ref b1)])) _
    refine st105 _ ?_
    show Steps p.tables e below (T105.setTop (mkF m 181 #[.val (.int p1), .unset, .unset, .unset] [(.ref b1)])) _
    refine XS.dup X105.here hx rfl (hb hby at_181) rfl rfl ?_
    show Steps p.tables e below (T105.setTop (mkF m 182 #[.val (.int p1), .unset, .unset, .unset] [(.ref b1), (.ref b1)])) _
    refine XS.bipush X105.here hx rfl (hb hby at_182) ?_
    show Steps p.tables e below (T105.setTop (mkF m 184 #[.val (.int p1), .unset, .unset, .unset] [(.int (26 : Int32)), (.ref b1), (.ref b1)])) _
    refine st107 _ ?_
    show Steps p.tables e below (T107.setTop (mkF m 187 #[.val (.int p1), .unset, .unset, .unset] [(.ref w26), (.int (26 : Int32)), (.ref b1), (.ref b1)])) _
    refine st109 _ ?_
    show Steps p.tables e below (T109.setTop (mkF m 188 #[.val (.int p1), .unset, .unset, .unset] [(.ref b1)])) _
    refine XS.dup X109.here hx rfl (hb hby at_188) rfl rfl ?_
    show Steps p.tables e below (T109.setTop (mkF m 189 #[.val (.int p1), .unset, .unset, .unset] [(.ref b1), (.ref b1)])) _
    refine XS.bipush X109.here hx rfl (hb hby at_189) ?_
    show Steps p.tables e below (T109.setTop (mkF m 191 #[.val (.int p1), .unset, .unset, .unset] [(.int (27 : Int32)), (.ref b1), (.ref b1)])) _
    refine st111 _ ?_
    show Steps p.tables e below (T111.setTop (mkF m 194 #[.val (.int p1), .unset, .unset, .unset] [(.ref w27), (.int (27 : Int32)), (.ref b1), (.ref b1)])) _
    refine st113 _ ?_
    show Steps p.tables e below (T113.setTop (mkF m 195 #[.val (.int p1), .unset, .unset, .unset] [(.ref b1)])) _
    refine XS.dup X113.here hx rfl (hb hby at_195) rfl rfl ?_
    show Steps p.tables e below (T113.setTop (mkF m 196 #[.val (.int p1), .unset, .unset, .unset] [(.ref b1), (.ref b1)])) _
    refine XS.bipush X113.here hx rfl (hb hby at_196) ?_
    show Steps p.tables e below (T113.setTop (mkF m 198 #[.val (.int p1), .unset, .unset, .unset] [(.int (28 : Int32)), (.ref b1), (.ref b1)])) _
    refine st115 _ ?_
    show Steps p.tables e below (T115.setTop (mkF m 201 #[.val (.int p1), .unset, .unset, .unset] [(.ref w28), (.int (28 : Int32)), (.ref b1), (.ref b1)])) _
    refine st117 _ ?_
    show Steps p.tables e below (T117.setTop (mkF m 202 #[.val (.int p1), .unset, .unset, .unset] [(.ref b1)])) _
    refine XS.dup X117.here hx rfl (hb hby at_202) rfl rfl ?_
    show Steps p.tables e below (T117.setTop (mkF m 203 #[.val (.int p1), .unset, .unset, .unset] [(.ref b1), (.ref b1)])) _
    refine XS.bipush X117.here hx rfl (hb hby at_203) ?_
    show Steps p.tables e below (T117.setTop (mkF m 205 #[.val (.int p1), .unset, .unset, .unset] [(.int (29 : Int32)), (.ref b1), (.ref b1)])) _
    refine st119 _ ?_
    show Steps p.tables e below (T119.setTop (mkF m 208 #[.val (.int p1), .unset, .unset, .unset] [(.ref w29), (.int (29 : Int32)), (.ref b1), (.ref b1)])) _
    refine st121 _ ?_
    show Steps p.tables e below (T121.setTop (mkF m 209 #[.val (.int p1), .unset, .unset, .unset] [(.ref b1)])) _
    refine XS.dup X121.here hx rfl (hb hby at_209) rfl rfl ?_
    show Steps p.tables e below (T121.setTop (mkF m 210 #[.val (.int p1), .unset, .unset, .unset] [(.ref b1), (.ref b1)])) _
    refine XS.bipush X121.here hx rfl (hb hby at_210) ?_
    show Steps p.tables e below (T121.setTop (mkF m 212 #[.val (.int p1), .unset, .unset, .unset] [(.int (30 : Int32)), (.ref b1), (.ref b1)])) _
    refine st123 _ ?_
    show Steps p.tables e below (T123.setTop (mkF m 215 #[.val (.int p1), .unset, .unset, .unset] [(.ref w30), (.int (30 : Int32)), (.ref b1), (.ref b1)])) _
    refine st125 _ ?_
    show Steps p.tables e below (T125.setTop (mkF m 216 #[.val (.int p1), .unset, .unset, .unset] [(.ref b1)])) _
    refine XS.astoreN X125.here hx rfl (hb hby at_216) rfl rfl (l' := #[.val (.int p1), .val (.ref b1), .unset, .unset]) rfl ?_
    show Steps p.tables e below (T125.setTop (mkF m 217 #[.val (.int p1), .val (.ref b1), .unset, .unset] [])) _
    refine XS.iloadN X125.here hx rfl (hb hby at_217) rfl ?_
    show Steps p.tables e below (T125.setTop (mkF m 218 #[.val (.int p1), .val (.ref b1), .unset, .unset] [(.int p1)])) _
    refine X125.ldcInt hx hown (mvT hZ (hw _ (List.mem_of_getElem? (i := 66) rfl))) (g := (mkF m 218 #[.val (.int p1), .val (.ref b1), .unset, .unset] [(.int p1)])) rfl (hb hby at_218) _ ?_
    show Steps p.tables e below (T125.setTop (mkF m 220 #[.val (.int p1), .val (.ref b1), .unset, .unset] [(.int (2147483647 : Int32)), (.int p1)])) _
    refine XS.iand X125.here hx rfl (hb hby at_220) rfl ?_
    show Steps p.tables e below (T125.setTop (mkF m 221 #[.val (.int p1), .val (.ref b1), .unset, .unset] [(.int (p1 &&& (2147483647 : Int32)))])) _
    refine XS.bipush X125.here hx rfl (hb hby at_221) ?_
    show Steps p.tables e below (T125.setTop (mkF m 223 #[.val (.int p1), .val (.ref b1), .unset, .unset] [(.int (31 : Int32)), (.int (p1 &&& (2147483647 : Int32)))])) _
    refine XS.irem X125.here hx rfl (hb hby at_223) rfl (by decide) ?_
    rw [own_irem]
    exact k
  rcases (own_mod31 _ _ hv_ix : ix = (0 : Int32) ∨ ix = (1 : Int32) ∨ ix = (2 : Int32) ∨ ix = (3 : Int32) ∨ ix = (4 : Int32) ∨ ix = (5 : Int32) ∨ ix = (6 : Int32) ∨ ix = (7 : Int32) ∨ ix = (8 : Int32) ∨ ix = (9 : Int32) ∨ ix = (10 : Int32) ∨ ix = (11 : Int32) ∨ ix = (12 : Int32) ∨ ix = (13 : Int32) ∨ ix = (14 : Int32) ∨ ix = (15 : Int32) ∨ ix = (16 : Int32) ∨ ix = (17 : Int32) ∨ ix = (18 : Int32) ∨ ix = (19 : Int32) ∨ ix = (20 : Int32) ∨ ix = (21 : Int32) ∨ ix = (22 : Int32) ∨ ix = (23 : Int32) ∨ ix = (24 : Int32) ∨ ix = (25 : Int32) ∨ ix = (26 : Int32) ∨ ix = (27 : Int32) ∨ ix = (28 : Int32) ∨ ix = (29 : Int32) ∨ ix = (30 : Int32)) with rfl | rfl | rfl | rfl | rfl | rfl | rfl | rfl | rfl | rfl | rfl | rfl | rfl | rfl | rfl | rfl | rfl | rfl | rfl | rfl | rfl | rfl | rfl | rfl | rfl | rfl | rfl | rfl | rfl | rfl | rfl
  · skip
    obtain ⟨c127, Ar127, cq127, S127, Nn127, Hh127, Gg127⟩ := id V125a
    have hin127 : ¬ ((0 : Int32) < 0 ∨ c127.slots.size ≤ ((0 : Int32)).toNatClampNeg) := inb_of S127 ⟨by decide, by decide⟩
    have hat127 : c127.slots[((0 : Int32)).toNatClampNeg]? = some (.ref w0) := Has.at Hh127 hin127 rfl
    obtain ⟨LL128, XL128, NL128⟩ : ∃ LL : List Loc, Stand p l e room_1 s m #[(.int p1)] below meth c T125 LL 1 31 ∧ Fr n0 LL := ⟨_, X125, N125⟩
    have o129 : Old Z n0 h125 := (Old.wr o122 W125 gz_b1)
    obtain ⟨cq130, kq130, q130a, q130b, q130c⟩ := isOf hZ e125 (Ex_PUSH.ext o129.2)
    obtain ⟨_, _, ⟨T130, L130, k130, n130⟩, -, X130, ⟨Lc130, hQ130, l130, y130, z130⟩, st130⟩ := XL128.virtualBack hx (y := (⟨"com/example/chalkline/chalkline/runtime/Opcode", "fallsThrough", "()Z"⟩ : MethodName)) (z := (⟨"com/example/chalkline/chalkline/runtime/Opcode", "fallsThrough", "()Z"⟩ : MethodName)) hown (mvT hZ (hw _ (List.mem_of_getElem? (i := 67) rfl))) (mvT hZ (hw _ (List.mem_of_getElem? (i := 68) rfl))) (notFace_of_selects (args := #[]) (mvT hZ (hw _ (List.mem_of_getElem? (i := 70) rfl)))) (mvT hZ (hw _ (List.mem_of_getElem? (i := 70) rfl))) (mvT hZ (hw _ (List.mem_of_getElem? (i := 69) rfl))) (by decide) (backOf (W := 0) (rmM l Z a0 hw [] w0 (1 : Int32) w0 w1 w2 w3 w4 w5 w6 w7 w8 w9 w10 w11 w12 w13 w14 w15 w16 w17 w18 w19 w20 w21 w22 w23 w24 w25 w26 w27 w28 w29 w30 h125 n0 o129 G0 (by rw [if_neg (Fld.ne Fo0 Fo23 (own_ni (by decide))), if_neg (Fld.ne Fo0 Fo28 (own_ni (by decide))), if_neg (Fld.ne Fo0 Fo30 (own_ni (by decide)))])) hZ (hw _ (List.mem_of_getElem? (i := 71) rfl)) (hw _ (List.mem_of_getElem? (i := 3) rfl)) (by decide) (by decide)) q130a q130c (g := (mkF m 263 #[.val (.int p1), .val (.ref b1), .val (.int (0 : Int32)), .val (.int (1 : Int32))] [(.ref w0)])) rfl (by rw [hml]; rfl) (Steps.refl _) (argsL := []) (rest := []) (lenOf own_pd0 rfl) rfl (by show 2 * 0 + _ ≤ _; exact Nat.le_of_eq rfl) (hb hby at_263) (fun _ _ => ⟨rfl, e125, (by decide : 1 + 0 ≤ _), (by decide : 31 + 0 ≤ _)⟩)
    dsimp only [Pt.U, Pt.locs, Pt.cells, Pt.slots] at X130 l130 y130 z130 st130 hQ130
    subst l130 y130 z130
    obtain ⟨rfl, Nq130, e130⟩ := hQ130
    have N130 := Fr.app NL128 Nq130
    have g131 : ∀ t, Steps p.tables e below (T130.setTop (mkF m 275 #[.val (.int p1), .val (.ref b1), .val (.int (0 : Int32)), .val (.int (1 : Int32))] [(.int (1 : Int32))])) t → Steps p.tables e below (s₁.setTop (entryFrame m #[(.int p1)] maxLocals)) t := by
      intro t k
      refine g126 t ?_
      show Steps p.tables e below (T125.setTop (mkF m 224 #[.val (.int p1), .val (.ref b1), .unset, .unset] [(.int (0 : Int32))])) _
      refine XS.istoreN X125.here hx rfl (hb hby at_224) rfl (l' := #[.val (.int p1), .val (.ref b1), .val (.int (0 : Int32)), .unset]) rfl ?_
      show Steps p.tables e below (T125.setTop (mkF m 225 #[.val (.int p1), .val (.ref b1), .val (.int (0 : Int32)), .unset] [])) _
      refine XS.iloadN X125.here hx rfl (hb hby at_225) rfl ?_
      show Steps p.tables e below (T125.setTop (mkF m 226 #[.val (.int p1), .val (.ref b1), .val (.int (0 : Int32)), .unset] [(.int (0 : Int32))])) _
      refine XS.bipush X125.here hx rfl (hb hby at_226) ?_
      show Steps p.tables e below (T125.setTop (mkF m 228 #[.val (.int p1), .val (.ref b1), .val (.int (0 : Int32)), .unset] [(.int (23 : Int32)), (.int (0 : Int32))])) _
      refine XS.icmpYes X125.here hx rfl (pc0 := 228) (pc' := 236) rfl (hb hby at_228) rfl (feq (by decide : ¬ ((0 : Int32) = (23 : Int32)))).2 (by decide) (by decide) ?_
      show Steps p.tables e below (T125.setTop (mkF m 236 #[.val (.int p1), .val (.ref b1), .val (.int (0 : Int32)), .unset] [])) _
      refine XS.iloadN X125.here hx rfl (hb hby at_236) rfl ?_
      show Steps p.tables e below (T125.setTop (mkF m 237 #[.val (.int p1), .val (.ref b1), .val (.int (0 : Int32)), .unset] [(.int (0 : Int32))])) _
      refine XS.bipush X125.here hx rfl (hb hby at_237) ?_
      show Steps p.tables e below (T125.setTop (mkF m 239 #[.val (.int p1), .val (.ref b1), .val (.int (0 : Int32)), .unset] [(.int (28 : Int32)), (.int (0 : Int32))])) _
      refine XS.icmpYes X125.here hx rfl (pc0 := 239) (pc' := 247) rfl (hb hby at_239) rfl (feq (by decide : ¬ ((0 : Int32) = (28 : Int32)))).2 (by decide) (by decide) ?_
      show Steps p.tables e below (T125.setTop (mkF m 247 #[.val (.int p1), .val (.ref b1), .val (.int (0 : Int32)), .unset] [])) _
      refine XS.iloadN X125.here hx rfl (hb hby at_247) rfl ?_
      show Steps p.tables e below (T125.setTop (mkF m 248 #[.val (.int p1), .val (.ref b1), .val (.int (0 : Int32)), .unset] [(.int (0 : Int32))])) _
      refine XS.bipush X125.here hx rfl (hb hby at_248) ?_
      show Steps p.tables e below (T125.setTop (mkF m 250 #[.val (.int p1), .val (.ref b1), .val (.int (0 : Int32)), .unset] [(.int (30 : Int32)), (.int (0 : Int32))])) _
      refine XS.icmpYes X125.here hx rfl (pc0 := 250) (pc' := 258) rfl (hb hby at_250) rfl (feq (by decide : ¬ ((0 : Int32) = (30 : Int32)))).2 (by decide) (by decide) ?_
      show Steps p.tables e below (T125.setTop (mkF m 258 #[.val (.int p1), .val (.ref b1), .val (.int (0 : Int32)), .unset] [])) _
      refine XS.iconst X125.here hx rfl (hb hby at_258) ?_
      show Steps p.tables e below (T125.setTop (mkF m 259 #[.val (.int p1), .val (.ref b1), .val (.int (0 : Int32)), .unset] [(.int (1 : Int32))])) _
      refine XS.istoreN X125.here hx rfl (hb hby at_259) rfl (l' := #[.val (.int p1), .val (.ref b1), .val (.int (0 : Int32)), .val (.int (1 : Int32))]) rfl ?_
      show Steps p.tables e below (T125.setTop (mkF m 260 #[.val (.int p1), .val (.ref b1), .val (.int (0 : Int32)), .val (.int (1 : Int32))] [])) _
      refine XS.aloadN X125.here hx rfl (hb hby at_260) rfl rfl ?_
      show Steps p.tables e below (T125.setTop (mkF m 261 #[.val (.int p1), .val (.ref b1), .val (.int (0 : Int32)), .val (.int (1 : Int32))] [(.ref b1)])) _
      refine XS.iloadN X125.here hx rfl (hb hby at_261) rfl ?_
      show Steps p.tables e below (T125.setTop (mkF m 262 #[.val (.int p1), .val (.ref b1), .val (.int (0 : Int32)), .val (.int (1 : Int32))] [(.int (0 : Int32)), (.ref b1)])) _
      refine X125.aaload hx (j := (0 : Int32)) (v := (.ref w0)) (by rw [e125]; exact Ar127.1) (State.isArrayOf_alike hZ.alike Ar127.2.1) rfl Ar127.2.2 hin127 hat127 (g := (mkF m 262 #[.val (.int p1), .val (.ref b1), .val (.int (0 : Int32)), .val (.int (1 : Int32))] [(.int (0 : Int32)), (.ref b1)])) rfl rfl (hb hby at_262) _ ?_
      show Steps p.tables e below (T125.setTop (mkF m 263 #[.val (.int p1), .val (.ref b1), .val (.int (0 : Int32)), .val (.int (1 : Int32))] [(.ref w0)])) _
      refine st130.trans ?_
      show Steps p.tables e below (T130.setTop (mkF m 266 #[.val (.int p1), .val (.ref b1), .val (.int (0 : Int32)), .val (.int (1 : Int32))] [(.int (1 : Int32))])) _
      refine XS.iloadN X130.here hx rfl (hb hby at_266) rfl ?_
      show Steps p.tables e below (T130.setTop (mkF m 267 #[.val (.int p1), .val (.ref b1), .val (.int (0 : Int32)), .val (.int (1 : Int32))] [(.int (1 : Int32)), (.int (1 : Int32))])) _
      refine XS.icmpNo X130.here hx rfl (hb hby at_267) rfl (teq (by decide : (1 : Int32) = (1 : Int32))).2 ?_
      show Steps p.tables e below (T130.setTop (mkF m 270 #[.val (.int p1), .val (.ref b1), .val (.int (0 : Int32)), .val (.int (1 : Int32))] [])) _
      refine XS.iconst X130.here hx rfl (hb hby at_270) ?_
      show Steps p.tables e below (T130.setTop (mkF m 271 #[.val (.int p1), .val (.ref b1), .val (.int (0 : Int32)), .val (.int (1 : Int32))] [(.int (1 : Int32))])) _
      refine XS.goto X130.here hx rfl (pc0 := 271) (pc' := 275) rfl (hb hby at_271) (by decide) (by decide) ?_
      exact k
    obtain ⟨fs, hrt, hrun, hended, hW, hsame⟩ := X130.leave (v := some (.int (1 : Int32))) (fun h => by rw [Bd.returns] at h; cases h)
    refine ⟨_, _, g131 _ ?_, hrun, hended, _, _, rfl, ?_, ⟨_, rfl⟩, hW, hsame.mono (by decide) (by decide)⟩
    · show Steps p.tables e below (T130.setTop (mkF m 275 #[.val (.int p1), .val (.ref b1), .val (.int (0 : Int32)), .val (.int (1 : Int32))] [(.int (1 : Int32))])) _
      exact retN X130 hx (t := .boolean) Bd.returns (by simp) (hb hby at_275) hrt
    · show own_Q_rm0 Z p1 w0 w1 w2 w3 w4 w5 w6 w7 w8 w9 w10 w11 w12 w13 w14 w15 w16 w17 w18 w19 w20 w21 w22 w23 w24 w25 w26 w27 w28 w29 w30 h0 n0 _ T130.heap _
      rw [e130]
      exact ⟨rfl, N130⟩
  · skip
    obtain ⟨c132, Ar132, cq132, S132, Nn132, Hh132, Gg132⟩ := id V125a
    have hin132 : ¬ ((1 : Int32) < 0 ∨ c132.slots.size ≤ ((1 : Int32)).toNatClampNeg) := inb_of S132 ⟨by decide, by decide⟩
    have hat132 : c132.slots[((1 : Int32)).toNatClampNeg]? = some (.ref w1) := Has.at Hh132 hin132 rfl
    obtain ⟨LL133, XL133, NL133⟩ : ∃ LL : List Loc, Stand p l e room_1 s m #[(.int p1)] below meth c T125 LL 1 31 ∧ Fr n0 LL := ⟨_, X125, N125⟩
    have o134 : Old Z n0 h125 := (Old.wr o122 W125 gz_b1)
    obtain ⟨cq135, kq135, q135a, q135b, q135c⟩ := isOf hZ e125 (Ex_PUSH_NULL.ext o134.2)
    obtain ⟨_, _, ⟨T135, L135, k135, n135⟩, -, X135, ⟨Lc135, hQ135, l135, y135, z135⟩, st135⟩ := XL133.virtualBack hx (y := (⟨"com/example/chalkline/chalkline/runtime/Opcode", "fallsThrough", "()Z"⟩ : MethodName)) (z := (⟨"com/example/chalkline/chalkline/runtime/Opcode", "fallsThrough", "()Z"⟩ : MethodName)) hown (mvT hZ (hw _ (List.mem_of_getElem? (i := 67) rfl))) (mvT hZ (hw _ (List.mem_of_getElem? (i := 68) rfl))) (notFace_of_selects (args := #[]) (mvT hZ (hw _ (List.mem_of_getElem? (i := 70) rfl)))) (mvT hZ (hw _ (List.mem_of_getElem? (i := 70) rfl))) (mvT hZ (hw _ (List.mem_of_getElem? (i := 69) rfl))) (by decide) (backOf (W := 0) (rmM l Z a0 hw [] w1 (1 : Int32) w0 w1 w2 w3 w4 w5 w6 w7 w8 w9 w10 w11 w12 w13 w14 w15 w16 w17 w18 w19 w20 w21 w22 w23 w24 w25 w26 w27 w28 w29 w30 h125 n0 o134 G0 (by rw [if_neg (Fld.ne Fo1 Fo23 (own_ni (by decide))), if_neg (Fld.ne Fo1 Fo28 (own_ni (by decide))), if_neg (Fld.ne Fo1 Fo30 (own_ni (by decide)))])) hZ (hw _ (List.mem_of_getElem? (i := 71) rfl)) (hw _ (List.mem_of_getElem? (i := 3) rfl)) (by decide) (by decide)) q135a q135c (g := (mkF m 263 #[.val (.int p1), .val (.ref b1), .val (.int (1 : Int32)), .val (.int (1 : Int32))] [(.ref w1)])) rfl (by rw [hml]; rfl) (Steps.refl _) (argsL := []) (rest := []) (lenOf own_pd0 rfl) rfl (by show 2 * 0 + _ ≤ _; exact Nat.le_of_eq rfl) (hb hby at_263) (fun _ _ => ⟨rfl, e125, (by decide : 1 + 0 ≤ _), (by decide : 31 + 0 ≤ _)⟩)
    dsimp only [Pt.U, Pt.locs, Pt.cells, Pt.slots] at X135 l135 y135 z135 st135 hQ135
    subst l135 y135 z135
    obtain ⟨rfl, Nq135, e135⟩ := hQ135
    have N135 := Fr.app NL133 Nq135
    have g136 : ∀ t, Steps p.tables e below (T135.setTop (mkF m 275 #[.val (.int p1), .val (.ref b1), .val (.int (1 : Int32)), .val (.int (1 : Int32))] [(.int (1 : Int32))])) t → Steps p.tables e below (s₁.setTop (entryFrame m #[(.int p1)] maxLocals)) t := by
      intro t k
      refine g126 t ?_
      show Steps p.tables e below (T125.setTop (mkF m 224 #[.val (.int p1), .val (.ref b1), .unset, .unset] [(.int (1 : Int32))])) _
      refine XS.istoreN X125.here hx rfl (hb hby at_224) rfl (l' := #[.val (.int p1), .val (.ref b1), .val (.int (1 : Int32)), .unset]) rfl ?_
      show Steps p.tables e below (T125.setTop (mkF m 225 #[.val (.int p1), .val (.ref b1), .val (.int (1 : Int32)), .unset] [])) _
      refine XS.iloadN X125.here hx rfl (hb hby at_225) rfl ?_
      show Steps p.tables e below (T125.setTop (mkF m 226 #[.val (.int p1), .val (.ref b1), .val (.int (1 : Int32)), .unset] [(.int (1 : Int32))])) _
      refine XS.bipush X125.here hx rfl (hb hby at_226) ?_
      show Steps p.tables e below (T125.setTop (mkF m 228 #[.val (.int p1), .val (.ref b1), .val (.int (1 : Int32)), .unset] [(.int (23 : Int32)), (.int (1 : Int32))])) _
      refine XS.icmpYes X125.here hx rfl (pc0 := 228) (pc' := 236) rfl (hb hby at_228) rfl (feq (by decide : ¬ ((1 : Int32) = (23 : Int32)))).2 (by decide) (by decide) ?_
      show Steps p.tables e below (T125.setTop (mkF m 236 #[.val (.int p1), .val (.ref b1), .val (.int (1 : Int32)), .unset] [])) _
      refine XS.iloadN X125.here hx rfl (hb hby at_236) rfl ?_
      show Steps p.tables e below (T125.setTop (mkF m 237 #[.val (.int p1), .val (.ref b1), .val (.int (1 : Int32)), .unset] [(.int (1 : Int32))])) _
      refine XS.bipush X125.here hx rfl (hb hby at_237) ?_
      show Steps p.tables e below (T125.setTop (mkF m 239 #[.val (.int p1), .val (.ref b1), .val (.int (1 : Int32)), .unset] [(.int (28 : Int32)), (.int (1 : Int32))])) _
      refine XS.icmpYes X125.here hx rfl (pc0 := 239) (pc' := 247) rfl (hb hby at_239) rfl (feq (by decide : ¬ ((1 : Int32) = (28 : Int32)))).2 (by decide) (by decide) ?_
      show Steps p.tables e below (T125.setTop (mkF m 247 #[.val (.int p1), .val (.ref b1), .val (.int (1 : Int32)), .unset] [])) _
      refine XS.iloadN X125.here hx rfl (hb hby at_247) rfl ?_
      show Steps p.tables e below (T125.setTop (mkF m 248 #[.val (.int p1), .val (.ref b1), .val (.int (1 : Int32)), .unset] [(.int (1 : Int32))])) _
      refine XS.bipush X125.here hx rfl (hb hby at_248) ?_
      show Steps p.tables e below (T125.setTop (mkF m 250 #[.val (.int p1), .val (.ref b1), .val (.int (1 : Int32)), .unset] [(.int (30 : Int32)), (.int (1 : Int32))])) _
      refine XS.icmpYes X125.here hx rfl (pc0 := 250) (pc' := 258) rfl (hb hby at_250) rfl (feq (by decide : ¬ ((1 : Int32) = (30 : Int32)))).2 (by decide) (by decide) ?_
      show Steps p.tables e below (T125.setTop (mkF m 258 #[.val (.int p1), .val (.ref b1), .val (.int (1 : Int32)), .unset] [])) _
      refine XS.iconst X125.here hx rfl (hb hby at_258) ?_
      show Steps p.tables e below (T125.setTop (mkF m 259 #[.val (.int p1), .val (.ref b1), .val (.int (1 : Int32)), .unset] [(.int (1 : Int32))])) _
      refine XS.istoreN X125.here hx rfl (hb hby at_259) rfl (l' := #[.val (.int p1), .val (.ref b1), .val (.int (1 : Int32)), .val (.int (1 : Int32))]) rfl ?_
      show Steps p.tables e below (T125.setTop (mkF m 260 #[.val (.int p1), .val (.ref b1), .val (.int (1 : Int32)), .val (.int (1 : Int32))] [])) _
      refine XS.aloadN X125.here hx rfl (hb hby at_260) rfl rfl ?_
      show Steps p.tables e below (T125.setTop (mkF m 261 #[.val (.int p1), .val (.ref b1), .val (.int (1 : Int32)), .val (.int (1 : Int32))] [(.ref b1)])) _
      refine XS.iloadN X125.here hx rfl (hb hby at_261) rfl ?_
      show Steps p.tables e below (T125.setTop (mkF m 262 #[.val (.int p1), .val (.ref b1), .val (.int (1 : Int32)), .val (.int (1 : Int32))] [(.int (1 : Int32)), (.ref b1)])) _
      refine X125.aaload hx (j := (1 : Int32)) (v := (.ref w1)) (by rw [e125]; exact Ar132.1) (State.isArrayOf_alike hZ.alike Ar132.2.1) rfl Ar132.2.2 hin132 hat132 (g := (mkF m 262 #[.val (.int p1), .val (.ref b1), .val (.int (1 : Int32)), .val (.int (1 : Int32))] [(.int (1 : Int32)), (.ref b1)])) rfl rfl (hb hby at_262) _ ?_
      show Steps p.tables e below (T125.setTop (mkF m 263 #[.val (.int p1), .val (.ref b1), .val (.int (1 : Int32)), .val (.int (1 : Int32))] [(.ref w1)])) _
      refine st135.trans ?_
      show Steps p.tables e below (T135.setTop (mkF m 266 #[.val (.int p1), .val (.ref b1), .val (.int (1 : Int32)), .val (.int (1 : Int32))] [(.int (1 : Int32))])) _
      refine XS.iloadN X135.here hx rfl (hb hby at_266) rfl ?_
      show Steps p.tables e below (T135.setTop (mkF m 267 #[.val (.int p1), .val (.ref b1), .val (.int (1 : Int32)), .val (.int (1 : Int32))] [(.int (1 : Int32)), (.int (1 : Int32))])) _
      refine XS.icmpNo X135.here hx rfl (hb hby at_267) rfl (teq (by decide : (1 : Int32) = (1 : Int32))).2 ?_
      show Steps p.tables e below (T135.setTop (mkF m 270 #[.val (.int p1), .val (.ref b1), .val (.int (1 : Int32)), .val (.int (1 : Int32))] [])) _
      refine XS.iconst X135.here hx rfl (hb hby at_270) ?_
      show Steps p.tables e below (T135.setTop (mkF m 271 #[.val (.int p1), .val (.ref b1), .val (.int (1 : Int32)), .val (.int (1 : Int32))] [(.int (1 : Int32))])) _
      refine XS.goto X135.here hx rfl (pc0 := 271) (pc' := 275) rfl (hb hby at_271) (by decide) (by decide) ?_
      exact k
    obtain ⟨fs, hrt, hrun, hended, hW, hsame⟩ := X135.leave (v := some (.int (1 : Int32))) (fun h => by rw [Bd.returns] at h; cases h)
    refine ⟨_, _, g136 _ ?_, hrun, hended, _, _, rfl, ?_, ⟨_, rfl⟩, hW, hsame.mono (by decide) (by decide)⟩
    · show Steps p.tables e below (T135.setTop (mkF m 275 #[.val (.int p1), .val (.ref b1), .val (.int (1 : Int32)), .val (.int (1 : Int32))] [(.int (1 : Int32))])) _
      exact retN X135 hx (t := .boolean) Bd.returns (by simp) (hb hby at_275) hrt
    · show own_Q_rm0 Z p1 w0 w1 w2 w3 w4 w5 w6 w7 w8 w9 w10 w11 w12 w13 w14 w15 w16 w17 w18 w19 w20 w21 w22 w23 w24 w25 w26 w27 w28 w29 w30 h0 n0 _ T135.heap _
      rw [e135]
      exact ⟨rfl, N135⟩
  · skip
    obtain ⟨c137, Ar137, cq137, S137, Nn137, Hh137, Gg137⟩ := id V125a
    have hin137 : ¬ ((2 : Int32) < 0 ∨ c137.slots.size ≤ ((2 : Int32)).toNatClampNeg) := inb_of S137 ⟨by decide, by decide⟩
    have hat137 : c137.slots[((2 : Int32)).toNatClampNeg]? = some (.ref w2) := Has.at Hh137 hin137 rfl
    obtain ⟨LL138, XL138, NL138⟩ : ∃ LL : List Loc, Stand p l e room_1 s m #[(.int p1)] below meth c T125 LL 1 31 ∧ Fr n0 LL := ⟨_, X125, N125⟩
    have o139 : Old Z n0 h125 := (Old.wr o122 W125 gz_b1)
    obtain ⟨cq140, kq140, q140a, q140b, q140c⟩ := isOf hZ e125 (Ex_LOAD.ext o139.2)
    obtain ⟨_, _, ⟨T140, L140, k140, n140⟩, -, X140, ⟨Lc140, hQ140, l140, y140, z140⟩, st140⟩ := XL138.virtualBack hx (y := (⟨"com/example/chalkline/chalkline/runtime/Opcode", "fallsThrough", "()Z"⟩ : MethodName)) (z := (⟨"com/example/chalkline/chalkline/runtime/Opcode", "fallsThrough", "()Z"⟩ : MethodName)) hown (mvT hZ (hw _ (List.mem_of_getElem? (i := 67) rfl))) (mvT hZ (hw _ (List.mem_of_getElem? (i := 68) rfl))) (notFace_of_selects (args := #[]) (mvT hZ (hw _ (List.mem_of_getElem? (i := 70) rfl)))) (mvT hZ (hw _ (List.mem_of_getElem? (i := 70) rfl))) (mvT hZ (hw _ (List.mem_of_getElem? (i := 69) rfl))) (by decide) (backOf (W := 0) (rmM l Z a0 hw [] w2 (1 : Int32) w0 w1 w2 w3 w4 w5 w6 w7 w8 w9 w10 w11 w12 w13 w14 w15 w16 w17 w18 w19 w20 w21 w22 w23 w24 w25 w26 w27 w28 w29 w30 h125 n0 o139 G0 (by rw [if_neg (Fld.ne Fo2 Fo23 (own_ni (by decide))), if_neg (Fld.ne Fo2 Fo28 (own_ni (by decide))), if_neg (Fld.ne Fo2 Fo30 (own_ni (by decide)))])) hZ (hw _ (List.mem_of_getElem? (i := 71) rfl)) (hw _ (List.mem_of_getElem? (i := 3) rfl)) (by decide) (by decide)) q140a q140c (g := (mkF m 263 #[.val (.int p1), .val (.ref b1), .val (.int (2 : Int32)), .val (.int (1 : Int32))] [(.ref w2)])) rfl (by rw [hml]; rfl) (Steps.refl _) (argsL := []) (rest := []) (lenOf own_pd0 rfl) rfl (by show 2 * 0 + _ ≤ _; exact Nat.le_of_eq rfl) (hb hby at_263) (fun _ _ => ⟨rfl, e125, (by decide : 1 + 0 ≤ _), (by decide : 31 + 0 ≤ _)⟩)
    dsimp only [Pt.U, Pt.locs, Pt.cells, Pt.slots] at X140 l140 y140 z140 st140 hQ140
    subst l140 y140 z140
    obtain ⟨rfl, Nq140, e140⟩ := hQ140
    have N140 := Fr.app NL138 Nq140
    have g141 : ∀ t, Steps p.tables e below (T140.setTop (mkF m 275 #[.val (.int p1), .val (.ref b1), .val (.int (2 : Int32)), .val (.int (1 : Int32))] [(.int (1 : Int32))])) t → Steps p.tables e below (s₁.setTop (entryFrame m #[(.int p1)] maxLocals)) t := by
      intro t k
      refine g126 t ?_
      show Steps p.tables e below (T125.setTop (mkF m 224 #[.val (.int p1), .val (.ref b1), .unset, .unset] [(.int (2 : Int32))])) _
      refine XS.istoreN X125.here hx rfl (hb hby at_224) rfl (l' := #[.val (.int p1), .val (.ref b1), .val (.int (2 : Int32)), .unset]) rfl ?_
      show Steps p.tables e below (T125.setTop (mkF m 225 #[.val (.int p1), .val (.ref b1), .val (.int (2 : Int32)), .unset] [])) _
      refine XS.iloadN X125.here hx rfl (hb hby at_225) rfl ?_
      show Steps p.tables e below (T125.setTop (mkF m 226 #[.val (.int p1), .val (.ref b1), .val (.int (2 : Int32)), .unset] [(.int (2 : Int32))])) _
      refine XS.bipush X125.here hx rfl (hb hby at_226) ?_
      show Steps p.tables e below (T125.setTop (mkF m 228 #[.val (.int p1), .val (.ref b1), .val (.int (2 : Int32)), .unset] [(.int (23 : Int32)), (.int (2 : Int32))])) _
      refine XS.icmpYes X125.here hx rfl (pc0 := 228) (pc' := 236) rfl (hb hby at_228) rfl (feq (by decide : ¬ ((2 : Int32) = (23 : Int32)))).2 (by decide) (by decide) ?_
      show Steps p.tables e below (T125.setTop (mkF m 236 #[.val (.int p1), .val (.ref b1), .val (.int (2 : Int32)), .unset] [])) _
      refine XS.iloadN X125.here hx rfl (hb hby at_236) rfl ?_
      show Steps p.tables e below (T125.setTop (mkF m 237 #[.val (.int p1), .val (.ref b1), .val (.int (2 : Int32)), .unset] [(.int (2 : Int32))])) _
      refine XS.bipush X125.here hx rfl (hb hby at_237) ?_
      show Steps p.tables e below (T125.setTop (mkF m 239 #[.val (.int p1), .val (.ref b1), .val (.int (2 : Int32)), .unset] [(.int (28 : Int32)), (.int (2 : Int32))])) _
      refine XS.icmpYes X125.here hx rfl (pc0 := 239) (pc' := 247) rfl (hb hby at_239) rfl (feq (by decide : ¬ ((2 : Int32) = (28 : Int32)))).2 (by decide) (by decide) ?_
      show Steps p.tables e below (T125.setTop (mkF m 247 #[.val (.int p1), .val (.ref b1), .val (.int (2 : Int32)), .unset] [])) _
      refine XS.iloadN X125.here hx rfl (hb hby at_247) rfl ?_
      show Steps p.tables e below (T125.setTop (mkF m 248 #[.val (.int p1), .val (.ref b1), .val (.int (2 : Int32)), .unset] [(.int (2 : Int32))])) _
      refine XS.bipush X125.here hx rfl (hb hby at_248) ?_
      show Steps p.tables e below (T125.setTop (mkF m 250 #[.val (.int p1), .val (.ref b1), .val (.int (2 : Int32)), .unset] [(.int (30 : Int32)), (.int (2 : Int32))])) _
      refine XS.icmpYes X125.here hx rfl (pc0 := 250) (pc' := 258) rfl (hb hby at_250) rfl (feq (by decide : ¬ ((2 : Int32) = (30 : Int32)))).2 (by decide) (by decide) ?_
      show Steps p.tables e below (T125.setTop (mkF m 258 #[.val (.int p1), .val (.ref b1), .val (.int (2 : Int32)), .unset] [])) _
      refine XS.iconst X125.here hx rfl (hb hby at_258) ?_
      show Steps p.tables e below (T125.setTop (mkF m 259 #[.val (.int p1), .val (.ref b1), .val (.int (2 : Int32)), .unset] [(.int (1 : Int32))])) _
      refine XS.istoreN X125.here hx rfl (hb hby at_259) rfl (l' := #[.val (.int p1), .val (.ref b1), .val (.int (2 : Int32)), .val (.int (1 : Int32))]) rfl ?_
      show Steps p.tables e below (T125.setTop (mkF m 260 #[.val (.int p1), .val (.ref b1), .val (.int (2 : Int32)), .val (.int (1 : Int32))] [])) _
      refine XS.aloadN X125.here hx rfl (hb hby at_260) rfl rfl ?_
      show Steps p.tables e below (T125.setTop (mkF m 261 #[.val (.int p1), .val (.ref b1), .val (.int (2 : Int32)), .val (.int (1 : Int32))] [(.ref b1)])) _
      refine XS.iloadN X125.here hx rfl (hb hby at_261) rfl ?_
      show Steps p.tables e below (T125.setTop (mkF m 262 #[.val (.int p1), .val (.ref b1), .val (.int (2 : Int32)), .val (.int (1 : Int32))] [(.int (2 : Int32)), (.ref b1)])) _
      refine X125.aaload hx (j := (2 : Int32)) (v := (.ref w2)) (by rw [e125]; exact Ar137.1) (State.isArrayOf_alike hZ.alike Ar137.2.1) rfl Ar137.2.2 hin137 hat137 (g := (mkF m 262 #[.val (.int p1), .val (.ref b1), .val (.int (2 : Int32)), .val (.int (1 : Int32))] [(.int (2 : Int32)), (.ref b1)])) rfl rfl (hb hby at_262) _ ?_
      show Steps p.tables e below (T125.setTop (mkF m 263 #[.val (.int p1), .val (.ref b1), .val (.int (2 : Int32)), .val (.int (1 : Int32))] [(.ref w2)])) _
      refine st140.trans ?_
      show Steps p.tables e below (T140.setTop (mkF m 266 #[.val (.int p1), .val (.ref b1), .val (.int (2 : Int32)), .val (.int (1 : Int32))] [(.int (1 : Int32))])) _
      refine XS.iloadN X140.here hx rfl (hb hby at_266) rfl ?_
      show Steps p.tables e below (T140.setTop (mkF m 267 #[.val (.int p1), .val (.ref b1), .val (.int (2 : Int32)), .val (.int (1 : Int32))] [(.int (1 : Int32)), (.int (1 : Int32))])) _
      refine XS.icmpNo X140.here hx rfl (hb hby at_267) rfl (teq (by decide : (1 : Int32) = (1 : Int32))).2 ?_
      show Steps p.tables e below (T140.setTop (mkF m 270 #[.val (.int p1), .val (.ref b1), .val (.int (2 : Int32)), .val (.int (1 : Int32))] [])) _
      refine XS.iconst X140.here hx rfl (hb hby at_270) ?_
      show Steps p.tables e below (T140.setTop (mkF m 271 #[.val (.int p1), .val (.ref b1), .val (.int (2 : Int32)), .val (.int (1 : Int32))] [(.int (1 : Int32))])) _
      refine XS.goto X140.here hx rfl (pc0 := 271) (pc' := 275) rfl (hb hby at_271) (by decide) (by decide) ?_
      exact k
    obtain ⟨fs, hrt, hrun, hended, hW, hsame⟩ := X140.leave (v := some (.int (1 : Int32))) (fun h => by rw [Bd.returns] at h; cases h)
    refine ⟨_, _, g141 _ ?_, hrun, hended, _, _, rfl, ?_, ⟨_, rfl⟩, hW, hsame.mono (by decide) (by decide)⟩
    · show Steps p.tables e below (T140.setTop (mkF m 275 #[.val (.int p1), .val (.ref b1), .val (.int (2 : Int32)), .val (.int (1 : Int32))] [(.int (1 : Int32))])) _
      exact retN X140 hx (t := .boolean) Bd.returns (by simp) (hb hby at_275) hrt
    · show own_Q_rm0 Z p1 w0 w1 w2 w3 w4 w5 w6 w7 w8 w9 w10 w11 w12 w13 w14 w15 w16 w17 w18 w19 w20 w21 w22 w23 w24 w25 w26 w27 w28 w29 w30 h0 n0 _ T140.heap _
      rw [e140]
      exact ⟨rfl, N140⟩
  · skip
    obtain ⟨c142, Ar142, cq142, S142, Nn142, Hh142, Gg142⟩ := id V125a
    have hin142 : ¬ ((3 : Int32) < 0 ∨ c142.slots.size ≤ ((3 : Int32)).toNatClampNeg) := inb_of S142 ⟨by decide, by decide⟩
    have hat142 : c142.slots[((3 : Int32)).toNatClampNeg]? = some (.ref w3) := Has.at Hh142 hin142 rfl
    obtain ⟨LL143, XL143, NL143⟩ : ∃ LL : List Loc, Stand p l e room_1 s m #[(.int p1)] below meth c T125 LL 1 31 ∧ Fr n0 LL := ⟨_, X125, N125⟩
    have o144 : Old Z n0 h125 := (Old.wr o122 W125 gz_b1)
    obtain ⟨cq145, kq145, q145a, q145b, q145c⟩ := isOf hZ e125 (Ex_STORE.ext o144.2)
    obtain ⟨_, _, ⟨T145, L145, k145, n145⟩, -, X145, ⟨Lc145, hQ145, l145, y145, z145⟩, st145⟩ := XL143.virtualBack hx (y := (⟨"com/example/chalkline/chalkline/runtime/Opcode", "fallsThrough", "()Z"⟩ : MethodName)) (z := (⟨"com/example/chalkline/chalkline/runtime/Opcode", "fallsThrough", "()Z"⟩ : MethodName)) hown (mvT hZ (hw _ (List.mem_of_getElem? (i := 67) rfl))) (mvT hZ (hw _ (List.mem_of_getElem? (i := 68) rfl))) (notFace_of_selects (args := #[]) (mvT hZ (hw _ (List.mem_of_getElem? (i := 70) rfl)))) (mvT hZ (hw _ (List.mem_of_getElem? (i := 70) rfl))) (mvT hZ (hw _ (List.mem_of_getElem? (i := 69) rfl))) (by decide) (backOf (W := 0) (rmM l Z a0 hw [] w3 (1 : Int32) w0 w1 w2 w3 w4 w5 w6 w7 w8 w9 w10 w11 w12 w13 w14 w15 w16 w17 w18 w19 w20 w21 w22 w23 w24 w25 w26 w27 w28 w29 w30 h125 n0 o144 G0 (by rw [if_neg (Fld.ne Fo3 Fo23 (own_ni (by decide))), if_neg (Fld.ne Fo3 Fo28 (own_ni (by decide))), if_neg (Fld.ne Fo3 Fo30 (own_ni (by decide)))])) hZ (hw _ (List.mem_of_getElem? (i := 71) rfl)) (hw _ (List.mem_of_getElem? (i := 3) rfl)) (by decide) (by decide)) q145a q145c (g := (mkF m 263 #[.val (.int p1), .val (.ref b1), .val (.int (3 : Int32)), .val (.int (1 : Int32))] [(.ref w3)])) rfl (by rw [hml]; rfl) (Steps.refl _) (argsL := []) (rest := []) (lenOf own_pd0 rfl) rfl (by show 2 * 0 + _ ≤ _; exact Nat.le_of_eq rfl) (hb hby at_263) (fun _ _ => ⟨rfl, e125, (by decide : 1 + 0 ≤ _), (by decide : 31 + 0 ≤ _)⟩)
    dsimp only [Pt.U, Pt.locs, Pt.cells, Pt.slots] at X145 l145 y145 z145 st145 hQ145
    subst l145 y145 z145
    obtain ⟨rfl, Nq145, e145⟩ := hQ145
    have N145 := Fr.app NL143 Nq145
    have g146 : ∀ t, Steps p.tables e below (T145.setTop (mkF m 275 #[.val (.int p1), .val (.ref b1), .val (.int (3 : Int32)), .val (.int (1 : Int32))] [(.int (1 : Int32))])) t → Steps p.tables e below (s₁.setTop (entryFrame m #[(.int p1)] maxLocals)) t := by
      intro t k
      refine g126 t ?_
      show Steps p.tables e below (T125.setTop (mkF m 224 #[.val (.int p1), .val (.ref b1), .unset, .unset] [(.int (3 : Int32))])) _
      refine XS.istoreN X125.here hx rfl (hb hby at_224) rfl (l' := #[.val (.int p1), .val (.ref b1), .val (.int (3 : Int32)), .unset]) rfl ?_
      show Steps p.tables e below (T125.setTop (mkF m 225 #[.val (.int p1), .val (.ref b1), .val (.int (3 : Int32)), .unset] [])) _
      refine XS.iloadN X125.here hx rfl (hb hby at_225) rfl ?_
      show Steps p.tables e below (T125.setTop (mkF m 226 #[.val (.int p1), .val (.ref b1), .val (.int (3 : Int32)), .unset] [(.int (3 : Int32))])) _
      refine XS.bipush X125.here hx rfl (hb hby at_226) ?_
      show Steps p.tables e below (T125.setTop (mkF m 228 #[.val (.int p1), .val (.ref b1), .val (.int (3 : Int32)), .unset] [(.int (23 : Int32)), (.int (3 : Int32))])) _
      refine XS.icmpYes X125.here hx rfl (pc0 := 228) (pc' := 236) rfl (hb hby at_228) rfl (feq (by decide : ¬ ((3 : Int32) = (23 : Int32)))).2 (by decide) (by decide) ?_
      show Steps p.tables e below (T125.setTop (mkF m 236 #[.val (.int p1), .val (.ref b1), .val (.int (3 : Int32)), .unset] [])) _
      refine XS.iloadN X125.here hx rfl (hb hby at_236) rfl ?_
      show Steps p.tables e below (T125.setTop (mkF m 237 #[.val (.int p1), .val (.ref b1), .val (.int (3 : Int32)), .unset] [(.int (3 : Int32))])) _
      refine XS.bipush X125.here hx rfl (hb hby at_237) ?_
      show Steps p.tables e below (T125.setTop (mkF m 239 #[.val (.int p1), .val (.ref b1), .val (.int (3 : Int32)), .unset] [(.int (28 : Int32)), (.int (3 : Int32))])) _
      refine XS.icmpYes X125.here hx rfl (pc0 := 239) (pc' := 247) rfl (hb hby at_239) rfl (feq (by decide : ¬ ((3 : Int32) = (28 : Int32)))).2 (by decide) (by decide) ?_
      show Steps p.tables e below (T125.setTop (mkF m 247 #[.val (.int p1), .val (.ref b1), .val (.int (3 : Int32)), .unset] [])) _
      refine XS.iloadN X125.here hx rfl (hb hby at_247) rfl ?_
      show Steps p.tables e below (T125.setTop (mkF m 248 #[.val (.int p1), .val (.ref b1), .val (.int (3 : Int32)), .unset] [(.int (3 : Int32))])) _
      refine XS.bipush X125.here hx rfl (hb hby at_248) ?_
      show Steps p.tables e below (T125.setTop (mkF m 250 #[.val (.int p1), .val (.ref b1), .val (.int (3 : Int32)), .unset] [(.int (30 : Int32)), (.int (3 : Int32))])) _
      refine XS.icmpYes X125.here hx rfl (pc0 := 250) (pc' := 258) rfl (hb hby at_250) rfl (feq (by decide : ¬ ((3 : Int32) = (30 : Int32)))).2 (by decide) (by decide) ?_
      show Steps p.tables e below (T125.setTop (mkF m 258 #[.val (.int p1), .val (.ref b1), .val (.int (3 : Int32)), .unset] [])) _
      refine XS.iconst X125.here hx rfl (hb hby at_258) ?_
      show Steps p.tables e below (T125.setTop (mkF m 259 #[.val (.int p1), .val (.ref b1), .val (.int (3 : Int32)), .unset] [(.int (1 : Int32))])) _
      refine XS.istoreN X125.here hx rfl (hb hby at_259) rfl (l' := #[.val (.int p1), .val (.ref b1), .val (.int (3 : Int32)), .val (.int (1 : Int32))]) rfl ?_
      show Steps p.tables e below (T125.setTop (mkF m 260 #[.val (.int p1), .val (.ref b1), .val (.int (3 : Int32)), .val (.int (1 : Int32))] [])) _
      refine XS.aloadN X125.here hx rfl (hb hby at_260) rfl rfl ?_
      show Steps p.tables e below (T125.setTop (mkF m 261 #[.val (.int p1), .val (.ref b1), .val (.int (3 : Int32)), .val (.int (1 : Int32))] [(.ref b1)])) _
      refine XS.iloadN X125.here hx rfl (hb hby at_261) rfl ?_
      show Steps p.tables e below (T125.setTop (mkF m 262 #[.val (.int p1), .val (.ref b1), .val (.int (3 : Int32)), .val (.int (1 : Int32))] [(.int (3 : Int32)), (.ref b1)])) _
      refine X125.aaload hx (j := (3 : Int32)) (v := (.ref w3)) (by rw [e125]; exact Ar142.1) (State.isArrayOf_alike hZ.alike Ar142.2.1) rfl Ar142.2.2 hin142 hat142 (g := (mkF m 262 #[.val (.int p1), .val (.ref b1), .val (.int (3 : Int32)), .val (.int (1 : Int32))] [(.int (3 : Int32)), (.ref b1)])) rfl rfl (hb hby at_262) _ ?_
      show Steps p.tables e below (T125.setTop (mkF m 263 #[.val (.int p1), .val (.ref b1), .val (.int (3 : Int32)), .val (.int (1 : Int32))] [(.ref w3)])) _
      refine st145.trans ?_
      show Steps p.tables e below (T145.setTop (mkF m 266 #[.val (.int p1), .val (.ref b1), .val (.int (3 : Int32)), .val (.int (1 : Int32))] [(.int (1 : Int32))])) _
      refine XS.iloadN X145.here hx rfl (hb hby at_266) rfl ?_
      show Steps p.tables e below (T145.setTop (mkF m 267 #[.val (.int p1), .val (.ref b1), .val (.int (3 : Int32)), .val (.int (1 : Int32))] [(.int (1 : Int32)), (.int (1 : Int32))])) _
      refine XS.icmpNo X145.here hx rfl (hb hby at_267) rfl (teq (by decide : (1 : Int32) = (1 : Int32))).2 ?_
      show Steps p.tables e below (T145.setTop (mkF m 270 #[.val (.int p1), .val (.ref b1), .val (.int (3 : Int32)), .val (.int (1 : Int32))] [])) _
      refine XS.iconst X145.here hx rfl (hb hby at_270) ?_
      show Steps p.tables e below (T145.setTop (mkF m 271 #[.val (.int p1), .val (.ref b1), .val (.int (3 : Int32)), .val (.int (1 : Int32))] [(.int (1 : Int32))])) _
      refine XS.goto X145.here hx rfl (pc0 := 271) (pc' := 275) rfl (hb hby at_271) (by decide) (by decide) ?_
      exact k
    obtain ⟨fs, hrt, hrun, hended, hW, hsame⟩ := X145.leave (v := some (.int (1 : Int32))) (fun h => by rw [Bd.returns] at h; cases h)
    refine ⟨_, _, g146 _ ?_, hrun, hended, _, _, rfl, ?_, ⟨_, rfl⟩, hW, hsame.mono (by decide) (by decide)⟩
    · show Steps p.tables e below (T145.setTop (mkF m 275 #[.val (.int p1), .val (.ref b1), .val (.int (3 : Int32)), .val (.int (1 : Int32))] [(.int (1 : Int32))])) _
      exact retN X145 hx (t := .boolean) Bd.returns (by simp) (hb hby at_275) hrt
    · show own_Q_rm0 Z p1 w0 w1 w2 w3 w4 w5 w6 w7 w8 w9 w10 w11 w12 w13 w14 w15 w16 w17 w18 w19 w20 w21 w22 w23 w24 w25 w26 w27 w28 w29 w30 h0 n0 _ T145.heap _
      rw [e145]
      exact ⟨rfl, N145⟩
  · skip
    obtain ⟨c147, Ar147, cq147, S147, Nn147, Hh147, Gg147⟩ := id V125a
    have hin147 : ¬ ((4 : Int32) < 0 ∨ c147.slots.size ≤ ((4 : Int32)).toNatClampNeg) := inb_of S147 ⟨by decide, by decide⟩
    have hat147 : c147.slots[((4 : Int32)).toNatClampNeg]? = some (.ref w4) := Has.at Hh147 hin147 rfl
    obtain ⟨LL148, XL148, NL148⟩ : ∃ LL : List Loc, Stand p l e room_1 s m #[(.int p1)] below meth c T125 LL 1 31 ∧ Fr n0 LL := ⟨_, X125, N125⟩
    have o149 : Old Z n0 h125 := (Old.wr o122 W125 gz_b1)
    obtain ⟨cq150, kq150, q150a, q150b, q150c⟩ := isOf hZ e125 (Ex_LOAD_LOCAL.ext o149.2)
    obtain ⟨_, _, ⟨T150, L150, k150, n150⟩, -, X150, ⟨Lc150, hQ150, l150, y150, z150⟩, st150⟩ := XL148.virtualBack hx (y := (⟨"com/example/chalkline/chalkline/runtime/Opcode", "fallsThrough", "()Z"⟩ : MethodName)) (z := (⟨"com/example/chalkline/chalkline/runtime/Opcode", "fallsThrough", "()Z"⟩ : MethodName)) hown (mvT hZ (hw _ (List.mem_of_getElem? (i := 67) rfl))) (mvT hZ (hw _ (List.mem_of_getElem? (i := 68) rfl))) (notFace_of_selects (args := #[]) (mvT hZ (hw _ (List.mem_of_getElem? (i := 70) rfl)))) (mvT hZ (hw _ (List.mem_of_getElem? (i := 70) rfl))) (mvT hZ (hw _ (List.mem_of_getElem? (i := 69) rfl))) (by decide) (backOf (W := 0) (rmM l Z a0 hw [] w4 (1 : Int32) w0 w1 w2 w3 w4 w5 w6 w7 w8 w9 w10 w11 w12 w13 w14 w15 w16 w17 w18 w19 w20 w21 w22 w23 w24 w25 w26 w27 w28 w29 w30 h125 n0 o149 G0 (by rw [if_neg (Fld.ne Fo4 Fo23 (own_ni (by decide))), if_neg (Fld.ne Fo4 Fo28 (own_ni (by decide))), if_neg (Fld.ne Fo4 Fo30 (own_ni (by decide)))])) hZ (hw _ (List.mem_of_getElem? (i := 71) rfl)) (hw _ (List.mem_of_getElem? (i := 3) rfl)) (by decide) (by decide)) q150a q150c (g := (mkF m 263 #[.val (.int p1), .val (.ref b1), .val (.int (4 : Int32)), .val (.int (1 : Int32))] [(.ref w4)])) rfl (by rw [hml]; rfl) (Steps.refl _) (argsL := []) (rest := []) (lenOf own_pd0 rfl) rfl (by show 2 * 0 + _ ≤ _; exact Nat.le_of_eq rfl) (hb hby at_263) (fun _ _ => ⟨rfl, e125, (by decide : 1 + 0 ≤ _), (by decide : 31 + 0 ≤ _)⟩)
    dsimp only [Pt.U, Pt.locs, Pt.cells, Pt.slots] at X150 l150 y150 z150 st150 hQ150
    subst l150 y150 z150
    obtain ⟨rfl, Nq150, e150⟩ := hQ150
    have N150 := Fr.app NL148 Nq150
    have g151 : ∀ t, Steps p.tables e below (T150.setTop (mkF m 275 #[.val (.int p1), .val (.ref b1), .val (.int (4 : Int32)), .val (.int (1 : Int32))] [(.int (1 : Int32))])) t → Steps p.tables e below (s₁.setTop (entryFrame m #[(.int p1)] maxLocals)) t := by
      intro t k
      refine g126 t ?_
      show Steps p.tables e below (T125.setTop (mkF m 224 #[.val (.int p1), .val (.ref b1), .unset, .unset] [(.int (4 : Int32))])) _
      refine XS.istoreN X125.here hx rfl (hb hby at_224) rfl (l' := #[.val (.int p1), .val (.ref b1), .val (.int (4 : Int32)), .unset]) rfl ?_
      show Steps p.tables e below (T125.setTop (mkF m 225 #[.val (.int p1), .val (.ref b1), .val (.int (4 : Int32)), .unset] [])) _
      refine XS.iloadN X125.here hx rfl (hb hby at_225) rfl ?_
      show Steps p.tables e below (T125.setTop (mkF m 226 #[.val (.int p1), .val (.ref b1), .val (.int (4 : Int32)), .unset] [(.int (4 : Int32))])) _
      refine XS.bipush X125.here hx rfl (hb hby at_226) ?_
      show Steps p.tables e below (T125.setTop (mkF m 228 #[.val (.int p1), .val (.ref b1), .val (.int (4 : Int32)), .unset] [(.int (23 : Int32)), (.int (4 : Int32))])) _
      refine XS.icmpYes X125.here hx rfl (pc0 := 228) (pc' := 236) rfl (hb hby at_228) rfl (feq (by decide : ¬ ((4 : Int32) = (23 : Int32)))).2 (by decide) (by decide) ?_
      show Steps p.tables e below (T125.setTop (mkF m 236 #[.val (.int p1), .val (.ref b1), .val (.int (4 : Int32)), .unset] [])) _
      refine XS.iloadN X125.here hx rfl (hb hby at_236) rfl ?_
      show Steps p.tables e below (T125.setTop (mkF m 237 #[.val (.int p1), .val (.ref b1), .val (.int (4 : Int32)), .unset] [(.int (4 : Int32))])) _
      refine XS.bipush X125.here hx rfl (hb hby at_237) ?_
      show Steps p.tables e below (T125.setTop (mkF m 239 #[.val (.int p1), .val (.ref b1), .val (.int (4 : Int32)), .unset] [(.int (28 : Int32)), (.int (4 : Int32))])) _
      refine XS.icmpYes X125.here hx rfl (pc0 := 239) (pc' := 247) rfl (hb hby at_239) rfl (feq (by decide : ¬ ((4 : Int32) = (28 : Int32)))).2 (by decide) (by decide) ?_
      show Steps p.tables e below (T125.setTop (mkF m 247 #[.val (.int p1), .val (.ref b1), .val (.int (4 : Int32)), .unset] [])) _
      refine XS.iloadN X125.here hx rfl (hb hby at_247) rfl ?_
      show Steps p.tables e below (T125.setTop (mkF m 248 #[.val (.int p1), .val (.ref b1), .val (.int (4 : Int32)), .unset] [(.int (4 : Int32))])) _
      refine XS.bipush X125.here hx rfl (hb hby at_248) ?_
      show Steps p.tables e below (T125.setTop (mkF m 250 #[.val (.int p1), .val (.ref b1), .val (.int (4 : Int32)), .unset] [(.int (30 : Int32)), (.int (4 : Int32))])) _
      refine XS.icmpYes X125.here hx rfl (pc0 := 250) (pc' := 258) rfl (hb hby at_250) rfl (feq (by decide : ¬ ((4 : Int32) = (30 : Int32)))).2 (by decide) (by decide) ?_
      show Steps p.tables e below (T125.setTop (mkF m 258 #[.val (.int p1), .val (.ref b1), .val (.int (4 : Int32)), .unset] [])) _
      refine XS.iconst X125.here hx rfl (hb hby at_258) ?_
      show Steps p.tables e below (T125.setTop (mkF m 259 #[.val (.int p1), .val (.ref b1), .val (.int (4 : Int32)), .unset] [(.int (1 : Int32))])) _
      refine XS.istoreN X125.here hx rfl (hb hby at_259) rfl (l' := #[.val (.int p1), .val (.ref b1), .val (.int (4 : Int32)), .val (.int (1 : Int32))]) rfl ?_
      show Steps p.tables e below (T125.setTop (mkF m 260 #[.val (.int p1), .val (.ref b1), .val (.int (4 : Int32)), .val (.int (1 : Int32))] [])) _
      refine XS.aloadN X125.here hx rfl (hb hby at_260) rfl rfl ?_
      show Steps p.tables e below (T125.setTop (mkF m 261 #[.val (.int p1), .val (.ref b1), .val (.int (4 : Int32)), .val (.int (1 : Int32))] [(.ref b1)])) _
      refine XS.iloadN X125.here hx rfl (hb hby at_261) rfl ?_
      show Steps p.tables e below (T125.setTop (mkF m 262 #[.val (.int p1), .val (.ref b1), .val (.int (4 : Int32)), .val (.int (1 : Int32))] [(.int (4 : Int32)), (.ref b1)])) _
      refine X125.aaload hx (j := (4 : Int32)) (v := (.ref w4)) (by rw [e125]; exact Ar147.1) (State.isArrayOf_alike hZ.alike Ar147.2.1) rfl Ar147.2.2 hin147 hat147 (g := (mkF m 262 #[.val (.int p1), .val (.ref b1), .val (.int (4 : Int32)), .val (.int (1 : Int32))] [(.int (4 : Int32)), (.ref b1)])) rfl rfl (hb hby at_262) _ ?_
      show Steps p.tables e below (T125.setTop (mkF m 263 #[.val (.int p1), .val (.ref b1), .val (.int (4 : Int32)), .val (.int (1 : Int32))] [(.ref w4)])) _
      refine st150.trans ?_
      show Steps p.tables e below (T150.setTop (mkF m 266 #[.val (.int p1), .val (.ref b1), .val (.int (4 : Int32)), .val (.int (1 : Int32))] [(.int (1 : Int32))])) _
      refine XS.iloadN X150.here hx rfl (hb hby at_266) rfl ?_
      show Steps p.tables e below (T150.setTop (mkF m 267 #[.val (.int p1), .val (.ref b1), .val (.int (4 : Int32)), .val (.int (1 : Int32))] [(.int (1 : Int32)), (.int (1 : Int32))])) _
      refine XS.icmpNo X150.here hx rfl (hb hby at_267) rfl (teq (by decide : (1 : Int32) = (1 : Int32))).2 ?_
      show Steps p.tables e below (T150.setTop (mkF m 270 #[.val (.int p1), .val (.ref b1), .val (.int (4 : Int32)), .val (.int (1 : Int32))] [])) _
      refine XS.iconst X150.here hx rfl (hb hby at_270) ?_
      show Steps p.tables e below (T150.setTop (mkF m 271 #[.val (.int p1), .val (.ref b1), .val (.int (4 : Int32)), .val (.int (1 : Int32))] [(.int (1 : Int32))])) _
      refine XS.goto X150.here hx rfl (pc0 := 271) (pc' := 275) rfl (hb hby at_271) (by decide) (by decide) ?_
      exact k
    obtain ⟨fs, hrt, hrun, hended, hW, hsame⟩ := X150.leave (v := some (.int (1 : Int32))) (fun h => by rw [Bd.returns] at h; cases h)
    refine ⟨_, _, g151 _ ?_, hrun, hended, _, _, rfl, ?_, ⟨_, rfl⟩, hW, hsame.mono (by decide) (by decide)⟩
    · show Steps p.tables e below (T150.setTop (mkF m 275 #[.val (.int p1), .val (.ref b1), .val (.int (4 : Int32)), .val (.int (1 : Int32))] [(.int (1 : Int32))])) _
      exact retN X150 hx (t := .boolean) Bd.returns (by simp) (hb hby at_275) hrt
    · show own_Q_rm0 Z p1 w0 w1 w2 w3 w4 w5 w6 w7 w8 w9 w10 w11 w12 w13 w14 w15 w16 w17 w18 w19 w20 w21 w22 w23 w24 w25 w26 w27 w28 w29 w30 h0 n0 _ T150.heap _
      rw [e150]
      exact ⟨rfl, N150⟩
  · skip
    obtain ⟨c152, Ar152, cq152, S152, Nn152, Hh152, Gg152⟩ := id V125a
    have hin152 : ¬ ((5 : Int32) < 0 ∨ c152.slots.size ≤ ((5 : Int32)).toNatClampNeg) := inb_of S152 ⟨by decide, by decide⟩
    have hat152 : c152.slots[((5 : Int32)).toNatClampNeg]? = some (.ref w5) := Has.at Hh152 hin152 rfl
    obtain ⟨LL153, XL153, NL153⟩ : ∃ LL : List Loc, Stand p l e room_1 s m #[(.int p1)] below meth c T125 LL 1 31 ∧ Fr n0 LL := ⟨_, X125, N125⟩
    have o154 : Old Z n0 h125 := (Old.wr o122 W125 gz_b1)
    obtain ⟨cq155, kq155, q155a, q155b, q155c⟩ := isOf hZ e125 (Ex_STORE_LOCAL.ext o154.2)
    obtain ⟨_, _, ⟨T155, L155, k155, n155⟩, -, X155, ⟨Lc155, hQ155, l155, y155, z155⟩, st155⟩ := XL153.virtualBack hx (y := (⟨"com/example/chalkline/chalkline/runtime/Opcode", "fallsThrough", "()Z"⟩ : MethodName)) (z := (⟨"com/example/chalkline/chalkline/runtime/Opcode", "fallsThrough", "()Z"⟩ : MethodName)) hown (mvT hZ (hw _ (List.mem_of_getElem? (i := 67) rfl))) (mvT hZ (hw _ (List.mem_of_getElem? (i := 68) rfl))) (notFace_of_selects (args := #[]) (mvT hZ (hw _ (List.mem_of_getElem? (i := 70) rfl)))) (mvT hZ (hw _ (List.mem_of_getElem? (i := 70) rfl))) (mvT hZ (hw _ (List.mem_of_getElem? (i := 69) rfl))) (by decide) (backOf (W := 0) (rmM l Z a0 hw [] w5 (1 : Int32) w0 w1 w2 w3 w4 w5 w6 w7 w8 w9 w10 w11 w12 w13 w14 w15 w16 w17 w18 w19 w20 w21 w22 w23 w24 w25 w26 w27 w28 w29 w30 h125 n0 o154 G0 (by rw [if_neg (Fld.ne Fo5 Fo23 (own_ni (by decide))), if_neg (Fld.ne Fo5 Fo28 (own_ni (by decide))), if_neg (Fld.ne Fo5 Fo30 (own_ni (by decide)))])) hZ (hw _ (List.mem_of_getElem? (i := 71) rfl)) (hw _ (List.mem_of_getElem? (i := 3) rfl)) (by decide) (by decide)) q155a q155c (g := (mkF m 263 #[.val (.int p1), .val (.ref b1), .val (.int (5 : Int32)), .val (.int (1 : Int32))] [(.ref w5)])) rfl (by rw [hml]; rfl) (Steps.refl _) (argsL := []) (rest := []) (lenOf own_pd0 rfl) rfl (by show 2 * 0 + _ ≤ _; exact Nat.le_of_eq rfl) (hb hby at_263) (fun _ _ => ⟨rfl, e125, (by decide : 1 + 0 ≤ _), (by decide : 31 + 0 ≤ _)⟩)
    dsimp only [Pt.U, Pt.locs, Pt.cells, Pt.slots] at X155 l155 y155 z155 st155 hQ155
    subst l155 y155 z155
    obtain ⟨rfl, Nq155, e155⟩ := hQ155
    have N155 := Fr.app NL153 Nq155
    have g156 : ∀ t, Steps p.tables e below (T155.setTop (mkF m 275 #[.val (.int p1), .val (.ref b1), .val (.int (5 : Int32)), .val (.int (1 : Int32))] [(.int (1 : Int32))])) t → Steps p.tables e below (s₁.setTop (entryFrame m #[(.int p1)] maxLocals)) t := by
      intro t k
      refine g126 t ?_
      show Steps p.tables e below (T125.setTop (mkF m 224 #[.val (.int p1), .val (.ref b1), .unset, .unset] [(.int (5 : Int32))])) _
      refine XS.istoreN X125.here hx rfl (hb hby at_224) rfl (l' := #[.val (.int p1), .val (.ref b1), .val (.int (5 : Int32)), .unset]) rfl ?_
      show Steps p.tables e below (T125.setTop (mkF m 225 #[.val (.int p1), .val (.ref b1), .val (.int (5 : Int32)), .unset] [])) _
      refine XS.iloadN X125.here hx rfl (hb hby at_225) rfl ?_
      show Steps p.tables e below (T125.setTop (mkF m 226 #[.val (.int p1), .val (.ref b1), .val (.int (5 : Int32)), .unset] [(.int (5 : Int32))])) _
      refine XS.bipush X125.here hx rfl (hb hby at_226) ?_
      show Steps p.tables e below (T125.setTop (mkF m 228 #[.val (.int p1), .val (.ref b1), .val (.int (5 : Int32)), .unset] [(.int (23 : Int32)), (.int (5 : Int32))])) _
      refine XS.icmpYes X125.here hx rfl (pc0 := 228) (pc' := 236) rfl (hb hby at_228) rfl (feq (by decide : ¬ ((5 : Int32) = (23 : Int32)))).2 (by decide) (by decide) ?_
      show Steps p.tables e below (T125.setTop (mkF m 236 #[.val (.int p1), .val (.ref b1), .val (.int (5 : Int32)), .unset] [])) _
      refine XS.iloadN X125.here hx rfl (hb hby at_236) rfl ?_
      show Steps p.tables e below (T125.setTop (mkF m 237 #[.val (.int p1), .val (.ref b1), .val (.int (5 : Int32)), .unset] [(.int (5 : Int32))])) _
      refine XS.bipush X125.here hx rfl (hb hby at_237) ?_
      show Steps p.tables e below (T125.setTop (mkF m 239 #[.val (.int p1), .val (.ref b1), .val (.int (5 : Int32)), .unset] [(.int (28 : Int32)), (.int (5 : Int32))])) _
      refine XS.icmpYes X125.here hx rfl (pc0 := 239) (pc' := 247) rfl (hb hby at_239) rfl (feq (by decide : ¬ ((5 : Int32) = (28 : Int32)))).2 (by decide) (by decide) ?_
      show Steps p.tables e below (T125.setTop (mkF m 247 #[.val (.int p1), .val (.ref b1), .val (.int (5 : Int32)), .unset] [])) _
      refine XS.iloadN X125.here hx rfl (hb hby at_247) rfl ?_
      show Steps p.tables e below (T125.setTop (mkF m 248 #[.val (.int p1), .val (.ref b1), .val (.int (5 : Int32)), .unset] [(.int (5 : Int32))])) _
      refine XS.bipush X125.here hx rfl (hb hby at_248) ?_
      show Steps p.tables e below (T125.setTop (mkF m 250 #[.val (.int p1), .val (.ref b1), .val (.int (5 : Int32)), .unset] [(.int (30 : Int32)), (.int (5 : Int32))])) _
      refine XS.icmpYes X125.here hx rfl (pc0 := 250) (pc' := 258) rfl (hb hby at_250) rfl (feq (by decide : ¬ ((5 : Int32) = (30 : Int32)))).2 (by decide) (by decide) ?_
      show Steps p.tables e below (T125.setTop (mkF m 258 #[.val (.int p1), .val (.ref b1), .val (.int (5 : Int32)), .unset] [])) _
      refine XS.iconst X125.here hx rfl (hb hby at_258) ?_
      show Steps p.tables e below (T125.setTop (mkF m 259 #[.val (.int p1), .val (.ref b1), .val (.int (5 : Int32)), .unset] [(.int (1 : Int32))])) _
      refine XS.istoreN X125.here hx rfl (hb hby at_259) rfl (l' := #[.val (.int p1), .val (.ref b1), .val (.int (5 : Int32)), .val (.int (1 : Int32))]) rfl ?_
      show Steps p.tables e below (T125.setTop (mkF m 260 #[.val (.int p1), .val (.ref b1), .val (.int (5 : Int32)), .val (.int (1 : Int32))] [])) _
      refine XS.aloadN X125.here hx rfl (hb hby at_260) rfl rfl ?_
      show Steps p.tables e below (T125.setTop (mkF m 261 #[.val (.int p1), .val (.ref b1), .val (.int (5 : Int32)), .val (.int (1 : Int32))] [(.ref b1)])) _
      refine XS.iloadN X125.here hx rfl (hb hby at_261) rfl ?_
      show Steps p.tables e below (T125.setTop (mkF m 262 #[.val (.int p1), .val (.ref b1), .val (.int (5 : Int32)), .val (.int (1 : Int32))] [(.int (5 : Int32)), (.ref b1)])) _
      refine X125.aaload hx (j := (5 : Int32)) (v := (.ref w5)) (by rw [e125]; exact Ar152.1) (State.isArrayOf_alike hZ.alike Ar152.2.1) rfl Ar152.2.2 hin152 hat152 (g := (mkF m 262 #[.val (.int p1), .val (.ref b1), .val (.int (5 : Int32)), .val (.int (1 : Int32))] [(.int (5 : Int32)), (.ref b1)])) rfl rfl (hb hby at_262) _ ?_
      show Steps p.tables e below (T125.setTop (mkF m 263 #[.val (.int p1), .val (.ref b1), .val (.int (5 : Int32)), .val (.int (1 : Int32))] [(.ref w5)])) _
      refine st155.trans ?_
      show Steps p.tables e below (T155.setTop (mkF m 266 #[.val (.int p1), .val (.ref b1), .val (.int (5 : Int32)), .val (.int (1 : Int32))] [(.int (1 : Int32))])) _
      refine XS.iloadN X155.here hx rfl (hb hby at_266) rfl ?_
      show Steps p.tables e below (T155.setTop (mkF m 267 #[.val (.int p1), .val (.ref b1), .val (.int (5 : Int32)), .val (.int (1 : Int32))] [(.int (1 : Int32)), (.int (1 : Int32))])) _
      refine XS.icmpNo X155.here hx rfl (hb hby at_267) rfl (teq (by decide : (1 : Int32) = (1 : Int32))).2 ?_
      show Steps p.tables e below (T155.setTop (mkF m 270 #[.val (.int p1), .val (.ref b1), .val (.int (5 : Int32)), .val (.int (1 : Int32))] [])) _
      refine XS.iconst X155.here hx rfl (hb hby at_270) ?_
      show Steps p.tables e below (T155.setTop (mkF m 271 #[.val (.int p1), .val (.ref b1), .val (.int (5 : Int32)), .val (.int (1 : Int32))] [(.int (1 : Int32))])) _
      refine XS.goto X155.here hx rfl (pc0 := 271) (pc' := 275) rfl (hb hby at_271) (by decide) (by decide) ?_
      exact k
    obtain ⟨fs, hrt, hrun, hended, hW, hsame⟩ := X155.leave (v := some (.int (1 : Int32))) (fun h => by rw [Bd.returns] at h; cases h)
    refine ⟨_, _, g156 _ ?_, hrun, hended, _, _, rfl, ?_, ⟨_, rfl⟩, hW, hsame.mono (by decide) (by decide)⟩
    · show Steps p.tables e below (T155.setTop (mkF m 275 #[.val (.int p1), .val (.ref b1), .val (.int (5 : Int32)), .val (.int (1 : Int32))] [(.int (1 : Int32))])) _
      exact retN X155 hx (t := .boolean) Bd.returns (by simp) (hb hby at_275) hrt
    · show own_Q_rm0 Z p1 w0 w1 w2 w3 w4 w5 w6 w7 w8 w9 w10 w11 w12 w13 w14 w15 w16 w17 w18 w19 w20 w21 w22 w23 w24 w25 w26 w27 w28 w29 w30 h0 n0 _ T155.heap _
      rw [e155]
      exact ⟨rfl, N155⟩
  · skip
    obtain ⟨c157, Ar157, cq157, S157, Nn157, Hh157, Gg157⟩ := id V125a
    have hin157 : ¬ ((6 : Int32) < 0 ∨ c157.slots.size ≤ ((6 : Int32)).toNatClampNeg) := inb_of S157 ⟨by decide, by decide⟩
    have hat157 : c157.slots[((6 : Int32)).toNatClampNeg]? = some (.ref w6) := Has.at Hh157 hin157 rfl
    obtain ⟨LL158, XL158, NL158⟩ : ∃ LL : List Loc, Stand p l e room_1 s m #[(.int p1)] below meth c T125 LL 1 31 ∧ Fr n0 LL := ⟨_, X125, N125⟩
    have o159 : Old Z n0 h125 := (Old.wr o122 W125 gz_b1)
    obtain ⟨cq160, kq160, q160a, q160b, q160c⟩ := isOf hZ e125 (Ex_POP.ext o159.2)
    obtain ⟨_, _, ⟨T160, L160, k160, n160⟩, -, X160, ⟨Lc160, hQ160, l160, y160, z160⟩, st160⟩ := XL158.virtualBack hx (y := (⟨"com/example/chalkline/chalkline/runtime/Opcode", "fallsThrough", "()Z"⟩ : MethodName)) (z := (⟨"com/example/chalkline/chalkline/runtime/Opcode", "fallsThrough", "()Z"⟩ : MethodName)) hown (mvT hZ (hw _ (List.mem_of_getElem? (i := 67) rfl))) (mvT hZ (hw _ (List.mem_of_getElem? (i := 68) rfl))) (notFace_of_selects (args := #[]) (mvT hZ (hw _ (List.mem_of_getElem? (i := 70) rfl)))) (mvT hZ (hw _ (List.mem_of_getElem? (i := 70) rfl))) (mvT hZ (hw _ (List.mem_of_getElem? (i := 69) rfl))) (by decide) (backOf (W := 0) (rmM l Z a0 hw [] w6 (1 : Int32) w0 w1 w2 w3 w4 w5 w6 w7 w8 w9 w10 w11 w12 w13 w14 w15 w16 w17 w18 w19 w20 w21 w22 w23 w24 w25 w26 w27 w28 w29 w30 h125 n0 o159 G0 (by rw [if_neg (Fld.ne Fo6 Fo23 (own_ni (by decide))), if_neg (Fld.ne Fo6 Fo28 (own_ni (by decide))), if_neg (Fld.ne Fo6 Fo30 (own_ni (by decide)))])) hZ (hw _ (List.mem_of_getElem? (i := 71) rfl)) (hw _ (List.mem_of_getElem? (i := 3) rfl)) (by decide) (by decide)) q160a q160c (g := (mkF m 263 #[.val (.int p1), .val (.ref b1), .val (.int (6 : Int32)), .val (.int (1 : Int32))] [(.ref w6)])) rfl (by rw [hml]; rfl) (Steps.refl _) (argsL := []) (rest := []) (lenOf own_pd0 rfl) rfl (by show 2 * 0 + _ ≤ _; exact Nat.le_of_eq rfl) (hb hby at_263) (fun _ _ => ⟨rfl, e125, (by decide : 1 + 0 ≤ _), (by decide : 31 + 0 ≤ _)⟩)
    dsimp only [Pt.U, Pt.locs, Pt.cells, Pt.slots] at X160 l160 y160 z160 st160 hQ160
    subst l160 y160 z160
    obtain ⟨rfl, Nq160, e160⟩ := hQ160
    have N160 := Fr.app NL158 Nq160
    have g161 : ∀ t, Steps p.tables e below (T160.setTop (mkF m 275 #[.val (.int p1), .val (.ref b1), .val (.int (6 : Int32)), .val (.int (1 : Int32))] [(.int (1 : Int32))])) t → Steps p.tables e below (s₁.setTop (entryFrame m #[(.int p1)] maxLocals)) t := by
      intro t k
      refine g126 t ?_
      show Steps p.tables e below (T125.setTop (mkF m 224 #[.val (.int p1), .val (.ref b1), .unset, .unset] [(.int (6 : Int32))])) _
      refine XS.istoreN X125.here hx rfl (hb hby at_224) rfl (l' := #[.val (.int p1), .val (.ref b1), .val (.int (6 : Int32)), .unset]) rfl ?_
      show Steps p.tables e below (T125.setTop (mkF m 225 #[.val (.int p1), .val (.ref b1), .val (.int (6 : Int32)), .unset] [])) _
      refine XS.iloadN X125.here hx rfl (hb hby at_225) rfl ?_
      show Steps p.tables e below (T125.setTop (mkF m 226 #[.val (.int p1), .val (.ref b1), .val (.int (6 : Int32)), .unset] [(.int (6 : Int32))])) _
      refine XS.bipush X125.here hx rfl (hb hby at_226) ?_
      show Steps p.tables e below (T125.setTop (mkF m 228 #[.val (.int p1), .val (.ref b1), .val (.int (6 : Int32)), .unset] [(.int (23 : Int32)), (.int (6 : Int32))])) _
      refine XS.icmpYes X125.here hx rfl (pc0 := 228) (pc' := 236) rfl (hb hby at_228) rfl (feq (by decide : ¬ ((6 : Int32) = (23 : Int32)))).2 (by decide) (by decide) ?_
      show Steps p.tables e below (T125.setTop (mkF m 236 #[.val (.int p1), .val (.ref b1), .val (.int (6 : Int32)), .unset] [])) _
      refine XS.iloadN X125.here hx rfl (hb hby at_236) rfl ?_
      show Steps p.tables e below (T125.setTop (mkF m 237 #[.val (.int p1), .val (.ref b1), .val (.int (6 : Int32)), .unset] [(.int (6 : Int32))])) _
      refine XS.bipush X125.here hx rfl (hb hby at_237) ?_
      show Steps p.tables e below (T125.setTop (mkF m 239 #[.val (.int p1), .val (.ref b1), .val (.int (6 : Int32)), .unset] [(.int (28 : Int32)), (.int (6 : Int32))])) _
      refine XS.icmpYes X125.here hx rfl (pc0 := 239) (pc' := 247) rfl (hb hby at_239) rfl (feq (by decide : ¬ ((6 : Int32) = (28 : Int32)))).2 (by decide) (by decide) ?_
      show Steps p.tables e below (T125.setTop (mkF m 247 #[.val (.int p1), .val (.ref b1), .val (.int (6 : Int32)), .unset] [])) _
      refine XS.iloadN X125.here hx rfl (hb hby at_247) rfl ?_
      show Steps p.tables e below (T125.setTop (mkF m 248 #[.val (.int p1), .val (.ref b1), .val (.int (6 : Int32)), .unset] [(.int (6 : Int32))])) _
      refine XS.bipush X125.here hx rfl (hb hby at_248) ?_
      show Steps p.tables e below (T125.setTop (mkF m 250 #[.val (.int p1), .val (.ref b1), .val (.int (6 : Int32)), .unset] [(.int (30 : Int32)), (.int (6 : Int32))])) _
      refine XS.icmpYes X125.here hx rfl (pc0 := 250) (pc' := 258) rfl (hb hby at_250) rfl (feq (by decide : ¬ ((6 : Int32) = (30 : Int32)))).2 (by decide) (by decide) ?_
      show Steps p.tables e below (T125.setTop (mkF m 258 #[.val (.int p1), .val (.ref b1), .val (.int (6 : Int32)), .unset] [])) _
      refine XS.iconst X125.here hx rfl (hb hby at_258) ?_
      show Steps p.tables e below (T125.setTop (mkF m 259 #[.val (.int p1), .val (.ref b1), .val (.int (6 : Int32)), .unset] [(.int (1 : Int32))])) _
      refine XS.istoreN X125.here hx rfl (hb hby at_259) rfl (l' := #[.val (.int p1), .val (.ref b1), .val (.int (6 : Int32)), .val (.int (1 : Int32))]) rfl ?_
      show Steps p.tables e below (T125.setTop (mkF m 260 #[.val (.int p1), .val (.ref b1), .val (.int (6 : Int32)), .val (.int (1 : Int32))] [])) _
      refine XS.aloadN X125.here hx rfl (hb hby at_260) rfl rfl ?_
      show Steps p.tables e below (T125.setTop (mkF m 261 #[.val (.int p1), .val (.ref b1), .val (.int (6 : Int32)), .val (.int (1 : Int32))] [(.ref b1)])) _
      refine XS.iloadN X125.here hx rfl (hb hby at_261) rfl ?_
      show Steps p.tables e below (T125.setTop (mkF m 262 #[.val (.int p1), .val (.ref b1), .val (.int (6 : Int32)), .val (.int (1 : Int32))] [(.int (6 : Int32)), (.ref b1)])) _
      refine X125.aaload hx (j := (6 : Int32)) (v := (.ref w6)) (by rw [e125]; exact Ar157.1) (State.isArrayOf_alike hZ.alike Ar157.2.1) rfl Ar157.2.2 hin157 hat157 (g := (mkF m 262 #[.val (.int p1), .val (.ref b1), .val (.int (6 : Int32)), .val (.int (1 : Int32))] [(.int (6 : Int32)), (.ref b1)])) rfl rfl (hb hby at_262) _ ?_
      show Steps p.tables e below (T125.setTop (mkF m 263 #[.val (.int p1), .val (.ref b1), .val (.int (6 : Int32)), .val (.int (1 : Int32))] [(.ref w6)])) _
      refine st160.trans ?_
      show Steps p.tables e below (T160.setTop (mkF m 266 #[.val (.int p1), .val (.ref b1), .val (.int (6 : Int32)), .val (.int (1 : Int32))] [(.int (1 : Int32))])) _
      refine XS.iloadN X160.here hx rfl (hb hby at_266) rfl ?_
      show Steps p.tables e below (T160.setTop (mkF m 267 #[.val (.int p1), .val (.ref b1), .val (.int (6 : Int32)), .val (.int (1 : Int32))] [(.int (1 : Int32)), (.int (1 : Int32))])) _
      refine XS.icmpNo X160.here hx rfl (hb hby at_267) rfl (teq (by decide : (1 : Int32) = (1 : Int32))).2 ?_
      show Steps p.tables e below (T160.setTop (mkF m 270 #[.val (.int p1), .val (.ref b1), .val (.int (6 : Int32)), .val (.int (1 : Int32))] [])) _
      refine XS.iconst X160.here hx rfl (hb hby at_270) ?_
      show Steps p.tables e below (T160.setTop (mkF m 271 #[.val (.int p1), .val (.ref b1), .val (.int (6 : Int32)), .val (.int (1 : Int32))] [(.int (1 : Int32))])) _
      refine XS.goto X160.here hx rfl (pc0 := 271) (pc' := 275) rfl (hb hby at_271) (by decide) (by decide) ?_
      exact k
    obtain ⟨fs, hrt, hrun, hended, hW, hsame⟩ := X160.leave (v := some (.int (1 : Int32))) (fun h => by rw [Bd.returns] at h; cases h)
    refine ⟨_, _, g161 _ ?_, hrun, hended, _, _, rfl, ?_, ⟨_, rfl⟩, hW, hsame.mono (by decide) (by decide)⟩
    · show Steps p.tables e below (T160.setTop (mkF m 275 #[.val (.int p1), .val (.ref b1), .val (.int (6 : Int32)), .val (.int (1 : Int32))] [(.int (1 : Int32))])) _
      exact retN X160 hx (t := .boolean) Bd.returns (by simp) (hb hby at_275) hrt
    · show own_Q_rm0 Z p1 w0 w1 w2 w3 w4 w5 w6 w7 w8 w9 w10 w11 w12 w13 w14 w15 w16 w17 w18 w19 w20 w21 w22 w23 w24 w25 w26 w27 w28 w29 w30 h0 n0 _ T160.heap _
      rw [e160]
      exact ⟨rfl, N160⟩
  · skip
    obtain ⟨c162, Ar162, cq162, S162, Nn162, Hh162, Gg162⟩ := id V125a
    have hin162 : ¬ ((7 : Int32) < 0 ∨ c162.slots.size ≤ ((7 : Int32)).toNatClampNeg) := inb_of S162 ⟨by decide, by decide⟩
    have hat162 : c162.slots[((7 : Int32)).toNatClampNeg]? = some (.ref w7) := Has.at Hh162 hin162 rfl
    obtain ⟨LL163, XL163, NL163⟩ : ∃ LL : List Loc, Stand p l e room_1 s m #[(.int p1)] below meth c T125 LL 1 31 ∧ Fr n0 LL := ⟨_, X125, N125⟩
    have o164 : Old Z n0 h125 := (Old.wr o122 W125 gz_b1)
    obtain ⟨cq165, kq165, q165a, q165b, q165c⟩ := isOf hZ e125 (Ex_ADD.ext o164.2)
    obtain ⟨_, _, ⟨T165, L165, k165, n165⟩, -, X165, ⟨Lc165, hQ165, l165, y165, z165⟩, st165⟩ := XL163.virtualBack hx (y := (⟨"com/example/chalkline/chalkline/runtime/Opcode", "fallsThrough", "()Z"⟩ : MethodName)) (z := (⟨"com/example/chalkline/chalkline/runtime/Opcode", "fallsThrough", "()Z"⟩ : MethodName)) hown (mvT hZ (hw _ (List.mem_of_getElem? (i := 67) rfl))) (mvT hZ (hw _ (List.mem_of_getElem? (i := 68) rfl))) (notFace_of_selects (args := #[]) (mvT hZ (hw _ (List.mem_of_getElem? (i := 70) rfl)))) (mvT hZ (hw _ (List.mem_of_getElem? (i := 70) rfl))) (mvT hZ (hw _ (List.mem_of_getElem? (i := 69) rfl))) (by decide) (backOf (W := 0) (rmM l Z a0 hw [] w7 (1 : Int32) w0 w1 w2 w3 w4 w5 w6 w7 w8 w9 w10 w11 w12 w13 w14 w15 w16 w17 w18 w19 w20 w21 w22 w23 w24 w25 w26 w27 w28 w29 w30 h125 n0 o164 G0 (by rw [if_neg (Fld.ne Fo7 Fo23 (own_ni (by decide))), if_neg (Fld.ne Fo7 Fo28 (own_ni (by decide))), if_neg (Fld.ne Fo7 Fo30 (own_ni (by decide)))])) hZ (hw _ (List.mem_of_getElem? (i := 71) rfl)) (hw _ (List.mem_of_getElem? (i := 3) rfl)) (by decide) (by decide)) q165a q165c (g := (mkF m 263 #[.val (.int p1), .val (.ref b1), .val (.int (7 : Int32)), .val (.int (1 : Int32))] [(.ref w7)])) rfl (by rw [hml]; rfl) (Steps.refl _) (argsL := []) (rest := []) (lenOf own_pd0 rfl) rfl (by show 2 * 0 + _ ≤ _; exact Nat.le_of_eq rfl) (hb hby at_263) (fun _ _ => ⟨rfl, e125, (by decide : 1 + 0 ≤ _), (by decide : 31 + 0 ≤ _)⟩)
    dsimp only [Pt.U, Pt.locs, Pt.cells, Pt.slots] at X165 l165 y165 z165 st165 hQ165
    subst l165 y165 z165
    obtain ⟨rfl, Nq165, e165⟩ := hQ165
    have N165 := Fr.app NL163 Nq165
    have g166 : ∀ t, Steps p.tables e below (T165.setTop (mkF m 275 #[.val (.int p1), .val (.ref b1), .val (.int (7 : Int32)), .val (.int (1 : Int32))] [(.int (1 : Int32))])) t → Steps p.tables e below (s₁.setTop (entryFrame m #[(.int p1)] maxLocals)) t := by
      intro t k
      refine g126 t ?_
      show Steps p.tables e below (T125.setTop (mkF m 224 #[.val (.int p1), .val (.ref b1), .unset, .unset] [(.int (7 : Int32))])) _
      refine XS.istoreN X125.here hx rfl (hb hby at_224) rfl (l' := #[.val (.int p1), .val (.ref b1), .val (.int (7 : Int32)), .unset]) rfl ?_
      show Steps p.tables e below (T125.setTop (mkF m 225 #[.val (.int p1), .val (.ref b1), .val (.int (7 : Int32)), .unset] [])) _
      refine XS.iloadN X125.here hx rfl (hb hby at_225) rfl ?_
      show Steps p.tables e below (T125.setTop (mkF m 226 #[.val (.int p1), .val (.ref b1), .val (.int (7 : Int32)), .unset] [(.int (7 : Int32))])) _
      refine XS.bipush X125.here hx rfl (hb hby at_226) ?_
      show Steps p.tables e below (T125.setTop (mkF m 228 #[.val (.int p1), .val (.ref b1), .val (.int (7 : Int32)), .unset] [(.int (23 : Int32)), (.int (7 : Int32))])) _
      refine XS.icmpYes X125.here hx rfl (pc0 := 228) (pc' := 236) rfl (hb hby at_228) rfl (feq (by decide : ¬ ((7 : Int32) = (23 : Int32)))).2 (by decide) (by decide) ?_
      show Steps p.tables e below (T125.setTop (mkF m 236 #[.val (.int p1), .val (.ref b1), .val (.int (7 : Int32)), .unset] [])) _
      refine XS.iloadN X125.here hx rfl (hb hby at_236) rfl ?_
      show Steps p.tables e below (T125.setTop (mkF m 237 #[.val (.int p1), .val (.ref b1), .val (.int (7 : Int32)), .unset] [(.int (7 : Int32))])) _
      refine XS.bipush X125.here hx rfl (hb hby at_237) ?_
      show Steps p.tables e below (T125.setTop (mkF m 239 #[.val (.int p1), .val (.ref b1), .val (.int (7 : Int32)), .unset] [(.int (28 : Int32)), (.int (7 : Int32))])) _
      refine XS.icmpYes X125.here hx rfl (pc0 := 239) (pc' := 247) rfl (hb hby at_239) rfl (feq (by decide : ¬ ((7 : Int32) = (28 : Int32)))).2 (by decide) (by decide) ?_
      show Steps p.tables e below (T125.setTop (mkF m 247 #[.val (.int p1), .val (.ref b1), .val (.int (7 : Int32)), .unset] [])) _
      refine XS.iloadN X125.here hx rfl (hb hby at_247) rfl ?_
      show Steps p.tables e below (T125.setTop (mkF m 248 #[.val (.int p1), .val (.ref b1), .val (.int (7 : Int32)), .unset] [(.int (7 : Int32))])) _
      refine XS.bipush X125.here hx rfl (hb hby at_248) ?_
      show Steps p.tables e below (T125.setTop (mkF m 250 #[.val (.int p1), .val (.ref b1), .val (.int (7 : Int32)), .unset] [(.int (30 : Int32)), (.int (7 : Int32))])) _
      refine XS.icmpYes X125.here hx rfl (pc0 := 250) (pc' := 258) rfl (hb hby at_250) rfl (feq (by decide : ¬ ((7 : Int32) = (30 : Int32)))).2 (by decide) (by decide) ?_
      show Steps p.tables e below (T125.setTop (mkF m 258 #[.val (.int p1), .val (.ref b1), .val (.int (7 : Int32)), .unset] [])) _
      refine XS.iconst X125.here hx rfl (hb hby at_258) ?_
      show Steps p.tables e below (T125.setTop (mkF m 259 #[.val (.int p1), .val (.ref b1), .val (.int (7 : Int32)), .unset] [(.int (1 : Int32))])) _
      refine XS.istoreN X125.here hx rfl (hb hby at_259) rfl (l' := #[.val (.int p1), .val (.ref b1), .val (.int (7 : Int32)), .val (.int (1 : Int32))]) rfl ?_
      show Steps p.tables e below (T125.setTop (mkF m 260 #[.val (.int p1), .val (.ref b1), .val (.int (7 : Int32)), .val (.int (1 : Int32))] [])) _
      refine XS.aloadN X125.here hx rfl (hb hby at_260) rfl rfl ?_
      show Steps p.tables e below (T125.setTop (mkF m 261 #[.val (.int p1), .val (.ref b1), .val (.int (7 : Int32)), .val (.int (1 : Int32))] [(.ref b1)])) _
      refine XS.iloadN X125.here hx rfl (hb hby at_261) rfl ?_
      show Steps p.tables e below (T125.setTop (mkF m 262 #[.val (.int p1), .val (.ref b1), .val (.int (7 : Int32)), .val (.int (1 : Int32))] [(.int (7 : Int32)), (.ref b1)])) _
      refine X125.aaload hx (j := (7 : Int32)) (v := (.ref w7)) (by rw [e125]; exact Ar162.1) (State.isArrayOf_alike hZ.alike Ar162.2.1) rfl Ar162.2.2 hin162 hat162 (g := (mkF m 262 #[.val (.int p1), .val (.ref b1), .val (.int (7 : Int32)), .val (.int (1 : Int32))] [(.int (7 : Int32)), (.ref b1)])) rfl rfl (hb hby at_262) _ ?_
      show Steps p.tables e below (T125.setTop (mkF m 263 #[.val (.int p1), .val (.ref b1), .val (.int (7 : Int32)), .val (.int (1 : Int32))] [(.ref w7)])) _
      refine st165.trans ?_
      show Steps p.tables e below (T165.setTop (mkF m 266 #[.val (.int p1), .val (.ref b1), .val (.int (7 : Int32)), .val (.int (1 : Int32))] [(.int (1 : Int32))])) _
      refine XS.iloadN X165.here hx rfl (hb hby at_266) rfl ?_
      show Steps p.tables e below (T165.setTop (mkF m 267 #[.val (.int p1), .val (.ref b1), .val (.int (7 : Int32)), .val (.int (1 : Int32))] [(.int (1 : Int32)), (.int (1 : Int32))])) _
      refine XS.icmpNo X165.here hx rfl (hb hby at_267) rfl (teq (by decide : (1 : Int32) = (1 : Int32))).2 ?_
      show Steps p.tables e below (T165.setTop (mkF m 270 #[.val (.int p1), .val (.ref b1), .val (.int (7 : Int32)), .val (.int (1 : Int32))] [])) _
      refine XS.iconst X165.here hx rfl (hb hby at_270) ?_
      show Steps p.tables e below (T165.setTop (mkF m 271 #[.val (.int p1), .val (.ref b1), .val (.int (7 : Int32)), .val (.int (1 : Int32))] [(.int (1 : Int32))])) _
      refine XS.goto X165.here hx rfl (pc0 := 271) (pc' := 275) rfl (hb hby at_271) (by decide) (by decide) ?_
      exact k
    obtain ⟨fs, hrt, hrun, hended, hW, hsame⟩ := X165.leave (v := some (.int (1 : Int32))) (fun h => by rw [Bd.returns] at h; cases h)
    refine ⟨_, _, g166 _ ?_, hrun, hended, _, _, rfl, ?_, ⟨_, rfl⟩, hW, hsame.mono (by decide) (by decide)⟩
    · show Steps p.tables e below (T165.setTop (mkF m 275 #[.val (.int p1), .val (.ref b1), .val (.int (7 : Int32)), .val (.int (1 : Int32))] [(.int (1 : Int32))])) _
      exact retN X165 hx (t := .boolean) Bd.returns (by simp) (hb hby at_275) hrt
    · show own_Q_rm0 Z p1 w0 w1 w2 w3 w4 w5 w6 w7 w8 w9 w10 w11 w12 w13 w14 w15 w16 w17 w18 w19 w20 w21 w22 w23 w24 w25 w26 w27 w28 w29 w30 h0 n0 _ T165.heap _
      rw [e165]
      exact ⟨rfl, N165⟩
  · skip
    obtain ⟨c167, Ar167, cq167, S167, Nn167, Hh167, Gg167⟩ := id V125a
    have hin167 : ¬ ((8 : Int32) < 0 ∨ c167.slots.size ≤ ((8 : Int32)).toNatClampNeg) := inb_of S167 ⟨by decide, by decide⟩
    have hat167 : c167.slots[((8 : Int32)).toNatClampNeg]? = some (.ref w8) := Has.at Hh167 hin167 rfl
    obtain ⟨LL168, XL168, NL168⟩ : ∃ LL : List Loc, Stand p l e room_1 s m #[(.int p1)] below meth c T125 LL 1 31 ∧ Fr n0 LL := ⟨_, X125, N125⟩
    have o169 : Old Z n0 h125 := (Old.wr o122 W125 gz_b1)
    obtain ⟨cq170, kq170, q170a, q170b, q170c⟩ := isOf hZ e125 (Ex_SUBTRACT.ext o169.2)
    obtain ⟨_, _, ⟨T170, L170, k170, n170⟩, -, X170, ⟨Lc170, hQ170, l170, y170, z170⟩, st170⟩ := XL168.virtualBack hx (y := (⟨"com/example/chalkline/chalkline/runtime/Opcode", "fallsThrough", "()Z"⟩ : MethodName)) (z := (⟨"com/example/chalkline/chalkline/runtime/Opcode", "fallsThrough", "()Z"⟩ : MethodName)) hown (mvT hZ (hw _ (List.mem_of_getElem? (i := 67) rfl))) (mvT hZ (hw _ (List.mem_of_getElem? (i := 68) rfl))) (notFace_of_selects (args := #[]) (mvT hZ (hw _ (List.mem_of_getElem? (i := 70) rfl)))) (mvT hZ (hw _ (List.mem_of_getElem? (i := 70) rfl))) (mvT hZ (hw _ (List.mem_of_getElem? (i := 69) rfl))) (by decide) (backOf (W := 0) (rmM l Z a0 hw [] w8 (1 : Int32) w0 w1 w2 w3 w4 w5 w6 w7 w8 w9 w10 w11 w12 w13 w14 w15 w16 w17 w18 w19 w20 w21 w22 w23 w24 w25 w26 w27 w28 w29 w30 h125 n0 o169 G0 (by rw [if_neg (Fld.ne Fo8 Fo23 (own_ni (by decide))), if_neg (Fld.ne Fo8 Fo28 (own_ni (by decide))), if_neg (Fld.ne Fo8 Fo30 (own_ni (by decide)))])) hZ (hw _ (List.mem_of_getElem? (i := 71) rfl)) (hw _ (List.mem_of_getElem? (i := 3) rfl)) (by decide) (by decide)) q170a q170c (g := (mkF m 263 #[.val (.int p1), .val (.ref b1), .val (.int (8 : Int32)), .val (.int (1 : Int32))] [(.ref w8)])) rfl (by rw [hml]; rfl) (Steps.refl _) (argsL := []) (rest := []) (lenOf own_pd0 rfl) rfl (by show 2 * 0 + _ ≤ _; exact Nat.le_of_eq rfl) (hb hby at_263) (fun _ _ => ⟨rfl, e125, (by decide : 1 + 0 ≤ _), (by decide : 31 + 0 ≤ _)⟩)
    dsimp only [Pt.U, Pt.locs, Pt.cells, Pt.slots] at X170 l170 y170 z170 st170 hQ170
    subst l170 y170 z170
    obtain ⟨rfl, Nq170, e170⟩ := hQ170
    have N170 := Fr.app NL168 Nq170
    have g171 : ∀ t, Steps p.tables e below (T170.setTop (mkF m 275 #[.val (.int p1), .val (.ref b1), .val (.int (8 : Int32)), .val (.int (1 : Int32))] [(.int (1 : Int32))])) t → Steps p.tables e below (s₁.setTop (entryFrame m #[(.int p1)] maxLocals)) t := by
      intro t k
      refine g126 t ?_
      show Steps p.tables e below (T125.setTop (mkF m 224 #[.val (.int p1), .val (.ref b1), .unset, .unset] [(.int (8 : Int32))])) _
      refine XS.istoreN X125.here hx rfl (hb hby at_224) rfl (l' := #[.val (.int p1), .val (.ref b1), .val (.int (8 : Int32)), .unset]) rfl ?_
      show Steps p.tables e below (T125.setTop (mkF m 225 #[.val (.int p1), .val (.ref b1), .val (.int (8 : Int32)), .unset] [])) _
      refine XS.iloadN X125.here hx rfl (hb hby at_225) rfl ?_
      show Steps p.tables e below (T125.setTop (mkF m 226 #[.val (.int p1), .val (.ref b1), .val (.int (8 : Int32)), .unset] [(.int (8 : Int32))])) _
      refine XS.bipush X125.here hx rfl (hb hby at_226) ?_
      show Steps p.tables e below (T125.setTop (mkF m 228 #[.val (.int p1), .val (.ref b1), .val (.int (8 : Int32)), .unset] [(.int (23 : Int32)), (.int (8 : Int32))])) _
      refine XS.icmpYes X125.here hx rfl (pc0 := 228) (pc' := 236) rfl (hb hby at_228) rfl (feq (by decide : ¬ ((8 : Int32) = (23 : Int32)))).2 (by decide) (by decide) ?_
      show Steps p.tables e below (T125.setTop (mkF m 236 #[.val (.int p1), .val (.ref b1), .val (.int (8 : Int32)), .unset] [])) _
      refine XS.iloadN X125.here hx rfl (hb hby at_236) rfl ?_
      show Steps p.tables e below (T125.setTop (mkF m 237 #[.val (.int p1), .val (.ref b1), .val (.int (8 : Int32)), .unset] [(.int (8 : Int32))])) _
      refine XS.bipush X125.here hx rfl (hb hby at_237) ?_
      show Steps p.tables e below (T125.setTop (mkF m 239 #[.val (.int p1), .val (.ref b1), .val (.int (8 : Int32)), .unset] [(.int (28 : Int32)), (.int (8 : Int32))])) _
      refine XS.icmpYes X125.here hx rfl (pc0 := 239) (pc' := 247) rfl (hb hby at_239) rfl (feq (by decide : ¬ ((8 : Int32) = (28 : Int32)))).2 (by decide) (by decide) ?_
      show Steps p.tables e below (T125.setTop (mkF m 247 #[.val (.int p1), .val (.ref b1), .val (.int (8 : Int32)), .unset] [])) _
      refine XS.iloadN X125.here hx rfl (hb hby at_247) rfl ?_
      show Steps p.tables e below (T125.setTop (mkF m 248 #[.val (.int p1), .val (.ref b1), .val (.int (8 : Int32)), .unset] [(.int (8 : Int32))])) _
      refine XS.bipush X125.here hx rfl (hb hby at_248) ?_
      show Steps p.tables e below (T125.setTop (mkF m 250 #[.val (.int p1), .val (.ref b1), .val (.int (8 : Int32)), .unset] [(.int (30 : Int32)), (.int (8 : Int32))])) _
      refine XS.icmpYes X125.here hx rfl (pc0 := 250) (pc' := 258) rfl (hb hby at_250) rfl (feq (by decide : ¬ ((8 : Int32) = (30 : Int32)))).2 (by decide) (by decide) ?_
      show Steps p.tables e below (T125.setTop (mkF m 258 #[.val (.int p1), .val (.ref b1), .val (.int (8 : Int32)), .unset] [])) _
      refine XS.iconst X125.here hx rfl (hb hby at_258) ?_
      show Steps p.tables e below (T125.setTop (mkF m 259 #[.val (.int p1), .val (.ref b1), .val (.int (8 : Int32)), .unset] [(.int (1 : Int32))])) _
      refine XS.istoreN X125.here hx rfl (hb hby at_259) rfl (l' := #[.val (.int p1), .val (.ref b1), .val (.int (8 : Int32)), .val (.int (1 : Int32))]) rfl ?_
      show Steps p.tables e below (T125.setTop (mkF m 260 #[.val (.int p1), .val (.ref b1), .val (.int (8 : Int32)), .val (.int (1 : Int32))] [])) _
      refine XS.aloadN X125.here hx rfl (hb hby at_260) rfl rfl ?_
      show Steps p.tables e below (T125.setTop (mkF m 261 #[.val (.int p1), .val (.ref b1), .val (.int (8 : Int32)), .val (.int (1 : Int32))] [(.ref b1)])) _
      refine XS.iloadN X125.here hx rfl (hb hby at_261) rfl ?_
      show Steps p.tables e below (T125.setTop (mkF m 262 #[.val (.int p1), .val (.ref b1), .val (.int (8 : Int32)), .val (.int (1 : Int32))] [(.int (8 : Int32)), (.ref b1)])) _
      refine X125.aaload hx (j := (8 : Int32)) (v := (.ref w8)) (by rw [e125]; exact Ar167.1) (State.isArrayOf_alike hZ.alike Ar167.2.1) rfl Ar167.2.2 hin167 hat167 (g := (mkF m 262 #[.val (.int p1), .val (.ref b1), .val (.int (8 : Int32)), .val (.int (1 : Int32))] [(.int (8 : Int32)), (.ref b1)])) rfl rfl (hb hby at_262) _ ?_
      show Steps p.tables e below (T125.setTop (mkF m 263 #[.val (.int p1), .val (.ref b1), .val (.int (8 : Int32)), .val (.int (1 : Int32))] [(.ref w8)])) _
      refine st170.trans ?_
      show Steps p.tables e below (T170.setTop (mkF m 266 #[.val (.int p1), .val (.ref b1), .val (.int (8 : Int32)), .val (.int (1 : Int32))] [(.int (1 : Int32))])) _
      refine XS.iloadN X170.here hx rfl (hb hby at_266) rfl ?_
      show Steps p.tables e below (T170.setTop (mkF m 267 #[.val (.int p1), .val (.ref b1), .val (.int (8 : Int32)), .val (.int (1 : Int32))] [(.int (1 : Int32)), (.int (1 : Int32))])) _
      refine XS.icmpNo X170.here hx rfl (hb hby at_267) rfl (teq (by decide : (1 : Int32) = (1 : Int32))).2 ?_
      show Steps p.tables e below (T170.setTop (mkF m 270 #[.val (.int p1), .val (.ref b1), .val (.int (8 : Int32)), .val (.int (1 : Int32))] [])) _
      refine XS.iconst X170.here hx rfl (hb hby at_270) ?_
      show Steps p.tables e below (T170.setTop (mkF m 271 #[.val (.int p1), .val (.ref b1), .val (.int (8 : Int32)), .val (.int (1 : Int32))] [(.int (1 : Int32))])) _
      refine XS.goto X170.here hx rfl (pc0 := 271) (pc' := 275) rfl (hb hby at_271) (by decide) (by decide) ?_
      exact k
    obtain ⟨fs, hrt, hrun, hended, hW, hsame⟩ := X170.leave (v := some (.int (1 : Int32))) (fun h => by rw [Bd.returns] at h; cases h)
    refine ⟨_, _, g171 _ ?_, hrun, hended, _, _, rfl, ?_, ⟨_, rfl⟩, hW, hsame.mono (by decide) (by decide)⟩
    · show Steps p.tables e below (T170.setTop (mkF m 275 #[.val (.int p1), .val (.ref b1), .val (.int (8 : Int32)), .val (.int (1 : Int32))] [(.int (1 : Int32))])) _
      exact retN X170 hx (t := .boolean) Bd.returns (by simp) (hb hby at_275) hrt
    · show own_Q_rm0 Z p1 w0 w1 w2 w3 w4 w5 w6 w7 w8 w9 w10 w11 w12 w13 w14 w15 w16 w17 w18 w19 w20 w21 w22 w23 w24 w25 w26 w27 w28 w29 w30 h0 n0 _ T170.heap _
      rw [e170]
      exact ⟨rfl, N170⟩
  · skip
    obtain ⟨c172, Ar172, cq172, S172, Nn172, Hh172, Gg172⟩ := id V125a
    have hin172 : ¬ ((9 : Int32) < 0 ∨ c172.slots.size ≤ ((9 : Int32)).toNatClampNeg) := inb_of S172 ⟨by decide, by decide⟩
    have hat172 : c172.slots[((9 : Int32)).toNatClampNeg]? = some (.ref w9) := Has.at Hh172 hin172 rfl
    obtain ⟨LL173, XL173, NL173⟩ : ∃ LL : List Loc, Stand p l e room_1 s m #[(.int p1)] below meth c T125 LL 1 31 ∧ Fr n0 LL := ⟨_, X125, N125⟩
    have o174 : Old Z n0 h125 := (Old.wr o122 W125 gz_b1)
    obtain ⟨cq175, kq175, q175a, q175b, q175c⟩ := isOf hZ e125 (Ex_MULTIPLY.ext o174.2)
    obtain ⟨_, _, ⟨T175, L175, k175, n175⟩, -, X175, ⟨Lc175, hQ175, l175, y175, z175⟩, st175⟩ := XL173.virtualBack hx (y := (⟨"com/example/chalkline/chalkline/runtime/Opcode", "fallsThrough", "()Z"⟩ : MethodName)) (z := (⟨"com/example/chalkline/chalkline/runtime/Opcode", "fallsThrough", "()Z"⟩ : MethodName)) hown (mvT hZ (hw _ (List.mem_of_getElem? (i := 67) rfl))) (mvT hZ (hw _ (List.mem_of_getElem? (i := 68) rfl))) (notFace_of_selects (args := #[]) (mvT hZ (hw _ (List.mem_of_getElem? (i := 70) rfl)))) (mvT hZ (hw _ (List.mem_of_getElem? (i := 70) rfl))) (mvT hZ (hw _ (List.mem_of_getElem? (i := 69) rfl))) (by decide) (backOf (W := 0) (rmM l Z a0 hw [] w9 (1 : Int32) w0 w1 w2 w3 w4 w5 w6 w7 w8 w9 w10 w11 w12 w13 w14 w15 w16 w17 w18 w19 w20 w21 w22 w23 w24 w25 w26 w27 w28 w29 w30 h125 n0 o174 G0 (by rw [if_neg (Fld.ne Fo9 Fo23 (own_ni (by decide))), if_neg (Fld.ne Fo9 Fo28 (own_ni (by decide))), if_neg (Fld.ne Fo9 Fo30 (own_ni (by decide)))])) hZ (hw _ (List.mem_of_getElem? (i := 71) rfl)) (hw _ (List.mem_of_getElem? (i := 3) rfl)) (by decide) (by decide)) q175a q175c (g := (mkF m 263 #[.val (.int p1), .val (.ref b1), .val (.int (9 : Int32)), .val (.int (1 : Int32))] [(.ref w9)])) rfl (by rw [hml]; rfl) (Steps.refl _) (argsL := []) (rest := []) (lenOf own_pd0 rfl) rfl (by show 2 * 0 + _ ≤ _; exact Nat.le_of_eq rfl) (hb hby at_263) (fun _ _ => ⟨rfl, e125, (by decide : 1 + 0 ≤ _), (by decide : 31 + 0 ≤ _)⟩)
    dsimp only [Pt.U, Pt.locs, Pt.cells, Pt.slots] at X175 l175 y175 z175 st175 hQ175
    subst l175 y175 z175
    obtain ⟨rfl, Nq175, e175⟩ := hQ175
    have N175 := Fr.app NL173 Nq175
    have g176 : ∀ t, Steps p.tables e below (T175.setTop (mkF m 275 #[.val (.int p1), .val (.ref b1), .val (.int (9 : Int32)), .val (.int (1 : Int32))] [(.int (1 : Int32))])) t → Steps p.tables e below (s₁.setTop (entryFrame m #[(.int p1)] maxLocals)) t := by
      intro t k
      refine g126 t ?_
      show Steps p.tables e below (T125.setTop (mkF m 224 #[.val (.int p1), .val (.ref b1), .unset, .unset] [(.int (9 : Int32))])) _
      refine XS.istoreN X125.here hx rfl (hb hby at_224) rfl (l' := #[.val (.int p1), .val (.ref b1), .val (.int (9 : Int32)), .unset]) rfl ?_
      show Steps p.tables e below (T125.setTop (mkF m 225 #[.val (.int p1), .val (.ref b1), .val (.int (9 : Int32)), .unset] [])) _
      refine XS.iloadN X125.here hx rfl (hb hby at_225) rfl ?_
      show Steps p.tables e below (T125.setTop (mkF m 226 #[.val (.int p1), .val (.ref b1), .val (.int (9 : Int32)), .unset] [(.int (9 : Int32))])) _
      refine XS.bipush X125.here hx rfl (hb hby at_226) ?_
      show Steps p.tables e below (T125.setTop (mkF m 228 #[.val (.int p1), .val (.ref b1), .val (.int (9 : Int32)), .unset] [(.int (23 : Int32)), (.int (9 : Int32))])) _
      refine XS.icmpYes X125.here hx rfl (pc0 := 228) (pc' := 236) rfl (hb hby at_228) rfl (feq (by decide : ¬ ((9 : Int32) = (23 : Int32)))).2 (by decide) (by decide) ?_
      show Steps p.tables e below (T125.setTop (mkF m 236 #[.val (.int p1), .val (.ref b1), .val (.int (9 : Int32)), .unset] [])) _
      refine XS.iloadN X125.here hx rfl (hb hby at_236) rfl ?_
      show Steps p.tables e below (T125.setTop (mkF m 237 #[.val (.int p1), .val (.ref b1), .val (.int (9 : Int32)), .unset] [(.int (9 : Int32))])) _
      refine XS.bipush X125.here hx rfl (hb hby at_237) ?_
      show Steps p.tables e below (T125.setTop (mkF m 239 #[.val (.int p1), .val (.ref b1), .val (.int (9 : Int32)), .unset] [(.int (28 : Int32)), (.int (9 : Int32))])) _
      refine XS.icmpYes X125.here hx rfl (pc0 := 239) (pc' := 247) rfl (hb hby at_239) rfl (feq (by decide : ¬ ((9 : Int32) = (28 : Int32)))).2 (by decide) (by decide) ?_
      show Steps p.tables e below (T125.setTop (mkF m 247 #[.val (.int p1), .val (.ref b1), .val (.int (9 : Int32)), .unset] [])) _
      refine XS.iloadN X125.here hx rfl (hb hby at_247) rfl ?_
      show Steps p.tables e below (T125.setTop (mkF m 248 #[.val (.int p1), .val (.ref b1), .val (.int (9 : Int32)), .unset] [(.int (9 : Int32))])) _
      refine XS.bipush X125.here hx rfl (hb hby at_248) ?_
      show Steps p.tables e below (T125.setTop (mkF m 250 #[.val (.int p1), .val (.ref b1), .val (.int (9 : Int32)), .unset] [(.int (30 : Int32)), (.int (9 : Int32))])) _
      refine XS.icmpYes X125.here hx rfl (pc0 := 250) (pc' := 258) rfl (hb hby at_250) rfl (feq (by decide : ¬ ((9 : Int32) = (30 : Int32)))).2 (by decide) (by decide) ?_
      show Steps p.tables e below (T125.setTop (mkF m 258 #[.val (.int p1), .val (.ref b1), .val (.int (9 : Int32)), .unset] [])) _
      refine XS.iconst X125.here hx rfl (hb hby at_258) ?_
      show Steps p.tables e below (T125.setTop (mkF m 259 #[.val (.int p1), .val (.ref b1), .val (.int (9 : Int32)), .unset] [(.int (1 : Int32))])) _
      refine XS.istoreN X125.here hx rfl (hb hby at_259) rfl (l' := #[.val (.int p1), .val (.ref b1), .val (.int (9 : Int32)), .val (.int (1 : Int32))]) rfl ?_
      show Steps p.tables e below (T125.setTop (mkF m 260 #[.val (.int p1), .val (.ref b1), .val (.int (9 : Int32)), .val (.int (1 : Int32))] [])) _
      refine XS.aloadN X125.here hx rfl (hb hby at_260) rfl rfl ?_
      show Steps p.tables e below (T125.setTop (mkF m 261 #[.val (.int p1), .val (.ref b1), .val (.int (9 : Int32)), .val (.int (1 : Int32))] [(.ref b1)])) _
      refine XS.iloadN X125.here hx rfl (hb hby at_261) rfl ?_
      show Steps p.tables e below (T125.setTop (mkF m 262 #[.val (.int p1), .val (.ref b1), .val (.int (9 : Int32)), .val (.int (1 : Int32))] [(.int (9 : Int32)), (.ref b1)])) _
      refine X125.aaload hx (j := (9 : Int32)) (v := (.ref w9)) (by rw [e125]; exact Ar172.1) (State.isArrayOf_alike hZ.alike Ar172.2.1) rfl Ar172.2.2 hin172 hat172 (g := (mkF m 262 #[.val (.int p1), .val (.ref b1), .val (.int (9 : Int32)), .val (.int (1 : Int32))] [(.int (9 : Int32)), (.ref b1)])) rfl rfl (hb hby at_262) _ ?_
      show Steps p.tables e below (T125.setTop (mkF m 263 #[.val (.int p1), .val (.ref b1), .val (.int (9 : Int32)), .val (.int (1 : Int32))] [(.ref w9)])) _
      refine st175.trans ?_
      show Steps p.tables e below (T175.setTop (mkF m 266 #[.val (.int p1), .val (.ref b1), .val (.int (9 : Int32)), .val (.int (1 : Int32))] [(.int (1 : Int32))])) _
      refine XS.iloadN X175.here hx rfl (hb hby at_266) rfl ?_
      show Steps p.tables e below (T175.setTop (mkF m 267 #[.val (.int p1), .val (.ref b1), .val (.int (9 : Int32)), .val (.int (1 : Int32))] [(.int (1 : Int32)), (.int (1 : Int32))])) _
      refine XS.icmpNo X175.here hx rfl (hb hby at_267) rfl (teq (by decide : (1 : Int32) = (1 : Int32))).2 ?_
      show Steps p.tables e below (T175.setTop (mkF m 270 #[.val (.int p1), .val (.ref b1), .val (.int (9 : Int32)), .val (.int (1 : Int32))] [])) _
      refine XS.iconst X175.here hx rfl (hb hby at_270) ?_
      show Steps p.tables e below (T175.setTop (mkF m 271 #[.val (.int p1), .val (.ref b1), .val (.int (9 : Int32)), .val (.int (1 : Int32))] [(.int (1 : Int32))])) _
      refine XS.goto X175.here hx rfl (pc0 := 271) (pc' := 275) rfl (hb hby at_271) (by decide) (by decide) ?_
      exact k
    obtain ⟨fs, hrt, hrun, hended, hW, hsame⟩ := X175.leave (v := some (.int (1 : Int32))) (fun h => by rw [Bd.returns] at h; cases h)
    refine ⟨_, _, g176 _ ?_, hrun, hended, _, _, rfl, ?_, ⟨_, rfl⟩, hW, hsame.mono (by decide) (by decide)⟩
    · show Steps p.tables e below (T175.setTop (mkF m 275 #[.val (.int p1), .val (.ref b1), .val (.int (9 : Int32)), .val (.int (1 : Int32))] [(.int (1 : Int32))])) _
      exact retN X175 hx (t := .boolean) Bd.returns (by simp) (hb hby at_275) hrt
    · show own_Q_rm0 Z p1 w0 w1 w2 w3 w4 w5 w6 w7 w8 w9 w10 w11 w12 w13 w14 w15 w16 w17 w18 w19 w20 w21 w22 w23 w24 w25 w26 w27 w28 w29 w30 h0 n0 _ T175.heap _
      rw [e175]
      exact ⟨rfl, N175⟩
  · skip
    obtain ⟨c177, Ar177, cq177, S177, Nn177, Hh177, Gg177⟩ := id V125a
    have hin177 : ¬ ((10 : Int32) < 0 ∨ c177.slots.size ≤ ((10 : Int32)).toNatClampNeg) := inb_of S177 ⟨by decide, by decide⟩
    have hat177 : c177.slots[((10 : Int32)).toNatClampNeg]? = some (.ref w10) := Has.at Hh177 hin177 rfl
    obtain ⟨LL178, XL178, NL178⟩ : ∃ LL : List Loc, Stand p l e room_1 s m #[(.int p1)] below meth c T125 LL 1 31 ∧ Fr n0 LL := ⟨_, X125, N125⟩
    have o179 : Old Z n0 h125 := (Old.wr o122 W125 gz_b1)
    obtain ⟨cq180, kq180, q180a, q180b, q180c⟩ := isOf hZ e125 (Ex_DIVIDE.ext o179.2)
    obtain ⟨_, _, ⟨T180, L180, k180, n180⟩, -, X180, ⟨Lc180, hQ180, l180, y180, z180⟩, st180⟩ := XL178.virtualBack hx (y := (⟨"com/example/chalkline/chalkline/runtime/Opcode", "fallsThrough", "()Z"⟩ : MethodName)) (z := (⟨"com/example/chalkline/chalkline/runtime/Opcode", "fallsThrough", "()Z"⟩ : MethodName)) hown (mvT hZ (hw _ (List.mem_of_getElem? (i := 67) rfl))) (mvT hZ (hw _ (List.mem_of_getElem? (i := 68) rfl))) (notFace_of_selects (args := #[]) (mvT hZ (hw _ (List.mem_of_getElem? (i := 70) rfl)))) (mvT hZ (hw _ (List.mem_of_getElem? (i := 70) rfl))) (mvT hZ (hw _ (List.mem_of_getElem? (i := 69) rfl))) (by decide) (backOf (W := 0) (rmM l Z a0 hw [] w10 (1 : Int32) w0 w1 w2 w3 w4 w5 w6 w7 w8 w9 w10 w11 w12 w13 w14 w15 w16 w17 w18 w19 w20 w21 w22 w23 w24 w25 w26 w27 w28 w29 w30 h125 n0 o179 G0 (by rw [if_neg (Fld.ne Fo10 Fo23 (own_ni (by decide))), if_neg (Fld.ne Fo10 Fo28 (own_ni (by decide))), if_neg (Fld.ne Fo10 Fo30 (own_ni (by decide)))])) hZ (hw _ (List.mem_of_getElem? (i := 71) rfl)) (hw _ (List.mem_of_getElem? (i := 3) rfl)) (by decide) (by decide)) q180a q180c (g := (mkF m 263 #[.val (.int p1), .val (.ref b1), .val (.int (10 : Int32)), .val (.int (1 : Int32))] [(.ref w10)])) rfl (by rw [hml]; rfl) (Steps.refl _) (argsL := []) (rest := []) (lenOf own_pd0 rfl) rfl (by show 2 * 0 + _ ≤ _; exact Nat.le_of_eq rfl) (hb hby at_263) (fun _ _ => ⟨rfl, e125, (by decide : 1 + 0 ≤ _), (by decide : 31 + 0 ≤ _)⟩)
    dsimp only [Pt.U, Pt.locs, Pt.cells, Pt.slots] at X180 l180 y180 z180 st180 hQ180
    subst l180 y180 z180
    obtain ⟨rfl, Nq180, e180⟩ := hQ180
    have N180 := Fr.app NL178 Nq180
    have g181 : ∀ t, Steps p.tables e below (T180.setTop (mkF m 275 #[.val (.int p1), .val (.ref b1), .val (.int (10 : Int32)), .val (.int (1 : Int32))] [(.int (1 : Int32))])) t → Steps p.tables e below (s₁.setTop (entryFrame m #[(.int p1)] maxLocals)) t := by
      intro t k
      refine g126 t ?_
      show Steps p.tables e below (T125.setTop (mkF m 224 #[.val (.int p1), .val (.ref b1), .unset, .unset] [(.int (10 : Int32))])) _
      refine XS.istoreN X125.here hx rfl (hb hby at_224) rfl (l' := #[.val (.int p1), .val (.ref b1), .val (.int (10 : Int32)), .unset]) rfl ?_
      show Steps p.tables e below (T125.setTop (mkF m 225 #[.val (.int p1), .val (.ref b1), .val (.int (10 : Int32)), .unset] [])) _
      refine XS.iloadN X125.here hx rfl (hb hby at_225) rfl ?_
      show Steps p.tables e below (T125.setTop (mkF m 226 #[.val (.int p1), .val (.ref b1), .val (.int (10 : Int32)), .unset] [(.int (10 : Int32))])) _
      refine XS.bipush X125.here hx rfl (hb hby at_226) ?_
      show Steps p.tables e below (T125.setTop (mkF m 228 #[.val (.int p1), .val (.ref b1), .val (.int (10 : Int32)), .unset] [(.int (23 : Int32)), (.int (10 : Int32))])) _
      refine XS.icmpYes X125.here hx rfl (pc0 := 228) (pc' := 236) rfl (hb hby at_228) rfl (feq (by decide : ¬ ((10 : Int32) = (23 : Int32)))).2 (by decide) (by decide) ?_
      show Steps p.tables e below (T125.setTop (mkF m 236 #[.val (.int p1), .val (.ref b1), .val (.int (10 : Int32)), .unset] [])) _
      refine XS.iloadN X125.here hx rfl (hb hby at_236) rfl ?_
      show Steps p.tables e below (T125.setTop (mkF m 237 #[.val (.int p1), .val (.ref b1), .val (.int (10 : Int32)), .unset] [(.int (10 : Int32))])) _
      refine XS.bipush X125.here hx rfl (hb hby at_237) ?_
      show Steps p.tables e below (T125.setTop (mkF m 239 #[.val (.int p1), .val (.ref b1), .val (.int (10 : Int32)), .unset] [(.int (28 : Int32)), (.int (10 : Int32))])) _
      refine XS.icmpYes X125.here hx rfl (pc0 := 239) (pc' := 247) rfl (hb hby at_239) rfl (feq (by decide : ¬ ((10 : Int32) = (28 : Int32)))).2 (by decide) (by decide) ?_
      show Steps p.tables e below (T125.setTop (mkF m 247 #[.val (.int p1), .val (.ref b1), .val (.int (10 : Int32)), .unset] [])) _
      refine XS.iloadN X125.here hx rfl (hb hby at_247) rfl ?_
      show Steps p.tables e below (T125.setTop (mkF m 248 #[.val (.int p1), .val (.ref b1), .val (.int (10 : Int32)), .unset] [(.int (10 : Int32))])) _
      refine XS.bipush X125.here hx rfl (hb hby at_248) ?_
      show Steps p.tables e below (T125.setTop (mkF m 250 #[.val (.int p1), .val (.ref b1), .val (.int (10 : Int32)), .unset] [(.int (30 : Int32)), (.int (10 : Int32))])) _
      refine XS.icmpYes X125.here hx rfl (pc0 := 250) (pc' := 258) rfl (hb hby at_250) rfl (feq (by decide : ¬ ((10 : Int32) = (30 : Int32)))).2 (by decide) (by decide) ?_
      show Steps p.tables e below (T125.setTop (mkF m 258 #[.val (.int p1), .val (.ref b1), .val (.int (10 : Int32)), .unset] [])) _
      refine XS.iconst X125.here hx rfl (hb hby at_258) ?_
      show Steps p.tables e below (T125.setTop (mkF m 259 #[.val (.int p1), .val (.ref b1), .val (.int (10 : Int32)), .unset] [(.int (1 : Int32))])) _
      refine XS.istoreN X125.here hx rfl (hb hby at_259) rfl (l' := #[.val (.int p1), .val (.ref b1), .val (.int (10 : Int32)), .val (.int (1 : Int32))]) rfl ?_
      show Steps p.tables e below (T125.setTop (mkF m 260 #[.val (.int p1), .val (.ref b1), .val (.int (10 : Int32)), .val (.int (1 : Int32))] [])) _
      refine XS.aloadN X125.here hx rfl (hb hby at_260) rfl rfl ?_
      show Steps p.tables e below (T125.setTop (mkF m 261 #[.val (.int p1), .val (.ref b1), .val (.int (10 : Int32)), .val (.int (1 : Int32))] [(.ref b1)])) _
      refine XS.iloadN X125.here hx rfl (hb hby at_261) rfl ?_
      show Steps p.tables e below (T125.setTop (mkF m 262 #[.val (.int p1), .val (.ref b1), .val (.int (10 : Int32)), .val (.int (1 : Int32))] [(.int (10 : Int32)), (.ref b1)])) _
      refine X125.aaload hx (j := (10 : Int32)) (v := (.ref w10)) (by rw [e125]; exact Ar177.1) (State.isArrayOf_alike hZ.alike Ar177.2.1) rfl Ar177.2.2 hin177 hat177 (g := (mkF m 262 #[.val (.int p1), .val (.ref b1), .val (.int (10 : Int32)), .val (.int (1 : Int32))] [(.int (10 : Int32)), (.ref b1)])) rfl rfl (hb hby at_262) _ ?_
      show Steps p.tables e below (T125.setTop (mkF m 263 #[.val (.int p1), .val (.ref b1), .val (.int (10 : Int32)), .val (.int (1 : Int32))] [(.ref w10)])) _
      refine st180.trans ?_
      show Steps p.tables e below (T180.setTop (mkF m 266 #[.val (.int p1), .val (.ref b1), .val (.int (10 : Int32)), .val (.int (1 : Int32))] [(.int (1 : Int32))])) _
      refine XS.iloadN X180.here hx rfl (hb hby at_266) rfl ?_
      show Steps p.tables e below (T180.setTop (mkF m 267 #[.val (.int p1), .val (.ref b1), .val (.int (10 : Int32)), .val (.int (1 : Int32))] [(.int (1 : Int32)), (.int (1 : Int32))])) _
      refine XS.icmpNo X180.here hx rfl (hb hby at_267) rfl (teq (by decide : (1 : Int32) = (1 : Int32))).2 ?_
      show Steps p.tables e below (T180.setTop (mkF m 270 #[.val (.int p1), .val (.ref b1), .val (.int (10 : Int32)), .val (.int (1 : Int32))] [])) _
      refine XS.iconst X180.here hx rfl (hb hby at_270) ?_
      show Steps p.tables e below (T180.setTop (mkF m 271 #[.val (.int p1), .val (.ref b1), .val (.int (10 : Int32)), .val (.int (1 : Int32))] [(.int (1 : Int32))])) _
      refine XS.goto X180.here hx rfl (pc0 := 271) (pc' := 275) rfl (hb hby at_271) (by decide) (by decide) ?_
      exact k
    obtain ⟨fs, hrt, hrun, hended, hW, hsame⟩ := X180.leave (v := some (.int (1 : Int32))) (fun h => by rw [Bd.returns] at h; cases h)
    refine ⟨_, _, g181 _ ?_, hrun, hended, _, _, rfl, ?_, ⟨_, rfl⟩, hW, hsame.mono (by decide) (by decide)⟩
    · show Steps p.tables e below (T180.setTop (mkF m 275 #[.val (.int p1), .val (.ref b1), .val (.int (10 : Int32)), .val (.int (1 : Int32))] [(.int (1 : Int32))])) _
      exact retN X180 hx (t := .boolean) Bd.returns (by simp) (hb hby at_275) hrt
    · show own_Q_rm0 Z p1 w0 w1 w2 w3 w4 w5 w6 w7 w8 w9 w10 w11 w12 w13 w14 w15 w16 w17 w18 w19 w20 w21 w22 w23 w24 w25 w26 w27 w28 w29 w30 h0 n0 _ T180.heap _
      rw [e180]
      exact ⟨rfl, N180⟩
  · skip
    obtain ⟨c182, Ar182, cq182, S182, Nn182, Hh182, Gg182⟩ := id V125a
    have hin182 : ¬ ((11 : Int32) < 0 ∨ c182.slots.size ≤ ((11 : Int32)).toNatClampNeg) := inb_of S182 ⟨by decide, by decide⟩
    have hat182 : c182.slots[((11 : Int32)).toNatClampNeg]? = some (.ref w11) := Has.at Hh182 hin182 rfl
    obtain ⟨LL183, XL183, NL183⟩ : ∃ LL : List Loc, Stand p l e room_1 s m #[(.int p1)] below meth c T125 LL 1 31 ∧ Fr n0 LL := ⟨_, X125, N125⟩
    have o184 : Old Z n0 h125 := (Old.wr o122 W125 gz_b1)
    obtain ⟨cq185, kq185, q185a, q185b, q185c⟩ := isOf hZ e125 (Ex_REMAINDER.ext o184.2)
    obtain ⟨_, _, ⟨T185, L185, k185, n185⟩, -, X185, ⟨Lc185, hQ185, l185, y185, z185⟩, st185⟩ := XL183.virtualBack hx (y := (⟨"com/example/chalkline/chalkline/runtime/Opcode", "fallsThrough", "()Z"⟩ : MethodName)) (z := (⟨"com/example/chalkline/chalkline/runtime/Opcode", "fallsThrough", "()Z"⟩ : MethodName)) hown (mvT hZ (hw _ (List.mem_of_getElem? (i := 67) rfl))) (mvT hZ (hw _ (List.mem_of_getElem? (i := 68) rfl))) (notFace_of_selects (args := #[]) (mvT hZ (hw _ (List.mem_of_getElem? (i := 70) rfl)))) (mvT hZ (hw _ (List.mem_of_getElem? (i := 70) rfl))) (mvT hZ (hw _ (List.mem_of_getElem? (i := 69) rfl))) (by decide) (backOf (W := 0) (rmM l Z a0 hw [] w11 (1 : Int32) w0 w1 w2 w3 w4 w5 w6 w7 w8 w9 w10 w11 w12 w13 w14 w15 w16 w17 w18 w19 w20 w21 w22 w23 w24 w25 w26 w27 w28 w29 w30 h125 n0 o184 G0 (by rw [if_neg (Fld.ne Fo11 Fo23 (own_ni (by decide))), if_neg (Fld.ne Fo11 Fo28 (own_ni (by decide))), if_neg (Fld.ne Fo11 Fo30 (own_ni (by decide)))])) hZ (hw _ (List.mem_of_getElem? (i := 71) rfl)) (hw _ (List.mem_of_getElem? (i := 3) rfl)) (by decide) (by decide)) q185a q185c (g := (mkF m 263 #[.val (.int p1), .val (.ref b1), .val (.int (11 : Int32)), .val (.int (1 : Int32))] [(.ref w11)])) rfl (by rw [hml]; rfl) (Steps.refl _) (argsL := []) (rest := []) (lenOf own_pd0 rfl) rfl (by show 2 * 0 + _ ≤ _; exact Nat.le_of_eq rfl) (hb hby at_263) (fun _ _ => ⟨rfl, e125, (by decide : 1 + 0 ≤ _), (by decide : 31 + 0 ≤ _)⟩)
    dsimp only [Pt.U, Pt.locs, Pt.cells, Pt.slots] at X185 l185 y185 z185 st185 hQ185
    subst l185 y185 z185
    obtain ⟨rfl, Nq185, e185⟩ := hQ185
    have N185 := Fr.app NL183 Nq185
    have g186 : ∀ t, Steps p.tables e below (T185.setTop (mkF m 275 #[.val (.int p1), .val (.ref b1), .val (.int (11 : Int32)), .val (.int (1 : Int32))] [(.int (1 : Int32))])) t → Steps p.tables e below (s₁.setTop (entryFrame m #[(.int p1)] maxLocals)) t := by
      intro t k
      refine g126 t ?_
      show Steps p.tables e below (T125.setTop (mkF m 224 #[.val (.int p1), .val (.ref b1), .unset, .unset] [(.int (11 : Int32))])) _
      refine XS.istoreN X125.here hx rfl (hb hby at_224) rfl (l' := #[.val (.int p1), .val (.ref b1), .val (.int (11 : Int32)), .unset]) rfl ?_
      show Steps p.tables e below (T125.setTop (mkF m 225 #[.val (.int p1), .val (.ref b1), .val (.int (11 : Int32)), .unset] [])) _
      refine XS.iloadN X125.here hx rfl (hb hby at_225) rfl ?_
      show Steps p.tables e below (T125.setTop (mkF m 226 #[.val (.int p1), .val (.ref b1), .val (.int (11 : Int32)), .unset] [(.int (11 : Int32))])) _
      refine XS.bipush X125.here hx rfl (hb hby at_226) ?_
      show Steps p.tables e below (T125.setTop (mkF m 228 #[.val (.int p1), .val (.ref b1), .val (.int (11 : Int32)), .unset] [(.int (23 : Int32)), (.int (11 : Int32))])) _
      refine XS.icmpYes X125.here hx rfl (pc0 := 228) (pc' := 236) rfl (hb hby at_228) rfl (feq (by decide : ¬ ((11 : Int32) = (23 : Int32)))).2 (by decide) (by decide) ?_
      show Steps p.tables e below (T125.setTop (mkF m 236 #[.val (.int p1), .val (.ref b1), .val (.int (11 : Int32)), .unset] [])) _
      refine XS.iloadN X125.here hx rfl (hb hby at_236) rfl ?_
      show Steps p.tables e below (T125.setTop (mkF m 237 #[.val (.int p1), .val (.ref b1), .val (.int (11 : Int32)), .unset] [(.int (11 : Int32))])) _
      refine XS.bipush X125.here hx rfl (hb hby at_237) ?_
      show Steps p.tables e below (T125.setTop (mkF m 239 #[.val (.int p1), .val (.ref b1), .val (.int (11 : Int32)), .unset] [(.int (28 : Int32)), (.int (11 : Int32))])) _
      refine XS.icmpYes X125.here hx rfl (pc0 := 239) (pc' := 247) rfl (hb hby at_239) rfl (feq (by decide : ¬ ((11 : Int32) = (28 : Int32)))).2 (by decide) (by decide) ?_
      show Steps p.tables e below (T125.setTop (mkF m 247 #[.val (.int p1), .val (.ref b1), .val (.int (11 : Int32)), .unset] [])) _
      refine XS.iloadN X125.here hx rfl (hb hby at_247) rfl ?_
      show Steps p.tables e below (T125.setTop (mkF m 248 #[.val (.int p1), .val (.ref b1), .val (.int (11 : Int32)), .unset] [(.int (11 : Int32))])) _
      refine XS.bipush X125.here hx rfl (hb hby at_248) ?_
      show Steps p.tables e below (T125.setTop (mkF m 250 #[.val (.int p1), .val (.ref b1), .val (.int (11 : Int32)), .unset] [(.int (30 : Int32)), (.int (11 : Int32))])) _
      refine XS.icmpYes X125.here hx rfl (pc0 := 250) (pc' := 258) rfl (hb hby at_250) rfl (feq (by decide : ¬ ((11 : Int32) = (30 : Int32)))).2 (by decide) (by decide) ?_
      show Steps p.tables e below (T125.setTop (mkF m 258 #[.val (.int p1), .val (.ref b1), .val (.int (11 : Int32)), .unset] [])) _
      refine XS.iconst X125.here hx rfl (hb hby at_258) ?_
      show Steps p.tables e below (T125.setTop (mkF m 259 #[.val (.int p1), .val (.ref b1), .val (.int (11 : Int32)), .unset] [(.int (1 : Int32))])) _
      refine XS.istoreN X125.here hx rfl (hb hby at_259) rfl (l' := #[.val (.int p1), .val (.ref b1), .val (.int (11 : Int32)), .val (.int (1 : Int32))]) rfl ?_
      show Steps p.tables e below (T125.setTop (mkF m 260 #[.val (.int p1), .val (.ref b1), .val (.int (11 : Int32)), .val (.int (1 : Int32))] [])) _
      refine XS.aloadN X125.here hx rfl (hb hby at_260) rfl rfl ?_
      show Steps p.tables e below (T125.setTop (mkF m 261 #[.val (.int p1), .val (.ref b1), .val (.int (11 : Int32)), .val (.int (1 : Int32))] [(.ref b1)])) _
      refine XS.iloadN X125.here hx rfl (hb hby at_261) rfl ?_
      show Steps p.tables e below (T125.setTop (mkF m 262 #[.val (.int p1), .val (.ref b1), .val (.int (11 : Int32)), .val (.int (1 : Int32))] [(.int (11 : Int32)), (.ref b1)])) _
      refine X125.aaload hx (j := (11 : Int32)) (v := (.ref w11)) (by rw [e125]; exact Ar182.1) (State.isArrayOf_alike hZ.alike Ar182.2.1) rfl Ar182.2.2 hin182 hat182 (g := (mkF m 262 #[.val (.int p1), .val (.ref b1), .val (.int (11 : Int32)), .val (.int (1 : Int32))] [(.int (11 : Int32)), (.ref b1)])) rfl rfl (hb hby at_262) _ ?_
      show Steps p.tables e below (T125.setTop (mkF m 263 #[.val (.int p1), .val (.ref b1), .val (.int (11 : Int32)), .val (.int (1 : Int32))] [(.ref w11)])) _
      refine st185.trans ?_
      show Steps p.tables e below (T185.setTop (mkF m 266 #[.val (.int p1), .val (.ref b1), .val (.int (11 : Int32)), .val (.int (1 : Int32))] [(.int (1 : Int32))])) _
      refine XS.iloadN X185.here hx rfl (hb hby at_266) rfl ?_
      show Steps p.tables e below (T185.setTop (mkF m 267 #[.val (.int p1), .val (.ref b1), .val (.int (11 : Int32)), .val (.int (1 : Int32))] [(.int (1 : Int32)), (.int (1 : Int32))])) _
      refine XS.icmpNo X185.here hx rfl (hb hby at_267) rfl (teq (by decide : (1 : Int32) = (1 : Int32))).2 ?_
      show Steps p.tables e below (T185.setTop (mkF m 270 #[.val (.int p1), .val (.ref b1), .val (.int (11 : Int32)), .val (.int (1 : Int32))] [])) _
      refine XS.iconst X185.here hx rfl (hb hby at_270) ?_
      show Steps p.tables e below (T185.setTop (mkF m 271 #[.val (.int p1), .val (.ref b1), .val (.int (11 : Int32)), .val (.int (1 : Int32))] [(.int (1 : Int32))])) _
      refine XS.goto X185.here hx rfl (pc0 := 271) (pc' := 275) rfl (hb hby at_271) (by decide) (by decide) ?_
      exact k
    obtain ⟨fs, hrt, hrun, hended, hW, hsame⟩ := X185.leave (v := some (.int (1 : Int32))) (fun h => by rw [Bd.returns] at h; cases h)
    refine ⟨_, _, g186 _ ?_, hrun, hended, _, _, rfl, ?_, ⟨_, rfl⟩, hW, hsame.mono (by decide) (by decide)⟩
    · show Steps p.tables e below (T185.setTop (mkF m 275 #[.val (.int p1), .val (.ref b1), .val (.int (11 : Int32)), .val (.int (1 : Int32))] [(.int (1 : Int32))])) _
      exact retN X185 hx (t := .boolean) Bd.returns (by simp) (hb hby at_275) hrt
    · show own_Q_rm0 Z p1 w0 w1 w2 w3 w4 w5 w6 w7 w8 w9 w10 w11 w12 w13 w14 w15 w16 w17 w18 w19 w20 w21 w22 w23 w24 w25 w26 w27 w28 w29 w30 h0 n0 _ T185.heap _
      rw [e185]
      exact ⟨rfl, N185⟩
  · skip
    obtain ⟨c187, Ar187, cq187, S187, Nn187, Hh187, Gg187⟩ := id V125a
    have hin187 : ¬ ((12 : Int32) < 0 ∨ c187.slots.size ≤ ((12 : Int32)).toNatClampNeg) := inb_of S187 ⟨by decide, by decide⟩
    have hat187 : c187.slots[((12 : Int32)).toNatClampNeg]? = some (.ref w12) := Has.at Hh187 hin187 rfl
    obtain ⟨LL188, XL188, NL188⟩ : ∃ LL : List Loc, Stand p l e room_1 s m #[(.int p1)] below meth c T125 LL 1 31 ∧ Fr n0 LL := ⟨_, X125, N125⟩
    have o189 : Old Z n0 h125 := (Old.wr o122 W125 gz_b1)
    obtain ⟨cq190, kq190, q190a, q190b, q190c⟩ := isOf hZ e125 (Ex_NEGATE.ext o189.2)
    obtain ⟨_, _, ⟨T190, L190, k190, n190⟩, -, X190, ⟨Lc190, hQ190, l190, y190, z190⟩, st190⟩ := XL188.virtualBack hx (y := (⟨"com/example/chalkline/chalkline/runtime/Opcode", "fallsThrough", "()Z"⟩ : MethodName)) (z := (⟨"com/example/chalkline/chalkline/runtime/Opcode", "fallsThrough", "()Z"⟩ : MethodName)) hown (mvT hZ (hw _ (List.mem_of_getElem? (i := 67) rfl))) (mvT hZ (hw _ (List.mem_of_getElem? (i := 68) rfl))) (notFace_of_selects (args := #[]) (mvT hZ (hw _ (List.mem_of_getElem? (i := 70) rfl)))) (mvT hZ (hw _ (List.mem_of_getElem? (i := 70) rfl))) (mvT hZ (hw _ (List.mem_of_getElem? (i := 69) rfl))) (by decide) (backOf (W := 0) (rmM l Z a0 hw [] w12 (1 : Int32) w0 w1 w2 w3 w4 w5 w6 w7 w8 w9 w10 w11 w12 w13 w14 w15 w16 w17 w18 w19 w20 w21 w22 w23 w24 w25 w26 w27 w28 w29 w30 h125 n0 o189 G0 (by rw [if_neg (Fld.ne Fo12 Fo23 (own_ni (by decide))), if_neg (Fld.ne Fo12 Fo28 (own_ni (by decide))), if_neg (Fld.ne Fo12 Fo30 (own_ni (by decide)))])) hZ (hw _ (List.mem_of_getElem? (i := 71) rfl)) (hw _ (List.mem_of_getElem? (i := 3) rfl)) (by decide) (by decide)) q190a q190c (g := (mkF m 263 #[.val (.int p1), .val (.ref b1), .val (.int (12 : Int32)), .val (.int (1 : Int32))] [(.ref w12)])) rfl (by rw [hml]; rfl) (Steps.refl _) (argsL := []) (rest := []) (lenOf own_pd0 rfl) rfl (by show 2 * 0 + _ ≤ _; exact Nat.le_of_eq rfl) (hb hby at_263) (fun _ _ => ⟨rfl, e125, (by decide : 1 + 0 ≤ _), (by decide : 31 + 0 ≤ _)⟩)
    dsimp only [Pt.U, Pt.locs, Pt.cells, Pt.slots] at X190 l190 y190 z190 st190 hQ190
    subst l190 y190 z190
    obtain ⟨rfl, Nq190, e190⟩ := hQ190
    have N190 := Fr.app NL188 Nq190
    have g191 : ∀ t, Steps p.tables e below (T190.setTop (mkF m 275 #[.val (.int p1), .val (.ref b1), .val (.int (12 : Int32)), .val (.int (1 : Int32))] [(.int (1 : Int32))])) t → Steps p.tables e below (s₁.setTop (entryFrame m #[(.int p1)] maxLocals)) t := by
      intro t k
      refine g126 t ?_
      show Steps p.tables e below (T125.setTop (mkF m 224 #[.val (.int p1), .val (.ref b1), .unset, .unset] [(.int (12 : Int32))])) _
      refine XS.istoreN X125.here hx rfl (hb hby at_224) rfl (l' := #[.val (.int p1), .val (.ref b1), .val (.int (12 : Int32)), .unset]) rfl ?_
      show Steps p.tables e below (T125.setTop (mkF m 225 #[.val (.int p1), .val (.ref b1), .val (.int (12 : Int32)), .unset] [])) _
      refine XS.iloadN X125.here hx rfl (hb hby at_225) rfl ?_
      show Steps p.tables e below (T125.setTop (mkF m 226 #[.val (.int p1), .val (.ref b1), .val (.int (12 : Int32)), .unset] [(.int (12 : Int32))])) _
      refine XS.bipush X125.here hx rfl (hb hby at_226) ?_
      show Steps p.tables e below (T125.setTop (mkF m 228 #[.val (.int p1), .val (.ref b1), .val (.int (12 : Int32)), .unset] [(.int (23 : Int32)), (.int (12 : Int32))])) _
      refine XS.icmpYes X125.here hx rfl (pc0 := 228) (pc' := 236) rfl (hb hby at_228) rfl (feq (by decide : ¬ ((12 : Int32) = (23 : Int32)))).2 (by decide) (by decide) ?_
      show Steps p.tables e below (T125.setTop (mkF m 236 #[.val (.int p1), .val (.ref b1), .val (.int (12 : Int32)), .unset] [])) _
      refine XS.iloadN X125.here hx rfl (hb hby at_236) rfl ?_
      show Steps p.tables e below (T125.setTop (mkF m 237 #[.val (.int p1), .val (.ref b1), .val (.int (12 : Int32)), .unset] [(.int (12 : Int32))])) _
      refine XS.bipush X125.here hx rfl (hb hby at_237) ?_
      show Steps p.tables e below (T125.setTop (mkF m 239 #[.val (.int p1), .val (.ref b1), .val (.int (12 : Int32)), .unset] [(.int (28 : Int32)), (.int (12 : Int32))])) _
      refine XS.icmpYes X125.here hx rfl (pc0 := 239) (pc' := 247) rfl (hb hby at_239) rfl (feq (by decide : ¬ ((12 : Int32) = (28 : Int32)))).2 (by decide) (by decide) ?_
      show Steps p.tables e below (T125.setTop (mkF m 247 #[.val (.int p1), .val (.ref b1), .val (.int (12 : Int32)), .unset] [])) _
      refine XS.iloadN X125.here hx rfl (hb hby at_247) rfl ?_
      show Steps p.tables e below (T125.setTop (mkF m 248 #[.val (.int p1), .val (.ref b1), .val (.int (12 : Int32)), .unset] [(.int (12 : Int32))])) _
      refine XS.bipush X125.here hx rfl (hb hby at_248) ?_
      show Steps p.tables e below (T125.setTop (mkF m 250 #[.val (.int p1), .val (.ref b1), .val (.int (12 : Int32)), .unset] [(.int (30 : Int32)), (.int (12 : Int32))])) _
      refine XS.icmpYes X125.here hx rfl (pc0 := 250) (pc' := 258) rfl (hb hby at_250) rfl (feq (by decide : ¬ ((12 : Int32) = (30 : Int32)))).2 (by decide) (by decide) ?_
      show Steps p.tables e below (T125.setTop (mkF m 258 #[.val (.int p1), .val (.ref b1), .val (.int (12 : Int32)), .unset] [])) _
      refine XS.iconst X125.here hx rfl (hb hby at_258) ?_
      show Steps p.tables e below (T125.setTop (mkF m 259 #[.val (.int p1), .val (.ref b1), .val (.int (12 : Int32)), .unset] [(.int (1 : Int32))])) _
      refine XS.istoreN X125.here hx rfl (hb hby at_259) rfl (l' := #[.val (.int p1), .val (.ref b1), .val (.int (12 : Int32)), .val (.int (1 : Int32))]) rfl ?_
      show Steps p.tables e below (T125.setTop (mkF m 260 #[.val (.int p1), .val (.ref b1), .val (.int (12 : Int32)), .val (.int (1 : Int32))] [])) _
      refine XS.aloadN X125.here hx rfl (hb hby at_260) rfl rfl ?_
      show Steps p.tables e below (T125.setTop (mkF m 261 #[.val (.int p1), .val (.ref b1), .val (.int (12 : Int32)), .val (.int (1 : Int32))] [(.ref b1)])) _
      refine XS.iloadN X125.here hx rfl (hb hby at_261) rfl ?_
      show Steps p.tables e below (T125.setTop (mkF m 262 #[.val (.int p1), .val (.ref b1), .val (.int (12 : Int32)), .val (.int (1 : Int32))] [(.int (12 : Int32)), (.ref b1)])) _
      refine X125.aaload hx (j := (12 : Int32)) (v := (.ref w12)) (by rw [e125]; exact Ar187.1) (State.isArrayOf_alike hZ.alike Ar187.2.1) rfl Ar187.2.2 hin187 hat187 (g := (mkF m 262 #[.val (.int p1), .val (.ref b1), .val (.int (12 : Int32)), .val (.int (1 : Int32))] [(.int (12 : Int32)), (.ref b1)])) rfl rfl (hb hby at_262) _ ?_
      show Steps p.tables e below (T125.setTop (mkF m 263 #[.val (.int p1), .val (.ref b1), .val (.int (12 : Int32)), .val (.int (1 : Int32))] [(.ref w12)])) _
      refine st190.trans ?_
      show Steps p.tables e below (T190.setTop (mkF m 266 #[.val (.int p1), .val (.ref b1), .val (.int (12 : Int32)), .val (.int (1 : Int32))] [(.int (1 : Int32))])) _
      refine XS.iloadN X190.here hx rfl (hb hby at_266) rfl ?_
      show Steps p.tables e below (T190.setTop (mkF m 267 #[.val (.int p1), .val (.ref b1), .val (.int (12 : Int32)), .val (.int (1 : Int32))] [(.int (1 : Int32)), (.int (1 : Int32))])) _
      refine XS.icmpNo X190.here hx rfl (hb hby at_267) rfl (teq (by decide : (1 : Int32) = (1 : Int32))).2 ?_
      show Steps p.tables e below (T190.setTop (mkF m 270 #[.val (.int p1), .val (.ref b1), .val (.int (12 : Int32)), .val (.int (1 : Int32))] [])) _
      refine XS.iconst X190.here hx rfl (hb hby at_270) ?_
      show Steps p.tables e below (T190.setTop (mkF m 271 #[.val (.int p1), .val (.ref b1), .val (.int (12 : Int32)), .val (.int (1 : Int32))] [(.int (1 : Int32))])) _
      refine XS.goto X190.here hx rfl (pc0 := 271) (pc' := 275) rfl (hb hby at_271) (by decide) (by decide) ?_
      exact k
    obtain ⟨fs, hrt, hrun, hended, hW, hsame⟩ := X190.leave (v := some (.int (1 : Int32))) (fun h => by rw [Bd.returns] at h; cases h)
    refine ⟨_, _, g191 _ ?_, hrun, hended, _, _, rfl, ?_, ⟨_, rfl⟩, hW, hsame.mono (by decide) (by decide)⟩
    · show Steps p.tables e below (T190.setTop (mkF m 275 #[.val (.int p1), .val (.ref b1), .val (.int (12 : Int32)), .val (.int (1 : Int32))] [(.int (1 : Int32))])) _
      exact retN X190 hx (t := .boolean) Bd.returns (by simp) (hb hby at_275) hrt
    · show own_Q_rm0 Z p1 w0 w1 w2 w3 w4 w5 w6 w7 w8 w9 w10 w11 w12 w13 w14 w15 w16 w17 w18 w19 w20 w21 w22 w23 w24 w25 w26 w27 w28 w29 w30 h0 n0 _ T190.heap _
      rw [e190]
      exact ⟨rfl, N190⟩
  · skip
    obtain ⟨c192, Ar192, cq192, S192, Nn192, Hh192, Gg192⟩ := id V125a
    have hin192 : ¬ ((13 : Int32) < 0 ∨ c192.slots.size ≤ ((13 : Int32)).toNatClampNeg) := inb_of S192 ⟨by decide, by decide⟩
    have hat192 : c192.slots[((13 : Int32)).toNatClampNeg]? = some (.ref w13) := Has.at Hh192 hin192 rfl
    obtain ⟨LL193, XL193, NL193⟩ : ∃ LL : List Loc, Stand p l e room_1 s m #[(.int p1)] below meth c T125 LL 1 31 ∧ Fr n0 LL := ⟨_, X125, N125⟩
    have o194 : Old Z n0 h125 := (Old.wr o122 W125 gz_b1)
    obtain ⟨cq195, kq195, q195a, q195b, q195c⟩ := isOf hZ e125 (Ex_LESS.ext o194.2)
    obtain ⟨_, _, ⟨T195, L195, k195, n195⟩, -, X195, ⟨Lc195, hQ195, l195, y195, z195⟩, st195⟩ := XL193.virtualBack hx (y := (⟨"com/example/chalkline/chalkline/runtime/Opcode", "fallsThrough", "()Z"⟩ : MethodName)) (z := (⟨"com/example/chalkline/chalkline/runtime/Opcode", "fallsThrough", "()Z"⟩ : MethodName)) hown (mvT hZ (hw _ (List.mem_of_getElem? (i := 67) rfl))) (mvT hZ (hw _ (List.mem_of_getElem? (i := 68) rfl))) (notFace_of_selects (args := #[]) (mvT hZ (hw _ (List.mem_of_getElem? (i := 70) rfl)))) (mvT hZ (hw _ (List.mem_of_getElem? (i := 70) rfl))) (mvT hZ (hw _ (List.mem_of_getElem? (i := 69) rfl))) (by decide) (backOf (W := 0) (rmM l Z a0 hw [] w13 (1 : Int32) w0 w1 w2 w3 w4 w5 w6 w7 w8 w9 w10 w11 w12 w13 w14 w15 w16 w17 w18 w19 w20 w21 w22 w23 w24 w25 w26 w27 w28 w29 w30 h125 n0 o194 G0 (by rw [if_neg (Fld.ne Fo13 Fo23 (own_ni (by decide))), if_neg (Fld.ne Fo13 Fo28 (own_ni (by decide))), if_neg (Fld.ne Fo13 Fo30 (own_ni (by decide)))])) hZ (hw _ (List.mem_of_getElem? (i := 71) rfl)) (hw _ (List.mem_of_getElem? (i := 3) rfl)) (by decide) (by decide)) q195a q195c (g := (mkF m 263 #[.val (.int p1), .val (.ref b1), .val (.int (13 : Int32)), .val (.int (1 : Int32))] [(.ref w13)])) rfl (by rw [hml]; rfl) (Steps.refl _) (argsL := []) (rest := []) (lenOf own_pd0 rfl) rfl (by show 2 * 0 + _ ≤ _; exact Nat.le_of_eq rfl) (hb hby at_263) (fun _ _ => ⟨rfl, e125, (by decide : 1 + 0 ≤ _), (by decide : 31 + 0 ≤ _)⟩)
    dsimp only [Pt.U, Pt.locs, Pt.cells, Pt.slots] at X195 l195 y195 z195 st195 hQ195
    subst l195 y195 z195
    obtain ⟨rfl, Nq195, e195⟩ := hQ195
    have N195 := Fr.app NL193 Nq195
    have g196 : ∀ t, Steps p.tables e below (T195.setTop (mkF m 275 #[.val (.int p1), .val (.ref b1), .val (.int (13 : Int32)), .val (.int (1 : Int32))] [(.int (1 : Int32))])) t → Steps p.tables e below (s₁.setTop (entryFrame m #[(.int p1)] maxLocals)) t := by
      intro t k
      refine g126 t ?_
      show Steps p.tables e below (T125.setTop (mkF m 224 #[.val (.int p1), .val (.ref b1), .unset, .unset] [(.int (13 : Int32))])) _
      refine XS.istoreN X125.here hx rfl (hb hby at_224) rfl (l' := #[.val (.int p1), .val (.ref b1), .val (.int (13 : Int32)), .unset]) rfl ?_
      show Steps p.tables e below (T125.setTop (mkF m 225 #[.val (.int p1), .val (.ref b1), .val (.int (13 : Int32)), .unset] [])) _
      refine XS.iloadN X125.here hx rfl (hb hby at_225) rfl ?_
      show Steps p.tables e below (T125.setTop (mkF m 226 #[.val (.int p1), .val (.ref b1), .val (.int (13 : Int32)), .unset] [(.int (13 : Int32))])) _
      refine XS.bipush X125.here hx rfl (hb hby at_226) ?_
      show Steps p.tables e below (T125.setTop (mkF m 228 #[.val (.int p1), .val (.ref b1), .val (.int (13 : Int32)), .unset] [(.int (23 : Int32)), (.int (13 : Int32))])) _
      refine XS.icmpYes X125.here hx rfl (pc0 := 228) (pc' := 236) rfl (hb hby at_228) rfl (feq (by decide : ¬ ((13 : Int32) = (23 : Int32)))).2 (by decide) (by decide) ?_
      show Steps p.tables e below (T125.setTop (mkF m 236 #[.val (.int p1), .val (.ref b1), .val (.int (13 : Int32)), .unset] [])) _
      refine XS.iloadN X125.here hx rfl (hb hby at_236) rfl ?_
      show Steps p.tables e below (T125.setTop (mkF m 237 #[.val (.int p1), .val (.ref b1), .val (.int (13 : Int32)), .unset] [(.int (13 : Int32))])) _
      refine XS.bipush X125.here hx rfl (hb hby at_237) ?_
      show Steps p.tables e below (T125.setTop (mkF m 239 #[.val (.int p1), .val (.ref b1), .val (.int (13 : Int32)), .unset] [(.int (28 : Int32)), (.int (13 : Int32))])) _
      refine XS.icmpYes X125.here hx rfl (pc0 := 239) (pc' := 247) rfl (hb hby at_239) rfl (feq (by decide : ¬ ((13 : Int32) = (28 : Int32)))).2 (by decide) (by decide) ?_
      show Steps p.tables e below (T125.setTop (mkF m 247 #[.val (.int p1), .val (.ref b1), .val (.int (13 : Int32)), .unset] [])) _
      refine XS.iloadN X125.here hx rfl (hb hby at_247) rfl ?_
      show Steps p.tables e below (T125.setTop (mkF m 248 #[.val (.int p1), .val (.ref b1), .val (.int (13 : Int32)), .unset] [(.int (13 : Int32))])) _
      refine XS.bipush X125.here hx rfl (hb hby at_248) ?_
      show Steps p.tables e below (T125.setTop (mkF m 250 #[.val (.int p1), .val (.ref b1), .val (.int (13 : Int32)), .unset] [(.int (30 : Int32)), (.int (13 : Int32))])) _
      refine XS.icmpYes X125.here hx rfl (pc0 := 250) (pc' := 258) rfl (hb hby at_250) rfl (feq (by decide : ¬ ((13 : Int32) = (30 : Int32)))).2 (by decide) (by decide) ?_
      show Steps p.tables e below (T125.setTop (mkF m 258 #[.val (.int p1), .val (.ref b1), .val (.int (13 : Int32)), .unset] [])) _
      refine XS.iconst X125.here hx rfl (hb hby at_258) ?_
      show Steps p.tables e below (T125.setTop (mkF m 259 #[.val (.int p1), .val (.ref b1), .val (.int (13 : Int32)), .unset] [(.int (1 : Int32))])) _
      refine XS.istoreN X125.here hx rfl (hb hby at_259) rfl (l' := #[.val (.int p1), .val (.ref b1), .val (.int (13 : Int32)), .val (.int (1 : Int32))]) rfl ?_
      show Steps p.tables e below (T125.setTop (mkF m 260 #[.val (.int p1), .val (.ref b1), .val (.int (13 : Int32)), .val (.int (1 : Int32))] [])) _
      refine XS.aloadN X125.here hx rfl (hb hby at_260) rfl rfl ?_
      show Steps p.tables e below (T125.setTop (mkF m 261 #[.val (.int p1), .val (.ref b1), .val (.int (13 : Int32)), .val (.int (1 : Int32))] [(.ref b1)])) _
      refine XS.iloadN X125.here hx rfl (hb hby at_261) rfl ?_
      show Steps p.tables e below (T125.setTop (mkF m 262 #[.val (.int p1), .val (.ref b1), .val (.int (13 : Int32)), .val (.int (1 : Int32))] [(.int (13 : Int32)), (.ref b1)])) _
      refine X125.aaload hx (j := (13 : Int32)) (v := (.ref w13)) (by rw [e125]; exact Ar192.1) (State.isArrayOf_alike hZ.alike Ar192.2.1) rfl Ar192.2.2 hin192 hat192 (g := (mkF m 262 #[.val (.int p1), .val (.ref b1), .val (.int (13 : Int32)), .val (.int (1 : Int32))] [(.int (13 : Int32)), (.ref b1)])) rfl rfl (hb hby at_262) _ ?_
      show Steps p.tables e below (T125.setTop (mkF m 263 #[.val (.int p1), .val (.ref b1), .val (.int (13 : Int32)), .val (.int (1 : Int32))] [(.ref w13)])) _
      refine st195.trans ?_
      show Steps p.tables e below (T195.setTop (mkF m 266 #[.val (.int p1), .val (.ref b1), .val (.int (13 : Int32)), .val (.int (1 : Int32))] [(.int (1 : Int32))])) _
      refine XS.iloadN X195.here hx rfl (hb hby at_266) rfl ?_
      show Steps p.tables e below (T195.setTop (mkF m 267 #[.val (.int p1), .val (.ref b1), .val (.int (13 : Int32)), .val (.int (1 : Int32))] [(.int (1 : Int32)), (.int (1 : Int32))])) _
      refine XS.icmpNo X195.here hx rfl (hb hby at_267) rfl (teq (by decide : (1 : Int32) = (1 : Int32))).2 ?_
      show Steps p.tables e below (T195.setTop (mkF m 270 #[.val (.int p1), .val (.ref b1), .val (.int (13 : Int32)), .val (.int (1 : Int32))] [])) _
      refine XS.iconst X195.here hx rfl (hb hby at_270) ?_
      show Steps p.tables e below (T195.setTop (mkF m 271 #[.val (.int p1), .val (.ref b1), .val (.int (13 : Int32)), .val (.int (1 : Int32))] [(.int (1 : Int32))])) _
      refine XS.goto X195.here hx rfl (pc0 := 271) (pc' := 275) rfl (hb hby at_271) (by decide) (by decide) ?_
      exact k
    obtain ⟨fs, hrt, hrun, hended, hW, hsame⟩ := X195.leave (v := some (.int (1 : Int32))) (fun h => by rw [Bd.returns] at h; cases h)
    refine ⟨_, _, g196 _ ?_, hrun, hended, _, _, rfl, ?_, ⟨_, rfl⟩, hW, hsame.mono (by decide) (by decide)⟩
    · show Steps p.tables e below (T195.setTop (mkF m 275 #[.val (.int p1), .val (.ref b1), .val (.int (13 : Int32)), .val (.int (1 : Int32))] [(.int (1 : Int32))])) _
      exact retN X195 hx (t := .boolean) Bd.returns (by simp) (hb hby at_275) hrt
    · show own_Q_rm0 Z p1 w0 w1 w2 w3 w4 w5 w6 w7 w8 w9 w10 w11 w12 w13 w14 w15 w16 w17 w18 w19 w20 w21 w22 w23 w24 w25 w26 w27 w28 w29 w30 h0 n0 _ T195.heap _
      rw [e195]
      exact ⟨rfl, N195⟩
  · skip
    obtain ⟨c197, Ar197, cq197, S197, Nn197, Hh197, Gg197⟩ := id V125a
    have hin197 : ¬ ((14 : Int32) < 0 ∨ c197.slots.size ≤ ((14 : Int32)).toNatClampNeg) := inb_of S197 ⟨by decide, by decide⟩
    have hat197 : c197.slots[((14 : Int32)).toNatClampNeg]? = some (.ref w14) := Has.at Hh197 hin197 rfl
    obtain ⟨LL198, XL198, NL198⟩ : ∃ LL : List Loc, Stand p l e room_1 s m #[(.int p1)] below meth c T125 LL 1 31 ∧ Fr n0 LL := ⟨_, X125, N125⟩
    have o199 : Old Z n0 h125 := (Old.wr o122 W125 gz_b1)
    obtain ⟨cq200, kq200, q200a, q200b, q200c⟩ := isOf hZ e125 (Ex_LESS_EQUAL.ext o199.2)
    obtain ⟨_, _, ⟨T200, L200, k200, n200⟩, -, X200, ⟨Lc200, hQ200, l200, y200, z200⟩, st200⟩ := XL198.virtualBack hx (y := (⟨"com/example/chalkline/chalkline/runtime/Opcode", "fallsThrough", "()Z"⟩ : MethodName)) (z := (⟨"com/example/chalkline/chalkline/runtime/Opcode", "fallsThrough", "()Z"⟩ : MethodName)) hown (mvT hZ (hw _ (List.mem_of_getElem? (i := 67) rfl))) (mvT hZ (hw _ (List.mem_of_getElem? (i := 68) rfl))) (notFace_of_selects (args := #[]) (mvT hZ (hw _ (List.mem_of_getElem? (i := 70) rfl)))) (mvT hZ (hw _ (List.mem_of_getElem? (i := 70) rfl))) (mvT hZ (hw _ (List.mem_of_getElem? (i := 69) rfl))) (by decide) (backOf (W := 0) (rmM l Z a0 hw [] w14 (1 : Int32) w0 w1 w2 w3 w4 w5 w6 w7 w8 w9 w10 w11 w12 w13 w14 w15 w16 w17 w18 w19 w20 w21 w22 w23 w24 w25 w26 w27 w28 w29 w30 h125 n0 o199 G0 (by rw [if_neg (Fld.ne Fo14 Fo23 (own_ni (by decide))), if_neg (Fld.ne Fo14 Fo28 (own_ni (by decide))), if_neg (Fld.ne Fo14 Fo30 (own_ni (by decide)))])) hZ (hw _ (List.mem_of_getElem? (i := 71) rfl)) (hw _ (List.mem_of_getElem? (i := 3) rfl)) (by decide) (by decide)) q200a q200c (g := (mkF m 263 #[.val (.int p1), .val (.ref b1), .val (.int (14 : Int32)), .val (.int (1 : Int32))] [(.ref w14)])) rfl (by rw [hml]; rfl) (Steps.refl _) (argsL := []) (rest := []) (lenOf own_pd0 rfl) rfl (by show 2 * 0 + _ ≤ _; exact Nat.le_of_eq rfl) (hb hby at_263) (fun _ _ => ⟨rfl, e125, (by decide : 1 + 0 ≤ _), (by decide : 31 + 0 ≤ _)⟩)
    dsimp only [Pt.U, Pt.locs, Pt.cells, Pt.slots] at X200 l200 y200 z200 st200 hQ200
    subst l200 y200 z200
    obtain ⟨rfl, Nq200, e200⟩ := hQ200
    have N200 := Fr.app NL198 Nq200
    have g201 : ∀ t, Steps p.tables e below (T200.setTop (mkF m 275 #[.val (.int p1), .val (.ref b1), .val (.int (14 : Int32)), .val (.int (1 : Int32))] [(.int (1 : Int32))])) t → Steps p.tables e below (s₁.setTop (entryFrame m #[(.int p1)] maxLocals)) t := by
      intro t k
      refine g126 t ?_
      show Steps p.tables e below (T125.setTop (mkF m 224 #[.val (.int p1), .val (.ref b1), .unset, .unset] [(.int (14 : Int32))])) _
      refine XS.istoreN X125.here hx rfl (hb hby at_224) rfl (l' := #[.val (.int p1), .val (.ref b1), .val (.int (14 : Int32)), .unset]) rfl ?_
      show Steps p.tables e below (T125.setTop (mkF m 225 #[.val (.int p1), .val (.ref b1), .val (.int (14 : Int32)), .unset] [])) _
      refine XS.iloadN X125.here hx rfl (hb hby at_225) rfl ?_
      show Steps p.tables e below (T125.setTop (mkF m 226 #[.val (.int p1), .val (.ref b1), .val (.int (14 : Int32)), .unset] [(.int (14 : Int32))])) _
      refine XS.bipush X125.here hx rfl (hb hby at_226) ?_
      show Steps p.tables e below (T125.setTop (mkF m 228 #[.val (.int p1), .val (.ref b1), .val (.int (14 : Int32)), .unset] [(.int (23 : Int32)), (.int (14 : Int32))])) _
      refine XS.icmpYes X125.here hx rfl (pc0 := 228) (pc' := 236) rfl (hb hby at_228) rfl (feq (by decide : ¬ ((14 : Int32) = (23 : Int32)))).2 (by decide) (by decide) ?_
      show Steps p.tables e below (T125.setTop (mkF m 236 #[.val (.int p1), .val (.ref b1), .val (.int (14 : Int32)), .unset] [])) _
      refine XS.iloadN X125.here hx rfl (hb hby at_236) rfl ?_
      show Steps p.tables e below (T125.setTop (mkF m 237 #[.val (.int p1), .val (.ref b1), .val (.int (14 : Int32)), .unset] [(.int (14 : Int32))])) _
      refine XS.bipush X125.here hx rfl (hb hby at_237) ?_
      show Steps p.tables e below (T125.setTop (mkF m 239 #[.val (.int p1), .val (.ref b1), .val (.int (14 : Int32)), .unset] [(.int (28 : Int32)), (.int (14 : Int32))])) _
      refine XS.icmpYes X125.here hx rfl (pc0 := 239) (pc' := 247) rfl (hb hby at_239) rfl (feq (by decide : ¬ ((14 : Int32) = (28 : Int32)))).2 (by decide) (by decide) ?_
      show Steps p.tables e below (T125.setTop (mkF m 247 #[.val (.int p1), .val (.ref b1), .val (.int (14 : Int32)), .unset] [])) _
      refine XS.iloadN X125.here hx rfl (hb hby at_247) rfl ?_
      show Steps p.tables e below (T125.setTop (mkF m 248 #[.val (.int p1), .val (.ref b1), .val (.int (14 : Int32)), .unset] [(.int (14 : Int32))])) _
      refine XS.bipush X125.here hx rfl (hb hby at_248) ?_
      show Steps p.tables e below (T125.setTop (mkF m 250 #[.val (.int p1), .val (.ref b1), .val (.int (14 : Int32)), .unset] [(.int (30 : Int32)), (.int (14 : Int32))])) _
      refine XS.icmpYes X125.here hx rfl (pc0 := 250) (pc' := 258) rfl (hb hby at_250) rfl (feq (by decide : ¬ ((14 : Int32) = (30 : Int32)))).2 (by decide) (by decide) ?_
      show Steps p.tables e below (T125.setTop (mkF m 258 #[.val (.int p1), .val (.ref b1), .val (.int (14 : Int32)), .unset] [])) _
      refine XS.iconst X125.here hx rfl (hb hby at_258) ?_
      show Steps p.tables e below (T125.setTop (mkF m 259 #[.val (.int p1), .val (.ref b1), .val (.int (14 : Int32)), .unset] [(.int (1 : Int32))])) _
      refine XS.istoreN X125.here hx rfl (hb hby at_259) rfl (l' := #[.val (.int p1), .val (.ref b1), .val (.int (14 : Int32)), .val (.int (1 : Int32))]) rfl ?_
      show Steps p.tables e below (T125.setTop (mkF m 260 #[.val (.int p1), .val (.ref b1), .val (.int (14 : Int32)), .val (.int (1 : Int32))] [])) _
      refine XS.aloadN X125.here hx rfl (hb hby at_260) rfl rfl ?_
      show Steps p.tables e below (T125.setTop (mkF m 261 #[.val (.int p1), .val (.ref b1), .val (.int (14 : Int32)), .val (.int (1 : Int32))] [(.ref b1)])) _
      refine XS.iloadN X125.here hx rfl (hb hby at_261) rfl ?_
      show Steps p.tables e below (T125.setTop (mkF m 262 #[.val (.int p1), .val (.ref b1), .val (.int (14 : Int32)), .val (.int (1 : Int32))] [(.int (14 : Int32)), (.ref b1)])) _
      refine X125.aaload hx (j := (14 : Int32)) (v := (.ref w14)) (by rw [e125]; exact Ar197.1) (State.isArrayOf_alike hZ.alike Ar197.2.1) rfl Ar197.2.2 hin197 hat197 (g := (mkF m 262 #[.val (.int p1), .val (.ref b1), .val (.int (14 : Int32)), .val (.int (1 : Int32))] [(.int (14 : Int32)), (.ref b1)])) rfl rfl (hb hby at_262) _ ?_
      show Steps p.tables e below (T125.setTop (mkF m 263 #[.val (.int p1), .val (.ref b1), .val (.int (14 : Int32)), .val (.int (1 : Int32))] [(.ref w14)])) _
      refine st200.trans ?_
      show Steps p.tables e below (T200.setTop (mkF m 266 #[.val (.int p1), .val (.ref b1), .val (.int (14 : Int32)), .val (.int (1 : Int32))] [(.int (1 : Int32))])) _
      refine XS.iloadN X200.here hx rfl (hb hby at_266) rfl ?_
      show Steps p.tables e below (T200.setTop (mkF m 267 #[.val (.int p1), .val (.ref b1), .val (.int (14 : Int32)), .val (.int (1 : Int32))] [(.int (1 : Int32)), (.int (1 : Int32))])) _
      refine XS.icmpNo X200.here hx rfl (hb hby at_267) rfl (teq (by decide : (1 : Int32) = (1 : Int32))).2 ?_
      show Steps p.tables e below (T200.setTop (mkF m 270 #[.val (.int p1), .val (.ref b1), .val (.int (14 : Int32)), .val (.int (1 : Int32))] [])) _
      refine XS.iconst X200.here hx rfl (hb hby at_270) ?_
      show Steps p.tables e below (T200.setTop (mkF m 271 #[.val (.int p1), .val (.ref b1), .val (.int (14 : Int32)), .val (.int (1 : Int32))] [(.int (1 : Int32))])) _
      refine XS.goto X200.here hx rfl (pc0 := 271) (pc' := 275) rfl (hb hby at_271) (by decide) (by decide) ?_
      exact k
    obtain ⟨fs, hrt, hrun, hended, hW, hsame⟩ := X200.leave (v := some (.int (1 : Int32))) (fun h => by rw [Bd.returns] at h; cases h)
    refine ⟨_, _, g201 _ ?_, hrun, hended, _, _, rfl, ?_, ⟨_, rfl⟩, hW, hsame.mono (by decide) (by decide)⟩
    · show Steps p.tables e below (T200.setTop (mkF m 275 #[.val (.int p1), .val (.ref b1), .val (.int (14 : Int32)), .val (.int (1 : Int32))] [(.int (1 : Int32))])) _
      exact retN X200 hx (t := .boolean) Bd.returns (by simp) (hb hby at_275) hrt
    · show own_Q_rm0 Z p1 w0 w1 w2 w3 w4 w5 w6 w7 w8 w9 w10 w11 w12 w13 w14 w15 w16 w17 w18 w19 w20 w21 w22 w23 w24 w25 w26 w27 w28 w29 w30 h0 n0 _ T200.heap _
      rw [e200]
      exact ⟨rfl, N200⟩
  · skip
    obtain ⟨c202, Ar202, cq202, S202, Nn202, Hh202, Gg202⟩ := id V125a
    have hin202 : ¬ ((15 : Int32) < 0 ∨ c202.slots.size ≤ ((15 : Int32)).toNatClampNeg) := inb_of S202 ⟨by decide, by decide⟩
    have hat202 : c202.slots[((15 : Int32)).toNatClampNeg]? = some (.ref w15) := Has.at Hh202 hin202 rfl
    obtain ⟨LL203, XL203, NL203⟩ : ∃ LL : List Loc, Stand p l e room_1 s m #[(.int p1)] below meth c T125 LL 1 31 ∧ Fr n0 LL := ⟨_, X125, N125⟩
    have o204 : Old Z n0 h125 := (Old.wr o122 W125 gz_b1)
    obtain ⟨cq205, kq205, q205a, q205b, q205c⟩ := isOf hZ e125 (Ex_GREATER.ext o204.2)
    obtain ⟨_, _, ⟨T205, L205, k205, n205⟩, -, X205, ⟨Lc205, hQ205, l205, y205, z205⟩, st205⟩ := XL203.virtualBack hx (y := (⟨"com/example/chalkline/chalkline/runtime/Opcode", "fallsThrough", "()Z"⟩ : MethodName)) (z := (⟨"com/example/chalkline/chalkline/runtime/Opcode", "fallsThrough", "()Z"⟩ : MethodName)) hown (mvT hZ (hw _ (List.mem_of_getElem? (i := 67) rfl))) (mvT hZ (hw _ (List.mem_of_getElem? (i := 68) rfl))) (notFace_of_selects (args := #[]) (mvT hZ (hw _ (List.mem_of_getElem? (i := 70) rfl)))) (mvT hZ (hw _ (List.mem_of_getElem? (i := 70) rfl))) (mvT hZ (hw _ (List.mem_of_getElem? (i := 69) rfl))) (by decide) (backOf (W := 0) (rmM l Z a0 hw [] w15 (1 : Int32) w0 w1 w2 w3 w4 w5 w6 w7 w8 w9 w10 w11 w12 w13 w14 w15 w16 w17 w18 w19 w20 w21 w22 w23 w24 w25 w26 w27 w28 w29 w30 h125 n0 o204 G0 (by rw [if_neg (Fld.ne Fo15 Fo23 (own_ni (by decide))), if_neg (Fld.ne Fo15 Fo28 (own_ni (by decide))), if_neg (Fld.ne Fo15 Fo30 (own_ni (by decide)))])) hZ (hw _ (List.mem_of_getElem? (i := 71) rfl)) (hw _ (List.mem_of_getElem? (i := 3) rfl)) (by decide) (by decide)) q205a q205c (g := (mkF m 263 #[.val (.int p1), .val (.ref b1), .val (.int (15 : Int32)), .val (.int (1 : Int32))] [(.ref w15)])) rfl (by rw [hml]; rfl) (Steps.refl _) (argsL := []) (rest := []) (lenOf own_pd0 rfl) rfl (by show 2 * 0 + _ ≤ _; exact Nat.le_of_eq rfl) (hb hby at_263) (fun _ _ => ⟨rfl, e125, (by decide : 1 + 0 ≤ _), (by decide : 31 + 0 ≤ _)⟩)
    dsimp only [Pt.U, Pt.locs, Pt.cells, Pt.slots] at X205 l205 y205 z205 st205 hQ205
    subst l205 y205 z205
    obtain ⟨rfl, Nq205, e205⟩ := hQ205
    have N205 := Fr.app NL203 Nq205
    have g206 : ∀ t, Steps p.tables e below (T205.setTop (mkF m 275 #[.val (.int p1), .val (.ref b1), .val (.int (15 : Int32)), .val (.int (1 : Int32))] [(.int (1 : Int32))])) t → Steps p.tables e below (s₁.setTop (entryFrame m #[(.int p1)] maxLocals)) t := by
      intro t k
      refine g126 t ?_
      show Steps p.tables e below (T125.setTop (mkF m 224 #[.val (.int p1), .val (.ref b1), .unset, .unset] [(.int (15 : Int32))])) _
      refine XS.istoreN X125.here hx rfl (hb hby at_224) rfl (l' := #[.val (.int p1), .val (.ref b1), .val (.int (15 : Int32)), .unset]) rfl ?_
      show Steps p.tables e below (T125.setTop (mkF m 225 #[.val (.int p1), .val (.ref b1), .val (.int (15 : Int32)), .unset] [])) _
      refine XS.iloadN X125.here hx rfl (hb hby at_225) rfl ?_
      show Steps p.tables e below (T125.setTop (mkF m 226 #[.val (.int p1), .val (.ref b1), .val (.int (15 : Int32)), .unset] [(.int (15 : Int32))])) _
      refine XS.bipush X125.here hx rfl (hb hby at_226) ?_
      show Steps p.tables e below (T125.setTop (mkF m 228 #[.val (.int p1), .val (.ref b1), .val (.int (15 : Int32)), .unset] [(.int (23 : Int32)), (.int (15 : Int32))])) _
      refine XS.icmpYes X125.here hx rfl (pc0 := 228) (pc' := 236) rfl (hb hby at_228) rfl (feq (by decide : ¬ ((15 : Int32) = (23 : Int32)))).2 (by decide) (by decide) ?_
      show Steps p.tables e below (T125.setTop (mkF m 236 #[.val (.int p1), .val (.ref b1), .val (.int (15 : Int32)), .unset] [])) _
      refine XS.iloadN X125.here hx rfl (hb hby at_236) rfl ?_
      show Steps p.tables e below (T125.setTop (mkF m 237 #[.val (.int p1), .val (.ref b1), .val (.int (15 : Int32)), .unset] [(.int (15 : Int32))])) _
      refine XS.bipush X125.here hx rfl (hb hby at_237) ?_
      show Steps p.tables e below (T125.setTop (mkF m 239 #[.val (.int p1), .val (.ref b1), .val (.int (15 : Int32)), .unset] [(.int (28 : Int32)), (.int (15 : Int32))])) _
      refine XS.icmpYes X125.here hx rfl (pc0 := 239) (pc' := 247) rfl (hb hby at_239) rfl (feq (by decide : ¬ ((15 : Int32) = (28 : Int32)))).2 (by decide) (by decide) ?_
      show Steps p.tables e below (T125.setTop (mkF m 247 #[.val (.int p1), .val (.ref b1), .val (.int (15 : Int32)), .unset] [])) _
      refine XS.iloadN X125.here hx rfl (hb hby at_247) rfl ?_
      show Steps p.tables e below (T125.setTop (mkF m 248 #[.val (.int p1), .val (.ref b1), .val (.int (15 : Int32)), .unset] [(.int (15 : Int32))])) _
      refine XS.bipush X125.here hx rfl (hb hby at_248) ?_
      show Steps p.tables e below (T125.setTop (mkF m 250 #[.val (.int p1), .val (.ref b1), .val (.int (15 : Int32)), .unset] [(.int (30 : Int32)), (.int (15 : Int32))])) _
      refine XS.icmpYes X125.here hx rfl (pc0 := 250) (pc' := 258) rfl (hb hby at_250) rfl (feq (by decide : ¬ ((15 : Int32) = (30 : Int32)))).2 (by decide) (by decide) ?_
      show Steps p.tables e below (T125.setTop (mkF m 258 #[.val (.int p1), .val (.ref b1), .val (.int (15 : Int32)), .unset] [])) _
      refine XS.iconst X125.here hx rfl (hb hby at_258) ?_
      show Steps p.tables e below (T125.setTop (mkF m 259 #[.val (.int p1), .val (.ref b1), .val (.int (15 : Int32)), .unset] [(.int (1 : Int32))])) _
      refine XS.istoreN X125.here hx rfl (hb hby at_259) rfl (l' := #[.val (.int p1), .val (.ref b1), .val (.int (15 : Int32)), .val (.int (1 : Int32))]) rfl ?_
      show Steps p.tables e below (T125.setTop (mkF m 260 #[.val (.int p1), .val (.ref b1), .val (.int (15 : Int32)), .val (.int (1 : Int32))] [])) _
      refine XS.aloadN X125.here hx rfl (hb hby at_260) rfl rfl ?_
      show Steps p.tables e below (T125.setTop (mkF m 261 #[.val (.int p1), .val (.ref b1), .val (.int (15 : Int32)), .val (.int (1 : Int32))] [(.ref b1)])) _
      refine XS.iloadN X125.here hx rfl (hb hby at_261) rfl ?_
      show Steps p.tables e below (T125.setTop (mkF m 262 #[.val (.int p1), .val (.ref b1), .val (.int (15 : Int32)), .val (.int (1 : Int32))] [(.int (15 : Int32)), (.ref b1)])) _
      refine X125.aaload hx (j := (15 : Int32)) (v := (.ref w15)) (by rw [e125]; exact Ar202.1) (State.isArrayOf_alike hZ.alike Ar202.2.1) rfl Ar202.2.2 hin202 hat202 (g := (mkF m 262 #[.val (.int p1), .val (.ref b1), .val (.int (15 : Int32)), .val (.int (1 : Int32))] [(.int (15 : Int32)), (.ref b1)])) rfl rfl (hb hby at_262) _ ?_
      show Steps p.tables e below (T125.setTop (mkF m 263 #[.val (.int p1), .val (.ref b1), .val (.int (15 : Int32)), .val (.int (1 : Int32))] [(.ref w15)])) _
      refine st205.trans ?_
      show Steps p.tables e below (T205.setTop (mkF m 266 #[.val (.int p1), .val (.ref b1), .val (.int (15 : Int32)), .val (.int (1 : Int32))] [(.int (1 : Int32))])) _
      refine XS.iloadN X205.here hx rfl (hb hby at_266) rfl ?_
      show Steps p.tables e below (T205.setTop (mkF m 267 #[.val (.int p1), .val (.ref b1), .val (.int (15 : Int32)), .val (.int (1 : Int32))] [(.int (1 : Int32)), (.int (1 : Int32))])) _
      refine XS.icmpNo X205.here hx rfl (hb hby at_267) rfl (teq (by decide : (1 : Int32) = (1 : Int32))).2 ?_
      show Steps p.tables e below (T205.setTop (mkF m 270 #[.val (.int p1), .val (.ref b1), .val (.int (15 : Int32)), .val (.int (1 : Int32))] [])) _
      refine XS.iconst X205.here hx rfl (hb hby at_270) ?_
      show Steps p.tables e below (T205.setTop (mkF m 271 #[.val (.int p1), .val (.ref b1), .val (.int (15 : Int32)), .val (.int (1 : Int32))] [(.int (1 : Int32))])) _
      refine XS.goto X205.here hx rfl (pc0 := 271) (pc' := 275) rfl (hb hby at_271) (by decide) (by decide) ?_
      exact k
    obtain ⟨fs, hrt, hrun, hended, hW, hsame⟩ := X205.leave (v := some (.int (1 : Int32))) (fun h => by rw [Bd.returns] at h; cases h)
    refine ⟨_, _, g206 _ ?_, hrun, hended, _, _, rfl, ?_, ⟨_, rfl⟩, hW, hsame.mono (by decide) (by decide)⟩
    · show Steps p.tables e below (T205.setTop (mkF m 275 #[.val (.int p1), .val (.ref b1), .val (.int (15 : Int32)), .val (.int (1 : Int32))] [(.int (1 : Int32))])) _
      exact retN X205 hx (t := .boolean) Bd.returns (by simp) (hb hby at_275) hrt
    · show own_Q_rm0 Z p1 w0 w1 w2 w3 w4 w5 w6 w7 w8 w9 w10 w11 w12 w13 w14 w15 w16 w17 w18 w19 w20 w21 w22 w23 w24 w25 w26 w27 w28 w29 w30 h0 n0 _ T205.heap _
      rw [e205]
      exact ⟨rfl, N205⟩
  · skip
    obtain ⟨c207, Ar207, cq207, S207, Nn207, Hh207, Gg207⟩ := id V125a
    have hin207 : ¬ ((16 : Int32) < 0 ∨ c207.slots.size ≤ ((16 : Int32)).toNatClampNeg) := inb_of S207 ⟨by decide, by decide⟩
    have hat207 : c207.slots[((16 : Int32)).toNatClampNeg]? = some (.ref w16) := Has.at Hh207 hin207 rfl
    obtain ⟨LL208, XL208, NL208⟩ : ∃ LL : List Loc, Stand p l e room_1 s m #[(.int p1)] below meth c T125 LL 1 31 ∧ Fr n0 LL := ⟨_, X125, N125⟩
    have o209 : Old Z n0 h125 := (Old.wr o122 W125 gz_b1)
    obtain ⟨cq210, kq210, q210a, q210b, q210c⟩ := isOf hZ e125 (Ex_GREATER_EQUAL.ext o209.2)
    obtain ⟨_, _, ⟨T210, L210, k210, n210⟩, -, X210, ⟨Lc210, hQ210, l210, y210, z210⟩, st210⟩ := XL208.virtualBack hx (y := (⟨"com/example/chalkline/chalkline/runtime/Opcode", "fallsThrough", "()Z"⟩ : MethodName)) (z := (⟨"com/example/chalkline/chalkline/runtime/Opcode", "fallsThrough", "()Z"⟩ : MethodName)) hown (mvT hZ (hw _ (List.mem_of_getElem? (i := 67) rfl))) (mvT hZ (hw _ (List.mem_of_getElem? (i := 68) rfl))) (notFace_of_selects (args := #[]) (mvT hZ (hw _ (List.mem_of_getElem? (i := 70) rfl)))) (mvT hZ (hw _ (List.mem_of_getElem? (i := 70) rfl))) (mvT hZ (hw _ (List.mem_of_getElem? (i := 69) rfl))) (by decide) (backOf (W := 0) (rmM l Z a0 hw [] w16 (1 : Int32) w0 w1 w2 w3 w4 w5 w6 w7 w8 w9 w10 w11 w12 w13 w14 w15 w16 w17 w18 w19 w20 w21 w22 w23 w24 w25 w26 w27 w28 w29 w30 h125 n0 o209 G0 (by rw [if_neg (Fld.ne Fo16 Fo23 (own_ni (by decide))), if_neg (Fld.ne Fo16 Fo28 (own_ni (by decide))), if_neg (Fld.ne Fo16 Fo30 (own_ni (by decide)))])) hZ (hw _ (List.mem_of_getElem? (i := 71) rfl)) (hw _ (List.mem_of_getElem? (i := 3) rfl)) (by decide) (by decide)) q210a q210c (g := (mkF m 263 #[.val (.int p1), .val (.ref b1), .val (.int (16 : Int32)), .val (.int (1 : Int32))] [(.ref w16)])) rfl (by rw [hml]; rfl) (Steps.refl _) (argsL := []) (rest := []) (lenOf own_pd0 rfl) rfl (by show 2 * 0 + _ ≤ _; exact Nat.le_of_eq rfl) (hb hby at_263) (fun _ _ => ⟨rfl, e125, (by decide : 1 + 0 ≤ _), (by decide : 31 + 0 ≤ _)⟩)
    dsimp only [Pt.U, Pt.locs, Pt.cells, Pt.slots] at X210 l210 y210 z210 st210 hQ210
    subst l210 y210 z210
    obtain ⟨rfl, Nq210, e210⟩ := hQ210
    have N210 := Fr.app NL208 Nq210
    have g211 : ∀ t, Steps p.tables e below (T210.setTop (mkF m 275 #[.val (.int p1), .val (.ref b1), .val (.int (16 : Int32)), .val (.int (1 : Int32))] [(.int (1 : Int32))])) t → Steps p.tables e below (s₁.setTop (entryFrame m #[(.int p1)] maxLocals)) t := by
      intro t k
      refine g126 t ?_
      show Steps p.tables e below (T125.setTop (mkF m 224 #[.val (.int p1), .val (.ref b1), .unset, .unset] [(.int (16 : Int32))])) _
      refine XS.istoreN X125.here hx rfl (hb hby at_224) rfl (l' := #[.val (.int p1), .val (.ref b1), .val (.int (16 : Int32)), .unset]) rfl ?_
      show Steps p.tables e below (T125.setTop (mkF m 225 #[.val (.int p1), .val (.ref b1), .val (.int (16 : Int32)), .unset] [])) _
      refine XS.iloadN X125.here hx rfl (hb hby at_225) rfl ?_
      show Steps p.tables e below (T125.setTop (mkF m 226 #[.val (.int p1), .val (.ref b1), .val (.int (16 : Int32)), .unset] [(.int (16 : Int32))])) _
      refine XS.bipush X125.here hx rfl (hb hby at_226) ?_
      show Steps p.tables e below (T125.setTop (mkF m 228 #[.val (.int p1), .val (.ref b1), .val (.int (16 : Int32)), .unset] [(.int (23 : Int32)), (.int (16 : Int32))])) _
      refine XS.icmpYes X125.here hx rfl (pc0 := 228) (pc' := 236) rfl (hb hby at_228) rfl (feq (by decide : ¬ ((16 : Int32) = (23 : Int32)))).2 (by decide) (by decide) ?_
      show Steps p.tables e below (T125.setTop (mkF m 236 #[.val (.int p1), .val (.ref b1), .val (.int (16 : Int32)), .unset] [])) _
      refine XS.iloadN X125.here hx rfl (hb hby at_236) rfl ?_
      show Steps p.tables e below (T125.setTop (mkF m 237 #[.val (.int p1), .val (.ref b1), .val (.int (16 : Int32)), .unset] [(.int (16 : Int32))])) _
      refine XS.bipush X125.here hx rfl (hb hby at_237) ?_
      show Steps p.tables e below (T125.setTop (mkF m 239 #[.val (.int p1), .val (.ref b1), .val (.int (16 : Int32)), .unset] [(.int (28 : Int32)), (.int (16 : Int32))])) _
      refine XS.icmpYes X125.here hx rfl (pc0 := 239) (pc' := 247) rfl (hb hby at_239) rfl (feq (by decide : ¬ ((16 : Int32) = (28 : Int32)))).2 (by decide) (by decide) ?_
      show Steps p.tables e below (T125.setTop (mkF m 247 #[.val (.int p1), .val (.ref b1), .val (.int (16 : Int32)), .unset] [])) _
      refine XS.iloadN X125.here hx rfl (hb hby at_247) rfl ?_
      show Steps p.tables e below (T125.setTop (mkF m 248 #[.val (.int p1), .val (.ref b1), .val (.int (16 : Int32)), .unset] [(.int (16 : Int32))])) _
      refine XS.bipush X125.here hx rfl (hb hby at_248) ?_
      show Steps p.tables e below (T125.setTop (mkF m 250 #[.val (.int p1), .val (.ref b1), .val (.int (16 : Int32)), .unset] [(.int (30 : Int32)), (.int (16 : Int32))])) _
      refine XS.icmpYes X125.here hx rfl (pc0 := 250) (pc' := 258) rfl (hb hby at_250) rfl (feq (by decide : ¬ ((16 : Int32) = (30 : Int32)))).2 (by decide) (by decide) ?_
      show Steps p.tables e below (T125.setTop (mkF m 258 #[.val (.int p1), .val (.ref b1), .val (.int (16 : Int32)), .unset] [])) _
      refine XS.iconst X125.here hx rfl (hb hby at_258) ?_
      show Steps p.tables e below (T125.setTop (mkF m 259 #[.val (.int p1), .val (.ref b1), .val (.int (16 : Int32)), .unset] [(.int (1 : Int32))])) _
      refine XS.istoreN X125.here hx rfl (hb hby at_259) rfl (l' := #[.val (.int p1), .val (.ref b1), .val (.int (16 : Int32)), .val (.int (1 : Int32))]) rfl ?_
      show Steps p.tables e below (T125.setTop (mkF m 260 #[.val (.int p1), .val (.ref b1), .val (.int (16 : Int32)), .val (.int (1 : Int32))] [])) _
      refine XS.aloadN X125.here hx rfl (hb hby at_260) rfl rfl ?_
      show Steps p.tables e below (T125.setTop (mkF m 261 #[.val (.int p1), .val (.ref b1), .val (.int (16 : Int32)), .val (.int (1 : Int32))] [(.ref b1)])) _
      refine XS.iloadN X125.here hx rfl (hb hby at_261) rfl ?_
      show Steps p.tables e below (T125.setTop (mkF m 262 #[.val (.int p1), .val (.ref b1), .val (.int (16 : Int32)), .val (.int (1 : Int32))] [(.int (16 : Int32)), (.ref b1)])) _
      refine X125.aaload hx (j := (16 : Int32)) (v := (.ref w16)) (by rw [e125]; exact Ar207.1) (State.isArrayOf_alike hZ.alike Ar207.2.1) rfl Ar207.2.2 hin207 hat207 (g := (mkF m 262 #[.val (.int p1), .val (.ref b1), .val (.int (16 : Int32)), .val (.int (1 : Int32))] [(.int (16 : Int32)), (.ref b1)])) rfl rfl (hb hby at_262) _ ?_
      show Steps p.tables e below (T125.setTop (mkF m 263 #[.val (.int p1), .val (.ref b1), .val (.int (16 : Int32)), .val (.int (1 : Int32))] [(.ref w16)])) _
      refine st210.trans ?_
      show Steps p.tables e below (T210.setTop (mkF m 266 #[.val (.int p1), .val (.ref b1), .val (.int (16 : Int32)), .val (.int (1 : Int32))] [(.int (1 : Int32))])) _
      refine XS.iloadN X210.here hx rfl (hb hby at_266) rfl ?_
      show Steps p.tables e below (T210.setTop (mkF m 267 #[.val (.int p1), .val (.ref b1), .val (.int (16 : Int32)), .val (.int (1 : Int32))] [(.int (1 : Int32)), (.int (1 : Int32))])) _
      refine XS.icmpNo X210.here hx rfl (hb hby at_267) rfl (teq (by decide : (1 : Int32) = (1 : Int32))).2 ?_
      show Steps p.tables e below (T210.setTop (mkF m 270 #[.val (.int p1), .val (.ref b1), .val (.int (16 : Int32)), .val (.int (1 : Int32))] [])) _
      refine XS.iconst X210.here hx rfl (hb hby at_270) ?_
      show Steps p.tables e below (T210.setTop (mkF m 271 #[.val (.int p1), .val (.ref b1), .val (.int (16 : Int32)), .val (.int (1 : Int32))] [(.int (1 : Int32))])) _
      refine XS.goto X210.here hx rfl (pc0 := 271) (pc' := 275) rfl (hb hby at_271) (by decide) (by decide) ?_
      exact k
    obtain ⟨fs, hrt, hrun, hended, hW, hsame⟩ := X210.leave (v := some (.int (1 : Int32))) (fun h => by rw [Bd.returns] at h; cases h)
    refine ⟨_, _, g211 _ ?_, hrun, hended, _, _, rfl, ?_, ⟨_, rfl⟩, hW, hsame.mono (by decide) (by decide)⟩
    · show Steps p.tables e below (T210.setTop (mkF m 275 #[.val (.int p1), .val (.ref b1), .val (.int (16 : Int32)), .val (.int (1 : Int32))] [(.int (1 : Int32))])) _
      exact retN X210 hx (t := .boolean) Bd.returns (by simp) (hb hby at_275) hrt
    · show own_Q_rm0 Z p1 w0 w1 w2 w3 w4 w5 w6 w7 w8 w9 w10 w11 w12 w13 w14 w15 w16 w17 w18 w19 w20 w21 w22 w23 w24 w25 w26 w27 w28 w29 w30 h0 n0 _ T210.heap _
      rw [e210]
      exact ⟨rfl, N210⟩
  · skip
    obtain ⟨c212, Ar212, cq212, S212, Nn212, Hh212, Gg212⟩ := id V125a
    have hin212 : ¬ ((17 : Int32) < 0 ∨ c212.slots.size ≤ ((17 : Int32)).toNatClampNeg) := inb_of S212 ⟨by decide, by decide⟩
    have hat212 : c212.slots[((17 : Int32)).toNatClampNeg]? = some (.ref w17) := Has.at Hh212 hin212 rfl
    obtain ⟨LL213, XL213, NL213⟩ : ∃ LL : List Loc, Stand p l e room_1 s m #[(.int p1)] below meth c T125 LL 1 31 ∧ Fr n0 LL := ⟨_, X125, N125⟩
    have o214 : Old Z n0 h125 := (Old.wr o122 W125 gz_b1)
    obtain ⟨cq215, kq215, q215a, q215b, q215c⟩ := isOf hZ e125 (Ex_EQUAL.ext o214.2)
    obtain ⟨_, _, ⟨T215, L215, k215, n215⟩, -, X215, ⟨Lc215, hQ215, l215, y215, z215⟩, st215⟩ := XL213.virtualBack hx (y := (⟨"com/example/chalkline/chalkline/runtime/Opcode", "fallsThrough", "()Z"⟩ : MethodName)) (z := (⟨"com/example/chalkline/chalkline/runtime/Opcode", "fallsThrough", "()Z"⟩ : MethodName)) hown (mvT hZ (hw _ (List.mem_of_getElem? (i := 67) rfl))) (mvT hZ (hw _ (List.mem_of_getElem? (i := 68) rfl))) (notFace_of_selects (args := #[]) (mvT hZ (hw _ (List.mem_of_getElem? (i := 70) rfl)))) (mvT hZ (hw _ (List.mem_of_getElem? (i := 70) rfl))) (mvT hZ (hw _ (List.mem_of_getElem? (i := 69) rfl))) (by decide) (backOf (W := 0) (rmM l Z a0 hw [] w17 (1 : Int32) w0 w1 w2 w3 w4 w5 w6 w7 w8 w9 w10 w11 w12 w13 w14 w15 w16 w17 w18 w19 w20 w21 w22 w23 w24 w25 w26 w27 w28 w29 w30 h125 n0 o214 G0 (by rw [if_neg (Fld.ne Fo17 Fo23 (own_ni (by decide))), if_neg (Fld.ne Fo17 Fo28 (own_ni (by decide))), if_neg (Fld.ne Fo17 Fo30 (own_ni (by decide)))])) hZ (hw _ (List.mem_of_getElem? (i := 71) rfl)) (hw _ (List.mem_of_getElem? (i := 3) rfl)) (by decide) (by decide)) q215a q215c (g := (mkF m 263 #[.val (.int p1), .val (.ref b1), .val (.int (17 : Int32)), .val (.int (1 : Int32))] [(.ref w17)])) rfl (by rw [hml]; rfl) (Steps.refl _) (argsL := []) (rest := []) (lenOf own_pd0 rfl) rfl (by show 2 * 0 + _ ≤ _; exact Nat.le_of_eq rfl) (hb hby at_263) (fun _ _ => ⟨rfl, e125, (by decide : 1 + 0 ≤ _), (by decide : 31 + 0 ≤ _)⟩)
    dsimp only [Pt.U, Pt.locs, Pt.cells, Pt.slots] at X215 l215 y215 z215 st215 hQ215
    subst l215 y215 z215
    obtain ⟨rfl, Nq215, e215⟩ := hQ215
    have N215 := Fr.app NL213 Nq215
    have g216 : ∀ t, Steps p.tables e below (T215.setTop (mkF m 275 #[.val (.int p1), .val (.ref b1), .val (.int (17 : Int32)), .val (.int (1 : Int32))] [(.int (1 : Int32))])) t → Steps p.tables e below (s₁.setTop (entryFrame m #[(.int p1)] maxLocals)) t := by
      intro t k
      refine g126 t ?_
      show Steps p.tables e below (T125.setTop (mkF m 224 #[.val (.int p1), .val (.ref b1), .unset, .unset] [(.int (17 : Int32))])) _
      refine XS.istoreN X125.here hx rfl (hb hby at_224) rfl (l' := #[.val (.int p1), .val (.ref b1), .val (.int (17 : Int32)), .unset]) rfl ?_
      show Steps p.tables e below (T125.setTop (mkF m 225 #[.val (.int p1), .val (.ref b1), .val (.int (17 : Int32)), .unset] [])) _
      refine XS.iloadN X125.here hx rfl (hb hby at_225) rfl ?_
      show Steps p.tables e below (T125.setTop (mkF m 226 #[.val (.int p1), .val (.ref b1), .val (.int (17 : Int32)), .unset] [(.int (17 : Int32))])) _
      refine XS.bipush X125.here hx rfl (hb hby at_226) ?_
      show Steps p.tables e below (T125.setTop (mkF m 228 #[.val (.int p1), .val (.ref b1), .val (.int (17 : Int32)), .unset] [(.int (23 : Int32)), (.int (17 : Int32))])) _
      refine XS.icmpYes X125.here hx rfl (pc0 := 228) (pc' := 236) rfl (hb hby at_228) rfl (feq (by decide : ¬ ((17 : Int32) = (23 : Int32)))).2 (by decide) (by decide) ?_
      show Steps p.tables e below (T125.setTop (mkF m 236 #[.val (.int p1), .val (.ref b1), .val (.int (17 : Int32)), .unset] [])) _
      refine XS.iloadN X125.here hx rfl (hb hby at_236) rfl ?_
      show Steps p.tables e below (T125.setTop (mkF m 237 #[.val (.int p1), .val (.ref b1), .val (.int (17 : Int32)), .unset] [(.int (17 : Int32))])) _
      refine XS.bipush X125.here hx rfl (hb hby at_237) ?_
      show Steps p.tables e below (T125.setTop (mkF m 239 #[.val (.int p1), .val (.ref b1), .val (.int (17 : Int32)), .unset] [(.int (28 : Int32)), (.int (17 : Int32))])) _
      refine XS.icmpYes X125.here hx rfl (pc0 := 239) (pc' := 247) rfl (hb hby at_239) rfl (feq (by decide : ¬ ((17 : Int32) = (28 : Int32)))).2 (by decide) (by decide) ?_
      show Steps p.tables e below (T125.setTop (mkF m 247 #[.val (.int p1), .val (.ref b1), .val (.int (17 : Int32)), .unset] [])) _
      refine XS.iloadN X125.here hx rfl (hb hby at_247) rfl ?_
      show Steps p.tables e below (T125.setTop (mkF m 248 #[.val (.int p1), .val (.ref b1), .val (.int (17 : Int32)), .unset] [(.int (17 : Int32))])) _
      refine XS.bipush X125.here hx rfl (hb hby at_248) ?_
      show Steps p.tables e below (T125.setTop (mkF m 250 #[.val (.int p1), .val (.ref b1), .val (.int (17 : Int32)), .unset] [(.int (30 : Int32)), (.int (17 : Int32))])) _
      refine XS.icmpYes X125.here hx rfl (pc0 := 250) (pc' := 258) rfl (hb hby at_250) rfl (feq (by decide : ¬ ((17 : Int32) = (30 : Int32)))).2 (by decide) (by decide) ?_
      show Steps p.tables e below (T125.setTop (mkF m 258 #[.val (.int p1), .val (.ref b1), .val (.int (17 : Int32)), .unset] [])) _
      refine XS.iconst X125.here hx rfl (hb hby at_258) ?_
      show Steps p.tables e below (T125.setTop (mkF m 259 #[.val (.int p1), .val (.ref b1), .val (.int (17 : Int32)), .unset] [(.int (1 : Int32))])) _
      refine XS.istoreN X125.here hx rfl (hb hby at_259) rfl (l' := #[.val (.int p1), .val (.ref b1), .val (.int (17 : Int32)), .val (.int (1 : Int32))]) rfl ?_
      show Steps p.tables e below (T125.setTop (mkF m 260 #[.val (.int p1), .val (.ref b1), .val (.int (17 : Int32)), .val (.int (1 : Int32))] [])) _
      refine XS.aloadN X125.here hx rfl (hb hby at_260) rfl rfl ?_
      show Steps p.tables e below (T125.setTop (mkF m 261 #[.val (.int p1), .val (.ref b1), .val (.int (17 : Int32)), .val (.int (1 : Int32))] [(.ref b1)])) _
      refine XS.iloadN X125.here hx rfl (hb hby at_261) rfl ?_
      show Steps p.tables e below (T125.setTop (mkF m 262 #[.val (.int p1), .val (.ref b1), .val (.int (17 : Int32)), .val (.int (1 : Int32))] [(.int (17 : Int32)), (.ref b1)])) _
      refine X125.aaload hx (j := (17 : Int32)) (v := (.ref w17)) (by rw [e125]; exact Ar212.1) (State.isArrayOf_alike hZ.alike Ar212.2.1) rfl Ar212.2.2 hin212 hat212 (g := (mkF m 262 #[.val (.int p1), .val (.ref b1), .val (.int (17 : Int32)), .val (.int (1 : Int32))] [(.int (17 : Int32)), (.ref b1)])) rfl rfl (hb hby at_262) _ ?_
      show Steps p.tables e below (T125.setTop (mkF m 263 #[.val (.int p1), .val (.ref b1), .val (.int (17 : Int32)), .val (.int (1 : Int32))] [(.ref w17)])) _
      refine st215.trans ?_
      show Steps p.tables e below (T215.setTop (mkF m 266 #[.val (.int p1), .val (.ref b1), .val (.int (17 : Int32)), .val (.int (1 : Int32))] [(.int (1 : Int32))])) _
      refine XS.iloadN X215.here hx rfl (hb hby at_266) rfl ?_
      show Steps p.tables e below (T215.setTop (mkF m 267 #[.val (.int p1), .val (.ref b1), .val (.int (17 : Int32)), .val (.int (1 : Int32))] [(.int (1 : Int32)), (.int (1 : Int32))])) _
      refine XS.icmpNo X215.here hx rfl (hb hby at_267) rfl (teq (by decide : (1 : Int32) = (1 : Int32))).2 ?_
      show Steps p.tables e below (T215.setTop (mkF m 270 #[.val (.int p1), .val (.ref b1), .val (.int (17 : Int32)), .val (.int (1 : Int32))] [])) _
      refine XS.iconst X215.here hx rfl (hb hby at_270) ?_
      show Steps p.tables e below (T215.setTop (mkF m 271 #[.val (.int p1), .val (.ref b1), .val (.int (17 : Int32)), .val (.int (1 : Int32))] [(.int (1 : Int32))])) _
      refine XS.goto X215.here hx rfl (pc0 := 271) (pc' := 275) rfl (hb hby at_271) (by decide) (by decide) ?_
      exact k
    obtain ⟨fs, hrt, hrun, hended, hW, hsame⟩ := X215.leave (v := some (.int (1 : Int32))) (fun h => by rw [Bd.returns] at h; cases h)
    refine ⟨_, _, g216 _ ?_, hrun, hended, _, _, rfl, ?_, ⟨_, rfl⟩, hW, hsame.mono (by decide) (by decide)⟩
    · show Steps p.tables e below (T215.setTop (mkF m 275 #[.val (.int p1), .val (.ref b1), .val (.int (17 : Int32)), .val (.int (1 : Int32))] [(.int (1 : Int32))])) _
      exact retN X215 hx (t := .boolean) Bd.returns (by simp) (hb hby at_275) hrt
    · show own_Q_rm0 Z p1 w0 w1 w2 w3 w4 w5 w6 w7 w8 w9 w10 w11 w12 w13 w14 w15 w16 w17 w18 w19 w20 w21 w22 w23 w24 w25 w26 w27 w28 w29 w30 h0 n0 _ T215.heap _
      rw [e215]
      exact ⟨rfl, N215⟩
  · skip
    obtain ⟨c217, Ar217, cq217, S217, Nn217, Hh217, Gg217⟩ := id V125a
    have hin217 : ¬ ((18 : Int32) < 0 ∨ c217.slots.size ≤ ((18 : Int32)).toNatClampNeg) := inb_of S217 ⟨by decide, by decide⟩
    have hat217 : c217.slots[((18 : Int32)).toNatClampNeg]? = some (.ref w18) := Has.at Hh217 hin217 rfl
    obtain ⟨LL218, XL218, NL218⟩ : ∃ LL : List Loc, Stand p l e room_1 s m #[(.int p1)] below meth c T125 LL 1 31 ∧ Fr n0 LL := ⟨_, X125, N125⟩
    have o219 : Old Z n0 h125 := (Old.wr o122 W125 gz_b1)
    obtain ⟨cq220, kq220, q220a, q220b, q220c⟩ := isOf hZ e125 (Ex_NOT_EQUAL.ext o219.2)
    obtain ⟨_, _, ⟨T220, L220, k220, n220⟩, -, X220, ⟨Lc220, hQ220, l220, y220, z220⟩, st220⟩ := XL218.virtualBack hx (y := (⟨"com/example/chalkline/chalkline/runtime/Opcode", "fallsThrough", "()Z"⟩ : MethodName)) (z := (⟨"com/example/chalkline/chalkline/runtime/Opcode", "fallsThrough", "()Z"⟩ : MethodName)) hown (mvT hZ (hw _ (List.mem_of_getElem? (i := 67) rfl))) (mvT hZ (hw _ (List.mem_of_getElem? (i := 68) rfl))) (notFace_of_selects (args := #[]) (mvT hZ (hw _ (List.mem_of_getElem? (i := 70) rfl)))) (mvT hZ (hw _ (List.mem_of_getElem? (i := 70) rfl))) (mvT hZ (hw _ (List.mem_of_getElem? (i := 69) rfl))) (by decide) (backOf (W := 0) (rmM l Z a0 hw [] w18 (1 : Int32) w0 w1 w2 w3 w4 w5 w6 w7 w8 w9 w10 w11 w12 w13 w14 w15 w16 w17 w18 w19 w20 w21 w22 w23 w24 w25 w26 w27 w28 w29 w30 h125 n0 o219 G0 (by rw [if_neg (Fld.ne Fo18 Fo23 (own_ni (by decide))), if_neg (Fld.ne Fo18 Fo28 (own_ni (by decide))), if_neg (Fld.ne Fo18 Fo30 (own_ni (by decide)))])) hZ (hw _ (List.mem_of_getElem? (i := 71) rfl)) (hw _ (List.mem_of_getElem? (i := 3) rfl)) (by decide) (by decide)) q220a q220c (g := (mkF m 263 #[.val (.int p1), .val (.ref b1), .val (.int (18 : Int32)), .val (.int (1 : Int32))] [(.ref w18)])) rfl (by rw [hml]; rfl) (Steps.refl _) (argsL := []) (rest := []) (lenOf own_pd0 rfl) rfl (by show 2 * 0 + _ ≤ _; exact Nat.le_of_eq rfl) (hb hby at_263) (fun _ _ => ⟨rfl, e125, (by decide : 1 + 0 ≤ _), (by decide : 31 + 0 ≤ _)⟩)
    dsimp only [Pt.U, Pt.locs, Pt.cells, Pt.slots] at X220 l220 y220 z220 st220 hQ220
    subst l220 y220 z220
    obtain ⟨rfl, Nq220, e220⟩ := hQ220
    have N220 := Fr.app NL218 Nq220
    have g221 : ∀ t, Steps p.tables e below (T220.setTop (mkF m 275 #[.val (.int p1), .val (.ref b1), .val (.int (18 : Int32)), .val (.int (1 : Int32))] [(.int (1 : Int32))])) t → Steps p.tables e below (s₁.setTop (entryFrame m #[(.int p1)] maxLocals)) t := by
      intro t k
      refine g126 t ?_
      show Steps p.tables e below (T125.setTop (mkF m 224 #[.val (.int p1), .val (.ref b1), .unset, .unset] [(.int (18 : Int32))])) _
      refine XS.istoreN X125.here hx rfl (hb hby at_224) rfl (l' := #[.val (.int p1), .val (.ref b1), .val (.int (18 : Int32)), .unset]) rfl ?_
      show Steps p.tables e below (T125.setTop (mkF m 225 #[.val (.int p1), .val (.ref b1), .val (.int (18 : Int32)), .unset] [])) _
      refine XS.iloadN X125.here hx rfl (hb hby at_225) rfl ?_
      show Steps p.tables e below (T125.setTop (mkF m 226 #[.val (.int p1), .val (.ref b1), .val (.int (18 : Int32)), .unset] [(.int (18 : Int32))])) _
      refine XS.bipush X125.here hx rfl (hb hby at_226) ?_
      show Steps p.tables e below (T125.setTop (mkF m 228 #[.val (.int p1), .val (.ref b1), .val (.int (18 : Int32)), .unset] [(.int (23 : Int32)), (.int (18 : Int32))])) _
      refine XS.icmpYes X125.here hx rfl (pc0 := 228) (pc' := 236) rfl (hb hby at_228) rfl (feq (by decide : ¬ ((18 : Int32) = (23 : Int32)))).2 (by decide) (by decide) ?_
      show Steps p.tables e below (T125.setTop (mkF m 236 #[.val (.int p1), .val (.ref b1), .val (.int (18 : Int32)), .unset] [])) _
      refine XS.iloadN X125.here hx rfl (hb hby at_236) rfl ?_
      show Steps p.tables e below (T125.setTop (mkF m 237 #[.val (.int p1), .val (.ref b1), .val (.int (18 : Int32)), .unset] [(.int (18 : Int32))])) _
      refine XS.bipush X125.here hx rfl (hb hby at_237) ?_
      show Steps p.tables e below (T125.setTop (mkF m 239 #[.val (.int p1), .val (.ref b1), .val (.int (18 : Int32)), .unset] [(.int (28 : Int32)), (.int (18 : Int32))])) _
      refine XS.icmpYes X125.here hx rfl (pc0 := 239) (pc' := 247) rfl (hb hby at_239) rfl (feq (by decide : ¬ ((18 : Int32) = (28 : Int32)))).2 (by decide) (by decide) ?_
      show Steps p.tables e below (T125.setTop (mkF m 247 #[.val (.int p1), .val (.ref b1), .val (.int (18 : Int32)), .unset] [])) _
      refine XS.iloadN X125.here hx rfl (hb hby at_247) rfl ?_
      show Steps p.tables e below (T125.setTop (mkF m 248 #[.val (.int p1), .val (.ref b1), .val (.int (18 : Int32)), .unset] [(.int (18 : Int32))])) _
      refine XS.bipush X125.here hx rfl (hb hby at_248) ?_
      show Steps p.tables e below (T125.setTop (mkF m 250 #[.val (.int p1), .val (.ref b1), .val (.int (18 : Int32)), .unset] [(.int (30 : Int32)), (.int (18 : Int32))])) _
      refine XS.icmpYes X125.here hx rfl (pc0 := 250) (pc' := 258) rfl (hb hby at_250) rfl (feq (by decide : ¬ ((18 : Int32) = (30 : Int32)))).2 (by decide) (by decide) ?_
      show Steps p.tables e below (T125.setTop (mkF m 258 #[.val (.int p1), .val (.ref b1), .val (.int (18 : Int32)), .unset] [])) _
      refine XS.iconst X125.here hx rfl (hb hby at_258) ?_
      show Steps p.tables e below (T125.setTop (mkF m 259 #[.val (.int p1), .val (.ref b1), .val (.int (18 : Int32)), .unset] [(.int (1 : Int32))])) _
      refine XS.istoreN X125.here hx rfl (hb hby at_259) rfl (l' := #[.val (.int p1), .val (.ref b1), .val (.int (18 : Int32)), .val (.int (1 : Int32))]) rfl ?_
      show Steps p.tables e below (T125.setTop (mkF m 260 #[.val (.int p1), .val (.ref b1), .val (.int (18 : Int32)), .val (.int (1 : Int32))] [])) _
      refine XS.aloadN X125.here hx rfl (hb hby at_260) rfl rfl ?_
      show Steps p.tables e below (T125.setTop (mkF m 261 #[.val (.int p1), .val (.ref b1), .val (.int (18 : Int32)), .val (.int (1 : Int32))] [(.ref b1)])) _
      refine XS.iloadN X125.here hx rfl (hb hby at_261) rfl ?_
      show Steps p.tables e below (T125.setTop (mkF m 262 #[.val (.int p1), .val (.ref b1), .val (.int (18 : Int32)), .val (.int (1 : Int32))] [(.int (18 : Int32)), (.ref b1)])) _
      refine X125.aaload hx (j := (18 : Int32)) (v := (.ref w18)) (by rw [e125]; exact Ar217.1) (State.isArrayOf_alike hZ.alike Ar217.2.1) rfl Ar217.2.2 hin217 hat217 (g := (mkF m 262 #[.val (.int p1), .val (.ref b1), .val (.int (18 : Int32)), .val (.int (1 : Int32))] [(.int (18 : Int32)), (.ref b1)])) rfl rfl (hb hby at_262) _ ?_
      show Steps p.tables e below (T125.setTop (mkF m 263 #[.val (.int p1), .val (.ref b1), .val (.int (18 : Int32)), .val (.int (1 : Int32))] [(.ref w18)])) _
      refine st220.trans ?_
      show Steps p.tables e below (T220.setTop (mkF m 266 #[.val (.int p1), .val (.ref b1), .val (.int (18 : Int32)), .val (.int (1 : Int32))] [(.int (1 : Int32))])) _
      refine XS.iloadN X220.here hx rfl (hb hby at_266) rfl ?_
      show Steps p.tables e below (T220.setTop (mkF m 267 #[.val (.int p1), .val (.ref b1), .val (.int (18 : Int32)), .val (.int (1 : Int32))] [(.int (1 : Int32)), (.int (1 : Int32))])) _
      refine XS.icmpNo X220.here hx rfl (hb hby at_267) rfl (teq (by decide : (1 : Int32) = (1 : Int32))).2 ?_
      show Steps p.tables e below (T220.setTop (mkF m 270 #[.val (.int p1), .val (.ref b1), .val (.int (18 : Int32)), .val (.int (1 : Int32))] [])) _
      refine XS.iconst X220.here hx rfl (hb hby at_270) ?_
      show Steps p.tables e below (T220.setTop (mkF m 271 #[.val (.int p1), .val (.ref b1), .val (.int (18 : Int32)), .val (.int (1 : Int32))] [(.int (1 : Int32))])) _
      refine XS.goto X220.here hx rfl (pc0 := 271) (pc' := 275) rfl (hb hby at_271) (by decide) (by decide) ?_
      exact k
    obtain ⟨fs, hrt, hrun, hended, hW, hsame⟩ := X220.leave (v := some (.int (1 : Int32))) (fun h => by rw [Bd.returns] at h; cases h)
    refine ⟨_, _, g221 _ ?_, hrun, hended, _, _, rfl, ?_, ⟨_, rfl⟩, hW, hsame.mono (by decide) (by decide)⟩
    · show Steps p.tables e below (T220.setTop (mkF m 275 #[.val (.int p1), .val (.ref b1), .val (.int (18 : Int32)), .val (.int (1 : Int32))] [(.int (1 : Int32))])) _
      exact retN X220 hx (t := .boolean) Bd.returns (by simp) (hb hby at_275) hrt
    · show own_Q_rm0 Z p1 w0 w1 w2 w3 w4 w5 w6 w7 w8 w9 w10 w11 w12 w13 w14 w15 w16 w17 w18 w19 w20 w21 w22 w23 w24 w25 w26 w27 w28 w29 w30 h0 n0 _ T220.heap _
      rw [e220]
      exact ⟨rfl, N220⟩
  · skip
    obtain ⟨c222, Ar222, cq222, S222, Nn222, Hh222, Gg222⟩ := id V125a
    have hin222 : ¬ ((19 : Int32) < 0 ∨ c222.slots.size ≤ ((19 : Int32)).toNatClampNeg) := inb_of S222 ⟨by decide, by decide⟩
    have hat222 : c222.slots[((19 : Int32)).toNatClampNeg]? = some (.ref w19) := Has.at Hh222 hin222 rfl
    obtain ⟨LL223, XL223, NL223⟩ : ∃ LL : List Loc, Stand p l e room_1 s m #[(.int p1)] below meth c T125 LL 1 31 ∧ Fr n0 LL := ⟨_, X125, N125⟩
    have o224 : Old Z n0 h125 := (Old.wr o122 W125 gz_b1)
    obtain ⟨cq225, kq225, q225a, q225b, q225c⟩ := isOf hZ e125 (Ex_NOT.ext o224.2)
    obtain ⟨_, _, ⟨T225, L225, k225, n225⟩, -, X225, ⟨Lc225, hQ225, l225, y225, z225⟩, st225⟩ := XL223.virtualBack hx (y := (⟨"com/example/chalkline/chalkline/runtime/Opcode", "fallsThrough", "()Z"⟩ : MethodName)) (z := (⟨"com/example/chalkline/chalkline/runtime/Opcode", "fallsThrough", "()Z"⟩ : MethodName)) hown (mvT hZ (hw _ (List.mem_of_getElem? (i := 67) rfl))) (mvT hZ (hw _ (List.mem_of_getElem? (i := 68) rfl))) (notFace_of_selects (args := #[]) (mvT hZ (hw _ (List.mem_of_getElem? (i := 70) rfl)))) (mvT hZ (hw _ (List.mem_of_getElem? (i := 70) rfl))) (mvT hZ (hw _ (List.mem_of_getElem? (i := 69) rfl))) (by decide) (backOf (W := 0) (rmM l Z a0 hw [] w19 (1 : Int32) w0 w1 w2 w3 w4 w5 w6 w7 w8 w9 w10 w11 w12 w13 w14 w15 w16 w17 w18 w19 w20 w21 w22 w23 w24 w25 w26 w27 w28 w29 w30 h125 n0 o224 G0 (by rw [if_neg (Fld.ne Fo19 Fo23 (own_ni (by decide))), if_neg (Fld.ne Fo19 Fo28 (own_ni (by decide))), if_neg (Fld.ne Fo19 Fo30 (own_ni (by decide)))])) hZ (hw _ (List.mem_of_getElem? (i := 71) rfl)) (hw _ (List.mem_of_getElem? (i := 3) rfl)) (by decide) (by decide)) q225a q225c (g := (mkF m 263 #[.val (.int p1), .val (.ref b1), .val (.int (19 : Int32)), .val (.int (1 : Int32))] [(.ref w19)])) rfl (by rw [hml]; rfl) (Steps.refl _) (argsL := []) (rest := []) (lenOf own_pd0 rfl) rfl (by show 2 * 0 + _ ≤ _; exact Nat.le_of_eq rfl) (hb hby at_263) (fun _ _ => ⟨rfl, e125, (by decide : 1 + 0 ≤ _), (by decide : 31 + 0 ≤ _)⟩)
    dsimp only [Pt.U, Pt.locs, Pt.cells, Pt.slots] at X225 l225 y225 z225 st225 hQ225
    subst l225 y225 z225
    obtain ⟨rfl, Nq225, e225⟩ := hQ225
    have N225 := Fr.app NL223 Nq225
    have g226 : ∀ t, Steps p.tables e below (T225.setTop (mkF m 275 #[.val (.int p1), .val (.ref b1), .val (.int (19 : Int32)), .val (.int (1 : Int32))] [(.int (1 : Int32))])) t → Steps p.tables e below (s₁.setTop (entryFrame m #[(.int p1)] maxLocals)) t := by
      intro t k
      refine g126 t ?_
      show Steps p.tables e below (T125.setTop (mkF m 224 #[.val (.int p1), .val (.ref b1), .unset, .unset] [(.int (19 : Int32))])) _
      refine XS.istoreN X125.here hx rfl (hb hby at_224) rfl (l' := #[.val (.int p1), .val (.ref b1), .val (.int (19 : Int32)), .unset]) rfl ?_
      show Steps p.tables e below (T125.setTop (mkF m 225 #[.val (.int p1), .val (.ref b1), .val (.int (19 : Int32)), .unset] [])) _
      refine XS.iloadN X125.here hx rfl (hb hby at_225) rfl ?_
      show Steps p.tables e below (T125.setTop (mkF m 226 #[.val (.int p1), .val (.ref b1), .val (.int (19 : Int32)), .unset] [(.int (19 : Int32))])) _
      refine XS.bipush X125.here hx rfl (hb hby at_226) ?_
      show Steps p.tables e below (T125.setTop (mkF m 228 #[.val (.int p1), .val (.ref b1), .val (.int (19 : Int32)), .unset] [(.int (23 : Int32)), (.int (19 : Int32))])) _
      refine XS.icmpYes X125.here hx rfl (pc0 := 228) (pc' := 236) rfl (hb hby at_228) rfl (feq (by decide : ¬ ((19 : Int32) = (23 : Int32)))).2 (by decide) (by decide) ?_
      show Steps p.tables e below (T125.setTop (mkF m 236 #[.val (.int p1), .val (.ref b1), .val (.int (19 : Int32)), .unset] [])) _
      refine XS.iloadN X125.here hx rfl (hb hby at_236) rfl ?_
      show Steps p.tables e below (T125.setTop (mkF m 237 #[.val (.int p1), .val (.ref b1), .val (.int (19 : Int32)), .unset] [(.int (19 : Int32))])) _
      refine XS.bipush X125.here hx rfl (hb hby at_237) ?_
      show Steps p.tables e below (T125.setTop (mkF m 239 #[.val (.int p1), .val (.ref b1), .val (.int (19 : Int32)), .unset] [(.int (28 : Int32)), (.int (19 : Int32))])) _
      refine XS.icmpYes X125.here hx rfl (pc0 := 239) (pc' := 247) rfl (hb hby at_239) rfl (feq (by decide : ¬ ((19 : Int32) = (28 : Int32)))).2 (by decide) (by decide) ?_
      show Steps p.tables e below (T125.setTop (mkF m 247 #[.val (.int p1), .val (.ref b1), .val (.int (19 : Int32)), .unset] [])) _
      refine XS.iloadN X125.here hx rfl (hb hby at_247) rfl ?_
      show Steps p.tables e below (T125.setTop (mkF m 248 #[.val (.int p1), .val (.ref b1), .val (.int (19 : Int32)), .unset] [(.int (19 : Int32))])) _
      refine XS.bipush X125.here hx rfl (hb hby at_248) ?_
      show Steps p.tables e below (T125.setTop (mkF m 250 #[.val (.int p1), .val (.ref b1), .val (.int (19 : Int32)), .unset] [(.int (30 : Int32)), (.int (19 : Int32))])) _
      refine XS.icmpYes X125.here hx rfl (pc0 := 250) (pc' := 258) rfl (hb hby at_250) rfl (feq (by decide : ¬ ((19 : Int32) = (30 : Int32)))).2 (by decide) (by decide) ?_
      show Steps p.tables e below (T125.setTop (mkF m 258 #[.val (.int p1), .val (.ref b1), .val (.int (19 : Int32)), .unset] [])) _
      refine XS.iconst X125.here hx rfl (hb hby at_258) ?_
      show Steps p.tables e below (T125.setTop (mkF m 259 #[.val (.int p1), .val (.ref b1), .val (.int (19 : Int32)), .unset] [(.int (1 : Int32))])) _
      refine XS.istoreN X125.here hx rfl (hb hby at_259) rfl (l' := #[.val (.int p1), .val (.ref b1), .val (.int (19 : Int32)), .val (.int (1 : Int32))]) rfl ?_
      show Steps p.tables e below (T125.setTop (mkF m 260 #[.val (.int p1), .val (.ref b1), .val (.int (19 : Int32)), .val (.int (1 : Int32))] [])) _
      refine XS.aloadN X125.here hx rfl (hb hby at_260) rfl rfl ?_
      show Steps p.tables e below (T125.setTop (mkF m 261 #[.val (.int p1), .val (.ref b1), .val (.int (19 : Int32)), .val (.int (1 : Int32))] [(.ref b1)])) _
      refine XS.iloadN X125.here hx rfl (hb hby at_261) rfl ?_
      show Steps p.tables e below (T125.setTop (mkF m 262 #[.val (.int p1), .val (.ref b1), .val (.int (19 : Int32)), .val (.int (1 : Int32))] [(.int (19 : Int32)), (.ref b1)])) _
      refine X125.aaload hx (j := (19 : Int32)) (v := (.ref w19)) (by rw [e125]; exact Ar222.1) (State.isArrayOf_alike hZ.alike Ar222.2.1) rfl Ar222.2.2 hin222 hat222 (g := (mkF m 262 #[.val (.int p1), .val (.ref b1), .val (.int (19 : Int32)), .val (.int (1 : Int32))] [(.int (19 : Int32)), (.ref b1)])) rfl rfl (hb hby at_262) _ ?_
      show Steps p.tables e below (T125.setTop (mkF m 263 #[.val (.int p1), .val (.ref b1), .val (.int (19 : Int32)), .val (.int (1 : Int32))] [(.ref w19)])) _
      refine st225.trans ?_
      show Steps p.tables e below (T225.setTop (mkF m 266 #[.val (.int p1), .val (.ref b1), .val (.int (19 : Int32)), .val (.int (1 : Int32))] [(.int (1 : Int32))])) _
      refine XS.iloadN X225.here hx rfl (hb hby at_266) rfl ?_
      show Steps p.tables e below (T225.setTop (mkF m 267 #[.val (.int p1), .val (.ref b1), .val (.int (19 : Int32)), .val (.int (1 : Int32))] [(.int (1 : Int32)), (.int (1 : Int32))])) _
      refine XS.icmpNo X225.here hx rfl (hb hby at_267) rfl (teq (by decide : (1 : Int32) = (1 : Int32))).2 ?_
      show Steps p.tables e below (T225.setTop (mkF m 270 #[.val (.int p1), .val (.ref b1), .val (.int (19 : Int32)), .val (.int (1 : Int32))] [])) _
      refine XS.iconst X225.here hx rfl (hb hby at_270) ?_
      show Steps p.tables e below (T225.setTop (mkF m 271 #[.val (.int p1), .val (.ref b1), .val (.int (19 : Int32)), .val (.int (1 : Int32))] [(.int (1 : Int32))])) _
      refine XS.goto X225.here hx rfl (pc0 := 271) (pc' := 275) rfl (hb hby at_271) (by decide) (by decide) ?_
      exact k
    obtain ⟨fs, hrt, hrun, hended, hW, hsame⟩ := X225.leave (v := some (.int (1 : Int32))) (fun h => by rw [Bd.returns] at h; cases h)
    refine ⟨_, _, g226 _ ?_, hrun, hended, _, _, rfl, ?_, ⟨_, rfl⟩, hW, hsame.mono (by decide) (by decide)⟩
    · show Steps p.tables e below (T225.setTop (mkF m 275 #[.val (.int p1), .val (.ref b1), .val (.int (19 : Int32)), .val (.int (1 : Int32))] [(.int (1 : Int32))])) _
      exact retN X225 hx (t := .boolean) Bd.returns (by simp) (hb hby at_275) hrt
    · show own_Q_rm0 Z p1 w0 w1 w2 w3 w4 w5 w6 w7 w8 w9 w10 w11 w12 w13 w14 w15 w16 w17 w18 w19 w20 w21 w22 w23 w24 w25 w26 w27 w28 w29 w30 h0 n0 _ T225.heap _
      rw [e225]
      exact ⟨rfl, N225⟩
  · skip
    obtain ⟨c227, Ar227, cq227, S227, Nn227, Hh227, Gg227⟩ := id V125a
    have hin227 : ¬ ((20 : Int32) < 0 ∨ c227.slots.size ≤ ((20 : Int32)).toNatClampNeg) := inb_of S227 ⟨by decide, by decide⟩
    have hat227 : c227.slots[((20 : Int32)).toNatClampNeg]? = some (.ref w20) := Has.at Hh227 hin227 rfl
    obtain ⟨LL228, XL228, NL228⟩ : ∃ LL : List Loc, Stand p l e room_1 s m #[(.int p1)] below meth c T125 LL 1 31 ∧ Fr n0 LL := ⟨_, X125, N125⟩
    have o229 : Old Z n0 h125 := (Old.wr o122 W125 gz_b1)
    obtain ⟨cq230, kq230, q230a, q230b, q230c⟩ := isOf hZ e125 (Ex_ARRAY.ext o229.2)
    obtain ⟨_, _, ⟨T230, L230, k230, n230⟩, -, X230, ⟨Lc230, hQ230, l230, y230, z230⟩, st230⟩ := XL228.virtualBack hx (y := (⟨"com/example/chalkline/chalkline/runtime/Opcode", "fallsThrough", "()Z"⟩ : MethodName)) (z := (⟨"com/example/chalkline/chalkline/runtime/Opcode", "fallsThrough", "()Z"⟩ : MethodName)) hown (mvT hZ (hw _ (List.mem_of_getElem? (i := 67) rfl))) (mvT hZ (hw _ (List.mem_of_getElem? (i := 68) rfl))) (notFace_of_selects (args := #[]) (mvT hZ (hw _ (List.mem_of_getElem? (i := 70) rfl)))) (mvT hZ (hw _ (List.mem_of_getElem? (i := 70) rfl))) (mvT hZ (hw _ (List.mem_of_getElem? (i := 69) rfl))) (by decide) (backOf (W := 0) (rmM l Z a0 hw [] w20 (1 : Int32) w0 w1 w2 w3 w4 w5 w6 w7 w8 w9 w10 w11 w12 w13 w14 w15 w16 w17 w18 w19 w20 w21 w22 w23 w24 w25 w26 w27 w28 w29 w30 h125 n0 o229 G0 (by rw [if_neg (Fld.ne Fo20 Fo23 (own_ni (by decide))), if_neg (Fld.ne Fo20 Fo28 (own_ni (by decide))), if_neg (Fld.ne Fo20 Fo30 (own_ni (by decide)))])) hZ (hw _ (List.mem_of_getElem? (i := 71) rfl)) (hw _ (List.mem_of_getElem? (i := 3) rfl)) (by decide) (by decide)) q230a q230c (g := (mkF m 263 #[.val (.int p1), .val (.ref b1), .val (.int (20 : Int32)), .val (.int (1 : Int32))] [(.ref w20)])) rfl (by rw [hml]; rfl) (Steps.refl _) (argsL := []) (rest := []) (lenOf own_pd0 rfl) rfl (by show 2 * 0 + _ ≤ _; exact Nat.le_of_eq rfl) (hb hby at_263) (fun _ _ => ⟨rfl, e125, (by decide : 1 + 0 ≤ _), (by decide : 31 + 0 ≤ _)⟩)
    dsimp only [Pt.U, Pt.locs, Pt.cells, Pt.slots] at X230 l230 y230 z230 st230 hQ230
    subst l230 y230 z230
    obtain ⟨rfl, Nq230, e230⟩ := hQ230
    have N230 := Fr.app NL228 Nq230
    have g231 : ∀ t, Steps p.tables e below (T230.setTop (mkF m 275 #[.val (.int p1), .val (.ref b1), .val (.int (20 : Int32)), .val (.int (1 : Int32))] [(.int (1 : Int32))])) t → Steps p.tables e below (s₁.setTop (entryFrame m #[(.int p1)] maxLocals)) t := by
      intro t k
      refine g126 t ?_
      show Steps p.tables e below (T125.setTop (mkF m 224 #[.val (.int p1), .val (.ref b1), .unset, .unset] [(.int (20 : Int32))])) _
      refine XS.istoreN X125.here hx rfl (hb hby at_224) rfl (l' := #[.val (.int p1), .val (.ref b1), .val (.int (20 : Int32)), .unset]) rfl ?_
      show Steps p.tables e below (T125.setTop (mkF m 225 #[.val (.int p1), .val (.ref b1), .val (.int (20 : Int32)), .unset] [])) _
      refine XS.iloadN X125.here hx rfl (hb hby at_225) rfl ?_
      show Steps p.tables e below (T125.setTop (mkF m 226 #[.val (.int p1), .val (.ref b1), .val (.int (20 : Int32)), .unset] [(.int (20 : Int32))])) _
      refine XS.bipush X125.here hx rfl (hb hby at_226) ?_
      show Steps p.tables e below (T125.setTop (mkF m 228 #[.val (.int p1), .val (.ref b1), .val (.int (20 : Int32)), .unset] [(.int (23 : Int32)), (.int (20 : Int32))])) _
      refine XS.icmpYes X125.here hx rfl (pc0 := 228) (pc' := 236) rfl (hb hby at_228) rfl (feq (by decide : ¬ ((20 : Int32) = (23 : Int32)))).2 (by decide) (by decide) ?_
      show Steps p.tables e below (T125.setTop (mkF m 236 #[.val (.int p1), .val (.ref b1), .val (.int (20 : Int32)), .unset] [])) _
      refine XS.iloadN X125.here hx rfl (hb hby at_236) rfl ?_
      show Steps p.tables e below (T125.setTop (mkF m 237 #[.val (.int p1), .val (.ref b1), .val (.int (20 : Int32)), .unset] [(.int (20 : Int32))])) _
      refine XS.bipush X125.here hx rfl (hb hby at_237) ?_
      show Steps p.tables e below (T125.setTop (mkF m 239 #[.val (.int p1), .val (.ref b1), .val (.int (20 : Int32)), .unset] [(.int (28 : Int32)), (.int (20 : Int32))])) _
      refine XS.icmpYes X125.here hx rfl (pc0 := 239) (pc' := 247) rfl (hb hby at_239) rfl (feq (by decide : ¬ ((20 : Int32) = (28 : Int32)))).2 (by decide) (by decide) ?_
      show Steps p.tables e below (T125.setTop (mkF m 247 #[.val (.int p1), .val (.ref b1), .val (.int (20 : Int32)), .unset] [])) _
      refine XS.iloadN X125.here hx rfl (hb hby at_247) rfl ?_
      show Steps p.tables e below (T125.setTop (mkF m 248 #[.val (.int p1), .val (.ref b1), .val (.int (20 : Int32)), .unset] [(.int (20 : Int32))])) _
      refine XS.bipush X125.here hx rfl (hb hby at_248) ?_
      show Steps p.tables e below (T125.setTop (mkF m 250 #[.val (.int p1), .val (.ref b1), .val (.int (20 : Int32)), .unset] [(.int (30 : Int32)), (.int (20 : Int32))])) _
      refine XS.icmpYes X125.here hx rfl (pc0 := 250) (pc' := 258) rfl (hb hby at_250) rfl (feq (by decide : ¬ ((20 : Int32) = (30 : Int32)))).2 (by decide) (by decide) ?_
      show Steps p.tables e below (T125.setTop (mkF m 258 #[.val (.int p1), .val (.ref b1), .val (.int (20 : Int32)), .unset] [])) _
      refine XS.iconst X125.here hx rfl (hb hby at_258) ?_
      show Steps p.tables e below (T125.setTop (mkF m 259 #[.val (.int p1), .val (.ref b1), .val (.int (20 : Int32)), .unset] [(.int (1 : Int32))])) _
      refine XS.istoreN X125.here hx rfl (hb hby at_259) rfl (l' := #[.val (.int p1), .val (.ref b1), .val (.int (20 : Int32)), .val (.int (1 : Int32))]) rfl ?_
      show Steps p.tables e below (T125.setTop (mkF m 260 #[.val (.int p1), .val (.ref b1), .val (.int (20 : Int32)), .val (.int (1 : Int32))] [])) _
      refine XS.aloadN X125.here hx rfl (hb hby at_260) rfl rfl ?_
      show Steps p.tables e below (T125.setTop (mkF m 261 #[.val (.int p1), .val (.ref b1), .val (.int (20 : Int32)), .val (.int (1 : Int32))] [(.ref b1)])) _
      refine XS.iloadN X125.here hx rfl (hb hby at_261) rfl ?_
      show Steps p.tables e below (T125.setTop (mkF m 262 #[.val (.int p1), .val (.ref b1), .val (.int (20 : Int32)), .val (.int (1 : Int32))] [(.int (20 : Int32)), (.ref b1)])) _
      refine X125.aaload hx (j := (20 : Int32)) (v := (.ref w20)) (by rw [e125]; exact Ar227.1) (State.isArrayOf_alike hZ.alike Ar227.2.1) rfl Ar227.2.2 hin227 hat227 (g := (mkF m 262 #[.val (.int p1), .val (.ref b1), .val (.int (20 : Int32)), .val (.int (1 : Int32))] [(.int (20 : Int32)), (.ref b1)])) rfl rfl (hb hby at_262) _ ?_
      show Steps p.tables e below (T125.setTop (mkF m 263 #[.val (.int p1), .val (.ref b1), .val (.int (20 : Int32)), .val (.int (1 : Int32))] [(.ref w20)])) _
      refine st230.trans ?_
      show Steps p.tables e below (T230.setTop (mkF m 266 #[.val (.int p1), .val (.ref b1), .val (.int (20 : Int32)), .val (.int (1 : Int32))] [(.int (1 : Int32))])) _
      refine XS.iloadN X230.here hx rfl (hb hby at_266) rfl ?_
      show Steps p.tables e below (T230.setTop (mkF m 267 #[.val (.int p1), .val (.ref b1), .val (.int (20 : Int32)), .val (.int (1 : Int32))] [(.int (1 : Int32)), (.int (1 : Int32))])) _
      refine XS.icmpNo X230.here hx rfl (hb hby at_267) rfl (teq (by decide : (1 : Int32) = (1 : Int32))).2 ?_
      show Steps p.tables e below (T230.setTop (mkF m 270 #[.val (.int p1), .val (.ref b1), .val (.int (20 : Int32)), .val (.int (1 : Int32))] [])) _
      refine XS.iconst X230.here hx rfl (hb hby at_270) ?_
      show Steps p.tables e below (T230.setTop (mkF m 271 #[.val (.int p1), .val (.ref b1), .val (.int (20 : Int32)), .val (.int (1 : Int32))] [(.int (1 : Int32))])) _
      refine XS.goto X230.here hx rfl (pc0 := 271) (pc' := 275) rfl (hb hby at_271) (by decide) (by decide) ?_
      exact k
    obtain ⟨fs, hrt, hrun, hended, hW, hsame⟩ := X230.leave (v := some (.int (1 : Int32))) (fun h => by rw [Bd.returns] at h; cases h)
    refine ⟨_, _, g231 _ ?_, hrun, hended, _, _, rfl, ?_, ⟨_, rfl⟩, hW, hsame.mono (by decide) (by decide)⟩
    · show Steps p.tables e below (T230.setTop (mkF m 275 #[.val (.int p1), .val (.ref b1), .val (.int (20 : Int32)), .val (.int (1 : Int32))] [(.int (1 : Int32))])) _
      exact retN X230 hx (t := .boolean) Bd.returns (by simp) (hb hby at_275) hrt
    · show own_Q_rm0 Z p1 w0 w1 w2 w3 w4 w5 w6 w7 w8 w9 w10 w11 w12 w13 w14 w15 w16 w17 w18 w19 w20 w21 w22 w23 w24 w25 w26 w27 w28 w29 w30 h0 n0 _ T230.heap _
      rw [e230]
      exact ⟨rfl, N230⟩
  · skip
    obtain ⟨c232, Ar232, cq232, S232, Nn232, Hh232, Gg232⟩ := id V125a
    have hin232 : ¬ ((21 : Int32) < 0 ∨ c232.slots.size ≤ ((21 : Int32)).toNatClampNeg) := inb_of S232 ⟨by decide, by decide⟩
    have hat232 : c232.slots[((21 : Int32)).toNatClampNeg]? = some (.ref w21) := Has.at Hh232 hin232 rfl
    obtain ⟨LL233, XL233, NL233⟩ : ∃ LL : List Loc, Stand p l e room_1 s m #[(.int p1)] below meth c T125 LL 1 31 ∧ Fr n0 LL := ⟨_, X125, N125⟩
    have o234 : Old Z n0 h125 := (Old.wr o122 W125 gz_b1)
    obtain ⟨cq235, kq235, q235a, q235b, q235c⟩ := isOf hZ e125 (Ex_GET_ELEMENT.ext o234.2)
    obtain ⟨_, _, ⟨T235, L235, k235, n235⟩, -, X235, ⟨Lc235, hQ235, l235, y235, z235⟩, st235⟩ := XL233.virtualBack hx (y := (⟨"com/example/chalkline/chalkline/runtime/Opcode", "fallsThrough", "()Z"⟩ : MethodName)) (z := (⟨"com/example/chalkline/chalkline/runtime/Opcode", "fallsThrough", "()Z"⟩ : MethodName)) hown (mvT hZ (hw _ (List.mem_of_getElem? (i := 67) rfl))) (mvT hZ (hw _ (List.mem_of_getElem? (i := 68) rfl))) (notFace_of_selects (args := #[]) (mvT hZ (hw _ (List.mem_of_getElem? (i := 70) rfl)))) (mvT hZ (hw _ (List.mem_of_getElem? (i := 70) rfl))) (mvT hZ (hw _ (List.mem_of_getElem? (i := 69) rfl))) (by decide) (backOf (W := 0) (rmM l Z a0 hw [] w21 (1 : Int32) w0 w1 w2 w3 w4 w5 w6 w7 w8 w9 w10 w11 w12 w13 w14 w15 w16 w17 w18 w19 w20 w21 w22 w23 w24 w25 w26 w27 w28 w29 w30 h125 n0 o234 G0 (by rw [if_neg (Fld.ne Fo21 Fo23 (own_ni (by decide))), if_neg (Fld.ne Fo21 Fo28 (own_ni (by decide))), if_neg (Fld.ne Fo21 Fo30 (own_ni (by decide)))])) hZ (hw _ (List.mem_of_getElem? (i := 71) rfl)) (hw _ (List.mem_of_getElem? (i := 3) rfl)) (by decide) (by decide)) q235a q235c (g := (mkF m 263 #[.val (.int p1), .val (.ref b1), .val (.int (21 : Int32)), .val (.int (1 : Int32))] [(.ref w21)])) rfl (by rw [hml]; rfl) (Steps.refl _) (argsL := []) (rest := []) (lenOf own_pd0 rfl) rfl (by show 2 * 0 + _ ≤ _; exact Nat.le_of_eq rfl) (hb hby at_263) (fun _ _ => ⟨rfl, e125, (by decide : 1 + 0 ≤ _), (by decide : 31 + 0 ≤ _)⟩)
    dsimp only [Pt.U, Pt.locs, Pt.cells, Pt.slots] at X235 l235 y235 z235 st235 hQ235
    subst l235 y235 z235
    obtain ⟨rfl, Nq235, e235⟩ := hQ235
    have N235 := Fr.app NL233 Nq235
    have g236 : ∀ t, Steps p.tables e below (T235.setTop (mkF m 275 #[.val (.int p1), .val (.ref b1), .val (.int (21 : Int32)), .val (.int (1 : Int32))] [(.int (1 : Int32))])) t → Steps p.tables e below (s₁.setTop (entryFrame m #[(.int p1)] maxLocals)) t := by
      intro t k
      refine g126 t ?_
      show Steps p.tables e below (T125.setTop (mkF m 224 #[.val (.int p1), .val (.ref b1), .unset, .unset] [(.int (21 : Int32))])) _
      refine XS.istoreN X125.here hx rfl (hb hby at_224) rfl (l' := #[.val (.int p1), .val (.ref b1), .val (.int (21 : Int32)), .unset]) rfl ?_
      show Steps p.tables e below (T125.setTop (mkF m 225 #[.val (.int p1), .val (.ref b1), .val (.int (21 : Int32)), .unset] [])) _
      refine XS.iloadN X125.here hx rfl (hb hby at_225) rfl ?_
      show Steps p.tables e below (T125.setTop (mkF m 226 #[.val (.int p1), .val (.ref b1), .val (.int (21 : Int32)), .unset] [(.int (21 : Int32))])) _
      refine XS.bipush X125.here hx rfl (hb hby at_226) ?_
      show Steps p.tables e below (T125.setTop (mkF m 228 #[.val (.int p1), .val (.ref b1), .val (.int (21 : Int32)), .unset] [(.int (23 : Int32)), (.int (21 : Int32))])) _
      refine XS.icmpYes X125.here hx rfl (pc0 := 228) (pc' := 236) rfl (hb hby at_228) rfl (feq (by decide : ¬ ((21 : Int32) = (23 : Int32)))).2 (by decide) (by decide) ?_
      show Steps p.tables e below (T125.setTop (mkF m 236 #[.val (.int p1), .val (.ref b1), .val (.int (21 : Int32)), .unset] [])) _
      refine XS.iloadN X125.here hx rfl (hb hby at_236) rfl ?_
      show Steps p.tables e below (T125.setTop (mkF m 237 #[.val (.int p1), .val (.ref b1), .val (.int (21 : Int32)), .unset] [(.int (21 : Int32))])) _
      refine XS.bipush X125.here hx rfl (hb hby at_237) ?_
      show Steps p.tables e below (T125.setTop (mkF m 239 #[.val (.int p1), .val (.ref b1), .val (.int (21 : Int32)), .unset] [(.int (28 : Int32)), (.int (21 : Int32))])) _
      refine XS.icmpYes X125.here hx rfl (pc0 := 239) (pc' := 247) rfl (hb hby at_239) rfl (feq (by decide : ¬ ((21 : Int32) = (28 : Int32)))).2 (by decide) (by decide) ?_
      show Steps p.tables e below (T125.setTop (mkF m 247 #[.val (.int p1), .val (.ref b1), .val (.int (21 : Int32)), .unset] [])) _
      refine XS.iloadN X125.here hx rfl (hb hby at_247) rfl ?_
      show Steps p.tables e below (T125.setTop (mkF m 248 #[.val (.int p1), .val (.ref b1), .val (.int (21 : Int32)), .unset] [(.int (21 : Int32))])) _
      refine XS.bipush X125.here hx rfl (hb hby at_248) ?_
      show Steps p.tables e below (T125.setTop (mkF m 250 #[.val (.int p1), .val (.ref b1), .val (.int (21 : Int32)), .unset] [(.int (30 : Int32)), (.int (21 : Int32))])) _
      refine XS.icmpYes X125.here hx rfl (pc0 := 250) (pc' := 258) rfl (hb hby at_250) rfl (feq (by decide : ¬ ((21 : Int32) = (30 : Int32)))).2 (by decide) (by decide) ?_
      show Steps p.tables e below (T125.setTop (mkF m 258 #[.val (.int p1), .val (.ref b1), .val (.int (21 : Int32)), .unset] [])) _
      refine XS.iconst X125.here hx rfl (hb hby at_258) ?_
      show Steps p.tables e below (T125.setTop (mkF m 259 #[.val (.int p1), .val (.ref b1), .val (.int (21 : Int32)), .unset] [(.int (1 : Int32))])) _
      refine XS.istoreN X125.here hx rfl (hb hby at_259) rfl (l' := #[.val (.int p1), .val (.ref b1), .val (.int (21 : Int32)), .val (.int (1 : Int32))]) rfl ?_
      show Steps p.tables e below (T125.setTop (mkF m 260 #[.val (.int p1), .val (.ref b1), .val (.int (21 : Int32)), .val (.int (1 : Int32))] [])) _
      refine XS.aloadN X125.here hx rfl (hb hby at_260) rfl rfl ?_
      show Steps p.tables e below (T125.setTop (mkF m 261 #[.val (.int p1), .val (.ref b1), .val (.int (21 : Int32)), .val (.int (1 : Int32))] [(.ref b1)])) _
      refine XS.iloadN X125.here hx rfl (hb hby at_261) rfl ?_
      show Steps p.tables e below (T125.setTop (mkF m 262 #[.val (.int p1), .val (.ref b1), .val (.int (21 : Int32)), .val (.int (1 : Int32))] [(.int (21 : Int32)), (.ref b1)])) _
      refine X125.aaload hx (j := (21 : Int32)) (v := (.ref w21)) (by rw [e125]; exact Ar232.1) (State.isArrayOf_alike hZ.alike Ar232.2.1) rfl Ar232.2.2 hin232 hat232 (g := (mkF m 262 #[.val (.int p1), .val (.ref b1), .val (.int (21 : Int32)), .val (.int (1 : Int32))] [(.int (21 : Int32)), (.ref b1)])) rfl rfl (hb hby at_262) _ ?_
      show Steps p.tables e below (T125.setTop (mkF m 263 #[.val (.int p1), .val (.ref b1), .val (.int (21 : Int32)), .val (.int (1 : Int32))] [(.ref w21)])) _
      refine st235.trans ?_
      show Steps p.tables e below (T235.setTop (mkF m 266 #[.val (.int p1), .val (.ref b1), .val (.int (21 : Int32)), .val (.int (1 : Int32))] [(.int (1 : Int32))])) _
      refine XS.iloadN X235.here hx rfl (hb hby at_266) rfl ?_
      show Steps p.tables e below (T235.setTop (mkF m 267 #[.val (.int p1), .val (.ref b1), .val (.int (21 : Int32)), .val (.int (1 : Int32))] [(.int (1 : Int32)), (.int (1 : Int32))])) _
      refine XS.icmpNo X235.here hx rfl (hb hby at_267) rfl (teq (by decide : (1 : Int32) = (1 : Int32))).2 ?_
      show Steps p.tables e below (T235.setTop (mkF m 270 #[.val (.int p1), .val (.ref b1), .val (.int (21 : Int32)), .val (.int (1 : Int32))] [])) _
      refine XS.iconst X235.here hx rfl (hb hby at_270) ?_
      show Steps p.tables e below (T235.setTop (mkF m 271 #[.val (.int p1), .val (.ref b1), .val (.int (21 : Int32)), .val (.int (1 : Int32))] [(.int (1 : Int32))])) _
      refine XS.goto X235.here hx rfl (pc0 := 271) (pc' := 275) rfl (hb hby at_271) (by decide) (by decide) ?_
      exact k
    obtain ⟨fs, hrt, hrun, hended, hW, hsame⟩ := X235.leave (v := some (.int (1 : Int32))) (fun h => by rw [Bd.returns] at h; cases h)
    refine ⟨_, _, g236 _ ?_, hrun, hended, _, _, rfl, ?_, ⟨_, rfl⟩, hW, hsame.mono (by decide) (by decide)⟩
    · show Steps p.tables e below (T235.setTop (mkF m 275 #[.val (.int p1), .val (.ref b1), .val (.int (21 : Int32)), .val (.int (1 : Int32))] [(.int (1 : Int32))])) _
      exact retN X235 hx (t := .boolean) Bd.returns (by simp) (hb hby at_275) hrt
    · show own_Q_rm0 Z p1 w0 w1 w2 w3 w4 w5 w6 w7 w8 w9 w10 w11 w12 w13 w14 w15 w16 w17 w18 w19 w20 w21 w22 w23 w24 w25 w26 w27 w28 w29 w30 h0 n0 _ T235.heap _
      rw [e235]
      exact ⟨rfl, N235⟩
  · skip
    obtain ⟨c237, Ar237, cq237, S237, Nn237, Hh237, Gg237⟩ := id V125a
    have hin237 : ¬ ((22 : Int32) < 0 ∨ c237.slots.size ≤ ((22 : Int32)).toNatClampNeg) := inb_of S237 ⟨by decide, by decide⟩
    have hat237 : c237.slots[((22 : Int32)).toNatClampNeg]? = some (.ref w22) := Has.at Hh237 hin237 rfl
    obtain ⟨LL238, XL238, NL238⟩ : ∃ LL : List Loc, Stand p l e room_1 s m #[(.int p1)] below meth c T125 LL 1 31 ∧ Fr n0 LL := ⟨_, X125, N125⟩
    have o239 : Old Z n0 h125 := (Old.wr o122 W125 gz_b1)
    obtain ⟨cq240, kq240, q240a, q240b, q240c⟩ := isOf hZ e125 (Ex_SET_ELEMENT.ext o239.2)
    obtain ⟨_, _, ⟨T240, L240, k240, n240⟩, -, X240, ⟨Lc240, hQ240, l240, y240, z240⟩, st240⟩ := XL238.virtualBack hx (y := (⟨"com/example/chalkline/chalkline/runtime/Opcode", "fallsThrough", "()Z"⟩ : MethodName)) (z := (⟨"com/example/chalkline/chalkline/runtime/Opcode", "fallsThrough", "()Z"⟩ : MethodName)) hown (mvT hZ (hw _ (List.mem_of_getElem? (i := 67) rfl))) (mvT hZ (hw _ (List.mem_of_getElem? (i := 68) rfl))) (notFace_of_selects (args := #[]) (mvT hZ (hw _ (List.mem_of_getElem? (i := 70) rfl)))) (mvT hZ (hw _ (List.mem_of_getElem? (i := 70) rfl))) (mvT hZ (hw _ (List.mem_of_getElem? (i := 69) rfl))) (by decide) (backOf (W := 0) (rmM l Z a0 hw [] w22 (1 : Int32) w0 w1 w2 w3 w4 w5 w6 w7 w8 w9 w10 w11 w12 w13 w14 w15 w16 w17 w18 w19 w20 w21 w22 w23 w24 w25 w26 w27 w28 w29 w30 h125 n0 o239 G0 (by rw [if_neg (Fld.ne Fo22 Fo23 (own_ni (by decide))), if_neg (Fld.ne Fo22 Fo28 (own_ni (by decide))), if_neg (Fld.ne Fo22 Fo30 (own_ni (by decide)))])) hZ (hw _ (List.mem_of_getElem? (i := 71) rfl)) (hw _ (List.mem_of_getElem? (i := 3) rfl)) (by decide) (by decide)) q240a q240c (g := (mkF m 263 #[.val (.int p1), .val (.ref b1), .val (.int (22 : Int32)), .val (.int (1 : Int32))] [(.ref w22)])) rfl (by rw [hml]; rfl) (Steps.refl _) (argsL := []) (rest := []) (lenOf own_pd0 rfl) rfl (by show 2 * 0 + _ ≤ _; exact Nat.le_of_eq rfl) (hb hby at_263) (fun _ _ => ⟨rfl, e125, (by decide : 1 + 0 ≤ _), (by decide : 31 + 0 ≤ _)⟩)
    dsimp only [Pt.U, Pt.locs, Pt.cells, Pt.slots] at X240 l240 y240 z240 st240 hQ240
    subst l240 y240 z240
    obtain ⟨rfl, Nq240, e240⟩ := hQ240
    have N240 := Fr.app NL238 Nq240
    have g241 : ∀ t, Steps p.tables e below (T240.setTop (mkF m 275 #[.val (.int p1), .val (.ref b1), .val (.int (22 : Int32)), .val (.int (1 : Int32))] [(.int (1 : Int32))])) t → Steps p.tables e below (s₁.setTop (entryFrame m #[(.int p1)] maxLocals)) t := by
      intro t k
      refine g126 t ?_
      show Steps p.tables e below (T125.setTop (mkF m 224 #[.val (.int p1), .val (.ref b1), .unset, .unset] [(.int (22 : Int32))])) _
      refine XS.istoreN X125.here hx rfl (hb hby at_224) rfl (l' := #[.val (.int p1), .val (.ref b1), .val (.int (22 : Int32)), .unset]) rfl ?_
      show Steps p.tables e below (T125.setTop (mkF m 225 #[.val (.int p1), .val (.ref b1), .val (.int (22 : Int32)), .unset] [])) _
      refine XS.iloadN X125.here hx rfl (hb hby at_225) rfl ?_
      show Steps p.tables e below (T125.setTop (mkF m 226 #[.val (.int p1), .val (.ref b1), .val (.int (22 : Int32)), .unset] [(.int (22 : Int32))])) _
      refine XS.bipush X125.here hx rfl (hb hby at_226) ?_
      show Steps p.tables e below (T125.setTop (mkF m 228 #[.val (.int p1), .val (.ref b1), .val (.int (22 : Int32)), .unset] [(.int (23 : Int32)), (.int (22 : Int32))])) _
      refine XS.icmpYes X125.here hx rfl (pc0 := 228) (pc' := 236) rfl (hb hby at_228) rfl (feq (by decide : ¬ ((22 : Int32) = (23 : Int32)))).2 (by decide) (by decide) ?_
      show Steps p.tables e below (T125.setTop (mkF m 236 #[.val (.int p1), .val (.ref b1), .val (.int (22 : Int32)), .unset] [])) _
      refine XS.iloadN X125.here hx rfl (hb hby at_236) rfl ?_
      show Steps p.tables e below (T125.setTop (mkF m 237 #[.val (.int p1), .val (.ref b1), .val (.int (22 : Int32)), .unset] [(.int (22 : Int32))])) _
      refine XS.bipush X125.here hx rfl (hb hby at_237) ?_
      show Steps p.tables e below (T125.setTop (mkF m 239 #[.val (.int p1), .val (.ref b1), .val (.int (22 : Int32)), .unset] [(.int (28 : Int32)), (.int (22 : Int32))])) _
      refine XS.icmpYes X125.here hx rfl (pc0 := 239) (pc' := 247) rfl (hb hby at_239) rfl (feq (by decide : ¬ ((22 : Int32) = (28 : Int32)))).2 (by decide) (by decide) ?_
      show Steps p.tables e below (T125.setTop (mkF m 247 #[.val (.int p1), .val (.ref b1), .val (.int (22 : Int32)), .unset] [])) _
      refine XS.iloadN X125.here hx rfl (hb hby at_247) rfl ?_
      show Steps p.tables e below (T125.setTop (mkF m 248 #[.val (.int p1), .val (.ref b1), .val (.int (22 : Int32)), .unset] [(.int (22 : Int32))])) _
      refine XS.bipush X125.here hx rfl (hb hby at_248) ?_
      show Steps p.tables e below (T125.setTop (mkF m 250 #[.val (.int p1), .val (.ref b1), .val (.int (22 : Int32)), .unset] [(.int (30 : Int32)), (.int (22 : Int32))])) _
      refine XS.icmpYes X125.here hx rfl (pc0 := 250) (pc' := 258) rfl (hb hby at_250) rfl (feq (by decide : ¬ ((22 : Int32) = (30 : Int32)))).2 (by decide) (by decide) ?_
      show Steps p.tables e below (T125.setTop (mkF m 258 #[.val (.int p1), .val (.ref b1), .val (.int (22 : Int32)), .unset] [])) _
      refine XS.iconst X125.here hx rfl (hb hby at_258) ?_
      show Steps p.tables e below (T125.setTop (mkF m 259 #[.val (.int p1), .val (.ref b1), .val (.int (22 : Int32)), .unset] [(.int (1 : Int32))])) _
      refine XS.istoreN X125.here hx rfl (hb hby at_259) rfl (l' := #[.val (.int p1), .val (.ref b1), .val (.int (22 : Int32)), .val (.int (1 : Int32))]) rfl ?_
      show Steps p.tables e below (T125.setTop (mkF m 260 #[.val (.int p1), .val (.ref b1), .val (.int (22 : Int32)), .val (.int (1 : Int32))] [])) _
      refine XS.aloadN X125.here hx rfl (hb hby at_260) rfl rfl ?_
      show Steps p.tables e below (T125.setTop (mkF m 261 #[.val (.int p1), .val (.ref b1), .val (.int (22 : Int32)), .val (.int (1 : Int32))] [(.ref b1)])) _
      refine XS.iloadN X125.here hx rfl (hb hby at_261) rfl ?_
      show Steps p.tables e below (T125.setTop (mkF m 262 #[.val (.int p1), .val (.ref b1), .val (.int (22 : Int32)), .val (.int (1 : Int32))] [(.int (22 : Int32)), (.ref b1)])) _
      refine X125.aaload hx (j := (22 : Int32)) (v := (.ref w22)) (by rw [e125]; exact Ar237.1) (State.isArrayOf_alike hZ.alike Ar237.2.1) rfl Ar237.2.2 hin237 hat237 (g := (mkF m 262 #[.val (.int p1), .val (.ref b1), .val (.int (22 : Int32)), .val (.int (1 : Int32))] [(.int (22 : Int32)), (.ref b1)])) rfl rfl (hb hby at_262) _ ?_
      show Steps p.tables e below (T125.setTop (mkF m 263 #[.val (.int p1), .val (.ref b1), .val (.int (22 : Int32)), .val (.int (1 : Int32))] [(.ref w22)])) _
      refine st240.trans ?_
      show Steps p.tables e below (T240.setTop (mkF m 266 #[.val (.int p1), .val (.ref b1), .val (.int (22 : Int32)), .val (.int (1 : Int32))] [(.int (1 : Int32))])) _
      refine XS.iloadN X240.here hx rfl (hb hby at_266) rfl ?_
      show Steps p.tables e below (T240.setTop (mkF m 267 #[.val (.int p1), .val (.ref b1), .val (.int (22 : Int32)), .val (.int (1 : Int32))] [(.int (1 : Int32)), (.int (1 : Int32))])) _
      refine XS.icmpNo X240.here hx rfl (hb hby at_267) rfl (teq (by decide : (1 : Int32) = (1 : Int32))).2 ?_
      show Steps p.tables e below (T240.setTop (mkF m 270 #[.val (.int p1), .val (.ref b1), .val (.int (22 : Int32)), .val (.int (1 : Int32))] [])) _
      refine XS.iconst X240.here hx rfl (hb hby at_270) ?_
      show Steps p.tables e below (T240.setTop (mkF m 271 #[.val (.int p1), .val (.ref b1), .val (.int (22 : Int32)), .val (.int (1 : Int32))] [(.int (1 : Int32))])) _
      refine XS.goto X240.here hx rfl (pc0 := 271) (pc' := 275) rfl (hb hby at_271) (by decide) (by decide) ?_
      exact k
    obtain ⟨fs, hrt, hrun, hended, hW, hsame⟩ := X240.leave (v := some (.int (1 : Int32))) (fun h => by rw [Bd.returns] at h; cases h)
    refine ⟨_, _, g241 _ ?_, hrun, hended, _, _, rfl, ?_, ⟨_, rfl⟩, hW, hsame.mono (by decide) (by decide)⟩
    · show Steps p.tables e below (T240.setTop (mkF m 275 #[.val (.int p1), .val (.ref b1), .val (.int (22 : Int32)), .val (.int (1 : Int32))] [(.int (1 : Int32))])) _
      exact retN X240 hx (t := .boolean) Bd.returns (by simp) (hb hby at_275) hrt
    · show own_Q_rm0 Z p1 w0 w1 w2 w3 w4 w5 w6 w7 w8 w9 w10 w11 w12 w13 w14 w15 w16 w17 w18 w19 w20 w21 w22 w23 w24 w25 w26 w27 w28 w29 w30 h0 n0 _ T240.heap _
      rw [e240]
      exact ⟨rfl, N240⟩
  · skip
    obtain ⟨c242, Ar242, cq242, S242, Nn242, Hh242, Gg242⟩ := id V125a
    have hin242 : ¬ ((23 : Int32) < 0 ∨ c242.slots.size ≤ ((23 : Int32)).toNatClampNeg) := inb_of S242 ⟨by decide, by decide⟩
    have hat242 : c242.slots[((23 : Int32)).toNatClampNeg]? = some (.ref w23) := Has.at Hh242 hin242 rfl
    obtain ⟨LL243, XL243, NL243⟩ : ∃ LL : List Loc, Stand p l e room_1 s m #[(.int p1)] below meth c T125 LL 1 31 ∧ Fr n0 LL := ⟨_, X125, N125⟩
    have o244 : Old Z n0 h125 := (Old.wr o122 W125 gz_b1)
    obtain ⟨cq245, kq245, q245a, q245b, q245c⟩ := isOf hZ e125 (Ex_JUMP.ext o244.2)
    obtain ⟨_, _, ⟨T245, L245, k245, n245⟩, -, X245, ⟨Lc245, hQ245, l245, y245, z245⟩, st245⟩ := XL243.virtualBack hx (y := (⟨"com/example/chalkline/chalkline/runtime/Opcode", "fallsThrough", "()Z"⟩ : MethodName)) (z := (⟨"com/example/chalkline/chalkline/runtime/Opcode", "fallsThrough", "()Z"⟩ : MethodName)) hown (mvT hZ (hw _ (List.mem_of_getElem? (i := 67) rfl))) (mvT hZ (hw _ (List.mem_of_getElem? (i := 68) rfl))) (notFace_of_selects (args := #[]) (mvT hZ (hw _ (List.mem_of_getElem? (i := 70) rfl)))) (mvT hZ (hw _ (List.mem_of_getElem? (i := 70) rfl))) (mvT hZ (hw _ (List.mem_of_getElem? (i := 69) rfl))) (by decide) (backOf (W := 0) (rmM l Z a0 hw [] w23 (0 : Int32) w0 w1 w2 w3 w4 w5 w6 w7 w8 w9 w10 w11 w12 w13 w14 w15 w16 w17 w18 w19 w20 w21 w22 w23 w24 w25 w26 w27 w28 w29 w30 h125 n0 o244 G0 (by rw [if_pos rfl])) hZ (hw _ (List.mem_of_getElem? (i := 71) rfl)) (hw _ (List.mem_of_getElem? (i := 3) rfl)) (by decide) (by decide)) q245a q245c (g := (mkF m 263 #[.val (.int p1), .val (.ref b1), .val (.int (23 : Int32)), .val (.int (0 : Int32))] [(.ref w23)])) rfl (by rw [hml]; rfl) (Steps.refl _) (argsL := []) (rest := []) (lenOf own_pd0 rfl) rfl (by show 2 * 0 + _ ≤ _; exact Nat.le_of_eq rfl) (hb hby at_263) (fun _ _ => ⟨rfl, e125, (by decide : 1 + 0 ≤ _), (by decide : 31 + 0 ≤ _)⟩)
    dsimp only [Pt.U, Pt.locs, Pt.cells, Pt.slots] at X245 l245 y245 z245 st245 hQ245
    subst l245 y245 z245
    obtain ⟨rfl, Nq245, e245⟩ := hQ245
    have N245 := Fr.app NL243 Nq245
    have g246 : ∀ t, Steps p.tables e below (T245.setTop (mkF m 275 #[.val (.int p1), .val (.ref b1), .val (.int (23 : Int32)), .val (.int (0 : Int32))] [(.int (1 : Int32))])) t → Steps p.tables e below (s₁.setTop (entryFrame m #[(.int p1)] maxLocals)) t := by
      intro t k
      refine g126 t ?_
      show Steps p.tables e below (T125.setTop (mkF m 224 #[.val (.int p1), .val (.ref b1), .unset, .unset] [(.int (23 : Int32))])) _
      refine XS.istoreN X125.here hx rfl (hb hby at_224) rfl (l' := #[.val (.int p1), .val (.ref b1), .val (.int (23 : Int32)), .unset]) rfl ?_
      show Steps p.tables e below (T125.setTop (mkF m 225 #[.val (.int p1), .val (.ref b1), .val (.int (23 : Int32)), .unset] [])) _
      refine XS.iloadN X125.here hx rfl (hb hby at_225) rfl ?_
      show Steps p.tables e below (T125.setTop (mkF m 226 #[.val (.int p1), .val (.ref b1), .val (.int (23 : Int32)), .unset] [(.int (23 : Int32))])) _
      refine XS.bipush X125.here hx rfl (hb hby at_226) ?_
      show Steps p.tables e below (T125.setTop (mkF m 228 #[.val (.int p1), .val (.ref b1), .val (.int (23 : Int32)), .unset] [(.int (23 : Int32)), (.int (23 : Int32))])) _
      refine XS.icmpNo X125.here hx rfl (hb hby at_228) rfl (teq (by decide : (23 : Int32) = (23 : Int32))).2 ?_
      show Steps p.tables e below (T125.setTop (mkF m 231 #[.val (.int p1), .val (.ref b1), .val (.int (23 : Int32)), .unset] [])) _
      refine XS.iconst X125.here hx rfl (hb hby at_231) ?_
      show Steps p.tables e below (T125.setTop (mkF m 232 #[.val (.int p1), .val (.ref b1), .val (.int (23 : Int32)), .unset] [(.int (0 : Int32))])) _
      refine XS.istoreN X125.here hx rfl (hb hby at_232) rfl (l' := #[.val (.int p1), .val (.ref b1), .val (.int (23 : Int32)), .val (.int (0 : Int32))]) rfl ?_
      show Steps p.tables e below (T125.setTop (mkF m 233 #[.val (.int p1), .val (.ref b1), .val (.int (23 : Int32)), .val (.int (0 : Int32))] [])) _
      refine XS.goto X125.here hx rfl (pc0 := 233) (pc' := 260) rfl (hb hby at_233) (by decide) (by decide) ?_
      show Steps p.tables e below (T125.setTop (mkF m 260 #[.val (.int p1), .val (.ref b1), .val (.int (23 : Int32)), .val (.int (0 : Int32))] [])) _
      refine XS.aloadN X125.here hx rfl (hb hby at_260) rfl rfl ?_
      show Steps p.tables e below (T125.setTop (mkF m 261 #[.val (.int p1), .val (.ref b1), .val (.int (23 : Int32)), .val (.int (0 : Int32))] [(.ref b1)])) _
      refine XS.iloadN X125.here hx rfl (hb hby at_261) rfl ?_
      show Steps p.tables e below (T125.setTop (mkF m 262 #[.val (.int p1), .val (.ref b1), .val (.int (23 : Int32)), .val (.int (0 : Int32))] [(.int (23 : Int32)), (.ref b1)])) _
      refine X125.aaload hx (j := (23 : Int32)) (v := (.ref w23)) (by rw [e125]; exact Ar242.1) (State.isArrayOf_alike hZ.alike Ar242.2.1) rfl Ar242.2.2 hin242 hat242 (g := (mkF m 262 #[.val (.int p1), .val (.ref b1), .val (.int (23 : Int32)), .val (.int (0 : Int32))] [(.int (23 : Int32)), (.ref b1)])) rfl rfl (hb hby at_262) _ ?_
      show Steps p.tables e below (T125.setTop (mkF m 263 #[.val (.int p1), .val (.ref b1), .val (.int (23 : Int32)), .val (.int (0 : Int32))] [(.ref w23)])) _
      refine st245.trans ?_
      show Steps p.tables e below (T245.setTop (mkF m 266 #[.val (.int p1), .val (.ref b1), .val (.int (23 : Int32)), .val (.int (0 : Int32))] [(.int (0 : Int32))])) _
      refine XS.iloadN X245.here hx rfl (hb hby at_266) rfl ?_
      show Steps p.tables e below (T245.setTop (mkF m 267 #[.val (.int p1), .val (.ref b1), .val (.int (23 : Int32)), .val (.int (0 : Int32))] [(.int (0 : Int32)), (.int (0 : Int32))])) _
      refine XS.icmpNo X245.here hx rfl (hb hby at_267) rfl (teq (by decide : (0 : Int32) = (0 : Int32))).2 ?_
      show Steps p.tables e below (T245.setTop (mkF m 270 #[.val (.int p1), .val (.ref b1), .val (.int (23 : Int32)), .val (.int (0 : Int32))] [])) _
      refine XS.iconst X245.here hx rfl (hb hby at_270) ?_
      show Steps p.tables e below (T245.setTop (mkF m 271 #[.val (.int p1), .val (.ref b1), .val (.int (23 : Int32)), .val (.int (0 : Int32))] [(.int (1 : Int32))])) _
      refine XS.goto X245.here hx rfl (pc0 := 271) (pc' := 275) rfl (hb hby at_271) (by decide) (by decide) ?_
      exact k
    obtain ⟨fs, hrt, hrun, hended, hW, hsame⟩ := X245.leave (v := some (.int (1 : Int32))) (fun h => by rw [Bd.returns] at h; cases h)
    refine ⟨_, _, g246 _ ?_, hrun, hended, _, _, rfl, ?_, ⟨_, rfl⟩, hW, hsame.mono (by decide) (by decide)⟩
    · show Steps p.tables e below (T245.setTop (mkF m 275 #[.val (.int p1), .val (.ref b1), .val (.int (23 : Int32)), .val (.int (0 : Int32))] [(.int (1 : Int32))])) _
      exact retN X245 hx (t := .boolean) Bd.returns (by simp) (hb hby at_275) hrt
    · show own_Q_rm0 Z p1 w0 w1 w2 w3 w4 w5 w6 w7 w8 w9 w10 w11 w12 w13 w14 w15 w16 w17 w18 w19 w20 w21 w22 w23 w24 w25 w26 w27 w28 w29 w30 h0 n0 _ T245.heap _
      rw [e245]
      exact ⟨rfl, N245⟩
  · skip
    obtain ⟨c247, Ar247, cq247, S247, Nn247, Hh247, Gg247⟩ := id V125a
    have hin247 : ¬ ((24 : Int32) < 0 ∨ c247.slots.size ≤ ((24 : Int32)).toNatClampNeg) := inb_of S247 ⟨by decide, by decide⟩
    have hat247 : c247.slots[((24 : Int32)).toNatClampNeg]? = some (.ref w24) := Has.at Hh247 hin247 rfl
    obtain ⟨LL248, XL248, NL248⟩ : ∃ LL : List Loc, Stand p l e room_1 s m #[(.int p1)] below meth c T125 LL 1 31 ∧ Fr n0 LL := ⟨_, X125, N125⟩
    have o249 : Old Z n0 h125 := (Old.wr o122 W125 gz_b1)
    obtain ⟨cq250, kq250, q250a, q250b, q250c⟩ := isOf hZ e125 (Ex_JUMP_IF_FALSE.ext o249.2)
    obtain ⟨_, _, ⟨T250, L250, k250, n250⟩, -, X250, ⟨Lc250, hQ250, l250, y250, z250⟩, st250⟩ := XL248.virtualBack hx (y := (⟨"com/example/chalkline/chalkline/runtime/Opcode", "fallsThrough", "()Z"⟩ : MethodName)) (z := (⟨"com/example/chalkline/chalkline/runtime/Opcode", "fallsThrough", "()Z"⟩ : MethodName)) hown (mvT hZ (hw _ (List.mem_of_getElem? (i := 67) rfl))) (mvT hZ (hw _ (List.mem_of_getElem? (i := 68) rfl))) (notFace_of_selects (args := #[]) (mvT hZ (hw _ (List.mem_of_getElem? (i := 70) rfl)))) (mvT hZ (hw _ (List.mem_of_getElem? (i := 70) rfl))) (mvT hZ (hw _ (List.mem_of_getElem? (i := 69) rfl))) (by decide) (backOf (W := 0) (rmM l Z a0 hw [] w24 (1 : Int32) w0 w1 w2 w3 w4 w5 w6 w7 w8 w9 w10 w11 w12 w13 w14 w15 w16 w17 w18 w19 w20 w21 w22 w23 w24 w25 w26 w27 w28 w29 w30 h125 n0 o249 G0 (by rw [if_neg (Fld.ne Fo24 Fo23 (own_ni (by decide))), if_neg (Fld.ne Fo24 Fo28 (own_ni (by decide))), if_neg (Fld.ne Fo24 Fo30 (own_ni (by decide)))])) hZ (hw _ (List.mem_of_getElem? (i := 71) rfl)) (hw _ (List.mem_of_getElem? (i := 3) rfl)) (by decide) (by decide)) q250a q250c (g := (mkF m 263 #[.val (.int p1), .val (.ref b1), .val (.int (24 : Int32)), .val (.int (1 : Int32))] [(.ref w24)])) rfl (by rw [hml]; rfl) (Steps.refl _) (argsL := []) (rest := []) (lenOf own_pd0 rfl) rfl (by show 2 * 0 + _ ≤ _; exact Nat.le_of_eq rfl) (hb hby at_263) (fun _ _ => ⟨rfl, e125, (by decide : 1 + 0 ≤ _), (by decide : 31 + 0 ≤ _)⟩)
    dsimp only [Pt.U, Pt.locs, Pt.cells, Pt.slots] at X250 l250 y250 z250 st250 hQ250
    subst l250 y250 z250
    obtain ⟨rfl, Nq250, e250⟩ := hQ250
    have N250 := Fr.app NL248 Nq250
    have g251 : ∀ t, Steps p.tables e below (T250.setTop (mkF m 275 #[.val (.int p1), .val (.ref b1), .val (.int (24 : Int32)), .val (.int (1 : Int32))] [(.int (1 : Int32))])) t → Steps p.tables e below (s₁.setTop (entryFrame m #[(.int p1)] maxLocals)) t := by
      intro t k
      refine g126 t ?_
      show Steps p.tables e below (T125.setTop (mkF m 224 #[.val (.int p1), .val (.ref b1), .unset, .unset] [(.int (24 : Int32))])) _
      refine XS.istoreN X125.here hx rfl (hb hby at_224) rfl (l' := #[.val (.int p1), .val (.ref b1), .val (.int (24 : Int32)), .unset]) rfl ?_
      show Steps p.tables e below (T125.setTop (mkF m 225 #[.val (.int p1), .val (.ref b1), .val (.int (24 : Int32)), .unset] [])) _
      refine XS.iloadN X125.here hx rfl (hb hby at_225) rfl ?_
      show Steps p.tables e below (T125.setTop (mkF m 226 #[.val (.int p1), .val (.ref b1), .val (.int (24 : Int32)), .unset] [(.int (24 : Int32))])) _
      refine XS.bipush X125.here hx rfl (hb hby at_226) ?_
      show Steps p.tables e below (T125.setTop (mkF m 228 #[.val (.int p1), .val (.ref b1), .val (.int (24 : Int32)), .unset] [(.int (23 : Int32)), (.int (24 : Int32))])) _
      refine XS.icmpYes X125.here hx rfl (pc0 := 228) (pc' := 236) rfl (hb hby at_228) rfl (feq (by decide : ¬ ((24 : Int32) = (23 : Int32)))).2 (by decide) (by decide) ?_
      show Steps p.tables e below (T125.setTop (mkF m 236 #[.val (.int p1), .val (.ref b1), .val (.int (24 : Int32)), .unset] [])) _
      refine XS.iloadN X125.here hx rfl (hb hby at_236) rfl ?_
      show Steps p.tables e below (T125.setTop (mkF m 237 #[.val (.int p1), .val (.ref b1), .val (.int (24 : Int32)), .unset] [(.int (24 : Int32))])) _
      refine XS.bipush X125.here hx rfl (hb hby at_237) ?_
      show Steps p.tables e below (T125.setTop (mkF m 239 #[.val (.int p1), .val (.ref b1), .val (.int (24 : Int32)), .unset] [(.int (28 : Int32)), (.int (24 : Int32))])) _
      refine XS.icmpYes X125.here hx rfl (pc0 := 239) (pc' := 247) rfl (hb hby at_239) rfl (feq (by decide : ¬ ((24 : Int32) = (28 : Int32)))).2 (by decide) (by decide) ?_
      show Steps p.tables e below (T125.setTop (mkF m 247 #[.val (.int p1), .val (.ref b1), .val (.int (24 : Int32)), .unset] [])) _
      refine XS.iloadN X125.here hx rfl (hb hby at_247) rfl ?_
      show Steps p.tables e below (T125.setTop (mkF m 248 #[.val (.int p1), .val (.ref b1), .val (.int (24 : Int32)), .unset] [(.int (24 : Int32))])) _
      refine XS.bipush X125.here hx rfl (hb hby at_248) ?_
      show Steps p.tables e below (T125.setTop (mkF m 250 #[.val (.int p1), .val (.ref b1), .val (.int (24 : Int32)), .unset] [(.int (30 : Int32)), (.int (24 : Int32))])) _
      refine XS.icmpYes X125.here hx rfl (pc0 := 250) (pc' := 258) rfl (hb hby at_250) rfl (feq (by decide : ¬ ((24 : Int32) = (30 : Int32)))).2 (by decide) (by decide) ?_
      show Steps p.tables e below (T125.setTop (mkF m 258 #[.val (.int p1), .val (.ref b1), .val (.int (24 : Int32)), .unset] [])) _
      refine XS.iconst X125.here hx rfl (hb hby at_258) ?_
      show Steps p.tables e below (T125.setTop (mkF m 259 #[.val (.int p1), .val (.ref b1), .val (.int (24 : Int32)), .unset] [(.int (1 : Int32))])) _
      refine XS.istoreN X125.here hx rfl (hb hby at_259) rfl (l' := #[.val (.int p1), .val (.ref b1), .val (.int (24 : Int32)), .val (.int (1 : Int32))]) rfl ?_
      show Steps p.tables e below (T125.setTop (mkF m 260 #[.val (.int p1), .val (.ref b1), .val (.int (24 : Int32)), .val (.int (1 : Int32))] [])) _
      refine XS.aloadN X125.here hx rfl (hb hby at_260) rfl rfl ?_
      show Steps p.tables e below (T125.setTop (mkF m 261 #[.val (.int p1), .val (.ref b1), .val (.int (24 : Int32)), .val (.int (1 : Int32))] [(.ref b1)])) _
      refine XS.iloadN X125.here hx rfl (hb hby at_261) rfl ?_
      show Steps p.tables e below (T125.setTop (mkF m 262 #[.val (.int p1), .val (.ref b1), .val (.int (24 : Int32)), .val (.int (1 : Int32))] [(.int (24 : Int32)), (.ref b1)])) _
      refine X125.aaload hx (j := (24 : Int32)) (v := (.ref w24)) (by rw [e125]; exact Ar247.1) (State.isArrayOf_alike hZ.alike Ar247.2.1) rfl Ar247.2.2 hin247 hat247 (g := (mkF m 262 #[.val (.int p1), .val (.ref b1), .val (.int (24 : Int32)), .val (.int (1 : Int32))] [(.int (24 : Int32)), (.ref b1)])) rfl rfl (hb hby at_262) _ ?_
      show Steps p.tables e below (T125.setTop (mkF m 263 #[.val (.int p1), .val (.ref b1), .val (.int (24 : Int32)), .val (.int (1 : Int32))] [(.ref w24)])) _
      refine st250.trans ?_
      show Steps p.tables e below (T250.setTop (mkF m 266 #[.val (.int p1), .val (.ref b1), .val (.int (24 : Int32)), .val (.int (1 : Int32))] [(.int (1 : Int32))])) _
      refine XS.iloadN X250.here hx rfl (hb hby at_266) rfl ?_
      show Steps p.tables e below (T250.setTop (mkF m 267 #[.val (.int p1), .val (.ref b1), .val (.int (24 : Int32)), .val (.int (1 : Int32))] [(.int (1 : Int32)), (.int (1 : Int32))])) _
      refine XS.icmpNo X250.here hx rfl (hb hby at_267) rfl (teq (by decide : (1 : Int32) = (1 : Int32))).2 ?_
      show Steps p.tables e below (T250.setTop (mkF m 270 #[.val (.int p1), .val (.ref b1), .val (.int (24 : Int32)), .val (.int (1 : Int32))] [])) _
      refine XS.iconst X250.here hx rfl (hb hby at_270) ?_
      show Steps p.tables e below (T250.setTop (mkF m 271 #[.val (.int p1), .val (.ref b1), .val (.int (24 : Int32)), .val (.int (1 : Int32))] [(.int (1 : Int32))])) _
      refine XS.goto X250.here hx rfl (pc0 := 271) (pc' := 275) rfl (hb hby at_271) (by decide) (by decide) ?_
      exact k
    obtain ⟨fs, hrt, hrun, hended, hW, hsame⟩ := X250.leave (v := some (.int (1 : Int32))) (fun h => by rw [Bd.returns] at h; cases h)
    refine ⟨_, _, g251 _ ?_, hrun, hended, _, _, rfl, ?_, ⟨_, rfl⟩, hW, hsame.mono (by decide) (by decide)⟩
    · show Steps p.tables e below (T250.setTop (mkF m 275 #[.val (.int p1), .val (.ref b1), .val (.int (24 : Int32)), .val (.int (1 : Int32))] [(.int (1 : Int32))])) _
      exact retN X250 hx (t := .boolean) Bd.returns (by simp) (hb hby at_275) hrt
    · show own_Q_rm0 Z p1 w0 w1 w2 w3 w4 w5 w6 w7 w8 w9 w10 w11 w12 w13 w14 w15 w16 w17 w18 w19 w20 w21 w22 w23 w24 w25 w26 w27 w28 w29 w30 h0 n0 _ T250.heap _
      rw [e250]
      exact ⟨rfl, N250⟩
  · skip
    obtain ⟨c252, Ar252, cq252, S252, Nn252, Hh252, Gg252⟩ := id V125a
    have hin252 : ¬ ((25 : Int32) < 0 ∨ c252.slots.size ≤ ((25 : Int32)).toNatClampNeg) := inb_of S252 ⟨by decide, by decide⟩
    have hat252 : c252.slots[((25 : Int32)).toNatClampNeg]? = some (.ref w25) := Has.at Hh252 hin252 rfl
    obtain ⟨LL253, XL253, NL253⟩ : ∃ LL : List Loc, Stand p l e room_1 s m #[(.int p1)] below meth c T125 LL 1 31 ∧ Fr n0 LL := ⟨_, X125, N125⟩
    have o254 : Old Z n0 h125 := (Old.wr o122 W125 gz_b1)
    obtain ⟨cq255, kq255, q255a, q255b, q255c⟩ := isOf hZ e125 (Ex_JUMP_IF_TRUE.ext o254.2)
    obtain ⟨_, _, ⟨T255, L255, k255, n255⟩, -, X255, ⟨Lc255, hQ255, l255, y255, z255⟩, st255⟩ := XL253.virtualBack hx (y := (⟨"com/example/chalkline/chalkline/runtime/Opcode", "fallsThrough", "()Z"⟩ : MethodName)) (z := (⟨"com/example/chalkline/chalkline/runtime/Opcode", "fallsThrough", "()Z"⟩ : MethodName)) hown (mvT hZ (hw _ (List.mem_of_getElem? (i := 67) rfl))) (mvT hZ (hw _ (List.mem_of_getElem? (i := 68) rfl))) (notFace_of_selects (args := #[]) (mvT hZ (hw _ (List.mem_of_getElem? (i := 70) rfl)))) (mvT hZ (hw _ (List.mem_of_getElem? (i := 70) rfl))) (mvT hZ (hw _ (List.mem_of_getElem? (i := 69) rfl))) (by decide) (backOf (W := 0) (rmM l Z a0 hw [] w25 (1 : Int32) w0 w1 w2 w3 w4 w5 w6 w7 w8 w9 w10 w11 w12 w13 w14 w15 w16 w17 w18 w19 w20 w21 w22 w23 w24 w25 w26 w27 w28 w29 w30 h125 n0 o254 G0 (by rw [if_neg (Fld.ne Fo25 Fo23 (own_ni (by decide))), if_neg (Fld.ne Fo25 Fo28 (own_ni (by decide))), if_neg (Fld.ne Fo25 Fo30 (own_ni (by decide)))])) hZ (hw _ (List.mem_of_getElem? (i := 71) rfl)) (hw _ (List.mem_of_getElem? (i := 3) rfl)) (by decide) (by decide)) q255a q255c (g := (mkF m 263 #[.val (.int p1), .val (.ref b1), .val (.int (25 : Int32)), .val (.int (1 : Int32))] [(.ref w25)])) rfl (by rw [hml]; rfl) (Steps.refl _) (argsL := []) (rest := []) (lenOf own_pd0 rfl) rfl (by show 2 * 0 + _ ≤ _; exact Nat.le_of_eq rfl) (hb hby at_263) (fun _ _ => ⟨rfl, e125, (by decide : 1 + 0 ≤ _), (by decide : 31 + 0 ≤ _)⟩)
    dsimp only [Pt.U, Pt.locs, Pt.cells, Pt.slots] at X255 l255 y255 z255 st255 hQ255
    subst l255 y255 z255
    obtain ⟨rfl, Nq255, e255⟩ := hQ255
    have N255 := Fr.app NL253 Nq255
    have g256 : ∀ t, Steps p.tables e below (T255.setTop (mkF m 275 #[.val (.int p1), .val (.ref b1), .val (.int (25 : Int32)), .val (.int (1 : Int32))] [(.int (1 : Int32))])) t → Steps p.tables e below (s₁.setTop (entryFrame m #[(.int p1)] maxLocals)) t := by
      intro t k
      refine g126 t ?_
      show Steps p.tables e below (T125.setTop (mkF m 224 #[.val (.int p1), .val (.ref b1), .unset, .unset] [(.int (25 : Int32))])) _
      refine XS.istoreN X125.here hx rfl (hb hby at_224) rfl (l' := #[.val (.int p1), .val (.ref b1), .val (.int (25 : Int32)), .unset]) rfl ?_
      show Steps p.tables e below (T125.setTop (mkF m 225 #[.val (.int p1), .val (.ref b1), .val (.int (25 : Int32)), .unset] [])) _
      refine XS.iloadN X125.here hx rfl (hb hby at_225) rfl ?_
      show Steps p.tables e below (T125.setTop (mkF m 226 #[.val (.int p1), .val (.ref b1), .val (.int (25 : Int32)), .unset] [(.int (25 : Int32))])) _
      refine XS.bipush X125.here hx rfl (hb hby at_226) ?_
      show Steps p.tables e below (T125.setTop (mkF m 228 #[.val (.int p1), .val (.ref b1), .val (.int (25 : Int32)), .unset] [(.int (23 : Int32)), (.int (25 : Int32))])) _
      refine XS.icmpYes X125.here hx rfl (pc0 := 228) (pc' := 236) rfl (hb hby at_228) rfl (feq (by decide : ¬ ((25 : Int32) = (23 : Int32)))).2 (by decide) (by decide) ?_
      show Steps p.tables e below (T125.setTop (mkF m 236 #[.val (.int p1), .val (.ref b1), .val (.int (25 : Int32)), .unset] [])) _
      refine XS.iloadN X125.here hx rfl (hb hby at_236) rfl ?_
      show Steps p.tables e below (T125.setTop (mkF m 237 #[.val (.int p1), .val (.ref b1), .val (.int (25 : Int32)), .unset] [(.int (25 : Int32))])) _
      refine XS.bipush X125.here hx rfl (hb hby at_237) ?_
      show Steps p.tables e below (T125.setTop (mkF m 239 #[.val (.int p1), .val (.ref b1), .val (.int (25 : Int32)), .unset] [(.int (28 : Int32)), (.int (25 : Int32))])) _
      refine XS.icmpYes X125.here hx rfl (pc0 := 239) (pc' := 247) rfl (hb hby at_239) rfl (feq (by decide : ¬ ((25 : Int32) = (28 : Int32)))).2 (by decide) (by decide) ?_
      show Steps p.tables e below (T125.setTop (mkF m 247 #[.val (.int p1), .val (.ref b1), .val (.int (25 : Int32)), .unset] [])) _
      refine XS.iloadN X125.here hx rfl (hb hby at_247) rfl ?_
      show Steps p.tables e below (T125.setTop (mkF m 248 #[.val (.int p1), .val (.ref b1), .val (.int (25 : Int32)), .unset] [(.int (25 : Int32))])) _
      refine XS.bipush X125.here hx rfl (hb hby at_248) ?_
      show Steps p.tables e below (T125.setTop (mkF m 250 #[.val (.int p1), .val (.ref b1), .val (.int (25 : Int32)), .unset] [(.int (30 : Int32)), (.int (25 : Int32))])) _
      refine XS.icmpYes X125.here hx rfl (pc0 := 250) (pc' := 258) rfl (hb hby at_250) rfl (feq (by decide : ¬ ((25 : Int32) = (30 : Int32)))).2 (by decide) (by decide) ?_
      show Steps p.tables e below (T125.setTop (mkF m 258 #[.val (.int p1), .val (.ref b1), .val (.int (25 : Int32)), .unset] [])) _
      refine XS.iconst X125.here hx rfl (hb hby at_258) ?_
      show Steps p.tables e below (T125.setTop (mkF m 259 #[.val (.int p1), .val (.ref b1), .val (.int (25 : Int32)), .unset] [(.int (1 : Int32))])) _
      refine XS.istoreN X125.here hx rfl (hb hby at_259) rfl (l' := #[.val (.int p1), .val (.ref b1), .val (.int (25 : Int32)), .val (.int (1 : Int32))]) rfl ?_
      show Steps p.tables e below (T125.setTop (mkF m 260 #[.val (.int p1), .val (.ref b1), .val (.int (25 : Int32)), .val (.int (1 : Int32))] [])) _
      refine XS.aloadN X125.here hx rfl (hb hby at_260) rfl rfl ?_
      show Steps p.tables e below (T125.setTop (mkF m 261 #[.val (.int p1), .val (.ref b1), .val (.int (25 : Int32)), .val (.int (1 : Int32))] [(.ref b1)])) _
      refine XS.iloadN X125.here hx rfl (hb hby at_261) rfl ?_
      show Steps p.tables e below (T125.setTop (mkF m 262 #[.val (.int p1), .val (.ref b1), .val (.int (25 : Int32)), .val (.int (1 : Int32))] [(.int (25 : Int32)), (.ref b1)])) _
      refine X125.aaload hx (j := (25 : Int32)) (v := (.ref w25)) (by rw [e125]; exact Ar252.1) (State.isArrayOf_alike hZ.alike Ar252.2.1) rfl Ar252.2.2 hin252 hat252 (g := (mkF m 262 #[.val (.int p1), .val (.ref b1), .val (.int (25 : Int32)), .val (.int (1 : Int32))] [(.int (25 : Int32)), (.ref b1)])) rfl rfl (hb hby at_262) _ ?_
      show Steps p.tables e below (T125.setTop (mkF m 263 #[.val (.int p1), .val (.ref b1), .val (.int (25 : Int32)), .val (.int (1 : Int32))] [(.ref w25)])) _
      refine st255.trans ?_
      show Steps p.tables e below (T255.setTop (mkF m 266 #[.val (.int p1), .val (.ref b1), .val (.int (25 : Int32)), .val (.int (1 : Int32))] [(.int (1 : Int32))])) _
      refine XS.iloadN X255.here hx rfl (hb hby at_266) rfl ?_
      show Steps p.tables e below (T255.setTop (mkF m 267 #[.val (.int p1), .val (.ref b1), .val (.int (25 : Int32)), .val (.int (1 : Int32))] [(.int (1 : Int32)), (.int (1 : Int32))])) _
      refine XS.icmpNo X255.here hx rfl (hb hby at_267) rfl (teq (by decide : (1 : Int32) = (1 : Int32))).2 ?_
      show Steps p.tables e below (T255.setTop (mkF m 270 #[.val (.int p1), .val (.ref b1), .val (.int (25 : Int32)), .val (.int (1 : Int32))] [])) _
      refine XS.iconst X255.here hx rfl (hb hby at_270) ?_
      show Steps p.tables e below (T255.setTop (mkF m 271 #[.val (.int p1), .val (.ref b1), .val (.int (25 : Int32)), .val (.int (1 : Int32))] [(.int (1 : Int32))])) _
      refine XS.goto X255.here hx rfl (pc0 := 271) (pc' := 275) rfl (hb hby at_271) (by decide) (by decide) ?_
      exact k
    obtain ⟨fs, hrt, hrun, hended, hW, hsame⟩ := X255.leave (v := some (.int (1 : Int32))) (fun h => by rw [Bd.returns] at h; cases h)
    refine ⟨_, _, g256 _ ?_, hrun, hended, _, _, rfl, ?_, ⟨_, rfl⟩, hW, hsame.mono (by decide) (by decide)⟩
    · show Steps p.tables e below (T255.setTop (mkF m 275 #[.val (.int p1), .val (.ref b1), .val (.int (25 : Int32)), .val (.int (1 : Int32))] [(.int (1 : Int32))])) _
      exact retN X255 hx (t := .boolean) Bd.returns (by simp) (hb hby at_275) hrt
    · show own_Q_rm0 Z p1 w0 w1 w2 w3 w4 w5 w6 w7 w8 w9 w10 w11 w12 w13 w14 w15 w16 w17 w18 w19 w20 w21 w22 w23 w24 w25 w26 w27 w28 w29 w30 h0 n0 _ T255.heap _
      rw [e255]
      exact ⟨rfl, N255⟩
  · skip
    obtain ⟨c257, Ar257, cq257, S257, Nn257, Hh257, Gg257⟩ := id V125a
    have hin257 : ¬ ((26 : Int32) < 0 ∨ c257.slots.size ≤ ((26 : Int32)).toNatClampNeg) := inb_of S257 ⟨by decide, by decide⟩
    have hat257 : c257.slots[((26 : Int32)).toNatClampNeg]? = some (.ref w26) := Has.at Hh257 hin257 rfl
    obtain ⟨LL258, XL258, NL258⟩ : ∃ LL : List Loc, Stand p l e room_1 s m #[(.int p1)] below meth c T125 LL 1 31 ∧ Fr n0 LL := ⟨_, X125, N125⟩
    have o259 : Old Z n0 h125 := (Old.wr o122 W125 gz_b1)
    obtain ⟨cq260, kq260, q260a, q260b, q260c⟩ := isOf hZ e125 (Ex_FUNCTION.ext o259.2)
    obtain ⟨_, _, ⟨T260, L260, k260, n260⟩, -, X260, ⟨Lc260, hQ260, l260, y260, z260⟩, st260⟩ := XL258.virtualBack hx (y := (⟨"com/example/chalkline/chalkline/runtime/Opcode", "fallsThrough", "()Z"⟩ : MethodName)) (z := (⟨"com/example/chalkline/chalkline/runtime/Opcode", "fallsThrough", "()Z"⟩ : MethodName)) hown (mvT hZ (hw _ (List.mem_of_getElem? (i := 67) rfl))) (mvT hZ (hw _ (List.mem_of_getElem? (i := 68) rfl))) (notFace_of_selects (args := #[]) (mvT hZ (hw _ (List.mem_of_getElem? (i := 70) rfl)))) (mvT hZ (hw _ (List.mem_of_getElem? (i := 70) rfl))) (mvT hZ (hw _ (List.mem_of_getElem? (i := 69) rfl))) (by decide) (backOf (W := 0) (rmM l Z a0 hw [] w26 (1 : Int32) w0 w1 w2 w3 w4 w5 w6 w7 w8 w9 w10 w11 w12 w13 w14 w15 w16 w17 w18 w19 w20 w21 w22 w23 w24 w25 w26 w27 w28 w29 w30 h125 n0 o259 G0 (by rw [if_neg (Fld.ne Fo26 Fo23 (own_ni (by decide))), if_neg (Fld.ne Fo26 Fo28 (own_ni (by decide))), if_neg (Fld.ne Fo26 Fo30 (own_ni (by decide)))])) hZ (hw _ (List.mem_of_getElem? (i := 71) rfl)) (hw _ (List.mem_of_getElem? (i := 3) rfl)) (by decide) (by decide)) q260a q260c (g := (mkF m 263 #[.val (.int p1), .val (.ref b1), .val (.int (26 : Int32)), .val (.int (1 : Int32))] [(.ref w26)])) rfl (by rw [hml]; rfl) (Steps.refl _) (argsL := []) (rest := []) (lenOf own_pd0 rfl) rfl (by show 2 * 0 + _ ≤ _; exact Nat.le_of_eq rfl) (hb hby at_263) (fun _ _ => ⟨rfl, e125, (by decide : 1 + 0 ≤ _), (by decide : 31 + 0 ≤ _)⟩)
    dsimp only [Pt.U, Pt.locs, Pt.cells, Pt.slots] at X260 l260 y260 z260 st260 hQ260
    subst l260 y260 z260
    obtain ⟨rfl, Nq260, e260⟩ := hQ260
    have N260 := Fr.app NL258 Nq260
    have g261 : ∀ t, Steps p.tables e below (T260.setTop (mkF m 275 #[.val (.int p1), .val (.ref b1), .val (.int (26 : Int32)), .val (.int (1 : Int32))] [(.int (1 : Int32))])) t → Steps p.tables e below (s₁.setTop (entryFrame m #[(.int p1)] maxLocals)) t := by
      intro t k
      refine g126 t ?_
      show Steps p.tables e below (T125.setTop (mkF m 224 #[.val (.int p1), .val (.ref b1), .unset, .unset] [(.int (26 : Int32))])) _
      refine XS.istoreN X125.here hx rfl (hb hby at_224) rfl (l' := #[.val (.int p1), .val (.ref b1), .val (.int (26 : Int32)), .unset]) rfl ?_
      show Steps p.tables e below (T125.setTop (mkF m 225 #[.val (.int p1), .val (.ref b1), .val (.int (26 : Int32)), .unset] [])) _
      refine XS.iloadN X125.here hx rfl (hb hby at_225) rfl ?_
      show Steps p.tables e below (T125.setTop (mkF m 226 #[.val (.int p1), .val (.ref b1), .val (.int (26 : Int32)), .unset] [(.int (26 : Int32))])) _
      refine XS.bipush X125.here hx rfl (hb hby at_226) ?_
      show Steps p.tables e below (T125.setTop (mkF m 228 #[.val (.int p1), .val (.ref b1), .val (.int (26 : Int32)), .unset] [(.int (23 : Int32)), (.int (26 : Int32))])) _
      refine XS.icmpYes X125.here hx rfl (pc0 := 228) (pc' := 236) rfl (hb hby at_228) rfl (feq (by decide : ¬ ((26 : Int32) = (23 : Int32)))).2 (by decide) (by decide) ?_
      show Steps p.tables e below (T125.setTop (mkF m 236 #[.val (.int p1), .val (.ref b1), .val (.int (26 : Int32)), .unset] [])) _
      refine XS.iloadN X125.here hx rfl (hb hby at_236) rfl ?_
      show Steps p.tables e below (T125.setTop (mkF m 237 #[.val (.int p1), .val (.ref b1), .val (.int (26 : Int32)), .unset] [(.int (26 : Int32))])) _
      refine XS.bipush X125.here hx rfl (hb hby at_237) ?_
      show Steps p.tables e below (T125.setTop (mkF m 239 #[.val (.int p1), .val (.ref b1), .val (.int (26 : Int32)), .unset] [(.int (28 : Int32)), (.int (26 : Int32))])) _
      refine XS.icmpYes X125.here hx rfl (pc0 := 239) (pc' := 247) rfl (hb hby at_239) rfl (feq (by decide : ¬ ((26 : Int32) = (28 : Int32)))).2 (by decide) (by decide) ?_
      show Steps p.tables e below (T125.setTop (mkF m 247 #[.val (.int p1), .val (.ref b1), .val (.int (26 : Int32)), .unset] [])) _
      refine XS.iloadN X125.here hx rfl (hb hby at_247) rfl ?_
      show Steps p.tables e below (T125.setTop (mkF m 248 #[.val (.int p1), .val (.ref b1), .val (.int (26 : Int32)), .unset] [(.int (26 : Int32))])) _
      refine XS.bipush X125.here hx rfl (hb hby at_248) ?_
      show Steps p.tables e below (T125.setTop (mkF m 250 #[.val (.int p1), .val (.ref b1), .val (.int (26 : Int32)), .unset] [(.int (30 : Int32)), (.int (26 : Int32))])) _
      refine XS.icmpYes X125.here hx rfl (pc0 := 250) (pc' := 258) rfl (hb hby at_250) rfl (feq (by decide : ¬ ((26 : Int32) = (30 : Int32)))).2 (by decide) (by decide) ?_
      show Steps p.tables e below (T125.setTop (mkF m 258 #[.val (.int p1), .val (.ref b1), .val (.int (26 : Int32)), .unset] [])) _
      refine XS.iconst X125.here hx rfl (hb hby at_258) ?_
      show Steps p.tables e below (T125.setTop (mkF m 259 #[.val (.int p1), .val (.ref b1), .val (.int (26 : Int32)), .unset] [(.int (1 : Int32))])) _
      refine XS.istoreN X125.here hx rfl (hb hby at_259) rfl (l' := #[.val (.int p1), .val (.ref b1), .val (.int (26 : Int32)), .val (.int (1 : Int32))]) rfl ?_
      show Steps p.tables e below (T125.setTop (mkF m 260 #[.val (.int p1), .val (.ref b1), .val (.int (26 : Int32)), .val (.int (1 : Int32))] [])) _
      refine XS.aloadN X125.here hx rfl (hb hby at_260) rfl rfl ?_
      show Steps p.tables e below (T125.setTop (mkF m 261 #[.val (.int p1), .val (.ref b1), .val (.int (26 : Int32)), .val (.int (1 : Int32))] [(.ref b1)])) _
      refine XS.iloadN X125.here hx rfl (hb hby at_261) rfl ?_
      show Steps p.tables e below (T125.setTop (mkF m 262 #[.val (.int p1), .val (.ref b1), .val (.int (26 : Int32)), .val (.int (1 : Int32))] [(.int (26 : Int32)), (.ref b1)])) _
      refine X125.aaload hx (j := (26 : Int32)) (v := (.ref w26)) (by rw [e125]; exact Ar257.1) (State.isArrayOf_alike hZ.alike Ar257.2.1) rfl Ar257.2.2 hin257 hat257 (g := (mkF m 262 #[.val (.int p1), .val (.ref b1), .val (.int (26 : Int32)), .val (.int (1 : Int32))] [(.int (26 : Int32)), (.ref b1)])) rfl rfl (hb hby at_262) _ ?_
      show Steps p.tables e below (T125.setTop (mkF m 263 #[.val (.int p1), .val (.ref b1), .val (.int (26 : Int32)), .val (.int (1 : Int32))] [(.ref w26)])) _
      refine st260.trans ?_
      show Steps p.tables e below (T260.setTop (mkF m 266 #[.val (.int p1), .val (.ref b1), .val (.int (26 : Int32)), .val (.int (1 : Int32))] [(.int (1 : Int32))])) _
      refine XS.iloadN X260.here hx rfl (hb hby at_266) rfl ?_
      show Steps p.tables e below (T260.setTop (mkF m 267 #[.val (.int p1), .val (.ref b1), .val (.int (26 : Int32)), .val (.int (1 : Int32))] [(.int (1 : Int32)), (.int (1 : Int32))])) _
      refine XS.icmpNo X260.here hx rfl (hb hby at_267) rfl (teq (by decide : (1 : Int32) = (1 : Int32))).2 ?_
      show Steps p.tables e below (T260.setTop (mkF m 270 #[.val (.int p1), .val (.ref b1), .val (.int (26 : Int32)), .val (.int (1 : Int32))] [])) _
      refine XS.iconst X260.here hx rfl (hb hby at_270) ?_
      show Steps p.tables e below (T260.setTop (mkF m 271 #[.val (.int p1), .val (.ref b1), .val (.int (26 : Int32)), .val (.int (1 : Int32))] [(.int (1 : Int32))])) _
      refine XS.goto X260.here hx rfl (pc0 := 271) (pc' := 275) rfl (hb hby at_271) (by decide) (by decide) ?_
      exact k
    obtain ⟨fs, hrt, hrun, hended, hW, hsame⟩ := X260.leave (v := some (.int (1 : Int32))) (fun h => by rw [Bd.returns] at h; cases h)
    refine ⟨_, _, g261 _ ?_, hrun, hended, _, _, rfl, ?_, ⟨_, rfl⟩, hW, hsame.mono (by decide) (by decide)⟩
    · show Steps p.tables e below (T260.setTop (mkF m 275 #[.val (.int p1), .val (.ref b1), .val (.int (26 : Int32)), .val (.int (1 : Int32))] [(.int (1 : Int32))])) _
      exact retN X260 hx (t := .boolean) Bd.returns (by simp) (hb hby at_275) hrt
    · show own_Q_rm0 Z p1 w0 w1 w2 w3 w4 w5 w6 w7 w8 w9 w10 w11 w12 w13 w14 w15 w16 w17 w18 w19 w20 w21 w22 w23 w24 w25 w26 w27 w28 w29 w30 h0 n0 _ T260.heap _
      rw [e260]
      exact ⟨rfl, N260⟩
  · skip
    obtain ⟨c262, Ar262, cq262, S262, Nn262, Hh262, Gg262⟩ := id V125a
    have hin262 : ¬ ((27 : Int32) < 0 ∨ c262.slots.size ≤ ((27 : Int32)).toNatClampNeg) := inb_of S262 ⟨by decide, by decide⟩
    have hat262 : c262.slots[((27 : Int32)).toNatClampNeg]? = some (.ref w27) := Has.at Hh262 hin262 rfl
    obtain ⟨LL263, XL263, NL263⟩ : ∃ LL : List Loc, Stand p l e room_1 s m #[(.int p1)] below meth c T125 LL 1 31 ∧ Fr n0 LL := ⟨_, X125, N125⟩
    have o264 : Old Z n0 h125 := (Old.wr o122 W125 gz_b1)
    obtain ⟨cq265, kq265, q265a, q265b, q265c⟩ := isOf hZ e125 (Ex_CALL.ext o264.2)
    obtain ⟨_, _, ⟨T265, L265, k265, n265⟩, -, X265, ⟨Lc265, hQ265, l265, y265, z265⟩, st265⟩ := XL263.virtualBack hx (y := (⟨"com/example/chalkline/chalkline/runtime/Opcode", "fallsThrough", "()Z"⟩ : MethodName)) (z := (⟨"com/example/chalkline/chalkline/runtime/Opcode", "fallsThrough", "()Z"⟩ : MethodName)) hown (mvT hZ (hw _ (List.mem_of_getElem? (i := 67) rfl))) (mvT hZ (hw _ (List.mem_of_getElem? (i := 68) rfl))) (notFace_of_selects (args := #[]) (mvT hZ (hw _ (List.mem_of_getElem? (i := 70) rfl)))) (mvT hZ (hw _ (List.mem_of_getElem? (i := 70) rfl))) (mvT hZ (hw _ (List.mem_of_getElem? (i := 69) rfl))) (by decide) (backOf (W := 0) (rmM l Z a0 hw [] w27 (1 : Int32) w0 w1 w2 w3 w4 w5 w6 w7 w8 w9 w10 w11 w12 w13 w14 w15 w16 w17 w18 w19 w20 w21 w22 w23 w24 w25 w26 w27 w28 w29 w30 h125 n0 o264 G0 (by rw [if_neg (Fld.ne Fo27 Fo23 (own_ni (by decide))), if_neg (Fld.ne Fo27 Fo28 (own_ni (by decide))), if_neg (Fld.ne Fo27 Fo30 (own_ni (by decide)))])) hZ (hw _ (List.mem_of_getElem? (i := 71) rfl)) (hw _ (List.mem_of_getElem? (i := 3) rfl)) (by decide) (by decide)) q265a q265c (g := (mkF m 263 #[.val (.int p1), .val (.ref b1), .val (.int (27 : Int32)), .val (.int (1 : Int32))] [(.ref w27)])) rfl (by rw [hml]; rfl) (Steps.refl _) (argsL := []) (rest := []) (lenOf own_pd0 rfl) rfl (by show 2 * 0 + _ ≤ _; exact Nat.le_of_eq rfl) (hb hby at_263) (fun _ _ => ⟨rfl, e125, (by decide : 1 + 0 ≤ _), (by decide : 31 + 0 ≤ _)⟩)
    dsimp only [Pt.U, Pt.locs, Pt.cells, Pt.slots] at X265 l265 y265 z265 st265 hQ265
    subst l265 y265 z265
    obtain ⟨rfl, Nq265, e265⟩ := hQ265
    have N265 := Fr.app NL263 Nq265
    have g266 : ∀ t, Steps p.tables e below (T265.setTop (mkF m 275 #[.val (.int p1), .val (.ref b1), .val (.int (27 : Int32)), .val (.int (1 : Int32))] [(.int (1 : Int32))])) t → Steps p.tables e below (s₁.setTop (entryFrame m #[(.int p1)] maxLocals)) t := by
      intro t k
      refine g126 t ?_
      show Steps p.tables e below (T125.setTop (mkF m 224 #[.val (.int p1), .val (.ref b1), .unset, .unset] [(.int (27 : Int32))])) _
      refine XS.istoreN X125.here hx rfl (hb hby at_224) rfl (l' := #[.val (.int p1), .val (.ref b1), .val (.int (27 : Int32)), .unset]) rfl ?_
      show Steps p.tables e below (T125.setTop (mkF m 225 #[.val (.int p1), .val (.ref b1), .val (.int (27 : Int32)), .unset] [])) _
      refine XS.iloadN X125.here hx rfl (hb hby at_225) rfl ?_
      show Steps p.tables e below (T125.setTop (mkF m 226 #[.val (.int p1), .val (.ref b1), .val (.int (27 : Int32)), .unset] [(.int (27 : Int32))])) _
      refine XS.bipush X125.here hx rfl (hb hby at_226) ?_
      show Steps p.tables e below (T125.setTop (mkF m 228 #[.val (.int p1), .val (.ref b1), .val (.int (27 : Int32)), .unset] [(.int (23 : Int32)), (.int (27 : Int32))])) _
      refine XS.icmpYes X125.here hx rfl (pc0 := 228) (pc' := 236) rfl (hb hby at_228) rfl (feq (by decide : ¬ ((27 : Int32) = (23 : Int32)))).2 (by decide) (by decide) ?_
      show Steps p.tables e below (T125.setTop (mkF m 236 #[.val (.int p1), .val (.ref b1), .val (.int (27 : Int32)), .unset] [])) _
      refine XS.iloadN X125.here hx rfl (hb hby at_236) rfl ?_
      show Steps p.tables e below (T125.setTop (mkF m 237 #[.val (.int p1), .val (.ref b1), .val (.int (27 : Int32)), .unset] [(.int (27 : Int32))])) _
      refine XS.bipush X125.here hx rfl (hb hby at_237) ?_
      show Steps p.tables e below (T125.setTop (mkF m 239 #[.val (.int p1), .val (.ref b1), .val (.int (27 : Int32)), .unset] [(.int (28 : Int32)), (.int (27 : Int32))])) _
      refine XS.icmpYes X125.here hx rfl (pc0 := 239) (pc' := 247) rfl (hb hby at_239) rfl (feq (by decide : ¬ ((27 : Int32) = (28 : Int32)))).2 (by decide) (by decide) ?_
      show Steps p.tables e below (T125.setTop (mkF m 247 #[.val (.int p1), .val (.ref b1), .val (.int (27 : Int32)), .unset] [])) _
      refine XS.iloadN X125.here hx rfl (hb hby at_247) rfl ?_
      show Steps p.tables e below (T125.setTop (mkF m 248 #[.val (.int p1), .val (.ref b1), .val (.int (27 : Int32)), .unset] [(.int (27 : Int32))])) _
      refine XS.bipush X125.here hx rfl (hb hby at_248) ?_
      show Steps p.tables e below (T125.setTop (mkF m 250 #[.val (.int p1), .val (.ref b1), .val (.int (27 : Int32)), .unset] [(.int (30 : Int32)), (.int (27 : Int32))])) _
      refine XS.icmpYes X125.here hx rfl (pc0 := 250) (pc' := 258) rfl (hb hby at_250) rfl (feq (by decide : ¬ ((27 : Int32) = (30 : Int32)))).2 (by decide) (by decide) ?_
      show Steps p.tables e below (T125.setTop (mkF m 258 #[.val (.int p1), .val (.ref b1), .val (.int (27 : Int32)), .unset] [])) _
      refine XS.iconst X125.here hx rfl (hb hby at_258) ?_
      show Steps p.tables e below (T125.setTop (mkF m 259 #[.val (.int p1), .val (.ref b1), .val (.int (27 : Int32)), .unset] [(.int (1 : Int32))])) _
      refine XS.istoreN X125.here hx rfl (hb hby at_259) rfl (l' := #[.val (.int p1), .val (.ref b1), .val (.int (27 : Int32)), .val (.int (1 : Int32))]) rfl ?_
      show Steps p.tables e below (T125.setTop (mkF m 260 #[.val (.int p1), .val (.ref b1), .val (.int (27 : Int32)), .val (.int (1 : Int32))] [])) _
      refine XS.aloadN X125.here hx rfl (hb hby at_260) rfl rfl ?_
      show Steps p.tables e below (T125.setTop (mkF m 261 #[.val (.int p1), .val (.ref b1), .val (.int (27 : Int32)), .val (.int (1 : Int32))] [(.ref b1)])) _
      refine XS.iloadN X125.here hx rfl (hb hby at_261) rfl ?_
      show Steps p.tables e below (T125.setTop (mkF m 262 #[.val (.int p1), .val (.ref b1), .val (.int (27 : Int32)), .val (.int (1 : Int32))] [(.int (27 : Int32)), (.ref b1)])) _
      refine X125.aaload hx (j := (27 : Int32)) (v := (.ref w27)) (by rw [e125]; exact Ar262.1) (State.isArrayOf_alike hZ.alike Ar262.2.1) rfl Ar262.2.2 hin262 hat262 (g := (mkF m 262 #[.val (.int p1), .val (.ref b1), .val (.int (27 : Int32)), .val (.int (1 : Int32))] [(.int (27 : Int32)), (.ref b1)])) rfl rfl (hb hby at_262) _ ?_
      show Steps p.tables e below (T125.setTop (mkF m 263 #[.val (.int p1), .val (.ref b1), .val (.int (27 : Int32)), .val (.int (1 : Int32))] [(.ref w27)])) _
      refine st265.trans ?_
      show Steps p.tables e below (T265.setTop (mkF m 266 #[.val (.int p1), .val (.ref b1), .val (.int (27 : Int32)), .val (.int (1 : Int32))] [(.int (1 : Int32))])) _
      refine XS.iloadN X265.here hx rfl (hb hby at_266) rfl ?_
      show Steps p.tables e below (T265.setTop (mkF m 267 #[.val (.int p1), .val (.ref b1), .val (.int (27 : Int32)), .val (.int (1 : Int32))] [(.int (1 : Int32)), (.int (1 : Int32))])) _
      refine XS.icmpNo X265.here hx rfl (hb hby at_267) rfl (teq (by decide : (1 : Int32) = (1 : Int32))).2 ?_
      show Steps p.tables e below (T265.setTop (mkF m 270 #[.val (.int p1), .val (.ref b1), .val (.int (27 : Int32)), .val (.int (1 : Int32))] [])) _
      refine XS.iconst X265.here hx rfl (hb hby at_270) ?_
      show Steps p.tables e below (T265.setTop (mkF m 271 #[.val (.int p1), .val (.ref b1), .val (.int (27 : Int32)), .val (.int (1 : Int32))] [(.int (1 : Int32))])) _
      refine XS.goto X265.here hx rfl (pc0 := 271) (pc' := 275) rfl (hb hby at_271) (by decide) (by decide) ?_
      exact k
    obtain ⟨fs, hrt, hrun, hended, hW, hsame⟩ := X265.leave (v := some (.int (1 : Int32))) (fun h => by rw [Bd.returns] at h; cases h)
    refine ⟨_, _, g266 _ ?_, hrun, hended, _, _, rfl, ?_, ⟨_, rfl⟩, hW, hsame.mono (by decide) (by decide)⟩
    · show Steps p.tables e below (T265.setTop (mkF m 275 #[.val (.int p1), .val (.ref b1), .val (.int (27 : Int32)), .val (.int (1 : Int32))] [(.int (1 : Int32))])) _
      exact retN X265 hx (t := .boolean) Bd.returns (by simp) (hb hby at_275) hrt
    · show own_Q_rm0 Z p1 w0 w1 w2 w3 w4 w5 w6 w7 w8 w9 w10 w11 w12 w13 w14 w15 w16 w17 w18 w19 w20 w21 w22 w23 w24 w25 w26 w27 w28 w29 w30 h0 n0 _ T265.heap _
      rw [e265]
      exact ⟨rfl, N265⟩
  · skip
    obtain ⟨c267, Ar267, cq267, S267, Nn267, Hh267, Gg267⟩ := id V125a
    have hin267 : ¬ ((28 : Int32) < 0 ∨ c267.slots.size ≤ ((28 : Int32)).toNatClampNeg) := inb_of S267 ⟨by decide, by decide⟩
    have hat267 : c267.slots[((28 : Int32)).toNatClampNeg]? = some (.ref w28) := Has.at Hh267 hin267 rfl
    obtain ⟨LL268, XL268, NL268⟩ : ∃ LL : List Loc, Stand p l e room_1 s m #[(.int p1)] below meth c T125 LL 1 31 ∧ Fr n0 LL := ⟨_, X125, N125⟩
    have o269 : Old Z n0 h125 := (Old.wr o122 W125 gz_b1)
    obtain ⟨cq270, kq270, q270a, q270b, q270c⟩ := isOf hZ e125 (Ex_RETURN.ext o269.2)
    obtain ⟨_, _, ⟨T270, L270, k270, n270⟩, -, X270, ⟨Lc270, hQ270, l270, y270, z270⟩, st270⟩ := XL268.virtualBack hx (y := (⟨"com/example/chalkline/chalkline/runtime/Opcode", "fallsThrough", "()Z"⟩ : MethodName)) (z := (⟨"com/example/chalkline/chalkline/runtime/Opcode", "fallsThrough", "()Z"⟩ : MethodName)) hown (mvT hZ (hw _ (List.mem_of_getElem? (i := 67) rfl))) (mvT hZ (hw _ (List.mem_of_getElem? (i := 68) rfl))) (notFace_of_selects (args := #[]) (mvT hZ (hw _ (List.mem_of_getElem? (i := 70) rfl)))) (mvT hZ (hw _ (List.mem_of_getElem? (i := 70) rfl))) (mvT hZ (hw _ (List.mem_of_getElem? (i := 69) rfl))) (by decide) (backOf (W := 0) (rmM l Z a0 hw [] w28 (0 : Int32) w0 w1 w2 w3 w4 w5 w6 w7 w8 w9 w10 w11 w12 w13 w14 w15 w16 w17 w18 w19 w20 w21 w22 w23 w24 w25 w26 w27 w28 w29 w30 h125 n0 o269 G0 (by rw [if_neg (Fld.ne Fo28 Fo23 (own_ni (by decide))), if_pos rfl])) hZ (hw _ (List.mem_of_getElem? (i := 71) rfl)) (hw _ (List.mem_of_getElem? (i := 3) rfl)) (by decide) (by decide)) q270a q270c (g := (mkF m 263 #[.val (.int p1), .val (.ref b1), .val (.int (28 : Int32)), .val (.int (0 : Int32))] [(.ref w28)])) rfl (by rw [hml]; rfl) (Steps.refl _) (argsL := []) (rest := []) (lenOf own_pd0 rfl) rfl (by show 2 * 0 + _ ≤ _; exact Nat.le_of_eq rfl) (hb hby at_263) (fun _ _ => ⟨rfl, e125, (by decide : 1 + 0 ≤ _), (by decide : 31 + 0 ≤ _)⟩)
    dsimp only [Pt.U, Pt.locs, Pt.cells, Pt.slots] at X270 l270 y270 z270 st270 hQ270
    subst l270 y270 z270
    obtain ⟨rfl, Nq270, e270⟩ := hQ270
    have N270 := Fr.app NL268 Nq270
    have g271 : ∀ t, Steps p.tables e below (T270.setTop (mkF m 275 #[.val (.int p1), .val (.ref b1), .val (.int (28 : Int32)), .val (.int (0 : Int32))] [(.int (1 : Int32))])) t → Steps p.tables e below (s₁.setTop (entryFrame m #[(.int p1)] maxLocals)) t := by
      intro t k
      refine g126 t ?_
      show Steps p.tables e below (T125.setTop (mkF m 224 #[.val (.int p1), .val (.ref b1), .unset, .unset] [(.int (28 : Int32))])) _
      refine XS.istoreN X125.here hx rfl (hb hby at_224) rfl (l' := #[.val (.int p1), .val (.ref b1), .val (.int (28 : Int32)), .unset]) rfl ?_
      show Steps p.tables e below (T125.setTop (mkF m 225 #[.val (.int p1), .val (.ref b1), .val (.int (28 : Int32)), .unset] [])) _
      refine XS.iloadN X125.here hx rfl (hb hby at_225) rfl ?_
      show Steps p.tables e below (T125.setTop (mkF m 226 #[.val (.int p1), .val (.ref b1), .val (.int (28 : Int32)), .unset] [(.int (28 : Int32))])) _
      refine XS.bipush X125.here hx rfl (hb hby at_226) ?_
      show Steps p.tables e below (T125.setTop (mkF m 228 #[.val (.int p1), .val (.ref b1), .val (.int (28 : Int32)), .unset] [(.int (23 : Int32)), (.int (28 : Int32))])) _
      refine XS.icmpYes X125.here hx rfl (pc0 := 228) (pc' := 236) rfl (hb hby at_228) rfl (feq (by decide : ¬ ((28 : Int32) = (23 : Int32)))).2 (by decide) (by decide) ?_
      show Steps p.tables e below (T125.setTop (mkF m 236 #[.val (.int p1), .val (.ref b1), .val (.int (28 : Int32)), .unset] [])) _
      refine XS.iloadN X125.here hx rfl (hb hby at_236) rfl ?_
      show Steps p.tables e below (T125.setTop (mkF m 237 #[.val (.int p1), .val (.ref b1), .val (.int (28 : Int32)), .unset] [(.int (28 : Int32))])) _
      refine XS.bipush X125.here hx rfl (hb hby at_237) ?_
      show Steps p.tables e below (T125.setTop (mkF m 239 #[.val (.int p1), .val (.ref b1), .val (.int (28 : Int32)), .unset] [(.int (28 : Int32)), (.int (28 : Int32))])) _
      refine XS.icmpNo X125.here hx rfl (hb hby at_239) rfl (teq (by decide : (28 : Int32) = (28 : Int32))).2 ?_
      show Steps p.tables e below (T125.setTop (mkF m 242 #[.val (.int p1), .val (.ref b1), .val (.int (28 : Int32)), .unset] [])) _
      refine XS.iconst X125.here hx rfl (hb hby at_242) ?_
      show Steps p.tables e below (T125.setTop (mkF m 243 #[.val (.int p1), .val (.ref b1), .val (.int (28 : Int32)), .unset] [(.int (0 : Int32))])) _
      refine XS.istoreN X125.here hx rfl (hb hby at_243) rfl (l' := #[.val (.int p1), .val (.ref b1), .val (.int (28 : Int32)), .val (.int (0 : Int32))]) rfl ?_
      show Steps p.tables e below (T125.setTop (mkF m 244 #[.val (.int p1), .val (.ref b1), .val (.int (28 : Int32)), .val (.int (0 : Int32))] [])) _
      refine XS.goto X125.here hx rfl (pc0 := 244) (pc' := 260) rfl (hb hby at_244) (by decide) (by decide) ?_
      show Steps p.tables e below (T125.setTop (mkF m 260 #[.val (.int p1), .val (.ref b1), .val (.int (28 : Int32)), .val (.int (0 : Int32))] [])) _
      refine XS.aloadN X125.here hx rfl (hb hby at_260) rfl rfl ?_
      show Steps p.tables e below (T125.setTop (mkF m 261 #[.val (.int p1), .val (.ref b1), .val (.int (28 : Int32)), .val (.int (0 : Int32))] [(.ref b1)])) _
      refine XS.iloadN X125.here hx rfl (hb hby at_261) rfl ?_
      show Steps p.tables e below (T125.setTop (mkF m 262 #[.val (.int p1), .val (.ref b1), .val (.int (28 : Int32)), .val (.int (0 : Int32))] [(.int (28 : Int32)), (.ref b1)])) _
      refine X125.aaload hx (j := (28 : Int32)) (v := (.ref w28)) (by rw [e125]; exact Ar267.1) (State.isArrayOf_alike hZ.alike Ar267.2.1) rfl Ar267.2.2 hin267 hat267 (g := (mkF m 262 #[.val (.int p1), .val (.ref b1), .val (.int (28 : Int32)), .val (.int (0 : Int32))] [(.int (28 : Int32)), (.ref b1)])) rfl rfl (hb hby at_262) _ ?_
      show Steps p.tables e below (T125.setTop (mkF m 263 #[.val (.int p1), .val (.ref b1), .val (.int (28 : Int32)), .val (.int (0 : Int32))] [(.ref w28)])) _
      refine st270.trans ?_
      show Steps p.tables e below (T270.setTop (mkF m 266 #[.val (.int p1), .val (.ref b1), .val (.int (28 : Int32)), .val (.int (0 : Int32))] [(.int (0 : Int32))])) _
      refine XS.iloadN X270.here hx rfl (hb hby at_266) rfl ?_
      show Steps p.tables e below (T270.setTop (mkF m 267 #[.val (.int p1), .val (.ref b1), .val (.int (28 : Int32)), .val (.int (0 : Int32))] [(.int (0 : Int32)), (.int (0 : Int32))])) _
      refine XS.icmpNo X270.here hx rfl (hb hby at_267) rfl (teq (by decide : (0 : Int32) = (0 : Int32))).2 ?_
      show Steps p.tables e below (T270.setTop (mkF m 270 #[.val (.int p1), .val (.ref b1), .val (.int (28 : Int32)), .val (.int (0 : Int32))] [])) _
      refine XS.iconst X270.here hx rfl (hb hby at_270) ?_
      show Steps p.tables e below (T270.setTop (mkF m 271 #[.val (.int p1), .val (.ref b1), .val (.int (28 : Int32)), .val (.int (0 : Int32))] [(.int (1 : Int32))])) _
      refine XS.goto X270.here hx rfl (pc0 := 271) (pc' := 275) rfl (hb hby at_271) (by decide) (by decide) ?_
      exact k
    obtain ⟨fs, hrt, hrun, hended, hW, hsame⟩ := X270.leave (v := some (.int (1 : Int32))) (fun h => by rw [Bd.returns] at h; cases h)
    refine ⟨_, _, g271 _ ?_, hrun, hended, _, _, rfl, ?_, ⟨_, rfl⟩, hW, hsame.mono (by decide) (by decide)⟩
    · show Steps p.tables e below (T270.setTop (mkF m 275 #[.val (.int p1), .val (.ref b1), .val (.int (28 : Int32)), .val (.int (0 : Int32))] [(.int (1 : Int32))])) _
      exact retN X270 hx (t := .boolean) Bd.returns (by simp) (hb hby at_275) hrt
    · show own_Q_rm0 Z p1 w0 w1 w2 w3 w4 w5 w6 w7 w8 w9 w10 w11 w12 w13 w14 w15 w16 w17 w18 w19 w20 w21 w22 w23 w24 w25 w26 w27 w28 w29 w30 h0 n0 _ T270.heap _
      rw [e270]
      exact ⟨rfl, N270⟩
  · skip
    obtain ⟨c272, Ar272, cq272, S272, Nn272, Hh272, Gg272⟩ := id V125a
    have hin272 : ¬ ((29 : Int32) < 0 ∨ c272.slots.size ≤ ((29 : Int32)).toNatClampNeg) := inb_of S272 ⟨by decide, by decide⟩
    have hat272 : c272.slots[((29 : Int32)).toNatClampNeg]? = some (.ref w29) := Has.at Hh272 hin272 rfl
    obtain ⟨LL273, XL273, NL273⟩ : ∃ LL : List Loc, Stand p l e room_1 s m #[(.int p1)] below meth c T125 LL 1 31 ∧ Fr n0 LL := ⟨_, X125, N125⟩
    have o274 : Old Z n0 h125 := (Old.wr o122 W125 gz_b1)
    obtain ⟨cq275, kq275, q275a, q275b, q275c⟩ := isOf hZ e125 (Ex_PRINT.ext o274.2)
    obtain ⟨_, _, ⟨T275, L275, k275, n275⟩, -, X275, ⟨Lc275, hQ275, l275, y275, z275⟩, st275⟩ := XL273.virtualBack hx (y := (⟨"com/example/chalkline/chalkline/runtime/Opcode", "fallsThrough", "()Z"⟩ : MethodName)) (z := (⟨"com/example/chalkline/chalkline/runtime/Opcode", "fallsThrough", "()Z"⟩ : MethodName)) hown (mvT hZ (hw _ (List.mem_of_getElem? (i := 67) rfl))) (mvT hZ (hw _ (List.mem_of_getElem? (i := 68) rfl))) (notFace_of_selects (args := #[]) (mvT hZ (hw _ (List.mem_of_getElem? (i := 70) rfl)))) (mvT hZ (hw _ (List.mem_of_getElem? (i := 70) rfl))) (mvT hZ (hw _ (List.mem_of_getElem? (i := 69) rfl))) (by decide) (backOf (W := 0) (rmM l Z a0 hw [] w29 (1 : Int32) w0 w1 w2 w3 w4 w5 w6 w7 w8 w9 w10 w11 w12 w13 w14 w15 w16 w17 w18 w19 w20 w21 w22 w23 w24 w25 w26 w27 w28 w29 w30 h125 n0 o274 G0 (by rw [if_neg (Fld.ne Fo29 Fo23 (own_ni (by decide))), if_neg (Fld.ne Fo29 Fo28 (own_ni (by decide))), if_neg (Fld.ne Fo29 Fo30 (own_ni (by decide)))])) hZ (hw _ (List.mem_of_getElem? (i := 71) rfl)) (hw _ (List.mem_of_getElem? (i := 3) rfl)) (by decide) (by decide)) q275a q275c (g := (mkF m 263 #[.val (.int p1), .val (.ref b1), .val (.int (29 : Int32)), .val (.int (1 : Int32))] [(.ref w29)])) rfl (by rw [hml]; rfl) (Steps.refl _) (argsL := []) (rest := []) (lenOf own_pd0 rfl) rfl (by show 2 * 0 + _ ≤ _; exact Nat.le_of_eq rfl) (hb hby at_263) (fun _ _ => ⟨rfl, e125, (by decide : 1 + 0 ≤ _), (by decide : 31 + 0 ≤ _)⟩)
    dsimp only [Pt.U, Pt.locs, Pt.cells, Pt.slots] at X275 l275 y275 z275 st275 hQ275
    subst l275 y275 z275
    obtain ⟨rfl, Nq275, e275⟩ := hQ275
    have N275 := Fr.app NL273 Nq275
    have g276 : ∀ t, Steps p.tables e below (T275.setTop (mkF m 275 #[.val (.int p1), .val (.ref b1), .val (.int (29 : Int32)), .val (.int (1 : Int32))] [(.int (1 : Int32))])) t → Steps p.tables e below (s₁.setTop (entryFrame m #[(.int p1)] maxLocals)) t := by
      intro t k
      refine g126 t ?_
      show Steps p.tables e below (T125.setTop (mkF m 224 #[.val (.int p1), .val (.ref b1), .unset, .unset] [(.int (29 : Int32))])) _
      refine XS.istoreN X125.here hx rfl (hb hby at_224) rfl (l' := #[.val (.int p1), .val (.ref b1), .val (.int (29 : Int32)), .unset]) rfl ?_
      show Steps p.tables e below (T125.setTop (mkF m 225 #[.val (.int p1), .val (.ref b1), .val (.int (29 : Int32)), .unset] [])) _
      refine XS.iloadN X125.here hx rfl (hb hby at_225) rfl ?_
      show Steps p.tables e below (T125.setTop (mkF m 226 #[.val (.int p1), .val (.ref b1), .val (.int (29 : Int32)), .unset] [(.int (29 : Int32))])) _
      refine XS.bipush X125.here hx rfl (hb hby at_226) ?_
      show Steps p.tables e below (T125.setTop (mkF m 228 #[.val (.int p1), .val (.ref b1), .val (.int (29 : Int32)), .unset] [(.int (23 : Int32)), (.int (29 : Int32))])) _
      refine XS.icmpYes X125.here hx rfl (pc0 := 228) (pc' := 236) rfl (hb hby at_228) rfl (feq (by decide : ¬ ((29 : Int32) = (23 : Int32)))).2 (by decide) (by decide) ?_
      show Steps p.tables e below (T125.setTop (mkF m 236 #[.val (.int p1), .val (.ref b1), .val (.int (29 : Int32)), .unset] [])) _
      refine XS.iloadN X125.here hx rfl (hb hby at_236) rfl ?_
      show Steps p.tables e below (T125.setTop (mkF m 237 #[.val (.int p1), .val (.ref b1), .val (.int (29 : Int32)), .unset] [(.int (29 : Int32))])) _
      refine XS.bipush X125.here hx rfl (hb hby at_237) ?_
      show Steps p.tables e below (T125.setTop (mkF m 239 #[.val (.int p1), .val (.ref b1), .val (.int (29 : Int32)), .unset] [(.int (28 : Int32)), (.int (29 : Int32))])) _
      refine XS.icmpYes X125.here hx rfl (pc0 := 239) (pc' := 247) rfl (hb hby at_239) rfl (feq (by decide : ¬ ((29 : Int32) = (28 : Int32)))).2 (by decide) (by decide) ?_
      show Steps p.tables e below (T125.setTop (mkF m 247 #[.val (.int p1), .val (.ref b1), .val (.int (29 : Int32)), .unset] [])) _
      refine XS.iloadN X125.here hx rfl (hb hby at_247) rfl ?_
      show Steps p.tables e below (T125.setTop (mkF m 248 #[.val (.int p1), .val (.ref b1), .val (.int (29 : Int32)), .unset] [(.int (29 : Int32))])) _
      refine XS.bipush X125.here hx rfl (hb hby at_248) ?_
      show Steps p.tables e below (T125.setTop (mkF m 250 #[.val (.int p1), .val (.ref b1), .val (.int (29 : Int32)), .unset] [(.int (30 : Int32)), (.int (29 : Int32))])) _
      refine XS.icmpYes X125.here hx rfl (pc0 := 250) (pc' := 258) rfl (hb hby at_250) rfl (feq (by decide : ¬ ((29 : Int32) = (30 : Int32)))).2 (by decide) (by decide) ?_
      show Steps p.tables e below (T125.setTop (mkF m 258 #[.val (.int p1), .val (.ref b1), .val (.int (29 : Int32)), .unset] [])) _
      refine XS.iconst X125.here hx rfl (hb hby at_258) ?_
      show Steps p.tables e below (T125.setTop (mkF m 259 #[.val (.int p1), .val (.ref b1), .val (.int (29 : Int32)), .unset] [(.int (1 : Int32))])) _
      refine XS.istoreN X125.here hx rfl (hb hby at_259) rfl (l' := #[.val (.int p1), .val (.ref b1), .val (.int (29 : Int32)), .val (.int (1 : Int32))]) rfl ?_
      show Steps p.tables e below (T125.setTop (mkF m 260 #[.val (.int p1), .val (.ref b1), .val (.int (29 : Int32)), .val (.int (1 : Int32))] [])) _
      refine XS.aloadN X125.here hx rfl (hb hby at_260) rfl rfl ?_
      show Steps p.tables e below (T125.setTop (mkF m 261 #[.val (.int p1), .val (.ref b1), .val (.int (29 : Int32)), .val (.int (1 : Int32))] [(.ref b1)])) _
      refine XS.iloadN X125.here hx rfl (hb hby at_261) rfl ?_
      show Steps p.tables e below (T125.setTop (mkF m 262 #[.val (.int p1), .val (.ref b1), .val (.int (29 : Int32)), .val (.int (1 : Int32))] [(.int (29 : Int32)), (.ref b1)])) _
      refine X125.aaload hx (j := (29 : Int32)) (v := (.ref w29)) (by rw [e125]; exact Ar272.1) (State.isArrayOf_alike hZ.alike Ar272.2.1) rfl Ar272.2.2 hin272 hat272 (g := (mkF m 262 #[.val (.int p1), .val (.ref b1), .val (.int (29 : Int32)), .val (.int (1 : Int32))] [(.int (29 : Int32)), (.ref b1)])) rfl rfl (hb hby at_262) _ ?_
      show Steps p.tables e below (T125.setTop (mkF m 263 #[.val (.int p1), .val (.ref b1), .val (.int (29 : Int32)), .val (.int (1 : Int32))] [(.ref w29)])) _
      refine st275.trans ?_
      show Steps p.tables e below (T275.setTop (mkF m 266 #[.val (.int p1), .val (.ref b1), .val (.int (29 : Int32)), .val (.int (1 : Int32))] [(.int (1 : Int32))])) _
      refine XS.iloadN X275.here hx rfl (hb hby at_266) rfl ?_
      show Steps p.tables e below (T275.setTop (mkF m 267 #[.val (.int p1), .val (.ref b1), .val (.int (29 : Int32)), .val (.int (1 : Int32))] [(.int (1 : Int32)), (.int (1 : Int32))])) _
      refine XS.icmpNo X275.here hx rfl (hb hby at_267) rfl (teq (by decide : (1 : Int32) = (1 : Int32))).2 ?_
      show Steps p.tables e below (T275.setTop (mkF m 270 #[.val (.int p1), .val (.ref b1), .val (.int (29 : Int32)), .val (.int (1 : Int32))] [])) _
      refine XS.iconst X275.here hx rfl (hb hby at_270) ?_
      show Steps p.tables e below (T275.setTop (mkF m 271 #[.val (.int p1), .val (.ref b1), .val (.int (29 : Int32)), .val (.int (1 : Int32))] [(.int (1 : Int32))])) _
      refine XS.goto X275.here hx rfl (pc0 := 271) (pc' := 275) rfl (hb hby at_271) (by decide) (by decide) ?_
      exact k
    obtain ⟨fs, hrt, hrun, hended, hW, hsame⟩ := X275.leave (v := some (.int (1 : Int32))) (fun h => by rw [Bd.returns] at h; cases h)
    refine ⟨_, _, g276 _ ?_, hrun, hended, _, _, rfl, ?_, ⟨_, rfl⟩, hW, hsame.mono (by decide) (by decide)⟩
    · show Steps p.tables e below (T275.setTop (mkF m 275 #[.val (.int p1), .val (.ref b1), .val (.int (29 : Int32)), .val (.int (1 : Int32))] [(.int (1 : Int32))])) _
      exact retN X275 hx (t := .boolean) Bd.returns (by simp) (hb hby at_275) hrt
    · show own_Q_rm0 Z p1 w0 w1 w2 w3 w4 w5 w6 w7 w8 w9 w10 w11 w12 w13 w14 w15 w16 w17 w18 w19 w20 w21 w22 w23 w24 w25 w26 w27 w28 w29 w30 h0 n0 _ T275.heap _
      rw [e275]
      exact ⟨rfl, N275⟩
  · skip
    obtain ⟨c277, Ar277, cq277, S277, Nn277, Hh277, Gg277⟩ := id V125a
    have hin277 : ¬ ((30 : Int32) < 0 ∨ c277.slots.size ≤ ((30 : Int32)).toNatClampNeg) := inb_of S277 ⟨by decide, by decide⟩
    have hat277 : c277.slots[((30 : Int32)).toNatClampNeg]? = some (.ref w30) := Has.at Hh277 hin277 rfl
    obtain ⟨LL278, XL278, NL278⟩ : ∃ LL : List Loc, Stand p l e room_1 s m #[(.int p1)] below meth c T125 LL 1 31 ∧ Fr n0 LL := ⟨_, X125, N125⟩
    have o279 : Old Z n0 h125 := (Old.wr o122 W125 gz_b1)
    obtain ⟨cq280, kq280, q280a, q280b, q280c⟩ := isOf hZ e125 (Ex_HALT.ext o279.2)
    obtain ⟨_, _, ⟨T280, L280, k280, n280⟩, -, X280, ⟨Lc280, hQ280, l280, y280, z280⟩, st280⟩ := XL278.virtualBack hx (y := (⟨"com/example/chalkline/chalkline/runtime/Opcode", "fallsThrough", "()Z"⟩ : MethodName)) (z := (⟨"com/example/chalkline/chalkline/runtime/Opcode", "fallsThrough", "()Z"⟩ : MethodName)) hown (mvT hZ (hw _ (List.mem_of_getElem? (i := 67) rfl))) (mvT hZ (hw _ (List.mem_of_getElem? (i := 68) rfl))) (notFace_of_selects (args := #[]) (mvT hZ (hw _ (List.mem_of_getElem? (i := 70) rfl)))) (mvT hZ (hw _ (List.mem_of_getElem? (i := 70) rfl))) (mvT hZ (hw _ (List.mem_of_getElem? (i := 69) rfl))) (by decide) (backOf (W := 0) (rmM l Z a0 hw [] w30 (0 : Int32) w0 w1 w2 w3 w4 w5 w6 w7 w8 w9 w10 w11 w12 w13 w14 w15 w16 w17 w18 w19 w20 w21 w22 w23 w24 w25 w26 w27 w28 w29 w30 h125 n0 o279 G0 (by rw [if_neg (Fld.ne Fo30 Fo23 (own_ni (by decide))), if_neg (Fld.ne Fo30 Fo28 (own_ni (by decide))), if_pos rfl])) hZ (hw _ (List.mem_of_getElem? (i := 71) rfl)) (hw _ (List.mem_of_getElem? (i := 3) rfl)) (by decide) (by decide)) q280a q280c (g := (mkF m 263 #[.val (.int p1), .val (.ref b1), .val (.int (30 : Int32)), .val (.int (0 : Int32))] [(.ref w30)])) rfl (by rw [hml]; rfl) (Steps.refl _) (argsL := []) (rest := []) (lenOf own_pd0 rfl) rfl (by show 2 * 0 + _ ≤ _; exact Nat.le_of_eq rfl) (hb hby at_263) (fun _ _ => ⟨rfl, e125, (by decide : 1 + 0 ≤ _), (by decide : 31 + 0 ≤ _)⟩)
    dsimp only [Pt.U, Pt.locs, Pt.cells, Pt.slots] at X280 l280 y280 z280 st280 hQ280
    subst l280 y280 z280
    obtain ⟨rfl, Nq280, e280⟩ := hQ280
    have N280 := Fr.app NL278 Nq280
    have g281 : ∀ t, Steps p.tables e below (T280.setTop (mkF m 275 #[.val (.int p1), .val (.ref b1), .val (.int (30 : Int32)), .val (.int (0 : Int32))] [(.int (1 : Int32))])) t → Steps p.tables e below (s₁.setTop (entryFrame m #[(.int p1)] maxLocals)) t := by
      intro t k
      refine g126 t ?_
      show Steps p.tables e below (T125.setTop (mkF m 224 #[.val (.int p1), .val (.ref b1), .unset, .unset] [(.int (30 : Int32))])) _
      refine XS.istoreN X125.here hx rfl (hb hby at_224) rfl (l' := #[.val (.int p1), .val (.ref b1), .val (.int (30 : Int32)), .unset]) rfl ?_
      show Steps p.tables e below (T125.setTop (mkF m 225 #[.val (.int p1), .val (.ref b1), .val (.int (30 : Int32)), .unset] [])) _
      refine XS.iloadN X125.here hx rfl (hb hby at_225) rfl ?_
      show Steps p.tables e below (T125.setTop (mkF m 226 #[.val (.int p1), .val (.ref b1), .val (.int (30 : Int32)), .unset] [(.int (30 : Int32))])) _
      refine XS.bipush X125.here hx rfl (hb hby at_226) ?_
      show Steps p.tables e below (T125.setTop (mkF m 228 #[.val (.int p1), .val (.ref b1), .val (.int (30 : Int32)), .unset] [(.int (23 : Int32)), (.int (30 : Int32))])) _
      refine XS.icmpYes X125.here hx rfl (pc0 := 228) (pc' := 236) rfl (hb hby at_228) rfl (feq (by decide : ¬ ((30 : Int32) = (23 : Int32)))).2 (by decide) (by decide) ?_
      show Steps p.tables e below (T125.setTop (mkF m 236 #[.val (.int p1), .val (.ref b1), .val (.int (30 : Int32)), .unset] [])) _
      refine XS.iloadN X125.here hx rfl (hb hby at_236) rfl ?_
      show Steps p.tables e below (T125.setTop (mkF m 237 #[.val (.int p1), .val (.ref b1), .val (.int (30 : Int32)), .unset] [(.int (30 : Int32))])) _
      refine XS.bipush X125.here hx rfl (hb hby at_237) ?_
      show Steps p.tables e below (T125.setTop (mkF m 239 #[.val (.int p1), .val (.ref b1), .val (.int (30 : Int32)), .unset] [(.int (28 : Int32)), (.int (30 : Int32))])) _
      refine XS.icmpYes X125.here hx rfl (pc0 := 239) (pc' := 247) rfl (hb hby at_239) rfl (feq (by decide : ¬ ((30 : Int32) = (28 : Int32)))).2 (by decide) (by decide) ?_
      show Steps p.tables e below (T125.setTop (mkF m 247 #[.val (.int p1), .val (.ref b1), .val (.int (30 : Int32)), .unset] [])) _
      refine XS.iloadN X125.here hx rfl (hb hby at_247) rfl ?_
      show Steps p.tables e below (T125.setTop (mkF m 248 #[.val (.int p1), .val (.ref b1), .val (.int (30 : Int32)), .unset] [(.int (30 : Int32))])) _
      refine XS.bipush X125.here hx rfl (hb hby at_248) ?_
      show Steps p.tables e below (T125.setTop (mkF m 250 #[.val (.int p1), .val (.ref b1), .val (.int (30 : Int32)), .unset] [(.int (30 : Int32)), (.int (30 : Int32))])) _
      refine XS.icmpNo X125.here hx rfl (hb hby at_250) rfl (teq (by decide : (30 : Int32) = (30 : Int32))).2 ?_
      show Steps p.tables e below (T125.setTop (mkF m 253 #[.val (.int p1), .val (.ref b1), .val (.int (30 : Int32)), .unset] [])) _
      refine XS.iconst X125.here hx rfl (hb hby at_253) ?_
      show Steps p.tables e below (T125.setTop (mkF m 254 #[.val (.int p1), .val (.ref b1), .val (.int (30 : Int32)), .unset] [(.int (0 : Int32))])) _
      refine XS.istoreN X125.here hx rfl (hb hby at_254) rfl (l' := #[.val (.int p1), .val (.ref b1), .val (.int (30 : Int32)), .val (.int (0 : Int32))]) rfl ?_
      show Steps p.tables e below (T125.setTop (mkF m 255 #[.val (.int p1), .val (.ref b1), .val (.int (30 : Int32)), .val (.int (0 : Int32))] [])) _
      refine XS.goto X125.here hx rfl (pc0 := 255) (pc' := 260) rfl (hb hby at_255) (by decide) (by decide) ?_
      show Steps p.tables e below (T125.setTop (mkF m 260 #[.val (.int p1), .val (.ref b1), .val (.int (30 : Int32)), .val (.int (0 : Int32))] [])) _
      refine XS.aloadN X125.here hx rfl (hb hby at_260) rfl rfl ?_
      show Steps p.tables e below (T125.setTop (mkF m 261 #[.val (.int p1), .val (.ref b1), .val (.int (30 : Int32)), .val (.int (0 : Int32))] [(.ref b1)])) _
      refine XS.iloadN X125.here hx rfl (hb hby at_261) rfl ?_
      show Steps p.tables e below (T125.setTop (mkF m 262 #[.val (.int p1), .val (.ref b1), .val (.int (30 : Int32)), .val (.int (0 : Int32))] [(.int (30 : Int32)), (.ref b1)])) _
      refine X125.aaload hx (j := (30 : Int32)) (v := (.ref w30)) (by rw [e125]; exact Ar277.1) (State.isArrayOf_alike hZ.alike Ar277.2.1) rfl Ar277.2.2 hin277 hat277 (g := (mkF m 262 #[.val (.int p1), .val (.ref b1), .val (.int (30 : Int32)), .val (.int (0 : Int32))] [(.int (30 : Int32)), (.ref b1)])) rfl rfl (hb hby at_262) _ ?_
      show Steps p.tables e below (T125.setTop (mkF m 263 #[.val (.int p1), .val (.ref b1), .val (.int (30 : Int32)), .val (.int (0 : Int32))] [(.ref w30)])) _
      refine st280.trans ?_
      show Steps p.tables e below (T280.setTop (mkF m 266 #[.val (.int p1), .val (.ref b1), .val (.int (30 : Int32)), .val (.int (0 : Int32))] [(.int (0 : Int32))])) _
      refine XS.iloadN X280.here hx rfl (hb hby at_266) rfl ?_
      show Steps p.tables e below (T280.setTop (mkF m 267 #[.val (.int p1), .val (.ref b1), .val (.int (30 : Int32)), .val (.int (0 : Int32))] [(.int (0 : Int32)), (.int (0 : Int32))])) _
      refine XS.icmpNo X280.here hx rfl (hb hby at_267) rfl (teq (by decide : (0 : Int32) = (0 : Int32))).2 ?_
      show Steps p.tables e below (T280.setTop (mkF m 270 #[.val (.int p1), .val (.ref b1), .val (.int (30 : Int32)), .val (.int (0 : Int32))] [])) _
      refine XS.iconst X280.here hx rfl (hb hby at_270) ?_
      show Steps p.tables e below (T280.setTop (mkF m 271 #[.val (.int p1), .val (.ref b1), .val (.int (30 : Int32)), .val (.int (0 : Int32))] [(.int (1 : Int32))])) _
      refine XS.goto X280.here hx rfl (pc0 := 271) (pc' := 275) rfl (hb hby at_271) (by decide) (by decide) ?_
      exact k
    obtain ⟨fs, hrt, hrun, hended, hW, hsame⟩ := X280.leave (v := some (.int (1 : Int32))) (fun h => by rw [Bd.returns] at h; cases h)
    refine ⟨_, _, g281 _ ?_, hrun, hended, _, _, rfl, ?_, ⟨_, rfl⟩, hW, hsame.mono (by decide) (by decide)⟩
    · show Steps p.tables e below (T280.setTop (mkF m 275 #[.val (.int p1), .val (.ref b1), .val (.int (30 : Int32)), .val (.int (0 : Int32))] [(.int (1 : Int32))])) _
      exact retN X280 hx (t := .boolean) Bd.returns (by simp) (hb hby at_275) hrt
    · show own_Q_rm0 Z p1 w0 w1 w2 w3 w4 w5 w6 w7 w8 w9 w10 w11 w12 w13 w14 w15 w16 w17 w18 w19 w20 w21 w22 w23 w24 w25 w26 w27 w28 w29 w30 h0 n0 _ T280.heap _
      rw [e280]
      exact ⟨rfl, N280⟩
set_option maxRecDepth 65536 in
set_option maxHeartbeats 40000000 in
theorem comes_1 {Post : Tables → Env → Array Value → State → Outcome → State → Prop} (hpost : ∀ tb e args s v u, (limb_1_1.after args s (.returned v) u = true ∧ limb_1_2.after args s (.returned v) u = true ∧ True) → FrameEnd s (.returned v) u (Jvm.fieldLocs frame_1_writes args s ++ Jvm.arrayLocs frame_1_arrays args s ++ Jvm.staticLocs frame_1_statics s) 16 128 → Post tb e args s (.returned v) u) :
    ArmFor flags0 classFile x code maxLocals ret World_1 tables_1 room_1 Calls_1 rest_1 Pre_1 Post := by
  intro l hfl _ _ p e ha hc hk s m args below hf hA hF happ hP
  obtain ⟨hcalls, hrest, hpre⟩ := hP
  obtain ⟨-, -, -, hnamed, -, -, -, hat⟩ := (Spec.applies_iff hf).mp happ
  obtain ⟨hg, hn⟩ := and_e (Cond.before_iff.mp (show (Jvm.Cond.and given_1 narrow_1).before args s = true from hpre))
  obtain ⟨h0a, h0b⟩ := and_e hg
  obtain ⟨h1a, h1b⟩ := and_e hn
  obtain ⟨h2a, h2b⟩ := and_e h1b
  obtain ⟨h3a, h3b⟩ := and_e h2b
  obtain ⟨h4a, h4b⟩ := and_e h3b
  obtain ⟨h5a, h5b⟩ := and_e h4b
  obtain ⟨h6a, h6b⟩ := and_e h5b
  obtain ⟨h7a, h7b⟩ := and_e h6b
  obtain ⟨h8a, h8b⟩ := and_e h7b
  obtain ⟨h9a, h9b⟩ := and_e h8b
  obtain ⟨h10a, h10b⟩ := and_e h9b
  obtain ⟨h11a, h11b⟩ := and_e h10b
  obtain ⟨h12a, h12b⟩ := and_e h11b
  obtain ⟨h13a, h13b⟩ := and_e h12b
  obtain ⟨h14a, h14b⟩ := and_e h13b
  obtain ⟨h15a, h15b⟩ := and_e h14b
  obtain ⟨h16a, h16b⟩ := and_e h15b
  obtain ⟨h17a, h17b⟩ := and_e h16b
  obtain ⟨h18a, h18b⟩ := and_e h17b
  obtain ⟨h19a, h19b⟩ := and_e h18b
  obtain ⟨h20a, h20b⟩ := and_e h19b
  obtain ⟨h21a, h21b⟩ := and_e h20b
  obtain ⟨h22a, h22b⟩ := and_e h21b
  obtain ⟨h23a, h23b⟩ := and_e h22b
  obtain ⟨h24a, h24b⟩ := and_e h23b
  obtain ⟨h25a, h25b⟩ := and_e h24b
  obtain ⟨h26a, h26b⟩ := and_e h25b
  obtain ⟨h27a, h27b⟩ := and_e h26b
  obtain ⟨h28a, h28b⟩ := and_e h27b
  obtain ⟨h29a, h29b⟩ := and_e h28b
  obtain ⟨h30a, h30b⟩ := and_e h29b
  obtain ⟨h31a, h31b⟩ := and_e h30b
  obtain ⟨h32a, h32b⟩ := and_e h31b
  obtain ⟨h33a, h33b⟩ := and_e h32b
  obtain ⟨h34a, h34b⟩ := and_e h33b
  obtain ⟨h35a, h35b⟩ := and_e h34b
  obtain ⟨h36a, h36b⟩ := and_e h35b
  obtain ⟨h37a, h37b⟩ := and_e h36b
  obtain ⟨h38a, h38b⟩ := and_e h37b
  obtain ⟨h39a, h39b⟩ := and_e h38b
  obtain ⟨h40a, h40b⟩ := and_e h39b
  obtain ⟨h41a, h41b⟩ := and_e h40b
  obtain ⟨h42a, h42b⟩ := and_e h41b
  obtain ⟨h43a, h43b⟩ := and_e h42b
  obtain ⟨h44a, h44b⟩ := and_e h43b
  obtain ⟨h45a, h45b⟩ := and_e h44b
  obtain ⟨h46a, h46b⟩ := and_e h45b
  obtain ⟨h47a, h47b⟩ := and_e h46b
  obtain ⟨h48a, h48b⟩ := and_e h47b
  obtain ⟨h49a, h49b⟩ := and_e h48b
  obtain ⟨h50a, h50b⟩ := and_e h49b
  obtain ⟨h51a, h51b⟩ := and_e h50b
  obtain ⟨h52a, h52b⟩ := and_e h51b
  obtain ⟨h53a, h53b⟩ := and_e h52b
  obtain ⟨h54a, h54b⟩ := and_e h53b
  obtain ⟨h55a, h55b⟩ := and_e h54b
  obtain ⟨h56a, h56b⟩ := and_e h55b
  obtain ⟨h57a, h57b⟩ := and_e h56b
  obtain ⟨h58a, h58b⟩ := and_e h57b
  obtain ⟨h59a, h59b⟩ := and_e h58b
  obtain ⟨h60a, h60b⟩ := and_e h59b
  obtain ⟨h61a, h61b⟩ := and_e h60b
  obtain ⟨w0, rfl⟩ : ∃ w0 : Value, args = #[w0] := by
    have hs : args.size = 1 := by simpa [Cond.value, given_1] using h0a
    obtain ⟨L⟩ := args
    match L, hs with
    | [w0], _ => exact ⟨w0, rfl⟩
  have hw := fun d (hd : d ∈ tables_1) => atoms_spec (ws := Jvm.Cond.code x code maxLocals ret :: tables_1) hat d (List.mem_cons_of_mem _ hd)
  obtain ⟨i0, ei0⟩ := is_v h0b
  obtain rfl : w0 = (.int i0) := Option.some.inj ei0
  obtain ⟨w_PUSH, ew_PUSH⟩ := exa_v h1a
  have S_PUSH := Sta.start ew_PUSH (Or.inr ⟨(hw _ (List.mem_of_getElem? (i := 3) rfl)), (hw _ (List.mem_of_getElem? (i := 4) rfl))⟩)
  have Ex_PUSH : Exa s s.heap w_PUSH "com/example/chalkline/chalkline/runtime/Opcode" := Exa.start ew_PUSH h1a
  obtain ⟨w_PUSH_NULL, ew_PUSH_NULL⟩ := exa_v h2a
  have S_PUSH_NULL := Sta.start ew_PUSH_NULL (Or.inr ⟨(hw _ (List.mem_of_getElem? (i := 3) rfl)), (hw _ (List.mem_of_getElem? (i := 7) rfl))⟩)
  have Ex_PUSH_NULL : Exa s s.heap w_PUSH_NULL "com/example/chalkline/chalkline/runtime/Opcode" := Exa.start ew_PUSH_NULL h2a
  obtain ⟨w_LOAD, ew_LOAD⟩ := exa_v h3a
  have S_LOAD := Sta.start ew_LOAD (Or.inr ⟨(hw _ (List.mem_of_getElem? (i := 3) rfl)), (hw _ (List.mem_of_getElem? (i := 9) rfl))⟩)
  have Ex_LOAD : Exa s s.heap w_LOAD "com/example/chalkline/chalkline/runtime/Opcode" := Exa.start ew_LOAD h3a
  obtain ⟨w_STORE, ew_STORE⟩ := exa_v h4a
  have S_STORE := Sta.start ew_STORE (Or.inr ⟨(hw _ (List.mem_of_getElem? (i := 3) rfl)), (hw _ (List.mem_of_getElem? (i := 11) rfl))⟩)
  have Ex_STORE : Exa s s.heap w_STORE "com/example/chalkline/chalkline/runtime/Opcode" := Exa.start ew_STORE h4a
  obtain ⟨w_LOAD_LOCAL, ew_LOAD_LOCAL⟩ := exa_v h5a
  have S_LOAD_LOCAL := Sta.start ew_LOAD_LOCAL (Or.inr ⟨(hw _ (List.mem_of_getElem? (i := 3) rfl)), (hw _ (List.mem_of_getElem? (i := 13) rfl))⟩)
  have Ex_LOAD_LOCAL : Exa s s.heap w_LOAD_LOCAL "com/example/chalkline/chalkline/runtime/Opcode" := Exa.start ew_LOAD_LOCAL h5a
  obtain ⟨w_STORE_LOCAL, ew_STORE_LOCAL⟩ := exa_v h6a
  have S_STORE_LOCAL := Sta.start ew_STORE_LOCAL (Or.inr ⟨(hw _ (List.mem_of_getElem? (i := 3) rfl)), (hw _ (List.mem_of_getElem? (i := 15) rfl))⟩)
  have Ex_STORE_LOCAL : Exa s s.heap w_STORE_LOCAL "com/example/chalkline/chalkline/runtime/Opcode" := Exa.start ew_STORE_LOCAL h6a
  obtain ⟨w_POP, ew_POP⟩ := exa_v h7a
  have S_POP := Sta.start ew_POP (Or.inr ⟨(hw _ (List.mem_of_getElem? (i := 3) rfl)), (hw _ (List.mem_of_getElem? (i := 17) rfl))⟩)
  have Ex_POP : Exa s s.heap w_POP "com/example/chalkline/chalkline/runtime/Opcode" := Exa.start ew_POP h7a
  obtain ⟨w_ADD, ew_ADD⟩ := exa_v h8a
  have S_ADD := Sta.start ew_ADD (Or.inr ⟨(hw _ (List.mem_of_getElem? (i := 3) rfl)), (hw _ (List.mem_of_getElem? (i := 19) rfl))⟩)
  have Ex_ADD : Exa s s.heap w_ADD "com/example/chalkline/chalkline/runtime/Opcode" := Exa.start ew_ADD h8a
  obtain ⟨w_SUBTRACT, ew_SUBTRACT⟩ := exa_v h9a
  have S_SUBTRACT := Sta.start ew_SUBTRACT (Or.inr ⟨(hw _ (List.mem_of_getElem? (i := 3) rfl)), (hw _ (List.mem_of_getElem? (i := 21) rfl))⟩)
  have Ex_SUBTRACT : Exa s s.heap w_SUBTRACT "com/example/chalkline/chalkline/runtime/Opcode" := Exa.start ew_SUBTRACT h9a
  obtain ⟨w_MULTIPLY, ew_MULTIPLY⟩ := exa_v h10a
  have S_MULTIPLY := Sta.start ew_MULTIPLY (Or.inr ⟨(hw _ (List.mem_of_getElem? (i := 3) rfl)), (hw _ (List.mem_of_getElem? (i := 23) rfl))⟩)
  have Ex_MULTIPLY : Exa s s.heap w_MULTIPLY "com/example/chalkline/chalkline/runtime/Opcode" := Exa.start ew_MULTIPLY h10a
  obtain ⟨w_DIVIDE, ew_DIVIDE⟩ := exa_v h11a
  have S_DIVIDE := Sta.start ew_DIVIDE (Or.inr ⟨(hw _ (List.mem_of_getElem? (i := 3) rfl)), (hw _ (List.mem_of_getElem? (i := 25) rfl))⟩)
  have Ex_DIVIDE : Exa s s.heap w_DIVIDE "com/example/chalkline/chalkline/runtime/Opcode" := Exa.start ew_DIVIDE h11a
  obtain ⟨w_REMAINDER, ew_REMAINDER⟩ := exa_v h12a
  have S_REMAINDER := Sta.start ew_REMAINDER (Or.inr ⟨(hw _ (List.mem_of_getElem? (i := 3) rfl)), (hw _ (List.mem_of_getElem? (i := 27) rfl))⟩)
  have Ex_REMAINDER : Exa s s.heap w_REMAINDER "com/example/chalkline/chalkline/runtime/Opcode" := Exa.start ew_REMAINDER h12a
  obtain ⟨w_NEGATE, ew_NEGATE⟩ := exa_v h13a
  have S_NEGATE := Sta.start ew_NEGATE (Or.inr ⟨(hw _ (List.mem_of_getElem? (i := 3) rfl)), (hw _ (List.mem_of_getElem? (i := 29) rfl))⟩)
  have Ex_NEGATE : Exa s s.heap w_NEGATE "com/example/chalkline/chalkline/runtime/Opcode" := Exa.start ew_NEGATE h13a
  obtain ⟨w_LESS, ew_LESS⟩ := exa_v h14a
  have S_LESS := Sta.start ew_LESS (Or.inr ⟨(hw _ (List.mem_of_getElem? (i := 3) rfl)), (hw _ (List.mem_of_getElem? (i := 31) rfl))⟩)
  have Ex_LESS : Exa s s.heap w_LESS "com/example/chalkline/chalkline/runtime/Opcode" := Exa.start ew_LESS h14a
  obtain ⟨w_LESS_EQUAL, ew_LESS_EQUAL⟩ := exa_v h15a
  have S_LESS_EQUAL := Sta.start ew_LESS_EQUAL (Or.inr ⟨(hw _ (List.mem_of_getElem? (i := 3) rfl)), (hw _ (List.mem_of_getElem? (i := 33) rfl))⟩)
  have Ex_LESS_EQUAL : Exa s s.heap w_LESS_EQUAL "com/example/chalkline/chalkline/runtime/Opcode" := Exa.start ew_LESS_EQUAL h15a
  obtain ⟨w_GREATER, ew_GREATER⟩ := exa_v h16a
  have S_GREATER := Sta.start ew_GREATER (Or.inr ⟨(hw _ (List.mem_of_getElem? (i := 3) rfl)), (hw _ (List.mem_of_getElem? (i := 35) rfl))⟩)
  have Ex_GREATER : Exa s s.heap w_GREATER "com/example/chalkline/chalkline/runtime/Opcode" := Exa.start ew_GREATER h16a
  obtain ⟨w_GREATER_EQUAL, ew_GREATER_EQUAL⟩ := exa_v h17a
  have S_GREATER_EQUAL := Sta.start ew_GREATER_EQUAL (Or.inr ⟨(hw _ (List.mem_of_getElem? (i := 3) rfl)), (hw _ (List.mem_of_getElem? (i := 37) rfl))⟩)
  have Ex_GREATER_EQUAL : Exa s s.heap w_GREATER_EQUAL "com/example/chalkline/chalkline/runtime/Opcode" := Exa.start ew_GREATER_EQUAL h17a
  obtain ⟨w_EQUAL, ew_EQUAL⟩ := exa_v h18a
  have S_EQUAL := Sta.start ew_EQUAL (Or.inr ⟨(hw _ (List.mem_of_getElem? (i := 3) rfl)), (hw _ (List.mem_of_getElem? (i := 39) rfl))⟩)
  have Ex_EQUAL : Exa s s.heap w_EQUAL "com/example/chalkline/chalkline/runtime/Opcode" := Exa.start ew_EQUAL h18a
  obtain ⟨w_NOT_EQUAL, ew_NOT_EQUAL⟩ := exa_v h19a
  have S_NOT_EQUAL := Sta.start ew_NOT_EQUAL (Or.inr ⟨(hw _ (List.mem_of_getElem? (i := 3) rfl)), (hw _ (List.mem_of_getElem? (i := 41) rfl))⟩)
  have Ex_NOT_EQUAL : Exa s s.heap w_NOT_EQUAL "com/example/chalkline/chalkline/runtime/Opcode" := Exa.start ew_NOT_EQUAL h19a
  obtain ⟨w_NOT, ew_NOT⟩ := exa_v h20a
  have S_NOT := Sta.start ew_NOT (Or.inr ⟨(hw _ (List.mem_of_getElem? (i := 3) rfl)), (hw _ (List.mem_of_getElem? (i := 43) rfl))⟩)
  have Ex_NOT : Exa s s.heap w_NOT "com/example/chalkline/chalkline/runtime/Opcode" := Exa.start ew_NOT h20a
  obtain ⟨w_ARRAY, ew_ARRAY⟩ := exa_v h21a
  have S_ARRAY := Sta.start ew_ARRAY (Or.inr ⟨(hw _ (List.mem_of_getElem? (i := 3) rfl)), (hw _ (List.mem_of_getElem? (i := 45) rfl))⟩)
  have Ex_ARRAY : Exa s s.heap w_ARRAY "com/example/chalkline/chalkline/runtime/Opcode" := Exa.start ew_ARRAY h21a
  obtain ⟨w_GET_ELEMENT, ew_GET_ELEMENT⟩ := exa_v h22a
  have S_GET_ELEMENT := Sta.start ew_GET_ELEMENT (Or.inr ⟨(hw _ (List.mem_of_getElem? (i := 3) rfl)), (hw _ (List.mem_of_getElem? (i := 47) rfl))⟩)
  have Ex_GET_ELEMENT : Exa s s.heap w_GET_ELEMENT "com/example/chalkline/chalkline/runtime/Opcode" := Exa.start ew_GET_ELEMENT h22a
  obtain ⟨w_SET_ELEMENT, ew_SET_ELEMENT⟩ := exa_v h23a
  have S_SET_ELEMENT := Sta.start ew_SET_ELEMENT (Or.inr ⟨(hw _ (List.mem_of_getElem? (i := 3) rfl)), (hw _ (List.mem_of_getElem? (i := 49) rfl))⟩)
  have Ex_SET_ELEMENT : Exa s s.heap w_SET_ELEMENT "com/example/chalkline/chalkline/runtime/Opcode" := Exa.start ew_SET_ELEMENT h23a
  obtain ⟨w_JUMP, ew_JUMP⟩ := exa_v h24a
  have S_JUMP := Sta.start ew_JUMP (Or.inr ⟨(hw _ (List.mem_of_getElem? (i := 3) rfl)), (hw _ (List.mem_of_getElem? (i := 51) rfl))⟩)
  have Ex_JUMP : Exa s s.heap w_JUMP "com/example/chalkline/chalkline/runtime/Opcode" := Exa.start ew_JUMP h24a
  obtain ⟨w_JUMP_IF_FALSE, ew_JUMP_IF_FALSE⟩ := exa_v h25a
  have S_JUMP_IF_FALSE := Sta.start ew_JUMP_IF_FALSE (Or.inr ⟨(hw _ (List.mem_of_getElem? (i := 3) rfl)), (hw _ (List.mem_of_getElem? (i := 53) rfl))⟩)
  have Ex_JUMP_IF_FALSE : Exa s s.heap w_JUMP_IF_FALSE "com/example/chalkline/chalkline/runtime/Opcode" := Exa.start ew_JUMP_IF_FALSE h25a
  obtain ⟨w_JUMP_IF_TRUE, ew_JUMP_IF_TRUE⟩ := exa_v h26a
  have S_JUMP_IF_TRUE := Sta.start ew_JUMP_IF_TRUE (Or.inr ⟨(hw _ (List.mem_of_getElem? (i := 3) rfl)), (hw _ (List.mem_of_getElem? (i := 55) rfl))⟩)
  have Ex_JUMP_IF_TRUE : Exa s s.heap w_JUMP_IF_TRUE "com/example/chalkline/chalkline/runtime/Opcode" := Exa.start ew_JUMP_IF_TRUE h26a
  obtain ⟨w_FUNCTION, ew_FUNCTION⟩ := exa_v h27a
  have S_FUNCTION := Sta.start ew_FUNCTION (Or.inr ⟨(hw _ (List.mem_of_getElem? (i := 3) rfl)), (hw _ (List.mem_of_getElem? (i := 57) rfl))⟩)
  have Ex_FUNCTION : Exa s s.heap w_FUNCTION "com/example/chalkline/chalkline/runtime/Opcode" := Exa.start ew_FUNCTION h27a
  obtain ⟨w_CALL, ew_CALL⟩ := exa_v h28a
  have S_CALL := Sta.start ew_CALL (Or.inr ⟨(hw _ (List.mem_of_getElem? (i := 3) rfl)), (hw _ (List.mem_of_getElem? (i := 59) rfl))⟩)
  have Ex_CALL : Exa s s.heap w_CALL "com/example/chalkline/chalkline/runtime/Opcode" := Exa.start ew_CALL h28a
  obtain ⟨w_RETURN, ew_RETURN⟩ := exa_v h29a
  have S_RETURN := Sta.start ew_RETURN (Or.inr ⟨(hw _ (List.mem_of_getElem? (i := 3) rfl)), (hw _ (List.mem_of_getElem? (i := 61) rfl))⟩)
  have Ex_RETURN : Exa s s.heap w_RETURN "com/example/chalkline/chalkline/runtime/Opcode" := Exa.start ew_RETURN h29a
  obtain ⟨w_PRINT, ew_PRINT⟩ := exa_v h30a
  have S_PRINT := Sta.start ew_PRINT (Or.inr ⟨(hw _ (List.mem_of_getElem? (i := 3) rfl)), (hw _ (List.mem_of_getElem? (i := 63) rfl))⟩)
  have Ex_PRINT : Exa s s.heap w_PRINT "com/example/chalkline/chalkline/runtime/Opcode" := Exa.start ew_PRINT h30a
  obtain ⟨w_HALT, ew_HALT⟩ := exa_v h31a
  have S_HALT := Sta.start ew_HALT (Or.inr ⟨(hw _ (List.mem_of_getElem? (i := 3) rfl)), (hw _ (List.mem_of_getElem? (i := 65) rfl))⟩)
  have Ex_HALT : Exa s s.heap w_HALT "com/example/chalkline/chalkline/runtime/Opcode" := Exa.start ew_HALT h31a
  have Fo_PUSH : Fld s s.heap w_PUSH "java/lang/Enum" "ordinal" "I" (.int (0 : Int32)) := Fld.start ((fld_at ew_PUSH).symm.trans (own_eqI h32a))
  have Fo_JUMP : Fld s s.heap w_JUMP "java/lang/Enum" "ordinal" "I" (.int (23 : Int32)) := Fld.start ((fld_at ew_JUMP).symm.trans (own_eqI h33a))
  have Fo_RETURN : Fld s s.heap w_RETURN "java/lang/Enum" "ordinal" "I" (.int (28 : Int32)) := Fld.start ((fld_at ew_RETURN).symm.trans (own_eqI h34a))
  have Fo_HALT : Fld s s.heap w_HALT "java/lang/Enum" "ordinal" "I" (.int (30 : Int32)) := Fld.start ((fld_at ew_HALT).symm.trans (own_eqI h35a))
  have Fo_STORE : Fld s s.heap w_STORE "java/lang/Enum" "ordinal" "I" (.int (3 : Int32)) := Fld.start ((fld_at ew_STORE).symm.trans (own_eqI h36a))
  have Fo_EQUAL : Fld s s.heap w_EQUAL "java/lang/Enum" "ordinal" "I" (.int (17 : Int32)) := Fld.start ((fld_at ew_EQUAL).symm.trans (own_eqI h37a))
  have Fo_SET_ELEMENT : Fld s s.heap w_SET_ELEMENT "java/lang/Enum" "ordinal" "I" (.int (22 : Int32)) := Fld.start ((fld_at ew_SET_ELEMENT).symm.trans (own_eqI h38a))
  have Fo_GREATER_EQUAL : Fld s s.heap w_GREATER_EQUAL "java/lang/Enum" "ordinal" "I" (.int (16 : Int32)) := Fld.start ((fld_at ew_GREATER_EQUAL).symm.trans (own_eqI h39a))
  have Fo_NEGATE : Fld s s.heap w_NEGATE "java/lang/Enum" "ordinal" "I" (.int (12 : Int32)) := Fld.start ((fld_at ew_NEGATE).symm.trans (own_eqI h40a))
  have Fo_ADD : Fld s s.heap w_ADD "java/lang/Enum" "ordinal" "I" (.int (7 : Int32)) := Fld.start ((fld_at ew_ADD).symm.trans (own_eqI h41a))
  have Fo_LOAD : Fld s s.heap w_LOAD "java/lang/Enum" "ordinal" "I" (.int (2 : Int32)) := Fld.start ((fld_at ew_LOAD).symm.trans (own_eqI h42a))
  have Fo_REMAINDER : Fld s s.heap w_REMAINDER "java/lang/Enum" "ordinal" "I" (.int (11 : Int32)) := Fld.start ((fld_at ew_REMAINDER).symm.trans (own_eqI h43a))
  have Fo_GREATER : Fld s s.heap w_GREATER "java/lang/Enum" "ordinal" "I" (.int (15 : Int32)) := Fld.start ((fld_at ew_GREATER).symm.trans (own_eqI h44a))
  have Fo_SUBTRACT : Fld s s.heap w_SUBTRACT "java/lang/Enum" "ordinal" "I" (.int (8 : Int32)) := Fld.start ((fld_at ew_SUBTRACT).symm.trans (own_eqI h45a))
  have Fo_PUSH_NULL : Fld s s.heap w_PUSH_NULL "java/lang/Enum" "ordinal" "I" (.int (1 : Int32)) := Fld.start ((fld_at ew_PUSH_NULL).symm.trans (own_eqI h46a))
  have Fo_FUNCTION : Fld s s.heap w_FUNCTION "java/lang/Enum" "ordinal" "I" (.int (26 : Int32)) := Fld.start ((fld_at ew_FUNCTION).symm.trans (own_eqI h47a))
  have Fo_JUMP_IF_TRUE : Fld s s.heap w_JUMP_IF_TRUE "java/lang/Enum" "ordinal" "I" (.int (25 : Int32)) := Fld.start ((fld_at ew_JUMP_IF_TRUE).symm.trans (own_eqI h48a))
  have Fo_NOT_EQUAL : Fld s s.heap w_NOT_EQUAL "java/lang/Enum" "ordinal" "I" (.int (18 : Int32)) := Fld.start ((fld_at ew_NOT_EQUAL).symm.trans (own_eqI h49a))
  have Fo_DIVIDE : Fld s s.heap w_DIVIDE "java/lang/Enum" "ordinal" "I" (.int (10 : Int32)) := Fld.start ((fld_at ew_DIVIDE).symm.trans (own_eqI h50a))
  have Fo_ARRAY : Fld s s.heap w_ARRAY "java/lang/Enum" "ordinal" "I" (.int (20 : Int32)) := Fld.start ((fld_at ew_ARRAY).symm.trans (own_eqI h51a))
  have Fo_NOT : Fld s s.heap w_NOT "java/lang/Enum" "ordinal" "I" (.int (19 : Int32)) := Fld.start ((fld_at ew_NOT).symm.trans (own_eqI h52a))
  have Fo_LESS : Fld s s.heap w_LESS "java/lang/Enum" "ordinal" "I" (.int (13 : Int32)) := Fld.start ((fld_at ew_LESS).symm.trans (own_eqI h53a))
  have Fo_CALL : Fld s s.heap w_CALL "java/lang/Enum" "ordinal" "I" (.int (27 : Int32)) := Fld.start ((fld_at ew_CALL).symm.trans (own_eqI h54a))
  have Fo_PRINT : Fld s s.heap w_PRINT "java/lang/Enum" "ordinal" "I" (.int (29 : Int32)) := Fld.start ((fld_at ew_PRINT).symm.trans (own_eqI h55a))
  have Fo_LESS_EQUAL : Fld s s.heap w_LESS_EQUAL "java/lang/Enum" "ordinal" "I" (.int (14 : Int32)) := Fld.start ((fld_at ew_LESS_EQUAL).symm.trans (own_eqI h56a))
  have Fo_POP : Fld s s.heap w_POP "java/lang/Enum" "ordinal" "I" (.int (6 : Int32)) := Fld.start ((fld_at ew_POP).symm.trans (own_eqI h57a))
  have Fo_MULTIPLY : Fld s s.heap w_MULTIPLY "java/lang/Enum" "ordinal" "I" (.int (9 : Int32)) := Fld.start ((fld_at ew_MULTIPLY).symm.trans (own_eqI h58a))
  have Fo_STORE_LOCAL : Fld s s.heap w_STORE_LOCAL "java/lang/Enum" "ordinal" "I" (.int (5 : Int32)) := Fld.start ((fld_at ew_STORE_LOCAL).symm.trans (own_eqI h59a))
  have Fo_JUMP_IF_FALSE : Fld s s.heap w_JUMP_IF_FALSE "java/lang/Enum" "ordinal" "I" (.int (24 : Int32)) := Fld.start ((fld_at ew_JUMP_IF_FALSE).symm.trans (own_eqI h60a))
  have Fo_LOAD_LOCAL : Fld s s.heap w_LOAD_LOCAL "java/lang/Enum" "ordinal" "I" (.int (4 : Int32)) := Fld.start ((fld_at ew_LOAD_LOCAL).symm.trans (own_eqI h61a))
  have Fo_GET_ELEMENT : Fld s s.heap w_GET_ELEMENT "java/lang/Enum" "ordinal" "I" (.int (21 : Int32)) := Fld.start ((fld_at ew_GET_ELEMENT).symm.trans (own_eqI h61b))
  obtain ⟨n, o, h1, h2, h3, _, L, rfl, ⟨rfl, N⟩, hq⟩ := rm0 l s _ hw tables_1 i0 w_PUSH w_PUSH_NULL w_LOAD w_STORE w_LOAD_LOCAL w_STORE_LOCAL w_POP w_ADD w_SUBTRACT w_MULTIPLY w_DIVIDE w_REMAINDER w_NEGATE w_LESS w_LESS_EQUAL w_GREATER w_GREATER_EQUAL w_EQUAL w_NOT_EQUAL w_NOT w_ARRAY w_GET_ELEMENT w_SET_ELEMENT w_JUMP w_JUMP_IF_FALSE w_JUMP_IF_TRUE w_FUNCTION w_CALL w_RETURN w_PRINT w_HALT s.heap s.heap.size (Old.start s) ⟨S_PUSH, S_PUSH_NULL, S_LOAD, S_STORE, S_LOAD_LOCAL, S_STORE_LOCAL, S_POP, S_ADD, S_SUBTRACT, S_MULTIPLY, S_DIVIDE, S_REMAINDER, S_NEGATE, S_LESS, S_LESS_EQUAL, S_GREATER, S_GREATER_EQUAL, S_EQUAL, S_NOT_EQUAL, S_NOT, S_ARRAY, S_GET_ELEMENT, S_SET_ELEMENT, S_JUMP, S_JUMP_IF_FALSE, S_JUMP_IF_TRUE, S_FUNCTION, S_CALL, S_RETURN, S_PRINT, S_HALT, Ex_PUSH, Ex_PUSH_NULL, Ex_LOAD, Ex_STORE, Ex_LOAD_LOCAL, Ex_STORE_LOCAL, Ex_POP, Ex_ADD, Ex_SUBTRACT, Ex_MULTIPLY, Ex_DIVIDE, Ex_REMAINDER, Ex_NEGATE, Ex_LESS, Ex_LESS_EQUAL, Ex_GREATER, Ex_GREATER_EQUAL, Ex_EQUAL, Ex_NOT_EQUAL, Ex_NOT, Ex_ARRAY, Ex_GET_ELEMENT, Ex_SET_ELEMENT, Ex_JUMP, Ex_JUMP_IF_FALSE, Ex_JUMP_IF_TRUE, Ex_FUNCTION, Ex_CALL, Ex_RETURN, Ex_PRINT, Ex_HALT⟩ ⟨Fo_PUSH, Fo_PUSH_NULL, Fo_LOAD, Fo_STORE, Fo_LOAD_LOCAL, Fo_STORE_LOCAL, Fo_POP, Fo_ADD, Fo_SUBTRACT, Fo_MULTIPLY, Fo_DIVIDE, Fo_REMAINDER, Fo_NEGATE, Fo_LESS, Fo_LESS_EQUAL, Fo_GREATER, Fo_GREATER_EQUAL, Fo_EQUAL, Fo_NOT_EQUAL, Fo_NOT, Fo_ARRAY, Fo_GET_ELEMENT, Fo_SET_ELEMENT, Fo_JUMP, Fo_JUMP_IF_FALSE, Fo_JUMP_IF_TRUE, Fo_FUNCTION, Fo_CALL, Fo_RETURN, Fo_PRINT, Fo_HALT⟩ p e ha hc hk s m _ below hf ((Spec.applies_iff_loose hf).mp happ).1 ⟨rfl, State.Warmed39.refl s, rfl⟩ trivial
  refine ⟨n, _, h1, h2, h3, hpost _ _ _ _ _ _ ⟨Cond.after_iff.mpr rfl, Cond.after_iff.mpr (eq_i res_at (Term.int_eval (1)) rfl), trivial⟩ ⟨hq.1, hq.2.1, (hq.2.2.sift fun y hy => Or.inr (N y hy)).mono (by decide) (by decide)⟩⟩
theorem main_1_1 : Claimed_1_1 := comes_1 fun _ _ _ _ _ _ h hF => ⟨h.1, hF⟩
theorem main_1_2 : Claimed_1_2 := comes_1 fun _ _ _ _ _ _ h hF => ⟨h.2.1, hF⟩
end Jvm.Pilot.@@N@@
namespace Jvm.Pilot.@@N@@
open Jvm Jvm.ClassFile Sem Op Lib Jvm.Free Jvm.Stand Jvm.Pilot.@@N@@.Jvm.D
/-! MADE BY PROGRAM (witnessworld.py) out of the Statement's table words and the real class files: 13 classes; the members and pool entries that the words name. The judged class is class 1, her method 1. -/
namespace start1
open Jvm.ClassFile
def u (s : String) : CpInfo := .utf8 (stringToUtf16 s)
/-- a pool by its gaps: so many unusable entries, then the entry; so many at the end -/
def gap : Nat → List CpInfo → List CpInfo
  | 0, r => r
  | n + 1, r => .unusable :: gap n r
def poolList (es : List (Nat × CpInfo)) (last : Nat) : List CpInfo := es.foldr (fun e r => gap e.1 (e.2 :: r)) (gap last [])
def pool (es : List (Nat × CpInfo)) (last : Nat) : Array CpInfo := ⟨poolList es last⟩
def fileOf (pool : Array CpInfo) (this : Nat) (attrs : Array Attribute := #[]) (ms : Array MethodInfo := #[]) (fl : Nat := 33) (sup : Nat := 0) (ifs : Array Nat := #[]) (fds : Array FieldInfo := #[]) : ClassFile where
  minorVersion := 0
  majorVersion := 65
  constantPool := pool
  accessFlags := fl
  thisClass := this
  superClass := sup
  interfaces := ifs
  fields := fds
  methods := ms
  attributes := attrs
def plain (name : String) (sup : Option ClassId) : Class where
  name := name
  kind := .ordinary
  loader := none
  accessFlags := 33
  super := sup
  interfaces := #[]
  cf := none
  fields := #[]
  methods := #[]
  instanceTypes := #[]
  staticTypes := #[]
  resolved := #[]
  callSites := []
  init := .initialized
  statics := none
  mirror := none

def pool0 : Array CpInfo := pool [(5, u "<init>"), (0, u "()V"), (1, .class_ 10), (1, u "java/lang/Object")] 113

def k0m0 : Method := { name := "<init>", desc := "()V", sig := { parameters := [], returnType := none }, accessFlags := 1, code := none }
/-- java/lang/Object -/
def k0 : Class := { plain "java/lang/Object" none with
  accessFlags := 33
  interfaces := #[]
  cf := some (fileOf pool0 8 #[] #[{ accessFlags := 1, nameIndex := 5, descriptorIndex := 6, attributes := #[] }] 33 0 #[] #[])
  fields := #[]
  methods := #[k0m0]
  instanceTypes := #[]
  staticTypes := #[]
  resolved := Array.replicate 124 none
  statics := none }

def pool1 : Array CpInfo := pool [(2, .class_ 4), (1, u "java/lang/Object"), (0, u "<init>"), (0, u "()V"), (0, .class_ 8), (0, u "com/example/chalkline/chalkline/runtime/Opcode"), (0, .fieldref 7 10), (0, .nameAndType 11 12), (0, u "PUSH"), (0, u "Lcom/example/chalkline/chalkline/runtime/Opcode;"), (0, .fieldref 7 14), (0, .nameAndType 15 12), (0, u "PUSH_NULL"), (0, .fieldref 7 17), (0, .nameAndType 18 12), (0, u "LOAD"), (0, .fieldref 7 20), (0, .nameAndType 21 12), (0, u "STORE"), (0, .fieldref 7 23), (0, .nameAndType 24 12), (0, u "LOAD_LOCAL"), (0, .fieldref 7 26), (0, .nameAndType 27 12), (0, u "STORE_LOCAL"), (0, .fieldref 7 29), (0, .nameAndType 30 12), (0, u "POP"), (0, .fieldref 7 32), (0, .nameAndType 33 12), (0, u "ADD"), (0, .fieldref 7 35), (0, .nameAndType 36 12), (0, u "SUBTRACT"), (0, .fieldref 7 38), (0, .nameAndType 39 12), (0, u "MULTIPLY"), (0, .fieldref 7 41), (0, .nameAndType 42 12), (0, u "DIVIDE"), (0, .fieldref 7 44), (0, .nameAndType 45 12), (0, u "REMAINDER"), (0, .fieldref 7 47), (0, .nameAndType 48 12), (0, u "NEGATE"), (0, .fieldref 7 50), (0, .nameAndType 51 12), (0, u "LESS"), (0, .fieldref 7 53), (0, .nameAndType 54 12), (0, u "LESS_EQUAL"), (0, .fieldref 7 56), (0, .nameAndType 57 12), (0, u "GREATER"), (0, .fieldref 7 59), (0, .nameAndType 60 12), (0, u "GREATER_EQUAL"), (0, .fieldref 7 62), (0, .nameAndType 63 12), (0, u "EQUAL"), (0, .fieldref 7 65), (0, .nameAndType 66 12), (0, u "NOT_EQUAL"), (0, .fieldref 7 68), (0, .nameAndType 69 12), (0, u "NOT"), (0, .fieldref 7 71), (0, .nameAndType 72 12), (0, u "ARRAY"), (0, .fieldref 7 74), (0, .nameAndType 75 12), (0, u "GET_ELEMENT"), (0, .fieldref 7 77), (0, .nameAndType 78 12), (0, u "SET_ELEMENT"), (0, .fieldref 7 80), (0, .nameAndType 81 12), (0, u "JUMP"), (0, .fieldref 7 83), (0, .nameAndType 84 12), (0, u "JUMP_IF_FALSE"), (0, .fieldref 7 86), (0, .nameAndType 87 12), (0, u "JUMP_IF_TRUE"), (0, .fieldref 7 89), (0, .nameAndType 90 12), (0, u "FUNCTION"), (0, .fieldref 7 92), (0, .nameAndType 93 12), (0, u "CALL"), (0, .fieldref 7 95), (0, .nameAndType 96 12), (0, u "RETURN"), (0, .fieldref 7 98), (0, .nameAndType 99 12), (0, u "PRINT"), (0, .fieldref 7 101), (0, .nameAndType 102 12), (0, u "HALT"), (0, .integer 2147483647), (0, .methodref 7 105), (0, .nameAndType 106 107), (0, u "fallsThrough"), (0, u "()Z"), (0, .class_ 109), (0, u "com/example/chalkline/chalkline/runtime/OpcodeFallsThroughPinLaw"), (2, u "law"), (0, u "(I)Z")] 5

def k1m0 : Method := { name := "<init>", desc := "()V", sig := { parameters := [], returnType := none }, accessFlags := 1, code := none }
def k1c1 : Code := { maxStack := 4, maxLocals := 4, code := code, exceptionTable := #[], attributes := #[] }
def k1m1 : Method := { name := "law", desc := "(I)Z", sig := { parameters := [.int], returnType := some .boolean }, accessFlags := 9, code := some k1c1 }
/-- com/example/chalkline/chalkline/runtime/OpcodeFallsThroughPinLaw -/
def k1 : Class := { plain "com/example/chalkline/chalkline/runtime/OpcodeFallsThroughPinLaw" (some 0) with
  accessFlags := 49
  interfaces := #[]
  cf := some (fileOf pool1 108 #[] #[{ accessFlags := 1, nameIndex := 5, descriptorIndex := 6, attributes := #[] }, { accessFlags := 9, nameIndex := 112, descriptorIndex := 113, attributes := #[] }] 49 2 #[] #[])
  fields := #[]
  methods := #[k1m0, k1m1]
  instanceTypes := #[]
  staticTypes := #[]
  resolved := Array.replicate 119 none
  statics := none }

def pool2 : Array CpInfo := pool [(1, .class_ 2), (0, u "java/lang/constant/Constable"), (0, .class_ 4), (0, u "java/lang/Object")] 6

/-- java/lang/constant/Constable -/
def k2 : Class := { plain "java/lang/constant/Constable" (some 0) with
  accessFlags := 1537
  interfaces := #[]
  cf := some (fileOf pool2 1 #[] #[] 1537 3 #[] #[])
  fields := #[]
  methods := #[]
  instanceTypes := #[]
  staticTypes := #[]
  resolved := Array.replicate 11 none
  statics := none }

def pool3 : Array CpInfo := pool [(1, .class_ 2), (0, u "java/lang/Comparable"), (0, .class_ 4), (0, u "java/lang/Object")] 7

/-- java/lang/Comparable -/
def k3 : Class := { plain "java/lang/Comparable" (some 0) with
  accessFlags := 1537
  interfaces := #[]
  cf := some (fileOf pool3 1 #[] #[] 1537 3 #[] #[])
  fields := #[]
  methods := #[]
  instanceTypes := #[]
  staticTypes := #[]
  resolved := Array.replicate 12 none
  statics := none }

def pool4 : Array CpInfo := pool [(1, .class_ 2), (0, u "java/io/Serializable"), (0, .class_ 4), (0, u "java/lang/Object")] 2

/-- java/io/Serializable -/
def k4 : Class := { plain "java/io/Serializable" (some 0) with
  accessFlags := 1537
  interfaces := #[]
  cf := some (fileOf pool4 1 #[] #[] 1537 3 #[] #[])
  fields := #[]
  methods := #[]
  instanceTypes := #[]
  staticTypes := #[]
  resolved := Array.replicate 7 none
  statics := none }

def pool5 : Array CpInfo := pool [(2, .class_ 4), (1, u "java/lang/Enum"), (0, u "name"), (0, u "Ljava/lang/String;"), (2, u "ordinal"), (0, u "I"), (1, .class_ 14), (1, u "java/lang/Object"), (4, u "hash"), (86, .class_ 108), (1, u "java/lang/Enum$EnumDesc"), (2, .class_ 112), (0, u "java/lang/constant/Constable"), (0, .class_ 114), (0, u "java/lang/Comparable"), (0, .class_ 116), (0, u "java/io/Serializable")] 87

/-- java/lang/Enum -/
def k5 : Class := { plain "java/lang/Enum" (some 0) with
  accessFlags := 1057
  interfaces := #[2, 3, 4]
  cf := some (fileOf pool5 2 #[.nestMembers #[106]] #[] 1057 12 #[111, 113, 115] #[{ accessFlags := 18, nameIndex := 5, descriptorIndex := 6, attributes := #[] }, { accessFlags := 18, nameIndex := 9, descriptorIndex := 10, attributes := #[] }, { accessFlags := 2, nameIndex := 19, descriptorIndex := 10, attributes := #[] }])
  fields := #[{ name := "name", type := (.object "java/lang/String"), accessFlags := 18, slot := 0, constantValue := 0 }, { name := "ordinal", type := .int, accessFlags := 18, slot := 1, constantValue := 0 }, { name := "hash", type := .int, accessFlags := 2, slot := 2, constantValue := 0 }]
  methods := #[]
  instanceTypes := #[(.object "java/lang/String"), .int, .int]
  staticTypes := #[]
  resolved := Array.replicate 204 none
  statics := none }

def pool6 : Array CpInfo := pool [(1, .class_ 2), (0, u "com/example/chalkline/chalkline/runtime/Opcode"), (2, u "PUSH"), (0, u "Lcom/example/chalkline/chalkline/runtime/Opcode;"), (2, u "PUSH_NULL"), (2, u "LOAD"), (2, u "STORE"), (2, u "LOAD_LOCAL"), (2, u "STORE_LOCAL"), (2, u "POP"), (2, u "ADD"), (2, u "SUBTRACT"), (2, u "MULTIPLY"), (2, u "DIVIDE"), (2, u "REMAINDER"), (2, u "NEGATE"), (2, u "LESS"), (2, u "LESS_EQUAL"), (2, u "GREATER"), (2, u "GREATER_EQUAL"), (2, u "EQUAL"), (2, u "NOT_EQUAL"), (2, u "NOT"), (2, u "ARRAY"), (2, u "GET_ELEMENT"), (2, u "SET_ELEMENT"), (0, .fieldref 1 74), (0, .nameAndType 75 6), (0, u "JUMP"), (2, u "JUMP_IF_FALSE"), (2, u "JUMP_IF_TRUE"), (2, u "FUNCTION"), (2, u "CALL"), (0, .fieldref 1 89), (0, .nameAndType 90 6), (0, u "RETURN"), (2, u "PRINT"), (0, .fieldref 1 95), (0, .nameAndType 96 6), (0, u "HALT"), (2, u "$VALUES"), (0, u "[Lcom/example/chalkline/chalkline/runtime/Opcode;"), (6, .class_ 109), (1, u "java/lang/Enum"), (8, u "mnemonic"), (0, u "Ljava/lang/String;"), (2, u "operand"), (0, u "Lcom/example/chalkline/chalkline/runtime/Opcode$Operand;"), (2, u "stackInputs"), (0, u "I"), (2, u "stackOutputs"), (2, u "BY_MNEMONIC"), (0, u "Ljava/util/Map;"), (16, .class_ 153), (1, u "com/example/chalkline/chalkline/runtime/Opcode$Operand"), (148, u "fallsThrough"), (0, u "()Z")] 9

def k6c0 : Code := { maxStack := 2, maxLocals := 1, code := prog_69_method_9_code, exceptionTable := #[], attributes := #[] }
def k6m0 : Method := { name := "fallsThrough", desc := "()Z", sig := { parameters := [], returnType := some .boolean }, accessFlags := 1, code := some k6c0 }
/-- com/example/chalkline/chalkline/runtime/Opcode -/
def k6 : Class := { plain "com/example/chalkline/chalkline/runtime/Opcode" (some 5) with
  accessFlags := 16433
  interfaces := #[]
  cf := some (fileOf pool6 1 #[.nestMembers #[151]] #[{ accessFlags := 1, nameIndex := 302, descriptorIndex := 303, attributes := #[] }] 16433 107 #[] #[{ accessFlags := 16409, nameIndex := 5, descriptorIndex := 6, attributes := #[] }, { accessFlags := 16409, nameIndex := 9, descriptorIndex := 6, attributes := #[] }, { accessFlags := 16409, nameIndex := 12, descriptorIndex := 6, attributes := #[] }, { accessFlags := 16409, nameIndex := 15, descriptorIndex := 6, attributes := #[] }, { accessFlags := 16409, nameIndex := 18, descriptorIndex := 6, attributes := #[] }, { accessFlags := 16409, nameIndex := 21, descriptorIndex := 6, attributes := #[] }, { accessFlags := 16409, nameIndex := 24, descriptorIndex := 6, attributes := #[] }, { accessFlags := 16409, nameIndex := 27, descriptorIndex := 6, attributes := #[] }, { accessFlags := 16409, nameIndex := 30, descriptorIndex := 6, attributes := #[] }, { accessFlags := 16409, nameIndex := 33, descriptorIndex := 6, attributes := #[] }, { accessFlags := 16409, nameIndex := 36, descriptorIndex := 6, attributes := #[] }, { accessFlags := 16409, nameIndex := 39, descriptorIndex := 6, attributes := #[] }, { accessFlags := 16409, nameIndex := 42, descriptorIndex := 6, attributes := #[] }, { accessFlags := 16409, nameIndex := 45, descriptorIndex := 6, attributes := #[] }, { accessFlags := 16409, nameIndex := 48, descriptorIndex := 6, attributes := #[] }, { accessFlags := 16409, nameIndex := 51, descriptorIndex := 6, attributes := #[] }, { accessFlags := 16409, nameIndex := 54, descriptorIndex := 6, attributes := #[] }, { accessFlags := 16409, nameIndex := 57, descriptorIndex := 6, attributes := #[] }, { accessFlags := 16409, nameIndex := 60, descriptorIndex := 6, attributes := #[] }, { accessFlags := 16409, nameIndex := 63, descriptorIndex := 6, attributes := #[] }, { accessFlags := 16409, nameIndex := 66, descriptorIndex := 6, attributes := #[] }, { accessFlags := 16409, nameIndex := 69, descriptorIndex := 6, attributes := #[] }, { accessFlags := 16409, nameIndex := 72, descriptorIndex := 6, attributes := #[] }, { accessFlags := 16409, nameIndex := 75, descriptorIndex := 6, attributes := #[] }, { accessFlags := 16409, nameIndex := 78, descriptorIndex := 6, attributes := #[] }, { accessFlags := 16409, nameIndex := 81, descriptorIndex := 6, attributes := #[] }, { accessFlags := 16409, nameIndex := 84, descriptorIndex := 6, attributes := #[] }, { accessFlags := 16409, nameIndex := 87, descriptorIndex := 6, attributes := #[] }, { accessFlags := 16409, nameIndex := 90, descriptorIndex := 6, attributes := #[] }, { accessFlags := 16409, nameIndex := 93, descriptorIndex := 6, attributes := #[] }, { accessFlags := 16409, nameIndex := 96, descriptorIndex := 6, attributes := #[] }, { accessFlags := 26, nameIndex := 133, descriptorIndex := 134, attributes := #[] }, { accessFlags := 18, nameIndex := 118, descriptorIndex := 119, attributes := #[] }, { accessFlags := 18, nameIndex := 122, descriptorIndex := 123, attributes := #[] }, { accessFlags := 18, nameIndex := 126, descriptorIndex := 127, attributes := #[] }, { accessFlags := 18, nameIndex := 130, descriptorIndex := 127, attributes := #[] }, { accessFlags := 4122, nameIndex := 99, descriptorIndex := 100, attributes := #[] }])
  fields := #[{ name := "PUSH", type := (.object "com/example/chalkline/chalkline/runtime/Opcode"), accessFlags := 16409, slot := 0, constantValue := 0 }, { name := "PUSH_NULL", type := (.object "com/example/chalkline/chalkline/runtime/Opcode"), accessFlags := 16409, slot := 1, constantValue := 0 }, { name := "LOAD", type := (.object "com/example/chalkline/chalkline/runtime/Opcode"), accessFlags := 16409, slot := 2, constantValue := 0 }, { name := "STORE", type := (.object "com/example/chalkline/chalkline/runtime/Opcode"), accessFlags := 16409, slot := 3, constantValue := 0 }, { name := "LOAD_LOCAL", type := (.object "com/example/chalkline/chalkline/runtime/Opcode"), accessFlags := 16409, slot := 4, constantValue := 0 }, { name := "STORE_LOCAL", type := (.object "com/example/chalkline/chalkline/runtime/Opcode"), accessFlags := 16409, slot := 5, constantValue := 0 }, { name := "POP", type := (.object "com/example/chalkline/chalkline/runtime/Opcode"), accessFlags := 16409, slot := 6, constantValue := 0 }, { name := "ADD", type := (.object "com/example/chalkline/chalkline/runtime/Opcode"), accessFlags := 16409, slot := 7, constantValue := 0 }, { name := "SUBTRACT", type := (.object "com/example/chalkline/chalkline/runtime/Opcode"), accessFlags := 16409, slot := 8, constantValue := 0 }, { name := "MULTIPLY", type := (.object "com/example/chalkline/chalkline/runtime/Opcode"), accessFlags := 16409, slot := 9, constantValue := 0 }, { name := "DIVIDE", type := (.object "com/example/chalkline/chalkline/runtime/Opcode"), accessFlags := 16409, slot := 10, constantValue := 0 }, { name := "REMAINDER", type := (.object "com/example/chalkline/chalkline/runtime/Opcode"), accessFlags := 16409, slot := 11, constantValue := 0 }, { name := "NEGATE", type := (.object "com/example/chalkline/chalkline/runtime/Opcode"), accessFlags := 16409, slot := 12, constantValue := 0 }, { name := "LESS", type := (.object "com/example/chalkline/chalkline/runtime/Opcode"), accessFlags := 16409, slot := 13, constantValue := 0 }, { name := "LESS_EQUAL", type := (.object "com/example/chalkline/chalkline/runtime/Opcode"), accessFlags := 16409, slot := 14, constantValue := 0 }, { name := "GREATER", type := (.object "com/example/chalkline/chalkline/runtime/Opcode"), accessFlags := 16409, slot := 15, constantValue := 0 }, { name := "GREATER_EQUAL", type := (.object "com/example/chalkline/chalkline/runtime/Opcode"), accessFlags := 16409, slot := 16, constantValue := 0 }, { name := "EQUAL", type := (.object "com/example/chalkline/chalkline/runtime/Opcode"), accessFlags := 16409, slot := 17, constantValue := 0 }, { name := "NOT_EQUAL", type := (.object "com/example/chalkline/chalkline/runtime/Opcode"), accessFlags := 16409, slot := 18, constantValue := 0 }, { name := "NOT", type := (.object "com/example/chalkline/chalkline/runtime/Opcode"), accessFlags := 16409, slot := 19, constantValue := 0 }, { name := "ARRAY", type := (.object "com/example/chalkline/chalkline/runtime/Opcode"), accessFlags := 16409, slot := 20, constantValue := 0 }, { name := "GET_ELEMENT", type := (.object "com/example/chalkline/chalkline/runtime/Opcode"), accessFlags := 16409, slot := 21, constantValue := 0 }, { name := "SET_ELEMENT", type := (.object "com/example/chalkline/chalkline/runtime/Opcode"), accessFlags := 16409, slot := 22, constantValue := 0 }, { name := "JUMP", type := (.object "com/example/chalkline/chalkline/runtime/Opcode"), accessFlags := 16409, slot := 23, constantValue := 0 }, { name := "JUMP_IF_FALSE", type := (.object "com/example/chalkline/chalkline/runtime/Opcode"), accessFlags := 16409, slot := 24, constantValue := 0 }, { name := "JUMP_IF_TRUE", type := (.object "com/example/chalkline/chalkline/runtime/Opcode"), accessFlags := 16409, slot := 25, constantValue := 0 }, { name := "FUNCTION", type := (.object "com/example/chalkline/chalkline/runtime/Opcode"), accessFlags := 16409, slot := 26, constantValue := 0 }, { name := "CALL", type := (.object "com/example/chalkline/chalkline/runtime/Opcode"), accessFlags := 16409, slot := 27, constantValue := 0 }, { name := "RETURN", type := (.object "com/example/chalkline/chalkline/runtime/Opcode"), accessFlags := 16409, slot := 28, constantValue := 0 }, { name := "PRINT", type := (.object "com/example/chalkline/chalkline/runtime/Opcode"), accessFlags := 16409, slot := 29, constantValue := 0 }, { name := "HALT", type := (.object "com/example/chalkline/chalkline/runtime/Opcode"), accessFlags := 16409, slot := 30, constantValue := 0 }, { name := "BY_MNEMONIC", type := (.object "java/util/Map"), accessFlags := 26, slot := 31, constantValue := 0 }, { name := "mnemonic", type := (.object "java/lang/String"), accessFlags := 18, slot := 3, constantValue := 0 }, { name := "operand", type := (.object "com/example/chalkline/chalkline/runtime/Opcode$Operand"), accessFlags := 18, slot := 4, constantValue := 0 }, { name := "stackInputs", type := .int, accessFlags := 18, slot := 5, constantValue := 0 }, { name := "stackOutputs", type := .int, accessFlags := 18, slot := 6, constantValue := 0 }, { name := "$VALUES", type := (.array (.object "com/example/chalkline/chalkline/runtime/Opcode")), accessFlags := 4122, slot := 32, constantValue := 0 }]
  methods := #[k6m0]
  instanceTypes := #[(.object "java/lang/String"), .int, .int, (.object "java/lang/String"), (.object "com/example/chalkline/chalkline/runtime/Opcode$Operand"), .int, .int]
  staticTypes := #[(.object "com/example/chalkline/chalkline/runtime/Opcode"), (.object "com/example/chalkline/chalkline/runtime/Opcode"), (.object "com/example/chalkline/chalkline/runtime/Opcode"), (.object "com/example/chalkline/chalkline/runtime/Opcode"), (.object "com/example/chalkline/chalkline/runtime/Opcode"), (.object "com/example/chalkline/chalkline/runtime/Opcode"), (.object "com/example/chalkline/chalkline/runtime/Opcode"), (.object "com/example/chalkline/chalkline/runtime/Opcode"), (.object "com/example/chalkline/chalkline/runtime/Opcode"), (.object "com/example/chalkline/chalkline/runtime/Opcode"), (.object "com/example/chalkline/chalkline/runtime/Opcode"), (.object "com/example/chalkline/chalkline/runtime/Opcode"), (.object "com/example/chalkline/chalkline/runtime/Opcode"), (.object "com/example/chalkline/chalkline/runtime/Opcode"), (.object "com/example/chalkline/chalkline/runtime/Opcode"), (.object "com/example/chalkline/chalkline/runtime/Opcode"), (.object "com/example/chalkline/chalkline/runtime/Opcode"), (.object "com/example/chalkline/chalkline/runtime/Opcode"), (.object "com/example/chalkline/chalkline/runtime/Opcode"), (.object "com/example/chalkline/chalkline/runtime/Opcode"), (.object "com/example/chalkline/chalkline/runtime/Opcode"), (.object "com/example/chalkline/chalkline/runtime/Opcode"), (.object "com/example/chalkline/chalkline/runtime/Opcode"), (.object "com/example/chalkline/chalkline/runtime/Opcode"), (.object "com/example/chalkline/chalkline/runtime/Opcode"), (.object "com/example/chalkline/chalkline/runtime/Opcode"), (.object "com/example/chalkline/chalkline/runtime/Opcode"), (.object "com/example/chalkline/chalkline/runtime/Opcode"), (.object "com/example/chalkline/chalkline/runtime/Opcode"), (.object "com/example/chalkline/chalkline/runtime/Opcode"), (.object "com/example/chalkline/chalkline/runtime/Opcode"), (.object "java/util/Map"), (.array (.object "com/example/chalkline/chalkline/runtime/Opcode"))]
  resolved := Array.replicate 313 none
  statics := some 0 }

def pool7 : Array CpInfo := pool [(1, u "java/lang/Cloneable"), (0, .class_ 1), (0, u "java/lang/Object"), (0, .class_ 3)] 3

/-- java/lang/Cloneable -/
def k7 : Class := { plain "java/lang/Cloneable" (some 0) with
  accessFlags := 1537
  interfaces := #[]
  cf := some (fileOf pool7 2 #[] #[] 1537 4 #[] #[])
  fields := #[]
  methods := #[]
  instanceTypes := #[]
  staticTypes := #[]
  resolved := Array.replicate 8 none
  statics := none }

/-- the primitive byte -/
def k8 : Class := { plain "byte" none with kind := .primitive 'B', accessFlags := 0x411 }
/-- [B -/
def k9 : Class := { plain "[B" (some 0) with kind := .array 8 .byte, interfaces := #[7, 4], accessFlags := 1041 }

/-- the primitive int -/
def k10 : Class := { plain "int" none with kind := .primitive 'I', accessFlags := 0x411 }
/-- [I -/
def k11 : Class := { plain "[I" (some 0) with kind := .array 10 .int, interfaces := #[7, 4], accessFlags := 1041 }

/-- [Lcom/example/chalkline/chalkline/runtime/Opcode; -/
def k12 : Class := { plain "[Lcom/example/chalkline/chalkline/runtime/Opcode;" (some 0) with kind := .array 6 (.object "com/example/chalkline/chalkline/runtime/Opcode"), interfaces := #[7, 4], accessFlags := 1041 }

def heap : Heap := #[{ cls := 6, slots := #[.ref 1, .ref 2, .ref 3, .ref 4, .ref 5, .ref 6, .ref 7, .ref 8, .ref 9, .ref 10, .ref 11, .ref 12, .ref 13, .ref 14, .ref 15, .ref 16, .ref 17, .ref 18, .ref 19, .ref 20, .ref 21, .ref 22, .ref 23, .ref 24, .ref 25, .ref 26, .ref 27, .ref 28, .ref 29, .ref 30, .ref 31, .null, .null], vm := .statics 6 },
  { cls := 6, slots := #[.null, .int 0, .int 0, .null, .null, .int 0, .int 0], vm := .none },
  { cls := 6, slots := #[.null, .int 1, .int 0, .null, .null, .int 0, .int 0], vm := .none },
  { cls := 6, slots := #[.null, .int 2, .int 0, .null, .null, .int 0, .int 0], vm := .none },
  { cls := 6, slots := #[.null, .int 3, .int 0, .null, .null, .int 0, .int 0], vm := .none },
  { cls := 6, slots := #[.null, .int 4, .int 0, .null, .null, .int 0, .int 0], vm := .none },
  { cls := 6, slots := #[.null, .int 5, .int 0, .null, .null, .int 0, .int 0], vm := .none },
  { cls := 6, slots := #[.null, .int 6, .int 0, .null, .null, .int 0, .int 0], vm := .none },
  { cls := 6, slots := #[.null, .int 7, .int 0, .null, .null, .int 0, .int 0], vm := .none },
  { cls := 6, slots := #[.null, .int 8, .int 0, .null, .null, .int 0, .int 0], vm := .none },
  { cls := 6, slots := #[.null, .int 9, .int 0, .null, .null, .int 0, .int 0], vm := .none },
  { cls := 6, slots := #[.null, .int 10, .int 0, .null, .null, .int 0, .int 0], vm := .none },
  { cls := 6, slots := #[.null, .int 11, .int 0, .null, .null, .int 0, .int 0], vm := .none },
  { cls := 6, slots := #[.null, .int 12, .int 0, .null, .null, .int 0, .int 0], vm := .none },
  { cls := 6, slots := #[.null, .int 13, .int 0, .null, .null, .int 0, .int 0], vm := .none },
  { cls := 6, slots := #[.null, .int 14, .int 0, .null, .null, .int 0, .int 0], vm := .none },
  { cls := 6, slots := #[.null, .int 15, .int 0, .null, .null, .int 0, .int 0], vm := .none },
  { cls := 6, slots := #[.null, .int 16, .int 0, .null, .null, .int 0, .int 0], vm := .none },
  { cls := 6, slots := #[.null, .int 17, .int 0, .null, .null, .int 0, .int 0], vm := .none },
  { cls := 6, slots := #[.null, .int 18, .int 0, .null, .null, .int 0, .int 0], vm := .none },
  { cls := 6, slots := #[.null, .int 19, .int 0, .null, .null, .int 0, .int 0], vm := .none },
  { cls := 6, slots := #[.null, .int 20, .int 0, .null, .null, .int 0, .int 0], vm := .none },
  { cls := 6, slots := #[.null, .int 21, .int 0, .null, .null, .int 0, .int 0], vm := .none },
  { cls := 6, slots := #[.null, .int 22, .int 0, .null, .null, .int 0, .int 0], vm := .none },
  { cls := 6, slots := #[.null, .int 23, .int 0, .null, .null, .int 0, .int 0], vm := .none },
  { cls := 6, slots := #[.null, .int 24, .int 0, .null, .null, .int 0, .int 0], vm := .none },
  { cls := 6, slots := #[.null, .int 25, .int 0, .null, .null, .int 0, .int 0], vm := .none },
  { cls := 6, slots := #[.null, .int 26, .int 0, .null, .null, .int 0, .int 0], vm := .none },
  { cls := 6, slots := #[.null, .int 27, .int 0, .null, .null, .int 0, .int 0], vm := .none },
  { cls := 6, slots := #[.null, .int 28, .int 0, .null, .null, .int 0, .int 0], vm := .none },
  { cls := 6, slots := #[.null, .int 29, .int 0, .null, .null, .int 0, .int 0], vm := .none },
  { cls := 6, slots := #[.null, .int 30, .int 0, .null, .null, .int 0, .int 0], vm := .none }]
def classes : Array Class := #[k0, k1, k2, k3, k4, k5, k6, k7, k8, k9, k10, k11, k12]
def interned : List (Array UInt16 × Addr) := []
def slotsUsed : Nat := 250
def theMethod : MethodId := ⟨1, 1⟩
def args0 : Array Value := #[.int 5]
def aboutOver (below : List Frame) : State where
  vm := { classes := classes, interned := interned.toArray }
  heap := heap
  slotsUsed := slotsUsed
  threads := #[{ frames := .invoking theMethod args0 :: below }]
def below0 : List Frame := [.native { method := ⟨0, 0⟩, args := #[] }]
def about1 : State := aboutOver below0
def p0 : Program := .bare "" "" ""
def e0 : Env := launch0.env 0 0 0
theorem w_frames : about1.frames = Frame.invoking theMethod args0 :: below0 := rfl
set_option maxRecDepth 65536 in
theorem w_args : argsFit about1.vm theMethod args0 = true := by decide +kernel
set_option maxRecDepth 65536 in
theorem w_heap : heapFits about1 = true := by decide +kernel
set_option maxRecDepth 65536 in
theorem w_runnable : about1.curStatus? = some .runnable := by decide +kernel
set_option maxRecDepth 65536 in
theorem w_alone : about1.alone = true := by decide +kernel
set_option maxRecDepth 65536 in
theorem w_named : about1.methodNamed? x = some theMethod := by decide +kernel
set_option maxRecDepth 65536 in
theorem w_hears : about1.hears theMethod below0 = true := by decide +kernel
set_option maxRecDepth 65536 in
theorem w_ripe : about1.ripe theMethod args0 below0 = true := by decide +kernel
theorem w_running : about1.status = .running := rfl
set_option maxRecDepth 65536 in
theorem w_room : about1.hasRoom e0.platform room_1 = true :=
  launch0.hasRoom_least _ room_1 (by decide +kernel) (by decide +kernel) (by decide +kernel) (by decide +kernel) (by decide +kernel) (by decide +kernel)
theorem allAtoms_all (ts : List Jvm.Cond) (a : Array Jvm.Value) (st : Jvm.State) : (allAtoms ts).before a st = ts.all (fun c => c.before a st) := by
  induction ts with
  | nil => rfl
  | cons c t ih =>
    show (Jvm.Cond.and c (allAtoms t)).before a st = _
    rw [Jvm.Cond.before_and, ih, List.all_cons]
def words1 : List Jvm.Cond := Jvm.Cond.code x code maxLocals ret :: tables_1
/-- a 'code' word, met by the world's own term for the bytes: nothing is compared byte by byte -/
theorem code_word {y : MethodName} {bytes : ByteArray} {mx : Nat} {rt : Option FieldType} {a : Array Value} {s : State} {m : MethodId} {meth : Method} {c : Code} (h1 : s.methodNamed? y = some m) (h2 : s.vm.method? m = some meth) (h3 : meth.code = some c) (h4 : c.code = bytes)
    (h5 : (c.maxLocals == mx && c.exceptionTable.isEmpty && decide (c.maxStack ≤ mostOperands) && decide (meth.sig.returnType = rt) && !meth.locks && decide (parseMethodDescriptor y.desc = some meth.sig)) = true) : (Jvm.Cond.code y bytes mx rt).before a s = true := by
  simp only [Bool.and_eq_true, beq_iff_eq, Bool.not_eq_true', decide_eq_true_eq] at h5
  obtain ⟨⟨⟨⟨⟨g1, g2⟩, g3⟩, g4⟩, g5⟩, g6⟩ := h5
  simp [Cond.before, Cond.holds, Cond.value, h1, h2, h3, h4, g1, g2, g3, g4, g5, g6]
def isCode : Jvm.Cond → Bool
  | .code _ _ _ _ => true
  | _ => false
theorem all_split {L : List Jvm.Cond} {P : Jvm.Cond → Bool} (h1 : L.all (fun c => isCode c || P c) = true) (h2 : ∀ c ∈ L.filter isCode, P c = true) : L.all P = true := by
  refine List.all_eq_true.mpr fun c hc => ?_
  have h := List.all_eq_true.mp h1 c hc
  rcases Bool.eq_false_or_eq_true (isCode c) with hi | hi
  · exact h2 c (List.mem_filter.mpr ⟨hc, hi⟩)
  · simpa [hi] using h
set_option maxRecDepth 65536 in
theorem w_c0 : (Jvm.Cond.code x code maxLocals ret).before args0 about1 = true := code_word (m := ⟨1, 1⟩) (meth := k1m1) (c := k1c1) (by decide +kernel) rfl rfl rfl (by decide +kernel)
set_option maxRecDepth 65536 in
theorem w_c1 : (Jvm.Cond.code ({ cls := "com/example/chalkline/chalkline/runtime/Opcode", name := "fallsThrough", desc := "()Z" } : Jvm.MethodName) prog_69_method_9_code (1 : Nat) (Option.some Jvm.ClassFile.FieldType.boolean)).before args0 about1 = true := code_word (m := ⟨6, 0⟩) (meth := k6m0) (c := k6c0) (by decide +kernel) rfl rfl rfl (by decide +kernel)
def codes1 : List Jvm.Cond := [Jvm.Cond.code x code maxLocals ret, Jvm.Cond.code ({ cls := "com/example/chalkline/chalkline/runtime/Opcode", name := "fallsThrough", desc := "()Z" } : Jvm.MethodName) prog_69_method_9_code (1 : Nat) (Option.some Jvm.ClassFile.FieldType.boolean)]
set_option maxRecDepth 65536 in
theorem codes_eq : words1.filter isCode = codes1 := rfl
theorem w_codes : ∀ c ∈ words1.filter isCode, c.before args0 about1 = true := by
  rw [codes_eq]
  intro c hc
  simp only [codes1, List.mem_cons, List.not_mem_nil, or_false] at hc
  rcases hc with rfl | rfl
  · exact w_c0
  · exact w_c1
set_option maxRecDepth 65536 in
theorem w_t1 : (words1.take 24).all (fun c => isCode c || c.before args0 about1) = true := by decide +kernel
set_option maxRecDepth 65536 in
theorem w_t2 : ((words1.drop 24).take 24).all (fun c => isCode c || c.before args0 about1) = true := by decide +kernel
set_option maxRecDepth 65536 in
theorem w_t3 : (((words1.drop 24).drop 24).take 24).all (fun c => isCode c || c.before args0 about1) = true := by decide +kernel
set_option maxRecDepth 65536 in
theorem w_t4 : (((words1.drop 24).drop 24).drop 24).all (fun c => isCode c || c.before args0 about1) = true := by decide +kernel
theorem w_tables : (allAtoms (Jvm.Cond.code x code maxLocals ret :: tables_1)).before args0 about1 = true := by
  rw [allAtoms_all]
  show words1.all (fun c => c.before args0 about1) = true
  refine all_split ?_ w_codes
  rw [← List.take_append_drop 24 words1, List.all_append, w_t1, ← List.take_append_drop 24 (words1.drop 24), List.all_append, w_t2, ← List.take_append_drop 24 ((words1.drop 24).drop 24), List.all_append, w_t3, w_t4]
  rfl
set_option maxRecDepth 65536 in
theorem w_case : (Jvm.Cond.and given_1 narrow_1).before args0 about1 = true := by decide +kernel
theorem w_applies : (headSpec (Jvm.Cond.code x code maxLocals ret :: tables_1) room_1).applies x e0.platform about1 = true :=
  (Spec.applies_iff w_frames).mpr ⟨w_running, w_runnable, w_alone, w_named, w_hears, w_ripe, w_room, w_tables⟩
theorem atStart : AtStart classFile x code maxLocals ret World_1 tables_1 room_1 Calls_1 rest_1 Pre_1 launch0 p0 e0 about1 theMethod args0 below0 :=
  ⟨lists_1, trivial, launch0.admits_env _ _ _, launch0.least_env, fairChoices_fair.cas, fairChoices_fair.clock, w_frames, w_args, w_heap, w_applies, trivial, trivial, w_case⟩
end start1
theorem witness_1 : WitnessClaimed_1 := ⟨start1.p0, start1.e0, start1.about1, start1.theMethod, start1.args0, start1.below0, start1.atStart⟩
end Jvm.Pilot.@@N@@
