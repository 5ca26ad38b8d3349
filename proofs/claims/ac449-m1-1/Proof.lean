import JvmDerived
import JvmDerived.Pilot.@@N@@Statement
import JvmDerived.Pilot.@@N@@Code
set_option linter.unusedVariables false
set_option linter.unusedSimpArgs false
namespace Jvm.RoadKit
open Sem ClassFile Op Lib Jvm.Stand Jvm.Free Jvm.LawKit
section New
variable {p : Program} {l : Launch} {e : Env} {R : Room} {s : State} {m : MethodId} {args : Array Value} {below : List Frame} {meth : Method} {c : Code} {T : State} {locs : List Loc} {cells slots : Nat}
theorem retI (X : Stand p l e R s m args below meth c T locs cells slots) (hx : p.tables.exec = Jvm.exec) {pc : Nat} {Ls : Array Slot} {z : Int32} {rest : List Value} (hret : meth.sig.returnType = some .int) (hd : decode c.code pc = .ok (.ireturn, 1)) {fs : List Frame}
    (hl : ∀ (f : JFrame) (acts : List Action), f.method = m → f.locked = none → f.entered = [] → (doReturn e (T.setTop f) acts (some (.int z))).1 = T.setFrames fs) : Steps p.tables e below (T.setTop (mkF m pc Ls (.int z :: rest))) (T.setFrames fs) := by
  have hm' : T.vm.method? m = some meth := X.method'
  have hn : narrow .int (.int z) = .int z := rfl
  show Steps p.tables e below (T.setTop { method := m, pc := pc, locals := Ls, stack := _ :: rest, locked := none }) _
  jvm_step X.here [X.here.top, hx, hd, hm', hret, hn]
  first | (intro acts; rw [hl _ acts rfl rfl rfl]) | rw [hl _ _ rfl rfl rfl]
  exact Steps.refl _
end New
end Jvm.RoadKit
namespace Jvm.Pilot.@@N@@
open Jvm Jvm.ClassFile Sem Op Lib Jvm.Free Jvm.Stand Jvm.LawKit Jvm.RoadKit Bundle Jvm.Pilot.@@N@@.Jvm.D
theorem own_irem (x y : Int32) : x - (x / y) * y = x % y := by
  apply Int32.toInt_inj.mp
  have h1 := Int32.le_toInt (x % y)
  have h2 := Int32.toInt_lt (x % y)
  rw [Int32.toInt_sub, Int32.toInt_mul, Int32.toInt_div, Int.bmod_mul_bmod, Int.sub_bmod_bmod, Int.mul_comm (x.toInt.tdiv y.toInt), ← Int.tmod_def, ← Int32.toInt_mod]
  exact Int.bmod_eq_of_le_mul_two (by omega) (by omega)
theorem own_eqI {args : Array Value} {first s : State} {o : Option Outcome} {idx : List Nat} {t : Term} {k : Int32} (h : (Cond.eq t (.int k)).value args first o s idx = some true) : t.eval args first o idx s = some (.int k) :=
  Cond.eq_int (by simp [Cond.holds, h]) (Term.int_eval _)
def own_cle (r : Int64) : List Int64 → Int32 → Int32
  | [], c => c
  | x :: xs, c => own_cle r xs (if r < x then c else c + 1)
def own_clt (r : Int64) : List Int64 → Int32 → Int32
  | [], c => c
  | x :: xs, c => own_clt r xs (if x < r then c + 1 else c)
theorem own_inc (c : Int32) (n : Nat) (h : 0 ≤ c.toInt ∧ c.toInt + n + 1 < 2 ^ 31) : (c + 1).toInt = c.toInt + 1 := by
  rw [Int32.toInt_add, show (1 : Int32).toInt = 1 by decide]
  exact Int.bmod_eq_of_le (by omega) (by omega)
theorem own_cle_eq (r : Int64) : ∀ (xs : List Int64) (c : Int32), 0 ≤ c.toInt → c.toInt + xs.length < 2 ^ 31 → (own_cle r xs c).toInt = c.toInt + (xs.countP (fun x => decide (¬ r < x)) : Nat)
  | [], c, _, _ => by simp [own_cle]
  | x :: xs, c, h0, h => by
    simp only [List.length_cons] at h
    have hi := own_inc c xs.length ⟨h0, by omega⟩
    rw [own_cle]
    by_cases q : r < x
    · rw [if_pos q, own_cle_eq r xs c h0 (by omega), List.countP_cons_of_neg (by simp [q])]
    · rw [if_neg q, own_cle_eq r xs (c + 1) (by omega) (by omega), List.countP_cons_of_pos (by simp [q]), hi]
      omega
theorem own_clt_eq (r : Int64) : ∀ (xs : List Int64) (c : Int32), 0 ≤ c.toInt → c.toInt + xs.length < 2 ^ 31 → (own_clt r xs c).toInt = c.toInt + (xs.countP (fun x => decide (x < r)) : Nat)
  | [], c, _, _ => by simp [own_clt]
  | x :: xs, c, h0, h => by
    simp only [List.length_cons] at h
    have hi := own_inc c xs.length ⟨h0, by omega⟩
    rw [own_clt]
    by_cases q : x < r
    · rw [if_pos q, own_clt_eq r xs (c + 1) (by omega) (by omega), List.countP_cons_of_pos (by simp [q]), hi]
      omega
    · rw [if_neg q, own_clt_eq r xs c h0 (by omega), List.countP_cons_of_neg (by simp [q])]
def own_srt : List Int64 → Prop
  | [] => True
  | x :: xs => (∀ y ∈ xs, x.toInt ≤ y.toInt) ∧ own_srt xs
theorem own_many : ∀ (xs : List Int64) (j : Nat) (hj : j < xs.length), own_srt xs → j + 1 ≤ xs.countP (fun x => decide (¬ xs[j] < x)) ∧ xs.countP (fun x => decide (x < xs[j])) ≤ j
  | x :: xs, 0, _, h => by
    refine ⟨?_, ?_⟩
    · rw [List.countP_cons_of_pos (by simp [Int64.lt_iff_toInt_lt])]; omega
    · rw [List.countP_cons_of_neg (by simp [Int64.lt_iff_toInt_lt]), List.countP_eq_zero.mpr]
      · exact Nat.le_refl 0
      · intro y hy
        have := h.1 y hy
        simp only [List.getElem_cons_zero, decide_eq_true_eq, Int64.lt_iff_toInt_lt]
        omega
  | x :: xs, j + 1, hj, h => by
    have hj' : j < xs.length := by simpa using hj
    have ih := own_many xs j hj' h.2
    have hx := h.1 xs[j] (List.getElem_mem hj')
    simp only [List.getElem_cons_succ]
    refine ⟨?_, ?_⟩
    · rw [List.countP_cons_of_pos (by simp only [decide_eq_true_eq, Int64.lt_iff_toInt_lt]; omega)]; omega
    · have : (x :: xs).countP (fun y => decide (y < xs[j])) ≤ xs.countP (fun y => decide (y < xs[j])) + 1 := by
        rw [List.countP_cons]; split <;> omega
      omega
theorem own_getD (xs : List Int64) (i : Nat) (h : i < xs.length) : (xs.map Value.long).getD i (.long 0) = .long (xs.getD i 0) := by
  simp [List.getD_eq_getElem?_getD, List.getElem?_map, h]
theorem own_mul64 {x y : Int64} (h1 : -2 ^ 63 ≤ x.toInt * y.toInt) (h2 : x.toInt * y.toInt < 2 ^ 63) : (x * y).toInt = x.toInt * y.toInt := by
  rw [Int64.toInt_mul]; exact Int.bmod_eq_of_le (by omega) (by omega)
theorem own_add64 {x y : Int64} (h1 : -2 ^ 63 ≤ x.toInt + y.toInt) (h2 : x.toInt + y.toInt < 2 ^ 63) : (x + y).toInt = x.toInt + y.toInt := by
  rw [Int64.toInt_add]; exact Int.bmod_eq_of_le (by omega) (by omega)
theorem own_pct (n p : Int32) (N : Int) (hN : n.toInt = N) (h1 : 1 ≤ N) (h8 : N ≤ 8) (hp : 1 ≤ p.toInt ∧ p.toInt ≤ 100) :
    ∃ j : Int32, ((((n.toInt64) * (p.toInt64)) + (99 : Int64)) / (100 : Int64)).toInt32 - (1 : Int32) = j ∧ 0 ≤ j.toInt ∧ j.toInt < N ∧ 100 * j.toInt < p.toInt * N ∧ p.toInt * N ≤ 100 * (j.toInt + 1) := by
  have hb : 1 ≤ p.toInt * N ∧ p.toInt * N ≤ 800 := by
    have a1 : 1 * 1 ≤ p.toInt * N := Int.mul_le_mul hp.1 h1 (by omega) (by omega)
    have a2 : p.toInt * N ≤ 100 * 8 := Int.mul_le_mul hp.2 h8 (by omega) (by omega)
    omega
  have e1 : (n.toInt64 * p.toInt64).toInt = p.toInt * N := by
    rw [own_mul64] <;> simp only [Int32.toInt_toInt64, hN] <;> rw [Int.mul_comm] <;> omega
  have e2 : ((n.toInt64 * p.toInt64) + (99 : Int64)).toInt = p.toInt * N + 99 := by
    rw [own_add64] <;> rw [e1, show (99 : Int64).toInt = 99 by decide] <;> omega
  have e3 := (c_ldiv ((n.toInt64 * p.toInt64) + (99 : Int64)) 100 100 (by decide) (by decide)).1 (by omega)
  rw [e2] at e3
  have e4 : ((((n.toInt64) * (p.toInt64)) + (99 : Int64)) / (100 : Int64)).toInt32.toInt = (p.toInt * N + 99) / 100 := by
    rw [Int64.toInt_toInt32, e3]
    exact Int.bmod_eq_of_le (by omega) (by omega)
  refine ⟨_, rfl, ?_⟩
  have e5 : (((((n.toInt64) * (p.toInt64)) + (99 : Int64)) / (100 : Int64)).toInt32 - (1 : Int32)).toInt = (p.toInt * N + 99) / 100 - 1 := by
    rw [Int32.toInt_sub, e4, show (1 : Int32).toInt = 1 by decide]
    exact Int.bmod_eq_of_le (by omega) (by omega)
  rw [e5]
  have hM : p.toInt * N ≤ 100 * N := Int.mul_le_mul_of_nonneg_right hp.2 (by omega)
  generalize p.toInt * N = M at *
  omega
theorem own_fin (xs : List Int64) (n p j le lt : Int32) (need : Int64) (N : Int) (hN : n.toInt = N) (hl : (xs.length : Int) = N) (h1 : 1 ≤ N) (h8 : N ≤ 8) (hp : 1 ≤ p.toInt ∧ p.toInt ≤ 100) (hs : own_srt xs)
    (j0 : 0 ≤ j.toInt) (j1 : j.toInt < N) (j2 : 100 * j.toInt < p.toInt * N) (j3 : p.toInt * N ≤ 100 * (j.toInt + 1))
    (hle : own_cle (xs.getD j.toNatClampNeg 0) xs 0 = le) (hlt : own_clt (xs.getD j.toNatClampNeg 0) xs 0 = lt) (hneed : need = p.toInt64 * n.toInt64) :
    ¬ (100 : Int64) * le.toInt64 < need ∧ (100 : Int64) * lt.toInt64 < need := by
  have hj : j.toNatClampNeg < xs.length := by
    simp only [Int32.toNatClampNeg]; omega
  have hjn : (j.toNatClampNeg : Int) = j.toInt := by simp only [Int32.toNatClampNeg]; omega
  have hg : xs.getD j.toNatClampNeg 0 = xs[j.toNatClampNeg] := by simp [List.getD_eq_getElem?_getD, hj]
  have hm := own_many xs j.toNatClampNeg hj hs
  rw [hg] at hle hlt
  have z0 : (0 : Int32).toInt = 0 := by decide
  have c1 := own_cle_eq xs[j.toNatClampNeg] xs 0 (by rw [z0]; omega) (by rw [z0]; omega)
  have c2 := own_clt_eq xs[j.toNatClampNeg] xs 0 (by rw [z0]; omega) (by rw [z0]; omega)
  rw [hle, z0] at c1
  rw [hlt, z0] at c2
  have b1 : xs.countP (fun x => decide (¬ xs[j.toNatClampNeg] < x)) ≤ xs.length := List.countP_le_length
  have b2 : xs.countP (fun x => decide (x < xs[j.toNatClampNeg])) ≤ xs.length := List.countP_le_length
  have hb : 1 ≤ p.toInt * N ∧ p.toInt * N ≤ 800 := by
    have a1 : 1 * 1 ≤ p.toInt * N := Int.mul_le_mul hp.1 h1 (by omega) (by omega)
    have a2 : p.toInt * N ≤ 100 * 8 := Int.mul_le_mul hp.2 h8 (by omega) (by omega)
    omega
  have en : need.toInt = p.toInt * N := by
    rw [hneed, own_mul64] <;> simp only [Int32.toInt_toInt64, hN] <;> omega
  have h100 : (100 : Int64).toInt = 100 := by decide
  have ele : ((100 : Int64) * le.toInt64).toInt = 100 * le.toInt := by
    rw [own_mul64] <;> simp only [Int32.toInt_toInt64, h100] <;> omega
  have elt : ((100 : Int64) * lt.toInt64).toInt = 100 * lt.toInt := by
    rw [own_mul64] <;> simp only [Int32.toInt_toInt64, h100] <;> omega
  simp only [Int64.lt_iff_toInt_lt, en, ele, elt]
  omega
theorem own_n (x z : Int32) (h : z = 1 + (x &&& 7)) : z = 1 ∨ z = 2 ∨ z = 3 ∨ z = 4 ∨ z = 5 ∨ z = 6 ∨ z = 7 ∨ z = 8 := by
  have h1 := c_and x 7 (by decide)
  have e7 : (7 : Int32).toInt = 7 := by decide
  have e : z.toInt = 1 + (x &&& 7).toInt := by
    rw [h, Int32.toInt_add, show (1 : Int32).toInt = 1 by decide]
    exact Int.bmod_eq_of_le (by omega) (by omega)
  simp only [← Int32.toInt_inj, show (1 : Int32).toInt = 1 by decide, show (2 : Int32).toInt = 2 by decide, show (3 : Int32).toInt = 3 by decide, show (4 : Int32).toInt = 4 by decide, show (5 : Int32).toInt = 5 by decide, show (6 : Int32).toInt = 6 by decide, show (7 : Int32).toInt = 7 by decide, show (8 : Int32).toInt = 8 by decide]
  omega
theorem own_p (x z : Int32) (h : z = 1 + (x &&& 2147483647) % 100) : 1 ≤ z.toInt ∧ z.toInt ≤ 100 := by
  have h1 := c_and x 2147483647 (by decide)
  have h2 := (c_irem (x &&& 2147483647) 100 100 (by decide)).1 h1.1
  have e : z.toInt = 1 + ((x &&& 2147483647) % 100).toInt := by
    rw [h, Int32.toInt_add, show (1 : Int32).toInt = 1 by decide, h2]
    exact Int.bmod_eq_of_le (by omega) (by omega)
  omega
theorem own_o1 (x : Int32) (z : Int64) (h : z = (x &&& (3 : Int32)).toInt64) : 0 ≤ z.toInt ∧ z.toInt ≤ 3 := by
  have h1 := c_and x 3 (by decide)
  have e3 : (3 : Int32).toInt = 3 := by decide
  rw [h, Int32.toInt_toInt64]; omega
theorem own_o (x : Int32) (y z : Int64) (B : Int) (hB : B < 100) (hy : 0 ≤ y.toInt ∧ y.toInt ≤ B) (h : z = y + (x &&& (3 : Int32)).toInt64) : y.toInt ≤ z.toInt ∧ z.toInt ≤ B + 3 := by
  have h1 := own_o1 x _ rfl
  rw [h, own_add64] <;> omega
theorem own_b (q b : Int64) (h : (if (9223372036854775786 : Int64) < q then (9223372036854775786 : Int64) else q) = b) : b.toInt ≤ 9223372036854775786 := by
  have e : (9223372036854775786 : Int64).toInt = 9223372036854775786 := by decide
  rw [← h]; split
  · omega
  · rename_i g; rw [Int64.lt_iff_toInt_lt] at g; omega
theorem own_x (b o z : Int64) (hb : b.toInt ≤ 9223372036854775786) (ho : 0 ≤ o.toInt ∧ o.toInt ≤ 21) (h : z = b + o) : z.toInt = b.toInt + o.toInt := by
  have := b.le_toInt
  rw [h, own_add64] <;> omega
theorem own_ef1 (m : MethodId) (x0 : Int64) (x1 : Int64) : entryFrame m #[(.long x0), (.long x1)] 4 = mkF m 0 #[.val (.long x0), .second, .val (.long x1), .second] [] := by first | (simp [entryFrame, mkF, argsToLocals, Value.category]; done) | rfl
theorem own_d1_0 : decode jdk_29_method_70_code 0 = .ok (.lload_n 0, 1) := by decide +kernel
theorem own_d1_1 : decode jdk_29_method_70_code 1 = .ok (.lload_n 2, 1) := by decide +kernel
theorem own_d1_2 : decode jdk_29_method_70_code 2 = .ok (.lcmp, 1) := by decide +kernel
theorem own_d1_3 : decode jdk_29_method_70_code 3 = .ok (.ifCond .gt 7, 3) := by decide +kernel
theorem own_d1_10 : decode jdk_29_method_70_code 10 = .ok (.lload_n 2, 1) := by decide +kernel
theorem own_d1_11 : decode jdk_29_method_70_code 11 = .ok (.lreturn, 1) := by decide +kernel
theorem own_d1_6 : decode jdk_29_method_70_code 6 = .ok (.lload_n 0, 1) := by decide +kernel
theorem own_d1_7 : decode jdk_29_method_70_code 7 = .ok (.goto 4, 3) := by decide +kernel
def own_Q_rmMin (Z : State) (q1 q2 r : Int64) (h0 : Heap) (n0 : Nat) (v : Option Value) (h : Heap) (L : List Loc) : Prop := v = some (.long r) ∧ Fr n0 L ∧ h = h0
set_option maxRecDepth 65536 in
set_option maxHeartbeats 40000000 in
theorem rmMin (l : Launch) (Z : State) (a0 : Array Value) (hw : ∀ d ∈ tables_1, d.before a0 Z = true) (ws : List Jvm.Cond) (q1 q2 r : Int64) (h0 : Heap) (n0 : Nat) (O0 : Old Z n0 h0) (hr : (if q2 < q1 then q2 else q1) = r) :
    MetFree l (⟨"java/lang/Math", "min", "(JJ)J"⟩ : MethodName) (head1 (Jvm.Cond.code (⟨"java/lang/Math", "min", "(JJ)J"⟩ : MethodName) jdk_29_method_70_code 4 (some .long) :: ws) ({ frames := 0, cells := 0, slots := 0, locals := 0 } : Room)) (fun a U => a = #[(.long q1), (.long q2)] ∧ Z.Warmed39 U.vm ∧ U.heap = h0) (fun _ _ _ _ _ => True) (fun _ U o U' => ∃ v L, o = .returned v ∧ own_Q_rmMin Z q1 q2 r h0 n0 v U'.heap L ∧ FrameEnd U o U' L ({ frames := 0, cells := 0, slots := 0, locals := 0 } : Room).cells ({ frames := 0, cells := 0, slots := 0, locals := 0 } : Room).slots) := by
  refine MetFree.of_bodySF (Jvm.Free.JP.mathPlain rfl (by decide +kernel)) hisR ?_
  intro p e s m args below meth c s₁ Bd hml0 hP hK
  obtain ⟨rfl, hZ, hh⟩ := hP
  have hx := Bd.exec
  have hby := Bd.bytes
  have hml : c.maxLocals = 4 := hml0
  have hown : s.vm.findClass "java/lang/Math" = some m.cls := findClass_of_methodNamed Bd.named
  have hnm := (name_of_methodNamed Bd.named Bd.method).1
  have X0 : Stand p l e ({ frames := 0, cells := 0, slots := 0, locals := 0 } : Room) s m #[(.long q1), (.long q2)] below meth c s₁ [] 0 0 := Stand.of_body Bd
  have e0 : s₁.heap = h0 := by rw [← hh, Bd.state]; rfl
  have N0 := Fr.nil n0
  have Z0 : n0 ≤ h0.size := O0.1 ▸ O0.2.1
  have g0 : ∀ t, Steps p.tables e below (s₁.setTop (mkF m 0 #[.val (.long q1), .second, .val (.long q2), .second] [])) t → Steps p.tables e below (s₁.setTop (entryFrame m #[(.long q1), (.long q2)] 4)) t := fun t k => castTop (own_ef1 m (q1) (q2)) k
  have g2 : ∀ t, Steps p.tables e below (s₁.setTop (mkF m 3 #[.val (.long q1), .second, .val (.long q2), .second] [(.int (lcmpW q1 q2))])) t → Steps p.tables e below (s₁.setTop (entryFrame m #[(.long q1), (.long q2)] 4)) t := by
    intro t k
    refine g0 t ?_
    show Steps p.tables e below (s₁.setTop (mkF m 0 #[.val (.long q1), .second, .val (.long q2), .second] [])) _
    refine XS.lloadN X0.here hx rfl (hb hby own_d1_0) rfl ?_
    show Steps p.tables e below (s₁.setTop (mkF m 1 #[.val (.long q1), .second, .val (.long q2), .second] [(.long q1)])) _
    refine XS.lloadN X0.here hx rfl (hb hby own_d1_1) rfl ?_
    show Steps p.tables e below (s₁.setTop (mkF m 2 #[.val (.long q1), .second, .val (.long q2), .second] [(.long q2), (.long q1)])) _
    refine XS.lcmp X0.here hx rfl (hb hby own_d1_2) rfl ?_
    exact k
  by_cases hc1 : q2 < q1
  · have g3 : ∀ t, Steps p.tables e below (s₁.setTop (mkF m 11 #[.val (.long q1), .second, .val (.long q2), .second] [(.long q2)])) t → Steps p.tables e below (s₁.setTop (entryFrame m #[(.long q1), (.long q2)] 4)) t := by
      intro t k
      refine g2 t ?_
      show Steps p.tables e below (s₁.setTop (mkF m 3 #[.val (.long q1), .second, .val (.long q2), .second] [(.int (lcmpW q1 q2))])) _
      refine XS.ifYes X0.here hx rfl (pc0 := 3) (pc' := 10) rfl (hb hby own_d1_3) rfl ((if0 _ _).trans (tlt ((lw_gt _ _).mpr hc1)).2.2.1) (by decide) (by decide) ?_
      show Steps p.tables e below (s₁.setTop (mkF m 10 #[.val (.long q1), .second, .val (.long q2), .second] [])) _
      refine XS.lloadN X0.here hx rfl (hb hby own_d1_10) rfl ?_
      exact k
    obtain ⟨fs, hrt, hrun, hended, hW, hsame⟩ := X0.leave (v := some (.long q2)) (fun h => by rw [Bd.returns] at h; cases h)
    refine ⟨_, _, g3 _ ?_, hrun, hended, _, _, rfl, ?_, ⟨_, rfl⟩, hW, hsame.mono (by decide) (by decide)⟩
    · show Steps p.tables e below (s₁.setTop (mkF m 11 #[.val (.long q1), .second, .val (.long q2), .second] [(.long q2)])) _
      exact X0.lreturnOut hx Bd.returns (hb hby own_d1_11) hrt
    · show own_Q_rmMin Z q1 q2 r h0 n0 _ s₁.heap _
      rw [e0]
      exact ⟨by rw [← hr, if_pos hc1], N0, rfl⟩
  · have g4 : ∀ t, Steps p.tables e below (s₁.setTop (mkF m 11 #[.val (.long q1), .second, .val (.long q2), .second] [(.long q1)])) t → Steps p.tables e below (s₁.setTop (entryFrame m #[(.long q1), (.long q2)] 4)) t := by
      intro t k
      refine g2 t ?_
      show Steps p.tables e below (s₁.setTop (mkF m 3 #[.val (.long q1), .second, .val (.long q2), .second] [(.int (lcmpW q1 q2))])) _
      refine XS.ifNo X0.here hx rfl (hb hby own_d1_3) rfl ((if0 _ _).trans (flt (fun q => hc1 ((lw_gt _ _).mp q))).2.2.1) ?_
      show Steps p.tables e below (s₁.setTop (mkF m 6 #[.val (.long q1), .second, .val (.long q2), .second] [])) _
      refine XS.lloadN X0.here hx rfl (hb hby own_d1_6) rfl ?_
      show Steps p.tables e below (s₁.setTop (mkF m 7 #[.val (.long q1), .second, .val (.long q2), .second] [(.long q1)])) _
      refine XS.goto X0.here hx rfl (pc0 := 7) (pc' := 11) rfl (hb hby own_d1_7) (by decide) (by decide) ?_
      exact k
    obtain ⟨fs, hrt, hrun, hended, hW, hsame⟩ := X0.leave (v := some (.long q1)) (fun h => by rw [Bd.returns] at h; cases h)
    refine ⟨_, _, g4 _ ?_, hrun, hended, _, _, rfl, ?_, ⟨_, rfl⟩, hW, hsame.mono (by decide) (by decide)⟩
    · show Steps p.tables e below (s₁.setTop (mkF m 11 #[.val (.long q1), .second, .val (.long q2), .second] [(.long q1)])) _
      exact X0.lreturnOut hx Bd.returns (hb hby own_d1_11) hrt
    · show own_Q_rmMin Z q1 q2 r h0 n0 _ s₁.heap _
      rw [e0]
      exact ⟨by rw [← hr, if_neg hc1], N0, rfl⟩
theorem own_ef2 (m : MethodId) (x0 : Addr) (x1 : Int32) : entryFrame m #[(.ref x0), (.int x1)] 3 = mkF m 0 #[.val (.ref x0), .val (.int x1), .unset] [] := by first | (simp [entryFrame, mkF, argsToLocals, Value.category]; done) | rfl
theorem own_pn0 : plainName "orderwire/bench/Latency" = true := by first | (simp [plainName, overriddenIn]; done) | decide +kernel
theorem own_d2_0 : decode prog_6_method_9_code 0 = .ok (.aload_n 0, 1) := by decide +kernel
theorem own_d2_1 : decode prog_6_method_9_code 1 = .ok (.arraylength, 1) := by decide +kernel
theorem own_d2_2 : decode prog_6_method_9_code 2 = .ok (.i2l, 1) := by decide +kernel
theorem own_d2_3 : decode prog_6_method_9_code 3 = .ok (.iload_n 1, 1) := by decide +kernel
theorem own_d2_4 : decode prog_6_method_9_code 4 = .ok (.i2l, 1) := by decide +kernel
theorem own_d2_5 : decode prog_6_method_9_code 5 = .ok (.lmul, 1) := by decide +kernel
theorem own_d2_6 : decode prog_6_method_9_code 6 = .ok (.ldc2_w 309, 3) := by decide +kernel
theorem own_d2_9 : decode prog_6_method_9_code 9 = .ok (.ladd, 1) := by decide +kernel
theorem own_d2_10 : decode prog_6_method_9_code 10 = .ok (.ldc2_w 166, 3) := by decide +kernel
theorem own_d2_13 : decode prog_6_method_9_code 13 = .ok (.ldiv, 1) := by decide +kernel
theorem own_d2_14 : decode prog_6_method_9_code 14 = .ok (.l2i, 1) := by decide +kernel
theorem own_d2_15 : decode prog_6_method_9_code 15 = .ok (.istore_n 2, 1) := by decide +kernel
theorem own_d2_16 : decode prog_6_method_9_code 16 = .ok (.aload_n 0, 1) := by decide +kernel
theorem own_d2_17 : decode prog_6_method_9_code 17 = .ok (.iload_n 2, 1) := by decide +kernel
theorem own_d2_18 : decode prog_6_method_9_code 18 = .ok (.iconst 1, 1) := by decide +kernel
theorem own_d2_19 : decode prog_6_method_9_code 19 = .ok (.isub, 1) := by decide +kernel
theorem own_d2_20 : decode prog_6_method_9_code 20 = .ok (.laload, 1) := by decide +kernel
theorem own_d2_21 : decode prog_6_method_9_code 21 = .ok (.lreturn, 1) := by decide +kernel
def own_Q_rmPct1 (Z : State) (a1 : Addr) (ka : ClassId) (x0 r : Int64) (p2 j : Int32) (h0 : Heap) (n0 : Nat) (v : Option Value) (h : Heap) (L : List Loc) : Prop := v = some (.long r) ∧ Fr n0 L ∧ h = h0
set_option maxRecDepth 65536 in
set_option maxHeartbeats 40000000 in
theorem rmPct1 (l : Launch) (Z : State) (a0 : Array Value) (hw : ∀ d ∈ tables_1, d.before a0 Z = true) (ws : List Jvm.Cond) (a1 : Addr) (ka : ClassId) (x0 r : Int64) (p2 j : Int32) (h0 : Heap) (n0 : Nat) (O0 : Old Z n0 h0) (Va : Arv Z h0 a1 ka .long (1 : Int32) [(.long x0)] (.long (0 : Int64))) (hj : (((((((1 : Int32).toInt64) * (p2.toInt64)) + (99 : Int64)) / (100 : Int64)).toInt32) - (1 : Int32)) = j) (hj0 : ¬ j < 0) (hj1 : j < (1 : Int32)) (hjr : ([(.long x0)] : List Value).getD j.toNatClampNeg (.long (0 : Int64)) = .long r) :
    MetFree l (⟨"orderwire/bench/Latency", "percentile", "([JI)J"⟩ : MethodName) (head1 (Jvm.Cond.code (⟨"orderwire/bench/Latency", "percentile", "([JI)J"⟩ : MethodName) prog_6_method_9_code 3 (some .long) :: ws) ({ frames := 0, cells := 0, slots := 0, locals := 0 } : Room)) (fun a U => a = #[(.ref a1), (.int p2)] ∧ Z.Warmed39 U.vm ∧ U.heap = h0) (fun _ _ _ _ _ => True) (fun _ U o U' => ∃ v L, o = .returned v ∧ own_Q_rmPct1 Z a1 ka x0 r p2 j h0 n0 v U'.heap L ∧ FrameEnd U o U' L ({ frames := 0, cells := 0, slots := 0, locals := 0 } : Room).cells ({ frames := 0, cells := 0, slots := 0, locals := 0 } : Room).slots) := by
  refine MetFree.of_bodySF (plainFor_of_name own_pn0) hisR ?_
  intro p e s m args below meth c s₁ Bd hml0 hP hK
  obtain ⟨rfl, hZ, hh⟩ := hP
  have hx := Bd.exec
  have hby := Bd.bytes
  have hml : c.maxLocals = 3 := hml0
  have hown : s.vm.findClass "orderwire/bench/Latency" = some m.cls := findClass_of_methodNamed Bd.named
  have hnm := (name_of_methodNamed Bd.named Bd.method).1
  have X0 : Stand p l e ({ frames := 0, cells := 0, slots := 0, locals := 0 } : Room) s m #[(.ref a1), (.int p2)] below meth c s₁ [] 0 0 := Stand.of_body Bd
  have e0 : s₁.heap = h0 := by rw [← hh, Bd.state]; rfl
  have N0 := Fr.nil n0
  have Z0 : n0 ≤ h0.size := O0.1 ▸ O0.2.1
  have g0 : ∀ t, Steps p.tables e below (s₁.setTop (mkF m 0 #[.val (.ref a1), .val (.int p2), .unset] [])) t → Steps p.tables e below (s₁.setTop (entryFrame m #[(.ref a1), (.int p2)] 3)) t := fun t k => castTop (own_ef2 m (a1) (p2)) k
  obtain ⟨c1, Ar1, cq1, S1, Nn1, Hh1, Gg1⟩ := id Va
  have g2 : ∀ t, Steps p.tables e below (s₁.setTop (mkF m 20 #[.val (.ref a1), .val (.int p2), .val (.int ((((((1 : Int32).toInt64) * (p2.toInt64)) + (99 : Int64)) / (100 : Int64)).toInt32))] [(.int j), (.ref a1)])) t → Steps p.tables e below (s₁.setTop (entryFrame m #[(.ref a1), (.int p2)] 3)) t := by
    intro t k
    rw [← hj] at k
    refine g0 t ?_
    show Steps p.tables e below (s₁.setTop (mkF m 0 #[.val (.ref a1), .val (.int p2), .unset] [])) _
    refine XS.aloadN X0.here hx rfl (hb hby own_d2_0) rfl rfl ?_
    show Steps p.tables e below (s₁.setTop (mkF m 1 #[.val (.ref a1), .val (.int p2), .unset] [(.ref a1)])) _
    refine X0.arraylength hx (by rw [e0]; exact Ar1.1) (State.isArrayOf_alike hZ.alike Ar1.2.1) (g := (mkF m 1 #[.val (.ref a1), .val (.int p2), .unset] [(.ref a1)])) rfl rfl (hb hby own_d2_1) _ ?_
    rw [len_of S1 Nn1]
    show Steps p.tables e below (s₁.setTop (mkF m 2 #[.val (.ref a1), .val (.int p2), .unset] [(.int (1 : Int32))])) _
    refine XS.i2l X0.here hx rfl (hb hby own_d2_2) rfl ?_
    show Steps p.tables e below (s₁.setTop (mkF m 3 #[.val (.ref a1), .val (.int p2), .unset] [(.long ((1 : Int32).toInt64))])) _
    refine XS.iloadN X0.here hx rfl (hb hby own_d2_3) rfl ?_
    show Steps p.tables e below (s₁.setTop (mkF m 4 #[.val (.ref a1), .val (.int p2), .unset] [(.int p2), (.long ((1 : Int32).toInt64))])) _
    refine XS.i2l X0.here hx rfl (hb hby own_d2_4) rfl ?_
    show Steps p.tables e below (s₁.setTop (mkF m 5 #[.val (.ref a1), .val (.int p2), .unset] [(.long (p2.toInt64)), (.long ((1 : Int32).toInt64))])) _
    refine XS.lmul X0.here hx rfl (hb hby own_d2_5) rfl ?_
    show Steps p.tables e below (s₁.setTop (mkF m 6 #[.val (.ref a1), .val (.int p2), .unset] [(.long (((1 : Int32).toInt64) * (p2.toInt64)))])) _
    refine X0.ldc2Long hx hown (mvT hZ (hw _ (List.mem_of_getElem? (i := 11) rfl))) (g := (mkF m 6 #[.val (.ref a1), .val (.int p2), .unset] [(.long (((1 : Int32).toInt64) * (p2.toInt64)))])) rfl (hb hby own_d2_6) _ ?_
    show Steps p.tables e below (s₁.setTop (mkF m 9 #[.val (.ref a1), .val (.int p2), .unset] [(.long (99 : Int64)), (.long (((1 : Int32).toInt64) * (p2.toInt64)))])) _
    refine XS.ladd X0.here hx rfl (hb hby own_d2_9) rfl ?_
    show Steps p.tables e below (s₁.setTop (mkF m 10 #[.val (.ref a1), .val (.int p2), .unset] [(.long ((((1 : Int32).toInt64) * (p2.toInt64)) + (99 : Int64)))])) _
    refine X0.ldc2Long hx hown (mvT hZ (hw _ (List.mem_of_getElem? (i := 12) rfl))) (g := (mkF m 10 #[.val (.ref a1), .val (.int p2), .unset] [(.long ((((1 : Int32).toInt64) * (p2.toInt64)) + (99 : Int64)))])) rfl (hb hby own_d2_10) _ ?_
    show Steps p.tables e below (s₁.setTop (mkF m 13 #[.val (.ref a1), .val (.int p2), .unset] [(.long (100 : Int64)), (.long ((((1 : Int32).toInt64) * (p2.toInt64)) + (99 : Int64)))])) _
    refine XS.ldiv X0.here hx rfl (hb hby own_d2_13) rfl (by decide) ?_
    show Steps p.tables e below (s₁.setTop (mkF m 14 #[.val (.ref a1), .val (.int p2), .unset] [(.long (((((1 : Int32).toInt64) * (p2.toInt64)) + (99 : Int64)) / (100 : Int64)))])) _
    refine XS.l2i X0.here hx rfl (hb hby own_d2_14) rfl ?_
    show Steps p.tables e below (s₁.setTop (mkF m 15 #[.val (.ref a1), .val (.int p2), .unset] [(.int ((((((1 : Int32).toInt64) * (p2.toInt64)) + (99 : Int64)) / (100 : Int64)).toInt32))])) _
    refine XS.istoreN X0.here hx rfl (hb hby own_d2_15) rfl (l' := #[.val (.ref a1), .val (.int p2), .val (.int ((((((1 : Int32).toInt64) * (p2.toInt64)) + (99 : Int64)) / (100 : Int64)).toInt32))]) rfl ?_
    show Steps p.tables e below (s₁.setTop (mkF m 16 #[.val (.ref a1), .val (.int p2), .val (.int ((((((1 : Int32).toInt64) * (p2.toInt64)) + (99 : Int64)) / (100 : Int64)).toInt32))] [])) _
    refine XS.aloadN X0.here hx rfl (hb hby own_d2_16) rfl rfl ?_
    show Steps p.tables e below (s₁.setTop (mkF m 17 #[.val (.ref a1), .val (.int p2), .val (.int ((((((1 : Int32).toInt64) * (p2.toInt64)) + (99 : Int64)) / (100 : Int64)).toInt32))] [(.ref a1)])) _
    refine XS.iloadN X0.here hx rfl (hb hby own_d2_17) rfl ?_
    show Steps p.tables e below (s₁.setTop (mkF m 18 #[.val (.ref a1), .val (.int p2), .val (.int ((((((1 : Int32).toInt64) * (p2.toInt64)) + (99 : Int64)) / (100 : Int64)).toInt32))] [(.int ((((((1 : Int32).toInt64) * (p2.toInt64)) + (99 : Int64)) / (100 : Int64)).toInt32)), (.ref a1)])) _
    refine XS.iconst X0.here hx rfl (hb hby own_d2_18) ?_
    show Steps p.tables e below (s₁.setTop (mkF m 19 #[.val (.ref a1), .val (.int p2), .val (.int ((((((1 : Int32).toInt64) * (p2.toInt64)) + (99 : Int64)) / (100 : Int64)).toInt32))] [(.int (1 : Int32)), (.int ((((((1 : Int32).toInt64) * (p2.toInt64)) + (99 : Int64)) / (100 : Int64)).toInt32)), (.ref a1)])) _
    refine XS.isub X0.here hx rfl (hb hby own_d2_19) rfl ?_
    exact k
  obtain ⟨c3, Ar3, cq3, S3, Nn3, Hh3, Gg3⟩ := id Va
  have hin3 : ¬ (j < 0 ∨ c3.slots.size ≤ (j).toNatClampNeg) := inb_of S3 ⟨hj0, hj1⟩
  have hat3 : c3.slots[(j).toNatClampNeg]? = some (.long r) := Has.at Hh3 hin3 hjr
  have g4 : ∀ t, Steps p.tables e below (s₁.setTop (mkF m 21 #[.val (.ref a1), .val (.int p2), .val (.int ((((((1 : Int32).toInt64) * (p2.toInt64)) + (99 : Int64)) / (100 : Int64)).toInt32))] [(.long r)])) t → Steps p.tables e below (s₁.setTop (entryFrame m #[(.ref a1), (.int p2)] 3)) t := by
    intro t k
    refine g2 t ?_
    show Steps p.tables e below (s₁.setTop (mkF m 20 #[.val (.ref a1), .val (.int p2), .val (.int ((((((1 : Int32).toInt64) * (p2.toInt64)) + (99 : Int64)) / (100 : Int64)).toInt32))] [(.int j), (.ref a1)])) _
    refine X0.laload hx (j := j) (v := (.long r)) (by rw [e0]; exact Ar3.1) (State.isArrayOf_alike hZ.alike Ar3.2.1) Ar3.2.2 hin3 hat3 (g := (mkF m 20 #[.val (.ref a1), .val (.int p2), .val (.int ((((((1 : Int32).toInt64) * (p2.toInt64)) + (99 : Int64)) / (100 : Int64)).toInt32))] [(.int j), (.ref a1)])) rfl rfl (hb hby own_d2_20) _ ?_
    exact k
  obtain ⟨fs, hrt, hrun, hended, hW, hsame⟩ := X0.leave (v := some (.long r)) (fun h => by rw [Bd.returns] at h; cases h)
  refine ⟨_, _, g4 _ ?_, hrun, hended, _, _, rfl, ?_, ⟨_, rfl⟩, hW, hsame.mono (by decide) (by decide)⟩
  · show Steps p.tables e below (s₁.setTop (mkF m 21 #[.val (.ref a1), .val (.int p2), .val (.int ((((((1 : Int32).toInt64) * (p2.toInt64)) + (99 : Int64)) / (100 : Int64)).toInt32))] [(.long r)])) _
    exact X0.lreturnOut hx Bd.returns (hb hby own_d2_21) hrt
  · show own_Q_rmPct1 Z a1 ka x0 r p2 j h0 n0 _ s₁.heap _
    rw [e0]
    exact ⟨rfl, N0, rfl⟩
theorem own_ef3 (m : MethodId) (x0 : Addr) (x1 : Int64) : entryFrame m #[(.ref x0), (.long x1)] 5 = mkF m 0 #[.val (.ref x0), .val (.long x1), .second, .unset, .unset] [] := by first | (simp [entryFrame, mkF, argsToLocals, Value.category]; done) | rfl
theorem own_pn1 : plainName "orderwire/bench/LatencyPercentilePinLaw" = true := by first | (simp [plainName, overriddenIn]; done) | decide +kernel
theorem own_d3_0 : decode method_3_code 0 = .ok (.aload_n 0, 1) := by decide +kernel
theorem own_d3_1 : decode method_3_code 1 = .ok (.arraylength, 1) := by decide +kernel
theorem own_d3_2 : decode method_3_code 2 = .ok (.istore_n 3, 1) := by decide +kernel
theorem own_d3_3 : decode method_3_code 3 = .ok (.iconst 0, 1) := by decide +kernel
theorem own_d3_4 : decode method_3_code 4 = .ok (.istore 4, 2) := by decide +kernel
theorem own_d3_6 : decode method_3_code 6 = .ok (.iload_n 3, 1) := by decide +kernel
theorem own_d3_7 : decode method_3_code 7 = .ok (.ifCond .le 14, 3) := by decide +kernel
theorem own_d3_10 : decode method_3_code 10 = .ok (.aload_n 0, 1) := by decide +kernel
theorem own_d3_11 : decode method_3_code 11 = .ok (.iconst 0, 1) := by decide +kernel
theorem own_d3_12 : decode method_3_code 12 = .ok (.laload, 1) := by decide +kernel
theorem own_d3_13 : decode method_3_code 13 = .ok (.lload_n 1, 1) := by decide +kernel
theorem own_d3_14 : decode method_3_code 14 = .ok (.lcmp, 1) := by decide +kernel
theorem own_d3_15 : decode method_3_code 15 = .ok (.ifCond .gt 6, 3) := by decide +kernel
theorem own_d3_18 : decode method_3_code 18 = .ok (.iinc 4 1, 3) := by decide +kernel
theorem own_d3_21 : decode method_3_code 21 = .ok (.iload_n 3, 1) := by decide +kernel
theorem own_d3_22 : decode method_3_code 22 = .ok (.iconst 1, 1) := by decide +kernel
theorem own_d3_23 : decode method_3_code 23 = .ok (.if_icmp .le 14, 3) := by decide +kernel
theorem own_d3_37 : decode method_3_code 37 = .ok (.iload_n 3, 1) := by decide +kernel
theorem own_d3_38 : decode method_3_code 38 = .ok (.iconst 2, 1) := by decide +kernel
theorem own_d3_39 : decode method_3_code 39 = .ok (.if_icmp .le 14, 3) := by decide +kernel
theorem own_d3_53 : decode method_3_code 53 = .ok (.iload_n 3, 1) := by decide +kernel
theorem own_d3_54 : decode method_3_code 54 = .ok (.iconst 3, 1) := by decide +kernel
theorem own_d3_55 : decode method_3_code 55 = .ok (.if_icmp .le 14, 3) := by decide +kernel
theorem own_d3_69 : decode method_3_code 69 = .ok (.iload_n 3, 1) := by decide +kernel
theorem own_d3_70 : decode method_3_code 70 = .ok (.iconst 4, 1) := by decide +kernel
theorem own_d3_71 : decode method_3_code 71 = .ok (.if_icmp .le 14, 3) := by decide +kernel
theorem own_d3_85 : decode method_3_code 85 = .ok (.iload_n 3, 1) := by decide +kernel
theorem own_d3_86 : decode method_3_code 86 = .ok (.iconst 5, 1) := by decide +kernel
theorem own_d3_87 : decode method_3_code 87 = .ok (.if_icmp .le 14, 3) := by decide +kernel
theorem own_d3_101 : decode method_3_code 101 = .ok (.iload_n 3, 1) := by decide +kernel
theorem own_d3_102 : decode method_3_code 102 = .ok (.bipush 6, 2) := by decide +kernel
theorem own_d3_104 : decode method_3_code 104 = .ok (.if_icmp .le 15, 3) := by decide +kernel
theorem own_d3_119 : decode method_3_code 119 = .ok (.iload_n 3, 1) := by decide +kernel
theorem own_d3_120 : decode method_3_code 120 = .ok (.bipush 7, 2) := by decide +kernel
theorem own_d3_122 : decode method_3_code 122 = .ok (.if_icmp .le 15, 3) := by decide +kernel
theorem own_d3_137 : decode method_3_code 137 = .ok (.iload 4, 2) := by decide +kernel
theorem own_d3_139 : decode method_3_code 139 = .ok (.ireturn, 1) := by decide +kernel
def own_Q_rmcountLe1 (Z : State) (a1 : Addr) (ka : ClassId) (x0 q2 : Int64) (r : Int32) (h0 : Heap) (n0 : Nat) (v : Option Value) (h : Heap) (L : List Loc) : Prop := v = some (.int r) ∧ Fr n0 L ∧ h = h0
set_option maxRecDepth 65536 in
set_option maxHeartbeats 40000000 in
theorem rmcountLe1 (l : Launch) (Z : State) (a0 : Array Value) (hw : ∀ d ∈ tables_1, d.before a0 Z = true) (ws : List Jvm.Cond) (a1 : Addr) (ka : ClassId) (x0 q2 : Int64) (r : Int32) (h0 : Heap) (n0 : Nat) (O0 : Old Z n0 h0) (Va : Arv Z h0 a1 ka .long (1 : Int32) [(.long x0)] (.long (0 : Int64))) (hr : own_cle q2 [x0] 0 = r) :
    MetFree l (⟨"orderwire/bench/LatencyPercentilePinLaw", "countLe", "([JJ)I"⟩ : MethodName) (head1 (Jvm.Cond.code (⟨"orderwire/bench/LatencyPercentilePinLaw", "countLe", "([JJ)I"⟩ : MethodName) method_3_code 5 (some .int) :: ws) ({ frames := 0, cells := 0, slots := 0, locals := 0 } : Room)) (fun a U => a = #[(.ref a1), (.long q2)] ∧ Z.Warmed39 U.vm ∧ U.heap = h0) (fun _ _ _ _ _ => True) (fun _ U o U' => ∃ v L, o = .returned v ∧ own_Q_rmcountLe1 Z a1 ka x0 q2 r h0 n0 v U'.heap L ∧ FrameEnd U o U' L ({ frames := 0, cells := 0, slots := 0, locals := 0 } : Room).cells ({ frames := 0, cells := 0, slots := 0, locals := 0 } : Room).slots) := by
  refine MetFree.of_bodySF (plainFor_of_name own_pn1) hisR ?_
  intro p e s m args below meth c s₁ Bd hml0 hP hK
  obtain ⟨rfl, hZ, hh⟩ := hP
  have hx := Bd.exec
  have hby := Bd.bytes
  have hml : c.maxLocals = 5 := hml0
  have hown : s.vm.findClass "orderwire/bench/LatencyPercentilePinLaw" = some m.cls := findClass_of_methodNamed Bd.named
  have hnm := (name_of_methodNamed Bd.named Bd.method).1
  have X0 : Stand p l e ({ frames := 0, cells := 0, slots := 0, locals := 0 } : Room) s m #[(.ref a1), (.long q2)] below meth c s₁ [] 0 0 := Stand.of_body Bd
  have e0 : s₁.heap = h0 := by rw [← hh, Bd.state]; rfl
  have N0 := Fr.nil n0
  have Z0 : n0 ≤ h0.size := O0.1 ▸ O0.2.1
  have g0 : ∀ t, Steps p.tables e below (s₁.setTop (mkF m 0 #[.val (.ref a1), .val (.long q2), .second, .unset, .unset] [])) t → Steps p.tables e below (s₁.setTop (entryFrame m #[(.ref a1), (.long q2)] 5)) t := fun t k => castTop (own_ef3 m (a1) (q2)) k
  obtain ⟨c1, Ar1, cq1, S1, Nn1, Hh1, Gg1⟩ := id Va
  obtain ⟨c2, Ar2, cq2, S2, Nn2, Hh2, Gg2⟩ := id Va
  have hin2 : ¬ ((0 : Int32) < 0 ∨ c2.slots.size ≤ ((0 : Int32)).toNatClampNeg) := inb_of S2 ⟨by decide, by decide⟩
  have hat2 : c2.slots[((0 : Int32)).toNatClampNeg]? = some (.long x0) := Has.at Hh2 hin2 rfl
  have g3 : ∀ t, Steps p.tables e below (s₁.setTop (mkF m 15 #[.val (.ref a1), .val (.long q2), .second, .val (.int (1 : Int32)), .val (.int (0 : Int32))] [(.int (lcmpW x0 q2))])) t → Steps p.tables e below (s₁.setTop (entryFrame m #[(.ref a1), (.long q2)] 5)) t := by
    intro t k
    refine g0 t ?_
    show Steps p.tables e below (s₁.setTop (mkF m 0 #[.val (.ref a1), .val (.long q2), .second, .unset, .unset] [])) _
    refine XS.aloadN X0.here hx rfl (hb hby own_d3_0) rfl rfl ?_
    show Steps p.tables e below (s₁.setTop (mkF m 1 #[.val (.ref a1), .val (.long q2), .second, .unset, .unset] [(.ref a1)])) _
    refine X0.arraylength hx (by rw [e0]; exact Ar1.1) (State.isArrayOf_alike hZ.alike Ar1.2.1) (g := (mkF m 1 #[.val (.ref a1), .val (.long q2), .second, .unset, .unset] [(.ref a1)])) rfl rfl (hb hby own_d3_1) _ ?_
    rw [len_of S1 Nn1]
    show Steps p.tables e below (s₁.setTop (mkF m 2 #[.val (.ref a1), .val (.long q2), .second, .unset, .unset] [(.int (1 : Int32))])) _
    refine XS.istoreN X0.here hx rfl (hb hby own_d3_2) rfl (l' := #[.val (.ref a1), .val (.long q2), .second, .val (.int (1 : Int32)), .unset]) rfl ?_
    show Steps p.tables e below (s₁.setTop (mkF m 3 #[.val (.ref a1), .val (.long q2), .second, .val (.int (1 : Int32)), .unset] [])) _
    refine XS.iconst X0.here hx rfl (hb hby own_d3_3) ?_
    show Steps p.tables e below (s₁.setTop (mkF m 4 #[.val (.ref a1), .val (.long q2), .second, .val (.int (1 : Int32)), .unset] [(.int (0 : Int32))])) _
    refine XS.istore X0.here hx rfl (hb hby own_d3_4) rfl (l' := #[.val (.ref a1), .val (.long q2), .second, .val (.int (1 : Int32)), .val (.int (0 : Int32))]) rfl ?_
    show Steps p.tables e below (s₁.setTop (mkF m 6 #[.val (.ref a1), .val (.long q2), .second, .val (.int (1 : Int32)), .val (.int (0 : Int32))] [])) _
    refine XS.iloadN X0.here hx rfl (hb hby own_d3_6) rfl ?_
    show Steps p.tables e below (s₁.setTop (mkF m 7 #[.val (.ref a1), .val (.long q2), .second, .val (.int (1 : Int32)), .val (.int (0 : Int32))] [(.int (1 : Int32))])) _
    refine XS.ifNo X0.here hx rfl (hb hby own_d3_7) rfl ((if0 _ _).trans (tlt (by decide : (0 : Int32) < (1 : Int32))).2.2.2) ?_
    show Steps p.tables e below (s₁.setTop (mkF m 10 #[.val (.ref a1), .val (.long q2), .second, .val (.int (1 : Int32)), .val (.int (0 : Int32))] [])) _
    refine XS.aloadN X0.here hx rfl (hb hby own_d3_10) rfl rfl ?_
    show Steps p.tables e below (s₁.setTop (mkF m 11 #[.val (.ref a1), .val (.long q2), .second, .val (.int (1 : Int32)), .val (.int (0 : Int32))] [(.ref a1)])) _
    refine XS.iconst X0.here hx rfl (hb hby own_d3_11) ?_
    show Steps p.tables e below (s₁.setTop (mkF m 12 #[.val (.ref a1), .val (.long q2), .second, .val (.int (1 : Int32)), .val (.int (0 : Int32))] [(.int (0 : Int32)), (.ref a1)])) _
    refine X0.laload hx (j := (0 : Int32)) (v := (.long x0)) (by rw [e0]; exact Ar2.1) (State.isArrayOf_alike hZ.alike Ar2.2.1) Ar2.2.2 hin2 hat2 (g := (mkF m 12 #[.val (.ref a1), .val (.long q2), .second, .val (.int (1 : Int32)), .val (.int (0 : Int32))] [(.int (0 : Int32)), (.ref a1)])) rfl rfl (hb hby own_d3_12) _ ?_
    show Steps p.tables e below (s₁.setTop (mkF m 13 #[.val (.ref a1), .val (.long q2), .second, .val (.int (1 : Int32)), .val (.int (0 : Int32))] [(.long x0)])) _
    refine XS.lloadN X0.here hx rfl (hb hby own_d3_13) rfl ?_
    show Steps p.tables e below (s₁.setTop (mkF m 14 #[.val (.ref a1), .val (.long q2), .second, .val (.int (1 : Int32)), .val (.int (0 : Int32))] [(.long q2), (.long x0)])) _
    refine XS.lcmp X0.here hx rfl (hb hby own_d3_14) rfl ?_
    exact k
  obtain ⟨c1, hv_c1⟩ : ∃ z : Int32, z = (if q2 < x0 then (0 : Int32) else ((0 : Int32) + (1 : Int32))) := ⟨_, rfl⟩
  have g5 : ∀ t, Steps p.tables e below (s₁.setTop (mkF m 21 #[.val (.ref a1), .val (.long q2), .second, .val (.int (1 : Int32)), .val (.int c1)] [])) t → Steps p.tables e below (s₁.setTop (entryFrame m #[(.ref a1), (.long q2)] 5)) t := by
    intro t k
    by_cases hc4 : q2 < x0
    · rw [if_pos hc4] at hv_c1; rw [hv_c1] at k
      refine g3 t ?_
      show Steps p.tables e below (s₁.setTop (mkF m 15 #[.val (.ref a1), .val (.long q2), .second, .val (.int (1 : Int32)), .val (.int (0 : Int32))] [(.int (lcmpW x0 q2))])) _
      refine XS.ifYes X0.here hx rfl (pc0 := 15) (pc' := 21) rfl (hb hby own_d3_15) rfl ((if0 _ _).trans (tlt ((lw_gt _ _).mpr hc4)).2.2.1) (by decide) (by decide) ?_
      exact k
    · rw [if_neg hc4] at hv_c1; rw [hv_c1] at k
      refine g3 t ?_
      show Steps p.tables e below (s₁.setTop (mkF m 15 #[.val (.ref a1), .val (.long q2), .second, .val (.int (1 : Int32)), .val (.int (0 : Int32))] [(.int (lcmpW x0 q2))])) _
      refine XS.ifNo X0.here hx rfl (hb hby own_d3_15) rfl ((if0 _ _).trans (flt (fun q => hc4 ((lw_gt _ _).mp q))).2.2.1) ?_
      show Steps p.tables e below (s₁.setTop (mkF m 18 #[.val (.ref a1), .val (.long q2), .second, .val (.int (1 : Int32)), .val (.int (0 : Int32))] [])) _
      refine XS.iinc X0.here hx rfl (hb hby own_d3_18) rfl (l' := #[.val (.ref a1), .val (.long q2), .second, .val (.int (1 : Int32)), .val (.int ((0 : Int32) + (1 : Int32)))]) rfl ?_
      exact k
  have g6 : ∀ t, Steps p.tables e below (s₁.setTop (mkF m 139 #[.val (.ref a1), .val (.long q2), .second, .val (.int (1 : Int32)), .val (.int c1)] [(.int c1)])) t → Steps p.tables e below (s₁.setTop (entryFrame m #[(.ref a1), (.long q2)] 5)) t := by
    intro t k
    refine g5 t ?_
    show Steps p.tables e below (s₁.setTop (mkF m 21 #[.val (.ref a1), .val (.long q2), .second, .val (.int (1 : Int32)), .val (.int c1)] [])) _
    refine XS.iloadN X0.here hx rfl (hb hby own_d3_21) rfl ?_
    show Steps p.tables e below (s₁.setTop (mkF m 22 #[.val (.ref a1), .val (.long q2), .second, .val (.int (1 : Int32)), .val (.int c1)] [(.int (1 : Int32))])) _
    refine XS.iconst X0.here hx rfl (hb hby own_d3_22) ?_
    show Steps p.tables e below (s₁.setTop (mkF m 23 #[.val (.ref a1), .val (.long q2), .second, .val (.int (1 : Int32)), .val (.int c1)] [(.int (1 : Int32)), (.int (1 : Int32))])) _
    refine XS.icmpYes X0.here hx rfl (pc0 := 23) (pc' := 37) rfl (hb hby own_d3_23) rfl (flt (by decide : ¬ ((1 : Int32) < (1 : Int32)))).2.2.2 (by decide) (by decide) ?_
    show Steps p.tables e below (s₁.setTop (mkF m 37 #[.val (.ref a1), .val (.long q2), .second, .val (.int (1 : Int32)), .val (.int c1)] [])) _
    refine XS.iloadN X0.here hx rfl (hb hby own_d3_37) rfl ?_
    show Steps p.tables e below (s₁.setTop (mkF m 38 #[.val (.ref a1), .val (.long q2), .second, .val (.int (1 : Int32)), .val (.int c1)] [(.int (1 : Int32))])) _
    refine XS.iconst X0.here hx rfl (hb hby own_d3_38) ?_
    show Steps p.tables e below (s₁.setTop (mkF m 39 #[.val (.ref a1), .val (.long q2), .second, .val (.int (1 : Int32)), .val (.int c1)] [(.int (2 : Int32)), (.int (1 : Int32))])) _
    refine XS.icmpYes X0.here hx rfl (pc0 := 39) (pc' := 53) rfl (hb hby own_d3_39) rfl (flt (by decide : ¬ ((2 : Int32) < (1 : Int32)))).2.2.2 (by decide) (by decide) ?_
    show Steps p.tables e below (s₁.setTop (mkF m 53 #[.val (.ref a1), .val (.long q2), .second, .val (.int (1 : Int32)), .val (.int c1)] [])) _
    refine XS.iloadN X0.here hx rfl (hb hby own_d3_53) rfl ?_
    show Steps p.tables e below (s₁.setTop (mkF m 54 #[.val (.ref a1), .val (.long q2), .second, .val (.int (1 : Int32)), .val (.int c1)] [(.int (1 : Int32))])) _
    refine XS.iconst X0.here hx rfl (hb hby own_d3_54) ?_
    show Steps p.tables e below (s₁.setTop (mkF m 55 #[.val (.ref a1), .val (.long q2), .second, .val (.int (1 : Int32)), .val (.int c1)] [(.int (3 : Int32)), (.int (1 : Int32))])) _
    refine XS.icmpYes X0.here hx rfl (pc0 := 55) (pc' := 69) rfl (hb hby own_d3_55) rfl (flt (by decide : ¬ ((3 : Int32) < (1 : Int32)))).2.2.2 (by decide) (by decide) ?_
    show Steps p.tables e below (s₁.setTop (mkF m 69 #[.val (.ref a1), .val (.long q2), .second, .val (.int (1 : Int32)), .val (.int c1)] [])) _
    refine XS.iloadN X0.here hx rfl (hb hby own_d3_69) rfl ?_
    show Steps p.tables e below (s₁.setTop (mkF m 70 #[.val (.ref a1), .val (.long q2), .second, .val (.int (1 : Int32)), .val (.int c1)] [(.int (1 : Int32))])) _
    refine XS.iconst X0.here hx rfl (hb hby own_d3_70) ?_
    show Steps p.tables e below (s₁.setTop (mkF m 71 #[.val (.ref a1), .val (.long q2), .second, .val (.int (1 : Int32)), .val (.int c1)] [(.int (4 : Int32)), (.int (1 : Int32))])) _
    refine XS.icmpYes X0.here hx rfl (pc0 := 71) (pc' := 85) rfl (hb hby own_d3_71) rfl (flt (by decide : ¬ ((4 : Int32) < (1 : Int32)))).2.2.2 (by decide) (by decide) ?_
    show Steps p.tables e below (s₁.setTop (mkF m 85 #[.val (.ref a1), .val (.long q2), .second, .val (.int (1 : Int32)), .val (.int c1)] [])) _
    refine XS.iloadN X0.here hx rfl (hb hby own_d3_85) rfl ?_
    show Steps p.tables e below (s₁.setTop (mkF m 86 #[.val (.ref a1), .val (.long q2), .second, .val (.int (1 : Int32)), .val (.int c1)] [(.int (1 : Int32))])) _
    refine XS.iconst X0.here hx rfl (hb hby own_d3_86) ?_
    show Steps p.tables e below (s₁.setTop (mkF m 87 #[.val (.ref a1), .val (.long q2), .second, .val (.int (1 : Int32)), .val (.int c1)] [(.int (5 : Int32)), (.int (1 : Int32))])) _
    refine XS.icmpYes X0.here hx rfl (pc0 := 87) (pc' := 101) rfl (hb hby own_d3_87) rfl (flt (by decide : ¬ ((5 : Int32) < (1 : Int32)))).2.2.2 (by decide) (by decide) ?_
    show Steps p.tables e below (s₁.setTop (mkF m 101 #[.val (.ref a1), .val (.long q2), .second, .val (.int (1 : Int32)), .val (.int c1)] [])) _
    refine XS.iloadN X0.here hx rfl (hb hby own_d3_101) rfl ?_
    show Steps p.tables e below (s₁.setTop (mkF m 102 #[.val (.ref a1), .val (.long q2), .second, .val (.int (1 : Int32)), .val (.int c1)] [(.int (1 : Int32))])) _
    refine XS.bipush X0.here hx rfl (hb hby own_d3_102) ?_
    show Steps p.tables e below (s₁.setTop (mkF m 104 #[.val (.ref a1), .val (.long q2), .second, .val (.int (1 : Int32)), .val (.int c1)] [(.int (6 : Int32)), (.int (1 : Int32))])) _
    refine XS.icmpYes X0.here hx rfl (pc0 := 104) (pc' := 119) rfl (hb hby own_d3_104) rfl (flt (by decide : ¬ ((6 : Int32) < (1 : Int32)))).2.2.2 (by decide) (by decide) ?_
    show Steps p.tables e below (s₁.setTop (mkF m 119 #[.val (.ref a1), .val (.long q2), .second, .val (.int (1 : Int32)), .val (.int c1)] [])) _
    refine XS.iloadN X0.here hx rfl (hb hby own_d3_119) rfl ?_
    show Steps p.tables e below (s₁.setTop (mkF m 120 #[.val (.ref a1), .val (.long q2), .second, .val (.int (1 : Int32)), .val (.int c1)] [(.int (1 : Int32))])) _
    refine XS.bipush X0.here hx rfl (hb hby own_d3_120) ?_
    show Steps p.tables e below (s₁.setTop (mkF m 122 #[.val (.ref a1), .val (.long q2), .second, .val (.int (1 : Int32)), .val (.int c1)] [(.int (7 : Int32)), (.int (1 : Int32))])) _
    refine XS.icmpYes X0.here hx rfl (pc0 := 122) (pc' := 137) rfl (hb hby own_d3_122) rfl (flt (by decide : ¬ ((7 : Int32) < (1 : Int32)))).2.2.2 (by decide) (by decide) ?_
    show Steps p.tables e below (s₁.setTop (mkF m 137 #[.val (.ref a1), .val (.long q2), .second, .val (.int (1 : Int32)), .val (.int c1)] [])) _
    refine XS.iload X0.here hx rfl (hb hby own_d3_137) rfl ?_
    exact k
  obtain ⟨fs, hrt, hrun, hended, hW, hsame⟩ := X0.leave (v := some (.int c1)) (fun h => by rw [Bd.returns] at h; cases h)
  refine ⟨_, _, g6 _ ?_, hrun, hended, _, _, rfl, ?_, ⟨_, rfl⟩, hW, hsame.mono (by decide) (by decide)⟩
  · show Steps p.tables e below (s₁.setTop (mkF m 139 #[.val (.ref a1), .val (.long q2), .second, .val (.int (1 : Int32)), .val (.int c1)] [(.int c1)])) _
    exact retI X0 hx Bd.returns (hb hby own_d3_139) hrt
  · show own_Q_rmcountLe1 Z a1 ka x0 q2 r h0 n0 _ s₁.heap _
    rw [e0]
    exact ⟨by rw [← hr]; subst hv_c1; rfl, N0, rfl⟩
theorem own_ef4 (m : MethodId) (x0 : Addr) (x1 : Int64) : entryFrame m #[(.ref x0), (.long x1)] 5 = mkF m 0 #[.val (.ref x0), .val (.long x1), .second, .unset, .unset] [] := by first | (simp [entryFrame, mkF, argsToLocals, Value.category]; done) | rfl
theorem own_d4_0 : decode method_4_code 0 = .ok (.aload_n 0, 1) := by decide +kernel
theorem own_d4_1 : decode method_4_code 1 = .ok (.arraylength, 1) := by decide +kernel
theorem own_d4_2 : decode method_4_code 2 = .ok (.istore_n 3, 1) := by decide +kernel
theorem own_d4_3 : decode method_4_code 3 = .ok (.iconst 0, 1) := by decide +kernel
theorem own_d4_4 : decode method_4_code 4 = .ok (.istore 4, 2) := by decide +kernel
theorem own_d4_6 : decode method_4_code 6 = .ok (.iload_n 3, 1) := by decide +kernel
theorem own_d4_7 : decode method_4_code 7 = .ok (.ifCond .le 14, 3) := by decide +kernel
theorem own_d4_10 : decode method_4_code 10 = .ok (.aload_n 0, 1) := by decide +kernel
theorem own_d4_11 : decode method_4_code 11 = .ok (.iconst 0, 1) := by decide +kernel
theorem own_d4_12 : decode method_4_code 12 = .ok (.laload, 1) := by decide +kernel
theorem own_d4_13 : decode method_4_code 13 = .ok (.lload_n 1, 1) := by decide +kernel
theorem own_d4_14 : decode method_4_code 14 = .ok (.lcmp, 1) := by decide +kernel
theorem own_d4_15 : decode method_4_code 15 = .ok (.ifCond .ge 6, 3) := by decide +kernel
theorem own_d4_18 : decode method_4_code 18 = .ok (.iinc 4 1, 3) := by decide +kernel
theorem own_d4_21 : decode method_4_code 21 = .ok (.iload_n 3, 1) := by decide +kernel
theorem own_d4_22 : decode method_4_code 22 = .ok (.iconst 1, 1) := by decide +kernel
theorem own_d4_23 : decode method_4_code 23 = .ok (.if_icmp .le 14, 3) := by decide +kernel
theorem own_d4_37 : decode method_4_code 37 = .ok (.iload_n 3, 1) := by decide +kernel
theorem own_d4_38 : decode method_4_code 38 = .ok (.iconst 2, 1) := by decide +kernel
theorem own_d4_39 : decode method_4_code 39 = .ok (.if_icmp .le 14, 3) := by decide +kernel
theorem own_d4_53 : decode method_4_code 53 = .ok (.iload_n 3, 1) := by decide +kernel
theorem own_d4_54 : decode method_4_code 54 = .ok (.iconst 3, 1) := by decide +kernel
theorem own_d4_55 : decode method_4_code 55 = .ok (.if_icmp .le 14, 3) := by decide +kernel
theorem own_d4_69 : decode method_4_code 69 = .ok (.iload_n 3, 1) := by decide +kernel
theorem own_d4_70 : decode method_4_code 70 = .ok (.iconst 4, 1) := by decide +kernel
theorem own_d4_71 : decode method_4_code 71 = .ok (.if_icmp .le 14, 3) := by decide +kernel
theorem own_d4_85 : decode method_4_code 85 = .ok (.iload_n 3, 1) := by decide +kernel
theorem own_d4_86 : decode method_4_code 86 = .ok (.iconst 5, 1) := by decide +kernel
theorem own_d4_87 : decode method_4_code 87 = .ok (.if_icmp .le 14, 3) := by decide +kernel
theorem own_d4_101 : decode method_4_code 101 = .ok (.iload_n 3, 1) := by decide +kernel
theorem own_d4_102 : decode method_4_code 102 = .ok (.bipush 6, 2) := by decide +kernel
theorem own_d4_104 : decode method_4_code 104 = .ok (.if_icmp .le 15, 3) := by decide +kernel
theorem own_d4_119 : decode method_4_code 119 = .ok (.iload_n 3, 1) := by decide +kernel
theorem own_d4_120 : decode method_4_code 120 = .ok (.bipush 7, 2) := by decide +kernel
theorem own_d4_122 : decode method_4_code 122 = .ok (.if_icmp .le 15, 3) := by decide +kernel
theorem own_d4_137 : decode method_4_code 137 = .ok (.iload 4, 2) := by decide +kernel
theorem own_d4_139 : decode method_4_code 139 = .ok (.ireturn, 1) := by decide +kernel
def own_Q_rmcountLt1 (Z : State) (a1 : Addr) (ka : ClassId) (x0 q2 : Int64) (r : Int32) (h0 : Heap) (n0 : Nat) (v : Option Value) (h : Heap) (L : List Loc) : Prop := v = some (.int r) ∧ Fr n0 L ∧ h = h0
set_option maxRecDepth 65536 in
set_option maxHeartbeats 40000000 in
theorem rmcountLt1 (l : Launch) (Z : State) (a0 : Array Value) (hw : ∀ d ∈ tables_1, d.before a0 Z = true) (ws : List Jvm.Cond) (a1 : Addr) (ka : ClassId) (x0 q2 : Int64) (r : Int32) (h0 : Heap) (n0 : Nat) (O0 : Old Z n0 h0) (Va : Arv Z h0 a1 ka .long (1 : Int32) [(.long x0)] (.long (0 : Int64))) (hr : own_clt q2 [x0] 0 = r) :
    MetFree l (⟨"orderwire/bench/LatencyPercentilePinLaw", "countLt", "([JJ)I"⟩ : MethodName) (head1 (Jvm.Cond.code (⟨"orderwire/bench/LatencyPercentilePinLaw", "countLt", "([JJ)I"⟩ : MethodName) method_4_code 5 (some .int) :: ws) ({ frames := 0, cells := 0, slots := 0, locals := 0 } : Room)) (fun a U => a = #[(.ref a1), (.long q2)] ∧ Z.Warmed39 U.vm ∧ U.heap = h0) (fun _ _ _ _ _ => True) (fun _ U o U' => ∃ v L, o = .returned v ∧ own_Q_rmcountLt1 Z a1 ka x0 q2 r h0 n0 v U'.heap L ∧ FrameEnd U o U' L ({ frames := 0, cells := 0, slots := 0, locals := 0 } : Room).cells ({ frames := 0, cells := 0, slots := 0, locals := 0 } : Room).slots) := by
  refine MetFree.of_bodySF (plainFor_of_name own_pn1) hisR ?_
  intro p e s m args below meth c s₁ Bd hml0 hP hK
  obtain ⟨rfl, hZ, hh⟩ := hP
  have hx := Bd.exec
  have hby := Bd.bytes
  have hml : c.maxLocals = 5 := hml0
  have hown : s.vm.findClass "orderwire/bench/LatencyPercentilePinLaw" = some m.cls := findClass_of_methodNamed Bd.named
  have hnm := (name_of_methodNamed Bd.named Bd.method).1
  have X0 : Stand p l e ({ frames := 0, cells := 0, slots := 0, locals := 0 } : Room) s m #[(.ref a1), (.long q2)] below meth c s₁ [] 0 0 := Stand.of_body Bd
  have e0 : s₁.heap = h0 := by rw [← hh, Bd.state]; rfl
  have N0 := Fr.nil n0
  have Z0 : n0 ≤ h0.size := O0.1 ▸ O0.2.1
  have g0 : ∀ t, Steps p.tables e below (s₁.setTop (mkF m 0 #[.val (.ref a1), .val (.long q2), .second, .unset, .unset] [])) t → Steps p.tables e below (s₁.setTop (entryFrame m #[(.ref a1), (.long q2)] 5)) t := fun t k => castTop (own_ef4 m (a1) (q2)) k
  obtain ⟨c1, Ar1, cq1, S1, Nn1, Hh1, Gg1⟩ := id Va
  obtain ⟨c2, Ar2, cq2, S2, Nn2, Hh2, Gg2⟩ := id Va
  have hin2 : ¬ ((0 : Int32) < 0 ∨ c2.slots.size ≤ ((0 : Int32)).toNatClampNeg) := inb_of S2 ⟨by decide, by decide⟩
  have hat2 : c2.slots[((0 : Int32)).toNatClampNeg]? = some (.long x0) := Has.at Hh2 hin2 rfl
  have g3 : ∀ t, Steps p.tables e below (s₁.setTop (mkF m 15 #[.val (.ref a1), .val (.long q2), .second, .val (.int (1 : Int32)), .val (.int (0 : Int32))] [(.int (lcmpW x0 q2))])) t → Steps p.tables e below (s₁.setTop (entryFrame m #[(.ref a1), (.long q2)] 5)) t := by
    intro t k
    refine g0 t ?_
    show Steps p.tables e below (s₁.setTop (mkF m 0 #[.val (.ref a1), .val (.long q2), .second, .unset, .unset] [])) _
    refine XS.aloadN X0.here hx rfl (hb hby own_d4_0) rfl rfl ?_
    show Steps p.tables e below (s₁.setTop (mkF m 1 #[.val (.ref a1), .val (.long q2), .second, .unset, .unset] [(.ref a1)])) _
    refine X0.arraylength hx (by rw [e0]; exact Ar1.1) (State.isArrayOf_alike hZ.alike Ar1.2.1) (g := (mkF m 1 #[.val (.ref a1), .val (.long q2), .second, .unset, .unset] [(.ref a1)])) rfl rfl (hb hby own_d4_1) _ ?_
    rw [len_of S1 Nn1]
    show Steps p.tables e below (s₁.setTop (mkF m 2 #[.val (.ref a1), .val (.long q2), .second, .unset, .unset] [(.int (1 : Int32))])) _
    refine XS.istoreN X0.here hx rfl (hb hby own_d4_2) rfl (l' := #[.val (.ref a1), .val (.long q2), .second, .val (.int (1 : Int32)), .unset]) rfl ?_
    show Steps p.tables e below (s₁.setTop (mkF m 3 #[.val (.ref a1), .val (.long q2), .second, .val (.int (1 : Int32)), .unset] [])) _
    refine XS.iconst X0.here hx rfl (hb hby own_d4_3) ?_
    show Steps p.tables e below (s₁.setTop (mkF m 4 #[.val (.ref a1), .val (.long q2), .second, .val (.int (1 : Int32)), .unset] [(.int (0 : Int32))])) _
    refine XS.istore X0.here hx rfl (hb hby own_d4_4) rfl (l' := #[.val (.ref a1), .val (.long q2), .second, .val (.int (1 : Int32)), .val (.int (0 : Int32))]) rfl ?_
    show Steps p.tables e below (s₁.setTop (mkF m 6 #[.val (.ref a1), .val (.long q2), .second, .val (.int (1 : Int32)), .val (.int (0 : Int32))] [])) _
    refine XS.iloadN X0.here hx rfl (hb hby own_d4_6) rfl ?_
    show Steps p.tables e below (s₁.setTop (mkF m 7 #[.val (.ref a1), .val (.long q2), .second, .val (.int (1 : Int32)), .val (.int (0 : Int32))] [(.int (1 : Int32))])) _
    refine XS.ifNo X0.here hx rfl (hb hby own_d4_7) rfl ((if0 _ _).trans (tlt (by decide : (0 : Int32) < (1 : Int32))).2.2.2) ?_
    show Steps p.tables e below (s₁.setTop (mkF m 10 #[.val (.ref a1), .val (.long q2), .second, .val (.int (1 : Int32)), .val (.int (0 : Int32))] [])) _
    refine XS.aloadN X0.here hx rfl (hb hby own_d4_10) rfl rfl ?_
    show Steps p.tables e below (s₁.setTop (mkF m 11 #[.val (.ref a1), .val (.long q2), .second, .val (.int (1 : Int32)), .val (.int (0 : Int32))] [(.ref a1)])) _
    refine XS.iconst X0.here hx rfl (hb hby own_d4_11) ?_
    show Steps p.tables e below (s₁.setTop (mkF m 12 #[.val (.ref a1), .val (.long q2), .second, .val (.int (1 : Int32)), .val (.int (0 : Int32))] [(.int (0 : Int32)), (.ref a1)])) _
    refine X0.laload hx (j := (0 : Int32)) (v := (.long x0)) (by rw [e0]; exact Ar2.1) (State.isArrayOf_alike hZ.alike Ar2.2.1) Ar2.2.2 hin2 hat2 (g := (mkF m 12 #[.val (.ref a1), .val (.long q2), .second, .val (.int (1 : Int32)), .val (.int (0 : Int32))] [(.int (0 : Int32)), (.ref a1)])) rfl rfl (hb hby own_d4_12) _ ?_
    show Steps p.tables e below (s₁.setTop (mkF m 13 #[.val (.ref a1), .val (.long q2), .second, .val (.int (1 : Int32)), .val (.int (0 : Int32))] [(.long x0)])) _
    refine XS.lloadN X0.here hx rfl (hb hby own_d4_13) rfl ?_
    show Steps p.tables e below (s₁.setTop (mkF m 14 #[.val (.ref a1), .val (.long q2), .second, .val (.int (1 : Int32)), .val (.int (0 : Int32))] [(.long q2), (.long x0)])) _
    refine XS.lcmp X0.here hx rfl (hb hby own_d4_14) rfl ?_
    exact k
  obtain ⟨c1, hv_c1⟩ : ∃ z : Int32, z = (if x0 < q2 then ((0 : Int32) + (1 : Int32)) else (0 : Int32)) := ⟨_, rfl⟩
  have g5 : ∀ t, Steps p.tables e below (s₁.setTop (mkF m 21 #[.val (.ref a1), .val (.long q2), .second, .val (.int (1 : Int32)), .val (.int c1)] [])) t → Steps p.tables e below (s₁.setTop (entryFrame m #[(.ref a1), (.long q2)] 5)) t := by
    intro t k
    by_cases hc4 : x0 < q2
    · rw [if_pos hc4] at hv_c1; rw [hv_c1] at k
      refine g3 t ?_
      show Steps p.tables e below (s₁.setTop (mkF m 15 #[.val (.ref a1), .val (.long q2), .second, .val (.int (1 : Int32)), .val (.int (0 : Int32))] [(.int (lcmpW x0 q2))])) _
      refine XS.ifNo X0.here hx rfl (hb hby own_d4_15) rfl ((if0 _ _).trans (tlt ((lw_lt _ _).mpr hc4)).2.1) ?_
      show Steps p.tables e below (s₁.setTop (mkF m 18 #[.val (.ref a1), .val (.long q2), .second, .val (.int (1 : Int32)), .val (.int (0 : Int32))] [])) _
      refine XS.iinc X0.here hx rfl (hb hby own_d4_18) rfl (l' := #[.val (.ref a1), .val (.long q2), .second, .val (.int (1 : Int32)), .val (.int ((0 : Int32) + (1 : Int32)))]) rfl ?_
      exact k
    · rw [if_neg hc4] at hv_c1; rw [hv_c1] at k
      refine g3 t ?_
      show Steps p.tables e below (s₁.setTop (mkF m 15 #[.val (.ref a1), .val (.long q2), .second, .val (.int (1 : Int32)), .val (.int (0 : Int32))] [(.int (lcmpW x0 q2))])) _
      refine XS.ifYes X0.here hx rfl (pc0 := 15) (pc' := 21) rfl (hb hby own_d4_15) rfl ((if0 _ _).trans (flt (fun q => hc4 ((lw_lt _ _).mp q))).2.1) (by decide) (by decide) ?_
      exact k
  have g6 : ∀ t, Steps p.tables e below (s₁.setTop (mkF m 139 #[.val (.ref a1), .val (.long q2), .second, .val (.int (1 : Int32)), .val (.int c1)] [(.int c1)])) t → Steps p.tables e below (s₁.setTop (entryFrame m #[(.ref a1), (.long q2)] 5)) t := by
    intro t k
    refine g5 t ?_
    show Steps p.tables e below (s₁.setTop (mkF m 21 #[.val (.ref a1), .val (.long q2), .second, .val (.int (1 : Int32)), .val (.int c1)] [])) _
    refine XS.iloadN X0.here hx rfl (hb hby own_d4_21) rfl ?_
    show Steps p.tables e below (s₁.setTop (mkF m 22 #[.val (.ref a1), .val (.long q2), .second, .val (.int (1 : Int32)), .val (.int c1)] [(.int (1 : Int32))])) _
    refine XS.iconst X0.here hx rfl (hb hby own_d4_22) ?_
    show Steps p.tables e below (s₁.setTop (mkF m 23 #[.val (.ref a1), .val (.long q2), .second, .val (.int (1 : Int32)), .val (.int c1)] [(.int (1 : Int32)), (.int (1 : Int32))])) _
    refine XS.icmpYes X0.here hx rfl (pc0 := 23) (pc' := 37) rfl (hb hby own_d4_23) rfl (flt (by decide : ¬ ((1 : Int32) < (1 : Int32)))).2.2.2 (by decide) (by decide) ?_
    show Steps p.tables e below (s₁.setTop (mkF m 37 #[.val (.ref a1), .val (.long q2), .second, .val (.int (1 : Int32)), .val (.int c1)] [])) _
    refine XS.iloadN X0.here hx rfl (hb hby own_d4_37) rfl ?_
    show Steps p.tables e below (s₁.setTop (mkF m 38 #[.val (.ref a1), .val (.long q2), .second, .val (.int (1 : Int32)), .val (.int c1)] [(.int (1 : Int32))])) _
    refine XS.iconst X0.here hx rfl (hb hby own_d4_38) ?_
    show Steps p.tables e below (s₁.setTop (mkF m 39 #[.val (.ref a1), .val (.long q2), .second, .val (.int (1 : Int32)), .val (.int c1)] [(.int (2 : Int32)), (.int (1 : Int32))])) _
    refine XS.icmpYes X0.here hx rfl (pc0 := 39) (pc' := 53) rfl (hb hby own_d4_39) rfl (flt (by decide : ¬ ((2 : Int32) < (1 : Int32)))).2.2.2 (by decide) (by decide) ?_
    show Steps p.tables e below (s₁.setTop (mkF m 53 #[.val (.ref a1), .val (.long q2), .second, .val (.int (1 : Int32)), .val (.int c1)] [])) _
    refine XS.iloadN X0.here hx rfl (hb hby own_d4_53) rfl ?_
    show Steps p.tables e below (s₁.setTop (mkF m 54 #[.val (.ref a1), .val (.long q2), .second, .val (.int (1 : Int32)), .val (.int c1)] [(.int (1 : Int32))])) _
    refine XS.iconst X0.here hx rfl (hb hby own_d4_54) ?_
    show Steps p.tables e below (s₁.setTop (mkF m 55 #[.val (.ref a1), .val (.long q2), .second, .val (.int (1 : Int32)), .val (.int c1)] [(.int (3 : Int32)), (.int (1 : Int32))])) _
    refine XS.icmpYes X0.here hx rfl (pc0 := 55) (pc' := 69) rfl (hb hby own_d4_55) rfl (flt (by decide : ¬ ((3 : Int32) < (1 : Int32)))).2.2.2 (by decide) (by decide) ?_
    show Steps p.tables e below (s₁.setTop (mkF m 69 #[.val (.ref a1), .val (.long q2), .second, .val (.int (1 : Int32)), .val (.int c1)] [])) _
    refine XS.iloadN X0.here hx rfl (hb hby own_d4_69) rfl ?_
    show Steps p.tables e below (s₁.setTop (mkF m 70 #[.val (.ref a1), .val (.long q2), .second, .val (.int (1 : Int32)), .val (.int c1)] [(.int (1 : Int32))])) _
    refine XS.iconst X0.here hx rfl (hb hby own_d4_70) ?_
    show Steps p.tables e below (s₁.setTop (mkF m 71 #[.val (.ref a1), .val (.long q2), .second, .val (.int (1 : Int32)), .val (.int c1)] [(.int (4 : Int32)), (.int (1 : Int32))])) _
    refine XS.icmpYes X0.here hx rfl (pc0 := 71) (pc' := 85) rfl (hb hby own_d4_71) rfl (flt (by decide : ¬ ((4 : Int32) < (1 : Int32)))).2.2.2 (by decide) (by decide) ?_
    show Steps p.tables e below (s₁.setTop (mkF m 85 #[.val (.ref a1), .val (.long q2), .second, .val (.int (1 : Int32)), .val (.int c1)] [])) _
    refine XS.iloadN X0.here hx rfl (hb hby own_d4_85) rfl ?_
    show Steps p.tables e below (s₁.setTop (mkF m 86 #[.val (.ref a1), .val (.long q2), .second, .val (.int (1 : Int32)), .val (.int c1)] [(.int (1 : Int32))])) _
    refine XS.iconst X0.here hx rfl (hb hby own_d4_86) ?_
    show Steps p.tables e below (s₁.setTop (mkF m 87 #[.val (.ref a1), .val (.long q2), .second, .val (.int (1 : Int32)), .val (.int c1)] [(.int (5 : Int32)), (.int (1 : Int32))])) _
    refine XS.icmpYes X0.here hx rfl (pc0 := 87) (pc' := 101) rfl (hb hby own_d4_87) rfl (flt (by decide : ¬ ((5 : Int32) < (1 : Int32)))).2.2.2 (by decide) (by decide) ?_
    show Steps p.tables e below (s₁.setTop (mkF m 101 #[.val (.ref a1), .val (.long q2), .second, .val (.int (1 : Int32)), .val (.int c1)] [])) _
    refine XS.iloadN X0.here hx rfl (hb hby own_d4_101) rfl ?_
    show Steps p.tables e below (s₁.setTop (mkF m 102 #[.val (.ref a1), .val (.long q2), .second, .val (.int (1 : Int32)), .val (.int c1)] [(.int (1 : Int32))])) _
    refine XS.bipush X0.here hx rfl (hb hby own_d4_102) ?_
    show Steps p.tables e below (s₁.setTop (mkF m 104 #[.val (.ref a1), .val (.long q2), .second, .val (.int (1 : Int32)), .val (.int c1)] [(.int (6 : Int32)), (.int (1 : Int32))])) _
    refine XS.icmpYes X0.here hx rfl (pc0 := 104) (pc' := 119) rfl (hb hby own_d4_104) rfl (flt (by decide : ¬ ((6 : Int32) < (1 : Int32)))).2.2.2 (by decide) (by decide) ?_
    show Steps p.tables e below (s₁.setTop (mkF m 119 #[.val (.ref a1), .val (.long q2), .second, .val (.int (1 : Int32)), .val (.int c1)] [])) _
    refine XS.iloadN X0.here hx rfl (hb hby own_d4_119) rfl ?_
    show Steps p.tables e below (s₁.setTop (mkF m 120 #[.val (.ref a1), .val (.long q2), .second, .val (.int (1 : Int32)), .val (.int c1)] [(.int (1 : Int32))])) _
    refine XS.bipush X0.here hx rfl (hb hby own_d4_120) ?_
    show Steps p.tables e below (s₁.setTop (mkF m 122 #[.val (.ref a1), .val (.long q2), .second, .val (.int (1 : Int32)), .val (.int c1)] [(.int (7 : Int32)), (.int (1 : Int32))])) _
    refine XS.icmpYes X0.here hx rfl (pc0 := 122) (pc' := 137) rfl (hb hby own_d4_122) rfl (flt (by decide : ¬ ((7 : Int32) < (1 : Int32)))).2.2.2 (by decide) (by decide) ?_
    show Steps p.tables e below (s₁.setTop (mkF m 137 #[.val (.ref a1), .val (.long q2), .second, .val (.int (1 : Int32)), .val (.int c1)] [])) _
    refine XS.iload X0.here hx rfl (hb hby own_d4_137) rfl ?_
    exact k
  obtain ⟨fs, hrt, hrun, hended, hW, hsame⟩ := X0.leave (v := some (.int c1)) (fun h => by rw [Bd.returns] at h; cases h)
  refine ⟨_, _, g6 _ ?_, hrun, hended, _, _, rfl, ?_, ⟨_, rfl⟩, hW, hsame.mono (by decide) (by decide)⟩
  · show Steps p.tables e below (s₁.setTop (mkF m 139 #[.val (.ref a1), .val (.long q2), .second, .val (.int (1 : Int32)), .val (.int c1)] [(.int c1)])) _
    exact retI X0 hx Bd.returns (hb hby own_d4_139) hrt
  · show own_Q_rmcountLt1 Z a1 ka x0 q2 r h0 n0 _ s₁.heap _
    rw [e0]
    exact ⟨by rw [← hr]; subst hv_c1; rfl, N0, rfl⟩
theorem own_ef5 (m : MethodId) (x0 : Addr) (x1 : Int32) : entryFrame m #[(.ref x0), (.int x1)] 3 = mkF m 0 #[.val (.ref x0), .val (.int x1), .unset] [] := by first | (simp [entryFrame, mkF, argsToLocals, Value.category]; done) | rfl
def own_Q_rmPct2 (Z : State) (a1 : Addr) (ka : ClassId) (x0 x1 r : Int64) (p2 j : Int32) (h0 : Heap) (n0 : Nat) (v : Option Value) (h : Heap) (L : List Loc) : Prop := v = some (.long r) ∧ Fr n0 L ∧ h = h0
set_option maxRecDepth 65536 in
set_option maxHeartbeats 40000000 in
theorem rmPct2 (l : Launch) (Z : State) (a0 : Array Value) (hw : ∀ d ∈ tables_1, d.before a0 Z = true) (ws : List Jvm.Cond) (a1 : Addr) (ka : ClassId) (x0 x1 r : Int64) (p2 j : Int32) (h0 : Heap) (n0 : Nat) (O0 : Old Z n0 h0) (Va : Arv Z h0 a1 ka .long (2 : Int32) [(.long x0), (.long x1)] (.long (0 : Int64))) (hj : (((((((2 : Int32).toInt64) * (p2.toInt64)) + (99 : Int64)) / (100 : Int64)).toInt32) - (1 : Int32)) = j) (hj0 : ¬ j < 0) (hj1 : j < (2 : Int32)) (hjr : ([(.long x0), (.long x1)] : List Value).getD j.toNatClampNeg (.long (0 : Int64)) = .long r) :
    MetFree l (⟨"orderwire/bench/Latency", "percentile", "([JI)J"⟩ : MethodName) (head1 (Jvm.Cond.code (⟨"orderwire/bench/Latency", "percentile", "([JI)J"⟩ : MethodName) prog_6_method_9_code 3 (some .long) :: ws) ({ frames := 0, cells := 0, slots := 0, locals := 0 } : Room)) (fun a U => a = #[(.ref a1), (.int p2)] ∧ Z.Warmed39 U.vm ∧ U.heap = h0) (fun _ _ _ _ _ => True) (fun _ U o U' => ∃ v L, o = .returned v ∧ own_Q_rmPct2 Z a1 ka x0 x1 r p2 j h0 n0 v U'.heap L ∧ FrameEnd U o U' L ({ frames := 0, cells := 0, slots := 0, locals := 0 } : Room).cells ({ frames := 0, cells := 0, slots := 0, locals := 0 } : Room).slots) := by
  refine MetFree.of_bodySF (plainFor_of_name own_pn0) hisR ?_
  intro p e s m args below meth c s₁ Bd hml0 hP hK
  obtain ⟨rfl, hZ, hh⟩ := hP
  have hx := Bd.exec
  have hby := Bd.bytes
  have hml : c.maxLocals = 3 := hml0
  have hown : s.vm.findClass "orderwire/bench/Latency" = some m.cls := findClass_of_methodNamed Bd.named
  have hnm := (name_of_methodNamed Bd.named Bd.method).1
  have X0 : Stand p l e ({ frames := 0, cells := 0, slots := 0, locals := 0 } : Room) s m #[(.ref a1), (.int p2)] below meth c s₁ [] 0 0 := Stand.of_body Bd
  have e0 : s₁.heap = h0 := by rw [← hh, Bd.state]; rfl
  have N0 := Fr.nil n0
  have Z0 : n0 ≤ h0.size := O0.1 ▸ O0.2.1
  have g0 : ∀ t, Steps p.tables e below (s₁.setTop (mkF m 0 #[.val (.ref a1), .val (.int p2), .unset] [])) t → Steps p.tables e below (s₁.setTop (entryFrame m #[(.ref a1), (.int p2)] 3)) t := fun t k => castTop (own_ef5 m (a1) (p2)) k
  obtain ⟨c1, Ar1, cq1, S1, Nn1, Hh1, Gg1⟩ := id Va
  have g2 : ∀ t, Steps p.tables e below (s₁.setTop (mkF m 20 #[.val (.ref a1), .val (.int p2), .val (.int ((((((2 : Int32).toInt64) * (p2.toInt64)) + (99 : Int64)) / (100 : Int64)).toInt32))] [(.int j), (.ref a1)])) t → Steps p.tables e below (s₁.setTop (entryFrame m #[(.ref a1), (.int p2)] 3)) t := by
    intro t k
    rw [← hj] at k
    refine g0 t ?_
    show Steps p.tables e below (s₁.setTop (mkF m 0 #[.val (.ref a1), .val (.int p2), .unset] [])) _
    refine XS.aloadN X0.here hx rfl (hb hby own_d2_0) rfl rfl ?_
    show Steps p.tables e below (s₁.setTop (mkF m 1 #[.val (.ref a1), .val (.int p2), .unset] [(.ref a1)])) _
    refine X0.arraylength hx (by rw [e0]; exact Ar1.1) (State.isArrayOf_alike hZ.alike Ar1.2.1) (g := (mkF m 1 #[.val (.ref a1), .val (.int p2), .unset] [(.ref a1)])) rfl rfl (hb hby own_d2_1) _ ?_
    rw [len_of S1 Nn1]
    show Steps p.tables e below (s₁.setTop (mkF m 2 #[.val (.ref a1), .val (.int p2), .unset] [(.int (2 : Int32))])) _
    refine XS.i2l X0.here hx rfl (hb hby own_d2_2) rfl ?_
    show Steps p.tables e below (s₁.setTop (mkF m 3 #[.val (.ref a1), .val (.int p2), .unset] [(.long ((2 : Int32).toInt64))])) _
    refine XS.iloadN X0.here hx rfl (hb hby own_d2_3) rfl ?_
    show Steps p.tables e below (s₁.setTop (mkF m 4 #[.val (.ref a1), .val (.int p2), .unset] [(.int p2), (.long ((2 : Int32).toInt64))])) _
    refine XS.i2l X0.here hx rfl (hb hby own_d2_4) rfl ?_
    show Steps p.tables e below (s₁.setTop (mkF m 5 #[.val (.ref a1), .val (.int p2), .unset] [(.long (p2.toInt64)), (.long ((2 : Int32).toInt64))])) _
    refine XS.lmul X0.here hx rfl (hb hby own_d2_5) rfl ?_
    show Steps p.tables e below (s₁.setTop (mkF m 6 #[.val (.ref a1), .val (.int p2), .unset] [(.long (((2 : Int32).toInt64) * (p2.toInt64)))])) _
    refine X0.ldc2Long hx hown (mvT hZ (hw _ (List.mem_of_getElem? (i := 11) rfl))) (g := (mkF m 6 #[.val (.ref a1), .val (.int p2), .unset] [(.long (((2 : Int32).toInt64) * (p2.toInt64)))])) rfl (hb hby own_d2_6) _ ?_
    show Steps p.tables e below (s₁.setTop (mkF m 9 #[.val (.ref a1), .val (.int p2), .unset] [(.long (99 : Int64)), (.long (((2 : Int32).toInt64) * (p2.toInt64)))])) _
    refine XS.ladd X0.here hx rfl (hb hby own_d2_9) rfl ?_
    show Steps p.tables e below (s₁.setTop (mkF m 10 #[.val (.ref a1), .val (.int p2), .unset] [(.long ((((2 : Int32).toInt64) * (p2.toInt64)) + (99 : Int64)))])) _
    refine X0.ldc2Long hx hown (mvT hZ (hw _ (List.mem_of_getElem? (i := 12) rfl))) (g := (mkF m 10 #[.val (.ref a1), .val (.int p2), .unset] [(.long ((((2 : Int32).toInt64) * (p2.toInt64)) + (99 : Int64)))])) rfl (hb hby own_d2_10) _ ?_
    show Steps p.tables e below (s₁.setTop (mkF m 13 #[.val (.ref a1), .val (.int p2), .unset] [(.long (100 : Int64)), (.long ((((2 : Int32).toInt64) * (p2.toInt64)) + (99 : Int64)))])) _
    refine XS.ldiv X0.here hx rfl (hb hby own_d2_13) rfl (by decide) ?_
    show Steps p.tables e below (s₁.setTop (mkF m 14 #[.val (.ref a1), .val (.int p2), .unset] [(.long (((((2 : Int32).toInt64) * (p2.toInt64)) + (99 : Int64)) / (100 : Int64)))])) _
    refine XS.l2i X0.here hx rfl (hb hby own_d2_14) rfl ?_
    show Steps p.tables e below (s₁.setTop (mkF m 15 #[.val (.ref a1), .val (.int p2), .unset] [(.int ((((((2 : Int32).toInt64) * (p2.toInt64)) + (99 : Int64)) / (100 : Int64)).toInt32))])) _
    refine XS.istoreN X0.here hx rfl (hb hby own_d2_15) rfl (l' := #[.val (.ref a1), .val (.int p2), .val (.int ((((((2 : Int32).toInt64) * (p2.toInt64)) + (99 : Int64)) / (100 : Int64)).toInt32))]) rfl ?_
    show Steps p.tables e below (s₁.setTop (mkF m 16 #[.val (.ref a1), .val (.int p2), .val (.int ((((((2 : Int32).toInt64) * (p2.toInt64)) + (99 : Int64)) / (100 : Int64)).toInt32))] [])) _
    refine XS.aloadN X0.here hx rfl (hb hby own_d2_16) rfl rfl ?_
    show Steps p.tables e below (s₁.setTop (mkF m 17 #[.val (.ref a1), .val (.int p2), .val (.int ((((((2 : Int32).toInt64) * (p2.toInt64)) + (99 : Int64)) / (100 : Int64)).toInt32))] [(.ref a1)])) _
    refine XS.iloadN X0.here hx rfl (hb hby own_d2_17) rfl ?_
    show Steps p.tables e below (s₁.setTop (mkF m 18 #[.val (.ref a1), .val (.int p2), .val (.int ((((((2 : Int32).toInt64) * (p2.toInt64)) + (99 : Int64)) / (100 : Int64)).toInt32))] [(.int ((((((2 : Int32).toInt64) * (p2.toInt64)) + (99 : Int64)) / (100 : Int64)).toInt32)), (.ref a1)])) _
    refine XS.iconst X0.here hx rfl (hb hby own_d2_18) ?_
    show Steps p.tables e below (s₁.setTop (mkF m 19 #[.val (.ref a1), .val (.int p2), .val (.int ((((((2 : Int32).toInt64) * (p2.toInt64)) + (99 : Int64)) / (100 : Int64)).toInt32))] [(.int (1 : Int32)), (.int ((((((2 : Int32).toInt64) * (p2.toInt64)) + (99 : Int64)) / (100 : Int64)).toInt32)), (.ref a1)])) _
    refine XS.isub X0.here hx rfl (hb hby own_d2_19) rfl ?_
    exact k
  obtain ⟨c3, Ar3, cq3, S3, Nn3, Hh3, Gg3⟩ := id Va
  have hin3 : ¬ (j < 0 ∨ c3.slots.size ≤ (j).toNatClampNeg) := inb_of S3 ⟨hj0, hj1⟩
  have hat3 : c3.slots[(j).toNatClampNeg]? = some (.long r) := Has.at Hh3 hin3 hjr
  have g4 : ∀ t, Steps p.tables e below (s₁.setTop (mkF m 21 #[.val (.ref a1), .val (.int p2), .val (.int ((((((2 : Int32).toInt64) * (p2.toInt64)) + (99 : Int64)) / (100 : Int64)).toInt32))] [(.long r)])) t → Steps p.tables e below (s₁.setTop (entryFrame m #[(.ref a1), (.int p2)] 3)) t := by
    intro t k
    refine g2 t ?_
    show Steps p.tables e below (s₁.setTop (mkF m 20 #[.val (.ref a1), .val (.int p2), .val (.int ((((((2 : Int32).toInt64) * (p2.toInt64)) + (99 : Int64)) / (100 : Int64)).toInt32))] [(.int j), (.ref a1)])) _
    refine X0.laload hx (j := j) (v := (.long r)) (by rw [e0]; exact Ar3.1) (State.isArrayOf_alike hZ.alike Ar3.2.1) Ar3.2.2 hin3 hat3 (g := (mkF m 20 #[.val (.ref a1), .val (.int p2), .val (.int ((((((2 : Int32).toInt64) * (p2.toInt64)) + (99 : Int64)) / (100 : Int64)).toInt32))] [(.int j), (.ref a1)])) rfl rfl (hb hby own_d2_20) _ ?_
    exact k
  obtain ⟨fs, hrt, hrun, hended, hW, hsame⟩ := X0.leave (v := some (.long r)) (fun h => by rw [Bd.returns] at h; cases h)
  refine ⟨_, _, g4 _ ?_, hrun, hended, _, _, rfl, ?_, ⟨_, rfl⟩, hW, hsame.mono (by decide) (by decide)⟩
  · show Steps p.tables e below (s₁.setTop (mkF m 21 #[.val (.ref a1), .val (.int p2), .val (.int ((((((2 : Int32).toInt64) * (p2.toInt64)) + (99 : Int64)) / (100 : Int64)).toInt32))] [(.long r)])) _
    exact X0.lreturnOut hx Bd.returns (hb hby own_d2_21) hrt
  · show own_Q_rmPct2 Z a1 ka x0 x1 r p2 j h0 n0 _ s₁.heap _
    rw [e0]
    exact ⟨rfl, N0, rfl⟩
theorem own_ef6 (m : MethodId) (x0 : Addr) (x1 : Int64) : entryFrame m #[(.ref x0), (.long x1)] 5 = mkF m 0 #[.val (.ref x0), .val (.long x1), .second, .unset, .unset] [] := by first | (simp [entryFrame, mkF, argsToLocals, Value.category]; done) | rfl
theorem own_d3_26 : decode method_3_code 26 = .ok (.aload_n 0, 1) := by decide +kernel
theorem own_d3_27 : decode method_3_code 27 = .ok (.iconst 1, 1) := by decide +kernel
theorem own_d3_28 : decode method_3_code 28 = .ok (.laload, 1) := by decide +kernel
theorem own_d3_29 : decode method_3_code 29 = .ok (.lload_n 1, 1) := by decide +kernel
theorem own_d3_30 : decode method_3_code 30 = .ok (.lcmp, 1) := by decide +kernel
theorem own_d3_31 : decode method_3_code 31 = .ok (.ifCond .gt 6, 3) := by decide +kernel
theorem own_d3_34 : decode method_3_code 34 = .ok (.iinc 4 1, 3) := by decide +kernel
def own_Q_rmcountLe2 (Z : State) (a1 : Addr) (ka : ClassId) (x0 x1 q2 : Int64) (r : Int32) (h0 : Heap) (n0 : Nat) (v : Option Value) (h : Heap) (L : List Loc) : Prop := v = some (.int r) ∧ Fr n0 L ∧ h = h0
set_option maxRecDepth 65536 in
set_option maxHeartbeats 40000000 in
theorem rmcountLe2 (l : Launch) (Z : State) (a0 : Array Value) (hw : ∀ d ∈ tables_1, d.before a0 Z = true) (ws : List Jvm.Cond) (a1 : Addr) (ka : ClassId) (x0 x1 q2 : Int64) (r : Int32) (h0 : Heap) (n0 : Nat) (O0 : Old Z n0 h0) (Va : Arv Z h0 a1 ka .long (2 : Int32) [(.long x0), (.long x1)] (.long (0 : Int64))) (hr : own_cle q2 [x0, x1] 0 = r) :
    MetFree l (⟨"orderwire/bench/LatencyPercentilePinLaw", "countLe", "([JJ)I"⟩ : MethodName) (head1 (Jvm.Cond.code (⟨"orderwire/bench/LatencyPercentilePinLaw", "countLe", "([JJ)I"⟩ : MethodName) method_3_code 5 (some .int) :: ws) ({ frames := 0, cells := 0, slots := 0, locals := 0 } : Room)) (fun a U => a = #[(.ref a1), (.long q2)] ∧ Z.Warmed39 U.vm ∧ U.heap = h0) (fun _ _ _ _ _ => True) (fun _ U o U' => ∃ v L, o = .returned v ∧ own_Q_rmcountLe2 Z a1 ka x0 x1 q2 r h0 n0 v U'.heap L ∧ FrameEnd U o U' L ({ frames := 0, cells := 0, slots := 0, locals := 0 } : Room).cells ({ frames := 0, cells := 0, slots := 0, locals := 0 } : Room).slots) := by
  refine MetFree.of_bodySF (plainFor_of_name own_pn1) hisR ?_
  intro p e s m args below meth c s₁ Bd hml0 hP hK
  obtain ⟨rfl, hZ, hh⟩ := hP
  have hx := Bd.exec
  have hby := Bd.bytes
  have hml : c.maxLocals = 5 := hml0
  have hown : s.vm.findClass "orderwire/bench/LatencyPercentilePinLaw" = some m.cls := findClass_of_methodNamed Bd.named
  have hnm := (name_of_methodNamed Bd.named Bd.method).1
  have X0 : Stand p l e ({ frames := 0, cells := 0, slots := 0, locals := 0 } : Room) s m #[(.ref a1), (.long q2)] below meth c s₁ [] 0 0 := Stand.of_body Bd
  have e0 : s₁.heap = h0 := by rw [← hh, Bd.state]; rfl
  have N0 := Fr.nil n0
  have Z0 : n0 ≤ h0.size := O0.1 ▸ O0.2.1
  have g0 : ∀ t, Steps p.tables e below (s₁.setTop (mkF m 0 #[.val (.ref a1), .val (.long q2), .second, .unset, .unset] [])) t → Steps p.tables e below (s₁.setTop (entryFrame m #[(.ref a1), (.long q2)] 5)) t := fun t k => castTop (own_ef6 m (a1) (q2)) k
  obtain ⟨c1, Ar1, cq1, S1, Nn1, Hh1, Gg1⟩ := id Va
  obtain ⟨c2, Ar2, cq2, S2, Nn2, Hh2, Gg2⟩ := id Va
  have hin2 : ¬ ((0 : Int32) < 0 ∨ c2.slots.size ≤ ((0 : Int32)).toNatClampNeg) := inb_of S2 ⟨by decide, by decide⟩
  have hat2 : c2.slots[((0 : Int32)).toNatClampNeg]? = some (.long x0) := Has.at Hh2 hin2 rfl
  have g3 : ∀ t, Steps p.tables e below (s₁.setTop (mkF m 15 #[.val (.ref a1), .val (.long q2), .second, .val (.int (2 : Int32)), .val (.int (0 : Int32))] [(.int (lcmpW x0 q2))])) t → Steps p.tables e below (s₁.setTop (entryFrame m #[(.ref a1), (.long q2)] 5)) t := by
    intro t k
    refine g0 t ?_
    show Steps p.tables e below (s₁.setTop (mkF m 0 #[.val (.ref a1), .val (.long q2), .second, .unset, .unset] [])) _
    refine XS.aloadN X0.here hx rfl (hb hby own_d3_0) rfl rfl ?_
    show Steps p.tables e below (s₁.setTop (mkF m 1 #[.val (.ref a1), .val (.long q2), .second, .unset, .unset] [(.ref a1)])) _
    refine X0.arraylength hx (by rw [e0]; exact Ar1.1) (State.isArrayOf_alike hZ.alike Ar1.2.1) (g := (mkF m 1 #[.val (.ref a1), .val (.long q2), .second, .unset, .unset] [(.ref a1)])) rfl rfl (hb hby own_d3_1) _ ?_
    rw [len_of S1 Nn1]
    show Steps p.tables e below (s₁.setTop (mkF m 2 #[.val (.ref a1), .val (.long q2), .second, .unset, .unset] [(.int (2 : Int32))])) _
    refine XS.istoreN X0.here hx rfl (hb hby own_d3_2) rfl (l' := #[.val (.ref a1), .val (.long q2), .second, .val (.int (2 : Int32)), .unset]) rfl ?_
    show Steps p.tables e below (s₁.setTop (mkF m 3 #[.val (.ref a1), .val (.long q2), .second, .val (.int (2 : Int32)), .unset] [])) _
    refine XS.iconst X0.here hx rfl (hb hby own_d3_3) ?_
    show Steps p.tables e below (s₁.setTop (mkF m 4 #[.val (.ref a1), .val (.long q2), .second, .val (.int (2 : Int32)), .unset] [(.int (0 : Int32))])) _
    refine XS.istore X0.here hx rfl (hb hby own_d3_4) rfl (l' := #[.val (.ref a1), .val (.long q2), .second, .val (.int (2 : Int32)), .val (.int (0 : Int32))]) rfl ?_
    show Steps p.tables e below (s₁.setTop (mkF m 6 #[.val (.ref a1), .val (.long q2), .second, .val (.int (2 : Int32)), .val (.int (0 : Int32))] [])) _
    refine XS.iloadN X0.here hx rfl (hb hby own_d3_6) rfl ?_
    show Steps p.tables e below (s₁.setTop (mkF m 7 #[.val (.ref a1), .val (.long q2), .second, .val (.int (2 : Int32)), .val (.int (0 : Int32))] [(.int (2 : Int32))])) _
    refine XS.ifNo X0.here hx rfl (hb hby own_d3_7) rfl ((if0 _ _).trans (tlt (by decide : (0 : Int32) < (2 : Int32))).2.2.2) ?_
    show Steps p.tables e below (s₁.setTop (mkF m 10 #[.val (.ref a1), .val (.long q2), .second, .val (.int (2 : Int32)), .val (.int (0 : Int32))] [])) _
    refine XS.aloadN X0.here hx rfl (hb hby own_d3_10) rfl rfl ?_
    show Steps p.tables e below (s₁.setTop (mkF m 11 #[.val (.ref a1), .val (.long q2), .second, .val (.int (2 : Int32)), .val (.int (0 : Int32))] [(.ref a1)])) _
    refine XS.iconst X0.here hx rfl (hb hby own_d3_11) ?_
    show Steps p.tables e below (s₁.setTop (mkF m 12 #[.val (.ref a1), .val (.long q2), .second, .val (.int (2 : Int32)), .val (.int (0 : Int32))] [(.int (0 : Int32)), (.ref a1)])) _
    refine X0.laload hx (j := (0 : Int32)) (v := (.long x0)) (by rw [e0]; exact Ar2.1) (State.isArrayOf_alike hZ.alike Ar2.2.1) Ar2.2.2 hin2 hat2 (g := (mkF m 12 #[.val (.ref a1), .val (.long q2), .second, .val (.int (2 : Int32)), .val (.int (0 : Int32))] [(.int (0 : Int32)), (.ref a1)])) rfl rfl (hb hby own_d3_12) _ ?_
    show Steps p.tables e below (s₁.setTop (mkF m 13 #[.val (.ref a1), .val (.long q2), .second, .val (.int (2 : Int32)), .val (.int (0 : Int32))] [(.long x0)])) _
    refine XS.lloadN X0.here hx rfl (hb hby own_d3_13) rfl ?_
    show Steps p.tables e below (s₁.setTop (mkF m 14 #[.val (.ref a1), .val (.long q2), .second, .val (.int (2 : Int32)), .val (.int (0 : Int32))] [(.long q2), (.long x0)])) _
    refine XS.lcmp X0.here hx rfl (hb hby own_d3_14) rfl ?_
    exact k
  obtain ⟨c1, hv_c1⟩ : ∃ z : Int32, z = (if q2 < x0 then (0 : Int32) else ((0 : Int32) + (1 : Int32))) := ⟨_, rfl⟩
  have g5 : ∀ t, Steps p.tables e below (s₁.setTop (mkF m 21 #[.val (.ref a1), .val (.long q2), .second, .val (.int (2 : Int32)), .val (.int c1)] [])) t → Steps p.tables e below (s₁.setTop (entryFrame m #[(.ref a1), (.long q2)] 5)) t := by
    intro t k
    by_cases hc4 : q2 < x0
    · rw [if_pos hc4] at hv_c1; rw [hv_c1] at k
      refine g3 t ?_
      show Steps p.tables e below (s₁.setTop (mkF m 15 #[.val (.ref a1), .val (.long q2), .second, .val (.int (2 : Int32)), .val (.int (0 : Int32))] [(.int (lcmpW x0 q2))])) _
      refine XS.ifYes X0.here hx rfl (pc0 := 15) (pc' := 21) rfl (hb hby own_d3_15) rfl ((if0 _ _).trans (tlt ((lw_gt _ _).mpr hc4)).2.2.1) (by decide) (by decide) ?_
      exact k
    · rw [if_neg hc4] at hv_c1; rw [hv_c1] at k
      refine g3 t ?_
      show Steps p.tables e below (s₁.setTop (mkF m 15 #[.val (.ref a1), .val (.long q2), .second, .val (.int (2 : Int32)), .val (.int (0 : Int32))] [(.int (lcmpW x0 q2))])) _
      refine XS.ifNo X0.here hx rfl (hb hby own_d3_15) rfl ((if0 _ _).trans (flt (fun q => hc4 ((lw_gt _ _).mp q))).2.2.1) ?_
      show Steps p.tables e below (s₁.setTop (mkF m 18 #[.val (.ref a1), .val (.long q2), .second, .val (.int (2 : Int32)), .val (.int (0 : Int32))] [])) _
      refine XS.iinc X0.here hx rfl (hb hby own_d3_18) rfl (l' := #[.val (.ref a1), .val (.long q2), .second, .val (.int (2 : Int32)), .val (.int ((0 : Int32) + (1 : Int32)))]) rfl ?_
      exact k
  obtain ⟨c6, Ar6, cq6, S6, Nn6, Hh6, Gg6⟩ := id Va
  have hin6 : ¬ ((1 : Int32) < 0 ∨ c6.slots.size ≤ ((1 : Int32)).toNatClampNeg) := inb_of S6 ⟨by decide, by decide⟩
  have hat6 : c6.slots[((1 : Int32)).toNatClampNeg]? = some (.long x1) := Has.at Hh6 hin6 rfl
  have g7 : ∀ t, Steps p.tables e below (s₁.setTop (mkF m 31 #[.val (.ref a1), .val (.long q2), .second, .val (.int (2 : Int32)), .val (.int c1)] [(.int (lcmpW x1 q2))])) t → Steps p.tables e below (s₁.setTop (entryFrame m #[(.ref a1), (.long q2)] 5)) t := by
    intro t k
    refine g5 t ?_
    show Steps p.tables e below (s₁.setTop (mkF m 21 #[.val (.ref a1), .val (.long q2), .second, .val (.int (2 : Int32)), .val (.int c1)] [])) _
    refine XS.iloadN X0.here hx rfl (hb hby own_d3_21) rfl ?_
    show Steps p.tables e below (s₁.setTop (mkF m 22 #[.val (.ref a1), .val (.long q2), .second, .val (.int (2 : Int32)), .val (.int c1)] [(.int (2 : Int32))])) _
    refine XS.iconst X0.here hx rfl (hb hby own_d3_22) ?_
    show Steps p.tables e below (s₁.setTop (mkF m 23 #[.val (.ref a1), .val (.long q2), .second, .val (.int (2 : Int32)), .val (.int c1)] [(.int (1 : Int32)), (.int (2 : Int32))])) _
    refine XS.icmpNo X0.here hx rfl (hb hby own_d3_23) rfl (tlt (by decide : (1 : Int32) < (2 : Int32))).2.2.2 ?_
    show Steps p.tables e below (s₁.setTop (mkF m 26 #[.val (.ref a1), .val (.long q2), .second, .val (.int (2 : Int32)), .val (.int c1)] [])) _
    refine XS.aloadN X0.here hx rfl (hb hby own_d3_26) rfl rfl ?_
    show Steps p.tables e below (s₁.setTop (mkF m 27 #[.val (.ref a1), .val (.long q2), .second, .val (.int (2 : Int32)), .val (.int c1)] [(.ref a1)])) _
    refine XS.iconst X0.here hx rfl (hb hby own_d3_27) ?_
    show Steps p.tables e below (s₁.setTop (mkF m 28 #[.val (.ref a1), .val (.long q2), .second, .val (.int (2 : Int32)), .val (.int c1)] [(.int (1 : Int32)), (.ref a1)])) _
    refine X0.laload hx (j := (1 : Int32)) (v := (.long x1)) (by rw [e0]; exact Ar6.1) (State.isArrayOf_alike hZ.alike Ar6.2.1) Ar6.2.2 hin6 hat6 (g := (mkF m 28 #[.val (.ref a1), .val (.long q2), .second, .val (.int (2 : Int32)), .val (.int c1)] [(.int (1 : Int32)), (.ref a1)])) rfl rfl (hb hby own_d3_28) _ ?_
    show Steps p.tables e below (s₁.setTop (mkF m 29 #[.val (.ref a1), .val (.long q2), .second, .val (.int (2 : Int32)), .val (.int c1)] [(.long x1)])) _
    refine XS.lloadN X0.here hx rfl (hb hby own_d3_29) rfl ?_
    show Steps p.tables e below (s₁.setTop (mkF m 30 #[.val (.ref a1), .val (.long q2), .second, .val (.int (2 : Int32)), .val (.int c1)] [(.long q2), (.long x1)])) _
    refine XS.lcmp X0.here hx rfl (hb hby own_d3_30) rfl ?_
    exact k
  obtain ⟨c2, hv_c2⟩ : ∃ z : Int32, z = (if q2 < x1 then c1 else (c1 + (1 : Int32))) := ⟨_, rfl⟩
  have g9 : ∀ t, Steps p.tables e below (s₁.setTop (mkF m 37 #[.val (.ref a1), .val (.long q2), .second, .val (.int (2 : Int32)), .val (.int c2)] [])) t → Steps p.tables e below (s₁.setTop (entryFrame m #[(.ref a1), (.long q2)] 5)) t := by
    intro t k
    by_cases hc8 : q2 < x1
    · rw [if_pos hc8] at hv_c2; rw [hv_c2] at k
      refine g7 t ?_
      show Steps p.tables e below (s₁.setTop (mkF m 31 #[.val (.ref a1), .val (.long q2), .second, .val (.int (2 : Int32)), .val (.int c1)] [(.int (lcmpW x1 q2))])) _
      refine XS.ifYes X0.here hx rfl (pc0 := 31) (pc' := 37) rfl (hb hby own_d3_31) rfl ((if0 _ _).trans (tlt ((lw_gt _ _).mpr hc8)).2.2.1) (by decide) (by decide) ?_
      exact k
    · rw [if_neg hc8] at hv_c2; rw [hv_c2] at k
      refine g7 t ?_
      show Steps p.tables e below (s₁.setTop (mkF m 31 #[.val (.ref a1), .val (.long q2), .second, .val (.int (2 : Int32)), .val (.int c1)] [(.int (lcmpW x1 q2))])) _
      refine XS.ifNo X0.here hx rfl (hb hby own_d3_31) rfl ((if0 _ _).trans (flt (fun q => hc8 ((lw_gt _ _).mp q))).2.2.1) ?_
      show Steps p.tables e below (s₁.setTop (mkF m 34 #[.val (.ref a1), .val (.long q2), .second, .val (.int (2 : Int32)), .val (.int c1)] [])) _
      refine XS.iinc X0.here hx rfl (hb hby own_d3_34) rfl (l' := #[.val (.ref a1), .val (.long q2), .second, .val (.int (2 : Int32)), .val (.int (c1 + (1 : Int32)))]) rfl ?_
      exact k
  have g10 : ∀ t, Steps p.tables e below (s₁.setTop (mkF m 139 #[.val (.ref a1), .val (.long q2), .second, .val (.int (2 : Int32)), .val (.int c2)] [(.int c2)])) t → Steps p.tables e below (s₁.setTop (entryFrame m #[(.ref a1), (.long q2)] 5)) t := by
    intro t k
    refine g9 t ?_
    show Steps p.tables e below (s₁.setTop (mkF m 37 #[.val (.ref a1), .val (.long q2), .second, .val (.int (2 : Int32)), .val (.int c2)] [])) _
    refine XS.iloadN X0.here hx rfl (hb hby own_d3_37) rfl ?_
    show Steps p.tables e below (s₁.setTop (mkF m 38 #[.val (.ref a1), .val (.long q2), .second, .val (.int (2 : Int32)), .val (.int c2)] [(.int (2 : Int32))])) _
    refine XS.iconst X0.here hx rfl (hb hby own_d3_38) ?_
    show Steps p.tables e below (s₁.setTop (mkF m 39 #[.val (.ref a1), .val (.long q2), .second, .val (.int (2 : Int32)), .val (.int c2)] [(.int (2 : Int32)), (.int (2 : Int32))])) _
    refine XS.icmpYes X0.here hx rfl (pc0 := 39) (pc' := 53) rfl (hb hby own_d3_39) rfl (flt (by decide : ¬ ((2 : Int32) < (2 : Int32)))).2.2.2 (by decide) (by decide) ?_
    show Steps p.tables e below (s₁.setTop (mkF m 53 #[.val (.ref a1), .val (.long q2), .second, .val (.int (2 : Int32)), .val (.int c2)] [])) _
    refine XS.iloadN X0.here hx rfl (hb hby own_d3_53) rfl ?_
    show Steps p.tables e below (s₁.setTop (mkF m 54 #[.val (.ref a1), .val (.long q2), .second, .val (.int (2 : Int32)), .val (.int c2)] [(.int (2 : Int32))])) _
    refine XS.iconst X0.here hx rfl (hb hby own_d3_54) ?_
    show Steps p.tables e below (s₁.setTop (mkF m 55 #[.val (.ref a1), .val (.long q2), .second, .val (.int (2 : Int32)), .val (.int c2)] [(.int (3 : Int32)), (.int (2 : Int32))])) _
    refine XS.icmpYes X0.here hx rfl (pc0 := 55) (pc' := 69) rfl (hb hby own_d3_55) rfl (flt (by decide : ¬ ((3 : Int32) < (2 : Int32)))).2.2.2 (by decide) (by decide) ?_
    show Steps p.tables e below (s₁.setTop (mkF m 69 #[.val (.ref a1), .val (.long q2), .second, .val (.int (2 : Int32)), .val (.int c2)] [])) _
    refine XS.iloadN X0.here hx rfl (hb hby own_d3_69) rfl ?_
    show Steps p.tables e below (s₁.setTop (mkF m 70 #[.val (.ref a1), .val (.long q2), .second, .val (.int (2 : Int32)), .val (.int c2)] [(.int (2 : Int32))])) _
    refine XS.iconst X0.here hx rfl (hb hby own_d3_70) ?_
    show Steps p.tables e below (s₁.setTop (mkF m 71 #[.val (.ref a1), .val (.long q2), .second, .val (.int (2 : Int32)), .val (.int c2)] [(.int (4 : Int32)), (.int (2 : Int32))])) _
    refine XS.icmpYes X0.here hx rfl (pc0 := 71) (pc' := 85) rfl (hb hby own_d3_71) rfl (flt (by decide : ¬ ((4 : Int32) < (2 : Int32)))).2.2.2 (by decide) (by decide) ?_
    show Steps p.tables e below (s₁.setTop (mkF m 85 #[.val (.ref a1), .val (.long q2), .second, .val (.int (2 : Int32)), .val (.int c2)] [])) _
    refine XS.iloadN X0.here hx rfl (hb hby own_d3_85) rfl ?_
    show Steps p.tables e below (s₁.setTop (mkF m 86 #[.val (.ref a1), .val (.long q2), .second, .val (.int (2 : Int32)), .val (.int c2)] [(.int (2 : Int32))])) _
    refine XS.iconst X0.here hx rfl (hb hby own_d3_86) ?_
    show Steps p.tables e below (s₁.setTop (mkF m 87 #[.val (.ref a1), .val (.long q2), .second, .val (.int (2 : Int32)), .val (.int c2)] [(.int (5 : Int32)), (.int (2 : Int32))])) _
    refine XS.icmpYes X0.here hx rfl (pc0 := 87) (pc' := 101) rfl (hb hby own_d3_87) rfl (flt (by decide : ¬ ((5 : Int32) < (2 : Int32)))).2.2.2 (by decide) (by decide) ?_
    show Steps p.tables e below (s₁.setTop (mkF m 101 #[.val (.ref a1), .val (.long q2), .second, .val (.int (2 : Int32)), .val (.int c2)] [])) _
    refine XS.iloadN X0.here hx rfl (hb hby own_d3_101) rfl ?_
    show Steps p.tables e below (s₁.setTop (mkF m 102 #[.val (.ref a1), .val (.long q2), .second, .val (.int (2 : Int32)), .val (.int c2)] [(.int (2 : Int32))])) _
    refine XS.bipush X0.here hx rfl (hb hby own_d3_102) ?_
    show Steps p.tables e below (s₁.setTop (mkF m 104 #[.val (.ref a1), .val (.long q2), .second, .val (.int (2 : Int32)), .val (.int c2)] [(.int (6 : Int32)), (.int (2 : Int32))])) _
    refine XS.icmpYes X0.here hx rfl (pc0 := 104) (pc' := 119) rfl (hb hby own_d3_104) rfl (flt (by decide : ¬ ((6 : Int32) < (2 : Int32)))).2.2.2 (by decide) (by decide) ?_
    show Steps p.tables e below (s₁.setTop (mkF m 119 #[.val (.ref a1), .val (.long q2), .second, .val (.int (2 : Int32)), .val (.int c2)] [])) _
    refine XS.iloadN X0.here hx rfl (hb hby own_d3_119) rfl ?_
    show Steps p.tables e below (s₁.setTop (mkF m 120 #[.val (.ref a1), .val (.long q2), .second, .val (.int (2 : Int32)), .val (.int c2)] [(.int (2 : Int32))])) _
    refine XS.bipush X0.here hx rfl (hb hby own_d3_120) ?_
    show Steps p.tables e below (s₁.setTop (mkF m 122 #[.val (.ref a1), .val (.long q2), .second, .val (.int (2 : Int32)), .val (.int c2)] [(.int (7 : Int32)), (.int (2 : Int32))])) _
    refine XS.icmpYes X0.here hx rfl (pc0 := 122) (pc' := 137) rfl (hb hby own_d3_122) rfl (flt (by decide : ¬ ((7 : Int32) < (2 : Int32)))).2.2.2 (by decide) (by decide) ?_
    show Steps p.tables e below (s₁.setTop (mkF m 137 #[.val (.ref a1), .val (.long q2), .second, .val (.int (2 : Int32)), .val (.int c2)] [])) _
    refine XS.iload X0.here hx rfl (hb hby own_d3_137) rfl ?_
    exact k
  obtain ⟨fs, hrt, hrun, hended, hW, hsame⟩ := X0.leave (v := some (.int c2)) (fun h => by rw [Bd.returns] at h; cases h)
  refine ⟨_, _, g10 _ ?_, hrun, hended, _, _, rfl, ?_, ⟨_, rfl⟩, hW, hsame.mono (by decide) (by decide)⟩
  · show Steps p.tables e below (s₁.setTop (mkF m 139 #[.val (.ref a1), .val (.long q2), .second, .val (.int (2 : Int32)), .val (.int c2)] [(.int c2)])) _
    exact retI X0 hx Bd.returns (hb hby own_d3_139) hrt
  · show own_Q_rmcountLe2 Z a1 ka x0 x1 q2 r h0 n0 _ s₁.heap _
    rw [e0]
    exact ⟨by rw [← hr]; subst hv_c1; subst hv_c2; rfl, N0, rfl⟩
theorem own_ef7 (m : MethodId) (x0 : Addr) (x1 : Int64) : entryFrame m #[(.ref x0), (.long x1)] 5 = mkF m 0 #[.val (.ref x0), .val (.long x1), .second, .unset, .unset] [] := by first | (simp [entryFrame, mkF, argsToLocals, Value.category]; done) | rfl
theorem own_d4_26 : decode method_4_code 26 = .ok (.aload_n 0, 1) := by decide +kernel
theorem own_d4_27 : decode method_4_code 27 = .ok (.iconst 1, 1) := by decide +kernel
theorem own_d4_28 : decode method_4_code 28 = .ok (.laload, 1) := by decide +kernel
theorem own_d4_29 : decode method_4_code 29 = .ok (.lload_n 1, 1) := by decide +kernel
theorem own_d4_30 : decode method_4_code 30 = .ok (.lcmp, 1) := by decide +kernel
theorem own_d4_31 : decode method_4_code 31 = .ok (.ifCond .ge 6, 3) := by decide +kernel
theorem own_d4_34 : decode method_4_code 34 = .ok (.iinc 4 1, 3) := by decide +kernel
def own_Q_rmcountLt2 (Z : State) (a1 : Addr) (ka : ClassId) (x0 x1 q2 : Int64) (r : Int32) (h0 : Heap) (n0 : Nat) (v : Option Value) (h : Heap) (L : List Loc) : Prop := v = some (.int r) ∧ Fr n0 L ∧ h = h0
set_option maxRecDepth 65536 in
set_option maxHeartbeats 40000000 in
theorem rmcountLt2 (l : Launch) (Z : State) (a0 : Array Value) (hw : ∀ d ∈ tables_1, d.before a0 Z = true) (ws : List Jvm.Cond) (a1 : Addr) (ka : ClassId) (x0 x1 q2 : Int64) (r : Int32) (h0 : Heap) (n0 : Nat) (O0 : Old Z n0 h0) (Va : Arv Z h0 a1 ka .long (2 : Int32) [(.long x0), (.long x1)] (.long (0 : Int64))) (hr : own_clt q2 [x0, x1] 0 = r) :
    MetFree l (⟨"orderwire/bench/LatencyPercentilePinLaw", "countLt", "([JJ)I"⟩ : MethodName) (head1 (Jvm.Cond.code (⟨"orderwire/bench/LatencyPercentilePinLaw", "countLt", "([JJ)I"⟩ : MethodName) method_4_code 5 (some .int) :: ws) ({ frames := 0, cells := 0, slots := 0, locals := 0 } : Room)) (fun a U => a = #[(.ref a1), (.long q2)] ∧ Z.Warmed39 U.vm ∧ U.heap = h0) (fun _ _ _ _ _ => True) (fun _ U o U' => ∃ v L, o = .returned v ∧ own_Q_rmcountLt2 Z a1 ka x0 x1 q2 r h0 n0 v U'.heap L ∧ FrameEnd U o U' L ({ frames := 0, cells := 0, slots := 0, locals := 0 } : Room).cells ({ frames := 0, cells := 0, slots := 0, locals := 0 } : Room).slots) := by
  refine MetFree.of_bodySF (plainFor_of_name own_pn1) hisR ?_
  intro p e s m args below meth c s₁ Bd hml0 hP hK
  obtain ⟨rfl, hZ, hh⟩ := hP
  have hx := Bd.exec
  have hby := Bd.bytes
  have hml : c.maxLocals = 5 := hml0
  have hown : s.vm.findClass "orderwire/bench/LatencyPercentilePinLaw" = some m.cls := findClass_of_methodNamed Bd.named
  have hnm := (name_of_methodNamed Bd.named Bd.method).1
  have X0 : Stand p l e ({ frames := 0, cells := 0, slots := 0, locals := 0 } : Room) s m #[(.ref a1), (.long q2)] below meth c s₁ [] 0 0 := Stand.of_body Bd
  have e0 : s₁.heap = h0 := by rw [← hh, Bd.state]; rfl
  have N0 := Fr.nil n0
  have Z0 : n0 ≤ h0.size := O0.1 ▸ O0.2.1
  have g0 : ∀ t, Steps p.tables e below (s₁.setTop (mkF m 0 #[.val (.ref a1), .val (.long q2), .second, .unset, .unset] [])) t → Steps p.tables e below (s₁.setTop (entryFrame m #[(.ref a1), (.long q2)] 5)) t := fun t k => castTop (own_ef7 m (a1) (q2)) k
  obtain ⟨c1, Ar1, cq1, S1, Nn1, Hh1, Gg1⟩ := id Va
  obtain ⟨c2, Ar2, cq2, S2, Nn2, Hh2, Gg2⟩ := id Va
  have hin2 : ¬ ((0 : Int32) < 0 ∨ c2.slots.size ≤ ((0 : Int32)).toNatClampNeg) := inb_of S2 ⟨by decide, by decide⟩
  have hat2 : c2.slots[((0 : Int32)).toNatClampNeg]? = some (.long x0) := Has.at Hh2 hin2 rfl
  have g3 : ∀ t, Steps p.tables e below (s₁.setTop (mkF m 15 #[.val (.ref a1), .val (.long q2), .second, .val (.int (2 : Int32)), .val (.int (0 : Int32))] [(.int (lcmpW x0 q2))])) t → Steps p.tables e below (s₁.setTop (entryFrame m #[(.ref a1), (.long q2)] 5)) t := by
    intro t k
    refine g0 t ?_
    show Steps p.tables e below (s₁.setTop (mkF m 0 #[.val (.ref a1), .val (.long q2), .second, .unset, .unset] [])) _
    refine XS.aloadN X0.here hx rfl (hb hby own_d4_0) rfl rfl ?_
    show Steps p.tables e below (s₁.setTop (mkF m 1 #[.val (.ref a1), .val (.long q2), .second, .unset, .unset] [(.ref a1)])) _
    refine X0.arraylength hx (by rw [e0]; exact Ar1.1) (State.isArrayOf_alike hZ.alike Ar1.2.1) (g := (mkF m 1 #[.val (.ref a1), .val (.long q2), .second, .unset, .unset] [(.ref a1)])) rfl rfl (hb hby own_d4_1) _ ?_
    rw [len_of S1 Nn1]
    show Steps p.tables e below (s₁.setTop (mkF m 2 #[.val (.ref a1), .val (.long q2), .second, .unset, .unset] [(.int (2 : Int32))])) _
    refine XS.istoreN X0.here hx rfl (hb hby own_d4_2) rfl (l' := #[.val (.ref a1), .val (.long q2), .second, .val (.int (2 : Int32)), .unset]) rfl ?_
    show Steps p.tables e below (s₁.setTop (mkF m 3 #[.val (.ref a1), .val (.long q2), .second, .val (.int (2 : Int32)), .unset] [])) _
    refine XS.iconst X0.here hx rfl (hb hby own_d4_3) ?_
    show Steps p.tables e below (s₁.setTop (mkF m 4 #[.val (.ref a1), .val (.long q2), .second, .val (.int (2 : Int32)), .unset] [(.int (0 : Int32))])) _
    refine XS.istore X0.here hx rfl (hb hby own_d4_4) rfl (l' := #[.val (.ref a1), .val (.long q2), .second, .val (.int (2 : Int32)), .val (.int (0 : Int32))]) rfl ?_
    show Steps p.tables e below (s₁.setTop (mkF m 6 #[.val (.ref a1), .val (.long q2), .second, .val (.int (2 : Int32)), .val (.int (0 : Int32))] [])) _
    refine XS.iloadN X0.here hx rfl (hb hby own_d4_6) rfl ?_
    show Steps p.tables e below (s₁.setTop (mkF m 7 #[.val (.ref a1), .val (.long q2), .second, .val (.int (2 : Int32)), .val (.int (0 : Int32))] [(.int (2 : Int32))])) _
    refine XS.ifNo X0.here hx rfl (hb hby own_d4_7) rfl ((if0 _ _).trans (tlt (by decide : (0 : Int32) < (2 : Int32))).2.2.2) ?_
    show Steps p.tables e below (s₁.setTop (mkF m 10 #[.val (.ref a1), .val (.long q2), .second, .val (.int (2 : Int32)), .val (.int (0 : Int32))] [])) _
    refine XS.aloadN X0.here hx rfl (hb hby own_d4_10) rfl rfl ?_
    show Steps p.tables e below (s₁.setTop (mkF m 11 #[.val (.ref a1), .val (.long q2), .second, .val (.int (2 : Int32)), .val (.int (0 : Int32))] [(.ref a1)])) _
    refine XS.iconst X0.here hx rfl (hb hby own_d4_11) ?_
    show Steps p.tables e below (s₁.setTop (mkF m 12 #[.val (.ref a1), .val (.long q2), .second, .val (.int (2 : Int32)), .val (.int (0 : Int32))] [(.int (0 : Int32)), (.ref a1)])) _
    refine X0.laload hx (j := (0 : Int32)) (v := (.long x0)) (by rw [e0]; exact Ar2.1) (State.isArrayOf_alike hZ.alike Ar2.2.1) Ar2.2.2 hin2 hat2 (g := (mkF m 12 #[.val (.ref a1), .val (.long q2), .second, .val (.int (2 : Int32)), .val (.int (0 : Int32))] [(.int (0 : Int32)), (.ref a1)])) rfl rfl (hb hby own_d4_12) _ ?_
    show Steps p.tables e below (s₁.setTop (mkF m 13 #[.val (.ref a1), .val (.long q2), .second, .val (.int (2 : Int32)), .val (.int (0 : Int32))] [(.long x0)])) _
    refine XS.lloadN X0.here hx rfl (hb hby own_d4_13) rfl ?_
    show Steps p.tables e below (s₁.setTop (mkF m 14 #[.val (.ref a1), .val (.long q2), .second, .val (.int (2 : Int32)), .val (.int (0 : Int32))] [(.long q2), (.long x0)])) _
    refine XS.lcmp X0.here hx rfl (hb hby own_d4_14) rfl ?_
    exact k
  obtain ⟨c1, hv_c1⟩ : ∃ z : Int32, z = (if x0 < q2 then ((0 : Int32) + (1 : Int32)) else (0 : Int32)) := ⟨_, rfl⟩
  have g5 : ∀ t, Steps p.tables e below (s₁.setTop (mkF m 21 #[.val (.ref a1), .val (.long q2), .second, .val (.int (2 : Int32)), .val (.int c1)] [])) t → Steps p.tables e below (s₁.setTop (entryFrame m #[(.ref a1), (.long q2)] 5)) t := by
    intro t k
    by_cases hc4 : x0 < q2
    · rw [if_pos hc4] at hv_c1; rw [hv_c1] at k
      refine g3 t ?_
      show Steps p.tables e below (s₁.setTop (mkF m 15 #[.val (.ref a1), .val (.long q2), .second, .val (.int (2 : Int32)), .val (.int (0 : Int32))] [(.int (lcmpW x0 q2))])) _
      refine XS.ifNo X0.here hx rfl (hb hby own_d4_15) rfl ((if0 _ _).trans (tlt ((lw_lt _ _).mpr hc4)).2.1) ?_
      show Steps p.tables e below (s₁.setTop (mkF m 18 #[.val (.ref a1), .val (.long q2), .second, .val (.int (2 : Int32)), .val (.int (0 : Int32))] [])) _
      refine XS.iinc X0.here hx rfl (hb hby own_d4_18) rfl (l' := #[.val (.ref a1), .val (.long q2), .second, .val (.int (2 : Int32)), .val (.int ((0 : Int32) + (1 : Int32)))]) rfl ?_
      exact k
    · rw [if_neg hc4] at hv_c1; rw [hv_c1] at k
      refine g3 t ?_
      show Steps p.tables e below (s₁.setTop (mkF m 15 #[.val (.ref a1), .val (.long q2), .second, .val (.int (2 : Int32)), .val (.int (0 : Int32))] [(.int (lcmpW x0 q2))])) _
      refine XS.ifYes X0.here hx rfl (pc0 := 15) (pc' := 21) rfl (hb hby own_d4_15) rfl ((if0 _ _).trans (flt (fun q => hc4 ((lw_lt _ _).mp q))).2.1) (by decide) (by decide) ?_
      exact k
  obtain ⟨c6, Ar6, cq6, S6, Nn6, Hh6, Gg6⟩ := id Va
  have hin6 : ¬ ((1 : Int32) < 0 ∨ c6.slots.size ≤ ((1 : Int32)).toNatClampNeg) := inb_of S6 ⟨by decide, by decide⟩
  have hat6 : c6.slots[((1 : Int32)).toNatClampNeg]? = some (.long x1) := Has.at Hh6 hin6 rfl
  have g7 : ∀ t, Steps p.tables e below (s₁.setTop (mkF m 31 #[.val (.ref a1), .val (.long q2), .second, .val (.int (2 : Int32)), .val (.int c1)] [(.int (lcmpW x1 q2))])) t → Steps p.tables e below (s₁.setTop (entryFrame m #[(.ref a1), (.long q2)] 5)) t := by
    intro t k
    refine g5 t ?_
    show Steps p.tables e below (s₁.setTop (mkF m 21 #[.val (.ref a1), .val (.long q2), .second, .val (.int (2 : Int32)), .val (.int c1)] [])) _
    refine XS.iloadN X0.here hx rfl (hb hby own_d4_21) rfl ?_
    show Steps p.tables e below (s₁.setTop (mkF m 22 #[.val (.ref a1), .val (.long q2), .second, .val (.int (2 : Int32)), .val (.int c1)] [(.int (2 : Int32))])) _
    refine XS.iconst X0.here hx rfl (hb hby own_d4_22) ?_
    show Steps p.tables e below (s₁.setTop (mkF m 23 #[.val (.ref a1), .val (.long q2), .second, .val (.int (2 : Int32)), .val (.int c1)] [(.int (1 : Int32)), (.int (2 : Int32))])) _
    refine XS.icmpNo X0.here hx rfl (hb hby own_d4_23) rfl (tlt (by decide : (1 : Int32) < (2 : Int32))).2.2.2 ?_
    show Steps p.tables e below (s₁.setTop (mkF m 26 #[.val (.ref a1), .val (.long q2), .second, .val (.int (2 : Int32)), .val (.int c1)] [])) _
    refine XS.aloadN X0.here hx rfl (hb hby own_d4_26) rfl rfl ?_
    show Steps p.tables e below (s₁.setTop (mkF m 27 #[.val (.ref a1), .val (.long q2), .second, .val (.int (2 : Int32)), .val (.int c1)] [(.ref a1)])) _
    refine XS.iconst X0.here hx rfl (hb hby own_d4_27) ?_
    show Steps p.tables e below (s₁.setTop (mkF m 28 #[.val (.ref a1), .val (.long q2), .second, .val (.int (2 : Int32)), .val (.int c1)] [(.int (1 : Int32)), (.ref a1)])) _
    refine X0.laload hx (j := (1 : Int32)) (v := (.long x1)) (by rw [e0]; exact Ar6.1) (State.isArrayOf_alike hZ.alike Ar6.2.1) Ar6.2.2 hin6 hat6 (g := (mkF m 28 #[.val (.ref a1), .val (.long q2), .second, .val (.int (2 : Int32)), .val (.int c1)] [(.int (1 : Int32)), (.ref a1)])) rfl rfl (hb hby own_d4_28) _ ?_
    show Steps p.tables e below (s₁.setTop (mkF m 29 #[.val (.ref a1), .val (.long q2), .second, .val (.int (2 : Int32)), .val (.int c1)] [(.long x1)])) _
    refine XS.lloadN X0.here hx rfl (hb hby own_d4_29) rfl ?_
    show Steps p.tables e below (s₁.setTop (mkF m 30 #[.val (.ref a1), .val (.long q2), .second, .val (.int (2 : Int32)), .val (.int c1)] [(.long q2), (.long x1)])) _
    refine XS.lcmp X0.here hx rfl (hb hby own_d4_30) rfl ?_
    exact k
  obtain ⟨c2, hv_c2⟩ : ∃ z : Int32, z = (if x1 < q2 then (c1 + (1 : Int32)) else c1) := ⟨_, rfl⟩
  have g9 : ∀ t, Steps p.tables e below (s₁.setTop (mkF m 37 #[.val (.ref a1), .val (.long q2), .second, .val (.int (2 : Int32)), .val (.int c2)] [])) t → Steps p.tables e below (s₁.setTop (entryFrame m #[(.ref a1), (.long q2)] 5)) t := by
    intro t k
    by_cases hc8 : x1 < q2
    · rw [if_pos hc8] at hv_c2; rw [hv_c2] at k
      refine g7 t ?_
      show Steps p.tables e below (s₁.setTop (mkF m 31 #[.val (.ref a1), .val (.long q2), .second, .val (.int (2 : Int32)), .val (.int c1)] [(.int (lcmpW x1 q2))])) _
      refine XS.ifNo X0.here hx rfl (hb hby own_d4_31) rfl ((if0 _ _).trans (tlt ((lw_lt _ _).mpr hc8)).2.1) ?_
      show Steps p.tables e below (s₁.setTop (mkF m 34 #[.val (.ref a1), .val (.long q2), .second, .val (.int (2 : Int32)), .val (.int c1)] [])) _
      refine XS.iinc X0.here hx rfl (hb hby own_d4_34) rfl (l' := #[.val (.ref a1), .val (.long q2), .second, .val (.int (2 : Int32)), .val (.int (c1 + (1 : Int32)))]) rfl ?_
      exact k
    · rw [if_neg hc8] at hv_c2; rw [hv_c2] at k
      refine g7 t ?_
      show Steps p.tables e below (s₁.setTop (mkF m 31 #[.val (.ref a1), .val (.long q2), .second, .val (.int (2 : Int32)), .val (.int c1)] [(.int (lcmpW x1 q2))])) _
      refine XS.ifYes X0.here hx rfl (pc0 := 31) (pc' := 37) rfl (hb hby own_d4_31) rfl ((if0 _ _).trans (flt (fun q => hc8 ((lw_lt _ _).mp q))).2.1) (by decide) (by decide) ?_
      exact k
  have g10 : ∀ t, Steps p.tables e below (s₁.setTop (mkF m 139 #[.val (.ref a1), .val (.long q2), .second, .val (.int (2 : Int32)), .val (.int c2)] [(.int c2)])) t → Steps p.tables e below (s₁.setTop (entryFrame m #[(.ref a1), (.long q2)] 5)) t := by
    intro t k
    refine g9 t ?_
    show Steps p.tables e below (s₁.setTop (mkF m 37 #[.val (.ref a1), .val (.long q2), .second, .val (.int (2 : Int32)), .val (.int c2)] [])) _
    refine XS.iloadN X0.here hx rfl (hb hby own_d4_37) rfl ?_
    show Steps p.tables e below (s₁.setTop (mkF m 38 #[.val (.ref a1), .val (.long q2), .second, .val (.int (2 : Int32)), .val (.int c2)] [(.int (2 : Int32))])) _
    refine XS.iconst X0.here hx rfl (hb hby own_d4_38) ?_
    show Steps p.tables e below (s₁.setTop (mkF m 39 #[.val (.ref a1), .val (.long q2), .second, .val (.int (2 : Int32)), .val (.int c2)] [(.int (2 : Int32)), (.int (2 : Int32))])) _
    refine XS.icmpYes X0.here hx rfl (pc0 := 39) (pc' := 53) rfl (hb hby own_d4_39) rfl (flt (by decide : ¬ ((2 : Int32) < (2 : Int32)))).2.2.2 (by decide) (by decide) ?_
    show Steps p.tables e below (s₁.setTop (mkF m 53 #[.val (.ref a1), .val (.long q2), .second, .val (.int (2 : Int32)), .val (.int c2)] [])) _
    refine XS.iloadN X0.here hx rfl (hb hby own_d4_53) rfl ?_
    show Steps p.tables e below (s₁.setTop (mkF m 54 #[.val (.ref a1), .val (.long q2), .second, .val (.int (2 : Int32)), .val (.int c2)] [(.int (2 : Int32))])) _
    refine XS.iconst X0.here hx rfl (hb hby own_d4_54) ?_
    show Steps p.tables e below (s₁.setTop (mkF m 55 #[.val (.ref a1), .val (.long q2), .second, .val (.int (2 : Int32)), .val (.int c2)] [(.int (3 : Int32)), (.int (2 : Int32))])) _
    refine XS.icmpYes X0.here hx rfl (pc0 := 55) (pc' := 69) rfl (hb hby own_d4_55) rfl (flt (by decide : ¬ ((3 : Int32) < (2 : Int32)))).2.2.2 (by decide) (by decide) ?_
    show Steps p.tables e below (s₁.setTop (mkF m 69 #[.val (.ref a1), .val (.long q2), .second, .val (.int (2 : Int32)), .val (.int c2)] [])) _
    refine XS.iloadN X0.here hx rfl (hb hby own_d4_69) rfl ?_
    show Steps p.tables e below (s₁.setTop (mkF m 70 #[.val (.ref a1), .val (.long q2), .second, .val (.int (2 : Int32)), .val (.int c2)] [(.int (2 : Int32))])) _
    refine XS.iconst X0.here hx rfl (hb hby own_d4_70) ?_
    show Steps p.tables e below (s₁.setTop (mkF m 71 #[.val (.ref a1), .val (.long q2), .second, .val (.int (2 : Int32)), .val (.int c2)] [(.int (4 : Int32)), (.int (2 : Int32))])) _
    refine XS.icmpYes X0.here hx rfl (pc0 := 71) (pc' := 85) rfl (hb hby own_d4_71) rfl (flt (by decide : ¬ ((4 : Int32) < (2 : Int32)))).2.2.2 (by decide) (by decide) ?_
    show Steps p.tables e below (s₁.setTop (mkF m 85 #[.val (.ref a1), .val (.long q2), .second, .val (.int (2 : Int32)), .val (.int c2)] [])) _
    refine XS.iloadN X0.here hx rfl (hb hby own_d4_85) rfl ?_
    show Steps p.tables e below (s₁.setTop (mkF m 86 #[.val (.ref a1), .val (.long q2), .second, .val (.int (2 : Int32)), .val (.int c2)] [(.int (2 : Int32))])) _
    refine XS.iconst X0.here hx rfl (hb hby own_d4_86) ?_
    show Steps p.tables e below (s₁.setTop (mkF m 87 #[.val (.ref a1), .val (.long q2), .second, .val (.int (2 : Int32)), .val (.int c2)] [(.int (5 : Int32)), (.int (2 : Int32))])) _
    refine XS.icmpYes X0.here hx rfl (pc0 := 87) (pc' := 101) rfl (hb hby own_d4_87) rfl (flt (by decide : ¬ ((5 : Int32) < (2 : Int32)))).2.2.2 (by decide) (by decide) ?_
    show Steps p.tables e below (s₁.setTop (mkF m 101 #[.val (.ref a1), .val (.long q2), .second, .val (.int (2 : Int32)), .val (.int c2)] [])) _
    refine XS.iloadN X0.here hx rfl (hb hby own_d4_101) rfl ?_
    show Steps p.tables e below (s₁.setTop (mkF m 102 #[.val (.ref a1), .val (.long q2), .second, .val (.int (2 : Int32)), .val (.int c2)] [(.int (2 : Int32))])) _
    refine XS.bipush X0.here hx rfl (hb hby own_d4_102) ?_
    show Steps p.tables e below (s₁.setTop (mkF m 104 #[.val (.ref a1), .val (.long q2), .second, .val (.int (2 : Int32)), .val (.int c2)] [(.int (6 : Int32)), (.int (2 : Int32))])) _
    refine XS.icmpYes X0.here hx rfl (pc0 := 104) (pc' := 119) rfl (hb hby own_d4_104) rfl (flt (by decide : ¬ ((6 : Int32) < (2 : Int32)))).2.2.2 (by decide) (by decide) ?_
    show Steps p.tables e below (s₁.setTop (mkF m 119 #[.val (.ref a1), .val (.long q2), .second, .val (.int (2 : Int32)), .val (.int c2)] [])) _
    refine XS.iloadN X0.here hx rfl (hb hby own_d4_119) rfl ?_
    show Steps p.tables e below (s₁.setTop (mkF m 120 #[.val (.ref a1), .val (.long q2), .second, .val (.int (2 : Int32)), .val (.int c2)] [(.int (2 : Int32))])) _
    refine XS.bipush X0.here hx rfl (hb hby own_d4_120) ?_
    show Steps p.tables e below (s₁.setTop (mkF m 122 #[.val (.ref a1), .val (.long q2), .second, .val (.int (2 : Int32)), .val (.int c2)] [(.int (7 : Int32)), (.int (2 : Int32))])) _
    refine XS.icmpYes X0.here hx rfl (pc0 := 122) (pc' := 137) rfl (hb hby own_d4_122) rfl (flt (by decide : ¬ ((7 : Int32) < (2 : Int32)))).2.2.2 (by decide) (by decide) ?_
    show Steps p.tables e below (s₁.setTop (mkF m 137 #[.val (.ref a1), .val (.long q2), .second, .val (.int (2 : Int32)), .val (.int c2)] [])) _
    refine XS.iload X0.here hx rfl (hb hby own_d4_137) rfl ?_
    exact k
  obtain ⟨fs, hrt, hrun, hended, hW, hsame⟩ := X0.leave (v := some (.int c2)) (fun h => by rw [Bd.returns] at h; cases h)
  refine ⟨_, _, g10 _ ?_, hrun, hended, _, _, rfl, ?_, ⟨_, rfl⟩, hW, hsame.mono (by decide) (by decide)⟩
  · show Steps p.tables e below (s₁.setTop (mkF m 139 #[.val (.ref a1), .val (.long q2), .second, .val (.int (2 : Int32)), .val (.int c2)] [(.int c2)])) _
    exact retI X0 hx Bd.returns (hb hby own_d4_139) hrt
  · show own_Q_rmcountLt2 Z a1 ka x0 x1 q2 r h0 n0 _ s₁.heap _
    rw [e0]
    exact ⟨by rw [← hr]; subst hv_c1; subst hv_c2; rfl, N0, rfl⟩
theorem own_ef8 (m : MethodId) (x0 : Addr) (x1 : Int32) : entryFrame m #[(.ref x0), (.int x1)] 3 = mkF m 0 #[.val (.ref x0), .val (.int x1), .unset] [] := by first | (simp [entryFrame, mkF, argsToLocals, Value.category]; done) | rfl
def own_Q_rmPct3 (Z : State) (a1 : Addr) (ka : ClassId) (x0 x1 x2 r : Int64) (p2 j : Int32) (h0 : Heap) (n0 : Nat) (v : Option Value) (h : Heap) (L : List Loc) : Prop := v = some (.long r) ∧ Fr n0 L ∧ h = h0
set_option maxRecDepth 65536 in
set_option maxHeartbeats 40000000 in
theorem rmPct3 (l : Launch) (Z : State) (a0 : Array Value) (hw : ∀ d ∈ tables_1, d.before a0 Z = true) (ws : List Jvm.Cond) (a1 : Addr) (ka : ClassId) (x0 x1 x2 r : Int64) (p2 j : Int32) (h0 : Heap) (n0 : Nat) (O0 : Old Z n0 h0) (Va : Arv Z h0 a1 ka .long (3 : Int32) [(.long x0), (.long x1), (.long x2)] (.long (0 : Int64))) (hj : (((((((3 : Int32).toInt64) * (p2.toInt64)) + (99 : Int64)) / (100 : Int64)).toInt32) - (1 : Int32)) = j) (hj0 : ¬ j < 0) (hj1 : j < (3 : Int32)) (hjr : ([(.long x0), (.long x1), (.long x2)] : List Value).getD j.toNatClampNeg (.long (0 : Int64)) = .long r) :
    MetFree l (⟨"orderwire/bench/Latency", "percentile", "([JI)J"⟩ : MethodName) (head1 (Jvm.Cond.code (⟨"orderwire/bench/Latency", "percentile", "([JI)J"⟩ : MethodName) prog_6_method_9_code 3 (some .long) :: ws) ({ frames := 0, cells := 0, slots := 0, locals := 0 } : Room)) (fun a U => a = #[(.ref a1), (.int p2)] ∧ Z.Warmed39 U.vm ∧ U.heap = h0) (fun _ _ _ _ _ => True) (fun _ U o U' => ∃ v L, o = .returned v ∧ own_Q_rmPct3 Z a1 ka x0 x1 x2 r p2 j h0 n0 v U'.heap L ∧ FrameEnd U o U' L ({ frames := 0, cells := 0, slots := 0, locals := 0 } : Room).cells ({ frames := 0, cells := 0, slots := 0, locals := 0 } : Room).slots) := by
  refine MetFree.of_bodySF (plainFor_of_name own_pn0) hisR ?_
  intro p e s m args below meth c s₁ Bd hml0 hP hK
  obtain ⟨rfl, hZ, hh⟩ := hP
  have hx := Bd.exec
  have hby := Bd.bytes
  have hml : c.maxLocals = 3 := hml0
  have hown : s.vm.findClass "orderwire/bench/Latency" = some m.cls := findClass_of_methodNamed Bd.named
  have hnm := (name_of_methodNamed Bd.named Bd.method).1
  have X0 : Stand p l e ({ frames := 0, cells := 0, slots := 0, locals := 0 } : Room) s m #[(.ref a1), (.int p2)] below meth c s₁ [] 0 0 := Stand.of_body Bd
  have e0 : s₁.heap = h0 := by rw [← hh, Bd.state]; rfl
  have N0 := Fr.nil n0
  have Z0 : n0 ≤ h0.size := O0.1 ▸ O0.2.1
  have g0 : ∀ t, Steps p.tables e below (s₁.setTop (mkF m 0 #[.val (.ref a1), .val (.int p2), .unset] [])) t → Steps p.tables e below (s₁.setTop (entryFrame m #[(.ref a1), (.int p2)] 3)) t := fun t k => castTop (own_ef8 m (a1) (p2)) k
  obtain ⟨c1, Ar1, cq1, S1, Nn1, Hh1, Gg1⟩ := id Va
  have g2 : ∀ t, Steps p.tables e below (s₁.setTop (mkF m 20 #[.val (.ref a1), .val (.int p2), .val (.int ((((((3 : Int32).toInt64) * (p2.toInt64)) + (99 : Int64)) / (100 : Int64)).toInt32))] [(.int j), (.ref a1)])) t → Steps p.tables e below (s₁.setTop (entryFrame m #[(.ref a1), (.int p2)] 3)) t := by
    intro t k
    rw [← hj] at k
    refine g0 t ?_
    show Steps p.tables e below (s₁.setTop (mkF m 0 #[.val (.ref a1), .val (.int p2), .unset] [])) _
    refine XS.aloadN X0.here hx rfl (hb hby own_d2_0) rfl rfl ?_
    show Steps p.tables e below (s₁.setTop (mkF m 1 #[.val (.ref a1), .val (.int p2), .unset] [(.ref a1)])) _
    refine X0.arraylength hx (by rw [e0]; exact Ar1.1) (State.isArrayOf_alike hZ.alike Ar1.2.1) (g := (mkF m 1 #[.val (.ref a1), .val (.int p2), .unset] [(.ref a1)])) rfl rfl (hb hby own_d2_1) _ ?_
    rw [len_of S1 Nn1]
    show Steps p.tables e below (s₁.setTop (mkF m 2 #[.val (.ref a1), .val (.int p2), .unset] [(.int (3 : Int32))])) _
    refine XS.i2l X0.here hx rfl (hb hby own_d2_2) rfl ?_
    show Steps p.tables e below (s₁.setTop (mkF m 3 #[.val (.ref a1), .val (.int p2), .unset] [(.long ((3 : Int32).toInt64))])) _
    refine XS.iloadN X0.here hx rfl (hb hby own_d2_3) rfl ?_
    show Steps p.tables e below (s₁.setTop (mkF m 4 #[.val (.ref a1), .val (.int p2), .unset] [(.int p2), (.long ((3 : Int32).toInt64))])) _
    refine XS.i2l X0.here hx rfl (hb hby own_d2_4) rfl ?_
    show Steps p.tables e below (s₁.setTop (mkF m 5 #[.val (.ref a1), .val (.int p2), .unset] [(.long (p2.toInt64)), (.long ((3 : Int32).toInt64))])) _
    refine XS.lmul X0.here hx rfl (hb hby own_d2_5) rfl ?_
    show Steps p.tables e below (s₁.setTop (mkF m 6 #[.val (.ref a1), .val (.int p2), .unset] [(.long (((3 : Int32).toInt64) * (p2.toInt64)))])) _
    refine X0.ldc2Long hx hown (mvT hZ (hw _ (List.mem_of_getElem? (i := 11) rfl))) (g := (mkF m 6 #[.val (.ref a1), .val (.int p2), .unset] [(.long (((3 : Int32).toInt64) * (p2.toInt64)))])) rfl (hb hby own_d2_6) _ ?_
    show Steps p.tables e below (s₁.setTop (mkF m 9 #[.val (.ref a1), .val (.int p2), .unset] [(.long (99 : Int64)), (.long (((3 : Int32).toInt64) * (p2.toInt64)))])) _
    refine XS.ladd X0.here hx rfl (hb hby own_d2_9) rfl ?_
    show Steps p.tables e below (s₁.setTop (mkF m 10 #[.val (.ref a1), .val (.int p2), .unset] [(.long ((((3 : Int32).toInt64) * (p2.toInt64)) + (99 : Int64)))])) _
    refine X0.ldc2Long hx hown (mvT hZ (hw _ (List.mem_of_getElem? (i := 12) rfl))) (g := (mkF m 10 #[.val (.ref a1), .val (.int p2), .unset] [(.long ((((3 : Int32).toInt64) * (p2.toInt64)) + (99 : Int64)))])) rfl (hb hby own_d2_10) _ ?_
    show Steps p.tables e below (s₁.setTop (mkF m 13 #[.val (.ref a1), .val (.int p2), .unset] [(.long (100 : Int64)), (.long ((((3 : Int32).toInt64) * (p2.toInt64)) + (99 : Int64)))])) _
    refine XS.ldiv X0.here hx rfl (hb hby own_d2_13) rfl (by decide) ?_
    show Steps p.tables e below (s₁.setTop (mkF m 14 #[.val (.ref a1), .val (.int p2), .unset] [(.long (((((3 : Int32).toInt64) * (p2.toInt64)) + (99 : Int64)) / (100 : Int64)))])) _
    refine XS.l2i X0.here hx rfl (hb hby own_d2_14) rfl ?_
    show Steps p.tables e below (s₁.setTop (mkF m 15 #[.val (.ref a1), .val (.int p2), .unset] [(.int ((((((3 : Int32).toInt64) * (p2.toInt64)) + (99 : Int64)) / (100 : Int64)).toInt32))])) _
    refine XS.istoreN X0.here hx rfl (hb hby own_d2_15) rfl (l' := #[.val (.ref a1), .val (.int p2), .val (.int ((((((3 : Int32).toInt64) * (p2.toInt64)) + (99 : Int64)) / (100 : Int64)).toInt32))]) rfl ?_
    show Steps p.tables e below (s₁.setTop (mkF m 16 #[.val (.ref a1), .val (.int p2), .val (.int ((((((3 : Int32).toInt64) * (p2.toInt64)) + (99 : Int64)) / (100 : Int64)).toInt32))] [])) _
    refine XS.aloadN X0.here hx rfl (hb hby own_d2_16) rfl rfl ?_
    show Steps p.tables e below (s₁.setTop (mkF m 17 #[.val (.ref a1), .val (.int p2), .val (.int ((((((3 : Int32).toInt64) * (p2.toInt64)) + (99 : Int64)) / (100 : Int64)).toInt32))] [(.ref a1)])) _
    refine XS.iloadN X0.here hx rfl (hb hby own_d2_17) rfl ?_
    show Steps p.tables e below (s₁.setTop (mkF m 18 #[.val (.ref a1), .val (.int p2), .val (.int ((((((3 : Int32).toInt64) * (p2.toInt64)) + (99 : Int64)) / (100 : Int64)).toInt32))] [(.int ((((((3 : Int32).toInt64) * (p2.toInt64)) + (99 : Int64)) / (100 : Int64)).toInt32)), (.ref a1)])) _
    refine XS.iconst X0.here hx rfl (hb hby own_d2_18) ?_
    show Steps p.tables e below (s₁.setTop (mkF m 19 #[.val (.ref a1), .val (.int p2), .val (.int ((((((3 : Int32).toInt64) * (p2.toInt64)) + (99 : Int64)) / (100 : Int64)).toInt32))] [(.int (1 : Int32)), (.int ((((((3 : Int32).toInt64) * (p2.toInt64)) + (99 : Int64)) / (100 : Int64)).toInt32)), (.ref a1)])) _
    refine XS.isub X0.here hx rfl (hb hby own_d2_19) rfl ?_
    exact k
  obtain ⟨c3, Ar3, cq3, S3, Nn3, Hh3, Gg3⟩ := id Va
  have hin3 : ¬ (j < 0 ∨ c3.slots.size ≤ (j).toNatClampNeg) := inb_of S3 ⟨hj0, hj1⟩
  have hat3 : c3.slots[(j).toNatClampNeg]? = some (.long r) := Has.at Hh3 hin3 hjr
  have g4 : ∀ t, Steps p.tables e below (s₁.setTop (mkF m 21 #[.val (.ref a1), .val (.int p2), .val (.int ((((((3 : Int32).toInt64) * (p2.toInt64)) + (99 : Int64)) / (100 : Int64)).toInt32))] [(.long r)])) t → Steps p.tables e below (s₁.setTop (entryFrame m #[(.ref a1), (.int p2)] 3)) t := by
    intro t k
    refine g2 t ?_
    show Steps p.tables e below (s₁.setTop (mkF m 20 #[.val (.ref a1), .val (.int p2), .val (.int ((((((3 : Int32).toInt64) * (p2.toInt64)) + (99 : Int64)) / (100 : Int64)).toInt32))] [(.int j), (.ref a1)])) _
    refine X0.laload hx (j := j) (v := (.long r)) (by rw [e0]; exact Ar3.1) (State.isArrayOf_alike hZ.alike Ar3.2.1) Ar3.2.2 hin3 hat3 (g := (mkF m 20 #[.val (.ref a1), .val (.int p2), .val (.int ((((((3 : Int32).toInt64) * (p2.toInt64)) + (99 : Int64)) / (100 : Int64)).toInt32))] [(.int j), (.ref a1)])) rfl rfl (hb hby own_d2_20) _ ?_
    exact k
  obtain ⟨fs, hrt, hrun, hended, hW, hsame⟩ := X0.leave (v := some (.long r)) (fun h => by rw [Bd.returns] at h; cases h)
  refine ⟨_, _, g4 _ ?_, hrun, hended, _, _, rfl, ?_, ⟨_, rfl⟩, hW, hsame.mono (by decide) (by decide)⟩
  · show Steps p.tables e below (s₁.setTop (mkF m 21 #[.val (.ref a1), .val (.int p2), .val (.int ((((((3 : Int32).toInt64) * (p2.toInt64)) + (99 : Int64)) / (100 : Int64)).toInt32))] [(.long r)])) _
    exact X0.lreturnOut hx Bd.returns (hb hby own_d2_21) hrt
  · show own_Q_rmPct3 Z a1 ka x0 x1 x2 r p2 j h0 n0 _ s₁.heap _
    rw [e0]
    exact ⟨rfl, N0, rfl⟩
theorem own_ef9 (m : MethodId) (x0 : Addr) (x1 : Int64) : entryFrame m #[(.ref x0), (.long x1)] 5 = mkF m 0 #[.val (.ref x0), .val (.long x1), .second, .unset, .unset] [] := by first | (simp [entryFrame, mkF, argsToLocals, Value.category]; done) | rfl
theorem own_d3_42 : decode method_3_code 42 = .ok (.aload_n 0, 1) := by decide +kernel
theorem own_d3_43 : decode method_3_code 43 = .ok (.iconst 2, 1) := by decide +kernel
theorem own_d3_44 : decode method_3_code 44 = .ok (.laload, 1) := by decide +kernel
theorem own_d3_45 : decode method_3_code 45 = .ok (.lload_n 1, 1) := by decide +kernel
theorem own_d3_46 : decode method_3_code 46 = .ok (.lcmp, 1) := by decide +kernel
theorem own_d3_47 : decode method_3_code 47 = .ok (.ifCond .gt 6, 3) := by decide +kernel
theorem own_d3_50 : decode method_3_code 50 = .ok (.iinc 4 1, 3) := by decide +kernel
def own_Q_rmcountLe3 (Z : State) (a1 : Addr) (ka : ClassId) (x0 x1 x2 q2 : Int64) (r : Int32) (h0 : Heap) (n0 : Nat) (v : Option Value) (h : Heap) (L : List Loc) : Prop := v = some (.int r) ∧ Fr n0 L ∧ h = h0
set_option maxRecDepth 65536 in
set_option maxHeartbeats 40000000 in
theorem rmcountLe3 (l : Launch) (Z : State) (a0 : Array Value) (hw : ∀ d ∈ tables_1, d.before a0 Z = true) (ws : List Jvm.Cond) (a1 : Addr) (ka : ClassId) (x0 x1 x2 q2 : Int64) (r : Int32) (h0 : Heap) (n0 : Nat) (O0 : Old Z n0 h0) (Va : Arv Z h0 a1 ka .long (3 : Int32) [(.long x0), (.long x1), (.long x2)] (.long (0 : Int64))) (hr : own_cle q2 [x0, x1, x2] 0 = r) :
    MetFree l (⟨"orderwire/bench/LatencyPercentilePinLaw", "countLe", "([JJ)I"⟩ : MethodName) (head1 (Jvm.Cond.code (⟨"orderwire/bench/LatencyPercentilePinLaw", "countLe", "([JJ)I"⟩ : MethodName) method_3_code 5 (some .int) :: ws) ({ frames := 0, cells := 0, slots := 0, locals := 0 } : Room)) (fun a U => a = #[(.ref a1), (.long q2)] ∧ Z.Warmed39 U.vm ∧ U.heap = h0) (fun _ _ _ _ _ => True) (fun _ U o U' => ∃ v L, o = .returned v ∧ own_Q_rmcountLe3 Z a1 ka x0 x1 x2 q2 r h0 n0 v U'.heap L ∧ FrameEnd U o U' L ({ frames := 0, cells := 0, slots := 0, locals := 0 } : Room).cells ({ frames := 0, cells := 0, slots := 0, locals := 0 } : Room).slots) := by
  refine MetFree.of_bodySF (plainFor_of_name own_pn1) hisR ?_
  intro p e s m args below meth c s₁ Bd hml0 hP hK
  obtain ⟨rfl, hZ, hh⟩ := hP
  have hx := Bd.exec
  have hby := Bd.bytes
  have hml : c.maxLocals = 5 := hml0
  have hown : s.vm.findClass "orderwire/bench/LatencyPercentilePinLaw" = some m.cls := findClass_of_methodNamed Bd.named
  have hnm := (name_of_methodNamed Bd.named Bd.method).1
  have X0 : Stand p l e ({ frames := 0, cells := 0, slots := 0, locals := 0 } : Room) s m #[(.ref a1), (.long q2)] below meth c s₁ [] 0 0 := Stand.of_body Bd
  have e0 : s₁.heap = h0 := by rw [← hh, Bd.state]; rfl
  have N0 := Fr.nil n0
  have Z0 : n0 ≤ h0.size := O0.1 ▸ O0.2.1
  have g0 : ∀ t, Steps p.tables e below (s₁.setTop (mkF m 0 #[.val (.ref a1), .val (.long q2), .second, .unset, .unset] [])) t → Steps p.tables e below (s₁.setTop (entryFrame m #[(.ref a1), (.long q2)] 5)) t := fun t k => castTop (own_ef9 m (a1) (q2)) k
  obtain ⟨c1, Ar1, cq1, S1, Nn1, Hh1, Gg1⟩ := id Va
  obtain ⟨c2, Ar2, cq2, S2, Nn2, Hh2, Gg2⟩ := id Va
  have hin2 : ¬ ((0 : Int32) < 0 ∨ c2.slots.size ≤ ((0 : Int32)).toNatClampNeg) := inb_of S2 ⟨by decide, by decide⟩
  have hat2 : c2.slots[((0 : Int32)).toNatClampNeg]? = some (.long x0) := Has.at Hh2 hin2 rfl
  have g3 : ∀ t, Steps p.tables e below (s₁.setTop (mkF m 15 #[.val (.ref a1), .val (.long q2), .second, .val (.int (3 : Int32)), .val (.int (0 : Int32))] [(.int (lcmpW x0 q2))])) t → Steps p.tables e below (s₁.setTop (entryFrame m #[(.ref a1), (.long q2)] 5)) t := by
    intro t k
    refine g0 t ?_
    show Steps p.tables e below (s₁.setTop (mkF m 0 #[.val (.ref a1), .val (.long q2), .second, .unset, .unset] [])) _
    refine XS.aloadN X0.here hx rfl (hb hby own_d3_0) rfl rfl ?_
    show Steps p.tables e below (s₁.setTop (mkF m 1 #[.val (.ref a1), .val (.long q2), .second, .unset, .unset] [(.ref a1)])) _
    refine X0.arraylength hx (by rw [e0]; exact Ar1.1) (State.isArrayOf_alike hZ.alike Ar1.2.1) (g := (mkF m 1 #[.val (.ref a1), .val (.long q2), .second, .unset, .unset] [(.ref a1)])) rfl rfl (hb hby own_d3_1) _ ?_
    rw [len_of S1 Nn1]
    show Steps p.tables e below (s₁.setTop (mkF m 2 #[.val (.ref a1), .val (.long q2), .second, .unset, .unset] [(.int (3 : Int32))])) _
    refine XS.istoreN X0.here hx rfl (hb hby own_d3_2) rfl (l' := #[.val (.ref a1), .val (.long q2), .second, .val (.int (3 : Int32)), .unset]) rfl ?_
    show Steps p.tables e below (s₁.setTop (mkF m 3 #[.val (.ref a1), .val (.long q2), .second, .val (.int (3 : Int32)), .unset] [])) _
    refine XS.iconst X0.here hx rfl (hb hby own_d3_3) ?_
    show Steps p.tables e below (s₁.setTop (mkF m 4 #[.val (.ref a1), .val (.long q2), .second, .val (.int (3 : Int32)), .unset] [(.int (0 : Int32))])) _
    refine XS.istore X0.here hx rfl (hb hby own_d3_4) rfl (l' := #[.val (.ref a1), .val (.long q2), .second, .val (.int (3 : Int32)), .val (.int (0 : Int32))]) rfl ?_
    show Steps p.tables e below (s₁.setTop (mkF m 6 #[.val (.ref a1), .val (.long q2), .second, .val (.int (3 : Int32)), .val (.int (0 : Int32))] [])) _
    refine XS.iloadN X0.here hx rfl (hb hby own_d3_6) rfl ?_
    show Steps p.tables e below (s₁.setTop (mkF m 7 #[.val (.ref a1), .val (.long q2), .second, .val (.int (3 : Int32)), .val (.int (0 : Int32))] [(.int (3 : Int32))])) _
    refine XS.ifNo X0.here hx rfl (hb hby own_d3_7) rfl ((if0 _ _).trans (tlt (by decide : (0 : Int32) < (3 : Int32))).2.2.2) ?_
    show Steps p.tables e below (s₁.setTop (mkF m 10 #[.val (.ref a1), .val (.long q2), .second, .val (.int (3 : Int32)), .val (.int (0 : Int32))] [])) _
    refine XS.aloadN X0.here hx rfl (hb hby own_d3_10) rfl rfl ?_
    show Steps p.tables e below (s₁.setTop (mkF m 11 #[.val (.ref a1), .val (.long q2), .second, .val (.int (3 : Int32)), .val (.int (0 : Int32))] [(.ref a1)])) _
    refine XS.iconst X0.here hx rfl (hb hby own_d3_11) ?_
    show Steps p.tables e below (s₁.setTop (mkF m 12 #[.val (.ref a1), .val (.long q2), .second, .val (.int (3 : Int32)), .val (.int (0 : Int32))] [(.int (0 : Int32)), (.ref a1)])) _
    refine X0.laload hx (j := (0 : Int32)) (v := (.long x0)) (by rw [e0]; exact Ar2.1) (State.isArrayOf_alike hZ.alike Ar2.2.1) Ar2.2.2 hin2 hat2 (g := (mkF m 12 #[.val (.ref a1), .val (.long q2), .second, .val (.int (3 : Int32)), .val (.int (0 : Int32))] [(.int (0 : Int32)), (.ref a1)])) rfl rfl (hb hby own_d3_12) _ ?_
    show Steps p.tables e below (s₁.setTop (mkF m 13 #[.val (.ref a1), .val (.long q2), .second, .val (.int (3 : Int32)), .val (.int (0 : Int32))] [(.long x0)])) _
    refine XS.lloadN X0.here hx rfl (hb hby own_d3_13) rfl ?_
    show Steps p.tables e below (s₁.setTop (mkF m 14 #[.val (.ref a1), .val (.long q2), .second, .val (.int (3 : Int32)), .val (.int (0 : Int32))] [(.long q2), (.long x0)])) _
    refine XS.lcmp X0.here hx rfl (hb hby own_d3_14) rfl ?_
    exact k
  obtain ⟨c1, hv_c1⟩ : ∃ z : Int32, z = (if q2 < x0 then (0 : Int32) else ((0 : Int32) + (1 : Int32))) := ⟨_, rfl⟩
  have g5 : ∀ t, Steps p.tables e below (s₁.setTop (mkF m 21 #[.val (.ref a1), .val (.long q2), .second, .val (.int (3 : Int32)), .val (.int c1)] [])) t → Steps p.tables e below (s₁.setTop (entryFrame m #[(.ref a1), (.long q2)] 5)) t := by
    intro t k
    by_cases hc4 : q2 < x0
    · rw [if_pos hc4] at hv_c1; rw [hv_c1] at k
      refine g3 t ?_
      show Steps p.tables e below (s₁.setTop (mkF m 15 #[.val (.ref a1), .val (.long q2), .second, .val (.int (3 : Int32)), .val (.int (0 : Int32))] [(.int (lcmpW x0 q2))])) _
      refine XS.ifYes X0.here hx rfl (pc0 := 15) (pc' := 21) rfl (hb hby own_d3_15) rfl ((if0 _ _).trans (tlt ((lw_gt _ _).mpr hc4)).2.2.1) (by decide) (by decide) ?_
      exact k
    · rw [if_neg hc4] at hv_c1; rw [hv_c1] at k
      refine g3 t ?_
      show Steps p.tables e below (s₁.setTop (mkF m 15 #[.val (.ref a1), .val (.long q2), .second, .val (.int (3 : Int32)), .val (.int (0 : Int32))] [(.int (lcmpW x0 q2))])) _
      refine XS.ifNo X0.here hx rfl (hb hby own_d3_15) rfl ((if0 _ _).trans (flt (fun q => hc4 ((lw_gt _ _).mp q))).2.2.1) ?_
      show Steps p.tables e below (s₁.setTop (mkF m 18 #[.val (.ref a1), .val (.long q2), .second, .val (.int (3 : Int32)), .val (.int (0 : Int32))] [])) _
      refine XS.iinc X0.here hx rfl (hb hby own_d3_18) rfl (l' := #[.val (.ref a1), .val (.long q2), .second, .val (.int (3 : Int32)), .val (.int ((0 : Int32) + (1 : Int32)))]) rfl ?_
      exact k
  obtain ⟨c6, Ar6, cq6, S6, Nn6, Hh6, Gg6⟩ := id Va
  have hin6 : ¬ ((1 : Int32) < 0 ∨ c6.slots.size ≤ ((1 : Int32)).toNatClampNeg) := inb_of S6 ⟨by decide, by decide⟩
  have hat6 : c6.slots[((1 : Int32)).toNatClampNeg]? = some (.long x1) := Has.at Hh6 hin6 rfl
  have g7 : ∀ t, Steps p.tables e below (s₁.setTop (mkF m 31 #[.val (.ref a1), .val (.long q2), .second, .val (.int (3 : Int32)), .val (.int c1)] [(.int (lcmpW x1 q2))])) t → Steps p.tables e below (s₁.setTop (entryFrame m #[(.ref a1), (.long q2)] 5)) t := by
    intro t k
    refine g5 t ?_
    show Steps p.tables e below (s₁.setTop (mkF m 21 #[.val (.ref a1), .val (.long q2), .second, .val (.int (3 : Int32)), .val (.int c1)] [])) _
    refine XS.iloadN X0.here hx rfl (hb hby own_d3_21) rfl ?_
    show Steps p.tables e below (s₁.setTop (mkF m 22 #[.val (.ref a1), .val (.long q2), .second, .val (.int (3 : Int32)), .val (.int c1)] [(.int (3 : Int32))])) _
    refine XS.iconst X0.here hx rfl (hb hby own_d3_22) ?_
    show Steps p.tables e below (s₁.setTop (mkF m 23 #[.val (.ref a1), .val (.long q2), .second, .val (.int (3 : Int32)), .val (.int c1)] [(.int (1 : Int32)), (.int (3 : Int32))])) _
    refine XS.icmpNo X0.here hx rfl (hb hby own_d3_23) rfl (tlt (by decide : (1 : Int32) < (3 : Int32))).2.2.2 ?_
    show Steps p.tables e below (s₁.setTop (mkF m 26 #[.val (.ref a1), .val (.long q2), .second, .val (.int (3 : Int32)), .val (.int c1)] [])) _
    refine XS.aloadN X0.here hx rfl (hb hby own_d3_26) rfl rfl ?_
    show Steps p.tables e below (s₁.setTop (mkF m 27 #[.val (.ref a1), .val (.long q2), .second, .val (.int (3 : Int32)), .val (.int c1)] [(.ref a1)])) _
    refine XS.iconst X0.here hx rfl (hb hby own_d3_27) ?_
    show Steps p.tables e below (s₁.setTop (mkF m 28 #[.val (.ref a1), .val (.long q2), .second, .val (.int (3 : Int32)), .val (.int c1)] [(.int (1 : Int32)), (.ref a1)])) _
    refine X0.laload hx (j := (1 : Int32)) (v := (.long x1)) (by rw [e0]; exact Ar6.1) (State.isArrayOf_alike hZ.alike Ar6.2.1) Ar6.2.2 hin6 hat6 (g := (mkF m 28 #[.val (.ref a1), .val (.long q2), .second, .val (.int (3 : Int32)), .val (.int c1)] [(.int (1 : Int32)), (.ref a1)])) rfl rfl (hb hby own_d3_28) _ ?_
    show Steps p.tables e below (s₁.setTop (mkF m 29 #[.val (.ref a1), .val (.long q2), .second, .val (.int (3 : Int32)), .val (.int c1)] [(.long x1)])) _
    refine XS.lloadN X0.here hx rfl (hb hby own_d3_29) rfl ?_
    show Steps p.tables e below (s₁.setTop (mkF m 30 #[.val (.ref a1), .val (.long q2), .second, .val (.int (3 : Int32)), .val (.int c1)] [(.long q2), (.long x1)])) _
    refine XS.lcmp X0.here hx rfl (hb hby own_d3_30) rfl ?_
    exact k
  obtain ⟨c2, hv_c2⟩ : ∃ z : Int32, z = (if q2 < x1 then c1 else (c1 + (1 : Int32))) := ⟨_, rfl⟩
  have g9 : ∀ t, Steps p.tables e below (s₁.setTop (mkF m 37 #[.val (.ref a1), .val (.long q2), .second, .val (.int (3 : Int32)), .val (.int c2)] [])) t → Steps p.tables e below (s₁.setTop (entryFrame m #[(.ref a1), (.long q2)] 5)) t := by
    intro t k
    by_cases hc8 : q2 < x1
    · rw [if_pos hc8] at hv_c2; rw [hv_c2] at k
      refine g7 t ?_
      show Steps p.tables e below (s₁.setTop (mkF m 31 #[.val (.ref a1), .val (.long q2), .second, .val (.int (3 : Int32)), .val (.int c1)] [(.int (lcmpW x1 q2))])) _
      refine XS.ifYes X0.here hx rfl (pc0 := 31) (pc' := 37) rfl (hb hby own_d3_31) rfl ((if0 _ _).trans (tlt ((lw_gt _ _).mpr hc8)).2.2.1) (by decide) (by decide) ?_
      exact k
    · rw [if_neg hc8] at hv_c2; rw [hv_c2] at k
      refine g7 t ?_
      show Steps p.tables e below (s₁.setTop (mkF m 31 #[.val (.ref a1), .val (.long q2), .second, .val (.int (3 : Int32)), .val (.int c1)] [(.int (lcmpW x1 q2))])) _
      refine XS.ifNo X0.here hx rfl (hb hby own_d3_31) rfl ((if0 _ _).trans (flt (fun q => hc8 ((lw_gt _ _).mp q))).2.2.1) ?_
      show Steps p.tables e below (s₁.setTop (mkF m 34 #[.val (.ref a1), .val (.long q2), .second, .val (.int (3 : Int32)), .val (.int c1)] [])) _
      refine XS.iinc X0.here hx rfl (hb hby own_d3_34) rfl (l' := #[.val (.ref a1), .val (.long q2), .second, .val (.int (3 : Int32)), .val (.int (c1 + (1 : Int32)))]) rfl ?_
      exact k
  obtain ⟨c10, Ar10, cq10, S10, Nn10, Hh10, Gg10⟩ := id Va
  have hin10 : ¬ ((2 : Int32) < 0 ∨ c10.slots.size ≤ ((2 : Int32)).toNatClampNeg) := inb_of S10 ⟨by decide, by decide⟩
  have hat10 : c10.slots[((2 : Int32)).toNatClampNeg]? = some (.long x2) := Has.at Hh10 hin10 rfl
  have g11 : ∀ t, Steps p.tables e below (s₁.setTop (mkF m 47 #[.val (.ref a1), .val (.long q2), .second, .val (.int (3 : Int32)), .val (.int c2)] [(.int (lcmpW x2 q2))])) t → Steps p.tables e below (s₁.setTop (entryFrame m #[(.ref a1), (.long q2)] 5)) t := by
    intro t k
    refine g9 t ?_
    show Steps p.tables e below (s₁.setTop (mkF m 37 #[.val (.ref a1), .val (.long q2), .second, .val (.int (3 : Int32)), .val (.int c2)] [])) _
    refine XS.iloadN X0.here hx rfl (hb hby own_d3_37) rfl ?_
    show Steps p.tables e below (s₁.setTop (mkF m 38 #[.val (.ref a1), .val (.long q2), .second, .val (.int (3 : Int32)), .val (.int c2)] [(.int (3 : Int32))])) _
    refine XS.iconst X0.here hx rfl (hb hby own_d3_38) ?_
    show Steps p.tables e below (s₁.setTop (mkF m 39 #[.val (.ref a1), .val (.long q2), .second, .val (.int (3 : Int32)), .val (.int c2)] [(.int (2 : Int32)), (.int (3 : Int32))])) _
    refine XS.icmpNo X0.here hx rfl (hb hby own_d3_39) rfl (tlt (by decide : (2 : Int32) < (3 : Int32))).2.2.2 ?_
    show Steps p.tables e below (s₁.setTop (mkF m 42 #[.val (.ref a1), .val (.long q2), .second, .val (.int (3 : Int32)), .val (.int c2)] [])) _
    refine XS.aloadN X0.here hx rfl (hb hby own_d3_42) rfl rfl ?_
    show Steps p.tables e below (s₁.setTop (mkF m 43 #[.val (.ref a1), .val (.long q2), .second, .val (.int (3 : Int32)), .val (.int c2)] [(.ref a1)])) _
    refine XS.iconst X0.here hx rfl (hb hby own_d3_43) ?_
    show Steps p.tables e below (s₁.setTop (mkF m 44 #[.val (.ref a1), .val (.long q2), .second, .val (.int (3 : Int32)), .val (.int c2)] [(.int (2 : Int32)), (.ref a1)])) _
    refine X0.laload hx (j := (2 : Int32)) (v := (.long x2)) (by rw [e0]; exact Ar10.1) (State.isArrayOf_alike hZ.alike Ar10.2.1) Ar10.2.2 hin10 hat10 (g := (mkF m 44 #[.val (.ref a1), .val (.long q2), .second, .val (.int (3 : Int32)), .val (.int c2)] [(.int (2 : Int32)), (.ref a1)])) rfl rfl (hb hby own_d3_44) _ ?_
    show Steps p.tables e below (s₁.setTop (mkF m 45 #[.val (.ref a1), .val (.long q2), .second, .val (.int (3 : Int32)), .val (.int c2)] [(.long x2)])) _
    refine XS.lloadN X0.here hx rfl (hb hby own_d3_45) rfl ?_
    show Steps p.tables e below (s₁.setTop (mkF m 46 #[.val (.ref a1), .val (.long q2), .second, .val (.int (3 : Int32)), .val (.int c2)] [(.long q2), (.long x2)])) _
    refine XS.lcmp X0.here hx rfl (hb hby own_d3_46) rfl ?_
    exact k
  obtain ⟨c3, hv_c3⟩ : ∃ z : Int32, z = (if q2 < x2 then c2 else (c2 + (1 : Int32))) := ⟨_, rfl⟩
  have g13 : ∀ t, Steps p.tables e below (s₁.setTop (mkF m 53 #[.val (.ref a1), .val (.long q2), .second, .val (.int (3 : Int32)), .val (.int c3)] [])) t → Steps p.tables e below (s₁.setTop (entryFrame m #[(.ref a1), (.long q2)] 5)) t := by
    intro t k
    by_cases hc12 : q2 < x2
    · rw [if_pos hc12] at hv_c3; rw [hv_c3] at k
      refine g11 t ?_
      show Steps p.tables e below (s₁.setTop (mkF m 47 #[.val (.ref a1), .val (.long q2), .second, .val (.int (3 : Int32)), .val (.int c2)] [(.int (lcmpW x2 q2))])) _
      refine XS.ifYes X0.here hx rfl (pc0 := 47) (pc' := 53) rfl (hb hby own_d3_47) rfl ((if0 _ _).trans (tlt ((lw_gt _ _).mpr hc12)).2.2.1) (by decide) (by decide) ?_
      exact k
    · rw [if_neg hc12] at hv_c3; rw [hv_c3] at k
      refine g11 t ?_
      show Steps p.tables e below (s₁.setTop (mkF m 47 #[.val (.ref a1), .val (.long q2), .second, .val (.int (3 : Int32)), .val (.int c2)] [(.int (lcmpW x2 q2))])) _
      refine XS.ifNo X0.here hx rfl (hb hby own_d3_47) rfl ((if0 _ _).trans (flt (fun q => hc12 ((lw_gt _ _).mp q))).2.2.1) ?_
      show Steps p.tables e below (s₁.setTop (mkF m 50 #[.val (.ref a1), .val (.long q2), .second, .val (.int (3 : Int32)), .val (.int c2)] [])) _
      refine XS.iinc X0.here hx rfl (hb hby own_d3_50) rfl (l' := #[.val (.ref a1), .val (.long q2), .second, .val (.int (3 : Int32)), .val (.int (c2 + (1 : Int32)))]) rfl ?_
      exact k
  have g14 : ∀ t, Steps p.tables e below (s₁.setTop (mkF m 139 #[.val (.ref a1), .val (.long q2), .second, .val (.int (3 : Int32)), .val (.int c3)] [(.int c3)])) t → Steps p.tables e below (s₁.setTop (entryFrame m #[(.ref a1), (.long q2)] 5)) t := by
    intro t k
    refine g13 t ?_
    show Steps p.tables e below (s₁.setTop (mkF m 53 #[.val (.ref a1), .val (.long q2), .second, .val (.int (3 : Int32)), .val (.int c3)] [])) _
    refine XS.iloadN X0.here hx rfl (hb hby own_d3_53) rfl ?_
    show Steps p.tables e below (s₁.setTop (mkF m 54 #[.val (.ref a1), .val (.long q2), .second, .val (.int (3 : Int32)), .val (.int c3)] [(.int (3 : Int32))])) _
    refine XS.iconst X0.here hx rfl (hb hby own_d3_54) ?_
    show Steps p.tables e below (s₁.setTop (mkF m 55 #[.val (.ref a1), .val (.long q2), .second, .val (.int (3 : Int32)), .val (.int c3)] [(.int (3 : Int32)), (.int (3 : Int32))])) _
    refine XS.icmpYes X0.here hx rfl (pc0 := 55) (pc' := 69) rfl (hb hby own_d3_55) rfl (flt (by decide : ¬ ((3 : Int32) < (3 : Int32)))).2.2.2 (by decide) (by decide) ?_
    show Steps p.tables e below (s₁.setTop (mkF m 69 #[.val (.ref a1), .val (.long q2), .second, .val (.int (3 : Int32)), .val (.int c3)] [])) _
    refine XS.iloadN X0.here hx rfl (hb hby own_d3_69) rfl ?_
    show Steps p.tables e below (s₁.setTop (mkF m 70 #[.val (.ref a1), .val (.long q2), .second, .val (.int (3 : Int32)), .val (.int c3)] [(.int (3 : Int32))])) _
    refine XS.iconst X0.here hx rfl (hb hby own_d3_70) ?_
    show Steps p.tables e below (s₁.setTop (mkF m 71 #[.val (.ref a1), .val (.long q2), .second, .val (.int (3 : Int32)), .val (.int c3)] [(.int (4 : Int32)), (.int (3 : Int32))])) _
    refine XS.icmpYes X0.here hx rfl (pc0 := 71) (pc' := 85) rfl (hb hby own_d3_71) rfl (flt (by decide : ¬ ((4 : Int32) < (3 : Int32)))).2.2.2 (by decide) (by decide) ?_
    show Steps p.tables e below (s₁.setTop (mkF m 85 #[.val (.ref a1), .val (.long q2), .second, .val (.int (3 : Int32)), .val (.int c3)] [])) _
    refine XS.iloadN X0.here hx rfl (hb hby own_d3_85) rfl ?_
    show Steps p.tables e below (s₁.setTop (mkF m 86 #[.val (.ref a1), .val (.long q2), .second, .val (.int (3 : Int32)), .val (.int c3)] [(.int (3 : Int32))])) _
    refine XS.iconst X0.here hx rfl (hb hby own_d3_86) ?_
    show Steps p.tables e below (s₁.setTop (mkF m 87 #[.val (.ref a1), .val (.long q2), .second, .val (.int (3 : Int32)), .val (.int c3)] [(.int (5 : Int32)), (.int (3 : Int32))])) _
    refine XS.icmpYes X0.here hx rfl (pc0 := 87) (pc' := 101) rfl (hb hby own_d3_87) rfl (flt (by decide : ¬ ((5 : Int32) < (3 : Int32)))).2.2.2 (by decide) (by decide) ?_
    show Steps p.tables e below (s₁.setTop (mkF m 101 #[.val (.ref a1), .val (.long q2), .second, .val (.int (3 : Int32)), .val (.int c3)] [])) _
    refine XS.iloadN X0.here hx rfl (hb hby own_d3_101) rfl ?_
    show Steps p.tables e below (s₁.setTop (mkF m 102 #[.val (.ref a1), .val (.long q2), .second, .val (.int (3 : Int32)), .val (.int c3)] [(.int (3 : Int32))])) _
    refine XS.bipush X0.here hx rfl (hb hby own_d3_102) ?_
    show Steps p.tables e below (s₁.setTop (mkF m 104 #[.val (.ref a1), .val (.long q2), .second, .val (.int (3 : Int32)), .val (.int c3)] [(.int (6 : Int32)), (.int (3 : Int32))])) _
    refine XS.icmpYes X0.here hx rfl (pc0 := 104) (pc' := 119) rfl (hb hby own_d3_104) rfl (flt (by decide : ¬ ((6 : Int32) < (3 : Int32)))).2.2.2 (by decide) (by decide) ?_
    show Steps p.tables e below (s₁.setTop (mkF m 119 #[.val (.ref a1), .val (.long q2), .second, .val (.int (3 : Int32)), .val (.int c3)] [])) _
    refine XS.iloadN X0.here hx rfl (hb hby own_d3_119) rfl ?_
    show Steps p.tables e below (s₁.setTop (mkF m 120 #[.val (.ref a1), .val (.long q2), .second, .val (.int (3 : Int32)), .val (.int c3)] [(.int (3 : Int32))])) _
    refine XS.bipush X0.here hx rfl (hb hby own_d3_120) ?_
    show Steps p.tables e below (s₁.setTop (mkF m 122 #[.val (.ref a1), .val (.long q2), .second, .val (.int (3 : Int32)), .val (.int c3)] [(.int (7 : Int32)), (.int (3 : Int32))])) _
    refine XS.icmpYes X0.here hx rfl (pc0 := 122) (pc' := 137) rfl (hb hby own_d3_122) rfl (flt (by decide : ¬ ((7 : Int32) < (3 : Int32)))).2.2.2 (by decide) (by decide) ?_
    show Steps p.tables e below (s₁.setTop (mkF m 137 #[.val (.ref a1), .val (.long q2), .second, .val (.int (3 : Int32)), .val (.int c3)] [])) _
    refine XS.iload X0.here hx rfl (hb hby own_d3_137) rfl ?_
    exact k
  obtain ⟨fs, hrt, hrun, hended, hW, hsame⟩ := X0.leave (v := some (.int c3)) (fun h => by rw [Bd.returns] at h; cases h)
  refine ⟨_, _, g14 _ ?_, hrun, hended, _, _, rfl, ?_, ⟨_, rfl⟩, hW, hsame.mono (by decide) (by decide)⟩
  · show Steps p.tables e below (s₁.setTop (mkF m 139 #[.val (.ref a1), .val (.long q2), .second, .val (.int (3 : Int32)), .val (.int c3)] [(.int c3)])) _
    exact retI X0 hx Bd.returns (hb hby own_d3_139) hrt
  · show own_Q_rmcountLe3 Z a1 ka x0 x1 x2 q2 r h0 n0 _ s₁.heap _
    rw [e0]
    exact ⟨by rw [← hr]; subst hv_c1; subst hv_c2; subst hv_c3; rfl, N0, rfl⟩
theorem own_ef10 (m : MethodId) (x0 : Addr) (x1 : Int64) : entryFrame m #[(.ref x0), (.long x1)] 5 = mkF m 0 #[.val (.ref x0), .val (.long x1), .second, .unset, .unset] [] := by first | (simp [entryFrame, mkF, argsToLocals, Value.category]; done) | rfl
theorem own_d4_42 : decode method_4_code 42 = .ok (.aload_n 0, 1) := by decide +kernel
theorem own_d4_43 : decode method_4_code 43 = .ok (.iconst 2, 1) := by decide +kernel
theorem own_d4_44 : decode method_4_code 44 = .ok (.laload, 1) := by decide +kernel
theorem own_d4_45 : decode method_4_code 45 = .ok (.lload_n 1, 1) := by decide +kernel
theorem own_d4_46 : decode method_4_code 46 = .ok (.lcmp, 1) := by decide +kernel
theorem own_d4_47 : decode method_4_code 47 = .ok (.ifCond .ge 6, 3) := by decide +kernel
theorem own_d4_50 : decode method_4_code 50 = .ok (.iinc 4 1, 3) := by decide +kernel
def own_Q_rmcountLt3 (Z : State) (a1 : Addr) (ka : ClassId) (x0 x1 x2 q2 : Int64) (r : Int32) (h0 : Heap) (n0 : Nat) (v : Option Value) (h : Heap) (L : List Loc) : Prop := v = some (.int r) ∧ Fr n0 L ∧ h = h0
set_option maxRecDepth 65536 in
set_option maxHeartbeats 40000000 in
theorem rmcountLt3 (l : Launch) (Z : State) (a0 : Array Value) (hw : ∀ d ∈ tables_1, d.before a0 Z = true) (ws : List Jvm.Cond) (a1 : Addr) (ka : ClassId) (x0 x1 x2 q2 : Int64) (r : Int32) (h0 : Heap) (n0 : Nat) (O0 : Old Z n0 h0) (Va : Arv Z h0 a1 ka .long (3 : Int32) [(.long x0), (.long x1), (.long x2)] (.long (0 : Int64))) (hr : own_clt q2 [x0, x1, x2] 0 = r) :
    MetFree l (⟨"orderwire/bench/LatencyPercentilePinLaw", "countLt", "([JJ)I"⟩ : MethodName) (head1 (Jvm.Cond.code (⟨"orderwire/bench/LatencyPercentilePinLaw", "countLt", "([JJ)I"⟩ : MethodName) method_4_code 5 (some .int) :: ws) ({ frames := 0, cells := 0, slots := 0, locals := 0 } : Room)) (fun a U => a = #[(.ref a1), (.long q2)] ∧ Z.Warmed39 U.vm ∧ U.heap = h0) (fun _ _ _ _ _ => True) (fun _ U o U' => ∃ v L, o = .returned v ∧ own_Q_rmcountLt3 Z a1 ka x0 x1 x2 q2 r h0 n0 v U'.heap L ∧ FrameEnd U o U' L ({ frames := 0, cells := 0, slots := 0, locals := 0 } : Room).cells ({ frames := 0, cells := 0, slots := 0, locals := 0 } : Room).slots) := by
  refine MetFree.of_bodySF (plainFor_of_name own_pn1) hisR ?_
  intro p e s m args below meth c s₁ Bd hml0 hP hK
  obtain ⟨rfl, hZ, hh⟩ := hP
  have hx := Bd.exec
  have hby := Bd.bytes
  have hml : c.maxLocals = 5 := hml0
  have hown : s.vm.findClass "orderwire/bench/LatencyPercentilePinLaw" = some m.cls := findClass_of_methodNamed Bd.named
  have hnm := (name_of_methodNamed Bd.named Bd.method).1
  have X0 : Stand p l e ({ frames := 0, cells := 0, slots := 0, locals := 0 } : Room) s m #[(.ref a1), (.long q2)] below meth c s₁ [] 0 0 := Stand.of_body Bd
  have e0 : s₁.heap = h0 := by rw [← hh, Bd.state]; rfl
  have N0 := Fr.nil n0
  have Z0 : n0 ≤ h0.size := O0.1 ▸ O0.2.1
  have g0 : ∀ t, Steps p.tables e below (s₁.setTop (mkF m 0 #[.val (.ref a1), .val (.long q2), .second, .unset, .unset] [])) t → Steps p.tables e below (s₁.setTop (entryFrame m #[(.ref a1), (.long q2)] 5)) t := fun t k => castTop (own_ef10 m (a1) (q2)) k
  obtain ⟨c1, Ar1, cq1, S1, Nn1, Hh1, Gg1⟩ := id Va
  obtain ⟨c2, Ar2, cq2, S2, Nn2, Hh2, Gg2⟩ := id Va
  have hin2 : ¬ ((0 : Int32) < 0 ∨ c2.slots.size ≤ ((0 : Int32)).toNatClampNeg) := inb_of S2 ⟨by decide, by decide⟩
  have hat2 : c2.slots[((0 : Int32)).toNatClampNeg]? = some (.long x0) := Has.at Hh2 hin2 rfl
  have g3 : ∀ t, Steps p.tables e below (s₁.setTop (mkF m 15 #[.val (.ref a1), .val (.long q2), .second, .val (.int (3 : Int32)), .val (.int (0 : Int32))] [(.int (lcmpW x0 q2))])) t → Steps p.tables e below (s₁.setTop (entryFrame m #[(.ref a1), (.long q2)] 5)) t := by
    intro t k
    refine g0 t ?_
    show Steps p.tables e below (s₁.setTop (mkF m 0 #[.val (.ref a1), .val (.long q2), .second, .unset, .unset] [])) _
    refine XS.aloadN X0.here hx rfl (hb hby own_d4_0) rfl rfl ?_
    show Steps p.tables e below (s₁.setTop (mkF m 1 #[.val (.ref a1), .val (.long q2), .second, .unset, .unset] [(.ref a1)])) _
    refine X0.arraylength hx (by rw [e0]; exact Ar1.1) (State.isArrayOf_alike hZ.alike Ar1.2.1) (g := (mkF m 1 #[.val (.ref a1), .val (.long q2), .second, .unset, .unset] [(.ref a1)])) rfl rfl (hb hby own_d4_1) _ ?_
    rw [len_of S1 Nn1]
    show Steps p.tables e below (s₁.setTop (mkF m 2 #[.val (.ref a1), .val (.long q2), .second, .unset, .unset] [(.int (3 : Int32))])) _
    refine XS.istoreN X0.here hx rfl (hb hby own_d4_2) rfl (l' := #[.val (.ref a1), .val (.long q2), .second, .val (.int (3 : Int32)), .unset]) rfl ?_
    show Steps p.tables e below (s₁.setTop (mkF m 3 #[.val (.ref a1), .val (.long q2), .second, .val (.int (3 : Int32)), .unset] [])) _
    refine XS.iconst X0.here hx rfl (hb hby own_d4_3) ?_
    show Steps p.tables e below (s₁.setTop (mkF m 4 #[.val (.ref a1), .val (.long q2), .second, .val (.int (3 : Int32)), .unset] [(.int (0 : Int32))])) _
    refine XS.istore X0.here hx rfl (hb hby own_d4_4) rfl (l' := #[.val (.ref a1), .val (.long q2), .second, .val (.int (3 : Int32)), .val (.int (0 : Int32))]) rfl ?_
    show Steps p.tables e below (s₁.setTop (mkF m 6 #[.val (.ref a1), .val (.long q2), .second, .val (.int (3 : Int32)), .val (.int (0 : Int32))] [])) _
    refine XS.iloadN X0.here hx rfl (hb hby own_d4_6) rfl ?_
    show Steps p.tables e below (s₁.setTop (mkF m 7 #[.val (.ref a1), .val (.long q2), .second, .val (.int (3 : Int32)), .val (.int (0 : Int32))] [(.int (3 : Int32))])) _
    refine XS.ifNo X0.here hx rfl (hb hby own_d4_7) rfl ((if0 _ _).trans (tlt (by decide : (0 : Int32) < (3 : Int32))).2.2.2) ?_
    show Steps p.tables e below (s₁.setTop (mkF m 10 #[.val (.ref a1), .val (.long q2), .second, .val (.int (3 : Int32)), .val (.int (0 : Int32))] [])) _
    refine XS.aloadN X0.here hx rfl (hb hby own_d4_10) rfl rfl ?_
    show Steps p.tables e below (s₁.setTop (mkF m 11 #[.val (.ref a1), .val (.long q2), .second, .val (.int (3 : Int32)), .val (.int (0 : Int32))] [(.ref a1)])) _
    refine XS.iconst X0.here hx rfl (hb hby own_d4_11) ?_
    show Steps p.tables e below (s₁.setTop (mkF m 12 #[.val (.ref a1), .val (.long q2), .second, .val (.int (3 : Int32)), .val (.int (0 : Int32))] [(.int (0 : Int32)), (.ref a1)])) _
    refine X0.laload hx (j := (0 : Int32)) (v := (.long x0)) (by rw [e0]; exact Ar2.1) (State.isArrayOf_alike hZ.alike Ar2.2.1) Ar2.2.2 hin2 hat2 (g := (mkF m 12 #[.val (.ref a1), .val (.long q2), .second, .val (.int (3 : Int32)), .val (.int (0 : Int32))] [(.int (0 : Int32)), (.ref a1)])) rfl rfl (hb hby own_d4_12) _ ?_
    show Steps p.tables e below (s₁.setTop (mkF m 13 #[.val (.ref a1), .val (.long q2), .second, .val (.int (3 : Int32)), .val (.int (0 : Int32))] [(.long x0)])) _
    refine XS.lloadN X0.here hx rfl (hb hby own_d4_13) rfl ?_
    show Steps p.tables e below (s₁.setTop (mkF m 14 #[.val (.ref a1), .val (.long q2), .second, .val (.int (3 : Int32)), .val (.int (0 : Int32))] [(.long q2), (.long x0)])) _
    refine XS.lcmp X0.here hx rfl (hb hby own_d4_14) rfl ?_
    exact k
  obtain ⟨c1, hv_c1⟩ : ∃ z : Int32, z = (if x0 < q2 then ((0 : Int32) + (1 : Int32)) else (0 : Int32)) := ⟨_, rfl⟩
  have g5 : ∀ t, Steps p.tables e below (s₁.setTop (mkF m 21 #[.val (.ref a1), .val (.long q2), .second, .val (.int (3 : Int32)), .val (.int c1)] [])) t → Steps p.tables e below (s₁.setTop (entryFrame m #[(.ref a1), (.long q2)] 5)) t := by
    intro t k
    by_cases hc4 : x0 < q2
    · rw [if_pos hc4] at hv_c1; rw [hv_c1] at k
      refine g3 t ?_
      show Steps p.tables e below (s₁.setTop (mkF m 15 #[.val (.ref a1), .val (.long q2), .second, .val (.int (3 : Int32)), .val (.int (0 : Int32))] [(.int (lcmpW x0 q2))])) _
      refine XS.ifNo X0.here hx rfl (hb hby own_d4_15) rfl ((if0 _ _).trans (tlt ((lw_lt _ _).mpr hc4)).2.1) ?_
      show Steps p.tables e below (s₁.setTop (mkF m 18 #[.val (.ref a1), .val (.long q2), .second, .val (.int (3 : Int32)), .val (.int (0 : Int32))] [])) _
      refine XS.iinc X0.here hx rfl (hb hby own_d4_18) rfl (l' := #[.val (.ref a1), .val (.long q2), .second, .val (.int (3 : Int32)), .val (.int ((0 : Int32) + (1 : Int32)))]) rfl ?_
      exact k
    · rw [if_neg hc4] at hv_c1; rw [hv_c1] at k
      refine g3 t ?_
      show Steps p.tables e below (s₁.setTop (mkF m 15 #[.val (.ref a1), .val (.long q2), .second, .val (.int (3 : Int32)), .val (.int (0 : Int32))] [(.int (lcmpW x0 q2))])) _
      refine XS.ifYes X0.here hx rfl (pc0 := 15) (pc' := 21) rfl (hb hby own_d4_15) rfl ((if0 _ _).trans (flt (fun q => hc4 ((lw_lt _ _).mp q))).2.1) (by decide) (by decide) ?_
      exact k
  obtain ⟨c6, Ar6, cq6, S6, Nn6, Hh6, Gg6⟩ := id Va
  have hin6 : ¬ ((1 : Int32) < 0 ∨ c6.slots.size ≤ ((1 : Int32)).toNatClampNeg) := inb_of S6 ⟨by decide, by decide⟩
  have hat6 : c6.slots[((1 : Int32)).toNatClampNeg]? = some (.long x1) := Has.at Hh6 hin6 rfl
  have g7 : ∀ t, Steps p.tables e below (s₁.setTop (mkF m 31 #[.val (.ref a1), .val (.long q2), .second, .val (.int (3 : Int32)), .val (.int c1)] [(.int (lcmpW x1 q2))])) t → Steps p.tables e below (s₁.setTop (entryFrame m #[(.ref a1), (.long q2)] 5)) t := by
    intro t k
    refine g5 t ?_
    show Steps p.tables e below (s₁.setTop (mkF m 21 #[.val (.ref a1), .val (.long q2), .second, .val (.int (3 : Int32)), .val (.int c1)] [])) _
    refine XS.iloadN X0.here hx rfl (hb hby own_d4_21) rfl ?_
    show Steps p.tables e below (s₁.setTop (mkF m 22 #[.val (.ref a1), .val (.long q2), .second, .val (.int (3 : Int32)), .val (.int c1)] [(.int (3 : Int32))])) _
    refine XS.iconst X0.here hx rfl (hb hby own_d4_22) ?_
    show Steps p.tables e below (s₁.setTop (mkF m 23 #[.val (.ref a1), .val (.long q2), .second, .val (.int (3 : Int32)), .val (.int c1)] [(.int (1 : Int32)), (.int (3 : Int32))])) _
    refine XS.icmpNo X0.here hx rfl (hb hby own_d4_23) rfl (tlt (by decide : (1 : Int32) < (3 : Int32))).2.2.2 ?_
    show Steps p.tables e below (s₁.setTop (mkF m 26 #[.val (.ref a1), .val (.long q2), .second, .val (.int (3 : Int32)), .val (.int c1)] [])) _
    refine XS.aloadN X0.here hx rfl (hb hby own_d4_26) rfl rfl ?_
    show Steps p.tables e below (s₁.setTop (mkF m 27 #[.val (.ref a1), .val (.long q2), .second, .val (.int (3 : Int32)), .val (.int c1)] [(.ref a1)])) _
    refine XS.iconst X0.here hx rfl (hb hby own_d4_27) ?_
    show Steps p.tables e below (s₁.setTop (mkF m 28 #[.val (.ref a1), .val (.long q2), .second, .val (.int (3 : Int32)), .val (.int c1)] [(.int (1 : Int32)), (.ref a1)])) _
    refine X0.laload hx (j := (1 : Int32)) (v := (.long x1)) (by rw [e0]; exact Ar6.1) (State.isArrayOf_alike hZ.alike Ar6.2.1) Ar6.2.2 hin6 hat6 (g := (mkF m 28 #[.val (.ref a1), .val (.long q2), .second, .val (.int (3 : Int32)), .val (.int c1)] [(.int (1 : Int32)), (.ref a1)])) rfl rfl (hb hby own_d4_28) _ ?_
    show Steps p.tables e below (s₁.setTop (mkF m 29 #[.val (.ref a1), .val (.long q2), .second, .val (.int (3 : Int32)), .val (.int c1)] [(.long x1)])) _
    refine XS.lloadN X0.here hx rfl (hb hby own_d4_29) rfl ?_
    show Steps p.tables e below (s₁.setTop (mkF m 30 #[.val (.ref a1), .val (.long q2), .second, .val (.int (3 : Int32)), .val (.int c1)] [(.long q2), (.long x1)])) _
    refine XS.lcmp X0.here hx rfl (hb hby own_d4_30) rfl ?_
    exact k
  obtain ⟨c2, hv_c2⟩ : ∃ z : Int32, z = (if x1 < q2 then (c1 + (1 : Int32)) else c1) := ⟨_, rfl⟩
  have g9 : ∀ t, Steps p.tables e below (s₁.setTop (mkF m 37 #[.val (.ref a1), .val (.long q2), .second, .val (.int (3 : Int32)), .val (.int c2)] [])) t → Steps p.tables e below (s₁.setTop (entryFrame m #[(.ref a1), (.long q2)] 5)) t := by
    intro t k
    by_cases hc8 : x1 < q2
    · rw [if_pos hc8] at hv_c2; rw [hv_c2] at k
      refine g7 t ?_
      show Steps p.tables e below (s₁.setTop (mkF m 31 #[.val (.ref a1), .val (.long q2), .second, .val (.int (3 : Int32)), .val (.int c1)] [(.int (lcmpW x1 q2))])) _
      refine XS.ifNo X0.here hx rfl (hb hby own_d4_31) rfl ((if0 _ _).trans (tlt ((lw_lt _ _).mpr hc8)).2.1) ?_
      show Steps p.tables e below (s₁.setTop (mkF m 34 #[.val (.ref a1), .val (.long q2), .second, .val (.int (3 : Int32)), .val (.int c1)] [])) _
      refine XS.iinc X0.here hx rfl (hb hby own_d4_34) rfl (l' := #[.val (.ref a1), .val (.long q2), .second, .val (.int (3 : Int32)), .val (.int (c1 + (1 : Int32)))]) rfl ?_
      exact k
    · rw [if_neg hc8] at hv_c2; rw [hv_c2] at k
      refine g7 t ?_
      show Steps p.tables e below (s₁.setTop (mkF m 31 #[.val (.ref a1), .val (.long q2), .second, .val (.int (3 : Int32)), .val (.int c1)] [(.int (lcmpW x1 q2))])) _
      refine XS.ifYes X0.here hx rfl (pc0 := 31) (pc' := 37) rfl (hb hby own_d4_31) rfl ((if0 _ _).trans (flt (fun q => hc8 ((lw_lt _ _).mp q))).2.1) (by decide) (by decide) ?_
      exact k
  obtain ⟨c10, Ar10, cq10, S10, Nn10, Hh10, Gg10⟩ := id Va
  have hin10 : ¬ ((2 : Int32) < 0 ∨ c10.slots.size ≤ ((2 : Int32)).toNatClampNeg) := inb_of S10 ⟨by decide, by decide⟩
  have hat10 : c10.slots[((2 : Int32)).toNatClampNeg]? = some (.long x2) := Has.at Hh10 hin10 rfl
  have g11 : ∀ t, Steps p.tables e below (s₁.setTop (mkF m 47 #[.val (.ref a1), .val (.long q2), .second, .val (.int (3 : Int32)), .val (.int c2)] [(.int (lcmpW x2 q2))])) t → Steps p.tables e below (s₁.setTop (entryFrame m #[(.ref a1), (.long q2)] 5)) t := by
    intro t k
    refine g9 t ?_
    show Steps p.tables e below (s₁.setTop (mkF m 37 #[.val (.ref a1), .val (.long q2), .second, .val (.int (3 : Int32)), .val (.int c2)] [])) _
    refine XS.iloadN X0.here hx rfl (hb hby own_d4_37) rfl ?_
    show Steps p.tables e below (s₁.setTop (mkF m 38 #[.val (.ref a1), .val (.long q2), .second, .val (.int (3 : Int32)), .val (.int c2)] [(.int (3 : Int32))])) _
    refine XS.iconst X0.here hx rfl (hb hby own_d4_38) ?_
    show Steps p.tables e below (s₁.setTop (mkF m 39 #[.val (.ref a1), .val (.long q2), .second, .val (.int (3 : Int32)), .val (.int c2)] [(.int (2 : Int32)), (.int (3 : Int32))])) _
    refine XS.icmpNo X0.here hx rfl (hb hby own_d4_39) rfl (tlt (by decide : (2 : Int32) < (3 : Int32))).2.2.2 ?_
    show Steps p.tables e below (s₁.setTop (mkF m 42 #[.val (.ref a1), .val (.long q2), .second, .val (.int (3 : Int32)), .val (.int c2)] [])) _
    refine XS.aloadN X0.here hx rfl (hb hby own_d4_42) rfl rfl ?_
    show Steps p.tables e below (s₁.setTop (mkF m 43 #[.val (.ref a1), .val (.long q2), .second, .val (.int (3 : Int32)), .val (.int c2)] [(.ref a1)])) _
    refine XS.iconst X0.here hx rfl (hb hby own_d4_43) ?_
    show Steps p.tables e below (s₁.setTop (mkF m 44 #[.val (.ref a1), .val (.long q2), .second, .val (.int (3 : Int32)), .val (.int c2)] [(.int (2 : Int32)), (.ref a1)])) _
    refine X0.laload hx (j := (2 : Int32)) (v := (.long x2)) (by rw [e0]; exact Ar10.1) (State.isArrayOf_alike hZ.alike Ar10.2.1) Ar10.2.2 hin10 hat10 (g := (mkF m 44 #[.val (.ref a1), .val (.long q2), .second, .val (.int (3 : Int32)), .val (.int c2)] [(.int (2 : Int32)), (.ref a1)])) rfl rfl (hb hby own_d4_44) _ ?_
    show Steps p.tables e below (s₁.setTop (mkF m 45 #[.val (.ref a1), .val (.long q2), .second, .val (.int (3 : Int32)), .val (.int c2)] [(.long x2)])) _
    refine XS.lloadN X0.here hx rfl (hb hby own_d4_45) rfl ?_
    show Steps p.tables e below (s₁.setTop (mkF m 46 #[.val (.ref a1), .val (.long q2), .second, .val (.int (3 : Int32)), .val (.int c2)] [(.long q2), (.long x2)])) _
    refine XS.lcmp X0.here hx rfl (hb hby own_d4_46) rfl ?_
    exact k
  obtain ⟨c3, hv_c3⟩ : ∃ z : Int32, z = (if x2 < q2 then (c2 + (1 : Int32)) else c2) := ⟨_, rfl⟩
  have g13 : ∀ t, Steps p.tables e below (s₁.setTop (mkF m 53 #[.val (.ref a1), .val (.long q2), .second, .val (.int (3 : Int32)), .val (.int c3)] [])) t → Steps p.tables e below (s₁.setTop (entryFrame m #[(.ref a1), (.long q2)] 5)) t := by
    intro t k
    by_cases hc12 : x2 < q2
    · rw [if_pos hc12] at hv_c3; rw [hv_c3] at k
      refine g11 t ?_
      show Steps p.tables e below (s₁.setTop (mkF m 47 #[.val (.ref a1), .val (.long q2), .second, .val (.int (3 : Int32)), .val (.int c2)] [(.int (lcmpW x2 q2))])) _
      refine XS.ifNo X0.here hx rfl (hb hby own_d4_47) rfl ((if0 _ _).trans (tlt ((lw_lt _ _).mpr hc12)).2.1) ?_
      show Steps p.tables e below (s₁.setTop (mkF m 50 #[.val (.ref a1), .val (.long q2), .second, .val (.int (3 : Int32)), .val (.int c2)] [])) _
      refine XS.iinc X0.here hx rfl (hb hby own_d4_50) rfl (l' := #[.val (.ref a1), .val (.long q2), .second, .val (.int (3 : Int32)), .val (.int (c2 + (1 : Int32)))]) rfl ?_
      exact k
    · rw [if_neg hc12] at hv_c3; rw [hv_c3] at k
      refine g11 t ?_
      show Steps p.tables e below (s₁.setTop (mkF m 47 #[.val (.ref a1), .val (.long q2), .second, .val (.int (3 : Int32)), .val (.int c2)] [(.int (lcmpW x2 q2))])) _
      refine XS.ifYes X0.here hx rfl (pc0 := 47) (pc' := 53) rfl (hb hby own_d4_47) rfl ((if0 _ _).trans (flt (fun q => hc12 ((lw_lt _ _).mp q))).2.1) (by decide) (by decide) ?_
      exact k
  have g14 : ∀ t, Steps p.tables e below (s₁.setTop (mkF m 139 #[.val (.ref a1), .val (.long q2), .second, .val (.int (3 : Int32)), .val (.int c3)] [(.int c3)])) t → Steps p.tables e below (s₁.setTop (entryFrame m #[(.ref a1), (.long q2)] 5)) t := by
    intro t k
    refine g13 t ?_
    show Steps p.tables e below (s₁.setTop (mkF m 53 #[.val (.ref a1), .val (.long q2), .second, .val (.int (3 : Int32)), .val (.int c3)] [])) _
    refine XS.iloadN X0.here hx rfl (hb hby own_d4_53) rfl ?_
    show Steps p.tables e below (s₁.setTop (mkF m 54 #[.val (.ref a1), .val (.long q2), .second, .val (.int (3 : Int32)), .val (.int c3)] [(.int (3 : Int32))])) _
    refine XS.iconst X0.here hx rfl (hb hby own_d4_54) ?_
    show Steps p.tables e below (s₁.setTop (mkF m 55 #[.val (.ref a1), .val (.long q2), .second, .val (.int (3 : Int32)), .val (.int c3)] [(.int (3 : Int32)), (.int (3 : Int32))])) _
    refine XS.icmpYes X0.here hx rfl (pc0 := 55) (pc' := 69) rfl (hb hby own_d4_55) rfl (flt (by decide : ¬ ((3 : Int32) < (3 : Int32)))).2.2.2 (by decide) (by decide) ?_
    show Steps p.tables e below (s₁.setTop (mkF m 69 #[.val (.ref a1), .val (.long q2), .second, .val (.int (3 : Int32)), .val (.int c3)] [])) _
    refine XS.iloadN X0.here hx rfl (hb hby own_d4_69) rfl ?_
    show Steps p.tables e below (s₁.setTop (mkF m 70 #[.val (.ref a1), .val (.long q2), .second, .val (.int (3 : Int32)), .val (.int c3)] [(.int (3 : Int32))])) _
    refine XS.iconst X0.here hx rfl (hb hby own_d4_70) ?_
    show Steps p.tables e below (s₁.setTop (mkF m 71 #[.val (.ref a1), .val (.long q2), .second, .val (.int (3 : Int32)), .val (.int c3)] [(.int (4 : Int32)), (.int (3 : Int32))])) _
    refine XS.icmpYes X0.here hx rfl (pc0 := 71) (pc' := 85) rfl (hb hby own_d4_71) rfl (flt (by decide : ¬ ((4 : Int32) < (3 : Int32)))).2.2.2 (by decide) (by decide) ?_
    show Steps p.tables e below (s₁.setTop (mkF m 85 #[.val (.ref a1), .val (.long q2), .second, .val (.int (3 : Int32)), .val (.int c3)] [])) _
    refine XS.iloadN X0.here hx rfl (hb hby own_d4_85) rfl ?_
    show Steps p.tables e below (s₁.setTop (mkF m 86 #[.val (.ref a1), .val (.long q2), .second, .val (.int (3 : Int32)), .val (.int c3)] [(.int (3 : Int32))])) _
    refine XS.iconst X0.here hx rfl (hb hby own_d4_86) ?_
    show Steps p.tables e below (s₁.setTop (mkF m 87 #[.val (.ref a1), .val (.long q2), .second, .val (.int (3 : Int32)), .val (.int c3)] [(.int (5 : Int32)), (.int (3 : Int32))])) _
    refine XS.icmpYes X0.here hx rfl (pc0 := 87) (pc' := 101) rfl (hb hby own_d4_87) rfl (flt (by decide : ¬ ((5 : Int32) < (3 : Int32)))).2.2.2 (by decide) (by decide) ?_
    show Steps p.tables e below (s₁.setTop (mkF m 101 #[.val (.ref a1), .val (.long q2), .second, .val (.int (3 : Int32)), .val (.int c3)] [])) _
    refine XS.iloadN X0.here hx rfl (hb hby own_d4_101) rfl ?_
    show Steps p.tables e below (s₁.setTop (mkF m 102 #[.val (.ref a1), .val (.long q2), .second, .val (.int (3 : Int32)), .val (.int c3)] [(.int (3 : Int32))])) _
    refine XS.bipush X0.here hx rfl (hb hby own_d4_102) ?_
    show Steps p.tables e below (s₁.setTop (mkF m 104 #[.val (.ref a1), .val (.long q2), .second, .val (.int (3 : Int32)), .val (.int c3)] [(.int (6 : Int32)), (.int (3 : Int32))])) _
    refine XS.icmpYes X0.here hx rfl (pc0 := 104) (pc' := 119) rfl (hb hby own_d4_104) rfl (flt (by decide : ¬ ((6 : Int32) < (3 : Int32)))).2.2.2 (by decide) (by decide) ?_
    show Steps p.tables e below (s₁.setTop (mkF m 119 #[.val (.ref a1), .val (.long q2), .second, .val (.int (3 : Int32)), .val (.int c3)] [])) _
    refine XS.iloadN X0.here hx rfl (hb hby own_d4_119) rfl ?_
    show Steps p.tables e below (s₁.setTop (mkF m 120 #[.val (.ref a1), .val (.long q2), .second, .val (.int (3 : Int32)), .val (.int c3)] [(.int (3 : Int32))])) _
    refine XS.bipush X0.here hx rfl (hb hby own_d4_120) ?_
    show Steps p.tables e below (s₁.setTop (mkF m 122 #[.val (.ref a1), .val (.long q2), .second, .val (.int (3 : Int32)), .val (.int c3)] [(.int (7 : Int32)), (.int (3 : Int32))])) _
    refine XS.icmpYes X0.here hx rfl (pc0 := 122) (pc' := 137) rfl (hb hby own_d4_122) rfl (flt (by decide : ¬ ((7 : Int32) < (3 : Int32)))).2.2.2 (by decide) (by decide) ?_
    show Steps p.tables e below (s₁.setTop (mkF m 137 #[.val (.ref a1), .val (.long q2), .second, .val (.int (3 : Int32)), .val (.int c3)] [])) _
    refine XS.iload X0.here hx rfl (hb hby own_d4_137) rfl ?_
    exact k
  obtain ⟨fs, hrt, hrun, hended, hW, hsame⟩ := X0.leave (v := some (.int c3)) (fun h => by rw [Bd.returns] at h; cases h)
  refine ⟨_, _, g14 _ ?_, hrun, hended, _, _, rfl, ?_, ⟨_, rfl⟩, hW, hsame.mono (by decide) (by decide)⟩
  · show Steps p.tables e below (s₁.setTop (mkF m 139 #[.val (.ref a1), .val (.long q2), .second, .val (.int (3 : Int32)), .val (.int c3)] [(.int c3)])) _
    exact retI X0 hx Bd.returns (hb hby own_d4_139) hrt
  · show own_Q_rmcountLt3 Z a1 ka x0 x1 x2 q2 r h0 n0 _ s₁.heap _
    rw [e0]
    exact ⟨by rw [← hr]; subst hv_c1; subst hv_c2; subst hv_c3; rfl, N0, rfl⟩
theorem own_ef11 (m : MethodId) (x0 : Addr) (x1 : Int32) : entryFrame m #[(.ref x0), (.int x1)] 3 = mkF m 0 #[.val (.ref x0), .val (.int x1), .unset] [] := by first | (simp [entryFrame, mkF, argsToLocals, Value.category]; done) | rfl
def own_Q_rmPct4 (Z : State) (a1 : Addr) (ka : ClassId) (x0 x1 x2 x3 r : Int64) (p2 j : Int32) (h0 : Heap) (n0 : Nat) (v : Option Value) (h : Heap) (L : List Loc) : Prop := v = some (.long r) ∧ Fr n0 L ∧ h = h0
set_option maxRecDepth 65536 in
set_option maxHeartbeats 40000000 in
theorem rmPct4 (l : Launch) (Z : State) (a0 : Array Value) (hw : ∀ d ∈ tables_1, d.before a0 Z = true) (ws : List Jvm.Cond) (a1 : Addr) (ka : ClassId) (x0 x1 x2 x3 r : Int64) (p2 j : Int32) (h0 : Heap) (n0 : Nat) (O0 : Old Z n0 h0) (Va : Arv Z h0 a1 ka .long (4 : Int32) [(.long x0), (.long x1), (.long x2), (.long x3)] (.long (0 : Int64))) (hj : (((((((4 : Int32).toInt64) * (p2.toInt64)) + (99 : Int64)) / (100 : Int64)).toInt32) - (1 : Int32)) = j) (hj0 : ¬ j < 0) (hj1 : j < (4 : Int32)) (hjr : ([(.long x0), (.long x1), (.long x2), (.long x3)] : List Value).getD j.toNatClampNeg (.long (0 : Int64)) = .long r) :
    MetFree l (⟨"orderwire/bench/Latency", "percentile", "([JI)J"⟩ : MethodName) (head1 (Jvm.Cond.code (⟨"orderwire/bench/Latency", "percentile", "([JI)J"⟩ : MethodName) prog_6_method_9_code 3 (some .long) :: ws) ({ frames := 0, cells := 0, slots := 0, locals := 0 } : Room)) (fun a U => a = #[(.ref a1), (.int p2)] ∧ Z.Warmed39 U.vm ∧ U.heap = h0) (fun _ _ _ _ _ => True) (fun _ U o U' => ∃ v L, o = .returned v ∧ own_Q_rmPct4 Z a1 ka x0 x1 x2 x3 r p2 j h0 n0 v U'.heap L ∧ FrameEnd U o U' L ({ frames := 0, cells := 0, slots := 0, locals := 0 } : Room).cells ({ frames := 0, cells := 0, slots := 0, locals := 0 } : Room).slots) := by
  refine MetFree.of_bodySF (plainFor_of_name own_pn0) hisR ?_
  intro p e s m args below meth c s₁ Bd hml0 hP hK
  obtain ⟨rfl, hZ, hh⟩ := hP
  have hx := Bd.exec
  have hby := Bd.bytes
  have hml : c.maxLocals = 3 := hml0
  have hown : s.vm.findClass "orderwire/bench/Latency" = some m.cls := findClass_of_methodNamed Bd.named
  have hnm := (name_of_methodNamed Bd.named Bd.method).1
  have X0 : Stand p l e ({ frames := 0, cells := 0, slots := 0, locals := 0 } : Room) s m #[(.ref a1), (.int p2)] below meth c s₁ [] 0 0 := Stand.of_body Bd
  have e0 : s₁.heap = h0 := by rw [← hh, Bd.state]; rfl
  have N0 := Fr.nil n0
  have Z0 : n0 ≤ h0.size := O0.1 ▸ O0.2.1
  have g0 : ∀ t, Steps p.tables e below (s₁.setTop (mkF m 0 #[.val (.ref a1), .val (.int p2), .unset] [])) t → Steps p.tables e below (s₁.setTop (entryFrame m #[(.ref a1), (.int p2)] 3)) t := fun t k => castTop (own_ef11 m (a1) (p2)) k
  obtain ⟨c1, Ar1, cq1, S1, Nn1, Hh1, Gg1⟩ := id Va
  have g2 : ∀ t, Steps p.tables e below (s₁.setTop (mkF m 20 #[.val (.ref a1), .val (.int p2), .val (.int ((((((4 : Int32).toInt64) * (p2.toInt64)) + (99 : Int64)) / (100 : Int64)).toInt32))] [(.int j), (.ref a1)])) t → Steps p.tables e below (s₁.setTop (entryFrame m #[(.ref a1), (.int p2)] 3)) t := by
    intro t k
    rw [← hj] at k
    refine g0 t ?_
    show Steps p.tables e below (s₁.setTop (mkF m 0 #[.val (.ref a1), .val (.int p2), .unset] [])) _
    refine XS.aloadN X0.here hx rfl (hb hby own_d2_0) rfl rfl ?_
    show Steps p.tables e below (s₁.setTop (mkF m 1 #[.val (.ref a1), .val (.int p2), .unset] [(.ref a1)])) _
    refine X0.arraylength hx (by rw [e0]; exact Ar1.1) (State.isArrayOf_alike hZ.alike Ar1.2.1) (g := (mkF m 1 #[.val (.ref a1), .val (.int p2), .unset] [(.ref a1)])) rfl rfl (hb hby own_d2_1) _ ?_
    rw [len_of S1 Nn1]
    show Steps p.tables e below (s₁.setTop (mkF m 2 #[.val (.ref a1), .val (.int p2), .unset] [(.int (4 : Int32))])) _
    refine XS.i2l X0.here hx rfl (hb hby own_d2_2) rfl ?_
    show Steps p.tables e below (s₁.setTop (mkF m 3 #[.val (.ref a1), .val (.int p2), .unset] [(.long ((4 : Int32).toInt64))])) _
    refine XS.iloadN X0.here hx rfl (hb hby own_d2_3) rfl ?_
    show Steps p.tables e below (s₁.setTop (mkF m 4 #[.val (.ref a1), .val (.int p2), .unset] [(.int p2), (.long ((4 : Int32).toInt64))])) _
    refine XS.i2l X0.here hx rfl (hb hby own_d2_4) rfl ?_
    show Steps p.tables e below (s₁.setTop (mkF m 5 #[.val (.ref a1), .val (.int p2), .unset] [(.long (p2.toInt64)), (.long ((4 : Int32).toInt64))])) _
    refine XS.lmul X0.here hx rfl (hb hby own_d2_5) rfl ?_
    show Steps p.tables e below (s₁.setTop (mkF m 6 #[.val (.ref a1), .val (.int p2), .unset] [(.long (((4 : Int32).toInt64) * (p2.toInt64)))])) _
    refine X0.ldc2Long hx hown (mvT hZ (hw _ (List.mem_of_getElem? (i := 11) rfl))) (g := (mkF m 6 #[.val (.ref a1), .val (.int p2), .unset] [(.long (((4 : Int32).toInt64) * (p2.toInt64)))])) rfl (hb hby own_d2_6) _ ?_
    show Steps p.tables e below (s₁.setTop (mkF m 9 #[.val (.ref a1), .val (.int p2), .unset] [(.long (99 : Int64)), (.long (((4 : Int32).toInt64) * (p2.toInt64)))])) _
    refine XS.ladd X0.here hx rfl (hb hby own_d2_9) rfl ?_
    show Steps p.tables e below (s₁.setTop (mkF m 10 #[.val (.ref a1), .val (.int p2), .unset] [(.long ((((4 : Int32).toInt64) * (p2.toInt64)) + (99 : Int64)))])) _
    refine X0.ldc2Long hx hown (mvT hZ (hw _ (List.mem_of_getElem? (i := 12) rfl))) (g := (mkF m 10 #[.val (.ref a1), .val (.int p2), .unset] [(.long ((((4 : Int32).toInt64) * (p2.toInt64)) + (99 : Int64)))])) rfl (hb hby own_d2_10) _ ?_
    show Steps p.tables e below (s₁.setTop (mkF m 13 #[.val (.ref a1), .val (.int p2), .unset] [(.long (100 : Int64)), (.long ((((4 : Int32).toInt64) * (p2.toInt64)) + (99 : Int64)))])) _
    refine XS.ldiv X0.here hx rfl (hb hby own_d2_13) rfl (by decide) ?_
    show Steps p.tables e below (s₁.setTop (mkF m 14 #[.val (.ref a1), .val (.int p2), .unset] [(.long (((((4 : Int32).toInt64) * (p2.toInt64)) + (99 : Int64)) / (100 : Int64)))])) _
    refine XS.l2i X0.here hx rfl (hb hby own_d2_14) rfl ?_
    show Steps p.tables e below (s₁.setTop (mkF m 15 #[.val (.ref a1), .val (.int p2), .unset] [(.int ((((((4 : Int32).toInt64) * (p2.toInt64)) + (99 : Int64)) / (100 : Int64)).toInt32))])) _
    refine XS.istoreN X0.here hx rfl (hb hby own_d2_15) rfl (l' := #[.val (.ref a1), .val (.int p2), .val (.int ((((((4 : Int32).toInt64) * (p2.toInt64)) + (99 : Int64)) / (100 : Int64)).toInt32))]) rfl ?_
    show Steps p.tables e below (s₁.setTop (mkF m 16 #[.val (.ref a1), .val (.int p2), .val (.int ((((((4 : Int32).toInt64) * (p2.toInt64)) + (99 : Int64)) / (100 : Int64)).toInt32))] [])) _
    refine XS.aloadN X0.here hx rfl (hb hby own_d2_16) rfl rfl ?_
    show Steps p.tables e below (s₁.setTop (mkF m 17 #[.val (.ref a1), .val (.int p2), .val (.int ((((((4 : Int32).toInt64) * (p2.toInt64)) + (99 : Int64)) / (100 : Int64)).toInt32))] [(.ref a1)])) _
    refine XS.iloadN X0.here hx rfl (hb hby own_d2_17) rfl ?_
    show Steps p.tables e below (s₁.setTop (mkF m 18 #[.val (.ref a1), .val (.int p2), .val (.int ((((((4 : Int32).toInt64) * (p2.toInt64)) + (99 : Int64)) / (100 : Int64)).toInt32))] [(.int ((((((4 : Int32).toInt64) * (p2.toInt64)) + (99 : Int64)) / (100 : Int64)).toInt32)), (.ref a1)])) _
    refine XS.iconst X0.here hx rfl (hb hby own_d2_18) ?_
    show Steps p.tables e below (s₁.setTop (mkF m 19 #[.val (.ref a1), .val (.int p2), .val (.int ((((((4 : Int32).toInt64) * (p2.toInt64)) + (99 : Int64)) / (100 : Int64)).toInt32))] [(.int (1 : Int32)), (.int ((((((4 : Int32).toInt64) * (p2.toInt64)) + (99 : Int64)) / (100 : Int64)).toInt32)), (.ref a1)])) _
    refine XS.isub X0.here hx rfl (hb hby own_d2_19) rfl ?_
    exact k
  obtain ⟨c3, Ar3, cq3, S3, Nn3, Hh3, Gg3⟩ := id Va
  have hin3 : ¬ (j < 0 ∨ c3.slots.size ≤ (j).toNatClampNeg) := inb_of S3 ⟨hj0, hj1⟩
  have hat3 : c3.slots[(j).toNatClampNeg]? = some (.long r) := Has.at Hh3 hin3 hjr
  have g4 : ∀ t, Steps p.tables e below (s₁.setTop (mkF m 21 #[.val (.ref a1), .val (.int p2), .val (.int ((((((4 : Int32).toInt64) * (p2.toInt64)) + (99 : Int64)) / (100 : Int64)).toInt32))] [(.long r)])) t → Steps p.tables e below (s₁.setTop (entryFrame m #[(.ref a1), (.int p2)] 3)) t := by
    intro t k
    refine g2 t ?_
    show Steps p.tables e below (s₁.setTop (mkF m 20 #[.val (.ref a1), .val (.int p2), .val (.int ((((((4 : Int32).toInt64) * (p2.toInt64)) + (99 : Int64)) / (100 : Int64)).toInt32))] [(.int j), (.ref a1)])) _
    refine X0.laload hx (j := j) (v := (.long r)) (by rw [e0]; exact Ar3.1) (State.isArrayOf_alike hZ.alike Ar3.2.1) Ar3.2.2 hin3 hat3 (g := (mkF m 20 #[.val (.ref a1), .val (.int p2), .val (.int ((((((4 : Int32).toInt64) * (p2.toInt64)) + (99 : Int64)) / (100 : Int64)).toInt32))] [(.int j), (.ref a1)])) rfl rfl (hb hby own_d2_20) _ ?_
    exact k
  obtain ⟨fs, hrt, hrun, hended, hW, hsame⟩ := X0.leave (v := some (.long r)) (fun h => by rw [Bd.returns] at h; cases h)
  refine ⟨_, _, g4 _ ?_, hrun, hended, _, _, rfl, ?_, ⟨_, rfl⟩, hW, hsame.mono (by decide) (by decide)⟩
  · show Steps p.tables e below (s₁.setTop (mkF m 21 #[.val (.ref a1), .val (.int p2), .val (.int ((((((4 : Int32).toInt64) * (p2.toInt64)) + (99 : Int64)) / (100 : Int64)).toInt32))] [(.long r)])) _
    exact X0.lreturnOut hx Bd.returns (hb hby own_d2_21) hrt
  · show own_Q_rmPct4 Z a1 ka x0 x1 x2 x3 r p2 j h0 n0 _ s₁.heap _
    rw [e0]
    exact ⟨rfl, N0, rfl⟩
theorem own_ef12 (m : MethodId) (x0 : Addr) (x1 : Int64) : entryFrame m #[(.ref x0), (.long x1)] 5 = mkF m 0 #[.val (.ref x0), .val (.long x1), .second, .unset, .unset] [] := by first | (simp [entryFrame, mkF, argsToLocals, Value.category]; done) | rfl
theorem own_d3_58 : decode method_3_code 58 = .ok (.aload_n 0, 1) := by decide +kernel
theorem own_d3_59 : decode method_3_code 59 = .ok (.iconst 3, 1) := by decide +kernel
theorem own_d3_60 : decode method_3_code 60 = .ok (.laload, 1) := by decide +kernel
theorem own_d3_61 : decode method_3_code 61 = .ok (.lload_n 1, 1) := by decide +kernel
theorem own_d3_62 : decode method_3_code 62 = .ok (.lcmp, 1) := by decide +kernel
theorem own_d3_63 : decode method_3_code 63 = .ok (.ifCond .gt 6, 3) := by decide +kernel
theorem own_d3_66 : decode method_3_code 66 = .ok (.iinc 4 1, 3) := by decide +kernel
def own_Q_rmcountLe4 (Z : State) (a1 : Addr) (ka : ClassId) (x0 x1 x2 x3 q2 : Int64) (r : Int32) (h0 : Heap) (n0 : Nat) (v : Option Value) (h : Heap) (L : List Loc) : Prop := v = some (.int r) ∧ Fr n0 L ∧ h = h0
set_option maxRecDepth 65536 in
set_option maxHeartbeats 40000000 in
theorem rmcountLe4 (l : Launch) (Z : State) (a0 : Array Value) (hw : ∀ d ∈ tables_1, d.before a0 Z = true) (ws : List Jvm.Cond) (a1 : Addr) (ka : ClassId) (x0 x1 x2 x3 q2 : Int64) (r : Int32) (h0 : Heap) (n0 : Nat) (O0 : Old Z n0 h0) (Va : Arv Z h0 a1 ka .long (4 : Int32) [(.long x0), (.long x1), (.long x2), (.long x3)] (.long (0 : Int64))) (hr : own_cle q2 [x0, x1, x2, x3] 0 = r) :
    MetFree l (⟨"orderwire/bench/LatencyPercentilePinLaw", "countLe", "([JJ)I"⟩ : MethodName) (head1 (Jvm.Cond.code (⟨"orderwire/bench/LatencyPercentilePinLaw", "countLe", "([JJ)I"⟩ : MethodName) method_3_code 5 (some .int) :: ws) ({ frames := 0, cells := 0, slots := 0, locals := 0 } : Room)) (fun a U => a = #[(.ref a1), (.long q2)] ∧ Z.Warmed39 U.vm ∧ U.heap = h0) (fun _ _ _ _ _ => True) (fun _ U o U' => ∃ v L, o = .returned v ∧ own_Q_rmcountLe4 Z a1 ka x0 x1 x2 x3 q2 r h0 n0 v U'.heap L ∧ FrameEnd U o U' L ({ frames := 0, cells := 0, slots := 0, locals := 0 } : Room).cells ({ frames := 0, cells := 0, slots := 0, locals := 0 } : Room).slots) := by
  refine MetFree.of_bodySF (plainFor_of_name own_pn1) hisR ?_
  intro p e s m args below meth c s₁ Bd hml0 hP hK
  obtain ⟨rfl, hZ, hh⟩ := hP
  have hx := Bd.exec
  have hby := Bd.bytes
  have hml : c.maxLocals = 5 := hml0
  have hown : s.vm.findClass "orderwire/bench/LatencyPercentilePinLaw" = some m.cls := findClass_of_methodNamed Bd.named
  have hnm := (name_of_methodNamed Bd.named Bd.method).1
  have X0 : Stand p l e ({ frames := 0, cells := 0, slots := 0, locals := 0 } : Room) s m #[(.ref a1), (.long q2)] below meth c s₁ [] 0 0 := Stand.of_body Bd
  have e0 : s₁.heap = h0 := by rw [← hh, Bd.state]; rfl
  have N0 := Fr.nil n0
  have Z0 : n0 ≤ h0.size := O0.1 ▸ O0.2.1
  have g0 : ∀ t, Steps p.tables e below (s₁.setTop (mkF m 0 #[.val (.ref a1), .val (.long q2), .second, .unset, .unset] [])) t → Steps p.tables e below (s₁.setTop (entryFrame m #[(.ref a1), (.long q2)] 5)) t := fun t k => castTop (own_ef12 m (a1) (q2)) k
  obtain ⟨c1, Ar1, cq1, S1, Nn1, Hh1, Gg1⟩ := id Va
  obtain ⟨c2, Ar2, cq2, S2, Nn2, Hh2, Gg2⟩ := id Va
  have hin2 : ¬ ((0 : Int32) < 0 ∨ c2.slots.size ≤ ((0 : Int32)).toNatClampNeg) := inb_of S2 ⟨by decide, by decide⟩
  have hat2 : c2.slots[((0 : Int32)).toNatClampNeg]? = some (.long x0) := Has.at Hh2 hin2 rfl
  have g3 : ∀ t, Steps p.tables e below (s₁.setTop (mkF m 15 #[.val (.ref a1), .val (.long q2), .second, .val (.int (4 : Int32)), .val (.int (0 : Int32))] [(.int (lcmpW x0 q2))])) t → Steps p.tables e below (s₁.setTop (entryFrame m #[(.ref a1), (.long q2)] 5)) t := by
    intro t k
    refine g0 t ?_
    show Steps p.tables e below (s₁.setTop (mkF m 0 #[.val (.ref a1), .val (.long q2), .second, .unset, .unset] [])) _
    refine XS.aloadN X0.here hx rfl (hb hby own_d3_0) rfl rfl ?_
    show Steps p.tables e below (s₁.setTop (mkF m 1 #[.val (.ref a1), .val (.long q2), .second, .unset, .unset] [(.ref a1)])) _
    refine X0.arraylength hx (by rw [e0]; exact Ar1.1) (State.isArrayOf_alike hZ.alike Ar1.2.1) (g := (mkF m 1 #[.val (.ref a1), .val (.long q2), .second, .unset, .unset] [(.ref a1)])) rfl rfl (hb hby own_d3_1) _ ?_
    rw [len_of S1 Nn1]
    show Steps p.tables e below (s₁.setTop (mkF m 2 #[.val (.ref a1), .val (.long q2), .second, .unset, .unset] [(.int (4 : Int32))])) _
    refine XS.istoreN X0.here hx rfl (hb hby own_d3_2) rfl (l' := #[.val (.ref a1), .val (.long q2), .second, .val (.int (4 : Int32)), .unset]) rfl ?_
    show Steps p.tables e below (s₁.setTop (mkF m 3 #[.val (.ref a1), .val (.long q2), .second, .val (.int (4 : Int32)), .unset] [])) _
    refine XS.iconst X0.here hx rfl (hb hby own_d3_3) ?_
    show Steps p.tables e below (s₁.setTop (mkF m 4 #[.val (.ref a1), .val (.long q2), .second, .val (.int (4 : Int32)), .unset] [(.int (0 : Int32))])) _
    refine XS.istore X0.here hx rfl (hb hby own_d3_4) rfl (l' := #[.val (.ref a1), .val (.long q2), .second, .val (.int (4 : Int32)), .val (.int (0 : Int32))]) rfl ?_
    show Steps p.tables e below (s₁.setTop (mkF m 6 #[.val (.ref a1), .val (.long q2), .second, .val (.int (4 : Int32)), .val (.int (0 : Int32))] [])) _
    refine XS.iloadN X0.here hx rfl (hb hby own_d3_6) rfl ?_
    show Steps p.tables e below (s₁.setTop (mkF m 7 #[.val (.ref a1), .val (.long q2), .second, .val (.int (4 : Int32)), .val (.int (0 : Int32))] [(.int (4 : Int32))])) _
    refine XS.ifNo X0.here hx rfl (hb hby own_d3_7) rfl ((if0 _ _).trans (tlt (by decide : (0 : Int32) < (4 : Int32))).2.2.2) ?_
    show Steps p.tables e below (s₁.setTop (mkF m 10 #[.val (.ref a1), .val (.long q2), .second, .val (.int (4 : Int32)), .val (.int (0 : Int32))] [])) _
    refine XS.aloadN X0.here hx rfl (hb hby own_d3_10) rfl rfl ?_
    show Steps p.tables e below (s₁.setTop (mkF m 11 #[.val (.ref a1), .val (.long q2), .second, .val (.int (4 : Int32)), .val (.int (0 : Int32))] [(.ref a1)])) _
    refine XS.iconst X0.here hx rfl (hb hby own_d3_11) ?_
    show Steps p.tables e below (s₁.setTop (mkF m 12 #[.val (.ref a1), .val (.long q2), .second, .val (.int (4 : Int32)), .val (.int (0 : Int32))] [(.int (0 : Int32)), (.ref a1)])) _
    refine X0.laload hx (j := (0 : Int32)) (v := (.long x0)) (by rw [e0]; exact Ar2.1) (State.isArrayOf_alike hZ.alike Ar2.2.1) Ar2.2.2 hin2 hat2 (g := (mkF m 12 #[.val (.ref a1), .val (.long q2), .second, .val (.int (4 : Int32)), .val (.int (0 : Int32))] [(.int (0 : Int32)), (.ref a1)])) rfl rfl (hb hby own_d3_12) _ ?_
    show Steps p.tables e below (s₁.setTop (mkF m 13 #[.val (.ref a1), .val (.long q2), .second, .val (.int (4 : Int32)), .val (.int (0 : Int32))] [(.long x0)])) _
    refine XS.lloadN X0.here hx rfl (hb hby own_d3_13) rfl ?_
    show Steps p.tables e below (s₁.setTop (mkF m 14 #[.val (.ref a1), .val (.long q2), .second, .val (.int (4 : Int32)), .val (.int (0 : Int32))] [(.long q2), (.long x0)])) _
    refine XS.lcmp X0.here hx rfl (hb hby own_d3_14) rfl ?_
    exact k
  obtain ⟨c1, hv_c1⟩ : ∃ z : Int32, z = (if q2 < x0 then (0 : Int32) else ((0 : Int32) + (1 : Int32))) := ⟨_, rfl⟩
  have g5 : ∀ t, Steps p.tables e below (s₁.setTop (mkF m 21 #[.val (.ref a1), .val (.long q2), .second, .val (.int (4 : Int32)), .val (.int c1)] [])) t → Steps p.tables e below (s₁.setTop (entryFrame m #[(.ref a1), (.long q2)] 5)) t := by
    intro t k
    by_cases hc4 : q2 < x0
    · rw [if_pos hc4] at hv_c1; rw [hv_c1] at k
      refine g3 t ?_
      show Steps p.tables e below (s₁.setTop (mkF m 15 #[.val (.ref a1), .val (.long q2), .second, .val (.int (4 : Int32)), .val (.int (0 : Int32))] [(.int (lcmpW x0 q2))])) _
      refine XS.ifYes X0.here hx rfl (pc0 := 15) (pc' := 21) rfl (hb hby own_d3_15) rfl ((if0 _ _).trans (tlt ((lw_gt _ _).mpr hc4)).2.2.1) (by decide) (by decide) ?_
      exact k
    · rw [if_neg hc4] at hv_c1; rw [hv_c1] at k
      refine g3 t ?_
      show Steps p.tables e below (s₁.setTop (mkF m 15 #[.val (.ref a1), .val (.long q2), .second, .val (.int (4 : Int32)), .val (.int (0 : Int32))] [(.int (lcmpW x0 q2))])) _
      refine XS.ifNo X0.here hx rfl (hb hby own_d3_15) rfl ((if0 _ _).trans (flt (fun q => hc4 ((lw_gt _ _).mp q))).2.2.1) ?_
      show Steps p.tables e below (s₁.setTop (mkF m 18 #[.val (.ref a1), .val (.long q2), .second, .val (.int (4 : Int32)), .val (.int (0 : Int32))] [])) _
      refine XS.iinc X0.here hx rfl (hb hby own_d3_18) rfl (l' := #[.val (.ref a1), .val (.long q2), .second, .val (.int (4 : Int32)), .val (.int ((0 : Int32) + (1 : Int32)))]) rfl ?_
      exact k
  obtain ⟨c6, Ar6, cq6, S6, Nn6, Hh6, Gg6⟩ := id Va
  have hin6 : ¬ ((1 : Int32) < 0 ∨ c6.slots.size ≤ ((1 : Int32)).toNatClampNeg) := inb_of S6 ⟨by decide, by decide⟩
  have hat6 : c6.slots[((1 : Int32)).toNatClampNeg]? = some (.long x1) := Has.at Hh6 hin6 rfl
  have g7 : ∀ t, Steps p.tables e below (s₁.setTop (mkF m 31 #[.val (.ref a1), .val (.long q2), .second, .val (.int (4 : Int32)), .val (.int c1)] [(.int (lcmpW x1 q2))])) t → Steps p.tables e below (s₁.setTop (entryFrame m #[(.ref a1), (.long q2)] 5)) t := by
    intro t k
    refine g5 t ?_
    show Steps p.tables e below (s₁.setTop (mkF m 21 #[.val (.ref a1), .val (.long q2), .second, .val (.int (4 : Int32)), .val (.int c1)] [])) _
    refine XS.iloadN X0.here hx rfl (hb hby own_d3_21) rfl ?_
    show Steps p.tables e below (s₁.setTop (mkF m 22 #[.val (.ref a1), .val (.long q2), .second, .val (.int (4 : Int32)), .val (.int c1)] [(.int (4 : Int32))])) _
    refine XS.iconst X0.here hx rfl (hb hby own_d3_22) ?_
    show Steps p.tables e below (s₁.setTop (mkF m 23 #[.val (.ref a1), .val (.long q2), .second, .val (.int (4 : Int32)), .val (.int c1)] [(.int (1 : Int32)), (.int (4 : Int32))])) _
    refine XS.icmpNo X0.here hx rfl (hb hby own_d3_23) rfl (tlt (by decide : (1 : Int32) < (4 : Int32))).2.2.2 ?_
    show Steps p.tables e below (s₁.setTop (mkF m 26 #[.val (.ref a1), .val (.long q2), .second, .val (.int (4 : Int32)), .val (.int c1)] [])) _
    refine XS.aloadN X0.here hx rfl (hb hby own_d3_26) rfl rfl ?_
    show Steps p.tables e below (s₁.setTop (mkF m 27 #[.val (.ref a1), .val (.long q2), .second, .val (.int (4 : Int32)), .val (.int c1)] [(.ref a1)])) _
    refine XS.iconst X0.here hx rfl (hb hby own_d3_27) ?_
    show Steps p.tables e below (s₁.setTop (mkF m 28 #[.val (.ref a1), .val (.long q2), .second, .val (.int (4 : Int32)), .val (.int c1)] [(.int (1 : Int32)), (.ref a1)])) _
    refine X0.laload hx (j := (1 : Int32)) (v := (.long x1)) (by rw [e0]; exact Ar6.1) (State.isArrayOf_alike hZ.alike Ar6.2.1) Ar6.2.2 hin6 hat6 (g := (mkF m 28 #[.val (.ref a1), .val (.long q2), .second, .val (.int (4 : Int32)), .val (.int c1)] [(.int (1 : Int32)), (.ref a1)])) rfl rfl (hb hby own_d3_28) _ ?_
    show Steps p.tables e below (s₁.setTop (mkF m 29 #[.val (.ref a1), .val (.long q2), .second, .val (.int (4 : Int32)), .val (.int c1)] [(.long x1)])) _
    refine XS.lloadN X0.here hx rfl (hb hby own_d3_29) rfl ?_
    show Steps p.tables e below (s₁.setTop (mkF m 30 #[.val (.ref a1), .val (.long q2), .second, .val (.int (4 : Int32)), .val (.int c1)] [(.long q2), (.long x1)])) _
    refine XS.lcmp X0.here hx rfl (hb hby own_d3_30) rfl ?_
    exact k
  obtain ⟨c2, hv_c2⟩ : ∃ z : Int32, z = (if q2 < x1 then c1 else (c1 + (1 : Int32))) := ⟨_, rfl⟩
  have g9 : ∀ t, Steps p.tables e below (s₁.setTop (mkF m 37 #[.val (.ref a1), .val (.long q2), .second, .val (.int (4 : Int32)), .val (.int c2)] [])) t → Steps p.tables e below (s₁.setTop (entryFrame m #[(.ref a1), (.long q2)] 5)) t := by
    intro t k
    by_cases hc8 : q2 < x1
    · rw [if_pos hc8] at hv_c2; rw [hv_c2] at k
      refine g7 t ?_
      show Steps p.tables e below (s₁.setTop (mkF m 31 #[.val (.ref a1), .val (.long q2), .second, .val (.int (4 : Int32)), .val (.int c1)] [(.int (lcmpW x1 q2))])) _
      refine XS.ifYes X0.here hx rfl (pc0 := 31) (pc' := 37) rfl (hb hby own_d3_31) rfl ((if0 _ _).trans (tlt ((lw_gt _ _).mpr hc8)).2.2.1) (by decide) (by decide) ?_
      exact k
    · rw [if_neg hc8] at hv_c2; rw [hv_c2] at k
      refine g7 t ?_
      show Steps p.tables e below (s₁.setTop (mkF m 31 #[.val (.ref a1), .val (.long q2), .second, .val (.int (4 : Int32)), .val (.int c1)] [(.int (lcmpW x1 q2))])) _
      refine XS.ifNo X0.here hx rfl (hb hby own_d3_31) rfl ((if0 _ _).trans (flt (fun q => hc8 ((lw_gt _ _).mp q))).2.2.1) ?_
      show Steps p.tables e below (s₁.setTop (mkF m 34 #[.val (.ref a1), .val (.long q2), .second, .val (.int (4 : Int32)), .val (.int c1)] [])) _
      refine XS.iinc X0.here hx rfl (hb hby own_d3_34) rfl (l' := #[.val (.ref a1), .val (.long q2), .second, .val (.int (4 : Int32)), .val (.int (c1 + (1 : Int32)))]) rfl ?_
      exact k
  obtain ⟨c10, Ar10, cq10, S10, Nn10, Hh10, Gg10⟩ := id Va
  have hin10 : ¬ ((2 : Int32) < 0 ∨ c10.slots.size ≤ ((2 : Int32)).toNatClampNeg) := inb_of S10 ⟨by decide, by decide⟩
  have hat10 : c10.slots[((2 : Int32)).toNatClampNeg]? = some (.long x2) := Has.at Hh10 hin10 rfl
  have g11 : ∀ t, Steps p.tables e below (s₁.setTop (mkF m 47 #[.val (.ref a1), .val (.long q2), .second, .val (.int (4 : Int32)), .val (.int c2)] [(.int (lcmpW x2 q2))])) t → Steps p.tables e below (s₁.setTop (entryFrame m #[(.ref a1), (.long q2)] 5)) t := by
    intro t k
    refine g9 t ?_
    show Steps p.tables e below (s₁.setTop (mkF m 37 #[.val (.ref a1), .val (.long q2), .second, .val (.int (4 : Int32)), .val (.int c2)] [])) _
    refine XS.iloadN X0.here hx rfl (hb hby own_d3_37) rfl ?_
    show Steps p.tables e below (s₁.setTop (mkF m 38 #[.val (.ref a1), .val (.long q2), .second, .val (.int (4 : Int32)), .val (.int c2)] [(.int (4 : Int32))])) _
    refine XS.iconst X0.here hx rfl (hb hby own_d3_38) ?_
    show Steps p.tables e below (s₁.setTop (mkF m 39 #[.val (.ref a1), .val (.long q2), .second, .val (.int (4 : Int32)), .val (.int c2)] [(.int (2 : Int32)), (.int (4 : Int32))])) _
    refine XS.icmpNo X0.here hx rfl (hb hby own_d3_39) rfl (tlt (by decide : (2 : Int32) < (4 : Int32))).2.2.2 ?_
    show Steps p.tables e below (s₁.setTop (mkF m 42 #[.val (.ref a1), .val (.long q2), .second, .val (.int (4 : Int32)), .val (.int c2)] [])) _
    refine XS.aloadN X0.here hx rfl (hb hby own_d3_42) rfl rfl ?_
    show Steps p.tables e below (s₁.setTop (mkF m 43 #[.val (.ref a1), .val (.long q2), .second, .val (.int (4 : Int32)), .val (.int c2)] [(.ref a1)])) _
    refine XS.iconst X0.here hx rfl (hb hby own_d3_43) ?_
    show Steps p.tables e below (s₁.setTop (mkF m 44 #[.val (.ref a1), .val (.long q2), .second, .val (.int (4 : Int32)), .val (.int c2)] [(.int (2 : Int32)), (.ref a1)])) _
    refine X0.laload hx (j := (2 : Int32)) (v := (.long x2)) (by rw [e0]; exact Ar10.1) (State.isArrayOf_alike hZ.alike Ar10.2.1) Ar10.2.2 hin10 hat10 (g := (mkF m 44 #[.val (.ref a1), .val (.long q2), .second, .val (.int (4 : Int32)), .val (.int c2)] [(.int (2 : Int32)), (.ref a1)])) rfl rfl (hb hby own_d3_44) _ ?_
    show Steps p.tables e below (s₁.setTop (mkF m 45 #[.val (.ref a1), .val (.long q2), .second, .val (.int (4 : Int32)), .val (.int c2)] [(.long x2)])) _
    refine XS.lloadN X0.here hx rfl (hb hby own_d3_45) rfl ?_
    show Steps p.tables e below (s₁.setTop (mkF m 46 #[.val (.ref a1), .val (.long q2), .second, .val (.int (4 : Int32)), .val (.int c2)] [(.long q2), (.long x2)])) _
    refine XS.lcmp X0.here hx rfl (hb hby own_d3_46) rfl ?_
    exact k
  obtain ⟨c3, hv_c3⟩ : ∃ z : Int32, z = (if q2 < x2 then c2 else (c2 + (1 : Int32))) := ⟨_, rfl⟩
  have g13 : ∀ t, Steps p.tables e below (s₁.setTop (mkF m 53 #[.val (.ref a1), .val (.long q2), .second, .val (.int (4 : Int32)), .val (.int c3)] [])) t → Steps p.tables e below (s₁.setTop (entryFrame m #[(.ref a1), (.long q2)] 5)) t := by
    intro t k
    by_cases hc12 : q2 < x2
    · rw [if_pos hc12] at hv_c3; rw [hv_c3] at k
      refine g11 t ?_
      show Steps p.tables e below (s₁.setTop (mkF m 47 #[.val (.ref a1), .val (.long q2), .second, .val (.int (4 : Int32)), .val (.int c2)] [(.int (lcmpW x2 q2))])) _
      refine XS.ifYes X0.here hx rfl (pc0 := 47) (pc' := 53) rfl (hb hby own_d3_47) rfl ((if0 _ _).trans (tlt ((lw_gt _ _).mpr hc12)).2.2.1) (by decide) (by decide) ?_
      exact k
    · rw [if_neg hc12] at hv_c3; rw [hv_c3] at k
      refine g11 t ?_
      show Steps p.tables e below (s₁.setTop (mkF m 47 #[.val (.ref a1), .val (.long q2), .second, .val (.int (4 : Int32)), .val (.int c2)] [(.int (lcmpW x2 q2))])) _
      refine XS.ifNo X0.here hx rfl (hb hby own_d3_47) rfl ((if0 _ _).trans (flt (fun q => hc12 ((lw_gt _ _).mp q))).2.2.1) ?_
      show Steps p.tables e below (s₁.setTop (mkF m 50 #[.val (.ref a1), .val (.long q2), .second, .val (.int (4 : Int32)), .val (.int c2)] [])) _
      refine XS.iinc X0.here hx rfl (hb hby own_d3_50) rfl (l' := #[.val (.ref a1), .val (.long q2), .second, .val (.int (4 : Int32)), .val (.int (c2 + (1 : Int32)))]) rfl ?_
      exact k
  obtain ⟨c14, Ar14, cq14, S14, Nn14, Hh14, Gg14⟩ := id Va
  have hin14 : ¬ ((3 : Int32) < 0 ∨ c14.slots.size ≤ ((3 : Int32)).toNatClampNeg) := inb_of S14 ⟨by decide, by decide⟩
  have hat14 : c14.slots[((3 : Int32)).toNatClampNeg]? = some (.long x3) := Has.at Hh14 hin14 rfl
  have g15 : ∀ t, Steps p.tables e below (s₁.setTop (mkF m 63 #[.val (.ref a1), .val (.long q2), .second, .val (.int (4 : Int32)), .val (.int c3)] [(.int (lcmpW x3 q2))])) t → Steps p.tables e below (s₁.setTop (entryFrame m #[(.ref a1), (.long q2)] 5)) t := by
    intro t k
    refine g13 t ?_
    show Steps p.tables e below (s₁.setTop (mkF m 53 #[.val (.ref a1), .val (.long q2), .second, .val (.int (4 : Int32)), .val (.int c3)] [])) _
    refine XS.iloadN X0.here hx rfl (hb hby own_d3_53) rfl ?_
    show Steps p.tables e below (s₁.setTop (mkF m 54 #[.val (.ref a1), .val (.long q2), .second, .val (.int (4 : Int32)), .val (.int c3)] [(.int (4 : Int32))])) _
    refine XS.iconst X0.here hx rfl (hb hby own_d3_54) ?_
    show Steps p.tables e below (s₁.setTop (mkF m 55 #[.val (.ref a1), .val (.long q2), .second, .val (.int (4 : Int32)), .val (.int c3)] [(.int (3 : Int32)), (.int (4 : Int32))])) _
    refine XS.icmpNo X0.here hx rfl (hb hby own_d3_55) rfl (tlt (by decide : (3 : Int32) < (4 : Int32))).2.2.2 ?_
    show Steps p.tables e below (s₁.setTop (mkF m 58 #[.val (.ref a1), .val (.long q2), .second, .val (.int (4 : Int32)), .val (.int c3)] [])) _
    refine XS.aloadN X0.here hx rfl (hb hby own_d3_58) rfl rfl ?_
    show Steps p.tables e below (s₁.setTop (mkF m 59 #[.val (.ref a1), .val (.long q2), .second, .val (.int (4 : Int32)), .val (.int c3)] [(.ref a1)])) _
    refine XS.iconst X0.here hx rfl (hb hby own_d3_59) ?_
    show Steps p.tables e below (s₁.setTop (mkF m 60 #[.val (.ref a1), .val (.long q2), .second, .val (.int (4 : Int32)), .val (.int c3)] [(.int (3 : Int32)), (.ref a1)])) _
    refine X0.laload hx (j := (3 : Int32)) (v := (.long x3)) (by rw [e0]; exact Ar14.1) (State.isArrayOf_alike hZ.alike Ar14.2.1) Ar14.2.2 hin14 hat14 (g := (mkF m 60 #[.val (.ref a1), .val (.long q2), .second, .val (.int (4 : Int32)), .val (.int c3)] [(.int (3 : Int32)), (.ref a1)])) rfl rfl (hb hby own_d3_60) _ ?_
    show Steps p.tables e below (s₁.setTop (mkF m 61 #[.val (.ref a1), .val (.long q2), .second, .val (.int (4 : Int32)), .val (.int c3)] [(.long x3)])) _
    refine XS.lloadN X0.here hx rfl (hb hby own_d3_61) rfl ?_
    show Steps p.tables e below (s₁.setTop (mkF m 62 #[.val (.ref a1), .val (.long q2), .second, .val (.int (4 : Int32)), .val (.int c3)] [(.long q2), (.long x3)])) _
    refine XS.lcmp X0.here hx rfl (hb hby own_d3_62) rfl ?_
    exact k
  obtain ⟨c4, hv_c4⟩ : ∃ z : Int32, z = (if q2 < x3 then c3 else (c3 + (1 : Int32))) := ⟨_, rfl⟩
  have g17 : ∀ t, Steps p.tables e below (s₁.setTop (mkF m 69 #[.val (.ref a1), .val (.long q2), .second, .val (.int (4 : Int32)), .val (.int c4)] [])) t → Steps p.tables e below (s₁.setTop (entryFrame m #[(.ref a1), (.long q2)] 5)) t := by
    intro t k
    by_cases hc16 : q2 < x3
    · rw [if_pos hc16] at hv_c4; rw [hv_c4] at k
      refine g15 t ?_
      show Steps p.tables e below (s₁.setTop (mkF m 63 #[.val (.ref a1), .val (.long q2), .second, .val (.int (4 : Int32)), .val (.int c3)] [(.int (lcmpW x3 q2))])) _
      refine XS.ifYes X0.here hx rfl (pc0 := 63) (pc' := 69) rfl (hb hby own_d3_63) rfl ((if0 _ _).trans (tlt ((lw_gt _ _).mpr hc16)).2.2.1) (by decide) (by decide) ?_
      exact k
    · rw [if_neg hc16] at hv_c4; rw [hv_c4] at k
      refine g15 t ?_
      show Steps p.tables e below (s₁.setTop (mkF m 63 #[.val (.ref a1), .val (.long q2), .second, .val (.int (4 : Int32)), .val (.int c3)] [(.int (lcmpW x3 q2))])) _
      refine XS.ifNo X0.here hx rfl (hb hby own_d3_63) rfl ((if0 _ _).trans (flt (fun q => hc16 ((lw_gt _ _).mp q))).2.2.1) ?_
      show Steps p.tables e below (s₁.setTop (mkF m 66 #[.val (.ref a1), .val (.long q2), .second, .val (.int (4 : Int32)), .val (.int c3)] [])) _
      refine XS.iinc X0.here hx rfl (hb hby own_d3_66) rfl (l' := #[.val (.ref a1), .val (.long q2), .second, .val (.int (4 : Int32)), .val (.int (c3 + (1 : Int32)))]) rfl ?_
      exact k
  have g18 : ∀ t, Steps p.tables e below (s₁.setTop (mkF m 139 #[.val (.ref a1), .val (.long q2), .second, .val (.int (4 : Int32)), .val (.int c4)] [(.int c4)])) t → Steps p.tables e below (s₁.setTop (entryFrame m #[(.ref a1), (.long q2)] 5)) t := by
    intro t k
    refine g17 t ?_
    show Steps p.tables e below (s₁.setTop (mkF m 69 #[.val (.ref a1), .val (.long q2), .second, .val (.int (4 : Int32)), .val (.int c4)] [])) _
    refine XS.iloadN X0.here hx rfl (hb hby own_d3_69) rfl ?_
    show Steps p.tables e below (s₁.setTop (mkF m 70 #[.val (.ref a1), .val (.long q2), .second, .val (.int (4 : Int32)), .val (.int c4)] [(.int (4 : Int32))])) _
    refine XS.iconst X0.here hx rfl (hb hby own_d3_70) ?_
    show Steps p.tables e below (s₁.setTop (mkF m 71 #[.val (.ref a1), .val (.long q2), .second, .val (.int (4 : Int32)), .val (.int c4)] [(.int (4 : Int32)), (.int (4 : Int32))])) _
    refine XS.icmpYes X0.here hx rfl (pc0 := 71) (pc' := 85) rfl (hb hby own_d3_71) rfl (flt (by decide : ¬ ((4 : Int32) < (4 : Int32)))).2.2.2 (by decide) (by decide) ?_
    show Steps p.tables e below (s₁.setTop (mkF m 85 #[.val (.ref a1), .val (.long q2), .second, .val (.int (4 : Int32)), .val (.int c4)] [])) _
    refine XS.iloadN X0.here hx rfl (hb hby own_d3_85) rfl ?_
    show Steps p.tables e below (s₁.setTop (mkF m 86 #[.val (.ref a1), .val (.long q2), .second, .val (.int (4 : Int32)), .val (.int c4)] [(.int (4 : Int32))])) _
    refine XS.iconst X0.here hx rfl (hb hby own_d3_86) ?_
    show Steps p.tables e below (s₁.setTop (mkF m 87 #[.val (.ref a1), .val (.long q2), .second, .val (.int (4 : Int32)), .val (.int c4)] [(.int (5 : Int32)), (.int (4 : Int32))])) _
    refine XS.icmpYes X0.here hx rfl (pc0 := 87) (pc' := 101) rfl (hb hby own_d3_87) rfl (flt (by decide : ¬ ((5 : Int32) < (4 : Int32)))).2.2.2 (by decide) (by decide) ?_
    show Steps p.tables e below (s₁.setTop (mkF m 101 #[.val (.ref a1), .val (.long q2), .second, .val (.int (4 : Int32)), .val (.int c4)] [])) _
    refine XS.iloadN X0.here hx rfl (hb hby own_d3_101) rfl ?_
    show Steps p.tables e below (s₁.setTop (mkF m 102 #[.val (.ref a1), .val (.long q2), .second, .val (.int (4 : Int32)), .val (.int c4)] [(.int (4 : Int32))])) _
    refine XS.bipush X0.here hx rfl (hb hby own_d3_102) ?_
    show Steps p.tables e below (s₁.setTop (mkF m 104 #[.val (.ref a1), .val (.long q2), .second, .val (.int (4 : Int32)), .val (.int c4)] [(.int (6 : Int32)), (.int (4 : Int32))])) _
    refine XS.icmpYes X0.here hx rfl (pc0 := 104) (pc' := 119) rfl (hb hby own_d3_104) rfl (flt (by decide : ¬ ((6 : Int32) < (4 : Int32)))).2.2.2 (by decide) (by decide) ?_
    show Steps p.tables e below (s₁.setTop (mkF m 119 #[.val (.ref a1), .val (.long q2), .second, .val (.int (4 : Int32)), .val (.int c4)] [])) _
    refine XS.iloadN X0.here hx rfl (hb hby own_d3_119) rfl ?_
    show Steps p.tables e below (s₁.setTop (mkF m 120 #[.val (.ref a1), .val (.long q2), .second, .val (.int (4 : Int32)), .val (.int c4)] [(.int (4 : Int32))])) _
    refine XS.bipush X0.here hx rfl (hb hby own_d3_120) ?_
    show Steps p.tables e below (s₁.setTop (mkF m 122 #[.val (.ref a1), .val (.long q2), .second, .val (.int (4 : Int32)), .val (.int c4)] [(.int (7 : Int32)), (.int (4 : Int32))])) _
    refine XS.icmpYes X0.here hx rfl (pc0 := 122) (pc' := 137) rfl (hb hby own_d3_122) rfl (flt (by decide : ¬ ((7 : Int32) < (4 : Int32)))).2.2.2 (by decide) (by decide) ?_
    show Steps p.tables e below (s₁.setTop (mkF m 137 #[.val (.ref a1), .val (.long q2), .second, .val (.int (4 : Int32)), .val (.int c4)] [])) _
    refine XS.iload X0.here hx rfl (hb hby own_d3_137) rfl ?_
    exact k
  obtain ⟨fs, hrt, hrun, hended, hW, hsame⟩ := X0.leave (v := some (.int c4)) (fun h => by rw [Bd.returns] at h; cases h)
  refine ⟨_, _, g18 _ ?_, hrun, hended, _, _, rfl, ?_, ⟨_, rfl⟩, hW, hsame.mono (by decide) (by decide)⟩
  · show Steps p.tables e below (s₁.setTop (mkF m 139 #[.val (.ref a1), .val (.long q2), .second, .val (.int (4 : Int32)), .val (.int c4)] [(.int c4)])) _
    exact retI X0 hx Bd.returns (hb hby own_d3_139) hrt
  · show own_Q_rmcountLe4 Z a1 ka x0 x1 x2 x3 q2 r h0 n0 _ s₁.heap _
    rw [e0]
    exact ⟨by rw [← hr]; subst hv_c1; subst hv_c2; subst hv_c3; subst hv_c4; rfl, N0, rfl⟩
theorem own_ef13 (m : MethodId) (x0 : Addr) (x1 : Int64) : entryFrame m #[(.ref x0), (.long x1)] 5 = mkF m 0 #[.val (.ref x0), .val (.long x1), .second, .unset, .unset] [] := by first | (simp [entryFrame, mkF, argsToLocals, Value.category]; done) | rfl
theorem own_d4_58 : decode method_4_code 58 = .ok (.aload_n 0, 1) := by decide +kernel
theorem own_d4_59 : decode method_4_code 59 = .ok (.iconst 3, 1) := by decide +kernel
theorem own_d4_60 : decode method_4_code 60 = .ok (.laload, 1) := by decide +kernel
theorem own_d4_61 : decode method_4_code 61 = .ok (.lload_n 1, 1) := by decide +kernel
theorem own_d4_62 : decode method_4_code 62 = .ok (.lcmp, 1) := by decide +kernel
theorem own_d4_63 : decode method_4_code 63 = .ok (.ifCond .ge 6, 3) := by decide +kernel
theorem own_d4_66 : decode method_4_code 66 = .ok (.iinc 4 1, 3) := by decide +kernel
def own_Q_rmcountLt4 (Z : State) (a1 : Addr) (ka : ClassId) (x0 x1 x2 x3 q2 : Int64) (r : Int32) (h0 : Heap) (n0 : Nat) (v : Option Value) (h : Heap) (L : List Loc) : Prop := v = some (.int r) ∧ Fr n0 L ∧ h = h0
set_option maxRecDepth 65536 in
set_option maxHeartbeats 40000000 in
theorem rmcountLt4 (l : Launch) (Z : State) (a0 : Array Value) (hw : ∀ d ∈ tables_1, d.before a0 Z = true) (ws : List Jvm.Cond) (a1 : Addr) (ka : ClassId) (x0 x1 x2 x3 q2 : Int64) (r : Int32) (h0 : Heap) (n0 : Nat) (O0 : Old Z n0 h0) (Va : Arv Z h0 a1 ka .long (4 : Int32) [(.long x0), (.long x1), (.long x2), (.long x3)] (.long (0 : Int64))) (hr : own_clt q2 [x0, x1, x2, x3] 0 = r) :
    MetFree l (⟨"orderwire/bench/LatencyPercentilePinLaw", "countLt", "([JJ)I"⟩ : MethodName) (head1 (Jvm.Cond.code (⟨"orderwire/bench/LatencyPercentilePinLaw", "countLt", "([JJ)I"⟩ : MethodName) method_4_code 5 (some .int) :: ws) ({ frames := 0, cells := 0, slots := 0, locals := 0 } : Room)) (fun a U => a = #[(.ref a1), (.long q2)] ∧ Z.Warmed39 U.vm ∧ U.heap = h0) (fun _ _ _ _ _ => True) (fun _ U o U' => ∃ v L, o = .returned v ∧ own_Q_rmcountLt4 Z a1 ka x0 x1 x2 x3 q2 r h0 n0 v U'.heap L ∧ FrameEnd U o U' L ({ frames := 0, cells := 0, slots := 0, locals := 0 } : Room).cells ({ frames := 0, cells := 0, slots := 0, locals := 0 } : Room).slots) := by
  refine MetFree.of_bodySF (plainFor_of_name own_pn1) hisR ?_
  intro p e s m args below meth c s₁ Bd hml0 hP hK
  obtain ⟨rfl, hZ, hh⟩ := hP
  have hx := Bd.exec
  have hby := Bd.bytes
  have hml : c.maxLocals = 5 := hml0
  have hown : s.vm.findClass "orderwire/bench/LatencyPercentilePinLaw" = some m.cls := findClass_of_methodNamed Bd.named
  have hnm := (name_of_methodNamed Bd.named Bd.method).1
  have X0 : Stand p l e ({ frames := 0, cells := 0, slots := 0, locals := 0 } : Room) s m #[(.ref a1), (.long q2)] below meth c s₁ [] 0 0 := Stand.of_body Bd
  have e0 : s₁.heap = h0 := by rw [← hh, Bd.state]; rfl
  have N0 := Fr.nil n0
  have Z0 : n0 ≤ h0.size := O0.1 ▸ O0.2.1
  have g0 : ∀ t, Steps p.tables e below (s₁.setTop (mkF m 0 #[.val (.ref a1), .val (.long q2), .second, .unset, .unset] [])) t → Steps p.tables e below (s₁.setTop (entryFrame m #[(.ref a1), (.long q2)] 5)) t := fun t k => castTop (own_ef13 m (a1) (q2)) k
  obtain ⟨c1, Ar1, cq1, S1, Nn1, Hh1, Gg1⟩ := id Va
  obtain ⟨c2, Ar2, cq2, S2, Nn2, Hh2, Gg2⟩ := id Va
  have hin2 : ¬ ((0 : Int32) < 0 ∨ c2.slots.size ≤ ((0 : Int32)).toNatClampNeg) := inb_of S2 ⟨by decide, by decide⟩
  have hat2 : c2.slots[((0 : Int32)).toNatClampNeg]? = some (.long x0) := Has.at Hh2 hin2 rfl
  have g3 : ∀ t, Steps p.tables e below (s₁.setTop (mkF m 15 #[.val (.ref a1), .val (.long q2), .second, .val (.int (4 : Int32)), .val (.int (0 : Int32))] [(.int (lcmpW x0 q2))])) t → Steps p.tables e below (s₁.setTop (entryFrame m #[(.ref a1), (.long q2)] 5)) t := by
    intro t k
    refine g0 t ?_
    show Steps p.tables e below (s₁.setTop (mkF m 0 #[.val (.ref a1), .val (.long q2), .second, .unset, .unset] [])) _
    refine XS.aloadN X0.here hx rfl (hb hby own_d4_0) rfl rfl ?_
    show Steps p.tables e below (s₁.setTop (mkF m 1 #[.val (.ref a1), .val (.long q2), .second, .unset, .unset] [(.ref a1)])) _
    refine X0.arraylength hx (by rw [e0]; exact Ar1.1) (State.isArrayOf_alike hZ.alike Ar1.2.1) (g := (mkF m 1 #[.val (.ref a1), .val (.long q2), .second, .unset, .unset] [(.ref a1)])) rfl rfl (hb hby own_d4_1) _ ?_
    rw [len_of S1 Nn1]
    show Steps p.tables e below (s₁.setTop (mkF m 2 #[.val (.ref a1), .val (.long q2), .second, .unset, .unset] [(.int (4 : Int32))])) _
    refine XS.istoreN X0.here hx rfl (hb hby own_d4_2) rfl (l' := #[.val (.ref a1), .val (.long q2), .second, .val (.int (4 : Int32)), .unset]) rfl ?_
    show Steps p.tables e below (s₁.setTop (mkF m 3 #[.val (.ref a1), .val (.long q2), .second, .val (.int (4 : Int32)), .unset] [])) _
    refine XS.iconst X0.here hx rfl (hb hby own_d4_3) ?_
    show Steps p.tables e below (s₁.setTop (mkF m 4 #[.val (.ref a1), .val (.long q2), .second, .val (.int (4 : Int32)), .unset] [(.int (0 : Int32))])) _
    refine XS.istore X0.here hx rfl (hb hby own_d4_4) rfl (l' := #[.val (.ref a1), .val (.long q2), .second, .val (.int (4 : Int32)), .val (.int (0 : Int32))]) rfl ?_
    show Steps p.tables e below (s₁.setTop (mkF m 6 #[.val (.ref a1), .val (.long q2), .second, .val (.int (4 : Int32)), .val (.int (0 : Int32))] [])) _
    refine XS.iloadN X0.here hx rfl (hb hby own_d4_6) rfl ?_
    show Steps p.tables e below (s₁.setTop (mkF m 7 #[.val (.ref a1), .val (.long q2), .second, .val (.int (4 : Int32)), .val (.int (0 : Int32))] [(.int (4 : Int32))])) _
    refine XS.ifNo X0.here hx rfl (hb hby own_d4_7) rfl ((if0 _ _).trans (tlt (by decide : (0 : Int32) < (4 : Int32))).2.2.2) ?_
    show Steps p.tables e below (s₁.setTop (mkF m 10 #[.val (.ref a1), .val (.long q2), .second, .val (.int (4 : Int32)), .val (.int (0 : Int32))] [])) _
    refine XS.aloadN X0.here hx rfl (hb hby own_d4_10) rfl rfl ?_
    show Steps p.tables e below (s₁.setTop (mkF m 11 #[.val (.ref a1), .val (.long q2), .second, .val (.int (4 : Int32)), .val (.int (0 : Int32))] [(.ref a1)])) _
    refine XS.iconst X0.here hx rfl (hb hby own_d4_11) ?_
    show Steps p.tables e below (s₁.setTop (mkF m 12 #[.val (.ref a1), .val (.long q2), .second, .val (.int (4 : Int32)), .val (.int (0 : Int32))] [(.int (0 : Int32)), (.ref a1)])) _
    refine X0.laload hx (j := (0 : Int32)) (v := (.long x0)) (by rw [e0]; exact Ar2.1) (State.isArrayOf_alike hZ.alike Ar2.2.1) Ar2.2.2 hin2 hat2 (g := (mkF m 12 #[.val (.ref a1), .val (.long q2), .second, .val (.int (4 : Int32)), .val (.int (0 : Int32))] [(.int (0 : Int32)), (.ref a1)])) rfl rfl (hb hby own_d4_12) _ ?_
    show Steps p.tables e below (s₁.setTop (mkF m 13 #[.val (.ref a1), .val (.long q2), .second, .val (.int (4 : Int32)), .val (.int (0 : Int32))] [(.long x0)])) _
    refine XS.lloadN X0.here hx rfl (hb hby own_d4_13) rfl ?_
    show Steps p.tables e below (s₁.setTop (mkF m 14 #[.val (.ref a1), .val (.long q2), .second, .val (.int (4 : Int32)), .val (.int (0 : Int32))] [(.long q2), (.long x0)])) _
    refine XS.lcmp X0.here hx rfl (hb hby own_d4_14) rfl ?_
    exact k
  obtain ⟨c1, hv_c1⟩ : ∃ z : Int32, z = (if x0 < q2 then ((0 : Int32) + (1 : Int32)) else (0 : Int32)) := ⟨_, rfl⟩
  have g5 : ∀ t, Steps p.tables e below (s₁.setTop (mkF m 21 #[.val (.ref a1), .val (.long q2), .second, .val (.int (4 : Int32)), .val (.int c1)] [])) t → Steps p.tables e below (s₁.setTop (entryFrame m #[(.ref a1), (.long q2)] 5)) t := by
    intro t k
    by_cases hc4 : x0 < q2
    · rw [if_pos hc4] at hv_c1; rw [hv_c1] at k
      refine g3 t ?_
      show Steps p.tables e below (s₁.setTop (mkF m 15 #[.val (.ref a1), .val (.long q2), .second, .val (.int (4 : Int32)), .val (.int (0 : Int32))] [(.int (lcmpW x0 q2))])) _
      refine XS.ifNo X0.here hx rfl (hb hby own_d4_15) rfl ((if0 _ _).trans (tlt ((lw_lt _ _).mpr hc4)).2.1) ?_
      show Steps p.tables e below (s₁.setTop (mkF m 18 #[.val (.ref a1), .val (.long q2), .second, .val (.int (4 : Int32)), .val (.int (0 : Int32))] [])) _
      refine XS.iinc X0.here hx rfl (hb hby own_d4_18) rfl (l' := #[.val (.ref a1), .val (.long q2), .second, .val (.int (4 : Int32)), .val (.int ((0 : Int32) + (1 : Int32)))]) rfl ?_
      exact k
    · rw [if_neg hc4] at hv_c1; rw [hv_c1] at k
      refine g3 t ?_
      show Steps p.tables e below (s₁.setTop (mkF m 15 #[.val (.ref a1), .val (.long q2), .second, .val (.int (4 : Int32)), .val (.int (0 : Int32))] [(.int (lcmpW x0 q2))])) _
      refine XS.ifYes X0.here hx rfl (pc0 := 15) (pc' := 21) rfl (hb hby own_d4_15) rfl ((if0 _ _).trans (flt (fun q => hc4 ((lw_lt _ _).mp q))).2.1) (by decide) (by decide) ?_
      exact k
  obtain ⟨c6, Ar6, cq6, S6, Nn6, Hh6, Gg6⟩ := id Va
  have hin6 : ¬ ((1 : Int32) < 0 ∨ c6.slots.size ≤ ((1 : Int32)).toNatClampNeg) := inb_of S6 ⟨by decide, by decide⟩
  have hat6 : c6.slots[((1 : Int32)).toNatClampNeg]? = some (.long x1) := Has.at Hh6 hin6 rfl
  have g7 : ∀ t, Steps p.tables e below (s₁.setTop (mkF m 31 #[.val (.ref a1), .val (.long q2), .second, .val (.int (4 : Int32)), .val (.int c1)] [(.int (lcmpW x1 q2))])) t → Steps p.tables e below (s₁.setTop (entryFrame m #[(.ref a1), (.long q2)] 5)) t := by
    intro t k
    refine g5 t ?_
    show Steps p.tables e below (s₁.setTop (mkF m 21 #[.val (.ref a1), .val (.long q2), .second, .val (.int (4 : Int32)), .val (.int c1)] [])) _
    refine XS.iloadN X0.here hx rfl (hb hby own_d4_21) rfl ?_
    show Steps p.tables e below (s₁.setTop (mkF m 22 #[.val (.ref a1), .val (.long q2), .second, .val (.int (4 : Int32)), .val (.int c1)] [(.int (4 : Int32))])) _
    refine XS.iconst X0.here hx rfl (hb hby own_d4_22) ?_
    show Steps p.tables e below (s₁.setTop (mkF m 23 #[.val (.ref a1), .val (.long q2), .second, .val (.int (4 : Int32)), .val (.int c1)] [(.int (1 : Int32)), (.int (4 : Int32))])) _
    refine XS.icmpNo X0.here hx rfl (hb hby own_d4_23) rfl (tlt (by decide : (1 : Int32) < (4 : Int32))).2.2.2 ?_
    show Steps p.tables e below (s₁.setTop (mkF m 26 #[.val (.ref a1), .val (.long q2), .second, .val (.int (4 : Int32)), .val (.int c1)] [])) _
    refine XS.aloadN X0.here hx rfl (hb hby own_d4_26) rfl rfl ?_
    show Steps p.tables e below (s₁.setTop (mkF m 27 #[.val (.ref a1), .val (.long q2), .second, .val (.int (4 : Int32)), .val (.int c1)] [(.ref a1)])) _
    refine XS.iconst X0.here hx rfl (hb hby own_d4_27) ?_
    show Steps p.tables e below (s₁.setTop (mkF m 28 #[.val (.ref a1), .val (.long q2), .second, .val (.int (4 : Int32)), .val (.int c1)] [(.int (1 : Int32)), (.ref a1)])) _
    refine X0.laload hx (j := (1 : Int32)) (v := (.long x1)) (by rw [e0]; exact Ar6.1) (State.isArrayOf_alike hZ.alike Ar6.2.1) Ar6.2.2 hin6 hat6 (g := (mkF m 28 #[.val (.ref a1), .val (.long q2), .second, .val (.int (4 : Int32)), .val (.int c1)] [(.int (1 : Int32)), (.ref a1)])) rfl rfl (hb hby own_d4_28) _ ?_
    show Steps p.tables e below (s₁.setTop (mkF m 29 #[.val (.ref a1), .val (.long q2), .second, .val (.int (4 : Int32)), .val (.int c1)] [(.long x1)])) _
    refine XS.lloadN X0.here hx rfl (hb hby own_d4_29) rfl ?_
    show Steps p.tables e below (s₁.setTop (mkF m 30 #[.val (.ref a1), .val (.long q2), .second, .val (.int (4 : Int32)), .val (.int c1)] [(.long q2), (.long x1)])) _
    refine XS.lcmp X0.here hx rfl (hb hby own_d4_30) rfl ?_
    exact k
  obtain ⟨c2, hv_c2⟩ : ∃ z : Int32, z = (if x1 < q2 then (c1 + (1 : Int32)) else c1) := ⟨_, rfl⟩
  have g9 : ∀ t, Steps p.tables e below (s₁.setTop (mkF m 37 #[.val (.ref a1), .val (.long q2), .second, .val (.int (4 : Int32)), .val (.int c2)] [])) t → Steps p.tables e below (s₁.setTop (entryFrame m #[(.ref a1), (.long q2)] 5)) t := by
    intro t k
    by_cases hc8 : x1 < q2
    · rw [if_pos hc8] at hv_c2; rw [hv_c2] at k
      refine g7 t ?_
      show Steps p.tables e below (s₁.setTop (mkF m 31 #[.val (.ref a1), .val (.long q2), .second, .val (.int (4 : Int32)), .val (.int c1)] [(.int (lcmpW x1 q2))])) _
      refine XS.ifNo X0.here hx rfl (hb hby own_d4_31) rfl ((if0 _ _).trans (tlt ((lw_lt _ _).mpr hc8)).2.1) ?_
      show Steps p.tables e below (s₁.setTop (mkF m 34 #[.val (.ref a1), .val (.long q2), .second, .val (.int (4 : Int32)), .val (.int c1)] [])) _
      refine XS.iinc X0.here hx rfl (hb hby own_d4_34) rfl (l' := #[.val (.ref a1), .val (.long q2), .second, .val (.int (4 : Int32)), .val (.int (c1 + (1 : Int32)))]) rfl ?_
      exact k
    · rw [if_neg hc8] at hv_c2; rw [hv_c2] at k
      refine g7 t ?_
      show Steps p.tables e below (s₁.setTop (mkF m 31 #[.val (.ref a1), .val (.long q2), .second, .val (.int (4 : Int32)), .val (.int c1)] [(.int (lcmpW x1 q2))])) _
      refine XS.ifYes X0.here hx rfl (pc0 := 31) (pc' := 37) rfl (hb hby own_d4_31) rfl ((if0 _ _).trans (flt (fun q => hc8 ((lw_lt _ _).mp q))).2.1) (by decide) (by decide) ?_
      exact k
  obtain ⟨c10, Ar10, cq10, S10, Nn10, Hh10, Gg10⟩ := id Va
  have hin10 : ¬ ((2 : Int32) < 0 ∨ c10.slots.size ≤ ((2 : Int32)).toNatClampNeg) := inb_of S10 ⟨by decide, by decide⟩
  have hat10 : c10.slots[((2 : Int32)).toNatClampNeg]? = some (.long x2) := Has.at Hh10 hin10 rfl
  have g11 : ∀ t, Steps p.tables e below (s₁.setTop (mkF m 47 #[.val (.ref a1), .val (.long q2), .second, .val (.int (4 : Int32)), .val (.int c2)] [(.int (lcmpW x2 q2))])) t → Steps p.tables e below (s₁.setTop (entryFrame m #[(.ref a1), (.long q2)] 5)) t := by
    intro t k
    refine g9 t ?_
    show Steps p.tables e below (s₁.setTop (mkF m 37 #[.val (.ref a1), .val (.long q2), .second, .val (.int (4 : Int32)), .val (.int c2)] [])) _
    refine XS.iloadN X0.here hx rfl (hb hby own_d4_37) rfl ?_
    show Steps p.tables e below (s₁.setTop (mkF m 38 #[.val (.ref a1), .val (.long q2), .second, .val (.int (4 : Int32)), .val (.int c2)] [(.int (4 : Int32))])) _
    refine XS.iconst X0.here hx rfl (hb hby own_d4_38) ?_
    show Steps p.tables e below (s₁.setTop (mkF m 39 #[.val (.ref a1), .val (.long q2), .second, .val (.int (4 : Int32)), .val (.int c2)] [(.int (2 : Int32)), (.int (4 : Int32))])) _
    refine XS.icmpNo X0.here hx rfl (hb hby own_d4_39) rfl (tlt (by decide : (2 : Int32) < (4 : Int32))).2.2.2 ?_
    show Steps p.tables e below (s₁.setTop (mkF m 42 #[.val (.ref a1), .val (.long q2), .second, .val (.int (4 : Int32)), .val (.int c2)] [])) _
    refine XS.aloadN X0.here hx rfl (hb hby own_d4_42) rfl rfl ?_
    show Steps p.tables e below (s₁.setTop (mkF m 43 #[.val (.ref a1), .val (.long q2), .second, .val (.int (4 : Int32)), .val (.int c2)] [(.ref a1)])) _
    refine XS.iconst X0.here hx rfl (hb hby own_d4_43) ?_
    show Steps p.tables e below (s₁.setTop (mkF m 44 #[.val (.ref a1), .val (.long q2), .second, .val (.int (4 : Int32)), .val (.int c2)] [(.int (2 : Int32)), (.ref a1)])) _
    refine X0.laload hx (j := (2 : Int32)) (v := (.long x2)) (by rw [e0]; exact Ar10.1) (State.isArrayOf_alike hZ.alike Ar10.2.1) Ar10.2.2 hin10 hat10 (g := (mkF m 44 #[.val (.ref a1), .val (.long q2), .second, .val (.int (4 : Int32)), .val (.int c2)] [(.int (2 : Int32)), (.ref a1)])) rfl rfl (hb hby own_d4_44) _ ?_
    show Steps p.tables e below (s₁.setTop (mkF m 45 #[.val (.ref a1), .val (.long q2), .second, .val (.int (4 : Int32)), .val (.int c2)] [(.long x2)])) _
    refine XS.lloadN X0.here hx rfl (hb hby own_d4_45) rfl ?_
    show Steps p.tables e below (s₁.setTop (mkF m 46 #[.val (.ref a1), .val (.long q2), .second, .val (.int (4 : Int32)), .val (.int c2)] [(.long q2), (.long x2)])) _
    refine XS.lcmp X0.here hx rfl (hb hby own_d4_46) rfl ?_
    exact k
  obtain ⟨c3, hv_c3⟩ : ∃ z : Int32, z = (if x2 < q2 then (c2 + (1 : Int32)) else c2) := ⟨_, rfl⟩
  have g13 : ∀ t, Steps p.tables e below (s₁.setTop (mkF m 53 #[.val (.ref a1), .val (.long q2), .second, .val (.int (4 : Int32)), .val (.int c3)] [])) t → Steps p.tables e below (s₁.setTop (entryFrame m #[(.ref a1), (.long q2)] 5)) t := by
    intro t k
    by_cases hc12 : x2 < q2
    · rw [if_pos hc12] at hv_c3; rw [hv_c3] at k
      refine g11 t ?_
      show Steps p.tables e below (s₁.setTop (mkF m 47 #[.val (.ref a1), .val (.long q2), .second, .val (.int (4 : Int32)), .val (.int c2)] [(.int (lcmpW x2 q2))])) _
      refine XS.ifNo X0.here hx rfl (hb hby own_d4_47) rfl ((if0 _ _).trans (tlt ((lw_lt _ _).mpr hc12)).2.1) ?_
      show Steps p.tables e below (s₁.setTop (mkF m 50 #[.val (.ref a1), .val (.long q2), .second, .val (.int (4 : Int32)), .val (.int c2)] [])) _
      refine XS.iinc X0.here hx rfl (hb hby own_d4_50) rfl (l' := #[.val (.ref a1), .val (.long q2), .second, .val (.int (4 : Int32)), .val (.int (c2 + (1 : Int32)))]) rfl ?_
      exact k
    · rw [if_neg hc12] at hv_c3; rw [hv_c3] at k
      refine g11 t ?_
      show Steps p.tables e below (s₁.setTop (mkF m 47 #[.val (.ref a1), .val (.long q2), .second, .val (.int (4 : Int32)), .val (.int c2)] [(.int (lcmpW x2 q2))])) _
      refine XS.ifYes X0.here hx rfl (pc0 := 47) (pc' := 53) rfl (hb hby own_d4_47) rfl ((if0 _ _).trans (flt (fun q => hc12 ((lw_lt _ _).mp q))).2.1) (by decide) (by decide) ?_
      exact k
  obtain ⟨c14, Ar14, cq14, S14, Nn14, Hh14, Gg14⟩ := id Va
  have hin14 : ¬ ((3 : Int32) < 0 ∨ c14.slots.size ≤ ((3 : Int32)).toNatClampNeg) := inb_of S14 ⟨by decide, by decide⟩
  have hat14 : c14.slots[((3 : Int32)).toNatClampNeg]? = some (.long x3) := Has.at Hh14 hin14 rfl
  have g15 : ∀ t, Steps p.tables e below (s₁.setTop (mkF m 63 #[.val (.ref a1), .val (.long q2), .second, .val (.int (4 : Int32)), .val (.int c3)] [(.int (lcmpW x3 q2))])) t → Steps p.tables e below (s₁.setTop (entryFrame m #[(.ref a1), (.long q2)] 5)) t := by
    intro t k
    refine g13 t ?_
    show Steps p.tables e below (s₁.setTop (mkF m 53 #[.val (.ref a1), .val (.long q2), .second, .val (.int (4 : Int32)), .val (.int c3)] [])) _
    refine XS.iloadN X0.here hx rfl (hb hby own_d4_53) rfl ?_
    show Steps p.tables e below (s₁.setTop (mkF m 54 #[.val (.ref a1), .val (.long q2), .second, .val (.int (4 : Int32)), .val (.int c3)] [(.int (4 : Int32))])) _
    refine XS.iconst X0.here hx rfl (hb hby own_d4_54) ?_
    show Steps p.tables e below (s₁.setTop (mkF m 55 #[.val (.ref a1), .val (.long q2), .second, .val (.int (4 : Int32)), .val (.int c3)] [(.int (3 : Int32)), (.int (4 : Int32))])) _
    refine XS.icmpNo X0.here hx rfl (hb hby own_d4_55) rfl (tlt (by decide : (3 : Int32) < (4 : Int32))).2.2.2 ?_
    show Steps p.tables e below (s₁.setTop (mkF m 58 #[.val (.ref a1), .val (.long q2), .second, .val (.int (4 : Int32)), .val (.int c3)] [])) _
    refine XS.aloadN X0.here hx rfl (hb hby own_d4_58) rfl rfl ?_
    show Steps p.tables e below (s₁.setTop (mkF m 59 #[.val (.ref a1), .val (.long q2), .second, .val (.int (4 : Int32)), .val (.int c3)] [(.ref a1)])) _
    refine XS.iconst X0.here hx rfl (hb hby own_d4_59) ?_
    show Steps p.tables e below (s₁.setTop (mkF m 60 #[.val (.ref a1), .val (.long q2), .second, .val (.int (4 : Int32)), .val (.int c3)] [(.int (3 : Int32)), (.ref a1)])) _
    refine X0.laload hx (j := (3 : Int32)) (v := (.long x3)) (by rw [e0]; exact Ar14.1) (State.isArrayOf_alike hZ.alike Ar14.2.1) Ar14.2.2 hin14 hat14 (g := (mkF m 60 #[.val (.ref a1), .val (.long q2), .second, .val (.int (4 : Int32)), .val (.int c3)] [(.int (3 : Int32)), (.ref a1)])) rfl rfl (hb hby own_d4_60) _ ?_
    show Steps p.tables e below (s₁.setTop (mkF m 61 #[.val (.ref a1), .val (.long q2), .second, .val (.int (4 : Int32)), .val (.int c3)] [(.long x3)])) _
    refine XS.lloadN X0.here hx rfl (hb hby own_d4_61) rfl ?_
    show Steps p.tables e below (s₁.setTop (mkF m 62 #[.val (.ref a1), .val (.long q2), .second, .val (.int (4 : Int32)), .val (.int c3)] [(.long q2), (.long x3)])) _
    refine XS.lcmp X0.here hx rfl (hb hby own_d4_62) rfl ?_
    exact k
  obtain ⟨c4, hv_c4⟩ : ∃ z : Int32, z = (if x3 < q2 then (c3 + (1 : Int32)) else c3) := ⟨_, rfl⟩
  have g17 : ∀ t, Steps p.tables e below (s₁.setTop (mkF m 69 #[.val (.ref a1), .val (.long q2), .second, .val (.int (4 : Int32)), .val (.int c4)] [])) t → Steps p.tables e below (s₁.setTop (entryFrame m #[(.ref a1), (.long q2)] 5)) t := by
    intro t k
    by_cases hc16 : x3 < q2
    · rw [if_pos hc16] at hv_c4; rw [hv_c4] at k
      refine g15 t ?_
      show Steps p.tables e below (s₁.setTop (mkF m 63 #[.val (.ref a1), .val (.long q2), .second, .val (.int (4 : Int32)), .val (.int c3)] [(.int (lcmpW x3 q2))])) _
      refine XS.ifNo X0.here hx rfl (hb hby own_d4_63) rfl ((if0 _ _).trans (tlt ((lw_lt _ _).mpr hc16)).2.1) ?_
      show Steps p.tables e below (s₁.setTop (mkF m 66 #[.val (.ref a1), .val (.long q2), .second, .val (.int (4 : Int32)), .val (.int c3)] [])) _
      refine XS.iinc X0.here hx rfl (hb hby own_d4_66) rfl (l' := #[.val (.ref a1), .val (.long q2), .second, .val (.int (4 : Int32)), .val (.int (c3 + (1 : Int32)))]) rfl ?_
      exact k
    · rw [if_neg hc16] at hv_c4; rw [hv_c4] at k
      refine g15 t ?_
      show Steps p.tables e below (s₁.setTop (mkF m 63 #[.val (.ref a1), .val (.long q2), .second, .val (.int (4 : Int32)), .val (.int c3)] [(.int (lcmpW x3 q2))])) _
      refine XS.ifYes X0.here hx rfl (pc0 := 63) (pc' := 69) rfl (hb hby own_d4_63) rfl ((if0 _ _).trans (flt (fun q => hc16 ((lw_lt _ _).mp q))).2.1) (by decide) (by decide) ?_
      exact k
  have g18 : ∀ t, Steps p.tables e below (s₁.setTop (mkF m 139 #[.val (.ref a1), .val (.long q2), .second, .val (.int (4 : Int32)), .val (.int c4)] [(.int c4)])) t → Steps p.tables e below (s₁.setTop (entryFrame m #[(.ref a1), (.long q2)] 5)) t := by
    intro t k
    refine g17 t ?_
    show Steps p.tables e below (s₁.setTop (mkF m 69 #[.val (.ref a1), .val (.long q2), .second, .val (.int (4 : Int32)), .val (.int c4)] [])) _
    refine XS.iloadN X0.here hx rfl (hb hby own_d4_69) rfl ?_
    show Steps p.tables e below (s₁.setTop (mkF m 70 #[.val (.ref a1), .val (.long q2), .second, .val (.int (4 : Int32)), .val (.int c4)] [(.int (4 : Int32))])) _
    refine XS.iconst X0.here hx rfl (hb hby own_d4_70) ?_
    show Steps p.tables e below (s₁.setTop (mkF m 71 #[.val (.ref a1), .val (.long q2), .second, .val (.int (4 : Int32)), .val (.int c4)] [(.int (4 : Int32)), (.int (4 : Int32))])) _
    refine XS.icmpYes X0.here hx rfl (pc0 := 71) (pc' := 85) rfl (hb hby own_d4_71) rfl (flt (by decide : ¬ ((4 : Int32) < (4 : Int32)))).2.2.2 (by decide) (by decide) ?_
    show Steps p.tables e below (s₁.setTop (mkF m 85 #[.val (.ref a1), .val (.long q2), .second, .val (.int (4 : Int32)), .val (.int c4)] [])) _
    refine XS.iloadN X0.here hx rfl (hb hby own_d4_85) rfl ?_
    show Steps p.tables e below (s₁.setTop (mkF m 86 #[.val (.ref a1), .val (.long q2), .second, .val (.int (4 : Int32)), .val (.int c4)] [(.int (4 : Int32))])) _
    refine XS.iconst X0.here hx rfl (hb hby own_d4_86) ?_
    show Steps p.tables e below (s₁.setTop (mkF m 87 #[.val (.ref a1), .val (.long q2), .second, .val (.int (4 : Int32)), .val (.int c4)] [(.int (5 : Int32)), (.int (4 : Int32))])) _
    refine XS.icmpYes X0.here hx rfl (pc0 := 87) (pc' := 101) rfl (hb hby own_d4_87) rfl (flt (by decide : ¬ ((5 : Int32) < (4 : Int32)))).2.2.2 (by decide) (by decide) ?_
    show Steps p.tables e below (s₁.setTop (mkF m 101 #[.val (.ref a1), .val (.long q2), .second, .val (.int (4 : Int32)), .val (.int c4)] [])) _
    refine XS.iloadN X0.here hx rfl (hb hby own_d4_101) rfl ?_
    show Steps p.tables e below (s₁.setTop (mkF m 102 #[.val (.ref a1), .val (.long q2), .second, .val (.int (4 : Int32)), .val (.int c4)] [(.int (4 : Int32))])) _
    refine XS.bipush X0.here hx rfl (hb hby own_d4_102) ?_
    show Steps p.tables e below (s₁.setTop (mkF m 104 #[.val (.ref a1), .val (.long q2), .second, .val (.int (4 : Int32)), .val (.int c4)] [(.int (6 : Int32)), (.int (4 : Int32))])) _
    refine XS.icmpYes X0.here hx rfl (pc0 := 104) (pc' := 119) rfl (hb hby own_d4_104) rfl (flt (by decide : ¬ ((6 : Int32) < (4 : Int32)))).2.2.2 (by decide) (by decide) ?_
    show Steps p.tables e below (s₁.setTop (mkF m 119 #[.val (.ref a1), .val (.long q2), .second, .val (.int (4 : Int32)), .val (.int c4)] [])) _
    refine XS.iloadN X0.here hx rfl (hb hby own_d4_119) rfl ?_
    show Steps p.tables e below (s₁.setTop (mkF m 120 #[.val (.ref a1), .val (.long q2), .second, .val (.int (4 : Int32)), .val (.int c4)] [(.int (4 : Int32))])) _
    refine XS.bipush X0.here hx rfl (hb hby own_d4_120) ?_
    show Steps p.tables e below (s₁.setTop (mkF m 122 #[.val (.ref a1), .val (.long q2), .second, .val (.int (4 : Int32)), .val (.int c4)] [(.int (7 : Int32)), (.int (4 : Int32))])) _
    refine XS.icmpYes X0.here hx rfl (pc0 := 122) (pc' := 137) rfl (hb hby own_d4_122) rfl (flt (by decide : ¬ ((7 : Int32) < (4 : Int32)))).2.2.2 (by decide) (by decide) ?_
    show Steps p.tables e below (s₁.setTop (mkF m 137 #[.val (.ref a1), .val (.long q2), .second, .val (.int (4 : Int32)), .val (.int c4)] [])) _
    refine XS.iload X0.here hx rfl (hb hby own_d4_137) rfl ?_
    exact k
  obtain ⟨fs, hrt, hrun, hended, hW, hsame⟩ := X0.leave (v := some (.int c4)) (fun h => by rw [Bd.returns] at h; cases h)
  refine ⟨_, _, g18 _ ?_, hrun, hended, _, _, rfl, ?_, ⟨_, rfl⟩, hW, hsame.mono (by decide) (by decide)⟩
  · show Steps p.tables e below (s₁.setTop (mkF m 139 #[.val (.ref a1), .val (.long q2), .second, .val (.int (4 : Int32)), .val (.int c4)] [(.int c4)])) _
    exact retI X0 hx Bd.returns (hb hby own_d4_139) hrt
  · show own_Q_rmcountLt4 Z a1 ka x0 x1 x2 x3 q2 r h0 n0 _ s₁.heap _
    rw [e0]
    exact ⟨by rw [← hr]; subst hv_c1; subst hv_c2; subst hv_c3; subst hv_c4; rfl, N0, rfl⟩
theorem own_ef14 (m : MethodId) (x0 : Addr) (x1 : Int32) : entryFrame m #[(.ref x0), (.int x1)] 3 = mkF m 0 #[.val (.ref x0), .val (.int x1), .unset] [] := by first | (simp [entryFrame, mkF, argsToLocals, Value.category]; done) | rfl
def own_Q_rmPct5 (Z : State) (a1 : Addr) (ka : ClassId) (x0 x1 x2 x3 x4 r : Int64) (p2 j : Int32) (h0 : Heap) (n0 : Nat) (v : Option Value) (h : Heap) (L : List Loc) : Prop := v = some (.long r) ∧ Fr n0 L ∧ h = h0
set_option maxRecDepth 65536 in
set_option maxHeartbeats 40000000 in
theorem rmPct5 (l : Launch) (Z : State) (a0 : Array Value) (hw : ∀ d ∈ tables_1, d.before a0 Z = true) (ws : List Jvm.Cond) (a1 : Addr) (ka : ClassId) (x0 x1 x2 x3 x4 r : Int64) (p2 j : Int32) (h0 : Heap) (n0 : Nat) (O0 : Old Z n0 h0) (Va : Arv Z h0 a1 ka .long (5 : Int32) [(.long x0), (.long x1), (.long x2), (.long x3), (.long x4)] (.long (0 : Int64))) (hj : (((((((5 : Int32).toInt64) * (p2.toInt64)) + (99 : Int64)) / (100 : Int64)).toInt32) - (1 : Int32)) = j) (hj0 : ¬ j < 0) (hj1 : j < (5 : Int32)) (hjr : ([(.long x0), (.long x1), (.long x2), (.long x3), (.long x4)] : List Value).getD j.toNatClampNeg (.long (0 : Int64)) = .long r) :
    MetFree l (⟨"orderwire/bench/Latency", "percentile", "([JI)J"⟩ : MethodName) (head1 (Jvm.Cond.code (⟨"orderwire/bench/Latency", "percentile", "([JI)J"⟩ : MethodName) prog_6_method_9_code 3 (some .long) :: ws) ({ frames := 0, cells := 0, slots := 0, locals := 0 } : Room)) (fun a U => a = #[(.ref a1), (.int p2)] ∧ Z.Warmed39 U.vm ∧ U.heap = h0) (fun _ _ _ _ _ => True) (fun _ U o U' => ∃ v L, o = .returned v ∧ own_Q_rmPct5 Z a1 ka x0 x1 x2 x3 x4 r p2 j h0 n0 v U'.heap L ∧ FrameEnd U o U' L ({ frames := 0, cells := 0, slots := 0, locals := 0 } : Room).cells ({ frames := 0, cells := 0, slots := 0, locals := 0 } : Room).slots) := by
  refine MetFree.of_bodySF (plainFor_of_name own_pn0) hisR ?_
  intro p e s m args below meth c s₁ Bd hml0 hP hK
  obtain ⟨rfl, hZ, hh⟩ := hP
  have hx := Bd.exec
  have hby := Bd.bytes
  have hml : c.maxLocals = 3 := hml0
  have hown : s.vm.findClass "orderwire/bench/Latency" = some m.cls := findClass_of_methodNamed Bd.named
  have hnm := (name_of_methodNamed Bd.named Bd.method).1
  have X0 : Stand p l e ({ frames := 0, cells := 0, slots := 0, locals := 0 } : Room) s m #[(.ref a1), (.int p2)] below meth c s₁ [] 0 0 := Stand.of_body Bd
  have e0 : s₁.heap = h0 := by rw [← hh, Bd.state]; rfl
  have N0 := Fr.nil n0
  have Z0 : n0 ≤ h0.size := O0.1 ▸ O0.2.1
  have g0 : ∀ t, Steps p.tables e below (s₁.setTop (mkF m 0 #[.val (.ref a1), .val (.int p2), .unset] [])) t → Steps p.tables e below (s₁.setTop (entryFrame m #[(.ref a1), (.int p2)] 3)) t := fun t k => castTop (own_ef14 m (a1) (p2)) k
  obtain ⟨c1, Ar1, cq1, S1, Nn1, Hh1, Gg1⟩ := id Va
  have g2 : ∀ t, Steps p.tables e below (s₁.setTop (mkF m 20 #[.val (.ref a1), .val (.int p2), .val (.int ((((((5 : Int32).toInt64) * (p2.toInt64)) + (99 : Int64)) / (100 : Int64)).toInt32))] [(.int j), (.ref a1)])) t → Steps p.tables e below (s₁.setTop (entryFrame m #[(.ref a1), (.int p2)] 3)) t := by
    intro t k
    rw [← hj] at k
    refine g0 t ?_
    show Steps p.tables e below (s₁.setTop (mkF m 0 #[.val (.ref a1), .val (.int p2), .unset] [])) _
    refine XS.aloadN X0.here hx rfl (hb hby own_d2_0) rfl rfl ?_
    show Steps p.tables e below (s₁.setTop (mkF m 1 #[.val (.ref a1), .val (.int p2), .unset] [(.ref a1)])) _
    refine X0.arraylength hx (by rw [e0]; exact Ar1.1) (State.isArrayOf_alike hZ.alike Ar1.2.1) (g := (mkF m 1 #[.val (.ref a1), .val (.int p2), .unset] [(.ref a1)])) rfl rfl (hb hby own_d2_1) _ ?_
    rw [len_of S1 Nn1]
    show Steps p.tables e below (s₁.setTop (mkF m 2 #[.val (.ref a1), .val (.int p2), .unset] [(.int (5 : Int32))])) _
    refine XS.i2l X0.here hx rfl (hb hby own_d2_2) rfl ?_
    show Steps p.tables e below (s₁.setTop (mkF m 3 #[.val (.ref a1), .val (.int p2), .unset] [(.long ((5 : Int32).toInt64))])) _
    refine XS.iloadN X0.here hx rfl (hb hby own_d2_3) rfl ?_
    show Steps p.tables e below (s₁.setTop (mkF m 4 #[.val (.ref a1), .val (.int p2), .unset] [(.int p2), (.long ((5 : Int32).toInt64))])) _
    refine XS.i2l X0.here hx rfl (hb hby own_d2_4) rfl ?_
    show Steps p.tables e below (s₁.setTop (mkF m 5 #[.val (.ref a1), .val (.int p2), .unset] [(.long (p2.toInt64)), (.long ((5 : Int32).toInt64))])) _
    refine XS.lmul X0.here hx rfl (hb hby own_d2_5) rfl ?_
    show Steps p.tables e below (s₁.setTop (mkF m 6 #[.val (.ref a1), .val (.int p2), .unset] [(.long (((5 : Int32).toInt64) * (p2.toInt64)))])) _
    refine X0.ldc2Long hx hown (mvT hZ (hw _ (List.mem_of_getElem? (i := 11) rfl))) (g := (mkF m 6 #[.val (.ref a1), .val (.int p2), .unset] [(.long (((5 : Int32).toInt64) * (p2.toInt64)))])) rfl (hb hby own_d2_6) _ ?_
    show Steps p.tables e below (s₁.setTop (mkF m 9 #[.val (.ref a1), .val (.int p2), .unset] [(.long (99 : Int64)), (.long (((5 : Int32).toInt64) * (p2.toInt64)))])) _
    refine XS.ladd X0.here hx rfl (hb hby own_d2_9) rfl ?_
    show Steps p.tables e below (s₁.setTop (mkF m 10 #[.val (.ref a1), .val (.int p2), .unset] [(.long ((((5 : Int32).toInt64) * (p2.toInt64)) + (99 : Int64)))])) _
    refine X0.ldc2Long hx hown (mvT hZ (hw _ (List.mem_of_getElem? (i := 12) rfl))) (g := (mkF m 10 #[.val (.ref a1), .val (.int p2), .unset] [(.long ((((5 : Int32).toInt64) * (p2.toInt64)) + (99 : Int64)))])) rfl (hb hby own_d2_10) _ ?_
    show Steps p.tables e below (s₁.setTop (mkF m 13 #[.val (.ref a1), .val (.int p2), .unset] [(.long (100 : Int64)), (.long ((((5 : Int32).toInt64) * (p2.toInt64)) + (99 : Int64)))])) _
    refine XS.ldiv X0.here hx rfl (hb hby own_d2_13) rfl (by decide) ?_
    show Steps p.tables e below (s₁.setTop (mkF m 14 #[.val (.ref a1), .val (.int p2), .unset] [(.long (((((5 : Int32).toInt64) * (p2.toInt64)) + (99 : Int64)) / (100 : Int64)))])) _
    refine XS.l2i X0.here hx rfl (hb hby own_d2_14) rfl ?_
    show Steps p.tables e below (s₁.setTop (mkF m 15 #[.val (.ref a1), .val (.int p2), .unset] [(.int ((((((5 : Int32).toInt64) * (p2.toInt64)) + (99 : Int64)) / (100 : Int64)).toInt32))])) _
    refine XS.istoreN X0.here hx rfl (hb hby own_d2_15) rfl (l' := #[.val (.ref a1), .val (.int p2), .val (.int ((((((5 : Int32).toInt64) * (p2.toInt64)) + (99 : Int64)) / (100 : Int64)).toInt32))]) rfl ?_
    show Steps p.tables e below (s₁.setTop (mkF m 16 #[.val (.ref a1), .val (.int p2), .val (.int ((((((5 : Int32).toInt64) * (p2.toInt64)) + (99 : Int64)) / (100 : Int64)).toInt32))] [])) _
    refine XS.aloadN X0.here hx rfl (hb hby own_d2_16) rfl rfl ?_
    show Steps p.tables e below (s₁.setTop (mkF m 17 #[.val (.ref a1), .val (.int p2), .val (.int ((((((5 : Int32).toInt64) * (p2.toInt64)) + (99 : Int64)) / (100 : Int64)).toInt32))] [(.ref a1)])) _
    refine XS.iloadN X0.here hx rfl (hb hby own_d2_17) rfl ?_
    show Steps p.tables e below (s₁.setTop (mkF m 18 #[.val (.ref a1), .val (.int p2), .val (.int ((((((5 : Int32).toInt64) * (p2.toInt64)) + (99 : Int64)) / (100 : Int64)).toInt32))] [(.int ((((((5 : Int32).toInt64) * (p2.toInt64)) + (99 : Int64)) / (100 : Int64)).toInt32)), (.ref a1)])) _
    refine XS.iconst X0.here hx rfl (hb hby own_d2_18) ?_
    show Steps p.tables e below (s₁.setTop (mkF m 19 #[.val (.ref a1), .val (.int p2), .val (.int ((((((5 : Int32).toInt64) * (p2.toInt64)) + (99 : Int64)) / (100 : Int64)).toInt32))] [(.int (1 : Int32)), (.int ((((((5 : Int32).toInt64) * (p2.toInt64)) + (99 : Int64)) / (100 : Int64)).toInt32)), (.ref a1)])) _
    refine XS.isub X0.here hx rfl (hb hby own_d2_19) rfl ?_
    exact k
  obtain ⟨c3, Ar3, cq3, S3, Nn3, Hh3, Gg3⟩ := id Va
  have hin3 : ¬ (j < 0 ∨ c3.slots.size ≤ (j).toNatClampNeg) := inb_of S3 ⟨hj0, hj1⟩
  have hat3 : c3.slots[(j).toNatClampNeg]? = some (.long r) := Has.at Hh3 hin3 hjr
  have g4 : ∀ t, Steps p.tables e below (s₁.setTop (mkF m 21 #[.val (.ref a1), .val (.int p2), .val (.int ((((((5 : Int32).toInt64) * (p2.toInt64)) + (99 : Int64)) / (100 : Int64)).toInt32))] [(.long r)])) t → Steps p.tables e below (s₁.setTop (entryFrame m #[(.ref a1), (.int p2)] 3)) t := by
    intro t k
    refine g2 t ?_
    show Steps p.tables e below (s₁.setTop (mkF m 20 #[.val (.ref a1), .val (.int p2), .val (.int ((((((5 : Int32).toInt64) * (p2.toInt64)) + (99 : Int64)) / (100 : Int64)).toInt32))] [(.int j), (.ref a1)])) _
    refine X0.laload hx (j := j) (v := (.long r)) (by rw [e0]; exact Ar3.1) (State.isArrayOf_alike hZ.alike Ar3.2.1) Ar3.2.2 hin3 hat3 (g := (mkF m 20 #[.val (.ref a1), .val (.int p2), .val (.int ((((((5 : Int32).toInt64) * (p2.toInt64)) + (99 : Int64)) / (100 : Int64)).toInt32))] [(.int j), (.ref a1)])) rfl rfl (hb hby own_d2_20) _ ?_
    exact k
  obtain ⟨fs, hrt, hrun, hended, hW, hsame⟩ := X0.leave (v := some (.long r)) (fun h => by rw [Bd.returns] at h; cases h)
  refine ⟨_, _, g4 _ ?_, hrun, hended, _, _, rfl, ?_, ⟨_, rfl⟩, hW, hsame.mono (by decide) (by decide)⟩
  · show Steps p.tables e below (s₁.setTop (mkF m 21 #[.val (.ref a1), .val (.int p2), .val (.int ((((((5 : Int32).toInt64) * (p2.toInt64)) + (99 : Int64)) / (100 : Int64)).toInt32))] [(.long r)])) _
    exact X0.lreturnOut hx Bd.returns (hb hby own_d2_21) hrt
  · show own_Q_rmPct5 Z a1 ka x0 x1 x2 x3 x4 r p2 j h0 n0 _ s₁.heap _
    rw [e0]
    exact ⟨rfl, N0, rfl⟩
theorem own_ef15 (m : MethodId) (x0 : Addr) (x1 : Int64) : entryFrame m #[(.ref x0), (.long x1)] 5 = mkF m 0 #[.val (.ref x0), .val (.long x1), .second, .unset, .unset] [] := by first | (simp [entryFrame, mkF, argsToLocals, Value.category]; done) | rfl
theorem own_d3_74 : decode method_3_code 74 = .ok (.aload_n 0, 1) := by decide +kernel
theorem own_d3_75 : decode method_3_code 75 = .ok (.iconst 4, 1) := by decide +kernel
theorem own_d3_76 : decode method_3_code 76 = .ok (.laload, 1) := by decide +kernel
theorem own_d3_77 : decode method_3_code 77 = .ok (.lload_n 1, 1) := by decide +kernel
theorem own_d3_78 : decode method_3_code 78 = .ok (.lcmp, 1) := by decide +kernel
theorem own_d3_79 : decode method_3_code 79 = .ok (.ifCond .gt 6, 3) := by decide +kernel
theorem own_d3_82 : decode method_3_code 82 = .ok (.iinc 4 1, 3) := by decide +kernel
def own_Q_rmcountLe5 (Z : State) (a1 : Addr) (ka : ClassId) (x0 x1 x2 x3 x4 q2 : Int64) (r : Int32) (h0 : Heap) (n0 : Nat) (v : Option Value) (h : Heap) (L : List Loc) : Prop := v = some (.int r) ∧ Fr n0 L ∧ h = h0
set_option maxRecDepth 65536 in
set_option maxHeartbeats 40000000 in
theorem rmcountLe5 (l : Launch) (Z : State) (a0 : Array Value) (hw : ∀ d ∈ tables_1, d.before a0 Z = true) (ws : List Jvm.Cond) (a1 : Addr) (ka : ClassId) (x0 x1 x2 x3 x4 q2 : Int64) (r : Int32) (h0 : Heap) (n0 : Nat) (O0 : Old Z n0 h0) (Va : Arv Z h0 a1 ka .long (5 : Int32) [(.long x0), (.long x1), (.long x2), (.long x3), (.long x4)] (.long (0 : Int64))) (hr : own_cle q2 [x0, x1, x2, x3, x4] 0 = r) :
    MetFree l (⟨"orderwire/bench/LatencyPercentilePinLaw", "countLe", "([JJ)I"⟩ : MethodName) (head1 (Jvm.Cond.code (⟨"orderwire/bench/LatencyPercentilePinLaw", "countLe", "([JJ)I"⟩ : MethodName) method_3_code 5 (some .int) :: ws) ({ frames := 0, cells := 0, slots := 0, locals := 0 } : Room)) (fun a U => a = #[(.ref a1), (.long q2)] ∧ Z.Warmed39 U.vm ∧ U.heap = h0) (fun _ _ _ _ _ => True) (fun _ U o U' => ∃ v L, o = .returned v ∧ own_Q_rmcountLe5 Z a1 ka x0 x1 x2 x3 x4 q2 r h0 n0 v U'.heap L ∧ FrameEnd U o U' L ({ frames := 0, cells := 0, slots := 0, locals := 0 } : Room).cells ({ frames := 0, cells := 0, slots := 0, locals := 0 } : Room).slots) := by
  refine MetFree.of_bodySF (plainFor_of_name own_pn1) hisR ?_
  intro p e s m args below meth c s₁ Bd hml0 hP hK
  obtain ⟨rfl, hZ, hh⟩ := hP
  have hx := Bd.exec
  have hby := Bd.bytes
  have hml : c.maxLocals = 5 := hml0
  have hown : s.vm.findClass "orderwire/bench/LatencyPercentilePinLaw" = some m.cls := findClass_of_methodNamed Bd.named
  have hnm := (name_of_methodNamed Bd.named Bd.method).1
  have X0 : Stand p l e ({ frames := 0, cells := 0, slots := 0, locals := 0 } : Room) s m #[(.ref a1), (.long q2)] below meth c s₁ [] 0 0 := Stand.of_body Bd
  have e0 : s₁.heap = h0 := by rw [← hh, Bd.state]; rfl
  have N0 := Fr.nil n0
  have Z0 : n0 ≤ h0.size := O0.1 ▸ O0.2.1
  have g0 : ∀ t, Steps p.tables e below (s₁.setTop (mkF m 0 #[.val (.ref a1), .val (.long q2), .second, .unset, .unset] [])) t → Steps p.tables e below (s₁.setTop (entryFrame m #[(.ref a1), (.long q2)] 5)) t := fun t k => castTop (own_ef15 m (a1) (q2)) k
  obtain ⟨c1, Ar1, cq1, S1, Nn1, Hh1, Gg1⟩ := id Va
  obtain ⟨c2, Ar2, cq2, S2, Nn2, Hh2, Gg2⟩ := id Va
  have hin2 : ¬ ((0 : Int32) < 0 ∨ c2.slots.size ≤ ((0 : Int32)).toNatClampNeg) := inb_of S2 ⟨by decide, by decide⟩
  have hat2 : c2.slots[((0 : Int32)).toNatClampNeg]? = some (.long x0) := Has.at Hh2 hin2 rfl
  have g3 : ∀ t, Steps p.tables e below (s₁.setTop (mkF m 15 #[.val (.ref a1), .val (.long q2), .second, .val (.int (5 : Int32)), .val (.int (0 : Int32))] [(.int (lcmpW x0 q2))])) t → Steps p.tables e below (s₁.setTop (entryFrame m #[(.ref a1), (.long q2)] 5)) t := by
    intro t k
    refine g0 t ?_
    show Steps p.tables e below (s₁.setTop (mkF m 0 #[.val (.ref a1), .val (.long q2), .second, .unset, .unset] [])) _
    refine XS.aloadN X0.here hx rfl (hb hby own_d3_0) rfl rfl ?_
    show Steps p.tables e below (s₁.setTop (mkF m 1 #[.val (.ref a1), .val (.long q2), .second, .unset, .unset] [(.ref a1)])) _
    refine X0.arraylength hx (by rw [e0]; exact Ar1.1) (State.isArrayOf_alike hZ.alike Ar1.2.1) (g := (mkF m 1 #[.val (.ref a1), .val (.long q2), .second, .unset, .unset] [(.ref a1)])) rfl rfl (hb hby own_d3_1) _ ?_
    rw [len_of S1 Nn1]
    show Steps p.tables e below (s₁.setTop (mkF m 2 #[.val (.ref a1), .val (.long q2), .second, .unset, .unset] [(.int (5 : Int32))])) _
    refine XS.istoreN X0.here hx rfl (hb hby own_d3_2) rfl (l' := #[.val (.ref a1), .val (.long q2), .second, .val (.int (5 : Int32)), .unset]) rfl ?_
    show Steps p.tables e below (s₁.setTop (mkF m 3 #[.val (.ref a1), .val (.long q2), .second, .val (.int (5 : Int32)), .unset] [])) _
    refine XS.iconst X0.here hx rfl (hb hby own_d3_3) ?_
    show Steps p.tables e below (s₁.setTop (mkF m 4 #[.val (.ref a1), .val (.long q2), .second, .val (.int (5 : Int32)), .unset] [(.int (0 : Int32))])) _
    refine XS.istore X0.here hx rfl (hb hby own_d3_4) rfl (l' := #[.val (.ref a1), .val (.long q2), .second, .val (.int (5 : Int32)), .val (.int (0 : Int32))]) rfl ?_
    show Steps p.tables e below (s₁.setTop (mkF m 6 #[.val (.ref a1), .val (.long q2), .second, .val (.int (5 : Int32)), .val (.int (0 : Int32))] [])) _
    refine XS.iloadN X0.here hx rfl (hb hby own_d3_6) rfl ?_
    show Steps p.tables e below (s₁.setTop (mkF m 7 #[.val (.ref a1), .val (.long q2), .second, .val (.int (5 : Int32)), .val (.int (0 : Int32))] [(.int (5 : Int32))])) _
    refine XS.ifNo X0.here hx rfl (hb hby own_d3_7) rfl ((if0 _ _).trans (tlt (by decide : (0 : Int32) < (5 : Int32))).2.2.2) ?_
    show Steps p.tables e below (s₁.setTop (mkF m 10 #[.val (.ref a1), .val (.long q2), .second, .val (.int (5 : Int32)), .val (.int (0 : Int32))] [])) _
    refine XS.aloadN X0.here hx rfl (hb hby own_d3_10) rfl rfl ?_
    show Steps p.tables e below (s₁.setTop (mkF m 11 #[.val (.ref a1), .val (.long q2), .second, .val (.int (5 : Int32)), .val (.int (0 : Int32))] [(.ref a1)])) _
    refine XS.iconst X0.here hx rfl (hb hby own_d3_11) ?_
    show Steps p.tables e below (s₁.setTop (mkF m 12 #[.val (.ref a1), .val (.long q2), .second, .val (.int (5 : Int32)), .val (.int (0 : Int32))] [(.int (0 : Int32)), (.ref a1)])) _
    refine X0.laload hx (j := (0 : Int32)) (v := (.long x0)) (by rw [e0]; exact Ar2.1) (State.isArrayOf_alike hZ.alike Ar2.2.1) Ar2.2.2 hin2 hat2 (g := (mkF m 12 #[.val (.ref a1), .val (.long q2), .second, .val (.int (5 : Int32)), .val (.int (0 : Int32))] [(.int (0 : Int32)), (.ref a1)])) rfl rfl (hb hby own_d3_12) _ ?_
    show Steps p.tables e below (s₁.setTop (mkF m 13 #[.val (.ref a1), .val (.long q2), .second, .val (.int (5 : Int32)), .val (.int (0 : Int32))] [(.long x0)])) _
    refine XS.lloadN X0.here hx rfl (hb hby own_d3_13) rfl ?_
    show Steps p.tables e below (s₁.setTop (mkF m 14 #[.val (.ref a1), .val (.long q2), .second, .val (.int (5 : Int32)), .val (.int (0 : Int32))] [(.long q2), (.long x0)])) _
    refine XS.lcmp X0.here hx rfl (hb hby own_d3_14) rfl ?_
    exact k
  obtain ⟨c1, hv_c1⟩ : ∃ z : Int32, z = (if q2 < x0 then (0 : Int32) else ((0 : Int32) + (1 : Int32))) := ⟨_, rfl⟩
  have g5 : ∀ t, Steps p.tables e below (s₁.setTop (mkF m 21 #[.val (.ref a1), .val (.long q2), .second, .val (.int (5 : Int32)), .val (.int c1)] [])) t → Steps p.tables e below (s₁.setTop (entryFrame m #[(.ref a1), (.long q2)] 5)) t := by
    intro t k
    by_cases hc4 : q2 < x0
    · rw [if_pos hc4] at hv_c1; rw [hv_c1] at k
      refine g3 t ?_
      show Steps p.tables e below (s₁.setTop (mkF m 15 #[.val (.ref a1), .val (.long q2), .second, .val (.int (5 : Int32)), .val (.int (0 : Int32))] [(.int (lcmpW x0 q2))])) _
      refine XS.ifYes X0.here hx rfl (pc0 := 15) (pc' := 21) rfl (hb hby own_d3_15) rfl ((if0 _ _).trans (tlt ((lw_gt _ _).mpr hc4)).2.2.1) (by decide) (by decide) ?_
      exact k
    · rw [if_neg hc4] at hv_c1; rw [hv_c1] at k
      refine g3 t ?_
      show Steps p.tables e below (s₁.setTop (mkF m 15 #[.val (.ref a1), .val (.long q2), .second, .val (.int (5 : Int32)), .val (.int (0 : Int32))] [(.int (lcmpW x0 q2))])) _
      refine XS.ifNo X0.here hx rfl (hb hby own_d3_15) rfl ((if0 _ _).trans (flt (fun q => hc4 ((lw_gt _ _).mp q))).2.2.1) ?_
      show Steps p.tables e below (s₁.setTop (mkF m 18 #[.val (.ref a1), .val (.long q2), .second, .val (.int (5 : Int32)), .val (.int (0 : Int32))] [])) _
      refine XS.iinc X0.here hx rfl (hb hby own_d3_18) rfl (l' := #[.val (.ref a1), .val (.long q2), .second, .val (.int (5 : Int32)), .val (.int ((0 : Int32) + (1 : Int32)))]) rfl ?_
      exact k
  obtain ⟨c6, Ar6, cq6, S6, Nn6, Hh6, Gg6⟩ := id Va
  have hin6 : ¬ ((1 : Int32) < 0 ∨ c6.slots.size ≤ ((1 : Int32)).toNatClampNeg) := inb_of S6 ⟨by decide, by decide⟩
  have hat6 : c6.slots[((1 : Int32)).toNatClampNeg]? = some (.long x1) := Has.at Hh6 hin6 rfl
  have g7 : ∀ t, Steps p.tables e below (s₁.setTop (mkF m 31 #[.val (.ref a1), .val (.long q2), .second, .val (.int (5 : Int32)), .val (.int c1)] [(.int (lcmpW x1 q2))])) t → Steps p.tables e below (s₁.setTop (entryFrame m #[(.ref a1), (.long q2)] 5)) t := by
    intro t k
    refine g5 t ?_
    show Steps p.tables e below (s₁.setTop (mkF m 21 #[.val (.ref a1), .val (.long q2), .second, .val (.int (5 : Int32)), .val (.int c1)] [])) _
    refine XS.iloadN X0.here hx rfl (hb hby own_d3_21) rfl ?_
    show Steps p.tables e below (s₁.setTop (mkF m 22 #[.val (.ref a1), .val (.long q2), .second, .val (.int (5 : Int32)), .val (.int c1)] [(.int (5 : Int32))])) _
    refine XS.iconst X0.here hx rfl (hb hby own_d3_22) ?_
    show Steps p.tables e below (s₁.setTop (mkF m 23 #[.val (.ref a1), .val (.long q2), .second, .val (.int (5 : Int32)), .val (.int c1)] [(.int (1 : Int32)), (.int (5 : Int32))])) _
    refine XS.icmpNo X0.here hx rfl (hb hby own_d3_23) rfl (tlt (by decide : (1 : Int32) < (5 : Int32))).2.2.2 ?_
    show Steps p.tables e below (s₁.setTop (mkF m 26 #[.val (.ref a1), .val (.long q2), .second, .val (.int (5 : Int32)), .val (.int c1)] [])) _
    refine XS.aloadN X0.here hx rfl (hb hby own_d3_26) rfl rfl ?_
    show Steps p.tables e below (s₁.setTop (mkF m 27 #[.val (.ref a1), .val (.long q2), .second, .val (.int (5 : Int32)), .val (.int c1)] [(.ref a1)])) _
    refine XS.iconst X0.here hx rfl (hb hby own_d3_27) ?_
    show Steps p.tables e below (s₁.setTop (mkF m 28 #[.val (.ref a1), .val (.long q2), .second, .val (.int (5 : Int32)), .val (.int c1)] [(.int (1 : Int32)), (.ref a1)])) _
    refine X0.laload hx (j := (1 : Int32)) (v := (.long x1)) (by rw [e0]; exact Ar6.1) (State.isArrayOf_alike hZ.alike Ar6.2.1) Ar6.2.2 hin6 hat6 (g := (mkF m 28 #[.val (.ref a1), .val (.long q2), .second, .val (.int (5 : Int32)), .val (.int c1)] [(.int (1 : Int32)), (.ref a1)])) rfl rfl (hb hby own_d3_28) _ ?_
    show Steps p.tables e below (s₁.setTop (mkF m 29 #[.val (.ref a1), .val (.long q2), .second, .val (.int (5 : Int32)), .val (.int c1)] [(.long x1)])) _
    refine XS.lloadN X0.here hx rfl (hb hby own_d3_29) rfl ?_
    show Steps p.tables e below (s₁.setTop (mkF m 30 #[.val (.ref a1), .val (.long q2), .second, .val (.int (5 : Int32)), .val (.int c1)] [(.long q2), (.long x1)])) _
    refine XS.lcmp X0.here hx rfl (hb hby own_d3_30) rfl ?_
    exact k
  obtain ⟨c2, hv_c2⟩ : ∃ z : Int32, z = (if q2 < x1 then c1 else (c1 + (1 : Int32))) := ⟨_, rfl⟩
  have g9 : ∀ t, Steps p.tables e below (s₁.setTop (mkF m 37 #[.val (.ref a1), .val (.long q2), .second, .val (.int (5 : Int32)), .val (.int c2)] [])) t → Steps p.tables e below (s₁.setTop (entryFrame m #[(.ref a1), (.long q2)] 5)) t := by
    intro t k
    by_cases hc8 : q2 < x1
    · rw [if_pos hc8] at hv_c2; rw [hv_c2] at k
      refine g7 t ?_
      show Steps p.tables e below (s₁.setTop (mkF m 31 #[.val (.ref a1), .val (.long q2), .second, .val (.int (5 : Int32)), .val (.int c1)] [(.int (lcmpW x1 q2))])) _
      refine XS.ifYes X0.here hx rfl (pc0 := 31) (pc' := 37) rfl (hb hby own_d3_31) rfl ((if0 _ _).trans (tlt ((lw_gt _ _).mpr hc8)).2.2.1) (by decide) (by decide) ?_
      exact k
    · rw [if_neg hc8] at hv_c2; rw [hv_c2] at k
      refine g7 t ?_
      show Steps p.tables e below (s₁.setTop (mkF m 31 #[.val (.ref a1), .val (.long q2), .second, .val (.int (5 : Int32)), .val (.int c1)] [(.int (lcmpW x1 q2))])) _
      refine XS.ifNo X0.here hx rfl (hb hby own_d3_31) rfl ((if0 _ _).trans (flt (fun q => hc8 ((lw_gt _ _).mp q))).2.2.1) ?_
      show Steps p.tables e below (s₁.setTop (mkF m 34 #[.val (.ref a1), .val (.long q2), .second, .val (.int (5 : Int32)), .val (.int c1)] [])) _
      refine XS.iinc X0.here hx rfl (hb hby own_d3_34) rfl (l' := #[.val (.ref a1), .val (.long q2), .second, .val (.int (5 : Int32)), .val (.int (c1 + (1 : Int32)))]) rfl ?_
      exact k
  obtain ⟨c10, Ar10, cq10, S10, Nn10, Hh10, Gg10⟩ := id Va
  have hin10 : ¬ ((2 : Int32) < 0 ∨ c10.slots.size ≤ ((2 : Int32)).toNatClampNeg) := inb_of S10 ⟨by decide, by decide⟩
  have hat10 : c10.slots[((2 : Int32)).toNatClampNeg]? = some (.long x2) := Has.at Hh10 hin10 rfl
  have g11 : ∀ t, Steps p.tables e below (s₁.setTop (mkF m 47 #[.val (.ref a1), .val (.long q2), .second, .val (.int (5 : Int32)), .val (.int c2)] [(.int (lcmpW x2 q2))])) t → Steps p.tables e below (s₁.setTop (entryFrame m #[(.ref a1), (.long q2)] 5)) t := by
    intro t k
    refine g9 t ?_
    show Steps p.tables e below (s₁.setTop (mkF m 37 #[.val (.ref a1), .val (.long q2), .second, .val (.int (5 : Int32)), .val (.int c2)] [])) _
    refine XS.iloadN X0.here hx rfl (hb hby own_d3_37) rfl ?_
    show Steps p.tables e below (s₁.setTop (mkF m 38 #[.val (.ref a1), .val (.long q2), .second, .val (.int (5 : Int32)), .val (.int c2)] [(.int (5 : Int32))])) _
    refine XS.iconst X0.here hx rfl (hb hby own_d3_38) ?_
    show Steps p.tables e below (s₁.setTop (mkF m 39 #[.val (.ref a1), .val (.long q2), .second, .val (.int (5 : Int32)), .val (.int c2)] [(.int (2 : Int32)), (.int (5 : Int32))])) _
    refine XS.icmpNo X0.here hx rfl (hb hby own_d3_39) rfl (tlt (by decide : (2 : Int32) < (5 : Int32))).2.2.2 ?_
    show Steps p.tables e below (s₁.setTop (mkF m 42 #[.val (.ref a1), .val (.long q2), .second, .val (.int (5 : Int32)), .val (.int c2)] [])) _
    refine XS.aloadN X0.here hx rfl (hb hby own_d3_42) rfl rfl ?_
    show Steps p.tables e below (s₁.setTop (mkF m 43 #[.val (.ref a1), .val (.long q2), .second, .val (.int (5 : Int32)), .val (.int c2)] [(.ref a1)])) _
    refine XS.iconst X0.here hx rfl (hb hby own_d3_43) ?_
    show Steps p.tables e below (s₁.setTop (mkF m 44 #[.val (.ref a1), .val (.long q2), .second, .val (.int (5 : Int32)), .val (.int c2)] [(.int (2 : Int32)), (.ref a1)])) _
    refine X0.laload hx (j := (2 : Int32)) (v := (.long x2)) (by rw [e0]; exact Ar10.1) (State.isArrayOf_alike hZ.alike Ar10.2.1) Ar10.2.2 hin10 hat10 (g := (mkF m 44 #[.val (.ref a1), .val (.long q2), .second, .val (.int (5 : Int32)), .val (.int c2)] [(.int (2 : Int32)), (.ref a1)])) rfl rfl (hb hby own_d3_44) _ ?_
    show Steps p.tables e below (s₁.setTop (mkF m 45 #[.val (.ref a1), .val (.long q2), .second, .val (.int (5 : Int32)), .val (.int c2)] [(.long x2)])) _
    refine XS.lloadN X0.here hx rfl (hb hby own_d3_45) rfl ?_
    show Steps p.tables e below (s₁.setTop (mkF m 46 #[.val (.ref a1), .val (.long q2), .second, .val (.int (5 : Int32)), .val (.int c2)] [(.long q2), (.long x2)])) _
    refine XS.lcmp X0.here hx rfl (hb hby own_d3_46) rfl ?_
    exact k
  obtain ⟨c3, hv_c3⟩ : ∃ z : Int32, z = (if q2 < x2 then c2 else (c2 + (1 : Int32))) := ⟨_, rfl⟩
  have g13 : ∀ t, Steps p.tables e below (s₁.setTop (mkF m 53 #[.val (.ref a1), .val (.long q2), .second, .val (.int (5 : Int32)), .val (.int c3)] [])) t → Steps p.tables e below (s₁.setTop (entryFrame m #[(.ref a1), (.long q2)] 5)) t := by
    intro t k
    by_cases hc12 : q2 < x2
    · rw [if_pos hc12] at hv_c3; rw [hv_c3] at k
      refine g11 t ?_
      show Steps p.tables e below (s₁.setTop (mkF m 47 #[.val (.ref a1), .val (.long q2), .second, .val (.int (5 : Int32)), .val (.int c2)] [(.int (lcmpW x2 q2))])) _
      refine XS.ifYes X0.here hx rfl (pc0 := 47) (pc' := 53) rfl (hb hby own_d3_47) rfl ((if0 _ _).trans (tlt ((lw_gt _ _).mpr hc12)).2.2.1) (by decide) (by decide) ?_
      exact k
    · rw [if_neg hc12] at hv_c3; rw [hv_c3] at k
      refine g11 t ?_
      show Steps p.tables e below (s₁.setTop (mkF m 47 #[.val (.ref a1), .val (.long q2), .second, .val (.int (5 : Int32)), .val (.int c2)] [(.int (lcmpW x2 q2))])) _
      refine XS.ifNo X0.here hx rfl (hb hby own_d3_47) rfl ((if0 _ _).trans (flt (fun q => hc12 ((lw_gt _ _).mp q))).2.2.1) ?_
      show Steps p.tables e below (s₁.setTop (mkF m 50 #[.val (.ref a1), .val (.long q2), .second, .val (.int (5 : Int32)), .val (.int c2)] [])) _
      refine XS.iinc X0.here hx rfl (hb hby own_d3_50) rfl (l' := #[.val (.ref a1), .val (.long q2), .second, .val (.int (5 : Int32)), .val (.int (c2 + (1 : Int32)))]) rfl ?_
      exact k
  obtain ⟨c14, Ar14, cq14, S14, Nn14, Hh14, Gg14⟩ := id Va
  have hin14 : ¬ ((3 : Int32) < 0 ∨ c14.slots.size ≤ ((3 : Int32)).toNatClampNeg) := inb_of S14 ⟨by decide, by decide⟩
  have hat14 : c14.slots[((3 : Int32)).toNatClampNeg]? = some (.long x3) := Has.at Hh14 hin14 rfl
  have g15 : ∀ t, Steps p.tables e below (s₁.setTop (mkF m 63 #[.val (.ref a1), .val (.long q2), .second, .val (.int (5 : Int32)), .val (.int c3)] [(.int (lcmpW x3 q2))])) t → Steps p.tables e below (s₁.setTop (entryFrame m #[(.ref a1), (.long q2)] 5)) t := by
    intro t k
    refine g13 t ?_
    show Steps p.tables e below (s₁.setTop (mkF m 53 #[.val (.ref a1), .val (.long q2), .second, .val (.int (5 : Int32)), .val (.int c3)] [])) _
    refine XS.iloadN X0.here hx rfl (hb hby own_d3_53) rfl ?_
    show Steps p.tables e below (s₁.setTop (mkF m 54 #[.val (.ref a1), .val (.long q2), .second, .val (.int (5 : Int32)), .val (.int c3)] [(.int (5 : Int32))])) _
    refine XS.iconst X0.here hx rfl (hb hby own_d3_54) ?_
    show Steps p.tables e below (s₁.setTop (mkF m 55 #[.val (.ref a1), .val (.long q2), .second, .val (.int (5 : Int32)), .val (.int c3)] [(.int (3 : Int32)), (.int (5 : Int32))])) _
    refine XS.icmpNo X0.here hx rfl (hb hby own_d3_55) rfl (tlt (by decide : (3 : Int32) < (5 : Int32))).2.2.2 ?_
    show Steps p.tables e below (s₁.setTop (mkF m 58 #[.val (.ref a1), .val (.long q2), .second, .val (.int (5 : Int32)), .val (.int c3)] [])) _
    refine XS.aloadN X0.here hx rfl (hb hby own_d3_58) rfl rfl ?_
    show Steps p.tables e below (s₁.setTop (mkF m 59 #[.val (.ref a1), .val (.long q2), .second, .val (.int (5 : Int32)), .val (.int c3)] [(.ref a1)])) _
    refine XS.iconst X0.here hx rfl (hb hby own_d3_59) ?_
    show Steps p.tables e below (s₁.setTop (mkF m 60 #[.val (.ref a1), .val (.long q2), .second, .val (.int (5 : Int32)), .val (.int c3)] [(.int (3 : Int32)), (.ref a1)])) _
    refine X0.laload hx (j := (3 : Int32)) (v := (.long x3)) (by rw [e0]; exact Ar14.1) (State.isArrayOf_alike hZ.alike Ar14.2.1) Ar14.2.2 hin14 hat14 (g := (mkF m 60 #[.val (.ref a1), .val (.long q2), .second, .val (.int (5 : Int32)), .val (.int c3)] [(.int (3 : Int32)), (.ref a1)])) rfl rfl (hb hby own_d3_60) _ ?_
    show Steps p.tables e below (s₁.setTop (mkF m 61 #[.val (.ref a1), .val (.long q2), .second, .val (.int (5 : Int32)), .val (.int c3)] [(.long x3)])) _
    refine XS.lloadN X0.here hx rfl (hb hby own_d3_61) rfl ?_
    show Steps p.tables e below (s₁.setTop (mkF m 62 #[.val (.ref a1), .val (.long q2), .second, .val (.int (5 : Int32)), .val (.int c3)] [(.long q2), (.long x3)])) _
    refine XS.lcmp X0.here hx rfl (hb hby own_d3_62) rfl ?_
    exact k
  obtain ⟨c4, hv_c4⟩ : ∃ z : Int32, z = (if q2 < x3 then c3 else (c3 + (1 : Int32))) := ⟨_, rfl⟩
  have g17 : ∀ t, Steps p.tables e below (s₁.setTop (mkF m 69 #[.val (.ref a1), .val (.long q2), .second, .val (.int (5 : Int32)), .val (.int c4)] [])) t → Steps p.tables e below (s₁.setTop (entryFrame m #[(.ref a1), (.long q2)] 5)) t := by
    intro t k
    by_cases hc16 : q2 < x3
    · rw [if_pos hc16] at hv_c4; rw [hv_c4] at k
      refine g15 t ?_
      show Steps p.tables e below (s₁.setTop (mkF m 63 #[.val (.ref a1), .val (.long q2), .second, .val (.int (5 : Int32)), .val (.int c3)] [(.int (lcmpW x3 q2))])) _
      refine XS.ifYes X0.here hx rfl (pc0 := 63) (pc' := 69) rfl (hb hby own_d3_63) rfl ((if0 _ _).trans (tlt ((lw_gt _ _).mpr hc16)).2.2.1) (by decide) (by decide) ?_
      exact k
    · rw [if_neg hc16] at hv_c4; rw [hv_c4] at k
      refine g15 t ?_
      show Steps p.tables e below (s₁.setTop (mkF m 63 #[.val (.ref a1), .val (.long q2), .second, .val (.int (5 : Int32)), .val (.int c3)] [(.int (lcmpW x3 q2))])) _
      refine XS.ifNo X0.here hx rfl (hb hby own_d3_63) rfl ((if0 _ _).trans (flt (fun q => hc16 ((lw_gt _ _).mp q))).2.2.1) ?_
      show Steps p.tables e below (s₁.setTop (mkF m 66 #[.val (.ref a1), .val (.long q2), .second, .val (.int (5 : Int32)), .val (.int c3)] [])) _
      refine XS.iinc X0.here hx rfl (hb hby own_d3_66) rfl (l' := #[.val (.ref a1), .val (.long q2), .second, .val (.int (5 : Int32)), .val (.int (c3 + (1 : Int32)))]) rfl ?_
      exact k
  obtain ⟨c18, Ar18, cq18, S18, Nn18, Hh18, Gg18⟩ := id Va
  have hin18 : ¬ ((4 : Int32) < 0 ∨ c18.slots.size ≤ ((4 : Int32)).toNatClampNeg) := inb_of S18 ⟨by decide, by decide⟩
  have hat18 : c18.slots[((4 : Int32)).toNatClampNeg]? = some (.long x4) := Has.at Hh18 hin18 rfl
  have g19 : ∀ t, Steps p.tables e below (s₁.setTop (mkF m 79 #[.val (.ref a1), .val (.long q2), .second, .val (.int (5 : Int32)), .val (.int c4)] [(.int (lcmpW x4 q2))])) t → Steps p.tables e below (s₁.setTop (entryFrame m #[(.ref a1), (.long q2)] 5)) t := by
    intro t k
    refine g17 t ?_
    show Steps p.tables e below (s₁.setTop (mkF m 69 #[.val (.ref a1), .val (.long q2), .second, .val (.int (5 : Int32)), .val (.int c4)] [])) _
    refine XS.iloadN X0.here hx rfl (hb hby own_d3_69) rfl ?_
    show Steps p.tables e below (s₁.setTop (mkF m 70 #[.val (.ref a1), .val (.long q2), .second, .val (.int (5 : Int32)), .val (.int c4)] [(.int (5 : Int32))])) _
    refine XS.iconst X0.here hx rfl (hb hby own_d3_70) ?_
    show Steps p.tables e below (s₁.setTop (mkF m 71 #[.val (.ref a1), .val (.long q2), .second, .val (.int (5 : Int32)), .val (.int c4)] [(.int (4 : Int32)), (.int (5 : Int32))])) _
    refine XS.icmpNo X0.here hx rfl (hb hby own_d3_71) rfl (tlt (by decide : (4 : Int32) < (5 : Int32))).2.2.2 ?_
    show Steps p.tables e below (s₁.setTop (mkF m 74 #[.val (.ref a1), .val (.long q2), .second, .val (.int (5 : Int32)), .val (.int c4)] [])) _
    refine XS.aloadN X0.here hx rfl (hb hby own_d3_74) rfl rfl ?_
    show Steps p.tables e below (s₁.setTop (mkF m 75 #[.val (.ref a1), .val (.long q2), .second, .val (.int (5 : Int32)), .val (.int c4)] [(.ref a1)])) _
    refine XS.iconst X0.here hx rfl (hb hby own_d3_75) ?_
    show Steps p.tables e below (s₁.setTop (mkF m 76 #[.val (.ref a1), .val (.long q2), .second, .val (.int (5 : Int32)), .val (.int c4)] [(.int (4 : Int32)), (.ref a1)])) _
    refine X0.laload hx (j := (4 : Int32)) (v := (.long x4)) (by rw [e0]; exact Ar18.1) (State.isArrayOf_alike hZ.alike Ar18.2.1) Ar18.2.2 hin18 hat18 (g := (mkF m 76 #[.val (.ref a1), .val (.long q2), .second, .val (.int (5 : Int32)), .val (.int c4)] [(.int (4 : Int32)), (.ref a1)])) rfl rfl (hb hby own_d3_76) _ ?_
    show Steps p.tables e below (s₁.setTop (mkF m 77 #[.val (.ref a1), .val (.long q2), .second, .val (.int (5 : Int32)), .val (.int c4)] [(.long x4)])) _
    refine XS.lloadN X0.here hx rfl (hb hby own_d3_77) rfl ?_
    show Steps p.tables e below (s₁.setTop (mkF m 78 #[.val (.ref a1), .val (.long q2), .second, .val (.int (5 : Int32)), .val (.int c4)] [(.long q2), (.long x4)])) _
    refine XS.lcmp X0.here hx rfl (hb hby own_d3_78) rfl ?_
    exact k
  obtain ⟨c5, hv_c5⟩ : ∃ z : Int32, z = (if q2 < x4 then c4 else (c4 + (1 : Int32))) := ⟨_, rfl⟩
  have g21 : ∀ t, Steps p.tables e below (s₁.setTop (mkF m 85 #[.val (.ref a1), .val (.long q2), .second, .val (.int (5 : Int32)), .val (.int c5)] [])) t → Steps p.tables e below (s₁.setTop (entryFrame m #[(.ref a1), (.long q2)] 5)) t := by
    intro t k
    by_cases hc20 : q2 < x4
    · rw [if_pos hc20] at hv_c5; rw [hv_c5] at k
      refine g19 t ?_
      show Steps p.tables e below (s₁.setTop (mkF m 79 #[.val (.ref a1), .val (.long q2), .second, .val (.int (5 : Int32)), .val (.int c4)] [(.int (lcmpW x4 q2))])) _
      refine XS.ifYes X0.here hx rfl (pc0 := 79) (pc' := 85) rfl (hb hby own_d3_79) rfl ((if0 _ _).trans (tlt ((lw_gt _ _).mpr hc20)).2.2.1) (by decide) (by decide) ?_
      exact k
    · rw [if_neg hc20] at hv_c5; rw [hv_c5] at k
      refine g19 t ?_
      show Steps p.tables e below (s₁.setTop (mkF m 79 #[.val (.ref a1), .val (.long q2), .second, .val (.int (5 : Int32)), .val (.int c4)] [(.int (lcmpW x4 q2))])) _
      refine XS.ifNo X0.here hx rfl (hb hby own_d3_79) rfl ((if0 _ _).trans (flt (fun q => hc20 ((lw_gt _ _).mp q))).2.2.1) ?_
      show Steps p.tables e below (s₁.setTop (mkF m 82 #[.val (.ref a1), .val (.long q2), .second, .val (.int (5 : Int32)), .val (.int c4)] [])) _
      refine XS.iinc X0.here hx rfl (hb hby own_d3_82) rfl (l' := #[.val (.ref a1), .val (.long q2), .second, .val (.int (5 : Int32)), .val (.int (c4 + (1 : Int32)))]) rfl ?_
      exact k
  have g22 : ∀ t, Steps p.tables e below (s₁.setTop (mkF m 139 #[.val (.ref a1), .val (.long q2), .second, .val (.int (5 : Int32)), .val (.int c5)] [(.int c5)])) t → Steps p.tables e below (s₁.setTop (entryFrame m #[(.ref a1), (.long q2)] 5)) t := by
    intro t k
    refine g21 t ?_
    show Steps p.tables e below (s₁.setTop (mkF m 85 #[.val (.ref a1), .val (.long q2), .second, .val (.int (5 : Int32)), .val (.int c5)] [])) _
    refine XS.iloadN X0.here hx rfl (hb hby own_d3_85) rfl ?_
    show Steps p.tables e below (s₁.setTop (mkF m 86 #[.val (.ref a1), .val (.long q2), .second, .val (.int (5 : Int32)), .val (.int c5)] [(.int (5 : Int32))])) _
    refine XS.iconst X0.here hx rfl (hb hby own_d3_86) ?_
    show Steps p.tables e below (s₁.setTop (mkF m 87 #[.val (.ref a1), .val (.long q2), .second, .val (.int (5 : Int32)), .val (.int c5)] [(.int (5 : Int32)), (.int (5 : Int32))])) _
    refine XS.icmpYes X0.here hx rfl (pc0 := 87) (pc' := 101) rfl (hb hby own_d3_87) rfl (flt (by decide : ¬ ((5 : Int32) < (5 : Int32)))).2.2.2 (by decide) (by decide) ?_
    show Steps p.tables e below (s₁.setTop (mkF m 101 #[.val (.ref a1), .val (.long q2), .second, .val (.int (5 : Int32)), .val (.int c5)] [])) _
    refine XS.iloadN X0.here hx rfl (hb hby own_d3_101) rfl ?_
    show Steps p.tables e below (s₁.setTop (mkF m 102 #[.val (.ref a1), .val (.long q2), .second, .val (.int (5 : Int32)), .val (.int c5)] [(.int (5 : Int32))])) _
    refine XS.bipush X0.here hx rfl (hb hby own_d3_102) ?_
    show Steps p.tables e below (s₁.setTop (mkF m 104 #[.val (.ref a1), .val (.long q2), .second, .val (.int (5 : Int32)), .val (.int c5)] [(.int (6 : Int32)), (.int (5 : Int32))])) _
    refine XS.icmpYes X0.here hx rfl (pc0 := 104) (pc' := 119) rfl (hb hby own_d3_104) rfl (flt (by decide : ¬ ((6 : Int32) < (5 : Int32)))).2.2.2 (by decide) (by decide) ?_
    show Steps p.tables e below (s₁.setTop (mkF m 119 #[.val (.ref a1), .val (.long q2), .second, .val (.int (5 : Int32)), .val (.int c5)] [])) _
    refine XS.iloadN X0.here hx rfl (hb hby own_d3_119) rfl ?_
    show Steps p.tables e below (s₁.setTop (mkF m 120 #[.val (.ref a1), .val (.long q2), .second, .val (.int (5 : Int32)), .val (.int c5)] [(.int (5 : Int32))])) _
    refine XS.bipush X0.here hx rfl (hb hby own_d3_120) ?_
    show Steps p.tables e below (s₁.setTop (mkF m 122 #[.val (.ref a1), .val (.long q2), .second, .val (.int (5 : Int32)), .val (.int c5)] [(.int (7 : Int32)), (.int (5 : Int32))])) _
    refine XS.icmpYes X0.here hx rfl (pc0 := 122) (pc' := 137) rfl (hb hby own_d3_122) rfl (flt (by decide : ¬ ((7 : Int32) < (5 : Int32)))).2.2.2 (by decide) (by decide) ?_
    show Steps p.tables e below (s₁.setTop (mkF m 137 #[.val (.ref a1), .val (.long q2), .second, .val (.int (5 : Int32)), .val (.int c5)] [])) _
    refine XS.iload X0.here hx rfl (hb hby own_d3_137) rfl ?_
    exact k
  obtain ⟨fs, hrt, hrun, hended, hW, hsame⟩ := X0.leave (v := some (.int c5)) (fun h => by rw [Bd.returns] at h; cases h)
  refine ⟨_, _, g22 _ ?_, hrun, hended, _, _, rfl, ?_, ⟨_, rfl⟩, hW, hsame.mono (by decide) (by decide)⟩
  · show Steps p.tables e below (s₁.setTop (mkF m 139 #[.val (.ref a1), .val (.long q2), .second, .val (.int (5 : Int32)), .val (.int c5)] [(.int c5)])) _
    exact retI X0 hx Bd.returns (hb hby own_d3_139) hrt
  · show own_Q_rmcountLe5 Z a1 ka x0 x1 x2 x3 x4 q2 r h0 n0 _ s₁.heap _
    rw [e0]
    exact ⟨by rw [← hr]; subst hv_c1; subst hv_c2; subst hv_c3; subst hv_c4; subst hv_c5; rfl, N0, rfl⟩
theorem own_ef16 (m : MethodId) (x0 : Addr) (x1 : Int64) : entryFrame m #[(.ref x0), (.long x1)] 5 = mkF m 0 #[.val (.ref x0), .val (.long x1), .second, .unset, .unset] [] := by first | (simp [entryFrame, mkF, argsToLocals, Value.category]; done) | rfl
theorem own_d4_74 : decode method_4_code 74 = .ok (.aload_n 0, 1) := by decide +kernel
theorem own_d4_75 : decode method_4_code 75 = .ok (.iconst 4, 1) := by decide +kernel
theorem own_d4_76 : decode method_4_code 76 = .ok (.laload, 1) := by decide +kernel
theorem own_d4_77 : decode method_4_code 77 = .ok (.lload_n 1, 1) := by decide +kernel
theorem own_d4_78 : decode method_4_code 78 = .ok (.lcmp, 1) := by decide +kernel
theorem own_d4_79 : decode method_4_code 79 = .ok (.ifCond .ge 6, 3) := by decide +kernel
theorem own_d4_82 : decode method_4_code 82 = .ok (.iinc 4 1, 3) := by decide +kernel
def own_Q_rmcountLt5 (Z : State) (a1 : Addr) (ka : ClassId) (x0 x1 x2 x3 x4 q2 : Int64) (r : Int32) (h0 : Heap) (n0 : Nat) (v : Option Value) (h : Heap) (L : List Loc) : Prop := v = some (.int r) ∧ Fr n0 L ∧ h = h0
set_option maxRecDepth 65536 in
set_option maxHeartbeats 40000000 in
theorem rmcountLt5 (l : Launch) (Z : State) (a0 : Array Value) (hw : ∀ d ∈ tables_1, d.before a0 Z = true) (ws : List Jvm.Cond) (a1 : Addr) (ka : ClassId) (x0 x1 x2 x3 x4 q2 : Int64) (r : Int32) (h0 : Heap) (n0 : Nat) (O0 : Old Z n0 h0) (Va : Arv Z h0 a1 ka .long (5 : Int32) [(.long x0), (.long x1), (.long x2), (.long x3), (.long x4)] (.long (0 : Int64))) (hr : own_clt q2 [x0, x1, x2, x3, x4] 0 = r) :
    MetFree l (⟨"orderwire/bench/LatencyPercentilePinLaw", "countLt", "([JJ)I"⟩ : MethodName) (head1 (Jvm.Cond.code (⟨"orderwire/bench/LatencyPercentilePinLaw", "countLt", "([JJ)I"⟩ : MethodName) method_4_code 5 (some .int) :: ws) ({ frames := 0, cells := 0, slots := 0, locals := 0 } : Room)) (fun a U => a = #[(.ref a1), (.long q2)] ∧ Z.Warmed39 U.vm ∧ U.heap = h0) (fun _ _ _ _ _ => True) (fun _ U o U' => ∃ v L, o = .returned v ∧ own_Q_rmcountLt5 Z a1 ka x0 x1 x2 x3 x4 q2 r h0 n0 v U'.heap L ∧ FrameEnd U o U' L ({ frames := 0, cells := 0, slots := 0, locals := 0 } : Room).cells ({ frames := 0, cells := 0, slots := 0, locals := 0 } : Room).slots) := by
  refine MetFree.of_bodySF (plainFor_of_name own_pn1) hisR ?_
  intro p e s m args below meth c s₁ Bd hml0 hP hK
  obtain ⟨rfl, hZ, hh⟩ := hP
  have hx := Bd.exec
  have hby := Bd.bytes
  have hml : c.maxLocals = 5 := hml0
  have hown : s.vm.findClass "orderwire/bench/LatencyPercentilePinLaw" = some m.cls := findClass_of_methodNamed Bd.named
  have hnm := (name_of_methodNamed Bd.named Bd.method).1
  have X0 : Stand p l e ({ frames := 0, cells := 0, slots := 0, locals := 0 } : Room) s m #[(.ref a1), (.long q2)] below meth c s₁ [] 0 0 := Stand.of_body Bd
  have e0 : s₁.heap = h0 := by rw [← hh, Bd.state]; rfl
  have N0 := Fr.nil n0
  have Z0 : n0 ≤ h0.size := O0.1 ▸ O0.2.1
  have g0 : ∀ t, Steps p.tables e below (s₁.setTop (mkF m 0 #[.val (.ref a1), .val (.long q2), .second, .unset, .unset] [])) t → Steps p.tables e below (s₁.setTop (entryFrame m #[(.ref a1), (.long q2)] 5)) t := fun t k => castTop (own_ef16 m (a1) (q2)) k
  obtain ⟨c1, Ar1, cq1, S1, Nn1, Hh1, Gg1⟩ := id Va
  obtain ⟨c2, Ar2, cq2, S2, Nn2, Hh2, Gg2⟩ := id Va
  have hin2 : ¬ ((0 : Int32) < 0 ∨ c2.slots.size ≤ ((0 : Int32)).toNatClampNeg) := inb_of S2 ⟨by decide, by decide⟩
  have hat2 : c2.slots[((0 : Int32)).toNatClampNeg]? = some (.long x0) := Has.at Hh2 hin2 rfl
  have g3 : ∀ t, Steps p.tables e below (s₁.setTop (mkF m 15 #[.val (.ref a1), .val (.long q2), .second, .val (.int (5 : Int32)), .val (.int (0 : Int32))] [(.int (lcmpW x0 q2))])) t → Steps p.tables e below (s₁.setTop (entryFrame m #[(.ref a1), (.long q2)] 5)) t := by
    intro t k
    refine g0 t ?_
    show Steps p.tables e below (s₁.setTop (mkF m 0 #[.val (.ref a1), .val (.long q2), .second, .unset, .unset] [])) _
    refine XS.aloadN X0.here hx rfl (hb hby own_d4_0) rfl rfl ?_
    show Steps p.tables e below (s₁.setTop (mkF m 1 #[.val (.ref a1), .val (.long q2), .second, .unset, .unset] [(.ref a1)])) _
    refine X0.arraylength hx (by rw [e0]; exact Ar1.1) (State.isArrayOf_alike hZ.alike Ar1.2.1) (g := (mkF m 1 #[.val (.ref a1), .val (.long q2), .second, .unset, .unset] [(.ref a1)])) rfl rfl (hb hby own_d4_1) _ ?_
    rw [len_of S1 Nn1]
    show Steps p.tables e below (s₁.setTop (mkF m 2 #[.val (.ref a1), .val (.long q2), .second, .unset, .unset] [(.int (5 : Int32))])) _
    refine XS.istoreN X0.here hx rfl (hb hby own_d4_2) rfl (l' := #[.val (.ref a1), .val (.long q2), .second, .val (.int (5 : Int32)), .unset]) rfl ?_
    show Steps p.tables e below (s₁.setTop (mkF m 3 #[.val (.ref a1), .val (.long q2), .second, .val (.int (5 : Int32)), .unset] [])) _
    refine XS.iconst X0.here hx rfl (hb hby own_d4_3) ?_
    show Steps p.tables e below (s₁.setTop (mkF m 4 #[.val (.ref a1), .val (.long q2), .second, .val (.int (5 : Int32)), .unset] [(.int (0 : Int32))])) _
    refine XS.istore X0.here hx rfl (hb hby own_d4_4) rfl (l' := #[.val (.ref a1), .val (.long q2), .second, .val (.int (5 : Int32)), .val (.int (0 : Int32))]) rfl ?_
    show Steps p.tables e below (s₁.setTop (mkF m 6 #[.val (.ref a1), .val (.long q2), .second, .val (.int (5 : Int32)), .val (.int (0 : Int32))] [])) _
    refine XS.iloadN X0.here hx rfl (hb hby own_d4_6) rfl ?_
    show Steps p.tables e below (s₁.setTop (mkF m 7 #[.val (.ref a1), .val (.long q2), .second, .val (.int (5 : Int32)), .val (.int (0 : Int32))] [(.int (5 : Int32))])) _
    refine XS.ifNo X0.here hx rfl (hb hby own_d4_7) rfl ((if0 _ _).trans (tlt (by decide : (0 : Int32) < (5 : Int32))).2.2.2) ?_
    show Steps p.tables e below (s₁.setTop (mkF m 10 #[.val (.ref a1), .val (.long q2), .second, .val (.int (5 : Int32)), .val (.int (0 : Int32))] [])) _
    refine XS.aloadN X0.here hx rfl (hb hby own_d4_10) rfl rfl ?_
    show Steps p.tables e below (s₁.setTop (mkF m 11 #[.val (.ref a1), .val (.long q2), .second, .val (.int (5 : Int32)), .val (.int (0 : Int32))] [(.ref a1)])) _
    refine XS.iconst X0.here hx rfl (hb hby own_d4_11) ?_
    show Steps p.tables e below (s₁.setTop (mkF m 12 #[.val (.ref a1), .val (.long q2), .second, .val (.int (5 : Int32)), .val (.int (0 : Int32))] [(.int (0 : Int32)), (.ref a1)])) _
    refine X0.laload hx (j := (0 : Int32)) (v := (.long x0)) (by rw [e0]; exact Ar2.1) (State.isArrayOf_alike hZ.alike Ar2.2.1) Ar2.2.2 hin2 hat2 (g := (mkF m 12 #[.val (.ref a1), .val (.long q2), .second, .val (.int (5 : Int32)), .val (.int (0 : Int32))] [(.int (0 : Int32)), (.ref a1)])) rfl rfl (hb hby own_d4_12) _ ?_
    show Steps p.tables e below (s₁.setTop (mkF m 13 #[.val (.ref a1), .val (.long q2), .second, .val (.int (5 : Int32)), .val (.int (0 : Int32))] [(.long x0)])) _
    refine XS.lloadN X0.here hx rfl (hb hby own_d4_13) rfl ?_
    show Steps p.tables e below (s₁.setTop (mkF m 14 #[.val (.ref a1), .val (.long q2), .second, .val (.int (5 : Int32)), .val (.int (0 : Int32))] [(.long q2), (.long x0)])) _
    refine XS.lcmp X0.here hx rfl (hb hby own_d4_14) rfl ?_
    exact k
  obtain ⟨c1, hv_c1⟩ : ∃ z : Int32, z = (if x0 < q2 then ((0 : Int32) + (1 : Int32)) else (0 : Int32)) := ⟨_, rfl⟩
  have g5 : ∀ t, Steps p.tables e below (s₁.setTop (mkF m 21 #[.val (.ref a1), .val (.long q2), .second, .val (.int (5 : Int32)), .val (.int c1)] [])) t → Steps p.tables e below (s₁.setTop (entryFrame m #[(.ref a1), (.long q2)] 5)) t := by
    intro t k
    by_cases hc4 : x0 < q2
    · rw [if_pos hc4] at hv_c1; rw [hv_c1] at k
      refine g3 t ?_
      show Steps p.tables e below (s₁.setTop (mkF m 15 #[.val (.ref a1), .val (.long q2), .second, .val (.int (5 : Int32)), .val (.int (0 : Int32))] [(.int (lcmpW x0 q2))])) _
      refine XS.ifNo X0.here hx rfl (hb hby own_d4_15) rfl ((if0 _ _).trans (tlt ((lw_lt _ _).mpr hc4)).2.1) ?_
      show Steps p.tables e below (s₁.setTop (mkF m 18 #[.val (.ref a1), .val (.long q2), .second, .val (.int (5 : Int32)), .val (.int (0 : Int32))] [])) _
      refine XS.iinc X0.here hx rfl (hb hby own_d4_18) rfl (l' := #[.val (.ref a1), .val (.long q2), .second, .val (.int (5 : Int32)), .val (.int ((0 : Int32) + (1 : Int32)))]) rfl ?_
      exact k
    · rw [if_neg hc4] at hv_c1; rw [hv_c1] at k
      refine g3 t ?_
      show Steps p.tables e below (s₁.setTop (mkF m 15 #[.val (.ref a1), .val (.long q2), .second, .val (.int (5 : Int32)), .val (.int (0 : Int32))] [(.int (lcmpW x0 q2))])) _
      refine XS.ifYes X0.here hx rfl (pc0 := 15) (pc' := 21) rfl (hb hby own_d4_15) rfl ((if0 _ _).trans (flt (fun q => hc4 ((lw_lt _ _).mp q))).2.1) (by decide) (by decide) ?_
      exact k
  obtain ⟨c6, Ar6, cq6, S6, Nn6, Hh6, Gg6⟩ := id Va
  have hin6 : ¬ ((1 : Int32) < 0 ∨ c6.slots.size ≤ ((1 : Int32)).toNatClampNeg) := inb_of S6 ⟨by decide, by decide⟩
  have hat6 : c6.slots[((1 : Int32)).toNatClampNeg]? = some (.long x1) := Has.at Hh6 hin6 rfl
  have g7 : ∀ t, Steps p.tables e below (s₁.setTop (mkF m 31 #[.val (.ref a1), .val (.long q2), .second, .val (.int (5 : Int32)), .val (.int c1)] [(.int (lcmpW x1 q2))])) t → Steps p.tables e below (s₁.setTop (entryFrame m #[(.ref a1), (.long q2)] 5)) t := by
    intro t k
    refine g5 t ?_
    show Steps p.tables e below (s₁.setTop (mkF m 21 #[.val (.ref a1), .val (.long q2), .second, .val (.int (5 : Int32)), .val (.int c1)] [])) _
    refine XS.iloadN X0.here hx rfl (hb hby own_d4_21) rfl ?_
    show Steps p.tables e below (s₁.setTop (mkF m 22 #[.val (.ref a1), .val (.long q2), .second, .val (.int (5 : Int32)), .val (.int c1)] [(.int (5 : Int32))])) _
    refine XS.iconst X0.here hx rfl (hb hby own_d4_22) ?_
    show Steps p.tables e below (s₁.setTop (mkF m 23 #[.val (.ref a1), .val (.long q2), .second, .val (.int (5 : Int32)), .val (.int c1)] [(.int (1 : Int32)), (.int (5 : Int32))])) _
    refine XS.icmpNo X0.here hx rfl (hb hby own_d4_23) rfl (tlt (by decide : (1 : Int32) < (5 : Int32))).2.2.2 ?_
    show Steps p.tables e below (s₁.setTop (mkF m 26 #[.val (.ref a1), .val (.long q2), .second, .val (.int (5 : Int32)), .val (.int c1)] [])) _
    refine XS.aloadN X0.here hx rfl (hb hby own_d4_26) rfl rfl ?_
    show Steps p.tables e below (s₁.setTop (mkF m 27 #[.val (.ref a1), .val (.long q2), .second, .val (.int (5 : Int32)), .val (.int c1)] [(.ref a1)])) _
    refine XS.iconst X0.here hx rfl (hb hby own_d4_27) ?_
    show Steps p.tables e below (s₁.setTop (mkF m 28 #[.val (.ref a1), .val (.long q2), .second, .val (.int (5 : Int32)), .val (.int c1)] [(.int (1 : Int32)), (.ref a1)])) _
    refine X0.laload hx (j := (1 : Int32)) (v := (.long x1)) (by rw [e0]; exact Ar6.1) (State.isArrayOf_alike hZ.alike Ar6.2.1) Ar6.2.2 hin6 hat6 (g := (mkF m 28 #[.val (.ref a1), .val (.long q2), .second, .val (.int (5 : Int32)), .val (.int c1)] [(.int (1 : Int32)), (.ref a1)])) rfl rfl (hb hby own_d4_28) _ ?_
    show Steps p.tables e below (s₁.setTop (mkF m 29 #[.val (.ref a1), .val (.long q2), .second, .val (.int (5 : Int32)), .val (.int c1)] [(.long x1)])) _
    refine XS.lloadN X0.here hx rfl (hb hby own_d4_29) rfl ?_
    show Steps p.tables e below (s₁.setTop (mkF m 30 #[.val (.ref a1), .val (.long q2), .second, .val (.int (5 : Int32)), .val (.int c1)] [(.long q2), (.long x1)])) _
    refine XS.lcmp X0.here hx rfl (hb hby own_d4_30) rfl ?_
    exact k
  obtain ⟨c2, hv_c2⟩ : ∃ z : Int32, z = (if x1 < q2 then (c1 + (1 : Int32)) else c1) := ⟨_, rfl⟩
  have g9 : ∀ t, Steps p.tables e below (s₁.setTop (mkF m 37 #[.val (.ref a1), .val (.long q2), .second, .val (.int (5 : Int32)), .val (.int c2)] [])) t → Steps p.tables e below (s₁.setTop (entryFrame m #[(.ref a1), (.long q2)] 5)) t := by
    intro t k
    by_cases hc8 : x1 < q2
    · rw [if_pos hc8] at hv_c2; rw [hv_c2] at k
      refine g7 t ?_
      show Steps p.tables e below (s₁.setTop (mkF m 31 #[.val (.ref a1), .val (.long q2), .second, .val (.int (5 : Int32)), .val (.int c1)] [(.int (lcmpW x1 q2))])) _
      refine XS.ifNo X0.here hx rfl (hb hby own_d4_31) rfl ((if0 _ _).trans (tlt ((lw_lt _ _).mpr hc8)).2.1) ?_
      show Steps p.tables e below (s₁.setTop (mkF m 34 #[.val (.ref a1), .val (.long q2), .second, .val (.int (5 : Int32)), .val (.int c1)] [])) _
      refine XS.iinc X0.here hx rfl (hb hby own_d4_34) rfl (l' := #[.val (.ref a1), .val (.long q2), .second, .val (.int (5 : Int32)), .val (.int (c1 + (1 : Int32)))]) rfl ?_
      exact k
    · rw [if_neg hc8] at hv_c2; rw [hv_c2] at k
      refine g7 t ?_
      show Steps p.tables e below (s₁.setTop (mkF m 31 #[.val (.ref a1), .val (.long q2), .second, .val (.int (5 : Int32)), .val (.int c1)] [(.int (lcmpW x1 q2))])) _
      refine XS.ifYes X0.here hx rfl (pc0 := 31) (pc' := 37) rfl (hb hby own_d4_31) rfl ((if0 _ _).trans (flt (fun q => hc8 ((lw_lt _ _).mp q))).2.1) (by decide) (by decide) ?_
      exact k
  obtain ⟨c10, Ar10, cq10, S10, Nn10, Hh10, Gg10⟩ := id Va
  have hin10 : ¬ ((2 : Int32) < 0 ∨ c10.slots.size ≤ ((2 : Int32)).toNatClampNeg) := inb_of S10 ⟨by decide, by decide⟩
  have hat10 : c10.slots[((2 : Int32)).toNatClampNeg]? = some (.long x2) := Has.at Hh10 hin10 rfl
  have g11 : ∀ t, Steps p.tables e below (s₁.setTop (mkF m 47 #[.val (.ref a1), .val (.long q2), .second, .val (.int (5 : Int32)), .val (.int c2)] [(.int (lcmpW x2 q2))])) t → Steps p.tables e below (s₁.setTop (entryFrame m #[(.ref a1), (.long q2)] 5)) t := by
    intro t k
    refine g9 t ?_
    show Steps p.tables e below (s₁.setTop (mkF m 37 #[.val (.ref a1), .val (.long q2), .second, .val (.int (5 : Int32)), .val (.int c2)] [])) _
    refine XS.iloadN X0.here hx rfl (hb hby own_d4_37) rfl ?_
    show Steps p.tables e below (s₁.setTop (mkF m 38 #[.val (.ref a1), .val (.long q2), .second, .val (.int (5 : Int32)), .val (.int c2)] [(.int (5 : Int32))])) _
    refine XS.iconst X0.here hx rfl (hb hby own_d4_38) ?_
    show Steps p.tables e below (s₁.setTop (mkF m 39 #[.val (.ref a1), .val (.long q2), .second, .val (.int (5 : Int32)), .val (.int c2)] [(.int (2 : Int32)), (.int (5 : Int32))])) _
    refine XS.icmpNo X0.here hx rfl (hb hby own_d4_39) rfl (tlt (by decide : (2 : Int32) < (5 : Int32))).2.2.2 ?_
    show Steps p.tables e below (s₁.setTop (mkF m 42 #[.val (.ref a1), .val (.long q2), .second, .val (.int (5 : Int32)), .val (.int c2)] [])) _
    refine XS.aloadN X0.here hx rfl (hb hby own_d4_42) rfl rfl ?_
    show Steps p.tables e below (s₁.setTop (mkF m 43 #[.val (.ref a1), .val (.long q2), .second, .val (.int (5 : Int32)), .val (.int c2)] [(.ref a1)])) _
    refine XS.iconst X0.here hx rfl (hb hby own_d4_43) ?_
    show Steps p.tables e below (s₁.setTop (mkF m 44 #[.val (.ref a1), .val (.long q2), .second, .val (.int (5 : Int32)), .val (.int c2)] [(.int (2 : Int32)), (.ref a1)])) _
    refine X0.laload hx (j := (2 : Int32)) (v := (.long x2)) (by rw [e0]; exact Ar10.1) (State.isArrayOf_alike hZ.alike Ar10.2.1) Ar10.2.2 hin10 hat10 (g := (mkF m 44 #[.val (.ref a1), .val (.long q2), .second, .val (.int (5 : Int32)), .val (.int c2)] [(.int (2 : Int32)), (.ref a1)])) rfl rfl (hb hby own_d4_44) _ ?_
    show Steps p.tables e below (s₁.setTop (mkF m 45 #[.val (.ref a1), .val (.long q2), .second, .val (.int (5 : Int32)), .val (.int c2)] [(.long x2)])) _
    refine XS.lloadN X0.here hx rfl (hb hby own_d4_45) rfl ?_
    show Steps p.tables e below (s₁.setTop (mkF m 46 #[.val (.ref a1), .val (.long q2), .second, .val (.int (5 : Int32)), .val (.int c2)] [(.long q2), (.long x2)])) _
    refine XS.lcmp X0.here hx rfl (hb hby own_d4_46) rfl ?_
    exact k
  obtain ⟨c3, hv_c3⟩ : ∃ z : Int32, z = (if x2 < q2 then (c2 + (1 : Int32)) else c2) := ⟨_, rfl⟩
  have g13 : ∀ t, Steps p.tables e below (s₁.setTop (mkF m 53 #[.val (.ref a1), .val (.long q2), .second, .val (.int (5 : Int32)), .val (.int c3)] [])) t → Steps p.tables e below (s₁.setTop (entryFrame m #[(.ref a1), (.long q2)] 5)) t := by
    intro t k
    by_cases hc12 : x2 < q2
    · rw [if_pos hc12] at hv_c3; rw [hv_c3] at k
      refine g11 t ?_
      show Steps p.tables e below (s₁.setTop (mkF m 47 #[.val (.ref a1), .val (.long q2), .second, .val (.int (5 : Int32)), .val (.int c2)] [(.int (lcmpW x2 q2))])) _
      refine XS.ifNo X0.here hx rfl (hb hby own_d4_47) rfl ((if0 _ _).trans (tlt ((lw_lt _ _).mpr hc12)).2.1) ?_
      show Steps p.tables e below (s₁.setTop (mkF m 50 #[.val (.ref a1), .val (.long q2), .second, .val (.int (5 : Int32)), .val (.int c2)] [])) _
      refine XS.iinc X0.here hx rfl (hb hby own_d4_50) rfl (l' := #[.val (.ref a1), .val (.long q2), .second, .val (.int (5 : Int32)), .val (.int (c2 + (1 : Int32)))]) rfl ?_
      exact k
    · rw [if_neg hc12] at hv_c3; rw [hv_c3] at k
      refine g11 t ?_
      show Steps p.tables e below (s₁.setTop (mkF m 47 #[.val (.ref a1), .val (.long q2), .second, .val (.int (5 : Int32)), .val (.int c2)] [(.int (lcmpW x2 q2))])) _
      refine XS.ifYes X0.here hx rfl (pc0 := 47) (pc' := 53) rfl (hb hby own_d4_47) rfl ((if0 _ _).trans (flt (fun q => hc12 ((lw_lt _ _).mp q))).2.1) (by decide) (by decide) ?_
      exact k
  obtain ⟨c14, Ar14, cq14, S14, Nn14, Hh14, Gg14⟩ := id Va
  have hin14 : ¬ ((3 : Int32) < 0 ∨ c14.slots.size ≤ ((3 : Int32)).toNatClampNeg) := inb_of S14 ⟨by decide, by decide⟩
  have hat14 : c14.slots[((3 : Int32)).toNatClampNeg]? = some (.long x3) := Has.at Hh14 hin14 rfl
  have g15 : ∀ t, Steps p.tables e below (s₁.setTop (mkF m 63 #[.val (.ref a1), .val (.long q2), .second, .val (.int (5 : Int32)), .val (.int c3)] [(.int (lcmpW x3 q2))])) t → Steps p.tables e below (s₁.setTop (entryFrame m #[(.ref a1), (.long q2)] 5)) t := by
    intro t k
    refine g13 t ?_
    show Steps p.tables e below (s₁.setTop (mkF m 53 #[.val (.ref a1), .val (.long q2), .second, .val (.int (5 : Int32)), .val (.int c3)] [])) _
    refine XS.iloadN X0.here hx rfl (hb hby own_d4_53) rfl ?_
    show Steps p.tables e below (s₁.setTop (mkF m 54 #[.val (.ref a1), .val (.long q2), .second, .val (.int (5 : Int32)), .val (.int c3)] [(.int (5 : Int32))])) _
    refine XS.iconst X0.here hx rfl (hb hby own_d4_54) ?_
    show Steps p.tables e below (s₁.setTop (mkF m 55 #[.val (.ref a1), .val (.long q2), .second, .val (.int (5 : Int32)), .val (.int c3)] [(.int (3 : Int32)), (.int (5 : Int32))])) _
    refine XS.icmpNo X0.here hx rfl (hb hby own_d4_55) rfl (tlt (by decide : (3 : Int32) < (5 : Int32))).2.2.2 ?_
    show Steps p.tables e below (s₁.setTop (mkF m 58 #[.val (.ref a1), .val (.long q2), .second, .val (.int (5 : Int32)), .val (.int c3)] [])) _
    refine XS.aloadN X0.here hx rfl (hb hby own_d4_58) rfl rfl ?_
    show Steps p.tables e below (s₁.setTop (mkF m 59 #[.val (.ref a1), .val (.long q2), .second, .val (.int (5 : Int32)), .val (.int c3)] [(.ref a1)])) _
    refine XS.iconst X0.here hx rfl (hb hby own_d4_59) ?_
    show Steps p.tables e below (s₁.setTop (mkF m 60 #[.val (.ref a1), .val (.long q2), .second, .val (.int (5 : Int32)), .val (.int c3)] [(.int (3 : Int32)), (.ref a1)])) _
    refine X0.laload hx (j := (3 : Int32)) (v := (.long x3)) (by rw [e0]; exact Ar14.1) (State.isArrayOf_alike hZ.alike Ar14.2.1) Ar14.2.2 hin14 hat14 (g := (mkF m 60 #[.val (.ref a1), .val (.long q2), .second, .val (.int (5 : Int32)), .val (.int c3)] [(.int (3 : Int32)), (.ref a1)])) rfl rfl (hb hby own_d4_60) _ ?_
    show Steps p.tables e below (s₁.setTop (mkF m 61 #[.val (.ref a1), .val (.long q2), .second, .val (.int (5 : Int32)), .val (.int c3)] [(.long x3)])) _
    refine XS.lloadN X0.here hx rfl (hb hby own_d4_61) rfl ?_
    show Steps p.tables e below (s₁.setTop (mkF m 62 #[.val (.ref a1), .val (.long q2), .second, .val (.int (5 : Int32)), .val (.int c3)] [(.long q2), (.long x3)])) _
    refine XS.lcmp X0.here hx rfl (hb hby own_d4_62) rfl ?_
    exact k
  obtain ⟨c4, hv_c4⟩ : ∃ z : Int32, z = (if x3 < q2 then (c3 + (1 : Int32)) else c3) := ⟨_, rfl⟩
  have g17 : ∀ t, Steps p.tables e below (s₁.setTop (mkF m 69 #[.val (.ref a1), .val (.long q2), .second, .val (.int (5 : Int32)), .val (.int c4)] [])) t → Steps p.tables e below (s₁.setTop (entryFrame m #[(.ref a1), (.long q2)] 5)) t := by
    intro t k
    by_cases hc16 : x3 < q2
    · rw [if_pos hc16] at hv_c4; rw [hv_c4] at k
      refine g15 t ?_
      show Steps p.tables e below (s₁.setTop (mkF m 63 #[.val (.ref a1), .val (.long q2), .second, .val (.int (5 : Int32)), .val (.int c3)] [(.int (lcmpW x3 q2))])) _
      refine XS.ifNo X0.here hx rfl (hb hby own_d4_63) rfl ((if0 _ _).trans (tlt ((lw_lt _ _).mpr hc16)).2.1) ?_
      show Steps p.tables e below (s₁.setTop (mkF m 66 #[.val (.ref a1), .val (.long q2), .second, .val (.int (5 : Int32)), .val (.int c3)] [])) _
      refine XS.iinc X0.here hx rfl (hb hby own_d4_66) rfl (l' := #[.val (.ref a1), .val (.long q2), .second, .val (.int (5 : Int32)), .val (.int (c3 + (1 : Int32)))]) rfl ?_
      exact k
    · rw [if_neg hc16] at hv_c4; rw [hv_c4] at k
      refine g15 t ?_
      show Steps p.tables e below (s₁.setTop (mkF m 63 #[.val (.ref a1), .val (.long q2), .second, .val (.int (5 : Int32)), .val (.int c3)] [(.int (lcmpW x3 q2))])) _
      refine XS.ifYes X0.here hx rfl (pc0 := 63) (pc' := 69) rfl (hb hby own_d4_63) rfl ((if0 _ _).trans (flt (fun q => hc16 ((lw_lt _ _).mp q))).2.1) (by decide) (by decide) ?_
      exact k
  obtain ⟨c18, Ar18, cq18, S18, Nn18, Hh18, Gg18⟩ := id Va
  have hin18 : ¬ ((4 : Int32) < 0 ∨ c18.slots.size ≤ ((4 : Int32)).toNatClampNeg) := inb_of S18 ⟨by decide, by decide⟩
  have hat18 : c18.slots[((4 : Int32)).toNatClampNeg]? = some (.long x4) := Has.at Hh18 hin18 rfl
  have g19 : ∀ t, Steps p.tables e below (s₁.setTop (mkF m 79 #[.val (.ref a1), .val (.long q2), .second, .val (.int (5 : Int32)), .val (.int c4)] [(.int (lcmpW x4 q2))])) t → Steps p.tables e below (s₁.setTop (entryFrame m #[(.ref a1), (.long q2)] 5)) t := by
    intro t k
    refine g17 t ?_
    show Steps p.tables e below (s₁.setTop (mkF m 69 #[.val (.ref a1), .val (.long q2), .second, .val (.int (5 : Int32)), .val (.int c4)] [])) _
    refine XS.iloadN X0.here hx rfl (hb hby own_d4_69) rfl ?_
    show Steps p.tables e below (s₁.setTop (mkF m 70 #[.val (.ref a1), .val (.long q2), .second, .val (.int (5 : Int32)), .val (.int c4)] [(.int (5 : Int32))])) _
    refine XS.iconst X0.here hx rfl (hb hby own_d4_70) ?_
    show Steps p.tables e below (s₁.setTop (mkF m 71 #[.val (.ref a1), .val (.long q2), .second, .val (.int (5 : Int32)), .val (.int c4)] [(.int (4 : Int32)), (.int (5 : Int32))])) _
    refine XS.icmpNo X0.here hx rfl (hb hby own_d4_71) rfl (tlt (by decide : (4 : Int32) < (5 : Int32))).2.2.2 ?_
    show Steps p.tables e below (s₁.setTop (mkF m 74 #[.val (.ref a1), .val (.long q2), .second, .val (.int (5 : Int32)), .val (.int c4)] [])) _
    refine XS.aloadN X0.here hx rfl (hb hby own_d4_74) rfl rfl ?_
    show Steps p.tables e below (s₁.setTop (mkF m 75 #[.val (.ref a1), .val (.long q2), .second, .val (.int (5 : Int32)), .val (.int c4)] [(.ref a1)])) _
    refine XS.iconst X0.here hx rfl (hb hby own_d4_75) ?_
    show Steps p.tables e below (s₁.setTop (mkF m 76 #[.val (.ref a1), .val (.long q2), .second, .val (.int (5 : Int32)), .val (.int c4)] [(.int (4 : Int32)), (.ref a1)])) _
    refine X0.laload hx (j := (4 : Int32)) (v := (.long x4)) (by rw [e0]; exact Ar18.1) (State.isArrayOf_alike hZ.alike Ar18.2.1) Ar18.2.2 hin18 hat18 (g := (mkF m 76 #[.val (.ref a1), .val (.long q2), .second, .val (.int (5 : Int32)), .val (.int c4)] [(.int (4 : Int32)), (.ref a1)])) rfl rfl (hb hby own_d4_76) _ ?_
    show Steps p.tables e below (s₁.setTop (mkF m 77 #[.val (.ref a1), .val (.long q2), .second, .val (.int (5 : Int32)), .val (.int c4)] [(.long x4)])) _
    refine XS.lloadN X0.here hx rfl (hb hby own_d4_77) rfl ?_
    show Steps p.tables e below (s₁.setTop (mkF m 78 #[.val (.ref a1), .val (.long q2), .second, .val (.int (5 : Int32)), .val (.int c4)] [(.long q2), (.long x4)])) _
    refine XS.lcmp X0.here hx rfl (hb hby own_d4_78) rfl ?_
    exact k
  obtain ⟨c5, hv_c5⟩ : ∃ z : Int32, z = (if x4 < q2 then (c4 + (1 : Int32)) else c4) := ⟨_, rfl⟩
  have g21 : ∀ t, Steps p.tables e below (s₁.setTop (mkF m 85 #[.val (.ref a1), .val (.long q2), .second, .val (.int (5 : Int32)), .val (.int c5)] [])) t → Steps p.tables e below (s₁.setTop (entryFrame m #[(.ref a1), (.long q2)] 5)) t := by
    intro t k
    by_cases hc20 : x4 < q2
    · rw [if_pos hc20] at hv_c5; rw [hv_c5] at k
      refine g19 t ?_
      show Steps p.tables e below (s₁.setTop (mkF m 79 #[.val (.ref a1), .val (.long q2), .second, .val (.int (5 : Int32)), .val (.int c4)] [(.int (lcmpW x4 q2))])) _
      refine XS.ifNo X0.here hx rfl (hb hby own_d4_79) rfl ((if0 _ _).trans (tlt ((lw_lt _ _).mpr hc20)).2.1) ?_
      show Steps p.tables e below (s₁.setTop (mkF m 82 #[.val (.ref a1), .val (.long q2), .second, .val (.int (5 : Int32)), .val (.int c4)] [])) _
      refine XS.iinc X0.here hx rfl (hb hby own_d4_82) rfl (l' := #[.val (.ref a1), .val (.long q2), .second, .val (.int (5 : Int32)), .val (.int (c4 + (1 : Int32)))]) rfl ?_
      exact k
    · rw [if_neg hc20] at hv_c5; rw [hv_c5] at k
      refine g19 t ?_
      show Steps p.tables e below (s₁.setTop (mkF m 79 #[.val (.ref a1), .val (.long q2), .second, .val (.int (5 : Int32)), .val (.int c4)] [(.int (lcmpW x4 q2))])) _
      refine XS.ifYes X0.here hx rfl (pc0 := 79) (pc' := 85) rfl (hb hby own_d4_79) rfl ((if0 _ _).trans (flt (fun q => hc20 ((lw_lt _ _).mp q))).2.1) (by decide) (by decide) ?_
      exact k
  have g22 : ∀ t, Steps p.tables e below (s₁.setTop (mkF m 139 #[.val (.ref a1), .val (.long q2), .second, .val (.int (5 : Int32)), .val (.int c5)] [(.int c5)])) t → Steps p.tables e below (s₁.setTop (entryFrame m #[(.ref a1), (.long q2)] 5)) t := by
    intro t k
    refine g21 t ?_
    show Steps p.tables e below (s₁.setTop (mkF m 85 #[.val (.ref a1), .val (.long q2), .second, .val (.int (5 : Int32)), .val (.int c5)] [])) _
    refine XS.iloadN X0.here hx rfl (hb hby own_d4_85) rfl ?_
    show Steps p.tables e below (s₁.setTop (mkF m 86 #[.val (.ref a1), .val (.long q2), .second, .val (.int (5 : Int32)), .val (.int c5)] [(.int (5 : Int32))])) _
    refine XS.iconst X0.here hx rfl (hb hby own_d4_86) ?_
    show Steps p.tables e below (s₁.setTop (mkF m 87 #[.val (.ref a1), .val (.long q2), .second, .val (.int (5 : Int32)), .val (.int c5)] [(.int (5 : Int32)), (.int (5 : Int32))])) _
    refine XS.icmpYes X0.here hx rfl (pc0 := 87) (pc' := 101) rfl (hb hby own_d4_87) rfl (flt (by decide : ¬ ((5 : Int32) < (5 : Int32)))).2.2.2 (by decide) (by decide) ?_
    show Steps p.tables e below (s₁.setTop (mkF m 101 #[.val (.ref a1), .val (.long q2), .second, .val (.int (5 : Int32)), .val (.int c5)] [])) _
    refine XS.iloadN X0.here hx rfl (hb hby own_d4_101) rfl ?_
    show Steps p.tables e below (s₁.setTop (mkF m 102 #[.val (.ref a1), .val (.long q2), .second, .val (.int (5 : Int32)), .val (.int c5)] [(.int (5 : Int32))])) _
    refine XS.bipush X0.here hx rfl (hb hby own_d4_102) ?_
    show Steps p.tables e below (s₁.setTop (mkF m 104 #[.val (.ref a1), .val (.long q2), .second, .val (.int (5 : Int32)), .val (.int c5)] [(.int (6 : Int32)), (.int (5 : Int32))])) _
    refine XS.icmpYes X0.here hx rfl (pc0 := 104) (pc' := 119) rfl (hb hby own_d4_104) rfl (flt (by decide : ¬ ((6 : Int32) < (5 : Int32)))).2.2.2 (by decide) (by decide) ?_
    show Steps p.tables e below (s₁.setTop (mkF m 119 #[.val (.ref a1), .val (.long q2), .second, .val (.int (5 : Int32)), .val (.int c5)] [])) _
    refine XS.iloadN X0.here hx rfl (hb hby own_d4_119) rfl ?_
    show Steps p.tables e below (s₁.setTop (mkF m 120 #[.val (.ref a1), .val (.long q2), .second, .val (.int (5 : Int32)), .val (.int c5)] [(.int (5 : Int32))])) _
    refine XS.bipush X0.here hx rfl (hb hby own_d4_120) ?_
    show Steps p.tables e below (s₁.setTop (mkF m 122 #[.val (.ref a1), .val (.long q2), .second, .val (.int (5 : Int32)), .val (.int c5)] [(.int (7 : Int32)), (.int (5 : Int32))])) _
    refine XS.icmpYes X0.here hx rfl (pc0 := 122) (pc' := 137) rfl (hb hby own_d4_122) rfl (flt (by decide : ¬ ((7 : Int32) < (5 : Int32)))).2.2.2 (by decide) (by decide) ?_
    show Steps p.tables e below (s₁.setTop (mkF m 137 #[.val (.ref a1), .val (.long q2), .second, .val (.int (5 : Int32)), .val (.int c5)] [])) _
    refine XS.iload X0.here hx rfl (hb hby own_d4_137) rfl ?_
    exact k
  obtain ⟨fs, hrt, hrun, hended, hW, hsame⟩ := X0.leave (v := some (.int c5)) (fun h => by rw [Bd.returns] at h; cases h)
  refine ⟨_, _, g22 _ ?_, hrun, hended, _, _, rfl, ?_, ⟨_, rfl⟩, hW, hsame.mono (by decide) (by decide)⟩
  · show Steps p.tables e below (s₁.setTop (mkF m 139 #[.val (.ref a1), .val (.long q2), .second, .val (.int (5 : Int32)), .val (.int c5)] [(.int c5)])) _
    exact retI X0 hx Bd.returns (hb hby own_d4_139) hrt
  · show own_Q_rmcountLt5 Z a1 ka x0 x1 x2 x3 x4 q2 r h0 n0 _ s₁.heap _
    rw [e0]
    exact ⟨by rw [← hr]; subst hv_c1; subst hv_c2; subst hv_c3; subst hv_c4; subst hv_c5; rfl, N0, rfl⟩
theorem own_ef17 (m : MethodId) (x0 : Addr) (x1 : Int32) : entryFrame m #[(.ref x0), (.int x1)] 3 = mkF m 0 #[.val (.ref x0), .val (.int x1), .unset] [] := by first | (simp [entryFrame, mkF, argsToLocals, Value.category]; done) | rfl
def own_Q_rmPct6 (Z : State) (a1 : Addr) (ka : ClassId) (x0 x1 x2 x3 x4 x5 r : Int64) (p2 j : Int32) (h0 : Heap) (n0 : Nat) (v : Option Value) (h : Heap) (L : List Loc) : Prop := v = some (.long r) ∧ Fr n0 L ∧ h = h0
set_option maxRecDepth 65536 in
set_option maxHeartbeats 40000000 in
theorem rmPct6 (l : Launch) (Z : State) (a0 : Array Value) (hw : ∀ d ∈ tables_1, d.before a0 Z = true) (ws : List Jvm.Cond) (a1 : Addr) (ka : ClassId) (x0 x1 x2 x3 x4 x5 r : Int64) (p2 j : Int32) (h0 : Heap) (n0 : Nat) (O0 : Old Z n0 h0) (Va : Arv Z h0 a1 ka .long (6 : Int32) [(.long x0), (.long x1), (.long x2), (.long x3), (.long x4), (.long x5)] (.long (0 : Int64))) (hj : (((((((6 : Int32).toInt64) * (p2.toInt64)) + (99 : Int64)) / (100 : Int64)).toInt32) - (1 : Int32)) = j) (hj0 : ¬ j < 0) (hj1 : j < (6 : Int32)) (hjr : ([(.long x0), (.long x1), (.long x2), (.long x3), (.long x4), (.long x5)] : List Value).getD j.toNatClampNeg (.long (0 : Int64)) = .long r) :
    MetFree l (⟨"orderwire/bench/Latency", "percentile", "([JI)J"⟩ : MethodName) (head1 (Jvm.Cond.code (⟨"orderwire/bench/Latency", "percentile", "([JI)J"⟩ : MethodName) prog_6_method_9_code 3 (some .long) :: ws) ({ frames := 0, cells := 0, slots := 0, locals := 0 } : Room)) (fun a U => a = #[(.ref a1), (.int p2)] ∧ Z.Warmed39 U.vm ∧ U.heap = h0) (fun _ _ _ _ _ => True) (fun _ U o U' => ∃ v L, o = .returned v ∧ own_Q_rmPct6 Z a1 ka x0 x1 x2 x3 x4 x5 r p2 j h0 n0 v U'.heap L ∧ FrameEnd U o U' L ({ frames := 0, cells := 0, slots := 0, locals := 0 } : Room).cells ({ frames := 0, cells := 0, slots := 0, locals := 0 } : Room).slots) := by
  refine MetFree.of_bodySF (plainFor_of_name own_pn0) hisR ?_
  intro p e s m args below meth c s₁ Bd hml0 hP hK
  obtain ⟨rfl, hZ, hh⟩ := hP
  have hx := Bd.exec
  have hby := Bd.bytes
  have hml : c.maxLocals = 3 := hml0
  have hown : s.vm.findClass "orderwire/bench/Latency" = some m.cls := findClass_of_methodNamed Bd.named
  have hnm := (name_of_methodNamed Bd.named Bd.method).1
  have X0 : Stand p l e ({ frames := 0, cells := 0, slots := 0, locals := 0 } : Room) s m #[(.ref a1), (.int p2)] below meth c s₁ [] 0 0 := Stand.of_body Bd
  have e0 : s₁.heap = h0 := by rw [← hh, Bd.state]; rfl
  have N0 := Fr.nil n0
  have Z0 : n0 ≤ h0.size := O0.1 ▸ O0.2.1
  have g0 : ∀ t, Steps p.tables e below (s₁.setTop (mkF m 0 #[.val (.ref a1), .val (.int p2), .unset] [])) t → Steps p.tables e below (s₁.setTop (entryFrame m #[(.ref a1), (.int p2)] 3)) t := fun t k => castTop (own_ef17 m (a1) (p2)) k
  obtain ⟨c1, Ar1, cq1, S1, Nn1, Hh1, Gg1⟩ := id Va
  have g2 : ∀ t, Steps p.tables e below (s₁.setTop (mkF m 20 #[.val (.ref a1), .val (.int p2), .val (.int ((((((6 : Int32).toInt64) * (p2.toInt64)) + (99 : Int64)) / (100 : Int64)).toInt32))] [(.int j), (.ref a1)])) t → Steps p.tables e below (s₁.setTop (entryFrame m #[(.ref a1), (.int p2)] 3)) t := by
    intro t k
    rw [← hj] at k
    refine g0 t ?_
    show Steps p.tables e below (s₁.setTop (mkF m 0 #[.val (.ref a1), .val (.int p2), .unset] [])) _
    refine XS.aloadN X0.here hx rfl (hb hby own_d2_0) rfl rfl ?_
    show Steps p.tables e below (s₁.setTop (mkF m 1 #[.val (.ref a1), .val (.int p2), .unset] [(.ref a1)])) _
    refine X0.arraylength hx (by rw [e0]; exact Ar1.1) (State.isArrayOf_alike hZ.alike Ar1.2.1) (g := (mkF m 1 #[.val (.ref a1), .val (.int p2), .unset] [(.ref a1)])) rfl rfl (hb hby own_d2_1) _ ?_
    rw [len_of S1 Nn1]
    show Steps p.tables e below (s₁.setTop (mkF m 2 #[.val (.ref a1), .val (.int p2), .unset] [(.int (6 : Int32))])) _
    refine XS.i2l X0.here hx rfl (hb hby own_d2_2) rfl ?_
    show Steps p.tables e below (s₁.setTop (mkF m 3 #[.val (.ref a1), .val (.int p2), .unset] [(.long ((6 : Int32).toInt64))])) _
    refine XS.iloadN X0.here hx rfl (hb hby own_d2_3) rfl ?_
    show Steps p.tables e below (s₁.setTop (mkF m 4 #[.val (.ref a1), .val (.int p2), .unset] [(.int p2), (.long ((6 : Int32).toInt64))])) _
    refine XS.i2l X0.here hx rfl (hb hby own_d2_4) rfl ?_
    show Steps p.tables e below (s₁.setTop (mkF m 5 #[.val (.ref a1), .val (.int p2), .unset] [(.long (p2.toInt64)), (.long ((6 : Int32).toInt64))])) _
    refine XS.lmul X0.here hx rfl (hb hby own_d2_5) rfl ?_
    show Steps p.tables e below (s₁.setTop (mkF m 6 #[.val (.ref a1), .val (.int p2), .unset] [(.long (((6 : Int32).toInt64) * (p2.toInt64)))])) _
    refine X0.ldc2Long hx hown (mvT hZ (hw _ (List.mem_of_getElem? (i := 11) rfl))) (g := (mkF m 6 #[.val (.ref a1), .val (.int p2), .unset] [(.long (((6 : Int32).toInt64) * (p2.toInt64)))])) rfl (hb hby own_d2_6) _ ?_
    show Steps p.tables e below (s₁.setTop (mkF m 9 #[.val (.ref a1), .val (.int p2), .unset] [(.long (99 : Int64)), (.long (((6 : Int32).toInt64) * (p2.toInt64)))])) _
    refine XS.ladd X0.here hx rfl (hb hby own_d2_9) rfl ?_
    show Steps p.tables e below (s₁.setTop (mkF m 10 #[.val (.ref a1), .val (.int p2), .unset] [(.long ((((6 : Int32).toInt64) * (p2.toInt64)) + (99 : Int64)))])) _
    refine X0.ldc2Long hx hown (mvT hZ (hw _ (List.mem_of_getElem? (i := 12) rfl))) (g := (mkF m 10 #[.val (.ref a1), .val (.int p2), .unset] [(.long ((((6 : Int32).toInt64) * (p2.toInt64)) + (99 : Int64)))])) rfl (hb hby own_d2_10) _ ?_
    show Steps p.tables e below (s₁.setTop (mkF m 13 #[.val (.ref a1), .val (.int p2), .unset] [(.long (100 : Int64)), (.long ((((6 : Int32).toInt64) * (p2.toInt64)) + (99 : Int64)))])) _
    refine XS.ldiv X0.here hx rfl (hb hby own_d2_13) rfl (by decide) ?_
    show Steps p.tables e below (s₁.setTop (mkF m 14 #[.val (.ref a1), .val (.int p2), .unset] [(.long (((((6 : Int32).toInt64) * (p2.toInt64)) + (99 : Int64)) / (100 : Int64)))])) _
    refine XS.l2i X0.here hx rfl (hb hby own_d2_14) rfl ?_
    show Steps p.tables e below (s₁.setTop (mkF m 15 #[.val (.ref a1), .val (.int p2), .unset] [(.int ((((((6 : Int32).toInt64) * (p2.toInt64)) + (99 : Int64)) / (100 : Int64)).toInt32))])) _
    refine XS.istoreN X0.here hx rfl (hb hby own_d2_15) rfl (l' := #[.val (.ref a1), .val (.int p2), .val (.int ((((((6 : Int32).toInt64) * (p2.toInt64)) + (99 : Int64)) / (100 : Int64)).toInt32))]) rfl ?_
    show Steps p.tables e below (s₁.setTop (mkF m 16 #[.val (.ref a1), .val (.int p2), .val (.int ((((((6 : Int32).toInt64) * (p2.toInt64)) + (99 : Int64)) / (100 : Int64)).toInt32))] [])) _
    refine XS.aloadN X0.here hx rfl (hb hby own_d2_16) rfl rfl ?_
    show Steps p.tables e below (s₁.setTop (mkF m 17 #[.val (.ref a1), .val (.int p2), .val (.int ((((((6 : Int32).toInt64) * (p2.toInt64)) + (99 : Int64)) / (100 : Int64)).toInt32))] [(.ref a1)])) _
    refine XS.iloadN X0.here hx rfl (hb hby own_d2_17) rfl ?_
    show Steps p.tables e below (s₁.setTop (mkF m 18 #[.val (.ref a1), .val (.int p2), .val (.int ((((((6 : Int32).toInt64) * (p2.toInt64)) + (99 : Int64)) / (100 : Int64)).toInt32))] [(.int ((((((6 : Int32).toInt64) * (p2.toInt64)) + (99 : Int64)) / (100 : Int64)).toInt32)), (.ref a1)])) _
    refine XS.iconst X0.here hx rfl (hb hby own_d2_18) ?_
    show Steps p.tables e below (s₁.setTop (mkF m 19 #[.val (.ref a1), .val (.int p2), .val (.int ((((((6 : Int32).toInt64) * (p2.toInt64)) + (99 : Int64)) / (100 : Int64)).toInt32))] [(.int (1 : Int32)), (.int ((((((6 : Int32).toInt64) * (p2.toInt64)) + (99 : Int64)) / (100 : Int64)).toInt32)), (.ref a1)])) _
    refine XS.isub X0.here hx rfl (hb hby own_d2_19) rfl ?_
    exact k
  obtain ⟨c3, Ar3, cq3, S3, Nn3, Hh3, Gg3⟩ := id Va
  have hin3 : ¬ (j < 0 ∨ c3.slots.size ≤ (j).toNatClampNeg) := inb_of S3 ⟨hj0, hj1⟩
  have hat3 : c3.slots[(j).toNatClampNeg]? = some (.long r) := Has.at Hh3 hin3 hjr
  have g4 : ∀ t, Steps p.tables e below (s₁.setTop (mkF m 21 #[.val (.ref a1), .val (.int p2), .val (.int ((((((6 : Int32).toInt64) * (p2.toInt64)) + (99 : Int64)) / (100 : Int64)).toInt32))] [(.long r)])) t → Steps p.tables e below (s₁.setTop (entryFrame m #[(.ref a1), (.int p2)] 3)) t := by
    intro t k
    refine g2 t ?_
    show Steps p.tables e below (s₁.setTop (mkF m 20 #[.val (.ref a1), .val (.int p2), .val (.int ((((((6 : Int32).toInt64) * (p2.toInt64)) + (99 : Int64)) / (100 : Int64)).toInt32))] [(.int j), (.ref a1)])) _
    refine X0.laload hx (j := j) (v := (.long r)) (by rw [e0]; exact Ar3.1) (State.isArrayOf_alike hZ.alike Ar3.2.1) Ar3.2.2 hin3 hat3 (g := (mkF m 20 #[.val (.ref a1), .val (.int p2), .val (.int ((((((6 : Int32).toInt64) * (p2.toInt64)) + (99 : Int64)) / (100 : Int64)).toInt32))] [(.int j), (.ref a1)])) rfl rfl (hb hby own_d2_20) _ ?_
    exact k
  obtain ⟨fs, hrt, hrun, hended, hW, hsame⟩ := X0.leave (v := some (.long r)) (fun h => by rw [Bd.returns] at h; cases h)
  refine ⟨_, _, g4 _ ?_, hrun, hended, _, _, rfl, ?_, ⟨_, rfl⟩, hW, hsame.mono (by decide) (by decide)⟩
  · show Steps p.tables e below (s₁.setTop (mkF m 21 #[.val (.ref a1), .val (.int p2), .val (.int ((((((6 : Int32).toInt64) * (p2.toInt64)) + (99 : Int64)) / (100 : Int64)).toInt32))] [(.long r)])) _
    exact X0.lreturnOut hx Bd.returns (hb hby own_d2_21) hrt
  · show own_Q_rmPct6 Z a1 ka x0 x1 x2 x3 x4 x5 r p2 j h0 n0 _ s₁.heap _
    rw [e0]
    exact ⟨rfl, N0, rfl⟩
theorem own_ef18 (m : MethodId) (x0 : Addr) (x1 : Int64) : entryFrame m #[(.ref x0), (.long x1)] 5 = mkF m 0 #[.val (.ref x0), .val (.long x1), .second, .unset, .unset] [] := by first | (simp [entryFrame, mkF, argsToLocals, Value.category]; done) | rfl
theorem own_d3_90 : decode method_3_code 90 = .ok (.aload_n 0, 1) := by decide +kernel
theorem own_d3_91 : decode method_3_code 91 = .ok (.iconst 5, 1) := by decide +kernel
theorem own_d3_92 : decode method_3_code 92 = .ok (.laload, 1) := by decide +kernel
theorem own_d3_93 : decode method_3_code 93 = .ok (.lload_n 1, 1) := by decide +kernel
theorem own_d3_94 : decode method_3_code 94 = .ok (.lcmp, 1) := by decide +kernel
theorem own_d3_95 : decode method_3_code 95 = .ok (.ifCond .gt 6, 3) := by decide +kernel
theorem own_d3_98 : decode method_3_code 98 = .ok (.iinc 4 1, 3) := by decide +kernel
def own_Q_rmcountLe6 (Z : State) (a1 : Addr) (ka : ClassId) (x0 x1 x2 x3 x4 x5 q2 : Int64) (r : Int32) (h0 : Heap) (n0 : Nat) (v : Option Value) (h : Heap) (L : List Loc) : Prop := v = some (.int r) ∧ Fr n0 L ∧ h = h0
set_option maxRecDepth 65536 in
set_option maxHeartbeats 40000000 in
theorem rmcountLe6 (l : Launch) (Z : State) (a0 : Array Value) (hw : ∀ d ∈ tables_1, d.before a0 Z = true) (ws : List Jvm.Cond) (a1 : Addr) (ka : ClassId) (x0 x1 x2 x3 x4 x5 q2 : Int64) (r : Int32) (h0 : Heap) (n0 : Nat) (O0 : Old Z n0 h0) (Va : Arv Z h0 a1 ka .long (6 : Int32) [(.long x0), (.long x1), (.long x2), (.long x3), (.long x4), (.long x5)] (.long (0 : Int64))) (hr : own_cle q2 [x0, x1, x2, x3, x4, x5] 0 = r) :
    MetFree l (⟨"orderwire/bench/LatencyPercentilePinLaw", "countLe", "([JJ)I"⟩ : MethodName) (head1 (Jvm.Cond.code (⟨"orderwire/bench/LatencyPercentilePinLaw", "countLe", "([JJ)I"⟩ : MethodName) method_3_code 5 (some .int) :: ws) ({ frames := 0, cells := 0, slots := 0, locals := 0 } : Room)) (fun a U => a = #[(.ref a1), (.long q2)] ∧ Z.Warmed39 U.vm ∧ U.heap = h0) (fun _ _ _ _ _ => True) (fun _ U o U' => ∃ v L, o = .returned v ∧ own_Q_rmcountLe6 Z a1 ka x0 x1 x2 x3 x4 x5 q2 r h0 n0 v U'.heap L ∧ FrameEnd U o U' L ({ frames := 0, cells := 0, slots := 0, locals := 0 } : Room).cells ({ frames := 0, cells := 0, slots := 0, locals := 0 } : Room).slots) := by
  refine MetFree.of_bodySF (plainFor_of_name own_pn1) hisR ?_
  intro p e s m args below meth c s₁ Bd hml0 hP hK
  obtain ⟨rfl, hZ, hh⟩ := hP
  have hx := Bd.exec
  have hby := Bd.bytes
  have hml : c.maxLocals = 5 := hml0
  have hown : s.vm.findClass "orderwire/bench/LatencyPercentilePinLaw" = some m.cls := findClass_of_methodNamed Bd.named
  have hnm := (name_of_methodNamed Bd.named Bd.method).1
  have X0 : Stand p l e ({ frames := 0, cells := 0, slots := 0, locals := 0 } : Room) s m #[(.ref a1), (.long q2)] below meth c s₁ [] 0 0 := Stand.of_body Bd
  have e0 : s₁.heap = h0 := by rw [← hh, Bd.state]; rfl
  have N0 := Fr.nil n0
  have Z0 : n0 ≤ h0.size := O0.1 ▸ O0.2.1
  have g0 : ∀ t, Steps p.tables e below (s₁.setTop (mkF m 0 #[.val (.ref a1), .val (.long q2), .second, .unset, .unset] [])) t → Steps p.tables e below (s₁.setTop (entryFrame m #[(.ref a1), (.long q2)] 5)) t := fun t k => castTop (own_ef18 m (a1) (q2)) k
  obtain ⟨c1, Ar1, cq1, S1, Nn1, Hh1, Gg1⟩ := id Va
  obtain ⟨c2, Ar2, cq2, S2, Nn2, Hh2, Gg2⟩ := id Va
  have hin2 : ¬ ((0 : Int32) < 0 ∨ c2.slots.size ≤ ((0 : Int32)).toNatClampNeg) := inb_of S2 ⟨by decide, by decide⟩
  have hat2 : c2.slots[((0 : Int32)).toNatClampNeg]? = some (.long x0) := Has.at Hh2 hin2 rfl
  have g3 : ∀ t, Steps p.tables e below (s₁.setTop (mkF m 15 #[.val (.ref a1), .val (.long q2), .second, .val (.int (6 : Int32)), .val (.int (0 : Int32))] [(.int (lcmpW x0 q2))])) t → Steps p.tables e below (s₁.setTop (entryFrame m #[(.ref a1), (.long q2)] 5)) t := by
    intro t k
    refine g0 t ?_
    show Steps p.tables e below (s₁.setTop (mkF m 0 #[.val (.ref a1), .val (.long q2), .second, .unset, .unset] [])) _
    refine XS.aloadN X0.here hx rfl (hb hby own_d3_0) rfl rfl ?_
    show Steps p.tables e below (s₁.setTop (mkF m 1 #[.val (.ref a1), .val (.long q2), .second, .unset, .unset] [(.ref a1)])) _
    refine X0.arraylength hx (by rw [e0]; exact Ar1.1) (State.isArrayOf_alike hZ.alike Ar1.2.1) (g := (mkF m 1 #[.val (.ref a1), .val (.long q2), .second, .unset, .unset] [(.ref a1)])) rfl rfl (hb hby own_d3_1) _ ?_
    rw [len_of S1 Nn1]
    show Steps p.tables e below (s₁.setTop (mkF m 2 #[.val (.ref a1), .val (.long q2), .second, .unset, .unset] [(.int (6 : Int32))])) _
    refine XS.istoreN X0.here hx rfl (hb hby own_d3_2) rfl (l' := #[.val (.ref a1), .val (.long q2), .second, .val (.int (6 : Int32)), .unset]) rfl ?_
    show Steps p.tables e below (s₁.setTop (mkF m 3 #[.val (.ref a1), .val (.long q2), .second, .val (.int (6 : Int32)), .unset] [])) _
    refine XS.iconst X0.here hx rfl (hb hby own_d3_3) ?_
    show Steps p.tables e below (s₁.setTop (mkF m 4 #[.val (.ref a1), .val (.long q2), .second, .val (.int (6 : Int32)), .unset] [(.int (0 : Int32))])) _
    refine XS.istore X0.here hx rfl (hb hby own_d3_4) rfl (l' := #[.val (.ref a1), .val (.long q2), .second, .val (.int (6 : Int32)), .val (.int (0 : Int32))]) rfl ?_
    show Steps p.tables e below (s₁.setTop (mkF m 6 #[.val (.ref a1), .val (.long q2), .second, .val (.int (6 : Int32)), .val (.int (0 : Int32))] [])) _
    refine XS.iloadN X0.here hx rfl (hb hby own_d3_6) rfl ?_
    show Steps p.tables e below (s₁.setTop (mkF m 7 #[.val (.ref a1), .val (.long q2), .second, .val (.int (6 : Int32)), .val (.int (0 : Int32))] [(.int (6 : Int32))])) _
    refine XS.ifNo X0.here hx rfl (hb hby own_d3_7) rfl ((if0 _ _).trans (tlt (by decide : (0 : Int32) < (6 : Int32))).2.2.2) ?_
    show Steps p.tables e below (s₁.setTop (mkF m 10 #[.val (.ref a1), .val (.long q2), .second, .val (.int (6 : Int32)), .val (.int (0 : Int32))] [])) _
    refine XS.aloadN X0.here hx rfl (hb hby own_d3_10) rfl rfl ?_
    show Steps p.tables e below (s₁.setTop (mkF m 11 #[.val (.ref a1), .val (.long q2), .second, .val (.int (6 : Int32)), .val (.int (0 : Int32))] [(.ref a1)])) _
    refine XS.iconst X0.here hx rfl (hb hby own_d3_11) ?_
    show Steps p.tables e below (s₁.setTop (mkF m 12 #[.val (.ref a1), .val (.long q2), .second, .val (.int (6 : Int32)), .val (.int (0 : Int32))] [(.int (0 : Int32)), (.ref a1)])) _
    refine X0.laload hx (j := (0 : Int32)) (v := (.long x0)) (by rw [e0]; exact Ar2.1) (State.isArrayOf_alike hZ.alike Ar2.2.1) Ar2.2.2 hin2 hat2 (g := (mkF m 12 #[.val (.ref a1), .val (.long q2), .second, .val (.int (6 : Int32)), .val (.int (0 : Int32))] [(.int (0 : Int32)), (.ref a1)])) rfl rfl (hb hby own_d3_12) _ ?_
    show Steps p.tables e below (s₁.setTop (mkF m 13 #[.val (.ref a1), .val (.long q2), .second, .val (.int (6 : Int32)), .val (.int (0 : Int32))] [(.long x0)])) _
    refine XS.lloadN X0.here hx rfl (hb hby own_d3_13) rfl ?_
    show Steps p.tables e below (s₁.setTop (mkF m 14 #[.val (.ref a1), .val (.long q2), .second, .val (.int (6 : Int32)), .val (.int (0 : Int32))] [(.long q2), (.long x0)])) _
    refine XS.lcmp X0.here hx rfl (hb hby own_d3_14) rfl ?_
    exact k
  obtain ⟨c1, hv_c1⟩ : ∃ z : Int32, z = (if q2 < x0 then (0 : Int32) else ((0 : Int32) + (1 : Int32))) := ⟨_, rfl⟩
  have g5 : ∀ t, Steps p.tables e below (s₁.setTop (mkF m 21 #[.val (.ref a1), .val (.long q2), .second, .val (.int (6 : Int32)), .val (.int c1)] [])) t → Steps p.tables e below (s₁.setTop (entryFrame m #[(.ref a1), (.long q2)] 5)) t := by
    intro t k
    by_cases hc4 : q2 < x0
    · rw [if_pos hc4] at hv_c1; rw [hv_c1] at k
      refine g3 t ?_
      show Steps p.tables e below (s₁.setTop (mkF m 15 #[.val (.ref a1), .val (.long q2), .second, .val (.int (6 : Int32)), .val (.int (0 : Int32))] [(.int (lcmpW x0 q2))])) _
      refine XS.ifYes X0.here hx rfl (pc0 := 15) (pc' := 21) rfl (hb hby own_d3_15) rfl ((if0 _ _).trans (tlt ((lw_gt _ _).mpr hc4)).2.2.1) (by decide) (by decide) ?_
      exact k
    · rw [if_neg hc4] at hv_c1; rw [hv_c1] at k
      refine g3 t ?_
      show Steps p.tables e below (s₁.setTop (mkF m 15 #[.val (.ref a1), .val (.long q2), .second, .val (.int (6 : Int32)), .val (.int (0 : Int32))] [(.int (lcmpW x0 q2))])) _
      refine XS.ifNo X0.here hx rfl (hb hby own_d3_15) rfl ((if0 _ _).trans (flt (fun q => hc4 ((lw_gt _ _).mp q))).2.2.1) ?_
      show Steps p.tables e below (s₁.setTop (mkF m 18 #[.val (.ref a1), .val (.long q2), .second, .val (.int (6 : Int32)), .val (.int (0 : Int32))] [])) _
      refine XS.iinc X0.here hx rfl (hb hby own_d3_18) rfl (l' := #[.val (.ref a1), .val (.long q2), .second, .val (.int (6 : Int32)), .val (.int ((0 : Int32) + (1 : Int32)))]) rfl ?_
      exact k
  obtain ⟨c6, Ar6, cq6, S6, Nn6, Hh6, Gg6⟩ := id Va
  have hin6 : ¬ ((1 : Int32) < 0 ∨ c6.slots.size ≤ ((1 : Int32)).toNatClampNeg) := inb_of S6 ⟨by decide, by decide⟩
  have hat6 : c6.slots[((1 : Int32)).toNatClampNeg]? = some (.long x1) := Has.at Hh6 hin6 rfl
  have g7 : ∀ t, Steps p.tables e below (s₁.setTop (mkF m 31 #[.val (.ref a1), .val (.long q2), .second, .val (.int (6 : Int32)), .val (.int c1)] [(.int (lcmpW x1 q2))])) t → Steps p.tables e below (s₁.setTop (entryFrame m #[(.ref a1), (.long q2)] 5)) t := by
    intro t k
    refine g5 t ?_
    show Steps p.tables e below (s₁.setTop (mkF m 21 #[.val (.ref a1), .val (.long q2), .second, .val (.int (6 : Int32)), .val (.int c1)] [])) _
    refine XS.iloadN X0.here hx rfl (hb hby own_d3_21) rfl ?_
    show Steps p.tables e below (s₁.setTop (mkF m 22 #[.val (.ref a1), .val (.long q2), .second, .val (.int (6 : Int32)), .val (.int c1)] [(.int (6 : Int32))])) _
    refine XS.iconst X0.here hx rfl (hb hby own_d3_22) ?_
    show Steps p.tables e below (s₁.setTop (mkF m 23 #[.val (.ref a1), .val (.long q2), .second, .val (.int (6 : Int32)), .val (.int c1)] [(.int (1 : Int32)), (.int (6 : Int32))])) _
    refine XS.icmpNo X0.here hx rfl (hb hby own_d3_23) rfl (tlt (by decide : (1 : Int32) < (6 : Int32))).2.2.2 ?_
    show Steps p.tables e below (s₁.setTop (mkF m 26 #[.val (.ref a1), .val (.long q2), .second, .val (.int (6 : Int32)), .val (.int c1)] [])) _
    refine XS.aloadN X0.here hx rfl (hb hby own_d3_26) rfl rfl ?_
    show Steps p.tables e below (s₁.setTop (mkF m 27 #[.val (.ref a1), .val (.long q2), .second, .val (.int (6 : Int32)), .val (.int c1)] [(.ref a1)])) _
    refine XS.iconst X0.here hx rfl (hb hby own_d3_27) ?_
    show Steps p.tables e below (s₁.setTop (mkF m 28 #[.val (.ref a1), .val (.long q2), .second, .val (.int (6 : Int32)), .val (.int c1)] [(.int (1 : Int32)), (.ref a1)])) _
    refine X0.laload hx (j := (1 : Int32)) (v := (.long x1)) (by rw [e0]; exact Ar6.1) (State.isArrayOf_alike hZ.alike Ar6.2.1) Ar6.2.2 hin6 hat6 (g := (mkF m 28 #[.val (.ref a1), .val (.long q2), .second, .val (.int (6 : Int32)), .val (.int c1)] [(.int (1 : Int32)), (.ref a1)])) rfl rfl (hb hby own_d3_28) _ ?_
    show Steps p.tables e below (s₁.setTop (mkF m 29 #[.val (.ref a1), .val (.long q2), .second, .val (.int (6 : Int32)), .val (.int c1)] [(.long x1)])) _
    refine XS.lloadN X0.here hx rfl (hb hby own_d3_29) rfl ?_
    show Steps p.tables e below (s₁.setTop (mkF m 30 #[.val (.ref a1), .val (.long q2), .second, .val (.int (6 : Int32)), .val (.int c1)] [(.long q2), (.long x1)])) _
    refine XS.lcmp X0.here hx rfl (hb hby own_d3_30) rfl ?_
    exact k
  obtain ⟨c2, hv_c2⟩ : ∃ z : Int32, z = (if q2 < x1 then c1 else (c1 + (1 : Int32))) := ⟨_, rfl⟩
  have g9 : ∀ t, Steps p.tables e below (s₁.setTop (mkF m 37 #[.val (.ref a1), .val (.long q2), .second, .val (.int (6 : Int32)), .val (.int c2)] [])) t → Steps p.tables e below (s₁.setTop (entryFrame m #[(.ref a1), (.long q2)] 5)) t := by
    intro t k
    by_cases hc8 : q2 < x1
    · rw [if_pos hc8] at hv_c2; rw [hv_c2] at k
      refine g7 t ?_
      show Steps p.tables e below (s₁.setTop (mkF m 31 #[.val (.ref a1), .val (.long q2), .second, .val (.int (6 : Int32)), .val (.int c1)] [(.int (lcmpW x1 q2))])) _
      refine XS.ifYes X0.here hx rfl (pc0 := 31) (pc' := 37) rfl (hb hby own_d3_31) rfl ((if0 _ _).trans (tlt ((lw_gt _ _).mpr hc8)).2.2.1) (by decide) (by decide) ?_
      exact k
    · rw [if_neg hc8] at hv_c2; rw [hv_c2] at k
      refine g7 t ?_
      show Steps p.tables e below (s₁.setTop (mkF m 31 #[.val (.ref a1), .val (.long q2), .second, .val (.int (6 : Int32)), .val (.int c1)] [(.int (lcmpW x1 q2))])) _
      refine XS.ifNo X0.here hx rfl (hb hby own_d3_31) rfl ((if0 _ _).trans (flt (fun q => hc8 ((lw_gt _ _).mp q))).2.2.1) ?_
      show Steps p.tables e below (s₁.setTop (mkF m 34 #[.val (.ref a1), .val (.long q2), .second, .val (.int (6 : Int32)), .val (.int c1)] [])) _
      refine XS.iinc X0.here hx rfl (hb hby own_d3_34) rfl (l' := #[.val (.ref a1), .val (.long q2), .second, .val (.int (6 : Int32)), .val (.int (c1 + (1 : Int32)))]) rfl ?_
      exact k
  obtain ⟨c10, Ar10, cq10, S10, Nn10, Hh10, Gg10⟩ := id Va
  have hin10 : ¬ ((2 : Int32) < 0 ∨ c10.slots.size ≤ ((2 : Int32)).toNatClampNeg) := inb_of S10 ⟨by decide, by decide⟩
  have hat10 : c10.slots[((2 : Int32)).toNatClampNeg]? = some (.long x2) := Has.at Hh10 hin10 rfl
  have g11 : ∀ t, Steps p.tables e below (s₁.setTop (mkF m 47 #[.val (.ref a1), .val (.long q2), .second, .val (.int (6 : Int32)), .val (.int c2)] [(.int (lcmpW x2 q2))])) t → Steps p.tables e below (s₁.setTop (entryFrame m #[(.ref a1), (.long q2)] 5)) t := by
    intro t k
    refine g9 t ?_
    show Steps p.tables e below (s₁.setTop (mkF m 37 #[.val (.ref a1), .val (.long q2), .second, .val (.int (6 : Int32)), .val (.int c2)] [])) _
    refine XS.iloadN X0.here hx rfl (hb hby own_d3_37) rfl ?_
    show Steps p.tables e below (s₁.setTop (mkF m 38 #[.val (.ref a1), .val (.long q2), .second, .val (.int (6 : Int32)), .val (.int c2)] [(.int (6 : Int32))])) _
    refine XS.iconst X0.here hx rfl (hb hby own_d3_38) ?_
    show Steps p.tables e below (s₁.setTop (mkF m 39 #[.val (.ref a1), .val (.long q2), .second, .val (.int (6 : Int32)), .val (.int c2)] [(.int (2 : Int32)), (.int (6 : Int32))])) _
    refine XS.icmpNo X0.here hx rfl (hb hby own_d3_39) rfl (tlt (by decide : (2 : Int32) < (6 : Int32))).2.2.2 ?_
    show Steps p.tables e below (s₁.setTop (mkF m 42 #[.val (.ref a1), .val (.long q2), .second, .val (.int (6 : Int32)), .val (.int c2)] [])) _
    refine XS.aloadN X0.here hx rfl (hb hby own_d3_42) rfl rfl ?_
    show Steps p.tables e below (s₁.setTop (mkF m 43 #[.val (.ref a1), .val (.long q2), .second, .val (.int (6 : Int32)), .val (.int c2)] [(.ref a1)])) _
    refine XS.iconst X0.here hx rfl (hb hby own_d3_43) ?_
    show Steps p.tables e below (s₁.setTop (mkF m 44 #[.val (.ref a1), .val (.long q2), .second, .val (.int (6 : Int32)), .val (.int c2)] [(.int (2 : Int32)), (.ref a1)])) _
    refine X0.laload hx (j := (2 : Int32)) (v := (.long x2)) (by rw [e0]; exact Ar10.1) (State.isArrayOf_alike hZ.alike Ar10.2.1) Ar10.2.2 hin10 hat10 (g := (mkF m 44 #[.val (.ref a1), .val (.long q2), .second, .val (.int (6 : Int32)), .val (.int c2)] [(.int (2 : Int32)), (.ref a1)])) rfl rfl (hb hby own_d3_44) _ ?_
    show Steps p.tables e below (s₁.setTop (mkF m 45 #[.val (.ref a1), .val (.long q2), .second, .val (.int (6 : Int32)), .val (.int c2)] [(.long x2)])) _
    refine XS.lloadN X0.here hx rfl (hb hby own_d3_45) rfl ?_
    show Steps p.tables e below (s₁.setTop (mkF m 46 #[.val (.ref a1), .val (.long q2), .second, .val (.int (6 : Int32)), .val (.int c2)] [(.long q2), (.long x2)])) _
    refine XS.lcmp X0.here hx rfl (hb hby own_d3_46) rfl ?_
    exact k
  obtain ⟨c3, hv_c3⟩ : ∃ z : Int32, z = (if q2 < x2 then c2 else (c2 + (1 : Int32))) := ⟨_, rfl⟩
  have g13 : ∀ t, Steps p.tables e below (s₁.setTop (mkF m 53 #[.val (.ref a1), .val (.long q2), .second, .val (.int (6 : Int32)), .val (.int c3)] [])) t → Steps p.tables e below (s₁.setTop (entryFrame m #[(.ref a1), (.long q2)] 5)) t := by
    intro t k
    by_cases hc12 : q2 < x2
    · rw [if_pos hc12] at hv_c3; rw [hv_c3] at k
      refine g11 t ?_
      show Steps p.tables e below (s₁.setTop (mkF m 47 #[.val (.ref a1), .val (.long q2), .second, .val (.int (6 : Int32)), .val (.int c2)] [(.int (lcmpW x2 q2))])) _
      refine XS.ifYes X0.here hx rfl (pc0 := 47) (pc' := 53) rfl (hb hby own_d3_47) rfl ((if0 _ _).trans (tlt ((lw_gt _ _).mpr hc12)).2.2.1) (by decide) (by decide) ?_
      exact k
    · rw [if_neg hc12] at hv_c3; rw [hv_c3] at k
      refine g11 t ?_
      show Steps p.tables e below (s₁.setTop (mkF m 47 #[.val (.ref a1), .val (.long q2), .second, .val (.int (6 : Int32)), .val (.int c2)] [(.int (lcmpW x2 q2))])) _
      refine XS.ifNo X0.here hx rfl (hb hby own_d3_47) rfl ((if0 _ _).trans (flt (fun q => hc12 ((lw_gt _ _).mp q))).2.2.1) ?_
      show Steps p.tables e below (s₁.setTop (mkF m 50 #[.val (.ref a1), .val (.long q2), .second, .val (.int (6 : Int32)), .val (.int c2)] [])) _
      refine XS.iinc X0.here hx rfl (hb hby own_d3_50) rfl (l' := #[.val (.ref a1), .val (.long q2), .second, .val (.int (6 : Int32)), .val (.int (c2 + (1 : Int32)))]) rfl ?_
      exact k
  obtain ⟨c14, Ar14, cq14, S14, Nn14, Hh14, Gg14⟩ := id Va
  have hin14 : ¬ ((3 : Int32) < 0 ∨ c14.slots.size ≤ ((3 : Int32)).toNatClampNeg) := inb_of S14 ⟨by decide, by decide⟩
  have hat14 : c14.slots[((3 : Int32)).toNatClampNeg]? = some (.long x3) := Has.at Hh14 hin14 rfl
  have g15 : ∀ t, Steps p.tables e below (s₁.setTop (mkF m 63 #[.val (.ref a1), .val (.long q2), .second, .val (.int (6 : Int32)), .val (.int c3)] [(.int (lcmpW x3 q2))])) t → Steps p.tables e below (s₁.setTop (entryFrame m #[(.ref a1), (.long q2)] 5)) t := by
    intro t k
    refine g13 t ?_
    show Steps p.tables e below (s₁.setTop (mkF m 53 #[.val (.ref a1), .val (.long q2), .second, .val (.int (6 : Int32)), .val (.int c3)] [])) _
    refine XS.iloadN X0.here hx rfl (hb hby own_d3_53) rfl ?_
    show Steps p.tables e below (s₁.setTop (mkF m 54 #[.val (.ref a1), .val (.long q2), .second, .val (.int (6 : Int32)), .val (.int c3)] [(.int (6 : Int32))])) _
    refine XS.iconst X0.here hx rfl (hb hby own_d3_54) ?_
    show Steps p.tables e below (s₁.setTop (mkF m 55 #[.val (.ref a1), .val (.long q2), .second, .val (.int (6 : Int32)), .val (.int c3)] [(.int (3 : Int32)), (.int (6 : Int32))])) _
    refine XS.icmpNo X0.here hx rfl (hb hby own_d3_55) rfl (tlt (by decide : (3 : Int32) < (6 : Int32))).2.2.2 ?_
    show Steps p.tables e below (s₁.setTop (mkF m 58 #[.val (.ref a1), .val (.long q2), .second, .val (.int (6 : Int32)), .val (.int c3)] [])) _
    refine XS.aloadN X0.here hx rfl (hb hby own_d3_58) rfl rfl ?_
    show Steps p.tables e below (s₁.setTop (mkF m 59 #[.val (.ref a1), .val (.long q2), .second, .val (.int (6 : Int32)), .val (.int c3)] [(.ref a1)])) _
    refine XS.iconst X0.here hx rfl (hb hby own_d3_59) ?_
    show Steps p.tables e below (s₁.setTop (mkF m 60 #[.val (.ref a1), .val (.long q2), .second, .val (.int (6 : Int32)), .val (.int c3)] [(.int (3 : Int32)), (.ref a1)])) _
    refine X0.laload hx (j := (3 : Int32)) (v := (.long x3)) (by rw [e0]; exact Ar14.1) (State.isArrayOf_alike hZ.alike Ar14.2.1) Ar14.2.2 hin14 hat14 (g := (mkF m 60 #[.val (.ref a1), .val (.long q2), .second, .val (.int (6 : Int32)), .val (.int c3)] [(.int (3 : Int32)), (.ref a1)])) rfl rfl (hb hby own_d3_60) _ ?_
    show Steps p.tables e below (s₁.setTop (mkF m 61 #[.val (.ref a1), .val (.long q2), .second, .val (.int (6 : Int32)), .val (.int c3)] [(.long x3)])) _
    refine XS.lloadN X0.here hx rfl (hb hby own_d3_61) rfl ?_
    show Steps p.tables e below (s₁.setTop (mkF m 62 #[.val (.ref a1), .val (.long q2), .second, .val (.int (6 : Int32)), .val (.int c3)] [(.long q2), (.long x3)])) _
    refine XS.lcmp X0.here hx rfl (hb hby own_d3_62) rfl ?_
    exact k
  obtain ⟨c4, hv_c4⟩ : ∃ z : Int32, z = (if q2 < x3 then c3 else (c3 + (1 : Int32))) := ⟨_, rfl⟩
  have g17 : ∀ t, Steps p.tables e below (s₁.setTop (mkF m 69 #[.val (.ref a1), .val (.long q2), .second, .val (.int (6 : Int32)), .val (.int c4)] [])) t → Steps p.tables e below (s₁.setTop (entryFrame m #[(.ref a1), (.long q2)] 5)) t := by
    intro t k
    by_cases hc16 : q2 < x3
    · rw [if_pos hc16] at hv_c4; rw [hv_c4] at k
      refine g15 t ?_
      show Steps p.tables e below (s₁.setTop (mkF m 63 #[.val (.ref a1), .val (.long q2), .second, .val (.int (6 : Int32)), .val (.int c3)] [(.int (lcmpW x3 q2))])) _
      refine XS.ifYes X0.here hx rfl (pc0 := 63) (pc' := 69) rfl (hb hby own_d3_63) rfl ((if0 _ _).trans (tlt ((lw_gt _ _).mpr hc16)).2.2.1) (by decide) (by decide) ?_
      exact k
    · rw [if_neg hc16] at hv_c4; rw [hv_c4] at k
      refine g15 t ?_
      show Steps p.tables e below (s₁.setTop (mkF m 63 #[.val (.ref a1), .val (.long q2), .second, .val (.int (6 : Int32)), .val (.int c3)] [(.int (lcmpW x3 q2))])) _
      refine XS.ifNo X0.here hx rfl (hb hby own_d3_63) rfl ((if0 _ _).trans (flt (fun q => hc16 ((lw_gt _ _).mp q))).2.2.1) ?_
      show Steps p.tables e below (s₁.setTop (mkF m 66 #[.val (.ref a1), .val (.long q2), .second, .val (.int (6 : Int32)), .val (.int c3)] [])) _
      refine XS.iinc X0.here hx rfl (hb hby own_d3_66) rfl (l' := #[.val (.ref a1), .val (.long q2), .second, .val (.int (6 : Int32)), .val (.int (c3 + (1 : Int32)))]) rfl ?_
      exact k
  obtain ⟨c18, Ar18, cq18, S18, Nn18, Hh18, Gg18⟩ := id Va
  have hin18 : ¬ ((4 : Int32) < 0 ∨ c18.slots.size ≤ ((4 : Int32)).toNatClampNeg) := inb_of S18 ⟨by decide, by decide⟩
  have hat18 : c18.slots[((4 : Int32)).toNatClampNeg]? = some (.long x4) := Has.at Hh18 hin18 rfl
  have g19 : ∀ t, Steps p.tables e below (s₁.setTop (mkF m 79 #[.val (.ref a1), .val (.long q2), .second, .val (.int (6 : Int32)), .val (.int c4)] [(.int (lcmpW x4 q2))])) t → Steps p.tables e below (s₁.setTop (entryFrame m #[(.ref a1), (.long q2)] 5)) t := by
    intro t k
    refine g17 t ?_
    show Steps p.tables e below (s₁.setTop (mkF m 69 #[.val (.ref a1), .val (.long q2), .second, .val (.int (6 : Int32)), .val (.int c4)] [])) _
    refine XS.iloadN X0.here hx rfl (hb hby own_d3_69) rfl ?_
    show Steps p.tables e below (s₁.setTop (mkF m 70 #[.val (.ref a1), .val (.long q2), .second, .val (.int (6 : Int32)), .val (.int c4)] [(.int (6 : Int32))])) _
    refine XS.iconst X0.here hx rfl (hb hby own_d3_70) ?_
    show Steps p.tables e below (s₁.setTop (mkF m 71 #[.val (.ref a1), .val (.long q2), .second, .val (.int (6 : Int32)), .val (.int c4)] [(.int (4 : Int32)), (.int (6 : Int32))])) _
    refine XS.icmpNo X0.here hx rfl (hb hby own_d3_71) rfl (tlt (by decide : (4 : Int32) < (6 : Int32))).2.2.2 ?_
    show Steps p.tables e below (s₁.setTop (mkF m 74 #[.val (.ref a1), .val (.long q2), .second, .val (.int (6 : Int32)), .val (.int c4)] [])) _
    refine XS.aloadN X0.here hx rfl (hb hby own_d3_74) rfl rfl ?_
    show Steps p.tables e below (s₁.setTop (mkF m 75 #[.val (.ref a1), .val (.long q2), .second, .val (.int (6 : Int32)), .val (.int c4)] [(.ref a1)])) _
    refine XS.iconst X0.here hx rfl (hb hby own_d3_75) ?_
    show Steps p.tables e below (s₁.setTop (mkF m 76 #[.val (.ref a1), .val (.long q2), .second, .val (.int (6 : Int32)), .val (.int c4)] [(.int (4 : Int32)), (.ref a1)])) _
    refine X0.laload hx (j := (4 : Int32)) (v := (.long x4)) (by rw [e0]; exact Ar18.1) (State.isArrayOf_alike hZ.alike Ar18.2.1) Ar18.2.2 hin18 hat18 (g := (mkF m 76 #[.val (.ref a1), .val (.long q2), .second, .val (.int (6 : Int32)), .val (.int c4)] [(.int (4 : Int32)), (.ref a1)])) rfl rfl (hb hby own_d3_76) _ ?_
    show Steps p.tables e below (s₁.setTop (mkF m 77 #[.val (.ref a1), .val (.long q2), .second, .val (.int (6 : Int32)), .val (.int c4)] [(.long x4)])) _
    refine XS.lloadN X0.here hx rfl (hb hby own_d3_77) rfl ?_
    show Steps p.tables e below (s₁.setTop (mkF m 78 #[.val (.ref a1), .val (.long q2), .second, .val (.int (6 : Int32)), .val (.int c4)] [(.long q2), (.long x4)])) _
    refine XS.lcmp X0.here hx rfl (hb hby own_d3_78) rfl ?_
    exact k
  obtain ⟨c5, hv_c5⟩ : ∃ z : Int32, z = (if q2 < x4 then c4 else (c4 + (1 : Int32))) := ⟨_, rfl⟩
  have g21 : ∀ t, Steps p.tables e below (s₁.setTop (mkF m 85 #[.val (.ref a1), .val (.long q2), .second, .val (.int (6 : Int32)), .val (.int c5)] [])) t → Steps p.tables e below (s₁.setTop (entryFrame m #[(.ref a1), (.long q2)] 5)) t := by
    intro t k
    by_cases hc20 : q2 < x4
    · rw [if_pos hc20] at hv_c5; rw [hv_c5] at k
      refine g19 t ?_
      show Steps p.tables e below (s₁.setTop (mkF m 79 #[.val (.ref a1), .val (.long q2), .second, .val (.int (6 : Int32)), .val (.int c4)] [(.int (lcmpW x4 q2))])) _
      refine XS.ifYes X0.here hx rfl (pc0 := 79) (pc' := 85) rfl (hb hby own_d3_79) rfl ((if0 _ _).trans (tlt ((lw_gt _ _).mpr hc20)).2.2.1) (by decide) (by decide) ?_
      exact k
    · rw [if_neg hc20] at hv_c5; rw [hv_c5] at k
      refine g19 t ?_
      show Steps p.tables e below (s₁.setTop (mkF m 79 #[.val (.ref a1), .val (.long q2), .second, .val (.int (6 : Int32)), .val (.int c4)] [(.int (lcmpW x4 q2))])) _
      refine XS.ifNo X0.here hx rfl (hb hby own_d3_79) rfl ((if0 _ _).trans (flt (fun q => hc20 ((lw_gt _ _).mp q))).2.2.1) ?_
      show Steps p.tables e below (s₁.setTop (mkF m 82 #[.val (.ref a1), .val (.long q2), .second, .val (.int (6 : Int32)), .val (.int c4)] [])) _
      refine XS.iinc X0.here hx rfl (hb hby own_d3_82) rfl (l' := #[.val (.ref a1), .val (.long q2), .second, .val (.int (6 : Int32)), .val (.int (c4 + (1 : Int32)))]) rfl ?_
      exact k
  obtain ⟨c22, Ar22, cq22, S22, Nn22, Hh22, Gg22⟩ := id Va
  have hin22 : ¬ ((5 : Int32) < 0 ∨ c22.slots.size ≤ ((5 : Int32)).toNatClampNeg) := inb_of S22 ⟨by decide, by decide⟩
  have hat22 : c22.slots[((5 : Int32)).toNatClampNeg]? = some (.long x5) := Has.at Hh22 hin22 rfl
  have g23 : ∀ t, Steps p.tables e below (s₁.setTop (mkF m 95 #[.val (.ref a1), .val (.long q2), .second, .val (.int (6 : Int32)), .val (.int c5)] [(.int (lcmpW x5 q2))])) t → Steps p.tables e below (s₁.setTop (entryFrame m #[(.ref a1), (.long q2)] 5)) t := by
    intro t k
    refine g21 t ?_
    show Steps p.tables e below (s₁.setTop (mkF m 85 #[.val (.ref a1), .val (.long q2), .second, .val (.int (6 : Int32)), .val (.int c5)] [])) _
    refine XS.iloadN X0.here hx rfl (hb hby own_d3_85) rfl ?_
    show Steps p.tables e below (s₁.setTop (mkF m 86 #[.val (.ref a1), .val (.long q2), .second, .val (.int (6 : Int32)), .val (.int c5)] [(.int (6 : Int32))])) _
    refine XS.iconst X0.here hx rfl (hb hby own_d3_86) ?_
    show Steps p.tables e below (s₁.setTop (mkF m 87 #[.val (.ref a1), .val (.long q2), .second, .val (.int (6 : Int32)), .val (.int c5)] [(.int (5 : Int32)), (.int (6 : Int32))])) _
    refine XS.icmpNo X0.here hx rfl (hb hby own_d3_87) rfl (tlt (by decide : (5 : Int32) < (6 : Int32))).2.2.2 ?_
    show Steps p.tables e below (s₁.setTop (mkF m 90 #[.val (.ref a1), .val (.long q2), .second, .val (.int (6 : Int32)), .val (.int c5)] [])) _
    refine XS.aloadN X0.here hx rfl (hb hby own_d3_90) rfl rfl ?_
    show Steps p.tables e below (s₁.setTop (mkF m 91 #[.val (.ref a1), .val (.long q2), .second, .val (.int (6 : Int32)), .val (.int c5)] [(.ref a1)])) _
    refine XS.iconst X0.here hx rfl (hb hby own_d3_91) ?_
    show Steps p.tables e below (s₁.setTop (mkF m 92 #[.val (.ref a1), .val (.long q2), .second, .val (.int (6 : Int32)), .val (.int c5)] [(.int (5 : Int32)), (.ref a1)])) _
    refine X0.laload hx (j := (5 : Int32)) (v := (.long x5)) (by rw [e0]; exact Ar22.1) (State.isArrayOf_alike hZ.alike Ar22.2.1) Ar22.2.2 hin22 hat22 (g := (mkF m 92 #[.val (.ref a1), .val (.long q2), .second, .val (.int (6 : Int32)), .val (.int c5)] [(.int (5 : Int32)), (.ref a1)])) rfl rfl (hb hby own_d3_92) _ ?_
    show Steps p.tables e below (s₁.setTop (mkF m 93 #[.val (.ref a1), .val (.long q2), .second, .val (.int (6 : Int32)), .val (.int c5)] [(.long x5)])) _
    refine XS.lloadN X0.here hx rfl (hb hby own_d3_93) rfl ?_
    show Steps p.tables e below (s₁.setTop (mkF m 94 #[.val (.ref a1), .val (.long q2), .second, .val (.int (6 : Int32)), .val (.int c5)] [(.long q2), (.long x5)])) _
    refine XS.lcmp X0.here hx rfl (hb hby own_d3_94) rfl ?_
    exact k
  obtain ⟨c6, hv_c6⟩ : ∃ z : Int32, z = (if q2 < x5 then c5 else (c5 + (1 : Int32))) := ⟨_, rfl⟩
  have g25 : ∀ t, Steps p.tables e below (s₁.setTop (mkF m 101 #[.val (.ref a1), .val (.long q2), .second, .val (.int (6 : Int32)), .val (.int c6)] [])) t → Steps p.tables e below (s₁.setTop (entryFrame m #[(.ref a1), (.long q2)] 5)) t := by
    intro t k
    by_cases hc24 : q2 < x5
    · rw [if_pos hc24] at hv_c6; rw [hv_c6] at k
      refine g23 t ?_
      show Steps p.tables e below (s₁.setTop (mkF m 95 #[.val (.ref a1), .val (.long q2), .second, .val (.int (6 : Int32)), .val (.int c5)] [(.int (lcmpW x5 q2))])) _
      refine XS.ifYes X0.here hx rfl (pc0 := 95) (pc' := 101) rfl (hb hby own_d3_95) rfl ((if0 _ _).trans (tlt ((lw_gt _ _).mpr hc24)).2.2.1) (by decide) (by decide) ?_
      exact k
    · rw [if_neg hc24] at hv_c6; rw [hv_c6] at k
      refine g23 t ?_
      show Steps p.tables e below (s₁.setTop (mkF m 95 #[.val (.ref a1), .val (.long q2), .second, .val (.int (6 : Int32)), .val (.int c5)] [(.int (lcmpW x5 q2))])) _
      refine XS.ifNo X0.here hx rfl (hb hby own_d3_95) rfl ((if0 _ _).trans (flt (fun q => hc24 ((lw_gt _ _).mp q))).2.2.1) ?_
      show Steps p.tables e below (s₁.setTop (mkF m 98 #[.val (.ref a1), .val (.long q2), .second, .val (.int (6 : Int32)), .val (.int c5)] [])) _
      refine XS.iinc X0.here hx rfl (hb hby own_d3_98) rfl (l' := #[.val (.ref a1), .val (.long q2), .second, .val (.int (6 : Int32)), .val (.int (c5 + (1 : Int32)))]) rfl ?_
      exact k
  have g26 : ∀ t, Steps p.tables e below (s₁.setTop (mkF m 139 #[.val (.ref a1), .val (.long q2), .second, .val (.int (6 : Int32)), .val (.int c6)] [(.int c6)])) t → Steps p.tables e below (s₁.setTop (entryFrame m #[(.ref a1), (.long q2)] 5)) t := by
    intro t k
    refine g25 t ?_
    show Steps p.tables e below (s₁.setTop (mkF m 101 #[.val (.ref a1), .val (.long q2), .second, .val (.int (6 : Int32)), .val (.int c6)] [])) _
    refine XS.iloadN X0.here hx rfl (hb hby own_d3_101) rfl ?_
    show Steps p.tables e below (s₁.setTop (mkF m 102 #[.val (.ref a1), .val (.long q2), .second, .val (.int (6 : Int32)), .val (.int c6)] [(.int (6 : Int32))])) _
    refine XS.bipush X0.here hx rfl (hb hby own_d3_102) ?_
    show Steps p.tables e below (s₁.setTop (mkF m 104 #[.val (.ref a1), .val (.long q2), .second, .val (.int (6 : Int32)), .val (.int c6)] [(.int (6 : Int32)), (.int (6 : Int32))])) _
    refine XS.icmpYes X0.here hx rfl (pc0 := 104) (pc' := 119) rfl (hb hby own_d3_104) rfl (flt (by decide : ¬ ((6 : Int32) < (6 : Int32)))).2.2.2 (by decide) (by decide) ?_
    show Steps p.tables e below (s₁.setTop (mkF m 119 #[.val (.ref a1), .val (.long q2), .second, .val (.int (6 : Int32)), .val (.int c6)] [])) _
    refine XS.iloadN X0.here hx rfl (hb hby own_d3_119) rfl ?_
    show Steps p.tables e below (s₁.setTop (mkF m 120 #[.val (.ref a1), .val (.long q2), .second, .val (.int (6 : Int32)), .val (.int c6)] [(.int (6 : Int32))])) _
    refine XS.bipush X0.here hx rfl (hb hby own_d3_120) ?_
    show Steps p.tables e below (s₁.setTop (mkF m 122 #[.val (.ref a1), .val (.long q2), .second, .val (.int (6 : Int32)), .val (.int c6)] [(.int (7 : Int32)), (.int (6 : Int32))])) _
    refine XS.icmpYes X0.here hx rfl (pc0 := 122) (pc' := 137) rfl (hb hby own_d3_122) rfl (flt (by decide : ¬ ((7 : Int32) < (6 : Int32)))).2.2.2 (by decide) (by decide) ?_
    show Steps p.tables e below (s₁.setTop (mkF m 137 #[.val (.ref a1), .val (.long q2), .second, .val (.int (6 : Int32)), .val (.int c6)] [])) _
    refine XS.iload X0.here hx rfl (hb hby own_d3_137) rfl ?_
    exact k
  obtain ⟨fs, hrt, hrun, hended, hW, hsame⟩ := X0.leave (v := some (.int c6)) (fun h => by rw [Bd.returns] at h; cases h)
  refine ⟨_, _, g26 _ ?_, hrun, hended, _, _, rfl, ?_, ⟨_, rfl⟩, hW, hsame.mono (by decide) (by decide)⟩
  · show Steps p.tables e below (s₁.setTop (mkF m 139 #[.val (.ref a1), .val (.long q2), .second, .val (.int (6 : Int32)), .val (.int c6)] [(.int c6)])) _
    exact retI X0 hx Bd.returns (hb hby own_d3_139) hrt
  · show own_Q_rmcountLe6 Z a1 ka x0 x1 x2 x3 x4 x5 q2 r h0 n0 _ s₁.heap _
    rw [e0]
    exact ⟨by rw [← hr]; subst hv_c1; subst hv_c2; subst hv_c3; subst hv_c4; subst hv_c5; subst hv_c6; rfl, N0, rfl⟩
theorem own_ef19 (m : MethodId) (x0 : Addr) (x1 : Int64) : entryFrame m #[(.ref x0), (.long x1)] 5 = mkF m 0 #[.val (.ref x0), .val (.long x1), .second, .unset, .unset] [] := by first | (simp [entryFrame, mkF, argsToLocals, Value.category]; done) | rfl
theorem own_d4_90 : decode method_4_code 90 = .ok (.aload_n 0, 1) := by decide +kernel
theorem own_d4_91 : decode method_4_code 91 = .ok (.iconst 5, 1) := by decide +kernel
theorem own_d4_92 : decode method_4_code 92 = .ok (.laload, 1) := by decide +kernel
theorem own_d4_93 : decode method_4_code 93 = .ok (.lload_n 1, 1) := by decide +kernel
theorem own_d4_94 : decode method_4_code 94 = .ok (.lcmp, 1) := by decide +kernel
theorem own_d4_95 : decode method_4_code 95 = .ok (.ifCond .ge 6, 3) := by decide +kernel
theorem own_d4_98 : decode method_4_code 98 = .ok (.iinc 4 1, 3) := by decide +kernel
def own_Q_rmcountLt6 (Z : State) (a1 : Addr) (ka : ClassId) (x0 x1 x2 x3 x4 x5 q2 : Int64) (r : Int32) (h0 : Heap) (n0 : Nat) (v : Option Value) (h : Heap) (L : List Loc) : Prop := v = some (.int r) ∧ Fr n0 L ∧ h = h0
set_option maxRecDepth 65536 in
set_option maxHeartbeats 40000000 in
theorem rmcountLt6 (l : Launch) (Z : State) (a0 : Array Value) (hw : ∀ d ∈ tables_1, d.before a0 Z = true) (ws : List Jvm.Cond) (a1 : Addr) (ka : ClassId) (x0 x1 x2 x3 x4 x5 q2 : Int64) (r : Int32) (h0 : Heap) (n0 : Nat) (O0 : Old Z n0 h0) (Va : Arv Z h0 a1 ka .long (6 : Int32) [(.long x0), (.long x1), (.long x2), (.long x3), (.long x4), (.long x5)] (.long (0 : Int64))) (hr : own_clt q2 [x0, x1, x2, x3, x4, x5] 0 = r) :
    MetFree l (⟨"orderwire/bench/LatencyPercentilePinLaw", "countLt", "([JJ)I"⟩ : MethodName) (head1 (Jvm.Cond.code (⟨"orderwire/bench/LatencyPercentilePinLaw", "countLt", "([JJ)I"⟩ : MethodName) method_4_code 5 (some .int) :: ws) ({ frames := 0, cells := 0, slots := 0, locals := 0 } : Room)) (fun a U => a = #[(.ref a1), (.long q2)] ∧ Z.Warmed39 U.vm ∧ U.heap = h0) (fun _ _ _ _ _ => True) (fun _ U o U' => ∃ v L, o = .returned v ∧ own_Q_rmcountLt6 Z a1 ka x0 x1 x2 x3 x4 x5 q2 r h0 n0 v U'.heap L ∧ FrameEnd U o U' L ({ frames := 0, cells := 0, slots := 0, locals := 0 } : Room).cells ({ frames := 0, cells := 0, slots := 0, locals := 0 } : Room).slots) := by
  refine MetFree.of_bodySF (plainFor_of_name own_pn1) hisR ?_
  intro p e s m args below meth c s₁ Bd hml0 hP hK
  obtain ⟨rfl, hZ, hh⟩ := hP
  have hx := Bd.exec
  have hby := Bd.bytes
  have hml : c.maxLocals = 5 := hml0
  have hown : s.vm.findClass "orderwire/bench/LatencyPercentilePinLaw" = some m.cls := findClass_of_methodNamed Bd.named
  have hnm := (name_of_methodNamed Bd.named Bd.method).1
  have X0 : Stand p l e ({ frames := 0, cells := 0, slots := 0, locals := 0 } : Room) s m #[(.ref a1), (.long q2)] below meth c s₁ [] 0 0 := Stand.of_body Bd
  have e0 : s₁.heap = h0 := by rw [← hh, Bd.state]; rfl
  have N0 := Fr.nil n0
  have Z0 : n0 ≤ h0.size := O0.1 ▸ O0.2.1
  have g0 : ∀ t, Steps p.tables e below (s₁.setTop (mkF m 0 #[.val (.ref a1), .val (.long q2), .second, .unset, .unset] [])) t → Steps p.tables e below (s₁.setTop (entryFrame m #[(.ref a1), (.long q2)] 5)) t := fun t k => castTop (own_ef19 m (a1) (q2)) k
  obtain ⟨c1, Ar1, cq1, S1, Nn1, Hh1, Gg1⟩ := id Va
  obtain ⟨c2, Ar2, cq2, S2, Nn2, Hh2, Gg2⟩ := id Va
  have hin2 : ¬ ((0 : Int32) < 0 ∨ c2.slots.size ≤ ((0 : Int32)).toNatClampNeg) := inb_of S2 ⟨by decide, by decide⟩
  have hat2 : c2.slots[((0 : Int32)).toNatClampNeg]? = some (.long x0) := Has.at Hh2 hin2 rfl
  have g3 : ∀ t, Steps p.tables e below (s₁.setTop (mkF m 15 #[.val (.ref a1), .val (.long q2), .second, .val (.int (6 : Int32)), .val (.int (0 : Int32))] [(.int (lcmpW x0 q2))])) t → Steps p.tables e below (s₁.setTop (entryFrame m #[(.ref a1), (.long q2)] 5)) t := by
    intro t k
    refine g0 t ?_
    show Steps p.tables e below (s₁.setTop (mkF m 0 #[.val (.ref a1), .val (.long q2), .second, .unset, .unset] [])) _
    refine XS.aloadN X0.here hx rfl (hb hby own_d4_0) rfl rfl ?_
    show Steps p.tables e below (s₁.setTop (mkF m 1 #[.val (.ref a1), .val (.long q2), .second, .unset, .unset] [(.ref a1)])) _
    refine X0.arraylength hx (by rw [e0]; exact Ar1.1) (State.isArrayOf_alike hZ.alike Ar1.2.1) (g := (mkF m 1 #[.val (.ref a1), .val (.long q2), .second, .unset, .unset] [(.ref a1)])) rfl rfl (hb hby own_d4_1) _ ?_
    rw [len_of S1 Nn1]
    show Steps p.tables e below (s₁.setTop (mkF m 2 #[.val (.ref a1), .val (.long q2), .second, .unset, .unset] [(.int (6 : Int32))])) _
    refine XS.istoreN X0.here hx rfl (hb hby own_d4_2) rfl (l' := #[.val (.ref a1), .val (.long q2), .second, .val (.int (6 : Int32)), .unset]) rfl ?_
    show Steps p.tables e below (s₁.setTop (mkF m 3 #[.val (.ref a1), .val (.long q2), .second, .val (.int (6 : Int32)), .unset] [])) _
    refine XS.iconst X0.here hx rfl (hb hby own_d4_3) ?_
    show Steps p.tables e below (s₁.setTop (mkF m 4 #[.val (.ref a1), .val (.long q2), .second, .val (.int (6 : Int32)), .unset] [(.int (0 : Int32))])) _
    refine XS.istore X0.here hx rfl (hb hby own_d4_4) rfl (l' := #[.val (.ref a1), .val (.long q2), .second, .val (.int (6 : Int32)), .val (.int (0 : Int32))]) rfl ?_
    show Steps p.tables e below (s₁.setTop (mkF m 6 #[.val (.ref a1), .val (.long q2), .second, .val (.int (6 : Int32)), .val (.int (0 : Int32))] [])) _
    refine XS.iloadN X0.here hx rfl (hb hby own_d4_6) rfl ?_
    show Steps p.tables e below (s₁.setTop (mkF m 7 #[.val (.ref a1), .val (.long q2), .second, .val (.int (6 : Int32)), .val (.int (0 : Int32))] [(.int (6 : Int32))])) _
    refine XS.ifNo X0.here hx rfl (hb hby own_d4_7) rfl ((if0 _ _).trans (tlt (by decide : (0 : Int32) < (6 : Int32))).2.2.2) ?_
    show Steps p.tables e below (s₁.setTop (mkF m 10 #[.val (.ref a1), .val (.long q2), .second, .val (.int (6 : Int32)), .val (.int (0 : Int32))] [])) _
    refine XS.aloadN X0.here hx rfl (hb hby own_d4_10) rfl rfl ?_
    show Steps p.tables e below (s₁.setTop (mkF m 11 #[.val (.ref a1), .val (.long q2), .second, .val (.int (6 : Int32)), .val (.int (0 : Int32))] [(.ref a1)])) _
    refine XS.iconst X0.here hx rfl (hb hby own_d4_11) ?_
    show Steps p.tables e below (s₁.setTop (mkF m 12 #[.val (.ref a1), .val (.long q2), .second, .val (.int (6 : Int32)), .val (.int (0 : Int32))] [(.int (0 : Int32)), (.ref a1)])) _
    refine X0.laload hx (j := (0 : Int32)) (v := (.long x0)) (by rw [e0]; exact Ar2.1) (State.isArrayOf_alike hZ.alike Ar2.2.1) Ar2.2.2 hin2 hat2 (g := (mkF m 12 #[.val (.ref a1), .val (.long q2), .second, .val (.int (6 : Int32)), .val (.int (0 : Int32))] [(.int (0 : Int32)), (.ref a1)])) rfl rfl (hb hby own_d4_12) _ ?_
    show Steps p.tables e below (s₁.setTop (mkF m 13 #[.val (.ref a1), .val (.long q2), .second, .val (.int (6 : Int32)), .val (.int (0 : Int32))] [(.long x0)])) _
    refine XS.lloadN X0.here hx rfl (hb hby own_d4_13) rfl ?_
    show Steps p.tables e below (s₁.setTop (mkF m 14 #[.val (.ref a1), .val (.long q2), .second, .val (.int (6 : Int32)), .val (.int (0 : Int32))] [(.long q2), (.long x0)])) _
    refine XS.lcmp X0.here hx rfl (hb hby own_d4_14) rfl ?_
    exact k
  obtain ⟨c1, hv_c1⟩ : ∃ z : Int32, z = (if x0 < q2 then ((0 : Int32) + (1 : Int32)) else (0 : Int32)) := ⟨_, rfl⟩
  have g5 : ∀ t, Steps p.tables e below (s₁.setTop (mkF m 21 #[.val (.ref a1), .val (.long q2), .second, .val (.int (6 : Int32)), .val (.int c1)] [])) t → Steps p.tables e below (s₁.setTop (entryFrame m #[(.ref a1), (.long q2)] 5)) t := by
    intro t k
    by_cases hc4 : x0 < q2
    · rw [if_pos hc4] at hv_c1; rw [hv_c1] at k
      refine g3 t ?_
      show Steps p.tables e below (s₁.setTop (mkF m 15 #[.val (.ref a1), .val (.long q2), .second, .val (.int (6 : Int32)), .val (.int (0 : Int32))] [(.int (lcmpW x0 q2))])) _
      refine XS.ifNo X0.here hx rfl (hb hby own_d4_15) rfl ((if0 _ _).trans (tlt ((lw_lt _ _).mpr hc4)).2.1) ?_
      show Steps p.tables e below (s₁.setTop (mkF m 18 #[.val (.ref a1), .val (.long q2), .second, .val (.int (6 : Int32)), .val (.int (0 : Int32))] [])) _
      refine XS.iinc X0.here hx rfl (hb hby own_d4_18) rfl (l' := #[.val (.ref a1), .val (.long q2), .second, .val (.int (6 : Int32)), .val (.int ((0 : Int32) + (1 : Int32)))]) rfl ?_
      exact k
    · rw [if_neg hc4] at hv_c1; rw [hv_c1] at k
      refine g3 t ?_
      show Steps p.tables e below (s₁.setTop (mkF m 15 #[.val (.ref a1), .val (.long q2), .second, .val (.int (6 : Int32)), .val (.int (0 : Int32))] [(.int (lcmpW x0 q2))])) _
      refine XS.ifYes X0.here hx rfl (pc0 := 15) (pc' := 21) rfl (hb hby own_d4_15) rfl ((if0 _ _).trans (flt (fun q => hc4 ((lw_lt _ _).mp q))).2.1) (by decide) (by decide) ?_
      exact k
  obtain ⟨c6, Ar6, cq6, S6, Nn6, Hh6, Gg6⟩ := id Va
  have hin6 : ¬ ((1 : Int32) < 0 ∨ c6.slots.size ≤ ((1 : Int32)).toNatClampNeg) := inb_of S6 ⟨by decide, by decide⟩
  have hat6 : c6.slots[((1 : Int32)).toNatClampNeg]? = some (.long x1) := Has.at Hh6 hin6 rfl
  have g7 : ∀ t, Steps p.tables e below (s₁.setTop (mkF m 31 #[.val (.ref a1), .val (.long q2), .second, .val (.int (6 : Int32)), .val (.int c1)] [(.int (lcmpW x1 q2))])) t → Steps p.tables e below (s₁.setTop (entryFrame m #[(.ref a1), (.long q2)] 5)) t := by
    intro t k
    refine g5 t ?_
    show Steps p.tables e below (s₁.setTop (mkF m 21 #[.val (.ref a1), .val (.long q2), .second, .val (.int (6 : Int32)), .val (.int c1)] [])) _
    refine XS.iloadN X0.here hx rfl (hb hby own_d4_21) rfl ?_
    show Steps p.tables e below (s₁.setTop (mkF m 22 #[.val (.ref a1), .val (.long q2), .second, .val (.int (6 : Int32)), .val (.int c1)] [(.int (6 : Int32))])) _
    refine XS.iconst X0.here hx rfl (hb hby own_d4_22) ?_
    show Steps p.tables e below (s₁.setTop (mkF m 23 #[.val (.ref a1), .val (.long q2), .second, .val (.int (6 : Int32)), .val (.int c1)] [(.int (1 : Int32)), (.int (6 : Int32))])) _
    refine XS.icmpNo X0.here hx rfl (hb hby own_d4_23) rfl (tlt (by decide : (1 : Int32) < (6 : Int32))).2.2.2 ?_
    show Steps p.tables e below (s₁.setTop (mkF m 26 #[.val (.ref a1), .val (.long q2), .second, .val (.int (6 : Int32)), .val (.int c1)] [])) _
    refine XS.aloadN X0.here hx rfl (hb hby own_d4_26) rfl rfl ?_
    show Steps p.tables e below (s₁.setTop (mkF m 27 #[.val (.ref a1), .val (.long q2), .second, .val (.int (6 : Int32)), .val (.int c1)] [(.ref a1)])) _
    refine XS.iconst X0.here hx rfl (hb hby own_d4_27) ?_
    show Steps p.tables e below (s₁.setTop (mkF m 28 #[.val (.ref a1), .val (.long q2), .second, .val (.int (6 : Int32)), .val (.int c1)] [(.int (1 : Int32)), (.ref a1)])) _
    refine X0.laload hx (j := (1 : Int32)) (v := (.long x1)) (by rw [e0]; exact Ar6.1) (State.isArrayOf_alike hZ.alike Ar6.2.1) Ar6.2.2 hin6 hat6 (g := (mkF m 28 #[.val (.ref a1), .val (.long q2), .second, .val (.int (6 : Int32)), .val (.int c1)] [(.int (1 : Int32)), (.ref a1)])) rfl rfl (hb hby own_d4_28) _ ?_
    show Steps p.tables e below (s₁.setTop (mkF m 29 #[.val (.ref a1), .val (.long q2), .second, .val (.int (6 : Int32)), .val (.int c1)] [(.long x1)])) _
    refine XS.lloadN X0.here hx rfl (hb hby own_d4_29) rfl ?_
    show Steps p.tables e below (s₁.setTop (mkF m 30 #[.val (.ref a1), .val (.long q2), .second, .val (.int (6 : Int32)), .val (.int c1)] [(.long q2), (.long x1)])) _
    refine XS.lcmp X0.here hx rfl (hb hby own_d4_30) rfl ?_
    exact k
  obtain ⟨c2, hv_c2⟩ : ∃ z : Int32, z = (if x1 < q2 then (c1 + (1 : Int32)) else c1) := ⟨_, rfl⟩
  have g9 : ∀ t, Steps p.tables e below (s₁.setTop (mkF m 37 #[.val (.ref a1), .val (.long q2), .second, .val (.int (6 : Int32)), .val (.int c2)] [])) t → Steps p.tables e below (s₁.setTop (entryFrame m #[(.ref a1), (.long q2)] 5)) t := by
    intro t k
    by_cases hc8 : x1 < q2
    · rw [if_pos hc8] at hv_c2; rw [hv_c2] at k
      refine g7 t ?_
      show Steps p.tables e below (s₁.setTop (mkF m 31 #[.val (.ref a1), .val (.long q2), .second, .val (.int (6 : Int32)), .val (.int c1)] [(.int (lcmpW x1 q2))])) _
      refine XS.ifNo X0.here hx rfl (hb hby own_d4_31) rfl ((if0 _ _).trans (tlt ((lw_lt _ _).mpr hc8)).2.1) ?_
      show Steps p.tables e below (s₁.setTop (mkF m 34 #[.val (.ref a1), .val (.long q2), .second, .val (.int (6 : Int32)), .val (.int c1)] [])) _
      refine XS.iinc X0.here hx rfl (hb hby own_d4_34) rfl (l' := #[.val (.ref a1), .val (.long q2), .second, .val (.int (6 : Int32)), .val (.int (c1 + (1 : Int32)))]) rfl ?_
      exact k
    · rw [if_neg hc8] at hv_c2; rw [hv_c2] at k
      refine g7 t ?_
      show Steps p.tables e below (s₁.setTop (mkF m 31 #[.val (.ref a1), .val (.long q2), .second, .val (.int (6 : Int32)), .val (.int c1)] [(.int (lcmpW x1 q2))])) _
      refine XS.ifYes X0.here hx rfl (pc0 := 31) (pc' := 37) rfl (hb hby own_d4_31) rfl ((if0 _ _).trans (flt (fun q => hc8 ((lw_lt _ _).mp q))).2.1) (by decide) (by decide) ?_
      exact k
  obtain ⟨c10, Ar10, cq10, S10, Nn10, Hh10, Gg10⟩ := id Va
  have hin10 : ¬ ((2 : Int32) < 0 ∨ c10.slots.size ≤ ((2 : Int32)).toNatClampNeg) := inb_of S10 ⟨by decide, by decide⟩
  have hat10 : c10.slots[((2 : Int32)).toNatClampNeg]? = some (.long x2) := Has.at Hh10 hin10 rfl
  have g11 : ∀ t, Steps p.tables e below (s₁.setTop (mkF m 47 #[.val (.ref a1), .val (.long q2), .second, .val (.int (6 : Int32)), .val (.int c2)] [(.int (lcmpW x2 q2))])) t → Steps p.tables e below (s₁.setTop (entryFrame m #[(.ref a1), (.long q2)] 5)) t := by
    intro t k
    refine g9 t ?_
    show Steps p.tables e below (s₁.setTop (mkF m 37 #[.val (.ref a1), .val (.long q2), .second, .val (.int (6 : Int32)), .val (.int c2)] [])) _
    refine XS.iloadN X0.here hx rfl (hb hby own_d4_37) rfl ?_
    show Steps p.tables e below (s₁.setTop (mkF m 38 #[.val (.ref a1), .val (.long q2), .second, .val (.int (6 : Int32)), .val (.int c2)] [(.int (6 : Int32))])) _
    refine XS.iconst X0.here hx rfl (hb hby own_d4_38) ?_
    show Steps p.tables e below (s₁.setTop (mkF m 39 #[.val (.ref a1), .val (.long q2), .second, .val (.int (6 : Int32)), .val (.int c2)] [(.int (2 : Int32)), (.int (6 : Int32))])) _
    refine XS.icmpNo X0.here hx rfl (hb hby own_d4_39) rfl (tlt (by decide : (2 : Int32) < (6 : Int32))).2.2.2 ?_
    show Steps p.tables e below (s₁.setTop (mkF m 42 #[.val (.ref a1), .val (.long q2), .second, .val (.int (6 : Int32)), .val (.int c2)] [])) _
    refine XS.aloadN X0.here hx rfl (hb hby own_d4_42) rfl rfl ?_
    show Steps p.tables e below (s₁.setTop (mkF m 43 #[.val (.ref a1), .val (.long q2), .second, .val (.int (6 : Int32)), .val (.int c2)] [(.ref a1)])) _
    refine XS.iconst X0.here hx rfl (hb hby own_d4_43) ?_
    show Steps p.tables e below (s₁.setTop (mkF m 44 #[.val (.ref a1), .val (.long q2), .second, .val (.int (6 : Int32)), .val (.int c2)] [(.int (2 : Int32)), (.ref a1)])) _
    refine X0.laload hx (j := (2 : Int32)) (v := (.long x2)) (by rw [e0]; exact Ar10.1) (State.isArrayOf_alike hZ.alike Ar10.2.1) Ar10.2.2 hin10 hat10 (g := (mkF m 44 #[.val (.ref a1), .val (.long q2), .second, .val (.int (6 : Int32)), .val (.int c2)] [(.int (2 : Int32)), (.ref a1)])) rfl rfl (hb hby own_d4_44) _ ?_
    show Steps p.tables e below (s₁.setTop (mkF m 45 #[.val (.ref a1), .val (.long q2), .second, .val (.int (6 : Int32)), .val (.int c2)] [(.long x2)])) _
    refine XS.lloadN X0.here hx rfl (hb hby own_d4_45) rfl ?_
    show Steps p.tables e below (s₁.setTop (mkF m 46 #[.val (.ref a1), .val (.long q2), .second, .val (.int (6 : Int32)), .val (.int c2)] [(.long q2), (.long x2)])) _
    refine XS.lcmp X0.here hx rfl (hb hby own_d4_46) rfl ?_
    exact k
  obtain ⟨c3, hv_c3⟩ : ∃ z : Int32, z = (if x2 < q2 then (c2 + (1 : Int32)) else c2) := ⟨_, rfl⟩
  have g13 : ∀ t, Steps p.tables e below (s₁.setTop (mkF m 53 #[.val (.ref a1), .val (.long q2), .second, .val (.int (6 : Int32)), .val (.int c3)] [])) t → Steps p.tables e below (s₁.setTop (entryFrame m #[(.ref a1), (.long q2)] 5)) t := by
    intro t k
    by_cases hc12 : x2 < q2
    · rw [if_pos hc12] at hv_c3; rw [hv_c3] at k
      refine g11 t ?_
      show Steps p.tables e below (s₁.setTop (mkF m 47 #[.val (.ref a1), .val (.long q2), .second, .val (.int (6 : Int32)), .val (.int c2)] [(.int (lcmpW x2 q2))])) _
      refine XS.ifNo X0.here hx rfl (hb hby own_d4_47) rfl ((if0 _ _).trans (tlt ((lw_lt _ _).mpr hc12)).2.1) ?_
      show Steps p.tables e below (s₁.setTop (mkF m 50 #[.val (.ref a1), .val (.long q2), .second, .val (.int (6 : Int32)), .val (.int c2)] [])) _
      refine XS.iinc X0.here hx rfl (hb hby own_d4_50) rfl (l' := #[.val (.ref a1), .val (.long q2), .second, .val (.int (6 : Int32)), .val (.int (c2 + (1 : Int32)))]) rfl ?_
      exact k
    · rw [if_neg hc12] at hv_c3; rw [hv_c3] at k
      refine g11 t ?_
      show Steps p.tables e below (s₁.setTop (mkF m 47 #[.val (.ref a1), .val (.long q2), .second, .val (.int (6 : Int32)), .val (.int c2)] [(.int (lcmpW x2 q2))])) _
      refine XS.ifYes X0.here hx rfl (pc0 := 47) (pc' := 53) rfl (hb hby own_d4_47) rfl ((if0 _ _).trans (flt (fun q => hc12 ((lw_lt _ _).mp q))).2.1) (by decide) (by decide) ?_
      exact k
  obtain ⟨c14, Ar14, cq14, S14, Nn14, Hh14, Gg14⟩ := id Va
  have hin14 : ¬ ((3 : Int32) < 0 ∨ c14.slots.size ≤ ((3 : Int32)).toNatClampNeg) := inb_of S14 ⟨by decide, by decide⟩
  have hat14 : c14.slots[((3 : Int32)).toNatClampNeg]? = some (.long x3) := Has.at Hh14 hin14 rfl
  have g15 : ∀ t, Steps p.tables e below (s₁.setTop (mkF m 63 #[.val (.ref a1), .val (.long q2), .second, .val (.int (6 : Int32)), .val (.int c3)] [(.int (lcmpW x3 q2))])) t → Steps p.tables e below (s₁.setTop (entryFrame m #[(.ref a1), (.long q2)] 5)) t := by
    intro t k
    refine g13 t ?_
    show Steps p.tables e below (s₁.setTop (mkF m 53 #[.val (.ref a1), .val (.long q2), .second, .val (.int (6 : Int32)), .val (.int c3)] [])) _
    refine XS.iloadN X0.here hx rfl (hb hby own_d4_53) rfl ?_
    show Steps p.tables e below (s₁.setTop (mkF m 54 #[.val (.ref a1), .val (.long q2), .second, .val (.int (6 : Int32)), .val (.int c3)] [(.int (6 : Int32))])) _
    refine XS.iconst X0.here hx rfl (hb hby own_d4_54) ?_
    show Steps p.tables e below (s₁.setTop (mkF m 55 #[.val (.ref a1), .val (.long q2), .second, .val (.int (6 : Int32)), .val (.int c3)] [(.int (3 : Int32)), (.int (6 : Int32))])) _
    refine XS.icmpNo X0.here hx rfl (hb hby own_d4_55) rfl (tlt (by decide : (3 : Int32) < (6 : Int32))).2.2.2 ?_
    show Steps p.tables e below (s₁.setTop (mkF m 58 #[.val (.ref a1), .val (.long q2), .second, .val (.int (6 : Int32)), .val (.int c3)] [])) _
    refine XS.aloadN X0.here hx rfl (hb hby own_d4_58) rfl rfl ?_
    show Steps p.tables e below (s₁.setTop (mkF m 59 #[.val (.ref a1), .val (.long q2), .second, .val (.int (6 : Int32)), .val (.int c3)] [(.ref a1)])) _
    refine XS.iconst X0.here hx rfl (hb hby own_d4_59) ?_
    show Steps p.tables e below (s₁.setTop (mkF m 60 #[.val (.ref a1), .val (.long q2), .second, .val (.int (6 : Int32)), .val (.int c3)] [(.int (3 : Int32)), (.ref a1)])) _
    refine X0.laload hx (j := (3 : Int32)) (v := (.long x3)) (by rw [e0]; exact Ar14.1) (State.isArrayOf_alike hZ.alike Ar14.2.1) Ar14.2.2 hin14 hat14 (g := (mkF m 60 #[.val (.ref a1), .val (.long q2), .second, .val (.int (6 : Int32)), .val (.int c3)] [(.int (3 : Int32)), (.ref a1)])) rfl rfl (hb hby own_d4_60) _ ?_
    show Steps p.tables e below (s₁.setTop (mkF m 61 #[.val (.ref a1), .val (.long q2), .second, .val (.int (6 : Int32)), .val (.int c3)] [(.long x3)])) _
    refine XS.lloadN X0.here hx rfl (hb hby own_d4_61) rfl ?_
    show Steps p.tables e below (s₁.setTop (mkF m 62 #[.val (.ref a1), .val (.long q2), .second, .val (.int (6 : Int32)), .val (.int c3)] [(.long q2), (.long x3)])) _
    refine XS.lcmp X0.here hx rfl (hb hby own_d4_62) rfl ?_
    exact k
  obtain ⟨c4, hv_c4⟩ : ∃ z : Int32, z = (if x3 < q2 then (c3 + (1 : Int32)) else c3) := ⟨_, rfl⟩
  have g17 : ∀ t, Steps p.tables e below (s₁.setTop (mkF m 69 #[.val (.ref a1), .val (.long q2), .second, .val (.int (6 : Int32)), .val (.int c4)] [])) t → Steps p.tables e below (s₁.setTop (entryFrame m #[(.ref a1), (.long q2)] 5)) t := by
    intro t k
    by_cases hc16 : x3 < q2
    · rw [if_pos hc16] at hv_c4; rw [hv_c4] at k
      refine g15 t ?_
      show Steps p.tables e below (s₁.setTop (mkF m 63 #[.val (.ref a1), .val (.long q2), .second, .val (.int (6 : Int32)), .val (.int c3)] [(.int (lcmpW x3 q2))])) _
      refine XS.ifNo X0.here hx rfl (hb hby own_d4_63) rfl ((if0 _ _).trans (tlt ((lw_lt _ _).mpr hc16)).2.1) ?_
      show Steps p.tables e below (s₁.setTop (mkF m 66 #[.val (.ref a1), .val (.long q2), .second, .val (.int (6 : Int32)), .val (.int c3)] [])) _
      refine XS.iinc X0.here hx rfl (hb hby own_d4_66) rfl (l' := #[.val (.ref a1), .val (.long q2), .second, .val (.int (6 : Int32)), .val (.int (c3 + (1 : Int32)))]) rfl ?_
      exact k
    · rw [if_neg hc16] at hv_c4; rw [hv_c4] at k
      refine g15 t ?_
      show Steps p.tables e below (s₁.setTop (mkF m 63 #[.val (.ref a1), .val (.long q2), .second, .val (.int (6 : Int32)), .val (.int c3)] [(.int (lcmpW x3 q2))])) _
      refine XS.ifYes X0.here hx rfl (pc0 := 63) (pc' := 69) rfl (hb hby own_d4_63) rfl ((if0 _ _).trans (flt (fun q => hc16 ((lw_lt _ _).mp q))).2.1) (by decide) (by decide) ?_
      exact k
  obtain ⟨c18, Ar18, cq18, S18, Nn18, Hh18, Gg18⟩ := id Va
  have hin18 : ¬ ((4 : Int32) < 0 ∨ c18.slots.size ≤ ((4 : Int32)).toNatClampNeg) := inb_of S18 ⟨by decide, by decide⟩
  have hat18 : c18.slots[((4 : Int32)).toNatClampNeg]? = some (.long x4) := Has.at Hh18 hin18 rfl
  have g19 : ∀ t, Steps p.tables e below (s₁.setTop (mkF m 79 #[.val (.ref a1), .val (.long q2), .second, .val (.int (6 : Int32)), .val (.int c4)] [(.int (lcmpW x4 q2))])) t → Steps p.tables e below (s₁.setTop (entryFrame m #[(.ref a1), (.long q2)] 5)) t := by
    intro t k
    refine g17 t ?_
    show Steps p.tables e below (s₁.setTop (mkF m 69 #[.val (.ref a1), .val (.long q2), .second, .val (.int (6 : Int32)), .val (.int c4)] [])) _
    refine XS.iloadN X0.here hx rfl (hb hby own_d4_69) rfl ?_
    show Steps p.tables e below (s₁.setTop (mkF m 70 #[.val (.ref a1), .val (.long q2), .second, .val (.int (6 : Int32)), .val (.int c4)] [(.int (6 : Int32))])) _
    refine XS.iconst X0.here hx rfl (hb hby own_d4_70) ?_
    show Steps p.tables e below (s₁.setTop (mkF m 71 #[.val (.ref a1), .val (.long q2), .second, .val (.int (6 : Int32)), .val (.int c4)] [(.int (4 : Int32)), (.int (6 : Int32))])) _
    refine XS.icmpNo X0.here hx rfl (hb hby own_d4_71) rfl (tlt (by decide : (4 : Int32) < (6 : Int32))).2.2.2 ?_
    show Steps p.tables e below (s₁.setTop (mkF m 74 #[.val (.ref a1), .val (.long q2), .second, .val (.int (6 : Int32)), .val (.int c4)] [])) _
    refine XS.aloadN X0.here hx rfl (hb hby own_d4_74) rfl rfl ?_
    show Steps p.tables e below (s₁.setTop (mkF m 75 #[.val (.ref a1), .val (.long q2), .second, .val (.int (6 : Int32)), .val (.int c4)] [(.ref a1)])) _
    refine XS.iconst X0.here hx rfl (hb hby own_d4_75) ?_
    show Steps p.tables e below (s₁.setTop (mkF m 76 #[.val (.ref a1), .val (.long q2), .second, .val (.int (6 : Int32)), .val (.int c4)] [(.int (4 : Int32)), (.ref a1)])) _
    refine X0.laload hx (j := (4 : Int32)) (v := (.long x4)) (by rw [e0]; exact Ar18.1) (State.isArrayOf_alike hZ.alike Ar18.2.1) Ar18.2.2 hin18 hat18 (g := (mkF m 76 #[.val (.ref a1), .val (.long q2), .second, .val (.int (6 : Int32)), .val (.int c4)] [(.int (4 : Int32)), (.ref a1)])) rfl rfl (hb hby own_d4_76) _ ?_
    show Steps p.tables e below (s₁.setTop (mkF m 77 #[.val (.ref a1), .val (.long q2), .second, .val (.int (6 : Int32)), .val (.int c4)] [(.long x4)])) _
    refine XS.lloadN X0.here hx rfl (hb hby own_d4_77) rfl ?_
    show Steps p.tables e below (s₁.setTop (mkF m 78 #[.val (.ref a1), .val (.long q2), .second, .val (.int (6 : Int32)), .val (.int c4)] [(.long q2), (.long x4)])) _
    refine XS.lcmp X0.here hx rfl (hb hby own_d4_78) rfl ?_
    exact k
  obtain ⟨c5, hv_c5⟩ : ∃ z : Int32, z = (if x4 < q2 then (c4 + (1 : Int32)) else c4) := ⟨_, rfl⟩
  have g21 : ∀ t, Steps p.tables e below (s₁.setTop (mkF m 85 #[.val (.ref a1), .val (.long q2), .second, .val (.int (6 : Int32)), .val (.int c5)] [])) t → Steps p.tables e below (s₁.setTop (entryFrame m #[(.ref a1), (.long q2)] 5)) t := by
    intro t k
    by_cases hc20 : x4 < q2
    · rw [if_pos hc20] at hv_c5; rw [hv_c5] at k
      refine g19 t ?_
      show Steps p.tables e below (s₁.setTop (mkF m 79 #[.val (.ref a1), .val (.long q2), .second, .val (.int (6 : Int32)), .val (.int c4)] [(.int (lcmpW x4 q2))])) _
      refine XS.ifNo X0.here hx rfl (hb hby own_d4_79) rfl ((if0 _ _).trans (tlt ((lw_lt _ _).mpr hc20)).2.1) ?_
      show Steps p.tables e below (s₁.setTop (mkF m 82 #[.val (.ref a1), .val (.long q2), .second, .val (.int (6 : Int32)), .val (.int c4)] [])) _
      refine XS.iinc X0.here hx rfl (hb hby own_d4_82) rfl (l' := #[.val (.ref a1), .val (.long q2), .second, .val (.int (6 : Int32)), .val (.int (c4 + (1 : Int32)))]) rfl ?_
      exact k
    · rw [if_neg hc20] at hv_c5; rw [hv_c5] at k
      refine g19 t ?_
      show Steps p.tables e below (s₁.setTop (mkF m 79 #[.val (.ref a1), .val (.long q2), .second, .val (.int (6 : Int32)), .val (.int c4)] [(.int (lcmpW x4 q2))])) _
      refine XS.ifYes X0.here hx rfl (pc0 := 79) (pc' := 85) rfl (hb hby own_d4_79) rfl ((if0 _ _).trans (flt (fun q => hc20 ((lw_lt _ _).mp q))).2.1) (by decide) (by decide) ?_
      exact k
  obtain ⟨c22, Ar22, cq22, S22, Nn22, Hh22, Gg22⟩ := id Va
  have hin22 : ¬ ((5 : Int32) < 0 ∨ c22.slots.size ≤ ((5 : Int32)).toNatClampNeg) := inb_of S22 ⟨by decide, by decide⟩
  have hat22 : c22.slots[((5 : Int32)).toNatClampNeg]? = some (.long x5) := Has.at Hh22 hin22 rfl
  have g23 : ∀ t, Steps p.tables e below (s₁.setTop (mkF m 95 #[.val (.ref a1), .val (.long q2), .second, .val (.int (6 : Int32)), .val (.int c5)] [(.int (lcmpW x5 q2))])) t → Steps p.tables e below (s₁.setTop (entryFrame m #[(.ref a1), (.long q2)] 5)) t := by
    intro t k
    refine g21 t ?_
    show Steps p.tables e below (s₁.setTop (mkF m 85 #[.val (.ref a1), .val (.long q2), .second, .val (.int (6 : Int32)), .val (.int c5)] [])) _
    refine XS.iloadN X0.here hx rfl (hb hby own_d4_85) rfl ?_
    show Steps p.tables e below (s₁.setTop (mkF m 86 #[.val (.ref a1), .val (.long q2), .second, .val (.int (6 : Int32)), .val (.int c5)] [(.int (6 : Int32))])) _
    refine XS.iconst X0.here hx rfl (hb hby own_d4_86) ?_
    show Steps p.tables e below (s₁.setTop (mkF m 87 #[.val (.ref a1), .val (.long q2), .second, .val (.int (6 : Int32)), .val (.int c5)] [(.int (5 : Int32)), (.int (6 : Int32))])) _
    refine XS.icmpNo X0.here hx rfl (hb hby own_d4_87) rfl (tlt (by decide : (5 : Int32) < (6 : Int32))).2.2.2 ?_
    show Steps p.tables e below (s₁.setTop (mkF m 90 #[.val (.ref a1), .val (.long q2), .second, .val (.int (6 : Int32)), .val (.int c5)] [])) _
    refine XS.aloadN X0.here hx rfl (hb hby own_d4_90) rfl rfl ?_
    show Steps p.tables e below (s₁.setTop (mkF m 91 #[.val (.ref a1), .val (.long q2), .second, .val (.int (6 : Int32)), .val (.int c5)] [(.ref a1)])) _
    refine XS.iconst X0.here hx rfl (hb hby own_d4_91) ?_
    show Steps p.tables e below (s₁.setTop (mkF m 92 #[.val (.ref a1), .val (.long q2), .second, .val (.int (6 : Int32)), .val (.int c5)] [(.int (5 : Int32)), (.ref a1)])) _
    refine X0.laload hx (j := (5 : Int32)) (v := (.long x5)) (by rw [e0]; exact Ar22.1) (State.isArrayOf_alike hZ.alike Ar22.2.1) Ar22.2.2 hin22 hat22 (g := (mkF m 92 #[.val (.ref a1), .val (.long q2), .second, .val (.int (6 : Int32)), .val (.int c5)] [(.int (5 : Int32)), (.ref a1)])) rfl rfl (hb hby own_d4_92) _ ?_
    show Steps p.tables e below (s₁.setTop (mkF m 93 #[.val (.ref a1), .val (.long q2), .second, .val (.int (6 : Int32)), .val (.int c5)] [(.long x5)])) _
    refine XS.lloadN X0.here hx rfl (hb hby own_d4_93) rfl ?_
    show Steps p.tables e below (s₁.setTop (mkF m 94 #[.val (.ref a1), .val (.long q2), .second, .val (.int (6 : Int32)), .val (.int c5)] [(.long q2), (.long x5)])) _
    refine XS.lcmp X0.here hx rfl (hb hby own_d4_94) rfl ?_
    exact k
  obtain ⟨c6, hv_c6⟩ : ∃ z : Int32, z = (if x5 < q2 then (c5 + (1 : Int32)) else c5) := ⟨_, rfl⟩
  have g25 : ∀ t, Steps p.tables e below (s₁.setTop (mkF m 101 #[.val (.ref a1), .val (.long q2), .second, .val (.int (6 : Int32)), .val (.int c6)] [])) t → Steps p.tables e below (s₁.setTop (entryFrame m #[(.ref a1), (.long q2)] 5)) t := by
    intro t k
    by_cases hc24 : x5 < q2
    · rw [if_pos hc24] at hv_c6; rw [hv_c6] at k
      refine g23 t ?_
      show Steps p.tables e below (s₁.setTop (mkF m 95 #[.val (.ref a1), .val (.long q2), .second, .val (.int (6 : Int32)), .val (.int c5)] [(.int (lcmpW x5 q2))])) _
      refine XS.ifNo X0.here hx rfl (hb hby own_d4_95) rfl ((if0 _ _).trans (tlt ((lw_lt _ _).mpr hc24)).2.1) ?_
      show Steps p.tables e below (s₁.setTop (mkF m 98 #[.val (.ref a1), .val (.long q2), .second, .val (.int (6 : Int32)), .val (.int c5)] [])) _
      refine XS.iinc X0.here hx rfl (hb hby own_d4_98) rfl (l' := #[.val (.ref a1), .val (.long q2), .second, .val (.int (6 : Int32)), .val (.int (c5 + (1 : Int32)))]) rfl ?_
      exact k
    · rw [if_neg hc24] at hv_c6; rw [hv_c6] at k
      refine g23 t ?_
      show Steps p.tables e below (s₁.setTop (mkF m 95 #[.val (.ref a1), .val (.long q2), .second, .val (.int (6 : Int32)), .val (.int c5)] [(.int (lcmpW x5 q2))])) _
      refine XS.ifYes X0.here hx rfl (pc0 := 95) (pc' := 101) rfl (hb hby own_d4_95) rfl ((if0 _ _).trans (flt (fun q => hc24 ((lw_lt _ _).mp q))).2.1) (by decide) (by decide) ?_
      exact k
  have g26 : ∀ t, Steps p.tables e below (s₁.setTop (mkF m 139 #[.val (.ref a1), .val (.long q2), .second, .val (.int (6 : Int32)), .val (.int c6)] [(.int c6)])) t → Steps p.tables e below (s₁.setTop (entryFrame m #[(.ref a1), (.long q2)] 5)) t := by
    intro t k
    refine g25 t ?_
    show Steps p.tables e below (s₁.setTop (mkF m 101 #[.val (.ref a1), .val (.long q2), .second, .val (.int (6 : Int32)), .val (.int c6)] [])) _
    refine XS.iloadN X0.here hx rfl (hb hby own_d4_101) rfl ?_
    show Steps p.tables e below (s₁.setTop (mkF m 102 #[.val (.ref a1), .val (.long q2), .second, .val (.int (6 : Int32)), .val (.int c6)] [(.int (6 : Int32))])) _
    refine XS.bipush X0.here hx rfl (hb hby own_d4_102) ?_
    show Steps p.tables e below (s₁.setTop (mkF m 104 #[.val (.ref a1), .val (.long q2), .second, .val (.int (6 : Int32)), .val (.int c6)] [(.int (6 : Int32)), (.int (6 : Int32))])) _
    refine XS.icmpYes X0.here hx rfl (pc0 := 104) (pc' := 119) rfl (hb hby own_d4_104) rfl (flt (by decide : ¬ ((6 : Int32) < (6 : Int32)))).2.2.2 (by decide) (by decide) ?_
    show Steps p.tables e below (s₁.setTop (mkF m 119 #[.val (.ref a1), .val (.long q2), .second, .val (.int (6 : Int32)), .val (.int c6)] [])) _
    refine XS.iloadN X0.here hx rfl (hb hby own_d4_119) rfl ?_
    show Steps p.tables e below (s₁.setTop (mkF m 120 #[.val (.ref a1), .val (.long q2), .second, .val (.int (6 : Int32)), .val (.int c6)] [(.int (6 : Int32))])) _
    refine XS.bipush X0.here hx rfl (hb hby own_d4_120) ?_
    show Steps p.tables e below (s₁.setTop (mkF m 122 #[.val (.ref a1), .val (.long q2), .second, .val (.int (6 : Int32)), .val (.int c6)] [(.int (7 : Int32)), (.int (6 : Int32))])) _
    refine XS.icmpYes X0.here hx rfl (pc0 := 122) (pc' := 137) rfl (hb hby own_d4_122) rfl (flt (by decide : ¬ ((7 : Int32) < (6 : Int32)))).2.2.2 (by decide) (by decide) ?_
    show Steps p.tables e below (s₁.setTop (mkF m 137 #[.val (.ref a1), .val (.long q2), .second, .val (.int (6 : Int32)), .val (.int c6)] [])) _
    refine XS.iload X0.here hx rfl (hb hby own_d4_137) rfl ?_
    exact k
  obtain ⟨fs, hrt, hrun, hended, hW, hsame⟩ := X0.leave (v := some (.int c6)) (fun h => by rw [Bd.returns] at h; cases h)
  refine ⟨_, _, g26 _ ?_, hrun, hended, _, _, rfl, ?_, ⟨_, rfl⟩, hW, hsame.mono (by decide) (by decide)⟩
  · show Steps p.tables e below (s₁.setTop (mkF m 139 #[.val (.ref a1), .val (.long q2), .second, .val (.int (6 : Int32)), .val (.int c6)] [(.int c6)])) _
    exact retI X0 hx Bd.returns (hb hby own_d4_139) hrt
  · show own_Q_rmcountLt6 Z a1 ka x0 x1 x2 x3 x4 x5 q2 r h0 n0 _ s₁.heap _
    rw [e0]
    exact ⟨by rw [← hr]; subst hv_c1; subst hv_c2; subst hv_c3; subst hv_c4; subst hv_c5; subst hv_c6; rfl, N0, rfl⟩
theorem own_ef20 (m : MethodId) (x0 : Addr) (x1 : Int32) : entryFrame m #[(.ref x0), (.int x1)] 3 = mkF m 0 #[.val (.ref x0), .val (.int x1), .unset] [] := by first | (simp [entryFrame, mkF, argsToLocals, Value.category]; done) | rfl
def own_Q_rmPct7 (Z : State) (a1 : Addr) (ka : ClassId) (x0 x1 x2 x3 x4 x5 x6 r : Int64) (p2 j : Int32) (h0 : Heap) (n0 : Nat) (v : Option Value) (h : Heap) (L : List Loc) : Prop := v = some (.long r) ∧ Fr n0 L ∧ h = h0
set_option maxRecDepth 65536 in
set_option maxHeartbeats 40000000 in
theorem rmPct7 (l : Launch) (Z : State) (a0 : Array Value) (hw : ∀ d ∈ tables_1, d.before a0 Z = true) (ws : List Jvm.Cond) (a1 : Addr) (ka : ClassId) (x0 x1 x2 x3 x4 x5 x6 r : Int64) (p2 j : Int32) (h0 : Heap) (n0 : Nat) (O0 : Old Z n0 h0) (Va : Arv Z h0 a1 ka .long (7 : Int32) [(.long x0), (.long x1), (.long x2), (.long x3), (.long x4), (.long x5), (.long x6)] (.long (0 : Int64))) (hj : (((((((7 : Int32).toInt64) * (p2.toInt64)) + (99 : Int64)) / (100 : Int64)).toInt32) - (1 : Int32)) = j) (hj0 : ¬ j < 0) (hj1 : j < (7 : Int32)) (hjr : ([(.long x0), (.long x1), (.long x2), (.long x3), (.long x4), (.long x5), (.long x6)] : List Value).getD j.toNatClampNeg (.long (0 : Int64)) = .long r) :
    MetFree l (⟨"orderwire/bench/Latency", "percentile", "([JI)J"⟩ : MethodName) (head1 (Jvm.Cond.code (⟨"orderwire/bench/Latency", "percentile", "([JI)J"⟩ : MethodName) prog_6_method_9_code 3 (some .long) :: ws) ({ frames := 0, cells := 0, slots := 0, locals := 0 } : Room)) (fun a U => a = #[(.ref a1), (.int p2)] ∧ Z.Warmed39 U.vm ∧ U.heap = h0) (fun _ _ _ _ _ => True) (fun _ U o U' => ∃ v L, o = .returned v ∧ own_Q_rmPct7 Z a1 ka x0 x1 x2 x3 x4 x5 x6 r p2 j h0 n0 v U'.heap L ∧ FrameEnd U o U' L ({ frames := 0, cells := 0, slots := 0, locals := 0 } : Room).cells ({ frames := 0, cells := 0, slots := 0, locals := 0 } : Room).slots) := by
  refine MetFree.of_bodySF (plainFor_of_name own_pn0) hisR ?_
  intro p e s m args below meth c s₁ Bd hml0 hP hK
  obtain ⟨rfl, hZ, hh⟩ := hP
  have hx := Bd.exec
  have hby := Bd.bytes
  have hml : c.maxLocals = 3 := hml0
  have hown : s.vm.findClass "orderwire/bench/Latency" = some m.cls := findClass_of_methodNamed Bd.named
  have hnm := (name_of_methodNamed Bd.named Bd.method).1
  have X0 : Stand p l e ({ frames := 0, cells := 0, slots := 0, locals := 0 } : Room) s m #[(.ref a1), (.int p2)] below meth c s₁ [] 0 0 := Stand.of_body Bd
  have e0 : s₁.heap = h0 := by rw [← hh, Bd.state]; rfl
  have N0 := Fr.nil n0
  have Z0 : n0 ≤ h0.size := O0.1 ▸ O0.2.1
  have g0 : ∀ t, Steps p.tables e below (s₁.setTop (mkF m 0 #[.val (.ref a1), .val (.int p2), .unset] [])) t → Steps p.tables e below (s₁.setTop (entryFrame m #[(.ref a1), (.int p2)] 3)) t := fun t k => castTop (own_ef20 m (a1) (p2)) k
  obtain ⟨c1, Ar1, cq1, S1, Nn1, Hh1, Gg1⟩ := id Va
  have g2 : ∀ t, Steps p.tables e below (s₁.setTop (mkF m 20 #[.val (.ref a1), .val (.int p2), .val (.int ((((((7 : Int32).toInt64) * (p2.toInt64)) + (99 : Int64)) / (100 : Int64)).toInt32))] [(.int j), (.ref a1)])) t → Steps p.tables e below (s₁.setTop (entryFrame m #[(.ref a1), (.int p2)] 3)) t := by
    intro t k
    rw [← hj] at k
    refine g0 t ?_
    show Steps p.tables e below (s₁.setTop (mkF m 0 #[.val (.ref a1), .val (.int p2), .unset] [])) _
    refine XS.aloadN X0.here hx rfl (hb hby own_d2_0) rfl rfl ?_
    show Steps p.tables e below (s₁.setTop (mkF m 1 #[.val (.ref a1), .val (.int p2), .unset] [(.ref a1)])) _
    refine X0.arraylength hx (by rw [e0]; exact Ar1.1) (State.isArrayOf_alike hZ.alike Ar1.2.1) (g := (mkF m 1 #[.val (.ref a1), .val (.int p2), .unset] [(.ref a1)])) rfl rfl (hb hby own_d2_1) _ ?_
    rw [len_of S1 Nn1]
    show Steps p.tables e below (s₁.setTop (mkF m 2 #[.val (.ref a1), .val (.int p2), .unset] [(.int (7 : Int32))])) _
    refine XS.i2l X0.here hx rfl (hb hby own_d2_2) rfl ?_
    show Steps p.tables e below (s₁.setTop (mkF m 3 #[.val (.ref a1), .val (.int p2), .unset] [(.long ((7 : Int32).toInt64))])) _
    refine XS.iloadN X0.here hx rfl (hb hby own_d2_3) rfl ?_
    show Steps p.tables e below (s₁.setTop (mkF m 4 #[.val (.ref a1), .val (.int p2), .unset] [(.int p2), (.long ((7 : Int32).toInt64))])) _
    refine XS.i2l X0.here hx rfl (hb hby own_d2_4) rfl ?_
    show Steps p.tables e below (s₁.setTop (mkF m 5 #[.val (.ref a1), .val (.int p2), .unset] [(.long (p2.toInt64)), (.long ((7 : Int32).toInt64))])) _
    refine XS.lmul X0.here hx rfl (hb hby own_d2_5) rfl ?_
    show Steps p.tables e below (s₁.setTop (mkF m 6 #[.val (.ref a1), .val (.int p2), .unset] [(.long (((7 : Int32).toInt64) * (p2.toInt64)))])) _
    refine X0.ldc2Long hx hown (mvT hZ (hw _ (List.mem_of_getElem? (i := 11) rfl))) (g := (mkF m 6 #[.val (.ref a1), .val (.int p2), .unset] [(.long (((7 : Int32).toInt64) * (p2.toInt64)))])) rfl (hb hby own_d2_6) _ ?_
    show Steps p.tables e below (s₁.setTop (mkF m 9 #[.val (.ref a1), .val (.int p2), .unset] [(.long (99 : Int64)), (.long (((7 : Int32).toInt64) * (p2.toInt64)))])) _
    refine XS.ladd X0.here hx rfl (hb hby own_d2_9) rfl ?_
    show Steps p.tables e below (s₁.setTop (mkF m 10 #[.val (.ref a1), .val (.int p2), .unset] [(.long ((((7 : Int32).toInt64) * (p2.toInt64)) + (99 : Int64)))])) _
    refine X0.ldc2Long hx hown (mvT hZ (hw _ (List.mem_of_getElem? (i := 12) rfl))) (g := (mkF m 10 #[.val (.ref a1), .val (.int p2), .unset] [(.long ((((7 : Int32).toInt64) * (p2.toInt64)) + (99 : Int64)))])) rfl (hb hby own_d2_10) _ ?_
    show Steps p.tables e below (s₁.setTop (mkF m 13 #[.val (.ref a1), .val (.int p2), .unset] [(.long (100 : Int64)), (.long ((((7 : Int32).toInt64) * (p2.toInt64)) + (99 : Int64)))])) _
    refine XS.ldiv X0.here hx rfl (hb hby own_d2_13) rfl (by decide) ?_
    show Steps p.tables e below (s₁.setTop (mkF m 14 #[.val (.ref a1), .val (.int p2), .unset] [(.long (((((7 : Int32).toInt64) * (p2.toInt64)) + (99 : Int64)) / (100 : Int64)))])) _
    refine XS.l2i X0.here hx rfl (hb hby own_d2_14) rfl ?_
    show Steps p.tables e below (s₁.setTop (mkF m 15 #[.val (.ref a1), .val (.int p2), .unset] [(.int ((((((7 : Int32).toInt64) * (p2.toInt64)) + (99 : Int64)) / (100 : Int64)).toInt32))])) _
    refine XS.istoreN X0.here hx rfl (hb hby own_d2_15) rfl (l' := #[.val (.ref a1), .val (.int p2), .val (.int ((((((7 : Int32).toInt64) * (p2.toInt64)) + (99 : Int64)) / (100 : Int64)).toInt32))]) rfl ?_
    show Steps p.tables e below (s₁.setTop (mkF m 16 #[.val (.ref a1), .val (.int p2), .val (.int ((((((7 : Int32).toInt64) * (p2.toInt64)) + (99 : Int64)) / (100 : Int64)).toInt32))] [])) _
    refine XS.aloadN X0.here hx rfl (hb hby own_d2_16) rfl rfl ?_
    show Steps p.tables e below (s₁.setTop (mkF m 17 #[.val (.ref a1), .val (.int p2), .val (.int ((((((7 : Int32).toInt64) * (p2.toInt64)) + (99 : Int64)) / (100 : Int64)).toInt32))] [(.ref a1)])) _
    refine XS.iloadN X0.here hx rfl (hb hby own_d2_17) rfl ?_
    show Steps p.tables e below (s₁.setTop (mkF m 18 #[.val (.ref a1), .val (.int p2), .val (.int ((((((7 : Int32).toInt64) * (p2.toInt64)) + (99 : Int64)) / (100 : Int64)).toInt32))] [(.int ((((((7 : Int32).toInt64) * (p2.toInt64)) + (99 : Int64)) / (100 : Int64)).toInt32)), (.ref a1)])) _
    refine XS.iconst X0.here hx rfl (hb hby own_d2_18) ?_
    show Steps p.tables e below (s₁.setTop (mkF m 19 #[.val (.ref a1), .val (.int p2), .val (.int ((((((7 : Int32).toInt64) * (p2.toInt64)) + (99 : Int64)) / (100 : Int64)).toInt32))] [(.int (1 : Int32)), (.int ((((((7 : Int32).toInt64) * (p2.toInt64)) + (99 : Int64)) / (100 : Int64)).toInt32)), (.ref a1)])) _
    refine XS.isub X0.here hx rfl (hb hby own_d2_19) rfl ?_
    exact k
  obtain ⟨c3, Ar3, cq3, S3, Nn3, Hh3, Gg3⟩ := id Va
  have hin3 : ¬ (j < 0 ∨ c3.slots.size ≤ (j).toNatClampNeg) := inb_of S3 ⟨hj0, hj1⟩
  have hat3 : c3.slots[(j).toNatClampNeg]? = some (.long r) := Has.at Hh3 hin3 hjr
  have g4 : ∀ t, Steps p.tables e below (s₁.setTop (mkF m 21 #[.val (.ref a1), .val (.int p2), .val (.int ((((((7 : Int32).toInt64) * (p2.toInt64)) + (99 : Int64)) / (100 : Int64)).toInt32))] [(.long r)])) t → Steps p.tables e below (s₁.setTop (entryFrame m #[(.ref a1), (.int p2)] 3)) t := by
    intro t k
    refine g2 t ?_
    show Steps p.tables e below (s₁.setTop (mkF m 20 #[.val (.ref a1), .val (.int p2), .val (.int ((((((7 : Int32).toInt64) * (p2.toInt64)) + (99 : Int64)) / (100 : Int64)).toInt32))] [(.int j), (.ref a1)])) _
    refine X0.laload hx (j := j) (v := (.long r)) (by rw [e0]; exact Ar3.1) (State.isArrayOf_alike hZ.alike Ar3.2.1) Ar3.2.2 hin3 hat3 (g := (mkF m 20 #[.val (.ref a1), .val (.int p2), .val (.int ((((((7 : Int32).toInt64) * (p2.toInt64)) + (99 : Int64)) / (100 : Int64)).toInt32))] [(.int j), (.ref a1)])) rfl rfl (hb hby own_d2_20) _ ?_
    exact k
  obtain ⟨fs, hrt, hrun, hended, hW, hsame⟩ := X0.leave (v := some (.long r)) (fun h => by rw [Bd.returns] at h; cases h)
  refine ⟨_, _, g4 _ ?_, hrun, hended, _, _, rfl, ?_, ⟨_, rfl⟩, hW, hsame.mono (by decide) (by decide)⟩
  · show Steps p.tables e below (s₁.setTop (mkF m 21 #[.val (.ref a1), .val (.int p2), .val (.int ((((((7 : Int32).toInt64) * (p2.toInt64)) + (99 : Int64)) / (100 : Int64)).toInt32))] [(.long r)])) _
    exact X0.lreturnOut hx Bd.returns (hb hby own_d2_21) hrt
  · show own_Q_rmPct7 Z a1 ka x0 x1 x2 x3 x4 x5 x6 r p2 j h0 n0 _ s₁.heap _
    rw [e0]
    exact ⟨rfl, N0, rfl⟩
theorem own_ef21 (m : MethodId) (x0 : Addr) (x1 : Int64) : entryFrame m #[(.ref x0), (.long x1)] 5 = mkF m 0 #[.val (.ref x0), .val (.long x1), .second, .unset, .unset] [] := by first | (simp [entryFrame, mkF, argsToLocals, Value.category]; done) | rfl
theorem own_d3_107 : decode method_3_code 107 = .ok (.aload_n 0, 1) := by decide +kernel
theorem own_d3_108 : decode method_3_code 108 = .ok (.bipush 6, 2) := by decide +kernel
theorem own_d3_110 : decode method_3_code 110 = .ok (.laload, 1) := by decide +kernel
theorem own_d3_111 : decode method_3_code 111 = .ok (.lload_n 1, 1) := by decide +kernel
theorem own_d3_112 : decode method_3_code 112 = .ok (.lcmp, 1) := by decide +kernel
theorem own_d3_113 : decode method_3_code 113 = .ok (.ifCond .gt 6, 3) := by decide +kernel
theorem own_d3_116 : decode method_3_code 116 = .ok (.iinc 4 1, 3) := by decide +kernel
def own_Q_rmcountLe7 (Z : State) (a1 : Addr) (ka : ClassId) (x0 x1 x2 x3 x4 x5 x6 q2 : Int64) (r : Int32) (h0 : Heap) (n0 : Nat) (v : Option Value) (h : Heap) (L : List Loc) : Prop := v = some (.int r) ∧ Fr n0 L ∧ h = h0
set_option maxRecDepth 65536 in
set_option maxHeartbeats 40000000 in
theorem rmcountLe7 (l : Launch) (Z : State) (a0 : Array Value) (hw : ∀ d ∈ tables_1, d.before a0 Z = true) (ws : List Jvm.Cond) (a1 : Addr) (ka : ClassId) (x0 x1 x2 x3 x4 x5 x6 q2 : Int64) (r : Int32) (h0 : Heap) (n0 : Nat) (O0 : Old Z n0 h0) (Va : Arv Z h0 a1 ka .long (7 : Int32) [(.long x0), (.long x1), (.long x2), (.long x3), (.long x4), (.long x5), (.long x6)] (.long (0 : Int64))) (hr : own_cle q2 [x0, x1, x2, x3, x4, x5, x6] 0 = r) :
    MetFree l (⟨"orderwire/bench/LatencyPercentilePinLaw", "countLe", "([JJ)I"⟩ : MethodName) (head1 (Jvm.Cond.code (⟨"orderwire/bench/LatencyPercentilePinLaw", "countLe", "([JJ)I"⟩ : MethodName) method_3_code 5 (some .int) :: ws) ({ frames := 0, cells := 0, slots := 0, locals := 0 } : Room)) (fun a U => a = #[(.ref a1), (.long q2)] ∧ Z.Warmed39 U.vm ∧ U.heap = h0) (fun _ _ _ _ _ => True) (fun _ U o U' => ∃ v L, o = .returned v ∧ own_Q_rmcountLe7 Z a1 ka x0 x1 x2 x3 x4 x5 x6 q2 r h0 n0 v U'.heap L ∧ FrameEnd U o U' L ({ frames := 0, cells := 0, slots := 0, locals := 0 } : Room).cells ({ frames := 0, cells := 0, slots := 0, locals := 0 } : Room).slots) := by
  refine MetFree.of_bodySF (plainFor_of_name own_pn1) hisR ?_
  intro p e s m args below meth c s₁ Bd hml0 hP hK
  obtain ⟨rfl, hZ, hh⟩ := hP
  have hx := Bd.exec
  have hby := Bd.bytes
  have hml : c.maxLocals = 5 := hml0
  have hown : s.vm.findClass "orderwire/bench/LatencyPercentilePinLaw" = some m.cls := findClass_of_methodNamed Bd.named
  have hnm := (name_of_methodNamed Bd.named Bd.method).1
  have X0 : Stand p l e ({ frames := 0, cells := 0, slots := 0, locals := 0 } : Room) s m #[(.ref a1), (.long q2)] below meth c s₁ [] 0 0 := Stand.of_body Bd
  have e0 : s₁.heap = h0 := by rw [← hh, Bd.state]; rfl
  have N0 := Fr.nil n0
  have Z0 : n0 ≤ h0.size := O0.1 ▸ O0.2.1
  have g0 : ∀ t, Steps p.tables e below (s₁.setTop (mkF m 0 #[.val (.ref a1), .val (.long q2), .second, .unset, .unset] [])) t → Steps p.tables e below (s₁.setTop (entryFrame m #[(.ref a1), (.long q2)] 5)) t := fun t k => castTop (own_ef21 m (a1) (q2)) k
  obtain ⟨c1, Ar1, cq1, S1, Nn1, Hh1, Gg1⟩ := id Va
  obtain ⟨c2, Ar2, cq2, S2, Nn2, Hh2, Gg2⟩ := id Va
  have hin2 : ¬ ((0 : Int32) < 0 ∨ c2.slots.size ≤ ((0 : Int32)).toNatClampNeg) := inb_of S2 ⟨by decide, by decide⟩
  have hat2 : c2.slots[((0 : Int32)).toNatClampNeg]? = some (.long x0) := Has.at Hh2 hin2 rfl
  have g3 : ∀ t, Steps p.tables e below (s₁.setTop (mkF m 15 #[.val (.ref a1), .val (.long q2), .second, .val (.int (7 : Int32)), .val (.int (0 : Int32))] [(.int (lcmpW x0 q2))])) t → Steps p.tables e below (s₁.setTop (entryFrame m #[(.ref a1), (.long q2)] 5)) t := by
    intro t k
    refine g0 t ?_
    show Steps p.tables e below (s₁.setTop (mkF m 0 #[.val (.ref a1), .val (.long q2), .second, .unset, .unset] [])) _
    refine XS.aloadN X0.here hx rfl (hb hby own_d3_0) rfl rfl ?_
    show Steps p.tables e below (s₁.setTop (mkF m 1 #[.val (.ref a1), .val (.long q2), .second, .unset, .unset] [(.ref a1)])) _
    refine X0.arraylength hx (by rw [e0]; exact Ar1.1) (State.isArrayOf_alike hZ.alike Ar1.2.1) (g := (mkF m 1 #[.val (.ref a1), .val (.long q2), .second, .unset, .unset] [(.ref a1)])) rfl rfl (hb hby own_d3_1) _ ?_
    rw [len_of S1 Nn1]
    show Steps p.tables e below (s₁.setTop (mkF m 2 #[.val (.ref a1), .val (.long q2), .second, .unset, .unset] [(.int (7 : Int32))])) _
    refine XS.istoreN X0.here hx rfl (hb hby own_d3_2) rfl (l' := #[.val (.ref a1), .val (.long q2), .second, .val (.int (7 : Int32)), .unset]) rfl ?_
    show Steps p.tables e below (s₁.setTop (mkF m 3 #[.val (.ref a1), .val (.long q2), .second, .val (.int (7 : Int32)), .unset] [])) _
    refine XS.iconst X0.here hx rfl (hb hby own_d3_3) ?_
    show Steps p.tables e below (s₁.setTop (mkF m 4 #[.val (.ref a1), .val (.long q2), .second, .val (.int (7 : Int32)), .unset] [(.int (0 : Int32))])) _
    refine XS.istore X0.here hx rfl (hb hby own_d3_4) rfl (l' := #[.val (.ref a1), .val (.long q2), .second, .val (.int (7 : Int32)), .val (.int (0 : Int32))]) rfl ?_
    show Steps p.tables e below (s₁.setTop (mkF m 6 #[.val (.ref a1), .val (.long q2), .second, .val (.int (7 : Int32)), .val (.int (0 : Int32))] [])) _
    refine XS.iloadN X0.here hx rfl (hb hby own_d3_6) rfl ?_
    show Steps p.tables e below (s₁.setTop (mkF m 7 #[.val (.ref a1), .val (.long q2), .second, .val (.int (7 : Int32)), .val (.int (0 : Int32))] [(.int (7 : Int32))])) _
    refine XS.ifNo X0.here hx rfl (hb hby own_d3_7) rfl ((if0 _ _).trans (tlt (by decide : (0 : Int32) < (7 : Int32))).2.2.2) ?_
    show Steps p.tables e below (s₁.setTop (mkF m 10 #[.val (.ref a1), .val (.long q2), .second, .val (.int (7 : Int32)), .val (.int (0 : Int32))] [])) _
    refine XS.aloadN X0.here hx rfl (hb hby own_d3_10) rfl rfl ?_
    show Steps p.tables e below (s₁.setTop (mkF m 11 #[.val (.ref a1), .val (.long q2), .second, .val (.int (7 : Int32)), .val (.int (0 : Int32))] [(.ref a1)])) _
    refine XS.iconst X0.here hx rfl (hb hby own_d3_11) ?_
    show Steps p.tables e below (s₁.setTop (mkF m 12 #[.val (.ref a1), .val (.long q2), .second, .val (.int (7 : Int32)), .val (.int (0 : Int32))] [(.int (0 : Int32)), (.ref a1)])) _
    refine X0.laload hx (j := (0 : Int32)) (v := (.long x0)) (by rw [e0]; exact Ar2.1) (State.isArrayOf_alike hZ.alike Ar2.2.1) Ar2.2.2 hin2 hat2 (g := (mkF m 12 #[.val (.ref a1), .val (.long q2), .second, .val (.int (7 : Int32)), .val (.int (0 : Int32))] [(.int (0 : Int32)), (.ref a1)])) rfl rfl (hb hby own_d3_12) _ ?_
    show Steps p.tables e below (s₁.setTop (mkF m 13 #[.val (.ref a1), .val (.long q2), .second, .val (.int (7 : Int32)), .val (.int (0 : Int32))] [(.long x0)])) _
    refine XS.lloadN X0.here hx rfl (hb hby own_d3_13) rfl ?_
    show Steps p.tables e below (s₁.setTop (mkF m 14 #[.val (.ref a1), .val (.long q2), .second, .val (.int (7 : Int32)), .val (.int (0 : Int32))] [(.long q2), (.long x0)])) _
    refine XS.lcmp X0.here hx rfl (hb hby own_d3_14) rfl ?_
    exact k
  obtain ⟨c1, hv_c1⟩ : ∃ z : Int32, z = (if q2 < x0 then (0 : Int32) else ((0 : Int32) + (1 : Int32))) := ⟨_, rfl⟩
  have g5 : ∀ t, Steps p.tables e below (s₁.setTop (mkF m 21 #[.val (.ref a1), .val (.long q2), .second, .val (.int (7 : Int32)), .val (.int c1)] [])) t → Steps p.tables e below (s₁.setTop (entryFrame m #[(.ref a1), (.long q2)] 5)) t := by
    intro t k
    by_cases hc4 : q2 < x0
    · rw [if_pos hc4] at hv_c1; rw [hv_c1] at k
      refine g3 t ?_
      show Steps p.tables e below (s₁.setTop (mkF m 15 #[.val (.ref a1), .val (.long q2), .second, .val (.int (7 : Int32)), .val (.int (0 : Int32))] [(.int (lcmpW x0 q2))])) _
      refine XS.ifYes X0.here hx rfl (pc0 := 15) (pc' := 21) rfl (hb hby own_d3_15) rfl ((if0 _ _).trans (tlt ((lw_gt _ _).mpr hc4)).2.2.1) (by decide) (by decide) ?_
      exact k
    · rw [if_neg hc4] at hv_c1; rw [hv_c1] at k
      refine g3 t ?_
      show Steps p.tables e below (s₁.setTop (mkF m 15 #[.val (.ref a1), .val (.long q2), .second, .val (.int (7 : Int32)), .val (.int (0 : Int32))] [(.int (lcmpW x0 q2))])) _
      refine XS.ifNo X0.here hx rfl (hb hby own_d3_15) rfl ((if0 _ _).trans (flt (fun q => hc4 ((lw_gt _ _).mp q))).2.2.1) ?_
      show Steps p.tables e below (s₁.setTop (mkF m 18 #[.val (.ref a1), .val (.long q2), .second, .val (.int (7 : Int32)), .val (.int (0 : Int32))] [])) _
      refine XS.iinc X0.here hx rfl (hb hby own_d3_18) rfl (l' := #[.val (.ref a1), .val (.long q2), .second, .val (.int (7 : Int32)), .val (.int ((0 : Int32) + (1 : Int32)))]) rfl ?_
      exact k
  obtain ⟨c6, Ar6, cq6, S6, Nn6, Hh6, Gg6⟩ := id Va
  have hin6 : ¬ ((1 : Int32) < 0 ∨ c6.slots.size ≤ ((1 : Int32)).toNatClampNeg) := inb_of S6 ⟨by decide, by decide⟩
  have hat6 : c6.slots[((1 : Int32)).toNatClampNeg]? = some (.long x1) := Has.at Hh6 hin6 rfl
  have g7 : ∀ t, Steps p.tables e below (s₁.setTop (mkF m 31 #[.val (.ref a1), .val (.long q2), .second, .val (.int (7 : Int32)), .val (.int c1)] [(.int (lcmpW x1 q2))])) t → Steps p.tables e below (s₁.setTop (entryFrame m #[(.ref a1), (.long q2)] 5)) t := by
    intro t k
    refine g5 t ?_
    show Steps p.tables e below (s₁.setTop (mkF m 21 #[.val (.ref a1), .val (.long q2), .second, .val (.int (7 : Int32)), .val (.int c1)] [])) _
    refine XS.iloadN X0.here hx rfl (hb hby own_d3_21) rfl ?_
    show Steps p.tables e below (s₁.setTop (mkF m 22 #[.val (.ref a1), .val (.long q2), .second, .val (.int (7 : Int32)), .val (.int c1)] [(.int (7 : Int32))])) _
    refine XS.iconst X0.here hx rfl (hb hby own_d3_22) ?_
    show Steps p.tables e below (s₁.setTop (mkF m 23 #[.val (.ref a1), .val (.long q2), .second, .val (.int (7 : Int32)), .val (.int c1)] [(.int (1 : Int32)), (.int (7 : Int32))])) _
    refine XS.icmpNo X0.here hx rfl (hb hby own_d3_23) rfl (tlt (by decide : (1 : Int32) < (7 : Int32))).2.2.2 ?_
    show Steps p.tables e below (s₁.setTop (mkF m 26 #[.val (.ref a1), .val (.long q2), .second, .val (.int (7 : Int32)), .val (.int c1)] [])) _
    refine XS.aloadN X0.here hx rfl (hb hby own_d3_26) rfl rfl ?_
    show Steps p.tables e below (s₁.setTop (mkF m 27 #[.val (.ref a1), .val (.long q2), .second, .val (.int (7 : Int32)), .val (.int c1)] [(.ref a1)])) _
    refine XS.iconst X0.here hx rfl (hb hby own_d3_27) ?_
    show Steps p.tables e below (s₁.setTop (mkF m 28 #[.val (.ref a1), .val (.long q2), .second, .val (.int (7 : Int32)), .val (.int c1)] [(.int (1 : Int32)), (.ref a1)])) _
    refine X0.laload hx (j := (1 : Int32)) (v := (.long x1)) (by rw [e0]; exact Ar6.1) (State.isArrayOf_alike hZ.alike Ar6.2.1) Ar6.2.2 hin6 hat6 (g := (mkF m 28 #[.val (.ref a1), .val (.long q2), .second, .val (.int (7 : Int32)), .val (.int c1)] [(.int (1 : Int32)), (.ref a1)])) rfl rfl (hb hby own_d3_28) _ ?_
    show Steps p.tables e below (s₁.setTop (mkF m 29 #[.val (.ref a1), .val (.long q2), .second, .val (.int (7 : Int32)), .val (.int c1)] [(.long x1)])) _
    refine XS.lloadN X0.here hx rfl (hb hby own_d3_29) rfl ?_
    show Steps p.tables e below (s₁.setTop (mkF m 30 #[.val (.ref a1), .val (.long q2), .second, .val (.int (7 : Int32)), .val (.int c1)] [(.long q2), (.long x1)])) _
    refine XS.lcmp X0.here hx rfl (hb hby own_d3_30) rfl ?_
    exact k
  obtain ⟨c2, hv_c2⟩ : ∃ z : Int32, z = (if q2 < x1 then c1 else (c1 + (1 : Int32))) := ⟨_, rfl⟩
  have g9 : ∀ t, Steps p.tables e below (s₁.setTop (mkF m 37 #[.val (.ref a1), .val (.long q2), .second, .val (.int (7 : Int32)), .val (.int c2)] [])) t → Steps p.tables e below (s₁.setTop (entryFrame m #[(.ref a1), (.long q2)] 5)) t := by
    intro t k
    by_cases hc8 : q2 < x1
    · rw [if_pos hc8] at hv_c2; rw [hv_c2] at k
      refine g7 t ?_
      show Steps p.tables e below (s₁.setTop (mkF m 31 #[.val (.ref a1), .val (.long q2), .second, .val (.int (7 : Int32)), .val (.int c1)] [(.int (lcmpW x1 q2))])) _
      refine XS.ifYes X0.here hx rfl (pc0 := 31) (pc' := 37) rfl (hb hby own_d3_31) rfl ((if0 _ _).trans (tlt ((lw_gt _ _).mpr hc8)).2.2.1) (by decide) (by decide) ?_
      exact k
    · rw [if_neg hc8] at hv_c2; rw [hv_c2] at k
      refine g7 t ?_
      show Steps p.tables e below (s₁.setTop (mkF m 31 #[.val (.ref a1), .val (.long q2), .second, .val (.int (7 : Int32)), .val (.int c1)] [(.int (lcmpW x1 q2))])) _
      refine XS.ifNo X0.here hx rfl (hb hby own_d3_31) rfl ((if0 _ _).trans (flt (fun q => hc8 ((lw_gt _ _).mp q))).2.2.1) ?_
      show Steps p.tables e below (s₁.setTop (mkF m 34 #[.val (.ref a1), .val (.long q2), .second, .val (.int (7 : Int32)), .val (.int c1)] [])) _
      refine XS.iinc X0.here hx rfl (hb hby own_d3_34) rfl (l' := #[.val (.ref a1), .val (.long q2), .second, .val (.int (7 : Int32)), .val (.int (c1 + (1 : Int32)))]) rfl ?_
      exact k
  obtain ⟨c10, Ar10, cq10, S10, Nn10, Hh10, Gg10⟩ := id Va
  have hin10 : ¬ ((2 : Int32) < 0 ∨ c10.slots.size ≤ ((2 : Int32)).toNatClampNeg) := inb_of S10 ⟨by decide, by decide⟩
  have hat10 : c10.slots[((2 : Int32)).toNatClampNeg]? = some (.long x2) := Has.at Hh10 hin10 rfl
  have g11 : ∀ t, Steps p.tables e below (s₁.setTop (mkF m 47 #[.val (.ref a1), .val (.long q2), .second, .val (.int (7 : Int32)), .val (.int c2)] [(.int (lcmpW x2 q2))])) t → Steps p.tables e below (s₁.setTop (entryFrame m #[(.ref a1), (.long q2)] 5)) t := by
    intro t k
    refine g9 t ?_
    show Steps p.tables e below (s₁.setTop (mkF m 37 #[.val (.ref a1), .val (.long q2), .second, .val (.int (7 : Int32)), .val (.int c2)] [])) _
    refine XS.iloadN X0.here hx rfl (hb hby own_d3_37) rfl ?_
    show Steps p.tables e below (s₁.setTop (mkF m 38 #[.val (.ref a1), .val (.long q2), .second, .val (.int (7 : Int32)), .val (.int c2)] [(.int (7 : Int32))])) _
    refine XS.iconst X0.here hx rfl (hb hby own_d3_38) ?_
    show Steps p.tables e below (s₁.setTop (mkF m 39 #[.val (.ref a1), .val (.long q2), .second, .val (.int (7 : Int32)), .val (.int c2)] [(.int (2 : Int32)), (.int (7 : Int32))])) _
    refine XS.icmpNo X0.here hx rfl (hb hby own_d3_39) rfl (tlt (by decide : (2 : Int32) < (7 : Int32))).2.2.2 ?_
    show Steps p.tables e below (s₁.setTop (mkF m 42 #[.val (.ref a1), .val (.long q2), .second, .val (.int (7 : Int32)), .val (.int c2)] [])) _
    refine XS.aloadN X0.here hx rfl (hb hby own_d3_42) rfl rfl ?_
    show Steps p.tables e below (s₁.setTop (mkF m 43 #[.val (.ref a1), .val (.long q2), .second, .val (.int (7 : Int32)), .val (.int c2)] [(.ref a1)])) _
    refine XS.iconst X0.here hx rfl (hb hby own_d3_43) ?_
    show Steps p.tables e below (s₁.setTop (mkF m 44 #[.val (.ref a1), .val (.long q2), .second, .val (.int (7 : Int32)), .val (.int c2)] [(.int (2 : Int32)), (.ref a1)])) _
    refine X0.laload hx (j := (2 : Int32)) (v := (.long x2)) (by rw [e0]; exact Ar10.1) (State.isArrayOf_alike hZ.alike Ar10.2.1) Ar10.2.2 hin10 hat10 (g := (mkF m 44 #[.val (.ref a1), .val (.long q2), .second, .val (.int (7 : Int32)), .val (.int c2)] [(.int (2 : Int32)), (.ref a1)])) rfl rfl (hb hby own_d3_44) _ ?_
    show Steps p.tables e below (s₁.setTop (mkF m 45 #[.val (.ref a1), .val (.long q2), .second, .val (.int (7 : Int32)), .val (.int c2)] [(.long x2)])) _
    refine XS.lloadN X0.here hx rfl (hb hby own_d3_45) rfl ?_
    show Steps p.tables e below (s₁.setTop (mkF m 46 #[.val (.ref a1), .val (.long q2), .second, .val (.int (7 : Int32)), .val (.int c2)] [(.long q2), (.long x2)])) _
    refine XS.lcmp X0.here hx rfl (hb hby own_d3_46) rfl ?_
    exact k
  obtain ⟨c3, hv_c3⟩ : ∃ z : Int32, z = (if q2 < x2 then c2 else (c2 + (1 : Int32))) := ⟨_, rfl⟩
  have g13 : ∀ t, Steps p.tables e below (s₁.setTop (mkF m 53 #[.val (.ref a1), .val (.long q2), .second, .val (.int (7 : Int32)), .val (.int c3)] [])) t → Steps p.tables e below (s₁.setTop (entryFrame m #[(.ref a1), (.long q2)] 5)) t := by
    intro t k
    by_cases hc12 : q2 < x2
    · rw [if_pos hc12] at hv_c3; rw [hv_c3] at k
      refine g11 t ?_
      show Steps p.tables e below (s₁.setTop (mkF m 47 #[.val (.ref a1), .val (.long q2), .second, .val (.int (7 : Int32)), .val (.int c2)] [(.int (lcmpW x2 q2))])) _
      refine XS.ifYes X0.here hx rfl (pc0 := 47) (pc' := 53) rfl (hb hby own_d3_47) rfl ((if0 _ _).trans (tlt ((lw_gt _ _).mpr hc12)).2.2.1) (by decide) (by decide) ?_
      exact k
    · rw [if_neg hc12] at hv_c3; rw [hv_c3] at k
      refine g11 t ?_
      show Steps p.tables e below (s₁.setTop (mkF m 47 #[.val (.ref a1), .val (.long q2), .second, .val (.int (7 : Int32)), .val (.int c2)] [(.int (lcmpW x2 q2))])) _
      refine XS.ifNo X0.here hx rfl (hb hby own_d3_47) rfl ((if0 _ _).trans (flt (fun q => hc12 ((lw_gt _ _).mp q))).2.2.1) ?_
      show Steps p.tables e below (s₁.setTop (mkF m 50 #[.val (.ref a1), .val (.long q2), .second, .val (.int (7 : Int32)), .val (.int c2)] [])) _
      refine XS.iinc X0.here hx rfl (hb hby own_d3_50) rfl (l' := #[.val (.ref a1), .val (.long q2), .second, .val (.int (7 : Int32)), .val (.int (c2 + (1 : Int32)))]) rfl ?_
      exact k
  obtain ⟨c14, Ar14, cq14, S14, Nn14, Hh14, Gg14⟩ := id Va
  have hin14 : ¬ ((3 : Int32) < 0 ∨ c14.slots.size ≤ ((3 : Int32)).toNatClampNeg) := inb_of S14 ⟨by decide, by decide⟩
  have hat14 : c14.slots[((3 : Int32)).toNatClampNeg]? = some (.long x3) := Has.at Hh14 hin14 rfl
  have g15 : ∀ t, Steps p.tables e below (s₁.setTop (mkF m 63 #[.val (.ref a1), .val (.long q2), .second, .val (.int (7 : Int32)), .val (.int c3)] [(.int (lcmpW x3 q2))])) t → Steps p.tables e below (s₁.setTop (entryFrame m #[(.ref a1), (.long q2)] 5)) t := by
    intro t k
    refine g13 t ?_
    show Steps p.tables e below (s₁.setTop (mkF m 53 #[.val (.ref a1), .val (.long q2), .second, .val (.int (7 : Int32)), .val (.int c3)] [])) _
    refine XS.iloadN X0.here hx rfl (hb hby own_d3_53) rfl ?_
    show Steps p.tables e below (s₁.setTop (mkF m 54 #[.val (.ref a1), .val (.long q2), .second, .val (.int (7 : Int32)), .val (.int c3)] [(.int (7 : Int32))])) _
    refine XS.iconst X0.here hx rfl (hb hby own_d3_54) ?_
    show Steps p.tables e below (s₁.setTop (mkF m 55 #[.val (.ref a1), .val (.long q2), .second, .val (.int (7 : Int32)), .val (.int c3)] [(.int (3 : Int32)), (.int (7 : Int32))])) _
    refine XS.icmpNo X0.here hx rfl (hb hby own_d3_55) rfl (tlt (by decide : (3 : Int32) < (7 : Int32))).2.2.2 ?_
    show Steps p.tables e below (s₁.setTop (mkF m 58 #[.val (.ref a1), .val (.long q2), .second, .val (.int (7 : Int32)), .val (.int c3)] [])) _
    refine XS.aloadN X0.here hx rfl (hb hby own_d3_58) rfl rfl ?_
    show Steps p.tables e below (s₁.setTop (mkF m 59 #[.val (.ref a1), .val (.long q2), .second, .val (.int (7 : Int32)), .val (.int c3)] [(.ref a1)])) _
    refine XS.iconst X0.here hx rfl (hb hby own_d3_59) ?_
    show Steps p.tables e below (s₁.setTop (mkF m 60 #[.val (.ref a1), .val (.long q2), .second, .val (.int (7 : Int32)), .val (.int c3)] [(.int (3 : Int32)), (.ref a1)])) _
    refine X0.laload hx (j := (3 : Int32)) (v := (.long x3)) (by rw [e0]; exact Ar14.1) (State.isArrayOf_alike hZ.alike Ar14.2.1) Ar14.2.2 hin14 hat14 (g := (mkF m 60 #[.val (.ref a1), .val (.long q2), .second, .val (.int (7 : Int32)), .val (.int c3)] [(.int (3 : Int32)), (.ref a1)])) rfl rfl (hb hby own_d3_60) _ ?_
    show Steps p.tables e below (s₁.setTop (mkF m 61 #[.val (.ref a1), .val (.long q2), .second, .val (.int (7 : Int32)), .val (.int c3)] [(.long x3)])) _
    refine XS.lloadN X0.here hx rfl (hb hby own_d3_61) rfl ?_
    show Steps p.tables e below (s₁.setTop (mkF m 62 #[.val (.ref a1), .val (.long q2), .second, .val (.int (7 : Int32)), .val (.int c3)] [(.long q2), (.long x3)])) _
    refine XS.lcmp X0.here hx rfl (hb hby own_d3_62) rfl ?_
    exact k
  obtain ⟨c4, hv_c4⟩ : ∃ z : Int32, z = (if q2 < x3 then c3 else (c3 + (1 : Int32))) := ⟨_, rfl⟩
  have g17 : ∀ t, Steps p.tables e below (s₁.setTop (mkF m 69 #[.val (.ref a1), .val (.long q2), .second, .val (.int (7 : Int32)), .val (.int c4)] [])) t → Steps p.tables e below (s₁.setTop (entryFrame m #[(.ref a1), (.long q2)] 5)) t := by
    intro t k
    by_cases hc16 : q2 < x3
    · rw [if_pos hc16] at hv_c4; rw [hv_c4] at k
      refine g15 t ?_
      show Steps p.tables e below (s₁.setTop (mkF m 63 #[.val (.ref a1), .val (.long q2), .second, .val (.int (7 : Int32)), .val (.int c3)] [(.int (lcmpW x3 q2))])) _
      refine XS.ifYes X0.here hx rfl (pc0 := 63) (pc' := 69) rfl (hb hby own_d3_63) rfl ((if0 _ _).trans (tlt ((lw_gt _ _).mpr hc16)).2.2.1) (by decide) (by decide) ?_
      exact k
    · rw [if_neg hc16] at hv_c4; rw [hv_c4] at k
      refine g15 t ?_
      show Steps p.tables e below (s₁.setTop (mkF m 63 #[.val (.ref a1), .val (.long q2), .second, .val (.int (7 : Int32)), .val (.int c3)] [(.int (lcmpW x3 q2))])) _
      refine XS.ifNo X0.here hx rfl (hb hby own_d3_63) rfl ((if0 _ _).trans (flt (fun q => hc16 ((lw_gt _ _).mp q))).2.2.1) ?_
      show Steps p.tables e below (s₁.setTop (mkF m 66 #[.val (.ref a1), .val (.long q2), .second, .val (.int (7 : Int32)), .val (.int c3)] [])) _
      refine XS.iinc X0.here hx rfl (hb hby own_d3_66) rfl (l' := #[.val (.ref a1), .val (.long q2), .second, .val (.int (7 : Int32)), .val (.int (c3 + (1 : Int32)))]) rfl ?_
      exact k
  obtain ⟨c18, Ar18, cq18, S18, Nn18, Hh18, Gg18⟩ := id Va
  have hin18 : ¬ ((4 : Int32) < 0 ∨ c18.slots.size ≤ ((4 : Int32)).toNatClampNeg) := inb_of S18 ⟨by decide, by decide⟩
  have hat18 : c18.slots[((4 : Int32)).toNatClampNeg]? = some (.long x4) := Has.at Hh18 hin18 rfl
  have g19 : ∀ t, Steps p.tables e below (s₁.setTop (mkF m 79 #[.val (.ref a1), .val (.long q2), .second, .val (.int (7 : Int32)), .val (.int c4)] [(.int (lcmpW x4 q2))])) t → Steps p.tables e below (s₁.setTop (entryFrame m #[(.ref a1), (.long q2)] 5)) t := by
    intro t k
    refine g17 t ?_
    show Steps p.tables e below (s₁.setTop (mkF m 69 #[.val (.ref a1), .val (.long q2), .second, .val (.int (7 : Int32)), .val (.int c4)] [])) _
    refine XS.iloadN X0.here hx rfl (hb hby own_d3_69) rfl ?_
    show Steps p.tables e below (s₁.setTop (mkF m 70 #[.val (.ref a1), .val (.long q2), .second, .val (.int (7 : Int32)), .val (.int c4)] [(.int (7 : Int32))])) _
    refine XS.iconst X0.here hx rfl (hb hby own_d3_70) ?_
    show Steps p.tables e below (s₁.setTop (mkF m 71 #[.val (.ref a1), .val (.long q2), .second, .val (.int (7 : Int32)), .val (.int c4)] [(.int (4 : Int32)), (.int (7 : Int32))])) _
    refine XS.icmpNo X0.here hx rfl (hb hby own_d3_71) rfl (tlt (by decide : (4 : Int32) < (7 : Int32))).2.2.2 ?_
    show Steps p.tables e below (s₁.setTop (mkF m 74 #[.val (.ref a1), .val (.long q2), .second, .val (.int (7 : Int32)), .val (.int c4)] [])) _
    refine XS.aloadN X0.here hx rfl (hb hby own_d3_74) rfl rfl ?_
    show Steps p.tables e below (s₁.setTop (mkF m 75 #[.val (.ref a1), .val (.long q2), .second, .val (.int (7 : Int32)), .val (.int c4)] [(.ref a1)])) _
    refine XS.iconst X0.here hx rfl (hb hby own_d3_75) ?_
    show Steps p.tables e below (s₁.setTop (mkF m 76 #[.val (.ref a1), .val (.long q2), .second, .val (.int (7 : Int32)), .val (.int c4)] [(.int (4 : Int32)), (.ref a1)])) _
    refine X0.laload hx (j := (4 : Int32)) (v := (.long x4)) (by rw [e0]; exact Ar18.1) (State.isArrayOf_alike hZ.alike Ar18.2.1) Ar18.2.2 hin18 hat18 (g := (mkF m 76 #[.val (.ref a1), .val (.long q2), .second, .val (.int (7 : Int32)), .val (.int c4)] [(.int (4 : Int32)), (.ref a1)])) rfl rfl (hb hby own_d3_76) _ ?_
    show Steps p.tables e below (s₁.setTop (mkF m 77 #[.val (.ref a1), .val (.long q2), .second, .val (.int (7 : Int32)), .val (.int c4)] [(.long x4)])) _
    refine XS.lloadN X0.here hx rfl (hb hby own_d3_77) rfl ?_
    show Steps p.tables e below (s₁.setTop (mkF m 78 #[.val (.ref a1), .val (.long q2), .second, .val (.int (7 : Int32)), .val (.int c4)] [(.long q2), (.long x4)])) _
    refine XS.lcmp X0.here hx rfl (hb hby own_d3_78) rfl ?_
    exact k
  obtain ⟨c5, hv_c5⟩ : ∃ z : Int32, z = (if q2 < x4 then c4 else (c4 + (1 : Int32))) := ⟨_, rfl⟩
  have g21 : ∀ t, Steps p.tables e below (s₁.setTop (mkF m 85 #[.val (.ref a1), .val (.long q2), .second, .val (.int (7 : Int32)), .val (.int c5)] [])) t → Steps p.tables e below (s₁.setTop (entryFrame m #[(.ref a1), (.long q2)] 5)) t := by
    intro t k
    by_cases hc20 : q2 < x4
    · rw [if_pos hc20] at hv_c5; rw [hv_c5] at k
      refine g19 t ?_
      show Steps p.tables e below (s₁.setTop (mkF m 79 #[.val (.ref a1), .val (.long q2), .second, .val (.int (7 : Int32)), .val (.int c4)] [(.int (lcmpW x4 q2))])) _
      refine XS.ifYes X0.here hx rfl (pc0 := 79) (pc' := 85) rfl (hb hby own_d3_79) rfl ((if0 _ _).trans (tlt ((lw_gt _ _).mpr hc20)).2.2.1) (by decide) (by decide) ?_
      exact k
    · rw [if_neg hc20] at hv_c5; rw [hv_c5] at k
      refine g19 t ?_
      show Steps p.tables e below (s₁.setTop (mkF m 79 #[.val (.ref a1), .val (.long q2), .second, .val (.int (7 : Int32)), .val (.int c4)] [(.int (lcmpW x4 q2))])) _
      refine XS.ifNo X0.here hx rfl (hb hby own_d3_79) rfl ((if0 _ _).trans (flt (fun q => hc20 ((lw_gt _ _).mp q))).2.2.1) ?_
      show Steps p.tables e below (s₁.setTop (mkF m 82 #[.val (.ref a1), .val (.long q2), .second, .val (.int (7 : Int32)), .val (.int c4)] [])) _
      refine XS.iinc X0.here hx rfl (hb hby own_d3_82) rfl (l' := #[.val (.ref a1), .val (.long q2), .second, .val (.int (7 : Int32)), .val (.int (c4 + (1 : Int32)))]) rfl ?_
      exact k
  obtain ⟨c22, Ar22, cq22, S22, Nn22, Hh22, Gg22⟩ := id Va
  have hin22 : ¬ ((5 : Int32) < 0 ∨ c22.slots.size ≤ ((5 : Int32)).toNatClampNeg) := inb_of S22 ⟨by decide, by decide⟩
  have hat22 : c22.slots[((5 : Int32)).toNatClampNeg]? = some (.long x5) := Has.at Hh22 hin22 rfl
  have g23 : ∀ t, Steps p.tables e below (s₁.setTop (mkF m 95 #[.val (.ref a1), .val (.long q2), .second, .val (.int (7 : Int32)), .val (.int c5)] [(.int (lcmpW x5 q2))])) t → Steps p.tables e below (s₁.setTop (entryFrame m #[(.ref a1), (.long q2)] 5)) t := by
    intro t k
    refine g21 t ?_
    show Steps p.tables e below (s₁.setTop (mkF m 85 #[.val (.ref a1), .val (.long q2), .second, .val (.int (7 : Int32)), .val (.int c5)] [])) _
    refine XS.iloadN X0.here hx rfl (hb hby own_d3_85) rfl ?_
    show Steps p.tables e below (s₁.setTop (mkF m 86 #[.val (.ref a1), .val (.long q2), .second, .val (.int (7 : Int32)), .val (.int c5)] [(.int (7 : Int32))])) _
    refine XS.iconst X0.here hx rfl (hb hby own_d3_86) ?_
    show Steps p.tables e below (s₁.setTop (mkF m 87 #[.val (.ref a1), .val (.long q2), .second, .val (.int (7 : Int32)), .val (.int c5)] [(.int (5 : Int32)), (.int (7 : Int32))])) _
    refine XS.icmpNo X0.here hx rfl (hb hby own_d3_87) rfl (tlt (by decide : (5 : Int32) < (7 : Int32))).2.2.2 ?_
    show Steps p.tables e below (s₁.setTop (mkF m 90 #[.val (.ref a1), .val (.long q2), .second, .val (.int (7 : Int32)), .val (.int c5)] [])) _
    refine XS.aloadN X0.here hx rfl (hb hby own_d3_90) rfl rfl ?_
    show Steps p.tables e below (s₁.setTop (mkF m 91 #[.val (.ref a1), .val (.long q2), .second, .val (.int (7 : Int32)), .val (.int c5)] [(.ref a1)])) _
    refine XS.iconst X0.here hx rfl (hb hby own_d3_91) ?_
    show Steps p.tables e below (s₁.setTop (mkF m 92 #[.val (.ref a1), .val (.long q2), .second, .val (.int (7 : Int32)), .val (.int c5)] [(.int (5 : Int32)), (.ref a1)])) _
    refine X0.laload hx (j := (5 : Int32)) (v := (.long x5)) (by rw [e0]; exact Ar22.1) (State.isArrayOf_alike hZ.alike Ar22.2.1) Ar22.2.2 hin22 hat22 (g := (mkF m 92 #[.val (.ref a1), .val (.long q2), .second, .val (.int (7 : Int32)), .val (.int c5)] [(.int (5 : Int32)), (.ref a1)])) rfl rfl (hb hby own_d3_92) _ ?_
    show Steps p.tables e below (s₁.setTop (mkF m 93 #[.val (.ref a1), .val (.long q2), .second, .val (.int (7 : Int32)), .val (.int c5)] [(.long x5)])) _
    refine XS.lloadN X0.here hx rfl (hb hby own_d3_93) rfl ?_
    show Steps p.tables e below (s₁.setTop (mkF m 94 #[.val (.ref a1), .val (.long q2), .second, .val (.int (7 : Int32)), .val (.int c5)] [(.long q2), (.long x5)])) _
    refine XS.lcmp X0.here hx rfl (hb hby own_d3_94) rfl ?_
    exact k
  obtain ⟨c6, hv_c6⟩ : ∃ z : Int32, z = (if q2 < x5 then c5 else (c5 + (1 : Int32))) := ⟨_, rfl⟩
  have g25 : ∀ t, Steps p.tables e below (s₁.setTop (mkF m 101 #[.val (.ref a1), .val (.long q2), .second, .val (.int (7 : Int32)), .val (.int c6)] [])) t → Steps p.tables e below (s₁.setTop (entryFrame m #[(.ref a1), (.long q2)] 5)) t := by
    intro t k
    by_cases hc24 : q2 < x5
    · rw [if_pos hc24] at hv_c6; rw [hv_c6] at k
      refine g23 t ?_
      show Steps p.tables e below (s₁.setTop (mkF m 95 #[.val (.ref a1), .val (.long q2), .second, .val (.int (7 : Int32)), .val (.int c5)] [(.int (lcmpW x5 q2))])) _
      refine XS.ifYes X0.here hx rfl (pc0 := 95) (pc' := 101) rfl (hb hby own_d3_95) rfl ((if0 _ _).trans (tlt ((lw_gt _ _).mpr hc24)).2.2.1) (by decide) (by decide) ?_
      exact k
    · rw [if_neg hc24] at hv_c6; rw [hv_c6] at k
      refine g23 t ?_
      show Steps p.tables e below (s₁.setTop (mkF m 95 #[.val (.ref a1), .val (.long q2), .second, .val (.int (7 : Int32)), .val (.int c5)] [(.int (lcmpW x5 q2))])) _
      refine XS.ifNo X0.here hx rfl (hb hby own_d3_95) rfl ((if0 _ _).trans (flt (fun q => hc24 ((lw_gt _ _).mp q))).2.2.1) ?_
      show Steps p.tables e below (s₁.setTop (mkF m 98 #[.val (.ref a1), .val (.long q2), .second, .val (.int (7 : Int32)), .val (.int c5)] [])) _
      refine XS.iinc X0.here hx rfl (hb hby own_d3_98) rfl (l' := #[.val (.ref a1), .val (.long q2), .second, .val (.int (7 : Int32)), .val (.int (c5 + (1 : Int32)))]) rfl ?_
      exact k
  obtain ⟨c26, Ar26, cq26, S26, Nn26, Hh26, Gg26⟩ := id Va
  have hin26 : ¬ ((6 : Int32) < 0 ∨ c26.slots.size ≤ ((6 : Int32)).toNatClampNeg) := inb_of S26 ⟨by decide, by decide⟩
  have hat26 : c26.slots[((6 : Int32)).toNatClampNeg]? = some (.long x6) := Has.at Hh26 hin26 rfl
  have g27 : ∀ t, Steps p.tables e below (s₁.setTop (mkF m 113 #[.val (.ref a1), .val (.long q2), .second, .val (.int (7 : Int32)), .val (.int c6)] [(.int (lcmpW x6 q2))])) t → Steps p.tables e below (s₁.setTop (entryFrame m #[(.ref a1), (.long q2)] 5)) t := by
    intro t k
    refine g25 t ?_
    show Steps p.tables e below (s₁.setTop (mkF m 101 #[.val (.ref a1), .val (.long q2), .second, .val (.int (7 : Int32)), .val (.int c6)] [])) _
    refine XS.iloadN X0.here hx rfl (hb hby own_d3_101) rfl ?_
    show Steps p.tables e below (s₁.setTop (mkF m 102 #[.val (.ref a1), .val (.long q2), .second, .val (.int (7 : Int32)), .val (.int c6)] [(.int (7 : Int32))])) _
    refine XS.bipush X0.here hx rfl (hb hby own_d3_102) ?_
    show Steps p.tables e below (s₁.setTop (mkF m 104 #[.val (.ref a1), .val (.long q2), .second, .val (.int (7 : Int32)), .val (.int c6)] [(.int (6 : Int32)), (.int (7 : Int32))])) _
    refine XS.icmpNo X0.here hx rfl (hb hby own_d3_104) rfl (tlt (by decide : (6 : Int32) < (7 : Int32))).2.2.2 ?_
    show Steps p.tables e below (s₁.setTop (mkF m 107 #[.val (.ref a1), .val (.long q2), .second, .val (.int (7 : Int32)), .val (.int c6)] [])) _
    refine XS.aloadN X0.here hx rfl (hb hby own_d3_107) rfl rfl ?_
    show Steps p.tables e below (s₁.setTop (mkF m 108 #[.val (.ref a1), .val (.long q2), .second, .val (.int (7 : Int32)), .val (.int c6)] [(.ref a1)])) _
    refine XS.bipush X0.here hx rfl (hb hby own_d3_108) ?_
    show Steps p.tables e below (s₁.setTop (mkF m 110 #[.val (.ref a1), .val (.long q2), .second, .val (.int (7 : Int32)), .val (.int c6)] [(.int (6 : Int32)), (.ref a1)])) _
    refine X0.laload hx (j := (6 : Int32)) (v := (.long x6)) (by rw [e0]; exact Ar26.1) (State.isArrayOf_alike hZ.alike Ar26.2.1) Ar26.2.2 hin26 hat26 (g := (mkF m 110 #[.val (.ref a1), .val (.long q2), .second, .val (.int (7 : Int32)), .val (.int c6)] [(.int (6 : Int32)), (.ref a1)])) rfl rfl (hb hby own_d3_110) _ ?_
    show Steps p.tables e below (s₁.setTop (mkF m 111 #[.val (.ref a1), .val (.long q2), .second, .val (.int (7 : Int32)), .val (.int c6)] [(.long x6)])) _
    refine XS.lloadN X0.here hx rfl (hb hby own_d3_111) rfl ?_
    show Steps p.tables e below (s₁.setTop (mkF m 112 #[.val (.ref a1), .val (.long q2), .second, .val (.int (7 : Int32)), .val (.int c6)] [(.long q2), (.long x6)])) _
    refine XS.lcmp X0.here hx rfl (hb hby own_d3_112) rfl ?_
    exact k
  obtain ⟨c7, hv_c7⟩ : ∃ z : Int32, z = (if q2 < x6 then c6 else (c6 + (1 : Int32))) := ⟨_, rfl⟩
  have g29 : ∀ t, Steps p.tables e below (s₁.setTop (mkF m 119 #[.val (.ref a1), .val (.long q2), .second, .val (.int (7 : Int32)), .val (.int c7)] [])) t → Steps p.tables e below (s₁.setTop (entryFrame m #[(.ref a1), (.long q2)] 5)) t := by
    intro t k
    by_cases hc28 : q2 < x6
    · rw [if_pos hc28] at hv_c7; rw [hv_c7] at k
      refine g27 t ?_
      show Steps p.tables e below (s₁.setTop (mkF m 113 #[.val (.ref a1), .val (.long q2), .second, .val (.int (7 : Int32)), .val (.int c6)] [(.int (lcmpW x6 q2))])) _
      refine XS.ifYes X0.here hx rfl (pc0 := 113) (pc' := 119) rfl (hb hby own_d3_113) rfl ((if0 _ _).trans (tlt ((lw_gt _ _).mpr hc28)).2.2.1) (by decide) (by decide) ?_
      exact k
    · rw [if_neg hc28] at hv_c7; rw [hv_c7] at k
      refine g27 t ?_
      show Steps p.tables e below (s₁.setTop (mkF m 113 #[.val (.ref a1), .val (.long q2), .second, .val (.int (7 : Int32)), .val (.int c6)] [(.int (lcmpW x6 q2))])) _
      refine XS.ifNo X0.here hx rfl (hb hby own_d3_113) rfl ((if0 _ _).trans (flt (fun q => hc28 ((lw_gt _ _).mp q))).2.2.1) ?_
      show Steps p.tables e below (s₁.setTop (mkF m 116 #[.val (.ref a1), .val (.long q2), .second, .val (.int (7 : Int32)), .val (.int c6)] [])) _
      refine XS.iinc X0.here hx rfl (hb hby own_d3_116) rfl (l' := #[.val (.ref a1), .val (.long q2), .second, .val (.int (7 : Int32)), .val (.int (c6 + (1 : Int32)))]) rfl ?_
      exact k
  have g30 : ∀ t, Steps p.tables e below (s₁.setTop (mkF m 139 #[.val (.ref a1), .val (.long q2), .second, .val (.int (7 : Int32)), .val (.int c7)] [(.int c7)])) t → Steps p.tables e below (s₁.setTop (entryFrame m #[(.ref a1), (.long q2)] 5)) t := by
    intro t k
    refine g29 t ?_
    show Steps p.tables e below (s₁.setTop (mkF m 119 #[.val (.ref a1), .val (.long q2), .second, .val (.int (7 : Int32)), .val (.int c7)] [])) _
    refine XS.iloadN X0.here hx rfl (hb hby own_d3_119) rfl ?_
    show Steps p.tables e below (s₁.setTop (mkF m 120 #[.val (.ref a1), .val (.long q2), .second, .val (.int (7 : Int32)), .val (.int c7)] [(.int (7 : Int32))])) _
    refine XS.bipush X0.here hx rfl (hb hby own_d3_120) ?_
    show Steps p.tables e below (s₁.setTop (mkF m 122 #[.val (.ref a1), .val (.long q2), .second, .val (.int (7 : Int32)), .val (.int c7)] [(.int (7 : Int32)), (.int (7 : Int32))])) _
    refine XS.icmpYes X0.here hx rfl (pc0 := 122) (pc' := 137) rfl (hb hby own_d3_122) rfl (flt (by decide : ¬ ((7 : Int32) < (7 : Int32)))).2.2.2 (by decide) (by decide) ?_
    show Steps p.tables e below (s₁.setTop (mkF m 137 #[.val (.ref a1), .val (.long q2), .second, .val (.int (7 : Int32)), .val (.int c7)] [])) _
    refine XS.iload X0.here hx rfl (hb hby own_d3_137) rfl ?_
    exact k
  obtain ⟨fs, hrt, hrun, hended, hW, hsame⟩ := X0.leave (v := some (.int c7)) (fun h => by rw [Bd.returns] at h; cases h)
  refine ⟨_, _, g30 _ ?_, hrun, hended, _, _, rfl, ?_, ⟨_, rfl⟩, hW, hsame.mono (by decide) (by decide)⟩
  · show Steps p.tables e below (s₁.setTop (mkF m 139 #[.val (.ref a1), .val (.long q2), .second, .val (.int (7 : Int32)), .val (.int c7)] [(.int c7)])) _
    exact retI X0 hx Bd.returns (hb hby own_d3_139) hrt
  · show own_Q_rmcountLe7 Z a1 ka x0 x1 x2 x3 x4 x5 x6 q2 r h0 n0 _ s₁.heap _
    rw [e0]
    exact ⟨by rw [← hr]; subst hv_c1; subst hv_c2; subst hv_c3; subst hv_c4; subst hv_c5; subst hv_c6; subst hv_c7; rfl, N0, rfl⟩
theorem own_ef22 (m : MethodId) (x0 : Addr) (x1 : Int64) : entryFrame m #[(.ref x0), (.long x1)] 5 = mkF m 0 #[.val (.ref x0), .val (.long x1), .second, .unset, .unset] [] := by first | (simp [entryFrame, mkF, argsToLocals, Value.category]; done) | rfl
theorem own_d4_107 : decode method_4_code 107 = .ok (.aload_n 0, 1) := by decide +kernel
theorem own_d4_108 : decode method_4_code 108 = .ok (.bipush 6, 2) := by decide +kernel
theorem own_d4_110 : decode method_4_code 110 = .ok (.laload, 1) := by decide +kernel
theorem own_d4_111 : decode method_4_code 111 = .ok (.lload_n 1, 1) := by decide +kernel
theorem own_d4_112 : decode method_4_code 112 = .ok (.lcmp, 1) := by decide +kernel
theorem own_d4_113 : decode method_4_code 113 = .ok (.ifCond .ge 6, 3) := by decide +kernel
theorem own_d4_116 : decode method_4_code 116 = .ok (.iinc 4 1, 3) := by decide +kernel
def own_Q_rmcountLt7 (Z : State) (a1 : Addr) (ka : ClassId) (x0 x1 x2 x3 x4 x5 x6 q2 : Int64) (r : Int32) (h0 : Heap) (n0 : Nat) (v : Option Value) (h : Heap) (L : List Loc) : Prop := v = some (.int r) ∧ Fr n0 L ∧ h = h0
set_option maxRecDepth 65536 in
set_option maxHeartbeats 40000000 in
theorem rmcountLt7 (l : Launch) (Z : State) (a0 : Array Value) (hw : ∀ d ∈ tables_1, d.before a0 Z = true) (ws : List Jvm.Cond) (a1 : Addr) (ka : ClassId) (x0 x1 x2 x3 x4 x5 x6 q2 : Int64) (r : Int32) (h0 : Heap) (n0 : Nat) (O0 : Old Z n0 h0) (Va : Arv Z h0 a1 ka .long (7 : Int32) [(.long x0), (.long x1), (.long x2), (.long x3), (.long x4), (.long x5), (.long x6)] (.long (0 : Int64))) (hr : own_clt q2 [x0, x1, x2, x3, x4, x5, x6] 0 = r) :
    MetFree l (⟨"orderwire/bench/LatencyPercentilePinLaw", "countLt", "([JJ)I"⟩ : MethodName) (head1 (Jvm.Cond.code (⟨"orderwire/bench/LatencyPercentilePinLaw", "countLt", "([JJ)I"⟩ : MethodName) method_4_code 5 (some .int) :: ws) ({ frames := 0, cells := 0, slots := 0, locals := 0 } : Room)) (fun a U => a = #[(.ref a1), (.long q2)] ∧ Z.Warmed39 U.vm ∧ U.heap = h0) (fun _ _ _ _ _ => True) (fun _ U o U' => ∃ v L, o = .returned v ∧ own_Q_rmcountLt7 Z a1 ka x0 x1 x2 x3 x4 x5 x6 q2 r h0 n0 v U'.heap L ∧ FrameEnd U o U' L ({ frames := 0, cells := 0, slots := 0, locals := 0 } : Room).cells ({ frames := 0, cells := 0, slots := 0, locals := 0 } : Room).slots) := by
  refine MetFree.of_bodySF (plainFor_of_name own_pn1) hisR ?_
  intro p e s m args below meth c s₁ Bd hml0 hP hK
  obtain ⟨rfl, hZ, hh⟩ := hP
  have hx := Bd.exec
  have hby := Bd.bytes
  have hml : c.maxLocals = 5 := hml0
  have hown : s.vm.findClass "orderwire/bench/LatencyPercentilePinLaw" = some m.cls := findClass_of_methodNamed Bd.named
  have hnm := (name_of_methodNamed Bd.named Bd.method).1
  have X0 : Stand p l e ({ frames := 0, cells := 0, slots := 0, locals := 0 } : Room) s m #[(.ref a1), (.long q2)] below meth c s₁ [] 0 0 := Stand.of_body Bd
  have e0 : s₁.heap = h0 := by rw [← hh, Bd.state]; rfl
  have N0 := Fr.nil n0
  have Z0 : n0 ≤ h0.size := O0.1 ▸ O0.2.1
  have g0 : ∀ t, Steps p.tables e below (s₁.setTop (mkF m 0 #[.val (.ref a1), .val (.long q2), .second, .unset, .unset] [])) t → Steps p.tables e below (s₁.setTop (entryFrame m #[(.ref a1), (.long q2)] 5)) t := fun t k => castTop (own_ef22 m (a1) (q2)) k
  obtain ⟨c1, Ar1, cq1, S1, Nn1, Hh1, Gg1⟩ := id Va
  obtain ⟨c2, Ar2, cq2, S2, Nn2, Hh2, Gg2⟩ := id Va
  have hin2 : ¬ ((0 : Int32) < 0 ∨ c2.slots.size ≤ ((0 : Int32)).toNatClampNeg) := inb_of S2 ⟨by decide, by decide⟩
  have hat2 : c2.slots[((0 : Int32)).toNatClampNeg]? = some (.long x0) := Has.at Hh2 hin2 rfl
  have g3 : ∀ t, Steps p.tables e below (s₁.setTop (mkF m 15 #[.val (.ref a1), .val (.long q2), .second, .val (.int (7 : Int32)), .val (.int (0 : Int32))] [(.int (lcmpW x0 q2))])) t → Steps p.tables e below (s₁.setTop (entryFrame m #[(.ref a1), (.long q2)] 5)) t := by
    intro t k
    refine g0 t ?_
    show Steps p.tables e below (s₁.setTop (mkF m 0 #[.val (.ref a1), .val (.long q2), .second, .unset, .unset] [])) _
    refine XS.aloadN X0.here hx rfl (hb hby own_d4_0) rfl rfl ?_
    show Steps p.tables e below (s₁.setTop (mkF m 1 #[.val (.ref a1), .val (.long q2), .second, .unset, .unset] [(.ref a1)])) _
    refine X0.arraylength hx (by rw [e0]; exact Ar1.1) (State.isArrayOf_alike hZ.alike Ar1.2.1) (g := (mkF m 1 #[.val (.ref a1), .val (.long q2), .second, .unset, .unset] [(.ref a1)])) rfl rfl (hb hby own_d4_1) _ ?_
    rw [len_of S1 Nn1]
    show Steps p.tables e below (s₁.setTop (mkF m 2 #[.val (.ref a1), .val (.long q2), .second, .unset, .unset] [(.int (7 : Int32))])) _
    refine XS.istoreN X0.here hx rfl (hb hby own_d4_2) rfl (l' := #[.val (.ref a1), .val (.long q2), .second, .val (.int (7 : Int32)), .unset]) rfl ?_
    show Steps p.tables e below (s₁.setTop (mkF m 3 #[.val (.ref a1), .val (.long q2), .second, .val (.int (7 : Int32)), .unset] [])) _
    refine XS.iconst X0.here hx rfl (hb hby own_d4_3) ?_
    show Steps p.tables e below (s₁.setTop (mkF m 4 #[.val (.ref a1), .val (.long q2), .second, .val (.int (7 : Int32)), .unset] [(.int (0 : Int32))])) _
    refine XS.istore X0.here hx rfl (hb hby own_d4_4) rfl (l' := #[.val (.ref a1), .val (.long q2), .second, .val (.int (7 : Int32)), .val (.int (0 : Int32))]) rfl ?_
    show Steps p.tables e below (s₁.setTop (mkF m 6 #[.val (.ref a1), .val (.long q2), .second, .val (.int (7 : Int32)), .val (.int (0 : Int32))] [])) _
    refine XS.iloadN X0.here hx rfl (hb hby own_d4_6) rfl ?_
    show Steps p.tables e below (s₁.setTop (mkF m 7 #[.val (.ref a1), .val (.long q2), .second, .val (.int (7 : Int32)), .val (.int (0 : Int32))] [(.int (7 : Int32))])) _
    refine XS.ifNo X0.here hx rfl (hb hby own_d4_7) rfl ((if0 _ _).trans (tlt (by decide : (0 : Int32) < (7 : Int32))).2.2.2) ?_
    show Steps p.tables e below (s₁.setTop (mkF m 10 #[.val (.ref a1), .val (.long q2), .second, .val (.int (7 : Int32)), .val (.int (0 : Int32))] [])) _
    refine XS.aloadN X0.here hx rfl (hb hby own_d4_10) rfl rfl ?_
    show Steps p.tables e below (s₁.setTop (mkF m 11 #[.val (.ref a1), .val (.long q2), .second, .val (.int (7 : Int32)), .val (.int (0 : Int32))] [(.ref a1)])) _
    refine XS.iconst X0.here hx rfl (hb hby own_d4_11) ?_
    show Steps p.tables e below (s₁.setTop (mkF m 12 #[.val (.ref a1), .val (.long q2), .second, .val (.int (7 : Int32)), .val (.int (0 : Int32))] [(.int (0 : Int32)), (.ref a1)])) _
    refine X0.laload hx (j := (0 : Int32)) (v := (.long x0)) (by rw [e0]; exact Ar2.1) (State.isArrayOf_alike hZ.alike Ar2.2.1) Ar2.2.2 hin2 hat2 (g := (mkF m 12 #[.val (.ref a1), .val (.long q2), .second, .val (.int (7 : Int32)), .val (.int (0 : Int32))] [(.int (0 : Int32)), (.ref a1)])) rfl rfl (hb hby own_d4_12) _ ?_
    show Steps p.tables e below (s₁.setTop (mkF m 13 #[.val (.ref a1), .val (.long q2), .second, .val (.int (7 : Int32)), .val (.int (0 : Int32))] [(.long x0)])) _
    refine XS.lloadN X0.here hx rfl (hb hby own_d4_13) rfl ?_
    show Steps p.tables e below (s₁.setTop (mkF m 14 #[.val (.ref a1), .val (.long q2), .second, .val (.int (7 : Int32)), .val (.int (0 : Int32))] [(.long q2), (.long x0)])) _
    refine XS.lcmp X0.here hx rfl (hb hby own_d4_14) rfl ?_
    exact k
  obtain ⟨c1, hv_c1⟩ : ∃ z : Int32, z = (if x0 < q2 then ((0 : Int32) + (1 : Int32)) else (0 : Int32)) := ⟨_, rfl⟩
  have g5 : ∀ t, Steps p.tables e below (s₁.setTop (mkF m 21 #[.val (.ref a1), .val (.long q2), .second, .val (.int (7 : Int32)), .val (.int c1)] [])) t → Steps p.tables e below (s₁.setTop (entryFrame m #[(.ref a1), (.long q2)] 5)) t := by
    intro t k
    by_cases hc4 : x0 < q2
    · rw [if_pos hc4] at hv_c1; rw [hv_c1] at k
      refine g3 t ?_
      show Steps p.tables e below (s₁.setTop (mkF m 15 #[.val (.ref a1), .val (.long q2), .second, .val (.int (7 : Int32)), .val (.int (0 : Int32))] [(.int (lcmpW x0 q2))])) _
      refine XS.ifNo X0.here hx rfl (hb hby own_d4_15) rfl ((if0 _ _).trans (tlt ((lw_lt _ _).mpr hc4)).2.1) ?_
      show Steps p.tables e below (s₁.setTop (mkF m 18 #[.val (.ref a1), .val (.long q2), .second, .val (.int (7 : Int32)), .val (.int (0 : Int32))] [])) _
      refine XS.iinc X0.here hx rfl (hb hby own_d4_18) rfl (l' := #[.val (.ref a1), .val (.long q2), .second, .val (.int (7 : Int32)), .val (.int ((0 : Int32) + (1 : Int32)))]) rfl ?_
      exact k
    · rw [if_neg hc4] at hv_c1; rw [hv_c1] at k
      refine g3 t ?_
      show Steps p.tables e below (s₁.setTop (mkF m 15 #[.val (.ref a1), .val (.long q2), .second, .val (.int (7 : Int32)), .val (.int (0 : Int32))] [(.int (lcmpW x0 q2))])) _
      refine XS.ifYes X0.here hx rfl (pc0 := 15) (pc' := 21) rfl (hb hby own_d4_15) rfl ((if0 _ _).trans (flt (fun q => hc4 ((lw_lt _ _).mp q))).2.1) (by decide) (by decide) ?_
      exact k
  obtain ⟨c6, Ar6, cq6, S6, Nn6, Hh6, Gg6⟩ := id Va
  have hin6 : ¬ ((1 : Int32) < 0 ∨ c6.slots.size ≤ ((1 : Int32)).toNatClampNeg) := inb_of S6 ⟨by decide, by decide⟩
  have hat6 : c6.slots[((1 : Int32)).toNatClampNeg]? = some (.long x1) := Has.at Hh6 hin6 rfl
  have g7 : ∀ t, Steps p.tables e below (s₁.setTop (mkF m 31 #[.val (.ref a1), .val (.long q2), .second, .val (.int (7 : Int32)), .val (.int c1)] [(.int (lcmpW x1 q2))])) t → Steps p.tables e below (s₁.setTop (entryFrame m #[(.ref a1), (.long q2)] 5)) t := by
    intro t k
    refine g5 t ?_
    show Steps p.tables e below (s₁.setTop (mkF m 21 #[.val (.ref a1), .val (.long q2), .second, .val (.int (7 : Int32)), .val (.int c1)] [])) _
    refine XS.iloadN X0.here hx rfl (hb hby own_d4_21) rfl ?_
    show Steps p.tables e below (s₁.setTop (mkF m 22 #[.val (.ref a1), .val (.long q2), .second, .val (.int (7 : Int32)), .val (.int c1)] [(.int (7 : Int32))])) _
    refine XS.iconst X0.here hx rfl (hb hby own_d4_22) ?_
    show Steps p.tables e below (s₁.setTop (mkF m 23 #[.val (.ref a1), .val (.long q2), .second, .val (.int (7 : Int32)), .val (.int c1)] [(.int (1 : Int32)), (.int (7 : Int32))])) _
    refine XS.icmpNo X0.here hx rfl (hb hby own_d4_23) rfl (tlt (by decide : (1 : Int32) < (7 : Int32))).2.2.2 ?_
    show Steps p.tables e below (s₁.setTop (mkF m 26 #[.val (.ref a1), .val (.long q2), .second, .val (.int (7 : Int32)), .val (.int c1)] [])) _
    refine XS.aloadN X0.here hx rfl (hb hby own_d4_26) rfl rfl ?_
    show Steps p.tables e below (s₁.setTop (mkF m 27 #[.val (.ref a1), .val (.long q2), .second, .val (.int (7 : Int32)), .val (.int c1)] [(.ref a1)])) _
    refine XS.iconst X0.here hx rfl (hb hby own_d4_27) ?_
    show Steps p.tables e below (s₁.setTop (mkF m 28 #[.val (.ref a1), .val (.long q2), .second, .val (.int (7 : Int32)), .val (.int c1)] [(.int (1 : Int32)), (.ref a1)])) _
    refine X0.laload hx (j := (1 : Int32)) (v := (.long x1)) (by rw [e0]; exact Ar6.1) (State.isArrayOf_alike hZ.alike Ar6.2.1) Ar6.2.2 hin6 hat6 (g := (mkF m 28 #[.val (.ref a1), .val (.long q2), .second, .val (.int (7 : Int32)), .val (.int c1)] [(.int (1 : Int32)), (.ref a1)])) rfl rfl (hb hby own_d4_28) _ ?_
    show Steps p.tables e below (s₁.setTop (mkF m 29 #[.val (.ref a1), .val (.long q2), .second, .val (.int (7 : Int32)), .val (.int c1)] [(.long x1)])) _
    refine XS.lloadN X0.here hx rfl (hb hby own_d4_29) rfl ?_
    show Steps p.tables e below (s₁.setTop (mkF m 30 #[.val (.ref a1), .val (.long q2), .second, .val (.int (7 : Int32)), .val (.int c1)] [(.long q2), (.long x1)])) _
    refine XS.lcmp X0.here hx rfl (hb hby own_d4_30) rfl ?_
    exact k
  obtain ⟨c2, hv_c2⟩ : ∃ z : Int32, z = (if x1 < q2 then (c1 + (1 : Int32)) else c1) := ⟨_, rfl⟩
  have g9 : ∀ t, Steps p.tables e below (s₁.setTop (mkF m 37 #[.val (.ref a1), .val (.long q2), .second, .val (.int (7 : Int32)), .val (.int c2)] [])) t → Steps p.tables e below (s₁.setTop (entryFrame m #[(.ref a1), (.long q2)] 5)) t := by
    intro t k
    by_cases hc8 : x1 < q2
    · rw [if_pos hc8] at hv_c2; rw [hv_c2] at k
      refine g7 t ?_
      show Steps p.tables e below (s₁.setTop (mkF m 31 #[.val (.ref a1), .val (.long q2), .second, .val (.int (7 : Int32)), .val (.int c1)] [(.int (lcmpW x1 q2))])) _
      refine XS.ifNo X0.here hx rfl (hb hby own_d4_31) rfl ((if0 _ _).trans (tlt ((lw_lt _ _).mpr hc8)).2.1) ?_
      show Steps p.tables e below (s₁.setTop (mkF m 34 #[.val (.ref a1), .val (.long q2), .second, .val (.int (7 : Int32)), .val (.int c1)] [])) _
      refine XS.iinc X0.here hx rfl (hb hby own_d4_34) rfl (l' := #[.val (.ref a1), .val (.long q2), .second, .val (.int (7 : Int32)), .val (.int (c1 + (1 : Int32)))]) rfl ?_
      exact k
    · rw [if_neg hc8] at hv_c2; rw [hv_c2] at k
      refine g7 t ?_
      show Steps p.tables e below (s₁.setTop (mkF m 31 #[.val (.ref a1), .val (.long q2), .second, .val (.int (7 : Int32)), .val (.int c1)] [(.int (lcmpW x1 q2))])) _
      refine XS.ifYes X0.here hx rfl (pc0 := 31) (pc' := 37) rfl (hb hby own_d4_31) rfl ((if0 _ _).trans (flt (fun q => hc8 ((lw_lt _ _).mp q))).2.1) (by decide) (by decide) ?_
      exact k
  obtain ⟨c10, Ar10, cq10, S10, Nn10, Hh10, Gg10⟩ := id Va
  have hin10 : ¬ ((2 : Int32) < 0 ∨ c10.slots.size ≤ ((2 : Int32)).toNatClampNeg) := inb_of S10 ⟨by decide, by decide⟩
  have hat10 : c10.slots[((2 : Int32)).toNatClampNeg]? = some (.long x2) := Has.at Hh10 hin10 rfl
  have g11 : ∀ t, Steps p.tables e below (s₁.setTop (mkF m 47 #[.val (.ref a1), .val (.long q2), .second, .val (.int (7 : Int32)), .val (.int c2)] [(.int (lcmpW x2 q2))])) t → Steps p.tables e below (s₁.setTop (entryFrame m #[(.ref a1), (.long q2)] 5)) t := by
    intro t k
    refine g9 t ?_
    show Steps p.tables e below (s₁.setTop (mkF m 37 #[.val (.ref a1), .val (.long q2), .second, .val (.int (7 : Int32)), .val (.int c2)] [])) _
    refine XS.iloadN X0.here hx rfl (hb hby own_d4_37) rfl ?_
    show Steps p.tables e below (s₁.setTop (mkF m 38 #[.val (.ref a1), .val (.long q2), .second, .val (.int (7 : Int32)), .val (.int c2)] [(.int (7 : Int32))])) _
    refine XS.iconst X0.here hx rfl (hb hby own_d4_38) ?_
    show Steps p.tables e below (s₁.setTop (mkF m 39 #[.val (.ref a1), .val (.long q2), .second, .val (.int (7 : Int32)), .val (.int c2)] [(.int (2 : Int32)), (.int (7 : Int32))])) _
    refine XS.icmpNo X0.here hx rfl (hb hby own_d4_39) rfl (tlt (by decide : (2 : Int32) < (7 : Int32))).2.2.2 ?_
    show Steps p.tables e below (s₁.setTop (mkF m 42 #[.val (.ref a1), .val (.long q2), .second, .val (.int (7 : Int32)), .val (.int c2)] [])) _
    refine XS.aloadN X0.here hx rfl (hb hby own_d4_42) rfl rfl ?_
    show Steps p.tables e below (s₁.setTop (mkF m 43 #[.val (.ref a1), .val (.long q2), .second, .val (.int (7 : Int32)), .val (.int c2)] [(.ref a1)])) _
    refine XS.iconst X0.here hx rfl (hb hby own_d4_43) ?_
    show Steps p.tables e below (s₁.setTop (mkF m 44 #[.val (.ref a1), .val (.long q2), .second, .val (.int (7 : Int32)), .val (.int c2)] [(.int (2 : Int32)), (.ref a1)])) _
    refine X0.laload hx (j := (2 : Int32)) (v := (.long x2)) (by rw [e0]; exact Ar10.1) (State.isArrayOf_alike hZ.alike Ar10.2.1) Ar10.2.2 hin10 hat10 (g := (mkF m 44 #[.val (.ref a1), .val (.long q2), .second, .val (.int (7 : Int32)), .val (.int c2)] [(.int (2 : Int32)), (.ref a1)])) rfl rfl (hb hby own_d4_44) _ ?_
    show Steps p.tables e below (s₁.setTop (mkF m 45 #[.val (.ref a1), .val (.long q2), .second, .val (.int (7 : Int32)), .val (.int c2)] [(.long x2)])) _
    refine XS.lloadN X0.here hx rfl (hb hby own_d4_45) rfl ?_
    show Steps p.tables e below (s₁.setTop (mkF m 46 #[.val (.ref a1), .val (.long q2), .second, .val (.int (7 : Int32)), .val (.int c2)] [(.long q2), (.long x2)])) _
    refine XS.lcmp X0.here hx rfl (hb hby own_d4_46) rfl ?_
    exact k
  obtain ⟨c3, hv_c3⟩ : ∃ z : Int32, z = (if x2 < q2 then (c2 + (1 : Int32)) else c2) := ⟨_, rfl⟩
  have g13 : ∀ t, Steps p.tables e below (s₁.setTop (mkF m 53 #[.val (.ref a1), .val (.long q2), .second, .val (.int (7 : Int32)), .val (.int c3)] [])) t → Steps p.tables e below (s₁.setTop (entryFrame m #[(.ref a1), (.long q2)] 5)) t := by
    intro t k
    by_cases hc12 : x2 < q2
    · rw [if_pos hc12] at hv_c3; rw [hv_c3] at k
      refine g11 t ?_
      show Steps p.tables e below (s₁.setTop (mkF m 47 #[.val (.ref a1), .val (.long q2), .second, .val (.int (7 : Int32)), .val (.int c2)] [(.int (lcmpW x2 q2))])) _
      refine XS.ifNo X0.here hx rfl (hb hby own_d4_47) rfl ((if0 _ _).trans (tlt ((lw_lt _ _).mpr hc12)).2.1) ?_
      show Steps p.tables e below (s₁.setTop (mkF m 50 #[.val (.ref a1), .val (.long q2), .second, .val (.int (7 : Int32)), .val (.int c2)] [])) _
      refine XS.iinc X0.here hx rfl (hb hby own_d4_50) rfl (l' := #[.val (.ref a1), .val (.long q2), .second, .val (.int (7 : Int32)), .val (.int (c2 + (1 : Int32)))]) rfl ?_
      exact k
    · rw [if_neg hc12] at hv_c3; rw [hv_c3] at k
      refine g11 t ?_
      show Steps p.tables e below (s₁.setTop (mkF m 47 #[.val (.ref a1), .val (.long q2), .second, .val (.int (7 : Int32)), .val (.int c2)] [(.int (lcmpW x2 q2))])) _
      refine XS.ifYes X0.here hx rfl (pc0 := 47) (pc' := 53) rfl (hb hby own_d4_47) rfl ((if0 _ _).trans (flt (fun q => hc12 ((lw_lt _ _).mp q))).2.1) (by decide) (by decide) ?_
      exact k
  obtain ⟨c14, Ar14, cq14, S14, Nn14, Hh14, Gg14⟩ := id Va
  have hin14 : ¬ ((3 : Int32) < 0 ∨ c14.slots.size ≤ ((3 : Int32)).toNatClampNeg) := inb_of S14 ⟨by decide, by decide⟩
  have hat14 : c14.slots[((3 : Int32)).toNatClampNeg]? = some (.long x3) := Has.at Hh14 hin14 rfl
  have g15 : ∀ t, Steps p.tables e below (s₁.setTop (mkF m 63 #[.val (.ref a1), .val (.long q2), .second, .val (.int (7 : Int32)), .val (.int c3)] [(.int (lcmpW x3 q2))])) t → Steps p.tables e below (s₁.setTop (entryFrame m #[(.ref a1), (.long q2)] 5)) t := by
    intro t k
    refine g13 t ?_
    show Steps p.tables e below (s₁.setTop (mkF m 53 #[.val (.ref a1), .val (.long q2), .second, .val (.int (7 : Int32)), .val (.int c3)] [])) _
    refine XS.iloadN X0.here hx rfl (hb hby own_d4_53) rfl ?_
    show Steps p.tables e below (s₁.setTop (mkF m 54 #[.val (.ref a1), .val (.long q2), .second, .val (.int (7 : Int32)), .val (.int c3)] [(.int (7 : Int32))])) _
    refine XS.iconst X0.here hx rfl (hb hby own_d4_54) ?_
    show Steps p.tables e below (s₁.setTop (mkF m 55 #[.val (.ref a1), .val (.long q2), .second, .val (.int (7 : Int32)), .val (.int c3)] [(.int (3 : Int32)), (.int (7 : Int32))])) _
    refine XS.icmpNo X0.here hx rfl (hb hby own_d4_55) rfl (tlt (by decide : (3 : Int32) < (7 : Int32))).2.2.2 ?_
    show Steps p.tables e below (s₁.setTop (mkF m 58 #[.val (.ref a1), .val (.long q2), .second, .val (.int (7 : Int32)), .val (.int c3)] [])) _
    refine XS.aloadN X0.here hx rfl (hb hby own_d4_58) rfl rfl ?_
    show Steps p.tables e below (s₁.setTop (mkF m 59 #[.val (.ref a1), .val (.long q2), .second, .val (.int (7 : Int32)), .val (.int c3)] [(.ref a1)])) _
    refine XS.iconst X0.here hx rfl (hb hby own_d4_59) ?_
    show Steps p.tables e below (s₁.setTop (mkF m 60 #[.val (.ref a1), .val (.long q2), .second, .val (.int (7 : Int32)), .val (.int c3)] [(.int (3 : Int32)), (.ref a1)])) _
    refine X0.laload hx (j := (3 : Int32)) (v := (.long x3)) (by rw [e0]; exact Ar14.1) (State.isArrayOf_alike hZ.alike Ar14.2.1) Ar14.2.2 hin14 hat14 (g := (mkF m 60 #[.val (.ref a1), .val (.long q2), .second, .val (.int (7 : Int32)), .val (.int c3)] [(.int (3 : Int32)), (.ref a1)])) rfl rfl (hb hby own_d4_60) _ ?_
    show Steps p.tables e below (s₁.setTop (mkF m 61 #[.val (.ref a1), .val (.long q2), .second, .val (.int (7 : Int32)), .val (.int c3)] [(.long x3)])) _
    refine XS.lloadN X0.here hx rfl (hb hby own_d4_61) rfl ?_
    show Steps p.tables e below (s₁.setTop (mkF m 62 #[.val (.ref a1), .val (.long q2), .second, .val (.int (7 : Int32)), .val (.int c3)] [(.long q2), (.long x3)])) _
    refine XS.lcmp X0.here hx rfl (hb hby own_d4_62) rfl ?_
    exact k
  obtain ⟨c4, hv_c4⟩ : ∃ z : Int32, z = (if x3 < q2 then (c3 + (1 : Int32)) else c3) := ⟨_, rfl⟩
  have g17 : ∀ t, Steps p.tables e below (s₁.setTop (mkF m 69 #[.val (.ref a1), .val (.long q2), .second, .val (.int (7 : Int32)), .val (.int c4)] [])) t → Steps p.tables e below (s₁.setTop (entryFrame m #[(.ref a1), (.long q2)] 5)) t := by
    intro t k
    by_cases hc16 : x3 < q2
    · rw [if_pos hc16] at hv_c4; rw [hv_c4] at k
      refine g15 t ?_
      show Steps p.tables e below (s₁.setTop (mkF m 63 #[.val (.ref a1), .val (.long q2), .second, .val (.int (7 : Int32)), .val (.int c3)] [(.int (lcmpW x3 q2))])) _
      refine XS.ifNo X0.here hx rfl (hb hby own_d4_63) rfl ((if0 _ _).trans (tlt ((lw_lt _ _).mpr hc16)).2.1) ?_
      show Steps p.tables e below (s₁.setTop (mkF m 66 #[.val (.ref a1), .val (.long q2), .second, .val (.int (7 : Int32)), .val (.int c3)] [])) _
      refine XS.iinc X0.here hx rfl (hb hby own_d4_66) rfl (l' := #[.val (.ref a1), .val (.long q2), .second, .val (.int (7 : Int32)), .val (.int (c3 + (1 : Int32)))]) rfl ?_
      exact k
    · rw [if_neg hc16] at hv_c4; rw [hv_c4] at k
      refine g15 t ?_
      show Steps p.tables e below (s₁.setTop (mkF m 63 #[.val (.ref a1), .val (.long q2), .second, .val (.int (7 : Int32)), .val (.int c3)] [(.int (lcmpW x3 q2))])) _
      refine XS.ifYes X0.here hx rfl (pc0 := 63) (pc' := 69) rfl (hb hby own_d4_63) rfl ((if0 _ _).trans (flt (fun q => hc16 ((lw_lt _ _).mp q))).2.1) (by decide) (by decide) ?_
      exact k
  obtain ⟨c18, Ar18, cq18, S18, Nn18, Hh18, Gg18⟩ := id Va
  have hin18 : ¬ ((4 : Int32) < 0 ∨ c18.slots.size ≤ ((4 : Int32)).toNatClampNeg) := inb_of S18 ⟨by decide, by decide⟩
  have hat18 : c18.slots[((4 : Int32)).toNatClampNeg]? = some (.long x4) := Has.at Hh18 hin18 rfl
  have g19 : ∀ t, Steps p.tables e below (s₁.setTop (mkF m 79 #[.val (.ref a1), .val (.long q2), .second, .val (.int (7 : Int32)), .val (.int c4)] [(.int (lcmpW x4 q2))])) t → Steps p.tables e below (s₁.setTop (entryFrame m #[(.ref a1), (.long q2)] 5)) t := by
    intro t k
    refine g17 t ?_
    show Steps p.tables e below (s₁.setTop (mkF m 69 #[.val (.ref a1), .val (.long q2), .second, .val (.int (7 : Int32)), .val (.int c4)] [])) _
    refine XS.iloadN X0.here hx rfl (hb hby own_d4_69) rfl ?_
    show Steps p.tables e below (s₁.setTop (mkF m 70 #[.val (.ref a1), .val (.long q2), .second, .val (.int (7 : Int32)), .val (.int c4)] [(.int (7 : Int32))])) _
    refine XS.iconst X0.here hx rfl (hb hby own_d4_70) ?_
    show Steps p.tables e below (s₁.setTop (mkF m 71 #[.val (.ref a1), .val (.long q2), .second, .val (.int (7 : Int32)), .val (.int c4)] [(.int (4 : Int32)), (.int (7 : Int32))])) _
    refine XS.icmpNo X0.here hx rfl (hb hby own_d4_71) rfl (tlt (by decide : (4 : Int32) < (7 : Int32))).2.2.2 ?_
    show Steps p.tables e below (s₁.setTop (mkF m 74 #[.val (.ref a1), .val (.long q2), .second, .val (.int (7 : Int32)), .val (.int c4)] [])) _
    refine XS.aloadN X0.here hx rfl (hb hby own_d4_74) rfl rfl ?_
    show Steps p.tables e below (s₁.setTop (mkF m 75 #[.val (.ref a1), .val (.long q2), .second, .val (.int (7 : Int32)), .val (.int c4)] [(.ref a1)])) _
    refine XS.iconst X0.here hx rfl (hb hby own_d4_75) ?_
    show Steps p.tables e below (s₁.setTop (mkF m 76 #[.val (.ref a1), .val (.long q2), .second, .val (.int (7 : Int32)), .val (.int c4)] [(.int (4 : Int32)), (.ref a1)])) _
    refine X0.laload hx (j := (4 : Int32)) (v := (.long x4)) (by rw [e0]; exact Ar18.1) (State.isArrayOf_alike hZ.alike Ar18.2.1) Ar18.2.2 hin18 hat18 (g := (mkF m 76 #[.val (.ref a1), .val (.long q2), .second, .val (.int (7 : Int32)), .val (.int c4)] [(.int (4 : Int32)), (.ref a1)])) rfl rfl (hb hby own_d4_76) _ ?_
    show Steps p.tables e below (s₁.setTop (mkF m 77 #[.val (.ref a1), .val (.long q2), .second, .val (.int (7 : Int32)), .val (.int c4)] [(.long x4)])) _
    refine XS.lloadN X0.here hx rfl (hb hby own_d4_77) rfl ?_
    show Steps p.tables e below (s₁.setTop (mkF m 78 #[.val (.ref a1), .val (.long q2), .second, .val (.int (7 : Int32)), .val (.int c4)] [(.long q2), (.long x4)])) _
    refine XS.lcmp X0.here hx rfl (hb hby own_d4_78) rfl ?_
    exact k
  obtain ⟨c5, hv_c5⟩ : ∃ z : Int32, z = (if x4 < q2 then (c4 + (1 : Int32)) else c4) := ⟨_, rfl⟩
  have g21 : ∀ t, Steps p.tables e below (s₁.setTop (mkF m 85 #[.val (.ref a1), .val (.long q2), .second, .val (.int (7 : Int32)), .val (.int c5)] [])) t → Steps p.tables e below (s₁.setTop (entryFrame m #[(.ref a1), (.long q2)] 5)) t := by
    intro t k
    by_cases hc20 : x4 < q2
    · rw [if_pos hc20] at hv_c5; rw [hv_c5] at k
      refine g19 t ?_
      show Steps p.tables e below (s₁.setTop (mkF m 79 #[.val (.ref a1), .val (.long q2), .second, .val (.int (7 : Int32)), .val (.int c4)] [(.int (lcmpW x4 q2))])) _
      refine XS.ifNo X0.here hx rfl (hb hby own_d4_79) rfl ((if0 _ _).trans (tlt ((lw_lt _ _).mpr hc20)).2.1) ?_
      show Steps p.tables e below (s₁.setTop (mkF m 82 #[.val (.ref a1), .val (.long q2), .second, .val (.int (7 : Int32)), .val (.int c4)] [])) _
      refine XS.iinc X0.here hx rfl (hb hby own_d4_82) rfl (l' := #[.val (.ref a1), .val (.long q2), .second, .val (.int (7 : Int32)), .val (.int (c4 + (1 : Int32)))]) rfl ?_
      exact k
    · rw [if_neg hc20] at hv_c5; rw [hv_c5] at k
      refine g19 t ?_
      show Steps p.tables e below (s₁.setTop (mkF m 79 #[.val (.ref a1), .val (.long q2), .second, .val (.int (7 : Int32)), .val (.int c4)] [(.int (lcmpW x4 q2))])) _
      refine XS.ifYes X0.here hx rfl (pc0 := 79) (pc' := 85) rfl (hb hby own_d4_79) rfl ((if0 _ _).trans (flt (fun q => hc20 ((lw_lt _ _).mp q))).2.1) (by decide) (by decide) ?_
      exact k
  obtain ⟨c22, Ar22, cq22, S22, Nn22, Hh22, Gg22⟩ := id Va
  have hin22 : ¬ ((5 : Int32) < 0 ∨ c22.slots.size ≤ ((5 : Int32)).toNatClampNeg) := inb_of S22 ⟨by decide, by decide⟩
  have hat22 : c22.slots[((5 : Int32)).toNatClampNeg]? = some (.long x5) := Has.at Hh22 hin22 rfl
  have g23 : ∀ t, Steps p.tables e below (s₁.setTop (mkF m 95 #[.val (.ref a1), .val (.long q2), .second, .val (.int (7 : Int32)), .val (.int c5)] [(.int (lcmpW x5 q2))])) t → Steps p.tables e below (s₁.setTop (entryFrame m #[(.ref a1), (.long q2)] 5)) t := by
    intro t k
    refine g21 t ?_
    show Steps p.tables e below (s₁.setTop (mkF m 85 #[.val (.ref a1), .val (.long q2), .second, .val (.int (7 : Int32)), .val (.int c5)] [])) _
    refine XS.iloadN X0.here hx rfl (hb hby own_d4_85) rfl ?_
    show Steps p.tables e below (s₁.setTop (mkF m 86 #[.val (.ref a1), .val (.long q2), .second, .val (.int (7 : Int32)), .val (.int c5)] [(.int (7 : Int32))])) _
    refine XS.iconst X0.here hx rfl (hb hby own_d4_86) ?_
    show Steps p.tables e below (s₁.setTop (mkF m 87 #[.val (.ref a1), .val (.long q2), .second, .val (.int (7 : Int32)), .val (.int c5)] [(.int (5 : Int32)), (.int (7 : Int32))])) _
    refine XS.icmpNo X0.here hx rfl (hb hby own_d4_87) rfl (tlt (by decide : (5 : Int32) < (7 : Int32))).2.2.2 ?_
    show Steps p.tables e below (s₁.setTop (mkF m 90 #[.val (.ref a1), .val (.long q2), .second, .val (.int (7 : Int32)), .val (.int c5)] [])) _
    refine XS.aloadN X0.here hx rfl (hb hby own_d4_90) rfl rfl ?_
    show Steps p.tables e below (s₁.setTop (mkF m 91 #[.val (.ref a1), .val (.long q2), .second, .val (.int (7 : Int32)), .val (.int c5)] [(.ref a1)])) _
    refine XS.iconst X0.here hx rfl (hb hby own_d4_91) ?_
    show Steps p.tables e below (s₁.setTop (mkF m 92 #[.val (.ref a1), .val (.long q2), .second, .val (.int (7 : Int32)), .val (.int c5)] [(.int (5 : Int32)), (.ref a1)])) _
    refine X0.laload hx (j := (5 : Int32)) (v := (.long x5)) (by rw [e0]; exact Ar22.1) (State.isArrayOf_alike hZ.alike Ar22.2.1) Ar22.2.2 hin22 hat22 (g := (mkF m 92 #[.val (.ref a1), .val (.long q2), .second, .val (.int (7 : Int32)), .val (.int c5)] [(.int (5 : Int32)), (.ref a1)])) rfl rfl (hb hby own_d4_92) _ ?_
    show Steps p.tables e below (s₁.setTop (mkF m 93 #[.val (.ref a1), .val (.long q2), .second, .val (.int (7 : Int32)), .val (.int c5)] [(.long x5)])) _
    refine XS.lloadN X0.here hx rfl (hb hby own_d4_93) rfl ?_
    show Steps p.tables e below (s₁.setTop (mkF m 94 #[.val (.ref a1), .val (.long q2), .second, .val (.int (7 : Int32)), .val (.int c5)] [(.long q2), (.long x5)])) _
    refine XS.lcmp X0.here hx rfl (hb hby own_d4_94) rfl ?_
    exact k
  obtain ⟨c6, hv_c6⟩ : ∃ z : Int32, z = (if x5 < q2 then (c5 + (1 : Int32)) else c5) := ⟨_, rfl⟩
  have g25 : ∀ t, Steps p.tables e below (s₁.setTop (mkF m 101 #[.val (.ref a1), .val (.long q2), .second, .val (.int (7 : Int32)), .val (.int c6)] [])) t → Steps p.tables e below (s₁.setTop (entryFrame m #[(.ref a1), (.long q2)] 5)) t := by
    intro t k
    by_cases hc24 : x5 < q2
    · rw [if_pos hc24] at hv_c6; rw [hv_c6] at k
      refine g23 t ?_
      show Steps p.tables e below (s₁.setTop (mkF m 95 #[.val (.ref a1), .val (.long q2), .second, .val (.int (7 : Int32)), .val (.int c5)] [(.int (lcmpW x5 q2))])) _
      refine XS.ifNo X0.here hx rfl (hb hby own_d4_95) rfl ((if0 _ _).trans (tlt ((lw_lt _ _).mpr hc24)).2.1) ?_
      show Steps p.tables e below (s₁.setTop (mkF m 98 #[.val (.ref a1), .val (.long q2), .second, .val (.int (7 : Int32)), .val (.int c5)] [])) _
      refine XS.iinc X0.here hx rfl (hb hby own_d4_98) rfl (l' := #[.val (.ref a1), .val (.long q2), .second, .val (.int (7 : Int32)), .val (.int (c5 + (1 : Int32)))]) rfl ?_
      exact k
    · rw [if_neg hc24] at hv_c6; rw [hv_c6] at k
      refine g23 t ?_
      show Steps p.tables e below (s₁.setTop (mkF m 95 #[.val (.ref a1), .val (.long q2), .second, .val (.int (7 : Int32)), .val (.int c5)] [(.int (lcmpW x5 q2))])) _
      refine XS.ifYes X0.here hx rfl (pc0 := 95) (pc' := 101) rfl (hb hby own_d4_95) rfl ((if0 _ _).trans (flt (fun q => hc24 ((lw_lt _ _).mp q))).2.1) (by decide) (by decide) ?_
      exact k
  obtain ⟨c26, Ar26, cq26, S26, Nn26, Hh26, Gg26⟩ := id Va
  have hin26 : ¬ ((6 : Int32) < 0 ∨ c26.slots.size ≤ ((6 : Int32)).toNatClampNeg) := inb_of S26 ⟨by decide, by decide⟩
  have hat26 : c26.slots[((6 : Int32)).toNatClampNeg]? = some (.long x6) := Has.at Hh26 hin26 rfl
  have g27 : ∀ t, Steps p.tables e below (s₁.setTop (mkF m 113 #[.val (.ref a1), .val (.long q2), .second, .val (.int (7 : Int32)), .val (.int c6)] [(.int (lcmpW x6 q2))])) t → Steps p.tables e below (s₁.setTop (entryFrame m #[(.ref a1), (.long q2)] 5)) t := by
    intro t k
    refine g25 t ?_
    show Steps p.tables e below (s₁.setTop (mkF m 101 #[.val (.ref a1), .val (.long q2), .second, .val (.int (7 : Int32)), .val (.int c6)] [])) _
    refine XS.iloadN X0.here hx rfl (hb hby own_d4_101) rfl ?_
    show Steps p.tables e below (s₁.setTop (mkF m 102 #[.val (.ref a1), .val (.long q2), .second, .val (.int (7 : Int32)), .val (.int c6)] [(.int (7 : Int32))])) _
    refine XS.bipush X0.here hx rfl (hb hby own_d4_102) ?_
    show Steps p.tables e below (s₁.setTop (mkF m 104 #[.val (.ref a1), .val (.long q2), .second, .val (.int (7 : Int32)), .val (.int c6)] [(.int (6 : Int32)), (.int (7 : Int32))])) _
    refine XS.icmpNo X0.here hx rfl (hb hby own_d4_104) rfl (tlt (by decide : (6 : Int32) < (7 : Int32))).2.2.2 ?_
    show Steps p.tables e below (s₁.setTop (mkF m 107 #[.val (.ref a1), .val (.long q2), .second, .val (.int (7 : Int32)), .val (.int c6)] [])) _
    refine XS.aloadN X0.here hx rfl (hb hby own_d4_107) rfl rfl ?_
    show Steps p.tables e below (s₁.setTop (mkF m 108 #[.val (.ref a1), .val (.long q2), .second, .val (.int (7 : Int32)), .val (.int c6)] [(.ref a1)])) _
    refine XS.bipush X0.here hx rfl (hb hby own_d4_108) ?_
    show Steps p.tables e below (s₁.setTop (mkF m 110 #[.val (.ref a1), .val (.long q2), .second, .val (.int (7 : Int32)), .val (.int c6)] [(.int (6 : Int32)), (.ref a1)])) _
    refine X0.laload hx (j := (6 : Int32)) (v := (.long x6)) (by rw [e0]; exact Ar26.1) (State.isArrayOf_alike hZ.alike Ar26.2.1) Ar26.2.2 hin26 hat26 (g := (mkF m 110 #[.val (.ref a1), .val (.long q2), .second, .val (.int (7 : Int32)), .val (.int c6)] [(.int (6 : Int32)), (.ref a1)])) rfl rfl (hb hby own_d4_110) _ ?_
    show Steps p.tables e below (s₁.setTop (mkF m 111 #[.val (.ref a1), .val (.long q2), .second, .val (.int (7 : Int32)), .val (.int c6)] [(.long x6)])) _
    refine XS.lloadN X0.here hx rfl (hb hby own_d4_111) rfl ?_
    show Steps p.tables e below (s₁.setTop (mkF m 112 #[.val (.ref a1), .val (.long q2), .second, .val (.int (7 : Int32)), .val (.int c6)] [(.long q2), (.long x6)])) _
    refine XS.lcmp X0.here hx rfl (hb hby own_d4_112) rfl ?_
    exact k
  obtain ⟨c7, hv_c7⟩ : ∃ z : Int32, z = (if x6 < q2 then (c6 + (1 : Int32)) else c6) := ⟨_, rfl⟩
  have g29 : ∀ t, Steps p.tables e below (s₁.setTop (mkF m 119 #[.val (.ref a1), .val (.long q2), .second, .val (.int (7 : Int32)), .val (.int c7)] [])) t → Steps p.tables e below (s₁.setTop (entryFrame m #[(.ref a1), (.long q2)] 5)) t := by
    intro t k
    by_cases hc28 : x6 < q2
    · rw [if_pos hc28] at hv_c7; rw [hv_c7] at k
      refine g27 t ?_
      show Steps p.tables e below (s₁.setTop (mkF m 113 #[.val (.ref a1), .val (.long q2), .second, .val (.int (7 : Int32)), .val (.int c6)] [(.int (lcmpW x6 q2))])) _
      refine XS.ifNo X0.here hx rfl (hb hby own_d4_113) rfl ((if0 _ _).trans (tlt ((lw_lt _ _).mpr hc28)).2.1) ?_
      show Steps p.tables e below (s₁.setTop (mkF m 116 #[.val (.ref a1), .val (.long q2), .second, .val (.int (7 : Int32)), .val (.int c6)] [])) _
      refine XS.iinc X0.here hx rfl (hb hby own_d4_116) rfl (l' := #[.val (.ref a1), .val (.long q2), .second, .val (.int (7 : Int32)), .val (.int (c6 + (1 : Int32)))]) rfl ?_
      exact k
    · rw [if_neg hc28] at hv_c7; rw [hv_c7] at k
      refine g27 t ?_
      show Steps p.tables e below (s₁.setTop (mkF m 113 #[.val (.ref a1), .val (.long q2), .second, .val (.int (7 : Int32)), .val (.int c6)] [(.int (lcmpW x6 q2))])) _
      refine XS.ifYes X0.here hx rfl (pc0 := 113) (pc' := 119) rfl (hb hby own_d4_113) rfl ((if0 _ _).trans (flt (fun q => hc28 ((lw_lt _ _).mp q))).2.1) (by decide) (by decide) ?_
      exact k
  have g30 : ∀ t, Steps p.tables e below (s₁.setTop (mkF m 139 #[.val (.ref a1), .val (.long q2), .second, .val (.int (7 : Int32)), .val (.int c7)] [(.int c7)])) t → Steps p.tables e below (s₁.setTop (entryFrame m #[(.ref a1), (.long q2)] 5)) t := by
    intro t k
    refine g29 t ?_
    show Steps p.tables e below (s₁.setTop (mkF m 119 #[.val (.ref a1), .val (.long q2), .second, .val (.int (7 : Int32)), .val (.int c7)] [])) _
    refine XS.iloadN X0.here hx rfl (hb hby own_d4_119) rfl ?_
    show Steps p.tables e below (s₁.setTop (mkF m 120 #[.val (.ref a1), .val (.long q2), .second, .val (.int (7 : Int32)), .val (.int c7)] [(.int (7 : Int32))])) _
    refine XS.bipush X0.here hx rfl (hb hby own_d4_120) ?_
    show Steps p.tables e below (s₁.setTop (mkF m 122 #[.val (.ref a1), .val (.long q2), .second, .val (.int (7 : Int32)), .val (.int c7)] [(.int (7 : Int32)), (.int (7 : Int32))])) _
    refine XS.icmpYes X0.here hx rfl (pc0 := 122) (pc' := 137) rfl (hb hby own_d4_122) rfl (flt (by decide : ¬ ((7 : Int32) < (7 : Int32)))).2.2.2 (by decide) (by decide) ?_
    show Steps p.tables e below (s₁.setTop (mkF m 137 #[.val (.ref a1), .val (.long q2), .second, .val (.int (7 : Int32)), .val (.int c7)] [])) _
    refine XS.iload X0.here hx rfl (hb hby own_d4_137) rfl ?_
    exact k
  obtain ⟨fs, hrt, hrun, hended, hW, hsame⟩ := X0.leave (v := some (.int c7)) (fun h => by rw [Bd.returns] at h; cases h)
  refine ⟨_, _, g30 _ ?_, hrun, hended, _, _, rfl, ?_, ⟨_, rfl⟩, hW, hsame.mono (by decide) (by decide)⟩
  · show Steps p.tables e below (s₁.setTop (mkF m 139 #[.val (.ref a1), .val (.long q2), .second, .val (.int (7 : Int32)), .val (.int c7)] [(.int c7)])) _
    exact retI X0 hx Bd.returns (hb hby own_d4_139) hrt
  · show own_Q_rmcountLt7 Z a1 ka x0 x1 x2 x3 x4 x5 x6 q2 r h0 n0 _ s₁.heap _
    rw [e0]
    exact ⟨by rw [← hr]; subst hv_c1; subst hv_c2; subst hv_c3; subst hv_c4; subst hv_c5; subst hv_c6; subst hv_c7; rfl, N0, rfl⟩
theorem own_ef23 (m : MethodId) (x0 : Addr) (x1 : Int32) : entryFrame m #[(.ref x0), (.int x1)] 3 = mkF m 0 #[.val (.ref x0), .val (.int x1), .unset] [] := by first | (simp [entryFrame, mkF, argsToLocals, Value.category]; done) | rfl
def own_Q_rmPct8 (Z : State) (a1 : Addr) (ka : ClassId) (x0 x1 x2 x3 x4 x5 x6 x7 r : Int64) (p2 j : Int32) (h0 : Heap) (n0 : Nat) (v : Option Value) (h : Heap) (L : List Loc) : Prop := v = some (.long r) ∧ Fr n0 L ∧ h = h0
set_option maxRecDepth 65536 in
set_option maxHeartbeats 40000000 in
theorem rmPct8 (l : Launch) (Z : State) (a0 : Array Value) (hw : ∀ d ∈ tables_1, d.before a0 Z = true) (ws : List Jvm.Cond) (a1 : Addr) (ka : ClassId) (x0 x1 x2 x3 x4 x5 x6 x7 r : Int64) (p2 j : Int32) (h0 : Heap) (n0 : Nat) (O0 : Old Z n0 h0) (Va : Arv Z h0 a1 ka .long (8 : Int32) [(.long x0), (.long x1), (.long x2), (.long x3), (.long x4), (.long x5), (.long x6), (.long x7)] (.long (0 : Int64))) (hj : (((((((8 : Int32).toInt64) * (p2.toInt64)) + (99 : Int64)) / (100 : Int64)).toInt32) - (1 : Int32)) = j) (hj0 : ¬ j < 0) (hj1 : j < (8 : Int32)) (hjr : ([(.long x0), (.long x1), (.long x2), (.long x3), (.long x4), (.long x5), (.long x6), (.long x7)] : List Value).getD j.toNatClampNeg (.long (0 : Int64)) = .long r) :
    MetFree l (⟨"orderwire/bench/Latency", "percentile", "([JI)J"⟩ : MethodName) (head1 (Jvm.Cond.code (⟨"orderwire/bench/Latency", "percentile", "([JI)J"⟩ : MethodName) prog_6_method_9_code 3 (some .long) :: ws) ({ frames := 0, cells := 0, slots := 0, locals := 0 } : Room)) (fun a U => a = #[(.ref a1), (.int p2)] ∧ Z.Warmed39 U.vm ∧ U.heap = h0) (fun _ _ _ _ _ => True) (fun _ U o U' => ∃ v L, o = .returned v ∧ own_Q_rmPct8 Z a1 ka x0 x1 x2 x3 x4 x5 x6 x7 r p2 j h0 n0 v U'.heap L ∧ FrameEnd U o U' L ({ frames := 0, cells := 0, slots := 0, locals := 0 } : Room).cells ({ frames := 0, cells := 0, slots := 0, locals := 0 } : Room).slots) := by
  refine MetFree.of_bodySF (plainFor_of_name own_pn0) hisR ?_
  intro p e s m args below meth c s₁ Bd hml0 hP hK
  obtain ⟨rfl, hZ, hh⟩ := hP
  have hx := Bd.exec
  have hby := Bd.bytes
  have hml : c.maxLocals = 3 := hml0
  have hown : s.vm.findClass "orderwire/bench/Latency" = some m.cls := findClass_of_methodNamed Bd.named
  have hnm := (name_of_methodNamed Bd.named Bd.method).1
  have X0 : Stand p l e ({ frames := 0, cells := 0, slots := 0, locals := 0 } : Room) s m #[(.ref a1), (.int p2)] below meth c s₁ [] 0 0 := Stand.of_body Bd
  have e0 : s₁.heap = h0 := by rw [← hh, Bd.state]; rfl
  have N0 := Fr.nil n0
  have Z0 : n0 ≤ h0.size := O0.1 ▸ O0.2.1
  have g0 : ∀ t, Steps p.tables e below (s₁.setTop (mkF m 0 #[.val (.ref a1), .val (.int p2), .unset] [])) t → Steps p.tables e below (s₁.setTop (entryFrame m #[(.ref a1), (.int p2)] 3)) t := fun t k => castTop (own_ef23 m (a1) (p2)) k
  obtain ⟨c1, Ar1, cq1, S1, Nn1, Hh1, Gg1⟩ := id Va
  have g2 : ∀ t, Steps p.tables e below (s₁.setTop (mkF m 20 #[.val (.ref a1), .val (.int p2), .val (.int ((((((8 : Int32).toInt64) * (p2.toInt64)) + (99 : Int64)) / (100 : Int64)).toInt32))] [(.int j), (.ref a1)])) t → Steps p.tables e below (s₁.setTop (entryFrame m #[(.ref a1), (.int p2)] 3)) t := by
    intro t k
    rw [← hj] at k
    refine g0 t ?_
    show Steps p.tables e below (s₁.setTop (mkF m 0 #[.val (.ref a1), .val (.int p2), .unset] [])) _
    refine XS.aloadN X0.here hx rfl (hb hby own_d2_0) rfl rfl ?_
    show Steps p.tables e below (s₁.setTop (mkF m 1 #[.val (.ref a1), .val (.int p2), .unset] [(.ref a1)])) _
    refine X0.arraylength hx (by rw [e0]; exact Ar1.1) (State.isArrayOf_alike hZ.alike Ar1.2.1) (g := (mkF m 1 #[.val (.ref a1), .val (.int p2), .unset] [(.ref a1)])) rfl rfl (hb hby own_d2_1) _ ?_
    rw [len_of S1 Nn1]
    show Steps p.tables e below (s₁.setTop (mkF m 2 #[.val (.ref a1), .val (.int p2), .unset] [(.int (8 : Int32))])) _
    refine XS.i2l X0.here hx rfl (hb hby own_d2_2) rfl ?_
    show Steps p.tables e below (s₁.setTop (mkF m 3 #[.val (.ref a1), .val (.int p2), .unset] [(.long ((8 : Int32).toInt64))])) _
    refine XS.iloadN X0.here hx rfl (hb hby own_d2_3) rfl ?_
    show Steps p.tables e below (s₁.setTop (mkF m 4 #[.val (.ref a1), .val (.int p2), .unset] [(.int p2), (.long ((8 : Int32).toInt64))])) _
    refine XS.i2l X0.here hx rfl (hb hby own_d2_4) rfl ?_
    show Steps p.tables e below (s₁.setTop (mkF m 5 #[.val (.ref a1), .val (.int p2), .unset] [(.long (p2.toInt64)), (.long ((8 : Int32).toInt64))])) _
    refine XS.lmul X0.here hx rfl (hb hby own_d2_5) rfl ?_
    show Steps p.tables e below (s₁.setTop (mkF m 6 #[.val (.ref a1), .val (.int p2), .unset] [(.long (((8 : Int32).toInt64) * (p2.toInt64)))])) _
    refine X0.ldc2Long hx hown (mvT hZ (hw _ (List.mem_of_getElem? (i := 11) rfl))) (g := (mkF m 6 #[.val (.ref a1), .val (.int p2), .unset] [(.long (((8 : Int32).toInt64) * (p2.toInt64)))])) rfl (hb hby own_d2_6) _ ?_
    show Steps p.tables e below (s₁.setTop (mkF m 9 #[.val (.ref a1), .val (.int p2), .unset] [(.long (99 : Int64)), (.long (((8 : Int32).toInt64) * (p2.toInt64)))])) _
    refine XS.ladd X0.here hx rfl (hb hby own_d2_9) rfl ?_
    show Steps p.tables e below (s₁.setTop (mkF m 10 #[.val (.ref a1), .val (.int p2), .unset] [(.long ((((8 : Int32).toInt64) * (p2.toInt64)) + (99 : Int64)))])) _
    refine X0.ldc2Long hx hown (mvT hZ (hw _ (List.mem_of_getElem? (i := 12) rfl))) (g := (mkF m 10 #[.val (.ref a1), .val (.int p2), .unset] [(.long ((((8 : Int32).toInt64) * (p2.toInt64)) + (99 : Int64)))])) rfl (hb hby own_d2_10) _ ?_
    show Steps p.tables e below (s₁.setTop (mkF m 13 #[.val (.ref a1), .val (.int p2), .unset] [(.long (100 : Int64)), (.long ((((8 : Int32).toInt64) * (p2.toInt64)) + (99 : Int64)))])) _
    refine XS.ldiv X0.here hx rfl (hb hby own_d2_13) rfl (by decide) ?_
    show Steps p.tables e below (s₁.setTop (mkF m 14 #[.val (.ref a1), .val (.int p2), .unset] [(.long (((((8 : Int32).toInt64) * (p2.toInt64)) + (99 : Int64)) / (100 : Int64)))])) _
    refine XS.l2i X0.here hx rfl (hb hby own_d2_14) rfl ?_
    show Steps p.tables e below (s₁.setTop (mkF m 15 #[.val (.ref a1), .val (.int p2), .unset] [(.int ((((((8 : Int32).toInt64) * (p2.toInt64)) + (99 : Int64)) / (100 : Int64)).toInt32))])) _
    refine XS.istoreN X0.here hx rfl (hb hby own_d2_15) rfl (l' := #[.val (.ref a1), .val (.int p2), .val (.int ((((((8 : Int32).toInt64) * (p2.toInt64)) + (99 : Int64)) / (100 : Int64)).toInt32))]) rfl ?_
    show Steps p.tables e below (s₁.setTop (mkF m 16 #[.val (.ref a1), .val (.int p2), .val (.int ((((((8 : Int32).toInt64) * (p2.toInt64)) + (99 : Int64)) / (100 : Int64)).toInt32))] [])) _
    refine XS.aloadN X0.here hx rfl (hb hby own_d2_16) rfl rfl ?_
    show Steps p.tables e below (s₁.setTop (mkF m 17 #[.val (.ref a1), .val (.int p2), .val (.int ((((((8 : Int32).toInt64) * (p2.toInt64)) + (99 : Int64)) / (100 : Int64)).toInt32))] [(.ref a1)])) _
    refine XS.iloadN X0.here hx rfl (hb hby own_d2_17) rfl ?_
    show Steps p.tables e below (s₁.setTop (mkF m 18 #[.val (.ref a1), .val (.int p2), .val (.int ((((((8 : Int32).toInt64) * (p2.toInt64)) + (99 : Int64)) / (100 : Int64)).toInt32))] [(.int ((((((8 : Int32).toInt64) * (p2.toInt64)) + (99 : Int64)) / (100 : Int64)).toInt32)), (.ref a1)])) _
    refine XS.iconst X0.here hx rfl (hb hby own_d2_18) ?_
    show Steps p.tables e below (s₁.setTop (mkF m 19 #[.val (.ref a1), .val (.int p2), .val (.int ((((((8 : Int32).toInt64) * (p2.toInt64)) + (99 : Int64)) / (100 : Int64)).toInt32))] [(.int (1 : Int32)), (.int ((((((8 : Int32).toInt64) * (p2.toInt64)) + (99 : Int64)) / (100 : Int64)).toInt32)), (.ref a1)])) _
    refine XS.isub X0.here hx rfl (hb hby own_d2_19) rfl ?_
    exact k
  obtain ⟨c3, Ar3, cq3, S3, Nn3, Hh3, Gg3⟩ := id Va
  have hin3 : ¬ (j < 0 ∨ c3.slots.size ≤ (j).toNatClampNeg) := inb_of S3 ⟨hj0, hj1⟩
  have hat3 : c3.slots[(j).toNatClampNeg]? = some (.long r) := Has.at Hh3 hin3 hjr
  have g4 : ∀ t, Steps p.tables e below (s₁.setTop (mkF m 21 #[.val (.ref a1), .val (.int p2), .val (.int ((((((8 : Int32).toInt64) * (p2.toInt64)) + (99 : Int64)) / (100 : Int64)).toInt32))] [(.long r)])) t → Steps p.tables e below (s₁.setTop (entryFrame m #[(.ref a1), (.int p2)] 3)) t := by
    intro t k
    refine g2 t ?_
    show Steps p.tables e below (s₁.setTop (mkF m 20 #[.val (.ref a1), .val (.int p2), .val (.int ((((((8 : Int32).toInt64) * (p2.toInt64)) + (99 : Int64)) / (100 : Int64)).toInt32))] [(.int j), (.ref a1)])) _
    refine X0.laload hx (j := j) (v := (.long r)) (by rw [e0]; exact Ar3.1) (State.isArrayOf_alike hZ.alike Ar3.2.1) Ar3.2.2 hin3 hat3 (g := (mkF m 20 #[.val (.ref a1), .val (.int p2), .val (.int ((((((8 : Int32).toInt64) * (p2.toInt64)) + (99 : Int64)) / (100 : Int64)).toInt32))] [(.int j), (.ref a1)])) rfl rfl (hb hby own_d2_20) _ ?_
    exact k
  obtain ⟨fs, hrt, hrun, hended, hW, hsame⟩ := X0.leave (v := some (.long r)) (fun h => by rw [Bd.returns] at h; cases h)
  refine ⟨_, _, g4 _ ?_, hrun, hended, _, _, rfl, ?_, ⟨_, rfl⟩, hW, hsame.mono (by decide) (by decide)⟩
  · show Steps p.tables e below (s₁.setTop (mkF m 21 #[.val (.ref a1), .val (.int p2), .val (.int ((((((8 : Int32).toInt64) * (p2.toInt64)) + (99 : Int64)) / (100 : Int64)).toInt32))] [(.long r)])) _
    exact X0.lreturnOut hx Bd.returns (hb hby own_d2_21) hrt
  · show own_Q_rmPct8 Z a1 ka x0 x1 x2 x3 x4 x5 x6 x7 r p2 j h0 n0 _ s₁.heap _
    rw [e0]
    exact ⟨rfl, N0, rfl⟩
theorem own_ef24 (m : MethodId) (x0 : Addr) (x1 : Int64) : entryFrame m #[(.ref x0), (.long x1)] 5 = mkF m 0 #[.val (.ref x0), .val (.long x1), .second, .unset, .unset] [] := by first | (simp [entryFrame, mkF, argsToLocals, Value.category]; done) | rfl
theorem own_d3_125 : decode method_3_code 125 = .ok (.aload_n 0, 1) := by decide +kernel
theorem own_d3_126 : decode method_3_code 126 = .ok (.bipush 7, 2) := by decide +kernel
theorem own_d3_128 : decode method_3_code 128 = .ok (.laload, 1) := by decide +kernel
theorem own_d3_129 : decode method_3_code 129 = .ok (.lload_n 1, 1) := by decide +kernel
theorem own_d3_130 : decode method_3_code 130 = .ok (.lcmp, 1) := by decide +kernel
theorem own_d3_131 : decode method_3_code 131 = .ok (.ifCond .gt 6, 3) := by decide +kernel
theorem own_d3_134 : decode method_3_code 134 = .ok (.iinc 4 1, 3) := by decide +kernel
def own_Q_rmcountLe8 (Z : State) (a1 : Addr) (ka : ClassId) (x0 x1 x2 x3 x4 x5 x6 x7 q2 : Int64) (r : Int32) (h0 : Heap) (n0 : Nat) (v : Option Value) (h : Heap) (L : List Loc) : Prop := v = some (.int r) ∧ Fr n0 L ∧ h = h0
set_option maxRecDepth 65536 in
set_option maxHeartbeats 40000000 in
theorem rmcountLe8 (l : Launch) (Z : State) (a0 : Array Value) (hw : ∀ d ∈ tables_1, d.before a0 Z = true) (ws : List Jvm.Cond) (a1 : Addr) (ka : ClassId) (x0 x1 x2 x3 x4 x5 x6 x7 q2 : Int64) (r : Int32) (h0 : Heap) (n0 : Nat) (O0 : Old Z n0 h0) (Va : Arv Z h0 a1 ka .long (8 : Int32) [(.long x0), (.long x1), (.long x2), (.long x3), (.long x4), (.long x5), (.long x6), (.long x7)] (.long (0 : Int64))) (hr : own_cle q2 [x0, x1, x2, x3, x4, x5, x6, x7] 0 = r) :
    MetFree l (⟨"orderwire/bench/LatencyPercentilePinLaw", "countLe", "([JJ)I"⟩ : MethodName) (head1 (Jvm.Cond.code (⟨"orderwire/bench/LatencyPercentilePinLaw", "countLe", "([JJ)I"⟩ : MethodName) method_3_code 5 (some .int) :: ws) ({ frames := 0, cells := 0, slots := 0, locals := 0 } : Room)) (fun a U => a = #[(.ref a1), (.long q2)] ∧ Z.Warmed39 U.vm ∧ U.heap = h0) (fun _ _ _ _ _ => True) (fun _ U o U' => ∃ v L, o = .returned v ∧ own_Q_rmcountLe8 Z a1 ka x0 x1 x2 x3 x4 x5 x6 x7 q2 r h0 n0 v U'.heap L ∧ FrameEnd U o U' L ({ frames := 0, cells := 0, slots := 0, locals := 0 } : Room).cells ({ frames := 0, cells := 0, slots := 0, locals := 0 } : Room).slots) := by
  refine MetFree.of_bodySF (plainFor_of_name own_pn1) hisR ?_
  intro p e s m args below meth c s₁ Bd hml0 hP hK
  obtain ⟨rfl, hZ, hh⟩ := hP
  have hx := Bd.exec
  have hby := Bd.bytes
  have hml : c.maxLocals = 5 := hml0
  have hown : s.vm.findClass "orderwire/bench/LatencyPercentilePinLaw" = some m.cls := findClass_of_methodNamed Bd.named
  have hnm := (name_of_methodNamed Bd.named Bd.method).1
  have X0 : Stand p l e ({ frames := 0, cells := 0, slots := 0, locals := 0 } : Room) s m #[(.ref a1), (.long q2)] below meth c s₁ [] 0 0 := Stand.of_body Bd
  have e0 : s₁.heap = h0 := by rw [← hh, Bd.state]; rfl
  have N0 := Fr.nil n0
  have Z0 : n0 ≤ h0.size := O0.1 ▸ O0.2.1
  have g0 : ∀ t, Steps p.tables e below (s₁.setTop (mkF m 0 #[.val (.ref a1), .val (.long q2), .second, .unset, .unset] [])) t → Steps p.tables e below (s₁.setTop (entryFrame m #[(.ref a1), (.long q2)] 5)) t := fun t k => castTop (own_ef24 m (a1) (q2)) k
  obtain ⟨c1, Ar1, cq1, S1, Nn1, Hh1, Gg1⟩ := id Va
  obtain ⟨c2, Ar2, cq2, S2, Nn2, Hh2, Gg2⟩ := id Va
  have hin2 : ¬ ((0 : Int32) < 0 ∨ c2.slots.size ≤ ((0 : Int32)).toNatClampNeg) := inb_of S2 ⟨by decide, by decide⟩
  have hat2 : c2.slots[((0 : Int32)).toNatClampNeg]? = some (.long x0) := Has.at Hh2 hin2 rfl
  have g3 : ∀ t, Steps p.tables e below (s₁.setTop (mkF m 15 #[.val (.ref a1), .val (.long q2), .second, .val (.int (8 : Int32)), .val (.int (0 : Int32))] [(.int (lcmpW x0 q2))])) t → Steps p.tables e below (s₁.setTop (entryFrame m #[(.ref a1), (.long q2)] 5)) t := by
    intro t k
    refine g0 t ?_
    show Steps p.tables e below (s₁.setTop (mkF m 0 #[.val (.ref a1), .val (.long q2), .second, .unset, .unset] [])) _
    refine XS.aloadN X0.here hx rfl (hb hby own_d3_0) rfl rfl ?_
    show Steps p.tables e below (s₁.setTop (mkF m 1 #[.val (.ref a1), .val (.long q2), .second, .unset, .unset] [(.ref a1)])) _
    refine X0.arraylength hx (by rw [e0]; exact Ar1.1) (State.isArrayOf_alike hZ.alike Ar1.2.1) (g := (mkF m 1 #[.val (.ref a1), .val (.long q2), .second, .unset, .unset] [(.ref a1)])) rfl rfl (hb hby own_d3_1) _ ?_
    rw [len_of S1 Nn1]
    show Steps p.tables e below (s₁.setTop (mkF m 2 #[.val (.ref a1), .val (.long q2), .second, .unset, .unset] [(.int (8 : Int32))])) _
    refine XS.istoreN X0.here hx rfl (hb hby own_d3_2) rfl (l' := #[.val (.ref a1), .val (.long q2), .second, .val (.int (8 : Int32)), .unset]) rfl ?_
    show Steps p.tables e below (s₁.setTop (mkF m 3 #[.val (.ref a1), .val (.long q2), .second, .val (.int (8 : Int32)), .unset] [])) _
    refine XS.iconst X0.here hx rfl (hb hby own_d3_3) ?_
    show Steps p.tables e below (s₁.setTop (mkF m 4 #[.val (.ref a1), .val (.long q2), .second, .val (.int (8 : Int32)), .unset] [(.int (0 : Int32))])) _
    refine XS.istore X0.here hx rfl (hb hby own_d3_4) rfl (l' := #[.val (.ref a1), .val (.long q2), .second, .val (.int (8 : Int32)), .val (.int (0 : Int32))]) rfl ?_
    show Steps p.tables e below (s₁.setTop (mkF m 6 #[.val (.ref a1), .val (.long q2), .second, .val (.int (8 : Int32)), .val (.int (0 : Int32))] [])) _
    refine XS.iloadN X0.here hx rfl (hb hby own_d3_6) rfl ?_
    show Steps p.tables e below (s₁.setTop (mkF m 7 #[.val (.ref a1), .val (.long q2), .second, .val (.int (8 : Int32)), .val (.int (0 : Int32))] [(.int (8 : Int32))])) _
    refine XS.ifNo X0.here hx rfl (hb hby own_d3_7) rfl ((if0 _ _).trans (tlt (by decide : (0 : Int32) < (8 : Int32))).2.2.2) ?_
    show Steps p.tables e below (s₁.setTop (mkF m 10 #[.val (.ref a1), .val (.long q2), .second, .val (.int (8 : Int32)), .val (.int (0 : Int32))] [])) _
    refine XS.aloadN X0.here hx rfl (hb hby own_d3_10) rfl rfl ?_
    show Steps p.tables e below (s₁.setTop (mkF m 11 #[.val (.ref a1), .val (.long q2), .second, .val (.int (8 : Int32)), .val (.int (0 : Int32))] [(.ref a1)])) _
    refine XS.iconst X0.here hx rfl (hb hby own_d3_11) ?_
    show Steps p.tables e below (s₁.setTop (mkF m 12 #[.val (.ref a1), .val (.long q2), .second, .val (.int (8 : Int32)), .val (.int (0 : Int32))] [(.int (0 : Int32)), (.ref a1)])) _
    refine X0.laload hx (j := (0 : Int32)) (v := (.long x0)) (by rw [e0]; exact Ar2.1) (State.isArrayOf_alike hZ.alike Ar2.2.1) Ar2.2.2 hin2 hat2 (g := (mkF m 12 #[.val (.ref a1), .val (.long q2), .second, .val (.int (8 : Int32)), .val (.int (0 : Int32))] [(.int (0 : Int32)), (.ref a1)])) rfl rfl (hb hby own_d3_12) _ ?_
    show Steps p.tables e below (s₁.setTop (mkF m 13 #[.val (.ref a1), .val (.long q2), .second, .val (.int (8 : Int32)), .val (.int (0 : Int32))] [(.long x0)])) _
    refine XS.lloadN X0.here hx rfl (hb hby own_d3_13) rfl ?_
    show Steps p.tables e below (s₁.setTop (mkF m 14 #[.val (.ref a1), .val (.long q2), .second, .val (.int (8 : Int32)), .val (.int (0 : Int32))] [(.long q2), (.long x0)])) _
    refine XS.lcmp X0.here hx rfl (hb hby own_d3_14) rfl ?_
    exact k
  obtain ⟨c1, hv_c1⟩ : ∃ z : Int32, z = (if q2 < x0 then (0 : Int32) else ((0 : Int32) + (1 : Int32))) := ⟨_, rfl⟩
  have g5 : ∀ t, Steps p.tables e below (s₁.setTop (mkF m 21 #[.val (.ref a1), .val (.long q2), .second, .val (.int (8 : Int32)), .val (.int c1)] [])) t → Steps p.tables e below (s₁.setTop (entryFrame m #[(.ref a1), (.long q2)] 5)) t := by
    intro t k
    by_cases hc4 : q2 < x0
    · rw [if_pos hc4] at hv_c1; rw [hv_c1] at k
      refine g3 t ?_
      show Steps p.tables e below (s₁.setTop (mkF m 15 #[.val (.ref a1), .val (.long q2), .second, .val (.int (8 : Int32)), .val (.int (0 : Int32))] [(.int (lcmpW x0 q2))])) _
      refine XS.ifYes X0.here hx rfl (pc0 := 15) (pc' := 21) rfl (hb hby own_d3_15) rfl ((if0 _ _).trans (tlt ((lw_gt _ _).mpr hc4)).2.2.1) (by decide) (by decide) ?_
      exact k
    · rw [if_neg hc4] at hv_c1; rw [hv_c1] at k
      refine g3 t ?_
      show Steps p.tables e below (s₁.setTop (mkF m 15 #[.val (.ref a1), .val (.long q2), .second, .val (.int (8 : Int32)), .val (.int (0 : Int32))] [(.int (lcmpW x0 q2))])) _
      refine XS.ifNo X0.here hx rfl (hb hby own_d3_15) rfl ((if0 _ _).trans (flt (fun q => hc4 ((lw_gt _ _).mp q))).2.2.1) ?_
      show Steps p.tables e below (s₁.setTop (mkF m 18 #[.val (.ref a1), .val (.long q2), .second, .val (.int (8 : Int32)), .val (.int (0 : Int32))] [])) _
      refine XS.iinc X0.here hx rfl (hb hby own_d3_18) rfl (l' := #[.val (.ref a1), .val (.long q2), .second, .val (.int (8 : Int32)), .val (.int ((0 : Int32) + (1 : Int32)))]) rfl ?_
      exact k
  obtain ⟨c6, Ar6, cq6, S6, Nn6, Hh6, Gg6⟩ := id Va
  have hin6 : ¬ ((1 : Int32) < 0 ∨ c6.slots.size ≤ ((1 : Int32)).toNatClampNeg) := inb_of S6 ⟨by decide, by decide⟩
  have hat6 : c6.slots[((1 : Int32)).toNatClampNeg]? = some (.long x1) := Has.at Hh6 hin6 rfl
  have g7 : ∀ t, Steps p.tables e below (s₁.setTop (mkF m 31 #[.val (.ref a1), .val (.long q2), .second, .val (.int (8 : Int32)), .val (.int c1)] [(.int (lcmpW x1 q2))])) t → Steps p.tables e below (s₁.setTop (entryFrame m #[(.ref a1), (.long q2)] 5)) t := by
    intro t k
    refine g5 t ?_
    show Steps p.tables e below (s₁.setTop (mkF m 21 #[.val (.ref a1), .val (.long q2), .second, .val (.int (8 : Int32)), .val (.int c1)] [])) _
    refine XS.iloadN X0.here hx rfl (hb hby own_d3_21) rfl ?_
    show Steps p.tables e below (s₁.setTop (mkF m 22 #[.val (.ref a1), .val (.long q2), .second, .val (.int (8 : Int32)), .val (.int c1)] [(.int (8 : Int32))])) _
    refine XS.iconst X0.here hx rfl (hb hby own_d3_22) ?_
    show Steps p.tables e below (s₁.setTop (mkF m 23 #[.val (.ref a1), .val (.long q2), .second, .val (.int (8 : Int32)), .val (.int c1)] [(.int (1 : Int32)), (.int (8 : Int32))])) _
    refine XS.icmpNo X0.here hx rfl (hb hby own_d3_23) rfl (tlt (by decide : (1 : Int32) < (8 : Int32))).2.2.2 ?_
    show Steps p.tables e below (s₁.setTop (mkF m 26 #[.val (.ref a1), .val (.long q2), .second, .val (.int (8 : Int32)), .val (.int c1)] [])) _
    refine XS.aloadN X0.here hx rfl (hb hby own_d3_26) rfl rfl ?_
    show Steps p.tables e below (s₁.setTop (mkF m 27 #[.val (.ref a1), .val (.long q2), .second, .val (.int (8 : Int32)), .val (.int c1)] [(.ref a1)])) _
    refine XS.iconst X0.here hx rfl (hb hby own_d3_27) ?_
    show Steps p.tables e below (s₁.setTop (mkF m 28 #[.val (.ref a1), .val (.long q2), .second, .val (.int (8 : Int32)), .val (.int c1)] [(.int (1 : Int32)), (.ref a1)])) _
    refine X0.laload hx (j := (1 : Int32)) (v := (.long x1)) (by rw [e0]; exact Ar6.1) (State.isArrayOf_alike hZ.alike Ar6.2.1) Ar6.2.2 hin6 hat6 (g := (mkF m 28 #[.val (.ref a1), .val (.long q2), .second, .val (.int (8 : Int32)), .val (.int c1)] [(.int (1 : Int32)), (.ref a1)])) rfl rfl (hb hby own_d3_28) _ ?_
    show Steps p.tables e below (s₁.setTop (mkF m 29 #[.val (.ref a1), .val (.long q2), .second, .val (.int (8 : Int32)), .val (.int c1)] [(.long x1)])) _
    refine XS.lloadN X0.here hx rfl (hb hby own_d3_29) rfl ?_
    show Steps p.tables e below (s₁.setTop (mkF m 30 #[.val (.ref a1), .val (.long q2), .second, .val (.int (8 : Int32)), .val (.int c1)] [(.long q2), (.long x1)])) _
    refine XS.lcmp X0.here hx rfl (hb hby own_d3_30) rfl ?_
    exact k
  obtain ⟨c2, hv_c2⟩ : ∃ z : Int32, z = (if q2 < x1 then c1 else (c1 + (1 : Int32))) := ⟨_, rfl⟩
  have g9 : ∀ t, Steps p.tables e below (s₁.setTop (mkF m 37 #[.val (.ref a1), .val (.long q2), .second, .val (.int (8 : Int32)), .val (.int c2)] [])) t → Steps p.tables e below (s₁.setTop (entryFrame m #[(.ref a1), (.long q2)] 5)) t := by
    intro t k
    by_cases hc8 : q2 < x1
    · rw [if_pos hc8] at hv_c2; rw [hv_c2] at k
      refine g7 t ?_
      show Steps p.tables e below (s₁.setTop (mkF m 31 #[.val (.ref a1), .val (.long q2), .second, .val (.int (8 : Int32)), .val (.int c1)] [(.int (lcmpW x1 q2))])) _
      refine XS.ifYes X0.here hx rfl (pc0 := 31) (pc' := 37) rfl (hb hby own_d3_31) rfl ((if0 _ _).trans (tlt ((lw_gt _ _).mpr hc8)).2.2.1) (by decide) (by decide) ?_
      exact k
    · rw [if_neg hc8] at hv_c2; rw [hv_c2] at k
      refine g7 t ?_
      show Steps p.tables e below (s₁.setTop (mkF m 31 #[.val (.ref a1), .val (.long q2), .second, .val (.int (8 : Int32)), .val (.int c1)] [(.int (lcmpW x1 q2))])) _
      refine XS.ifNo X0.here hx rfl (hb hby own_d3_31) rfl ((if0 _ _).trans (flt (fun q => hc8 ((lw_gt _ _).mp q))).2.2.1) ?_
      show Steps p.tables e below (s₁.setTop (mkF m 34 #[.val (.ref a1), .val (.long q2), .second, .val (.int (8 : Int32)), .val (.int c1)] [])) _
      refine XS.iinc X0.here hx rfl (hb hby own_d3_34) rfl (l' := #[.val (.ref a1), .val (.long q2), .second, .val (.int (8 : Int32)), .val (.int (c1 + (1 : Int32)))]) rfl ?_
      exact k
  obtain ⟨c10, Ar10, cq10, S10, Nn10, Hh10, Gg10⟩ := id Va
  have hin10 : ¬ ((2 : Int32) < 0 ∨ c10.slots.size ≤ ((2 : Int32)).toNatClampNeg) := inb_of S10 ⟨by decide, by decide⟩
  have hat10 : c10.slots[((2 : Int32)).toNatClampNeg]? = some (.long x2) := Has.at Hh10 hin10 rfl
  have g11 : ∀ t, Steps p.tables e below (s₁.setTop (mkF m 47 #[.val (.ref a1), .val (.long q2), .second, .val (.int (8 : Int32)), .val (.int c2)] [(.int (lcmpW x2 q2))])) t → Steps p.tables e below (s₁.setTop (entryFrame m #[(.ref a1), (.long q2)] 5)) t := by
    intro t k
    refine g9 t ?_
    show Steps p.tables e below (s₁.setTop (mkF m 37 #[.val (.ref a1), .val (.long q2), .second, .val (.int (8 : Int32)), .val (.int c2)] [])) _
    refine XS.iloadN X0.here hx rfl (hb hby own_d3_37) rfl ?_
    show Steps p.tables e below (s₁.setTop (mkF m 38 #[.val (.ref a1), .val (.long q2), .second, .val (.int (8 : Int32)), .val (.int c2)] [(.int (8 : Int32))])) _
    refine XS.iconst X0.here hx rfl (hb hby own_d3_38) ?_
    show Steps p.tables e below (s₁.setTop (mkF m 39 #[.val (.ref a1), .val (.long q2), .second, .val (.int (8 : Int32)), .val (.int c2)] [(.int (2 : Int32)), (.int (8 : Int32))])) _
    refine XS.icmpNo X0.here hx rfl (hb hby own_d3_39) rfl (tlt (by decide : (2 : Int32) < (8 : Int32))).2.2.2 ?_
    show Steps p.tables e below (s₁.setTop (mkF m 42 #[.val (.ref a1), .val (.long q2), .second, .val (.int (8 : Int32)), .val (.int c2)] [])) _
    refine XS.aloadN X0.here hx rfl (hb hby own_d3_42) rfl rfl ?_
    show Steps p.tables e below (s₁.setTop (mkF m 43 #[.val (.ref a1), .val (.long q2), .second, .val (.int (8 : Int32)), .val (.int c2)] [(.ref a1)])) _
    refine XS.iconst X0.here hx rfl (hb hby own_d3_43) ?_
    show Steps p.tables e below (s₁.setTop (mkF m 44 #[.val (.ref a1), .val (.long q2), .second, .val (.int (8 : Int32)), .val (.int c2)] [(.int (2 : Int32)), (.ref a1)])) _
    refine X0.laload hx (j := (2 : Int32)) (v := (.long x2)) (by rw [e0]; exact Ar10.1) (State.isArrayOf_alike hZ.alike Ar10.2.1) Ar10.2.2 hin10 hat10 (g := (mkF m 44 #[.val (.ref a1), .val (.long q2), .second, .val (.int (8 : Int32)), .val (.int c2)] [(.int (2 : Int32)), (.ref a1)])) rfl rfl (hb hby own_d3_44) _ ?_
    show Steps p.tables e below (s₁.setTop (mkF m 45 #[.val (.ref a1), .val (.long q2), .second, .val (.int (8 : Int32)), .val (.int c2)] [(.long x2)])) _
    refine XS.lloadN X0.here hx rfl (hb hby own_d3_45) rfl ?_
    show Steps p.tables e below (s₁.setTop (mkF m 46 #[.val (.ref a1), .val (.long q2), .second, .val (.int (8 : Int32)), .val (.int c2)] [(.long q2), (.long x2)])) _
    refine XS.lcmp X0.here hx rfl (hb hby own_d3_46) rfl ?_
    exact k
  obtain ⟨c3, hv_c3⟩ : ∃ z : Int32, z = (if q2 < x2 then c2 else (c2 + (1 : Int32))) := ⟨_, rfl⟩
  have g13 : ∀ t, Steps p.tables e below (s₁.setTop (mkF m 53 #[.val (.ref a1), .val (.long q2), .second, .val (.int (8 : Int32)), .val (.int c3)] [])) t → Steps p.tables e below (s₁.setTop (entryFrame m #[(.ref a1), (.long q2)] 5)) t := by
    intro t k
    by_cases hc12 : q2 < x2
    · rw [if_pos hc12] at hv_c3; rw [hv_c3] at k
      refine g11 t ?_
      show Steps p.tables e below (s₁.setTop (mkF m 47 #[.val (.ref a1), .val (.long q2), .second, .val (.int (8 : Int32)), .val (.int c2)] [(.int (lcmpW x2 q2))])) _
      refine XS.ifYes X0.here hx rfl (pc0 := 47) (pc' := 53) rfl (hb hby own_d3_47) rfl ((if0 _ _).trans (tlt ((lw_gt _ _).mpr hc12)).2.2.1) (by decide) (by decide) ?_
      exact k
    · rw [if_neg hc12] at hv_c3; rw [hv_c3] at k
      refine g11 t ?_
      show Steps p.tables e below (s₁.setTop (mkF m 47 #[.val (.ref a1), .val (.long q2), .second, .val (.int (8 : Int32)), .val (.int c2)] [(.int (lcmpW x2 q2))])) _
      refine XS.ifNo X0.here hx rfl (hb hby own_d3_47) rfl ((if0 _ _).trans (flt (fun q => hc12 ((lw_gt _ _).mp q))).2.2.1) ?_
      show Steps p.tables e below (s₁.setTop (mkF m 50 #[.val (.ref a1), .val (.long q2), .second, .val (.int (8 : Int32)), .val (.int c2)] [])) _
      refine XS.iinc X0.here hx rfl (hb hby own_d3_50) rfl (l' := #[.val (.ref a1), .val (.long q2), .second, .val (.int (8 : Int32)), .val (.int (c2 + (1 : Int32)))]) rfl ?_
      exact k
  obtain ⟨c14, Ar14, cq14, S14, Nn14, Hh14, Gg14⟩ := id Va
  have hin14 : ¬ ((3 : Int32) < 0 ∨ c14.slots.size ≤ ((3 : Int32)).toNatClampNeg) := inb_of S14 ⟨by decide, by decide⟩
  have hat14 : c14.slots[((3 : Int32)).toNatClampNeg]? = some (.long x3) := Has.at Hh14 hin14 rfl
  have g15 : ∀ t, Steps p.tables e below (s₁.setTop (mkF m 63 #[.val (.ref a1), .val (.long q2), .second, .val (.int (8 : Int32)), .val (.int c3)] [(.int (lcmpW x3 q2))])) t → Steps p.tables e below (s₁.setTop (entryFrame m #[(.ref a1), (.long q2)] 5)) t := by
    intro t k
    refine g13 t ?_
    show Steps p.tables e below (s₁.setTop (mkF m 53 #[.val (.ref a1), .val (.long q2), .second, .val (.int (8 : Int32)), .val (.int c3)] [])) _
    refine XS.iloadN X0.here hx rfl (hb hby own_d3_53) rfl ?_
    show Steps p.tables e below (s₁.setTop (mkF m 54 #[.val (.ref a1), .val (.long q2), .second, .val (.int (8 : Int32)), .val (.int c3)] [(.int (8 : Int32))])) _
    refine XS.iconst X0.here hx rfl (hb hby own_d3_54) ?_
    show Steps p.tables e below (s₁.setTop (mkF m 55 #[.val (.ref a1), .val (.long q2), .second, .val (.int (8 : Int32)), .val (.int c3)] [(.int (3 : Int32)), (.int (8 : Int32))])) _
    refine XS.icmpNo X0.here hx rfl (hb hby own_d3_55) rfl (tlt (by decide : (3 : Int32) < (8 : Int32))).2.2.2 ?_
    show Steps p.tables e below (s₁.setTop (mkF m 58 #[.val (.ref a1), .val (.long q2), .second, .val (.int (8 : Int32)), .val (.int c3)] [])) _
    refine XS.aloadN X0.here hx rfl (hb hby own_d3_58) rfl rfl ?_
    show Steps p.tables e below (s₁.setTop (mkF m 59 #[.val (.ref a1), .val (.long q2), .second, .val (.int (8 : Int32)), .val (.int c3)] [(.ref a1)])) _
    refine XS.iconst X0.here hx rfl (hb hby own_d3_59) ?_
    show Steps p.tables e below (s₁.setTop (mkF m 60 #[.val (.ref a1), .val (.long q2), .second, .val (.int (8 : Int32)), .val (.int c3)] [(.int (3 : Int32)), (.ref a1)])) _
    refine X0.laload hx (j := (3 : Int32)) (v := (.long x3)) (by rw [e0]; exact Ar14.1) (State.isArrayOf_alike hZ.alike Ar14.2.1) Ar14.2.2 hin14 hat14 (g := (mkF m 60 #[.val (.ref a1), .val (.long q2), .second, .val (.int (8 : Int32)), .val (.int c3)] [(.int (3 : Int32)), (.ref a1)])) rfl rfl (hb hby own_d3_60) _ ?_
    show Steps p.tables e below (s₁.setTop (mkF m 61 #[.val (.ref a1), .val (.long q2), .second, .val (.int (8 : Int32)), .val (.int c3)] [(.long x3)])) _
    refine XS.lloadN X0.here hx rfl (hb hby own_d3_61) rfl ?_
    show Steps p.tables e below (s₁.setTop (mkF m 62 #[.val (.ref a1), .val (.long q2), .second, .val (.int (8 : Int32)), .val (.int c3)] [(.long q2), (.long x3)])) _
    refine XS.lcmp X0.here hx rfl (hb hby own_d3_62) rfl ?_
    exact k
  obtain ⟨c4, hv_c4⟩ : ∃ z : Int32, z = (if q2 < x3 then c3 else (c3 + (1 : Int32))) := ⟨_, rfl⟩
  have g17 : ∀ t, Steps p.tables e below (s₁.setTop (mkF m 69 #[.val (.ref a1), .val (.long q2), .second, .val (.int (8 : Int32)), .val (.int c4)] [])) t → Steps p.tables e below (s₁.setTop (entryFrame m #[(.ref a1), (.long q2)] 5)) t := by
    intro t k
    by_cases hc16 : q2 < x3
    · rw [if_pos hc16] at hv_c4; rw [hv_c4] at k
      refine g15 t ?_
      show Steps p.tables e below (s₁.setTop (mkF m 63 #[.val (.ref a1), .val (.long q2), .second, .val (.int (8 : Int32)), .val (.int c3)] [(.int (lcmpW x3 q2))])) _
      refine XS.ifYes X0.here hx rfl (pc0 := 63) (pc' := 69) rfl (hb hby own_d3_63) rfl ((if0 _ _).trans (tlt ((lw_gt _ _).mpr hc16)).2.2.1) (by decide) (by decide) ?_
      exact k
    · rw [if_neg hc16] at hv_c4; rw [hv_c4] at k
      refine g15 t ?_
      show Steps p.tables e below (s₁.setTop (mkF m 63 #[.val (.ref a1), .val (.long q2), .second, .val (.int (8 : Int32)), .val (.int c3)] [(.int (lcmpW x3 q2))])) _
      refine XS.ifNo X0.here hx rfl (hb hby own_d3_63) rfl ((if0 _ _).trans (flt (fun q => hc16 ((lw_gt _ _).mp q))).2.2.1) ?_
      show Steps p.tables e below (s₁.setTop (mkF m 66 #[.val (.ref a1), .val (.long q2), .second, .val (.int (8 : Int32)), .val (.int c3)] [])) _
      refine XS.iinc X0.here hx rfl (hb hby own_d3_66) rfl (l' := #[.val (.ref a1), .val (.long q2), .second, .val (.int (8 : Int32)), .val (.int (c3 + (1 : Int32)))]) rfl ?_
      exact k
  obtain ⟨c18, Ar18, cq18, S18, Nn18, Hh18, Gg18⟩ := id Va
  have hin18 : ¬ ((4 : Int32) < 0 ∨ c18.slots.size ≤ ((4 : Int32)).toNatClampNeg) := inb_of S18 ⟨by decide, by decide⟩
  have hat18 : c18.slots[((4 : Int32)).toNatClampNeg]? = some (.long x4) := Has.at Hh18 hin18 rfl
  have g19 : ∀ t, Steps p.tables e below (s₁.setTop (mkF m 79 #[.val (.ref a1), .val (.long q2), .second, .val (.int (8 : Int32)), .val (.int c4)] [(.int (lcmpW x4 q2))])) t → Steps p.tables e below (s₁.setTop (entryFrame m #[(.ref a1), (.long q2)] 5)) t := by
    intro t k
    refine g17 t ?_
    show Steps p.tables e below (s₁.setTop (mkF m 69 #[.val (.ref a1), .val (.long q2), .second, .val (.int (8 : Int32)), .val (.int c4)] [])) _
    refine XS.iloadN X0.here hx rfl (hb hby own_d3_69) rfl ?_
    show Steps p.tables e below (s₁.setTop (mkF m 70 #[.val (.ref a1), .val (.long q2), .second, .val (.int (8 : Int32)), .val (.int c4)] [(.int (8 : Int32))])) _
    refine XS.iconst X0.here hx rfl (hb hby own_d3_70) ?_
    show Steps p.tables e below (s₁.setTop (mkF m 71 #[.val (.ref a1), .val (.long q2), .second, .val (.int (8 : Int32)), .val (.int c4)] [(.int (4 : Int32)), (.int (8 : Int32))])) _
    refine XS.icmpNo X0.here hx rfl (hb hby own_d3_71) rfl (tlt (by decide : (4 : Int32) < (8 : Int32))).2.2.2 ?_
    show Steps p.tables e below (s₁.setTop (mkF m 74 #[.val (.ref a1), .val (.long q2), .second, .val (.int (8 : Int32)), .val (.int c4)] [])) _
    refine XS.aloadN X0.here hx rfl (hb hby own_d3_74) rfl rfl ?_
    show Steps p.tables e below (s₁.setTop (mkF m 75 #[.val (.ref a1), .val (.long q2), .second, .val (.int (8 : Int32)), .val (.int c4)] [(.ref a1)])) _
    refine XS.iconst X0.here hx rfl (hb hby own_d3_75) ?_
    show Steps p.tables e below (s₁.setTop (mkF m 76 #[.val (.ref a1), .val (.long q2), .second, .val (.int (8 : Int32)), .val (.int c4)] [(.int (4 : Int32)), (.ref a1)])) _
    refine X0.laload hx (j := (4 : Int32)) (v := (.long x4)) (by rw [e0]; exact Ar18.1) (State.isArrayOf_alike hZ.alike Ar18.2.1) Ar18.2.2 hin18 hat18 (g := (mkF m 76 #[.val (.ref a1), .val (.long q2), .second, .val (.int (8 : Int32)), .val (.int c4)] [(.int (4 : Int32)), (.ref a1)])) rfl rfl (hb hby own_d3_76) _ ?_
    show Steps p.tables e below (s₁.setTop (mkF m 77 #[.val (.ref a1), .val (.long q2), .second, .val (.int (8 : Int32)), .val (.int c4)] [(.long x4)])) _
    refine XS.lloadN X0.here hx rfl (hb hby own_d3_77) rfl ?_
    show Steps p.tables e below (s₁.setTop (mkF m 78 #[.val (.ref a1), .val (.long q2), .second, .val (.int (8 : Int32)), .val (.int c4)] [(.long q2), (.long x4)])) _
    refine XS.lcmp X0.here hx rfl (hb hby own_d3_78) rfl ?_
    exact k
  obtain ⟨c5, hv_c5⟩ : ∃ z : Int32, z = (if q2 < x4 then c4 else (c4 + (1 : Int32))) := ⟨_, rfl⟩
  have g21 : ∀ t, Steps p.tables e below (s₁.setTop (mkF m 85 #[.val (.ref a1), .val (.long q2), .second, .val (.int (8 : Int32)), .val (.int c5)] [])) t → Steps p.tables e below (s₁.setTop (entryFrame m #[(.ref a1), (.long q2)] 5)) t := by
    intro t k
    by_cases hc20 : q2 < x4
    · rw [if_pos hc20] at hv_c5; rw [hv_c5] at k
      refine g19 t ?_
      show Steps p.tables e below (s₁.setTop (mkF m 79 #[.val (.ref a1), .val (.long q2), .second, .val (.int (8 : Int32)), .val (.int c4)] [(.int (lcmpW x4 q2))])) _
      refine XS.ifYes X0.here hx rfl (pc0 := 79) (pc' := 85) rfl (hb hby own_d3_79) rfl ((if0 _ _).trans (tlt ((lw_gt _ _).mpr hc20)).2.2.1) (by decide) (by decide) ?_
      exact k
    · rw [if_neg hc20] at hv_c5; rw [hv_c5] at k
      refine g19 t ?_
      show Steps p.tables e below (s₁.setTop (mkF m 79 #[.val (.ref a1), .val (.long q2), .second, .val (.int (8 : Int32)), .val (.int c4)] [(.int (lcmpW x4 q2))])) _
      refine XS.ifNo X0.here hx rfl (hb hby own_d3_79) rfl ((if0 _ _).trans (flt (fun q => hc20 ((lw_gt _ _).mp q))).2.2.1) ?_
      show Steps p.tables e below (s₁.setTop (mkF m 82 #[.val (.ref a1), .val (.long q2), .second, .val (.int (8 : Int32)), .val (.int c4)] [])) _
      refine XS.iinc X0.here hx rfl (hb hby own_d3_82) rfl (l' := #[.val (.ref a1), .val (.long q2), .second, .val (.int (8 : Int32)), .val (.int (c4 + (1 : Int32)))]) rfl ?_
      exact k
  obtain ⟨c22, Ar22, cq22, S22, Nn22, Hh22, Gg22⟩ := id Va
  have hin22 : ¬ ((5 : Int32) < 0 ∨ c22.slots.size ≤ ((5 : Int32)).toNatClampNeg) := inb_of S22 ⟨by decide, by decide⟩
  have hat22 : c22.slots[((5 : Int32)).toNatClampNeg]? = some (.long x5) := Has.at Hh22 hin22 rfl
  have g23 : ∀ t, Steps p.tables e below (s₁.setTop (mkF m 95 #[.val (.ref a1), .val (.long q2), .second, .val (.int (8 : Int32)), .val (.int c5)] [(.int (lcmpW x5 q2))])) t → Steps p.tables e below (s₁.setTop (entryFrame m #[(.ref a1), (.long q2)] 5)) t := by
    intro t k
    refine g21 t ?_
    show Steps p.tables e below (s₁.setTop (mkF m 85 #[.val (.ref a1), .val (.long q2), .second, .val (.int (8 : Int32)), .val (.int c5)] [])) _
    refine XS.iloadN X0.here hx rfl (hb hby own_d3_85) rfl ?_
    show Steps p.tables e below (s₁.setTop (mkF m 86 #[.val (.ref a1), .val (.long q2), .second, .val (.int (8 : Int32)), .val (.int c5)] [(.int (8 : Int32))])) _
    refine XS.iconst X0.here hx rfl (hb hby own_d3_86) ?_
    show Steps p.tables e below (s₁.setTop (mkF m 87 #[.val (.ref a1), .val (.long q2), .second, .val (.int (8 : Int32)), .val (.int c5)] [(.int (5 : Int32)), (.int (8 : Int32))])) _
    refine XS.icmpNo X0.here hx rfl (hb hby own_d3_87) rfl (tlt (by decide : (5 : Int32) < (8 : Int32))).2.2.2 ?_
    show Steps p.tables e below (s₁.setTop (mkF m 90 #[.val (.ref a1), .val (.long q2), .second, .val (.int (8 : Int32)), .val (.int c5)] [])) _
    refine XS.aloadN X0.here hx rfl (hb hby own_d3_90) rfl rfl ?_
    show Steps p.tables e below (s₁.setTop (mkF m 91 #[.val (.ref a1), .val (.long q2), .second, .val (.int (8 : Int32)), .val (.int c5)] [(.ref a1)])) _
    refine XS.iconst X0.here hx rfl (hb hby own_d3_91) ?_
    show Steps p.tables e below (s₁.setTop (mkF m 92 #[.val (.ref a1), .val (.long q2), .second, .val (.int (8 : Int32)), .val (.int c5)] [(.int (5 : Int32)), (.ref a1)])) _
    refine X0.laload hx (j := (5 : Int32)) (v := (.long x5)) (by rw [e0]; exact Ar22.1) (State.isArrayOf_alike hZ.alike Ar22.2.1) Ar22.2.2 hin22 hat22 (g := (mkF m 92 #[.val (.ref a1), .val (.long q2), .second, .val (.int (8 : Int32)), .val (.int c5)] [(.int (5 : Int32)), (.ref a1)])) rfl rfl (hb hby own_d3_92) _ ?_
    show Steps p.tables e below (s₁.setTop (mkF m 93 #[.val (.ref a1), .val (.long q2), .second, .val (.int (8 : Int32)), .val (.int c5)] [(.long x5)])) _
    refine XS.lloadN X0.here hx rfl (hb hby own_d3_93) rfl ?_
    show Steps p.tables e below (s₁.setTop (mkF m 94 #[.val (.ref a1), .val (.long q2), .second, .val (.int (8 : Int32)), .val (.int c5)] [(.long q2), (.long x5)])) _
    refine XS.lcmp X0.here hx rfl (hb hby own_d3_94) rfl ?_
    exact k
  obtain ⟨c6, hv_c6⟩ : ∃ z : Int32, z = (if q2 < x5 then c5 else (c5 + (1 : Int32))) := ⟨_, rfl⟩
  have g25 : ∀ t, Steps p.tables e below (s₁.setTop (mkF m 101 #[.val (.ref a1), .val (.long q2), .second, .val (.int (8 : Int32)), .val (.int c6)] [])) t → Steps p.tables e below (s₁.setTop (entryFrame m #[(.ref a1), (.long q2)] 5)) t := by
    intro t k
    by_cases hc24 : q2 < x5
    · rw [if_pos hc24] at hv_c6; rw [hv_c6] at k
      refine g23 t ?_
      show Steps p.tables e below (s₁.setTop (mkF m 95 #[.val (.ref a1), .val (.long q2), .second, .val (.int (8 : Int32)), .val (.int c5)] [(.int (lcmpW x5 q2))])) _
      refine XS.ifYes X0.here hx rfl (pc0 := 95) (pc' := 101) rfl (hb hby own_d3_95) rfl ((if0 _ _).trans (tlt ((lw_gt _ _).mpr hc24)).2.2.1) (by decide) (by decide) ?_
      exact k
    · rw [if_neg hc24] at hv_c6; rw [hv_c6] at k
      refine g23 t ?_
      show Steps p.tables e below (s₁.setTop (mkF m 95 #[.val (.ref a1), .val (.long q2), .second, .val (.int (8 : Int32)), .val (.int c5)] [(.int (lcmpW x5 q2))])) _
      refine XS.ifNo X0.here hx rfl (hb hby own_d3_95) rfl ((if0 _ _).trans (flt (fun q => hc24 ((lw_gt _ _).mp q))).2.2.1) ?_
      show Steps p.tables e below (s₁.setTop (mkF m 98 #[.val (.ref a1), .val (.long q2), .second, .val (.int (8 : Int32)), .val (.int c5)] [])) _
      refine XS.iinc X0.here hx rfl (hb hby own_d3_98) rfl (l' := #[.val (.ref a1), .val (.long q2), .second, .val (.int (8 : Int32)), .val (.int (c5 + (1 : Int32)))]) rfl ?_
      exact k
  obtain ⟨c26, Ar26, cq26, S26, Nn26, Hh26, Gg26⟩ := id Va
  have hin26 : ¬ ((6 : Int32) < 0 ∨ c26.slots.size ≤ ((6 : Int32)).toNatClampNeg) := inb_of S26 ⟨by decide, by decide⟩
  have hat26 : c26.slots[((6 : Int32)).toNatClampNeg]? = some (.long x6) := Has.at Hh26 hin26 rfl
  have g27 : ∀ t, Steps p.tables e below (s₁.setTop (mkF m 113 #[.val (.ref a1), .val (.long q2), .second, .val (.int (8 : Int32)), .val (.int c6)] [(.int (lcmpW x6 q2))])) t → Steps p.tables e below (s₁.setTop (entryFrame m #[(.ref a1), (.long q2)] 5)) t := by
    intro t k
    refine g25 t ?_
    show Steps p.tables e below (s₁.setTop (mkF m 101 #[.val (.ref a1), .val (.long q2), .second, .val (.int (8 : Int32)), .val (.int c6)] [])) _
    refine XS.iloadN X0.here hx rfl (hb hby own_d3_101) rfl ?_
    show Steps p.tables e below (s₁.setTop (mkF m 102 #[.val (.ref a1), .val (.long q2), .second, .val (.int (8 : Int32)), .val (.int c6)] [(.int (8 : Int32))])) _
    refine XS.bipush X0.here hx rfl (hb hby own_d3_102) ?_
    show Steps p.tables e below (s₁.setTop (mkF m 104 #[.val (.ref a1), .val (.long q2), .second, .val (.int (8 : Int32)), .val (.int c6)] [(.int (6 : Int32)), (.int (8 : Int32))])) _
    refine XS.icmpNo X0.here hx rfl (hb hby own_d3_104) rfl (tlt (by decide : (6 : Int32) < (8 : Int32))).2.2.2 ?_
    show Steps p.tables e below (s₁.setTop (mkF m 107 #[.val (.ref a1), .val (.long q2), .second, .val (.int (8 : Int32)), .val (.int c6)] [])) _
    refine XS.aloadN X0.here hx rfl (hb hby own_d3_107) rfl rfl ?_
    show Steps p.tables e below (s₁.setTop (mkF m 108 #[.val (.ref a1), .val (.long q2), .second, .val (.int (8 : Int32)), .val (.int c6)] [(.ref a1)])) _
    refine XS.bipush X0.here hx rfl (hb hby own_d3_108) ?_
    show Steps p.tables e below (s₁.setTop (mkF m 110 #[.val (.ref a1), .val (.long q2), .second, .val (.int (8 : Int32)), .val (.int c6)] [(.int (6 : Int32)), (.ref a1)])) _
    refine X0.laload hx (j := (6 : Int32)) (v := (.long x6)) (by rw [e0]; exact Ar26.1) (State.isArrayOf_alike hZ.alike Ar26.2.1) Ar26.2.2 hin26 hat26 (g := (mkF m 110 #[.val (.ref a1), .val (.long q2), .second, .val (.int (8 : Int32)), .val (.int c6)] [(.int (6 : Int32)), (.ref a1)])) rfl rfl (hb hby own_d3_110) _ ?_
    show Steps p.tables e below (s₁.setTop (mkF m 111 #[.val (.ref a1), .val (.long q2), .second, .val (.int (8 : Int32)), .val (.int c6)] [(.long x6)])) _
    refine XS.lloadN X0.here hx rfl (hb hby own_d3_111) rfl ?_
    show Steps p.tables e below (s₁.setTop (mkF m 112 #[.val (.ref a1), .val (.long q2), .second, .val (.int (8 : Int32)), .val (.int c6)] [(.long q2), (.long x6)])) _
    refine XS.lcmp X0.here hx rfl (hb hby own_d3_112) rfl ?_
    exact k
  obtain ⟨c7, hv_c7⟩ : ∃ z : Int32, z = (if q2 < x6 then c6 else (c6 + (1 : Int32))) := ⟨_, rfl⟩
  have g29 : ∀ t, Steps p.tables e below (s₁.setTop (mkF m 119 #[.val (.ref a1), .val (.long q2), .second, .val (.int (8 : Int32)), .val (.int c7)] [])) t → Steps p.tables e below (s₁.setTop (entryFrame m #[(.ref a1), (.long q2)] 5)) t := by
    intro t k
    by_cases hc28 : q2 < x6
    · rw [if_pos hc28] at hv_c7; rw [hv_c7] at k
      refine g27 t ?_
      show Steps p.tables e below (s₁.setTop (mkF m 113 #[.val (.ref a1), .val (.long q2), .second, .val (.int (8 : Int32)), .val (.int c6)] [(.int (lcmpW x6 q2))])) _
      refine XS.ifYes X0.here hx rfl (pc0 := 113) (pc' := 119) rfl (hb hby own_d3_113) rfl ((if0 _ _).trans (tlt ((lw_gt _ _).mpr hc28)).2.2.1) (by decide) (by decide) ?_
      exact k
    · rw [if_neg hc28] at hv_c7; rw [hv_c7] at k
      refine g27 t ?_
      show Steps p.tables e below (s₁.setTop (mkF m 113 #[.val (.ref a1), .val (.long q2), .second, .val (.int (8 : Int32)), .val (.int c6)] [(.int (lcmpW x6 q2))])) _
      refine XS.ifNo X0.here hx rfl (hb hby own_d3_113) rfl ((if0 _ _).trans (flt (fun q => hc28 ((lw_gt _ _).mp q))).2.2.1) ?_
      show Steps p.tables e below (s₁.setTop (mkF m 116 #[.val (.ref a1), .val (.long q2), .second, .val (.int (8 : Int32)), .val (.int c6)] [])) _
      refine XS.iinc X0.here hx rfl (hb hby own_d3_116) rfl (l' := #[.val (.ref a1), .val (.long q2), .second, .val (.int (8 : Int32)), .val (.int (c6 + (1 : Int32)))]) rfl ?_
      exact k
  obtain ⟨c30, Ar30, cq30, S30, Nn30, Hh30, Gg30⟩ := id Va
  have hin30 : ¬ ((7 : Int32) < 0 ∨ c30.slots.size ≤ ((7 : Int32)).toNatClampNeg) := inb_of S30 ⟨by decide, by decide⟩
  have hat30 : c30.slots[((7 : Int32)).toNatClampNeg]? = some (.long x7) := Has.at Hh30 hin30 rfl
  have g31 : ∀ t, Steps p.tables e below (s₁.setTop (mkF m 131 #[.val (.ref a1), .val (.long q2), .second, .val (.int (8 : Int32)), .val (.int c7)] [(.int (lcmpW x7 q2))])) t → Steps p.tables e below (s₁.setTop (entryFrame m #[(.ref a1), (.long q2)] 5)) t := by
    intro t k
    refine g29 t ?_
    show Steps p.tables e below (s₁.setTop (mkF m 119 #[.val (.ref a1), .val (.long q2), .second, .val (.int (8 : Int32)), .val (.int c7)] [])) _
    refine XS.iloadN X0.here hx rfl (hb hby own_d3_119) rfl ?_
    show Steps p.tables e below (s₁.setTop (mkF m 120 #[.val (.ref a1), .val (.long q2), .second, .val (.int (8 : Int32)), .val (.int c7)] [(.int (8 : Int32))])) _
    refine XS.bipush X0.here hx rfl (hb hby own_d3_120) ?_
    show Steps p.tables e below (s₁.setTop (mkF m 122 #[.val (.ref a1), .val (.long q2), .second, .val (.int (8 : Int32)), .val (.int c7)] [(.int (7 : Int32)), (.int (8 : Int32))])) _
    refine XS.icmpNo X0.here hx rfl (hb hby own_d3_122) rfl (tlt (by decide : (7 : Int32) < (8 : Int32))).2.2.2 ?_
    show Steps p.tables e below (s₁.setTop (mkF m 125 #[.val (.ref a1), .val (.long q2), .second, .val (.int (8 : Int32)), .val (.int c7)] [])) _
    refine XS.aloadN X0.here hx rfl (hb hby own_d3_125) rfl rfl ?_
    show Steps p.tables e below (s₁.setTop (mkF m 126 #[.val (.ref a1), .val (.long q2), .second, .val (.int (8 : Int32)), .val (.int c7)] [(.ref a1)])) _
    refine XS.bipush X0.here hx rfl (hb hby own_d3_126) ?_
    show Steps p.tables e below (s₁.setTop (mkF m 128 #[.val (.ref a1), .val (.long q2), .second, .val (.int (8 : Int32)), .val (.int c7)] [(.int (7 : Int32)), (.ref a1)])) _
    refine X0.laload hx (j := (7 : Int32)) (v := (.long x7)) (by rw [e0]; exact Ar30.1) (State.isArrayOf_alike hZ.alike Ar30.2.1) Ar30.2.2 hin30 hat30 (g := (mkF m 128 #[.val (.ref a1), .val (.long q2), .second, .val (.int (8 : Int32)), .val (.int c7)] [(.int (7 : Int32)), (.ref a1)])) rfl rfl (hb hby own_d3_128) _ ?_
    show Steps p.tables e below (s₁.setTop (mkF m 129 #[.val (.ref a1), .val (.long q2), .second, .val (.int (8 : Int32)), .val (.int c7)] [(.long x7)])) _
    refine XS.lloadN X0.here hx rfl (hb hby own_d3_129) rfl ?_
    show Steps p.tables e below (s₁.setTop (mkF m 130 #[.val (.ref a1), .val (.long q2), .second, .val (.int (8 : Int32)), .val (.int c7)] [(.long q2), (.long x7)])) _
    refine XS.lcmp X0.here hx rfl (hb hby own_d3_130) rfl ?_
    exact k
  obtain ⟨c8, hv_c8⟩ : ∃ z : Int32, z = (if q2 < x7 then c7 else (c7 + (1 : Int32))) := ⟨_, rfl⟩
  have g33 : ∀ t, Steps p.tables e below (s₁.setTop (mkF m 137 #[.val (.ref a1), .val (.long q2), .second, .val (.int (8 : Int32)), .val (.int c8)] [])) t → Steps p.tables e below (s₁.setTop (entryFrame m #[(.ref a1), (.long q2)] 5)) t := by
    intro t k
    by_cases hc32 : q2 < x7
    · rw [if_pos hc32] at hv_c8; rw [hv_c8] at k
      refine g31 t ?_
      show Steps p.tables e below (s₁.setTop (mkF m 131 #[.val (.ref a1), .val (.long q2), .second, .val (.int (8 : Int32)), .val (.int c7)] [(.int (lcmpW x7 q2))])) _
      refine XS.ifYes X0.here hx rfl (pc0 := 131) (pc' := 137) rfl (hb hby own_d3_131) rfl ((if0 _ _).trans (tlt ((lw_gt _ _).mpr hc32)).2.2.1) (by decide) (by decide) ?_
      exact k
    · rw [if_neg hc32] at hv_c8; rw [hv_c8] at k
      refine g31 t ?_
      show Steps p.tables e below (s₁.setTop (mkF m 131 #[.val (.ref a1), .val (.long q2), .second, .val (.int (8 : Int32)), .val (.int c7)] [(.int (lcmpW x7 q2))])) _
      refine XS.ifNo X0.here hx rfl (hb hby own_d3_131) rfl ((if0 _ _).trans (flt (fun q => hc32 ((lw_gt _ _).mp q))).2.2.1) ?_
      show Steps p.tables e below (s₁.setTop (mkF m 134 #[.val (.ref a1), .val (.long q2), .second, .val (.int (8 : Int32)), .val (.int c7)] [])) _
      refine XS.iinc X0.here hx rfl (hb hby own_d3_134) rfl (l' := #[.val (.ref a1), .val (.long q2), .second, .val (.int (8 : Int32)), .val (.int (c7 + (1 : Int32)))]) rfl ?_
      exact k
  have g34 : ∀ t, Steps p.tables e below (s₁.setTop (mkF m 139 #[.val (.ref a1), .val (.long q2), .second, .val (.int (8 : Int32)), .val (.int c8)] [(.int c8)])) t → Steps p.tables e below (s₁.setTop (entryFrame m #[(.ref a1), (.long q2)] 5)) t := by
    intro t k
    refine g33 t ?_
    show Steps p.tables e below (s₁.setTop (mkF m 137 #[.val (.ref a1), .val (.long q2), .second, .val (.int (8 : Int32)), .val (.int c8)] [])) _
    refine XS.iload X0.here hx rfl (hb hby own_d3_137) rfl ?_
    exact k
  obtain ⟨fs, hrt, hrun, hended, hW, hsame⟩ := X0.leave (v := some (.int c8)) (fun h => by rw [Bd.returns] at h; cases h)
  refine ⟨_, _, g34 _ ?_, hrun, hended, _, _, rfl, ?_, ⟨_, rfl⟩, hW, hsame.mono (by decide) (by decide)⟩
  · show Steps p.tables e below (s₁.setTop (mkF m 139 #[.val (.ref a1), .val (.long q2), .second, .val (.int (8 : Int32)), .val (.int c8)] [(.int c8)])) _
    exact retI X0 hx Bd.returns (hb hby own_d3_139) hrt
  · show own_Q_rmcountLe8 Z a1 ka x0 x1 x2 x3 x4 x5 x6 x7 q2 r h0 n0 _ s₁.heap _
    rw [e0]
    exact ⟨by rw [← hr]; subst hv_c1; subst hv_c2; subst hv_c3; subst hv_c4; subst hv_c5; subst hv_c6; subst hv_c7; subst hv_c8; rfl, N0, rfl⟩
theorem own_ef25 (m : MethodId) (x0 : Addr) (x1 : Int64) : entryFrame m #[(.ref x0), (.long x1)] 5 = mkF m 0 #[.val (.ref x0), .val (.long x1), .second, .unset, .unset] [] := by first | (simp [entryFrame, mkF, argsToLocals, Value.category]; done) | rfl
theorem own_d4_125 : decode method_4_code 125 = .ok (.aload_n 0, 1) := by decide +kernel
theorem own_d4_126 : decode method_4_code 126 = .ok (.bipush 7, 2) := by decide +kernel
theorem own_d4_128 : decode method_4_code 128 = .ok (.laload, 1) := by decide +kernel
theorem own_d4_129 : decode method_4_code 129 = .ok (.lload_n 1, 1) := by decide +kernel
theorem own_d4_130 : decode method_4_code 130 = .ok (.lcmp, 1) := by decide +kernel
theorem own_d4_131 : decode method_4_code 131 = .ok (.ifCond .ge 6, 3) := by decide +kernel
theorem own_d4_134 : decode method_4_code 134 = .ok (.iinc 4 1, 3) := by decide +kernel
def own_Q_rmcountLt8 (Z : State) (a1 : Addr) (ka : ClassId) (x0 x1 x2 x3 x4 x5 x6 x7 q2 : Int64) (r : Int32) (h0 : Heap) (n0 : Nat) (v : Option Value) (h : Heap) (L : List Loc) : Prop := v = some (.int r) ∧ Fr n0 L ∧ h = h0
set_option maxRecDepth 65536 in
set_option maxHeartbeats 40000000 in
theorem rmcountLt8 (l : Launch) (Z : State) (a0 : Array Value) (hw : ∀ d ∈ tables_1, d.before a0 Z = true) (ws : List Jvm.Cond) (a1 : Addr) (ka : ClassId) (x0 x1 x2 x3 x4 x5 x6 x7 q2 : Int64) (r : Int32) (h0 : Heap) (n0 : Nat) (O0 : Old Z n0 h0) (Va : Arv Z h0 a1 ka .long (8 : Int32) [(.long x0), (.long x1), (.long x2), (.long x3), (.long x4), (.long x5), (.long x6), (.long x7)] (.long (0 : Int64))) (hr : own_clt q2 [x0, x1, x2, x3, x4, x5, x6, x7] 0 = r) :
    MetFree l (⟨"orderwire/bench/LatencyPercentilePinLaw", "countLt", "([JJ)I"⟩ : MethodName) (head1 (Jvm.Cond.code (⟨"orderwire/bench/LatencyPercentilePinLaw", "countLt", "([JJ)I"⟩ : MethodName) method_4_code 5 (some .int) :: ws) ({ frames := 0, cells := 0, slots := 0, locals := 0 } : Room)) (fun a U => a = #[(.ref a1), (.long q2)] ∧ Z.Warmed39 U.vm ∧ U.heap = h0) (fun _ _ _ _ _ => True) (fun _ U o U' => ∃ v L, o = .returned v ∧ own_Q_rmcountLt8 Z a1 ka x0 x1 x2 x3 x4 x5 x6 x7 q2 r h0 n0 v U'.heap L ∧ FrameEnd U o U' L ({ frames := 0, cells := 0, slots := 0, locals := 0 } : Room).cells ({ frames := 0, cells := 0, slots := 0, locals := 0 } : Room).slots) := by
  refine MetFree.of_bodySF (plainFor_of_name own_pn1) hisR ?_
  intro p e s m args below meth c s₁ Bd hml0 hP hK
  obtain ⟨rfl, hZ, hh⟩ := hP
  have hx := Bd.exec
  have hby := Bd.bytes
  have hml : c.maxLocals = 5 := hml0
  have hown : s.vm.findClass "orderwire/bench/LatencyPercentilePinLaw" = some m.cls := findClass_of_methodNamed Bd.named
  have hnm := (name_of_methodNamed Bd.named Bd.method).1
  have X0 : Stand p l e ({ frames := 0, cells := 0, slots := 0, locals := 0 } : Room) s m #[(.ref a1), (.long q2)] below meth c s₁ [] 0 0 := Stand.of_body Bd
  have e0 : s₁.heap = h0 := by rw [← hh, Bd.state]; rfl
  have N0 := Fr.nil n0
  have Z0 : n0 ≤ h0.size := O0.1 ▸ O0.2.1
  have g0 : ∀ t, Steps p.tables e below (s₁.setTop (mkF m 0 #[.val (.ref a1), .val (.long q2), .second, .unset, .unset] [])) t → Steps p.tables e below (s₁.setTop (entryFrame m #[(.ref a1), (.long q2)] 5)) t := fun t k => castTop (own_ef25 m (a1) (q2)) k
  obtain ⟨c1, Ar1, cq1, S1, Nn1, Hh1, Gg1⟩ := id Va
  obtain ⟨c2, Ar2, cq2, S2, Nn2, Hh2, Gg2⟩ := id Va
  have hin2 : ¬ ((0 : Int32) < 0 ∨ c2.slots.size ≤ ((0 : Int32)).toNatClampNeg) := inb_of S2 ⟨by decide, by decide⟩
  have hat2 : c2.slots[((0 : Int32)).toNatClampNeg]? = some (.long x0) := Has.at Hh2 hin2 rfl
  have g3 : ∀ t, Steps p.tables e below (s₁.setTop (mkF m 15 #[.val (.ref a1), .val (.long q2), .second, .val (.int (8 : Int32)), .val (.int (0 : Int32))] [(.int (lcmpW x0 q2))])) t → Steps p.tables e below (s₁.setTop (entryFrame m #[(.ref a1), (.long q2)] 5)) t := by
    intro t k
    refine g0 t ?_
    show Steps p.tables e below (s₁.setTop (mkF m 0 #[.val (.ref a1), .val (.long q2), .second, .unset, .unset] [])) _
    refine XS.aloadN X0.here hx rfl (hb hby own_d4_0) rfl rfl ?_
    show Steps p.tables e below (s₁.setTop (mkF m 1 #[.val (.ref a1), .val (.long q2), .second, .unset, .unset] [(.ref a1)])) _
    refine X0.arraylength hx (by rw [e0]; exact Ar1.1) (State.isArrayOf_alike hZ.alike Ar1.2.1) (g := (mkF m 1 #[.val (.ref a1), .val (.long q2), .second, .unset, .unset] [(.ref a1)])) rfl rfl (hb hby own_d4_1) _ ?_
    rw [len_of S1 Nn1]
    show Steps p.tables e below (s₁.setTop (mkF m 2 #[.val (.ref a1), .val (.long q2), .second, .unset, .unset] [(.int (8 : Int32))])) _
    refine XS.istoreN X0.here hx rfl (hb hby own_d4_2) rfl (l' := #[.val (.ref a1), .val (.long q2), .second, .val (.int (8 : Int32)), .unset]) rfl ?_
    show Steps p.tables e below (s₁.setTop (mkF m 3 #[.val (.ref a1), .val (.long q2), .second, .val (.int (8 : Int32)), .unset] [])) _
    refine XS.iconst X0.here hx rfl (hb hby own_d4_3) ?_
    show Steps p.tables e below (s₁.setTop (mkF m 4 #[.val (.ref a1), .val (.long q2), .second, .val (.int (8 : Int32)), .unset] [(.int (0 : Int32))])) _
    refine XS.istore X0.here hx rfl (hb hby own_d4_4) rfl (l' := #[.val (.ref a1), .val (.long q2), .second, .val (.int (8 : Int32)), .val (.int (0 : Int32))]) rfl ?_
    show Steps p.tables e below (s₁.setTop (mkF m 6 #[.val (.ref a1), .val (.long q2), .second, .val (.int (8 : Int32)), .val (.int (0 : Int32))] [])) _
    refine XS.iloadN X0.here hx rfl (hb hby own_d4_6) rfl ?_
    show Steps p.tables e below (s₁.setTop (mkF m 7 #[.val (.ref a1), .val (.long q2), .second, .val (.int (8 : Int32)), .val (.int (0 : Int32))] [(.int (8 : Int32))])) _
    refine XS.ifNo X0.here hx rfl (hb hby own_d4_7) rfl ((if0 _ _).trans (tlt (by decide : (0 : Int32) < (8 : Int32))).2.2.2) ?_
    show Steps p.tables e below (s₁.setTop (mkF m 10 #[.val (.ref a1), .val (.long q2), .second, .val (.int (8 : Int32)), .val (.int (0 : Int32))] [])) _
    refine XS.aloadN X0.here hx rfl (hb hby own_d4_10) rfl rfl ?_
    show Steps p.tables e below (s₁.setTop (mkF m 11 #[.val (.ref a1), .val (.long q2), .second, .val (.int (8 : Int32)), .val (.int (0 : Int32))] [(.ref a1)])) _
    refine XS.iconst X0.here hx rfl (hb hby own_d4_11) ?_
    show Steps p.tables e below (s₁.setTop (mkF m 12 #[.val (.ref a1), .val (.long q2), .second, .val (.int (8 : Int32)), .val (.int (0 : Int32))] [(.int (0 : Int32)), (.ref a1)])) _
    refine X0.laload hx (j := (0 : Int32)) (v := (.long x0)) (by rw [e0]; exact Ar2.1) (State.isArrayOf_alike hZ.alike Ar2.2.1) Ar2.2.2 hin2 hat2 (g := (mkF m 12 #[.val (.ref a1), .val (.long q2), .second, .val (.int (8 : Int32)), .val (.int (0 : Int32))] [(.int (0 : Int32)), (.ref a1)])) rfl rfl (hb hby own_d4_12) _ ?_
    show Steps p.tables e below (s₁.setTop (mkF m 13 #[.val (.ref a1), .val (.long q2), .second, .val (.int (8 : Int32)), .val (.int (0 : Int32))] [(.long x0)])) _
    refine XS.lloadN X0.here hx rfl (hb hby own_d4_13) rfl ?_
    show Steps p.tables e below (s₁.setTop (mkF m 14 #[.val (.ref a1), .val (.long q2), .second, .val (.int (8 : Int32)), .val (.int (0 : Int32))] [(.long q2), (.long x0)])) _
    refine XS.lcmp X0.here hx rfl (hb hby own_d4_14) rfl ?_
    exact k
  obtain ⟨c1, hv_c1⟩ : ∃ z : Int32, z = (if x0 < q2 then ((0 : Int32) + (1 : Int32)) else (0 : Int32)) := ⟨_, rfl⟩
  have g5 : ∀ t, Steps p.tables e below (s₁.setTop (mkF m 21 #[.val (.ref a1), .val (.long q2), .second, .val (.int (8 : Int32)), .val (.int c1)] [])) t → Steps p.tables e below (s₁.setTop (entryFrame m #[(.ref a1), (.long q2)] 5)) t := by
    intro t k
    by_cases hc4 : x0 < q2
    · rw [if_pos hc4] at hv_c1; rw [hv_c1] at k
      refine g3 t ?_
      show Steps p.tables e below (s₁.setTop (mkF m 15 #[.val (.ref a1), .val (.long q2), .second, .val (.int (8 : Int32)), .val (.int (0 : Int32))] [(.int (lcmpW x0 q2))])) _
      refine XS.ifNo X0.here hx rfl (hb hby own_d4_15) rfl ((if0 _ _).trans (tlt ((lw_lt _ _).mpr hc4)).2.1) ?_
      show Steps p.tables e below (s₁.setTop (mkF m 18 #[.val (.ref a1), .val (.long q2), .second, .val (.int (8 : Int32)), .val (.int (0 : Int32))] [])) _
      refine XS.iinc X0.here hx rfl (hb hby own_d4_18) rfl (l' := #[.val (.ref a1), .val (.long q2), .second, .val (.int (8 : Int32)), .val (.int ((0 : Int32) + (1 : Int32)))]) rfl ?_
      exact k
    · rw [if_neg hc4] at hv_c1; rw [hv_c1] at k
      refine g3 t ?_
      show Steps p.tables e below (s₁.setTop (mkF m 15 #[.val (.ref a1), .val (.long q2), .second, .val (.int (8 : Int32)), .val (.int (0 : Int32))] [(.int (lcmpW x0 q2))])) _
      refine XS.ifYes X0.here hx rfl (pc0 := 15) (pc' := 21) rfl (hb hby own_d4_15) rfl ((if0 _ _).trans (flt (fun q => hc4 ((lw_lt _ _).mp q))).2.1) (by decide) (by decide) ?_
      exact k
  obtain ⟨c6, Ar6, cq6, S6, Nn6, Hh6, Gg6⟩ := id Va
  have hin6 : ¬ ((1 : Int32) < 0 ∨ c6.slots.size ≤ ((1 : Int32)).toNatClampNeg) := inb_of S6 ⟨by decide, by decide⟩
  have hat6 : c6.slots[((1 : Int32)).toNatClampNeg]? = some (.long x1) := Has.at Hh6 hin6 rfl
  have g7 : ∀ t, Steps p.tables e below (s₁.setTop (mkF m 31 #[.val (.ref a1), .val (.long q2), .second, .val (.int (8 : Int32)), .val (.int c1)] [(.int (lcmpW x1 q2))])) t → Steps p.tables e below (s₁.setTop (entryFrame m #[(.ref a1), (.long q2)] 5)) t := by
    intro t k
    refine g5 t ?_
    show Steps p.tables e below (s₁.setTop (mkF m 21 #[.val (.ref a1), .val (.long q2), .second, .val (.int (8 : Int32)), .val (.int c1)] [])) _
    refine XS.iloadN X0.here hx rfl (hb hby own_d4_21) rfl ?_
    show Steps p.tables e below (s₁.setTop (mkF m 22 #[.val (.ref a1), .val (.long q2), .second, .val (.int (8 : Int32)), .val (.int c1)] [(.int (8 : Int32))])) _
    refine XS.iconst X0.here hx rfl (hb hby own_d4_22) ?_
    show Steps p.tables e below (s₁.setTop (mkF m 23 #[.val (.ref a1), .val (.long q2), .second, .val (.int (8 : Int32)), .val (.int c1)] [(.int (1 : Int32)), (.int (8 : Int32))])) _
    refine XS.icmpNo X0.here hx rfl (hb hby own_d4_23) rfl (tlt (by decide : (1 : Int32) < (8 : Int32))).2.2.2 ?_
    show Steps p.tables e below (s₁.setTop (mkF m 26 #[.val (.ref a1), .val (.long q2), .second, .val (.int (8 : Int32)), .val (.int c1)] [])) _
    refine XS.aloadN X0.here hx rfl (hb hby own_d4_26) rfl rfl ?_
    show Steps p.tables e below (s₁.setTop (mkF m 27 #[.val (.ref a1), .val (.long q2), .second, .val (.int (8 : Int32)), .val (.int c1)] [(.ref a1)])) _
    refine XS.iconst X0.here hx rfl (hb hby own_d4_27) ?_
    show Steps p.tables e below (s₁.setTop (mkF m 28 #[.val (.ref a1), .val (.long q2), .second, .val (.int (8 : Int32)), .val (.int c1)] [(.int (1 : Int32)), (.ref a1)])) _
    refine X0.laload hx (j := (1 : Int32)) (v := (.long x1)) (by rw [e0]; exact Ar6.1) (State.isArrayOf_alike hZ.alike Ar6.2.1) Ar6.2.2 hin6 hat6 (g := (mkF m 28 #[.val (.ref a1), .val (.long q2), .second, .val (.int (8 : Int32)), .val (.int c1)] [(.int (1 : Int32)), (.ref a1)])) rfl rfl (hb hby own_d4_28) _ ?_
    show Steps p.tables e below (s₁.setTop (mkF m 29 #[.val (.ref a1), .val (.long q2), .second, .val (.int (8 : Int32)), .val (.int c1)] [(.long x1)])) _
    refine XS.lloadN X0.here hx rfl (hb hby own_d4_29) rfl ?_
    show Steps p.tables e below (s₁.setTop (mkF m 30 #[.val (.ref a1), .val (.long q2), .second, .val (.int (8 : Int32)), .val (.int c1)] [(.long q2), (.long x1)])) _
    refine XS.lcmp X0.here hx rfl (hb hby own_d4_30) rfl ?_
    exact k
  obtain ⟨c2, hv_c2⟩ : ∃ z : Int32, z = (if x1 < q2 then (c1 + (1 : Int32)) else c1) := ⟨_, rfl⟩
  have g9 : ∀ t, Steps p.tables e below (s₁.setTop (mkF m 37 #[.val (.ref a1), .val (.long q2), .second, .val (.int (8 : Int32)), .val (.int c2)] [])) t → Steps p.tables e below (s₁.setTop (entryFrame m #[(.ref a1), (.long q2)] 5)) t := by
    intro t k
    by_cases hc8 : x1 < q2
    · rw [if_pos hc8] at hv_c2; rw [hv_c2] at k
      refine g7 t ?_
      show Steps p.tables e below (s₁.setTop (mkF m 31 #[.val (.ref a1), .val (.long q2), .second, .val (.int (8 : Int32)), .val (.int c1)] [(.int (lcmpW x1 q2))])) _
      refine XS.ifNo X0.here hx rfl (hb hby own_d4_31) rfl ((if0 _ _).trans (tlt ((lw_lt _ _).mpr hc8)).2.1) ?_
      show Steps p.tables e below (s₁.setTop (mkF m 34 #[.val (.ref a1), .val (.long q2), .second, .val (.int (8 : Int32)), .val (.int c1)] [])) _
      refine XS.iinc X0.here hx rfl (hb hby own_d4_34) rfl (l' := #[.val (.ref a1), .val (.long q2), .second, .val (.int (8 : Int32)), .val (.int (c1 + (1 : Int32)))]) rfl ?_
      exact k
    · rw [if_neg hc8] at hv_c2; rw [hv_c2] at k
      refine g7 t ?_
      show Steps p.tables e below (s₁.setTop (mkF m 31 #[.val (.ref a1), .val (.long q2), .second, .val (.int (8 : Int32)), .val (.int c1)] [(.int (lcmpW x1 q2))])) _
      refine XS.ifYes X0.here hx rfl (pc0 := 31) (pc' := 37) rfl (hb hby own_d4_31) rfl ((if0 _ _).trans (flt (fun q => hc8 ((lw_lt _ _).mp q))).2.1) (by decide) (by decide) ?_
      exact k
  obtain ⟨c10, Ar10, cq10, S10, Nn10, Hh10, Gg10⟩ := id Va
  have hin10 : ¬ ((2 : Int32) < 0 ∨ c10.slots.size ≤ ((2 : Int32)).toNatClampNeg) := inb_of S10 ⟨by decide, by decide⟩
  have hat10 : c10.slots[((2 : Int32)).toNatClampNeg]? = some (.long x2) := Has.at Hh10 hin10 rfl
  have g11 : ∀ t, Steps p.tables e below (s₁.setTop (mkF m 47 #[.val (.ref a1), .val (.long q2), .second, .val (.int (8 : Int32)), .val (.int c2)] [(.int (lcmpW x2 q2))])) t → Steps p.tables e below (s₁.setTop (entryFrame m #[(.ref a1), (.long q2)] 5)) t := by
    intro t k
    refine g9 t ?_
    show Steps p.tables e below (s₁.setTop (mkF m 37 #[.val (.ref a1), .val (.long q2), .second, .val (.int (8 : Int32)), .val (.int c2)] [])) _
    refine XS.iloadN X0.here hx rfl (hb hby own_d4_37) rfl ?_
    show Steps p.tables e below (s₁.setTop (mkF m 38 #[.val (.ref a1), .val (.long q2), .second, .val (.int (8 : Int32)), .val (.int c2)] [(.int (8 : Int32))])) _
    refine XS.iconst X0.here hx rfl (hb hby own_d4_38) ?_
    show Steps p.tables e below (s₁.setTop (mkF m 39 #[.val (.ref a1), .val (.long q2), .second, .val (.int (8 : Int32)), .val (.int c2)] [(.int (2 : Int32)), (.int (8 : Int32))])) _
    refine XS.icmpNo X0.here hx rfl (hb hby own_d4_39) rfl (tlt (by decide : (2 : Int32) < (8 : Int32))).2.2.2 ?_
    show Steps p.tables e below (s₁.setTop (mkF m 42 #[.val (.ref a1), .val (.long q2), .second, .val (.int (8 : Int32)), .val (.int c2)] [])) _
    refine XS.aloadN X0.here hx rfl (hb hby own_d4_42) rfl rfl ?_
    show Steps p.tables e below (s₁.setTop (mkF m 43 #[.val (.ref a1), .val (.long q2), .second, .val (.int (8 : Int32)), .val (.int c2)] [(.ref a1)])) _
    refine XS.iconst X0.here hx rfl (hb hby own_d4_43) ?_
    show Steps p.tables e below (s₁.setTop (mkF m 44 #[.val (.ref a1), .val (.long q2), .second, .val (.int (8 : Int32)), .val (.int c2)] [(.int (2 : Int32)), (.ref a1)])) _
    refine X0.laload hx (j := (2 : Int32)) (v := (.long x2)) (by rw [e0]; exact Ar10.1) (State.isArrayOf_alike hZ.alike Ar10.2.1) Ar10.2.2 hin10 hat10 (g := (mkF m 44 #[.val (.ref a1), .val (.long q2), .second, .val (.int (8 : Int32)), .val (.int c2)] [(.int (2 : Int32)), (.ref a1)])) rfl rfl (hb hby own_d4_44) _ ?_
    show Steps p.tables e below (s₁.setTop (mkF m 45 #[.val (.ref a1), .val (.long q2), .second, .val (.int (8 : Int32)), .val (.int c2)] [(.long x2)])) _
    refine XS.lloadN X0.here hx rfl (hb hby own_d4_45) rfl ?_
    show Steps p.tables e below (s₁.setTop (mkF m 46 #[.val (.ref a1), .val (.long q2), .second, .val (.int (8 : Int32)), .val (.int c2)] [(.long q2), (.long x2)])) _
    refine XS.lcmp X0.here hx rfl (hb hby own_d4_46) rfl ?_
    exact k
  obtain ⟨c3, hv_c3⟩ : ∃ z : Int32, z = (if x2 < q2 then (c2 + (1 : Int32)) else c2) := ⟨_, rfl⟩
  have g13 : ∀ t, Steps p.tables e below (s₁.setTop (mkF m 53 #[.val (.ref a1), .val (.long q2), .second, .val (.int (8 : Int32)), .val (.int c3)] [])) t → Steps p.tables e below (s₁.setTop (entryFrame m #[(.ref a1), (.long q2)] 5)) t := by
    intro t k
    by_cases hc12 : x2 < q2
    · rw [if_pos hc12] at hv_c3; rw [hv_c3] at k
      refine g11 t ?_
      show Steps p.tables e below (s₁.setTop (mkF m 47 #[.val (.ref a1), .val (.long q2), .second, .val (.int (8 : Int32)), .val (.int c2)] [(.int (lcmpW x2 q2))])) _
      refine XS.ifNo X0.here hx rfl (hb hby own_d4_47) rfl ((if0 _ _).trans (tlt ((lw_lt _ _).mpr hc12)).2.1) ?_
      show Steps p.tables e below (s₁.setTop (mkF m 50 #[.val (.ref a1), .val (.long q2), .second, .val (.int (8 : Int32)), .val (.int c2)] [])) _
      refine XS.iinc X0.here hx rfl (hb hby own_d4_50) rfl (l' := #[.val (.ref a1), .val (.long q2), .second, .val (.int (8 : Int32)), .val (.int (c2 + (1 : Int32)))]) rfl ?_
      exact k
    · rw [if_neg hc12] at hv_c3; rw [hv_c3] at k
      refine g11 t ?_
      show Steps p.tables e below (s₁.setTop (mkF m 47 #[.val (.ref a1), .val (.long q2), .second, .val (.int (8 : Int32)), .val (.int c2)] [(.int (lcmpW x2 q2))])) _
      refine XS.ifYes X0.here hx rfl (pc0 := 47) (pc' := 53) rfl (hb hby own_d4_47) rfl ((if0 _ _).trans (flt (fun q => hc12 ((lw_lt _ _).mp q))).2.1) (by decide) (by decide) ?_
      exact k
  obtain ⟨c14, Ar14, cq14, S14, Nn14, Hh14, Gg14⟩ := id Va
  have hin14 : ¬ ((3 : Int32) < 0 ∨ c14.slots.size ≤ ((3 : Int32)).toNatClampNeg) := inb_of S14 ⟨by decide, by decide⟩
  have hat14 : c14.slots[((3 : Int32)).toNatClampNeg]? = some (.long x3) := Has.at Hh14 hin14 rfl
  have g15 : ∀ t, Steps p.tables e below (s₁.setTop (mkF m 63 #[.val (.ref a1), .val (.long q2), .second, .val (.int (8 : Int32)), .val (.int c3)] [(.int (lcmpW x3 q2))])) t → Steps p.tables e below (s₁.setTop (entryFrame m #[(.ref a1), (.long q2)] 5)) t := by
    intro t k
    refine g13 t ?_
    show Steps p.tables e below (s₁.setTop (mkF m 53 #[.val (.ref a1), .val (.long q2), .second, .val (.int (8 : Int32)), .val (.int c3)] [])) _
    refine XS.iloadN X0.here hx rfl (hb hby own_d4_53) rfl ?_
    show Steps p.tables e below (s₁.setTop (mkF m 54 #[.val (.ref a1), .val (.long q2), .second, .val (.int (8 : Int32)), .val (.int c3)] [(.int (8 : Int32))])) _
    refine XS.iconst X0.here hx rfl (hb hby own_d4_54) ?_
    show Steps p.tables e below (s₁.setTop (mkF m 55 #[.val (.ref a1), .val (.long q2), .second, .val (.int (8 : Int32)), .val (.int c3)] [(.int (3 : Int32)), (.int (8 : Int32))])) _
    refine XS.icmpNo X0.here hx rfl (hb hby own_d4_55) rfl (tlt (by decide : (3 : Int32) < (8 : Int32))).2.2.2 ?_
    show Steps p.tables e below (s₁.setTop (mkF m 58 #[.val (.ref a1), .val (.long q2), .second, .val (.int (8 : Int32)), .val (.int c3)] [])) _
    refine XS.aloadN X0.here hx rfl (hb hby own_d4_58) rfl rfl ?_
    show Steps p.tables e below (s₁.setTop (mkF m 59 #[.val (.ref a1), .val (.long q2), .second, .val (.int (8 : Int32)), .val (.int c3)] [(.ref a1)])) _
    refine XS.iconst X0.here hx rfl (hb hby own_d4_59) ?_
    show Steps p.tables e below (s₁.setTop (mkF m 60 #[.val (.ref a1), .val (.long q2), .second, .val (.int (8 : Int32)), .val (.int c3)] [(.int (3 : Int32)), (.ref a1)])) _
    refine X0.laload hx (j := (3 : Int32)) (v := (.long x3)) (by rw [e0]; exact Ar14.1) (State.isArrayOf_alike hZ.alike Ar14.2.1) Ar14.2.2 hin14 hat14 (g := (mkF m 60 #[.val (.ref a1), .val (.long q2), .second, .val (.int (8 : Int32)), .val (.int c3)] [(.int (3 : Int32)), (.ref a1)])) rfl rfl (hb hby own_d4_60) _ ?_
    show Steps p.tables e below (s₁.setTop (mkF m 61 #[.val (.ref a1), .val (.long q2), .second, .val (.int (8 : Int32)), .val (.int c3)] [(.long x3)])) _
    refine XS.lloadN X0.here hx rfl (hb hby own_d4_61) rfl ?_
    show Steps p.tables e below (s₁.setTop (mkF m 62 #[.val (.ref a1), .val (.long q2), .second, .val (.int (8 : Int32)), .val (.int c3)] [(.long q2), (.long x3)])) _
    refine XS.lcmp X0.here hx rfl (hb hby own_d4_62) rfl ?_
    exact k
  obtain ⟨c4, hv_c4⟩ : ∃ z : Int32, z = (if x3 < q2 then (c3 + (1 : Int32)) else c3) := ⟨_, rfl⟩
  have g17 : ∀ t, Steps p.tables e below (s₁.setTop (mkF m 69 #[.val (.ref a1), .val (.long q2), .second, .val (.int (8 : Int32)), .val (.int c4)] [])) t → Steps p.tables e below (s₁.setTop (entryFrame m #[(.ref a1), (.long q2)] 5)) t := by
    intro t k
    by_cases hc16 : x3 < q2
    · rw [if_pos hc16] at hv_c4; rw [hv_c4] at k
      refine g15 t ?_
      show Steps p.tables e below (s₁.setTop (mkF m 63 #[.val (.ref a1), .val (.long q2), .second, .val (.int (8 : Int32)), .val (.int c3)] [(.int (lcmpW x3 q2))])) _
      refine XS.ifNo X0.here hx rfl (hb hby own_d4_63) rfl ((if0 _ _).trans (tlt ((lw_lt _ _).mpr hc16)).2.1) ?_
      show Steps p.tables e below (s₁.setTop (mkF m 66 #[.val (.ref a1), .val (.long q2), .second, .val (.int (8 : Int32)), .val (.int c3)] [])) _
      refine XS.iinc X0.here hx rfl (hb hby own_d4_66) rfl (l' := #[.val (.ref a1), .val (.long q2), .second, .val (.int (8 : Int32)), .val (.int (c3 + (1 : Int32)))]) rfl ?_
      exact k
    · rw [if_neg hc16] at hv_c4; rw [hv_c4] at k
      refine g15 t ?_
      show Steps p.tables e below (s₁.setTop (mkF m 63 #[.val (.ref a1), .val (.long q2), .second, .val (.int (8 : Int32)), .val (.int c3)] [(.int (lcmpW x3 q2))])) _
      refine XS.ifYes X0.here hx rfl (pc0 := 63) (pc' := 69) rfl (hb hby own_d4_63) rfl ((if0 _ _).trans (flt (fun q => hc16 ((lw_lt _ _).mp q))).2.1) (by decide) (by decide) ?_
      exact k
  obtain ⟨c18, Ar18, cq18, S18, Nn18, Hh18, Gg18⟩ := id Va
  have hin18 : ¬ ((4 : Int32) < 0 ∨ c18.slots.size ≤ ((4 : Int32)).toNatClampNeg) := inb_of S18 ⟨by decide, by decide⟩
  have hat18 : c18.slots[((4 : Int32)).toNatClampNeg]? = some (.long x4) := Has.at Hh18 hin18 rfl
  have g19 : ∀ t, Steps p.tables e below (s₁.setTop (mkF m 79 #[.val (.ref a1), .val (.long q2), .second, .val (.int (8 : Int32)), .val (.int c4)] [(.int (lcmpW x4 q2))])) t → Steps p.tables e below (s₁.setTop (entryFrame m #[(.ref a1), (.long q2)] 5)) t := by
    intro t k
    refine g17 t ?_
    show Steps p.tables e below (s₁.setTop (mkF m 69 #[.val (.ref a1), .val (.long q2), .second, .val (.int (8 : Int32)), .val (.int c4)] [])) _
    refine XS.iloadN X0.here hx rfl (hb hby own_d4_69) rfl ?_
    show Steps p.tables e below (s₁.setTop (mkF m 70 #[.val (.ref a1), .val (.long q2), .second, .val (.int (8 : Int32)), .val (.int c4)] [(.int (8 : Int32))])) _
    refine XS.iconst X0.here hx rfl (hb hby own_d4_70) ?_
    show Steps p.tables e below (s₁.setTop (mkF m 71 #[.val (.ref a1), .val (.long q2), .second, .val (.int (8 : Int32)), .val (.int c4)] [(.int (4 : Int32)), (.int (8 : Int32))])) _
    refine XS.icmpNo X0.here hx rfl (hb hby own_d4_71) rfl (tlt (by decide : (4 : Int32) < (8 : Int32))).2.2.2 ?_
    show Steps p.tables e below (s₁.setTop (mkF m 74 #[.val (.ref a1), .val (.long q2), .second, .val (.int (8 : Int32)), .val (.int c4)] [])) _
    refine XS.aloadN X0.here hx rfl (hb hby own_d4_74) rfl rfl ?_
    show Steps p.tables e below (s₁.setTop (mkF m 75 #[.val (.ref a1), .val (.long q2), .second, .val (.int (8 : Int32)), .val (.int c4)] [(.ref a1)])) _
    refine XS.iconst X0.here hx rfl (hb hby own_d4_75) ?_
    show Steps p.tables e below (s₁.setTop (mkF m 76 #[.val (.ref a1), .val (.long q2), .second, .val (.int (8 : Int32)), .val (.int c4)] [(.int (4 : Int32)), (.ref a1)])) _
    refine X0.laload hx (j := (4 : Int32)) (v := (.long x4)) (by rw [e0]; exact Ar18.1) (State.isArrayOf_alike hZ.alike Ar18.2.1) Ar18.2.2 hin18 hat18 (g := (mkF m 76 #[.val (.ref a1), .val (.long q2), .second, .val (.int (8 : Int32)), .val (.int c4)] [(.int (4 : Int32)), (.ref a1)])) rfl rfl (hb hby own_d4_76) _ ?_
    show Steps p.tables e below (s₁.setTop (mkF m 77 #[.val (.ref a1), .val (.long q2), .second, .val (.int (8 : Int32)), .val (.int c4)] [(.long x4)])) _
    refine XS.lloadN X0.here hx rfl (hb hby own_d4_77) rfl ?_
    show Steps p.tables e below (s₁.setTop (mkF m 78 #[.val (.ref a1), .val (.long q2), .second, .val (.int (8 : Int32)), .val (.int c4)] [(.long q2), (.long x4)])) _
    refine XS.lcmp X0.here hx rfl (hb hby own_d4_78) rfl ?_
    exact k
  obtain ⟨c5, hv_c5⟩ : ∃ z : Int32, z = (if x4 < q2 then (c4 + (1 : Int32)) else c4) := ⟨_, rfl⟩
  have g21 : ∀ t, Steps p.tables e below (s₁.setTop (mkF m 85 #[.val (.ref a1), .val (.long q2), .second, .val (.int (8 : Int32)), .val (.int c5)] [])) t → Steps p.tables e below (s₁.setTop (entryFrame m #[(.ref a1), (.long q2)] 5)) t := by
    intro t k
    by_cases hc20 : x4 < q2
    · rw [if_pos hc20] at hv_c5; rw [hv_c5] at k
      refine g19 t ?_
      show Steps p.tables e below (s₁.setTop (mkF m 79 #[.val (.ref a1), .val (.long q2), .second, .val (.int (8 : Int32)), .val (.int c4)] [(.int (lcmpW x4 q2))])) _
      refine XS.ifNo X0.here hx rfl (hb hby own_d4_79) rfl ((if0 _ _).trans (tlt ((lw_lt _ _).mpr hc20)).2.1) ?_
      show Steps p.tables e below (s₁.setTop (mkF m 82 #[.val (.ref a1), .val (.long q2), .second, .val (.int (8 : Int32)), .val (.int c4)] [])) _
      refine XS.iinc X0.here hx rfl (hb hby own_d4_82) rfl (l' := #[.val (.ref a1), .val (.long q2), .second, .val (.int (8 : Int32)), .val (.int (c4 + (1 : Int32)))]) rfl ?_
      exact k
    · rw [if_neg hc20] at hv_c5; rw [hv_c5] at k
      refine g19 t ?_
      show Steps p.tables e below (s₁.setTop (mkF m 79 #[.val (.ref a1), .val (.long q2), .second, .val (.int (8 : Int32)), .val (.int c4)] [(.int (lcmpW x4 q2))])) _
      refine XS.ifYes X0.here hx rfl (pc0 := 79) (pc' := 85) rfl (hb hby own_d4_79) rfl ((if0 _ _).trans (flt (fun q => hc20 ((lw_lt _ _).mp q))).2.1) (by decide) (by decide) ?_
      exact k
  obtain ⟨c22, Ar22, cq22, S22, Nn22, Hh22, Gg22⟩ := id Va
  have hin22 : ¬ ((5 : Int32) < 0 ∨ c22.slots.size ≤ ((5 : Int32)).toNatClampNeg) := inb_of S22 ⟨by decide, by decide⟩
  have hat22 : c22.slots[((5 : Int32)).toNatClampNeg]? = some (.long x5) := Has.at Hh22 hin22 rfl
  have g23 : ∀ t, Steps p.tables e below (s₁.setTop (mkF m 95 #[.val (.ref a1), .val (.long q2), .second, .val (.int (8 : Int32)), .val (.int c5)] [(.int (lcmpW x5 q2))])) t → Steps p.tables e below (s₁.setTop (entryFrame m #[(.ref a1), (.long q2)] 5)) t := by
    intro t k
    refine g21 t ?_
    show Steps p.tables e below (s₁.setTop (mkF m 85 #[.val (.ref a1), .val (.long q2), .second, .val (.int (8 : Int32)), .val (.int c5)] [])) _
    refine XS.iloadN X0.here hx rfl (hb hby own_d4_85) rfl ?_
    show Steps p.tables e below (s₁.setTop (mkF m 86 #[.val (.ref a1), .val (.long q2), .second, .val (.int (8 : Int32)), .val (.int c5)] [(.int (8 : Int32))])) _
    refine XS.iconst X0.here hx rfl (hb hby own_d4_86) ?_
    show Steps p.tables e below (s₁.setTop (mkF m 87 #[.val (.ref a1), .val (.long q2), .second, .val (.int (8 : Int32)), .val (.int c5)] [(.int (5 : Int32)), (.int (8 : Int32))])) _
    refine XS.icmpNo X0.here hx rfl (hb hby own_d4_87) rfl (tlt (by decide : (5 : Int32) < (8 : Int32))).2.2.2 ?_
    show Steps p.tables e below (s₁.setTop (mkF m 90 #[.val (.ref a1), .val (.long q2), .second, .val (.int (8 : Int32)), .val (.int c5)] [])) _
    refine XS.aloadN X0.here hx rfl (hb hby own_d4_90) rfl rfl ?_
    show Steps p.tables e below (s₁.setTop (mkF m 91 #[.val (.ref a1), .val (.long q2), .second, .val (.int (8 : Int32)), .val (.int c5)] [(.ref a1)])) _
    refine XS.iconst X0.here hx rfl (hb hby own_d4_91) ?_
    show Steps p.tables e below (s₁.setTop (mkF m 92 #[.val (.ref a1), .val (.long q2), .second, .val (.int (8 : Int32)), .val (.int c5)] [(.int (5 : Int32)), (.ref a1)])) _
    refine X0.laload hx (j := (5 : Int32)) (v := (.long x5)) (by rw [e0]; exact Ar22.1) (State.isArrayOf_alike hZ.alike Ar22.2.1) Ar22.2.2 hin22 hat22 (g := (mkF m 92 #[.val (.ref a1), .val (.long q2), .second, .val (.int (8 : Int32)), .val (.int c5)] [(.int (5 : Int32)), (.ref a1)])) rfl rfl (hb hby own_d4_92) _ ?_
    show Steps p.tables e below (s₁.setTop (mkF m 93 #[.val (.ref a1), .val (.long q2), .second, .val (.int (8 : Int32)), .val (.int c5)] [(.long x5)])) _
    refine XS.lloadN X0.here hx rfl (hb hby own_d4_93) rfl ?_
    show Steps p.tables e below (s₁.setTop (mkF m 94 #[.val (.ref a1), .val (.long q2), .second, .val (.int (8 : Int32)), .val (.int c5)] [(.long q2), (.long x5)])) _
    refine XS.lcmp X0.here hx rfl (hb hby own_d4_94) rfl ?_
    exact k
  obtain ⟨c6, hv_c6⟩ : ∃ z : Int32, z = (if x5 < q2 then (c5 + (1 : Int32)) else c5) := ⟨_, rfl⟩
  have g25 : ∀ t, Steps p.tables e below (s₁.setTop (mkF m 101 #[.val (.ref a1), .val (.long q2), .second, .val (.int (8 : Int32)), .val (.int c6)] [])) t → Steps p.tables e below (s₁.setTop (entryFrame m #[(.ref a1), (.long q2)] 5)) t := by
    intro t k
    by_cases hc24 : x5 < q2
    · rw [if_pos hc24] at hv_c6; rw [hv_c6] at k
      refine g23 t ?_
      show Steps p.tables e below (s₁.setTop (mkF m 95 #[.val (.ref a1), .val (.long q2), .second, .val (.int (8 : Int32)), .val (.int c5)] [(.int (lcmpW x5 q2))])) _
      refine XS.ifNo X0.here hx rfl (hb hby own_d4_95) rfl ((if0 _ _).trans (tlt ((lw_lt _ _).mpr hc24)).2.1) ?_
      show Steps p.tables e below (s₁.setTop (mkF m 98 #[.val (.ref a1), .val (.long q2), .second, .val (.int (8 : Int32)), .val (.int c5)] [])) _
      refine XS.iinc X0.here hx rfl (hb hby own_d4_98) rfl (l' := #[.val (.ref a1), .val (.long q2), .second, .val (.int (8 : Int32)), .val (.int (c5 + (1 : Int32)))]) rfl ?_
      exact k
    · rw [if_neg hc24] at hv_c6; rw [hv_c6] at k
      refine g23 t ?_
      show Steps p.tables e below (s₁.setTop (mkF m 95 #[.val (.ref a1), .val (.long q2), .second, .val (.int (8 : Int32)), .val (.int c5)] [(.int (lcmpW x5 q2))])) _
      refine XS.ifYes X0.here hx rfl (pc0 := 95) (pc' := 101) rfl (hb hby own_d4_95) rfl ((if0 _ _).trans (flt (fun q => hc24 ((lw_lt _ _).mp q))).2.1) (by decide) (by decide) ?_
      exact k
  obtain ⟨c26, Ar26, cq26, S26, Nn26, Hh26, Gg26⟩ := id Va
  have hin26 : ¬ ((6 : Int32) < 0 ∨ c26.slots.size ≤ ((6 : Int32)).toNatClampNeg) := inb_of S26 ⟨by decide, by decide⟩
  have hat26 : c26.slots[((6 : Int32)).toNatClampNeg]? = some (.long x6) := Has.at Hh26 hin26 rfl
  have g27 : ∀ t, Steps p.tables e below (s₁.setTop (mkF m 113 #[.val (.ref a1), .val (.long q2), .second, .val (.int (8 : Int32)), .val (.int c6)] [(.int (lcmpW x6 q2))])) t → Steps p.tables e below (s₁.setTop (entryFrame m #[(.ref a1), (.long q2)] 5)) t := by
    intro t k
    refine g25 t ?_
    show Steps p.tables e below (s₁.setTop (mkF m 101 #[.val (.ref a1), .val (.long q2), .second, .val (.int (8 : Int32)), .val (.int c6)] [])) _
    refine XS.iloadN X0.here hx rfl (hb hby own_d4_101) rfl ?_
    show Steps p.tables e below (s₁.setTop (mkF m 102 #[.val (.ref a1), .val (.long q2), .second, .val (.int (8 : Int32)), .val (.int c6)] [(.int (8 : Int32))])) _
    refine XS.bipush X0.here hx rfl (hb hby own_d4_102) ?_
    show Steps p.tables e below (s₁.setTop (mkF m 104 #[.val (.ref a1), .val (.long q2), .second, .val (.int (8 : Int32)), .val (.int c6)] [(.int (6 : Int32)), (.int (8 : Int32))])) _
    refine XS.icmpNo X0.here hx rfl (hb hby own_d4_104) rfl (tlt (by decide : (6 : Int32) < (8 : Int32))).2.2.2 ?_
    show Steps p.tables e below (s₁.setTop (mkF m 107 #[.val (.ref a1), .val (.long q2), .second, .val (.int (8 : Int32)), .val (.int c6)] [])) _
    refine XS.aloadN X0.here hx rfl (hb hby own_d4_107) rfl rfl ?_
    show Steps p.tables e below (s₁.setTop (mkF m 108 #[.val (.ref a1), .val (.long q2), .second, .val (.int (8 : Int32)), .val (.int c6)] [(.ref a1)])) _
    refine XS.bipush X0.here hx rfl (hb hby own_d4_108) ?_
    show Steps p.tables e below (s₁.setTop (mkF m 110 #[.val (.ref a1), .val (.long q2), .second, .val (.int (8 : Int32)), .val (.int c6)] [(.int (6 : Int32)), (.ref a1)])) _
    refine X0.laload hx (j := (6 : Int32)) (v := (.long x6)) (by rw [e0]; exact Ar26.1) (State.isArrayOf_alike hZ.alike Ar26.2.1) Ar26.2.2 hin26 hat26 (g := (mkF m 110 #[.val (.ref a1), .val (.long q2), .second, .val (.int (8 : Int32)), .val (.int c6)] [(.int (6 : Int32)), (.ref a1)])) rfl rfl (hb hby own_d4_110) _ ?_
    show Steps p.tables e below (s₁.setTop (mkF m 111 #[.val (.ref a1), .val (.long q2), .second, .val (.int (8 : Int32)), .val (.int c6)] [(.long x6)])) _
    refine XS.lloadN X0.here hx rfl (hb hby own_d4_111) rfl ?_
    show Steps p.tables e below (s₁.setTop (mkF m 112 #[.val (.ref a1), .val (.long q2), .second, .val (.int (8 : Int32)), .val (.int c6)] [(.long q2), (.long x6)])) _
    refine XS.lcmp X0.here hx rfl (hb hby own_d4_112) rfl ?_
    exact k
  obtain ⟨c7, hv_c7⟩ : ∃ z : Int32, z = (if x6 < q2 then (c6 + (1 : Int32)) else c6) := ⟨_, rfl⟩
  have g29 : ∀ t, Steps p.tables e below (s₁.setTop (mkF m 119 #[.val (.ref a1), .val (.long q2), .second, .val (.int (8 : Int32)), .val (.int c7)] [])) t → Steps p.tables e below (s₁.setTop (entryFrame m #[(.ref a1), (.long q2)] 5)) t := by
    intro t k
    by_cases hc28 : x6 < q2
    · rw [if_pos hc28] at hv_c7; rw [hv_c7] at k
      refine g27 t ?_
      show Steps p.tables e below (s₁.setTop (mkF m 113 #[.val (.ref a1), .val (.long q2), .second, .val (.int (8 : Int32)), .val (.int c6)] [(.int (lcmpW x6 q2))])) _
      refine XS.ifNo X0.here hx rfl (hb hby own_d4_113) rfl ((if0 _ _).trans (tlt ((lw_lt _ _).mpr hc28)).2.1) ?_
      show Steps p.tables e below (s₁.setTop (mkF m 116 #[.val (.ref a1), .val (.long q2), .second, .val (.int (8 : Int32)), .val (.int c6)] [])) _
      refine XS.iinc X0.here hx rfl (hb hby own_d4_116) rfl (l' := #[.val (.ref a1), .val (.long q2), .second, .val (.int (8 : Int32)), .val (.int (c6 + (1 : Int32)))]) rfl ?_
      exact k
    · rw [if_neg hc28] at hv_c7; rw [hv_c7] at k
      refine g27 t ?_
      show Steps p.tables e below (s₁.setTop (mkF m 113 #[.val (.ref a1), .val (.long q2), .second, .val (.int (8 : Int32)), .val (.int c6)] [(.int (lcmpW x6 q2))])) _
      refine XS.ifYes X0.here hx rfl (pc0 := 113) (pc' := 119) rfl (hb hby own_d4_113) rfl ((if0 _ _).trans (flt (fun q => hc28 ((lw_lt _ _).mp q))).2.1) (by decide) (by decide) ?_
      exact k
  obtain ⟨c30, Ar30, cq30, S30, Nn30, Hh30, Gg30⟩ := id Va
  have hin30 : ¬ ((7 : Int32) < 0 ∨ c30.slots.size ≤ ((7 : Int32)).toNatClampNeg) := inb_of S30 ⟨by decide, by decide⟩
  have hat30 : c30.slots[((7 : Int32)).toNatClampNeg]? = some (.long x7) := Has.at Hh30 hin30 rfl
  have g31 : ∀ t, Steps p.tables e below (s₁.setTop (mkF m 131 #[.val (.ref a1), .val (.long q2), .second, .val (.int (8 : Int32)), .val (.int c7)] [(.int (lcmpW x7 q2))])) t → Steps p.tables e below (s₁.setTop (entryFrame m #[(.ref a1), (.long q2)] 5)) t := by
    intro t k
    refine g29 t ?_
    show Steps p.tables e below (s₁.setTop (mkF m 119 #[.val (.ref a1), .val (.long q2), .second, .val (.int (8 : Int32)), .val (.int c7)] [])) _
    refine XS.iloadN X0.here hx rfl (hb hby own_d4_119) rfl ?_
    show Steps p.tables e below (s₁.setTop (mkF m 120 #[.val (.ref a1), .val (.long q2), .second, .val (.int (8 : Int32)), .val (.int c7)] [(.int (8 : Int32))])) _
    refine XS.bipush X0.here hx rfl (hb hby own_d4_120) ?_
    show Steps p.tables e below (s₁.setTop (mkF m 122 #[.val (.ref a1), .val (.long q2), .second, .val (.int (8 : Int32)), .val (.int c7)] [(.int (7 : Int32)), (.int (8 : Int32))])) _
    refine XS.icmpNo X0.here hx rfl (hb hby own_d4_122) rfl (tlt (by decide : (7 : Int32) < (8 : Int32))).2.2.2 ?_
    show Steps p.tables e below (s₁.setTop (mkF m 125 #[.val (.ref a1), .val (.long q2), .second, .val (.int (8 : Int32)), .val (.int c7)] [])) _
    refine XS.aloadN X0.here hx rfl (hb hby own_d4_125) rfl rfl ?_
    show Steps p.tables e below (s₁.setTop (mkF m 126 #[.val (.ref a1), .val (.long q2), .second, .val (.int (8 : Int32)), .val (.int c7)] [(.ref a1)])) _
    refine XS.bipush X0.here hx rfl (hb hby own_d4_126) ?_
    show Steps p.tables e below (s₁.setTop (mkF m 128 #[.val (.ref a1), .val (.long q2), .second, .val (.int (8 : Int32)), .val (.int c7)] [(.int (7 : Int32)), (.ref a1)])) _
    refine X0.laload hx (j := (7 : Int32)) (v := (.long x7)) (by rw [e0]; exact Ar30.1) (State.isArrayOf_alike hZ.alike Ar30.2.1) Ar30.2.2 hin30 hat30 (g := (mkF m 128 #[.val (.ref a1), .val (.long q2), .second, .val (.int (8 : Int32)), .val (.int c7)] [(.int (7 : Int32)), (.ref a1)])) rfl rfl (hb hby own_d4_128) _ ?_
    show Steps p.tables e below (s₁.setTop (mkF m 129 #[.val (.ref a1), .val (.long q2), .second, .val (.int (8 : Int32)), .val (.int c7)] [(.long x7)])) _
    refine XS.lloadN X0.here hx rfl (hb hby own_d4_129) rfl ?_
    show Steps p.tables e below (s₁.setTop (mkF m 130 #[.val (.ref a1), .val (.long q2), .second, .val (.int (8 : Int32)), .val (.int c7)] [(.long q2), (.long x7)])) _
    refine XS.lcmp X0.here hx rfl (hb hby own_d4_130) rfl ?_
    exact k
  obtain ⟨c8, hv_c8⟩ : ∃ z : Int32, z = (if x7 < q2 then (c7 + (1 : Int32)) else c7) := ⟨_, rfl⟩
  have g33 : ∀ t, Steps p.tables e below (s₁.setTop (mkF m 137 #[.val (.ref a1), .val (.long q2), .second, .val (.int (8 : Int32)), .val (.int c8)] [])) t → Steps p.tables e below (s₁.setTop (entryFrame m #[(.ref a1), (.long q2)] 5)) t := by
    intro t k
    by_cases hc32 : x7 < q2
    · rw [if_pos hc32] at hv_c8; rw [hv_c8] at k
      refine g31 t ?_
      show Steps p.tables e below (s₁.setTop (mkF m 131 #[.val (.ref a1), .val (.long q2), .second, .val (.int (8 : Int32)), .val (.int c7)] [(.int (lcmpW x7 q2))])) _
      refine XS.ifNo X0.here hx rfl (hb hby own_d4_131) rfl ((if0 _ _).trans (tlt ((lw_lt _ _).mpr hc32)).2.1) ?_
      show Steps p.tables e below (s₁.setTop (mkF m 134 #[.val (.ref a1), .val (.long q2), .second, .val (.int (8 : Int32)), .val (.int c7)] [])) _
      refine XS.iinc X0.here hx rfl (hb hby own_d4_134) rfl (l' := #[.val (.ref a1), .val (.long q2), .second, .val (.int (8 : Int32)), .val (.int (c7 + (1 : Int32)))]) rfl ?_
      exact k
    · rw [if_neg hc32] at hv_c8; rw [hv_c8] at k
      refine g31 t ?_
      show Steps p.tables e below (s₁.setTop (mkF m 131 #[.val (.ref a1), .val (.long q2), .second, .val (.int (8 : Int32)), .val (.int c7)] [(.int (lcmpW x7 q2))])) _
      refine XS.ifYes X0.here hx rfl (pc0 := 131) (pc' := 137) rfl (hb hby own_d4_131) rfl ((if0 _ _).trans (flt (fun q => hc32 ((lw_lt _ _).mp q))).2.1) (by decide) (by decide) ?_
      exact k
  have g34 : ∀ t, Steps p.tables e below (s₁.setTop (mkF m 139 #[.val (.ref a1), .val (.long q2), .second, .val (.int (8 : Int32)), .val (.int c8)] [(.int c8)])) t → Steps p.tables e below (s₁.setTop (entryFrame m #[(.ref a1), (.long q2)] 5)) t := by
    intro t k
    refine g33 t ?_
    show Steps p.tables e below (s₁.setTop (mkF m 137 #[.val (.ref a1), .val (.long q2), .second, .val (.int (8 : Int32)), .val (.int c8)] [])) _
    refine XS.iload X0.here hx rfl (hb hby own_d4_137) rfl ?_
    exact k
  obtain ⟨fs, hrt, hrun, hended, hW, hsame⟩ := X0.leave (v := some (.int c8)) (fun h => by rw [Bd.returns] at h; cases h)
  refine ⟨_, _, g34 _ ?_, hrun, hended, _, _, rfl, ?_, ⟨_, rfl⟩, hW, hsame.mono (by decide) (by decide)⟩
  · show Steps p.tables e below (s₁.setTop (mkF m 139 #[.val (.ref a1), .val (.long q2), .second, .val (.int (8 : Int32)), .val (.int c8)] [(.int c8)])) _
    exact retI X0 hx Bd.returns (hb hby own_d4_139) hrt
  · show own_Q_rmcountLt8 Z a1 ka x0 x1 x2 x3 x4 x5 x6 x7 q2 r h0 n0 _ s₁.heap _
    rw [e0]
    exact ⟨by rw [← hr]; subst hv_c1; subst hv_c2; subst hv_c3; subst hv_c4; subst hv_c5; subst hv_c6; subst hv_c7; subst hv_c8; rfl, N0, rfl⟩
theorem own_ef26 (m : MethodId) (x0 : Int32) (x1 : Int32) (x2 : Int64) (x3 : Int32) : entryFrame m #[(.int x0), (.int x1), (.long x2), (.int x3)] maxLocals = mkF m 0 #[.val (.int x0), .val (.int x1), .val (.long x2), .second, .val (.int x3), .unset, .unset, .unset, .unset, .unset, .unset, .unset, .unset, .unset, .unset, .unset, .unset, .unset, .unset, .unset, .unset, .unset, .unset, .unset, .unset, .unset, .unset, .unset, .unset, .unset] [] := by first | (simp [entryFrame, mkF, argsToLocals, Value.category, maxLocals]; done) | rfl
theorem own_pd0 : parseMethodDescriptor "(JJ)J" = some ⟨[.long, .long], some .long⟩ := by decide +kernel
theorem own_pd1 : parseMethodDescriptor "([JI)J" = some ⟨[(.array .long), .int], some .long⟩ := by decide +kernel
theorem own_pd2 : parseMethodDescriptor "([JJ)I" = some ⟨[(.array .long), .long], some .int⟩ := by decide +kernel
def own_Q_rm0 (Z : State) (p1 p2 : Int32) (q3 : Int64) (p4 : Int32) (h0 : Heap) (n0 : Nat) (v : Option Value) (h : Heap) (L : List Loc) : Prop := v = some (.int (1 : Int32)) ∧ Fr n0 L
set_option maxRecDepth 65536 in
set_option maxHeartbeats 40000000 in
theorem rm0 (l : Launch) (Z : State) (a0 : Array Value) (hw : ∀ d ∈ tables_1, d.before a0 Z = true) (ws : List Jvm.Cond) (p1 p2 : Int32) (q3 : Int64) (p4 : Int32) (h0 : Heap) (n0 : Nat) (O0 : Old Z n0 h0) :
    MetFree l x (head1 (Jvm.Cond.code x code maxLocals ret :: ws) room_1) (fun a U => a = #[(.int p1), (.int p2), (.long q3), (.int p4)] ∧ Z.Warmed39 U.vm ∧ U.heap = h0) (fun _ _ _ _ _ => True) (fun _ U o U' => ∃ v L, o = .returned v ∧ own_Q_rm0 Z p1 p2 q3 p4 h0 n0 v U'.heap L ∧ FrameEnd U o U' L room_1.cells room_1.slots) := by
  refine MetFree.of_bodySF (plainFor_of_name own_pn1) hisR ?_
  intro p e s m args below meth c s₁ Bd hml0 hP hK
  obtain ⟨rfl, hZ, hh⟩ := hP
  have hx := Bd.exec
  have hby := Bd.bytes
  have hml : c.maxLocals = 30 := hml0
  have hown : s.vm.findClass "orderwire/bench/LatencyPercentilePinLaw" = some m.cls := findClass_of_methodNamed Bd.named
  have hnm := (name_of_methodNamed Bd.named Bd.method).1
  have X0 : Stand p l e room_1 s m #[(.int p1), (.int p2), (.long q3), (.int p4)] below meth c s₁ [] 0 0 := Stand.of_body Bd
  have e0 : s₁.heap = h0 := by rw [← hh, Bd.state]; rfl
  have N0 := Fr.nil n0
  have Z0 : n0 ≤ h0.size := O0.1 ▸ O0.2.1
  have g0 : ∀ t, Steps p.tables e below (s₁.setTop (mkF m 0 #[.val (.int p1), .val (.int p2), .val (.long q3), .second, .val (.int p4), .unset, .unset, .unset, .unset, .unset, .unset, .unset, .unset, .unset, .unset, .unset, .unset, .unset, .unset, .unset, .unset, .unset, .unset, .unset, .unset, .unset, .unset, .unset, .unset, .unset] [])) t → Steps p.tables e below (s₁.setTop (entryFrame m #[(.int p1), (.int p2), (.long q3), (.int p4)] maxLocals)) t := fun t k => castTop (own_ef26 m (p1) (p2) (q3) (p4)) k
  obtain ⟨nn, hv_nn⟩ : ∃ z : Int32, z = ((1 : Int32) + (p1 &&& (7 : Int32))) := ⟨_, rfl⟩
  have g1 : ∀ t, Steps p.tables e below (s₁.setTop (mkF m 6 #[.val (.int p1), .val (.int p2), .val (.long q3), .second, .val (.int p4), .unset, .unset, .unset, .unset, .unset, .unset, .unset, .unset, .unset, .unset, .unset, .unset, .unset, .unset, .unset, .unset, .unset, .unset, .unset, .unset, .unset, .unset, .unset, .unset, .unset] [(.int nn)])) t → Steps p.tables e below (s₁.setTop (entryFrame m #[(.int p1), (.int p2), (.long q3), (.int p4)] maxLocals)) t := by
    intro t k
    rw [hv_nn] at k
    refine g0 t ?_
    show Steps p.tables e below (s₁.setTop (mkF m 0 #[.val (.int p1), .val (.int p2), .val (.long q3), .second, .val (.int p4), .unset, .unset, .unset, .unset, .unset, .unset, .unset, .unset, .unset, .unset, .unset, .unset, .unset, .unset, .unset, .unset, .unset, .unset, .unset, .unset, .unset, .unset, .unset, .unset, .unset] [])) _
    refine XS.iconst X0.here hx rfl (hb hby at_0) ?_
    refine XS.iloadN X0.here hx rfl (hb hby at_1) rfl ?_
    refine XS.bipush X0.here hx rfl (hb hby at_2) ?_
    refine XS.iand X0.here hx rfl (hb hby at_4) rfl ?_
    show Steps p.tables e below (s₁.setTop (mkF m 5 #[.val (.int p1), .val (.int p2), .val (.long q3), .second, .val (.int p4), .unset, .unset, .unset, .unset, .unset, .unset, .unset, .unset, .unset, .unset, .unset, .unset, .unset, .unset, .unset, .unset, .unset, .unset, .unset, .unset, .unset, .unset, .unset, .unset, .unset] [(.int (p1 &&& (7 : Int32))), (.int (1 : Int32))])) _
    refine XS.iadd X0.here hx rfl (hb hby at_5) rfl ?_
    exact k
  obtain ⟨pp, hv_pp⟩ : ∃ z : Int32, z = ((1 : Int32) + ((p2 &&& (2147483647 : Int32)) % (100 : Int32))) := ⟨_, rfl⟩
  have g2 : ∀ t, Steps p.tables e below (s₁.setTop (mkF m 17 #[.val (.int p1), .val (.int p2), .val (.long q3), .second, .val (.int p4), .val (.int nn), .unset, .unset, .unset, .unset, .unset, .unset, .unset, .unset, .unset, .unset, .unset, .unset, .unset, .unset, .unset, .unset, .unset, .unset, .unset, .unset, .unset, .unset, .unset, .unset] [(.int pp)])) t → Steps p.tables e below (s₁.setTop (entryFrame m #[(.int p1), (.int p2), (.long q3), (.int p4)] maxLocals)) t := by
    intro t k
    rw [hv_pp] at k
    refine g1 t ?_
    show Steps p.tables e below (s₁.setTop (mkF m 6 #[.val (.int p1), .val (.int p2), .val (.long q3), .second, .val (.int p4), .unset, .unset, .unset, .unset, .unset, .unset, .unset, .unset, .unset, .unset, .unset, .unset, .unset, .unset, .unset, .unset, .unset, .unset, .unset, .unset, .unset, .unset, .unset, .unset, .unset] [(.int nn)])) _
    refine XS.istore X0.here hx rfl (hb hby at_6) rfl (l' := #[.val (.int p1), .val (.int p2), .val (.long q3), .second, .val (.int p4), .val (.int nn), .unset, .unset, .unset, .unset, .unset, .unset, .unset, .unset, .unset, .unset, .unset, .unset, .unset, .unset, .unset, .unset, .unset, .unset, .unset, .unset, .unset, .unset, .unset, .unset]) rfl ?_
    refine XS.iconst X0.here hx rfl (hb hby at_8) ?_
    refine XS.iloadN X0.here hx rfl (hb hby at_9) rfl ?_
    refine X0.ldcInt hx hown (mvT hZ (hw _ (List.mem_of_getElem? (i := 0) rfl))) (g := (mkF m 10 #[.val (.int p1), .val (.int p2), .val (.long q3), .second, .val (.int p4), .val (.int nn), .unset, .unset, .unset, .unset, .unset, .unset, .unset, .unset, .unset, .unset, .unset, .unset, .unset, .unset, .unset, .unset, .unset, .unset, .unset, .unset, .unset, .unset, .unset, .unset] [(.int p2), (.int (1 : Int32))])) rfl (hb hby at_10) _ ?_
    show Steps p.tables e below (s₁.setTop (mkF m 12 #[.val (.int p1), .val (.int p2), .val (.long q3), .second, .val (.int p4), .val (.int nn), .unset, .unset, .unset, .unset, .unset, .unset, .unset, .unset, .unset, .unset, .unset, .unset, .unset, .unset, .unset, .unset, .unset, .unset, .unset, .unset, .unset, .unset, .unset, .unset] [(.int (2147483647 : Int32)), (.int p2), (.int (1 : Int32))])) _
    refine XS.iand X0.here hx rfl (hb hby at_12) rfl ?_
    refine XS.bipush X0.here hx rfl (hb hby at_13) ?_
    refine XS.irem X0.here hx rfl (hb hby at_15) rfl (by decide) ?_
    rw [own_irem]
    refine XS.iadd X0.here hx rfl (hb hby at_16) rfl ?_
    exact k
  obtain ⟨bb, hbb⟩ : ∃ z : Int64, (if (9223372036854775786 : Int64) < q3 then (9223372036854775786 : Int64) else q3) = z := ⟨_, rfl⟩
  obtain ⟨_, _, ⟨T3, L3, k3, n3⟩, -, X3, ⟨Lc3, hQ3, l3, y3, z3⟩, st3⟩ := Jvm.LawKit.callS X0 hx (y := (⟨"java/lang/Math", "min", "(JJ)J"⟩ : MethodName)) hown (mvT hZ (hw _ (List.mem_of_getElem? (i := 2) rfl))) (mvT hZ (hw _ (List.mem_of_getElem? (i := 3) rfl))) (mvT hZ (hw _ (List.mem_of_getElem? (i := 4) rfl))) (mvT hZ (hw _ (List.mem_of_getElem? (i := 5) rfl))) (by decide) (backOf (W := 0) (rmMin l Z a0 hw [] q3 (9223372036854775786 : Int64) bb h0 n0 O0 hbb) hZ (hw _ (List.mem_of_getElem? (i := 5) rfl)) (hw _ (List.mem_of_getElem? (i := 4) rfl)) (by decide) (by decide)) (g := (mkF m 23 #[.val (.int p1), .val (.int p2), .val (.long q3), .second, .val (.int p4), .val (.int nn), .val (.int pp), .unset, .unset, .unset, .unset, .unset, .unset, .unset, .unset, .unset, .unset, .unset, .unset, .unset, .unset, .unset, .unset, .unset, .unset, .unset, .unset, .unset, .unset, .unset] [(.long (9223372036854775786 : Int64)), (.long q3)])) rfl (by rw [hml]; rfl) (argsL := [(.long q3), (.long (9223372036854775786 : Int64))]) (rest := []) (lenOf own_pd0 rfl) rfl (by show 2 * 0 + _ ≤ _; exact Nat.le_of_eq rfl) (hb hby at_23) (fun _ _ => ⟨rfl, e0, (by decide : 0 + 0 ≤ _), (by decide : 0 + 0 ≤ _)⟩)
  dsimp only [Pt.U, Pt.locs, Pt.cells, Pt.slots] at X3 l3 y3 z3 st3 hQ3
  subst l3 y3 z3
  obtain ⟨rfl, Nq3, e3⟩ := hQ3
  have N3 := Fr.app N0 Nq3
  obtain ⟨o1, hv_o1⟩ : ∃ z : Int64, z = ((((p4.toUInt32 >>> ((2 : Int32) &&& 31).toUInt32).toInt32) &&& (3 : Int32)).toInt64) := ⟨_, rfl⟩
  have g4 : ∀ t, Steps p.tables e below (T3.setTop (mkF m 35 #[.val (.int p1), .val (.int p2), .val (.long q3), .second, .val (.int p4), .val (.int nn), .val (.int pp), .val (.long bb), .second, .unset, .unset, .unset, .unset, .unset, .unset, .unset, .unset, .unset, .unset, .unset, .unset, .unset, .unset, .unset, .unset, .unset, .unset, .unset, .unset, .unset] [(.long o1)])) t → Steps p.tables e below (s₁.setTop (entryFrame m #[(.int p1), (.int p2), (.long q3), (.int p4)] maxLocals)) t := by
    intro t k
    rw [hv_o1] at k
    refine g2 t ?_
    show Steps p.tables e below (s₁.setTop (mkF m 17 #[.val (.int p1), .val (.int p2), .val (.long q3), .second, .val (.int p4), .val (.int nn), .unset, .unset, .unset, .unset, .unset, .unset, .unset, .unset, .unset, .unset, .unset, .unset, .unset, .unset, .unset, .unset, .unset, .unset, .unset, .unset, .unset, .unset, .unset, .unset] [(.int pp)])) _
    refine XS.istore X0.here hx rfl (hb hby at_17) rfl (l' := #[.val (.int p1), .val (.int p2), .val (.long q3), .second, .val (.int p4), .val (.int nn), .val (.int pp), .unset, .unset, .unset, .unset, .unset, .unset, .unset, .unset, .unset, .unset, .unset, .unset, .unset, .unset, .unset, .unset, .unset, .unset, .unset, .unset, .unset, .unset, .unset]) rfl ?_
    refine XS.lloadN X0.here hx rfl (hb hby at_19) rfl ?_
    refine X0.ldc2Long hx hown (mvT hZ (hw _ (List.mem_of_getElem? (i := 1) rfl))) (g := (mkF m 20 #[.val (.int p1), .val (.int p2), .val (.long q3), .second, .val (.int p4), .val (.int nn), .val (.int pp), .unset, .unset, .unset, .unset, .unset, .unset, .unset, .unset, .unset, .unset, .unset, .unset, .unset, .unset, .unset, .unset, .unset, .unset, .unset, .unset, .unset, .unset, .unset] [(.long q3)])) rfl (hb hby at_20) _ ?_
    refine st3 _ ?_
    show Steps p.tables e below (T3.setTop (mkF m 26 #[.val (.int p1), .val (.int p2), .val (.long q3), .second, .val (.int p4), .val (.int nn), .val (.int pp), .unset, .unset, .unset, .unset, .unset, .unset, .unset, .unset, .unset, .unset, .unset, .unset, .unset, .unset, .unset, .unset, .unset, .unset, .unset, .unset, .unset, .unset, .unset] [(.long bb)])) _
    refine XS.lstore X3.here hx rfl (hb hby at_26) rfl (l' := #[.val (.int p1), .val (.int p2), .val (.long q3), .second, .val (.int p4), .val (.int nn), .val (.int pp), .val (.long bb), .second, .unset, .unset, .unset, .unset, .unset, .unset, .unset, .unset, .unset, .unset, .unset, .unset, .unset, .unset, .unset, .unset, .unset, .unset, .unset, .unset, .unset]) rfl ?_
    refine XS.iload X3.here hx rfl (hb hby at_28) rfl ?_
    refine XS.iconst X3.here hx rfl (hb hby at_30) ?_
    refine XS.iushr X3.here hx rfl (hb hby at_31) rfl ?_
    show Steps p.tables e below (T3.setTop (mkF m 32 #[.val (.int p1), .val (.int p2), .val (.long q3), .second, .val (.int p4), .val (.int nn), .val (.int pp), .val (.long bb), .second, .unset, .unset, .unset, .unset, .unset, .unset, .unset, .unset, .unset, .unset, .unset, .unset, .unset, .unset, .unset, .unset, .unset, .unset, .unset, .unset, .unset] [(.int ((p4.toUInt32 >>> ((2 : Int32) &&& 31).toUInt32).toInt32))])) _
    refine XS.iconst X3.here hx rfl (hb hby at_32) ?_
    refine XS.iand X3.here hx rfl (hb hby at_33) rfl ?_
    refine XS.i2l X3.here hx rfl (hb hby at_34) rfl ?_
    exact k
  obtain ⟨o2, hv_o2⟩ : ∃ z : Int64, z = (o1 + ((((p4.toUInt32 >>> ((4 : Int32) &&& 31).toUInt32).toInt32) &&& (3 : Int32)).toInt64)) := ⟨_, rfl⟩
  have g5 : ∀ t, Steps p.tables e below (T3.setTop (mkF m 47 #[.val (.int p1), .val (.int p2), .val (.long q3), .second, .val (.int p4), .val (.int nn), .val (.int pp), .val (.long bb), .second, .val (.long o1), .second, .unset, .unset, .unset, .unset, .unset, .unset, .unset, .unset, .unset, .unset, .unset, .unset, .unset, .unset, .unset, .unset, .unset, .unset, .unset] [(.long o2)])) t → Steps p.tables e below (s₁.setTop (entryFrame m #[(.int p1), (.int p2), (.long q3), (.int p4)] maxLocals)) t := by
    intro t k
    rw [hv_o2] at k
    refine g4 t ?_
    show Steps p.tables e below (T3.setTop (mkF m 35 #[.val (.int p1), .val (.int p2), .val (.long q3), .second, .val (.int p4), .val (.int nn), .val (.int pp), .val (.long bb), .second, .unset, .unset, .unset, .unset, .unset, .unset, .unset, .unset, .unset, .unset, .unset, .unset, .unset, .unset, .unset, .unset, .unset, .unset, .unset, .unset, .unset] [(.long o1)])) _
    refine XS.lstore X3.here hx rfl (hb hby at_35) rfl (l' := #[.val (.int p1), .val (.int p2), .val (.long q3), .second, .val (.int p4), .val (.int nn), .val (.int pp), .val (.long bb), .second, .val (.long o1), .second, .unset, .unset, .unset, .unset, .unset, .unset, .unset, .unset, .unset, .unset, .unset, .unset, .unset, .unset, .unset, .unset, .unset, .unset, .unset]) rfl ?_
    refine XS.lload X3.here hx rfl (hb hby at_37) rfl ?_
    refine XS.iload X3.here hx rfl (hb hby at_39) rfl ?_
    refine XS.iconst X3.here hx rfl (hb hby at_41) ?_
    show Steps p.tables e below (T3.setTop (mkF m 42 #[.val (.int p1), .val (.int p2), .val (.long q3), .second, .val (.int p4), .val (.int nn), .val (.int pp), .val (.long bb), .second, .val (.long o1), .second, .unset, .unset, .unset, .unset, .unset, .unset, .unset, .unset, .unset, .unset, .unset, .unset, .unset, .unset, .unset, .unset, .unset, .unset, .unset] [(.int (4 : Int32)), (.int p4), (.long o1)])) _
    refine XS.iushr X3.here hx rfl (hb hby at_42) rfl ?_
    refine XS.iconst X3.here hx rfl (hb hby at_43) ?_
    refine XS.iand X3.here hx rfl (hb hby at_44) rfl ?_
    refine XS.i2l X3.here hx rfl (hb hby at_45) rfl ?_
    show Steps p.tables e below (T3.setTop (mkF m 46 #[.val (.int p1), .val (.int p2), .val (.long q3), .second, .val (.int p4), .val (.int nn), .val (.int pp), .val (.long bb), .second, .val (.long o1), .second, .unset, .unset, .unset, .unset, .unset, .unset, .unset, .unset, .unset, .unset, .unset, .unset, .unset, .unset, .unset, .unset, .unset, .unset, .unset] [(.long ((((p4.toUInt32 >>> ((4 : Int32) &&& 31).toUInt32).toInt32) &&& (3 : Int32)).toInt64)), (.long o1)])) _
    refine XS.ladd X3.here hx rfl (hb hby at_46) rfl ?_
    exact k
  obtain ⟨o3, hv_o3⟩ : ∃ z : Int64, z = (o2 + ((((p4.toUInt32 >>> ((6 : Int32) &&& 31).toUInt32).toInt32) &&& (3 : Int32)).toInt64)) := ⟨_, rfl⟩
  have g6 : ∀ t, Steps p.tables e below (T3.setTop (mkF m 60 #[.val (.int p1), .val (.int p2), .val (.long q3), .second, .val (.int p4), .val (.int nn), .val (.int pp), .val (.long bb), .second, .val (.long o1), .second, .val (.long o2), .second, .unset, .unset, .unset, .unset, .unset, .unset, .unset, .unset, .unset, .unset, .unset, .unset, .unset, .unset, .unset, .unset, .unset] [(.long o3)])) t → Steps p.tables e below (s₁.setTop (entryFrame m #[(.int p1), (.int p2), (.long q3), (.int p4)] maxLocals)) t := by
    intro t k
    rw [hv_o3] at k
    refine g5 t ?_
    show Steps p.tables e below (T3.setTop (mkF m 47 #[.val (.int p1), .val (.int p2), .val (.long q3), .second, .val (.int p4), .val (.int nn), .val (.int pp), .val (.long bb), .second, .val (.long o1), .second, .unset, .unset, .unset, .unset, .unset, .unset, .unset, .unset, .unset, .unset, .unset, .unset, .unset, .unset, .unset, .unset, .unset, .unset, .unset] [(.long o2)])) _
    refine XS.lstore X3.here hx rfl (hb hby at_47) rfl (l' := #[.val (.int p1), .val (.int p2), .val (.long q3), .second, .val (.int p4), .val (.int nn), .val (.int pp), .val (.long bb), .second, .val (.long o1), .second, .val (.long o2), .second, .unset, .unset, .unset, .unset, .unset, .unset, .unset, .unset, .unset, .unset, .unset, .unset, .unset, .unset, .unset, .unset, .unset]) rfl ?_
    refine XS.lload X3.here hx rfl (hb hby at_49) rfl ?_
    refine XS.iload X3.here hx rfl (hb hby at_51) rfl ?_
    refine XS.bipush X3.here hx rfl (hb hby at_53) ?_
    show Steps p.tables e below (T3.setTop (mkF m 55 #[.val (.int p1), .val (.int p2), .val (.long q3), .second, .val (.int p4), .val (.int nn), .val (.int pp), .val (.long bb), .second, .val (.long o1), .second, .val (.long o2), .second, .unset, .unset, .unset, .unset, .unset, .unset, .unset, .unset, .unset, .unset, .unset, .unset, .unset, .unset, .unset, .unset, .unset] [(.int (6 : Int32)), (.int p4), (.long o2)])) _
    refine XS.iushr X3.here hx rfl (hb hby at_55) rfl ?_
    refine XS.iconst X3.here hx rfl (hb hby at_56) ?_
    refine XS.iand X3.here hx rfl (hb hby at_57) rfl ?_
    refine XS.i2l X3.here hx rfl (hb hby at_58) rfl ?_
    show Steps p.tables e below (T3.setTop (mkF m 59 #[.val (.int p1), .val (.int p2), .val (.long q3), .second, .val (.int p4), .val (.int nn), .val (.int pp), .val (.long bb), .second, .val (.long o1), .second, .val (.long o2), .second, .unset, .unset, .unset, .unset, .unset, .unset, .unset, .unset, .unset, .unset, .unset, .unset, .unset, .unset, .unset, .unset, .unset] [(.long ((((p4.toUInt32 >>> ((6 : Int32) &&& 31).toUInt32).toInt32) &&& (3 : Int32)).toInt64)), (.long o2)])) _
    refine XS.ladd X3.here hx rfl (hb hby at_59) rfl ?_
    exact k
  obtain ⟨o4, hv_o4⟩ : ∃ z : Int64, z = (o3 + ((((p4.toUInt32 >>> ((8 : Int32) &&& 31).toUInt32).toInt32) &&& (3 : Int32)).toInt64)) := ⟨_, rfl⟩
  have g7 : ∀ t, Steps p.tables e below (T3.setTop (mkF m 73 #[.val (.int p1), .val (.int p2), .val (.long q3), .second, .val (.int p4), .val (.int nn), .val (.int pp), .val (.long bb), .second, .val (.long o1), .second, .val (.long o2), .second, .val (.long o3), .second, .unset, .unset, .unset, .unset, .unset, .unset, .unset, .unset, .unset, .unset, .unset, .unset, .unset, .unset, .unset] [(.long o4)])) t → Steps p.tables e below (s₁.setTop (entryFrame m #[(.int p1), (.int p2), (.long q3), (.int p4)] maxLocals)) t := by
    intro t k
    rw [hv_o4] at k
    refine g6 t ?_
    show Steps p.tables e below (T3.setTop (mkF m 60 #[.val (.int p1), .val (.int p2), .val (.long q3), .second, .val (.int p4), .val (.int nn), .val (.int pp), .val (.long bb), .second, .val (.long o1), .second, .val (.long o2), .second, .unset, .unset, .unset, .unset, .unset, .unset, .unset, .unset, .unset, .unset, .unset, .unset, .unset, .unset, .unset, .unset, .unset] [(.long o3)])) _
    refine XS.lstore X3.here hx rfl (hb hby at_60) rfl (l' := #[.val (.int p1), .val (.int p2), .val (.long q3), .second, .val (.int p4), .val (.int nn), .val (.int pp), .val (.long bb), .second, .val (.long o1), .second, .val (.long o2), .second, .val (.long o3), .second, .unset, .unset, .unset, .unset, .unset, .unset, .unset, .unset, .unset, .unset, .unset, .unset, .unset, .unset, .unset]) rfl ?_
    refine XS.lload X3.here hx rfl (hb hby at_62) rfl ?_
    refine XS.iload X3.here hx rfl (hb hby at_64) rfl ?_
    refine XS.bipush X3.here hx rfl (hb hby at_66) ?_
    show Steps p.tables e below (T3.setTop (mkF m 68 #[.val (.int p1), .val (.int p2), .val (.long q3), .second, .val (.int p4), .val (.int nn), .val (.int pp), .val (.long bb), .second, .val (.long o1), .second, .val (.long o2), .second, .val (.long o3), .second, .unset, .unset, .unset, .unset, .unset, .unset, .unset, .unset, .unset, .unset, .unset, .unset, .unset, .unset, .unset] [(.int (8 : Int32)), (.int p4), (.long o3)])) _
    refine XS.iushr X3.here hx rfl (hb hby at_68) rfl ?_
    refine XS.iconst X3.here hx rfl (hb hby at_69) ?_
    refine XS.iand X3.here hx rfl (hb hby at_70) rfl ?_
    refine XS.i2l X3.here hx rfl (hb hby at_71) rfl ?_
    show Steps p.tables e below (T3.setTop (mkF m 72 #[.val (.int p1), .val (.int p2), .val (.long q3), .second, .val (.int p4), .val (.int nn), .val (.int pp), .val (.long bb), .second, .val (.long o1), .second, .val (.long o2), .second, .val (.long o3), .second, .unset, .unset, .unset, .unset, .unset, .unset, .unset, .unset, .unset, .unset, .unset, .unset, .unset, .unset, .unset] [(.long ((((p4.toUInt32 >>> ((8 : Int32) &&& 31).toUInt32).toInt32) &&& (3 : Int32)).toInt64)), (.long o3)])) _
    refine XS.ladd X3.here hx rfl (hb hby at_72) rfl ?_
    exact k
  obtain ⟨o5, hv_o5⟩ : ∃ z : Int64, z = (o4 + ((((p4.toUInt32 >>> ((10 : Int32) &&& 31).toUInt32).toInt32) &&& (3 : Int32)).toInt64)) := ⟨_, rfl⟩
  have g8 : ∀ t, Steps p.tables e below (T3.setTop (mkF m 86 #[.val (.int p1), .val (.int p2), .val (.long q3), .second, .val (.int p4), .val (.int nn), .val (.int pp), .val (.long bb), .second, .val (.long o1), .second, .val (.long o2), .second, .val (.long o3), .second, .val (.long o4), .second, .unset, .unset, .unset, .unset, .unset, .unset, .unset, .unset, .unset, .unset, .unset, .unset, .unset] [(.long o5)])) t → Steps p.tables e below (s₁.setTop (entryFrame m #[(.int p1), (.int p2), (.long q3), (.int p4)] maxLocals)) t := by
    intro t k
    rw [hv_o5] at k
    refine g7 t ?_
    show Steps p.tables e below (T3.setTop (mkF m 73 #[.val (.int p1), .val (.int p2), .val (.long q3), .second, .val (.int p4), .val (.int nn), .val (.int pp), .val (.long bb), .second, .val (.long o1), .second, .val (.long o2), .second, .val (.long o3), .second, .unset, .unset, .unset, .unset, .unset, .unset, .unset, .unset, .unset, .unset, .unset, .unset, .unset, .unset, .unset] [(.long o4)])) _
    refine XS.lstore X3.here hx rfl (hb hby at_73) rfl (l' := #[.val (.int p1), .val (.int p2), .val (.long q3), .second, .val (.int p4), .val (.int nn), .val (.int pp), .val (.long bb), .second, .val (.long o1), .second, .val (.long o2), .second, .val (.long o3), .second, .val (.long o4), .second, .unset, .unset, .unset, .unset, .unset, .unset, .unset, .unset, .unset, .unset, .unset, .unset, .unset]) rfl ?_
    refine XS.lload X3.here hx rfl (hb hby at_75) rfl ?_
    refine XS.iload X3.here hx rfl (hb hby at_77) rfl ?_
    refine XS.bipush X3.here hx rfl (hb hby at_79) ?_
    show Steps p.tables e below (T3.setTop (mkF m 81 #[.val (.int p1), .val (.int p2), .val (.long q3), .second, .val (.int p4), .val (.int nn), .val (.int pp), .val (.long bb), .second, .val (.long o1), .second, .val (.long o2), .second, .val (.long o3), .second, .val (.long o4), .second, .unset, .unset, .unset, .unset, .unset, .unset, .unset, .unset, .unset, .unset, .unset, .unset, .unset] [(.int (10 : Int32)), (.int p4), (.long o4)])) _
    refine XS.iushr X3.here hx rfl (hb hby at_81) rfl ?_
    refine XS.iconst X3.here hx rfl (hb hby at_82) ?_
    refine XS.iand X3.here hx rfl (hb hby at_83) rfl ?_
    refine XS.i2l X3.here hx rfl (hb hby at_84) rfl ?_
    show Steps p.tables e below (T3.setTop (mkF m 85 #[.val (.int p1), .val (.int p2), .val (.long q3), .second, .val (.int p4), .val (.int nn), .val (.int pp), .val (.long bb), .second, .val (.long o1), .second, .val (.long o2), .second, .val (.long o3), .second, .val (.long o4), .second, .unset, .unset, .unset, .unset, .unset, .unset, .unset, .unset, .unset, .unset, .unset, .unset, .unset] [(.long ((((p4.toUInt32 >>> ((10 : Int32) &&& 31).toUInt32).toInt32) &&& (3 : Int32)).toInt64)), (.long o4)])) _
    refine XS.ladd X3.here hx rfl (hb hby at_85) rfl ?_
    exact k
  obtain ⟨o6, hv_o6⟩ : ∃ z : Int64, z = (o5 + ((((p4.toUInt32 >>> ((12 : Int32) &&& 31).toUInt32).toInt32) &&& (3 : Int32)).toInt64)) := ⟨_, rfl⟩
  have g9 : ∀ t, Steps p.tables e below (T3.setTop (mkF m 99 #[.val (.int p1), .val (.int p2), .val (.long q3), .second, .val (.int p4), .val (.int nn), .val (.int pp), .val (.long bb), .second, .val (.long o1), .second, .val (.long o2), .second, .val (.long o3), .second, .val (.long o4), .second, .val (.long o5), .second, .unset, .unset, .unset, .unset, .unset, .unset, .unset, .unset, .unset, .unset, .unset] [(.long o6)])) t → Steps p.tables e below (s₁.setTop (entryFrame m #[(.int p1), (.int p2), (.long q3), (.int p4)] maxLocals)) t := by
    intro t k
    rw [hv_o6] at k
    refine g8 t ?_
    show Steps p.tables e below (T3.setTop (mkF m 86 #[.val (.int p1), .val (.int p2), .val (.long q3), .second, .val (.int p4), .val (.int nn), .val (.int pp), .val (.long bb), .second, .val (.long o1), .second, .val (.long o2), .second, .val (.long o3), .second, .val (.long o4), .second, .unset, .unset, .unset, .unset, .unset, .unset, .unset, .unset, .unset, .unset, .unset, .unset, .unset] [(.long o5)])) _
    refine XS.lstore X3.here hx rfl (hb hby at_86) rfl (l' := #[.val (.int p1), .val (.int p2), .val (.long q3), .second, .val (.int p4), .val (.int nn), .val (.int pp), .val (.long bb), .second, .val (.long o1), .second, .val (.long o2), .second, .val (.long o3), .second, .val (.long o4), .second, .val (.long o5), .second, .unset, .unset, .unset, .unset, .unset, .unset, .unset, .unset, .unset, .unset, .unset]) rfl ?_
    refine XS.lload X3.here hx rfl (hb hby at_88) rfl ?_
    refine XS.iload X3.here hx rfl (hb hby at_90) rfl ?_
    refine XS.bipush X3.here hx rfl (hb hby at_92) ?_
    show Steps p.tables e below (T3.setTop (mkF m 94 #[.val (.int p1), .val (.int p2), .val (.long q3), .second, .val (.int p4), .val (.int nn), .val (.int pp), .val (.long bb), .second, .val (.long o1), .second, .val (.long o2), .second, .val (.long o3), .second, .val (.long o4), .second, .val (.long o5), .second, .unset, .unset, .unset, .unset, .unset, .unset, .unset, .unset, .unset, .unset, .unset] [(.int (12 : Int32)), (.int p4), (.long o5)])) _
    refine XS.iushr X3.here hx rfl (hb hby at_94) rfl ?_
    refine XS.iconst X3.here hx rfl (hb hby at_95) ?_
    refine XS.iand X3.here hx rfl (hb hby at_96) rfl ?_
    refine XS.i2l X3.here hx rfl (hb hby at_97) rfl ?_
    show Steps p.tables e below (T3.setTop (mkF m 98 #[.val (.int p1), .val (.int p2), .val (.long q3), .second, .val (.int p4), .val (.int nn), .val (.int pp), .val (.long bb), .second, .val (.long o1), .second, .val (.long o2), .second, .val (.long o3), .second, .val (.long o4), .second, .val (.long o5), .second, .unset, .unset, .unset, .unset, .unset, .unset, .unset, .unset, .unset, .unset, .unset] [(.long ((((p4.toUInt32 >>> ((12 : Int32) &&& 31).toUInt32).toInt32) &&& (3 : Int32)).toInt64)), (.long o5)])) _
    refine XS.ladd X3.here hx rfl (hb hby at_98) rfl ?_
    exact k
  obtain ⟨o7, hv_o7⟩ : ∃ z : Int64, z = (o6 + ((((p4.toUInt32 >>> ((14 : Int32) &&& 31).toUInt32).toInt32) &&& (3 : Int32)).toInt64)) := ⟨_, rfl⟩
  have g10 : ∀ t, Steps p.tables e below (T3.setTop (mkF m 112 #[.val (.int p1), .val (.int p2), .val (.long q3), .second, .val (.int p4), .val (.int nn), .val (.int pp), .val (.long bb), .second, .val (.long o1), .second, .val (.long o2), .second, .val (.long o3), .second, .val (.long o4), .second, .val (.long o5), .second, .val (.long o6), .second, .unset, .unset, .unset, .unset, .unset, .unset, .unset, .unset, .unset] [(.long o7)])) t → Steps p.tables e below (s₁.setTop (entryFrame m #[(.int p1), (.int p2), (.long q3), (.int p4)] maxLocals)) t := by
    intro t k
    rw [hv_o7] at k
    refine g9 t ?_
    show Steps p.tables e below (T3.setTop (mkF m 99 #[.val (.int p1), .val (.int p2), .val (.long q3), .second, .val (.int p4), .val (.int nn), .val (.int pp), .val (.long bb), .second, .val (.long o1), .second, .val (.long o2), .second, .val (.long o3), .second, .val (.long o4), .second, .val (.long o5), .second, .unset, .unset, .unset, .unset, .unset, .unset, .unset, .unset, .unset, .unset, .unset] [(.long o6)])) _
    refine XS.lstore X3.here hx rfl (hb hby at_99) rfl (l' := #[.val (.int p1), .val (.int p2), .val (.long q3), .second, .val (.int p4), .val (.int nn), .val (.int pp), .val (.long bb), .second, .val (.long o1), .second, .val (.long o2), .second, .val (.long o3), .second, .val (.long o4), .second, .val (.long o5), .second, .val (.long o6), .second, .unset, .unset, .unset, .unset, .unset, .unset, .unset, .unset, .unset]) rfl ?_
    refine XS.lload X3.here hx rfl (hb hby at_101) rfl ?_
    refine XS.iload X3.here hx rfl (hb hby at_103) rfl ?_
    refine XS.bipush X3.here hx rfl (hb hby at_105) ?_
    show Steps p.tables e below (T3.setTop (mkF m 107 #[.val (.int p1), .val (.int p2), .val (.long q3), .second, .val (.int p4), .val (.int nn), .val (.int pp), .val (.long bb), .second, .val (.long o1), .second, .val (.long o2), .second, .val (.long o3), .second, .val (.long o4), .second, .val (.long o5), .second, .val (.long o6), .second, .unset, .unset, .unset, .unset, .unset, .unset, .unset, .unset, .unset] [(.int (14 : Int32)), (.int p4), (.long o6)])) _
    refine XS.iushr X3.here hx rfl (hb hby at_107) rfl ?_
    refine XS.iconst X3.here hx rfl (hb hby at_108) ?_
    refine XS.iand X3.here hx rfl (hb hby at_109) rfl ?_
    refine XS.i2l X3.here hx rfl (hb hby at_110) rfl ?_
    show Steps p.tables e below (T3.setTop (mkF m 111 #[.val (.int p1), .val (.int p2), .val (.long q3), .second, .val (.int p4), .val (.int nn), .val (.int pp), .val (.long bb), .second, .val (.long o1), .second, .val (.long o2), .second, .val (.long o3), .second, .val (.long o4), .second, .val (.long o5), .second, .val (.long o6), .second, .unset, .unset, .unset, .unset, .unset, .unset, .unset, .unset, .unset] [(.long ((((p4.toUInt32 >>> ((14 : Int32) &&& 31).toUInt32).toInt32) &&& (3 : Int32)).toInt64)), (.long o6)])) _
    refine XS.ladd X3.here hx rfl (hb hby at_111) rfl ?_
    exact k
  have g11 : ∀ t, Steps p.tables e below (T3.setTop (mkF m 114 #[.val (.int p1), .val (.int p2), .val (.long q3), .second, .val (.int p4), .val (.int nn), .val (.int pp), .val (.long bb), .second, .val (.long o1), .second, .val (.long o2), .second, .val (.long o3), .second, .val (.long o4), .second, .val (.long o5), .second, .val (.long o6), .second, .val (.long o7), .second, .unset, .unset, .unset, .unset, .unset, .unset, .unset] [])) t → Steps p.tables e below (s₁.setTop (entryFrame m #[(.int p1), (.int p2), (.long q3), (.int p4)] maxLocals)) t := by
    intro t k
    refine g10 t ?_
    show Steps p.tables e below (T3.setTop (mkF m 112 #[.val (.int p1), .val (.int p2), .val (.long q3), .second, .val (.int p4), .val (.int nn), .val (.int pp), .val (.long bb), .second, .val (.long o1), .second, .val (.long o2), .second, .val (.long o3), .second, .val (.long o4), .second, .val (.long o5), .second, .val (.long o6), .second, .unset, .unset, .unset, .unset, .unset, .unset, .unset, .unset, .unset] [(.long o7)])) _
    refine XS.lstore X3.here hx rfl (hb hby at_112) rfl (l' := #[.val (.int p1), .val (.int p2), .val (.long q3), .second, .val (.int p4), .val (.int nn), .val (.int pp), .val (.long bb), .second, .val (.long o1), .second, .val (.long o2), .second, .val (.long o3), .second, .val (.long o4), .second, .val (.long o5), .second, .val (.long o6), .second, .val (.long o7), .second, .unset, .unset, .unset, .unset, .unset, .unset, .unset]) rfl ?_
    exact k
  rcases (own_n _ _ hv_nn : nn = (1 : Int32) ∨ nn = (2 : Int32) ∨ nn = (3 : Int32) ∨ nn = (4 : Int32) ∨ nn = (5 : Int32) ∨ nn = (6 : Int32) ∨ nn = (7 : Int32) ∨ nn = (8 : Int32)) with rfl | rfl | rfl | rfl | rfl | rfl | rfl | rfl
  · skip
    obtain ⟨T12, h12, k12, X12, e12, E12, A12, st12⟩ := newP X3 hx hZ (hw _ (List.mem_of_getElem? (i := 6) rfl)) e3 (g := (mkF m 116 #[.val (.int p1), .val (.int p2), .val (.long q3), .second, .val (.int p4), .val (.int (1 : Int32)), .val (.int pp), .val (.long bb), .second, .val (.long o1), .second, .val (.long o2), .second, .val (.long o3), .second, .val (.long o4), .second, .val (.long o5), .second, .val (.long o6), .second, .val (.long o7), .second, .unset, .unset, .unset, .unset, .unset, .unset, .unset] [(.int (1 : Int32))])) rfl (hb hby at_116) rfl (by decide) (cap := 1) (by decide) (by decide) (by decide) (by decide)
    obtain ⟨b12, q_b12⟩ : ∃ z, z = h0.size := ⟨_, rfl⟩
    rw [← q_b12] at A12 st12
    have sz_b12 : h0.size ≤ b12 := Nat.le_of_eq q_b12.symm
    have gz_b12 : n0 ≤ b12 := Nat.le_trans Z0 sz_b12
    have V12 : Arv Z h12 b12 k12 .long (1 : Int32) [(.long (0 : Int64))] (.long (0 : Int64)) := (Arv.new A12 (by decide)).pad (pad_rep [] (.long (0 : Int64)) 1)
    obtain ⟨c13, Ar13, cq13, S13, Nn13, Hh13, Gg13⟩ := id V12
    have hin13 : ¬ ((0 : Int32) < 0 ∨ c13.slots.size ≤ ((0 : Int32)).toNatClampNeg) := inb_of S13 ⟨by decide, by decide⟩
    obtain ⟨T14, h14, X14, e14, W14, st14⟩ := stJ X12 hx hZ e12 Ar13 (j := (0 : Int32)) hin13 (g := (mkF m 125 #[.val (.int p1), .val (.int p2), .val (.long q3), .second, .val (.int p4), .val (.int (1 : Int32)), .val (.int pp), .val (.long bb), .second, .val (.long o1), .second, .val (.long o2), .second, .val (.long o3), .second, .val (.long o4), .second, .val (.long o5), .second, .val (.long o6), .second, .val (.long o7), .second, .val (.ref b12), .unset, .unset, .unset, .unset, .unset, .unset] [(.long bb), (.int (0 : Int32)), (.ref b12)])) rfl rfl (hb hby at_125)
    have V14 := Arv.set Ar13 cq13 S13 Nn13 Hh13 Gg13 rfl W14 0 rfl (Nat.le_of_ble_eq_true rfl)
    have V14a : Arv Z h14 b12 k12 .long (1 : Int32) [(.long bb)] (.long (0 : Int64)) := V14
    have N14 := Fr.snoc X14 N3 gz_b12
    have o15 : Old Z n0 h14 := (Old.wr (Old.ext O0 E12) W14 gz_b12)
    have hpp := own_p _ _ hv_pp
    obtain ⟨j, hj, jz, jn, j2, j3⟩ := own_pct (1 : Int32) pp 1 (by decide) (by decide) (by decide) hpp
    have hj0 : ¬ j < 0 := by rw [Int32.lt_iff_toInt_lt, show (0 : Int32).toInt = 0 by decide]; omega
    have hj1 : j < (1 : Int32) := by rw [Int32.lt_iff_toInt_lt, show (1 : Int32).toInt = 1 by decide]; omega
    have hjl : j.toNatClampNeg < ([bb] : List Int64).length := by simp only [Int32.toNatClampNeg, List.length_cons, List.length_nil]; omega
    have hjr := own_getD [bb] j.toNatClampNeg hjl
    obtain ⟨rr, hrr⟩ : ∃ z : Int64, z = ([bb] : List Int64).getD j.toNatClampNeg 0 := ⟨_, rfl⟩
    rw [← hrr] at hjr
    obtain ⟨_, _, ⟨T16, L16, k16, n16⟩, -, X16, ⟨Lc16, hQ16, l16, y16, z16⟩, st16⟩ := Jvm.LawKit.callS X14 hx (y := (⟨"orderwire/bench/Latency", "percentile", "([JI)J"⟩ : MethodName)) hown (mvT hZ (hw _ (List.mem_of_getElem? (i := 7) rfl))) (mvT hZ (hw _ (List.mem_of_getElem? (i := 8) rfl))) (mvT hZ (hw _ (List.mem_of_getElem? (i := 9) rfl))) (mvT hZ (hw _ (List.mem_of_getElem? (i := 10) rfl))) (by decide) (backOf (W := 0) (rmPct1 l Z a0 hw [] b12 k12 bb rr pp j h14 n0 o15 V14a hj hj0 hj1 hjr) hZ (hw _ (List.mem_of_getElem? (i := 10) rfl)) (hw _ (List.mem_of_getElem? (i := 9) rfl)) (by decide) (by decide)) (g := (mkF m 239 #[.val (.int p1), .val (.int p2), .val (.long q3), .second, .val (.int p4), .val (.int (1 : Int32)), .val (.int pp), .val (.long bb), .second, .val (.long o1), .second, .val (.long o2), .second, .val (.long o3), .second, .val (.long o4), .second, .val (.long o5), .second, .val (.long o6), .second, .val (.long o7), .second, .val (.ref b12), .unset, .unset, .unset, .unset, .unset, .unset] [(.int pp), (.ref b12)])) rfl (by rw [hml]; rfl) (argsL := [(.ref b12), (.int pp)]) (rest := []) (lenOf own_pd1 rfl) rfl (by show 2 * 0 + _ ≤ _; exact Nat.le_of_eq rfl) (hb hby at_239) (fun _ _ => ⟨rfl, e14, (by decide : 1 + 0 ≤ _), (by decide : 1 + 0 ≤ _)⟩)
    dsimp only [Pt.U, Pt.locs, Pt.cells, Pt.slots] at X16 l16 y16 z16 st16 hQ16
    subst l16 y16 z16
    obtain ⟨rfl, Nq16, e16⟩ := hQ16
    have N16 := Fr.app N14 Nq16
    obtain ⟨le, hle⟩ : ∃ z : Int32, own_cle rr [bb] 0 = z := ⟨_, rfl⟩
    obtain ⟨_, _, ⟨T17, L17, k17, n17⟩, -, X17, ⟨Lc17, hQ17, l17, y17, z17⟩, st17⟩ := Jvm.LawKit.callS X16 hx (y := (⟨"orderwire/bench/LatencyPercentilePinLaw", "countLe", "([JJ)I"⟩ : MethodName)) hown (mvT hZ (hw _ (List.mem_of_getElem? (i := 13) rfl))) (mvT hZ (hw _ (List.mem_of_getElem? (i := 14) rfl))) (mvT hZ (hw _ (List.mem_of_getElem? (i := 15) rfl))) (mvT hZ (hw _ (List.mem_of_getElem? (i := 16) rfl))) (by decide) (backOf (W := 0) (rmcountLe1 l Z a0 hw [] b12 k12 bb rr le h14 n0 o15 V14a hle) hZ (hw _ (List.mem_of_getElem? (i := 16) rfl)) (hw _ (List.mem_of_getElem? (i := 15) rfl)) (by decide) (by decide)) (g := (mkF m 248 #[.val (.int p1), .val (.int p2), .val (.long q3), .second, .val (.int p4), .val (.int (1 : Int32)), .val (.int pp), .val (.long bb), .second, .val (.long o1), .second, .val (.long o2), .second, .val (.long o3), .second, .val (.long o4), .second, .val (.long o5), .second, .val (.long o6), .second, .val (.long o7), .second, .val (.ref b12), .val (.long rr), .second, .unset, .unset, .unset, .unset] [(.long rr), (.ref b12)])) rfl (by rw [hml]; rfl) (argsL := [(.ref b12), (.long rr)]) (rest := []) (lenOf own_pd2 rfl) rfl (by show 2 * 0 + _ ≤ _; exact Nat.le_of_eq rfl) (hb hby at_248) (fun _ _ => ⟨rfl, e16, (by decide : 1 + 0 ≤ _), (by decide : 1 + 0 ≤ _)⟩)
    dsimp only [Pt.U, Pt.locs, Pt.cells, Pt.slots] at X17 l17 y17 z17 st17 hQ17
    subst l17 y17 z17
    obtain ⟨rfl, Nq17, e17⟩ := hQ17
    have N17 := Fr.app N16 Nq17
    obtain ⟨lt, hlt⟩ : ∃ z : Int32, own_clt rr [bb] 0 = z := ⟨_, rfl⟩
    obtain ⟨_, _, ⟨T18, L18, k18, n18⟩, -, X18, ⟨Lc18, hQ18, l18, y18, z18⟩, st18⟩ := Jvm.LawKit.callS X17 hx (y := (⟨"orderwire/bench/LatencyPercentilePinLaw", "countLt", "([JJ)I"⟩ : MethodName)) hown (mvT hZ (hw _ (List.mem_of_getElem? (i := 17) rfl))) (mvT hZ (hw _ (List.mem_of_getElem? (i := 18) rfl))) (mvT hZ (hw _ (List.mem_of_getElem? (i := 15) rfl))) (mvT hZ (hw _ (List.mem_of_getElem? (i := 19) rfl))) (by decide) (backOf (W := 0) (rmcountLt1 l Z a0 hw [] b12 k12 bb rr lt h14 n0 o15 V14a hlt) hZ (hw _ (List.mem_of_getElem? (i := 19) rfl)) (hw _ (List.mem_of_getElem? (i := 15) rfl)) (by decide) (by decide)) (g := (mkF m 257 #[.val (.int p1), .val (.int p2), .val (.long q3), .second, .val (.int p4), .val (.int (1 : Int32)), .val (.int pp), .val (.long bb), .second, .val (.long o1), .second, .val (.long o2), .second, .val (.long o3), .second, .val (.long o4), .second, .val (.long o5), .second, .val (.long o6), .second, .val (.long o7), .second, .val (.ref b12), .val (.long rr), .second, .val (.int le), .unset, .unset, .unset] [(.long rr), (.ref b12)])) rfl (by rw [hml]; rfl) (argsL := [(.ref b12), (.long rr)]) (rest := []) (lenOf own_pd2 rfl) rfl (by show 2 * 0 + _ ≤ _; exact Nat.le_of_eq rfl) (hb hby at_257) (fun _ _ => ⟨rfl, e17, (by decide : 1 + 0 ≤ _), (by decide : 1 + 0 ≤ _)⟩)
    dsimp only [Pt.U, Pt.locs, Pt.cells, Pt.slots] at X18 l18 y18 z18 st18 hQ18
    subst l18 y18 z18
    obtain ⟨rfl, Nq18, e18⟩ := hQ18
    have N18 := Fr.app N17 Nq18
    obtain ⟨need, hv_need⟩ : ∃ z : Int64, z = ((pp.toInt64) * ((1 : Int32).toInt64)) := ⟨_, rfl⟩
    have g19 : ∀ t, Steps p.tables e below (T18.setTop (mkF m 269 #[.val (.int p1), .val (.int p2), .val (.long q3), .second, .val (.int p4), .val (.int (1 : Int32)), .val (.int pp), .val (.long bb), .second, .val (.long o1), .second, .val (.long o2), .second, .val (.long o3), .second, .val (.long o4), .second, .val (.long o5), .second, .val (.long o6), .second, .val (.long o7), .second, .val (.ref b12), .val (.long rr), .second, .val (.int le), .val (.int lt), .unset, .unset] [(.long need)])) t → Steps p.tables e below (s₁.setTop (entryFrame m #[(.int p1), (.int p2), (.long q3), (.int p4)] maxLocals)) t := by
      intro t k
      rw [hv_need] at k
      refine g11 t ?_
      show Steps p.tables e below (T3.setTop (mkF m 114 #[.val (.int p1), .val (.int p2), .val (.long q3), .second, .val (.int p4), .val (.int (1 : Int32)), .val (.int pp), .val (.long bb), .second, .val (.long o1), .second, .val (.long o2), .second, .val (.long o3), .second, .val (.long o4), .second, .val (.long o5), .second, .val (.long o6), .second, .val (.long o7), .second, .unset, .unset, .unset, .unset, .unset, .unset, .unset] [])) _
      refine XS.iload X3.here hx rfl (hb hby at_114) rfl ?_
      refine st12 _ ?_
      refine XS.astore X12.here hx rfl (hb hby at_118) rfl rfl (l' := #[.val (.int p1), .val (.int p2), .val (.long q3), .second, .val (.int p4), .val (.int (1 : Int32)), .val (.int pp), .val (.long bb), .second, .val (.long o1), .second, .val (.long o2), .second, .val (.long o3), .second, .val (.long o4), .second, .val (.long o5), .second, .val (.long o6), .second, .val (.long o7), .second, .val (.ref b12), .unset, .unset, .unset, .unset, .unset, .unset]) rfl ?_
      refine XS.aload X12.here hx rfl (hb hby at_120) rfl rfl ?_
      show Steps p.tables e below (T12.setTop (mkF m 122 #[.val (.int p1), .val (.int p2), .val (.long q3), .second, .val (.int p4), .val (.int (1 : Int32)), .val (.int pp), .val (.long bb), .second, .val (.long o1), .second, .val (.long o2), .second, .val (.long o3), .second, .val (.long o4), .second, .val (.long o5), .second, .val (.long o6), .second, .val (.long o7), .second, .val (.ref b12), .unset, .unset, .unset, .unset, .unset, .unset] [(.ref b12)])) _
      refine XS.iconst X12.here hx rfl (hb hby at_122) ?_
      refine XS.lload X12.here hx rfl (hb hby at_123) rfl ?_
      refine st14 _ ?_
      refine XS.iload X14.here hx rfl (hb hby at_126) rfl ?_
      show Steps p.tables e below (T14.setTop (mkF m 128 #[.val (.int p1), .val (.int p2), .val (.long q3), .second, .val (.int p4), .val (.int (1 : Int32)), .val (.int pp), .val (.long bb), .second, .val (.long o1), .second, .val (.long o2), .second, .val (.long o3), .second, .val (.long o4), .second, .val (.long o5), .second, .val (.long o6), .second, .val (.long o7), .second, .val (.ref b12), .unset, .unset, .unset, .unset, .unset, .unset] [(.int (1 : Int32))])) _
      refine XS.iconst X14.here hx rfl (hb hby at_128) ?_
      refine XS.icmpYes X14.here hx rfl (pc0 := 129) (pc' := 141) rfl (hb hby at_129) rfl (flt (by decide : ¬ ((1 : Int32) < (1 : Int32)))).2.2.2 (by decide) (by decide) ?_
      refine XS.iload X14.here hx rfl (hb hby at_141) rfl ?_
      refine XS.iconst X14.here hx rfl (hb hby at_143) ?_
      show Steps p.tables e below (T14.setTop (mkF m 144 #[.val (.int p1), .val (.int p2), .val (.long q3), .second, .val (.int p4), .val (.int (1 : Int32)), .val (.int pp), .val (.long bb), .second, .val (.long o1), .second, .val (.long o2), .second, .val (.long o3), .second, .val (.long o4), .second, .val (.long o5), .second, .val (.long o6), .second, .val (.long o7), .second, .val (.ref b12), .unset, .unset, .unset, .unset, .unset, .unset] [(.int (2 : Int32)), (.int (1 : Int32))])) _
      refine XS.icmpYes X14.here hx rfl (pc0 := 144) (pc' := 156) rfl (hb hby at_144) rfl (flt (by decide : ¬ ((2 : Int32) < (1 : Int32)))).2.2.2 (by decide) (by decide) ?_
      refine XS.iload X14.here hx rfl (hb hby at_156) rfl ?_
      refine XS.iconst X14.here hx rfl (hb hby at_158) ?_
      refine XS.icmpYes X14.here hx rfl (pc0 := 159) (pc' := 171) rfl (hb hby at_159) rfl (flt (by decide : ¬ ((3 : Int32) < (1 : Int32)))).2.2.2 (by decide) (by decide) ?_
      show Steps p.tables e below (T14.setTop (mkF m 171 #[.val (.int p1), .val (.int p2), .val (.long q3), .second, .val (.int p4), .val (.int (1 : Int32)), .val (.int pp), .val (.long bb), .second, .val (.long o1), .second, .val (.long o2), .second, .val (.long o3), .second, .val (.long o4), .second, .val (.long o5), .second, .val (.long o6), .second, .val (.long o7), .second, .val (.ref b12), .unset, .unset, .unset, .unset, .unset, .unset] [])) _
      refine XS.iload X14.here hx rfl (hb hby at_171) rfl ?_
      refine XS.iconst X14.here hx rfl (hb hby at_173) ?_
      refine XS.icmpYes X14.here hx rfl (pc0 := 174) (pc' := 186) rfl (hb hby at_174) rfl (flt (by decide : ¬ ((4 : Int32) < (1 : Int32)))).2.2.2 (by decide) (by decide) ?_
      refine XS.iload X14.here hx rfl (hb hby at_186) rfl ?_
      show Steps p.tables e below (T14.setTop (mkF m 188 #[.val (.int p1), .val (.int p2), .val (.long q3), .second, .val (.int p4), .val (.int (1 : Int32)), .val (.int pp), .val (.long bb), .second, .val (.long o1), .second, .val (.long o2), .second, .val (.long o3), .second, .val (.long o4), .second, .val (.long o5), .second, .val (.long o6), .second, .val (.long o7), .second, .val (.ref b12), .unset, .unset, .unset, .unset, .unset, .unset] [(.int (1 : Int32))])) _
      refine XS.iconst X14.here hx rfl (hb hby at_188) ?_
      refine XS.icmpYes X14.here hx rfl (pc0 := 189) (pc' := 201) rfl (hb hby at_189) rfl (flt (by decide : ¬ ((5 : Int32) < (1 : Int32)))).2.2.2 (by decide) (by decide) ?_
      refine XS.iload X14.here hx rfl (hb hby at_201) rfl ?_
      refine XS.bipush X14.here hx rfl (hb hby at_203) ?_
      show Steps p.tables e below (T14.setTop (mkF m 205 #[.val (.int p1), .val (.int p2), .val (.long q3), .second, .val (.int p4), .val (.int (1 : Int32)), .val (.int pp), .val (.long bb), .second, .val (.long o1), .second, .val (.long o2), .second, .val (.long o3), .second, .val (.long o4), .second, .val (.long o5), .second, .val (.long o6), .second, .val (.long o7), .second, .val (.ref b12), .unset, .unset, .unset, .unset, .unset, .unset] [(.int (6 : Int32)), (.int (1 : Int32))])) _
      refine XS.icmpYes X14.here hx rfl (pc0 := 205) (pc' := 218) rfl (hb hby at_205) rfl (flt (by decide : ¬ ((6 : Int32) < (1 : Int32)))).2.2.2 (by decide) (by decide) ?_
      refine XS.iload X14.here hx rfl (hb hby at_218) rfl ?_
      refine XS.bipush X14.here hx rfl (hb hby at_220) ?_
      refine XS.icmpYes X14.here hx rfl (pc0 := 222) (pc' := 235) rfl (hb hby at_222) rfl (flt (by decide : ¬ ((7 : Int32) < (1 : Int32)))).2.2.2 (by decide) (by decide) ?_
      show Steps p.tables e below (T14.setTop (mkF m 235 #[.val (.int p1), .val (.int p2), .val (.long q3), .second, .val (.int p4), .val (.int (1 : Int32)), .val (.int pp), .val (.long bb), .second, .val (.long o1), .second, .val (.long o2), .second, .val (.long o3), .second, .val (.long o4), .second, .val (.long o5), .second, .val (.long o6), .second, .val (.long o7), .second, .val (.ref b12), .unset, .unset, .unset, .unset, .unset, .unset] [])) _
      refine XS.aload X14.here hx rfl (hb hby at_235) rfl rfl ?_
      refine XS.iload X14.here hx rfl (hb hby at_237) rfl ?_
      refine st16 _ ?_
      refine XS.lstore X16.here hx rfl (hb hby at_242) rfl (l' := #[.val (.int p1), .val (.int p2), .val (.long q3), .second, .val (.int p4), .val (.int (1 : Int32)), .val (.int pp), .val (.long bb), .second, .val (.long o1), .second, .val (.long o2), .second, .val (.long o3), .second, .val (.long o4), .second, .val (.long o5), .second, .val (.long o6), .second, .val (.long o7), .second, .val (.ref b12), .val (.long rr), .second, .unset, .unset, .unset, .unset]) rfl ?_
      show Steps p.tables e below (T16.setTop (mkF m 244 #[.val (.int p1), .val (.int p2), .val (.long q3), .second, .val (.int p4), .val (.int (1 : Int32)), .val (.int pp), .val (.long bb), .second, .val (.long o1), .second, .val (.long o2), .second, .val (.long o3), .second, .val (.long o4), .second, .val (.long o5), .second, .val (.long o6), .second, .val (.long o7), .second, .val (.ref b12), .val (.long rr), .second, .unset, .unset, .unset, .unset] [])) _
      refine XS.aload X16.here hx rfl (hb hby at_244) rfl rfl ?_
      refine XS.lload X16.here hx rfl (hb hby at_246) rfl ?_
      refine st17 _ ?_
      refine XS.istore X17.here hx rfl (hb hby at_251) rfl (l' := #[.val (.int p1), .val (.int p2), .val (.long q3), .second, .val (.int p4), .val (.int (1 : Int32)), .val (.int pp), .val (.long bb), .second, .val (.long o1), .second, .val (.long o2), .second, .val (.long o3), .second, .val (.long o4), .second, .val (.long o5), .second, .val (.long o6), .second, .val (.long o7), .second, .val (.ref b12), .val (.long rr), .second, .val (.int le), .unset, .unset, .unset]) rfl ?_
      show Steps p.tables e below (T17.setTop (mkF m 253 #[.val (.int p1), .val (.int p2), .val (.long q3), .second, .val (.int p4), .val (.int (1 : Int32)), .val (.int pp), .val (.long bb), .second, .val (.long o1), .second, .val (.long o2), .second, .val (.long o3), .second, .val (.long o4), .second, .val (.long o5), .second, .val (.long o6), .second, .val (.long o7), .second, .val (.ref b12), .val (.long rr), .second, .val (.int le), .unset, .unset, .unset] [])) _
      refine XS.aload X17.here hx rfl (hb hby at_253) rfl rfl ?_
      refine XS.lload X17.here hx rfl (hb hby at_255) rfl ?_
      refine st18 _ ?_
      refine XS.istore X18.here hx rfl (hb hby at_260) rfl (l' := #[.val (.int p1), .val (.int p2), .val (.long q3), .second, .val (.int p4), .val (.int (1 : Int32)), .val (.int pp), .val (.long bb), .second, .val (.long o1), .second, .val (.long o2), .second, .val (.long o3), .second, .val (.long o4), .second, .val (.long o5), .second, .val (.long o6), .second, .val (.long o7), .second, .val (.ref b12), .val (.long rr), .second, .val (.int le), .val (.int lt), .unset, .unset]) rfl ?_
      show Steps p.tables e below (T18.setTop (mkF m 262 #[.val (.int p1), .val (.int p2), .val (.long q3), .second, .val (.int p4), .val (.int (1 : Int32)), .val (.int pp), .val (.long bb), .second, .val (.long o1), .second, .val (.long o2), .second, .val (.long o3), .second, .val (.long o4), .second, .val (.long o5), .second, .val (.long o6), .second, .val (.long o7), .second, .val (.ref b12), .val (.long rr), .second, .val (.int le), .val (.int lt), .unset, .unset] [])) _
      refine XS.iload X18.here hx rfl (hb hby at_262) rfl ?_
      refine XS.i2l X18.here hx rfl (hb hby at_264) rfl ?_
      refine XS.iload X18.here hx rfl (hb hby at_265) rfl ?_
      refine XS.i2l X18.here hx rfl (hb hby at_267) rfl ?_
      show Steps p.tables e below (T18.setTop (mkF m 268 #[.val (.int p1), .val (.int p2), .val (.long q3), .second, .val (.int p4), .val (.int (1 : Int32)), .val (.int pp), .val (.long bb), .second, .val (.long o1), .second, .val (.long o2), .second, .val (.long o3), .second, .val (.long o4), .second, .val (.long o5), .second, .val (.long o6), .second, .val (.long o7), .second, .val (.ref b12), .val (.long rr), .second, .val (.int le), .val (.int lt), .unset, .unset] [(.long ((1 : Int32).toInt64)), (.long (pp.toInt64))])) _
      refine XS.lmul X18.here hx rfl (hb hby at_268) rfl ?_
      exact k
    have hbd := own_b _ _ hbb
    have ko1 := own_o1 _ _ hv_o1
    have ko2 := own_o _ _ _ 3 (by decide) ⟨ko1.1, ko1.2⟩ hv_o2
    have zo2 : 0 ≤ o2.toInt := by omega
    have ko3 := own_o _ _ _ 6 (by decide) ⟨zo2, ko2.2⟩ hv_o3
    have zo3 : 0 ≤ o3.toInt := by omega
    have ko4 := own_o _ _ _ 9 (by decide) ⟨zo3, ko3.2⟩ hv_o4
    have zo4 : 0 ≤ o4.toInt := by omega
    have ko5 := own_o _ _ _ 12 (by decide) ⟨zo4, ko4.2⟩ hv_o5
    have zo5 : 0 ≤ o5.toInt := by omega
    have ko6 := own_o _ _ _ 15 (by decide) ⟨zo5, ko5.2⟩ hv_o6
    have zo6 : 0 ≤ o6.toInt := by omega
    have ko7 := own_o _ _ _ 18 (by decide) ⟨zo6, ko6.2⟩ hv_o7
    have zo7 : 0 ≤ o7.toInt := by omega
    have hsrt : own_srt [bb] := by
      simp only [own_srt, List.mem_cons, List.not_mem_nil, or_false, forall_eq_or_imp, forall_eq, false_implies, implies_true, and_true, true_and]
      try trivial
    rw [hrr] at hle hlt
    obtain ⟨fin1, fin2⟩ := own_fin [bb] (1 : Int32) pp j le lt need 1 (by decide) (by rfl) (by decide) (by decide) hpp hsrt jz jn j2 j3 hle hlt hv_need
    have hc20 : ¬ (((100 : Int64) * (le.toInt64)) < need) := fin1
    have hc21 : ((100 : Int64) * (lt.toInt64)) < need := fin2
    have g22 : ∀ t, Steps p.tables e below (T18.setTop (mkF m 302 #[.val (.int p1), .val (.int p2), .val (.long q3), .second, .val (.int p4), .val (.int (1 : Int32)), .val (.int pp), .val (.long bb), .second, .val (.long o1), .second, .val (.long o2), .second, .val (.long o3), .second, .val (.long o4), .second, .val (.long o5), .second, .val (.long o6), .second, .val (.long o7), .second, .val (.ref b12), .val (.long rr), .second, .val (.int le), .val (.int lt), .val (.long need), .second] [(.int (1 : Int32))])) t → Steps p.tables e below (s₁.setTop (entryFrame m #[(.int p1), (.int p2), (.long q3), (.int p4)] maxLocals)) t := by
      intro t k
      refine g19 t ?_
      show Steps p.tables e below (T18.setTop (mkF m 269 #[.val (.int p1), .val (.int p2), .val (.long q3), .second, .val (.int p4), .val (.int (1 : Int32)), .val (.int pp), .val (.long bb), .second, .val (.long o1), .second, .val (.long o2), .second, .val (.long o3), .second, .val (.long o4), .second, .val (.long o5), .second, .val (.long o6), .second, .val (.long o7), .second, .val (.ref b12), .val (.long rr), .second, .val (.int le), .val (.int lt), .unset, .unset] [(.long need)])) _
      refine XS.lstore X18.here hx rfl (hb hby at_269) rfl (l' := #[.val (.int p1), .val (.int p2), .val (.long q3), .second, .val (.int p4), .val (.int (1 : Int32)), .val (.int pp), .val (.long bb), .second, .val (.long o1), .second, .val (.long o2), .second, .val (.long o3), .second, .val (.long o4), .second, .val (.long o5), .second, .val (.long o6), .second, .val (.long o7), .second, .val (.ref b12), .val (.long rr), .second, .val (.int le), .val (.int lt), .val (.long need), .second]) rfl ?_
      refine X18.ldc2Long hx hown (mvT hZ (hw _ (List.mem_of_getElem? (i := 20) rfl))) (g := (mkF m 271 #[.val (.int p1), .val (.int p2), .val (.long q3), .second, .val (.int p4), .val (.int (1 : Int32)), .val (.int pp), .val (.long bb), .second, .val (.long o1), .second, .val (.long o2), .second, .val (.long o3), .second, .val (.long o4), .second, .val (.long o5), .second, .val (.long o6), .second, .val (.long o7), .second, .val (.ref b12), .val (.long rr), .second, .val (.int le), .val (.int lt), .val (.long need), .second] [])) rfl (hb hby at_271) _ ?_
      refine XS.iload X18.here hx rfl (hb hby at_274) rfl ?_
      refine XS.i2l X18.here hx rfl (hb hby at_276) rfl ?_
      show Steps p.tables e below (T18.setTop (mkF m 277 #[.val (.int p1), .val (.int p2), .val (.long q3), .second, .val (.int p4), .val (.int (1 : Int32)), .val (.int pp), .val (.long bb), .second, .val (.long o1), .second, .val (.long o2), .second, .val (.long o3), .second, .val (.long o4), .second, .val (.long o5), .second, .val (.long o6), .second, .val (.long o7), .second, .val (.ref b12), .val (.long rr), .second, .val (.int le), .val (.int lt), .val (.long need), .second] [(.long (le.toInt64)), (.long (100 : Int64))])) _
      refine XS.lmul X18.here hx rfl (hb hby at_277) rfl ?_
      refine XS.lload X18.here hx rfl (hb hby at_278) rfl ?_
      refine XS.lcmp X18.here hx rfl (hb hby at_280) rfl ?_
      refine XS.ifNo X18.here hx rfl (hb hby at_281) rfl ((if0 _ _).trans (flt (fun q => hc20 ((lw_lt _ _).mp q))).1) ?_
      show Steps p.tables e below (T18.setTop (mkF m 284 #[.val (.int p1), .val (.int p2), .val (.long q3), .second, .val (.int p4), .val (.int (1 : Int32)), .val (.int pp), .val (.long bb), .second, .val (.long o1), .second, .val (.long o2), .second, .val (.long o3), .second, .val (.long o4), .second, .val (.long o5), .second, .val (.long o6), .second, .val (.long o7), .second, .val (.ref b12), .val (.long rr), .second, .val (.int le), .val (.int lt), .val (.long need), .second] [])) _
      refine X18.ldc2Long hx hown (mvT hZ (hw _ (List.mem_of_getElem? (i := 20) rfl))) (g := (mkF m 284 #[.val (.int p1), .val (.int p2), .val (.long q3), .second, .val (.int p4), .val (.int (1 : Int32)), .val (.int pp), .val (.long bb), .second, .val (.long o1), .second, .val (.long o2), .second, .val (.long o3), .second, .val (.long o4), .second, .val (.long o5), .second, .val (.long o6), .second, .val (.long o7), .second, .val (.ref b12), .val (.long rr), .second, .val (.int le), .val (.int lt), .val (.long need), .second] [])) rfl (hb hby at_284) _ ?_
      refine XS.iload X18.here hx rfl (hb hby at_287) rfl ?_
      refine XS.i2l X18.here hx rfl (hb hby at_289) rfl ?_
      refine XS.lmul X18.here hx rfl (hb hby at_290) rfl ?_
      show Steps p.tables e below (T18.setTop (mkF m 291 #[.val (.int p1), .val (.int p2), .val (.long q3), .second, .val (.int p4), .val (.int (1 : Int32)), .val (.int pp), .val (.long bb), .second, .val (.long o1), .second, .val (.long o2), .second, .val (.long o3), .second, .val (.long o4), .second, .val (.long o5), .second, .val (.long o6), .second, .val (.long o7), .second, .val (.ref b12), .val (.long rr), .second, .val (.int le), .val (.int lt), .val (.long need), .second] [(.long ((100 : Int64) * (lt.toInt64)))])) _
      refine XS.lload X18.here hx rfl (hb hby at_291) rfl ?_
      refine XS.lcmp X18.here hx rfl (hb hby at_293) rfl ?_
      refine XS.ifNo X18.here hx rfl (hb hby at_294) rfl ((if0 _ _).trans (tlt ((lw_lt _ _).mpr hc21)).2.1) ?_
      refine XS.iconst X18.here hx rfl (hb hby at_297) ?_
      show Steps p.tables e below (T18.setTop (mkF m 298 #[.val (.int p1), .val (.int p2), .val (.long q3), .second, .val (.int p4), .val (.int (1 : Int32)), .val (.int pp), .val (.long bb), .second, .val (.long o1), .second, .val (.long o2), .second, .val (.long o3), .second, .val (.long o4), .second, .val (.long o5), .second, .val (.long o6), .second, .val (.long o7), .second, .val (.ref b12), .val (.long rr), .second, .val (.int le), .val (.int lt), .val (.long need), .second] [(.int (1 : Int32))])) _
      refine XS.goto X18.here hx rfl (pc0 := 298) (pc' := 302) rfl (hb hby at_298) (by decide) (by decide) ?_
      exact k
    obtain ⟨fs, hrt, hrun, hended, hW, hsame⟩ := X18.leave (v := some (.int (1 : Int32))) (fun h => by rw [Bd.returns] at h; cases h)
    refine ⟨_, _, g22 _ ?_, hrun, hended, _, _, rfl, ?_, ⟨_, rfl⟩, hW, hsame.mono (by decide) (by decide)⟩
    · show Steps p.tables e below (T18.setTop (mkF m 302 #[.val (.int p1), .val (.int p2), .val (.long q3), .second, .val (.int p4), .val (.int (1 : Int32)), .val (.int pp), .val (.long bb), .second, .val (.long o1), .second, .val (.long o2), .second, .val (.long o3), .second, .val (.long o4), .second, .val (.long o5), .second, .val (.long o6), .second, .val (.long o7), .second, .val (.ref b12), .val (.long rr), .second, .val (.int le), .val (.int lt), .val (.long need), .second] [(.int (1 : Int32))])) _
      exact retN X18 hx (t := .boolean) Bd.returns (by simp) (hb hby at_302) hrt
    · show own_Q_rm0 Z p1 p2 q3 p4 h0 n0 _ T18.heap _
      rw [e18]
      exact ⟨rfl, N18⟩
  · skip
    obtain ⟨T23, h23, k23, X23, e23, E23, A23, st23⟩ := newP X3 hx hZ (hw _ (List.mem_of_getElem? (i := 6) rfl)) e3 (g := (mkF m 116 #[.val (.int p1), .val (.int p2), .val (.long q3), .second, .val (.int p4), .val (.int (2 : Int32)), .val (.int pp), .val (.long bb), .second, .val (.long o1), .second, .val (.long o2), .second, .val (.long o3), .second, .val (.long o4), .second, .val (.long o5), .second, .val (.long o6), .second, .val (.long o7), .second, .unset, .unset, .unset, .unset, .unset, .unset, .unset] [(.int (2 : Int32))])) rfl (hb hby at_116) rfl (by decide) (cap := 2) (by decide) (by decide) (by decide) (by decide)
    obtain ⟨b23, q_b23⟩ : ∃ z, z = h0.size := ⟨_, rfl⟩
    rw [← q_b23] at A23 st23
    have sz_b23 : h0.size ≤ b23 := Nat.le_of_eq q_b23.symm
    have gz_b23 : n0 ≤ b23 := Nat.le_trans Z0 sz_b23
    have V23 : Arv Z h23 b23 k23 .long (2 : Int32) [(.long (0 : Int64)), (.long (0 : Int64))] (.long (0 : Int64)) := (Arv.new A23 (by decide)).pad (pad_rep [] (.long (0 : Int64)) 2)
    obtain ⟨c24, Ar24, cq24, S24, Nn24, Hh24, Gg24⟩ := id V23
    have hin24 : ¬ ((0 : Int32) < 0 ∨ c24.slots.size ≤ ((0 : Int32)).toNatClampNeg) := inb_of S24 ⟨by decide, by decide⟩
    obtain ⟨T25, h25, X25, e25, W25, st25⟩ := stJ X23 hx hZ e23 Ar24 (j := (0 : Int32)) hin24 (g := (mkF m 125 #[.val (.int p1), .val (.int p2), .val (.long q3), .second, .val (.int p4), .val (.int (2 : Int32)), .val (.int pp), .val (.long bb), .second, .val (.long o1), .second, .val (.long o2), .second, .val (.long o3), .second, .val (.long o4), .second, .val (.long o5), .second, .val (.long o6), .second, .val (.long o7), .second, .val (.ref b23), .unset, .unset, .unset, .unset, .unset, .unset] [(.long bb), (.int (0 : Int32)), (.ref b23)])) rfl rfl (hb hby at_125)
    have V25 := Arv.set Ar24 cq24 S24 Nn24 Hh24 Gg24 rfl W25 0 rfl (Nat.le_of_ble_eq_true rfl)
    have V25a : Arv Z h25 b23 k23 .long (2 : Int32) [(.long bb), (.long (0 : Int64))] (.long (0 : Int64)) := V25
    have N25 := Fr.snoc X25 N3 gz_b23
    obtain ⟨x1, hv_x1⟩ : ∃ z : Int64, z = (bb + o1) := ⟨_, rfl⟩
    have g26 : ∀ t, Steps p.tables e below (T25.setTop (mkF m 140 #[.val (.int p1), .val (.int p2), .val (.long q3), .second, .val (.int p4), .val (.int (2 : Int32)), .val (.int pp), .val (.long bb), .second, .val (.long o1), .second, .val (.long o2), .second, .val (.long o3), .second, .val (.long o4), .second, .val (.long o5), .second, .val (.long o6), .second, .val (.long o7), .second, .val (.ref b23), .unset, .unset, .unset, .unset, .unset, .unset] [(.long x1), (.int (1 : Int32)), (.ref b23)])) t → Steps p.tables e below (s₁.setTop (entryFrame m #[(.int p1), (.int p2), (.long q3), (.int p4)] maxLocals)) t := by
      intro t k
      rw [hv_x1] at k
      refine g11 t ?_
      show Steps p.tables e below (T3.setTop (mkF m 114 #[.val (.int p1), .val (.int p2), .val (.long q3), .second, .val (.int p4), .val (.int (2 : Int32)), .val (.int pp), .val (.long bb), .second, .val (.long o1), .second, .val (.long o2), .second, .val (.long o3), .second, .val (.long o4), .second, .val (.long o5), .second, .val (.long o6), .second, .val (.long o7), .second, .unset, .unset, .unset, .unset, .unset, .unset, .unset] [])) _
      refine XS.iload X3.here hx rfl (hb hby at_114) rfl ?_
      refine st23 _ ?_
      refine XS.astore X23.here hx rfl (hb hby at_118) rfl rfl (l' := #[.val (.int p1), .val (.int p2), .val (.long q3), .second, .val (.int p4), .val (.int (2 : Int32)), .val (.int pp), .val (.long bb), .second, .val (.long o1), .second, .val (.long o2), .second, .val (.long o3), .second, .val (.long o4), .second, .val (.long o5), .second, .val (.long o6), .second, .val (.long o7), .second, .val (.ref b23), .unset, .unset, .unset, .unset, .unset, .unset]) rfl ?_
      refine XS.aload X23.here hx rfl (hb hby at_120) rfl rfl ?_
      show Steps p.tables e below (T23.setTop (mkF m 122 #[.val (.int p1), .val (.int p2), .val (.long q3), .second, .val (.int p4), .val (.int (2 : Int32)), .val (.int pp), .val (.long bb), .second, .val (.long o1), .second, .val (.long o2), .second, .val (.long o3), .second, .val (.long o4), .second, .val (.long o5), .second, .val (.long o6), .second, .val (.long o7), .second, .val (.ref b23), .unset, .unset, .unset, .unset, .unset, .unset] [(.ref b23)])) _
      refine XS.iconst X23.here hx rfl (hb hby at_122) ?_
      refine XS.lload X23.here hx rfl (hb hby at_123) rfl ?_
      refine st25 _ ?_
      refine XS.iload X25.here hx rfl (hb hby at_126) rfl ?_
      show Steps p.tables e below (T25.setTop (mkF m 128 #[.val (.int p1), .val (.int p2), .val (.long q3), .second, .val (.int p4), .val (.int (2 : Int32)), .val (.int pp), .val (.long bb), .second, .val (.long o1), .second, .val (.long o2), .second, .val (.long o3), .second, .val (.long o4), .second, .val (.long o5), .second, .val (.long o6), .second, .val (.long o7), .second, .val (.ref b23), .unset, .unset, .unset, .unset, .unset, .unset] [(.int (2 : Int32))])) _
      refine XS.iconst X25.here hx rfl (hb hby at_128) ?_
      refine XS.icmpNo X25.here hx rfl (hb hby at_129) rfl (tlt (by decide : (1 : Int32) < (2 : Int32))).2.2.2 ?_
      refine XS.aload X25.here hx rfl (hb hby at_132) rfl rfl ?_
      refine XS.iconst X25.here hx rfl (hb hby at_134) ?_
      show Steps p.tables e below (T25.setTop (mkF m 135 #[.val (.int p1), .val (.int p2), .val (.long q3), .second, .val (.int p4), .val (.int (2 : Int32)), .val (.int pp), .val (.long bb), .second, .val (.long o1), .second, .val (.long o2), .second, .val (.long o3), .second, .val (.long o4), .second, .val (.long o5), .second, .val (.long o6), .second, .val (.long o7), .second, .val (.ref b23), .unset, .unset, .unset, .unset, .unset, .unset] [(.int (1 : Int32)), (.ref b23)])) _
      refine XS.lload X25.here hx rfl (hb hby at_135) rfl ?_
      refine XS.lload X25.here hx rfl (hb hby at_137) rfl ?_
      refine XS.ladd X25.here hx rfl (hb hby at_139) rfl ?_
      exact k
    obtain ⟨c27, Ar27, cq27, S27, Nn27, Hh27, Gg27⟩ := id V25a
    have hin27 : ¬ ((1 : Int32) < 0 ∨ c27.slots.size ≤ ((1 : Int32)).toNatClampNeg) := inb_of S27 ⟨by decide, by decide⟩
    obtain ⟨T28, h28, X28, e28, W28, st28⟩ := stJ X25 hx hZ e25 Ar27 (j := (1 : Int32)) hin27 (g := (mkF m 140 #[.val (.int p1), .val (.int p2), .val (.long q3), .second, .val (.int p4), .val (.int (2 : Int32)), .val (.int pp), .val (.long bb), .second, .val (.long o1), .second, .val (.long o2), .second, .val (.long o3), .second, .val (.long o4), .second, .val (.long o5), .second, .val (.long o6), .second, .val (.long o7), .second, .val (.ref b23), .unset, .unset, .unset, .unset, .unset, .unset] [(.long x1), (.int (1 : Int32)), (.ref b23)])) rfl rfl (hb hby at_140)
    have V28 := Arv.set Ar27 cq27 S27 Nn27 Hh27 Gg27 rfl W28 1 rfl (Nat.le_of_ble_eq_true rfl)
    have V28a : Arv Z h28 b23 k23 .long (2 : Int32) [(.long bb), (.long x1)] (.long (0 : Int64)) := V28
    have N28 := Fr.snoc X28 N25 gz_b23
    have o29 : Old Z n0 h28 := (Old.wr (Old.wr (Old.ext O0 E23) W25 gz_b23) W28 gz_b23)
    have hpp := own_p _ _ hv_pp
    obtain ⟨j, hj, jz, jn, j2, j3⟩ := own_pct (2 : Int32) pp 2 (by decide) (by decide) (by decide) hpp
    have hj0 : ¬ j < 0 := by rw [Int32.lt_iff_toInt_lt, show (0 : Int32).toInt = 0 by decide]; omega
    have hj1 : j < (2 : Int32) := by rw [Int32.lt_iff_toInt_lt, show (2 : Int32).toInt = 2 by decide]; omega
    have hjl : j.toNatClampNeg < ([bb, x1] : List Int64).length := by simp only [Int32.toNatClampNeg, List.length_cons, List.length_nil]; omega
    have hjr := own_getD [bb, x1] j.toNatClampNeg hjl
    obtain ⟨rr, hrr⟩ : ∃ z : Int64, z = ([bb, x1] : List Int64).getD j.toNatClampNeg 0 := ⟨_, rfl⟩
    rw [← hrr] at hjr
    obtain ⟨_, _, ⟨T30, L30, k30, n30⟩, -, X30, ⟨Lc30, hQ30, l30, y30, z30⟩, st30⟩ := Jvm.LawKit.callS X28 hx (y := (⟨"orderwire/bench/Latency", "percentile", "([JI)J"⟩ : MethodName)) hown (mvT hZ (hw _ (List.mem_of_getElem? (i := 7) rfl))) (mvT hZ (hw _ (List.mem_of_getElem? (i := 8) rfl))) (mvT hZ (hw _ (List.mem_of_getElem? (i := 9) rfl))) (mvT hZ (hw _ (List.mem_of_getElem? (i := 10) rfl))) (by decide) (backOf (W := 0) (rmPct2 l Z a0 hw [] b23 k23 bb x1 rr pp j h28 n0 o29 V28a hj hj0 hj1 hjr) hZ (hw _ (List.mem_of_getElem? (i := 10) rfl)) (hw _ (List.mem_of_getElem? (i := 9) rfl)) (by decide) (by decide)) (g := (mkF m 239 #[.val (.int p1), .val (.int p2), .val (.long q3), .second, .val (.int p4), .val (.int (2 : Int32)), .val (.int pp), .val (.long bb), .second, .val (.long o1), .second, .val (.long o2), .second, .val (.long o3), .second, .val (.long o4), .second, .val (.long o5), .second, .val (.long o6), .second, .val (.long o7), .second, .val (.ref b23), .unset, .unset, .unset, .unset, .unset, .unset] [(.int pp), (.ref b23)])) rfl (by rw [hml]; rfl) (argsL := [(.ref b23), (.int pp)]) (rest := []) (lenOf own_pd1 rfl) rfl (by show 2 * 0 + _ ≤ _; exact Nat.le_of_eq rfl) (hb hby at_239) (fun _ _ => ⟨rfl, e28, (by decide : 1 + 0 ≤ _), (by decide : 2 + 0 ≤ _)⟩)
    dsimp only [Pt.U, Pt.locs, Pt.cells, Pt.slots] at X30 l30 y30 z30 st30 hQ30
    subst l30 y30 z30
    obtain ⟨rfl, Nq30, e30⟩ := hQ30
    have N30 := Fr.app N28 Nq30
    obtain ⟨le, hle⟩ : ∃ z : Int32, own_cle rr [bb, x1] 0 = z := ⟨_, rfl⟩
    obtain ⟨_, _, ⟨T31, L31, k31, n31⟩, -, X31, ⟨Lc31, hQ31, l31, y31, z31⟩, st31⟩ := Jvm.LawKit.callS X30 hx (y := (⟨"orderwire/bench/LatencyPercentilePinLaw", "countLe", "([JJ)I"⟩ : MethodName)) hown (mvT hZ (hw _ (List.mem_of_getElem? (i := 13) rfl))) (mvT hZ (hw _ (List.mem_of_getElem? (i := 14) rfl))) (mvT hZ (hw _ (List.mem_of_getElem? (i := 15) rfl))) (mvT hZ (hw _ (List.mem_of_getElem? (i := 16) rfl))) (by decide) (backOf (W := 0) (rmcountLe2 l Z a0 hw [] b23 k23 bb x1 rr le h28 n0 o29 V28a hle) hZ (hw _ (List.mem_of_getElem? (i := 16) rfl)) (hw _ (List.mem_of_getElem? (i := 15) rfl)) (by decide) (by decide)) (g := (mkF m 248 #[.val (.int p1), .val (.int p2), .val (.long q3), .second, .val (.int p4), .val (.int (2 : Int32)), .val (.int pp), .val (.long bb), .second, .val (.long o1), .second, .val (.long o2), .second, .val (.long o3), .second, .val (.long o4), .second, .val (.long o5), .second, .val (.long o6), .second, .val (.long o7), .second, .val (.ref b23), .val (.long rr), .second, .unset, .unset, .unset, .unset] [(.long rr), (.ref b23)])) rfl (by rw [hml]; rfl) (argsL := [(.ref b23), (.long rr)]) (rest := []) (lenOf own_pd2 rfl) rfl (by show 2 * 0 + _ ≤ _; exact Nat.le_of_eq rfl) (hb hby at_248) (fun _ _ => ⟨rfl, e30, (by decide : 1 + 0 ≤ _), (by decide : 2 + 0 ≤ _)⟩)
    dsimp only [Pt.U, Pt.locs, Pt.cells, Pt.slots] at X31 l31 y31 z31 st31 hQ31
    subst l31 y31 z31
    obtain ⟨rfl, Nq31, e31⟩ := hQ31
    have N31 := Fr.app N30 Nq31
    obtain ⟨lt, hlt⟩ : ∃ z : Int32, own_clt rr [bb, x1] 0 = z := ⟨_, rfl⟩
    obtain ⟨_, _, ⟨T32, L32, k32, n32⟩, -, X32, ⟨Lc32, hQ32, l32, y32, z32⟩, st32⟩ := Jvm.LawKit.callS X31 hx (y := (⟨"orderwire/bench/LatencyPercentilePinLaw", "countLt", "([JJ)I"⟩ : MethodName)) hown (mvT hZ (hw _ (List.mem_of_getElem? (i := 17) rfl))) (mvT hZ (hw _ (List.mem_of_getElem? (i := 18) rfl))) (mvT hZ (hw _ (List.mem_of_getElem? (i := 15) rfl))) (mvT hZ (hw _ (List.mem_of_getElem? (i := 19) rfl))) (by decide) (backOf (W := 0) (rmcountLt2 l Z a0 hw [] b23 k23 bb x1 rr lt h28 n0 o29 V28a hlt) hZ (hw _ (List.mem_of_getElem? (i := 19) rfl)) (hw _ (List.mem_of_getElem? (i := 15) rfl)) (by decide) (by decide)) (g := (mkF m 257 #[.val (.int p1), .val (.int p2), .val (.long q3), .second, .val (.int p4), .val (.int (2 : Int32)), .val (.int pp), .val (.long bb), .second, .val (.long o1), .second, .val (.long o2), .second, .val (.long o3), .second, .val (.long o4), .second, .val (.long o5), .second, .val (.long o6), .second, .val (.long o7), .second, .val (.ref b23), .val (.long rr), .second, .val (.int le), .unset, .unset, .unset] [(.long rr), (.ref b23)])) rfl (by rw [hml]; rfl) (argsL := [(.ref b23), (.long rr)]) (rest := []) (lenOf own_pd2 rfl) rfl (by show 2 * 0 + _ ≤ _; exact Nat.le_of_eq rfl) (hb hby at_257) (fun _ _ => ⟨rfl, e31, (by decide : 1 + 0 ≤ _), (by decide : 2 + 0 ≤ _)⟩)
    dsimp only [Pt.U, Pt.locs, Pt.cells, Pt.slots] at X32 l32 y32 z32 st32 hQ32
    subst l32 y32 z32
    obtain ⟨rfl, Nq32, e32⟩ := hQ32
    have N32 := Fr.app N31 Nq32
    obtain ⟨need, hv_need⟩ : ∃ z : Int64, z = ((pp.toInt64) * ((2 : Int32).toInt64)) := ⟨_, rfl⟩
    have g33 : ∀ t, Steps p.tables e below (T32.setTop (mkF m 269 #[.val (.int p1), .val (.int p2), .val (.long q3), .second, .val (.int p4), .val (.int (2 : Int32)), .val (.int pp), .val (.long bb), .second, .val (.long o1), .second, .val (.long o2), .second, .val (.long o3), .second, .val (.long o4), .second, .val (.long o5), .second, .val (.long o6), .second, .val (.long o7), .second, .val (.ref b23), .val (.long rr), .second, .val (.int le), .val (.int lt), .unset, .unset] [(.long need)])) t → Steps p.tables e below (s₁.setTop (entryFrame m #[(.int p1), (.int p2), (.long q3), (.int p4)] maxLocals)) t := by
      intro t k
      rw [hv_need] at k
      refine g26 t ?_
      show Steps p.tables e below (T25.setTop (mkF m 140 #[.val (.int p1), .val (.int p2), .val (.long q3), .second, .val (.int p4), .val (.int (2 : Int32)), .val (.int pp), .val (.long bb), .second, .val (.long o1), .second, .val (.long o2), .second, .val (.long o3), .second, .val (.long o4), .second, .val (.long o5), .second, .val (.long o6), .second, .val (.long o7), .second, .val (.ref b23), .unset, .unset, .unset, .unset, .unset, .unset] [(.long x1), (.int (1 : Int32)), (.ref b23)])) _
      refine st28 _ ?_
      refine XS.iload X28.here hx rfl (hb hby at_141) rfl ?_
      refine XS.iconst X28.here hx rfl (hb hby at_143) ?_
      refine XS.icmpYes X28.here hx rfl (pc0 := 144) (pc' := 156) rfl (hb hby at_144) rfl (flt (by decide : ¬ ((2 : Int32) < (2 : Int32)))).2.2.2 (by decide) (by decide) ?_
      show Steps p.tables e below (T28.setTop (mkF m 156 #[.val (.int p1), .val (.int p2), .val (.long q3), .second, .val (.int p4), .val (.int (2 : Int32)), .val (.int pp), .val (.long bb), .second, .val (.long o1), .second, .val (.long o2), .second, .val (.long o3), .second, .val (.long o4), .second, .val (.long o5), .second, .val (.long o6), .second, .val (.long o7), .second, .val (.ref b23), .unset, .unset, .unset, .unset, .unset, .unset] [])) _
      refine XS.iload X28.here hx rfl (hb hby at_156) rfl ?_
      refine XS.iconst X28.here hx rfl (hb hby at_158) ?_
      refine XS.icmpYes X28.here hx rfl (pc0 := 159) (pc' := 171) rfl (hb hby at_159) rfl (flt (by decide : ¬ ((3 : Int32) < (2 : Int32)))).2.2.2 (by decide) (by decide) ?_
      refine XS.iload X28.here hx rfl (hb hby at_171) rfl ?_
      show Steps p.tables e below (T28.setTop (mkF m 173 #[.val (.int p1), .val (.int p2), .val (.long q3), .second, .val (.int p4), .val (.int (2 : Int32)), .val (.int pp), .val (.long bb), .second, .val (.long o1), .second, .val (.long o2), .second, .val (.long o3), .second, .val (.long o4), .second, .val (.long o5), .second, .val (.long o6), .second, .val (.long o7), .second, .val (.ref b23), .unset, .unset, .unset, .unset, .unset, .unset] [(.int (2 : Int32))])) _
      refine XS.iconst X28.here hx rfl (hb hby at_173) ?_
      refine XS.icmpYes X28.here hx rfl (pc0 := 174) (pc' := 186) rfl (hb hby at_174) rfl (flt (by decide : ¬ ((4 : Int32) < (2 : Int32)))).2.2.2 (by decide) (by decide) ?_
      refine XS.iload X28.here hx rfl (hb hby at_186) rfl ?_
      refine XS.iconst X28.here hx rfl (hb hby at_188) ?_
      show Steps p.tables e below (T28.setTop (mkF m 189 #[.val (.int p1), .val (.int p2), .val (.long q3), .second, .val (.int p4), .val (.int (2 : Int32)), .val (.int pp), .val (.long bb), .second, .val (.long o1), .second, .val (.long o2), .second, .val (.long o3), .second, .val (.long o4), .second, .val (.long o5), .second, .val (.long o6), .second, .val (.long o7), .second, .val (.ref b23), .unset, .unset, .unset, .unset, .unset, .unset] [(.int (5 : Int32)), (.int (2 : Int32))])) _
      refine XS.icmpYes X28.here hx rfl (pc0 := 189) (pc' := 201) rfl (hb hby at_189) rfl (flt (by decide : ¬ ((5 : Int32) < (2 : Int32)))).2.2.2 (by decide) (by decide) ?_
      refine XS.iload X28.here hx rfl (hb hby at_201) rfl ?_
      refine XS.bipush X28.here hx rfl (hb hby at_203) ?_
      refine XS.icmpYes X28.here hx rfl (pc0 := 205) (pc' := 218) rfl (hb hby at_205) rfl (flt (by decide : ¬ ((6 : Int32) < (2 : Int32)))).2.2.2 (by decide) (by decide) ?_
      show Steps p.tables e below (T28.setTop (mkF m 218 #[.val (.int p1), .val (.int p2), .val (.long q3), .second, .val (.int p4), .val (.int (2 : Int32)), .val (.int pp), .val (.long bb), .second, .val (.long o1), .second, .val (.long o2), .second, .val (.long o3), .second, .val (.long o4), .second, .val (.long o5), .second, .val (.long o6), .second, .val (.long o7), .second, .val (.ref b23), .unset, .unset, .unset, .unset, .unset, .unset] [])) _
      refine XS.iload X28.here hx rfl (hb hby at_218) rfl ?_
      refine XS.bipush X28.here hx rfl (hb hby at_220) ?_
      refine XS.icmpYes X28.here hx rfl (pc0 := 222) (pc' := 235) rfl (hb hby at_222) rfl (flt (by decide : ¬ ((7 : Int32) < (2 : Int32)))).2.2.2 (by decide) (by decide) ?_
      refine XS.aload X28.here hx rfl (hb hby at_235) rfl rfl ?_
      show Steps p.tables e below (T28.setTop (mkF m 237 #[.val (.int p1), .val (.int p2), .val (.long q3), .second, .val (.int p4), .val (.int (2 : Int32)), .val (.int pp), .val (.long bb), .second, .val (.long o1), .second, .val (.long o2), .second, .val (.long o3), .second, .val (.long o4), .second, .val (.long o5), .second, .val (.long o6), .second, .val (.long o7), .second, .val (.ref b23), .unset, .unset, .unset, .unset, .unset, .unset] [(.ref b23)])) _
      refine XS.iload X28.here hx rfl (hb hby at_237) rfl ?_
      refine st30 _ ?_
      refine XS.lstore X30.here hx rfl (hb hby at_242) rfl (l' := #[.val (.int p1), .val (.int p2), .val (.long q3), .second, .val (.int p4), .val (.int (2 : Int32)), .val (.int pp), .val (.long bb), .second, .val (.long o1), .second, .val (.long o2), .second, .val (.long o3), .second, .val (.long o4), .second, .val (.long o5), .second, .val (.long o6), .second, .val (.long o7), .second, .val (.ref b23), .val (.long rr), .second, .unset, .unset, .unset, .unset]) rfl ?_
      refine XS.aload X30.here hx rfl (hb hby at_244) rfl rfl ?_
      show Steps p.tables e below (T30.setTop (mkF m 246 #[.val (.int p1), .val (.int p2), .val (.long q3), .second, .val (.int p4), .val (.int (2 : Int32)), .val (.int pp), .val (.long bb), .second, .val (.long o1), .second, .val (.long o2), .second, .val (.long o3), .second, .val (.long o4), .second, .val (.long o5), .second, .val (.long o6), .second, .val (.long o7), .second, .val (.ref b23), .val (.long rr), .second, .unset, .unset, .unset, .unset] [(.ref b23)])) _
      refine XS.lload X30.here hx rfl (hb hby at_246) rfl ?_
      refine st31 _ ?_
      refine XS.istore X31.here hx rfl (hb hby at_251) rfl (l' := #[.val (.int p1), .val (.int p2), .val (.long q3), .second, .val (.int p4), .val (.int (2 : Int32)), .val (.int pp), .val (.long bb), .second, .val (.long o1), .second, .val (.long o2), .second, .val (.long o3), .second, .val (.long o4), .second, .val (.long o5), .second, .val (.long o6), .second, .val (.long o7), .second, .val (.ref b23), .val (.long rr), .second, .val (.int le), .unset, .unset, .unset]) rfl ?_
      refine XS.aload X31.here hx rfl (hb hby at_253) rfl rfl ?_
      show Steps p.tables e below (T31.setTop (mkF m 255 #[.val (.int p1), .val (.int p2), .val (.long q3), .second, .val (.int p4), .val (.int (2 : Int32)), .val (.int pp), .val (.long bb), .second, .val (.long o1), .second, .val (.long o2), .second, .val (.long o3), .second, .val (.long o4), .second, .val (.long o5), .second, .val (.long o6), .second, .val (.long o7), .second, .val (.ref b23), .val (.long rr), .second, .val (.int le), .unset, .unset, .unset] [(.ref b23)])) _
      refine XS.lload X31.here hx rfl (hb hby at_255) rfl ?_
      refine st32 _ ?_
      refine XS.istore X32.here hx rfl (hb hby at_260) rfl (l' := #[.val (.int p1), .val (.int p2), .val (.long q3), .second, .val (.int p4), .val (.int (2 : Int32)), .val (.int pp), .val (.long bb), .second, .val (.long o1), .second, .val (.long o2), .second, .val (.long o3), .second, .val (.long o4), .second, .val (.long o5), .second, .val (.long o6), .second, .val (.long o7), .second, .val (.ref b23), .val (.long rr), .second, .val (.int le), .val (.int lt), .unset, .unset]) rfl ?_
      refine XS.iload X32.here hx rfl (hb hby at_262) rfl ?_
      show Steps p.tables e below (T32.setTop (mkF m 264 #[.val (.int p1), .val (.int p2), .val (.long q3), .second, .val (.int p4), .val (.int (2 : Int32)), .val (.int pp), .val (.long bb), .second, .val (.long o1), .second, .val (.long o2), .second, .val (.long o3), .second, .val (.long o4), .second, .val (.long o5), .second, .val (.long o6), .second, .val (.long o7), .second, .val (.ref b23), .val (.long rr), .second, .val (.int le), .val (.int lt), .unset, .unset] [(.int pp)])) _
      refine XS.i2l X32.here hx rfl (hb hby at_264) rfl ?_
      refine XS.iload X32.here hx rfl (hb hby at_265) rfl ?_
      refine XS.i2l X32.here hx rfl (hb hby at_267) rfl ?_
      refine XS.lmul X32.here hx rfl (hb hby at_268) rfl ?_
      exact k
    have hbd := own_b _ _ hbb
    have ko1 := own_o1 _ _ hv_o1
    have ko2 := own_o _ _ _ 3 (by decide) ⟨ko1.1, ko1.2⟩ hv_o2
    have zo2 : 0 ≤ o2.toInt := by omega
    have ko3 := own_o _ _ _ 6 (by decide) ⟨zo2, ko2.2⟩ hv_o3
    have zo3 : 0 ≤ o3.toInt := by omega
    have ko4 := own_o _ _ _ 9 (by decide) ⟨zo3, ko3.2⟩ hv_o4
    have zo4 : 0 ≤ o4.toInt := by omega
    have ko5 := own_o _ _ _ 12 (by decide) ⟨zo4, ko4.2⟩ hv_o5
    have zo5 : 0 ≤ o5.toInt := by omega
    have ko6 := own_o _ _ _ 15 (by decide) ⟨zo5, ko5.2⟩ hv_o6
    have zo6 : 0 ≤ o6.toInt := by omega
    have ko7 := own_o _ _ _ 18 (by decide) ⟨zo6, ko6.2⟩ hv_o7
    have zo7 : 0 ≤ o7.toInt := by omega
    have yx1 := own_x _ _ _ hbd ⟨by omega, by omega⟩ hv_x1
    have hsrt : own_srt [bb, x1] := by
      simp only [own_srt, List.mem_cons, List.not_mem_nil, or_false, forall_eq_or_imp, forall_eq, false_implies, implies_true, and_true, true_and]
      omega
    rw [hrr] at hle hlt
    obtain ⟨fin1, fin2⟩ := own_fin [bb, x1] (2 : Int32) pp j le lt need 2 (by decide) (by rfl) (by decide) (by decide) hpp hsrt jz jn j2 j3 hle hlt hv_need
    have hc34 : ¬ (((100 : Int64) * (le.toInt64)) < need) := fin1
    have hc35 : ((100 : Int64) * (lt.toInt64)) < need := fin2
    have g36 : ∀ t, Steps p.tables e below (T32.setTop (mkF m 302 #[.val (.int p1), .val (.int p2), .val (.long q3), .second, .val (.int p4), .val (.int (2 : Int32)), .val (.int pp), .val (.long bb), .second, .val (.long o1), .second, .val (.long o2), .second, .val (.long o3), .second, .val (.long o4), .second, .val (.long o5), .second, .val (.long o6), .second, .val (.long o7), .second, .val (.ref b23), .val (.long rr), .second, .val (.int le), .val (.int lt), .val (.long need), .second] [(.int (1 : Int32))])) t → Steps p.tables e below (s₁.setTop (entryFrame m #[(.int p1), (.int p2), (.long q3), (.int p4)] maxLocals)) t := by
      intro t k
      refine g33 t ?_
      show Steps p.tables e below (T32.setTop (mkF m 269 #[.val (.int p1), .val (.int p2), .val (.long q3), .second, .val (.int p4), .val (.int (2 : Int32)), .val (.int pp), .val (.long bb), .second, .val (.long o1), .second, .val (.long o2), .second, .val (.long o3), .second, .val (.long o4), .second, .val (.long o5), .second, .val (.long o6), .second, .val (.long o7), .second, .val (.ref b23), .val (.long rr), .second, .val (.int le), .val (.int lt), .unset, .unset] [(.long need)])) _
      refine XS.lstore X32.here hx rfl (hb hby at_269) rfl (l' := #[.val (.int p1), .val (.int p2), .val (.long q3), .second, .val (.int p4), .val (.int (2 : Int32)), .val (.int pp), .val (.long bb), .second, .val (.long o1), .second, .val (.long o2), .second, .val (.long o3), .second, .val (.long o4), .second, .val (.long o5), .second, .val (.long o6), .second, .val (.long o7), .second, .val (.ref b23), .val (.long rr), .second, .val (.int le), .val (.int lt), .val (.long need), .second]) rfl ?_
      refine X32.ldc2Long hx hown (mvT hZ (hw _ (List.mem_of_getElem? (i := 20) rfl))) (g := (mkF m 271 #[.val (.int p1), .val (.int p2), .val (.long q3), .second, .val (.int p4), .val (.int (2 : Int32)), .val (.int pp), .val (.long bb), .second, .val (.long o1), .second, .val (.long o2), .second, .val (.long o3), .second, .val (.long o4), .second, .val (.long o5), .second, .val (.long o6), .second, .val (.long o7), .second, .val (.ref b23), .val (.long rr), .second, .val (.int le), .val (.int lt), .val (.long need), .second] [])) rfl (hb hby at_271) _ ?_
      refine XS.iload X32.here hx rfl (hb hby at_274) rfl ?_
      refine XS.i2l X32.here hx rfl (hb hby at_276) rfl ?_
      show Steps p.tables e below (T32.setTop (mkF m 277 #[.val (.int p1), .val (.int p2), .val (.long q3), .second, .val (.int p4), .val (.int (2 : Int32)), .val (.int pp), .val (.long bb), .second, .val (.long o1), .second, .val (.long o2), .second, .val (.long o3), .second, .val (.long o4), .second, .val (.long o5), .second, .val (.long o6), .second, .val (.long o7), .second, .val (.ref b23), .val (.long rr), .second, .val (.int le), .val (.int lt), .val (.long need), .second] [(.long (le.toInt64)), (.long (100 : Int64))])) _
      refine XS.lmul X32.here hx rfl (hb hby at_277) rfl ?_
      refine XS.lload X32.here hx rfl (hb hby at_278) rfl ?_
      refine XS.lcmp X32.here hx rfl (hb hby at_280) rfl ?_
      refine XS.ifNo X32.here hx rfl (hb hby at_281) rfl ((if0 _ _).trans (flt (fun q => hc34 ((lw_lt _ _).mp q))).1) ?_
      show Steps p.tables e below (T32.setTop (mkF m 284 #[.val (.int p1), .val (.int p2), .val (.long q3), .second, .val (.int p4), .val (.int (2 : Int32)), .val (.int pp), .val (.long bb), .second, .val (.long o1), .second, .val (.long o2), .second, .val (.long o3), .second, .val (.long o4), .second, .val (.long o5), .second, .val (.long o6), .second, .val (.long o7), .second, .val (.ref b23), .val (.long rr), .second, .val (.int le), .val (.int lt), .val (.long need), .second] [])) _
      refine X32.ldc2Long hx hown (mvT hZ (hw _ (List.mem_of_getElem? (i := 20) rfl))) (g := (mkF m 284 #[.val (.int p1), .val (.int p2), .val (.long q3), .second, .val (.int p4), .val (.int (2 : Int32)), .val (.int pp), .val (.long bb), .second, .val (.long o1), .second, .val (.long o2), .second, .val (.long o3), .second, .val (.long o4), .second, .val (.long o5), .second, .val (.long o6), .second, .val (.long o7), .second, .val (.ref b23), .val (.long rr), .second, .val (.int le), .val (.int lt), .val (.long need), .second] [])) rfl (hb hby at_284) _ ?_
      refine XS.iload X32.here hx rfl (hb hby at_287) rfl ?_
      refine XS.i2l X32.here hx rfl (hb hby at_289) rfl ?_
      refine XS.lmul X32.here hx rfl (hb hby at_290) rfl ?_
      show Steps p.tables e below (T32.setTop (mkF m 291 #[.val (.int p1), .val (.int p2), .val (.long q3), .second, .val (.int p4), .val (.int (2 : Int32)), .val (.int pp), .val (.long bb), .second, .val (.long o1), .second, .val (.long o2), .second, .val (.long o3), .second, .val (.long o4), .second, .val (.long o5), .second, .val (.long o6), .second, .val (.long o7), .second, .val (.ref b23), .val (.long rr), .second, .val (.int le), .val (.int lt), .val (.long need), .second] [(.long ((100 : Int64) * (lt.toInt64)))])) _
      refine XS.lload X32.here hx rfl (hb hby at_291) rfl ?_
      refine XS.lcmp X32.here hx rfl (hb hby at_293) rfl ?_
      refine XS.ifNo X32.here hx rfl (hb hby at_294) rfl ((if0 _ _).trans (tlt ((lw_lt _ _).mpr hc35)).2.1) ?_
      refine XS.iconst X32.here hx rfl (hb hby at_297) ?_
      show Steps p.tables e below (T32.setTop (mkF m 298 #[.val (.int p1), .val (.int p2), .val (.long q3), .second, .val (.int p4), .val (.int (2 : Int32)), .val (.int pp), .val (.long bb), .second, .val (.long o1), .second, .val (.long o2), .second, .val (.long o3), .second, .val (.long o4), .second, .val (.long o5), .second, .val (.long o6), .second, .val (.long o7), .second, .val (.ref b23), .val (.long rr), .second, .val (.int le), .val (.int lt), .val (.long need), .second] [(.int (1 : Int32))])) _
      refine XS.goto X32.here hx rfl (pc0 := 298) (pc' := 302) rfl (hb hby at_298) (by decide) (by decide) ?_
      exact k
    obtain ⟨fs, hrt, hrun, hended, hW, hsame⟩ := X32.leave (v := some (.int (1 : Int32))) (fun h => by rw [Bd.returns] at h; cases h)
    refine ⟨_, _, g36 _ ?_, hrun, hended, _, _, rfl, ?_, ⟨_, rfl⟩, hW, hsame.mono (by decide) (by decide)⟩
    · show Steps p.tables e below (T32.setTop (mkF m 302 #[.val (.int p1), .val (.int p2), .val (.long q3), .second, .val (.int p4), .val (.int (2 : Int32)), .val (.int pp), .val (.long bb), .second, .val (.long o1), .second, .val (.long o2), .second, .val (.long o3), .second, .val (.long o4), .second, .val (.long o5), .second, .val (.long o6), .second, .val (.long o7), .second, .val (.ref b23), .val (.long rr), .second, .val (.int le), .val (.int lt), .val (.long need), .second] [(.int (1 : Int32))])) _
      exact retN X32 hx (t := .boolean) Bd.returns (by simp) (hb hby at_302) hrt
    · show own_Q_rm0 Z p1 p2 q3 p4 h0 n0 _ T32.heap _
      rw [e32]
      exact ⟨rfl, N32⟩
  · skip
    obtain ⟨T37, h37, k37, X37, e37, E37, A37, st37⟩ := newP X3 hx hZ (hw _ (List.mem_of_getElem? (i := 6) rfl)) e3 (g := (mkF m 116 #[.val (.int p1), .val (.int p2), .val (.long q3), .second, .val (.int p4), .val (.int (3 : Int32)), .val (.int pp), .val (.long bb), .second, .val (.long o1), .second, .val (.long o2), .second, .val (.long o3), .second, .val (.long o4), .second, .val (.long o5), .second, .val (.long o6), .second, .val (.long o7), .second, .unset, .unset, .unset, .unset, .unset, .unset, .unset] [(.int (3 : Int32))])) rfl (hb hby at_116) rfl (by decide) (cap := 3) (by decide) (by decide) (by decide) (by decide)
    obtain ⟨b37, q_b37⟩ : ∃ z, z = h0.size := ⟨_, rfl⟩
    rw [← q_b37] at A37 st37
    have sz_b37 : h0.size ≤ b37 := Nat.le_of_eq q_b37.symm
    have gz_b37 : n0 ≤ b37 := Nat.le_trans Z0 sz_b37
    have V37 : Arv Z h37 b37 k37 .long (3 : Int32) [(.long (0 : Int64)), (.long (0 : Int64)), (.long (0 : Int64))] (.long (0 : Int64)) := (Arv.new A37 (by decide)).pad (pad_rep [] (.long (0 : Int64)) 3)
    obtain ⟨c38, Ar38, cq38, S38, Nn38, Hh38, Gg38⟩ := id V37
    have hin38 : ¬ ((0 : Int32) < 0 ∨ c38.slots.size ≤ ((0 : Int32)).toNatClampNeg) := inb_of S38 ⟨by decide, by decide⟩
    obtain ⟨T39, h39, X39, e39, W39, st39⟩ := stJ X37 hx hZ e37 Ar38 (j := (0 : Int32)) hin38 (g := (mkF m 125 #[.val (.int p1), .val (.int p2), .val (.long q3), .second, .val (.int p4), .val (.int (3 : Int32)), .val (.int pp), .val (.long bb), .second, .val (.long o1), .second, .val (.long o2), .second, .val (.long o3), .second, .val (.long o4), .second, .val (.long o5), .second, .val (.long o6), .second, .val (.long o7), .second, .val (.ref b37), .unset, .unset, .unset, .unset, .unset, .unset] [(.long bb), (.int (0 : Int32)), (.ref b37)])) rfl rfl (hb hby at_125)
    have V39 := Arv.set Ar38 cq38 S38 Nn38 Hh38 Gg38 rfl W39 0 rfl (Nat.le_of_ble_eq_true rfl)
    have V39a : Arv Z h39 b37 k37 .long (3 : Int32) [(.long bb), (.long (0 : Int64)), (.long (0 : Int64))] (.long (0 : Int64)) := V39
    have N39 := Fr.snoc X39 N3 gz_b37
    obtain ⟨x1, hv_x1⟩ : ∃ z : Int64, z = (bb + o1) := ⟨_, rfl⟩
    have g40 : ∀ t, Steps p.tables e below (T39.setTop (mkF m 140 #[.val (.int p1), .val (.int p2), .val (.long q3), .second, .val (.int p4), .val (.int (3 : Int32)), .val (.int pp), .val (.long bb), .second, .val (.long o1), .second, .val (.long o2), .second, .val (.long o3), .second, .val (.long o4), .second, .val (.long o5), .second, .val (.long o6), .second, .val (.long o7), .second, .val (.ref b37), .unset, .unset, .unset, .unset, .unset, .unset] [(.long x1), (.int (1 : Int32)), (.ref b37)])) t → Steps p.tables e below (s₁.setTop (entryFrame m #[(.int p1), (.int p2), (.long q3), (.int p4)] maxLocals)) t := by
      intro t k
      rw [hv_x1] at k
      refine g11 t ?_
      show Steps p.tables e below (T3.setTop (mkF m 114 #[.val (.int p1), .val (.int p2), .val (.long q3), .second, .val (.int p4), .val (.int (3 : Int32)), .val (.int pp), .val (.long bb), .second, .val (.long o1), .second, .val (.long o2), .second, .val (.long o3), .second, .val (.long o4), .second, .val (.long o5), .second, .val (.long o6), .second, .val (.long o7), .second, .unset, .unset, .unset, .unset, .unset, .unset, .unset] [])) _
      refine XS.iload X3.here hx rfl (hb hby at_114) rfl ?_
      refine st37 _ ?_
      refine XS.astore X37.here hx rfl (hb hby at_118) rfl rfl (l' := #[.val (.int p1), .val (.int p2), .val (.long q3), .second, .val (.int p4), .val (.int (3 : Int32)), .val (.int pp), .val (.long bb), .second, .val (.long o1), .second, .val (.long o2), .second, .val (.long o3), .second, .val (.long o4), .second, .val (.long o5), .second, .val (.long o6), .second, .val (.long o7), .second, .val (.ref b37), .unset, .unset, .unset, .unset, .unset, .unset]) rfl ?_
      refine XS.aload X37.here hx rfl (hb hby at_120) rfl rfl ?_
      show Steps p.tables e below (T37.setTop (mkF m 122 #[.val (.int p1), .val (.int p2), .val (.long q3), .second, .val (.int p4), .val (.int (3 : Int32)), .val (.int pp), .val (.long bb), .second, .val (.long o1), .second, .val (.long o2), .second, .val (.long o3), .second, .val (.long o4), .second, .val (.long o5), .second, .val (.long o6), .second, .val (.long o7), .second, .val (.ref b37), .unset, .unset, .unset, .unset, .unset, .unset] [(.ref b37)])) _
      refine XS.iconst X37.here hx rfl (hb hby at_122) ?_
      refine XS.lload X37.here hx rfl (hb hby at_123) rfl ?_
      refine st39 _ ?_
      refine XS.iload X39.here hx rfl (hb hby at_126) rfl ?_
      show Steps p.tables e below (T39.setTop (mkF m 128 #[.val (.int p1), .val (.int p2), .val (.long q3), .second, .val (.int p4), .val (.int (3 : Int32)), .val (.int pp), .val (.long bb), .second, .val (.long o1), .second, .val (.long o2), .second, .val (.long o3), .second, .val (.long o4), .second, .val (.long o5), .second, .val (.long o6), .second, .val (.long o7), .second, .val (.ref b37), .unset, .unset, .unset, .unset, .unset, .unset] [(.int (3 : Int32))])) _
      refine XS.iconst X39.here hx rfl (hb hby at_128) ?_
      refine XS.icmpNo X39.here hx rfl (hb hby at_129) rfl (tlt (by decide : (1 : Int32) < (3 : Int32))).2.2.2 ?_
      refine XS.aload X39.here hx rfl (hb hby at_132) rfl rfl ?_
      refine XS.iconst X39.here hx rfl (hb hby at_134) ?_
      show Steps p.tables e below (T39.setTop (mkF m 135 #[.val (.int p1), .val (.int p2), .val (.long q3), .second, .val (.int p4), .val (.int (3 : Int32)), .val (.int pp), .val (.long bb), .second, .val (.long o1), .second, .val (.long o2), .second, .val (.long o3), .second, .val (.long o4), .second, .val (.long o5), .second, .val (.long o6), .second, .val (.long o7), .second, .val (.ref b37), .unset, .unset, .unset, .unset, .unset, .unset] [(.int (1 : Int32)), (.ref b37)])) _
      refine XS.lload X39.here hx rfl (hb hby at_135) rfl ?_
      refine XS.lload X39.here hx rfl (hb hby at_137) rfl ?_
      refine XS.ladd X39.here hx rfl (hb hby at_139) rfl ?_
      exact k
    obtain ⟨c41, Ar41, cq41, S41, Nn41, Hh41, Gg41⟩ := id V39a
    have hin41 : ¬ ((1 : Int32) < 0 ∨ c41.slots.size ≤ ((1 : Int32)).toNatClampNeg) := inb_of S41 ⟨by decide, by decide⟩
    obtain ⟨T42, h42, X42, e42, W42, st42⟩ := stJ X39 hx hZ e39 Ar41 (j := (1 : Int32)) hin41 (g := (mkF m 140 #[.val (.int p1), .val (.int p2), .val (.long q3), .second, .val (.int p4), .val (.int (3 : Int32)), .val (.int pp), .val (.long bb), .second, .val (.long o1), .second, .val (.long o2), .second, .val (.long o3), .second, .val (.long o4), .second, .val (.long o5), .second, .val (.long o6), .second, .val (.long o7), .second, .val (.ref b37), .unset, .unset, .unset, .unset, .unset, .unset] [(.long x1), (.int (1 : Int32)), (.ref b37)])) rfl rfl (hb hby at_140)
    have V42 := Arv.set Ar41 cq41 S41 Nn41 Hh41 Gg41 rfl W42 1 rfl (Nat.le_of_ble_eq_true rfl)
    have V42a : Arv Z h42 b37 k37 .long (3 : Int32) [(.long bb), (.long x1), (.long (0 : Int64))] (.long (0 : Int64)) := V42
    have N42 := Fr.snoc X42 N39 gz_b37
    obtain ⟨x2, hv_x2⟩ : ∃ z : Int64, z = (bb + o2) := ⟨_, rfl⟩
    have g43 : ∀ t, Steps p.tables e below (T42.setTop (mkF m 155 #[.val (.int p1), .val (.int p2), .val (.long q3), .second, .val (.int p4), .val (.int (3 : Int32)), .val (.int pp), .val (.long bb), .second, .val (.long o1), .second, .val (.long o2), .second, .val (.long o3), .second, .val (.long o4), .second, .val (.long o5), .second, .val (.long o6), .second, .val (.long o7), .second, .val (.ref b37), .unset, .unset, .unset, .unset, .unset, .unset] [(.long x2), (.int (2 : Int32)), (.ref b37)])) t → Steps p.tables e below (s₁.setTop (entryFrame m #[(.int p1), (.int p2), (.long q3), (.int p4)] maxLocals)) t := by
      intro t k
      rw [hv_x2] at k
      refine g40 t ?_
      show Steps p.tables e below (T39.setTop (mkF m 140 #[.val (.int p1), .val (.int p2), .val (.long q3), .second, .val (.int p4), .val (.int (3 : Int32)), .val (.int pp), .val (.long bb), .second, .val (.long o1), .second, .val (.long o2), .second, .val (.long o3), .second, .val (.long o4), .second, .val (.long o5), .second, .val (.long o6), .second, .val (.long o7), .second, .val (.ref b37), .unset, .unset, .unset, .unset, .unset, .unset] [(.long x1), (.int (1 : Int32)), (.ref b37)])) _
      refine st42 _ ?_
      refine XS.iload X42.here hx rfl (hb hby at_141) rfl ?_
      refine XS.iconst X42.here hx rfl (hb hby at_143) ?_
      refine XS.icmpNo X42.here hx rfl (hb hby at_144) rfl (tlt (by decide : (2 : Int32) < (3 : Int32))).2.2.2 ?_
      show Steps p.tables e below (T42.setTop (mkF m 147 #[.val (.int p1), .val (.int p2), .val (.long q3), .second, .val (.int p4), .val (.int (3 : Int32)), .val (.int pp), .val (.long bb), .second, .val (.long o1), .second, .val (.long o2), .second, .val (.long o3), .second, .val (.long o4), .second, .val (.long o5), .second, .val (.long o6), .second, .val (.long o7), .second, .val (.ref b37), .unset, .unset, .unset, .unset, .unset, .unset] [])) _
      refine XS.aload X42.here hx rfl (hb hby at_147) rfl rfl ?_
      refine XS.iconst X42.here hx rfl (hb hby at_149) ?_
      refine XS.lload X42.here hx rfl (hb hby at_150) rfl ?_
      refine XS.lload X42.here hx rfl (hb hby at_152) rfl ?_
      show Steps p.tables e below (T42.setTop (mkF m 154 #[.val (.int p1), .val (.int p2), .val (.long q3), .second, .val (.int p4), .val (.int (3 : Int32)), .val (.int pp), .val (.long bb), .second, .val (.long o1), .second, .val (.long o2), .second, .val (.long o3), .second, .val (.long o4), .second, .val (.long o5), .second, .val (.long o6), .second, .val (.long o7), .second, .val (.ref b37), .unset, .unset, .unset, .unset, .unset, .unset] [(.long o2), (.long bb), (.int (2 : Int32)), (.ref b37)])) _
      refine XS.ladd X42.here hx rfl (hb hby at_154) rfl ?_
      exact k
    obtain ⟨c44, Ar44, cq44, S44, Nn44, Hh44, Gg44⟩ := id V42a
    have hin44 : ¬ ((2 : Int32) < 0 ∨ c44.slots.size ≤ ((2 : Int32)).toNatClampNeg) := inb_of S44 ⟨by decide, by decide⟩
    obtain ⟨T45, h45, X45, e45, W45, st45⟩ := stJ X42 hx hZ e42 Ar44 (j := (2 : Int32)) hin44 (g := (mkF m 155 #[.val (.int p1), .val (.int p2), .val (.long q3), .second, .val (.int p4), .val (.int (3 : Int32)), .val (.int pp), .val (.long bb), .second, .val (.long o1), .second, .val (.long o2), .second, .val (.long o3), .second, .val (.long o4), .second, .val (.long o5), .second, .val (.long o6), .second, .val (.long o7), .second, .val (.ref b37), .unset, .unset, .unset, .unset, .unset, .unset] [(.long x2), (.int (2 : Int32)), (.ref b37)])) rfl rfl (hb hby at_155)
    have V45 := Arv.set Ar44 cq44 S44 Nn44 Hh44 Gg44 rfl W45 2 rfl (Nat.le_of_ble_eq_true rfl)
    have V45a : Arv Z h45 b37 k37 .long (3 : Int32) [(.long bb), (.long x1), (.long x2)] (.long (0 : Int64)) := V45
    have N45 := Fr.snoc X45 N42 gz_b37
    have o46 : Old Z n0 h45 := (Old.wr (Old.wr (Old.wr (Old.ext O0 E37) W39 gz_b37) W42 gz_b37) W45 gz_b37)
    have hpp := own_p _ _ hv_pp
    obtain ⟨j, hj, jz, jn, j2, j3⟩ := own_pct (3 : Int32) pp 3 (by decide) (by decide) (by decide) hpp
    have hj0 : ¬ j < 0 := by rw [Int32.lt_iff_toInt_lt, show (0 : Int32).toInt = 0 by decide]; omega
    have hj1 : j < (3 : Int32) := by rw [Int32.lt_iff_toInt_lt, show (3 : Int32).toInt = 3 by decide]; omega
    have hjl : j.toNatClampNeg < ([bb, x1, x2] : List Int64).length := by simp only [Int32.toNatClampNeg, List.length_cons, List.length_nil]; omega
    have hjr := own_getD [bb, x1, x2] j.toNatClampNeg hjl
    obtain ⟨rr, hrr⟩ : ∃ z : Int64, z = ([bb, x1, x2] : List Int64).getD j.toNatClampNeg 0 := ⟨_, rfl⟩
    rw [← hrr] at hjr
    obtain ⟨_, _, ⟨T47, L47, k47, n47⟩, -, X47, ⟨Lc47, hQ47, l47, y47, z47⟩, st47⟩ := Jvm.LawKit.callS X45 hx (y := (⟨"orderwire/bench/Latency", "percentile", "([JI)J"⟩ : MethodName)) hown (mvT hZ (hw _ (List.mem_of_getElem? (i := 7) rfl))) (mvT hZ (hw _ (List.mem_of_getElem? (i := 8) rfl))) (mvT hZ (hw _ (List.mem_of_getElem? (i := 9) rfl))) (mvT hZ (hw _ (List.mem_of_getElem? (i := 10) rfl))) (by decide) (backOf (W := 0) (rmPct3 l Z a0 hw [] b37 k37 bb x1 x2 rr pp j h45 n0 o46 V45a hj hj0 hj1 hjr) hZ (hw _ (List.mem_of_getElem? (i := 10) rfl)) (hw _ (List.mem_of_getElem? (i := 9) rfl)) (by decide) (by decide)) (g := (mkF m 239 #[.val (.int p1), .val (.int p2), .val (.long q3), .second, .val (.int p4), .val (.int (3 : Int32)), .val (.int pp), .val (.long bb), .second, .val (.long o1), .second, .val (.long o2), .second, .val (.long o3), .second, .val (.long o4), .second, .val (.long o5), .second, .val (.long o6), .second, .val (.long o7), .second, .val (.ref b37), .unset, .unset, .unset, .unset, .unset, .unset] [(.int pp), (.ref b37)])) rfl (by rw [hml]; rfl) (argsL := [(.ref b37), (.int pp)]) (rest := []) (lenOf own_pd1 rfl) rfl (by show 2 * 0 + _ ≤ _; exact Nat.le_of_eq rfl) (hb hby at_239) (fun _ _ => ⟨rfl, e45, (by decide : 1 + 0 ≤ _), (by decide : 3 + 0 ≤ _)⟩)
    dsimp only [Pt.U, Pt.locs, Pt.cells, Pt.slots] at X47 l47 y47 z47 st47 hQ47
    subst l47 y47 z47
    obtain ⟨rfl, Nq47, e47⟩ := hQ47
    have N47 := Fr.app N45 Nq47
    obtain ⟨le, hle⟩ : ∃ z : Int32, own_cle rr [bb, x1, x2] 0 = z := ⟨_, rfl⟩
    obtain ⟨_, _, ⟨T48, L48, k48, n48⟩, -, X48, ⟨Lc48, hQ48, l48, y48, z48⟩, st48⟩ := Jvm.LawKit.callS X47 hx (y := (⟨"orderwire/bench/LatencyPercentilePinLaw", "countLe", "([JJ)I"⟩ : MethodName)) hown (mvT hZ (hw _ (List.mem_of_getElem? (i := 13) rfl))) (mvT hZ (hw _ (List.mem_of_getElem? (i := 14) rfl))) (mvT hZ (hw _ (List.mem_of_getElem? (i := 15) rfl))) (mvT hZ (hw _ (List.mem_of_getElem? (i := 16) rfl))) (by decide) (backOf (W := 0) (rmcountLe3 l Z a0 hw [] b37 k37 bb x1 x2 rr le h45 n0 o46 V45a hle) hZ (hw _ (List.mem_of_getElem? (i := 16) rfl)) (hw _ (List.mem_of_getElem? (i := 15) rfl)) (by decide) (by decide)) (g := (mkF m 248 #[.val (.int p1), .val (.int p2), .val (.long q3), .second, .val (.int p4), .val (.int (3 : Int32)), .val (.int pp), .val (.long bb), .second, .val (.long o1), .second, .val (.long o2), .second, .val (.long o3), .second, .val (.long o4), .second, .val (.long o5), .second, .val (.long o6), .second, .val (.long o7), .second, .val (.ref b37), .val (.long rr), .second, .unset, .unset, .unset, .unset] [(.long rr), (.ref b37)])) rfl (by rw [hml]; rfl) (argsL := [(.ref b37), (.long rr)]) (rest := []) (lenOf own_pd2 rfl) rfl (by show 2 * 0 + _ ≤ _; exact Nat.le_of_eq rfl) (hb hby at_248) (fun _ _ => ⟨rfl, e47, (by decide : 1 + 0 ≤ _), (by decide : 3 + 0 ≤ _)⟩)
    dsimp only [Pt.U, Pt.locs, Pt.cells, Pt.slots] at X48 l48 y48 z48 st48 hQ48
    subst l48 y48 z48
    obtain ⟨rfl, Nq48, e48⟩ := hQ48
    have N48 := Fr.app N47 Nq48
    obtain ⟨lt, hlt⟩ : ∃ z : Int32, own_clt rr [bb, x1, x2] 0 = z := ⟨_, rfl⟩
    obtain ⟨_, _, ⟨T49, L49, k49, n49⟩, -, X49, ⟨Lc49, hQ49, l49, y49, z49⟩, st49⟩ := Jvm.LawKit.callS X48 hx (y := (⟨"orderwire/bench/LatencyPercentilePinLaw", "countLt", "([JJ)I"⟩ : MethodName)) hown (mvT hZ (hw _ (List.mem_of_getElem? (i := 17) rfl))) (mvT hZ (hw _ (List.mem_of_getElem? (i := 18) rfl))) (mvT hZ (hw _ (List.mem_of_getElem? (i := 15) rfl))) (mvT hZ (hw _ (List.mem_of_getElem? (i := 19) rfl))) (by decide) (backOf (W := 0) (rmcountLt3 l Z a0 hw [] b37 k37 bb x1 x2 rr lt h45 n0 o46 V45a hlt) hZ (hw _ (List.mem_of_getElem? (i := 19) rfl)) (hw _ (List.mem_of_getElem? (i := 15) rfl)) (by decide) (by decide)) (g := (mkF m 257 #[.val (.int p1), .val (.int p2), .val (.long q3), .second, .val (.int p4), .val (.int (3 : Int32)), .val (.int pp), .val (.long bb), .second, .val (.long o1), .second, .val (.long o2), .second, .val (.long o3), .second, .val (.long o4), .second, .val (.long o5), .second, .val (.long o6), .second, .val (.long o7), .second, .val (.ref b37), .val (.long rr), .second, .val (.int le), .unset, .unset, .unset] [(.long rr), (.ref b37)])) rfl (by rw [hml]; rfl) (argsL := [(.ref b37), (.long rr)]) (rest := []) (lenOf own_pd2 rfl) rfl (by show 2 * 0 + _ ≤ _; exact Nat.le_of_eq rfl) (hb hby at_257) (fun _ _ => ⟨rfl, e48, (by decide : 1 + 0 ≤ _), (by decide : 3 + 0 ≤ _)⟩)
    dsimp only [Pt.U, Pt.locs, Pt.cells, Pt.slots] at X49 l49 y49 z49 st49 hQ49
    subst l49 y49 z49
    obtain ⟨rfl, Nq49, e49⟩ := hQ49
    have N49 := Fr.app N48 Nq49
    obtain ⟨need, hv_need⟩ : ∃ z : Int64, z = ((pp.toInt64) * ((3 : Int32).toInt64)) := ⟨_, rfl⟩
    have g50 : ∀ t, Steps p.tables e below (T49.setTop (mkF m 269 #[.val (.int p1), .val (.int p2), .val (.long q3), .second, .val (.int p4), .val (.int (3 : Int32)), .val (.int pp), .val (.long bb), .second, .val (.long o1), .second, .val (.long o2), .second, .val (.long o3), .second, .val (.long o4), .second, .val (.long o5), .second, .val (.long o6), .second, .val (.long o7), .second, .val (.ref b37), .val (.long rr), .second, .val (.int le), .val (.int lt), .unset, .unset] [(.long need)])) t → Steps p.tables e below (s₁.setTop (entryFrame m #[(.int p1), (.int p2), (.long q3), (.int p4)] maxLocals)) t := by
      intro t k
      rw [hv_need] at k
      refine g43 t ?_
      show Steps p.tables e below (T42.setTop (mkF m 155 #[.val (.int p1), .val (.int p2), .val (.long q3), .second, .val (.int p4), .val (.int (3 : Int32)), .val (.int pp), .val (.long bb), .second, .val (.long o1), .second, .val (.long o2), .second, .val (.long o3), .second, .val (.long o4), .second, .val (.long o5), .second, .val (.long o6), .second, .val (.long o7), .second, .val (.ref b37), .unset, .unset, .unset, .unset, .unset, .unset] [(.long x2), (.int (2 : Int32)), (.ref b37)])) _
      refine st45 _ ?_
      refine XS.iload X45.here hx rfl (hb hby at_156) rfl ?_
      refine XS.iconst X45.here hx rfl (hb hby at_158) ?_
      refine XS.icmpYes X45.here hx rfl (pc0 := 159) (pc' := 171) rfl (hb hby at_159) rfl (flt (by decide : ¬ ((3 : Int32) < (3 : Int32)))).2.2.2 (by decide) (by decide) ?_
      show Steps p.tables e below (T45.setTop (mkF m 171 #[.val (.int p1), .val (.int p2), .val (.long q3), .second, .val (.int p4), .val (.int (3 : Int32)), .val (.int pp), .val (.long bb), .second, .val (.long o1), .second, .val (.long o2), .second, .val (.long o3), .second, .val (.long o4), .second, .val (.long o5), .second, .val (.long o6), .second, .val (.long o7), .second, .val (.ref b37), .unset, .unset, .unset, .unset, .unset, .unset] [])) _
      refine XS.iload X45.here hx rfl (hb hby at_171) rfl ?_
      refine XS.iconst X45.here hx rfl (hb hby at_173) ?_
      refine XS.icmpYes X45.here hx rfl (pc0 := 174) (pc' := 186) rfl (hb hby at_174) rfl (flt (by decide : ¬ ((4 : Int32) < (3 : Int32)))).2.2.2 (by decide) (by decide) ?_
      refine XS.iload X45.here hx rfl (hb hby at_186) rfl ?_
      show Steps p.tables e below (T45.setTop (mkF m 188 #[.val (.int p1), .val (.int p2), .val (.long q3), .second, .val (.int p4), .val (.int (3 : Int32)), .val (.int pp), .val (.long bb), .second, .val (.long o1), .second, .val (.long o2), .second, .val (.long o3), .second, .val (.long o4), .second, .val (.long o5), .second, .val (.long o6), .second, .val (.long o7), .second, .val (.ref b37), .unset, .unset, .unset, .unset, .unset, .unset] [(.int (3 : Int32))])) _
      refine XS.iconst X45.here hx rfl (hb hby at_188) ?_
      refine XS.icmpYes X45.here hx rfl (pc0 := 189) (pc' := 201) rfl (hb hby at_189) rfl (flt (by decide : ¬ ((5 : Int32) < (3 : Int32)))).2.2.2 (by decide) (by decide) ?_
      refine XS.iload X45.here hx rfl (hb hby at_201) rfl ?_
      refine XS.bipush X45.here hx rfl (hb hby at_203) ?_
      show Steps p.tables e below (T45.setTop (mkF m 205 #[.val (.int p1), .val (.int p2), .val (.long q3), .second, .val (.int p4), .val (.int (3 : Int32)), .val (.int pp), .val (.long bb), .second, .val (.long o1), .second, .val (.long o2), .second, .val (.long o3), .second, .val (.long o4), .second, .val (.long o5), .second, .val (.long o6), .second, .val (.long o7), .second, .val (.ref b37), .unset, .unset, .unset, .unset, .unset, .unset] [(.int (6 : Int32)), (.int (3 : Int32))])) _
      refine XS.icmpYes X45.here hx rfl (pc0 := 205) (pc' := 218) rfl (hb hby at_205) rfl (flt (by decide : ¬ ((6 : Int32) < (3 : Int32)))).2.2.2 (by decide) (by decide) ?_
      refine XS.iload X45.here hx rfl (hb hby at_218) rfl ?_
      refine XS.bipush X45.here hx rfl (hb hby at_220) ?_
      refine XS.icmpYes X45.here hx rfl (pc0 := 222) (pc' := 235) rfl (hb hby at_222) rfl (flt (by decide : ¬ ((7 : Int32) < (3 : Int32)))).2.2.2 (by decide) (by decide) ?_
      show Steps p.tables e below (T45.setTop (mkF m 235 #[.val (.int p1), .val (.int p2), .val (.long q3), .second, .val (.int p4), .val (.int (3 : Int32)), .val (.int pp), .val (.long bb), .second, .val (.long o1), .second, .val (.long o2), .second, .val (.long o3), .second, .val (.long o4), .second, .val (.long o5), .second, .val (.long o6), .second, .val (.long o7), .second, .val (.ref b37), .unset, .unset, .unset, .unset, .unset, .unset] [])) _
      refine XS.aload X45.here hx rfl (hb hby at_235) rfl rfl ?_
      refine XS.iload X45.here hx rfl (hb hby at_237) rfl ?_
      refine st47 _ ?_
      refine XS.lstore X47.here hx rfl (hb hby at_242) rfl (l' := #[.val (.int p1), .val (.int p2), .val (.long q3), .second, .val (.int p4), .val (.int (3 : Int32)), .val (.int pp), .val (.long bb), .second, .val (.long o1), .second, .val (.long o2), .second, .val (.long o3), .second, .val (.long o4), .second, .val (.long o5), .second, .val (.long o6), .second, .val (.long o7), .second, .val (.ref b37), .val (.long rr), .second, .unset, .unset, .unset, .unset]) rfl ?_
      show Steps p.tables e below (T47.setTop (mkF m 244 #[.val (.int p1), .val (.int p2), .val (.long q3), .second, .val (.int p4), .val (.int (3 : Int32)), .val (.int pp), .val (.long bb), .second, .val (.long o1), .second, .val (.long o2), .second, .val (.long o3), .second, .val (.long o4), .second, .val (.long o5), .second, .val (.long o6), .second, .val (.long o7), .second, .val (.ref b37), .val (.long rr), .second, .unset, .unset, .unset, .unset] [])) _
      refine XS.aload X47.here hx rfl (hb hby at_244) rfl rfl ?_
      refine XS.lload X47.here hx rfl (hb hby at_246) rfl ?_
      refine st48 _ ?_
      refine XS.istore X48.here hx rfl (hb hby at_251) rfl (l' := #[.val (.int p1), .val (.int p2), .val (.long q3), .second, .val (.int p4), .val (.int (3 : Int32)), .val (.int pp), .val (.long bb), .second, .val (.long o1), .second, .val (.long o2), .second, .val (.long o3), .second, .val (.long o4), .second, .val (.long o5), .second, .val (.long o6), .second, .val (.long o7), .second, .val (.ref b37), .val (.long rr), .second, .val (.int le), .unset, .unset, .unset]) rfl ?_
      show Steps p.tables e below (T48.setTop (mkF m 253 #[.val (.int p1), .val (.int p2), .val (.long q3), .second, .val (.int p4), .val (.int (3 : Int32)), .val (.int pp), .val (.long bb), .second, .val (.long o1), .second, .val (.long o2), .second, .val (.long o3), .second, .val (.long o4), .second, .val (.long o5), .second, .val (.long o6), .second, .val (.long o7), .second, .val (.ref b37), .val (.long rr), .second, .val (.int le), .unset, .unset, .unset] [])) _
      refine XS.aload X48.here hx rfl (hb hby at_253) rfl rfl ?_
      refine XS.lload X48.here hx rfl (hb hby at_255) rfl ?_
      refine st49 _ ?_
      refine XS.istore X49.here hx rfl (hb hby at_260) rfl (l' := #[.val (.int p1), .val (.int p2), .val (.long q3), .second, .val (.int p4), .val (.int (3 : Int32)), .val (.int pp), .val (.long bb), .second, .val (.long o1), .second, .val (.long o2), .second, .val (.long o3), .second, .val (.long o4), .second, .val (.long o5), .second, .val (.long o6), .second, .val (.long o7), .second, .val (.ref b37), .val (.long rr), .second, .val (.int le), .val (.int lt), .unset, .unset]) rfl ?_
      show Steps p.tables e below (T49.setTop (mkF m 262 #[.val (.int p1), .val (.int p2), .val (.long q3), .second, .val (.int p4), .val (.int (3 : Int32)), .val (.int pp), .val (.long bb), .second, .val (.long o1), .second, .val (.long o2), .second, .val (.long o3), .second, .val (.long o4), .second, .val (.long o5), .second, .val (.long o6), .second, .val (.long o7), .second, .val (.ref b37), .val (.long rr), .second, .val (.int le), .val (.int lt), .unset, .unset] [])) _
      refine XS.iload X49.here hx rfl (hb hby at_262) rfl ?_
      refine XS.i2l X49.here hx rfl (hb hby at_264) rfl ?_
      refine XS.iload X49.here hx rfl (hb hby at_265) rfl ?_
      refine XS.i2l X49.here hx rfl (hb hby at_267) rfl ?_
      show Steps p.tables e below (T49.setTop (mkF m 268 #[.val (.int p1), .val (.int p2), .val (.long q3), .second, .val (.int p4), .val (.int (3 : Int32)), .val (.int pp), .val (.long bb), .second, .val (.long o1), .second, .val (.long o2), .second, .val (.long o3), .second, .val (.long o4), .second, .val (.long o5), .second, .val (.long o6), .second, .val (.long o7), .second, .val (.ref b37), .val (.long rr), .second, .val (.int le), .val (.int lt), .unset, .unset] [(.long ((3 : Int32).toInt64)), (.long (pp.toInt64))])) _
      refine XS.lmul X49.here hx rfl (hb hby at_268) rfl ?_
      exact k
    have hbd := own_b _ _ hbb
    have ko1 := own_o1 _ _ hv_o1
    have ko2 := own_o _ _ _ 3 (by decide) ⟨ko1.1, ko1.2⟩ hv_o2
    have zo2 : 0 ≤ o2.toInt := by omega
    have ko3 := own_o _ _ _ 6 (by decide) ⟨zo2, ko2.2⟩ hv_o3
    have zo3 : 0 ≤ o3.toInt := by omega
    have ko4 := own_o _ _ _ 9 (by decide) ⟨zo3, ko3.2⟩ hv_o4
    have zo4 : 0 ≤ o4.toInt := by omega
    have ko5 := own_o _ _ _ 12 (by decide) ⟨zo4, ko4.2⟩ hv_o5
    have zo5 : 0 ≤ o5.toInt := by omega
    have ko6 := own_o _ _ _ 15 (by decide) ⟨zo5, ko5.2⟩ hv_o6
    have zo6 : 0 ≤ o6.toInt := by omega
    have ko7 := own_o _ _ _ 18 (by decide) ⟨zo6, ko6.2⟩ hv_o7
    have zo7 : 0 ≤ o7.toInt := by omega
    have yx1 := own_x _ _ _ hbd ⟨by omega, by omega⟩ hv_x1
    have yx2 := own_x _ _ _ hbd ⟨by omega, by omega⟩ hv_x2
    have hsrt : own_srt [bb, x1, x2] := by
      simp only [own_srt, List.mem_cons, List.not_mem_nil, or_false, forall_eq_or_imp, forall_eq, false_implies, implies_true, and_true, true_and]
      omega
    rw [hrr] at hle hlt
    obtain ⟨fin1, fin2⟩ := own_fin [bb, x1, x2] (3 : Int32) pp j le lt need 3 (by decide) (by rfl) (by decide) (by decide) hpp hsrt jz jn j2 j3 hle hlt hv_need
    have hc51 : ¬ (((100 : Int64) * (le.toInt64)) < need) := fin1
    have hc52 : ((100 : Int64) * (lt.toInt64)) < need := fin2
    have g53 : ∀ t, Steps p.tables e below (T49.setTop (mkF m 302 #[.val (.int p1), .val (.int p2), .val (.long q3), .second, .val (.int p4), .val (.int (3 : Int32)), .val (.int pp), .val (.long bb), .second, .val (.long o1), .second, .val (.long o2), .second, .val (.long o3), .second, .val (.long o4), .second, .val (.long o5), .second, .val (.long o6), .second, .val (.long o7), .second, .val (.ref b37), .val (.long rr), .second, .val (.int le), .val (.int lt), .val (.long need), .second] [(.int (1 : Int32))])) t → Steps p.tables e below (s₁.setTop (entryFrame m #[(.int p1), (.int p2), (.long q3), (.int p4)] maxLocals)) t := by
      intro t k
      refine g50 t ?_
      show Steps p.tables e below (T49.setTop (mkF m 269 #[.val (.int p1), .val (.int p2), .val (.long q3), .second, .val (.int p4), .val (.int (3 : Int32)), .val (.int pp), .val (.long bb), .second, .val (.long o1), .second, .val (.long o2), .second, .val (.long o3), .second, .val (.long o4), .second, .val (.long o5), .second, .val (.long o6), .second, .val (.long o7), .second, .val (.ref b37), .val (.long rr), .second, .val (.int le), .val (.int lt), .unset, .unset] [(.long need)])) _
      refine XS.lstore X49.here hx rfl (hb hby at_269) rfl (l' := #[.val (.int p1), .val (.int p2), .val (.long q3), .second, .val (.int p4), .val (.int (3 : Int32)), .val (.int pp), .val (.long bb), .second, .val (.long o1), .second, .val (.long o2), .second, .val (.long o3), .second, .val (.long o4), .second, .val (.long o5), .second, .val (.long o6), .second, .val (.long o7), .second, .val (.ref b37), .val (.long rr), .second, .val (.int le), .val (.int lt), .val (.long need), .second]) rfl ?_
      refine X49.ldc2Long hx hown (mvT hZ (hw _ (List.mem_of_getElem? (i := 20) rfl))) (g := (mkF m 271 #[.val (.int p1), .val (.int p2), .val (.long q3), .second, .val (.int p4), .val (.int (3 : Int32)), .val (.int pp), .val (.long bb), .second, .val (.long o1), .second, .val (.long o2), .second, .val (.long o3), .second, .val (.long o4), .second, .val (.long o5), .second, .val (.long o6), .second, .val (.long o7), .second, .val (.ref b37), .val (.long rr), .second, .val (.int le), .val (.int lt), .val (.long need), .second] [])) rfl (hb hby at_271) _ ?_
      refine XS.iload X49.here hx rfl (hb hby at_274) rfl ?_
      refine XS.i2l X49.here hx rfl (hb hby at_276) rfl ?_
      show Steps p.tables e below (T49.setTop (mkF m 277 #[.val (.int p1), .val (.int p2), .val (.long q3), .second, .val (.int p4), .val (.int (3 : Int32)), .val (.int pp), .val (.long bb), .second, .val (.long o1), .second, .val (.long o2), .second, .val (.long o3), .second, .val (.long o4), .second, .val (.long o5), .second, .val (.long o6), .second, .val (.long o7), .second, .val (.ref b37), .val (.long rr), .second, .val (.int le), .val (.int lt), .val (.long need), .second] [(.long (le.toInt64)), (.long (100 : Int64))])) _
      refine XS.lmul X49.here hx rfl (hb hby at_277) rfl ?_
      refine XS.lload X49.here hx rfl (hb hby at_278) rfl ?_
      refine XS.lcmp X49.here hx rfl (hb hby at_280) rfl ?_
      refine XS.ifNo X49.here hx rfl (hb hby at_281) rfl ((if0 _ _).trans (flt (fun q => hc51 ((lw_lt _ _).mp q))).1) ?_
      show Steps p.tables e below (T49.setTop (mkF m 284 #[.val (.int p1), .val (.int p2), .val (.long q3), .second, .val (.int p4), .val (.int (3 : Int32)), .val (.int pp), .val (.long bb), .second, .val (.long o1), .second, .val (.long o2), .second, .val (.long o3), .second, .val (.long o4), .second, .val (.long o5), .second, .val (.long o6), .second, .val (.long o7), .second, .val (.ref b37), .val (.long rr), .second, .val (.int le), .val (.int lt), .val (.long need), .second] [])) _
      refine X49.ldc2Long hx hown (mvT hZ (hw _ (List.mem_of_getElem? (i := 20) rfl))) (g := (mkF m 284 #[.val (.int p1), .val (.int p2), .val (.long q3), .second, .val (.int p4), .val (.int (3 : Int32)), .val (.int pp), .val (.long bb), .second, .val (.long o1), .second, .val (.long o2), .second, .val (.long o3), .second, .val (.long o4), .second, .val (.long o5), .second, .val (.long o6), .second, .val (.long o7), .second, .val (.ref b37), .val (.long rr), .second, .val (.int le), .val (.int lt), .val (.long need), .second] [])) rfl (hb hby at_284) _ ?_
      refine XS.iload X49.here hx rfl (hb hby at_287) rfl ?_
      refine XS.i2l X49.here hx rfl (hb hby at_289) rfl ?_
      refine XS.lmul X49.here hx rfl (hb hby at_290) rfl ?_
      show Steps p.tables e below (T49.setTop (mkF m 291 #[.val (.int p1), .val (.int p2), .val (.long q3), .second, .val (.int p4), .val (.int (3 : Int32)), .val (.int pp), .val (.long bb), .second, .val (.long o1), .second, .val (.long o2), .second, .val (.long o3), .second, .val (.long o4), .second, .val (.long o5), .second, .val (.long o6), .second, .val (.long o7), .second, .val (.ref b37), .val (.long rr), .second, .val (.int le), .val (.int lt), .val (.long need), .second] [(.long ((100 : Int64) * (lt.toInt64)))])) _
      refine XS.lload X49.here hx rfl (hb hby at_291) rfl ?_
      refine XS.lcmp X49.here hx rfl (hb hby at_293) rfl ?_
      refine XS.ifNo X49.here hx rfl (hb hby at_294) rfl ((if0 _ _).trans (tlt ((lw_lt _ _).mpr hc52)).2.1) ?_
      refine XS.iconst X49.here hx rfl (hb hby at_297) ?_
      show Steps p.tables e below (T49.setTop (mkF m 298 #[.val (.int p1), .val (.int p2), .val (.long q3), .second, .val (.int p4), .val (.int (3 : Int32)), .val (.int pp), .val (.long bb), .second, .val (.long o1), .second, .val (.long o2), .second, .val (.long o3), .second, .val (.long o4), .second, .val (.long o5), .second, .val (.long o6), .second, .val (.long o7), .second, .val (.ref b37), .val (.long rr), .second, .val (.int le), .val (.int lt), .val (.long need), .second] [(.int (1 : Int32))])) _
      refine XS.goto X49.here hx rfl (pc0 := 298) (pc' := 302) rfl (hb hby at_298) (by decide) (by decide) ?_
      exact k
    obtain ⟨fs, hrt, hrun, hended, hW, hsame⟩ := X49.leave (v := some (.int (1 : Int32))) (fun h => by rw [Bd.returns] at h; cases h)
    refine ⟨_, _, g53 _ ?_, hrun, hended, _, _, rfl, ?_, ⟨_, rfl⟩, hW, hsame.mono (by decide) (by decide)⟩
    · show Steps p.tables e below (T49.setTop (mkF m 302 #[.val (.int p1), .val (.int p2), .val (.long q3), .second, .val (.int p4), .val (.int (3 : Int32)), .val (.int pp), .val (.long bb), .second, .val (.long o1), .second, .val (.long o2), .second, .val (.long o3), .second, .val (.long o4), .second, .val (.long o5), .second, .val (.long o6), .second, .val (.long o7), .second, .val (.ref b37), .val (.long rr), .second, .val (.int le), .val (.int lt), .val (.long need), .second] [(.int (1 : Int32))])) _
      exact retN X49 hx (t := .boolean) Bd.returns (by simp) (hb hby at_302) hrt
    · show own_Q_rm0 Z p1 p2 q3 p4 h0 n0 _ T49.heap _
      rw [e49]
      exact ⟨rfl, N49⟩
  · skip
    obtain ⟨T54, h54, k54, X54, e54, E54, A54, st54⟩ := newP X3 hx hZ (hw _ (List.mem_of_getElem? (i := 6) rfl)) e3 (g := (mkF m 116 #[.val (.int p1), .val (.int p2), .val (.long q3), .second, .val (.int p4), .val (.int (4 : Int32)), .val (.int pp), .val (.long bb), .second, .val (.long o1), .second, .val (.long o2), .second, .val (.long o3), .second, .val (.long o4), .second, .val (.long o5), .second, .val (.long o6), .second, .val (.long o7), .second, .unset, .unset, .unset, .unset, .unset, .unset, .unset] [(.int (4 : Int32))])) rfl (hb hby at_116) rfl (by decide) (cap := 4) (by decide) (by decide) (by decide) (by decide)
    obtain ⟨b54, q_b54⟩ : ∃ z, z = h0.size := ⟨_, rfl⟩
    rw [← q_b54] at A54 st54
    have sz_b54 : h0.size ≤ b54 := Nat.le_of_eq q_b54.symm
    have gz_b54 : n0 ≤ b54 := Nat.le_trans Z0 sz_b54
    have V54 : Arv Z h54 b54 k54 .long (4 : Int32) [(.long (0 : Int64)), (.long (0 : Int64)), (.long (0 : Int64)), (.long (0 : Int64))] (.long (0 : Int64)) := (Arv.new A54 (by decide)).pad (pad_rep [] (.long (0 : Int64)) 4)
    obtain ⟨c55, Ar55, cq55, S55, Nn55, Hh55, Gg55⟩ := id V54
    have hin55 : ¬ ((0 : Int32) < 0 ∨ c55.slots.size ≤ ((0 : Int32)).toNatClampNeg) := inb_of S55 ⟨by decide, by decide⟩
    obtain ⟨T56, h56, X56, e56, W56, st56⟩ := stJ X54 hx hZ e54 Ar55 (j := (0 : Int32)) hin55 (g := (mkF m 125 #[.val (.int p1), .val (.int p2), .val (.long q3), .second, .val (.int p4), .val (.int (4 : Int32)), .val (.int pp), .val (.long bb), .second, .val (.long o1), .second, .val (.long o2), .second, .val (.long o3), .second, .val (.long o4), .second, .val (.long o5), .second, .val (.long o6), .second, .val (.long o7), .second, .val (.ref b54), .unset, .unset, .unset, .unset, .unset, .unset] [(.long bb), (.int (0 : Int32)), (.ref b54)])) rfl rfl (hb hby at_125)
    have V56 := Arv.set Ar55 cq55 S55 Nn55 Hh55 Gg55 rfl W56 0 rfl (Nat.le_of_ble_eq_true rfl)
    have V56a : Arv Z h56 b54 k54 .long (4 : Int32) [(.long bb), (.long (0 : Int64)), (.long (0 : Int64)), (.long (0 : Int64))] (.long (0 : Int64)) := V56
    have N56 := Fr.snoc X56 N3 gz_b54
    obtain ⟨x1, hv_x1⟩ : ∃ z : Int64, z = (bb + o1) := ⟨_, rfl⟩
    have g57 : ∀ t, Steps p.tables e below (T56.setTop (mkF m 140 #[.val (.int p1), .val (.int p2), .val (.long q3), .second, .val (.int p4), .val (.int (4 : Int32)), .val (.int pp), .val (.long bb), .second, .val (.long o1), .second, .val (.long o2), .second, .val (.long o3), .second, .val (.long o4), .second, .val (.long o5), .second, .val (.long o6), .second, .val (.long o7), .second, .val (.ref b54), .unset, .unset, .unset, .unset, .unset, .unset] [(.long x1), (.int (1 : Int32)), (.ref b54)])) t → Steps p.tables e below (s₁.setTop (entryFrame m #[(.int p1), (.int p2), (.long q3), (.int p4)] maxLocals)) t := by
      intro t k
      rw [hv_x1] at k
      refine g11 t ?_
      show Steps p.tables e below (T3.setTop (mkF m 114 #[.val (.int p1), .val (.int p2), .val (.long q3), .second, .val (.int p4), .val (.int (4 : Int32)), .val (.int pp), .val (.long bb), .second, .val (.long o1), .second, .val (.long o2), .second, .val (.long o3), .second, .val (.long o4), .second, .val (.long o5), .second, .val (.long o6), .second, .val (.long o7), .second, .unset, .unset, .unset, .unset, .unset, .unset, .unset] [])) _
      refine XS.iload X3.here hx rfl (hb hby at_114) rfl ?_
      refine st54 _ ?_
      refine XS.astore X54.here hx rfl (hb hby at_118) rfl rfl (l' := #[.val (.int p1), .val (.int p2), .val (.long q3), .second, .val (.int p4), .val (.int (4 : Int32)), .val (.int pp), .val (.long bb), .second, .val (.long o1), .second, .val (.long o2), .second, .val (.long o3), .second, .val (.long o4), .second, .val (.long o5), .second, .val (.long o6), .second, .val (.long o7), .second, .val (.ref b54), .unset, .unset, .unset, .unset, .unset, .unset]) rfl ?_
      refine XS.aload X54.here hx rfl (hb hby at_120) rfl rfl ?_
      show Steps p.tables e below (T54.setTop (mkF m 122 #[.val (.int p1), .val (.int p2), .val (.long q3), .second, .val (.int p4), .val (.int (4 : Int32)), .val (.int pp), .val (.long bb), .second, .val (.long o1), .second, .val (.long o2), .second, .val (.long o3), .second, .val (.long o4), .second, .val (.long o5), .second, .val (.long o6), .second, .val (.long o7), .second, .val (.ref b54), .unset, .unset, .unset, .unset, .unset, .unset] [(.ref b54)])) _
      refine XS.iconst X54.here hx rfl (hb hby at_122) ?_
      refine XS.lload X54.here hx rfl (hb hby at_123) rfl ?_
      refine st56 _ ?_
      refine XS.iload X56.here hx rfl (hb hby at_126) rfl ?_
      show Steps p.tables e below (T56.setTop (mkF m 128 #[.val (.int p1), .val (.int p2), .val (.long q3), .second, .val (.int p4), .val (.int (4 : Int32)), .val (.int pp), .val (.long bb), .second, .val (.long o1), .second, .val (.long o2), .second, .val (.long o3), .second, .val (.long o4), .second, .val (.long o5), .second, .val (.long o6), .second, .val (.long o7), .second, .val (.ref b54), .unset, .unset, .unset, .unset, .unset, .unset] [(.int (4 : Int32))])) _
      refine XS.iconst X56.here hx rfl (hb hby at_128) ?_
      refine XS.icmpNo X56.here hx rfl (hb hby at_129) rfl (tlt (by decide : (1 : Int32) < (4 : Int32))).2.2.2 ?_
      refine XS.aload X56.here hx rfl (hb hby at_132) rfl rfl ?_
      refine XS.iconst X56.here hx rfl (hb hby at_134) ?_
      show Steps p.tables e below (T56.setTop (mkF m 135 #[.val (.int p1), .val (.int p2), .val (.long q3), .second, .val (.int p4), .val (.int (4 : Int32)), .val (.int pp), .val (.long bb), .second, .val (.long o1), .second, .val (.long o2), .second, .val (.long o3), .second, .val (.long o4), .second, .val (.long o5), .second, .val (.long o6), .second, .val (.long o7), .second, .val (.ref b54), .unset, .unset, .unset, .unset, .unset, .unset] [(.int (1 : Int32)), (.ref b54)])) _
      refine XS.lload X56.here hx rfl (hb hby at_135) rfl ?_
      refine XS.lload X56.here hx rfl (hb hby at_137) rfl ?_
      refine XS.ladd X56.here hx rfl (hb hby at_139) rfl ?_
      exact k
    obtain ⟨c58, Ar58, cq58, S58, Nn58, Hh58, Gg58⟩ := id V56a
    have hin58 : ¬ ((1 : Int32) < 0 ∨ c58.slots.size ≤ ((1 : Int32)).toNatClampNeg) := inb_of S58 ⟨by decide, by decide⟩
    obtain ⟨T59, h59, X59, e59, W59, st59⟩ := stJ X56 hx hZ e56 Ar58 (j := (1 : Int32)) hin58 (g := (mkF m 140 #[.val (.int p1), .val (.int p2), .val (.long q3), .second, .val (.int p4), .val (.int (4 : Int32)), .val (.int pp), .val (.long bb), .second, .val (.long o1), .second, .val (.long o2), .second, .val (.long o3), .second, .val (.long o4), .second, .val (.long o5), .second, .val (.long o6), .second, .val (.long o7), .second, .val (.ref b54), .unset, .unset, .unset, .unset, .unset, .unset] [(.long x1), (.int (1 : Int32)), (.ref b54)])) rfl rfl (hb hby at_140)
    have V59 := Arv.set Ar58 cq58 S58 Nn58 Hh58 Gg58 rfl W59 1 rfl (Nat.le_of_ble_eq_true rfl)
    have V59a : Arv Z h59 b54 k54 .long (4 : Int32) [(.long bb), (.long x1), (.long (0 : Int64)), (.long (0 : Int64))] (.long (0 : Int64)) := V59
    have N59 := Fr.snoc X59 N56 gz_b54
    obtain ⟨x2, hv_x2⟩ : ∃ z : Int64, z = (bb + o2) := ⟨_, rfl⟩
    have g60 : ∀ t, Steps p.tables e below (T59.setTop (mkF m 155 #[.val (.int p1), .val (.int p2), .val (.long q3), .second, .val (.int p4), .val (.int (4 : Int32)), .val (.int pp), .val (.long bb), .second, .val (.long o1), .second, .val (.long o2), .second, .val (.long o3), .second, .val (.long o4), .second, .val (.long o5), .second, .val (.long o6), .second, .val (.long o7), .second, .val (.ref b54), .unset, .unset, .unset, .unset, .unset, .unset] [(.long x2), (.int (2 : Int32)), (.ref b54)])) t → Steps p.tables e below (s₁.setTop (entryFrame m #[(.int p1), (.int p2), (.long q3), (.int p4)] maxLocals)) t := by
      intro t k
      rw [hv_x2] at k
      refine g57 t ?_
      show Steps p.tables e below (T56.setTop (mkF m 140 #[.val (.int p1), .val (.int p2), .val (.long q3), .second, .val (.int p4), .val (.int (4 : Int32)), .val (.int pp), .val (.long bb), .second, .val (.long o1), .second, .val (.long o2), .second, .val (.long o3), .second, .val (.long o4), .second, .val (.long o5), .second, .val (.long o6), .second, .val (.long o7), .second, .val (.ref b54), .unset, .unset, .unset, .unset, .unset, .unset] [(.long x1), (.int (1 : Int32)), (.ref b54)])) _
      refine st59 _ ?_
      refine XS.iload X59.here hx rfl (hb hby at_141) rfl ?_
      refine XS.iconst X59.here hx rfl (hb hby at_143) ?_
      refine XS.icmpNo X59.here hx rfl (hb hby at_144) rfl (tlt (by decide : (2 : Int32) < (4 : Int32))).2.2.2 ?_
      show Steps p.tables e below (T59.setTop (mkF m 147 #[.val (.int p1), .val (.int p2), .val (.long q3), .second, .val (.int p4), .val (.int (4 : Int32)), .val (.int pp), .val (.long bb), .second, .val (.long o1), .second, .val (.long o2), .second, .val (.long o3), .second, .val (.long o4), .second, .val (.long o5), .second, .val (.long o6), .second, .val (.long o7), .second, .val (.ref b54), .unset, .unset, .unset, .unset, .unset, .unset] [])) _
      refine XS.aload X59.here hx rfl (hb hby at_147) rfl rfl ?_
      refine XS.iconst X59.here hx rfl (hb hby at_149) ?_
      refine XS.lload X59.here hx rfl (hb hby at_150) rfl ?_
      refine XS.lload X59.here hx rfl (hb hby at_152) rfl ?_
      show Steps p.tables e below (T59.setTop (mkF m 154 #[.val (.int p1), .val (.int p2), .val (.long q3), .second, .val (.int p4), .val (.int (4 : Int32)), .val (.int pp), .val (.long bb), .second, .val (.long o1), .second, .val (.long o2), .second, .val (.long o3), .second, .val (.long o4), .second, .val (.long o5), .second, .val (.long o6), .second, .val (.long o7), .second, .val (.ref b54), .unset, .unset, .unset, .unset, .unset, .unset] [(.long o2), (.long bb), (.int (2 : Int32)), (.ref b54)])) _
      refine XS.ladd X59.here hx rfl (hb hby at_154) rfl ?_
      exact k
    obtain ⟨c61, Ar61, cq61, S61, Nn61, Hh61, Gg61⟩ := id V59a
    have hin61 : ¬ ((2 : Int32) < 0 ∨ c61.slots.size ≤ ((2 : Int32)).toNatClampNeg) := inb_of S61 ⟨by decide, by decide⟩
    obtain ⟨T62, h62, X62, e62, W62, st62⟩ := stJ X59 hx hZ e59 Ar61 (j := (2 : Int32)) hin61 (g := (mkF m 155 #[.val (.int p1), .val (.int p2), .val (.long q3), .second, .val (.int p4), .val (.int (4 : Int32)), .val (.int pp), .val (.long bb), .second, .val (.long o1), .second, .val (.long o2), .second, .val (.long o3), .second, .val (.long o4), .second, .val (.long o5), .second, .val (.long o6), .second, .val (.long o7), .second, .val (.ref b54), .unset, .unset, .unset, .unset, .unset, .unset] [(.long x2), (.int (2 : Int32)), (.ref b54)])) rfl rfl (hb hby at_155)
    have V62 := Arv.set Ar61 cq61 S61 Nn61 Hh61 Gg61 rfl W62 2 rfl (Nat.le_of_ble_eq_true rfl)
    have V62a : Arv Z h62 b54 k54 .long (4 : Int32) [(.long bb), (.long x1), (.long x2), (.long (0 : Int64))] (.long (0 : Int64)) := V62
    have N62 := Fr.snoc X62 N59 gz_b54
    obtain ⟨x3, hv_x3⟩ : ∃ z : Int64, z = (bb + o3) := ⟨_, rfl⟩
    have g63 : ∀ t, Steps p.tables e below (T62.setTop (mkF m 170 #[.val (.int p1), .val (.int p2), .val (.long q3), .second, .val (.int p4), .val (.int (4 : Int32)), .val (.int pp), .val (.long bb), .second, .val (.long o1), .second, .val (.long o2), .second, .val (.long o3), .second, .val (.long o4), .second, .val (.long o5), .second, .val (.long o6), .second, .val (.long o7), .second, .val (.ref b54), .unset, .unset, .unset, .unset, .unset, .unset] [(.long x3), (.int (3 : Int32)), (.ref b54)])) t → Steps p.tables e below (s₁.setTop (entryFrame m #[(.int p1), (.int p2), (.long q3), (.int p4)] maxLocals)) t := by
      intro t k
      rw [hv_x3] at k
      refine g60 t ?_
      show Steps p.tables e below (T59.setTop (mkF m 155 #[.val (.int p1), .val (.int p2), .val (.long q3), .second, .val (.int p4), .val (.int (4 : Int32)), .val (.int pp), .val (.long bb), .second, .val (.long o1), .second, .val (.long o2), .second, .val (.long o3), .second, .val (.long o4), .second, .val (.long o5), .second, .val (.long o6), .second, .val (.long o7), .second, .val (.ref b54), .unset, .unset, .unset, .unset, .unset, .unset] [(.long x2), (.int (2 : Int32)), (.ref b54)])) _
      refine st62 _ ?_
      refine XS.iload X62.here hx rfl (hb hby at_156) rfl ?_
      refine XS.iconst X62.here hx rfl (hb hby at_158) ?_
      refine XS.icmpNo X62.here hx rfl (hb hby at_159) rfl (tlt (by decide : (3 : Int32) < (4 : Int32))).2.2.2 ?_
      show Steps p.tables e below (T62.setTop (mkF m 162 #[.val (.int p1), .val (.int p2), .val (.long q3), .second, .val (.int p4), .val (.int (4 : Int32)), .val (.int pp), .val (.long bb), .second, .val (.long o1), .second, .val (.long o2), .second, .val (.long o3), .second, .val (.long o4), .second, .val (.long o5), .second, .val (.long o6), .second, .val (.long o7), .second, .val (.ref b54), .unset, .unset, .unset, .unset, .unset, .unset] [])) _
      refine XS.aload X62.here hx rfl (hb hby at_162) rfl rfl ?_
      refine XS.iconst X62.here hx rfl (hb hby at_164) ?_
      refine XS.lload X62.here hx rfl (hb hby at_165) rfl ?_
      refine XS.lload X62.here hx rfl (hb hby at_167) rfl ?_
      show Steps p.tables e below (T62.setTop (mkF m 169 #[.val (.int p1), .val (.int p2), .val (.long q3), .second, .val (.int p4), .val (.int (4 : Int32)), .val (.int pp), .val (.long bb), .second, .val (.long o1), .second, .val (.long o2), .second, .val (.long o3), .second, .val (.long o4), .second, .val (.long o5), .second, .val (.long o6), .second, .val (.long o7), .second, .val (.ref b54), .unset, .unset, .unset, .unset, .unset, .unset] [(.long o3), (.long bb), (.int (3 : Int32)), (.ref b54)])) _
      refine XS.ladd X62.here hx rfl (hb hby at_169) rfl ?_
      exact k
    obtain ⟨c64, Ar64, cq64, S64, Nn64, Hh64, Gg64⟩ := id V62a
    have hin64 : ¬ ((3 : Int32) < 0 ∨ c64.slots.size ≤ ((3 : Int32)).toNatClampNeg) := inb_of S64 ⟨by decide, by decide⟩
    obtain ⟨T65, h65, X65, e65, W65, st65⟩ := stJ X62 hx hZ e62 Ar64 (j := (3 : Int32)) hin64 (g := (mkF m 170 #[.val (.int p1), .val (.int p2), .val (.long q3), .second, .val (.int p4), .val (.int (4 : Int32)), .val (.int pp), .val (.long bb), .second, .val (.long o1), .second, .val (.long o2), .second, .val (.long o3), .second, .val (.long o4), .second, .val (.long o5), .second, .val (.long o6), .second, .val (.long o7), .second, .val (.ref b54), .unset, .unset, .unset, .unset, .unset, .unset] [(.long x3), (.int (3 : Int32)), (.ref b54)])) rfl rfl (hb hby at_170)
    have V65 := Arv.set Ar64 cq64 S64 Nn64 Hh64 Gg64 rfl W65 3 rfl (Nat.le_of_ble_eq_true rfl)
    have V65a : Arv Z h65 b54 k54 .long (4 : Int32) [(.long bb), (.long x1), (.long x2), (.long x3)] (.long (0 : Int64)) := V65
    have N65 := Fr.snoc X65 N62 gz_b54
    have o66 : Old Z n0 h65 := (Old.wr (Old.wr (Old.wr (Old.wr (Old.ext O0 E54) W56 gz_b54) W59 gz_b54) W62 gz_b54) W65 gz_b54)
    have hpp := own_p _ _ hv_pp
    obtain ⟨j, hj, jz, jn, j2, j3⟩ := own_pct (4 : Int32) pp 4 (by decide) (by decide) (by decide) hpp
    have hj0 : ¬ j < 0 := by rw [Int32.lt_iff_toInt_lt, show (0 : Int32).toInt = 0 by decide]; omega
    have hj1 : j < (4 : Int32) := by rw [Int32.lt_iff_toInt_lt, show (4 : Int32).toInt = 4 by decide]; omega
    have hjl : j.toNatClampNeg < ([bb, x1, x2, x3] : List Int64).length := by simp only [Int32.toNatClampNeg, List.length_cons, List.length_nil]; omega
    have hjr := own_getD [bb, x1, x2, x3] j.toNatClampNeg hjl
    obtain ⟨rr, hrr⟩ : ∃ z : Int64, z = ([bb, x1, x2, x3] : List Int64).getD j.toNatClampNeg 0 := ⟨_, rfl⟩
    rw [← hrr] at hjr
    obtain ⟨_, _, ⟨T67, L67, k67, n67⟩, -, X67, ⟨Lc67, hQ67, l67, y67, z67⟩, st67⟩ := Jvm.LawKit.callS X65 hx (y := (⟨"orderwire/bench/Latency", "percentile", "([JI)J"⟩ : MethodName)) hown (mvT hZ (hw _ (List.mem_of_getElem? (i := 7) rfl))) (mvT hZ (hw _ (List.mem_of_getElem? (i := 8) rfl))) (mvT hZ (hw _ (List.mem_of_getElem? (i := 9) rfl))) (mvT hZ (hw _ (List.mem_of_getElem? (i := 10) rfl))) (by decide) (backOf (W := 0) (rmPct4 l Z a0 hw [] b54 k54 bb x1 x2 x3 rr pp j h65 n0 o66 V65a hj hj0 hj1 hjr) hZ (hw _ (List.mem_of_getElem? (i := 10) rfl)) (hw _ (List.mem_of_getElem? (i := 9) rfl)) (by decide) (by decide)) (g := (mkF m 239 #[.val (.int p1), .val (.int p2), .val (.long q3), .second, .val (.int p4), .val (.int (4 : Int32)), .val (.int pp), .val (.long bb), .second, .val (.long o1), .second, .val (.long o2), .second, .val (.long o3), .second, .val (.long o4), .second, .val (.long o5), .second, .val (.long o6), .second, .val (.long o7), .second, .val (.ref b54), .unset, .unset, .unset, .unset, .unset, .unset] [(.int pp), (.ref b54)])) rfl (by rw [hml]; rfl) (argsL := [(.ref b54), (.int pp)]) (rest := []) (lenOf own_pd1 rfl) rfl (by show 2 * 0 + _ ≤ _; exact Nat.le_of_eq rfl) (hb hby at_239) (fun _ _ => ⟨rfl, e65, (by decide : 1 + 0 ≤ _), (by decide : 4 + 0 ≤ _)⟩)
    dsimp only [Pt.U, Pt.locs, Pt.cells, Pt.slots] at X67 l67 y67 z67 st67 hQ67
    subst l67 y67 z67
    obtain ⟨rfl, Nq67, e67⟩ := hQ67
    have N67 := Fr.app N65 Nq67
    obtain ⟨le, hle⟩ : ∃ z : Int32, own_cle rr [bb, x1, x2, x3] 0 = z := ⟨_, rfl⟩
    obtain ⟨_, _, ⟨T68, L68, k68, n68⟩, -, X68, ⟨Lc68, hQ68, l68, y68, z68⟩, st68⟩ := Jvm.LawKit.callS X67 hx (y := (⟨"orderwire/bench/LatencyPercentilePinLaw", "countLe", "([JJ)I"⟩ : MethodName)) hown (mvT hZ (hw _ (List.mem_of_getElem? (i := 13) rfl))) (mvT hZ (hw _ (List.mem_of_getElem? (i := 14) rfl))) (mvT hZ (hw _ (List.mem_of_getElem? (i := 15) rfl))) (mvT hZ (hw _ (List.mem_of_getElem? (i := 16) rfl))) (by decide) (backOf (W := 0) (rmcountLe4 l Z a0 hw [] b54 k54 bb x1 x2 x3 rr le h65 n0 o66 V65a hle) hZ (hw _ (List.mem_of_getElem? (i := 16) rfl)) (hw _ (List.mem_of_getElem? (i := 15) rfl)) (by decide) (by decide)) (g := (mkF m 248 #[.val (.int p1), .val (.int p2), .val (.long q3), .second, .val (.int p4), .val (.int (4 : Int32)), .val (.int pp), .val (.long bb), .second, .val (.long o1), .second, .val (.long o2), .second, .val (.long o3), .second, .val (.long o4), .second, .val (.long o5), .second, .val (.long o6), .second, .val (.long o7), .second, .val (.ref b54), .val (.long rr), .second, .unset, .unset, .unset, .unset] [(.long rr), (.ref b54)])) rfl (by rw [hml]; rfl) (argsL := [(.ref b54), (.long rr)]) (rest := []) (lenOf own_pd2 rfl) rfl (by show 2 * 0 + _ ≤ _; exact Nat.le_of_eq rfl) (hb hby at_248) (fun _ _ => ⟨rfl, e67, (by decide : 1 + 0 ≤ _), (by decide : 4 + 0 ≤ _)⟩)
    dsimp only [Pt.U, Pt.locs, Pt.cells, Pt.slots] at X68 l68 y68 z68 st68 hQ68
    subst l68 y68 z68
    obtain ⟨rfl, Nq68, e68⟩ := hQ68
    have N68 := Fr.app N67 Nq68
    obtain ⟨lt, hlt⟩ : ∃ z : Int32, own_clt rr [bb, x1, x2, x3] 0 = z := ⟨_, rfl⟩
    obtain ⟨_, _, ⟨T69, L69, k69, n69⟩, -, X69, ⟨Lc69, hQ69, l69, y69, z69⟩, st69⟩ := Jvm.LawKit.callS X68 hx (y := (⟨"orderwire/bench/LatencyPercentilePinLaw", "countLt", "([JJ)I"⟩ : MethodName)) hown (mvT hZ (hw _ (List.mem_of_getElem? (i := 17) rfl))) (mvT hZ (hw _ (List.mem_of_getElem? (i := 18) rfl))) (mvT hZ (hw _ (List.mem_of_getElem? (i := 15) rfl))) (mvT hZ (hw _ (List.mem_of_getElem? (i := 19) rfl))) (by decide) (backOf (W := 0) (rmcountLt4 l Z a0 hw [] b54 k54 bb x1 x2 x3 rr lt h65 n0 o66 V65a hlt) hZ (hw _ (List.mem_of_getElem? (i := 19) rfl)) (hw _ (List.mem_of_getElem? (i := 15) rfl)) (by decide) (by decide)) (g := (mkF m 257 #[.val (.int p1), .val (.int p2), .val (.long q3), .second, .val (.int p4), .val (.int (4 : Int32)), .val (.int pp), .val (.long bb), .second, .val (.long o1), .second, .val (.long o2), .second, .val (.long o3), .second, .val (.long o4), .second, .val (.long o5), .second, .val (.long o6), .second, .val (.long o7), .second, .val (.ref b54), .val (.long rr), .second, .val (.int le), .unset, .unset, .unset] [(.long rr), (.ref b54)])) rfl (by rw [hml]; rfl) (argsL := [(.ref b54), (.long rr)]) (rest := []) (lenOf own_pd2 rfl) rfl (by show 2 * 0 + _ ≤ _; exact Nat.le_of_eq rfl) (hb hby at_257) (fun _ _ => ⟨rfl, e68, (by decide : 1 + 0 ≤ _), (by decide : 4 + 0 ≤ _)⟩)
    dsimp only [Pt.U, Pt.locs, Pt.cells, Pt.slots] at X69 l69 y69 z69 st69 hQ69
    subst l69 y69 z69
    obtain ⟨rfl, Nq69, e69⟩ := hQ69
    have N69 := Fr.app N68 Nq69
    obtain ⟨need, hv_need⟩ : ∃ z : Int64, z = ((pp.toInt64) * ((4 : Int32).toInt64)) := ⟨_, rfl⟩
    have g70 : ∀ t, Steps p.tables e below (T69.setTop (mkF m 269 #[.val (.int p1), .val (.int p2), .val (.long q3), .second, .val (.int p4), .val (.int (4 : Int32)), .val (.int pp), .val (.long bb), .second, .val (.long o1), .second, .val (.long o2), .second, .val (.long o3), .second, .val (.long o4), .second, .val (.long o5), .second, .val (.long o6), .second, .val (.long o7), .second, .val (.ref b54), .val (.long rr), .second, .val (.int le), .val (.int lt), .unset, .unset] [(.long need)])) t → Steps p.tables e below (s₁.setTop (entryFrame m #[(.int p1), (.int p2), (.long q3), (.int p4)] maxLocals)) t := by
      intro t k
      rw [hv_need] at k
      refine g63 t ?_
      show Steps p.tables e below (T62.setTop (mkF m 170 #[.val (.int p1), .val (.int p2), .val (.long q3), .second, .val (.int p4), .val (.int (4 : Int32)), .val (.int pp), .val (.long bb), .second, .val (.long o1), .second, .val (.long o2), .second, .val (.long o3), .second, .val (.long o4), .second, .val (.long o5), .second, .val (.long o6), .second, .val (.long o7), .second, .val (.ref b54), .unset, .unset, .unset, .unset, .unset, .unset] [(.long x3), (.int (3 : Int32)), (.ref b54)])) _
      refine st65 _ ?_
      refine XS.iload X65.here hx rfl (hb hby at_171) rfl ?_
      refine XS.iconst X65.here hx rfl (hb hby at_173) ?_
      refine XS.icmpYes X65.here hx rfl (pc0 := 174) (pc' := 186) rfl (hb hby at_174) rfl (flt (by decide : ¬ ((4 : Int32) < (4 : Int32)))).2.2.2 (by decide) (by decide) ?_
      show Steps p.tables e below (T65.setTop (mkF m 186 #[.val (.int p1), .val (.int p2), .val (.long q3), .second, .val (.int p4), .val (.int (4 : Int32)), .val (.int pp), .val (.long bb), .second, .val (.long o1), .second, .val (.long o2), .second, .val (.long o3), .second, .val (.long o4), .second, .val (.long o5), .second, .val (.long o6), .second, .val (.long o7), .second, .val (.ref b54), .unset, .unset, .unset, .unset, .unset, .unset] [])) _
      refine XS.iload X65.here hx rfl (hb hby at_186) rfl ?_
      refine XS.iconst X65.here hx rfl (hb hby at_188) ?_
      refine XS.icmpYes X65.here hx rfl (pc0 := 189) (pc' := 201) rfl (hb hby at_189) rfl (flt (by decide : ¬ ((5 : Int32) < (4 : Int32)))).2.2.2 (by decide) (by decide) ?_
      refine XS.iload X65.here hx rfl (hb hby at_201) rfl ?_
      show Steps p.tables e below (T65.setTop (mkF m 203 #[.val (.int p1), .val (.int p2), .val (.long q3), .second, .val (.int p4), .val (.int (4 : Int32)), .val (.int pp), .val (.long bb), .second, .val (.long o1), .second, .val (.long o2), .second, .val (.long o3), .second, .val (.long o4), .second, .val (.long o5), .second, .val (.long o6), .second, .val (.long o7), .second, .val (.ref b54), .unset, .unset, .unset, .unset, .unset, .unset] [(.int (4 : Int32))])) _
      refine XS.bipush X65.here hx rfl (hb hby at_203) ?_
      refine XS.icmpYes X65.here hx rfl (pc0 := 205) (pc' := 218) rfl (hb hby at_205) rfl (flt (by decide : ¬ ((6 : Int32) < (4 : Int32)))).2.2.2 (by decide) (by decide) ?_
      refine XS.iload X65.here hx rfl (hb hby at_218) rfl ?_
      refine XS.bipush X65.here hx rfl (hb hby at_220) ?_
      show Steps p.tables e below (T65.setTop (mkF m 222 #[.val (.int p1), .val (.int p2), .val (.long q3), .second, .val (.int p4), .val (.int (4 : Int32)), .val (.int pp), .val (.long bb), .second, .val (.long o1), .second, .val (.long o2), .second, .val (.long o3), .second, .val (.long o4), .second, .val (.long o5), .second, .val (.long o6), .second, .val (.long o7), .second, .val (.ref b54), .unset, .unset, .unset, .unset, .unset, .unset] [(.int (7 : Int32)), (.int (4 : Int32))])) _
      refine XS.icmpYes X65.here hx rfl (pc0 := 222) (pc' := 235) rfl (hb hby at_222) rfl (flt (by decide : ¬ ((7 : Int32) < (4 : Int32)))).2.2.2 (by decide) (by decide) ?_
      refine XS.aload X65.here hx rfl (hb hby at_235) rfl rfl ?_
      refine XS.iload X65.here hx rfl (hb hby at_237) rfl ?_
      refine st67 _ ?_
      show Steps p.tables e below (T67.setTop (mkF m 242 #[.val (.int p1), .val (.int p2), .val (.long q3), .second, .val (.int p4), .val (.int (4 : Int32)), .val (.int pp), .val (.long bb), .second, .val (.long o1), .second, .val (.long o2), .second, .val (.long o3), .second, .val (.long o4), .second, .val (.long o5), .second, .val (.long o6), .second, .val (.long o7), .second, .val (.ref b54), .unset, .unset, .unset, .unset, .unset, .unset] [(.long rr)])) _
      refine XS.lstore X67.here hx rfl (hb hby at_242) rfl (l' := #[.val (.int p1), .val (.int p2), .val (.long q3), .second, .val (.int p4), .val (.int (4 : Int32)), .val (.int pp), .val (.long bb), .second, .val (.long o1), .second, .val (.long o2), .second, .val (.long o3), .second, .val (.long o4), .second, .val (.long o5), .second, .val (.long o6), .second, .val (.long o7), .second, .val (.ref b54), .val (.long rr), .second, .unset, .unset, .unset, .unset]) rfl ?_
      refine XS.aload X67.here hx rfl (hb hby at_244) rfl rfl ?_
      refine XS.lload X67.here hx rfl (hb hby at_246) rfl ?_
      refine st68 _ ?_
      show Steps p.tables e below (T68.setTop (mkF m 251 #[.val (.int p1), .val (.int p2), .val (.long q3), .second, .val (.int p4), .val (.int (4 : Int32)), .val (.int pp), .val (.long bb), .second, .val (.long o1), .second, .val (.long o2), .second, .val (.long o3), .second, .val (.long o4), .second, .val (.long o5), .second, .val (.long o6), .second, .val (.long o7), .second, .val (.ref b54), .val (.long rr), .second, .unset, .unset, .unset, .unset] [(.int le)])) _
      refine XS.istore X68.here hx rfl (hb hby at_251) rfl (l' := #[.val (.int p1), .val (.int p2), .val (.long q3), .second, .val (.int p4), .val (.int (4 : Int32)), .val (.int pp), .val (.long bb), .second, .val (.long o1), .second, .val (.long o2), .second, .val (.long o3), .second, .val (.long o4), .second, .val (.long o5), .second, .val (.long o6), .second, .val (.long o7), .second, .val (.ref b54), .val (.long rr), .second, .val (.int le), .unset, .unset, .unset]) rfl ?_
      refine XS.aload X68.here hx rfl (hb hby at_253) rfl rfl ?_
      refine XS.lload X68.here hx rfl (hb hby at_255) rfl ?_
      refine st69 _ ?_
      show Steps p.tables e below (T69.setTop (mkF m 260 #[.val (.int p1), .val (.int p2), .val (.long q3), .second, .val (.int p4), .val (.int (4 : Int32)), .val (.int pp), .val (.long bb), .second, .val (.long o1), .second, .val (.long o2), .second, .val (.long o3), .second, .val (.long o4), .second, .val (.long o5), .second, .val (.long o6), .second, .val (.long o7), .second, .val (.ref b54), .val (.long rr), .second, .val (.int le), .unset, .unset, .unset] [(.int lt)])) _
      refine XS.istore X69.here hx rfl (hb hby at_260) rfl (l' := #[.val (.int p1), .val (.int p2), .val (.long q3), .second, .val (.int p4), .val (.int (4 : Int32)), .val (.int pp), .val (.long bb), .second, .val (.long o1), .second, .val (.long o2), .second, .val (.long o3), .second, .val (.long o4), .second, .val (.long o5), .second, .val (.long o6), .second, .val (.long o7), .second, .val (.ref b54), .val (.long rr), .second, .val (.int le), .val (.int lt), .unset, .unset]) rfl ?_
      refine XS.iload X69.here hx rfl (hb hby at_262) rfl ?_
      refine XS.i2l X69.here hx rfl (hb hby at_264) rfl ?_
      refine XS.iload X69.here hx rfl (hb hby at_265) rfl ?_
      show Steps p.tables e below (T69.setTop (mkF m 267 #[.val (.int p1), .val (.int p2), .val (.long q3), .second, .val (.int p4), .val (.int (4 : Int32)), .val (.int pp), .val (.long bb), .second, .val (.long o1), .second, .val (.long o2), .second, .val (.long o3), .second, .val (.long o4), .second, .val (.long o5), .second, .val (.long o6), .second, .val (.long o7), .second, .val (.ref b54), .val (.long rr), .second, .val (.int le), .val (.int lt), .unset, .unset] [(.int (4 : Int32)), (.long (pp.toInt64))])) _
      refine XS.i2l X69.here hx rfl (hb hby at_267) rfl ?_
      refine XS.lmul X69.here hx rfl (hb hby at_268) rfl ?_
      exact k
    have hbd := own_b _ _ hbb
    have ko1 := own_o1 _ _ hv_o1
    have ko2 := own_o _ _ _ 3 (by decide) ⟨ko1.1, ko1.2⟩ hv_o2
    have zo2 : 0 ≤ o2.toInt := by omega
    have ko3 := own_o _ _ _ 6 (by decide) ⟨zo2, ko2.2⟩ hv_o3
    have zo3 : 0 ≤ o3.toInt := by omega
    have ko4 := own_o _ _ _ 9 (by decide) ⟨zo3, ko3.2⟩ hv_o4
    have zo4 : 0 ≤ o4.toInt := by omega
    have ko5 := own_o _ _ _ 12 (by decide) ⟨zo4, ko4.2⟩ hv_o5
    have zo5 : 0 ≤ o5.toInt := by omega
    have ko6 := own_o _ _ _ 15 (by decide) ⟨zo5, ko5.2⟩ hv_o6
    have zo6 : 0 ≤ o6.toInt := by omega
    have ko7 := own_o _ _ _ 18 (by decide) ⟨zo6, ko6.2⟩ hv_o7
    have zo7 : 0 ≤ o7.toInt := by omega
    have yx1 := own_x _ _ _ hbd ⟨by omega, by omega⟩ hv_x1
    have yx2 := own_x _ _ _ hbd ⟨by omega, by omega⟩ hv_x2
    have yx3 := own_x _ _ _ hbd ⟨by omega, by omega⟩ hv_x3
    have hsrt : own_srt [bb, x1, x2, x3] := by
      simp only [own_srt, List.mem_cons, List.not_mem_nil, or_false, forall_eq_or_imp, forall_eq, false_implies, implies_true, and_true, true_and]
      omega
    rw [hrr] at hle hlt
    obtain ⟨fin1, fin2⟩ := own_fin [bb, x1, x2, x3] (4 : Int32) pp j le lt need 4 (by decide) (by rfl) (by decide) (by decide) hpp hsrt jz jn j2 j3 hle hlt hv_need
    have hc71 : ¬ (((100 : Int64) * (le.toInt64)) < need) := fin1
    have hc72 : ((100 : Int64) * (lt.toInt64)) < need := fin2
    have g73 : ∀ t, Steps p.tables e below (T69.setTop (mkF m 302 #[.val (.int p1), .val (.int p2), .val (.long q3), .second, .val (.int p4), .val (.int (4 : Int32)), .val (.int pp), .val (.long bb), .second, .val (.long o1), .second, .val (.long o2), .second, .val (.long o3), .second, .val (.long o4), .second, .val (.long o5), .second, .val (.long o6), .second, .val (.long o7), .second, .val (.ref b54), .val (.long rr), .second, .val (.int le), .val (.int lt), .val (.long need), .second] [(.int (1 : Int32))])) t → Steps p.tables e below (s₁.setTop (entryFrame m #[(.int p1), (.int p2), (.long q3), (.int p4)] maxLocals)) t := by
      intro t k
      refine g70 t ?_
      show Steps p.tables e below (T69.setTop (mkF m 269 #[.val (.int p1), .val (.int p2), .val (.long q3), .second, .val (.int p4), .val (.int (4 : Int32)), .val (.int pp), .val (.long bb), .second, .val (.long o1), .second, .val (.long o2), .second, .val (.long o3), .second, .val (.long o4), .second, .val (.long o5), .second, .val (.long o6), .second, .val (.long o7), .second, .val (.ref b54), .val (.long rr), .second, .val (.int le), .val (.int lt), .unset, .unset] [(.long need)])) _
      refine XS.lstore X69.here hx rfl (hb hby at_269) rfl (l' := #[.val (.int p1), .val (.int p2), .val (.long q3), .second, .val (.int p4), .val (.int (4 : Int32)), .val (.int pp), .val (.long bb), .second, .val (.long o1), .second, .val (.long o2), .second, .val (.long o3), .second, .val (.long o4), .second, .val (.long o5), .second, .val (.long o6), .second, .val (.long o7), .second, .val (.ref b54), .val (.long rr), .second, .val (.int le), .val (.int lt), .val (.long need), .second]) rfl ?_
      refine X69.ldc2Long hx hown (mvT hZ (hw _ (List.mem_of_getElem? (i := 20) rfl))) (g := (mkF m 271 #[.val (.int p1), .val (.int p2), .val (.long q3), .second, .val (.int p4), .val (.int (4 : Int32)), .val (.int pp), .val (.long bb), .second, .val (.long o1), .second, .val (.long o2), .second, .val (.long o3), .second, .val (.long o4), .second, .val (.long o5), .second, .val (.long o6), .second, .val (.long o7), .second, .val (.ref b54), .val (.long rr), .second, .val (.int le), .val (.int lt), .val (.long need), .second] [])) rfl (hb hby at_271) _ ?_
      refine XS.iload X69.here hx rfl (hb hby at_274) rfl ?_
      refine XS.i2l X69.here hx rfl (hb hby at_276) rfl ?_
      show Steps p.tables e below (T69.setTop (mkF m 277 #[.val (.int p1), .val (.int p2), .val (.long q3), .second, .val (.int p4), .val (.int (4 : Int32)), .val (.int pp), .val (.long bb), .second, .val (.long o1), .second, .val (.long o2), .second, .val (.long o3), .second, .val (.long o4), .second, .val (.long o5), .second, .val (.long o6), .second, .val (.long o7), .second, .val (.ref b54), .val (.long rr), .second, .val (.int le), .val (.int lt), .val (.long need), .second] [(.long (le.toInt64)), (.long (100 : Int64))])) _
      refine XS.lmul X69.here hx rfl (hb hby at_277) rfl ?_
      refine XS.lload X69.here hx rfl (hb hby at_278) rfl ?_
      refine XS.lcmp X69.here hx rfl (hb hby at_280) rfl ?_
      refine XS.ifNo X69.here hx rfl (hb hby at_281) rfl ((if0 _ _).trans (flt (fun q => hc71 ((lw_lt _ _).mp q))).1) ?_
      show Steps p.tables e below (T69.setTop (mkF m 284 #[.val (.int p1), .val (.int p2), .val (.long q3), .second, .val (.int p4), .val (.int (4 : Int32)), .val (.int pp), .val (.long bb), .second, .val (.long o1), .second, .val (.long o2), .second, .val (.long o3), .second, .val (.long o4), .second, .val (.long o5), .second, .val (.long o6), .second, .val (.long o7), .second, .val (.ref b54), .val (.long rr), .second, .val (.int le), .val (.int lt), .val (.long need), .second] [])) _
      refine X69.ldc2Long hx hown (mvT hZ (hw _ (List.mem_of_getElem? (i := 20) rfl))) (g := (mkF m 284 #[.val (.int p1), .val (.int p2), .val (.long q3), .second, .val (.int p4), .val (.int (4 : Int32)), .val (.int pp), .val (.long bb), .second, .val (.long o1), .second, .val (.long o2), .second, .val (.long o3), .second, .val (.long o4), .second, .val (.long o5), .second, .val (.long o6), .second, .val (.long o7), .second, .val (.ref b54), .val (.long rr), .second, .val (.int le), .val (.int lt), .val (.long need), .second] [])) rfl (hb hby at_284) _ ?_
      refine XS.iload X69.here hx rfl (hb hby at_287) rfl ?_
      refine XS.i2l X69.here hx rfl (hb hby at_289) rfl ?_
      refine XS.lmul X69.here hx rfl (hb hby at_290) rfl ?_
      show Steps p.tables e below (T69.setTop (mkF m 291 #[.val (.int p1), .val (.int p2), .val (.long q3), .second, .val (.int p4), .val (.int (4 : Int32)), .val (.int pp), .val (.long bb), .second, .val (.long o1), .second, .val (.long o2), .second, .val (.long o3), .second, .val (.long o4), .second, .val (.long o5), .second, .val (.long o6), .second, .val (.long o7), .second, .val (.ref b54), .val (.long rr), .second, .val (.int le), .val (.int lt), .val (.long need), .second] [(.long ((100 : Int64) * (lt.toInt64)))])) _
      refine XS.lload X69.here hx rfl (hb hby at_291) rfl ?_
      refine XS.lcmp X69.here hx rfl (hb hby at_293) rfl ?_
      refine XS.ifNo X69.here hx rfl (hb hby at_294) rfl ((if0 _ _).trans (tlt ((lw_lt _ _).mpr hc72)).2.1) ?_
      refine XS.iconst X69.here hx rfl (hb hby at_297) ?_
      show Steps p.tables e below (T69.setTop (mkF m 298 #[.val (.int p1), .val (.int p2), .val (.long q3), .second, .val (.int p4), .val (.int (4 : Int32)), .val (.int pp), .val (.long bb), .second, .val (.long o1), .second, .val (.long o2), .second, .val (.long o3), .second, .val (.long o4), .second, .val (.long o5), .second, .val (.long o6), .second, .val (.long o7), .second, .val (.ref b54), .val (.long rr), .second, .val (.int le), .val (.int lt), .val (.long need), .second] [(.int (1 : Int32))])) _
      refine XS.goto X69.here hx rfl (pc0 := 298) (pc' := 302) rfl (hb hby at_298) (by decide) (by decide) ?_
      exact k
    obtain ⟨fs, hrt, hrun, hended, hW, hsame⟩ := X69.leave (v := some (.int (1 : Int32))) (fun h => by rw [Bd.returns] at h; cases h)
    refine ⟨_, _, g73 _ ?_, hrun, hended, _, _, rfl, ?_, ⟨_, rfl⟩, hW, hsame.mono (by decide) (by decide)⟩
    · show Steps p.tables e below (T69.setTop (mkF m 302 #[.val (.int p1), .val (.int p2), .val (.long q3), .second, .val (.int p4), .val (.int (4 : Int32)), .val (.int pp), .val (.long bb), .second, .val (.long o1), .second, .val (.long o2), .second, .val (.long o3), .second, .val (.long o4), .second, .val (.long o5), .second, .val (.long o6), .second, .val (.long o7), .second, .val (.ref b54), .val (.long rr), .second, .val (.int le), .val (.int lt), .val (.long need), .second] [(.int (1 : Int32))])) _
      exact retN X69 hx (t := .boolean) Bd.returns (by simp) (hb hby at_302) hrt
    · show own_Q_rm0 Z p1 p2 q3 p4 h0 n0 _ T69.heap _
      rw [e69]
      exact ⟨rfl, N69⟩
  · skip
    obtain ⟨T74, h74, k74, X74, e74, E74, A74, st74⟩ := newP X3 hx hZ (hw _ (List.mem_of_getElem? (i := 6) rfl)) e3 (g := (mkF m 116 #[.val (.int p1), .val (.int p2), .val (.long q3), .second, .val (.int p4), .val (.int (5 : Int32)), .val (.int pp), .val (.long bb), .second, .val (.long o1), .second, .val (.long o2), .second, .val (.long o3), .second, .val (.long o4), .second, .val (.long o5), .second, .val (.long o6), .second, .val (.long o7), .second, .unset, .unset, .unset, .unset, .unset, .unset, .unset] [(.int (5 : Int32))])) rfl (hb hby at_116) rfl (by decide) (cap := 5) (by decide) (by decide) (by decide) (by decide)
    obtain ⟨b74, q_b74⟩ : ∃ z, z = h0.size := ⟨_, rfl⟩
    rw [← q_b74] at A74 st74
    have sz_b74 : h0.size ≤ b74 := Nat.le_of_eq q_b74.symm
    have gz_b74 : n0 ≤ b74 := Nat.le_trans Z0 sz_b74
    have V74 : Arv Z h74 b74 k74 .long (5 : Int32) [(.long (0 : Int64)), (.long (0 : Int64)), (.long (0 : Int64)), (.long (0 : Int64)), (.long (0 : Int64))] (.long (0 : Int64)) := (Arv.new A74 (by decide)).pad (pad_rep [] (.long (0 : Int64)) 5)
    obtain ⟨c75, Ar75, cq75, S75, Nn75, Hh75, Gg75⟩ := id V74
    have hin75 : ¬ ((0 : Int32) < 0 ∨ c75.slots.size ≤ ((0 : Int32)).toNatClampNeg) := inb_of S75 ⟨by decide, by decide⟩
    obtain ⟨T76, h76, X76, e76, W76, st76⟩ := stJ X74 hx hZ e74 Ar75 (j := (0 : Int32)) hin75 (g := (mkF m 125 #[.val (.int p1), .val (.int p2), .val (.long q3), .second, .val (.int p4), .val (.int (5 : Int32)), .val (.int pp), .val (.long bb), .second, .val (.long o1), .second, .val (.long o2), .second, .val (.long o3), .second, .val (.long o4), .second, .val (.long o5), .second, .val (.long o6), .second, .val (.long o7), .second, .val (.ref b74), .unset, .unset, .unset, .unset, .unset, .unset] [(.long bb), (.int (0 : Int32)), (.ref b74)])) rfl rfl (hb hby at_125)
    have V76 := Arv.set Ar75 cq75 S75 Nn75 Hh75 Gg75 rfl W76 0 rfl (Nat.le_of_ble_eq_true rfl)
    have V76a : Arv Z h76 b74 k74 .long (5 : Int32) [(.long bb), (.long (0 : Int64)), (.long (0 : Int64)), (.long (0 : Int64)), (.long (0 : Int64))] (.long (0 : Int64)) := V76
    have N76 := Fr.snoc X76 N3 gz_b74
    obtain ⟨x1, hv_x1⟩ : ∃ z : Int64, z = (bb + o1) := ⟨_, rfl⟩
    have g77 : ∀ t, Steps p.tables e below (T76.setTop (mkF m 140 #[.val (.int p1), .val (.int p2), .val (.long q3), .second, .val (.int p4), .val (.int (5 : Int32)), .val (.int pp), .val (.long bb), .second, .val (.long o1), .second, .val (.long o2), .second, .val (.long o3), .second, .val (.long o4), .second, .val (.long o5), .second, .val (.long o6), .second, .val (.long o7), .second, .val (.ref b74), .unset, .unset, .unset, .unset, .unset, .unset] [(.long x1), (.int (1 : Int32)), (.ref b74)])) t → Steps p.tables e below (s₁.setTop (entryFrame m #[(.int p1), (.int p2), (.long q3), (.int p4)] maxLocals)) t := by
      intro t k
      rw [hv_x1] at k
      refine g11 t ?_
      show Steps p.tables e below (T3.setTop (mkF m 114 #[.val (.int p1), .val (.int p2), .val (.long q3), .second, .val (.int p4), .val (.int (5 : Int32)), .val (.int pp), .val (.long bb), .second, .val (.long o1), .second, .val (.long o2), .second, .val (.long o3), .second, .val (.long o4), .second, .val (.long o5), .second, .val (.long o6), .second, .val (.long o7), .second, .unset, .unset, .unset, .unset, .unset, .unset, .unset] [])) _
      refine XS.iload X3.here hx rfl (hb hby at_114) rfl ?_
      refine st74 _ ?_
      refine XS.astore X74.here hx rfl (hb hby at_118) rfl rfl (l' := #[.val (.int p1), .val (.int p2), .val (.long q3), .second, .val (.int p4), .val (.int (5 : Int32)), .val (.int pp), .val (.long bb), .second, .val (.long o1), .second, .val (.long o2), .second, .val (.long o3), .second, .val (.long o4), .second, .val (.long o5), .second, .val (.long o6), .second, .val (.long o7), .second, .val (.ref b74), .unset, .unset, .unset, .unset, .unset, .unset]) rfl ?_
      refine XS.aload X74.here hx rfl (hb hby at_120) rfl rfl ?_
      show Steps p.tables e below (T74.setTop (mkF m 122 #[.val (.int p1), .val (.int p2), .val (.long q3), .second, .val (.int p4), .val (.int (5 : Int32)), .val (.int pp), .val (.long bb), .second, .val (.long o1), .second, .val (.long o2), .second, .val (.long o3), .second, .val (.long o4), .second, .val (.long o5), .second, .val (.long o6), .second, .val (.long o7), .second, .val (.ref b74), .unset, .unset, .unset, .unset, .unset, .unset] [(.ref b74)])) _
      refine XS.iconst X74.here hx rfl (hb hby at_122) ?_
      refine XS.lload X74.here hx rfl (hb hby at_123) rfl ?_
      refine st76 _ ?_
      refine XS.iload X76.here hx rfl (hb hby at_126) rfl ?_
      show Steps p.tables e below (T76.setTop (mkF m 128 #[.val (.int p1), .val (.int p2), .val (.long q3), .second, .val (.int p4), .val (.int (5 : Int32)), .val (.int pp), .val (.long bb), .second, .val (.long o1), .second, .val (.long o2), .second, .val (.long o3), .second, .val (.long o4), .second, .val (.long o5), .second, .val (.long o6), .second, .val (.long o7), .second, .val (.ref b74), .unset, .unset, .unset, .unset, .unset, .unset] [(.int (5 : Int32))])) _
      refine XS.iconst X76.here hx rfl (hb hby at_128) ?_
      refine XS.icmpNo X76.here hx rfl (hb hby at_129) rfl (tlt (by decide : (1 : Int32) < (5 : Int32))).2.2.2 ?_
      refine XS.aload X76.here hx rfl (hb hby at_132) rfl rfl ?_
      refine XS.iconst X76.here hx rfl (hb hby at_134) ?_
      show Steps p.tables e below (T76.setTop (mkF m 135 #[.val (.int p1), .val (.int p2), .val (.long q3), .second, .val (.int p4), .val (.int (5 : Int32)), .val (.int pp), .val (.long bb), .second, .val (.long o1), .second, .val (.long o2), .second, .val (.long o3), .second, .val (.long o4), .second, .val (.long o5), .second, .val (.long o6), .second, .val (.long o7), .second, .val (.ref b74), .unset, .unset, .unset, .unset, .unset, .unset] [(.int (1 : Int32)), (.ref b74)])) _
      refine XS.lload X76.here hx rfl (hb hby at_135) rfl ?_
      refine XS.lload X76.here hx rfl (hb hby at_137) rfl ?_
      refine XS.ladd X76.here hx rfl (hb hby at_139) rfl ?_
      exact k
    obtain ⟨c78, Ar78, cq78, S78, Nn78, Hh78, Gg78⟩ := id V76a
    have hin78 : ¬ ((1 : Int32) < 0 ∨ c78.slots.size ≤ ((1 : Int32)).toNatClampNeg) := inb_of S78 ⟨by decide, by decide⟩
    obtain ⟨T79, h79, X79, e79, W79, st79⟩ := stJ X76 hx hZ e76 Ar78 (j := (1 : Int32)) hin78 (g := (mkF m 140 #[.val (.int p1), .val (.int p2), .val (.long q3), .second, .val (.int p4), .val (.int (5 : Int32)), .val (.int pp), .val (.long bb), .second, .val (.long o1), .second, .val (.long o2), .second, .val (.long o3), .second, .val (.long o4), .second, .val (.long o5), .second, .val (.long o6), .second, .val (.long o7), .second, .val (.ref b74), .unset, .unset, .unset, .unset, .unset, .unset] [(.long x1), (.int (1 : Int32)), (.ref b74)])) rfl rfl (hb hby at_140)
    have V79 := Arv.set Ar78 cq78 S78 Nn78 Hh78 Gg78 rfl W79 1 rfl (Nat.le_of_ble_eq_true rfl)
    have V79a : Arv Z h79 b74 k74 .long (5 : Int32) [(.long bb), (.long x1), (.long (0 : Int64)), (.long (0 : Int64)), (.long (0 : Int64))] (.long (0 : Int64)) := V79
    have N79 := Fr.snoc X79 N76 gz_b74
    obtain ⟨x2, hv_x2⟩ : ∃ z : Int64, z = (bb + o2) := ⟨_, rfl⟩
    have g80 : ∀ t, Steps p.tables e below (T79.setTop (mkF m 155 #[.val (.int p1), .val (.int p2), .val (.long q3), .second, .val (.int p4), .val (.int (5 : Int32)), .val (.int pp), .val (.long bb), .second, .val (.long o1), .second, .val (.long o2), .second, .val (.long o3), .second, .val (.long o4), .second, .val (.long o5), .second, .val (.long o6), .second, .val (.long o7), .second, .val (.ref b74), .unset, .unset, .unset, .unset, .unset, .unset] [(.long x2), (.int (2 : Int32)), (.ref b74)])) t → Steps p.tables e below (s₁.setTop (entryFrame m #[(.int p1), (.int p2), (.long q3), (.int p4)] maxLocals)) t := by
      intro t k
      rw [hv_x2] at k
      refine g77 t ?_
      show Steps p.tables e below (T76.setTop (mkF m 140 #[.val (.int p1), .val (.int p2), .val (.long q3), .second, .val (.int p4), .val (.int (5 : Int32)), .val (.int pp), .val (.long bb), .second, .val (.long o1), .second, .val (.long o2), .second, .val (.long o3), .second, .val (.long o4), .second, .val (.long o5), .second, .val (.long o6), .second, .val (.long o7), .second, .val (.ref b74), .unset, .unset, .unset, .unset, .unset, .unset] [(.long x1), (.int (1 : Int32)), (.ref b74)])) _
      refine st79 _ ?_
      refine XS.iload X79.here hx rfl (hb hby at_141) rfl ?_
      refine XS.iconst X79.here hx rfl (hb hby at_143) ?_
      refine XS.icmpNo X79.here hx rfl (hb hby at_144) rfl (tlt (by decide : (2 : Int32) < (5 : Int32))).2.2.2 ?_
      show Steps p.tables e below (T79.setTop (mkF m 147 #[.val (.int p1), .val (.int p2), .val (.long q3), .second, .val (.int p4), .val (.int (5 : Int32)), .val (.int pp), .val (.long bb), .second, .val (.long o1), .second, .val (.long o2), .second, .val (.long o3), .second, .val (.long o4), .second, .val (.long o5), .second, .val (.long o6), .second, .val (.long o7), .second, .val (.ref b74), .unset, .unset, .unset, .unset, .unset, .unset] [])) _
      refine XS.aload X79.here hx rfl (hb hby at_147) rfl rfl ?_
      refine XS.iconst X79.here hx rfl (hb hby at_149) ?_
      refine XS.lload X79.here hx rfl (hb hby at_150) rfl ?_
      refine XS.lload X79.here hx rfl (hb hby at_152) rfl ?_
      show Steps p.tables e below (T79.setTop (mkF m 154 #[.val (.int p1), .val (.int p2), .val (.long q3), .second, .val (.int p4), .val (.int (5 : Int32)), .val (.int pp), .val (.long bb), .second, .val (.long o1), .second, .val (.long o2), .second, .val (.long o3), .second, .val (.long o4), .second, .val (.long o5), .second, .val (.long o6), .second, .val (.long o7), .second, .val (.ref b74), .unset, .unset, .unset, .unset, .unset, .unset] [(.long o2), (.long bb), (.int (2 : Int32)), (.ref b74)])) _
      refine XS.ladd X79.here hx rfl (hb hby at_154) rfl ?_
      exact k
    obtain ⟨c81, Ar81, cq81, S81, Nn81, Hh81, Gg81⟩ := id V79a
    have hin81 : ¬ ((2 : Int32) < 0 ∨ c81.slots.size ≤ ((2 : Int32)).toNatClampNeg) := inb_of S81 ⟨by decide, by decide⟩
    obtain ⟨T82, h82, X82, e82, W82, st82⟩ := stJ X79 hx hZ e79 Ar81 (j := (2 : Int32)) hin81 (g := (mkF m 155 #[.val (.int p1), .val (.int p2), .val (.long q3), .second, .val (.int p4), .val (.int (5 : Int32)), .val (.int pp), .val (.long bb), .second, .val (.long o1), .second, .val (.long o2), .second, .val (.long o3), .second, .val (.long o4), .second, .val (.long o5), .second, .val (.long o6), .second, .val (.long o7), .second, .val (.ref b74), .unset, .unset, .unset, .unset, .unset, .unset] [(.long x2), (.int (2 : Int32)), (.ref b74)])) rfl rfl (hb hby at_155)
    have V82 := Arv.set Ar81 cq81 S81 Nn81 Hh81 Gg81 rfl W82 2 rfl (Nat.le_of_ble_eq_true rfl)
    have V82a : Arv Z h82 b74 k74 .long (5 : Int32) [(.long bb), (.long x1), (.long x2), (.long (0 : Int64)), (.long (0 : Int64))] (.long (0 : Int64)) := V82
    have N82 := Fr.snoc X82 N79 gz_b74
    obtain ⟨x3, hv_x3⟩ : ∃ z : Int64, z = (bb + o3) := ⟨_, rfl⟩
    have g83 : ∀ t, Steps p.tables e below (T82.setTop (mkF m 170 #[.val (.int p1), .val (.int p2), .val (.long q3), .second, .val (.int p4), .val (.int (5 : Int32)), .val (.int pp), .val (.long bb), .second, .val (.long o1), .second, .val (.long o2), .second, .val (.long o3), .second, .val (.long o4), .second, .val (.long o5), .second, .val (.long o6), .second, .val (.long o7), .second, .val (.ref b74), .unset, .unset, .unset, .unset, .unset, .unset] [(.long x3), (.int (3 : Int32)), (.ref b74)])) t → Steps p.tables e below (s₁.setTop (entryFrame m #[(.int p1), (.int p2), (.long q3), (.int p4)] maxLocals)) t := by
      intro t k
      rw [hv_x3] at k
      refine g80 t ?_
      show Steps p.tables e below (T79.setTop (mkF m 155 #[.val (.int p1), .val (.int p2), .val (.long q3), .second, .val (.int p4), .val (.int (5 : Int32)), .val (.int pp), .val (.long bb), .second, .val (.long o1), .second, .val (.long o2), .second, .val (.long o3), .second, .val (.long o4), .second, .val (.long o5), .second, .val (.long o6), .second, .val (.long o7), .second, .val (.ref b74), .unset, .unset, .unset, .unset, .unset, .unset] [(.long x2), (.int (2 : Int32)), (.ref b74)])) _
      refine st82 _ ?_
      refine XS.iload X82.here hx rfl (hb hby at_156) rfl ?_
      refine XS.iconst X82.here hx rfl (hb hby at_158) ?_
      refine XS.icmpNo X82.here hx rfl (hb hby at_159) rfl (tlt (by decide : (3 : Int32) < (5 : Int32))).2.2.2 ?_
      show Steps p.tables e below (T82.setTop (mkF m 162 #[.val (.int p1), .val (.int p2), .val (.long q3), .second, .val (.int p4), .val (.int (5 : Int32)), .val (.int pp), .val (.long bb), .second, .val (.long o1), .second, .val (.long o2), .second, .val (.long o3), .second, .val (.long o4), .second, .val (.long o5), .second, .val (.long o6), .second, .val (.long o7), .second, .val (.ref b74), .unset, .unset, .unset, .unset, .unset, .unset] [])) _
      refine XS.aload X82.here hx rfl (hb hby at_162) rfl rfl ?_
      refine XS.iconst X82.here hx rfl (hb hby at_164) ?_
      refine XS.lload X82.here hx rfl (hb hby at_165) rfl ?_
      refine XS.lload X82.here hx rfl (hb hby at_167) rfl ?_
      show Steps p.tables e below (T82.setTop (mkF m 169 #[.val (.int p1), .val (.int p2), .val (.long q3), .second, .val (.int p4), .val (.int (5 : Int32)), .val (.int pp), .val (.long bb), .second, .val (.long o1), .second, .val (.long o2), .second, .val (.long o3), .second, .val (.long o4), .second, .val (.long o5), .second, .val (.long o6), .second, .val (.long o7), .second, .val (.ref b74), .unset, .unset, .unset, .unset, .unset, .unset] [(.long o3), (.long bb), (.int (3 : Int32)), (.ref b74)])) _
      refine XS.ladd X82.here hx rfl (hb hby at_169) rfl ?_
      exact k
    obtain ⟨c84, Ar84, cq84, S84, Nn84, Hh84, Gg84⟩ := id V82a
    have hin84 : ¬ ((3 : Int32) < 0 ∨ c84.slots.size ≤ ((3 : Int32)).toNatClampNeg) := inb_of S84 ⟨by decide, by decide⟩
    obtain ⟨T85, h85, X85, e85, W85, st85⟩ := stJ X82 hx hZ e82 Ar84 (j := (3 : Int32)) hin84 (g := (mkF m 170 #[.val (.int p1), .val (.int p2), .val (.long q3), .second, .val (.int p4), .val (.int (5 : Int32)), .val (.int pp), .val (.long bb), .second, .val (.long o1), .second, .val (.long o2), .second, .val (.long o3), .second, .val (.long o4), .second, .val (.long o5), .second, .val (.long o6), .second, .val (.long o7), .second, .val (.ref b74), .unset, .unset, .unset, .unset, .unset, .unset] [(.long x3), (.int (3 : Int32)), (.ref b74)])) rfl rfl (hb hby at_170)
    have V85 := Arv.set Ar84 cq84 S84 Nn84 Hh84 Gg84 rfl W85 3 rfl (Nat.le_of_ble_eq_true rfl)
    have V85a : Arv Z h85 b74 k74 .long (5 : Int32) [(.long bb), (.long x1), (.long x2), (.long x3), (.long (0 : Int64))] (.long (0 : Int64)) := V85
    have N85 := Fr.snoc X85 N82 gz_b74
    obtain ⟨x4, hv_x4⟩ : ∃ z : Int64, z = (bb + o4) := ⟨_, rfl⟩
    have g86 : ∀ t, Steps p.tables e below (T85.setTop (mkF m 185 #[.val (.int p1), .val (.int p2), .val (.long q3), .second, .val (.int p4), .val (.int (5 : Int32)), .val (.int pp), .val (.long bb), .second, .val (.long o1), .second, .val (.long o2), .second, .val (.long o3), .second, .val (.long o4), .second, .val (.long o5), .second, .val (.long o6), .second, .val (.long o7), .second, .val (.ref b74), .unset, .unset, .unset, .unset, .unset, .unset] [(.long x4), (.int (4 : Int32)), (.ref b74)])) t → Steps p.tables e below (s₁.setTop (entryFrame m #[(.int p1), (.int p2), (.long q3), (.int p4)] maxLocals)) t := by
      intro t k
      rw [hv_x4] at k
      refine g83 t ?_
      show Steps p.tables e below (T82.setTop (mkF m 170 #[.val (.int p1), .val (.int p2), .val (.long q3), .second, .val (.int p4), .val (.int (5 : Int32)), .val (.int pp), .val (.long bb), .second, .val (.long o1), .second, .val (.long o2), .second, .val (.long o3), .second, .val (.long o4), .second, .val (.long o5), .second, .val (.long o6), .second, .val (.long o7), .second, .val (.ref b74), .unset, .unset, .unset, .unset, .unset, .unset] [(.long x3), (.int (3 : Int32)), (.ref b74)])) _
      refine st85 _ ?_
      refine XS.iload X85.here hx rfl (hb hby at_171) rfl ?_
      refine XS.iconst X85.here hx rfl (hb hby at_173) ?_
      refine XS.icmpNo X85.here hx rfl (hb hby at_174) rfl (tlt (by decide : (4 : Int32) < (5 : Int32))).2.2.2 ?_
      show Steps p.tables e below (T85.setTop (mkF m 177 #[.val (.int p1), .val (.int p2), .val (.long q3), .second, .val (.int p4), .val (.int (5 : Int32)), .val (.int pp), .val (.long bb), .second, .val (.long o1), .second, .val (.long o2), .second, .val (.long o3), .second, .val (.long o4), .second, .val (.long o5), .second, .val (.long o6), .second, .val (.long o7), .second, .val (.ref b74), .unset, .unset, .unset, .unset, .unset, .unset] [])) _
      refine XS.aload X85.here hx rfl (hb hby at_177) rfl rfl ?_
      refine XS.iconst X85.here hx rfl (hb hby at_179) ?_
      refine XS.lload X85.here hx rfl (hb hby at_180) rfl ?_
      refine XS.lload X85.here hx rfl (hb hby at_182) rfl ?_
      show Steps p.tables e below (T85.setTop (mkF m 184 #[.val (.int p1), .val (.int p2), .val (.long q3), .second, .val (.int p4), .val (.int (5 : Int32)), .val (.int pp), .val (.long bb), .second, .val (.long o1), .second, .val (.long o2), .second, .val (.long o3), .second, .val (.long o4), .second, .val (.long o5), .second, .val (.long o6), .second, .val (.long o7), .second, .val (.ref b74), .unset, .unset, .unset, .unset, .unset, .unset] [(.long o4), (.long bb), (.int (4 : Int32)), (.ref b74)])) _
      refine XS.ladd X85.here hx rfl (hb hby at_184) rfl ?_
      exact k
    obtain ⟨c87, Ar87, cq87, S87, Nn87, Hh87, Gg87⟩ := id V85a
    have hin87 : ¬ ((4 : Int32) < 0 ∨ c87.slots.size ≤ ((4 : Int32)).toNatClampNeg) := inb_of S87 ⟨by decide, by decide⟩
    obtain ⟨T88, h88, X88, e88, W88, st88⟩ := stJ X85 hx hZ e85 Ar87 (j := (4 : Int32)) hin87 (g := (mkF m 185 #[.val (.int p1), .val (.int p2), .val (.long q3), .second, .val (.int p4), .val (.int (5 : Int32)), .val (.int pp), .val (.long bb), .second, .val (.long o1), .second, .val (.long o2), .second, .val (.long o3), .second, .val (.long o4), .second, .val (.long o5), .second, .val (.long o6), .second, .val (.long o7), .second, .val (.ref b74), .unset, .unset, .unset, .unset, .unset, .unset] [(.long x4), (.int (4 : Int32)), (.ref b74)])) rfl rfl (hb hby at_185)
    have V88 := Arv.set Ar87 cq87 S87 Nn87 Hh87 Gg87 rfl W88 4 rfl (Nat.le_of_ble_eq_true rfl)
    have V88a : Arv Z h88 b74 k74 .long (5 : Int32) [(.long bb), (.long x1), (.long x2), (.long x3), (.long x4)] (.long (0 : Int64)) := V88
    have N88 := Fr.snoc X88 N85 gz_b74
    have o89 : Old Z n0 h88 := (Old.wr (Old.wr (Old.wr (Old.wr (Old.wr (Old.ext O0 E74) W76 gz_b74) W79 gz_b74) W82 gz_b74) W85 gz_b74) W88 gz_b74)
    have hpp := own_p _ _ hv_pp
    obtain ⟨j, hj, jz, jn, j2, j3⟩ := own_pct (5 : Int32) pp 5 (by decide) (by decide) (by decide) hpp
    have hj0 : ¬ j < 0 := by rw [Int32.lt_iff_toInt_lt, show (0 : Int32).toInt = 0 by decide]; omega
    have hj1 : j < (5 : Int32) := by rw [Int32.lt_iff_toInt_lt, show (5 : Int32).toInt = 5 by decide]; omega
    have hjl : j.toNatClampNeg < ([bb, x1, x2, x3, x4] : List Int64).length := by simp only [Int32.toNatClampNeg, List.length_cons, List.length_nil]; omega
    have hjr := own_getD [bb, x1, x2, x3, x4] j.toNatClampNeg hjl
    obtain ⟨rr, hrr⟩ : ∃ z : Int64, z = ([bb, x1, x2, x3, x4] : List Int64).getD j.toNatClampNeg 0 := ⟨_, rfl⟩
    rw [← hrr] at hjr
    obtain ⟨_, _, ⟨T90, L90, k90, n90⟩, -, X90, ⟨Lc90, hQ90, l90, y90, z90⟩, st90⟩ := Jvm.LawKit.callS X88 hx (y := (⟨"orderwire/bench/Latency", "percentile", "([JI)J"⟩ : MethodName)) hown (mvT hZ (hw _ (List.mem_of_getElem? (i := 7) rfl))) (mvT hZ (hw _ (List.mem_of_getElem? (i := 8) rfl))) (mvT hZ (hw _ (List.mem_of_getElem? (i := 9) rfl))) (mvT hZ (hw _ (List.mem_of_getElem? (i := 10) rfl))) (by decide) (backOf (W := 0) (rmPct5 l Z a0 hw [] b74 k74 bb x1 x2 x3 x4 rr pp j h88 n0 o89 V88a hj hj0 hj1 hjr) hZ (hw _ (List.mem_of_getElem? (i := 10) rfl)) (hw _ (List.mem_of_getElem? (i := 9) rfl)) (by decide) (by decide)) (g := (mkF m 239 #[.val (.int p1), .val (.int p2), .val (.long q3), .second, .val (.int p4), .val (.int (5 : Int32)), .val (.int pp), .val (.long bb), .second, .val (.long o1), .second, .val (.long o2), .second, .val (.long o3), .second, .val (.long o4), .second, .val (.long o5), .second, .val (.long o6), .second, .val (.long o7), .second, .val (.ref b74), .unset, .unset, .unset, .unset, .unset, .unset] [(.int pp), (.ref b74)])) rfl (by rw [hml]; rfl) (argsL := [(.ref b74), (.int pp)]) (rest := []) (lenOf own_pd1 rfl) rfl (by show 2 * 0 + _ ≤ _; exact Nat.le_of_eq rfl) (hb hby at_239) (fun _ _ => ⟨rfl, e88, (by decide : 1 + 0 ≤ _), (by decide : 5 + 0 ≤ _)⟩)
    dsimp only [Pt.U, Pt.locs, Pt.cells, Pt.slots] at X90 l90 y90 z90 st90 hQ90
    subst l90 y90 z90
    obtain ⟨rfl, Nq90, e90⟩ := hQ90
    have N90 := Fr.app N88 Nq90
    obtain ⟨le, hle⟩ : ∃ z : Int32, own_cle rr [bb, x1, x2, x3, x4] 0 = z := ⟨_, rfl⟩
    obtain ⟨_, _, ⟨T91, L91, k91, n91⟩, -, X91, ⟨Lc91, hQ91, l91, y91, z91⟩, st91⟩ := Jvm.LawKit.callS X90 hx (y := (⟨"orderwire/bench/LatencyPercentilePinLaw", "countLe", "([JJ)I"⟩ : MethodName)) hown (mvT hZ (hw _ (List.mem_of_getElem? (i := 13) rfl))) (mvT hZ (hw _ (List.mem_of_getElem? (i := 14) rfl))) (mvT hZ (hw _ (List.mem_of_getElem? (i := 15) rfl))) (mvT hZ (hw _ (List.mem_of_getElem? (i := 16) rfl))) (by decide) (backOf (W := 0) (rmcountLe5 l Z a0 hw [] b74 k74 bb x1 x2 x3 x4 rr le h88 n0 o89 V88a hle) hZ (hw _ (List.mem_of_getElem? (i := 16) rfl)) (hw _ (List.mem_of_getElem? (i := 15) rfl)) (by decide) (by decide)) (g := (mkF m 248 #[.val (.int p1), .val (.int p2), .val (.long q3), .second, .val (.int p4), .val (.int (5 : Int32)), .val (.int pp), .val (.long bb), .second, .val (.long o1), .second, .val (.long o2), .second, .val (.long o3), .second, .val (.long o4), .second, .val (.long o5), .second, .val (.long o6), .second, .val (.long o7), .second, .val (.ref b74), .val (.long rr), .second, .unset, .unset, .unset, .unset] [(.long rr), (.ref b74)])) rfl (by rw [hml]; rfl) (argsL := [(.ref b74), (.long rr)]) (rest := []) (lenOf own_pd2 rfl) rfl (by show 2 * 0 + _ ≤ _; exact Nat.le_of_eq rfl) (hb hby at_248) (fun _ _ => ⟨rfl, e90, (by decide : 1 + 0 ≤ _), (by decide : 5 + 0 ≤ _)⟩)
    dsimp only [Pt.U, Pt.locs, Pt.cells, Pt.slots] at X91 l91 y91 z91 st91 hQ91
    subst l91 y91 z91
    obtain ⟨rfl, Nq91, e91⟩ := hQ91
    have N91 := Fr.app N90 Nq91
    obtain ⟨lt, hlt⟩ : ∃ z : Int32, own_clt rr [bb, x1, x2, x3, x4] 0 = z := ⟨_, rfl⟩
    obtain ⟨_, _, ⟨T92, L92, k92, n92⟩, -, X92, ⟨Lc92, hQ92, l92, y92, z92⟩, st92⟩ := Jvm.LawKit.callS X91 hx (y := (⟨"orderwire/bench/LatencyPercentilePinLaw", "countLt", "([JJ)I"⟩ : MethodName)) hown (mvT hZ (hw _ (List.mem_of_getElem? (i := 17) rfl))) (mvT hZ (hw _ (List.mem_of_getElem? (i := 18) rfl))) (mvT hZ (hw _ (List.mem_of_getElem? (i := 15) rfl))) (mvT hZ (hw _ (List.mem_of_getElem? (i := 19) rfl))) (by decide) (backOf (W := 0) (rmcountLt5 l Z a0 hw [] b74 k74 bb x1 x2 x3 x4 rr lt h88 n0 o89 V88a hlt) hZ (hw _ (List.mem_of_getElem? (i := 19) rfl)) (hw _ (List.mem_of_getElem? (i := 15) rfl)) (by decide) (by decide)) (g := (mkF m 257 #[.val (.int p1), .val (.int p2), .val (.long q3), .second, .val (.int p4), .val (.int (5 : Int32)), .val (.int pp), .val (.long bb), .second, .val (.long o1), .second, .val (.long o2), .second, .val (.long o3), .second, .val (.long o4), .second, .val (.long o5), .second, .val (.long o6), .second, .val (.long o7), .second, .val (.ref b74), .val (.long rr), .second, .val (.int le), .unset, .unset, .unset] [(.long rr), (.ref b74)])) rfl (by rw [hml]; rfl) (argsL := [(.ref b74), (.long rr)]) (rest := []) (lenOf own_pd2 rfl) rfl (by show 2 * 0 + _ ≤ _; exact Nat.le_of_eq rfl) (hb hby at_257) (fun _ _ => ⟨rfl, e91, (by decide : 1 + 0 ≤ _), (by decide : 5 + 0 ≤ _)⟩)
    dsimp only [Pt.U, Pt.locs, Pt.cells, Pt.slots] at X92 l92 y92 z92 st92 hQ92
    subst l92 y92 z92
    obtain ⟨rfl, Nq92, e92⟩ := hQ92
    have N92 := Fr.app N91 Nq92
    obtain ⟨need, hv_need⟩ : ∃ z : Int64, z = ((pp.toInt64) * ((5 : Int32).toInt64)) := ⟨_, rfl⟩
    have g93 : ∀ t, Steps p.tables e below (T92.setTop (mkF m 269 #[.val (.int p1), .val (.int p2), .val (.long q3), .second, .val (.int p4), .val (.int (5 : Int32)), .val (.int pp), .val (.long bb), .second, .val (.long o1), .second, .val (.long o2), .second, .val (.long o3), .second, .val (.long o4), .second, .val (.long o5), .second, .val (.long o6), .second, .val (.long o7), .second, .val (.ref b74), .val (.long rr), .second, .val (.int le), .val (.int lt), .unset, .unset] [(.long need)])) t → Steps p.tables e below (s₁.setTop (entryFrame m #[(.int p1), (.int p2), (.long q3), (.int p4)] maxLocals)) t := by
      intro t k
      rw [hv_need] at k
      refine g86 t ?_
      show Steps p.tables e below (T85.setTop (mkF m 185 #[.val (.int p1), .val (.int p2), .val (.long q3), .second, .val (.int p4), .val (.int (5 : Int32)), .val (.int pp), .val (.long bb), .second, .val (.long o1), .second, .val (.long o2), .second, .val (.long o3), .second, .val (.long o4), .second, .val (.long o5), .second, .val (.long o6), .second, .val (.long o7), .second, .val (.ref b74), .unset, .unset, .unset, .unset, .unset, .unset] [(.long x4), (.int (4 : Int32)), (.ref b74)])) _
      refine st88 _ ?_
      refine XS.iload X88.here hx rfl (hb hby at_186) rfl ?_
      refine XS.iconst X88.here hx rfl (hb hby at_188) ?_
      refine XS.icmpYes X88.here hx rfl (pc0 := 189) (pc' := 201) rfl (hb hby at_189) rfl (flt (by decide : ¬ ((5 : Int32) < (5 : Int32)))).2.2.2 (by decide) (by decide) ?_
      show Steps p.tables e below (T88.setTop (mkF m 201 #[.val (.int p1), .val (.int p2), .val (.long q3), .second, .val (.int p4), .val (.int (5 : Int32)), .val (.int pp), .val (.long bb), .second, .val (.long o1), .second, .val (.long o2), .second, .val (.long o3), .second, .val (.long o4), .second, .val (.long o5), .second, .val (.long o6), .second, .val (.long o7), .second, .val (.ref b74), .unset, .unset, .unset, .unset, .unset, .unset] [])) _
      refine XS.iload X88.here hx rfl (hb hby at_201) rfl ?_
      refine XS.bipush X88.here hx rfl (hb hby at_203) ?_
      refine XS.icmpYes X88.here hx rfl (pc0 := 205) (pc' := 218) rfl (hb hby at_205) rfl (flt (by decide : ¬ ((6 : Int32) < (5 : Int32)))).2.2.2 (by decide) (by decide) ?_
      refine XS.iload X88.here hx rfl (hb hby at_218) rfl ?_
      show Steps p.tables e below (T88.setTop (mkF m 220 #[.val (.int p1), .val (.int p2), .val (.long q3), .second, .val (.int p4), .val (.int (5 : Int32)), .val (.int pp), .val (.long bb), .second, .val (.long o1), .second, .val (.long o2), .second, .val (.long o3), .second, .val (.long o4), .second, .val (.long o5), .second, .val (.long o6), .second, .val (.long o7), .second, .val (.ref b74), .unset, .unset, .unset, .unset, .unset, .unset] [(.int (5 : Int32))])) _
      refine XS.bipush X88.here hx rfl (hb hby at_220) ?_
      refine XS.icmpYes X88.here hx rfl (pc0 := 222) (pc' := 235) rfl (hb hby at_222) rfl (flt (by decide : ¬ ((7 : Int32) < (5 : Int32)))).2.2.2 (by decide) (by decide) ?_
      refine XS.aload X88.here hx rfl (hb hby at_235) rfl rfl ?_
      refine XS.iload X88.here hx rfl (hb hby at_237) rfl ?_
      show Steps p.tables e below (T88.setTop (mkF m 239 #[.val (.int p1), .val (.int p2), .val (.long q3), .second, .val (.int p4), .val (.int (5 : Int32)), .val (.int pp), .val (.long bb), .second, .val (.long o1), .second, .val (.long o2), .second, .val (.long o3), .second, .val (.long o4), .second, .val (.long o5), .second, .val (.long o6), .second, .val (.long o7), .second, .val (.ref b74), .unset, .unset, .unset, .unset, .unset, .unset] [(.int pp), (.ref b74)])) _
      refine st90 _ ?_
      refine XS.lstore X90.here hx rfl (hb hby at_242) rfl (l' := #[.val (.int p1), .val (.int p2), .val (.long q3), .second, .val (.int p4), .val (.int (5 : Int32)), .val (.int pp), .val (.long bb), .second, .val (.long o1), .second, .val (.long o2), .second, .val (.long o3), .second, .val (.long o4), .second, .val (.long o5), .second, .val (.long o6), .second, .val (.long o7), .second, .val (.ref b74), .val (.long rr), .second, .unset, .unset, .unset, .unset]) rfl ?_
      refine XS.aload X90.here hx rfl (hb hby at_244) rfl rfl ?_
      refine XS.lload X90.here hx rfl (hb hby at_246) rfl ?_
      show Steps p.tables e below (T90.setTop (mkF m 248 #[.val (.int p1), .val (.int p2), .val (.long q3), .second, .val (.int p4), .val (.int (5 : Int32)), .val (.int pp), .val (.long bb), .second, .val (.long o1), .second, .val (.long o2), .second, .val (.long o3), .second, .val (.long o4), .second, .val (.long o5), .second, .val (.long o6), .second, .val (.long o7), .second, .val (.ref b74), .val (.long rr), .second, .unset, .unset, .unset, .unset] [(.long rr), (.ref b74)])) _
      refine st91 _ ?_
      refine XS.istore X91.here hx rfl (hb hby at_251) rfl (l' := #[.val (.int p1), .val (.int p2), .val (.long q3), .second, .val (.int p4), .val (.int (5 : Int32)), .val (.int pp), .val (.long bb), .second, .val (.long o1), .second, .val (.long o2), .second, .val (.long o3), .second, .val (.long o4), .second, .val (.long o5), .second, .val (.long o6), .second, .val (.long o7), .second, .val (.ref b74), .val (.long rr), .second, .val (.int le), .unset, .unset, .unset]) rfl ?_
      refine XS.aload X91.here hx rfl (hb hby at_253) rfl rfl ?_
      refine XS.lload X91.here hx rfl (hb hby at_255) rfl ?_
      show Steps p.tables e below (T91.setTop (mkF m 257 #[.val (.int p1), .val (.int p2), .val (.long q3), .second, .val (.int p4), .val (.int (5 : Int32)), .val (.int pp), .val (.long bb), .second, .val (.long o1), .second, .val (.long o2), .second, .val (.long o3), .second, .val (.long o4), .second, .val (.long o5), .second, .val (.long o6), .second, .val (.long o7), .second, .val (.ref b74), .val (.long rr), .second, .val (.int le), .unset, .unset, .unset] [(.long rr), (.ref b74)])) _
      refine st92 _ ?_
      refine XS.istore X92.here hx rfl (hb hby at_260) rfl (l' := #[.val (.int p1), .val (.int p2), .val (.long q3), .second, .val (.int p4), .val (.int (5 : Int32)), .val (.int pp), .val (.long bb), .second, .val (.long o1), .second, .val (.long o2), .second, .val (.long o3), .second, .val (.long o4), .second, .val (.long o5), .second, .val (.long o6), .second, .val (.long o7), .second, .val (.ref b74), .val (.long rr), .second, .val (.int le), .val (.int lt), .unset, .unset]) rfl ?_
      refine XS.iload X92.here hx rfl (hb hby at_262) rfl ?_
      refine XS.i2l X92.here hx rfl (hb hby at_264) rfl ?_
      show Steps p.tables e below (T92.setTop (mkF m 265 #[.val (.int p1), .val (.int p2), .val (.long q3), .second, .val (.int p4), .val (.int (5 : Int32)), .val (.int pp), .val (.long bb), .second, .val (.long o1), .second, .val (.long o2), .second, .val (.long o3), .second, .val (.long o4), .second, .val (.long o5), .second, .val (.long o6), .second, .val (.long o7), .second, .val (.ref b74), .val (.long rr), .second, .val (.int le), .val (.int lt), .unset, .unset] [(.long (pp.toInt64))])) _
      refine XS.iload X92.here hx rfl (hb hby at_265) rfl ?_
      refine XS.i2l X92.here hx rfl (hb hby at_267) rfl ?_
      refine XS.lmul X92.here hx rfl (hb hby at_268) rfl ?_
      exact k
    have hbd := own_b _ _ hbb
    have ko1 := own_o1 _ _ hv_o1
    have ko2 := own_o _ _ _ 3 (by decide) ⟨ko1.1, ko1.2⟩ hv_o2
    have zo2 : 0 ≤ o2.toInt := by omega
    have ko3 := own_o _ _ _ 6 (by decide) ⟨zo2, ko2.2⟩ hv_o3
    have zo3 : 0 ≤ o3.toInt := by omega
    have ko4 := own_o _ _ _ 9 (by decide) ⟨zo3, ko3.2⟩ hv_o4
    have zo4 : 0 ≤ o4.toInt := by omega
    have ko5 := own_o _ _ _ 12 (by decide) ⟨zo4, ko4.2⟩ hv_o5
    have zo5 : 0 ≤ o5.toInt := by omega
    have ko6 := own_o _ _ _ 15 (by decide) ⟨zo5, ko5.2⟩ hv_o6
    have zo6 : 0 ≤ o6.toInt := by omega
    have ko7 := own_o _ _ _ 18 (by decide) ⟨zo6, ko6.2⟩ hv_o7
    have zo7 : 0 ≤ o7.toInt := by omega
    have yx1 := own_x _ _ _ hbd ⟨by omega, by omega⟩ hv_x1
    have yx2 := own_x _ _ _ hbd ⟨by omega, by omega⟩ hv_x2
    have yx3 := own_x _ _ _ hbd ⟨by omega, by omega⟩ hv_x3
    have yx4 := own_x _ _ _ hbd ⟨by omega, by omega⟩ hv_x4
    have hsrt : own_srt [bb, x1, x2, x3, x4] := by
      simp only [own_srt, List.mem_cons, List.not_mem_nil, or_false, forall_eq_or_imp, forall_eq, false_implies, implies_true, and_true, true_and]
      omega
    rw [hrr] at hle hlt
    obtain ⟨fin1, fin2⟩ := own_fin [bb, x1, x2, x3, x4] (5 : Int32) pp j le lt need 5 (by decide) (by rfl) (by decide) (by decide) hpp hsrt jz jn j2 j3 hle hlt hv_need
    have hc94 : ¬ (((100 : Int64) * (le.toInt64)) < need) := fin1
    have hc95 : ((100 : Int64) * (lt.toInt64)) < need := fin2
    have g96 : ∀ t, Steps p.tables e below (T92.setTop (mkF m 302 #[.val (.int p1), .val (.int p2), .val (.long q3), .second, .val (.int p4), .val (.int (5 : Int32)), .val (.int pp), .val (.long bb), .second, .val (.long o1), .second, .val (.long o2), .second, .val (.long o3), .second, .val (.long o4), .second, .val (.long o5), .second, .val (.long o6), .second, .val (.long o7), .second, .val (.ref b74), .val (.long rr), .second, .val (.int le), .val (.int lt), .val (.long need), .second] [(.int (1 : Int32))])) t → Steps p.tables e below (s₁.setTop (entryFrame m #[(.int p1), (.int p2), (.long q3), (.int p4)] maxLocals)) t := by
      intro t k
      refine g93 t ?_
      show Steps p.tables e below (T92.setTop (mkF m 269 #[.val (.int p1), .val (.int p2), .val (.long q3), .second, .val (.int p4), .val (.int (5 : Int32)), .val (.int pp), .val (.long bb), .second, .val (.long o1), .second, .val (.long o2), .second, .val (.long o3), .second, .val (.long o4), .second, .val (.long o5), .second, .val (.long o6), .second, .val (.long o7), .second, .val (.ref b74), .val (.long rr), .second, .val (.int le), .val (.int lt), .unset, .unset] [(.long need)])) _
      refine XS.lstore X92.here hx rfl (hb hby at_269) rfl (l' := #[.val (.int p1), .val (.int p2), .val (.long q3), .second, .val (.int p4), .val (.int (5 : Int32)), .val (.int pp), .val (.long bb), .second, .val (.long o1), .second, .val (.long o2), .second, .val (.long o3), .second, .val (.long o4), .second, .val (.long o5), .second, .val (.long o6), .second, .val (.long o7), .second, .val (.ref b74), .val (.long rr), .second, .val (.int le), .val (.int lt), .val (.long need), .second]) rfl ?_
      refine X92.ldc2Long hx hown (mvT hZ (hw _ (List.mem_of_getElem? (i := 20) rfl))) (g := (mkF m 271 #[.val (.int p1), .val (.int p2), .val (.long q3), .second, .val (.int p4), .val (.int (5 : Int32)), .val (.int pp), .val (.long bb), .second, .val (.long o1), .second, .val (.long o2), .second, .val (.long o3), .second, .val (.long o4), .second, .val (.long o5), .second, .val (.long o6), .second, .val (.long o7), .second, .val (.ref b74), .val (.long rr), .second, .val (.int le), .val (.int lt), .val (.long need), .second] [])) rfl (hb hby at_271) _ ?_
      refine XS.iload X92.here hx rfl (hb hby at_274) rfl ?_
      refine XS.i2l X92.here hx rfl (hb hby at_276) rfl ?_
      show Steps p.tables e below (T92.setTop (mkF m 277 #[.val (.int p1), .val (.int p2), .val (.long q3), .second, .val (.int p4), .val (.int (5 : Int32)), .val (.int pp), .val (.long bb), .second, .val (.long o1), .second, .val (.long o2), .second, .val (.long o3), .second, .val (.long o4), .second, .val (.long o5), .second, .val (.long o6), .second, .val (.long o7), .second, .val (.ref b74), .val (.long rr), .second, .val (.int le), .val (.int lt), .val (.long need), .second] [(.long (le.toInt64)), (.long (100 : Int64))])) _
      refine XS.lmul X92.here hx rfl (hb hby at_277) rfl ?_
      refine XS.lload X92.here hx rfl (hb hby at_278) rfl ?_
      refine XS.lcmp X92.here hx rfl (hb hby at_280) rfl ?_
      refine XS.ifNo X92.here hx rfl (hb hby at_281) rfl ((if0 _ _).trans (flt (fun q => hc94 ((lw_lt _ _).mp q))).1) ?_
      show Steps p.tables e below (T92.setTop (mkF m 284 #[.val (.int p1), .val (.int p2), .val (.long q3), .second, .val (.int p4), .val (.int (5 : Int32)), .val (.int pp), .val (.long bb), .second, .val (.long o1), .second, .val (.long o2), .second, .val (.long o3), .second, .val (.long o4), .second, .val (.long o5), .second, .val (.long o6), .second, .val (.long o7), .second, .val (.ref b74), .val (.long rr), .second, .val (.int le), .val (.int lt), .val (.long need), .second] [])) _
      refine X92.ldc2Long hx hown (mvT hZ (hw _ (List.mem_of_getElem? (i := 20) rfl))) (g := (mkF m 284 #[.val (.int p1), .val (.int p2), .val (.long q3), .second, .val (.int p4), .val (.int (5 : Int32)), .val (.int pp), .val (.long bb), .second, .val (.long o1), .second, .val (.long o2), .second, .val (.long o3), .second, .val (.long o4), .second, .val (.long o5), .second, .val (.long o6), .second, .val (.long o7), .second, .val (.ref b74), .val (.long rr), .second, .val (.int le), .val (.int lt), .val (.long need), .second] [])) rfl (hb hby at_284) _ ?_
      refine XS.iload X92.here hx rfl (hb hby at_287) rfl ?_
      refine XS.i2l X92.here hx rfl (hb hby at_289) rfl ?_
      refine XS.lmul X92.here hx rfl (hb hby at_290) rfl ?_
      show Steps p.tables e below (T92.setTop (mkF m 291 #[.val (.int p1), .val (.int p2), .val (.long q3), .second, .val (.int p4), .val (.int (5 : Int32)), .val (.int pp), .val (.long bb), .second, .val (.long o1), .second, .val (.long o2), .second, .val (.long o3), .second, .val (.long o4), .second, .val (.long o5), .second, .val (.long o6), .second, .val (.long o7), .second, .val (.ref b74), .val (.long rr), .second, .val (.int le), .val (.int lt), .val (.long need), .second] [(.long ((100 : Int64) * (lt.toInt64)))])) _
      refine XS.lload X92.here hx rfl (hb hby at_291) rfl ?_
      refine XS.lcmp X92.here hx rfl (hb hby at_293) rfl ?_
      refine XS.ifNo X92.here hx rfl (hb hby at_294) rfl ((if0 _ _).trans (tlt ((lw_lt _ _).mpr hc95)).2.1) ?_
      refine XS.iconst X92.here hx rfl (hb hby at_297) ?_
      show Steps p.tables e below (T92.setTop (mkF m 298 #[.val (.int p1), .val (.int p2), .val (.long q3), .second, .val (.int p4), .val (.int (5 : Int32)), .val (.int pp), .val (.long bb), .second, .val (.long o1), .second, .val (.long o2), .second, .val (.long o3), .second, .val (.long o4), .second, .val (.long o5), .second, .val (.long o6), .second, .val (.long o7), .second, .val (.ref b74), .val (.long rr), .second, .val (.int le), .val (.int lt), .val (.long need), .second] [(.int (1 : Int32))])) _
      refine XS.goto X92.here hx rfl (pc0 := 298) (pc' := 302) rfl (hb hby at_298) (by decide) (by decide) ?_
      exact k
    obtain ⟨fs, hrt, hrun, hended, hW, hsame⟩ := X92.leave (v := some (.int (1 : Int32))) (fun h => by rw [Bd.returns] at h; cases h)
    refine ⟨_, _, g96 _ ?_, hrun, hended, _, _, rfl, ?_, ⟨_, rfl⟩, hW, hsame.mono (by decide) (by decide)⟩
    · show Steps p.tables e below (T92.setTop (mkF m 302 #[.val (.int p1), .val (.int p2), .val (.long q3), .second, .val (.int p4), .val (.int (5 : Int32)), .val (.int pp), .val (.long bb), .second, .val (.long o1), .second, .val (.long o2), .second, .val (.long o3), .second, .val (.long o4), .second, .val (.long o5), .second, .val (.long o6), .second, .val (.long o7), .second, .val (.ref b74), .val (.long rr), .second, .val (.int le), .val (.int lt), .val (.long need), .second] [(.int (1 : Int32))])) _
      exact retN X92 hx (t := .boolean) Bd.returns (by simp) (hb hby at_302) hrt
    · show own_Q_rm0 Z p1 p2 q3 p4 h0 n0 _ T92.heap _
      rw [e92]
      exact ⟨rfl, N92⟩
  · skip
    obtain ⟨T97, h97, k97, X97, e97, E97, A97, st97⟩ := newP X3 hx hZ (hw _ (List.mem_of_getElem? (i := 6) rfl)) e3 (g := (mkF m 116 #[.val (.int p1), .val (.int p2), .val (.long q3), .second, .val (.int p4), .val (.int (6 : Int32)), .val (.int pp), .val (.long bb), .second, .val (.long o1), .second, .val (.long o2), .second, .val (.long o3), .second, .val (.long o4), .second, .val (.long o5), .second, .val (.long o6), .second, .val (.long o7), .second, .unset, .unset, .unset, .unset, .unset, .unset, .unset] [(.int (6 : Int32))])) rfl (hb hby at_116) rfl (by decide) (cap := 6) (by decide) (by decide) (by decide) (by decide)
    obtain ⟨b97, q_b97⟩ : ∃ z, z = h0.size := ⟨_, rfl⟩
    rw [← q_b97] at A97 st97
    have sz_b97 : h0.size ≤ b97 := Nat.le_of_eq q_b97.symm
    have gz_b97 : n0 ≤ b97 := Nat.le_trans Z0 sz_b97
    have V97 : Arv Z h97 b97 k97 .long (6 : Int32) [(.long (0 : Int64)), (.long (0 : Int64)), (.long (0 : Int64)), (.long (0 : Int64)), (.long (0 : Int64)), (.long (0 : Int64))] (.long (0 : Int64)) := (Arv.new A97 (by decide)).pad (pad_rep [] (.long (0 : Int64)) 6)
    obtain ⟨c98, Ar98, cq98, S98, Nn98, Hh98, Gg98⟩ := id V97
    have hin98 : ¬ ((0 : Int32) < 0 ∨ c98.slots.size ≤ ((0 : Int32)).toNatClampNeg) := inb_of S98 ⟨by decide, by decide⟩
    obtain ⟨T99, h99, X99, e99, W99, st99⟩ := stJ X97 hx hZ e97 Ar98 (j := (0 : Int32)) hin98 (g := (mkF m 125 #[.val (.int p1), .val (.int p2), .val (.long q3), .second, .val (.int p4), .val (.int (6 : Int32)), .val (.int pp), .val (.long bb), .second, .val (.long o1), .second, .val (.long o2), .second, .val (.long o3), .second, .val (.long o4), .second, .val (.long o5), .second, .val (.long o6), .second, .val (.long o7), .second, .val (.ref b97), .unset, .unset, .unset, .unset, .unset, .unset] [(.long bb), (.int (0 : Int32)), (.ref b97)])) rfl rfl (hb hby at_125)
    have V99 := Arv.set Ar98 cq98 S98 Nn98 Hh98 Gg98 rfl W99 0 rfl (Nat.le_of_ble_eq_true rfl)
    have V99a : Arv Z h99 b97 k97 .long (6 : Int32) [(.long bb), (.long (0 : Int64)), (.long (0 : Int64)), (.long (0 : Int64)), (.long (0 : Int64)), (.long (0 : Int64))] (.long (0 : Int64)) := V99
    have N99 := Fr.snoc X99 N3 gz_b97
    obtain ⟨x1, hv_x1⟩ : ∃ z : Int64, z = (bb + o1) := ⟨_, rfl⟩
    have g100 : ∀ t, Steps p.tables e below (T99.setTop (mkF m 140 #[.val (.int p1), .val (.int p2), .val (.long q3), .second, .val (.int p4), .val (.int (6 : Int32)), .val (.int pp), .val (.long bb), .second, .val (.long o1), .second, .val (.long o2), .second, .val (.long o3), .second, .val (.long o4), .second, .val (.long o5), .second, .val (.long o6), .second, .val (.long o7), .second, .val (.ref b97), .unset, .unset, .unset, .unset, .unset, .unset] [(.long x1), (.int (1 : Int32)), (.ref b97)])) t → Steps p.tables e below (s₁.setTop (entryFrame m #[(.int p1), (.int p2), (.long q3), (.int p4)] maxLocals)) t := by
      intro t k
      rw [hv_x1] at k
      refine g11 t ?_
      show Steps p.tables e below (T3.setTop (mkF m 114 #[.val (.int p1), .val (.int p2), .val (.long q3), .second, .val (.int p4), .val (.int (6 : Int32)), .val (.int pp), .val (.long bb), .second, .val (.long o1), .second, .val (.long o2), .second, .val (.long o3), .second, .val (.long o4), .second, .val (.long o5), .second, .val (.long o6), .second, .val (.long o7), .second, .unset, .unset, .unset, .unset, .unset, .unset, .unset] [])) _
      refine XS.iload X3.here hx rfl (hb hby at_114) rfl ?_
      refine st97 _ ?_
      refine XS.astore X97.here hx rfl (hb hby at_118) rfl rfl (l' := #[.val (.int p1), .val (.int p2), .val (.long q3), .second, .val (.int p4), .val (.int (6 : Int32)), .val (.int pp), .val (.long bb), .second, .val (.long o1), .second, .val (.long o2), .second, .val (.long o3), .second, .val (.long o4), .second, .val (.long o5), .second, .val (.long o6), .second, .val (.long o7), .second, .val (.ref b97), .unset, .unset, .unset, .unset, .unset, .unset]) rfl ?_
      refine XS.aload X97.here hx rfl (hb hby at_120) rfl rfl ?_
      show Steps p.tables e below (T97.setTop (mkF m 122 #[.val (.int p1), .val (.int p2), .val (.long q3), .second, .val (.int p4), .val (.int (6 : Int32)), .val (.int pp), .val (.long bb), .second, .val (.long o1), .second, .val (.long o2), .second, .val (.long o3), .second, .val (.long o4), .second, .val (.long o5), .second, .val (.long o6), .second, .val (.long o7), .second, .val (.ref b97), .unset, .unset, .unset, .unset, .unset, .unset] [(.ref b97)])) _
      refine XS.iconst X97.here hx rfl (hb hby at_122) ?_
      refine XS.lload X97.here hx rfl (hb hby at_123) rfl ?_
      refine st99 _ ?_
      refine XS.iload X99.here hx rfl (hb hby at_126) rfl ?_
      show Steps p.tables e below (T99.setTop (mkF m 128 #[.val (.int p1), .val (.int p2), .val (.long q3), .second, .val (.int p4), .val (.int (6 : Int32)), .val (.int pp), .val (.long bb), .second, .val (.long o1), .second, .val (.long o2), .second, .val (.long o3), .second, .val (.long o4), .second, .val (.long o5), .second, .val (.long o6), .second, .val (.long o7), .second, .val (.ref b97), .unset, .unset, .unset, .unset, .unset, .unset] [(.int (6 : Int32))])) _
      refine XS.iconst X99.here hx rfl (hb hby at_128) ?_
      refine XS.icmpNo X99.here hx rfl (hb hby at_129) rfl (tlt (by decide : (1 : Int32) < (6 : Int32))).2.2.2 ?_
      refine XS.aload X99.here hx rfl (hb hby at_132) rfl rfl ?_
      refine XS.iconst X99.here hx rfl (hb hby at_134) ?_
      show Steps p.tables e below (T99.setTop (mkF m 135 #[.val (.int p1), .val (.int p2), .val (.long q3), .second, .val (.int p4), .val (.int (6 : Int32)), .val (.int pp), .val (.long bb), .second, .val (.long o1), .second, .val (.long o2), .second, .val (.long o3), .second, .val (.long o4), .second, .val (.long o5), .second, .val (.long o6), .second, .val (.long o7), .second, .val (.ref b97), .unset, .unset, .unset, .unset, .unset, .unset] [(.int (1 : Int32)), (.ref b97)])) _
      refine XS.lload X99.here hx rfl (hb hby at_135) rfl ?_
      refine XS.lload X99.here hx rfl (hb hby at_137) rfl ?_
      refine XS.ladd X99.here hx rfl (hb hby at_139) rfl ?_
      exact k
    obtain ⟨c101, Ar101, cq101, S101, Nn101, Hh101, Gg101⟩ := id V99a
    have hin101 : ¬ ((1 : Int32) < 0 ∨ c101.slots.size ≤ ((1 : Int32)).toNatClampNeg) := inb_of S101 ⟨by decide, by decide⟩
    obtain ⟨T102, h102, X102, e102, W102, st102⟩ := stJ X99 hx hZ e99 Ar101 (j := (1 : Int32)) hin101 (g := (mkF m 140 #[.val (.int p1), .val (.int p2), .val (.long q3), .second, .val (.int p4), .val (.int (6 : Int32)), .val (.int pp), .val (.long bb), .second, .val (.long o1), .second, .val (.long o2), .second, .val (.long o3), .second, .val (.long o4), .second, .val (.long o5), .second, .val (.long o6), .second, .val (.long o7), .second, .val (.ref b97), .unset, .unset, .unset, .unset, .unset, .unset] [(.long x1), (.int (1 : Int32)), (.ref b97)])) rfl rfl (hb hby at_140)
    have V102 := Arv.set Ar101 cq101 S101 Nn101 Hh101 Gg101 rfl W102 1 rfl (Nat.le_of_ble_eq_true rfl)
    have V102a : Arv Z h102 b97 k97 .long (6 : Int32) [(.long bb), (.long x1), (.long (0 : Int64)), (.long (0 : Int64)), (.long (0 : Int64)), (.long (0 : Int64))] (.long (0 : Int64)) := V102
    have N102 := Fr.snoc X102 N99 gz_b97
    obtain ⟨x2, hv_x2⟩ : ∃ z : Int64, z = (bb + o2) := ⟨_, rfl⟩
    have g103 : ∀ t, Steps p.tables e below (T102.setTop (mkF m 155 #[.val (.int p1), .val (.int p2), .val (.long q3), .second, .val (.int p4), .val (.int (6 : Int32)), .val (.int pp), .val (.long bb), .second, .val (.long o1), .second, .val (.long o2), .second, .val (.long o3), .second, .val (.long o4), .second, .val (.long o5), .second, .val (.long o6), .second, .val (.long o7), .second, .val (.ref b97), .unset, .unset, .unset, .unset, .unset, .unset] [(.long x2), (.int (2 : Int32)), (.ref b97)])) t → Steps p.tables e below (s₁.setTop (entryFrame m #[(.int p1), (.int p2), (.long q3), (.int p4)] maxLocals)) t := by
      intro t k
      rw [hv_x2] at k
      refine g100 t ?_
      show Steps p.tables e below (T99.setTop (mkF m 140 #[.val (.int p1), .val (.int p2), .val (.long q3), .second, .val (.int p4), .val (.int (6 : Int32)), .val (.int pp), .val (.long bb), .second, .val (.long o1), .second, .val (.long o2), .second, .val (.long o3), .second, .val (.long o4), .second, .val (.long o5), .second, .val (.long o6), .second, .val (.long o7), .second, .val (.ref b97), .unset, .unset, .unset, .unset, .unset, .unset] [(.long x1), (.int (1 : Int32)), (.ref b97)])) _
      refine st102 _ ?_
      refine XS.iload X102.here hx rfl (hb hby at_141) rfl ?_
      refine XS.iconst X102.here hx rfl (hb hby at_143) ?_
      refine XS.icmpNo X102.here hx rfl (hb hby at_144) rfl (tlt (by decide : (2 : Int32) < (6 : Int32))).2.2.2 ?_
      show Steps p.tables e below (T102.setTop (mkF m 147 #[.val (.int p1), .val (.int p2), .val (.long q3), .second, .val (.int p4), .val (.int (6 : Int32)), .val (.int pp), .val (.long bb), .second, .val (.long o1), .second, .val (.long o2), .second, .val (.long o3), .second, .val (.long o4), .second, .val (.long o5), .second, .val (.long o6), .second, .val (.long o7), .second, .val (.ref b97), .unset, .unset, .unset, .unset, .unset, .unset] [])) _
      refine XS.aload X102.here hx rfl (hb hby at_147) rfl rfl ?_
      refine XS.iconst X102.here hx rfl (hb hby at_149) ?_
      refine XS.lload X102.here hx rfl (hb hby at_150) rfl ?_
      refine XS.lload X102.here hx rfl (hb hby at_152) rfl ?_
      show Steps p.tables e below (T102.setTop (mkF m 154 #[.val (.int p1), .val (.int p2), .val (.long q3), .second, .val (.int p4), .val (.int (6 : Int32)), .val (.int pp), .val (.long bb), .second, .val (.long o1), .second, .val (.long o2), .second, .val (.long o3), .second, .val (.long o4), .second, .val (.long o5), .second, .val (.long o6), .second, .val (.long o7), .second, .val (.ref b97), .unset, .unset, .unset, .unset, .unset, .unset] [(.long o2), (.long bb), (.int (2 : Int32)), (.ref b97)])) _
      refine XS.ladd X102.here hx rfl (hb hby at_154) rfl ?_
      exact k
    obtain ⟨c104, Ar104, cq104, S104, Nn104, Hh104, Gg104⟩ := id V102a
    have hin104 : ¬ ((2 : Int32) < 0 ∨ c104.slots.size ≤ ((2 : Int32)).toNatClampNeg) := inb_of S104 ⟨by decide, by decide⟩
    obtain ⟨T105, h105, X105, e105, W105, st105⟩ := stJ X102 hx hZ e102 Ar104 (j := (2 : Int32)) hin104 (g := (mkF m 155 #[.val (.int p1), .val (.int p2), .val (.long q3), .second, .val (.int p4), .val (.int (6 : Int32)), .val (.int pp), .val (.long bb), .second, .val (.long o1), .second, .val (.long o2), .second, .val (.long o3), .second, .val (.long o4), .second, .val (.long o5), .second, .val (.long o6), .second, .val (.long o7), .second, .val (.ref b97), .unset, .unset, .unset, .unset, .unset, .unset] [(.long x2), (.int (2 : Int32)), (.ref b97)])) rfl rfl (hb hby at_155)
    have V105 := Arv.set Ar104 cq104 S104 Nn104 Hh104 Gg104 rfl W105 2 rfl (Nat.le_of_ble_eq_true rfl)
    have V105a : Arv Z h105 b97 k97 .long (6 : Int32) [(.long bb), (.long x1), (.long x2), (.long (0 : Int64)), (.long (0 : Int64)), (.long (0 : Int64))] (.long (0 : Int64)) := V105
    have N105 := Fr.snoc X105 N102 gz_b97
    obtain ⟨x3, hv_x3⟩ : ∃ z : Int64, z = (bb + o3) := ⟨_, rfl⟩
    have g106 : ∀ t, Steps p.tables e below (T105.setTop (mkF m 170 #[.val (.int p1), .val (.int p2), .val (.long q3), .second, .val (.int p4), .val (.int (6 : Int32)), .val (.int pp), .val (.long bb), .second, .val (.long o1), .second, .val (.long o2), .second, .val (.long o3), .second, .val (.long o4), .second, .val (.long o5), .second, .val (.long o6), .second, .val (.long o7), .second, .val (.ref b97), .unset, .unset, .unset, .unset, .unset, .unset] [(.long x3), (.int (3 : Int32)), (.ref b97)])) t → Steps p.tables e below (s₁.setTop (entryFrame m #[(.int p1), (.int p2), (.long q3), (.int p4)] maxLocals)) t := by
      intro t k
      rw [hv_x3] at k
      refine g103 t ?_
      show Steps p.tables e below (T102.setTop (mkF m 155 #[.val (.int p1), .val (.int p2), .val (.long q3), .second, .val (.int p4), .val (.int (6 : Int32)), .val (.int pp), .val (.long bb), .second, .val (.long o1), .second, .val (.long o2), .second, .val (.long o3), .second, .val (.long o4), .second, .val (.long o5), .second, .val (.long o6), .second, .val (.long o7), .second, .val (.ref b97), .unset, .unset, .unset, .unset, .unset, .unset] [(.long x2), (.int (2 : Int32)), (.ref b97)])) _
      refine st105 _ ?_
      refine XS.iload X105.here hx rfl (hb hby at_156) rfl ?_
      refine XS.iconst X105.here hx rfl (hb hby at_158) ?_
      refine XS.icmpNo X105.here hx rfl (hb hby at_159) rfl (tlt (by decide : (3 : Int32) < (6 : Int32))).2.2.2 ?_
      show Steps p.tables e below (T105.setTop (mkF m 162 #[.val (.int p1), .val (.int p2), .val (.long q3), .second, .val (.int p4), .val (.int (6 : Int32)), .val (.int pp), .val (.long bb), .second, .val (.long o1), .second, .val (.long o2), .second, .val (.long o3), .second, .val (.long o4), .second, .val (.long o5), .second, .val (.long o6), .second, .val (.long o7), .second, .val (.ref b97), .unset, .unset, .unset, .unset, .unset, .unset] [])) _
      refine XS.aload X105.here hx rfl (hb hby at_162) rfl rfl ?_
      refine XS.iconst X105.here hx rfl (hb hby at_164) ?_
      refine XS.lload X105.here hx rfl (hb hby at_165) rfl ?_
      refine XS.lload X105.here hx rfl (hb hby at_167) rfl ?_
      show Steps p.tables e below (T105.setTop (mkF m 169 #[.val (.int p1), .val (.int p2), .val (.long q3), .second, .val (.int p4), .val (.int (6 : Int32)), .val (.int pp), .val (.long bb), .second, .val (.long o1), .second, .val (.long o2), .second, .val (.long o3), .second, .val (.long o4), .second, .val (.long o5), .second, .val (.long o6), .second, .val (.long o7), .second, .val (.ref b97), .unset, .unset, .unset, .unset, .unset, .unset] [(.long o3), (.long bb), (.int (3 : Int32)), (.ref b97)])) _
      refine XS.ladd X105.here hx rfl (hb hby at_169) rfl ?_
      exact k
    obtain ⟨c107, Ar107, cq107, S107, Nn107, Hh107, Gg107⟩ := id V105a
    have hin107 : ¬ ((3 : Int32) < 0 ∨ c107.slots.size ≤ ((3 : Int32)).toNatClampNeg) := inb_of S107 ⟨by decide, by decide⟩
    obtain ⟨T108, h108, X108, e108, W108, st108⟩ := stJ X105 hx hZ e105 Ar107 (j := (3 : Int32)) hin107 (g := (mkF m 170 #[.val (.int p1), .val (.int p2), .val (.long q3), .second, .val (.int p4), .val (.int (6 : Int32)), .val (.int pp), .val (.long bb), .second, .val (.long o1), .second, .val (.long o2), .second, .val (.long o3), .second, .val (.long o4), .second, .val (.long o5), .second, .val (.long o6), .second, .val (.long o7), .second, .val (.ref b97), .unset, .unset, .unset, .unset, .unset, .unset] [(.long x3), (.int (3 : Int32)), (.ref b97)])) rfl rfl (hb hby at_170)
    have V108 := Arv.set Ar107 cq107 S107 Nn107 Hh107 Gg107 rfl W108 3 rfl (Nat.le_of_ble_eq_true rfl)
    have V108a : Arv Z h108 b97 k97 .long (6 : Int32) [(.long bb), (.long x1), (.long x2), (.long x3), (.long (0 : Int64)), (.long (0 : Int64))] (.long (0 : Int64)) := V108
    have N108 := Fr.snoc X108 N105 gz_b97
    obtain ⟨x4, hv_x4⟩ : ∃ z : Int64, z = (bb + o4) := ⟨_, rfl⟩
    have g109 : ∀ t, Steps p.tables e below (T108.setTop (mkF m 185 #[.val (.int p1), .val (.int p2), .val (.long q3), .second, .val (.int p4), .val (.int (6 : Int32)), .val (.int pp), .val (.long bb), .second, .val (.long o1), .second, .val (.long o2), .second, .val (.long o3), .second, .val (.long o4), .second, .val (.long o5), .second, .val (.long o6), .second, .val (.long o7), .second, .val (.ref b97), .unset, .unset, .unset, .unset, .unset, .unset] [(.long x4), (.int (4 : Int32)), (.ref b97)])) t → Steps p.tables e below (s₁.setTop (entryFrame m #[(.int p1), (.int p2), (.long q3), (.int p4)] maxLocals)) t := by
      intro t k
      rw [hv_x4] at k
      refine g106 t ?_
      show Steps p.tables e below (T105.setTop (mkF m 170 #[.val (.int p1), .val (.int p2), .val (.long q3), .second, .val (.int p4), .val (.int (6 : Int32)), .val (.int pp), .val (.long bb), .second, .val (.long o1), .second, .val (.long o2), .second, .val (.long o3), .second, .val (.long o4), .second, .val (.long o5), .second, .val (.long o6), .second, .val (.long o7), .second, .val (.ref b97), .unset, .unset, .unset, .unset, .unset, .unset] [(.long x3), (.int (3 : Int32)), (.ref b97)])) _
      refine st108 _ ?_
      refine XS.iload X108.here hx rfl (hb hby at_171) rfl ?_
      refine XS.iconst X108.here hx rfl (hb hby at_173) ?_
      refine XS.icmpNo X108.here hx rfl (hb hby at_174) rfl (tlt (by decide : (4 : Int32) < (6 : Int32))).2.2.2 ?_
      show Steps p.tables e below (T108.setTop (mkF m 177 #[.val (.int p1), .val (.int p2), .val (.long q3), .second, .val (.int p4), .val (.int (6 : Int32)), .val (.int pp), .val (.long bb), .second, .val (.long o1), .second, .val (.long o2), .second, .val (.long o3), .second, .val (.long o4), .second, .val (.long o5), .second, .val (.long o6), .second, .val (.long o7), .second, .val (.ref b97), .unset, .unset, .unset, .unset, .unset, .unset] [])) _
      refine XS.aload X108.here hx rfl (hb hby at_177) rfl rfl ?_
      refine XS.iconst X108.here hx rfl (hb hby at_179) ?_
      refine XS.lload X108.here hx rfl (hb hby at_180) rfl ?_
      refine XS.lload X108.here hx rfl (hb hby at_182) rfl ?_
      show Steps p.tables e below (T108.setTop (mkF m 184 #[.val (.int p1), .val (.int p2), .val (.long q3), .second, .val (.int p4), .val (.int (6 : Int32)), .val (.int pp), .val (.long bb), .second, .val (.long o1), .second, .val (.long o2), .second, .val (.long o3), .second, .val (.long o4), .second, .val (.long o5), .second, .val (.long o6), .second, .val (.long o7), .second, .val (.ref b97), .unset, .unset, .unset, .unset, .unset, .unset] [(.long o4), (.long bb), (.int (4 : Int32)), (.ref b97)])) _
      refine XS.ladd X108.here hx rfl (hb hby at_184) rfl ?_
      exact k
    obtain ⟨c110, Ar110, cq110, S110, Nn110, Hh110, Gg110⟩ := id V108a
    have hin110 : ¬ ((4 : Int32) < 0 ∨ c110.slots.size ≤ ((4 : Int32)).toNatClampNeg) := inb_of S110 ⟨by decide, by decide⟩
    obtain ⟨T111, h111, X111, e111, W111, st111⟩ := stJ X108 hx hZ e108 Ar110 (j := (4 : Int32)) hin110 (g := (mkF m 185 #[.val (.int p1), .val (.int p2), .val (.long q3), .second, .val (.int p4), .val (.int (6 : Int32)), .val (.int pp), .val (.long bb), .second, .val (.long o1), .second, .val (.long o2), .second, .val (.long o3), .second, .val (.long o4), .second, .val (.long o5), .second, .val (.long o6), .second, .val (.long o7), .second, .val (.ref b97), .unset, .unset, .unset, .unset, .unset, .unset] [(.long x4), (.int (4 : Int32)), (.ref b97)])) rfl rfl (hb hby at_185)
    have V111 := Arv.set Ar110 cq110 S110 Nn110 Hh110 Gg110 rfl W111 4 rfl (Nat.le_of_ble_eq_true rfl)
    have V111a : Arv Z h111 b97 k97 .long (6 : Int32) [(.long bb), (.long x1), (.long x2), (.long x3), (.long x4), (.long (0 : Int64))] (.long (0 : Int64)) := V111
    have N111 := Fr.snoc X111 N108 gz_b97
    obtain ⟨x5, hv_x5⟩ : ∃ z : Int64, z = (bb + o5) := ⟨_, rfl⟩
    have g112 : ∀ t, Steps p.tables e below (T111.setTop (mkF m 200 #[.val (.int p1), .val (.int p2), .val (.long q3), .second, .val (.int p4), .val (.int (6 : Int32)), .val (.int pp), .val (.long bb), .second, .val (.long o1), .second, .val (.long o2), .second, .val (.long o3), .second, .val (.long o4), .second, .val (.long o5), .second, .val (.long o6), .second, .val (.long o7), .second, .val (.ref b97), .unset, .unset, .unset, .unset, .unset, .unset] [(.long x5), (.int (5 : Int32)), (.ref b97)])) t → Steps p.tables e below (s₁.setTop (entryFrame m #[(.int p1), (.int p2), (.long q3), (.int p4)] maxLocals)) t := by
      intro t k
      rw [hv_x5] at k
      refine g109 t ?_
      show Steps p.tables e below (T108.setTop (mkF m 185 #[.val (.int p1), .val (.int p2), .val (.long q3), .second, .val (.int p4), .val (.int (6 : Int32)), .val (.int pp), .val (.long bb), .second, .val (.long o1), .second, .val (.long o2), .second, .val (.long o3), .second, .val (.long o4), .second, .val (.long o5), .second, .val (.long o6), .second, .val (.long o7), .second, .val (.ref b97), .unset, .unset, .unset, .unset, .unset, .unset] [(.long x4), (.int (4 : Int32)), (.ref b97)])) _
      refine st111 _ ?_
      refine XS.iload X111.here hx rfl (hb hby at_186) rfl ?_
      refine XS.iconst X111.here hx rfl (hb hby at_188) ?_
      refine XS.icmpNo X111.here hx rfl (hb hby at_189) rfl (tlt (by decide : (5 : Int32) < (6 : Int32))).2.2.2 ?_
      show Steps p.tables e below (T111.setTop (mkF m 192 #[.val (.int p1), .val (.int p2), .val (.long q3), .second, .val (.int p4), .val (.int (6 : Int32)), .val (.int pp), .val (.long bb), .second, .val (.long o1), .second, .val (.long o2), .second, .val (.long o3), .second, .val (.long o4), .second, .val (.long o5), .second, .val (.long o6), .second, .val (.long o7), .second, .val (.ref b97), .unset, .unset, .unset, .unset, .unset, .unset] [])) _
      refine XS.aload X111.here hx rfl (hb hby at_192) rfl rfl ?_
      refine XS.iconst X111.here hx rfl (hb hby at_194) ?_
      refine XS.lload X111.here hx rfl (hb hby at_195) rfl ?_
      refine XS.lload X111.here hx rfl (hb hby at_197) rfl ?_
      show Steps p.tables e below (T111.setTop (mkF m 199 #[.val (.int p1), .val (.int p2), .val (.long q3), .second, .val (.int p4), .val (.int (6 : Int32)), .val (.int pp), .val (.long bb), .second, .val (.long o1), .second, .val (.long o2), .second, .val (.long o3), .second, .val (.long o4), .second, .val (.long o5), .second, .val (.long o6), .second, .val (.long o7), .second, .val (.ref b97), .unset, .unset, .unset, .unset, .unset, .unset] [(.long o5), (.long bb), (.int (5 : Int32)), (.ref b97)])) _
      refine XS.ladd X111.here hx rfl (hb hby at_199) rfl ?_
      exact k
    obtain ⟨c113, Ar113, cq113, S113, Nn113, Hh113, Gg113⟩ := id V111a
    have hin113 : ¬ ((5 : Int32) < 0 ∨ c113.slots.size ≤ ((5 : Int32)).toNatClampNeg) := inb_of S113 ⟨by decide, by decide⟩
    obtain ⟨T114, h114, X114, e114, W114, st114⟩ := stJ X111 hx hZ e111 Ar113 (j := (5 : Int32)) hin113 (g := (mkF m 200 #[.val (.int p1), .val (.int p2), .val (.long q3), .second, .val (.int p4), .val (.int (6 : Int32)), .val (.int pp), .val (.long bb), .second, .val (.long o1), .second, .val (.long o2), .second, .val (.long o3), .second, .val (.long o4), .second, .val (.long o5), .second, .val (.long o6), .second, .val (.long o7), .second, .val (.ref b97), .unset, .unset, .unset, .unset, .unset, .unset] [(.long x5), (.int (5 : Int32)), (.ref b97)])) rfl rfl (hb hby at_200)
    have V114 := Arv.set Ar113 cq113 S113 Nn113 Hh113 Gg113 rfl W114 5 rfl (Nat.le_of_ble_eq_true rfl)
    have V114a : Arv Z h114 b97 k97 .long (6 : Int32) [(.long bb), (.long x1), (.long x2), (.long x3), (.long x4), (.long x5)] (.long (0 : Int64)) := V114
    have N114 := Fr.snoc X114 N111 gz_b97
    have o115 : Old Z n0 h114 := (Old.wr (Old.wr (Old.wr (Old.wr (Old.wr (Old.wr (Old.ext O0 E97) W99 gz_b97) W102 gz_b97) W105 gz_b97) W108 gz_b97) W111 gz_b97) W114 gz_b97)
    have hpp := own_p _ _ hv_pp
    obtain ⟨j, hj, jz, jn, j2, j3⟩ := own_pct (6 : Int32) pp 6 (by decide) (by decide) (by decide) hpp
    have hj0 : ¬ j < 0 := by rw [Int32.lt_iff_toInt_lt, show (0 : Int32).toInt = 0 by decide]; omega
    have hj1 : j < (6 : Int32) := by rw [Int32.lt_iff_toInt_lt, show (6 : Int32).toInt = 6 by decide]; omega
    have hjl : j.toNatClampNeg < ([bb, x1, x2, x3, x4, x5] : List Int64).length := by simp only [Int32.toNatClampNeg, List.length_cons, List.length_nil]; omega
    have hjr := own_getD [bb, x1, x2, x3, x4, x5] j.toNatClampNeg hjl
    obtain ⟨rr, hrr⟩ : ∃ z : Int64, z = ([bb, x1, x2, x3, x4, x5] : List Int64).getD j.toNatClampNeg 0 := ⟨_, rfl⟩
    rw [← hrr] at hjr
    obtain ⟨_, _, ⟨T116, L116, k116, n116⟩, -, X116, ⟨Lc116, hQ116, l116, y116, z116⟩, st116⟩ := Jvm.LawKit.callS X114 hx (y := (⟨"orderwire/bench/Latency", "percentile", "([JI)J"⟩ : MethodName)) hown (mvT hZ (hw _ (List.mem_of_getElem? (i := 7) rfl))) (mvT hZ (hw _ (List.mem_of_getElem? (i := 8) rfl))) (mvT hZ (hw _ (List.mem_of_getElem? (i := 9) rfl))) (mvT hZ (hw _ (List.mem_of_getElem? (i := 10) rfl))) (by decide) (backOf (W := 0) (rmPct6 l Z a0 hw [] b97 k97 bb x1 x2 x3 x4 x5 rr pp j h114 n0 o115 V114a hj hj0 hj1 hjr) hZ (hw _ (List.mem_of_getElem? (i := 10) rfl)) (hw _ (List.mem_of_getElem? (i := 9) rfl)) (by decide) (by decide)) (g := (mkF m 239 #[.val (.int p1), .val (.int p2), .val (.long q3), .second, .val (.int p4), .val (.int (6 : Int32)), .val (.int pp), .val (.long bb), .second, .val (.long o1), .second, .val (.long o2), .second, .val (.long o3), .second, .val (.long o4), .second, .val (.long o5), .second, .val (.long o6), .second, .val (.long o7), .second, .val (.ref b97), .unset, .unset, .unset, .unset, .unset, .unset] [(.int pp), (.ref b97)])) rfl (by rw [hml]; rfl) (argsL := [(.ref b97), (.int pp)]) (rest := []) (lenOf own_pd1 rfl) rfl (by show 2 * 0 + _ ≤ _; exact Nat.le_of_eq rfl) (hb hby at_239) (fun _ _ => ⟨rfl, e114, (by decide : 1 + 0 ≤ _), (by decide : 6 + 0 ≤ _)⟩)
    dsimp only [Pt.U, Pt.locs, Pt.cells, Pt.slots] at X116 l116 y116 z116 st116 hQ116
    subst l116 y116 z116
    obtain ⟨rfl, Nq116, e116⟩ := hQ116
    have N116 := Fr.app N114 Nq116
    obtain ⟨le, hle⟩ : ∃ z : Int32, own_cle rr [bb, x1, x2, x3, x4, x5] 0 = z := ⟨_, rfl⟩
    obtain ⟨_, _, ⟨T117, L117, k117, n117⟩, -, X117, ⟨Lc117, hQ117, l117, y117, z117⟩, st117⟩ := Jvm.LawKit.callS X116 hx (y := (⟨"orderwire/bench/LatencyPercentilePinLaw", "countLe", "([JJ)I"⟩ : MethodName)) hown (mvT hZ (hw _ (List.mem_of_getElem? (i := 13) rfl))) (mvT hZ (hw _ (List.mem_of_getElem? (i := 14) rfl))) (mvT hZ (hw _ (List.mem_of_getElem? (i := 15) rfl))) (mvT hZ (hw _ (List.mem_of_getElem? (i := 16) rfl))) (by decide) (backOf (W := 0) (rmcountLe6 l Z a0 hw [] b97 k97 bb x1 x2 x3 x4 x5 rr le h114 n0 o115 V114a hle) hZ (hw _ (List.mem_of_getElem? (i := 16) rfl)) (hw _ (List.mem_of_getElem? (i := 15) rfl)) (by decide) (by decide)) (g := (mkF m 248 #[.val (.int p1), .val (.int p2), .val (.long q3), .second, .val (.int p4), .val (.int (6 : Int32)), .val (.int pp), .val (.long bb), .second, .val (.long o1), .second, .val (.long o2), .second, .val (.long o3), .second, .val (.long o4), .second, .val (.long o5), .second, .val (.long o6), .second, .val (.long o7), .second, .val (.ref b97), .val (.long rr), .second, .unset, .unset, .unset, .unset] [(.long rr), (.ref b97)])) rfl (by rw [hml]; rfl) (argsL := [(.ref b97), (.long rr)]) (rest := []) (lenOf own_pd2 rfl) rfl (by show 2 * 0 + _ ≤ _; exact Nat.le_of_eq rfl) (hb hby at_248) (fun _ _ => ⟨rfl, e116, (by decide : 1 + 0 ≤ _), (by decide : 6 + 0 ≤ _)⟩)
    dsimp only [Pt.U, Pt.locs, Pt.cells, Pt.slots] at X117 l117 y117 z117 st117 hQ117
    subst l117 y117 z117
    obtain ⟨rfl, Nq117, e117⟩ := hQ117
    have N117 := Fr.app N116 Nq117
    obtain ⟨lt, hlt⟩ : ∃ z : Int32, own_clt rr [bb, x1, x2, x3, x4, x5] 0 = z := ⟨_, rfl⟩
    obtain ⟨_, _, ⟨T118, L118, k118, n118⟩, -, X118, ⟨Lc118, hQ118, l118, y118, z118⟩, st118⟩ := Jvm.LawKit.callS X117 hx (y := (⟨"orderwire/bench/LatencyPercentilePinLaw", "countLt", "([JJ)I"⟩ : MethodName)) hown (mvT hZ (hw _ (List.mem_of_getElem? (i := 17) rfl))) (mvT hZ (hw _ (List.mem_of_getElem? (i := 18) rfl))) (mvT hZ (hw _ (List.mem_of_getElem? (i := 15) rfl))) (mvT hZ (hw _ (List.mem_of_getElem? (i := 19) rfl))) (by decide) (backOf (W := 0) (rmcountLt6 l Z a0 hw [] b97 k97 bb x1 x2 x3 x4 x5 rr lt h114 n0 o115 V114a hlt) hZ (hw _ (List.mem_of_getElem? (i := 19) rfl)) (hw _ (List.mem_of_getElem? (i := 15) rfl)) (by decide) (by decide)) (g := (mkF m 257 #[.val (.int p1), .val (.int p2), .val (.long q3), .second, .val (.int p4), .val (.int (6 : Int32)), .val (.int pp), .val (.long bb), .second, .val (.long o1), .second, .val (.long o2), .second, .val (.long o3), .second, .val (.long o4), .second, .val (.long o5), .second, .val (.long o6), .second, .val (.long o7), .second, .val (.ref b97), .val (.long rr), .second, .val (.int le), .unset, .unset, .unset] [(.long rr), (.ref b97)])) rfl (by rw [hml]; rfl) (argsL := [(.ref b97), (.long rr)]) (rest := []) (lenOf own_pd2 rfl) rfl (by show 2 * 0 + _ ≤ _; exact Nat.le_of_eq rfl) (hb hby at_257) (fun _ _ => ⟨rfl, e117, (by decide : 1 + 0 ≤ _), (by decide : 6 + 0 ≤ _)⟩)
    dsimp only [Pt.U, Pt.locs, Pt.cells, Pt.slots] at X118 l118 y118 z118 st118 hQ118
    subst l118 y118 z118
    obtain ⟨rfl, Nq118, e118⟩ := hQ118
    have N118 := Fr.app N117 Nq118
    obtain ⟨need, hv_need⟩ : ∃ z : Int64, z = ((pp.toInt64) * ((6 : Int32).toInt64)) := ⟨_, rfl⟩
    have g119 : ∀ t, Steps p.tables e below (T118.setTop (mkF m 269 #[.val (.int p1), .val (.int p2), .val (.long q3), .second, .val (.int p4), .val (.int (6 : Int32)), .val (.int pp), .val (.long bb), .second, .val (.long o1), .second, .val (.long o2), .second, .val (.long o3), .second, .val (.long o4), .second, .val (.long o5), .second, .val (.long o6), .second, .val (.long o7), .second, .val (.ref b97), .val (.long rr), .second, .val (.int le), .val (.int lt), .unset, .unset] [(.long need)])) t → Steps p.tables e below (s₁.setTop (entryFrame m #[(.int p1), (.int p2), (.long q3), (.int p4)] maxLocals)) t := by
      intro t k
      rw [hv_need] at k
      refine g112 t ?_
      show Steps p.tables e below (T111.setTop (mkF m 200 #[.val (.int p1), .val (.int p2), .val (.long q3), .second, .val (.int p4), .val (.int (6 : Int32)), .val (.int pp), .val (.long bb), .second, .val (.long o1), .second, .val (.long o2), .second, .val (.long o3), .second, .val (.long o4), .second, .val (.long o5), .second, .val (.long o6), .second, .val (.long o7), .second, .val (.ref b97), .unset, .unset, .unset, .unset, .unset, .unset] [(.long x5), (.int (5 : Int32)), (.ref b97)])) _
      refine st114 _ ?_
      refine XS.iload X114.here hx rfl (hb hby at_201) rfl ?_
      refine XS.bipush X114.here hx rfl (hb hby at_203) ?_
      refine XS.icmpYes X114.here hx rfl (pc0 := 205) (pc' := 218) rfl (hb hby at_205) rfl (flt (by decide : ¬ ((6 : Int32) < (6 : Int32)))).2.2.2 (by decide) (by decide) ?_
      show Steps p.tables e below (T114.setTop (mkF m 218 #[.val (.int p1), .val (.int p2), .val (.long q3), .second, .val (.int p4), .val (.int (6 : Int32)), .val (.int pp), .val (.long bb), .second, .val (.long o1), .second, .val (.long o2), .second, .val (.long o3), .second, .val (.long o4), .second, .val (.long o5), .second, .val (.long o6), .second, .val (.long o7), .second, .val (.ref b97), .unset, .unset, .unset, .unset, .unset, .unset] [])) _
      refine XS.iload X114.here hx rfl (hb hby at_218) rfl ?_
      refine XS.bipush X114.here hx rfl (hb hby at_220) ?_
      refine XS.icmpYes X114.here hx rfl (pc0 := 222) (pc' := 235) rfl (hb hby at_222) rfl (flt (by decide : ¬ ((7 : Int32) < (6 : Int32)))).2.2.2 (by decide) (by decide) ?_
      refine XS.aload X114.here hx rfl (hb hby at_235) rfl rfl ?_
      show Steps p.tables e below (T114.setTop (mkF m 237 #[.val (.int p1), .val (.int p2), .val (.long q3), .second, .val (.int p4), .val (.int (6 : Int32)), .val (.int pp), .val (.long bb), .second, .val (.long o1), .second, .val (.long o2), .second, .val (.long o3), .second, .val (.long o4), .second, .val (.long o5), .second, .val (.long o6), .second, .val (.long o7), .second, .val (.ref b97), .unset, .unset, .unset, .unset, .unset, .unset] [(.ref b97)])) _
      refine XS.iload X114.here hx rfl (hb hby at_237) rfl ?_
      refine st116 _ ?_
      refine XS.lstore X116.here hx rfl (hb hby at_242) rfl (l' := #[.val (.int p1), .val (.int p2), .val (.long q3), .second, .val (.int p4), .val (.int (6 : Int32)), .val (.int pp), .val (.long bb), .second, .val (.long o1), .second, .val (.long o2), .second, .val (.long o3), .second, .val (.long o4), .second, .val (.long o5), .second, .val (.long o6), .second, .val (.long o7), .second, .val (.ref b97), .val (.long rr), .second, .unset, .unset, .unset, .unset]) rfl ?_
      refine XS.aload X116.here hx rfl (hb hby at_244) rfl rfl ?_
      show Steps p.tables e below (T116.setTop (mkF m 246 #[.val (.int p1), .val (.int p2), .val (.long q3), .second, .val (.int p4), .val (.int (6 : Int32)), .val (.int pp), .val (.long bb), .second, .val (.long o1), .second, .val (.long o2), .second, .val (.long o3), .second, .val (.long o4), .second, .val (.long o5), .second, .val (.long o6), .second, .val (.long o7), .second, .val (.ref b97), .val (.long rr), .second, .unset, .unset, .unset, .unset] [(.ref b97)])) _
      refine XS.lload X116.here hx rfl (hb hby at_246) rfl ?_
      refine st117 _ ?_
      refine XS.istore X117.here hx rfl (hb hby at_251) rfl (l' := #[.val (.int p1), .val (.int p2), .val (.long q3), .second, .val (.int p4), .val (.int (6 : Int32)), .val (.int pp), .val (.long bb), .second, .val (.long o1), .second, .val (.long o2), .second, .val (.long o3), .second, .val (.long o4), .second, .val (.long o5), .second, .val (.long o6), .second, .val (.long o7), .second, .val (.ref b97), .val (.long rr), .second, .val (.int le), .unset, .unset, .unset]) rfl ?_
      refine XS.aload X117.here hx rfl (hb hby at_253) rfl rfl ?_
      show Steps p.tables e below (T117.setTop (mkF m 255 #[.val (.int p1), .val (.int p2), .val (.long q3), .second, .val (.int p4), .val (.int (6 : Int32)), .val (.int pp), .val (.long bb), .second, .val (.long o1), .second, .val (.long o2), .second, .val (.long o3), .second, .val (.long o4), .second, .val (.long o5), .second, .val (.long o6), .second, .val (.long o7), .second, .val (.ref b97), .val (.long rr), .second, .val (.int le), .unset, .unset, .unset] [(.ref b97)])) _
      refine XS.lload X117.here hx rfl (hb hby at_255) rfl ?_
      refine st118 _ ?_
      refine XS.istore X118.here hx rfl (hb hby at_260) rfl (l' := #[.val (.int p1), .val (.int p2), .val (.long q3), .second, .val (.int p4), .val (.int (6 : Int32)), .val (.int pp), .val (.long bb), .second, .val (.long o1), .second, .val (.long o2), .second, .val (.long o3), .second, .val (.long o4), .second, .val (.long o5), .second, .val (.long o6), .second, .val (.long o7), .second, .val (.ref b97), .val (.long rr), .second, .val (.int le), .val (.int lt), .unset, .unset]) rfl ?_
      refine XS.iload X118.here hx rfl (hb hby at_262) rfl ?_
      show Steps p.tables e below (T118.setTop (mkF m 264 #[.val (.int p1), .val (.int p2), .val (.long q3), .second, .val (.int p4), .val (.int (6 : Int32)), .val (.int pp), .val (.long bb), .second, .val (.long o1), .second, .val (.long o2), .second, .val (.long o3), .second, .val (.long o4), .second, .val (.long o5), .second, .val (.long o6), .second, .val (.long o7), .second, .val (.ref b97), .val (.long rr), .second, .val (.int le), .val (.int lt), .unset, .unset] [(.int pp)])) _
      refine XS.i2l X118.here hx rfl (hb hby at_264) rfl ?_
      refine XS.iload X118.here hx rfl (hb hby at_265) rfl ?_
      refine XS.i2l X118.here hx rfl (hb hby at_267) rfl ?_
      refine XS.lmul X118.here hx rfl (hb hby at_268) rfl ?_
      exact k
    have hbd := own_b _ _ hbb
    have ko1 := own_o1 _ _ hv_o1
    have ko2 := own_o _ _ _ 3 (by decide) ⟨ko1.1, ko1.2⟩ hv_o2
    have zo2 : 0 ≤ o2.toInt := by omega
    have ko3 := own_o _ _ _ 6 (by decide) ⟨zo2, ko2.2⟩ hv_o3
    have zo3 : 0 ≤ o3.toInt := by omega
    have ko4 := own_o _ _ _ 9 (by decide) ⟨zo3, ko3.2⟩ hv_o4
    have zo4 : 0 ≤ o4.toInt := by omega
    have ko5 := own_o _ _ _ 12 (by decide) ⟨zo4, ko4.2⟩ hv_o5
    have zo5 : 0 ≤ o5.toInt := by omega
    have ko6 := own_o _ _ _ 15 (by decide) ⟨zo5, ko5.2⟩ hv_o6
    have zo6 : 0 ≤ o6.toInt := by omega
    have ko7 := own_o _ _ _ 18 (by decide) ⟨zo6, ko6.2⟩ hv_o7
    have zo7 : 0 ≤ o7.toInt := by omega
    have yx1 := own_x _ _ _ hbd ⟨by omega, by omega⟩ hv_x1
    have yx2 := own_x _ _ _ hbd ⟨by omega, by omega⟩ hv_x2
    have yx3 := own_x _ _ _ hbd ⟨by omega, by omega⟩ hv_x3
    have yx4 := own_x _ _ _ hbd ⟨by omega, by omega⟩ hv_x4
    have yx5 := own_x _ _ _ hbd ⟨by omega, by omega⟩ hv_x5
    have hsrt : own_srt [bb, x1, x2, x3, x4, x5] := by
      simp only [own_srt, List.mem_cons, List.not_mem_nil, or_false, forall_eq_or_imp, forall_eq, false_implies, implies_true, and_true, true_and]
      omega
    rw [hrr] at hle hlt
    obtain ⟨fin1, fin2⟩ := own_fin [bb, x1, x2, x3, x4, x5] (6 : Int32) pp j le lt need 6 (by decide) (by rfl) (by decide) (by decide) hpp hsrt jz jn j2 j3 hle hlt hv_need
    have hc120 : ¬ (((100 : Int64) * (le.toInt64)) < need) := fin1
    have hc121 : ((100 : Int64) * (lt.toInt64)) < need := fin2
    have g122 : ∀ t, Steps p.tables e below (T118.setTop (mkF m 302 #[.val (.int p1), .val (.int p2), .val (.long q3), .second, .val (.int p4), .val (.int (6 : Int32)), .val (.int pp), .val (.long bb), .second, .val (.long o1), .second, .val (.long o2), .second, .val (.long o3), .second, .val (.long o4), .second, .val (.long o5), .second, .val (.long o6), .second, .val (.long o7), .second, .val (.ref b97), .val (.long rr), .second, .val (.int le), .val (.int lt), .val (.long need), .second] [(.int (1 : Int32))])) t → Steps p.tables e below (s₁.setTop (entryFrame m #[(.int p1), (.int p2), (.long q3), (.int p4)] maxLocals)) t := by
      intro t k
      refine g119 t ?_
      show Steps p.tables e below (T118.setTop (mkF m 269 #[.val (.int p1), .val (.int p2), .val (.long q3), .second, .val (.int p4), .val (.int (6 : Int32)), .val (.int pp), .val (.long bb), .second, .val (.long o1), .second, .val (.long o2), .second, .val (.long o3), .second, .val (.long o4), .second, .val (.long o5), .second, .val (.long o6), .second, .val (.long o7), .second, .val (.ref b97), .val (.long rr), .second, .val (.int le), .val (.int lt), .unset, .unset] [(.long need)])) _
      refine XS.lstore X118.here hx rfl (hb hby at_269) rfl (l' := #[.val (.int p1), .val (.int p2), .val (.long q3), .second, .val (.int p4), .val (.int (6 : Int32)), .val (.int pp), .val (.long bb), .second, .val (.long o1), .second, .val (.long o2), .second, .val (.long o3), .second, .val (.long o4), .second, .val (.long o5), .second, .val (.long o6), .second, .val (.long o7), .second, .val (.ref b97), .val (.long rr), .second, .val (.int le), .val (.int lt), .val (.long need), .second]) rfl ?_
      refine X118.ldc2Long hx hown (mvT hZ (hw _ (List.mem_of_getElem? (i := 20) rfl))) (g := (mkF m 271 #[.val (.int p1), .val (.int p2), .val (.long q3), .second, .val (.int p4), .val (.int (6 : Int32)), .val (.int pp), .val (.long bb), .second, .val (.long o1), .second, .val (.long o2), .second, .val (.long o3), .second, .val (.long o4), .second, .val (.long o5), .second, .val (.long o6), .second, .val (.long o7), .second, .val (.ref b97), .val (.long rr), .second, .val (.int le), .val (.int lt), .val (.long need), .second] [])) rfl (hb hby at_271) _ ?_
      refine XS.iload X118.here hx rfl (hb hby at_274) rfl ?_
      refine XS.i2l X118.here hx rfl (hb hby at_276) rfl ?_
      show Steps p.tables e below (T118.setTop (mkF m 277 #[.val (.int p1), .val (.int p2), .val (.long q3), .second, .val (.int p4), .val (.int (6 : Int32)), .val (.int pp), .val (.long bb), .second, .val (.long o1), .second, .val (.long o2), .second, .val (.long o3), .second, .val (.long o4), .second, .val (.long o5), .second, .val (.long o6), .second, .val (.long o7), .second, .val (.ref b97), .val (.long rr), .second, .val (.int le), .val (.int lt), .val (.long need), .second] [(.long (le.toInt64)), (.long (100 : Int64))])) _
      refine XS.lmul X118.here hx rfl (hb hby at_277) rfl ?_
      refine XS.lload X118.here hx rfl (hb hby at_278) rfl ?_
      refine XS.lcmp X118.here hx rfl (hb hby at_280) rfl ?_
      refine XS.ifNo X118.here hx rfl (hb hby at_281) rfl ((if0 _ _).trans (flt (fun q => hc120 ((lw_lt _ _).mp q))).1) ?_
      show Steps p.tables e below (T118.setTop (mkF m 284 #[.val (.int p1), .val (.int p2), .val (.long q3), .second, .val (.int p4), .val (.int (6 : Int32)), .val (.int pp), .val (.long bb), .second, .val (.long o1), .second, .val (.long o2), .second, .val (.long o3), .second, .val (.long o4), .second, .val (.long o5), .second, .val (.long o6), .second, .val (.long o7), .second, .val (.ref b97), .val (.long rr), .second, .val (.int le), .val (.int lt), .val (.long need), .second] [])) _
      refine X118.ldc2Long hx hown (mvT hZ (hw _ (List.mem_of_getElem? (i := 20) rfl))) (g := (mkF m 284 #[.val (.int p1), .val (.int p2), .val (.long q3), .second, .val (.int p4), .val (.int (6 : Int32)), .val (.int pp), .val (.long bb), .second, .val (.long o1), .second, .val (.long o2), .second, .val (.long o3), .second, .val (.long o4), .second, .val (.long o5), .second, .val (.long o6), .second, .val (.long o7), .second, .val (.ref b97), .val (.long rr), .second, .val (.int le), .val (.int lt), .val (.long need), .second] [])) rfl (hb hby at_284) _ ?_
      refine XS.iload X118.here hx rfl (hb hby at_287) rfl ?_
      refine XS.i2l X118.here hx rfl (hb hby at_289) rfl ?_
      refine XS.lmul X118.here hx rfl (hb hby at_290) rfl ?_
      show Steps p.tables e below (T118.setTop (mkF m 291 #[.val (.int p1), .val (.int p2), .val (.long q3), .second, .val (.int p4), .val (.int (6 : Int32)), .val (.int pp), .val (.long bb), .second, .val (.long o1), .second, .val (.long o2), .second, .val (.long o3), .second, .val (.long o4), .second, .val (.long o5), .second, .val (.long o6), .second, .val (.long o7), .second, .val (.ref b97), .val (.long rr), .second, .val (.int le), .val (.int lt), .val (.long need), .second] [(.long ((100 : Int64) * (lt.toInt64)))])) _
      refine XS.lload X118.here hx rfl (hb hby at_291) rfl ?_
      refine XS.lcmp X118.here hx rfl (hb hby at_293) rfl ?_
      refine XS.ifNo X118.here hx rfl (hb hby at_294) rfl ((if0 _ _).trans (tlt ((lw_lt _ _).mpr hc121)).2.1) ?_
      refine XS.iconst X118.here hx rfl (hb hby at_297) ?_
      show Steps p.tables e below (T118.setTop (mkF m 298 #[.val (.int p1), .val (.int p2), .val (.long q3), .second, .val (.int p4), .val (.int (6 : Int32)), .val (.int pp), .val (.long bb), .second, .val (.long o1), .second, .val (.long o2), .second, .val (.long o3), .second, .val (.long o4), .second, .val (.long o5), .second, .val (.long o6), .second, .val (.long o7), .second, .val (.ref b97), .val (.long rr), .second, .val (.int le), .val (.int lt), .val (.long need), .second] [(.int (1 : Int32))])) _
      refine XS.goto X118.here hx rfl (pc0 := 298) (pc' := 302) rfl (hb hby at_298) (by decide) (by decide) ?_
      exact k
    obtain ⟨fs, hrt, hrun, hended, hW, hsame⟩ := X118.leave (v := some (.int (1 : Int32))) (fun h => by rw [Bd.returns] at h; cases h)
    refine ⟨_, _, g122 _ ?_, hrun, hended, _, _, rfl, ?_, ⟨_, rfl⟩, hW, hsame.mono (by decide) (by decide)⟩
    · show Steps p.tables e below (T118.setTop (mkF m 302 #[.val (.int p1), .val (.int p2), .val (.long q3), .second, .val (.int p4), .val (.int (6 : Int32)), .val (.int pp), .val (.long bb), .second, .val (.long o1), .second, .val (.long o2), .second, .val (.long o3), .second, .val (.long o4), .second, .val (.long o5), .second, .val (.long o6), .second, .val (.long o7), .second, .val (.ref b97), .val (.long rr), .second, .val (.int le), .val (.int lt), .val (.long need), .second] [(.int (1 : Int32))])) _
      exact retN X118 hx (t := .boolean) Bd.returns (by simp) (hb hby at_302) hrt
    · show own_Q_rm0 Z p1 p2 q3 p4 h0 n0 _ T118.heap _
      rw [e118]
      exact ⟨rfl, N118⟩
  · skip
    obtain ⟨T123, h123, k123, X123, e123, E123, A123, st123⟩ := newP X3 hx hZ (hw _ (List.mem_of_getElem? (i := 6) rfl)) e3 (g := (mkF m 116 #[.val (.int p1), .val (.int p2), .val (.long q3), .second, .val (.int p4), .val (.int (7 : Int32)), .val (.int pp), .val (.long bb), .second, .val (.long o1), .second, .val (.long o2), .second, .val (.long o3), .second, .val (.long o4), .second, .val (.long o5), .second, .val (.long o6), .second, .val (.long o7), .second, .unset, .unset, .unset, .unset, .unset, .unset, .unset] [(.int (7 : Int32))])) rfl (hb hby at_116) rfl (by decide) (cap := 7) (by decide) (by decide) (by decide) (by decide)
    obtain ⟨b123, q_b123⟩ : ∃ z, z = h0.size := ⟨_, rfl⟩
    rw [← q_b123] at A123 st123
    have sz_b123 : h0.size ≤ b123 := Nat.le_of_eq q_b123.symm
    have gz_b123 : n0 ≤ b123 := Nat.le_trans Z0 sz_b123
    have V123 : Arv Z h123 b123 k123 .long (7 : Int32) [(.long (0 : Int64)), (.long (0 : Int64)), (.long (0 : Int64)), (.long (0 : Int64)), (.long (0 : Int64)), (.long (0 : Int64)), (.long (0 : Int64))] (.long (0 : Int64)) := (Arv.new A123 (by decide)).pad (pad_rep [] (.long (0 : Int64)) 7)
    obtain ⟨c124, Ar124, cq124, S124, Nn124, Hh124, Gg124⟩ := id V123
    have hin124 : ¬ ((0 : Int32) < 0 ∨ c124.slots.size ≤ ((0 : Int32)).toNatClampNeg) := inb_of S124 ⟨by decide, by decide⟩
    obtain ⟨T125, h125, X125, e125, W125, st125⟩ := stJ X123 hx hZ e123 Ar124 (j := (0 : Int32)) hin124 (g := (mkF m 125 #[.val (.int p1), .val (.int p2), .val (.long q3), .second, .val (.int p4), .val (.int (7 : Int32)), .val (.int pp), .val (.long bb), .second, .val (.long o1), .second, .val (.long o2), .second, .val (.long o3), .second, .val (.long o4), .second, .val (.long o5), .second, .val (.long o6), .second, .val (.long o7), .second, .val (.ref b123), .unset, .unset, .unset, .unset, .unset, .unset] [(.long bb), (.int (0 : Int32)), (.ref b123)])) rfl rfl (hb hby at_125)
    have V125 := Arv.set Ar124 cq124 S124 Nn124 Hh124 Gg124 rfl W125 0 rfl (Nat.le_of_ble_eq_true rfl)
    have V125a : Arv Z h125 b123 k123 .long (7 : Int32) [(.long bb), (.long (0 : Int64)), (.long (0 : Int64)), (.long (0 : Int64)), (.long (0 : Int64)), (.long (0 : Int64)), (.long (0 : Int64))] (.long (0 : Int64)) := V125
    have N125 := Fr.snoc X125 N3 gz_b123
    obtain ⟨x1, hv_x1⟩ : ∃ z : Int64, z = (bb + o1) := ⟨_, rfl⟩
    have g126 : ∀ t, Steps p.tables e below (T125.setTop (mkF m 140 #[.val (.int p1), .val (.int p2), .val (.long q3), .second, .val (.int p4), .val (.int (7 : Int32)), .val (.int pp), .val (.long bb), .second, .val (.long o1), .second, .val (.long o2), .second, .val (.long o3), .second, .val (.long o4), .second, .val (.long o5), .second, .val (.long o6), .second, .val (.long o7), .second, .val (.ref b123), .unset, .unset, .unset, .unset, .unset, .unset] [(.long x1), (.int (1 : Int32)), (.ref b123)])) t → Steps p.tables e below (s₁.setTop (entryFrame m #[(.int p1), (.int p2), (.long q3), (.int p4)] maxLocals)) t := by
      intro t k
      rw [hv_x1] at k
      refine g11 t ?_
      show Steps p.tables e below (T3.setTop (mkF m 114 #[.val (.int p1), .val (.int p2), .val (.long q3), .second, .val (.int p4), .val (.int (7 : Int32)), .val (.int pp), .val (.long bb), .second, .val (.long o1), .second, .val (.long o2), .second, .val (.long o3), .second, .val (.long o4), .second, .val (.long o5), .second, .val (.long o6), .second, .val (.long o7), .second, .unset, .unset, .unset, .unset, .unset, .unset, .unset] [])) _
      refine XS.iload X3.here hx rfl (hb hby at_114) rfl ?_
      refine st123 _ ?_
      refine XS.astore X123.here hx rfl (hb hby at_118) rfl rfl (l' := #[.val (.int p1), .val (.int p2), .val (.long q3), .second, .val (.int p4), .val (.int (7 : Int32)), .val (.int pp), .val (.long bb), .second, .val (.long o1), .second, .val (.long o2), .second, .val (.long o3), .second, .val (.long o4), .second, .val (.long o5), .second, .val (.long o6), .second, .val (.long o7), .second, .val (.ref b123), .unset, .unset, .unset, .unset, .unset, .unset]) rfl ?_
      refine XS.aload X123.here hx rfl (hb hby at_120) rfl rfl ?_
      show Steps p.tables e below (T123.setTop (mkF m 122 #[.val (.int p1), .val (.int p2), .val (.long q3), .second, .val (.int p4), .val (.int (7 : Int32)), .val (.int pp), .val (.long bb), .second, .val (.long o1), .second, .val (.long o2), .second, .val (.long o3), .second, .val (.long o4), .second, .val (.long o5), .second, .val (.long o6), .second, .val (.long o7), .second, .val (.ref b123), .unset, .unset, .unset, .unset, .unset, .unset] [(.ref b123)])) _
      refine XS.iconst X123.here hx rfl (hb hby at_122) ?_
      refine XS.lload X123.here hx rfl (hb hby at_123) rfl ?_
      refine st125 _ ?_
      refine XS.iload X125.here hx rfl (hb hby at_126) rfl ?_
      show Steps p.tables e below (T125.setTop (mkF m 128 #[.val (.int p1), .val (.int p2), .val (.long q3), .second, .val (.int p4), .val (.int (7 : Int32)), .val (.int pp), .val (.long bb), .second, .val (.long o1), .second, .val (.long o2), .second, .val (.long o3), .second, .val (.long o4), .second, .val (.long o5), .second, .val (.long o6), .second, .val (.long o7), .second, .val (.ref b123), .unset, .unset, .unset, .unset, .unset, .unset] [(.int (7 : Int32))])) _
      refine XS.iconst X125.here hx rfl (hb hby at_128) ?_
      refine XS.icmpNo X125.here hx rfl (hb hby at_129) rfl (tlt (by decide : (1 : Int32) < (7 : Int32))).2.2.2 ?_
      refine XS.aload X125.here hx rfl (hb hby at_132) rfl rfl ?_
      refine XS.iconst X125.here hx rfl (hb hby at_134) ?_
      show Steps p.tables e below (T125.setTop (mkF m 135 #[.val (.int p1), .val (.int p2), .val (.long q3), .second, .val (.int p4), .val (.int (7 : Int32)), .val (.int pp), .val (.long bb), .second, .val (.long o1), .second, .val (.long o2), .second, .val (.long o3), .second, .val (.long o4), .second, .val (.long o5), .second, .val (.long o6), .second, .val (.long o7), .second, .val (.ref b123), .unset, .unset, .unset, .unset, .unset, .unset] [(.int (1 : Int32)), (.ref b123)])) _
      refine XS.lload X125.here hx rfl (hb hby at_135) rfl ?_
      refine XS.lload X125.here hx rfl (hb hby at_137) rfl ?_
      refine XS.ladd X125.here hx rfl (hb hby at_139) rfl ?_
      exact k
    obtain ⟨c127, Ar127, cq127, S127, Nn127, Hh127, Gg127⟩ := id V125a
    have hin127 : ¬ ((1 : Int32) < 0 ∨ c127.slots.size ≤ ((1 : Int32)).toNatClampNeg) := inb_of S127 ⟨by decide, by decide⟩
    obtain ⟨T128, h128, X128, e128, W128, st128⟩ := stJ X125 hx hZ e125 Ar127 (j := (1 : Int32)) hin127 (g := (mkF m 140 #[.val (.int p1), .val (.int p2), .val (.long q3), .second, .val (.int p4), .val (.int (7 : Int32)), .val (.int pp), .val (.long bb), .second, .val (.long o1), .second, .val (.long o2), .second, .val (.long o3), .second, .val (.long o4), .second, .val (.long o5), .second, .val (.long o6), .second, .val (.long o7), .second, .val (.ref b123), .unset, .unset, .unset, .unset, .unset, .unset] [(.long x1), (.int (1 : Int32)), (.ref b123)])) rfl rfl (hb hby at_140)
    have V128 := Arv.set Ar127 cq127 S127 Nn127 Hh127 Gg127 rfl W128 1 rfl (Nat.le_of_ble_eq_true rfl)
    have V128a : Arv Z h128 b123 k123 .long (7 : Int32) [(.long bb), (.long x1), (.long (0 : Int64)), (.long (0 : Int64)), (.long (0 : Int64)), (.long (0 : Int64)), (.long (0 : Int64))] (.long (0 : Int64)) := V128
    have N128 := Fr.snoc X128 N125 gz_b123
    obtain ⟨x2, hv_x2⟩ : ∃ z : Int64, z = (bb + o2) := ⟨_, rfl⟩
    have g129 : ∀ t, Steps p.tables e below (T128.setTop (mkF m 155 #[.val (.int p1), .val (.int p2), .val (.long q3), .second, .val (.int p4), .val (.int (7 : Int32)), .val (.int pp), .val (.long bb), .second, .val (.long o1), .second, .val (.long o2), .second, .val (.long o3), .second, .val (.long o4), .second, .val (.long o5), .second, .val (.long o6), .second, .val (.long o7), .second, .val (.ref b123), .unset, .unset, .unset, .unset, .unset, .unset] [(.long x2), (.int (2 : Int32)), (.ref b123)])) t → Steps p.tables e below (s₁.setTop (entryFrame m #[(.int p1), (.int p2), (.long q3), (.int p4)] maxLocals)) t := by
      intro t k
      rw [hv_x2] at k
      refine g126 t ?_
      show Steps p.tables e below (T125.setTop (mkF m 140 #[.val (.int p1), .val (.int p2), .val (.long q3), .second, .val (.int p4), .val (.int (7 : Int32)), .val (.int pp), .val (.long bb), .second, .val (.long o1), .second, .val (.long o2), .second, .val (.long o3), .second, .val (.long o4), .second, .val (.long o5), .second, .val (.long o6), .second, .val (.long o7), .second, .val (.ref b123), .unset, .unset, .unset, .unset, .unset, .unset] [(.long x1), (.int (1 : Int32)), (.ref b123)])) _
      refine st128 _ ?_
      refine XS.iload X128.here hx rfl (hb hby at_141) rfl ?_
      refine XS.iconst X128.here hx rfl (hb hby at_143) ?_
      refine XS.icmpNo X128.here hx rfl (hb hby at_144) rfl (tlt (by decide : (2 : Int32) < (7 : Int32))).2.2.2 ?_
      show Steps p.tables e below (T128.setTop (mkF m 147 #[.val (.int p1), .val (.int p2), .val (.long q3), .second, .val (.int p4), .val (.int (7 : Int32)), .val (.int pp), .val (.long bb), .second, .val (.long o1), .second, .val (.long o2), .second, .val (.long o3), .second, .val (.long o4), .second, .val (.long o5), .second, .val (.long o6), .second, .val (.long o7), .second, .val (.ref b123), .unset, .unset, .unset, .unset, .unset, .unset] [])) _
      refine XS.aload X128.here hx rfl (hb hby at_147) rfl rfl ?_
      refine XS.iconst X128.here hx rfl (hb hby at_149) ?_
      refine XS.lload X128.here hx rfl (hb hby at_150) rfl ?_
      refine XS.lload X128.here hx rfl (hb hby at_152) rfl ?_
      show Steps p.tables e below (T128.setTop (mkF m 154 #[.val (.int p1), .val (.int p2), .val (.long q3), .second, .val (.int p4), .val (.int (7 : Int32)), .val (.int pp), .val (.long bb), .second, .val (.long o1), .second, .val (.long o2), .second, .val (.long o3), .second, .val (.long o4), .second, .val (.long o5), .second, .val (.long o6), .second, .val (.long o7), .second, .val (.ref b123), .unset, .unset, .unset, .unset, .unset, .unset] [(.long o2), (.long bb), (.int (2 : Int32)), (.ref b123)])) _
      refine XS.ladd X128.here hx rfl (hb hby at_154) rfl ?_
      exact k
    obtain ⟨c130, Ar130, cq130, S130, Nn130, Hh130, Gg130⟩ := id V128a
    have hin130 : ¬ ((2 : Int32) < 0 ∨ c130.slots.size ≤ ((2 : Int32)).toNatClampNeg) := inb_of S130 ⟨by decide, by decide⟩
    obtain ⟨T131, h131, X131, e131, W131, st131⟩ := stJ X128 hx hZ e128 Ar130 (j := (2 : Int32)) hin130 (g := (mkF m 155 #[.val (.int p1), .val (.int p2), .val (.long q3), .second, .val (.int p4), .val (.int (7 : Int32)), .val (.int pp), .val (.long bb), .second, .val (.long o1), .second, .val (.long o2), .second, .val (.long o3), .second, .val (.long o4), .second, .val (.long o5), .second, .val (.long o6), .second, .val (.long o7), .second, .val (.ref b123), .unset, .unset, .unset, .unset, .unset, .unset] [(.long x2), (.int (2 : Int32)), (.ref b123)])) rfl rfl (hb hby at_155)
    have V131 := Arv.set Ar130 cq130 S130 Nn130 Hh130 Gg130 rfl W131 2 rfl (Nat.le_of_ble_eq_true rfl)
    have V131a : Arv Z h131 b123 k123 .long (7 : Int32) [(.long bb), (.long x1), (.long x2), (.long (0 : Int64)), (.long (0 : Int64)), (.long (0 : Int64)), (.long (0 : Int64))] (.long (0 : Int64)) := V131
    have N131 := Fr.snoc X131 N128 gz_b123
    obtain ⟨x3, hv_x3⟩ : ∃ z : Int64, z = (bb + o3) := ⟨_, rfl⟩
    have g132 : ∀ t, Steps p.tables e below (T131.setTop (mkF m 170 #[.val (.int p1), .val (.int p2), .val (.long q3), .second, .val (.int p4), .val (.int (7 : Int32)), .val (.int pp), .val (.long bb), .second, .val (.long o1), .second, .val (.long o2), .second, .val (.long o3), .second, .val (.long o4), .second, .val (.long o5), .second, .val (.long o6), .second, .val (.long o7), .second, .val (.ref b123), .unset, .unset, .unset, .unset, .unset, .unset] [(.long x3), (.int (3 : Int32)), (.ref b123)])) t → Steps p.tables e below (s₁.setTop (entryFrame m #[(.int p1), (.int p2), (.long q3), (.int p4)] maxLocals)) t := by
      intro t k
      rw [hv_x3] at k
      refine g129 t ?_
      show Steps p.tables e below (T128.setTop (mkF m 155 #[.val (.int p1), .val (.int p2), .val (.long q3), .second, .val (.int p4), .val (.int (7 : Int32)), .val (.int pp), .val (.long bb), .second, .val (.long o1), .second, .val (.long o2), .second, .val (.long o3), .second, .val (.long o4), .second, .val (.long o5), .second, .val (.long o6), .second, .val (.long o7), .second, .val (.ref b123), .unset, .unset, .unset, .unset, .unset, .unset] [(.long x2), (.int (2 : Int32)), (.ref b123)])) _
      refine st131 _ ?_
      refine XS.iload X131.here hx rfl (hb hby at_156) rfl ?_
      refine XS.iconst X131.here hx rfl (hb hby at_158) ?_
      refine XS.icmpNo X131.here hx rfl (hb hby at_159) rfl (tlt (by decide : (3 : Int32) < (7 : Int32))).2.2.2 ?_
      show Steps p.tables e below (T131.setTop (mkF m 162 #[.val (.int p1), .val (.int p2), .val (.long q3), .second, .val (.int p4), .val (.int (7 : Int32)), .val (.int pp), .val (.long bb), .second, .val (.long o1), .second, .val (.long o2), .second, .val (.long o3), .second, .val (.long o4), .second, .val (.long o5), .second, .val (.long o6), .second, .val (.long o7), .second, .val (.ref b123), .unset, .unset, .unset, .unset, .unset, .unset] [])) _
      refine XS.aload X131.here hx rfl (hb hby at_162) rfl rfl ?_
      refine XS.iconst X131.here hx rfl (hb hby at_164) ?_
      refine XS.lload X131.here hx rfl (hb hby at_165) rfl ?_
      refine XS.lload X131.here hx rfl (hb hby at_167) rfl ?_
      show Steps p.tables e below (T131.setTop (mkF m 169 #[.val (.int p1), .val (.int p2), .val (.long q3), .second, .val (.int p4), .val (.int (7 : Int32)), .val (.int pp), .val (.long bb), .second, .val (.long o1), .second, .val (.long o2), .second, .val (.long o3), .second, .val (.long o4), .second, .val (.long o5), .second, .val (.long o6), .second, .val (.long o7), .second, .val (.ref b123), .unset, .unset, .unset, .unset, .unset, .unset] [(.long o3), (.long bb), (.int (3 : Int32)), (.ref b123)])) _
      refine XS.ladd X131.here hx rfl (hb hby at_169) rfl ?_
      exact k
    obtain ⟨c133, Ar133, cq133, S133, Nn133, Hh133, Gg133⟩ := id V131a
    have hin133 : ¬ ((3 : Int32) < 0 ∨ c133.slots.size ≤ ((3 : Int32)).toNatClampNeg) := inb_of S133 ⟨by decide, by decide⟩
    obtain ⟨T134, h134, X134, e134, W134, st134⟩ := stJ X131 hx hZ e131 Ar133 (j := (3 : Int32)) hin133 (g := (mkF m 170 #[.val (.int p1), .val (.int p2), .val (.long q3), .second, .val (.int p4), .val (.int (7 : Int32)), .val (.int pp), .val (.long bb), .second, .val (.long o1), .second, .val (.long o2), .second, .val (.long o3), .second, .val (.long o4), .second, .val (.long o5), .second, .val (.long o6), .second, .val (.long o7), .second, .val (.ref b123), .unset, .unset, .unset, .unset, .unset, .unset] [(.long x3), (.int (3 : Int32)), (.ref b123)])) rfl rfl (hb hby at_170)
    have V134 := Arv.set Ar133 cq133 S133 Nn133 Hh133 Gg133 rfl W134 3 rfl (Nat.le_of_ble_eq_true rfl)
    have V134a : Arv Z h134 b123 k123 .long (7 : Int32) [(.long bb), (.long x1), (.long x2), (.long x3), (.long (0 : Int64)), (.long (0 : Int64)), (.long (0 : Int64))] (.long (0 : Int64)) := V134
    have N134 := Fr.snoc X134 N131 gz_b123
    obtain ⟨x4, hv_x4⟩ : ∃ z : Int64, z = (bb + o4) := ⟨_, rfl⟩
    have g135 : ∀ t, Steps p.tables e below (T134.setTop (mkF m 185 #[.val (.int p1), .val (.int p2), .val (.long q3), .second, .val (.int p4), .val (.int (7 : Int32)), .val (.int pp), .val (.long bb), .second, .val (.long o1), .second, .val (.long o2), .second, .val (.long o3), .second, .val (.long o4), .second, .val (.long o5), .second, .val (.long o6), .second, .val (.long o7), .second, .val (.ref b123), .unset, .unset, .unset, .unset, .unset, .unset] [(.long x4), (.int (4 : Int32)), (.ref b123)])) t → Steps p.tables e below (s₁.setTop (entryFrame m #[(.int p1), (.int p2), (.long q3), (.int p4)] maxLocals)) t := by
      intro t k
      rw [hv_x4] at k
      refine g132 t ?_
      show Steps p.tables e below (T131.setTop (mkF m 170 #[.val (.int p1), .val (.int p2), .val (.long q3), .second, .val (.int p4), .val (.int (7 : Int32)), .val (.int pp), .val (.long bb), .second, .val (.long o1), .second, .val (.long o2), .second, .val (.long o3), .second, .val (.long o4), .second, .val (.long o5), .second, .val (.long o6), .second, .val (.long o7), .second, .val (.ref b123), .unset, .unset, .unset, .unset, .unset, .unset] [(.long x3), (.int (3 : Int32)), (.ref b123)])) _
      refine st134 _ ?_
      refine XS.iload X134.here hx rfl (hb hby at_171) rfl ?_
      refine XS.iconst X134.here hx rfl (hb hby at_173) ?_
      refine XS.icmpNo X134.here hx rfl (hb hby at_174) rfl (tlt (by decide : (4 : Int32) < (7 : Int32))).2.2.2 ?_
      show Steps p.tables e below (T134.setTop (mkF m 177 #[.val (.int p1), .val (.int p2), .val (.long q3), .second, .val (.int p4), .val (.int (7 : Int32)), .val (.int pp), .val (.long bb), .second, .val (.long o1), .second, .val (.long o2), .second, .val (.long o3), .second, .val (.long o4), .second, .val (.long o5), .second, .val (.long o6), .second, .val (.long o7), .second, .val (.ref b123), .unset, .unset, .unset, .unset, .unset, .unset] [])) _
      refine XS.aload X134.here hx rfl (hb hby at_177) rfl rfl ?_
      refine XS.iconst X134.here hx rfl (hb hby at_179) ?_
      refine XS.lload X134.here hx rfl (hb hby at_180) rfl ?_
      refine XS.lload X134.here hx rfl (hb hby at_182) rfl ?_
      show Steps p.tables e below (T134.setTop (mkF m 184 #[.val (.int p1), .val (.int p2), .val (.long q3), .second, .val (.int p4), .val (.int (7 : Int32)), .val (.int pp), .val (.long bb), .second, .val (.long o1), .second, .val (.long o2), .second, .val (.long o3), .second, .val (.long o4), .second, .val (.long o5), .second, .val (.long o6), .second, .val (.long o7), .second, .val (.ref b123), .unset, .unset, .unset, .unset, .unset, .unset] [(.long o4), (.long bb), (.int (4 : Int32)), (.ref b123)])) _
      refine XS.ladd X134.here hx rfl (hb hby at_184) rfl ?_
      exact k
    obtain ⟨c136, Ar136, cq136, S136, Nn136, Hh136, Gg136⟩ := id V134a
    have hin136 : ¬ ((4 : Int32) < 0 ∨ c136.slots.size ≤ ((4 : Int32)).toNatClampNeg) := inb_of S136 ⟨by decide, by decide⟩
    obtain ⟨T137, h137, X137, e137, W137, st137⟩ := stJ X134 hx hZ e134 Ar136 (j := (4 : Int32)) hin136 (g := (mkF m 185 #[.val (.int p1), .val (.int p2), .val (.long q3), .second, .val (.int p4), .val (.int (7 : Int32)), .val (.int pp), .val (.long bb), .second, .val (.long o1), .second, .val (.long o2), .second, .val (.long o3), .second, .val (.long o4), .second, .val (.long o5), .second, .val (.long o6), .second, .val (.long o7), .second, .val (.ref b123), .unset, .unset, .unset, .unset, .unset, .unset] [(.long x4), (.int (4 : Int32)), (.ref b123)])) rfl rfl (hb hby at_185)
    have V137 := Arv.set Ar136 cq136 S136 Nn136 Hh136 Gg136 rfl W137 4 rfl (Nat.le_of_ble_eq_true rfl)
    have V137a : Arv Z h137 b123 k123 .long (7 : Int32) [(.long bb), (.long x1), (.long x2), (.long x3), (.long x4), (.long (0 : Int64)), (.long (0 : Int64))] (.long (0 : Int64)) := V137
    have N137 := Fr.snoc X137 N134 gz_b123
    obtain ⟨x5, hv_x5⟩ : ∃ z : Int64, z = (bb + o5) := ⟨_, rfl⟩
    have g138 : ∀ t, Steps p.tables e below (T137.setTop (mkF m 200 #[.val (.int p1), .val (.int p2), .val (.long q3), .second, .val (.int p4), .val (.int (7 : Int32)), .val (.int pp), .val (.long bb), .second, .val (.long o1), .second, .val (.long o2), .second, .val (.long o3), .second, .val (.long o4), .second, .val (.long o5), .second, .val (.long o6), .second, .val (.long o7), .second, .val (.ref b123), .unset, .unset, .unset, .unset, .unset, .unset] [(.long x5), (.int (5 : Int32)), (.ref b123)])) t → Steps p.tables e below (s₁.setTop (entryFrame m #[(.int p1), (.int p2), (.long q3), (.int p4)] maxLocals)) t := by
      intro t k
      rw [hv_x5] at k
      refine g135 t ?_
      show Steps p.tables e below (T134.setTop (mkF m 185 #[.val (.int p1), .val (.int p2), .val (.long q3), .second, .val (.int p4), .val (.int (7 : Int32)), .val (.int pp), .val (.long bb), .second, .val (.long o1), .second, .val (.long o2), .second, .val (.long o3), .second, .val (.long o4), .second, .val (.long o5), .second, .val (.long o6), .second, .val (.long o7), .second, .val (.ref b123), .unset, .unset, .unset, .unset, .unset, .unset] [(.long x4), (.int (4 : Int32)), (.ref b123)])) _
      refine st137 _ ?_
      refine XS.iload X137.here hx rfl (hb hby at_186) rfl ?_
      refine XS.iconst X137.here hx rfl (hb hby at_188) ?_
      refine XS.icmpNo X137.here hx rfl (hb hby at_189) rfl (tlt (by decide : (5 : Int32) < (7 : Int32))).2.2.2 ?_
      show Steps p.tables e below (T137.setTop (mkF m 192 #[.val (.int p1), .val (.int p2), .val (.long q3), .second, .val (.int p4), .val (.int (7 : Int32)), .val (.int pp), .val (.long bb), .second, .val (.long o1), .second, .val (.long o2), .second, .val (.long o3), .second, .val (.long o4), .second, .val (.long o5), .second, .val (.long o6), .second, .val (.long o7), .second, .val (.ref b123), .unset, .unset, .unset, .unset, .unset, .unset] [])) _
      refine XS.aload X137.here hx rfl (hb hby at_192) rfl rfl ?_
      refine XS.iconst X137.here hx rfl (hb hby at_194) ?_
      refine XS.lload X137.here hx rfl (hb hby at_195) rfl ?_
      refine XS.lload X137.here hx rfl (hb hby at_197) rfl ?_
      show Steps p.tables e below (T137.setTop (mkF m 199 #[.val (.int p1), .val (.int p2), .val (.long q3), .second, .val (.int p4), .val (.int (7 : Int32)), .val (.int pp), .val (.long bb), .second, .val (.long o1), .second, .val (.long o2), .second, .val (.long o3), .second, .val (.long o4), .second, .val (.long o5), .second, .val (.long o6), .second, .val (.long o7), .second, .val (.ref b123), .unset, .unset, .unset, .unset, .unset, .unset] [(.long o5), (.long bb), (.int (5 : Int32)), (.ref b123)])) _
      refine XS.ladd X137.here hx rfl (hb hby at_199) rfl ?_
      exact k
    obtain ⟨c139, Ar139, cq139, S139, Nn139, Hh139, Gg139⟩ := id V137a
    have hin139 : ¬ ((5 : Int32) < 0 ∨ c139.slots.size ≤ ((5 : Int32)).toNatClampNeg) := inb_of S139 ⟨by decide, by decide⟩
    obtain ⟨T140, h140, X140, e140, W140, st140⟩ := stJ X137 hx hZ e137 Ar139 (j := (5 : Int32)) hin139 (g := (mkF m 200 #[.val (.int p1), .val (.int p2), .val (.long q3), .second, .val (.int p4), .val (.int (7 : Int32)), .val (.int pp), .val (.long bb), .second, .val (.long o1), .second, .val (.long o2), .second, .val (.long o3), .second, .val (.long o4), .second, .val (.long o5), .second, .val (.long o6), .second, .val (.long o7), .second, .val (.ref b123), .unset, .unset, .unset, .unset, .unset, .unset] [(.long x5), (.int (5 : Int32)), (.ref b123)])) rfl rfl (hb hby at_200)
    have V140 := Arv.set Ar139 cq139 S139 Nn139 Hh139 Gg139 rfl W140 5 rfl (Nat.le_of_ble_eq_true rfl)
    have V140a : Arv Z h140 b123 k123 .long (7 : Int32) [(.long bb), (.long x1), (.long x2), (.long x3), (.long x4), (.long x5), (.long (0 : Int64))] (.long (0 : Int64)) := V140
    have N140 := Fr.snoc X140 N137 gz_b123
    obtain ⟨x6, hv_x6⟩ : ∃ z : Int64, z = (bb + o6) := ⟨_, rfl⟩
    have g141 : ∀ t, Steps p.tables e below (T140.setTop (mkF m 217 #[.val (.int p1), .val (.int p2), .val (.long q3), .second, .val (.int p4), .val (.int (7 : Int32)), .val (.int pp), .val (.long bb), .second, .val (.long o1), .second, .val (.long o2), .second, .val (.long o3), .second, .val (.long o4), .second, .val (.long o5), .second, .val (.long o6), .second, .val (.long o7), .second, .val (.ref b123), .unset, .unset, .unset, .unset, .unset, .unset] [(.long x6), (.int (6 : Int32)), (.ref b123)])) t → Steps p.tables e below (s₁.setTop (entryFrame m #[(.int p1), (.int p2), (.long q3), (.int p4)] maxLocals)) t := by
      intro t k
      rw [hv_x6] at k
      refine g138 t ?_
      show Steps p.tables e below (T137.setTop (mkF m 200 #[.val (.int p1), .val (.int p2), .val (.long q3), .second, .val (.int p4), .val (.int (7 : Int32)), .val (.int pp), .val (.long bb), .second, .val (.long o1), .second, .val (.long o2), .second, .val (.long o3), .second, .val (.long o4), .second, .val (.long o5), .second, .val (.long o6), .second, .val (.long o7), .second, .val (.ref b123), .unset, .unset, .unset, .unset, .unset, .unset] [(.long x5), (.int (5 : Int32)), (.ref b123)])) _
      refine st140 _ ?_
      refine XS.iload X140.here hx rfl (hb hby at_201) rfl ?_
      refine XS.bipush X140.here hx rfl (hb hby at_203) ?_
      refine XS.icmpNo X140.here hx rfl (hb hby at_205) rfl (tlt (by decide : (6 : Int32) < (7 : Int32))).2.2.2 ?_
      show Steps p.tables e below (T140.setTop (mkF m 208 #[.val (.int p1), .val (.int p2), .val (.long q3), .second, .val (.int p4), .val (.int (7 : Int32)), .val (.int pp), .val (.long bb), .second, .val (.long o1), .second, .val (.long o2), .second, .val (.long o3), .second, .val (.long o4), .second, .val (.long o5), .second, .val (.long o6), .second, .val (.long o7), .second, .val (.ref b123), .unset, .unset, .unset, .unset, .unset, .unset] [])) _
      refine XS.aload X140.here hx rfl (hb hby at_208) rfl rfl ?_
      refine XS.bipush X140.here hx rfl (hb hby at_210) ?_
      refine XS.lload X140.here hx rfl (hb hby at_212) rfl ?_
      refine XS.lload X140.here hx rfl (hb hby at_214) rfl ?_
      show Steps p.tables e below (T140.setTop (mkF m 216 #[.val (.int p1), .val (.int p2), .val (.long q3), .second, .val (.int p4), .val (.int (7 : Int32)), .val (.int pp), .val (.long bb), .second, .val (.long o1), .second, .val (.long o2), .second, .val (.long o3), .second, .val (.long o4), .second, .val (.long o5), .second, .val (.long o6), .second, .val (.long o7), .second, .val (.ref b123), .unset, .unset, .unset, .unset, .unset, .unset] [(.long o6), (.long bb), (.int (6 : Int32)), (.ref b123)])) _
      refine XS.ladd X140.here hx rfl (hb hby at_216) rfl ?_
      exact k
    obtain ⟨c142, Ar142, cq142, S142, Nn142, Hh142, Gg142⟩ := id V140a
    have hin142 : ¬ ((6 : Int32) < 0 ∨ c142.slots.size ≤ ((6 : Int32)).toNatClampNeg) := inb_of S142 ⟨by decide, by decide⟩
    obtain ⟨T143, h143, X143, e143, W143, st143⟩ := stJ X140 hx hZ e140 Ar142 (j := (6 : Int32)) hin142 (g := (mkF m 217 #[.val (.int p1), .val (.int p2), .val (.long q3), .second, .val (.int p4), .val (.int (7 : Int32)), .val (.int pp), .val (.long bb), .second, .val (.long o1), .second, .val (.long o2), .second, .val (.long o3), .second, .val (.long o4), .second, .val (.long o5), .second, .val (.long o6), .second, .val (.long o7), .second, .val (.ref b123), .unset, .unset, .unset, .unset, .unset, .unset] [(.long x6), (.int (6 : Int32)), (.ref b123)])) rfl rfl (hb hby at_217)
    have V143 := Arv.set Ar142 cq142 S142 Nn142 Hh142 Gg142 rfl W143 6 rfl (Nat.le_of_ble_eq_true rfl)
    have V143a : Arv Z h143 b123 k123 .long (7 : Int32) [(.long bb), (.long x1), (.long x2), (.long x3), (.long x4), (.long x5), (.long x6)] (.long (0 : Int64)) := V143
    have N143 := Fr.snoc X143 N140 gz_b123
    have o144 : Old Z n0 h143 := (Old.wr (Old.wr (Old.wr (Old.wr (Old.wr (Old.wr (Old.wr (Old.ext O0 E123) W125 gz_b123) W128 gz_b123) W131 gz_b123) W134 gz_b123) W137 gz_b123) W140 gz_b123) W143 gz_b123)
    have hpp := own_p _ _ hv_pp
    obtain ⟨j, hj, jz, jn, j2, j3⟩ := own_pct (7 : Int32) pp 7 (by decide) (by decide) (by decide) hpp
    have hj0 : ¬ j < 0 := by rw [Int32.lt_iff_toInt_lt, show (0 : Int32).toInt = 0 by decide]; omega
    have hj1 : j < (7 : Int32) := by rw [Int32.lt_iff_toInt_lt, show (7 : Int32).toInt = 7 by decide]; omega
    have hjl : j.toNatClampNeg < ([bb, x1, x2, x3, x4, x5, x6] : List Int64).length := by simp only [Int32.toNatClampNeg, List.length_cons, List.length_nil]; omega
    have hjr := own_getD [bb, x1, x2, x3, x4, x5, x6] j.toNatClampNeg hjl
    obtain ⟨rr, hrr⟩ : ∃ z : Int64, z = ([bb, x1, x2, x3, x4, x5, x6] : List Int64).getD j.toNatClampNeg 0 := ⟨_, rfl⟩
    rw [← hrr] at hjr
    obtain ⟨_, _, ⟨T145, L145, k145, n145⟩, -, X145, ⟨Lc145, hQ145, l145, y145, z145⟩, st145⟩ := Jvm.LawKit.callS X143 hx (y := (⟨"orderwire/bench/Latency", "percentile", "([JI)J"⟩ : MethodName)) hown (mvT hZ (hw _ (List.mem_of_getElem? (i := 7) rfl))) (mvT hZ (hw _ (List.mem_of_getElem? (i := 8) rfl))) (mvT hZ (hw _ (List.mem_of_getElem? (i := 9) rfl))) (mvT hZ (hw _ (List.mem_of_getElem? (i := 10) rfl))) (by decide) (backOf (W := 0) (rmPct7 l Z a0 hw [] b123 k123 bb x1 x2 x3 x4 x5 x6 rr pp j h143 n0 o144 V143a hj hj0 hj1 hjr) hZ (hw _ (List.mem_of_getElem? (i := 10) rfl)) (hw _ (List.mem_of_getElem? (i := 9) rfl)) (by decide) (by decide)) (g := (mkF m 239 #[.val (.int p1), .val (.int p2), .val (.long q3), .second, .val (.int p4), .val (.int (7 : Int32)), .val (.int pp), .val (.long bb), .second, .val (.long o1), .second, .val (.long o2), .second, .val (.long o3), .second, .val (.long o4), .second, .val (.long o5), .second, .val (.long o6), .second, .val (.long o7), .second, .val (.ref b123), .unset, .unset, .unset, .unset, .unset, .unset] [(.int pp), (.ref b123)])) rfl (by rw [hml]; rfl) (argsL := [(.ref b123), (.int pp)]) (rest := []) (lenOf own_pd1 rfl) rfl (by show 2 * 0 + _ ≤ _; exact Nat.le_of_eq rfl) (hb hby at_239) (fun _ _ => ⟨rfl, e143, (by decide : 1 + 0 ≤ _), (by decide : 7 + 0 ≤ _)⟩)
    dsimp only [Pt.U, Pt.locs, Pt.cells, Pt.slots] at X145 l145 y145 z145 st145 hQ145
    subst l145 y145 z145
    obtain ⟨rfl, Nq145, e145⟩ := hQ145
    have N145 := Fr.app N143 Nq145
    obtain ⟨le, hle⟩ : ∃ z : Int32, own_cle rr [bb, x1, x2, x3, x4, x5, x6] 0 = z := ⟨_, rfl⟩
    obtain ⟨_, _, ⟨T146, L146, k146, n146⟩, -, X146, ⟨Lc146, hQ146, l146, y146, z146⟩, st146⟩ := Jvm.LawKit.callS X145 hx (y := (⟨"orderwire/bench/LatencyPercentilePinLaw", "countLe", "([JJ)I"⟩ : MethodName)) hown (mvT hZ (hw _ (List.mem_of_getElem? (i := 13) rfl))) (mvT hZ (hw _ (List.mem_of_getElem? (i := 14) rfl))) (mvT hZ (hw _ (List.mem_of_getElem? (i := 15) rfl))) (mvT hZ (hw _ (List.mem_of_getElem? (i := 16) rfl))) (by decide) (backOf (W := 0) (rmcountLe7 l Z a0 hw [] b123 k123 bb x1 x2 x3 x4 x5 x6 rr le h143 n0 o144 V143a hle) hZ (hw _ (List.mem_of_getElem? (i := 16) rfl)) (hw _ (List.mem_of_getElem? (i := 15) rfl)) (by decide) (by decide)) (g := (mkF m 248 #[.val (.int p1), .val (.int p2), .val (.long q3), .second, .val (.int p4), .val (.int (7 : Int32)), .val (.int pp), .val (.long bb), .second, .val (.long o1), .second, .val (.long o2), .second, .val (.long o3), .second, .val (.long o4), .second, .val (.long o5), .second, .val (.long o6), .second, .val (.long o7), .second, .val (.ref b123), .val (.long rr), .second, .unset, .unset, .unset, .unset] [(.long rr), (.ref b123)])) rfl (by rw [hml]; rfl) (argsL := [(.ref b123), (.long rr)]) (rest := []) (lenOf own_pd2 rfl) rfl (by show 2 * 0 + _ ≤ _; exact Nat.le_of_eq rfl) (hb hby at_248) (fun _ _ => ⟨rfl, e145, (by decide : 1 + 0 ≤ _), (by decide : 7 + 0 ≤ _)⟩)
    dsimp only [Pt.U, Pt.locs, Pt.cells, Pt.slots] at X146 l146 y146 z146 st146 hQ146
    subst l146 y146 z146
    obtain ⟨rfl, Nq146, e146⟩ := hQ146
    have N146 := Fr.app N145 Nq146
    obtain ⟨lt, hlt⟩ : ∃ z : Int32, own_clt rr [bb, x1, x2, x3, x4, x5, x6] 0 = z := ⟨_, rfl⟩
    obtain ⟨_, _, ⟨T147, L147, k147, n147⟩, -, X147, ⟨Lc147, hQ147, l147, y147, z147⟩, st147⟩ := Jvm.LawKit.callS X146 hx (y := (⟨"orderwire/bench/LatencyPercentilePinLaw", "countLt", "([JJ)I"⟩ : MethodName)) hown (mvT hZ (hw _ (List.mem_of_getElem? (i := 17) rfl))) (mvT hZ (hw _ (List.mem_of_getElem? (i := 18) rfl))) (mvT hZ (hw _ (List.mem_of_getElem? (i := 15) rfl))) (mvT hZ (hw _ (List.mem_of_getElem? (i := 19) rfl))) (by decide) (backOf (W := 0) (rmcountLt7 l Z a0 hw [] b123 k123 bb x1 x2 x3 x4 x5 x6 rr lt h143 n0 o144 V143a hlt) hZ (hw _ (List.mem_of_getElem? (i := 19) rfl)) (hw _ (List.mem_of_getElem? (i := 15) rfl)) (by decide) (by decide)) (g := (mkF m 257 #[.val (.int p1), .val (.int p2), .val (.long q3), .second, .val (.int p4), .val (.int (7 : Int32)), .val (.int pp), .val (.long bb), .second, .val (.long o1), .second, .val (.long o2), .second, .val (.long o3), .second, .val (.long o4), .second, .val (.long o5), .second, .val (.long o6), .second, .val (.long o7), .second, .val (.ref b123), .val (.long rr), .second, .val (.int le), .unset, .unset, .unset] [(.long rr), (.ref b123)])) rfl (by rw [hml]; rfl) (argsL := [(.ref b123), (.long rr)]) (rest := []) (lenOf own_pd2 rfl) rfl (by show 2 * 0 + _ ≤ _; exact Nat.le_of_eq rfl) (hb hby at_257) (fun _ _ => ⟨rfl, e146, (by decide : 1 + 0 ≤ _), (by decide : 7 + 0 ≤ _)⟩)
    dsimp only [Pt.U, Pt.locs, Pt.cells, Pt.slots] at X147 l147 y147 z147 st147 hQ147
    subst l147 y147 z147
    obtain ⟨rfl, Nq147, e147⟩ := hQ147
    have N147 := Fr.app N146 Nq147
    obtain ⟨need, hv_need⟩ : ∃ z : Int64, z = ((pp.toInt64) * ((7 : Int32).toInt64)) := ⟨_, rfl⟩
    have g148 : ∀ t, Steps p.tables e below (T147.setTop (mkF m 269 #[.val (.int p1), .val (.int p2), .val (.long q3), .second, .val (.int p4), .val (.int (7 : Int32)), .val (.int pp), .val (.long bb), .second, .val (.long o1), .second, .val (.long o2), .second, .val (.long o3), .second, .val (.long o4), .second, .val (.long o5), .second, .val (.long o6), .second, .val (.long o7), .second, .val (.ref b123), .val (.long rr), .second, .val (.int le), .val (.int lt), .unset, .unset] [(.long need)])) t → Steps p.tables e below (s₁.setTop (entryFrame m #[(.int p1), (.int p2), (.long q3), (.int p4)] maxLocals)) t := by
      intro t k
      rw [hv_need] at k
      refine g141 t ?_
      show Steps p.tables e below (T140.setTop (mkF m 217 #[.val (.int p1), .val (.int p2), .val (.long q3), .second, .val (.int p4), .val (.int (7 : Int32)), .val (.int pp), .val (.long bb), .second, .val (.long o1), .second, .val (.long o2), .second, .val (.long o3), .second, .val (.long o4), .second, .val (.long o5), .second, .val (.long o6), .second, .val (.long o7), .second, .val (.ref b123), .unset, .unset, .unset, .unset, .unset, .unset] [(.long x6), (.int (6 : Int32)), (.ref b123)])) _
      refine st143 _ ?_
      refine XS.iload X143.here hx rfl (hb hby at_218) rfl ?_
      refine XS.bipush X143.here hx rfl (hb hby at_220) ?_
      refine XS.icmpYes X143.here hx rfl (pc0 := 222) (pc' := 235) rfl (hb hby at_222) rfl (flt (by decide : ¬ ((7 : Int32) < (7 : Int32)))).2.2.2 (by decide) (by decide) ?_
      show Steps p.tables e below (T143.setTop (mkF m 235 #[.val (.int p1), .val (.int p2), .val (.long q3), .second, .val (.int p4), .val (.int (7 : Int32)), .val (.int pp), .val (.long bb), .second, .val (.long o1), .second, .val (.long o2), .second, .val (.long o3), .second, .val (.long o4), .second, .val (.long o5), .second, .val (.long o6), .second, .val (.long o7), .second, .val (.ref b123), .unset, .unset, .unset, .unset, .unset, .unset] [])) _
      refine XS.aload X143.here hx rfl (hb hby at_235) rfl rfl ?_
      refine XS.iload X143.here hx rfl (hb hby at_237) rfl ?_
      refine st145 _ ?_
      refine XS.lstore X145.here hx rfl (hb hby at_242) rfl (l' := #[.val (.int p1), .val (.int p2), .val (.long q3), .second, .val (.int p4), .val (.int (7 : Int32)), .val (.int pp), .val (.long bb), .second, .val (.long o1), .second, .val (.long o2), .second, .val (.long o3), .second, .val (.long o4), .second, .val (.long o5), .second, .val (.long o6), .second, .val (.long o7), .second, .val (.ref b123), .val (.long rr), .second, .unset, .unset, .unset, .unset]) rfl ?_
      show Steps p.tables e below (T145.setTop (mkF m 244 #[.val (.int p1), .val (.int p2), .val (.long q3), .second, .val (.int p4), .val (.int (7 : Int32)), .val (.int pp), .val (.long bb), .second, .val (.long o1), .second, .val (.long o2), .second, .val (.long o3), .second, .val (.long o4), .second, .val (.long o5), .second, .val (.long o6), .second, .val (.long o7), .second, .val (.ref b123), .val (.long rr), .second, .unset, .unset, .unset, .unset] [])) _
      refine XS.aload X145.here hx rfl (hb hby at_244) rfl rfl ?_
      refine XS.lload X145.here hx rfl (hb hby at_246) rfl ?_
      refine st146 _ ?_
      refine XS.istore X146.here hx rfl (hb hby at_251) rfl (l' := #[.val (.int p1), .val (.int p2), .val (.long q3), .second, .val (.int p4), .val (.int (7 : Int32)), .val (.int pp), .val (.long bb), .second, .val (.long o1), .second, .val (.long o2), .second, .val (.long o3), .second, .val (.long o4), .second, .val (.long o5), .second, .val (.long o6), .second, .val (.long o7), .second, .val (.ref b123), .val (.long rr), .second, .val (.int le), .unset, .unset, .unset]) rfl ?_
      show Steps p.tables e below (T146.setTop (mkF m 253 #[.val (.int p1), .val (.int p2), .val (.long q3), .second, .val (.int p4), .val (.int (7 : Int32)), .val (.int pp), .val (.long bb), .second, .val (.long o1), .second, .val (.long o2), .second, .val (.long o3), .second, .val (.long o4), .second, .val (.long o5), .second, .val (.long o6), .second, .val (.long o7), .second, .val (.ref b123), .val (.long rr), .second, .val (.int le), .unset, .unset, .unset] [])) _
      refine XS.aload X146.here hx rfl (hb hby at_253) rfl rfl ?_
      refine XS.lload X146.here hx rfl (hb hby at_255) rfl ?_
      refine st147 _ ?_
      refine XS.istore X147.here hx rfl (hb hby at_260) rfl (l' := #[.val (.int p1), .val (.int p2), .val (.long q3), .second, .val (.int p4), .val (.int (7 : Int32)), .val (.int pp), .val (.long bb), .second, .val (.long o1), .second, .val (.long o2), .second, .val (.long o3), .second, .val (.long o4), .second, .val (.long o5), .second, .val (.long o6), .second, .val (.long o7), .second, .val (.ref b123), .val (.long rr), .second, .val (.int le), .val (.int lt), .unset, .unset]) rfl ?_
      show Steps p.tables e below (T147.setTop (mkF m 262 #[.val (.int p1), .val (.int p2), .val (.long q3), .second, .val (.int p4), .val (.int (7 : Int32)), .val (.int pp), .val (.long bb), .second, .val (.long o1), .second, .val (.long o2), .second, .val (.long o3), .second, .val (.long o4), .second, .val (.long o5), .second, .val (.long o6), .second, .val (.long o7), .second, .val (.ref b123), .val (.long rr), .second, .val (.int le), .val (.int lt), .unset, .unset] [])) _
      refine XS.iload X147.here hx rfl (hb hby at_262) rfl ?_
      refine XS.i2l X147.here hx rfl (hb hby at_264) rfl ?_
      refine XS.iload X147.here hx rfl (hb hby at_265) rfl ?_
      refine XS.i2l X147.here hx rfl (hb hby at_267) rfl ?_
      show Steps p.tables e below (T147.setTop (mkF m 268 #[.val (.int p1), .val (.int p2), .val (.long q3), .second, .val (.int p4), .val (.int (7 : Int32)), .val (.int pp), .val (.long bb), .second, .val (.long o1), .second, .val (.long o2), .second, .val (.long o3), .second, .val (.long o4), .second, .val (.long o5), .second, .val (.long o6), .second, .val (.long o7), .second, .val (.ref b123), .val (.long rr), .second, .val (.int le), .val (.int lt), .unset, .unset] [(.long ((7 : Int32).toInt64)), (.long (pp.toInt64))])) _
      refine XS.lmul X147.here hx rfl (hb hby at_268) rfl ?_
      exact k
    have hbd := own_b _ _ hbb
    have ko1 := own_o1 _ _ hv_o1
    have ko2 := own_o _ _ _ 3 (by decide) ⟨ko1.1, ko1.2⟩ hv_o2
    have zo2 : 0 ≤ o2.toInt := by omega
    have ko3 := own_o _ _ _ 6 (by decide) ⟨zo2, ko2.2⟩ hv_o3
    have zo3 : 0 ≤ o3.toInt := by omega
    have ko4 := own_o _ _ _ 9 (by decide) ⟨zo3, ko3.2⟩ hv_o4
    have zo4 : 0 ≤ o4.toInt := by omega
    have ko5 := own_o _ _ _ 12 (by decide) ⟨zo4, ko4.2⟩ hv_o5
    have zo5 : 0 ≤ o5.toInt := by omega
    have ko6 := own_o _ _ _ 15 (by decide) ⟨zo5, ko5.2⟩ hv_o6
    have zo6 : 0 ≤ o6.toInt := by omega
    have ko7 := own_o _ _ _ 18 (by decide) ⟨zo6, ko6.2⟩ hv_o7
    have zo7 : 0 ≤ o7.toInt := by omega
    have yx1 := own_x _ _ _ hbd ⟨by omega, by omega⟩ hv_x1
    have yx2 := own_x _ _ _ hbd ⟨by omega, by omega⟩ hv_x2
    have yx3 := own_x _ _ _ hbd ⟨by omega, by omega⟩ hv_x3
    have yx4 := own_x _ _ _ hbd ⟨by omega, by omega⟩ hv_x4
    have yx5 := own_x _ _ _ hbd ⟨by omega, by omega⟩ hv_x5
    have yx6 := own_x _ _ _ hbd ⟨by omega, by omega⟩ hv_x6
    have hsrt : own_srt [bb, x1, x2, x3, x4, x5, x6] := by
      simp only [own_srt, List.mem_cons, List.not_mem_nil, or_false, forall_eq_or_imp, forall_eq, false_implies, implies_true, and_true, true_and]
      omega
    rw [hrr] at hle hlt
    obtain ⟨fin1, fin2⟩ := own_fin [bb, x1, x2, x3, x4, x5, x6] (7 : Int32) pp j le lt need 7 (by decide) (by rfl) (by decide) (by decide) hpp hsrt jz jn j2 j3 hle hlt hv_need
    have hc149 : ¬ (((100 : Int64) * (le.toInt64)) < need) := fin1
    have hc150 : ((100 : Int64) * (lt.toInt64)) < need := fin2
    have g151 : ∀ t, Steps p.tables e below (T147.setTop (mkF m 302 #[.val (.int p1), .val (.int p2), .val (.long q3), .second, .val (.int p4), .val (.int (7 : Int32)), .val (.int pp), .val (.long bb), .second, .val (.long o1), .second, .val (.long o2), .second, .val (.long o3), .second, .val (.long o4), .second, .val (.long o5), .second, .val (.long o6), .second, .val (.long o7), .second, .val (.ref b123), .val (.long rr), .second, .val (.int le), .val (.int lt), .val (.long need), .second] [(.int (1 : Int32))])) t → Steps p.tables e below (s₁.setTop (entryFrame m #[(.int p1), (.int p2), (.long q3), (.int p4)] maxLocals)) t := by
      intro t k
      refine g148 t ?_
      show Steps p.tables e below (T147.setTop (mkF m 269 #[.val (.int p1), .val (.int p2), .val (.long q3), .second, .val (.int p4), .val (.int (7 : Int32)), .val (.int pp), .val (.long bb), .second, .val (.long o1), .second, .val (.long o2), .second, .val (.long o3), .second, .val (.long o4), .second, .val (.long o5), .second, .val (.long o6), .second, .val (.long o7), .second, .val (.ref b123), .val (.long rr), .second, .val (.int le), .val (.int lt), .unset, .unset] [(.long need)])) _
      refine XS.lstore X147.here hx rfl (hb hby at_269) rfl (l' := #[.val (.int p1), .val (.int p2), .val (.long q3), .second, .val (.int p4), .val (.int (7 : Int32)), .val (.int pp), .val (.long bb), .second, .val (.long o1), .second, .val (.long o2), .second, .val (.long o3), .second, .val (.long o4), .second, .val (.long o5), .second, .val (.long o6), .second, .val (.long o7), .second, .val (.ref b123), .val (.long rr), .second, .val (.int le), .val (.int lt), .val (.long need), .second]) rfl ?_
      refine X147.ldc2Long hx hown (mvT hZ (hw _ (List.mem_of_getElem? (i := 20) rfl))) (g := (mkF m 271 #[.val (.int p1), .val (.int p2), .val (.long q3), .second, .val (.int p4), .val (.int (7 : Int32)), .val (.int pp), .val (.long bb), .second, .val (.long o1), .second, .val (.long o2), .second, .val (.long o3), .second, .val (.long o4), .second, .val (.long o5), .second, .val (.long o6), .second, .val (.long o7), .second, .val (.ref b123), .val (.long rr), .second, .val (.int le), .val (.int lt), .val (.long need), .second] [])) rfl (hb hby at_271) _ ?_
      refine XS.iload X147.here hx rfl (hb hby at_274) rfl ?_
      refine XS.i2l X147.here hx rfl (hb hby at_276) rfl ?_
      show Steps p.tables e below (T147.setTop (mkF m 277 #[.val (.int p1), .val (.int p2), .val (.long q3), .second, .val (.int p4), .val (.int (7 : Int32)), .val (.int pp), .val (.long bb), .second, .val (.long o1), .second, .val (.long o2), .second, .val (.long o3), .second, .val (.long o4), .second, .val (.long o5), .second, .val (.long o6), .second, .val (.long o7), .second, .val (.ref b123), .val (.long rr), .second, .val (.int le), .val (.int lt), .val (.long need), .second] [(.long (le.toInt64)), (.long (100 : Int64))])) _
      refine XS.lmul X147.here hx rfl (hb hby at_277) rfl ?_
      refine XS.lload X147.here hx rfl (hb hby at_278) rfl ?_
      refine XS.lcmp X147.here hx rfl (hb hby at_280) rfl ?_
      refine XS.ifNo X147.here hx rfl (hb hby at_281) rfl ((if0 _ _).trans (flt (fun q => hc149 ((lw_lt _ _).mp q))).1) ?_
      show Steps p.tables e below (T147.setTop (mkF m 284 #[.val (.int p1), .val (.int p2), .val (.long q3), .second, .val (.int p4), .val (.int (7 : Int32)), .val (.int pp), .val (.long bb), .second, .val (.long o1), .second, .val (.long o2), .second, .val (.long o3), .second, .val (.long o4), .second, .val (.long o5), .second, .val (.long o6), .second, .val (.long o7), .second, .val (.ref b123), .val (.long rr), .second, .val (.int le), .val (.int lt), .val (.long need), .second] [])) _
      refine X147.ldc2Long hx hown (mvT hZ (hw _ (List.mem_of_getElem? (i := 20) rfl))) (g := (mkF m 284 #[.val (.int p1), .val (.int p2), .val (.long q3), .second, .val (.int p4), .val (.int (7 : Int32)), .val (.int pp), .val (.long bb), .second, .val (.long o1), .second, .val (.long o2), .second, .val (.long o3), .second, .val (.long o4), .second, .val (.long o5), .second, .val (.long o6), .second, .val (.long o7), .second, .val (.ref b123), .val (.long rr), .second, .val (.int le), .val (.int lt), .val (.long need), .second] [])) rfl (hb hby at_284) _ ?_
      refine XS.iload X147.here hx rfl (hb hby at_287) rfl ?_
      refine XS.i2l X147.here hx rfl (hb hby at_289) rfl ?_
      refine XS.lmul X147.here hx rfl (hb hby at_290) rfl ?_
      show Steps p.tables e below (T147.setTop (mkF m 291 #[.val (.int p1), .val (.int p2), .val (.long q3), .second, .val (.int p4), .val (.int (7 : Int32)), .val (.int pp), .val (.long bb), .second, .val (.long o1), .second, .val (.long o2), .second, .val (.long o3), .second, .val (.long o4), .second, .val (.long o5), .second, .val (.long o6), .second, .val (.long o7), .second, .val (.ref b123), .val (.long rr), .second, .val (.int le), .val (.int lt), .val (.long need), .second] [(.long ((100 : Int64) * (lt.toInt64)))])) _
      refine XS.lload X147.here hx rfl (hb hby at_291) rfl ?_
      refine XS.lcmp X147.here hx rfl (hb hby at_293) rfl ?_
      refine XS.ifNo X147.here hx rfl (hb hby at_294) rfl ((if0 _ _).trans (tlt ((lw_lt _ _).mpr hc150)).2.1) ?_
      refine XS.iconst X147.here hx rfl (hb hby at_297) ?_
      show Steps p.tables e below (T147.setTop (mkF m 298 #[.val (.int p1), .val (.int p2), .val (.long q3), .second, .val (.int p4), .val (.int (7 : Int32)), .val (.int pp), .val (.long bb), .second, .val (.long o1), .second, .val (.long o2), .second, .val (.long o3), .second, .val (.long o4), .second, .val (.long o5), .second, .val (.long o6), .second, .val (.long o7), .second, .val (.ref b123), .val (.long rr), .second, .val (.int le), .val (.int lt), .val (.long need), .second] [(.int (1 : Int32))])) _
      refine XS.goto X147.here hx rfl (pc0 := 298) (pc' := 302) rfl (hb hby at_298) (by decide) (by decide) ?_
      exact k
    obtain ⟨fs, hrt, hrun, hended, hW, hsame⟩ := X147.leave (v := some (.int (1 : Int32))) (fun h => by rw [Bd.returns] at h; cases h)
    refine ⟨_, _, g151 _ ?_, hrun, hended, _, _, rfl, ?_, ⟨_, rfl⟩, hW, hsame.mono (by decide) (by decide)⟩
    · show Steps p.tables e below (T147.setTop (mkF m 302 #[.val (.int p1), .val (.int p2), .val (.long q3), .second, .val (.int p4), .val (.int (7 : Int32)), .val (.int pp), .val (.long bb), .second, .val (.long o1), .second, .val (.long o2), .second, .val (.long o3), .second, .val (.long o4), .second, .val (.long o5), .second, .val (.long o6), .second, .val (.long o7), .second, .val (.ref b123), .val (.long rr), .second, .val (.int le), .val (.int lt), .val (.long need), .second] [(.int (1 : Int32))])) _
      exact retN X147 hx (t := .boolean) Bd.returns (by simp) (hb hby at_302) hrt
    · show own_Q_rm0 Z p1 p2 q3 p4 h0 n0 _ T147.heap _
      rw [e147]
      exact ⟨rfl, N147⟩
  · skip
    obtain ⟨T152, h152, k152, X152, e152, E152, A152, st152⟩ := newP X3 hx hZ (hw _ (List.mem_of_getElem? (i := 6) rfl)) e3 (g := (mkF m 116 #[.val (.int p1), .val (.int p2), .val (.long q3), .second, .val (.int p4), .val (.int (8 : Int32)), .val (.int pp), .val (.long bb), .second, .val (.long o1), .second, .val (.long o2), .second, .val (.long o3), .second, .val (.long o4), .second, .val (.long o5), .second, .val (.long o6), .second, .val (.long o7), .second, .unset, .unset, .unset, .unset, .unset, .unset, .unset] [(.int (8 : Int32))])) rfl (hb hby at_116) rfl (by decide) (cap := 8) (by decide) (by decide) (by decide) (by decide)
    obtain ⟨b152, q_b152⟩ : ∃ z, z = h0.size := ⟨_, rfl⟩
    rw [← q_b152] at A152 st152
    have sz_b152 : h0.size ≤ b152 := Nat.le_of_eq q_b152.symm
    have gz_b152 : n0 ≤ b152 := Nat.le_trans Z0 sz_b152
    have V152 : Arv Z h152 b152 k152 .long (8 : Int32) [(.long (0 : Int64)), (.long (0 : Int64)), (.long (0 : Int64)), (.long (0 : Int64)), (.long (0 : Int64)), (.long (0 : Int64)), (.long (0 : Int64)), (.long (0 : Int64))] (.long (0 : Int64)) := (Arv.new A152 (by decide)).pad (pad_rep [] (.long (0 : Int64)) 8)
    obtain ⟨c153, Ar153, cq153, S153, Nn153, Hh153, Gg153⟩ := id V152
    have hin153 : ¬ ((0 : Int32) < 0 ∨ c153.slots.size ≤ ((0 : Int32)).toNatClampNeg) := inb_of S153 ⟨by decide, by decide⟩
    obtain ⟨T154, h154, X154, e154, W154, st154⟩ := stJ X152 hx hZ e152 Ar153 (j := (0 : Int32)) hin153 (g := (mkF m 125 #[.val (.int p1), .val (.int p2), .val (.long q3), .second, .val (.int p4), .val (.int (8 : Int32)), .val (.int pp), .val (.long bb), .second, .val (.long o1), .second, .val (.long o2), .second, .val (.long o3), .second, .val (.long o4), .second, .val (.long o5), .second, .val (.long o6), .second, .val (.long o7), .second, .val (.ref b152), .unset, .unset, .unset, .unset, .unset, .unset] [(.long bb), (.int (0 : Int32)), (.ref b152)])) rfl rfl (hb hby at_125)
    have V154 := Arv.set Ar153 cq153 S153 Nn153 Hh153 Gg153 rfl W154 0 rfl (Nat.le_of_ble_eq_true rfl)
    have V154a : Arv Z h154 b152 k152 .long (8 : Int32) [(.long bb), (.long (0 : Int64)), (.long (0 : Int64)), (.long (0 : Int64)), (.long (0 : Int64)), (.long (0 : Int64)), (.long (0 : Int64)), (.long (0 : Int64))] (.long (0 : Int64)) := V154
    have N154 := Fr.snoc X154 N3 gz_b152
    obtain ⟨x1, hv_x1⟩ : ∃ z : Int64, z = (bb + o1) := ⟨_, rfl⟩
    have g155 : ∀ t, Steps p.tables e below (T154.setTop (mkF m 140 #[.val (.int p1), .val (.int p2), .val (.long q3), .second, .val (.int p4), .val (.int (8 : Int32)), .val (.int pp), .val (.long bb), .second, .val (.long o1), .second, .val (.long o2), .second, .val (.long o3), .second, .val (.long o4), .second, .val (.long o5), .second, .val (.long o6), .second, .val (.long o7), .second, .val (.ref b152), .unset, .unset, .unset, .unset, .unset, .unset] [(.long x1), (.int (1 : Int32)), (.ref b152)])) t → Steps p.tables e below (s₁.setTop (entryFrame m #[(.int p1), (.int p2), (.long q3), (.int p4)] maxLocals)) t := by
      intro t k
      rw [hv_x1] at k
      refine g11 t ?_
      show Steps p.tables e below (T3.setTop (mkF m 114 #[.val (.int p1), .val (.int p2), .val (.long q3), .second, .val (.int p4), .val (.int (8 : Int32)), .val (.int pp), .val (.long bb), .second, .val (.long o1), .second, .val (.long o2), .second, .val (.long o3), .second, .val (.long o4), .second, .val (.long o5), .second, .val (.long o6), .second, .val (.long o7), .second, .unset, .unset, .unset, .unset, .unset, .unset, .unset] [])) _
      refine XS.iload X3.here hx rfl (hb hby at_114) rfl ?_
      refine st152 _ ?_
      refine XS.astore X152.here hx rfl (hb hby at_118) rfl rfl (l' := #[.val (.int p1), .val (.int p2), .val (.long q3), .second, .val (.int p4), .val (.int (8 : Int32)), .val (.int pp), .val (.long bb), .second, .val (.long o1), .second, .val (.long o2), .second, .val (.long o3), .second, .val (.long o4), .second, .val (.long o5), .second, .val (.long o6), .second, .val (.long o7), .second, .val (.ref b152), .unset, .unset, .unset, .unset, .unset, .unset]) rfl ?_
      refine XS.aload X152.here hx rfl (hb hby at_120) rfl rfl ?_
      show Steps p.tables e below (T152.setTop (mkF m 122 #[.val (.int p1), .val (.int p2), .val (.long q3), .second, .val (.int p4), .val (.int (8 : Int32)), .val (.int pp), .val (.long bb), .second, .val (.long o1), .second, .val (.long o2), .second, .val (.long o3), .second, .val (.long o4), .second, .val (.long o5), .second, .val (.long o6), .second, .val (.long o7), .second, .val (.ref b152), .unset, .unset, .unset, .unset, .unset, .unset] [(.ref b152)])) _
      refine XS.iconst X152.here hx rfl (hb hby at_122) ?_
      refine XS.lload X152.here hx rfl (hb hby at_123) rfl ?_
      refine st154 _ ?_
      refine XS.iload X154.here hx rfl (hb hby at_126) rfl ?_
      show Steps p.tables e below (T154.setTop (mkF m 128 #[.val (.int p1), .val (.int p2), .val (.long q3), .second, .val (.int p4), .val (.int (8 : Int32)), .val (.int pp), .val (.long bb), .second, .val (.long o1), .second, .val (.long o2), .second, .val (.long o3), .second, .val (.long o4), .second, .val (.long o5), .second, .val (.long o6), .second, .val (.long o7), .second, .val (.ref b152), .unset, .unset, .unset, .unset, .unset, .unset] [(.int (8 : Int32))])) _
      refine XS.iconst X154.here hx rfl (hb hby at_128) ?_
      refine XS.icmpNo X154.here hx rfl (hb hby at_129) rfl (tlt (by decide : (1 : Int32) < (8 : Int32))).2.2.2 ?_
      refine XS.aload X154.here hx rfl (hb hby at_132) rfl rfl ?_
      refine XS.iconst X154.here hx rfl (hb hby at_134) ?_
      show Steps p.tables e below (T154.setTop (mkF m 135 #[.val (.int p1), .val (.int p2), .val (.long q3), .second, .val (.int p4), .val (.int (8 : Int32)), .val (.int pp), .val (.long bb), .second, .val (.long o1), .second, .val (.long o2), .second, .val (.long o3), .second, .val (.long o4), .second, .val (.long o5), .second, .val (.long o6), .second, .val (.long o7), .second, .val (.ref b152), .unset, .unset, .unset, .unset, .unset, .unset] [(.int (1 : Int32)), (.ref b152)])) _
      refine XS.lload X154.here hx rfl (hb hby at_135) rfl ?_
      refine XS.lload X154.here hx rfl (hb hby at_137) rfl ?_
      refine XS.ladd X154.here hx rfl (hb hby at_139) rfl ?_
      exact k
    obtain ⟨c156, Ar156, cq156, S156, Nn156, Hh156, Gg156⟩ := id V154a
    have hin156 : ¬ ((1 : Int32) < 0 ∨ c156.slots.size ≤ ((1 : Int32)).toNatClampNeg) := inb_of S156 ⟨by decide, by decide⟩
    obtain ⟨T157, h157, X157, e157, W157, st157⟩ := stJ X154 hx hZ e154 Ar156 (j := (1 : Int32)) hin156 (g := (mkF m 140 #[.val (.int p1), .val (.int p2), .val (.long q3), .second, .val (.int p4), .val (.int (8 : Int32)), .val (.int pp), .val (.long bb), .second, .val (.long o1), .second, .val (.long o2), .second, .val (.long o3), .second, .val (.long o4), .second, .val (.long o5), .second, .val (.long o6), .second, .val (.long o7), .second, .val (.ref b152), .unset, .unset, .unset, .unset, .unset, .unset] [(.long x1), (.int (1 : Int32)), (.ref b152)])) rfl rfl (hb hby at_140)
    have V157 := Arv.set Ar156 cq156 S156 Nn156 Hh156 Gg156 rfl W157 1 rfl (Nat.le_of_ble_eq_true rfl)
    have V157a : Arv Z h157 b152 k152 .long (8 : Int32) [(.long bb), (.long x1), (.long (0 : Int64)), (.long (0 : Int64)), (.long (0 : Int64)), (.long (0 : Int64)), (.long (0 : Int64)), (.long (0 : Int64))] (.long (0 : Int64)) := V157
    have N157 := Fr.snoc X157 N154 gz_b152
    obtain ⟨x2, hv_x2⟩ : ∃ z : Int64, z = (bb + o2) := ⟨_, rfl⟩
    have g158 : ∀ t, Steps p.tables e below (T157.setTop (mkF m 155 #[.val (.int p1), .val (.int p2), .val (.long q3), .second, .val (.int p4), .val (.int (8 : Int32)), .val (.int pp), .val (.long bb), .second, .val (.long o1), .second, .val (.long o2), .second, .val (.long o3), .second, .val (.long o4), .second, .val (.long o5), .second, .val (.long o6), .second, .val (.long o7), .second, .val (.ref b152), .unset, .unset, .unset, .unset, .unset, .unset] [(.long x2), (.int (2 : Int32)), (.ref b152)])) t → Steps p.tables e below (s₁.setTop (entryFrame m #[(.int p1), (.int p2), (.long q3), (.int p4)] maxLocals)) t := by
      intro t k
      rw [hv_x2] at k
      refine g155 t ?_
      show Steps p.tables e below (T154.setTop (mkF m 140 #[.val (.int p1), .val (.int p2), .val (.long q3), .second, .val (.int p4), .val (.int (8 : Int32)), .val (.int pp), .val (.long bb), .second, .val (.long o1), .second, .val (.long o2), .second, .val (.long o3), .second, .val (.long o4), .second, .val (.long o5), .second, .val (.long o6), .second, .val (.long o7), .second, .val (.ref b152), .unset, .unset, .unset, .unset, .unset, .unset] [(.long x1), (.int (1 : Int32)), (.ref b152)])) _
      refine st157 _ ?_
      refine XS.iload X157.here hx rfl (hb hby at_141) rfl ?_
      refine XS.iconst X157.here hx rfl (hb hby at_143) ?_
      refine XS.icmpNo X157.here hx rfl (hb hby at_144) rfl (tlt (by decide : (2 : Int32) < (8 : Int32))).2.2.2 ?_
      show Steps p.tables e below (T157.setTop (mkF m 147 #[.val (.int p1), .val (.int p2), .val (.long q3), .second, .val (.int p4), .val (.int (8 : Int32)), .val (.int pp), .val (.long bb), .second, .val (.long o1), .second, .val (.long o2), .second, .val (.long o3), .second, .val (.long o4), .second, .val (.long o5), .second, .val (.long o6), .second, .val (.long o7), .second, .val (.ref b152), .unset, .unset, .unset, .unset, .unset, .unset] [])) _
      refine XS.aload X157.here hx rfl (hb hby at_147) rfl rfl ?_
      refine XS.iconst X157.here hx rfl (hb hby at_149) ?_
      refine XS.lload X157.here hx rfl (hb hby at_150) rfl ?_
      refine XS.lload X157.here hx rfl (hb hby at_152) rfl ?_
      show Steps p.tables e below (T157.setTop (mkF m 154 #[.val (.int p1), .val (.int p2), .val (.long q3), .second, .val (.int p4), .val (.int (8 : Int32)), .val (.int pp), .val (.long bb), .second, .val (.long o1), .second, .val (.long o2), .second, .val (.long o3), .second, .val (.long o4), .second, .val (.long o5), .second, .val (.long o6), .second, .val (.long o7), .second, .val (.ref b152), .unset, .unset, .unset, .unset, .unset, .unset] [(.long o2), (.long bb), (.int (2 : Int32)), (.ref b152)])) _
      refine XS.ladd X157.here hx rfl (hb hby at_154) rfl ?_
      exact k
    obtain ⟨c159, Ar159, cq159, S159, Nn159, Hh159, Gg159⟩ := id V157a
    have hin159 : ¬ ((2 : Int32) < 0 ∨ c159.slots.size ≤ ((2 : Int32)).toNatClampNeg) := inb_of S159 ⟨by decide, by decide⟩
    obtain ⟨T160, h160, X160, e160, W160, st160⟩ := stJ X157 hx hZ e157 Ar159 (j := (2 : Int32)) hin159 (g := (mkF m 155 #[.val (.int p1), .val (.int p2), .val (.long q3), .second, .val (.int p4), .val (.int (8 : Int32)), .val (.int pp), .val (.long bb), .second, .val (.long o1), .second, .val (.long o2), .second, .val (.long o3), .second, .val (.long o4), .second, .val (.long o5), .second, .val (.long o6), .second, .val (.long o7), .second, .val (.ref b152), .unset, .unset, .unset, .unset, .unset, .unset] [(.long x2), (.int (2 : Int32)), (.ref b152)])) rfl rfl (hb hby at_155)
    have V160 := Arv.set Ar159 cq159 S159 Nn159 Hh159 Gg159 rfl W160 2 rfl (Nat.le_of_ble_eq_true rfl)
    have V160a : Arv Z h160 b152 k152 .long (8 : Int32) [(.long bb), (.long x1), (.long x2), (.long (0 : Int64)), (.long (0 : Int64)), (.long (0 : Int64)), (.long (0 : Int64)), (.long (0 : Int64))] (.long (0 : Int64)) := V160
    have N160 := Fr.snoc X160 N157 gz_b152
    obtain ⟨x3, hv_x3⟩ : ∃ z : Int64, z = (bb + o3) := ⟨_, rfl⟩
    have g161 : ∀ t, Steps p.tables e below (T160.setTop (mkF m 170 #[.val (.int p1), .val (.int p2), .val (.long q3), .second, .val (.int p4), .val (.int (8 : Int32)), .val (.int pp), .val (.long bb), .second, .val (.long o1), .second, .val (.long o2), .second, .val (.long o3), .second, .val (.long o4), .second, .val (.long o5), .second, .val (.long o6), .second, .val (.long o7), .second, .val (.ref b152), .unset, .unset, .unset, .unset, .unset, .unset] [(.long x3), (.int (3 : Int32)), (.ref b152)])) t → Steps p.tables e below (s₁.setTop (entryFrame m #[(.int p1), (.int p2), (.long q3), (.int p4)] maxLocals)) t := by
      intro t k
      rw [hv_x3] at k
      refine g158 t ?_
      show Steps p.tables e below (T157.setTop (mkF m 155 #[.val (.int p1), .val (.int p2), .val (.long q3), .second, .val (.int p4), .val (.int (8 : Int32)), .val (.int pp), .val (.long bb), .second, .val (.long o1), .second, .val (.long o2), .second, .val (.long o3), .second, .val (.long o4), .second, .val (.long o5), .second, .val (.long o6), .second, .val (.long o7), .second, .val (.ref b152), .unset, .unset, .unset, .unset, .unset, .unset] [(.long x2), (.int (2 : Int32)), (.ref b152)])) _
      refine st160 _ ?_
      refine XS.iload X160.here hx rfl (hb hby at_156) rfl ?_
      refine XS.iconst X160.here hx rfl (hb hby at_158) ?_
      refine XS.icmpNo X160.here hx rfl (hb hby at_159) rfl (tlt (by decide : (3 : Int32) < (8 : Int32))).2.2.2 ?_
      show Steps p.tables e below (T160.setTop (mkF m 162 #[.val (.int p1), .val (.int p2), .val (.long q3), .second, .val (.int p4), .val (.int (8 : Int32)), .val (.int pp), .val (.long bb), .second, .val (.long o1), .second, .val (.long o2), .second, .val (.long o3), .second, .val (.long o4), .second, .val (.long o5), .second, .val (.long o6), .second, .val (.long o7), .second, .val (.ref b152), .unset, .unset, .unset, .unset, .unset, .unset] [])) _
      refine XS.aload X160.here hx rfl (hb hby at_162) rfl rfl ?_
      refine XS.iconst X160.here hx rfl (hb hby at_164) ?_
      refine XS.lload X160.here hx rfl (hb hby at_165) rfl ?_
      refine XS.lload X160.here hx rfl (hb hby at_167) rfl ?_
      show Steps p.tables e below (T160.setTop (mkF m 169 #[.val (.int p1), .val (.int p2), .val (.long q3), .second, .val (.int p4), .val (.int (8 : Int32)), .val (.int pp), .val (.long bb), .second, .val (.long o1), .second, .val (.long o2), .second, .val (.long o3), .second, .val (.long o4), .second, .val (.long o5), .second, .val (.long o6), .second, .val (.long o7), .second, .val (.ref b152), .unset, .unset, .unset, .unset, .unset, .unset] [(.long o3), (.long bb), (.int (3 : Int32)), (.ref b152)])) _
      refine XS.ladd X160.here hx rfl (hb hby at_169) rfl ?_
      exact k
    obtain ⟨c162, Ar162, cq162, S162, Nn162, Hh162, Gg162⟩ := id V160a
    have hin162 : ¬ ((3 : Int32) < 0 ∨ c162.slots.size ≤ ((3 : Int32)).toNatClampNeg) := inb_of S162 ⟨by decide, by decide⟩
    obtain ⟨T163, h163, X163, e163, W163, st163⟩ := stJ X160 hx hZ e160 Ar162 (j := (3 : Int32)) hin162 (g := (mkF m 170 #[.val (.int p1), .val (.int p2), .val (.long q3), .second, .val (.int p4), .val (.int (8 : Int32)), .val (.int pp), .val (.long bb), .second, .val (.long o1), .second, .val (.long o2), .second, .val (.long o3), .second, .val (.long o4), .second, .val (.long o5), .second, .val (.long o6), .second, .val (.long o7), .second, .val (.ref b152), .unset, .unset, .unset, .unset, .unset, .unset] [(.long x3), (.int (3 : Int32)), (.ref b152)])) rfl rfl (hb hby at_170)
    have V163 := Arv.set Ar162 cq162 S162 Nn162 Hh162 Gg162 rfl W163 3 rfl (Nat.le_of_ble_eq_true rfl)
    have V163a : Arv Z h163 b152 k152 .long (8 : Int32) [(.long bb), (.long x1), (.long x2), (.long x3), (.long (0 : Int64)), (.long (0 : Int64)), (.long (0 : Int64)), (.long (0 : Int64))] (.long (0 : Int64)) := V163
    have N163 := Fr.snoc X163 N160 gz_b152
    obtain ⟨x4, hv_x4⟩ : ∃ z : Int64, z = (bb + o4) := ⟨_, rfl⟩
    have g164 : ∀ t, Steps p.tables e below (T163.setTop (mkF m 185 #[.val (.int p1), .val (.int p2), .val (.long q3), .second, .val (.int p4), .val (.int (8 : Int32)), .val (.int pp), .val (.long bb), .second, .val (.long o1), .second, .val (.long o2), .second, .val (.long o3), .second, .val (.long o4), .second, .val (.long o5), .second, .val (.long o6), .second, .val (.long o7), .second, .val (.ref b152), .unset, .unset, .unset, .unset, .unset, .unset] [(.long x4), (.int (4 : Int32)), (.ref b152)])) t → Steps p.tables e below (s₁.setTop (entryFrame m #[(.int p1), (.int p2), (.long q3), (.int p4)] maxLocals)) t := by
      intro t k
      rw [hv_x4] at k
      refine g161 t ?_
      show Steps p.tables e below (T160.setTop (mkF m 170 #[.val (.int p1), .val (.int p2), .val (.long q3), .second, .val (.int p4), .val (.int (8 : Int32)), .val (.int pp), .val (.long bb), .second, .val (.long o1), .second, .val (.long o2), .second, .val (.long o3), .second, .val (.long o4), .second, .val (.long o5), .second, .val (.long o6), .second, .val (.long o7), .second, .val (.ref b152), .unset, .unset, .unset, .unset, .unset, .unset] [(.long x3), (.int (3 : Int32)), (.ref b152)])) _
      refine st163 _ ?_
      refine XS.iload X163.here hx rfl (hb hby at_171) rfl ?_
      refine XS.iconst X163.here hx rfl (hb hby at_173) ?_
      refine XS.icmpNo X163.here hx rfl (hb hby at_174) rfl (tlt (by decide : (4 : Int32) < (8 : Int32))).2.2.2 ?_
      show Steps p.tables e below (T163.setTop (mkF m 177 #[.val (.int p1), .val (.int p2), .val (.long q3), .second, .val (.int p4), .val (.int (8 : Int32)), .val (.int pp), .val (.long bb), .second, .val (.long o1), .second, .val (.long o2), .second, .val (.long o3), .second, .val (.long o4), .second, .val (.long o5), .second, .val (.long o6), .second, .val (.long o7), .second, .val (.ref b152), .unset, .unset, .unset, .unset, .unset, .unset] [])) _
      refine XS.aload X163.here hx rfl (hb hby at_177) rfl rfl ?_
      refine XS.iconst X163.here hx rfl (hb hby at_179) ?_
      refine XS.lload X163.here hx rfl (hb hby at_180) rfl ?_
      refine XS.lload X163.here hx rfl (hb hby at_182) rfl ?_
      show Steps p.tables e below (T163.setTop (mkF m 184 #[.val (.int p1), .val (.int p2), .val (.long q3), .second, .val (.int p4), .val (.int (8 : Int32)), .val (.int pp), .val (.long bb), .second, .val (.long o1), .second, .val (.long o2), .second, .val (.long o3), .second, .val (.long o4), .second, .val (.long o5), .second, .val (.long o6), .second, .val (.long o7), .second, .val (.ref b152), .unset, .unset, .unset, .unset, .unset, .unset] [(.long o4), (.long bb), (.int (4 : Int32)), (.ref b152)])) _
      refine XS.ladd X163.here hx rfl (hb hby at_184) rfl ?_
      exact k
    obtain ⟨c165, Ar165, cq165, S165, Nn165, Hh165, Gg165⟩ := id V163a
    have hin165 : ¬ ((4 : Int32) < 0 ∨ c165.slots.size ≤ ((4 : Int32)).toNatClampNeg) := inb_of S165 ⟨by decide, by decide⟩
    obtain ⟨T166, h166, X166, e166, W166, st166⟩ := stJ X163 hx hZ e163 Ar165 (j := (4 : Int32)) hin165 (g := (mkF m 185 #[.val (.int p1), .val (.int p2), .val (.long q3), .second, .val (.int p4), .val (.int (8 : Int32)), .val (.int pp), .val (.long bb), .second, .val (.long o1), .second, .val (.long o2), .second, .val (.long o3), .second, .val (.long o4), .second, .val (.long o5), .second, .val (.long o6), .second, .val (.long o7), .second, .val (.ref b152), .unset, .unset, .unset, .unset, .unset, .unset] [(.long x4), (.int (4 : Int32)), (.ref b152)])) rfl rfl (hb hby at_185)
    have V166 := Arv.set Ar165 cq165 S165 Nn165 Hh165 Gg165 rfl W166 4 rfl (Nat.le_of_ble_eq_true rfl)
    have V166a : Arv Z h166 b152 k152 .long (8 : Int32) [(.long bb), (.long x1), (.long x2), (.long x3), (.long x4), (.long (0 : Int64)), (.long (0 : Int64)), (.long (0 : Int64))] (.long (0 : Int64)) := V166
    have N166 := Fr.snoc X166 N163 gz_b152
    obtain ⟨x5, hv_x5⟩ : ∃ z : Int64, z = (bb + o5) := ⟨_, rfl⟩
    have g167 : ∀ t, Steps p.tables e below (T166.setTop (mkF m 200 #[.val (.int p1), .val (.int p2), .val (.long q3), .second, .val (.int p4), .val (.int (8 : Int32)), .val (.int pp), .val (.long bb), .second, .val (.long o1), .second, .val (.long o2), .second, .val (.long o3), .second, .val (.long o4), .second, .val (.long o5), .second, .val (.long o6), .second, .val (.long o7), .second, .val (.ref b152), .unset, .unset, .unset, .unset, .unset, .unset] [(.long x5), (.int (5 : Int32)), (.ref b152)])) t → Steps p.tables e below (s₁.setTop (entryFrame m #[(.int p1), (.int p2), (.long q3), (.int p4)] maxLocals)) t := by
      intro t k
      rw [hv_x5] at k
      refine g164 t ?_
      show Steps p.tables e below (T163.setTop (mkF m 185 #[.val (.int p1), .val (.int p2), .val (.long q3), .second, .val (.int p4), .val (.int (8 : Int32)), .val (.int pp), .val (.long bb), .second, .val (.long o1), .second, .val (.long o2), .second, .val (.long o3), .second, .val (.long o4), .second, .val (.long o5), .second, .val (.long o6), .second, .val (.long o7), .second, .val (.ref b152), .unset, .unset, .unset, .unset, .unset, .unset] [(.long x4), (.int (4 : Int32)), (.ref b152)])) _
      refine st166 _ ?_
      refine XS.iload X166.here hx rfl (hb hby at_186) rfl ?_
      refine XS.iconst X166.here hx rfl (hb hby at_188) ?_
      refine XS.icmpNo X166.here hx rfl (hb hby at_189) rfl (tlt (by decide : (5 : Int32) < (8 : Int32))).2.2.2 ?_
      show Steps p.tables e below (T166.setTop (mkF m 192 #[.val (.int p1), .val (.int p2), .val (.long q3), .second, .val (.int p4), .val (.int (8 : Int32)), .val (.int pp), .val (.long bb), .second, .val (.long o1), .second, .val (.long o2), .second, .val (.long o3), .second, .val (.long o4), .second, .val (.long o5), .second, .val (.long o6), .second, .val (.long o7), .second, .val (.ref b152), .unset, .unset, .unset, .unset, .unset, .unset] [])) _
      refine XS.aload X166.here hx rfl (hb hby at_192) rfl rfl ?_
      refine XS.iconst X166.here hx rfl (hb hby at_194) ?_
      refine XS.lload X166.here hx rfl (hb hby at_195) rfl ?_
      refine XS.lload X166.here hx rfl (hb hby at_197) rfl ?_
      show Steps p.tables e below (T166.setTop (mkF m 199 #[.val (.int p1), .val (.int p2), .val (.long q3), .second, .val (.int p4), .val (.int (8 : Int32)), .val (.int pp), .val (.long bb), .second, .val (.long o1), .second, .val (.long o2), .second, .val (.long o3), .second, .val (.long o4), .second, .val (.long o5), .second, .val (.long o6), .second, .val (.long o7), .second, .val (.ref b152), .unset, .unset, .unset, .unset, .unset, .unset] [(.long o5), (.long bb), (.int (5 : Int32)), (.ref b152)])) _
      refine XS.ladd X166.here hx rfl (hb hby at_199) rfl ?_
      exact k
    obtain ⟨c168, Ar168, cq168, S168, Nn168, Hh168, Gg168⟩ := id V166a
    have hin168 : ¬ ((5 : Int32) < 0 ∨ c168.slots.size ≤ ((5 : Int32)).toNatClampNeg) := inb_of S168 ⟨by decide, by decide⟩
    obtain ⟨T169, h169, X169, e169, W169, st169⟩ := stJ X166 hx hZ e166 Ar168 (j := (5 : Int32)) hin168 (g := (mkF m 200 #[.val (.int p1), .val (.int p2), .val (.long q3), .second, .val (.int p4), .val (.int (8 : Int32)), .val (.int pp), .val (.long bb), .second, .val (.long o1), .second, .val (.long o2), .second, .val (.long o3), .second, .val (.long o4), .second, .val (.long o5), .second, .val (.long o6), .second, .val (.long o7), .second, .val (.ref b152), .unset, .unset, .unset, .unset, .unset, .unset] [(.long x5), (.int (5 : Int32)), (.ref b152)])) rfl rfl (hb hby at_200)
    have V169 := Arv.set Ar168 cq168 S168 Nn168 Hh168 Gg168 rfl W169 5 rfl (Nat.le_of_ble_eq_true rfl)
    have V169a : Arv Z h169 b152 k152 .long (8 : Int32) [(.long bb), (.long x1), (.long x2), (.long x3), (.long x4), (.long x5), (.long (0 : Int64)), (.long (0 : Int64))] (.long (0 : Int64)) := V169
    have N169 := Fr.snoc X169 N166 gz_b152
    obtain ⟨x6, hv_x6⟩ : ∃ z : Int64, z = (bb + o6) := ⟨_, rfl⟩
    have g170 : ∀ t, Steps p.tables e below (T169.setTop (mkF m 217 #[.val (.int p1), .val (.int p2), .val (.long q3), .second, .val (.int p4), .val (.int (8 : Int32)), .val (.int pp), .val (.long bb), .second, .val (.long o1), .second, .val (.long o2), .second, .val (.long o3), .second, .val (.long o4), .second, .val (.long o5), .second, .val (.long o6), .second, .val (.long o7), .second, .val (.ref b152), .unset, .unset, .unset, .unset, .unset, .unset] [(.long x6), (.int (6 : Int32)), (.ref b152)])) t → Steps p.tables e below (s₁.setTop (entryFrame m #[(.int p1), (.int p2), (.long q3), (.int p4)] maxLocals)) t := by
      intro t k
      rw [hv_x6] at k
      refine g167 t ?_
      show Steps p.tables e below (T166.setTop (mkF m 200 #[.val (.int p1), .val (.int p2), .val (.long q3), .second, .val (.int p4), .val (.int (8 : Int32)), .val (.int pp), .val (.long bb), .second, .val (.long o1), .second, .val (.long o2), .second, .val (.long o3), .second, .val (.long o4), .second, .val (.long o5), .second, .val (.long o6), .second, .val (.long o7), .second, .val (.ref b152), .unset, .unset, .unset, .unset, .unset, .unset] [(.long x5), (.int (5 : Int32)), (.ref b152)])) _
      refine st169 _ ?_
      refine XS.iload X169.here hx rfl (hb hby at_201) rfl ?_
      refine XS.bipush X169.here hx rfl (hb hby at_203) ?_
      refine XS.icmpNo X169.here hx rfl (hb hby at_205) rfl (tlt (by decide : (6 : Int32) < (8 : Int32))).2.2.2 ?_
      show Steps p.tables e below (T169.setTop (mkF m 208 #[.val (.int p1), .val (.int p2), .val (.long q3), .second, .val (.int p4), .val (.int (8 : Int32)), .val (.int pp), .val (.long bb), .second, .val (.long o1), .second, .val (.long o2), .second, .val (.long o3), .second, .val (.long o4), .second, .val (.long o5), .second, .val (.long o6), .second, .val (.long o7), .second, .val (.ref b152), .unset, .unset, .unset, .unset, .unset, .unset] [])) _
      refine XS.aload X169.here hx rfl (hb hby at_208) rfl rfl ?_
      refine XS.bipush X169.here hx rfl (hb hby at_210) ?_
      refine XS.lload X169.here hx rfl (hb hby at_212) rfl ?_
      refine XS.lload X169.here hx rfl (hb hby at_214) rfl ?_
      show Steps p.tables e below (T169.setTop (mkF m 216 #[.val (.int p1), .val (.int p2), .val (.long q3), .second, .val (.int p4), .val (.int (8 : Int32)), .val (.int pp), .val (.long bb), .second, .val (.long o1), .second, .val (.long o2), .second, .val (.long o3), .second, .val (.long o4), .second, .val (.long o5), .second, .val (.long o6), .second, .val (.long o7), .second, .val (.ref b152), .unset, .unset, .unset, .unset, .unset, .unset] [(.long o6), (.long bb), (.int (6 : Int32)), (.ref b152)])) _
      refine XS.ladd X169.here hx rfl (hb hby at_216) rfl ?_
      exact k
    obtain ⟨c171, Ar171, cq171, S171, Nn171, Hh171, Gg171⟩ := id V169a
    have hin171 : ¬ ((6 : Int32) < 0 ∨ c171.slots.size ≤ ((6 : Int32)).toNatClampNeg) := inb_of S171 ⟨by decide, by decide⟩
    obtain ⟨T172, h172, X172, e172, W172, st172⟩ := stJ X169 hx hZ e169 Ar171 (j := (6 : Int32)) hin171 (g := (mkF m 217 #[.val (.int p1), .val (.int p2), .val (.long q3), .second, .val (.int p4), .val (.int (8 : Int32)), .val (.int pp), .val (.long bb), .second, .val (.long o1), .second, .val (.long o2), .second, .val (.long o3), .second, .val (.long o4), .second, .val (.long o5), .second, .val (.long o6), .second, .val (.long o7), .second, .val (.ref b152), .unset, .unset, .unset, .unset, .unset, .unset] [(.long x6), (.int (6 : Int32)), (.ref b152)])) rfl rfl (hb hby at_217)
    have V172 := Arv.set Ar171 cq171 S171 Nn171 Hh171 Gg171 rfl W172 6 rfl (Nat.le_of_ble_eq_true rfl)
    have V172a : Arv Z h172 b152 k152 .long (8 : Int32) [(.long bb), (.long x1), (.long x2), (.long x3), (.long x4), (.long x5), (.long x6), (.long (0 : Int64))] (.long (0 : Int64)) := V172
    have N172 := Fr.snoc X172 N169 gz_b152
    obtain ⟨x7, hv_x7⟩ : ∃ z : Int64, z = (bb + o7) := ⟨_, rfl⟩
    have g173 : ∀ t, Steps p.tables e below (T172.setTop (mkF m 234 #[.val (.int p1), .val (.int p2), .val (.long q3), .second, .val (.int p4), .val (.int (8 : Int32)), .val (.int pp), .val (.long bb), .second, .val (.long o1), .second, .val (.long o2), .second, .val (.long o3), .second, .val (.long o4), .second, .val (.long o5), .second, .val (.long o6), .second, .val (.long o7), .second, .val (.ref b152), .unset, .unset, .unset, .unset, .unset, .unset] [(.long x7), (.int (7 : Int32)), (.ref b152)])) t → Steps p.tables e below (s₁.setTop (entryFrame m #[(.int p1), (.int p2), (.long q3), (.int p4)] maxLocals)) t := by
      intro t k
      rw [hv_x7] at k
      refine g170 t ?_
      show Steps p.tables e below (T169.setTop (mkF m 217 #[.val (.int p1), .val (.int p2), .val (.long q3), .second, .val (.int p4), .val (.int (8 : Int32)), .val (.int pp), .val (.long bb), .second, .val (.long o1), .second, .val (.long o2), .second, .val (.long o3), .second, .val (.long o4), .second, .val (.long o5), .second, .val (.long o6), .second, .val (.long o7), .second, .val (.ref b152), .unset, .unset, .unset, .unset, .unset, .unset] [(.long x6), (.int (6 : Int32)), (.ref b152)])) _
      refine st172 _ ?_
      refine XS.iload X172.here hx rfl (hb hby at_218) rfl ?_
      refine XS.bipush X172.here hx rfl (hb hby at_220) ?_
      refine XS.icmpNo X172.here hx rfl (hb hby at_222) rfl (tlt (by decide : (7 : Int32) < (8 : Int32))).2.2.2 ?_
      show Steps p.tables e below (T172.setTop (mkF m 225 #[.val (.int p1), .val (.int p2), .val (.long q3), .second, .val (.int p4), .val (.int (8 : Int32)), .val (.int pp), .val (.long bb), .second, .val (.long o1), .second, .val (.long o2), .second, .val (.long o3), .second, .val (.long o4), .second, .val (.long o5), .second, .val (.long o6), .second, .val (.long o7), .second, .val (.ref b152), .unset, .unset, .unset, .unset, .unset, .unset] [])) _
      refine XS.aload X172.here hx rfl (hb hby at_225) rfl rfl ?_
      refine XS.bipush X172.here hx rfl (hb hby at_227) ?_
      refine XS.lload X172.here hx rfl (hb hby at_229) rfl ?_
      refine XS.lload X172.here hx rfl (hb hby at_231) rfl ?_
      show Steps p.tables e below (T172.setTop (mkF m 233 #[.val (.int p1), .val (.int p2), .val (.long q3), .second, .val (.int p4), .val (.int (8 : Int32)), .val (.int pp), .val (.long bb), .second, .val (.long o1), .second, .val (.long o2), .second, .val (.long o3), .second, .val (.long o4), .second, .val (.long o5), .second, .val (.long o6), .second, .val (.long o7), .second, .val (.ref b152), .unset, .unset, .unset, .unset, .unset, .unset] [(.long o7), (.long bb), (.int (7 : Int32)), (.ref b152)])) _
      refine XS.ladd X172.here hx rfl (hb hby at_233) rfl ?_
      exact k
    obtain ⟨c174, Ar174, cq174, S174, Nn174, Hh174, Gg174⟩ := id V172a
    have hin174 : ¬ ((7 : Int32) < 0 ∨ c174.slots.size ≤ ((7 : Int32)).toNatClampNeg) := inb_of S174 ⟨by decide, by decide⟩
    obtain ⟨T175, h175, X175, e175, W175, st175⟩ := stJ X172 hx hZ e172 Ar174 (j := (7 : Int32)) hin174 (g := (mkF m 234 #[.val (.int p1), .val (.int p2), .val (.long q3), .second, .val (.int p4), .val (.int (8 : Int32)), .val (.int pp), .val (.long bb), .second, .val (.long o1), .second, .val (.long o2), .second, .val (.long o3), .second, .val (.long o4), .second, .val (.long o5), .second, .val (.long o6), .second, .val (.long o7), .second, .val (.ref b152), .unset, .unset, .unset, .unset, .unset, .unset] [(.long x7), (.int (7 : Int32)), (.ref b152)])) rfl rfl (hb hby at_234)
    have V175 := Arv.set Ar174 cq174 S174 Nn174 Hh174 Gg174 rfl W175 7 rfl (Nat.le_of_ble_eq_true rfl)
    have V175a : Arv Z h175 b152 k152 .long (8 : Int32) [(.long bb), (.long x1), (.long x2), (.long x3), (.long x4), (.long x5), (.long x6), (.long x7)] (.long (0 : Int64)) := V175
    have N175 := Fr.snoc X175 N172 gz_b152
    have o176 : Old Z n0 h175 := (Old.wr (Old.wr (Old.wr (Old.wr (Old.wr (Old.wr (Old.wr (Old.wr (Old.ext O0 E152) W154 gz_b152) W157 gz_b152) W160 gz_b152) W163 gz_b152) W166 gz_b152) W169 gz_b152) W172 gz_b152) W175 gz_b152)
    have hpp := own_p _ _ hv_pp
    obtain ⟨j, hj, jz, jn, j2, j3⟩ := own_pct (8 : Int32) pp 8 (by decide) (by decide) (by decide) hpp
    have hj0 : ¬ j < 0 := by rw [Int32.lt_iff_toInt_lt, show (0 : Int32).toInt = 0 by decide]; omega
    have hj1 : j < (8 : Int32) := by rw [Int32.lt_iff_toInt_lt, show (8 : Int32).toInt = 8 by decide]; omega
    have hjl : j.toNatClampNeg < ([bb, x1, x2, x3, x4, x5, x6, x7] : List Int64).length := by simp only [Int32.toNatClampNeg, List.length_cons, List.length_nil]; omega
    have hjr := own_getD [bb, x1, x2, x3, x4, x5, x6, x7] j.toNatClampNeg hjl
    obtain ⟨rr, hrr⟩ : ∃ z : Int64, z = ([bb, x1, x2, x3, x4, x5, x6, x7] : List Int64).getD j.toNatClampNeg 0 := ⟨_, rfl⟩
    rw [← hrr] at hjr
    obtain ⟨_, _, ⟨T177, L177, k177, n177⟩, -, X177, ⟨Lc177, hQ177, l177, y177, z177⟩, st177⟩ := Jvm.LawKit.callS X175 hx (y := (⟨"orderwire/bench/Latency", "percentile", "([JI)J"⟩ : MethodName)) hown (mvT hZ (hw _ (List.mem_of_getElem? (i := 7) rfl))) (mvT hZ (hw _ (List.mem_of_getElem? (i := 8) rfl))) (mvT hZ (hw _ (List.mem_of_getElem? (i := 9) rfl))) (mvT hZ (hw _ (List.mem_of_getElem? (i := 10) rfl))) (by decide) (backOf (W := 0) (rmPct8 l Z a0 hw [] b152 k152 bb x1 x2 x3 x4 x5 x6 x7 rr pp j h175 n0 o176 V175a hj hj0 hj1 hjr) hZ (hw _ (List.mem_of_getElem? (i := 10) rfl)) (hw _ (List.mem_of_getElem? (i := 9) rfl)) (by decide) (by decide)) (g := (mkF m 239 #[.val (.int p1), .val (.int p2), .val (.long q3), .second, .val (.int p4), .val (.int (8 : Int32)), .val (.int pp), .val (.long bb), .second, .val (.long o1), .second, .val (.long o2), .second, .val (.long o3), .second, .val (.long o4), .second, .val (.long o5), .second, .val (.long o6), .second, .val (.long o7), .second, .val (.ref b152), .unset, .unset, .unset, .unset, .unset, .unset] [(.int pp), (.ref b152)])) rfl (by rw [hml]; rfl) (argsL := [(.ref b152), (.int pp)]) (rest := []) (lenOf own_pd1 rfl) rfl (by show 2 * 0 + _ ≤ _; exact Nat.le_of_eq rfl) (hb hby at_239) (fun _ _ => ⟨rfl, e175, (by decide : 1 + 0 ≤ _), (by decide : 8 + 0 ≤ _)⟩)
    dsimp only [Pt.U, Pt.locs, Pt.cells, Pt.slots] at X177 l177 y177 z177 st177 hQ177
    subst l177 y177 z177
    obtain ⟨rfl, Nq177, e177⟩ := hQ177
    have N177 := Fr.app N175 Nq177
    obtain ⟨le, hle⟩ : ∃ z : Int32, own_cle rr [bb, x1, x2, x3, x4, x5, x6, x7] 0 = z := ⟨_, rfl⟩
    obtain ⟨_, _, ⟨T178, L178, k178, n178⟩, -, X178, ⟨Lc178, hQ178, l178, y178, z178⟩, st178⟩ := Jvm.LawKit.callS X177 hx (y := (⟨"orderwire/bench/LatencyPercentilePinLaw", "countLe", "([JJ)I"⟩ : MethodName)) hown (mvT hZ (hw _ (List.mem_of_getElem? (i := 13) rfl))) (mvT hZ (hw _ (List.mem_of_getElem? (i := 14) rfl))) (mvT hZ (hw _ (List.mem_of_getElem? (i := 15) rfl))) (mvT hZ (hw _ (List.mem_of_getElem? (i := 16) rfl))) (by decide) (backOf (W := 0) (rmcountLe8 l Z a0 hw [] b152 k152 bb x1 x2 x3 x4 x5 x6 x7 rr le h175 n0 o176 V175a hle) hZ (hw _ (List.mem_of_getElem? (i := 16) rfl)) (hw _ (List.mem_of_getElem? (i := 15) rfl)) (by decide) (by decide)) (g := (mkF m 248 #[.val (.int p1), .val (.int p2), .val (.long q3), .second, .val (.int p4), .val (.int (8 : Int32)), .val (.int pp), .val (.long bb), .second, .val (.long o1), .second, .val (.long o2), .second, .val (.long o3), .second, .val (.long o4), .second, .val (.long o5), .second, .val (.long o6), .second, .val (.long o7), .second, .val (.ref b152), .val (.long rr), .second, .unset, .unset, .unset, .unset] [(.long rr), (.ref b152)])) rfl (by rw [hml]; rfl) (argsL := [(.ref b152), (.long rr)]) (rest := []) (lenOf own_pd2 rfl) rfl (by show 2 * 0 + _ ≤ _; exact Nat.le_of_eq rfl) (hb hby at_248) (fun _ _ => ⟨rfl, e177, (by decide : 1 + 0 ≤ _), (by decide : 8 + 0 ≤ _)⟩)
    dsimp only [Pt.U, Pt.locs, Pt.cells, Pt.slots] at X178 l178 y178 z178 st178 hQ178
    subst l178 y178 z178
    obtain ⟨rfl, Nq178, e178⟩ := hQ178
    have N178 := Fr.app N177 Nq178
    obtain ⟨lt, hlt⟩ : ∃ z : Int32, own_clt rr [bb, x1, x2, x3, x4, x5, x6, x7] 0 = z := ⟨_, rfl⟩
    obtain ⟨_, _, ⟨T179, L179, k179, n179⟩, -, X179, ⟨Lc179, hQ179, l179, y179, z179⟩, st179⟩ := Jvm.LawKit.callS X178 hx (y := (⟨"orderwire/bench/LatencyPercentilePinLaw", "countLt", "([JJ)I"⟩ : MethodName)) hown (mvT hZ (hw _ (List.mem_of_getElem? (i := 17) rfl))) (mvT hZ (hw _ (List.mem_of_getElem? (i := 18) rfl))) (mvT hZ (hw _ (List.mem_of_getElem? (i := 15) rfl))) (mvT hZ (hw _ (List.mem_of_getElem? (i := 19) rfl))) (by decide) (backOf (W := 0) (rmcountLt8 l Z a0 hw [] b152 k152 bb x1 x2 x3 x4 x5 x6 x7 rr lt h175 n0 o176 V175a hlt) hZ (hw _ (List.mem_of_getElem? (i := 19) rfl)) (hw _ (List.mem_of_getElem? (i := 15) rfl)) (by decide) (by decide)) (g := (mkF m 257 #[.val (.int p1), .val (.int p2), .val (.long q3), .second, .val (.int p4), .val (.int (8 : Int32)), .val (.int pp), .val (.long bb), .second, .val (.long o1), .second, .val (.long o2), .second, .val (.long o3), .second, .val (.long o4), .second, .val (.long o5), .second, .val (.long o6), .second, .val (.long o7), .second, .val (.ref b152), .val (.long rr), .second, .val (.int le), .unset, .unset, .unset] [(.long rr), (.ref b152)])) rfl (by rw [hml]; rfl) (argsL := [(.ref b152), (.long rr)]) (rest := []) (lenOf own_pd2 rfl) rfl (by show 2 * 0 + _ ≤ _; exact Nat.le_of_eq rfl) (hb hby at_257) (fun _ _ => ⟨rfl, e178, (by decide : 1 + 0 ≤ _), (by decide : 8 + 0 ≤ _)⟩)
    dsimp only [Pt.U, Pt.locs, Pt.cells, Pt.slots] at X179 l179 y179 z179 st179 hQ179
    subst l179 y179 z179
    obtain ⟨rfl, Nq179, e179⟩ := hQ179
    have N179 := Fr.app N178 Nq179
    obtain ⟨need, hv_need⟩ : ∃ z : Int64, z = ((pp.toInt64) * ((8 : Int32).toInt64)) := ⟨_, rfl⟩
    have g180 : ∀ t, Steps p.tables e below (T179.setTop (mkF m 269 #[.val (.int p1), .val (.int p2), .val (.long q3), .second, .val (.int p4), .val (.int (8 : Int32)), .val (.int pp), .val (.long bb), .second, .val (.long o1), .second, .val (.long o2), .second, .val (.long o3), .second, .val (.long o4), .second, .val (.long o5), .second, .val (.long o6), .second, .val (.long o7), .second, .val (.ref b152), .val (.long rr), .second, .val (.int le), .val (.int lt), .unset, .unset] [(.long need)])) t → Steps p.tables e below (s₁.setTop (entryFrame m #[(.int p1), (.int p2), (.long q3), (.int p4)] maxLocals)) t := by
      intro t k
      rw [hv_need] at k
      refine g173 t ?_
      show Steps p.tables e below (T172.setTop (mkF m 234 #[.val (.int p1), .val (.int p2), .val (.long q3), .second, .val (.int p4), .val (.int (8 : Int32)), .val (.int pp), .val (.long bb), .second, .val (.long o1), .second, .val (.long o2), .second, .val (.long o3), .second, .val (.long o4), .second, .val (.long o5), .second, .val (.long o6), .second, .val (.long o7), .second, .val (.ref b152), .unset, .unset, .unset, .unset, .unset, .unset] [(.long x7), (.int (7 : Int32)), (.ref b152)])) _
      refine st175 _ ?_
      refine XS.aload X175.here hx rfl (hb hby at_235) rfl rfl ?_
      refine XS.iload X175.here hx rfl (hb hby at_237) rfl ?_
      refine st177 _ ?_
      show Steps p.tables e below (T177.setTop (mkF m 242 #[.val (.int p1), .val (.int p2), .val (.long q3), .second, .val (.int p4), .val (.int (8 : Int32)), .val (.int pp), .val (.long bb), .second, .val (.long o1), .second, .val (.long o2), .second, .val (.long o3), .second, .val (.long o4), .second, .val (.long o5), .second, .val (.long o6), .second, .val (.long o7), .second, .val (.ref b152), .unset, .unset, .unset, .unset, .unset, .unset] [(.long rr)])) _
      refine XS.lstore X177.here hx rfl (hb hby at_242) rfl (l' := #[.val (.int p1), .val (.int p2), .val (.long q3), .second, .val (.int p4), .val (.int (8 : Int32)), .val (.int pp), .val (.long bb), .second, .val (.long o1), .second, .val (.long o2), .second, .val (.long o3), .second, .val (.long o4), .second, .val (.long o5), .second, .val (.long o6), .second, .val (.long o7), .second, .val (.ref b152), .val (.long rr), .second, .unset, .unset, .unset, .unset]) rfl ?_
      refine XS.aload X177.here hx rfl (hb hby at_244) rfl rfl ?_
      refine XS.lload X177.here hx rfl (hb hby at_246) rfl ?_
      refine st178 _ ?_
      show Steps p.tables e below (T178.setTop (mkF m 251 #[.val (.int p1), .val (.int p2), .val (.long q3), .second, .val (.int p4), .val (.int (8 : Int32)), .val (.int pp), .val (.long bb), .second, .val (.long o1), .second, .val (.long o2), .second, .val (.long o3), .second, .val (.long o4), .second, .val (.long o5), .second, .val (.long o6), .second, .val (.long o7), .second, .val (.ref b152), .val (.long rr), .second, .unset, .unset, .unset, .unset] [(.int le)])) _
      refine XS.istore X178.here hx rfl (hb hby at_251) rfl (l' := #[.val (.int p1), .val (.int p2), .val (.long q3), .second, .val (.int p4), .val (.int (8 : Int32)), .val (.int pp), .val (.long bb), .second, .val (.long o1), .second, .val (.long o2), .second, .val (.long o3), .second, .val (.long o4), .second, .val (.long o5), .second, .val (.long o6), .second, .val (.long o7), .second, .val (.ref b152), .val (.long rr), .second, .val (.int le), .unset, .unset, .unset]) rfl ?_
      refine XS.aload X178.here hx rfl (hb hby at_253) rfl rfl ?_
      refine XS.lload X178.here hx rfl (hb hby at_255) rfl ?_
      refine st179 _ ?_
      show Steps p.tables e below (T179.setTop (mkF m 260 #[.val (.int p1), .val (.int p2), .val (.long q3), .second, .val (.int p4), .val (.int (8 : Int32)), .val (.int pp), .val (.long bb), .second, .val (.long o1), .second, .val (.long o2), .second, .val (.long o3), .second, .val (.long o4), .second, .val (.long o5), .second, .val (.long o6), .second, .val (.long o7), .second, .val (.ref b152), .val (.long rr), .second, .val (.int le), .unset, .unset, .unset] [(.int lt)])) _
      refine XS.istore X179.here hx rfl (hb hby at_260) rfl (l' := #[.val (.int p1), .val (.int p2), .val (.long q3), .second, .val (.int p4), .val (.int (8 : Int32)), .val (.int pp), .val (.long bb), .second, .val (.long o1), .second, .val (.long o2), .second, .val (.long o3), .second, .val (.long o4), .second, .val (.long o5), .second, .val (.long o6), .second, .val (.long o7), .second, .val (.ref b152), .val (.long rr), .second, .val (.int le), .val (.int lt), .unset, .unset]) rfl ?_
      refine XS.iload X179.here hx rfl (hb hby at_262) rfl ?_
      refine XS.i2l X179.here hx rfl (hb hby at_264) rfl ?_
      refine XS.iload X179.here hx rfl (hb hby at_265) rfl ?_
      show Steps p.tables e below (T179.setTop (mkF m 267 #[.val (.int p1), .val (.int p2), .val (.long q3), .second, .val (.int p4), .val (.int (8 : Int32)), .val (.int pp), .val (.long bb), .second, .val (.long o1), .second, .val (.long o2), .second, .val (.long o3), .second, .val (.long o4), .second, .val (.long o5), .second, .val (.long o6), .second, .val (.long o7), .second, .val (.ref b152), .val (.long rr), .second, .val (.int le), .val (.int lt), .unset, .unset] [(.int (8 : Int32)), (.long (pp.toInt64))])) _
      refine XS.i2l X179.here hx rfl (hb hby at_267) rfl ?_
      refine XS.lmul X179.here hx rfl (hb hby at_268) rfl ?_
      exact k
    have hbd := own_b _ _ hbb
    have ko1 := own_o1 _ _ hv_o1
    have ko2 := own_o _ _ _ 3 (by decide) ⟨ko1.1, ko1.2⟩ hv_o2
    have zo2 : 0 ≤ o2.toInt := by omega
    have ko3 := own_o _ _ _ 6 (by decide) ⟨zo2, ko2.2⟩ hv_o3
    have zo3 : 0 ≤ o3.toInt := by omega
    have ko4 := own_o _ _ _ 9 (by decide) ⟨zo3, ko3.2⟩ hv_o4
    have zo4 : 0 ≤ o4.toInt := by omega
    have ko5 := own_o _ _ _ 12 (by decide) ⟨zo4, ko4.2⟩ hv_o5
    have zo5 : 0 ≤ o5.toInt := by omega
    have ko6 := own_o _ _ _ 15 (by decide) ⟨zo5, ko5.2⟩ hv_o6
    have zo6 : 0 ≤ o6.toInt := by omega
    have ko7 := own_o _ _ _ 18 (by decide) ⟨zo6, ko6.2⟩ hv_o7
    have zo7 : 0 ≤ o7.toInt := by omega
    have yx1 := own_x _ _ _ hbd ⟨by omega, by omega⟩ hv_x1
    have yx2 := own_x _ _ _ hbd ⟨by omega, by omega⟩ hv_x2
    have yx3 := own_x _ _ _ hbd ⟨by omega, by omega⟩ hv_x3
    have yx4 := own_x _ _ _ hbd ⟨by omega, by omega⟩ hv_x4
    have yx5 := own_x _ _ _ hbd ⟨by omega, by omega⟩ hv_x5
    have yx6 := own_x _ _ _ hbd ⟨by omega, by omega⟩ hv_x6
    have yx7 := own_x _ _ _ hbd ⟨by omega, by omega⟩ hv_x7
    have hsrt : own_srt [bb, x1, x2, x3, x4, x5, x6, x7] := by
      simp only [own_srt, List.mem_cons, List.not_mem_nil, or_false, forall_eq_or_imp, forall_eq, false_implies, implies_true, and_true, true_and]
      omega
    rw [hrr] at hle hlt
    obtain ⟨fin1, fin2⟩ := own_fin [bb, x1, x2, x3, x4, x5, x6, x7] (8 : Int32) pp j le lt need 8 (by decide) (by rfl) (by decide) (by decide) hpp hsrt jz jn j2 j3 hle hlt hv_need
    have hc181 : ¬ (((100 : Int64) * (le.toInt64)) < need) := fin1
    have hc182 : ((100 : Int64) * (lt.toInt64)) < need := fin2
    have g183 : ∀ t, Steps p.tables e below (T179.setTop (mkF m 302 #[.val (.int p1), .val (.int p2), .val (.long q3), .second, .val (.int p4), .val (.int (8 : Int32)), .val (.int pp), .val (.long bb), .second, .val (.long o1), .second, .val (.long o2), .second, .val (.long o3), .second, .val (.long o4), .second, .val (.long o5), .second, .val (.long o6), .second, .val (.long o7), .second, .val (.ref b152), .val (.long rr), .second, .val (.int le), .val (.int lt), .val (.long need), .second] [(.int (1 : Int32))])) t → Steps p.tables e below (s₁.setTop (entryFrame m #[(.int p1), (.int p2), (.long q3), (.int p4)] maxLocals)) t := by
      intro t k
      refine g180 t ?_
      show Steps p.tables e below (T179.setTop (mkF m 269 #[.val (.int p1), .val (.int p2), .val (.long q3), .second, .val (.int p4), .val (.int (8 : Int32)), .val (.int pp), .val (.long bb), .second, .val (.long o1), .second, .val (.long o2), .second, .val (.long o3), .second, .val (.long o4), .second, .val (.long o5), .second, .val (.long o6), .second, .val (.long o7), .second, .val (.ref b152), .val (.long rr), .second, .val (.int le), .val (.int lt), .unset, .unset] [(.long need)])) _
      refine XS.lstore X179.here hx rfl (hb hby at_269) rfl (l' := #[.val (.int p1), .val (.int p2), .val (.long q3), .second, .val (.int p4), .val (.int (8 : Int32)), .val (.int pp), .val (.long bb), .second, .val (.long o1), .second, .val (.long o2), .second, .val (.long o3), .second, .val (.long o4), .second, .val (.long o5), .second, .val (.long o6), .second, .val (.long o7), .second, .val (.ref b152), .val (.long rr), .second, .val (.int le), .val (.int lt), .val (.long need), .second]) rfl ?_
      refine X179.ldc2Long hx hown (mvT hZ (hw _ (List.mem_of_getElem? (i := 20) rfl))) (g := (mkF m 271 #[.val (.int p1), .val (.int p2), .val (.long q3), .second, .val (.int p4), .val (.int (8 : Int32)), .val (.int pp), .val (.long bb), .second, .val (.long o1), .second, .val (.long o2), .second, .val (.long o3), .second, .val (.long o4), .second, .val (.long o5), .second, .val (.long o6), .second, .val (.long o7), .second, .val (.ref b152), .val (.long rr), .second, .val (.int le), .val (.int lt), .val (.long need), .second] [])) rfl (hb hby at_271) _ ?_
      refine XS.iload X179.here hx rfl (hb hby at_274) rfl ?_
      refine XS.i2l X179.here hx rfl (hb hby at_276) rfl ?_
      show Steps p.tables e below (T179.setTop (mkF m 277 #[.val (.int p1), .val (.int p2), .val (.long q3), .second, .val (.int p4), .val (.int (8 : Int32)), .val (.int pp), .val (.long bb), .second, .val (.long o1), .second, .val (.long o2), .second, .val (.long o3), .second, .val (.long o4), .second, .val (.long o5), .second, .val (.long o6), .second, .val (.long o7), .second, .val (.ref b152), .val (.long rr), .second, .val (.int le), .val (.int lt), .val (.long need), .second] [(.long (le.toInt64)), (.long (100 : Int64))])) _
      refine XS.lmul X179.here hx rfl (hb hby at_277) rfl ?_
      refine XS.lload X179.here hx rfl (hb hby at_278) rfl ?_
      refine XS.lcmp X179.here hx rfl (hb hby at_280) rfl ?_
      refine XS.ifNo X179.here hx rfl (hb hby at_281) rfl ((if0 _ _).trans (flt (fun q => hc181 ((lw_lt _ _).mp q))).1) ?_
      show Steps p.tables e below (T179.setTop (mkF m 284 #[.val (.int p1), .val (.int p2), .val (.long q3), .second, .val (.int p4), .val (.int (8 : Int32)), .val (.int pp), .val (.long bb), .second, .val (.long o1), .second, .val (.long o2), .second, .val (.long o3), .second, .val (.long o4), .second, .val (.long o5), .second, .val (.long o6), .second, .val (.long o7), .second, .val (.ref b152), .val (.long rr), .second, .val (.int le), .val (.int lt), .val (.long need), .second] [])) _
      refine X179.ldc2Long hx hown (mvT hZ (hw _ (List.mem_of_getElem? (i := 20) rfl))) (g := (mkF m 284 #[.val (.int p1), .val (.int p2), .val (.long q3), .second, .val (.int p4), .val (.int (8 : Int32)), .val (.int pp), .val (.long bb), .second, .val (.long o1), .second, .val (.long o2), .second, .val (.long o3), .second, .val (.long o4), .second, .val (.long o5), .second, .val (.long o6), .second, .val (.long o7), .second, .val (.ref b152), .val (.long rr), .second, .val (.int le), .val (.int lt), .val (.long need), .second] [])) rfl (hb hby at_284) _ ?_
      refine XS.iload X179.here hx rfl (hb hby at_287) rfl ?_
      refine XS.i2l X179.here hx rfl (hb hby at_289) rfl ?_
      refine XS.lmul X179.here hx rfl (hb hby at_290) rfl ?_
      show Steps p.tables e below (T179.setTop (mkF m 291 #[.val (.int p1), .val (.int p2), .val (.long q3), .second, .val (.int p4), .val (.int (8 : Int32)), .val (.int pp), .val (.long bb), .second, .val (.long o1), .second, .val (.long o2), .second, .val (.long o3), .second, .val (.long o4), .second, .val (.long o5), .second, .val (.long o6), .second, .val (.long o7), .second, .val (.ref b152), .val (.long rr), .second, .val (.int le), .val (.int lt), .val (.long need), .second] [(.long ((100 : Int64) * (lt.toInt64)))])) _
      refine XS.lload X179.here hx rfl (hb hby at_291) rfl ?_
      refine XS.lcmp X179.here hx rfl (hb hby at_293) rfl ?_
      refine XS.ifNo X179.here hx rfl (hb hby at_294) rfl ((if0 _ _).trans (tlt ((lw_lt _ _).mpr hc182)).2.1) ?_
      refine XS.iconst X179.here hx rfl (hb hby at_297) ?_
      show Steps p.tables e below (T179.setTop (mkF m 298 #[.val (.int p1), .val (.int p2), .val (.long q3), .second, .val (.int p4), .val (.int (8 : Int32)), .val (.int pp), .val (.long bb), .second, .val (.long o1), .second, .val (.long o2), .second, .val (.long o3), .second, .val (.long o4), .second, .val (.long o5), .second, .val (.long o6), .second, .val (.long o7), .second, .val (.ref b152), .val (.long rr), .second, .val (.int le), .val (.int lt), .val (.long need), .second] [(.int (1 : Int32))])) _
      refine XS.goto X179.here hx rfl (pc0 := 298) (pc' := 302) rfl (hb hby at_298) (by decide) (by decide) ?_
      exact k
    obtain ⟨fs, hrt, hrun, hended, hW, hsame⟩ := X179.leave (v := some (.int (1 : Int32))) (fun h => by rw [Bd.returns] at h; cases h)
    refine ⟨_, _, g183 _ ?_, hrun, hended, _, _, rfl, ?_, ⟨_, rfl⟩, hW, hsame.mono (by decide) (by decide)⟩
    · show Steps p.tables e below (T179.setTop (mkF m 302 #[.val (.int p1), .val (.int p2), .val (.long q3), .second, .val (.int p4), .val (.int (8 : Int32)), .val (.int pp), .val (.long bb), .second, .val (.long o1), .second, .val (.long o2), .second, .val (.long o3), .second, .val (.long o4), .second, .val (.long o5), .second, .val (.long o6), .second, .val (.long o7), .second, .val (.ref b152), .val (.long rr), .second, .val (.int le), .val (.int lt), .val (.long need), .second] [(.int (1 : Int32))])) _
      exact retN X179 hx (t := .boolean) Bd.returns (by simp) (hb hby at_302) hrt
    · show own_Q_rm0 Z p1 p2 q3 p4 h0 n0 _ T179.heap _
      rw [e179]
      exact ⟨rfl, N179⟩
set_option maxRecDepth 65536 in
set_option maxHeartbeats 40000000 in
theorem comes_1 {Post : Tables → Env → Array Value → State → Outcome → State → Prop} (hpost : ∀ tb e args s v u, (limb_1_1.after args s (.returned v) u = true ∧ limb_1_2.after args s (.returned v) u = true ∧ True) → FrameEnd s (.returned v) u (Jvm.fieldLocs frame_1_writes args s ++ Jvm.arrayLocs frame_1_arrays args s ++ Jvm.staticLocs frame_1_statics s) 16 128 → Post tb e args s (.returned v) u) :
    ArmFor flags0 classFile x code maxLocals ret World_1 tables_1 room_1 Calls_1 rest_1 Pre_1 Post := by
  intro l hfl _ _ p e ha hc hk s m args below hf hA hF happ hP
  obtain ⟨hcalls, hrest, hpre⟩ := hP
  obtain ⟨-, -, -, hnamed, -, -, -, hat⟩ := (Spec.applies_iff hf).mp happ
  obtain ⟨hg, hn⟩ := and_e (Cond.before_iff.mp (show (Jvm.Cond.and given_1 narrow_1).before args s = true from hpre))
  obtain ⟨h0a, h0b⟩ := and_e hg
  obtain ⟨h1a, h1b⟩ := and_e h0b
  obtain ⟨h2a, h2b⟩ := and_e h1b
  obtain ⟨h3a, h3b⟩ := and_e h2b
  obtain ⟨w0, w1, w2, w3, rfl⟩ : ∃ w0 w1 w2 w3 : Value, args = #[w0, w1, w2, w3] := by
    have hs : args.size = 4 := by simpa [Cond.value, given_1] using h0a
    obtain ⟨L⟩ := args
    match L, hs with
    | [w0, w1, w2, w3], _ => exact ⟨w0, w1, w2, w3, rfl⟩
  have hw := fun d (hd : d ∈ tables_1) => atoms_spec (ws := Jvm.Cond.code x code maxLocals ret :: tables_1) hat d (List.mem_cons_of_mem _ hd)
  obtain ⟨i0, ei0⟩ := is_v h1a
  obtain rfl : w0 = (.int i0) := Option.some.inj ei0
  obtain ⟨i1, ei1⟩ := is_v h2a
  obtain rfl : w1 = (.int i1) := Option.some.inj ei1
  obtain ⟨i2, ei2⟩ := isL_v h3a
  obtain rfl : w2 = (.long i2) := Option.some.inj ei2
  obtain ⟨i3, ei3⟩ := is_v h3b
  obtain rfl : w3 = (.int i3) := Option.some.inj ei3
  obtain ⟨n, o, h1, h2, h3, _, L, rfl, ⟨rfl, N⟩, hq⟩ := rm0 l s _ hw tables_1 i0 i1 i2 i3 s.heap s.heap.size (Old.start s) p e ha hc hk s m _ below hf ((Spec.applies_iff_loose hf).mp happ).1 ⟨rfl, State.Warmed39.refl s, rfl⟩ trivial
  refine ⟨n, _, h1, h2, h3, hpost _ _ _ _ _ _ ⟨Cond.after_iff.mpr rfl, Cond.after_iff.mpr (eq_i res_at (Term.int_eval (1)) rfl), trivial⟩ ⟨hq.1, hq.2.1, (hq.2.2.sift fun y hy => Or.inr (N y hy)).mono (by decide) (by decide)⟩⟩
theorem main_1_1 : Claimed_1_1 := comes_1 fun _ _ _ _ _ _ h hF => ⟨h.1, hF⟩
theorem main_1_2 : Claimed_1_2 := comes_1 fun _ _ _ _ _ _ h hF => ⟨h.2.1, hF⟩
end Jvm.Pilot.@@N@@
namespace Jvm.Pilot.@@N@@
open Jvm Jvm.ClassFile Sem Op Lib Jvm.Free Jvm.Stand Jvm.Pilot.@@N@@.Jvm.D
/-! MADE BY PROGRAM (witnessworld.py) out of the Statement's table words and the real class files: 12 classes; the members and pool entries that the words name. The judged class is class 1, her method 1. -/
namespace start1
open Jvm.ClassFile
def u (s : String) : CpInfo := .utf8 (stringToUtf16 s)
/-- a pool by its gaps: so many unusable entries, then the entry; so many at the end -/
def gap : Nat → List CpInfo → List CpInfo
  | 0, r => r
  | n + 1, r => .unusable :: gap n r
def poolList (es : List (Nat × CpInfo)) (last : Nat) : List CpInfo := es.foldr (fun e r => gap e.1 (e.2 :: r)) (gap last [])
def pool (es : List (Nat × CpInfo)) (last : Nat) : Array CpInfo := ⟨poolList es last⟩
def fileOf (pool : Array CpInfo) (this : Nat) (attrs : Array Attribute := #[]) (ms : Array MethodInfo := #[]) (fl : Nat := 33) (sup : Nat := 0) (ifs : Array Nat := #[]) (fds : Array FieldInfo := #[]) : ClassFile where
  minorVersion := 0
  majorVersion := 65
  constantPool := pool
  accessFlags := fl
  thisClass := this
  superClass := sup
  interfaces := ifs
  fields := fds
  methods := ms
  attributes := attrs
def plain (name : String) (sup : Option ClassId) : Class where
  name := name
  kind := .ordinary
  loader := none
  accessFlags := 33
  super := sup
  interfaces := #[]
  cf := none
  fields := #[]
  methods := #[]
  instanceTypes := #[]
  staticTypes := #[]
  resolved := #[]
  callSites := []
  init := .initialized
  statics := none
  mirror := none

def pool0 : Array CpInfo := pool [(5, u "<init>"), (0, u "()V"), (1, .class_ 10), (1, u "java/lang/Object")] 113

def k0m0 : Method := { name := "<init>", desc := "()V", sig := { parameters := [], returnType := none }, accessFlags := 1, code := none }
/-- java/lang/Object -/
def k0 : Class := { plain "java/lang/Object" none with
  accessFlags := 33
  interfaces := #[]
  cf := some (fileOf pool0 8 #[] #[{ accessFlags := 1, nameIndex := 5, descriptorIndex := 6, attributes := #[] }] 33 0 #[] #[])
  fields := #[]
  methods := #[k0m0]
  instanceTypes := #[]
  staticTypes := #[]
  resolved := Array.replicate 124 none
  statics := none }

def pool1 : Array CpInfo := pool [(2, .class_ 4), (1, u "java/lang/Object"), (0, u "<init>"), (0, u "()V"), (0, .integer 2147483647), (2, .long 9223372036854775786), (1, .methodref 13 14), (0, .class_ 15), (0, .nameAndType 16 17), (0, u "java/lang/Math"), (0, u "min"), (0, u "(JJ)J"), (0, .methodref 19 20), (0, .class_ 21), (0, .nameAndType 22 23), (0, u "orderwire/bench/Latency"), (0, u "percentile"), (0, u "([JI)J"), (0, .methodref 25 26), (0, .class_ 27), (0, .nameAndType 28 29), (0, u "orderwire/bench/LatencyPercentilePinLaw"), (0, u "countLe"), (0, u "([JJ)I"), (0, .methodref 25 31), (0, .nameAndType 32 29), (0, u "countLt"), (0, .long 100), (3, u "law"), (0, u "(IIJI)Z")] 5

def k1m0 : Method := { name := "<init>", desc := "()V", sig := { parameters := [], returnType := none }, accessFlags := 2, code := none }
def k1c1 : Code := { maxStack := 6, maxLocals := 30, code := code, exceptionTable := #[], attributes := #[] }
def k1m1 : Method := { name := "law", desc := "(IIJI)Z", sig := { parameters := [.int, .int, .long, .int], returnType := some .boolean }, accessFlags := 9, code := some k1c1 }
def k1c2 : Code := { maxStack := 4, maxLocals := 5, code := method_3_code, exceptionTable := #[], attributes := #[] }
def k1m2 : Method := { name := "countLe", desc := "([JJ)I", sig := { parameters := [(.array .long), .long], returnType := some .int }, accessFlags := 10, code := some k1c2 }
def k1c3 : Code := { maxStack := 4, maxLocals := 5, code := method_4_code, exceptionTable := #[], attributes := #[] }
def k1m3 : Method := { name := "countLt", desc := "([JJ)I", sig := { parameters := [(.array .long), .long], returnType := some .int }, accessFlags := 10, code := some k1c3 }
/-- orderwire/bench/LatencyPercentilePinLaw -/
def k1 : Class := { plain "orderwire/bench/LatencyPercentilePinLaw" (some 0) with
  accessFlags := 49
  interfaces := #[]
  cf := some (fileOf pool1 25 #[] #[{ accessFlags := 2, nameIndex := 5, descriptorIndex := 6, attributes := #[] }, { accessFlags := 9, nameIndex := 37, descriptorIndex := 38, attributes := #[] }, { accessFlags := 10, nameIndex := 28, descriptorIndex := 29, attributes := #[] }, { accessFlags := 10, nameIndex := 32, descriptorIndex := 29, attributes := #[] }] 49 2 #[] #[])
  fields := #[]
  methods := #[k1m0, k1m1, k1m2, k1m3]
  instanceTypes := #[]
  staticTypes := #[]
  resolved := Array.replicate 44 none
  statics := none }

def pool2 : Array CpInfo := pool [(1, .class_ 2), (0, u "java/lang/Math"), (1, .class_ 6), (1, u "java/lang/Object"), (0, u "<init>"), (0, u "()V"), (89, .class_ 100), (1, u "java/lang/Math$RandomNumberGeneratorHolder"), (20, u "(JJ)J"), (50, u "negativeZeroFloatBits"), (0, u "J"), (2, u "negativeZeroDoubleBits"), (24, u "min"), (43, u "$assertionsDisabled"), (0, u "Z"), (91, u "twoToTheDoubleScaleDown"), (0, u "D"), (4, u "twoToTheDoubleScaleUp"), (9, u "E"), (3, u "PI"), (2, u "TAU"), (2, u "DEGREES_TO_RADIANS"), (0, u "RADIANS_TO_DEGREES")] 94

def k2m0 : Method := { name := "<init>", desc := "()V", sig := { parameters := [], returnType := none }, accessFlags := 2, code := none }
def k2c1 : Code := { maxStack := 4, maxLocals := 4, code := jdk_29_method_70_code, exceptionTable := #[], attributes := #[] }
def k2m1 : Method := { name := "min", desc := "(JJ)J", sig := { parameters := [.long, .long], returnType := some .long }, accessFlags := 9, code := some k2c1 }
/-- java/lang/Math -/
def k2 : Class := { plain "java/lang/Math" (some 0) with
  accessFlags := 49
  interfaces := #[]
  cf := some (fileOf pool2 1 #[.nestMembers #[98]] #[{ accessFlags := 2, nameIndex := 7, descriptorIndex := 8, attributes := #[] }, { accessFlags := 9, nameIndex := 201, descriptorIndex := 121, attributes := #[] }] 49 4 #[] #[{ accessFlags := 25, nameIndex := 354, descriptorIndex := 339, attributes := #[] }, { accessFlags := 25, nameIndex := 358, descriptorIndex := 339, attributes := #[] }, { accessFlags := 25, nameIndex := 361, descriptorIndex := 339, attributes := #[] }, { accessFlags := 26, nameIndex := 364, descriptorIndex := 339, attributes := #[] }, { accessFlags := 26, nameIndex := 365, descriptorIndex := 339, attributes := #[] }, { accessFlags := 26, nameIndex := 172, descriptorIndex := 173, attributes := #[] }, { accessFlags := 26, nameIndex := 176, descriptorIndex := 173, attributes := #[] }, { accessFlags := 8, nameIndex := 344, descriptorIndex := 339, attributes := #[] }, { accessFlags := 8, nameIndex := 338, descriptorIndex := 339, attributes := #[] }, { accessFlags := 4120, nameIndex := 245, descriptorIndex := 246, attributes := #[] }])
  fields := #[{ name := "E", type := .double, accessFlags := 25, slot := 0, constantValue := 0 }, { name := "PI", type := .double, accessFlags := 25, slot := 1, constantValue := 0 }, { name := "TAU", type := .double, accessFlags := 25, slot := 2, constantValue := 0 }, { name := "DEGREES_TO_RADIANS", type := .double, accessFlags := 26, slot := 3, constantValue := 0 }, { name := "RADIANS_TO_DEGREES", type := .double, accessFlags := 26, slot := 4, constantValue := 0 }, { name := "negativeZeroFloatBits", type := .long, accessFlags := 26, slot := 5, constantValue := 0 }, { name := "negativeZeroDoubleBits", type := .long, accessFlags := 26, slot := 6, constantValue := 0 }, { name := "twoToTheDoubleScaleUp", type := .double, accessFlags := 8, slot := 7, constantValue := 0 }, { name := "twoToTheDoubleScaleDown", type := .double, accessFlags := 8, slot := 8, constantValue := 0 }, { name := "$assertionsDisabled", type := .boolean, accessFlags := 4120, slot := 9, constantValue := 0 }]
  methods := #[k2m0, k2m1]
  instanceTypes := #[]
  staticTypes := #[.double, .double, .double, .double, .double, .long, .long, .double, .double, .boolean]
  resolved := Array.replicate 460 none
  statics := none }

def pool3 : Array CpInfo := pool [(2, .class_ 4), (1, u "java/lang/Object"), (0, u "<init>"), (0, u "()V"), (0, .class_ 8), (0, u "orderwire/bench/Latency"), (157, .long 100), (42, u "ANSWER_WAIT"), (0, u "Ljava/time/Duration;"), (77, u "percentile"), (0, u "([JI)J"), (19, .long 99), (6, u "USAGE"), (0, u "Ljava/lang/String;"), (1, u "MAX_COUNT"), (0, u "I"), (0, u "QUANTITY"), (0, u "J"), (0, u "BUY_PRICE"), (0, u "SELL_PRICE")] 43

def k3m0 : Method := { name := "<init>", desc := "()V", sig := { parameters := [], returnType := none }, accessFlags := 2, code := none }
def k3c1 : Code := { maxStack := 4, maxLocals := 3, code := prog_6_method_9_code, exceptionTable := #[], attributes := #[] }
def k3m1 : Method := { name := "percentile", desc := "([JI)J", sig := { parameters := [(.array .long), .int], returnType := some .long }, accessFlags := 8, code := some k3c1 }
/-- orderwire/bench/Latency -/
def k3 : Class := { plain "orderwire/bench/Latency" (some 0) with
  accessFlags := 49
  interfaces := #[]
  cf := some (fileOf pool3 7 #[] #[{ accessFlags := 2, nameIndex := 5, descriptorIndex := 6, attributes := #[] }, { accessFlags := 8, nameIndex := 288, descriptorIndex := 289, attributes := #[] }] 49 2 #[] #[{ accessFlags := 24, nameIndex := 316, descriptorIndex := 317, attributes := #[] }, { accessFlags := 24, nameIndex := 319, descriptorIndex := 320, attributes := #[] }, { accessFlags := 26, nameIndex := 209, descriptorIndex := 210, attributes := #[] }, { accessFlags := 26, nameIndex := 321, descriptorIndex := 322, attributes := #[] }, { accessFlags := 26, nameIndex := 323, descriptorIndex := 322, attributes := #[] }, { accessFlags := 26, nameIndex := 324, descriptorIndex := 322, attributes := #[] }])
  fields := #[{ name := "USAGE", type := (.object "java/lang/String"), accessFlags := 24, slot := 0, constantValue := 0 }, { name := "MAX_COUNT", type := .int, accessFlags := 24, slot := 1, constantValue := 0 }, { name := "ANSWER_WAIT", type := (.object "java/time/Duration"), accessFlags := 26, slot := 2, constantValue := 0 }, { name := "QUANTITY", type := .long, accessFlags := 26, slot := 3, constantValue := 0 }, { name := "BUY_PRICE", type := .long, accessFlags := 26, slot := 4, constantValue := 0 }, { name := "SELL_PRICE", type := .long, accessFlags := 26, slot := 5, constantValue := 0 }]
  methods := #[k3m0, k3m1]
  instanceTypes := #[]
  staticTypes := #[(.object "java/lang/String"), .int, (.object "java/time/Duration"), .long, .long, .long]
  resolved := Array.replicate 368 none
  statics := none }

def pool4 : Array CpInfo := pool [(1, u "java/lang/Cloneable"), (0, .class_ 1), (0, u "java/lang/Object"), (0, .class_ 3)] 3

/-- java/lang/Cloneable -/
def k4 : Class := { plain "java/lang/Cloneable" (some 0) with
  accessFlags := 1537
  interfaces := #[]
  cf := some (fileOf pool4 2 #[] #[] 1537 4 #[] #[])
  fields := #[]
  methods := #[]
  instanceTypes := #[]
  staticTypes := #[]
  resolved := Array.replicate 8 none
  statics := none }

def pool5 : Array CpInfo := pool [(1, u "java/io/Serializable"), (0, .class_ 1), (0, u "java/lang/Object"), (0, .class_ 3)] 3

/-- java/io/Serializable -/
def k5 : Class := { plain "java/io/Serializable" (some 0) with
  accessFlags := 1537
  interfaces := #[]
  cf := some (fileOf pool5 2 #[] #[] 1537 4 #[] #[])
  fields := #[]
  methods := #[]
  instanceTypes := #[]
  staticTypes := #[]
  resolved := Array.replicate 8 none
  statics := none }

/-- the primitive byte -/
def k6 : Class := { plain "byte" none with kind := .primitive 'B', accessFlags := 0x411 }
/-- [B -/
def k7 : Class := { plain "[B" (some 0) with kind := .array 6 .byte, interfaces := #[4, 5], accessFlags := 1041 }

/-- the primitive int -/
def k8 : Class := { plain "int" none with kind := .primitive 'I', accessFlags := 0x411 }
/-- [I -/
def k9 : Class := { plain "[I" (some 0) with kind := .array 8 .int, interfaces := #[4, 5], accessFlags := 1041 }

/-- the primitive long -/
def k10 : Class := { plain "long" none with kind := .primitive 'J', accessFlags := 0x411 }
/-- [J -/
def k11 : Class := { plain "[J" (some 0) with kind := .array 10 .long, interfaces := #[4, 5], accessFlags := 1041 }

def heap : Heap := #[]
def classes : Array Class := #[k0, k1, k2, k3, k4, k5, k6, k7, k8, k9, k10, k11]
def interned : List (Array UInt16 × Addr) := []
def slotsUsed : Nat := 0
def theMethod : MethodId := ⟨1, 1⟩
def args0 : Array Value := #[.int 5, .int 7, .long 9, .int 5]
def aboutOver (below : List Frame) : State where
  vm := { classes := classes, interned := interned.toArray }
  heap := heap
  slotsUsed := slotsUsed
  threads := #[{ frames := .invoking theMethod args0 :: below }]
def below0 : List Frame := [.native { method := ⟨0, 0⟩, args := #[] }]
def about1 : State := aboutOver below0
def p0 : Program := .bare "" "" ""
def e0 : Env := launch0.env 0 0 0
theorem w_frames : about1.frames = Frame.invoking theMethod args0 :: below0 := rfl
set_option maxRecDepth 65536 in
theorem w_args : argsFit about1.vm theMethod args0 = true := by decide +kernel
set_option maxRecDepth 65536 in
theorem w_heap : heapFits about1 = true := by decide +kernel
set_option maxRecDepth 65536 in
theorem w_runnable : about1.curStatus? = some .runnable := by decide +kernel
set_option maxRecDepth 65536 in
theorem w_alone : about1.alone = true := by decide +kernel
set_option maxRecDepth 65536 in
theorem w_named : about1.methodNamed? x = some theMethod := by decide +kernel
set_option maxRecDepth 65536 in
theorem w_hears : about1.hears theMethod below0 = true := by decide +kernel
set_option maxRecDepth 65536 in
theorem w_ripe : about1.ripe theMethod args0 below0 = true := by decide +kernel
theorem w_running : about1.status = .running := rfl
set_option maxRecDepth 65536 in
theorem w_room : about1.hasRoom e0.platform room_1 = true :=
  launch0.hasRoom_least _ room_1 (by decide +kernel) (by decide +kernel) (by decide +kernel) (by decide +kernel) (by decide +kernel) (by decide +kernel)
theorem allAtoms_all (ts : List Jvm.Cond) (a : Array Jvm.Value) (st : Jvm.State) : (allAtoms ts).before a st = ts.all (fun c => c.before a st) := by
  induction ts with
  | nil => rfl
  | cons c t ih =>
    show (Jvm.Cond.and c (allAtoms t)).before a st = _
    rw [Jvm.Cond.before_and, ih, List.all_cons]
def words1 : List Jvm.Cond := Jvm.Cond.code x code maxLocals ret :: tables_1
/-- a 'code' word, met by the world's own term for the bytes: nothing is compared byte by byte -/
theorem code_word {y : MethodName} {bytes : ByteArray} {mx : Nat} {rt : Option FieldType} {a : Array Value} {s : State} {m : MethodId} {meth : Method} {c : Code} (h1 : s.methodNamed? y = some m) (h2 : s.vm.method? m = some meth) (h3 : meth.code = some c) (h4 : c.code = bytes)
    (h5 : (c.maxLocals == mx && c.exceptionTable.isEmpty && decide (c.maxStack ≤ mostOperands) && decide (meth.sig.returnType = rt) && !meth.locks && decide (parseMethodDescriptor y.desc = some meth.sig)) = true) : (Jvm.Cond.code y bytes mx rt).before a s = true := by
  simp only [Bool.and_eq_true, beq_iff_eq, Bool.not_eq_true', decide_eq_true_eq] at h5
  obtain ⟨⟨⟨⟨⟨g1, g2⟩, g3⟩, g4⟩, g5⟩, g6⟩ := h5
  simp [Cond.before, Cond.holds, Cond.value, h1, h2, h3, h4, g1, g2, g3, g4, g5, g6]
def isCode : Jvm.Cond → Bool
  | .code _ _ _ _ => true
  | _ => false
theorem all_split {L : List Jvm.Cond} {P : Jvm.Cond → Bool} (h1 : L.all (fun c => isCode c || P c) = true) (h2 : ∀ c ∈ L.filter isCode, P c = true) : L.all P = true := by
  refine List.all_eq_true.mpr fun c hc => ?_
  have h := List.all_eq_true.mp h1 c hc
  rcases Bool.eq_false_or_eq_true (isCode c) with hi | hi
  · exact h2 c (List.mem_filter.mpr ⟨hc, hi⟩)
  · simpa [hi] using h
set_option maxRecDepth 65536 in
theorem w_c0 : (Jvm.Cond.code x code maxLocals ret).before args0 about1 = true := code_word (m := ⟨1, 1⟩) (meth := k1m1) (c := k1c1) (by decide +kernel) rfl rfl rfl (by decide +kernel)
set_option maxRecDepth 65536 in
theorem w_c1 : (Jvm.Cond.code ({ cls := "java/lang/Math", name := "min", desc := "(JJ)J" } : Jvm.MethodName) jdk_29_method_70_code (4 : Nat) (Option.some Jvm.ClassFile.FieldType.long)).before args0 about1 = true := code_word (m := ⟨2, 1⟩) (meth := k2m1) (c := k2c1) (by decide +kernel) rfl rfl rfl (by decide +kernel)
set_option maxRecDepth 65536 in
theorem w_c2 : (Jvm.Cond.code ({ cls := "orderwire/bench/Latency", name := "percentile", desc := "([JI)J" } : Jvm.MethodName) prog_6_method_9_code (3 : Nat) (Option.some Jvm.ClassFile.FieldType.long)).before args0 about1 = true := code_word (m := ⟨3, 1⟩) (meth := k3m1) (c := k3c1) (by decide +kernel) rfl rfl rfl (by decide +kernel)
set_option maxRecDepth 65536 in
theorem w_c3 : (Jvm.Cond.code ({ cls := "orderwire/bench/LatencyPercentilePinLaw", name := "countLe", desc := "([JJ)I" } : Jvm.MethodName) method_3_code (5 : Nat) (Option.some Jvm.ClassFile.FieldType.int)).before args0 about1 = true := code_word (m := ⟨1, 2⟩) (meth := k1m2) (c := k1c2) (by decide +kernel) rfl rfl rfl (by decide +kernel)
set_option maxRecDepth 65536 in
theorem w_c4 : (Jvm.Cond.code ({ cls := "orderwire/bench/LatencyPercentilePinLaw", name := "countLt", desc := "([JJ)I" } : Jvm.MethodName) method_4_code (5 : Nat) (Option.some Jvm.ClassFile.FieldType.int)).before args0 about1 = true := code_word (m := ⟨1, 3⟩) (meth := k1m3) (c := k1c3) (by decide +kernel) rfl rfl rfl (by decide +kernel)
def codes1 : List Jvm.Cond := [Jvm.Cond.code x code maxLocals ret, Jvm.Cond.code ({ cls := "java/lang/Math", name := "min", desc := "(JJ)J" } : Jvm.MethodName) jdk_29_method_70_code (4 : Nat) (Option.some Jvm.ClassFile.FieldType.long), Jvm.Cond.code ({ cls := "orderwire/bench/Latency", name := "percentile", desc := "([JI)J" } : Jvm.MethodName) prog_6_method_9_code (3 : Nat) (Option.some Jvm.ClassFile.FieldType.long), Jvm.Cond.code ({ cls := "orderwire/bench/LatencyPercentilePinLaw", name := "countLe", desc := "([JJ)I" } : Jvm.MethodName) method_3_code (5 : Nat) (Option.some Jvm.ClassFile.FieldType.int), Jvm.Cond.code ({ cls := "orderwire/bench/LatencyPercentilePinLaw", name := "countLt", desc := "([JJ)I" } : Jvm.MethodName) method_4_code (5 : Nat) (Option.some Jvm.ClassFile.FieldType.int)]
set_option maxRecDepth 65536 in
theorem codes_eq : words1.filter isCode = codes1 := rfl
theorem w_codes : ∀ c ∈ words1.filter isCode, c.before args0 about1 = true := by
  rw [codes_eq]
  intro c hc
  simp only [codes1, List.mem_cons, List.not_mem_nil, or_false] at hc
  rcases hc with rfl | rfl | rfl | rfl | rfl
  · exact w_c0
  · exact w_c1
  · exact w_c2
  · exact w_c3
  · exact w_c4
set_option maxRecDepth 65536 in
theorem w_t1 : words1.all (fun c => isCode c || c.before args0 about1) = true := by decide +kernel
theorem w_tables : (allAtoms (Jvm.Cond.code x code maxLocals ret :: tables_1)).before args0 about1 = true := by
  rw [allAtoms_all]
  show words1.all (fun c => c.before args0 about1) = true
  refine all_split ?_ w_codes
  rw [w_t1]
set_option maxRecDepth 65536 in
theorem w_case : (Jvm.Cond.and given_1 narrow_1).before args0 about1 = true := by decide +kernel
theorem w_applies : (headSpec (Jvm.Cond.code x code maxLocals ret :: tables_1) room_1).applies x e0.platform about1 = true :=
  (Spec.applies_iff w_frames).mpr ⟨w_running, w_runnable, w_alone, w_named, w_hears, w_ripe, w_room, w_tables⟩
theorem atStart : AtStart classFile x code maxLocals ret World_1 tables_1 room_1 Calls_1 rest_1 Pre_1 launch0 p0 e0 about1 theMethod args0 below0 :=
  ⟨lists_1, trivial, launch0.admits_env _ _ _, launch0.least_env, fairChoices_fair.cas, fairChoices_fair.clock, w_frames, w_args, w_heap, w_applies, trivial, trivial, w_case⟩
end start1
theorem witness_1 : WitnessClaimed_1 := ⟨start1.p0, start1.e0, start1.about1, start1.theMethod, start1.args0, start1.below0, start1.atStart⟩
end Jvm.Pilot.@@N@@
