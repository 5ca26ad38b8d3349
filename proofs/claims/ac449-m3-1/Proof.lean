import JvmDerived
import JvmDerived.Pilot.@@N@@Statement
import JvmDerived.Pilot.@@N@@Code
set_option linter.unusedVariables false
set_option linter.unusedSimpArgs false
set_option maxRecDepth 65536
set_option maxHeartbeats 40000000
namespace Jvm.RoadKit
open Sem ClassFile Op Lib Jvm.Stand Jvm.Free Jvm.LawKit
section New
variable {p : Program} {l : Launch} {e : Env} {R : Room} {s : State} {m : MethodId} {args : Array Value} {below : List Frame} {meth : Method} {c : Code} {T : State} {locs : List Loc} {cells slots : Nat}
theorem retI (X : Stand p l e R s m args below meth c T locs cells slots) (hx : p.tables.exec = Jvm.exec) {pc : Nat} {Ls : Array Slot} {z : Int32} {rest : List Value} (hret : meth.sig.returnType = some .int) (hd : decode c.code pc = .ok (.ireturn, 1)) {fs : List Frame}
    (hl : ∀ (f : JFrame) (acts : List Action), f.method = m → f.locked = none → f.entered = [] → (doReturn e (T.setTop f) acts (some (.int z))).1 = T.setFrames fs) : Steps p.tables e below (T.setTop (mkF m pc Ls (.int z :: rest))) (T.setFrames fs) := by
  have hm' : T.vm.method? m = some meth := X.method'
  have hn : narrow .int (.int z) = .int z := rfl
  show Steps p.tables e below (T.setTop { method := m, pc := pc, locals := Ls, stack := _ :: rest, locked := none }) _
  jvm_step X.here [X.here.top, hx, hd, hm', hret, hn]
  first | (intro acts; rw [hl _ acts rfl rfl rfl]) | rw [hl _ _ rfl rfl rfl]
  exact Steps.refl _
end New
end Jvm.RoadKit
namespace Jvm.Pilot.@@N@@
open Jvm Jvm.ClassFile Sem Op Lib Jvm.Free Jvm.Stand Jvm.LawKit Jvm.RoadKit Bundle Jvm.Pilot.@@N@@.Jvm.D
theorem own_irem (x y : Int32) : x - (x / y) * y = x % y := by
  apply Int32.toInt_inj.mp
  have h1 := Int32.le_toInt (x % y)
  have h2 := Int32.toInt_lt (x % y)
  rw [Int32.toInt_sub, Int32.toInt_mul, Int32.toInt_div, Int.bmod_mul_bmod, Int.sub_bmod_bmod, Int.mul_comm (x.toInt.tdiv y.toInt), ← Int.tmod_def, ← Int32.toInt_mod]
  exact Int.bmod_eq_of_le_mul_two (by omega) (by omega)
theorem own_getR {p : Program} {l : Launch} {e : Env} {R : Room} {s : State} {m : MethodId} {args : Array Value} {below : List Frame} {meth : Method} {c : Code} {T : State} {locs : List Loc} {cells slots : Nat} {Z : State} {a0 : Array Value} {h : Heap}
    (X : Stand p l e R s m args below meth c T locs cells slots) (hx : p.tables.exec = Jvm.exec) (hZ : Z.Warmed39 s.vm) {own O n d : String} {index : Nat} (hown : s.vm.findClass own = some m.cls) (w : (Cond.fieldRef own index O n d).before a0 Z = true)
    (eT : T.heap = h) {a : Addr} {v : Value} (F : Fld Z h a O n d v) {g : JFrame} (hg : g.method = m) {rest : List Value} (hs : g.stack = .ref a :: rest) (hd : decode c.code g.pc = .ok (.getfield index, 3)) :
    ∃ T', Stand p l e R s m args below meth c T' locs cells slots ∧ T'.heap = h ∧ ∀ target, Steps p.tables e below (T'.setTop { g with pc := g.pc + 3, stack := v :: rest }) target → Steps p.tables e below (T.setTop g) target := by
  have hT : Z.Warmed39 T.vm := wtrans hZ X.warmed
  have w' := Cond.fieldRef_warmed39 hT w
  have hc : (Z.setVm T.vm).vm.findClass own = some m.cls := by
    rw [show (Z.setVm T.vm).vm = T.vm from rfl, X.warmed.alike.findClass]; exact hown
  obtain ⟨cf, k, i, f, hff, hready⟩ := Cond.fieldRef_spec hc w'
  obtain ⟨cell, cf', k', i', f', q1, q2, q3, q4, q5, q6, q7⟩ := F
  obtain ⟨k2, hi, ek⟩ := State.fieldFound?_setVm (s := Z) hT.alike q2
  cases hff.symm.trans hi
  exact ⟨T, X, eT, fun target ht => (X.getfieldR hx hg hready q3 hs (by rw [eT]; exact q1) q4 q7 hd (Steps.refl _)).trans ht⟩
theorem own_insAny {Z : State} {a0 : Array Value} {h : Heap} {own K C : String} {index d : Nat} {a : Addr} (hd : Z.vm.findClass own = some d) (w : (Cond.classLink own index K).before a0 Z = true) (E : Exa Z h a C) : ∃ b, Ins Z h a K b := by
  obtain ⟨cell, k, h1, -⟩ := E
  obtain ⟨cT, hK, -⟩ := Cond.classLink_spec hd w {} rfl
  exact ⟨_, cell, cT, h1, hK, rfl⟩
theorem own_mvM {Z s : State} {a0 args : Array Value} {own host : String} {y : MethodName} {index : Nat} (hZ : Z.Warmed39 s.vm) (w : (Cond.methodLinkNest own index y host).before a0 Z = true) : (Cond.methodLinkNest own index y host).before args s = true := (Cond.methodLinkNest_wide hZ w :)
theorem own_w {Z : State} {a0 : Array Value} (hw : ∀ d ∈ tables_1, d.before a0 Z = true) (i : Nat) {d : Jvm.Cond} (h : tables_1[i]? = some d) : d.before a0 Z = true := hw _ (List.mem_of_getElem? h)
theorem own_nb (x : Int32) : nar .byte x.toInt8.toInt32 = x.toInt8.toInt32 := by simp [nar]
theorem own_nb2 (x : Int32) : x.toInt8.toInt32.toInt8.toInt32 = x.toInt8.toInt32 := by simp
theorem own_eqI {args : Array Value} {first s : State} {o : Option Outcome} {idx : List Nat} {t : Term} {k : Int32} (h : (Cond.eq t (.int k)).value args first o s idx = some true) : t.eval args first o idx s = some (.int k) :=
  Cond.eq_int (by simp [Cond.holds, h]) (Term.int_eval _)
abbrev vU : Slot := .unset
abbrev vS : Slot := .second
abbrev oi (x : Int32) : Slot := .val (.int x)
abbrev oj (x : Int64) : Slot := .val (.long x)
abbrev oa (x : Addr) : Slot := .val (.ref x)
abbrev FS (p : Program) (e : Env) (b : List Frame) (T : State) (m : MethodId) (i : Nat) (L : Array Slot) (S : List Value) (t : State) : Prop := Steps p.tables e b (T.setTop (mkF m i L S)) t
abbrev ES (p : Program) (e : Env) (b : List Frame) (T : State) (m : MethodId) (A : Array Value) (n : Nat) (t : State) : Prop := Steps p.tables e b (T.setTop (entryFrame m A n)) t
theorem own_W0 {n k : Nat} (h : 2 * 0 + n = k) : 2 * 0 + n ≤ k := Nat.le_of_eq h
abbrev q28 := jdk_2097_method_35_code
abbrev q29 := prog_111_method_8_code
abbrev q21 := prog_111_method_5_code
abbrev q6 := prog_111_method_7_code
abbrev q7 := jdk_2097_method_29_code
abbrev q8 := jdk_2097_method_30_code
abbrev q9 := jdk_18_method_1_code
abbrev q10 := jdk_2097_method_40_code
abbrev q11 := jdk_2097_method_42_code
abbrev q12 := jdk_2097_method_43_code
abbrev q13 := jdk_33_method_49_code
abbrev q14 := jdk_33_method_48_code
abbrev q15 := jdk_2097_method_102_code
abbrev q16 := jdk_31_method_18_code
abbrev q17 := jdk_41_method_12_code
abbrev q18 := jdk_2097_method_103_code
abbrev q19 := jdk_2097_method_25_code
abbrev q24 := jdk_65_method_136_code
abbrev q25 := jdk_65_method_137_code
abbrev q26 := jdk_65_method_131_code
abbrev q27 := jdk_29_method_69_code
abbrev q30 := jdk_2097_method_45_code
abbrev q31 := jdk_2097_method_47_code
abbrev q32 := jdk_31_method_10_code
abbrev q33 := jdk_2097_method_46_code
abbrev q34 := jdk_2097_method_140_code
abbrev q20 := jdk_2097_method_32_code
abbrev q22 := prog_109_method_13_code
abbrev q1 := method_2_code
abbrev q2 := prog_109_method_1_code
abbrev q3 := jdk_30_method_1_code
abbrev q5 := prog_111_method_1_code
abbrev q23 := prog_111_method_9_code

theorem own_nz {a b : Int32} {P : Prop} (h : a = (0 : Int32) ∨ (a = b ∧ P)) (q : ¬ (a = (0 : Int32))) : a = b ∧ P := h.resolve_left q
theorem own_sgx {a b sn x : Int32} {P Q : Prop} (ha : a = (0 : Int32) ∨ (a = (1 : Int32) ∧ P)) (hb : b = (0 : Int32) ∨ (b = sn ∧ Q)) (hs : sn = (1 : Int32) ∨ sn = (-1 : Int32)) (qa : ¬ (a = (0 : Int32))) (qb : ¬ (b = (0 : Int32))) (hx : x = if a = b then (1 : Int32) else (-1 : Int32)) : x = sn := by
  rw [hx, (own_nz ha qa).1, (own_nz hb qb).1]
  rcases hs with h | h <;> rw [h] <;> decide
theorem own_sn {p : Int64} {sn : Int32} (h1 : p < (0 : Int64) → sn = (-1 : Int32)) (h2 : ¬ (p < (0 : Int64)) → sn = (1 : Int32)) : sn = (1 : Int32) ∨ sn = (-1 : Int32) := by
  by_cases h : p < (0 : Int64)
  · exact Or.inr (h1 h)
  · exact Or.inl (h2 h)
theorem own_sgn (p : Int64) : ∃ sn : Int32, (p < (0 : Int64) → sn = (-1 : Int32)) ∧ (¬ (p < (0 : Int64)) → sn = (1 : Int32)) := by
  by_cases h : p < (0 : Int64)
  · exact ⟨_, fun _ => rfl, fun q => absurd h q⟩
  · exact ⟨_, fun q => absurd q h, fun _ => rfl⟩
theorem own_pos {p : Int64} (h : (0 : Int64) < p) : ¬ (p < (0 : Int64)) := by
  rw [Int64.lt_iff_toInt_lt] at *; omega
theorem own_neg {p : Int64} (h : ¬ (p = (0 : Int64))) (h2 : ¬ ((0 : Int64) < p)) : p < (0 : Int64) := by
  rw [← Int64.toInt_inj] at h; rw [Int64.lt_iff_toInt_lt] at *; omega
theorem own_nz64 {p : Int64} (h : (0 : Int64) < p) : p ≠ 0 := by
  intro q; subst q; exact absurd h (by decide)
theorem own_mx {p : Int64} (h : p < (9223372036854775807 : Int64)) : (9223372036854775807 : Int64) - p ≠ 0 := by
  intro q
  have h1 := congrArg Int64.toInt q
  rw [Int64.toInt_sub, show (9223372036854775807 : Int64).toInt = 9223372036854775807 by decide, show (0 : Int64).toInt = 0 by decide] at h1
  rw [Int64.lt_iff_toInt_lt, show (9223372036854775807 : Int64).toInt = 9223372036854775807 by decide] at h
  have h2 := Int64.le_toInt p
  have h3 := Int.emod_emod_of_dvd ((9223372036854775807 : Int) - p.toInt) (Int.dvd_refl (18446744073709551616 : Int))
  have h4 : ((9223372036854775807 : Int) - p.toInt) % 18446744073709551616 = 0 := by
    have := Int.bmod_emod (x := (9223372036854775807 : Int) - p.toInt) (m := 2 ^ 64)
    rw [h1] at this
    simpa using this.symm
  omega
theorem own_f {q x f : Int64} (hv : f = (1 : Int64) + ((x &&& (9223372036854775807 : Int64)) % q)) (h : (0 : Int64) < q) : ¬ (f < (0 : Int64)) := by
  have h1 := c_maskL x (9223372036854775807 : Int64) 63 (by decide) (by decide)
  rw [Int64.lt_iff_toInt_lt, show (0 : Int64).toInt = 0 by decide] at *
  have h0 : 0 ≤ (x &&& (9223372036854775807 : Int64)).toInt := by rw [h1]; exact Int.emod_nonneg _ (by decide)
  have h2 := Int64.toInt_lt q
  have h3 : ((x &&& (9223372036854775807 : Int64)) % q).toInt = (x &&& (9223372036854775807 : Int64)).toInt % q.toInt := by
    rw [Int64.toInt_mod]; exact Int.tmod_eq_emod_of_nonneg h0
  have h4 := Int.emod_nonneg (x &&& (9223372036854775807 : Int64)).toInt (by omega : q.toInt ≠ 0)
  have h5 := Int.emod_lt_of_pos (x &&& (9223372036854775807 : Int64)).toInt h
  rw [hv, Int64.toInt_add, h3, show (1 : Int64).toInt = 1 by decide, Int.bmod_eq_of_le (by omega) (by omega)]
  omega
theorem own_ipos (p : Int64) (h : (0 : Int64) < p) (h2 : ¬ ((16 : Int64) < p)) : ¬ ((p.toInt32) < 0) ∧ 1 ≤ (p.toInt32).toNatClampNeg ∧ (p.toInt32).toNatClampNeg ≤ 16 := by
  rw [Int64.lt_iff_toInt_lt, show (0 : Int64).toInt = 0 by decide] at h
  rw [Int64.lt_iff_toInt_lt, show (16 : Int64).toInt = 16 by decide] at h2
  have e : (p.toInt32).toInt = p.toInt := by rw [Int64.toInt_toInt32]; exact Int.bmod_eq_of_le (by omega) (by omega)
  rw [Int32.lt_iff_toInt_lt, show (0 : Int32).toInt = 0 by decide]
  simp only [Int32.toNatClampNeg]
  omega
theorem own_ineg (p : Int64) (h : p < (0 : Int64)) (h2 : ¬ (p < (-16 : Int64))) : ¬ (((-p).toInt32) < 0) ∧ 1 ≤ ((-p).toInt32).toNatClampNeg ∧ ((-p).toInt32).toNatClampNeg ≤ 16 := by
  rw [Int64.lt_iff_toInt_lt, show (0 : Int64).toInt = 0 by decide] at h
  rw [Int64.lt_iff_toInt_lt, show (-16 : Int64).toInt = -16 by decide] at h2
  have e0 : (-p).toInt = -p.toInt := by rw [Int64.toInt_neg]; exact Int.bmod_eq_of_le (by omega) (by omega)
  have e : ((-p).toInt32).toInt = -p.toInt := by rw [Int64.toInt_toInt32, e0]; exact Int.bmod_eq_of_le (by omega) (by omega)
  rw [Int32.lt_iff_toInt_lt, show (0 : Int32).toInt = 0 by decide]
  simp only [Int32.toNatClampNeg]
  omega
theorem own_b0 {i : Int32} (h : (0 : Int32) < i) : 0 ≤ i.toInt ∧ i.toInt ≤ 2147483647 := by
  rw [Int32.lt_iff_toInt_lt, show (0 : Int32).toInt = 0 by decide] at h
  have := Int32.toInt_lt i
  omega
theorem own_bs (k : Nat) (B B' : Int) {z x q : Int32} (hv : z = (x.toUInt32 >>> (q &&& 31).toUInt32).toInt32) (hk : q.toBitVec.toNat % 32 = k) (h0 : 0 < k) (hB : B / (2 ^ k : Nat) ≤ B') (hb : 0 ≤ x.toInt ∧ x.toInt ≤ B) : 0 ≤ z.toInt ∧ z.toInt ≤ B' := by
  have h1 := c_iushr x q k hk h0
  have h2 := Int32.toInt_lt x
  rw [← hv, Int.emod_eq_of_lt hb.1 (by omega)] at h1
  have h3 : (0 : Int) < (2 ^ k : Nat) := by have := Nat.two_pow_pos k; omega
  have h4 : x.toInt / (2 ^ k : Nat) ≤ B / (2 ^ k : Nat) := Int.ediv_le_ediv h3 hb.2
  have h5 : 0 ≤ x.toInt / (2 ^ k : Nat) := Int.ediv_nonneg hb.1 (Int.le_of_lt h3)
  rw [h1]
  exact ⟨h5, Int.le_trans h4 hB⟩
theorem own_bn (K : Int) {k i : Int32} {B : Int} (hK : k.toInt = K) (h : ¬ (k < i)) (hb : 0 ≤ i.toInt ∧ i.toInt ≤ B) : 0 ≤ i.toInt ∧ i.toInt ≤ K := by
  rw [Int32.lt_iff_toInt_lt] at h; omega
theorem own_nt5 (r : Int32) (h0 : 0 ≤ r.toInt) (h1 : r.toInt ≤ 33) : ((r.toUInt32 >>> ((5 : Int32) &&& 31).toUInt32).toInt32) = (0 : Int32) ∨ ((r.toUInt32 >>> ((5 : Int32) &&& 31).toUInt32).toInt32) = (1 : Int32) := by
  have h := c_iushr r 5 5 (by decide) (by decide)
  rw [Int.emod_eq_of_lt h0 (by omega), show ((2 ^ 5 : Nat) : Int) = 32 by decide] at h
  rw [← Int32.toInt_inj, ← Int32.toInt_inj, h, show (0 : Int32).toInt = 0 by decide, show (1 : Int32).toInt = 1 by decide]
  omega
theorem own_nt0 (x : Int32) : (((x &&& (32 : Int32)).toUInt32 >>> ((5 : Int32) &&& 31).toUInt32).toInt32) = (0 : Int32) ∨ (((x &&& (32 : Int32)).toUInt32 >>> ((5 : Int32) &&& 31).toUInt32).toInt32) = (1 : Int32) := by
  have h := c_and x 32 (by decide)
  have e : (32 : Int32).toInt = 32 := by decide
  exact own_nt5 _ h.1 (by omega)
theorem own_ntA (a b : Int32) (A B : Int) (h1 : A + B ≤ 33) (ha : 0 ≤ a.toInt ∧ a.toInt ≤ A) (hb : 0 ≤ b.toInt ∧ b.toInt ≤ B) : (((a + b).toUInt32 >>> ((5 : Int32) &&& 31).toUInt32).toInt32) = (0 : Int32) ∨ (((a + b).toUInt32 >>> ((5 : Int32) &&& 31).toUInt32).toInt32) = (1 : Int32) := by
  have e : (a + b).toInt = a.toInt + b.toInt := by rw [Int32.toInt_add]; exact Int.bmod_eq_of_le (by omega) (by omega)
  exact own_nt5 _ (by omega) (by omega)
theorem own_js (k : Nat) (B B' : Int) {i' i K q : Int32} (hv : i' = if K < i then (i.toUInt32 >>> (q &&& 31).toUInt32).toInt32 else i) (hk : q.toBitVec.toNat % 32 = k) (h0 : 0 < k) (hB : B / (2 ^ k : Nat) ≤ B') (hK : K.toInt ≤ B') (hb : 0 ≤ i.toInt ∧ i.toInt ≤ B) : 0 ≤ i'.toInt ∧ i'.toInt ≤ B' := by
  by_cases h : K < i
  · rw [if_pos h] at hv
    exact own_bs k B B' hv hk h0 hB hb
  · rw [if_neg h] at hv
    rw [Int32.lt_iff_toInt_lt] at h
    rw [hv]; omega
theorem own_jn (N : Int) {n' n2 n : Int32} {P : Prop} [Decidable P] (hv : n' = if P then n2 else n) (h2 : 0 ≤ n2.toInt ∧ n2.toInt ≤ N) (h : 0 ≤ n.toInt ∧ n.toInt ≤ N) : 0 ≤ n'.toInt ∧ n'.toInt ≤ N := by
  rw [hv]; split <;> assumption
theorem own_ja (A N M : Int) {n a : Int32} (ha : a.toInt = A) (hA : 0 ≤ A ∧ N + A ≤ M) (hM : M < 1000) (h : 0 ≤ n.toInt ∧ n.toInt ≤ N) : 0 ≤ (n + a).toInt ∧ (n + a).toInt ≤ M := by
  have e : (n + a).toInt = n.toInt + A := by rw [Int32.toInt_add, ha]; exact Int.bmod_eq_of_le (by omega) (by omega)
  omega
theorem own_jw {N : Int} (M : Int) {n : Int32} (hM : N ≤ M) (h : 0 ≤ n.toInt ∧ n.toInt ≤ N) : 0 ≤ n.toInt ∧ n.toInt ≤ M := ⟨h.1, Int.le_trans h.2 hM⟩
theorem own_z2 {z : Int32} (h : z = (1 : Int32) ∨ z = (2 : Int32)) : ¬ ((20 : Int32) < z) ∧ z < (80 : Int32) := by
  rcases h with rfl | rfl <;> decide
def own_O4 (z : Int32) : Prop := (z = (1 : Int32) ∨ z = (2 : Int32) ∨ z = (3 : Int32) ∨ z = (4 : Int32))
theorem own_o4 {z : Int32} (h : own_O4 z) : 1 ≤ z.toInt ∧ z.toInt ≤ 4 := by
  rcases h with rfl | rfl | rfl | rfl <;> decide
theorem own_z4 {z : Int32} (h : own_O4 z) : ¬ (z = (0 : Int32)) ∧ z < (67108864 : Int32) := by
  rcases h with rfl | rfl | rfl | rfl <;> decide
theorem own_z4f {z : Int32} (h : own_O4 z) : ¬ (z = (0 : Int32)) ∧ z < (67108864 : Int32) := own_z4 h
theorem own_z5f {z : Int32} (h : own_O4 z) : ¬ ((z + (1 : Int32)) = (0 : Int32)) ∧ (z + (1 : Int32)) < (67108864 : Int32) := by
  rcases h with rfl | rfl | rfl | rfl <;> decide
theorem own_z4c {z : Int32} (h : own_O4 z) : ¬ (z < 0) ∧ z.toNatClampNeg ≤ 4 := by
  rcases h with rfl | rfl | rfl | rfl <;> decide
theorem own_z5c {z : Int32} (h : own_O4 z) : ¬ ((z + (1 : Int32)) < 0) ∧ (z + (1 : Int32)).toNatClampNeg ≤ 5 := by
  rcases h with rfl | rfl | rfl | rfl <;> decide
theorem own_zcp {z : Int32} (h : own_O4 z) : (1 : Int32).toNatClampNeg + z.toNatClampNeg ≤ (z + (1 : Int32)).toNatClampNeg := by
  rcases h with rfl | rfl | rfl | rfl <;> decide
theorem own_zm1 {z : Int32} (h : own_O4 z) : ¬ ((z + (-1 : Int32)) < 0) ∧ (z + (-1 : Int32)) < z := by
  rcases h with rfl | rfl | rfl | rfl <;> decide
theorem own_z0 {z : Int32} (h : own_O4 z) : ¬ ((0 : Int32) < 0) ∧ (0 : Int32) < z := by
  rcases h with rfl | rfl | rfl | rfl <;> decide
theorem own_z5i {z : Int32} (h : own_O4 z) : ¬ ((0 : Int32) < 0) ∧ (0 : Int32) < (z + (1 : Int32)) := by
  rcases h with rfl | rfl | rfl | rfl <;> decide
theorem own_zb {z : Int32} (h : own_O4 z) : 0 ≤ (z + (-1 : Int32)).toInt ∧ (z + (-1 : Int32)).toInt ≤ z.toInt := by
  rcases h with rfl | rfl | rfl | rfl <;> decide
theorem own_tn {z : Int32} (h : own_O4 z) : z.toInt = ((z.toInt.toNat : Nat) : Int) := by have := own_o4 h; omega
theorem own_tz {z : Int32} (h : 0 ≤ z.toInt) : z.toInt = ((z.toInt.toNat : Nat) : Int) := by omega
theorem own_le1 {a b : Int32} (h : a < b) : a.toInt ≤ b.toInt := by rw [Int32.lt_iff_toInt_lt] at h; omega
theorem own_le0 {a b : Int32} (h : ¬ (a < b)) : b.toInt ≤ a.toInt := by rw [Int32.lt_iff_toInt_lt] at h; omega
theorem own_lt0 {a : Int32} (h : (0 : Int32) < a) : 0 < a.toInt := by rw [Int32.lt_iff_toInt_lt, show (0 : Int32).toInt = 0 by decide] at h; exact h
theorem own_dec {i : Int32} (h : 0 < i.toInt) : (i + (-1 : Int32)).toInt = i.toInt - 1 := by
  have := Int32.toInt_lt i
  rw [Int32.toInt_add, show (-1 : Int32).toInt = -1 by decide]
  exact Int.bmod_eq_of_le (by omega) (by omega)
theorem own_dn {i : Int32} {n : Nat} (h : 0 < i.toInt) (hn : i.toInt = (n : Int)) : (i + (-1 : Int32)).toInt = ((n - 1 : Nat) : Int) := by rw [own_dec h]; omega
theorem own_dle {i z : Int32} (h : 0 < i.toInt) (hz : i.toInt ≤ z.toInt) : (i + (-1 : Int32)).toInt ≤ z.toInt := by rw [own_dec h]; omega
theorem own_dd {i j : Int32} (h : 0 < i.toInt) (h' : 0 < j.toInt) (q : i.toInt ≤ j.toInt) : (i + (-1 : Int32)).toInt ≤ (j + (-1 : Int32)).toInt := by rw [own_dec h, own_dec h']; omega
theorem own_idx {i z : Int32} (h : 0 < i.toInt) (hz : i.toInt ≤ z.toInt) : ¬ ((i + (-1 : Int32)) < 0) ∧ (i + (-1 : Int32)) < z := by
  rw [Int32.lt_iff_toInt_lt, Int32.lt_iff_toInt_lt, own_dec h, show (0 : Int32).toInt = 0 by decide]; omega
theorem own_j16 {j : Nat} (h1 : 1 ≤ j) (h2 : j ≤ 16) : j = 1 ∨ j = 2 ∨ j = 3 ∨ j = 4 ∨ j = 5 ∨ j = 6 ∨ j = 7 ∨ j = 8 ∨ j = 9 ∨ j = 10 ∨ j = 11 ∨ j = 12 ∨ j = 13 ∨ j = 14 ∨ j = 15 ∨ j = 16 := by omega
theorem own_cplen (vd : List Value) (f : Nat → Value) (a n : Nat) (h : a + n ≤ vd.length) : (vd.take a ++ (List.range n).map f ++ vd.drop (a + n)).length = vd.length := by
  simp; omega
theorem own_inl {c : Cell} {z j : Int32} {vs : List Value} (hin : ¬ (j < 0 ∨ c.slots.size ≤ j.toNatClampNeg)) (S : c.slots.size = z.toNatClampNeg) (hl : z.toNatClampNeg ≤ vs.length) : j.toNatClampNeg < vs.length := by
  have := fun q => hin (Or.inr q); omega
theorem own_in17 {c : Cell} {j : Int32} (h : ¬ (j < 0)) (h2 : j.toNatClampNeg ≤ 16) (S : c.slots.size = 17) : ¬ (j < 0 ∨ c.slots.size ≤ j.toNatClampNeg) := by
  rintro (q | q)
  · exact h q
  · omega
theorem own_dupX2 {tb : Tables} [Ours tb] {e : Env} {below : List Frame} {T target : State} {m : MethodId} {c : Code} {g : JFrame} (h : At T m c below) (hx : tb.exec = Jvm.exec) (hg : g.method = m) {x y z : Value} {rest : List Value} (hd : decode c.code g.pc = .ok (.dup_x2, 1)) (hs : g.stack = x :: y :: z :: rest) (hc : x.category = 1) (hc' : y.category = 1) (hc'' : z.category = 1)
    (hr : Steps tb e below (T.setTop { g with pc := g.pc + 1, stack := x :: y :: z :: x :: rest }) target) : Steps tb e below (T.setTop g) target := by
  subst hg
  jvm_step h [h.top, hx, hd, dup_x2.wp_sem, hs, hc, hc', hc'']
  exact hr
section Arrays
variable {Z : State} {h : Heap} {a : Addr} {k : ClassId} {z : Int32} {vs : List Value} {d : Value}
theorem own_reZ {ty : FieldType} {z' : Int32} (q : z = z') (F : Arv Z h a k ty z vs d) : Arv Z h a k ty z' vs d := q ▸ F
theorem own_at {j : Int32} (F : Arv Z h a k .int z vs d) (q : ¬ (j < 0) ∧ j < z) : ∃ x : Int32, vs.getD j.toNatClampNeg d = .int x := by
  obtain ⟨c, A, q1, S, q3, H, G⟩ := F
  have hin := inb_of S q
  exact fit_I (G _ (Nat.lt_of_not_le fun y => hin (Or.inr y))) (Or.inl rfl)
theorem own_conc (F : Arv Z h a k .int z vs d) (n : Nat) (hn : z.toNatClampNeg = n) : ∃ xs : List Int32, xs.length = n ∧ Arv Z h a k .int z (xs.map Value.int) (.int (0 : Int32)) := by
  obtain ⟨c, A, q1, S, q3, H, G⟩ := F
  have hx : ∀ i, i < n → ∃ x : Int32, vs.getD i d = .int x := fun i hi => fit_I (G i (by omega)) (Or.inl rfl)
  have key : ∀ i, i < n → (((List.range n).map (fun i => match vs.getD i d with | .int x => x | _ => (0 : Int32))).map Value.int).getD i (.int (0 : Int32)) = vs.getD i d := by
    intro i hi
    obtain ⟨x, e⟩ := hx i hi
    rw [List.getD_eq_getElem?_getD, List.getElem?_map, List.getElem?_map, List.getElem?_range hi]
    show Value.int (match vs.getD i d with | .int x => x | _ => (0 : Int32)) = vs.getD i d
    rw [e]
  refine ⟨(List.range n).map (fun i => match vs.getD i d with | .int x => x | _ => (0 : Int32)), by simp, c, A, q1, S, q3, ?_, ?_⟩
  · intro i hi
    rw [key i (by omega)]
    exact H i hi
  · intro i hi
    rw [key i (by omega)]
    exact G i hi
theorem own_conc1 (F : Arv Z h a k .int (1 : Int32) vs d) : ∃ x0 : Int32, Arv Z h a k .int (1 : Int32) [.int x0] (.int (0 : Int32)) := by
  obtain ⟨xs, hl, V⟩ := own_conc F 1 (by decide)
  match xs, hl with
  | [x0], _ => exact ⟨x0, V⟩
theorem own_conc2 (F : Arv Z h a k .int (2 : Int32) vs d) : ∃ x0 x1 : Int32, Arv Z h a k .int (2 : Int32) [.int x0, .int x1] (.int (0 : Int32)) := by
  obtain ⟨xs, hl, V⟩ := own_conc F 2 (by decide)
  match xs, hl with
  | [x0, x1], _ => exact ⟨x0, x1, V⟩
theorem own_conc4 (F : Arv Z h a k .int (4 : Int32) vs d) : ∃ x0 x1 x2 x3 : Int32, Arv Z h a k .int (4 : Int32) [.int x0, .int x1, .int x2, .int x3] (.int (0 : Int32)) := by
  obtain ⟨xs, hl, V⟩ := own_conc F 4 (by decide)
  match xs, hl with
  | [x0, x1, x2, x3], _ => exact ⟨x0, x1, x2, x3, V⟩
end Arrays
section Start
variable {s : State} {args : Array Value} {t : Term}
theorem own_len {x : Addr} {cl : Cell} {ty : FieldType} {n : Int32} (h : (Cond.eq (.length t) (.int n)).value args s none s [] = some true) (ht : t.eval args s none [] s = some (.ref x)) (A : Arr s s.heap x cl ty) : cl.slots.size = n.toNatClampNeg := by
  have h1 := own_eqI h
  have ha : s.arrayAt? x = some cl := IntBox.arrayAt_of A.1 A.2.1 A.2.2
  by_cases hl : cl.slots.size < 2 ^ 31
  · rw [len_f ht ha hl] at h1
    have e : cl.slots.size.toInt32 = n := by cases h1; rfl
    rw [← e]; simp only [Int32.toNatClampNeg, len_toInt hl]; rfl
  · simp [Term.eval, ht, ha, hl] at h1
theorem own_big {sg n : Int32} (h1 : (Cond.exactly t "java/math/BigInteger").value args s none s [] = some true) (h2 : (Cond.eq (.field t "java/math/BigInteger" "signum" "I") (.int sg)).value args s none s [] = some true) (h3 : (Cond.arrayOf (.field t "java/math/BigInteger" "mag" "[I") .int).value args s none s [] = some true) (h4 : (Cond.eq (.length (.field t "java/math/BigInteger" "mag" "[I")) (.int n)).value args s none s [] = some true) :
    ∃ (b mg : Addr) (cl : Cell), t.eval args s none [] s = some (.ref b) ∧ Exa s s.heap b "java/math/BigInteger" ∧ Fld s s.heap b "java/math/BigInteger" "signum" "I" (.int sg) ∧ Fld s s.heap b "java/math/BigInteger" "mag" "[I" (.ref mg) ∧ (Term.field t "java/math/BigInteger" "mag" "[I").eval args s none [] s = some (.ref mg) ∧ Arr s s.heap mg cl .int ∧ cl.slots.size = n.toNatClampNeg := by
  obtain ⟨b, eb⟩ := exa_v h1
  obtain ⟨mg, em⟩ := arr_v h3
  obtain ⟨cl, A⟩ := Arr.start em h3
  exact ⟨b, mg, cl, eb, Exa.start eb h1, Fld.start ((fld_at eb).symm.trans (own_eqI h2)), Fld.start ((fld_at eb).symm.trans em), em, A, own_len h4 em A⟩
theorem own_bz (h1 : (Cond.exactly t "java/math/BigInteger").value args s none s [] = some true) (h2 : (Cond.eq (.field t "java/math/BigInteger" "signum" "I") (.int (0 : Int32))).value args s none s [] = some true) (h3 : (Cond.arrayOf (.field t "java/math/BigInteger" "mag" "[I") .int).value args s none s [] = some true) (h4 : (Cond.eq (.length (.field t "java/math/BigInteger" "mag" "[I")) (.int (0 : Int32))).value args s none s [] = some true) :
    ∃ (b mg : Addr) (kk : ClassId), t.eval args s none [] s = some (.ref b) ∧ Exa s s.heap b "java/math/BigInteger" ∧ Fld s s.heap b "java/math/BigInteger" "signum" "I" (.int (0 : Int32)) ∧ Fld s s.heap b "java/math/BigInteger" "mag" "[I" (.ref mg) ∧ Arv s s.heap mg kk .int (0 : Int32) [] (.int (0 : Int32)) := by
  obtain ⟨b, mg, cl, eb, E, F1, F2, em, A, S⟩ := own_big h1 h2 h3 h4
  have S0 : cl.slots.size = 0 := S
  exact ⟨b, mg, cl.cls, eb, E, F1, F2, cl, A, rfl, S, by decide, fun i hi => by omega, fun i hi => by omega⟩
theorem own_b1 {sg u : Int32} (h1 : (Cond.exactly t "java/math/BigInteger").value args s none s [] = some true) (h2 : (Cond.eq (.field t "java/math/BigInteger" "signum" "I") (.int sg)).value args s none s [] = some true) (h3 : (Cond.arrayOf (.field t "java/math/BigInteger" "mag" "[I") .int).value args s none s [] = some true) (h4 : (Cond.eq (.length (.field t "java/math/BigInteger" "mag" "[I")) (.int (1 : Int32))).value args s none s [] = some true) (h5 : (Cond.eq (.elem (.field t "java/math/BigInteger" "mag" "[I") (.int (0 : Int32))) (.int u)).value args s none s [] = some true) :
    ∃ (b mg : Addr) (kk : ClassId) (vs : List Value), t.eval args s none [] s = some (.ref b) ∧ Exa s s.heap b "java/math/BigInteger" ∧ Fld s s.heap b "java/math/BigInteger" "signum" "I" (.int sg) ∧ Fld s s.heap b "java/math/BigInteger" "mag" "[I" (.ref mg) ∧ Arv s s.heap mg kk .int (1 : Int32) vs (.int (0 : Int32)) := by
  obtain ⟨b, mg, cl, eb, E, F1, F2, em, A, S⟩ := own_big h1 h2 h3 h4
  have S1 : cl.slots.size = 1 := S
  have hu := (elem_in (own_eqI h5) em (Term.int_eval (0 : Int32)) A.1).2
  have hu0 : cl.slots[0]? = some (.int u) := hu
  refine ⟨b, mg, cl.cls, [.int u], eb, E, F1, F2, cl, A, rfl, S, by decide, fun i hi => ?_, fun i hi => ?_⟩
  · obtain rfl : i = 0 := by omega
    exact hu0
  · obtain rfl : i = 0 := by omega
    rfl
theorem own_ra {ty : FieldType} (h1 : (Cond.arrayOf t ty).value args s none s [] = some true) (h2 : (Cond.eq (.length t) (.int (17 : Int32))).value args s none s [] = some true) :
    ∃ (x : Addr) (cl : Cell), t.eval args s none [] s = some (.ref x) ∧ Arr s s.heap x cl ty ∧ cl.slots.size = 17 ∧ ∀ (j : Int32) (i : Nat), j.toNatClampNeg = i → ¬ (j < 0) → ∀ b : Addr, (Term.elem t (.int j)).eval args s none [] s = some (.ref b) → cl.slots[i]? = some (.ref b) := by
  obtain ⟨x, ex⟩ := arr_v h1
  obtain ⟨cl, A⟩ := Arr.start ex h1
  refine ⟨x, cl, ex, A, own_len h2 ex A, fun j i hj _ b hb => ?_⟩
  rw [← hj]
  exact (elem_in hb ex (Term.int_eval j) A.1).2
end Start
theorem own_irr (a : Int32) : ¬ (a < a) := by rw [Int32.lt_iff_toInt_lt]; omega

def own_PC (Z : State) (a : Addr) (q : Int32) : Prop := ∃ cell : Cell, Arr Z Z.heap a cell (.object "java/math/BigInteger") ∧ cell.slots.size = 17 ∧ ∀ j : Nat, 1 ≤ j → j ≤ 16 → ∃ (b mg : Addr) (kk : ClassId) (vs : List Value), cell.slots[j]? = some (.ref b) ∧ Exa Z Z.heap b "java/math/BigInteger" ∧ Fld Z Z.heap b "java/math/BigInteger" "signum" "I" (.int q) ∧ Fld Z Z.heap b "java/math/BigInteger" "mag" "[I" (.ref mg) ∧ Arv Z Z.heap mg kk .int (1 : Int32) vs (.int (0 : Int32))
def own_Gl (Z : State) (zr zm ps ng : Addr) (zk : ClassId) : Prop := Sta Z Z.heap "java/math/BigInteger" "ZERO" "Ljava/math/BigInteger;" (.ref zr) ∧ Exa Z Z.heap zr "java/math/BigInteger" ∧ Fld Z Z.heap zr "java/math/BigInteger" "signum" "I" (.int (0 : Int32)) ∧ Fld Z Z.heap zr "java/math/BigInteger" "mag" "[I" (.ref zm) ∧ Arv Z Z.heap zm zk .int (0 : Int32) [] (.int (0 : Int32)) ∧ Sta Z Z.heap "java/math/BigInteger" "posConst" "[Ljava/math/BigInteger;" (.ref ps) ∧ own_PC Z ps (1 : Int32) ∧ Sta Z Z.heap "java/math/BigInteger" "negConst" "[Ljava/math/BigInteger;" (.ref ng) ∧ own_PC Z ng (-1 : Int32)
theorem d28_161 : decode q28 161 = .ok (.iload_n 2, 1) := by decide +kernel
theorem d28_162 : decode q28 162 = .ok (.ifCond .le 16, 3) := by decide +kernel
theorem d28_165 : decode q28 165 = .ok (.aload 4, 2) := by decide +kernel
theorem d28_167 : decode q28 167 = .ok (.iinc 2 (-1), 3) := by decide +kernel
theorem d28_170 : decode q28 170 = .ok (.iload_n 2, 1) := by decide +kernel
theorem d28_171 : decode q28 171 = .ok (.aload_n 0, 1) := by decide +kernel
theorem d28_172 : decode q28 172 = .ok (.iload_n 2, 1) := by decide +kernel
theorem d28_173 : decode q28 173 = .ok (.iaload, 1) := by decide +kernel
theorem d28_174 : decode q28 174 = .ok (.iastore, 1) := by decide +kernel
theorem d28_175 : decode q28 175 = .ok (.goto (-14), 3) := by decide +kernel
theorem own_L161 {p : Program} {l : Launch} {e : Env} {R : Room} {s : State} {m : MethodId} {args : Array Value} {below : List Frame} {meth : Method} {c : Code} {cells slots : Nat} {Z : State} {a0 : Array Value} {n0 : Nat} (hx : p.tables.exec = Jvm.exec) (hZ : Z.Warmed39 s.vm) (hw : ∀ d ∈ tables_1, d.before a0 Z = true) (hby : c.code = jdk_2097_method_35_code) (hown : s.vm.findClass "java/math/BigInteger" = some m.cls) (x y r : Addr) (kx kr : ClassId) (zx yi : Int32) (sm : Int64) (cy : Int32) (lx : List Value) (hxr : x ≠ r) (gz_r : n0 ≤ r) (n : Nat) : ∀ (T0 : State) (locs : List Loc) (h0 : Heap) (xi : Int32) (lr : List Value),
    Stand p l e R s m args below meth c T0 locs cells slots → T0.heap = h0 → Fr n0 locs → Arv Z h0 x kx .int zx lx (.int (0 : Int32)) → Arv Z h0 r kr .int zx lr (.int (0 : Int32)) → zx.toNatClampNeg ≤ lr.length → xi.toInt = (n : Int) → xi.toInt ≤ zx.toInt →
    ∃ (T1 : State) (locs1 : List Loc) (h1 : Heap) (xo : Int32) (lo : List Value), Stand p l e R s m args below meth c T1 locs1 cells slots ∧ T1.heap = h1 ∧ Fr n0 locs1 ∧ Keep h0 h1 [r] ∧ Arv Z h1 r kr .int zx lo (.int (0 : Int32)) ∧ zx.toNatClampNeg ≤ lo.length ∧ ∀ t, FS p e below T1 m 178 #[oa x, oa y, oi xo, oi yi, oa r, oj sm, vS, oi cy, vU] [] t → FS p e below T0 m 161 #[oa x, oa y, oi xi, oi yi, oa r, oj sm, vS, oi cy, vU] [] t := by
  induction n using Nat.strongRecOn with
  | _ n ih =>
    intro T0 locs h0 xi lr X0 e0 N0 Vx Vr hl0 hn hxz
    have g0 : ∀ t, FS p e below T0 m 161 #[oa x, oa y, oi xi, oi yi, oa r, oj sm, vS, oi cy, vU] [] t → FS p e below T0 m 161 #[oa x, oa y, oi xi, oi yi, oa r, oj sm, vS, oi cy, vU] [] t := fun t k => k
    have g2 : ∀ t, FS p e below T0 m 162 #[oa x, oa y, oi xi, oi yi, oa r, oj sm, vS, oi cy, vU] [(.int xi)] t → FS p e below T0 m 161 #[oa x, oa y, oi xi, oi yi, oa r, oj sm, vS, oi cy, vU] [] t := by
      intro t k
      refine g0 t ?_
      show FS p e below T0 m 161 #[oa x, oa y, oi xi, oi yi, oa r, oj sm, vS, oi cy, vU] [] _
      refine XS.iloadN X0.here hx rfl (hb hby d28_161) rfl ?_
      exact k
    by_cases hc1 : (0 : Int32) < xi
    · have g3 : ∀ t, FS p e below T0 m 165 #[oa x, oa y, oi xi, oi yi, oa r, oj sm, vS, oi cy, vU] [] t → FS p e below T0 m 161 #[oa x, oa y, oi xi, oi yi, oa r, oj sm, vS, oi cy, vU] [] t := by
        intro t k
        refine g2 t ?_
        show FS p e below T0 m 162 #[oa x, oa y, oi xi, oi yi, oa r, oj sm, vS, oi cy, vU] [(.int xi)] _
        refine XS.ifNo X0.here hx rfl (hb hby d28_162) rfl ((if0 _ _).trans (tlt hc1).2.2.2) ?_
        exact k
      have hp := own_lt0 hc1
      obtain ⟨ax5, ha5⟩ := own_at Vx (own_idx hp hxz)
      obtain ⟨c4, Ar4, cq4, S4, Nn4, Hh4, Gg4⟩ := id Vx
      have hin4 : ¬ ((xi + (-1 : Int32)) < 0 ∨ c4.slots.size ≤ ((xi + (-1 : Int32))).toNatClampNeg) := inb_of S4 (own_idx hp hxz)
      have hat4 : c4.slots[((xi + (-1 : Int32))).toNatClampNeg]? = some (.int ax5) := Has.at Hh4 hin4 ha5
      obtain ⟨c6, Ar6, cq6, S6, Nn6, Hh6, Gg6⟩ := id Vr
      have hin6 : ¬ ((xi + (-1 : Int32)) < 0 ∨ c6.slots.size ≤ ((xi + (-1 : Int32))).toNatClampNeg) := inb_of S6 (own_idx hp hxz)
      obtain ⟨T7, h7, X7, e7, W7, st7⟩ := stI X0 hx hZ e0 Ar6 (j := (xi + (-1 : Int32))) hin6 (g := (mkF m 174 #[oa x, oa y, .val (.int (xi + (-1 : Int32))), oi yi, oa r, oj sm, vS, oi cy, vU] [(.int ax5), (.int (xi + (-1 : Int32))), (.ref r)])) rfl rfl (hb hby d28_174)
      obtain ⟨vl7, V7a, hl7⟩ : ∃ q : List Value, Arv Z h7 r kr .int zx q (.int (0 : Int32)) ∧ (zx).toNatClampNeg ≤ q.length := ⟨_, Arv.set Ar6 cq6 S6 Nn6 Hh6 Gg6 rfl W7 _ rfl (own_inl hin6 S6 hl0), by rw [List.length_set]; exact hl0⟩
      have N7 := Fr.snoc X7 N0 gz_r
      have f8 := (Vx.other W7 hxr)
      obtain ⟨T9, L9, h9, xo9, lo9, X9, e9, N9, K9, V9, hl9, st9⟩ := ih (n - 1) (by omega) _ _ _ (xi + (-1 : Int32)) _ X7 e7 N7 f8 V7a hl7 (own_dn hp hn) (own_dle hp hxz)
      have g10 : ∀ t, FS p e below T9 m 178 #[oa x, oa y, oi xo9, oi yi, oa r, oj sm, vS, oi cy, vU] [] t → FS p e below T0 m 161 #[oa x, oa y, oi xi, oi yi, oa r, oj sm, vS, oi cy, vU] [] t := by
        intro t k
        refine g3 t ?_
        show FS p e below T0 m 165 #[oa x, oa y, oi xi, oi yi, oa r, oj sm, vS, oi cy, vU] [] _
        refine XS.aload X0.here hx rfl (hb hby d28_165) rfl rfl ?_
        refine XS.iinc X0.here hx rfl (hb hby d28_167) rfl (l' := #[oa x, oa y, .val (.int (xi + (-1 : Int32))), oi yi, oa r, oj sm, vS, oi cy, vU]) rfl ?_
        refine XS.iloadN X0.here hx rfl (hb hby d28_170) rfl ?_
        refine XS.aloadN X0.here hx rfl (hb hby d28_171) rfl rfl ?_
        refine XS.iloadN X0.here hx rfl (hb hby d28_172) rfl ?_
        refine X0.iaload hx (j := (xi + (-1 : Int32))) (v := (.int ax5)) (by rw [e0]; exact Ar4.1) (State.isArrayOf_alike hZ.alike Ar4.2.1) Ar4.2.2 hin4 hat4 (g := (mkF m 173 #[oa x, oa y, .val (.int (xi + (-1 : Int32))), oi yi, oa r, oj sm, vS, oi cy, vU] [(.int (xi + (-1 : Int32))), (.ref x), (.int (xi + (-1 : Int32))), (.ref r)])) rfl rfl (hb hby d28_173) _ ?_
        refine st7 _ ?_
        refine XS.goto X7.here hx rfl (pc0 := 175) (pc' := 161) rfl (hb hby d28_175) (by decide) (by decide) ?_
        show FS p e below T7 m 161 #[oa x, oa y, .val (.int (xi + (-1 : Int32))), oi yi, oa r, oj sm, vS, oi cy, vU] [] _
        refine st9 _ ?_
        exact k
      exact ⟨_, _, _, xo9, _, X9, e9, N9, (Keep.trans (Keep.wr (Keep.refl h0 [r]) W7 (Or.inl (List.mem_of_getElem? (i := 0) rfl))) K9 (allS (Or.inl (List.mem_of_getElem? (i := 0) rfl)) all0)), V9, hl9, g10⟩
    · have g11 : ∀ t, FS p e below T0 m 178 #[oa x, oa y, oi xi, oi yi, oa r, oj sm, vS, oi cy, vU] [] t → FS p e below T0 m 161 #[oa x, oa y, oi xi, oi yi, oa r, oj sm, vS, oi cy, vU] [] t := by
        intro t k
        refine g2 t ?_
        show FS p e below T0 m 162 #[oa x, oa y, oi xi, oi yi, oa r, oj sm, vS, oi cy, vU] [(.int xi)] _
        refine XS.ifYes X0.here hx rfl (pc0 := 162) (pc' := 178) rfl (hb hby d28_162) rfl ((if0 _ _).trans (flt hc1).2.2.2) (by decide) (by decide) ?_
        exact k
      exact ⟨_, _, _, xi, _, X0, e0, N0, (Keep.refl h0 [r]), Vr, hl0, g11⟩
theorem d28_126 : decode q28 126 = .ok (.iload_n 2, 1) := by decide +kernel
theorem d28_127 : decode q28 127 = .ok (.ifCond .le 34, 3) := by decide +kernel
theorem d28_130 : decode q28 130 = .ok (.iload 7, 2) := by decide +kernel
theorem d28_132 : decode q28 132 = .ok (.ifCond .eq 29, 3) := by decide +kernel
theorem d28_135 : decode q28 135 = .ok (.aload 4, 2) := by decide +kernel
theorem d28_137 : decode q28 137 = .ok (.iinc 2 (-1), 3) := by decide +kernel
theorem d28_140 : decode q28 140 = .ok (.iload_n 2, 1) := by decide +kernel
theorem d28_141 : decode q28 141 = .ok (.aload_n 0, 1) := by decide +kernel
theorem d28_142 : decode q28 142 = .ok (.iload_n 2, 1) := by decide +kernel
theorem d28_143 : decode q28 143 = .ok (.iaload, 1) := by decide +kernel
theorem d28_144 : decode q28 144 = .ok (.iconst 1, 1) := by decide +kernel
theorem d28_145 : decode q28 145 = .ok (.iadd, 1) := by decide +kernel
theorem d28_146 : decode q28 146 = .ok (.dup_x2, 1) := by decide +kernel
theorem d28_147 : decode q28 147 = .ok (.iastore, 1) := by decide +kernel
theorem d28_148 : decode q28 148 = .ok (.ifCond .ne 7, 3) := by decide +kernel
theorem d28_151 : decode q28 151 = .ok (.iconst 1, 1) := by decide +kernel
theorem d28_152 : decode q28 152 = .ok (.goto 4, 3) := by decide +kernel
theorem d28_155 : decode q28 155 = .ok (.iconst 0, 1) := by decide +kernel
theorem d28_156 : decode q28 156 = .ok (.istore 7, 2) := by decide +kernel
theorem d28_158 : decode q28 158 = .ok (.goto (-32), 3) := by decide +kernel
theorem own_L126 {p : Program} {l : Launch} {e : Env} {R : Room} {s : State} {m : MethodId} {args : Array Value} {below : List Frame} {meth : Method} {c : Code} {cells slots : Nat} {Z : State} {a0 : Array Value} {n0 : Nat} (hx : p.tables.exec = Jvm.exec) (hZ : Z.Warmed39 s.vm) (hw : ∀ d ∈ tables_1, d.before a0 Z = true) (hby : c.code = jdk_2097_method_35_code) (hown : s.vm.findClass "java/math/BigInteger" = some m.cls) (x y r : Addr) (kx kr : ClassId) (zx yi : Int32) (sm : Int64) (lx : List Value) (hxr : x ≠ r) (gz_r : n0 ≤ r) (n : Nat) : ∀ (T0 : State) (locs : List Loc) (h0 : Heap) (xi cy : Int32) (lr : List Value),
    Stand p l e R s m args below meth c T0 locs cells slots → T0.heap = h0 → Fr n0 locs → Arv Z h0 x kx .int zx lx (.int (0 : Int32)) → Arv Z h0 r kr .int zx lr (.int (0 : Int32)) → zx.toNatClampNeg ≤ lr.length → xi.toInt = (n : Int) → xi.toInt ≤ zx.toInt →
    ∃ (T1 : State) (locs1 : List Loc) (h1 : Heap) (xo : Int32) (co : Int32) (lo : List Value), Stand p l e R s m args below meth c T1 locs1 cells slots ∧ T1.heap = h1 ∧ Fr n0 locs1 ∧ Keep h0 h1 [r] ∧ Arv Z h1 r kr .int zx lo (.int (0 : Int32)) ∧ zx.toNatClampNeg ≤ lo.length ∧ ∀ t, FS p e below T1 m 178 #[oa x, oa y, oi xo, oi yi, oa r, oj sm, vS, oi co, vU] [] t → FS p e below T0 m 126 #[oa x, oa y, oi xi, oi yi, oa r, oj sm, vS, oi cy, vU] [] t := by
  induction n using Nat.strongRecOn with
  | _ n ih =>
    intro T0 locs h0 xi cy lr X0 e0 N0 Vx Vr hl0 hn hxz
    have g0 : ∀ t, FS p e below T0 m 126 #[oa x, oa y, oi xi, oi yi, oa r, oj sm, vS, oi cy, vU] [] t → FS p e below T0 m 126 #[oa x, oa y, oi xi, oi yi, oa r, oj sm, vS, oi cy, vU] [] t := fun t k => k
    have g2 : ∀ t, FS p e below T0 m 127 #[oa x, oa y, oi xi, oi yi, oa r, oj sm, vS, oi cy, vU] [(.int xi)] t → FS p e below T0 m 126 #[oa x, oa y, oi xi, oi yi, oa r, oj sm, vS, oi cy, vU] [] t := by
      intro t k
      refine g0 t ?_
      show FS p e below T0 m 126 #[oa x, oa y, oi xi, oi yi, oa r, oj sm, vS, oi cy, vU] [] _
      refine XS.iloadN X0.here hx rfl (hb hby d28_126) rfl ?_
      exact k
    by_cases hc1 : (0 : Int32) < xi
    · have g4 : ∀ t, FS p e below T0 m 132 #[oa x, oa y, oi xi, oi yi, oa r, oj sm, vS, oi cy, vU] [(.int cy)] t → FS p e below T0 m 126 #[oa x, oa y, oi xi, oi yi, oa r, oj sm, vS, oi cy, vU] [] t := by
        intro t k
        refine g2 t ?_
        show FS p e below T0 m 127 #[oa x, oa y, oi xi, oi yi, oa r, oj sm, vS, oi cy, vU] [(.int xi)] _
        refine XS.ifNo X0.here hx rfl (hb hby d28_127) rfl ((if0 _ _).trans (tlt hc1).2.2.2) ?_
        refine XS.iload X0.here hx rfl (hb hby d28_130) rfl ?_
        exact k
      by_cases hc3 : cy = (0 : Int32)
      · obtain ⟨T5, L5, h5, xo5, lo5, X5, e5, N5, K5, V5, hl5, st5⟩ := own_L161 hx hZ hw hby hown x y r kx kr zx yi sm cy lx hxr gz_r n _ _ _ xi _ X0 e0 N0 Vx Vr hl0 hn hxz
        have g6 : ∀ t, FS p e below T5 m 178 #[oa x, oa y, oi xo5, oi yi, oa r, oj sm, vS, oi cy, vU] [] t → FS p e below T0 m 126 #[oa x, oa y, oi xi, oi yi, oa r, oj sm, vS, oi cy, vU] [] t := by
          intro t k
          refine g4 t ?_
          show FS p e below T0 m 132 #[oa x, oa y, oi xi, oi yi, oa r, oj sm, vS, oi cy, vU] [(.int cy)] _
          refine XS.ifYes X0.here hx rfl (pc0 := 132) (pc' := 161) rfl (hb hby d28_132) rfl ((if0 _ _).trans (teq hc3).1) (by decide) (by decide) ?_
          refine st5 _ ?_
          exact k
        exact ⟨_, _, _, xo5, cy, _, X5, e5, N5, (Keep.trans (Keep.refl h0 [r]) K5 (allS (Or.inl (List.mem_of_getElem? (i := 0) rfl)) all0)), V5, hl5, g6⟩
      · have g7 : ∀ t, FS p e below T0 m 135 #[oa x, oa y, oi xi, oi yi, oa r, oj sm, vS, oi cy, vU] [] t → FS p e below T0 m 126 #[oa x, oa y, oi xi, oi yi, oa r, oj sm, vS, oi cy, vU] [] t := by
          intro t k
          refine g4 t ?_
          show FS p e below T0 m 132 #[oa x, oa y, oi xi, oi yi, oa r, oj sm, vS, oi cy, vU] [(.int cy)] _
          refine XS.ifNo X0.here hx rfl (hb hby d28_132) rfl ((if0 _ _).trans (feq hc3).1) ?_
          exact k
        have hp := own_lt0 hc1
        obtain ⟨ax9, ha9⟩ := own_at Vx (own_idx hp hxz)
        obtain ⟨c8, Ar8, cq8, S8, Nn8, Hh8, Gg8⟩ := id Vx
        have hin8 : ¬ ((xi + (-1 : Int32)) < 0 ∨ c8.slots.size ≤ ((xi + (-1 : Int32))).toNatClampNeg) := inb_of S8 (own_idx hp hxz)
        have hat8 : c8.slots[((xi + (-1 : Int32))).toNatClampNeg]? = some (.int ax9) := Has.at Hh8 hin8 ha9
        obtain ⟨c10, Ar10, cq10, S10, Nn10, Hh10, Gg10⟩ := id Vr
        have hin10 : ¬ ((xi + (-1 : Int32)) < 0 ∨ c10.slots.size ≤ ((xi + (-1 : Int32))).toNatClampNeg) := inb_of S10 (own_idx hp hxz)
        obtain ⟨T11, h11, X11, e11, W11, st11⟩ := stI X0 hx hZ e0 Ar10 (j := (xi + (-1 : Int32))) hin10 (g := (mkF m 147 #[oa x, oa y, .val (.int (xi + (-1 : Int32))), oi yi, oa r, oj sm, vS, oi cy, vU] [(.int (ax9 + (1 : Int32))), (.int (xi + (-1 : Int32))), (.ref r), (.int (ax9 + (1 : Int32)))])) rfl rfl (hb hby d28_147)
        obtain ⟨vl11, V11a, hl11⟩ : ∃ q : List Value, Arv Z h11 r kr .int zx q (.int (0 : Int32)) ∧ (zx).toNatClampNeg ≤ q.length := ⟨_, Arv.set Ar10 cq10 S10 Nn10 Hh10 Gg10 rfl W11 _ rfl (own_inl hin10 S10 hl0), by rw [List.length_set]; exact hl0⟩
        have N11 := Fr.snoc X11 N0 gz_r
        have g12 : ∀ t, FS p e below T11 m 148 #[oa x, oa y, .val (.int (xi + (-1 : Int32))), oi yi, oa r, oj sm, vS, oi cy, vU] [(.int (ax9 + (1 : Int32)))] t → FS p e below T0 m 126 #[oa x, oa y, oi xi, oi yi, oa r, oj sm, vS, oi cy, vU] [] t := by
          intro t k
          refine g7 t ?_
          show FS p e below T0 m 135 #[oa x, oa y, oi xi, oi yi, oa r, oj sm, vS, oi cy, vU] [] _
          refine XS.aload X0.here hx rfl (hb hby d28_135) rfl rfl ?_
          refine XS.iinc X0.here hx rfl (hb hby d28_137) rfl (l' := #[oa x, oa y, .val (.int (xi + (-1 : Int32))), oi yi, oa r, oj sm, vS, oi cy, vU]) rfl ?_
          refine XS.iloadN X0.here hx rfl (hb hby d28_140) rfl ?_
          refine XS.aloadN X0.here hx rfl (hb hby d28_141) rfl rfl ?_
          refine XS.iloadN X0.here hx rfl (hb hby d28_142) rfl ?_
          refine X0.iaload hx (j := (xi + (-1 : Int32))) (v := (.int ax9)) (by rw [e0]; exact Ar8.1) (State.isArrayOf_alike hZ.alike Ar8.2.1) Ar8.2.2 hin8 hat8 (g := (mkF m 143 #[oa x, oa y, .val (.int (xi + (-1 : Int32))), oi yi, oa r, oj sm, vS, oi cy, vU] [(.int (xi + (-1 : Int32))), (.ref x), (.int (xi + (-1 : Int32))), (.ref r)])) rfl rfl (hb hby d28_143) _ ?_
          refine XS.iconst X0.here hx rfl (hb hby d28_144) ?_
          refine XS.iadd X0.here hx rfl (hb hby d28_145) rfl ?_
          show FS p e below T0 m 146 #[oa x, oa y, .val (.int (xi + (-1 : Int32))), oi yi, oa r, oj sm, vS, oi cy, vU] [(.int (ax9 + (1 : Int32))), (.int (xi + (-1 : Int32))), (.ref r)] _
          refine own_dupX2 X0.here hx rfl (hb hby d28_146) rfl rfl rfl rfl ?_
          refine st11 _ ?_
          exact k
        obtain ⟨cz, hv_cz⟩ : ∃ z : Int32, z = (if (ax9 + (1 : Int32)) = (0 : Int32) then (1 : Int32) else (0 : Int32)) := ⟨_, rfl⟩
        have g14 : ∀ t, FS p e below T11 m 156 #[oa x, oa y, .val (.int (xi + (-1 : Int32))), oi yi, oa r, oj sm, vS, oi cy, vU] [(.int cz)] t → FS p e below T0 m 126 #[oa x, oa y, oi xi, oi yi, oa r, oj sm, vS, oi cy, vU] [] t := by
          intro t k
          by_cases hc13 : (ax9 + (1 : Int32)) = (0 : Int32)
          · rw [if_pos hc13] at hv_cz; rw [hv_cz] at k
            refine g12 t ?_
            show FS p e below T11 m 148 #[oa x, oa y, .val (.int (xi + (-1 : Int32))), oi yi, oa r, oj sm, vS, oi cy, vU] [(.int (ax9 + (1 : Int32)))] _
            refine XS.ifNo X11.here hx rfl (hb hby d28_148) rfl ((if0 _ _).trans (teq hc13).2) ?_
            refine XS.iconst X11.here hx rfl (hb hby d28_151) ?_
            refine XS.goto X11.here hx rfl (pc0 := 152) (pc' := 156) rfl (hb hby d28_152) (by decide) (by decide) ?_
            exact k
          · rw [if_neg hc13] at hv_cz; rw [hv_cz] at k
            refine g12 t ?_
            show FS p e below T11 m 148 #[oa x, oa y, .val (.int (xi + (-1 : Int32))), oi yi, oa r, oj sm, vS, oi cy, vU] [(.int (ax9 + (1 : Int32)))] _
            refine XS.ifYes X11.here hx rfl (pc0 := 148) (pc' := 155) rfl (hb hby d28_148) rfl ((if0 _ _).trans (feq hc13).2) (by decide) (by decide) ?_
            refine XS.iconst X11.here hx rfl (hb hby d28_155) ?_
            exact k
        have f15 := (Vx.other W11 hxr)
        obtain ⟨T16, L16, h16, xo16, co16, lo16, X16, e16, N16, K16, V16, hl16, st16⟩ := ih (n - 1) (by omega) _ _ _ (xi + (-1 : Int32)) cz _ X11 e11 N11 f15 V11a hl11 (own_dn hp hn) (own_dle hp hxz)
        have g17 : ∀ t, FS p e below T16 m 178 #[oa x, oa y, oi xo16, oi yi, oa r, oj sm, vS, oi co16, vU] [] t → FS p e below T0 m 126 #[oa x, oa y, oi xi, oi yi, oa r, oj sm, vS, oi cy, vU] [] t := by
          intro t k
          refine g14 t ?_
          show FS p e below T11 m 156 #[oa x, oa y, .val (.int (xi + (-1 : Int32))), oi yi, oa r, oj sm, vS, oi cy, vU] [(.int cz)] _
          refine XS.istore X11.here hx rfl (hb hby d28_156) rfl (l' := #[oa x, oa y, .val (.int (xi + (-1 : Int32))), oi yi, oa r, oj sm, vS, oi cz, vU]) rfl ?_
          refine XS.goto X11.here hx rfl (pc0 := 158) (pc' := 126) rfl (hb hby d28_158) (by decide) (by decide) ?_
          refine st16 _ ?_
          exact k
        exact ⟨_, _, _, xo16, co16, _, X16, e16, N16, (Keep.trans (Keep.wr (Keep.refl h0 [r]) W11 (Or.inl (List.mem_of_getElem? (i := 0) rfl))) K16 (allS (Or.inl (List.mem_of_getElem? (i := 0) rfl)) all0)), V16, hl16, g17⟩
    · obtain ⟨T18, L18, h18, xo18, lo18, X18, e18, N18, K18, V18, hl18, st18⟩ := own_L161 hx hZ hw hby hown x y r kx kr zx yi sm cy lx hxr gz_r n _ _ _ xi _ X0 e0 N0 Vx Vr hl0 hn hxz
      have g19 : ∀ t, FS p e below T18 m 178 #[oa x, oa y, oi xo18, oi yi, oa r, oj sm, vS, oi cy, vU] [] t → FS p e below T0 m 126 #[oa x, oa y, oi xi, oi yi, oa r, oj sm, vS, oi cy, vU] [] t := by
        intro t k
        refine g2 t ?_
        show FS p e below T0 m 127 #[oa x, oa y, oi xi, oi yi, oa r, oj sm, vS, oi cy, vU] [(.int xi)] _
        refine XS.ifYes X0.here hx rfl (pc0 := 127) (pc' := 161) rfl (hb hby d28_127) rfl ((if0 _ _).trans (flt hc1).2.2.2) (by decide) (by decide) ?_
        refine st18 _ ?_
        exact k
      exact ⟨_, _, _, xo18, cy, _, X18, e18, N18, (Keep.trans (Keep.refl h0 [r]) K18 (allS (Or.inl (List.mem_of_getElem? (i := 0) rfl)) all0)), V18, hl18, g19⟩
theorem d28_64 : decode q28 64 = .ok (.iload_n 3, 1) := by decide +kernel
theorem d28_65 : decode q28 65 = .ok (.ifCond .le 44, 3) := by decide +kernel
theorem d28_68 : decode q28 68 = .ok (.aload_n 0, 1) := by decide +kernel
theorem d28_69 : decode q28 69 = .ok (.iinc 2 (-1), 3) := by decide +kernel
theorem d28_72 : decode q28 72 = .ok (.iload_n 2, 1) := by decide +kernel
theorem d28_73 : decode q28 73 = .ok (.iaload, 1) := by decide +kernel
theorem d28_74 : decode q28 74 = .ok (.i2l, 1) := by decide +kernel
theorem d28_75 : decode q28 75 = .ok (.ldc2_w 130, 3) := by decide +kernel
theorem d28_78 : decode q28 78 = .ok (.land, 1) := by decide +kernel
theorem d28_79 : decode q28 79 = .ok (.aload_n 1, 1) := by decide +kernel
theorem d28_80 : decode q28 80 = .ok (.iinc 3 (-1), 3) := by decide +kernel
theorem d28_83 : decode q28 83 = .ok (.iload_n 3, 1) := by decide +kernel
theorem d28_84 : decode q28 84 = .ok (.iaload, 1) := by decide +kernel
theorem d28_85 : decode q28 85 = .ok (.i2l, 1) := by decide +kernel
theorem d28_86 : decode q28 86 = .ok (.ldc2_w 130, 3) := by decide +kernel
theorem d28_89 : decode q28 89 = .ok (.land, 1) := by decide +kernel
theorem d28_90 : decode q28 90 = .ok (.ladd, 1) := by decide +kernel
theorem d28_91 : decode q28 91 = .ok (.lload 5, 2) := by decide +kernel
theorem d28_93 : decode q28 93 = .ok (.bipush 32, 2) := by decide +kernel
theorem d28_95 : decode q28 95 = .ok (.lushr, 1) := by decide +kernel
theorem d28_96 : decode q28 96 = .ok (.ladd, 1) := by decide +kernel
theorem d28_97 : decode q28 97 = .ok (.lstore 5, 2) := by decide +kernel
theorem d28_99 : decode q28 99 = .ok (.aload 4, 2) := by decide +kernel
theorem d28_101 : decode q28 101 = .ok (.iload_n 2, 1) := by decide +kernel
theorem d28_102 : decode q28 102 = .ok (.lload 5, 2) := by decide +kernel
theorem d28_104 : decode q28 104 = .ok (.l2i, 1) := by decide +kernel
theorem d28_105 : decode q28 105 = .ok (.iastore, 1) := by decide +kernel
theorem d28_106 : decode q28 106 = .ok (.goto (-42), 3) := by decide +kernel
theorem own_L64 {p : Program} {l : Launch} {e : Env} {R : Room} {s : State} {m : MethodId} {args : Array Value} {below : List Frame} {meth : Method} {c : Code} {cells slots : Nat} {Z : State} {a0 : Array Value} {n0 : Nat} (hx : p.tables.exec = Jvm.exec) (hZ : Z.Warmed39 s.vm) (hw : ∀ d ∈ tables_1, d.before a0 Z = true) (hby : c.code = jdk_2097_method_35_code) (hown : s.vm.findClass "java/math/BigInteger" = some m.cls) (x y r : Addr) (kx ky kr : ClassId) (zx zy : Int32) (lx ly : List Value) (hxr : x ≠ r) (hyr : y ≠ r) (gz_r : n0 ≤ r) (n : Nat) : ∀ (T0 : State) (locs : List Loc) (h0 : Heap) (xi yi : Int32) (sm : Int64) (lr : List Value),
    Stand p l e R s m args below meth c T0 locs cells slots → T0.heap = h0 → Fr n0 locs → Arv Z h0 x kx .int zx lx (.int (0 : Int32)) → Arv Z h0 y ky .int zy ly (.int (0 : Int32)) → Arv Z h0 r kr .int zx lr (.int (0 : Int32)) → zx.toNatClampNeg ≤ lr.length → yi.toInt = (n : Int) → yi.toInt ≤ xi.toInt → xi.toInt ≤ zx.toInt → yi.toInt ≤ zy.toInt →
    ∃ (T1 : State) (locs1 : List Loc) (h1 : Heap) (xo : Int32) (yo : Int32) (so : Int64) (lo : List Value), Stand p l e R s m args below meth c T1 locs1 cells slots ∧ T1.heap = h1 ∧ Fr n0 locs1 ∧ Keep h0 h1 [r] ∧ Arv Z h1 r kr .int zx lo (.int (0 : Int32)) ∧ zx.toNatClampNeg ≤ lo.length ∧ (0 ≤ xo.toInt ∧ xo.toInt ≤ zx.toInt) ∧ ∀ t, FS p e below T1 m 109 #[oa x, oa y, oi xo, oi yo, oa r, oj so, vS, vU, vU] [] t → FS p e below T0 m 64 #[oa x, oa y, oi xi, oi yi, oa r, oj sm, vS, vU, vU] [] t := by
  induction n using Nat.strongRecOn with
  | _ n ih =>
    intro T0 locs h0 xi yi sm lr X0 e0 N0 Vx Vy Vr hl0 hn hyx hxz hyz
    have g0 : ∀ t, FS p e below T0 m 64 #[oa x, oa y, oi xi, oi yi, oa r, oj sm, vS, vU, vU] [] t → FS p e below T0 m 64 #[oa x, oa y, oi xi, oi yi, oa r, oj sm, vS, vU, vU] [] t := fun t k => k
    have g2 : ∀ t, FS p e below T0 m 65 #[oa x, oa y, oi xi, oi yi, oa r, oj sm, vS, vU, vU] [(.int yi)] t → FS p e below T0 m 64 #[oa x, oa y, oi xi, oi yi, oa r, oj sm, vS, vU, vU] [] t := by
      intro t k
      refine g0 t ?_
      show FS p e below T0 m 64 #[oa x, oa y, oi xi, oi yi, oa r, oj sm, vS, vU, vU] [] _
      refine XS.iloadN X0.here hx rfl (hb hby d28_64) rfl ?_
      exact k
    by_cases hc1 : (0 : Int32) < yi
    · have g3 : ∀ t, FS p e below T0 m 68 #[oa x, oa y, oi xi, oi yi, oa r, oj sm, vS, vU, vU] [] t → FS p e below T0 m 64 #[oa x, oa y, oi xi, oi yi, oa r, oj sm, vS, vU, vU] [] t := by
        intro t k
        refine g2 t ?_
        show FS p e below T0 m 65 #[oa x, oa y, oi xi, oi yi, oa r, oj sm, vS, vU, vU] [(.int yi)] _
        refine XS.ifNo X0.here hx rfl (hb hby d28_65) rfl ((if0 _ _).trans (tlt hc1).2.2.2) ?_
        exact k
      have hq := own_lt0 hc1
      have hp : 0 < xi.toInt := by omega
      obtain ⟨ax5, ha5⟩ := own_at Vx (own_idx hp hxz)
      obtain ⟨c4, Ar4, cq4, S4, Nn4, Hh4, Gg4⟩ := id Vx
      have hin4 : ¬ ((xi + (-1 : Int32)) < 0 ∨ c4.slots.size ≤ ((xi + (-1 : Int32))).toNatClampNeg) := inb_of S4 (own_idx hp hxz)
      have hat4 : c4.slots[((xi + (-1 : Int32))).toNatClampNeg]? = some (.int ax5) := Has.at Hh4 hin4 ha5
      obtain ⟨ax7, ha7⟩ := own_at Vy (own_idx hq hyz)
      obtain ⟨c6, Ar6, cq6, S6, Nn6, Hh6, Gg6⟩ := id Vy
      have hin6 : ¬ ((yi + (-1 : Int32)) < 0 ∨ c6.slots.size ≤ ((yi + (-1 : Int32))).toNatClampNeg) := inb_of S6 (own_idx hq hyz)
      have hat6 : c6.slots[((yi + (-1 : Int32))).toNatClampNeg]? = some (.int ax7) := Has.at Hh6 hin6 ha7
      obtain ⟨sq, hv_sq⟩ : ∃ z : Int64, z = ((((ax5.toInt64) &&& (4294967295 : Int64)) + ((ax7.toInt64) &&& (4294967295 : Int64))) + ((sm.toUInt64 >>> ((32 : Int32) &&& 0x3f).toInt64.toUInt64).toInt64)) := ⟨_, rfl⟩
      have g8 : ∀ t, FS p e below T0 m 97 #[oa x, oa y, .val (.int (xi + (-1 : Int32))), .val (.int (yi + (-1 : Int32))), oa r, oj sm, vS, vU, vU] [(.long sq)] t → FS p e below T0 m 64 #[oa x, oa y, oi xi, oi yi, oa r, oj sm, vS, vU, vU] [] t := by
        intro t k
        rw [hv_sq] at k
        refine g3 t ?_
        show FS p e below T0 m 68 #[oa x, oa y, oi xi, oi yi, oa r, oj sm, vS, vU, vU] [] _
        refine XS.aloadN X0.here hx rfl (hb hby d28_68) rfl rfl ?_
        refine XS.iinc X0.here hx rfl (hb hby d28_69) rfl (l' := #[oa x, oa y, .val (.int (xi + (-1 : Int32))), oi yi, oa r, oj sm, vS, vU, vU]) rfl ?_
        refine XS.iloadN X0.here hx rfl (hb hby d28_72) rfl ?_
        refine X0.iaload hx (j := (xi + (-1 : Int32))) (v := (.int ax5)) (by rw [e0]; exact Ar4.1) (State.isArrayOf_alike hZ.alike Ar4.2.1) Ar4.2.2 hin4 hat4 (g := (mkF m 73 #[oa x, oa y, .val (.int (xi + (-1 : Int32))), oi yi, oa r, oj sm, vS, vU, vU] [(.int (xi + (-1 : Int32))), (.ref x)])) rfl rfl (hb hby d28_73) _ ?_
        refine XS.i2l X0.here hx rfl (hb hby d28_74) rfl ?_
        refine X0.ldc2Long hx hown (mvT hZ (own_w hw 153 rfl)) (g := (mkF m 75 #[oa x, oa y, .val (.int (xi + (-1 : Int32))), oi yi, oa r, oj sm, vS, vU, vU] [(.long (ax5.toInt64))])) rfl (hb hby d28_75) _ ?_
        refine XS.land X0.here hx rfl (hb hby d28_78) rfl ?_
        refine XS.aloadN X0.here hx rfl (hb hby d28_79) rfl rfl ?_
        show FS p e below T0 m 80 #[oa x, oa y, .val (.int (xi + (-1 : Int32))), oi yi, oa r, oj sm, vS, vU, vU] [(.ref y), (.long ((ax5.toInt64) &&& (4294967295 : Int64)))] _
        refine XS.iinc X0.here hx rfl (hb hby d28_80) rfl (l' := #[oa x, oa y, .val (.int (xi + (-1 : Int32))), .val (.int (yi + (-1 : Int32))), oa r, oj sm, vS, vU, vU]) rfl ?_
        refine XS.iloadN X0.here hx rfl (hb hby d28_83) rfl ?_
        refine X0.iaload hx (j := (yi + (-1 : Int32))) (v := (.int ax7)) (by rw [e0]; exact Ar6.1) (State.isArrayOf_alike hZ.alike Ar6.2.1) Ar6.2.2 hin6 hat6 (g := (mkF m 84 #[oa x, oa y, .val (.int (xi + (-1 : Int32))), .val (.int (yi + (-1 : Int32))), oa r, oj sm, vS, vU, vU] [(.int (yi + (-1 : Int32))), (.ref y), (.long ((ax5.toInt64) &&& (4294967295 : Int64)))])) rfl rfl (hb hby d28_84) _ ?_
        refine XS.i2l X0.here hx rfl (hb hby d28_85) rfl ?_
        refine X0.ldc2Long hx hown (mvT hZ (own_w hw 153 rfl)) (g := (mkF m 86 #[oa x, oa y, .val (.int (xi + (-1 : Int32))), .val (.int (yi + (-1 : Int32))), oa r, oj sm, vS, vU, vU] [(.long (ax7.toInt64)), (.long ((ax5.toInt64) &&& (4294967295 : Int64)))])) rfl (hb hby d28_86) _ ?_
        refine XS.land X0.here hx rfl (hb hby d28_89) rfl ?_
        refine XS.ladd X0.here hx rfl (hb hby d28_90) rfl ?_
        refine XS.lload X0.here hx rfl (hb hby d28_91) rfl ?_
        show FS p e below T0 m 93 #[oa x, oa y, .val (.int (xi + (-1 : Int32))), .val (.int (yi + (-1 : Int32))), oa r, oj sm, vS, vU, vU] [(.long sm), (.long (((ax5.toInt64) &&& (4294967295 : Int64)) + ((ax7.toInt64) &&& (4294967295 : Int64))))] _
        refine XS.bipush X0.here hx rfl (hb hby d28_93) ?_
        refine XS.lushr X0.here hx rfl (hb hby d28_95) rfl ?_
        refine XS.ladd X0.here hx rfl (hb hby d28_96) rfl ?_
        exact k
      obtain ⟨c9, Ar9, cq9, S9, Nn9, Hh9, Gg9⟩ := id Vr
      have hin9 : ¬ ((xi + (-1 : Int32)) < 0 ∨ c9.slots.size ≤ ((xi + (-1 : Int32))).toNatClampNeg) := inb_of S9 (own_idx hp hxz)
      obtain ⟨T10, h10, X10, e10, W10, st10⟩ := stI X0 hx hZ e0 Ar9 (j := (xi + (-1 : Int32))) hin9 (g := (mkF m 105 #[oa x, oa y, .val (.int (xi + (-1 : Int32))), .val (.int (yi + (-1 : Int32))), oa r, oj sq, vS, vU, vU] [(.int (sq.toInt32)), (.int (xi + (-1 : Int32))), (.ref r)])) rfl rfl (hb hby d28_105)
      obtain ⟨vl10, V10a, hl10⟩ : ∃ q : List Value, Arv Z h10 r kr .int zx q (.int (0 : Int32)) ∧ (zx).toNatClampNeg ≤ q.length := ⟨_, Arv.set Ar9 cq9 S9 Nn9 Hh9 Gg9 rfl W10 _ rfl (own_inl hin9 S9 hl0), by rw [List.length_set]; exact hl0⟩
      have N10 := Fr.snoc X10 N0 gz_r
      have f11 := (Vx.other W10 hxr)
      have f12 := (Vy.other W10 hyr)
      obtain ⟨T13, L13, h13, xo13, yo13, so13, lo13, X13, e13, N13, K13, V13, hl13, hb13, st13⟩ := ih (n - 1) (by omega) _ _ _ (xi + (-1 : Int32)) (yi + (-1 : Int32)) sq _ X10 e10 N10 f11 f12 V10a hl10 (own_dn hq hn) (own_dd hq hp hyx) (own_dle hp hxz) (own_dle hq hyz)
      have g14 : ∀ t, FS p e below T13 m 109 #[oa x, oa y, oi xo13, oi yo13, oa r, oj so13, vS, vU, vU] [] t → FS p e below T0 m 64 #[oa x, oa y, oi xi, oi yi, oa r, oj sm, vS, vU, vU] [] t := by
        intro t k
        refine g8 t ?_
        show FS p e below T0 m 97 #[oa x, oa y, .val (.int (xi + (-1 : Int32))), .val (.int (yi + (-1 : Int32))), oa r, oj sm, vS, vU, vU] [(.long sq)] _
        refine XS.lstore X0.here hx rfl (hb hby d28_97) rfl (l' := #[oa x, oa y, .val (.int (xi + (-1 : Int32))), .val (.int (yi + (-1 : Int32))), oa r, oj sq, vS, vU, vU]) rfl ?_
        refine XS.aload X0.here hx rfl (hb hby d28_99) rfl rfl ?_
        refine XS.iloadN X0.here hx rfl (hb hby d28_101) rfl ?_
        refine XS.lload X0.here hx rfl (hb hby d28_102) rfl ?_
        refine XS.l2i X0.here hx rfl (hb hby d28_104) rfl ?_
        refine st10 _ ?_
        refine XS.goto X10.here hx rfl (pc0 := 106) (pc' := 64) rfl (hb hby d28_106) (by decide) (by decide) ?_
        refine st13 _ ?_
        exact k
      exact ⟨_, _, _, xo13, yo13, so13, _, X13, e13, N13, (Keep.trans (Keep.wr (Keep.refl h0 [r]) W10 (Or.inl (List.mem_of_getElem? (i := 0) rfl))) K13 (allS (Or.inl (List.mem_of_getElem? (i := 0) rfl)) all0)), V13, hl13, hb13, g14⟩
    · have g15 : ∀ t, FS p e below T0 m 109 #[oa x, oa y, oi xi, oi yi, oa r, oj sm, vS, vU, vU] [] t → FS p e below T0 m 64 #[oa x, oa y, oi xi, oi yi, oa r, oj sm, vS, vU, vU] [] t := by
        intro t k
        refine g2 t ?_
        show FS p e below T0 m 65 #[oa x, oa y, oi xi, oi yi, oa r, oj sm, vS, vU, vU] [(.int yi)] _
        refine XS.ifYes X0.here hx rfl (pc0 := 65) (pc' := 109) rfl (hb hby d28_65) rfl ((if0 _ _).trans (flt hc1).2.2.2) (by decide) (by decide) ?_
        exact k
      exact ⟨_, _, _, xi, yi, sm, _, X0, e0, N0, (Keep.refl h0 [r]), Vr, hl0, ⟨by omega, hxz⟩, g15⟩
def own_Qt (n0 : Nat) (v : Option Value) (h : Heap) (L : List Loc) : Prop := v = some (.int (1 : Int32)) ∧ Fr n0 L
abbrev own_y0 : MethodName := ⟨"orderwire/orders/Order", "cancel", "()V"⟩
theorem own_ef1 (m : MethodId) (x0 : Addr) : entryFrame m #[(.ref x0)] 1 = mkF m 0 #[oa x0] [] := by first | (simp [entryFrame, mkF, argsToLocals, Value.category]; done) | rfl
theorem own_pn0 : plainName "orderwire/orders/Order" = true := by first | (simp [plainName, overriddenIn]; done) | decide +kernel
theorem d29_0 : decode q29 0 = .ok (.aload_n 0, 1) := by decide +kernel
theorem d29_1 : decode q29 1 = .ok (.iconst 1, 1) := by decide +kernel
theorem d29_2 : decode q29 2 = .ok (.putfield 29, 3) := by decide +kernel
theorem d29_5 : decode q29 5 = .ok (.return_, 1) := by decide +kernel
def own_Q_rmA0 (Z : State) (ob0 : Addr)  (zr zm ps ng : Addr) (zk : ClassId) (h0 : Heap) (n0 : Nat) (v : Option Value) (h : Heap) (L : List Loc) : Prop := v = none ∧ Fr n0 L ∧ Keep h0 h [ob0] ∧ Exa Z h ob0 "orderwire/orders/Order" ∧ Fld Z h ob0 "orderwire/orders/Order" "cancelled" "Z" (.int (1 : Int32))
theorem rmA0 (l : Launch) (Z : State) (a0 : Array Value) (hw : ∀ d ∈ tables_1, d.before a0 Z = true) (ws : List Jvm.Cond) (ob0 : Addr)  (zr zm ps ng : Addr) (zk : ClassId) (h0 : Heap) (n0 : Nat) (O0 : Old Z n0 h0) (G : own_Gl Z zr zm ps ng zk) (E_ob0 : Exa Z h0 ob0 "orderwire/orders/Order") (F_ob0_cancelled : Fld Z h0 ob0 "orderwire/orders/Order" "cancelled" "Z" (.int (0 : Int32))) (gz_ob0 : n0 ≤ ob0) :
    MetFree l own_y0 (head1 (Jvm.Cond.code own_y0 prog_111_method_8_code 1 none :: ws) ({ frames := 0, cells := 0, slots := 0, locals := 0 } : Room)) (fun a U => a = #[(.ref ob0)] ∧ Z.Warmed39 U.vm ∧ U.heap = h0) (fun _ _ _ _ _ => True) (fun _ U o U' => ∃ v L, o = .returned v ∧ own_Q_rmA0 Z ob0 zr zm ps ng zk h0 n0 v U'.heap L ∧ FrameEnd U o U' L ({ frames := 0, cells := 0, slots := 0, locals := 0 } : Room).cells ({ frames := 0, cells := 0, slots := 0, locals := 0 } : Room).slots) := by
  refine MetFree.of_bodySF (plainFor_of_name own_pn0) hisR ?_
  intro p e s m args below meth c s₁ Bd hml0 hP hK
  obtain ⟨rfl, hZ, hh⟩ := hP
  have hx := Bd.exec
  have hby := Bd.bytes
  have hml : c.maxLocals = 1 := hml0
  have hown : s.vm.findClass "orderwire/orders/Order" = some m.cls := findClass_of_methodNamed Bd.named
  have hnm := (name_of_methodNamed Bd.named Bd.method).1
  have X0 : Stand p l e ({ frames := 0, cells := 0, slots := 0, locals := 0 } : Room) s m #[(.ref ob0)] below meth c s₁ [] 0 0 := Stand.of_body Bd
  have e0 : s₁.heap = h0 := by rw [← hh, Bd.state]; rfl
  have N0 := Fr.nil n0
  have Z0 : n0 ≤ h0.size := O0.1 ▸ O0.2.1
  have g0 : ∀ t, FS p e below s₁ m 0 #[oa ob0] [] t → ES p e below s₁ m #[(.ref ob0)] 1 t := fun t k => castTop (own_ef1 m (ob0)) k
  have G0 := G
  obtain ⟨S_Z, E_Z, F_Zs, F_Zm, V_Z, S_P, P_P, S_N, P_N⟩ := G
  obtain ⟨T1, h1, X1, e1, W1, st1⟩ := putFN X0 hx hZ hown (own_w hw 141 rfl) Via.refl e0 F_ob0_cancelled E_ob0 (Or.inl (own_w hw 142 rfl)) (own_w hw 2 rfl) (ty := .boolean) (v' := (.int (1 : Int32))) (by decide) rfl rfl (g := (mkF m 2 #[oa ob0] [(.int (1 : Int32)), (.ref ob0)])) rfl rfl (hb hby d29_2)
  have Fw1 := F_ob0_cancelled.same W1
  have N1 := Fr.snoc X1 N0 gz_ob0
  have g2 : ∀ t, FS p e below T1 m 5 #[oa ob0] [] t → ES p e below s₁ m #[(.ref ob0)] 1 t := by
    intro t k
    refine g0 t ?_
    show FS p e below s₁ m 0 #[oa ob0] [] _
    refine XS.aloadN X0.here hx rfl (hb hby d29_0) rfl rfl ?_
    refine XS.iconst X0.here hx rfl (hb hby d29_1) ?_
    refine st1 _ ?_
    exact k
  obtain ⟨fs, hrt, hrun, hended, hW, hsame⟩ := X1.leave (v := none) (fun _ => rfl)
  have f3 := (E_ob0.wr W1)
  refine ⟨_, _, g2 _ ?_, hrun, hended, _, _, rfl, ?_, ⟨_, rfl⟩, hW, hsame.mono (by decide) (by decide)⟩
  · show Steps p.tables e below (T1.setTop (mkF m 5 #[oa ob0] [])) _
    exact X1.returnOut hx Bd.returns (hb hby d29_5) hrt
  · show own_Q_rmA0 Z ob0 zr zm ps ng zk h0 n0 _ T1.heap _
    rw [e1]
    exact ⟨rfl, N1, (Keep.wr (Keep.refl h0 [ob0]) W1 (Or.inl (List.mem_of_getElem? (i := 0) rfl))), f3, Fw1⟩
theorem own_pd0 : parseMethodDescriptor "()V" = some ⟨[], none⟩ := by decide +kernel
abbrev own_y1 : MethodName := ⟨"orderwire/orders/Order", "leavesQty", "()J"⟩
theorem d21_0 : decode q21 0 = .ok (.aload_n 0, 1) := by decide +kernel
theorem d21_1 : decode q21 1 = .ok (.getfield 29, 3) := by decide +kernel
theorem d21_4 : decode q21 4 = .ok (.ifCond .eq 7, 3) := by decide +kernel
theorem d21_7 : decode q21 7 = .ok (.lconst 0, 1) := by decide +kernel
theorem d21_8 : decode q21 8 = .ok (.goto 15, 3) := by decide +kernel
theorem d21_23 : decode q21 23 = .ok (.lreturn, 1) := by decide +kernel
def own_Q_rmA1 (Z : State) (ob0 : Addr)  (zr zm ps ng : Addr) (zk : ClassId) (h0 : Heap) (n0 : Nat) (v : Option Value) (h : Heap) (L : List Loc) : Prop := v = some (.long (0 : Int64)) ∧ Fr n0 L ∧ h = h0
theorem rmA1 (l : Launch) (Z : State) (a0 : Array Value) (hw : ∀ d ∈ tables_1, d.before a0 Z = true) (ws : List Jvm.Cond) (ob0 : Addr)  (zr zm ps ng : Addr) (zk : ClassId) (h0 : Heap) (n0 : Nat) (O0 : Old Z n0 h0) (G : own_Gl Z zr zm ps ng zk) (E_ob0 : Exa Z h0 ob0 "orderwire/orders/Order") (F_ob0_cancelled : Fld Z h0 ob0 "orderwire/orders/Order" "cancelled" "Z" (.int (1 : Int32))) :
    MetFree l own_y1 (head1 (Jvm.Cond.code own_y1 prog_111_method_5_code 1 (some .long) :: ws) ({ frames := 0, cells := 0, slots := 0, locals := 0 } : Room)) (fun a U => a = #[(.ref ob0)] ∧ Z.Warmed39 U.vm ∧ U.heap = h0) (fun _ _ _ _ _ => True) (fun _ U o U' => ∃ v L, o = .returned v ∧ own_Q_rmA1 Z ob0 zr zm ps ng zk h0 n0 v U'.heap L ∧ FrameEnd U o U' L ({ frames := 0, cells := 0, slots := 0, locals := 0 } : Room).cells ({ frames := 0, cells := 0, slots := 0, locals := 0 } : Room).slots) := by
  refine MetFree.of_bodySF (plainFor_of_name own_pn0) hisR ?_
  intro p e s m args below meth c s₁ Bd hml0 hP hK
  obtain ⟨rfl, hZ, hh⟩ := hP
  have hx := Bd.exec
  have hby := Bd.bytes
  have hml : c.maxLocals = 1 := hml0
  have hown : s.vm.findClass "orderwire/orders/Order" = some m.cls := findClass_of_methodNamed Bd.named
  have hnm := (name_of_methodNamed Bd.named Bd.method).1
  have X0 : Stand p l e ({ frames := 0, cells := 0, slots := 0, locals := 0 } : Room) s m #[(.ref ob0)] below meth c s₁ [] 0 0 := Stand.of_body Bd
  have e0 : s₁.heap = h0 := by rw [← hh, Bd.state]; rfl
  have N0 := Fr.nil n0
  have Z0 : n0 ≤ h0.size := O0.1 ▸ O0.2.1
  have g0 : ∀ t, FS p e below s₁ m 0 #[oa ob0] [] t → ES p e below s₁ m #[(.ref ob0)] 1 t := fun t k => castTop (own_ef1 m (ob0)) k
  have G0 := G
  obtain ⟨S_Z, E_Z, F_Zs, F_Zm, V_Z, S_P, P_P, S_N, P_N⟩ := G
  obtain ⟨T1, X1, e1, st1⟩ := getF X0 hx hZ hown (host := "") (Or.inl (own_w hw 141 rfl)) Via.refl e0 F_ob0_cancelled (g := (mkF m 1 #[oa ob0] [(.ref ob0)])) rfl rfl (hb hby d21_1)
  have g2 : ∀ t, FS p e below T1 m 23 #[oa ob0] [(.long (0 : Int64))] t → ES p e below s₁ m #[(.ref ob0)] 1 t := by
    intro t k
    refine g0 t ?_
    show FS p e below s₁ m 0 #[oa ob0] [] _
    refine XS.aloadN X0.here hx rfl (hb hby d21_0) rfl rfl ?_
    refine st1 _ ?_
    refine XS.ifNo X1.here hx rfl (hb hby d21_4) rfl ((if0 _ _).trans (feq (by decide : ¬ ((1 : Int32) = (0 : Int32)))).1) ?_
    refine XS.lconst X1.here hx rfl (hb hby d21_7) ?_
    refine XS.goto X1.here hx rfl (pc0 := 8) (pc' := 23) rfl (hb hby d21_8) (by decide) (by decide) ?_
    exact k
  obtain ⟨fs, hrt, hrun, hended, hW, hsame⟩ := X1.leave (v := some (.long (0 : Int64))) (fun h => by rw [Bd.returns] at h; cases h)
  refine ⟨_, _, g2 _ ?_, hrun, hended, _, _, rfl, ?_, ⟨_, rfl⟩, hW, hsame.mono (by decide) (by decide)⟩
  · show Steps p.tables e below (T1.setTop (mkF m 23 #[oa ob0] [(.long (0 : Int64))])) _
    exact X1.lreturnOut hx Bd.returns (hb hby d21_23) hrt
  · show own_Q_rmA1 Z ob0 zr zm ps ng zk h0 n0 _ T1.heap _
    rw [e1]
    exact ⟨rfl, N0, rfl⟩
theorem own_pd1 : parseMethodDescriptor "()J" = some ⟨[], some .long⟩ := by decide +kernel
abbrev own_y2 : MethodName := ⟨"orderwire/orders/Order", "fill", "(JJ)V"⟩
theorem own_ef3 (m : MethodId) (x0 : Addr) (x1 : Int64) (x2 : Int64) : entryFrame m #[(.ref x0), (.long x1), (.long x2)] 5 = mkF m 0 #[oa x0, oj x1, vS, oj x2, vS] [] := by first | (simp [entryFrame, mkF, argsToLocals, Value.category]; done) | rfl
theorem d6_0 : decode q6 0 = .ok (.aload_n 0, 1) := by decide +kernel
theorem d6_1 : decode q6 1 = .ok (.dup, 1) := by decide +kernel
theorem d6_2 : decode q6 2 = .ok (.getfield 26, 3) := by decide +kernel
theorem d6_5 : decode q6 5 = .ok (.lload_n 1, 1) := by decide +kernel
theorem d6_6 : decode q6 6 = .ok (.ladd, 1) := by decide +kernel
theorem d6_7 : decode q6 7 = .ok (.putfield 26, 3) := by decide +kernel
theorem d6_10 : decode q6 10 = .ok (.aload_n 0, 1) := by decide +kernel
theorem d6_11 : decode q6 11 = .ok (.aload_n 0, 1) := by decide +kernel
theorem d6_12 : decode q6 12 = .ok (.getfield 13, 3) := by decide +kernel
theorem own_la0 {Z : State} {a0 : Array Value} (hw : ∀ d ∈ tables_1, d.before a0 Z = true) : Laid Z a0 "orderwire/orders/Order" "orderwire/orders/Order" "notional" "Ljava/math/BigInteger;" := Or.inl (own_w hw 54 rfl)
theorem own_la1 {Z : State} {a0 : Array Value} (hw : ∀ d ∈ tables_1, d.before a0 Z = true) : Laid Z a0 "orderwire/orders/Order" "orderwire/orders/Order" "cumQty" "J" := Or.inl (own_w hw 65 rfl)
theorem own_ty0 : parseFieldDescriptor "Ljava/math/BigInteger;" = some (.object "java/math/BigInteger") := by decide
theorem own_ty1 : parseFieldDescriptor "J" = some .long := by decide
theorem d6_15 : decode q6 15 = .ok (.lload_n 1, 1) := by decide +kernel
theorem d6_16 : decode q6 16 = .ok (.invokestatic 42, 3) := by decide +kernel
abbrev own_y3 : MethodName := ⟨"java/math/BigInteger", "valueOf", "(J)Ljava/math/BigInteger;"⟩
theorem own_ef4 (m : MethodId) (x0 : Int64) : entryFrame m #[(.long x0)] 2 = mkF m 0 #[oj x0, vS] [] := by first | (simp [entryFrame, mkF, argsToLocals, Value.category]; done) | rfl
theorem own_pn1 : plainName "java/math/BigInteger" = true := by first | (simp [plainName, overriddenIn]; done) | decide +kernel
theorem d7_0 : decode q7 0 = .ok (.lload_n 0, 1) := by decide +kernel
theorem d7_1 : decode q7 1 = .ok (.lconst 0, 1) := by decide +kernel
theorem d7_2 : decode q7 2 = .ok (.lcmp, 1) := by decide +kernel
theorem d7_3 : decode q7 3 = .ok (.ifCond .ne 7, 3) := by decide +kernel
theorem d7_6 : decode q7 6 = .ok (.getstatic 22, 3) := by decide +kernel
theorem d7_9 : decode q7 9 = .ok (.areturn, 1) := by decide +kernel
theorem d7_10 : decode q7 10 = .ok (.lload_n 0, 1) := by decide +kernel
theorem d7_11 : decode q7 11 = .ok (.lconst 0, 1) := by decide +kernel
theorem d7_12 : decode q7 12 = .ok (.lcmp, 1) := by decide +kernel
theorem d7_13 : decode q7 13 = .ok (.ifCond .le 18, 3) := by decide +kernel
theorem d7_16 : decode q7 16 = .ok (.lload_n 0, 1) := by decide +kernel
theorem d7_17 : decode q7 17 = .ok (.ldc2_w 345, 3) := by decide +kernel
theorem d7_20 : decode q7 20 = .ok (.lcmp, 1) := by decide +kernel
theorem d7_21 : decode q7 21 = .ok (.ifCond .gt 10, 3) := by decide +kernel
theorem d7_31 : decode q7 31 = .ok (.lload_n 0, 1) := by decide +kernel
theorem d7_32 : decode q7 32 = .ok (.lconst 0, 1) := by decide +kernel
theorem d7_33 : decode q7 33 = .ok (.lcmp, 1) := by decide +kernel
theorem d7_34 : decode q7 34 = .ok (.ifCond .ge 19, 3) := by decide +kernel
theorem d7_53 : decode q7 53 = .ok (.new 23, 3) := by decide +kernel
theorem d7_56 : decode q7 56 = .ok (.dup, 1) := by decide +kernel
theorem d7_57 : decode q7 57 = .ok (.lload_n 0, 1) := by decide +kernel
theorem d7_58 : decode q7 58 = .ok (.invokespecial 356, 3) := by decide +kernel
abbrev own_y4 : MethodName := ⟨"java/math/BigInteger", "<init>", "(J)V"⟩
theorem own_ef5 (m : MethodId) (x0 : Addr) (x1 : Int64) : entryFrame m #[(.ref x0), (.long x1)] 4 = mkF m 0 #[oa x0, oj x1, vS, vU] [] := by first | (simp [entryFrame, mkF, argsToLocals, Value.category]; done) | rfl
theorem d8_0 : decode q8 0 = .ok (.aload_n 0, 1) := by decide +kernel
theorem d8_1 : decode q8 1 = .ok (.invokespecial 3, 3) := by decide +kernel
abbrev own_y5 : MethodName := ⟨"java/lang/Number", "<init>", "()V"⟩
theorem own_pn2 : plainName "java/lang/Number" = true := by first | (simp [plainName, overriddenIn]; done) | decide +kernel
theorem d9_0 : decode q9 0 = .ok (.aload_n 0, 1) := by decide +kernel
theorem d9_1 : decode q9 1 = .ok (.invokespecial 1, 3) := by decide +kernel
theorem d9_4 : decode q9 4 = .ok (.return_, 1) := by decide +kernel
def own_Q_rmA5 (Z : State) (ob0 : Addr)  (zr zm ps ng : Addr) (zk : ClassId) (h0 : Heap) (n0 : Nat) (v : Option Value) (h : Heap) (L : List Loc) : Prop := v = none ∧ Fr n0 L ∧ h = h0
theorem rmA5 (l : Launch) (Z : State) (a0 : Array Value) (hw : ∀ d ∈ tables_1, d.before a0 Z = true) (ws : List Jvm.Cond) (ob0 : Addr)  (zr zm ps ng : Addr) (zk : ClassId) (h0 : Heap) (n0 : Nat) (O0 : Old Z n0 h0) (G : own_Gl Z zr zm ps ng zk) :
    MetFree l own_y5 (head1 (Jvm.Cond.code own_y5 jdk_18_method_1_code 1 none :: ws) ({ frames := 1, cells := 0, slots := 0, locals := 12 } : Room)) (fun a U => a = #[(.ref ob0)] ∧ Z.Warmed39 U.vm ∧ U.heap = h0) (fun _ _ _ _ _ => True) (fun _ U o U' => ∃ v L, o = .returned v ∧ own_Q_rmA5 Z ob0 zr zm ps ng zk h0 n0 v U'.heap L ∧ FrameEnd U o U' L ({ frames := 1, cells := 0, slots := 0, locals := 12 } : Room).cells ({ frames := 1, cells := 0, slots := 0, locals := 12 } : Room).slots) := by
  refine MetFree.of_bodySF (plainFor_of_name own_pn2) hisR ?_
  intro p e s m args below meth c s₁ Bd hml0 hP hK
  obtain ⟨rfl, hZ, hh⟩ := hP
  have hx := Bd.exec
  have hby := Bd.bytes
  have hml : c.maxLocals = 1 := hml0
  have hown : s.vm.findClass "java/lang/Number" = some m.cls := findClass_of_methodNamed Bd.named
  have hnm := (name_of_methodNamed Bd.named Bd.method).1
  have X0 : Stand p l e ({ frames := 1, cells := 0, slots := 0, locals := 12 } : Room) s m #[(.ref ob0)] below meth c s₁ [] 0 0 := Stand.of_body Bd
  have e0 : s₁.heap = h0 := by rw [← hh, Bd.state]; rfl
  have N0 := Fr.nil n0
  have Z0 : n0 ≤ h0.size := O0.1 ▸ O0.2.1
  have g0 : ∀ t, FS p e below s₁ m 0 #[oa ob0] [] t → ES p e below s₁ m #[(.ref ob0)] 1 t := fun t k => castTop (own_ef1 m (ob0)) k
  have G0 := G
  obtain ⟨S_Z, E_Z, F_Zs, F_Zm, V_Z, S_P, P_P, S_N, P_N⟩ := G
  obtain ⟨T1, X1, e1, st1⟩ := initO X0 hx hZ hown (own_w hw 83 rfl) (own_w hw 21 rfl) (own_w hw 22 rfl) e0 (g := (mkF m 1 #[oa ob0] [(.ref ob0)])) rfl (by rw [hml]; rfl) rfl (hb hby d9_1) (by decide) (W := 0) (own_W0 rfl) (by decide)
  have g2 : ∀ t, FS p e below T1 m 4 #[oa ob0] [] t → ES p e below s₁ m #[(.ref ob0)] 1 t := by
    intro t k
    refine g0 t ?_
    show FS p e below s₁ m 0 #[oa ob0] [] _
    refine XS.aloadN X0.here hx rfl (hb hby d9_0) rfl rfl ?_
    refine st1 _ ?_
    exact k
  obtain ⟨fs, hrt, hrun, hended, hW, hsame⟩ := X1.leave (v := none) (fun _ => rfl)
  refine ⟨_, _, g2 _ ?_, hrun, hended, _, _, rfl, ?_, ⟨_, rfl⟩, hW, hsame.mono (by decide) (by decide)⟩
  · show Steps p.tables e below (T1.setTop (mkF m 4 #[oa ob0] [])) _
    exact X1.returnOut hx Bd.returns (hb hby d9_4) hrt
  · show own_Q_rmA5 Z ob0 zr zm ps ng zk h0 n0 _ T1.heap _
    rw [e1]
    exact ⟨rfl, N0, rfl⟩
theorem d8_4 : decode q8 4 = .ok (.lload_n 1, 1) := by decide +kernel
theorem d8_5 : decode q8 5 = .ok (.lconst 0, 1) := by decide +kernel
theorem d8_6 : decode q8 6 = .ok (.lcmp, 1) := by decide +kernel
theorem d8_7 : decode q8 7 = .ok (.ifCond .ge 14, 3) := by decide +kernel
theorem d8_10 : decode q8 10 = .ok (.lload_n 1, 1) := by decide +kernel
theorem d8_11 : decode q8 11 = .ok (.lneg, 1) := by decide +kernel
theorem d8_12 : decode q8 12 = .ok (.lstore_n 1, 1) := by decide +kernel
theorem d8_13 : decode q8 13 = .ok (.aload_n 0, 1) := by decide +kernel
theorem d8_14 : decode q8 14 = .ok (.iconst (-1), 1) := by decide +kernel
theorem d8_15 : decode q8 15 = .ok (.putfield 32, 3) := by decide +kernel
theorem d8_18 : decode q8 18 = .ok (.goto 8, 3) := by decide +kernel
theorem d8_26 : decode q8 26 = .ok (.lload_n 1, 1) := by decide +kernel
theorem d8_27 : decode q8 27 = .ok (.bipush 32, 2) := by decide +kernel
theorem d8_29 : decode q8 29 = .ok (.lushr, 1) := by decide +kernel
theorem d8_30 : decode q8 30 = .ok (.l2i, 1) := by decide +kernel
theorem d8_31 : decode q8 31 = .ok (.istore_n 3, 1) := by decide +kernel
theorem d8_32 : decode q8 32 = .ok (.iload_n 3, 1) := by decide +kernel
theorem d8_33 : decode q8 33 = .ok (.ifCond .ne 21, 3) := by decide +kernel
theorem d8_36 : decode q8 36 = .ok (.aload_n 0, 1) := by decide +kernel
theorem d8_37 : decode q8 37 = .ok (.iconst 1, 1) := by decide +kernel
theorem d8_38 : decode q8 38 = .ok (.newarray .int, 2) := by decide +kernel
theorem d8_40 : decode q8 40 = .ok (.putfield 28, 3) := by decide +kernel
theorem own_la2 {Z : State} {a0 : Array Value} (hw : ∀ d ∈ tables_1, d.before a0 Z = true) : Laid Z a0 "java/math/BigInteger" "java/math/BigInteger" "mag" "[I" := Or.inr (own_w hw 88 rfl)
theorem own_la3 {Z : State} {a0 : Array Value} (hw : ∀ d ∈ tables_1, d.before a0 Z = true) : Laid Z a0 "java/math/BigInteger" "java/math/BigInteger" "signum" "I" := Or.inr (own_w hw 85 rfl)
theorem own_ty2 : parseFieldDescriptor "[I" = some (.array .int) := by decide
theorem own_ty3 : parseFieldDescriptor "I" = some .int := by decide
theorem d8_43 : decode q8 43 = .ok (.aload_n 0, 1) := by decide +kernel
theorem d8_44 : decode q8 44 = .ok (.getfield 28, 3) := by decide +kernel
theorem d8_47 : decode q8 47 = .ok (.iconst 0, 1) := by decide +kernel
theorem d8_48 : decode q8 48 = .ok (.lload_n 1, 1) := by decide +kernel
theorem d8_49 : decode q8 49 = .ok (.l2i, 1) := by decide +kernel
theorem d8_50 : decode q8 50 = .ok (.iastore, 1) := by decide +kernel
theorem d8_51 : decode q8 51 = .ok (.goto 25, 3) := by decide +kernel
theorem d8_76 : decode q8 76 = .ok (.return_, 1) := by decide +kernel
theorem d8_54 : decode q8 54 = .ok (.aload_n 0, 1) := by decide +kernel
theorem d8_55 : decode q8 55 = .ok (.iconst 2, 1) := by decide +kernel
theorem d8_56 : decode q8 56 = .ok (.newarray .int, 2) := by decide +kernel
theorem d8_58 : decode q8 58 = .ok (.putfield 28, 3) := by decide +kernel
theorem d8_61 : decode q8 61 = .ok (.aload_n 0, 1) := by decide +kernel
theorem d8_62 : decode q8 62 = .ok (.getfield 28, 3) := by decide +kernel
theorem d8_65 : decode q8 65 = .ok (.iconst 0, 1) := by decide +kernel
theorem d8_66 : decode q8 66 = .ok (.iload_n 3, 1) := by decide +kernel
theorem d8_67 : decode q8 67 = .ok (.iastore, 1) := by decide +kernel
theorem d8_68 : decode q8 68 = .ok (.aload_n 0, 1) := by decide +kernel
theorem d8_69 : decode q8 69 = .ok (.getfield 28, 3) := by decide +kernel
theorem d8_72 : decode q8 72 = .ok (.iconst 1, 1) := by decide +kernel
theorem d8_73 : decode q8 73 = .ok (.lload_n 1, 1) := by decide +kernel
theorem d8_74 : decode q8 74 = .ok (.l2i, 1) := by decide +kernel
theorem d8_75 : decode q8 75 = .ok (.iastore, 1) := by decide +kernel
theorem d8_21 : decode q8 21 = .ok (.aload_n 0, 1) := by decide +kernel
theorem d8_22 : decode q8 22 = .ok (.iconst 1, 1) := by decide +kernel
theorem d8_23 : decode q8 23 = .ok (.putfield 32, 3) := by decide +kernel
def own_Q_rmA4 (Z : State) (ob0 : Addr) (p1 : Int64) (sn : Int32) (zr zm ps ng : Addr) (zk : ClassId) (h0 : Heap) (n0 : Nat) (v : Option Value) (h : Heap) (L : List Loc) : Prop := v = none ∧ Fr n0 L ∧ Keep h0 h [ob0] ∧ ∃ (rm : Addr) (rk : ClassId) (rz rs : Int32) (rl : List Value), Exa Z h ob0 "java/math/BigInteger" ∧ Fld Z h ob0 "java/math/BigInteger" "signum" "I" (.int rs) ∧ Fld Z h ob0 "java/math/BigInteger" "mag" "[I" (.ref rm) ∧ Arv Z h rm rk .int rz rl (.int (0 : Int32)) ∧ rs = sn ∧ (rz = (1 : Int32) ∨ rz = (2 : Int32))
theorem rmA4 (l : Launch) (Z : State) (a0 : Array Value) (hw : ∀ d ∈ tables_1, d.before a0 Z = true) (ws : List Jvm.Cond) (ob0 : Addr) (p1 : Int64) (sn : Int32) (zr zm ps ng : Addr) (zk : ClassId) (h0 : Heap) (n0 : Nat) (O0 : Old Z n0 h0) (G : own_Gl Z zr zm ps ng zk) (E_ob0 : Exa Z h0 ob0 "java/math/BigInteger") (F_ob0_mag : Fld Z h0 ob0 "java/math/BigInteger" "mag" "[I" .null) (F_ob0_signum : Fld Z h0 ob0 "java/math/BigInteger" "signum" "I" (.int (0 : Int32))) (gz_ob0 : n0 ≤ ob0) (hsn : p1 < (0 : Int64) → sn = (-1 : Int32)) (hsp : ¬ (p1 < (0 : Int64)) → sn = (1 : Int32)) :
    MetFree l own_y4 (head1 (Jvm.Cond.code own_y4 jdk_2097_method_30_code 4 none :: ws) ({ frames := 2, cells := 1, slots := 2, locals := 24 } : Room)) (fun a U => a = #[(.ref ob0), (.long p1)] ∧ Z.Warmed39 U.vm ∧ U.heap = h0) (fun _ _ _ _ _ => True) (fun _ U o U' => ∃ v L, o = .returned v ∧ own_Q_rmA4 Z ob0 p1 sn zr zm ps ng zk h0 n0 v U'.heap L ∧ FrameEnd U o U' L ({ frames := 2, cells := 1, slots := 2, locals := 24 } : Room).cells ({ frames := 2, cells := 1, slots := 2, locals := 24 } : Room).slots) := by
  refine MetFree.of_bodySF (plainFor_of_name own_pn1) hisR ?_
  intro p e s m args below meth c s₁ Bd hml0 hP hK
  obtain ⟨rfl, hZ, hh⟩ := hP
  have hx := Bd.exec
  have hby := Bd.bytes
  have hml : c.maxLocals = 4 := hml0
  have hown : s.vm.findClass "java/math/BigInteger" = some m.cls := findClass_of_methodNamed Bd.named
  have hnm := (name_of_methodNamed Bd.named Bd.method).1
  have X0 : Stand p l e ({ frames := 2, cells := 1, slots := 2, locals := 24 } : Room) s m #[(.ref ob0), (.long p1)] below meth c s₁ [] 0 0 := Stand.of_body Bd
  have e0 : s₁.heap = h0 := by rw [← hh, Bd.state]; rfl
  have N0 := Fr.nil n0
  have Z0 : n0 ≤ h0.size := O0.1 ▸ O0.2.1
  have g0 : ∀ t, FS p e below s₁ m 0 #[oa ob0, oj p1, vS, vU] [] t → ES p e below s₁ m #[(.ref ob0), (.long p1)] 4 t := fun t k => castTop (own_ef5 m (ob0) (p1)) k
  have G0 := G
  obtain ⟨S_Z, E_Z, F_Zs, F_Zm, V_Z, S_P, P_P, S_N, P_N⟩ := G
  obtain ⟨_, _, ⟨T1, L1, k1, n1⟩, -, X1, ⟨Lc1, hQ1, l1, y1, z1⟩, st1⟩ := X0.specialBack hx (y := own_y5) rfl hown (mvT hZ (own_w hw 77 rfl)) (mvT hZ (own_w hw 78 rfl)) (mvT hZ (own_w hw 82 rfl)) (by decide) (backOf (W := 0) (rmA5 l Z a0 hw [] ob0  zr zm ps ng zk h0 n0 O0 G0   ) hZ (own_w hw 82 rfl) (own_w hw 81 rfl) (by decide) (by decide)) (g := (mkF m 1 #[oa ob0, oj p1, vS, vU] [(.ref ob0)])) rfl (by rw [hml]; rfl) (Steps.refl _) (a := ob0) (argsL := []) (rest := []) (lenOf own_pd0 rfl) rfl (own_W0 rfl) (hb hby d8_1) (fun _ _ => ⟨rfl, e0, (by decide : 0 + 0 ≤ _), (by decide : 0 + 0 ≤ _)⟩)
  dsimp only [Pt.U, Pt.locs, Pt.cells, Pt.slots] at X1 l1 y1 z1 st1 hQ1
  subst l1 y1 z1
  obtain ⟨rfl, Nq1, e1⟩ := hQ1
  have N1 := Fr.app N0 Nq1
  have g3 : ∀ t, FS p e below T1 m 7 #[oa ob0, oj p1, vS, vU] [(.int (lcmpW p1 (0 : Int64)))] t → ES p e below s₁ m #[(.ref ob0), (.long p1)] 4 t := by
    intro t k
    refine g0 t ?_
    show FS p e below s₁ m 0 #[oa ob0, oj p1, vS, vU] [] _
    refine XS.aloadN X0.here hx rfl (hb hby d8_0) rfl rfl ?_
    refine st1.trans ?_
    refine XS.lloadN X1.here hx rfl (hb hby d8_4) rfl ?_
    refine XS.lconst X1.here hx rfl (hb hby d8_5) ?_
    refine XS.lcmp X1.here hx rfl (hb hby d8_6) rfl ?_
    exact k
  by_cases hc2 : p1 < (0 : Int64)
  · obtain ⟨T4, h4, X4, e4, W4, st4⟩ := putF X1 hx hZ hown (host := "") (Or.inl (own_w hw 84 rfl)) Via.refl e1 F_ob0_signum E_ob0 (Or.inr ⟨(own_w hw 85 rfl), rfl, hnm⟩) (own_w hw 72 rfl) (ty := .int) (by decide) rfl rfl (g := (mkF m 15 #[oa ob0, oj (-p1), vS, vU] [(.int (-1 : Int32)), (.ref ob0)])) rfl rfl (hb hby d8_15)
    have Fw4 := F_ob0_signum.same W4
    have N4 := Fr.snoc X4 N1 gz_ob0
    obtain ⟨hi, hv_hi⟩ : ∃ z : Int32, z = ((((-p1).toUInt64 >>> ((32 : Int32) &&& 0x3f).toInt64.toUInt64).toInt64).toInt32) := ⟨_, rfl⟩
    have g5 : ∀ t, FS p e below T4 m 31 #[oa ob0, oj (-p1), vS, vU] [(.int hi)] t → ES p e below s₁ m #[(.ref ob0), (.long p1)] 4 t := by
      intro t k
      rw [hv_hi] at k
      refine g3 t ?_
      show FS p e below T1 m 7 #[oa ob0, oj p1, vS, vU] [(.int (lcmpW p1 (0 : Int64)))] _
      refine XS.ifNo X1.here hx rfl (hb hby d8_7) rfl ((if0 _ _).trans (tlt ((lw_lt _ _).mpr hc2)).2.1) ?_
      refine XS.lloadN X1.here hx rfl (hb hby d8_10) rfl ?_
      refine XS.lneg X1.here hx rfl (hb hby d8_11) rfl ?_
      refine XS.lstoreN X1.here hx rfl (hb hby d8_12) rfl (l' := #[oa ob0, oj (-p1), vS, vU]) rfl ?_
      refine XS.aloadN X1.here hx rfl (hb hby d8_13) rfl rfl ?_
      refine XS.iconst X1.here hx rfl (hb hby d8_14) ?_
      refine st4 _ ?_
      refine XS.goto X4.here hx rfl (pc0 := 18) (pc' := 26) rfl (hb hby d8_18) (by decide) (by decide) ?_
      refine XS.lloadN X4.here hx rfl (hb hby d8_26) rfl ?_
      refine XS.bipush X4.here hx rfl (hb hby d8_27) ?_
      refine XS.lushr X4.here hx rfl (hb hby d8_29) rfl ?_
      refine XS.l2i X4.here hx rfl (hb hby d8_30) rfl ?_
      exact k
    have g7 : ∀ t, FS p e below T4 m 33 #[oa ob0, oj (-p1), vS, oi hi] [(.int hi)] t → ES p e below s₁ m #[(.ref ob0), (.long p1)] 4 t := by
      intro t k
      refine g5 t ?_
      show FS p e below T4 m 31 #[oa ob0, oj (-p1), vS, vU] [(.int hi)] _
      refine XS.istoreN X4.here hx rfl (hb hby d8_31) rfl (l' := #[oa ob0, oj (-p1), vS, oi hi]) rfl ?_
      refine XS.iloadN X4.here hx rfl (hb hby d8_32) rfl ?_
      exact k
    by_cases hc6 : hi = (0 : Int32)
    · obtain ⟨T8, h8, k8, X8, e8, E8, A8, st8⟩ := newP X4 hx hZ (own_w hw 86 rfl) e4 (g := (mkF m 38 #[oa ob0, oj (-p1), vS, oi hi] [(.int (1 : Int32)), (.ref ob0)])) rfl (hb hby d8_38) rfl (by decide) (cap := 1) (by decide) (by decide) (by decide) (by decide)
      obtain ⟨b8, q_b8⟩ : ∃ z, z = h4.size := ⟨_, rfl⟩
      rw [← q_b8] at A8 st8
      have sz_b8 : h0.size ≤ b8 := Nat.le_trans (Keep.of_wr W4).1 (Nat.le_of_eq q_b8.symm)
      have gz_b8 : n0 ≤ b8 := Nat.le_trans Z0 sz_b8
      have f9 := (E_ob0.wr W4)
      have ne_ob0_b8 : ob0 ≠ b8 := Nat.ne_of_lt (Nat.lt_of_lt_of_le f9.lt (Nat.le_of_eq q_b8.symm))
      have V8 : Arv Z h8 b8 k8 .int (1 : Int32) [(.int (0 : Int32))] (.int (0 : Int32)) := (Arv.new A8 (by decide)).pad (pad_rep [] (.int (0 : Int32)) 1)
      have f10 := (f9.ext E8)
      have f11 := ((F_ob0_mag.other W4 (Or.inr (slot_ne (own_la2 hw) (own_la3 hw) (by decide) own_ty2 own_ty3))).ext E8)
      obtain ⟨T12, h12, X12, e12, W12, st12⟩ := putF X8 hx hZ hown (host := "") (Or.inl (own_w hw 87 rfl)) Via.refl e8 f11 f10 (Or.inr ⟨(own_w hw 88 rfl), rfl, hnm⟩) (own_w hw 72 rfl) (ty := (.array .int)) (by decide) rfl rfl (g := (mkF m 40 #[oa ob0, oj (-p1), vS, oi hi] [(.ref b8), (.ref ob0)])) rfl rfl (hb hby d8_40)
      have Fw12 := f11.same W12
      have N12 := Fr.snoc X12 N4 gz_ob0
      obtain ⟨T13, X13, e13, st13⟩ := getF X12 hx hZ hown (host := "") (Or.inl (own_w hw 87 rfl)) Via.refl e12 Fw12 (g := (mkF m 44 #[oa ob0, oj (-p1), vS, oi hi] [(.ref ob0)])) rfl rfl (hb hby d8_44)
      have f14 := (V8.other W12 (Ne.symm ne_ob0_b8))
      obtain ⟨c15, Ar15, cq15, S15, Nn15, Hh15, Gg15⟩ := id f14
      have hin15 : ¬ ((0 : Int32) < 0 ∨ c15.slots.size ≤ ((0 : Int32)).toNatClampNeg) := inb_of S15 ⟨by decide, by decide⟩
      obtain ⟨T16, h16, X16, e16, W16, st16⟩ := stI X13 hx hZ e13 Ar15 (j := (0 : Int32)) hin15 (g := (mkF m 50 #[oa ob0, oj (-p1), vS, oi hi] [(.int ((-p1).toInt32)), (.int (0 : Int32)), (.ref b8)])) rfl rfl (hb hby d8_50)
      have V16 := Arv.set Ar15 cq15 S15 Nn15 Hh15 Gg15 rfl W16 0 rfl (Nat.le_of_ble_eq_true rfl)
      have V16a : Arv Z h16 b8 k8 .int (1 : Int32) [(.int ((-p1).toInt32))] (.int (0 : Int32)) := V16
      have N16 := Fr.snoc X16 N12 gz_b8
      have g17 : ∀ t, FS p e below T16 m 76 #[oa ob0, oj (-p1), vS, oi hi] [] t → ES p e below s₁ m #[(.ref ob0), (.long p1)] 4 t := by
        intro t k
        refine g7 t ?_
        show FS p e below T4 m 33 #[oa ob0, oj (-p1), vS, oi hi] [(.int hi)] _
        refine XS.ifNo X4.here hx rfl (hb hby d8_33) rfl ((if0 _ _).trans (teq hc6).2) ?_
        refine XS.aloadN X4.here hx rfl (hb hby d8_36) rfl rfl ?_
        refine XS.iconst X4.here hx rfl (hb hby d8_37) ?_
        refine st8 _ ?_
        refine st12 _ ?_
        refine XS.aloadN X12.here hx rfl (hb hby d8_43) rfl rfl ?_
        refine st13 _ ?_
        refine XS.iconst X13.here hx rfl (hb hby d8_47) ?_
        refine XS.lloadN X13.here hx rfl (hb hby d8_48) rfl ?_
        refine XS.l2i X13.here hx rfl (hb hby d8_49) rfl ?_
        refine st16 _ ?_
        refine XS.goto X16.here hx rfl (pc0 := 51) (pc' := 76) rfl (hb hby d8_51) (by decide) (by decide) ?_
        exact k
      obtain ⟨fs, hrt, hrun, hended, hW, hsame⟩ := X16.leave (v := none) (fun _ => rfl)
      have f18 := ((f10.wr W12).wr W16)
      have f19 := (((Fw4.ext E8).other W12 (Or.inr (slot_ne (own_la3 hw) (own_la2 hw) (by decide) own_ty3 own_ty2))).other W16 (Or.inl ne_ob0_b8))
      have f20 := (Fw12.other W16 (Or.inl ne_ob0_b8))
      refine ⟨_, _, g17 _ ?_, hrun, hended, _, _, rfl, ?_, ⟨_, rfl⟩, hW, hsame.mono (by decide) (by decide)⟩
      · show Steps p.tables e below (T16.setTop (mkF m 76 #[oa ob0, oj (-p1), vS, oi hi] [])) _
        exact X16.returnOut hx Bd.returns (hb hby d8_76) hrt
      · show own_Q_rmA4 Z ob0 p1 sn zr zm ps ng zk h0 n0 _ T16.heap _
        rw [e16]
        exact ⟨rfl, N16, (Keep.wr (Keep.wr (Keep.ext (Keep.wr (Keep.refl h0 [ob0]) W4 (Or.inl (List.mem_of_getElem? (i := 0) rfl))) E8) W12 (Or.inl (List.mem_of_getElem? (i := 0) rfl))) W16 (Or.inr sz_b8)), b8, _, _, _, _, f18, f19, f20, V16a, (hsn hc2).symm, by decide⟩
    · obtain ⟨T21, h21, k21, X21, e21, E21, A21, st21⟩ := newP X4 hx hZ (own_w hw 86 rfl) e4 (g := (mkF m 56 #[oa ob0, oj (-p1), vS, oi hi] [(.int (2 : Int32)), (.ref ob0)])) rfl (hb hby d8_56) rfl (by decide) (cap := 2) (by decide) (by decide) (by decide) (by decide)
      obtain ⟨b21, q_b21⟩ : ∃ z, z = h4.size := ⟨_, rfl⟩
      rw [← q_b21] at A21 st21
      have sz_b21 : h0.size ≤ b21 := Nat.le_trans (Keep.of_wr W4).1 (Nat.le_of_eq q_b21.symm)
      have gz_b21 : n0 ≤ b21 := Nat.le_trans Z0 sz_b21
      have f22 := (E_ob0.wr W4)
      have ne_ob0_b21 : ob0 ≠ b21 := Nat.ne_of_lt (Nat.lt_of_lt_of_le f22.lt (Nat.le_of_eq q_b21.symm))
      have V21 : Arv Z h21 b21 k21 .int (2 : Int32) [(.int (0 : Int32)), (.int (0 : Int32))] (.int (0 : Int32)) := (Arv.new A21 (by decide)).pad (pad_rep [] (.int (0 : Int32)) 2)
      have f23 := (f22.ext E21)
      have f24 := ((F_ob0_mag.other W4 (Or.inr (slot_ne (own_la2 hw) (own_la3 hw) (by decide) own_ty2 own_ty3))).ext E21)
      obtain ⟨T25, h25, X25, e25, W25, st25⟩ := putF X21 hx hZ hown (host := "") (Or.inl (own_w hw 87 rfl)) Via.refl e21 f24 f23 (Or.inr ⟨(own_w hw 88 rfl), rfl, hnm⟩) (own_w hw 72 rfl) (ty := (.array .int)) (by decide) rfl rfl (g := (mkF m 58 #[oa ob0, oj (-p1), vS, oi hi] [(.ref b21), (.ref ob0)])) rfl rfl (hb hby d8_58)
      have Fw25 := f24.same W25
      have N25 := Fr.snoc X25 N4 gz_ob0
      obtain ⟨T26, X26, e26, st26⟩ := getF X25 hx hZ hown (host := "") (Or.inl (own_w hw 87 rfl)) Via.refl e25 Fw25 (g := (mkF m 62 #[oa ob0, oj (-p1), vS, oi hi] [(.ref ob0)])) rfl rfl (hb hby d8_62)
      have f27 := (V21.other W25 (Ne.symm ne_ob0_b21))
      obtain ⟨c28, Ar28, cq28, S28, Nn28, Hh28, Gg28⟩ := id f27
      have hin28 : ¬ ((0 : Int32) < 0 ∨ c28.slots.size ≤ ((0 : Int32)).toNatClampNeg) := inb_of S28 ⟨by decide, by decide⟩
      obtain ⟨T29, h29, X29, e29, W29, st29⟩ := stI X26 hx hZ e26 Ar28 (j := (0 : Int32)) hin28 (g := (mkF m 67 #[oa ob0, oj (-p1), vS, oi hi] [(.int hi), (.int (0 : Int32)), (.ref b21)])) rfl rfl (hb hby d8_67)
      have V29 := Arv.set Ar28 cq28 S28 Nn28 Hh28 Gg28 rfl W29 0 rfl (Nat.le_of_ble_eq_true rfl)
      have V29a : Arv Z h29 b21 k21 .int (2 : Int32) [(.int hi), (.int (0 : Int32))] (.int (0 : Int32)) := V29
      have N29 := Fr.snoc X29 N25 gz_b21
      have f30 := (Fw25.other W29 (Or.inl ne_ob0_b21))
      obtain ⟨T31, X31, e31, st31⟩ := getF X29 hx hZ hown (host := "") (Or.inl (own_w hw 87 rfl)) Via.refl e29 f30 (g := (mkF m 69 #[oa ob0, oj (-p1), vS, oi hi] [(.ref ob0)])) rfl rfl (hb hby d8_69)
      obtain ⟨c32, Ar32, cq32, S32, Nn32, Hh32, Gg32⟩ := id V29a
      have hin32 : ¬ ((1 : Int32) < 0 ∨ c32.slots.size ≤ ((1 : Int32)).toNatClampNeg) := inb_of S32 ⟨by decide, by decide⟩
      obtain ⟨T33, h33, X33, e33, W33, st33⟩ := stI X31 hx hZ e31 Ar32 (j := (1 : Int32)) hin32 (g := (mkF m 75 #[oa ob0, oj (-p1), vS, oi hi] [(.int ((-p1).toInt32)), (.int (1 : Int32)), (.ref b21)])) rfl rfl (hb hby d8_75)
      have V33 := Arv.set Ar32 cq32 S32 Nn32 Hh32 Gg32 rfl W33 1 rfl (Nat.le_of_ble_eq_true rfl)
      have V33a : Arv Z h33 b21 k21 .int (2 : Int32) [(.int hi), (.int ((-p1).toInt32))] (.int (0 : Int32)) := V33
      have N33 := Fr.snoc X33 N29 gz_b21
      have g34 : ∀ t, FS p e below T33 m 76 #[oa ob0, oj (-p1), vS, oi hi] [] t → ES p e below s₁ m #[(.ref ob0), (.long p1)] 4 t := by
        intro t k
        refine g7 t ?_
        show FS p e below T4 m 33 #[oa ob0, oj (-p1), vS, oi hi] [(.int hi)] _
        refine XS.ifYes X4.here hx rfl (pc0 := 33) (pc' := 54) rfl (hb hby d8_33) rfl ((if0 _ _).trans (feq hc6).2) (by decide) (by decide) ?_
        refine XS.aloadN X4.here hx rfl (hb hby d8_54) rfl rfl ?_
        refine XS.iconst X4.here hx rfl (hb hby d8_55) ?_
        refine st21 _ ?_
        refine st25 _ ?_
        refine XS.aloadN X25.here hx rfl (hb hby d8_61) rfl rfl ?_
        refine st26 _ ?_
        refine XS.iconst X26.here hx rfl (hb hby d8_65) ?_
        refine XS.iloadN X26.here hx rfl (hb hby d8_66) rfl ?_
        refine st29 _ ?_
        refine XS.aloadN X29.here hx rfl (hb hby d8_68) rfl rfl ?_
        refine st31 _ ?_
        refine XS.iconst X31.here hx rfl (hb hby d8_72) ?_
        refine XS.lloadN X31.here hx rfl (hb hby d8_73) rfl ?_
        refine XS.l2i X31.here hx rfl (hb hby d8_74) rfl ?_
        refine st33 _ ?_
        exact k
      obtain ⟨fs, hrt, hrun, hended, hW, hsame⟩ := X33.leave (v := none) (fun _ => rfl)
      have f35 := (((f23.wr W25).wr W29).wr W33)
      have f36 := ((((Fw4.ext E21).other W25 (Or.inr (slot_ne (own_la3 hw) (own_la2 hw) (by decide) own_ty3 own_ty2))).other W29 (Or.inl ne_ob0_b21)).other W33 (Or.inl ne_ob0_b21))
      have f37 := (f30.other W33 (Or.inl ne_ob0_b21))
      refine ⟨_, _, g34 _ ?_, hrun, hended, _, _, rfl, ?_, ⟨_, rfl⟩, hW, hsame.mono (by decide) (by decide)⟩
      · show Steps p.tables e below (T33.setTop (mkF m 76 #[oa ob0, oj (-p1), vS, oi hi] [])) _
        exact X33.returnOut hx Bd.returns (hb hby d8_76) hrt
      · show own_Q_rmA4 Z ob0 p1 sn zr zm ps ng zk h0 n0 _ T33.heap _
        rw [e33]
        exact ⟨rfl, N33, (Keep.wr (Keep.wr (Keep.wr (Keep.ext (Keep.wr (Keep.refl h0 [ob0]) W4 (Or.inl (List.mem_of_getElem? (i := 0) rfl))) E21) W25 (Or.inl (List.mem_of_getElem? (i := 0) rfl))) W29 (Or.inr sz_b21)) W33 (Or.inr sz_b21)), b21, _, _, _, _, f35, f36, f37, V33a, (hsn hc2).symm, by decide⟩
  · obtain ⟨T38, h38, X38, e38, W38, st38⟩ := putF X1 hx hZ hown (host := "") (Or.inl (own_w hw 84 rfl)) Via.refl e1 F_ob0_signum E_ob0 (Or.inr ⟨(own_w hw 85 rfl), rfl, hnm⟩) (own_w hw 72 rfl) (ty := .int) (by decide) rfl rfl (g := (mkF m 23 #[oa ob0, oj p1, vS, vU] [(.int (1 : Int32)), (.ref ob0)])) rfl rfl (hb hby d8_23)
    have Fw38 := F_ob0_signum.same W38
    have N38 := Fr.snoc X38 N1 gz_ob0
    obtain ⟨hi, hv_hi⟩ : ∃ z : Int32, z = (((p1.toUInt64 >>> ((32 : Int32) &&& 0x3f).toInt64.toUInt64).toInt64).toInt32) := ⟨_, rfl⟩
    have g39 : ∀ t, FS p e below T38 m 31 #[oa ob0, oj p1, vS, vU] [(.int hi)] t → ES p e below s₁ m #[(.ref ob0), (.long p1)] 4 t := by
      intro t k
      rw [hv_hi] at k
      refine g3 t ?_
      show FS p e below T1 m 7 #[oa ob0, oj p1, vS, vU] [(.int (lcmpW p1 (0 : Int64)))] _
      refine XS.ifYes X1.here hx rfl (pc0 := 7) (pc' := 21) rfl (hb hby d8_7) rfl ((if0 _ _).trans (flt (fun q => hc2 ((lw_lt _ _).mp q))).2.1) (by decide) (by decide) ?_
      refine XS.aloadN X1.here hx rfl (hb hby d8_21) rfl rfl ?_
      refine XS.iconst X1.here hx rfl (hb hby d8_22) ?_
      refine st38 _ ?_
      refine XS.lloadN X38.here hx rfl (hb hby d8_26) rfl ?_
      refine XS.bipush X38.here hx rfl (hb hby d8_27) ?_
      refine XS.lushr X38.here hx rfl (hb hby d8_29) rfl ?_
      refine XS.l2i X38.here hx rfl (hb hby d8_30) rfl ?_
      exact k
    have g41 : ∀ t, FS p e below T38 m 33 #[oa ob0, oj p1, vS, oi hi] [(.int hi)] t → ES p e below s₁ m #[(.ref ob0), (.long p1)] 4 t := by
      intro t k
      refine g39 t ?_
      show FS p e below T38 m 31 #[oa ob0, oj p1, vS, vU] [(.int hi)] _
      refine XS.istoreN X38.here hx rfl (hb hby d8_31) rfl (l' := #[oa ob0, oj p1, vS, oi hi]) rfl ?_
      refine XS.iloadN X38.here hx rfl (hb hby d8_32) rfl ?_
      exact k
    by_cases hc40 : hi = (0 : Int32)
    · obtain ⟨T42, h42, k42, X42, e42, E42, A42, st42⟩ := newP X38 hx hZ (own_w hw 86 rfl) e38 (g := (mkF m 38 #[oa ob0, oj p1, vS, oi hi] [(.int (1 : Int32)), (.ref ob0)])) rfl (hb hby d8_38) rfl (by decide) (cap := 1) (by decide) (by decide) (by decide) (by decide)
      obtain ⟨b42, q_b42⟩ : ∃ z, z = h38.size := ⟨_, rfl⟩
      rw [← q_b42] at A42 st42
      have sz_b42 : h0.size ≤ b42 := Nat.le_trans (Keep.of_wr W38).1 (Nat.le_of_eq q_b42.symm)
      have gz_b42 : n0 ≤ b42 := Nat.le_trans Z0 sz_b42
      have f43 := (E_ob0.wr W38)
      have ne_ob0_b42 : ob0 ≠ b42 := Nat.ne_of_lt (Nat.lt_of_lt_of_le f43.lt (Nat.le_of_eq q_b42.symm))
      have V42 : Arv Z h42 b42 k42 .int (1 : Int32) [(.int (0 : Int32))] (.int (0 : Int32)) := (Arv.new A42 (by decide)).pad (pad_rep [] (.int (0 : Int32)) 1)
      have f44 := (f43.ext E42)
      have f45 := ((F_ob0_mag.other W38 (Or.inr (slot_ne (own_la2 hw) (own_la3 hw) (by decide) own_ty2 own_ty3))).ext E42)
      obtain ⟨T46, h46, X46, e46, W46, st46⟩ := putF X42 hx hZ hown (host := "") (Or.inl (own_w hw 87 rfl)) Via.refl e42 f45 f44 (Or.inr ⟨(own_w hw 88 rfl), rfl, hnm⟩) (own_w hw 72 rfl) (ty := (.array .int)) (by decide) rfl rfl (g := (mkF m 40 #[oa ob0, oj p1, vS, oi hi] [(.ref b42), (.ref ob0)])) rfl rfl (hb hby d8_40)
      have Fw46 := f45.same W46
      have N46 := Fr.snoc X46 N38 gz_ob0
      obtain ⟨T47, X47, e47, st47⟩ := getF X46 hx hZ hown (host := "") (Or.inl (own_w hw 87 rfl)) Via.refl e46 Fw46 (g := (mkF m 44 #[oa ob0, oj p1, vS, oi hi] [(.ref ob0)])) rfl rfl (hb hby d8_44)
      have f48 := (V42.other W46 (Ne.symm ne_ob0_b42))
      obtain ⟨c49, Ar49, cq49, S49, Nn49, Hh49, Gg49⟩ := id f48
      have hin49 : ¬ ((0 : Int32) < 0 ∨ c49.slots.size ≤ ((0 : Int32)).toNatClampNeg) := inb_of S49 ⟨by decide, by decide⟩
      obtain ⟨T50, h50, X50, e50, W50, st50⟩ := stI X47 hx hZ e47 Ar49 (j := (0 : Int32)) hin49 (g := (mkF m 50 #[oa ob0, oj p1, vS, oi hi] [(.int (p1.toInt32)), (.int (0 : Int32)), (.ref b42)])) rfl rfl (hb hby d8_50)
      have V50 := Arv.set Ar49 cq49 S49 Nn49 Hh49 Gg49 rfl W50 0 rfl (Nat.le_of_ble_eq_true rfl)
      have V50a : Arv Z h50 b42 k42 .int (1 : Int32) [(.int (p1.toInt32))] (.int (0 : Int32)) := V50
      have N50 := Fr.snoc X50 N46 gz_b42
      have g51 : ∀ t, FS p e below T50 m 76 #[oa ob0, oj p1, vS, oi hi] [] t → ES p e below s₁ m #[(.ref ob0), (.long p1)] 4 t := by
        intro t k
        refine g41 t ?_
        show FS p e below T38 m 33 #[oa ob0, oj p1, vS, oi hi] [(.int hi)] _
        refine XS.ifNo X38.here hx rfl (hb hby d8_33) rfl ((if0 _ _).trans (teq hc40).2) ?_
        refine XS.aloadN X38.here hx rfl (hb hby d8_36) rfl rfl ?_
        refine XS.iconst X38.here hx rfl (hb hby d8_37) ?_
        refine st42 _ ?_
        refine st46 _ ?_
        refine XS.aloadN X46.here hx rfl (hb hby d8_43) rfl rfl ?_
        refine st47 _ ?_
        refine XS.iconst X47.here hx rfl (hb hby d8_47) ?_
        refine XS.lloadN X47.here hx rfl (hb hby d8_48) rfl ?_
        refine XS.l2i X47.here hx rfl (hb hby d8_49) rfl ?_
        refine st50 _ ?_
        refine XS.goto X50.here hx rfl (pc0 := 51) (pc' := 76) rfl (hb hby d8_51) (by decide) (by decide) ?_
        exact k
      obtain ⟨fs, hrt, hrun, hended, hW, hsame⟩ := X50.leave (v := none) (fun _ => rfl)
      have f52 := ((f44.wr W46).wr W50)
      have f53 := (((Fw38.ext E42).other W46 (Or.inr (slot_ne (own_la3 hw) (own_la2 hw) (by decide) own_ty3 own_ty2))).other W50 (Or.inl ne_ob0_b42))
      have f54 := (Fw46.other W50 (Or.inl ne_ob0_b42))
      refine ⟨_, _, g51 _ ?_, hrun, hended, _, _, rfl, ?_, ⟨_, rfl⟩, hW, hsame.mono (by decide) (by decide)⟩
      · show Steps p.tables e below (T50.setTop (mkF m 76 #[oa ob0, oj p1, vS, oi hi] [])) _
        exact X50.returnOut hx Bd.returns (hb hby d8_76) hrt
      · show own_Q_rmA4 Z ob0 p1 sn zr zm ps ng zk h0 n0 _ T50.heap _
        rw [e50]
        exact ⟨rfl, N50, (Keep.wr (Keep.wr (Keep.ext (Keep.wr (Keep.refl h0 [ob0]) W38 (Or.inl (List.mem_of_getElem? (i := 0) rfl))) E42) W46 (Or.inl (List.mem_of_getElem? (i := 0) rfl))) W50 (Or.inr sz_b42)), b42, _, _, _, _, f52, f53, f54, V50a, (hsp hc2).symm, by decide⟩
    · obtain ⟨T55, h55, k55, X55, e55, E55, A55, st55⟩ := newP X38 hx hZ (own_w hw 86 rfl) e38 (g := (mkF m 56 #[oa ob0, oj p1, vS, oi hi] [(.int (2 : Int32)), (.ref ob0)])) rfl (hb hby d8_56) rfl (by decide) (cap := 2) (by decide) (by decide) (by decide) (by decide)
      obtain ⟨b55, q_b55⟩ : ∃ z, z = h38.size := ⟨_, rfl⟩
      rw [← q_b55] at A55 st55
      have sz_b55 : h0.size ≤ b55 := Nat.le_trans (Keep.of_wr W38).1 (Nat.le_of_eq q_b55.symm)
      have gz_b55 : n0 ≤ b55 := Nat.le_trans Z0 sz_b55
      have f56 := (E_ob0.wr W38)
      have ne_ob0_b55 : ob0 ≠ b55 := Nat.ne_of_lt (Nat.lt_of_lt_of_le f56.lt (Nat.le_of_eq q_b55.symm))
      have V55 : Arv Z h55 b55 k55 .int (2 : Int32) [(.int (0 : Int32)), (.int (0 : Int32))] (.int (0 : Int32)) := (Arv.new A55 (by decide)).pad (pad_rep [] (.int (0 : Int32)) 2)
      have f57 := (f56.ext E55)
      have f58 := ((F_ob0_mag.other W38 (Or.inr (slot_ne (own_la2 hw) (own_la3 hw) (by decide) own_ty2 own_ty3))).ext E55)
      obtain ⟨T59, h59, X59, e59, W59, st59⟩ := putF X55 hx hZ hown (host := "") (Or.inl (own_w hw 87 rfl)) Via.refl e55 f58 f57 (Or.inr ⟨(own_w hw 88 rfl), rfl, hnm⟩) (own_w hw 72 rfl) (ty := (.array .int)) (by decide) rfl rfl (g := (mkF m 58 #[oa ob0, oj p1, vS, oi hi] [(.ref b55), (.ref ob0)])) rfl rfl (hb hby d8_58)
      have Fw59 := f58.same W59
      have N59 := Fr.snoc X59 N38 gz_ob0
      obtain ⟨T60, X60, e60, st60⟩ := getF X59 hx hZ hown (host := "") (Or.inl (own_w hw 87 rfl)) Via.refl e59 Fw59 (g := (mkF m 62 #[oa ob0, oj p1, vS, oi hi] [(.ref ob0)])) rfl rfl (hb hby d8_62)
      have f61 := (V55.other W59 (Ne.symm ne_ob0_b55))
      obtain ⟨c62, Ar62, cq62, S62, Nn62, Hh62, Gg62⟩ := id f61
      have hin62 : ¬ ((0 : Int32) < 0 ∨ c62.slots.size ≤ ((0 : Int32)).toNatClampNeg) := inb_of S62 ⟨by decide, by decide⟩
      obtain ⟨T63, h63, X63, e63, W63, st63⟩ := stI X60 hx hZ e60 Ar62 (j := (0 : Int32)) hin62 (g := (mkF m 67 #[oa ob0, oj p1, vS, oi hi] [(.int hi), (.int (0 : Int32)), (.ref b55)])) rfl rfl (hb hby d8_67)
      have V63 := Arv.set Ar62 cq62 S62 Nn62 Hh62 Gg62 rfl W63 0 rfl (Nat.le_of_ble_eq_true rfl)
      have V63a : Arv Z h63 b55 k55 .int (2 : Int32) [(.int hi), (.int (0 : Int32))] (.int (0 : Int32)) := V63
      have N63 := Fr.snoc X63 N59 gz_b55
      have f64 := (Fw59.other W63 (Or.inl ne_ob0_b55))
      obtain ⟨T65, X65, e65, st65⟩ := getF X63 hx hZ hown (host := "") (Or.inl (own_w hw 87 rfl)) Via.refl e63 f64 (g := (mkF m 69 #[oa ob0, oj p1, vS, oi hi] [(.ref ob0)])) rfl rfl (hb hby d8_69)
      obtain ⟨c66, Ar66, cq66, S66, Nn66, Hh66, Gg66⟩ := id V63a
      have hin66 : ¬ ((1 : Int32) < 0 ∨ c66.slots.size ≤ ((1 : Int32)).toNatClampNeg) := inb_of S66 ⟨by decide, by decide⟩
      obtain ⟨T67, h67, X67, e67, W67, st67⟩ := stI X65 hx hZ e65 Ar66 (j := (1 : Int32)) hin66 (g := (mkF m 75 #[oa ob0, oj p1, vS, oi hi] [(.int (p1.toInt32)), (.int (1 : Int32)), (.ref b55)])) rfl rfl (hb hby d8_75)
      have V67 := Arv.set Ar66 cq66 S66 Nn66 Hh66 Gg66 rfl W67 1 rfl (Nat.le_of_ble_eq_true rfl)
      have V67a : Arv Z h67 b55 k55 .int (2 : Int32) [(.int hi), (.int (p1.toInt32))] (.int (0 : Int32)) := V67
      have N67 := Fr.snoc X67 N63 gz_b55
      have g68 : ∀ t, FS p e below T67 m 76 #[oa ob0, oj p1, vS, oi hi] [] t → ES p e below s₁ m #[(.ref ob0), (.long p1)] 4 t := by
        intro t k
        refine g41 t ?_
        show FS p e below T38 m 33 #[oa ob0, oj p1, vS, oi hi] [(.int hi)] _
        refine XS.ifYes X38.here hx rfl (pc0 := 33) (pc' := 54) rfl (hb hby d8_33) rfl ((if0 _ _).trans (feq hc40).2) (by decide) (by decide) ?_
        refine XS.aloadN X38.here hx rfl (hb hby d8_54) rfl rfl ?_
        refine XS.iconst X38.here hx rfl (hb hby d8_55) ?_
        refine st55 _ ?_
        refine st59 _ ?_
        refine XS.aloadN X59.here hx rfl (hb hby d8_61) rfl rfl ?_
        refine st60 _ ?_
        refine XS.iconst X60.here hx rfl (hb hby d8_65) ?_
        refine XS.iloadN X60.here hx rfl (hb hby d8_66) rfl ?_
        refine st63 _ ?_
        refine XS.aloadN X63.here hx rfl (hb hby d8_68) rfl rfl ?_
        refine st65 _ ?_
        refine XS.iconst X65.here hx rfl (hb hby d8_72) ?_
        refine XS.lloadN X65.here hx rfl (hb hby d8_73) rfl ?_
        refine XS.l2i X65.here hx rfl (hb hby d8_74) rfl ?_
        refine st67 _ ?_
        exact k
      obtain ⟨fs, hrt, hrun, hended, hW, hsame⟩ := X67.leave (v := none) (fun _ => rfl)
      have f69 := (((f57.wr W59).wr W63).wr W67)
      have f70 := ((((Fw38.ext E55).other W59 (Or.inr (slot_ne (own_la3 hw) (own_la2 hw) (by decide) own_ty3 own_ty2))).other W63 (Or.inl ne_ob0_b55)).other W67 (Or.inl ne_ob0_b55))
      have f71 := (f64.other W67 (Or.inl ne_ob0_b55))
      refine ⟨_, _, g68 _ ?_, hrun, hended, _, _, rfl, ?_, ⟨_, rfl⟩, hW, hsame.mono (by decide) (by decide)⟩
      · show Steps p.tables e below (T67.setTop (mkF m 76 #[oa ob0, oj p1, vS, oi hi] [])) _
        exact X67.returnOut hx Bd.returns (hb hby d8_76) hrt
      · show own_Q_rmA4 Z ob0 p1 sn zr zm ps ng zk h0 n0 _ T67.heap _
        rw [e67]
        exact ⟨rfl, N67, (Keep.wr (Keep.wr (Keep.wr (Keep.ext (Keep.wr (Keep.refl h0 [ob0]) W38 (Or.inl (List.mem_of_getElem? (i := 0) rfl))) E55) W59 (Or.inl (List.mem_of_getElem? (i := 0) rfl))) W63 (Or.inr sz_b55)) W67 (Or.inr sz_b55)), b55, _, _, _, _, f69, f70, f71, V67a, (hsp hc2).symm, by decide⟩
theorem own_pd2 : parseMethodDescriptor "(J)V" = some ⟨[.long], none⟩ := by decide +kernel
theorem d7_61 : decode q7 61 = .ok (.areturn, 1) := by decide +kernel
theorem d7_24 : decode q7 24 = .ok (.getstatic 347, 3) := by decide +kernel
theorem d7_27 : decode q7 27 = .ok (.lload_n 0, 1) := by decide +kernel
theorem d7_28 : decode q7 28 = .ok (.l2i, 1) := by decide +kernel
theorem d7_29 : decode q7 29 = .ok (.aaload, 1) := by decide +kernel
theorem d7_30 : decode q7 30 = .ok (.areturn, 1) := by decide +kernel
theorem d7_37 : decode q7 37 = .ok (.lload_n 0, 1) := by decide +kernel
theorem d7_38 : decode q7 38 = .ok (.ldc2_w 351, 3) := by decide +kernel
theorem d7_41 : decode q7 41 = .ok (.lcmp, 1) := by decide +kernel
theorem d7_42 : decode q7 42 = .ok (.ifCond .lt 11, 3) := by decide +kernel
theorem d7_45 : decode q7 45 = .ok (.getstatic 353, 3) := by decide +kernel
theorem d7_48 : decode q7 48 = .ok (.lload_n 0, 1) := by decide +kernel
theorem d7_49 : decode q7 49 = .ok (.lneg, 1) := by decide +kernel
theorem d7_50 : decode q7 50 = .ok (.l2i, 1) := by decide +kernel
theorem d7_51 : decode q7 51 = .ok (.aaload, 1) := by decide +kernel
theorem d7_52 : decode q7 52 = .ok (.areturn, 1) := by decide +kernel
def own_Q_rmA3 (Z : State) (p0 : Int64) (sn : Int32) (zr zm ps ng : Addr) (zk : ClassId) (h0 : Heap) (n0 : Nat) (v : Option Value) (h : Heap) (L : List Loc) : Prop := ∃ (rb rm : Addr) (rk : ClassId) (rz rs : Int32) (rl : List Value), v = some (.ref rb) ∧ Fr n0 L ∧ Keep h0 h [] ∧ Exa Z h rb "java/math/BigInteger" ∧ Fld Z h rb "java/math/BigInteger" "signum" "I" (.int rs) ∧ Fld Z h rb "java/math/BigInteger" "mag" "[I" (.ref rm) ∧ Arv Z h rm rk .int rz rl (.int (0 : Int32)) ∧ (rs = (0 : Int32) ∨ (rs = sn ∧ (rz = (1 : Int32) ∨ rz = (2 : Int32))))
theorem rmA3 (l : Launch) (Z : State) (a0 : Array Value) (hw : ∀ d ∈ tables_1, d.before a0 Z = true) (ws : List Jvm.Cond) (p0 : Int64) (sn : Int32) (zr zm ps ng : Addr) (zk : ClassId) (h0 : Heap) (n0 : Nat) (O0 : Old Z n0 h0) (G : own_Gl Z zr zm ps ng zk) (hsn : p0 < (0 : Int64) → sn = (-1 : Int32)) (hsp : ¬ (p0 < (0 : Int64)) → sn = (1 : Int32)) :
    MetFree l own_y3 (head1 (Jvm.Cond.code own_y3 jdk_2097_method_29_code 2 (some (.object "java/math/BigInteger")) :: ws) ({ frames := 3, cells := 2, slots := 8, locals := 40 } : Room)) (fun a U => a = #[(.long p0)] ∧ Z.Warmed39 U.vm ∧ U.heap = h0) (fun _ _ _ _ _ => True) (fun _ U o U' => ∃ v L, o = .returned v ∧ own_Q_rmA3 Z p0 sn zr zm ps ng zk h0 n0 v U'.heap L ∧ FrameEnd U o U' L ({ frames := 3, cells := 2, slots := 8, locals := 40 } : Room).cells ({ frames := 3, cells := 2, slots := 8, locals := 40 } : Room).slots) := by
  refine MetFree.of_bodySF (plainFor_of_name own_pn1) hisR ?_
  intro p e s m args below meth c s₁ Bd hml0 hP hK
  obtain ⟨rfl, hZ, hh⟩ := hP
  have hx := Bd.exec
  have hby := Bd.bytes
  have hml : c.maxLocals = 2 := hml0
  have hown : s.vm.findClass "java/math/BigInteger" = some m.cls := findClass_of_methodNamed Bd.named
  have hnm := (name_of_methodNamed Bd.named Bd.method).1
  have X0 : Stand p l e ({ frames := 3, cells := 2, slots := 8, locals := 40 } : Room) s m #[(.long p0)] below meth c s₁ [] 0 0 := Stand.of_body Bd
  have e0 : s₁.heap = h0 := by rw [← hh, Bd.state]; rfl
  have N0 := Fr.nil n0
  have Z0 : n0 ≤ h0.size := O0.1 ▸ O0.2.1
  have g0 : ∀ t, FS p e below s₁ m 0 #[oj p0, vS] [] t → ES p e below s₁ m #[(.long p0)] 2 t := fun t k => castTop (own_ef4 m (p0)) k
  have G0 := G
  obtain ⟨S_Z, E_Z, F_Zs, F_Zm, V_Z, S_P, P_P, S_N, P_N⟩ := G
  have g2 : ∀ t, FS p e below s₁ m 3 #[oj p0, vS] [(.int (lcmpW p0 (0 : Int64)))] t → ES p e below s₁ m #[(.long p0)] 2 t := by
    intro t k
    refine g0 t ?_
    show FS p e below s₁ m 0 #[oj p0, vS] [] _
    refine XS.lloadN X0.here hx rfl (hb hby d7_0) rfl ?_
    refine XS.lconst X0.here hx rfl (hb hby d7_1) ?_
    refine XS.lcmp X0.here hx rfl (hb hby d7_2) rfl ?_
    exact k
  by_cases hc1 : p0 = (0 : Int64)
  · obtain ⟨T3, X3, e3, st3⟩ := getS2 X0 hx hZ hown (host := "") (Or.inl (own_w hw 196 rfl)) Via.refl e0 (S_Z.ext O0.2) (g := (mkF m 6 #[oj p0, vS] [])) rfl (hb hby d7_6)
    have g4 : ∀ t, FS p e below T3 m 9 #[oj p0, vS] [(.ref zr)] t → ES p e below s₁ m #[(.long p0)] 2 t := by
      intro t k
      refine g2 t ?_
      show FS p e below s₁ m 3 #[oj p0, vS] [(.int (lcmpW p0 (0 : Int64)))] _
      refine XS.ifNo X0.here hx rfl (hb hby d7_3) rfl ((if0 _ _).trans (teq ((lw_eq _ _).mpr hc1)).2) ?_
      refine st3 _ ?_
      exact k
    obtain ⟨fs, hrt, hrun, hended, hW, hsame⟩ := X3.leave (v := some (.ref zr)) (fun h => by rw [Bd.returns] at h; cases h)
    refine ⟨_, _, g4 _ ?_, hrun, hended, _, _, rfl, ?_, ⟨_, rfl⟩, hW, hsame.mono (by decide) (by decide)⟩
    · show Steps p.tables e below (T3.setTop (mkF m 9 #[oj p0, vS] [(.ref zr)])) _
      jvm_step X3.here [X3.here.top, hx, (hb hby d7_9), X3.method', Bd.returns, Value.isRef, FieldType.isReference]
      first | (intro acts; rw [hrt _ acts rfl rfl rfl]) | rw [hrt _ _ rfl rfl rfl]
      exact Steps.refl _
    · show own_Q_rmA3 Z p0 sn zr zm ps ng zk h0 n0 _ T3.heap _
      rw [e3]
      exact ⟨zr, zm, _, _, _, _, rfl, N0, (Keep.refl h0 []), (E_Z.ext O0.2), (F_Zs.ext O0.2), (F_Zm.ext O0.2), (V_Z.ext O0.2), Or.inl rfl⟩
  · have g6 : ∀ t, FS p e below s₁ m 13 #[oj p0, vS] [(.int (lcmpW p0 (0 : Int64)))] t → ES p e below s₁ m #[(.long p0)] 2 t := by
      intro t k
      refine g2 t ?_
      show FS p e below s₁ m 3 #[oj p0, vS] [(.int (lcmpW p0 (0 : Int64)))] _
      refine XS.ifYes X0.here hx rfl (pc0 := 3) (pc' := 10) rfl (hb hby d7_3) rfl ((if0 _ _).trans (feq (fun q => hc1 ((lw_eq _ _).mp q))).2) (by decide) (by decide) ?_
      refine XS.lloadN X0.here hx rfl (hb hby d7_10) rfl ?_
      refine XS.lconst X0.here hx rfl (hb hby d7_11) ?_
      refine XS.lcmp X0.here hx rfl (hb hby d7_12) rfl ?_
      exact k
    by_cases hc5 : (0 : Int64) < p0
    · have g8 : ∀ t, FS p e below s₁ m 21 #[oj p0, vS] [(.int (lcmpW p0 (16 : Int64)))] t → ES p e below s₁ m #[(.long p0)] 2 t := by
        intro t k
        refine g6 t ?_
        show FS p e below s₁ m 13 #[oj p0, vS] [(.int (lcmpW p0 (0 : Int64)))] _
        refine XS.ifNo X0.here hx rfl (hb hby d7_13) rfl ((if0 _ _).trans (tlt ((lw_gt _ _).mpr hc5)).2.2.2) ?_
        refine XS.lloadN X0.here hx rfl (hb hby d7_16) rfl ?_
        refine X0.ldc2Long hx hown (mvT hZ (own_w hw 69 rfl)) (g := (mkF m 17 #[oj p0, vS] [(.long p0)])) rfl (hb hby d7_17) _ ?_
        refine XS.lcmp X0.here hx rfl (hb hby d7_20) rfl ?_
        exact k
      by_cases hc7 : (16 : Int64) < p0
      · have hc9 : ¬ (p0 < (0 : Int64)) := own_pos hc5
        obtain ⟨T10, h10, X10, e10, E10, A10, D10, -, st10⟩ := newO X0 hx hZ hown (own_w hw 71 rfl) (own_w hw 72 rfl) (own_w hw 52 rfl) e0 (g := (mkF m 53 #[oj p0, vS] [])) rfl (hb hby d7_53) (by decide) (by decide)
        obtain ⟨b10, q_b10⟩ : ∃ z, z = h0.size := ⟨_, rfl⟩
        rw [← q_b10] at A10 D10 st10
        have sz_b10 : h0.size ≤ b10 := Nat.le_of_eq q_b10.symm
        have gz_b10 : n0 ≤ b10 := Nat.le_trans Z0 sz_b10
        have F10_signum : Fld Z h10 b10 "java/math/BigInteger" "signum" "I" (.int (0 : Int32)) := D10 (Or.inr (own_w hw 85 rfl)) (ty := .int) (by decide)
        have F10_mag : Fld Z h10 b10 "java/math/BigInteger" "mag" "[I" .null := D10 (Or.inr (own_w hw 88 rfl)) (ty := (.array .int)) (by decide)
        have o11 : Old Z n0 h10 := (Old.ext O0 E10)
        obtain ⟨_, _, ⟨T12, L12, k12, n12⟩, -, X12, ⟨Lc12, hQ12, l12, y12, z12⟩, st12⟩ := X10.specialBack hx (y := own_y4) rfl hown (mvT hZ (own_w hw 73 rfl)) (mvT hZ (own_w hw 74 rfl)) (mvT hZ (own_w hw 76 rfl)) (by decide) (backOf (W := 1) (rmA4 l Z a0 hw [] b10 (p0) sn zr zm ps ng zk h10 n0 o11 G0 A10 F10_mag F10_signum gz_b10 hsn hsp) hZ (own_w hw 76 rfl) (own_w hw 52 rfl) (by decide) (by decide)) (g := (mkF m 58 #[oj p0, vS] [(.long p0), (.ref b10), (.ref b10)])) rfl (by rw [hml]; rfl) (Steps.refl _) (a := b10) (argsL := [(.long p0)]) (rest := [(.ref b10)]) (lenOf own_pd2 rfl) rfl (own_W0 rfl) (hb hby d7_58) (fun _ _ => ⟨rfl, e10, (by decide : 1 + 1 ≤ _), (by decide : 6 + 2 ≤ _)⟩)
        dsimp only [Pt.U, Pt.locs, Pt.cells, Pt.slots] at X12 l12 y12 z12 st12 hQ12
        subst l12 y12 z12
        obtain ⟨rfl, Nq12, K12, rm12, rk12, rz12, rs12, rl12, Qe12, Qs12, Qm12, Qa12, Qx12, Qy12⟩ := hQ12
        have N12 := Fr.app N0 Nq12
        have g13 : ∀ t, FS p e below T12 m 61 #[oj p0, vS] [(.ref b10)] t → ES p e below s₁ m #[(.long p0)] 2 t := by
          intro t k
          refine g8 t ?_
          show FS p e below s₁ m 21 #[oj p0, vS] [(.int (lcmpW p0 (16 : Int64)))] _
          refine XS.ifYes X0.here hx rfl (pc0 := 21) (pc' := 31) rfl (hb hby d7_21) rfl ((if0 _ _).trans (tlt ((lw_gt _ _).mpr hc7)).2.2.1) (by decide) (by decide) ?_
          refine XS.lloadN X0.here hx rfl (hb hby d7_31) rfl ?_
          refine XS.lconst X0.here hx rfl (hb hby d7_32) ?_
          refine XS.lcmp X0.here hx rfl (hb hby d7_33) rfl ?_
          refine XS.ifYes X0.here hx rfl (pc0 := 34) (pc' := 53) rfl (hb hby d7_34) rfl ((if0 _ _).trans (flt (fun q => hc9 ((lw_lt _ _).mp q))).2.1) (by decide) (by decide) ?_
          refine st10 _ ?_
          refine XS.dup X10.here hx rfl (hb hby d7_56) rfl rfl ?_
          refine XS.lloadN X10.here hx rfl (hb hby d7_57) rfl ?_
          refine st12.trans ?_
          exact k
        obtain ⟨fs, hrt, hrun, hended, hW, hsame⟩ := X12.leave (v := some (.ref b10)) (fun h => by rw [Bd.returns] at h; cases h)
        refine ⟨_, _, g13 _ ?_, hrun, hended, _, _, rfl, ?_, ⟨_, rfl⟩, hW, hsame.mono (by decide) (by decide)⟩
        · show Steps p.tables e below (T12.setTop (mkF m 61 #[oj p0, vS] [(.ref b10)])) _
          jvm_step X12.here [X12.here.top, hx, (hb hby d7_61), X12.method', Bd.returns, Value.isRef, FieldType.isReference]
          first | (intro acts; rw [hrt _ acts rfl rfl rfl]) | rw [hrt _ _ rfl rfl rfl]
          exact Steps.refl _
        · show own_Q_rmA3 Z p0 sn zr zm ps ng zk h0 n0 _ T12.heap _
          exact ⟨b10, rm12, _, _, _, _, rfl, N12, (Keep.trans (Keep.ext (Keep.refl h0 []) E10) K12 (allS (Or.inr sz_b10) all0)), Qe12, Qs12, Qm12, Qa12, Or.inr ⟨Qx12, Qy12⟩⟩
      · obtain ⟨T14, X14, e14, st14⟩ := getS2 X0 hx hZ hown (host := "") (Or.inl (own_w hw 70 rfl)) Via.refl e0 (S_P.ext O0.2) (g := (mkF m 24 #[oj p0, vS] [])) rfl (hb hby d7_24)
        obtain ⟨cl15, Ar15, sz15, el15⟩ := P_P
        obtain ⟨hj15, hk15, hl15⟩ := own_ipos p0 hc5 hc7
        obtain ⟨eb15, em15, ek15, ev15, hs15, Ee15, Fs15, Fm15, Va15⟩ := el15 _ hk15 hl15
        have hin15 : ¬ ((p0.toInt32) < 0 ∨ cl15.slots.size ≤ ((p0.toInt32)).toNatClampNeg) := own_in17 hj15 hl15 sz15
        have Aq15 := Arr.ext O0.2 Ar15
        have g16 : ∀ t, FS p e below T14 m 30 #[oj p0, vS] [(.ref eb15)] t → ES p e below s₁ m #[(.long p0)] 2 t := by
          intro t k
          refine g8 t ?_
          show FS p e below s₁ m 21 #[oj p0, vS] [(.int (lcmpW p0 (16 : Int64)))] _
          refine XS.ifNo X0.here hx rfl (hb hby d7_21) rfl ((if0 _ _).trans (flt (fun q => hc7 ((lw_gt _ _).mp q))).2.2.1) ?_
          refine st14 _ ?_
          refine XS.lloadN X14.here hx rfl (hb hby d7_27) rfl ?_
          refine XS.l2i X14.here hx rfl (hb hby d7_28) rfl ?_
          refine X14.aaload hx (j := (p0.toInt32)) (v := .ref eb15) (by rw [e14]; exact Aq15.1) (State.isArrayOf_alike hZ.alike Aq15.2.1) rfl Aq15.2.2 hin15 hs15 (g := (mkF m 29 #[oj p0, vS] [(.int (p0.toInt32)), (.ref ps)])) rfl rfl (hb hby d7_29) _ ?_
          exact k
        obtain ⟨fs, hrt, hrun, hended, hW, hsame⟩ := X14.leave (v := some (.ref eb15)) (fun h => by rw [Bd.returns] at h; cases h)
        refine ⟨_, _, g16 _ ?_, hrun, hended, _, _, rfl, ?_, ⟨_, rfl⟩, hW, hsame.mono (by decide) (by decide)⟩
        · show Steps p.tables e below (T14.setTop (mkF m 30 #[oj p0, vS] [(.ref eb15)])) _
          jvm_step X14.here [X14.here.top, hx, (hb hby d7_30), X14.method', Bd.returns, Value.isRef, FieldType.isReference]
          first | (intro acts; rw [hrt _ acts rfl rfl rfl]) | rw [hrt _ _ rfl rfl rfl]
          exact Steps.refl _
        · show own_Q_rmA3 Z p0 sn zr zm ps ng zk h0 n0 _ T14.heap _
          rw [e14]
          exact ⟨eb15, em15, _, _, _, _, rfl, N0, (Keep.refl h0 []), (Ee15.ext O0.2), (Fs15.ext O0.2), (Fm15.ext O0.2), (Va15.ext O0.2), Or.inr ⟨(hsp (own_pos hc5)).symm, Or.inl rfl⟩⟩
    · have hc17 : p0 < (0 : Int64) := own_neg hc1 hc5
      have g19 : ∀ t, FS p e below s₁ m 42 #[oj p0, vS] [(.int (lcmpW p0 (-16 : Int64)))] t → ES p e below s₁ m #[(.long p0)] 2 t := by
        intro t k
        refine g6 t ?_
        show FS p e below s₁ m 13 #[oj p0, vS] [(.int (lcmpW p0 (0 : Int64)))] _
        refine XS.ifYes X0.here hx rfl (pc0 := 13) (pc' := 31) rfl (hb hby d7_13) rfl ((if0 _ _).trans (flt (fun q => hc5 ((lw_gt _ _).mp q))).2.2.2) (by decide) (by decide) ?_
        refine XS.lloadN X0.here hx rfl (hb hby d7_31) rfl ?_
        refine XS.lconst X0.here hx rfl (hb hby d7_32) ?_
        refine XS.lcmp X0.here hx rfl (hb hby d7_33) rfl ?_
        refine XS.ifNo X0.here hx rfl (hb hby d7_34) rfl ((if0 _ _).trans (tlt ((lw_lt _ _).mpr hc17)).2.1) ?_
        refine XS.lloadN X0.here hx rfl (hb hby d7_37) rfl ?_
        refine X0.ldc2Long hx hown (mvT hZ (own_w hw 180 rfl)) (g := (mkF m 38 #[oj p0, vS] [(.long p0)])) rfl (hb hby d7_38) _ ?_
        refine XS.lcmp X0.here hx rfl (hb hby d7_41) rfl ?_
        exact k
      by_cases hc18 : p0 < (-16 : Int64)
      · obtain ⟨T20, h20, X20, e20, E20, A20, D20, -, st20⟩ := newO X0 hx hZ hown (own_w hw 71 rfl) (own_w hw 72 rfl) (own_w hw 52 rfl) e0 (g := (mkF m 53 #[oj p0, vS] [])) rfl (hb hby d7_53) (by decide) (by decide)
        obtain ⟨b20, q_b20⟩ : ∃ z, z = h0.size := ⟨_, rfl⟩
        rw [← q_b20] at A20 D20 st20
        have sz_b20 : h0.size ≤ b20 := Nat.le_of_eq q_b20.symm
        have gz_b20 : n0 ≤ b20 := Nat.le_trans Z0 sz_b20
        have F20_signum : Fld Z h20 b20 "java/math/BigInteger" "signum" "I" (.int (0 : Int32)) := D20 (Or.inr (own_w hw 85 rfl)) (ty := .int) (by decide)
        have F20_mag : Fld Z h20 b20 "java/math/BigInteger" "mag" "[I" .null := D20 (Or.inr (own_w hw 88 rfl)) (ty := (.array .int)) (by decide)
        have o21 : Old Z n0 h20 := (Old.ext O0 E20)
        obtain ⟨_, _, ⟨T22, L22, k22, n22⟩, -, X22, ⟨Lc22, hQ22, l22, y22, z22⟩, st22⟩ := X20.specialBack hx (y := own_y4) rfl hown (mvT hZ (own_w hw 73 rfl)) (mvT hZ (own_w hw 74 rfl)) (mvT hZ (own_w hw 76 rfl)) (by decide) (backOf (W := 1) (rmA4 l Z a0 hw [] b20 (p0) sn zr zm ps ng zk h20 n0 o21 G0 A20 F20_mag F20_signum gz_b20 hsn hsp) hZ (own_w hw 76 rfl) (own_w hw 52 rfl) (by decide) (by decide)) (g := (mkF m 58 #[oj p0, vS] [(.long p0), (.ref b20), (.ref b20)])) rfl (by rw [hml]; rfl) (Steps.refl _) (a := b20) (argsL := [(.long p0)]) (rest := [(.ref b20)]) (lenOf own_pd2 rfl) rfl (own_W0 rfl) (hb hby d7_58) (fun _ _ => ⟨rfl, e20, (by decide : 1 + 1 ≤ _), (by decide : 6 + 2 ≤ _)⟩)
        dsimp only [Pt.U, Pt.locs, Pt.cells, Pt.slots] at X22 l22 y22 z22 st22 hQ22
        subst l22 y22 z22
        obtain ⟨rfl, Nq22, K22, rm22, rk22, rz22, rs22, rl22, Qe22, Qs22, Qm22, Qa22, Qx22, Qy22⟩ := hQ22
        have N22 := Fr.app N0 Nq22
        have g23 : ∀ t, FS p e below T22 m 61 #[oj p0, vS] [(.ref b20)] t → ES p e below s₁ m #[(.long p0)] 2 t := by
          intro t k
          refine g19 t ?_
          show FS p e below s₁ m 42 #[oj p0, vS] [(.int (lcmpW p0 (-16 : Int64)))] _
          refine XS.ifYes X0.here hx rfl (pc0 := 42) (pc' := 53) rfl (hb hby d7_42) rfl ((if0 _ _).trans (tlt ((lw_lt _ _).mpr hc18)).1) (by decide) (by decide) ?_
          refine st20 _ ?_
          refine XS.dup X20.here hx rfl (hb hby d7_56) rfl rfl ?_
          refine XS.lloadN X20.here hx rfl (hb hby d7_57) rfl ?_
          refine st22.trans ?_
          exact k
        obtain ⟨fs, hrt, hrun, hended, hW, hsame⟩ := X22.leave (v := some (.ref b20)) (fun h => by rw [Bd.returns] at h; cases h)
        refine ⟨_, _, g23 _ ?_, hrun, hended, _, _, rfl, ?_, ⟨_, rfl⟩, hW, hsame.mono (by decide) (by decide)⟩
        · show Steps p.tables e below (T22.setTop (mkF m 61 #[oj p0, vS] [(.ref b20)])) _
          jvm_step X22.here [X22.here.top, hx, (hb hby d7_61), X22.method', Bd.returns, Value.isRef, FieldType.isReference]
          first | (intro acts; rw [hrt _ acts rfl rfl rfl]) | rw [hrt _ _ rfl rfl rfl]
          exact Steps.refl _
        · show own_Q_rmA3 Z p0 sn zr zm ps ng zk h0 n0 _ T22.heap _
          exact ⟨b20, rm22, _, _, _, _, rfl, N22, (Keep.trans (Keep.ext (Keep.refl h0 []) E20) K22 (allS (Or.inr sz_b20) all0)), Qe22, Qs22, Qm22, Qa22, Or.inr ⟨Qx22, Qy22⟩⟩
      · obtain ⟨T24, X24, e24, st24⟩ := getS2 X0 hx hZ hown (host := "") (Or.inl (own_w hw 198 rfl)) Via.refl e0 (S_N.ext O0.2) (g := (mkF m 45 #[oj p0, vS] [])) rfl (hb hby d7_45)
        obtain ⟨cl25, Ar25, sz25, el25⟩ := P_N
        obtain ⟨hj25, hk25, hl25⟩ := own_ineg p0 hc17 hc18
        obtain ⟨eb25, em25, ek25, ev25, hs25, Ee25, Fs25, Fm25, Va25⟩ := el25 _ hk25 hl25
        have hin25 : ¬ (((-p0).toInt32) < 0 ∨ cl25.slots.size ≤ (((-p0).toInt32)).toNatClampNeg) := own_in17 hj25 hl25 sz25
        have Aq25 := Arr.ext O0.2 Ar25
        have g26 : ∀ t, FS p e below T24 m 52 #[oj p0, vS] [(.ref eb25)] t → ES p e below s₁ m #[(.long p0)] 2 t := by
          intro t k
          refine g19 t ?_
          show FS p e below s₁ m 42 #[oj p0, vS] [(.int (lcmpW p0 (-16 : Int64)))] _
          refine XS.ifNo X0.here hx rfl (hb hby d7_42) rfl ((if0 _ _).trans (flt (fun q => hc18 ((lw_lt _ _).mp q))).1) ?_
          refine st24 _ ?_
          refine XS.lloadN X24.here hx rfl (hb hby d7_48) rfl ?_
          refine XS.lneg X24.here hx rfl (hb hby d7_49) rfl ?_
          refine XS.l2i X24.here hx rfl (hb hby d7_50) rfl ?_
          refine X24.aaload hx (j := ((-p0).toInt32)) (v := .ref eb25) (by rw [e24]; exact Aq25.1) (State.isArrayOf_alike hZ.alike Aq25.2.1) rfl Aq25.2.2 hin25 hs25 (g := (mkF m 51 #[oj p0, vS] [(.int ((-p0).toInt32)), (.ref ng)])) rfl rfl (hb hby d7_51) _ ?_
          exact k
        obtain ⟨fs, hrt, hrun, hended, hW, hsame⟩ := X24.leave (v := some (.ref eb25)) (fun h => by rw [Bd.returns] at h; cases h)
        refine ⟨_, _, g26 _ ?_, hrun, hended, _, _, rfl, ?_, ⟨_, rfl⟩, hW, hsame.mono (by decide) (by decide)⟩
        · show Steps p.tables e below (T24.setTop (mkF m 52 #[oj p0, vS] [(.ref eb25)])) _
          jvm_step X24.here [X24.here.top, hx, (hb hby d7_52), X24.method', Bd.returns, Value.isRef, FieldType.isReference]
          first | (intro acts; rw [hrt _ acts rfl rfl rfl]) | rw [hrt _ _ rfl rfl rfl]
          exact Steps.refl _
        · show own_Q_rmA3 Z p0 sn zr zm ps ng zk h0 n0 _ T24.heap _
          rw [e24]
          exact ⟨eb25, em25, _, _, _, _, rfl, N0, (Keep.refl h0 []), (Ee25.ext O0.2), (Fs25.ext O0.2), (Fm25.ext O0.2), (Va25.ext O0.2), Or.inr ⟨(hsn hc17).symm, Or.inl rfl⟩⟩
theorem own_pd3 : parseMethodDescriptor "(J)Ljava/math/BigInteger;" = some ⟨[.long], some (.object "java/math/BigInteger")⟩ := by decide +kernel
theorem d6_19 : decode q6 19 = .ok (.lload_n 3, 1) := by decide +kernel
theorem d6_20 : decode q6 20 = .ok (.invokestatic 42, 3) := by decide +kernel
theorem d6_23 : decode q6 23 = .ok (.invokevirtual 46, 3) := by decide +kernel
abbrev own_y6 : MethodName := ⟨"java/math/BigInteger", "multiply", "(Ljava/math/BigInteger;)Ljava/math/BigInteger;"⟩
theorem own_ef7 (m : MethodId) (x0 : Addr) (x1 : Addr) : entryFrame m #[(.ref x0), (.ref x1)] 2 = mkF m 0 #[oa x0, oa x1] [] := by first | (simp [entryFrame, mkF, argsToLocals, Value.category]; done) | rfl
theorem d10_0 : decode q10 0 = .ok (.aload_n 0, 1) := by decide +kernel
theorem d10_1 : decode q10 1 = .ok (.aload_n 1, 1) := by decide +kernel
theorem d10_2 : decode q10 2 = .ok (.iconst 0, 1) := by decide +kernel
theorem d10_3 : decode q10 3 = .ok (.iconst 0, 1) := by decide +kernel
theorem d10_4 : decode q10 4 = .ok (.iconst 0, 1) := by decide +kernel
theorem d10_5 : decode q10 5 = .ok (.invokevirtual 397, 3) := by decide +kernel
abbrev own_y7 : MethodName := ⟨"java/math/BigInteger", "multiply", "(Ljava/math/BigInteger;ZZI)Ljava/math/BigInteger;"⟩
theorem own_ef8 (m : MethodId) (x0 : Addr) (x1 : Addr) (x2 : Int32) (x3 : Int32) (x4 : Int32) : entryFrame m #[(.ref x0), (.ref x1), (.int x2), (.int x3), (.int x4)] 9 = mkF m 0 #[oa x0, oa x1, oi x2, oi x3, oi x4, vU, vU, vU, vU] [] := by first | (simp [entryFrame, mkF, argsToLocals, Value.category]; done) | rfl
theorem d11_0 : decode q11 0 = .ok (.aload_n 1, 1) := by decide +kernel
theorem d11_1 : decode q11 1 = .ok (.getfield 32, 3) := by decide +kernel
theorem d11_4 : decode q11 4 = .ok (.ifCond .eq 10, 3) := by decide +kernel
theorem d11_14 : decode q11 14 = .ok (.getstatic 22, 3) := by decide +kernel
theorem d11_17 : decode q11 17 = .ok (.areturn, 1) := by decide +kernel
theorem d11_7 : decode q11 7 = .ok (.aload_n 0, 1) := by decide +kernel
theorem d11_8 : decode q11 8 = .ok (.getfield 32, 3) := by decide +kernel
theorem d11_11 : decode q11 11 = .ok (.ifCond .ne 7, 3) := by decide +kernel
theorem d11_18 : decode q11 18 = .ok (.aload_n 0, 1) := by decide +kernel
theorem d11_19 : decode q11 19 = .ok (.getfield 28, 3) := by decide +kernel
theorem d11_22 : decode q11 22 = .ok (.arraylength, 1) := by decide +kernel
theorem d11_23 : decode q11 23 = .ok (.istore 5, 2) := by decide +kernel
theorem d11_25 : decode q11 25 = .ok (.aload_n 1, 1) := by decide +kernel
theorem d11_26 : decode q11 26 = .ok (.aload_n 0, 1) := by decide +kernel
theorem d11_27 : decode q11 27 = .ok (.if_acmp .ne 19, 3) := by decide +kernel
theorem d11_30 : decode q11 30 = .ok (.iload 5, 2) := by decide +kernel
theorem d11_32 : decode q11 32 = .ok (.bipush 20, 2) := by decide +kernel
theorem d11_34 : decode q11 34 = .ok (.if_icmp .le 12, 3) := by decide +kernel
theorem d11_46 : decode q11 46 = .ok (.aload_n 1, 1) := by decide +kernel
theorem d11_47 : decode q11 47 = .ok (.getfield 28, 3) := by decide +kernel
theorem d11_50 : decode q11 50 = .ok (.arraylength, 1) := by decide +kernel
theorem d11_51 : decode q11 51 = .ok (.istore 6, 2) := by decide +kernel
theorem d11_53 : decode q11 53 = .ok (.iload 5, 2) := by decide +kernel
theorem d11_55 : decode q11 55 = .ok (.bipush 80, 2) := by decide +kernel
theorem d11_57 : decode q11 57 = .ok (.if_icmp .lt 10, 3) := by decide +kernel
theorem d11_67 : decode q11 67 = .ok (.aload_n 0, 1) := by decide +kernel
theorem d11_68 : decode q11 68 = .ok (.getfield 32, 3) := by decide +kernel
theorem d11_71 : decode q11 71 = .ok (.aload_n 1, 1) := by decide +kernel
theorem d11_72 : decode q11 72 = .ok (.getfield 32, 3) := by decide +kernel
theorem d11_75 : decode q11 75 = .ok (.if_icmp .ne 7, 3) := by decide +kernel
theorem d11_78 : decode q11 78 = .ok (.iconst 1, 1) := by decide +kernel
theorem d11_79 : decode q11 79 = .ok (.goto 4, 3) := by decide +kernel
theorem d11_82 : decode q11 82 = .ok (.iconst (-1), 1) := by decide +kernel
theorem d11_83 : decode q11 83 = .ok (.istore 7, 2) := by decide +kernel
theorem d11_85 : decode q11 85 = .ok (.aload_n 1, 1) := by decide +kernel
theorem d11_86 : decode q11 86 = .ok (.getfield 28, 3) := by decide +kernel
theorem d11_89 : decode q11 89 = .ok (.arraylength, 1) := by decide +kernel
theorem d11_90 : decode q11 90 = .ok (.iconst 1, 1) := by decide +kernel
theorem d11_91 : decode q11 91 = .ok (.if_icmp .ne 19, 3) := by decide +kernel
theorem d11_94 : decode q11 94 = .ok (.aload_n 0, 1) := by decide +kernel
theorem d11_95 : decode q11 95 = .ok (.getfield 28, 3) := by decide +kernel
theorem d11_98 : decode q11 98 = .ok (.aload_n 1, 1) := by decide +kernel
theorem d11_99 : decode q11 99 = .ok (.getfield 28, 3) := by decide +kernel
theorem d11_102 : decode q11 102 = .ok (.iconst 0, 1) := by decide +kernel
theorem d11_103 : decode q11 103 = .ok (.iaload, 1) := by decide +kernel
theorem d11_104 : decode q11 104 = .ok (.iload 7, 2) := by decide +kernel
theorem d11_106 : decode q11 106 = .ok (.invokestatic 403, 3) := by decide +kernel
abbrev own_y8 : MethodName := ⟨"java/math/BigInteger", "multiplyByInt", "([III)Ljava/math/BigInteger;"⟩
theorem own_ef9 (m : MethodId) (x0 : Addr) (x1 : Int32) (x2 : Int32) : entryFrame m #[(.ref x0), (.int x1), (.int x2)] 13 = mkF m 0 #[oa x0, oi x1, oi x2, vU, vU, vU, vU, vU, vU, vU, vU, vU, vU] [] := by first | (simp [entryFrame, mkF, argsToLocals, Value.category]; done) | rfl
theorem d12_0 : decode q12 0 = .ok (.iload_n 1, 1) := by decide +kernel
theorem d12_1 : decode q12 1 = .ok (.invokestatic 423, 3) := by decide +kernel
abbrev own_y9 : MethodName := ⟨"java/lang/Integer", "bitCount", "(I)I"⟩
theorem own_ef10 (m : MethodId) (x0 : Int32) : entryFrame m #[(.int x0)] 1 = mkF m 0 #[oi x0] [] := by first | (simp [entryFrame, mkF, argsToLocals, Value.category]; done) | rfl
theorem own_pn3 : plainName "java/lang/Integer" = true := by first | (simp [plainName, overriddenIn]; done) | decide +kernel
theorem d13_0 : decode q13 0 = .ok (.iload_n 0, 1) := by decide +kernel
theorem d13_1 : decode q13 1 = .ok (.iload_n 0, 1) := by decide +kernel
theorem d13_2 : decode q13 2 = .ok (.iconst 1, 1) := by decide +kernel
theorem d13_3 : decode q13 3 = .ok (.iushr, 1) := by decide +kernel
theorem d13_4 : decode q13 4 = .ok (.ldc_w 265, 3) := by decide +kernel
theorem d13_7 : decode q13 7 = .ok (.iand, 1) := by decide +kernel
theorem d13_8 : decode q13 8 = .ok (.isub, 1) := by decide +kernel
theorem d13_9 : decode q13 9 = .ok (.istore_n 0, 1) := by decide +kernel
theorem d13_10 : decode q13 10 = .ok (.iload_n 0, 1) := by decide +kernel
theorem d13_11 : decode q13 11 = .ok (.ldc_w 266, 3) := by decide +kernel
theorem d13_14 : decode q13 14 = .ok (.iand, 1) := by decide +kernel
theorem d13_15 : decode q13 15 = .ok (.iload_n 0, 1) := by decide +kernel
theorem d13_16 : decode q13 16 = .ok (.iconst 2, 1) := by decide +kernel
theorem d13_17 : decode q13 17 = .ok (.iushr, 1) := by decide +kernel
theorem d13_18 : decode q13 18 = .ok (.ldc_w 266, 3) := by decide +kernel
theorem d13_21 : decode q13 21 = .ok (.iand, 1) := by decide +kernel
theorem d13_22 : decode q13 22 = .ok (.iadd, 1) := by decide +kernel
theorem d13_23 : decode q13 23 = .ok (.istore_n 0, 1) := by decide +kernel
theorem d13_24 : decode q13 24 = .ok (.iload_n 0, 1) := by decide +kernel
theorem d13_25 : decode q13 25 = .ok (.iload_n 0, 1) := by decide +kernel
theorem d13_26 : decode q13 26 = .ok (.iconst 4, 1) := by decide +kernel
theorem d13_27 : decode q13 27 = .ok (.iushr, 1) := by decide +kernel
theorem d13_28 : decode q13 28 = .ok (.iadd, 1) := by decide +kernel
theorem d13_29 : decode q13 29 = .ok (.ldc_w 267, 3) := by decide +kernel
theorem d13_32 : decode q13 32 = .ok (.iand, 1) := by decide +kernel
theorem d13_33 : decode q13 33 = .ok (.istore_n 0, 1) := by decide +kernel
theorem d13_34 : decode q13 34 = .ok (.iload_n 0, 1) := by decide +kernel
theorem d13_35 : decode q13 35 = .ok (.iload_n 0, 1) := by decide +kernel
theorem d13_36 : decode q13 36 = .ok (.bipush 8, 2) := by decide +kernel
theorem d13_38 : decode q13 38 = .ok (.iushr, 1) := by decide +kernel
theorem d13_39 : decode q13 39 = .ok (.iadd, 1) := by decide +kernel
theorem d13_40 : decode q13 40 = .ok (.istore_n 0, 1) := by decide +kernel
theorem d13_41 : decode q13 41 = .ok (.iload_n 0, 1) := by decide +kernel
theorem d13_42 : decode q13 42 = .ok (.iload_n 0, 1) := by decide +kernel
theorem d13_43 : decode q13 43 = .ok (.bipush 16, 2) := by decide +kernel
theorem d13_45 : decode q13 45 = .ok (.iushr, 1) := by decide +kernel
theorem d13_46 : decode q13 46 = .ok (.iadd, 1) := by decide +kernel
theorem d13_47 : decode q13 47 = .ok (.istore_n 0, 1) := by decide +kernel
theorem d13_48 : decode q13 48 = .ok (.iload_n 0, 1) := by decide +kernel
theorem d13_49 : decode q13 49 = .ok (.bipush 63, 2) := by decide +kernel
theorem d13_51 : decode q13 51 = .ok (.iand, 1) := by decide +kernel
theorem d13_52 : decode q13 52 = .ok (.ireturn, 1) := by decide +kernel
def own_Q_rmA9 (Z : State) (p0 : Int32)  (zr zm ps ng : Addr) (zk : ClassId) (h0 : Heap) (n0 : Nat) (v : Option Value) (h : Heap) (L : List Loc) : Prop := ∃ r : Int32, v = some (.int r) ∧ Fr n0 L ∧ h = h0
theorem rmA9 (l : Launch) (Z : State) (a0 : Array Value) (hw : ∀ d ∈ tables_1, d.before a0 Z = true) (ws : List Jvm.Cond) (p0 : Int32)  (zr zm ps ng : Addr) (zk : ClassId) (h0 : Heap) (n0 : Nat) (O0 : Old Z n0 h0) (G : own_Gl Z zr zm ps ng zk) :
    MetFree l own_y9 (head1 (Jvm.Cond.code own_y9 jdk_33_method_49_code 1 (some .int) :: ws) ({ frames := 0, cells := 0, slots := 0, locals := 0 } : Room)) (fun a U => a = #[(.int p0)] ∧ Z.Warmed39 U.vm ∧ U.heap = h0) (fun _ _ _ _ _ => True) (fun _ U o U' => ∃ v L, o = .returned v ∧ own_Q_rmA9 Z p0 zr zm ps ng zk h0 n0 v U'.heap L ∧ FrameEnd U o U' L ({ frames := 0, cells := 0, slots := 0, locals := 0 } : Room).cells ({ frames := 0, cells := 0, slots := 0, locals := 0 } : Room).slots) := by
  refine MetFree.of_bodySF (plainFor_of_name own_pn3) hisR ?_
  intro p e s m args below meth c s₁ Bd hml0 hP hK
  obtain ⟨rfl, hZ, hh⟩ := hP
  have hx := Bd.exec
  have hby := Bd.bytes
  have hml : c.maxLocals = 1 := hml0
  have hown : s.vm.findClass "java/lang/Integer" = some m.cls := findClass_of_methodNamed Bd.named
  have hnm := (name_of_methodNamed Bd.named Bd.method).1
  have X0 : Stand p l e ({ frames := 0, cells := 0, slots := 0, locals := 0 } : Room) s m #[(.int p0)] below meth c s₁ [] 0 0 := Stand.of_body Bd
  have e0 : s₁.heap = h0 := by rw [← hh, Bd.state]; rfl
  have N0 := Fr.nil n0
  have Z0 : n0 ≤ h0.size := O0.1 ▸ O0.2.1
  have g0 : ∀ t, FS p e below s₁ m 0 #[oi p0] [] t → ES p e below s₁ m #[(.int p0)] 1 t := fun t k => castTop (own_ef10 m (p0)) k
  have G0 := G
  obtain ⟨S_Z, E_Z, F_Zs, F_Zm, V_Z, S_P, P_P, S_N, P_N⟩ := G
  obtain ⟨b1, hv_b1⟩ : ∃ z : Int32, z = (p0 - (((p0.toUInt32 >>> ((1 : Int32) &&& 31).toUInt32).toInt32) &&& (1431655765 : Int32))) := ⟨_, rfl⟩
  have g1 : ∀ t, FS p e below s₁ m 9 #[oi p0] [(.int b1)] t → ES p e below s₁ m #[(.int p0)] 1 t := by
    intro t k
    rw [hv_b1] at k
    refine g0 t ?_
    show FS p e below s₁ m 0 #[oi p0] [] _
    refine XS.iloadN X0.here hx rfl (hb hby d13_0) rfl ?_
    refine XS.iloadN X0.here hx rfl (hb hby d13_1) rfl ?_
    refine XS.iconst X0.here hx rfl (hb hby d13_2) ?_
    refine XS.iushr X0.here hx rfl (hb hby d13_3) rfl ?_
    refine X0.ldcwInt hx hown (mvT hZ (own_w hw 106 rfl)) (g := (mkF m 4 #[oi p0] [(.int ((p0.toUInt32 >>> ((1 : Int32) &&& 31).toUInt32).toInt32)), (.int p0)])) rfl (hb hby d13_4) _ ?_
    refine XS.iand X0.here hx rfl (hb hby d13_7) rfl ?_
    refine XS.isub X0.here hx rfl (hb hby d13_8) rfl ?_
    exact k
  obtain ⟨b2, hv_b2⟩ : ∃ z : Int32, z = ((b1 &&& (858993459 : Int32)) + (((b1.toUInt32 >>> ((2 : Int32) &&& 31).toUInt32).toInt32) &&& (858993459 : Int32))) := ⟨_, rfl⟩
  have g2 : ∀ t, FS p e below s₁ m 23 #[oi b1] [(.int b2)] t → ES p e below s₁ m #[(.int p0)] 1 t := by
    intro t k
    rw [hv_b2] at k
    refine g1 t ?_
    show FS p e below s₁ m 9 #[oi p0] [(.int b1)] _
    refine XS.istoreN X0.here hx rfl (hb hby d13_9) rfl (l' := #[oi b1]) rfl ?_
    refine XS.iloadN X0.here hx rfl (hb hby d13_10) rfl ?_
    refine X0.ldcwInt hx hown (mvT hZ (own_w hw 107 rfl)) (g := (mkF m 11 #[oi b1] [(.int b1)])) rfl (hb hby d13_11) _ ?_
    refine XS.iand X0.here hx rfl (hb hby d13_14) rfl ?_
    refine XS.iloadN X0.here hx rfl (hb hby d13_15) rfl ?_
    refine XS.iconst X0.here hx rfl (hb hby d13_16) ?_
    refine XS.iushr X0.here hx rfl (hb hby d13_17) rfl ?_
    refine X0.ldcwInt hx hown (mvT hZ (own_w hw 107 rfl)) (g := (mkF m 18 #[oi b1] [(.int ((b1.toUInt32 >>> ((2 : Int32) &&& 31).toUInt32).toInt32)), (.int (b1 &&& (858993459 : Int32)))])) rfl (hb hby d13_18) _ ?_
    refine XS.iand X0.here hx rfl (hb hby d13_21) rfl ?_
    refine XS.iadd X0.here hx rfl (hb hby d13_22) rfl ?_
    exact k
  obtain ⟨b3, hv_b3⟩ : ∃ z : Int32, z = ((b2 + ((b2.toUInt32 >>> ((4 : Int32) &&& 31).toUInt32).toInt32)) &&& (252645135 : Int32)) := ⟨_, rfl⟩
  have g3 : ∀ t, FS p e below s₁ m 33 #[oi b2] [(.int b3)] t → ES p e below s₁ m #[(.int p0)] 1 t := by
    intro t k
    rw [hv_b3] at k
    refine g2 t ?_
    show FS p e below s₁ m 23 #[oi b1] [(.int b2)] _
    refine XS.istoreN X0.here hx rfl (hb hby d13_23) rfl (l' := #[oi b2]) rfl ?_
    refine XS.iloadN X0.here hx rfl (hb hby d13_24) rfl ?_
    refine XS.iloadN X0.here hx rfl (hb hby d13_25) rfl ?_
    refine XS.iconst X0.here hx rfl (hb hby d13_26) ?_
    refine XS.iushr X0.here hx rfl (hb hby d13_27) rfl ?_
    refine XS.iadd X0.here hx rfl (hb hby d13_28) rfl ?_
    refine X0.ldcwInt hx hown (mvT hZ (own_w hw 108 rfl)) (g := (mkF m 29 #[oi b2] [(.int (b2 + ((b2.toUInt32 >>> ((4 : Int32) &&& 31).toUInt32).toInt32)))])) rfl (hb hby d13_29) _ ?_
    refine XS.iand X0.here hx rfl (hb hby d13_32) rfl ?_
    exact k
  obtain ⟨b4, hv_b4⟩ : ∃ z : Int32, z = (b3 + ((b3.toUInt32 >>> ((8 : Int32) &&& 31).toUInt32).toInt32)) := ⟨_, rfl⟩
  have g4 : ∀ t, FS p e below s₁ m 40 #[oi b3] [(.int b4)] t → ES p e below s₁ m #[(.int p0)] 1 t := by
    intro t k
    rw [hv_b4] at k
    refine g3 t ?_
    show FS p e below s₁ m 33 #[oi b2] [(.int b3)] _
    refine XS.istoreN X0.here hx rfl (hb hby d13_33) rfl (l' := #[oi b3]) rfl ?_
    refine XS.iloadN X0.here hx rfl (hb hby d13_34) rfl ?_
    refine XS.iloadN X0.here hx rfl (hb hby d13_35) rfl ?_
    refine XS.bipush X0.here hx rfl (hb hby d13_36) ?_
    refine XS.iushr X0.here hx rfl (hb hby d13_38) rfl ?_
    refine XS.iadd X0.here hx rfl (hb hby d13_39) rfl ?_
    exact k
  obtain ⟨b5, hv_b5⟩ : ∃ z : Int32, z = (b4 + ((b4.toUInt32 >>> ((16 : Int32) &&& 31).toUInt32).toInt32)) := ⟨_, rfl⟩
  have g5 : ∀ t, FS p e below s₁ m 47 #[oi b4] [(.int b5)] t → ES p e below s₁ m #[(.int p0)] 1 t := by
    intro t k
    rw [hv_b5] at k
    refine g4 t ?_
    show FS p e below s₁ m 40 #[oi b3] [(.int b4)] _
    refine XS.istoreN X0.here hx rfl (hb hby d13_40) rfl (l' := #[oi b4]) rfl ?_
    refine XS.iloadN X0.here hx rfl (hb hby d13_41) rfl ?_
    refine XS.iloadN X0.here hx rfl (hb hby d13_42) rfl ?_
    refine XS.bipush X0.here hx rfl (hb hby d13_43) ?_
    refine XS.iushr X0.here hx rfl (hb hby d13_45) rfl ?_
    refine XS.iadd X0.here hx rfl (hb hby d13_46) rfl ?_
    exact k
  obtain ⟨b6, hv_b6⟩ : ∃ z : Int32, z = (b5 &&& (63 : Int32)) := ⟨_, rfl⟩
  have g6 : ∀ t, FS p e below s₁ m 52 #[oi b5] [(.int b6)] t → ES p e below s₁ m #[(.int p0)] 1 t := by
    intro t k
    rw [hv_b6] at k
    refine g5 t ?_
    show FS p e below s₁ m 47 #[oi b4] [(.int b5)] _
    refine XS.istoreN X0.here hx rfl (hb hby d13_47) rfl (l' := #[oi b5]) rfl ?_
    refine XS.iloadN X0.here hx rfl (hb hby d13_48) rfl ?_
    refine XS.bipush X0.here hx rfl (hb hby d13_49) ?_
    refine XS.iand X0.here hx rfl (hb hby d13_51) rfl ?_
    exact k
  obtain ⟨fs, hrt, hrun, hended, hW, hsame⟩ := X0.leave (v := some (.int b6)) (fun h => by rw [Bd.returns] at h; cases h)
  refine ⟨_, _, g6 _ ?_, hrun, hended, _, _, rfl, ?_, ⟨_, rfl⟩, hW, hsame.mono (by decide) (by decide)⟩
  · show Steps p.tables e below (s₁.setTop (mkF m 52 #[oi b5] [(.int b6)])) _
    exact retI X0 hx Bd.returns (hb hby d13_52) hrt
  · show own_Q_rmA9 Z p0 zr zm ps ng zk h0 n0 _ s₁.heap _
    rw [e0]
    exact ⟨_, rfl, N0, rfl⟩
theorem own_pd4 : parseMethodDescriptor "(I)I" = some ⟨[.int], some .int⟩ := by decide +kernel
theorem d12_4 : decode q12 4 = .ok (.iconst 1, 1) := by decide +kernel
theorem d12_5 : decode q12 5 = .ok (.if_icmp .ne 20, 3) := by decide +kernel
theorem d12_8 : decode q12 8 = .ok (.new 23, 3) := by decide +kernel
theorem d12_11 : decode q12 11 = .ok (.dup, 1) := by decide +kernel
theorem d12_12 : decode q12 12 = .ok (.aload_n 0, 1) := by decide +kernel
theorem d12_13 : decode q12 13 = .ok (.iload_n 1, 1) := by decide +kernel
theorem d12_14 : decode q12 14 = .ok (.invokestatic 426, 3) := by decide +kernel
abbrev own_y10 : MethodName := ⟨"java/lang/Integer", "numberOfTrailingZeros", "(I)I"⟩
theorem own_ef11 (m : MethodId) (x0 : Int32) : entryFrame m #[(.int x0)] 2 = mkF m 0 #[oi x0, vU] [] := by first | (simp [entryFrame, mkF, argsToLocals, Value.category]; done) | rfl
theorem d14_0 : decode q14 0 = .ok (.iload_n 0, 1) := by decide +kernel
theorem d14_1 : decode q14 1 = .ok (.iconst (-1), 1) := by decide +kernel
theorem d14_2 : decode q14 2 = .ok (.ixor, 1) := by decide +kernel
theorem d14_3 : decode q14 3 = .ok (.iload_n 0, 1) := by decide +kernel
theorem d14_4 : decode q14 4 = .ok (.iconst 1, 1) := by decide +kernel
theorem d14_5 : decode q14 5 = .ok (.isub, 1) := by decide +kernel
theorem d14_6 : decode q14 6 = .ok (.iand, 1) := by decide +kernel
theorem d14_7 : decode q14 7 = .ok (.istore_n 0, 1) := by decide +kernel
theorem d14_8 : decode q14 8 = .ok (.iload_n 0, 1) := by decide +kernel
theorem d14_9 : decode q14 9 = .ok (.ifCond .gt 8, 3) := by decide +kernel
theorem d14_17 : decode q14 17 = .ok (.iconst 1, 1) := by decide +kernel
theorem d14_18 : decode q14 18 = .ok (.istore_n 1, 1) := by decide +kernel
theorem d14_19 : decode q14 19 = .ok (.iload_n 0, 1) := by decide +kernel
theorem d14_20 : decode q14 20 = .ok (.ldc_w 264, 3) := by decide +kernel
theorem d14_23 : decode q14 23 = .ok (.if_icmp .le 11, 3) := by decide +kernel
theorem d14_26 : decode q14 26 = .ok (.iinc 1 16, 3) := by decide +kernel
theorem d14_29 : decode q14 29 = .ok (.iload_n 0, 1) := by decide +kernel
theorem d14_30 : decode q14 30 = .ok (.bipush 16, 2) := by decide +kernel
theorem d14_32 : decode q14 32 = .ok (.iushr, 1) := by decide +kernel
theorem d14_33 : decode q14 33 = .ok (.istore_n 0, 1) := by decide +kernel
theorem d14_34 : decode q14 34 = .ok (.iload_n 0, 1) := by decide +kernel
theorem d14_35 : decode q14 35 = .ok (.sipush 256, 3) := by decide +kernel
theorem d14_38 : decode q14 38 = .ok (.if_icmp .le 11, 3) := by decide +kernel
theorem d14_41 : decode q14 41 = .ok (.iinc 1 8, 3) := by decide +kernel
theorem d14_44 : decode q14 44 = .ok (.iload_n 0, 1) := by decide +kernel
theorem d14_45 : decode q14 45 = .ok (.bipush 8, 2) := by decide +kernel
theorem d14_47 : decode q14 47 = .ok (.iushr, 1) := by decide +kernel
theorem d14_48 : decode q14 48 = .ok (.istore_n 0, 1) := by decide +kernel
theorem d14_49 : decode q14 49 = .ok (.iload_n 0, 1) := by decide +kernel
theorem d14_50 : decode q14 50 = .ok (.bipush 16, 2) := by decide +kernel
theorem d14_52 : decode q14 52 = .ok (.if_icmp .le 10, 3) := by decide +kernel
theorem d14_55 : decode q14 55 = .ok (.iinc 1 4, 3) := by decide +kernel
theorem d14_58 : decode q14 58 = .ok (.iload_n 0, 1) := by decide +kernel
theorem d14_59 : decode q14 59 = .ok (.iconst 4, 1) := by decide +kernel
theorem d14_60 : decode q14 60 = .ok (.iushr, 1) := by decide +kernel
theorem d14_61 : decode q14 61 = .ok (.istore_n 0, 1) := by decide +kernel
theorem d14_62 : decode q14 62 = .ok (.iload_n 0, 1) := by decide +kernel
theorem d14_63 : decode q14 63 = .ok (.iconst 4, 1) := by decide +kernel
theorem d14_64 : decode q14 64 = .ok (.if_icmp .le 10, 3) := by decide +kernel
theorem d14_67 : decode q14 67 = .ok (.iinc 1 2, 3) := by decide +kernel
theorem d14_70 : decode q14 70 = .ok (.iload_n 0, 1) := by decide +kernel
theorem d14_71 : decode q14 71 = .ok (.iconst 2, 1) := by decide +kernel
theorem d14_72 : decode q14 72 = .ok (.iushr, 1) := by decide +kernel
theorem d14_73 : decode q14 73 = .ok (.istore_n 0, 1) := by decide +kernel
theorem d14_74 : decode q14 74 = .ok (.iload_n 1, 1) := by decide +kernel
theorem d14_75 : decode q14 75 = .ok (.iload_n 0, 1) := by decide +kernel
theorem d14_76 : decode q14 76 = .ok (.iconst 1, 1) := by decide +kernel
theorem d14_77 : decode q14 77 = .ok (.iushr, 1) := by decide +kernel
theorem d14_78 : decode q14 78 = .ok (.iadd, 1) := by decide +kernel
theorem d14_79 : decode q14 79 = .ok (.ireturn, 1) := by decide +kernel
theorem d14_12 : decode q14 12 = .ok (.iload_n 0, 1) := by decide +kernel
theorem d14_13 : decode q14 13 = .ok (.bipush 32, 2) := by decide +kernel
theorem d14_15 : decode q14 15 = .ok (.iand, 1) := by decide +kernel
theorem d14_16 : decode q14 16 = .ok (.ireturn, 1) := by decide +kernel
def own_Q_rmA10 (Z : State) (p0 : Int32)  (zr zm ps ng : Addr) (zk : ClassId) (h0 : Heap) (n0 : Nat) (v : Option Value) (h : Heap) (L : List Loc) : Prop := ∃ r : Int32, v = some (.int r) ∧ Fr n0 L ∧ h = h0 ∧ (((r.toUInt32 >>> ((5 : Int32) &&& 31).toUInt32).toInt32) = (0 : Int32) ∨ ((r.toUInt32 >>> ((5 : Int32) &&& 31).toUInt32).toInt32) = (1 : Int32))
theorem rmA10 (l : Launch) (Z : State) (a0 : Array Value) (hw : ∀ d ∈ tables_1, d.before a0 Z = true) (ws : List Jvm.Cond) (p0 : Int32)  (zr zm ps ng : Addr) (zk : ClassId) (h0 : Heap) (n0 : Nat) (O0 : Old Z n0 h0) (G : own_Gl Z zr zm ps ng zk) :
    MetFree l own_y10 (head1 (Jvm.Cond.code own_y10 jdk_33_method_48_code 2 (some .int) :: ws) ({ frames := 0, cells := 0, slots := 0, locals := 0 } : Room)) (fun a U => a = #[(.int p0)] ∧ Z.Warmed39 U.vm ∧ U.heap = h0) (fun _ _ _ _ _ => True) (fun _ U o U' => ∃ v L, o = .returned v ∧ own_Q_rmA10 Z p0 zr zm ps ng zk h0 n0 v U'.heap L ∧ FrameEnd U o U' L ({ frames := 0, cells := 0, slots := 0, locals := 0 } : Room).cells ({ frames := 0, cells := 0, slots := 0, locals := 0 } : Room).slots) := by
  refine MetFree.of_bodySF (plainFor_of_name own_pn3) hisR ?_
  intro p e s m args below meth c s₁ Bd hml0 hP hK
  obtain ⟨rfl, hZ, hh⟩ := hP
  have hx := Bd.exec
  have hby := Bd.bytes
  have hml : c.maxLocals = 2 := hml0
  have hown : s.vm.findClass "java/lang/Integer" = some m.cls := findClass_of_methodNamed Bd.named
  have hnm := (name_of_methodNamed Bd.named Bd.method).1
  have X0 : Stand p l e ({ frames := 0, cells := 0, slots := 0, locals := 0 } : Room) s m #[(.int p0)] below meth c s₁ [] 0 0 := Stand.of_body Bd
  have e0 : s₁.heap = h0 := by rw [← hh, Bd.state]; rfl
  have N0 := Fr.nil n0
  have Z0 : n0 ≤ h0.size := O0.1 ▸ O0.2.1
  have g0 : ∀ t, FS p e below s₁ m 0 #[oi p0, vU] [] t → ES p e below s₁ m #[(.int p0)] 2 t := fun t k => castTop (own_ef11 m (p0)) k
  have G0 := G
  obtain ⟨S_Z, E_Z, F_Zs, F_Zm, V_Z, S_P, P_P, S_N, P_N⟩ := G
  obtain ⟨i0, hv_i0⟩ : ∃ z : Int32, z = ((p0 ^^^ (-1 : Int32)) &&& (p0 - (1 : Int32))) := ⟨_, rfl⟩
  have g1 : ∀ t, FS p e below s₁ m 7 #[oi p0, vU] [(.int i0)] t → ES p e below s₁ m #[(.int p0)] 2 t := by
    intro t k
    rw [hv_i0] at k
    refine g0 t ?_
    show FS p e below s₁ m 0 #[oi p0, vU] [] _
    refine XS.iloadN X0.here hx rfl (hb hby d14_0) rfl ?_
    refine XS.iconst X0.here hx rfl (hb hby d14_1) ?_
    refine XS.ixor X0.here hx rfl (hb hby d14_2) rfl ?_
    refine XS.iloadN X0.here hx rfl (hb hby d14_3) rfl ?_
    refine XS.iconst X0.here hx rfl (hb hby d14_4) ?_
    refine XS.isub X0.here hx rfl (hb hby d14_5) rfl ?_
    refine XS.iand X0.here hx rfl (hb hby d14_6) rfl ?_
    exact k
  have g3 : ∀ t, FS p e below s₁ m 9 #[oi i0, vU] [(.int i0)] t → ES p e below s₁ m #[(.int p0)] 2 t := by
    intro t k
    refine g1 t ?_
    show FS p e below s₁ m 7 #[oi p0, vU] [(.int i0)] _
    refine XS.istoreN X0.here hx rfl (hb hby d14_7) rfl (l' := #[oi i0, vU]) rfl ?_
    refine XS.iloadN X0.here hx rfl (hb hby d14_8) rfl ?_
    exact k
  by_cases hc2 : (0 : Int32) < i0
  · have g4 : ∀ t, FS p e below s₁ m 23 #[oi i0, oi (1 : Int32)] [(.int (65536 : Int32)), (.int i0)] t → ES p e below s₁ m #[(.int p0)] 2 t := by
      intro t k
      refine g3 t ?_
      show FS p e below s₁ m 9 #[oi i0, vU] [(.int i0)] _
      refine XS.ifYes X0.here hx rfl (pc0 := 9) (pc' := 17) rfl (hb hby d14_9) rfl ((if0 _ _).trans (tlt hc2).2.2.1) (by decide) (by decide) ?_
      refine XS.iconst X0.here hx rfl (hb hby d14_17) ?_
      refine XS.istoreN X0.here hx rfl (hb hby d14_18) rfl (l' := #[oi i0, oi (1 : Int32)]) rfl ?_
      refine XS.iloadN X0.here hx rfl (hb hby d14_19) rfl ?_
      refine X0.ldcwInt hx hown (mvT hZ (own_w hw 112 rfl)) (g := (mkF m 20 #[oi i0, oi (1 : Int32)] [(.int i0)])) rfl (hb hby d14_20) _ ?_
      exact k
    obtain ⟨i1, hv_i1⟩ : ∃ z : Int32, z = (if (65536 : Int32) < i0 then ((i0.toUInt32 >>> ((16 : Int32) &&& 31).toUInt32).toInt32) else i0) := ⟨_, rfl⟩
    obtain ⟨n1, hv_n1⟩ : ∃ z : Int32, z = (if (65536 : Int32) < i0 then (17 : Int32) else (1 : Int32)) := ⟨_, rfl⟩
    have g6 : ∀ t, FS p e below s₁ m 34 #[oi i1, oi n1] [] t → ES p e below s₁ m #[(.int p0)] 2 t := by
      intro t k
      by_cases hc5 : (65536 : Int32) < i0
      · skip
        rw [if_pos hc5] at hv_i1; rw [hv_i1] at k
        rw [if_pos hc5] at hv_n1; rw [hv_n1] at k
        refine g4 t ?_
        show FS p e below s₁ m 23 #[oi i0, oi (1 : Int32)] [(.int (65536 : Int32)), (.int i0)] _
        refine XS.icmpNo X0.here hx rfl (hb hby d14_23) rfl (tlt hc5).2.2.2 ?_
        show FS p e below s₁ m 26 #[oi i0, oi (1 : Int32)] [] _
        refine XS.iinc X0.here hx rfl (hb hby d14_26) rfl (l' := #[oi i0, .val (.int ((1 : Int32) + (16 : Int32)))]) rfl ?_
        rw [show ((1 : Int32) + (16 : Int32)) = (17 : Int32) from by decide]
        refine XS.iloadN X0.here hx rfl (hb hby d14_29) rfl ?_
        refine XS.bipush X0.here hx rfl (hb hby d14_30) ?_
        refine XS.iushr X0.here hx rfl (hb hby d14_32) rfl ?_
        refine XS.istoreN X0.here hx rfl (hb hby d14_33) rfl (l' := #[.val (.int ((i0.toUInt32 >>> ((16 : Int32) &&& 31).toUInt32).toInt32)), oi (17 : Int32)]) rfl ?_
        exact k
      · skip
        rw [if_neg hc5] at hv_i1; rw [hv_i1] at k
        rw [if_neg hc5] at hv_n1; rw [hv_n1] at k
        refine g4 t ?_
        show FS p e below s₁ m 23 #[oi i0, oi (1 : Int32)] [(.int (65536 : Int32)), (.int i0)] _
        refine XS.icmpYes X0.here hx rfl (pc0 := 23) (pc' := 34) rfl (hb hby d14_23) rfl (flt hc5).2.2.2 (by decide) (by decide) ?_
        exact k
    have g7 : ∀ t, FS p e below s₁ m 38 #[oi i1, oi n1] [(.int (256 : Int32)), (.int i1)] t → ES p e below s₁ m #[(.int p0)] 2 t := by
      intro t k
      refine g6 t ?_
      show FS p e below s₁ m 34 #[oi i1, oi n1] [] _
      refine XS.iloadN X0.here hx rfl (hb hby d14_34) rfl ?_
      refine XS.sipush X0.here hx rfl (hb hby d14_35) ?_
      exact k
    obtain ⟨i2, hv_i2⟩ : ∃ z : Int32, z = (if (256 : Int32) < i1 then ((i1.toUInt32 >>> ((8 : Int32) &&& 31).toUInt32).toInt32) else i1) := ⟨_, rfl⟩
    obtain ⟨n2, hv_n2⟩ : ∃ z : Int32, z = (if (256 : Int32) < i1 then (n1 + (8 : Int32)) else n1) := ⟨_, rfl⟩
    have g9 : ∀ t, FS p e below s₁ m 49 #[oi i2, oi n2] [] t → ES p e below s₁ m #[(.int p0)] 2 t := by
      intro t k
      by_cases hc8 : (256 : Int32) < i1
      · skip
        rw [if_pos hc8] at hv_i2; rw [hv_i2] at k
        rw [if_pos hc8] at hv_n2; rw [hv_n2] at k
        refine g7 t ?_
        show FS p e below s₁ m 38 #[oi i1, oi n1] [(.int (256 : Int32)), (.int i1)] _
        refine XS.icmpNo X0.here hx rfl (hb hby d14_38) rfl (tlt hc8).2.2.2 ?_
        refine XS.iinc X0.here hx rfl (hb hby d14_41) rfl (l' := #[oi i1, .val (.int (n1 + (8 : Int32)))]) rfl ?_
        refine XS.iloadN X0.here hx rfl (hb hby d14_44) rfl ?_
        refine XS.bipush X0.here hx rfl (hb hby d14_45) ?_
        refine XS.iushr X0.here hx rfl (hb hby d14_47) rfl ?_
        refine XS.istoreN X0.here hx rfl (hb hby d14_48) rfl (l' := #[.val (.int ((i1.toUInt32 >>> ((8 : Int32) &&& 31).toUInt32).toInt32)), .val (.int (n1 + (8 : Int32)))]) rfl ?_
        exact k
      · skip
        rw [if_neg hc8] at hv_i2; rw [hv_i2] at k
        rw [if_neg hc8] at hv_n2; rw [hv_n2] at k
        refine g7 t ?_
        show FS p e below s₁ m 38 #[oi i1, oi n1] [(.int (256 : Int32)), (.int i1)] _
        refine XS.icmpYes X0.here hx rfl (pc0 := 38) (pc' := 49) rfl (hb hby d14_38) rfl (flt hc8).2.2.2 (by decide) (by decide) ?_
        exact k
    have g10 : ∀ t, FS p e below s₁ m 52 #[oi i2, oi n2] [(.int (16 : Int32)), (.int i2)] t → ES p e below s₁ m #[(.int p0)] 2 t := by
      intro t k
      refine g9 t ?_
      show FS p e below s₁ m 49 #[oi i2, oi n2] [] _
      refine XS.iloadN X0.here hx rfl (hb hby d14_49) rfl ?_
      refine XS.bipush X0.here hx rfl (hb hby d14_50) ?_
      exact k
    obtain ⟨i3, hv_i3⟩ : ∃ z : Int32, z = (if (16 : Int32) < i2 then ((i2.toUInt32 >>> ((4 : Int32) &&& 31).toUInt32).toInt32) else i2) := ⟨_, rfl⟩
    obtain ⟨n3, hv_n3⟩ : ∃ z : Int32, z = (if (16 : Int32) < i2 then (n2 + (4 : Int32)) else n2) := ⟨_, rfl⟩
    have g12 : ∀ t, FS p e below s₁ m 62 #[oi i3, oi n3] [] t → ES p e below s₁ m #[(.int p0)] 2 t := by
      intro t k
      by_cases hc11 : (16 : Int32) < i2
      · skip
        rw [if_pos hc11] at hv_i3; rw [hv_i3] at k
        rw [if_pos hc11] at hv_n3; rw [hv_n3] at k
        refine g10 t ?_
        show FS p e below s₁ m 52 #[oi i2, oi n2] [(.int (16 : Int32)), (.int i2)] _
        refine XS.icmpNo X0.here hx rfl (hb hby d14_52) rfl (tlt hc11).2.2.2 ?_
        refine XS.iinc X0.here hx rfl (hb hby d14_55) rfl (l' := #[oi i2, .val (.int (n2 + (4 : Int32)))]) rfl ?_
        refine XS.iloadN X0.here hx rfl (hb hby d14_58) rfl ?_
        refine XS.iconst X0.here hx rfl (hb hby d14_59) ?_
        refine XS.iushr X0.here hx rfl (hb hby d14_60) rfl ?_
        refine XS.istoreN X0.here hx rfl (hb hby d14_61) rfl (l' := #[.val (.int ((i2.toUInt32 >>> ((4 : Int32) &&& 31).toUInt32).toInt32)), .val (.int (n2 + (4 : Int32)))]) rfl ?_
        exact k
      · skip
        rw [if_neg hc11] at hv_i3; rw [hv_i3] at k
        rw [if_neg hc11] at hv_n3; rw [hv_n3] at k
        refine g10 t ?_
        show FS p e below s₁ m 52 #[oi i2, oi n2] [(.int (16 : Int32)), (.int i2)] _
        refine XS.icmpYes X0.here hx rfl (pc0 := 52) (pc' := 62) rfl (hb hby d14_52) rfl (flt hc11).2.2.2 (by decide) (by decide) ?_
        exact k
    have g13 : ∀ t, FS p e below s₁ m 64 #[oi i3, oi n3] [(.int (4 : Int32)), (.int i3)] t → ES p e below s₁ m #[(.int p0)] 2 t := by
      intro t k
      refine g12 t ?_
      show FS p e below s₁ m 62 #[oi i3, oi n3] [] _
      refine XS.iloadN X0.here hx rfl (hb hby d14_62) rfl ?_
      refine XS.iconst X0.here hx rfl (hb hby d14_63) ?_
      exact k
    obtain ⟨i4, hv_i4⟩ : ∃ z : Int32, z = (if (4 : Int32) < i3 then ((i3.toUInt32 >>> ((2 : Int32) &&& 31).toUInt32).toInt32) else i3) := ⟨_, rfl⟩
    obtain ⟨n4, hv_n4⟩ : ∃ z : Int32, z = (if (4 : Int32) < i3 then (n3 + (2 : Int32)) else n3) := ⟨_, rfl⟩
    have g15 : ∀ t, FS p e below s₁ m 74 #[oi i4, oi n4] [] t → ES p e below s₁ m #[(.int p0)] 2 t := by
      intro t k
      by_cases hc14 : (4 : Int32) < i3
      · skip
        rw [if_pos hc14] at hv_i4; rw [hv_i4] at k
        rw [if_pos hc14] at hv_n4; rw [hv_n4] at k
        refine g13 t ?_
        show FS p e below s₁ m 64 #[oi i3, oi n3] [(.int (4 : Int32)), (.int i3)] _
        refine XS.icmpNo X0.here hx rfl (hb hby d14_64) rfl (tlt hc14).2.2.2 ?_
        refine XS.iinc X0.here hx rfl (hb hby d14_67) rfl (l' := #[oi i3, .val (.int (n3 + (2 : Int32)))]) rfl ?_
        refine XS.iloadN X0.here hx rfl (hb hby d14_70) rfl ?_
        refine XS.iconst X0.here hx rfl (hb hby d14_71) ?_
        refine XS.iushr X0.here hx rfl (hb hby d14_72) rfl ?_
        refine XS.istoreN X0.here hx rfl (hb hby d14_73) rfl (l' := #[.val (.int ((i3.toUInt32 >>> ((2 : Int32) &&& 31).toUInt32).toInt32)), .val (.int (n3 + (2 : Int32)))]) rfl ?_
        exact k
      · skip
        rw [if_neg hc14] at hv_i4; rw [hv_i4] at k
        rw [if_neg hc14] at hv_n4; rw [hv_n4] at k
        refine g13 t ?_
        show FS p e below s₁ m 64 #[oi i3, oi n3] [(.int (4 : Int32)), (.int i3)] _
        refine XS.icmpYes X0.here hx rfl (pc0 := 64) (pc' := 74) rfl (hb hby d14_64) rfl (flt hc14).2.2.2 (by decide) (by decide) ?_
        exact k
    obtain ⟨i5, hv_i5⟩ : ∃ z : Int32, z = ((i4.toUInt32 >>> ((1 : Int32) &&& 31).toUInt32).toInt32) := ⟨_, rfl⟩
    have g16 : ∀ t, FS p e below s₁ m 78 #[oi i4, oi n4] [(.int i5), (.int n4)] t → ES p e below s₁ m #[(.int p0)] 2 t := by
      intro t k
      rw [hv_i5] at k
      refine g15 t ?_
      show FS p e below s₁ m 74 #[oi i4, oi n4] [] _
      refine XS.iloadN X0.here hx rfl (hb hby d14_74) rfl ?_
      refine XS.iloadN X0.here hx rfl (hb hby d14_75) rfl ?_
      refine XS.iconst X0.here hx rfl (hb hby d14_76) ?_
      refine XS.iushr X0.here hx rfl (hb hby d14_77) rfl ?_
      exact k
    have g17 : ∀ t, FS p e below s₁ m 79 #[oi i4, oi n4] [(.int (n4 + i5))] t → ES p e below s₁ m #[(.int p0)] 2 t := by
      intro t k
      refine g16 t ?_
      show FS p e below s₁ m 78 #[oi i4, oi n4] [(.int i5), (.int n4)] _
      refine XS.iadd X0.here hx rfl (hb hby d14_78) rfl ?_
      exact k
    obtain ⟨fs, hrt, hrun, hended, hW, hsame⟩ := X0.leave (v := some (.int (n4 + i5))) (fun h => by rw [Bd.returns] at h; cases h)
    have hb0 := own_b0 hc2
    have hb1 := own_js 16 2147483647 65536 hv_i1 (by decide) (by decide) (by decide) (by decide) hb0
    have hm1 := own_jn 17 hv_n1 (by decide) (by decide)
    have hb2 := own_js 8 65536 256 hv_i2 (by decide) (by decide) (by decide) (by decide) hb1
    have hm2 := own_jn 25 hv_n2 (own_ja 8 17 25 (by decide) (by decide) (by decide) hm1) (own_jw 25 (by decide) hm1)
    have hb3 := own_js 4 256 16 hv_i3 (by decide) (by decide) (by decide) (by decide) hb2
    have hm3 := own_jn 29 hv_n3 (own_ja 4 25 29 (by decide) (by decide) (by decide) hm2) (own_jw 29 (by decide) hm2)
    have hb4 := own_js 2 16 4 hv_i4 (by decide) (by decide) (by decide) (by decide) hb3
    have hm4 := own_jn 31 hv_n4 (own_ja 2 29 31 (by decide) (by decide) (by decide) hm3) (own_jw 31 (by decide) hm3)
    have hb5 := own_bs 1 4 2 hv_i5 (by decide) (by decide) (by decide) hb4
    refine ⟨_, _, g17 _ ?_, hrun, hended, _, _, rfl, ?_, ⟨_, rfl⟩, hW, hsame.mono (by decide) (by decide)⟩
    · show Steps p.tables e below (s₁.setTop (mkF m 79 #[oi i4, oi n4] [(.int (n4 + i5))])) _
      exact retI X0 hx Bd.returns (hb hby d14_79) hrt
    · show own_Q_rmA10 Z p0 zr zm ps ng zk h0 n0 _ s₁.heap _
      rw [e0]
      exact ⟨_, rfl, N0, rfl, own_ntA _ _ 31 2 (by decide) hm4 hb5⟩
  · have g18 : ∀ t, FS p e below s₁ m 16 #[oi i0, vU] [(.int (i0 &&& (32 : Int32)))] t → ES p e below s₁ m #[(.int p0)] 2 t := by
      intro t k
      refine g3 t ?_
      show FS p e below s₁ m 9 #[oi i0, vU] [(.int i0)] _
      refine XS.ifNo X0.here hx rfl (hb hby d14_9) rfl ((if0 _ _).trans (flt hc2).2.2.1) ?_
      refine XS.iloadN X0.here hx rfl (hb hby d14_12) rfl ?_
      refine XS.bipush X0.here hx rfl (hb hby d14_13) ?_
      refine XS.iand X0.here hx rfl (hb hby d14_15) rfl ?_
      exact k
    obtain ⟨fs, hrt, hrun, hended, hW, hsame⟩ := X0.leave (v := some (.int (i0 &&& (32 : Int32)))) (fun h => by rw [Bd.returns] at h; cases h)
    refine ⟨_, _, g18 _ ?_, hrun, hended, _, _, rfl, ?_, ⟨_, rfl⟩, hW, hsame.mono (by decide) (by decide)⟩
    · show Steps p.tables e below (s₁.setTop (mkF m 16 #[oi i0, vU] [(.int (i0 &&& (32 : Int32)))])) _
      exact retI X0 hx Bd.returns (hb hby d14_16) hrt
    · show own_Q_rmA10 Z p0 zr zm ps ng zk h0 n0 _ s₁.heap _
      rw [e0]
      exact ⟨_, rfl, N0, rfl, own_nt0 _⟩
theorem d12_17 : decode q12 17 = .ok (.invokestatic 429, 3) := by decide +kernel
abbrev own_y11 : MethodName := ⟨"java/math/BigInteger", "shiftLeft", "([II)[I"⟩
theorem own_ef12 (m : MethodId) (x0 : Addr) (x1 : Int32) : entryFrame m #[(.ref x0), (.int x1)] 10 = mkF m 0 #[oa x0, oi x1, vU, vU, vU, vU, vU, vU, vU, vU] [] := by first | (simp [entryFrame, mkF, argsToLocals, Value.category]; done) | rfl
theorem d15_0 : decode q15 0 = .ok (.iload_n 1, 1) := by decide +kernel
theorem d15_1 : decode q15 1 = .ok (.iconst 5, 1) := by decide +kernel
theorem d15_2 : decode q15 2 = .ok (.iushr, 1) := by decide +kernel
theorem d15_3 : decode q15 3 = .ok (.istore_n 2, 1) := by decide +kernel
theorem d15_4 : decode q15 4 = .ok (.iload_n 1, 1) := by decide +kernel
theorem d15_5 : decode q15 5 = .ok (.bipush 31, 2) := by decide +kernel
theorem d15_7 : decode q15 7 = .ok (.iand, 1) := by decide +kernel
theorem d15_8 : decode q15 8 = .ok (.istore_n 3, 1) := by decide +kernel
theorem d15_9 : decode q15 9 = .ok (.aload_n 0, 1) := by decide +kernel
theorem d15_10 : decode q15 10 = .ok (.arraylength, 1) := by decide +kernel
theorem d15_11 : decode q15 11 = .ok (.istore 4, 2) := by decide +kernel
theorem d15_13 : decode q15 13 = .ok (.aconst_null, 1) := by decide +kernel
theorem d15_14 : decode q15 14 = .ok (.astore 5, 2) := by decide +kernel
theorem d15_16 : decode q15 16 = .ok (.iload_n 3, 1) := by decide +kernel
theorem d15_17 : decode q15 17 = .ok (.ifCond .ne 24, 3) := by decide +kernel
theorem d15_20 : decode q15 20 = .ok (.iload 4, 2) := by decide +kernel
theorem d15_22 : decode q15 22 = .ok (.iload_n 2, 1) := by decide +kernel
theorem d15_23 : decode q15 23 = .ok (.iadd, 1) := by decide +kernel
theorem d15_24 : decode q15 24 = .ok (.newarray .int, 2) := by decide +kernel
theorem d15_26 : decode q15 26 = .ok (.astore 5, 2) := by decide +kernel
theorem d15_28 : decode q15 28 = .ok (.aload_n 0, 1) := by decide +kernel
theorem d15_29 : decode q15 29 = .ok (.iconst 0, 1) := by decide +kernel
theorem d15_30 : decode q15 30 = .ok (.aload 5, 2) := by decide +kernel
theorem d15_32 : decode q15 32 = .ok (.iconst 0, 1) := by decide +kernel
theorem d15_33 : decode q15 33 = .ok (.iload 4, 2) := by decide +kernel
theorem d15_35 : decode q15 35 = .ok (.invokestatic 388, 3) := by decide +kernel
theorem d15_38 : decode q15 38 = .ok (.goto 114, 3) := by decide +kernel
theorem d15_152 : decode q15 152 = .ok (.aload 5, 2) := by decide +kernel
theorem d15_154 : decode q15 154 = .ok (.areturn, 1) := by decide +kernel
theorem d15_41 : decode q15 41 = .ok (.iconst 0, 1) := by decide +kernel
theorem d15_42 : decode q15 42 = .ok (.istore 6, 2) := by decide +kernel
theorem d15_44 : decode q15 44 = .ok (.bipush 32, 2) := by decide +kernel
theorem d15_46 : decode q15 46 = .ok (.iload_n 3, 1) := by decide +kernel
theorem d15_47 : decode q15 47 = .ok (.isub, 1) := by decide +kernel
theorem d15_48 : decode q15 48 = .ok (.istore 7, 2) := by decide +kernel
theorem d15_50 : decode q15 50 = .ok (.aload_n 0, 1) := by decide +kernel
theorem d15_51 : decode q15 51 = .ok (.iconst 0, 1) := by decide +kernel
theorem d15_52 : decode q15 52 = .ok (.iaload, 1) := by decide +kernel
theorem d15_53 : decode q15 53 = .ok (.iload 7, 2) := by decide +kernel
theorem d15_55 : decode q15 55 = .ok (.iushr, 1) := by decide +kernel
theorem d15_56 : decode q15 56 = .ok (.istore 8, 2) := by decide +kernel
theorem d15_58 : decode q15 58 = .ok (.iload 8, 2) := by decide +kernel
theorem d15_60 : decode q15 60 = .ok (.ifCond .eq 26, 3) := by decide +kernel
theorem d15_86 : decode q15 86 = .ok (.iload 4, 2) := by decide +kernel
theorem d15_88 : decode q15 88 = .ok (.iload_n 2, 1) := by decide +kernel
theorem d15_89 : decode q15 89 = .ok (.iadd, 1) := by decide +kernel
theorem d15_90 : decode q15 90 = .ok (.newarray .int, 2) := by decide +kernel
theorem d15_92 : decode q15 92 = .ok (.astore 5, 2) := by decide +kernel
theorem d15_94 : decode q15 94 = .ok (.iload 4, 2) := by decide +kernel
theorem d15_96 : decode q15 96 = .ok (.iconst 1, 1) := by decide +kernel
theorem d15_97 : decode q15 97 = .ok (.isub, 1) := by decide +kernel
theorem d15_98 : decode q15 98 = .ok (.istore 9, 2) := by decide +kernel
theorem d15_100 : decode q15 100 = .ok (.iconst 0, 1) := by decide +kernel
theorem d15_101 : decode q15 101 = .ok (.iload 9, 2) := by decide +kernel
theorem d15_103 : decode q15 103 = .ok (.iconst 1, 1) := by decide +kernel
theorem d15_104 : decode q15 104 = .ok (.iadd, 1) := by decide +kernel
theorem d15_105 : decode q15 105 = .ok (.aload_n 0, 1) := by decide +kernel
theorem d15_106 : decode q15 106 = .ok (.arraylength, 1) := by decide +kernel
theorem d15_107 : decode q15 107 = .ok (.invokestatic 611, 3) := by decide +kernel
abbrev own_y12 : MethodName := ⟨"java/util/Objects", "checkFromToIndex", "(III)I"⟩
theorem own_ef13 (m : MethodId) (x0 : Int32) (x1 : Int32) (x2 : Int32) : entryFrame m #[(.int x0), (.int x1), (.int x2)] 3 = mkF m 0 #[oi x0, oi x1, oi x2] [] := by first | (simp [entryFrame, mkF, argsToLocals, Value.category]; done) | rfl
theorem own_pn4 : plainName "java/util/Objects" = true := by first | (simp [plainName, overriddenIn]; done) | decide +kernel
theorem d16_0 : decode q16 0 = .ok (.iload_n 0, 1) := by decide +kernel
theorem d16_1 : decode q16 1 = .ok (.iload_n 1, 1) := by decide +kernel
theorem d16_2 : decode q16 2 = .ok (.iload_n 2, 1) := by decide +kernel
theorem d16_3 : decode q16 3 = .ok (.aconst_null, 1) := by decide +kernel
theorem d16_4 : decode q16 4 = .ok (.invokestatic 111, 3) := by decide +kernel
abbrev own_y13 : MethodName := ⟨"jdk/internal/util/Preconditions", "checkFromToIndex", "(IIILjava/util/function/BiFunction;)I"⟩
theorem own_ef14 (m : MethodId) (x0 : Int32) (x1 : Int32) (x2 : Int32) : entryFrame m #[(.int x0), (.int x1), (.int x2), .null] 4 = mkF m 0 #[oi x0, oi x1, oi x2, .val .null] [] := by first | (simp [entryFrame, mkF, argsToLocals, Value.category]; done) | rfl
theorem own_pn5 : plainName "jdk/internal/util/Preconditions" = true := by first | (simp [plainName, overriddenIn]; done) | decide +kernel
theorem d17_0 : decode q17 0 = .ok (.iload_n 0, 1) := by decide +kernel
theorem d17_1 : decode q17 1 = .ok (.ifCond .lt 13, 3) := by decide +kernel
theorem d17_4 : decode q17 4 = .ok (.iload_n 0, 1) := by decide +kernel
theorem d17_5 : decode q17 5 = .ok (.iload_n 1, 1) := by decide +kernel
theorem d17_6 : decode q17 6 = .ok (.if_icmp .gt 8, 3) := by decide +kernel
theorem d17_9 : decode q17 9 = .ok (.iload_n 1, 1) := by decide +kernel
theorem d17_10 : decode q17 10 = .ok (.iload_n 2, 1) := by decide +kernel
theorem d17_11 : decode q17 11 = .ok (.if_icmp .le 11, 3) := by decide +kernel
theorem d17_22 : decode q17 22 = .ok (.iload_n 0, 1) := by decide +kernel
theorem d17_23 : decode q17 23 = .ok (.ireturn, 1) := by decide +kernel
def own_Q_rmA13 (Z : State) (p0 : Int32) (p1 : Int32) (p2 : Int32)  (zr zm ps ng : Addr) (zk : ClassId) (h0 : Heap) (n0 : Nat) (v : Option Value) (h : Heap) (L : List Loc) : Prop := v = some (.int p0) ∧ Fr n0 L ∧ h = h0
theorem rmA13 (l : Launch) (Z : State) (a0 : Array Value) (hw : ∀ d ∈ tables_1, d.before a0 Z = true) (ws : List Jvm.Cond) (p0 : Int32) (p1 : Int32) (p2 : Int32)  (zr zm ps ng : Addr) (zk : ClassId) (h0 : Heap) (n0 : Nat) (O0 : Old Z n0 h0) (G : own_Gl Z zr zm ps ng zk) (h1 : ¬ (p0 < (0 : Int32))) (h2 : ¬ (p1 < p0)) (h3 : ¬ (p2 < p1)) :
    MetFree l own_y13 (head1 (Jvm.Cond.code own_y13 jdk_41_method_12_code 4 (some .int) :: ws) ({ frames := 0, cells := 0, slots := 0, locals := 0 } : Room)) (fun a U => a = #[(.int p0), (.int p1), (.int p2), .null] ∧ Z.Warmed39 U.vm ∧ U.heap = h0) (fun _ _ _ _ _ => True) (fun _ U o U' => ∃ v L, o = .returned v ∧ own_Q_rmA13 Z p0 p1 p2 zr zm ps ng zk h0 n0 v U'.heap L ∧ FrameEnd U o U' L ({ frames := 0, cells := 0, slots := 0, locals := 0 } : Room).cells ({ frames := 0, cells := 0, slots := 0, locals := 0 } : Room).slots) := by
  refine MetFree.of_bodySF (plainFor_of_name own_pn5) hisR ?_
  intro p e s m args below meth c s₁ Bd hml0 hP hK
  obtain ⟨rfl, hZ, hh⟩ := hP
  have hx := Bd.exec
  have hby := Bd.bytes
  have hml : c.maxLocals = 4 := hml0
  have hown : s.vm.findClass "jdk/internal/util/Preconditions" = some m.cls := findClass_of_methodNamed Bd.named
  have hnm := (name_of_methodNamed Bd.named Bd.method).1
  have X0 : Stand p l e ({ frames := 0, cells := 0, slots := 0, locals := 0 } : Room) s m #[(.int p0), (.int p1), (.int p2), .null] below meth c s₁ [] 0 0 := Stand.of_body Bd
  have e0 : s₁.heap = h0 := by rw [← hh, Bd.state]; rfl
  have N0 := Fr.nil n0
  have Z0 : n0 ≤ h0.size := O0.1 ▸ O0.2.1
  have g0 : ∀ t, FS p e below s₁ m 0 #[oi p0, oi p1, oi p2, .val .null] [] t → ES p e below s₁ m #[(.int p0), (.int p1), (.int p2), .null] 4 t := fun t k => castTop (own_ef14 m (p0) (p1) (p2)) k
  have G0 := G
  obtain ⟨S_Z, E_Z, F_Zs, F_Zm, V_Z, S_P, P_P, S_N, P_N⟩ := G
  have hc1 : ¬ (p0 < (0 : Int32)) := h1
  have hc2 : ¬ (p1 < p0) := h2
  have hc3 : ¬ (p2 < p1) := h3
  have g4 : ∀ t, FS p e below s₁ m 23 #[oi p0, oi p1, oi p2, .val .null] [(.int p0)] t → ES p e below s₁ m #[(.int p0), (.int p1), (.int p2), .null] 4 t := by
    intro t k
    refine g0 t ?_
    show FS p e below s₁ m 0 #[oi p0, oi p1, oi p2, .val .null] [] _
    refine XS.iloadN X0.here hx rfl (hb hby d17_0) rfl ?_
    refine XS.ifNo X0.here hx rfl (hb hby d17_1) rfl ((if0 _ _).trans (flt hc1).1) ?_
    refine XS.iloadN X0.here hx rfl (hb hby d17_4) rfl ?_
    refine XS.iloadN X0.here hx rfl (hb hby d17_5) rfl ?_
    refine XS.icmpNo X0.here hx rfl (hb hby d17_6) rfl (flt hc2).2.2.1 ?_
    refine XS.iloadN X0.here hx rfl (hb hby d17_9) rfl ?_
    refine XS.iloadN X0.here hx rfl (hb hby d17_10) rfl ?_
    refine XS.icmpYes X0.here hx rfl (pc0 := 11) (pc' := 22) rfl (hb hby d17_11) rfl (flt hc3).2.2.2 (by decide) (by decide) ?_
    refine XS.iloadN X0.here hx rfl (hb hby d17_22) rfl ?_
    exact k
  obtain ⟨fs, hrt, hrun, hended, hW, hsame⟩ := X0.leave (v := some (.int p0)) (fun h => by rw [Bd.returns] at h; cases h)
  refine ⟨_, _, g4 _ ?_, hrun, hended, _, _, rfl, ?_, ⟨_, rfl⟩, hW, hsame.mono (by decide) (by decide)⟩
  · show Steps p.tables e below (s₁.setTop (mkF m 23 #[oi p0, oi p1, oi p2, .val .null] [(.int p0)])) _
    exact retI X0 hx Bd.returns (hb hby d17_23) hrt
  · show own_Q_rmA13 Z p0 p1 p2 zr zm ps ng zk h0 n0 _ s₁.heap _
    rw [e0]
    exact ⟨rfl, N0, rfl⟩
theorem own_pd5 : parseMethodDescriptor "(IIILjava/util/function/BiFunction;)I" = some ⟨[.int, .int, .int, (.object "java/util/function/BiFunction")], some .int⟩ := by decide +kernel
theorem d16_7 : decode q16 7 = .ok (.ireturn, 1) := by decide +kernel
def own_Q_rmA12 (Z : State) (p0 : Int32) (p1 : Int32) (p2 : Int32)  (zr zm ps ng : Addr) (zk : ClassId) (h0 : Heap) (n0 : Nat) (v : Option Value) (h : Heap) (L : List Loc) : Prop := v = some (.int p0) ∧ Fr n0 L ∧ h = h0
theorem rmA12 (l : Launch) (Z : State) (a0 : Array Value) (hw : ∀ d ∈ tables_1, d.before a0 Z = true) (ws : List Jvm.Cond) (p0 : Int32) (p1 : Int32) (p2 : Int32)  (zr zm ps ng : Addr) (zk : ClassId) (h0 : Heap) (n0 : Nat) (O0 : Old Z n0 h0) (G : own_Gl Z zr zm ps ng zk) (h1 : ¬ (p0 < (0 : Int32))) (h2 : ¬ (p1 < p0)) (h3 : ¬ (p2 < p1)) :
    MetFree l own_y12 (head1 (Jvm.Cond.code own_y12 jdk_31_method_18_code 3 (some .int) :: ws) ({ frames := 1, cells := 0, slots := 0, locals := 15 } : Room)) (fun a U => a = #[(.int p0), (.int p1), (.int p2)] ∧ Z.Warmed39 U.vm ∧ U.heap = h0) (fun _ _ _ _ _ => True) (fun _ U o U' => ∃ v L, o = .returned v ∧ own_Q_rmA12 Z p0 p1 p2 zr zm ps ng zk h0 n0 v U'.heap L ∧ FrameEnd U o U' L ({ frames := 1, cells := 0, slots := 0, locals := 15 } : Room).cells ({ frames := 1, cells := 0, slots := 0, locals := 15 } : Room).slots) := by
  refine MetFree.of_bodySF (plainFor_of_name own_pn4) hisR ?_
  intro p e s m args below meth c s₁ Bd hml0 hP hK
  obtain ⟨rfl, hZ, hh⟩ := hP
  have hx := Bd.exec
  have hby := Bd.bytes
  have hml : c.maxLocals = 3 := hml0
  have hown : s.vm.findClass "java/util/Objects" = some m.cls := findClass_of_methodNamed Bd.named
  have hnm := (name_of_methodNamed Bd.named Bd.method).1
  have X0 : Stand p l e ({ frames := 1, cells := 0, slots := 0, locals := 15 } : Room) s m #[(.int p0), (.int p1), (.int p2)] below meth c s₁ [] 0 0 := Stand.of_body Bd
  have e0 : s₁.heap = h0 := by rw [← hh, Bd.state]; rfl
  have N0 := Fr.nil n0
  have Z0 : n0 ≤ h0.size := O0.1 ▸ O0.2.1
  have g0 : ∀ t, FS p e below s₁ m 0 #[oi p0, oi p1, oi p2] [] t → ES p e below s₁ m #[(.int p0), (.int p1), (.int p2)] 3 t := fun t k => castTop (own_ef13 m (p0) (p1) (p2)) k
  have G0 := G
  obtain ⟨S_Z, E_Z, F_Zs, F_Zm, V_Z, S_P, P_P, S_N, P_N⟩ := G
  obtain ⟨_, _, ⟨T1, L1, k1, n1⟩, -, X1, ⟨Lc1, hQ1, l1, y1, z1⟩, st1⟩ := Jvm.LawKit.callS X0 hx (y := own_y13) hown (mvT hZ (own_w hw 120 rfl)) (mvT hZ (own_w hw 121 rfl)) (mvT hZ (own_w hw 122 rfl)) (mvT hZ (own_w hw 123 rfl)) (by decide) (backOf (W := 0) (rmA13 l Z a0 hw [] (p0) (p1) (p2)  zr zm ps ng zk h0 n0 O0 G0   h1 h2 h3) hZ (own_w hw 123 rfl) (own_w hw 122 rfl) (by decide) (by decide)) (g := (mkF m 4 #[oi p0, oi p1, oi p2] [.null, (.int p2), (.int p1), (.int p0)])) rfl (by rw [hml]; rfl) (argsL := [(.int p0), (.int p1), (.int p2), .null]) (rest := []) (lenOf own_pd5 rfl) rfl (own_W0 rfl) (hb hby d16_4) (fun _ _ => ⟨rfl, e0, (by decide : 0 + 0 ≤ _), (by decide : 0 + 0 ≤ _)⟩)
  dsimp only [Pt.U, Pt.locs, Pt.cells, Pt.slots] at X1 l1 y1 z1 st1 hQ1
  subst l1 y1 z1
  obtain ⟨rfl, Nq1, e1⟩ := hQ1
  have N1 := Fr.app N0 Nq1
  have g2 : ∀ t, FS p e below T1 m 7 #[oi p0, oi p1, oi p2] [(.int p0)] t → ES p e below s₁ m #[(.int p0), (.int p1), (.int p2)] 3 t := by
    intro t k
    refine g0 t ?_
    show FS p e below s₁ m 0 #[oi p0, oi p1, oi p2] [] _
    refine XS.iloadN X0.here hx rfl (hb hby d16_0) rfl ?_
    refine XS.iloadN X0.here hx rfl (hb hby d16_1) rfl ?_
    refine XS.iloadN X0.here hx rfl (hb hby d16_2) rfl ?_
    refine XS.aconstNull X0.here hx rfl (hb hby d16_3) ?_
    refine st1 _ ?_
    exact k
  obtain ⟨fs, hrt, hrun, hended, hW, hsame⟩ := X1.leave (v := some (.int p0)) (fun h => by rw [Bd.returns] at h; cases h)
  refine ⟨_, _, g2 _ ?_, hrun, hended, _, _, rfl, ?_, ⟨_, rfl⟩, hW, hsame.mono (by decide) (by decide)⟩
  · show Steps p.tables e below (T1.setTop (mkF m 7 #[oi p0, oi p1, oi p2] [(.int p0)])) _
    exact retI X1 hx Bd.returns (hb hby d16_7) hrt
  · show own_Q_rmA12 Z p0 p1 p2 zr zm ps ng zk h0 n0 _ T1.heap _
    rw [e1]
    exact ⟨rfl, N1, rfl⟩
theorem own_pd6 : parseMethodDescriptor "(III)I" = some ⟨[.int, .int, .int], some .int⟩ := by decide +kernel
theorem d15_110 : decode q15 110 = .ok (.pop, 1) := by decide +kernel
theorem d15_111 : decode q15 111 = .ok (.iload 6, 2) := by decide +kernel
theorem d15_113 : decode q15 113 = .ok (.iload 9, 2) := by decide +kernel
theorem d15_115 : decode q15 115 = .ok (.iload 6, 2) := by decide +kernel
theorem d15_117 : decode q15 117 = .ok (.iadd, 1) := by decide +kernel
theorem d15_118 : decode q15 118 = .ok (.iconst 1, 1) := by decide +kernel
theorem d15_119 : decode q15 119 = .ok (.iadd, 1) := by decide +kernel
theorem d15_120 : decode q15 120 = .ok (.aload 5, 2) := by decide +kernel
theorem d15_122 : decode q15 122 = .ok (.arraylength, 1) := by decide +kernel
theorem d15_123 : decode q15 123 = .ok (.invokestatic 611, 3) := by decide +kernel
theorem d15_126 : decode q15 126 = .ok (.pop, 1) := by decide +kernel
theorem d15_127 : decode q15 127 = .ok (.aload 5, 2) := by decide +kernel
theorem d15_129 : decode q15 129 = .ok (.aload_n 0, 1) := by decide +kernel
theorem d15_130 : decode q15 130 = .ok (.iload 6, 2) := by decide +kernel
theorem d15_132 : decode q15 132 = .ok (.iload_n 3, 1) := by decide +kernel
theorem d15_133 : decode q15 133 = .ok (.iload 9, 2) := by decide +kernel
theorem d15_135 : decode q15 135 = .ok (.invokestatic 618, 3) := by decide +kernel
abbrev own_y14 : MethodName := ⟨"java/math/BigInteger", "shiftLeftImplWorker", "([I[IIII)V"⟩
theorem own_ef15 (m : MethodId) (x0 : Addr) (x1 : Addr) (x2 : Int32) (x3 : Int32) (x4 : Int32) : entryFrame m #[(.ref x0), (.ref x1), (.int x2), (.int x3), (.int x4)] 7 = mkF m 0 #[oa x0, oa x1, oi x2, oi x3, oi x4, vU, vU] [] := by first | (simp [entryFrame, mkF, argsToLocals, Value.category]; done) | rfl
theorem d18_0 : decode q18 0 = .ok (.bipush 32, 2) := by decide +kernel
theorem d18_2 : decode q18 2 = .ok (.iload_n 3, 1) := by decide +kernel
theorem d18_3 : decode q18 3 = .ok (.isub, 1) := by decide +kernel
theorem d18_4 : decode q18 4 = .ok (.istore 5, 2) := by decide +kernel
theorem d18_6 : decode q18 6 = .ok (.iconst 0, 1) := by decide +kernel
theorem d18_7 : decode q18 7 = .ok (.istore 6, 2) := by decide +kernel
theorem d18_9 : decode q18 9 = .ok (.iload 6, 2) := by decide +kernel
theorem d18_11 : decode q18 11 = .ok (.iload 4, 2) := by decide +kernel
theorem d18_13 : decode q18 13 = .ok (.if_icmp .ge 29, 3) := by decide +kernel
theorem d18_42 : decode q18 42 = .ok (.return_, 1) := by decide +kernel
def own_Q_rmA14 (Z : State) (ob0 : Addr) (ob1 : Addr) (p3 : Int32)  (zr zm ps ng : Addr) (zk : ClassId) (h0 : Heap) (n0 : Nat) (v : Option Value) (h : Heap) (L : List Loc) : Prop := v = none ∧ Fr n0 L ∧ h = h0
theorem rmA14 (l : Launch) (Z : State) (a0 : Array Value) (hw : ∀ d ∈ tables_1, d.before a0 Z = true) (ws : List Jvm.Cond) (ob0 : Addr) (ob1 : Addr) (p3 : Int32)  (zr zm ps ng : Addr) (zk : ClassId) (h0 : Heap) (n0 : Nat) (O0 : Old Z n0 h0) (G : own_Gl Z zr zm ps ng zk) :
    MetFree l own_y14 (head1 (Jvm.Cond.code own_y14 jdk_2097_method_103_code 7 none :: ws) ({ frames := 0, cells := 0, slots := 0, locals := 0 } : Room)) (fun a U => a = #[(.ref ob0), (.ref ob1), (.int (0 : Int32)), (.int p3), (.int (0 : Int32))] ∧ Z.Warmed39 U.vm ∧ U.heap = h0) (fun _ _ _ _ _ => True) (fun _ U o U' => ∃ v L, o = .returned v ∧ own_Q_rmA14 Z ob0 ob1 p3 zr zm ps ng zk h0 n0 v U'.heap L ∧ FrameEnd U o U' L ({ frames := 0, cells := 0, slots := 0, locals := 0 } : Room).cells ({ frames := 0, cells := 0, slots := 0, locals := 0 } : Room).slots) := by
  refine MetFree.of_bodySF (plainFor_of_name own_pn1) hisR ?_
  intro p e s m args below meth c s₁ Bd hml0 hP hK
  obtain ⟨rfl, hZ, hh⟩ := hP
  have hx := Bd.exec
  have hby := Bd.bytes
  have hml : c.maxLocals = 7 := hml0
  have hown : s.vm.findClass "java/math/BigInteger" = some m.cls := findClass_of_methodNamed Bd.named
  have hnm := (name_of_methodNamed Bd.named Bd.method).1
  have X0 : Stand p l e ({ frames := 0, cells := 0, slots := 0, locals := 0 } : Room) s m #[(.ref ob0), (.ref ob1), (.int (0 : Int32)), (.int p3), (.int (0 : Int32))] below meth c s₁ [] 0 0 := Stand.of_body Bd
  have e0 : s₁.heap = h0 := by rw [← hh, Bd.state]; rfl
  have N0 := Fr.nil n0
  have Z0 : n0 ≤ h0.size := O0.1 ▸ O0.2.1
  have g0 : ∀ t, FS p e below s₁ m 0 #[oa ob0, oa ob1, oi (0 : Int32), oi p3, oi (0 : Int32), vU, vU] [] t → ES p e below s₁ m #[(.ref ob0), (.ref ob1), (.int (0 : Int32)), (.int p3), (.int (0 : Int32))] 7 t := fun t k => castTop (own_ef15 m (ob0) (ob1) ((0 : Int32)) (p3) ((0 : Int32))) k
  have G0 := G
  obtain ⟨S_Z, E_Z, F_Zs, F_Zm, V_Z, S_P, P_P, S_N, P_N⟩ := G
  have g1 : ∀ t, FS p e below s₁ m 42 #[oa ob0, oa ob1, oi (0 : Int32), oi p3, oi (0 : Int32), .val (.int ((32 : Int32) - p3)), oi (0 : Int32)] [] t → ES p e below s₁ m #[(.ref ob0), (.ref ob1), (.int (0 : Int32)), (.int p3), (.int (0 : Int32))] 7 t := by
    intro t k
    refine g0 t ?_
    show FS p e below s₁ m 0 #[oa ob0, oa ob1, oi (0 : Int32), oi p3, oi (0 : Int32), vU, vU] [] _
    refine XS.bipush X0.here hx rfl (hb hby d18_0) ?_
    refine XS.iloadN X0.here hx rfl (hb hby d18_2) rfl ?_
    refine XS.isub X0.here hx rfl (hb hby d18_3) rfl ?_
    refine XS.istore X0.here hx rfl (hb hby d18_4) rfl (l' := #[oa ob0, oa ob1, oi (0 : Int32), oi p3, oi (0 : Int32), .val (.int ((32 : Int32) - p3)), vU]) rfl ?_
    refine XS.iconst X0.here hx rfl (hb hby d18_6) ?_
    refine XS.istore X0.here hx rfl (hb hby d18_7) rfl (l' := #[oa ob0, oa ob1, oi (0 : Int32), oi p3, oi (0 : Int32), .val (.int ((32 : Int32) - p3)), oi (0 : Int32)]) rfl ?_
    refine XS.iload X0.here hx rfl (hb hby d18_9) rfl ?_
    refine XS.iload X0.here hx rfl (hb hby d18_11) rfl ?_
    refine XS.icmpYes X0.here hx rfl (pc0 := 13) (pc' := 42) rfl (hb hby d18_13) rfl (flt (by decide : ¬ ((0 : Int32) < (0 : Int32)))).2.1 (by decide) (by decide) ?_
    exact k
  obtain ⟨fs, hrt, hrun, hended, hW, hsame⟩ := X0.leave (v := none) (fun _ => rfl)
  refine ⟨_, _, g1 _ ?_, hrun, hended, _, _, rfl, ?_, ⟨_, rfl⟩, hW, hsame.mono (by decide) (by decide)⟩
  · show Steps p.tables e below (s₁.setTop (mkF m 42 #[oa ob0, oa ob1, oi (0 : Int32), oi p3, oi (0 : Int32), .val (.int ((32 : Int32) - p3)), oi (0 : Int32)] [])) _
    exact X0.returnOut hx Bd.returns (hb hby d18_42) hrt
  · show own_Q_rmA14 Z ob0 ob1 p3 zr zm ps ng zk h0 n0 _ s₁.heap _
    rw [e0]
    exact ⟨rfl, N0, rfl⟩
theorem own_pd7 : parseMethodDescriptor "([I[IIII)V" = some ⟨[(.array .int), (.array .int), .int, .int, .int], none⟩ := by decide +kernel
theorem d15_138 : decode q15 138 = .ok (.aload 5, 2) := by decide +kernel
theorem d15_140 : decode q15 140 = .ok (.iload 9, 2) := by decide +kernel
theorem d15_142 : decode q15 142 = .ok (.iload 6, 2) := by decide +kernel
theorem d15_144 : decode q15 144 = .ok (.iadd, 1) := by decide +kernel
theorem d15_145 : decode q15 145 = .ok (.aload_n 0, 1) := by decide +kernel
theorem d15_146 : decode q15 146 = .ok (.iload 9, 2) := by decide +kernel
theorem d15_148 : decode q15 148 = .ok (.iaload, 1) := by decide +kernel
theorem d15_149 : decode q15 149 = .ok (.iload_n 3, 1) := by decide +kernel
theorem d15_150 : decode q15 150 = .ok (.ishl, 1) := by decide +kernel
theorem d15_151 : decode q15 151 = .ok (.iastore, 1) := by decide +kernel
theorem d15_63 : decode q15 63 = .ok (.iload 4, 2) := by decide +kernel
theorem d15_65 : decode q15 65 = .ok (.iload_n 2, 1) := by decide +kernel
theorem d15_66 : decode q15 66 = .ok (.iadd, 1) := by decide +kernel
theorem d15_67 : decode q15 67 = .ok (.iconst 1, 1) := by decide +kernel
theorem d15_68 : decode q15 68 = .ok (.iadd, 1) := by decide +kernel
theorem d15_69 : decode q15 69 = .ok (.newarray .int, 2) := by decide +kernel
theorem d15_71 : decode q15 71 = .ok (.astore 5, 2) := by decide +kernel
theorem d15_73 : decode q15 73 = .ok (.aload 5, 2) := by decide +kernel
theorem d15_75 : decode q15 75 = .ok (.iload 6, 2) := by decide +kernel
theorem d15_77 : decode q15 77 = .ok (.iinc 6 1, 3) := by decide +kernel
theorem d15_80 : decode q15 80 = .ok (.iload 8, 2) := by decide +kernel
theorem d15_82 : decode q15 82 = .ok (.iastore, 1) := by decide +kernel
theorem d15_83 : decode q15 83 = .ok (.goto 11, 3) := by decide +kernel
def own_Q_rmA15 (Z : State) (ob0 : Addr) (ob1 : Addr) (p3 : Int32)  (zr zm ps ng : Addr) (zk : ClassId) (h0 : Heap) (n0 : Nat) (v : Option Value) (h : Heap) (L : List Loc) : Prop := v = none ∧ Fr n0 L ∧ h = h0
theorem rmA15 (l : Launch) (Z : State) (a0 : Array Value) (hw : ∀ d ∈ tables_1, d.before a0 Z = true) (ws : List Jvm.Cond) (ob0 : Addr) (ob1 : Addr) (p3 : Int32)  (zr zm ps ng : Addr) (zk : ClassId) (h0 : Heap) (n0 : Nat) (O0 : Old Z n0 h0) (G : own_Gl Z zr zm ps ng zk) :
    MetFree l own_y14 (head1 (Jvm.Cond.code own_y14 jdk_2097_method_103_code 7 none :: ws) ({ frames := 0, cells := 0, slots := 0, locals := 0 } : Room)) (fun a U => a = #[(.ref ob0), (.ref ob1), (.int (1 : Int32)), (.int p3), (.int (0 : Int32))] ∧ Z.Warmed39 U.vm ∧ U.heap = h0) (fun _ _ _ _ _ => True) (fun _ U o U' => ∃ v L, o = .returned v ∧ own_Q_rmA15 Z ob0 ob1 p3 zr zm ps ng zk h0 n0 v U'.heap L ∧ FrameEnd U o U' L ({ frames := 0, cells := 0, slots := 0, locals := 0 } : Room).cells ({ frames := 0, cells := 0, slots := 0, locals := 0 } : Room).slots) := by
  refine MetFree.of_bodySF (plainFor_of_name own_pn1) hisR ?_
  intro p e s m args below meth c s₁ Bd hml0 hP hK
  obtain ⟨rfl, hZ, hh⟩ := hP
  have hx := Bd.exec
  have hby := Bd.bytes
  have hml : c.maxLocals = 7 := hml0
  have hown : s.vm.findClass "java/math/BigInteger" = some m.cls := findClass_of_methodNamed Bd.named
  have hnm := (name_of_methodNamed Bd.named Bd.method).1
  have X0 : Stand p l e ({ frames := 0, cells := 0, slots := 0, locals := 0 } : Room) s m #[(.ref ob0), (.ref ob1), (.int (1 : Int32)), (.int p3), (.int (0 : Int32))] below meth c s₁ [] 0 0 := Stand.of_body Bd
  have e0 : s₁.heap = h0 := by rw [← hh, Bd.state]; rfl
  have N0 := Fr.nil n0
  have Z0 : n0 ≤ h0.size := O0.1 ▸ O0.2.1
  have g0 : ∀ t, FS p e below s₁ m 0 #[oa ob0, oa ob1, oi (1 : Int32), oi p3, oi (0 : Int32), vU, vU] [] t → ES p e below s₁ m #[(.ref ob0), (.ref ob1), (.int (1 : Int32)), (.int p3), (.int (0 : Int32))] 7 t := fun t k => castTop (own_ef15 m (ob0) (ob1) ((1 : Int32)) (p3) ((0 : Int32))) k
  have G0 := G
  obtain ⟨S_Z, E_Z, F_Zs, F_Zm, V_Z, S_P, P_P, S_N, P_N⟩ := G
  have g1 : ∀ t, FS p e below s₁ m 42 #[oa ob0, oa ob1, oi (1 : Int32), oi p3, oi (0 : Int32), .val (.int ((32 : Int32) - p3)), oi (0 : Int32)] [] t → ES p e below s₁ m #[(.ref ob0), (.ref ob1), (.int (1 : Int32)), (.int p3), (.int (0 : Int32))] 7 t := by
    intro t k
    refine g0 t ?_
    show FS p e below s₁ m 0 #[oa ob0, oa ob1, oi (1 : Int32), oi p3, oi (0 : Int32), vU, vU] [] _
    refine XS.bipush X0.here hx rfl (hb hby d18_0) ?_
    refine XS.iloadN X0.here hx rfl (hb hby d18_2) rfl ?_
    refine XS.isub X0.here hx rfl (hb hby d18_3) rfl ?_
    refine XS.istore X0.here hx rfl (hb hby d18_4) rfl (l' := #[oa ob0, oa ob1, oi (1 : Int32), oi p3, oi (0 : Int32), .val (.int ((32 : Int32) - p3)), vU]) rfl ?_
    refine XS.iconst X0.here hx rfl (hb hby d18_6) ?_
    refine XS.istore X0.here hx rfl (hb hby d18_7) rfl (l' := #[oa ob0, oa ob1, oi (1 : Int32), oi p3, oi (0 : Int32), .val (.int ((32 : Int32) - p3)), oi (0 : Int32)]) rfl ?_
    refine XS.iload X0.here hx rfl (hb hby d18_9) rfl ?_
    refine XS.iload X0.here hx rfl (hb hby d18_11) rfl ?_
    refine XS.icmpYes X0.here hx rfl (pc0 := 13) (pc' := 42) rfl (hb hby d18_13) rfl (flt (by decide : ¬ ((0 : Int32) < (0 : Int32)))).2.1 (by decide) (by decide) ?_
    exact k
  obtain ⟨fs, hrt, hrun, hended, hW, hsame⟩ := X0.leave (v := none) (fun _ => rfl)
  refine ⟨_, _, g1 _ ?_, hrun, hended, _, _, rfl, ?_, ⟨_, rfl⟩, hW, hsame.mono (by decide) (by decide)⟩
  · show Steps p.tables e below (s₁.setTop (mkF m 42 #[oa ob0, oa ob1, oi (1 : Int32), oi p3, oi (0 : Int32), .val (.int ((32 : Int32) - p3)), oi (0 : Int32)] [])) _
    exact X0.returnOut hx Bd.returns (hb hby d18_42) hrt
  · show own_Q_rmA15 Z ob0 ob1 p3 zr zm ps ng zk h0 n0 _ s₁.heap _
    rw [e0]
    exact ⟨rfl, N0, rfl⟩
theorem d18_16 : decode q18 16 = .ok (.aload_n 0, 1) := by decide +kernel
theorem d18_17 : decode q18 17 = .ok (.iload_n 2, 1) := by decide +kernel
theorem d18_18 : decode q18 18 = .ok (.iinc 2 1, 3) := by decide +kernel
theorem d18_21 : decode q18 21 = .ok (.aload_n 1, 1) := by decide +kernel
theorem d18_22 : decode q18 22 = .ok (.iload 6, 2) := by decide +kernel
theorem d18_24 : decode q18 24 = .ok (.iinc 6 1, 3) := by decide +kernel
theorem d18_27 : decode q18 27 = .ok (.iaload, 1) := by decide +kernel
theorem d18_28 : decode q18 28 = .ok (.iload_n 3, 1) := by decide +kernel
theorem d18_29 : decode q18 29 = .ok (.ishl, 1) := by decide +kernel
theorem d18_30 : decode q18 30 = .ok (.aload_n 1, 1) := by decide +kernel
theorem d18_31 : decode q18 31 = .ok (.iload 6, 2) := by decide +kernel
theorem d18_33 : decode q18 33 = .ok (.iaload, 1) := by decide +kernel
theorem d18_34 : decode q18 34 = .ok (.iload 5, 2) := by decide +kernel
theorem d18_36 : decode q18 36 = .ok (.iushr, 1) := by decide +kernel
theorem d18_37 : decode q18 37 = .ok (.ior, 1) := by decide +kernel
theorem d18_38 : decode q18 38 = .ok (.iastore, 1) := by decide +kernel
theorem d18_39 : decode q18 39 = .ok (.goto (-30), 3) := by decide +kernel
def own_Q_rmA16 (Z : State) (ob0 : Addr) (k_ob0 : ClassId) (ob0_z : Int32) (ob0_l : List Value) (ob1 : Addr) (k_ob1 : ClassId) (ob1_0 : Int32) (ob1_1 : Int32) (p3 : Int32)  (zr zm ps ng : Addr) (zk : ClassId) (h0 : Heap) (n0 : Nat) (v : Option Value) (h : Heap) (L : List Loc) : Prop := v = none ∧ Fr n0 L ∧ Keep h0 h [ob0] ∧ ∃ rl : List Value, Arv Z h ob0 k_ob0 .int ob0_z rl (.int (0 : Int32)) ∧ ob0_z.toNatClampNeg ≤ rl.length
theorem rmA16 (l : Launch) (Z : State) (a0 : Array Value) (hw : ∀ d ∈ tables_1, d.before a0 Z = true) (ws : List Jvm.Cond) (ob0 : Addr) (k_ob0 : ClassId) (ob0_z : Int32) (ob0_l : List Value) (ob1 : Addr) (k_ob1 : ClassId) (ob1_0 : Int32) (ob1_1 : Int32) (p3 : Int32)  (zr zm ps ng : Addr) (zk : ClassId) (h0 : Heap) (n0 : Nat) (O0 : Old Z n0 h0) (G : own_Gl Z zr zm ps ng zk) (V_ob0 : Arv Z h0 ob0 k_ob0 .int ob0_z ob0_l (.int (0 : Int32))) (V_ob1 : Arv Z h0 ob1 k_ob1 .int (2 : Int32) [(.int ob1_0), (.int ob1_1)] (.int (0 : Int32))) (gz_ob0 : n0 ≤ ob0) (hne : ob1 ≠ ob0) (hl : ob0_z.toNatClampNeg ≤ ob0_l.length) (hi : ¬ ((0 : Int32) < 0) ∧ (0 : Int32) < ob0_z) :
    MetFree l own_y14 (head1 (Jvm.Cond.code own_y14 jdk_2097_method_103_code 7 none :: ws) ({ frames := 0, cells := 0, slots := 0, locals := 0 } : Room)) (fun a U => a = #[(.ref ob0), (.ref ob1), (.int (0 : Int32)), (.int p3), (.int (1 : Int32))] ∧ Z.Warmed39 U.vm ∧ U.heap = h0) (fun _ _ _ _ _ => True) (fun _ U o U' => ∃ v L, o = .returned v ∧ own_Q_rmA16 Z ob0 k_ob0 ob0_z ob0_l ob1 k_ob1 ob1_0 ob1_1 p3 zr zm ps ng zk h0 n0 v U'.heap L ∧ FrameEnd U o U' L ({ frames := 0, cells := 0, slots := 0, locals := 0 } : Room).cells ({ frames := 0, cells := 0, slots := 0, locals := 0 } : Room).slots) := by
  refine MetFree.of_bodySF (plainFor_of_name own_pn1) hisR ?_
  intro p e s m args below meth c s₁ Bd hml0 hP hK
  obtain ⟨rfl, hZ, hh⟩ := hP
  have hx := Bd.exec
  have hby := Bd.bytes
  have hml : c.maxLocals = 7 := hml0
  have hown : s.vm.findClass "java/math/BigInteger" = some m.cls := findClass_of_methodNamed Bd.named
  have hnm := (name_of_methodNamed Bd.named Bd.method).1
  have X0 : Stand p l e ({ frames := 0, cells := 0, slots := 0, locals := 0 } : Room) s m #[(.ref ob0), (.ref ob1), (.int (0 : Int32)), (.int p3), (.int (1 : Int32))] below meth c s₁ [] 0 0 := Stand.of_body Bd
  have e0 : s₁.heap = h0 := by rw [← hh, Bd.state]; rfl
  have N0 := Fr.nil n0
  have Z0 : n0 ≤ h0.size := O0.1 ▸ O0.2.1
  have g0 : ∀ t, FS p e below s₁ m 0 #[oa ob0, oa ob1, oi (0 : Int32), oi p3, oi (1 : Int32), vU, vU] [] t → ES p e below s₁ m #[(.ref ob0), (.ref ob1), (.int (0 : Int32)), (.int p3), (.int (1 : Int32))] 7 t := fun t k => castTop (own_ef15 m (ob0) (ob1) ((0 : Int32)) (p3) ((1 : Int32))) k
  have G0 := G
  obtain ⟨S_Z, E_Z, F_Zs, F_Zm, V_Z, S_P, P_P, S_N, P_N⟩ := G
  obtain ⟨c1, Ar1, cq1, S1, Nn1, Hh1, Gg1⟩ := id V_ob1
  have hin1 : ¬ ((0 : Int32) < 0 ∨ c1.slots.size ≤ ((0 : Int32)).toNatClampNeg) := inb_of S1 ⟨by decide, by decide⟩
  have hat1 : c1.slots[((0 : Int32)).toNatClampNeg]? = some (.int ob1_0) := Has.at Hh1 hin1 rfl
  obtain ⟨c2, Ar2, cq2, S2, Nn2, Hh2, Gg2⟩ := id V_ob1
  have hin2 : ¬ ((1 : Int32) < 0 ∨ c2.slots.size ≤ ((1 : Int32)).toNatClampNeg) := inb_of S2 ⟨by decide, by decide⟩
  have hat2 : c2.slots[((1 : Int32)).toNatClampNeg]? = some (.int ob1_1) := Has.at Hh2 hin2 rfl
  obtain ⟨c3, Ar3, cq3, S3, Nn3, Hh3, Gg3⟩ := id V_ob0
  have hin3 : ¬ ((0 : Int32) < 0 ∨ c3.slots.size ≤ ((0 : Int32)).toNatClampNeg) := inb_of S3 hi
  obtain ⟨T4, h4, X4, e4, W4, st4⟩ := stI X0 hx hZ e0 Ar3 (j := (0 : Int32)) hin3 (g := (mkF m 38 #[oa ob0, oa ob1, oi (1 : Int32), oi p3, oi (1 : Int32), .val (.int ((32 : Int32) - p3)), oi (1 : Int32)] [(.int ((ob1_0 <<< (p3 &&& 31)) ||| ((ob1_1.toUInt32 >>> (((32 : Int32) - p3) &&& 31).toUInt32).toInt32))), (.int (0 : Int32)), (.ref ob0)])) rfl rfl (hb hby d18_38)
  obtain ⟨vl4, V4a, hl4⟩ : ∃ q : List Value, Arv Z h4 ob0 k_ob0 .int ob0_z q (.int (0 : Int32)) ∧ (ob0_z).toNatClampNeg ≤ q.length := ⟨_, Arv.set Ar3 cq3 S3 Nn3 Hh3 Gg3 rfl W4 _ rfl (own_inl hin3 S3 hl), by rw [List.length_set]; exact hl⟩
  have N4 := Fr.snoc X4 N0 gz_ob0
  have g5 : ∀ t, FS p e below T4 m 42 #[oa ob0, oa ob1, oi (1 : Int32), oi p3, oi (1 : Int32), .val (.int ((32 : Int32) - p3)), oi (1 : Int32)] [] t → ES p e below s₁ m #[(.ref ob0), (.ref ob1), (.int (0 : Int32)), (.int p3), (.int (1 : Int32))] 7 t := by
    intro t k
    refine g0 t ?_
    show FS p e below s₁ m 0 #[oa ob0, oa ob1, oi (0 : Int32), oi p3, oi (1 : Int32), vU, vU] [] _
    refine XS.bipush X0.here hx rfl (hb hby d18_0) ?_
    refine XS.iloadN X0.here hx rfl (hb hby d18_2) rfl ?_
    refine XS.isub X0.here hx rfl (hb hby d18_3) rfl ?_
    refine XS.istore X0.here hx rfl (hb hby d18_4) rfl (l' := #[oa ob0, oa ob1, oi (0 : Int32), oi p3, oi (1 : Int32), .val (.int ((32 : Int32) - p3)), vU]) rfl ?_
    refine XS.iconst X0.here hx rfl (hb hby d18_6) ?_
    refine XS.istore X0.here hx rfl (hb hby d18_7) rfl (l' := #[oa ob0, oa ob1, oi (0 : Int32), oi p3, oi (1 : Int32), .val (.int ((32 : Int32) - p3)), oi (0 : Int32)]) rfl ?_
    refine XS.iload X0.here hx rfl (hb hby d18_9) rfl ?_
    refine XS.iload X0.here hx rfl (hb hby d18_11) rfl ?_
    refine XS.icmpNo X0.here hx rfl (hb hby d18_13) rfl (tlt (by decide : (0 : Int32) < (1 : Int32))).2.1 ?_
    refine XS.aloadN X0.here hx rfl (hb hby d18_16) rfl rfl ?_
    refine XS.iloadN X0.here hx rfl (hb hby d18_17) rfl ?_
    show FS p e below s₁ m 18 #[oa ob0, oa ob1, oi (0 : Int32), oi p3, oi (1 : Int32), .val (.int ((32 : Int32) - p3)), oi (0 : Int32)] [(.int (0 : Int32)), (.ref ob0)] _
    refine XS.iinc X0.here hx rfl (hb hby d18_18) rfl (l' := #[oa ob0, oa ob1, .val (.int ((0 : Int32) + (1 : Int32))), oi p3, oi (1 : Int32), .val (.int ((32 : Int32) - p3)), oi (0 : Int32)]) rfl ?_
    rw [show ((0 : Int32) + (1 : Int32)) = (1 : Int32) from by decide]
    refine XS.aloadN X0.here hx rfl (hb hby d18_21) rfl rfl ?_
    refine XS.iload X0.here hx rfl (hb hby d18_22) rfl ?_
    show FS p e below s₁ m 24 #[oa ob0, oa ob1, oi (1 : Int32), oi p3, oi (1 : Int32), .val (.int ((32 : Int32) - p3)), oi (0 : Int32)] [(.int (0 : Int32)), (.ref ob1), (.int (0 : Int32)), (.ref ob0)] _
    refine XS.iinc X0.here hx rfl (hb hby d18_24) rfl (l' := #[oa ob0, oa ob1, oi (1 : Int32), oi p3, oi (1 : Int32), .val (.int ((32 : Int32) - p3)), .val (.int ((0 : Int32) + (1 : Int32)))]) rfl ?_
    rw [show ((0 : Int32) + (1 : Int32)) = (1 : Int32) from by decide]
    refine X0.iaload hx (j := (0 : Int32)) (v := (.int ob1_0)) (by rw [e0]; exact Ar1.1) (State.isArrayOf_alike hZ.alike Ar1.2.1) Ar1.2.2 hin1 hat1 (g := (mkF m 27 #[oa ob0, oa ob1, oi (1 : Int32), oi p3, oi (1 : Int32), .val (.int ((32 : Int32) - p3)), oi (1 : Int32)] [(.int (0 : Int32)), (.ref ob1), (.int (0 : Int32)), (.ref ob0)])) rfl rfl (hb hby d18_27) _ ?_
    show FS p e below s₁ m 28 #[oa ob0, oa ob1, oi (1 : Int32), oi p3, oi (1 : Int32), .val (.int ((32 : Int32) - p3)), oi (1 : Int32)] [(.int ob1_0), (.int (0 : Int32)), (.ref ob0)] _
    refine XS.iloadN X0.here hx rfl (hb hby d18_28) rfl ?_
    refine XS.ishl X0.here hx rfl (hb hby d18_29) rfl ?_
    refine XS.aloadN X0.here hx rfl (hb hby d18_30) rfl rfl ?_
    refine XS.iload X0.here hx rfl (hb hby d18_31) rfl ?_
    refine X0.iaload hx (j := (1 : Int32)) (v := (.int ob1_1)) (by rw [e0]; exact Ar2.1) (State.isArrayOf_alike hZ.alike Ar2.2.1) Ar2.2.2 hin2 hat2 (g := (mkF m 33 #[oa ob0, oa ob1, oi (1 : Int32), oi p3, oi (1 : Int32), .val (.int ((32 : Int32) - p3)), oi (1 : Int32)] [(.int (1 : Int32)), (.ref ob1), (.int (ob1_0 <<< (p3 &&& 31))), (.int (0 : Int32)), (.ref ob0)])) rfl rfl (hb hby d18_33) _ ?_
    refine XS.iload X0.here hx rfl (hb hby d18_34) rfl ?_
    refine XS.iushr X0.here hx rfl (hb hby d18_36) rfl ?_
    refine XS.ior X0.here hx rfl (hb hby d18_37) rfl ?_
    refine st4 _ ?_
    refine XS.goto X4.here hx rfl (pc0 := 39) (pc' := 9) rfl (hb hby d18_39) (by decide) (by decide) ?_
    refine XS.iload X4.here hx rfl (hb hby d18_9) rfl ?_
    refine XS.iload X4.here hx rfl (hb hby d18_11) rfl ?_
    refine XS.icmpYes X4.here hx rfl (pc0 := 13) (pc' := 42) rfl (hb hby d18_13) rfl (flt (by decide : ¬ ((1 : Int32) < (1 : Int32)))).2.1 (by decide) (by decide) ?_
    exact k
  obtain ⟨fs, hrt, hrun, hended, hW, hsame⟩ := X4.leave (v := none) (fun _ => rfl)
  refine ⟨_, _, g5 _ ?_, hrun, hended, _, _, rfl, ?_, ⟨_, rfl⟩, hW, hsame.mono (by decide) (by decide)⟩
  · show Steps p.tables e below (T4.setTop (mkF m 42 #[oa ob0, oa ob1, oi (1 : Int32), oi p3, oi (1 : Int32), .val (.int ((32 : Int32) - p3)), oi (1 : Int32)] [])) _
    exact X4.returnOut hx Bd.returns (hb hby d18_42) hrt
  · show own_Q_rmA16 Z ob0 k_ob0 ob0_z ob0_l ob1 k_ob1 ob1_0 ob1_1 p3 zr zm ps ng zk h0 n0 _ T4.heap _
    rw [e4]
    exact ⟨rfl, N4, (Keep.wr (Keep.refl h0 [ob0]) W4 (Or.inl (List.mem_of_getElem? (i := 0) rfl))), _, V4a, hl4⟩
def own_Q_rmA17 (Z : State) (ob0 : Addr) (k_ob0 : ClassId) (ob0_z : Int32) (ob0_l : List Value) (ob1 : Addr) (k_ob1 : ClassId) (ob1_0 : Int32) (ob1_1 : Int32) (p3 : Int32)  (zr zm ps ng : Addr) (zk : ClassId) (h0 : Heap) (n0 : Nat) (v : Option Value) (h : Heap) (L : List Loc) : Prop := v = none ∧ Fr n0 L ∧ Keep h0 h [ob0] ∧ ∃ rl : List Value, Arv Z h ob0 k_ob0 .int ob0_z rl (.int (0 : Int32)) ∧ ob0_z.toNatClampNeg ≤ rl.length
theorem rmA17 (l : Launch) (Z : State) (a0 : Array Value) (hw : ∀ d ∈ tables_1, d.before a0 Z = true) (ws : List Jvm.Cond) (ob0 : Addr) (k_ob0 : ClassId) (ob0_z : Int32) (ob0_l : List Value) (ob1 : Addr) (k_ob1 : ClassId) (ob1_0 : Int32) (ob1_1 : Int32) (p3 : Int32)  (zr zm ps ng : Addr) (zk : ClassId) (h0 : Heap) (n0 : Nat) (O0 : Old Z n0 h0) (G : own_Gl Z zr zm ps ng zk) (V_ob0 : Arv Z h0 ob0 k_ob0 .int ob0_z ob0_l (.int (0 : Int32))) (V_ob1 : Arv Z h0 ob1 k_ob1 .int (2 : Int32) [(.int ob1_0), (.int ob1_1)] (.int (0 : Int32))) (gz_ob0 : n0 ≤ ob0) (hne : ob1 ≠ ob0) (hl : ob0_z.toNatClampNeg ≤ ob0_l.length) (hi : ¬ ((1 : Int32) < 0) ∧ (1 : Int32) < ob0_z) :
    MetFree l own_y14 (head1 (Jvm.Cond.code own_y14 jdk_2097_method_103_code 7 none :: ws) ({ frames := 0, cells := 0, slots := 0, locals := 0 } : Room)) (fun a U => a = #[(.ref ob0), (.ref ob1), (.int (1 : Int32)), (.int p3), (.int (1 : Int32))] ∧ Z.Warmed39 U.vm ∧ U.heap = h0) (fun _ _ _ _ _ => True) (fun _ U o U' => ∃ v L, o = .returned v ∧ own_Q_rmA17 Z ob0 k_ob0 ob0_z ob0_l ob1 k_ob1 ob1_0 ob1_1 p3 zr zm ps ng zk h0 n0 v U'.heap L ∧ FrameEnd U o U' L ({ frames := 0, cells := 0, slots := 0, locals := 0 } : Room).cells ({ frames := 0, cells := 0, slots := 0, locals := 0 } : Room).slots) := by
  refine MetFree.of_bodySF (plainFor_of_name own_pn1) hisR ?_
  intro p e s m args below meth c s₁ Bd hml0 hP hK
  obtain ⟨rfl, hZ, hh⟩ := hP
  have hx := Bd.exec
  have hby := Bd.bytes
  have hml : c.maxLocals = 7 := hml0
  have hown : s.vm.findClass "java/math/BigInteger" = some m.cls := findClass_of_methodNamed Bd.named
  have hnm := (name_of_methodNamed Bd.named Bd.method).1
  have X0 : Stand p l e ({ frames := 0, cells := 0, slots := 0, locals := 0 } : Room) s m #[(.ref ob0), (.ref ob1), (.int (1 : Int32)), (.int p3), (.int (1 : Int32))] below meth c s₁ [] 0 0 := Stand.of_body Bd
  have e0 : s₁.heap = h0 := by rw [← hh, Bd.state]; rfl
  have N0 := Fr.nil n0
  have Z0 : n0 ≤ h0.size := O0.1 ▸ O0.2.1
  have g0 : ∀ t, FS p e below s₁ m 0 #[oa ob0, oa ob1, oi (1 : Int32), oi p3, oi (1 : Int32), vU, vU] [] t → ES p e below s₁ m #[(.ref ob0), (.ref ob1), (.int (1 : Int32)), (.int p3), (.int (1 : Int32))] 7 t := fun t k => castTop (own_ef15 m (ob0) (ob1) ((1 : Int32)) (p3) ((1 : Int32))) k
  have G0 := G
  obtain ⟨S_Z, E_Z, F_Zs, F_Zm, V_Z, S_P, P_P, S_N, P_N⟩ := G
  obtain ⟨c1, Ar1, cq1, S1, Nn1, Hh1, Gg1⟩ := id V_ob1
  have hin1 : ¬ ((0 : Int32) < 0 ∨ c1.slots.size ≤ ((0 : Int32)).toNatClampNeg) := inb_of S1 ⟨by decide, by decide⟩
  have hat1 : c1.slots[((0 : Int32)).toNatClampNeg]? = some (.int ob1_0) := Has.at Hh1 hin1 rfl
  obtain ⟨c2, Ar2, cq2, S2, Nn2, Hh2, Gg2⟩ := id V_ob1
  have hin2 : ¬ ((1 : Int32) < 0 ∨ c2.slots.size ≤ ((1 : Int32)).toNatClampNeg) := inb_of S2 ⟨by decide, by decide⟩
  have hat2 : c2.slots[((1 : Int32)).toNatClampNeg]? = some (.int ob1_1) := Has.at Hh2 hin2 rfl
  obtain ⟨c3, Ar3, cq3, S3, Nn3, Hh3, Gg3⟩ := id V_ob0
  have hin3 : ¬ ((1 : Int32) < 0 ∨ c3.slots.size ≤ ((1 : Int32)).toNatClampNeg) := inb_of S3 hi
  obtain ⟨T4, h4, X4, e4, W4, st4⟩ := stI X0 hx hZ e0 Ar3 (j := (1 : Int32)) hin3 (g := (mkF m 38 #[oa ob0, oa ob1, oi (2 : Int32), oi p3, oi (1 : Int32), .val (.int ((32 : Int32) - p3)), oi (1 : Int32)] [(.int ((ob1_0 <<< (p3 &&& 31)) ||| ((ob1_1.toUInt32 >>> (((32 : Int32) - p3) &&& 31).toUInt32).toInt32))), (.int (1 : Int32)), (.ref ob0)])) rfl rfl (hb hby d18_38)
  obtain ⟨vl4, V4a, hl4⟩ : ∃ q : List Value, Arv Z h4 ob0 k_ob0 .int ob0_z q (.int (0 : Int32)) ∧ (ob0_z).toNatClampNeg ≤ q.length := ⟨_, Arv.set Ar3 cq3 S3 Nn3 Hh3 Gg3 rfl W4 _ rfl (own_inl hin3 S3 hl), by rw [List.length_set]; exact hl⟩
  have N4 := Fr.snoc X4 N0 gz_ob0
  have g5 : ∀ t, FS p e below T4 m 42 #[oa ob0, oa ob1, oi (2 : Int32), oi p3, oi (1 : Int32), .val (.int ((32 : Int32) - p3)), oi (1 : Int32)] [] t → ES p e below s₁ m #[(.ref ob0), (.ref ob1), (.int (1 : Int32)), (.int p3), (.int (1 : Int32))] 7 t := by
    intro t k
    refine g0 t ?_
    show FS p e below s₁ m 0 #[oa ob0, oa ob1, oi (1 : Int32), oi p3, oi (1 : Int32), vU, vU] [] _
    refine XS.bipush X0.here hx rfl (hb hby d18_0) ?_
    refine XS.iloadN X0.here hx rfl (hb hby d18_2) rfl ?_
    refine XS.isub X0.here hx rfl (hb hby d18_3) rfl ?_
    refine XS.istore X0.here hx rfl (hb hby d18_4) rfl (l' := #[oa ob0, oa ob1, oi (1 : Int32), oi p3, oi (1 : Int32), .val (.int ((32 : Int32) - p3)), vU]) rfl ?_
    refine XS.iconst X0.here hx rfl (hb hby d18_6) ?_
    refine XS.istore X0.here hx rfl (hb hby d18_7) rfl (l' := #[oa ob0, oa ob1, oi (1 : Int32), oi p3, oi (1 : Int32), .val (.int ((32 : Int32) - p3)), oi (0 : Int32)]) rfl ?_
    refine XS.iload X0.here hx rfl (hb hby d18_9) rfl ?_
    refine XS.iload X0.here hx rfl (hb hby d18_11) rfl ?_
    refine XS.icmpNo X0.here hx rfl (hb hby d18_13) rfl (tlt (by decide : (0 : Int32) < (1 : Int32))).2.1 ?_
    refine XS.aloadN X0.here hx rfl (hb hby d18_16) rfl rfl ?_
    refine XS.iloadN X0.here hx rfl (hb hby d18_17) rfl ?_
    show FS p e below s₁ m 18 #[oa ob0, oa ob1, oi (1 : Int32), oi p3, oi (1 : Int32), .val (.int ((32 : Int32) - p3)), oi (0 : Int32)] [(.int (1 : Int32)), (.ref ob0)] _
    refine XS.iinc X0.here hx rfl (hb hby d18_18) rfl (l' := #[oa ob0, oa ob1, .val (.int ((1 : Int32) + (1 : Int32))), oi p3, oi (1 : Int32), .val (.int ((32 : Int32) - p3)), oi (0 : Int32)]) rfl ?_
    rw [show ((1 : Int32) + (1 : Int32)) = (2 : Int32) from by decide]
    refine XS.aloadN X0.here hx rfl (hb hby d18_21) rfl rfl ?_
    refine XS.iload X0.here hx rfl (hb hby d18_22) rfl ?_
    show FS p e below s₁ m 24 #[oa ob0, oa ob1, oi (2 : Int32), oi p3, oi (1 : Int32), .val (.int ((32 : Int32) - p3)), oi (0 : Int32)] [(.int (0 : Int32)), (.ref ob1), (.int (1 : Int32)), (.ref ob0)] _
    refine XS.iinc X0.here hx rfl (hb hby d18_24) rfl (l' := #[oa ob0, oa ob1, oi (2 : Int32), oi p3, oi (1 : Int32), .val (.int ((32 : Int32) - p3)), .val (.int ((0 : Int32) + (1 : Int32)))]) rfl ?_
    rw [show ((0 : Int32) + (1 : Int32)) = (1 : Int32) from by decide]
    refine X0.iaload hx (j := (0 : Int32)) (v := (.int ob1_0)) (by rw [e0]; exact Ar1.1) (State.isArrayOf_alike hZ.alike Ar1.2.1) Ar1.2.2 hin1 hat1 (g := (mkF m 27 #[oa ob0, oa ob1, oi (2 : Int32), oi p3, oi (1 : Int32), .val (.int ((32 : Int32) - p3)), oi (1 : Int32)] [(.int (0 : Int32)), (.ref ob1), (.int (1 : Int32)), (.ref ob0)])) rfl rfl (hb hby d18_27) _ ?_
    show FS p e below s₁ m 28 #[oa ob0, oa ob1, oi (2 : Int32), oi p3, oi (1 : Int32), .val (.int ((32 : Int32) - p3)), oi (1 : Int32)] [(.int ob1_0), (.int (1 : Int32)), (.ref ob0)] _
    refine XS.iloadN X0.here hx rfl (hb hby d18_28) rfl ?_
    refine XS.ishl X0.here hx rfl (hb hby d18_29) rfl ?_
    refine XS.aloadN X0.here hx rfl (hb hby d18_30) rfl rfl ?_
    refine XS.iload X0.here hx rfl (hb hby d18_31) rfl ?_
    refine X0.iaload hx (j := (1 : Int32)) (v := (.int ob1_1)) (by rw [e0]; exact Ar2.1) (State.isArrayOf_alike hZ.alike Ar2.2.1) Ar2.2.2 hin2 hat2 (g := (mkF m 33 #[oa ob0, oa ob1, oi (2 : Int32), oi p3, oi (1 : Int32), .val (.int ((32 : Int32) - p3)), oi (1 : Int32)] [(.int (1 : Int32)), (.ref ob1), (.int (ob1_0 <<< (p3 &&& 31))), (.int (1 : Int32)), (.ref ob0)])) rfl rfl (hb hby d18_33) _ ?_
    refine XS.iload X0.here hx rfl (hb hby d18_34) rfl ?_
    refine XS.iushr X0.here hx rfl (hb hby d18_36) rfl ?_
    refine XS.ior X0.here hx rfl (hb hby d18_37) rfl ?_
    refine st4 _ ?_
    refine XS.goto X4.here hx rfl (pc0 := 39) (pc' := 9) rfl (hb hby d18_39) (by decide) (by decide) ?_
    refine XS.iload X4.here hx rfl (hb hby d18_9) rfl ?_
    refine XS.iload X4.here hx rfl (hb hby d18_11) rfl ?_
    refine XS.icmpYes X4.here hx rfl (pc0 := 13) (pc' := 42) rfl (hb hby d18_13) rfl (flt (by decide : ¬ ((1 : Int32) < (1 : Int32)))).2.1 (by decide) (by decide) ?_
    exact k
  obtain ⟨fs, hrt, hrun, hended, hW, hsame⟩ := X4.leave (v := none) (fun _ => rfl)
  refine ⟨_, _, g5 _ ?_, hrun, hended, _, _, rfl, ?_, ⟨_, rfl⟩, hW, hsame.mono (by decide) (by decide)⟩
  · show Steps p.tables e below (T4.setTop (mkF m 42 #[oa ob0, oa ob1, oi (2 : Int32), oi p3, oi (1 : Int32), .val (.int ((32 : Int32) - p3)), oi (1 : Int32)] [])) _
    exact X4.returnOut hx Bd.returns (hb hby d18_42) hrt
  · show own_Q_rmA17 Z ob0 k_ob0 ob0_z ob0_l ob1 k_ob1 ob1_0 ob1_1 p3 zr zm ps ng zk h0 n0 _ T4.heap _
    rw [e4]
    exact ⟨rfl, N4, (Keep.wr (Keep.refl h0 [ob0]) W4 (Or.inl (List.mem_of_getElem? (i := 0) rfl))), _, V4a, hl4⟩
def own_Q_rmA11 (Z : State) (ob0 : Addr) (k_ob0 : ClassId) (ob0_z : Int32) (ob0_l : List Value) (p1 : Int32)  (zr zm ps ng : Addr) (zk : ClassId) (h0 : Heap) (n0 : Nat) (v : Option Value) (h : Heap) (L : List Loc) : Prop := ∃ (rb : Addr) (rk : ClassId) (rz : Int32) (rl : List Value), v = some (.ref rb) ∧ Fr n0 L ∧ Keep h0 h [] ∧ h0.size ≤ rb ∧ Arv Z h rb rk .int rz rl (.int (0 : Int32)) ∧ (rz = (1 : Int32) ∨ rz = (2 : Int32) ∨ rz = (3 : Int32) ∨ rz = (4 : Int32))
theorem rmA11 (l : Launch) (Z : State) (a0 : Array Value) (hw : ∀ d ∈ tables_1, d.before a0 Z = true) (ws : List Jvm.Cond) (ob0 : Addr) (k_ob0 : ClassId) (ob0_z : Int32) (ob0_l : List Value) (p1 : Int32)  (zr zm ps ng : Addr) (zk : ClassId) (h0 : Heap) (n0 : Nat) (O0 : Old Z n0 h0) (G : own_Gl Z zr zm ps ng zk) (V_ob0 : Arv Z h0 ob0 k_ob0 .int ob0_z ob0_l (.int (0 : Int32))) (hz : (ob0_z = (1 : Int32) ∨ ob0_z = (2 : Int32))) (hn : (((p1.toUInt32 >>> ((5 : Int32) &&& 31).toUInt32).toInt32) = (0 : Int32) ∨ ((p1.toUInt32 >>> ((5 : Int32) &&& 31).toUInt32).toInt32) = (1 : Int32))) :
    MetFree l own_y11 (head1 (Jvm.Cond.code own_y11 jdk_2097_method_102_code 10 (some (.array .int)) :: ws) ({ frames := 2, cells := 1, slots := 5, locals := 51 } : Room)) (fun a U => a = #[(.ref ob0), (.int p1)] ∧ Z.Warmed39 U.vm ∧ U.heap = h0) (fun _ _ _ _ _ => True) (fun _ U o U' => ∃ v L, o = .returned v ∧ own_Q_rmA11 Z ob0 k_ob0 ob0_z ob0_l p1 zr zm ps ng zk h0 n0 v U'.heap L ∧ FrameEnd U o U' L ({ frames := 2, cells := 1, slots := 5, locals := 51 } : Room).cells ({ frames := 2, cells := 1, slots := 5, locals := 51 } : Room).slots) := by
  refine MetFree.of_bodySF (plainFor_of_name own_pn1) hisR ?_
  intro p e s m args below meth c s₁ Bd hml0 hP hK
  obtain ⟨rfl, hZ, hh⟩ := hP
  have hx := Bd.exec
  have hby := Bd.bytes
  have hml : c.maxLocals = 10 := hml0
  have hown : s.vm.findClass "java/math/BigInteger" = some m.cls := findClass_of_methodNamed Bd.named
  have hnm := (name_of_methodNamed Bd.named Bd.method).1
  have X0 : Stand p l e ({ frames := 2, cells := 1, slots := 5, locals := 51 } : Room) s m #[(.ref ob0), (.int p1)] below meth c s₁ [] 0 0 := Stand.of_body Bd
  have e0 : s₁.heap = h0 := by rw [← hh, Bd.state]; rfl
  have N0 := Fr.nil n0
  have Z0 : n0 ≤ h0.size := O0.1 ▸ O0.2.1
  have g0 : ∀ t, FS p e below s₁ m 0 #[oa ob0, oi p1, vU, vU, vU, vU, vU, vU, vU, vU] [] t → ES p e below s₁ m #[(.ref ob0), (.int p1)] 10 t := fun t k => castTop (own_ef12 m (ob0) (p1)) k
  have G0 := G
  obtain ⟨S_Z, E_Z, F_Zs, F_Zm, V_Z, S_P, P_P, S_N, P_N⟩ := G
  rcases hz with hz1 | hz1
  · obtain ⟨x0, Vc1⟩ := own_conc1 (own_reZ hz1 V_ob0)
    obtain ⟨ni, hv_ni⟩ : ∃ z : Int32, z = ((p1.toUInt32 >>> ((5 : Int32) &&& 31).toUInt32).toInt32) := ⟨_, rfl⟩
    have g2 : ∀ t, FS p e below s₁ m 3 #[oa ob0, oi p1, vU, vU, vU, vU, vU, vU, vU, vU] [(.int ni)] t → ES p e below s₁ m #[(.ref ob0), (.int p1)] 10 t := by
      intro t k
      rw [hv_ni] at k
      refine g0 t ?_
      show FS p e below s₁ m 0 #[oa ob0, oi p1, vU, vU, vU, vU, vU, vU, vU, vU] [] _
      refine XS.iloadN X0.here hx rfl (hb hby d15_0) rfl ?_
      refine XS.iconst X0.here hx rfl (hb hby d15_1) ?_
      refine XS.iushr X0.here hx rfl (hb hby d15_2) rfl ?_
      exact k
    have hni : ni = (0 : Int32) ∨ ni = (1 : Int32) := by rw [hv_ni]; exact hn
    obtain ⟨nb, hv_nb⟩ : ∃ z : Int32, z = (p1 &&& (31 : Int32)) := ⟨_, rfl⟩
    have g3 : ∀ t, FS p e below s₁ m 8 #[oa ob0, oi p1, oi ni, vU, vU, vU, vU, vU, vU, vU] [(.int nb)] t → ES p e below s₁ m #[(.ref ob0), (.int p1)] 10 t := by
      intro t k
      rw [hv_nb] at k
      refine g2 t ?_
      show FS p e below s₁ m 3 #[oa ob0, oi p1, vU, vU, vU, vU, vU, vU, vU, vU] [(.int ni)] _
      refine XS.istoreN X0.here hx rfl (hb hby d15_3) rfl (l' := #[oa ob0, oi p1, oi ni, vU, vU, vU, vU, vU, vU, vU]) rfl ?_
      refine XS.iloadN X0.here hx rfl (hb hby d15_4) rfl ?_
      refine XS.bipush X0.here hx rfl (hb hby d15_5) ?_
      refine XS.iand X0.here hx rfl (hb hby d15_7) rfl ?_
      exact k
    obtain ⟨c4, Ar4, cq4, S4, Nn4, Hh4, Gg4⟩ := id Vc1
    have g6 : ∀ t, FS p e below s₁ m 17 #[oa ob0, oi p1, oi ni, oi nb, oi (1 : Int32), .val .null, vU, vU, vU, vU] [(.int nb)] t → ES p e below s₁ m #[(.ref ob0), (.int p1)] 10 t := by
      intro t k
      refine g3 t ?_
      show FS p e below s₁ m 8 #[oa ob0, oi p1, oi ni, vU, vU, vU, vU, vU, vU, vU] [(.int nb)] _
      refine XS.istoreN X0.here hx rfl (hb hby d15_8) rfl (l' := #[oa ob0, oi p1, oi ni, oi nb, vU, vU, vU, vU, vU, vU]) rfl ?_
      refine XS.aloadN X0.here hx rfl (hb hby d15_9) rfl rfl ?_
      show FS p e below s₁ m 10 #[oa ob0, oi p1, oi ni, oi nb, vU, vU, vU, vU, vU, vU] [(.ref ob0)] _
      refine X0.arraylength hx (by rw [e0]; exact Ar4.1) (State.isArrayOf_alike hZ.alike Ar4.2.1) (g := (mkF m 10 #[oa ob0, oi p1, oi ni, oi nb, vU, vU, vU, vU, vU, vU] [(.ref ob0)])) rfl rfl (hb hby d15_10) _ ?_
      rw [len_of S4 Nn4]
      refine XS.istore X0.here hx rfl (hb hby d15_11) rfl (l' := #[oa ob0, oi p1, oi ni, oi nb, oi (1 : Int32), vU, vU, vU, vU, vU]) rfl ?_
      refine XS.aconstNull X0.here hx rfl (hb hby d15_13) ?_
      refine XS.astore X0.here hx rfl (hb hby d15_14) rfl rfl (l' := #[oa ob0, oi p1, oi ni, oi nb, oi (1 : Int32), .val .null, vU, vU, vU, vU]) rfl ?_
      refine XS.iloadN X0.here hx rfl (hb hby d15_16) rfl ?_
      exact k
    by_cases hc5 : nb = (0 : Int32)
    · obtain ⟨T7, h7, k7, X7, e7, E7, A7, st7⟩ := newP X0 hx hZ (own_w hw 86 rfl) e0 (g := (mkF m 24 #[oa ob0, oi p1, oi ni, oi nb, oi (1 : Int32), .val .null, vU, vU, vU, vU] [(.int ((1 : Int32) + ni))])) rfl (hb hby d15_24) rfl (by rcases hni with hni | hni <;> rw [hni] <;> decide) (cap := 4) (by rcases hni with hni | hni <;> rw [hni] <;> decide) (by decide) (by decide) (by decide)
      obtain ⟨b7, q_b7⟩ : ∃ z, z = h0.size := ⟨_, rfl⟩
      rw [← q_b7] at A7 st7
      have sz_b7 : h0.size ≤ b7 := Nat.le_of_eq q_b7.symm
      have gz_b7 : n0 ≤ b7 := Nat.le_trans Z0 sz_b7
      have ne_ob0_b7 : ob0 ≠ b7 := Nat.ne_of_lt (Nat.lt_of_lt_of_le Vc1.lt (Nat.le_of_eq q_b7.symm))
      have V7 : Arv Z h7 b7 k7 .int ((1 : Int32) + ni) [(.int (0 : Int32)), (.int (0 : Int32)), (.int (0 : Int32)), (.int (0 : Int32))] (.int (0 : Int32)) := (Arv.new A7 (by rcases hni with hni | hni <;> rw [hni] <;> decide)).pad (pad_rep [] (.int (0 : Int32)) 4)
      have g8 : ∀ t, FS p e below T7 m 26 #[oa ob0, oi p1, oi ni, oi nb, oi (1 : Int32), .val .null, vU, vU, vU, vU] [(.ref b7)] t → ES p e below s₁ m #[(.ref ob0), (.int p1)] 10 t := by
        intro t k
        refine g6 t ?_
        show FS p e below s₁ m 17 #[oa ob0, oi p1, oi ni, oi nb, oi (1 : Int32), .val .null, vU, vU, vU, vU] [(.int nb)] _
        refine XS.ifNo X0.here hx rfl (hb hby d15_17) rfl ((if0 _ _).trans (teq hc5).2) ?_
        refine XS.iload X0.here hx rfl (hb hby d15_20) rfl ?_
        refine XS.iloadN X0.here hx rfl (hb hby d15_22) rfl ?_
        refine XS.iadd X0.here hx rfl (hb hby d15_23) rfl ?_
        refine st7 _ ?_
        exact k
      obtain ⟨vl9, Vl9, hl9⟩ : ∃ q : List Value, Arv Z h7 b7 k7 .int ((1 : Int32) + ni) q (.int (0 : Int32)) ∧ (((1 : Int32) + ni)).toNatClampNeg ≤ q.length := ⟨_, V7, (by rcases hni with hni | hni <;> rw [hni] <;> decide)⟩
      have f10 := (Vc1.ext E7)
      have hll11 : ((0 : Int32)).toNatClampNeg + ((1 : Int32)).toNatClampNeg ≤ vl9.length := Nat.le_trans ((by rcases hni with hni | hni <;> rw [hni] <;> decide) : _ ≤ (((1 : Int32) + ni)).toNatClampNeg) hl9
      obtain ⟨T11, h11, L11, X11, e11, N11, K11, V11, st11⟩ := cpA X7 hx hZ hown (own_w hw 197 rfl) (own_w hw 171 rfl) (own_w hw 169 rfl) (own_w hw 170 rfl) e7 f10 Vl9 (Or.inl ⟨rfl, rfl⟩) (by decide) (by decide) (by decide) (by decide) (by rcases hni with hni | hni <;> rw [hni] <;> decide) rfl hll11 N0 gz_b7 (g := (mkF m 35 #[oa ob0, oi p1, oi ni, oi nb, oi (1 : Int32), oa b7, vU, vU, vU, vU] [(.int (1 : Int32)), (.int (0 : Int32)), (.ref b7), (.int (0 : Int32)), (.ref ob0)])) rfl (by rw [hml]; rfl) rfl (hb hby d15_35) (by decide) (W := 0) (own_W0 rfl) (by decide)
      obtain ⟨vl11, V11a, hl11⟩ : ∃ q : List Value, Arv Z h11 b7 k7 .int ((1 : Int32) + ni) q (.int (0 : Int32)) ∧ (((1 : Int32) + ni)).toNatClampNeg ≤ q.length := ⟨_, V11, by rw [own_cplen _ _ _ _ hll11]; exact hl9⟩
      have g12 : ∀ t, FS p e below T11 m 154 #[oa ob0, oi p1, oi ni, oi nb, oi (1 : Int32), oa b7, vU, vU, vU, vU] [(.ref b7)] t → ES p e below s₁ m #[(.ref ob0), (.int p1)] 10 t := by
        intro t k
        refine g8 t ?_
        show FS p e below T7 m 26 #[oa ob0, oi p1, oi ni, oi nb, oi (1 : Int32), .val .null, vU, vU, vU, vU] [(.ref b7)] _
        refine XS.astore X7.here hx rfl (hb hby d15_26) rfl rfl (l' := #[oa ob0, oi p1, oi ni, oi nb, oi (1 : Int32), oa b7, vU, vU, vU, vU]) rfl ?_
        refine XS.aloadN X7.here hx rfl (hb hby d15_28) rfl rfl ?_
        refine XS.iconst X7.here hx rfl (hb hby d15_29) ?_
        refine XS.aload X7.here hx rfl (hb hby d15_30) rfl rfl ?_
        refine XS.iconst X7.here hx rfl (hb hby d15_32) ?_
        refine XS.iload X7.here hx rfl (hb hby d15_33) rfl ?_
        refine st11 _ ?_
        refine XS.goto X11.here hx rfl (pc0 := 38) (pc' := 152) rfl (hb hby d15_38) (by decide) (by decide) ?_
        refine XS.aload X11.here hx rfl (hb hby d15_152) rfl rfl ?_
        exact k
      obtain ⟨fs, hrt, hrun, hended, hW, hsame⟩ := X11.leave (v := some (.ref b7)) (fun h => by rw [Bd.returns] at h; cases h)
      refine ⟨_, _, g12 _ ?_, hrun, hended, _, _, rfl, ?_, ⟨_, rfl⟩, hW, hsame.mono (by decide) (by decide)⟩
      · show Steps p.tables e below (T11.setTop (mkF m 154 #[oa ob0, oi p1, oi ni, oi nb, oi (1 : Int32), oa b7, vU, vU, vU, vU] [(.ref b7)])) _
        jvm_step X11.here [X11.here.top, hx, (hb hby d15_154), X11.method', Bd.returns, Value.isRef, FieldType.isReference]
        first | (intro acts; rw [hrt _ acts rfl rfl rfl]) | rw [hrt _ _ rfl rfl rfl]
        exact Steps.refl _
      · show own_Q_rmA11 Z ob0 k_ob0 ob0_z ob0_l p1 zr zm ps ng zk h0 n0 _ T11.heap _
        rw [e11]
        exact ⟨b7, _, _, _, rfl, N11, (Keep.trans (Keep.ext (Keep.refl h0 []) E7) K11 (allS (Or.inr sz_b7) all0)), sz_b7, V11a, (by rcases hni with hni | hni <;> rw [hni] <;> decide)⟩
    · obtain ⟨c13, Ar13, cq13, S13, Nn13, Hh13, Gg13⟩ := id Vc1
      have hin13 : ¬ ((0 : Int32) < 0 ∨ c13.slots.size ≤ ((0 : Int32)).toNatClampNeg) := inb_of S13 ⟨by decide, by decide⟩
      have hat13 : c13.slots[((0 : Int32)).toNatClampNeg]? = some (.int x0) := Has.at Hh13 hin13 rfl
      obtain ⟨hbt, hv_hbt⟩ : ∃ z : Int32, z = ((x0.toUInt32 >>> (((32 : Int32) - nb) &&& 31).toUInt32).toInt32) := ⟨_, rfl⟩
      have g14 : ∀ t, FS p e below s₁ m 56 #[oa ob0, oi p1, oi ni, oi nb, oi (1 : Int32), .val .null, oi (0 : Int32), .val (.int ((32 : Int32) - nb)), vU, vU] [(.int hbt)] t → ES p e below s₁ m #[(.ref ob0), (.int p1)] 10 t := by
        intro t k
        rw [hv_hbt] at k
        refine g6 t ?_
        show FS p e below s₁ m 17 #[oa ob0, oi p1, oi ni, oi nb, oi (1 : Int32), .val .null, vU, vU, vU, vU] [(.int nb)] _
        refine XS.ifYes X0.here hx rfl (pc0 := 17) (pc' := 41) rfl (hb hby d15_17) rfl ((if0 _ _).trans (feq hc5).2) (by decide) (by decide) ?_
        refine XS.iconst X0.here hx rfl (hb hby d15_41) ?_
        refine XS.istore X0.here hx rfl (hb hby d15_42) rfl (l' := #[oa ob0, oi p1, oi ni, oi nb, oi (1 : Int32), .val .null, oi (0 : Int32), vU, vU, vU]) rfl ?_
        refine XS.bipush X0.here hx rfl (hb hby d15_44) ?_
        refine XS.iloadN X0.here hx rfl (hb hby d15_46) rfl ?_
        refine XS.isub X0.here hx rfl (hb hby d15_47) rfl ?_
        refine XS.istore X0.here hx rfl (hb hby d15_48) rfl (l' := #[oa ob0, oi p1, oi ni, oi nb, oi (1 : Int32), .val .null, oi (0 : Int32), .val (.int ((32 : Int32) - nb)), vU, vU]) rfl ?_
        refine XS.aloadN X0.here hx rfl (hb hby d15_50) rfl rfl ?_
        refine XS.iconst X0.here hx rfl (hb hby d15_51) ?_
        refine X0.iaload hx (j := (0 : Int32)) (v := (.int x0)) (by rw [e0]; exact Ar13.1) (State.isArrayOf_alike hZ.alike Ar13.2.1) Ar13.2.2 hin13 hat13 (g := (mkF m 52 #[oa ob0, oi p1, oi ni, oi nb, oi (1 : Int32), .val .null, oi (0 : Int32), .val (.int ((32 : Int32) - nb)), vU, vU] [(.int (0 : Int32)), (.ref ob0)])) rfl rfl (hb hby d15_52) _ ?_
        refine XS.iload X0.here hx rfl (hb hby d15_53) rfl ?_
        refine XS.iushr X0.here hx rfl (hb hby d15_55) rfl ?_
        exact k
      have g16 : ∀ t, FS p e below s₁ m 60 #[oa ob0, oi p1, oi ni, oi nb, oi (1 : Int32), .val .null, oi (0 : Int32), .val (.int ((32 : Int32) - nb)), oi hbt, vU] [(.int hbt)] t → ES p e below s₁ m #[(.ref ob0), (.int p1)] 10 t := by
        intro t k
        refine g14 t ?_
        show FS p e below s₁ m 56 #[oa ob0, oi p1, oi ni, oi nb, oi (1 : Int32), .val .null, oi (0 : Int32), .val (.int ((32 : Int32) - nb)), vU, vU] [(.int hbt)] _
        refine XS.istore X0.here hx rfl (hb hby d15_56) rfl (l' := #[oa ob0, oi p1, oi ni, oi nb, oi (1 : Int32), .val .null, oi (0 : Int32), .val (.int ((32 : Int32) - nb)), oi hbt, vU]) rfl ?_
        refine XS.iload X0.here hx rfl (hb hby d15_58) rfl ?_
        exact k
      by_cases hc15 : hbt = (0 : Int32)
      · obtain ⟨T17, h17, k17, X17, e17, E17, A17, st17⟩ := newP X0 hx hZ (own_w hw 86 rfl) e0 (g := (mkF m 90 #[oa ob0, oi p1, oi ni, oi nb, oi (1 : Int32), .val .null, oi (0 : Int32), .val (.int ((32 : Int32) - nb)), oi hbt, vU] [(.int ((1 : Int32) + ni))])) rfl (hb hby d15_90) rfl (by rcases hni with hni | hni <;> rw [hni] <;> decide) (cap := 4) (by rcases hni with hni | hni <;> rw [hni] <;> decide) (by decide) (by decide) (by decide)
        obtain ⟨b17, q_b17⟩ : ∃ z, z = h0.size := ⟨_, rfl⟩
        rw [← q_b17] at A17 st17
        have sz_b17 : h0.size ≤ b17 := Nat.le_of_eq q_b17.symm
        have gz_b17 : n0 ≤ b17 := Nat.le_trans Z0 sz_b17
        have ne_ob0_b17 : ob0 ≠ b17 := Nat.ne_of_lt (Nat.lt_of_lt_of_le Vc1.lt (Nat.le_of_eq q_b17.symm))
        have V17 : Arv Z h17 b17 k17 .int ((1 : Int32) + ni) [(.int (0 : Int32)), (.int (0 : Int32)), (.int (0 : Int32)), (.int (0 : Int32))] (.int (0 : Int32)) := (Arv.new A17 (by rcases hni with hni | hni <;> rw [hni] <;> decide)).pad (pad_rep [] (.int (0 : Int32)) 4)
        have g18 : ∀ t, FS p e below T17 m 92 #[oa ob0, oi p1, oi ni, oi nb, oi (1 : Int32), .val .null, oi (0 : Int32), .val (.int ((32 : Int32) - nb)), oi hbt, vU] [(.ref b17)] t → ES p e below s₁ m #[(.ref ob0), (.int p1)] 10 t := by
          intro t k
          refine g16 t ?_
          show FS p e below s₁ m 60 #[oa ob0, oi p1, oi ni, oi nb, oi (1 : Int32), .val .null, oi (0 : Int32), .val (.int ((32 : Int32) - nb)), oi hbt, vU] [(.int hbt)] _
          refine XS.ifYes X0.here hx rfl (pc0 := 60) (pc' := 86) rfl (hb hby d15_60) rfl ((if0 _ _).trans (teq hc15).1) (by decide) (by decide) ?_
          refine XS.iload X0.here hx rfl (hb hby d15_86) rfl ?_
          refine XS.iloadN X0.here hx rfl (hb hby d15_88) rfl ?_
          refine XS.iadd X0.here hx rfl (hb hby d15_89) rfl ?_
          refine st17 _ ?_
          exact k
        obtain ⟨vl19, Vl19, hl19⟩ : ∃ q : List Value, Arv Z h17 b17 k17 .int ((1 : Int32) + ni) q (.int (0 : Int32)) ∧ (((1 : Int32) + ni)).toNatClampNeg ≤ q.length := ⟨_, V17, (by rcases hni with hni | hni <;> rw [hni] <;> decide)⟩
        have f20 := (Vc1.ext E17)
        obtain ⟨c21, Ar21, cq21, S21, Nn21, Hh21, Gg21⟩ := id f20
        have o22 : Old Z n0 h17 := (Old.ext O0 E17)
        obtain ⟨_, _, ⟨T23, L23, k23, n23⟩, -, X23, ⟨Lc23, hQ23, l23, y23, z23⟩, st23⟩ := Jvm.LawKit.callS X17 hx (y := own_y12) hown (mvT hZ (own_w hw 116 rfl)) (mvT hZ (own_w hw 117 rfl)) (mvT hZ (own_w hw 118 rfl)) (mvT hZ (own_w hw 119 rfl)) (by decide) (backOf (W := 0) (rmA12 l Z a0 hw [] ((0 : Int32)) ((1 : Int32)) ((1 : Int32))  zr zm ps ng zk h17 n0 o22 G0   (by decide) (by decide) (by decide)) hZ (own_w hw 119 rfl) (own_w hw 118 rfl) (by decide) (by decide)) (g := (mkF m 107 #[oa ob0, oi p1, oi ni, oi nb, oi (1 : Int32), oa b17, oi (0 : Int32), .val (.int ((32 : Int32) - nb)), oi hbt, oi (0 : Int32)] [(.int (1 : Int32)), (.int (1 : Int32)), (.int (0 : Int32))])) rfl (by rw [hml]; rfl) (argsL := [(.int (0 : Int32)), (.int (1 : Int32)), (.int (1 : Int32))]) (rest := []) (lenOf own_pd6 rfl) rfl (own_W0 rfl) (hb hby d15_107) (fun _ _ => ⟨rfl, e17, (by decide : 1 + 0 ≤ _), (by decide : 4 + 0 ≤ _)⟩)
        dsimp only [Pt.U, Pt.locs, Pt.cells, Pt.slots] at X23 l23 y23 z23 st23 hQ23
        subst l23 y23 z23
        obtain ⟨rfl, Nq23, e23⟩ := hQ23
        have N23 := Fr.app N0 Nq23
        obtain ⟨c24, Ar24, cq24, S24, Nn24, Hh24, Gg24⟩ := id Vl19
        obtain ⟨_, _, ⟨T25, L25, k25, n25⟩, -, X25, ⟨Lc25, hQ25, l25, y25, z25⟩, st25⟩ := Jvm.LawKit.callS X23 hx (y := own_y12) hown (mvT hZ (own_w hw 116 rfl)) (mvT hZ (own_w hw 117 rfl)) (mvT hZ (own_w hw 118 rfl)) (mvT hZ (own_w hw 119 rfl)) (by decide) (backOf (W := 0) (rmA12 l Z a0 hw [] ((0 : Int32)) ((1 : Int32)) (((1 : Int32) + ni))  zr zm ps ng zk h17 n0 o22 G0   (by decide) (by decide) (by rcases hni with hni | hni <;> rw [hni] <;> decide)) hZ (own_w hw 119 rfl) (own_w hw 118 rfl) (by decide) (by decide)) (g := (mkF m 123 #[oa ob0, oi p1, oi ni, oi nb, oi (1 : Int32), oa b17, oi (0 : Int32), .val (.int ((32 : Int32) - nb)), oi hbt, oi (0 : Int32)] [(.int ((1 : Int32) + ni)), (.int (1 : Int32)), (.int (0 : Int32))])) rfl (by rw [hml]; rfl) (argsL := [(.int (0 : Int32)), (.int (1 : Int32)), (.int ((1 : Int32) + ni))]) (rest := []) (lenOf own_pd6 rfl) rfl (own_W0 rfl) (hb hby d15_123) (fun _ _ => ⟨rfl, e23, (by decide : 1 + 0 ≤ _), (by decide : 4 + 0 ≤ _)⟩)
        dsimp only [Pt.U, Pt.locs, Pt.cells, Pt.slots] at X25 l25 y25 z25 st25 hQ25
        subst l25 y25 z25
        obtain ⟨rfl, Nq25, e25⟩ := hQ25
        have N25 := Fr.app N23 Nq25
        obtain ⟨_, _, ⟨T26, L26, k26, n26⟩, -, X26, ⟨Lc26, hQ26, l26, y26, z26⟩, st26⟩ := Jvm.LawKit.callS X25 hx (y := own_y14) hown (mvT hZ (own_w hw 124 rfl)) (mvT hZ (own_w hw 125 rfl)) (mvT hZ (own_w hw 52 rfl)) (mvT hZ (own_w hw 126 rfl)) (by decide) (backOf (W := 0) (rmA14 l Z a0 hw [] b17 ob0 (nb)  zr zm ps ng zk h17 n0 o22 G0   ) hZ (own_w hw 126 rfl) (own_w hw 52 rfl) (by decide) (by decide)) (g := (mkF m 135 #[oa ob0, oi p1, oi ni, oi nb, oi (1 : Int32), oa b17, oi (0 : Int32), .val (.int ((32 : Int32) - nb)), oi hbt, oi (0 : Int32)] [(.int (0 : Int32)), (.int nb), (.int (0 : Int32)), (.ref ob0), (.ref b17)])) rfl (by rw [hml]; rfl) (argsL := [(.ref b17), (.ref ob0), (.int (0 : Int32)), (.int nb), (.int (0 : Int32))]) (rest := []) (lenOf own_pd7 rfl) rfl (own_W0 rfl) (hb hby d15_135) (fun _ _ => ⟨rfl, e25, (by decide : 1 + 0 ≤ _), (by decide : 4 + 0 ≤ _)⟩)
        dsimp only [Pt.U, Pt.locs, Pt.cells, Pt.slots] at X26 l26 y26 z26 st26 hQ26
        subst l26 y26 z26
        obtain ⟨rfl, Nq26, e26⟩ := hQ26
        have N26 := Fr.app N25 Nq26
        obtain ⟨c27, Ar27, cq27, S27, Nn27, Hh27, Gg27⟩ := id f20
        have hin27 : ¬ ((0 : Int32) < 0 ∨ c27.slots.size ≤ ((0 : Int32)).toNatClampNeg) := inb_of S27 ⟨by decide, by decide⟩
        have hat27 : c27.slots[((0 : Int32)).toNatClampNeg]? = some (.int x0) := Has.at Hh27 hin27 rfl
        obtain ⟨c28, Ar28, cq28, S28, Nn28, Hh28, Gg28⟩ := id Vl19
        have hin28 : ¬ ((0 : Int32) < 0 ∨ c28.slots.size ≤ ((0 : Int32)).toNatClampNeg) := inb_of S28 (by rcases hni with hni | hni <;> rw [hni] <;> decide)
        obtain ⟨T29, h29, X29, e29, W29, st29⟩ := stI X26 hx hZ e26 Ar28 (j := (0 : Int32)) hin28 (g := (mkF m 151 #[oa ob0, oi p1, oi ni, oi nb, oi (1 : Int32), oa b17, oi (0 : Int32), .val (.int ((32 : Int32) - nb)), oi hbt, oi (0 : Int32)] [(.int (x0 <<< (nb &&& 31))), (.int (0 : Int32)), (.ref b17)])) rfl rfl (hb hby d15_151)
        obtain ⟨vl29, V29a, hl29⟩ : ∃ q : List Value, Arv Z h29 b17 k17 .int ((1 : Int32) + ni) q (.int (0 : Int32)) ∧ (((1 : Int32) + ni)).toNatClampNeg ≤ q.length := ⟨_, Arv.set Ar28 cq28 S28 Nn28 Hh28 Gg28 rfl W29 _ rfl (own_inl hin28 S28 hl19), by rw [List.length_set]; exact hl19⟩
        have N29 := Fr.snoc X29 N26 gz_b17
        have g30 : ∀ t, FS p e below T29 m 154 #[oa ob0, oi p1, oi ni, oi nb, oi (1 : Int32), oa b17, oi (0 : Int32), .val (.int ((32 : Int32) - nb)), oi hbt, oi (0 : Int32)] [(.ref b17)] t → ES p e below s₁ m #[(.ref ob0), (.int p1)] 10 t := by
          intro t k
          refine g18 t ?_
          show FS p e below T17 m 92 #[oa ob0, oi p1, oi ni, oi nb, oi (1 : Int32), .val .null, oi (0 : Int32), .val (.int ((32 : Int32) - nb)), oi hbt, vU] [(.ref b17)] _
          refine XS.astore X17.here hx rfl (hb hby d15_92) rfl rfl (l' := #[oa ob0, oi p1, oi ni, oi nb, oi (1 : Int32), oa b17, oi (0 : Int32), .val (.int ((32 : Int32) - nb)), oi hbt, vU]) rfl ?_
          refine XS.iload X17.here hx rfl (hb hby d15_94) rfl ?_
          refine XS.iconst X17.here hx rfl (hb hby d15_96) ?_
          show FS p e below T17 m 97 #[oa ob0, oi p1, oi ni, oi nb, oi (1 : Int32), oa b17, oi (0 : Int32), .val (.int ((32 : Int32) - nb)), oi hbt, vU] [(.int (1 : Int32)), (.int (1 : Int32))] _
          refine XS.isub X17.here hx rfl (hb hby d15_97) rfl ?_
          rw [show ((1 : Int32) - (1 : Int32)) = (0 : Int32) from by decide]
          refine XS.istore X17.here hx rfl (hb hby d15_98) rfl (l' := #[oa ob0, oi p1, oi ni, oi nb, oi (1 : Int32), oa b17, oi (0 : Int32), .val (.int ((32 : Int32) - nb)), oi hbt, oi (0 : Int32)]) rfl ?_
          refine XS.iconst X17.here hx rfl (hb hby d15_100) ?_
          refine XS.iload X17.here hx rfl (hb hby d15_101) rfl ?_
          refine XS.iconst X17.here hx rfl (hb hby d15_103) ?_
          show FS p e below T17 m 104 #[oa ob0, oi p1, oi ni, oi nb, oi (1 : Int32), oa b17, oi (0 : Int32), .val (.int ((32 : Int32) - nb)), oi hbt, oi (0 : Int32)] [(.int (1 : Int32)), (.int (0 : Int32)), (.int (0 : Int32))] _
          refine XS.iadd X17.here hx rfl (hb hby d15_104) rfl ?_
          rw [show ((0 : Int32) + (1 : Int32)) = (1 : Int32) from by decide]
          refine XS.aloadN X17.here hx rfl (hb hby d15_105) rfl rfl ?_
          show FS p e below T17 m 106 #[oa ob0, oi p1, oi ni, oi nb, oi (1 : Int32), oa b17, oi (0 : Int32), .val (.int ((32 : Int32) - nb)), oi hbt, oi (0 : Int32)] [(.ref ob0), (.int (1 : Int32)), (.int (0 : Int32))] _
          refine X17.arraylength hx (by rw [e17]; exact Ar21.1) (State.isArrayOf_alike hZ.alike Ar21.2.1) (g := (mkF m 106 #[oa ob0, oi p1, oi ni, oi nb, oi (1 : Int32), oa b17, oi (0 : Int32), .val (.int ((32 : Int32) - nb)), oi hbt, oi (0 : Int32)] [(.ref ob0), (.int (1 : Int32)), (.int (0 : Int32))])) rfl rfl (hb hby d15_106) _ ?_
          rw [len_of S21 Nn21]
          refine st23 _ ?_
          refine XS.pop X23.here hx rfl (hb hby d15_110) rfl rfl ?_
          refine XS.iload X23.here hx rfl (hb hby d15_111) rfl ?_
          refine XS.iload X23.here hx rfl (hb hby d15_113) rfl ?_
          refine XS.iload X23.here hx rfl (hb hby d15_115) rfl ?_
          show FS p e below T23 m 117 #[oa ob0, oi p1, oi ni, oi nb, oi (1 : Int32), oa b17, oi (0 : Int32), .val (.int ((32 : Int32) - nb)), oi hbt, oi (0 : Int32)] [(.int (0 : Int32)), (.int (0 : Int32)), (.int (0 : Int32))] _
          refine XS.iadd X23.here hx rfl (hb hby d15_117) rfl ?_
          rw [show ((0 : Int32) + (0 : Int32)) = (0 : Int32) from by decide]
          refine XS.iconst X23.here hx rfl (hb hby d15_118) ?_
          show FS p e below T23 m 119 #[oa ob0, oi p1, oi ni, oi nb, oi (1 : Int32), oa b17, oi (0 : Int32), .val (.int ((32 : Int32) - nb)), oi hbt, oi (0 : Int32)] [(.int (1 : Int32)), (.int (0 : Int32)), (.int (0 : Int32))] _
          refine XS.iadd X23.here hx rfl (hb hby d15_119) rfl ?_
          rw [show ((0 : Int32) + (1 : Int32)) = (1 : Int32) from by decide]
          refine XS.aload X23.here hx rfl (hb hby d15_120) rfl rfl ?_
          show FS p e below T23 m 122 #[oa ob0, oi p1, oi ni, oi nb, oi (1 : Int32), oa b17, oi (0 : Int32), .val (.int ((32 : Int32) - nb)), oi hbt, oi (0 : Int32)] [(.ref b17), (.int (1 : Int32)), (.int (0 : Int32))] _
          refine X23.arraylength hx (by rw [e23]; exact Ar24.1) (State.isArrayOf_alike hZ.alike Ar24.2.1) (g := (mkF m 122 #[oa ob0, oi p1, oi ni, oi nb, oi (1 : Int32), oa b17, oi (0 : Int32), .val (.int ((32 : Int32) - nb)), oi hbt, oi (0 : Int32)] [(.ref b17), (.int (1 : Int32)), (.int (0 : Int32))])) rfl rfl (hb hby d15_122) _ ?_
          rw [len_of S24 Nn24]
          refine st25 _ ?_
          refine XS.pop X25.here hx rfl (hb hby d15_126) rfl rfl ?_
          refine XS.aload X25.here hx rfl (hb hby d15_127) rfl rfl ?_
          refine XS.aloadN X25.here hx rfl (hb hby d15_129) rfl rfl ?_
          refine XS.iload X25.here hx rfl (hb hby d15_130) rfl ?_
          refine XS.iloadN X25.here hx rfl (hb hby d15_132) rfl ?_
          refine XS.iload X25.here hx rfl (hb hby d15_133) rfl ?_
          refine st26 _ ?_
          refine XS.aload X26.here hx rfl (hb hby d15_138) rfl rfl ?_
          refine XS.iload X26.here hx rfl (hb hby d15_140) rfl ?_
          refine XS.iload X26.here hx rfl (hb hby d15_142) rfl ?_
          show FS p e below T26 m 144 #[oa ob0, oi p1, oi ni, oi nb, oi (1 : Int32), oa b17, oi (0 : Int32), .val (.int ((32 : Int32) - nb)), oi hbt, oi (0 : Int32)] [(.int (0 : Int32)), (.int (0 : Int32)), (.ref b17)] _
          refine XS.iadd X26.here hx rfl (hb hby d15_144) rfl ?_
          rw [show ((0 : Int32) + (0 : Int32)) = (0 : Int32) from by decide]
          refine XS.aloadN X26.here hx rfl (hb hby d15_145) rfl rfl ?_
          refine XS.iload X26.here hx rfl (hb hby d15_146) rfl ?_
          refine X26.iaload hx (j := (0 : Int32)) (v := (.int x0)) (by rw [e26]; exact Ar27.1) (State.isArrayOf_alike hZ.alike Ar27.2.1) Ar27.2.2 hin27 hat27 (g := (mkF m 148 #[oa ob0, oi p1, oi ni, oi nb, oi (1 : Int32), oa b17, oi (0 : Int32), .val (.int ((32 : Int32) - nb)), oi hbt, oi (0 : Int32)] [(.int (0 : Int32)), (.ref ob0), (.int (0 : Int32)), (.ref b17)])) rfl rfl (hb hby d15_148) _ ?_
          refine XS.iloadN X26.here hx rfl (hb hby d15_149) rfl ?_
          refine XS.ishl X26.here hx rfl (hb hby d15_150) rfl ?_
          refine st29 _ ?_
          refine XS.aload X29.here hx rfl (hb hby d15_152) rfl rfl ?_
          exact k
        obtain ⟨fs, hrt, hrun, hended, hW, hsame⟩ := X29.leave (v := some (.ref b17)) (fun h => by rw [Bd.returns] at h; cases h)
        refine ⟨_, _, g30 _ ?_, hrun, hended, _, _, rfl, ?_, ⟨_, rfl⟩, hW, hsame.mono (by decide) (by decide)⟩
        · show Steps p.tables e below (T29.setTop (mkF m 154 #[oa ob0, oi p1, oi ni, oi nb, oi (1 : Int32), oa b17, oi (0 : Int32), .val (.int ((32 : Int32) - nb)), oi hbt, oi (0 : Int32)] [(.ref b17)])) _
          jvm_step X29.here [X29.here.top, hx, (hb hby d15_154), X29.method', Bd.returns, Value.isRef, FieldType.isReference]
          first | (intro acts; rw [hrt _ acts rfl rfl rfl]) | rw [hrt _ _ rfl rfl rfl]
          exact Steps.refl _
        · show own_Q_rmA11 Z ob0 k_ob0 ob0_z ob0_l p1 zr zm ps ng zk h0 n0 _ T29.heap _
          rw [e29]
          exact ⟨b17, _, _, _, rfl, N29, (Keep.wr (Keep.ext (Keep.refl h0 []) E17) W29 (Or.inr sz_b17)), sz_b17, V29a, (by rcases hni with hni | hni <;> rw [hni] <;> decide)⟩
      · obtain ⟨T31, h31, k31, X31, e31, E31, A31, st31⟩ := newP X0 hx hZ (own_w hw 86 rfl) e0 (g := (mkF m 69 #[oa ob0, oi p1, oi ni, oi nb, oi (1 : Int32), .val .null, oi (0 : Int32), .val (.int ((32 : Int32) - nb)), oi hbt, vU] [(.int (((1 : Int32) + ni) + (1 : Int32)))])) rfl (hb hby d15_69) rfl (by rcases hni with hni | hni <;> rw [hni] <;> decide) (cap := 5) (by rcases hni with hni | hni <;> rw [hni] <;> decide) (by decide) (by decide) (by decide)
        obtain ⟨b31, q_b31⟩ : ∃ z, z = h0.size := ⟨_, rfl⟩
        rw [← q_b31] at A31 st31
        have sz_b31 : h0.size ≤ b31 := Nat.le_of_eq q_b31.symm
        have gz_b31 : n0 ≤ b31 := Nat.le_trans Z0 sz_b31
        have ne_ob0_b31 : ob0 ≠ b31 := Nat.ne_of_lt (Nat.lt_of_lt_of_le Vc1.lt (Nat.le_of_eq q_b31.symm))
        have V31 : Arv Z h31 b31 k31 .int (((1 : Int32) + ni) + (1 : Int32)) [(.int (0 : Int32)), (.int (0 : Int32)), (.int (0 : Int32)), (.int (0 : Int32)), (.int (0 : Int32))] (.int (0 : Int32)) := (Arv.new A31 (by rcases hni with hni | hni <;> rw [hni] <;> decide)).pad (pad_rep [] (.int (0 : Int32)) 5)
        have g32 : ∀ t, FS p e below T31 m 71 #[oa ob0, oi p1, oi ni, oi nb, oi (1 : Int32), .val .null, oi (0 : Int32), .val (.int ((32 : Int32) - nb)), oi hbt, vU] [(.ref b31)] t → ES p e below s₁ m #[(.ref ob0), (.int p1)] 10 t := by
          intro t k
          refine g16 t ?_
          show FS p e below s₁ m 60 #[oa ob0, oi p1, oi ni, oi nb, oi (1 : Int32), .val .null, oi (0 : Int32), .val (.int ((32 : Int32) - nb)), oi hbt, vU] [(.int hbt)] _
          refine XS.ifNo X0.here hx rfl (hb hby d15_60) rfl ((if0 _ _).trans (feq hc15).1) ?_
          refine XS.iload X0.here hx rfl (hb hby d15_63) rfl ?_
          refine XS.iloadN X0.here hx rfl (hb hby d15_65) rfl ?_
          refine XS.iadd X0.here hx rfl (hb hby d15_66) rfl ?_
          refine XS.iconst X0.here hx rfl (hb hby d15_67) ?_
          refine XS.iadd X0.here hx rfl (hb hby d15_68) rfl ?_
          refine st31 _ ?_
          exact k
        obtain ⟨vl33, Vl33, hl33⟩ : ∃ q : List Value, Arv Z h31 b31 k31 .int (((1 : Int32) + ni) + (1 : Int32)) q (.int (0 : Int32)) ∧ ((((1 : Int32) + ni) + (1 : Int32))).toNatClampNeg ≤ q.length := ⟨_, V31, (by rcases hni with hni | hni <;> rw [hni] <;> decide)⟩
        obtain ⟨c34, Ar34, cq34, S34, Nn34, Hh34, Gg34⟩ := id Vl33
        have hin34 : ¬ ((0 : Int32) < 0 ∨ c34.slots.size ≤ ((0 : Int32)).toNatClampNeg) := inb_of S34 (by rcases hni with hni | hni <;> rw [hni] <;> decide)
        obtain ⟨T35, h35, X35, e35, W35, st35⟩ := stI X31 hx hZ e31 Ar34 (j := (0 : Int32)) hin34 (g := (mkF m 82 #[oa ob0, oi p1, oi ni, oi nb, oi (1 : Int32), oa b31, oi (1 : Int32), .val (.int ((32 : Int32) - nb)), oi hbt, vU] [(.int hbt), (.int (0 : Int32)), (.ref b31)])) rfl rfl (hb hby d15_82)
        obtain ⟨vl35, V35a, hl35⟩ : ∃ q : List Value, Arv Z h35 b31 k31 .int (((1 : Int32) + ni) + (1 : Int32)) q (.int (0 : Int32)) ∧ ((((1 : Int32) + ni) + (1 : Int32))).toNatClampNeg ≤ q.length := ⟨_, Arv.set Ar34 cq34 S34 Nn34 Hh34 Gg34 rfl W35 _ rfl (own_inl hin34 S34 hl33), by rw [List.length_set]; exact hl33⟩
        have N35 := Fr.snoc X35 N0 gz_b31
        have f36 := ((Vc1.ext E31).other W35 ne_ob0_b31)
        obtain ⟨c37, Ar37, cq37, S37, Nn37, Hh37, Gg37⟩ := id f36
        have o38 : Old Z n0 h35 := (Old.wr (Old.ext O0 E31) W35 gz_b31)
        obtain ⟨_, _, ⟨T39, L39, k39, n39⟩, -, X39, ⟨Lc39, hQ39, l39, y39, z39⟩, st39⟩ := Jvm.LawKit.callS X35 hx (y := own_y12) hown (mvT hZ (own_w hw 116 rfl)) (mvT hZ (own_w hw 117 rfl)) (mvT hZ (own_w hw 118 rfl)) (mvT hZ (own_w hw 119 rfl)) (by decide) (backOf (W := 0) (rmA12 l Z a0 hw [] ((0 : Int32)) ((1 : Int32)) ((1 : Int32))  zr zm ps ng zk h35 n0 o38 G0   (by decide) (by decide) (by decide)) hZ (own_w hw 119 rfl) (own_w hw 118 rfl) (by decide) (by decide)) (g := (mkF m 107 #[oa ob0, oi p1, oi ni, oi nb, oi (1 : Int32), oa b31, oi (1 : Int32), .val (.int ((32 : Int32) - nb)), oi hbt, oi (0 : Int32)] [(.int (1 : Int32)), (.int (1 : Int32)), (.int (0 : Int32))])) rfl (by rw [hml]; rfl) (argsL := [(.int (0 : Int32)), (.int (1 : Int32)), (.int (1 : Int32))]) (rest := []) (lenOf own_pd6 rfl) rfl (own_W0 rfl) (hb hby d15_107) (fun _ _ => ⟨rfl, e35, (by decide : 1 + 0 ≤ _), (by decide : 5 + 0 ≤ _)⟩)
        dsimp only [Pt.U, Pt.locs, Pt.cells, Pt.slots] at X39 l39 y39 z39 st39 hQ39
        subst l39 y39 z39
        obtain ⟨rfl, Nq39, e39⟩ := hQ39
        have N39 := Fr.app N35 Nq39
        obtain ⟨c40, Ar40, cq40, S40, Nn40, Hh40, Gg40⟩ := id V35a
        obtain ⟨_, _, ⟨T41, L41, k41, n41⟩, -, X41, ⟨Lc41, hQ41, l41, y41, z41⟩, st41⟩ := Jvm.LawKit.callS X39 hx (y := own_y12) hown (mvT hZ (own_w hw 116 rfl)) (mvT hZ (own_w hw 117 rfl)) (mvT hZ (own_w hw 118 rfl)) (mvT hZ (own_w hw 119 rfl)) (by decide) (backOf (W := 0) (rmA12 l Z a0 hw [] ((1 : Int32)) ((2 : Int32)) ((((1 : Int32) + ni) + (1 : Int32)))  zr zm ps ng zk h35 n0 o38 G0   (by decide) (by decide) (by rcases hni with hni | hni <;> rw [hni] <;> decide)) hZ (own_w hw 119 rfl) (own_w hw 118 rfl) (by decide) (by decide)) (g := (mkF m 123 #[oa ob0, oi p1, oi ni, oi nb, oi (1 : Int32), oa b31, oi (1 : Int32), .val (.int ((32 : Int32) - nb)), oi hbt, oi (0 : Int32)] [(.int (((1 : Int32) + ni) + (1 : Int32))), (.int (2 : Int32)), (.int (1 : Int32))])) rfl (by rw [hml]; rfl) (argsL := [(.int (1 : Int32)), (.int (2 : Int32)), (.int (((1 : Int32) + ni) + (1 : Int32)))]) (rest := []) (lenOf own_pd6 rfl) rfl (own_W0 rfl) (hb hby d15_123) (fun _ _ => ⟨rfl, e39, (by decide : 1 + 0 ≤ _), (by decide : 5 + 0 ≤ _)⟩)
        dsimp only [Pt.U, Pt.locs, Pt.cells, Pt.slots] at X41 l41 y41 z41 st41 hQ41
        subst l41 y41 z41
        obtain ⟨rfl, Nq41, e41⟩ := hQ41
        have N41 := Fr.app N39 Nq41
        obtain ⟨LL42, XL42, NL42⟩ : ∃ LL : List Loc, Stand p l e ({ frames := 2, cells := 1, slots := 5, locals := 51 } : Room) s m #[(.ref ob0), (.int p1)] below meth c T41 LL 1 5 ∧ Fr n0 LL := ⟨_, X41, N41⟩
        obtain ⟨_, _, ⟨T43, L43, k43, n43⟩, -, X43, ⟨Lc43, hQ43, l43, y43, z43⟩, st43⟩ := Jvm.LawKit.callS XL42 hx (y := own_y14) hown (mvT hZ (own_w hw 124 rfl)) (mvT hZ (own_w hw 125 rfl)) (mvT hZ (own_w hw 52 rfl)) (mvT hZ (own_w hw 126 rfl)) (by decide) (backOf (W := 0) (rmA15 l Z a0 hw [] b31 ob0 (nb)  zr zm ps ng zk h35 n0 o38 G0   ) hZ (own_w hw 126 rfl) (own_w hw 52 rfl) (by decide) (by decide)) (g := (mkF m 135 #[oa ob0, oi p1, oi ni, oi nb, oi (1 : Int32), oa b31, oi (1 : Int32), .val (.int ((32 : Int32) - nb)), oi hbt, oi (0 : Int32)] [(.int (0 : Int32)), (.int nb), (.int (1 : Int32)), (.ref ob0), (.ref b31)])) rfl (by rw [hml]; rfl) (argsL := [(.ref b31), (.ref ob0), (.int (1 : Int32)), (.int nb), (.int (0 : Int32))]) (rest := []) (lenOf own_pd7 rfl) rfl (own_W0 rfl) (hb hby d15_135) (fun _ _ => ⟨rfl, e41, (by decide : 1 + 0 ≤ _), (by decide : 5 + 0 ≤ _)⟩)
        dsimp only [Pt.U, Pt.locs, Pt.cells, Pt.slots] at X43 l43 y43 z43 st43 hQ43
        subst l43 y43 z43
        obtain ⟨rfl, Nq43, e43⟩ := hQ43
        have N43 := Fr.app NL42 Nq43
        obtain ⟨c44, Ar44, cq44, S44, Nn44, Hh44, Gg44⟩ := id f36
        have hin44 : ¬ ((0 : Int32) < 0 ∨ c44.slots.size ≤ ((0 : Int32)).toNatClampNeg) := inb_of S44 ⟨by decide, by decide⟩
        have hat44 : c44.slots[((0 : Int32)).toNatClampNeg]? = some (.int x0) := Has.at Hh44 hin44 rfl
        obtain ⟨c45, Ar45, cq45, S45, Nn45, Hh45, Gg45⟩ := id V35a
        have hin45 : ¬ ((1 : Int32) < 0 ∨ c45.slots.size ≤ ((1 : Int32)).toNatClampNeg) := inb_of S45 (by rcases hni with hni | hni <;> rw [hni] <;> decide)
        obtain ⟨T46, h46, X46, e46, W46, st46⟩ := stI X43 hx hZ e43 Ar45 (j := (1 : Int32)) hin45 (g := (mkF m 151 #[oa ob0, oi p1, oi ni, oi nb, oi (1 : Int32), oa b31, oi (1 : Int32), .val (.int ((32 : Int32) - nb)), oi hbt, oi (0 : Int32)] [(.int (x0 <<< (nb &&& 31))), (.int (1 : Int32)), (.ref b31)])) rfl rfl (hb hby d15_151)
        obtain ⟨vl46, V46a, hl46⟩ : ∃ q : List Value, Arv Z h46 b31 k31 .int (((1 : Int32) + ni) + (1 : Int32)) q (.int (0 : Int32)) ∧ ((((1 : Int32) + ni) + (1 : Int32))).toNatClampNeg ≤ q.length := ⟨_, Arv.set Ar45 cq45 S45 Nn45 Hh45 Gg45 rfl W46 _ rfl (own_inl hin45 S45 hl35), by rw [List.length_set]; exact hl35⟩
        have N46 := Fr.snoc X46 N43 gz_b31
        have g47 : ∀ t, FS p e below T46 m 154 #[oa ob0, oi p1, oi ni, oi nb, oi (1 : Int32), oa b31, oi (1 : Int32), .val (.int ((32 : Int32) - nb)), oi hbt, oi (0 : Int32)] [(.ref b31)] t → ES p e below s₁ m #[(.ref ob0), (.int p1)] 10 t := by
          intro t k
          refine g32 t ?_
          show FS p e below T31 m 71 #[oa ob0, oi p1, oi ni, oi nb, oi (1 : Int32), .val .null, oi (0 : Int32), .val (.int ((32 : Int32) - nb)), oi hbt, vU] [(.ref b31)] _
          refine XS.astore X31.here hx rfl (hb hby d15_71) rfl rfl (l' := #[oa ob0, oi p1, oi ni, oi nb, oi (1 : Int32), oa b31, oi (0 : Int32), .val (.int ((32 : Int32) - nb)), oi hbt, vU]) rfl ?_
          refine XS.aload X31.here hx rfl (hb hby d15_73) rfl rfl ?_
          refine XS.iload X31.here hx rfl (hb hby d15_75) rfl ?_
          show FS p e below T31 m 77 #[oa ob0, oi p1, oi ni, oi nb, oi (1 : Int32), oa b31, oi (0 : Int32), .val (.int ((32 : Int32) - nb)), oi hbt, vU] [(.int (0 : Int32)), (.ref b31)] _
          refine XS.iinc X31.here hx rfl (hb hby d15_77) rfl (l' := #[oa ob0, oi p1, oi ni, oi nb, oi (1 : Int32), oa b31, .val (.int ((0 : Int32) + (1 : Int32))), .val (.int ((32 : Int32) - nb)), oi hbt, vU]) rfl ?_
          rw [show ((0 : Int32) + (1 : Int32)) = (1 : Int32) from by decide]
          refine XS.iload X31.here hx rfl (hb hby d15_80) rfl ?_
          refine st35 _ ?_
          refine XS.goto X35.here hx rfl (pc0 := 83) (pc' := 94) rfl (hb hby d15_83) (by decide) (by decide) ?_
          refine XS.iload X35.here hx rfl (hb hby d15_94) rfl ?_
          refine XS.iconst X35.here hx rfl (hb hby d15_96) ?_
          show FS p e below T35 m 97 #[oa ob0, oi p1, oi ni, oi nb, oi (1 : Int32), oa b31, oi (1 : Int32), .val (.int ((32 : Int32) - nb)), oi hbt, vU] [(.int (1 : Int32)), (.int (1 : Int32))] _
          refine XS.isub X35.here hx rfl (hb hby d15_97) rfl ?_
          rw [show ((1 : Int32) - (1 : Int32)) = (0 : Int32) from by decide]
          refine XS.istore X35.here hx rfl (hb hby d15_98) rfl (l' := #[oa ob0, oi p1, oi ni, oi nb, oi (1 : Int32), oa b31, oi (1 : Int32), .val (.int ((32 : Int32) - nb)), oi hbt, oi (0 : Int32)]) rfl ?_
          refine XS.iconst X35.here hx rfl (hb hby d15_100) ?_
          refine XS.iload X35.here hx rfl (hb hby d15_101) rfl ?_
          refine XS.iconst X35.here hx rfl (hb hby d15_103) ?_
          show FS p e below T35 m 104 #[oa ob0, oi p1, oi ni, oi nb, oi (1 : Int32), oa b31, oi (1 : Int32), .val (.int ((32 : Int32) - nb)), oi hbt, oi (0 : Int32)] [(.int (1 : Int32)), (.int (0 : Int32)), (.int (0 : Int32))] _
          refine XS.iadd X35.here hx rfl (hb hby d15_104) rfl ?_
          rw [show ((0 : Int32) + (1 : Int32)) = (1 : Int32) from by decide]
          refine XS.aloadN X35.here hx rfl (hb hby d15_105) rfl rfl ?_
          show FS p e below T35 m 106 #[oa ob0, oi p1, oi ni, oi nb, oi (1 : Int32), oa b31, oi (1 : Int32), .val (.int ((32 : Int32) - nb)), oi hbt, oi (0 : Int32)] [(.ref ob0), (.int (1 : Int32)), (.int (0 : Int32))] _
          refine X35.arraylength hx (by rw [e35]; exact Ar37.1) (State.isArrayOf_alike hZ.alike Ar37.2.1) (g := (mkF m 106 #[oa ob0, oi p1, oi ni, oi nb, oi (1 : Int32), oa b31, oi (1 : Int32), .val (.int ((32 : Int32) - nb)), oi hbt, oi (0 : Int32)] [(.ref ob0), (.int (1 : Int32)), (.int (0 : Int32))])) rfl rfl (hb hby d15_106) _ ?_
          rw [len_of S37 Nn37]
          refine st39 _ ?_
          refine XS.pop X39.here hx rfl (hb hby d15_110) rfl rfl ?_
          refine XS.iload X39.here hx rfl (hb hby d15_111) rfl ?_
          refine XS.iload X39.here hx rfl (hb hby d15_113) rfl ?_
          refine XS.iload X39.here hx rfl (hb hby d15_115) rfl ?_
          show FS p e below T39 m 117 #[oa ob0, oi p1, oi ni, oi nb, oi (1 : Int32), oa b31, oi (1 : Int32), .val (.int ((32 : Int32) - nb)), oi hbt, oi (0 : Int32)] [(.int (1 : Int32)), (.int (0 : Int32)), (.int (1 : Int32))] _
          refine XS.iadd X39.here hx rfl (hb hby d15_117) rfl ?_
          rw [show ((0 : Int32) + (1 : Int32)) = (1 : Int32) from by decide]
          refine XS.iconst X39.here hx rfl (hb hby d15_118) ?_
          show FS p e below T39 m 119 #[oa ob0, oi p1, oi ni, oi nb, oi (1 : Int32), oa b31, oi (1 : Int32), .val (.int ((32 : Int32) - nb)), oi hbt, oi (0 : Int32)] [(.int (1 : Int32)), (.int (1 : Int32)), (.int (1 : Int32))] _
          refine XS.iadd X39.here hx rfl (hb hby d15_119) rfl ?_
          rw [show ((1 : Int32) + (1 : Int32)) = (2 : Int32) from by decide]
          refine XS.aload X39.here hx rfl (hb hby d15_120) rfl rfl ?_
          show FS p e below T39 m 122 #[oa ob0, oi p1, oi ni, oi nb, oi (1 : Int32), oa b31, oi (1 : Int32), .val (.int ((32 : Int32) - nb)), oi hbt, oi (0 : Int32)] [(.ref b31), (.int (2 : Int32)), (.int (1 : Int32))] _
          refine X39.arraylength hx (by rw [e39]; exact Ar40.1) (State.isArrayOf_alike hZ.alike Ar40.2.1) (g := (mkF m 122 #[oa ob0, oi p1, oi ni, oi nb, oi (1 : Int32), oa b31, oi (1 : Int32), .val (.int ((32 : Int32) - nb)), oi hbt, oi (0 : Int32)] [(.ref b31), (.int (2 : Int32)), (.int (1 : Int32))])) rfl rfl (hb hby d15_122) _ ?_
          rw [len_of S40 Nn40]
          refine st41 _ ?_
          refine XS.pop X41.here hx rfl (hb hby d15_126) rfl rfl ?_
          refine XS.aload X41.here hx rfl (hb hby d15_127) rfl rfl ?_
          refine XS.aloadN X41.here hx rfl (hb hby d15_129) rfl rfl ?_
          refine XS.iload X41.here hx rfl (hb hby d15_130) rfl ?_
          show FS p e below T41 m 132 #[oa ob0, oi p1, oi ni, oi nb, oi (1 : Int32), oa b31, oi (1 : Int32), .val (.int ((32 : Int32) - nb)), oi hbt, oi (0 : Int32)] [(.int (1 : Int32)), (.ref ob0), (.ref b31)] _
          refine XS.iloadN X41.here hx rfl (hb hby d15_132) rfl ?_
          refine XS.iload X41.here hx rfl (hb hby d15_133) rfl ?_
          refine st43 _ ?_
          refine XS.aload X43.here hx rfl (hb hby d15_138) rfl rfl ?_
          refine XS.iload X43.here hx rfl (hb hby d15_140) rfl ?_
          refine XS.iload X43.here hx rfl (hb hby d15_142) rfl ?_
          show FS p e below T43 m 144 #[oa ob0, oi p1, oi ni, oi nb, oi (1 : Int32), oa b31, oi (1 : Int32), .val (.int ((32 : Int32) - nb)), oi hbt, oi (0 : Int32)] [(.int (1 : Int32)), (.int (0 : Int32)), (.ref b31)] _
          refine XS.iadd X43.here hx rfl (hb hby d15_144) rfl ?_
          rw [show ((0 : Int32) + (1 : Int32)) = (1 : Int32) from by decide]
          refine XS.aloadN X43.here hx rfl (hb hby d15_145) rfl rfl ?_
          refine XS.iload X43.here hx rfl (hb hby d15_146) rfl ?_
          refine X43.iaload hx (j := (0 : Int32)) (v := (.int x0)) (by rw [e43]; exact Ar44.1) (State.isArrayOf_alike hZ.alike Ar44.2.1) Ar44.2.2 hin44 hat44 (g := (mkF m 148 #[oa ob0, oi p1, oi ni, oi nb, oi (1 : Int32), oa b31, oi (1 : Int32), .val (.int ((32 : Int32) - nb)), oi hbt, oi (0 : Int32)] [(.int (0 : Int32)), (.ref ob0), (.int (1 : Int32)), (.ref b31)])) rfl rfl (hb hby d15_148) _ ?_
          refine XS.iloadN X43.here hx rfl (hb hby d15_149) rfl ?_
          refine XS.ishl X43.here hx rfl (hb hby d15_150) rfl ?_
          refine st46 _ ?_
          refine XS.aload X46.here hx rfl (hb hby d15_152) rfl rfl ?_
          exact k
        obtain ⟨fs, hrt, hrun, hended, hW, hsame⟩ := X46.leave (v := some (.ref b31)) (fun h => by rw [Bd.returns] at h; cases h)
        refine ⟨_, _, g47 _ ?_, hrun, hended, _, _, rfl, ?_, ⟨_, rfl⟩, hW, hsame.mono (by decide) (by decide)⟩
        · show Steps p.tables e below (T46.setTop (mkF m 154 #[oa ob0, oi p1, oi ni, oi nb, oi (1 : Int32), oa b31, oi (1 : Int32), .val (.int ((32 : Int32) - nb)), oi hbt, oi (0 : Int32)] [(.ref b31)])) _
          jvm_step X46.here [X46.here.top, hx, (hb hby d15_154), X46.method', Bd.returns, Value.isRef, FieldType.isReference]
          first | (intro acts; rw [hrt _ acts rfl rfl rfl]) | rw [hrt _ _ rfl rfl rfl]
          exact Steps.refl _
        · show own_Q_rmA11 Z ob0 k_ob0 ob0_z ob0_l p1 zr zm ps ng zk h0 n0 _ T46.heap _
          rw [e46]
          exact ⟨b31, _, _, _, rfl, N46, (Keep.wr (Keep.wr (Keep.ext (Keep.refl h0 []) E31) W35 (Or.inr sz_b31)) W46 (Or.inr sz_b31)), sz_b31, V46a, (by rcases hni with hni | hni <;> rw [hni] <;> decide)⟩
  · obtain ⟨x0, x1, Vc1⟩ := own_conc2 (own_reZ hz1 V_ob0)
    obtain ⟨ni, hv_ni⟩ : ∃ z : Int32, z = ((p1.toUInt32 >>> ((5 : Int32) &&& 31).toUInt32).toInt32) := ⟨_, rfl⟩
    have g48 : ∀ t, FS p e below s₁ m 3 #[oa ob0, oi p1, vU, vU, vU, vU, vU, vU, vU, vU] [(.int ni)] t → ES p e below s₁ m #[(.ref ob0), (.int p1)] 10 t := by
      intro t k
      rw [hv_ni] at k
      refine g0 t ?_
      show FS p e below s₁ m 0 #[oa ob0, oi p1, vU, vU, vU, vU, vU, vU, vU, vU] [] _
      refine XS.iloadN X0.here hx rfl (hb hby d15_0) rfl ?_
      refine XS.iconst X0.here hx rfl (hb hby d15_1) ?_
      refine XS.iushr X0.here hx rfl (hb hby d15_2) rfl ?_
      exact k
    have hni : ni = (0 : Int32) ∨ ni = (1 : Int32) := by rw [hv_ni]; exact hn
    obtain ⟨nb, hv_nb⟩ : ∃ z : Int32, z = (p1 &&& (31 : Int32)) := ⟨_, rfl⟩
    have g49 : ∀ t, FS p e below s₁ m 8 #[oa ob0, oi p1, oi ni, vU, vU, vU, vU, vU, vU, vU] [(.int nb)] t → ES p e below s₁ m #[(.ref ob0), (.int p1)] 10 t := by
      intro t k
      rw [hv_nb] at k
      refine g48 t ?_
      show FS p e below s₁ m 3 #[oa ob0, oi p1, vU, vU, vU, vU, vU, vU, vU, vU] [(.int ni)] _
      refine XS.istoreN X0.here hx rfl (hb hby d15_3) rfl (l' := #[oa ob0, oi p1, oi ni, vU, vU, vU, vU, vU, vU, vU]) rfl ?_
      refine XS.iloadN X0.here hx rfl (hb hby d15_4) rfl ?_
      refine XS.bipush X0.here hx rfl (hb hby d15_5) ?_
      refine XS.iand X0.here hx rfl (hb hby d15_7) rfl ?_
      exact k
    obtain ⟨c50, Ar50, cq50, S50, Nn50, Hh50, Gg50⟩ := id Vc1
    have g52 : ∀ t, FS p e below s₁ m 17 #[oa ob0, oi p1, oi ni, oi nb, oi (2 : Int32), .val .null, vU, vU, vU, vU] [(.int nb)] t → ES p e below s₁ m #[(.ref ob0), (.int p1)] 10 t := by
      intro t k
      refine g49 t ?_
      show FS p e below s₁ m 8 #[oa ob0, oi p1, oi ni, vU, vU, vU, vU, vU, vU, vU] [(.int nb)] _
      refine XS.istoreN X0.here hx rfl (hb hby d15_8) rfl (l' := #[oa ob0, oi p1, oi ni, oi nb, vU, vU, vU, vU, vU, vU]) rfl ?_
      refine XS.aloadN X0.here hx rfl (hb hby d15_9) rfl rfl ?_
      show FS p e below s₁ m 10 #[oa ob0, oi p1, oi ni, oi nb, vU, vU, vU, vU, vU, vU] [(.ref ob0)] _
      refine X0.arraylength hx (by rw [e0]; exact Ar50.1) (State.isArrayOf_alike hZ.alike Ar50.2.1) (g := (mkF m 10 #[oa ob0, oi p1, oi ni, oi nb, vU, vU, vU, vU, vU, vU] [(.ref ob0)])) rfl rfl (hb hby d15_10) _ ?_
      rw [len_of S50 Nn50]
      refine XS.istore X0.here hx rfl (hb hby d15_11) rfl (l' := #[oa ob0, oi p1, oi ni, oi nb, oi (2 : Int32), vU, vU, vU, vU, vU]) rfl ?_
      refine XS.aconstNull X0.here hx rfl (hb hby d15_13) ?_
      refine XS.astore X0.here hx rfl (hb hby d15_14) rfl rfl (l' := #[oa ob0, oi p1, oi ni, oi nb, oi (2 : Int32), .val .null, vU, vU, vU, vU]) rfl ?_
      refine XS.iloadN X0.here hx rfl (hb hby d15_16) rfl ?_
      exact k
    by_cases hc51 : nb = (0 : Int32)
    · obtain ⟨T53, h53, k53, X53, e53, E53, A53, st53⟩ := newP X0 hx hZ (own_w hw 86 rfl) e0 (g := (mkF m 24 #[oa ob0, oi p1, oi ni, oi nb, oi (2 : Int32), .val .null, vU, vU, vU, vU] [(.int ((2 : Int32) + ni))])) rfl (hb hby d15_24) rfl (by rcases hni with hni | hni <;> rw [hni] <;> decide) (cap := 4) (by rcases hni with hni | hni <;> rw [hni] <;> decide) (by decide) (by decide) (by decide)
      obtain ⟨b53, q_b53⟩ : ∃ z, z = h0.size := ⟨_, rfl⟩
      rw [← q_b53] at A53 st53
      have sz_b53 : h0.size ≤ b53 := Nat.le_of_eq q_b53.symm
      have gz_b53 : n0 ≤ b53 := Nat.le_trans Z0 sz_b53
      have ne_ob0_b53 : ob0 ≠ b53 := Nat.ne_of_lt (Nat.lt_of_lt_of_le Vc1.lt (Nat.le_of_eq q_b53.symm))
      have V53 : Arv Z h53 b53 k53 .int ((2 : Int32) + ni) [(.int (0 : Int32)), (.int (0 : Int32)), (.int (0 : Int32)), (.int (0 : Int32))] (.int (0 : Int32)) := (Arv.new A53 (by rcases hni with hni | hni <;> rw [hni] <;> decide)).pad (pad_rep [] (.int (0 : Int32)) 4)
      have g54 : ∀ t, FS p e below T53 m 26 #[oa ob0, oi p1, oi ni, oi nb, oi (2 : Int32), .val .null, vU, vU, vU, vU] [(.ref b53)] t → ES p e below s₁ m #[(.ref ob0), (.int p1)] 10 t := by
        intro t k
        refine g52 t ?_
        show FS p e below s₁ m 17 #[oa ob0, oi p1, oi ni, oi nb, oi (2 : Int32), .val .null, vU, vU, vU, vU] [(.int nb)] _
        refine XS.ifNo X0.here hx rfl (hb hby d15_17) rfl ((if0 _ _).trans (teq hc51).2) ?_
        refine XS.iload X0.here hx rfl (hb hby d15_20) rfl ?_
        refine XS.iloadN X0.here hx rfl (hb hby d15_22) rfl ?_
        refine XS.iadd X0.here hx rfl (hb hby d15_23) rfl ?_
        refine st53 _ ?_
        exact k
      obtain ⟨vl55, Vl55, hl55⟩ : ∃ q : List Value, Arv Z h53 b53 k53 .int ((2 : Int32) + ni) q (.int (0 : Int32)) ∧ (((2 : Int32) + ni)).toNatClampNeg ≤ q.length := ⟨_, V53, (by rcases hni with hni | hni <;> rw [hni] <;> decide)⟩
      have f56 := (Vc1.ext E53)
      have hll57 : ((0 : Int32)).toNatClampNeg + ((2 : Int32)).toNatClampNeg ≤ vl55.length := Nat.le_trans ((by rcases hni with hni | hni <;> rw [hni] <;> decide) : _ ≤ (((2 : Int32) + ni)).toNatClampNeg) hl55
      obtain ⟨T57, h57, L57, X57, e57, N57, K57, V57, st57⟩ := cpA X53 hx hZ hown (own_w hw 197 rfl) (own_w hw 171 rfl) (own_w hw 169 rfl) (own_w hw 170 rfl) e53 f56 Vl55 (Or.inl ⟨rfl, rfl⟩) (by decide) (by decide) (by decide) (by decide) (by rcases hni with hni | hni <;> rw [hni] <;> decide) rfl hll57 N0 gz_b53 (g := (mkF m 35 #[oa ob0, oi p1, oi ni, oi nb, oi (2 : Int32), oa b53, vU, vU, vU, vU] [(.int (2 : Int32)), (.int (0 : Int32)), (.ref b53), (.int (0 : Int32)), (.ref ob0)])) rfl (by rw [hml]; rfl) rfl (hb hby d15_35) (by decide) (W := 0) (own_W0 rfl) (by decide)
      obtain ⟨vl57, V57a, hl57⟩ : ∃ q : List Value, Arv Z h57 b53 k53 .int ((2 : Int32) + ni) q (.int (0 : Int32)) ∧ (((2 : Int32) + ni)).toNatClampNeg ≤ q.length := ⟨_, V57, by rw [own_cplen _ _ _ _ hll57]; exact hl55⟩
      have g58 : ∀ t, FS p e below T57 m 154 #[oa ob0, oi p1, oi ni, oi nb, oi (2 : Int32), oa b53, vU, vU, vU, vU] [(.ref b53)] t → ES p e below s₁ m #[(.ref ob0), (.int p1)] 10 t := by
        intro t k
        refine g54 t ?_
        show FS p e below T53 m 26 #[oa ob0, oi p1, oi ni, oi nb, oi (2 : Int32), .val .null, vU, vU, vU, vU] [(.ref b53)] _
        refine XS.astore X53.here hx rfl (hb hby d15_26) rfl rfl (l' := #[oa ob0, oi p1, oi ni, oi nb, oi (2 : Int32), oa b53, vU, vU, vU, vU]) rfl ?_
        refine XS.aloadN X53.here hx rfl (hb hby d15_28) rfl rfl ?_
        refine XS.iconst X53.here hx rfl (hb hby d15_29) ?_
        refine XS.aload X53.here hx rfl (hb hby d15_30) rfl rfl ?_
        refine XS.iconst X53.here hx rfl (hb hby d15_32) ?_
        refine XS.iload X53.here hx rfl (hb hby d15_33) rfl ?_
        refine st57 _ ?_
        refine XS.goto X57.here hx rfl (pc0 := 38) (pc' := 152) rfl (hb hby d15_38) (by decide) (by decide) ?_
        refine XS.aload X57.here hx rfl (hb hby d15_152) rfl rfl ?_
        exact k
      obtain ⟨fs, hrt, hrun, hended, hW, hsame⟩ := X57.leave (v := some (.ref b53)) (fun h => by rw [Bd.returns] at h; cases h)
      refine ⟨_, _, g58 _ ?_, hrun, hended, _, _, rfl, ?_, ⟨_, rfl⟩, hW, hsame.mono (by decide) (by decide)⟩
      · show Steps p.tables e below (T57.setTop (mkF m 154 #[oa ob0, oi p1, oi ni, oi nb, oi (2 : Int32), oa b53, vU, vU, vU, vU] [(.ref b53)])) _
        jvm_step X57.here [X57.here.top, hx, (hb hby d15_154), X57.method', Bd.returns, Value.isRef, FieldType.isReference]
        first | (intro acts; rw [hrt _ acts rfl rfl rfl]) | rw [hrt _ _ rfl rfl rfl]
        exact Steps.refl _
      · show own_Q_rmA11 Z ob0 k_ob0 ob0_z ob0_l p1 zr zm ps ng zk h0 n0 _ T57.heap _
        rw [e57]
        exact ⟨b53, _, _, _, rfl, N57, (Keep.trans (Keep.ext (Keep.refl h0 []) E53) K57 (allS (Or.inr sz_b53) all0)), sz_b53, V57a, (by rcases hni with hni | hni <;> rw [hni] <;> decide)⟩
    · obtain ⟨c59, Ar59, cq59, S59, Nn59, Hh59, Gg59⟩ := id Vc1
      have hin59 : ¬ ((0 : Int32) < 0 ∨ c59.slots.size ≤ ((0 : Int32)).toNatClampNeg) := inb_of S59 ⟨by decide, by decide⟩
      have hat59 : c59.slots[((0 : Int32)).toNatClampNeg]? = some (.int x0) := Has.at Hh59 hin59 rfl
      obtain ⟨hbt, hv_hbt⟩ : ∃ z : Int32, z = ((x0.toUInt32 >>> (((32 : Int32) - nb) &&& 31).toUInt32).toInt32) := ⟨_, rfl⟩
      have g60 : ∀ t, FS p e below s₁ m 56 #[oa ob0, oi p1, oi ni, oi nb, oi (2 : Int32), .val .null, oi (0 : Int32), .val (.int ((32 : Int32) - nb)), vU, vU] [(.int hbt)] t → ES p e below s₁ m #[(.ref ob0), (.int p1)] 10 t := by
        intro t k
        rw [hv_hbt] at k
        refine g52 t ?_
        show FS p e below s₁ m 17 #[oa ob0, oi p1, oi ni, oi nb, oi (2 : Int32), .val .null, vU, vU, vU, vU] [(.int nb)] _
        refine XS.ifYes X0.here hx rfl (pc0 := 17) (pc' := 41) rfl (hb hby d15_17) rfl ((if0 _ _).trans (feq hc51).2) (by decide) (by decide) ?_
        refine XS.iconst X0.here hx rfl (hb hby d15_41) ?_
        refine XS.istore X0.here hx rfl (hb hby d15_42) rfl (l' := #[oa ob0, oi p1, oi ni, oi nb, oi (2 : Int32), .val .null, oi (0 : Int32), vU, vU, vU]) rfl ?_
        refine XS.bipush X0.here hx rfl (hb hby d15_44) ?_
        refine XS.iloadN X0.here hx rfl (hb hby d15_46) rfl ?_
        refine XS.isub X0.here hx rfl (hb hby d15_47) rfl ?_
        refine XS.istore X0.here hx rfl (hb hby d15_48) rfl (l' := #[oa ob0, oi p1, oi ni, oi nb, oi (2 : Int32), .val .null, oi (0 : Int32), .val (.int ((32 : Int32) - nb)), vU, vU]) rfl ?_
        refine XS.aloadN X0.here hx rfl (hb hby d15_50) rfl rfl ?_
        refine XS.iconst X0.here hx rfl (hb hby d15_51) ?_
        refine X0.iaload hx (j := (0 : Int32)) (v := (.int x0)) (by rw [e0]; exact Ar59.1) (State.isArrayOf_alike hZ.alike Ar59.2.1) Ar59.2.2 hin59 hat59 (g := (mkF m 52 #[oa ob0, oi p1, oi ni, oi nb, oi (2 : Int32), .val .null, oi (0 : Int32), .val (.int ((32 : Int32) - nb)), vU, vU] [(.int (0 : Int32)), (.ref ob0)])) rfl rfl (hb hby d15_52) _ ?_
        refine XS.iload X0.here hx rfl (hb hby d15_53) rfl ?_
        refine XS.iushr X0.here hx rfl (hb hby d15_55) rfl ?_
        exact k
      have g62 : ∀ t, FS p e below s₁ m 60 #[oa ob0, oi p1, oi ni, oi nb, oi (2 : Int32), .val .null, oi (0 : Int32), .val (.int ((32 : Int32) - nb)), oi hbt, vU] [(.int hbt)] t → ES p e below s₁ m #[(.ref ob0), (.int p1)] 10 t := by
        intro t k
        refine g60 t ?_
        show FS p e below s₁ m 56 #[oa ob0, oi p1, oi ni, oi nb, oi (2 : Int32), .val .null, oi (0 : Int32), .val (.int ((32 : Int32) - nb)), vU, vU] [(.int hbt)] _
        refine XS.istore X0.here hx rfl (hb hby d15_56) rfl (l' := #[oa ob0, oi p1, oi ni, oi nb, oi (2 : Int32), .val .null, oi (0 : Int32), .val (.int ((32 : Int32) - nb)), oi hbt, vU]) rfl ?_
        refine XS.iload X0.here hx rfl (hb hby d15_58) rfl ?_
        exact k
      by_cases hc61 : hbt = (0 : Int32)
      · obtain ⟨T63, h63, k63, X63, e63, E63, A63, st63⟩ := newP X0 hx hZ (own_w hw 86 rfl) e0 (g := (mkF m 90 #[oa ob0, oi p1, oi ni, oi nb, oi (2 : Int32), .val .null, oi (0 : Int32), .val (.int ((32 : Int32) - nb)), oi hbt, vU] [(.int ((2 : Int32) + ni))])) rfl (hb hby d15_90) rfl (by rcases hni with hni | hni <;> rw [hni] <;> decide) (cap := 4) (by rcases hni with hni | hni <;> rw [hni] <;> decide) (by decide) (by decide) (by decide)
        obtain ⟨b63, q_b63⟩ : ∃ z, z = h0.size := ⟨_, rfl⟩
        rw [← q_b63] at A63 st63
        have sz_b63 : h0.size ≤ b63 := Nat.le_of_eq q_b63.symm
        have gz_b63 : n0 ≤ b63 := Nat.le_trans Z0 sz_b63
        have ne_ob0_b63 : ob0 ≠ b63 := Nat.ne_of_lt (Nat.lt_of_lt_of_le Vc1.lt (Nat.le_of_eq q_b63.symm))
        have V63 : Arv Z h63 b63 k63 .int ((2 : Int32) + ni) [(.int (0 : Int32)), (.int (0 : Int32)), (.int (0 : Int32)), (.int (0 : Int32))] (.int (0 : Int32)) := (Arv.new A63 (by rcases hni with hni | hni <;> rw [hni] <;> decide)).pad (pad_rep [] (.int (0 : Int32)) 4)
        have g64 : ∀ t, FS p e below T63 m 92 #[oa ob0, oi p1, oi ni, oi nb, oi (2 : Int32), .val .null, oi (0 : Int32), .val (.int ((32 : Int32) - nb)), oi hbt, vU] [(.ref b63)] t → ES p e below s₁ m #[(.ref ob0), (.int p1)] 10 t := by
          intro t k
          refine g62 t ?_
          show FS p e below s₁ m 60 #[oa ob0, oi p1, oi ni, oi nb, oi (2 : Int32), .val .null, oi (0 : Int32), .val (.int ((32 : Int32) - nb)), oi hbt, vU] [(.int hbt)] _
          refine XS.ifYes X0.here hx rfl (pc0 := 60) (pc' := 86) rfl (hb hby d15_60) rfl ((if0 _ _).trans (teq hc61).1) (by decide) (by decide) ?_
          refine XS.iload X0.here hx rfl (hb hby d15_86) rfl ?_
          refine XS.iloadN X0.here hx rfl (hb hby d15_88) rfl ?_
          refine XS.iadd X0.here hx rfl (hb hby d15_89) rfl ?_
          refine st63 _ ?_
          exact k
        obtain ⟨vl65, Vl65, hl65⟩ : ∃ q : List Value, Arv Z h63 b63 k63 .int ((2 : Int32) + ni) q (.int (0 : Int32)) ∧ (((2 : Int32) + ni)).toNatClampNeg ≤ q.length := ⟨_, V63, (by rcases hni with hni | hni <;> rw [hni] <;> decide)⟩
        have f66 := (Vc1.ext E63)
        obtain ⟨c67, Ar67, cq67, S67, Nn67, Hh67, Gg67⟩ := id f66
        have o68 : Old Z n0 h63 := (Old.ext O0 E63)
        obtain ⟨_, _, ⟨T69, L69, k69, n69⟩, -, X69, ⟨Lc69, hQ69, l69, y69, z69⟩, st69⟩ := Jvm.LawKit.callS X63 hx (y := own_y12) hown (mvT hZ (own_w hw 116 rfl)) (mvT hZ (own_w hw 117 rfl)) (mvT hZ (own_w hw 118 rfl)) (mvT hZ (own_w hw 119 rfl)) (by decide) (backOf (W := 0) (rmA12 l Z a0 hw [] ((0 : Int32)) ((2 : Int32)) ((2 : Int32))  zr zm ps ng zk h63 n0 o68 G0   (by decide) (by decide) (by decide)) hZ (own_w hw 119 rfl) (own_w hw 118 rfl) (by decide) (by decide)) (g := (mkF m 107 #[oa ob0, oi p1, oi ni, oi nb, oi (2 : Int32), oa b63, oi (0 : Int32), .val (.int ((32 : Int32) - nb)), oi hbt, oi (1 : Int32)] [(.int (2 : Int32)), (.int (2 : Int32)), (.int (0 : Int32))])) rfl (by rw [hml]; rfl) (argsL := [(.int (0 : Int32)), (.int (2 : Int32)), (.int (2 : Int32))]) (rest := []) (lenOf own_pd6 rfl) rfl (own_W0 rfl) (hb hby d15_107) (fun _ _ => ⟨rfl, e63, (by decide : 1 + 0 ≤ _), (by decide : 4 + 0 ≤ _)⟩)
        dsimp only [Pt.U, Pt.locs, Pt.cells, Pt.slots] at X69 l69 y69 z69 st69 hQ69
        subst l69 y69 z69
        obtain ⟨rfl, Nq69, e69⟩ := hQ69
        have N69 := Fr.app N0 Nq69
        obtain ⟨c70, Ar70, cq70, S70, Nn70, Hh70, Gg70⟩ := id Vl65
        obtain ⟨_, _, ⟨T71, L71, k71, n71⟩, -, X71, ⟨Lc71, hQ71, l71, y71, z71⟩, st71⟩ := Jvm.LawKit.callS X69 hx (y := own_y12) hown (mvT hZ (own_w hw 116 rfl)) (mvT hZ (own_w hw 117 rfl)) (mvT hZ (own_w hw 118 rfl)) (mvT hZ (own_w hw 119 rfl)) (by decide) (backOf (W := 0) (rmA12 l Z a0 hw [] ((0 : Int32)) ((2 : Int32)) (((2 : Int32) + ni))  zr zm ps ng zk h63 n0 o68 G0   (by decide) (by decide) (by rcases hni with hni | hni <;> rw [hni] <;> decide)) hZ (own_w hw 119 rfl) (own_w hw 118 rfl) (by decide) (by decide)) (g := (mkF m 123 #[oa ob0, oi p1, oi ni, oi nb, oi (2 : Int32), oa b63, oi (0 : Int32), .val (.int ((32 : Int32) - nb)), oi hbt, oi (1 : Int32)] [(.int ((2 : Int32) + ni)), (.int (2 : Int32)), (.int (0 : Int32))])) rfl (by rw [hml]; rfl) (argsL := [(.int (0 : Int32)), (.int (2 : Int32)), (.int ((2 : Int32) + ni))]) (rest := []) (lenOf own_pd6 rfl) rfl (own_W0 rfl) (hb hby d15_123) (fun _ _ => ⟨rfl, e69, (by decide : 1 + 0 ≤ _), (by decide : 4 + 0 ≤ _)⟩)
        dsimp only [Pt.U, Pt.locs, Pt.cells, Pt.slots] at X71 l71 y71 z71 st71 hQ71
        subst l71 y71 z71
        obtain ⟨rfl, Nq71, e71⟩ := hQ71
        have N71 := Fr.app N69 Nq71
        obtain ⟨_, _, ⟨T72, L72, k72, n72⟩, -, X72, ⟨Lc72, hQ72, l72, y72, z72⟩, st72⟩ := Jvm.LawKit.callS X71 hx (y := own_y14) hown (mvT hZ (own_w hw 124 rfl)) (mvT hZ (own_w hw 125 rfl)) (mvT hZ (own_w hw 52 rfl)) (mvT hZ (own_w hw 126 rfl)) (by decide) (backOf (W := 0) (rmA16 l Z a0 hw [] b63 k63 (((2 : Int32) + ni)) vl65 ob0 k_ob0 (x0) (x1) (nb)  zr zm ps ng zk h63 n0 o68 G0 Vl65 f66 gz_b63 ne_ob0_b63 hl65 (by rcases hni with hni | hni <;> rw [hni] <;> decide)) hZ (own_w hw 126 rfl) (own_w hw 52 rfl) (by decide) (by decide)) (g := (mkF m 135 #[oa ob0, oi p1, oi ni, oi nb, oi (2 : Int32), oa b63, oi (0 : Int32), .val (.int ((32 : Int32) - nb)), oi hbt, oi (1 : Int32)] [(.int (1 : Int32)), (.int nb), (.int (0 : Int32)), (.ref ob0), (.ref b63)])) rfl (by rw [hml]; rfl) (argsL := [(.ref b63), (.ref ob0), (.int (0 : Int32)), (.int nb), (.int (1 : Int32))]) (rest := []) (lenOf own_pd7 rfl) rfl (own_W0 rfl) (hb hby d15_135) (fun _ _ => ⟨rfl, e71, (by decide : 1 + 0 ≤ _), (by decide : 4 + 0 ≤ _)⟩)
        dsimp only [Pt.U, Pt.locs, Pt.cells, Pt.slots] at X72 l72 y72 z72 st72 hQ72
        subst l72 y72 z72
        obtain ⟨rfl, Nq72, K72, rl72, Va72, hl72⟩ := hQ72
        have N72 := Fr.app N71 Nq72
        have f73 := (f66.keep K72 (ninS ne_ob0_b63 nin0))
        obtain ⟨c74, Ar74, cq74, S74, Nn74, Hh74, Gg74⟩ := id f73
        have hin74 : ¬ ((1 : Int32) < 0 ∨ c74.slots.size ≤ ((1 : Int32)).toNatClampNeg) := inb_of S74 ⟨by decide, by decide⟩
        have hat74 : c74.slots[((1 : Int32)).toNatClampNeg]? = some (.int x1) := Has.at Hh74 hin74 rfl
        obtain ⟨c75, Ar75, cq75, S75, Nn75, Hh75, Gg75⟩ := id Va72
        have hin75 : ¬ ((1 : Int32) < 0 ∨ c75.slots.size ≤ ((1 : Int32)).toNatClampNeg) := inb_of S75 (by rcases hni with hni | hni <;> rw [hni] <;> decide)
        obtain ⟨T76, h76, X76, e76, W76, st76⟩ := stI X72 hx hZ rfl Ar75 (j := (1 : Int32)) hin75 (g := (mkF m 151 #[oa ob0, oi p1, oi ni, oi nb, oi (2 : Int32), oa b63, oi (0 : Int32), .val (.int ((32 : Int32) - nb)), oi hbt, oi (1 : Int32)] [(.int (x1 <<< (nb &&& 31))), (.int (1 : Int32)), (.ref b63)])) rfl rfl (hb hby d15_151)
        obtain ⟨vl76, V76a, hl76⟩ : ∃ q : List Value, Arv Z h76 b63 k63 .int ((2 : Int32) + ni) q (.int (0 : Int32)) ∧ (((2 : Int32) + ni)).toNatClampNeg ≤ q.length := ⟨_, Arv.set Ar75 cq75 S75 Nn75 Hh75 Gg75 rfl W76 _ rfl (own_inl hin75 S75 hl72), by rw [List.length_set]; exact hl72⟩
        have N76 := Fr.snoc X76 N72 gz_b63
        have g77 : ∀ t, FS p e below T76 m 154 #[oa ob0, oi p1, oi ni, oi nb, oi (2 : Int32), oa b63, oi (0 : Int32), .val (.int ((32 : Int32) - nb)), oi hbt, oi (1 : Int32)] [(.ref b63)] t → ES p e below s₁ m #[(.ref ob0), (.int p1)] 10 t := by
          intro t k
          refine g64 t ?_
          show FS p e below T63 m 92 #[oa ob0, oi p1, oi ni, oi nb, oi (2 : Int32), .val .null, oi (0 : Int32), .val (.int ((32 : Int32) - nb)), oi hbt, vU] [(.ref b63)] _
          refine XS.astore X63.here hx rfl (hb hby d15_92) rfl rfl (l' := #[oa ob0, oi p1, oi ni, oi nb, oi (2 : Int32), oa b63, oi (0 : Int32), .val (.int ((32 : Int32) - nb)), oi hbt, vU]) rfl ?_
          refine XS.iload X63.here hx rfl (hb hby d15_94) rfl ?_
          refine XS.iconst X63.here hx rfl (hb hby d15_96) ?_
          show FS p e below T63 m 97 #[oa ob0, oi p1, oi ni, oi nb, oi (2 : Int32), oa b63, oi (0 : Int32), .val (.int ((32 : Int32) - nb)), oi hbt, vU] [(.int (1 : Int32)), (.int (2 : Int32))] _
          refine XS.isub X63.here hx rfl (hb hby d15_97) rfl ?_
          rw [show ((2 : Int32) - (1 : Int32)) = (1 : Int32) from by decide]
          refine XS.istore X63.here hx rfl (hb hby d15_98) rfl (l' := #[oa ob0, oi p1, oi ni, oi nb, oi (2 : Int32), oa b63, oi (0 : Int32), .val (.int ((32 : Int32) - nb)), oi hbt, oi (1 : Int32)]) rfl ?_
          refine XS.iconst X63.here hx rfl (hb hby d15_100) ?_
          refine XS.iload X63.here hx rfl (hb hby d15_101) rfl ?_
          refine XS.iconst X63.here hx rfl (hb hby d15_103) ?_
          show FS p e below T63 m 104 #[oa ob0, oi p1, oi ni, oi nb, oi (2 : Int32), oa b63, oi (0 : Int32), .val (.int ((32 : Int32) - nb)), oi hbt, oi (1 : Int32)] [(.int (1 : Int32)), (.int (1 : Int32)), (.int (0 : Int32))] _
          refine XS.iadd X63.here hx rfl (hb hby d15_104) rfl ?_
          rw [show ((1 : Int32) + (1 : Int32)) = (2 : Int32) from by decide]
          refine XS.aloadN X63.here hx rfl (hb hby d15_105) rfl rfl ?_
          show FS p e below T63 m 106 #[oa ob0, oi p1, oi ni, oi nb, oi (2 : Int32), oa b63, oi (0 : Int32), .val (.int ((32 : Int32) - nb)), oi hbt, oi (1 : Int32)] [(.ref ob0), (.int (2 : Int32)), (.int (0 : Int32))] _
          refine X63.arraylength hx (by rw [e63]; exact Ar67.1) (State.isArrayOf_alike hZ.alike Ar67.2.1) (g := (mkF m 106 #[oa ob0, oi p1, oi ni, oi nb, oi (2 : Int32), oa b63, oi (0 : Int32), .val (.int ((32 : Int32) - nb)), oi hbt, oi (1 : Int32)] [(.ref ob0), (.int (2 : Int32)), (.int (0 : Int32))])) rfl rfl (hb hby d15_106) _ ?_
          rw [len_of S67 Nn67]
          refine st69 _ ?_
          refine XS.pop X69.here hx rfl (hb hby d15_110) rfl rfl ?_
          refine XS.iload X69.here hx rfl (hb hby d15_111) rfl ?_
          refine XS.iload X69.here hx rfl (hb hby d15_113) rfl ?_
          refine XS.iload X69.here hx rfl (hb hby d15_115) rfl ?_
          show FS p e below T69 m 117 #[oa ob0, oi p1, oi ni, oi nb, oi (2 : Int32), oa b63, oi (0 : Int32), .val (.int ((32 : Int32) - nb)), oi hbt, oi (1 : Int32)] [(.int (0 : Int32)), (.int (1 : Int32)), (.int (0 : Int32))] _
          refine XS.iadd X69.here hx rfl (hb hby d15_117) rfl ?_
          rw [show ((1 : Int32) + (0 : Int32)) = (1 : Int32) from by decide]
          refine XS.iconst X69.here hx rfl (hb hby d15_118) ?_
          show FS p e below T69 m 119 #[oa ob0, oi p1, oi ni, oi nb, oi (2 : Int32), oa b63, oi (0 : Int32), .val (.int ((32 : Int32) - nb)), oi hbt, oi (1 : Int32)] [(.int (1 : Int32)), (.int (1 : Int32)), (.int (0 : Int32))] _
          refine XS.iadd X69.here hx rfl (hb hby d15_119) rfl ?_
          rw [show ((1 : Int32) + (1 : Int32)) = (2 : Int32) from by decide]
          refine XS.aload X69.here hx rfl (hb hby d15_120) rfl rfl ?_
          show FS p e below T69 m 122 #[oa ob0, oi p1, oi ni, oi nb, oi (2 : Int32), oa b63, oi (0 : Int32), .val (.int ((32 : Int32) - nb)), oi hbt, oi (1 : Int32)] [(.ref b63), (.int (2 : Int32)), (.int (0 : Int32))] _
          refine X69.arraylength hx (by rw [e69]; exact Ar70.1) (State.isArrayOf_alike hZ.alike Ar70.2.1) (g := (mkF m 122 #[oa ob0, oi p1, oi ni, oi nb, oi (2 : Int32), oa b63, oi (0 : Int32), .val (.int ((32 : Int32) - nb)), oi hbt, oi (1 : Int32)] [(.ref b63), (.int (2 : Int32)), (.int (0 : Int32))])) rfl rfl (hb hby d15_122) _ ?_
          rw [len_of S70 Nn70]
          refine st71 _ ?_
          refine XS.pop X71.here hx rfl (hb hby d15_126) rfl rfl ?_
          refine XS.aload X71.here hx rfl (hb hby d15_127) rfl rfl ?_
          refine XS.aloadN X71.here hx rfl (hb hby d15_129) rfl rfl ?_
          refine XS.iload X71.here hx rfl (hb hby d15_130) rfl ?_
          refine XS.iloadN X71.here hx rfl (hb hby d15_132) rfl ?_
          refine XS.iload X71.here hx rfl (hb hby d15_133) rfl ?_
          refine st72 _ ?_
          refine XS.aload X72.here hx rfl (hb hby d15_138) rfl rfl ?_
          refine XS.iload X72.here hx rfl (hb hby d15_140) rfl ?_
          refine XS.iload X72.here hx rfl (hb hby d15_142) rfl ?_
          show FS p e below T72 m 144 #[oa ob0, oi p1, oi ni, oi nb, oi (2 : Int32), oa b63, oi (0 : Int32), .val (.int ((32 : Int32) - nb)), oi hbt, oi (1 : Int32)] [(.int (0 : Int32)), (.int (1 : Int32)), (.ref b63)] _
          refine XS.iadd X72.here hx rfl (hb hby d15_144) rfl ?_
          rw [show ((1 : Int32) + (0 : Int32)) = (1 : Int32) from by decide]
          refine XS.aloadN X72.here hx rfl (hb hby d15_145) rfl rfl ?_
          refine XS.iload X72.here hx rfl (hb hby d15_146) rfl ?_
          refine X72.iaload hx (j := (1 : Int32)) (v := (.int x1)) Ar74.1 (State.isArrayOf_alike hZ.alike Ar74.2.1) Ar74.2.2 hin74 hat74 (g := (mkF m 148 #[oa ob0, oi p1, oi ni, oi nb, oi (2 : Int32), oa b63, oi (0 : Int32), .val (.int ((32 : Int32) - nb)), oi hbt, oi (1 : Int32)] [(.int (1 : Int32)), (.ref ob0), (.int (1 : Int32)), (.ref b63)])) rfl rfl (hb hby d15_148) _ ?_
          refine XS.iloadN X72.here hx rfl (hb hby d15_149) rfl ?_
          refine XS.ishl X72.here hx rfl (hb hby d15_150) rfl ?_
          refine st76 _ ?_
          refine XS.aload X76.here hx rfl (hb hby d15_152) rfl rfl ?_
          exact k
        obtain ⟨fs, hrt, hrun, hended, hW, hsame⟩ := X76.leave (v := some (.ref b63)) (fun h => by rw [Bd.returns] at h; cases h)
        refine ⟨_, _, g77 _ ?_, hrun, hended, _, _, rfl, ?_, ⟨_, rfl⟩, hW, hsame.mono (by decide) (by decide)⟩
        · show Steps p.tables e below (T76.setTop (mkF m 154 #[oa ob0, oi p1, oi ni, oi nb, oi (2 : Int32), oa b63, oi (0 : Int32), .val (.int ((32 : Int32) - nb)), oi hbt, oi (1 : Int32)] [(.ref b63)])) _
          jvm_step X76.here [X76.here.top, hx, (hb hby d15_154), X76.method', Bd.returns, Value.isRef, FieldType.isReference]
          first | (intro acts; rw [hrt _ acts rfl rfl rfl]) | rw [hrt _ _ rfl rfl rfl]
          exact Steps.refl _
        · show own_Q_rmA11 Z ob0 k_ob0 ob0_z ob0_l p1 zr zm ps ng zk h0 n0 _ T76.heap _
          rw [e76]
          exact ⟨b63, _, _, _, rfl, N76, (Keep.wr (Keep.trans (Keep.ext (Keep.refl h0 []) E63) K72 (allS (Or.inr sz_b63) all0)) W76 (Or.inr sz_b63)), sz_b63, V76a, (by rcases hni with hni | hni <;> rw [hni] <;> decide)⟩
      · obtain ⟨T78, h78, k78, X78, e78, E78, A78, st78⟩ := newP X0 hx hZ (own_w hw 86 rfl) e0 (g := (mkF m 69 #[oa ob0, oi p1, oi ni, oi nb, oi (2 : Int32), .val .null, oi (0 : Int32), .val (.int ((32 : Int32) - nb)), oi hbt, vU] [(.int (((2 : Int32) + ni) + (1 : Int32)))])) rfl (hb hby d15_69) rfl (by rcases hni with hni | hni <;> rw [hni] <;> decide) (cap := 5) (by rcases hni with hni | hni <;> rw [hni] <;> decide) (by decide) (by decide) (by decide)
        obtain ⟨b78, q_b78⟩ : ∃ z, z = h0.size := ⟨_, rfl⟩
        rw [← q_b78] at A78 st78
        have sz_b78 : h0.size ≤ b78 := Nat.le_of_eq q_b78.symm
        have gz_b78 : n0 ≤ b78 := Nat.le_trans Z0 sz_b78
        have ne_ob0_b78 : ob0 ≠ b78 := Nat.ne_of_lt (Nat.lt_of_lt_of_le Vc1.lt (Nat.le_of_eq q_b78.symm))
        have V78 : Arv Z h78 b78 k78 .int (((2 : Int32) + ni) + (1 : Int32)) [(.int (0 : Int32)), (.int (0 : Int32)), (.int (0 : Int32)), (.int (0 : Int32)), (.int (0 : Int32))] (.int (0 : Int32)) := (Arv.new A78 (by rcases hni with hni | hni <;> rw [hni] <;> decide)).pad (pad_rep [] (.int (0 : Int32)) 5)
        have g79 : ∀ t, FS p e below T78 m 71 #[oa ob0, oi p1, oi ni, oi nb, oi (2 : Int32), .val .null, oi (0 : Int32), .val (.int ((32 : Int32) - nb)), oi hbt, vU] [(.ref b78)] t → ES p e below s₁ m #[(.ref ob0), (.int p1)] 10 t := by
          intro t k
          refine g62 t ?_
          show FS p e below s₁ m 60 #[oa ob0, oi p1, oi ni, oi nb, oi (2 : Int32), .val .null, oi (0 : Int32), .val (.int ((32 : Int32) - nb)), oi hbt, vU] [(.int hbt)] _
          refine XS.ifNo X0.here hx rfl (hb hby d15_60) rfl ((if0 _ _).trans (feq hc61).1) ?_
          refine XS.iload X0.here hx rfl (hb hby d15_63) rfl ?_
          refine XS.iloadN X0.here hx rfl (hb hby d15_65) rfl ?_
          refine XS.iadd X0.here hx rfl (hb hby d15_66) rfl ?_
          refine XS.iconst X0.here hx rfl (hb hby d15_67) ?_
          refine XS.iadd X0.here hx rfl (hb hby d15_68) rfl ?_
          refine st78 _ ?_
          exact k
        obtain ⟨vl80, Vl80, hl80⟩ : ∃ q : List Value, Arv Z h78 b78 k78 .int (((2 : Int32) + ni) + (1 : Int32)) q (.int (0 : Int32)) ∧ ((((2 : Int32) + ni) + (1 : Int32))).toNatClampNeg ≤ q.length := ⟨_, V78, (by rcases hni with hni | hni <;> rw [hni] <;> decide)⟩
        obtain ⟨c81, Ar81, cq81, S81, Nn81, Hh81, Gg81⟩ := id Vl80
        have hin81 : ¬ ((0 : Int32) < 0 ∨ c81.slots.size ≤ ((0 : Int32)).toNatClampNeg) := inb_of S81 (by rcases hni with hni | hni <;> rw [hni] <;> decide)
        obtain ⟨T82, h82, X82, e82, W82, st82⟩ := stI X78 hx hZ e78 Ar81 (j := (0 : Int32)) hin81 (g := (mkF m 82 #[oa ob0, oi p1, oi ni, oi nb, oi (2 : Int32), oa b78, oi (1 : Int32), .val (.int ((32 : Int32) - nb)), oi hbt, vU] [(.int hbt), (.int (0 : Int32)), (.ref b78)])) rfl rfl (hb hby d15_82)
        obtain ⟨vl82, V82a, hl82⟩ : ∃ q : List Value, Arv Z h82 b78 k78 .int (((2 : Int32) + ni) + (1 : Int32)) q (.int (0 : Int32)) ∧ ((((2 : Int32) + ni) + (1 : Int32))).toNatClampNeg ≤ q.length := ⟨_, Arv.set Ar81 cq81 S81 Nn81 Hh81 Gg81 rfl W82 _ rfl (own_inl hin81 S81 hl80), by rw [List.length_set]; exact hl80⟩
        have N82 := Fr.snoc X82 N0 gz_b78
        have f83 := ((Vc1.ext E78).other W82 ne_ob0_b78)
        obtain ⟨c84, Ar84, cq84, S84, Nn84, Hh84, Gg84⟩ := id f83
        have o85 : Old Z n0 h82 := (Old.wr (Old.ext O0 E78) W82 gz_b78)
        obtain ⟨_, _, ⟨T86, L86, k86, n86⟩, -, X86, ⟨Lc86, hQ86, l86, y86, z86⟩, st86⟩ := Jvm.LawKit.callS X82 hx (y := own_y12) hown (mvT hZ (own_w hw 116 rfl)) (mvT hZ (own_w hw 117 rfl)) (mvT hZ (own_w hw 118 rfl)) (mvT hZ (own_w hw 119 rfl)) (by decide) (backOf (W := 0) (rmA12 l Z a0 hw [] ((0 : Int32)) ((2 : Int32)) ((2 : Int32))  zr zm ps ng zk h82 n0 o85 G0   (by decide) (by decide) (by decide)) hZ (own_w hw 119 rfl) (own_w hw 118 rfl) (by decide) (by decide)) (g := (mkF m 107 #[oa ob0, oi p1, oi ni, oi nb, oi (2 : Int32), oa b78, oi (1 : Int32), .val (.int ((32 : Int32) - nb)), oi hbt, oi (1 : Int32)] [(.int (2 : Int32)), (.int (2 : Int32)), (.int (0 : Int32))])) rfl (by rw [hml]; rfl) (argsL := [(.int (0 : Int32)), (.int (2 : Int32)), (.int (2 : Int32))]) (rest := []) (lenOf own_pd6 rfl) rfl (own_W0 rfl) (hb hby d15_107) (fun _ _ => ⟨rfl, e82, (by decide : 1 + 0 ≤ _), (by decide : 5 + 0 ≤ _)⟩)
        dsimp only [Pt.U, Pt.locs, Pt.cells, Pt.slots] at X86 l86 y86 z86 st86 hQ86
        subst l86 y86 z86
        obtain ⟨rfl, Nq86, e86⟩ := hQ86
        have N86 := Fr.app N82 Nq86
        obtain ⟨c87, Ar87, cq87, S87, Nn87, Hh87, Gg87⟩ := id V82a
        obtain ⟨_, _, ⟨T88, L88, k88, n88⟩, -, X88, ⟨Lc88, hQ88, l88, y88, z88⟩, st88⟩ := Jvm.LawKit.callS X86 hx (y := own_y12) hown (mvT hZ (own_w hw 116 rfl)) (mvT hZ (own_w hw 117 rfl)) (mvT hZ (own_w hw 118 rfl)) (mvT hZ (own_w hw 119 rfl)) (by decide) (backOf (W := 0) (rmA12 l Z a0 hw [] ((1 : Int32)) ((3 : Int32)) ((((2 : Int32) + ni) + (1 : Int32)))  zr zm ps ng zk h82 n0 o85 G0   (by decide) (by decide) (by rcases hni with hni | hni <;> rw [hni] <;> decide)) hZ (own_w hw 119 rfl) (own_w hw 118 rfl) (by decide) (by decide)) (g := (mkF m 123 #[oa ob0, oi p1, oi ni, oi nb, oi (2 : Int32), oa b78, oi (1 : Int32), .val (.int ((32 : Int32) - nb)), oi hbt, oi (1 : Int32)] [(.int (((2 : Int32) + ni) + (1 : Int32))), (.int (3 : Int32)), (.int (1 : Int32))])) rfl (by rw [hml]; rfl) (argsL := [(.int (1 : Int32)), (.int (3 : Int32)), (.int (((2 : Int32) + ni) + (1 : Int32)))]) (rest := []) (lenOf own_pd6 rfl) rfl (own_W0 rfl) (hb hby d15_123) (fun _ _ => ⟨rfl, e86, (by decide : 1 + 0 ≤ _), (by decide : 5 + 0 ≤ _)⟩)
        dsimp only [Pt.U, Pt.locs, Pt.cells, Pt.slots] at X88 l88 y88 z88 st88 hQ88
        subst l88 y88 z88
        obtain ⟨rfl, Nq88, e88⟩ := hQ88
        have N88 := Fr.app N86 Nq88
        obtain ⟨LL89, XL89, NL89⟩ : ∃ LL : List Loc, Stand p l e ({ frames := 2, cells := 1, slots := 5, locals := 51 } : Room) s m #[(.ref ob0), (.int p1)] below meth c T88 LL 1 5 ∧ Fr n0 LL := ⟨_, X88, N88⟩
        obtain ⟨_, _, ⟨T90, L90, k90, n90⟩, -, X90, ⟨Lc90, hQ90, l90, y90, z90⟩, st90⟩ := Jvm.LawKit.callS XL89 hx (y := own_y14) hown (mvT hZ (own_w hw 124 rfl)) (mvT hZ (own_w hw 125 rfl)) (mvT hZ (own_w hw 52 rfl)) (mvT hZ (own_w hw 126 rfl)) (by decide) (backOf (W := 0) (rmA17 l Z a0 hw [] b78 k78 ((((2 : Int32) + ni) + (1 : Int32))) vl82 ob0 k_ob0 (x0) (x1) (nb)  zr zm ps ng zk h82 n0 o85 G0 V82a f83 gz_b78 ne_ob0_b78 hl82 (by rcases hni with hni | hni <;> rw [hni] <;> decide)) hZ (own_w hw 126 rfl) (own_w hw 52 rfl) (by decide) (by decide)) (g := (mkF m 135 #[oa ob0, oi p1, oi ni, oi nb, oi (2 : Int32), oa b78, oi (1 : Int32), .val (.int ((32 : Int32) - nb)), oi hbt, oi (1 : Int32)] [(.int (1 : Int32)), (.int nb), (.int (1 : Int32)), (.ref ob0), (.ref b78)])) rfl (by rw [hml]; rfl) (argsL := [(.ref b78), (.ref ob0), (.int (1 : Int32)), (.int nb), (.int (1 : Int32))]) (rest := []) (lenOf own_pd7 rfl) rfl (own_W0 rfl) (hb hby d15_135) (fun _ _ => ⟨rfl, e88, (by decide : 1 + 0 ≤ _), (by decide : 5 + 0 ≤ _)⟩)
        dsimp only [Pt.U, Pt.locs, Pt.cells, Pt.slots] at X90 l90 y90 z90 st90 hQ90
        subst l90 y90 z90
        obtain ⟨rfl, Nq90, K90, rl90, Va90, hl90⟩ := hQ90
        have N90 := Fr.app NL89 Nq90
        have f91 := (f83.keep K90 (ninS ne_ob0_b78 nin0))
        obtain ⟨c92, Ar92, cq92, S92, Nn92, Hh92, Gg92⟩ := id f91
        have hin92 : ¬ ((1 : Int32) < 0 ∨ c92.slots.size ≤ ((1 : Int32)).toNatClampNeg) := inb_of S92 ⟨by decide, by decide⟩
        have hat92 : c92.slots[((1 : Int32)).toNatClampNeg]? = some (.int x1) := Has.at Hh92 hin92 rfl
        obtain ⟨c93, Ar93, cq93, S93, Nn93, Hh93, Gg93⟩ := id Va90
        have hin93 : ¬ ((2 : Int32) < 0 ∨ c93.slots.size ≤ ((2 : Int32)).toNatClampNeg) := inb_of S93 (by rcases hni with hni | hni <;> rw [hni] <;> decide)
        obtain ⟨T94, h94, X94, e94, W94, st94⟩ := stI X90 hx hZ rfl Ar93 (j := (2 : Int32)) hin93 (g := (mkF m 151 #[oa ob0, oi p1, oi ni, oi nb, oi (2 : Int32), oa b78, oi (1 : Int32), .val (.int ((32 : Int32) - nb)), oi hbt, oi (1 : Int32)] [(.int (x1 <<< (nb &&& 31))), (.int (2 : Int32)), (.ref b78)])) rfl rfl (hb hby d15_151)
        obtain ⟨vl94, V94a, hl94⟩ : ∃ q : List Value, Arv Z h94 b78 k78 .int (((2 : Int32) + ni) + (1 : Int32)) q (.int (0 : Int32)) ∧ ((((2 : Int32) + ni) + (1 : Int32))).toNatClampNeg ≤ q.length := ⟨_, Arv.set Ar93 cq93 S93 Nn93 Hh93 Gg93 rfl W94 _ rfl (own_inl hin93 S93 hl90), by rw [List.length_set]; exact hl90⟩
        have N94 := Fr.snoc X94 N90 gz_b78
        have g95 : ∀ t, FS p e below T94 m 154 #[oa ob0, oi p1, oi ni, oi nb, oi (2 : Int32), oa b78, oi (1 : Int32), .val (.int ((32 : Int32) - nb)), oi hbt, oi (1 : Int32)] [(.ref b78)] t → ES p e below s₁ m #[(.ref ob0), (.int p1)] 10 t := by
          intro t k
          refine g79 t ?_
          show FS p e below T78 m 71 #[oa ob0, oi p1, oi ni, oi nb, oi (2 : Int32), .val .null, oi (0 : Int32), .val (.int ((32 : Int32) - nb)), oi hbt, vU] [(.ref b78)] _
          refine XS.astore X78.here hx rfl (hb hby d15_71) rfl rfl (l' := #[oa ob0, oi p1, oi ni, oi nb, oi (2 : Int32), oa b78, oi (0 : Int32), .val (.int ((32 : Int32) - nb)), oi hbt, vU]) rfl ?_
          refine XS.aload X78.here hx rfl (hb hby d15_73) rfl rfl ?_
          refine XS.iload X78.here hx rfl (hb hby d15_75) rfl ?_
          show FS p e below T78 m 77 #[oa ob0, oi p1, oi ni, oi nb, oi (2 : Int32), oa b78, oi (0 : Int32), .val (.int ((32 : Int32) - nb)), oi hbt, vU] [(.int (0 : Int32)), (.ref b78)] _
          refine XS.iinc X78.here hx rfl (hb hby d15_77) rfl (l' := #[oa ob0, oi p1, oi ni, oi nb, oi (2 : Int32), oa b78, .val (.int ((0 : Int32) + (1 : Int32))), .val (.int ((32 : Int32) - nb)), oi hbt, vU]) rfl ?_
          rw [show ((0 : Int32) + (1 : Int32)) = (1 : Int32) from by decide]
          refine XS.iload X78.here hx rfl (hb hby d15_80) rfl ?_
          refine st82 _ ?_
          refine XS.goto X82.here hx rfl (pc0 := 83) (pc' := 94) rfl (hb hby d15_83) (by decide) (by decide) ?_
          refine XS.iload X82.here hx rfl (hb hby d15_94) rfl ?_
          refine XS.iconst X82.here hx rfl (hb hby d15_96) ?_
          show FS p e below T82 m 97 #[oa ob0, oi p1, oi ni, oi nb, oi (2 : Int32), oa b78, oi (1 : Int32), .val (.int ((32 : Int32) - nb)), oi hbt, vU] [(.int (1 : Int32)), (.int (2 : Int32))] _
          refine XS.isub X82.here hx rfl (hb hby d15_97) rfl ?_
          rw [show ((2 : Int32) - (1 : Int32)) = (1 : Int32) from by decide]
          refine XS.istore X82.here hx rfl (hb hby d15_98) rfl (l' := #[oa ob0, oi p1, oi ni, oi nb, oi (2 : Int32), oa b78, oi (1 : Int32), .val (.int ((32 : Int32) - nb)), oi hbt, oi (1 : Int32)]) rfl ?_
          refine XS.iconst X82.here hx rfl (hb hby d15_100) ?_
          refine XS.iload X82.here hx rfl (hb hby d15_101) rfl ?_
          refine XS.iconst X82.here hx rfl (hb hby d15_103) ?_
          show FS p e below T82 m 104 #[oa ob0, oi p1, oi ni, oi nb, oi (2 : Int32), oa b78, oi (1 : Int32), .val (.int ((32 : Int32) - nb)), oi hbt, oi (1 : Int32)] [(.int (1 : Int32)), (.int (1 : Int32)), (.int (0 : Int32))] _
          refine XS.iadd X82.here hx rfl (hb hby d15_104) rfl ?_
          rw [show ((1 : Int32) + (1 : Int32)) = (2 : Int32) from by decide]
          refine XS.aloadN X82.here hx rfl (hb hby d15_105) rfl rfl ?_
          show FS p e below T82 m 106 #[oa ob0, oi p1, oi ni, oi nb, oi (2 : Int32), oa b78, oi (1 : Int32), .val (.int ((32 : Int32) - nb)), oi hbt, oi (1 : Int32)] [(.ref ob0), (.int (2 : Int32)), (.int (0 : Int32))] _
          refine X82.arraylength hx (by rw [e82]; exact Ar84.1) (State.isArrayOf_alike hZ.alike Ar84.2.1) (g := (mkF m 106 #[oa ob0, oi p1, oi ni, oi nb, oi (2 : Int32), oa b78, oi (1 : Int32), .val (.int ((32 : Int32) - nb)), oi hbt, oi (1 : Int32)] [(.ref ob0), (.int (2 : Int32)), (.int (0 : Int32))])) rfl rfl (hb hby d15_106) _ ?_
          rw [len_of S84 Nn84]
          refine st86 _ ?_
          refine XS.pop X86.here hx rfl (hb hby d15_110) rfl rfl ?_
          refine XS.iload X86.here hx rfl (hb hby d15_111) rfl ?_
          refine XS.iload X86.here hx rfl (hb hby d15_113) rfl ?_
          refine XS.iload X86.here hx rfl (hb hby d15_115) rfl ?_
          show FS p e below T86 m 117 #[oa ob0, oi p1, oi ni, oi nb, oi (2 : Int32), oa b78, oi (1 : Int32), .val (.int ((32 : Int32) - nb)), oi hbt, oi (1 : Int32)] [(.int (1 : Int32)), (.int (1 : Int32)), (.int (1 : Int32))] _
          refine XS.iadd X86.here hx rfl (hb hby d15_117) rfl ?_
          rw [show ((1 : Int32) + (1 : Int32)) = (2 : Int32) from by decide]
          refine XS.iconst X86.here hx rfl (hb hby d15_118) ?_
          show FS p e below T86 m 119 #[oa ob0, oi p1, oi ni, oi nb, oi (2 : Int32), oa b78, oi (1 : Int32), .val (.int ((32 : Int32) - nb)), oi hbt, oi (1 : Int32)] [(.int (1 : Int32)), (.int (2 : Int32)), (.int (1 : Int32))] _
          refine XS.iadd X86.here hx rfl (hb hby d15_119) rfl ?_
          rw [show ((2 : Int32) + (1 : Int32)) = (3 : Int32) from by decide]
          refine XS.aload X86.here hx rfl (hb hby d15_120) rfl rfl ?_
          show FS p e below T86 m 122 #[oa ob0, oi p1, oi ni, oi nb, oi (2 : Int32), oa b78, oi (1 : Int32), .val (.int ((32 : Int32) - nb)), oi hbt, oi (1 : Int32)] [(.ref b78), (.int (3 : Int32)), (.int (1 : Int32))] _
          refine X86.arraylength hx (by rw [e86]; exact Ar87.1) (State.isArrayOf_alike hZ.alike Ar87.2.1) (g := (mkF m 122 #[oa ob0, oi p1, oi ni, oi nb, oi (2 : Int32), oa b78, oi (1 : Int32), .val (.int ((32 : Int32) - nb)), oi hbt, oi (1 : Int32)] [(.ref b78), (.int (3 : Int32)), (.int (1 : Int32))])) rfl rfl (hb hby d15_122) _ ?_
          rw [len_of S87 Nn87]
          refine st88 _ ?_
          refine XS.pop X88.here hx rfl (hb hby d15_126) rfl rfl ?_
          refine XS.aload X88.here hx rfl (hb hby d15_127) rfl rfl ?_
          refine XS.aloadN X88.here hx rfl (hb hby d15_129) rfl rfl ?_
          refine XS.iload X88.here hx rfl (hb hby d15_130) rfl ?_
          show FS p e below T88 m 132 #[oa ob0, oi p1, oi ni, oi nb, oi (2 : Int32), oa b78, oi (1 : Int32), .val (.int ((32 : Int32) - nb)), oi hbt, oi (1 : Int32)] [(.int (1 : Int32)), (.ref ob0), (.ref b78)] _
          refine XS.iloadN X88.here hx rfl (hb hby d15_132) rfl ?_
          refine XS.iload X88.here hx rfl (hb hby d15_133) rfl ?_
          refine st90 _ ?_
          refine XS.aload X90.here hx rfl (hb hby d15_138) rfl rfl ?_
          refine XS.iload X90.here hx rfl (hb hby d15_140) rfl ?_
          refine XS.iload X90.here hx rfl (hb hby d15_142) rfl ?_
          show FS p e below T90 m 144 #[oa ob0, oi p1, oi ni, oi nb, oi (2 : Int32), oa b78, oi (1 : Int32), .val (.int ((32 : Int32) - nb)), oi hbt, oi (1 : Int32)] [(.int (1 : Int32)), (.int (1 : Int32)), (.ref b78)] _
          refine XS.iadd X90.here hx rfl (hb hby d15_144) rfl ?_
          rw [show ((1 : Int32) + (1 : Int32)) = (2 : Int32) from by decide]
          refine XS.aloadN X90.here hx rfl (hb hby d15_145) rfl rfl ?_
          refine XS.iload X90.here hx rfl (hb hby d15_146) rfl ?_
          refine X90.iaload hx (j := (1 : Int32)) (v := (.int x1)) Ar92.1 (State.isArrayOf_alike hZ.alike Ar92.2.1) Ar92.2.2 hin92 hat92 (g := (mkF m 148 #[oa ob0, oi p1, oi ni, oi nb, oi (2 : Int32), oa b78, oi (1 : Int32), .val (.int ((32 : Int32) - nb)), oi hbt, oi (1 : Int32)] [(.int (1 : Int32)), (.ref ob0), (.int (2 : Int32)), (.ref b78)])) rfl rfl (hb hby d15_148) _ ?_
          refine XS.iloadN X90.here hx rfl (hb hby d15_149) rfl ?_
          refine XS.ishl X90.here hx rfl (hb hby d15_150) rfl ?_
          refine st94 _ ?_
          refine XS.aload X94.here hx rfl (hb hby d15_152) rfl rfl ?_
          exact k
        obtain ⟨fs, hrt, hrun, hended, hW, hsame⟩ := X94.leave (v := some (.ref b78)) (fun h => by rw [Bd.returns] at h; cases h)
        refine ⟨_, _, g95 _ ?_, hrun, hended, _, _, rfl, ?_, ⟨_, rfl⟩, hW, hsame.mono (by decide) (by decide)⟩
        · show Steps p.tables e below (T94.setTop (mkF m 154 #[oa ob0, oi p1, oi ni, oi nb, oi (2 : Int32), oa b78, oi (1 : Int32), .val (.int ((32 : Int32) - nb)), oi hbt, oi (1 : Int32)] [(.ref b78)])) _
          jvm_step X94.here [X94.here.top, hx, (hb hby d15_154), X94.method', Bd.returns, Value.isRef, FieldType.isReference]
          first | (intro acts; rw [hrt _ acts rfl rfl rfl]) | rw [hrt _ _ rfl rfl rfl]
          exact Steps.refl _
        · show own_Q_rmA11 Z ob0 k_ob0 ob0_z ob0_l p1 zr zm ps ng zk h0 n0 _ T94.heap _
          rw [e94]
          exact ⟨b78, _, _, _, rfl, N94, (Keep.wr (Keep.trans (Keep.wr (Keep.ext (Keep.refl h0 []) E78) W82 (Or.inr sz_b78)) K90 (allS (Or.inr sz_b78) all0)) W94 (Or.inr sz_b78)), sz_b78, V94a, (by rcases hni with hni | hni <;> rw [hni] <;> decide)⟩
theorem own_pd8 : parseMethodDescriptor "([II)[I" = some ⟨[(.array .int), .int], some (.array .int)⟩ := by decide +kernel
theorem d12_20 : decode q12 20 = .ok (.iload_n 2, 1) := by decide +kernel
theorem d12_21 : decode q12 21 = .ok (.invokespecial 175, 3) := by decide +kernel
abbrev own_y15 : MethodName := ⟨"java/math/BigInteger", "<init>", "([II)V"⟩
theorem own_ef19 (m : MethodId) (x0 : Addr) (x1 : Addr) (x2 : Int32) : entryFrame m #[(.ref x0), (.ref x1), (.int x2)] 3 = mkF m 0 #[oa x0, oa x1, oi x2] [] := by first | (simp [entryFrame, mkF, argsToLocals, Value.category]; done) | rfl
theorem d19_0 : decode q19 0 = .ok (.aload_n 0, 1) := by decide +kernel
theorem d19_1 : decode q19 1 = .ok (.invokespecial 3, 3) := by decide +kernel
theorem d19_4 : decode q19 4 = .ok (.aload_n 0, 1) := by decide +kernel
theorem d19_5 : decode q19 5 = .ok (.aload_n 1, 1) := by decide +kernel
theorem d19_6 : decode q19 6 = .ok (.arraylength, 1) := by decide +kernel
theorem d19_7 : decode q19 7 = .ok (.ifCond .ne 7, 3) := by decide +kernel
theorem d19_14 : decode q19 14 = .ok (.iload_n 2, 1) := by decide +kernel
theorem d19_15 : decode q19 15 = .ok (.putfield 32, 3) := by decide +kernel
theorem d19_18 : decode q19 18 = .ok (.aload_n 0, 1) := by decide +kernel
theorem d19_19 : decode q19 19 = .ok (.aload_n 1, 1) := by decide +kernel
theorem d19_20 : decode q19 20 = .ok (.putfield 28, 3) := by decide +kernel
theorem d19_23 : decode q19 23 = .ok (.aload_n 0, 1) := by decide +kernel
theorem d19_24 : decode q19 24 = .ok (.getfield 28, 3) := by decide +kernel
theorem d19_27 : decode q19 27 = .ok (.arraylength, 1) := by decide +kernel
theorem d19_28 : decode q19 28 = .ok (.ldc 43, 2) := by decide +kernel
theorem d19_30 : decode q19 30 = .ok (.if_icmp .lt 7, 3) := by decide +kernel
theorem d19_37 : decode q19 37 = .ok (.return_, 1) := by decide +kernel
def own_Q_rmA18 (Z : State) (ob0 : Addr) (ob1 : Addr) (k_ob1 : ClassId) (ob1_z : Int32) (ob1_l : List Value) (p2 : Int32)  (zr zm ps ng : Addr) (zk : ClassId) (h0 : Heap) (n0 : Nat) (v : Option Value) (h : Heap) (L : List Loc) : Prop := v = none ∧ Fr n0 L ∧ Keep h0 h [ob0] ∧ Exa Z h ob0 "java/math/BigInteger" ∧ Fld Z h ob0 "java/math/BigInteger" "signum" "I" (.int p2) ∧ Fld Z h ob0 "java/math/BigInteger" "mag" "[I" (.ref ob1)
theorem rmA18 (l : Launch) (Z : State) (a0 : Array Value) (hw : ∀ d ∈ tables_1, d.before a0 Z = true) (ws : List Jvm.Cond) (ob0 : Addr) (ob1 : Addr) (k_ob1 : ClassId) (ob1_z : Int32) (ob1_l : List Value) (p2 : Int32)  (zr zm ps ng : Addr) (zk : ClassId) (h0 : Heap) (n0 : Nat) (O0 : Old Z n0 h0) (G : own_Gl Z zr zm ps ng zk) (E_ob0 : Exa Z h0 ob0 "java/math/BigInteger") (F_ob0_mag : Fld Z h0 ob0 "java/math/BigInteger" "mag" "[I" .null) (F_ob0_signum : Fld Z h0 ob0 "java/math/BigInteger" "signum" "I" (.int (0 : Int32))) (V_ob1 : Arv Z h0 ob1 k_ob1 .int ob1_z ob1_l (.int (0 : Int32))) (gz_ob0 : n0 ≤ ob0) (hz0 : ¬ (ob1_z = (0 : Int32))) (hz2 : ob1_z < (67108864 : Int32)) :
    MetFree l own_y15 (head1 (Jvm.Cond.code own_y15 jdk_2097_method_25_code 3 none :: ws) ({ frames := 2, cells := 0, slots := 0, locals := 24 } : Room)) (fun a U => a = #[(.ref ob0), (.ref ob1), (.int p2)] ∧ Z.Warmed39 U.vm ∧ U.heap = h0) (fun _ _ _ _ _ => True) (fun _ U o U' => ∃ v L, o = .returned v ∧ own_Q_rmA18 Z ob0 ob1 k_ob1 ob1_z ob1_l p2 zr zm ps ng zk h0 n0 v U'.heap L ∧ FrameEnd U o U' L ({ frames := 2, cells := 0, slots := 0, locals := 24 } : Room).cells ({ frames := 2, cells := 0, slots := 0, locals := 24 } : Room).slots) := by
  refine MetFree.of_bodySF (plainFor_of_name own_pn1) hisR ?_
  intro p e s m args below meth c s₁ Bd hml0 hP hK
  obtain ⟨rfl, hZ, hh⟩ := hP
  have hx := Bd.exec
  have hby := Bd.bytes
  have hml : c.maxLocals = 3 := hml0
  have hown : s.vm.findClass "java/math/BigInteger" = some m.cls := findClass_of_methodNamed Bd.named
  have hnm := (name_of_methodNamed Bd.named Bd.method).1
  have X0 : Stand p l e ({ frames := 2, cells := 0, slots := 0, locals := 24 } : Room) s m #[(.ref ob0), (.ref ob1), (.int p2)] below meth c s₁ [] 0 0 := Stand.of_body Bd
  have e0 : s₁.heap = h0 := by rw [← hh, Bd.state]; rfl
  have N0 := Fr.nil n0
  have Z0 : n0 ≤ h0.size := O0.1 ▸ O0.2.1
  have g0 : ∀ t, FS p e below s₁ m 0 #[oa ob0, oa ob1, oi p2] [] t → ES p e below s₁ m #[(.ref ob0), (.ref ob1), (.int p2)] 3 t := fun t k => castTop (own_ef19 m (ob0) (ob1) (p2)) k
  have G0 := G
  obtain ⟨S_Z, E_Z, F_Zs, F_Zm, V_Z, S_P, P_P, S_N, P_N⟩ := G
  obtain ⟨_, _, ⟨T1, L1, k1, n1⟩, -, X1, ⟨Lc1, hQ1, l1, y1, z1⟩, st1⟩ := X0.specialBack hx (y := own_y5) rfl hown (mvT hZ (own_w hw 77 rfl)) (mvT hZ (own_w hw 78 rfl)) (mvT hZ (own_w hw 82 rfl)) (by decide) (backOf (W := 0) (rmA5 l Z a0 hw [] ob0  zr zm ps ng zk h0 n0 O0 G0   ) hZ (own_w hw 82 rfl) (own_w hw 81 rfl) (by decide) (by decide)) (g := (mkF m 1 #[oa ob0, oa ob1, oi p2] [(.ref ob0)])) rfl (by rw [hml]; rfl) (Steps.refl _) (a := ob0) (argsL := []) (rest := []) (lenOf own_pd0 rfl) rfl (own_W0 rfl) (hb hby d19_1) (fun _ _ => ⟨rfl, e0, (by decide : 0 + 0 ≤ _), (by decide : 0 + 0 ≤ _)⟩)
  dsimp only [Pt.U, Pt.locs, Pt.cells, Pt.slots] at X1 l1 y1 z1 st1 hQ1
  subst l1 y1 z1
  obtain ⟨rfl, Nq1, e1⟩ := hQ1
  have N1 := Fr.app N0 Nq1
  obtain ⟨c2, Ar2, cq2, S2, Nn2, Hh2, Gg2⟩ := id V_ob1
  have hc3 : ¬ (ob1_z = (0 : Int32)) := hz0
  obtain ⟨T4, h4, X4, e4, W4, st4⟩ := putF X1 hx hZ hown (host := "") (Or.inl (own_w hw 84 rfl)) Via.refl e1 F_ob0_signum E_ob0 (Or.inr ⟨(own_w hw 85 rfl), rfl, hnm⟩) (own_w hw 72 rfl) (ty := .int) (by decide) rfl rfl (g := (mkF m 15 #[oa ob0, oa ob1, oi p2] [(.int p2), (.ref ob0)])) rfl rfl (hb hby d19_15)
  have Fw4 := F_ob0_signum.same W4
  have N4 := Fr.snoc X4 N1 gz_ob0
  have f5 := (E_ob0.wr W4)
  have f6 := (F_ob0_mag.other W4 (Or.inr (slot_ne (own_la2 hw) (own_la3 hw) (by decide) own_ty2 own_ty3)))
  obtain ⟨T7, h7, X7, e7, W7, st7⟩ := putF X4 hx hZ hown (host := "") (Or.inl (own_w hw 87 rfl)) Via.refl e4 f6 f5 (Or.inr ⟨(own_w hw 88 rfl), rfl, hnm⟩) (own_w hw 72 rfl) (ty := (.array .int)) (by decide) rfl rfl (g := (mkF m 20 #[oa ob0, oa ob1, oi p2] [(.ref ob1), (.ref ob0)])) rfl rfl (hb hby d19_20)
  have Fw7 := f6.same W7
  have N7 := Fr.snoc X7 N4 gz_ob0
  obtain ⟨T8, X8, e8, st8⟩ := getF X7 hx hZ hown (host := "") (Or.inl (own_w hw 87 rfl)) Via.refl e7 Fw7 (g := (mkF m 24 #[oa ob0, oa ob1, oi p2] [(.ref ob0)])) rfl rfl (hb hby d19_24)
  have f9 := ((V_ob1.other W4 (Ne.symm (Exa.neArv E_ob0 V_ob1 (own_w hw 72 rfl)))).other W7 (Ne.symm (Exa.neArv f5 (V_ob1.other W4 (Ne.symm (Exa.neArv E_ob0 V_ob1 (own_w hw 72 rfl)))) (own_w hw 72 rfl))))
  obtain ⟨c10, Ar10, cq10, S10, Nn10, Hh10, Gg10⟩ := id f9
  have hc11 : ob1_z < (67108864 : Int32) := hz2
  have g12 : ∀ t, FS p e below T8 m 37 #[oa ob0, oa ob1, oi p2] [] t → ES p e below s₁ m #[(.ref ob0), (.ref ob1), (.int p2)] 3 t := by
    intro t k
    refine g0 t ?_
    show FS p e below s₁ m 0 #[oa ob0, oa ob1, oi p2] [] _
    refine XS.aloadN X0.here hx rfl (hb hby d19_0) rfl rfl ?_
    refine st1.trans ?_
    refine XS.aloadN X1.here hx rfl (hb hby d19_4) rfl rfl ?_
    refine XS.aloadN X1.here hx rfl (hb hby d19_5) rfl rfl ?_
    show FS p e below T1 m 6 #[oa ob0, oa ob1, oi p2] [(.ref ob1), (.ref ob0)] _
    refine X1.arraylength hx (by rw [e1]; exact Ar2.1) (State.isArrayOf_alike hZ.alike Ar2.2.1) (g := (mkF m 6 #[oa ob0, oa ob1, oi p2] [(.ref ob1), (.ref ob0)])) rfl rfl (hb hby d19_6) _ ?_
    rw [len_of S2 Nn2]
    refine XS.ifYes X1.here hx rfl (pc0 := 7) (pc' := 14) rfl (hb hby d19_7) rfl ((if0 _ _).trans (feq hc3).2) (by decide) (by decide) ?_
    refine XS.iloadN X1.here hx rfl (hb hby d19_14) rfl ?_
    refine st4 _ ?_
    refine XS.aloadN X4.here hx rfl (hb hby d19_18) rfl rfl ?_
    refine XS.aloadN X4.here hx rfl (hb hby d19_19) rfl rfl ?_
    refine st7 _ ?_
    refine XS.aloadN X7.here hx rfl (hb hby d19_23) rfl rfl ?_
    refine st8 _ ?_
    show FS p e below T8 m 27 #[oa ob0, oa ob1, oi p2] [(.ref ob1)] _
    refine X8.arraylength hx (by rw [e8]; exact Ar10.1) (State.isArrayOf_alike hZ.alike Ar10.2.1) (g := (mkF m 27 #[oa ob0, oa ob1, oi p2] [(.ref ob1)])) rfl rfl (hb hby d19_27) _ ?_
    rw [len_of S10 Nn10]
    refine X8.ldcInt hx hown (mvT hZ (own_w hw 130 rfl)) (g := (mkF m 28 #[oa ob0, oa ob1, oi p2] [(.int ob1_z)])) rfl (hb hby d19_28) _ ?_
    refine XS.icmpYes X8.here hx rfl (pc0 := 30) (pc' := 37) rfl (hb hby d19_30) rfl (tlt hc11).1 (by decide) (by decide) ?_
    exact k
  obtain ⟨fs, hrt, hrun, hended, hW, hsame⟩ := X8.leave (v := none) (fun _ => rfl)
  have f13 := (f5.wr W7)
  have f14 := (Fw4.other W7 (Or.inr (slot_ne (own_la3 hw) (own_la2 hw) (by decide) own_ty3 own_ty2)))
  refine ⟨_, _, g12 _ ?_, hrun, hended, _, _, rfl, ?_, ⟨_, rfl⟩, hW, hsame.mono (by decide) (by decide)⟩
  · show Steps p.tables e below (T8.setTop (mkF m 37 #[oa ob0, oa ob1, oi p2] [])) _
    exact X8.returnOut hx Bd.returns (hb hby d19_37) hrt
  · show own_Q_rmA18 Z ob0 ob1 k_ob1 ob1_z ob1_l p2 zr zm ps ng zk h0 n0 _ T8.heap _
    rw [e8]
    exact ⟨rfl, N7, (Keep.wr (Keep.wr (Keep.refl h0 [ob0]) W4 (Or.inl (List.mem_of_getElem? (i := 0) rfl))) W7 (Or.inl (List.mem_of_getElem? (i := 0) rfl))), f13, f14, Fw7⟩
theorem own_pd9 : parseMethodDescriptor "([II)V" = some ⟨[(.array .int), .int], none⟩ := by decide +kernel
theorem d12_24 : decode q12 24 = .ok (.areturn, 1) := by decide +kernel
theorem d12_25 : decode q12 25 = .ok (.aload_n 0, 1) := by decide +kernel
theorem d12_26 : decode q12 26 = .ok (.arraylength, 1) := by decide +kernel
theorem d12_27 : decode q12 27 = .ok (.istore_n 3, 1) := by decide +kernel
theorem d12_28 : decode q12 28 = .ok (.iload_n 3, 1) := by decide +kernel
theorem d12_29 : decode q12 29 = .ok (.iconst 1, 1) := by decide +kernel
theorem d12_30 : decode q12 30 = .ok (.iadd, 1) := by decide +kernel
theorem d12_31 : decode q12 31 = .ok (.newarray .int, 2) := by decide +kernel
theorem d12_33 : decode q12 33 = .ok (.astore 4, 2) := by decide +kernel
theorem d12_35 : decode q12 35 = .ok (.lconst 0, 1) := by decide +kernel
theorem d12_36 : decode q12 36 = .ok (.lstore 5, 2) := by decide +kernel
theorem d12_38 : decode q12 38 = .ok (.iload_n 1, 1) := by decide +kernel
theorem d12_39 : decode q12 39 = .ok (.i2l, 1) := by decide +kernel
theorem d12_40 : decode q12 40 = .ok (.ldc2_w 130, 3) := by decide +kernel
theorem d12_43 : decode q12 43 = .ok (.land, 1) := by decide +kernel
theorem d12_44 : decode q12 44 = .ok (.lstore 7, 2) := by decide +kernel
theorem d12_46 : decode q12 46 = .ok (.aload 4, 2) := by decide +kernel
theorem d12_48 : decode q12 48 = .ok (.arraylength, 1) := by decide +kernel
theorem d12_49 : decode q12 49 = .ok (.iconst 1, 1) := by decide +kernel
theorem d12_50 : decode q12 50 = .ok (.isub, 1) := by decide +kernel
theorem d12_51 : decode q12 51 = .ok (.istore 9, 2) := by decide +kernel
theorem d12_53 : decode q12 53 = .ok (.iload_n 3, 1) := by decide +kernel
theorem d12_54 : decode q12 54 = .ok (.iconst 1, 1) := by decide +kernel
theorem d12_55 : decode q12 55 = .ok (.isub, 1) := by decide +kernel
theorem d12_56 : decode q12 56 = .ok (.istore 10, 2) := by decide +kernel
theorem d12_58 : decode q12 58 = .ok (.iload 10, 2) := by decide +kernel
theorem d12_60 : decode q12 60 = .ok (.ifCond .lt 44, 3) := by decide +kernel
theorem d12_63 : decode q12 63 = .ok (.aload_n 0, 1) := by decide +kernel
theorem d12_64 : decode q12 64 = .ok (.iload 10, 2) := by decide +kernel
theorem d12_66 : decode q12 66 = .ok (.iaload, 1) := by decide +kernel
theorem d12_67 : decode q12 67 = .ok (.i2l, 1) := by decide +kernel
theorem d12_68 : decode q12 68 = .ok (.ldc2_w 130, 3) := by decide +kernel
theorem d12_71 : decode q12 71 = .ok (.land, 1) := by decide +kernel
theorem d12_72 : decode q12 72 = .ok (.lload 7, 2) := by decide +kernel
theorem d12_74 : decode q12 74 = .ok (.lmul, 1) := by decide +kernel
theorem d12_75 : decode q12 75 = .ok (.lload 5, 2) := by decide +kernel
theorem d12_77 : decode q12 77 = .ok (.ladd, 1) := by decide +kernel
theorem d12_78 : decode q12 78 = .ok (.lstore 11, 2) := by decide +kernel
theorem d12_80 : decode q12 80 = .ok (.aload 4, 2) := by decide +kernel
theorem d12_82 : decode q12 82 = .ok (.iload 9, 2) := by decide +kernel
theorem d12_84 : decode q12 84 = .ok (.iinc 9 (-1), 3) := by decide +kernel
theorem d12_87 : decode q12 87 = .ok (.lload 11, 2) := by decide +kernel
theorem d12_89 : decode q12 89 = .ok (.l2i, 1) := by decide +kernel
theorem d12_90 : decode q12 90 = .ok (.iastore, 1) := by decide +kernel
theorem d12_91 : decode q12 91 = .ok (.lload 11, 2) := by decide +kernel
theorem d12_93 : decode q12 93 = .ok (.bipush 32, 2) := by decide +kernel
theorem d12_95 : decode q12 95 = .ok (.lushr, 1) := by decide +kernel
theorem d12_96 : decode q12 96 = .ok (.lstore 5, 2) := by decide +kernel
theorem d12_98 : decode q12 98 = .ok (.iinc 10 (-1), 3) := by decide +kernel
theorem d12_101 : decode q12 101 = .ok (.goto (-43), 3) := by decide +kernel
theorem d12_104 : decode q12 104 = .ok (.lload 5, 2) := by decide +kernel
theorem d12_106 : decode q12 106 = .ok (.lconst 0, 1) := by decide +kernel
theorem d12_107 : decode q12 107 = .ok (.lcmp, 1) := by decide +kernel
theorem d12_108 : decode q12 108 = .ok (.ifCond .ne 17, 3) := by decide +kernel
theorem d12_111 : decode q12 111 = .ok (.aload 4, 2) := by decide +kernel
theorem d12_113 : decode q12 113 = .ok (.iconst 1, 1) := by decide +kernel
theorem d12_114 : decode q12 114 = .ok (.aload 4, 2) := by decide +kernel
theorem d12_116 : decode q12 116 = .ok (.arraylength, 1) := by decide +kernel
theorem d12_117 : decode q12 117 = .ok (.invokestatic 433, 3) := by decide +kernel
abbrev own_y16 : MethodName := ⟨"java/util/Arrays", "copyOfRange", "([III)[I"⟩
theorem own_ef20 (m : MethodId) (x0 : Addr) (x1 : Int32) (x2 : Int32) : entryFrame m #[(.ref x0), (.int x1), (.int x2)] 3 = mkF m 0 #[oa x0, oi x1, oi x2] [] := by first | (simp [entryFrame, mkF, argsToLocals, Value.category]; done) | rfl
theorem own_pn6 : plainName "java/util/Arrays" = true := by first | (simp [plainName, overriddenIn]; done) | decide +kernel
theorem d24_0 : decode q24 0 = .ok (.iload_n 1, 1) := by decide +kernel
theorem d24_1 : decode q24 1 = .ok (.ifCond .ne 9, 3) := by decide +kernel
theorem d24_10 : decode q24 10 = .ok (.aload_n 0, 1) := by decide +kernel
theorem d24_11 : decode q24 11 = .ok (.iload_n 1, 1) := by decide +kernel
theorem d24_12 : decode q24 12 = .ok (.iload_n 2, 1) := by decide +kernel
theorem d24_13 : decode q24 13 = .ok (.invokestatic 351, 3) := by decide +kernel
abbrev own_y17 : MethodName := ⟨"java/util/Arrays", "copyOfRangeInt", "([III)[I"⟩
theorem own_ef21 (m : MethodId) (x0 : Addr) (x1 : Int32) (x2 : Int32) : entryFrame m #[(.ref x0), (.int x1), (.int x2)] 5 = mkF m 0 #[oa x0, oi x1, oi x2, vU, vU] [] := by first | (simp [entryFrame, mkF, argsToLocals, Value.category]; done) | rfl
theorem d25_0 : decode q25 0 = .ok (.iload_n 1, 1) := by decide +kernel
theorem d25_1 : decode q25 1 = .ok (.iload_n 2, 1) := by decide +kernel
theorem d25_2 : decode q25 2 = .ok (.invokestatic 343, 3) := by decide +kernel
abbrev own_y18 : MethodName := ⟨"java/util/Arrays", "checkLength", "(II)V"⟩
theorem own_ef22 (m : MethodId) (x0 : Int32) (x1 : Int32) : entryFrame m #[(.int x0), (.int x1)] 2 = mkF m 0 #[oi x0, oi x1] [] := by first | (simp [entryFrame, mkF, argsToLocals, Value.category]; done) | rfl
theorem d26_0 : decode q26 0 = .ok (.iload_n 1, 1) := by decide +kernel
theorem d26_1 : decode q26 1 = .ok (.iload_n 0, 1) := by decide +kernel
theorem d26_2 : decode q26 2 = .ok (.if_icmp .ge 35, 3) := by decide +kernel
theorem d26_37 : decode q26 37 = .ok (.return_, 1) := by decide +kernel
def own_Q_rmA21 (Z : State) (p0 : Int32) (p1 : Int32)  (zr zm ps ng : Addr) (zk : ClassId) (h0 : Heap) (n0 : Nat) (v : Option Value) (h : Heap) (L : List Loc) : Prop := v = none ∧ Fr n0 L ∧ h = h0
theorem rmA21 (l : Launch) (Z : State) (a0 : Array Value) (hw : ∀ d ∈ tables_1, d.before a0 Z = true) (ws : List Jvm.Cond) (p0 : Int32) (p1 : Int32)  (zr zm ps ng : Addr) (zk : ClassId) (h0 : Heap) (n0 : Nat) (O0 : Old Z n0 h0) (G : own_Gl Z zr zm ps ng zk) (hlt : ¬ (p1 < p0)) :
    MetFree l own_y18 (head1 (Jvm.Cond.code own_y18 jdk_65_method_131_code 2 none :: ws) ({ frames := 0, cells := 0, slots := 0, locals := 0 } : Room)) (fun a U => a = #[(.int p0), (.int p1)] ∧ Z.Warmed39 U.vm ∧ U.heap = h0) (fun _ _ _ _ _ => True) (fun _ U o U' => ∃ v L, o = .returned v ∧ own_Q_rmA21 Z p0 p1 zr zm ps ng zk h0 n0 v U'.heap L ∧ FrameEnd U o U' L ({ frames := 0, cells := 0, slots := 0, locals := 0 } : Room).cells ({ frames := 0, cells := 0, slots := 0, locals := 0 } : Room).slots) := by
  refine MetFree.of_bodySF (plainFor_of_name own_pn6) hisR ?_
  intro p e s m args below meth c s₁ Bd hml0 hP hK
  obtain ⟨rfl, hZ, hh⟩ := hP
  have hx := Bd.exec
  have hby := Bd.bytes
  have hml : c.maxLocals = 2 := hml0
  have hown : s.vm.findClass "java/util/Arrays" = some m.cls := findClass_of_methodNamed Bd.named
  have hnm := (name_of_methodNamed Bd.named Bd.method).1
  have X0 : Stand p l e ({ frames := 0, cells := 0, slots := 0, locals := 0 } : Room) s m #[(.int p0), (.int p1)] below meth c s₁ [] 0 0 := Stand.of_body Bd
  have e0 : s₁.heap = h0 := by rw [← hh, Bd.state]; rfl
  have N0 := Fr.nil n0
  have Z0 : n0 ≤ h0.size := O0.1 ▸ O0.2.1
  have g0 : ∀ t, FS p e below s₁ m 0 #[oi p0, oi p1] [] t → ES p e below s₁ m #[(.int p0), (.int p1)] 2 t := fun t k => castTop (own_ef22 m (p0) (p1)) k
  have G0 := G
  obtain ⟨S_Z, E_Z, F_Zs, F_Zm, V_Z, S_P, P_P, S_N, P_N⟩ := G
  have hc1 : ¬ (p1 < p0) := hlt
  have g2 : ∀ t, FS p e below s₁ m 37 #[oi p0, oi p1] [] t → ES p e below s₁ m #[(.int p0), (.int p1)] 2 t := by
    intro t k
    refine g0 t ?_
    show FS p e below s₁ m 0 #[oi p0, oi p1] [] _
    refine XS.iloadN X0.here hx rfl (hb hby d26_0) rfl ?_
    refine XS.iloadN X0.here hx rfl (hb hby d26_1) rfl ?_
    refine XS.icmpYes X0.here hx rfl (pc0 := 2) (pc' := 37) rfl (hb hby d26_2) rfl (flt hc1).2.1 (by decide) (by decide) ?_
    exact k
  obtain ⟨fs, hrt, hrun, hended, hW, hsame⟩ := X0.leave (v := none) (fun _ => rfl)
  refine ⟨_, _, g2 _ ?_, hrun, hended, _, _, rfl, ?_, ⟨_, rfl⟩, hW, hsame.mono (by decide) (by decide)⟩
  · show Steps p.tables e below (s₁.setTop (mkF m 37 #[oi p0, oi p1] [])) _
    exact X0.returnOut hx Bd.returns (hb hby d26_37) hrt
  · show own_Q_rmA21 Z p0 p1 zr zm ps ng zk h0 n0 _ s₁.heap _
    rw [e0]
    exact ⟨rfl, N0, rfl⟩
theorem own_pd10 : parseMethodDescriptor "(II)V" = some ⟨[.int, .int], none⟩ := by decide +kernel
theorem d25_5 : decode q25 5 = .ok (.iload_n 2, 1) := by decide +kernel
theorem d25_6 : decode q25 6 = .ok (.iload_n 1, 1) := by decide +kernel
theorem d25_7 : decode q25 7 = .ok (.isub, 1) := by decide +kernel
theorem d25_8 : decode q25 8 = .ok (.istore_n 3, 1) := by decide +kernel
theorem d25_9 : decode q25 9 = .ok (.iload_n 3, 1) := by decide +kernel
theorem d25_10 : decode q25 10 = .ok (.newarray .int, 2) := by decide +kernel
theorem d25_12 : decode q25 12 = .ok (.astore 4, 2) := by decide +kernel
theorem d25_14 : decode q25 14 = .ok (.aload_n 0, 1) := by decide +kernel
theorem d25_15 : decode q25 15 = .ok (.iload_n 1, 1) := by decide +kernel
theorem d25_16 : decode q25 16 = .ok (.aload 4, 2) := by decide +kernel
theorem d25_18 : decode q25 18 = .ok (.iconst 0, 1) := by decide +kernel
theorem d25_19 : decode q25 19 = .ok (.aload_n 0, 1) := by decide +kernel
theorem d25_20 : decode q25 20 = .ok (.arraylength, 1) := by decide +kernel
theorem d25_21 : decode q25 21 = .ok (.iload_n 1, 1) := by decide +kernel
theorem d25_22 : decode q25 22 = .ok (.isub, 1) := by decide +kernel
theorem d25_23 : decode q25 23 = .ok (.iload_n 3, 1) := by decide +kernel
theorem d25_24 : decode q25 24 = .ok (.invokestatic 304, 3) := by decide +kernel
abbrev own_y19 : MethodName := ⟨"java/lang/Math", "min", "(II)I"⟩
theorem d27_0 : decode q27 0 = .ok (.iload_n 0, 1) := by decide +kernel
theorem d27_1 : decode q27 1 = .ok (.iload_n 1, 1) := by decide +kernel
theorem d27_2 : decode q27 2 = .ok (.if_icmp .gt 7, 3) := by decide +kernel
theorem d27_5 : decode q27 5 = .ok (.iload_n 0, 1) := by decide +kernel
theorem d27_6 : decode q27 6 = .ok (.goto 4, 3) := by decide +kernel
theorem d27_10 : decode q27 10 = .ok (.ireturn, 1) := by decide +kernel
def own_Q_rmA22 (Z : State) (p0 : Int32)  (zr zm ps ng : Addr) (zk : ClassId) (h0 : Heap) (n0 : Nat) (v : Option Value) (h : Heap) (L : List Loc) : Prop := v = some (.int p0) ∧ Fr n0 L ∧ h = h0
theorem rmA22 (l : Launch) (Z : State) (a0 : Array Value) (hw : ∀ d ∈ tables_1, d.before a0 Z = true) (ws : List Jvm.Cond) (p0 : Int32)  (zr zm ps ng : Addr) (zk : ClassId) (h0 : Heap) (n0 : Nat) (O0 : Old Z n0 h0) (G : own_Gl Z zr zm ps ng zk) :
    MetFree l own_y19 (head1 (Jvm.Cond.code own_y19 jdk_29_method_69_code 2 (some .int) :: ws) ({ frames := 0, cells := 0, slots := 0, locals := 0 } : Room)) (fun a U => a = #[(.int p0), (.int p0)] ∧ Z.Warmed39 U.vm ∧ U.heap = h0) (fun _ _ _ _ _ => True) (fun _ U o U' => ∃ v L, o = .returned v ∧ own_Q_rmA22 Z p0 zr zm ps ng zk h0 n0 v U'.heap L ∧ FrameEnd U o U' L ({ frames := 0, cells := 0, slots := 0, locals := 0 } : Room).cells ({ frames := 0, cells := 0, slots := 0, locals := 0 } : Room).slots) := by
  refine MetFree.of_bodySF (Jvm.Free.JP.mathPlain rfl (by decide +kernel)) hisR ?_
  intro p e s m args below meth c s₁ Bd hml0 hP hK
  obtain ⟨rfl, hZ, hh⟩ := hP
  have hx := Bd.exec
  have hby := Bd.bytes
  have hml : c.maxLocals = 2 := hml0
  have hown : s.vm.findClass "java/lang/Math" = some m.cls := findClass_of_methodNamed Bd.named
  have hnm := (name_of_methodNamed Bd.named Bd.method).1
  have X0 : Stand p l e ({ frames := 0, cells := 0, slots := 0, locals := 0 } : Room) s m #[(.int p0), (.int p0)] below meth c s₁ [] 0 0 := Stand.of_body Bd
  have e0 : s₁.heap = h0 := by rw [← hh, Bd.state]; rfl
  have N0 := Fr.nil n0
  have Z0 : n0 ≤ h0.size := O0.1 ▸ O0.2.1
  have g0 : ∀ t, FS p e below s₁ m 0 #[oi p0, oi p0] [] t → ES p e below s₁ m #[(.int p0), (.int p0)] 2 t := fun t k => castTop (own_ef22 m (p0) (p0)) k
  have G0 := G
  obtain ⟨S_Z, E_Z, F_Zs, F_Zm, V_Z, S_P, P_P, S_N, P_N⟩ := G
  have hc1 : ¬ (p0 < p0) := own_irr _
  have g2 : ∀ t, FS p e below s₁ m 10 #[oi p0, oi p0] [(.int p0)] t → ES p e below s₁ m #[(.int p0), (.int p0)] 2 t := by
    intro t k
    refine g0 t ?_
    show FS p e below s₁ m 0 #[oi p0, oi p0] [] _
    refine XS.iloadN X0.here hx rfl (hb hby d27_0) rfl ?_
    refine XS.iloadN X0.here hx rfl (hb hby d27_1) rfl ?_
    refine XS.icmpNo X0.here hx rfl (hb hby d27_2) rfl (flt hc1).2.2.1 ?_
    refine XS.iloadN X0.here hx rfl (hb hby d27_5) rfl ?_
    refine XS.goto X0.here hx rfl (pc0 := 6) (pc' := 10) rfl (hb hby d27_6) (by decide) (by decide) ?_
    exact k
  obtain ⟨fs, hrt, hrun, hended, hW, hsame⟩ := X0.leave (v := some (.int p0)) (fun h => by rw [Bd.returns] at h; cases h)
  refine ⟨_, _, g2 _ ?_, hrun, hended, _, _, rfl, ?_, ⟨_, rfl⟩, hW, hsame.mono (by decide) (by decide)⟩
  · show Steps p.tables e below (s₁.setTop (mkF m 10 #[oi p0, oi p0] [(.int p0)])) _
    exact retI X0 hx Bd.returns (hb hby d27_10) hrt
  · show own_Q_rmA22 Z p0 zr zm ps ng zk h0 n0 _ s₁.heap _
    rw [e0]
    exact ⟨rfl, N0, rfl⟩
theorem own_pd11 : parseMethodDescriptor "(II)I" = some ⟨[.int, .int], some .int⟩ := by decide +kernel
theorem d25_27 : decode q25 27 = .ok (.invokestatic 150, 3) := by decide +kernel
theorem d25_30 : decode q25 30 = .ok (.aload 4, 2) := by decide +kernel
theorem d25_32 : decode q25 32 = .ok (.areturn, 1) := by decide +kernel
def own_Q_rmA20 (Z : State) (ob0 : Addr) (k_ob0 : ClassId) (ob0_z : Int32) (ob0_l : List Value) (p1 : Int32) (p2 : Int32) (nl : Int32) (zr zm ps ng : Addr) (zk : ClassId) (h0 : Heap) (n0 : Nat) (v : Option Value) (h : Heap) (L : List Loc) : Prop := ∃ (rb : Addr) (rk : ClassId) (rl : List Value), v = some (.ref rb) ∧ Fr n0 L ∧ Keep h0 h [] ∧ h0.size ≤ rb ∧ Arv Z h rb rk .int nl rl (.int (0 : Int32))
theorem rmA20 (l : Launch) (Z : State) (a0 : Array Value) (hw : ∀ d ∈ tables_1, d.before a0 Z = true) (ws : List Jvm.Cond) (ob0 : Addr) (k_ob0 : ClassId) (ob0_z : Int32) (ob0_l : List Value) (p1 : Int32) (p2 : Int32) (nl : Int32) (zr zm ps ng : Addr) (zk : ClassId) (h0 : Heap) (n0 : Nat) (O0 : Old Z n0 h0) (G : own_Gl Z zr zm ps ng zk) (V_ob0 : Arv Z h0 ob0 k_ob0 .int ob0_z ob0_l (.int (0 : Int32))) (hf : ¬ (p1 = (0 : Int32))) (hlt : ¬ (p2 < p1)) (hs1 : (p2 - p1) = nl) (hs2 : (ob0_z - p1) = nl) (hn0 : ¬ (nl < 0)) (hn4 : nl.toNatClampNeg ≤ 4) (hp0 : ¬ (p1 < 0)) (hcp : p1.toNatClampNeg + nl.toNatClampNeg ≤ ob0_z.toNatClampNeg) :
    MetFree l own_y17 (head1 (Jvm.Cond.code own_y17 jdk_65_method_137_code 5 (some (.array .int)) :: ws) ({ frames := 1, cells := 1, slots := 4, locals := 51 } : Room)) (fun a U => a = #[(.ref ob0), (.int p1), (.int p2)] ∧ Z.Warmed39 U.vm ∧ U.heap = h0) (fun _ _ _ _ _ => True) (fun _ U o U' => ∃ v L, o = .returned v ∧ own_Q_rmA20 Z ob0 k_ob0 ob0_z ob0_l p1 p2 nl zr zm ps ng zk h0 n0 v U'.heap L ∧ FrameEnd U o U' L ({ frames := 1, cells := 1, slots := 4, locals := 51 } : Room).cells ({ frames := 1, cells := 1, slots := 4, locals := 51 } : Room).slots) := by
  refine MetFree.of_bodySF (plainFor_of_name own_pn6) hisR ?_
  intro p e s m args below meth c s₁ Bd hml0 hP hK
  obtain ⟨rfl, hZ, hh⟩ := hP
  have hx := Bd.exec
  have hby := Bd.bytes
  have hml : c.maxLocals = 5 := hml0
  have hown : s.vm.findClass "java/util/Arrays" = some m.cls := findClass_of_methodNamed Bd.named
  have hnm := (name_of_methodNamed Bd.named Bd.method).1
  have X0 : Stand p l e ({ frames := 1, cells := 1, slots := 4, locals := 51 } : Room) s m #[(.ref ob0), (.int p1), (.int p2)] below meth c s₁ [] 0 0 := Stand.of_body Bd
  have e0 : s₁.heap = h0 := by rw [← hh, Bd.state]; rfl
  have N0 := Fr.nil n0
  have Z0 : n0 ≤ h0.size := O0.1 ▸ O0.2.1
  have g0 : ∀ t, FS p e below s₁ m 0 #[oa ob0, oi p1, oi p2, vU, vU] [] t → ES p e below s₁ m #[(.ref ob0), (.int p1), (.int p2)] 5 t := fun t k => castTop (own_ef21 m (ob0) (p1) (p2)) k
  have G0 := G
  obtain ⟨S_Z, E_Z, F_Zs, F_Zm, V_Z, S_P, P_P, S_N, P_N⟩ := G
  obtain ⟨_, _, ⟨T1, L1, k1, n1⟩, -, X1, ⟨Lc1, hQ1, l1, y1, z1⟩, st1⟩ := Jvm.LawKit.callS X0 hx (y := own_y18) hown (mvT hZ (own_w hw 161 rfl)) (mvT hZ (own_w hw 162 rfl)) (mvT hZ (own_w hw 156 rfl)) (mvT hZ (own_w hw 163 rfl)) (by decide) (backOf (W := 0) (rmA21 l Z a0 hw [] (p1) (p2)  zr zm ps ng zk h0 n0 O0 G0   hlt) hZ (own_w hw 163 rfl) (own_w hw 156 rfl) (by decide) (by decide)) (g := (mkF m 2 #[oa ob0, oi p1, oi p2, vU, vU] [(.int p2), (.int p1)])) rfl (by rw [hml]; rfl) (argsL := [(.int p1), (.int p2)]) (rest := []) (lenOf own_pd10 rfl) rfl (own_W0 rfl) (hb hby d25_2) (fun _ _ => ⟨rfl, e0, (by decide : 0 + 0 ≤ _), (by decide : 0 + 0 ≤ _)⟩)
  dsimp only [Pt.U, Pt.locs, Pt.cells, Pt.slots] at X1 l1 y1 z1 st1 hQ1
  subst l1 y1 z1
  obtain ⟨rfl, Nq1, e1⟩ := hQ1
  have N1 := Fr.app N0 Nq1
  obtain ⟨T2, h2, k2, X2, e2, E2, A2, st2⟩ := newP X1 hx hZ (own_w hw 86 rfl) e1 (g := (mkF m 10 #[oa ob0, oi p1, oi p2, oi nl, vU] [(.int nl)])) rfl (hb hby d25_10) rfl hn0 (cap := 4) hn4 (by decide) (by decide) (by decide)
  obtain ⟨b2, q_b2⟩ : ∃ z, z = h0.size := ⟨_, rfl⟩
  rw [← q_b2] at A2 st2
  have sz_b2 : h0.size ≤ b2 := Nat.le_of_eq q_b2.symm
  have gz_b2 : n0 ≤ b2 := Nat.le_trans Z0 sz_b2
  have ne_ob0_b2 : ob0 ≠ b2 := Nat.ne_of_lt (Nat.lt_of_lt_of_le V_ob0.lt (Nat.le_of_eq q_b2.symm))
  have V2 : Arv Z h2 b2 k2 .int nl [(.int (0 : Int32)), (.int (0 : Int32)), (.int (0 : Int32)), (.int (0 : Int32))] (.int (0 : Int32)) := (Arv.new A2 hn0).pad (pad_rep [] (.int (0 : Int32)) 4)
  have f3 := (V_ob0.ext E2)
  obtain ⟨c4, Ar4, cq4, S4, Nn4, Hh4, Gg4⟩ := id f3
  have o5 : Old Z n0 h2 := (Old.ext O0 E2)
  obtain ⟨_, _, ⟨T6, L6, k6, n6⟩, -, X6, ⟨Lc6, hQ6, l6, y6, z6⟩, st6⟩ := Jvm.LawKit.callS X2 hx (y := own_y19) hown (mvT hZ (own_w hw 164 rfl)) (mvT hZ (own_w hw 165 rfl)) (mvT hZ (own_w hw 166 rfl)) (mvT hZ (own_w hw 167 rfl)) (by decide) (backOf (W := 4) (rmA22 l Z a0 hw [] (nl)  zr zm ps ng zk h2 n0 o5 G0   ) hZ (own_w hw 167 rfl) (own_w hw 166 rfl) (by decide) (by decide)) (g := (mkF m 24 #[oa ob0, oi p1, oi p2, oi nl, oa b2] [(.int nl), (.int nl), (.int (0 : Int32)), (.ref b2), (.int p1), (.ref ob0)])) rfl (by rw [hml]; rfl) (argsL := [(.int nl), (.int nl)]) (rest := [(.int (0 : Int32)), (.ref b2), (.int p1), (.ref ob0)]) (lenOf own_pd11 rfl) rfl (own_W0 rfl) (hb hby d25_24) (fun _ _ => ⟨rfl, e2, (by decide : 1 + 0 ≤ _), (by decide : 4 + 0 ≤ _)⟩)
  dsimp only [Pt.U, Pt.locs, Pt.cells, Pt.slots] at X6 l6 y6 z6 st6 hQ6
  subst l6 y6 z6
  obtain ⟨rfl, Nq6, e6⟩ := hQ6
  have N6 := Fr.app N1 Nq6
  have hll7 : ((0 : Int32)).toNatClampNeg + (nl).toNatClampNeg ≤ 4 := Nat.le_trans (Nat.le_of_eq (Nat.zero_add _)) hn4
  obtain ⟨T7, h7, L7, X7, e7, N7, K7, V7, st7⟩ := cpA X6 hx hZ hown (own_w hw 168 rfl) (own_w hw 171 rfl) (own_w hw 169 rfl) (own_w hw 170 rfl) e6 f3 V2 (Or.inl ⟨rfl, rfl⟩) hp0 (by decide) hn0 hcp (Nat.le_of_eq (Nat.zero_add _)) rfl hll7 N6 gz_b2 (g := (mkF m 27 #[oa ob0, oi p1, oi p2, oi nl, oa b2] [(.int nl), (.int (0 : Int32)), (.ref b2), (.int p1), (.ref ob0)])) rfl (by rw [hml]; rfl) rfl (hb hby d25_27) (by decide) (W := 0) (own_W0 rfl) (by decide)
  obtain ⟨vl7, V7a⟩ : ∃ q : List Value, Arv Z h7 b2 k2 .int nl q (.int (0 : Int32)) := ⟨_, V7⟩
  have g8 : ∀ t, FS p e below T7 m 32 #[oa ob0, oi p1, oi p2, oi nl, oa b2] [(.ref b2)] t → ES p e below s₁ m #[(.ref ob0), (.int p1), (.int p2)] 5 t := by
    intro t k
    refine g0 t ?_
    show FS p e below s₁ m 0 #[oa ob0, oi p1, oi p2, vU, vU] [] _
    refine XS.iloadN X0.here hx rfl (hb hby d25_0) rfl ?_
    refine XS.iloadN X0.here hx rfl (hb hby d25_1) rfl ?_
    refine st1 _ ?_
    refine XS.iloadN X1.here hx rfl (hb hby d25_5) rfl ?_
    refine XS.iloadN X1.here hx rfl (hb hby d25_6) rfl ?_
    refine XS.isub X1.here hx rfl (hb hby d25_7) rfl ?_
    rw [hs1]
    refine XS.istoreN X1.here hx rfl (hb hby d25_8) rfl (l' := #[oa ob0, oi p1, oi p2, oi nl, vU]) rfl ?_
    refine XS.iloadN X1.here hx rfl (hb hby d25_9) rfl ?_
    refine st2 _ ?_
    refine XS.astore X2.here hx rfl (hb hby d25_12) rfl rfl (l' := #[oa ob0, oi p1, oi p2, oi nl, oa b2]) rfl ?_
    refine XS.aloadN X2.here hx rfl (hb hby d25_14) rfl rfl ?_
    refine XS.iloadN X2.here hx rfl (hb hby d25_15) rfl ?_
    refine XS.aload X2.here hx rfl (hb hby d25_16) rfl rfl ?_
    refine XS.iconst X2.here hx rfl (hb hby d25_18) ?_
    refine XS.aloadN X2.here hx rfl (hb hby d25_19) rfl rfl ?_
    show FS p e below T2 m 20 #[oa ob0, oi p1, oi p2, oi nl, oa b2] [(.ref ob0), (.int (0 : Int32)), (.ref b2), (.int p1), (.ref ob0)] _
    refine X2.arraylength hx (by rw [e2]; exact Ar4.1) (State.isArrayOf_alike hZ.alike Ar4.2.1) (g := (mkF m 20 #[oa ob0, oi p1, oi p2, oi nl, oa b2] [(.ref ob0), (.int (0 : Int32)), (.ref b2), (.int p1), (.ref ob0)])) rfl rfl (hb hby d25_20) _ ?_
    rw [len_of S4 Nn4]
    show FS p e below T2 m 21 #[oa ob0, oi p1, oi p2, oi nl, oa b2] [(.int ob0_z), (.int (0 : Int32)), (.ref b2), (.int p1), (.ref ob0)] _
    refine XS.iloadN X2.here hx rfl (hb hby d25_21) rfl ?_
    refine XS.isub X2.here hx rfl (hb hby d25_22) rfl ?_
    rw [hs2]
    refine XS.iloadN X2.here hx rfl (hb hby d25_23) rfl ?_
    refine st6 _ ?_
    refine st7 _ ?_
    refine XS.aload X7.here hx rfl (hb hby d25_30) rfl rfl ?_
    exact k
  obtain ⟨fs, hrt, hrun, hended, hW, hsame⟩ := X7.leave (v := some (.ref b2)) (fun h => by rw [Bd.returns] at h; cases h)
  refine ⟨_, _, g8 _ ?_, hrun, hended, _, _, rfl, ?_, ⟨_, rfl⟩, hW, hsame.mono (by decide) (by decide)⟩
  · show Steps p.tables e below (T7.setTop (mkF m 32 #[oa ob0, oi p1, oi p2, oi nl, oa b2] [(.ref b2)])) _
    jvm_step X7.here [X7.here.top, hx, (hb hby d25_32), X7.method', Bd.returns, Value.isRef, FieldType.isReference]
    first | (intro acts; rw [hrt _ acts rfl rfl rfl]) | rw [hrt _ _ rfl rfl rfl]
    exact Steps.refl _
  · show own_Q_rmA20 Z ob0 k_ob0 ob0_z ob0_l p1 p2 nl zr zm ps ng zk h0 n0 _ T7.heap _
    rw [e7]
    exact ⟨b2, _, _, rfl, N7, (Keep.trans (Keep.ext (Keep.refl h0 []) E2) K7 (allS (Or.inr sz_b2) all0)), sz_b2, V7a⟩
theorem own_pd12 : parseMethodDescriptor "([III)[I" = some ⟨[(.array .int), .int, .int], some (.array .int)⟩ := by decide +kernel
theorem d24_16 : decode q24 16 = .ok (.areturn, 1) := by decide +kernel
def own_Q_rmA19 (Z : State) (ob0 : Addr) (k_ob0 : ClassId) (ob0_z : Int32) (ob0_l : List Value) (p1 : Int32) (p2 : Int32) (nl : Int32) (zr zm ps ng : Addr) (zk : ClassId) (h0 : Heap) (n0 : Nat) (v : Option Value) (h : Heap) (L : List Loc) : Prop := ∃ (rb : Addr) (rk : ClassId) (rl : List Value), v = some (.ref rb) ∧ Fr n0 L ∧ Keep h0 h [] ∧ h0.size ≤ rb ∧ Arv Z h rb rk .int nl rl (.int (0 : Int32))
theorem rmA19 (l : Launch) (Z : State) (a0 : Array Value) (hw : ∀ d ∈ tables_1, d.before a0 Z = true) (ws : List Jvm.Cond) (ob0 : Addr) (k_ob0 : ClassId) (ob0_z : Int32) (ob0_l : List Value) (p1 : Int32) (p2 : Int32) (nl : Int32) (zr zm ps ng : Addr) (zk : ClassId) (h0 : Heap) (n0 : Nat) (O0 : Old Z n0 h0) (G : own_Gl Z zr zm ps ng zk) (V_ob0 : Arv Z h0 ob0 k_ob0 .int ob0_z ob0_l (.int (0 : Int32))) (hf : ¬ (p1 = (0 : Int32))) (hlt : ¬ (p2 < p1)) (hs1 : (p2 - p1) = nl) (hs2 : (ob0_z - p1) = nl) (hn0 : ¬ (nl < 0)) (hn4 : nl.toNatClampNeg ≤ 4) (hp0 : ¬ (p1 < 0)) (hcp : p1.toNatClampNeg + nl.toNatClampNeg ≤ ob0_z.toNatClampNeg) :
    MetFree l own_y16 (head1 (Jvm.Cond.code own_y16 jdk_65_method_136_code 3 (some (.array .int)) :: ws) ({ frames := 2, cells := 1, slots := 4, locals := 67 } : Room)) (fun a U => a = #[(.ref ob0), (.int p1), (.int p2)] ∧ Z.Warmed39 U.vm ∧ U.heap = h0) (fun _ _ _ _ _ => True) (fun _ U o U' => ∃ v L, o = .returned v ∧ own_Q_rmA19 Z ob0 k_ob0 ob0_z ob0_l p1 p2 nl zr zm ps ng zk h0 n0 v U'.heap L ∧ FrameEnd U o U' L ({ frames := 2, cells := 1, slots := 4, locals := 67 } : Room).cells ({ frames := 2, cells := 1, slots := 4, locals := 67 } : Room).slots) := by
  refine MetFree.of_bodySF (plainFor_of_name own_pn6) hisR ?_
  intro p e s m args below meth c s₁ Bd hml0 hP hK
  obtain ⟨rfl, hZ, hh⟩ := hP
  have hx := Bd.exec
  have hby := Bd.bytes
  have hml : c.maxLocals = 3 := hml0
  have hown : s.vm.findClass "java/util/Arrays" = some m.cls := findClass_of_methodNamed Bd.named
  have hnm := (name_of_methodNamed Bd.named Bd.method).1
  have X0 : Stand p l e ({ frames := 2, cells := 1, slots := 4, locals := 67 } : Room) s m #[(.ref ob0), (.int p1), (.int p2)] below meth c s₁ [] 0 0 := Stand.of_body Bd
  have e0 : s₁.heap = h0 := by rw [← hh, Bd.state]; rfl
  have N0 := Fr.nil n0
  have Z0 : n0 ≤ h0.size := O0.1 ▸ O0.2.1
  have g0 : ∀ t, FS p e below s₁ m 0 #[oa ob0, oi p1, oi p2] [] t → ES p e below s₁ m #[(.ref ob0), (.int p1), (.int p2)] 3 t := fun t k => castTop (own_ef20 m (ob0) (p1) (p2)) k
  have G0 := G
  obtain ⟨S_Z, E_Z, F_Zs, F_Zm, V_Z, S_P, P_P, S_N, P_N⟩ := G
  have hc1 : ¬ (p1 = (0 : Int32)) := hf
  obtain ⟨_, _, ⟨T2, L2, k2, n2⟩, -, X2, ⟨Lc2, hQ2, l2, y2, z2⟩, st2⟩ := Jvm.LawKit.callS X0 hx (y := own_y17) hown (mvT hZ (own_w hw 158 rfl)) (mvT hZ (own_w hw 159 rfl)) (mvT hZ (own_w hw 156 rfl)) (mvT hZ (own_w hw 160 rfl)) (by decide) (backOf (W := 0) (rmA20 l Z a0 hw [] ob0 k_ob0 (ob0_z) ob0_l (p1) (p2) nl zr zm ps ng zk h0 n0 O0 G0 V_ob0  hf hlt hs1 hs2 hn0 hn4 hp0 hcp) hZ (own_w hw 160 rfl) (own_w hw 156 rfl) (by decide) (by decide)) (g := (mkF m 13 #[oa ob0, oi p1, oi p2] [(.int p2), (.int p1), (.ref ob0)])) rfl (by rw [hml]; rfl) (argsL := [(.ref ob0), (.int p1), (.int p2)]) (rest := []) (lenOf own_pd12 rfl) rfl (own_W0 rfl) (hb hby d24_13) (fun _ _ => ⟨rfl, e0, (by decide : 0 + 1 ≤ _), (by decide : 0 + 4 ≤ _)⟩)
  dsimp only [Pt.U, Pt.locs, Pt.cells, Pt.slots] at X2 l2 y2 z2 st2 hQ2
  subst l2 y2 z2
  obtain ⟨rb2, rk2, rl2, rfl, Nq2, K2, hb2, Va2⟩ := hQ2
  have N2 := Fr.app N0 Nq2
  have sz_rb2 : h0.size ≤ rb2 := hb2
  have gz_rb2 : n0 ≤ rb2 := Nat.le_trans Z0 sz_rb2
  have ne_ob0_rb2 : ob0 ≠ rb2 := Nat.ne_of_lt (Nat.lt_of_lt_of_le V_ob0.lt hb2)
  have g3 : ∀ t, FS p e below T2 m 16 #[oa ob0, oi p1, oi p2] [(.ref rb2)] t → ES p e below s₁ m #[(.ref ob0), (.int p1), (.int p2)] 3 t := by
    intro t k
    refine g0 t ?_
    show FS p e below s₁ m 0 #[oa ob0, oi p1, oi p2] [] _
    refine XS.iloadN X0.here hx rfl (hb hby d24_0) rfl ?_
    refine XS.ifYes X0.here hx rfl (pc0 := 1) (pc' := 10) rfl (hb hby d24_1) rfl ((if0 _ _).trans (feq hc1).2) (by decide) (by decide) ?_
    refine XS.aloadN X0.here hx rfl (hb hby d24_10) rfl rfl ?_
    refine XS.iloadN X0.here hx rfl (hb hby d24_11) rfl ?_
    refine XS.iloadN X0.here hx rfl (hb hby d24_12) rfl ?_
    refine st2 _ ?_
    exact k
  obtain ⟨fs, hrt, hrun, hended, hW, hsame⟩ := X2.leave (v := some (.ref rb2)) (fun h => by rw [Bd.returns] at h; cases h)
  refine ⟨_, _, g3 _ ?_, hrun, hended, _, _, rfl, ?_, ⟨_, rfl⟩, hW, hsame.mono (by decide) (by decide)⟩
  · show Steps p.tables e below (T2.setTop (mkF m 16 #[oa ob0, oi p1, oi p2] [(.ref rb2)])) _
    jvm_step X2.here [X2.here.top, hx, (hb hby d24_16), X2.method', Bd.returns, Value.isRef, FieldType.isReference]
    first | (intro acts; rw [hrt _ acts rfl rfl rfl]) | rw [hrt _ _ rfl rfl rfl]
    exact Steps.refl _
  · show own_Q_rmA19 Z ob0 k_ob0 ob0_z ob0_l p1 p2 nl zr zm ps ng zk h0 n0 _ T2.heap _
    exact ⟨rb2, _, _, rfl, N2, (Keep.trans (Keep.refl h0 []) K2 all0), sz_rb2, Va2⟩
theorem d12_120 : decode q12 120 = .ok (.astore 4, 2) := by decide +kernel
theorem d12_122 : decode q12 122 = .ok (.goto 11, 3) := by decide +kernel
theorem d12_133 : decode q12 133 = .ok (.new 23, 3) := by decide +kernel
theorem d12_136 : decode q12 136 = .ok (.dup, 1) := by decide +kernel
theorem d12_137 : decode q12 137 = .ok (.aload 4, 2) := by decide +kernel
theorem d12_139 : decode q12 139 = .ok (.iload_n 2, 1) := by decide +kernel
theorem d12_140 : decode q12 140 = .ok (.invokespecial 175, 3) := by decide +kernel
theorem d12_143 : decode q12 143 = .ok (.areturn, 1) := by decide +kernel
theorem d12_125 : decode q12 125 = .ok (.aload 4, 2) := by decide +kernel
theorem d12_127 : decode q12 127 = .ok (.iload 9, 2) := by decide +kernel
theorem d12_129 : decode q12 129 = .ok (.lload 5, 2) := by decide +kernel
theorem d12_131 : decode q12 131 = .ok (.l2i, 1) := by decide +kernel
theorem d12_132 : decode q12 132 = .ok (.iastore, 1) := by decide +kernel
def own_Q_rmA8 (Z : State) (ob0 : Addr) (k_ob0 : ClassId) (ob0_z : Int32) (ob0_l : List Value) (p1 : Int32) (p2 : Int32)  (zr zm ps ng : Addr) (zk : ClassId) (h0 : Heap) (n0 : Nat) (v : Option Value) (h : Heap) (L : List Loc) : Prop := ∃ (rb rm : Addr) (rk : ClassId) (rz rs : Int32) (rl : List Value), v = some (.ref rb) ∧ Fr n0 L ∧ Keep h0 h [] ∧ Exa Z h rb "java/math/BigInteger" ∧ Fld Z h rb "java/math/BigInteger" "signum" "I" (.int rs) ∧ Fld Z h rb "java/math/BigInteger" "mag" "[I" (.ref rm) ∧ Arv Z h rm rk .int rz rl (.int (0 : Int32)) ∧ (rs = p2 ∧ (rz = (1 : Int32) ∨ rz = (2 : Int32) ∨ rz = (3 : Int32) ∨ rz = (4 : Int32)))
theorem rmA8 (l : Launch) (Z : State) (a0 : Array Value) (hw : ∀ d ∈ tables_1, d.before a0 Z = true) (ws : List Jvm.Cond) (ob0 : Addr) (k_ob0 : ClassId) (ob0_z : Int32) (ob0_l : List Value) (p1 : Int32) (p2 : Int32)  (zr zm ps ng : Addr) (zk : ClassId) (h0 : Heap) (n0 : Nat) (O0 : Old Z n0 h0) (G : own_Gl Z zr zm ps ng zk) (V_ob0 : Arv Z h0 ob0 k_ob0 .int ob0_z ob0_l (.int (0 : Int32))) (hz : (ob0_z = (1 : Int32) ∨ ob0_z = (2 : Int32))) :
    MetFree l own_y8 (head1 (Jvm.Cond.code own_y8 jdk_2097_method_43_code 13 (some (.object "java/math/BigInteger")) :: ws) ({ frames := 3, cells := 3, slots := 13, locals := 81 } : Room)) (fun a U => a = #[(.ref ob0), (.int p1), (.int p2)] ∧ Z.Warmed39 U.vm ∧ U.heap = h0) (fun _ _ _ _ _ => True) (fun _ U o U' => ∃ v L, o = .returned v ∧ own_Q_rmA8 Z ob0 k_ob0 ob0_z ob0_l p1 p2 zr zm ps ng zk h0 n0 v U'.heap L ∧ FrameEnd U o U' L ({ frames := 3, cells := 3, slots := 13, locals := 81 } : Room).cells ({ frames := 3, cells := 3, slots := 13, locals := 81 } : Room).slots) := by
  refine MetFree.of_bodySF (plainFor_of_name own_pn1) hisR ?_
  intro p e s m args below meth c s₁ Bd hml0 hP hK
  obtain ⟨rfl, hZ, hh⟩ := hP
  have hx := Bd.exec
  have hby := Bd.bytes
  have hml : c.maxLocals = 13 := hml0
  have hown : s.vm.findClass "java/math/BigInteger" = some m.cls := findClass_of_methodNamed Bd.named
  have hnm := (name_of_methodNamed Bd.named Bd.method).1
  have X0 : Stand p l e ({ frames := 3, cells := 3, slots := 13, locals := 81 } : Room) s m #[(.ref ob0), (.int p1), (.int p2)] below meth c s₁ [] 0 0 := Stand.of_body Bd
  have e0 : s₁.heap = h0 := by rw [← hh, Bd.state]; rfl
  have N0 := Fr.nil n0
  have Z0 : n0 ≤ h0.size := O0.1 ▸ O0.2.1
  have g0 : ∀ t, FS p e below s₁ m 0 #[oa ob0, oi p1, oi p2, vU, vU, vU, vU, vU, vU, vU, vU, vU, vU] [] t → ES p e below s₁ m #[(.ref ob0), (.int p1), (.int p2)] 13 t := fun t k => castTop (own_ef9 m (ob0) (p1) (p2)) k
  have G0 := G
  obtain ⟨S_Z, E_Z, F_Zs, F_Zm, V_Z, S_P, P_P, S_N, P_N⟩ := G
  obtain ⟨_, _, ⟨T1, L1, k1, n1⟩, -, X1, ⟨Lc1, hQ1, l1, y1, z1⟩, st1⟩ := Jvm.LawKit.callS X0 hx (y := own_y9) hown (mvT hZ (own_w hw 102 rfl)) (mvT hZ (own_w hw 103 rfl)) (mvT hZ (own_w hw 104 rfl)) (mvT hZ (own_w hw 105 rfl)) (by decide) (backOf (W := 0) (rmA9 l Z a0 hw [] (p1)  zr zm ps ng zk h0 n0 O0 G0   ) hZ (own_w hw 105 rfl) (own_w hw 104 rfl) (by decide) (by decide)) (g := (mkF m 1 #[oa ob0, oi p1, oi p2, vU, vU, vU, vU, vU, vU, vU, vU, vU, vU] [(.int p1)])) rfl (by rw [hml]; rfl) (argsL := [(.int p1)]) (rest := []) (lenOf own_pd4 rfl) rfl (own_W0 rfl) (hb hby d12_1) (fun _ _ => ⟨rfl, e0, (by decide : 0 + 0 ≤ _), (by decide : 0 + 0 ≤ _)⟩)
  dsimp only [Pt.U, Pt.locs, Pt.cells, Pt.slots] at X1 l1 y1 z1 st1 hQ1
  subst l1 y1 z1
  obtain ⟨bc1, rfl, Nq1, e1⟩ := hQ1
  have N1 := Fr.app N0 Nq1
  have g3 : ∀ t, FS p e below T1 m 5 #[oa ob0, oi p1, oi p2, vU, vU, vU, vU, vU, vU, vU, vU, vU, vU] [(.int (1 : Int32)), (.int bc1)] t → ES p e below s₁ m #[(.ref ob0), (.int p1), (.int p2)] 13 t := by
    intro t k
    refine g0 t ?_
    show FS p e below s₁ m 0 #[oa ob0, oi p1, oi p2, vU, vU, vU, vU, vU, vU, vU, vU, vU, vU] [] _
    refine XS.iloadN X0.here hx rfl (hb hby d12_0) rfl ?_
    refine st1 _ ?_
    refine XS.iconst X1.here hx rfl (hb hby d12_4) ?_
    exact k
  by_cases hc2 : bc1 = (1 : Int32)
  · obtain ⟨T4, h4, X4, e4, E4, A4, D4, -, st4⟩ := newO X1 hx hZ hown (own_w hw 71 rfl) (own_w hw 72 rfl) (own_w hw 52 rfl) e1 (g := (mkF m 8 #[oa ob0, oi p1, oi p2, vU, vU, vU, vU, vU, vU, vU, vU, vU, vU] [])) rfl (hb hby d12_8) (by decide) (by decide)
    obtain ⟨b4, q_b4⟩ : ∃ z, z = h0.size := ⟨_, rfl⟩
    rw [← q_b4] at A4 D4 st4
    have sz_b4 : h0.size ≤ b4 := Nat.le_of_eq q_b4.symm
    have gz_b4 : n0 ≤ b4 := Nat.le_trans Z0 sz_b4
    have ne_ob0_b4 : ob0 ≠ b4 := Nat.ne_of_lt (Nat.lt_of_lt_of_le V_ob0.lt (Nat.le_of_eq q_b4.symm))
    have F4_signum : Fld Z h4 b4 "java/math/BigInteger" "signum" "I" (.int (0 : Int32)) := D4 (Or.inr (own_w hw 85 rfl)) (ty := .int) (by decide)
    have F4_mag : Fld Z h4 b4 "java/math/BigInteger" "mag" "[I" .null := D4 (Or.inr (own_w hw 88 rfl)) (ty := (.array .int)) (by decide)
    have o5 : Old Z n0 h4 := (Old.ext O0 E4)
    obtain ⟨_, _, ⟨T6, L6, k6, n6⟩, -, X6, ⟨Lc6, hQ6, l6, y6, z6⟩, st6⟩ := Jvm.LawKit.callS X4 hx (y := own_y10) hown (mvT hZ (own_w hw 109 rfl)) (mvT hZ (own_w hw 110 rfl)) (mvT hZ (own_w hw 104 rfl)) (mvT hZ (own_w hw 111 rfl)) (by decide) (backOf (W := 3) (rmA10 l Z a0 hw [] (p1)  zr zm ps ng zk h4 n0 o5 G0   ) hZ (own_w hw 111 rfl) (own_w hw 104 rfl) (by decide) (by decide)) (g := (mkF m 14 #[oa ob0, oi p1, oi p2, vU, vU, vU, vU, vU, vU, vU, vU, vU, vU] [(.int p1), (.ref ob0), (.ref b4), (.ref b4)])) rfl (by rw [hml]; rfl) (argsL := [(.int p1)]) (rest := [(.ref ob0), (.ref b4), (.ref b4)]) (lenOf own_pd4 rfl) rfl (own_W0 rfl) (hb hby d12_14) (fun _ _ => ⟨rfl, e4, (by decide : 1 + 0 ≤ _), (by decide : 6 + 0 ≤ _)⟩)
    dsimp only [Pt.U, Pt.locs, Pt.cells, Pt.slots] at X6 l6 y6 z6 st6 hQ6
    subst l6 y6 z6
    obtain ⟨nt6, rfl, Nq6, e6, Qc6⟩ := hQ6
    have N6 := Fr.app N1 Nq6
    have f7 := (V_ob0.ext E4)
    obtain ⟨_, _, ⟨T8, L8, k8, n8⟩, -, X8, ⟨Lc8, hQ8, l8, y8, z8⟩, st8⟩ := Jvm.LawKit.callS X6 hx (y := own_y11) hown (mvT hZ (own_w hw 113 rfl)) (mvT hZ (own_w hw 114 rfl)) (mvT hZ (own_w hw 52 rfl)) (mvT hZ (own_w hw 115 rfl)) (by decide) (backOf (W := 2) (rmA11 l Z a0 hw [] ob0 k_ob0 (ob0_z) ob0_l (nt6)  zr zm ps ng zk h4 n0 o5 G0 f7  hz Qc6) hZ (own_w hw 115 rfl) (own_w hw 52 rfl) (by decide) (by decide)) (g := (mkF m 17 #[oa ob0, oi p1, oi p2, vU, vU, vU, vU, vU, vU, vU, vU, vU, vU] [(.int nt6), (.ref ob0), (.ref b4), (.ref b4)])) rfl (by rw [hml]; rfl) (argsL := [(.ref ob0), (.int nt6)]) (rest := [(.ref b4), (.ref b4)]) (lenOf own_pd8 rfl) rfl (own_W0 rfl) (hb hby d12_17) (fun _ _ => ⟨rfl, e6, (by decide : 1 + 1 ≤ _), (by decide : 6 + 5 ≤ _)⟩)
    dsimp only [Pt.U, Pt.locs, Pt.cells, Pt.slots] at X8 l8 y8 z8 st8 hQ8
    subst l8 y8 z8
    obtain ⟨rb8, rk8, rz8, rl8, rfl, Nq8, K8, hb8, Va8, Qc8⟩ := hQ8
    have N8 := Fr.app N6 Nq8
    have sz_rb8 : h0.size ≤ rb8 := Nat.le_trans E4.1 hb8
    have gz_rb8 : n0 ≤ rb8 := Nat.le_trans Z0 sz_rb8
    have ne_b4_rb8 : b4 ≠ rb8 := Nat.ne_of_lt (Nat.lt_of_lt_of_le A4.lt hb8)
    have ne_ob0_rb8 : ob0 ≠ rb8 := Nat.ne_of_lt (Nat.lt_of_lt_of_le f7.lt hb8)
    obtain ⟨LL9, XL9, NL9⟩ : ∃ LL : List Loc, Stand p l e ({ frames := 3, cells := 3, slots := 13, locals := 81 } : Room) s m #[(.ref ob0), (.int p1), (.int p2)] below meth c T8 LL 2 11 ∧ Fr n0 LL := ⟨_, X8, N8⟩
    have f10 := (A4.keep K8)
    have f11 := (F4_mag.keep K8 nin0)
    have f12 := (F4_signum.keep K8 nin0)
    have o13 : Old Z n0 T8.heap := (Old.keep o5 K8 all0)
    obtain ⟨_, _, ⟨T14, L14, k14, n14⟩, -, X14, ⟨Lc14, hQ14, l14, y14, z14⟩, st14⟩ := XL9.specialBack hx (y := own_y15) rfl hown (mvT hZ (own_w hw 127 rfl)) (mvT hZ (own_w hw 128 rfl)) (mvT hZ (own_w hw 129 rfl)) (by decide) (backOf (W := 1) (rmA18 l Z a0 hw [] b4 rb8 rk8 (rz8) rl8 (p2)  zr zm ps ng zk T8.heap n0 o13 G0 f10 f11 f12 Va8 gz_b4 (own_z4 Qc8).1 (own_z4 Qc8).2) hZ (own_w hw 129 rfl) (own_w hw 52 rfl) (by decide) (by decide)) (g := (mkF m 21 #[oa ob0, oi p1, oi p2, vU, vU, vU, vU, vU, vU, vU, vU, vU, vU] [(.int p2), (.ref rb8), (.ref b4), (.ref b4)])) rfl (by rw [hml]; rfl) (Steps.refl _) (a := b4) (argsL := [(.ref rb8), (.int p2)]) (rest := [(.ref b4)]) (lenOf own_pd9 rfl) rfl (own_W0 rfl) (hb hby d12_21) (fun _ _ => ⟨rfl, rfl, (by decide : 2 + 0 ≤ _), (by decide : 11 + 0 ≤ _)⟩)
    dsimp only [Pt.U, Pt.locs, Pt.cells, Pt.slots] at X14 l14 y14 z14 st14 hQ14
    subst l14 y14 z14
    obtain ⟨rfl, Nq14, K14, Qe14, Qs14, Qm14⟩ := hQ14
    have N14 := Fr.app NL9 Nq14
    have g15 : ∀ t, FS p e below T14 m 24 #[oa ob0, oi p1, oi p2, vU, vU, vU, vU, vU, vU, vU, vU, vU, vU] [(.ref b4)] t → ES p e below s₁ m #[(.ref ob0), (.int p1), (.int p2)] 13 t := by
      intro t k
      refine g3 t ?_
      show FS p e below T1 m 5 #[oa ob0, oi p1, oi p2, vU, vU, vU, vU, vU, vU, vU, vU, vU, vU] [(.int (1 : Int32)), (.int bc1)] _
      refine XS.icmpNo X1.here hx rfl (hb hby d12_5) rfl (teq hc2).2 ?_
      refine st4 _ ?_
      refine XS.dup X4.here hx rfl (hb hby d12_11) rfl rfl ?_
      refine XS.aloadN X4.here hx rfl (hb hby d12_12) rfl rfl ?_
      refine XS.iloadN X4.here hx rfl (hb hby d12_13) rfl ?_
      refine st6 _ ?_
      refine st8 _ ?_
      refine XS.iloadN X8.here hx rfl (hb hby d12_20) rfl ?_
      refine st14.trans ?_
      exact k
    obtain ⟨fs, hrt, hrun, hended, hW, hsame⟩ := X14.leave (v := some (.ref b4)) (fun h => by rw [Bd.returns] at h; cases h)
    have f16 := (Va8.keep K14 (ninS (Ne.symm ne_b4_rb8) nin0))
    refine ⟨_, _, g15 _ ?_, hrun, hended, _, _, rfl, ?_, ⟨_, rfl⟩, hW, hsame.mono (by decide) (by decide)⟩
    · show Steps p.tables e below (T14.setTop (mkF m 24 #[oa ob0, oi p1, oi p2, vU, vU, vU, vU, vU, vU, vU, vU, vU, vU] [(.ref b4)])) _
      jvm_step X14.here [X14.here.top, hx, (hb hby d12_24), X14.method', Bd.returns, Value.isRef, FieldType.isReference]
      first | (intro acts; rw [hrt _ acts rfl rfl rfl]) | rw [hrt _ _ rfl rfl rfl]
      exact Steps.refl _
    · show own_Q_rmA8 Z ob0 k_ob0 ob0_z ob0_l p1 p2 zr zm ps ng zk h0 n0 _ T14.heap _
      exact ⟨b4, rb8, _, _, _, _, rfl, N14, (Keep.trans (Keep.trans (Keep.ext (Keep.refl h0 []) E4) K8 all0) K14 (allS (Or.inr sz_b4) all0)), Qe14, Qs14, Qm14, f16, ⟨rfl, Qc8⟩⟩
  · have g17 : ∀ t, FS p e below T1 m 25 #[oa ob0, oi p1, oi p2, vU, vU, vU, vU, vU, vU, vU, vU, vU, vU] [] t → ES p e below s₁ m #[(.ref ob0), (.int p1), (.int p2)] 13 t := by
      intro t k
      refine g3 t ?_
      show FS p e below T1 m 5 #[oa ob0, oi p1, oi p2, vU, vU, vU, vU, vU, vU, vU, vU, vU, vU] [(.int (1 : Int32)), (.int bc1)] _
      refine XS.icmpYes X1.here hx rfl (pc0 := 5) (pc' := 25) rfl (hb hby d12_5) rfl (feq hc2).2 (by decide) (by decide) ?_
      exact k
    rcases hz with hz18 | hz18
    · obtain ⟨x0, Vc18⟩ := own_conc1 (own_reZ hz18 V_ob0)
      obtain ⟨c19, Ar19, cq19, S19, Nn19, Hh19, Gg19⟩ := id Vc18
      obtain ⟨T20, h20, k20, X20, e20, E20, A20, st20⟩ := newP X1 hx hZ (own_w hw 86 rfl) e1 (g := (mkF m 31 #[oa ob0, oi p1, oi p2, oi (1 : Int32), vU, vU, vU, vU, vU, vU, vU, vU, vU] [(.int (2 : Int32))])) rfl (hb hby d12_31) rfl (by decide) (cap := 2) (by decide) (by decide) (by decide) (by decide)
      obtain ⟨b20, q_b20⟩ : ∃ z, z = h0.size := ⟨_, rfl⟩
      rw [← q_b20] at A20 st20
      have sz_b20 : h0.size ≤ b20 := Nat.le_of_eq q_b20.symm
      have gz_b20 : n0 ≤ b20 := Nat.le_trans Z0 sz_b20
      have ne_ob0_b20 : ob0 ≠ b20 := Nat.ne_of_lt (Nat.lt_of_lt_of_le Vc18.lt (Nat.le_of_eq q_b20.symm))
      have V20 : Arv Z h20 b20 k20 .int (2 : Int32) [(.int (0 : Int32)), (.int (0 : Int32))] (.int (0 : Int32)) := (Arv.new A20 (by decide)).pad (pad_rep [] (.int (0 : Int32)) 2)
      obtain ⟨c21, Ar21, cq21, S21, Nn21, Hh21, Gg21⟩ := id V20
      have f22 := (Vc18.ext E20)
      obtain ⟨c23, Ar23, cq23, S23, Nn23, Hh23, Gg23⟩ := id f22
      have hin23 : ¬ ((0 : Int32) < 0 ∨ c23.slots.size ≤ ((0 : Int32)).toNatClampNeg) := inb_of S23 ⟨by decide, by decide⟩
      have hat23 : c23.slots[((0 : Int32)).toNatClampNeg]? = some (.int x0) := Has.at Hh23 hin23 rfl
      obtain ⟨pr24, hv_pr24⟩ : ∃ z : Int64, z = ((((x0.toInt64) &&& (4294967295 : Int64)) * ((p1.toInt64) &&& (4294967295 : Int64))) + (0 : Int64)) := ⟨_, rfl⟩
      have g25 : ∀ t, FS p e below T20 m 78 #[oa ob0, oi p1, oi p2, oi (1 : Int32), oa b20, oj (0 : Int64), vS, .val (.long ((p1.toInt64) &&& (4294967295 : Int64))), vS, oi (1 : Int32), oi (0 : Int32), vU, vU] [(.long pr24)] t → ES p e below s₁ m #[(.ref ob0), (.int p1), (.int p2)] 13 t := by
        intro t k
        rw [hv_pr24] at k
        refine g17 t ?_
        show FS p e below T1 m 25 #[oa ob0, oi p1, oi p2, vU, vU, vU, vU, vU, vU, vU, vU, vU, vU] [] _
        refine XS.aloadN X1.here hx rfl (hb hby d12_25) rfl rfl ?_
        show FS p e below T1 m 26 #[oa ob0, oi p1, oi p2, vU, vU, vU, vU, vU, vU, vU, vU, vU, vU] [(.ref ob0)] _
        refine X1.arraylength hx (by rw [e1]; exact Ar19.1) (State.isArrayOf_alike hZ.alike Ar19.2.1) (g := (mkF m 26 #[oa ob0, oi p1, oi p2, vU, vU, vU, vU, vU, vU, vU, vU, vU, vU] [(.ref ob0)])) rfl rfl (hb hby d12_26) _ ?_
        rw [len_of S19 Nn19]
        refine XS.istoreN X1.here hx rfl (hb hby d12_27) rfl (l' := #[oa ob0, oi p1, oi p2, oi (1 : Int32), vU, vU, vU, vU, vU, vU, vU, vU, vU]) rfl ?_
        refine XS.iloadN X1.here hx rfl (hb hby d12_28) rfl ?_
        refine XS.iconst X1.here hx rfl (hb hby d12_29) ?_
        show FS p e below T1 m 30 #[oa ob0, oi p1, oi p2, oi (1 : Int32), vU, vU, vU, vU, vU, vU, vU, vU, vU] [(.int (1 : Int32)), (.int (1 : Int32))] _
        refine XS.iadd X1.here hx rfl (hb hby d12_30) rfl ?_
        rw [show ((1 : Int32) + (1 : Int32)) = (2 : Int32) from by decide]
        refine st20 _ ?_
        refine XS.astore X20.here hx rfl (hb hby d12_33) rfl rfl (l' := #[oa ob0, oi p1, oi p2, oi (1 : Int32), oa b20, vU, vU, vU, vU, vU, vU, vU, vU]) rfl ?_
        refine XS.lconst X20.here hx rfl (hb hby d12_35) ?_
        refine XS.lstore X20.here hx rfl (hb hby d12_36) rfl (l' := #[oa ob0, oi p1, oi p2, oi (1 : Int32), oa b20, oj (0 : Int64), vS, vU, vU, vU, vU, vU, vU]) rfl ?_
        refine XS.iloadN X20.here hx rfl (hb hby d12_38) rfl ?_
        refine XS.i2l X20.here hx rfl (hb hby d12_39) rfl ?_
        refine X20.ldc2Long hx hown (mvT hZ (own_w hw 153 rfl)) (g := (mkF m 40 #[oa ob0, oi p1, oi p2, oi (1 : Int32), oa b20, oj (0 : Int64), vS, vU, vU, vU, vU, vU, vU] [(.long (p1.toInt64))])) rfl (hb hby d12_40) _ ?_
        refine XS.land X20.here hx rfl (hb hby d12_43) rfl ?_
        refine XS.lstore X20.here hx rfl (hb hby d12_44) rfl (l' := #[oa ob0, oi p1, oi p2, oi (1 : Int32), oa b20, oj (0 : Int64), vS, .val (.long ((p1.toInt64) &&& (4294967295 : Int64))), vS, vU, vU, vU, vU]) rfl ?_
        refine XS.aload X20.here hx rfl (hb hby d12_46) rfl rfl ?_
        show FS p e below T20 m 48 #[oa ob0, oi p1, oi p2, oi (1 : Int32), oa b20, oj (0 : Int64), vS, .val (.long ((p1.toInt64) &&& (4294967295 : Int64))), vS, vU, vU, vU, vU] [(.ref b20)] _
        refine X20.arraylength hx (by rw [e20]; exact Ar21.1) (State.isArrayOf_alike hZ.alike Ar21.2.1) (g := (mkF m 48 #[oa ob0, oi p1, oi p2, oi (1 : Int32), oa b20, oj (0 : Int64), vS, .val (.long ((p1.toInt64) &&& (4294967295 : Int64))), vS, vU, vU, vU, vU] [(.ref b20)])) rfl rfl (hb hby d12_48) _ ?_
        rw [len_of S21 Nn21]
        refine XS.iconst X20.here hx rfl (hb hby d12_49) ?_
        show FS p e below T20 m 50 #[oa ob0, oi p1, oi p2, oi (1 : Int32), oa b20, oj (0 : Int64), vS, .val (.long ((p1.toInt64) &&& (4294967295 : Int64))), vS, vU, vU, vU, vU] [(.int (1 : Int32)), (.int (2 : Int32))] _
        refine XS.isub X20.here hx rfl (hb hby d12_50) rfl ?_
        rw [show ((2 : Int32) - (1 : Int32)) = (1 : Int32) from by decide]
        refine XS.istore X20.here hx rfl (hb hby d12_51) rfl (l' := #[oa ob0, oi p1, oi p2, oi (1 : Int32), oa b20, oj (0 : Int64), vS, .val (.long ((p1.toInt64) &&& (4294967295 : Int64))), vS, oi (1 : Int32), vU, vU, vU]) rfl ?_
        refine XS.iloadN X20.here hx rfl (hb hby d12_53) rfl ?_
        refine XS.iconst X20.here hx rfl (hb hby d12_54) ?_
        show FS p e below T20 m 55 #[oa ob0, oi p1, oi p2, oi (1 : Int32), oa b20, oj (0 : Int64), vS, .val (.long ((p1.toInt64) &&& (4294967295 : Int64))), vS, oi (1 : Int32), vU, vU, vU] [(.int (1 : Int32)), (.int (1 : Int32))] _
        refine XS.isub X20.here hx rfl (hb hby d12_55) rfl ?_
        rw [show ((1 : Int32) - (1 : Int32)) = (0 : Int32) from by decide]
        refine XS.istore X20.here hx rfl (hb hby d12_56) rfl (l' := #[oa ob0, oi p1, oi p2, oi (1 : Int32), oa b20, oj (0 : Int64), vS, .val (.long ((p1.toInt64) &&& (4294967295 : Int64))), vS, oi (1 : Int32), oi (0 : Int32), vU, vU]) rfl ?_
        refine XS.iload X20.here hx rfl (hb hby d12_58) rfl ?_
        refine XS.ifNo X20.here hx rfl (hb hby d12_60) rfl ((if0 _ _).trans (flt (by decide : ¬ ((0 : Int32) < (0 : Int32)))).1) ?_
        refine XS.aloadN X20.here hx rfl (hb hby d12_63) rfl rfl ?_
        refine XS.iload X20.here hx rfl (hb hby d12_64) rfl ?_
        refine X20.iaload hx (j := (0 : Int32)) (v := (.int x0)) (by rw [e20]; exact Ar23.1) (State.isArrayOf_alike hZ.alike Ar23.2.1) Ar23.2.2 hin23 hat23 (g := (mkF m 66 #[oa ob0, oi p1, oi p2, oi (1 : Int32), oa b20, oj (0 : Int64), vS, .val (.long ((p1.toInt64) &&& (4294967295 : Int64))), vS, oi (1 : Int32), oi (0 : Int32), vU, vU] [(.int (0 : Int32)), (.ref ob0)])) rfl rfl (hb hby d12_66) _ ?_
        refine XS.i2l X20.here hx rfl (hb hby d12_67) rfl ?_
        refine X20.ldc2Long hx hown (mvT hZ (own_w hw 153 rfl)) (g := (mkF m 68 #[oa ob0, oi p1, oi p2, oi (1 : Int32), oa b20, oj (0 : Int64), vS, .val (.long ((p1.toInt64) &&& (4294967295 : Int64))), vS, oi (1 : Int32), oi (0 : Int32), vU, vU] [(.long (x0.toInt64))])) rfl (hb hby d12_68) _ ?_
        refine XS.land X20.here hx rfl (hb hby d12_71) rfl ?_
        show FS p e below T20 m 72 #[oa ob0, oi p1, oi p2, oi (1 : Int32), oa b20, oj (0 : Int64), vS, .val (.long ((p1.toInt64) &&& (4294967295 : Int64))), vS, oi (1 : Int32), oi (0 : Int32), vU, vU] [(.long ((x0.toInt64) &&& (4294967295 : Int64)))] _
        refine XS.lload X20.here hx rfl (hb hby d12_72) rfl ?_
        refine XS.lmul X20.here hx rfl (hb hby d12_74) rfl ?_
        refine XS.lload X20.here hx rfl (hb hby d12_75) rfl ?_
        refine XS.ladd X20.here hx rfl (hb hby d12_77) rfl ?_
        exact k
      obtain ⟨c26, Ar26, cq26, S26, Nn26, Hh26, Gg26⟩ := id V20
      have hin26 : ¬ ((1 : Int32) < 0 ∨ c26.slots.size ≤ ((1 : Int32)).toNatClampNeg) := inb_of S26 ⟨by decide, by decide⟩
      obtain ⟨T27, h27, X27, e27, W27, st27⟩ := stI X20 hx hZ e20 Ar26 (j := (1 : Int32)) hin26 (g := (mkF m 90 #[oa ob0, oi p1, oi p2, oi (1 : Int32), oa b20, oj (0 : Int64), vS, .val (.long ((p1.toInt64) &&& (4294967295 : Int64))), vS, oi (0 : Int32), oi (0 : Int32), oj pr24, vS] [(.int (pr24.toInt32)), (.int (1 : Int32)), (.ref b20)])) rfl rfl (hb hby d12_90)
      have V27 := Arv.set Ar26 cq26 S26 Nn26 Hh26 Gg26 rfl W27 1 rfl (Nat.le_of_ble_eq_true rfl)
      have V27a : Arv Z h27 b20 k20 .int (2 : Int32) [(.int (0 : Int32)), (.int (pr24.toInt32))] (.int (0 : Int32)) := V27
      have N27 := Fr.snoc X27 N1 gz_b20
      have g29 : ∀ t, FS p e below T27 m 108 #[oa ob0, oi p1, oi p2, oi (1 : Int32), oa b20, .val (.long ((pr24.toUInt64 >>> ((32 : Int32) &&& 0x3f).toInt64.toUInt64).toInt64)), vS, .val (.long ((p1.toInt64) &&& (4294967295 : Int64))), vS, oi (0 : Int32), oi (-1 : Int32), oj pr24, vS] [(.int (lcmpW ((pr24.toUInt64 >>> ((32 : Int32) &&& 0x3f).toInt64.toUInt64).toInt64) (0 : Int64)))] t → ES p e below s₁ m #[(.ref ob0), (.int p1), (.int p2)] 13 t := by
        intro t k
        refine g25 t ?_
        show FS p e below T20 m 78 #[oa ob0, oi p1, oi p2, oi (1 : Int32), oa b20, oj (0 : Int64), vS, .val (.long ((p1.toInt64) &&& (4294967295 : Int64))), vS, oi (1 : Int32), oi (0 : Int32), vU, vU] [(.long pr24)] _
        refine XS.lstore X20.here hx rfl (hb hby d12_78) rfl (l' := #[oa ob0, oi p1, oi p2, oi (1 : Int32), oa b20, oj (0 : Int64), vS, .val (.long ((p1.toInt64) &&& (4294967295 : Int64))), vS, oi (1 : Int32), oi (0 : Int32), oj pr24, vS]) rfl ?_
        refine XS.aload X20.here hx rfl (hb hby d12_80) rfl rfl ?_
        refine XS.iload X20.here hx rfl (hb hby d12_82) rfl ?_
        show FS p e below T20 m 84 #[oa ob0, oi p1, oi p2, oi (1 : Int32), oa b20, oj (0 : Int64), vS, .val (.long ((p1.toInt64) &&& (4294967295 : Int64))), vS, oi (1 : Int32), oi (0 : Int32), oj pr24, vS] [(.int (1 : Int32)), (.ref b20)] _
        refine XS.iinc X20.here hx rfl (hb hby d12_84) rfl (l' := #[oa ob0, oi p1, oi p2, oi (1 : Int32), oa b20, oj (0 : Int64), vS, .val (.long ((p1.toInt64) &&& (4294967295 : Int64))), vS, .val (.int ((1 : Int32) + (-1 : Int32))), oi (0 : Int32), oj pr24, vS]) rfl ?_
        rw [show ((1 : Int32) + (-1 : Int32)) = (0 : Int32) from by decide]
        refine XS.lload X20.here hx rfl (hb hby d12_87) rfl ?_
        refine XS.l2i X20.here hx rfl (hb hby d12_89) rfl ?_
        refine st27 _ ?_
        refine XS.lload X27.here hx rfl (hb hby d12_91) rfl ?_
        refine XS.bipush X27.here hx rfl (hb hby d12_93) ?_
        refine XS.lushr X27.here hx rfl (hb hby d12_95) rfl ?_
        refine XS.lstore X27.here hx rfl (hb hby d12_96) rfl (l' := #[oa ob0, oi p1, oi p2, oi (1 : Int32), oa b20, .val (.long ((pr24.toUInt64 >>> ((32 : Int32) &&& 0x3f).toInt64.toUInt64).toInt64)), vS, .val (.long ((p1.toInt64) &&& (4294967295 : Int64))), vS, oi (0 : Int32), oi (0 : Int32), oj pr24, vS]) rfl ?_
        show FS p e below T27 m 98 #[oa ob0, oi p1, oi p2, oi (1 : Int32), oa b20, .val (.long ((pr24.toUInt64 >>> ((32 : Int32) &&& 0x3f).toInt64.toUInt64).toInt64)), vS, .val (.long ((p1.toInt64) &&& (4294967295 : Int64))), vS, oi (0 : Int32), oi (0 : Int32), oj pr24, vS] [] _
        refine XS.iinc X27.here hx rfl (hb hby d12_98) rfl (l' := #[oa ob0, oi p1, oi p2, oi (1 : Int32), oa b20, .val (.long ((pr24.toUInt64 >>> ((32 : Int32) &&& 0x3f).toInt64.toUInt64).toInt64)), vS, .val (.long ((p1.toInt64) &&& (4294967295 : Int64))), vS, oi (0 : Int32), .val (.int ((0 : Int32) + (-1 : Int32))), oj pr24, vS]) rfl ?_
        rw [show ((0 : Int32) + (-1 : Int32)) = (-1 : Int32) from by decide]
        refine XS.goto X27.here hx rfl (pc0 := 101) (pc' := 58) rfl (hb hby d12_101) (by decide) (by decide) ?_
        refine XS.iload X27.here hx rfl (hb hby d12_58) rfl ?_
        refine XS.ifYes X27.here hx rfl (pc0 := 60) (pc' := 104) rfl (hb hby d12_60) rfl ((if0 _ _).trans (tlt (by decide : (-1 : Int32) < (0 : Int32))).1) (by decide) (by decide) ?_
        refine XS.lload X27.here hx rfl (hb hby d12_104) rfl ?_
        show FS p e below T27 m 106 #[oa ob0, oi p1, oi p2, oi (1 : Int32), oa b20, .val (.long ((pr24.toUInt64 >>> ((32 : Int32) &&& 0x3f).toInt64.toUInt64).toInt64)), vS, .val (.long ((p1.toInt64) &&& (4294967295 : Int64))), vS, oi (0 : Int32), oi (-1 : Int32), oj pr24, vS] [(.long ((pr24.toUInt64 >>> ((32 : Int32) &&& 0x3f).toInt64.toUInt64).toInt64))] _
        refine XS.lconst X27.here hx rfl (hb hby d12_106) ?_
        refine XS.lcmp X27.here hx rfl (hb hby d12_107) rfl ?_
        exact k
      by_cases hc28 : ((pr24.toUInt64 >>> ((32 : Int32) &&& 0x3f).toInt64.toUInt64).toInt64) = (0 : Int64)
      · obtain ⟨c30, Ar30, cq30, S30, Nn30, Hh30, Gg30⟩ := id V27a
        have o31 : Old Z n0 h27 := (Old.wr (Old.ext O0 E20) W27 gz_b20)
        obtain ⟨_, _, ⟨T32, L32, k32, n32⟩, -, X32, ⟨Lc32, hQ32, l32, y32, z32⟩, st32⟩ := Jvm.LawKit.callS X27 hx (y := own_y16) hown (mvT hZ (own_w hw 154 rfl)) (mvT hZ (own_w hw 155 rfl)) (mvT hZ (own_w hw 156 rfl)) (mvT hZ (own_w hw 157 rfl)) (by decide) (backOf (W := 0) (rmA19 l Z a0 hw [] b20 k20 ((2 : Int32)) [(.int (0 : Int32)), (.int (pr24.toInt32))] ((1 : Int32)) ((2 : Int32)) (1 : Int32) zr zm ps ng zk h27 n0 o31 G0 V27a  (by decide) (by decide) (by decide) (by decide) (by decide) (by decide) (by decide) (by decide)) hZ (own_w hw 157 rfl) (own_w hw 156 rfl) (by decide) (by decide)) (g := (mkF m 117 #[oa ob0, oi p1, oi p2, oi (1 : Int32), oa b20, .val (.long ((pr24.toUInt64 >>> ((32 : Int32) &&& 0x3f).toInt64.toUInt64).toInt64)), vS, .val (.long ((p1.toInt64) &&& (4294967295 : Int64))), vS, oi (0 : Int32), oi (-1 : Int32), oj pr24, vS] [(.int (2 : Int32)), (.int (1 : Int32)), (.ref b20)])) rfl (by rw [hml]; rfl) (argsL := [(.ref b20), (.int (1 : Int32)), (.int (2 : Int32))]) (rest := []) (lenOf own_pd12 rfl) rfl (own_W0 rfl) (hb hby d12_117) (fun _ _ => ⟨rfl, e27, (by decide : 1 + 1 ≤ _), (by decide : 2 + 4 ≤ _)⟩)
        dsimp only [Pt.U, Pt.locs, Pt.cells, Pt.slots] at X32 l32 y32 z32 st32 hQ32
        subst l32 y32 z32
        obtain ⟨rb32, rk32, rl32, rfl, Nq32, K32, hb32, Va32⟩ := hQ32
        have N32 := Fr.app N27 Nq32
        have sz_rb32 : h0.size ≤ rb32 := Nat.le_trans (Nat.le_trans E20.1 (Keep.of_wr W27).1) hb32
        have gz_rb32 : n0 ≤ rb32 := Nat.le_trans Z0 sz_rb32
        have ne_b20_rb32 : b20 ≠ rb32 := Nat.ne_of_lt (Nat.lt_of_lt_of_le V27a.lt hb32)
        have ne_ob0_rb32 : ob0 ≠ rb32 := Nat.ne_of_lt (Nat.lt_of_lt_of_le (f22.other W27 ne_ob0_b20).lt hb32)
        obtain ⟨T33, h33, X33, e33, E33, A33, D33, -, st33⟩ := newO X32 hx hZ hown (own_w hw 71 rfl) (own_w hw 72 rfl) (own_w hw 52 rfl) rfl (g := (mkF m 133 #[oa ob0, oi p1, oi p2, oi (1 : Int32), oa rb32, .val (.long ((pr24.toUInt64 >>> ((32 : Int32) &&& 0x3f).toInt64.toUInt64).toInt64)), vS, .val (.long ((p1.toInt64) &&& (4294967295 : Int64))), vS, oi (0 : Int32), oi (-1 : Int32), oj pr24, vS] [])) rfl (hb hby d12_133) (by decide) (by decide)
        obtain ⟨b33, q_b33⟩ : ∃ z, z = T32.heap.size := ⟨_, rfl⟩
        rw [← q_b33] at A33 D33 st33
        have sz_b33 : h0.size ≤ b33 := Nat.le_trans (Nat.le_trans (Nat.le_trans E20.1 (Keep.of_wr W27).1) K32.1) (Nat.le_of_eq q_b33.symm)
        have gz_b33 : n0 ≤ b33 := Nat.le_trans Z0 sz_b33
        have f34 := (V27a.keep K32 nin0)
        have ne_b20_b33 : b20 ≠ b33 := Nat.ne_of_lt (Nat.lt_of_lt_of_le f34.lt (Nat.le_of_eq q_b33.symm))
        have f35 := ((f22.other W27 ne_ob0_b20).keep K32 nin0)
        have ne_ob0_b33 : ob0 ≠ b33 := Nat.ne_of_lt (Nat.lt_of_lt_of_le f35.lt (Nat.le_of_eq q_b33.symm))
        have ne_rb32_b33 : rb32 ≠ b33 := Nat.ne_of_lt (Nat.lt_of_lt_of_le Va32.lt (Nat.le_of_eq q_b33.symm))
        have F33_signum : Fld Z h33 b33 "java/math/BigInteger" "signum" "I" (.int (0 : Int32)) := D33 (Or.inr (own_w hw 85 rfl)) (ty := .int) (by decide)
        have F33_mag : Fld Z h33 b33 "java/math/BigInteger" "mag" "[I" .null := D33 (Or.inr (own_w hw 88 rfl)) (ty := (.array .int)) (by decide)
        obtain ⟨LL36, XL36, NL36⟩ : ∃ LL : List Loc, Stand p l e ({ frames := 3, cells := 3, slots := 13, locals := 81 } : Room) s m #[(.ref ob0), (.int p1), (.int p2)] below meth c T33 LL 3 12 ∧ Fr n0 LL := ⟨_, X33, N32⟩
        have f37 := (Va32.ext E33)
        have o38 : Old Z n0 h33 := (Old.ext (Old.keep o31 K32 all0) E33)
        obtain ⟨_, _, ⟨T39, L39, k39, n39⟩, -, X39, ⟨Lc39, hQ39, l39, y39, z39⟩, st39⟩ := XL36.specialBack hx (y := own_y15) rfl hown (mvT hZ (own_w hw 127 rfl)) (mvT hZ (own_w hw 128 rfl)) (mvT hZ (own_w hw 129 rfl)) (by decide) (backOf (W := 1) (rmA18 l Z a0 hw [] b33 rb32 rk32 ((1 : Int32)) rl32 (p2)  zr zm ps ng zk h33 n0 o38 G0 A33 F33_mag F33_signum f37 gz_b33 (by decide) (by decide)) hZ (own_w hw 129 rfl) (own_w hw 52 rfl) (by decide) (by decide)) (g := (mkF m 140 #[oa ob0, oi p1, oi p2, oi (1 : Int32), oa rb32, .val (.long ((pr24.toUInt64 >>> ((32 : Int32) &&& 0x3f).toInt64.toUInt64).toInt64)), vS, .val (.long ((p1.toInt64) &&& (4294967295 : Int64))), vS, oi (0 : Int32), oi (-1 : Int32), oj pr24, vS] [(.int p2), (.ref rb32), (.ref b33), (.ref b33)])) rfl (by rw [hml]; rfl) (Steps.refl _) (a := b33) (argsL := [(.ref rb32), (.int p2)]) (rest := [(.ref b33)]) (lenOf own_pd9 rfl) rfl (own_W0 rfl) (hb hby d12_140) (fun _ _ => ⟨rfl, e33, (by decide : 3 + 0 ≤ _), (by decide : 12 + 0 ≤ _)⟩)
        dsimp only [Pt.U, Pt.locs, Pt.cells, Pt.slots] at X39 l39 y39 z39 st39 hQ39
        subst l39 y39 z39
        obtain ⟨rfl, Nq39, K39, Qe39, Qs39, Qm39⟩ := hQ39
        have N39 := Fr.app NL36 Nq39
        have g40 : ∀ t, FS p e below T39 m 143 #[oa ob0, oi p1, oi p2, oi (1 : Int32), oa rb32, .val (.long ((pr24.toUInt64 >>> ((32 : Int32) &&& 0x3f).toInt64.toUInt64).toInt64)), vS, .val (.long ((p1.toInt64) &&& (4294967295 : Int64))), vS, oi (0 : Int32), oi (-1 : Int32), oj pr24, vS] [(.ref b33)] t → ES p e below s₁ m #[(.ref ob0), (.int p1), (.int p2)] 13 t := by
          intro t k
          refine g29 t ?_
          show FS p e below T27 m 108 #[oa ob0, oi p1, oi p2, oi (1 : Int32), oa b20, .val (.long ((pr24.toUInt64 >>> ((32 : Int32) &&& 0x3f).toInt64.toUInt64).toInt64)), vS, .val (.long ((p1.toInt64) &&& (4294967295 : Int64))), vS, oi (0 : Int32), oi (-1 : Int32), oj pr24, vS] [(.int (lcmpW ((pr24.toUInt64 >>> ((32 : Int32) &&& 0x3f).toInt64.toUInt64).toInt64) (0 : Int64)))] _
          refine XS.ifNo X27.here hx rfl (hb hby d12_108) rfl ((if0 _ _).trans (teq ((lw_eq _ _).mpr hc28)).2) ?_
          refine XS.aload X27.here hx rfl (hb hby d12_111) rfl rfl ?_
          refine XS.iconst X27.here hx rfl (hb hby d12_113) ?_
          refine XS.aload X27.here hx rfl (hb hby d12_114) rfl rfl ?_
          show FS p e below T27 m 116 #[oa ob0, oi p1, oi p2, oi (1 : Int32), oa b20, .val (.long ((pr24.toUInt64 >>> ((32 : Int32) &&& 0x3f).toInt64.toUInt64).toInt64)), vS, .val (.long ((p1.toInt64) &&& (4294967295 : Int64))), vS, oi (0 : Int32), oi (-1 : Int32), oj pr24, vS] [(.ref b20), (.int (1 : Int32)), (.ref b20)] _
          refine X27.arraylength hx (by rw [e27]; exact Ar30.1) (State.isArrayOf_alike hZ.alike Ar30.2.1) (g := (mkF m 116 #[oa ob0, oi p1, oi p2, oi (1 : Int32), oa b20, .val (.long ((pr24.toUInt64 >>> ((32 : Int32) &&& 0x3f).toInt64.toUInt64).toInt64)), vS, .val (.long ((p1.toInt64) &&& (4294967295 : Int64))), vS, oi (0 : Int32), oi (-1 : Int32), oj pr24, vS] [(.ref b20), (.int (1 : Int32)), (.ref b20)])) rfl rfl (hb hby d12_116) _ ?_
          rw [len_of S30 Nn30]
          refine st32 _ ?_
          refine XS.astore X32.here hx rfl (hb hby d12_120) rfl rfl (l' := #[oa ob0, oi p1, oi p2, oi (1 : Int32), oa rb32, .val (.long ((pr24.toUInt64 >>> ((32 : Int32) &&& 0x3f).toInt64.toUInt64).toInt64)), vS, .val (.long ((p1.toInt64) &&& (4294967295 : Int64))), vS, oi (0 : Int32), oi (-1 : Int32), oj pr24, vS]) rfl ?_
          refine XS.goto X32.here hx rfl (pc0 := 122) (pc' := 133) rfl (hb hby d12_122) (by decide) (by decide) ?_
          refine st33 _ ?_
          refine XS.dup X33.here hx rfl (hb hby d12_136) rfl rfl ?_
          refine XS.aload X33.here hx rfl (hb hby d12_137) rfl rfl ?_
          refine XS.iloadN X33.here hx rfl (hb hby d12_139) rfl ?_
          refine st39.trans ?_
          exact k
        obtain ⟨fs, hrt, hrun, hended, hW, hsame⟩ := X39.leave (v := some (.ref b33)) (fun h => by rw [Bd.returns] at h; cases h)
        have f41 := (f37.keep K39 (ninS ne_rb32_b33 nin0))
        refine ⟨_, _, g40 _ ?_, hrun, hended, _, _, rfl, ?_, ⟨_, rfl⟩, hW, hsame.mono (by decide) (by decide)⟩
        · show Steps p.tables e below (T39.setTop (mkF m 143 #[oa ob0, oi p1, oi p2, oi (1 : Int32), oa rb32, .val (.long ((pr24.toUInt64 >>> ((32 : Int32) &&& 0x3f).toInt64.toUInt64).toInt64)), vS, .val (.long ((p1.toInt64) &&& (4294967295 : Int64))), vS, oi (0 : Int32), oi (-1 : Int32), oj pr24, vS] [(.ref b33)])) _
          jvm_step X39.here [X39.here.top, hx, (hb hby d12_143), X39.method', Bd.returns, Value.isRef, FieldType.isReference]
          first | (intro acts; rw [hrt _ acts rfl rfl rfl]) | rw [hrt _ _ rfl rfl rfl]
          exact Steps.refl _
        · show own_Q_rmA8 Z ob0 k_ob0 ob0_z ob0_l p1 p2 zr zm ps ng zk h0 n0 _ T39.heap _
          exact ⟨b33, rb32, _, _, _, _, rfl, N39, (Keep.trans (Keep.ext (Keep.trans (Keep.wr (Keep.ext (Keep.refl h0 []) E20) W27 (Or.inr sz_b20)) K32 all0) E33) K39 (allS (Or.inr sz_b33) all0)), Qe39, Qs39, Qm39, f41, ⟨rfl, by decide⟩⟩
      · obtain ⟨c42, Ar42, cq42, S42, Nn42, Hh42, Gg42⟩ := id V27a
        have hin42 : ¬ ((0 : Int32) < 0 ∨ c42.slots.size ≤ ((0 : Int32)).toNatClampNeg) := inb_of S42 ⟨by decide, by decide⟩
        obtain ⟨T43, h43, X43, e43, W43, st43⟩ := stI X27 hx hZ e27 Ar42 (j := (0 : Int32)) hin42 (g := (mkF m 132 #[oa ob0, oi p1, oi p2, oi (1 : Int32), oa b20, .val (.long ((pr24.toUInt64 >>> ((32 : Int32) &&& 0x3f).toInt64.toUInt64).toInt64)), vS, .val (.long ((p1.toInt64) &&& (4294967295 : Int64))), vS, oi (0 : Int32), oi (-1 : Int32), oj pr24, vS] [(.int (((pr24.toUInt64 >>> ((32 : Int32) &&& 0x3f).toInt64.toUInt64).toInt64).toInt32)), (.int (0 : Int32)), (.ref b20)])) rfl rfl (hb hby d12_132)
        have V43 := Arv.set Ar42 cq42 S42 Nn42 Hh42 Gg42 rfl W43 0 rfl (Nat.le_of_ble_eq_true rfl)
        have V43a : Arv Z h43 b20 k20 .int (2 : Int32) [(.int (((pr24.toUInt64 >>> ((32 : Int32) &&& 0x3f).toInt64.toUInt64).toInt64).toInt32)), (.int (pr24.toInt32))] (.int (0 : Int32)) := V43
        have N43 := Fr.snoc X43 N27 gz_b20
        obtain ⟨T44, h44, X44, e44, E44, A44, D44, -, st44⟩ := newO X43 hx hZ hown (own_w hw 71 rfl) (own_w hw 72 rfl) (own_w hw 52 rfl) e43 (g := (mkF m 133 #[oa ob0, oi p1, oi p2, oi (1 : Int32), oa b20, .val (.long ((pr24.toUInt64 >>> ((32 : Int32) &&& 0x3f).toInt64.toUInt64).toInt64)), vS, .val (.long ((p1.toInt64) &&& (4294967295 : Int64))), vS, oi (0 : Int32), oi (-1 : Int32), oj pr24, vS] [])) rfl (hb hby d12_133) (by decide) (by decide)
        obtain ⟨b44, q_b44⟩ : ∃ z, z = h43.size := ⟨_, rfl⟩
        rw [← q_b44] at A44 D44 st44
        have sz_b44 : h0.size ≤ b44 := Nat.le_trans (Nat.le_trans (Nat.le_trans E20.1 (Keep.of_wr W27).1) (Keep.of_wr W43).1) (Nat.le_of_eq q_b44.symm)
        have gz_b44 : n0 ≤ b44 := Nat.le_trans Z0 sz_b44
        have ne_b20_b44 : b20 ≠ b44 := Nat.ne_of_lt (Nat.lt_of_lt_of_le V43a.lt (Nat.le_of_eq q_b44.symm))
        have f45 := ((f22.other W27 ne_ob0_b20).other W43 ne_ob0_b20)
        have ne_ob0_b44 : ob0 ≠ b44 := Nat.ne_of_lt (Nat.lt_of_lt_of_le f45.lt (Nat.le_of_eq q_b44.symm))
        have F44_signum : Fld Z h44 b44 "java/math/BigInteger" "signum" "I" (.int (0 : Int32)) := D44 (Or.inr (own_w hw 85 rfl)) (ty := .int) (by decide)
        have F44_mag : Fld Z h44 b44 "java/math/BigInteger" "mag" "[I" .null := D44 (Or.inr (own_w hw 88 rfl)) (ty := (.array .int)) (by decide)
        obtain ⟨LL46, XL46, NL46⟩ : ∃ LL : List Loc, Stand p l e ({ frames := 3, cells := 3, slots := 13, locals := 81 } : Room) s m #[(.ref ob0), (.int p1), (.int p2)] below meth c T44 LL 2 8 ∧ Fr n0 LL := ⟨_, X44, N43⟩
        have f47 := (V43a.ext E44)
        have o48 : Old Z n0 h44 := (Old.ext (Old.wr (Old.wr (Old.ext O0 E20) W27 gz_b20) W43 gz_b20) E44)
        obtain ⟨_, _, ⟨T49, L49, k49, n49⟩, -, X49, ⟨Lc49, hQ49, l49, y49, z49⟩, st49⟩ := XL46.specialBack hx (y := own_y15) rfl hown (mvT hZ (own_w hw 127 rfl)) (mvT hZ (own_w hw 128 rfl)) (mvT hZ (own_w hw 129 rfl)) (by decide) (backOf (W := 1) (rmA18 l Z a0 hw [] b44 b20 k20 ((2 : Int32)) [(.int (((pr24.toUInt64 >>> ((32 : Int32) &&& 0x3f).toInt64.toUInt64).toInt64).toInt32)), (.int (pr24.toInt32))] (p2)  zr zm ps ng zk h44 n0 o48 G0 A44 F44_mag F44_signum f47 gz_b44 (by decide) (by decide)) hZ (own_w hw 129 rfl) (own_w hw 52 rfl) (by decide) (by decide)) (g := (mkF m 140 #[oa ob0, oi p1, oi p2, oi (1 : Int32), oa b20, .val (.long ((pr24.toUInt64 >>> ((32 : Int32) &&& 0x3f).toInt64.toUInt64).toInt64)), vS, .val (.long ((p1.toInt64) &&& (4294967295 : Int64))), vS, oi (0 : Int32), oi (-1 : Int32), oj pr24, vS] [(.int p2), (.ref b20), (.ref b44), (.ref b44)])) rfl (by rw [hml]; rfl) (Steps.refl _) (a := b44) (argsL := [(.ref b20), (.int p2)]) (rest := [(.ref b44)]) (lenOf own_pd9 rfl) rfl (own_W0 rfl) (hb hby d12_140) (fun _ _ => ⟨rfl, e44, (by decide : 2 + 0 ≤ _), (by decide : 8 + 0 ≤ _)⟩)
        dsimp only [Pt.U, Pt.locs, Pt.cells, Pt.slots] at X49 l49 y49 z49 st49 hQ49
        subst l49 y49 z49
        obtain ⟨rfl, Nq49, K49, Qe49, Qs49, Qm49⟩ := hQ49
        have N49 := Fr.app NL46 Nq49
        have g50 : ∀ t, FS p e below T49 m 143 #[oa ob0, oi p1, oi p2, oi (1 : Int32), oa b20, .val (.long ((pr24.toUInt64 >>> ((32 : Int32) &&& 0x3f).toInt64.toUInt64).toInt64)), vS, .val (.long ((p1.toInt64) &&& (4294967295 : Int64))), vS, oi (0 : Int32), oi (-1 : Int32), oj pr24, vS] [(.ref b44)] t → ES p e below s₁ m #[(.ref ob0), (.int p1), (.int p2)] 13 t := by
          intro t k
          refine g29 t ?_
          show FS p e below T27 m 108 #[oa ob0, oi p1, oi p2, oi (1 : Int32), oa b20, .val (.long ((pr24.toUInt64 >>> ((32 : Int32) &&& 0x3f).toInt64.toUInt64).toInt64)), vS, .val (.long ((p1.toInt64) &&& (4294967295 : Int64))), vS, oi (0 : Int32), oi (-1 : Int32), oj pr24, vS] [(.int (lcmpW ((pr24.toUInt64 >>> ((32 : Int32) &&& 0x3f).toInt64.toUInt64).toInt64) (0 : Int64)))] _
          refine XS.ifYes X27.here hx rfl (pc0 := 108) (pc' := 125) rfl (hb hby d12_108) rfl ((if0 _ _).trans (feq (fun q => hc28 ((lw_eq _ _).mp q))).2) (by decide) (by decide) ?_
          refine XS.aload X27.here hx rfl (hb hby d12_125) rfl rfl ?_
          refine XS.iload X27.here hx rfl (hb hby d12_127) rfl ?_
          refine XS.lload X27.here hx rfl (hb hby d12_129) rfl ?_
          refine XS.l2i X27.here hx rfl (hb hby d12_131) rfl ?_
          refine st43 _ ?_
          refine st44 _ ?_
          refine XS.dup X44.here hx rfl (hb hby d12_136) rfl rfl ?_
          refine XS.aload X44.here hx rfl (hb hby d12_137) rfl rfl ?_
          refine XS.iloadN X44.here hx rfl (hb hby d12_139) rfl ?_
          refine st49.trans ?_
          exact k
        obtain ⟨fs, hrt, hrun, hended, hW, hsame⟩ := X49.leave (v := some (.ref b44)) (fun h => by rw [Bd.returns] at h; cases h)
        have f51 := (f47.keep K49 (ninS ne_b20_b44 nin0))
        refine ⟨_, _, g50 _ ?_, hrun, hended, _, _, rfl, ?_, ⟨_, rfl⟩, hW, hsame.mono (by decide) (by decide)⟩
        · show Steps p.tables e below (T49.setTop (mkF m 143 #[oa ob0, oi p1, oi p2, oi (1 : Int32), oa b20, .val (.long ((pr24.toUInt64 >>> ((32 : Int32) &&& 0x3f).toInt64.toUInt64).toInt64)), vS, .val (.long ((p1.toInt64) &&& (4294967295 : Int64))), vS, oi (0 : Int32), oi (-1 : Int32), oj pr24, vS] [(.ref b44)])) _
          jvm_step X49.here [X49.here.top, hx, (hb hby d12_143), X49.method', Bd.returns, Value.isRef, FieldType.isReference]
          first | (intro acts; rw [hrt _ acts rfl rfl rfl]) | rw [hrt _ _ rfl rfl rfl]
          exact Steps.refl _
        · show own_Q_rmA8 Z ob0 k_ob0 ob0_z ob0_l p1 p2 zr zm ps ng zk h0 n0 _ T49.heap _
          exact ⟨b44, b20, _, _, _, _, rfl, N49, (Keep.trans (Keep.ext (Keep.wr (Keep.wr (Keep.ext (Keep.refl h0 []) E20) W27 (Or.inr sz_b20)) W43 (Or.inr sz_b20)) E44) K49 (allS (Or.inr sz_b44) all0)), Qe49, Qs49, Qm49, f51, ⟨rfl, by decide⟩⟩
    · obtain ⟨x0, x1, Vc18⟩ := own_conc2 (own_reZ hz18 V_ob0)
      obtain ⟨c52, Ar52, cq52, S52, Nn52, Hh52, Gg52⟩ := id Vc18
      obtain ⟨T53, h53, k53, X53, e53, E53, A53, st53⟩ := newP X1 hx hZ (own_w hw 86 rfl) e1 (g := (mkF m 31 #[oa ob0, oi p1, oi p2, oi (2 : Int32), vU, vU, vU, vU, vU, vU, vU, vU, vU] [(.int (3 : Int32))])) rfl (hb hby d12_31) rfl (by decide) (cap := 3) (by decide) (by decide) (by decide) (by decide)
      obtain ⟨b53, q_b53⟩ : ∃ z, z = h0.size := ⟨_, rfl⟩
      rw [← q_b53] at A53 st53
      have sz_b53 : h0.size ≤ b53 := Nat.le_of_eq q_b53.symm
      have gz_b53 : n0 ≤ b53 := Nat.le_trans Z0 sz_b53
      have ne_ob0_b53 : ob0 ≠ b53 := Nat.ne_of_lt (Nat.lt_of_lt_of_le Vc18.lt (Nat.le_of_eq q_b53.symm))
      have V53 : Arv Z h53 b53 k53 .int (3 : Int32) [(.int (0 : Int32)), (.int (0 : Int32)), (.int (0 : Int32))] (.int (0 : Int32)) := (Arv.new A53 (by decide)).pad (pad_rep [] (.int (0 : Int32)) 3)
      obtain ⟨c54, Ar54, cq54, S54, Nn54, Hh54, Gg54⟩ := id V53
      have f55 := (Vc18.ext E53)
      obtain ⟨c56, Ar56, cq56, S56, Nn56, Hh56, Gg56⟩ := id f55
      have hin56 : ¬ ((1 : Int32) < 0 ∨ c56.slots.size ≤ ((1 : Int32)).toNatClampNeg) := inb_of S56 ⟨by decide, by decide⟩
      have hat56 : c56.slots[((1 : Int32)).toNatClampNeg]? = some (.int x1) := Has.at Hh56 hin56 rfl
      obtain ⟨pr57, hv_pr57⟩ : ∃ z : Int64, z = ((((x1.toInt64) &&& (4294967295 : Int64)) * ((p1.toInt64) &&& (4294967295 : Int64))) + (0 : Int64)) := ⟨_, rfl⟩
      have g58 : ∀ t, FS p e below T53 m 78 #[oa ob0, oi p1, oi p2, oi (2 : Int32), oa b53, oj (0 : Int64), vS, .val (.long ((p1.toInt64) &&& (4294967295 : Int64))), vS, oi (2 : Int32), oi (1 : Int32), vU, vU] [(.long pr57)] t → ES p e below s₁ m #[(.ref ob0), (.int p1), (.int p2)] 13 t := by
        intro t k
        rw [hv_pr57] at k
        refine g17 t ?_
        show FS p e below T1 m 25 #[oa ob0, oi p1, oi p2, vU, vU, vU, vU, vU, vU, vU, vU, vU, vU] [] _
        refine XS.aloadN X1.here hx rfl (hb hby d12_25) rfl rfl ?_
        show FS p e below T1 m 26 #[oa ob0, oi p1, oi p2, vU, vU, vU, vU, vU, vU, vU, vU, vU, vU] [(.ref ob0)] _
        refine X1.arraylength hx (by rw [e1]; exact Ar52.1) (State.isArrayOf_alike hZ.alike Ar52.2.1) (g := (mkF m 26 #[oa ob0, oi p1, oi p2, vU, vU, vU, vU, vU, vU, vU, vU, vU, vU] [(.ref ob0)])) rfl rfl (hb hby d12_26) _ ?_
        rw [len_of S52 Nn52]
        refine XS.istoreN X1.here hx rfl (hb hby d12_27) rfl (l' := #[oa ob0, oi p1, oi p2, oi (2 : Int32), vU, vU, vU, vU, vU, vU, vU, vU, vU]) rfl ?_
        refine XS.iloadN X1.here hx rfl (hb hby d12_28) rfl ?_
        refine XS.iconst X1.here hx rfl (hb hby d12_29) ?_
        show FS p e below T1 m 30 #[oa ob0, oi p1, oi p2, oi (2 : Int32), vU, vU, vU, vU, vU, vU, vU, vU, vU] [(.int (1 : Int32)), (.int (2 : Int32))] _
        refine XS.iadd X1.here hx rfl (hb hby d12_30) rfl ?_
        rw [show ((2 : Int32) + (1 : Int32)) = (3 : Int32) from by decide]
        refine st53 _ ?_
        refine XS.astore X53.here hx rfl (hb hby d12_33) rfl rfl (l' := #[oa ob0, oi p1, oi p2, oi (2 : Int32), oa b53, vU, vU, vU, vU, vU, vU, vU, vU]) rfl ?_
        refine XS.lconst X53.here hx rfl (hb hby d12_35) ?_
        refine XS.lstore X53.here hx rfl (hb hby d12_36) rfl (l' := #[oa ob0, oi p1, oi p2, oi (2 : Int32), oa b53, oj (0 : Int64), vS, vU, vU, vU, vU, vU, vU]) rfl ?_
        refine XS.iloadN X53.here hx rfl (hb hby d12_38) rfl ?_
        refine XS.i2l X53.here hx rfl (hb hby d12_39) rfl ?_
        refine X53.ldc2Long hx hown (mvT hZ (own_w hw 153 rfl)) (g := (mkF m 40 #[oa ob0, oi p1, oi p2, oi (2 : Int32), oa b53, oj (0 : Int64), vS, vU, vU, vU, vU, vU, vU] [(.long (p1.toInt64))])) rfl (hb hby d12_40) _ ?_
        refine XS.land X53.here hx rfl (hb hby d12_43) rfl ?_
        refine XS.lstore X53.here hx rfl (hb hby d12_44) rfl (l' := #[oa ob0, oi p1, oi p2, oi (2 : Int32), oa b53, oj (0 : Int64), vS, .val (.long ((p1.toInt64) &&& (4294967295 : Int64))), vS, vU, vU, vU, vU]) rfl ?_
        refine XS.aload X53.here hx rfl (hb hby d12_46) rfl rfl ?_
        show FS p e below T53 m 48 #[oa ob0, oi p1, oi p2, oi (2 : Int32), oa b53, oj (0 : Int64), vS, .val (.long ((p1.toInt64) &&& (4294967295 : Int64))), vS, vU, vU, vU, vU] [(.ref b53)] _
        refine X53.arraylength hx (by rw [e53]; exact Ar54.1) (State.isArrayOf_alike hZ.alike Ar54.2.1) (g := (mkF m 48 #[oa ob0, oi p1, oi p2, oi (2 : Int32), oa b53, oj (0 : Int64), vS, .val (.long ((p1.toInt64) &&& (4294967295 : Int64))), vS, vU, vU, vU, vU] [(.ref b53)])) rfl rfl (hb hby d12_48) _ ?_
        rw [len_of S54 Nn54]
        refine XS.iconst X53.here hx rfl (hb hby d12_49) ?_
        show FS p e below T53 m 50 #[oa ob0, oi p1, oi p2, oi (2 : Int32), oa b53, oj (0 : Int64), vS, .val (.long ((p1.toInt64) &&& (4294967295 : Int64))), vS, vU, vU, vU, vU] [(.int (1 : Int32)), (.int (3 : Int32))] _
        refine XS.isub X53.here hx rfl (hb hby d12_50) rfl ?_
        rw [show ((3 : Int32) - (1 : Int32)) = (2 : Int32) from by decide]
        refine XS.istore X53.here hx rfl (hb hby d12_51) rfl (l' := #[oa ob0, oi p1, oi p2, oi (2 : Int32), oa b53, oj (0 : Int64), vS, .val (.long ((p1.toInt64) &&& (4294967295 : Int64))), vS, oi (2 : Int32), vU, vU, vU]) rfl ?_
        refine XS.iloadN X53.here hx rfl (hb hby d12_53) rfl ?_
        refine XS.iconst X53.here hx rfl (hb hby d12_54) ?_
        show FS p e below T53 m 55 #[oa ob0, oi p1, oi p2, oi (2 : Int32), oa b53, oj (0 : Int64), vS, .val (.long ((p1.toInt64) &&& (4294967295 : Int64))), vS, oi (2 : Int32), vU, vU, vU] [(.int (1 : Int32)), (.int (2 : Int32))] _
        refine XS.isub X53.here hx rfl (hb hby d12_55) rfl ?_
        rw [show ((2 : Int32) - (1 : Int32)) = (1 : Int32) from by decide]
        refine XS.istore X53.here hx rfl (hb hby d12_56) rfl (l' := #[oa ob0, oi p1, oi p2, oi (2 : Int32), oa b53, oj (0 : Int64), vS, .val (.long ((p1.toInt64) &&& (4294967295 : Int64))), vS, oi (2 : Int32), oi (1 : Int32), vU, vU]) rfl ?_
        refine XS.iload X53.here hx rfl (hb hby d12_58) rfl ?_
        refine XS.ifNo X53.here hx rfl (hb hby d12_60) rfl ((if0 _ _).trans (flt (by decide : ¬ ((1 : Int32) < (0 : Int32)))).1) ?_
        refine XS.aloadN X53.here hx rfl (hb hby d12_63) rfl rfl ?_
        refine XS.iload X53.here hx rfl (hb hby d12_64) rfl ?_
        refine X53.iaload hx (j := (1 : Int32)) (v := (.int x1)) (by rw [e53]; exact Ar56.1) (State.isArrayOf_alike hZ.alike Ar56.2.1) Ar56.2.2 hin56 hat56 (g := (mkF m 66 #[oa ob0, oi p1, oi p2, oi (2 : Int32), oa b53, oj (0 : Int64), vS, .val (.long ((p1.toInt64) &&& (4294967295 : Int64))), vS, oi (2 : Int32), oi (1 : Int32), vU, vU] [(.int (1 : Int32)), (.ref ob0)])) rfl rfl (hb hby d12_66) _ ?_
        refine XS.i2l X53.here hx rfl (hb hby d12_67) rfl ?_
        refine X53.ldc2Long hx hown (mvT hZ (own_w hw 153 rfl)) (g := (mkF m 68 #[oa ob0, oi p1, oi p2, oi (2 : Int32), oa b53, oj (0 : Int64), vS, .val (.long ((p1.toInt64) &&& (4294967295 : Int64))), vS, oi (2 : Int32), oi (1 : Int32), vU, vU] [(.long (x1.toInt64))])) rfl (hb hby d12_68) _ ?_
        refine XS.land X53.here hx rfl (hb hby d12_71) rfl ?_
        show FS p e below T53 m 72 #[oa ob0, oi p1, oi p2, oi (2 : Int32), oa b53, oj (0 : Int64), vS, .val (.long ((p1.toInt64) &&& (4294967295 : Int64))), vS, oi (2 : Int32), oi (1 : Int32), vU, vU] [(.long ((x1.toInt64) &&& (4294967295 : Int64)))] _
        refine XS.lload X53.here hx rfl (hb hby d12_72) rfl ?_
        refine XS.lmul X53.here hx rfl (hb hby d12_74) rfl ?_
        refine XS.lload X53.here hx rfl (hb hby d12_75) rfl ?_
        refine XS.ladd X53.here hx rfl (hb hby d12_77) rfl ?_
        exact k
      obtain ⟨c59, Ar59, cq59, S59, Nn59, Hh59, Gg59⟩ := id V53
      have hin59 : ¬ ((2 : Int32) < 0 ∨ c59.slots.size ≤ ((2 : Int32)).toNatClampNeg) := inb_of S59 ⟨by decide, by decide⟩
      obtain ⟨T60, h60, X60, e60, W60, st60⟩ := stI X53 hx hZ e53 Ar59 (j := (2 : Int32)) hin59 (g := (mkF m 90 #[oa ob0, oi p1, oi p2, oi (2 : Int32), oa b53, oj (0 : Int64), vS, .val (.long ((p1.toInt64) &&& (4294967295 : Int64))), vS, oi (1 : Int32), oi (1 : Int32), oj pr57, vS] [(.int (pr57.toInt32)), (.int (2 : Int32)), (.ref b53)])) rfl rfl (hb hby d12_90)
      have V60 := Arv.set Ar59 cq59 S59 Nn59 Hh59 Gg59 rfl W60 2 rfl (Nat.le_of_ble_eq_true rfl)
      have V60a : Arv Z h60 b53 k53 .int (3 : Int32) [(.int (0 : Int32)), (.int (0 : Int32)), (.int (pr57.toInt32))] (.int (0 : Int32)) := V60
      have N60 := Fr.snoc X60 N1 gz_b53
      have f61 := (f55.other W60 ne_ob0_b53)
      obtain ⟨c62, Ar62, cq62, S62, Nn62, Hh62, Gg62⟩ := id f61
      have hin62 : ¬ ((0 : Int32) < 0 ∨ c62.slots.size ≤ ((0 : Int32)).toNatClampNeg) := inb_of S62 ⟨by decide, by decide⟩
      have hat62 : c62.slots[((0 : Int32)).toNatClampNeg]? = some (.int x0) := Has.at Hh62 hin62 rfl
      obtain ⟨pr63, hv_pr63⟩ : ∃ z : Int64, z = ((((x0.toInt64) &&& (4294967295 : Int64)) * ((p1.toInt64) &&& (4294967295 : Int64))) + ((pr57.toUInt64 >>> ((32 : Int32) &&& 0x3f).toInt64.toUInt64).toInt64)) := ⟨_, rfl⟩
      have g64 : ∀ t, FS p e below T60 m 78 #[oa ob0, oi p1, oi p2, oi (2 : Int32), oa b53, .val (.long ((pr57.toUInt64 >>> ((32 : Int32) &&& 0x3f).toInt64.toUInt64).toInt64)), vS, .val (.long ((p1.toInt64) &&& (4294967295 : Int64))), vS, oi (1 : Int32), oi (0 : Int32), oj pr57, vS] [(.long pr63)] t → ES p e below s₁ m #[(.ref ob0), (.int p1), (.int p2)] 13 t := by
        intro t k
        rw [hv_pr63] at k
        refine g58 t ?_
        show FS p e below T53 m 78 #[oa ob0, oi p1, oi p2, oi (2 : Int32), oa b53, oj (0 : Int64), vS, .val (.long ((p1.toInt64) &&& (4294967295 : Int64))), vS, oi (2 : Int32), oi (1 : Int32), vU, vU] [(.long pr57)] _
        refine XS.lstore X53.here hx rfl (hb hby d12_78) rfl (l' := #[oa ob0, oi p1, oi p2, oi (2 : Int32), oa b53, oj (0 : Int64), vS, .val (.long ((p1.toInt64) &&& (4294967295 : Int64))), vS, oi (2 : Int32), oi (1 : Int32), oj pr57, vS]) rfl ?_
        refine XS.aload X53.here hx rfl (hb hby d12_80) rfl rfl ?_
        refine XS.iload X53.here hx rfl (hb hby d12_82) rfl ?_
        show FS p e below T53 m 84 #[oa ob0, oi p1, oi p2, oi (2 : Int32), oa b53, oj (0 : Int64), vS, .val (.long ((p1.toInt64) &&& (4294967295 : Int64))), vS, oi (2 : Int32), oi (1 : Int32), oj pr57, vS] [(.int (2 : Int32)), (.ref b53)] _
        refine XS.iinc X53.here hx rfl (hb hby d12_84) rfl (l' := #[oa ob0, oi p1, oi p2, oi (2 : Int32), oa b53, oj (0 : Int64), vS, .val (.long ((p1.toInt64) &&& (4294967295 : Int64))), vS, .val (.int ((2 : Int32) + (-1 : Int32))), oi (1 : Int32), oj pr57, vS]) rfl ?_
        rw [show ((2 : Int32) + (-1 : Int32)) = (1 : Int32) from by decide]
        refine XS.lload X53.here hx rfl (hb hby d12_87) rfl ?_
        refine XS.l2i X53.here hx rfl (hb hby d12_89) rfl ?_
        refine st60 _ ?_
        refine XS.lload X60.here hx rfl (hb hby d12_91) rfl ?_
        refine XS.bipush X60.here hx rfl (hb hby d12_93) ?_
        refine XS.lushr X60.here hx rfl (hb hby d12_95) rfl ?_
        refine XS.lstore X60.here hx rfl (hb hby d12_96) rfl (l' := #[oa ob0, oi p1, oi p2, oi (2 : Int32), oa b53, .val (.long ((pr57.toUInt64 >>> ((32 : Int32) &&& 0x3f).toInt64.toUInt64).toInt64)), vS, .val (.long ((p1.toInt64) &&& (4294967295 : Int64))), vS, oi (1 : Int32), oi (1 : Int32), oj pr57, vS]) rfl ?_
        show FS p e below T60 m 98 #[oa ob0, oi p1, oi p2, oi (2 : Int32), oa b53, .val (.long ((pr57.toUInt64 >>> ((32 : Int32) &&& 0x3f).toInt64.toUInt64).toInt64)), vS, .val (.long ((p1.toInt64) &&& (4294967295 : Int64))), vS, oi (1 : Int32), oi (1 : Int32), oj pr57, vS] [] _
        refine XS.iinc X60.here hx rfl (hb hby d12_98) rfl (l' := #[oa ob0, oi p1, oi p2, oi (2 : Int32), oa b53, .val (.long ((pr57.toUInt64 >>> ((32 : Int32) &&& 0x3f).toInt64.toUInt64).toInt64)), vS, .val (.long ((p1.toInt64) &&& (4294967295 : Int64))), vS, oi (1 : Int32), .val (.int ((1 : Int32) + (-1 : Int32))), oj pr57, vS]) rfl ?_
        rw [show ((1 : Int32) + (-1 : Int32)) = (0 : Int32) from by decide]
        refine XS.goto X60.here hx rfl (pc0 := 101) (pc' := 58) rfl (hb hby d12_101) (by decide) (by decide) ?_
        refine XS.iload X60.here hx rfl (hb hby d12_58) rfl ?_
        refine XS.ifNo X60.here hx rfl (hb hby d12_60) rfl ((if0 _ _).trans (flt (by decide : ¬ ((0 : Int32) < (0 : Int32)))).1) ?_
        refine XS.aloadN X60.here hx rfl (hb hby d12_63) rfl rfl ?_
        show FS p e below T60 m 64 #[oa ob0, oi p1, oi p2, oi (2 : Int32), oa b53, .val (.long ((pr57.toUInt64 >>> ((32 : Int32) &&& 0x3f).toInt64.toUInt64).toInt64)), vS, .val (.long ((p1.toInt64) &&& (4294967295 : Int64))), vS, oi (1 : Int32), oi (0 : Int32), oj pr57, vS] [(.ref ob0)] _
        refine XS.iload X60.here hx rfl (hb hby d12_64) rfl ?_
        refine X60.iaload hx (j := (0 : Int32)) (v := (.int x0)) (by rw [e60]; exact Ar62.1) (State.isArrayOf_alike hZ.alike Ar62.2.1) Ar62.2.2 hin62 hat62 (g := (mkF m 66 #[oa ob0, oi p1, oi p2, oi (2 : Int32), oa b53, .val (.long ((pr57.toUInt64 >>> ((32 : Int32) &&& 0x3f).toInt64.toUInt64).toInt64)), vS, .val (.long ((p1.toInt64) &&& (4294967295 : Int64))), vS, oi (1 : Int32), oi (0 : Int32), oj pr57, vS] [(.int (0 : Int32)), (.ref ob0)])) rfl rfl (hb hby d12_66) _ ?_
        refine XS.i2l X60.here hx rfl (hb hby d12_67) rfl ?_
        refine X60.ldc2Long hx hown (mvT hZ (own_w hw 153 rfl)) (g := (mkF m 68 #[oa ob0, oi p1, oi p2, oi (2 : Int32), oa b53, .val (.long ((pr57.toUInt64 >>> ((32 : Int32) &&& 0x3f).toInt64.toUInt64).toInt64)), vS, .val (.long ((p1.toInt64) &&& (4294967295 : Int64))), vS, oi (1 : Int32), oi (0 : Int32), oj pr57, vS] [(.long (x0.toInt64))])) rfl (hb hby d12_68) _ ?_
        refine XS.land X60.here hx rfl (hb hby d12_71) rfl ?_
        refine XS.lload X60.here hx rfl (hb hby d12_72) rfl ?_
        refine XS.lmul X60.here hx rfl (hb hby d12_74) rfl ?_
        refine XS.lload X60.here hx rfl (hb hby d12_75) rfl ?_
        refine XS.ladd X60.here hx rfl (hb hby d12_77) rfl ?_
        exact k
      obtain ⟨c65, Ar65, cq65, S65, Nn65, Hh65, Gg65⟩ := id V60a
      have hin65 : ¬ ((1 : Int32) < 0 ∨ c65.slots.size ≤ ((1 : Int32)).toNatClampNeg) := inb_of S65 ⟨by decide, by decide⟩
      obtain ⟨T66, h66, X66, e66, W66, st66⟩ := stI X60 hx hZ e60 Ar65 (j := (1 : Int32)) hin65 (g := (mkF m 90 #[oa ob0, oi p1, oi p2, oi (2 : Int32), oa b53, .val (.long ((pr57.toUInt64 >>> ((32 : Int32) &&& 0x3f).toInt64.toUInt64).toInt64)), vS, .val (.long ((p1.toInt64) &&& (4294967295 : Int64))), vS, oi (0 : Int32), oi (0 : Int32), oj pr63, vS] [(.int (pr63.toInt32)), (.int (1 : Int32)), (.ref b53)])) rfl rfl (hb hby d12_90)
      have V66 := Arv.set Ar65 cq65 S65 Nn65 Hh65 Gg65 rfl W66 1 rfl (Nat.le_of_ble_eq_true rfl)
      have V66a : Arv Z h66 b53 k53 .int (3 : Int32) [(.int (0 : Int32)), (.int (pr63.toInt32)), (.int (pr57.toInt32))] (.int (0 : Int32)) := V66
      have N66 := Fr.snoc X66 N60 gz_b53
      have g68 : ∀ t, FS p e below T66 m 108 #[oa ob0, oi p1, oi p2, oi (2 : Int32), oa b53, .val (.long ((pr63.toUInt64 >>> ((32 : Int32) &&& 0x3f).toInt64.toUInt64).toInt64)), vS, .val (.long ((p1.toInt64) &&& (4294967295 : Int64))), vS, oi (0 : Int32), oi (-1 : Int32), oj pr63, vS] [(.int (lcmpW ((pr63.toUInt64 >>> ((32 : Int32) &&& 0x3f).toInt64.toUInt64).toInt64) (0 : Int64)))] t → ES p e below s₁ m #[(.ref ob0), (.int p1), (.int p2)] 13 t := by
        intro t k
        refine g64 t ?_
        show FS p e below T60 m 78 #[oa ob0, oi p1, oi p2, oi (2 : Int32), oa b53, .val (.long ((pr57.toUInt64 >>> ((32 : Int32) &&& 0x3f).toInt64.toUInt64).toInt64)), vS, .val (.long ((p1.toInt64) &&& (4294967295 : Int64))), vS, oi (1 : Int32), oi (0 : Int32), oj pr57, vS] [(.long pr63)] _
        refine XS.lstore X60.here hx rfl (hb hby d12_78) rfl (l' := #[oa ob0, oi p1, oi p2, oi (2 : Int32), oa b53, .val (.long ((pr57.toUInt64 >>> ((32 : Int32) &&& 0x3f).toInt64.toUInt64).toInt64)), vS, .val (.long ((p1.toInt64) &&& (4294967295 : Int64))), vS, oi (1 : Int32), oi (0 : Int32), oj pr63, vS]) rfl ?_
        refine XS.aload X60.here hx rfl (hb hby d12_80) rfl rfl ?_
        refine XS.iload X60.here hx rfl (hb hby d12_82) rfl ?_
        show FS p e below T60 m 84 #[oa ob0, oi p1, oi p2, oi (2 : Int32), oa b53, .val (.long ((pr57.toUInt64 >>> ((32 : Int32) &&& 0x3f).toInt64.toUInt64).toInt64)), vS, .val (.long ((p1.toInt64) &&& (4294967295 : Int64))), vS, oi (1 : Int32), oi (0 : Int32), oj pr63, vS] [(.int (1 : Int32)), (.ref b53)] _
        refine XS.iinc X60.here hx rfl (hb hby d12_84) rfl (l' := #[oa ob0, oi p1, oi p2, oi (2 : Int32), oa b53, .val (.long ((pr57.toUInt64 >>> ((32 : Int32) &&& 0x3f).toInt64.toUInt64).toInt64)), vS, .val (.long ((p1.toInt64) &&& (4294967295 : Int64))), vS, .val (.int ((1 : Int32) + (-1 : Int32))), oi (0 : Int32), oj pr63, vS]) rfl ?_
        rw [show ((1 : Int32) + (-1 : Int32)) = (0 : Int32) from by decide]
        refine XS.lload X60.here hx rfl (hb hby d12_87) rfl ?_
        refine XS.l2i X60.here hx rfl (hb hby d12_89) rfl ?_
        refine st66 _ ?_
        refine XS.lload X66.here hx rfl (hb hby d12_91) rfl ?_
        refine XS.bipush X66.here hx rfl (hb hby d12_93) ?_
        refine XS.lushr X66.here hx rfl (hb hby d12_95) rfl ?_
        refine XS.lstore X66.here hx rfl (hb hby d12_96) rfl (l' := #[oa ob0, oi p1, oi p2, oi (2 : Int32), oa b53, .val (.long ((pr63.toUInt64 >>> ((32 : Int32) &&& 0x3f).toInt64.toUInt64).toInt64)), vS, .val (.long ((p1.toInt64) &&& (4294967295 : Int64))), vS, oi (0 : Int32), oi (0 : Int32), oj pr63, vS]) rfl ?_
        show FS p e below T66 m 98 #[oa ob0, oi p1, oi p2, oi (2 : Int32), oa b53, .val (.long ((pr63.toUInt64 >>> ((32 : Int32) &&& 0x3f).toInt64.toUInt64).toInt64)), vS, .val (.long ((p1.toInt64) &&& (4294967295 : Int64))), vS, oi (0 : Int32), oi (0 : Int32), oj pr63, vS] [] _
        refine XS.iinc X66.here hx rfl (hb hby d12_98) rfl (l' := #[oa ob0, oi p1, oi p2, oi (2 : Int32), oa b53, .val (.long ((pr63.toUInt64 >>> ((32 : Int32) &&& 0x3f).toInt64.toUInt64).toInt64)), vS, .val (.long ((p1.toInt64) &&& (4294967295 : Int64))), vS, oi (0 : Int32), .val (.int ((0 : Int32) + (-1 : Int32))), oj pr63, vS]) rfl ?_
        rw [show ((0 : Int32) + (-1 : Int32)) = (-1 : Int32) from by decide]
        refine XS.goto X66.here hx rfl (pc0 := 101) (pc' := 58) rfl (hb hby d12_101) (by decide) (by decide) ?_
        refine XS.iload X66.here hx rfl (hb hby d12_58) rfl ?_
        refine XS.ifYes X66.here hx rfl (pc0 := 60) (pc' := 104) rfl (hb hby d12_60) rfl ((if0 _ _).trans (tlt (by decide : (-1 : Int32) < (0 : Int32))).1) (by decide) (by decide) ?_
        refine XS.lload X66.here hx rfl (hb hby d12_104) rfl ?_
        show FS p e below T66 m 106 #[oa ob0, oi p1, oi p2, oi (2 : Int32), oa b53, .val (.long ((pr63.toUInt64 >>> ((32 : Int32) &&& 0x3f).toInt64.toUInt64).toInt64)), vS, .val (.long ((p1.toInt64) &&& (4294967295 : Int64))), vS, oi (0 : Int32), oi (-1 : Int32), oj pr63, vS] [(.long ((pr63.toUInt64 >>> ((32 : Int32) &&& 0x3f).toInt64.toUInt64).toInt64))] _
        refine XS.lconst X66.here hx rfl (hb hby d12_106) ?_
        refine XS.lcmp X66.here hx rfl (hb hby d12_107) rfl ?_
        exact k
      by_cases hc67 : ((pr63.toUInt64 >>> ((32 : Int32) &&& 0x3f).toInt64.toUInt64).toInt64) = (0 : Int64)
      · obtain ⟨c69, Ar69, cq69, S69, Nn69, Hh69, Gg69⟩ := id V66a
        obtain ⟨LL70, XL70, NL70⟩ : ∃ LL : List Loc, Stand p l e ({ frames := 3, cells := 3, slots := 13, locals := 81 } : Room) s m #[(.ref ob0), (.int p1), (.int p2)] below meth c T66 LL 1 3 ∧ Fr n0 LL := ⟨_, X66, N66⟩
        have o71 : Old Z n0 h66 := (Old.wr (Old.wr (Old.ext O0 E53) W60 gz_b53) W66 gz_b53)
        obtain ⟨_, _, ⟨T72, L72, k72, n72⟩, -, X72, ⟨Lc72, hQ72, l72, y72, z72⟩, st72⟩ := Jvm.LawKit.callS XL70 hx (y := own_y16) hown (mvT hZ (own_w hw 154 rfl)) (mvT hZ (own_w hw 155 rfl)) (mvT hZ (own_w hw 156 rfl)) (mvT hZ (own_w hw 157 rfl)) (by decide) (backOf (W := 0) (rmA19 l Z a0 hw [] b53 k53 ((3 : Int32)) [(.int (0 : Int32)), (.int (pr63.toInt32)), (.int (pr57.toInt32))] ((1 : Int32)) ((3 : Int32)) (2 : Int32) zr zm ps ng zk h66 n0 o71 G0 V66a  (by decide) (by decide) (by decide) (by decide) (by decide) (by decide) (by decide) (by decide)) hZ (own_w hw 157 rfl) (own_w hw 156 rfl) (by decide) (by decide)) (g := (mkF m 117 #[oa ob0, oi p1, oi p2, oi (2 : Int32), oa b53, .val (.long ((pr63.toUInt64 >>> ((32 : Int32) &&& 0x3f).toInt64.toUInt64).toInt64)), vS, .val (.long ((p1.toInt64) &&& (4294967295 : Int64))), vS, oi (0 : Int32), oi (-1 : Int32), oj pr63, vS] [(.int (3 : Int32)), (.int (1 : Int32)), (.ref b53)])) rfl (by rw [hml]; rfl) (argsL := [(.ref b53), (.int (1 : Int32)), (.int (3 : Int32))]) (rest := []) (lenOf own_pd12 rfl) rfl (own_W0 rfl) (hb hby d12_117) (fun _ _ => ⟨rfl, e66, (by decide : 1 + 1 ≤ _), (by decide : 3 + 4 ≤ _)⟩)
        dsimp only [Pt.U, Pt.locs, Pt.cells, Pt.slots] at X72 l72 y72 z72 st72 hQ72
        subst l72 y72 z72
        obtain ⟨rb72, rk72, rl72, rfl, Nq72, K72, hb72, Va72⟩ := hQ72
        have N72 := Fr.app NL70 Nq72
        have sz_rb72 : h0.size ≤ rb72 := Nat.le_trans (Nat.le_trans (Nat.le_trans E53.1 (Keep.of_wr W60).1) (Keep.of_wr W66).1) hb72
        have gz_rb72 : n0 ≤ rb72 := Nat.le_trans Z0 sz_rb72
        have ne_b53_rb72 : b53 ≠ rb72 := Nat.ne_of_lt (Nat.lt_of_lt_of_le V66a.lt hb72)
        have ne_ob0_rb72 : ob0 ≠ rb72 := Nat.ne_of_lt (Nat.lt_of_lt_of_le (f61.other W66 ne_ob0_b53).lt hb72)
        obtain ⟨T73, h73, X73, e73, E73, A73, D73, -, st73⟩ := newO X72 hx hZ hown (own_w hw 71 rfl) (own_w hw 72 rfl) (own_w hw 52 rfl) rfl (g := (mkF m 133 #[oa ob0, oi p1, oi p2, oi (2 : Int32), oa rb72, .val (.long ((pr63.toUInt64 >>> ((32 : Int32) &&& 0x3f).toInt64.toUInt64).toInt64)), vS, .val (.long ((p1.toInt64) &&& (4294967295 : Int64))), vS, oi (0 : Int32), oi (-1 : Int32), oj pr63, vS] [])) rfl (hb hby d12_133) (by decide) (by decide)
        obtain ⟨b73, q_b73⟩ : ∃ z, z = T72.heap.size := ⟨_, rfl⟩
        rw [← q_b73] at A73 D73 st73
        have sz_b73 : h0.size ≤ b73 := Nat.le_trans (Nat.le_trans (Nat.le_trans (Nat.le_trans E53.1 (Keep.of_wr W60).1) (Keep.of_wr W66).1) K72.1) (Nat.le_of_eq q_b73.symm)
        have gz_b73 : n0 ≤ b73 := Nat.le_trans Z0 sz_b73
        have f74 := (V66a.keep K72 nin0)
        have ne_b53_b73 : b53 ≠ b73 := Nat.ne_of_lt (Nat.lt_of_lt_of_le f74.lt (Nat.le_of_eq q_b73.symm))
        have f75 := ((f61.other W66 ne_ob0_b53).keep K72 nin0)
        have ne_ob0_b73 : ob0 ≠ b73 := Nat.ne_of_lt (Nat.lt_of_lt_of_le f75.lt (Nat.le_of_eq q_b73.symm))
        have ne_rb72_b73 : rb72 ≠ b73 := Nat.ne_of_lt (Nat.lt_of_lt_of_le Va72.lt (Nat.le_of_eq q_b73.symm))
        have F73_signum : Fld Z h73 b73 "java/math/BigInteger" "signum" "I" (.int (0 : Int32)) := D73 (Or.inr (own_w hw 85 rfl)) (ty := .int) (by decide)
        have F73_mag : Fld Z h73 b73 "java/math/BigInteger" "mag" "[I" .null := D73 (Or.inr (own_w hw 88 rfl)) (ty := (.array .int)) (by decide)
        have f76 := (Va72.ext E73)
        have o77 : Old Z n0 h73 := (Old.ext (Old.keep o71 K72 all0) E73)
        obtain ⟨_, _, ⟨T78, L78, k78, n78⟩, -, X78, ⟨Lc78, hQ78, l78, y78, z78⟩, st78⟩ := X73.specialBack hx (y := own_y15) rfl hown (mvT hZ (own_w hw 127 rfl)) (mvT hZ (own_w hw 128 rfl)) (mvT hZ (own_w hw 129 rfl)) (by decide) (backOf (W := 1) (rmA18 l Z a0 hw [] b73 rb72 rk72 ((2 : Int32)) rl72 (p2)  zr zm ps ng zk h73 n0 o77 G0 A73 F73_mag F73_signum f76 gz_b73 (by decide) (by decide)) hZ (own_w hw 129 rfl) (own_w hw 52 rfl) (by decide) (by decide)) (g := (mkF m 140 #[oa ob0, oi p1, oi p2, oi (2 : Int32), oa rb72, .val (.long ((pr63.toUInt64 >>> ((32 : Int32) &&& 0x3f).toInt64.toUInt64).toInt64)), vS, .val (.long ((p1.toInt64) &&& (4294967295 : Int64))), vS, oi (0 : Int32), oi (-1 : Int32), oj pr63, vS] [(.int p2), (.ref rb72), (.ref b73), (.ref b73)])) rfl (by rw [hml]; rfl) (Steps.refl _) (a := b73) (argsL := [(.ref rb72), (.int p2)]) (rest := [(.ref b73)]) (lenOf own_pd9 rfl) rfl (own_W0 rfl) (hb hby d12_140) (fun _ _ => ⟨rfl, e73, (by decide : 3 + 0 ≤ _), (by decide : 13 + 0 ≤ _)⟩)
        dsimp only [Pt.U, Pt.locs, Pt.cells, Pt.slots] at X78 l78 y78 z78 st78 hQ78
        subst l78 y78 z78
        obtain ⟨rfl, Nq78, K78, Qe78, Qs78, Qm78⟩ := hQ78
        have N78 := Fr.app N72 Nq78
        have g79 : ∀ t, FS p e below T78 m 143 #[oa ob0, oi p1, oi p2, oi (2 : Int32), oa rb72, .val (.long ((pr63.toUInt64 >>> ((32 : Int32) &&& 0x3f).toInt64.toUInt64).toInt64)), vS, .val (.long ((p1.toInt64) &&& (4294967295 : Int64))), vS, oi (0 : Int32), oi (-1 : Int32), oj pr63, vS] [(.ref b73)] t → ES p e below s₁ m #[(.ref ob0), (.int p1), (.int p2)] 13 t := by
          intro t k
          refine g68 t ?_
          show FS p e below T66 m 108 #[oa ob0, oi p1, oi p2, oi (2 : Int32), oa b53, .val (.long ((pr63.toUInt64 >>> ((32 : Int32) &&& 0x3f).toInt64.toUInt64).toInt64)), vS, .val (.long ((p1.toInt64) &&& (4294967295 : Int64))), vS, oi (0 : Int32), oi (-1 : Int32), oj pr63, vS] [(.int (lcmpW ((pr63.toUInt64 >>> ((32 : Int32) &&& 0x3f).toInt64.toUInt64).toInt64) (0 : Int64)))] _
          refine XS.ifNo X66.here hx rfl (hb hby d12_108) rfl ((if0 _ _).trans (teq ((lw_eq _ _).mpr hc67)).2) ?_
          refine XS.aload X66.here hx rfl (hb hby d12_111) rfl rfl ?_
          refine XS.iconst X66.here hx rfl (hb hby d12_113) ?_
          refine XS.aload X66.here hx rfl (hb hby d12_114) rfl rfl ?_
          show FS p e below T66 m 116 #[oa ob0, oi p1, oi p2, oi (2 : Int32), oa b53, .val (.long ((pr63.toUInt64 >>> ((32 : Int32) &&& 0x3f).toInt64.toUInt64).toInt64)), vS, .val (.long ((p1.toInt64) &&& (4294967295 : Int64))), vS, oi (0 : Int32), oi (-1 : Int32), oj pr63, vS] [(.ref b53), (.int (1 : Int32)), (.ref b53)] _
          refine X66.arraylength hx (by rw [e66]; exact Ar69.1) (State.isArrayOf_alike hZ.alike Ar69.2.1) (g := (mkF m 116 #[oa ob0, oi p1, oi p2, oi (2 : Int32), oa b53, .val (.long ((pr63.toUInt64 >>> ((32 : Int32) &&& 0x3f).toInt64.toUInt64).toInt64)), vS, .val (.long ((p1.toInt64) &&& (4294967295 : Int64))), vS, oi (0 : Int32), oi (-1 : Int32), oj pr63, vS] [(.ref b53), (.int (1 : Int32)), (.ref b53)])) rfl rfl (hb hby d12_116) _ ?_
          rw [len_of S69 Nn69]
          refine st72 _ ?_
          refine XS.astore X72.here hx rfl (hb hby d12_120) rfl rfl (l' := #[oa ob0, oi p1, oi p2, oi (2 : Int32), oa rb72, .val (.long ((pr63.toUInt64 >>> ((32 : Int32) &&& 0x3f).toInt64.toUInt64).toInt64)), vS, .val (.long ((p1.toInt64) &&& (4294967295 : Int64))), vS, oi (0 : Int32), oi (-1 : Int32), oj pr63, vS]) rfl ?_
          refine XS.goto X72.here hx rfl (pc0 := 122) (pc' := 133) rfl (hb hby d12_122) (by decide) (by decide) ?_
          refine st73 _ ?_
          refine XS.dup X73.here hx rfl (hb hby d12_136) rfl rfl ?_
          refine XS.aload X73.here hx rfl (hb hby d12_137) rfl rfl ?_
          refine XS.iloadN X73.here hx rfl (hb hby d12_139) rfl ?_
          refine st78.trans ?_
          exact k
        obtain ⟨fs, hrt, hrun, hended, hW, hsame⟩ := X78.leave (v := some (.ref b73)) (fun h => by rw [Bd.returns] at h; cases h)
        have f80 := (f76.keep K78 (ninS ne_rb72_b73 nin0))
        refine ⟨_, _, g79 _ ?_, hrun, hended, _, _, rfl, ?_, ⟨_, rfl⟩, hW, hsame.mono (by decide) (by decide)⟩
        · show Steps p.tables e below (T78.setTop (mkF m 143 #[oa ob0, oi p1, oi p2, oi (2 : Int32), oa rb72, .val (.long ((pr63.toUInt64 >>> ((32 : Int32) &&& 0x3f).toInt64.toUInt64).toInt64)), vS, .val (.long ((p1.toInt64) &&& (4294967295 : Int64))), vS, oi (0 : Int32), oi (-1 : Int32), oj pr63, vS] [(.ref b73)])) _
          jvm_step X78.here [X78.here.top, hx, (hb hby d12_143), X78.method', Bd.returns, Value.isRef, FieldType.isReference]
          first | (intro acts; rw [hrt _ acts rfl rfl rfl]) | rw [hrt _ _ rfl rfl rfl]
          exact Steps.refl _
        · show own_Q_rmA8 Z ob0 k_ob0 ob0_z ob0_l p1 p2 zr zm ps ng zk h0 n0 _ T78.heap _
          exact ⟨b73, rb72, _, _, _, _, rfl, N78, (Keep.trans (Keep.ext (Keep.trans (Keep.wr (Keep.wr (Keep.ext (Keep.refl h0 []) E53) W60 (Or.inr sz_b53)) W66 (Or.inr sz_b53)) K72 all0) E73) K78 (allS (Or.inr sz_b73) all0)), Qe78, Qs78, Qm78, f80, ⟨rfl, by decide⟩⟩
      · obtain ⟨c81, Ar81, cq81, S81, Nn81, Hh81, Gg81⟩ := id V66a
        have hin81 : ¬ ((0 : Int32) < 0 ∨ c81.slots.size ≤ ((0 : Int32)).toNatClampNeg) := inb_of S81 ⟨by decide, by decide⟩
        obtain ⟨T82, h82, X82, e82, W82, st82⟩ := stI X66 hx hZ e66 Ar81 (j := (0 : Int32)) hin81 (g := (mkF m 132 #[oa ob0, oi p1, oi p2, oi (2 : Int32), oa b53, .val (.long ((pr63.toUInt64 >>> ((32 : Int32) &&& 0x3f).toInt64.toUInt64).toInt64)), vS, .val (.long ((p1.toInt64) &&& (4294967295 : Int64))), vS, oi (0 : Int32), oi (-1 : Int32), oj pr63, vS] [(.int (((pr63.toUInt64 >>> ((32 : Int32) &&& 0x3f).toInt64.toUInt64).toInt64).toInt32)), (.int (0 : Int32)), (.ref b53)])) rfl rfl (hb hby d12_132)
        have V82 := Arv.set Ar81 cq81 S81 Nn81 Hh81 Gg81 rfl W82 0 rfl (Nat.le_of_ble_eq_true rfl)
        have V82a : Arv Z h82 b53 k53 .int (3 : Int32) [(.int (((pr63.toUInt64 >>> ((32 : Int32) &&& 0x3f).toInt64.toUInt64).toInt64).toInt32)), (.int (pr63.toInt32)), (.int (pr57.toInt32))] (.int (0 : Int32)) := V82
        have N82 := Fr.snoc X82 N66 gz_b53
        obtain ⟨T83, h83, X83, e83, E83, A83, D83, -, st83⟩ := newO X82 hx hZ hown (own_w hw 71 rfl) (own_w hw 72 rfl) (own_w hw 52 rfl) e82 (g := (mkF m 133 #[oa ob0, oi p1, oi p2, oi (2 : Int32), oa b53, .val (.long ((pr63.toUInt64 >>> ((32 : Int32) &&& 0x3f).toInt64.toUInt64).toInt64)), vS, .val (.long ((p1.toInt64) &&& (4294967295 : Int64))), vS, oi (0 : Int32), oi (-1 : Int32), oj pr63, vS] [])) rfl (hb hby d12_133) (by decide) (by decide)
        obtain ⟨b83, q_b83⟩ : ∃ z, z = h82.size := ⟨_, rfl⟩
        rw [← q_b83] at A83 D83 st83
        have sz_b83 : h0.size ≤ b83 := Nat.le_trans (Nat.le_trans (Nat.le_trans (Nat.le_trans E53.1 (Keep.of_wr W60).1) (Keep.of_wr W66).1) (Keep.of_wr W82).1) (Nat.le_of_eq q_b83.symm)
        have gz_b83 : n0 ≤ b83 := Nat.le_trans Z0 sz_b83
        have ne_b53_b83 : b53 ≠ b83 := Nat.ne_of_lt (Nat.lt_of_lt_of_le V82a.lt (Nat.le_of_eq q_b83.symm))
        have f84 := ((f61.other W66 ne_ob0_b53).other W82 ne_ob0_b53)
        have ne_ob0_b83 : ob0 ≠ b83 := Nat.ne_of_lt (Nat.lt_of_lt_of_le f84.lt (Nat.le_of_eq q_b83.symm))
        have F83_signum : Fld Z h83 b83 "java/math/BigInteger" "signum" "I" (.int (0 : Int32)) := D83 (Or.inr (own_w hw 85 rfl)) (ty := .int) (by decide)
        have F83_mag : Fld Z h83 b83 "java/math/BigInteger" "mag" "[I" .null := D83 (Or.inr (own_w hw 88 rfl)) (ty := (.array .int)) (by decide)
        obtain ⟨LL85, XL85, NL85⟩ : ∃ LL : List Loc, Stand p l e ({ frames := 3, cells := 3, slots := 13, locals := 81 } : Room) s m #[(.ref ob0), (.int p1), (.int p2)] below meth c T83 LL 2 9 ∧ Fr n0 LL := ⟨_, X83, N82⟩
        have f86 := (V82a.ext E83)
        have o87 : Old Z n0 h83 := (Old.ext (Old.wr (Old.wr (Old.wr (Old.ext O0 E53) W60 gz_b53) W66 gz_b53) W82 gz_b53) E83)
        obtain ⟨_, _, ⟨T88, L88, k88, n88⟩, -, X88, ⟨Lc88, hQ88, l88, y88, z88⟩, st88⟩ := XL85.specialBack hx (y := own_y15) rfl hown (mvT hZ (own_w hw 127 rfl)) (mvT hZ (own_w hw 128 rfl)) (mvT hZ (own_w hw 129 rfl)) (by decide) (backOf (W := 1) (rmA18 l Z a0 hw [] b83 b53 k53 ((3 : Int32)) [(.int (((pr63.toUInt64 >>> ((32 : Int32) &&& 0x3f).toInt64.toUInt64).toInt64).toInt32)), (.int (pr63.toInt32)), (.int (pr57.toInt32))] (p2)  zr zm ps ng zk h83 n0 o87 G0 A83 F83_mag F83_signum f86 gz_b83 (by decide) (by decide)) hZ (own_w hw 129 rfl) (own_w hw 52 rfl) (by decide) (by decide)) (g := (mkF m 140 #[oa ob0, oi p1, oi p2, oi (2 : Int32), oa b53, .val (.long ((pr63.toUInt64 >>> ((32 : Int32) &&& 0x3f).toInt64.toUInt64).toInt64)), vS, .val (.long ((p1.toInt64) &&& (4294967295 : Int64))), vS, oi (0 : Int32), oi (-1 : Int32), oj pr63, vS] [(.int p2), (.ref b53), (.ref b83), (.ref b83)])) rfl (by rw [hml]; rfl) (Steps.refl _) (a := b83) (argsL := [(.ref b53), (.int p2)]) (rest := [(.ref b83)]) (lenOf own_pd9 rfl) rfl (own_W0 rfl) (hb hby d12_140) (fun _ _ => ⟨rfl, e83, (by decide : 2 + 0 ≤ _), (by decide : 9 + 0 ≤ _)⟩)
        dsimp only [Pt.U, Pt.locs, Pt.cells, Pt.slots] at X88 l88 y88 z88 st88 hQ88
        subst l88 y88 z88
        obtain ⟨rfl, Nq88, K88, Qe88, Qs88, Qm88⟩ := hQ88
        have N88 := Fr.app NL85 Nq88
        have g89 : ∀ t, FS p e below T88 m 143 #[oa ob0, oi p1, oi p2, oi (2 : Int32), oa b53, .val (.long ((pr63.toUInt64 >>> ((32 : Int32) &&& 0x3f).toInt64.toUInt64).toInt64)), vS, .val (.long ((p1.toInt64) &&& (4294967295 : Int64))), vS, oi (0 : Int32), oi (-1 : Int32), oj pr63, vS] [(.ref b83)] t → ES p e below s₁ m #[(.ref ob0), (.int p1), (.int p2)] 13 t := by
          intro t k
          refine g68 t ?_
          show FS p e below T66 m 108 #[oa ob0, oi p1, oi p2, oi (2 : Int32), oa b53, .val (.long ((pr63.toUInt64 >>> ((32 : Int32) &&& 0x3f).toInt64.toUInt64).toInt64)), vS, .val (.long ((p1.toInt64) &&& (4294967295 : Int64))), vS, oi (0 : Int32), oi (-1 : Int32), oj pr63, vS] [(.int (lcmpW ((pr63.toUInt64 >>> ((32 : Int32) &&& 0x3f).toInt64.toUInt64).toInt64) (0 : Int64)))] _
          refine XS.ifYes X66.here hx rfl (pc0 := 108) (pc' := 125) rfl (hb hby d12_108) rfl ((if0 _ _).trans (feq (fun q => hc67 ((lw_eq _ _).mp q))).2) (by decide) (by decide) ?_
          refine XS.aload X66.here hx rfl (hb hby d12_125) rfl rfl ?_
          refine XS.iload X66.here hx rfl (hb hby d12_127) rfl ?_
          refine XS.lload X66.here hx rfl (hb hby d12_129) rfl ?_
          refine XS.l2i X66.here hx rfl (hb hby d12_131) rfl ?_
          refine st82 _ ?_
          refine st83 _ ?_
          refine XS.dup X83.here hx rfl (hb hby d12_136) rfl rfl ?_
          refine XS.aload X83.here hx rfl (hb hby d12_137) rfl rfl ?_
          refine XS.iloadN X83.here hx rfl (hb hby d12_139) rfl ?_
          refine st88.trans ?_
          exact k
        obtain ⟨fs, hrt, hrun, hended, hW, hsame⟩ := X88.leave (v := some (.ref b83)) (fun h => by rw [Bd.returns] at h; cases h)
        have f90 := (f86.keep K88 (ninS ne_b53_b83 nin0))
        refine ⟨_, _, g89 _ ?_, hrun, hended, _, _, rfl, ?_, ⟨_, rfl⟩, hW, hsame.mono (by decide) (by decide)⟩
        · show Steps p.tables e below (T88.setTop (mkF m 143 #[oa ob0, oi p1, oi p2, oi (2 : Int32), oa b53, .val (.long ((pr63.toUInt64 >>> ((32 : Int32) &&& 0x3f).toInt64.toUInt64).toInt64)), vS, .val (.long ((p1.toInt64) &&& (4294967295 : Int64))), vS, oi (0 : Int32), oi (-1 : Int32), oj pr63, vS] [(.ref b83)])) _
          jvm_step X88.here [X88.here.top, hx, (hb hby d12_143), X88.method', Bd.returns, Value.isRef, FieldType.isReference]
          first | (intro acts; rw [hrt _ acts rfl rfl rfl]) | rw [hrt _ _ rfl rfl rfl]
          exact Steps.refl _
        · show own_Q_rmA8 Z ob0 k_ob0 ob0_z ob0_l p1 p2 zr zm ps ng zk h0 n0 _ T88.heap _
          exact ⟨b83, b53, _, _, _, _, rfl, N88, (Keep.trans (Keep.ext (Keep.wr (Keep.wr (Keep.wr (Keep.ext (Keep.refl h0 []) E53) W60 (Or.inr sz_b53)) W66 (Or.inr sz_b53)) W82 (Or.inr sz_b53)) E83) K88 (allS (Or.inr sz_b83) all0)), Qe88, Qs88, Qm88, f90, ⟨rfl, by decide⟩⟩
theorem own_pd13 : parseMethodDescriptor "([III)Ljava/math/BigInteger;" = some ⟨[(.array .int), .int, .int], some (.object "java/math/BigInteger")⟩ := by decide +kernel
theorem d11_109 : decode q11 109 = .ok (.areturn, 1) := by decide +kernel
theorem d11_110 : decode q11 110 = .ok (.aload_n 0, 1) := by decide +kernel
theorem d11_111 : decode q11 111 = .ok (.getfield 28, 3) := by decide +kernel
theorem d11_114 : decode q11 114 = .ok (.arraylength, 1) := by decide +kernel
theorem d11_115 : decode q11 115 = .ok (.iconst 1, 1) := by decide +kernel
theorem d11_116 : decode q11 116 = .ok (.if_icmp .ne 19, 3) := by decide +kernel
theorem d11_119 : decode q11 119 = .ok (.aload_n 1, 1) := by decide +kernel
theorem d11_120 : decode q11 120 = .ok (.getfield 28, 3) := by decide +kernel
theorem d11_123 : decode q11 123 = .ok (.aload_n 0, 1) := by decide +kernel
theorem d11_124 : decode q11 124 = .ok (.getfield 28, 3) := by decide +kernel
theorem d11_127 : decode q11 127 = .ok (.iconst 0, 1) := by decide +kernel
theorem d11_128 : decode q11 128 = .ok (.iaload, 1) := by decide +kernel
theorem d11_129 : decode q11 129 = .ok (.iload 7, 2) := by decide +kernel
theorem d11_131 : decode q11 131 = .ok (.invokestatic 403, 3) := by decide +kernel
theorem d11_134 : decode q11 134 = .ok (.areturn, 1) := by decide +kernel
theorem d11_135 : decode q11 135 = .ok (.aload_n 0, 1) := by decide +kernel
theorem d11_136 : decode q11 136 = .ok (.getfield 28, 3) := by decide +kernel
theorem d11_139 : decode q11 139 = .ok (.iload 5, 2) := by decide +kernel
theorem d11_141 : decode q11 141 = .ok (.aload_n 1, 1) := by decide +kernel
theorem d11_142 : decode q11 142 = .ok (.getfield 28, 3) := by decide +kernel
theorem d11_145 : decode q11 145 = .ok (.iload 6, 2) := by decide +kernel
theorem d11_147 : decode q11 147 = .ok (.aconst_null, 1) := by decide +kernel
theorem d11_148 : decode q11 148 = .ok (.invokestatic 407, 3) := by decide +kernel
abbrev own_y20 : MethodName := ⟨"java/math/BigInteger", "multiplyToLen", "([II[II[I)[I"⟩
theorem own_ef24 (m : MethodId) (x0 : Addr) (x1 : Int32) (x2 : Addr) (x3 : Int32) : entryFrame m #[(.ref x0), (.int x1), (.ref x2), (.int x3), .null] 5 = mkF m 0 #[oa x0, oi x1, oa x2, oi x3, .val .null] [] := by first | (simp [entryFrame, mkF, argsToLocals, Value.category]; done) | rfl
theorem d30_0 : decode q30 0 = .ok (.aload_n 0, 1) := by decide +kernel
theorem d30_1 : decode q30 1 = .ok (.iload_n 1, 1) := by decide +kernel
theorem d30_2 : decode q30 2 = .ok (.invokestatic 441, 3) := by decide +kernel
abbrev own_y21 : MethodName := ⟨"java/math/BigInteger", "multiplyToLenCheck", "([II)V"⟩
theorem own_ef25 (m : MethodId) (x0 : Addr) (x1 : Int32) : entryFrame m #[(.ref x0), (.int x1)] 2 = mkF m 0 #[oa x0, oi x1] [] := by first | (simp [entryFrame, mkF, argsToLocals, Value.category]; done) | rfl
theorem d31_0 : decode q31 0 = .ok (.iload_n 1, 1) := by decide +kernel
theorem d31_1 : decode q31 1 = .ok (.ifCond .gt 4, 3) := by decide +kernel
theorem d31_5 : decode q31 5 = .ok (.aload_n 0, 1) := by decide +kernel
theorem d31_6 : decode q31 6 = .ok (.invokestatic 447, 3) := by decide +kernel
abbrev own_y22 : MethodName := ⟨"java/util/Objects", "requireNonNull", "(Ljava/lang/Object;)Ljava/lang/Object;"⟩
theorem d32_0 : decode q32 0 = .ok (.aload_n 0, 1) := by decide +kernel
theorem d32_1 : decode q32 1 = .ok (.ifnonnull 11, 3) := by decide +kernel
theorem d32_12 : decode q32 12 = .ok (.aload_n 0, 1) := by decide +kernel
theorem d32_13 : decode q32 13 = .ok (.areturn, 1) := by decide +kernel
def own_Q_rmA25 (Z : State) (ob0 : Addr) (k_ob0 : ClassId) (ob0_0 : Int32) (ob0_1 : Int32)  (zr zm ps ng : Addr) (zk : ClassId) (h0 : Heap) (n0 : Nat) (v : Option Value) (h : Heap) (L : List Loc) : Prop := v = some (.ref ob0) ∧ Fr n0 L ∧ h = h0
theorem rmA25 (l : Launch) (Z : State) (a0 : Array Value) (hw : ∀ d ∈ tables_1, d.before a0 Z = true) (ws : List Jvm.Cond) (ob0 : Addr) (k_ob0 : ClassId) (ob0_0 : Int32) (ob0_1 : Int32)  (zr zm ps ng : Addr) (zk : ClassId) (h0 : Heap) (n0 : Nat) (O0 : Old Z n0 h0) (G : own_Gl Z zr zm ps ng zk) (V_ob0 : Arv Z h0 ob0 k_ob0 .int (2 : Int32) [(.int ob0_0), (.int ob0_1)] (.int (0 : Int32))) :
    MetFree l own_y22 (head1 (Jvm.Cond.code own_y22 jdk_31_method_10_code 1 (some (.object "java/lang/Object")) :: ws) ({ frames := 0, cells := 0, slots := 0, locals := 0 } : Room)) (fun a U => a = #[(.ref ob0)] ∧ Z.Warmed39 U.vm ∧ U.heap = h0) (fun _ _ _ _ _ => True) (fun _ U o U' => ∃ v L, o = .returned v ∧ own_Q_rmA25 Z ob0 k_ob0 ob0_0 ob0_1 zr zm ps ng zk h0 n0 v U'.heap L ∧ FrameEnd U o U' L ({ frames := 0, cells := 0, slots := 0, locals := 0 } : Room).cells ({ frames := 0, cells := 0, slots := 0, locals := 0 } : Room).slots) := by
  refine MetFree.of_bodySF (plainFor_of_name own_pn4) hisR ?_
  intro p e s m args below meth c s₁ Bd hml0 hP hK
  obtain ⟨rfl, hZ, hh⟩ := hP
  have hx := Bd.exec
  have hby := Bd.bytes
  have hml : c.maxLocals = 1 := hml0
  have hown : s.vm.findClass "java/util/Objects" = some m.cls := findClass_of_methodNamed Bd.named
  have hnm := (name_of_methodNamed Bd.named Bd.method).1
  have X0 : Stand p l e ({ frames := 0, cells := 0, slots := 0, locals := 0 } : Room) s m #[(.ref ob0)] below meth c s₁ [] 0 0 := Stand.of_body Bd
  have e0 : s₁.heap = h0 := by rw [← hh, Bd.state]; rfl
  have N0 := Fr.nil n0
  have Z0 : n0 ≤ h0.size := O0.1 ▸ O0.2.1
  have g0 : ∀ t, FS p e below s₁ m 0 #[oa ob0] [] t → ES p e below s₁ m #[(.ref ob0)] 1 t := fun t k => castTop (own_ef1 m (ob0)) k
  have G0 := G
  obtain ⟨S_Z, E_Z, F_Zs, F_Zm, V_Z, S_P, P_P, S_N, P_N⟩ := G
  have g1 : ∀ t, FS p e below s₁ m 13 #[oa ob0] [(.ref ob0)] t → ES p e below s₁ m #[(.ref ob0)] 1 t := by
    intro t k
    refine g0 t ?_
    show FS p e below s₁ m 0 #[oa ob0] [] _
    refine XS.aloadN X0.here hx rfl (hb hby d32_0) rfl rfl ?_
    refine XS.ifnonnullYes X0.here hx rfl (pc0 := 1) (pc' := 12) rfl (hb hby d32_1) rfl (by decide) (by decide) ?_
    refine XS.aloadN X0.here hx rfl (hb hby d32_12) rfl rfl ?_
    exact k
  obtain ⟨fs, hrt, hrun, hended, hW, hsame⟩ := X0.leave (v := some (.ref ob0)) (fun h => by rw [Bd.returns] at h; cases h)
  refine ⟨_, _, g1 _ ?_, hrun, hended, _, _, rfl, ?_, ⟨_, rfl⟩, hW, hsame.mono (by decide) (by decide)⟩
  · show Steps p.tables e below (s₁.setTop (mkF m 13 #[oa ob0] [(.ref ob0)])) _
    jvm_step X0.here [X0.here.top, hx, (hb hby d32_13), X0.method', Bd.returns, Value.isRef, FieldType.isReference]
    first | (intro acts; rw [hrt _ acts rfl rfl rfl]) | rw [hrt _ _ rfl rfl rfl]
    exact Steps.refl _
  · show own_Q_rmA25 Z ob0 k_ob0 ob0_0 ob0_1 zr zm ps ng zk h0 n0 _ s₁.heap _
    rw [e0]
    exact ⟨rfl, N0, rfl⟩
theorem own_pd14 : parseMethodDescriptor "(Ljava/lang/Object;)Ljava/lang/Object;" = some ⟨[(.object "java/lang/Object")], some (.object "java/lang/Object")⟩ := by decide +kernel
theorem d31_9 : decode q31 9 = .ok (.pop, 1) := by decide +kernel
theorem d31_10 : decode q31 10 = .ok (.iload_n 1, 1) := by decide +kernel
theorem d31_11 : decode q31 11 = .ok (.aload_n 0, 1) := by decide +kernel
theorem d31_12 : decode q31 12 = .ok (.arraylength, 1) := by decide +kernel
theorem d31_13 : decode q31 13 = .ok (.if_icmp .le 14, 3) := by decide +kernel
theorem d31_27 : decode q31 27 = .ok (.return_, 1) := by decide +kernel
def own_Q_rmA24 (Z : State) (ob0 : Addr) (k_ob0 : ClassId) (ob0_0 : Int32) (ob0_1 : Int32)  (zr zm ps ng : Addr) (zk : ClassId) (h0 : Heap) (n0 : Nat) (v : Option Value) (h : Heap) (L : List Loc) : Prop := v = none ∧ Fr n0 L ∧ h = h0
theorem rmA24 (l : Launch) (Z : State) (a0 : Array Value) (hw : ∀ d ∈ tables_1, d.before a0 Z = true) (ws : List Jvm.Cond) (ob0 : Addr) (k_ob0 : ClassId) (ob0_0 : Int32) (ob0_1 : Int32)  (zr zm ps ng : Addr) (zk : ClassId) (h0 : Heap) (n0 : Nat) (O0 : Old Z n0 h0) (G : own_Gl Z zr zm ps ng zk) (V_ob0 : Arv Z h0 ob0 k_ob0 .int (2 : Int32) [(.int ob0_0), (.int ob0_1)] (.int (0 : Int32))) :
    MetFree l own_y21 (head1 (Jvm.Cond.code own_y21 jdk_2097_method_47_code 2 none :: ws) ({ frames := 1, cells := 0, slots := 0, locals := 12 } : Room)) (fun a U => a = #[(.ref ob0), (.int (2 : Int32))] ∧ Z.Warmed39 U.vm ∧ U.heap = h0) (fun _ _ _ _ _ => True) (fun _ U o U' => ∃ v L, o = .returned v ∧ own_Q_rmA24 Z ob0 k_ob0 ob0_0 ob0_1 zr zm ps ng zk h0 n0 v U'.heap L ∧ FrameEnd U o U' L ({ frames := 1, cells := 0, slots := 0, locals := 12 } : Room).cells ({ frames := 1, cells := 0, slots := 0, locals := 12 } : Room).slots) := by
  refine MetFree.of_bodySF (plainFor_of_name own_pn1) hisR ?_
  intro p e s m args below meth c s₁ Bd hml0 hP hK
  obtain ⟨rfl, hZ, hh⟩ := hP
  have hx := Bd.exec
  have hby := Bd.bytes
  have hml : c.maxLocals = 2 := hml0
  have hown : s.vm.findClass "java/math/BigInteger" = some m.cls := findClass_of_methodNamed Bd.named
  have hnm := (name_of_methodNamed Bd.named Bd.method).1
  have X0 : Stand p l e ({ frames := 1, cells := 0, slots := 0, locals := 12 } : Room) s m #[(.ref ob0), (.int (2 : Int32))] below meth c s₁ [] 0 0 := Stand.of_body Bd
  have e0 : s₁.heap = h0 := by rw [← hh, Bd.state]; rfl
  have N0 := Fr.nil n0
  have Z0 : n0 ≤ h0.size := O0.1 ▸ O0.2.1
  have g0 : ∀ t, FS p e below s₁ m 0 #[oa ob0, oi (2 : Int32)] [] t → ES p e below s₁ m #[(.ref ob0), (.int (2 : Int32))] 2 t := fun t k => castTop (own_ef25 m (ob0) ((2 : Int32))) k
  have G0 := G
  obtain ⟨S_Z, E_Z, F_Zs, F_Zm, V_Z, S_P, P_P, S_N, P_N⟩ := G
  obtain ⟨_, _, ⟨T1, L1, k1, n1⟩, -, X1, ⟨Lc1, hQ1, l1, y1, z1⟩, st1⟩ := Jvm.LawKit.callS X0 hx (y := own_y22) hown (mvT hZ (own_w hw 187 rfl)) (mvT hZ (own_w hw 188 rfl)) (mvT hZ (own_w hw 118 rfl)) (mvT hZ (own_w hw 189 rfl)) (by decide) (backOf (W := 0) (rmA25 l Z a0 hw [] ob0 k_ob0 (ob0_0) (ob0_1)  zr zm ps ng zk h0 n0 O0 G0 V_ob0  ) hZ (own_w hw 189 rfl) (own_w hw 118 rfl) (by decide) (by decide)) (g := (mkF m 6 #[oa ob0, oi (2 : Int32)] [(.ref ob0)])) rfl (by rw [hml]; rfl) (argsL := [(.ref ob0)]) (rest := []) (lenOf own_pd14 rfl) rfl (own_W0 rfl) (hb hby d31_6) (fun _ _ => ⟨rfl, e0, (by decide : 0 + 0 ≤ _), (by decide : 0 + 0 ≤ _)⟩)
  dsimp only [Pt.U, Pt.locs, Pt.cells, Pt.slots] at X1 l1 y1 z1 st1 hQ1
  subst l1 y1 z1
  obtain ⟨rfl, Nq1, e1⟩ := hQ1
  have N1 := Fr.app N0 Nq1
  obtain ⟨c2, Ar2, cq2, S2, Nn2, Hh2, Gg2⟩ := id V_ob0
  have g3 : ∀ t, FS p e below T1 m 27 #[oa ob0, oi (2 : Int32)] [] t → ES p e below s₁ m #[(.ref ob0), (.int (2 : Int32))] 2 t := by
    intro t k
    refine g0 t ?_
    show FS p e below s₁ m 0 #[oa ob0, oi (2 : Int32)] [] _
    refine XS.iloadN X0.here hx rfl (hb hby d31_0) rfl ?_
    refine XS.ifYes X0.here hx rfl (pc0 := 1) (pc' := 5) rfl (hb hby d31_1) rfl ((if0 _ _).trans (tlt (by decide : (0 : Int32) < (2 : Int32))).2.2.1) (by decide) (by decide) ?_
    refine XS.aloadN X0.here hx rfl (hb hby d31_5) rfl rfl ?_
    refine st1 _ ?_
    refine XS.pop X1.here hx rfl (hb hby d31_9) rfl rfl ?_
    refine XS.iloadN X1.here hx rfl (hb hby d31_10) rfl ?_
    refine XS.aloadN X1.here hx rfl (hb hby d31_11) rfl rfl ?_
    show FS p e below T1 m 12 #[oa ob0, oi (2 : Int32)] [(.ref ob0), (.int (2 : Int32))] _
    refine X1.arraylength hx (by rw [e1]; exact Ar2.1) (State.isArrayOf_alike hZ.alike Ar2.2.1) (g := (mkF m 12 #[oa ob0, oi (2 : Int32)] [(.ref ob0), (.int (2 : Int32))])) rfl rfl (hb hby d31_12) _ ?_
    rw [len_of S2 Nn2]
    refine XS.icmpYes X1.here hx rfl (pc0 := 13) (pc' := 27) rfl (hb hby d31_13) rfl (flt (by decide : ¬ ((2 : Int32) < (2 : Int32)))).2.2.2 (by decide) (by decide) ?_
    exact k
  obtain ⟨fs, hrt, hrun, hended, hW, hsame⟩ := X1.leave (v := none) (fun _ => rfl)
  refine ⟨_, _, g3 _ ?_, hrun, hended, _, _, rfl, ?_, ⟨_, rfl⟩, hW, hsame.mono (by decide) (by decide)⟩
  · show Steps p.tables e below (T1.setTop (mkF m 27 #[oa ob0, oi (2 : Int32)] [])) _
    exact X1.returnOut hx Bd.returns (hb hby d31_27) hrt
  · show own_Q_rmA24 Z ob0 k_ob0 ob0_0 ob0_1 zr zm ps ng zk h0 n0 _ T1.heap _
    rw [e1]
    exact ⟨rfl, N1, rfl⟩
theorem d30_5 : decode q30 5 = .ok (.aload_n 2, 1) := by decide +kernel
theorem d30_6 : decode q30 6 = .ok (.iload_n 3, 1) := by decide +kernel
theorem d30_7 : decode q30 7 = .ok (.invokestatic 441, 3) := by decide +kernel
theorem d30_10 : decode q30 10 = .ok (.aload_n 0, 1) := by decide +kernel
theorem d30_11 : decode q30 11 = .ok (.iload_n 1, 1) := by decide +kernel
theorem d30_12 : decode q30 12 = .ok (.aload_n 2, 1) := by decide +kernel
theorem d30_13 : decode q30 13 = .ok (.iload_n 3, 1) := by decide +kernel
theorem d30_14 : decode q30 14 = .ok (.aload 4, 2) := by decide +kernel
theorem d30_16 : decode q30 16 = .ok (.invokestatic 444, 3) := by decide +kernel
abbrev own_y23 : MethodName := ⟨"java/math/BigInteger", "implMultiplyToLen", "([II[II[I)[I"⟩
theorem own_ef27 (m : MethodId) (x0 : Addr) (x1 : Int32) (x2 : Addr) (x3 : Int32) : entryFrame m #[(.ref x0), (.int x1), (.ref x2), (.int x3), .null] 14 = mkF m 0 #[oa x0, oi x1, oa x2, oi x3, .val .null, vU, vU, vU, vU, vU, vU, vU, vU, vU] [] := by first | (simp [entryFrame, mkF, argsToLocals, Value.category]; done) | rfl
theorem d33_0 : decode q33 0 = .ok (.iload_n 1, 1) := by decide +kernel
theorem d33_1 : decode q33 1 = .ok (.iconst 1, 1) := by decide +kernel
theorem d33_2 : decode q33 2 = .ok (.isub, 1) := by decide +kernel
theorem d33_3 : decode q33 3 = .ok (.istore 5, 2) := by decide +kernel
theorem d33_5 : decode q33 5 = .ok (.iload_n 3, 1) := by decide +kernel
theorem d33_6 : decode q33 6 = .ok (.iconst 1, 1) := by decide +kernel
theorem d33_7 : decode q33 7 = .ok (.isub, 1) := by decide +kernel
theorem d33_8 : decode q33 8 = .ok (.istore 6, 2) := by decide +kernel
theorem d33_10 : decode q33 10 = .ok (.aload 4, 2) := by decide +kernel
theorem d33_12 : decode q33 12 = .ok (.ifnull 12, 3) := by decide +kernel
theorem d33_24 : decode q33 24 = .ok (.iload_n 1, 1) := by decide +kernel
theorem d33_25 : decode q33 25 = .ok (.iload_n 3, 1) := by decide +kernel
theorem d33_26 : decode q33 26 = .ok (.iadd, 1) := by decide +kernel
theorem d33_27 : decode q33 27 = .ok (.newarray .int, 2) := by decide +kernel
theorem d33_29 : decode q33 29 = .ok (.astore 4, 2) := by decide +kernel
theorem d33_31 : decode q33 31 = .ok (.lconst 0, 1) := by decide +kernel
theorem d33_32 : decode q33 32 = .ok (.lstore 7, 2) := by decide +kernel
theorem d33_34 : decode q33 34 = .ok (.iload 6, 2) := by decide +kernel
theorem d33_36 : decode q33 36 = .ok (.istore 9, 2) := by decide +kernel
theorem d33_38 : decode q33 38 = .ok (.iload 6, 2) := by decide +kernel
theorem d33_40 : decode q33 40 = .ok (.iconst 1, 1) := by decide +kernel
theorem d33_41 : decode q33 41 = .ok (.iadd, 1) := by decide +kernel
theorem d33_42 : decode q33 42 = .ok (.iload 5, 2) := by decide +kernel
theorem d33_44 : decode q33 44 = .ok (.iadd, 1) := by decide +kernel
theorem d33_45 : decode q33 45 = .ok (.istore 10, 2) := by decide +kernel
theorem d33_47 : decode q33 47 = .ok (.iload 9, 2) := by decide +kernel
theorem d33_49 : decode q33 49 = .ok (.ifCond .lt 51, 3) := by decide +kernel
theorem d33_52 : decode q33 52 = .ok (.aload_n 2, 1) := by decide +kernel
theorem d33_53 : decode q33 53 = .ok (.iload 9, 2) := by decide +kernel
theorem d33_55 : decode q33 55 = .ok (.iaload, 1) := by decide +kernel
theorem d33_56 : decode q33 56 = .ok (.i2l, 1) := by decide +kernel
theorem d33_57 : decode q33 57 = .ok (.ldc2_w 130, 3) := by decide +kernel
theorem d33_60 : decode q33 60 = .ok (.land, 1) := by decide +kernel
theorem d33_61 : decode q33 61 = .ok (.aload_n 0, 1) := by decide +kernel
theorem d33_62 : decode q33 62 = .ok (.iload 5, 2) := by decide +kernel
theorem d33_64 : decode q33 64 = .ok (.iaload, 1) := by decide +kernel
theorem d33_65 : decode q33 65 = .ok (.i2l, 1) := by decide +kernel
theorem d33_66 : decode q33 66 = .ok (.ldc2_w 130, 3) := by decide +kernel
theorem d33_69 : decode q33 69 = .ok (.land, 1) := by decide +kernel
theorem d33_70 : decode q33 70 = .ok (.lmul, 1) := by decide +kernel
theorem d33_71 : decode q33 71 = .ok (.lload 7, 2) := by decide +kernel
theorem d33_73 : decode q33 73 = .ok (.ladd, 1) := by decide +kernel
theorem d33_74 : decode q33 74 = .ok (.lstore 11, 2) := by decide +kernel
theorem d33_76 : decode q33 76 = .ok (.aload 4, 2) := by decide +kernel
theorem d33_78 : decode q33 78 = .ok (.iload 10, 2) := by decide +kernel
theorem d33_80 : decode q33 80 = .ok (.lload 11, 2) := by decide +kernel
theorem d33_82 : decode q33 82 = .ok (.l2i, 1) := by decide +kernel
theorem d33_83 : decode q33 83 = .ok (.iastore, 1) := by decide +kernel
theorem d33_84 : decode q33 84 = .ok (.lload 11, 2) := by decide +kernel
theorem d33_86 : decode q33 86 = .ok (.bipush 32, 2) := by decide +kernel
theorem d33_88 : decode q33 88 = .ok (.lushr, 1) := by decide +kernel
theorem d33_89 : decode q33 89 = .ok (.lstore 7, 2) := by decide +kernel
theorem d33_91 : decode q33 91 = .ok (.iinc 9 (-1), 3) := by decide +kernel
theorem d33_94 : decode q33 94 = .ok (.iinc 10 (-1), 3) := by decide +kernel
theorem d33_97 : decode q33 97 = .ok (.goto (-50), 3) := by decide +kernel
theorem d33_100 : decode q33 100 = .ok (.aload 4, 2) := by decide +kernel
theorem d33_102 : decode q33 102 = .ok (.iload 5, 2) := by decide +kernel
theorem d33_104 : decode q33 104 = .ok (.lload 7, 2) := by decide +kernel
theorem d33_106 : decode q33 106 = .ok (.l2i, 1) := by decide +kernel
theorem d33_107 : decode q33 107 = .ok (.iastore, 1) := by decide +kernel
theorem d33_108 : decode q33 108 = .ok (.iload 5, 2) := by decide +kernel
theorem d33_110 : decode q33 110 = .ok (.iconst 1, 1) := by decide +kernel
theorem d33_111 : decode q33 111 = .ok (.isub, 1) := by decide +kernel
theorem d33_112 : decode q33 112 = .ok (.istore 9, 2) := by decide +kernel
theorem d33_114 : decode q33 114 = .ok (.iload 9, 2) := by decide +kernel
theorem d33_116 : decode q33 116 = .ok (.ifCond .lt 97, 3) := by decide +kernel
theorem d33_119 : decode q33 119 = .ok (.lconst 0, 1) := by decide +kernel
theorem d33_120 : decode q33 120 = .ok (.lstore 7, 2) := by decide +kernel
theorem d33_122 : decode q33 122 = .ok (.iload 6, 2) := by decide +kernel
theorem d33_124 : decode q33 124 = .ok (.istore 10, 2) := by decide +kernel
theorem d33_126 : decode q33 126 = .ok (.iload 6, 2) := by decide +kernel
theorem d33_128 : decode q33 128 = .ok (.iconst 1, 1) := by decide +kernel
theorem d33_129 : decode q33 129 = .ok (.iadd, 1) := by decide +kernel
theorem d33_130 : decode q33 130 = .ok (.iload 9, 2) := by decide +kernel
theorem d33_132 : decode q33 132 = .ok (.iadd, 1) := by decide +kernel
theorem d33_133 : decode q33 133 = .ok (.istore 11, 2) := by decide +kernel
theorem d33_135 : decode q33 135 = .ok (.iload 10, 2) := by decide +kernel
theorem d33_137 : decode q33 137 = .ok (.ifCond .lt 62, 3) := by decide +kernel
theorem d33_140 : decode q33 140 = .ok (.aload_n 2, 1) := by decide +kernel
theorem d33_141 : decode q33 141 = .ok (.iload 10, 2) := by decide +kernel
theorem d33_143 : decode q33 143 = .ok (.iaload, 1) := by decide +kernel
theorem d33_144 : decode q33 144 = .ok (.i2l, 1) := by decide +kernel
theorem d33_145 : decode q33 145 = .ok (.ldc2_w 130, 3) := by decide +kernel
theorem d33_148 : decode q33 148 = .ok (.land, 1) := by decide +kernel
theorem d33_149 : decode q33 149 = .ok (.aload_n 0, 1) := by decide +kernel
theorem d33_150 : decode q33 150 = .ok (.iload 9, 2) := by decide +kernel
theorem d33_152 : decode q33 152 = .ok (.iaload, 1) := by decide +kernel
theorem d33_153 : decode q33 153 = .ok (.i2l, 1) := by decide +kernel
theorem d33_154 : decode q33 154 = .ok (.ldc2_w 130, 3) := by decide +kernel
theorem d33_157 : decode q33 157 = .ok (.land, 1) := by decide +kernel
theorem d33_158 : decode q33 158 = .ok (.lmul, 1) := by decide +kernel
theorem d33_159 : decode q33 159 = .ok (.aload 4, 2) := by decide +kernel
theorem d33_161 : decode q33 161 = .ok (.iload 11, 2) := by decide +kernel
theorem d33_163 : decode q33 163 = .ok (.iaload, 1) := by decide +kernel
theorem d33_164 : decode q33 164 = .ok (.i2l, 1) := by decide +kernel
theorem d33_165 : decode q33 165 = .ok (.ldc2_w 130, 3) := by decide +kernel
theorem d33_168 : decode q33 168 = .ok (.land, 1) := by decide +kernel
theorem d33_169 : decode q33 169 = .ok (.ladd, 1) := by decide +kernel
theorem d33_170 : decode q33 170 = .ok (.lload 7, 2) := by decide +kernel
theorem d33_172 : decode q33 172 = .ok (.ladd, 1) := by decide +kernel
theorem d33_173 : decode q33 173 = .ok (.lstore 12, 2) := by decide +kernel
theorem d33_175 : decode q33 175 = .ok (.aload 4, 2) := by decide +kernel
theorem d33_177 : decode q33 177 = .ok (.iload 11, 2) := by decide +kernel
theorem d33_179 : decode q33 179 = .ok (.lload 12, 2) := by decide +kernel
theorem d33_181 : decode q33 181 = .ok (.l2i, 1) := by decide +kernel
theorem d33_182 : decode q33 182 = .ok (.iastore, 1) := by decide +kernel
theorem d33_183 : decode q33 183 = .ok (.lload 12, 2) := by decide +kernel
theorem d33_185 : decode q33 185 = .ok (.bipush 32, 2) := by decide +kernel
theorem d33_187 : decode q33 187 = .ok (.lushr, 1) := by decide +kernel
theorem d33_188 : decode q33 188 = .ok (.lstore 7, 2) := by decide +kernel
theorem d33_190 : decode q33 190 = .ok (.iinc 10 (-1), 3) := by decide +kernel
theorem d33_193 : decode q33 193 = .ok (.iinc 11 (-1), 3) := by decide +kernel
theorem d33_196 : decode q33 196 = .ok (.goto (-61), 3) := by decide +kernel
theorem d33_199 : decode q33 199 = .ok (.aload 4, 2) := by decide +kernel
theorem d33_201 : decode q33 201 = .ok (.iload 9, 2) := by decide +kernel
theorem d33_203 : decode q33 203 = .ok (.lload 7, 2) := by decide +kernel
theorem d33_205 : decode q33 205 = .ok (.l2i, 1) := by decide +kernel
theorem d33_206 : decode q33 206 = .ok (.iastore, 1) := by decide +kernel
theorem d33_207 : decode q33 207 = .ok (.iinc 9 (-1), 3) := by decide +kernel
theorem d33_210 : decode q33 210 = .ok (.goto (-96), 3) := by decide +kernel
theorem d33_213 : decode q33 213 = .ok (.aload 4, 2) := by decide +kernel
theorem d33_215 : decode q33 215 = .ok (.areturn, 1) := by decide +kernel
def own_Q_rmA26 (Z : State) (ob0 : Addr) (k_ob0 : ClassId) (ob0_0 : Int32) (ob0_1 : Int32) (ob2 : Addr) (k_ob2 : ClassId) (ob2_0 : Int32) (ob2_1 : Int32)  (zr zm ps ng : Addr) (zk : ClassId) (h0 : Heap) (n0 : Nat) (v : Option Value) (h : Heap) (L : List Loc) : Prop := ∃ (rb : Addr) (rk : ClassId) (rl : List Value), v = some (.ref rb) ∧ Fr n0 L ∧ Keep h0 h [] ∧ h0.size ≤ rb ∧ Arv Z h rb rk .int (4 : Int32) rl (.int (0 : Int32))
theorem rmA26 (l : Launch) (Z : State) (a0 : Array Value) (hw : ∀ d ∈ tables_1, d.before a0 Z = true) (ws : List Jvm.Cond) (ob0 : Addr) (k_ob0 : ClassId) (ob0_0 : Int32) (ob0_1 : Int32) (ob2 : Addr) (k_ob2 : ClassId) (ob2_0 : Int32) (ob2_1 : Int32)  (zr zm ps ng : Addr) (zk : ClassId) (h0 : Heap) (n0 : Nat) (O0 : Old Z n0 h0) (G : own_Gl Z zr zm ps ng zk) (V_ob0 : Arv Z h0 ob0 k_ob0 .int (2 : Int32) [(.int ob0_0), (.int ob0_1)] (.int (0 : Int32))) (V_ob2 : Arv Z h0 ob2 k_ob2 .int (2 : Int32) [(.int ob2_0), (.int ob2_1)] (.int (0 : Int32))) :
    MetFree l own_y23 (head1 (Jvm.Cond.code own_y23 jdk_2097_method_46_code 14 (some (.array .int)) :: ws) ({ frames := 0, cells := 1, slots := 4, locals := 0 } : Room)) (fun a U => a = #[(.ref ob0), (.int (2 : Int32)), (.ref ob2), (.int (2 : Int32)), .null] ∧ Z.Warmed39 U.vm ∧ U.heap = h0) (fun _ _ _ _ _ => True) (fun _ U o U' => ∃ v L, o = .returned v ∧ own_Q_rmA26 Z ob0 k_ob0 ob0_0 ob0_1 ob2 k_ob2 ob2_0 ob2_1 zr zm ps ng zk h0 n0 v U'.heap L ∧ FrameEnd U o U' L ({ frames := 0, cells := 1, slots := 4, locals := 0 } : Room).cells ({ frames := 0, cells := 1, slots := 4, locals := 0 } : Room).slots) := by
  refine MetFree.of_bodySF (plainFor_of_name own_pn1) hisR ?_
  intro p e s m args below meth c s₁ Bd hml0 hP hK
  obtain ⟨rfl, hZ, hh⟩ := hP
  have hx := Bd.exec
  have hby := Bd.bytes
  have hml : c.maxLocals = 14 := hml0
  have hown : s.vm.findClass "java/math/BigInteger" = some m.cls := findClass_of_methodNamed Bd.named
  have hnm := (name_of_methodNamed Bd.named Bd.method).1
  have X0 : Stand p l e ({ frames := 0, cells := 1, slots := 4, locals := 0 } : Room) s m #[(.ref ob0), (.int (2 : Int32)), (.ref ob2), (.int (2 : Int32)), .null] below meth c s₁ [] 0 0 := Stand.of_body Bd
  have e0 : s₁.heap = h0 := by rw [← hh, Bd.state]; rfl
  have N0 := Fr.nil n0
  have Z0 : n0 ≤ h0.size := O0.1 ▸ O0.2.1
  have g0 : ∀ t, FS p e below s₁ m 0 #[oa ob0, oi (2 : Int32), oa ob2, oi (2 : Int32), .val .null, vU, vU, vU, vU, vU, vU, vU, vU, vU] [] t → ES p e below s₁ m #[(.ref ob0), (.int (2 : Int32)), (.ref ob2), (.int (2 : Int32)), .null] 14 t := fun t k => castTop (own_ef27 m (ob0) ((2 : Int32)) (ob2) ((2 : Int32))) k
  have G0 := G
  obtain ⟨S_Z, E_Z, F_Zs, F_Zm, V_Z, S_P, P_P, S_N, P_N⟩ := G
  obtain ⟨T1, h1, k1, X1, e1, E1, A1, st1⟩ := newP X0 hx hZ (own_w hw 86 rfl) e0 (g := (mkF m 27 #[oa ob0, oi (2 : Int32), oa ob2, oi (2 : Int32), .val .null, oi (1 : Int32), oi (1 : Int32), vU, vU, vU, vU, vU, vU, vU] [(.int (4 : Int32))])) rfl (hb hby d33_27) rfl (by decide) (cap := 4) (by decide) (by decide) (by decide) (by decide)
  obtain ⟨b1, q_b1⟩ : ∃ z, z = h0.size := ⟨_, rfl⟩
  rw [← q_b1] at A1 st1
  have sz_b1 : h0.size ≤ b1 := Nat.le_of_eq q_b1.symm
  have gz_b1 : n0 ≤ b1 := Nat.le_trans Z0 sz_b1
  have ne_ob0_b1 : ob0 ≠ b1 := Nat.ne_of_lt (Nat.lt_of_lt_of_le V_ob0.lt (Nat.le_of_eq q_b1.symm))
  have ne_ob2_b1 : ob2 ≠ b1 := Nat.ne_of_lt (Nat.lt_of_lt_of_le V_ob2.lt (Nat.le_of_eq q_b1.symm))
  have V1 : Arv Z h1 b1 k1 .int (4 : Int32) [(.int (0 : Int32)), (.int (0 : Int32)), (.int (0 : Int32)), (.int (0 : Int32))] (.int (0 : Int32)) := (Arv.new A1 (by decide)).pad (pad_rep [] (.int (0 : Int32)) 4)
  have f2 := (V_ob2.ext E1)
  obtain ⟨c3, Ar3, cq3, S3, Nn3, Hh3, Gg3⟩ := id f2
  have hin3 : ¬ ((1 : Int32) < 0 ∨ c3.slots.size ≤ ((1 : Int32)).toNatClampNeg) := inb_of S3 ⟨by decide, by decide⟩
  have hat3 : c3.slots[((1 : Int32)).toNatClampNeg]? = some (.int ob2_1) := Has.at Hh3 hin3 rfl
  have f4 := (V_ob0.ext E1)
  obtain ⟨c5, Ar5, cq5, S5, Nn5, Hh5, Gg5⟩ := id f4
  have hin5 : ¬ ((1 : Int32) < 0 ∨ c5.slots.size ≤ ((1 : Int32)).toNatClampNeg) := inb_of S5 ⟨by decide, by decide⟩
  have hat5 : c5.slots[((1 : Int32)).toNatClampNeg]? = some (.int ob0_1) := Has.at Hh5 hin5 rfl
  obtain ⟨pr6, hv_pr6⟩ : ∃ z : Int64, z = ((((ob2_1.toInt64) &&& (4294967295 : Int64)) * ((ob0_1.toInt64) &&& (4294967295 : Int64))) + (0 : Int64)) := ⟨_, rfl⟩
  have g7 : ∀ t, FS p e below T1 m 74 #[oa ob0, oi (2 : Int32), oa ob2, oi (2 : Int32), oa b1, oi (1 : Int32), oi (1 : Int32), oj (0 : Int64), vS, oi (1 : Int32), oi (3 : Int32), vU, vU, vU] [(.long pr6)] t → ES p e below s₁ m #[(.ref ob0), (.int (2 : Int32)), (.ref ob2), (.int (2 : Int32)), .null] 14 t := by
    intro t k
    rw [hv_pr6] at k
    refine g0 t ?_
    show FS p e below s₁ m 0 #[oa ob0, oi (2 : Int32), oa ob2, oi (2 : Int32), .val .null, vU, vU, vU, vU, vU, vU, vU, vU, vU] [] _
    refine XS.iloadN X0.here hx rfl (hb hby d33_0) rfl ?_
    refine XS.iconst X0.here hx rfl (hb hby d33_1) ?_
    show FS p e below s₁ m 2 #[oa ob0, oi (2 : Int32), oa ob2, oi (2 : Int32), .val .null, vU, vU, vU, vU, vU, vU, vU, vU, vU] [(.int (1 : Int32)), (.int (2 : Int32))] _
    refine XS.isub X0.here hx rfl (hb hby d33_2) rfl ?_
    rw [show ((2 : Int32) - (1 : Int32)) = (1 : Int32) from by decide]
    refine XS.istore X0.here hx rfl (hb hby d33_3) rfl (l' := #[oa ob0, oi (2 : Int32), oa ob2, oi (2 : Int32), .val .null, oi (1 : Int32), vU, vU, vU, vU, vU, vU, vU, vU]) rfl ?_
    refine XS.iloadN X0.here hx rfl (hb hby d33_5) rfl ?_
    refine XS.iconst X0.here hx rfl (hb hby d33_6) ?_
    show FS p e below s₁ m 7 #[oa ob0, oi (2 : Int32), oa ob2, oi (2 : Int32), .val .null, oi (1 : Int32), vU, vU, vU, vU, vU, vU, vU, vU] [(.int (1 : Int32)), (.int (2 : Int32))] _
    refine XS.isub X0.here hx rfl (hb hby d33_7) rfl ?_
    rw [show ((2 : Int32) - (1 : Int32)) = (1 : Int32) from by decide]
    refine XS.istore X0.here hx rfl (hb hby d33_8) rfl (l' := #[oa ob0, oi (2 : Int32), oa ob2, oi (2 : Int32), .val .null, oi (1 : Int32), oi (1 : Int32), vU, vU, vU, vU, vU, vU, vU]) rfl ?_
    refine XS.aload X0.here hx rfl (hb hby d33_10) rfl rfl ?_
    refine XS.ifnullYes X0.here hx rfl (pc0 := 12) (pc' := 24) rfl (hb hby d33_12) rfl (by decide) (by decide) ?_
    refine XS.iloadN X0.here hx rfl (hb hby d33_24) rfl ?_
    refine XS.iloadN X0.here hx rfl (hb hby d33_25) rfl ?_
    show FS p e below s₁ m 26 #[oa ob0, oi (2 : Int32), oa ob2, oi (2 : Int32), .val .null, oi (1 : Int32), oi (1 : Int32), vU, vU, vU, vU, vU, vU, vU] [(.int (2 : Int32)), (.int (2 : Int32))] _
    refine XS.iadd X0.here hx rfl (hb hby d33_26) rfl ?_
    rw [show ((2 : Int32) + (2 : Int32)) = (4 : Int32) from by decide]
    refine st1 _ ?_
    refine XS.astore X1.here hx rfl (hb hby d33_29) rfl rfl (l' := #[oa ob0, oi (2 : Int32), oa ob2, oi (2 : Int32), oa b1, oi (1 : Int32), oi (1 : Int32), vU, vU, vU, vU, vU, vU, vU]) rfl ?_
    refine XS.lconst X1.here hx rfl (hb hby d33_31) ?_
    show FS p e below T1 m 32 #[oa ob0, oi (2 : Int32), oa ob2, oi (2 : Int32), oa b1, oi (1 : Int32), oi (1 : Int32), vU, vU, vU, vU, vU, vU, vU] [(.long (0 : Int64))] _
    refine XS.lstore X1.here hx rfl (hb hby d33_32) rfl (l' := #[oa ob0, oi (2 : Int32), oa ob2, oi (2 : Int32), oa b1, oi (1 : Int32), oi (1 : Int32), oj (0 : Int64), vS, vU, vU, vU, vU, vU]) rfl ?_
    refine XS.iload X1.here hx rfl (hb hby d33_34) rfl ?_
    refine XS.istore X1.here hx rfl (hb hby d33_36) rfl (l' := #[oa ob0, oi (2 : Int32), oa ob2, oi (2 : Int32), oa b1, oi (1 : Int32), oi (1 : Int32), oj (0 : Int64), vS, oi (1 : Int32), vU, vU, vU, vU]) rfl ?_
    refine XS.iload X1.here hx rfl (hb hby d33_38) rfl ?_
    refine XS.iconst X1.here hx rfl (hb hby d33_40) ?_
    show FS p e below T1 m 41 #[oa ob0, oi (2 : Int32), oa ob2, oi (2 : Int32), oa b1, oi (1 : Int32), oi (1 : Int32), oj (0 : Int64), vS, oi (1 : Int32), vU, vU, vU, vU] [(.int (1 : Int32)), (.int (1 : Int32))] _
    refine XS.iadd X1.here hx rfl (hb hby d33_41) rfl ?_
    rw [show ((1 : Int32) + (1 : Int32)) = (2 : Int32) from by decide]
    refine XS.iload X1.here hx rfl (hb hby d33_42) rfl ?_
    show FS p e below T1 m 44 #[oa ob0, oi (2 : Int32), oa ob2, oi (2 : Int32), oa b1, oi (1 : Int32), oi (1 : Int32), oj (0 : Int64), vS, oi (1 : Int32), vU, vU, vU, vU] [(.int (1 : Int32)), (.int (2 : Int32))] _
    refine XS.iadd X1.here hx rfl (hb hby d33_44) rfl ?_
    rw [show ((2 : Int32) + (1 : Int32)) = (3 : Int32) from by decide]
    refine XS.istore X1.here hx rfl (hb hby d33_45) rfl (l' := #[oa ob0, oi (2 : Int32), oa ob2, oi (2 : Int32), oa b1, oi (1 : Int32), oi (1 : Int32), oj (0 : Int64), vS, oi (1 : Int32), oi (3 : Int32), vU, vU, vU]) rfl ?_
    refine XS.iload X1.here hx rfl (hb hby d33_47) rfl ?_
    refine XS.ifNo X1.here hx rfl (hb hby d33_49) rfl ((if0 _ _).trans (flt (by decide : ¬ ((1 : Int32) < (0 : Int32)))).1) ?_
    refine XS.aloadN X1.here hx rfl (hb hby d33_52) rfl rfl ?_
    refine XS.iload X1.here hx rfl (hb hby d33_53) rfl ?_
    refine X1.iaload hx (j := (1 : Int32)) (v := (.int ob2_1)) (by rw [e1]; exact Ar3.1) (State.isArrayOf_alike hZ.alike Ar3.2.1) Ar3.2.2 hin3 hat3 (g := (mkF m 55 #[oa ob0, oi (2 : Int32), oa ob2, oi (2 : Int32), oa b1, oi (1 : Int32), oi (1 : Int32), oj (0 : Int64), vS, oi (1 : Int32), oi (3 : Int32), vU, vU, vU] [(.int (1 : Int32)), (.ref ob2)])) rfl rfl (hb hby d33_55) _ ?_
    refine XS.i2l X1.here hx rfl (hb hby d33_56) rfl ?_
    refine X1.ldc2Long hx hown (mvT hZ (own_w hw 153 rfl)) (g := (mkF m 57 #[oa ob0, oi (2 : Int32), oa ob2, oi (2 : Int32), oa b1, oi (1 : Int32), oi (1 : Int32), oj (0 : Int64), vS, oi (1 : Int32), oi (3 : Int32), vU, vU, vU] [(.long (ob2_1.toInt64))])) rfl (hb hby d33_57) _ ?_
    show FS p e below T1 m 60 #[oa ob0, oi (2 : Int32), oa ob2, oi (2 : Int32), oa b1, oi (1 : Int32), oi (1 : Int32), oj (0 : Int64), vS, oi (1 : Int32), oi (3 : Int32), vU, vU, vU] [(.long (4294967295 : Int64)), (.long (ob2_1.toInt64))] _
    refine XS.land X1.here hx rfl (hb hby d33_60) rfl ?_
    refine XS.aloadN X1.here hx rfl (hb hby d33_61) rfl rfl ?_
    refine XS.iload X1.here hx rfl (hb hby d33_62) rfl ?_
    refine X1.iaload hx (j := (1 : Int32)) (v := (.int ob0_1)) (by rw [e1]; exact Ar5.1) (State.isArrayOf_alike hZ.alike Ar5.2.1) Ar5.2.2 hin5 hat5 (g := (mkF m 64 #[oa ob0, oi (2 : Int32), oa ob2, oi (2 : Int32), oa b1, oi (1 : Int32), oi (1 : Int32), oj (0 : Int64), vS, oi (1 : Int32), oi (3 : Int32), vU, vU, vU] [(.int (1 : Int32)), (.ref ob0), (.long ((ob2_1.toInt64) &&& (4294967295 : Int64)))])) rfl rfl (hb hby d33_64) _ ?_
    refine XS.i2l X1.here hx rfl (hb hby d33_65) rfl ?_
    refine X1.ldc2Long hx hown (mvT hZ (own_w hw 153 rfl)) (g := (mkF m 66 #[oa ob0, oi (2 : Int32), oa ob2, oi (2 : Int32), oa b1, oi (1 : Int32), oi (1 : Int32), oj (0 : Int64), vS, oi (1 : Int32), oi (3 : Int32), vU, vU, vU] [(.long (ob0_1.toInt64)), (.long ((ob2_1.toInt64) &&& (4294967295 : Int64)))])) rfl (hb hby d33_66) _ ?_
    refine XS.land X1.here hx rfl (hb hby d33_69) rfl ?_
    refine XS.lmul X1.here hx rfl (hb hby d33_70) rfl ?_
    refine XS.lload X1.here hx rfl (hb hby d33_71) rfl ?_
    refine XS.ladd X1.here hx rfl (hb hby d33_73) rfl ?_
    exact k
  obtain ⟨c8, Ar8, cq8, S8, Nn8, Hh8, Gg8⟩ := id V1
  have hin8 : ¬ ((3 : Int32) < 0 ∨ c8.slots.size ≤ ((3 : Int32)).toNatClampNeg) := inb_of S8 ⟨by decide, by decide⟩
  obtain ⟨T9, h9, X9, e9, W9, st9⟩ := stI X1 hx hZ e1 Ar8 (j := (3 : Int32)) hin8 (g := (mkF m 83 #[oa ob0, oi (2 : Int32), oa ob2, oi (2 : Int32), oa b1, oi (1 : Int32), oi (1 : Int32), oj (0 : Int64), vS, oi (1 : Int32), oi (3 : Int32), oj pr6, vS, vU] [(.int (pr6.toInt32)), (.int (3 : Int32)), (.ref b1)])) rfl rfl (hb hby d33_83)
  have V9 := Arv.set Ar8 cq8 S8 Nn8 Hh8 Gg8 rfl W9 3 rfl (Nat.le_of_ble_eq_true rfl)
  have V9a : Arv Z h9 b1 k1 .int (4 : Int32) [(.int (0 : Int32)), (.int (0 : Int32)), (.int (0 : Int32)), (.int (pr6.toInt32))] (.int (0 : Int32)) := V9
  have N9 := Fr.snoc X9 N0 gz_b1
  have f10 := (f2.other W9 ne_ob2_b1)
  obtain ⟨c11, Ar11, cq11, S11, Nn11, Hh11, Gg11⟩ := id f10
  have hin11 : ¬ ((0 : Int32) < 0 ∨ c11.slots.size ≤ ((0 : Int32)).toNatClampNeg) := inb_of S11 ⟨by decide, by decide⟩
  have hat11 : c11.slots[((0 : Int32)).toNatClampNeg]? = some (.int ob2_0) := Has.at Hh11 hin11 rfl
  have f12 := (f4.other W9 ne_ob0_b1)
  obtain ⟨c13, Ar13, cq13, S13, Nn13, Hh13, Gg13⟩ := id f12
  have hin13 : ¬ ((1 : Int32) < 0 ∨ c13.slots.size ≤ ((1 : Int32)).toNatClampNeg) := inb_of S13 ⟨by decide, by decide⟩
  have hat13 : c13.slots[((1 : Int32)).toNatClampNeg]? = some (.int ob0_1) := Has.at Hh13 hin13 rfl
  obtain ⟨pr14, hv_pr14⟩ : ∃ z : Int64, z = ((((ob2_0.toInt64) &&& (4294967295 : Int64)) * ((ob0_1.toInt64) &&& (4294967295 : Int64))) + ((pr6.toUInt64 >>> ((32 : Int32) &&& 0x3f).toInt64.toUInt64).toInt64)) := ⟨_, rfl⟩
  have g15 : ∀ t, FS p e below T9 m 74 #[oa ob0, oi (2 : Int32), oa ob2, oi (2 : Int32), oa b1, oi (1 : Int32), oi (1 : Int32), .val (.long ((pr6.toUInt64 >>> ((32 : Int32) &&& 0x3f).toInt64.toUInt64).toInt64)), vS, oi (0 : Int32), oi (2 : Int32), oj pr6, vS, vU] [(.long pr14)] t → ES p e below s₁ m #[(.ref ob0), (.int (2 : Int32)), (.ref ob2), (.int (2 : Int32)), .null] 14 t := by
    intro t k
    rw [hv_pr14] at k
    refine g7 t ?_
    show FS p e below T1 m 74 #[oa ob0, oi (2 : Int32), oa ob2, oi (2 : Int32), oa b1, oi (1 : Int32), oi (1 : Int32), oj (0 : Int64), vS, oi (1 : Int32), oi (3 : Int32), vU, vU, vU] [(.long pr6)] _
    refine XS.lstore X1.here hx rfl (hb hby d33_74) rfl (l' := #[oa ob0, oi (2 : Int32), oa ob2, oi (2 : Int32), oa b1, oi (1 : Int32), oi (1 : Int32), oj (0 : Int64), vS, oi (1 : Int32), oi (3 : Int32), oj pr6, vS, vU]) rfl ?_
    refine XS.aload X1.here hx rfl (hb hby d33_76) rfl rfl ?_
    refine XS.iload X1.here hx rfl (hb hby d33_78) rfl ?_
    refine XS.lload X1.here hx rfl (hb hby d33_80) rfl ?_
    refine XS.l2i X1.here hx rfl (hb hby d33_82) rfl ?_
    refine st9 _ ?_
    refine XS.lload X9.here hx rfl (hb hby d33_84) rfl ?_
    refine XS.bipush X9.here hx rfl (hb hby d33_86) ?_
    refine XS.lushr X9.here hx rfl (hb hby d33_88) rfl ?_
    refine XS.lstore X9.here hx rfl (hb hby d33_89) rfl (l' := #[oa ob0, oi (2 : Int32), oa ob2, oi (2 : Int32), oa b1, oi (1 : Int32), oi (1 : Int32), .val (.long ((pr6.toUInt64 >>> ((32 : Int32) &&& 0x3f).toInt64.toUInt64).toInt64)), vS, oi (1 : Int32), oi (3 : Int32), oj pr6, vS, vU]) rfl ?_
    show FS p e below T9 m 91 #[oa ob0, oi (2 : Int32), oa ob2, oi (2 : Int32), oa b1, oi (1 : Int32), oi (1 : Int32), .val (.long ((pr6.toUInt64 >>> ((32 : Int32) &&& 0x3f).toInt64.toUInt64).toInt64)), vS, oi (1 : Int32), oi (3 : Int32), oj pr6, vS, vU] [] _
    refine XS.iinc X9.here hx rfl (hb hby d33_91) rfl (l' := #[oa ob0, oi (2 : Int32), oa ob2, oi (2 : Int32), oa b1, oi (1 : Int32), oi (1 : Int32), .val (.long ((pr6.toUInt64 >>> ((32 : Int32) &&& 0x3f).toInt64.toUInt64).toInt64)), vS, .val (.int ((1 : Int32) + (-1 : Int32))), oi (3 : Int32), oj pr6, vS, vU]) rfl ?_
    rw [show ((1 : Int32) + (-1 : Int32)) = (0 : Int32) from by decide]
    show FS p e below T9 m 94 #[oa ob0, oi (2 : Int32), oa ob2, oi (2 : Int32), oa b1, oi (1 : Int32), oi (1 : Int32), .val (.long ((pr6.toUInt64 >>> ((32 : Int32) &&& 0x3f).toInt64.toUInt64).toInt64)), vS, oi (0 : Int32), oi (3 : Int32), oj pr6, vS, vU] [] _
    refine XS.iinc X9.here hx rfl (hb hby d33_94) rfl (l' := #[oa ob0, oi (2 : Int32), oa ob2, oi (2 : Int32), oa b1, oi (1 : Int32), oi (1 : Int32), .val (.long ((pr6.toUInt64 >>> ((32 : Int32) &&& 0x3f).toInt64.toUInt64).toInt64)), vS, oi (0 : Int32), .val (.int ((3 : Int32) + (-1 : Int32))), oj pr6, vS, vU]) rfl ?_
    rw [show ((3 : Int32) + (-1 : Int32)) = (2 : Int32) from by decide]
    refine XS.goto X9.here hx rfl (pc0 := 97) (pc' := 47) rfl (hb hby d33_97) (by decide) (by decide) ?_
    refine XS.iload X9.here hx rfl (hb hby d33_47) rfl ?_
    refine XS.ifNo X9.here hx rfl (hb hby d33_49) rfl ((if0 _ _).trans (flt (by decide : ¬ ((0 : Int32) < (0 : Int32)))).1) ?_
    refine XS.aloadN X9.here hx rfl (hb hby d33_52) rfl rfl ?_
    show FS p e below T9 m 53 #[oa ob0, oi (2 : Int32), oa ob2, oi (2 : Int32), oa b1, oi (1 : Int32), oi (1 : Int32), .val (.long ((pr6.toUInt64 >>> ((32 : Int32) &&& 0x3f).toInt64.toUInt64).toInt64)), vS, oi (0 : Int32), oi (2 : Int32), oj pr6, vS, vU] [(.ref ob2)] _
    refine XS.iload X9.here hx rfl (hb hby d33_53) rfl ?_
    refine X9.iaload hx (j := (0 : Int32)) (v := (.int ob2_0)) (by rw [e9]; exact Ar11.1) (State.isArrayOf_alike hZ.alike Ar11.2.1) Ar11.2.2 hin11 hat11 (g := (mkF m 55 #[oa ob0, oi (2 : Int32), oa ob2, oi (2 : Int32), oa b1, oi (1 : Int32), oi (1 : Int32), .val (.long ((pr6.toUInt64 >>> ((32 : Int32) &&& 0x3f).toInt64.toUInt64).toInt64)), vS, oi (0 : Int32), oi (2 : Int32), oj pr6, vS, vU] [(.int (0 : Int32)), (.ref ob2)])) rfl rfl (hb hby d33_55) _ ?_
    refine XS.i2l X9.here hx rfl (hb hby d33_56) rfl ?_
    refine X9.ldc2Long hx hown (mvT hZ (own_w hw 153 rfl)) (g := (mkF m 57 #[oa ob0, oi (2 : Int32), oa ob2, oi (2 : Int32), oa b1, oi (1 : Int32), oi (1 : Int32), .val (.long ((pr6.toUInt64 >>> ((32 : Int32) &&& 0x3f).toInt64.toUInt64).toInt64)), vS, oi (0 : Int32), oi (2 : Int32), oj pr6, vS, vU] [(.long (ob2_0.toInt64))])) rfl (hb hby d33_57) _ ?_
    refine XS.land X9.here hx rfl (hb hby d33_60) rfl ?_
    refine XS.aloadN X9.here hx rfl (hb hby d33_61) rfl rfl ?_
    refine XS.iload X9.here hx rfl (hb hby d33_62) rfl ?_
    refine X9.iaload hx (j := (1 : Int32)) (v := (.int ob0_1)) (by rw [e9]; exact Ar13.1) (State.isArrayOf_alike hZ.alike Ar13.2.1) Ar13.2.2 hin13 hat13 (g := (mkF m 64 #[oa ob0, oi (2 : Int32), oa ob2, oi (2 : Int32), oa b1, oi (1 : Int32), oi (1 : Int32), .val (.long ((pr6.toUInt64 >>> ((32 : Int32) &&& 0x3f).toInt64.toUInt64).toInt64)), vS, oi (0 : Int32), oi (2 : Int32), oj pr6, vS, vU] [(.int (1 : Int32)), (.ref ob0), (.long ((ob2_0.toInt64) &&& (4294967295 : Int64)))])) rfl rfl (hb hby d33_64) _ ?_
    refine XS.i2l X9.here hx rfl (hb hby d33_65) rfl ?_
    refine X9.ldc2Long hx hown (mvT hZ (own_w hw 153 rfl)) (g := (mkF m 66 #[oa ob0, oi (2 : Int32), oa ob2, oi (2 : Int32), oa b1, oi (1 : Int32), oi (1 : Int32), .val (.long ((pr6.toUInt64 >>> ((32 : Int32) &&& 0x3f).toInt64.toUInt64).toInt64)), vS, oi (0 : Int32), oi (2 : Int32), oj pr6, vS, vU] [(.long (ob0_1.toInt64)), (.long ((ob2_0.toInt64) &&& (4294967295 : Int64)))])) rfl (hb hby d33_66) _ ?_
    refine XS.land X9.here hx rfl (hb hby d33_69) rfl ?_
    refine XS.lmul X9.here hx rfl (hb hby d33_70) rfl ?_
    refine XS.lload X9.here hx rfl (hb hby d33_71) rfl ?_
    refine XS.ladd X9.here hx rfl (hb hby d33_73) rfl ?_
    exact k
  obtain ⟨c16, Ar16, cq16, S16, Nn16, Hh16, Gg16⟩ := id V9a
  have hin16 : ¬ ((2 : Int32) < 0 ∨ c16.slots.size ≤ ((2 : Int32)).toNatClampNeg) := inb_of S16 ⟨by decide, by decide⟩
  obtain ⟨T17, h17, X17, e17, W17, st17⟩ := stI X9 hx hZ e9 Ar16 (j := (2 : Int32)) hin16 (g := (mkF m 83 #[oa ob0, oi (2 : Int32), oa ob2, oi (2 : Int32), oa b1, oi (1 : Int32), oi (1 : Int32), .val (.long ((pr6.toUInt64 >>> ((32 : Int32) &&& 0x3f).toInt64.toUInt64).toInt64)), vS, oi (0 : Int32), oi (2 : Int32), oj pr14, vS, vU] [(.int (pr14.toInt32)), (.int (2 : Int32)), (.ref b1)])) rfl rfl (hb hby d33_83)
  have V17 := Arv.set Ar16 cq16 S16 Nn16 Hh16 Gg16 rfl W17 2 rfl (Nat.le_of_ble_eq_true rfl)
  have V17a : Arv Z h17 b1 k1 .int (4 : Int32) [(.int (0 : Int32)), (.int (0 : Int32)), (.int (pr14.toInt32)), (.int (pr6.toInt32))] (.int (0 : Int32)) := V17
  have N17 := Fr.snoc X17 N9 gz_b1
  obtain ⟨c18, Ar18, cq18, S18, Nn18, Hh18, Gg18⟩ := id V17a
  have hin18 : ¬ ((1 : Int32) < 0 ∨ c18.slots.size ≤ ((1 : Int32)).toNatClampNeg) := inb_of S18 ⟨by decide, by decide⟩
  obtain ⟨T19, h19, X19, e19, W19, st19⟩ := stI X17 hx hZ e17 Ar18 (j := (1 : Int32)) hin18 (g := (mkF m 107 #[oa ob0, oi (2 : Int32), oa ob2, oi (2 : Int32), oa b1, oi (1 : Int32), oi (1 : Int32), .val (.long ((pr14.toUInt64 >>> ((32 : Int32) &&& 0x3f).toInt64.toUInt64).toInt64)), vS, oi (-1 : Int32), oi (1 : Int32), oj pr14, vS, vU] [(.int (((pr14.toUInt64 >>> ((32 : Int32) &&& 0x3f).toInt64.toUInt64).toInt64).toInt32)), (.int (1 : Int32)), (.ref b1)])) rfl rfl (hb hby d33_107)
  have V19 := Arv.set Ar18 cq18 S18 Nn18 Hh18 Gg18 rfl W19 1 rfl (Nat.le_of_ble_eq_true rfl)
  have V19a : Arv Z h19 b1 k1 .int (4 : Int32) [(.int (0 : Int32)), (.int (((pr14.toUInt64 >>> ((32 : Int32) &&& 0x3f).toInt64.toUInt64).toInt64).toInt32)), (.int (pr14.toInt32)), (.int (pr6.toInt32))] (.int (0 : Int32)) := V19
  have N19 := Fr.snoc X19 N17 gz_b1
  have f20 := ((f10.other W17 ne_ob2_b1).other W19 ne_ob2_b1)
  obtain ⟨c21, Ar21, cq21, S21, Nn21, Hh21, Gg21⟩ := id f20
  have hin21 : ¬ ((1 : Int32) < 0 ∨ c21.slots.size ≤ ((1 : Int32)).toNatClampNeg) := inb_of S21 ⟨by decide, by decide⟩
  have hat21 : c21.slots[((1 : Int32)).toNatClampNeg]? = some (.int ob2_1) := Has.at Hh21 hin21 rfl
  have f22 := ((f12.other W17 ne_ob0_b1).other W19 ne_ob0_b1)
  obtain ⟨c23, Ar23, cq23, S23, Nn23, Hh23, Gg23⟩ := id f22
  have hin23 : ¬ ((0 : Int32) < 0 ∨ c23.slots.size ≤ ((0 : Int32)).toNatClampNeg) := inb_of S23 ⟨by decide, by decide⟩
  have hat23 : c23.slots[((0 : Int32)).toNatClampNeg]? = some (.int ob0_0) := Has.at Hh23 hin23 rfl
  obtain ⟨c24, Ar24, cq24, S24, Nn24, Hh24, Gg24⟩ := id V19a
  have hin24 : ¬ ((2 : Int32) < 0 ∨ c24.slots.size ≤ ((2 : Int32)).toNatClampNeg) := inb_of S24 ⟨by decide, by decide⟩
  have hat24 : c24.slots[((2 : Int32)).toNatClampNeg]? = some (.int (pr14.toInt32)) := Has.at Hh24 hin24 rfl
  obtain ⟨pr25, hv_pr25⟩ : ∃ z : Int64, z = (((((ob2_1.toInt64) &&& (4294967295 : Int64)) * ((ob0_0.toInt64) &&& (4294967295 : Int64))) + (((pr14.toInt32).toInt64) &&& (4294967295 : Int64))) + (0 : Int64)) := ⟨_, rfl⟩
  have g26 : ∀ t, FS p e below T19 m 173 #[oa ob0, oi (2 : Int32), oa ob2, oi (2 : Int32), oa b1, oi (1 : Int32), oi (1 : Int32), oj (0 : Int64), vS, oi (0 : Int32), oi (1 : Int32), oi (2 : Int32), vU, vU] [(.long pr25)] t → ES p e below s₁ m #[(.ref ob0), (.int (2 : Int32)), (.ref ob2), (.int (2 : Int32)), .null] 14 t := by
    intro t k
    rw [hv_pr25] at k
    refine g15 t ?_
    show FS p e below T9 m 74 #[oa ob0, oi (2 : Int32), oa ob2, oi (2 : Int32), oa b1, oi (1 : Int32), oi (1 : Int32), .val (.long ((pr6.toUInt64 >>> ((32 : Int32) &&& 0x3f).toInt64.toUInt64).toInt64)), vS, oi (0 : Int32), oi (2 : Int32), oj pr6, vS, vU] [(.long pr14)] _
    refine XS.lstore X9.here hx rfl (hb hby d33_74) rfl (l' := #[oa ob0, oi (2 : Int32), oa ob2, oi (2 : Int32), oa b1, oi (1 : Int32), oi (1 : Int32), .val (.long ((pr6.toUInt64 >>> ((32 : Int32) &&& 0x3f).toInt64.toUInt64).toInt64)), vS, oi (0 : Int32), oi (2 : Int32), oj pr14, vS, vU]) rfl ?_
    refine XS.aload X9.here hx rfl (hb hby d33_76) rfl rfl ?_
    refine XS.iload X9.here hx rfl (hb hby d33_78) rfl ?_
    refine XS.lload X9.here hx rfl (hb hby d33_80) rfl ?_
    refine XS.l2i X9.here hx rfl (hb hby d33_82) rfl ?_
    refine st17 _ ?_
    refine XS.lload X17.here hx rfl (hb hby d33_84) rfl ?_
    refine XS.bipush X17.here hx rfl (hb hby d33_86) ?_
    refine XS.lushr X17.here hx rfl (hb hby d33_88) rfl ?_
    refine XS.lstore X17.here hx rfl (hb hby d33_89) rfl (l' := #[oa ob0, oi (2 : Int32), oa ob2, oi (2 : Int32), oa b1, oi (1 : Int32), oi (1 : Int32), .val (.long ((pr14.toUInt64 >>> ((32 : Int32) &&& 0x3f).toInt64.toUInt64).toInt64)), vS, oi (0 : Int32), oi (2 : Int32), oj pr14, vS, vU]) rfl ?_
    show FS p e below T17 m 91 #[oa ob0, oi (2 : Int32), oa ob2, oi (2 : Int32), oa b1, oi (1 : Int32), oi (1 : Int32), .val (.long ((pr14.toUInt64 >>> ((32 : Int32) &&& 0x3f).toInt64.toUInt64).toInt64)), vS, oi (0 : Int32), oi (2 : Int32), oj pr14, vS, vU] [] _
    refine XS.iinc X17.here hx rfl (hb hby d33_91) rfl (l' := #[oa ob0, oi (2 : Int32), oa ob2, oi (2 : Int32), oa b1, oi (1 : Int32), oi (1 : Int32), .val (.long ((pr14.toUInt64 >>> ((32 : Int32) &&& 0x3f).toInt64.toUInt64).toInt64)), vS, .val (.int ((0 : Int32) + (-1 : Int32))), oi (2 : Int32), oj pr14, vS, vU]) rfl ?_
    rw [show ((0 : Int32) + (-1 : Int32)) = (-1 : Int32) from by decide]
    show FS p e below T17 m 94 #[oa ob0, oi (2 : Int32), oa ob2, oi (2 : Int32), oa b1, oi (1 : Int32), oi (1 : Int32), .val (.long ((pr14.toUInt64 >>> ((32 : Int32) &&& 0x3f).toInt64.toUInt64).toInt64)), vS, oi (-1 : Int32), oi (2 : Int32), oj pr14, vS, vU] [] _
    refine XS.iinc X17.here hx rfl (hb hby d33_94) rfl (l' := #[oa ob0, oi (2 : Int32), oa ob2, oi (2 : Int32), oa b1, oi (1 : Int32), oi (1 : Int32), .val (.long ((pr14.toUInt64 >>> ((32 : Int32) &&& 0x3f).toInt64.toUInt64).toInt64)), vS, oi (-1 : Int32), .val (.int ((2 : Int32) + (-1 : Int32))), oj pr14, vS, vU]) rfl ?_
    rw [show ((2 : Int32) + (-1 : Int32)) = (1 : Int32) from by decide]
    refine XS.goto X17.here hx rfl (pc0 := 97) (pc' := 47) rfl (hb hby d33_97) (by decide) (by decide) ?_
    refine XS.iload X17.here hx rfl (hb hby d33_47) rfl ?_
    refine XS.ifYes X17.here hx rfl (pc0 := 49) (pc' := 100) rfl (hb hby d33_49) rfl ((if0 _ _).trans (tlt (by decide : (-1 : Int32) < (0 : Int32))).1) (by decide) (by decide) ?_
    refine XS.aload X17.here hx rfl (hb hby d33_100) rfl rfl ?_
    show FS p e below T17 m 102 #[oa ob0, oi (2 : Int32), oa ob2, oi (2 : Int32), oa b1, oi (1 : Int32), oi (1 : Int32), .val (.long ((pr14.toUInt64 >>> ((32 : Int32) &&& 0x3f).toInt64.toUInt64).toInt64)), vS, oi (-1 : Int32), oi (1 : Int32), oj pr14, vS, vU] [(.ref b1)] _
    refine XS.iload X17.here hx rfl (hb hby d33_102) rfl ?_
    refine XS.lload X17.here hx rfl (hb hby d33_104) rfl ?_
    refine XS.l2i X17.here hx rfl (hb hby d33_106) rfl ?_
    refine st19 _ ?_
    refine XS.iload X19.here hx rfl (hb hby d33_108) rfl ?_
    refine XS.iconst X19.here hx rfl (hb hby d33_110) ?_
    show FS p e below T19 m 111 #[oa ob0, oi (2 : Int32), oa ob2, oi (2 : Int32), oa b1, oi (1 : Int32), oi (1 : Int32), .val (.long ((pr14.toUInt64 >>> ((32 : Int32) &&& 0x3f).toInt64.toUInt64).toInt64)), vS, oi (-1 : Int32), oi (1 : Int32), oj pr14, vS, vU] [(.int (1 : Int32)), (.int (1 : Int32))] _
    refine XS.isub X19.here hx rfl (hb hby d33_111) rfl ?_
    rw [show ((1 : Int32) - (1 : Int32)) = (0 : Int32) from by decide]
    refine XS.istore X19.here hx rfl (hb hby d33_112) rfl (l' := #[oa ob0, oi (2 : Int32), oa ob2, oi (2 : Int32), oa b1, oi (1 : Int32), oi (1 : Int32), .val (.long ((pr14.toUInt64 >>> ((32 : Int32) &&& 0x3f).toInt64.toUInt64).toInt64)), vS, oi (0 : Int32), oi (1 : Int32), oj pr14, vS, vU]) rfl ?_
    refine XS.iload X19.here hx rfl (hb hby d33_114) rfl ?_
    refine XS.ifNo X19.here hx rfl (hb hby d33_116) rfl ((if0 _ _).trans (flt (by decide : ¬ ((0 : Int32) < (0 : Int32)))).1) ?_
    refine XS.lconst X19.here hx rfl (hb hby d33_119) ?_
    refine XS.lstore X19.here hx rfl (hb hby d33_120) rfl (l' := #[oa ob0, oi (2 : Int32), oa ob2, oi (2 : Int32), oa b1, oi (1 : Int32), oi (1 : Int32), oj (0 : Int64), vS, oi (0 : Int32), oi (1 : Int32), oj pr14, vS, vU]) rfl ?_
    refine XS.iload X19.here hx rfl (hb hby d33_122) rfl ?_
    refine XS.istore X19.here hx rfl (hb hby d33_124) rfl (l' := #[oa ob0, oi (2 : Int32), oa ob2, oi (2 : Int32), oa b1, oi (1 : Int32), oi (1 : Int32), oj (0 : Int64), vS, oi (0 : Int32), oi (1 : Int32), oj pr14, vS, vU]) rfl ?_
    refine XS.iload X19.here hx rfl (hb hby d33_126) rfl ?_
    refine XS.iconst X19.here hx rfl (hb hby d33_128) ?_
    show FS p e below T19 m 129 #[oa ob0, oi (2 : Int32), oa ob2, oi (2 : Int32), oa b1, oi (1 : Int32), oi (1 : Int32), oj (0 : Int64), vS, oi (0 : Int32), oi (1 : Int32), oj pr14, vS, vU] [(.int (1 : Int32)), (.int (1 : Int32))] _
    refine XS.iadd X19.here hx rfl (hb hby d33_129) rfl ?_
    rw [show ((1 : Int32) + (1 : Int32)) = (2 : Int32) from by decide]
    refine XS.iload X19.here hx rfl (hb hby d33_130) rfl ?_
    show FS p e below T19 m 132 #[oa ob0, oi (2 : Int32), oa ob2, oi (2 : Int32), oa b1, oi (1 : Int32), oi (1 : Int32), oj (0 : Int64), vS, oi (0 : Int32), oi (1 : Int32), oj pr14, vS, vU] [(.int (0 : Int32)), (.int (2 : Int32))] _
    refine XS.iadd X19.here hx rfl (hb hby d33_132) rfl ?_
    rw [show ((2 : Int32) + (0 : Int32)) = (2 : Int32) from by decide]
    refine XS.istore X19.here hx rfl (hb hby d33_133) rfl (l' := #[oa ob0, oi (2 : Int32), oa ob2, oi (2 : Int32), oa b1, oi (1 : Int32), oi (1 : Int32), oj (0 : Int64), vS, oi (0 : Int32), oi (1 : Int32), oi (2 : Int32), vU, vU]) rfl ?_
    refine XS.iload X19.here hx rfl (hb hby d33_135) rfl ?_
    refine XS.ifNo X19.here hx rfl (hb hby d33_137) rfl ((if0 _ _).trans (flt (by decide : ¬ ((1 : Int32) < (0 : Int32)))).1) ?_
    refine XS.aloadN X19.here hx rfl (hb hby d33_140) rfl rfl ?_
    refine XS.iload X19.here hx rfl (hb hby d33_141) rfl ?_
    refine X19.iaload hx (j := (1 : Int32)) (v := (.int ob2_1)) (by rw [e19]; exact Ar21.1) (State.isArrayOf_alike hZ.alike Ar21.2.1) Ar21.2.2 hin21 hat21 (g := (mkF m 143 #[oa ob0, oi (2 : Int32), oa ob2, oi (2 : Int32), oa b1, oi (1 : Int32), oi (1 : Int32), oj (0 : Int64), vS, oi (0 : Int32), oi (1 : Int32), oi (2 : Int32), vU, vU] [(.int (1 : Int32)), (.ref ob2)])) rfl rfl (hb hby d33_143) _ ?_
    refine XS.i2l X19.here hx rfl (hb hby d33_144) rfl ?_
    refine X19.ldc2Long hx hown (mvT hZ (own_w hw 153 rfl)) (g := (mkF m 145 #[oa ob0, oi (2 : Int32), oa ob2, oi (2 : Int32), oa b1, oi (1 : Int32), oi (1 : Int32), oj (0 : Int64), vS, oi (0 : Int32), oi (1 : Int32), oi (2 : Int32), vU, vU] [(.long (ob2_1.toInt64))])) rfl (hb hby d33_145) _ ?_
    refine XS.land X19.here hx rfl (hb hby d33_148) rfl ?_
    refine XS.aloadN X19.here hx rfl (hb hby d33_149) rfl rfl ?_
    refine XS.iload X19.here hx rfl (hb hby d33_150) rfl ?_
    refine X19.iaload hx (j := (0 : Int32)) (v := (.int ob0_0)) (by rw [e19]; exact Ar23.1) (State.isArrayOf_alike hZ.alike Ar23.2.1) Ar23.2.2 hin23 hat23 (g := (mkF m 152 #[oa ob0, oi (2 : Int32), oa ob2, oi (2 : Int32), oa b1, oi (1 : Int32), oi (1 : Int32), oj (0 : Int64), vS, oi (0 : Int32), oi (1 : Int32), oi (2 : Int32), vU, vU] [(.int (0 : Int32)), (.ref ob0), (.long ((ob2_1.toInt64) &&& (4294967295 : Int64)))])) rfl rfl (hb hby d33_152) _ ?_
    refine XS.i2l X19.here hx rfl (hb hby d33_153) rfl ?_
    show FS p e below T19 m 154 #[oa ob0, oi (2 : Int32), oa ob2, oi (2 : Int32), oa b1, oi (1 : Int32), oi (1 : Int32), oj (0 : Int64), vS, oi (0 : Int32), oi (1 : Int32), oi (2 : Int32), vU, vU] [(.long (ob0_0.toInt64)), (.long ((ob2_1.toInt64) &&& (4294967295 : Int64)))] _
    refine X19.ldc2Long hx hown (mvT hZ (own_w hw 153 rfl)) (g := (mkF m 154 #[oa ob0, oi (2 : Int32), oa ob2, oi (2 : Int32), oa b1, oi (1 : Int32), oi (1 : Int32), oj (0 : Int64), vS, oi (0 : Int32), oi (1 : Int32), oi (2 : Int32), vU, vU] [(.long (ob0_0.toInt64)), (.long ((ob2_1.toInt64) &&& (4294967295 : Int64)))])) rfl (hb hby d33_154) _ ?_
    refine XS.land X19.here hx rfl (hb hby d33_157) rfl ?_
    refine XS.lmul X19.here hx rfl (hb hby d33_158) rfl ?_
    refine XS.aload X19.here hx rfl (hb hby d33_159) rfl rfl ?_
    refine XS.iload X19.here hx rfl (hb hby d33_161) rfl ?_
    refine X19.iaload hx (j := (2 : Int32)) (v := (.int (pr14.toInt32))) (by rw [e19]; exact Ar24.1) (State.isArrayOf_alike hZ.alike Ar24.2.1) Ar24.2.2 hin24 hat24 (g := (mkF m 163 #[oa ob0, oi (2 : Int32), oa ob2, oi (2 : Int32), oa b1, oi (1 : Int32), oi (1 : Int32), oj (0 : Int64), vS, oi (0 : Int32), oi (1 : Int32), oi (2 : Int32), vU, vU] [(.int (2 : Int32)), (.ref b1), (.long (((ob2_1.toInt64) &&& (4294967295 : Int64)) * ((ob0_0.toInt64) &&& (4294967295 : Int64))))])) rfl rfl (hb hby d33_163) _ ?_
    refine XS.i2l X19.here hx rfl (hb hby d33_164) rfl ?_
    refine X19.ldc2Long hx hown (mvT hZ (own_w hw 153 rfl)) (g := (mkF m 165 #[oa ob0, oi (2 : Int32), oa ob2, oi (2 : Int32), oa b1, oi (1 : Int32), oi (1 : Int32), oj (0 : Int64), vS, oi (0 : Int32), oi (1 : Int32), oi (2 : Int32), vU, vU] [(.long ((pr14.toInt32).toInt64)), (.long (((ob2_1.toInt64) &&& (4294967295 : Int64)) * ((ob0_0.toInt64) &&& (4294967295 : Int64))))])) rfl (hb hby d33_165) _ ?_
    refine XS.land X19.here hx rfl (hb hby d33_168) rfl ?_
    refine XS.ladd X19.here hx rfl (hb hby d33_169) rfl ?_
    refine XS.lload X19.here hx rfl (hb hby d33_170) rfl ?_
    refine XS.ladd X19.here hx rfl (hb hby d33_172) rfl ?_
    exact k
  obtain ⟨c27, Ar27, cq27, S27, Nn27, Hh27, Gg27⟩ := id V19a
  have hin27 : ¬ ((2 : Int32) < 0 ∨ c27.slots.size ≤ ((2 : Int32)).toNatClampNeg) := inb_of S27 ⟨by decide, by decide⟩
  obtain ⟨T28, h28, X28, e28, W28, st28⟩ := stI X19 hx hZ e19 Ar27 (j := (2 : Int32)) hin27 (g := (mkF m 182 #[oa ob0, oi (2 : Int32), oa ob2, oi (2 : Int32), oa b1, oi (1 : Int32), oi (1 : Int32), oj (0 : Int64), vS, oi (0 : Int32), oi (1 : Int32), oi (2 : Int32), oj pr25, vS] [(.int (pr25.toInt32)), (.int (2 : Int32)), (.ref b1)])) rfl rfl (hb hby d33_182)
  have V28 := Arv.set Ar27 cq27 S27 Nn27 Hh27 Gg27 rfl W28 2 rfl (Nat.le_of_ble_eq_true rfl)
  have V28a : Arv Z h28 b1 k1 .int (4 : Int32) [(.int (0 : Int32)), (.int (((pr14.toUInt64 >>> ((32 : Int32) &&& 0x3f).toInt64.toUInt64).toInt64).toInt32)), (.int (pr25.toInt32)), (.int (pr6.toInt32))] (.int (0 : Int32)) := V28
  have N28 := Fr.snoc X28 N19 gz_b1
  have f29 := (f20.other W28 ne_ob2_b1)
  obtain ⟨c30, Ar30, cq30, S30, Nn30, Hh30, Gg30⟩ := id f29
  have hin30 : ¬ ((0 : Int32) < 0 ∨ c30.slots.size ≤ ((0 : Int32)).toNatClampNeg) := inb_of S30 ⟨by decide, by decide⟩
  have hat30 : c30.slots[((0 : Int32)).toNatClampNeg]? = some (.int ob2_0) := Has.at Hh30 hin30 rfl
  have f31 := (f22.other W28 ne_ob0_b1)
  obtain ⟨c32, Ar32, cq32, S32, Nn32, Hh32, Gg32⟩ := id f31
  have hin32 : ¬ ((0 : Int32) < 0 ∨ c32.slots.size ≤ ((0 : Int32)).toNatClampNeg) := inb_of S32 ⟨by decide, by decide⟩
  have hat32 : c32.slots[((0 : Int32)).toNatClampNeg]? = some (.int ob0_0) := Has.at Hh32 hin32 rfl
  obtain ⟨c33, Ar33, cq33, S33, Nn33, Hh33, Gg33⟩ := id V28a
  have hin33 : ¬ ((1 : Int32) < 0 ∨ c33.slots.size ≤ ((1 : Int32)).toNatClampNeg) := inb_of S33 ⟨by decide, by decide⟩
  have hat33 : c33.slots[((1 : Int32)).toNatClampNeg]? = some (.int (((pr14.toUInt64 >>> ((32 : Int32) &&& 0x3f).toInt64.toUInt64).toInt64).toInt32)) := Has.at Hh33 hin33 rfl
  obtain ⟨pr34, hv_pr34⟩ : ∃ z : Int64, z = (((((ob2_0.toInt64) &&& (4294967295 : Int64)) * ((ob0_0.toInt64) &&& (4294967295 : Int64))) + (((((pr14.toUInt64 >>> ((32 : Int32) &&& 0x3f).toInt64.toUInt64).toInt64).toInt32).toInt64) &&& (4294967295 : Int64))) + ((pr25.toUInt64 >>> ((32 : Int32) &&& 0x3f).toInt64.toUInt64).toInt64)) := ⟨_, rfl⟩
  have g35 : ∀ t, FS p e below T28 m 173 #[oa ob0, oi (2 : Int32), oa ob2, oi (2 : Int32), oa b1, oi (1 : Int32), oi (1 : Int32), .val (.long ((pr25.toUInt64 >>> ((32 : Int32) &&& 0x3f).toInt64.toUInt64).toInt64)), vS, oi (0 : Int32), oi (0 : Int32), oi (1 : Int32), oj pr25, vS] [(.long pr34)] t → ES p e below s₁ m #[(.ref ob0), (.int (2 : Int32)), (.ref ob2), (.int (2 : Int32)), .null] 14 t := by
    intro t k
    rw [hv_pr34] at k
    refine g26 t ?_
    show FS p e below T19 m 173 #[oa ob0, oi (2 : Int32), oa ob2, oi (2 : Int32), oa b1, oi (1 : Int32), oi (1 : Int32), oj (0 : Int64), vS, oi (0 : Int32), oi (1 : Int32), oi (2 : Int32), vU, vU] [(.long pr25)] _
    refine XS.lstore X19.here hx rfl (hb hby d33_173) rfl (l' := #[oa ob0, oi (2 : Int32), oa ob2, oi (2 : Int32), oa b1, oi (1 : Int32), oi (1 : Int32), oj (0 : Int64), vS, oi (0 : Int32), oi (1 : Int32), oi (2 : Int32), oj pr25, vS]) rfl ?_
    refine XS.aload X19.here hx rfl (hb hby d33_175) rfl rfl ?_
    refine XS.iload X19.here hx rfl (hb hby d33_177) rfl ?_
    refine XS.lload X19.here hx rfl (hb hby d33_179) rfl ?_
    refine XS.l2i X19.here hx rfl (hb hby d33_181) rfl ?_
    refine st28 _ ?_
    refine XS.lload X28.here hx rfl (hb hby d33_183) rfl ?_
    refine XS.bipush X28.here hx rfl (hb hby d33_185) ?_
    refine XS.lushr X28.here hx rfl (hb hby d33_187) rfl ?_
    refine XS.lstore X28.here hx rfl (hb hby d33_188) rfl (l' := #[oa ob0, oi (2 : Int32), oa ob2, oi (2 : Int32), oa b1, oi (1 : Int32), oi (1 : Int32), .val (.long ((pr25.toUInt64 >>> ((32 : Int32) &&& 0x3f).toInt64.toUInt64).toInt64)), vS, oi (0 : Int32), oi (1 : Int32), oi (2 : Int32), oj pr25, vS]) rfl ?_
    show FS p e below T28 m 190 #[oa ob0, oi (2 : Int32), oa ob2, oi (2 : Int32), oa b1, oi (1 : Int32), oi (1 : Int32), .val (.long ((pr25.toUInt64 >>> ((32 : Int32) &&& 0x3f).toInt64.toUInt64).toInt64)), vS, oi (0 : Int32), oi (1 : Int32), oi (2 : Int32), oj pr25, vS] [] _
    refine XS.iinc X28.here hx rfl (hb hby d33_190) rfl (l' := #[oa ob0, oi (2 : Int32), oa ob2, oi (2 : Int32), oa b1, oi (1 : Int32), oi (1 : Int32), .val (.long ((pr25.toUInt64 >>> ((32 : Int32) &&& 0x3f).toInt64.toUInt64).toInt64)), vS, oi (0 : Int32), .val (.int ((1 : Int32) + (-1 : Int32))), oi (2 : Int32), oj pr25, vS]) rfl ?_
    rw [show ((1 : Int32) + (-1 : Int32)) = (0 : Int32) from by decide]
    show FS p e below T28 m 193 #[oa ob0, oi (2 : Int32), oa ob2, oi (2 : Int32), oa b1, oi (1 : Int32), oi (1 : Int32), .val (.long ((pr25.toUInt64 >>> ((32 : Int32) &&& 0x3f).toInt64.toUInt64).toInt64)), vS, oi (0 : Int32), oi (0 : Int32), oi (2 : Int32), oj pr25, vS] [] _
    refine XS.iinc X28.here hx rfl (hb hby d33_193) rfl (l' := #[oa ob0, oi (2 : Int32), oa ob2, oi (2 : Int32), oa b1, oi (1 : Int32), oi (1 : Int32), .val (.long ((pr25.toUInt64 >>> ((32 : Int32) &&& 0x3f).toInt64.toUInt64).toInt64)), vS, oi (0 : Int32), oi (0 : Int32), .val (.int ((2 : Int32) + (-1 : Int32))), oj pr25, vS]) rfl ?_
    rw [show ((2 : Int32) + (-1 : Int32)) = (1 : Int32) from by decide]
    refine XS.goto X28.here hx rfl (pc0 := 196) (pc' := 135) rfl (hb hby d33_196) (by decide) (by decide) ?_
    refine XS.iload X28.here hx rfl (hb hby d33_135) rfl ?_
    refine XS.ifNo X28.here hx rfl (hb hby d33_137) rfl ((if0 _ _).trans (flt (by decide : ¬ ((0 : Int32) < (0 : Int32)))).1) ?_
    refine XS.aloadN X28.here hx rfl (hb hby d33_140) rfl rfl ?_
    show FS p e below T28 m 141 #[oa ob0, oi (2 : Int32), oa ob2, oi (2 : Int32), oa b1, oi (1 : Int32), oi (1 : Int32), .val (.long ((pr25.toUInt64 >>> ((32 : Int32) &&& 0x3f).toInt64.toUInt64).toInt64)), vS, oi (0 : Int32), oi (0 : Int32), oi (1 : Int32), oj pr25, vS] [(.ref ob2)] _
    refine XS.iload X28.here hx rfl (hb hby d33_141) rfl ?_
    refine X28.iaload hx (j := (0 : Int32)) (v := (.int ob2_0)) (by rw [e28]; exact Ar30.1) (State.isArrayOf_alike hZ.alike Ar30.2.1) Ar30.2.2 hin30 hat30 (g := (mkF m 143 #[oa ob0, oi (2 : Int32), oa ob2, oi (2 : Int32), oa b1, oi (1 : Int32), oi (1 : Int32), .val (.long ((pr25.toUInt64 >>> ((32 : Int32) &&& 0x3f).toInt64.toUInt64).toInt64)), vS, oi (0 : Int32), oi (0 : Int32), oi (1 : Int32), oj pr25, vS] [(.int (0 : Int32)), (.ref ob2)])) rfl rfl (hb hby d33_143) _ ?_
    refine XS.i2l X28.here hx rfl (hb hby d33_144) rfl ?_
    refine X28.ldc2Long hx hown (mvT hZ (own_w hw 153 rfl)) (g := (mkF m 145 #[oa ob0, oi (2 : Int32), oa ob2, oi (2 : Int32), oa b1, oi (1 : Int32), oi (1 : Int32), .val (.long ((pr25.toUInt64 >>> ((32 : Int32) &&& 0x3f).toInt64.toUInt64).toInt64)), vS, oi (0 : Int32), oi (0 : Int32), oi (1 : Int32), oj pr25, vS] [(.long (ob2_0.toInt64))])) rfl (hb hby d33_145) _ ?_
    refine XS.land X28.here hx rfl (hb hby d33_148) rfl ?_
    refine XS.aloadN X28.here hx rfl (hb hby d33_149) rfl rfl ?_
    refine XS.iload X28.here hx rfl (hb hby d33_150) rfl ?_
    refine X28.iaload hx (j := (0 : Int32)) (v := (.int ob0_0)) (by rw [e28]; exact Ar32.1) (State.isArrayOf_alike hZ.alike Ar32.2.1) Ar32.2.2 hin32 hat32 (g := (mkF m 152 #[oa ob0, oi (2 : Int32), oa ob2, oi (2 : Int32), oa b1, oi (1 : Int32), oi (1 : Int32), .val (.long ((pr25.toUInt64 >>> ((32 : Int32) &&& 0x3f).toInt64.toUInt64).toInt64)), vS, oi (0 : Int32), oi (0 : Int32), oi (1 : Int32), oj pr25, vS] [(.int (0 : Int32)), (.ref ob0), (.long ((ob2_0.toInt64) &&& (4294967295 : Int64)))])) rfl rfl (hb hby d33_152) _ ?_
    refine XS.i2l X28.here hx rfl (hb hby d33_153) rfl ?_
    refine X28.ldc2Long hx hown (mvT hZ (own_w hw 153 rfl)) (g := (mkF m 154 #[oa ob0, oi (2 : Int32), oa ob2, oi (2 : Int32), oa b1, oi (1 : Int32), oi (1 : Int32), .val (.long ((pr25.toUInt64 >>> ((32 : Int32) &&& 0x3f).toInt64.toUInt64).toInt64)), vS, oi (0 : Int32), oi (0 : Int32), oi (1 : Int32), oj pr25, vS] [(.long (ob0_0.toInt64)), (.long ((ob2_0.toInt64) &&& (4294967295 : Int64)))])) rfl (hb hby d33_154) _ ?_
    refine XS.land X28.here hx rfl (hb hby d33_157) rfl ?_
    refine XS.lmul X28.here hx rfl (hb hby d33_158) rfl ?_
    refine XS.aload X28.here hx rfl (hb hby d33_159) rfl rfl ?_
    refine XS.iload X28.here hx rfl (hb hby d33_161) rfl ?_
    refine X28.iaload hx (j := (1 : Int32)) (v := (.int (((pr14.toUInt64 >>> ((32 : Int32) &&& 0x3f).toInt64.toUInt64).toInt64).toInt32))) (by rw [e28]; exact Ar33.1) (State.isArrayOf_alike hZ.alike Ar33.2.1) Ar33.2.2 hin33 hat33 (g := (mkF m 163 #[oa ob0, oi (2 : Int32), oa ob2, oi (2 : Int32), oa b1, oi (1 : Int32), oi (1 : Int32), .val (.long ((pr25.toUInt64 >>> ((32 : Int32) &&& 0x3f).toInt64.toUInt64).toInt64)), vS, oi (0 : Int32), oi (0 : Int32), oi (1 : Int32), oj pr25, vS] [(.int (1 : Int32)), (.ref b1), (.long (((ob2_0.toInt64) &&& (4294967295 : Int64)) * ((ob0_0.toInt64) &&& (4294967295 : Int64))))])) rfl rfl (hb hby d33_163) _ ?_
    refine XS.i2l X28.here hx rfl (hb hby d33_164) rfl ?_
    show FS p e below T28 m 165 #[oa ob0, oi (2 : Int32), oa ob2, oi (2 : Int32), oa b1, oi (1 : Int32), oi (1 : Int32), .val (.long ((pr25.toUInt64 >>> ((32 : Int32) &&& 0x3f).toInt64.toUInt64).toInt64)), vS, oi (0 : Int32), oi (0 : Int32), oi (1 : Int32), oj pr25, vS] [(.long ((((pr14.toUInt64 >>> ((32 : Int32) &&& 0x3f).toInt64.toUInt64).toInt64).toInt32).toInt64)), (.long (((ob2_0.toInt64) &&& (4294967295 : Int64)) * ((ob0_0.toInt64) &&& (4294967295 : Int64))))] _
    refine X28.ldc2Long hx hown (mvT hZ (own_w hw 153 rfl)) (g := (mkF m 165 #[oa ob0, oi (2 : Int32), oa ob2, oi (2 : Int32), oa b1, oi (1 : Int32), oi (1 : Int32), .val (.long ((pr25.toUInt64 >>> ((32 : Int32) &&& 0x3f).toInt64.toUInt64).toInt64)), vS, oi (0 : Int32), oi (0 : Int32), oi (1 : Int32), oj pr25, vS] [(.long ((((pr14.toUInt64 >>> ((32 : Int32) &&& 0x3f).toInt64.toUInt64).toInt64).toInt32).toInt64)), (.long (((ob2_0.toInt64) &&& (4294967295 : Int64)) * ((ob0_0.toInt64) &&& (4294967295 : Int64))))])) rfl (hb hby d33_165) _ ?_
    refine XS.land X28.here hx rfl (hb hby d33_168) rfl ?_
    refine XS.ladd X28.here hx rfl (hb hby d33_169) rfl ?_
    refine XS.lload X28.here hx rfl (hb hby d33_170) rfl ?_
    refine XS.ladd X28.here hx rfl (hb hby d33_172) rfl ?_
    exact k
  obtain ⟨c36, Ar36, cq36, S36, Nn36, Hh36, Gg36⟩ := id V28a
  have hin36 : ¬ ((1 : Int32) < 0 ∨ c36.slots.size ≤ ((1 : Int32)).toNatClampNeg) := inb_of S36 ⟨by decide, by decide⟩
  obtain ⟨T37, h37, X37, e37, W37, st37⟩ := stI X28 hx hZ e28 Ar36 (j := (1 : Int32)) hin36 (g := (mkF m 182 #[oa ob0, oi (2 : Int32), oa ob2, oi (2 : Int32), oa b1, oi (1 : Int32), oi (1 : Int32), .val (.long ((pr25.toUInt64 >>> ((32 : Int32) &&& 0x3f).toInt64.toUInt64).toInt64)), vS, oi (0 : Int32), oi (0 : Int32), oi (1 : Int32), oj pr34, vS] [(.int (pr34.toInt32)), (.int (1 : Int32)), (.ref b1)])) rfl rfl (hb hby d33_182)
  have V37 := Arv.set Ar36 cq36 S36 Nn36 Hh36 Gg36 rfl W37 1 rfl (Nat.le_of_ble_eq_true rfl)
  have V37a : Arv Z h37 b1 k1 .int (4 : Int32) [(.int (0 : Int32)), (.int (pr34.toInt32)), (.int (pr25.toInt32)), (.int (pr6.toInt32))] (.int (0 : Int32)) := V37
  have N37 := Fr.snoc X37 N28 gz_b1
  obtain ⟨c38, Ar38, cq38, S38, Nn38, Hh38, Gg38⟩ := id V37a
  have hin38 : ¬ ((0 : Int32) < 0 ∨ c38.slots.size ≤ ((0 : Int32)).toNatClampNeg) := inb_of S38 ⟨by decide, by decide⟩
  obtain ⟨T39, h39, X39, e39, W39, st39⟩ := stI X37 hx hZ e37 Ar38 (j := (0 : Int32)) hin38 (g := (mkF m 206 #[oa ob0, oi (2 : Int32), oa ob2, oi (2 : Int32), oa b1, oi (1 : Int32), oi (1 : Int32), .val (.long ((pr34.toUInt64 >>> ((32 : Int32) &&& 0x3f).toInt64.toUInt64).toInt64)), vS, oi (0 : Int32), oi (-1 : Int32), oi (0 : Int32), oj pr34, vS] [(.int (((pr34.toUInt64 >>> ((32 : Int32) &&& 0x3f).toInt64.toUInt64).toInt64).toInt32)), (.int (0 : Int32)), (.ref b1)])) rfl rfl (hb hby d33_206)
  have V39 := Arv.set Ar38 cq38 S38 Nn38 Hh38 Gg38 rfl W39 0 rfl (Nat.le_of_ble_eq_true rfl)
  have V39a : Arv Z h39 b1 k1 .int (4 : Int32) [(.int (((pr34.toUInt64 >>> ((32 : Int32) &&& 0x3f).toInt64.toUInt64).toInt64).toInt32)), (.int (pr34.toInt32)), (.int (pr25.toInt32)), (.int (pr6.toInt32))] (.int (0 : Int32)) := V39
  have N39 := Fr.snoc X39 N37 gz_b1
  have g40 : ∀ t, FS p e below T39 m 215 #[oa ob0, oi (2 : Int32), oa ob2, oi (2 : Int32), oa b1, oi (1 : Int32), oi (1 : Int32), .val (.long ((pr34.toUInt64 >>> ((32 : Int32) &&& 0x3f).toInt64.toUInt64).toInt64)), vS, oi (-1 : Int32), oi (-1 : Int32), oi (0 : Int32), oj pr34, vS] [(.ref b1)] t → ES p e below s₁ m #[(.ref ob0), (.int (2 : Int32)), (.ref ob2), (.int (2 : Int32)), .null] 14 t := by
    intro t k
    refine g35 t ?_
    show FS p e below T28 m 173 #[oa ob0, oi (2 : Int32), oa ob2, oi (2 : Int32), oa b1, oi (1 : Int32), oi (1 : Int32), .val (.long ((pr25.toUInt64 >>> ((32 : Int32) &&& 0x3f).toInt64.toUInt64).toInt64)), vS, oi (0 : Int32), oi (0 : Int32), oi (1 : Int32), oj pr25, vS] [(.long pr34)] _
    refine XS.lstore X28.here hx rfl (hb hby d33_173) rfl (l' := #[oa ob0, oi (2 : Int32), oa ob2, oi (2 : Int32), oa b1, oi (1 : Int32), oi (1 : Int32), .val (.long ((pr25.toUInt64 >>> ((32 : Int32) &&& 0x3f).toInt64.toUInt64).toInt64)), vS, oi (0 : Int32), oi (0 : Int32), oi (1 : Int32), oj pr34, vS]) rfl ?_
    refine XS.aload X28.here hx rfl (hb hby d33_175) rfl rfl ?_
    refine XS.iload X28.here hx rfl (hb hby d33_177) rfl ?_
    refine XS.lload X28.here hx rfl (hb hby d33_179) rfl ?_
    refine XS.l2i X28.here hx rfl (hb hby d33_181) rfl ?_
    refine st37 _ ?_
    refine XS.lload X37.here hx rfl (hb hby d33_183) rfl ?_
    refine XS.bipush X37.here hx rfl (hb hby d33_185) ?_
    refine XS.lushr X37.here hx rfl (hb hby d33_187) rfl ?_
    refine XS.lstore X37.here hx rfl (hb hby d33_188) rfl (l' := #[oa ob0, oi (2 : Int32), oa ob2, oi (2 : Int32), oa b1, oi (1 : Int32), oi (1 : Int32), .val (.long ((pr34.toUInt64 >>> ((32 : Int32) &&& 0x3f).toInt64.toUInt64).toInt64)), vS, oi (0 : Int32), oi (0 : Int32), oi (1 : Int32), oj pr34, vS]) rfl ?_
    show FS p e below T37 m 190 #[oa ob0, oi (2 : Int32), oa ob2, oi (2 : Int32), oa b1, oi (1 : Int32), oi (1 : Int32), .val (.long ((pr34.toUInt64 >>> ((32 : Int32) &&& 0x3f).toInt64.toUInt64).toInt64)), vS, oi (0 : Int32), oi (0 : Int32), oi (1 : Int32), oj pr34, vS] [] _
    refine XS.iinc X37.here hx rfl (hb hby d33_190) rfl (l' := #[oa ob0, oi (2 : Int32), oa ob2, oi (2 : Int32), oa b1, oi (1 : Int32), oi (1 : Int32), .val (.long ((pr34.toUInt64 >>> ((32 : Int32) &&& 0x3f).toInt64.toUInt64).toInt64)), vS, oi (0 : Int32), .val (.int ((0 : Int32) + (-1 : Int32))), oi (1 : Int32), oj pr34, vS]) rfl ?_
    rw [show ((0 : Int32) + (-1 : Int32)) = (-1 : Int32) from by decide]
    show FS p e below T37 m 193 #[oa ob0, oi (2 : Int32), oa ob2, oi (2 : Int32), oa b1, oi (1 : Int32), oi (1 : Int32), .val (.long ((pr34.toUInt64 >>> ((32 : Int32) &&& 0x3f).toInt64.toUInt64).toInt64)), vS, oi (0 : Int32), oi (-1 : Int32), oi (1 : Int32), oj pr34, vS] [] _
    refine XS.iinc X37.here hx rfl (hb hby d33_193) rfl (l' := #[oa ob0, oi (2 : Int32), oa ob2, oi (2 : Int32), oa b1, oi (1 : Int32), oi (1 : Int32), .val (.long ((pr34.toUInt64 >>> ((32 : Int32) &&& 0x3f).toInt64.toUInt64).toInt64)), vS, oi (0 : Int32), oi (-1 : Int32), .val (.int ((1 : Int32) + (-1 : Int32))), oj pr34, vS]) rfl ?_
    rw [show ((1 : Int32) + (-1 : Int32)) = (0 : Int32) from by decide]
    refine XS.goto X37.here hx rfl (pc0 := 196) (pc' := 135) rfl (hb hby d33_196) (by decide) (by decide) ?_
    refine XS.iload X37.here hx rfl (hb hby d33_135) rfl ?_
    refine XS.ifYes X37.here hx rfl (pc0 := 137) (pc' := 199) rfl (hb hby d33_137) rfl ((if0 _ _).trans (tlt (by decide : (-1 : Int32) < (0 : Int32))).1) (by decide) (by decide) ?_
    refine XS.aload X37.here hx rfl (hb hby d33_199) rfl rfl ?_
    show FS p e below T37 m 201 #[oa ob0, oi (2 : Int32), oa ob2, oi (2 : Int32), oa b1, oi (1 : Int32), oi (1 : Int32), .val (.long ((pr34.toUInt64 >>> ((32 : Int32) &&& 0x3f).toInt64.toUInt64).toInt64)), vS, oi (0 : Int32), oi (-1 : Int32), oi (0 : Int32), oj pr34, vS] [(.ref b1)] _
    refine XS.iload X37.here hx rfl (hb hby d33_201) rfl ?_
    refine XS.lload X37.here hx rfl (hb hby d33_203) rfl ?_
    refine XS.l2i X37.here hx rfl (hb hby d33_205) rfl ?_
    refine st39 _ ?_
    show FS p e below T39 m 207 #[oa ob0, oi (2 : Int32), oa ob2, oi (2 : Int32), oa b1, oi (1 : Int32), oi (1 : Int32), .val (.long ((pr34.toUInt64 >>> ((32 : Int32) &&& 0x3f).toInt64.toUInt64).toInt64)), vS, oi (0 : Int32), oi (-1 : Int32), oi (0 : Int32), oj pr34, vS] [] _
    refine XS.iinc X39.here hx rfl (hb hby d33_207) rfl (l' := #[oa ob0, oi (2 : Int32), oa ob2, oi (2 : Int32), oa b1, oi (1 : Int32), oi (1 : Int32), .val (.long ((pr34.toUInt64 >>> ((32 : Int32) &&& 0x3f).toInt64.toUInt64).toInt64)), vS, .val (.int ((0 : Int32) + (-1 : Int32))), oi (-1 : Int32), oi (0 : Int32), oj pr34, vS]) rfl ?_
    rw [show ((0 : Int32) + (-1 : Int32)) = (-1 : Int32) from by decide]
    refine XS.goto X39.here hx rfl (pc0 := 210) (pc' := 114) rfl (hb hby d33_210) (by decide) (by decide) ?_
    refine XS.iload X39.here hx rfl (hb hby d33_114) rfl ?_
    refine XS.ifYes X39.here hx rfl (pc0 := 116) (pc' := 213) rfl (hb hby d33_116) rfl ((if0 _ _).trans (tlt (by decide : (-1 : Int32) < (0 : Int32))).1) (by decide) (by decide) ?_
    refine XS.aload X39.here hx rfl (hb hby d33_213) rfl rfl ?_
    exact k
  obtain ⟨fs, hrt, hrun, hended, hW, hsame⟩ := X39.leave (v := some (.ref b1)) (fun h => by rw [Bd.returns] at h; cases h)
  refine ⟨_, _, g40 _ ?_, hrun, hended, _, _, rfl, ?_, ⟨_, rfl⟩, hW, hsame.mono (by decide) (by decide)⟩
  · show Steps p.tables e below (T39.setTop (mkF m 215 #[oa ob0, oi (2 : Int32), oa ob2, oi (2 : Int32), oa b1, oi (1 : Int32), oi (1 : Int32), .val (.long ((pr34.toUInt64 >>> ((32 : Int32) &&& 0x3f).toInt64.toUInt64).toInt64)), vS, oi (-1 : Int32), oi (-1 : Int32), oi (0 : Int32), oj pr34, vS] [(.ref b1)])) _
    jvm_step X39.here [X39.here.top, hx, (hb hby d33_215), X39.method', Bd.returns, Value.isRef, FieldType.isReference]
    first | (intro acts; rw [hrt _ acts rfl rfl rfl]) | rw [hrt _ _ rfl rfl rfl]
    exact Steps.refl _
  · show own_Q_rmA26 Z ob0 k_ob0 ob0_0 ob0_1 ob2 k_ob2 ob2_0 ob2_1 zr zm ps ng zk h0 n0 _ T39.heap _
    rw [e39]
    exact ⟨b1, _, _, rfl, N39, (Keep.wr (Keep.wr (Keep.wr (Keep.wr (Keep.wr (Keep.wr (Keep.ext (Keep.refl h0 []) E1) W9 (Or.inr sz_b1)) W17 (Or.inr sz_b1)) W19 (Or.inr sz_b1)) W28 (Or.inr sz_b1)) W37 (Or.inr sz_b1)) W39 (Or.inr sz_b1)), sz_b1, V39a⟩
theorem own_pd15 : parseMethodDescriptor "([II[II[I)[I" = some ⟨[(.array .int), .int, (.array .int), .int, (.array .int)], some (.array .int)⟩ := by decide +kernel
theorem d30_19 : decode q30 19 = .ok (.areturn, 1) := by decide +kernel
def own_Q_rmA23 (Z : State) (ob0 : Addr) (k_ob0 : ClassId) (ob0_0 : Int32) (ob0_1 : Int32) (ob2 : Addr) (k_ob2 : ClassId) (ob2_0 : Int32) (ob2_1 : Int32)  (zr zm ps ng : Addr) (zk : ClassId) (h0 : Heap) (n0 : Nat) (v : Option Value) (h : Heap) (L : List Loc) : Prop := ∃ (rb : Addr) (rk : ClassId) (rl : List Value), v = some (.ref rb) ∧ Fr n0 L ∧ Keep h0 h [] ∧ h0.size ≤ rb ∧ Arv Z h rb rk .int (4 : Int32) rl (.int (0 : Int32))
theorem rmA23 (l : Launch) (Z : State) (a0 : Array Value) (hw : ∀ d ∈ tables_1, d.before a0 Z = true) (ws : List Jvm.Cond) (ob0 : Addr) (k_ob0 : ClassId) (ob0_0 : Int32) (ob0_1 : Int32) (ob2 : Addr) (k_ob2 : ClassId) (ob2_0 : Int32) (ob2_1 : Int32)  (zr zm ps ng : Addr) (zk : ClassId) (h0 : Heap) (n0 : Nat) (O0 : Old Z n0 h0) (G : own_Gl Z zr zm ps ng zk) (V_ob0 : Arv Z h0 ob0 k_ob0 .int (2 : Int32) [(.int ob0_0), (.int ob0_1)] (.int (0 : Int32))) (V_ob2 : Arv Z h0 ob2 k_ob2 .int (2 : Int32) [(.int ob2_0), (.int ob2_1)] (.int (0 : Int32))) :
    MetFree l own_y20 (head1 (Jvm.Cond.code own_y20 jdk_2097_method_45_code 5 (some (.array .int)) :: ws) ({ frames := 2, cells := 1, slots := 4, locals := 25 } : Room)) (fun a U => a = #[(.ref ob0), (.int (2 : Int32)), (.ref ob2), (.int (2 : Int32)), .null] ∧ Z.Warmed39 U.vm ∧ U.heap = h0) (fun _ _ _ _ _ => True) (fun _ U o U' => ∃ v L, o = .returned v ∧ own_Q_rmA23 Z ob0 k_ob0 ob0_0 ob0_1 ob2 k_ob2 ob2_0 ob2_1 zr zm ps ng zk h0 n0 v U'.heap L ∧ FrameEnd U o U' L ({ frames := 2, cells := 1, slots := 4, locals := 25 } : Room).cells ({ frames := 2, cells := 1, slots := 4, locals := 25 } : Room).slots) := by
  refine MetFree.of_bodySF (plainFor_of_name own_pn1) hisR ?_
  intro p e s m args below meth c s₁ Bd hml0 hP hK
  obtain ⟨rfl, hZ, hh⟩ := hP
  have hx := Bd.exec
  have hby := Bd.bytes
  have hml : c.maxLocals = 5 := hml0
  have hown : s.vm.findClass "java/math/BigInteger" = some m.cls := findClass_of_methodNamed Bd.named
  have hnm := (name_of_methodNamed Bd.named Bd.method).1
  have X0 : Stand p l e ({ frames := 2, cells := 1, slots := 4, locals := 25 } : Room) s m #[(.ref ob0), (.int (2 : Int32)), (.ref ob2), (.int (2 : Int32)), .null] below meth c s₁ [] 0 0 := Stand.of_body Bd
  have e0 : s₁.heap = h0 := by rw [← hh, Bd.state]; rfl
  have N0 := Fr.nil n0
  have Z0 : n0 ≤ h0.size := O0.1 ▸ O0.2.1
  have g0 : ∀ t, FS p e below s₁ m 0 #[oa ob0, oi (2 : Int32), oa ob2, oi (2 : Int32), .val .null] [] t → ES p e below s₁ m #[(.ref ob0), (.int (2 : Int32)), (.ref ob2), (.int (2 : Int32)), .null] 5 t := fun t k => castTop (own_ef24 m (ob0) ((2 : Int32)) (ob2) ((2 : Int32))) k
  have G0 := G
  obtain ⟨S_Z, E_Z, F_Zs, F_Zm, V_Z, S_P, P_P, S_N, P_N⟩ := G
  obtain ⟨_, _, ⟨T1, L1, k1, n1⟩, -, X1, ⟨Lc1, hQ1, l1, y1, z1⟩, st1⟩ := Jvm.LawKit.callS X0 hx (y := own_y21) hown (mvT hZ (own_w hw 184 rfl)) (mvT hZ (own_w hw 185 rfl)) (mvT hZ (own_w hw 52 rfl)) (mvT hZ (own_w hw 186 rfl)) (by decide) (backOf (W := 0) (rmA24 l Z a0 hw [] ob0 k_ob0 (ob0_0) (ob0_1)  zr zm ps ng zk h0 n0 O0 G0 V_ob0  ) hZ (own_w hw 186 rfl) (own_w hw 52 rfl) (by decide) (by decide)) (g := (mkF m 2 #[oa ob0, oi (2 : Int32), oa ob2, oi (2 : Int32), .val .null] [(.int (2 : Int32)), (.ref ob0)])) rfl (by rw [hml]; rfl) (argsL := [(.ref ob0), (.int (2 : Int32))]) (rest := []) (lenOf own_pd9 rfl) rfl (own_W0 rfl) (hb hby d30_2) (fun _ _ => ⟨rfl, e0, (by decide : 0 + 0 ≤ _), (by decide : 0 + 0 ≤ _)⟩)
  dsimp only [Pt.U, Pt.locs, Pt.cells, Pt.slots] at X1 l1 y1 z1 st1 hQ1
  subst l1 y1 z1
  obtain ⟨rfl, Nq1, e1⟩ := hQ1
  have N1 := Fr.app N0 Nq1
  obtain ⟨_, _, ⟨T2, L2, k2, n2⟩, -, X2, ⟨Lc2, hQ2, l2, y2, z2⟩, st2⟩ := Jvm.LawKit.callS X1 hx (y := own_y21) hown (mvT hZ (own_w hw 184 rfl)) (mvT hZ (own_w hw 185 rfl)) (mvT hZ (own_w hw 52 rfl)) (mvT hZ (own_w hw 186 rfl)) (by decide) (backOf (W := 0) (rmA24 l Z a0 hw [] ob2 k_ob2 (ob2_0) (ob2_1)  zr zm ps ng zk h0 n0 O0 G0 V_ob2  ) hZ (own_w hw 186 rfl) (own_w hw 52 rfl) (by decide) (by decide)) (g := (mkF m 7 #[oa ob0, oi (2 : Int32), oa ob2, oi (2 : Int32), .val .null] [(.int (2 : Int32)), (.ref ob2)])) rfl (by rw [hml]; rfl) (argsL := [(.ref ob2), (.int (2 : Int32))]) (rest := []) (lenOf own_pd9 rfl) rfl (own_W0 rfl) (hb hby d30_7) (fun _ _ => ⟨rfl, e1, (by decide : 0 + 0 ≤ _), (by decide : 0 + 0 ≤ _)⟩)
  dsimp only [Pt.U, Pt.locs, Pt.cells, Pt.slots] at X2 l2 y2 z2 st2 hQ2
  subst l2 y2 z2
  obtain ⟨rfl, Nq2, e2⟩ := hQ2
  have N2 := Fr.app N1 Nq2
  obtain ⟨_, _, ⟨T3, L3, k3, n3⟩, -, X3, ⟨Lc3, hQ3, l3, y3, z3⟩, st3⟩ := Jvm.LawKit.callS X2 hx (y := own_y23) hown (mvT hZ (own_w hw 190 rfl)) (mvT hZ (own_w hw 191 rfl)) (mvT hZ (own_w hw 52 rfl)) (mvT hZ (own_w hw 192 rfl)) (by decide) (backOf (W := 0) (rmA26 l Z a0 hw [] ob0 k_ob0 (ob0_0) (ob0_1) ob2 k_ob2 (ob2_0) (ob2_1)  zr zm ps ng zk h0 n0 O0 G0 V_ob0 V_ob2  ) hZ (own_w hw 192 rfl) (own_w hw 52 rfl) (by decide) (by decide)) (g := (mkF m 16 #[oa ob0, oi (2 : Int32), oa ob2, oi (2 : Int32), .val .null] [.null, (.int (2 : Int32)), (.ref ob2), (.int (2 : Int32)), (.ref ob0)])) rfl (by rw [hml]; rfl) (argsL := [(.ref ob0), (.int (2 : Int32)), (.ref ob2), (.int (2 : Int32)), .null]) (rest := []) (lenOf own_pd15 rfl) rfl (own_W0 rfl) (hb hby d30_16) (fun _ _ => ⟨rfl, e2, (by decide : 0 + 1 ≤ _), (by decide : 0 + 4 ≤ _)⟩)
  dsimp only [Pt.U, Pt.locs, Pt.cells, Pt.slots] at X3 l3 y3 z3 st3 hQ3
  subst l3 y3 z3
  obtain ⟨rb3, rk3, rl3, rfl, Nq3, K3, hb3, Va3⟩ := hQ3
  have N3 := Fr.app N2 Nq3
  have sz_rb3 : h0.size ≤ rb3 := hb3
  have gz_rb3 : n0 ≤ rb3 := Nat.le_trans Z0 sz_rb3
  have ne_ob0_rb3 : ob0 ≠ rb3 := Nat.ne_of_lt (Nat.lt_of_lt_of_le V_ob0.lt hb3)
  have ne_ob2_rb3 : ob2 ≠ rb3 := Nat.ne_of_lt (Nat.lt_of_lt_of_le V_ob2.lt hb3)
  have g4 : ∀ t, FS p e below T3 m 19 #[oa ob0, oi (2 : Int32), oa ob2, oi (2 : Int32), .val .null] [(.ref rb3)] t → ES p e below s₁ m #[(.ref ob0), (.int (2 : Int32)), (.ref ob2), (.int (2 : Int32)), .null] 5 t := by
    intro t k
    refine g0 t ?_
    show FS p e below s₁ m 0 #[oa ob0, oi (2 : Int32), oa ob2, oi (2 : Int32), .val .null] [] _
    refine XS.aloadN X0.here hx rfl (hb hby d30_0) rfl rfl ?_
    refine XS.iloadN X0.here hx rfl (hb hby d30_1) rfl ?_
    refine st1 _ ?_
    refine XS.aloadN X1.here hx rfl (hb hby d30_5) rfl rfl ?_
    refine XS.iloadN X1.here hx rfl (hb hby d30_6) rfl ?_
    refine st2 _ ?_
    refine XS.aloadN X2.here hx rfl (hb hby d30_10) rfl rfl ?_
    refine XS.iloadN X2.here hx rfl (hb hby d30_11) rfl ?_
    refine XS.aloadN X2.here hx rfl (hb hby d30_12) rfl rfl ?_
    refine XS.iloadN X2.here hx rfl (hb hby d30_13) rfl ?_
    refine XS.aload X2.here hx rfl (hb hby d30_14) rfl rfl ?_
    refine st3 _ ?_
    exact k
  obtain ⟨fs, hrt, hrun, hended, hW, hsame⟩ := X3.leave (v := some (.ref rb3)) (fun h => by rw [Bd.returns] at h; cases h)
  refine ⟨_, _, g4 _ ?_, hrun, hended, _, _, rfl, ?_, ⟨_, rfl⟩, hW, hsame.mono (by decide) (by decide)⟩
  · show Steps p.tables e below (T3.setTop (mkF m 19 #[oa ob0, oi (2 : Int32), oa ob2, oi (2 : Int32), .val .null] [(.ref rb3)])) _
    jvm_step X3.here [X3.here.top, hx, (hb hby d30_19), X3.method', Bd.returns, Value.isRef, FieldType.isReference]
    first | (intro acts; rw [hrt _ acts rfl rfl rfl]) | rw [hrt _ _ rfl rfl rfl]
    exact Steps.refl _
  · show own_Q_rmA23 Z ob0 k_ob0 ob0_0 ob0_1 ob2 k_ob2 ob2_0 ob2_1 zr zm ps ng zk h0 n0 _ T3.heap _
    exact ⟨rb3, _, _, rfl, N3, (Keep.trans (Keep.refl h0 []) K3 all0), sz_rb3, Va3⟩
theorem d11_151 : decode q11 151 = .ok (.astore 8, 2) := by decide +kernel
theorem d11_153 : decode q11 153 = .ok (.aload 8, 2) := by decide +kernel
theorem d11_155 : decode q11 155 = .ok (.invokestatic 53, 3) := by decide +kernel
abbrev own_y24 : MethodName := ⟨"java/math/BigInteger", "trustedStripLeadingZeroInts", "([I)[I"⟩
theorem own_ef28 (m : MethodId) (x0 : Addr) : entryFrame m #[(.ref x0)] 3 = mkF m 0 #[oa x0, vU, vU] [] := by first | (simp [entryFrame, mkF, argsToLocals, Value.category]; done) | rfl
theorem d34_0 : decode q34 0 = .ok (.aload_n 0, 1) := by decide +kernel
theorem d34_1 : decode q34 1 = .ok (.arraylength, 1) := by decide +kernel
theorem d34_2 : decode q34 2 = .ok (.istore_n 1, 1) := by decide +kernel
theorem d34_3 : decode q34 3 = .ok (.iconst 0, 1) := by decide +kernel
theorem d34_4 : decode q34 4 = .ok (.istore_n 2, 1) := by decide +kernel
theorem d34_5 : decode q34 5 = .ok (.iload_n 2, 1) := by decide +kernel
theorem d34_6 : decode q34 6 = .ok (.iload_n 1, 1) := by decide +kernel
theorem d34_7 : decode q34 7 = .ok (.if_icmp .ge 15, 3) := by decide +kernel
theorem d34_10 : decode q34 10 = .ok (.aload_n 0, 1) := by decide +kernel
theorem d34_11 : decode q34 11 = .ok (.iload_n 2, 1) := by decide +kernel
theorem d34_12 : decode q34 12 = .ok (.iaload, 1) := by decide +kernel
theorem d34_13 : decode q34 13 = .ok (.ifCond .ne 9, 3) := by decide +kernel
theorem d34_16 : decode q34 16 = .ok (.iinc 2 1, 3) := by decide +kernel
theorem d34_19 : decode q34 19 = .ok (.goto (-14), 3) := by decide +kernel
theorem d34_22 : decode q34 22 = .ok (.iload_n 2, 1) := by decide +kernel
theorem d34_23 : decode q34 23 = .ok (.ifCond .ne 7, 3) := by decide +kernel
theorem d34_30 : decode q34 30 = .ok (.aload_n 0, 1) := by decide +kernel
theorem d34_31 : decode q34 31 = .ok (.iload_n 2, 1) := by decide +kernel
theorem d34_32 : decode q34 32 = .ok (.iload_n 1, 1) := by decide +kernel
theorem d34_33 : decode q34 33 = .ok (.invokestatic 433, 3) := by decide +kernel
theorem d34_36 : decode q34 36 = .ok (.areturn, 1) := by decide +kernel
theorem d34_26 : decode q34 26 = .ok (.aload_n 0, 1) := by decide +kernel
theorem d34_27 : decode q34 27 = .ok (.goto 9, 3) := by decide +kernel
def own_Q_rmA27 (Z : State) (ob0 : Addr) (k_ob0 : ClassId) (ob0_l : List Value)  (zr zm ps ng : Addr) (zk : ClassId) (h0 : Heap) (n0 : Nat) (v : Option Value) (h : Heap) (L : List Loc) : Prop := ∃ (rb : Addr) (rk : ClassId) (rz : Int32) (rl : List Value), v = some (.ref rb) ∧ Fr n0 L ∧ Keep h0 h [] ∧ Arv Z h rb rk .int rz rl (.int (0 : Int32)) ∧ (rz = (0 : Int32) ∨ rz = (1 : Int32) ∨ rz = (2 : Int32) ∨ rz = (3 : Int32) ∨ rz = (4 : Int32))
theorem rmA27 (l : Launch) (Z : State) (a0 : Array Value) (hw : ∀ d ∈ tables_1, d.before a0 Z = true) (ws : List Jvm.Cond) (ob0 : Addr) (k_ob0 : ClassId) (ob0_l : List Value)  (zr zm ps ng : Addr) (zk : ClassId) (h0 : Heap) (n0 : Nat) (O0 : Old Z n0 h0) (G : own_Gl Z zr zm ps ng zk) (V_ob0 : Arv Z h0 ob0 k_ob0 .int (4 : Int32) ob0_l (.int (0 : Int32))) :
    MetFree l own_y24 (head1 (Jvm.Cond.code own_y24 jdk_2097_method_140_code 3 (some (.array .int)) :: ws) ({ frames := 3, cells := 1, slots := 4, locals := 81 } : Room)) (fun a U => a = #[(.ref ob0)] ∧ Z.Warmed39 U.vm ∧ U.heap = h0) (fun _ _ _ _ _ => True) (fun _ U o U' => ∃ v L, o = .returned v ∧ own_Q_rmA27 Z ob0 k_ob0 ob0_l zr zm ps ng zk h0 n0 v U'.heap L ∧ FrameEnd U o U' L ({ frames := 3, cells := 1, slots := 4, locals := 81 } : Room).cells ({ frames := 3, cells := 1, slots := 4, locals := 81 } : Room).slots) := by
  refine MetFree.of_bodySF (plainFor_of_name own_pn1) hisR ?_
  intro p e s m args below meth c s₁ Bd hml0 hP hK
  obtain ⟨rfl, hZ, hh⟩ := hP
  have hx := Bd.exec
  have hby := Bd.bytes
  have hml : c.maxLocals = 3 := hml0
  have hown : s.vm.findClass "java/math/BigInteger" = some m.cls := findClass_of_methodNamed Bd.named
  have hnm := (name_of_methodNamed Bd.named Bd.method).1
  have X0 : Stand p l e ({ frames := 3, cells := 1, slots := 4, locals := 81 } : Room) s m #[(.ref ob0)] below meth c s₁ [] 0 0 := Stand.of_body Bd
  have e0 : s₁.heap = h0 := by rw [← hh, Bd.state]; rfl
  have N0 := Fr.nil n0
  have Z0 : n0 ≤ h0.size := O0.1 ▸ O0.2.1
  have g0 : ∀ t, FS p e below s₁ m 0 #[oa ob0, vU, vU] [] t → ES p e below s₁ m #[(.ref ob0)] 3 t := fun t k => castTop (own_ef28 m (ob0)) k
  have G0 := G
  obtain ⟨S_Z, E_Z, F_Zs, F_Zm, V_Z, S_P, P_P, S_N, P_N⟩ := G
  obtain ⟨x0, x1, x2, x3, Vc1⟩ := own_conc4 V_ob0
  obtain ⟨c2, Ar2, cq2, S2, Nn2, Hh2, Gg2⟩ := id Vc1
  obtain ⟨c3, Ar3, cq3, S3, Nn3, Hh3, Gg3⟩ := id Vc1
  have hin3 : ¬ ((0 : Int32) < 0 ∨ c3.slots.size ≤ ((0 : Int32)).toNatClampNeg) := inb_of S3 ⟨by decide, by decide⟩
  have hat3 : c3.slots[((0 : Int32)).toNatClampNeg]? = some (.int x0) := Has.at Hh3 hin3 rfl
  have g5 : ∀ t, FS p e below s₁ m 13 #[oa ob0, oi (4 : Int32), oi (0 : Int32)] [(.int x0)] t → ES p e below s₁ m #[(.ref ob0)] 3 t := by
    intro t k
    refine g0 t ?_
    show FS p e below s₁ m 0 #[oa ob0, vU, vU] [] _
    refine XS.aloadN X0.here hx rfl (hb hby d34_0) rfl rfl ?_
    show FS p e below s₁ m 1 #[oa ob0, vU, vU] [(.ref ob0)] _
    refine X0.arraylength hx (by rw [e0]; exact Ar2.1) (State.isArrayOf_alike hZ.alike Ar2.2.1) (g := (mkF m 1 #[oa ob0, vU, vU] [(.ref ob0)])) rfl rfl (hb hby d34_1) _ ?_
    rw [len_of S2 Nn2]
    refine XS.istoreN X0.here hx rfl (hb hby d34_2) rfl (l' := #[oa ob0, oi (4 : Int32), vU]) rfl ?_
    refine XS.iconst X0.here hx rfl (hb hby d34_3) ?_
    refine XS.istoreN X0.here hx rfl (hb hby d34_4) rfl (l' := #[oa ob0, oi (4 : Int32), oi (0 : Int32)]) rfl ?_
    refine XS.iloadN X0.here hx rfl (hb hby d34_5) rfl ?_
    refine XS.iloadN X0.here hx rfl (hb hby d34_6) rfl ?_
    refine XS.icmpNo X0.here hx rfl (hb hby d34_7) rfl (tlt (by decide : (0 : Int32) < (4 : Int32))).2.1 ?_
    refine XS.aloadN X0.here hx rfl (hb hby d34_10) rfl rfl ?_
    refine XS.iloadN X0.here hx rfl (hb hby d34_11) rfl ?_
    refine X0.iaload hx (j := (0 : Int32)) (v := (.int x0)) (by rw [e0]; exact Ar3.1) (State.isArrayOf_alike hZ.alike Ar3.2.1) Ar3.2.2 hin3 hat3 (g := (mkF m 12 #[oa ob0, oi (4 : Int32), oi (0 : Int32)] [(.int (0 : Int32)), (.ref ob0)])) rfl rfl (hb hby d34_12) _ ?_
    exact k
  by_cases hc4 : x0 = (0 : Int32)
  · obtain ⟨c6, Ar6, cq6, S6, Nn6, Hh6, Gg6⟩ := id Vc1
    have hin6 : ¬ ((1 : Int32) < 0 ∨ c6.slots.size ≤ ((1 : Int32)).toNatClampNeg) := inb_of S6 ⟨by decide, by decide⟩
    have hat6 : c6.slots[((1 : Int32)).toNatClampNeg]? = some (.int x1) := Has.at Hh6 hin6 rfl
    have g8 : ∀ t, FS p e below s₁ m 13 #[oa ob0, oi (4 : Int32), oi (1 : Int32)] [(.int x1)] t → ES p e below s₁ m #[(.ref ob0)] 3 t := by
      intro t k
      refine g5 t ?_
      show FS p e below s₁ m 13 #[oa ob0, oi (4 : Int32), oi (0 : Int32)] [(.int x0)] _
      refine XS.ifNo X0.here hx rfl (hb hby d34_13) rfl ((if0 _ _).trans (teq hc4).2) ?_
      show FS p e below s₁ m 16 #[oa ob0, oi (4 : Int32), oi (0 : Int32)] [] _
      refine XS.iinc X0.here hx rfl (hb hby d34_16) rfl (l' := #[oa ob0, oi (4 : Int32), .val (.int ((0 : Int32) + (1 : Int32)))]) rfl ?_
      rw [show ((0 : Int32) + (1 : Int32)) = (1 : Int32) from by decide]
      refine XS.goto X0.here hx rfl (pc0 := 19) (pc' := 5) rfl (hb hby d34_19) (by decide) (by decide) ?_
      refine XS.iloadN X0.here hx rfl (hb hby d34_5) rfl ?_
      refine XS.iloadN X0.here hx rfl (hb hby d34_6) rfl ?_
      refine XS.icmpNo X0.here hx rfl (hb hby d34_7) rfl (tlt (by decide : (1 : Int32) < (4 : Int32))).2.1 ?_
      refine XS.aloadN X0.here hx rfl (hb hby d34_10) rfl rfl ?_
      refine XS.iloadN X0.here hx rfl (hb hby d34_11) rfl ?_
      refine X0.iaload hx (j := (1 : Int32)) (v := (.int x1)) (by rw [e0]; exact Ar6.1) (State.isArrayOf_alike hZ.alike Ar6.2.1) Ar6.2.2 hin6 hat6 (g := (mkF m 12 #[oa ob0, oi (4 : Int32), oi (1 : Int32)] [(.int (1 : Int32)), (.ref ob0)])) rfl rfl (hb hby d34_12) _ ?_
      exact k
    by_cases hc7 : x1 = (0 : Int32)
    · obtain ⟨c9, Ar9, cq9, S9, Nn9, Hh9, Gg9⟩ := id Vc1
      have hin9 : ¬ ((2 : Int32) < 0 ∨ c9.slots.size ≤ ((2 : Int32)).toNatClampNeg) := inb_of S9 ⟨by decide, by decide⟩
      have hat9 : c9.slots[((2 : Int32)).toNatClampNeg]? = some (.int x2) := Has.at Hh9 hin9 rfl
      have g11 : ∀ t, FS p e below s₁ m 13 #[oa ob0, oi (4 : Int32), oi (2 : Int32)] [(.int x2)] t → ES p e below s₁ m #[(.ref ob0)] 3 t := by
        intro t k
        refine g8 t ?_
        show FS p e below s₁ m 13 #[oa ob0, oi (4 : Int32), oi (1 : Int32)] [(.int x1)] _
        refine XS.ifNo X0.here hx rfl (hb hby d34_13) rfl ((if0 _ _).trans (teq hc7).2) ?_
        show FS p e below s₁ m 16 #[oa ob0, oi (4 : Int32), oi (1 : Int32)] [] _
        refine XS.iinc X0.here hx rfl (hb hby d34_16) rfl (l' := #[oa ob0, oi (4 : Int32), .val (.int ((1 : Int32) + (1 : Int32)))]) rfl ?_
        rw [show ((1 : Int32) + (1 : Int32)) = (2 : Int32) from by decide]
        refine XS.goto X0.here hx rfl (pc0 := 19) (pc' := 5) rfl (hb hby d34_19) (by decide) (by decide) ?_
        refine XS.iloadN X0.here hx rfl (hb hby d34_5) rfl ?_
        refine XS.iloadN X0.here hx rfl (hb hby d34_6) rfl ?_
        refine XS.icmpNo X0.here hx rfl (hb hby d34_7) rfl (tlt (by decide : (2 : Int32) < (4 : Int32))).2.1 ?_
        refine XS.aloadN X0.here hx rfl (hb hby d34_10) rfl rfl ?_
        refine XS.iloadN X0.here hx rfl (hb hby d34_11) rfl ?_
        refine X0.iaload hx (j := (2 : Int32)) (v := (.int x2)) (by rw [e0]; exact Ar9.1) (State.isArrayOf_alike hZ.alike Ar9.2.1) Ar9.2.2 hin9 hat9 (g := (mkF m 12 #[oa ob0, oi (4 : Int32), oi (2 : Int32)] [(.int (2 : Int32)), (.ref ob0)])) rfl rfl (hb hby d34_12) _ ?_
        exact k
      by_cases hc10 : x2 = (0 : Int32)
      · obtain ⟨c12, Ar12, cq12, S12, Nn12, Hh12, Gg12⟩ := id Vc1
        have hin12 : ¬ ((3 : Int32) < 0 ∨ c12.slots.size ≤ ((3 : Int32)).toNatClampNeg) := inb_of S12 ⟨by decide, by decide⟩
        have hat12 : c12.slots[((3 : Int32)).toNatClampNeg]? = some (.int x3) := Has.at Hh12 hin12 rfl
        have g14 : ∀ t, FS p e below s₁ m 13 #[oa ob0, oi (4 : Int32), oi (3 : Int32)] [(.int x3)] t → ES p e below s₁ m #[(.ref ob0)] 3 t := by
          intro t k
          refine g11 t ?_
          show FS p e below s₁ m 13 #[oa ob0, oi (4 : Int32), oi (2 : Int32)] [(.int x2)] _
          refine XS.ifNo X0.here hx rfl (hb hby d34_13) rfl ((if0 _ _).trans (teq hc10).2) ?_
          show FS p e below s₁ m 16 #[oa ob0, oi (4 : Int32), oi (2 : Int32)] [] _
          refine XS.iinc X0.here hx rfl (hb hby d34_16) rfl (l' := #[oa ob0, oi (4 : Int32), .val (.int ((2 : Int32) + (1 : Int32)))]) rfl ?_
          rw [show ((2 : Int32) + (1 : Int32)) = (3 : Int32) from by decide]
          refine XS.goto X0.here hx rfl (pc0 := 19) (pc' := 5) rfl (hb hby d34_19) (by decide) (by decide) ?_
          refine XS.iloadN X0.here hx rfl (hb hby d34_5) rfl ?_
          refine XS.iloadN X0.here hx rfl (hb hby d34_6) rfl ?_
          refine XS.icmpNo X0.here hx rfl (hb hby d34_7) rfl (tlt (by decide : (3 : Int32) < (4 : Int32))).2.1 ?_
          refine XS.aloadN X0.here hx rfl (hb hby d34_10) rfl rfl ?_
          refine XS.iloadN X0.here hx rfl (hb hby d34_11) rfl ?_
          refine X0.iaload hx (j := (3 : Int32)) (v := (.int x3)) (by rw [e0]; exact Ar12.1) (State.isArrayOf_alike hZ.alike Ar12.2.1) Ar12.2.2 hin12 hat12 (g := (mkF m 12 #[oa ob0, oi (4 : Int32), oi (3 : Int32)] [(.int (3 : Int32)), (.ref ob0)])) rfl rfl (hb hby d34_12) _ ?_
          exact k
        by_cases hc13 : x3 = (0 : Int32)
        · obtain ⟨_, _, ⟨T15, L15, k15, n15⟩, -, X15, ⟨Lc15, hQ15, l15, y15, z15⟩, st15⟩ := Jvm.LawKit.callS X0 hx (y := own_y16) hown (mvT hZ (own_w hw 154 rfl)) (mvT hZ (own_w hw 155 rfl)) (mvT hZ (own_w hw 156 rfl)) (mvT hZ (own_w hw 157 rfl)) (by decide) (backOf (W := 0) (rmA19 l Z a0 hw [] ob0 k_ob0 ((4 : Int32)) [(.int x0), (.int x1), (.int x2), (.int x3)] ((4 : Int32)) ((4 : Int32)) (0 : Int32) zr zm ps ng zk h0 n0 O0 G0 Vc1  (by decide) (by decide) (by decide) (by decide) (by decide) (by decide) (by decide) (by decide)) hZ (own_w hw 157 rfl) (own_w hw 156 rfl) (by decide) (by decide)) (g := (mkF m 33 #[oa ob0, oi (4 : Int32), oi (4 : Int32)] [(.int (4 : Int32)), (.int (4 : Int32)), (.ref ob0)])) rfl (by rw [hml]; rfl) (argsL := [(.ref ob0), (.int (4 : Int32)), (.int (4 : Int32))]) (rest := []) (lenOf own_pd12 rfl) rfl (own_W0 rfl) (hb hby d34_33) (fun _ _ => ⟨rfl, e0, (by decide : 0 + 1 ≤ _), (by decide : 0 + 4 ≤ _)⟩)
          dsimp only [Pt.U, Pt.locs, Pt.cells, Pt.slots] at X15 l15 y15 z15 st15 hQ15
          subst l15 y15 z15
          obtain ⟨rb15, rk15, rl15, rfl, Nq15, K15, hb15, Va15⟩ := hQ15
          have N15 := Fr.app N0 Nq15
          have sz_rb15 : h0.size ≤ rb15 := hb15
          have gz_rb15 : n0 ≤ rb15 := Nat.le_trans Z0 sz_rb15
          have ne_ob0_rb15 : ob0 ≠ rb15 := Nat.ne_of_lt (Nat.lt_of_lt_of_le Vc1.lt hb15)
          have g16 : ∀ t, FS p e below T15 m 36 #[oa ob0, oi (4 : Int32), oi (4 : Int32)] [(.ref rb15)] t → ES p e below s₁ m #[(.ref ob0)] 3 t := by
            intro t k
            refine g14 t ?_
            show FS p e below s₁ m 13 #[oa ob0, oi (4 : Int32), oi (3 : Int32)] [(.int x3)] _
            refine XS.ifNo X0.here hx rfl (hb hby d34_13) rfl ((if0 _ _).trans (teq hc13).2) ?_
            show FS p e below s₁ m 16 #[oa ob0, oi (4 : Int32), oi (3 : Int32)] [] _
            refine XS.iinc X0.here hx rfl (hb hby d34_16) rfl (l' := #[oa ob0, oi (4 : Int32), .val (.int ((3 : Int32) + (1 : Int32)))]) rfl ?_
            rw [show ((3 : Int32) + (1 : Int32)) = (4 : Int32) from by decide]
            refine XS.goto X0.here hx rfl (pc0 := 19) (pc' := 5) rfl (hb hby d34_19) (by decide) (by decide) ?_
            refine XS.iloadN X0.here hx rfl (hb hby d34_5) rfl ?_
            refine XS.iloadN X0.here hx rfl (hb hby d34_6) rfl ?_
            refine XS.icmpYes X0.here hx rfl (pc0 := 7) (pc' := 22) rfl (hb hby d34_7) rfl (flt (by decide : ¬ ((4 : Int32) < (4 : Int32)))).2.1 (by decide) (by decide) ?_
            refine XS.iloadN X0.here hx rfl (hb hby d34_22) rfl ?_
            refine XS.ifYes X0.here hx rfl (pc0 := 23) (pc' := 30) rfl (hb hby d34_23) rfl ((if0 _ _).trans (feq (by decide : ¬ ((4 : Int32) = (0 : Int32)))).2) (by decide) (by decide) ?_
            refine XS.aloadN X0.here hx rfl (hb hby d34_30) rfl rfl ?_
            refine XS.iloadN X0.here hx rfl (hb hby d34_31) rfl ?_
            refine XS.iloadN X0.here hx rfl (hb hby d34_32) rfl ?_
            refine st15 _ ?_
            exact k
          obtain ⟨fs, hrt, hrun, hended, hW, hsame⟩ := X15.leave (v := some (.ref rb15)) (fun h => by rw [Bd.returns] at h; cases h)
          refine ⟨_, _, g16 _ ?_, hrun, hended, _, _, rfl, ?_, ⟨_, rfl⟩, hW, hsame.mono (by decide) (by decide)⟩
          · show Steps p.tables e below (T15.setTop (mkF m 36 #[oa ob0, oi (4 : Int32), oi (4 : Int32)] [(.ref rb15)])) _
            jvm_step X15.here [X15.here.top, hx, (hb hby d34_36), X15.method', Bd.returns, Value.isRef, FieldType.isReference]
            first | (intro acts; rw [hrt _ acts rfl rfl rfl]) | rw [hrt _ _ rfl rfl rfl]
            exact Steps.refl _
          · show own_Q_rmA27 Z ob0 k_ob0 ob0_l zr zm ps ng zk h0 n0 _ T15.heap _
            exact ⟨rb15, _, _, _, rfl, N15, (Keep.trans (Keep.refl h0 []) K15 all0), Va15, by decide⟩
        · obtain ⟨_, _, ⟨T17, L17, k17, n17⟩, -, X17, ⟨Lc17, hQ17, l17, y17, z17⟩, st17⟩ := Jvm.LawKit.callS X0 hx (y := own_y16) hown (mvT hZ (own_w hw 154 rfl)) (mvT hZ (own_w hw 155 rfl)) (mvT hZ (own_w hw 156 rfl)) (mvT hZ (own_w hw 157 rfl)) (by decide) (backOf (W := 0) (rmA19 l Z a0 hw [] ob0 k_ob0 ((4 : Int32)) [(.int x0), (.int x1), (.int x2), (.int x3)] ((3 : Int32)) ((4 : Int32)) (1 : Int32) zr zm ps ng zk h0 n0 O0 G0 Vc1  (by decide) (by decide) (by decide) (by decide) (by decide) (by decide) (by decide) (by decide)) hZ (own_w hw 157 rfl) (own_w hw 156 rfl) (by decide) (by decide)) (g := (mkF m 33 #[oa ob0, oi (4 : Int32), oi (3 : Int32)] [(.int (4 : Int32)), (.int (3 : Int32)), (.ref ob0)])) rfl (by rw [hml]; rfl) (argsL := [(.ref ob0), (.int (3 : Int32)), (.int (4 : Int32))]) (rest := []) (lenOf own_pd12 rfl) rfl (own_W0 rfl) (hb hby d34_33) (fun _ _ => ⟨rfl, e0, (by decide : 0 + 1 ≤ _), (by decide : 0 + 4 ≤ _)⟩)
          dsimp only [Pt.U, Pt.locs, Pt.cells, Pt.slots] at X17 l17 y17 z17 st17 hQ17
          subst l17 y17 z17
          obtain ⟨rb17, rk17, rl17, rfl, Nq17, K17, hb17, Va17⟩ := hQ17
          have N17 := Fr.app N0 Nq17
          have sz_rb17 : h0.size ≤ rb17 := hb17
          have gz_rb17 : n0 ≤ rb17 := Nat.le_trans Z0 sz_rb17
          have ne_ob0_rb17 : ob0 ≠ rb17 := Nat.ne_of_lt (Nat.lt_of_lt_of_le Vc1.lt hb17)
          have g18 : ∀ t, FS p e below T17 m 36 #[oa ob0, oi (4 : Int32), oi (3 : Int32)] [(.ref rb17)] t → ES p e below s₁ m #[(.ref ob0)] 3 t := by
            intro t k
            refine g14 t ?_
            show FS p e below s₁ m 13 #[oa ob0, oi (4 : Int32), oi (3 : Int32)] [(.int x3)] _
            refine XS.ifYes X0.here hx rfl (pc0 := 13) (pc' := 22) rfl (hb hby d34_13) rfl ((if0 _ _).trans (feq hc13).2) (by decide) (by decide) ?_
            refine XS.iloadN X0.here hx rfl (hb hby d34_22) rfl ?_
            refine XS.ifYes X0.here hx rfl (pc0 := 23) (pc' := 30) rfl (hb hby d34_23) rfl ((if0 _ _).trans (feq (by decide : ¬ ((3 : Int32) = (0 : Int32)))).2) (by decide) (by decide) ?_
            refine XS.aloadN X0.here hx rfl (hb hby d34_30) rfl rfl ?_
            refine XS.iloadN X0.here hx rfl (hb hby d34_31) rfl ?_
            refine XS.iloadN X0.here hx rfl (hb hby d34_32) rfl ?_
            refine st17 _ ?_
            exact k
          obtain ⟨fs, hrt, hrun, hended, hW, hsame⟩ := X17.leave (v := some (.ref rb17)) (fun h => by rw [Bd.returns] at h; cases h)
          refine ⟨_, _, g18 _ ?_, hrun, hended, _, _, rfl, ?_, ⟨_, rfl⟩, hW, hsame.mono (by decide) (by decide)⟩
          · show Steps p.tables e below (T17.setTop (mkF m 36 #[oa ob0, oi (4 : Int32), oi (3 : Int32)] [(.ref rb17)])) _
            jvm_step X17.here [X17.here.top, hx, (hb hby d34_36), X17.method', Bd.returns, Value.isRef, FieldType.isReference]
            first | (intro acts; rw [hrt _ acts rfl rfl rfl]) | rw [hrt _ _ rfl rfl rfl]
            exact Steps.refl _
          · show own_Q_rmA27 Z ob0 k_ob0 ob0_l zr zm ps ng zk h0 n0 _ T17.heap _
            exact ⟨rb17, _, _, _, rfl, N17, (Keep.trans (Keep.refl h0 []) K17 all0), Va17, by decide⟩
      · obtain ⟨_, _, ⟨T19, L19, k19, n19⟩, -, X19, ⟨Lc19, hQ19, l19, y19, z19⟩, st19⟩ := Jvm.LawKit.callS X0 hx (y := own_y16) hown (mvT hZ (own_w hw 154 rfl)) (mvT hZ (own_w hw 155 rfl)) (mvT hZ (own_w hw 156 rfl)) (mvT hZ (own_w hw 157 rfl)) (by decide) (backOf (W := 0) (rmA19 l Z a0 hw [] ob0 k_ob0 ((4 : Int32)) [(.int x0), (.int x1), (.int x2), (.int x3)] ((2 : Int32)) ((4 : Int32)) (2 : Int32) zr zm ps ng zk h0 n0 O0 G0 Vc1  (by decide) (by decide) (by decide) (by decide) (by decide) (by decide) (by decide) (by decide)) hZ (own_w hw 157 rfl) (own_w hw 156 rfl) (by decide) (by decide)) (g := (mkF m 33 #[oa ob0, oi (4 : Int32), oi (2 : Int32)] [(.int (4 : Int32)), (.int (2 : Int32)), (.ref ob0)])) rfl (by rw [hml]; rfl) (argsL := [(.ref ob0), (.int (2 : Int32)), (.int (4 : Int32))]) (rest := []) (lenOf own_pd12 rfl) rfl (own_W0 rfl) (hb hby d34_33) (fun _ _ => ⟨rfl, e0, (by decide : 0 + 1 ≤ _), (by decide : 0 + 4 ≤ _)⟩)
        dsimp only [Pt.U, Pt.locs, Pt.cells, Pt.slots] at X19 l19 y19 z19 st19 hQ19
        subst l19 y19 z19
        obtain ⟨rb19, rk19, rl19, rfl, Nq19, K19, hb19, Va19⟩ := hQ19
        have N19 := Fr.app N0 Nq19
        have sz_rb19 : h0.size ≤ rb19 := hb19
        have gz_rb19 : n0 ≤ rb19 := Nat.le_trans Z0 sz_rb19
        have ne_ob0_rb19 : ob0 ≠ rb19 := Nat.ne_of_lt (Nat.lt_of_lt_of_le Vc1.lt hb19)
        have g20 : ∀ t, FS p e below T19 m 36 #[oa ob0, oi (4 : Int32), oi (2 : Int32)] [(.ref rb19)] t → ES p e below s₁ m #[(.ref ob0)] 3 t := by
          intro t k
          refine g11 t ?_
          show FS p e below s₁ m 13 #[oa ob0, oi (4 : Int32), oi (2 : Int32)] [(.int x2)] _
          refine XS.ifYes X0.here hx rfl (pc0 := 13) (pc' := 22) rfl (hb hby d34_13) rfl ((if0 _ _).trans (feq hc10).2) (by decide) (by decide) ?_
          refine XS.iloadN X0.here hx rfl (hb hby d34_22) rfl ?_
          refine XS.ifYes X0.here hx rfl (pc0 := 23) (pc' := 30) rfl (hb hby d34_23) rfl ((if0 _ _).trans (feq (by decide : ¬ ((2 : Int32) = (0 : Int32)))).2) (by decide) (by decide) ?_
          refine XS.aloadN X0.here hx rfl (hb hby d34_30) rfl rfl ?_
          refine XS.iloadN X0.here hx rfl (hb hby d34_31) rfl ?_
          refine XS.iloadN X0.here hx rfl (hb hby d34_32) rfl ?_
          refine st19 _ ?_
          exact k
        obtain ⟨fs, hrt, hrun, hended, hW, hsame⟩ := X19.leave (v := some (.ref rb19)) (fun h => by rw [Bd.returns] at h; cases h)
        refine ⟨_, _, g20 _ ?_, hrun, hended, _, _, rfl, ?_, ⟨_, rfl⟩, hW, hsame.mono (by decide) (by decide)⟩
        · show Steps p.tables e below (T19.setTop (mkF m 36 #[oa ob0, oi (4 : Int32), oi (2 : Int32)] [(.ref rb19)])) _
          jvm_step X19.here [X19.here.top, hx, (hb hby d34_36), X19.method', Bd.returns, Value.isRef, FieldType.isReference]
          first | (intro acts; rw [hrt _ acts rfl rfl rfl]) | rw [hrt _ _ rfl rfl rfl]
          exact Steps.refl _
        · show own_Q_rmA27 Z ob0 k_ob0 ob0_l zr zm ps ng zk h0 n0 _ T19.heap _
          exact ⟨rb19, _, _, _, rfl, N19, (Keep.trans (Keep.refl h0 []) K19 all0), Va19, by decide⟩
    · obtain ⟨_, _, ⟨T21, L21, k21, n21⟩, -, X21, ⟨Lc21, hQ21, l21, y21, z21⟩, st21⟩ := Jvm.LawKit.callS X0 hx (y := own_y16) hown (mvT hZ (own_w hw 154 rfl)) (mvT hZ (own_w hw 155 rfl)) (mvT hZ (own_w hw 156 rfl)) (mvT hZ (own_w hw 157 rfl)) (by decide) (backOf (W := 0) (rmA19 l Z a0 hw [] ob0 k_ob0 ((4 : Int32)) [(.int x0), (.int x1), (.int x2), (.int x3)] ((1 : Int32)) ((4 : Int32)) (3 : Int32) zr zm ps ng zk h0 n0 O0 G0 Vc1  (by decide) (by decide) (by decide) (by decide) (by decide) (by decide) (by decide) (by decide)) hZ (own_w hw 157 rfl) (own_w hw 156 rfl) (by decide) (by decide)) (g := (mkF m 33 #[oa ob0, oi (4 : Int32), oi (1 : Int32)] [(.int (4 : Int32)), (.int (1 : Int32)), (.ref ob0)])) rfl (by rw [hml]; rfl) (argsL := [(.ref ob0), (.int (1 : Int32)), (.int (4 : Int32))]) (rest := []) (lenOf own_pd12 rfl) rfl (own_W0 rfl) (hb hby d34_33) (fun _ _ => ⟨rfl, e0, (by decide : 0 + 1 ≤ _), (by decide : 0 + 4 ≤ _)⟩)
      dsimp only [Pt.U, Pt.locs, Pt.cells, Pt.slots] at X21 l21 y21 z21 st21 hQ21
      subst l21 y21 z21
      obtain ⟨rb21, rk21, rl21, rfl, Nq21, K21, hb21, Va21⟩ := hQ21
      have N21 := Fr.app N0 Nq21
      have sz_rb21 : h0.size ≤ rb21 := hb21
      have gz_rb21 : n0 ≤ rb21 := Nat.le_trans Z0 sz_rb21
      have ne_ob0_rb21 : ob0 ≠ rb21 := Nat.ne_of_lt (Nat.lt_of_lt_of_le Vc1.lt hb21)
      have g22 : ∀ t, FS p e below T21 m 36 #[oa ob0, oi (4 : Int32), oi (1 : Int32)] [(.ref rb21)] t → ES p e below s₁ m #[(.ref ob0)] 3 t := by
        intro t k
        refine g8 t ?_
        show FS p e below s₁ m 13 #[oa ob0, oi (4 : Int32), oi (1 : Int32)] [(.int x1)] _
        refine XS.ifYes X0.here hx rfl (pc0 := 13) (pc' := 22) rfl (hb hby d34_13) rfl ((if0 _ _).trans (feq hc7).2) (by decide) (by decide) ?_
        refine XS.iloadN X0.here hx rfl (hb hby d34_22) rfl ?_
        refine XS.ifYes X0.here hx rfl (pc0 := 23) (pc' := 30) rfl (hb hby d34_23) rfl ((if0 _ _).trans (feq (by decide : ¬ ((1 : Int32) = (0 : Int32)))).2) (by decide) (by decide) ?_
        refine XS.aloadN X0.here hx rfl (hb hby d34_30) rfl rfl ?_
        refine XS.iloadN X0.here hx rfl (hb hby d34_31) rfl ?_
        refine XS.iloadN X0.here hx rfl (hb hby d34_32) rfl ?_
        refine st21 _ ?_
        exact k
      obtain ⟨fs, hrt, hrun, hended, hW, hsame⟩ := X21.leave (v := some (.ref rb21)) (fun h => by rw [Bd.returns] at h; cases h)
      refine ⟨_, _, g22 _ ?_, hrun, hended, _, _, rfl, ?_, ⟨_, rfl⟩, hW, hsame.mono (by decide) (by decide)⟩
      · show Steps p.tables e below (T21.setTop (mkF m 36 #[oa ob0, oi (4 : Int32), oi (1 : Int32)] [(.ref rb21)])) _
        jvm_step X21.here [X21.here.top, hx, (hb hby d34_36), X21.method', Bd.returns, Value.isRef, FieldType.isReference]
        first | (intro acts; rw [hrt _ acts rfl rfl rfl]) | rw [hrt _ _ rfl rfl rfl]
        exact Steps.refl _
      · show own_Q_rmA27 Z ob0 k_ob0 ob0_l zr zm ps ng zk h0 n0 _ T21.heap _
        exact ⟨rb21, _, _, _, rfl, N21, (Keep.trans (Keep.refl h0 []) K21 all0), Va21, by decide⟩
  · have g23 : ∀ t, FS p e below s₁ m 36 #[oa ob0, oi (4 : Int32), oi (0 : Int32)] [(.ref ob0)] t → ES p e below s₁ m #[(.ref ob0)] 3 t := by
      intro t k
      refine g5 t ?_
      show FS p e below s₁ m 13 #[oa ob0, oi (4 : Int32), oi (0 : Int32)] [(.int x0)] _
      refine XS.ifYes X0.here hx rfl (pc0 := 13) (pc' := 22) rfl (hb hby d34_13) rfl ((if0 _ _).trans (feq hc4).2) (by decide) (by decide) ?_
      refine XS.iloadN X0.here hx rfl (hb hby d34_22) rfl ?_
      refine XS.ifNo X0.here hx rfl (hb hby d34_23) rfl ((if0 _ _).trans (teq (by decide : (0 : Int32) = (0 : Int32))).2) ?_
      refine XS.aloadN X0.here hx rfl (hb hby d34_26) rfl rfl ?_
      refine XS.goto X0.here hx rfl (pc0 := 27) (pc' := 36) rfl (hb hby d34_27) (by decide) (by decide) ?_
      exact k
    obtain ⟨fs, hrt, hrun, hended, hW, hsame⟩ := X0.leave (v := some (.ref ob0)) (fun h => by rw [Bd.returns] at h; cases h)
    refine ⟨_, _, g23 _ ?_, hrun, hended, _, _, rfl, ?_, ⟨_, rfl⟩, hW, hsame.mono (by decide) (by decide)⟩
    · show Steps p.tables e below (s₁.setTop (mkF m 36 #[oa ob0, oi (4 : Int32), oi (0 : Int32)] [(.ref ob0)])) _
      jvm_step X0.here [X0.here.top, hx, (hb hby d34_36), X0.method', Bd.returns, Value.isRef, FieldType.isReference]
      first | (intro acts; rw [hrt _ acts rfl rfl rfl]) | rw [hrt _ _ rfl rfl rfl]
      exact Steps.refl _
    · show own_Q_rmA27 Z ob0 k_ob0 ob0_l zr zm ps ng zk h0 n0 _ s₁.heap _
      rw [e0]
      exact ⟨ob0, _, _, _, rfl, N0, (Keep.refl h0 []), Vc1, by decide⟩
theorem own_pd16 : parseMethodDescriptor "([I)[I" = some ⟨[(.array .int)], some (.array .int)⟩ := by decide +kernel
theorem d11_158 : decode q11 158 = .ok (.astore 8, 2) := by decide +kernel
theorem d11_160 : decode q11 160 = .ok (.new 23, 3) := by decide +kernel
theorem d11_163 : decode q11 163 = .ok (.dup, 1) := by decide +kernel
theorem d11_164 : decode q11 164 = .ok (.aload 8, 2) := by decide +kernel
theorem d11_166 : decode q11 166 = .ok (.iload 7, 2) := by decide +kernel
theorem d11_168 : decode q11 168 = .ok (.invokespecial 175, 3) := by decide +kernel
theorem d19_10 : decode q19 10 = .ok (.iconst 0, 1) := by decide +kernel
theorem d19_11 : decode q19 11 = .ok (.goto 4, 3) := by decide +kernel
def own_Q_rmA28 (Z : State) (ob0 : Addr) (ob1 : Addr) (k_ob1 : ClassId) (ob1_l : List Value) (p2 : Int32)  (zr zm ps ng : Addr) (zk : ClassId) (h0 : Heap) (n0 : Nat) (v : Option Value) (h : Heap) (L : List Loc) : Prop := v = none ∧ Fr n0 L ∧ Keep h0 h [ob0] ∧ Exa Z h ob0 "java/math/BigInteger" ∧ Fld Z h ob0 "java/math/BigInteger" "signum" "I" (.int (0 : Int32)) ∧ Fld Z h ob0 "java/math/BigInteger" "mag" "[I" (.ref ob1)
theorem rmA28 (l : Launch) (Z : State) (a0 : Array Value) (hw : ∀ d ∈ tables_1, d.before a0 Z = true) (ws : List Jvm.Cond) (ob0 : Addr) (ob1 : Addr) (k_ob1 : ClassId) (ob1_l : List Value) (p2 : Int32)  (zr zm ps ng : Addr) (zk : ClassId) (h0 : Heap) (n0 : Nat) (O0 : Old Z n0 h0) (G : own_Gl Z zr zm ps ng zk) (E_ob0 : Exa Z h0 ob0 "java/math/BigInteger") (F_ob0_mag : Fld Z h0 ob0 "java/math/BigInteger" "mag" "[I" .null) (F_ob0_signum : Fld Z h0 ob0 "java/math/BigInteger" "signum" "I" (.int (0 : Int32))) (V_ob1 : Arv Z h0 ob1 k_ob1 .int (0 : Int32) ob1_l (.int (0 : Int32))) (gz_ob0 : n0 ≤ ob0) :
    MetFree l own_y15 (head1 (Jvm.Cond.code own_y15 jdk_2097_method_25_code 3 none :: ws) ({ frames := 2, cells := 0, slots := 0, locals := 24 } : Room)) (fun a U => a = #[(.ref ob0), (.ref ob1), (.int p2)] ∧ Z.Warmed39 U.vm ∧ U.heap = h0) (fun _ _ _ _ _ => True) (fun _ U o U' => ∃ v L, o = .returned v ∧ own_Q_rmA28 Z ob0 ob1 k_ob1 ob1_l p2 zr zm ps ng zk h0 n0 v U'.heap L ∧ FrameEnd U o U' L ({ frames := 2, cells := 0, slots := 0, locals := 24 } : Room).cells ({ frames := 2, cells := 0, slots := 0, locals := 24 } : Room).slots) := by
  refine MetFree.of_bodySF (plainFor_of_name own_pn1) hisR ?_
  intro p e s m args below meth c s₁ Bd hml0 hP hK
  obtain ⟨rfl, hZ, hh⟩ := hP
  have hx := Bd.exec
  have hby := Bd.bytes
  have hml : c.maxLocals = 3 := hml0
  have hown : s.vm.findClass "java/math/BigInteger" = some m.cls := findClass_of_methodNamed Bd.named
  have hnm := (name_of_methodNamed Bd.named Bd.method).1
  have X0 : Stand p l e ({ frames := 2, cells := 0, slots := 0, locals := 24 } : Room) s m #[(.ref ob0), (.ref ob1), (.int p2)] below meth c s₁ [] 0 0 := Stand.of_body Bd
  have e0 : s₁.heap = h0 := by rw [← hh, Bd.state]; rfl
  have N0 := Fr.nil n0
  have Z0 : n0 ≤ h0.size := O0.1 ▸ O0.2.1
  have g0 : ∀ t, FS p e below s₁ m 0 #[oa ob0, oa ob1, oi p2] [] t → ES p e below s₁ m #[(.ref ob0), (.ref ob1), (.int p2)] 3 t := fun t k => castTop (own_ef19 m (ob0) (ob1) (p2)) k
  have G0 := G
  obtain ⟨S_Z, E_Z, F_Zs, F_Zm, V_Z, S_P, P_P, S_N, P_N⟩ := G
  obtain ⟨_, _, ⟨T1, L1, k1, n1⟩, -, X1, ⟨Lc1, hQ1, l1, y1, z1⟩, st1⟩ := X0.specialBack hx (y := own_y5) rfl hown (mvT hZ (own_w hw 77 rfl)) (mvT hZ (own_w hw 78 rfl)) (mvT hZ (own_w hw 82 rfl)) (by decide) (backOf (W := 0) (rmA5 l Z a0 hw [] ob0  zr zm ps ng zk h0 n0 O0 G0   ) hZ (own_w hw 82 rfl) (own_w hw 81 rfl) (by decide) (by decide)) (g := (mkF m 1 #[oa ob0, oa ob1, oi p2] [(.ref ob0)])) rfl (by rw [hml]; rfl) (Steps.refl _) (a := ob0) (argsL := []) (rest := []) (lenOf own_pd0 rfl) rfl (own_W0 rfl) (hb hby d19_1) (fun _ _ => ⟨rfl, e0, (by decide : 0 + 0 ≤ _), (by decide : 0 + 0 ≤ _)⟩)
  dsimp only [Pt.U, Pt.locs, Pt.cells, Pt.slots] at X1 l1 y1 z1 st1 hQ1
  subst l1 y1 z1
  obtain ⟨rfl, Nq1, e1⟩ := hQ1
  have N1 := Fr.app N0 Nq1
  obtain ⟨c2, Ar2, cq2, S2, Nn2, Hh2, Gg2⟩ := id V_ob1
  obtain ⟨T3, h3, X3, e3, W3, st3⟩ := putF X1 hx hZ hown (host := "") (Or.inl (own_w hw 84 rfl)) Via.refl e1 F_ob0_signum E_ob0 (Or.inr ⟨(own_w hw 85 rfl), rfl, hnm⟩) (own_w hw 72 rfl) (ty := .int) (by decide) rfl rfl (g := (mkF m 15 #[oa ob0, oa ob1, oi p2] [(.int (0 : Int32)), (.ref ob0)])) rfl rfl (hb hby d19_15)
  have Fw3 := F_ob0_signum.same W3
  have N3 := Fr.snoc X3 N1 gz_ob0
  have f4 := (E_ob0.wr W3)
  have f5 := (F_ob0_mag.other W3 (Or.inr (slot_ne (own_la2 hw) (own_la3 hw) (by decide) own_ty2 own_ty3)))
  obtain ⟨T6, h6, X6, e6, W6, st6⟩ := putF X3 hx hZ hown (host := "") (Or.inl (own_w hw 87 rfl)) Via.refl e3 f5 f4 (Or.inr ⟨(own_w hw 88 rfl), rfl, hnm⟩) (own_w hw 72 rfl) (ty := (.array .int)) (by decide) rfl rfl (g := (mkF m 20 #[oa ob0, oa ob1, oi p2] [(.ref ob1), (.ref ob0)])) rfl rfl (hb hby d19_20)
  have Fw6 := f5.same W6
  have N6 := Fr.snoc X6 N3 gz_ob0
  obtain ⟨T7, X7, e7, st7⟩ := getF X6 hx hZ hown (host := "") (Or.inl (own_w hw 87 rfl)) Via.refl e6 Fw6 (g := (mkF m 24 #[oa ob0, oa ob1, oi p2] [(.ref ob0)])) rfl rfl (hb hby d19_24)
  have f8 := ((V_ob1.other W3 (Ne.symm (Exa.neArv E_ob0 V_ob1 (own_w hw 72 rfl)))).other W6 (Ne.symm (Exa.neArv f4 (V_ob1.other W3 (Ne.symm (Exa.neArv E_ob0 V_ob1 (own_w hw 72 rfl)))) (own_w hw 72 rfl))))
  obtain ⟨c9, Ar9, cq9, S9, Nn9, Hh9, Gg9⟩ := id f8
  have g10 : ∀ t, FS p e below T7 m 37 #[oa ob0, oa ob1, oi p2] [] t → ES p e below s₁ m #[(.ref ob0), (.ref ob1), (.int p2)] 3 t := by
    intro t k
    refine g0 t ?_
    show FS p e below s₁ m 0 #[oa ob0, oa ob1, oi p2] [] _
    refine XS.aloadN X0.here hx rfl (hb hby d19_0) rfl rfl ?_
    refine st1.trans ?_
    refine XS.aloadN X1.here hx rfl (hb hby d19_4) rfl rfl ?_
    refine XS.aloadN X1.here hx rfl (hb hby d19_5) rfl rfl ?_
    show FS p e below T1 m 6 #[oa ob0, oa ob1, oi p2] [(.ref ob1), (.ref ob0)] _
    refine X1.arraylength hx (by rw [e1]; exact Ar2.1) (State.isArrayOf_alike hZ.alike Ar2.2.1) (g := (mkF m 6 #[oa ob0, oa ob1, oi p2] [(.ref ob1), (.ref ob0)])) rfl rfl (hb hby d19_6) _ ?_
    rw [len_of S2 Nn2]
    refine XS.ifNo X1.here hx rfl (hb hby d19_7) rfl ((if0 _ _).trans (teq (by decide : (0 : Int32) = (0 : Int32))).2) ?_
    refine XS.iconst X1.here hx rfl (hb hby d19_10) ?_
    refine XS.goto X1.here hx rfl (pc0 := 11) (pc' := 15) rfl (hb hby d19_11) (by decide) (by decide) ?_
    refine st3 _ ?_
    refine XS.aloadN X3.here hx rfl (hb hby d19_18) rfl rfl ?_
    refine XS.aloadN X3.here hx rfl (hb hby d19_19) rfl rfl ?_
    refine st6 _ ?_
    refine XS.aloadN X6.here hx rfl (hb hby d19_23) rfl rfl ?_
    refine st7 _ ?_
    show FS p e below T7 m 27 #[oa ob0, oa ob1, oi p2] [(.ref ob1)] _
    refine X7.arraylength hx (by rw [e7]; exact Ar9.1) (State.isArrayOf_alike hZ.alike Ar9.2.1) (g := (mkF m 27 #[oa ob0, oa ob1, oi p2] [(.ref ob1)])) rfl rfl (hb hby d19_27) _ ?_
    rw [len_of S9 Nn9]
    refine X7.ldcInt hx hown (mvT hZ (own_w hw 130 rfl)) (g := (mkF m 28 #[oa ob0, oa ob1, oi p2] [(.int (0 : Int32))])) rfl (hb hby d19_28) _ ?_
    show FS p e below T7 m 30 #[oa ob0, oa ob1, oi p2] [(.int (67108864 : Int32)), (.int (0 : Int32))] _
    refine XS.icmpYes X7.here hx rfl (pc0 := 30) (pc' := 37) rfl (hb hby d19_30) rfl (tlt (by decide : (0 : Int32) < (67108864 : Int32))).1 (by decide) (by decide) ?_
    exact k
  obtain ⟨fs, hrt, hrun, hended, hW, hsame⟩ := X7.leave (v := none) (fun _ => rfl)
  have f11 := (f4.wr W6)
  have f12 := (Fw3.other W6 (Or.inr (slot_ne (own_la3 hw) (own_la2 hw) (by decide) own_ty3 own_ty2)))
  refine ⟨_, _, g10 _ ?_, hrun, hended, _, _, rfl, ?_, ⟨_, rfl⟩, hW, hsame.mono (by decide) (by decide)⟩
  · show Steps p.tables e below (T7.setTop (mkF m 37 #[oa ob0, oa ob1, oi p2] [])) _
    exact X7.returnOut hx Bd.returns (hb hby d19_37) hrt
  · show own_Q_rmA28 Z ob0 ob1 k_ob1 ob1_l p2 zr zm ps ng zk h0 n0 _ T7.heap _
    rw [e7]
    exact ⟨rfl, N6, (Keep.wr (Keep.wr (Keep.refl h0 [ob0]) W3 (Or.inl (List.mem_of_getElem? (i := 0) rfl))) W6 (Or.inl (List.mem_of_getElem? (i := 0) rfl))), f11, f12, Fw6⟩
theorem d11_171 : decode q11 171 = .ok (.areturn, 1) := by decide +kernel
def own_Q_rmA7 (Z : State) (ob0 : Addr) (ob0_mag : Addr) (k_ob0_mag : ClassId) (ob0_mag_z : Int32) (ob0_mag_l : List Value) (ob0_signum : Int32) (ob1 : Addr) (ob1_mag : Addr) (k_ob1_mag : ClassId) (ob1_mag_z : Int32) (ob1_mag_l : List Value) (ob1_signum : Int32) (sn : Int32) (zr zm ps ng : Addr) (zk : ClassId) (h0 : Heap) (n0 : Nat) (v : Option Value) (h : Heap) (L : List Loc) : Prop := ∃ (rb rm : Addr) (rk : ClassId) (rz rs : Int32) (rl : List Value), v = some (.ref rb) ∧ Fr n0 L ∧ Keep h0 h [] ∧ Exa Z h rb "java/math/BigInteger" ∧ Fld Z h rb "java/math/BigInteger" "signum" "I" (.int rs) ∧ Fld Z h rb "java/math/BigInteger" "mag" "[I" (.ref rm) ∧ Arv Z h rm rk .int rz rl (.int (0 : Int32)) ∧ (rs = (0 : Int32) ∨ (rs = sn ∧ (rz = (1 : Int32) ∨ rz = (2 : Int32) ∨ rz = (3 : Int32) ∨ rz = (4 : Int32))))
theorem rmA7 (l : Launch) (Z : State) (a0 : Array Value) (hw : ∀ d ∈ tables_1, d.before a0 Z = true) (ws : List Jvm.Cond) (ob0 : Addr) (ob0_mag : Addr) (k_ob0_mag : ClassId) (ob0_mag_z : Int32) (ob0_mag_l : List Value) (ob0_signum : Int32) (ob1 : Addr) (ob1_mag : Addr) (k_ob1_mag : ClassId) (ob1_mag_z : Int32) (ob1_mag_l : List Value) (ob1_signum : Int32) (sn : Int32) (zr zm ps ng : Addr) (zk : ClassId) (h0 : Heap) (n0 : Nat) (O0 : Old Z n0 h0) (G : own_Gl Z zr zm ps ng zk) (E_ob0 : Exa Z h0 ob0 "java/math/BigInteger") (V_ob0_mag : Arv Z h0 ob0_mag k_ob0_mag .int ob0_mag_z ob0_mag_l (.int (0 : Int32))) (F_ob0_mag : Fld Z h0 ob0 "java/math/BigInteger" "mag" "[I" (.ref ob0_mag)) (F_ob0_signum : Fld Z h0 ob0 "java/math/BigInteger" "signum" "I" (.int ob0_signum)) (E_ob1 : Exa Z h0 ob1 "java/math/BigInteger") (V_ob1_mag : Arv Z h0 ob1_mag k_ob1_mag .int ob1_mag_z ob1_mag_l (.int (0 : Int32))) (F_ob1_mag : Fld Z h0 ob1 "java/math/BigInteger" "mag" "[I" (.ref ob1_mag)) (F_ob1_signum : Fld Z h0 ob1 "java/math/BigInteger" "signum" "I" (.int ob1_signum)) (ha : (ob0_signum = (0 : Int32) ∨ (ob0_signum = (1 : Int32) ∧ (ob0_mag_z = (1 : Int32) ∨ ob0_mag_z = (2 : Int32))))) (hpb : (ob1_signum = (0 : Int32) ∨ (ob1_signum = sn ∧ (ob1_mag_z = (1 : Int32) ∨ ob1_mag_z = (2 : Int32))))) (hs : sn = (1 : Int32) ∨ sn = (-1 : Int32)) :
    MetFree l own_y7 (head1 (Jvm.Cond.code own_y7 jdk_2097_method_42_code 9 (some (.object "java/math/BigInteger")) :: ws) ({ frames := 4, cells := 3, slots := 14, locals := 105 } : Room)) (fun a U => a = #[(.ref ob0), (.ref ob1), (.int (0 : Int32)), (.int (0 : Int32)), (.int (0 : Int32))] ∧ Z.Warmed39 U.vm ∧ U.heap = h0) (fun _ _ _ _ _ => True) (fun _ U o U' => ∃ v L, o = .returned v ∧ own_Q_rmA7 Z ob0 ob0_mag k_ob0_mag ob0_mag_z ob0_mag_l ob0_signum ob1 ob1_mag k_ob1_mag ob1_mag_z ob1_mag_l ob1_signum sn zr zm ps ng zk h0 n0 v U'.heap L ∧ FrameEnd U o U' L ({ frames := 4, cells := 3, slots := 14, locals := 105 } : Room).cells ({ frames := 4, cells := 3, slots := 14, locals := 105 } : Room).slots) := by
  refine MetFree.of_bodySF (plainFor_of_name own_pn1) hisR ?_
  intro p e s m args below meth c s₁ Bd hml0 hP hK
  obtain ⟨rfl, hZ, hh⟩ := hP
  have hx := Bd.exec
  have hby := Bd.bytes
  have hml : c.maxLocals = 9 := hml0
  have hown : s.vm.findClass "java/math/BigInteger" = some m.cls := findClass_of_methodNamed Bd.named
  have hnm := (name_of_methodNamed Bd.named Bd.method).1
  have X0 : Stand p l e ({ frames := 4, cells := 3, slots := 14, locals := 105 } : Room) s m #[(.ref ob0), (.ref ob1), (.int (0 : Int32)), (.int (0 : Int32)), (.int (0 : Int32))] below meth c s₁ [] 0 0 := Stand.of_body Bd
  have e0 : s₁.heap = h0 := by rw [← hh, Bd.state]; rfl
  have N0 := Fr.nil n0
  have Z0 : n0 ≤ h0.size := O0.1 ▸ O0.2.1
  have g0 : ∀ t, FS p e below s₁ m 0 #[oa ob0, oa ob1, oi (0 : Int32), oi (0 : Int32), oi (0 : Int32), vU, vU, vU, vU] [] t → ES p e below s₁ m #[(.ref ob0), (.ref ob1), (.int (0 : Int32)), (.int (0 : Int32)), (.int (0 : Int32))] 9 t := fun t k => castTop (own_ef8 m (ob0) (ob1) ((0 : Int32)) ((0 : Int32)) ((0 : Int32))) k
  have G0 := G
  obtain ⟨S_Z, E_Z, F_Zs, F_Zm, V_Z, S_P, P_P, S_N, P_N⟩ := G
  obtain ⟨T1, X1, e1, st1⟩ := getF X0 hx hZ hown (host := "") (Or.inl (own_w hw 84 rfl)) Via.refl e0 F_ob1_signum (g := (mkF m 1 #[oa ob0, oa ob1, oi (0 : Int32), oi (0 : Int32), oi (0 : Int32), vU, vU, vU, vU] [(.ref ob1)])) rfl rfl (hb hby d11_1)
  have g3 : ∀ t, FS p e below T1 m 4 #[oa ob0, oa ob1, oi (0 : Int32), oi (0 : Int32), oi (0 : Int32), vU, vU, vU, vU] [(.int ob1_signum)] t → ES p e below s₁ m #[(.ref ob0), (.ref ob1), (.int (0 : Int32)), (.int (0 : Int32)), (.int (0 : Int32))] 9 t := by
    intro t k
    refine g0 t ?_
    show FS p e below s₁ m 0 #[oa ob0, oa ob1, oi (0 : Int32), oi (0 : Int32), oi (0 : Int32), vU, vU, vU, vU] [] _
    refine XS.aloadN X0.here hx rfl (hb hby d11_0) rfl rfl ?_
    refine st1 _ ?_
    exact k
  by_cases hc2 : ob1_signum = (0 : Int32)
  · obtain ⟨T4, X4, e4, st4⟩ := getS2 X1 hx hZ hown (host := "") (Or.inl (own_w hw 196 rfl)) Via.refl e1 (S_Z.ext O0.2) (g := (mkF m 14 #[oa ob0, oa ob1, oi (0 : Int32), oi (0 : Int32), oi (0 : Int32), vU, vU, vU, vU] [])) rfl (hb hby d11_14)
    have g5 : ∀ t, FS p e below T4 m 17 #[oa ob0, oa ob1, oi (0 : Int32), oi (0 : Int32), oi (0 : Int32), vU, vU, vU, vU] [(.ref zr)] t → ES p e below s₁ m #[(.ref ob0), (.ref ob1), (.int (0 : Int32)), (.int (0 : Int32)), (.int (0 : Int32))] 9 t := by
      intro t k
      refine g3 t ?_
      show FS p e below T1 m 4 #[oa ob0, oa ob1, oi (0 : Int32), oi (0 : Int32), oi (0 : Int32), vU, vU, vU, vU] [(.int ob1_signum)] _
      refine XS.ifYes X1.here hx rfl (pc0 := 4) (pc' := 14) rfl (hb hby d11_4) rfl ((if0 _ _).trans (teq hc2).1) (by decide) (by decide) ?_
      refine st4 _ ?_
      exact k
    obtain ⟨fs, hrt, hrun, hended, hW, hsame⟩ := X4.leave (v := some (.ref zr)) (fun h => by rw [Bd.returns] at h; cases h)
    refine ⟨_, _, g5 _ ?_, hrun, hended, _, _, rfl, ?_, ⟨_, rfl⟩, hW, hsame.mono (by decide) (by decide)⟩
    · show Steps p.tables e below (T4.setTop (mkF m 17 #[oa ob0, oa ob1, oi (0 : Int32), oi (0 : Int32), oi (0 : Int32), vU, vU, vU, vU] [(.ref zr)])) _
      jvm_step X4.here [X4.here.top, hx, (hb hby d11_17), X4.method', Bd.returns, Value.isRef, FieldType.isReference]
      first | (intro acts; rw [hrt _ acts rfl rfl rfl]) | rw [hrt _ _ rfl rfl rfl]
      exact Steps.refl _
    · show own_Q_rmA7 Z ob0 ob0_mag k_ob0_mag ob0_mag_z ob0_mag_l ob0_signum ob1 ob1_mag k_ob1_mag ob1_mag_z ob1_mag_l ob1_signum sn zr zm ps ng zk h0 n0 _ T4.heap _
      rw [e4]
      exact ⟨zr, zm, _, _, _, _, rfl, N0, (Keep.refl h0 []), (E_Z.ext O0.2), (F_Zs.ext O0.2), (F_Zm.ext O0.2), (V_Z.ext O0.2), Or.inl rfl⟩
  · obtain ⟨T6, X6, e6, st6⟩ := getF X1 hx hZ hown (host := "") (Or.inl (own_w hw 84 rfl)) Via.refl e1 F_ob0_signum (g := (mkF m 8 #[oa ob0, oa ob1, oi (0 : Int32), oi (0 : Int32), oi (0 : Int32), vU, vU, vU, vU] [(.ref ob0)])) rfl rfl (hb hby d11_8)
    have g8 : ∀ t, FS p e below T6 m 11 #[oa ob0, oa ob1, oi (0 : Int32), oi (0 : Int32), oi (0 : Int32), vU, vU, vU, vU] [(.int ob0_signum)] t → ES p e below s₁ m #[(.ref ob0), (.ref ob1), (.int (0 : Int32)), (.int (0 : Int32)), (.int (0 : Int32))] 9 t := by
      intro t k
      refine g3 t ?_
      show FS p e below T1 m 4 #[oa ob0, oa ob1, oi (0 : Int32), oi (0 : Int32), oi (0 : Int32), vU, vU, vU, vU] [(.int ob1_signum)] _
      refine XS.ifNo X1.here hx rfl (hb hby d11_4) rfl ((if0 _ _).trans (feq hc2).1) ?_
      refine XS.aloadN X1.here hx rfl (hb hby d11_7) rfl rfl ?_
      refine st6 _ ?_
      exact k
    by_cases hc7 : ob0_signum = (0 : Int32)
    · obtain ⟨T9, X9, e9, st9⟩ := getS2 X6 hx hZ hown (host := "") (Or.inl (own_w hw 196 rfl)) Via.refl e6 (S_Z.ext O0.2) (g := (mkF m 14 #[oa ob0, oa ob1, oi (0 : Int32), oi (0 : Int32), oi (0 : Int32), vU, vU, vU, vU] [])) rfl (hb hby d11_14)
      have g10 : ∀ t, FS p e below T9 m 17 #[oa ob0, oa ob1, oi (0 : Int32), oi (0 : Int32), oi (0 : Int32), vU, vU, vU, vU] [(.ref zr)] t → ES p e below s₁ m #[(.ref ob0), (.ref ob1), (.int (0 : Int32)), (.int (0 : Int32)), (.int (0 : Int32))] 9 t := by
        intro t k
        refine g8 t ?_
        show FS p e below T6 m 11 #[oa ob0, oa ob1, oi (0 : Int32), oi (0 : Int32), oi (0 : Int32), vU, vU, vU, vU] [(.int ob0_signum)] _
        refine XS.ifNo X6.here hx rfl (hb hby d11_11) rfl ((if0 _ _).trans (teq hc7).2) ?_
        refine st9 _ ?_
        exact k
      obtain ⟨fs, hrt, hrun, hended, hW, hsame⟩ := X9.leave (v := some (.ref zr)) (fun h => by rw [Bd.returns] at h; cases h)
      refine ⟨_, _, g10 _ ?_, hrun, hended, _, _, rfl, ?_, ⟨_, rfl⟩, hW, hsame.mono (by decide) (by decide)⟩
      · show Steps p.tables e below (T9.setTop (mkF m 17 #[oa ob0, oa ob1, oi (0 : Int32), oi (0 : Int32), oi (0 : Int32), vU, vU, vU, vU] [(.ref zr)])) _
        jvm_step X9.here [X9.here.top, hx, (hb hby d11_17), X9.method', Bd.returns, Value.isRef, FieldType.isReference]
        first | (intro acts; rw [hrt _ acts rfl rfl rfl]) | rw [hrt _ _ rfl rfl rfl]
        exact Steps.refl _
      · show own_Q_rmA7 Z ob0 ob0_mag k_ob0_mag ob0_mag_z ob0_mag_l ob0_signum ob1 ob1_mag k_ob1_mag ob1_mag_z ob1_mag_l ob1_signum sn zr zm ps ng zk h0 n0 _ T9.heap _
        rw [e9]
        exact ⟨zr, zm, _, _, _, _, rfl, N0, (Keep.refl h0 []), (E_Z.ext O0.2), (F_Zs.ext O0.2), (F_Zm.ext O0.2), (V_Z.ext O0.2), Or.inl rfl⟩
    · obtain ⟨T11, X11, e11, st11⟩ := getF X6 hx hZ hown (host := "") (Or.inl (own_w hw 87 rfl)) Via.refl e6 F_ob0_mag (g := (mkF m 19 #[oa ob0, oa ob1, oi (0 : Int32), oi (0 : Int32), oi (0 : Int32), vU, vU, vU, vU] [(.ref ob0)])) rfl rfl (hb hby d11_19)
      obtain ⟨c12, Ar12, cq12, S12, Nn12, Hh12, Gg12⟩ := id V_ob0_mag
      have g13 : ∀ t, FS p e below T11 m 27 #[oa ob0, oa ob1, oi (0 : Int32), oi (0 : Int32), oi (0 : Int32), oi ob0_mag_z, vU, vU, vU] [(.ref ob0), (.ref ob1)] t → ES p e below s₁ m #[(.ref ob0), (.ref ob1), (.int (0 : Int32)), (.int (0 : Int32)), (.int (0 : Int32))] 9 t := by
        intro t k
        refine g8 t ?_
        show FS p e below T6 m 11 #[oa ob0, oa ob1, oi (0 : Int32), oi (0 : Int32), oi (0 : Int32), vU, vU, vU, vU] [(.int ob0_signum)] _
        refine XS.ifYes X6.here hx rfl (pc0 := 11) (pc' := 18) rfl (hb hby d11_11) rfl ((if0 _ _).trans (feq hc7).2) (by decide) (by decide) ?_
        refine XS.aloadN X6.here hx rfl (hb hby d11_18) rfl rfl ?_
        refine st11 _ ?_
        show FS p e below T11 m 22 #[oa ob0, oa ob1, oi (0 : Int32), oi (0 : Int32), oi (0 : Int32), vU, vU, vU, vU] [(.ref ob0_mag)] _
        refine X11.arraylength hx (by rw [e11]; exact Ar12.1) (State.isArrayOf_alike hZ.alike Ar12.2.1) (g := (mkF m 22 #[oa ob0, oa ob1, oi (0 : Int32), oi (0 : Int32), oi (0 : Int32), vU, vU, vU, vU] [(.ref ob0_mag)])) rfl rfl (hb hby d11_22) _ ?_
        rw [len_of S12 Nn12]
        refine XS.istore X11.here hx rfl (hb hby d11_23) rfl (l' := #[oa ob0, oa ob1, oi (0 : Int32), oi (0 : Int32), oi (0 : Int32), oi ob0_mag_z, vU, vU, vU]) rfl ?_
        refine XS.aloadN X11.here hx rfl (hb hby d11_25) rfl rfl ?_
        refine XS.aloadN X11.here hx rfl (hb hby d11_26) rfl rfl ?_
        exact k
      have g16 : ∀ t, FS p e below T11 m 46 #[oa ob0, oa ob1, oi (0 : Int32), oi (0 : Int32), oi (0 : Int32), oi ob0_mag_z, vU, vU, vU] [] t → ES p e below s₁ m #[(.ref ob0), (.ref ob1), (.int (0 : Int32)), (.int (0 : Int32)), (.int (0 : Int32))] 9 t := by
        intro t k
        by_cases hc14 : ob1 = ob0
        · skip
          have hc15 : ¬ ((20 : Int32) < ob0_mag_z) := (own_z2 (own_nz ha hc7).2).1
          refine g13 t ?_
          show FS p e below T11 m 27 #[oa ob0, oa ob1, oi (0 : Int32), oi (0 : Int32), oi (0 : Int32), oi ob0_mag_z, vU, vU, vU] [(.ref ob0), (.ref ob1)] _
          refine Jvm.RoadKit.acmp (g := (mkF m 27 #[oa ob0, oa ob1, oi (0 : Int32), oi (0 : Int32), oi (0 : Int32), oi ob0_mag_z, vU, vU, vU] [(.ref ob0), (.ref ob1)])) X11 hx rfl rfl rfl (pc0 := 27) (pc' := 30) (same := true) rfl (hb hby d11_27) rfl (decide_eq_true (congrArg Value.ref hc14)) (by decide) (by decide) ?_
          refine XS.iload X11.here hx rfl (hb hby d11_30) rfl ?_
          refine XS.bipush X11.here hx rfl (hb hby d11_32) ?_
          refine XS.icmpYes X11.here hx rfl (pc0 := 34) (pc' := 46) rfl (hb hby d11_34) rfl (flt hc15).2.2.2 (by decide) (by decide) ?_
          exact k
        · skip
          refine g13 t ?_
          show FS p e below T11 m 27 #[oa ob0, oa ob1, oi (0 : Int32), oi (0 : Int32), oi (0 : Int32), oi ob0_mag_z, vU, vU, vU] [(.ref ob0), (.ref ob1)] _
          refine Jvm.RoadKit.acmp (g := (mkF m 27 #[oa ob0, oa ob1, oi (0 : Int32), oi (0 : Int32), oi (0 : Int32), oi ob0_mag_z, vU, vU, vU] [(.ref ob0), (.ref ob1)])) X11 hx rfl rfl rfl (pc0 := 27) (pc' := 46) (same := false) rfl (hb hby d11_27) rfl (decide_eq_false fun q => hc14 (Value.ref.inj q)) (by decide) (by decide) ?_
          exact k
      obtain ⟨T17, X17, e17, st17⟩ := getF X11 hx hZ hown (host := "") (Or.inl (own_w hw 87 rfl)) Via.refl e11 F_ob1_mag (g := (mkF m 47 #[oa ob0, oa ob1, oi (0 : Int32), oi (0 : Int32), oi (0 : Int32), oi ob0_mag_z, vU, vU, vU] [(.ref ob1)])) rfl rfl (hb hby d11_47)
      obtain ⟨c18, Ar18, cq18, S18, Nn18, Hh18, Gg18⟩ := id V_ob1_mag
      have hc19 : ob0_mag_z < (80 : Int32) := (own_z2 (own_nz ha hc7).2).2
      obtain ⟨T20, X20, e20, st20⟩ := getF X17 hx hZ hown (host := "") (Or.inl (own_w hw 84 rfl)) Via.refl e17 F_ob0_signum (g := (mkF m 68 #[oa ob0, oa ob1, oi (0 : Int32), oi (0 : Int32), oi (0 : Int32), oi ob0_mag_z, oi ob1_mag_z, vU, vU] [(.ref ob0)])) rfl rfl (hb hby d11_68)
      obtain ⟨T21, X21, e21, st21⟩ := getF X20 hx hZ hown (host := "") (Or.inl (own_w hw 84 rfl)) Via.refl e20 F_ob1_signum (g := (mkF m 72 #[oa ob0, oa ob1, oi (0 : Int32), oi (0 : Int32), oi (0 : Int32), oi ob0_mag_z, oi ob1_mag_z, vU, vU] [(.ref ob1), (.int ob0_signum)])) rfl rfl (hb hby d11_72)
      have g22 : ∀ t, FS p e below T21 m 75 #[oa ob0, oa ob1, oi (0 : Int32), oi (0 : Int32), oi (0 : Int32), oi ob0_mag_z, oi ob1_mag_z, vU, vU] [(.int ob1_signum), (.int ob0_signum)] t → ES p e below s₁ m #[(.ref ob0), (.ref ob1), (.int (0 : Int32)), (.int (0 : Int32)), (.int (0 : Int32))] 9 t := by
        intro t k
        refine g16 t ?_
        show FS p e below T11 m 46 #[oa ob0, oa ob1, oi (0 : Int32), oi (0 : Int32), oi (0 : Int32), oi ob0_mag_z, vU, vU, vU] [] _
        refine XS.aloadN X11.here hx rfl (hb hby d11_46) rfl rfl ?_
        refine st17 _ ?_
        show FS p e below T17 m 50 #[oa ob0, oa ob1, oi (0 : Int32), oi (0 : Int32), oi (0 : Int32), oi ob0_mag_z, vU, vU, vU] [(.ref ob1_mag)] _
        refine X17.arraylength hx (by rw [e17]; exact Ar18.1) (State.isArrayOf_alike hZ.alike Ar18.2.1) (g := (mkF m 50 #[oa ob0, oa ob1, oi (0 : Int32), oi (0 : Int32), oi (0 : Int32), oi ob0_mag_z, vU, vU, vU] [(.ref ob1_mag)])) rfl rfl (hb hby d11_50) _ ?_
        rw [len_of S18 Nn18]
        refine XS.istore X17.here hx rfl (hb hby d11_51) rfl (l' := #[oa ob0, oa ob1, oi (0 : Int32), oi (0 : Int32), oi (0 : Int32), oi ob0_mag_z, oi ob1_mag_z, vU, vU]) rfl ?_
        refine XS.iload X17.here hx rfl (hb hby d11_53) rfl ?_
        refine XS.bipush X17.here hx rfl (hb hby d11_55) ?_
        refine XS.icmpYes X17.here hx rfl (pc0 := 57) (pc' := 67) rfl (hb hby d11_57) rfl (tlt hc19).1 (by decide) (by decide) ?_
        refine XS.aloadN X17.here hx rfl (hb hby d11_67) rfl rfl ?_
        refine st20 _ ?_
        refine XS.aloadN X20.here hx rfl (hb hby d11_71) rfl rfl ?_
        refine st21 _ ?_
        exact k
      obtain ⟨sgx, hv_sgx⟩ : ∃ z : Int32, z = (if ob0_signum = ob1_signum then (1 : Int32) else (-1 : Int32)) := ⟨_, rfl⟩
      have g24 : ∀ t, FS p e below T21 m 83 #[oa ob0, oa ob1, oi (0 : Int32), oi (0 : Int32), oi (0 : Int32), oi ob0_mag_z, oi ob1_mag_z, vU, vU] [(.int sgx)] t → ES p e below s₁ m #[(.ref ob0), (.ref ob1), (.int (0 : Int32)), (.int (0 : Int32)), (.int (0 : Int32))] 9 t := by
        intro t k
        by_cases hc23 : ob0_signum = ob1_signum
        · rw [if_pos hc23] at hv_sgx; rw [hv_sgx] at k
          refine g22 t ?_
          show FS p e below T21 m 75 #[oa ob0, oa ob1, oi (0 : Int32), oi (0 : Int32), oi (0 : Int32), oi ob0_mag_z, oi ob1_mag_z, vU, vU] [(.int ob1_signum), (.int ob0_signum)] _
          refine XS.icmpNo X21.here hx rfl (hb hby d11_75) rfl (teq hc23).2 ?_
          refine XS.iconst X21.here hx rfl (hb hby d11_78) ?_
          refine XS.goto X21.here hx rfl (pc0 := 79) (pc' := 83) rfl (hb hby d11_79) (by decide) (by decide) ?_
          exact k
        · rw [if_neg hc23] at hv_sgx; rw [hv_sgx] at k
          refine g22 t ?_
          show FS p e below T21 m 75 #[oa ob0, oa ob1, oi (0 : Int32), oi (0 : Int32), oi (0 : Int32), oi ob0_mag_z, oi ob1_mag_z, vU, vU] [(.int ob1_signum), (.int ob0_signum)] _
          refine XS.icmpYes X21.here hx rfl (pc0 := 75) (pc' := 82) rfl (hb hby d11_75) rfl (feq hc23).2 (by decide) (by decide) ?_
          refine XS.iconst X21.here hx rfl (hb hby d11_82) ?_
          exact k
      obtain ⟨T25, X25, e25, st25⟩ := getF X21 hx hZ hown (host := "") (Or.inl (own_w hw 87 rfl)) Via.refl e21 F_ob1_mag (g := (mkF m 86 #[oa ob0, oa ob1, oi (0 : Int32), oi (0 : Int32), oi (0 : Int32), oi ob0_mag_z, oi ob1_mag_z, oi sgx, vU] [(.ref ob1)])) rfl rfl (hb hby d11_86)
      obtain ⟨c26, Ar26, cq26, S26, Nn26, Hh26, Gg26⟩ := id V_ob1_mag
      have g28 : ∀ t, FS p e below T25 m 91 #[oa ob0, oa ob1, oi (0 : Int32), oi (0 : Int32), oi (0 : Int32), oi ob0_mag_z, oi ob1_mag_z, oi sgx, vU] [(.int (1 : Int32)), (.int ob1_mag_z)] t → ES p e below s₁ m #[(.ref ob0), (.ref ob1), (.int (0 : Int32)), (.int (0 : Int32)), (.int (0 : Int32))] 9 t := by
        intro t k
        refine g24 t ?_
        show FS p e below T21 m 83 #[oa ob0, oa ob1, oi (0 : Int32), oi (0 : Int32), oi (0 : Int32), oi ob0_mag_z, oi ob1_mag_z, vU, vU] [(.int sgx)] _
        refine XS.istore X21.here hx rfl (hb hby d11_83) rfl (l' := #[oa ob0, oa ob1, oi (0 : Int32), oi (0 : Int32), oi (0 : Int32), oi ob0_mag_z, oi ob1_mag_z, oi sgx, vU]) rfl ?_
        refine XS.aloadN X21.here hx rfl (hb hby d11_85) rfl rfl ?_
        refine st25 _ ?_
        show FS p e below T25 m 89 #[oa ob0, oa ob1, oi (0 : Int32), oi (0 : Int32), oi (0 : Int32), oi ob0_mag_z, oi ob1_mag_z, oi sgx, vU] [(.ref ob1_mag)] _
        refine X25.arraylength hx (by rw [e25]; exact Ar26.1) (State.isArrayOf_alike hZ.alike Ar26.2.1) (g := (mkF m 89 #[oa ob0, oa ob1, oi (0 : Int32), oi (0 : Int32), oi (0 : Int32), oi ob0_mag_z, oi ob1_mag_z, oi sgx, vU] [(.ref ob1_mag)])) rfl rfl (hb hby d11_89) _ ?_
        rw [len_of S26 Nn26]
        refine XS.iconst X25.here hx rfl (hb hby d11_90) ?_
        exact k
      by_cases hc27 : ob1_mag_z = (1 : Int32)
      · obtain ⟨y0, Vc29⟩ := own_conc1 (own_reZ hc27 V_ob1_mag)
        obtain ⟨T30, X30, e30, st30⟩ := getF X25 hx hZ hown (host := "") (Or.inl (own_w hw 87 rfl)) Via.refl e25 F_ob0_mag (g := (mkF m 95 #[oa ob0, oa ob1, oi (0 : Int32), oi (0 : Int32), oi (0 : Int32), oi ob0_mag_z, oi ob1_mag_z, oi sgx, vU] [(.ref ob0)])) rfl rfl (hb hby d11_95)
        obtain ⟨T31, X31, e31, st31⟩ := getF X30 hx hZ hown (host := "") (Or.inl (own_w hw 87 rfl)) Via.refl e30 F_ob1_mag (g := (mkF m 99 #[oa ob0, oa ob1, oi (0 : Int32), oi (0 : Int32), oi (0 : Int32), oi ob0_mag_z, oi ob1_mag_z, oi sgx, vU] [(.ref ob1), (.ref ob0_mag)])) rfl rfl (hb hby d11_99)
        obtain ⟨c32, Ar32, cq32, S32, Nn32, Hh32, Gg32⟩ := id Vc29
        have hin32 : ¬ ((0 : Int32) < 0 ∨ c32.slots.size ≤ ((0 : Int32)).toNatClampNeg) := inb_of S32 ⟨by decide, by decide⟩
        have hat32 : c32.slots[((0 : Int32)).toNatClampNeg]? = some (.int y0) := Has.at Hh32 hin32 rfl
        obtain ⟨_, _, ⟨T33, L33, k33, n33⟩, -, X33, ⟨Lc33, hQ33, l33, y33, z33⟩, st33⟩ := Jvm.LawKit.callS X31 hx (y := own_y8) hown (mvT hZ (own_w hw 99 rfl)) (mvT hZ (own_w hw 100 rfl)) (mvT hZ (own_w hw 52 rfl)) (mvT hZ (own_w hw 101 rfl)) (by decide) (backOf (W := 0) (rmA8 l Z a0 hw [] ob0_mag k_ob0_mag (ob0_mag_z) ob0_mag_l (y0) (sgx)  zr zm ps ng zk h0 n0 O0 G0 V_ob0_mag  (own_nz ha hc7).2) hZ (own_w hw 101 rfl) (own_w hw 52 rfl) (by decide) (by decide)) (g := (mkF m 106 #[oa ob0, oa ob1, oi (0 : Int32), oi (0 : Int32), oi (0 : Int32), oi ob0_mag_z, oi ob1_mag_z, oi sgx, vU] [(.int sgx), (.int y0), (.ref ob0_mag)])) rfl (by rw [hml]; rfl) (argsL := [(.ref ob0_mag), (.int y0), (.int sgx)]) (rest := []) (lenOf own_pd13 rfl) rfl (own_W0 rfl) (hb hby d11_106) (fun _ _ => ⟨rfl, e31, (by decide : 0 + 3 ≤ _), (by decide : 0 + 13 ≤ _)⟩)
        dsimp only [Pt.U, Pt.locs, Pt.cells, Pt.slots] at X33 l33 y33 z33 st33 hQ33
        subst l33 y33 z33
        obtain ⟨rb33, rm33, rk33, rz33, rs33, rl33, rfl, Nq33, K33, Qe33, Qs33, Qm33, Qa33, Qc33⟩ := hQ33
        have N33 := Fr.app N0 Nq33
        have g34 : ∀ t, FS p e below T33 m 109 #[oa ob0, oa ob1, oi (0 : Int32), oi (0 : Int32), oi (0 : Int32), oi ob0_mag_z, oi ob1_mag_z, oi sgx, vU] [(.ref rb33)] t → ES p e below s₁ m #[(.ref ob0), (.ref ob1), (.int (0 : Int32)), (.int (0 : Int32)), (.int (0 : Int32))] 9 t := by
          intro t k
          refine g28 t ?_
          show FS p e below T25 m 91 #[oa ob0, oa ob1, oi (0 : Int32), oi (0 : Int32), oi (0 : Int32), oi ob0_mag_z, oi ob1_mag_z, oi sgx, vU] [(.int (1 : Int32)), (.int ob1_mag_z)] _
          refine XS.icmpNo X25.here hx rfl (hb hby d11_91) rfl (teq hc27).2 ?_
          refine XS.aloadN X25.here hx rfl (hb hby d11_94) rfl rfl ?_
          refine st30 _ ?_
          refine XS.aloadN X30.here hx rfl (hb hby d11_98) rfl rfl ?_
          refine st31 _ ?_
          refine XS.iconst X31.here hx rfl (hb hby d11_102) ?_
          refine X31.iaload hx (j := (0 : Int32)) (v := (.int y0)) (by rw [e31]; exact Ar32.1) (State.isArrayOf_alike hZ.alike Ar32.2.1) Ar32.2.2 hin32 hat32 (g := (mkF m 103 #[oa ob0, oa ob1, oi (0 : Int32), oi (0 : Int32), oi (0 : Int32), oi ob0_mag_z, oi ob1_mag_z, oi sgx, vU] [(.int (0 : Int32)), (.ref ob1_mag), (.ref ob0_mag)])) rfl rfl (hb hby d11_103) _ ?_
          refine XS.iload X31.here hx rfl (hb hby d11_104) rfl ?_
          refine st33 _ ?_
          exact k
        obtain ⟨fs, hrt, hrun, hended, hW, hsame⟩ := X33.leave (v := some (.ref rb33)) (fun h => by rw [Bd.returns] at h; cases h)
        refine ⟨_, _, g34 _ ?_, hrun, hended, _, _, rfl, ?_, ⟨_, rfl⟩, hW, hsame.mono (by decide) (by decide)⟩
        · show Steps p.tables e below (T33.setTop (mkF m 109 #[oa ob0, oa ob1, oi (0 : Int32), oi (0 : Int32), oi (0 : Int32), oi ob0_mag_z, oi ob1_mag_z, oi sgx, vU] [(.ref rb33)])) _
          jvm_step X33.here [X33.here.top, hx, (hb hby d11_109), X33.method', Bd.returns, Value.isRef, FieldType.isReference]
          first | (intro acts; rw [hrt _ acts rfl rfl rfl]) | rw [hrt _ _ rfl rfl rfl]
          exact Steps.refl _
        · show own_Q_rmA7 Z ob0 ob0_mag k_ob0_mag ob0_mag_z ob0_mag_l ob0_signum ob1 ob1_mag k_ob1_mag ob1_mag_z ob1_mag_l ob1_signum sn zr zm ps ng zk h0 n0 _ T33.heap _
          exact ⟨rb33, rm33, _, _, _, _, rfl, N33, (Keep.trans (Keep.refl h0 []) K33 all0), Qe33, Qs33, Qm33, Qa33, Or.inr ⟨Qc33.1.trans (own_sgx ha hpb hs hc7 hc2 hv_sgx), Qc33.2⟩⟩
      · obtain ⟨T35, X35, e35, st35⟩ := getF X25 hx hZ hown (host := "") (Or.inl (own_w hw 87 rfl)) Via.refl e25 F_ob0_mag (g := (mkF m 111 #[oa ob0, oa ob1, oi (0 : Int32), oi (0 : Int32), oi (0 : Int32), oi ob0_mag_z, oi ob1_mag_z, oi sgx, vU] [(.ref ob0)])) rfl rfl (hb hby d11_111)
        obtain ⟨c36, Ar36, cq36, S36, Nn36, Hh36, Gg36⟩ := id V_ob0_mag
        have g38 : ∀ t, FS p e below T35 m 116 #[oa ob0, oa ob1, oi (0 : Int32), oi (0 : Int32), oi (0 : Int32), oi ob0_mag_z, oi ob1_mag_z, oi sgx, vU] [(.int (1 : Int32)), (.int ob0_mag_z)] t → ES p e below s₁ m #[(.ref ob0), (.ref ob1), (.int (0 : Int32)), (.int (0 : Int32)), (.int (0 : Int32))] 9 t := by
          intro t k
          refine g28 t ?_
          show FS p e below T25 m 91 #[oa ob0, oa ob1, oi (0 : Int32), oi (0 : Int32), oi (0 : Int32), oi ob0_mag_z, oi ob1_mag_z, oi sgx, vU] [(.int (1 : Int32)), (.int ob1_mag_z)] _
          refine XS.icmpYes X25.here hx rfl (pc0 := 91) (pc' := 110) rfl (hb hby d11_91) rfl (feq hc27).2 (by decide) (by decide) ?_
          refine XS.aloadN X25.here hx rfl (hb hby d11_110) rfl rfl ?_
          refine st35 _ ?_
          show FS p e below T35 m 114 #[oa ob0, oa ob1, oi (0 : Int32), oi (0 : Int32), oi (0 : Int32), oi ob0_mag_z, oi ob1_mag_z, oi sgx, vU] [(.ref ob0_mag)] _
          refine X35.arraylength hx (by rw [e35]; exact Ar36.1) (State.isArrayOf_alike hZ.alike Ar36.2.1) (g := (mkF m 114 #[oa ob0, oa ob1, oi (0 : Int32), oi (0 : Int32), oi (0 : Int32), oi ob0_mag_z, oi ob1_mag_z, oi sgx, vU] [(.ref ob0_mag)])) rfl rfl (hb hby d11_114) _ ?_
          rw [len_of S36 Nn36]
          refine XS.iconst X35.here hx rfl (hb hby d11_115) ?_
          exact k
        by_cases hc37 : ob0_mag_z = (1 : Int32)
        · obtain ⟨x0, Vc39⟩ := own_conc1 (own_reZ hc37 V_ob0_mag)
          obtain ⟨T40, X40, e40, st40⟩ := getF X35 hx hZ hown (host := "") (Or.inl (own_w hw 87 rfl)) Via.refl e35 F_ob1_mag (g := (mkF m 120 #[oa ob0, oa ob1, oi (0 : Int32), oi (0 : Int32), oi (0 : Int32), oi ob0_mag_z, oi ob1_mag_z, oi sgx, vU] [(.ref ob1)])) rfl rfl (hb hby d11_120)
          obtain ⟨T41, X41, e41, st41⟩ := getF X40 hx hZ hown (host := "") (Or.inl (own_w hw 87 rfl)) Via.refl e40 F_ob0_mag (g := (mkF m 124 #[oa ob0, oa ob1, oi (0 : Int32), oi (0 : Int32), oi (0 : Int32), oi ob0_mag_z, oi ob1_mag_z, oi sgx, vU] [(.ref ob0), (.ref ob1_mag)])) rfl rfl (hb hby d11_124)
          obtain ⟨c42, Ar42, cq42, S42, Nn42, Hh42, Gg42⟩ := id Vc39
          have hin42 : ¬ ((0 : Int32) < 0 ∨ c42.slots.size ≤ ((0 : Int32)).toNatClampNeg) := inb_of S42 ⟨by decide, by decide⟩
          have hat42 : c42.slots[((0 : Int32)).toNatClampNeg]? = some (.int x0) := Has.at Hh42 hin42 rfl
          obtain ⟨_, _, ⟨T43, L43, k43, n43⟩, -, X43, ⟨Lc43, hQ43, l43, y43, z43⟩, st43⟩ := Jvm.LawKit.callS X41 hx (y := own_y8) hown (mvT hZ (own_w hw 99 rfl)) (mvT hZ (own_w hw 100 rfl)) (mvT hZ (own_w hw 52 rfl)) (mvT hZ (own_w hw 101 rfl)) (by decide) (backOf (W := 0) (rmA8 l Z a0 hw [] ob1_mag k_ob1_mag (ob1_mag_z) ob1_mag_l (x0) (sgx)  zr zm ps ng zk h0 n0 O0 G0 V_ob1_mag  (own_nz hpb hc2).2) hZ (own_w hw 101 rfl) (own_w hw 52 rfl) (by decide) (by decide)) (g := (mkF m 131 #[oa ob0, oa ob1, oi (0 : Int32), oi (0 : Int32), oi (0 : Int32), oi ob0_mag_z, oi ob1_mag_z, oi sgx, vU] [(.int sgx), (.int x0), (.ref ob1_mag)])) rfl (by rw [hml]; rfl) (argsL := [(.ref ob1_mag), (.int x0), (.int sgx)]) (rest := []) (lenOf own_pd13 rfl) rfl (own_W0 rfl) (hb hby d11_131) (fun _ _ => ⟨rfl, e41, (by decide : 0 + 3 ≤ _), (by decide : 0 + 13 ≤ _)⟩)
          dsimp only [Pt.U, Pt.locs, Pt.cells, Pt.slots] at X43 l43 y43 z43 st43 hQ43
          subst l43 y43 z43
          obtain ⟨rb43, rm43, rk43, rz43, rs43, rl43, rfl, Nq43, K43, Qe43, Qs43, Qm43, Qa43, Qc43⟩ := hQ43
          have N43 := Fr.app N0 Nq43
          have g44 : ∀ t, FS p e below T43 m 134 #[oa ob0, oa ob1, oi (0 : Int32), oi (0 : Int32), oi (0 : Int32), oi ob0_mag_z, oi ob1_mag_z, oi sgx, vU] [(.ref rb43)] t → ES p e below s₁ m #[(.ref ob0), (.ref ob1), (.int (0 : Int32)), (.int (0 : Int32)), (.int (0 : Int32))] 9 t := by
            intro t k
            refine g38 t ?_
            show FS p e below T35 m 116 #[oa ob0, oa ob1, oi (0 : Int32), oi (0 : Int32), oi (0 : Int32), oi ob0_mag_z, oi ob1_mag_z, oi sgx, vU] [(.int (1 : Int32)), (.int ob0_mag_z)] _
            refine XS.icmpNo X35.here hx rfl (hb hby d11_116) rfl (teq hc37).2 ?_
            refine XS.aloadN X35.here hx rfl (hb hby d11_119) rfl rfl ?_
            refine st40 _ ?_
            refine XS.aloadN X40.here hx rfl (hb hby d11_123) rfl rfl ?_
            refine st41 _ ?_
            refine XS.iconst X41.here hx rfl (hb hby d11_127) ?_
            refine X41.iaload hx (j := (0 : Int32)) (v := (.int x0)) (by rw [e41]; exact Ar42.1) (State.isArrayOf_alike hZ.alike Ar42.2.1) Ar42.2.2 hin42 hat42 (g := (mkF m 128 #[oa ob0, oa ob1, oi (0 : Int32), oi (0 : Int32), oi (0 : Int32), oi ob0_mag_z, oi ob1_mag_z, oi sgx, vU] [(.int (0 : Int32)), (.ref ob0_mag), (.ref ob1_mag)])) rfl rfl (hb hby d11_128) _ ?_
            refine XS.iload X41.here hx rfl (hb hby d11_129) rfl ?_
            refine st43 _ ?_
            exact k
          obtain ⟨fs, hrt, hrun, hended, hW, hsame⟩ := X43.leave (v := some (.ref rb43)) (fun h => by rw [Bd.returns] at h; cases h)
          refine ⟨_, _, g44 _ ?_, hrun, hended, _, _, rfl, ?_, ⟨_, rfl⟩, hW, hsame.mono (by decide) (by decide)⟩
          · show Steps p.tables e below (T43.setTop (mkF m 134 #[oa ob0, oa ob1, oi (0 : Int32), oi (0 : Int32), oi (0 : Int32), oi ob0_mag_z, oi ob1_mag_z, oi sgx, vU] [(.ref rb43)])) _
            jvm_step X43.here [X43.here.top, hx, (hb hby d11_134), X43.method', Bd.returns, Value.isRef, FieldType.isReference]
            first | (intro acts; rw [hrt _ acts rfl rfl rfl]) | rw [hrt _ _ rfl rfl rfl]
            exact Steps.refl _
          · show own_Q_rmA7 Z ob0 ob0_mag k_ob0_mag ob0_mag_z ob0_mag_l ob0_signum ob1 ob1_mag k_ob1_mag ob1_mag_z ob1_mag_l ob1_signum sn zr zm ps ng zk h0 n0 _ T43.heap _
            exact ⟨rb43, rm43, _, _, _, _, rfl, N43, (Keep.trans (Keep.refl h0 []) K43 all0), Qe43, Qs43, Qm43, Qa43, Or.inr ⟨Qc43.1.trans (own_sgx ha hpb hs hc7 hc2 hv_sgx), Qc43.2⟩⟩
        · have hq45 := ((own_nz ha hc7).2.resolve_left hc37)
          obtain ⟨x0, x1, Vc45⟩ := own_conc2 (own_reZ hq45 V_ob0_mag)
          have hq46 := ((own_nz hpb hc2).2.resolve_left hc27)
          obtain ⟨y0, y1, Vc46⟩ := own_conc2 (own_reZ hq46 V_ob1_mag)
          obtain ⟨T47, X47, e47, st47⟩ := getF X35 hx hZ hown (host := "") (Or.inl (own_w hw 87 rfl)) Via.refl e35 F_ob0_mag (g := (mkF m 136 #[oa ob0, oa ob1, oi (0 : Int32), oi (0 : Int32), oi (0 : Int32), oi (2 : Int32), oi (2 : Int32), oi sgx, vU] [(.ref ob0)])) rfl rfl (hb hby d11_136)
          obtain ⟨T48, X48, e48, st48⟩ := getF X47 hx hZ hown (host := "") (Or.inl (own_w hw 87 rfl)) Via.refl e47 F_ob1_mag (g := (mkF m 142 #[oa ob0, oa ob1, oi (0 : Int32), oi (0 : Int32), oi (0 : Int32), oi (2 : Int32), oi (2 : Int32), oi sgx, vU] [(.ref ob1), (.int (2 : Int32)), (.ref ob0_mag)])) rfl rfl (hb hby d11_142)
          obtain ⟨_, _, ⟨T49, L49, k49, n49⟩, -, X49, ⟨Lc49, hQ49, l49, y49, z49⟩, st49⟩ := Jvm.LawKit.callS X48 hx (y := own_y20) hown (mvT hZ (own_w hw 181 rfl)) (mvT hZ (own_w hw 182 rfl)) (mvT hZ (own_w hw 52 rfl)) (mvT hZ (own_w hw 183 rfl)) (by decide) (backOf (W := 0) (rmA23 l Z a0 hw [] ob0_mag k_ob0_mag (x0) (x1) ob1_mag k_ob1_mag (y0) (y1)  zr zm ps ng zk h0 n0 O0 G0 Vc45 Vc46  ) hZ (own_w hw 183 rfl) (own_w hw 52 rfl) (by decide) (by decide)) (g := (mkF m 148 #[oa ob0, oa ob1, oi (0 : Int32), oi (0 : Int32), oi (0 : Int32), oi (2 : Int32), oi (2 : Int32), oi sgx, vU] [.null, (.int (2 : Int32)), (.ref ob1_mag), (.int (2 : Int32)), (.ref ob0_mag)])) rfl (by rw [hml]; rfl) (argsL := [(.ref ob0_mag), (.int (2 : Int32)), (.ref ob1_mag), (.int (2 : Int32)), .null]) (rest := []) (lenOf own_pd15 rfl) rfl (own_W0 rfl) (hb hby d11_148) (fun _ _ => ⟨rfl, e48, (by decide : 0 + 1 ≤ _), (by decide : 0 + 4 ≤ _)⟩)
          dsimp only [Pt.U, Pt.locs, Pt.cells, Pt.slots] at X49 l49 y49 z49 st49 hQ49
          subst l49 y49 z49
          obtain ⟨rb49, rk49, rl49, rfl, Nq49, K49, hb49, Va49⟩ := hQ49
          have N49 := Fr.app N0 Nq49
          have sz_rb49 : h0.size ≤ rb49 := hb49
          have gz_rb49 : n0 ≤ rb49 := Nat.le_trans Z0 sz_rb49
          have ne_ob0_rb49 : ob0 ≠ rb49 := Nat.ne_of_lt (Nat.lt_of_lt_of_le E_ob0.lt hb49)
          have ne_ob0_mag_rb49 : ob0_mag ≠ rb49 := Nat.ne_of_lt (Nat.lt_of_lt_of_le Vc45.lt hb49)
          have ne_ob1_rb49 : ob1 ≠ rb49 := Nat.ne_of_lt (Nat.lt_of_lt_of_le E_ob1.lt hb49)
          have ne_ob1_mag_rb49 : ob1_mag ≠ rb49 := Nat.ne_of_lt (Nat.lt_of_lt_of_le Vc46.lt hb49)
          have o50 : Old Z n0 T49.heap := (Old.keep O0 K49 all0)
          obtain ⟨_, _, ⟨T51, L51, k51, n51⟩, -, X51, ⟨Lc51, hQ51, l51, y51, z51⟩, st51⟩ := Jvm.LawKit.callS X49 hx (y := own_y24) hown (mvT hZ (own_w hw 193 rfl)) (mvT hZ (own_w hw 194 rfl)) (mvT hZ (own_w hw 52 rfl)) (mvT hZ (own_w hw 195 rfl)) (by decide) (backOf (W := 0) (rmA27 l Z a0 hw [] rb49 rk49 rl49  zr zm ps ng zk T49.heap n0 o50 G0 Va49  ) hZ (own_w hw 195 rfl) (own_w hw 52 rfl) (by decide) (by decide)) (g := (mkF m 155 #[oa ob0, oa ob1, oi (0 : Int32), oi (0 : Int32), oi (0 : Int32), oi (2 : Int32), oi (2 : Int32), oi sgx, oa rb49] [(.ref rb49)])) rfl (by rw [hml]; rfl) (argsL := [(.ref rb49)]) (rest := []) (lenOf own_pd16 rfl) rfl (own_W0 rfl) (hb hby d11_155) (fun _ _ => ⟨rfl, rfl, (by decide : 1 + 1 ≤ _), (by decide : 4 + 4 ≤ _)⟩)
          dsimp only [Pt.U, Pt.locs, Pt.cells, Pt.slots] at X51 l51 y51 z51 st51 hQ51
          subst l51 y51 z51
          obtain ⟨rb51, rk51, rz51, rl51, rfl, Nq51, K51, Va51, Qc51⟩ := hQ51
          have N51 := Fr.app N49 Nq51
          have g52 : ∀ t, FS p e below T51 m 160 #[oa ob0, oa ob1, oi (0 : Int32), oi (0 : Int32), oi (0 : Int32), oi (2 : Int32), oi (2 : Int32), oi sgx, oa rb51] [] t → ES p e below s₁ m #[(.ref ob0), (.ref ob1), (.int (0 : Int32)), (.int (0 : Int32)), (.int (0 : Int32))] 9 t := by
            intro t k
            refine g38 t ?_
            show FS p e below T35 m 116 #[oa ob0, oa ob1, oi (0 : Int32), oi (0 : Int32), oi (0 : Int32), oi ob0_mag_z, oi ob1_mag_z, oi sgx, vU] [(.int (1 : Int32)), (.int ob0_mag_z)] _
            refine XS.icmpYes X35.here hx rfl (pc0 := 116) (pc' := 135) rfl (hb hby d11_116) rfl (feq hc37).2 (by decide) (by decide) ?_
            show FS p e below T35 m 135 #[oa ob0, oa ob1, oi (0 : Int32), oi (0 : Int32), oi (0 : Int32), oi ob0_mag_z, oi ob1_mag_z, oi sgx, vU] [] _
            rw [hq45]
            show FS p e below T35 m 135 #[oa ob0, oa ob1, oi (0 : Int32), oi (0 : Int32), oi (0 : Int32), oi (2 : Int32), oi ob1_mag_z, oi sgx, vU] [] _
            rw [hq46]
            refine XS.aloadN X35.here hx rfl (hb hby d11_135) rfl rfl ?_
            refine st47 _ ?_
            refine XS.iload X47.here hx rfl (hb hby d11_139) rfl ?_
            refine XS.aloadN X47.here hx rfl (hb hby d11_141) rfl rfl ?_
            refine st48 _ ?_
            refine XS.iload X48.here hx rfl (hb hby d11_145) rfl ?_
            refine XS.aconstNull X48.here hx rfl (hb hby d11_147) ?_
            refine st49 _ ?_
            refine XS.astore X49.here hx rfl (hb hby d11_151) rfl rfl (l' := #[oa ob0, oa ob1, oi (0 : Int32), oi (0 : Int32), oi (0 : Int32), oi (2 : Int32), oi (2 : Int32), oi sgx, oa rb49]) rfl ?_
            refine XS.aload X49.here hx rfl (hb hby d11_153) rfl rfl ?_
            refine st51 _ ?_
            refine XS.astore X51.here hx rfl (hb hby d11_158) rfl rfl (l' := #[oa ob0, oa ob1, oi (0 : Int32), oi (0 : Int32), oi (0 : Int32), oi (2 : Int32), oi (2 : Int32), oi sgx, oa rb51]) rfl ?_
            exact k
          rcases Qc51 with hq53 | hq53
          · have Vz53 := own_reZ hq53 Va51
            obtain ⟨T54, h54, X54, e54, E54, A54, D54, -, st54⟩ := newO X51 hx hZ hown (own_w hw 71 rfl) (own_w hw 72 rfl) (own_w hw 52 rfl) rfl (g := (mkF m 160 #[oa ob0, oa ob1, oi (0 : Int32), oi (0 : Int32), oi (0 : Int32), oi (2 : Int32), oi (2 : Int32), oi sgx, oa rb51] [])) rfl (hb hby d11_160) (by decide) (by decide)
            obtain ⟨b54, q_b54⟩ : ∃ z, z = T51.heap.size := ⟨_, rfl⟩
            rw [← q_b54] at A54 D54 st54
            have sz_b54 : h0.size ≤ b54 := Nat.le_trans (Nat.le_trans K49.1 K51.1) (Nat.le_of_eq q_b54.symm)
            have gz_b54 : n0 ≤ b54 := Nat.le_trans Z0 sz_b54
            have f55 := ((E_ob0.keep K49).keep K51)
            have ne_ob0_b54 : ob0 ≠ b54 := Nat.ne_of_lt (Nat.lt_of_lt_of_le f55.lt (Nat.le_of_eq q_b54.symm))
            have f56 := ((Vc45.keep K49 nin0).keep K51 nin0)
            have ne_ob0_mag_b54 : ob0_mag ≠ b54 := Nat.ne_of_lt (Nat.lt_of_lt_of_le f56.lt (Nat.le_of_eq q_b54.symm))
            have f57 := ((E_ob1.keep K49).keep K51)
            have ne_ob1_b54 : ob1 ≠ b54 := Nat.ne_of_lt (Nat.lt_of_lt_of_le f57.lt (Nat.le_of_eq q_b54.symm))
            have f58 := ((Vc46.keep K49 nin0).keep K51 nin0)
            have ne_ob1_mag_b54 : ob1_mag ≠ b54 := Nat.ne_of_lt (Nat.lt_of_lt_of_le f58.lt (Nat.le_of_eq q_b54.symm))
            have f59 := (Va49.keep K51 nin0)
            have ne_rb49_b54 : rb49 ≠ b54 := Nat.ne_of_lt (Nat.lt_of_lt_of_le f59.lt (Nat.le_of_eq q_b54.symm))
            have ne_rb51_b54 : rb51 ≠ b54 := Nat.ne_of_lt (Nat.lt_of_lt_of_le Vz53.lt (Nat.le_of_eq q_b54.symm))
            have F54_signum : Fld Z h54 b54 "java/math/BigInteger" "signum" "I" (.int (0 : Int32)) := D54 (Or.inr (own_w hw 85 rfl)) (ty := .int) (by decide)
            have F54_mag : Fld Z h54 b54 "java/math/BigInteger" "mag" "[I" .null := D54 (Or.inr (own_w hw 88 rfl)) (ty := (.array .int)) (by decide)
            have f60 := (Vz53.ext E54)
            have o61 : Old Z n0 h54 := (Old.ext (Old.keep o50 K51 all0) E54)
            obtain ⟨_, _, ⟨T62, L62, k62, n62⟩, -, X62, ⟨Lc62, hQ62, l62, y62, z62⟩, st62⟩ := X54.specialBack hx (y := own_y15) rfl hown (mvT hZ (own_w hw 127 rfl)) (mvT hZ (own_w hw 128 rfl)) (mvT hZ (own_w hw 129 rfl)) (by decide) (backOf (W := 1) (rmA28 l Z a0 hw [] b54 rb51 rk51 rl51 (sgx)  zr zm ps ng zk h54 n0 o61 G0 A54 F54_mag F54_signum f60 gz_b54 ) hZ (own_w hw 129 rfl) (own_w hw 52 rfl) (by decide) (by decide)) (g := (mkF m 168 #[oa ob0, oa ob1, oi (0 : Int32), oi (0 : Int32), oi (0 : Int32), oi (2 : Int32), oi (2 : Int32), oi sgx, oa rb51] [(.int sgx), (.ref rb51), (.ref b54), (.ref b54)])) rfl (by rw [hml]; rfl) (Steps.refl _) (a := b54) (argsL := [(.ref rb51), (.int sgx)]) (rest := [(.ref b54)]) (lenOf own_pd9 rfl) rfl (own_W0 rfl) (hb hby d11_168) (fun _ _ => ⟨rfl, e54, (by decide : 3 + 0 ≤ _), (by decide : 14 + 0 ≤ _)⟩)
            dsimp only [Pt.U, Pt.locs, Pt.cells, Pt.slots] at X62 l62 y62 z62 st62 hQ62
            subst l62 y62 z62
            obtain ⟨rfl, Nq62, K62, Qe62, Qs62, Qm62⟩ := hQ62
            have N62 := Fr.app N51 Nq62
            have g63 : ∀ t, FS p e below T62 m 171 #[oa ob0, oa ob1, oi (0 : Int32), oi (0 : Int32), oi (0 : Int32), oi (2 : Int32), oi (2 : Int32), oi sgx, oa rb51] [(.ref b54)] t → ES p e below s₁ m #[(.ref ob0), (.ref ob1), (.int (0 : Int32)), (.int (0 : Int32)), (.int (0 : Int32))] 9 t := by
              intro t k
              refine g52 t ?_
              show FS p e below T51 m 160 #[oa ob0, oa ob1, oi (0 : Int32), oi (0 : Int32), oi (0 : Int32), oi (2 : Int32), oi (2 : Int32), oi sgx, oa rb51] [] _
              refine st54 _ ?_
              refine XS.dup X54.here hx rfl (hb hby d11_163) rfl rfl ?_
              refine XS.aload X54.here hx rfl (hb hby d11_164) rfl rfl ?_
              refine XS.iload X54.here hx rfl (hb hby d11_166) rfl ?_
              refine st62.trans ?_
              exact k
            obtain ⟨fs, hrt, hrun, hended, hW, hsame⟩ := X62.leave (v := some (.ref b54)) (fun h => by rw [Bd.returns] at h; cases h)
            have f64 := (f60.keep K62 (ninS ne_rb51_b54 nin0))
            refine ⟨_, _, g63 _ ?_, hrun, hended, _, _, rfl, ?_, ⟨_, rfl⟩, hW, hsame.mono (by decide) (by decide)⟩
            · show Steps p.tables e below (T62.setTop (mkF m 171 #[oa ob0, oa ob1, oi (0 : Int32), oi (0 : Int32), oi (0 : Int32), oi (2 : Int32), oi (2 : Int32), oi sgx, oa rb51] [(.ref b54)])) _
              jvm_step X62.here [X62.here.top, hx, (hb hby d11_171), X62.method', Bd.returns, Value.isRef, FieldType.isReference]
              first | (intro acts; rw [hrt _ acts rfl rfl rfl]) | rw [hrt _ _ rfl rfl rfl]
              exact Steps.refl _
            · show own_Q_rmA7 Z ob0 ob0_mag k_ob0_mag ob0_mag_z ob0_mag_l ob0_signum ob1 ob1_mag k_ob1_mag ob1_mag_z ob1_mag_l ob1_signum sn zr zm ps ng zk h0 n0 _ T62.heap _
              exact ⟨b54, rb51, _, _, _, _, rfl, N62, (Keep.trans (Keep.ext (Keep.trans (Keep.trans (Keep.refl h0 []) K49 all0) K51 all0) E54) K62 (allS (Or.inr sz_b54) all0)), Qe62, Qs62, Qm62, f64, Or.inl rfl⟩
          · skip
            obtain ⟨T65, h65, X65, e65, E65, A65, D65, -, st65⟩ := newO X51 hx hZ hown (own_w hw 71 rfl) (own_w hw 72 rfl) (own_w hw 52 rfl) rfl (g := (mkF m 160 #[oa ob0, oa ob1, oi (0 : Int32), oi (0 : Int32), oi (0 : Int32), oi (2 : Int32), oi (2 : Int32), oi sgx, oa rb51] [])) rfl (hb hby d11_160) (by decide) (by decide)
            obtain ⟨b65, q_b65⟩ : ∃ z, z = T51.heap.size := ⟨_, rfl⟩
            rw [← q_b65] at A65 D65 st65
            have sz_b65 : h0.size ≤ b65 := Nat.le_trans (Nat.le_trans K49.1 K51.1) (Nat.le_of_eq q_b65.symm)
            have gz_b65 : n0 ≤ b65 := Nat.le_trans Z0 sz_b65
            have f66 := ((E_ob0.keep K49).keep K51)
            have ne_ob0_b65 : ob0 ≠ b65 := Nat.ne_of_lt (Nat.lt_of_lt_of_le f66.lt (Nat.le_of_eq q_b65.symm))
            have f67 := ((Vc45.keep K49 nin0).keep K51 nin0)
            have ne_ob0_mag_b65 : ob0_mag ≠ b65 := Nat.ne_of_lt (Nat.lt_of_lt_of_le f67.lt (Nat.le_of_eq q_b65.symm))
            have f68 := ((E_ob1.keep K49).keep K51)
            have ne_ob1_b65 : ob1 ≠ b65 := Nat.ne_of_lt (Nat.lt_of_lt_of_le f68.lt (Nat.le_of_eq q_b65.symm))
            have f69 := ((Vc46.keep K49 nin0).keep K51 nin0)
            have ne_ob1_mag_b65 : ob1_mag ≠ b65 := Nat.ne_of_lt (Nat.lt_of_lt_of_le f69.lt (Nat.le_of_eq q_b65.symm))
            have f70 := (Va49.keep K51 nin0)
            have ne_rb49_b65 : rb49 ≠ b65 := Nat.ne_of_lt (Nat.lt_of_lt_of_le f70.lt (Nat.le_of_eq q_b65.symm))
            have ne_rb51_b65 : rb51 ≠ b65 := Nat.ne_of_lt (Nat.lt_of_lt_of_le Va51.lt (Nat.le_of_eq q_b65.symm))
            have F65_signum : Fld Z h65 b65 "java/math/BigInteger" "signum" "I" (.int (0 : Int32)) := D65 (Or.inr (own_w hw 85 rfl)) (ty := .int) (by decide)
            have F65_mag : Fld Z h65 b65 "java/math/BigInteger" "mag" "[I" .null := D65 (Or.inr (own_w hw 88 rfl)) (ty := (.array .int)) (by decide)
            have f71 := (Va51.ext E65)
            have o72 : Old Z n0 h65 := (Old.ext (Old.keep o50 K51 all0) E65)
            obtain ⟨_, _, ⟨T73, L73, k73, n73⟩, -, X73, ⟨Lc73, hQ73, l73, y73, z73⟩, st73⟩ := X65.specialBack hx (y := own_y15) rfl hown (mvT hZ (own_w hw 127 rfl)) (mvT hZ (own_w hw 128 rfl)) (mvT hZ (own_w hw 129 rfl)) (by decide) (backOf (W := 1) (rmA18 l Z a0 hw [] b65 rb51 rk51 (rz51) rl51 (sgx)  zr zm ps ng zk h65 n0 o72 G0 A65 F65_mag F65_signum f71 gz_b65 (own_z4 hq53).1 (own_z4 hq53).2) hZ (own_w hw 129 rfl) (own_w hw 52 rfl) (by decide) (by decide)) (g := (mkF m 168 #[oa ob0, oa ob1, oi (0 : Int32), oi (0 : Int32), oi (0 : Int32), oi (2 : Int32), oi (2 : Int32), oi sgx, oa rb51] [(.int sgx), (.ref rb51), (.ref b65), (.ref b65)])) rfl (by rw [hml]; rfl) (Steps.refl _) (a := b65) (argsL := [(.ref rb51), (.int sgx)]) (rest := [(.ref b65)]) (lenOf own_pd9 rfl) rfl (own_W0 rfl) (hb hby d11_168) (fun _ _ => ⟨rfl, e65, (by decide : 3 + 0 ≤ _), (by decide : 14 + 0 ≤ _)⟩)
            dsimp only [Pt.U, Pt.locs, Pt.cells, Pt.slots] at X73 l73 y73 z73 st73 hQ73
            subst l73 y73 z73
            obtain ⟨rfl, Nq73, K73, Qe73, Qs73, Qm73⟩ := hQ73
            have N73 := Fr.app N51 Nq73
            have g74 : ∀ t, FS p e below T73 m 171 #[oa ob0, oa ob1, oi (0 : Int32), oi (0 : Int32), oi (0 : Int32), oi (2 : Int32), oi (2 : Int32), oi sgx, oa rb51] [(.ref b65)] t → ES p e below s₁ m #[(.ref ob0), (.ref ob1), (.int (0 : Int32)), (.int (0 : Int32)), (.int (0 : Int32))] 9 t := by
              intro t k
              refine g52 t ?_
              show FS p e below T51 m 160 #[oa ob0, oa ob1, oi (0 : Int32), oi (0 : Int32), oi (0 : Int32), oi (2 : Int32), oi (2 : Int32), oi sgx, oa rb51] [] _
              refine st65 _ ?_
              refine XS.dup X65.here hx rfl (hb hby d11_163) rfl rfl ?_
              refine XS.aload X65.here hx rfl (hb hby d11_164) rfl rfl ?_
              refine XS.iload X65.here hx rfl (hb hby d11_166) rfl ?_
              refine st73.trans ?_
              exact k
            obtain ⟨fs, hrt, hrun, hended, hW, hsame⟩ := X73.leave (v := some (.ref b65)) (fun h => by rw [Bd.returns] at h; cases h)
            have f75 := (f71.keep K73 (ninS ne_rb51_b65 nin0))
            refine ⟨_, _, g74 _ ?_, hrun, hended, _, _, rfl, ?_, ⟨_, rfl⟩, hW, hsame.mono (by decide) (by decide)⟩
            · show Steps p.tables e below (T73.setTop (mkF m 171 #[oa ob0, oa ob1, oi (0 : Int32), oi (0 : Int32), oi (0 : Int32), oi (2 : Int32), oi (2 : Int32), oi sgx, oa rb51] [(.ref b65)])) _
              jvm_step X73.here [X73.here.top, hx, (hb hby d11_171), X73.method', Bd.returns, Value.isRef, FieldType.isReference]
              first | (intro acts; rw [hrt _ acts rfl rfl rfl]) | rw [hrt _ _ rfl rfl rfl]
              exact Steps.refl _
            · show own_Q_rmA7 Z ob0 ob0_mag k_ob0_mag ob0_mag_z ob0_mag_l ob0_signum ob1 ob1_mag k_ob1_mag ob1_mag_z ob1_mag_l ob1_signum sn zr zm ps ng zk h0 n0 _ T73.heap _
              exact ⟨b65, rb51, _, _, _, _, rfl, N73, (Keep.trans (Keep.ext (Keep.trans (Keep.trans (Keep.refl h0 []) K49 all0) K51 all0) E65) K73 (allS (Or.inr sz_b65) all0)), Qe73, Qs73, Qm73, f75, Or.inr ⟨(own_sgx ha hpb hs hc7 hc2 hv_sgx), hq53⟩⟩
theorem own_pd17 : parseMethodDescriptor "(Ljava/math/BigInteger;ZZI)Ljava/math/BigInteger;" = some ⟨[(.object "java/math/BigInteger"), .boolean, .boolean, .int], some (.object "java/math/BigInteger")⟩ := by decide +kernel
theorem d10_8 : decode q10 8 = .ok (.areturn, 1) := by decide +kernel
def own_Q_rmA6 (Z : State) (ob0 : Addr) (ob0_mag : Addr) (k_ob0_mag : ClassId) (ob0_mag_z : Int32) (ob0_mag_l : List Value) (ob0_signum : Int32) (ob1 : Addr) (ob1_mag : Addr) (k_ob1_mag : ClassId) (ob1_mag_z : Int32) (ob1_mag_l : List Value) (ob1_signum : Int32) (sn : Int32) (zr zm ps ng : Addr) (zk : ClassId) (h0 : Heap) (n0 : Nat) (v : Option Value) (h : Heap) (L : List Loc) : Prop := ∃ (rb rm : Addr) (rk : ClassId) (rz rs : Int32) (rl : List Value), v = some (.ref rb) ∧ Fr n0 L ∧ Keep h0 h [] ∧ Exa Z h rb "java/math/BigInteger" ∧ Fld Z h rb "java/math/BigInteger" "signum" "I" (.int rs) ∧ Fld Z h rb "java/math/BigInteger" "mag" "[I" (.ref rm) ∧ Arv Z h rm rk .int rz rl (.int (0 : Int32)) ∧ (rs = (0 : Int32) ∨ (rs = sn ∧ (rz = (1 : Int32) ∨ rz = (2 : Int32) ∨ rz = (3 : Int32) ∨ rz = (4 : Int32))))
theorem rmA6 (l : Launch) (Z : State) (a0 : Array Value) (hw : ∀ d ∈ tables_1, d.before a0 Z = true) (ws : List Jvm.Cond) (ob0 : Addr) (ob0_mag : Addr) (k_ob0_mag : ClassId) (ob0_mag_z : Int32) (ob0_mag_l : List Value) (ob0_signum : Int32) (ob1 : Addr) (ob1_mag : Addr) (k_ob1_mag : ClassId) (ob1_mag_z : Int32) (ob1_mag_l : List Value) (ob1_signum : Int32) (sn : Int32) (zr zm ps ng : Addr) (zk : ClassId) (h0 : Heap) (n0 : Nat) (O0 : Old Z n0 h0) (G : own_Gl Z zr zm ps ng zk) (E_ob0 : Exa Z h0 ob0 "java/math/BigInteger") (V_ob0_mag : Arv Z h0 ob0_mag k_ob0_mag .int ob0_mag_z ob0_mag_l (.int (0 : Int32))) (F_ob0_mag : Fld Z h0 ob0 "java/math/BigInteger" "mag" "[I" (.ref ob0_mag)) (F_ob0_signum : Fld Z h0 ob0 "java/math/BigInteger" "signum" "I" (.int ob0_signum)) (E_ob1 : Exa Z h0 ob1 "java/math/BigInteger") (V_ob1_mag : Arv Z h0 ob1_mag k_ob1_mag .int ob1_mag_z ob1_mag_l (.int (0 : Int32))) (F_ob1_mag : Fld Z h0 ob1 "java/math/BigInteger" "mag" "[I" (.ref ob1_mag)) (F_ob1_signum : Fld Z h0 ob1 "java/math/BigInteger" "signum" "I" (.int ob1_signum)) (ha : (ob0_signum = (0 : Int32) ∨ (ob0_signum = (1 : Int32) ∧ (ob0_mag_z = (1 : Int32) ∨ ob0_mag_z = (2 : Int32))))) (hpb : (ob1_signum = (0 : Int32) ∨ (ob1_signum = sn ∧ (ob1_mag_z = (1 : Int32) ∨ ob1_mag_z = (2 : Int32))))) (hs : sn = (1 : Int32) ∨ sn = (-1 : Int32)) :
    MetFree l own_y6 (head1 (Jvm.Cond.code own_y6 jdk_2097_method_40_code 2 (some (.object "java/math/BigInteger")) :: ws) ({ frames := 5, cells := 3, slots := 14, locals := 125 } : Room)) (fun a U => a = #[(.ref ob0), (.ref ob1)] ∧ Z.Warmed39 U.vm ∧ U.heap = h0) (fun _ _ _ _ _ => True) (fun _ U o U' => ∃ v L, o = .returned v ∧ own_Q_rmA6 Z ob0 ob0_mag k_ob0_mag ob0_mag_z ob0_mag_l ob0_signum ob1 ob1_mag k_ob1_mag ob1_mag_z ob1_mag_l ob1_signum sn zr zm ps ng zk h0 n0 v U'.heap L ∧ FrameEnd U o U' L ({ frames := 5, cells := 3, slots := 14, locals := 125 } : Room).cells ({ frames := 5, cells := 3, slots := 14, locals := 125 } : Room).slots) := by
  refine MetFree.of_bodySF (plainFor_of_name own_pn1) hisR ?_
  intro p e s m args below meth c s₁ Bd hml0 hP hK
  obtain ⟨rfl, hZ, hh⟩ := hP
  have hx := Bd.exec
  have hby := Bd.bytes
  have hml : c.maxLocals = 2 := hml0
  have hown : s.vm.findClass "java/math/BigInteger" = some m.cls := findClass_of_methodNamed Bd.named
  have hnm := (name_of_methodNamed Bd.named Bd.method).1
  have X0 : Stand p l e ({ frames := 5, cells := 3, slots := 14, locals := 125 } : Room) s m #[(.ref ob0), (.ref ob1)] below meth c s₁ [] 0 0 := Stand.of_body Bd
  have e0 : s₁.heap = h0 := by rw [← hh, Bd.state]; rfl
  have N0 := Fr.nil n0
  have Z0 : n0 ≤ h0.size := O0.1 ▸ O0.2.1
  have g0 : ∀ t, FS p e below s₁ m 0 #[oa ob0, oa ob1] [] t → ES p e below s₁ m #[(.ref ob0), (.ref ob1)] 2 t := fun t k => castTop (own_ef7 m (ob0) (ob1)) k
  have G0 := G
  obtain ⟨S_Z, E_Z, F_Zs, F_Zm, V_Z, S_P, P_P, S_N, P_N⟩ := G
  obtain ⟨cq1, q1, q1'⟩ := E_ob0.cell
  obtain ⟨_, _, ⟨T1, L1, k1, n1⟩, -, X1, ⟨Lc1, hQ1, l1, y1, z1⟩, st1⟩ := X0.privateBack hx (y := own_y7) hown (mvT hZ (own_w hw 94 rfl)) (mvT hZ (own_w hw 95 rfl)) (mvT hZ (own_w hw 97 rfl)) (Cond.privateMethod_at (mvP hZ (own_w hw 96 rfl) (args := #[]))) (mvT hZ (own_w hw 98 rfl)) (by decide) (backOf (W := 0) (rmA7 l Z a0 hw [] ob0 ob0_mag k_ob0_mag (ob0_mag_z) ob0_mag_l (ob0_signum) ob1 ob1_mag k_ob1_mag (ob1_mag_z) ob1_mag_l (ob1_signum) sn zr zm ps ng zk h0 n0 O0 G0 E_ob0 V_ob0_mag F_ob0_mag F_ob0_signum E_ob1 V_ob1_mag F_ob1_mag F_ob1_signum  ha hpb hs) hZ (own_w hw 98 rfl) (own_w hw 52 rfl) (by decide) (by decide)) (g := (mkF m 5 #[oa ob0, oa ob1] [(.int (0 : Int32)), (.int (0 : Int32)), (.int (0 : Int32)), (.ref ob1), (.ref ob0)])) rfl (by rw [hml]; rfl) (Steps.refl _) (a := ob0) (by rw [e0]; exact q1) q1' (argsL := [(.ref ob1), (.int (0 : Int32)), (.int (0 : Int32)), (.int (0 : Int32))]) (rest := []) (lenOf own_pd17 rfl) rfl (own_W0 rfl) (hb hby d10_5) (fun _ _ => ⟨rfl, e0, (by decide : 0 + 3 ≤ _), (by decide : 0 + 14 ≤ _)⟩)
  dsimp only [Pt.U, Pt.locs, Pt.cells, Pt.slots] at X1 l1 y1 z1 st1 hQ1
  subst l1 y1 z1
  obtain ⟨rb1, rm1, rk1, rz1, rs1, rl1, rfl, Nq1, K1, Qe1, Qs1, Qm1, Qa1, Qc1⟩ := hQ1
  have N1 := Fr.app N0 Nq1
  have g2 : ∀ t, FS p e below T1 m 8 #[oa ob0, oa ob1] [(.ref rb1)] t → ES p e below s₁ m #[(.ref ob0), (.ref ob1)] 2 t := by
    intro t k
    refine g0 t ?_
    show FS p e below s₁ m 0 #[oa ob0, oa ob1] [] _
    refine XS.aloadN X0.here hx rfl (hb hby d10_0) rfl rfl ?_
    refine XS.aloadN X0.here hx rfl (hb hby d10_1) rfl rfl ?_
    refine XS.iconst X0.here hx rfl (hb hby d10_2) ?_
    refine XS.iconst X0.here hx rfl (hb hby d10_3) ?_
    refine XS.iconst X0.here hx rfl (hb hby d10_4) ?_
    refine st1.trans ?_
    exact k
  obtain ⟨fs, hrt, hrun, hended, hW, hsame⟩ := X1.leave (v := some (.ref rb1)) (fun h => by rw [Bd.returns] at h; cases h)
  refine ⟨_, _, g2 _ ?_, hrun, hended, _, _, rfl, ?_, ⟨_, rfl⟩, hW, hsame.mono (by decide) (by decide)⟩
  · show Steps p.tables e below (T1.setTop (mkF m 8 #[oa ob0, oa ob1] [(.ref rb1)])) _
    jvm_step X1.here [X1.here.top, hx, (hb hby d10_8), X1.method', Bd.returns, Value.isRef, FieldType.isReference]
    first | (intro acts; rw [hrt _ acts rfl rfl rfl]) | rw [hrt _ _ rfl rfl rfl]
    exact Steps.refl _
  · show own_Q_rmA6 Z ob0 ob0_mag k_ob0_mag ob0_mag_z ob0_mag_l ob0_signum ob1 ob1_mag k_ob1_mag ob1_mag_z ob1_mag_l ob1_signum sn zr zm ps ng zk h0 n0 _ T1.heap _
    exact ⟨rb1, rm1, _, _, _, _, rfl, N1, (Keep.trans (Keep.refl h0 []) K1 all0), Qe1, Qs1, Qm1, Qa1, Qc1⟩
theorem own_pd18 : parseMethodDescriptor "(Ljava/math/BigInteger;)Ljava/math/BigInteger;" = some ⟨[(.object "java/math/BigInteger")], some (.object "java/math/BigInteger")⟩ := by decide +kernel
theorem d6_26 : decode q6 26 = .ok (.invokevirtual 50, 3) := by decide +kernel
abbrev own_y25 : MethodName := ⟨"java/math/BigInteger", "add", "(Ljava/math/BigInteger;)Ljava/math/BigInteger;"⟩
theorem own_ef30 (m : MethodId) (x0 : Addr) (x1 : Addr) : entryFrame m #[(.ref x0), (.ref x1)] 4 = mkF m 0 #[oa x0, oa x1, vU, vU] [] := by first | (simp [entryFrame, mkF, argsToLocals, Value.category]; done) | rfl
theorem d20_0 : decode q20 0 = .ok (.aload_n 1, 1) := by decide +kernel
theorem d20_1 : decode q20 1 = .ok (.getfield 32, 3) := by decide +kernel
theorem d20_4 : decode q20 4 = .ok (.ifCond .ne 5, 3) := by decide +kernel
theorem d20_7 : decode q20 7 = .ok (.aload_n 0, 1) := by decide +kernel
theorem d20_8 : decode q20 8 = .ok (.areturn, 1) := by decide +kernel
theorem d20_9 : decode q20 9 = .ok (.aload_n 0, 1) := by decide +kernel
theorem d20_10 : decode q20 10 = .ok (.getfield 32, 3) := by decide +kernel
theorem d20_13 : decode q20 13 = .ok (.ifCond .ne 5, 3) := by decide +kernel
theorem d20_16 : decode q20 16 = .ok (.aload_n 1, 1) := by decide +kernel
theorem d20_17 : decode q20 17 = .ok (.areturn, 1) := by decide +kernel
theorem d20_18 : decode q20 18 = .ok (.aload_n 1, 1) := by decide +kernel
theorem d20_19 : decode q20 19 = .ok (.getfield 32, 3) := by decide +kernel
theorem d20_22 : decode q20 22 = .ok (.aload_n 0, 1) := by decide +kernel
theorem d20_23 : decode q20 23 = .ok (.getfield 32, 3) := by decide +kernel
theorem d20_26 : decode q20 26 = .ok (.if_icmp .ne 26, 3) := by decide +kernel
theorem d20_29 : decode q20 29 = .ok (.new 23, 3) := by decide +kernel
theorem d20_32 : decode q20 32 = .ok (.dup, 1) := by decide +kernel
theorem d20_33 : decode q20 33 = .ok (.aload_n 0, 1) := by decide +kernel
theorem d20_34 : decode q20 34 = .ok (.getfield 28, 3) := by decide +kernel
theorem d20_37 : decode q20 37 = .ok (.aload_n 1, 1) := by decide +kernel
theorem d20_38 : decode q20 38 = .ok (.getfield 28, 3) := by decide +kernel
theorem d20_41 : decode q20 41 = .ok (.invokestatic 362, 3) := by decide +kernel
abbrev own_y26 : MethodName := ⟨"java/math/BigInteger", "add", "([I[I)[I"⟩
theorem own_ef31 (m : MethodId) (x0 : Addr) (x1 : Addr) : entryFrame m #[(.ref x0), (.ref x1)] 9 = mkF m 0 #[oa x0, oa x1, vU, vU, vU, vU, vU, vU, vU] [] := by first | (simp [entryFrame, mkF, argsToLocals, Value.category]; done) | rfl
theorem d28_0 : decode q28 0 = .ok (.aload_n 0, 1) := by decide +kernel
theorem d28_1 : decode q28 1 = .ok (.arraylength, 1) := by decide +kernel
theorem d28_2 : decode q28 2 = .ok (.aload_n 1, 1) := by decide +kernel
theorem d28_3 : decode q28 3 = .ok (.arraylength, 1) := by decide +kernel
theorem d28_4 : decode q28 4 = .ok (.if_icmp .ge 9, 3) := by decide +kernel
theorem d28_7 : decode q28 7 = .ok (.aload_n 0, 1) := by decide +kernel
theorem d28_8 : decode q28 8 = .ok (.astore_n 2, 1) := by decide +kernel
theorem d28_9 : decode q28 9 = .ok (.aload_n 1, 1) := by decide +kernel
theorem d28_10 : decode q28 10 = .ok (.astore_n 0, 1) := by decide +kernel
theorem d28_11 : decode q28 11 = .ok (.aload_n 2, 1) := by decide +kernel
theorem d28_12 : decode q28 12 = .ok (.astore_n 1, 1) := by decide +kernel
theorem d28_13 : decode q28 13 = .ok (.aload_n 0, 1) := by decide +kernel
theorem d28_14 : decode q28 14 = .ok (.arraylength, 1) := by decide +kernel
theorem d28_15 : decode q28 15 = .ok (.istore_n 2, 1) := by decide +kernel
theorem d28_16 : decode q28 16 = .ok (.aload_n 1, 1) := by decide +kernel
theorem d28_17 : decode q28 17 = .ok (.arraylength, 1) := by decide +kernel
theorem d28_18 : decode q28 18 = .ok (.istore_n 3, 1) := by decide +kernel
theorem d28_19 : decode q28 19 = .ok (.iload_n 2, 1) := by decide +kernel
theorem d28_20 : decode q28 20 = .ok (.newarray .int, 2) := by decide +kernel
theorem d28_22 : decode q28 22 = .ok (.astore 4, 2) := by decide +kernel
theorem d28_24 : decode q28 24 = .ok (.lconst 0, 1) := by decide +kernel
theorem d28_25 : decode q28 25 = .ok (.lstore 5, 2) := by decide +kernel
theorem d28_27 : decode q28 27 = .ok (.iload_n 3, 1) := by decide +kernel
theorem d28_28 : decode q28 28 = .ok (.iconst 1, 1) := by decide +kernel
theorem d28_29 : decode q28 29 = .ok (.if_icmp .ne 35, 3) := by decide +kernel
theorem d28_32 : decode q28 32 = .ok (.aload_n 0, 1) := by decide +kernel
theorem d28_33 : decode q28 33 = .ok (.iinc 2 (-1), 3) := by decide +kernel
theorem d28_36 : decode q28 36 = .ok (.iload_n 2, 1) := by decide +kernel
theorem d28_37 : decode q28 37 = .ok (.iaload, 1) := by decide +kernel
theorem d28_38 : decode q28 38 = .ok (.i2l, 1) := by decide +kernel
theorem d28_39 : decode q28 39 = .ok (.ldc2_w 130, 3) := by decide +kernel
theorem d28_42 : decode q28 42 = .ok (.land, 1) := by decide +kernel
theorem d28_43 : decode q28 43 = .ok (.aload_n 1, 1) := by decide +kernel
theorem d28_44 : decode q28 44 = .ok (.iconst 0, 1) := by decide +kernel
theorem d28_45 : decode q28 45 = .ok (.iaload, 1) := by decide +kernel
theorem d28_46 : decode q28 46 = .ok (.i2l, 1) := by decide +kernel
theorem d28_47 : decode q28 47 = .ok (.ldc2_w 130, 3) := by decide +kernel
theorem d28_50 : decode q28 50 = .ok (.land, 1) := by decide +kernel
theorem d28_51 : decode q28 51 = .ok (.ladd, 1) := by decide +kernel
theorem d28_52 : decode q28 52 = .ok (.lstore 5, 2) := by decide +kernel
theorem d28_54 : decode q28 54 = .ok (.aload 4, 2) := by decide +kernel
theorem d28_56 : decode q28 56 = .ok (.iload_n 2, 1) := by decide +kernel
theorem d28_57 : decode q28 57 = .ok (.lload 5, 2) := by decide +kernel
theorem d28_59 : decode q28 59 = .ok (.l2i, 1) := by decide +kernel
theorem d28_60 : decode q28 60 = .ok (.iastore, 1) := by decide +kernel
theorem d28_61 : decode q28 61 = .ok (.goto 48, 3) := by decide +kernel
theorem d28_109 : decode q28 109 = .ok (.lload 5, 2) := by decide +kernel
theorem d28_111 : decode q28 111 = .ok (.bipush 32, 2) := by decide +kernel
theorem d28_113 : decode q28 113 = .ok (.lushr, 1) := by decide +kernel
theorem d28_114 : decode q28 114 = .ok (.lconst 0, 1) := by decide +kernel
theorem d28_115 : decode q28 115 = .ok (.lcmp, 1) := by decide +kernel
theorem d28_116 : decode q28 116 = .ok (.ifCond .eq 7, 3) := by decide +kernel
theorem d28_123 : decode q28 123 = .ok (.iconst 0, 1) := by decide +kernel
theorem d28_119 : decode q28 119 = .ok (.iconst 1, 1) := by decide +kernel
theorem d28_120 : decode q28 120 = .ok (.goto 4, 3) := by decide +kernel
theorem d28_124 : decode q28 124 = .ok (.istore 7, 2) := by decide +kernel
theorem d28_178 : decode q28 178 = .ok (.iload 7, 2) := by decide +kernel
theorem d28_180 : decode q28 180 = .ok (.ifCond .eq 32, 3) := by decide +kernel
theorem d28_212 : decode q28 212 = .ok (.aload 4, 2) := by decide +kernel
theorem d28_214 : decode q28 214 = .ok (.areturn, 1) := by decide +kernel
theorem d28_183 : decode q28 183 = .ok (.aload 4, 2) := by decide +kernel
theorem d28_185 : decode q28 185 = .ok (.arraylength, 1) := by decide +kernel
theorem d28_186 : decode q28 186 = .ok (.iconst 1, 1) := by decide +kernel
theorem d28_187 : decode q28 187 = .ok (.iadd, 1) := by decide +kernel
theorem d28_188 : decode q28 188 = .ok (.newarray .int, 2) := by decide +kernel
theorem d28_190 : decode q28 190 = .ok (.astore 8, 2) := by decide +kernel
theorem d28_192 : decode q28 192 = .ok (.aload 4, 2) := by decide +kernel
theorem d28_194 : decode q28 194 = .ok (.iconst 0, 1) := by decide +kernel
theorem d28_195 : decode q28 195 = .ok (.aload 8, 2) := by decide +kernel
theorem d28_197 : decode q28 197 = .ok (.iconst 1, 1) := by decide +kernel
theorem d28_198 : decode q28 198 = .ok (.aload 4, 2) := by decide +kernel
theorem d28_200 : decode q28 200 = .ok (.arraylength, 1) := by decide +kernel
theorem d28_201 : decode q28 201 = .ok (.invokestatic 388, 3) := by decide +kernel
theorem d28_204 : decode q28 204 = .ok (.aload 8, 2) := by decide +kernel
theorem d28_206 : decode q28 206 = .ok (.iconst 0, 1) := by decide +kernel
theorem d28_207 : decode q28 207 = .ok (.iconst 1, 1) := by decide +kernel
theorem d28_208 : decode q28 208 = .ok (.iastore, 1) := by decide +kernel
theorem d28_209 : decode q28 209 = .ok (.aload 8, 2) := by decide +kernel
theorem d28_211 : decode q28 211 = .ok (.areturn, 1) := by decide +kernel
def own_Q_rmA30 (Z : State) (ob0 : Addr) (k_ob0 : ClassId) (ob0_z : Int32) (ob0_l : List Value) (ob1 : Addr) (k_ob1 : ClassId) (ob1_z : Int32) (ob1_l : List Value)  (zr zm ps ng : Addr) (zk : ClassId) (h0 : Heap) (n0 : Nat) (v : Option Value) (h : Heap) (L : List Loc) : Prop := ∃ (rb : Addr) (rk : ClassId) (rz : Int32) (rl : List Value), v = some (.ref rb) ∧ Fr n0 L ∧ Keep h0 h [] ∧ h0.size ≤ rb ∧ Arv Z h rb rk .int rz rl (.int (0 : Int32)) ∧ (¬ (rz = (0 : Int32)) ∧ rz < (67108864 : Int32))
theorem rmA30 (l : Launch) (Z : State) (a0 : Array Value) (hw : ∀ d ∈ tables_1, d.before a0 Z = true) (ws : List Jvm.Cond) (ob0 : Addr) (k_ob0 : ClassId) (ob0_z : Int32) (ob0_l : List Value) (ob1 : Addr) (k_ob1 : ClassId) (ob1_z : Int32) (ob1_l : List Value)  (zr zm ps ng : Addr) (zk : ClassId) (h0 : Heap) (n0 : Nat) (O0 : Old Z n0 h0) (G : own_Gl Z zr zm ps ng zk) (V_ob0 : Arv Z h0 ob0 k_ob0 .int ob0_z ob0_l (.int (0 : Int32))) (V_ob1 : Arv Z h0 ob1 k_ob1 .int ob1_z ob1_l (.int (0 : Int32))) (hz0 : (ob0_z = (1 : Int32) ∨ ob0_z = (2 : Int32) ∨ ob0_z = (3 : Int32) ∨ ob0_z = (4 : Int32))) (hz1 : (ob1_z = (1 : Int32) ∨ ob1_z = (2 : Int32) ∨ ob1_z = (3 : Int32) ∨ ob1_z = (4 : Int32))) :
    MetFree l own_y26 (head1 (Jvm.Cond.code own_y26 jdk_2097_method_35_code 9 (some (.array .int)) :: ws) ({ frames := 1, cells := 2, slots := 9, locals := 51 } : Room)) (fun a U => a = #[(.ref ob0), (.ref ob1)] ∧ Z.Warmed39 U.vm ∧ U.heap = h0) (fun _ _ _ _ _ => True) (fun _ U o U' => ∃ v L, o = .returned v ∧ own_Q_rmA30 Z ob0 k_ob0 ob0_z ob0_l ob1 k_ob1 ob1_z ob1_l zr zm ps ng zk h0 n0 v U'.heap L ∧ FrameEnd U o U' L ({ frames := 1, cells := 2, slots := 9, locals := 51 } : Room).cells ({ frames := 1, cells := 2, slots := 9, locals := 51 } : Room).slots) := by
  refine MetFree.of_bodySF (plainFor_of_name own_pn1) hisR ?_
  intro p e s m args below meth c s₁ Bd hml0 hP hK
  obtain ⟨rfl, hZ, hh⟩ := hP
  have hx := Bd.exec
  have hby := Bd.bytes
  have hml : c.maxLocals = 9 := hml0
  have hown : s.vm.findClass "java/math/BigInteger" = some m.cls := findClass_of_methodNamed Bd.named
  have hnm := (name_of_methodNamed Bd.named Bd.method).1
  have X0 : Stand p l e ({ frames := 1, cells := 2, slots := 9, locals := 51 } : Room) s m #[(.ref ob0), (.ref ob1)] below meth c s₁ [] 0 0 := Stand.of_body Bd
  have e0 : s₁.heap = h0 := by rw [← hh, Bd.state]; rfl
  have N0 := Fr.nil n0
  have Z0 : n0 ≤ h0.size := O0.1 ▸ O0.2.1
  have g0 : ∀ t, FS p e below s₁ m 0 #[oa ob0, oa ob1, vU, vU, vU, vU, vU, vU, vU] [] t → ES p e below s₁ m #[(.ref ob0), (.ref ob1)] 9 t := fun t k => castTop (own_ef31 m (ob0) (ob1)) k
  have G0 := G
  obtain ⟨S_Z, E_Z, F_Zs, F_Zm, V_Z, S_P, P_P, S_N, P_N⟩ := G
  obtain ⟨X, Y, kX, kY, zX, zY, lX, lY, VX, VY, hzX, hzY, hle, gJ⟩ : ∃ (X Y : Addr) (kX kY : ClassId) (zX zY : Int32) (lX lY : List Value), Arv Z h0 X kX .int zX lX (.int (0 : Int32)) ∧ Arv Z h0 Y kY .int zY lY (.int (0 : Int32)) ∧ (zX = (1 : Int32) ∨ zX = (2 : Int32) ∨ zX = (3 : Int32) ∨ zX = (4 : Int32)) ∧ (zY = (1 : Int32) ∨ zY = (2 : Int32) ∨ zY = (3 : Int32) ∨ zY = (4 : Int32)) ∧ zY.toInt ≤ zX.toInt ∧ ∀ t, FS p e below s₁ m 16 #[oa X, oa Y, oi zX, vU, vU, vU, vU, vU, vU] [] t → ES p e below s₁ m #[(.ref ob0), (.ref ob1)] 9 t := by
    obtain ⟨c1, Ar1, cq1, S1, Nn1, Hh1, Gg1⟩ := id V_ob0
    obtain ⟨c2, Ar2, cq2, S2, Nn2, Hh2, Gg2⟩ := id V_ob1
    have g4 : ∀ t, FS p e below s₁ m 4 #[oa ob0, oa ob1, vU, vU, vU, vU, vU, vU, vU] [(.int ob1_z), (.int ob0_z)] t → ES p e below s₁ m #[(.ref ob0), (.ref ob1)] 9 t := by
      intro t k
      refine g0 t ?_
      show FS p e below s₁ m 0 #[oa ob0, oa ob1, vU, vU, vU, vU, vU, vU, vU] [] _
      refine XS.aloadN X0.here hx rfl (hb hby d28_0) rfl rfl ?_
      show FS p e below s₁ m 1 #[oa ob0, oa ob1, vU, vU, vU, vU, vU, vU, vU] [(.ref ob0)] _
      refine X0.arraylength hx (by rw [e0]; exact Ar1.1) (State.isArrayOf_alike hZ.alike Ar1.2.1) (g := (mkF m 1 #[oa ob0, oa ob1, vU, vU, vU, vU, vU, vU, vU] [(.ref ob0)])) rfl rfl (hb hby d28_1) _ ?_
      rw [len_of S1 Nn1]
      refine XS.aloadN X0.here hx rfl (hb hby d28_2) rfl rfl ?_
      show FS p e below s₁ m 3 #[oa ob0, oa ob1, vU, vU, vU, vU, vU, vU, vU] [(.ref ob1), (.int ob0_z)] _
      refine X0.arraylength hx (by rw [e0]; exact Ar2.1) (State.isArrayOf_alike hZ.alike Ar2.2.1) (g := (mkF m 3 #[oa ob0, oa ob1, vU, vU, vU, vU, vU, vU, vU] [(.ref ob1), (.int ob0_z)])) rfl rfl (hb hby d28_3) _ ?_
      rw [len_of S2 Nn2]
      exact k
    by_cases hc3 : ob0_z < ob1_z
    · obtain ⟨c5, Ar5, cq5, S5, Nn5, Hh5, Gg5⟩ := id V_ob1
      have g6 : ∀ t, FS p e below s₁ m 16 #[oa ob1, oa ob0, oi ob1_z, vU, vU, vU, vU, vU, vU] [] t → ES p e below s₁ m #[(.ref ob0), (.ref ob1)] 9 t := by
        intro t k
        refine g4 t ?_
        show FS p e below s₁ m 4 #[oa ob0, oa ob1, vU, vU, vU, vU, vU, vU, vU] [(.int ob1_z), (.int ob0_z)] _
        refine XS.icmpNo X0.here hx rfl (hb hby d28_4) rfl (tlt hc3).2.1 ?_
        refine XS.aloadN X0.here hx rfl (hb hby d28_7) rfl rfl ?_
        refine XS.astoreN X0.here hx rfl (hb hby d28_8) rfl rfl (l' := #[oa ob0, oa ob1, oa ob0, vU, vU, vU, vU, vU, vU]) rfl ?_
        refine XS.aloadN X0.here hx rfl (hb hby d28_9) rfl rfl ?_
        refine XS.astoreN X0.here hx rfl (hb hby d28_10) rfl rfl (l' := #[oa ob1, oa ob1, oa ob0, vU, vU, vU, vU, vU, vU]) rfl ?_
        refine XS.aloadN X0.here hx rfl (hb hby d28_11) rfl rfl ?_
        refine XS.astoreN X0.here hx rfl (hb hby d28_12) rfl rfl (l' := #[oa ob1, oa ob0, oa ob0, vU, vU, vU, vU, vU, vU]) rfl ?_
        refine XS.aloadN X0.here hx rfl (hb hby d28_13) rfl rfl ?_
        show FS p e below s₁ m 14 #[oa ob1, oa ob0, oa ob0, vU, vU, vU, vU, vU, vU] [(.ref ob1)] _
        refine X0.arraylength hx (by rw [e0]; exact Ar5.1) (State.isArrayOf_alike hZ.alike Ar5.2.1) (g := (mkF m 14 #[oa ob1, oa ob0, oa ob0, vU, vU, vU, vU, vU, vU] [(.ref ob1)])) rfl rfl (hb hby d28_14) _ ?_
        rw [len_of S5 Nn5]
        refine XS.istoreN X0.here hx rfl (hb hby d28_15) rfl (l' := #[oa ob1, oa ob0, oi ob1_z, vU, vU, vU, vU, vU, vU]) rfl ?_
        exact k
      exact ⟨ob1, ob0, _, _, _, _, _, _, V_ob1, V_ob0, hz1, hz0, own_le1 hc3, g6⟩
    · obtain ⟨c7, Ar7, cq7, S7, Nn7, Hh7, Gg7⟩ := id V_ob0
      have g8 : ∀ t, FS p e below s₁ m 16 #[oa ob0, oa ob1, oi ob0_z, vU, vU, vU, vU, vU, vU] [] t → ES p e below s₁ m #[(.ref ob0), (.ref ob1)] 9 t := by
        intro t k
        refine g4 t ?_
        show FS p e below s₁ m 4 #[oa ob0, oa ob1, vU, vU, vU, vU, vU, vU, vU] [(.int ob1_z), (.int ob0_z)] _
        refine XS.icmpYes X0.here hx rfl (pc0 := 4) (pc' := 13) rfl (hb hby d28_4) rfl (flt hc3).2.1 (by decide) (by decide) ?_
        refine XS.aloadN X0.here hx rfl (hb hby d28_13) rfl rfl ?_
        show FS p e below s₁ m 14 #[oa ob0, oa ob1, vU, vU, vU, vU, vU, vU, vU] [(.ref ob0)] _
        refine X0.arraylength hx (by rw [e0]; exact Ar7.1) (State.isArrayOf_alike hZ.alike Ar7.2.1) (g := (mkF m 14 #[oa ob0, oa ob1, vU, vU, vU, vU, vU, vU, vU] [(.ref ob0)])) rfl rfl (hb hby d28_14) _ ?_
        rw [len_of S7 Nn7]
        refine XS.istoreN X0.here hx rfl (hb hby d28_15) rfl (l' := #[oa ob0, oa ob1, oi ob0_z, vU, vU, vU, vU, vU, vU]) rfl ?_
        exact k
      exact ⟨ob0, ob1, _, _, _, _, _, _, V_ob0, V_ob1, hz0, hz1, own_le0 hc3, g8⟩
  obtain ⟨c9, Ar9, cq9, S9, Nn9, Hh9, Gg9⟩ := id VY
  obtain ⟨T10, h10, k10, X10, e10, E10, A10, st10⟩ := newP X0 hx hZ (own_w hw 86 rfl) e0 (g := (mkF m 20 #[oa X, oa Y, oi zX, oi zY, vU, vU, vU, vU, vU] [(.int zX)])) rfl (hb hby d28_20) rfl (own_z4c hzX).1 (cap := 4) (own_z4c hzX).2 (by decide) (by decide) (by decide)
  obtain ⟨b10, q_b10⟩ : ∃ z, z = h0.size := ⟨_, rfl⟩
  rw [← q_b10] at A10 st10
  have sz_b10 : h0.size ≤ b10 := Nat.le_of_eq q_b10.symm
  have gz_b10 : n0 ≤ b10 := Nat.le_trans Z0 sz_b10
  have ne_X_b10 : X ≠ b10 := Nat.ne_of_lt (Nat.lt_of_lt_of_le VX.lt (Nat.le_of_eq q_b10.symm))
  have ne_Y_b10 : Y ≠ b10 := Nat.ne_of_lt (Nat.lt_of_lt_of_le VY.lt (Nat.le_of_eq q_b10.symm))
  have V10 : Arv Z h10 b10 k10 .int zX [(.int (0 : Int32)), (.int (0 : Int32)), (.int (0 : Int32)), (.int (0 : Int32))] (.int (0 : Int32)) := (Arv.new A10 (own_z4c hzX).1).pad (pad_rep [] (.int (0 : Int32)) 4)
  have g11 : ∀ t, FS p e below T10 m 22 #[oa X, oa Y, oi zX, oi zY, vU, vU, vU, vU, vU] [(.ref b10)] t → ES p e below s₁ m #[(.ref ob0), (.ref ob1)] 9 t := by
    intro t k
    refine gJ t ?_
    show FS p e below s₁ m 16 #[oa X, oa Y, oi zX, vU, vU, vU, vU, vU, vU] [] _
    refine XS.aloadN X0.here hx rfl (hb hby d28_16) rfl rfl ?_
    show FS p e below s₁ m 17 #[oa X, oa Y, oi zX, vU, vU, vU, vU, vU, vU] [(.ref Y)] _
    refine X0.arraylength hx (by rw [e0]; exact Ar9.1) (State.isArrayOf_alike hZ.alike Ar9.2.1) (g := (mkF m 17 #[oa X, oa Y, oi zX, vU, vU, vU, vU, vU, vU] [(.ref Y)])) rfl rfl (hb hby d28_17) _ ?_
    rw [len_of S9 Nn9]
    refine XS.istoreN X0.here hx rfl (hb hby d28_18) rfl (l' := #[oa X, oa Y, oi zX, oi zY, vU, vU, vU, vU, vU]) rfl ?_
    refine XS.iloadN X0.here hx rfl (hb hby d28_19) rfl ?_
    refine st10 _ ?_
    exact k
  obtain ⟨vl12, Vl12, hl12⟩ : ∃ q : List Value, Arv Z h10 b10 k10 .int zX q (.int (0 : Int32)) ∧ (zX).toNatClampNeg ≤ q.length := ⟨_, V10, (own_z4c hzX).2⟩
  have g14 : ∀ t, FS p e below T10 m 29 #[oa X, oa Y, oi zX, oi zY, oa b10, oj (0 : Int64), vS, vU, vU] [(.int (1 : Int32)), (.int zY)] t → ES p e below s₁ m #[(.ref ob0), (.ref ob1)] 9 t := by
    intro t k
    refine g11 t ?_
    show FS p e below T10 m 22 #[oa X, oa Y, oi zX, oi zY, vU, vU, vU, vU, vU] [(.ref b10)] _
    refine XS.astore X10.here hx rfl (hb hby d28_22) rfl rfl (l' := #[oa X, oa Y, oi zX, oi zY, oa b10, vU, vU, vU, vU]) rfl ?_
    refine XS.lconst X10.here hx rfl (hb hby d28_24) ?_
    refine XS.lstore X10.here hx rfl (hb hby d28_25) rfl (l' := #[oa X, oa Y, oi zX, oi zY, oa b10, oj (0 : Int64), vS, vU, vU]) rfl ?_
    refine XS.iloadN X10.here hx rfl (hb hby d28_27) rfl ?_
    refine XS.iconst X10.here hx rfl (hb hby d28_28) ?_
    exact k
  by_cases hc13 : zY = (1 : Int32)
  · have f15 := (VX.ext E10)
    obtain ⟨ax17, ha17⟩ := own_at f15 (own_zm1 hzX)
    obtain ⟨c16, Ar16, cq16, S16, Nn16, Hh16, Gg16⟩ := id f15
    have hin16 : ¬ ((zX + (-1 : Int32)) < 0 ∨ c16.slots.size ≤ ((zX + (-1 : Int32))).toNatClampNeg) := inb_of S16 (own_zm1 hzX)
    have hat16 : c16.slots[((zX + (-1 : Int32))).toNatClampNeg]? = some (.int ax17) := Has.at Hh16 hin16 ha17
    have f18 := (VY.ext E10)
    obtain ⟨ax20, ha20⟩ := own_at f18 (own_z0 hzY)
    obtain ⟨c19, Ar19, cq19, S19, Nn19, Hh19, Gg19⟩ := id f18
    have hin19 : ¬ ((0 : Int32) < 0 ∨ c19.slots.size ≤ ((0 : Int32)).toNatClampNeg) := inb_of S19 (own_z0 hzY)
    have hat19 : c19.slots[((0 : Int32)).toNatClampNeg]? = some (.int ax20) := Has.at Hh19 hin19 ha20
    obtain ⟨sq, hv_sq⟩ : ∃ z : Int64, z = (((ax17.toInt64) &&& (4294967295 : Int64)) + ((ax20.toInt64) &&& (4294967295 : Int64))) := ⟨_, rfl⟩
    have g21 : ∀ t, FS p e below T10 m 52 #[oa X, oa Y, .val (.int (zX + (-1 : Int32))), oi zY, oa b10, oj (0 : Int64), vS, vU, vU] [(.long sq)] t → ES p e below s₁ m #[(.ref ob0), (.ref ob1)] 9 t := by
      intro t k
      rw [hv_sq] at k
      refine g14 t ?_
      show FS p e below T10 m 29 #[oa X, oa Y, oi zX, oi zY, oa b10, oj (0 : Int64), vS, vU, vU] [(.int (1 : Int32)), (.int zY)] _
      refine XS.icmpNo X10.here hx rfl (hb hby d28_29) rfl (teq hc13).2 ?_
      refine XS.aloadN X10.here hx rfl (hb hby d28_32) rfl rfl ?_
      refine XS.iinc X10.here hx rfl (hb hby d28_33) rfl (l' := #[oa X, oa Y, .val (.int (zX + (-1 : Int32))), oi zY, oa b10, oj (0 : Int64), vS, vU, vU]) rfl ?_
      refine XS.iloadN X10.here hx rfl (hb hby d28_36) rfl ?_
      refine X10.iaload hx (j := (zX + (-1 : Int32))) (v := (.int ax17)) (by rw [e10]; exact Ar16.1) (State.isArrayOf_alike hZ.alike Ar16.2.1) Ar16.2.2 hin16 hat16 (g := (mkF m 37 #[oa X, oa Y, .val (.int (zX + (-1 : Int32))), oi zY, oa b10, oj (0 : Int64), vS, vU, vU] [(.int (zX + (-1 : Int32))), (.ref X)])) rfl rfl (hb hby d28_37) _ ?_
      refine XS.i2l X10.here hx rfl (hb hby d28_38) rfl ?_
      refine X10.ldc2Long hx hown (mvT hZ (own_w hw 153 rfl)) (g := (mkF m 39 #[oa X, oa Y, .val (.int (zX + (-1 : Int32))), oi zY, oa b10, oj (0 : Int64), vS, vU, vU] [(.long (ax17.toInt64))])) rfl (hb hby d28_39) _ ?_
      refine XS.land X10.here hx rfl (hb hby d28_42) rfl ?_
      refine XS.aloadN X10.here hx rfl (hb hby d28_43) rfl rfl ?_
      refine XS.iconst X10.here hx rfl (hb hby d28_44) ?_
      refine X10.iaload hx (j := (0 : Int32)) (v := (.int ax20)) (by rw [e10]; exact Ar19.1) (State.isArrayOf_alike hZ.alike Ar19.2.1) Ar19.2.2 hin19 hat19 (g := (mkF m 45 #[oa X, oa Y, .val (.int (zX + (-1 : Int32))), oi zY, oa b10, oj (0 : Int64), vS, vU, vU] [(.int (0 : Int32)), (.ref Y), (.long ((ax17.toInt64) &&& (4294967295 : Int64)))])) rfl rfl (hb hby d28_45) _ ?_
      refine XS.i2l X10.here hx rfl (hb hby d28_46) rfl ?_
      refine X10.ldc2Long hx hown (mvT hZ (own_w hw 153 rfl)) (g := (mkF m 47 #[oa X, oa Y, .val (.int (zX + (-1 : Int32))), oi zY, oa b10, oj (0 : Int64), vS, vU, vU] [(.long (ax20.toInt64)), (.long ((ax17.toInt64) &&& (4294967295 : Int64)))])) rfl (hb hby d28_47) _ ?_
      refine XS.land X10.here hx rfl (hb hby d28_50) rfl ?_
      refine XS.ladd X10.here hx rfl (hb hby d28_51) rfl ?_
      exact k
    obtain ⟨c22, Ar22, cq22, S22, Nn22, Hh22, Gg22⟩ := id Vl12
    have hin22 : ¬ ((zX + (-1 : Int32)) < 0 ∨ c22.slots.size ≤ ((zX + (-1 : Int32))).toNatClampNeg) := inb_of S22 (own_zm1 hzX)
    obtain ⟨T23, h23, X23, e23, W23, st23⟩ := stI X10 hx hZ e10 Ar22 (j := (zX + (-1 : Int32))) hin22 (g := (mkF m 60 #[oa X, oa Y, .val (.int (zX + (-1 : Int32))), oi zY, oa b10, oj sq, vS, vU, vU] [(.int (sq.toInt32)), (.int (zX + (-1 : Int32))), (.ref b10)])) rfl rfl (hb hby d28_60)
    obtain ⟨vl23, V23a, hl23⟩ : ∃ q : List Value, Arv Z h23 b10 k10 .int zX q (.int (0 : Int32)) ∧ (zX).toNatClampNeg ≤ q.length := ⟨_, Arv.set Ar22 cq22 S22 Nn22 Hh22 Gg22 rfl W23 _ rfl (own_inl hin22 S22 hl12), by rw [List.length_set]; exact hl12⟩
    have N23 := Fr.snoc X23 N0 gz_b10
    have g24 : ∀ t, FS p e below T23 m 116 #[oa X, oa Y, .val (.int (zX + (-1 : Int32))), oi zY, oa b10, oj sq, vS, vU, vU] [(.int (lcmpW ((sq.toUInt64 >>> ((32 : Int32) &&& 0x3f).toInt64.toUInt64).toInt64) (0 : Int64)))] t → ES p e below s₁ m #[(.ref ob0), (.ref ob1)] 9 t := by
      intro t k
      refine g21 t ?_
      show FS p e below T10 m 52 #[oa X, oa Y, .val (.int (zX + (-1 : Int32))), oi zY, oa b10, oj (0 : Int64), vS, vU, vU] [(.long sq)] _
      refine XS.lstore X10.here hx rfl (hb hby d28_52) rfl (l' := #[oa X, oa Y, .val (.int (zX + (-1 : Int32))), oi zY, oa b10, oj sq, vS, vU, vU]) rfl ?_
      refine XS.aload X10.here hx rfl (hb hby d28_54) rfl rfl ?_
      refine XS.iloadN X10.here hx rfl (hb hby d28_56) rfl ?_
      refine XS.lload X10.here hx rfl (hb hby d28_57) rfl ?_
      refine XS.l2i X10.here hx rfl (hb hby d28_59) rfl ?_
      refine st23 _ ?_
      refine XS.goto X23.here hx rfl (pc0 := 61) (pc' := 109) rfl (hb hby d28_61) (by decide) (by decide) ?_
      refine XS.lload X23.here hx rfl (hb hby d28_109) rfl ?_
      refine XS.bipush X23.here hx rfl (hb hby d28_111) ?_
      refine XS.lushr X23.here hx rfl (hb hby d28_113) rfl ?_
      refine XS.lconst X23.here hx rfl (hb hby d28_114) ?_
      refine XS.lcmp X23.here hx rfl (hb hby d28_115) rfl ?_
      exact k
    obtain ⟨cy, hv_cy⟩ : ∃ z : Int32, z = (if ((sq.toUInt64 >>> ((32 : Int32) &&& 0x3f).toInt64.toUInt64).toInt64) = (0 : Int64) then (0 : Int32) else (1 : Int32)) := ⟨_, rfl⟩
    have g26 : ∀ t, FS p e below T23 m 124 #[oa X, oa Y, .val (.int (zX + (-1 : Int32))), oi zY, oa b10, oj sq, vS, vU, vU] [(.int cy)] t → ES p e below s₁ m #[(.ref ob0), (.ref ob1)] 9 t := by
      intro t k
      by_cases hc25 : ((sq.toUInt64 >>> ((32 : Int32) &&& 0x3f).toInt64.toUInt64).toInt64) = (0 : Int64)
      · rw [if_pos hc25] at hv_cy; rw [hv_cy] at k
        refine g24 t ?_
        show FS p e below T23 m 116 #[oa X, oa Y, .val (.int (zX + (-1 : Int32))), oi zY, oa b10, oj sq, vS, vU, vU] [(.int (lcmpW ((sq.toUInt64 >>> ((32 : Int32) &&& 0x3f).toInt64.toUInt64).toInt64) (0 : Int64)))] _
        refine XS.ifYes X23.here hx rfl (pc0 := 116) (pc' := 123) rfl (hb hby d28_116) rfl ((if0 _ _).trans (teq ((lw_eq _ _).mpr hc25)).1) (by decide) (by decide) ?_
        refine XS.iconst X23.here hx rfl (hb hby d28_123) ?_
        exact k
      · rw [if_neg hc25] at hv_cy; rw [hv_cy] at k
        refine g24 t ?_
        show FS p e below T23 m 116 #[oa X, oa Y, .val (.int (zX + (-1 : Int32))), oi zY, oa b10, oj sq, vS, vU, vU] [(.int (lcmpW ((sq.toUInt64 >>> ((32 : Int32) &&& 0x3f).toInt64.toUInt64).toInt64) (0 : Int64)))] _
        refine XS.ifNo X23.here hx rfl (hb hby d28_116) rfl ((if0 _ _).trans (feq (fun q => hc25 ((lw_eq _ _).mp q))).1) ?_
        refine XS.iconst X23.here hx rfl (hb hby d28_119) ?_
        refine XS.goto X23.here hx rfl (pc0 := 120) (pc' := 124) rfl (hb hby d28_120) (by decide) (by decide) ?_
        exact k
    have f27 := (f15.other W23 ne_X_b10)
    have f28 := (f18.other W23 ne_Y_b10)
    obtain ⟨T29, L29, h29, xo29, co29, lo29, X29, e29, N29, K29, V29, hl29, st29⟩ := own_L126 hx hZ hw hby hown X Y b10 _ _ zX zY sq _ ne_X_b10 gz_b10 ((zX + (-1 : Int32))).toInt.toNat _ _ _ (zX + (-1 : Int32)) cy _ X23 e23 N23 f27 V23a hl23 (own_tz (own_zb hzX).1) (own_zb hzX).2
    have g31 : ∀ t, FS p e below T29 m 180 #[oa X, oa Y, oi xo29, oi zY, oa b10, oj sq, vS, oi co29, vU] [(.int co29)] t → ES p e below s₁ m #[(.ref ob0), (.ref ob1)] 9 t := by
      intro t k
      refine g26 t ?_
      show FS p e below T23 m 124 #[oa X, oa Y, .val (.int (zX + (-1 : Int32))), oi zY, oa b10, oj sq, vS, vU, vU] [(.int cy)] _
      refine XS.istore X23.here hx rfl (hb hby d28_124) rfl (l' := #[oa X, oa Y, .val (.int (zX + (-1 : Int32))), oi zY, oa b10, oj sq, vS, oi cy, vU]) rfl ?_
      refine st29 _ ?_
      refine XS.iload X29.here hx rfl (hb hby d28_178) rfl ?_
      exact k
    by_cases hc30 : co29 = (0 : Int32)
    · have g32 : ∀ t, FS p e below T29 m 214 #[oa X, oa Y, oi xo29, oi zY, oa b10, oj sq, vS, oi co29, vU] [(.ref b10)] t → ES p e below s₁ m #[(.ref ob0), (.ref ob1)] 9 t := by
        intro t k
        refine g31 t ?_
        show FS p e below T29 m 180 #[oa X, oa Y, oi xo29, oi zY, oa b10, oj sq, vS, oi co29, vU] [(.int co29)] _
        refine XS.ifYes X29.here hx rfl (pc0 := 180) (pc' := 212) rfl (hb hby d28_180) rfl ((if0 _ _).trans (teq hc30).1) (by decide) (by decide) ?_
        refine XS.aload X29.here hx rfl (hb hby d28_212) rfl rfl ?_
        exact k
      obtain ⟨fs, hrt, hrun, hended, hW, hsame⟩ := X29.leave (v := some (.ref b10)) (fun h => by rw [Bd.returns] at h; cases h)
      refine ⟨_, _, g32 _ ?_, hrun, hended, _, _, rfl, ?_, ⟨_, rfl⟩, hW, hsame.mono (by decide) (by decide)⟩
      · show Steps p.tables e below (T29.setTop (mkF m 214 #[oa X, oa Y, oi xo29, oi zY, oa b10, oj sq, vS, oi co29, vU] [(.ref b10)])) _
        jvm_step X29.here [X29.here.top, hx, (hb hby d28_214), X29.method', Bd.returns, Value.isRef, FieldType.isReference]
        first | (intro acts; rw [hrt _ acts rfl rfl rfl]) | rw [hrt _ _ rfl rfl rfl]
        exact Steps.refl _
      · show own_Q_rmA30 Z ob0 k_ob0 ob0_z ob0_l ob1 k_ob1 ob1_z ob1_l zr zm ps ng zk h0 n0 _ T29.heap _
        rw [e29]
        exact ⟨b10, _, _, _, rfl, N29, (Keep.trans (Keep.wr (Keep.ext (Keep.refl h0 []) E10) W23 (Or.inr sz_b10)) K29 (allS (Or.inr sz_b10) all0)), sz_b10, V29, own_z4f hzX⟩
    · obtain ⟨c33, Ar33, cq33, S33, Nn33, Hh33, Gg33⟩ := id V29
      obtain ⟨T34, h34, k34, X34, e34, E34, A34, st34⟩ := newP X29 hx hZ (own_w hw 86 rfl) e29 (g := (mkF m 188 #[oa X, oa Y, oi xo29, oi zY, oa b10, oj sq, vS, oi co29, vU] [(.int (zX + (1 : Int32)))])) rfl (hb hby d28_188) rfl (own_z5c hzX).1 (cap := 5) (own_z5c hzX).2 (by decide) (by decide) (by decide)
      obtain ⟨b34, q_b34⟩ : ∃ z, z = h29.size := ⟨_, rfl⟩
      rw [← q_b34] at A34 st34
      have sz_b34 : h0.size ≤ b34 := Nat.le_trans (Nat.le_trans (Nat.le_trans E10.1 (Keep.of_wr W23).1) K29.1) (Nat.le_of_eq q_b34.symm)
      have gz_b34 : n0 ≤ b34 := Nat.le_trans Z0 sz_b34
      have f35 := (f27.keep K29 (ninS ne_X_b10 nin0))
      have ne_X_b34 : X ≠ b34 := Nat.ne_of_lt (Nat.lt_of_lt_of_le f35.lt (Nat.le_of_eq q_b34.symm))
      have f36 := (f28.keep K29 (ninS ne_Y_b10 nin0))
      have ne_Y_b34 : Y ≠ b34 := Nat.ne_of_lt (Nat.lt_of_lt_of_le f36.lt (Nat.le_of_eq q_b34.symm))
      have ne_b10_b34 : b10 ≠ b34 := Nat.ne_of_lt (Nat.lt_of_lt_of_le V29.lt (Nat.le_of_eq q_b34.symm))
      have V34 : Arv Z h34 b34 k34 .int (zX + (1 : Int32)) [(.int (0 : Int32)), (.int (0 : Int32)), (.int (0 : Int32)), (.int (0 : Int32)), (.int (0 : Int32))] (.int (0 : Int32)) := (Arv.new A34 (own_z5c hzX).1).pad (pad_rep [] (.int (0 : Int32)) 5)
      have g37 : ∀ t, FS p e below T34 m 190 #[oa X, oa Y, oi xo29, oi zY, oa b10, oj sq, vS, oi co29, vU] [(.ref b34)] t → ES p e below s₁ m #[(.ref ob0), (.ref ob1)] 9 t := by
        intro t k
        refine g31 t ?_
        show FS p e below T29 m 180 #[oa X, oa Y, oi xo29, oi zY, oa b10, oj sq, vS, oi co29, vU] [(.int co29)] _
        refine XS.ifNo X29.here hx rfl (hb hby d28_180) rfl ((if0 _ _).trans (feq hc30).1) ?_
        refine XS.aload X29.here hx rfl (hb hby d28_183) rfl rfl ?_
        show FS p e below T29 m 185 #[oa X, oa Y, oi xo29, oi zY, oa b10, oj sq, vS, oi co29, vU] [(.ref b10)] _
        refine X29.arraylength hx (by rw [e29]; exact Ar33.1) (State.isArrayOf_alike hZ.alike Ar33.2.1) (g := (mkF m 185 #[oa X, oa Y, oi xo29, oi zY, oa b10, oj sq, vS, oi co29, vU] [(.ref b10)])) rfl rfl (hb hby d28_185) _ ?_
        rw [len_of S33 Nn33]
        refine XS.iconst X29.here hx rfl (hb hby d28_186) ?_
        refine XS.iadd X29.here hx rfl (hb hby d28_187) rfl ?_
        refine st34 _ ?_
        exact k
      obtain ⟨vl38, Vl38, hl38⟩ : ∃ q : List Value, Arv Z h34 b34 k34 .int (zX + (1 : Int32)) q (.int (0 : Int32)) ∧ ((zX + (1 : Int32))).toNatClampNeg ≤ q.length := ⟨_, V34, (own_z5c hzX).2⟩
      have f39 := (V29.ext E34)
      obtain ⟨c40, Ar40, cq40, S40, Nn40, Hh40, Gg40⟩ := id f39
      have hll41 : ((1 : Int32)).toNatClampNeg + (zX).toNatClampNeg ≤ vl38.length := Nat.le_trans (own_zcp hzX) hl38
      obtain ⟨T41, h41, L41, X41, e41, N41, K41, V41, st41⟩ := cpA X34 hx hZ hown (own_w hw 197 rfl) (own_w hw 171 rfl) (own_w hw 169 rfl) (own_w hw 170 rfl) e34 f39 Vl38 (Or.inl ⟨rfl, rfl⟩) (by decide) (by decide) (own_z4c hzX).1 (Nat.le_of_eq (Nat.zero_add _)) (own_zcp hzX) rfl hll41 N29 gz_b34 (g := (mkF m 201 #[oa X, oa Y, oi xo29, oi zY, oa b10, oj sq, vS, oi co29, oa b34] [(.int zX), (.int (1 : Int32)), (.ref b34), (.int (0 : Int32)), (.ref b10)])) rfl (by rw [hml]; rfl) rfl (hb hby d28_201) (by decide) (W := 0) (own_W0 rfl) (by decide)
      obtain ⟨vl41, V41a, hl41⟩ : ∃ q : List Value, Arv Z h41 b34 k34 .int (zX + (1 : Int32)) q (.int (0 : Int32)) ∧ ((zX + (1 : Int32))).toNatClampNeg ≤ q.length := ⟨_, V41, by rw [own_cplen _ _ _ _ hll41]; exact hl38⟩
      obtain ⟨c42, Ar42, cq42, S42, Nn42, Hh42, Gg42⟩ := id V41a
      have hin42 : ¬ ((0 : Int32) < 0 ∨ c42.slots.size ≤ ((0 : Int32)).toNatClampNeg) := inb_of S42 (own_z5i hzX)
      obtain ⟨T43, h43, X43, e43, W43, st43⟩ := stI X41 hx hZ e41 Ar42 (j := (0 : Int32)) hin42 (g := (mkF m 208 #[oa X, oa Y, oi xo29, oi zY, oa b10, oj sq, vS, oi co29, oa b34] [(.int (1 : Int32)), (.int (0 : Int32)), (.ref b34)])) rfl rfl (hb hby d28_208)
      obtain ⟨vl43, V43a, hl43⟩ : ∃ q : List Value, Arv Z h43 b34 k34 .int (zX + (1 : Int32)) q (.int (0 : Int32)) ∧ ((zX + (1 : Int32))).toNatClampNeg ≤ q.length := ⟨_, Arv.set Ar42 cq42 S42 Nn42 Hh42 Gg42 rfl W43 _ rfl (own_inl hin42 S42 hl41), by rw [List.length_set]; exact hl41⟩
      have N43 := Fr.snoc X43 N41 gz_b34
      have g44 : ∀ t, FS p e below T43 m 211 #[oa X, oa Y, oi xo29, oi zY, oa b10, oj sq, vS, oi co29, oa b34] [(.ref b34)] t → ES p e below s₁ m #[(.ref ob0), (.ref ob1)] 9 t := by
        intro t k
        refine g37 t ?_
        show FS p e below T34 m 190 #[oa X, oa Y, oi xo29, oi zY, oa b10, oj sq, vS, oi co29, vU] [(.ref b34)] _
        refine XS.astore X34.here hx rfl (hb hby d28_190) rfl rfl (l' := #[oa X, oa Y, oi xo29, oi zY, oa b10, oj sq, vS, oi co29, oa b34]) rfl ?_
        refine XS.aload X34.here hx rfl (hb hby d28_192) rfl rfl ?_
        refine XS.iconst X34.here hx rfl (hb hby d28_194) ?_
        refine XS.aload X34.here hx rfl (hb hby d28_195) rfl rfl ?_
        refine XS.iconst X34.here hx rfl (hb hby d28_197) ?_
        refine XS.aload X34.here hx rfl (hb hby d28_198) rfl rfl ?_
        show FS p e below T34 m 200 #[oa X, oa Y, oi xo29, oi zY, oa b10, oj sq, vS, oi co29, oa b34] [(.ref b10), (.int (1 : Int32)), (.ref b34), (.int (0 : Int32)), (.ref b10)] _
        refine X34.arraylength hx (by rw [e34]; exact Ar40.1) (State.isArrayOf_alike hZ.alike Ar40.2.1) (g := (mkF m 200 #[oa X, oa Y, oi xo29, oi zY, oa b10, oj sq, vS, oi co29, oa b34] [(.ref b10), (.int (1 : Int32)), (.ref b34), (.int (0 : Int32)), (.ref b10)])) rfl rfl (hb hby d28_200) _ ?_
        rw [len_of S40 Nn40]
        refine st41 _ ?_
        refine XS.aload X41.here hx rfl (hb hby d28_204) rfl rfl ?_
        refine XS.iconst X41.here hx rfl (hb hby d28_206) ?_
        refine XS.iconst X41.here hx rfl (hb hby d28_207) ?_
        refine st43 _ ?_
        refine XS.aload X43.here hx rfl (hb hby d28_209) rfl rfl ?_
        exact k
      obtain ⟨fs, hrt, hrun, hended, hW, hsame⟩ := X43.leave (v := some (.ref b34)) (fun h => by rw [Bd.returns] at h; cases h)
      refine ⟨_, _, g44 _ ?_, hrun, hended, _, _, rfl, ?_, ⟨_, rfl⟩, hW, hsame.mono (by decide) (by decide)⟩
      · show Steps p.tables e below (T43.setTop (mkF m 211 #[oa X, oa Y, oi xo29, oi zY, oa b10, oj sq, vS, oi co29, oa b34] [(.ref b34)])) _
        jvm_step X43.here [X43.here.top, hx, (hb hby d28_211), X43.method', Bd.returns, Value.isRef, FieldType.isReference]
        first | (intro acts; rw [hrt _ acts rfl rfl rfl]) | rw [hrt _ _ rfl rfl rfl]
        exact Steps.refl _
      · show own_Q_rmA30 Z ob0 k_ob0 ob0_z ob0_l ob1 k_ob1 ob1_z ob1_l zr zm ps ng zk h0 n0 _ T43.heap _
        rw [e43]
        exact ⟨b34, _, _, _, rfl, N43, (Keep.wr (Keep.trans (Keep.ext (Keep.trans (Keep.wr (Keep.ext (Keep.refl h0 []) E10) W23 (Or.inr sz_b10)) K29 (allS (Or.inr sz_b10) all0)) E34) K41 (allS (Or.inr sz_b34) all0)) W43 (Or.inr sz_b34)), sz_b34, V43a, own_z5f hzX⟩
  · have f45 := (VX.ext E10)
    have f46 := (VY.ext E10)
    obtain ⟨T47, L47, h47, xo47, yo47, so47, lo47, X47, e47, N47, K47, V47, hl47, hb47, st47⟩ := own_L64 hx hZ hw hby hown X Y b10 _ _ _ zX zY _ _ ne_X_b10 ne_Y_b10 gz_b10 (zY).toInt.toNat _ _ _ zX zY (0 : Int64) _ X10 e10 N0 f45 f46 Vl12 hl12 (own_tn hzY) hle (Int.le_refl _) (Int.le_refl _)
    have g48 : ∀ t, FS p e below T47 m 116 #[oa X, oa Y, oi xo47, oi yo47, oa b10, oj so47, vS, vU, vU] [(.int (lcmpW ((so47.toUInt64 >>> ((32 : Int32) &&& 0x3f).toInt64.toUInt64).toInt64) (0 : Int64)))] t → ES p e below s₁ m #[(.ref ob0), (.ref ob1)] 9 t := by
      intro t k
      refine g14 t ?_
      show FS p e below T10 m 29 #[oa X, oa Y, oi zX, oi zY, oa b10, oj (0 : Int64), vS, vU, vU] [(.int (1 : Int32)), (.int zY)] _
      refine XS.icmpYes X10.here hx rfl (pc0 := 29) (pc' := 64) rfl (hb hby d28_29) rfl (feq hc13).2 (by decide) (by decide) ?_
      refine st47 _ ?_
      refine XS.lload X47.here hx rfl (hb hby d28_109) rfl ?_
      refine XS.bipush X47.here hx rfl (hb hby d28_111) ?_
      refine XS.lushr X47.here hx rfl (hb hby d28_113) rfl ?_
      refine XS.lconst X47.here hx rfl (hb hby d28_114) ?_
      refine XS.lcmp X47.here hx rfl (hb hby d28_115) rfl ?_
      exact k
    obtain ⟨cy, hv_cy⟩ : ∃ z : Int32, z = (if ((so47.toUInt64 >>> ((32 : Int32) &&& 0x3f).toInt64.toUInt64).toInt64) = (0 : Int64) then (0 : Int32) else (1 : Int32)) := ⟨_, rfl⟩
    have g50 : ∀ t, FS p e below T47 m 124 #[oa X, oa Y, oi xo47, oi yo47, oa b10, oj so47, vS, vU, vU] [(.int cy)] t → ES p e below s₁ m #[(.ref ob0), (.ref ob1)] 9 t := by
      intro t k
      by_cases hc49 : ((so47.toUInt64 >>> ((32 : Int32) &&& 0x3f).toInt64.toUInt64).toInt64) = (0 : Int64)
      · rw [if_pos hc49] at hv_cy; rw [hv_cy] at k
        refine g48 t ?_
        show FS p e below T47 m 116 #[oa X, oa Y, oi xo47, oi yo47, oa b10, oj so47, vS, vU, vU] [(.int (lcmpW ((so47.toUInt64 >>> ((32 : Int32) &&& 0x3f).toInt64.toUInt64).toInt64) (0 : Int64)))] _
        refine XS.ifYes X47.here hx rfl (pc0 := 116) (pc' := 123) rfl (hb hby d28_116) rfl ((if0 _ _).trans (teq ((lw_eq _ _).mpr hc49)).1) (by decide) (by decide) ?_
        refine XS.iconst X47.here hx rfl (hb hby d28_123) ?_
        exact k
      · rw [if_neg hc49] at hv_cy; rw [hv_cy] at k
        refine g48 t ?_
        show FS p e below T47 m 116 #[oa X, oa Y, oi xo47, oi yo47, oa b10, oj so47, vS, vU, vU] [(.int (lcmpW ((so47.toUInt64 >>> ((32 : Int32) &&& 0x3f).toInt64.toUInt64).toInt64) (0 : Int64)))] _
        refine XS.ifNo X47.here hx rfl (hb hby d28_116) rfl ((if0 _ _).trans (feq (fun q => hc49 ((lw_eq _ _).mp q))).1) ?_
        refine XS.iconst X47.here hx rfl (hb hby d28_119) ?_
        refine XS.goto X47.here hx rfl (pc0 := 120) (pc' := 124) rfl (hb hby d28_120) (by decide) (by decide) ?_
        exact k
    have f51 := (f45.keep K47 (ninS ne_X_b10 nin0))
    have f52 := (f46.keep K47 (ninS ne_Y_b10 nin0))
    obtain ⟨T53, L53, h53, xo53, co53, lo53, X53, e53, N53, K53, V53, hl53, st53⟩ := own_L126 hx hZ hw hby hown X Y b10 _ _ zX yo47 so47 _ ne_X_b10 gz_b10 (xo47).toInt.toNat _ _ _ xo47 cy _ X47 e47 N47 f51 V47 hl47 (own_tz hb47.1) hb47.2
    have g55 : ∀ t, FS p e below T53 m 180 #[oa X, oa Y, oi xo53, oi yo47, oa b10, oj so47, vS, oi co53, vU] [(.int co53)] t → ES p e below s₁ m #[(.ref ob0), (.ref ob1)] 9 t := by
      intro t k
      refine g50 t ?_
      show FS p e below T47 m 124 #[oa X, oa Y, oi xo47, oi yo47, oa b10, oj so47, vS, vU, vU] [(.int cy)] _
      refine XS.istore X47.here hx rfl (hb hby d28_124) rfl (l' := #[oa X, oa Y, oi xo47, oi yo47, oa b10, oj so47, vS, oi cy, vU]) rfl ?_
      refine st53 _ ?_
      refine XS.iload X53.here hx rfl (hb hby d28_178) rfl ?_
      exact k
    by_cases hc54 : co53 = (0 : Int32)
    · have g56 : ∀ t, FS p e below T53 m 214 #[oa X, oa Y, oi xo53, oi yo47, oa b10, oj so47, vS, oi co53, vU] [(.ref b10)] t → ES p e below s₁ m #[(.ref ob0), (.ref ob1)] 9 t := by
        intro t k
        refine g55 t ?_
        show FS p e below T53 m 180 #[oa X, oa Y, oi xo53, oi yo47, oa b10, oj so47, vS, oi co53, vU] [(.int co53)] _
        refine XS.ifYes X53.here hx rfl (pc0 := 180) (pc' := 212) rfl (hb hby d28_180) rfl ((if0 _ _).trans (teq hc54).1) (by decide) (by decide) ?_
        refine XS.aload X53.here hx rfl (hb hby d28_212) rfl rfl ?_
        exact k
      obtain ⟨fs, hrt, hrun, hended, hW, hsame⟩ := X53.leave (v := some (.ref b10)) (fun h => by rw [Bd.returns] at h; cases h)
      refine ⟨_, _, g56 _ ?_, hrun, hended, _, _, rfl, ?_, ⟨_, rfl⟩, hW, hsame.mono (by decide) (by decide)⟩
      · show Steps p.tables e below (T53.setTop (mkF m 214 #[oa X, oa Y, oi xo53, oi yo47, oa b10, oj so47, vS, oi co53, vU] [(.ref b10)])) _
        jvm_step X53.here [X53.here.top, hx, (hb hby d28_214), X53.method', Bd.returns, Value.isRef, FieldType.isReference]
        first | (intro acts; rw [hrt _ acts rfl rfl rfl]) | rw [hrt _ _ rfl rfl rfl]
        exact Steps.refl _
      · show own_Q_rmA30 Z ob0 k_ob0 ob0_z ob0_l ob1 k_ob1 ob1_z ob1_l zr zm ps ng zk h0 n0 _ T53.heap _
        rw [e53]
        exact ⟨b10, _, _, _, rfl, N53, (Keep.trans (Keep.trans (Keep.ext (Keep.refl h0 []) E10) K47 (allS (Or.inr sz_b10) all0)) K53 (allS (Or.inr sz_b10) all0)), sz_b10, V53, own_z4f hzX⟩
    · obtain ⟨c57, Ar57, cq57, S57, Nn57, Hh57, Gg57⟩ := id V53
      obtain ⟨T58, h58, k58, X58, e58, E58, A58, st58⟩ := newP X53 hx hZ (own_w hw 86 rfl) e53 (g := (mkF m 188 #[oa X, oa Y, oi xo53, oi yo47, oa b10, oj so47, vS, oi co53, vU] [(.int (zX + (1 : Int32)))])) rfl (hb hby d28_188) rfl (own_z5c hzX).1 (cap := 5) (own_z5c hzX).2 (by decide) (by decide) (by decide)
      obtain ⟨b58, q_b58⟩ : ∃ z, z = h53.size := ⟨_, rfl⟩
      rw [← q_b58] at A58 st58
      have sz_b58 : h0.size ≤ b58 := Nat.le_trans (Nat.le_trans (Nat.le_trans E10.1 K47.1) K53.1) (Nat.le_of_eq q_b58.symm)
      have gz_b58 : n0 ≤ b58 := Nat.le_trans Z0 sz_b58
      have f59 := (f51.keep K53 (ninS ne_X_b10 nin0))
      have ne_X_b58 : X ≠ b58 := Nat.ne_of_lt (Nat.lt_of_lt_of_le f59.lt (Nat.le_of_eq q_b58.symm))
      have f60 := (f52.keep K53 (ninS ne_Y_b10 nin0))
      have ne_Y_b58 : Y ≠ b58 := Nat.ne_of_lt (Nat.lt_of_lt_of_le f60.lt (Nat.le_of_eq q_b58.symm))
      have ne_b10_b58 : b10 ≠ b58 := Nat.ne_of_lt (Nat.lt_of_lt_of_le V53.lt (Nat.le_of_eq q_b58.symm))
      have V58 : Arv Z h58 b58 k58 .int (zX + (1 : Int32)) [(.int (0 : Int32)), (.int (0 : Int32)), (.int (0 : Int32)), (.int (0 : Int32)), (.int (0 : Int32))] (.int (0 : Int32)) := (Arv.new A58 (own_z5c hzX).1).pad (pad_rep [] (.int (0 : Int32)) 5)
      have g61 : ∀ t, FS p e below T58 m 190 #[oa X, oa Y, oi xo53, oi yo47, oa b10, oj so47, vS, oi co53, vU] [(.ref b58)] t → ES p e below s₁ m #[(.ref ob0), (.ref ob1)] 9 t := by
        intro t k
        refine g55 t ?_
        show FS p e below T53 m 180 #[oa X, oa Y, oi xo53, oi yo47, oa b10, oj so47, vS, oi co53, vU] [(.int co53)] _
        refine XS.ifNo X53.here hx rfl (hb hby d28_180) rfl ((if0 _ _).trans (feq hc54).1) ?_
        refine XS.aload X53.here hx rfl (hb hby d28_183) rfl rfl ?_
        show FS p e below T53 m 185 #[oa X, oa Y, oi xo53, oi yo47, oa b10, oj so47, vS, oi co53, vU] [(.ref b10)] _
        refine X53.arraylength hx (by rw [e53]; exact Ar57.1) (State.isArrayOf_alike hZ.alike Ar57.2.1) (g := (mkF m 185 #[oa X, oa Y, oi xo53, oi yo47, oa b10, oj so47, vS, oi co53, vU] [(.ref b10)])) rfl rfl (hb hby d28_185) _ ?_
        rw [len_of S57 Nn57]
        refine XS.iconst X53.here hx rfl (hb hby d28_186) ?_
        refine XS.iadd X53.here hx rfl (hb hby d28_187) rfl ?_
        refine st58 _ ?_
        exact k
      obtain ⟨vl62, Vl62, hl62⟩ : ∃ q : List Value, Arv Z h58 b58 k58 .int (zX + (1 : Int32)) q (.int (0 : Int32)) ∧ ((zX + (1 : Int32))).toNatClampNeg ≤ q.length := ⟨_, V58, (own_z5c hzX).2⟩
      have f63 := (V53.ext E58)
      obtain ⟨c64, Ar64, cq64, S64, Nn64, Hh64, Gg64⟩ := id f63
      have hll65 : ((1 : Int32)).toNatClampNeg + (zX).toNatClampNeg ≤ vl62.length := Nat.le_trans (own_zcp hzX) hl62
      obtain ⟨T65, h65, L65, X65, e65, N65, K65, V65, st65⟩ := cpA X58 hx hZ hown (own_w hw 197 rfl) (own_w hw 171 rfl) (own_w hw 169 rfl) (own_w hw 170 rfl) e58 f63 Vl62 (Or.inl ⟨rfl, rfl⟩) (by decide) (by decide) (own_z4c hzX).1 (Nat.le_of_eq (Nat.zero_add _)) (own_zcp hzX) rfl hll65 N53 gz_b58 (g := (mkF m 201 #[oa X, oa Y, oi xo53, oi yo47, oa b10, oj so47, vS, oi co53, oa b58] [(.int zX), (.int (1 : Int32)), (.ref b58), (.int (0 : Int32)), (.ref b10)])) rfl (by rw [hml]; rfl) rfl (hb hby d28_201) (by decide) (W := 0) (own_W0 rfl) (by decide)
      obtain ⟨vl65, V65a, hl65⟩ : ∃ q : List Value, Arv Z h65 b58 k58 .int (zX + (1 : Int32)) q (.int (0 : Int32)) ∧ ((zX + (1 : Int32))).toNatClampNeg ≤ q.length := ⟨_, V65, by rw [own_cplen _ _ _ _ hll65]; exact hl62⟩
      obtain ⟨c66, Ar66, cq66, S66, Nn66, Hh66, Gg66⟩ := id V65a
      have hin66 : ¬ ((0 : Int32) < 0 ∨ c66.slots.size ≤ ((0 : Int32)).toNatClampNeg) := inb_of S66 (own_z5i hzX)
      obtain ⟨T67, h67, X67, e67, W67, st67⟩ := stI X65 hx hZ e65 Ar66 (j := (0 : Int32)) hin66 (g := (mkF m 208 #[oa X, oa Y, oi xo53, oi yo47, oa b10, oj so47, vS, oi co53, oa b58] [(.int (1 : Int32)), (.int (0 : Int32)), (.ref b58)])) rfl rfl (hb hby d28_208)
      obtain ⟨vl67, V67a, hl67⟩ : ∃ q : List Value, Arv Z h67 b58 k58 .int (zX + (1 : Int32)) q (.int (0 : Int32)) ∧ ((zX + (1 : Int32))).toNatClampNeg ≤ q.length := ⟨_, Arv.set Ar66 cq66 S66 Nn66 Hh66 Gg66 rfl W67 _ rfl (own_inl hin66 S66 hl65), by rw [List.length_set]; exact hl65⟩
      have N67 := Fr.snoc X67 N65 gz_b58
      have g68 : ∀ t, FS p e below T67 m 211 #[oa X, oa Y, oi xo53, oi yo47, oa b10, oj so47, vS, oi co53, oa b58] [(.ref b58)] t → ES p e below s₁ m #[(.ref ob0), (.ref ob1)] 9 t := by
        intro t k
        refine g61 t ?_
        show FS p e below T58 m 190 #[oa X, oa Y, oi xo53, oi yo47, oa b10, oj so47, vS, oi co53, vU] [(.ref b58)] _
        refine XS.astore X58.here hx rfl (hb hby d28_190) rfl rfl (l' := #[oa X, oa Y, oi xo53, oi yo47, oa b10, oj so47, vS, oi co53, oa b58]) rfl ?_
        refine XS.aload X58.here hx rfl (hb hby d28_192) rfl rfl ?_
        refine XS.iconst X58.here hx rfl (hb hby d28_194) ?_
        refine XS.aload X58.here hx rfl (hb hby d28_195) rfl rfl ?_
        refine XS.iconst X58.here hx rfl (hb hby d28_197) ?_
        refine XS.aload X58.here hx rfl (hb hby d28_198) rfl rfl ?_
        show FS p e below T58 m 200 #[oa X, oa Y, oi xo53, oi yo47, oa b10, oj so47, vS, oi co53, oa b58] [(.ref b10), (.int (1 : Int32)), (.ref b58), (.int (0 : Int32)), (.ref b10)] _
        refine X58.arraylength hx (by rw [e58]; exact Ar64.1) (State.isArrayOf_alike hZ.alike Ar64.2.1) (g := (mkF m 200 #[oa X, oa Y, oi xo53, oi yo47, oa b10, oj so47, vS, oi co53, oa b58] [(.ref b10), (.int (1 : Int32)), (.ref b58), (.int (0 : Int32)), (.ref b10)])) rfl rfl (hb hby d28_200) _ ?_
        rw [len_of S64 Nn64]
        refine st65 _ ?_
        refine XS.aload X65.here hx rfl (hb hby d28_204) rfl rfl ?_
        refine XS.iconst X65.here hx rfl (hb hby d28_206) ?_
        refine XS.iconst X65.here hx rfl (hb hby d28_207) ?_
        refine st67 _ ?_
        refine XS.aload X67.here hx rfl (hb hby d28_209) rfl rfl ?_
        exact k
      obtain ⟨fs, hrt, hrun, hended, hW, hsame⟩ := X67.leave (v := some (.ref b58)) (fun h => by rw [Bd.returns] at h; cases h)
      refine ⟨_, _, g68 _ ?_, hrun, hended, _, _, rfl, ?_, ⟨_, rfl⟩, hW, hsame.mono (by decide) (by decide)⟩
      · show Steps p.tables e below (T67.setTop (mkF m 211 #[oa X, oa Y, oi xo53, oi yo47, oa b10, oj so47, vS, oi co53, oa b58] [(.ref b58)])) _
        jvm_step X67.here [X67.here.top, hx, (hb hby d28_211), X67.method', Bd.returns, Value.isRef, FieldType.isReference]
        first | (intro acts; rw [hrt _ acts rfl rfl rfl]) | rw [hrt _ _ rfl rfl rfl]
        exact Steps.refl _
      · show own_Q_rmA30 Z ob0 k_ob0 ob0_z ob0_l ob1 k_ob1 ob1_z ob1_l zr zm ps ng zk h0 n0 _ T67.heap _
        rw [e67]
        exact ⟨b58, _, _, _, rfl, N67, (Keep.wr (Keep.trans (Keep.ext (Keep.trans (Keep.trans (Keep.ext (Keep.refl h0 []) E10) K47 (allS (Or.inr sz_b10) all0)) K53 (allS (Or.inr sz_b10) all0)) E58) K65 (allS (Or.inr sz_b58) all0)) W67 (Or.inr sz_b58)), sz_b58, V67a, own_z5f hzX⟩
theorem own_pd19 : parseMethodDescriptor "([I[I)[I" = some ⟨[(.array .int), (.array .int)], some (.array .int)⟩ := by decide +kernel
theorem d20_44 : decode q20 44 = .ok (.aload_n 0, 1) := by decide +kernel
theorem d20_45 : decode q20 45 = .ok (.getfield 32, 3) := by decide +kernel
theorem d20_48 : decode q20 48 = .ok (.invokespecial 175, 3) := by decide +kernel
theorem d20_51 : decode q20 51 = .ok (.areturn, 1) := by decide +kernel
def own_Q_rmA29 (Z : State) (ob0 : Addr) (ob0_mag : Addr) (k_ob0_mag : ClassId) (ob0_mag_z : Int32) (ob0_mag_l : List Value) (ob0_signum : Int32) (ob1 : Addr) (ob1_mag : Addr) (k_ob1_mag : ClassId) (ob1_mag_z : Int32) (ob1_mag_l : List Value) (ob1_signum : Int32) (sn : Int32) (zr zm ps ng : Addr) (zk : ClassId) (h0 : Heap) (n0 : Nat) (v : Option Value) (h : Heap) (L : List Loc) : Prop := ∃ (rb rm : Addr) (rk : ClassId) (rz rs : Int32) (rl : List Value), v = some (.ref rb) ∧ Fr n0 L ∧ Keep h0 h [] ∧ Exa Z h rb "java/math/BigInteger" ∧ Fld Z h rb "java/math/BigInteger" "signum" "I" (.int rs) ∧ Fld Z h rb "java/math/BigInteger" "mag" "[I" (.ref rm) ∧ Arv Z h rm rk .int rz rl (.int (0 : Int32)) ∧ True
theorem rmA29 (l : Launch) (Z : State) (a0 : Array Value) (hw : ∀ d ∈ tables_1, d.before a0 Z = true) (ws : List Jvm.Cond) (ob0 : Addr) (ob0_mag : Addr) (k_ob0_mag : ClassId) (ob0_mag_z : Int32) (ob0_mag_l : List Value) (ob0_signum : Int32) (ob1 : Addr) (ob1_mag : Addr) (k_ob1_mag : ClassId) (ob1_mag_z : Int32) (ob1_mag_l : List Value) (ob1_signum : Int32) (sn : Int32) (zr zm ps ng : Addr) (zk : ClassId) (h0 : Heap) (n0 : Nat) (O0 : Old Z n0 h0) (G : own_Gl Z zr zm ps ng zk) (E_ob0 : Exa Z h0 ob0 "java/math/BigInteger") (V_ob0_mag : Arv Z h0 ob0_mag k_ob0_mag .int ob0_mag_z ob0_mag_l (.int (0 : Int32))) (F_ob0_mag : Fld Z h0 ob0 "java/math/BigInteger" "mag" "[I" (.ref ob0_mag)) (F_ob0_signum : Fld Z h0 ob0 "java/math/BigInteger" "signum" "I" (.int ob0_signum)) (E_ob1 : Exa Z h0 ob1 "java/math/BigInteger") (V_ob1_mag : Arv Z h0 ob1_mag k_ob1_mag .int ob1_mag_z ob1_mag_l (.int (0 : Int32))) (F_ob1_mag : Fld Z h0 ob1 "java/math/BigInteger" "mag" "[I" (.ref ob1_mag)) (F_ob1_signum : Fld Z h0 ob1 "java/math/BigInteger" "signum" "I" (.int ob1_signum)) (ha : (ob0_signum = (0 : Int32) ∨ (ob0_signum = sn ∧ (ob0_mag_z = (1 : Int32) ∨ ob0_mag_z = (2 : Int32) ∨ ob0_mag_z = (3 : Int32) ∨ ob0_mag_z = (4 : Int32))))) (hpb : (ob1_signum = (0 : Int32) ∨ (ob1_signum = sn ∧ (ob1_mag_z = (1 : Int32) ∨ ob1_mag_z = (2 : Int32) ∨ ob1_mag_z = (3 : Int32) ∨ ob1_mag_z = (4 : Int32))))) :
    MetFree l own_y25 (head1 (Jvm.Cond.code own_y25 jdk_2097_method_32_code 4 (some (.object "java/math/BigInteger")) :: ws) ({ frames := 3, cells := 3, slots := 15, locals := 73 } : Room)) (fun a U => a = #[(.ref ob0), (.ref ob1)] ∧ Z.Warmed39 U.vm ∧ U.heap = h0) (fun _ _ _ _ _ => True) (fun _ U o U' => ∃ v L, o = .returned v ∧ own_Q_rmA29 Z ob0 ob0_mag k_ob0_mag ob0_mag_z ob0_mag_l ob0_signum ob1 ob1_mag k_ob1_mag ob1_mag_z ob1_mag_l ob1_signum sn zr zm ps ng zk h0 n0 v U'.heap L ∧ FrameEnd U o U' L ({ frames := 3, cells := 3, slots := 15, locals := 73 } : Room).cells ({ frames := 3, cells := 3, slots := 15, locals := 73 } : Room).slots) := by
  refine MetFree.of_bodySF (plainFor_of_name own_pn1) hisR ?_
  intro p e s m args below meth c s₁ Bd hml0 hP hK
  obtain ⟨rfl, hZ, hh⟩ := hP
  have hx := Bd.exec
  have hby := Bd.bytes
  have hml : c.maxLocals = 4 := hml0
  have hown : s.vm.findClass "java/math/BigInteger" = some m.cls := findClass_of_methodNamed Bd.named
  have hnm := (name_of_methodNamed Bd.named Bd.method).1
  have X0 : Stand p l e ({ frames := 3, cells := 3, slots := 15, locals := 73 } : Room) s m #[(.ref ob0), (.ref ob1)] below meth c s₁ [] 0 0 := Stand.of_body Bd
  have e0 : s₁.heap = h0 := by rw [← hh, Bd.state]; rfl
  have N0 := Fr.nil n0
  have Z0 : n0 ≤ h0.size := O0.1 ▸ O0.2.1
  have g0 : ∀ t, FS p e below s₁ m 0 #[oa ob0, oa ob1, vU, vU] [] t → ES p e below s₁ m #[(.ref ob0), (.ref ob1)] 4 t := fun t k => castTop (own_ef30 m (ob0) (ob1)) k
  have G0 := G
  obtain ⟨S_Z, E_Z, F_Zs, F_Zm, V_Z, S_P, P_P, S_N, P_N⟩ := G
  obtain ⟨T1, X1, e1, st1⟩ := getF X0 hx hZ hown (host := "") (Or.inl (own_w hw 84 rfl)) Via.refl e0 F_ob1_signum (g := (mkF m 1 #[oa ob0, oa ob1, vU, vU] [(.ref ob1)])) rfl rfl (hb hby d20_1)
  have g3 : ∀ t, FS p e below T1 m 4 #[oa ob0, oa ob1, vU, vU] [(.int ob1_signum)] t → ES p e below s₁ m #[(.ref ob0), (.ref ob1)] 4 t := by
    intro t k
    refine g0 t ?_
    show FS p e below s₁ m 0 #[oa ob0, oa ob1, vU, vU] [] _
    refine XS.aloadN X0.here hx rfl (hb hby d20_0) rfl rfl ?_
    refine st1 _ ?_
    exact k
  by_cases hc2 : ob1_signum = (0 : Int32)
  · have g4 : ∀ t, FS p e below T1 m 8 #[oa ob0, oa ob1, vU, vU] [(.ref ob0)] t → ES p e below s₁ m #[(.ref ob0), (.ref ob1)] 4 t := by
      intro t k
      refine g3 t ?_
      show FS p e below T1 m 4 #[oa ob0, oa ob1, vU, vU] [(.int ob1_signum)] _
      refine XS.ifNo X1.here hx rfl (hb hby d20_4) rfl ((if0 _ _).trans (teq hc2).2) ?_
      refine XS.aloadN X1.here hx rfl (hb hby d20_7) rfl rfl ?_
      exact k
    obtain ⟨fs, hrt, hrun, hended, hW, hsame⟩ := X1.leave (v := some (.ref ob0)) (fun h => by rw [Bd.returns] at h; cases h)
    refine ⟨_, _, g4 _ ?_, hrun, hended, _, _, rfl, ?_, ⟨_, rfl⟩, hW, hsame.mono (by decide) (by decide)⟩
    · show Steps p.tables e below (T1.setTop (mkF m 8 #[oa ob0, oa ob1, vU, vU] [(.ref ob0)])) _
      jvm_step X1.here [X1.here.top, hx, (hb hby d20_8), X1.method', Bd.returns, Value.isRef, FieldType.isReference]
      first | (intro acts; rw [hrt _ acts rfl rfl rfl]) | rw [hrt _ _ rfl rfl rfl]
      exact Steps.refl _
    · show own_Q_rmA29 Z ob0 ob0_mag k_ob0_mag ob0_mag_z ob0_mag_l ob0_signum ob1 ob1_mag k_ob1_mag ob1_mag_z ob1_mag_l ob1_signum sn zr zm ps ng zk h0 n0 _ T1.heap _
      rw [e1]
      exact ⟨ob0, ob0_mag, _, _, _, _, rfl, N0, (Keep.refl h0 []), E_ob0, F_ob0_signum, F_ob0_mag, V_ob0_mag, trivial⟩
  · obtain ⟨T5, X5, e5, st5⟩ := getF X1 hx hZ hown (host := "") (Or.inl (own_w hw 84 rfl)) Via.refl e1 F_ob0_signum (g := (mkF m 10 #[oa ob0, oa ob1, vU, vU] [(.ref ob0)])) rfl rfl (hb hby d20_10)
    have g7 : ∀ t, FS p e below T5 m 13 #[oa ob0, oa ob1, vU, vU] [(.int ob0_signum)] t → ES p e below s₁ m #[(.ref ob0), (.ref ob1)] 4 t := by
      intro t k
      refine g3 t ?_
      show FS p e below T1 m 4 #[oa ob0, oa ob1, vU, vU] [(.int ob1_signum)] _
      refine XS.ifYes X1.here hx rfl (pc0 := 4) (pc' := 9) rfl (hb hby d20_4) rfl ((if0 _ _).trans (feq hc2).2) (by decide) (by decide) ?_
      refine XS.aloadN X1.here hx rfl (hb hby d20_9) rfl rfl ?_
      refine st5 _ ?_
      exact k
    by_cases hc6 : ob0_signum = (0 : Int32)
    · have g8 : ∀ t, FS p e below T5 m 17 #[oa ob0, oa ob1, vU, vU] [(.ref ob1)] t → ES p e below s₁ m #[(.ref ob0), (.ref ob1)] 4 t := by
        intro t k
        refine g7 t ?_
        show FS p e below T5 m 13 #[oa ob0, oa ob1, vU, vU] [(.int ob0_signum)] _
        refine XS.ifNo X5.here hx rfl (hb hby d20_13) rfl ((if0 _ _).trans (teq hc6).2) ?_
        refine XS.aloadN X5.here hx rfl (hb hby d20_16) rfl rfl ?_
        exact k
      obtain ⟨fs, hrt, hrun, hended, hW, hsame⟩ := X5.leave (v := some (.ref ob1)) (fun h => by rw [Bd.returns] at h; cases h)
      refine ⟨_, _, g8 _ ?_, hrun, hended, _, _, rfl, ?_, ⟨_, rfl⟩, hW, hsame.mono (by decide) (by decide)⟩
      · show Steps p.tables e below (T5.setTop (mkF m 17 #[oa ob0, oa ob1, vU, vU] [(.ref ob1)])) _
        jvm_step X5.here [X5.here.top, hx, (hb hby d20_17), X5.method', Bd.returns, Value.isRef, FieldType.isReference]
        first | (intro acts; rw [hrt _ acts rfl rfl rfl]) | rw [hrt _ _ rfl rfl rfl]
        exact Steps.refl _
      · show own_Q_rmA29 Z ob0 ob0_mag k_ob0_mag ob0_mag_z ob0_mag_l ob0_signum ob1 ob1_mag k_ob1_mag ob1_mag_z ob1_mag_l ob1_signum sn zr zm ps ng zk h0 n0 _ T5.heap _
        rw [e5]
        exact ⟨ob1, ob1_mag, _, _, _, _, rfl, N0, (Keep.refl h0 []), E_ob1, F_ob1_signum, F_ob1_mag, V_ob1_mag, trivial⟩
    · obtain ⟨T9, X9, e9, st9⟩ := getF X5 hx hZ hown (host := "") (Or.inl (own_w hw 84 rfl)) Via.refl e5 F_ob1_signum (g := (mkF m 19 #[oa ob0, oa ob1, vU, vU] [(.ref ob1)])) rfl rfl (hb hby d20_19)
      obtain ⟨T10, X10, e10, st10⟩ := getF X9 hx hZ hown (host := "") (Or.inl (own_w hw 84 rfl)) Via.refl e9 F_ob0_signum (g := (mkF m 23 #[oa ob0, oa ob1, vU, vU] [(.ref ob0), (.int ob1_signum)])) rfl rfl (hb hby d20_23)
      have hc11 : ob1_signum = ob0_signum := (own_nz hpb hc2).1.trans (own_nz ha hc6).1.symm
      obtain ⟨T12, h12, X12, e12, E12, A12, D12, -, st12⟩ := newO X10 hx hZ hown (own_w hw 71 rfl) (own_w hw 72 rfl) (own_w hw 52 rfl) e10 (g := (mkF m 29 #[oa ob0, oa ob1, vU, vU] [])) rfl (hb hby d20_29) (by decide) (by decide)
      obtain ⟨b12, q_b12⟩ : ∃ z, z = h0.size := ⟨_, rfl⟩
      rw [← q_b12] at A12 D12 st12
      have sz_b12 : h0.size ≤ b12 := Nat.le_of_eq q_b12.symm
      have gz_b12 : n0 ≤ b12 := Nat.le_trans Z0 sz_b12
      have ne_ob0_b12 : ob0 ≠ b12 := Nat.ne_of_lt (Nat.lt_of_lt_of_le E_ob0.lt (Nat.le_of_eq q_b12.symm))
      have ne_ob0_mag_b12 : ob0_mag ≠ b12 := Nat.ne_of_lt (Nat.lt_of_lt_of_le V_ob0_mag.lt (Nat.le_of_eq q_b12.symm))
      have ne_ob1_b12 : ob1 ≠ b12 := Nat.ne_of_lt (Nat.lt_of_lt_of_le E_ob1.lt (Nat.le_of_eq q_b12.symm))
      have ne_ob1_mag_b12 : ob1_mag ≠ b12 := Nat.ne_of_lt (Nat.lt_of_lt_of_le V_ob1_mag.lt (Nat.le_of_eq q_b12.symm))
      have F12_signum : Fld Z h12 b12 "java/math/BigInteger" "signum" "I" (.int (0 : Int32)) := D12 (Or.inr (own_w hw 85 rfl)) (ty := .int) (by decide)
      have F12_mag : Fld Z h12 b12 "java/math/BigInteger" "mag" "[I" .null := D12 (Or.inr (own_w hw 88 rfl)) (ty := (.array .int)) (by decide)
      have f13 := (F_ob0_mag.ext E12)
      obtain ⟨T14, X14, e14, st14⟩ := getF X12 hx hZ hown (host := "") (Or.inl (own_w hw 87 rfl)) Via.refl e12 f13 (g := (mkF m 34 #[oa ob0, oa ob1, vU, vU] [(.ref ob0), (.ref b12), (.ref b12)])) rfl rfl (hb hby d20_34)
      have f15 := (F_ob1_mag.ext E12)
      obtain ⟨T16, X16, e16, st16⟩ := getF X14 hx hZ hown (host := "") (Or.inl (own_w hw 87 rfl)) Via.refl e14 f15 (g := (mkF m 38 #[oa ob0, oa ob1, vU, vU] [(.ref ob1), (.ref ob0_mag), (.ref b12), (.ref b12)])) rfl rfl (hb hby d20_38)
      have f17 := (V_ob0_mag.ext E12)
      have f18 := (V_ob1_mag.ext E12)
      have o19 : Old Z n0 h12 := (Old.ext O0 E12)
      obtain ⟨_, _, ⟨T20, L20, k20, n20⟩, -, X20, ⟨Lc20, hQ20, l20, y20, z20⟩, st20⟩ := Jvm.LawKit.callS X16 hx (y := own_y26) hown (mvT hZ (own_w hw 172 rfl)) (mvT hZ (own_w hw 173 rfl)) (mvT hZ (own_w hw 52 rfl)) (mvT hZ (own_w hw 174 rfl)) (by decide) (backOf (W := 2) (rmA30 l Z a0 hw [] ob0_mag k_ob0_mag (ob0_mag_z) ob0_mag_l ob1_mag k_ob1_mag (ob1_mag_z) ob1_mag_l  zr zm ps ng zk h12 n0 o19 G0 f17 f18  (own_nz ha hc6).2 (own_nz hpb hc2).2) hZ (own_w hw 174 rfl) (own_w hw 52 rfl) (by decide) (by decide)) (g := (mkF m 41 #[oa ob0, oa ob1, vU, vU] [(.ref ob1_mag), (.ref ob0_mag), (.ref b12), (.ref b12)])) rfl (by rw [hml]; rfl) (argsL := [(.ref ob0_mag), (.ref ob1_mag)]) (rest := [(.ref b12), (.ref b12)]) (lenOf own_pd19 rfl) rfl (own_W0 rfl) (hb hby d20_41) (fun _ _ => ⟨rfl, e16, (by decide : 1 + 2 ≤ _), (by decide : 6 + 9 ≤ _)⟩)
      dsimp only [Pt.U, Pt.locs, Pt.cells, Pt.slots] at X20 l20 y20 z20 st20 hQ20
      subst l20 y20 z20
      obtain ⟨rb20, rk20, rz20, rl20, rfl, Nq20, K20, hb20, Va20, Qc20⟩ := hQ20
      have N20 := Fr.app N0 Nq20
      have sz_rb20 : h0.size ≤ rb20 := Nat.le_trans E12.1 hb20
      have gz_rb20 : n0 ≤ rb20 := Nat.le_trans Z0 sz_rb20
      have ne_b12_rb20 : b12 ≠ rb20 := Nat.ne_of_lt (Nat.lt_of_lt_of_le A12.lt hb20)
      have ne_ob0_rb20 : ob0 ≠ rb20 := Nat.ne_of_lt (Nat.lt_of_lt_of_le (E_ob0.ext E12).lt hb20)
      have ne_ob0_mag_rb20 : ob0_mag ≠ rb20 := Nat.ne_of_lt (Nat.lt_of_lt_of_le f17.lt hb20)
      have ne_ob1_rb20 : ob1 ≠ rb20 := Nat.ne_of_lt (Nat.lt_of_lt_of_le (E_ob1.ext E12).lt hb20)
      have ne_ob1_mag_rb20 : ob1_mag ≠ rb20 := Nat.ne_of_lt (Nat.lt_of_lt_of_le f18.lt hb20)
      have f21 := ((F_ob0_signum.ext E12).keep K20 nin0)
      obtain ⟨T22, X22, e22, st22⟩ := getF X20 hx hZ hown (host := "") (Or.inl (own_w hw 84 rfl)) Via.refl rfl f21 (g := (mkF m 45 #[oa ob0, oa ob1, vU, vU] [(.ref ob0), (.ref rb20), (.ref b12), (.ref b12)])) rfl rfl (hb hby d20_45)
      have f23 := (A12.keep K20)
      have f24 := (F12_mag.keep K20 nin0)
      have f25 := (F12_signum.keep K20 nin0)
      have o26 : Old Z n0 T20.heap := (Old.keep o19 K20 all0)
      obtain ⟨_, _, ⟨T27, L27, k27, n27⟩, -, X27, ⟨Lc27, hQ27, l27, y27, z27⟩, st27⟩ := X22.specialBack hx (y := own_y15) rfl hown (mvT hZ (own_w hw 127 rfl)) (mvT hZ (own_w hw 128 rfl)) (mvT hZ (own_w hw 129 rfl)) (by decide) (backOf (W := 1) (rmA18 l Z a0 hw [] b12 rb20 rk20 (rz20) rl20 (ob0_signum)  zr zm ps ng zk T20.heap n0 o26 G0 f23 f24 f25 Va20 gz_b12 Qc20.1 Qc20.2) hZ (own_w hw 129 rfl) (own_w hw 52 rfl) (by decide) (by decide)) (g := (mkF m 48 #[oa ob0, oa ob1, vU, vU] [(.int ob0_signum), (.ref rb20), (.ref b12), (.ref b12)])) rfl (by rw [hml]; rfl) (Steps.refl _) (a := b12) (argsL := [(.ref rb20), (.int ob0_signum)]) (rest := [(.ref b12)]) (lenOf own_pd9 rfl) rfl (own_W0 rfl) (hb hby d20_48) (fun _ _ => ⟨rfl, e22, (by decide : 3 + 0 ≤ _), (by decide : 15 + 0 ≤ _)⟩)
      dsimp only [Pt.U, Pt.locs, Pt.cells, Pt.slots] at X27 l27 y27 z27 st27 hQ27
      subst l27 y27 z27
      obtain ⟨rfl, Nq27, K27, Qe27, Qs27, Qm27⟩ := hQ27
      have N27 := Fr.app N20 Nq27
      have g28 : ∀ t, FS p e below T27 m 51 #[oa ob0, oa ob1, vU, vU] [(.ref b12)] t → ES p e below s₁ m #[(.ref ob0), (.ref ob1)] 4 t := by
        intro t k
        refine g7 t ?_
        show FS p e below T5 m 13 #[oa ob0, oa ob1, vU, vU] [(.int ob0_signum)] _
        refine XS.ifYes X5.here hx rfl (pc0 := 13) (pc' := 18) rfl (hb hby d20_13) rfl ((if0 _ _).trans (feq hc6).2) (by decide) (by decide) ?_
        refine XS.aloadN X5.here hx rfl (hb hby d20_18) rfl rfl ?_
        refine st9 _ ?_
        refine XS.aloadN X9.here hx rfl (hb hby d20_22) rfl rfl ?_
        refine st10 _ ?_
        refine XS.icmpNo X10.here hx rfl (hb hby d20_26) rfl (teq hc11).2 ?_
        refine st12 _ ?_
        refine XS.dup X12.here hx rfl (hb hby d20_32) rfl rfl ?_
        refine XS.aloadN X12.here hx rfl (hb hby d20_33) rfl rfl ?_
        refine st14 _ ?_
        refine XS.aloadN X14.here hx rfl (hb hby d20_37) rfl rfl ?_
        refine st16 _ ?_
        refine st20 _ ?_
        refine XS.aloadN X20.here hx rfl (hb hby d20_44) rfl rfl ?_
        refine st22 _ ?_
        refine st27.trans ?_
        exact k
      obtain ⟨fs, hrt, hrun, hended, hW, hsame⟩ := X27.leave (v := some (.ref b12)) (fun h => by rw [Bd.returns] at h; cases h)
      have f29 := (Va20.keep K27 (ninS (Ne.symm ne_b12_rb20) nin0))
      refine ⟨_, _, g28 _ ?_, hrun, hended, _, _, rfl, ?_, ⟨_, rfl⟩, hW, hsame.mono (by decide) (by decide)⟩
      · show Steps p.tables e below (T27.setTop (mkF m 51 #[oa ob0, oa ob1, vU, vU] [(.ref b12)])) _
        jvm_step X27.here [X27.here.top, hx, (hb hby d20_51), X27.method', Bd.returns, Value.isRef, FieldType.isReference]
        first | (intro acts; rw [hrt _ acts rfl rfl rfl]) | rw [hrt _ _ rfl rfl rfl]
        exact Steps.refl _
      · show own_Q_rmA29 Z ob0 ob0_mag k_ob0_mag ob0_mag_z ob0_mag_l ob0_signum ob1 ob1_mag k_ob1_mag ob1_mag_z ob1_mag_l ob1_signum sn zr zm ps ng zk h0 n0 _ T27.heap _
        exact ⟨b12, rb20, _, _, _, _, rfl, N27, (Keep.trans (Keep.trans (Keep.ext (Keep.refl h0 []) E12) K20 all0) K27 (allS (Or.inr sz_b12) all0)), Qe27, Qs27, Qm27, f29, trivial⟩
theorem d6_29 : decode q6 29 = .ok (.putfield 13, 3) := by decide +kernel
theorem d6_32 : decode q6 32 = .ok (.return_, 1) := by decide +kernel
theorem own_la4 {Z : State} {a0 : Array Value} (hw : ∀ d ∈ tables_1, d.before a0 Z = true) : Laid Z a0 "orderwire/orders/Order" "orderwire/orders/Order" "request" "Lorderwire/orders/NewOrder;" := Or.inl (own_w hw 58 rfl)
theorem own_ty4 : parseFieldDescriptor "Lorderwire/orders/NewOrder;" = some (.object "orderwire/orders/NewOrder") := by decide
theorem own_la5 {Z : State} {a0 : Array Value} (hw : ∀ d ∈ tables_1, d.before a0 Z = true) : Laid Z a0 "orderwire/orders/Order" "orderwire/orders/Order" "cancelled" "Z" := Or.inl (own_w hw 142 rfl)
theorem own_ty5 : parseFieldDescriptor "Z" = some .boolean := by decide
def own_Q_rmA2 (Z : State) (ob0 : Addr) (ob0_cumQty : Int64) (ob0_notional : Addr) (ob0_notional_mag : Addr) (k_ob0_notional_mag : ClassId) (ob0_notional_mag_z : Int32) (ob0_notional_mag_l : List Value) (ob0_notional_signum : Int32) (ob0_request : Addr) (p1 : Int64) (p2 : Int64) (cq : Int64) (sn : Int32) (zr zm ps ng : Addr) (zk : ClassId) (h0 : Heap) (n0 : Nat) (v : Option Value) (h : Heap) (L : List Loc) : Prop := v = none ∧ Fr n0 L ∧ Keep h0 h [ob0] ∧ ∃ (rb rm : Addr) (rk : ClassId) (rz rs : Int32) (rl : List Value), Exa Z h ob0 "orderwire/orders/Order" ∧ Fld Z h ob0 "orderwire/orders/Order" "cumQty" "J" (.long cq) ∧ Fld Z h ob0 "orderwire/orders/Order" "request" "Lorderwire/orders/NewOrder;" (.ref ob0_request) ∧ Fld Z h ob0 "orderwire/orders/Order" "cancelled" "Z" (.int (0 : Int32)) ∧ Fld Z h ob0 "orderwire/orders/Order" "notional" "Ljava/math/BigInteger;" (.ref rb) ∧ Exa Z h rb "java/math/BigInteger" ∧ Fld Z h rb "java/math/BigInteger" "signum" "I" (.int rs) ∧ Fld Z h rb "java/math/BigInteger" "mag" "[I" (.ref rm) ∧ Arv Z h rm rk .int rz rl (.int (0 : Int32)) ∧ True
theorem rmA2 (l : Launch) (Z : State) (a0 : Array Value) (hw : ∀ d ∈ tables_1, d.before a0 Z = true) (ws : List Jvm.Cond) (ob0 : Addr) (ob0_cumQty : Int64) (ob0_notional : Addr) (ob0_notional_mag : Addr) (k_ob0_notional_mag : ClassId) (ob0_notional_mag_z : Int32) (ob0_notional_mag_l : List Value) (ob0_notional_signum : Int32) (ob0_request : Addr) (p1 : Int64) (p2 : Int64) (cq : Int64) (sn : Int32) (zr zm ps ng : Addr) (zk : ClassId) (h0 : Heap) (n0 : Nat) (O0 : Old Z n0 h0) (G : own_Gl Z zr zm ps ng zk) (E_ob0 : Exa Z h0 ob0 "orderwire/orders/Order") (F_ob0_cancelled : Fld Z h0 ob0 "orderwire/orders/Order" "cancelled" "Z" (.int (0 : Int32))) (F_ob0_cumQty : Fld Z h0 ob0 "orderwire/orders/Order" "cumQty" "J" (.long ob0_cumQty)) (E_ob0_notional : Exa Z h0 ob0_notional "java/math/BigInteger") (V_ob0_notional_mag : Arv Z h0 ob0_notional_mag k_ob0_notional_mag .int ob0_notional_mag_z ob0_notional_mag_l (.int (0 : Int32))) (F_ob0_notional_mag : Fld Z h0 ob0_notional "java/math/BigInteger" "mag" "[I" (.ref ob0_notional_mag)) (F_ob0_notional_signum : Fld Z h0 ob0_notional "java/math/BigInteger" "signum" "I" (.int ob0_notional_signum)) (F_ob0_notional : Fld Z h0 ob0 "orderwire/orders/Order" "notional" "Ljava/math/BigInteger;" (.ref ob0_notional)) (F_ob0_request : Fld Z h0 ob0 "orderwire/orders/Order" "request" "Lorderwire/orders/NewOrder;" (.ref ob0_request)) (gz_ob0 : n0 ≤ ob0) (hcq : (ob0_cumQty + p1) = cq) (hq : ¬ (p1 < (0 : Int64))) (hsn : p2 < (0 : Int64) → sn = (-1 : Int32)) (hsp : ¬ (p2 < (0 : Int64)) → sn = (1 : Int32)) (ha : (ob0_notional_signum = (0 : Int32) ∨ (ob0_notional_signum = sn ∧ (ob0_notional_mag_z = (1 : Int32) ∨ ob0_notional_mag_z = (2 : Int32) ∨ ob0_notional_mag_z = (3 : Int32) ∨ ob0_notional_mag_z = (4 : Int32))))) :
    MetFree l own_y2 (head1 (Jvm.Cond.code own_y2 prog_111_method_7_code 5 none :: ws) ({ frames := 6, cells := 10, slots := 45, locals := 140 } : Room)) (fun a U => a = #[(.ref ob0), (.long p1), (.long p2)] ∧ Z.Warmed39 U.vm ∧ U.heap = h0) (fun _ _ _ _ _ => True) (fun _ U o U' => ∃ v L, o = .returned v ∧ own_Q_rmA2 Z ob0 ob0_cumQty ob0_notional ob0_notional_mag k_ob0_notional_mag ob0_notional_mag_z ob0_notional_mag_l ob0_notional_signum ob0_request p1 p2 cq sn zr zm ps ng zk h0 n0 v U'.heap L ∧ FrameEnd U o U' L ({ frames := 6, cells := 10, slots := 45, locals := 140 } : Room).cells ({ frames := 6, cells := 10, slots := 45, locals := 140 } : Room).slots) := by
  refine MetFree.of_bodySF (plainFor_of_name own_pn0) hisR ?_
  intro p e s m args below meth c s₁ Bd hml0 hP hK
  obtain ⟨rfl, hZ, hh⟩ := hP
  have hx := Bd.exec
  have hby := Bd.bytes
  have hml : c.maxLocals = 5 := hml0
  have hown : s.vm.findClass "orderwire/orders/Order" = some m.cls := findClass_of_methodNamed Bd.named
  have hnm := (name_of_methodNamed Bd.named Bd.method).1
  have X0 : Stand p l e ({ frames := 6, cells := 10, slots := 45, locals := 140 } : Room) s m #[(.ref ob0), (.long p1), (.long p2)] below meth c s₁ [] 0 0 := Stand.of_body Bd
  have e0 : s₁.heap = h0 := by rw [← hh, Bd.state]; rfl
  have N0 := Fr.nil n0
  have Z0 : n0 ≤ h0.size := O0.1 ▸ O0.2.1
  have g0 : ∀ t, FS p e below s₁ m 0 #[oa ob0, oj p1, vS, oj p2, vS] [] t → ES p e below s₁ m #[(.ref ob0), (.long p1), (.long p2)] 5 t := fun t k => castTop (own_ef3 m (ob0) (p1) (p2)) k
  have G0 := G
  obtain ⟨S_Z, E_Z, F_Zs, F_Zm, V_Z, S_P, P_P, S_N, P_N⟩ := G
  obtain ⟨T1, X1, e1, st1⟩ := getF X0 hx hZ hown (host := "") (Or.inl (own_w hw 64 rfl)) Via.refl e0 F_ob0_cumQty (g := (mkF m 2 #[oa ob0, oj p1, vS, oj p2, vS] [(.ref ob0), (.ref ob0)])) rfl rfl (hb hby d6_2)
  obtain ⟨T2, h2, X2, e2, W2, st2⟩ := putF X1 hx hZ hown (host := "") (Or.inl (own_w hw 64 rfl)) Via.refl e1 F_ob0_cumQty E_ob0 (Or.inl (own_w hw 65 rfl)) (own_w hw 2 rfl) (ty := .long) (by decide) rfl rfl (g := (mkF m 7 #[oa ob0, oj p1, vS, oj p2, vS] [(.long (ob0_cumQty + p1)), (.ref ob0)])) rfl rfl (hb hby d6_7)
  have Fw2 := F_ob0_cumQty.same W2
  have N2 := Fr.snoc X2 N0 gz_ob0
  have f3 := (F_ob0_notional.other W2 (Or.inr (slot_ne (own_la0 hw) (own_la1 hw) (by decide) own_ty0 own_ty1)))
  obtain ⟨T4, X4, e4, st4⟩ := getF X2 hx hZ hown (host := "") (Or.inl (own_w hw 53 rfl)) Via.refl e2 f3 (g := (mkF m 12 #[oa ob0, oj p1, vS, oj p2, vS] [(.ref ob0), (.ref ob0)])) rfl rfl (hb hby d6_12)
  have o5 : Old Z n0 h2 := (Old.wr O0 W2 gz_ob0)
  obtain ⟨_, _, ⟨T6, L6, k6, n6⟩, -, X6, ⟨Lc6, hQ6, l6, y6, z6⟩, st6⟩ := Jvm.LawKit.callS X4 hx (y := own_y3) hown (mvT hZ (own_w hw 66 rfl)) (mvT hZ (own_w hw 67 rfl)) (mvT hZ (own_w hw 52 rfl)) (mvT hZ (own_w hw 68 rfl)) (by decide) (backOf (W := 2) (rmA3 l Z a0 hw [] (p1) (1 : Int32) zr zm ps ng zk h2 n0 o5 G0   (fun q => absurd q hq) (fun _ => rfl)) hZ (own_w hw 68 rfl) (own_w hw 52 rfl) (by decide) (by decide)) (g := (mkF m 16 #[oa ob0, oj p1, vS, oj p2, vS] [(.long p1), (.ref ob0_notional), (.ref ob0)])) rfl (by rw [hml]; rfl) (argsL := [(.long p1)]) (rest := [(.ref ob0_notional), (.ref ob0)]) (lenOf own_pd3 rfl) rfl (own_W0 rfl) (hb hby d6_16) (fun _ _ => ⟨rfl, e4, (by decide : 0 + 2 ≤ _), (by decide : 0 + 8 ≤ _)⟩)
  dsimp only [Pt.U, Pt.locs, Pt.cells, Pt.slots] at X6 l6 y6 z6 st6 hQ6
  subst l6 y6 z6
  obtain ⟨rb6, rm6, rk6, rz6, rs6, rl6, rfl, Nq6, K6, Qe6, Qs6, Qm6, Qa6, Qc6⟩ := hQ6
  have N6 := Fr.app N2 Nq6
  have o7 : Old Z n0 T6.heap := (Old.keep o5 K6 all0)
  obtain ⟨_, _, ⟨T8, L8, k8, n8⟩, -, X8, ⟨Lc8, hQ8, l8, y8, z8⟩, st8⟩ := Jvm.LawKit.callS X6 hx (y := own_y3) hown (mvT hZ (own_w hw 66 rfl)) (mvT hZ (own_w hw 67 rfl)) (mvT hZ (own_w hw 52 rfl)) (mvT hZ (own_w hw 68 rfl)) (by decide) (backOf (W := 3) (rmA3 l Z a0 hw [] (p2) sn zr zm ps ng zk T6.heap n0 o7 G0   hsn hsp) hZ (own_w hw 68 rfl) (own_w hw 52 rfl) (by decide) (by decide)) (g := (mkF m 20 #[oa ob0, oj p1, vS, oj p2, vS] [(.long p2), (.ref rb6), (.ref ob0_notional), (.ref ob0)])) rfl (by rw [hml]; rfl) (argsL := [(.long p2)]) (rest := [(.ref rb6), (.ref ob0_notional), (.ref ob0)]) (lenOf own_pd3 rfl) rfl (own_W0 rfl) (hb hby d6_20) (fun _ _ => ⟨rfl, rfl, (by decide : 2 + 2 ≤ _), (by decide : 8 + 8 ≤ _)⟩)
  dsimp only [Pt.U, Pt.locs, Pt.cells, Pt.slots] at X8 l8 y8 z8 st8 hQ8
  subst l8 y8 z8
  obtain ⟨rb8, rm8, rk8, rz8, rs8, rl8, rfl, Nq8, K8, Qe8, Qs8, Qm8, Qa8, Qc8⟩ := hQ8
  have N8 := Fr.app N6 Nq8
  obtain ⟨LL9, XL9, NL9⟩ : ∃ LL : List Loc, Stand p l e ({ frames := 6, cells := 10, slots := 45, locals := 140 } : Room) s m #[(.ref ob0), (.long p1), (.long p2)] below meth c T8 LL 4 16 ∧ Fr n0 LL := ⟨_, X8, N8⟩
  have f10 := (Qe6.keep K8)
  have f11 := (Qa6.keep K8 nin0)
  have f12 := (Qm6.keep K8 nin0)
  have f13 := (Qs6.keep K8 nin0)
  have o14 : Old Z n0 T8.heap := (Old.keep o7 K8 all0)
  obtain ⟨cq15, kq15, q15a, q15b, q15c⟩ := isOf hZ rfl f10
  obtain ⟨_, _, ⟨T15, L15, k15, n15⟩, -, X15, ⟨Lc15, hQ15, l15, y15, z15⟩, st15⟩ := XL9.virtualBack hx (y := own_y6) (z := own_y6) hown (mvT hZ (own_w hw 89 rfl)) (mvT hZ (own_w hw 90 rfl)) (notFace_of_selects (args := #[]) (mvT hZ (own_w hw 92 rfl))) (mvT hZ (own_w hw 92 rfl)) (mvT hZ (own_w hw 91 rfl)) (by decide) (backOf (W := 2) (rmA6 l Z a0 hw [] rb6 rm6 rk6 (rz6) rl6 (rs6) rb8 rm8 rk8 (rz8) rl8 (rs8) sn zr zm ps ng zk T8.heap n0 o14 G0 f10 f11 f12 f13 Qe8 Qa8 Qm8 Qs8  Qc6 Qc8 (own_sn hsn hsp)) hZ (own_w hw 93 rfl) (own_w hw 52 rfl) (by decide) (by decide)) q15a q15c (g := (mkF m 23 #[oa ob0, oj p1, vS, oj p2, vS] [(.ref rb8), (.ref rb6), (.ref ob0_notional), (.ref ob0)])) rfl (by rw [hml]; rfl) (Steps.refl _) (argsL := [(.ref rb8)]) (rest := [(.ref ob0_notional), (.ref ob0)]) (lenOf own_pd18 rfl) rfl (own_W0 rfl) (hb hby d6_23) (fun _ _ => ⟨rfl, rfl, (by decide : 4 + 3 ≤ _), (by decide : 16 + 14 ≤ _)⟩)
  dsimp only [Pt.U, Pt.locs, Pt.cells, Pt.slots] at X15 l15 y15 z15 st15 hQ15
  subst l15 y15 z15
  obtain ⟨rb15, rm15, rk15, rz15, rs15, rl15, rfl, Nq15, K15, Qe15, Qs15, Qm15, Qa15, Qc15⟩ := hQ15
  have N15 := Fr.app NL9 Nq15
  have f16 := ((((E_ob0_notional.wr W2).keep K6).keep K8).keep K15)
  have f17 := ((((V_ob0_notional_mag.other W2 (Ne.symm (Exa.neArv E_ob0 V_ob0_notional_mag (own_w hw 2 rfl)))).keep K6 nin0).keep K8 nin0).keep K15 nin0)
  have f18 := ((((F_ob0_notional_mag.other W2 (Or.inl (Exa.ne E_ob0_notional E_ob0 (by decide)))).keep K6 nin0).keep K8 nin0).keep K15 nin0)
  have f19 := ((((F_ob0_notional_signum.other W2 (Or.inl (Exa.ne E_ob0_notional E_ob0 (by decide)))).keep K6 nin0).keep K8 nin0).keep K15 nin0)
  have o20 : Old Z n0 T15.heap := (Old.keep o14 K15 all0)
  obtain ⟨cq21, kq21, q21a, q21b, q21c⟩ := isOf hZ rfl f16
  obtain ⟨_, _, ⟨T21, L21, k21, n21⟩, -, X21, ⟨Lc21, hQ21, l21, y21, z21⟩, st21⟩ := X15.virtualBack hx (y := own_y25) (z := own_y25) hown (mvT hZ (own_w hw 131 rfl)) (mvT hZ (own_w hw 132 rfl)) (notFace_of_selects (args := #[]) (mvT hZ (own_w hw 134 rfl))) (mvT hZ (own_w hw 134 rfl)) (mvT hZ (own_w hw 133 rfl)) (by decide) (backOf (W := 1) (rmA29 l Z a0 hw [] ob0_notional ob0_notional_mag k_ob0_notional_mag (ob0_notional_mag_z) ob0_notional_mag_l (ob0_notional_signum) rb15 rm15 rk15 (rz15) rl15 (rs15) sn zr zm ps ng zk T15.heap n0 o20 G0 f16 f17 f18 f19 Qe15 Qa15 Qm15 Qs15  ha Qc15) hZ (own_w hw 135 rfl) (own_w hw 52 rfl) (by decide) (by decide)) q21a q21c (g := (mkF m 26 #[oa ob0, oj p1, vS, oj p2, vS] [(.ref rb15), (.ref ob0_notional), (.ref ob0)])) rfl (by rw [hml]; rfl) (Steps.refl _) (argsL := [(.ref rb15)]) (rest := [(.ref ob0)]) (lenOf own_pd18 rfl) rfl (own_W0 rfl) (hb hby d6_26) (fun _ _ => ⟨rfl, rfl, (by decide : 7 + 3 ≤ _), (by decide : 30 + 15 ≤ _)⟩)
  dsimp only [Pt.U, Pt.locs, Pt.cells, Pt.slots] at X21 l21 y21 z21 st21 hQ21
  subst l21 y21 z21
  obtain ⟨rb21, rm21, rk21, rz21, rs21, rl21, rfl, Nq21, K21, Qe21, Qs21, Qm21, Qa21, Qc21⟩ := hQ21
  have N21 := Fr.app N15 Nq21
  have f22 := (((((E_ob0.wr W2).keep K6).keep K8).keep K15).keep K21)
  have f23 := ((((f3.keep K6 nin0).keep K8 nin0).keep K15 nin0).keep K21 nin0)
  obtain ⟨T24, h24, X24, e24, W24, st24⟩ := putF X21 hx hZ hown (host := "") (Or.inl (own_w hw 53 rfl)) Via.refl rfl f23 f22 (Or.inl (own_w hw 54 rfl)) (own_w hw 2 rfl) (ty := (.object "java/math/BigInteger")) (by decide) rfl rfl (g := (mkF m 29 #[oa ob0, oj p1, vS, oj p2, vS] [(.ref rb21), (.ref ob0)])) rfl rfl (hb hby d6_29)
  have Fw24 := f23.same W24
  have N24 := Fr.snoc X24 N21 gz_ob0
  have g25 : ∀ t, FS p e below T24 m 32 #[oa ob0, oj p1, vS, oj p2, vS] [] t → ES p e below s₁ m #[(.ref ob0), (.long p1), (.long p2)] 5 t := by
    intro t k
    refine g0 t ?_
    show FS p e below s₁ m 0 #[oa ob0, oj p1, vS, oj p2, vS] [] _
    refine XS.aloadN X0.here hx rfl (hb hby d6_0) rfl rfl ?_
    refine XS.dup X0.here hx rfl (hb hby d6_1) rfl rfl ?_
    refine st1 _ ?_
    refine XS.lloadN X1.here hx rfl (hb hby d6_5) rfl ?_
    refine XS.ladd X1.here hx rfl (hb hby d6_6) rfl ?_
    refine st2 _ ?_
    refine XS.aloadN X2.here hx rfl (hb hby d6_10) rfl rfl ?_
    refine XS.aloadN X2.here hx rfl (hb hby d6_11) rfl rfl ?_
    refine st4 _ ?_
    refine XS.lloadN X4.here hx rfl (hb hby d6_15) rfl ?_
    refine st6 _ ?_
    refine XS.lloadN X6.here hx rfl (hb hby d6_19) rfl ?_
    refine st8 _ ?_
    refine st15.trans ?_
    refine st21.trans ?_
    refine st24 _ ?_
    exact k
  obtain ⟨fs, hrt, hrun, hended, hW, hsame⟩ := X24.leave (v := none) (fun _ => rfl)
  have f26 := (f22.wr W24)
  have f27 := (((((Fw2.keep K6 nin0).keep K8 nin0).keep K15 nin0).keep K21 nin0).other W24 (Or.inr (slot_ne (own_la1 hw) (own_la0 hw) (by decide) own_ty1 own_ty0)))
  have f28 := ((((((F_ob0_request.other W2 (Or.inr (slot_ne (own_la4 hw) (own_la1 hw) (by decide) own_ty4 own_ty1))).keep K6 nin0).keep K8 nin0).keep K15 nin0).keep K21 nin0).other W24 (Or.inr (slot_ne (own_la4 hw) (own_la0 hw) (by decide) own_ty4 own_ty0)))
  have f29 := ((((((F_ob0_cancelled.other W2 (Or.inr (slot_ne (own_la5 hw) (own_la1 hw) (by decide) own_ty5 own_ty1))).keep K6 nin0).keep K8 nin0).keep K15 nin0).keep K21 nin0).other W24 (Or.inr (slot_ne (own_la5 hw) (own_la0 hw) (by decide) own_ty5 own_ty0)))
  have f30 := (Qe21.wr W24)
  have f31 := (Qs21.other W24 (Or.inl (Exa.ne Qe21 f22 (by decide))))
  have f32 := (Qm21.other W24 (Or.inl (Exa.ne Qe21 f22 (by decide))))
  have f33 := (Qa21.other W24 (Ne.symm (Exa.neArv f22 Qa21 (own_w hw 2 rfl))))
  refine ⟨_, _, g25 _ ?_, hrun, hended, _, _, rfl, ?_, ⟨_, rfl⟩, hW, hsame.mono (by decide) (by decide)⟩
  · show Steps p.tables e below (T24.setTop (mkF m 32 #[oa ob0, oj p1, vS, oj p2, vS] [])) _
    exact X24.returnOut hx Bd.returns (hb hby d6_32) hrt
  · show own_Q_rmA2 Z ob0 ob0_cumQty ob0_notional ob0_notional_mag k_ob0_notional_mag ob0_notional_mag_z ob0_notional_mag_l ob0_notional_signum ob0_request p1 p2 cq sn zr zm ps ng zk h0 n0 _ T24.heap _
    rw [e24]
    exact ⟨rfl, N24, (Keep.wr (Keep.trans (Keep.trans (Keep.trans (Keep.trans (Keep.wr (Keep.refl h0 [ob0]) W2 (Or.inl (List.mem_of_getElem? (i := 0) rfl))) K6 all0) K8 all0) K15 all0) K21 all0) W24 (Or.inl (List.mem_of_getElem? (i := 0) rfl))), rb21, rm21, _, _, _, _, f26, (hcq ▸ f27), f28, f29, Fw24, f30, f31, f32, f33, Qc21⟩
theorem own_pd20 : parseMethodDescriptor "(JJ)V" = some ⟨[.long, .long], none⟩ := by decide +kernel
theorem d21_11 : decode q21 11 = .ok (.aload_n 0, 1) := by decide +kernel
theorem d21_12 : decode q21 12 = .ok (.getfield 22, 3) := by decide +kernel
theorem d21_15 : decode q21 15 = .ok (.invokevirtual 33, 3) := by decide +kernel
abbrev own_y27 : MethodName := ⟨"orderwire/orders/NewOrder", "quantity", "()J"⟩
theorem own_pn7 : plainName "orderwire/orders/NewOrder" = true := by first | (simp [plainName, overriddenIn]; done) | decide +kernel
theorem d22_0 : decode q22 0 = .ok (.aload_n 0, 1) := by decide +kernel
theorem d22_1 : decode q22 1 = .ok (.getfield 34, 3) := by decide +kernel
theorem d22_4 : decode q22 4 = .ok (.lreturn, 1) := by decide +kernel
def own_Q_rmA32 (Z : State) (ob0 : Addr) (ob0_quantity : Int64)  (zr zm ps ng : Addr) (zk : ClassId) (h0 : Heap) (n0 : Nat) (v : Option Value) (h : Heap) (L : List Loc) : Prop := v = some (.long ob0_quantity) ∧ Fr n0 L ∧ h = h0
theorem rmA32 (l : Launch) (Z : State) (a0 : Array Value) (hw : ∀ d ∈ tables_1, d.before a0 Z = true) (ws : List Jvm.Cond) (ob0 : Addr) (ob0_quantity : Int64)  (zr zm ps ng : Addr) (zk : ClassId) (h0 : Heap) (n0 : Nat) (O0 : Old Z n0 h0) (G : own_Gl Z zr zm ps ng zk) (E_ob0 : Exa Z h0 ob0 "orderwire/orders/NewOrder") (F_ob0_quantity : Fld Z h0 ob0 "orderwire/orders/NewOrder" "quantity" "J" (.long ob0_quantity)) :
    MetFree l own_y27 (head1 (Jvm.Cond.code own_y27 prog_109_method_13_code 1 (some .long) :: ws) ({ frames := 0, cells := 0, slots := 0, locals := 0 } : Room)) (fun a U => a = #[(.ref ob0)] ∧ Z.Warmed39 U.vm ∧ U.heap = h0) (fun _ _ _ _ _ => True) (fun _ U o U' => ∃ v L, o = .returned v ∧ own_Q_rmA32 Z ob0 ob0_quantity zr zm ps ng zk h0 n0 v U'.heap L ∧ FrameEnd U o U' L ({ frames := 0, cells := 0, slots := 0, locals := 0 } : Room).cells ({ frames := 0, cells := 0, slots := 0, locals := 0 } : Room).slots) := by
  refine MetFree.of_bodySF (plainFor_of_name own_pn7) hisR ?_
  intro p e s m args below meth c s₁ Bd hml0 hP hK
  obtain ⟨rfl, hZ, hh⟩ := hP
  have hx := Bd.exec
  have hby := Bd.bytes
  have hml : c.maxLocals = 1 := hml0
  have hown : s.vm.findClass "orderwire/orders/NewOrder" = some m.cls := findClass_of_methodNamed Bd.named
  have hnm := (name_of_methodNamed Bd.named Bd.method).1
  have X0 : Stand p l e ({ frames := 0, cells := 0, slots := 0, locals := 0 } : Room) s m #[(.ref ob0)] below meth c s₁ [] 0 0 := Stand.of_body Bd
  have e0 : s₁.heap = h0 := by rw [← hh, Bd.state]; rfl
  have N0 := Fr.nil n0
  have Z0 : n0 ≤ h0.size := O0.1 ▸ O0.2.1
  have g0 : ∀ t, FS p e below s₁ m 0 #[oa ob0] [] t → ES p e below s₁ m #[(.ref ob0)] 1 t := fun t k => castTop (own_ef1 m (ob0)) k
  have G0 := G
  obtain ⟨S_Z, E_Z, F_Zs, F_Zm, V_Z, S_P, P_P, S_N, P_N⟩ := G
  obtain ⟨T1, X1, e1, st1⟩ := getF X0 hx hZ hown (host := "") (Or.inl (own_w hw 37 rfl)) Via.refl e0 F_ob0_quantity (g := (mkF m 1 #[oa ob0] [(.ref ob0)])) rfl rfl (hb hby d22_1)
  have g2 : ∀ t, FS p e below T1 m 4 #[oa ob0] [(.long ob0_quantity)] t → ES p e below s₁ m #[(.ref ob0)] 1 t := by
    intro t k
    refine g0 t ?_
    show FS p e below s₁ m 0 #[oa ob0] [] _
    refine XS.aloadN X0.here hx rfl (hb hby d22_0) rfl rfl ?_
    refine st1 _ ?_
    exact k
  obtain ⟨fs, hrt, hrun, hended, hW, hsame⟩ := X1.leave (v := some (.long ob0_quantity)) (fun h => by rw [Bd.returns] at h; cases h)
  refine ⟨_, _, g2 _ ?_, hrun, hended, _, _, rfl, ?_, ⟨_, rfl⟩, hW, hsame.mono (by decide) (by decide)⟩
  · show Steps p.tables e below (T1.setTop (mkF m 4 #[oa ob0] [(.long ob0_quantity)])) _
    exact X1.lreturnOut hx Bd.returns (hb hby d22_4) hrt
  · show own_Q_rmA32 Z ob0 ob0_quantity zr zm ps ng zk h0 n0 _ T1.heap _
    rw [e1]
    exact ⟨rfl, N0, rfl⟩
theorem d21_18 : decode q21 18 = .ok (.aload_n 0, 1) := by decide +kernel
theorem d21_19 : decode q21 19 = .ok (.getfield 26, 3) := by decide +kernel
theorem d21_22 : decode q21 22 = .ok (.lsub, 1) := by decide +kernel
def own_Q_rmA31 (Z : State) (ob0 : Addr) (ob0_cumQty : Int64) (ob0_request : Addr) (ob0_request_quantity : Int64)  (zr zm ps ng : Addr) (zk : ClassId) (h0 : Heap) (n0 : Nat) (v : Option Value) (h : Heap) (L : List Loc) : Prop := v = some (.long (ob0_request_quantity - ob0_cumQty)) ∧ Fr n0 L ∧ h = h0
theorem rmA31 (l : Launch) (Z : State) (a0 : Array Value) (hw : ∀ d ∈ tables_1, d.before a0 Z = true) (ws : List Jvm.Cond) (ob0 : Addr) (ob0_cumQty : Int64) (ob0_request : Addr) (ob0_request_quantity : Int64)  (zr zm ps ng : Addr) (zk : ClassId) (h0 : Heap) (n0 : Nat) (O0 : Old Z n0 h0) (G : own_Gl Z zr zm ps ng zk) (E_ob0 : Exa Z h0 ob0 "orderwire/orders/Order") (F_ob0_cancelled : Fld Z h0 ob0 "orderwire/orders/Order" "cancelled" "Z" (.int (0 : Int32))) (F_ob0_cumQty : Fld Z h0 ob0 "orderwire/orders/Order" "cumQty" "J" (.long ob0_cumQty)) (E_ob0_request : Exa Z h0 ob0_request "orderwire/orders/NewOrder") (F_ob0_request_quantity : Fld Z h0 ob0_request "orderwire/orders/NewOrder" "quantity" "J" (.long ob0_request_quantity)) (F_ob0_request : Fld Z h0 ob0 "orderwire/orders/Order" "request" "Lorderwire/orders/NewOrder;" (.ref ob0_request)) :
    MetFree l own_y1 (head1 (Jvm.Cond.code own_y1 prog_111_method_5_code 1 (some .long) :: ws) ({ frames := 1, cells := 0, slots := 0, locals := 12 } : Room)) (fun a U => a = #[(.ref ob0)] ∧ Z.Warmed39 U.vm ∧ U.heap = h0) (fun _ _ _ _ _ => True) (fun _ U o U' => ∃ v L, o = .returned v ∧ own_Q_rmA31 Z ob0 ob0_cumQty ob0_request ob0_request_quantity zr zm ps ng zk h0 n0 v U'.heap L ∧ FrameEnd U o U' L ({ frames := 1, cells := 0, slots := 0, locals := 12 } : Room).cells ({ frames := 1, cells := 0, slots := 0, locals := 12 } : Room).slots) := by
  refine MetFree.of_bodySF (plainFor_of_name own_pn0) hisR ?_
  intro p e s m args below meth c s₁ Bd hml0 hP hK
  obtain ⟨rfl, hZ, hh⟩ := hP
  have hx := Bd.exec
  have hby := Bd.bytes
  have hml : c.maxLocals = 1 := hml0
  have hown : s.vm.findClass "orderwire/orders/Order" = some m.cls := findClass_of_methodNamed Bd.named
  have hnm := (name_of_methodNamed Bd.named Bd.method).1
  have X0 : Stand p l e ({ frames := 1, cells := 0, slots := 0, locals := 12 } : Room) s m #[(.ref ob0)] below meth c s₁ [] 0 0 := Stand.of_body Bd
  have e0 : s₁.heap = h0 := by rw [← hh, Bd.state]; rfl
  have N0 := Fr.nil n0
  have Z0 : n0 ≤ h0.size := O0.1 ▸ O0.2.1
  have g0 : ∀ t, FS p e below s₁ m 0 #[oa ob0] [] t → ES p e below s₁ m #[(.ref ob0)] 1 t := fun t k => castTop (own_ef1 m (ob0)) k
  have G0 := G
  obtain ⟨S_Z, E_Z, F_Zs, F_Zm, V_Z, S_P, P_P, S_N, P_N⟩ := G
  obtain ⟨T1, X1, e1, st1⟩ := getF X0 hx hZ hown (host := "") (Or.inl (own_w hw 141 rfl)) Via.refl e0 F_ob0_cancelled (g := (mkF m 1 #[oa ob0] [(.ref ob0)])) rfl rfl (hb hby d21_1)
  obtain ⟨T2, X2, e2, st2⟩ := getF X1 hx hZ hown (host := "") (Or.inl (own_w hw 57 rfl)) Via.refl e1 F_ob0_request (g := (mkF m 12 #[oa ob0] [(.ref ob0)])) rfl rfl (hb hby d21_12)
  obtain ⟨cq3, kq3, q3a, q3b, q3c⟩ := isOf hZ e2 E_ob0_request
  obtain ⟨_, _, ⟨T3, L3, k3, n3⟩, -, X3, ⟨Lc3, hQ3, l3, y3, z3⟩, st3⟩ := X2.virtualBack hx (y := own_y27) (z := own_y27) hown (mvT hZ (own_w hw 143 rfl)) (mvT hZ (own_w hw 144 rfl)) (notFace_of_selects (args := #[]) (mvT hZ (own_w hw 146 rfl))) (mvT hZ (own_w hw 146 rfl)) (mvT hZ (own_w hw 145 rfl)) (by decide) (backOf (W := 0) (rmA32 l Z a0 hw [] ob0_request (ob0_request_quantity)  zr zm ps ng zk h0 n0 O0 G0 E_ob0_request F_ob0_request_quantity  ) hZ (own_w hw 147 rfl) (own_w hw 11 rfl) (by decide) (by decide)) q3a q3c (g := (mkF m 15 #[oa ob0] [(.ref ob0_request)])) rfl (by rw [hml]; rfl) (Steps.refl _) (argsL := []) (rest := []) (lenOf own_pd1 rfl) rfl (own_W0 rfl) (hb hby d21_15) (fun _ _ => ⟨rfl, e2, (by decide : 0 + 0 ≤ _), (by decide : 0 + 0 ≤ _)⟩)
  dsimp only [Pt.U, Pt.locs, Pt.cells, Pt.slots] at X3 l3 y3 z3 st3 hQ3
  subst l3 y3 z3
  obtain ⟨rfl, Nq3, e3⟩ := hQ3
  have N3 := Fr.app N0 Nq3
  obtain ⟨T4, X4, e4, st4⟩ := getF X3 hx hZ hown (host := "") (Or.inl (own_w hw 64 rfl)) Via.refl e3 F_ob0_cumQty (g := (mkF m 19 #[oa ob0] [(.ref ob0), (.long ob0_request_quantity)])) rfl rfl (hb hby d21_19)
  have g5 : ∀ t, FS p e below T4 m 23 #[oa ob0] [(.long (ob0_request_quantity - ob0_cumQty))] t → ES p e below s₁ m #[(.ref ob0)] 1 t := by
    intro t k
    refine g0 t ?_
    show FS p e below s₁ m 0 #[oa ob0] [] _
    refine XS.aloadN X0.here hx rfl (hb hby d21_0) rfl rfl ?_
    refine st1 _ ?_
    refine XS.ifYes X1.here hx rfl (pc0 := 4) (pc' := 11) rfl (hb hby d21_4) rfl ((if0 _ _).trans (teq (by decide : (0 : Int32) = (0 : Int32))).1) (by decide) (by decide) ?_
    refine XS.aloadN X1.here hx rfl (hb hby d21_11) rfl rfl ?_
    refine st2 _ ?_
    refine st3.trans ?_
    refine XS.aloadN X3.here hx rfl (hb hby d21_18) rfl rfl ?_
    refine st4 _ ?_
    refine XS.lsub X4.here hx rfl (hb hby d21_22) rfl ?_
    exact k
  obtain ⟨fs, hrt, hrun, hended, hW, hsame⟩ := X4.leave (v := some (.long (ob0_request_quantity - ob0_cumQty))) (fun h => by rw [Bd.returns] at h; cases h)
  refine ⟨_, _, g5 _ ?_, hrun, hended, _, _, rfl, ?_, ⟨_, rfl⟩, hW, hsame.mono (by decide) (by decide)⟩
  · show Steps p.tables e below (T4.setTop (mkF m 23 #[oa ob0] [(.long (ob0_request_quantity - ob0_cumQty))])) _
    exact X4.lreturnOut hx Bd.returns (hb hby d21_23) hrt
  · show own_Q_rmA31 Z ob0 ob0_cumQty ob0_request ob0_request_quantity zr zm ps ng zk h0 n0 _ T4.heap _
    rw [e4]
    exact ⟨rfl, N3, rfl⟩
theorem own_t182 {p : Program} {l : Launch} {e : Env} {s : State} {m : MethodId} {args : Array Value} {below : List Frame} {meth : Method} {c : Code} {T0 σ : State} {locs : List Loc} {Z : State} {a0 : Array Value} {h0 : Heap} {n0 : Nat} (p1 p2 p3 p4 : Int64) (p5 : Int32) (p6 : Int64) (q1 cum cq op : Int64) (o rq nb nm : Addr) (nk : ClassId) (nz ns : Int32) (nl : List Value) (sn : Int32) (zr zm ps ng : Addr) (zk : ClassId)
    (X0 : Stand p l e room_1 s m args below meth c T0 locs 24 128) (hx : p.tables.exec = Jvm.exec) (hZ : Z.Warmed39 s.vm) (hw : ∀ d ∈ tables_1, d.before a0 Z = true) (hby : c.code = code) (hml : c.maxLocals = 23) (hown : s.vm.findClass "orderwire/orders/OrderLeavesQtyPinLaw" = some m.cls) (e0 : T0.heap = h0) (O0 : Old Z n0 h0) (N0 : Fr n0 locs) (hret : meth.sig.returnType = some .boolean) (hlk : meth.locks = false) (G : own_Gl Z zr zm ps ng zk) (E_o : Exa Z h0 o "orderwire/orders/Order") (F_cumQty : Fld Z h0 o "orderwire/orders/Order" "cumQty" "J" (.long cum)) (F_request : Fld Z h0 o "orderwire/orders/Order" "request" "Lorderwire/orders/NewOrder;" (.ref rq)) (F_cancelled : Fld Z h0 o "orderwire/orders/Order" "cancelled" "Z" (.int (0 : Int32))) (F_notional : Fld Z h0 o "orderwire/orders/Order" "notional" "Ljava/math/BigInteger;" (.ref nb)) (E_rq : Exa Z h0 rq "orderwire/orders/NewOrder") (F_q : Fld Z h0 rq "orderwire/orders/NewOrder" "quantity" "J" (.long cq)) (E_nb : Exa Z h0 nb "java/math/BigInteger") (F_ns : Fld Z h0 nb "java/math/BigInteger" "signum" "I" (.int ns)) (F_nm : Fld Z h0 nb "java/math/BigInteger" "mag" "[I" (.ref nm)) (V_nm : Arv Z h0 nm nk .int nz nl (.int (0 : Int32))) (ha : (ns = (0 : Int32) ∨ (ns = sn ∧ (nz = (1 : Int32) ∨ nz = (2 : Int32) ∨ nz = (3 : Int32) ∨ nz = (4 : Int32))))) (hsn : p6 < (0 : Int64) → sn = (-1 : Int32)) (hsp : ¬ (p6 < (0 : Int64)) → sn = (1 : Int32)) (gz_o : n0 ≤ o)
    (g0 : ∀ t, FS p e below T0 m 182 #[oj p1, vS, oj p2, vS, oj p3, vS, oj p4, vS, oi p5, oj p6, vS, oj q1, vS, oa o, oj cum, vS, oj cq, vS, oi (1 : Int32), oj op, vS, vU, vU] [] t → Steps p.tables e below σ t) :
    ∃ t q, Steps p.tables e below σ t ∧ t.status = .running ∧ Ended t below q ∧ ∃ v L, q = .returned v ∧ own_Qt n0 v t.heap L ∧ FrameEnd s q t L room_1.cells room_1.slots := by
  have Z0 : n0 ≤ h0.size := O0.1 ▸ O0.2.1
  have G0 := G
  obtain ⟨S_Z, E_Z, F_Zs, F_Zm, V_Z, S_P, P_P, S_N, P_N⟩ := G
  by_cases hf1 : ((p5 &&& (8 : Int32)) = (0 : Int32) ∨ ¬ ((0 : Int64) < op))
  · have g2 : ∀ t, FS p e below T0 m 187 #[oj p1, vS, oj p2, vS, oj p3, vS, oj p4, vS, oi p5, oj p6, vS, oj q1, vS, oa o, oj cum, vS, oj cq, vS, oi (1 : Int32), oj op, vS, vU, vU] [(.int (p5 &&& (8 : Int32)))] t → Steps p.tables e below σ t := by
      intro t k
      refine g0 t ?_
      show FS p e below T0 m 182 #[oj p1, vS, oj p2, vS, oj p3, vS, oj p4, vS, oi p5, oj p6, vS, oj q1, vS, oa o, oj cum, vS, oj cq, vS, oi (1 : Int32), oj op, vS, vU, vU] [] _
      refine XS.iload X0.here hx rfl (hb hby at_182) rfl ?_
      refine XS.bipush X0.here hx rfl (hb hby at_184) ?_
      refine XS.iand X0.here hx rfl (hb hby at_186) rfl ?_
      exact k
    have g5 : ∀ t, FS p e below T0 m 265 #[oj p1, vS, oj p2, vS, oj p3, vS, oj p4, vS, oi p5, oj p6, vS, oj q1, vS, oa o, oj cum, vS, oj cq, vS, oi (1 : Int32), oj op, vS, vU, vU] [] t → Steps p.tables e below σ t := by
      intro t k
      by_cases hc3 : (p5 &&& (8 : Int32)) = (0 : Int32)
      · skip
        refine g2 t ?_
        show FS p e below T0 m 187 #[oj p1, vS, oj p2, vS, oj p3, vS, oj p4, vS, oi p5, oj p6, vS, oj q1, vS, oa o, oj cum, vS, oj cq, vS, oi (1 : Int32), oj op, vS, vU, vU] [(.int (p5 &&& (8 : Int32)))] _
        refine XS.ifYes X0.here hx rfl (pc0 := 187) (pc' := 265) rfl (hb hby at_187) rfl ((if0 _ _).trans (teq hc3).1) (by decide) (by decide) ?_
        exact k
      · skip
        have hc4 : ¬ ((0 : Int64) < op) := hf1.resolve_left hc3
        refine g2 t ?_
        show FS p e below T0 m 187 #[oj p1, vS, oj p2, vS, oj p3, vS, oj p4, vS, oi p5, oj p6, vS, oj q1, vS, oa o, oj cum, vS, oj cq, vS, oi (1 : Int32), oj op, vS, vU, vU] [(.int (p5 &&& (8 : Int32)))] _
        refine XS.ifNo X0.here hx rfl (hb hby at_187) rfl ((if0 _ _).trans (feq hc3).1) ?_
        refine XS.lload X0.here hx rfl (hb hby at_190) rfl ?_
        refine XS.lconst X0.here hx rfl (hb hby at_192) ?_
        refine XS.lcmp X0.here hx rfl (hb hby at_193) rfl ?_
        refine XS.ifYes X0.here hx rfl (pc0 := 194) (pc' := 265) rfl (hb hby at_194) rfl ((if0 _ _).trans (flt (fun q => hc4 ((lw_gt _ _).mp q))).2.2.2) (by decide) (by decide) ?_
        exact k
    have g7 : ∀ t, FS p e below T0 m 270 #[oj p1, vS, oj p2, vS, oj p3, vS, oj p4, vS, oi p5, oj p6, vS, oj q1, vS, oa o, oj cum, vS, oj cq, vS, oi (1 : Int32), oj op, vS, vU, vU] [(.int (p5 &&& (32 : Int32)))] t → Steps p.tables e below σ t := by
      intro t k
      refine g5 t ?_
      show FS p e below T0 m 265 #[oj p1, vS, oj p2, vS, oj p3, vS, oj p4, vS, oi p5, oj p6, vS, oj q1, vS, oa o, oj cum, vS, oj cq, vS, oi (1 : Int32), oj op, vS, vU, vU] [] _
      refine XS.iload X0.here hx rfl (hb hby at_265) rfl ?_
      refine XS.bipush X0.here hx rfl (hb hby at_267) ?_
      refine XS.iand X0.here hx rfl (hb hby at_269) rfl ?_
      exact k
    by_cases hc6 : (p5 &&& (32 : Int32)) = (0 : Int32)
    · have g8 : ∀ t, FS p e below T0 m 302 #[oj p1, vS, oj p2, vS, oj p3, vS, oj p4, vS, oi p5, oj p6, vS, oj q1, vS, oa o, oj cum, vS, oj cq, vS, oi (1 : Int32), oj op, vS, vU, vU] [(.int (1 : Int32))] t → Steps p.tables e below σ t := by
        intro t k
        refine g7 t ?_
        show FS p e below T0 m 270 #[oj p1, vS, oj p2, vS, oj p3, vS, oj p4, vS, oi p5, oj p6, vS, oj q1, vS, oa o, oj cum, vS, oj cq, vS, oi (1 : Int32), oj op, vS, vU, vU] [(.int (p5 &&& (32 : Int32)))] _
        refine XS.ifYes X0.here hx rfl (pc0 := 270) (pc' := 300) rfl (hb hby at_270) rfl ((if0 _ _).trans (teq hc6).1) (by decide) (by decide) ?_
        refine XS.iload X0.here hx rfl (hb hby at_300) rfl ?_
        exact k
      obtain ⟨fs, hrt, hrun, hended, hW, hsame⟩ := X0.leave (v := some (.int (1 : Int32))) (fun h => by rw [hret] at h; cases h)
      refine ⟨_, _, g8 _ ?_, hrun, hended, _, _, rfl, ?_, ⟨_, rfl⟩, hW, hsame.mono (by decide) (by decide)⟩
      · show Steps p.tables e below (T0.setTop (mkF m 302 #[oj p1, vS, oj p2, vS, oj p3, vS, oj p4, vS, oi p5, oj p6, vS, oj q1, vS, oa o, oj cum, vS, oj cq, vS, oi (1 : Int32), oj op, vS, vU, vU] [(.int (1 : Int32))])) _
        exact retN X0 hx (t := .boolean) hret (by simp) (hb hby at_302) hrt
      · show own_Qt n0 _ T0.heap _
        rw [e0]
        exact ⟨rfl, N0⟩
    · obtain ⟨cq9, kq9, q9a, q9b, q9c⟩ := isOf hZ e0 E_o
      obtain ⟨_, _, ⟨T9, L9, k9, n9⟩, -, X9, ⟨Lc9, hQ9, l9, y9, z9⟩, st9⟩ := X0.virtualBack hx (y := own_y0) (z := own_y0) hown (mvT hZ (own_w hw 175 rfl)) (mvT hZ (own_w hw 176 rfl)) (notFace_of_selects (args := #[]) (mvT hZ (own_w hw 178 rfl))) (mvT hZ (own_w hw 178 rfl)) (mvT hZ (own_w hw 177 rfl)) (by decide) (backOf (W := 0) (rmA0 l Z a0 hw [] o  zr zm ps ng zk h0 n0 O0 G0 E_o F_cancelled gz_o ) hZ (own_w hw 179 rfl) (own_w hw 3 rfl) (by decide) (by decide)) q9a q9c (g := (mkF m 275 #[oj p1, vS, oj p2, vS, oj p3, vS, oj p4, vS, oi p5, oj p6, vS, oj q1, vS, oa o, oj cum, vS, oj cq, vS, oi (1 : Int32), oj op, vS, vU, vU] [(.ref o)])) rfl (by rw [hml]; rfl) (Steps.refl _) (argsL := []) (rest := []) (lenOf own_pd0 rfl) rfl (own_W0 rfl) (hb hby at_275) (fun _ _ => ⟨rfl, e0, (by decide : 24 + 0 ≤ _), (by decide : 128 + 0 ≤ _)⟩)
      dsimp only [Pt.U, Pt.locs, Pt.cells, Pt.slots] at X9 l9 y9 z9 st9 hQ9
      subst l9 y9 z9
      obtain ⟨rfl, Nq9, K9, Oe9, Ocan9⟩ := hQ9
      have N9 := Fr.app N0 Nq9
      have o10 : Old Z n0 T9.heap := (Old.keep O0 K9 (allS gz_o all0))
      obtain ⟨cq11, kq11, q11a, q11b, q11c⟩ := isOf hZ rfl Oe9
      obtain ⟨_, _, ⟨T11, L11, k11, n11⟩, -, X11, ⟨Lc11, hQ11, l11, y11, z11⟩, st11⟩ := X9.virtualBack hx (y := own_y1) (z := own_y1) hown (mvT hZ (own_w hw 136 rfl)) (mvT hZ (own_w hw 137 rfl)) (notFace_of_selects (args := #[]) (mvT hZ (own_w hw 139 rfl))) (mvT hZ (own_w hw 139 rfl)) (mvT hZ (own_w hw 138 rfl)) (by decide) (backOf (W := 0) (rmA1 l Z a0 hw [] o  zr zm ps ng zk T9.heap n0 o10 G0 Oe9 Ocan9  ) hZ (own_w hw 140 rfl) (own_w hw 3 rfl) (by decide) (by decide)) q11a q11c (g := (mkF m 285 #[oj p1, vS, oj p2, vS, oj p3, vS, oj p4, vS, oi p5, oj p6, vS, oj q1, vS, oa o, oj cum, vS, oj cq, vS, oi (1 : Int32), oj op, vS, vU, vU] [(.ref o)])) rfl (by rw [hml]; rfl) (Steps.refl _) (argsL := []) (rest := []) (lenOf own_pd1 rfl) rfl (own_W0 rfl) (hb hby at_285) (fun _ _ => ⟨rfl, rfl, (by decide : 24 + 0 ≤ _), (by decide : 128 + 0 ≤ _)⟩)
      dsimp only [Pt.U, Pt.locs, Pt.cells, Pt.slots] at X11 l11 y11 z11 st11 hQ11
      subst l11 y11 z11
      obtain ⟨rfl, Nq11, e11⟩ := hQ11
      have N11 := Fr.app N9 Nq11
      have hc12 : (0 : Int64) = (0 : Int64) := by decide
      have g13 : ∀ t, FS p e below T11 m 302 #[oj p1, vS, oj p2, vS, oj p3, vS, oj p4, vS, oi p5, oj p6, vS, oj q1, vS, oa o, oj cum, vS, oj cq, vS, oi (1 : Int32), oj op, vS, vU, vU] [(.int (1 : Int32))] t → Steps p.tables e below σ t := by
        intro t k
        refine g7 t ?_
        show FS p e below T0 m 270 #[oj p1, vS, oj p2, vS, oj p3, vS, oj p4, vS, oi p5, oj p6, vS, oj q1, vS, oa o, oj cum, vS, oj cq, vS, oi (1 : Int32), oj op, vS, vU, vU] [(.int (p5 &&& (32 : Int32)))] _
        refine XS.ifNo X0.here hx rfl (hb hby at_270) rfl ((if0 _ _).trans (feq hc6).1) ?_
        refine XS.aload X0.here hx rfl (hb hby at_273) rfl rfl ?_
        refine st9.trans ?_
        refine XS.iload X9.here hx rfl (hb hby at_278) rfl ?_
        refine XS.ifNo X9.here hx rfl (hb hby at_280) rfl ((if0 _ _).trans (feq (by decide : ¬ ((1 : Int32) = (0 : Int32)))).1) ?_
        refine XS.aload X9.here hx rfl (hb hby at_283) rfl rfl ?_
        refine st11.trans ?_
        refine XS.lconst X11.here hx rfl (hb hby at_288) ?_
        show FS p e below T11 m 289 #[oj p1, vS, oj p2, vS, oj p3, vS, oj p4, vS, oi p5, oj p6, vS, oj q1, vS, oa o, oj cum, vS, oj cq, vS, oi (1 : Int32), oj op, vS, vU, vU] [(.long (0 : Int64)), (.long (0 : Int64))] _
        refine XS.lcmp X11.here hx rfl (hb hby at_289) rfl ?_
        refine XS.ifNo X11.here hx rfl (hb hby at_290) rfl ((if0 _ _).trans (teq ((lw_eq _ _).mpr hc12)).2) ?_
        refine XS.iconst X11.here hx rfl (hb hby at_293) ?_
        refine XS.goto X11.here hx rfl (pc0 := 294) (pc' := 298) rfl (hb hby at_294) (by decide) (by decide) ?_
        refine XS.istore X11.here hx rfl (hb hby at_298) rfl (l' := #[oj p1, vS, oj p2, vS, oj p3, vS, oj p4, vS, oi p5, oj p6, vS, oj q1, vS, oa o, oj cum, vS, oj cq, vS, oi (1 : Int32), oj op, vS, vU, vU]) rfl ?_
        refine XS.iload X11.here hx rfl (hb hby at_300) rfl ?_
        exact k
      obtain ⟨fs, hrt, hrun, hended, hW, hsame⟩ := X11.leave (v := some (.int (1 : Int32))) (fun h => by rw [hret] at h; cases h)
      refine ⟨_, _, g13 _ ?_, hrun, hended, _, _, rfl, ?_, ⟨_, rfl⟩, hW, hsame.mono (by decide) (by decide)⟩
      · show Steps p.tables e below (T11.setTop (mkF m 302 #[oj p1, vS, oj p2, vS, oj p3, vS, oj p4, vS, oi p5, oj p6, vS, oj q1, vS, oa o, oj cum, vS, oj cq, vS, oi (1 : Int32), oj op, vS, vU, vU] [(.int (1 : Int32))])) _
        exact retN X11 hx (t := .boolean) hret (by simp) (hb hby at_302) hrt
      · show own_Qt n0 _ T11.heap _
        rw [e11]
        exact ⟨rfl, N11⟩
  · have hc14 : ¬ ((p5 &&& (8 : Int32)) = (0 : Int32)) := fun q => hf1 (Or.inl q)
    have hc15 : (0 : Int64) < op := Classical.not_not.mp fun q => hf1 (Or.inr q)
    have g17 : ∀ t, FS p e below T0 m 202 #[oj p1, vS, oj p2, vS, oj p3, vS, oj p4, vS, oi p5, oj p6, vS, oj q1, vS, oa o, oj cum, vS, oj cq, vS, oi (1 : Int32), oj op, vS, vU, vU] [(.int (p5 &&& (16 : Int32)))] t → Steps p.tables e below σ t := by
      intro t k
      refine g0 t ?_
      show FS p e below T0 m 182 #[oj p1, vS, oj p2, vS, oj p3, vS, oj p4, vS, oi p5, oj p6, vS, oj q1, vS, oa o, oj cum, vS, oj cq, vS, oi (1 : Int32), oj op, vS, vU, vU] [] _
      refine XS.iload X0.here hx rfl (hb hby at_182) rfl ?_
      refine XS.bipush X0.here hx rfl (hb hby at_184) ?_
      refine XS.iand X0.here hx rfl (hb hby at_186) rfl ?_
      refine XS.ifNo X0.here hx rfl (hb hby at_187) rfl ((if0 _ _).trans (feq hc14).1) ?_
      refine XS.lload X0.here hx rfl (hb hby at_190) rfl ?_
      refine XS.lconst X0.here hx rfl (hb hby at_192) ?_
      refine XS.lcmp X0.here hx rfl (hb hby at_193) rfl ?_
      refine XS.ifNo X0.here hx rfl (hb hby at_194) rfl ((if0 _ _).trans (tlt ((lw_gt _ _).mpr hc15)).2.2.2) ?_
      show FS p e below T0 m 197 #[oj p1, vS, oj p2, vS, oj p3, vS, oj p4, vS, oi p5, oj p6, vS, oj q1, vS, oa o, oj cum, vS, oj cq, vS, oi (1 : Int32), oj op, vS, vU, vU] [] _
      refine XS.iload X0.here hx rfl (hb hby at_197) rfl ?_
      refine XS.bipush X0.here hx rfl (hb hby at_199) ?_
      refine XS.iand X0.here hx rfl (hb hby at_201) rfl ?_
      exact k
    by_cases hc16 : (p5 &&& (16 : Int32)) = (0 : Int32)
    · obtain ⟨f2, hv_f2⟩ : ∃ z : Int64, z = ((1 : Int64) + ((p4 &&& (9223372036854775807 : Int64)) % op)) := ⟨_, rfl⟩
      have g18 : ∀ t, FS p e below T0 m 221 #[oj p1, vS, oj p2, vS, oj p3, vS, oj p4, vS, oi p5, oj p6, vS, oj q1, vS, oa o, oj cum, vS, oj cq, vS, oi (1 : Int32), oj op, vS, vU, vU] [(.long f2)] t → Steps p.tables e below σ t := by
        intro t k
        rw [hv_f2] at k
        refine g17 t ?_
        show FS p e below T0 m 202 #[oj p1, vS, oj p2, vS, oj p3, vS, oj p4, vS, oi p5, oj p6, vS, oj q1, vS, oa o, oj cum, vS, oj cq, vS, oi (1 : Int32), oj op, vS, vU, vU] [(.int (p5 &&& (16 : Int32)))] _
        refine XS.ifYes X0.here hx rfl (pc0 := 202) (pc' := 210) rfl (hb hby at_202) rfl ((if0 _ _).trans (teq hc16).1) (by decide) (by decide) ?_
        refine XS.lconst X0.here hx rfl (hb hby at_210) ?_
        refine XS.lload X0.here hx rfl (hb hby at_211) rfl ?_
        refine X0.ldc2Long hx hown (mvT hZ (own_w hw 0 rfl)) (g := (mkF m 213 #[oj p1, vS, oj p2, vS, oj p3, vS, oj p4, vS, oi p5, oj p6, vS, oj q1, vS, oa o, oj cum, vS, oj cq, vS, oi (1 : Int32), oj op, vS, vU, vU] [(.long p4), (.long (1 : Int64))])) rfl (hb hby at_213) _ ?_
        refine XS.land X0.here hx rfl (hb hby at_216) rfl ?_
        refine XS.lload X0.here hx rfl (hb hby at_217) rfl ?_
        show FS p e below T0 m 219 #[oj p1, vS, oj p2, vS, oj p3, vS, oj p4, vS, oi p5, oj p6, vS, oj q1, vS, oa o, oj cum, vS, oj cq, vS, oi (1 : Int32), oj op, vS, vU, vU] [(.long op), (.long (p4 &&& (9223372036854775807 : Int64))), (.long (1 : Int64))] _
        refine XS.lrem X0.here hx rfl (hb hby at_219) rfl (own_nz64 hc15) ?_
        rw [lrem_mod]
        refine XS.ladd X0.here hx rfl (hb hby at_220) rfl ?_
        exact k
      obtain ⟨cq19, kq19, q19a, q19b, q19c⟩ := isOf hZ e0 E_o
      obtain ⟨_, _, ⟨T19, L19, k19, n19⟩, -, X19, ⟨Lc19, hQ19, l19, y19, z19⟩, st19⟩ := X0.virtualBack hx (y := own_y2) (z := own_y2) hown (mvT hZ (own_w hw 59 rfl)) (mvT hZ (own_w hw 60 rfl)) (notFace_of_selects (args := #[]) (mvT hZ (own_w hw 62 rfl))) (mvT hZ (own_w hw 62 rfl)) (mvT hZ (own_w hw 61 rfl)) (by decide) (backOf (W := 0) (rmA2 l Z a0 hw [] o (cum) nb nm nk (nz) nl (ns) rq (f2) (p6) ((cum + f2)) sn zr zm ps ng zk h0 n0 O0 G0 E_o F_cancelled F_cumQty E_nb V_nm F_nm F_ns F_notional F_request gz_o rfl (own_f hv_f2 hc15) hsn hsp ha) hZ (own_w hw 63 rfl) (own_w hw 3 rfl) (by decide) (by decide)) q19a q19c (g := (mkF m 229 #[oj p1, vS, oj p2, vS, oj p3, vS, oj p4, vS, oi p5, oj p6, vS, oj q1, vS, oa o, oj cum, vS, oj cq, vS, oi (1 : Int32), oj op, vS, oj f2, vS] [(.long p6), (.long f2), (.ref o)])) rfl (by rw [hml]; rfl) (Steps.refl _) (argsL := [(.long f2), (.long p6)]) (rest := []) (lenOf own_pd20 rfl) rfl (own_W0 rfl) (hb hby at_229) (fun _ _ => ⟨rfl, e0, (by decide : 24 + 10 ≤ _), (by decide : 128 + 45 ≤ _)⟩)
      dsimp only [Pt.U, Pt.locs, Pt.cells, Pt.slots] at X19 l19 y19 z19 st19 hQ19
      subst l19 y19 z19
      obtain ⟨rfl, Nq19, K19, rb19, rm19, rk19, rz19, rs19, rl19, Oe19, Ocum19, Oreq19, Ocan19, Onot19, Qe19, Qs19, Qm19, Qa19, Qc19⟩ := hQ19
      have N19 := Fr.app N0 Nq19
      have f20 := (E_rq.keep K19)
      have f21 := (F_q.keep K19 (ninS (Exa.ne E_rq E_o (by decide)) nin0))
      have o22 : Old Z n0 T19.heap := (Old.keep O0 K19 (allS gz_o all0))
      obtain ⟨cq23, kq23, q23a, q23b, q23c⟩ := isOf hZ rfl Oe19
      obtain ⟨_, _, ⟨T23, L23, k23, n23⟩, -, X23, ⟨Lc23, hQ23, l23, y23, z23⟩, st23⟩ := X19.virtualBack hx (y := own_y1) (z := own_y1) hown (mvT hZ (own_w hw 136 rfl)) (mvT hZ (own_w hw 137 rfl)) (notFace_of_selects (args := #[]) (mvT hZ (own_w hw 139 rfl))) (mvT hZ (own_w hw 139 rfl)) (mvT hZ (own_w hw 138 rfl)) (by decide) (backOf (W := 0) (rmA31 l Z a0 hw [] o ((cum + f2)) rq (cq)  zr zm ps ng zk T19.heap n0 o22 G0 Oe19 Ocan19 Ocum19 f20 f21 Oreq19  ) hZ (own_w hw 140 rfl) (own_w hw 3 rfl) (by decide) (by decide)) q23a q23c (g := (mkF m 246 #[oj p1, vS, oj p2, vS, oj p3, vS, oj p4, vS, oi p5, oj p6, vS, oj q1, vS, oa o, oj (cum + f2), vS, oj cq, vS, oi (1 : Int32), oj op, vS, oj f2, vS] [(.ref o)])) rfl (by rw [hml]; rfl) (Steps.refl _) (argsL := []) (rest := []) (lenOf own_pd1 rfl) rfl (own_W0 rfl) (hb hby at_246) (fun _ _ => ⟨rfl, rfl, (by decide : 34 + 0 ≤ _), (by decide : 173 + 0 ≤ _)⟩)
      dsimp only [Pt.U, Pt.locs, Pt.cells, Pt.slots] at X23 l23 y23 z23 st23 hQ23
      subst l23 y23 z23
      obtain ⟨rfl, Nq23, e23⟩ := hQ23
      have N23 := Fr.app N19 Nq23
      have hc24 : (cq - (cum + f2)) = (cq - (cum + f2)) := rfl
      have g26 : ∀ t, FS p e below T23 m 270 #[oj p1, vS, oj p2, vS, oj p3, vS, oj p4, vS, oi p5, oj p6, vS, oj q1, vS, oa o, oj (cum + f2), vS, oj cq, vS, oi (1 : Int32), oj op, vS, oj f2, vS] [(.int (p5 &&& (32 : Int32)))] t → Steps p.tables e below σ t := by
        intro t k
        refine g18 t ?_
        show FS p e below T0 m 221 #[oj p1, vS, oj p2, vS, oj p3, vS, oj p4, vS, oi p5, oj p6, vS, oj q1, vS, oa o, oj cum, vS, oj cq, vS, oi (1 : Int32), oj op, vS, vU, vU] [(.long f2)] _
        refine XS.lstore X0.here hx rfl (hb hby at_221) rfl (l' := #[oj p1, vS, oj p2, vS, oj p3, vS, oj p4, vS, oi p5, oj p6, vS, oj q1, vS, oa o, oj cum, vS, oj cq, vS, oi (1 : Int32), oj op, vS, oj f2, vS]) rfl ?_
        refine XS.aload X0.here hx rfl (hb hby at_223) rfl rfl ?_
        refine XS.lload X0.here hx rfl (hb hby at_225) rfl ?_
        refine XS.lload X0.here hx rfl (hb hby at_227) rfl ?_
        refine st19.trans ?_
        refine XS.lload X19.here hx rfl (hb hby at_232) rfl ?_
        refine XS.lload X19.here hx rfl (hb hby at_234) rfl ?_
        refine XS.ladd X19.here hx rfl (hb hby at_236) rfl ?_
        show FS p e below T19 m 237 #[oj p1, vS, oj p2, vS, oj p3, vS, oj p4, vS, oi p5, oj p6, vS, oj q1, vS, oa o, oj cum, vS, oj cq, vS, oi (1 : Int32), oj op, vS, oj f2, vS] [(.long (cum + f2))] _
        refine XS.lstore X19.here hx rfl (hb hby at_237) rfl (l' := #[oj p1, vS, oj p2, vS, oj p3, vS, oj p4, vS, oi p5, oj p6, vS, oj q1, vS, oa o, oj (cum + f2), vS, oj cq, vS, oi (1 : Int32), oj op, vS, oj f2, vS]) rfl ?_
        refine XS.iload X19.here hx rfl (hb hby at_239) rfl ?_
        refine XS.ifNo X19.here hx rfl (hb hby at_241) rfl ((if0 _ _).trans (feq (by decide : ¬ ((1 : Int32) = (0 : Int32)))).1) ?_
        refine XS.aload X19.here hx rfl (hb hby at_244) rfl rfl ?_
        refine st23.trans ?_
        refine XS.lload X23.here hx rfl (hb hby at_249) rfl ?_
        refine XS.lload X23.here hx rfl (hb hby at_251) rfl ?_
        refine XS.lsub X23.here hx rfl (hb hby at_253) rfl ?_
        show FS p e below T23 m 254 #[oj p1, vS, oj p2, vS, oj p3, vS, oj p4, vS, oi p5, oj p6, vS, oj q1, vS, oa o, oj (cum + f2), vS, oj cq, vS, oi (1 : Int32), oj op, vS, oj f2, vS] [(.long (cq - (cum + f2))), (.long (cq - (cum + f2)))] _
        refine XS.lcmp X23.here hx rfl (hb hby at_254) rfl ?_
        refine XS.ifNo X23.here hx rfl (hb hby at_255) rfl ((if0 _ _).trans (teq ((lw_eq _ _).mpr hc24)).2) ?_
        refine XS.iconst X23.here hx rfl (hb hby at_258) ?_
        refine XS.goto X23.here hx rfl (pc0 := 259) (pc' := 263) rfl (hb hby at_259) (by decide) (by decide) ?_
        refine XS.istore X23.here hx rfl (hb hby at_263) rfl (l' := #[oj p1, vS, oj p2, vS, oj p3, vS, oj p4, vS, oi p5, oj p6, vS, oj q1, vS, oa o, oj (cum + f2), vS, oj cq, vS, oi (1 : Int32), oj op, vS, oj f2, vS]) rfl ?_
        refine XS.iload X23.here hx rfl (hb hby at_265) rfl ?_
        refine XS.bipush X23.here hx rfl (hb hby at_267) ?_
        refine XS.iand X23.here hx rfl (hb hby at_269) rfl ?_
        exact k
      by_cases hc25 : (p5 &&& (32 : Int32)) = (0 : Int32)
      · have g27 : ∀ t, FS p e below T23 m 302 #[oj p1, vS, oj p2, vS, oj p3, vS, oj p4, vS, oi p5, oj p6, vS, oj q1, vS, oa o, oj (cum + f2), vS, oj cq, vS, oi (1 : Int32), oj op, vS, oj f2, vS] [(.int (1 : Int32))] t → Steps p.tables e below σ t := by
          intro t k
          refine g26 t ?_
          show FS p e below T23 m 270 #[oj p1, vS, oj p2, vS, oj p3, vS, oj p4, vS, oi p5, oj p6, vS, oj q1, vS, oa o, oj (cum + f2), vS, oj cq, vS, oi (1 : Int32), oj op, vS, oj f2, vS] [(.int (p5 &&& (32 : Int32)))] _
          refine XS.ifYes X23.here hx rfl (pc0 := 270) (pc' := 300) rfl (hb hby at_270) rfl ((if0 _ _).trans (teq hc25).1) (by decide) (by decide) ?_
          refine XS.iload X23.here hx rfl (hb hby at_300) rfl ?_
          exact k
        obtain ⟨fs, hrt, hrun, hended, hW, hsame⟩ := X23.leave (v := some (.int (1 : Int32))) (fun h => by rw [hret] at h; cases h)
        refine ⟨_, _, g27 _ ?_, hrun, hended, _, _, rfl, ?_, ⟨_, rfl⟩, hW, hsame.mono (by decide) (by decide)⟩
        · show Steps p.tables e below (T23.setTop (mkF m 302 #[oj p1, vS, oj p2, vS, oj p3, vS, oj p4, vS, oi p5, oj p6, vS, oj q1, vS, oa o, oj (cum + f2), vS, oj cq, vS, oi (1 : Int32), oj op, vS, oj f2, vS] [(.int (1 : Int32))])) _
          exact retN X23 hx (t := .boolean) hret (by simp) (hb hby at_302) hrt
        · show own_Qt n0 _ T23.heap _
          rw [e23]
          exact ⟨rfl, N23⟩
      · obtain ⟨cq28, kq28, q28a, q28b, q28c⟩ := isOf hZ e23 Oe19
        obtain ⟨_, _, ⟨T28, L28, k28, n28⟩, -, X28, ⟨Lc28, hQ28, l28, y28, z28⟩, st28⟩ := X23.virtualBack hx (y := own_y0) (z := own_y0) hown (mvT hZ (own_w hw 175 rfl)) (mvT hZ (own_w hw 176 rfl)) (notFace_of_selects (args := #[]) (mvT hZ (own_w hw 178 rfl))) (mvT hZ (own_w hw 178 rfl)) (mvT hZ (own_w hw 177 rfl)) (by decide) (backOf (W := 0) (rmA0 l Z a0 hw [] o  zr zm ps ng zk T19.heap n0 o22 G0 Oe19 Ocan19 gz_o ) hZ (own_w hw 179 rfl) (own_w hw 3 rfl) (by decide) (by decide)) q28a q28c (g := (mkF m 275 #[oj p1, vS, oj p2, vS, oj p3, vS, oj p4, vS, oi p5, oj p6, vS, oj q1, vS, oa o, oj (cum + f2), vS, oj cq, vS, oi (1 : Int32), oj op, vS, oj f2, vS] [(.ref o)])) rfl (by rw [hml]; rfl) (Steps.refl _) (argsL := []) (rest := []) (lenOf own_pd0 rfl) rfl (own_W0 rfl) (hb hby at_275) (fun _ _ => ⟨rfl, e23, (by decide : 34 + 0 ≤ _), (by decide : 173 + 0 ≤ _)⟩)
        dsimp only [Pt.U, Pt.locs, Pt.cells, Pt.slots] at X28 l28 y28 z28 st28 hQ28
        subst l28 y28 z28
        obtain ⟨rfl, Nq28, K28, Oe28, Ocan28⟩ := hQ28
        have N28 := Fr.app N23 Nq28
        obtain ⟨LL29, XL29, NL29⟩ : ∃ LL : List Loc, Stand p l e room_1 s m args below meth c T28 LL 34 173 ∧ Fr n0 LL := ⟨_, X28, N28⟩
        have o30 : Old Z n0 T28.heap := (Old.keep o22 K28 (allS gz_o all0))
        obtain ⟨cq31, kq31, q31a, q31b, q31c⟩ := isOf hZ rfl Oe28
        obtain ⟨_, _, ⟨T31, L31, k31, n31⟩, -, X31, ⟨Lc31, hQ31, l31, y31, z31⟩, st31⟩ := XL29.virtualBack hx (y := own_y1) (z := own_y1) hown (mvT hZ (own_w hw 136 rfl)) (mvT hZ (own_w hw 137 rfl)) (notFace_of_selects (args := #[]) (mvT hZ (own_w hw 139 rfl))) (mvT hZ (own_w hw 139 rfl)) (mvT hZ (own_w hw 138 rfl)) (by decide) (backOf (W := 0) (rmA1 l Z a0 hw [] o  zr zm ps ng zk T28.heap n0 o30 G0 Oe28 Ocan28  ) hZ (own_w hw 140 rfl) (own_w hw 3 rfl) (by decide) (by decide)) q31a q31c (g := (mkF m 285 #[oj p1, vS, oj p2, vS, oj p3, vS, oj p4, vS, oi p5, oj p6, vS, oj q1, vS, oa o, oj (cum + f2), vS, oj cq, vS, oi (1 : Int32), oj op, vS, oj f2, vS] [(.ref o)])) rfl (by rw [hml]; rfl) (Steps.refl _) (argsL := []) (rest := []) (lenOf own_pd1 rfl) rfl (own_W0 rfl) (hb hby at_285) (fun _ _ => ⟨rfl, rfl, (by decide : 34 + 0 ≤ _), (by decide : 173 + 0 ≤ _)⟩)
        dsimp only [Pt.U, Pt.locs, Pt.cells, Pt.slots] at X31 l31 y31 z31 st31 hQ31
        subst l31 y31 z31
        obtain ⟨rfl, Nq31, e31⟩ := hQ31
        have N31 := Fr.app NL29 Nq31
        have hc32 : (0 : Int64) = (0 : Int64) := by decide
        have g33 : ∀ t, FS p e below T31 m 302 #[oj p1, vS, oj p2, vS, oj p3, vS, oj p4, vS, oi p5, oj p6, vS, oj q1, vS, oa o, oj (cum + f2), vS, oj cq, vS, oi (1 : Int32), oj op, vS, oj f2, vS] [(.int (1 : Int32))] t → Steps p.tables e below σ t := by
          intro t k
          refine g26 t ?_
          show FS p e below T23 m 270 #[oj p1, vS, oj p2, vS, oj p3, vS, oj p4, vS, oi p5, oj p6, vS, oj q1, vS, oa o, oj (cum + f2), vS, oj cq, vS, oi (1 : Int32), oj op, vS, oj f2, vS] [(.int (p5 &&& (32 : Int32)))] _
          refine XS.ifNo X23.here hx rfl (hb hby at_270) rfl ((if0 _ _).trans (feq hc25).1) ?_
          refine XS.aload X23.here hx rfl (hb hby at_273) rfl rfl ?_
          refine st28.trans ?_
          refine XS.iload X28.here hx rfl (hb hby at_278) rfl ?_
          refine XS.ifNo X28.here hx rfl (hb hby at_280) rfl ((if0 _ _).trans (feq (by decide : ¬ ((1 : Int32) = (0 : Int32)))).1) ?_
          refine XS.aload X28.here hx rfl (hb hby at_283) rfl rfl ?_
          refine st31.trans ?_
          refine XS.lconst X31.here hx rfl (hb hby at_288) ?_
          show FS p e below T31 m 289 #[oj p1, vS, oj p2, vS, oj p3, vS, oj p4, vS, oi p5, oj p6, vS, oj q1, vS, oa o, oj (cum + f2), vS, oj cq, vS, oi (1 : Int32), oj op, vS, oj f2, vS] [(.long (0 : Int64)), (.long (0 : Int64))] _
          refine XS.lcmp X31.here hx rfl (hb hby at_289) rfl ?_
          refine XS.ifNo X31.here hx rfl (hb hby at_290) rfl ((if0 _ _).trans (teq ((lw_eq _ _).mpr hc32)).2) ?_
          refine XS.iconst X31.here hx rfl (hb hby at_293) ?_
          refine XS.goto X31.here hx rfl (pc0 := 294) (pc' := 298) rfl (hb hby at_294) (by decide) (by decide) ?_
          refine XS.istore X31.here hx rfl (hb hby at_298) rfl (l' := #[oj p1, vS, oj p2, vS, oj p3, vS, oj p4, vS, oi p5, oj p6, vS, oj q1, vS, oa o, oj (cum + f2), vS, oj cq, vS, oi (1 : Int32), oj op, vS, oj f2, vS]) rfl ?_
          refine XS.iload X31.here hx rfl (hb hby at_300) rfl ?_
          exact k
        obtain ⟨fs, hrt, hrun, hended, hW, hsame⟩ := X31.leave (v := some (.int (1 : Int32))) (fun h => by rw [hret] at h; cases h)
        refine ⟨_, _, g33 _ ?_, hrun, hended, _, _, rfl, ?_, ⟨_, rfl⟩, hW, hsame.mono (by decide) (by decide)⟩
        · show Steps p.tables e below (T31.setTop (mkF m 302 #[oj p1, vS, oj p2, vS, oj p3, vS, oj p4, vS, oi p5, oj p6, vS, oj q1, vS, oa o, oj (cum + f2), vS, oj cq, vS, oi (1 : Int32), oj op, vS, oj f2, vS] [(.int (1 : Int32))])) _
          exact retN X31 hx (t := .boolean) hret (by simp) (hb hby at_302) hrt
        · show own_Qt n0 _ T31.heap _
          rw [e31]
          exact ⟨rfl, N31⟩
    · obtain ⟨cq34, kq34, q34a, q34b, q34c⟩ := isOf hZ e0 E_o
      obtain ⟨_, _, ⟨T34, L34, k34, n34⟩, -, X34, ⟨Lc34, hQ34, l34, y34, z34⟩, st34⟩ := X0.virtualBack hx (y := own_y2) (z := own_y2) hown (mvT hZ (own_w hw 59 rfl)) (mvT hZ (own_w hw 60 rfl)) (notFace_of_selects (args := #[]) (mvT hZ (own_w hw 62 rfl))) (mvT hZ (own_w hw 62 rfl)) (mvT hZ (own_w hw 61 rfl)) (by decide) (backOf (W := 0) (rmA2 l Z a0 hw [] o (cum) nb nm nk (nz) nl (ns) rq (op) (p6) ((cum + op)) sn zr zm ps ng zk h0 n0 O0 G0 E_o F_cancelled F_cumQty E_nb V_nm F_nm F_ns F_notional F_request gz_o rfl (own_pos hc15) hsn hsp ha) hZ (own_w hw 63 rfl) (own_w hw 3 rfl) (by decide) (by decide)) q34a q34c (g := (mkF m 229 #[oj p1, vS, oj p2, vS, oj p3, vS, oj p4, vS, oi p5, oj p6, vS, oj q1, vS, oa o, oj cum, vS, oj cq, vS, oi (1 : Int32), oj op, vS, oj op, vS] [(.long p6), (.long op), (.ref o)])) rfl (by rw [hml]; rfl) (Steps.refl _) (argsL := [(.long op), (.long p6)]) (rest := []) (lenOf own_pd20 rfl) rfl (own_W0 rfl) (hb hby at_229) (fun _ _ => ⟨rfl, e0, (by decide : 24 + 10 ≤ _), (by decide : 128 + 45 ≤ _)⟩)
      dsimp only [Pt.U, Pt.locs, Pt.cells, Pt.slots] at X34 l34 y34 z34 st34 hQ34
      subst l34 y34 z34
      obtain ⟨rfl, Nq34, K34, rb34, rm34, rk34, rz34, rs34, rl34, Oe34, Ocum34, Oreq34, Ocan34, Onot34, Qe34, Qs34, Qm34, Qa34, Qc34⟩ := hQ34
      have N34 := Fr.app N0 Nq34
      have f35 := (E_rq.keep K34)
      have f36 := (F_q.keep K34 (ninS (Exa.ne E_rq E_o (by decide)) nin0))
      have o37 : Old Z n0 T34.heap := (Old.keep O0 K34 (allS gz_o all0))
      obtain ⟨cq38, kq38, q38a, q38b, q38c⟩ := isOf hZ rfl Oe34
      obtain ⟨_, _, ⟨T38, L38, k38, n38⟩, -, X38, ⟨Lc38, hQ38, l38, y38, z38⟩, st38⟩ := X34.virtualBack hx (y := own_y1) (z := own_y1) hown (mvT hZ (own_w hw 136 rfl)) (mvT hZ (own_w hw 137 rfl)) (notFace_of_selects (args := #[]) (mvT hZ (own_w hw 139 rfl))) (mvT hZ (own_w hw 139 rfl)) (mvT hZ (own_w hw 138 rfl)) (by decide) (backOf (W := 0) (rmA31 l Z a0 hw [] o ((cum + op)) rq (cq)  zr zm ps ng zk T34.heap n0 o37 G0 Oe34 Ocan34 Ocum34 f35 f36 Oreq34  ) hZ (own_w hw 140 rfl) (own_w hw 3 rfl) (by decide) (by decide)) q38a q38c (g := (mkF m 246 #[oj p1, vS, oj p2, vS, oj p3, vS, oj p4, vS, oi p5, oj p6, vS, oj q1, vS, oa o, oj (cum + op), vS, oj cq, vS, oi (1 : Int32), oj op, vS, oj op, vS] [(.ref o)])) rfl (by rw [hml]; rfl) (Steps.refl _) (argsL := []) (rest := []) (lenOf own_pd1 rfl) rfl (own_W0 rfl) (hb hby at_246) (fun _ _ => ⟨rfl, rfl, (by decide : 34 + 0 ≤ _), (by decide : 173 + 0 ≤ _)⟩)
      dsimp only [Pt.U, Pt.locs, Pt.cells, Pt.slots] at X38 l38 y38 z38 st38 hQ38
      subst l38 y38 z38
      obtain ⟨rfl, Nq38, e38⟩ := hQ38
      have N38 := Fr.app N34 Nq38
      have hc39 : (cq - (cum + op)) = (cq - (cum + op)) := rfl
      have g41 : ∀ t, FS p e below T38 m 270 #[oj p1, vS, oj p2, vS, oj p3, vS, oj p4, vS, oi p5, oj p6, vS, oj q1, vS, oa o, oj (cum + op), vS, oj cq, vS, oi (1 : Int32), oj op, vS, oj op, vS] [(.int (p5 &&& (32 : Int32)))] t → Steps p.tables e below σ t := by
        intro t k
        refine g17 t ?_
        show FS p e below T0 m 202 #[oj p1, vS, oj p2, vS, oj p3, vS, oj p4, vS, oi p5, oj p6, vS, oj q1, vS, oa o, oj cum, vS, oj cq, vS, oi (1 : Int32), oj op, vS, vU, vU] [(.int (p5 &&& (16 : Int32)))] _
        refine XS.ifNo X0.here hx rfl (hb hby at_202) rfl ((if0 _ _).trans (feq hc16).1) ?_
        refine XS.lload X0.here hx rfl (hb hby at_205) rfl ?_
        refine XS.goto X0.here hx rfl (pc0 := 207) (pc' := 221) rfl (hb hby at_207) (by decide) (by decide) ?_
        refine XS.lstore X0.here hx rfl (hb hby at_221) rfl (l' := #[oj p1, vS, oj p2, vS, oj p3, vS, oj p4, vS, oi p5, oj p6, vS, oj q1, vS, oa o, oj cum, vS, oj cq, vS, oi (1 : Int32), oj op, vS, oj op, vS]) rfl ?_
        refine XS.aload X0.here hx rfl (hb hby at_223) rfl rfl ?_
        refine XS.lload X0.here hx rfl (hb hby at_225) rfl ?_
        refine XS.lload X0.here hx rfl (hb hby at_227) rfl ?_
        refine st34.trans ?_
        show FS p e below T34 m 232 #[oj p1, vS, oj p2, vS, oj p3, vS, oj p4, vS, oi p5, oj p6, vS, oj q1, vS, oa o, oj cum, vS, oj cq, vS, oi (1 : Int32), oj op, vS, oj op, vS] [] _
        refine XS.lload X34.here hx rfl (hb hby at_232) rfl ?_
        refine XS.lload X34.here hx rfl (hb hby at_234) rfl ?_
        refine XS.ladd X34.here hx rfl (hb hby at_236) rfl ?_
        refine XS.lstore X34.here hx rfl (hb hby at_237) rfl (l' := #[oj p1, vS, oj p2, vS, oj p3, vS, oj p4, vS, oi p5, oj p6, vS, oj q1, vS, oa o, oj (cum + op), vS, oj cq, vS, oi (1 : Int32), oj op, vS, oj op, vS]) rfl ?_
        refine XS.iload X34.here hx rfl (hb hby at_239) rfl ?_
        refine XS.ifNo X34.here hx rfl (hb hby at_241) rfl ((if0 _ _).trans (feq (by decide : ¬ ((1 : Int32) = (0 : Int32)))).1) ?_
        refine XS.aload X34.here hx rfl (hb hby at_244) rfl rfl ?_
        refine st38.trans ?_
        show FS p e below T38 m 249 #[oj p1, vS, oj p2, vS, oj p3, vS, oj p4, vS, oi p5, oj p6, vS, oj q1, vS, oa o, oj (cum + op), vS, oj cq, vS, oi (1 : Int32), oj op, vS, oj op, vS] [(.long (cq - (cum + op)))] _
        refine XS.lload X38.here hx rfl (hb hby at_249) rfl ?_
        refine XS.lload X38.here hx rfl (hb hby at_251) rfl ?_
        refine XS.lsub X38.here hx rfl (hb hby at_253) rfl ?_
        refine XS.lcmp X38.here hx rfl (hb hby at_254) rfl ?_
        refine XS.ifNo X38.here hx rfl (hb hby at_255) rfl ((if0 _ _).trans (teq ((lw_eq _ _).mpr hc39)).2) ?_
        refine XS.iconst X38.here hx rfl (hb hby at_258) ?_
        refine XS.goto X38.here hx rfl (pc0 := 259) (pc' := 263) rfl (hb hby at_259) (by decide) (by decide) ?_
        refine XS.istore X38.here hx rfl (hb hby at_263) rfl (l' := #[oj p1, vS, oj p2, vS, oj p3, vS, oj p4, vS, oi p5, oj p6, vS, oj q1, vS, oa o, oj (cum + op), vS, oj cq, vS, oi (1 : Int32), oj op, vS, oj op, vS]) rfl ?_
        show FS p e below T38 m 265 #[oj p1, vS, oj p2, vS, oj p3, vS, oj p4, vS, oi p5, oj p6, vS, oj q1, vS, oa o, oj (cum + op), vS, oj cq, vS, oi (1 : Int32), oj op, vS, oj op, vS] [] _
        refine XS.iload X38.here hx rfl (hb hby at_265) rfl ?_
        refine XS.bipush X38.here hx rfl (hb hby at_267) ?_
        refine XS.iand X38.here hx rfl (hb hby at_269) rfl ?_
        exact k
      by_cases hc40 : (p5 &&& (32 : Int32)) = (0 : Int32)
      · have g42 : ∀ t, FS p e below T38 m 302 #[oj p1, vS, oj p2, vS, oj p3, vS, oj p4, vS, oi p5, oj p6, vS, oj q1, vS, oa o, oj (cum + op), vS, oj cq, vS, oi (1 : Int32), oj op, vS, oj op, vS] [(.int (1 : Int32))] t → Steps p.tables e below σ t := by
          intro t k
          refine g41 t ?_
          show FS p e below T38 m 270 #[oj p1, vS, oj p2, vS, oj p3, vS, oj p4, vS, oi p5, oj p6, vS, oj q1, vS, oa o, oj (cum + op), vS, oj cq, vS, oi (1 : Int32), oj op, vS, oj op, vS] [(.int (p5 &&& (32 : Int32)))] _
          refine XS.ifYes X38.here hx rfl (pc0 := 270) (pc' := 300) rfl (hb hby at_270) rfl ((if0 _ _).trans (teq hc40).1) (by decide) (by decide) ?_
          refine XS.iload X38.here hx rfl (hb hby at_300) rfl ?_
          exact k
        obtain ⟨fs, hrt, hrun, hended, hW, hsame⟩ := X38.leave (v := some (.int (1 : Int32))) (fun h => by rw [hret] at h; cases h)
        refine ⟨_, _, g42 _ ?_, hrun, hended, _, _, rfl, ?_, ⟨_, rfl⟩, hW, hsame.mono (by decide) (by decide)⟩
        · show Steps p.tables e below (T38.setTop (mkF m 302 #[oj p1, vS, oj p2, vS, oj p3, vS, oj p4, vS, oi p5, oj p6, vS, oj q1, vS, oa o, oj (cum + op), vS, oj cq, vS, oi (1 : Int32), oj op, vS, oj op, vS] [(.int (1 : Int32))])) _
          exact retN X38 hx (t := .boolean) hret (by simp) (hb hby at_302) hrt
        · show own_Qt n0 _ T38.heap _
          rw [e38]
          exact ⟨rfl, N38⟩
      · obtain ⟨cq43, kq43, q43a, q43b, q43c⟩ := isOf hZ e38 Oe34
        obtain ⟨_, _, ⟨T43, L43, k43, n43⟩, -, X43, ⟨Lc43, hQ43, l43, y43, z43⟩, st43⟩ := X38.virtualBack hx (y := own_y0) (z := own_y0) hown (mvT hZ (own_w hw 175 rfl)) (mvT hZ (own_w hw 176 rfl)) (notFace_of_selects (args := #[]) (mvT hZ (own_w hw 178 rfl))) (mvT hZ (own_w hw 178 rfl)) (mvT hZ (own_w hw 177 rfl)) (by decide) (backOf (W := 0) (rmA0 l Z a0 hw [] o  zr zm ps ng zk T34.heap n0 o37 G0 Oe34 Ocan34 gz_o ) hZ (own_w hw 179 rfl) (own_w hw 3 rfl) (by decide) (by decide)) q43a q43c (g := (mkF m 275 #[oj p1, vS, oj p2, vS, oj p3, vS, oj p4, vS, oi p5, oj p6, vS, oj q1, vS, oa o, oj (cum + op), vS, oj cq, vS, oi (1 : Int32), oj op, vS, oj op, vS] [(.ref o)])) rfl (by rw [hml]; rfl) (Steps.refl _) (argsL := []) (rest := []) (lenOf own_pd0 rfl) rfl (own_W0 rfl) (hb hby at_275) (fun _ _ => ⟨rfl, e38, (by decide : 34 + 0 ≤ _), (by decide : 173 + 0 ≤ _)⟩)
        dsimp only [Pt.U, Pt.locs, Pt.cells, Pt.slots] at X43 l43 y43 z43 st43 hQ43
        subst l43 y43 z43
        obtain ⟨rfl, Nq43, K43, Oe43, Ocan43⟩ := hQ43
        have N43 := Fr.app N38 Nq43
        obtain ⟨LL44, XL44, NL44⟩ : ∃ LL : List Loc, Stand p l e room_1 s m args below meth c T43 LL 34 173 ∧ Fr n0 LL := ⟨_, X43, N43⟩
        have o45 : Old Z n0 T43.heap := (Old.keep o37 K43 (allS gz_o all0))
        obtain ⟨cq46, kq46, q46a, q46b, q46c⟩ := isOf hZ rfl Oe43
        obtain ⟨_, _, ⟨T46, L46, k46, n46⟩, -, X46, ⟨Lc46, hQ46, l46, y46, z46⟩, st46⟩ := XL44.virtualBack hx (y := own_y1) (z := own_y1) hown (mvT hZ (own_w hw 136 rfl)) (mvT hZ (own_w hw 137 rfl)) (notFace_of_selects (args := #[]) (mvT hZ (own_w hw 139 rfl))) (mvT hZ (own_w hw 139 rfl)) (mvT hZ (own_w hw 138 rfl)) (by decide) (backOf (W := 0) (rmA1 l Z a0 hw [] o  zr zm ps ng zk T43.heap n0 o45 G0 Oe43 Ocan43  ) hZ (own_w hw 140 rfl) (own_w hw 3 rfl) (by decide) (by decide)) q46a q46c (g := (mkF m 285 #[oj p1, vS, oj p2, vS, oj p3, vS, oj p4, vS, oi p5, oj p6, vS, oj q1, vS, oa o, oj (cum + op), vS, oj cq, vS, oi (1 : Int32), oj op, vS, oj op, vS] [(.ref o)])) rfl (by rw [hml]; rfl) (Steps.refl _) (argsL := []) (rest := []) (lenOf own_pd1 rfl) rfl (own_W0 rfl) (hb hby at_285) (fun _ _ => ⟨rfl, rfl, (by decide : 34 + 0 ≤ _), (by decide : 173 + 0 ≤ _)⟩)
        dsimp only [Pt.U, Pt.locs, Pt.cells, Pt.slots] at X46 l46 y46 z46 st46 hQ46
        subst l46 y46 z46
        obtain ⟨rfl, Nq46, e46⟩ := hQ46
        have N46 := Fr.app NL44 Nq46
        have hc47 : (0 : Int64) = (0 : Int64) := by decide
        have g48 : ∀ t, FS p e below T46 m 302 #[oj p1, vS, oj p2, vS, oj p3, vS, oj p4, vS, oi p5, oj p6, vS, oj q1, vS, oa o, oj (cum + op), vS, oj cq, vS, oi (1 : Int32), oj op, vS, oj op, vS] [(.int (1 : Int32))] t → Steps p.tables e below σ t := by
          intro t k
          refine g41 t ?_
          show FS p e below T38 m 270 #[oj p1, vS, oj p2, vS, oj p3, vS, oj p4, vS, oi p5, oj p6, vS, oj q1, vS, oa o, oj (cum + op), vS, oj cq, vS, oi (1 : Int32), oj op, vS, oj op, vS] [(.int (p5 &&& (32 : Int32)))] _
          refine XS.ifNo X38.here hx rfl (hb hby at_270) rfl ((if0 _ _).trans (feq hc40).1) ?_
          refine XS.aload X38.here hx rfl (hb hby at_273) rfl rfl ?_
          refine st43.trans ?_
          refine XS.iload X43.here hx rfl (hb hby at_278) rfl ?_
          refine XS.ifNo X43.here hx rfl (hb hby at_280) rfl ((if0 _ _).trans (feq (by decide : ¬ ((1 : Int32) = (0 : Int32)))).1) ?_
          refine XS.aload X43.here hx rfl (hb hby at_283) rfl rfl ?_
          refine st46.trans ?_
          refine XS.lconst X46.here hx rfl (hb hby at_288) ?_
          show FS p e below T46 m 289 #[oj p1, vS, oj p2, vS, oj p3, vS, oj p4, vS, oi p5, oj p6, vS, oj q1, vS, oa o, oj (cum + op), vS, oj cq, vS, oi (1 : Int32), oj op, vS, oj op, vS] [(.long (0 : Int64)), (.long (0 : Int64))] _
          refine XS.lcmp X46.here hx rfl (hb hby at_289) rfl ?_
          refine XS.ifNo X46.here hx rfl (hb hby at_290) rfl ((if0 _ _).trans (teq ((lw_eq _ _).mpr hc47)).2) ?_
          refine XS.iconst X46.here hx rfl (hb hby at_293) ?_
          refine XS.goto X46.here hx rfl (pc0 := 294) (pc' := 298) rfl (hb hby at_294) (by decide) (by decide) ?_
          refine XS.istore X46.here hx rfl (hb hby at_298) rfl (l' := #[oj p1, vS, oj p2, vS, oj p3, vS, oj p4, vS, oi p5, oj p6, vS, oj q1, vS, oa o, oj (cum + op), vS, oj cq, vS, oi (1 : Int32), oj op, vS, oj op, vS]) rfl ?_
          refine XS.iload X46.here hx rfl (hb hby at_300) rfl ?_
          exact k
        obtain ⟨fs, hrt, hrun, hended, hW, hsame⟩ := X46.leave (v := some (.int (1 : Int32))) (fun h => by rw [hret] at h; cases h)
        refine ⟨_, _, g48 _ ?_, hrun, hended, _, _, rfl, ?_, ⟨_, rfl⟩, hW, hsame.mono (by decide) (by decide)⟩
        · show Steps p.tables e below (T46.setTop (mkF m 302 #[oj p1, vS, oj p2, vS, oj p3, vS, oj p4, vS, oi p5, oj p6, vS, oj q1, vS, oa o, oj (cum + op), vS, oj cq, vS, oi (1 : Int32), oj op, vS, oj op, vS] [(.int (1 : Int32))])) _
          exact retN X46 hx (t := .boolean) hret (by simp) (hb hby at_302) hrt
        · show own_Qt n0 _ T46.heap _
          rw [e46]
          exact ⟨rfl, N46⟩
theorem own_ef34 (m : MethodId) (x0 : Int64) (x1 : Int64) (x2 : Int64) (x3 : Int64) (x4 : Int32) (x5 : Int64) : entryFrame m #[(.long x0), (.long x1), (.long x2), (.long x3), (.int x4), (.long x5)] maxLocals = mkF m 0 #[oj x0, vS, oj x1, vS, oj x2, vS, oj x3, vS, oi x4, oj x5, vS, vU, vU, vU, vU, vU, vU, vU, vU, vU, vU, vU, vU] [] := by first | (simp [entryFrame, mkF, argsToLocals, Value.category, maxLocals]; done) | rfl
theorem own_pn8 : plainName "orderwire/orders/OrderLeavesQtyPinLaw" = true := by first | (simp [plainName, overriddenIn]; done) | decide +kernel
abbrev own_y28 : MethodName := ⟨"orderwire/orders/OrderLeavesQtyPinLaw", "req", "(J)Lorderwire/orders/NewOrder;"⟩
theorem d1_0 : decode q1 0 = .ok (.new 9, 3) := by decide +kernel
theorem d1_3 : decode q1 3 = .ok (.dup, 1) := by decide +kernel
theorem d1_4 : decode q1 4 = .ok (.aconst_null, 1) := by decide +kernel
theorem d1_5 : decode q1 5 = .ok (.aconst_null, 1) := by decide +kernel
theorem d1_6 : decode q1 6 = .ok (.aconst_null, 1) := by decide +kernel
theorem d1_7 : decode q1 7 = .ok (.aconst_null, 1) := by decide +kernel
theorem d1_8 : decode q1 8 = .ok (.aconst_null, 1) := by decide +kernel
theorem d1_9 : decode q1 9 = .ok (.aconst_null, 1) := by decide +kernel
theorem d1_10 : decode q1 10 = .ok (.aconst_null, 1) := by decide +kernel
theorem d1_11 : decode q1 11 = .ok (.lload_n 0, 1) := by decide +kernel
theorem d1_12 : decode q1 12 = .ok (.lconst 0, 1) := by decide +kernel
theorem d1_13 : decode q1 13 = .ok (.iconst 1, 1) := by decide +kernel
theorem d1_14 : decode q1 14 = .ok (.aconst_null, 1) := by decide +kernel
theorem d1_15 : decode q1 15 = .ok (.aconst_null, 1) := by decide +kernel
theorem d1_16 : decode q1 16 = .ok (.invokespecial 11, 3) := by decide +kernel
abbrev own_y29 : MethodName := ⟨"orderwire/orders/NewOrder", "<init>", "(Ljava/lang/String;Ljava/lang/String;Ljava/lang/String;Ljava/lang/String;Lorderwire/book/Side;Lorderwire/orders/OrderType;Lorderwire/orders/TimeInForce;JJILorderwire/orders/Capacity;Lorderwire/orders/AccountType;)V"⟩
theorem own_ef36 (m : MethodId) (x0 : Addr) (x8 : Int64) (x9 : Int64) (x10 : Int32) : entryFrame m #[(.ref x0), .null, .null, .null, .null, .null, .null, .null, (.long x8), (.long x9), (.int x10), .null, .null] 15 = mkF m 0 #[oa x0, .val .null, .val .null, .val .null, .val .null, .val .null, .val .null, .val .null, oj x8, vS, oj x9, vS, oi x10, .val .null, .val .null] [] := by first | (simp [entryFrame, mkF, argsToLocals, Value.category]; done) | rfl
theorem d2_0 : decode q2 0 = .ok (.aload_n 0, 1) := by decide +kernel
theorem d2_1 : decode q2 1 = .ok (.invokespecial 1, 3) := by decide +kernel
abbrev own_y30 : MethodName := ⟨"java/lang/Record", "<init>", "()V"⟩
theorem own_pn9 : plainName "java/lang/Record" = true := by first | (simp [plainName, overriddenIn]; done) | decide +kernel
theorem d3_0 : decode q3 0 = .ok (.aload_n 0, 1) := by decide +kernel
theorem d3_1 : decode q3 1 = .ok (.invokespecial 1, 3) := by decide +kernel
theorem d3_4 : decode q3 4 = .ok (.return_, 1) := by decide +kernel
def own_Q_rmA35 (Z : State) (ob0 : Addr)  (zr zm ps ng : Addr) (zk : ClassId) (h0 : Heap) (n0 : Nat) (v : Option Value) (h : Heap) (L : List Loc) : Prop := v = none ∧ Fr n0 L ∧ h = h0
theorem rmA35 (l : Launch) (Z : State) (a0 : Array Value) (hw : ∀ d ∈ tables_1, d.before a0 Z = true) (ws : List Jvm.Cond) (ob0 : Addr)  (zr zm ps ng : Addr) (zk : ClassId) (h0 : Heap) (n0 : Nat) (O0 : Old Z n0 h0) (G : own_Gl Z zr zm ps ng zk) :
    MetFree l own_y30 (head1 (Jvm.Cond.code own_y30 jdk_30_method_1_code 1 none :: ws) ({ frames := 1, cells := 0, slots := 0, locals := 12 } : Room)) (fun a U => a = #[(.ref ob0)] ∧ Z.Warmed39 U.vm ∧ U.heap = h0) (fun _ _ _ _ _ => True) (fun _ U o U' => ∃ v L, o = .returned v ∧ own_Q_rmA35 Z ob0 zr zm ps ng zk h0 n0 v U'.heap L ∧ FrameEnd U o U' L ({ frames := 1, cells := 0, slots := 0, locals := 12 } : Room).cells ({ frames := 1, cells := 0, slots := 0, locals := 12 } : Room).slots) := by
  refine MetFree.of_bodySF (plainFor_of_name own_pn9) hisR ?_
  intro p e s m args below meth c s₁ Bd hml0 hP hK
  obtain ⟨rfl, hZ, hh⟩ := hP
  have hx := Bd.exec
  have hby := Bd.bytes
  have hml : c.maxLocals = 1 := hml0
  have hown : s.vm.findClass "java/lang/Record" = some m.cls := findClass_of_methodNamed Bd.named
  have hnm := (name_of_methodNamed Bd.named Bd.method).1
  have X0 : Stand p l e ({ frames := 1, cells := 0, slots := 0, locals := 12 } : Room) s m #[(.ref ob0)] below meth c s₁ [] 0 0 := Stand.of_body Bd
  have e0 : s₁.heap = h0 := by rw [← hh, Bd.state]; rfl
  have N0 := Fr.nil n0
  have Z0 : n0 ≤ h0.size := O0.1 ▸ O0.2.1
  have g0 : ∀ t, FS p e below s₁ m 0 #[oa ob0] [] t → ES p e below s₁ m #[(.ref ob0)] 1 t := fun t k => castTop (own_ef1 m (ob0)) k
  have G0 := G
  obtain ⟨S_Z, E_Z, F_Zs, F_Zm, V_Z, S_P, P_P, S_N, P_N⟩ := G
  obtain ⟨T1, X1, e1, st1⟩ := initO X0 hx hZ hown (own_w hw 20 rfl) (own_w hw 21 rfl) (own_w hw 22 rfl) e0 (g := (mkF m 1 #[oa ob0] [(.ref ob0)])) rfl (by rw [hml]; rfl) rfl (hb hby d3_1) (by decide) (W := 0) (own_W0 rfl) (by decide)
  have g2 : ∀ t, FS p e below T1 m 4 #[oa ob0] [] t → ES p e below s₁ m #[(.ref ob0)] 1 t := by
    intro t k
    refine g0 t ?_
    show FS p e below s₁ m 0 #[oa ob0] [] _
    refine XS.aloadN X0.here hx rfl (hb hby d3_0) rfl rfl ?_
    refine st1 _ ?_
    exact k
  obtain ⟨fs, hrt, hrun, hended, hW, hsame⟩ := X1.leave (v := none) (fun _ => rfl)
  refine ⟨_, _, g2 _ ?_, hrun, hended, _, _, rfl, ?_, ⟨_, rfl⟩, hW, hsame.mono (by decide) (by decide)⟩
  · show Steps p.tables e below (T1.setTop (mkF m 4 #[oa ob0] [])) _
    exact X1.returnOut hx Bd.returns (hb hby d3_4) hrt
  · show own_Q_rmA35 Z ob0 zr zm ps ng zk h0 n0 _ T1.heap _
    rw [e1]
    exact ⟨rfl, N0, rfl⟩
theorem d2_4 : decode q2 4 = .ok (.aload_n 0, 1) := by decide +kernel
theorem d2_5 : decode q2 5 = .ok (.aload_n 1, 1) := by decide +kernel
theorem d2_6 : decode q2 6 = .ok (.putfield 7, 3) := by decide +kernel
theorem d2_9 : decode q2 9 = .ok (.aload_n 0, 1) := by decide +kernel
theorem d2_10 : decode q2 10 = .ok (.aload_n 2, 1) := by decide +kernel
theorem d2_11 : decode q2 11 = .ok (.putfield 13, 3) := by decide +kernel
theorem own_la6 {Z : State} {a0 : Array Value} (hw : ∀ d ∈ tables_1, d.before a0 Z = true) : Laid Z a0 "orderwire/orders/NewOrder" "orderwire/orders/NewOrder" "clOrdId" "Ljava/lang/String;" := Or.inr (own_w hw 26 rfl)
theorem own_la7 {Z : State} {a0 : Array Value} (hw : ∀ d ∈ tables_1, d.before a0 Z = true) : Laid Z a0 "orderwire/orders/NewOrder" "orderwire/orders/NewOrder" "owner" "Ljava/lang/String;" := Or.inr (own_w hw 24 rfl)
theorem own_ty6 : parseFieldDescriptor "Ljava/lang/String;" = some (.object "java/lang/String") := by decide
theorem d2_14 : decode q2 14 = .ok (.aload_n 0, 1) := by decide +kernel
theorem d2_15 : decode q2 15 = .ok (.aload_n 3, 1) := by decide +kernel
theorem d2_16 : decode q2 16 = .ok (.putfield 16, 3) := by decide +kernel
theorem own_la8 {Z : State} {a0 : Array Value} (hw : ∀ d ∈ tables_1, d.before a0 Z = true) : Laid Z a0 "orderwire/orders/NewOrder" "orderwire/orders/NewOrder" "trader" "Ljava/lang/String;" := Or.inr (own_w hw 28 rfl)
theorem d2_19 : decode q2 19 = .ok (.aload_n 0, 1) := by decide +kernel
theorem d2_20 : decode q2 20 = .ok (.aload 4, 2) := by decide +kernel
theorem d2_22 : decode q2 22 = .ok (.putfield 19, 3) := by decide +kernel
theorem own_la9 {Z : State} {a0 : Array Value} (hw : ∀ d ∈ tables_1, d.before a0 Z = true) : Laid Z a0 "orderwire/orders/NewOrder" "orderwire/orders/NewOrder" "symbol" "Ljava/lang/String;" := Or.inr (own_w hw 30 rfl)
theorem d2_25 : decode q2 25 = .ok (.aload_n 0, 1) := by decide +kernel
theorem d2_26 : decode q2 26 = .ok (.aload 5, 2) := by decide +kernel
theorem d2_28 : decode q2 28 = .ok (.putfield 22, 3) := by decide +kernel
theorem own_la10 {Z : State} {a0 : Array Value} (hw : ∀ d ∈ tables_1, d.before a0 Z = true) : Laid Z a0 "orderwire/orders/NewOrder" "orderwire/orders/NewOrder" "side" "Lorderwire/book/Side;" := Or.inr (own_w hw 32 rfl)
theorem own_ty7 : parseFieldDescriptor "Lorderwire/book/Side;" = some (.object "orderwire/book/Side") := by decide
theorem d2_31 : decode q2 31 = .ok (.aload_n 0, 1) := by decide +kernel
theorem d2_32 : decode q2 32 = .ok (.aload 6, 2) := by decide +kernel
theorem d2_34 : decode q2 34 = .ok (.putfield 26, 3) := by decide +kernel
theorem own_la11 {Z : State} {a0 : Array Value} (hw : ∀ d ∈ tables_1, d.before a0 Z = true) : Laid Z a0 "orderwire/orders/NewOrder" "orderwire/orders/NewOrder" "type" "Lorderwire/orders/OrderType;" := Or.inr (own_w hw 34 rfl)
theorem own_ty8 : parseFieldDescriptor "Lorderwire/orders/OrderType;" = some (.object "orderwire/orders/OrderType") := by decide
theorem d2_37 : decode q2 37 = .ok (.aload_n 0, 1) := by decide +kernel
theorem d2_38 : decode q2 38 = .ok (.aload 7, 2) := by decide +kernel
theorem d2_40 : decode q2 40 = .ok (.putfield 30, 3) := by decide +kernel
theorem own_la12 {Z : State} {a0 : Array Value} (hw : ∀ d ∈ tables_1, d.before a0 Z = true) : Laid Z a0 "orderwire/orders/NewOrder" "orderwire/orders/NewOrder" "timeInForce" "Lorderwire/orders/TimeInForce;" := Or.inr (own_w hw 36 rfl)
theorem own_ty9 : parseFieldDescriptor "Lorderwire/orders/TimeInForce;" = some (.object "orderwire/orders/TimeInForce") := by decide
theorem d2_43 : decode q2 43 = .ok (.aload_n 0, 1) := by decide +kernel
theorem d2_44 : decode q2 44 = .ok (.lload 8, 2) := by decide +kernel
theorem d2_46 : decode q2 46 = .ok (.putfield 34, 3) := by decide +kernel
theorem own_la13 {Z : State} {a0 : Array Value} (hw : ∀ d ∈ tables_1, d.before a0 Z = true) : Laid Z a0 "orderwire/orders/NewOrder" "orderwire/orders/NewOrder" "quantity" "J" := Or.inr (own_w hw 38 rfl)
theorem d2_49 : decode q2 49 = .ok (.aload_n 0, 1) := by decide +kernel
theorem d2_50 : decode q2 50 = .ok (.lload 10, 2) := by decide +kernel
theorem d2_52 : decode q2 52 = .ok (.putfield 38, 3) := by decide +kernel
theorem own_la14 {Z : State} {a0 : Array Value} (hw : ∀ d ∈ tables_1, d.before a0 Z = true) : Laid Z a0 "orderwire/orders/NewOrder" "orderwire/orders/NewOrder" "price" "J" := Or.inr (own_w hw 40 rfl)
theorem d2_55 : decode q2 55 = .ok (.aload_n 0, 1) := by decide +kernel
theorem d2_56 : decode q2 56 = .ok (.iload 12, 2) := by decide +kernel
theorem d2_58 : decode q2 58 = .ok (.putfield 41, 3) := by decide +kernel
theorem own_la15 {Z : State} {a0 : Array Value} (hw : ∀ d ∈ tables_1, d.before a0 Z = true) : Laid Z a0 "orderwire/orders/NewOrder" "orderwire/orders/NewOrder" "book" "I" := Or.inr (own_w hw 42 rfl)
theorem d2_61 : decode q2 61 = .ok (.aload_n 0, 1) := by decide +kernel
theorem d2_62 : decode q2 62 = .ok (.aload 13, 2) := by decide +kernel
theorem d2_64 : decode q2 64 = .ok (.putfield 45, 3) := by decide +kernel
theorem own_la16 {Z : State} {a0 : Array Value} (hw : ∀ d ∈ tables_1, d.before a0 Z = true) : Laid Z a0 "orderwire/orders/NewOrder" "orderwire/orders/NewOrder" "capacity" "Lorderwire/orders/Capacity;" := Or.inr (own_w hw 44 rfl)
theorem own_ty10 : parseFieldDescriptor "Lorderwire/orders/Capacity;" = some (.object "orderwire/orders/Capacity") := by decide
theorem d2_67 : decode q2 67 = .ok (.aload_n 0, 1) := by decide +kernel
theorem d2_68 : decode q2 68 = .ok (.aload 14, 2) := by decide +kernel
theorem d2_70 : decode q2 70 = .ok (.putfield 49, 3) := by decide +kernel
theorem own_la17 {Z : State} {a0 : Array Value} (hw : ∀ d ∈ tables_1, d.before a0 Z = true) : Laid Z a0 "orderwire/orders/NewOrder" "orderwire/orders/NewOrder" "accountType" "Lorderwire/orders/AccountType;" := Or.inr (own_w hw 46 rfl)
theorem own_ty11 : parseFieldDescriptor "Lorderwire/orders/AccountType;" = some (.object "orderwire/orders/AccountType") := by decide
theorem d2_73 : decode q2 73 = .ok (.return_, 1) := by decide +kernel
def own_Q_rmA34 (Z : State) (ob0 : Addr) (p8 : Int64)  (zr zm ps ng : Addr) (zk : ClassId) (h0 : Heap) (n0 : Nat) (v : Option Value) (h : Heap) (L : List Loc) : Prop := v = none ∧ Fr n0 L ∧ Keep h0 h [ob0] ∧ Exa Z h ob0 "orderwire/orders/NewOrder" ∧ Fld Z h ob0 "orderwire/orders/NewOrder" "quantity" "J" (.long p8)
theorem rmA34 (l : Launch) (Z : State) (a0 : Array Value) (hw : ∀ d ∈ tables_1, d.before a0 Z = true) (ws : List Jvm.Cond) (ob0 : Addr) (p8 : Int64)  (zr zm ps ng : Addr) (zk : ClassId) (h0 : Heap) (n0 : Nat) (O0 : Old Z n0 h0) (G : own_Gl Z zr zm ps ng zk) (E_ob0 : Exa Z h0 ob0 "orderwire/orders/NewOrder") (F_ob0_accountType : Fld Z h0 ob0 "orderwire/orders/NewOrder" "accountType" "Lorderwire/orders/AccountType;" .null) (F_ob0_book : Fld Z h0 ob0 "orderwire/orders/NewOrder" "book" "I" (.int (0 : Int32))) (F_ob0_capacity : Fld Z h0 ob0 "orderwire/orders/NewOrder" "capacity" "Lorderwire/orders/Capacity;" .null) (F_ob0_clOrdId : Fld Z h0 ob0 "orderwire/orders/NewOrder" "clOrdId" "Ljava/lang/String;" .null) (F_ob0_owner : Fld Z h0 ob0 "orderwire/orders/NewOrder" "owner" "Ljava/lang/String;" .null) (F_ob0_price : Fld Z h0 ob0 "orderwire/orders/NewOrder" "price" "J" (.long (0 : Int64))) (F_ob0_quantity : Fld Z h0 ob0 "orderwire/orders/NewOrder" "quantity" "J" (.long (0 : Int64))) (F_ob0_side : Fld Z h0 ob0 "orderwire/orders/NewOrder" "side" "Lorderwire/book/Side;" .null) (F_ob0_symbol : Fld Z h0 ob0 "orderwire/orders/NewOrder" "symbol" "Ljava/lang/String;" .null) (F_ob0_timeInForce : Fld Z h0 ob0 "orderwire/orders/NewOrder" "timeInForce" "Lorderwire/orders/TimeInForce;" .null) (F_ob0_trader : Fld Z h0 ob0 "orderwire/orders/NewOrder" "trader" "Ljava/lang/String;" .null) (F_ob0_type : Fld Z h0 ob0 "orderwire/orders/NewOrder" "type" "Lorderwire/orders/OrderType;" .null) (gz_ob0 : n0 ≤ ob0) :
    MetFree l own_y29 (head1 (Jvm.Cond.code own_y29 prog_109_method_1_code 15 none :: ws) ({ frames := 2, cells := 0, slots := 0, locals := 24 } : Room)) (fun a U => a = #[(.ref ob0), .null, .null, .null, .null, .null, .null, .null, (.long p8), (.long (0 : Int64)), (.int (1 : Int32)), .null, .null] ∧ Z.Warmed39 U.vm ∧ U.heap = h0) (fun _ _ _ _ _ => True) (fun _ U o U' => ∃ v L, o = .returned v ∧ own_Q_rmA34 Z ob0 p8 zr zm ps ng zk h0 n0 v U'.heap L ∧ FrameEnd U o U' L ({ frames := 2, cells := 0, slots := 0, locals := 24 } : Room).cells ({ frames := 2, cells := 0, slots := 0, locals := 24 } : Room).slots) := by
  refine MetFree.of_bodySF (plainFor_of_name own_pn7) hisR ?_
  intro p e s m args below meth c s₁ Bd hml0 hP hK
  obtain ⟨rfl, hZ, hh⟩ := hP
  have hx := Bd.exec
  have hby := Bd.bytes
  have hml : c.maxLocals = 15 := hml0
  have hown : s.vm.findClass "orderwire/orders/NewOrder" = some m.cls := findClass_of_methodNamed Bd.named
  have hnm := (name_of_methodNamed Bd.named Bd.method).1
  have X0 : Stand p l e ({ frames := 2, cells := 0, slots := 0, locals := 24 } : Room) s m #[(.ref ob0), .null, .null, .null, .null, .null, .null, .null, (.long p8), (.long (0 : Int64)), (.int (1 : Int32)), .null, .null] below meth c s₁ [] 0 0 := Stand.of_body Bd
  have e0 : s₁.heap = h0 := by rw [← hh, Bd.state]; rfl
  have N0 := Fr.nil n0
  have Z0 : n0 ≤ h0.size := O0.1 ▸ O0.2.1
  have g0 : ∀ t, FS p e below s₁ m 0 #[oa ob0, .val .null, .val .null, .val .null, .val .null, .val .null, .val .null, .val .null, oj p8, vS, oj (0 : Int64), vS, oi (1 : Int32), .val .null, .val .null] [] t → ES p e below s₁ m #[(.ref ob0), .null, .null, .null, .null, .null, .null, .null, (.long p8), (.long (0 : Int64)), (.int (1 : Int32)), .null, .null] 15 t := fun t k => castTop (own_ef36 m (ob0) (p8) ((0 : Int64)) ((1 : Int32))) k
  have G0 := G
  obtain ⟨S_Z, E_Z, F_Zs, F_Zm, V_Z, S_P, P_P, S_N, P_N⟩ := G
  obtain ⟨_, _, ⟨T1, L1, k1, n1⟩, -, X1, ⟨Lc1, hQ1, l1, y1, z1⟩, st1⟩ := X0.specialBack hx (y := own_y30) rfl hown (mvT hZ (own_w hw 15 rfl)) (mvT hZ (own_w hw 16 rfl)) (mvT hZ (own_w hw 19 rfl)) (by decide) (backOf (W := 0) (rmA35 l Z a0 hw [] ob0  zr zm ps ng zk h0 n0 O0 G0   ) hZ (own_w hw 19 rfl) (own_w hw 18 rfl) (by decide) (by decide)) (g := (mkF m 1 #[oa ob0, .val .null, .val .null, .val .null, .val .null, .val .null, .val .null, .val .null, oj p8, vS, oj (0 : Int64), vS, oi (1 : Int32), .val .null, .val .null] [(.ref ob0)])) rfl (by rw [hml]; rfl) (Steps.refl _) (a := ob0) (argsL := []) (rest := []) (lenOf own_pd0 rfl) rfl (own_W0 rfl) (hb hby d2_1) (fun _ _ => ⟨rfl, e0, (by decide : 0 + 0 ≤ _), (by decide : 0 + 0 ≤ _)⟩)
  dsimp only [Pt.U, Pt.locs, Pt.cells, Pt.slots] at X1 l1 y1 z1 st1 hQ1
  subst l1 y1 z1
  obtain ⟨rfl, Nq1, e1⟩ := hQ1
  have N1 := Fr.app N0 Nq1
  obtain ⟨T2, h2, X2, e2, W2, st2⟩ := putF X1 hx hZ hown (host := "") (Or.inl (own_w hw 23 rfl)) Via.refl e1 F_ob0_owner E_ob0 (Or.inr ⟨(own_w hw 24 rfl), rfl, hnm⟩) (own_w hw 10 rfl) (ty := (.object "java/lang/String")) (by decide) rfl rfl (g := (mkF m 6 #[oa ob0, .val .null, .val .null, .val .null, .val .null, .val .null, .val .null, .val .null, oj p8, vS, oj (0 : Int64), vS, oi (1 : Int32), .val .null, .val .null] [.null, (.ref ob0)])) rfl rfl (hb hby d2_6)
  have Fw2 := F_ob0_owner.same W2
  have N2 := Fr.snoc X2 N1 gz_ob0
  have f3 := (E_ob0.wr W2)
  have f4 := (F_ob0_clOrdId.other W2 (Or.inr (slot_ne (own_la6 hw) (own_la7 hw) (by decide) own_ty6 own_ty6)))
  obtain ⟨T5, h5, X5, e5, W5, st5⟩ := putF X2 hx hZ hown (host := "") (Or.inl (own_w hw 25 rfl)) Via.refl e2 f4 f3 (Or.inr ⟨(own_w hw 26 rfl), rfl, hnm⟩) (own_w hw 10 rfl) (ty := (.object "java/lang/String")) (by decide) rfl rfl (g := (mkF m 11 #[oa ob0, .val .null, .val .null, .val .null, .val .null, .val .null, .val .null, .val .null, oj p8, vS, oj (0 : Int64), vS, oi (1 : Int32), .val .null, .val .null] [.null, (.ref ob0)])) rfl rfl (hb hby d2_11)
  have Fw5 := f4.same W5
  have N5 := Fr.snoc X5 N2 gz_ob0
  have f6 := (f3.wr W5)
  have f7 := ((F_ob0_trader.other W2 (Or.inr (slot_ne (own_la8 hw) (own_la7 hw) (by decide) own_ty6 own_ty6))).other W5 (Or.inr (slot_ne (own_la8 hw) (own_la6 hw) (by decide) own_ty6 own_ty6)))
  obtain ⟨T8, h8, X8, e8, W8, st8⟩ := putF X5 hx hZ hown (host := "") (Or.inl (own_w hw 27 rfl)) Via.refl e5 f7 f6 (Or.inr ⟨(own_w hw 28 rfl), rfl, hnm⟩) (own_w hw 10 rfl) (ty := (.object "java/lang/String")) (by decide) rfl rfl (g := (mkF m 16 #[oa ob0, .val .null, .val .null, .val .null, .val .null, .val .null, .val .null, .val .null, oj p8, vS, oj (0 : Int64), vS, oi (1 : Int32), .val .null, .val .null] [.null, (.ref ob0)])) rfl rfl (hb hby d2_16)
  have Fw8 := f7.same W8
  have N8 := Fr.snoc X8 N5 gz_ob0
  have f9 := (f6.wr W8)
  have f10 := (((F_ob0_symbol.other W2 (Or.inr (slot_ne (own_la9 hw) (own_la7 hw) (by decide) own_ty6 own_ty6))).other W5 (Or.inr (slot_ne (own_la9 hw) (own_la6 hw) (by decide) own_ty6 own_ty6))).other W8 (Or.inr (slot_ne (own_la9 hw) (own_la8 hw) (by decide) own_ty6 own_ty6)))
  obtain ⟨T11, h11, X11, e11, W11, st11⟩ := putF X8 hx hZ hown (host := "") (Or.inl (own_w hw 29 rfl)) Via.refl e8 f10 f9 (Or.inr ⟨(own_w hw 30 rfl), rfl, hnm⟩) (own_w hw 10 rfl) (ty := (.object "java/lang/String")) (by decide) rfl rfl (g := (mkF m 22 #[oa ob0, .val .null, .val .null, .val .null, .val .null, .val .null, .val .null, .val .null, oj p8, vS, oj (0 : Int64), vS, oi (1 : Int32), .val .null, .val .null] [.null, (.ref ob0)])) rfl rfl (hb hby d2_22)
  have Fw11 := f10.same W11
  have N11 := Fr.snoc X11 N8 gz_ob0
  have f12 := (f9.wr W11)
  have f13 := ((((F_ob0_side.other W2 (Or.inr (slot_ne (own_la10 hw) (own_la7 hw) (by decide) own_ty7 own_ty6))).other W5 (Or.inr (slot_ne (own_la10 hw) (own_la6 hw) (by decide) own_ty7 own_ty6))).other W8 (Or.inr (slot_ne (own_la10 hw) (own_la8 hw) (by decide) own_ty7 own_ty6))).other W11 (Or.inr (slot_ne (own_la10 hw) (own_la9 hw) (by decide) own_ty7 own_ty6)))
  obtain ⟨T14, h14, X14, e14, W14, st14⟩ := putF X11 hx hZ hown (host := "") (Or.inl (own_w hw 31 rfl)) Via.refl e11 f13 f12 (Or.inr ⟨(own_w hw 32 rfl), rfl, hnm⟩) (own_w hw 10 rfl) (ty := (.object "orderwire/book/Side")) (by decide) rfl rfl (g := (mkF m 28 #[oa ob0, .val .null, .val .null, .val .null, .val .null, .val .null, .val .null, .val .null, oj p8, vS, oj (0 : Int64), vS, oi (1 : Int32), .val .null, .val .null] [.null, (.ref ob0)])) rfl rfl (hb hby d2_28)
  have Fw14 := f13.same W14
  have N14 := Fr.snoc X14 N11 gz_ob0
  have f15 := (f12.wr W14)
  have f16 := (((((F_ob0_type.other W2 (Or.inr (slot_ne (own_la11 hw) (own_la7 hw) (by decide) own_ty8 own_ty6))).other W5 (Or.inr (slot_ne (own_la11 hw) (own_la6 hw) (by decide) own_ty8 own_ty6))).other W8 (Or.inr (slot_ne (own_la11 hw) (own_la8 hw) (by decide) own_ty8 own_ty6))).other W11 (Or.inr (slot_ne (own_la11 hw) (own_la9 hw) (by decide) own_ty8 own_ty6))).other W14 (Or.inr (slot_ne (own_la11 hw) (own_la10 hw) (by decide) own_ty8 own_ty7)))
  obtain ⟨T17, h17, X17, e17, W17, st17⟩ := putF X14 hx hZ hown (host := "") (Or.inl (own_w hw 33 rfl)) Via.refl e14 f16 f15 (Or.inr ⟨(own_w hw 34 rfl), rfl, hnm⟩) (own_w hw 10 rfl) (ty := (.object "orderwire/orders/OrderType")) (by decide) rfl rfl (g := (mkF m 34 #[oa ob0, .val .null, .val .null, .val .null, .val .null, .val .null, .val .null, .val .null, oj p8, vS, oj (0 : Int64), vS, oi (1 : Int32), .val .null, .val .null] [.null, (.ref ob0)])) rfl rfl (hb hby d2_34)
  have Fw17 := f16.same W17
  have N17 := Fr.snoc X17 N14 gz_ob0
  have f18 := (f15.wr W17)
  have f19 := ((((((F_ob0_timeInForce.other W2 (Or.inr (slot_ne (own_la12 hw) (own_la7 hw) (by decide) own_ty9 own_ty6))).other W5 (Or.inr (slot_ne (own_la12 hw) (own_la6 hw) (by decide) own_ty9 own_ty6))).other W8 (Or.inr (slot_ne (own_la12 hw) (own_la8 hw) (by decide) own_ty9 own_ty6))).other W11 (Or.inr (slot_ne (own_la12 hw) (own_la9 hw) (by decide) own_ty9 own_ty6))).other W14 (Or.inr (slot_ne (own_la12 hw) (own_la10 hw) (by decide) own_ty9 own_ty7))).other W17 (Or.inr (slot_ne (own_la12 hw) (own_la11 hw) (by decide) own_ty9 own_ty8)))
  obtain ⟨T20, h20, X20, e20, W20, st20⟩ := putF X17 hx hZ hown (host := "") (Or.inl (own_w hw 35 rfl)) Via.refl e17 f19 f18 (Or.inr ⟨(own_w hw 36 rfl), rfl, hnm⟩) (own_w hw 10 rfl) (ty := (.object "orderwire/orders/TimeInForce")) (by decide) rfl rfl (g := (mkF m 40 #[oa ob0, .val .null, .val .null, .val .null, .val .null, .val .null, .val .null, .val .null, oj p8, vS, oj (0 : Int64), vS, oi (1 : Int32), .val .null, .val .null] [.null, (.ref ob0)])) rfl rfl (hb hby d2_40)
  have Fw20 := f19.same W20
  have N20 := Fr.snoc X20 N17 gz_ob0
  have f21 := (f18.wr W20)
  have f22 := (((((((F_ob0_quantity.other W2 (Or.inr (slot_ne (own_la13 hw) (own_la7 hw) (by decide) own_ty1 own_ty6))).other W5 (Or.inr (slot_ne (own_la13 hw) (own_la6 hw) (by decide) own_ty1 own_ty6))).other W8 (Or.inr (slot_ne (own_la13 hw) (own_la8 hw) (by decide) own_ty1 own_ty6))).other W11 (Or.inr (slot_ne (own_la13 hw) (own_la9 hw) (by decide) own_ty1 own_ty6))).other W14 (Or.inr (slot_ne (own_la13 hw) (own_la10 hw) (by decide) own_ty1 own_ty7))).other W17 (Or.inr (slot_ne (own_la13 hw) (own_la11 hw) (by decide) own_ty1 own_ty8))).other W20 (Or.inr (slot_ne (own_la13 hw) (own_la12 hw) (by decide) own_ty1 own_ty9)))
  obtain ⟨T23, h23, X23, e23, W23, st23⟩ := putF X20 hx hZ hown (host := "") (Or.inl (own_w hw 37 rfl)) Via.refl e20 f22 f21 (Or.inr ⟨(own_w hw 38 rfl), rfl, hnm⟩) (own_w hw 10 rfl) (ty := .long) (by decide) rfl rfl (g := (mkF m 46 #[oa ob0, .val .null, .val .null, .val .null, .val .null, .val .null, .val .null, .val .null, oj p8, vS, oj (0 : Int64), vS, oi (1 : Int32), .val .null, .val .null] [(.long p8), (.ref ob0)])) rfl rfl (hb hby d2_46)
  have Fw23 := f22.same W23
  have N23 := Fr.snoc X23 N20 gz_ob0
  have f24 := (f21.wr W23)
  have f25 := ((((((((F_ob0_price.other W2 (Or.inr (slot_ne (own_la14 hw) (own_la7 hw) (by decide) own_ty1 own_ty6))).other W5 (Or.inr (slot_ne (own_la14 hw) (own_la6 hw) (by decide) own_ty1 own_ty6))).other W8 (Or.inr (slot_ne (own_la14 hw) (own_la8 hw) (by decide) own_ty1 own_ty6))).other W11 (Or.inr (slot_ne (own_la14 hw) (own_la9 hw) (by decide) own_ty1 own_ty6))).other W14 (Or.inr (slot_ne (own_la14 hw) (own_la10 hw) (by decide) own_ty1 own_ty7))).other W17 (Or.inr (slot_ne (own_la14 hw) (own_la11 hw) (by decide) own_ty1 own_ty8))).other W20 (Or.inr (slot_ne (own_la14 hw) (own_la12 hw) (by decide) own_ty1 own_ty9))).other W23 (Or.inr (slot_ne (own_la14 hw) (own_la13 hw) (by decide) own_ty1 own_ty1)))
  obtain ⟨T26, h26, X26, e26, W26, st26⟩ := putF X23 hx hZ hown (host := "") (Or.inl (own_w hw 39 rfl)) Via.refl e23 f25 f24 (Or.inr ⟨(own_w hw 40 rfl), rfl, hnm⟩) (own_w hw 10 rfl) (ty := .long) (by decide) rfl rfl (g := (mkF m 52 #[oa ob0, .val .null, .val .null, .val .null, .val .null, .val .null, .val .null, .val .null, oj p8, vS, oj (0 : Int64), vS, oi (1 : Int32), .val .null, .val .null] [(.long (0 : Int64)), (.ref ob0)])) rfl rfl (hb hby d2_52)
  have Fw26 := f25.same W26
  have N26 := Fr.snoc X26 N23 gz_ob0
  have f27 := (f24.wr W26)
  have f28 := (((((((((F_ob0_book.other W2 (Or.inr (slot_ne (own_la15 hw) (own_la7 hw) (by decide) own_ty3 own_ty6))).other W5 (Or.inr (slot_ne (own_la15 hw) (own_la6 hw) (by decide) own_ty3 own_ty6))).other W8 (Or.inr (slot_ne (own_la15 hw) (own_la8 hw) (by decide) own_ty3 own_ty6))).other W11 (Or.inr (slot_ne (own_la15 hw) (own_la9 hw) (by decide) own_ty3 own_ty6))).other W14 (Or.inr (slot_ne (own_la15 hw) (own_la10 hw) (by decide) own_ty3 own_ty7))).other W17 (Or.inr (slot_ne (own_la15 hw) (own_la11 hw) (by decide) own_ty3 own_ty8))).other W20 (Or.inr (slot_ne (own_la15 hw) (own_la12 hw) (by decide) own_ty3 own_ty9))).other W23 (Or.inr (slot_ne (own_la15 hw) (own_la13 hw) (by decide) own_ty3 own_ty1))).other W26 (Or.inr (slot_ne (own_la15 hw) (own_la14 hw) (by decide) own_ty3 own_ty1)))
  obtain ⟨T29, h29, X29, e29, W29, st29⟩ := putF X26 hx hZ hown (host := "") (Or.inl (own_w hw 41 rfl)) Via.refl e26 f28 f27 (Or.inr ⟨(own_w hw 42 rfl), rfl, hnm⟩) (own_w hw 10 rfl) (ty := .int) (by decide) rfl rfl (g := (mkF m 58 #[oa ob0, .val .null, .val .null, .val .null, .val .null, .val .null, .val .null, .val .null, oj p8, vS, oj (0 : Int64), vS, oi (1 : Int32), .val .null, .val .null] [(.int (1 : Int32)), (.ref ob0)])) rfl rfl (hb hby d2_58)
  have Fw29 := f28.same W29
  have N29 := Fr.snoc X29 N26 gz_ob0
  have f30 := (f27.wr W29)
  have f31 := ((((((((((F_ob0_capacity.other W2 (Or.inr (slot_ne (own_la16 hw) (own_la7 hw) (by decide) own_ty10 own_ty6))).other W5 (Or.inr (slot_ne (own_la16 hw) (own_la6 hw) (by decide) own_ty10 own_ty6))).other W8 (Or.inr (slot_ne (own_la16 hw) (own_la8 hw) (by decide) own_ty10 own_ty6))).other W11 (Or.inr (slot_ne (own_la16 hw) (own_la9 hw) (by decide) own_ty10 own_ty6))).other W14 (Or.inr (slot_ne (own_la16 hw) (own_la10 hw) (by decide) own_ty10 own_ty7))).other W17 (Or.inr (slot_ne (own_la16 hw) (own_la11 hw) (by decide) own_ty10 own_ty8))).other W20 (Or.inr (slot_ne (own_la16 hw) (own_la12 hw) (by decide) own_ty10 own_ty9))).other W23 (Or.inr (slot_ne (own_la16 hw) (own_la13 hw) (by decide) own_ty10 own_ty1))).other W26 (Or.inr (slot_ne (own_la16 hw) (own_la14 hw) (by decide) own_ty10 own_ty1))).other W29 (Or.inr (slot_ne (own_la16 hw) (own_la15 hw) (by decide) own_ty10 own_ty3)))
  obtain ⟨T32, h32, X32, e32, W32, st32⟩ := putF X29 hx hZ hown (host := "") (Or.inl (own_w hw 43 rfl)) Via.refl e29 f31 f30 (Or.inr ⟨(own_w hw 44 rfl), rfl, hnm⟩) (own_w hw 10 rfl) (ty := (.object "orderwire/orders/Capacity")) (by decide) rfl rfl (g := (mkF m 64 #[oa ob0, .val .null, .val .null, .val .null, .val .null, .val .null, .val .null, .val .null, oj p8, vS, oj (0 : Int64), vS, oi (1 : Int32), .val .null, .val .null] [.null, (.ref ob0)])) rfl rfl (hb hby d2_64)
  have Fw32 := f31.same W32
  have N32 := Fr.snoc X32 N29 gz_ob0
  have f33 := (f30.wr W32)
  have f34 := (((((((((((F_ob0_accountType.other W2 (Or.inr (slot_ne (own_la17 hw) (own_la7 hw) (by decide) own_ty11 own_ty6))).other W5 (Or.inr (slot_ne (own_la17 hw) (own_la6 hw) (by decide) own_ty11 own_ty6))).other W8 (Or.inr (slot_ne (own_la17 hw) (own_la8 hw) (by decide) own_ty11 own_ty6))).other W11 (Or.inr (slot_ne (own_la17 hw) (own_la9 hw) (by decide) own_ty11 own_ty6))).other W14 (Or.inr (slot_ne (own_la17 hw) (own_la10 hw) (by decide) own_ty11 own_ty7))).other W17 (Or.inr (slot_ne (own_la17 hw) (own_la11 hw) (by decide) own_ty11 own_ty8))).other W20 (Or.inr (slot_ne (own_la17 hw) (own_la12 hw) (by decide) own_ty11 own_ty9))).other W23 (Or.inr (slot_ne (own_la17 hw) (own_la13 hw) (by decide) own_ty11 own_ty1))).other W26 (Or.inr (slot_ne (own_la17 hw) (own_la14 hw) (by decide) own_ty11 own_ty1))).other W29 (Or.inr (slot_ne (own_la17 hw) (own_la15 hw) (by decide) own_ty11 own_ty3))).other W32 (Or.inr (slot_ne (own_la17 hw) (own_la16 hw) (by decide) own_ty11 own_ty10)))
  obtain ⟨T35, h35, X35, e35, W35, st35⟩ := putF X32 hx hZ hown (host := "") (Or.inl (own_w hw 45 rfl)) Via.refl e32 f34 f33 (Or.inr ⟨(own_w hw 46 rfl), rfl, hnm⟩) (own_w hw 10 rfl) (ty := (.object "orderwire/orders/AccountType")) (by decide) rfl rfl (g := (mkF m 70 #[oa ob0, .val .null, .val .null, .val .null, .val .null, .val .null, .val .null, .val .null, oj p8, vS, oj (0 : Int64), vS, oi (1 : Int32), .val .null, .val .null] [.null, (.ref ob0)])) rfl rfl (hb hby d2_70)
  have Fw35 := f34.same W35
  have N35 := Fr.snoc X35 N32 gz_ob0
  have g36 : ∀ t, FS p e below T35 m 73 #[oa ob0, .val .null, .val .null, .val .null, .val .null, .val .null, .val .null, .val .null, oj p8, vS, oj (0 : Int64), vS, oi (1 : Int32), .val .null, .val .null] [] t → ES p e below s₁ m #[(.ref ob0), .null, .null, .null, .null, .null, .null, .null, (.long p8), (.long (0 : Int64)), (.int (1 : Int32)), .null, .null] 15 t := by
    intro t k
    refine g0 t ?_
    show FS p e below s₁ m 0 #[oa ob0, .val .null, .val .null, .val .null, .val .null, .val .null, .val .null, .val .null, oj p8, vS, oj (0 : Int64), vS, oi (1 : Int32), .val .null, .val .null] [] _
    refine XS.aloadN X0.here hx rfl (hb hby d2_0) rfl rfl ?_
    refine st1.trans ?_
    refine XS.aloadN X1.here hx rfl (hb hby d2_4) rfl rfl ?_
    refine XS.aloadN X1.here hx rfl (hb hby d2_5) rfl rfl ?_
    refine st2 _ ?_
    refine XS.aloadN X2.here hx rfl (hb hby d2_9) rfl rfl ?_
    refine XS.aloadN X2.here hx rfl (hb hby d2_10) rfl rfl ?_
    refine st5 _ ?_
    refine XS.aloadN X5.here hx rfl (hb hby d2_14) rfl rfl ?_
    refine XS.aloadN X5.here hx rfl (hb hby d2_15) rfl rfl ?_
    refine st8 _ ?_
    refine XS.aloadN X8.here hx rfl (hb hby d2_19) rfl rfl ?_
    refine XS.aload X8.here hx rfl (hb hby d2_20) rfl rfl ?_
    refine st11 _ ?_
    refine XS.aloadN X11.here hx rfl (hb hby d2_25) rfl rfl ?_
    refine XS.aload X11.here hx rfl (hb hby d2_26) rfl rfl ?_
    show FS p e below T11 m 28 #[oa ob0, .val .null, .val .null, .val .null, .val .null, .val .null, .val .null, .val .null, oj p8, vS, oj (0 : Int64), vS, oi (1 : Int32), .val .null, .val .null] [.null, (.ref ob0)] _
    refine st14 _ ?_
    refine XS.aloadN X14.here hx rfl (hb hby d2_31) rfl rfl ?_
    refine XS.aload X14.here hx rfl (hb hby d2_32) rfl rfl ?_
    refine st17 _ ?_
    refine XS.aloadN X17.here hx rfl (hb hby d2_37) rfl rfl ?_
    refine XS.aload X17.here hx rfl (hb hby d2_38) rfl rfl ?_
    refine st20 _ ?_
    refine XS.aloadN X20.here hx rfl (hb hby d2_43) rfl rfl ?_
    refine XS.lload X20.here hx rfl (hb hby d2_44) rfl ?_
    refine st23 _ ?_
    refine XS.aloadN X23.here hx rfl (hb hby d2_49) rfl rfl ?_
    refine XS.lload X23.here hx rfl (hb hby d2_50) rfl ?_
    refine st26 _ ?_
    refine XS.aloadN X26.here hx rfl (hb hby d2_55) rfl rfl ?_
    refine XS.iload X26.here hx rfl (hb hby d2_56) rfl ?_
    refine st29 _ ?_
    show FS p e below T29 m 61 #[oa ob0, .val .null, .val .null, .val .null, .val .null, .val .null, .val .null, .val .null, oj p8, vS, oj (0 : Int64), vS, oi (1 : Int32), .val .null, .val .null] [] _
    refine XS.aloadN X29.here hx rfl (hb hby d2_61) rfl rfl ?_
    refine XS.aload X29.here hx rfl (hb hby d2_62) rfl rfl ?_
    refine st32 _ ?_
    refine XS.aloadN X32.here hx rfl (hb hby d2_67) rfl rfl ?_
    refine XS.aload X32.here hx rfl (hb hby d2_68) rfl rfl ?_
    refine st35 _ ?_
    exact k
  obtain ⟨fs, hrt, hrun, hended, hW, hsame⟩ := X35.leave (v := none) (fun _ => rfl)
  have f37 := (f33.wr W35)
  have f38 := ((((Fw23.other W26 (Or.inr (slot_ne (own_la13 hw) (own_la14 hw) (by decide) own_ty1 own_ty1))).other W29 (Or.inr (slot_ne (own_la13 hw) (own_la15 hw) (by decide) own_ty1 own_ty3))).other W32 (Or.inr (slot_ne (own_la13 hw) (own_la16 hw) (by decide) own_ty1 own_ty10))).other W35 (Or.inr (slot_ne (own_la13 hw) (own_la17 hw) (by decide) own_ty1 own_ty11)))
  refine ⟨_, _, g36 _ ?_, hrun, hended, _, _, rfl, ?_, ⟨_, rfl⟩, hW, hsame.mono (by decide) (by decide)⟩
  · show Steps p.tables e below (T35.setTop (mkF m 73 #[oa ob0, .val .null, .val .null, .val .null, .val .null, .val .null, .val .null, .val .null, oj p8, vS, oj (0 : Int64), vS, oi (1 : Int32), .val .null, .val .null] [])) _
    exact X35.returnOut hx Bd.returns (hb hby d2_73) hrt
  · show own_Q_rmA34 Z ob0 p8 zr zm ps ng zk h0 n0 _ T35.heap _
    rw [e35]
    exact ⟨rfl, N35, (Keep.wr (Keep.wr (Keep.wr (Keep.wr (Keep.wr (Keep.wr (Keep.wr (Keep.wr (Keep.wr (Keep.wr (Keep.wr (Keep.wr (Keep.refl h0 [ob0]) W2 (Or.inl (List.mem_of_getElem? (i := 0) rfl))) W5 (Or.inl (List.mem_of_getElem? (i := 0) rfl))) W8 (Or.inl (List.mem_of_getElem? (i := 0) rfl))) W11 (Or.inl (List.mem_of_getElem? (i := 0) rfl))) W14 (Or.inl (List.mem_of_getElem? (i := 0) rfl))) W17 (Or.inl (List.mem_of_getElem? (i := 0) rfl))) W20 (Or.inl (List.mem_of_getElem? (i := 0) rfl))) W23 (Or.inl (List.mem_of_getElem? (i := 0) rfl))) W26 (Or.inl (List.mem_of_getElem? (i := 0) rfl))) W29 (Or.inl (List.mem_of_getElem? (i := 0) rfl))) W32 (Or.inl (List.mem_of_getElem? (i := 0) rfl))) W35 (Or.inl (List.mem_of_getElem? (i := 0) rfl))), f37, f38⟩
theorem own_pd21 : parseMethodDescriptor "(Ljava/lang/String;Ljava/lang/String;Ljava/lang/String;Ljava/lang/String;Lorderwire/book/Side;Lorderwire/orders/OrderType;Lorderwire/orders/TimeInForce;JJILorderwire/orders/Capacity;Lorderwire/orders/AccountType;)V" = some ⟨[(.object "java/lang/String"), (.object "java/lang/String"), (.object "java/lang/String"), (.object "java/lang/String"), (.object "orderwire/book/Side"), (.object "orderwire/orders/OrderType"), (.object "orderwire/orders/TimeInForce"), .long, .long, .int, (.object "orderwire/orders/Capacity"), (.object "orderwire/orders/AccountType")], none⟩ := by decide +kernel
theorem d1_19 : decode q1 19 = .ok (.areturn, 1) := by decide +kernel
def own_Q_rmA33 (Z : State) (p0 : Int64)  (zr zm ps ng : Addr) (zk : ClassId) (h0 : Heap) (n0 : Nat) (v : Option Value) (h : Heap) (L : List Loc) : Prop := ∃ rq : Addr, v = some (.ref rq) ∧ Fr n0 L ∧ Keep h0 h [] ∧ Exa Z h rq "orderwire/orders/NewOrder" ∧ Fld Z h rq "orderwire/orders/NewOrder" "quantity" "J" (.long p0)
theorem rmA33 (l : Launch) (Z : State) (a0 : Array Value) (hw : ∀ d ∈ tables_1, d.before a0 Z = true) (ws : List Jvm.Cond) (p0 : Int64)  (zr zm ps ng : Addr) (zk : ClassId) (h0 : Heap) (n0 : Nat) (O0 : Old Z n0 h0) (G : own_Gl Z zr zm ps ng zk) :
    MetFree l own_y28 (head1 (Jvm.Cond.code own_y28 method_2_code 2 (some (.object "orderwire/orders/NewOrder")) :: ws) ({ frames := 3, cells := 1, slots := 12, locals := 51 } : Room)) (fun a U => a = #[(.long p0)] ∧ Z.Warmed39 U.vm ∧ U.heap = h0) (fun _ _ _ _ _ => True) (fun _ U o U' => ∃ v L, o = .returned v ∧ own_Q_rmA33 Z p0 zr zm ps ng zk h0 n0 v U'.heap L ∧ FrameEnd U o U' L ({ frames := 3, cells := 1, slots := 12, locals := 51 } : Room).cells ({ frames := 3, cells := 1, slots := 12, locals := 51 } : Room).slots) := by
  refine MetFree.of_bodySF (plainFor_of_name own_pn8) hisR ?_
  intro p e s m args below meth c s₁ Bd hml0 hP hK
  obtain ⟨rfl, hZ, hh⟩ := hP
  have hx := Bd.exec
  have hby := Bd.bytes
  have hml : c.maxLocals = 2 := hml0
  have hown : s.vm.findClass "orderwire/orders/OrderLeavesQtyPinLaw" = some m.cls := findClass_of_methodNamed Bd.named
  have hnm := (name_of_methodNamed Bd.named Bd.method).1
  have X0 : Stand p l e ({ frames := 3, cells := 1, slots := 12, locals := 51 } : Room) s m #[(.long p0)] below meth c s₁ [] 0 0 := Stand.of_body Bd
  have e0 : s₁.heap = h0 := by rw [← hh, Bd.state]; rfl
  have N0 := Fr.nil n0
  have Z0 : n0 ≤ h0.size := O0.1 ▸ O0.2.1
  have g0 : ∀ t, FS p e below s₁ m 0 #[oj p0, vS] [] t → ES p e below s₁ m #[(.long p0)] 2 t := fun t k => castTop (own_ef4 m (p0)) k
  have G0 := G
  obtain ⟨S_Z, E_Z, F_Zs, F_Zm, V_Z, S_P, P_P, S_N, P_N⟩ := G
  obtain ⟨T1, h1, X1, e1, E1, A1, D1, -, st1⟩ := newO X0 hx hZ hown (own_w hw 9 rfl) (own_w hw 10 rfl) (own_w hw 11 rfl) e0 (g := (mkF m 0 #[oj p0, vS] [])) rfl (hb hby d1_0) (by decide) (by decide)
  obtain ⟨b1, q_b1⟩ : ∃ z, z = h0.size := ⟨_, rfl⟩
  rw [← q_b1] at A1 D1 st1
  have sz_b1 : h0.size ≤ b1 := Nat.le_of_eq q_b1.symm
  have gz_b1 : n0 ≤ b1 := Nat.le_trans Z0 sz_b1
  have F1_owner : Fld Z h1 b1 "orderwire/orders/NewOrder" "owner" "Ljava/lang/String;" .null := D1 (Or.inr (own_w hw 24 rfl)) (ty := (.object "java/lang/String")) (by decide)
  have F1_clOrdId : Fld Z h1 b1 "orderwire/orders/NewOrder" "clOrdId" "Ljava/lang/String;" .null := D1 (Or.inr (own_w hw 26 rfl)) (ty := (.object "java/lang/String")) (by decide)
  have F1_trader : Fld Z h1 b1 "orderwire/orders/NewOrder" "trader" "Ljava/lang/String;" .null := D1 (Or.inr (own_w hw 28 rfl)) (ty := (.object "java/lang/String")) (by decide)
  have F1_symbol : Fld Z h1 b1 "orderwire/orders/NewOrder" "symbol" "Ljava/lang/String;" .null := D1 (Or.inr (own_w hw 30 rfl)) (ty := (.object "java/lang/String")) (by decide)
  have F1_side : Fld Z h1 b1 "orderwire/orders/NewOrder" "side" "Lorderwire/book/Side;" .null := D1 (Or.inr (own_w hw 32 rfl)) (ty := (.object "orderwire/book/Side")) (by decide)
  have F1_type : Fld Z h1 b1 "orderwire/orders/NewOrder" "type" "Lorderwire/orders/OrderType;" .null := D1 (Or.inr (own_w hw 34 rfl)) (ty := (.object "orderwire/orders/OrderType")) (by decide)
  have F1_timeInForce : Fld Z h1 b1 "orderwire/orders/NewOrder" "timeInForce" "Lorderwire/orders/TimeInForce;" .null := D1 (Or.inr (own_w hw 36 rfl)) (ty := (.object "orderwire/orders/TimeInForce")) (by decide)
  have F1_quantity : Fld Z h1 b1 "orderwire/orders/NewOrder" "quantity" "J" (.long (0 : Int64)) := D1 (Or.inr (own_w hw 38 rfl)) (ty := .long) (by decide)
  have F1_price : Fld Z h1 b1 "orderwire/orders/NewOrder" "price" "J" (.long (0 : Int64)) := D1 (Or.inr (own_w hw 40 rfl)) (ty := .long) (by decide)
  have F1_book : Fld Z h1 b1 "orderwire/orders/NewOrder" "book" "I" (.int (0 : Int32)) := D1 (Or.inr (own_w hw 42 rfl)) (ty := .int) (by decide)
  have F1_capacity : Fld Z h1 b1 "orderwire/orders/NewOrder" "capacity" "Lorderwire/orders/Capacity;" .null := D1 (Or.inr (own_w hw 44 rfl)) (ty := (.object "orderwire/orders/Capacity")) (by decide)
  have F1_accountType : Fld Z h1 b1 "orderwire/orders/NewOrder" "accountType" "Lorderwire/orders/AccountType;" .null := D1 (Or.inr (own_w hw 46 rfl)) (ty := (.object "orderwire/orders/AccountType")) (by decide)
  have o2 : Old Z n0 h1 := (Old.ext O0 E1)
  obtain ⟨_, _, ⟨T3, L3, k3, n3⟩, -, X3, ⟨Lc3, hQ3, l3, y3, z3⟩, st3⟩ := X1.specialBack hx (y := own_y29) rfl hown (mvT hZ (own_w hw 12 rfl)) (mvT hZ (own_w hw 13 rfl)) (mvT hZ (own_w hw 14 rfl)) (by decide) (backOf (W := 1) (rmA34 l Z a0 hw [] b1 (p0)  zr zm ps ng zk h1 n0 o2 G0 A1 F1_accountType F1_book F1_capacity F1_clOrdId F1_owner F1_price F1_quantity F1_side F1_symbol F1_timeInForce F1_trader F1_type gz_b1 ) hZ (own_w hw 14 rfl) (own_w hw 11 rfl) (by decide) (by decide)) (g := (mkF m 16 #[oj p0, vS] [.null, .null, (.int (1 : Int32)), (.long (0 : Int64)), (.long p0), .null, .null, .null, .null, .null, .null, .null, (.ref b1), (.ref b1)])) rfl (by rw [hml]; rfl) (Steps.refl _) (a := b1) (argsL := [.null, .null, .null, .null, .null, .null, .null, (.long p0), (.long (0 : Int64)), (.int (1 : Int32)), .null, .null]) (rest := [(.ref b1)]) (lenOf own_pd21 rfl) rfl (own_W0 rfl) (hb hby d1_16) (fun _ _ => ⟨rfl, e1, (by decide : 1 + 0 ≤ _), (by decide : 12 + 0 ≤ _)⟩)
  dsimp only [Pt.U, Pt.locs, Pt.cells, Pt.slots] at X3 l3 y3 z3 st3 hQ3
  subst l3 y3 z3
  obtain ⟨rfl, Nq3, K3, Ne3, Nf3⟩ := hQ3
  have N3 := Fr.app N0 Nq3
  have g4 : ∀ t, FS p e below T3 m 19 #[oj p0, vS] [(.ref b1)] t → ES p e below s₁ m #[(.long p0)] 2 t := by
    intro t k
    refine g0 t ?_
    show FS p e below s₁ m 0 #[oj p0, vS] [] _
    refine st1 _ ?_
    refine XS.dup X1.here hx rfl (hb hby d1_3) rfl rfl ?_
    refine XS.aconstNull X1.here hx rfl (hb hby d1_4) ?_
    refine XS.aconstNull X1.here hx rfl (hb hby d1_5) ?_
    refine XS.aconstNull X1.here hx rfl (hb hby d1_6) ?_
    refine XS.aconstNull X1.here hx rfl (hb hby d1_7) ?_
    refine XS.aconstNull X1.here hx rfl (hb hby d1_8) ?_
    refine XS.aconstNull X1.here hx rfl (hb hby d1_9) ?_
    refine XS.aconstNull X1.here hx rfl (hb hby d1_10) ?_
    refine XS.lloadN X1.here hx rfl (hb hby d1_11) rfl ?_
    refine XS.lconst X1.here hx rfl (hb hby d1_12) ?_
    refine XS.iconst X1.here hx rfl (hb hby d1_13) ?_
    refine XS.aconstNull X1.here hx rfl (hb hby d1_14) ?_
    refine XS.aconstNull X1.here hx rfl (hb hby d1_15) ?_
    refine st3.trans ?_
    exact k
  obtain ⟨fs, hrt, hrun, hended, hW, hsame⟩ := X3.leave (v := some (.ref b1)) (fun h => by rw [Bd.returns] at h; cases h)
  refine ⟨_, _, g4 _ ?_, hrun, hended, _, _, rfl, ?_, ⟨_, rfl⟩, hW, hsame.mono (by decide) (by decide)⟩
  · show Steps p.tables e below (T3.setTop (mkF m 19 #[oj p0, vS] [(.ref b1)])) _
    jvm_step X3.here [X3.here.top, hx, (hb hby d1_19), X3.method', Bd.returns, Value.isRef, FieldType.isReference]
    first | (intro acts; rw [hrt _ acts rfl rfl rfl]) | rw [hrt _ _ rfl rfl rfl]
    exact Steps.refl _
  · show own_Q_rmA33 Z p0 zr zm ps ng zk h0 n0 _ T3.heap _
    exact ⟨b1, rfl, N3, (Keep.trans (Keep.ext (Keep.refl h0 []) E1) K3 (allS (Or.inr sz_b1) all0)), Ne3, Nf3⟩
theorem own_pd22 : parseMethodDescriptor "(J)Lorderwire/orders/NewOrder;" = some ⟨[.long], some (.object "orderwire/orders/NewOrder")⟩ := by decide +kernel
abbrev own_y31 : MethodName := ⟨"orderwire/orders/Order", "<init>", "(JLorderwire/orders/NewOrder;)V"⟩
theorem own_ef38 (m : MethodId) (x0 : Addr) (x1 : Int64) (x2 : Addr) : entryFrame m #[(.ref x0), (.long x1), (.ref x2)] 4 = mkF m 0 #[oa x0, oj x1, vS, oa x2] [] := by first | (simp [entryFrame, mkF, argsToLocals, Value.category]; done) | rfl
theorem d5_0 : decode q5 0 = .ok (.aload_n 0, 1) := by decide +kernel
theorem d5_1 : decode q5 1 = .ok (.invokespecial 1, 3) := by decide +kernel
theorem d5_4 : decode q5 4 = .ok (.aload_n 0, 1) := by decide +kernel
theorem d5_5 : decode q5 5 = .ok (.getstatic 7, 3) := by decide +kernel
theorem d5_8 : decode q5 8 = .ok (.putfield 13, 3) := by decide +kernel
theorem d5_11 : decode q5 11 = .ok (.aload_n 0, 1) := by decide +kernel
theorem d5_12 : decode q5 12 = .ok (.lload_n 1, 1) := by decide +kernel
theorem d5_13 : decode q5 13 = .ok (.putfield 18, 3) := by decide +kernel
theorem own_la18 {Z : State} {a0 : Array Value} (hw : ∀ d ∈ tables_1, d.before a0 Z = true) : Laid Z a0 "orderwire/orders/Order" "orderwire/orders/Order" "number" "J" := Or.inr (own_w hw 56 rfl)
theorem d5_16 : decode q5 16 = .ok (.aload_n 0, 1) := by decide +kernel
theorem d5_17 : decode q5 17 = .ok (.aload_n 3, 1) := by decide +kernel
theorem d5_18 : decode q5 18 = .ok (.putfield 22, 3) := by decide +kernel
theorem d5_21 : decode q5 21 = .ok (.return_, 1) := by decide +kernel
def own_Q_rmA36 (Z : State) (ob0 : Addr) (ob2 : Addr)  (zr zm ps ng : Addr) (zk : ClassId) (h0 : Heap) (n0 : Nat) (v : Option Value) (h : Heap) (L : List Loc) : Prop := v = none ∧ Fr n0 L ∧ Keep h0 h [ob0] ∧ Exa Z h ob0 "orderwire/orders/Order" ∧ Fld Z h ob0 "orderwire/orders/Order" "cumQty" "J" (.long (0 : Int64)) ∧ Fld Z h ob0 "orderwire/orders/Order" "request" "Lorderwire/orders/NewOrder;" (.ref ob2) ∧ Fld Z h ob0 "orderwire/orders/Order" "cancelled" "Z" (.int (0 : Int32)) ∧ Fld Z h ob0 "orderwire/orders/Order" "notional" "Ljava/math/BigInteger;" (.ref zr)
theorem rmA36 (l : Launch) (Z : State) (a0 : Array Value) (hw : ∀ d ∈ tables_1, d.before a0 Z = true) (ws : List Jvm.Cond) (ob0 : Addr) (ob2 : Addr)  (zr zm ps ng : Addr) (zk : ClassId) (h0 : Heap) (n0 : Nat) (O0 : Old Z n0 h0) (G : own_Gl Z zr zm ps ng zk) (E_ob0 : Exa Z h0 ob0 "orderwire/orders/Order") (F_ob0_cancelled : Fld Z h0 ob0 "orderwire/orders/Order" "cancelled" "Z" (.int (0 : Int32))) (F_ob0_cumQty : Fld Z h0 ob0 "orderwire/orders/Order" "cumQty" "J" (.long (0 : Int64))) (F_ob0_notional : Fld Z h0 ob0 "orderwire/orders/Order" "notional" "Ljava/math/BigInteger;" .null) (F_ob0_number : Fld Z h0 ob0 "orderwire/orders/Order" "number" "J" (.long (0 : Int64))) (F_ob0_request : Fld Z h0 ob0 "orderwire/orders/Order" "request" "Lorderwire/orders/NewOrder;" .null) (gz_ob0 : n0 ≤ ob0) :
    MetFree l own_y31 (head1 (Jvm.Cond.code own_y31 prog_111_method_1_code 4 none :: ws) ({ frames := 1, cells := 0, slots := 0, locals := 12 } : Room)) (fun a U => a = #[(.ref ob0), (.long (7 : Int64)), (.ref ob2)] ∧ Z.Warmed39 U.vm ∧ U.heap = h0) (fun _ _ _ _ _ => True) (fun _ U o U' => ∃ v L, o = .returned v ∧ own_Q_rmA36 Z ob0 ob2 zr zm ps ng zk h0 n0 v U'.heap L ∧ FrameEnd U o U' L ({ frames := 1, cells := 0, slots := 0, locals := 12 } : Room).cells ({ frames := 1, cells := 0, slots := 0, locals := 12 } : Room).slots) := by
  refine MetFree.of_bodySF (plainFor_of_name own_pn0) hisR ?_
  intro p e s m args below meth c s₁ Bd hml0 hP hK
  obtain ⟨rfl, hZ, hh⟩ := hP
  have hx := Bd.exec
  have hby := Bd.bytes
  have hml : c.maxLocals = 4 := hml0
  have hown : s.vm.findClass "orderwire/orders/Order" = some m.cls := findClass_of_methodNamed Bd.named
  have hnm := (name_of_methodNamed Bd.named Bd.method).1
  have X0 : Stand p l e ({ frames := 1, cells := 0, slots := 0, locals := 12 } : Room) s m #[(.ref ob0), (.long (7 : Int64)), (.ref ob2)] below meth c s₁ [] 0 0 := Stand.of_body Bd
  have e0 : s₁.heap = h0 := by rw [← hh, Bd.state]; rfl
  have N0 := Fr.nil n0
  have Z0 : n0 ≤ h0.size := O0.1 ▸ O0.2.1
  have g0 : ∀ t, FS p e below s₁ m 0 #[oa ob0, oj (7 : Int64), vS, oa ob2] [] t → ES p e below s₁ m #[(.ref ob0), (.long (7 : Int64)), (.ref ob2)] 4 t := fun t k => castTop (own_ef38 m (ob0) ((7 : Int64)) (ob2)) k
  have G0 := G
  obtain ⟨S_Z, E_Z, F_Zs, F_Zm, V_Z, S_P, P_P, S_N, P_N⟩ := G
  obtain ⟨T1, X1, e1, st1⟩ := initO X0 hx hZ hown (own_w hw 50 rfl) (own_w hw 21 rfl) (own_w hw 22 rfl) e0 (g := (mkF m 1 #[oa ob0, oj (7 : Int64), vS, oa ob2] [(.ref ob0)])) rfl (by rw [hml]; rfl) rfl (hb hby d5_1) (by decide) (W := 0) (own_W0 rfl) (by decide)
  obtain ⟨T2, X2, e2, st2⟩ := getS2 X1 hx hZ hown (host := "") (Or.inl (own_w hw 51 rfl)) Via.refl e1 (S_Z.ext O0.2) (g := (mkF m 5 #[oa ob0, oj (7 : Int64), vS, oa ob2] [(.ref ob0)])) rfl (hb hby d5_5)
  obtain ⟨T3, h3, X3, e3, W3, st3⟩ := putF X2 hx hZ hown (host := "") (Or.inl (own_w hw 53 rfl)) Via.refl e2 F_ob0_notional E_ob0 (Or.inl (own_w hw 54 rfl)) (own_w hw 2 rfl) (ty := (.object "java/math/BigInteger")) (by decide) rfl rfl (g := (mkF m 8 #[oa ob0, oj (7 : Int64), vS, oa ob2] [(.ref zr), (.ref ob0)])) rfl rfl (hb hby d5_8)
  have Fw3 := F_ob0_notional.same W3
  have N3 := Fr.snoc X3 N0 gz_ob0
  have f4 := (E_ob0.wr W3)
  have f5 := (F_ob0_number.other W3 (Or.inr (slot_ne (own_la18 hw) (own_la0 hw) (by decide) own_ty1 own_ty0)))
  obtain ⟨T6, h6, X6, e6, W6, st6⟩ := putF X3 hx hZ hown (host := "") (Or.inl (own_w hw 55 rfl)) Via.refl e3 f5 f4 (Or.inr ⟨(own_w hw 56 rfl), rfl, hnm⟩) (own_w hw 2 rfl) (ty := .long) (by decide) rfl rfl (g := (mkF m 13 #[oa ob0, oj (7 : Int64), vS, oa ob2] [(.long (7 : Int64)), (.ref ob0)])) rfl rfl (hb hby d5_13)
  have Fw6 := f5.same W6
  have N6 := Fr.snoc X6 N3 gz_ob0
  have f7 := (f4.wr W6)
  have f8 := ((F_ob0_request.other W3 (Or.inr (slot_ne (own_la4 hw) (own_la0 hw) (by decide) own_ty4 own_ty0))).other W6 (Or.inr (slot_ne (own_la4 hw) (own_la18 hw) (by decide) own_ty4 own_ty1)))
  obtain ⟨T9, h9, X9, e9, W9, st9⟩ := putF X6 hx hZ hown (host := "") (Or.inl (own_w hw 57 rfl)) Via.refl e6 f8 f7 (Or.inl (own_w hw 58 rfl)) (own_w hw 2 rfl) (ty := (.object "orderwire/orders/NewOrder")) (by decide) rfl rfl (g := (mkF m 18 #[oa ob0, oj (7 : Int64), vS, oa ob2] [(.ref ob2), (.ref ob0)])) rfl rfl (hb hby d5_18)
  have Fw9 := f8.same W9
  have N9 := Fr.snoc X9 N6 gz_ob0
  have g10 : ∀ t, FS p e below T9 m 21 #[oa ob0, oj (7 : Int64), vS, oa ob2] [] t → ES p e below s₁ m #[(.ref ob0), (.long (7 : Int64)), (.ref ob2)] 4 t := by
    intro t k
    refine g0 t ?_
    show FS p e below s₁ m 0 #[oa ob0, oj (7 : Int64), vS, oa ob2] [] _
    refine XS.aloadN X0.here hx rfl (hb hby d5_0) rfl rfl ?_
    refine st1 _ ?_
    refine XS.aloadN X1.here hx rfl (hb hby d5_4) rfl rfl ?_
    refine st2 _ ?_
    refine st3 _ ?_
    refine XS.aloadN X3.here hx rfl (hb hby d5_11) rfl rfl ?_
    refine XS.lloadN X3.here hx rfl (hb hby d5_12) rfl ?_
    refine st6 _ ?_
    refine XS.aloadN X6.here hx rfl (hb hby d5_16) rfl rfl ?_
    refine XS.aloadN X6.here hx rfl (hb hby d5_17) rfl rfl ?_
    refine st9 _ ?_
    exact k
  obtain ⟨fs, hrt, hrun, hended, hW, hsame⟩ := X9.leave (v := none) (fun _ => rfl)
  have f11 := (f7.wr W9)
  have f12 := (((F_ob0_cumQty.other W3 (Or.inr (slot_ne (own_la1 hw) (own_la0 hw) (by decide) own_ty1 own_ty0))).other W6 (Or.inr (slot_ne (own_la1 hw) (own_la18 hw) (by decide) own_ty1 own_ty1))).other W9 (Or.inr (slot_ne (own_la1 hw) (own_la4 hw) (by decide) own_ty1 own_ty4)))
  have f13 := (((F_ob0_cancelled.other W3 (Or.inr (slot_ne (own_la5 hw) (own_la0 hw) (by decide) own_ty5 own_ty0))).other W6 (Or.inr (slot_ne (own_la5 hw) (own_la18 hw) (by decide) own_ty5 own_ty1))).other W9 (Or.inr (slot_ne (own_la5 hw) (own_la4 hw) (by decide) own_ty5 own_ty4)))
  have f14 := ((Fw3.other W6 (Or.inr (slot_ne (own_la0 hw) (own_la18 hw) (by decide) own_ty0 own_ty1))).other W9 (Or.inr (slot_ne (own_la0 hw) (own_la4 hw) (by decide) own_ty0 own_ty4)))
  refine ⟨_, _, g10 _ ?_, hrun, hended, _, _, rfl, ?_, ⟨_, rfl⟩, hW, hsame.mono (by decide) (by decide)⟩
  · show Steps p.tables e below (T9.setTop (mkF m 21 #[oa ob0, oj (7 : Int64), vS, oa ob2] [])) _
    exact X9.returnOut hx Bd.returns (hb hby d5_21) hrt
  · show own_Q_rmA36 Z ob0 ob2 zr zm ps ng zk h0 n0 _ T9.heap _
    rw [e9]
    exact ⟨rfl, N9, (Keep.wr (Keep.wr (Keep.wr (Keep.refl h0 [ob0]) W3 (Or.inl (List.mem_of_getElem? (i := 0) rfl))) W6 (Or.inl (List.mem_of_getElem? (i := 0) rfl))) W9 (Or.inl (List.mem_of_getElem? (i := 0) rfl))), f11, f12, Fw9, f13, f14⟩
theorem own_pd23 : parseMethodDescriptor "(JLorderwire/orders/NewOrder;)V" = some ⟨[.long, (.object "orderwire/orders/NewOrder")], none⟩ := by decide +kernel
def own_Q_rmA37 (Z : State) (ob0 : Addr) (ob0_request : Addr) (ob0_request_quantity : Int64)  (zr zm ps ng : Addr) (zk : ClassId) (h0 : Heap) (n0 : Nat) (v : Option Value) (h : Heap) (L : List Loc) : Prop := v = some (.long (ob0_request_quantity - (0 : Int64))) ∧ Fr n0 L ∧ h = h0
theorem rmA37 (l : Launch) (Z : State) (a0 : Array Value) (hw : ∀ d ∈ tables_1, d.before a0 Z = true) (ws : List Jvm.Cond) (ob0 : Addr) (ob0_request : Addr) (ob0_request_quantity : Int64)  (zr zm ps ng : Addr) (zk : ClassId) (h0 : Heap) (n0 : Nat) (O0 : Old Z n0 h0) (G : own_Gl Z zr zm ps ng zk) (E_ob0 : Exa Z h0 ob0 "orderwire/orders/Order") (F_ob0_cancelled : Fld Z h0 ob0 "orderwire/orders/Order" "cancelled" "Z" (.int (0 : Int32))) (F_ob0_cumQty : Fld Z h0 ob0 "orderwire/orders/Order" "cumQty" "J" (.long (0 : Int64))) (E_ob0_request : Exa Z h0 ob0_request "orderwire/orders/NewOrder") (F_ob0_request_quantity : Fld Z h0 ob0_request "orderwire/orders/NewOrder" "quantity" "J" (.long ob0_request_quantity)) (F_ob0_request : Fld Z h0 ob0 "orderwire/orders/Order" "request" "Lorderwire/orders/NewOrder;" (.ref ob0_request)) :
    MetFree l own_y1 (head1 (Jvm.Cond.code own_y1 prog_111_method_5_code 1 (some .long) :: ws) ({ frames := 1, cells := 0, slots := 0, locals := 12 } : Room)) (fun a U => a = #[(.ref ob0)] ∧ Z.Warmed39 U.vm ∧ U.heap = h0) (fun _ _ _ _ _ => True) (fun _ U o U' => ∃ v L, o = .returned v ∧ own_Q_rmA37 Z ob0 ob0_request ob0_request_quantity zr zm ps ng zk h0 n0 v U'.heap L ∧ FrameEnd U o U' L ({ frames := 1, cells := 0, slots := 0, locals := 12 } : Room).cells ({ frames := 1, cells := 0, slots := 0, locals := 12 } : Room).slots) := by
  refine MetFree.of_bodySF (plainFor_of_name own_pn0) hisR ?_
  intro p e s m args below meth c s₁ Bd hml0 hP hK
  obtain ⟨rfl, hZ, hh⟩ := hP
  have hx := Bd.exec
  have hby := Bd.bytes
  have hml : c.maxLocals = 1 := hml0
  have hown : s.vm.findClass "orderwire/orders/Order" = some m.cls := findClass_of_methodNamed Bd.named
  have hnm := (name_of_methodNamed Bd.named Bd.method).1
  have X0 : Stand p l e ({ frames := 1, cells := 0, slots := 0, locals := 12 } : Room) s m #[(.ref ob0)] below meth c s₁ [] 0 0 := Stand.of_body Bd
  have e0 : s₁.heap = h0 := by rw [← hh, Bd.state]; rfl
  have N0 := Fr.nil n0
  have Z0 : n0 ≤ h0.size := O0.1 ▸ O0.2.1
  have g0 : ∀ t, FS p e below s₁ m 0 #[oa ob0] [] t → ES p e below s₁ m #[(.ref ob0)] 1 t := fun t k => castTop (own_ef1 m (ob0)) k
  have G0 := G
  obtain ⟨S_Z, E_Z, F_Zs, F_Zm, V_Z, S_P, P_P, S_N, P_N⟩ := G
  obtain ⟨T1, X1, e1, st1⟩ := getF X0 hx hZ hown (host := "") (Or.inl (own_w hw 141 rfl)) Via.refl e0 F_ob0_cancelled (g := (mkF m 1 #[oa ob0] [(.ref ob0)])) rfl rfl (hb hby d21_1)
  obtain ⟨T2, X2, e2, st2⟩ := getF X1 hx hZ hown (host := "") (Or.inl (own_w hw 57 rfl)) Via.refl e1 F_ob0_request (g := (mkF m 12 #[oa ob0] [(.ref ob0)])) rfl rfl (hb hby d21_12)
  obtain ⟨cq3, kq3, q3a, q3b, q3c⟩ := isOf hZ e2 E_ob0_request
  obtain ⟨_, _, ⟨T3, L3, k3, n3⟩, -, X3, ⟨Lc3, hQ3, l3, y3, z3⟩, st3⟩ := X2.virtualBack hx (y := own_y27) (z := own_y27) hown (mvT hZ (own_w hw 143 rfl)) (mvT hZ (own_w hw 144 rfl)) (notFace_of_selects (args := #[]) (mvT hZ (own_w hw 146 rfl))) (mvT hZ (own_w hw 146 rfl)) (mvT hZ (own_w hw 145 rfl)) (by decide) (backOf (W := 0) (rmA32 l Z a0 hw [] ob0_request (ob0_request_quantity)  zr zm ps ng zk h0 n0 O0 G0 E_ob0_request F_ob0_request_quantity  ) hZ (own_w hw 147 rfl) (own_w hw 11 rfl) (by decide) (by decide)) q3a q3c (g := (mkF m 15 #[oa ob0] [(.ref ob0_request)])) rfl (by rw [hml]; rfl) (Steps.refl _) (argsL := []) (rest := []) (lenOf own_pd1 rfl) rfl (own_W0 rfl) (hb hby d21_15) (fun _ _ => ⟨rfl, e2, (by decide : 0 + 0 ≤ _), (by decide : 0 + 0 ≤ _)⟩)
  dsimp only [Pt.U, Pt.locs, Pt.cells, Pt.slots] at X3 l3 y3 z3 st3 hQ3
  subst l3 y3 z3
  obtain ⟨rfl, Nq3, e3⟩ := hQ3
  have N3 := Fr.app N0 Nq3
  obtain ⟨T4, X4, e4, st4⟩ := getF X3 hx hZ hown (host := "") (Or.inl (own_w hw 64 rfl)) Via.refl e3 F_ob0_cumQty (g := (mkF m 19 #[oa ob0] [(.ref ob0), (.long ob0_request_quantity)])) rfl rfl (hb hby d21_19)
  have g5 : ∀ t, FS p e below T4 m 23 #[oa ob0] [(.long (ob0_request_quantity - (0 : Int64)))] t → ES p e below s₁ m #[(.ref ob0)] 1 t := by
    intro t k
    refine g0 t ?_
    show FS p e below s₁ m 0 #[oa ob0] [] _
    refine XS.aloadN X0.here hx rfl (hb hby d21_0) rfl rfl ?_
    refine st1 _ ?_
    refine XS.ifYes X1.here hx rfl (pc0 := 4) (pc' := 11) rfl (hb hby d21_4) rfl ((if0 _ _).trans (teq (by decide : (0 : Int32) = (0 : Int32))).1) (by decide) (by decide) ?_
    refine XS.aloadN X1.here hx rfl (hb hby d21_11) rfl rfl ?_
    refine st2 _ ?_
    refine st3.trans ?_
    refine XS.aloadN X3.here hx rfl (hb hby d21_18) rfl rfl ?_
    refine st4 _ ?_
    refine XS.lsub X4.here hx rfl (hb hby d21_22) rfl ?_
    exact k
  obtain ⟨fs, hrt, hrun, hended, hW, hsame⟩ := X4.leave (v := some (.long (ob0_request_quantity - (0 : Int64)))) (fun h => by rw [Bd.returns] at h; cases h)
  refine ⟨_, _, g5 _ ?_, hrun, hended, _, _, rfl, ?_, ⟨_, rfl⟩, hW, hsame.mono (by decide) (by decide)⟩
  · show Steps p.tables e below (T4.setTop (mkF m 23 #[oa ob0] [(.long (ob0_request_quantity - (0 : Int64)))])) _
    exact X4.lreturnOut hx Bd.returns (hb hby d21_23) hrt
  · show own_Q_rmA37 Z ob0 ob0_request ob0_request_quantity zr zm ps ng zk h0 n0 _ T4.heap _
    rw [e4]
    exact ⟨rfl, N3, rfl⟩
abbrev own_y32 : MethodName := ⟨"orderwire/orders/Order", "amend", "(Lorderwire/orders/NewOrder;)V"⟩
theorem d23_0 : decode q23 0 = .ok (.aload_n 0, 1) := by decide +kernel
theorem d23_1 : decode q23 1 = .ok (.aload_n 1, 1) := by decide +kernel
theorem d23_2 : decode q23 2 = .ok (.putfield 22, 3) := by decide +kernel
theorem d23_5 : decode q23 5 = .ok (.return_, 1) := by decide +kernel
def own_Q_rmA38 (Z : State) (ob0 : Addr) (ob0_request : Addr) (ob1 : Addr)  (zr zm ps ng : Addr) (zk : ClassId) (h0 : Heap) (n0 : Nat) (v : Option Value) (h : Heap) (L : List Loc) : Prop := v = none ∧ Fr n0 L ∧ Keep h0 h [ob0] ∧ Exa Z h ob0 "orderwire/orders/Order" ∧ Fld Z h ob0 "orderwire/orders/Order" "cumQty" "J" (.long (0 : Int64)) ∧ Fld Z h ob0 "orderwire/orders/Order" "request" "Lorderwire/orders/NewOrder;" (.ref ob1) ∧ Fld Z h ob0 "orderwire/orders/Order" "cancelled" "Z" (.int (0 : Int32)) ∧ Fld Z h ob0 "orderwire/orders/Order" "notional" "Ljava/math/BigInteger;" (.ref zr)
theorem rmA38 (l : Launch) (Z : State) (a0 : Array Value) (hw : ∀ d ∈ tables_1, d.before a0 Z = true) (ws : List Jvm.Cond) (ob0 : Addr) (ob0_request : Addr) (ob1 : Addr)  (zr zm ps ng : Addr) (zk : ClassId) (h0 : Heap) (n0 : Nat) (O0 : Old Z n0 h0) (G : own_Gl Z zr zm ps ng zk) (E_ob0 : Exa Z h0 ob0 "orderwire/orders/Order") (F_ob0_cancelled : Fld Z h0 ob0 "orderwire/orders/Order" "cancelled" "Z" (.int (0 : Int32))) (F_ob0_cumQty : Fld Z h0 ob0 "orderwire/orders/Order" "cumQty" "J" (.long (0 : Int64))) (F_ob0_notional : Fld Z h0 ob0 "orderwire/orders/Order" "notional" "Ljava/math/BigInteger;" (.ref zr)) (F_ob0_request : Fld Z h0 ob0 "orderwire/orders/Order" "request" "Lorderwire/orders/NewOrder;" (.ref ob0_request)) (gz_ob0 : n0 ≤ ob0) :
    MetFree l own_y32 (head1 (Jvm.Cond.code own_y32 prog_111_method_9_code 2 none :: ws) ({ frames := 0, cells := 0, slots := 0, locals := 0 } : Room)) (fun a U => a = #[(.ref ob0), (.ref ob1)] ∧ Z.Warmed39 U.vm ∧ U.heap = h0) (fun _ _ _ _ _ => True) (fun _ U o U' => ∃ v L, o = .returned v ∧ own_Q_rmA38 Z ob0 ob0_request ob1 zr zm ps ng zk h0 n0 v U'.heap L ∧ FrameEnd U o U' L ({ frames := 0, cells := 0, slots := 0, locals := 0 } : Room).cells ({ frames := 0, cells := 0, slots := 0, locals := 0 } : Room).slots) := by
  refine MetFree.of_bodySF (plainFor_of_name own_pn0) hisR ?_
  intro p e s m args below meth c s₁ Bd hml0 hP hK
  obtain ⟨rfl, hZ, hh⟩ := hP
  have hx := Bd.exec
  have hby := Bd.bytes
  have hml : c.maxLocals = 2 := hml0
  have hown : s.vm.findClass "orderwire/orders/Order" = some m.cls := findClass_of_methodNamed Bd.named
  have hnm := (name_of_methodNamed Bd.named Bd.method).1
  have X0 : Stand p l e ({ frames := 0, cells := 0, slots := 0, locals := 0 } : Room) s m #[(.ref ob0), (.ref ob1)] below meth c s₁ [] 0 0 := Stand.of_body Bd
  have e0 : s₁.heap = h0 := by rw [← hh, Bd.state]; rfl
  have N0 := Fr.nil n0
  have Z0 : n0 ≤ h0.size := O0.1 ▸ O0.2.1
  have g0 : ∀ t, FS p e below s₁ m 0 #[oa ob0, oa ob1] [] t → ES p e below s₁ m #[(.ref ob0), (.ref ob1)] 2 t := fun t k => castTop (own_ef7 m (ob0) (ob1)) k
  have G0 := G
  obtain ⟨S_Z, E_Z, F_Zs, F_Zm, V_Z, S_P, P_P, S_N, P_N⟩ := G
  obtain ⟨T1, h1, X1, e1, W1, st1⟩ := putF X0 hx hZ hown (host := "") (Or.inl (own_w hw 57 rfl)) Via.refl e0 F_ob0_request E_ob0 (Or.inl (own_w hw 58 rfl)) (own_w hw 2 rfl) (ty := (.object "orderwire/orders/NewOrder")) (by decide) rfl rfl (g := (mkF m 2 #[oa ob0, oa ob1] [(.ref ob1), (.ref ob0)])) rfl rfl (hb hby d23_2)
  have Fw1 := F_ob0_request.same W1
  have N1 := Fr.snoc X1 N0 gz_ob0
  have g2 : ∀ t, FS p e below T1 m 5 #[oa ob0, oa ob1] [] t → ES p e below s₁ m #[(.ref ob0), (.ref ob1)] 2 t := by
    intro t k
    refine g0 t ?_
    show FS p e below s₁ m 0 #[oa ob0, oa ob1] [] _
    refine XS.aloadN X0.here hx rfl (hb hby d23_0) rfl rfl ?_
    refine XS.aloadN X0.here hx rfl (hb hby d23_1) rfl rfl ?_
    refine st1 _ ?_
    exact k
  obtain ⟨fs, hrt, hrun, hended, hW, hsame⟩ := X1.leave (v := none) (fun _ => rfl)
  have f3 := (E_ob0.wr W1)
  have f4 := (F_ob0_cumQty.other W1 (Or.inr (slot_ne (own_la1 hw) (own_la4 hw) (by decide) own_ty1 own_ty4)))
  have f5 := (F_ob0_cancelled.other W1 (Or.inr (slot_ne (own_la5 hw) (own_la4 hw) (by decide) own_ty5 own_ty4)))
  have f6 := (F_ob0_notional.other W1 (Or.inr (slot_ne (own_la0 hw) (own_la4 hw) (by decide) own_ty0 own_ty4)))
  refine ⟨_, _, g2 _ ?_, hrun, hended, _, _, rfl, ?_, ⟨_, rfl⟩, hW, hsame.mono (by decide) (by decide)⟩
  · show Steps p.tables e below (T1.setTop (mkF m 5 #[oa ob0, oa ob1] [])) _
    exact X1.returnOut hx Bd.returns (hb hby d23_5) hrt
  · show own_Q_rmA38 Z ob0 ob0_request ob1 zr zm ps ng zk h0 n0 _ T1.heap _
    rw [e1]
    exact ⟨rfl, N1, (Keep.wr (Keep.refl h0 [ob0]) W1 (Or.inl (List.mem_of_getElem? (i := 0) rfl))), f3, f4, Fw1, f5, f6⟩
theorem own_pd24 : parseMethodDescriptor "(Lorderwire/orders/NewOrder;)V" = some ⟨[(.object "orderwire/orders/NewOrder")], none⟩ := by decide +kernel
def own_Q_rmA40 (Z : State) (ob1 : Addr) (ob1_mag : Addr) (k_ob1_mag : ClassId) (ob1_mag_z : Int32) (ob1_mag_l : List Value) (ob1_signum : Int32) (sn : Int32) (zr zm ps ng : Addr) (zk : ClassId) (h0 : Heap) (n0 : Nat) (v : Option Value) (h : Heap) (L : List Loc) : Prop := ∃ (rb rm : Addr) (rk : ClassId) (rz rs : Int32) (rl : List Value), v = some (.ref rb) ∧ Fr n0 L ∧ Keep h0 h [] ∧ Exa Z h rb "java/math/BigInteger" ∧ Fld Z h rb "java/math/BigInteger" "signum" "I" (.int rs) ∧ Fld Z h rb "java/math/BigInteger" "mag" "[I" (.ref rm) ∧ Arv Z h rm rk .int rz rl (.int (0 : Int32)) ∧ (rs = (0 : Int32) ∨ (rs = sn ∧ (rz = (1 : Int32) ∨ rz = (2 : Int32) ∨ rz = (3 : Int32) ∨ rz = (4 : Int32))))
theorem rmA40 (l : Launch) (Z : State) (a0 : Array Value) (hw : ∀ d ∈ tables_1, d.before a0 Z = true) (ws : List Jvm.Cond) (ob1 : Addr) (ob1_mag : Addr) (k_ob1_mag : ClassId) (ob1_mag_z : Int32) (ob1_mag_l : List Value) (ob1_signum : Int32) (sn : Int32) (zr zm ps ng : Addr) (zk : ClassId) (h0 : Heap) (n0 : Nat) (O0 : Old Z n0 h0) (G : own_Gl Z zr zm ps ng zk) (E_ob1 : Exa Z h0 ob1 "java/math/BigInteger") (V_ob1_mag : Arv Z h0 ob1_mag k_ob1_mag .int ob1_mag_z ob1_mag_l (.int (0 : Int32))) (F_ob1_mag : Fld Z h0 ob1 "java/math/BigInteger" "mag" "[I" (.ref ob1_mag)) (F_ob1_signum : Fld Z h0 ob1 "java/math/BigInteger" "signum" "I" (.int ob1_signum)) (hpb : (ob1_signum = (0 : Int32) ∨ (ob1_signum = sn ∧ (ob1_mag_z = (1 : Int32) ∨ ob1_mag_z = (2 : Int32) ∨ ob1_mag_z = (3 : Int32) ∨ ob1_mag_z = (4 : Int32))))) :
    MetFree l own_y25 (head1 (Jvm.Cond.code own_y25 jdk_2097_method_32_code 4 (some (.object "java/math/BigInteger")) :: ws) ({ frames := 0, cells := 0, slots := 0, locals := 0 } : Room)) (fun a U => a = #[(.ref zr), (.ref ob1)] ∧ Z.Warmed39 U.vm ∧ U.heap = h0) (fun _ _ _ _ _ => True) (fun _ U o U' => ∃ v L, o = .returned v ∧ own_Q_rmA40 Z ob1 ob1_mag k_ob1_mag ob1_mag_z ob1_mag_l ob1_signum sn zr zm ps ng zk h0 n0 v U'.heap L ∧ FrameEnd U o U' L ({ frames := 0, cells := 0, slots := 0, locals := 0 } : Room).cells ({ frames := 0, cells := 0, slots := 0, locals := 0 } : Room).slots) := by
  refine MetFree.of_bodySF (plainFor_of_name own_pn1) hisR ?_
  intro p e s m args below meth c s₁ Bd hml0 hP hK
  obtain ⟨rfl, hZ, hh⟩ := hP
  have hx := Bd.exec
  have hby := Bd.bytes
  have hml : c.maxLocals = 4 := hml0
  have hown : s.vm.findClass "java/math/BigInteger" = some m.cls := findClass_of_methodNamed Bd.named
  have hnm := (name_of_methodNamed Bd.named Bd.method).1
  have X0 : Stand p l e ({ frames := 0, cells := 0, slots := 0, locals := 0 } : Room) s m #[(.ref zr), (.ref ob1)] below meth c s₁ [] 0 0 := Stand.of_body Bd
  have e0 : s₁.heap = h0 := by rw [← hh, Bd.state]; rfl
  have N0 := Fr.nil n0
  have Z0 : n0 ≤ h0.size := O0.1 ▸ O0.2.1
  have g0 : ∀ t, FS p e below s₁ m 0 #[oa zr, oa ob1, vU, vU] [] t → ES p e below s₁ m #[(.ref zr), (.ref ob1)] 4 t := fun t k => castTop (own_ef30 m (zr) (ob1)) k
  have G0 := G
  obtain ⟨S_Z, E_Z, F_Zs, F_Zm, V_Z, S_P, P_P, S_N, P_N⟩ := G
  obtain ⟨T1, X1, e1, st1⟩ := getF X0 hx hZ hown (host := "") (Or.inl (own_w hw 84 rfl)) Via.refl e0 F_ob1_signum (g := (mkF m 1 #[oa zr, oa ob1, vU, vU] [(.ref ob1)])) rfl rfl (hb hby d20_1)
  have g3 : ∀ t, FS p e below T1 m 4 #[oa zr, oa ob1, vU, vU] [(.int ob1_signum)] t → ES p e below s₁ m #[(.ref zr), (.ref ob1)] 4 t := by
    intro t k
    refine g0 t ?_
    show FS p e below s₁ m 0 #[oa zr, oa ob1, vU, vU] [] _
    refine XS.aloadN X0.here hx rfl (hb hby d20_0) rfl rfl ?_
    refine st1 _ ?_
    exact k
  by_cases hc2 : ob1_signum = (0 : Int32)
  · have g4 : ∀ t, FS p e below T1 m 8 #[oa zr, oa ob1, vU, vU] [(.ref zr)] t → ES p e below s₁ m #[(.ref zr), (.ref ob1)] 4 t := by
      intro t k
      refine g3 t ?_
      show FS p e below T1 m 4 #[oa zr, oa ob1, vU, vU] [(.int ob1_signum)] _
      refine XS.ifNo X1.here hx rfl (hb hby d20_4) rfl ((if0 _ _).trans (teq hc2).2) ?_
      refine XS.aloadN X1.here hx rfl (hb hby d20_7) rfl rfl ?_
      exact k
    obtain ⟨fs, hrt, hrun, hended, hW, hsame⟩ := X1.leave (v := some (.ref zr)) (fun h => by rw [Bd.returns] at h; cases h)
    refine ⟨_, _, g4 _ ?_, hrun, hended, _, _, rfl, ?_, ⟨_, rfl⟩, hW, hsame.mono (by decide) (by decide)⟩
    · show Steps p.tables e below (T1.setTop (mkF m 8 #[oa zr, oa ob1, vU, vU] [(.ref zr)])) _
      jvm_step X1.here [X1.here.top, hx, (hb hby d20_8), X1.method', Bd.returns, Value.isRef, FieldType.isReference]
      first | (intro acts; rw [hrt _ acts rfl rfl rfl]) | rw [hrt _ _ rfl rfl rfl]
      exact Steps.refl _
    · show own_Q_rmA40 Z ob1 ob1_mag k_ob1_mag ob1_mag_z ob1_mag_l ob1_signum sn zr zm ps ng zk h0 n0 _ T1.heap _
      rw [e1]
      exact ⟨zr, zm, _, _, _, _, rfl, N0, (Keep.refl h0 []), (E_Z.ext O0.2), (F_Zs.ext O0.2), (F_Zm.ext O0.2), (V_Z.ext O0.2), Or.inl rfl⟩
  · obtain ⟨T5, X5, e5, st5⟩ := getF X1 hx hZ hown (host := "") (Or.inl (own_w hw 84 rfl)) Via.refl e1 (F_Zs.ext O0.2) (g := (mkF m 10 #[oa zr, oa ob1, vU, vU] [(.ref zr)])) rfl rfl (hb hby d20_10)
    have g6 : ∀ t, FS p e below T5 m 17 #[oa zr, oa ob1, vU, vU] [(.ref ob1)] t → ES p e below s₁ m #[(.ref zr), (.ref ob1)] 4 t := by
      intro t k
      refine g3 t ?_
      show FS p e below T1 m 4 #[oa zr, oa ob1, vU, vU] [(.int ob1_signum)] _
      refine XS.ifYes X1.here hx rfl (pc0 := 4) (pc' := 9) rfl (hb hby d20_4) rfl ((if0 _ _).trans (feq hc2).2) (by decide) (by decide) ?_
      refine XS.aloadN X1.here hx rfl (hb hby d20_9) rfl rfl ?_
      refine st5 _ ?_
      refine XS.ifNo X5.here hx rfl (hb hby d20_13) rfl ((if0 _ _).trans (teq (by decide : (0 : Int32) = (0 : Int32))).2) ?_
      refine XS.aloadN X5.here hx rfl (hb hby d20_16) rfl rfl ?_
      exact k
    obtain ⟨fs, hrt, hrun, hended, hW, hsame⟩ := X5.leave (v := some (.ref ob1)) (fun h => by rw [Bd.returns] at h; cases h)
    refine ⟨_, _, g6 _ ?_, hrun, hended, _, _, rfl, ?_, ⟨_, rfl⟩, hW, hsame.mono (by decide) (by decide)⟩
    · show Steps p.tables e below (T5.setTop (mkF m 17 #[oa zr, oa ob1, vU, vU] [(.ref ob1)])) _
      jvm_step X5.here [X5.here.top, hx, (hb hby d20_17), X5.method', Bd.returns, Value.isRef, FieldType.isReference]
      first | (intro acts; rw [hrt _ acts rfl rfl rfl]) | rw [hrt _ _ rfl rfl rfl]
      exact Steps.refl _
    · show own_Q_rmA40 Z ob1 ob1_mag k_ob1_mag ob1_mag_z ob1_mag_l ob1_signum sn zr zm ps ng zk h0 n0 _ T5.heap _
      rw [e5]
      exact ⟨ob1, ob1_mag, _, _, _, _, rfl, N0, (Keep.refl h0 []), E_ob1, F_ob1_signum, F_ob1_mag, V_ob1_mag, hpb⟩
def own_Q_rmA39 (Z : State) (ob0 : Addr) (ob0_cumQty : Int64) (ob0_request : Addr) (p1 : Int64) (p2 : Int64) (cq : Int64) (sn : Int32) (zr zm ps ng : Addr) (zk : ClassId) (h0 : Heap) (n0 : Nat) (v : Option Value) (h : Heap) (L : List Loc) : Prop := v = none ∧ Fr n0 L ∧ Keep h0 h [ob0] ∧ ∃ (rb rm : Addr) (rk : ClassId) (rz rs : Int32) (rl : List Value), Exa Z h ob0 "orderwire/orders/Order" ∧ Fld Z h ob0 "orderwire/orders/Order" "cumQty" "J" (.long cq) ∧ Fld Z h ob0 "orderwire/orders/Order" "request" "Lorderwire/orders/NewOrder;" (.ref ob0_request) ∧ Fld Z h ob0 "orderwire/orders/Order" "cancelled" "Z" (.int (0 : Int32)) ∧ Fld Z h ob0 "orderwire/orders/Order" "notional" "Ljava/math/BigInteger;" (.ref rb) ∧ Exa Z h rb "java/math/BigInteger" ∧ Fld Z h rb "java/math/BigInteger" "signum" "I" (.int rs) ∧ Fld Z h rb "java/math/BigInteger" "mag" "[I" (.ref rm) ∧ Arv Z h rm rk .int rz rl (.int (0 : Int32)) ∧ (rs = (0 : Int32) ∨ (rs = sn ∧ (rz = (1 : Int32) ∨ rz = (2 : Int32) ∨ rz = (3 : Int32) ∨ rz = (4 : Int32))))
theorem rmA39 (l : Launch) (Z : State) (a0 : Array Value) (hw : ∀ d ∈ tables_1, d.before a0 Z = true) (ws : List Jvm.Cond) (ob0 : Addr) (ob0_cumQty : Int64) (ob0_request : Addr) (p1 : Int64) (p2 : Int64) (cq : Int64) (sn : Int32) (zr zm ps ng : Addr) (zk : ClassId) (h0 : Heap) (n0 : Nat) (O0 : Old Z n0 h0) (G : own_Gl Z zr zm ps ng zk) (E_ob0 : Exa Z h0 ob0 "orderwire/orders/Order") (F_ob0_cancelled : Fld Z h0 ob0 "orderwire/orders/Order" "cancelled" "Z" (.int (0 : Int32))) (F_ob0_cumQty : Fld Z h0 ob0 "orderwire/orders/Order" "cumQty" "J" (.long ob0_cumQty)) (F_ob0_notional : Fld Z h0 ob0 "orderwire/orders/Order" "notional" "Ljava/math/BigInteger;" (.ref zr)) (F_ob0_request : Fld Z h0 ob0 "orderwire/orders/Order" "request" "Lorderwire/orders/NewOrder;" (.ref ob0_request)) (gz_ob0 : n0 ≤ ob0) (hcq : (ob0_cumQty + p1) = cq) (hq : ¬ (p1 < (0 : Int64))) (hsn : p2 < (0 : Int64) → sn = (-1 : Int32)) (hsp : ¬ (p2 < (0 : Int64)) → sn = (1 : Int32)) :
    MetFree l own_y2 (head1 (Jvm.Cond.code own_y2 prog_111_method_7_code 5 none :: ws) ({ frames := 6, cells := 7, slots := 30, locals := 140 } : Room)) (fun a U => a = #[(.ref ob0), (.long p1), (.long p2)] ∧ Z.Warmed39 U.vm ∧ U.heap = h0) (fun _ _ _ _ _ => True) (fun _ U o U' => ∃ v L, o = .returned v ∧ own_Q_rmA39 Z ob0 ob0_cumQty ob0_request p1 p2 cq sn zr zm ps ng zk h0 n0 v U'.heap L ∧ FrameEnd U o U' L ({ frames := 6, cells := 7, slots := 30, locals := 140 } : Room).cells ({ frames := 6, cells := 7, slots := 30, locals := 140 } : Room).slots) := by
  refine MetFree.of_bodySF (plainFor_of_name own_pn0) hisR ?_
  intro p e s m args below meth c s₁ Bd hml0 hP hK
  obtain ⟨rfl, hZ, hh⟩ := hP
  have hx := Bd.exec
  have hby := Bd.bytes
  have hml : c.maxLocals = 5 := hml0
  have hown : s.vm.findClass "orderwire/orders/Order" = some m.cls := findClass_of_methodNamed Bd.named
  have hnm := (name_of_methodNamed Bd.named Bd.method).1
  have X0 : Stand p l e ({ frames := 6, cells := 7, slots := 30, locals := 140 } : Room) s m #[(.ref ob0), (.long p1), (.long p2)] below meth c s₁ [] 0 0 := Stand.of_body Bd
  have e0 : s₁.heap = h0 := by rw [← hh, Bd.state]; rfl
  have N0 := Fr.nil n0
  have Z0 : n0 ≤ h0.size := O0.1 ▸ O0.2.1
  have g0 : ∀ t, FS p e below s₁ m 0 #[oa ob0, oj p1, vS, oj p2, vS] [] t → ES p e below s₁ m #[(.ref ob0), (.long p1), (.long p2)] 5 t := fun t k => castTop (own_ef3 m (ob0) (p1) (p2)) k
  have G0 := G
  obtain ⟨S_Z, E_Z, F_Zs, F_Zm, V_Z, S_P, P_P, S_N, P_N⟩ := G
  obtain ⟨T1, X1, e1, st1⟩ := getF X0 hx hZ hown (host := "") (Or.inl (own_w hw 64 rfl)) Via.refl e0 F_ob0_cumQty (g := (mkF m 2 #[oa ob0, oj p1, vS, oj p2, vS] [(.ref ob0), (.ref ob0)])) rfl rfl (hb hby d6_2)
  obtain ⟨T2, h2, X2, e2, W2, st2⟩ := putF X1 hx hZ hown (host := "") (Or.inl (own_w hw 64 rfl)) Via.refl e1 F_ob0_cumQty E_ob0 (Or.inl (own_w hw 65 rfl)) (own_w hw 2 rfl) (ty := .long) (by decide) rfl rfl (g := (mkF m 7 #[oa ob0, oj p1, vS, oj p2, vS] [(.long (ob0_cumQty + p1)), (.ref ob0)])) rfl rfl (hb hby d6_7)
  have Fw2 := F_ob0_cumQty.same W2
  have N2 := Fr.snoc X2 N0 gz_ob0
  have f3 := (F_ob0_notional.other W2 (Or.inr (slot_ne (own_la0 hw) (own_la1 hw) (by decide) own_ty0 own_ty1)))
  obtain ⟨T4, X4, e4, st4⟩ := getF X2 hx hZ hown (host := "") (Or.inl (own_w hw 53 rfl)) Via.refl e2 f3 (g := (mkF m 12 #[oa ob0, oj p1, vS, oj p2, vS] [(.ref ob0), (.ref ob0)])) rfl rfl (hb hby d6_12)
  have o5 : Old Z n0 h2 := (Old.wr O0 W2 gz_ob0)
  obtain ⟨_, _, ⟨T6, L6, k6, n6⟩, -, X6, ⟨Lc6, hQ6, l6, y6, z6⟩, st6⟩ := Jvm.LawKit.callS X4 hx (y := own_y3) hown (mvT hZ (own_w hw 66 rfl)) (mvT hZ (own_w hw 67 rfl)) (mvT hZ (own_w hw 52 rfl)) (mvT hZ (own_w hw 68 rfl)) (by decide) (backOf (W := 2) (rmA3 l Z a0 hw [] (p1) (1 : Int32) zr zm ps ng zk h2 n0 o5 G0   (fun q => absurd q hq) (fun _ => rfl)) hZ (own_w hw 68 rfl) (own_w hw 52 rfl) (by decide) (by decide)) (g := (mkF m 16 #[oa ob0, oj p1, vS, oj p2, vS] [(.long p1), (.ref zr), (.ref ob0)])) rfl (by rw [hml]; rfl) (argsL := [(.long p1)]) (rest := [(.ref zr), (.ref ob0)]) (lenOf own_pd3 rfl) rfl (own_W0 rfl) (hb hby d6_16) (fun _ _ => ⟨rfl, e4, (by decide : 0 + 2 ≤ _), (by decide : 0 + 8 ≤ _)⟩)
  dsimp only [Pt.U, Pt.locs, Pt.cells, Pt.slots] at X6 l6 y6 z6 st6 hQ6
  subst l6 y6 z6
  obtain ⟨rb6, rm6, rk6, rz6, rs6, rl6, rfl, Nq6, K6, Qe6, Qs6, Qm6, Qa6, Qc6⟩ := hQ6
  have N6 := Fr.app N2 Nq6
  have o7 : Old Z n0 T6.heap := (Old.keep o5 K6 all0)
  obtain ⟨_, _, ⟨T8, L8, k8, n8⟩, -, X8, ⟨Lc8, hQ8, l8, y8, z8⟩, st8⟩ := Jvm.LawKit.callS X6 hx (y := own_y3) hown (mvT hZ (own_w hw 66 rfl)) (mvT hZ (own_w hw 67 rfl)) (mvT hZ (own_w hw 52 rfl)) (mvT hZ (own_w hw 68 rfl)) (by decide) (backOf (W := 3) (rmA3 l Z a0 hw [] (p2) sn zr zm ps ng zk T6.heap n0 o7 G0   hsn hsp) hZ (own_w hw 68 rfl) (own_w hw 52 rfl) (by decide) (by decide)) (g := (mkF m 20 #[oa ob0, oj p1, vS, oj p2, vS] [(.long p2), (.ref rb6), (.ref zr), (.ref ob0)])) rfl (by rw [hml]; rfl) (argsL := [(.long p2)]) (rest := [(.ref rb6), (.ref zr), (.ref ob0)]) (lenOf own_pd3 rfl) rfl (own_W0 rfl) (hb hby d6_20) (fun _ _ => ⟨rfl, rfl, (by decide : 2 + 2 ≤ _), (by decide : 8 + 8 ≤ _)⟩)
  dsimp only [Pt.U, Pt.locs, Pt.cells, Pt.slots] at X8 l8 y8 z8 st8 hQ8
  subst l8 y8 z8
  obtain ⟨rb8, rm8, rk8, rz8, rs8, rl8, rfl, Nq8, K8, Qe8, Qs8, Qm8, Qa8, Qc8⟩ := hQ8
  have N8 := Fr.app N6 Nq8
  obtain ⟨LL9, XL9, NL9⟩ : ∃ LL : List Loc, Stand p l e ({ frames := 6, cells := 7, slots := 30, locals := 140 } : Room) s m #[(.ref ob0), (.long p1), (.long p2)] below meth c T8 LL 4 16 ∧ Fr n0 LL := ⟨_, X8, N8⟩
  have f10 := (Qe6.keep K8)
  have f11 := (Qa6.keep K8 nin0)
  have f12 := (Qm6.keep K8 nin0)
  have f13 := (Qs6.keep K8 nin0)
  have o14 : Old Z n0 T8.heap := (Old.keep o7 K8 all0)
  obtain ⟨cq15, kq15, q15a, q15b, q15c⟩ := isOf hZ rfl f10
  obtain ⟨_, _, ⟨T15, L15, k15, n15⟩, -, X15, ⟨Lc15, hQ15, l15, y15, z15⟩, st15⟩ := XL9.virtualBack hx (y := own_y6) (z := own_y6) hown (mvT hZ (own_w hw 89 rfl)) (mvT hZ (own_w hw 90 rfl)) (notFace_of_selects (args := #[]) (mvT hZ (own_w hw 92 rfl))) (mvT hZ (own_w hw 92 rfl)) (mvT hZ (own_w hw 91 rfl)) (by decide) (backOf (W := 2) (rmA6 l Z a0 hw [] rb6 rm6 rk6 (rz6) rl6 (rs6) rb8 rm8 rk8 (rz8) rl8 (rs8) sn zr zm ps ng zk T8.heap n0 o14 G0 f10 f11 f12 f13 Qe8 Qa8 Qm8 Qs8  Qc6 Qc8 (own_sn hsn hsp)) hZ (own_w hw 93 rfl) (own_w hw 52 rfl) (by decide) (by decide)) q15a q15c (g := (mkF m 23 #[oa ob0, oj p1, vS, oj p2, vS] [(.ref rb8), (.ref rb6), (.ref zr), (.ref ob0)])) rfl (by rw [hml]; rfl) (Steps.refl _) (argsL := [(.ref rb8)]) (rest := [(.ref zr), (.ref ob0)]) (lenOf own_pd18 rfl) rfl (own_W0 rfl) (hb hby d6_23) (fun _ _ => ⟨rfl, rfl, (by decide : 4 + 3 ≤ _), (by decide : 16 + 14 ≤ _)⟩)
  dsimp only [Pt.U, Pt.locs, Pt.cells, Pt.slots] at X15 l15 y15 z15 st15 hQ15
  subst l15 y15 z15
  obtain ⟨rb15, rm15, rk15, rz15, rs15, rl15, rfl, Nq15, K15, Qe15, Qs15, Qm15, Qa15, Qc15⟩ := hQ15
  have N15 := Fr.app NL9 Nq15
  have o16 : Old Z n0 T15.heap := (Old.keep o14 K15 all0)
  obtain ⟨cq17, kq17, q17a, q17b, q17c⟩ := isOf hZ rfl (E_Z.ext o16.2)
  obtain ⟨_, _, ⟨T17, L17, k17, n17⟩, -, X17, ⟨Lc17, hQ17, l17, y17, z17⟩, st17⟩ := X15.virtualBack hx (y := own_y25) (z := own_y25) hown (mvT hZ (own_w hw 131 rfl)) (mvT hZ (own_w hw 132 rfl)) (notFace_of_selects (args := #[]) (mvT hZ (own_w hw 134 rfl))) (mvT hZ (own_w hw 134 rfl)) (mvT hZ (own_w hw 133 rfl)) (by decide) (backOf (W := 1) (rmA40 l Z a0 hw [] rb15 rm15 rk15 (rz15) rl15 (rs15) sn zr zm ps ng zk T15.heap n0 o16 G0 Qe15 Qa15 Qm15 Qs15  Qc15) hZ (own_w hw 135 rfl) (own_w hw 52 rfl) (by decide) (by decide)) q17a q17c (g := (mkF m 26 #[oa ob0, oj p1, vS, oj p2, vS] [(.ref rb15), (.ref zr), (.ref ob0)])) rfl (by rw [hml]; rfl) (Steps.refl _) (argsL := [(.ref rb15)]) (rest := [(.ref ob0)]) (lenOf own_pd18 rfl) rfl (own_W0 rfl) (hb hby d6_26) (fun _ _ => ⟨rfl, rfl, (by decide : 7 + 0 ≤ _), (by decide : 30 + 0 ≤ _)⟩)
  dsimp only [Pt.U, Pt.locs, Pt.cells, Pt.slots] at X17 l17 y17 z17 st17 hQ17
  subst l17 y17 z17
  obtain ⟨rb17, rm17, rk17, rz17, rs17, rl17, rfl, Nq17, K17, Qe17, Qs17, Qm17, Qa17, Qc17⟩ := hQ17
  have N17 := Fr.app N15 Nq17
  have f18 := (((((E_ob0.wr W2).keep K6).keep K8).keep K15).keep K17)
  have f19 := ((((f3.keep K6 nin0).keep K8 nin0).keep K15 nin0).keep K17 nin0)
  obtain ⟨T20, h20, X20, e20, W20, st20⟩ := putF X17 hx hZ hown (host := "") (Or.inl (own_w hw 53 rfl)) Via.refl rfl f19 f18 (Or.inl (own_w hw 54 rfl)) (own_w hw 2 rfl) (ty := (.object "java/math/BigInteger")) (by decide) rfl rfl (g := (mkF m 29 #[oa ob0, oj p1, vS, oj p2, vS] [(.ref rb17), (.ref ob0)])) rfl rfl (hb hby d6_29)
  have Fw20 := f19.same W20
  have N20 := Fr.snoc X20 N17 gz_ob0
  have g21 : ∀ t, FS p e below T20 m 32 #[oa ob0, oj p1, vS, oj p2, vS] [] t → ES p e below s₁ m #[(.ref ob0), (.long p1), (.long p2)] 5 t := by
    intro t k
    refine g0 t ?_
    show FS p e below s₁ m 0 #[oa ob0, oj p1, vS, oj p2, vS] [] _
    refine XS.aloadN X0.here hx rfl (hb hby d6_0) rfl rfl ?_
    refine XS.dup X0.here hx rfl (hb hby d6_1) rfl rfl ?_
    refine st1 _ ?_
    refine XS.lloadN X1.here hx rfl (hb hby d6_5) rfl ?_
    refine XS.ladd X1.here hx rfl (hb hby d6_6) rfl ?_
    refine st2 _ ?_
    refine XS.aloadN X2.here hx rfl (hb hby d6_10) rfl rfl ?_
    refine XS.aloadN X2.here hx rfl (hb hby d6_11) rfl rfl ?_
    refine st4 _ ?_
    refine XS.lloadN X4.here hx rfl (hb hby d6_15) rfl ?_
    refine st6 _ ?_
    refine XS.lloadN X6.here hx rfl (hb hby d6_19) rfl ?_
    refine st8 _ ?_
    refine st15.trans ?_
    refine st17.trans ?_
    refine st20 _ ?_
    exact k
  obtain ⟨fs, hrt, hrun, hended, hW, hsame⟩ := X20.leave (v := none) (fun _ => rfl)
  have f22 := (f18.wr W20)
  have f23 := (((((Fw2.keep K6 nin0).keep K8 nin0).keep K15 nin0).keep K17 nin0).other W20 (Or.inr (slot_ne (own_la1 hw) (own_la0 hw) (by decide) own_ty1 own_ty0)))
  have f24 := ((((((F_ob0_request.other W2 (Or.inr (slot_ne (own_la4 hw) (own_la1 hw) (by decide) own_ty4 own_ty1))).keep K6 nin0).keep K8 nin0).keep K15 nin0).keep K17 nin0).other W20 (Or.inr (slot_ne (own_la4 hw) (own_la0 hw) (by decide) own_ty4 own_ty0)))
  have f25 := ((((((F_ob0_cancelled.other W2 (Or.inr (slot_ne (own_la5 hw) (own_la1 hw) (by decide) own_ty5 own_ty1))).keep K6 nin0).keep K8 nin0).keep K15 nin0).keep K17 nin0).other W20 (Or.inr (slot_ne (own_la5 hw) (own_la0 hw) (by decide) own_ty5 own_ty0)))
  have f26 := (Qe17.wr W20)
  have f27 := (Qs17.other W20 (Or.inl (Exa.ne Qe17 f18 (by decide))))
  have f28 := (Qm17.other W20 (Or.inl (Exa.ne Qe17 f18 (by decide))))
  have f29 := (Qa17.other W20 (Ne.symm (Exa.neArv f18 Qa17 (own_w hw 2 rfl))))
  refine ⟨_, _, g21 _ ?_, hrun, hended, _, _, rfl, ?_, ⟨_, rfl⟩, hW, hsame.mono (by decide) (by decide)⟩
  · show Steps p.tables e below (T20.setTop (mkF m 32 #[oa ob0, oj p1, vS, oj p2, vS] [])) _
    exact X20.returnOut hx Bd.returns (hb hby d6_32) hrt
  · show own_Q_rmA39 Z ob0 ob0_cumQty ob0_request p1 p2 cq sn zr zm ps ng zk h0 n0 _ T20.heap _
    rw [e20]
    exact ⟨rfl, N20, (Keep.wr (Keep.trans (Keep.trans (Keep.trans (Keep.trans (Keep.wr (Keep.refl h0 [ob0]) W2 (Or.inl (List.mem_of_getElem? (i := 0) rfl))) K6 all0) K8 all0) K15 all0) K17 all0) W20 (Or.inl (List.mem_of_getElem? (i := 0) rfl))), rb17, rm17, _, _, _, _, f22, (hcq ▸ f23), f24, f25, Fw20, f26, f27, f28, f29, Qc17⟩
def own_Q_rmA41 (Z : State) (ob0 : Addr) (ob0_cumQty : Int64) (ob0_notional : Addr) (ob0_request : Addr) (ob1 : Addr)  (zr zm ps ng : Addr) (zk : ClassId) (h0 : Heap) (n0 : Nat) (v : Option Value) (h : Heap) (L : List Loc) : Prop := v = none ∧ Fr n0 L ∧ Keep h0 h [ob0] ∧ Exa Z h ob0 "orderwire/orders/Order" ∧ Fld Z h ob0 "orderwire/orders/Order" "cumQty" "J" (.long ob0_cumQty) ∧ Fld Z h ob0 "orderwire/orders/Order" "request" "Lorderwire/orders/NewOrder;" (.ref ob1) ∧ Fld Z h ob0 "orderwire/orders/Order" "cancelled" "Z" (.int (0 : Int32)) ∧ Fld Z h ob0 "orderwire/orders/Order" "notional" "Ljava/math/BigInteger;" (.ref ob0_notional)
theorem rmA41 (l : Launch) (Z : State) (a0 : Array Value) (hw : ∀ d ∈ tables_1, d.before a0 Z = true) (ws : List Jvm.Cond) (ob0 : Addr) (ob0_cumQty : Int64) (ob0_notional : Addr) (ob0_request : Addr) (ob1 : Addr)  (zr zm ps ng : Addr) (zk : ClassId) (h0 : Heap) (n0 : Nat) (O0 : Old Z n0 h0) (G : own_Gl Z zr zm ps ng zk) (E_ob0 : Exa Z h0 ob0 "orderwire/orders/Order") (F_ob0_cancelled : Fld Z h0 ob0 "orderwire/orders/Order" "cancelled" "Z" (.int (0 : Int32))) (F_ob0_cumQty : Fld Z h0 ob0 "orderwire/orders/Order" "cumQty" "J" (.long ob0_cumQty)) (F_ob0_notional : Fld Z h0 ob0 "orderwire/orders/Order" "notional" "Ljava/math/BigInteger;" (.ref ob0_notional)) (F_ob0_request : Fld Z h0 ob0 "orderwire/orders/Order" "request" "Lorderwire/orders/NewOrder;" (.ref ob0_request)) (gz_ob0 : n0 ≤ ob0) :
    MetFree l own_y32 (head1 (Jvm.Cond.code own_y32 prog_111_method_9_code 2 none :: ws) ({ frames := 0, cells := 0, slots := 0, locals := 0 } : Room)) (fun a U => a = #[(.ref ob0), (.ref ob1)] ∧ Z.Warmed39 U.vm ∧ U.heap = h0) (fun _ _ _ _ _ => True) (fun _ U o U' => ∃ v L, o = .returned v ∧ own_Q_rmA41 Z ob0 ob0_cumQty ob0_notional ob0_request ob1 zr zm ps ng zk h0 n0 v U'.heap L ∧ FrameEnd U o U' L ({ frames := 0, cells := 0, slots := 0, locals := 0 } : Room).cells ({ frames := 0, cells := 0, slots := 0, locals := 0 } : Room).slots) := by
  refine MetFree.of_bodySF (plainFor_of_name own_pn0) hisR ?_
  intro p e s m args below meth c s₁ Bd hml0 hP hK
  obtain ⟨rfl, hZ, hh⟩ := hP
  have hx := Bd.exec
  have hby := Bd.bytes
  have hml : c.maxLocals = 2 := hml0
  have hown : s.vm.findClass "orderwire/orders/Order" = some m.cls := findClass_of_methodNamed Bd.named
  have hnm := (name_of_methodNamed Bd.named Bd.method).1
  have X0 : Stand p l e ({ frames := 0, cells := 0, slots := 0, locals := 0 } : Room) s m #[(.ref ob0), (.ref ob1)] below meth c s₁ [] 0 0 := Stand.of_body Bd
  have e0 : s₁.heap = h0 := by rw [← hh, Bd.state]; rfl
  have N0 := Fr.nil n0
  have Z0 : n0 ≤ h0.size := O0.1 ▸ O0.2.1
  have g0 : ∀ t, FS p e below s₁ m 0 #[oa ob0, oa ob1] [] t → ES p e below s₁ m #[(.ref ob0), (.ref ob1)] 2 t := fun t k => castTop (own_ef7 m (ob0) (ob1)) k
  have G0 := G
  obtain ⟨S_Z, E_Z, F_Zs, F_Zm, V_Z, S_P, P_P, S_N, P_N⟩ := G
  obtain ⟨T1, h1, X1, e1, W1, st1⟩ := putF X0 hx hZ hown (host := "") (Or.inl (own_w hw 57 rfl)) Via.refl e0 F_ob0_request E_ob0 (Or.inl (own_w hw 58 rfl)) (own_w hw 2 rfl) (ty := (.object "orderwire/orders/NewOrder")) (by decide) rfl rfl (g := (mkF m 2 #[oa ob0, oa ob1] [(.ref ob1), (.ref ob0)])) rfl rfl (hb hby d23_2)
  have Fw1 := F_ob0_request.same W1
  have N1 := Fr.snoc X1 N0 gz_ob0
  have g2 : ∀ t, FS p e below T1 m 5 #[oa ob0, oa ob1] [] t → ES p e below s₁ m #[(.ref ob0), (.ref ob1)] 2 t := by
    intro t k
    refine g0 t ?_
    show FS p e below s₁ m 0 #[oa ob0, oa ob1] [] _
    refine XS.aloadN X0.here hx rfl (hb hby d23_0) rfl rfl ?_
    refine XS.aloadN X0.here hx rfl (hb hby d23_1) rfl rfl ?_
    refine st1 _ ?_
    exact k
  obtain ⟨fs, hrt, hrun, hended, hW, hsame⟩ := X1.leave (v := none) (fun _ => rfl)
  have f3 := (E_ob0.wr W1)
  have f4 := (F_ob0_cumQty.other W1 (Or.inr (slot_ne (own_la1 hw) (own_la4 hw) (by decide) own_ty1 own_ty4)))
  have f5 := (F_ob0_cancelled.other W1 (Or.inr (slot_ne (own_la5 hw) (own_la4 hw) (by decide) own_ty5 own_ty4)))
  have f6 := (F_ob0_notional.other W1 (Or.inr (slot_ne (own_la0 hw) (own_la4 hw) (by decide) own_ty0 own_ty4)))
  refine ⟨_, _, g2 _ ?_, hrun, hended, _, _, rfl, ?_, ⟨_, rfl⟩, hW, hsame.mono (by decide) (by decide)⟩
  · show Steps p.tables e below (T1.setTop (mkF m 5 #[oa ob0, oa ob1] [])) _
    exact X1.returnOut hx Bd.returns (hb hby d23_5) hrt
  · show own_Q_rmA41 Z ob0 ob0_cumQty ob0_notional ob0_request ob1 zr zm ps ng zk h0 n0 _ T1.heap _
    rw [e1]
    exact ⟨rfl, N1, (Keep.wr (Keep.refl h0 [ob0]) W1 (Or.inl (List.mem_of_getElem? (i := 0) rfl))), f3, f4, Fw1, f5, f6⟩
def own_Q_rm0 (Z : State) (p1 p2 p3 p4 : Int64) (p5 : Int32) (p6 : Int64) (zr zm ps ng : Addr) (zk : ClassId) (h0 : Heap) (n0 : Nat) (v : Option Value) (h : Heap) (L : List Loc) : Prop := own_Qt n0 v h L
theorem rm0 (l : Launch) (Z : State) (a0 : Array Value) (hw : ∀ d ∈ tables_1, d.before a0 Z = true) (ws : List Jvm.Cond) (p1 p2 p3 p4 : Int64) (p5 : Int32) (p6 : Int64) (zr zm ps ng : Addr) (zk : ClassId) (h0 : Heap) (n0 : Nat) (O0 : Old Z n0 h0) (G : own_Gl Z zr zm ps ng zk) :
    MetFree l x (head1 (Jvm.Cond.code x code maxLocals ret :: ws) room_1) (fun a U => a = #[(.long p1), (.long p2), (.long p3), (.long p4), (.int p5), (.long p6)] ∧ Z.Warmed39 U.vm ∧ U.heap = h0) (fun _ _ _ _ _ => True) (fun _ U o U' => ∃ v L, o = .returned v ∧ own_Q_rm0 Z p1 p2 p3 p4 p5 p6 zr zm ps ng zk h0 n0 v U'.heap L ∧ FrameEnd U o U' L room_1.cells room_1.slots) := by
  refine MetFree.of_bodySF (plainFor_of_name own_pn8) hisR ?_
  intro p e s m args below meth c s₁ Bd hml0 hP hK
  obtain ⟨rfl, hZ, hh⟩ := hP
  have hx := Bd.exec
  have hby := Bd.bytes
  have hml : c.maxLocals = 23 := hml0
  have hown : s.vm.findClass "orderwire/orders/OrderLeavesQtyPinLaw" = some m.cls := findClass_of_methodNamed Bd.named
  have hnm := (name_of_methodNamed Bd.named Bd.method).1
  have X0 : Stand p l e room_1 s m #[(.long p1), (.long p2), (.long p3), (.long p4), (.int p5), (.long p6)] below meth c s₁ [] 0 0 := Stand.of_body Bd
  have e0 : s₁.heap = h0 := by rw [← hh, Bd.state]; rfl
  have N0 := Fr.nil n0
  have Z0 : n0 ≤ h0.size := O0.1 ▸ O0.2.1
  have g0 : ∀ t, FS p e below s₁ m 0 #[oj p1, vS, oj p2, vS, oj p3, vS, oj p4, vS, oi p5, oj p6, vS, vU, vU, vU, vU, vU, vU, vU, vU, vU, vU, vU, vU] [] t → ES p e below s₁ m #[(.long p1), (.long p2), (.long p3), (.long p4), (.int p5), (.long p6)] maxLocals t := fun t k => castTop (own_ef34 m (p1) (p2) (p3) (p4) (p5) (p6)) k
  have G0 := G
  obtain ⟨S_Z, E_Z, F_Zs, F_Zm, V_Z, S_P, P_P, S_N, P_N⟩ := G
  obtain ⟨sn, hsn, hsp⟩ := own_sgn p6
  obtain ⟨q1, hv_q1⟩ : ∃ z : Int64, z = (p1 &&& (9223372036854775807 : Int64)) := ⟨_, rfl⟩
  have g1 : ∀ t, FS p e below s₁ m 5 #[oj p1, vS, oj p2, vS, oj p3, vS, oj p4, vS, oi p5, oj p6, vS, vU, vU, vU, vU, vU, vU, vU, vU, vU, vU, vU, vU] [(.long q1)] t → ES p e below s₁ m #[(.long p1), (.long p2), (.long p3), (.long p4), (.int p5), (.long p6)] maxLocals t := by
    intro t k
    rw [hv_q1] at k
    refine g0 t ?_
    show FS p e below s₁ m 0 #[oj p1, vS, oj p2, vS, oj p3, vS, oj p4, vS, oi p5, oj p6, vS, vU, vU, vU, vU, vU, vU, vU, vU, vU, vU, vU, vU] [] _
    refine XS.lloadN X0.here hx rfl (hb hby at_0) rfl ?_
    refine X0.ldc2Long hx hown (mvT hZ (own_w hw 0 rfl)) (g := (mkF m 1 #[oj p1, vS, oj p2, vS, oj p3, vS, oj p4, vS, oi p5, oj p6, vS, vU, vU, vU, vU, vU, vU, vU, vU, vU, vU, vU, vU] [(.long p1)])) rfl (hb hby at_1) _ ?_
    refine XS.land X0.here hx rfl (hb hby at_4) rfl ?_
    exact k
  obtain ⟨T2, h2, X2, e2, E2, A2, D2, -, st2⟩ := newO X0 hx hZ hown (own_w hw 1 rfl) (own_w hw 2 rfl) (own_w hw 3 rfl) e0 (g := (mkF m 7 #[oj p1, vS, oj p2, vS, oj p3, vS, oj p4, vS, oi p5, oj p6, vS, oj q1, vS, vU, vU, vU, vU, vU, vU, vU, vU, vU, vU] [])) rfl (hb hby at_7) (by decide) (by decide)
  obtain ⟨b2, q_b2⟩ : ∃ z, z = h0.size := ⟨_, rfl⟩
  rw [← q_b2] at A2 D2 st2
  have sz_b2 : h0.size ≤ b2 := Nat.le_of_eq q_b2.symm
  have gz_b2 : n0 ≤ b2 := Nat.le_trans Z0 sz_b2
  have F2_notional : Fld Z h2 b2 "orderwire/orders/Order" "notional" "Ljava/math/BigInteger;" .null := D2 (Or.inl (own_w hw 54 rfl)) (ty := (.object "java/math/BigInteger")) (by decide)
  have F2_number : Fld Z h2 b2 "orderwire/orders/Order" "number" "J" (.long (0 : Int64)) := D2 (Or.inr (own_w hw 56 rfl)) (ty := .long) (by decide)
  have F2_request : Fld Z h2 b2 "orderwire/orders/Order" "request" "Lorderwire/orders/NewOrder;" .null := D2 (Or.inl (own_w hw 58 rfl)) (ty := (.object "orderwire/orders/NewOrder")) (by decide)
  have F2_cumQty : Fld Z h2 b2 "orderwire/orders/Order" "cumQty" "J" (.long (0 : Int64)) := D2 (Or.inl (own_w hw 65 rfl)) (ty := .long) (by decide)
  have F2_cancelled : Fld Z h2 b2 "orderwire/orders/Order" "cancelled" "Z" (.int (0 : Int32)) := D2 (Or.inl (own_w hw 142 rfl)) (ty := .boolean) (by decide)
  have o3 : Old Z n0 h2 := (Old.ext O0 E2)
  obtain ⟨_, _, ⟨T4, L4, k4, n4⟩, -, X4, ⟨Lc4, hQ4, l4, y4, z4⟩, st4⟩ := Jvm.LawKit.callS X2 hx (y := own_y28) hown (mvT hZ (own_w hw 5 rfl)) (mvT hZ (own_w hw 6 rfl)) (mvT hZ (own_w hw 7 rfl)) (mvT hZ (own_w hw 8 rfl)) (by decide) (backOf (W := 4) (rmA33 l Z a0 hw [] (q1)  zr zm ps ng zk h2 n0 o3 G0   ) hZ (own_w hw 8 rfl) (own_w hw 7 rfl) (by decide) (by decide)) (g := (mkF m 16 #[oj p1, vS, oj p2, vS, oj p3, vS, oj p4, vS, oi p5, oj p6, vS, oj q1, vS, vU, vU, vU, vU, vU, vU, vU, vU, vU, vU] [(.long q1), (.long (7 : Int64)), (.ref b2), (.ref b2)])) rfl (by rw [hml]; rfl) (argsL := [(.long q1)]) (rest := [(.long (7 : Int64)), (.ref b2), (.ref b2)]) (lenOf own_pd22 rfl) rfl (own_W0 rfl) (hb hby at_16) (fun _ _ => ⟨rfl, e2, (by decide : 1 + 1 ≤ _), (by decide : 5 + 12 ≤ _)⟩)
  dsimp only [Pt.U, Pt.locs, Pt.cells, Pt.slots] at X4 l4 y4 z4 st4 hQ4
  subst l4 y4 z4
  obtain ⟨rq4, rfl, Nq4, K4, Ne4, Nf4⟩ := hQ4
  have N4 := Fr.app N0 Nq4
  have f5 := (A2.keep K4)
  have f6 := (F2_cancelled.keep K4 nin0)
  have f7 := (F2_cumQty.keep K4 nin0)
  have f8 := (F2_notional.keep K4 nin0)
  have f9 := (F2_number.keep K4 nin0)
  have f10 := (F2_request.keep K4 nin0)
  have o11 : Old Z n0 T4.heap := (Old.keep o3 K4 all0)
  obtain ⟨_, _, ⟨T12, L12, k12, n12⟩, -, X12, ⟨Lc12, hQ12, l12, y12, z12⟩, st12⟩ := X4.specialBack hx (y := own_y31) rfl hown (mvT hZ (own_w hw 47 rfl)) (mvT hZ (own_w hw 48 rfl)) (mvT hZ (own_w hw 49 rfl)) (by decide) (backOf (W := 1) (rmA36 l Z a0 hw [] b2 rq4  zr zm ps ng zk T4.heap n0 o11 G0 f5 f6 f7 f8 f9 f10 gz_b2 ) hZ (own_w hw 49 rfl) (own_w hw 3 rfl) (by decide) (by decide)) (g := (mkF m 19 #[oj p1, vS, oj p2, vS, oj p3, vS, oj p4, vS, oi p5, oj p6, vS, oj q1, vS, vU, vU, vU, vU, vU, vU, vU, vU, vU, vU] [(.ref rq4), (.long (7 : Int64)), (.ref b2), (.ref b2)])) rfl (by rw [hml]; rfl) (Steps.refl _) (a := b2) (argsL := [(.long (7 : Int64)), (.ref rq4)]) (rest := [(.ref b2)]) (lenOf own_pd23 rfl) rfl (own_W0 rfl) (hb hby at_19) (fun _ _ => ⟨rfl, rfl, (by decide : 2 + 0 ≤ _), (by decide : 17 + 0 ≤ _)⟩)
  dsimp only [Pt.U, Pt.locs, Pt.cells, Pt.slots] at X12 l12 y12 z12 st12 hQ12
  subst l12 y12 z12
  obtain ⟨rfl, Nq12, K12, Oe12, Ocum12, Oreq12, Ocan12, Onot12⟩ := hQ12
  have N12 := Fr.app N4 Nq12
  have g14 : ∀ t, FS p e below T12 m 34 #[oj p1, vS, oj p2, vS, oj p3, vS, oj p4, vS, oi p5, oj p6, vS, oj q1, vS, oa b2, oj (0 : Int64), vS, oj q1, vS, oi (1 : Int32), vU, vU, vU, vU] [] t → ES p e below s₁ m #[(.long p1), (.long p2), (.long p3), (.long p4), (.int p5), (.long p6)] maxLocals t := by
    intro t k
    refine g1 t ?_
    show FS p e below s₁ m 5 #[oj p1, vS, oj p2, vS, oj p3, vS, oj p4, vS, oi p5, oj p6, vS, vU, vU, vU, vU, vU, vU, vU, vU, vU, vU, vU, vU] [(.long q1)] _
    refine XS.lstore X0.here hx rfl (hb hby at_5) rfl (l' := #[oj p1, vS, oj p2, vS, oj p3, vS, oj p4, vS, oi p5, oj p6, vS, oj q1, vS, vU, vU, vU, vU, vU, vU, vU, vU, vU, vU]) rfl ?_
    refine st2 _ ?_
    refine XS.dup X2.here hx rfl (hb hby at_10) rfl rfl ?_
    refine X2.ldc2Long hx hown (mvT hZ (own_w hw 4 rfl)) (g := (mkF m 11 #[oj p1, vS, oj p2, vS, oj p3, vS, oj p4, vS, oi p5, oj p6, vS, oj q1, vS, vU, vU, vU, vU, vU, vU, vU, vU, vU, vU] [(.ref b2), (.ref b2)])) rfl (hb hby at_11) _ ?_
    refine XS.lload X2.here hx rfl (hb hby at_14) rfl ?_
    refine st4 _ ?_
    refine st12.trans ?_
    refine XS.astore X12.here hx rfl (hb hby at_22) rfl rfl (l' := #[oj p1, vS, oj p2, vS, oj p3, vS, oj p4, vS, oi p5, oj p6, vS, oj q1, vS, oa b2, vU, vU, vU, vU, vU, vU, vU, vU, vU]) rfl ?_
    show FS p e below T12 m 24 #[oj p1, vS, oj p2, vS, oj p3, vS, oj p4, vS, oi p5, oj p6, vS, oj q1, vS, oa b2, vU, vU, vU, vU, vU, vU, vU, vU, vU] [] _
    refine XS.lconst X12.here hx rfl (hb hby at_24) ?_
    refine XS.lstore X12.here hx rfl (hb hby at_25) rfl (l' := #[oj p1, vS, oj p2, vS, oj p3, vS, oj p4, vS, oi p5, oj p6, vS, oj q1, vS, oa b2, oj (0 : Int64), vS, vU, vU, vU, vU, vU, vU, vU]) rfl ?_
    refine XS.lload X12.here hx rfl (hb hby at_27) rfl ?_
    refine XS.lstore X12.here hx rfl (hb hby at_29) rfl (l' := #[oj p1, vS, oj p2, vS, oj p3, vS, oj p4, vS, oi p5, oj p6, vS, oj q1, vS, oa b2, oj (0 : Int64), vS, oj q1, vS, vU, vU, vU, vU, vU]) rfl ?_
    refine XS.iconst X12.here hx rfl (hb hby at_31) ?_
    refine XS.istore X12.here hx rfl (hb hby at_32) rfl (l' := #[oj p1, vS, oj p2, vS, oj p3, vS, oj p4, vS, oi p5, oj p6, vS, oj q1, vS, oa b2, oj (0 : Int64), vS, oj q1, vS, oi (1 : Int32), vU, vU, vU, vU]) rfl ?_
    exact k
  by_cases hf13 : ((p5 &&& (1 : Int32)) = (0 : Int32) ∨ ¬ ((0 : Int64) < q1))
  · have g15 : ∀ t, FS p e below T12 m 38 #[oj p1, vS, oj p2, vS, oj p3, vS, oj p4, vS, oi p5, oj p6, vS, oj q1, vS, oa b2, oj (0 : Int64), vS, oj q1, vS, oi (1 : Int32), vU, vU, vU, vU] [(.int (p5 &&& (1 : Int32)))] t → ES p e below s₁ m #[(.long p1), (.long p2), (.long p3), (.long p4), (.int p5), (.long p6)] maxLocals t := by
      intro t k
      refine g14 t ?_
      show FS p e below T12 m 34 #[oj p1, vS, oj p2, vS, oj p3, vS, oj p4, vS, oi p5, oj p6, vS, oj q1, vS, oa b2, oj (0 : Int64), vS, oj q1, vS, oi (1 : Int32), vU, vU, vU, vU] [] _
      refine XS.iload X12.here hx rfl (hb hby at_34) rfl ?_
      refine XS.iconst X12.here hx rfl (hb hby at_36) ?_
      refine XS.iand X12.here hx rfl (hb hby at_37) rfl ?_
      exact k
    have g18 : ∀ t, FS p e below T12 m 73 #[oj p1, vS, oj p2, vS, oj p3, vS, oj p4, vS, oi p5, oj p6, vS, oj q1, vS, oa b2, oj (0 : Int64), vS, oj q1, vS, oi (1 : Int32), vU, vU, vU, vU] [] t → ES p e below s₁ m #[(.long p1), (.long p2), (.long p3), (.long p4), (.int p5), (.long p6)] maxLocals t := by
      intro t k
      by_cases hc16 : (p5 &&& (1 : Int32)) = (0 : Int32)
      · skip
        refine g15 t ?_
        show FS p e below T12 m 38 #[oj p1, vS, oj p2, vS, oj p3, vS, oj p4, vS, oi p5, oj p6, vS, oj q1, vS, oa b2, oj (0 : Int64), vS, oj q1, vS, oi (1 : Int32), vU, vU, vU, vU] [(.int (p5 &&& (1 : Int32)))] _
        refine XS.ifYes X12.here hx rfl (pc0 := 38) (pc' := 73) rfl (hb hby at_38) rfl ((if0 _ _).trans (teq hc16).1) (by decide) (by decide) ?_
        exact k
      · skip
        have hc17 : ¬ ((0 : Int64) < q1) := hf13.resolve_left hc16
        refine g15 t ?_
        show FS p e below T12 m 38 #[oj p1, vS, oj p2, vS, oj p3, vS, oj p4, vS, oi p5, oj p6, vS, oj q1, vS, oa b2, oj (0 : Int64), vS, oj q1, vS, oi (1 : Int32), vU, vU, vU, vU] [(.int (p5 &&& (1 : Int32)))] _
        refine XS.ifNo X12.here hx rfl (hb hby at_38) rfl ((if0 _ _).trans (feq hc16).1) ?_
        refine XS.lload X12.here hx rfl (hb hby at_41) rfl ?_
        refine XS.lconst X12.here hx rfl (hb hby at_43) ?_
        refine XS.lcmp X12.here hx rfl (hb hby at_44) rfl ?_
        refine XS.ifYes X12.here hx rfl (pc0 := 45) (pc' := 73) rfl (hb hby at_45) rfl ((if0 _ _).trans (flt (fun q => hc17 ((lw_gt _ _).mp q))).2.2.2) (by decide) (by decide) ?_
        exact k
    have f19 := (Ne4.keep K12)
    have f20 := (Nf4.keep K12 (ninS (Exa.ne Ne4 f5 (by decide)) nin0))
    have o21 : Old Z n0 T12.heap := (Old.keep o11 K12 (allS gz_b2 all0))
    obtain ⟨cq22, kq22, q22a, q22b, q22c⟩ := isOf hZ rfl Oe12
    obtain ⟨_, _, ⟨T22, L22, k22, n22⟩, -, X22, ⟨Lc22, hQ22, l22, y22, z22⟩, st22⟩ := X12.virtualBack hx (y := own_y1) (z := own_y1) hown (mvT hZ (own_w hw 136 rfl)) (mvT hZ (own_w hw 137 rfl)) (notFace_of_selects (args := #[]) (mvT hZ (own_w hw 139 rfl))) (mvT hZ (own_w hw 139 rfl)) (mvT hZ (own_w hw 138 rfl)) (by decide) (backOf (W := 0) (rmA37 l Z a0 hw [] b2 rq4 (q1)  zr zm ps ng zk T12.heap n0 o21 G0 Oe12 Ocan12 Ocum12 f19 f20 Oreq12  ) hZ (own_w hw 140 rfl) (own_w hw 3 rfl) (by decide) (by decide)) q22a q22c (g := (mkF m 80 #[oj p1, vS, oj p2, vS, oj p3, vS, oj p4, vS, oi p5, oj p6, vS, oj q1, vS, oa b2, oj (0 : Int64), vS, oj q1, vS, oi (1 : Int32), vU, vU, vU, vU] [(.ref b2)])) rfl (by rw [hml]; rfl) (Steps.refl _) (argsL := []) (rest := []) (lenOf own_pd1 rfl) rfl (own_W0 rfl) (hb hby at_80) (fun _ _ => ⟨rfl, rfl, (by decide : 2 + 0 ≤ _), (by decide : 17 + 0 ≤ _)⟩)
    dsimp only [Pt.U, Pt.locs, Pt.cells, Pt.slots] at X22 l22 y22 z22 st22 hQ22
    subst l22 y22 z22
    obtain ⟨rfl, Nq22, e22⟩ := hQ22
    have N22 := Fr.app N12 Nq22
    have hc23 : (q1 - (0 : Int64)) = (q1 - (0 : Int64)) := rfl
    have g25 : ∀ t, FS p e below T22 m 103 #[oj p1, vS, oj p2, vS, oj p3, vS, oj p4, vS, oi p5, oj p6, vS, oj q1, vS, oa b2, oj (0 : Int64), vS, oj q1, vS, oi (1 : Int32), vU, vU, vU, vU] [(.int (p5 &&& (4 : Int32)))] t → ES p e below s₁ m #[(.long p1), (.long p2), (.long p3), (.long p4), (.int p5), (.long p6)] maxLocals t := by
      intro t k
      refine g18 t ?_
      show FS p e below T12 m 73 #[oj p1, vS, oj p2, vS, oj p3, vS, oj p4, vS, oi p5, oj p6, vS, oj q1, vS, oa b2, oj (0 : Int64), vS, oj q1, vS, oi (1 : Int32), vU, vU, vU, vU] [] _
      refine XS.iload X12.here hx rfl (hb hby at_73) rfl ?_
      refine XS.ifNo X12.here hx rfl (hb hby at_75) rfl ((if0 _ _).trans (feq (by decide : ¬ ((1 : Int32) = (0 : Int32)))).1) ?_
      refine XS.aload X12.here hx rfl (hb hby at_78) rfl rfl ?_
      refine st22.trans ?_
      refine XS.lload X22.here hx rfl (hb hby at_83) rfl ?_
      refine XS.lload X22.here hx rfl (hb hby at_85) rfl ?_
      refine XS.lsub X22.here hx rfl (hb hby at_87) rfl ?_
      refine XS.lcmp X22.here hx rfl (hb hby at_88) rfl ?_
      show FS p e below T22 m 89 #[oj p1, vS, oj p2, vS, oj p3, vS, oj p4, vS, oi p5, oj p6, vS, oj q1, vS, oa b2, oj (0 : Int64), vS, oj q1, vS, oi (1 : Int32), vU, vU, vU, vU] [(.int (lcmpW (q1 - (0 : Int64)) (q1 - (0 : Int64))))] _
      refine XS.ifNo X22.here hx rfl (hb hby at_89) rfl ((if0 _ _).trans (teq ((lw_eq _ _).mpr hc23)).2) ?_
      refine XS.iconst X22.here hx rfl (hb hby at_92) ?_
      refine XS.goto X22.here hx rfl (pc0 := 93) (pc' := 97) rfl (hb hby at_93) (by decide) (by decide) ?_
      refine XS.istore X22.here hx rfl (hb hby at_97) rfl (l' := #[oj p1, vS, oj p2, vS, oj p3, vS, oj p4, vS, oi p5, oj p6, vS, oj q1, vS, oa b2, oj (0 : Int64), vS, oj q1, vS, oi (1 : Int32), vU, vU, vU, vU]) rfl ?_
      refine XS.iload X22.here hx rfl (hb hby at_99) rfl ?_
      refine XS.iconst X22.here hx rfl (hb hby at_101) ?_
      refine XS.iand X22.here hx rfl (hb hby at_102) rfl ?_
      exact k
    by_cases hc24 : (p5 &&& (4 : Int32)) = (0 : Int32)
    · obtain ⟨op, hv_op⟩ : ∃ z : Int64, z = (q1 - (0 : Int64)) := ⟨_, rfl⟩
      have g26 : ∀ t, FS p e below T22 m 180 #[oj p1, vS, oj p2, vS, oj p3, vS, oj p4, vS, oi p5, oj p6, vS, oj q1, vS, oa b2, oj (0 : Int64), vS, oj q1, vS, oi (1 : Int32), vU, vU, vU, vU] [(.long op)] t → ES p e below s₁ m #[(.long p1), (.long p2), (.long p3), (.long p4), (.int p5), (.long p6)] maxLocals t := by
        intro t k
        rw [hv_op] at k
        refine g25 t ?_
        show FS p e below T22 m 103 #[oj p1, vS, oj p2, vS, oj p3, vS, oj p4, vS, oi p5, oj p6, vS, oj q1, vS, oa b2, oj (0 : Int64), vS, oj q1, vS, oi (1 : Int32), vU, vU, vU, vU] [(.int (p5 &&& (4 : Int32)))] _
        refine XS.ifYes X22.here hx rfl (pc0 := 103) (pc' := 175) rfl (hb hby at_103) rfl ((if0 _ _).trans (teq hc24).1) (by decide) (by decide) ?_
        refine XS.lload X22.here hx rfl (hb hby at_175) rfl ?_
        refine XS.lload X22.here hx rfl (hb hby at_177) rfl ?_
        refine XS.lsub X22.here hx rfl (hb hby at_179) rfl ?_
        exact k
      have g27 : ∀ t, FS p e below T22 m 182 #[oj p1, vS, oj p2, vS, oj p3, vS, oj p4, vS, oi p5, oj p6, vS, oj q1, vS, oa b2, oj (0 : Int64), vS, oj q1, vS, oi (1 : Int32), oj op, vS, vU, vU] [] t → ES p e below s₁ m #[(.long p1), (.long p2), (.long p3), (.long p4), (.int p5), (.long p6)] maxLocals t := by
        intro t k
        refine g26 t ?_
        show FS p e below T22 m 180 #[oj p1, vS, oj p2, vS, oj p3, vS, oj p4, vS, oi p5, oj p6, vS, oj q1, vS, oa b2, oj (0 : Int64), vS, oj q1, vS, oi (1 : Int32), vU, vU, vU, vU] [(.long op)] _
        refine XS.lstore X22.here hx rfl (hb hby at_180) rfl (l' := #[oj p1, vS, oj p2, vS, oj p3, vS, oj p4, vS, oi p5, oj p6, vS, oj q1, vS, oa b2, oj (0 : Int64), vS, oj q1, vS, oi (1 : Int32), oj op, vS, vU, vU]) rfl ?_
        exact k
      exact own_t182 p1 p2 p3 p4 p5 p6 q1 ((0 : Int64)) (q1) op b2 rq4 zr zm zk ((0 : Int32)) ((0 : Int32)) [] sn zr zm ps ng zk (X22.mono (by decide) (by decide)) hx hZ hw hby hml hown e22 o21 N22 Bd.returns Bd.notSynchronized G0 Oe12 Ocum12 Oreq12 Ocan12 Onot12 f19 f20 (E_Z.ext o21.2) (F_Zs.ext o21.2) (F_Zm.ext o21.2) (V_Z.ext o21.2) (Or.inl rfl) hsn hsp gz_b2 g27
    · have hc28 : (0 : Int64) < (9223372036854775807 : Int64) := by decide
      obtain ⟨q2, hv_q2⟩ : ∃ z : Int64, z = ((1 : Int64) + ((p3 &&& (9223372036854775807 : Int64)) % (9223372036854775807 : Int64))) := ⟨_, rfl⟩
      have g29 : ∀ t, FS p e below T22 m 133 #[oj p1, vS, oj p2, vS, oj p3, vS, oj p4, vS, oi p5, oj p6, vS, oj q1, vS, oa b2, oj (0 : Int64), vS, oj q1, vS, oi (1 : Int32), vU, vU, vU, vU] [(.long q2)] t → ES p e below s₁ m #[(.long p1), (.long p2), (.long p3), (.long p4), (.int p5), (.long p6)] maxLocals t := by
        intro t k
        rw [hv_q2] at k
        refine g25 t ?_
        show FS p e below T22 m 103 #[oj p1, vS, oj p2, vS, oj p3, vS, oj p4, vS, oi p5, oj p6, vS, oj q1, vS, oa b2, oj (0 : Int64), vS, oj q1, vS, oi (1 : Int32), vU, vU, vU, vU] [(.int (p5 &&& (4 : Int32)))] _
        refine XS.ifNo X22.here hx rfl (hb hby at_103) rfl ((if0 _ _).trans (feq hc24).1) ?_
        refine XS.lload X22.here hx rfl (hb hby at_106) rfl ?_
        refine X22.ldc2Long hx hown (mvT hZ (own_w hw 0 rfl)) (g := (mkF m 108 #[oj p1, vS, oj p2, vS, oj p3, vS, oj p4, vS, oi p5, oj p6, vS, oj q1, vS, oa b2, oj (0 : Int64), vS, oj q1, vS, oi (1 : Int32), vU, vU, vU, vU] [(.long (0 : Int64))])) rfl (hb hby at_108) _ ?_
        refine XS.lcmp X22.here hx rfl (hb hby at_111) rfl ?_
        refine XS.ifNo X22.here hx rfl (hb hby at_112) rfl ((if0 _ _).trans (tlt ((lw_lt _ _).mpr hc28)).2.1) ?_
        refine XS.lload X22.here hx rfl (hb hby at_115) rfl ?_
        refine XS.lconst X22.here hx rfl (hb hby at_117) ?_
        show FS p e below T22 m 118 #[oj p1, vS, oj p2, vS, oj p3, vS, oj p4, vS, oi p5, oj p6, vS, oj q1, vS, oa b2, oj (0 : Int64), vS, oj q1, vS, oi (1 : Int32), vU, vU, vU, vU] [(.long (1 : Int64)), (.long (0 : Int64))] _
        refine XS.ladd X22.here hx rfl (hb hby at_118) rfl ?_
        rw [show ((0 : Int64) + (1 : Int64)) = (1 : Int64) from by decide]
        show FS p e below T22 m 119 #[oj p1, vS, oj p2, vS, oj p3, vS, oj p4, vS, oi p5, oj p6, vS, oj q1, vS, oa b2, oj (0 : Int64), vS, oj q1, vS, oi (1 : Int32), vU, vU, vU, vU] [(.long (1 : Int64))] _
        refine XS.lload X22.here hx rfl (hb hby at_119) rfl ?_
        refine X22.ldc2Long hx hown (mvT hZ (own_w hw 0 rfl)) (g := (mkF m 121 #[oj p1, vS, oj p2, vS, oj p3, vS, oj p4, vS, oi p5, oj p6, vS, oj q1, vS, oa b2, oj (0 : Int64), vS, oj q1, vS, oi (1 : Int32), vU, vU, vU, vU] [(.long p3), (.long (1 : Int64))])) rfl (hb hby at_121) _ ?_
        refine XS.land X22.here hx rfl (hb hby at_124) rfl ?_
        refine X22.ldc2Long hx hown (mvT hZ (own_w hw 0 rfl)) (g := (mkF m 125 #[oj p1, vS, oj p2, vS, oj p3, vS, oj p4, vS, oi p5, oj p6, vS, oj q1, vS, oa b2, oj (0 : Int64), vS, oj q1, vS, oi (1 : Int32), vU, vU, vU, vU] [(.long (p3 &&& (9223372036854775807 : Int64))), (.long (1 : Int64))])) rfl (hb hby at_125) _ ?_
        refine XS.lload X22.here hx rfl (hb hby at_128) rfl ?_
        show FS p e below T22 m 130 #[oj p1, vS, oj p2, vS, oj p3, vS, oj p4, vS, oi p5, oj p6, vS, oj q1, vS, oa b2, oj (0 : Int64), vS, oj q1, vS, oi (1 : Int32), vU, vU, vU, vU] [(.long (0 : Int64)), (.long (9223372036854775807 : Int64)), (.long (p3 &&& (9223372036854775807 : Int64))), (.long (1 : Int64))] _
        refine XS.lsub X22.here hx rfl (hb hby at_130) rfl ?_
        rw [show ((9223372036854775807 : Int64) - (0 : Int64)) = (9223372036854775807 : Int64) from by decide]
        show FS p e below T22 m 131 #[oj p1, vS, oj p2, vS, oj p3, vS, oj p4, vS, oi p5, oj p6, vS, oj q1, vS, oa b2, oj (0 : Int64), vS, oj q1, vS, oi (1 : Int32), vU, vU, vU, vU] [(.long (9223372036854775807 : Int64)), (.long (p3 &&& (9223372036854775807 : Int64))), (.long (1 : Int64))] _
        refine XS.lrem X22.here hx rfl (hb hby at_131) rfl (by decide) ?_
        rw [lrem_mod]
        refine XS.ladd X22.here hx rfl (hb hby at_132) rfl ?_
        exact k
      obtain ⟨LL30, XL30, NL30⟩ : ∃ LL : List Loc, Stand p l e room_1 s m #[(.long p1), (.long p2), (.long p3), (.long p4), (.int p5), (.long p6)] below meth c T22 LL 2 17 ∧ Fr n0 LL := ⟨_, X22, N22⟩
      obtain ⟨_, _, ⟨T31, L31, k31, n31⟩, -, X31, ⟨Lc31, hQ31, l31, y31, z31⟩, st31⟩ := Jvm.LawKit.callS XL30 hx (y := own_y28) hown (mvT hZ (own_w hw 5 rfl)) (mvT hZ (own_w hw 6 rfl)) (mvT hZ (own_w hw 7 rfl)) (mvT hZ (own_w hw 8 rfl)) (by decide) (backOf (W := 1) (rmA33 l Z a0 hw [] (q2)  zr zm ps ng zk T12.heap n0 o21 G0   ) hZ (own_w hw 8 rfl) (own_w hw 7 rfl) (by decide) (by decide)) (g := (mkF m 139 #[oj p1, vS, oj p2, vS, oj p3, vS, oj p4, vS, oi p5, oj p6, vS, oj q1, vS, oa b2, oj (0 : Int64), vS, oj q1, vS, oi (1 : Int32), oj q2, vS, vU, vU] [(.long q2), (.ref b2)])) rfl (by rw [hml]; rfl) (argsL := [(.long q2)]) (rest := [(.ref b2)]) (lenOf own_pd22 rfl) rfl (own_W0 rfl) (hb hby at_139) (fun _ _ => ⟨rfl, e22, (by decide : 2 + 1 ≤ _), (by decide : 17 + 12 ≤ _)⟩)
      dsimp only [Pt.U, Pt.locs, Pt.cells, Pt.slots] at X31 l31 y31 z31 st31 hQ31
      subst l31 y31 z31
      obtain ⟨rq31, rfl, Nq31, K31, Ne31, Nf31⟩ := hQ31
      have N31 := Fr.app NL30 Nq31
      have f32 := (Oe12.keep K31)
      have f33 := (Ocan12.keep K31 nin0)
      have f34 := (Ocum12.keep K31 nin0)
      have f35 := (Onot12.keep K31 nin0)
      have f36 := (Oreq12.keep K31 nin0)
      have o37 : Old Z n0 T31.heap := (Old.keep o21 K31 all0)
      obtain ⟨cq38, kq38, q38a, q38b, q38c⟩ := isOf hZ rfl f32
      obtain ⟨_, _, ⟨T38, L38, k38, n38⟩, -, X38, ⟨Lc38, hQ38, l38, y38, z38⟩, st38⟩ := X31.virtualBack hx (y := own_y32) (z := own_y32) hown (mvT hZ (own_w hw 148 rfl)) (mvT hZ (own_w hw 149 rfl)) (notFace_of_selects (args := #[]) (mvT hZ (own_w hw 151 rfl))) (mvT hZ (own_w hw 151 rfl)) (mvT hZ (own_w hw 150 rfl)) (by decide) (backOf (W := 0) (rmA38 l Z a0 hw [] b2 rq4 rq31  zr zm ps ng zk T31.heap n0 o37 G0 f32 f33 f34 f35 f36 gz_b2 ) hZ (own_w hw 152 rfl) (own_w hw 3 rfl) (by decide) (by decide)) q38a q38c (g := (mkF m 142 #[oj p1, vS, oj p2, vS, oj p3, vS, oj p4, vS, oi p5, oj p6, vS, oj q1, vS, oa b2, oj (0 : Int64), vS, oj q1, vS, oi (1 : Int32), oj q2, vS, vU, vU] [(.ref rq31), (.ref b2)])) rfl (by rw [hml]; rfl) (Steps.refl _) (argsL := [(.ref rq31)]) (rest := []) (lenOf own_pd24 rfl) rfl (own_W0 rfl) (hb hby at_142) (fun _ _ => ⟨rfl, rfl, (by decide : 3 + 0 ≤ _), (by decide : 29 + 0 ≤ _)⟩)
      dsimp only [Pt.U, Pt.locs, Pt.cells, Pt.slots] at X38 l38 y38 z38 st38 hQ38
      subst l38 y38 z38
      obtain ⟨rfl, Nq38, K38, Oe38, Ocum38, Oreq38, Ocan38, Onot38⟩ := hQ38
      have N38 := Fr.app N31 Nq38
      have f39 := (Ne31.keep K38)
      have f40 := (Nf31.keep K38 (ninS (Exa.ne Ne31 f32 (by decide)) nin0))
      have o41 : Old Z n0 T38.heap := (Old.keep o37 K38 (allS gz_b2 all0))
      obtain ⟨cq42, kq42, q42a, q42b, q42c⟩ := isOf hZ rfl Oe38
      obtain ⟨_, _, ⟨T42, L42, k42, n42⟩, -, X42, ⟨Lc42, hQ42, l42, y42, z42⟩, st42⟩ := X38.virtualBack hx (y := own_y1) (z := own_y1) hown (mvT hZ (own_w hw 136 rfl)) (mvT hZ (own_w hw 137 rfl)) (notFace_of_selects (args := #[]) (mvT hZ (own_w hw 139 rfl))) (mvT hZ (own_w hw 139 rfl)) (mvT hZ (own_w hw 138 rfl)) (by decide) (backOf (W := 0) (rmA37 l Z a0 hw [] b2 rq31 (q2)  zr zm ps ng zk T38.heap n0 o41 G0 Oe38 Ocan38 Ocum38 f39 f40 Oreq38  ) hZ (own_w hw 140 rfl) (own_w hw 3 rfl) (by decide) (by decide)) q42a q42c (g := (mkF m 156 #[oj p1, vS, oj p2, vS, oj p3, vS, oj p4, vS, oi p5, oj p6, vS, oj q1, vS, oa b2, oj (0 : Int64), vS, oj q2, vS, oi (1 : Int32), oj q2, vS, vU, vU] [(.ref b2)])) rfl (by rw [hml]; rfl) (Steps.refl _) (argsL := []) (rest := []) (lenOf own_pd1 rfl) rfl (own_W0 rfl) (hb hby at_156) (fun _ _ => ⟨rfl, rfl, (by decide : 3 + 0 ≤ _), (by decide : 29 + 0 ≤ _)⟩)
      dsimp only [Pt.U, Pt.locs, Pt.cells, Pt.slots] at X42 l42 y42 z42 st42 hQ42
      subst l42 y42 z42
      obtain ⟨rfl, Nq42, e42⟩ := hQ42
      have N42 := Fr.app N38 Nq42
      have hc43 : (q2 - (0 : Int64)) = (q2 - (0 : Int64)) := rfl
      obtain ⟨op, hv_op⟩ : ∃ z : Int64, z = (q2 - (0 : Int64)) := ⟨_, rfl⟩
      have g44 : ∀ t, FS p e below T42 m 180 #[oj p1, vS, oj p2, vS, oj p3, vS, oj p4, vS, oi p5, oj p6, vS, oj q1, vS, oa b2, oj (0 : Int64), vS, oj q2, vS, oi (1 : Int32), oj q2, vS, vU, vU] [(.long op)] t → ES p e below s₁ m #[(.long p1), (.long p2), (.long p3), (.long p4), (.int p5), (.long p6)] maxLocals t := by
        intro t k
        rw [hv_op] at k
        refine g29 t ?_
        show FS p e below T22 m 133 #[oj p1, vS, oj p2, vS, oj p3, vS, oj p4, vS, oi p5, oj p6, vS, oj q1, vS, oa b2, oj (0 : Int64), vS, oj q1, vS, oi (1 : Int32), vU, vU, vU, vU] [(.long q2)] _
        refine XS.lstore X22.here hx rfl (hb hby at_133) rfl (l' := #[oj p1, vS, oj p2, vS, oj p3, vS, oj p4, vS, oi p5, oj p6, vS, oj q1, vS, oa b2, oj (0 : Int64), vS, oj q1, vS, oi (1 : Int32), oj q2, vS, vU, vU]) rfl ?_
        refine XS.aload X22.here hx rfl (hb hby at_135) rfl rfl ?_
        refine XS.lload X22.here hx rfl (hb hby at_137) rfl ?_
        refine st31 _ ?_
        refine st38.trans ?_
        refine XS.lload X38.here hx rfl (hb hby at_145) rfl ?_
        refine XS.lstore X38.here hx rfl (hb hby at_147) rfl (l' := #[oj p1, vS, oj p2, vS, oj p3, vS, oj p4, vS, oi p5, oj p6, vS, oj q1, vS, oa b2, oj (0 : Int64), vS, oj q2, vS, oi (1 : Int32), oj q2, vS, vU, vU]) rfl ?_
        refine XS.iload X38.here hx rfl (hb hby at_149) rfl ?_
        show FS p e below T38 m 151 #[oj p1, vS, oj p2, vS, oj p3, vS, oj p4, vS, oi p5, oj p6, vS, oj q1, vS, oa b2, oj (0 : Int64), vS, oj q2, vS, oi (1 : Int32), oj q2, vS, vU, vU] [(.int (1 : Int32))] _
        refine XS.ifNo X38.here hx rfl (hb hby at_151) rfl ((if0 _ _).trans (feq (by decide : ¬ ((1 : Int32) = (0 : Int32)))).1) ?_
        refine XS.aload X38.here hx rfl (hb hby at_154) rfl rfl ?_
        refine st42.trans ?_
        refine XS.lload X42.here hx rfl (hb hby at_159) rfl ?_
        refine XS.lload X42.here hx rfl (hb hby at_161) rfl ?_
        refine XS.lsub X42.here hx rfl (hb hby at_163) rfl ?_
        refine XS.lcmp X42.here hx rfl (hb hby at_164) rfl ?_
        refine XS.ifNo X42.here hx rfl (hb hby at_165) rfl ((if0 _ _).trans (teq ((lw_eq _ _).mpr hc43)).2) ?_
        show FS p e below T42 m 168 #[oj p1, vS, oj p2, vS, oj p3, vS, oj p4, vS, oi p5, oj p6, vS, oj q1, vS, oa b2, oj (0 : Int64), vS, oj q2, vS, oi (1 : Int32), oj q2, vS, vU, vU] [] _
        refine XS.iconst X42.here hx rfl (hb hby at_168) ?_
        refine XS.goto X42.here hx rfl (pc0 := 169) (pc' := 173) rfl (hb hby at_169) (by decide) (by decide) ?_
        refine XS.istore X42.here hx rfl (hb hby at_173) rfl (l' := #[oj p1, vS, oj p2, vS, oj p3, vS, oj p4, vS, oi p5, oj p6, vS, oj q1, vS, oa b2, oj (0 : Int64), vS, oj q2, vS, oi (1 : Int32), oj q2, vS, vU, vU]) rfl ?_
        refine XS.lload X42.here hx rfl (hb hby at_175) rfl ?_
        refine XS.lload X42.here hx rfl (hb hby at_177) rfl ?_
        refine XS.lsub X42.here hx rfl (hb hby at_179) rfl ?_
        exact k
      have g45 : ∀ t, FS p e below T42 m 182 #[oj p1, vS, oj p2, vS, oj p3, vS, oj p4, vS, oi p5, oj p6, vS, oj q1, vS, oa b2, oj (0 : Int64), vS, oj q2, vS, oi (1 : Int32), oj op, vS, vU, vU] [] t → ES p e below s₁ m #[(.long p1), (.long p2), (.long p3), (.long p4), (.int p5), (.long p6)] maxLocals t := by
        intro t k
        refine g44 t ?_
        show FS p e below T42 m 180 #[oj p1, vS, oj p2, vS, oj p3, vS, oj p4, vS, oi p5, oj p6, vS, oj q1, vS, oa b2, oj (0 : Int64), vS, oj q2, vS, oi (1 : Int32), oj q2, vS, vU, vU] [(.long op)] _
        refine XS.lstore X42.here hx rfl (hb hby at_180) rfl (l' := #[oj p1, vS, oj p2, vS, oj p3, vS, oj p4, vS, oi p5, oj p6, vS, oj q1, vS, oa b2, oj (0 : Int64), vS, oj q2, vS, oi (1 : Int32), oj op, vS, vU, vU]) rfl ?_
        exact k
      exact own_t182 p1 p2 p3 p4 p5 p6 q1 ((0 : Int64)) (q2) op b2 rq31 zr zm zk ((0 : Int32)) ((0 : Int32)) [] sn zr zm ps ng zk (X42.mono (by decide) (by decide)) hx hZ hw hby hml hown e42 o41 N42 Bd.returns Bd.notSynchronized G0 Oe38 Ocum38 Oreq38 Ocan38 Onot38 f39 f40 (E_Z.ext o41.2) (F_Zs.ext o41.2) (F_Zm.ext o41.2) (V_Z.ext o41.2) (Or.inl rfl) hsn hsp gz_b2 g45
  · have hc46 : ¬ ((p5 &&& (1 : Int32)) = (0 : Int32)) := fun q => hf13 (Or.inl q)
    have hc47 : (0 : Int64) < q1 := Classical.not_not.mp fun q => hf13 (Or.inr q)
    obtain ⟨f1, hv_f1⟩ : ∃ z : Int64, z = ((1 : Int64) + ((p2 &&& (9223372036854775807 : Int64)) % q1)) := ⟨_, rfl⟩
    have g48 : ∀ t, FS p e below T12 m 58 #[oj p1, vS, oj p2, vS, oj p3, vS, oj p4, vS, oi p5, oj p6, vS, oj q1, vS, oa b2, oj (0 : Int64), vS, oj q1, vS, oi (1 : Int32), vU, vU, vU, vU] [(.long f1)] t → ES p e below s₁ m #[(.long p1), (.long p2), (.long p3), (.long p4), (.int p5), (.long p6)] maxLocals t := by
      intro t k
      rw [hv_f1] at k
      refine g14 t ?_
      show FS p e below T12 m 34 #[oj p1, vS, oj p2, vS, oj p3, vS, oj p4, vS, oi p5, oj p6, vS, oj q1, vS, oa b2, oj (0 : Int64), vS, oj q1, vS, oi (1 : Int32), vU, vU, vU, vU] [] _
      refine XS.iload X12.here hx rfl (hb hby at_34) rfl ?_
      refine XS.iconst X12.here hx rfl (hb hby at_36) ?_
      refine XS.iand X12.here hx rfl (hb hby at_37) rfl ?_
      refine XS.ifNo X12.here hx rfl (hb hby at_38) rfl ((if0 _ _).trans (feq hc46).1) ?_
      refine XS.lload X12.here hx rfl (hb hby at_41) rfl ?_
      refine XS.lconst X12.here hx rfl (hb hby at_43) ?_
      refine XS.lcmp X12.here hx rfl (hb hby at_44) rfl ?_
      refine XS.ifNo X12.here hx rfl (hb hby at_45) rfl ((if0 _ _).trans (tlt ((lw_gt _ _).mpr hc47)).2.2.2) ?_
      show FS p e below T12 m 48 #[oj p1, vS, oj p2, vS, oj p3, vS, oj p4, vS, oi p5, oj p6, vS, oj q1, vS, oa b2, oj (0 : Int64), vS, oj q1, vS, oi (1 : Int32), vU, vU, vU, vU] [] _
      refine XS.lconst X12.here hx rfl (hb hby at_48) ?_
      refine XS.lloadN X12.here hx rfl (hb hby at_49) rfl ?_
      refine X12.ldc2Long hx hown (mvT hZ (own_w hw 0 rfl)) (g := (mkF m 50 #[oj p1, vS, oj p2, vS, oj p3, vS, oj p4, vS, oi p5, oj p6, vS, oj q1, vS, oa b2, oj (0 : Int64), vS, oj q1, vS, oi (1 : Int32), vU, vU, vU, vU] [(.long p2), (.long (1 : Int64))])) rfl (hb hby at_50) _ ?_
      refine XS.land X12.here hx rfl (hb hby at_53) rfl ?_
      refine XS.lload X12.here hx rfl (hb hby at_54) rfl ?_
      show FS p e below T12 m 56 #[oj p1, vS, oj p2, vS, oj p3, vS, oj p4, vS, oi p5, oj p6, vS, oj q1, vS, oa b2, oj (0 : Int64), vS, oj q1, vS, oi (1 : Int32), vU, vU, vU, vU] [(.long q1), (.long (p2 &&& (9223372036854775807 : Int64))), (.long (1 : Int64))] _
      refine XS.lrem X12.here hx rfl (hb hby at_56) rfl (own_nz64 hc47) ?_
      rw [lrem_mod]
      refine XS.ladd X12.here hx rfl (hb hby at_57) rfl ?_
      exact k
    have o49 : Old Z n0 T12.heap := (Old.keep o11 K12 (allS gz_b2 all0))
    obtain ⟨cq50, kq50, q50a, q50b, q50c⟩ := isOf hZ rfl Oe12
    obtain ⟨_, _, ⟨T50, L50, k50, n50⟩, -, X50, ⟨Lc50, hQ50, l50, y50, z50⟩, st50⟩ := X12.virtualBack hx (y := own_y2) (z := own_y2) hown (mvT hZ (own_w hw 59 rfl)) (mvT hZ (own_w hw 60 rfl)) (notFace_of_selects (args := #[]) (mvT hZ (own_w hw 62 rfl))) (mvT hZ (own_w hw 62 rfl)) (mvT hZ (own_w hw 61 rfl)) (by decide) (backOf (W := 0) (rmA39 l Z a0 hw [] b2 ((0 : Int64)) rq4 (f1) (p6) (f1) sn zr zm ps ng zk T12.heap n0 o49 G0 Oe12 Ocan12 Ocum12 Onot12 Oreq12 gz_b2 (Int64.zero_add _) (own_f hv_f1 hc47) hsn hsp) hZ (own_w hw 63 rfl) (own_w hw 3 rfl) (by decide) (by decide)) q50a q50c (g := (mkF m 66 #[oj p1, vS, oj p2, vS, oj p3, vS, oj p4, vS, oi p5, oj p6, vS, oj q1, vS, oa b2, oj (0 : Int64), vS, oj q1, vS, oi (1 : Int32), oj f1, vS, vU, vU] [(.long p6), (.long f1), (.ref b2)])) rfl (by rw [hml]; rfl) (Steps.refl _) (argsL := [(.long f1), (.long p6)]) (rest := []) (lenOf own_pd20 rfl) rfl (own_W0 rfl) (hb hby at_66) (fun _ _ => ⟨rfl, rfl, (by decide : 2 + 7 ≤ _), (by decide : 17 + 30 ≤ _)⟩)
    dsimp only [Pt.U, Pt.locs, Pt.cells, Pt.slots] at X50 l50 y50 z50 st50 hQ50
    subst l50 y50 z50
    obtain ⟨rfl, Nq50, K50, rb50, rm50, rk50, rz50, rs50, rl50, Oe50, Ocum50, Oreq50, Ocan50, Onot50, Qe50, Qs50, Qm50, Qa50, Qc50⟩ := hQ50
    have N50 := Fr.app N12 Nq50
    obtain ⟨LL51, XL51, NL51⟩ : ∃ LL : List Loc, Stand p l e room_1 s m #[(.long p1), (.long p2), (.long p3), (.long p4), (.int p5), (.long p6)] below meth c T50 LL 9 47 ∧ Fr n0 LL := ⟨_, X50, N50⟩
    have f52 := ((Ne4.keep K12).keep K50)
    have f53 := ((Nf4.keep K12 (ninS (Exa.ne Ne4 f5 (by decide)) nin0)).keep K50 (ninS (Exa.ne (Ne4.keep K12) Oe12 (by decide)) nin0))
    have o54 : Old Z n0 T50.heap := (Old.keep o49 K50 (allS gz_b2 all0))
    obtain ⟨cq55, kq55, q55a, q55b, q55c⟩ := isOf hZ rfl Oe50
    obtain ⟨_, _, ⟨T55, L55, k55, n55⟩, -, X55, ⟨Lc55, hQ55, l55, y55, z55⟩, st55⟩ := XL51.virtualBack hx (y := own_y1) (z := own_y1) hown (mvT hZ (own_w hw 136 rfl)) (mvT hZ (own_w hw 137 rfl)) (notFace_of_selects (args := #[]) (mvT hZ (own_w hw 139 rfl))) (mvT hZ (own_w hw 139 rfl)) (mvT hZ (own_w hw 138 rfl)) (by decide) (backOf (W := 0) (rmA31 l Z a0 hw [] b2 (f1) rq4 (q1)  zr zm ps ng zk T50.heap n0 o54 G0 Oe50 Ocan50 Ocum50 f52 f53 Oreq50  ) hZ (own_w hw 140 rfl) (own_w hw 3 rfl) (by decide) (by decide)) q55a q55c (g := (mkF m 80 #[oj p1, vS, oj p2, vS, oj p3, vS, oj p4, vS, oi p5, oj p6, vS, oj q1, vS, oa b2, oj f1, vS, oj q1, vS, oi (1 : Int32), oj f1, vS, vU, vU] [(.ref b2)])) rfl (by rw [hml]; rfl) (Steps.refl _) (argsL := []) (rest := []) (lenOf own_pd1 rfl) rfl (own_W0 rfl) (hb hby at_80) (fun _ _ => ⟨rfl, rfl, (by decide : 9 + 0 ≤ _), (by decide : 47 + 0 ≤ _)⟩)
    dsimp only [Pt.U, Pt.locs, Pt.cells, Pt.slots] at X55 l55 y55 z55 st55 hQ55
    subst l55 y55 z55
    obtain ⟨rfl, Nq55, e55⟩ := hQ55
    have N55 := Fr.app NL51 Nq55
    have hc56 : (q1 - f1) = (q1 - f1) := rfl
    have g58 : ∀ t, FS p e below T55 m 99 #[oj p1, vS, oj p2, vS, oj p3, vS, oj p4, vS, oi p5, oj p6, vS, oj q1, vS, oa b2, oj f1, vS, oj q1, vS, oi (1 : Int32), oj f1, vS, vU, vU] [] t → ES p e below s₁ m #[(.long p1), (.long p2), (.long p3), (.long p4), (.int p5), (.long p6)] maxLocals t := by
      intro t k
      refine g48 t ?_
      show FS p e below T12 m 58 #[oj p1, vS, oj p2, vS, oj p3, vS, oj p4, vS, oi p5, oj p6, vS, oj q1, vS, oa b2, oj (0 : Int64), vS, oj q1, vS, oi (1 : Int32), vU, vU, vU, vU] [(.long f1)] _
      refine XS.lstore X12.here hx rfl (hb hby at_58) rfl (l' := #[oj p1, vS, oj p2, vS, oj p3, vS, oj p4, vS, oi p5, oj p6, vS, oj q1, vS, oa b2, oj (0 : Int64), vS, oj q1, vS, oi (1 : Int32), oj f1, vS, vU, vU]) rfl ?_
      refine XS.aload X12.here hx rfl (hb hby at_60) rfl rfl ?_
      refine XS.lload X12.here hx rfl (hb hby at_62) rfl ?_
      refine XS.lload X12.here hx rfl (hb hby at_64) rfl ?_
      refine st50.trans ?_
      refine XS.lload X50.here hx rfl (hb hby at_69) rfl ?_
      refine XS.lstore X50.here hx rfl (hb hby at_71) rfl (l' := #[oj p1, vS, oj p2, vS, oj p3, vS, oj p4, vS, oi p5, oj p6, vS, oj q1, vS, oa b2, oj f1, vS, oj q1, vS, oi (1 : Int32), oj f1, vS, vU, vU]) rfl ?_
      refine XS.iload X50.here hx rfl (hb hby at_73) rfl ?_
      show FS p e below T50 m 75 #[oj p1, vS, oj p2, vS, oj p3, vS, oj p4, vS, oi p5, oj p6, vS, oj q1, vS, oa b2, oj f1, vS, oj q1, vS, oi (1 : Int32), oj f1, vS, vU, vU] [(.int (1 : Int32))] _
      refine XS.ifNo X50.here hx rfl (hb hby at_75) rfl ((if0 _ _).trans (feq (by decide : ¬ ((1 : Int32) = (0 : Int32)))).1) ?_
      refine XS.aload X50.here hx rfl (hb hby at_78) rfl rfl ?_
      refine st55.trans ?_
      refine XS.lload X55.here hx rfl (hb hby at_83) rfl ?_
      refine XS.lload X55.here hx rfl (hb hby at_85) rfl ?_
      refine XS.lsub X55.here hx rfl (hb hby at_87) rfl ?_
      refine XS.lcmp X55.here hx rfl (hb hby at_88) rfl ?_
      refine XS.ifNo X55.here hx rfl (hb hby at_89) rfl ((if0 _ _).trans (teq ((lw_eq _ _).mpr hc56)).2) ?_
      show FS p e below T55 m 92 #[oj p1, vS, oj p2, vS, oj p3, vS, oj p4, vS, oi p5, oj p6, vS, oj q1, vS, oa b2, oj f1, vS, oj q1, vS, oi (1 : Int32), oj f1, vS, vU, vU] [] _
      refine XS.iconst X55.here hx rfl (hb hby at_92) ?_
      refine XS.goto X55.here hx rfl (pc0 := 93) (pc' := 97) rfl (hb hby at_93) (by decide) (by decide) ?_
      refine XS.istore X55.here hx rfl (hb hby at_97) rfl (l' := #[oj p1, vS, oj p2, vS, oj p3, vS, oj p4, vS, oi p5, oj p6, vS, oj q1, vS, oa b2, oj f1, vS, oj q1, vS, oi (1 : Int32), oj f1, vS, vU, vU]) rfl ?_
      exact k
    by_cases hf57 : ((p5 &&& (4 : Int32)) = (0 : Int32) ∨ ¬ (f1 < (9223372036854775807 : Int64)))
    · have g59 : ∀ t, FS p e below T55 m 103 #[oj p1, vS, oj p2, vS, oj p3, vS, oj p4, vS, oi p5, oj p6, vS, oj q1, vS, oa b2, oj f1, vS, oj q1, vS, oi (1 : Int32), oj f1, vS, vU, vU] [(.int (p5 &&& (4 : Int32)))] t → ES p e below s₁ m #[(.long p1), (.long p2), (.long p3), (.long p4), (.int p5), (.long p6)] maxLocals t := by
        intro t k
        refine g58 t ?_
        show FS p e below T55 m 99 #[oj p1, vS, oj p2, vS, oj p3, vS, oj p4, vS, oi p5, oj p6, vS, oj q1, vS, oa b2, oj f1, vS, oj q1, vS, oi (1 : Int32), oj f1, vS, vU, vU] [] _
        refine XS.iload X55.here hx rfl (hb hby at_99) rfl ?_
        refine XS.iconst X55.here hx rfl (hb hby at_101) ?_
        refine XS.iand X55.here hx rfl (hb hby at_102) rfl ?_
        exact k
      have g62 : ∀ t, FS p e below T55 m 175 #[oj p1, vS, oj p2, vS, oj p3, vS, oj p4, vS, oi p5, oj p6, vS, oj q1, vS, oa b2, oj f1, vS, oj q1, vS, oi (1 : Int32), oj f1, vS, vU, vU] [] t → ES p e below s₁ m #[(.long p1), (.long p2), (.long p3), (.long p4), (.int p5), (.long p6)] maxLocals t := by
        intro t k
        by_cases hc60 : (p5 &&& (4 : Int32)) = (0 : Int32)
        · skip
          refine g59 t ?_
          show FS p e below T55 m 103 #[oj p1, vS, oj p2, vS, oj p3, vS, oj p4, vS, oi p5, oj p6, vS, oj q1, vS, oa b2, oj f1, vS, oj q1, vS, oi (1 : Int32), oj f1, vS, vU, vU] [(.int (p5 &&& (4 : Int32)))] _
          refine XS.ifYes X55.here hx rfl (pc0 := 103) (pc' := 175) rfl (hb hby at_103) rfl ((if0 _ _).trans (teq hc60).1) (by decide) (by decide) ?_
          exact k
        · skip
          have hc61 : ¬ (f1 < (9223372036854775807 : Int64)) := hf57.resolve_left hc60
          refine g59 t ?_
          show FS p e below T55 m 103 #[oj p1, vS, oj p2, vS, oj p3, vS, oj p4, vS, oi p5, oj p6, vS, oj q1, vS, oa b2, oj f1, vS, oj q1, vS, oi (1 : Int32), oj f1, vS, vU, vU] [(.int (p5 &&& (4 : Int32)))] _
          refine XS.ifNo X55.here hx rfl (hb hby at_103) rfl ((if0 _ _).trans (feq hc60).1) ?_
          refine XS.lload X55.here hx rfl (hb hby at_106) rfl ?_
          refine X55.ldc2Long hx hown (mvT hZ (own_w hw 0 rfl)) (g := (mkF m 108 #[oj p1, vS, oj p2, vS, oj p3, vS, oj p4, vS, oi p5, oj p6, vS, oj q1, vS, oa b2, oj f1, vS, oj q1, vS, oi (1 : Int32), oj f1, vS, vU, vU] [(.long f1)])) rfl (hb hby at_108) _ ?_
          refine XS.lcmp X55.here hx rfl (hb hby at_111) rfl ?_
          refine XS.ifYes X55.here hx rfl (pc0 := 112) (pc' := 175) rfl (hb hby at_112) rfl ((if0 _ _).trans (flt (fun q => hc61 ((lw_lt _ _).mp q))).2.1) (by decide) (by decide) ?_
          exact k
      obtain ⟨op, hv_op⟩ : ∃ z : Int64, z = (q1 - f1) := ⟨_, rfl⟩
      have g63 : ∀ t, FS p e below T55 m 180 #[oj p1, vS, oj p2, vS, oj p3, vS, oj p4, vS, oi p5, oj p6, vS, oj q1, vS, oa b2, oj f1, vS, oj q1, vS, oi (1 : Int32), oj f1, vS, vU, vU] [(.long op)] t → ES p e below s₁ m #[(.long p1), (.long p2), (.long p3), (.long p4), (.int p5), (.long p6)] maxLocals t := by
        intro t k
        rw [hv_op] at k
        refine g62 t ?_
        show FS p e below T55 m 175 #[oj p1, vS, oj p2, vS, oj p3, vS, oj p4, vS, oi p5, oj p6, vS, oj q1, vS, oa b2, oj f1, vS, oj q1, vS, oi (1 : Int32), oj f1, vS, vU, vU] [] _
        refine XS.lload X55.here hx rfl (hb hby at_175) rfl ?_
        refine XS.lload X55.here hx rfl (hb hby at_177) rfl ?_
        refine XS.lsub X55.here hx rfl (hb hby at_179) rfl ?_
        exact k
      have g64 : ∀ t, FS p e below T55 m 182 #[oj p1, vS, oj p2, vS, oj p3, vS, oj p4, vS, oi p5, oj p6, vS, oj q1, vS, oa b2, oj f1, vS, oj q1, vS, oi (1 : Int32), oj op, vS, vU, vU] [] t → ES p e below s₁ m #[(.long p1), (.long p2), (.long p3), (.long p4), (.int p5), (.long p6)] maxLocals t := by
        intro t k
        refine g63 t ?_
        show FS p e below T55 m 180 #[oj p1, vS, oj p2, vS, oj p3, vS, oj p4, vS, oi p5, oj p6, vS, oj q1, vS, oa b2, oj f1, vS, oj q1, vS, oi (1 : Int32), oj f1, vS, vU, vU] [(.long op)] _
        refine XS.lstore X55.here hx rfl (hb hby at_180) rfl (l' := #[oj p1, vS, oj p2, vS, oj p3, vS, oj p4, vS, oi p5, oj p6, vS, oj q1, vS, oa b2, oj f1, vS, oj q1, vS, oi (1 : Int32), oj op, vS, vU, vU]) rfl ?_
        exact k
      exact own_t182 p1 p2 p3 p4 p5 p6 q1 (f1) (q1) op b2 rq4 rb50 rm50 rk50 (rz50) (rs50) rl50 sn zr zm ps ng zk (X55.mono (by decide) (by decide)) hx hZ hw hby hml hown e55 o54 N55 Bd.returns Bd.notSynchronized G0 Oe50 Ocum50 Oreq50 Ocan50 Onot50 f52 f53 Qe50 Qs50 Qm50 Qa50 Qc50 hsn hsp gz_b2 g64
    · have hc65 : ¬ ((p5 &&& (4 : Int32)) = (0 : Int32)) := fun q => hf57 (Or.inl q)
      have hc66 : f1 < (9223372036854775807 : Int64) := Classical.not_not.mp fun q => hf57 (Or.inr q)
      obtain ⟨q2, hv_q2⟩ : ∃ z : Int64, z = ((f1 + (1 : Int64)) + ((p3 &&& (9223372036854775807 : Int64)) % ((9223372036854775807 : Int64) - f1))) := ⟨_, rfl⟩
      have g67 : ∀ t, FS p e below T55 m 133 #[oj p1, vS, oj p2, vS, oj p3, vS, oj p4, vS, oi p5, oj p6, vS, oj q1, vS, oa b2, oj f1, vS, oj q1, vS, oi (1 : Int32), oj f1, vS, vU, vU] [(.long q2)] t → ES p e below s₁ m #[(.long p1), (.long p2), (.long p3), (.long p4), (.int p5), (.long p6)] maxLocals t := by
        intro t k
        rw [hv_q2] at k
        refine g58 t ?_
        show FS p e below T55 m 99 #[oj p1, vS, oj p2, vS, oj p3, vS, oj p4, vS, oi p5, oj p6, vS, oj q1, vS, oa b2, oj f1, vS, oj q1, vS, oi (1 : Int32), oj f1, vS, vU, vU] [] _
        refine XS.iload X55.here hx rfl (hb hby at_99) rfl ?_
        refine XS.iconst X55.here hx rfl (hb hby at_101) ?_
        refine XS.iand X55.here hx rfl (hb hby at_102) rfl ?_
        refine XS.ifNo X55.here hx rfl (hb hby at_103) rfl ((if0 _ _).trans (feq hc65).1) ?_
        refine XS.lload X55.here hx rfl (hb hby at_106) rfl ?_
        refine X55.ldc2Long hx hown (mvT hZ (own_w hw 0 rfl)) (g := (mkF m 108 #[oj p1, vS, oj p2, vS, oj p3, vS, oj p4, vS, oi p5, oj p6, vS, oj q1, vS, oa b2, oj f1, vS, oj q1, vS, oi (1 : Int32), oj f1, vS, vU, vU] [(.long f1)])) rfl (hb hby at_108) _ ?_
        refine XS.lcmp X55.here hx rfl (hb hby at_111) rfl ?_
        refine XS.ifNo X55.here hx rfl (hb hby at_112) rfl ((if0 _ _).trans (tlt ((lw_lt _ _).mpr hc66)).2.1) ?_
        show FS p e below T55 m 115 #[oj p1, vS, oj p2, vS, oj p3, vS, oj p4, vS, oi p5, oj p6, vS, oj q1, vS, oa b2, oj f1, vS, oj q1, vS, oi (1 : Int32), oj f1, vS, vU, vU] [] _
        refine XS.lload X55.here hx rfl (hb hby at_115) rfl ?_
        refine XS.lconst X55.here hx rfl (hb hby at_117) ?_
        refine XS.ladd X55.here hx rfl (hb hby at_118) rfl ?_
        refine XS.lload X55.here hx rfl (hb hby at_119) rfl ?_
        refine X55.ldc2Long hx hown (mvT hZ (own_w hw 0 rfl)) (g := (mkF m 121 #[oj p1, vS, oj p2, vS, oj p3, vS, oj p4, vS, oi p5, oj p6, vS, oj q1, vS, oa b2, oj f1, vS, oj q1, vS, oi (1 : Int32), oj f1, vS, vU, vU] [(.long p3), (.long (f1 + (1 : Int64)))])) rfl (hb hby at_121) _ ?_
        refine XS.land X55.here hx rfl (hb hby at_124) rfl ?_
        refine X55.ldc2Long hx hown (mvT hZ (own_w hw 0 rfl)) (g := (mkF m 125 #[oj p1, vS, oj p2, vS, oj p3, vS, oj p4, vS, oi p5, oj p6, vS, oj q1, vS, oa b2, oj f1, vS, oj q1, vS, oi (1 : Int32), oj f1, vS, vU, vU] [(.long (p3 &&& (9223372036854775807 : Int64))), (.long (f1 + (1 : Int64)))])) rfl (hb hby at_125) _ ?_
        refine XS.lload X55.here hx rfl (hb hby at_128) rfl ?_
        show FS p e below T55 m 130 #[oj p1, vS, oj p2, vS, oj p3, vS, oj p4, vS, oi p5, oj p6, vS, oj q1, vS, oa b2, oj f1, vS, oj q1, vS, oi (1 : Int32), oj f1, vS, vU, vU] [(.long f1), (.long (9223372036854775807 : Int64)), (.long (p3 &&& (9223372036854775807 : Int64))), (.long (f1 + (1 : Int64)))] _
        refine XS.lsub X55.here hx rfl (hb hby at_130) rfl ?_
        show FS p e below T55 m 131 #[oj p1, vS, oj p2, vS, oj p3, vS, oj p4, vS, oi p5, oj p6, vS, oj q1, vS, oa b2, oj f1, vS, oj q1, vS, oi (1 : Int32), oj f1, vS, vU, vU] [(.long ((9223372036854775807 : Int64) - f1)), (.long (p3 &&& (9223372036854775807 : Int64))), (.long (f1 + (1 : Int64)))] _
        refine XS.lrem X55.here hx rfl (hb hby at_131) rfl (own_mx hc66) ?_
        rw [lrem_mod]
        refine XS.ladd X55.here hx rfl (hb hby at_132) rfl ?_
        exact k
      obtain ⟨_, _, ⟨T68, L68, k68, n68⟩, -, X68, ⟨Lc68, hQ68, l68, y68, z68⟩, st68⟩ := Jvm.LawKit.callS X55 hx (y := own_y28) hown (mvT hZ (own_w hw 5 rfl)) (mvT hZ (own_w hw 6 rfl)) (mvT hZ (own_w hw 7 rfl)) (mvT hZ (own_w hw 8 rfl)) (by decide) (backOf (W := 1) (rmA33 l Z a0 hw [] (q2)  zr zm ps ng zk T50.heap n0 o54 G0   ) hZ (own_w hw 8 rfl) (own_w hw 7 rfl) (by decide) (by decide)) (g := (mkF m 139 #[oj p1, vS, oj p2, vS, oj p3, vS, oj p4, vS, oi p5, oj p6, vS, oj q1, vS, oa b2, oj f1, vS, oj q1, vS, oi (1 : Int32), oj q2, vS, vU, vU] [(.long q2), (.ref b2)])) rfl (by rw [hml]; rfl) (argsL := [(.long q2)]) (rest := [(.ref b2)]) (lenOf own_pd22 rfl) rfl (own_W0 rfl) (hb hby at_139) (fun _ _ => ⟨rfl, e55, (by decide : 9 + 1 ≤ _), (by decide : 47 + 12 ≤ _)⟩)
      dsimp only [Pt.U, Pt.locs, Pt.cells, Pt.slots] at X68 l68 y68 z68 st68 hQ68
      subst l68 y68 z68
      obtain ⟨rq68, rfl, Nq68, K68, Ne68, Nf68⟩ := hQ68
      have N68 := Fr.app N55 Nq68
      have f69 := (Oe50.keep K68)
      have f70 := (Ocan50.keep K68 nin0)
      have f71 := (Ocum50.keep K68 nin0)
      have f72 := (Onot50.keep K68 nin0)
      have f73 := (Oreq50.keep K68 nin0)
      have o74 : Old Z n0 T68.heap := (Old.keep o54 K68 all0)
      obtain ⟨cq75, kq75, q75a, q75b, q75c⟩ := isOf hZ rfl f69
      obtain ⟨_, _, ⟨T75, L75, k75, n75⟩, -, X75, ⟨Lc75, hQ75, l75, y75, z75⟩, st75⟩ := X68.virtualBack hx (y := own_y32) (z := own_y32) hown (mvT hZ (own_w hw 148 rfl)) (mvT hZ (own_w hw 149 rfl)) (notFace_of_selects (args := #[]) (mvT hZ (own_w hw 151 rfl))) (mvT hZ (own_w hw 151 rfl)) (mvT hZ (own_w hw 150 rfl)) (by decide) (backOf (W := 0) (rmA41 l Z a0 hw [] b2 (f1) rb50 rq4 rq68  zr zm ps ng zk T68.heap n0 o74 G0 f69 f70 f71 f72 f73 gz_b2 ) hZ (own_w hw 152 rfl) (own_w hw 3 rfl) (by decide) (by decide)) q75a q75c (g := (mkF m 142 #[oj p1, vS, oj p2, vS, oj p3, vS, oj p4, vS, oi p5, oj p6, vS, oj q1, vS, oa b2, oj f1, vS, oj q1, vS, oi (1 : Int32), oj q2, vS, vU, vU] [(.ref rq68), (.ref b2)])) rfl (by rw [hml]; rfl) (Steps.refl _) (argsL := [(.ref rq68)]) (rest := []) (lenOf own_pd24 rfl) rfl (own_W0 rfl) (hb hby at_142) (fun _ _ => ⟨rfl, rfl, (by decide : 10 + 0 ≤ _), (by decide : 59 + 0 ≤ _)⟩)
      dsimp only [Pt.U, Pt.locs, Pt.cells, Pt.slots] at X75 l75 y75 z75 st75 hQ75
      subst l75 y75 z75
      obtain ⟨rfl, Nq75, K75, Oe75, Ocum75, Oreq75, Ocan75, Onot75⟩ := hQ75
      have N75 := Fr.app N68 Nq75
      have f76 := (Ne68.keep K75)
      have f77 := (Nf68.keep K75 (ninS (Exa.ne Ne68 f69 (by decide)) nin0))
      have o78 : Old Z n0 T75.heap := (Old.keep o74 K75 (allS gz_b2 all0))
      obtain ⟨cq79, kq79, q79a, q79b, q79c⟩ := isOf hZ rfl Oe75
      obtain ⟨_, _, ⟨T79, L79, k79, n79⟩, -, X79, ⟨Lc79, hQ79, l79, y79, z79⟩, st79⟩ := X75.virtualBack hx (y := own_y1) (z := own_y1) hown (mvT hZ (own_w hw 136 rfl)) (mvT hZ (own_w hw 137 rfl)) (notFace_of_selects (args := #[]) (mvT hZ (own_w hw 139 rfl))) (mvT hZ (own_w hw 139 rfl)) (mvT hZ (own_w hw 138 rfl)) (by decide) (backOf (W := 0) (rmA31 l Z a0 hw [] b2 (f1) rq68 (q2)  zr zm ps ng zk T75.heap n0 o78 G0 Oe75 Ocan75 Ocum75 f76 f77 Oreq75  ) hZ (own_w hw 140 rfl) (own_w hw 3 rfl) (by decide) (by decide)) q79a q79c (g := (mkF m 156 #[oj p1, vS, oj p2, vS, oj p3, vS, oj p4, vS, oi p5, oj p6, vS, oj q1, vS, oa b2, oj f1, vS, oj q2, vS, oi (1 : Int32), oj q2, vS, vU, vU] [(.ref b2)])) rfl (by rw [hml]; rfl) (Steps.refl _) (argsL := []) (rest := []) (lenOf own_pd1 rfl) rfl (own_W0 rfl) (hb hby at_156) (fun _ _ => ⟨rfl, rfl, (by decide : 10 + 0 ≤ _), (by decide : 59 + 0 ≤ _)⟩)
      dsimp only [Pt.U, Pt.locs, Pt.cells, Pt.slots] at X79 l79 y79 z79 st79 hQ79
      subst l79 y79 z79
      obtain ⟨rfl, Nq79, e79⟩ := hQ79
      have N79 := Fr.app N75 Nq79
      have hc80 : (q2 - f1) = (q2 - f1) := rfl
      obtain ⟨op, hv_op⟩ : ∃ z : Int64, z = (q2 - f1) := ⟨_, rfl⟩
      have g81 : ∀ t, FS p e below T79 m 180 #[oj p1, vS, oj p2, vS, oj p3, vS, oj p4, vS, oi p5, oj p6, vS, oj q1, vS, oa b2, oj f1, vS, oj q2, vS, oi (1 : Int32), oj q2, vS, vU, vU] [(.long op)] t → ES p e below s₁ m #[(.long p1), (.long p2), (.long p3), (.long p4), (.int p5), (.long p6)] maxLocals t := by
        intro t k
        rw [hv_op] at k
        refine g67 t ?_
        show FS p e below T55 m 133 #[oj p1, vS, oj p2, vS, oj p3, vS, oj p4, vS, oi p5, oj p6, vS, oj q1, vS, oa b2, oj f1, vS, oj q1, vS, oi (1 : Int32), oj f1, vS, vU, vU] [(.long q2)] _
        refine XS.lstore X55.here hx rfl (hb hby at_133) rfl (l' := #[oj p1, vS, oj p2, vS, oj p3, vS, oj p4, vS, oi p5, oj p6, vS, oj q1, vS, oa b2, oj f1, vS, oj q1, vS, oi (1 : Int32), oj q2, vS, vU, vU]) rfl ?_
        refine XS.aload X55.here hx rfl (hb hby at_135) rfl rfl ?_
        refine XS.lload X55.here hx rfl (hb hby at_137) rfl ?_
        refine st68 _ ?_
        refine st75.trans ?_
        refine XS.lload X75.here hx rfl (hb hby at_145) rfl ?_
        refine XS.lstore X75.here hx rfl (hb hby at_147) rfl (l' := #[oj p1, vS, oj p2, vS, oj p3, vS, oj p4, vS, oi p5, oj p6, vS, oj q1, vS, oa b2, oj f1, vS, oj q2, vS, oi (1 : Int32), oj q2, vS, vU, vU]) rfl ?_
        refine XS.iload X75.here hx rfl (hb hby at_149) rfl ?_
        show FS p e below T75 m 151 #[oj p1, vS, oj p2, vS, oj p3, vS, oj p4, vS, oi p5, oj p6, vS, oj q1, vS, oa b2, oj f1, vS, oj q2, vS, oi (1 : Int32), oj q2, vS, vU, vU] [(.int (1 : Int32))] _
        refine XS.ifNo X75.here hx rfl (hb hby at_151) rfl ((if0 _ _).trans (feq (by decide : ¬ ((1 : Int32) = (0 : Int32)))).1) ?_
        refine XS.aload X75.here hx rfl (hb hby at_154) rfl rfl ?_
        refine st79.trans ?_
        refine XS.lload X79.here hx rfl (hb hby at_159) rfl ?_
        refine XS.lload X79.here hx rfl (hb hby at_161) rfl ?_
        refine XS.lsub X79.here hx rfl (hb hby at_163) rfl ?_
        refine XS.lcmp X79.here hx rfl (hb hby at_164) rfl ?_
        refine XS.ifNo X79.here hx rfl (hb hby at_165) rfl ((if0 _ _).trans (teq ((lw_eq _ _).mpr hc80)).2) ?_
        show FS p e below T79 m 168 #[oj p1, vS, oj p2, vS, oj p3, vS, oj p4, vS, oi p5, oj p6, vS, oj q1, vS, oa b2, oj f1, vS, oj q2, vS, oi (1 : Int32), oj q2, vS, vU, vU] [] _
        refine XS.iconst X79.here hx rfl (hb hby at_168) ?_
        refine XS.goto X79.here hx rfl (pc0 := 169) (pc' := 173) rfl (hb hby at_169) (by decide) (by decide) ?_
        refine XS.istore X79.here hx rfl (hb hby at_173) rfl (l' := #[oj p1, vS, oj p2, vS, oj p3, vS, oj p4, vS, oi p5, oj p6, vS, oj q1, vS, oa b2, oj f1, vS, oj q2, vS, oi (1 : Int32), oj q2, vS, vU, vU]) rfl ?_
        refine XS.lload X79.here hx rfl (hb hby at_175) rfl ?_
        refine XS.lload X79.here hx rfl (hb hby at_177) rfl ?_
        refine XS.lsub X79.here hx rfl (hb hby at_179) rfl ?_
        exact k
      have g82 : ∀ t, FS p e below T79 m 182 #[oj p1, vS, oj p2, vS, oj p3, vS, oj p4, vS, oi p5, oj p6, vS, oj q1, vS, oa b2, oj f1, vS, oj q2, vS, oi (1 : Int32), oj op, vS, vU, vU] [] t → ES p e below s₁ m #[(.long p1), (.long p2), (.long p3), (.long p4), (.int p5), (.long p6)] maxLocals t := by
        intro t k
        refine g81 t ?_
        show FS p e below T79 m 180 #[oj p1, vS, oj p2, vS, oj p3, vS, oj p4, vS, oi p5, oj p6, vS, oj q1, vS, oa b2, oj f1, vS, oj q2, vS, oi (1 : Int32), oj q2, vS, vU, vU] [(.long op)] _
        refine XS.lstore X79.here hx rfl (hb hby at_180) rfl (l' := #[oj p1, vS, oj p2, vS, oj p3, vS, oj p4, vS, oi p5, oj p6, vS, oj q1, vS, oa b2, oj f1, vS, oj q2, vS, oi (1 : Int32), oj op, vS, vU, vU]) rfl ?_
        exact k
      have f83 := ((Qe50.keep K68).keep K75)
      have f84 := ((Qs50.keep K68 nin0).keep K75 (ninS (Exa.ne (Qe50.keep K68) f69 (by decide)) nin0))
      have f85 := ((Qm50.keep K68 nin0).keep K75 (ninS (Exa.ne (Qe50.keep K68) f69 (by decide)) nin0))
      have f86 := ((Qa50.keep K68 nin0).keep K75 (ninS (Ne.symm (Exa.neArv f69 (Qa50.keep K68 nin0) (own_w hw 2 rfl))) nin0))
      exact own_t182 p1 p2 p3 p4 p5 p6 q1 (f1) (q2) op b2 rq68 rb50 rm50 rk50 (rz50) (rs50) rl50 sn zr zm ps ng zk (X79.mono (by decide) (by decide)) hx hZ hw hby hml hown e79 o78 N79 Bd.returns Bd.notSynchronized G0 Oe75 Ocum75 Oreq75 Ocan75 Onot75 f76 f77 f83 f84 f85 f86 Qc50 hsn hsp gz_b2 g82
theorem comes_1 {Post : Tables → Env → Array Value → State → Outcome → State → Prop} (hpost : ∀ tb e args s v u, (limb_1_1.after args s (.returned v) u = true ∧ limb_1_2.after args s (.returned v) u = true ∧ True) → FrameEnd s (.returned v) u (Jvm.fieldLocs frame_1_writes args s ++ Jvm.arrayLocs frame_1_arrays args s ++ Jvm.staticLocs frame_1_statics s) 48 256 → Post tb e args s (.returned v) u) :
    ArmFor flags0 classFile x code maxLocals ret World_1 tables_1 room_1 Calls_1 rest_1 Pre_1 Post := by
  intro l hfl _ _ p e ha hc hk s m args below hf hA hF happ hP
  obtain ⟨hcalls, hrest, hpre⟩ := hP
  obtain ⟨-, -, -, hnamed, -, -, -, hat⟩ := (Spec.applies_iff hf).mp happ
  obtain ⟨hg, hn⟩ := and_e (Cond.before_iff.mp (show (Jvm.Cond.and given_1 narrow_1).before args s = true from hpre))
  obtain ⟨h0a, h0b⟩ := and_e hg
  obtain ⟨h1a, h1b⟩ := and_e h0b
  obtain ⟨h2a, h2b⟩ := and_e h1b
  obtain ⟨h3a, h3b⟩ := and_e h2b
  obtain ⟨h4a, h4b⟩ := and_e h3b
  obtain ⟨h5a, h5b⟩ := and_e h4b
  obtain ⟨w0, w1, w2, w3, w4, w5, rfl⟩ : ∃ w0 w1 w2 w3 w4 w5 : Value, args = #[w0, w1, w2, w3, w4, w5] := by
    have hs : args.size = 6 := by simpa [Cond.value, given_1] using h0a
    obtain ⟨L⟩ := args
    match L, hs with
    | [w0, w1, w2, w3, w4, w5], _ => exact ⟨w0, w1, w2, w3, w4, w5, rfl⟩
  have hw := fun d (hd : d ∈ tables_1) => atoms_spec (ws := Jvm.Cond.code x code maxLocals ret :: tables_1) hat d (List.mem_cons_of_mem _ hd)
  obtain ⟨hsets, hown0⟩ := atoms_of _ (rest_1_c_eq ▸ (show rest_1_c.before _ s = true from hrest))
  have hr0 := Cond.before_iff.mp hown0
  obtain ⟨i0, ei0⟩ := isL_v h1a
  obtain rfl : w0 = (.long i0) := Option.some.inj ei0
  obtain ⟨i1, ei1⟩ := isL_v h2a
  obtain rfl : w1 = (.long i1) := Option.some.inj ei1
  obtain ⟨i2, ei2⟩ := isL_v h3a
  obtain rfl : w2 = (.long i2) := Option.some.inj ei2
  obtain ⟨i3, ei3⟩ := isL_v h4a
  obtain rfl : w3 = (.long i3) := Option.some.inj ei3
  obtain ⟨i4, ei4⟩ := is_v h5a
  obtain rfl : w4 = (.int i4) := Option.some.inj ei4
  obtain ⟨i5, ei5⟩ := isL_v h5b
  obtain rfl : w5 = (.long i5) := Option.some.inj ei5
  obtain ⟨zr, zm, zk, ezr, E_Z, F_Zs, F_Zm, V_Z⟩ := own_bz (Cond.before_iff.mp (hsets _ (List.mem_of_getElem? (i := 2) rfl))) (Cond.before_iff.mp (hsets _ (List.mem_of_getElem? (i := 3) rfl))) (Cond.before_iff.mp (hsets _ (List.mem_of_getElem? (i := 4) rfl))) (Cond.before_iff.mp (hsets _ (List.mem_of_getElem? (i := 6) rfl)))
  have S_Z := Sta.start ezr (Or.inl (hsets _ (List.mem_of_getElem? (i := 1) rfl)))
  obtain ⟨ap, cp, eap, Ap, szp, elp⟩ := own_ra (Cond.before_iff.mp (hsets _ (List.mem_of_getElem? (i := 15) rfl))) (Cond.before_iff.mp (hsets _ (List.mem_of_getElem? (i := 17) rfl)))
  have S_p := Sta.start eap (Or.inl (hsets _ (List.mem_of_getElem? (i := 8) rfl)))
  have P_p : own_PC s ap (1 : Int32) := by
    refine ⟨cp, Ap, szp, ?_⟩
    intro j h1 h2
    rcases own_j16 h1 h2 with rfl | rfl | rfl | rfl | rfl | rfl | rfl | rfl | rfl | rfl | rfl | rfl | rfl | rfl | rfl | rfl
    · obtain ⟨b, mg, kk, vs, eb, r⟩ := own_b1 (Cond.before_iff.mp (hsets _ (List.mem_of_getElem? (i := 19) rfl))) (Cond.before_iff.mp (hsets _ (List.mem_of_getElem? (i := 20) rfl))) (Cond.before_iff.mp (hsets _ (List.mem_of_getElem? (i := 21) rfl))) (Cond.before_iff.mp (hsets _ (List.mem_of_getElem? (i := 23) rfl))) (Cond.before_iff.mp (hsets _ (List.mem_of_getElem? (i := 24) rfl))); exact ⟨b, mg, kk, vs, (elp (1 : Int32) 1 (by decide) (by decide) _ eb), r⟩
    · obtain ⟨b, mg, kk, vs, eb, r⟩ := own_b1 (Cond.before_iff.mp (hsets _ (List.mem_of_getElem? (i := 26) rfl))) (Cond.before_iff.mp (hsets _ (List.mem_of_getElem? (i := 27) rfl))) (Cond.before_iff.mp (hsets _ (List.mem_of_getElem? (i := 28) rfl))) (Cond.before_iff.mp (hsets _ (List.mem_of_getElem? (i := 30) rfl))) (Cond.before_iff.mp (hsets _ (List.mem_of_getElem? (i := 31) rfl))); exact ⟨b, mg, kk, vs, (elp (2 : Int32) 2 (by decide) (by decide) _ eb), r⟩
    · obtain ⟨b, mg, kk, vs, eb, r⟩ := own_b1 (Cond.before_iff.mp (hsets _ (List.mem_of_getElem? (i := 32) rfl))) (Cond.before_iff.mp (hsets _ (List.mem_of_getElem? (i := 33) rfl))) (Cond.before_iff.mp (hsets _ (List.mem_of_getElem? (i := 34) rfl))) (Cond.before_iff.mp (hsets _ (List.mem_of_getElem? (i := 36) rfl))) (Cond.before_iff.mp (hsets _ (List.mem_of_getElem? (i := 37) rfl))); exact ⟨b, mg, kk, vs, (elp (3 : Int32) 3 (by decide) (by decide) _ eb), r⟩
    · obtain ⟨b, mg, kk, vs, eb, r⟩ := own_b1 (Cond.before_iff.mp (hsets _ (List.mem_of_getElem? (i := 38) rfl))) (Cond.before_iff.mp (hsets _ (List.mem_of_getElem? (i := 39) rfl))) (Cond.before_iff.mp (hsets _ (List.mem_of_getElem? (i := 40) rfl))) (Cond.before_iff.mp (hsets _ (List.mem_of_getElem? (i := 42) rfl))) (Cond.before_iff.mp (hsets _ (List.mem_of_getElem? (i := 43) rfl))); exact ⟨b, mg, kk, vs, (elp (4 : Int32) 4 (by decide) (by decide) _ eb), r⟩
    · obtain ⟨b, mg, kk, vs, eb, r⟩ := own_b1 (Cond.before_iff.mp (hsets _ (List.mem_of_getElem? (i := 44) rfl))) (Cond.before_iff.mp (hsets _ (List.mem_of_getElem? (i := 45) rfl))) (Cond.before_iff.mp (hsets _ (List.mem_of_getElem? (i := 46) rfl))) (Cond.before_iff.mp (hsets _ (List.mem_of_getElem? (i := 48) rfl))) (Cond.before_iff.mp (hsets _ (List.mem_of_getElem? (i := 49) rfl))); exact ⟨b, mg, kk, vs, (elp (5 : Int32) 5 (by decide) (by decide) _ eb), r⟩
    · obtain ⟨b, mg, kk, vs, eb, r⟩ := own_b1 (Cond.before_iff.mp (hsets _ (List.mem_of_getElem? (i := 50) rfl))) (Cond.before_iff.mp (hsets _ (List.mem_of_getElem? (i := 51) rfl))) (Cond.before_iff.mp (hsets _ (List.mem_of_getElem? (i := 52) rfl))) (Cond.before_iff.mp (hsets _ (List.mem_of_getElem? (i := 54) rfl))) (Cond.before_iff.mp (hsets _ (List.mem_of_getElem? (i := 55) rfl))); exact ⟨b, mg, kk, vs, (elp (6 : Int32) 6 (by decide) (by decide) _ eb), r⟩
    · obtain ⟨b, mg, kk, vs, eb, r⟩ := own_b1 (Cond.before_iff.mp (hsets _ (List.mem_of_getElem? (i := 56) rfl))) (Cond.before_iff.mp (hsets _ (List.mem_of_getElem? (i := 57) rfl))) (Cond.before_iff.mp (hsets _ (List.mem_of_getElem? (i := 58) rfl))) (Cond.before_iff.mp (hsets _ (List.mem_of_getElem? (i := 60) rfl))) (Cond.before_iff.mp (hsets _ (List.mem_of_getElem? (i := 61) rfl))); exact ⟨b, mg, kk, vs, (elp (7 : Int32) 7 (by decide) (by decide) _ eb), r⟩
    · obtain ⟨b, mg, kk, vs, eb, r⟩ := own_b1 (Cond.before_iff.mp (hsets _ (List.mem_of_getElem? (i := 62) rfl))) (Cond.before_iff.mp (hsets _ (List.mem_of_getElem? (i := 63) rfl))) (Cond.before_iff.mp (hsets _ (List.mem_of_getElem? (i := 64) rfl))) (Cond.before_iff.mp (hsets _ (List.mem_of_getElem? (i := 66) rfl))) (Cond.before_iff.mp (hsets _ (List.mem_of_getElem? (i := 67) rfl))); exact ⟨b, mg, kk, vs, (elp (8 : Int32) 8 (by decide) (by decide) _ eb), r⟩
    · obtain ⟨b, mg, kk, vs, eb, r⟩ := own_b1 (Cond.before_iff.mp (hsets _ (List.mem_of_getElem? (i := 68) rfl))) (Cond.before_iff.mp (hsets _ (List.mem_of_getElem? (i := 69) rfl))) (Cond.before_iff.mp (hsets _ (List.mem_of_getElem? (i := 70) rfl))) (Cond.before_iff.mp (hsets _ (List.mem_of_getElem? (i := 72) rfl))) (Cond.before_iff.mp (hsets _ (List.mem_of_getElem? (i := 73) rfl))); exact ⟨b, mg, kk, vs, (elp (9 : Int32) 9 (by decide) (by decide) _ eb), r⟩
    · obtain ⟨b, mg, kk, vs, eb, r⟩ := own_b1 (Cond.before_iff.mp (hsets _ (List.mem_of_getElem? (i := 75) rfl))) (Cond.before_iff.mp (hsets _ (List.mem_of_getElem? (i := 76) rfl))) (Cond.before_iff.mp (hsets _ (List.mem_of_getElem? (i := 77) rfl))) (Cond.before_iff.mp (hsets _ (List.mem_of_getElem? (i := 79) rfl))) (Cond.before_iff.mp (hsets _ (List.mem_of_getElem? (i := 80) rfl))); exact ⟨b, mg, kk, vs, (elp (10 : Int32) 10 (by decide) (by decide) _ eb), r⟩
    · obtain ⟨b, mg, kk, vs, eb, r⟩ := own_b1 (Cond.before_iff.mp (hsets _ (List.mem_of_getElem? (i := 81) rfl))) (Cond.before_iff.mp (hsets _ (List.mem_of_getElem? (i := 82) rfl))) (Cond.before_iff.mp (hsets _ (List.mem_of_getElem? (i := 83) rfl))) (Cond.before_iff.mp (hsets _ (List.mem_of_getElem? (i := 85) rfl))) (Cond.before_iff.mp (hsets _ (List.mem_of_getElem? (i := 86) rfl))); exact ⟨b, mg, kk, vs, (elp (11 : Int32) 11 (by decide) (by decide) _ eb), r⟩
    · obtain ⟨b, mg, kk, vs, eb, r⟩ := own_b1 (Cond.before_iff.mp (hsets _ (List.mem_of_getElem? (i := 87) rfl))) (Cond.before_iff.mp (hsets _ (List.mem_of_getElem? (i := 88) rfl))) (Cond.before_iff.mp (hsets _ (List.mem_of_getElem? (i := 89) rfl))) (Cond.before_iff.mp (hsets _ (List.mem_of_getElem? (i := 91) rfl))) (Cond.before_iff.mp (hsets _ (List.mem_of_getElem? (i := 92) rfl))); exact ⟨b, mg, kk, vs, (elp (12 : Int32) 12 (by decide) (by decide) _ eb), r⟩
    · obtain ⟨b, mg, kk, vs, eb, r⟩ := own_b1 (Cond.before_iff.mp (hsets _ (List.mem_of_getElem? (i := 93) rfl))) (Cond.before_iff.mp (hsets _ (List.mem_of_getElem? (i := 94) rfl))) (Cond.before_iff.mp (hsets _ (List.mem_of_getElem? (i := 95) rfl))) (Cond.before_iff.mp (hsets _ (List.mem_of_getElem? (i := 97) rfl))) (Cond.before_iff.mp (hsets _ (List.mem_of_getElem? (i := 98) rfl))); exact ⟨b, mg, kk, vs, (elp (13 : Int32) 13 (by decide) (by decide) _ eb), r⟩
    · obtain ⟨b, mg, kk, vs, eb, r⟩ := own_b1 (Cond.before_iff.mp (hsets _ (List.mem_of_getElem? (i := 99) rfl))) (Cond.before_iff.mp (hsets _ (List.mem_of_getElem? (i := 100) rfl))) (Cond.before_iff.mp (hsets _ (List.mem_of_getElem? (i := 101) rfl))) (Cond.before_iff.mp (hsets _ (List.mem_of_getElem? (i := 103) rfl))) (Cond.before_iff.mp (hsets _ (List.mem_of_getElem? (i := 104) rfl))); exact ⟨b, mg, kk, vs, (elp (14 : Int32) 14 (by decide) (by decide) _ eb), r⟩
    · obtain ⟨b, mg, kk, vs, eb, r⟩ := own_b1 (Cond.before_iff.mp (hsets _ (List.mem_of_getElem? (i := 105) rfl))) (Cond.before_iff.mp (hsets _ (List.mem_of_getElem? (i := 106) rfl))) (Cond.before_iff.mp (hsets _ (List.mem_of_getElem? (i := 107) rfl))) (Cond.before_iff.mp (hsets _ (List.mem_of_getElem? (i := 109) rfl))) (Cond.before_iff.mp (hsets _ (List.mem_of_getElem? (i := 110) rfl))); exact ⟨b, mg, kk, vs, (elp (15 : Int32) 15 (by decide) (by decide) _ eb), r⟩
    · obtain ⟨b, mg, kk, vs, eb, r⟩ := own_b1 (Cond.before_iff.mp (hsets _ (List.mem_of_getElem? (i := 111) rfl))) (Cond.before_iff.mp (hsets _ (List.mem_of_getElem? (i := 112) rfl))) (Cond.before_iff.mp (hsets _ (List.mem_of_getElem? (i := 113) rfl))) (Cond.before_iff.mp (hsets _ (List.mem_of_getElem? (i := 115) rfl))) (Cond.before_iff.mp (hsets _ (List.mem_of_getElem? (i := 116) rfl))); exact ⟨b, mg, kk, vs, (elp (16 : Int32) 16 (by decide) (by decide) _ eb), r⟩
  obtain ⟨an, cn, ean, An, szn, eln⟩ := own_ra (Cond.before_iff.mp (hsets _ (List.mem_of_getElem? (i := 121) rfl))) (Cond.before_iff.mp (hsets _ (List.mem_of_getElem? (i := 123) rfl)))
  have S_n := Sta.start ean (Or.inl (hsets _ (List.mem_of_getElem? (i := 118) rfl)))
  have P_n : own_PC s an (-1 : Int32) := by
    refine ⟨cn, An, szn, ?_⟩
    intro j h1 h2
    rcases own_j16 h1 h2 with rfl | rfl | rfl | rfl | rfl | rfl | rfl | rfl | rfl | rfl | rfl | rfl | rfl | rfl | rfl | rfl
    · obtain ⟨b, mg, kk, vs, eb, r⟩ := own_b1 (Cond.before_iff.mp (hsets _ (List.mem_of_getElem? (i := 125) rfl))) (Cond.before_iff.mp (hsets _ (List.mem_of_getElem? (i := 126) rfl))) (Cond.before_iff.mp (hsets _ (List.mem_of_getElem? (i := 127) rfl))) (Cond.before_iff.mp (hsets _ (List.mem_of_getElem? (i := 129) rfl))) (Cond.before_iff.mp (hsets _ (List.mem_of_getElem? (i := 130) rfl))); exact ⟨b, mg, kk, vs, (eln (1 : Int32) 1 (by decide) (by decide) _ eb), r⟩
    · obtain ⟨b, mg, kk, vs, eb, r⟩ := own_b1 (Cond.before_iff.mp (hsets _ (List.mem_of_getElem? (i := 131) rfl))) (Cond.before_iff.mp (hsets _ (List.mem_of_getElem? (i := 132) rfl))) (Cond.before_iff.mp (hsets _ (List.mem_of_getElem? (i := 133) rfl))) (Cond.before_iff.mp (hsets _ (List.mem_of_getElem? (i := 135) rfl))) (Cond.before_iff.mp (hsets _ (List.mem_of_getElem? (i := 136) rfl))); exact ⟨b, mg, kk, vs, (eln (2 : Int32) 2 (by decide) (by decide) _ eb), r⟩
    · obtain ⟨b, mg, kk, vs, eb, r⟩ := own_b1 (Cond.before_iff.mp (hsets _ (List.mem_of_getElem? (i := 137) rfl))) (Cond.before_iff.mp (hsets _ (List.mem_of_getElem? (i := 138) rfl))) (Cond.before_iff.mp (hsets _ (List.mem_of_getElem? (i := 139) rfl))) (Cond.before_iff.mp (hsets _ (List.mem_of_getElem? (i := 141) rfl))) (Cond.before_iff.mp (hsets _ (List.mem_of_getElem? (i := 142) rfl))); exact ⟨b, mg, kk, vs, (eln (3 : Int32) 3 (by decide) (by decide) _ eb), r⟩
    · obtain ⟨b, mg, kk, vs, eb, r⟩ := own_b1 (Cond.before_iff.mp (hsets _ (List.mem_of_getElem? (i := 143) rfl))) (Cond.before_iff.mp (hsets _ (List.mem_of_getElem? (i := 144) rfl))) (Cond.before_iff.mp (hsets _ (List.mem_of_getElem? (i := 145) rfl))) (Cond.before_iff.mp (hsets _ (List.mem_of_getElem? (i := 147) rfl))) (Cond.before_iff.mp (hsets _ (List.mem_of_getElem? (i := 148) rfl))); exact ⟨b, mg, kk, vs, (eln (4 : Int32) 4 (by decide) (by decide) _ eb), r⟩
    · obtain ⟨b, mg, kk, vs, eb, r⟩ := own_b1 (Cond.before_iff.mp (hsets _ (List.mem_of_getElem? (i := 149) rfl))) (Cond.before_iff.mp (hsets _ (List.mem_of_getElem? (i := 150) rfl))) (Cond.before_iff.mp (hsets _ (List.mem_of_getElem? (i := 151) rfl))) (Cond.before_iff.mp (hsets _ (List.mem_of_getElem? (i := 153) rfl))) (Cond.before_iff.mp (hsets _ (List.mem_of_getElem? (i := 154) rfl))); exact ⟨b, mg, kk, vs, (eln (5 : Int32) 5 (by decide) (by decide) _ eb), r⟩
    · obtain ⟨b, mg, kk, vs, eb, r⟩ := own_b1 (Cond.before_iff.mp (hsets _ (List.mem_of_getElem? (i := 155) rfl))) (Cond.before_iff.mp (hsets _ (List.mem_of_getElem? (i := 156) rfl))) (Cond.before_iff.mp (hsets _ (List.mem_of_getElem? (i := 157) rfl))) (Cond.before_iff.mp (hsets _ (List.mem_of_getElem? (i := 159) rfl))) (Cond.before_iff.mp (hsets _ (List.mem_of_getElem? (i := 160) rfl))); exact ⟨b, mg, kk, vs, (eln (6 : Int32) 6 (by decide) (by decide) _ eb), r⟩
    · obtain ⟨b, mg, kk, vs, eb, r⟩ := own_b1 (Cond.before_iff.mp (hsets _ (List.mem_of_getElem? (i := 161) rfl))) (Cond.before_iff.mp (hsets _ (List.mem_of_getElem? (i := 162) rfl))) (Cond.before_iff.mp (hsets _ (List.mem_of_getElem? (i := 163) rfl))) (Cond.before_iff.mp (hsets _ (List.mem_of_getElem? (i := 165) rfl))) (Cond.before_iff.mp (hsets _ (List.mem_of_getElem? (i := 166) rfl))); exact ⟨b, mg, kk, vs, (eln (7 : Int32) 7 (by decide) (by decide) _ eb), r⟩
    · obtain ⟨b, mg, kk, vs, eb, r⟩ := own_b1 (Cond.before_iff.mp (hsets _ (List.mem_of_getElem? (i := 167) rfl))) (Cond.before_iff.mp (hsets _ (List.mem_of_getElem? (i := 168) rfl))) (Cond.before_iff.mp (hsets _ (List.mem_of_getElem? (i := 169) rfl))) (Cond.before_iff.mp (hsets _ (List.mem_of_getElem? (i := 171) rfl))) (Cond.before_iff.mp (hsets _ (List.mem_of_getElem? (i := 172) rfl))); exact ⟨b, mg, kk, vs, (eln (8 : Int32) 8 (by decide) (by decide) _ eb), r⟩
    · obtain ⟨b, mg, kk, vs, eb, r⟩ := own_b1 (Cond.before_iff.mp (hsets _ (List.mem_of_getElem? (i := 173) rfl))) (Cond.before_iff.mp (hsets _ (List.mem_of_getElem? (i := 174) rfl))) (Cond.before_iff.mp (hsets _ (List.mem_of_getElem? (i := 175) rfl))) (Cond.before_iff.mp (hsets _ (List.mem_of_getElem? (i := 177) rfl))) (Cond.before_iff.mp (hsets _ (List.mem_of_getElem? (i := 178) rfl))); exact ⟨b, mg, kk, vs, (eln (9 : Int32) 9 (by decide) (by decide) _ eb), r⟩
    · obtain ⟨b, mg, kk, vs, eb, r⟩ := own_b1 (Cond.before_iff.mp (hsets _ (List.mem_of_getElem? (i := 179) rfl))) (Cond.before_iff.mp (hsets _ (List.mem_of_getElem? (i := 180) rfl))) (Cond.before_iff.mp (hsets _ (List.mem_of_getElem? (i := 181) rfl))) (Cond.before_iff.mp (hsets _ (List.mem_of_getElem? (i := 183) rfl))) (Cond.before_iff.mp (hsets _ (List.mem_of_getElem? (i := 184) rfl))); exact ⟨b, mg, kk, vs, (eln (10 : Int32) 10 (by decide) (by decide) _ eb), r⟩
    · obtain ⟨b, mg, kk, vs, eb, r⟩ := own_b1 (Cond.before_iff.mp (hsets _ (List.mem_of_getElem? (i := 185) rfl))) (Cond.before_iff.mp (hsets _ (List.mem_of_getElem? (i := 186) rfl))) (Cond.before_iff.mp (hsets _ (List.mem_of_getElem? (i := 187) rfl))) (Cond.before_iff.mp (hsets _ (List.mem_of_getElem? (i := 189) rfl))) (Cond.before_iff.mp (hsets _ (List.mem_of_getElem? (i := 190) rfl))); exact ⟨b, mg, kk, vs, (eln (11 : Int32) 11 (by decide) (by decide) _ eb), r⟩
    · obtain ⟨b, mg, kk, vs, eb, r⟩ := own_b1 (Cond.before_iff.mp (hsets _ (List.mem_of_getElem? (i := 191) rfl))) (Cond.before_iff.mp (hsets _ (List.mem_of_getElem? (i := 192) rfl))) (Cond.before_iff.mp (hsets _ (List.mem_of_getElem? (i := 193) rfl))) (Cond.before_iff.mp (hsets _ (List.mem_of_getElem? (i := 195) rfl))) (Cond.before_iff.mp (hsets _ (List.mem_of_getElem? (i := 196) rfl))); exact ⟨b, mg, kk, vs, (eln (12 : Int32) 12 (by decide) (by decide) _ eb), r⟩
    · obtain ⟨b, mg, kk, vs, eb, r⟩ := own_b1 (Cond.before_iff.mp (hsets _ (List.mem_of_getElem? (i := 197) rfl))) (Cond.before_iff.mp (hsets _ (List.mem_of_getElem? (i := 198) rfl))) (Cond.before_iff.mp (hsets _ (List.mem_of_getElem? (i := 199) rfl))) (Cond.before_iff.mp (hsets _ (List.mem_of_getElem? (i := 201) rfl))) (Cond.before_iff.mp (hsets _ (List.mem_of_getElem? (i := 202) rfl))); exact ⟨b, mg, kk, vs, (eln (13 : Int32) 13 (by decide) (by decide) _ eb), r⟩
    · obtain ⟨b, mg, kk, vs, eb, r⟩ := own_b1 (Cond.before_iff.mp (hsets _ (List.mem_of_getElem? (i := 203) rfl))) (Cond.before_iff.mp (hsets _ (List.mem_of_getElem? (i := 204) rfl))) (Cond.before_iff.mp (hsets _ (List.mem_of_getElem? (i := 205) rfl))) (Cond.before_iff.mp (hsets _ (List.mem_of_getElem? (i := 207) rfl))) (Cond.before_iff.mp (hsets _ (List.mem_of_getElem? (i := 208) rfl))); exact ⟨b, mg, kk, vs, (eln (14 : Int32) 14 (by decide) (by decide) _ eb), r⟩
    · obtain ⟨b, mg, kk, vs, eb, r⟩ := own_b1 (Cond.before_iff.mp (hsets _ (List.mem_of_getElem? (i := 209) rfl))) (Cond.before_iff.mp (hsets _ (List.mem_of_getElem? (i := 210) rfl))) (Cond.before_iff.mp (hsets _ (List.mem_of_getElem? (i := 211) rfl))) (Cond.before_iff.mp (hsets _ (List.mem_of_getElem? (i := 213) rfl))) (Cond.before_iff.mp (hsets _ (List.mem_of_getElem? (i := 214) rfl))); exact ⟨b, mg, kk, vs, (eln (15 : Int32) 15 (by decide) (by decide) _ eb), r⟩
    · obtain ⟨b, mg, kk, vs, eb, r⟩ := own_b1 (Cond.before_iff.mp (hsets _ (List.mem_of_getElem? (i := 215) rfl))) (Cond.before_iff.mp (hsets _ (List.mem_of_getElem? (i := 216) rfl))) (Cond.before_iff.mp (hsets _ (List.mem_of_getElem? (i := 217) rfl))) (Cond.before_iff.mp (hsets _ (List.mem_of_getElem? (i := 219) rfl))) (Cond.before_iff.mp (hsets _ (List.mem_of_getElem? (i := 220) rfl))); exact ⟨b, mg, kk, vs, (eln (16 : Int32) 16 (by decide) (by decide) _ eb), r⟩
  obtain ⟨n, o, h1, h2, h3, _, L, rfl, ⟨rfl, N⟩, hq⟩ := rm0 l s _ hw tables_1 i0 i1 i2 i3 i4 i5 zr zm ap an zk s.heap s.heap.size (Old.start s) ⟨S_Z, E_Z, F_Zs, F_Zm, V_Z, S_p, P_p, S_n, P_n⟩ p e ha hc hk s m _ below hf ((Spec.applies_iff_loose hf).mp happ).1 ⟨rfl, State.Warmed39.refl s, rfl⟩ trivial
  refine ⟨n, _, h1, h2, h3, hpost _ _ _ _ _ _ ⟨Cond.after_iff.mpr rfl, Cond.after_iff.mpr (eq_i res_at (Term.int_eval (1)) rfl), trivial⟩ ⟨hq.1, hq.2.1, (hq.2.2.sift fun y hy => Or.inr (N y hy)).mono (by decide) (by decide)⟩⟩
theorem main_1_1 : Claimed_1_1 := comes_1 fun _ _ _ _ _ _ h hF => ⟨h.1, hF⟩
theorem main_1_2 : Claimed_1_2 := comes_1 fun _ _ _ _ _ _ h hF => ⟨h.2.1, hF⟩
end Jvm.Pilot.@@N@@
namespace Jvm.Pilot.@@N@@
open Jvm Jvm.ClassFile Sem Op Lib Jvm.Free Jvm.Stand Jvm.Pilot.@@N@@.Jvm.D
/-! MADE BY PROGRAM (witnessworld.py) out of the Statement's table words and the real class files: 23 classes; the members and pool entries that the words name. The judged class is class 1, her method 2. -/
namespace start1
open Jvm.ClassFile
def u (s : String) : CpInfo := .utf8 (stringToUtf16 s)
/-- a pool by its gaps: so many unusable entries, then the entry; so many at the end -/
def gap : Nat → List CpInfo → List CpInfo
  | 0, r => r
  | n + 1, r => .unusable :: gap n r
def poolList (es : List (Nat × CpInfo)) (last : Nat) : List CpInfo := es.foldr (fun e r => gap e.1 (e.2 :: r)) (gap last [])
def pool (es : List (Nat × CpInfo)) (last : Nat) : Array CpInfo := ⟨poolList es last⟩
def fileOf (pool : Array CpInfo) (this : Nat) (attrs : Array Attribute := #[]) (ms : Array MethodInfo := #[]) (fl : Nat := 33) (sup : Nat := 0) (ifs : Array Nat := #[]) (fds : Array FieldInfo := #[]) : ClassFile where
  minorVersion := 0
  majorVersion := 65
  constantPool := pool
  accessFlags := fl
  thisClass := this
  superClass := sup
  interfaces := ifs
  fields := fds
  methods := ms
  attributes := attrs
def plain (name : String) (sup : Option ClassId) : Class where
  name := name
  kind := .ordinary
  loader := none
  accessFlags := 33
  super := sup
  interfaces := #[]
  cf := none
  fields := #[]
  methods := #[]
  instanceTypes := #[]
  staticTypes := #[]
  resolved := #[]
  callSites := []
  init := .initialized
  statics := none
  mirror := none

def pool0 : Array CpInfo := pool [(5, u "<init>"), (0, u "()V"), (1, .class_ 10), (1, u "java/lang/Object")] 113

def k0c0 : Code := { maxStack := 0, maxLocals := 1, code := object_method_1_code, exceptionTable := #[], attributes := #[] }
def k0m0 : Method := { name := "<init>", desc := "()V", sig := { parameters := [], returnType := none }, accessFlags := 1, code := some k0c0 }
/-- java/lang/Object -/
def k0 : Class := { plain "java/lang/Object" none with
  accessFlags := 33
  interfaces := #[]
  cf := some (fileOf pool0 8 #[] #[{ accessFlags := 1, nameIndex := 5, descriptorIndex := 6, attributes := #[] }] 33 0 #[] #[])
  fields := #[]
  methods := #[k0m0]
  instanceTypes := #[]
  staticTypes := #[]
  resolved := Array.replicate 124 none
  statics := none }

def pool1 : Array CpInfo := pool [(4, .class_ 6), (1, u "java/lang/Object"), (0, u "<init>"), (0, u "()V"), (0, .class_ 10), (0, u "orderwire/orders/NewOrder"), (0, .methodref 9 12), (0, .nameAndType 7 13), (0, u "(Ljava/lang/String;Ljava/lang/String;Ljava/lang/String;Ljava/lang/String;Lorderwire/book/Side;Lorderwire/orders/OrderType;Lorderwire/orders/TimeInForce;JJILorderwire/orders/Capacity;Lorderwire/orders/AccountType;)V"), (0, .class_ 15), (0, u "orderwire/orders/OrderLeavesQtyPinLaw"), (0, .long 9223372036854775807), (1, .class_ 19), (0, u "orderwire/orders/Order"), (0, .long 7), (1, .methodref 14 23), (0, .nameAndType 24 25), (0, u "req"), (0, u "(J)Lorderwire/orders/NewOrder;"), (0, .methodref 18 27), (0, .nameAndType 7 28), (0, u "(JLorderwire/orders/NewOrder;)V"), (0, .methodref 18 30), (0, .nameAndType 31 32), (0, u "fill"), (0, u "(JJ)V"), (0, .methodref 18 34), (0, .nameAndType 35 36), (0, u "leavesQty"), (0, u "()J"), (0, .methodref 18 38), (0, .nameAndType 39 40), (0, u "amend"), (0, u "(Lorderwire/orders/NewOrder;)V"), (0, .methodref 18 42), (0, .nameAndType 43 8), (0, u "cancel"), (0, u "MAX"), (0, u "J"), (3, u "law"), (0, u "(JJJJIJ)Z")] 3

def k1m0 : Method := { name := "<init>", desc := "()V", sig := { parameters := [], returnType := none }, accessFlags := 1, code := none }
def k1c1 : Code := { maxStack := 16, maxLocals := 2, code := method_2_code, exceptionTable := #[], attributes := #[] }
def k1m1 : Method := { name := "req", desc := "(J)Lorderwire/orders/NewOrder;", sig := { parameters := [.long], returnType := some (.object "orderwire/orders/NewOrder") }, accessFlags := 10, code := some k1c1 }
def k1c2 : Code := { maxStack := 8, maxLocals := 23, code := code, exceptionTable := #[], attributes := #[] }
def k1m2 : Method := { name := "law", desc := "(JJJJIJ)Z", sig := { parameters := [.long, .long, .long, .long, .int, .long], returnType := some .boolean }, accessFlags := 9, code := some k1c2 }
/-- orderwire/orders/OrderLeavesQtyPinLaw -/
def k1 : Class := { plain "orderwire/orders/OrderLeavesQtyPinLaw" (some 0) with
  accessFlags := 49
  interfaces := #[]
  cf := some (fileOf pool1 14 #[] #[{ accessFlags := 1, nameIndex := 7, descriptorIndex := 8, attributes := #[] }, { accessFlags := 10, nameIndex := 24, descriptorIndex := 25, attributes := #[] }, { accessFlags := 9, nameIndex := 49, descriptorIndex := 50, attributes := #[] }] 49 4 #[] #[{ accessFlags := 26, nameIndex := 44, descriptorIndex := 45, attributes := #[] }])
  fields := #[{ name := "MAX", type := .long, accessFlags := 26, slot := 0, constantValue := 0 }]
  methods := #[k1m0, k1m1, k1m2]
  instanceTypes := #[]
  staticTypes := #[.long]
  resolved := Array.replicate 54 none
  statics := none }

def pool2 : Array CpInfo := pool [(1, .methodref 2 3), (0, .class_ 4), (0, .nameAndType 5 6), (0, u "java/lang/Object"), (0, u "<init>"), (0, u "()V"), (0, .fieldref 8 9), (0, .class_ 10), (0, .nameAndType 11 12), (0, u "java/math/BigInteger"), (0, u "ZERO"), (0, u "Ljava/math/BigInteger;"), (0, .fieldref 14 15), (0, .class_ 16), (0, .nameAndType 17 12), (0, u "orderwire/orders/Order"), (0, u "notional"), (0, .fieldref 14 19), (0, .nameAndType 20 21), (0, u "number"), (0, u "J"), (0, .fieldref 14 23), (0, .nameAndType 24 25), (0, u "request"), (0, u "Lorderwire/orders/NewOrder;"), (0, .fieldref 14 27), (0, .nameAndType 28 21), (0, u "cumQty"), (0, .fieldref 14 30), (0, .nameAndType 31 32), (0, u "cancelled"), (0, u "Z"), (0, .methodref 34 35), (0, .class_ 36), (0, .nameAndType 37 38), (0, u "orderwire/orders/NewOrder"), (0, u "quantity"), (0, u "()J"), (2, u "leavesQty"), (0, .methodref 8 43), (0, .nameAndType 44 45), (0, u "valueOf"), (0, u "(J)Ljava/math/BigInteger;"), (0, .methodref 8 47), (0, .nameAndType 48 49), (0, u "multiply"), (0, u "(Ljava/math/BigInteger;)Ljava/math/BigInteger;"), (0, .methodref 8 51), (0, .nameAndType 52 49), (0, u "add"), (21, u "(JLorderwire/orders/NewOrder;)V"), (6, u "fill"), (0, u "(JJ)V"), (0, u "cancel"), (0, u "amend"), (0, u "(Lorderwire/orders/NewOrder;)V")] 3

def k2c0 : Code := { maxStack := 3, maxLocals := 4, code := prog_111_method_1_code, exceptionTable := #[], attributes := #[] }
def k2m0 : Method := { name := "<init>", desc := "(JLorderwire/orders/NewOrder;)V", sig := { parameters := [.long, (.object "orderwire/orders/NewOrder")], returnType := none }, accessFlags := 0, code := some k2c0 }
def k2c1 : Code := { maxStack := 4, maxLocals := 1, code := prog_111_method_5_code, exceptionTable := #[], attributes := #[] }
def k2m1 : Method := { name := "leavesQty", desc := "()J", sig := { parameters := [], returnType := some .long }, accessFlags := 0, code := some k2c1 }
def k2c2 : Code := { maxStack := 5, maxLocals := 5, code := prog_111_method_7_code, exceptionTable := #[], attributes := #[] }
def k2m2 : Method := { name := "fill", desc := "(JJ)V", sig := { parameters := [.long, .long], returnType := none }, accessFlags := 0, code := some k2c2 }
def k2c3 : Code := { maxStack := 2, maxLocals := 1, code := prog_111_method_8_code, exceptionTable := #[], attributes := #[] }
def k2m3 : Method := { name := "cancel", desc := "()V", sig := { parameters := [], returnType := none }, accessFlags := 0, code := some k2c3 }
def k2c4 : Code := { maxStack := 2, maxLocals := 2, code := prog_111_method_9_code, exceptionTable := #[], attributes := #[] }
def k2m4 : Method := { name := "amend", desc := "(Lorderwire/orders/NewOrder;)V", sig := { parameters := [(.object "orderwire/orders/NewOrder")], returnType := none }, accessFlags := 0, code := some k2c4 }
/-- orderwire/orders/Order -/
def k2 : Class := { plain "orderwire/orders/Order" (some 0) with
  accessFlags := 48
  interfaces := #[]
  cf := some (fileOf pool2 14 #[] #[{ accessFlags := 0, nameIndex := 5, descriptorIndex := 74, attributes := #[] }, { accessFlags := 0, nameIndex := 41, descriptorIndex := 38, attributes := #[] }, { accessFlags := 0, nameIndex := 81, descriptorIndex := 82, attributes := #[] }, { accessFlags := 0, nameIndex := 83, descriptorIndex := 6, attributes := #[] }, { accessFlags := 0, nameIndex := 84, descriptorIndex := 85, attributes := #[] }] 48 2 #[] #[{ accessFlags := 18, nameIndex := 20, descriptorIndex := 21, attributes := #[] }, { accessFlags := 2, nameIndex := 24, descriptorIndex := 25, attributes := #[] }, { accessFlags := 2, nameIndex := 28, descriptorIndex := 21, attributes := #[] }, { accessFlags := 2, nameIndex := 31, descriptorIndex := 32, attributes := #[] }, { accessFlags := 2, nameIndex := 17, descriptorIndex := 12, attributes := #[] }])
  fields := #[{ name := "number", type := .long, accessFlags := 18, slot := 0, constantValue := 0 }, { name := "request", type := (.object "orderwire/orders/NewOrder"), accessFlags := 2, slot := 1, constantValue := 0 }, { name := "cumQty", type := .long, accessFlags := 2, slot := 2, constantValue := 0 }, { name := "cancelled", type := .boolean, accessFlags := 2, slot := 3, constantValue := 0 }, { name := "notional", type := (.object "java/math/BigInteger"), accessFlags := 2, slot := 4, constantValue := 0 }]
  methods := #[k2m0, k2m1, k2m2, k2m3, k2m4]
  instanceTypes := #[.long, (.object "orderwire/orders/NewOrder"), .long, .boolean, (.object "java/math/BigInteger")]
  staticTypes := #[]
  resolved := Array.replicate 89 none
  statics := none }

def pool3 : Array CpInfo := pool [(1, .methodref 2 3), (0, .class_ 4), (0, .nameAndType 5 6), (0, u "java/lang/Object"), (0, u "<init>"), (0, u "()V"), (0, .class_ 8), (0, u "java/lang/Record")] 13

def k3c0 : Code := { maxStack := 1, maxLocals := 1, code := jdk_30_method_1_code, exceptionTable := #[], attributes := #[] }
def k3m0 : Method := { name := "<init>", desc := "()V", sig := { parameters := [], returnType := none }, accessFlags := 4, code := some k3c0 }
/-- java/lang/Record -/
def k3 : Class := { plain "java/lang/Record" (some 0) with
  accessFlags := 1057
  interfaces := #[]
  cf := some (fileOf pool3 7 #[] #[{ accessFlags := 4, nameIndex := 5, descriptorIndex := 6, attributes := #[] }] 1057 2 #[] #[])
  fields := #[]
  methods := #[k3m0]
  instanceTypes := #[]
  staticTypes := #[]
  resolved := Array.replicate 22 none
  statics := none }

def pool4 : Array CpInfo := pool [(1, .methodref 2 3), (0, .class_ 4), (0, .nameAndType 5 6), (0, u "java/lang/Record"), (0, u "<init>"), (0, u "()V"), (0, .fieldref 8 9), (0, .class_ 10), (0, .nameAndType 11 12), (0, u "orderwire/orders/NewOrder"), (0, u "owner"), (0, u "Ljava/lang/String;"), (0, .fieldref 8 14), (0, .nameAndType 15 12), (0, u "clOrdId"), (0, .fieldref 8 17), (0, .nameAndType 18 12), (0, u "trader"), (0, .fieldref 8 20), (0, .nameAndType 21 12), (0, u "symbol"), (0, .fieldref 8 23), (0, .nameAndType 24 25), (0, u "side"), (0, u "Lorderwire/book/Side;"), (0, .fieldref 8 27), (0, .nameAndType 28 29), (0, u "type"), (0, u "Lorderwire/orders/OrderType;"), (0, .fieldref 8 31), (0, .nameAndType 32 33), (0, u "timeInForce"), (0, u "Lorderwire/orders/TimeInForce;"), (0, .fieldref 8 35), (0, .nameAndType 36 37), (0, u "quantity"), (0, u "J"), (0, .fieldref 8 39), (0, .nameAndType 40 37), (0, u "price"), (0, .fieldref 8 42), (0, .nameAndType 43 44), (0, u "book"), (0, u "I"), (0, .fieldref 8 46), (0, .nameAndType 47 48), (0, u "capacity"), (0, u "Lorderwire/orders/Capacity;"), (0, .fieldref 8 50), (0, .nameAndType 51 52), (0, u "accountType"), (0, u "Lorderwire/orders/AccountType;"), (2, u "(Ljava/lang/String;Ljava/lang/String;Ljava/lang/String;Ljava/lang/String;Lorderwire/book/Side;Lorderwire/orders/OrderType;Lorderwire/orders/TimeInForce;JJILorderwire/orders/Capacity;Lorderwire/orders/AccountType;)V"), (12, u "INTEGRATED_BOOK"), (2, u "DARK_MIDPOINT_BOOK"), (12, u "()J")] 33

def k4c0 : Code := { maxStack := 3, maxLocals := 15, code := prog_109_method_1_code, exceptionTable := #[], attributes := #[] }
def k4m0 : Method := { name := "<init>", desc := "(Ljava/lang/String;Ljava/lang/String;Ljava/lang/String;Ljava/lang/String;Lorderwire/book/Side;Lorderwire/orders/OrderType;Lorderwire/orders/TimeInForce;JJILorderwire/orders/Capacity;Lorderwire/orders/AccountType;)V", sig := { parameters := [(.object "java/lang/String"), (.object "java/lang/String"), (.object "java/lang/String"), (.object "java/lang/String"), (.object "orderwire/book/Side"), (.object "orderwire/orders/OrderType"), (.object "orderwire/orders/TimeInForce"), .long, .long, .int, (.object "orderwire/orders/Capacity"), (.object "orderwire/orders/AccountType")], returnType := none }, accessFlags := 1, code := some k4c0 }
def k4c1 : Code := { maxStack := 2, maxLocals := 1, code := prog_109_method_13_code, exceptionTable := #[], attributes := #[] }
def k4m1 : Method := { name := "quantity", desc := "()J", sig := { parameters := [], returnType := some .long }, accessFlags := 1, code := some k4c1 }
/-- orderwire/orders/NewOrder -/
def k4 : Class := { plain "orderwire/orders/NewOrder" (some 3) with
  accessFlags := 49
  interfaces := #[]
  cf := some (fileOf pool4 8 #[] #[{ accessFlags := 1, nameIndex := 5, descriptorIndex := 55, attributes := #[] }, { accessFlags := 1, nameIndex := 36, descriptorIndex := 84, attributes := #[] }] 49 2 #[] #[{ accessFlags := 18, nameIndex := 11, descriptorIndex := 12, attributes := #[] }, { accessFlags := 18, nameIndex := 15, descriptorIndex := 12, attributes := #[] }, { accessFlags := 18, nameIndex := 18, descriptorIndex := 12, attributes := #[] }, { accessFlags := 18, nameIndex := 21, descriptorIndex := 12, attributes := #[] }, { accessFlags := 18, nameIndex := 24, descriptorIndex := 25, attributes := #[] }, { accessFlags := 18, nameIndex := 28, descriptorIndex := 29, attributes := #[] }, { accessFlags := 18, nameIndex := 32, descriptorIndex := 33, attributes := #[] }, { accessFlags := 18, nameIndex := 36, descriptorIndex := 37, attributes := #[] }, { accessFlags := 18, nameIndex := 40, descriptorIndex := 37, attributes := #[] }, { accessFlags := 18, nameIndex := 43, descriptorIndex := 44, attributes := #[] }, { accessFlags := 18, nameIndex := 47, descriptorIndex := 48, attributes := #[] }, { accessFlags := 18, nameIndex := 51, descriptorIndex := 52, attributes := #[] }, { accessFlags := 25, nameIndex := 68, descriptorIndex := 44, attributes := #[] }, { accessFlags := 25, nameIndex := 71, descriptorIndex := 44, attributes := #[] }])
  fields := #[{ name := "owner", type := (.object "java/lang/String"), accessFlags := 18, slot := 0, constantValue := 0 }, { name := "clOrdId", type := (.object "java/lang/String"), accessFlags := 18, slot := 1, constantValue := 0 }, { name := "trader", type := (.object "java/lang/String"), accessFlags := 18, slot := 2, constantValue := 0 }, { name := "symbol", type := (.object "java/lang/String"), accessFlags := 18, slot := 3, constantValue := 0 }, { name := "side", type := (.object "orderwire/book/Side"), accessFlags := 18, slot := 4, constantValue := 0 }, { name := "type", type := (.object "orderwire/orders/OrderType"), accessFlags := 18, slot := 5, constantValue := 0 }, { name := "timeInForce", type := (.object "orderwire/orders/TimeInForce"), accessFlags := 18, slot := 6, constantValue := 0 }, { name := "quantity", type := .long, accessFlags := 18, slot := 7, constantValue := 0 }, { name := "price", type := .long, accessFlags := 18, slot := 8, constantValue := 0 }, { name := "book", type := .int, accessFlags := 18, slot := 9, constantValue := 0 }, { name := "capacity", type := (.object "orderwire/orders/Capacity"), accessFlags := 18, slot := 10, constantValue := 0 }, { name := "accountType", type := (.object "orderwire/orders/AccountType"), accessFlags := 18, slot := 11, constantValue := 0 }, { name := "INTEGRATED_BOOK", type := .int, accessFlags := 25, slot := 0, constantValue := 0 }, { name := "DARK_MIDPOINT_BOOK", type := .int, accessFlags := 25, slot := 1, constantValue := 0 }]
  methods := #[k4m0, k4m1]
  instanceTypes := #[(.object "java/lang/String"), (.object "java/lang/String"), (.object "java/lang/String"), (.object "java/lang/String"), (.object "orderwire/book/Side"), (.object "orderwire/orders/OrderType"), (.object "orderwire/orders/TimeInForce"), .long, .long, .int, (.object "orderwire/orders/Capacity"), (.object "orderwire/orders/AccountType")]
  staticTypes := #[.int, .int]
  resolved := Array.replicate 118 none
  statics := none }

def pool5 : Array CpInfo := pool [(1, .class_ 2), (0, u "java/io/Serializable"), (0, .class_ 4), (0, u "java/lang/Object")] 2

/-- java/io/Serializable -/
def k5 : Class := { plain "java/io/Serializable" (some 0) with
  accessFlags := 1537
  interfaces := #[]
  cf := some (fileOf pool5 1 #[] #[] 1537 3 #[] #[])
  fields := #[]
  methods := #[]
  instanceTypes := #[]
  staticTypes := #[]
  resolved := Array.replicate 7 none
  statics := none }

def pool6 : Array CpInfo := pool [(1, .methodref 2 3), (0, .class_ 4), (0, .nameAndType 5 6), (0, u "java/lang/Object"), (0, u "<init>"), (0, u "()V"), (1, .class_ 10), (1, u "java/lang/Number"), (2, .class_ 14), (0, u "java/io/Serializable"), (0, u "serialVersionUID"), (0, u "J")] 20

def k6c0 : Code := { maxStack := 1, maxLocals := 1, code := jdk_18_method_1_code, exceptionTable := #[], attributes := #[] }
def k6m0 : Method := { name := "<init>", desc := "()V", sig := { parameters := [], returnType := none }, accessFlags := 1, code := some k6c0 }
/-- java/lang/Number -/
def k6 : Class := { plain "java/lang/Number" (some 0) with
  accessFlags := 1057
  interfaces := #[5]
  cf := some (fileOf pool6 8 #[] #[{ accessFlags := 1, nameIndex := 5, descriptorIndex := 6, attributes := #[] }] 1057 2 #[13] #[{ accessFlags := 26, nameIndex := 15, descriptorIndex := 16, attributes := #[] }])
  fields := #[{ name := "serialVersionUID", type := .long, accessFlags := 26, slot := 0, constantValue := 0 }]
  methods := #[k6m0]
  instanceTypes := #[]
  staticTypes := #[.long]
  resolved := Array.replicate 37 none
  statics := none }

def pool7 : Array CpInfo := pool [(1, .class_ 2), (0, u "java/lang/Comparable"), (0, .class_ 4), (0, u "java/lang/Object")] 7

/-- java/lang/Comparable -/
def k7 : Class := { plain "java/lang/Comparable" (some 0) with
  accessFlags := 1537
  interfaces := #[]
  cf := some (fileOf pool7 1 #[] #[] 1537 3 #[] #[])
  fields := #[]
  methods := #[]
  instanceTypes := #[]
  staticTypes := #[]
  resolved := Array.replicate 12 none
  statics := none }

def pool8 : Array CpInfo := pool [(1, .class_ 2), (0, u "java/lang/Integer"), (0, .methodref 4 5), (0, .class_ 6), (0, .nameAndType 7 8), (0, u "java/lang/Number"), (0, u "<init>"), (0, u "()V"), (8, .class_ 19), (1, u "java/util/Objects"), (1, u "(III)I"), (0, .fieldref 23 24), (0, .class_ 25), (0, .nameAndType 26 27), (0, u "java/math/BigInteger"), (0, u "ZERO"), (0, u "Ljava/math/BigInteger;"), (0, .fieldref 23 29), (0, .nameAndType 30 31), (0, u "mag"), (0, u "[I"), (0, .fieldref 23 33), (0, .nameAndType 34 35), (0, u "signum"), (0, u "I"), (7, .integer 67108864), (8, u "([I)[I"), (0, .methodref 23 54), (0, .nameAndType 55 52), (0, u "trustedStripLeadingZeroInts"), (26, u "(I)I"), (12, u "bitsPerDigit"), (0, u "[J"), (9, u "digitsPerInt"), (12, u "intRadix"), (10, .long 4294967295), (9, .class_ 142), (1, u "java/util/Arrays"), (32, .methodref 23 176), (0, .nameAndType 7 177), (0, u "([II)V"), (2, u "SMALL_PRIME_PRODUCT"), (3, u "(Ljava/math/BigInteger;)Ljava/math/BigInteger;"), (52, u "valueOf"), (0, u "(J)Ljava/math/BigInteger;"), (2, u "add"), (18, u "ONE"), (6, u "TWO"), (43, u "$assertionsDisabled"), (0, u "Z"), (5, u "multiply"), (26, .long 16), (1, .fieldref 23 348), (0, .nameAndType 349 350), (0, u "posConst"), (0, u "[Ljava/math/BigInteger;"), (0, .long 18446744073709551600), (1, .fieldref 23 354), (0, .nameAndType 355 350), (0, u "negConst"), (0, .methodref 23 357), (0, .nameAndType 7 358), (0, u "(J)V"), (3, .methodref 23 363), (0, .nameAndType 241 364), (0, u "([I[I)[I"), (23, .methodref 389 390), (0, .class_ 391), (0, .nameAndType 392 393), (0, u "java/lang/System"), (0, u "arraycopy"), (0, u "(Ljava/lang/Object;ILjava/lang/Object;II)V"), (3, .methodref 23 398), (0, .nameAndType 318 399), (0, u "(Ljava/math/BigInteger;ZZI)Ljava/math/BigInteger;"), (3, .methodref 23 404), (0, .nameAndType 405 406), (0, u "multiplyByInt"), (0, u "([III)Ljava/math/BigInteger;"), (0, .methodref 23 408), (0, .nameAndType 409 410), (0, u "multiplyToLen"), (0, u "([II[II[I)[I"), (12, .methodref 1 424), (0, .nameAndType 425 82), (0, u "bitCount"), (0, .methodref 1 427), (0, .nameAndType 428 82), (0, u "numberOfTrailingZeros"), (0, .methodref 23 430), (0, .nameAndType 431 432), (0, u "shiftLeft"), (0, u "([II)[I"), (0, .methodref 140 434), (0, .nameAndType 435 436), (0, u "copyOfRange"), (0, u "([III)[I"), (4, .methodref 23 442), (0, .nameAndType 443 177), (0, u "multiplyToLenCheck"), (0, .methodref 23 445), (0, .nameAndType 446 410), (0, u "implMultiplyToLen"), (0, .methodref 17 448), (0, .nameAndType 449 450), (0, u "requireNonNull"), (0, u "(Ljava/lang/Object;)Ljava/lang/Object;"), (21, .class_ 474), (1, u "java/math/BigInteger$RecursiveOp"), (106, u "NEGATIVE_ONE"), (29, .methodref 17 612), (0, .nameAndType 613 21), (0, u "checkFromToIndex"), (3, u "([I[IIII)V"), (0, .methodref 23 619), (0, .nameAndType 620 617), (0, u "shiftLeftImplWorker"), (52, u "bnExpModThreshTable"), (72, u "lowestSetBitPlusTwo"), (2, u "bitLengthPlusOne"), (2, u "bitCountPlusOne"), (6, u "LOG_TWO"), (0, u "D"), (2, u "logCache"), (0, u "[D"), (13, u "NUM_ZEROS"), (2, u "ZEROS"), (0, u "Ljava/lang/String;"), (9, u "longRadix"), (5, u "digitsPerLong"), (22, u "powerCache"), (0, u "[[Ljava/math/BigInteger;"), (45, u "firstNonzeroIntNumPlusTwo"), (38, .class_ 909), (1, u "java/math/BigInteger$UnsafeHolder"), (141, u "TEN"), (106, u "serialPersistentFields"), (0, u "[Ljava/io/ObjectStreamField;"), (0, .class_ 1161), (0, u "java/lang/Comparable"), (0, u "LONG_MASK"), (0, u "J"), (1, u "MAX_MAG_LENGTH"), (0, u "PRIME_SEARCH_BIT_LENGTH_LIMIT"), (1, u "KARATSUBA_THRESHOLD"), (1, u "TOOM_COOK_THRESHOLD"), (1, u "KARATSUBA_SQUARE_THRESHOLD"), (1, u "TOOM_COOK_SQUARE_THRESHOLD"), (1, u "BURNIKEL_ZIEGLER_THRESHOLD"), (0, u "BURNIKEL_ZIEGLER_OFFSET"), (1, u "SCHOENHAGE_BASE_CONVERSION_THRESHOLD"), (1, u "MULTIPLY_SQUARE_THRESHOLD"), (0, u "MONTGOMERY_INTRINSIC_THRESHOLD"), (1, u "SMALL_PRIME_THRESHOLD"), (1, u "DEFAULT_PRIME_CERTAINTY"), (1, u "MAX_CONSTANT"), (3, u "serialVersionUID"), (338, .class_ 1532), (0, u "java/math/BigInteger$RecursiveOp$RecursiveSquare"), (0, .class_ 1534), (0, u "java/math/BigInteger$RecursiveOp$RecursiveMultiply")] 7

def k8c0 : Code := { maxStack := 2, maxLocals := 3, code := jdk_2097_method_25_code, exceptionTable := #[], attributes := #[] }
def k8m0 : Method := { name := "<init>", desc := "([II)V", sig := { parameters := [(.array .int), .int], returnType := none }, accessFlags := 0, code := some k8c0 }
def k8c1 : Code := { maxStack := 4, maxLocals := 2, code := jdk_2097_method_29_code, exceptionTable := #[], attributes := #[] }
def k8m1 : Method := { name := "valueOf", desc := "(J)Ljava/math/BigInteger;", sig := { parameters := [.long], returnType := some (.object "java/math/BigInteger") }, accessFlags := 9, code := some k8c1 }
def k8c2 : Code := { maxStack := 4, maxLocals := 4, code := jdk_2097_method_30_code, exceptionTable := #[], attributes := #[] }
def k8m2 : Method := { name := "<init>", desc := "(J)V", sig := { parameters := [.long], returnType := none }, accessFlags := 2, code := some k8c2 }
def k8c3 : Code := { maxStack := 5, maxLocals := 4, code := jdk_2097_method_32_code, exceptionTable := #[], attributes := #[] }
def k8m3 : Method := { name := "add", desc := "(Ljava/math/BigInteger;)Ljava/math/BigInteger;", sig := { parameters := [(.object "java/math/BigInteger")], returnType := some (.object "java/math/BigInteger") }, accessFlags := 1, code := some k8c3 }
def k8c4 : Code := { maxStack := 6, maxLocals := 9, code := jdk_2097_method_35_code, exceptionTable := #[], attributes := #[] }
def k8m4 : Method := { name := "add", desc := "([I[I)[I", sig := { parameters := [(.array .int), (.array .int)], returnType := some (.array .int) }, accessFlags := 10, code := some k8c4 }
def k8c5 : Code := { maxStack := 5, maxLocals := 2, code := jdk_2097_method_40_code, exceptionTable := #[], attributes := #[] }
def k8m5 : Method := { name := "multiply", desc := "(Ljava/math/BigInteger;)Ljava/math/BigInteger;", sig := { parameters := [(.object "java/math/BigInteger")], returnType := some (.object "java/math/BigInteger") }, accessFlags := 1, code := some k8c5 }
def k8c6 : Code := { maxStack := 5, maxLocals := 9, code := jdk_2097_method_42_code, exceptionTable := #[], attributes := #[] }
def k8m6 : Method := { name := "multiply", desc := "(Ljava/math/BigInteger;ZZI)Ljava/math/BigInteger;", sig := { parameters := [(.object "java/math/BigInteger"), .boolean, .boolean, .int], returnType := some (.object "java/math/BigInteger") }, accessFlags := 2, code := some k8c6 }
def k8c7 : Code := { maxStack := 4, maxLocals := 13, code := jdk_2097_method_43_code, exceptionTable := #[], attributes := #[] }
def k8m7 : Method := { name := "multiplyByInt", desc := "([III)Ljava/math/BigInteger;", sig := { parameters := [(.array .int), .int, .int], returnType := some (.object "java/math/BigInteger") }, accessFlags := 10, code := some k8c7 }
def k8c8 : Code := { maxStack := 5, maxLocals := 5, code := jdk_2097_method_45_code, exceptionTable := #[], attributes := #[] }
def k8m8 : Method := { name := "multiplyToLen", desc := "([II[II[I)[I", sig := { parameters := [(.array .int), .int, (.array .int), .int, (.array .int)], returnType := some (.array .int) }, accessFlags := 10, code := some k8c8 }
def k8c9 : Code := { maxStack := 6, maxLocals := 14, code := jdk_2097_method_46_code, exceptionTable := #[], attributes := #[] }
def k8m9 : Method := { name := "implMultiplyToLen", desc := "([II[II[I)[I", sig := { parameters := [(.array .int), .int, (.array .int), .int, (.array .int)], returnType := some (.array .int) }, accessFlags := 10, code := some k8c9 }
def k8c10 : Code := { maxStack := 4, maxLocals := 2, code := jdk_2097_method_47_code, exceptionTable := #[], attributes := #[] }
def k8m10 : Method := { name := "multiplyToLenCheck", desc := "([II)V", sig := { parameters := [(.array .int), .int], returnType := none }, accessFlags := 10, code := some k8c10 }
def k8c11 : Code := { maxStack := 5, maxLocals := 10, code := jdk_2097_method_102_code, exceptionTable := #[], attributes := #[] }
def k8m11 : Method := { name := "shiftLeft", desc := "([II)[I", sig := { parameters := [(.array .int), .int], returnType := some (.array .int) }, accessFlags := 10, code := some k8c11 }
def k8c12 : Code := { maxStack := 5, maxLocals := 7, code := jdk_2097_method_103_code, exceptionTable := #[], attributes := #[] }
def k8m12 : Method := { name := "shiftLeftImplWorker", desc := "([I[IIII)V", sig := { parameters := [(.array .int), (.array .int), .int, .int, .int], returnType := none }, accessFlags := 10, code := some k8c12 }
def k8c13 : Code := { maxStack := 3, maxLocals := 3, code := jdk_2097_method_140_code, exceptionTable := #[], attributes := #[] }
def k8m13 : Method := { name := "trustedStripLeadingZeroInts", desc := "([I)[I", sig := { parameters := [(.array .int)], returnType := some (.array .int) }, accessFlags := 10, code := some k8c13 }
/-- java/math/BigInteger -/
def k8 : Class := { plain "java/math/BigInteger" (some 6) with
  accessFlags := 33
  interfaces := #[7]
  cf := some (fileOf pool8 23 #[.nestMembers #[907, 472, 1531, 1533]] #[{ accessFlags := 0, nameIndex := 7, descriptorIndex := 177, attributes := #[] }, { accessFlags := 9, nameIndex := 237, descriptorIndex := 238, attributes := #[] }, { accessFlags := 2, nameIndex := 7, descriptorIndex := 358, attributes := #[] }, { accessFlags := 1, nameIndex := 241, descriptorIndex := 184, attributes := #[] }, { accessFlags := 10, nameIndex := 241, descriptorIndex := 364, attributes := #[] }, { accessFlags := 1, nameIndex := 318, descriptorIndex := 184, attributes := #[] }, { accessFlags := 2, nameIndex := 318, descriptorIndex := 399, attributes := #[] }, { accessFlags := 10, nameIndex := 405, descriptorIndex := 406, attributes := #[] }, { accessFlags := 10, nameIndex := 409, descriptorIndex := 410, attributes := #[] }, { accessFlags := 10, nameIndex := 446, descriptorIndex := 410, attributes := #[] }, { accessFlags := 10, nameIndex := 443, descriptorIndex := 177, attributes := #[] }, { accessFlags := 10, nameIndex := 431, descriptorIndex := 432, attributes := #[] }, { accessFlags := 10, nameIndex := 620, descriptorIndex := 617, attributes := #[] }, { accessFlags := 10, nameIndex := 55, descriptorIndex := 52, attributes := #[] }] 33 4 #[1160] #[{ accessFlags := 16, nameIndex := 34, descriptorIndex := 35, attributes := #[] }, { accessFlags := 16, nameIndex := 30, descriptorIndex := 31, attributes := #[] }, { accessFlags := 2, nameIndex := 752, descriptorIndex := 35, attributes := #[] }, { accessFlags := 2, nameIndex := 749, descriptorIndex := 35, attributes := #[] }, { accessFlags := 2, nameIndex := 746, descriptorIndex := 35, attributes := #[] }, { accessFlags := 2, nameIndex := 868, descriptorIndex := 35, attributes := #[] }, { accessFlags := 24, nameIndex := 1162, descriptorIndex := 1163, attributes := #[] }, { accessFlags := 26, nameIndex := 1165, descriptorIndex := 35, attributes := #[] }, { accessFlags := 26, nameIndex := 1166, descriptorIndex := 35, attributes := #[] }, { accessFlags := 26, nameIndex := 1168, descriptorIndex := 35, attributes := #[] }, { accessFlags := 26, nameIndex := 1170, descriptorIndex := 35, attributes := #[] }, { accessFlags := 26, nameIndex := 1172, descriptorIndex := 35, attributes := #[] }, { accessFlags := 26, nameIndex := 1174, descriptorIndex := 35, attributes := #[] }, { accessFlags := 24, nameIndex := 1176, descriptorIndex := 35, attributes := #[] }, { accessFlags := 24, nameIndex := 1177, descriptorIndex := 35, attributes := #[] }, { accessFlags := 26, nameIndex := 1179, descriptorIndex := 35, attributes := #[] }, { accessFlags := 26, nameIndex := 1181, descriptorIndex := 35, attributes := #[] }, { accessFlags := 26, nameIndex := 1182, descriptorIndex := 35, attributes := #[] }, { accessFlags := 10, nameIndex := 95, descriptorIndex := 96, attributes := #[] }, { accessFlags := 26, nameIndex := 1184, descriptorIndex := 35, attributes := #[] }, { accessFlags := 26, nameIndex := 1186, descriptorIndex := 35, attributes := #[] }, { accessFlags := 26, nameIndex := 180, descriptorIndex := 27, attributes := #[] }, { accessFlags := 26, nameIndex := 1188, descriptorIndex := 35, attributes := #[] }, { accessFlags := 26, nameIndex := 349, descriptorIndex := 350, attributes := #[] }, { accessFlags := 26, nameIndex := 355, descriptorIndex := 350, attributes := #[] }, { accessFlags := 74, nameIndex := 821, descriptorIndex := 822, attributes := #[] }, { accessFlags := 26, nameIndex := 763, descriptorIndex := 764, attributes := #[] }, { accessFlags := 26, nameIndex := 759, descriptorIndex := 760, attributes := #[] }, { accessFlags := 25, nameIndex := 26, descriptorIndex := 27, attributes := #[] }, { accessFlags := 25, nameIndex := 260, descriptorIndex := 27, attributes := #[] }, { accessFlags := 25, nameIndex := 267, descriptorIndex := 27, attributes := #[] }, { accessFlags := 26, nameIndex := 581, descriptorIndex := 27, attributes := #[] }, { accessFlags := 25, nameIndex := 1051, descriptorIndex := 27, attributes := #[] }, { accessFlags := 8, nameIndex := 673, descriptorIndex := 31, attributes := #[] }, { accessFlags := 10, nameIndex := 778, descriptorIndex := 35, attributes := #[] }, { accessFlags := 26, nameIndex := 781, descriptorIndex := 782, attributes := #[] }, { accessFlags := 10, nameIndex := 798, descriptorIndex := 31, attributes := #[] }, { accessFlags := 10, nameIndex := 792, descriptorIndex := 350, attributes := #[] }, { accessFlags := 10, nameIndex := 106, descriptorIndex := 31, attributes := #[] }, { accessFlags := 10, nameIndex := 119, descriptorIndex := 31, attributes := #[] }, { accessFlags := 26, nameIndex := 1192, descriptorIndex := 1163, attributes := #[] }, { accessFlags := 26, nameIndex := 1158, descriptorIndex := 1159, attributes := #[] }, { accessFlags := 4120, nameIndex := 311, descriptorIndex := 312, attributes := #[] }])
  fields := #[{ name := "signum", type := .int, accessFlags := 16, slot := 0, constantValue := 0 }, { name := "mag", type := (.array .int), accessFlags := 16, slot := 1, constantValue := 0 }, { name := "bitCountPlusOne", type := .int, accessFlags := 2, slot := 2, constantValue := 0 }, { name := "bitLengthPlusOne", type := .int, accessFlags := 2, slot := 3, constantValue := 0 }, { name := "lowestSetBitPlusTwo", type := .int, accessFlags := 2, slot := 4, constantValue := 0 }, { name := "firstNonzeroIntNumPlusTwo", type := .int, accessFlags := 2, slot := 5, constantValue := 0 }, { name := "LONG_MASK", type := .long, accessFlags := 24, slot := 0, constantValue := 0 }, { name := "MAX_MAG_LENGTH", type := .int, accessFlags := 26, slot := 1, constantValue := 0 }, { name := "PRIME_SEARCH_BIT_LENGTH_LIMIT", type := .int, accessFlags := 26, slot := 2, constantValue := 0 }, { name := "KARATSUBA_THRESHOLD", type := .int, accessFlags := 26, slot := 3, constantValue := 0 }, { name := "TOOM_COOK_THRESHOLD", type := .int, accessFlags := 26, slot := 4, constantValue := 0 }, { name := "KARATSUBA_SQUARE_THRESHOLD", type := .int, accessFlags := 26, slot := 5, constantValue := 0 }, { name := "TOOM_COOK_SQUARE_THRESHOLD", type := .int, accessFlags := 26, slot := 6, constantValue := 0 }, { name := "BURNIKEL_ZIEGLER_THRESHOLD", type := .int, accessFlags := 24, slot := 7, constantValue := 0 }, { name := "BURNIKEL_ZIEGLER_OFFSET", type := .int, accessFlags := 24, slot := 8, constantValue := 0 }, { name := "SCHOENHAGE_BASE_CONVERSION_THRESHOLD", type := .int, accessFlags := 26, slot := 9, constantValue := 0 }, { name := "MULTIPLY_SQUARE_THRESHOLD", type := .int, accessFlags := 26, slot := 10, constantValue := 0 }, { name := "MONTGOMERY_INTRINSIC_THRESHOLD", type := .int, accessFlags := 26, slot := 11, constantValue := 0 }, { name := "bitsPerDigit", type := (.array .long), accessFlags := 10, slot := 12, constantValue := 0 }, { name := "SMALL_PRIME_THRESHOLD", type := .int, accessFlags := 26, slot := 13, constantValue := 0 }, { name := "DEFAULT_PRIME_CERTAINTY", type := .int, accessFlags := 26, slot := 14, constantValue := 0 }, { name := "SMALL_PRIME_PRODUCT", type := (.object "java/math/BigInteger"), accessFlags := 26, slot := 15, constantValue := 0 }, { name := "MAX_CONSTANT", type := .int, accessFlags := 26, slot := 16, constantValue := 0 }, { name := "posConst", type := (.array (.object "java/math/BigInteger")), accessFlags := 26, slot := 17, constantValue := 0 }, { name := "negConst", type := (.array (.object "java/math/BigInteger")), accessFlags := 26, slot := 18, constantValue := 0 }, { name := "powerCache", type := (.array (.array (.object "java/math/BigInteger"))), accessFlags := 74, slot := 19, constantValue := 0 }, { name := "logCache", type := (.array .double), accessFlags := 26, slot := 20, constantValue := 0 }, { name := "LOG_TWO", type := .double, accessFlags := 26, slot := 21, constantValue := 0 }, { name := "ZERO", type := (.object "java/math/BigInteger"), accessFlags := 25, slot := 22, constantValue := 0 }, { name := "ONE", type := (.object "java/math/BigInteger"), accessFlags := 25, slot := 23, constantValue := 0 }, { name := "TWO", type := (.object "java/math/BigInteger"), accessFlags := 25, slot := 24, constantValue := 0 }, { name := "NEGATIVE_ONE", type := (.object "java/math/BigInteger"), accessFlags := 26, slot := 25, constantValue := 0 }, { name := "TEN", type := (.object "java/math/BigInteger"), accessFlags := 25, slot := 26, constantValue := 0 }, { name := "bnExpModThreshTable", type := (.array .int), accessFlags := 8, slot := 27, constantValue := 0 }, { name := "NUM_ZEROS", type := .int, accessFlags := 10, slot := 28, constantValue := 0 }, { name := "ZEROS", type := (.object "java/lang/String"), accessFlags := 26, slot := 29, constantValue := 0 }, { name := "digitsPerLong", type := (.array .int), accessFlags := 10, slot := 30, constantValue := 0 }, { name := "longRadix", type := (.array (.object "java/math/BigInteger")), accessFlags := 10, slot := 31, constantValue := 0 }, { name := "digitsPerInt", type := (.array .int), accessFlags := 10, slot := 32, constantValue := 0 }, { name := "intRadix", type := (.array .int), accessFlags := 10, slot := 33, constantValue := 0 }, { name := "serialVersionUID", type := .long, accessFlags := 26, slot := 34, constantValue := 0 }, { name := "serialPersistentFields", type := (.array (.object "java/io/ObjectStreamField")), accessFlags := 26, slot := 35, constantValue := 0 }, { name := "$assertionsDisabled", type := .boolean, accessFlags := 4120, slot := 36, constantValue := 0 }]
  methods := #[k8m0, k8m1, k8m2, k8m3, k8m4, k8m5, k8m6, k8m7, k8m8, k8m9, k8m10, k8m11, k8m12, k8m13]
  instanceTypes := #[.int, (.array .int), .int, .int, .int, .int]
  staticTypes := #[.long, .int, .int, .int, .int, .int, .int, .int, .int, .int, .int, .int, (.array .long), .int, .int, (.object "java/math/BigInteger"), .int, (.array (.object "java/math/BigInteger")), (.array (.object "java/math/BigInteger")), (.array (.array (.object "java/math/BigInteger"))), (.array .double), .double, (.object "java/math/BigInteger"), (.object "java/math/BigInteger"), (.object "java/math/BigInteger"), (.object "java/math/BigInteger"), (.object "java/math/BigInteger"), (.array .int), .int, (.object "java/lang/String"), (.array .int), (.array (.object "java/math/BigInteger")), (.array .int), (.array .int), .long, (.array (.object "java/io/ObjectStreamField")), .boolean]
  resolved := Array.replicate 1542 none
  statics := some 0 }

def pool9 : Array CpInfo := pool [(1, .class_ 2), (0, u "java/lang/constant/Constable"), (0, .class_ 4), (0, u "java/lang/Object")] 6

/-- java/lang/constant/Constable -/
def k9 : Class := { plain "java/lang/constant/Constable" (some 0) with
  accessFlags := 1537
  interfaces := #[]
  cf := some (fileOf pool9 1 #[] #[] 1537 3 #[] #[])
  fields := #[]
  methods := #[]
  instanceTypes := #[]
  staticTypes := #[]
  resolved := Array.replicate 11 none
  statics := none }

def pool10 : Array CpInfo := pool [(1, .class_ 2), (0, u "java/lang/constant/ConstantDesc"), (0, .class_ 4), (0, u "java/lang/Object")] 32

/-- java/lang/constant/ConstantDesc -/
def k10 : Class := { plain "java/lang/constant/ConstantDesc" (some 0) with
  accessFlags := 1537
  interfaces := #[]
  cf := some (fileOf pool10 1 #[] #[] 1537 3 #[] #[])
  fields := #[]
  methods := #[]
  instanceTypes := #[]
  staticTypes := #[]
  resolved := Array.replicate 37 none
  statics := none }

def pool11 : Array CpInfo := pool [(1, .class_ 2), (0, u "java/lang/Integer"), (16, u "digits"), (0, u "[C"), (33, u "(I)I"), (30, u "DigitOnes"), (0, u "[B"), (2, u "DigitTens"), (99, .class_ 190), (0, u "java/lang/Integer$IntegerCache"), (3, u "I"), (8, .class_ 204), (0, u "java/lang/Number"), (2, u "value"), (56, .integer 65536), (0, .integer 1431655765), (0, .integer 858993459), (0, .integer 252645135), (34, u "TYPE"), (0, u "Ljava/lang/Class;"), (0, .class_ 305), (0, u "java/lang/Comparable"), (0, .class_ 307), (0, u "java/lang/constant/Constable"), (0, .class_ 309), (0, u "java/lang/constant/ConstantDesc"), (0, u "MIN_VALUE"), (1, u "MAX_VALUE"), (3, u "SIZE"), (1, u "BYTES"), (1, u "serialVersionUID"), (0, u "J"), (84, u "numberOfTrailingZeros"), (0, u "bitCount")] 45

def k11c0 : Code := { maxStack := 3, maxLocals := 2, code := jdk_33_method_48_code, exceptionTable := #[], attributes := #[] }
def k11m0 : Method := { name := "numberOfTrailingZeros", desc := "(I)I", sig := { parameters := [.int], returnType := some .int }, accessFlags := 9, code := some k11c0 }
def k11c1 : Code := { maxStack := 3, maxLocals := 1, code := jdk_33_method_49_code, exceptionTable := #[], attributes := #[] }
def k11m1 : Method := { name := "bitCount", desc := "(I)I", sig := { parameters := [.int], returnType := some .int }, accessFlags := 9, code := some k11c1 }
/-- java/lang/Integer -/
def k11 : Class := { plain "java/lang/Integer" (some 6) with
  accessFlags := 49
  interfaces := #[7, 9, 10]
  cf := some (fileOf pool11 1 #[.nestMembers #[189]] #[{ accessFlags := 9, nameIndex := 406, descriptorIndex := 54, attributes := #[] }, { accessFlags := 9, nameIndex := 407, descriptorIndex := 54, attributes := #[] }] 49 203 #[304, 306, 308] #[{ accessFlags := 25, nameIndex := 310, descriptorIndex := 194, attributes := #[] }, { accessFlags := 25, nameIndex := 312, descriptorIndex := 194, attributes := #[] }, { accessFlags := 25, nameIndex := 302, descriptorIndex := 303, attributes := #[] }, { accessFlags := 24, nameIndex := 19, descriptorIndex := 20, attributes := #[] }, { accessFlags := 24, nameIndex := 89, descriptorIndex := 86, attributes := #[] }, { accessFlags := 24, nameIndex := 85, descriptorIndex := 86, attributes := #[] }, { accessFlags := 18, nameIndex := 207, descriptorIndex := 194, attributes := #[] }, { accessFlags := 25, nameIndex := 316, descriptorIndex := 194, attributes := #[] }, { accessFlags := 25, nameIndex := 318, descriptorIndex := 194, attributes := #[] }, { accessFlags := 26, nameIndex := 320, descriptorIndex := 321, attributes := #[] }])
  fields := #[{ name := "MIN_VALUE", type := .int, accessFlags := 25, slot := 0, constantValue := 0 }, { name := "MAX_VALUE", type := .int, accessFlags := 25, slot := 1, constantValue := 0 }, { name := "TYPE", type := (.object "java/lang/Class"), accessFlags := 25, slot := 2, constantValue := 0 }, { name := "digits", type := (.array .char), accessFlags := 24, slot := 3, constantValue := 0 }, { name := "DigitTens", type := (.array .byte), accessFlags := 24, slot := 4, constantValue := 0 }, { name := "DigitOnes", type := (.array .byte), accessFlags := 24, slot := 5, constantValue := 0 }, { name := "value", type := .int, accessFlags := 18, slot := 0, constantValue := 0 }, { name := "SIZE", type := .int, accessFlags := 25, slot := 6, constantValue := 0 }, { name := "BYTES", type := .int, accessFlags := 25, slot := 7, constantValue := 0 }, { name := "serialVersionUID", type := .long, accessFlags := 26, slot := 8, constantValue := 0 }]
  methods := #[k11m0, k11m1]
  instanceTypes := #[.int]
  staticTypes := #[.int, .int, (.object "java/lang/Class"), (.array .char), (.array .byte), (.array .byte), .int, .int, .long]
  resolved := Array.replicate 453 none
  statics := none }

def pool12 : Array CpInfo := pool [(2, .class_ 4), (1, u "java/lang/Object"), (0, u "<init>"), (0, u "()V"), (35, .class_ 44), (1, u "java/util/Objects"), (0, u "requireNonNull"), (0, u "(Ljava/lang/Object;)Ljava/lang/Object;"), (59, .class_ 108), (1, u "jdk/internal/util/Preconditions"), (2, .methodref 106 112), (0, .nameAndType 113 114), (0, u "checkFromToIndex"), (0, u "(IIILjava/util/function/BiFunction;)I"), (60, u "(III)I")] 8

def k12m0 : Method := { name := "<init>", desc := "()V", sig := { parameters := [], returnType := none }, accessFlags := 2, code := none }
def k12c1 : Code := { maxStack := 2, maxLocals := 1, code := jdk_31_method_10_code, exceptionTable := #[], attributes := #[] }
def k12m1 : Method := { name := "requireNonNull", desc := "(Ljava/lang/Object;)Ljava/lang/Object;", sig := { parameters := [(.object "java/lang/Object")], returnType := some (.object "java/lang/Object") }, accessFlags := 9, code := some k12c1 }
def k12c2 : Code := { maxStack := 4, maxLocals := 3, code := jdk_31_method_18_code, exceptionTable := #[], attributes := #[] }
def k12m2 : Method := { name := "checkFromToIndex", desc := "(III)I", sig := { parameters := [.int, .int, .int], returnType := some .int }, accessFlags := 9, code := some k12c2 }
/-- java/util/Objects -/
def k12 : Class := { plain "java/util/Objects" (some 0) with
  accessFlags := 49
  interfaces := #[]
  cf := some (fileOf pool12 42 #[] #[{ accessFlags := 2, nameIndex := 5, descriptorIndex := 6, attributes := #[] }, { accessFlags := 9, nameIndex := 45, descriptorIndex := 46, attributes := #[] }, { accessFlags := 9, nameIndex := 113, descriptorIndex := 175, attributes := #[] }] 49 2 #[] #[])
  fields := #[]
  methods := #[k12m0, k12m1, k12m2]
  instanceTypes := #[]
  staticTypes := #[]
  resolved := Array.replicate 184 none
  statics := none }

def pool13 : Array CpInfo := pool [(2, .class_ 4), (1, u "java/lang/Object"), (0, u "<init>"), (0, u "()V"), (17, .class_ 26), (1, u "jdk/internal/util/Preconditions"), (20, u "checkFromToIndex"), (7, .class_ 56), (0, u "jdk/internal/util/Preconditions$4"), (57, .class_ 115), (0, u "jdk/internal/util/Preconditions$1"), (7, u "SIOOBE_FORMATTER"), (0, u "Ljava/util/function/BiFunction;"), (0, .class_ 126), (0, u "jdk/internal/util/Preconditions$2"), (3, u "AIOOBE_FORMATTER"), (0, .class_ 132), (0, u "jdk/internal/util/Preconditions$3"), (3, u "IOOBE_FORMATTER"), (46, u "(IIILjava/util/function/BiFunction;)I")] 10

def k13m0 : Method := { name := "<init>", desc := "()V", sig := { parameters := [], returnType := none }, accessFlags := 1, code := none }
def k13c1 : Code := { maxStack := 4, maxLocals := 4, code := jdk_41_method_12_code, exceptionTable := #[], attributes := #[] }
def k13m1 : Method := { name := "checkFromToIndex", desc := "(IIILjava/util/function/BiFunction;)I", sig := { parameters := [.int, .int, .int, (.object "java/util/function/BiFunction")], returnType := some .int }, accessFlags := 9, code := some k13c1 }
/-- jdk/internal/util/Preconditions -/
def k13 : Class := { plain "jdk/internal/util/Preconditions" (some 0) with
  accessFlags := 33
  interfaces := #[]
  cf := some (fileOf pool13 24 #[.nestMembers #[55, 131, 125, 114]] #[{ accessFlags := 1, nameIndex := 5, descriptorIndex := 6, attributes := #[] }, { accessFlags := 9, nameIndex := 47, descriptorIndex := 183, attributes := #[] }] 33 2 #[] #[{ accessFlags := 25, nameIndex := 123, descriptorIndex := 124, attributes := #[] }, { accessFlags := 25, nameIndex := 130, descriptorIndex := 124, attributes := #[] }, { accessFlags := 25, nameIndex := 136, descriptorIndex := 124, attributes := #[] }])
  fields := #[{ name := "SIOOBE_FORMATTER", type := (.object "java/util/function/BiFunction"), accessFlags := 25, slot := 0, constantValue := 0 }, { name := "AIOOBE_FORMATTER", type := (.object "java/util/function/BiFunction"), accessFlags := 25, slot := 1, constantValue := 0 }, { name := "IOOBE_FORMATTER", type := (.object "java/util/function/BiFunction"), accessFlags := 25, slot := 2, constantValue := 0 }]
  methods := #[k13m0, k13m1]
  instanceTypes := #[]
  staticTypes := #[(.object "java/util/function/BiFunction"), (.object "java/util/function/BiFunction"), (.object "java/util/function/BiFunction")]
  resolved := Array.replicate 194 none
  statics := none }

def pool14 : Array CpInfo := pool [(2, .class_ 4), (1, u "java/lang/Object"), (0, u "<init>"), (0, u "()V"), (7, .class_ 16), (1, u "java/util/Arrays"), (57, .class_ 76), (1, u "java/util/Arrays$NaturalOrder"), (36, .class_ 115), (1, u "java/util/Arrays$LegacyMergeSort"), (1, u "Z"), (21, u "copyOfRange"), (10, .methodref 151 152), (0, .class_ 153), (0, .nameAndType 154 155), (0, u "java/lang/System"), (0, u "arraycopy"), (0, u "(Ljava/lang/Object;ILjava/lang/Object;II)V"), (148, .methodref 305 306), (0, .class_ 307), (0, .nameAndType 308 309), (0, u "java/lang/Math"), (0, u "min"), (0, u "(II)I"), (33, .methodref 14 344), (0, .nameAndType 345 346), (0, u "checkLength"), (0, u "(II)V"), (4, .methodref 14 352), (0, .nameAndType 353 354), (0, u "copyOfRangeInt"), (0, u "([III)[I"), (20, .class_ 376), (0, u "java/util/Arrays$ArrayList"), (68, u "$assertionsDisabled"), (269, u "MIN_ARRAY_SORT_GRAN"), (0, u "I"), (2, u "INSERTIONSORT_THRESHOLD"), (255, .class_ 976), (0, u "java/util/Arrays$ArrayItr")] 52

def k14m0 : Method := { name := "<init>", desc := "()V", sig := { parameters := [], returnType := none }, accessFlags := 2, code := none }
def k14c1 : Code := { maxStack := 4, maxLocals := 2, code := jdk_65_method_131_code, exceptionTable := #[], attributes := #[] }
def k14m1 : Method := { name := "checkLength", desc := "(II)V", sig := { parameters := [.int, .int], returnType := none }, accessFlags := 10, code := some k14c1 }
def k14c2 : Code := { maxStack := 3, maxLocals := 3, code := jdk_65_method_136_code, exceptionTable := #[], attributes := #[] }
def k14m2 : Method := { name := "copyOfRange", desc := "([III)[I", sig := { parameters := [(.array .int), .int, .int], returnType := some (.array .int) }, accessFlags := 9, code := some k14c2 }
def k14c3 : Code := { maxStack := 6, maxLocals := 5, code := jdk_65_method_137_code, exceptionTable := #[], attributes := #[] }
def k14m3 : Method := { name := "copyOfRangeInt", desc := "([III)[I", sig := { parameters := [(.array .int), .int, .int], returnType := some (.array .int) }, accessFlags := 10, code := some k14c3 }
/-- java/util/Arrays -/
def k14 : Class := { plain "java/util/Arrays" (some 0) with
  accessFlags := 49
  interfaces := #[]
  cf := some (fileOf pool14 14 #[.nestMembers #[975, 375, 113, 74]] #[{ accessFlags := 2, nameIndex := 5, descriptorIndex := 6, attributes := #[] }, { accessFlags := 10, nameIndex := 345, descriptorIndex := 346, attributes := #[] }, { accessFlags := 9, nameIndex := 139, descriptorIndex := 354, attributes := #[] }, { accessFlags := 10, nameIndex := 353, descriptorIndex := 354, attributes := #[] }] 49 2 #[] #[{ accessFlags := 26, nameIndex := 715, descriptorIndex := 716, attributes := #[] }, { accessFlags := 26, nameIndex := 719, descriptorIndex := 716, attributes := #[] }, { accessFlags := 4120, nameIndex := 445, descriptorIndex := 117, attributes := #[] }])
  fields := #[{ name := "MIN_ARRAY_SORT_GRAN", type := .int, accessFlags := 26, slot := 0, constantValue := 0 }, { name := "INSERTIONSORT_THRESHOLD", type := .int, accessFlags := 26, slot := 1, constantValue := 0 }, { name := "$assertionsDisabled", type := .boolean, accessFlags := 4120, slot := 2, constantValue := 0 }]
  methods := #[k14m0, k14m1, k14m2, k14m3]
  instanceTypes := #[]
  staticTypes := #[.int, .int, .boolean]
  resolved := Array.replicate 1029 none
  statics := none }

def pool15 : Array CpInfo := pool [(1, .class_ 2), (0, u "java/lang/Math"), (1, .class_ 6), (1, u "java/lang/Object"), (0, u "<init>"), (0, u "()V"), (89, .class_ 100), (1, u "java/lang/Math$RandomNumberGeneratorHolder"), (71, u "negativeZeroFloatBits"), (0, u "J"), (2, u "negativeZeroDoubleBits"), (24, u "min"), (43, u "$assertionsDisabled"), (0, u "Z"), (88, u "(II)I"), (2, u "twoToTheDoubleScaleDown"), (0, u "D"), (4, u "twoToTheDoubleScaleUp"), (9, u "E"), (3, u "PI"), (2, u "TAU"), (2, u "DEGREES_TO_RADIANS"), (0, u "RADIANS_TO_DEGREES")] 94

def k15m0 : Method := { name := "<init>", desc := "()V", sig := { parameters := [], returnType := none }, accessFlags := 2, code := none }
def k15c1 : Code := { maxStack := 2, maxLocals := 2, code := jdk_29_method_69_code, exceptionTable := #[], attributes := #[] }
def k15m1 : Method := { name := "min", desc := "(II)I", sig := { parameters := [.int, .int], returnType := some .int }, accessFlags := 9, code := some k15c1 }
/-- java/lang/Math -/
def k15 : Class := { plain "java/lang/Math" (some 0) with
  accessFlags := 49
  interfaces := #[]
  cf := some (fileOf pool15 1 #[.nestMembers #[98]] #[{ accessFlags := 2, nameIndex := 7, descriptorIndex := 8, attributes := #[] }, { accessFlags := 9, nameIndex := 201, descriptorIndex := 335, attributes := #[] }] 49 4 #[] #[{ accessFlags := 25, nameIndex := 354, descriptorIndex := 339, attributes := #[] }, { accessFlags := 25, nameIndex := 358, descriptorIndex := 339, attributes := #[] }, { accessFlags := 25, nameIndex := 361, descriptorIndex := 339, attributes := #[] }, { accessFlags := 26, nameIndex := 364, descriptorIndex := 339, attributes := #[] }, { accessFlags := 26, nameIndex := 365, descriptorIndex := 339, attributes := #[] }, { accessFlags := 26, nameIndex := 172, descriptorIndex := 173, attributes := #[] }, { accessFlags := 26, nameIndex := 176, descriptorIndex := 173, attributes := #[] }, { accessFlags := 8, nameIndex := 344, descriptorIndex := 339, attributes := #[] }, { accessFlags := 8, nameIndex := 338, descriptorIndex := 339, attributes := #[] }, { accessFlags := 4120, nameIndex := 245, descriptorIndex := 246, attributes := #[] }])
  fields := #[{ name := "E", type := .double, accessFlags := 25, slot := 0, constantValue := 0 }, { name := "PI", type := .double, accessFlags := 25, slot := 1, constantValue := 0 }, { name := "TAU", type := .double, accessFlags := 25, slot := 2, constantValue := 0 }, { name := "DEGREES_TO_RADIANS", type := .double, accessFlags := 26, slot := 3, constantValue := 0 }, { name := "RADIANS_TO_DEGREES", type := .double, accessFlags := 26, slot := 4, constantValue := 0 }, { name := "negativeZeroFloatBits", type := .long, accessFlags := 26, slot := 5, constantValue := 0 }, { name := "negativeZeroDoubleBits", type := .long, accessFlags := 26, slot := 6, constantValue := 0 }, { name := "twoToTheDoubleScaleUp", type := .double, accessFlags := 8, slot := 7, constantValue := 0 }, { name := "twoToTheDoubleScaleDown", type := .double, accessFlags := 8, slot := 8, constantValue := 0 }, { name := "$assertionsDisabled", type := .boolean, accessFlags := 4120, slot := 9, constantValue := 0 }]
  methods := #[k15m0, k15m1]
  instanceTypes := #[]
  staticTypes := #[.double, .double, .double, .double, .double, .long, .long, .double, .double, .boolean]
  resolved := Array.replicate 460 none
  statics := none }

def pool16 : Array CpInfo := pool [(2, .class_ 4), (1, u "java/lang/Object"), (0, u "<init>"), (0, u "()V"), (1, .class_ 10), (1, u "java/lang/System"), (0, u "allowSecurityManager"), (0, u "I"), (16, u "cons"), (0, u "Ljava/io/Console;"), (77, .class_ 110), (1, u "java/lang/System$CallersHolder"), (43, u "initialErrStream"), (0, u "Ljava/io/PrintStream;"), (19, u "security"), (0, u "Ljava/lang/SecurityManager;"), (31, .class_ 209), (0, u "java/lang/System$1"), (7, u "props"), (0, u "Ljava/util/Properties;"), (2, u "lineSeparator"), (0, u "Ljava/lang/String;"), (96, .class_ 321), (1, u "java/lang/System$LoggerFinder"), (5, .class_ 328), (0, u "java/lang/System$Logger"), (67, u "err"), (2, u "out"), (91, u "notSupportedJnuEncoding"), (15, u "in"), (17, u "initialIn"), (0, u "Ljava/io/InputStream;"), (35, u "bootLayer"), (0, u "Ljava/lang/ModuleLayer;"), (99, .class_ 664), (0, u "java/lang/System$2"), (9, u "NEVER"), (2, u "MAYBE"), (49, u "arraycopy"), (0, u "(Ljava/lang/Object;ILjava/lang/Object;II)V"), (72, .class_ 802), (0, u "java/lang/System$Logger$Level")] 31

def k16m0 : Method := { name := "<init>", desc := "()V", sig := { parameters := [], returnType := none }, accessFlags := 2, code := none }
def k16m1 : Method := { name := "arraycopy", desc := "(Ljava/lang/Object;ILjava/lang/Object;II)V", sig := { parameters := [(.object "java/lang/Object"), .int, (.object "java/lang/Object"), .int, .int], returnType := none }, accessFlags := 265, code := none }
/-- java/lang/System -/
def k16 : Class := { plain "java/lang/System" (some 0) with
  accessFlags := 49
  interfaces := #[]
  cf := some (fileOf pool16 8 #[.nestMembers #[319, 327, 801, 108, 663, 208]] #[{ accessFlags := 2, nameIndex := 5, descriptorIndex := 6, attributes := #[] }, { accessFlags := 265, nameIndex := 727, descriptorIndex := 728, attributes := #[] }] 49 2 #[] #[{ accessFlags := 25, nameIndex := 507, descriptorIndex := 526, attributes := #[] }, { accessFlags := 25, nameIndex := 399, descriptorIndex := 155, attributes := #[] }, { accessFlags := 25, nameIndex := 396, descriptorIndex := 155, attributes := #[] }, { accessFlags := 10, nameIndex := 525, descriptorIndex := 526, attributes := #[] }, { accessFlags := 26, nameIndex := 674, descriptorIndex := 12, attributes := #[] }, { accessFlags := 26, nameIndex := 677, descriptorIndex := 12, attributes := #[] }, { accessFlags := 10, nameIndex := 11, descriptorIndex := 12, attributes := #[] }, { accessFlags := 74, nameIndex := 175, descriptorIndex := 176, attributes := #[] }, { accessFlags := 10, nameIndex := 491, descriptorIndex := 222, attributes := #[] }, { accessFlags := 74, nameIndex := 29, descriptorIndex := 30, attributes := #[] }, { accessFlags := 74, nameIndex := 154, descriptorIndex := 155, attributes := #[] }, { accessFlags := 10, nameIndex := 217, descriptorIndex := 218, attributes := #[] }, { accessFlags := 10, nameIndex := 221, descriptorIndex := 222, attributes := #[] }, { accessFlags := 8, nameIndex := 562, descriptorIndex := 563, attributes := #[] }])
  fields := #[{ name := "in", type := (.object "java/io/InputStream"), accessFlags := 25, slot := 0, constantValue := 0 }, { name := "out", type := (.object "java/io/PrintStream"), accessFlags := 25, slot := 1, constantValue := 0 }, { name := "err", type := (.object "java/io/PrintStream"), accessFlags := 25, slot := 2, constantValue := 0 }, { name := "initialIn", type := (.object "java/io/InputStream"), accessFlags := 10, slot := 3, constantValue := 0 }, { name := "NEVER", type := .int, accessFlags := 26, slot := 4, constantValue := 0 }, { name := "MAYBE", type := .int, accessFlags := 26, slot := 5, constantValue := 0 }, { name := "allowSecurityManager", type := .int, accessFlags := 10, slot := 6, constantValue := 0 }, { name := "security", type := (.object "java/lang/SecurityManager"), accessFlags := 74, slot := 7, constantValue := 0 }, { name := "notSupportedJnuEncoding", type := (.object "java/lang/String"), accessFlags := 10, slot := 8, constantValue := 0 }, { name := "cons", type := (.object "java/io/Console"), accessFlags := 74, slot := 9, constantValue := 0 }, { name := "initialErrStream", type := (.object "java/io/PrintStream"), accessFlags := 74, slot := 10, constantValue := 0 }, { name := "props", type := (.object "java/util/Properties"), accessFlags := 10, slot := 11, constantValue := 0 }, { name := "lineSeparator", type := (.object "java/lang/String"), accessFlags := 10, slot := 12, constantValue := 0 }, { name := "bootLayer", type := (.object "java/lang/ModuleLayer"), accessFlags := 8, slot := 13, constantValue := 0 }]
  methods := #[k16m0, k16m1]
  instanceTypes := #[]
  staticTypes := #[(.object "java/io/InputStream"), (.object "java/io/PrintStream"), (.object "java/io/PrintStream"), (.object "java/io/InputStream"), .int, .int, .int, (.object "java/lang/SecurityManager"), (.object "java/lang/String"), (.object "java/io/Console"), (.object "java/io/PrintStream"), (.object "java/util/Properties"), (.object "java/lang/String"), (.object "java/lang/ModuleLayer")]
  resolved := Array.replicate 834 none
  statics := none }

def pool17 : Array CpInfo := pool [(1, u "java/lang/Cloneable"), (0, .class_ 1), (0, u "java/lang/Object"), (0, .class_ 3)] 3

/-- java/lang/Cloneable -/
def k17 : Class := { plain "java/lang/Cloneable" (some 0) with
  accessFlags := 1537
  interfaces := #[]
  cf := some (fileOf pool17 2 #[] #[] 1537 4 #[] #[])
  fields := #[]
  methods := #[]
  instanceTypes := #[]
  staticTypes := #[]
  resolved := Array.replicate 8 none
  statics := none }

/-- the primitive byte -/
def k18 : Class := { plain "byte" none with kind := .primitive 'B', accessFlags := 0x411 }
/-- [B -/
def k19 : Class := { plain "[B" (some 0) with kind := .array 18 .byte, interfaces := #[17, 5], accessFlags := 1041 }

/-- the primitive int -/
def k20 : Class := { plain "int" none with kind := .primitive 'I', accessFlags := 0x411 }
/-- [I -/
def k21 : Class := { plain "[I" (some 0) with kind := .array 20 .int, interfaces := #[17, 5], accessFlags := 1041 }

/-- [Ljava/math/BigInteger; -/
def k22 : Class := { plain "[Ljava/math/BigInteger;" (some 0) with kind := .array 8 (.object "java/math/BigInteger"), interfaces := #[17, 5], accessFlags := 1041 }

def heap : Heap := #[{ cls := 8, slots := #[.long 0, .int 0, .int 0, .int 0, .int 0, .int 0, .int 0, .int 0, .int 0, .int 0, .int 0, .int 0, .null, .int 0, .int 0, .null, .int 0, .ref 1, .ref 2, .null, .null, .double 0, .ref 52, .ref 4, .ref 7, .ref 5, .ref 31, .null, .int 0, .null, .null, .null, .null, .null, .long 0, .null, .int 0], vm := .statics 8 },
  { cls := 22, slots := #[.null, .ref 4, .ref 7, .ref 10, .ref 13, .ref 16, .ref 19, .ref 22, .ref 25, .ref 28, .ref 31, .ref 34, .ref 37, .ref 40, .ref 43, .ref 46, .ref 49], vm := .none },
  { cls := 22, slots := #[.null, .ref 5, .ref 8, .ref 11, .ref 14, .ref 17, .ref 20, .ref 23, .ref 26, .ref 29, .ref 32, .ref 35, .ref 38, .ref 41, .ref 44, .ref 47, .ref 50], vm := .none },
  { cls := 21, slots := #[.int 1], vm := .none },
  { cls := 8, slots := #[.int 1, .ref 3, .int 0, .int 0, .int 0, .int 0], vm := .none },
  { cls := 8, slots := #[.int (-1), .ref 3, .int 0, .int 0, .int 0, .int 0], vm := .none },
  { cls := 21, slots := #[.int 2], vm := .none },
  { cls := 8, slots := #[.int 1, .ref 6, .int 0, .int 0, .int 0, .int 0], vm := .none },
  { cls := 8, slots := #[.int (-1), .ref 6, .int 0, .int 0, .int 0, .int 0], vm := .none },
  { cls := 21, slots := #[.int 3], vm := .none },
  { cls := 8, slots := #[.int 1, .ref 9, .int 0, .int 0, .int 0, .int 0], vm := .none },
  { cls := 8, slots := #[.int (-1), .ref 9, .int 0, .int 0, .int 0, .int 0], vm := .none },
  { cls := 21, slots := #[.int 4], vm := .none },
  { cls := 8, slots := #[.int 1, .ref 12, .int 0, .int 0, .int 0, .int 0], vm := .none },
  { cls := 8, slots := #[.int (-1), .ref 12, .int 0, .int 0, .int 0, .int 0], vm := .none },
  { cls := 21, slots := #[.int 5], vm := .none },
  { cls := 8, slots := #[.int 1, .ref 15, .int 0, .int 0, .int 0, .int 0], vm := .none },
  { cls := 8, slots := #[.int (-1), .ref 15, .int 0, .int 0, .int 0, .int 0], vm := .none },
  { cls := 21, slots := #[.int 6], vm := .none },
  { cls := 8, slots := #[.int 1, .ref 18, .int 0, .int 0, .int 0, .int 0], vm := .none },
  { cls := 8, slots := #[.int (-1), .ref 18, .int 0, .int 0, .int 0, .int 0], vm := .none },
  { cls := 21, slots := #[.int 7], vm := .none },
  { cls := 8, slots := #[.int 1, .ref 21, .int 0, .int 0, .int 0, .int 0], vm := .none },
  { cls := 8, slots := #[.int (-1), .ref 21, .int 0, .int 0, .int 0, .int 0], vm := .none },
  { cls := 21, slots := #[.int 8], vm := .none },
  { cls := 8, slots := #[.int 1, .ref 24, .int 0, .int 0, .int 0, .int 0], vm := .none },
  { cls := 8, slots := #[.int (-1), .ref 24, .int 0, .int 0, .int 0, .int 0], vm := .none },
  { cls := 21, slots := #[.int 9], vm := .none },
  { cls := 8, slots := #[.int 1, .ref 27, .int 0, .int 0, .int 0, .int 0], vm := .none },
  { cls := 8, slots := #[.int (-1), .ref 27, .int 0, .int 0, .int 0, .int 0], vm := .none },
  { cls := 21, slots := #[.int 10], vm := .none },
  { cls := 8, slots := #[.int 1, .ref 30, .int 0, .int 0, .int 0, .int 0], vm := .none },
  { cls := 8, slots := #[.int (-1), .ref 30, .int 0, .int 0, .int 0, .int 0], vm := .none },
  { cls := 21, slots := #[.int 11], vm := .none },
  { cls := 8, slots := #[.int 1, .ref 33, .int 0, .int 0, .int 0, .int 0], vm := .none },
  { cls := 8, slots := #[.int (-1), .ref 33, .int 0, .int 0, .int 0, .int 0], vm := .none },
  { cls := 21, slots := #[.int 12], vm := .none },
  { cls := 8, slots := #[.int 1, .ref 36, .int 0, .int 0, .int 0, .int 0], vm := .none },
  { cls := 8, slots := #[.int (-1), .ref 36, .int 0, .int 0, .int 0, .int 0], vm := .none },
  { cls := 21, slots := #[.int 13], vm := .none },
  { cls := 8, slots := #[.int 1, .ref 39, .int 0, .int 0, .int 0, .int 0], vm := .none },
  { cls := 8, slots := #[.int (-1), .ref 39, .int 0, .int 0, .int 0, .int 0], vm := .none },
  { cls := 21, slots := #[.int 14], vm := .none },
  { cls := 8, slots := #[.int 1, .ref 42, .int 0, .int 0, .int 0, .int 0], vm := .none },
  { cls := 8, slots := #[.int (-1), .ref 42, .int 0, .int 0, .int 0, .int 0], vm := .none },
  { cls := 21, slots := #[.int 15], vm := .none },
  { cls := 8, slots := #[.int 1, .ref 45, .int 0, .int 0, .int 0, .int 0], vm := .none },
  { cls := 8, slots := #[.int (-1), .ref 45, .int 0, .int 0, .int 0, .int 0], vm := .none },
  { cls := 21, slots := #[.int 16], vm := .none },
  { cls := 8, slots := #[.int 1, .ref 48, .int 0, .int 0, .int 0, .int 0], vm := .none },
  { cls := 8, slots := #[.int (-1), .ref 48, .int 0, .int 0, .int 0, .int 0], vm := .none },
  { cls := 21, slots := #[], vm := .none },
  { cls := 8, slots := #[.int 0, .ref 51, .int 0, .int 0, .int 0, .int 0], vm := .none }]
def classes : Array Class := #[k0, k1, k2, k3, k4, k5, k6, k7, k8, k9, k10, k11, k12, k13, k14, k15, k16, k17, k18, k19, k20, k21, k22]
def interned : List (Array UInt16 × Addr) := []
def slotsUsed : Nat := 285
def theMethod : MethodId := ⟨1, 2⟩
def args0 : Array Value := #[.long 5, .long 7, .long 9, .long 11, .int 5, .long 3]
def aboutOver (below : List Frame) : State where
  vm := { classes := classes, interned := interned.toArray }
  heap := heap
  slotsUsed := slotsUsed
  threads := #[{ frames := .invoking theMethod args0 :: below }]
def below0 : List Frame := [.native { method := ⟨0, 0⟩, args := #[] }]
def about1 : State := aboutOver below0
def p0 : Program := .bare "" "" ""
def e0 : Env := launch0.env 0 0 0
theorem w_frames : about1.frames = Frame.invoking theMethod args0 :: below0 := rfl
set_option maxRecDepth 65536 in
theorem w_args : argsFit about1.vm theMethod args0 = true := by decide +kernel
set_option maxRecDepth 65536 in
theorem w_heap : heapFits about1 = true := by decide +kernel
set_option maxRecDepth 65536 in
theorem w_runnable : about1.curStatus? = some .runnable := by decide +kernel
set_option maxRecDepth 65536 in
theorem w_alone : about1.alone = true := by decide +kernel
set_option maxRecDepth 65536 in
theorem w_named : about1.methodNamed? x = some theMethod := by decide +kernel
set_option maxRecDepth 65536 in
theorem w_hears : about1.hears theMethod below0 = true := by decide +kernel
set_option maxRecDepth 65536 in
theorem w_ripe : about1.ripe theMethod args0 below0 = true := by decide +kernel
theorem w_running : about1.status = .running := rfl
set_option maxRecDepth 65536 in
theorem w_room : about1.hasRoom e0.platform room_1 = true :=
  launch0.hasRoom_least _ room_1 (by decide +kernel) (by decide +kernel) (by decide +kernel) (by decide +kernel) (by decide +kernel) (by decide +kernel)
theorem allAtoms_all (ts : List Jvm.Cond) (a : Array Jvm.Value) (st : Jvm.State) : (allAtoms ts).before a st = ts.all (fun c => c.before a st) := by
  induction ts with
  | nil => rfl
  | cons c t ih =>
    show (Jvm.Cond.and c (allAtoms t)).before a st = _
    rw [Jvm.Cond.before_and, ih, List.all_cons]
def words1 : List Jvm.Cond := Jvm.Cond.code x code maxLocals ret :: tables_1
/-- a 'code' word, met by the world's own term for the bytes: nothing is compared byte by byte -/
theorem code_word {y : MethodName} {bytes : ByteArray} {mx : Nat} {rt : Option FieldType} {a : Array Value} {s : State} {m : MethodId} {meth : Method} {c : Code} (h1 : s.methodNamed? y = some m) (h2 : s.vm.method? m = some meth) (h3 : meth.code = some c) (h4 : c.code = bytes)
    (h5 : (c.maxLocals == mx && c.exceptionTable.isEmpty && decide (c.maxStack ≤ mostOperands) && decide (meth.sig.returnType = rt) && !meth.locks && decide (parseMethodDescriptor y.desc = some meth.sig)) = true) : (Jvm.Cond.code y bytes mx rt).before a s = true := by
  simp only [Bool.and_eq_true, beq_iff_eq, Bool.not_eq_true', decide_eq_true_eq] at h5
  obtain ⟨⟨⟨⟨⟨g1, g2⟩, g3⟩, g4⟩, g5⟩, g6⟩ := h5
  simp [Cond.before, Cond.holds, Cond.value, h1, h2, h3, h4, g1, g2, g3, g4, g5, g6]
def isCode : Jvm.Cond → Bool
  | .code _ _ _ _ => true
  | _ => false
theorem all_split {L : List Jvm.Cond} {P : Jvm.Cond → Bool} (h1 : L.all (fun c => isCode c || P c) = true) (h2 : ∀ c ∈ L.filter isCode, P c = true) : L.all P = true := by
  refine List.all_eq_true.mpr fun c hc => ?_
  have h := List.all_eq_true.mp h1 c hc
  rcases Bool.eq_false_or_eq_true (isCode c) with hi | hi
  · exact h2 c (List.mem_filter.mpr ⟨hc, hi⟩)
  · simpa [hi] using h
set_option maxRecDepth 65536 in
theorem w_c0 : (Jvm.Cond.code x code maxLocals ret).before args0 about1 = true := code_word (m := ⟨1, 2⟩) (meth := k1m2) (c := k1c2) (by decide +kernel) rfl rfl rfl (by decide +kernel)
set_option maxRecDepth 65536 in
theorem w_c1 : (Jvm.Cond.code ({ cls := "orderwire/orders/OrderLeavesQtyPinLaw", name := "req", desc := "(J)Lorderwire/orders/NewOrder;" } : Jvm.MethodName) method_2_code (2 : Nat) (Option.some (Jvm.ClassFile.FieldType.object "orderwire/orders/NewOrder"))).before args0 about1 = true := code_word (m := ⟨1, 1⟩) (meth := k1m1) (c := k1c1) (by decide +kernel) rfl rfl rfl (by decide +kernel)
set_option maxRecDepth 65536 in
theorem w_c2 : (Jvm.Cond.code ({ cls := "orderwire/orders/NewOrder", name := "<init>", desc := "(Ljava/lang/String;Ljava/lang/String;Ljava/lang/String;Ljava/lang/String;Lorderwire/book/Side;Lorderwire/orders/OrderType;Lorderwire/orders/TimeInForce;JJILorderwire/orders/Capacity;Lorderwire/orders/AccountType;)V" } : Jvm.MethodName) prog_109_method_1_code (15 : Nat) (Option.none : Option Jvm.ClassFile.FieldType)).before args0 about1 = true := code_word (m := ⟨4, 0⟩) (meth := k4m0) (c := k4c0) (by decide +kernel) rfl rfl rfl (by decide +kernel)
set_option maxRecDepth 65536 in
theorem w_c3 : (Jvm.Cond.code ({ cls := "java/lang/Record", name := "<init>", desc := "()V" } : Jvm.MethodName) jdk_30_method_1_code (1 : Nat) (Option.none : Option Jvm.ClassFile.FieldType)).before args0 about1 = true := code_word (m := ⟨3, 0⟩) (meth := k3m0) (c := k3c0) (by decide +kernel) rfl rfl rfl (by decide +kernel)
set_option maxRecDepth 65536 in
theorem w_c4 : (Jvm.Cond.code ({ cls := "java/lang/Object", name := "<init>", desc := "()V" } : Jvm.MethodName) object_method_1_code (1 : Nat) (Option.none : Option Jvm.ClassFile.FieldType)).before args0 about1 = true := code_word (m := ⟨0, 0⟩) (meth := k0m0) (c := k0c0) (by decide +kernel) rfl rfl rfl (by decide +kernel)
set_option maxRecDepth 65536 in
theorem w_c5 : (Jvm.Cond.code ({ cls := "orderwire/orders/Order", name := "<init>", desc := "(JLorderwire/orders/NewOrder;)V" } : Jvm.MethodName) prog_111_method_1_code (4 : Nat) (Option.none : Option Jvm.ClassFile.FieldType)).before args0 about1 = true := code_word (m := ⟨2, 0⟩) (meth := k2m0) (c := k2c0) (by decide +kernel) rfl rfl rfl (by decide +kernel)
set_option maxRecDepth 65536 in
theorem w_c6 : (Jvm.Cond.code ({ cls := "orderwire/orders/Order", name := "fill", desc := "(JJ)V" } : Jvm.MethodName) prog_111_method_7_code (5 : Nat) (Option.none : Option Jvm.ClassFile.FieldType)).before args0 about1 = true := code_word (m := ⟨2, 2⟩) (meth := k2m2) (c := k2c2) (by decide +kernel) rfl rfl rfl (by decide +kernel)
set_option maxRecDepth 65536 in
theorem w_c7 : (Jvm.Cond.code ({ cls := "java/math/BigInteger", name := "valueOf", desc := "(J)Ljava/math/BigInteger;" } : Jvm.MethodName) jdk_2097_method_29_code (2 : Nat) (Option.some (Jvm.ClassFile.FieldType.object "java/math/BigInteger"))).before args0 about1 = true := code_word (m := ⟨8, 1⟩) (meth := k8m1) (c := k8c1) (by decide +kernel) rfl rfl rfl (by decide +kernel)
set_option maxRecDepth 65536 in
theorem w_c8 : (Jvm.Cond.code ({ cls := "java/math/BigInteger", name := "<init>", desc := "(J)V" } : Jvm.MethodName) jdk_2097_method_30_code (4 : Nat) (Option.none : Option Jvm.ClassFile.FieldType)).before args0 about1 = true := code_word (m := ⟨8, 2⟩) (meth := k8m2) (c := k8c2) (by decide +kernel) rfl rfl rfl (by decide +kernel)
set_option maxRecDepth 65536 in
theorem w_c9 : (Jvm.Cond.code ({ cls := "java/lang/Number", name := "<init>", desc := "()V" } : Jvm.MethodName) jdk_18_method_1_code (1 : Nat) (Option.none : Option Jvm.ClassFile.FieldType)).before args0 about1 = true := code_word (m := ⟨6, 0⟩) (meth := k6m0) (c := k6c0) (by decide +kernel) rfl rfl rfl (by decide +kernel)
set_option maxRecDepth 65536 in
theorem w_c10 : (Jvm.Cond.code ({ cls := "java/math/BigInteger", name := "multiply", desc := "(Ljava/math/BigInteger;)Ljava/math/BigInteger;" } : Jvm.MethodName) jdk_2097_method_40_code (2 : Nat) (Option.some (Jvm.ClassFile.FieldType.object "java/math/BigInteger"))).before args0 about1 = true := code_word (m := ⟨8, 5⟩) (meth := k8m5) (c := k8c5) (by decide +kernel) rfl rfl rfl (by decide +kernel)
set_option maxRecDepth 65536 in
theorem w_c11 : (Jvm.Cond.code ({ cls := "java/math/BigInteger", name := "multiply", desc := "(Ljava/math/BigInteger;ZZI)Ljava/math/BigInteger;" } : Jvm.MethodName) jdk_2097_method_42_code (9 : Nat) (Option.some (Jvm.ClassFile.FieldType.object "java/math/BigInteger"))).before args0 about1 = true := code_word (m := ⟨8, 6⟩) (meth := k8m6) (c := k8c6) (by decide +kernel) rfl rfl rfl (by decide +kernel)
set_option maxRecDepth 65536 in
theorem w_c12 : (Jvm.Cond.code ({ cls := "java/math/BigInteger", name := "multiplyByInt", desc := "([III)Ljava/math/BigInteger;" } : Jvm.MethodName) jdk_2097_method_43_code (13 : Nat) (Option.some (Jvm.ClassFile.FieldType.object "java/math/BigInteger"))).before args0 about1 = true := code_word (m := ⟨8, 7⟩) (meth := k8m7) (c := k8c7) (by decide +kernel) rfl rfl rfl (by decide +kernel)
set_option maxRecDepth 65536 in
theorem w_c13 : (Jvm.Cond.code ({ cls := "java/lang/Integer", name := "bitCount", desc := "(I)I" } : Jvm.MethodName) jdk_33_method_49_code (1 : Nat) (Option.some Jvm.ClassFile.FieldType.int)).before args0 about1 = true := code_word (m := ⟨11, 1⟩) (meth := k11m1) (c := k11c1) (by decide +kernel) rfl rfl rfl (by decide +kernel)
set_option maxRecDepth 65536 in
theorem w_c14 : (Jvm.Cond.code ({ cls := "java/lang/Integer", name := "numberOfTrailingZeros", desc := "(I)I" } : Jvm.MethodName) jdk_33_method_48_code (2 : Nat) (Option.some Jvm.ClassFile.FieldType.int)).before args0 about1 = true := code_word (m := ⟨11, 0⟩) (meth := k11m0) (c := k11c0) (by decide +kernel) rfl rfl rfl (by decide +kernel)
set_option maxRecDepth 65536 in
theorem w_c15 : (Jvm.Cond.code ({ cls := "java/math/BigInteger", name := "shiftLeft", desc := "([II)[I" } : Jvm.MethodName) jdk_2097_method_102_code (10 : Nat) (Option.some (Jvm.ClassFile.FieldType.array Jvm.ClassFile.FieldType.int))).before args0 about1 = true := code_word (m := ⟨8, 11⟩) (meth := k8m11) (c := k8c11) (by decide +kernel) rfl rfl rfl (by decide +kernel)
set_option maxRecDepth 65536 in
theorem w_c16 : (Jvm.Cond.code ({ cls := "java/util/Objects", name := "checkFromToIndex", desc := "(III)I" } : Jvm.MethodName) jdk_31_method_18_code (3 : Nat) (Option.some Jvm.ClassFile.FieldType.int)).before args0 about1 = true := code_word (m := ⟨12, 2⟩) (meth := k12m2) (c := k12c2) (by decide +kernel) rfl rfl rfl (by decide +kernel)
set_option maxRecDepth 65536 in
theorem w_c17 : (Jvm.Cond.code ({ cls := "jdk/internal/util/Preconditions", name := "checkFromToIndex", desc := "(IIILjava/util/function/BiFunction;)I" } : Jvm.MethodName) jdk_41_method_12_code (4 : Nat) (Option.some Jvm.ClassFile.FieldType.int)).before args0 about1 = true := code_word (m := ⟨13, 1⟩) (meth := k13m1) (c := k13c1) (by decide +kernel) rfl rfl rfl (by decide +kernel)
set_option maxRecDepth 65536 in
theorem w_c18 : (Jvm.Cond.code ({ cls := "java/math/BigInteger", name := "shiftLeftImplWorker", desc := "([I[IIII)V" } : Jvm.MethodName) jdk_2097_method_103_code (7 : Nat) (Option.none : Option Jvm.ClassFile.FieldType)).before args0 about1 = true := code_word (m := ⟨8, 12⟩) (meth := k8m12) (c := k8c12) (by decide +kernel) rfl rfl rfl (by decide +kernel)
set_option maxRecDepth 65536 in
theorem w_c19 : (Jvm.Cond.code ({ cls := "java/math/BigInteger", name := "<init>", desc := "([II)V" } : Jvm.MethodName) jdk_2097_method_25_code (3 : Nat) (Option.none : Option Jvm.ClassFile.FieldType)).before args0 about1 = true := code_word (m := ⟨8, 0⟩) (meth := k8m0) (c := k8c0) (by decide +kernel) rfl rfl rfl (by decide +kernel)
set_option maxRecDepth 65536 in
theorem w_c20 : (Jvm.Cond.code ({ cls := "java/math/BigInteger", name := "add", desc := "(Ljava/math/BigInteger;)Ljava/math/BigInteger;" } : Jvm.MethodName) jdk_2097_method_32_code (4 : Nat) (Option.some (Jvm.ClassFile.FieldType.object "java/math/BigInteger"))).before args0 about1 = true := code_word (m := ⟨8, 3⟩) (meth := k8m3) (c := k8c3) (by decide +kernel) rfl rfl rfl (by decide +kernel)
set_option maxRecDepth 65536 in
theorem w_c21 : (Jvm.Cond.code ({ cls := "orderwire/orders/Order", name := "leavesQty", desc := "()J" } : Jvm.MethodName) prog_111_method_5_code (1 : Nat) (Option.some Jvm.ClassFile.FieldType.long)).before args0 about1 = true := code_word (m := ⟨2, 1⟩) (meth := k2m1) (c := k2c1) (by decide +kernel) rfl rfl rfl (by decide +kernel)
set_option maxRecDepth 65536 in
theorem w_c22 : (Jvm.Cond.code ({ cls := "orderwire/orders/NewOrder", name := "quantity", desc := "()J" } : Jvm.MethodName) prog_109_method_13_code (1 : Nat) (Option.some Jvm.ClassFile.FieldType.long)).before args0 about1 = true := code_word (m := ⟨4, 1⟩) (meth := k4m1) (c := k4c1) (by decide +kernel) rfl rfl rfl (by decide +kernel)
set_option maxRecDepth 65536 in
theorem w_c23 : (Jvm.Cond.code ({ cls := "orderwire/orders/Order", name := "amend", desc := "(Lorderwire/orders/NewOrder;)V" } : Jvm.MethodName) prog_111_method_9_code (2 : Nat) (Option.none : Option Jvm.ClassFile.FieldType)).before args0 about1 = true := code_word (m := ⟨2, 4⟩) (meth := k2m4) (c := k2c4) (by decide +kernel) rfl rfl rfl (by decide +kernel)
set_option maxRecDepth 65536 in
theorem w_c24 : (Jvm.Cond.code ({ cls := "java/util/Arrays", name := "copyOfRange", desc := "([III)[I" } : Jvm.MethodName) jdk_65_method_136_code (3 : Nat) (Option.some (Jvm.ClassFile.FieldType.array Jvm.ClassFile.FieldType.int))).before args0 about1 = true := code_word (m := ⟨14, 2⟩) (meth := k14m2) (c := k14c2) (by decide +kernel) rfl rfl rfl (by decide +kernel)
set_option maxRecDepth 65536 in
theorem w_c25 : (Jvm.Cond.code ({ cls := "java/util/Arrays", name := "copyOfRangeInt", desc := "([III)[I" } : Jvm.MethodName) jdk_65_method_137_code (5 : Nat) (Option.some (Jvm.ClassFile.FieldType.array Jvm.ClassFile.FieldType.int))).before args0 about1 = true := code_word (m := ⟨14, 3⟩) (meth := k14m3) (c := k14c3) (by decide +kernel) rfl rfl rfl (by decide +kernel)
set_option maxRecDepth 65536 in
theorem w_c26 : (Jvm.Cond.code ({ cls := "java/util/Arrays", name := "checkLength", desc := "(II)V" } : Jvm.MethodName) jdk_65_method_131_code (2 : Nat) (Option.none : Option Jvm.ClassFile.FieldType)).before args0 about1 = true := code_word (m := ⟨14, 1⟩) (meth := k14m1) (c := k14c1) (by decide +kernel) rfl rfl rfl (by decide +kernel)
set_option maxRecDepth 65536 in
theorem w_c27 : (Jvm.Cond.code ({ cls := "java/lang/Math", name := "min", desc := "(II)I" } : Jvm.MethodName) jdk_29_method_69_code (2 : Nat) (Option.some Jvm.ClassFile.FieldType.int)).before args0 about1 = true := code_word (m := ⟨15, 1⟩) (meth := k15m1) (c := k15c1) (by decide +kernel) rfl rfl rfl (by decide +kernel)
set_option maxRecDepth 65536 in
theorem w_c28 : (Jvm.Cond.code ({ cls := "java/math/BigInteger", name := "add", desc := "([I[I)[I" } : Jvm.MethodName) jdk_2097_method_35_code (9 : Nat) (Option.some (Jvm.ClassFile.FieldType.array Jvm.ClassFile.FieldType.int))).before args0 about1 = true := code_word (m := ⟨8, 4⟩) (meth := k8m4) (c := k8c4) (by decide +kernel) rfl rfl rfl (by decide +kernel)
set_option maxRecDepth 65536 in
theorem w_c29 : (Jvm.Cond.code ({ cls := "orderwire/orders/Order", name := "cancel", desc := "()V" } : Jvm.MethodName) prog_111_method_8_code (1 : Nat) (Option.none : Option Jvm.ClassFile.FieldType)).before args0 about1 = true := code_word (m := ⟨2, 3⟩) (meth := k2m3) (c := k2c3) (by decide +kernel) rfl rfl rfl (by decide +kernel)
set_option maxRecDepth 65536 in
theorem w_c30 : (Jvm.Cond.code ({ cls := "java/math/BigInteger", name := "multiplyToLen", desc := "([II[II[I)[I" } : Jvm.MethodName) jdk_2097_method_45_code (5 : Nat) (Option.some (Jvm.ClassFile.FieldType.array Jvm.ClassFile.FieldType.int))).before args0 about1 = true := code_word (m := ⟨8, 8⟩) (meth := k8m8) (c := k8c8) (by decide +kernel) rfl rfl rfl (by decide +kernel)
set_option maxRecDepth 65536 in
theorem w_c31 : (Jvm.Cond.code ({ cls := "java/math/BigInteger", name := "multiplyToLenCheck", desc := "([II)V" } : Jvm.MethodName) jdk_2097_method_47_code (2 : Nat) (Option.none : Option Jvm.ClassFile.FieldType)).before args0 about1 = true := code_word (m := ⟨8, 10⟩) (meth := k8m10) (c := k8c10) (by decide +kernel) rfl rfl rfl (by decide +kernel)
set_option maxRecDepth 65536 in
theorem w_c32 : (Jvm.Cond.code ({ cls := "java/util/Objects", name := "requireNonNull", desc := "(Ljava/lang/Object;)Ljava/lang/Object;" } : Jvm.MethodName) jdk_31_method_10_code (1 : Nat) (Option.some (Jvm.ClassFile.FieldType.object "java/lang/Object"))).before args0 about1 = true := code_word (m := ⟨12, 1⟩) (meth := k12m1) (c := k12c1) (by decide +kernel) rfl rfl rfl (by decide +kernel)
set_option maxRecDepth 65536 in
theorem w_c33 : (Jvm.Cond.code ({ cls := "java/math/BigInteger", name := "implMultiplyToLen", desc := "([II[II[I)[I" } : Jvm.MethodName) jdk_2097_method_46_code (14 : Nat) (Option.some (Jvm.ClassFile.FieldType.array Jvm.ClassFile.FieldType.int))).before args0 about1 = true := code_word (m := ⟨8, 9⟩) (meth := k8m9) (c := k8c9) (by decide +kernel) rfl rfl rfl (by decide +kernel)
set_option maxRecDepth 65536 in
theorem w_c34 : (Jvm.Cond.code ({ cls := "java/math/BigInteger", name := "trustedStripLeadingZeroInts", desc := "([I)[I" } : Jvm.MethodName) jdk_2097_method_140_code (3 : Nat) (Option.some (Jvm.ClassFile.FieldType.array Jvm.ClassFile.FieldType.int))).before args0 about1 = true := code_word (m := ⟨8, 13⟩) (meth := k8m13) (c := k8c13) (by decide +kernel) rfl rfl rfl (by decide +kernel)
def codes1 : List Jvm.Cond := [Jvm.Cond.code x code maxLocals ret, Jvm.Cond.code ({ cls := "orderwire/orders/OrderLeavesQtyPinLaw", name := "req", desc := "(J)Lorderwire/orders/NewOrder;" } : Jvm.MethodName) method_2_code (2 : Nat) (Option.some (Jvm.ClassFile.FieldType.object "orderwire/orders/NewOrder")), Jvm.Cond.code ({ cls := "orderwire/orders/NewOrder", name := "<init>", desc := "(Ljava/lang/String;Ljava/lang/String;Ljava/lang/String;Ljava/lang/String;Lorderwire/book/Side;Lorderwire/orders/OrderType;Lorderwire/orders/TimeInForce;JJILorderwire/orders/Capacity;Lorderwire/orders/AccountType;)V" } : Jvm.MethodName) prog_109_method_1_code (15 : Nat) (Option.none : Option Jvm.ClassFile.FieldType), Jvm.Cond.code ({ cls := "java/lang/Record", name := "<init>", desc := "()V" } : Jvm.MethodName) jdk_30_method_1_code (1 : Nat) (Option.none : Option Jvm.ClassFile.FieldType), Jvm.Cond.code ({ cls := "java/lang/Object", name := "<init>", desc := "()V" } : Jvm.MethodName) object_method_1_code (1 : Nat) (Option.none : Option Jvm.ClassFile.FieldType), Jvm.Cond.code ({ cls := "orderwire/orders/Order", name := "<init>", desc := "(JLorderwire/orders/NewOrder;)V" } : Jvm.MethodName) prog_111_method_1_code (4 : Nat) (Option.none : Option Jvm.ClassFile.FieldType), Jvm.Cond.code ({ cls := "orderwire/orders/Order", name := "fill", desc := "(JJ)V" } : Jvm.MethodName) prog_111_method_7_code (5 : Nat) (Option.none : Option Jvm.ClassFile.FieldType), Jvm.Cond.code ({ cls := "java/math/BigInteger", name := "valueOf", desc := "(J)Ljava/math/BigInteger;" } : Jvm.MethodName) jdk_2097_method_29_code (2 : Nat) (Option.some (Jvm.ClassFile.FieldType.object "java/math/BigInteger")), Jvm.Cond.code ({ cls := "java/math/BigInteger", name := "<init>", desc := "(J)V" } : Jvm.MethodName) jdk_2097_method_30_code (4 : Nat) (Option.none : Option Jvm.ClassFile.FieldType), Jvm.Cond.code ({ cls := "java/lang/Number", name := "<init>", desc := "()V" } : Jvm.MethodName) jdk_18_method_1_code (1 : Nat) (Option.none : Option Jvm.ClassFile.FieldType), Jvm.Cond.code ({ cls := "java/math/BigInteger", name := "multiply", desc := "(Ljava/math/BigInteger;)Ljava/math/BigInteger;" } : Jvm.MethodName) jdk_2097_method_40_code (2 : Nat) (Option.some (Jvm.ClassFile.FieldType.object "java/math/BigInteger")), Jvm.Cond.code ({ cls := "java/math/BigInteger", name := "multiply", desc := "(Ljava/math/BigInteger;ZZI)Ljava/math/BigInteger;" } : Jvm.MethodName) jdk_2097_method_42_code (9 : Nat) (Option.some (Jvm.ClassFile.FieldType.object "java/math/BigInteger")), Jvm.Cond.code ({ cls := "java/math/BigInteger", name := "multiplyByInt", desc := "([III)Ljava/math/BigInteger;" } : Jvm.MethodName) jdk_2097_method_43_code (13 : Nat) (Option.some (Jvm.ClassFile.FieldType.object "java/math/BigInteger")), Jvm.Cond.code ({ cls := "java/lang/Integer", name := "bitCount", desc := "(I)I" } : Jvm.MethodName) jdk_33_method_49_code (1 : Nat) (Option.some Jvm.ClassFile.FieldType.int), Jvm.Cond.code ({ cls := "java/lang/Integer", name := "numberOfTrailingZeros", desc := "(I)I" } : Jvm.MethodName) jdk_33_method_48_code (2 : Nat) (Option.some Jvm.ClassFile.FieldType.int), Jvm.Cond.code ({ cls := "java/math/BigInteger", name := "shiftLeft", desc := "([II)[I" } : Jvm.MethodName) jdk_2097_method_102_code (10 : Nat) (Option.some (Jvm.ClassFile.FieldType.array Jvm.ClassFile.FieldType.int)), Jvm.Cond.code ({ cls := "java/util/Objects", name := "checkFromToIndex", desc := "(III)I" } : Jvm.MethodName) jdk_31_method_18_code (3 : Nat) (Option.some Jvm.ClassFile.FieldType.int), Jvm.Cond.code ({ cls := "jdk/internal/util/Preconditions", name := "checkFromToIndex", desc := "(IIILjava/util/function/BiFunction;)I" } : Jvm.MethodName) jdk_41_method_12_code (4 : Nat) (Option.some Jvm.ClassFile.FieldType.int), Jvm.Cond.code ({ cls := "java/math/BigInteger", name := "shiftLeftImplWorker", desc := "([I[IIII)V" } : Jvm.MethodName) jdk_2097_method_103_code (7 : Nat) (Option.none : Option Jvm.ClassFile.FieldType), Jvm.Cond.code ({ cls := "java/math/BigInteger", name := "<init>", desc := "([II)V" } : Jvm.MethodName) jdk_2097_method_25_code (3 : Nat) (Option.none : Option Jvm.ClassFile.FieldType), Jvm.Cond.code ({ cls := "java/math/BigInteger", name := "add", desc := "(Ljava/math/BigInteger;)Ljava/math/BigInteger;" } : Jvm.MethodName) jdk_2097_method_32_code (4 : Nat) (Option.some (Jvm.ClassFile.FieldType.object "java/math/BigInteger")), Jvm.Cond.code ({ cls := "orderwire/orders/Order", name := "leavesQty", desc := "()J" } : Jvm.MethodName) prog_111_method_5_code (1 : Nat) (Option.some Jvm.ClassFile.FieldType.long), Jvm.Cond.code ({ cls := "orderwire/orders/NewOrder", name := "quantity", desc := "()J" } : Jvm.MethodName) prog_109_method_13_code (1 : Nat) (Option.some Jvm.ClassFile.FieldType.long), Jvm.Cond.code ({ cls := "orderwire/orders/Order", name := "amend", desc := "(Lorderwire/orders/NewOrder;)V" } : Jvm.MethodName) prog_111_method_9_code (2 : Nat) (Option.none : Option Jvm.ClassFile.FieldType), Jvm.Cond.code ({ cls := "java/util/Arrays", name := "copyOfRange", desc := "([III)[I" } : Jvm.MethodName) jdk_65_method_136_code (3 : Nat) (Option.some (Jvm.ClassFile.FieldType.array Jvm.ClassFile.FieldType.int)), Jvm.Cond.code ({ cls := "java/util/Arrays", name := "copyOfRangeInt", desc := "([III)[I" } : Jvm.MethodName) jdk_65_method_137_code (5 : Nat) (Option.some (Jvm.ClassFile.FieldType.array Jvm.ClassFile.FieldType.int)), Jvm.Cond.code ({ cls := "java/util/Arrays", name := "checkLength", desc := "(II)V" } : Jvm.MethodName) jdk_65_method_131_code (2 : Nat) (Option.none : Option Jvm.ClassFile.FieldType), Jvm.Cond.code ({ cls := "java/lang/Math", name := "min", desc := "(II)I" } : Jvm.MethodName) jdk_29_method_69_code (2 : Nat) (Option.some Jvm.ClassFile.FieldType.int), Jvm.Cond.code ({ cls := "java/math/BigInteger", name := "add", desc := "([I[I)[I" } : Jvm.MethodName) jdk_2097_method_35_code (9 : Nat) (Option.some (Jvm.ClassFile.FieldType.array Jvm.ClassFile.FieldType.int)), Jvm.Cond.code ({ cls := "orderwire/orders/Order", name := "cancel", desc := "()V" } : Jvm.MethodName) prog_111_method_8_code (1 : Nat) (Option.none : Option Jvm.ClassFile.FieldType), Jvm.Cond.code ({ cls := "java/math/BigInteger", name := "multiplyToLen", desc := "([II[II[I)[I" } : Jvm.MethodName) jdk_2097_method_45_code (5 : Nat) (Option.some (Jvm.ClassFile.FieldType.array Jvm.ClassFile.FieldType.int)), Jvm.Cond.code ({ cls := "java/math/BigInteger", name := "multiplyToLenCheck", desc := "([II)V" } : Jvm.MethodName) jdk_2097_method_47_code (2 : Nat) (Option.none : Option Jvm.ClassFile.FieldType), Jvm.Cond.code ({ cls := "java/util/Objects", name := "requireNonNull", desc := "(Ljava/lang/Object;)Ljava/lang/Object;" } : Jvm.MethodName) jdk_31_method_10_code (1 : Nat) (Option.some (Jvm.ClassFile.FieldType.object "java/lang/Object")), Jvm.Cond.code ({ cls := "java/math/BigInteger", name := "implMultiplyToLen", desc := "([II[II[I)[I" } : Jvm.MethodName) jdk_2097_method_46_code (14 : Nat) (Option.some (Jvm.ClassFile.FieldType.array Jvm.ClassFile.FieldType.int)), Jvm.Cond.code ({ cls := "java/math/BigInteger", name := "trustedStripLeadingZeroInts", desc := "([I)[I" } : Jvm.MethodName) jdk_2097_method_140_code (3 : Nat) (Option.some (Jvm.ClassFile.FieldType.array Jvm.ClassFile.FieldType.int))]
set_option maxRecDepth 65536 in
theorem codes_eq : words1.filter isCode = codes1 := rfl
theorem w_codes : ∀ c ∈ words1.filter isCode, c.before args0 about1 = true := by
  rw [codes_eq]
  intro c hc
  simp only [codes1, List.mem_cons, List.not_mem_nil, or_false] at hc
  rcases hc with rfl | rfl | rfl | rfl | rfl | rfl | rfl | rfl | rfl | rfl | rfl | rfl | rfl | rfl | rfl | rfl | rfl | rfl | rfl | rfl | rfl | rfl | rfl | rfl | rfl | rfl | rfl | rfl | rfl | rfl | rfl | rfl | rfl | rfl | rfl
  · exact w_c0
  · exact w_c1
  · exact w_c2
  · exact w_c3
  · exact w_c4
  · exact w_c5
  · exact w_c6
  · exact w_c7
  · exact w_c8
  · exact w_c9
  · exact w_c10
  · exact w_c11
  · exact w_c12
  · exact w_c13
  · exact w_c14
  · exact w_c15
  · exact w_c16
  · exact w_c17
  · exact w_c18
  · exact w_c19
  · exact w_c20
  · exact w_c21
  · exact w_c22
  · exact w_c23
  · exact w_c24
  · exact w_c25
  · exact w_c26
  · exact w_c27
  · exact w_c28
  · exact w_c29
  · exact w_c30
  · exact w_c31
  · exact w_c32
  · exact w_c33
  · exact w_c34
set_option maxRecDepth 65536 in
theorem w_t1 : (words1.take 24).all (fun c => isCode c || c.before args0 about1) = true := by decide +kernel
set_option maxRecDepth 65536 in
theorem w_t2 : ((words1.drop 24).take 24).all (fun c => isCode c || c.before args0 about1) = true := by decide +kernel
set_option maxRecDepth 65536 in
theorem w_t3 : (((words1.drop 24).drop 24).take 24).all (fun c => isCode c || c.before args0 about1) = true := by decide +kernel
set_option maxRecDepth 65536 in
theorem w_t4 : ((((words1.drop 24).drop 24).drop 24).take 24).all (fun c => isCode c || c.before args0 about1) = true := by decide +kernel
set_option maxRecDepth 65536 in
theorem w_t5 : (((((words1.drop 24).drop 24).drop 24).drop 24).take 24).all (fun c => isCode c || c.before args0 about1) = true := by decide +kernel
set_option maxRecDepth 65536 in
theorem w_t6 : ((((((words1.drop 24).drop 24).drop 24).drop 24).drop 24).take 24).all (fun c => isCode c || c.before args0 about1) = true := by decide +kernel
set_option maxRecDepth 65536 in
theorem w_t7 : (((((((words1.drop 24).drop 24).drop 24).drop 24).drop 24).drop 24).take 24).all (fun c => isCode c || c.before args0 about1) = true := by decide +kernel
set_option maxRecDepth 65536 in
theorem w_t8 : ((((((((words1.drop 24).drop 24).drop 24).drop 24).drop 24).drop 24).drop 24).take 24).all (fun c => isCode c || c.before args0 about1) = true := by decide +kernel
set_option maxRecDepth 65536 in
theorem w_t9 : ((((((((words1.drop 24).drop 24).drop 24).drop 24).drop 24).drop 24).drop 24).drop 24).all (fun c => isCode c || c.before args0 about1) = true := by decide +kernel
theorem w_tables : (allAtoms (Jvm.Cond.code x code maxLocals ret :: tables_1)).before args0 about1 = true := by
  rw [allAtoms_all]
  show words1.all (fun c => c.before args0 about1) = true
  refine all_split ?_ w_codes
  rw [← List.take_append_drop 24 words1, List.all_append, w_t1, ← List.take_append_drop 24 (words1.drop 24), List.all_append, w_t2, ← List.take_append_drop 24 ((words1.drop 24).drop 24), List.all_append, w_t3, ← List.take_append_drop 24 (((words1.drop 24).drop 24).drop 24), List.all_append, w_t4, ← List.take_append_drop 24 ((((words1.drop 24).drop 24).drop 24).drop 24), List.all_append, w_t5, ← List.take_append_drop 24 (((((words1.drop 24).drop 24).drop 24).drop 24).drop 24), List.all_append, w_t6, ← List.take_append_drop 24 ((((((words1.drop 24).drop 24).drop 24).drop 24).drop 24).drop 24), List.all_append, w_t7, ← List.take_append_drop 24 (((((((words1.drop 24).drop 24).drop 24).drop 24).drop 24).drop 24).drop 24), List.all_append, w_t8, w_t9]
  rfl
set_option maxRecDepth 65536 in
theorem w_rest : rest_1_c.before args0 about1 = true := by decide +kernel
set_option maxRecDepth 65536 in
theorem w_case : (Jvm.Cond.and given_1 narrow_1).before args0 about1 = true := by decide +kernel
theorem w_applies : (headSpec (Jvm.Cond.code x code maxLocals ret :: tables_1) room_1).applies x e0.platform about1 = true :=
  (Spec.applies_iff w_frames).mpr ⟨w_running, w_runnable, w_alone, w_named, w_hears, w_ripe, w_room, w_tables⟩
theorem atStart : AtStart classFile x code maxLocals ret World_1 tables_1 room_1 Calls_1 rest_1 Pre_1 launch0 p0 e0 about1 theMethod args0 below0 :=
  ⟨lists_1, trivial, launch0.admits_env _ _ _, launch0.least_env, fairChoices_fair.cas, fairChoices_fair.clock, w_frames, w_args, w_heap, w_applies, trivial, w_rest, w_case⟩
end start1
theorem witness_1 : WitnessClaimed_1 := ⟨start1.p0, start1.e0, start1.about1, start1.theMethod, start1.args0, start1.below0, start1.atStart⟩
end Jvm.Pilot.@@N@@
