import Derived.Test.Qxb6608922aModsWalksA
import Derived.WalkKit
import Derived.ProofKit
import Derived.OpenShut
import Derived.ShutString
namespace Go.Proofs.Qxb6608922aMods.fnBucketSetThenTicksRefillsAtLimitPerMs
open Go.ChangeShapes Go.WideShapes Go.ChangeAt Go.RowKit
open Go.ChangeMaps (open_string shut_string)
set_option linter.unusedVariables false      -- a walk need not use every 'w<i>' (that an integer argument fits its kind)

theorem own : ownKnob Trym.prog.godebug = none := by kernel_rfl

/-! ### THE PLAIN LAW -/
theorem prod_facts (t l n n2 q : Int) (_t0 : 0 ≤ t) (t1 : t ≤ 1099511627776) (l0 : 1 ≤ l) (l1 : l ≤ 4194304) (d0 : -4294967296 ≤ n2 - n) (d1 : n2 - n ≤ 4294967296) (q3 : q * l ≤ t + l - 1) :
    -18014398509481984 ≤ (n2 - n) * l ∧ (n2 - n) * l ≤ 18014398509481984 ∧ (n + q - n2) * l = q * l - (n2 - n) * l ∧ (n2 < n + q → 0 ≤ (n + q - n2) * l) ∧ (n + q - n2) * l ≤ 4611686018427387904 ∧ (n + q ≤ n2 → q * l ≤ (n2 - n) * l) := by
  have a1 : (n2 - n) * l ≤ 4294967296 * l := Int.mul_le_mul_of_nonneg_right d1 (by omega)
  have a2 : -4294967296 * l ≤ (n2 - n) * l := Int.mul_le_mul_of_nonneg_right d0 (by omega)
  have a3 : (n + q - n2) * l = q * l - (n2 - n) * l := by
    rw [← Int.sub_mul]; congr 1; omega
  refine ⟨by omega, by omega, a3, fun h => Int.mul_nonneg (by omega) (by omega), by omega, fun h => Int.mul_le_mul_of_nonneg_right (by omega) (by omega)⟩

theorem ret_bool {a b : Bool} (h : a = b) : Ending.returned (.bool a) = .returned (.bool b) := by rw [h]

/-! ### THE WALK: the Go text returns true. First: the full instant has passed. -/
set_option maxHeartbeats 1000000 in
theorem walk_past (a0 a1 t l n size n2 : Int) (w : World) (t0 : 0 ≤ t) (t1 : t ≤ 1099511627776) (l0 : 1 ≤ l) (l1 : l ≤ 4194304) (n0 : -2305843009213693952 ≤ n) (n1 : n ≤ 2305843009213693952)
    (m0 : -2305843009213693952 ≤ n2) (m1 : n2 ≤ 2305843009213693952) (d0 : -4294967296 ≤ n2 - n) (d1 : n2 - n ≤ 4294967296) (s0 : 0 ≤ size) (hp : n + (t + l - 1) / l ≤ n2)
    (e0 : -18014398509481984 ≤ (n2 - n) * l) (e1 : (n2 - n) * l ≤ 18014398509481984) (e2 : t - (n2 - n) * l ≤ 0) :
    Calls Trym.prog 3 #[.int .i64 a0, .int .i64 a1, .int .i64 t, .int .i64 l, .int .i64 n, .int .i64 size, .int .i64 n2] w fun e w' => e = .returned (.bool true) ∧ Below w.heap.size w w' := by
  go_enter Trym.func3, Trym.ntmps3
  go_wp2_with fail
  refine (new_b _ _ _).mono ?_; rintro e w1 ⟨rfl, hI, hB, hz⟩
  go_wp2_with fail
  refine (set_b _ t l n _ _ _ t0 (by omega) l0 (by omega) (by omega) (by omega) hI).mono ?_; rintro e w2 ⟨rfl, hI2, -, hB2⟩
  have hB3 := hB.trans (hB2 _ (Nat.le_refl _))
  clear hI hB hB2 hz
  go_wp2_with fail
  refine (Ticks_past _ l size n2 _ _ hI2.1 hp).mono ?_; rintro e w3 ⟨rfl, rfl⟩
  clear hI2
  go_wp2
  all_goals go_ret
  all_goals exact ⟨ret_bool (by first | rfl | (rw [beq_iff_eq]; omega)), hB3⟩

/-- It lies ahead. -/
theorem walk_ahead (a0 a1 t l n size n2 : Int) (w : World) (t0 : 0 ≤ t) (t1 : t ≤ 1099511627776) (l0 : 1 ≤ l) (l1 : l ≤ 4194304) (n0 : -2305843009213693952 ≤ n) (n1 : n ≤ 2305843009213693952)
    (m0 : -2305843009213693952 ≤ n2) (m1 : n2 ≤ 2305843009213693952) (d0 : -4294967296 ≤ n2 - n) (d1 : n2 - n ≤ 4294967296) (s0 : 0 ≤ size) (hp : n2 < n + (t + l - 1) / l) :
    Calls Trym.prog 3 #[.int .i64 a0, .int .i64 a1, .int .i64 t, .int .i64 l, .int .i64 n, .int .i64 size, .int .i64 n2] w fun e w' => e = .returned (.bool true) ∧ Below w.heap.size w w' := by
  obtain ⟨q0, q1, q2, q3⟩ := ceil_facts t l t0 l0
  obtain ⟨e0, e1, e2, e3, e4, -⟩ := prod_facts t l n n2 _ t0 t1 l0 l1 d0 d1 q3
  have e3 := e3 hp
  have E2 : Hid ((n + (t + l - 1) / l - n2) * l = (t + l - 1) / l * l - (n2 - n) * l) := e2
  clear e2
  go_enter Trym.func3, Trym.ntmps3
  go_wp2_with fail
  refine (new_b _ _ _).mono ?_; rintro e w1 ⟨rfl, hI, hB, hz⟩
  go_wp2_with fail
  refine (set_b _ t l n _ _ _ t0 (by omega) l0 (by omega) (by omega) (by omega) hI).mono ?_; rintro e w2 ⟨rfl, hI2, -, hB2⟩
  have hB3 := hB.trans (hB2 _ (Nat.le_refl _))
  clear hI hB hB2 hz
  go_wp2_with fail
  refine (Ticks_ahead _ l size n2 _ _ _ hI2.1 hI2.2.1 hp (by omega) e3 e4 (by omega) (by omega)).mono ?_; rintro e w3 ⟨rfl, rfl⟩
  clear hI2
  go_wp2
  all_goals go_ret
  all_goals exact ⟨ret_bool (by have e5 := E2.out; rw [beq_iff_eq]; unfold clamp; (repeat' split) <;> omega), hB3.drew⟩

set_option maxHeartbeats 1000000 in
/-- A premise of the law's own fails: it answers true at once. -/
theorem walk_out (a0 a1 t l n size n2 : Int) (w : World) (w6 : -9223372036854775808 ≤ n2 ∧ n2 ≤ 9223372036854775807) (w4 : -9223372036854775808 ≤ n ∧ n ≤ 9223372036854775807)
    (h : t < 0 ∨ 1099511627776 < t ∨ l < 1 ∨ 4194304 < l ∨ n < -2305843009213693952 ∨ 2305843009213693952 < n ∨ n2 < -2305843009213693952 ∨ 2305843009213693952 < n2 ∨ ((-2305843009213693952 ≤ n ∧ n ≤ 2305843009213693952 ∧ -2305843009213693952 ≤ n2 ∧ n2 ≤ 2305843009213693952) ∧ (n2 - n < -4294967296 ∨ 4294967296 < n2 - n)) ∨ size < 0) :
    Calls Trym.prog 3 #[.int .i64 a0, .int .i64 a1, .int .i64 t, .int .i64 l, .int .i64 n, .int .i64 size, .int .i64 n2] w fun e w' => e = .returned (.bool true) ∧ Below w.heap.size w w' := by
  rcases h with h | h | h | h | h | h | h | h | ⟨⟨g1, g2, g3, g4⟩, h | h⟩ | h
  all_goals
    go_enter Trym.func3, Trym.ntmps3
    go_wp2
    all_goals go_ret
    all_goals exact ⟨rfl, Below.refl _ _⟩

theorem walk (a0 : Int) (a1 : Int) (a2 : Int) (a3 : Int) (a4 : Int) (a5 : Int) (a6 : Int) (w0 : (Lit.int .i64 a0).wf = true) (w1 : (Lit.int .i64 a1).wf = true) (w2 : (Lit.int .i64 a2).wf = true) (w3 : (Lit.int .i64 a3).wf = true) (w4 : (Lit.int .i64 a4).wf = true) (w5 : (Lit.int .i64 a5).wf = true) (w6 : (Lit.int .i64 a6).wf = true) (w : World) :
    Calls Trym.prog 3 #[.int .i64 a0, .int .i64 a1, .int .i64 a2, .int .i64 a3, .int .i64 a4, .int .i64 a5, .int .i64 a6] w fun e w' => e = .returned (.bool true) ∧ Below w.heap.size w w' := by
  have b4 := bounds_i64 w4
  have b6 := bounds_i64 w6
  by_cases hg : (0 ≤ a2 ∧ a2 ≤ 1099511627776) ∧ (1 ≤ a3 ∧ a3 ≤ 4194304) ∧ (-2305843009213693952 ≤ a4 ∧ a4 ≤ 2305843009213693952 ∧ -2305843009213693952 ≤ a6 ∧ a6 ≤ 2305843009213693952) ∧ (-4294967296 ≤ a6 - a4 ∧ a6 - a4 ≤ 4294967296) ∧ 0 ≤ a5
  · obtain ⟨⟨t0, t1⟩, ⟨l0, l1⟩, ⟨n0, n1, m0, m1⟩, ⟨d0, d1⟩, s0⟩ := hg
    by_cases hp : a4 + (a2 + a3 - 1) / a3 ≤ a6
    · obtain ⟨q0, q1, q2, q3⟩ := ceil_facts a2 a3 t0 l0
      obtain ⟨e0, e1, e2, e3, e4, e5⟩ := prod_facts a2 a3 a4 a6 _ t0 t1 l0 l1 d0 d1 q3
      have e5 := e5 hp
      exact walk_past a0 a1 a2 a3 a4 a5 a6 w t0 t1 l0 l1 n0 n1 m0 m1 d0 d1 s0 hp e0 e1 (by omega)
    · exact walk_ahead a0 a1 a2 a3 a4 a5 a6 w t0 t1 l0 l1 n0 n1 m0 m1 d0 d1 s0 (by omega)
  · exact walk_out a0 a1 a2 a3 a4 a5 a6 w (by omega) (by omega) (by omega)

/-! ### THE ROW's STEP: WRITTEN OUT: LEAVE IT -/
set_option maxRecDepth 100000 in
theorem lifted (os : Os) (started : os.Started) (H : Type) (enc : TypeId × Value → H) :
    ReturnsInHanded {} Trym.checked os 3 .any (Rows.fnBucketSetThenTicksRefillsAtLimitPerMsSpec.pre6 enc Trym.prog Trym.f3 Rows.fnBucketSetThenTicksRefillsAtLimitPerMsRow.domain false) (Rows.fnBucketSetThenTicksRefillsAtLimitPerMsSpec.post enc Trym.prog Trym.f3 false true false false) := by
  refine returnsInHanded_of_change (C := Trym.checked) own started (by kernel_rfl) Trym.func3
    (ChangeSpec.witness6 (enc := enc) (C := Trym.checked) false ⟨#[], #[.int .i64 0, .int .i64 0, .int .i64 0, .int .i64 0, .int .i64 0, .int .i64 0, .int .i64 0], []⟩ 8 (by kernel_rfl) (by kernel_rfl) (by kernel_rfl) (by kernel_rfl)) ?_
  intro W base args ds gs before hval0 hW hcnd _
  have hval : ∀ (j : Nat) t v, Trym.f3.params[j]? = some t → args[j]? = some v → Value.okWide Trym.prog W .any base t v := hval0
  have hW' := hW
  obtain ⟨p, q, hA0, hV, rfl, hfz, hnd⟩ := hW
  have hA : DataW.TrodAll enc Trym.prog W 0 (fun _ => true) true Trym.f3.params.toList args.toList ds p := hA0
  rw [Trym.params3] at hA hval
  obtain ⟨v0, vs0, d0, ds0, p0, q0, hargs, rfl, rfl, h0, r0⟩ := trodAll_cons hA
  obtain ⟨v1, vs1, d1, ds1, p1, q1, rfl, rfl, rfl, h1, r1⟩ := trodAll_cons r0
  obtain ⟨v2, vs2, d2, ds2, p2, q2, rfl, rfl, rfl, h2, r2⟩ := trodAll_cons r1
  obtain ⟨v3, vs3, d3, ds3, p3, q3, rfl, rfl, rfl, h3, r3⟩ := trodAll_cons r2
  obtain ⟨v4, vs4, d4, ds4, p4, q4, rfl, rfl, rfl, h4, r4⟩ := trodAll_cons r3
  obtain ⟨v5, vs5, d5, ds5, p5, q5, rfl, rfl, rfl, h5, r5⟩ := trodAll_cons r4
  obtain ⟨v6, vs6, d6, ds6, p6, q6, rfl, rfl, rfl, h6, r6⟩ := trodAll_cons r5
  obtain ⟨rfl, rfl, rfl⟩ := trodAll_nil r6
  obtain rfl : args = #[v0, v1, v2, v3, v4, v5, v6] := by cases args; simp_all
  obtain ⟨rfl, rfl⟩ := trodVars_none hV
  obtain ⟨a0, rfl, rfl, rfl, w0⟩ := open_int Trym.underlying2 (hval 0 2 v0 rfl rfl) h0
  obtain ⟨a1, rfl, rfl, rfl, w1⟩ := open_int Trym.underlying2 (hval 1 2 v1 rfl rfl) h1
  obtain ⟨a2, rfl, rfl, rfl, w2⟩ := open_int Trym.underlying2 (hval 2 2 v2 rfl rfl) h2
  obtain ⟨a3, rfl, rfl, rfl, w3⟩ := open_int Trym.underlying2 (hval 3 2 v3 rfl rfl) h3
  obtain ⟨a4, rfl, rfl, rfl, w4⟩ := open_int Trym.underlying2 (hval 4 2 v4 rfl rfl) h4
  obtain ⟨a5, rfl, rfl, rfl, w5⟩ := open_int Trym.underlying2 (hval 5 2 v5 rfl rfl) h5
  obtain ⟨a6, rfl, rfl, rfl, w6⟩ := open_int Trym.underlying2 (hval 6 2 v6 rfl rfl) h6
  clear hA0 hval0
  simp only [List.append_nil] at hW'
  refine (walk a0 a1 a2 a3 a4 a5 a6 w0 w1 w2 w3 w4 w5 w6 W).mono fun e W' ⟨he, bel⟩ => ?_
  subst he
  exact ⟨_, rfl, _, _, _, [], [], [], hW', trodAll_mk1 (shut_bool Trym.underlying4 _), (trodAll_cons_mk (shut_int Trym.underlying2 w0) (trodAll_cons_mk (shut_int Trym.underlying2 w1) (trodAll_cons_mk (shut_int Trym.underlying2 w2) (trodAll_cons_mk (shut_int Trym.underlying2 w3) (trodAll_cons_mk (shut_int Trym.underlying2 w4) (trodAll_cons_mk (shut_int Trym.underlying2 w5) (trodAll_cons_mk (shut_int Trym.underlying2 w6) trodAll_mk0))))))), rfl, bel.frame _, fun h => by cases h⟩

theorem over : Rows.fnBucketSetThenTicksRefillsAtLimitPerMsRow.holds Trym.pinned (OpenSpec.ofChange Rows.fnBucketSetThenTicksRefillsAtLimitPerMsSpec) :=
  OpenClaim.holds_of_wide 3 Trym.f3 rfl rfl rfl rfl rfl rfl rfl ⟨rfl, rfl, rfl, rfl, rfl⟩ rfl rfl rfl rfl rfl (by kernel_rfl) Trym.func3 (by kernel_rfl)
    (of_decide_eq_true (by kernel_rfl)) (by unfold Func.isWrapper; first | (rw [if_pos (by decide +kernel)]; kernel_rfl) | (rw [if_neg (by decide +kernel)]; exact ⟨rfl, rfl⟩))
    (fun os started H enc _ => lifted os started H enc)

/-- ████ THE STATEMENT ████ -/
theorem proved : Rows.FnBucketSetThenTicksRefillsAtLimitPerMsSaid :=
  over
#print axioms proved
end Go.Proofs.Qxb6608922aMods.fnBucketSetThenTicksRefillsAtLimitPerMs
