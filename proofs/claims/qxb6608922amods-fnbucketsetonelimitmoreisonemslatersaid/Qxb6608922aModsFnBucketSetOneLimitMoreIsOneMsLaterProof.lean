import Derived.Test.Qxb6608922aModsWalksA
import Derived.WalkKit
import Derived.ProofKit
import Derived.OpenShut
import Derived.ShutString
namespace Go.Proofs.Qxb6608922aMods.fnBucketSetOneLimitMoreIsOneMsLater
open Go.ChangeShapes Go.WideShapes Go.ChangeAt Go.RowKit
open Go.ChangeMaps (open_string shut_string)
set_option linter.unusedVariables false      -- a walk need not use every 'w<i>' (that an integer argument fits its kind)

theorem own : ownKnob Trym.prog.godebug = none := by kernel_rfl

theorem full_b (b : Nat) (f s : Int) (w : World) (h : IsB w b f s) : Calls Trym.prog 8 #[.pointer (some ⟨b, 0, none⟩)] w fun e w' => e = .returned (.int .i64 f) ∧ w' = w := by
  have c0 := h.1
  go_enter Trym.func8, Trym.ntmps8
  go_wp2
  go_ret
  exact ⟨rfl, rfl⟩

theorem short_b (b : Nat) (f s : Int) (w : World) (h : IsB w b f s) : Calls Trym.prog 9 #[.pointer (some ⟨b, 0, none⟩)] w fun e w' => e = .returned (.int .i64 s) ∧ w' = w := by
  have c1 := h.2.1
  go_enter Trym.func9, Trym.ntmps9
  go_wp2
  go_ret
  exact ⟨rfl, rfl⟩

/-! ### THE PLAIN LAW -/
theorem next_ceil (t l : Int) (hl : 1 ≤ l) : (t + l + l - 1) / l = (t + l - 1) / l + 1 := by
  rw [show t + l + l - 1 = t + l - 1 + 1 * l from by omega, Int.add_mul_ediv_right _ _ (by omega)]
theorem next_prod (q l : Int) : (q + 1) * l = q * l + l := by rw [Int.add_mul]; omega

theorem ret_bool {a b : Bool} (h : a = b) : Ending.returned (.bool a) = .returned (.bool b) := by rw [h]

/-! ### THE WALK: the Go text returns true -/
set_option maxHeartbeats 1000000 in
theorem walk_in (a0 a1 t l n : Int) (w : World) (t0 : 0 ≤ t) (t1 : t ≤ 2305843009213693952) (l0 : 1 ≤ l) (l1 : l ≤ 1152921504606846976) (n0 : -4611686018427387904 ≤ n) (n1 : n ≤ 4611686018427387904) :
    Calls Trym.prog 4 #[.int .i64 a0, .int .i64 a1, .int .i64 t, .int .i64 l, .int .i64 n] w fun e w' => e = .returned (.bool true) ∧ Below w.heap.size w w' := by
  obtain ⟨q0, q1, q2, q3⟩ := ceil_facts t l t0 l0
  have E1 : Hid ((t + l + l - 1) / l = (t + l - 1) / l + 1) := next_ceil t l l0
  have E2 : Hid (((t + l - 1) / l + 1) * l = (t + l - 1) / l * l + l) := next_prod _ l
  have e3 : (n + (t + l - 1) / l - n) * l = (t + l - 1) / l * l := by rw [show n + (t + l - 1) / l - n = (t + l - 1) / l from by omega]
  have e4 : 0 ≤ (n + (t + l - 1) / l - n) * l := by omega
  have e5 : (n + (t + l - 1) / l - n) * l ≤ 4611686018427387904 := by omega
  have E3 : Hid ((n + (t + l - 1) / l - n) * l = (t + l - 1) / l * l) := e3
  clear e3
  go_enter Trym.func4, Trym.ntmps4
  go_wp2_with fail
  refine (new_b _ _ _).mono ?_; rintro e w1 ⟨rfl, hI1, hB1, hz1⟩
  go_wp2_with fail
  refine (new_b _ _ _).mono ?_; rintro e w2 ⟨rfl, hI2, hB2, hz2⟩
  have hI1 := hI1.below hB2 hz1
  have hB2 := hB1.trans (hB2.mono (Nat.le_of_lt hz1))
  go_wp2_with fail
  refine (set_b _ t l n _ _ _ t0 (by omega) l0 (by omega) (by omega) (by omega) hI1).mono ?_; rintro e w3 ⟨rfl, hI3, ho3, hB3⟩
  have hI4 := ho3 _ _ _ (by omega) hI2
  have hB3 := hB2.trans (hB3 _ (Nat.le_refl _))
  clear hI1 hI2 hB1 hB2 ho3 hz2
  go_wp2_with fail
  refine (set_b _ (t + l) l n _ _ _ (by omega) (by omega) l0 (by omega) (by omega) (by omega) hI4).mono ?_; rintro e w4 ⟨rfl, hI5, ho5, hB5⟩
  have hI6 := ho5 _ _ _ (by omega) hI3
  have hB6 := hB3.trans (hB5 _ (by omega))
  rw [E1.out, E2.out] at hI5
  clear hI3 hI4 hB3 ho5 hB5
  go_wp2_with fail
  refine (full_b _ _ _ _ hI6).mono ?_; rintro e w5 ⟨rfl, rfl⟩
  go_wp2_with fail
  refine (short_b _ _ _ _ hI6).mono ?_; rintro e w5 ⟨rfl, rfl⟩
  go_wp2_with fail
  refine (full_b _ _ _ _ hI5).mono ?_; rintro e w5 ⟨rfl, rfl⟩
  go_wp2_with fail
  refine (short_b _ _ _ _ hI5).mono ?_; rintro e w5 ⟨rfl, rfl⟩
  clear hI5 hI6
  go_wp2
  all_goals go_ret
  all_goals exact ⟨ret_bool (by have e6 := E3.out; rw [beq_iff_eq]; omega), hB6⟩

set_option maxHeartbeats 1000000 in
/-- A premise of the law's own fails: it answers true at once. -/
theorem walk_out (a0 a1 t l n : Int) (w : World) (h : t < 0 ∨ 2305843009213693952 < t ∨ l < 1 ∨ 1152921504606846976 < l ∨ n < -4611686018427387904 ∨ 4611686018427387904 < n) :
    Calls Trym.prog 4 #[.int .i64 a0, .int .i64 a1, .int .i64 t, .int .i64 l, .int .i64 n] w fun e w' => e = .returned (.bool true) ∧ Below w.heap.size w w' := by
  rcases h with h | h | h | h | h | h
  all_goals
    go_enter Trym.func4, Trym.ntmps4
    go_wp2
    all_goals go_ret
    all_goals exact ⟨rfl, Below.refl _ _⟩

theorem walk (a0 : Int) (a1 : Int) (a2 : Int) (a3 : Int) (a4 : Int) (w0 : (Lit.int .i64 a0).wf = true) (w1 : (Lit.int .i64 a1).wf = true) (w2 : (Lit.int .i64 a2).wf = true) (w3 : (Lit.int .i64 a3).wf = true) (w4 : (Lit.int .i64 a4).wf = true) (w : World) :
    Calls Trym.prog 4 #[.int .i64 a0, .int .i64 a1, .int .i64 a2, .int .i64 a3, .int .i64 a4] w fun e w' => e = .returned (.bool true) ∧ Below w.heap.size w w' := by
  by_cases hg : (0 ≤ a2 ∧ a2 ≤ 2305843009213693952) ∧ (1 ≤ a3 ∧ a3 ≤ 1152921504606846976) ∧ (-4611686018427387904 ≤ a4 ∧ a4 ≤ 4611686018427387904)
  · obtain ⟨⟨t0, t1⟩, ⟨l0, l1⟩, n0, n1⟩ := hg
    exact walk_in a0 a1 a2 a3 a4 w t0 t1 l0 l1 n0 n1
  · exact walk_out a0 a1 a2 a3 a4 w (by omega)

/-! ### THE ROW's STEP: WRITTEN OUT: LEAVE IT -/
set_option maxRecDepth 100000 in
theorem lifted (os : Os) (started : os.Started) (H : Type) (enc : TypeId × Value → H) :
    ReturnsInHanded {} Trym.checked os 4 .any (Rows.fnBucketSetOneLimitMoreIsOneMsLaterSpec.pre6 enc Trym.prog Trym.f4 Rows.fnBucketSetOneLimitMoreIsOneMsLaterRow.domain false) (Rows.fnBucketSetOneLimitMoreIsOneMsLaterSpec.post enc Trym.prog Trym.f4 false true false false) := by
  refine returnsInHanded_of_change (C := Trym.checked) own started (by kernel_rfl) Trym.func4
    (ChangeSpec.witness6 (enc := enc) (C := Trym.checked) false ⟨#[], #[.int .i64 0, .int .i64 0, .int .i64 0, .int .i64 0, .int .i64 0], []⟩ 8 (by kernel_rfl) (by kernel_rfl) (by kernel_rfl) (by kernel_rfl)) ?_
  intro W base args ds gs before hval0 hW hcnd _
  have hval : ∀ (j : Nat) t v, Trym.f4.params[j]? = some t → args[j]? = some v → Value.okWide Trym.prog W .any base t v := hval0
  have hW' := hW
  obtain ⟨p, q, hA0, hV, rfl, hfz, hnd⟩ := hW
  have hA : DataW.TrodAll enc Trym.prog W 0 (fun _ => true) true Trym.f4.params.toList args.toList ds p := hA0
  rw [Trym.params4] at hA hval
  obtain ⟨v0, vs0, d0, ds0, p0, q0, hargs, rfl, rfl, h0, r0⟩ := trodAll_cons hA
  obtain ⟨v1, vs1, d1, ds1, p1, q1, rfl, rfl, rfl, h1, r1⟩ := trodAll_cons r0
  obtain ⟨v2, vs2, d2, ds2, p2, q2, rfl, rfl, rfl, h2, r2⟩ := trodAll_cons r1
  obtain ⟨v3, vs3, d3, ds3, p3, q3, rfl, rfl, rfl, h3, r3⟩ := trodAll_cons r2
  obtain ⟨v4, vs4, d4, ds4, p4, q4, rfl, rfl, rfl, h4, r4⟩ := trodAll_cons r3
  obtain ⟨rfl, rfl, rfl⟩ := trodAll_nil r4
  obtain rfl : args = #[v0, v1, v2, v3, v4] := by cases args; simp_all
  obtain ⟨rfl, rfl⟩ := trodVars_none hV
  obtain ⟨a0, rfl, rfl, rfl, w0⟩ := open_int Trym.underlying2 (hval 0 2 v0 rfl rfl) h0
  obtain ⟨a1, rfl, rfl, rfl, w1⟩ := open_int Trym.underlying2 (hval 1 2 v1 rfl rfl) h1
  obtain ⟨a2, rfl, rfl, rfl, w2⟩ := open_int Trym.underlying2 (hval 2 2 v2 rfl rfl) h2
  obtain ⟨a3, rfl, rfl, rfl, w3⟩ := open_int Trym.underlying2 (hval 3 2 v3 rfl rfl) h3
  obtain ⟨a4, rfl, rfl, rfl, w4⟩ := open_int Trym.underlying2 (hval 4 2 v4 rfl rfl) h4
  clear hA0 hval0
  simp only [List.append_nil] at hW'
  refine (walk a0 a1 a2 a3 a4 w0 w1 w2 w3 w4 W).mono fun e W' ⟨he, bel⟩ => ?_
  subst he
  exact ⟨_, rfl, _, _, _, [], [], [], hW', trodAll_mk1 (shut_bool Trym.underlying4 _), (trodAll_cons_mk (shut_int Trym.underlying2 w0) (trodAll_cons_mk (shut_int Trym.underlying2 w1) (trodAll_cons_mk (shut_int Trym.underlying2 w2) (trodAll_cons_mk (shut_int Trym.underlying2 w3) (trodAll_cons_mk (shut_int Trym.underlying2 w4) trodAll_mk0))))), rfl, bel.frame _, fun h => by cases h⟩

theorem over : Rows.fnBucketSetOneLimitMoreIsOneMsLaterRow.holds Trym.pinned (OpenSpec.ofChange Rows.fnBucketSetOneLimitMoreIsOneMsLaterSpec) :=
  OpenClaim.holds_of_wide 4 Trym.f4 rfl rfl rfl rfl rfl rfl rfl ⟨rfl, rfl, rfl, rfl, rfl⟩ rfl rfl rfl rfl rfl (by kernel_rfl) Trym.func4 (by kernel_rfl)
    (of_decide_eq_true (by kernel_rfl)) (by unfold Func.isWrapper; first | (rw [if_pos (by decide +kernel)]; kernel_rfl) | (rw [if_neg (by decide +kernel)]; exact ⟨rfl, rfl⟩))
    (fun os started H enc _ => lifted os started H enc)

/-- ████ THE STATEMENT ████ -/
theorem proved : Rows.FnBucketSetOneLimitMoreIsOneMsLaterSaid :=
  over
#print axioms proved
end Go.Proofs.Qxb6608922aMods.fnBucketSetOneLimitMoreIsOneMsLater
