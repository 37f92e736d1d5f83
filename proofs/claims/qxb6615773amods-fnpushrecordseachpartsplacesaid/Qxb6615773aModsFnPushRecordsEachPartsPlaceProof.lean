import Derived.Test.Qxb6615773aModsWalksE
import Derived.OpenShut
import Derived.ShutString
import Derived.ChangeOld
import Derived.Below
import Derived.Deep.Slices
namespace Go.Proofs.Qxb6615773aMods.fnPushRecordsEachPartsPlace
open Go.ChangeShapes Go.WideShapes Go.ChangeAt Go.RowKit
open Go.Deep (open_slice choose_lt add_add)
set_option linter.unusedVariables false

theorem own : ownKnob Trym.prog.godebug = none := by kernel_rfl
theorem laidOut : laidOutB Trym.prog = true := by kernel_rfl
theorem cells3 : Trym.prog.cellsOf 3 = 1 := by kernel_rfl
theorem cells40 : Trym.prog.cellsOf 40 = 2 := by kernel_rfl

/-! ### THE WALK: the Go text returns true -/
set_option maxHeartbeats 1000000 in
theorem walk_else (a0 : Int) (ao : Option Addr) (n cap : Nat) (w : World) (hm : n ≤ 9223372036854775807) (h0 : (a0 != 0) = true) (h1 : (a0 != 1) = true) :
    Calls Trym.prog 4 #[.int .i64 a0, .slice ao n cap] w fun e w' => e = .returned (.bool true) ∧ Below w.heap.size w w' := by
  go_enter Trym.func4, Trym.ntmps4
  go_wp2_with fail
  refine (zzBytes_any _ _ _ _ _ hm).mono ?_
  rintro e w ⟨⟨b, rfl⟩, rfl⟩
  cases b
  · go_wp2
    go_ret
    exact ⟨rfl, Below.refl _ _⟩
  by_cases hn : 65536 < n
  · go_wp2
    go_ret
    exact ⟨rfl, Below.refl _ _⟩
  go_wp2
  go_ret
  exact ⟨rfl, Below.refl _ _⟩

theorem walk (a0 : Int) (ao : Option Addr) (n cap : Nat) (X Y : Nat → Int) (w : World) (h : IsPairs w ao n cap X Y) :
    Calls Trym.prog 4 #[.int .i64 a0, .slice ao n cap] w fun e w' => e = .returned (.bool true) ∧ Below w.heap.size w w' := by
  by_cases h0 : a0 = 0
  · subst h0; exact records_walk0 ao n cap X Y w h
  by_cases h1 : a0 = 1
  · subst h1; exact records_walk1 ao n cap X Y w h
  have hm := h.2.1
  have hn := h.1
  unfold maxLen at hm
  exact walk_else a0 ao n cap w (by omega) (by simpa using h0) (by simpa using h1)

/-! ### THE ROW's STEP -/
theorem open_pairs {H : Type} {enc : TypeId × Value → H} {W : World} {a : Option Addr} {len cap : Nat} {x : DataW H × List MemPlace} {fuel : Nat}
    (h : DataW.trod enc Trym.prog W 0 (fun _ => true) true fuel 35 [.slice a len cap] = some x) : ∃ X Y, IsPairs W a len cap X Y := by
  rcases open_slice Trym.underlying35 h with ⟨hcs, _⟩ | ⟨ad, l, c, m, n, D, Pl, hcs, _, hl, hm, hmm, _, hx⟩
  · simp only [List.cons.injEq, Value.slice.injEq, and_true] at hcs
    obtain ⟨rfl, rfl, rfl⟩ := hcs
    exact ⟨fun _ => 0, fun _ => 0, Nat.le_refl _, Nat.zero_le _, fun _ => rfl, fun ad had => by cases had⟩
  · simp only [List.cons.injEq, Value.slice.injEq, and_true] at hcs
    obtain ⟨rfl, rfl, rfl⟩ := hcs
    have hm' : m = cap := by simpa using hmm
    have each : ∀ i, i < len → ∃ q : Int × Int, W.cell? (ad.add (i * 2)) = some (.int .i64 q.1) ∧ W.cell? (ad.add (i * 2 + 1)) = some (.int .i64 q.2) := by
      intro i hi
      obtain ⟨cs', h1, h2⟩ := hx i (by omega)
      rw [cells40] at h1
      obtain ⟨_, hlen, hcell⟩ := World.cells?_some h1
      obtain ⟨xs, k, hk, hxy, _, hxl, hf⟩ := DataW.trod_array Trym.underlying40 h2
      match xs, hxl, cs', hlen with
      | [y0, y1], _, [v0, v1], _ =>
        have g0 := hf 0 (by omega)
        have g1 := hf 1 (by omega)
        simp [cells3] at g0 g1
        obtain ⟨p0, hp0, _⟩ := DataW.trod_int Trym.underlying3 g0
        obtain ⟨p1, hp1, _⟩ := DataW.trod_int Trym.underlying3 g1
        simp at hp0 hp1
        subst hp0
        subst hp1
        have e0 := hcell 0 (by omega)
        have e1 := hcell 1 (by omega)
        rw [add_add] at e0 e1
        exact ⟨(p0, p1), by simpa using e0, by simpa using e1⟩
    obtain ⟨q, hq⟩ := choose_lt each
    refine ⟨fun i => (q i).1, fun i => (q i).2, hl, hm, (fun h => by cases h), fun ad' had i hi => ?_⟩
    obtain rfl : ad' = ad := (Option.some.inj had).symm
    exact hq i hi

set_option maxRecDepth 100000 in
theorem lifted (os : Os) (started : os.Started) (H : Type) (enc : TypeId × Value → H) :
    ReturnsInHanded {} Trym.checked os 4 .any (Rows.fnPushRecordsEachPartsPlaceSpec.pre6 enc Trym.prog Trym.f4 Rows.fnPushRecordsEachPartsPlaceRow.domain false) (Rows.fnPushRecordsEachPartsPlaceSpec.post enc Trym.prog Trym.f4 false true false false) := by
  refine returnsInHanded_of_change (C := Trym.checked) own started (by kernel_rfl) Trym.func4
    (ChangeSpec.witness6 (enc := enc) (C := Trym.checked) false ⟨#[], #[.int .i64 0, .slice none 0 0], []⟩ 8 (by kernel_rfl) (by kernel_rfl) (by kernel_rfl) (by kernel_rfl)) ?_
  intro W base args ds gs before hval0 hW hcnd _
  have hval : ∀ (j : Nat) t v, Trym.f4.params[j]? = some t → args[j]? = some v → Value.okWide Trym.prog W .any base t v := hval0
  have hW' := hW
  obtain ⟨p, q, hA0, hV, rfl, hfz, hnd⟩ := hW
  have hA : DataW.TrodAll enc Trym.prog W 0 (fun _ => true) true Trym.f4.params.toList args.toList ds p := hA0
  rw [Trym.params4] at hA hval
  obtain ⟨v0, vs0, d0, ds0, p0, q0, hargs, rfl, rfl, h0, r0⟩ := trodAll_cons hA
  obtain ⟨v1, vs1, d1, ds1, p1, q1, rfl, rfl, rfl, h1, r1⟩ := trodAll_cons r0
  obtain ⟨rfl, rfl, rfl⟩ := trodAll_nil r1
  obtain rfl : args = #[v0, v1] := by cases args; simp_all
  obtain ⟨rfl, rfl⟩ := trodVars_none hV
  obtain ⟨a0, rfl, rfl, rfl, w0⟩ := open_int Trym.underlying3 (hval 0 3 v0 rfl rfl) h0
  obtain ⟨a1, len1, cap1, rfl⟩ := okWide_slice Trym.underlying35 (hval 1 35 v1 rfl rfl)
  have k1 := h1
  have lt1 : ∀ x ∈ p1, x.block < W.heap.size := by obtain ⟨m, hm⟩ := k1; exact DataW.trod_lt m _ _ _ hm
  obtain ⟨X, Y, w1⟩ : ∃ X Y, IsPairs W a1 len1 cap1 X Y := by
    obtain ⟨fuel, hf⟩ := h1
    exact open_pairs (by simpa [Value.cells] using hf)
  clear hA0 hval0
  refine (walk a0 a1 len1 cap1 X Y W w1).mono fun e W' ⟨he, bel⟩ => ?_
  subst he
  exact ⟨_, rfl, _, _, _, [], _, [], hW', trodAll_mk1 (shut_bool Trym.underlying4 _), (trodAll_cons_mk (shut_int Trym.underlying3 w0) (trodAll_cons_mk (Below.trod laidOut (by kernel_rfl) (of_decide_eq_true (by kernel_rfl)) k1 bel lt1) trodAll_mk0)), rfl, bel.frame _, fun h => by cases h⟩

theorem over : Rows.fnPushRecordsEachPartsPlaceRow.holds Trym.pinned (OpenSpec.ofChange Rows.fnPushRecordsEachPartsPlaceSpec) :=
  OpenClaim.holds_of_wide 4 Trym.f4 rfl rfl rfl rfl rfl rfl rfl ⟨rfl, rfl, rfl, rfl, rfl⟩ rfl rfl rfl rfl rfl (by kernel_rfl) Trym.func4 (by kernel_rfl)
    (of_decide_eq_true (by kernel_rfl)) (by unfold Func.isWrapper; first | (rw [if_pos (by decide +kernel)]; kernel_rfl) | (rw [if_neg (by decide +kernel)]; exact ⟨rfl, rfl⟩))
    (fun os started H enc _ => lifted os started H enc)

/-- THE STATEMENT -/
theorem proved : Rows.FnPushRecordsEachPartsPlaceSaid := over
#print axioms proved
end Go.Proofs.Qxb6615773aMods.fnPushRecordsEachPartsPlace
