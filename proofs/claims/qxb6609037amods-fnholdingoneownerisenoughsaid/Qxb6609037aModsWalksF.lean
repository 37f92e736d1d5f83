import Derived.Test.Qxb6609037aModsWalksE
namespace Go.Proofs.Qxb6609037aMods
open Go.ChangeShapes Go.WideShapes Go.ChangeAt Go.RowKit

set_option maxHeartbeats 1600000 in
set_option maxRecDepth 1000000 in
theorem enough_walk (ao bo : Option Addr) (n cap m mcap : Nat) (xs ys : List ByteArray) (x out : ByteArray) (w : World) (h : IsStrs w ao n cap xs) (h' : IsStrs w bo m mcap ys) :
    Calls Trym.prog 5 #[.slice ao n cap, .slice bo m mcap, .string x, .string out] w fun e w' => e = .returned (.bool true) ∧ Below w.heap.size w w' := by
  obtain ⟨i0, hi, hz0, hz1, hz2⟩ := info_parts Trym.info9
  have qn : ∀ (w : World) (a : Option Addr) (n c n' c' : Nat), (binOp .neq 22 (.slice a n c) (.slice none n' c')).run Trym.prog w = .ok (.bool (!a.isNone)) w := fun w a n c n' c' => run_neq_slice_nil_any w _ _ a n c n' c' Trym.underlying22
  have hs1 : (Trym.prog.info? 9).map (·.size) = some 1 := by rw [hi]; simp [hz1]
  go_enter Trym.func5, Trym.ntmps5
  go_wp2_with fail
  refine (zzBytes_14 _ _ _ _ _ _ _ _ _ _ _ h h').mono ?_
  rintro e w ⟨⟨b, rfl, hb⟩, rfl⟩
  cases b
  · go_wp2
    go_ret
    exact ⟨rfl, Below.refl _ _⟩
  obtain ⟨hn, hm⟩ := hb rfl
  clear hb
  go_wp2_with fail
  refine (zzHoldingSize_any _ _ _ _ _ _ _ _ _ _ _ h h').mono ?_
  rintro e w ⟨⟨r, rfl⟩, rfl⟩
  by_cases hr : 1048576 < r
  · go_wp2
    go_ret
    exact ⟨rfl, Below.refl _ _⟩
  go_wp2_with fail
  refine (zzAmong_any _ _ _ _ _ _ h').mono ?_
  rintro e w ⟨rfl, rfl⟩
  obtain ⟨am, ham⟩ : ∃ am, am = amongB x ys := ⟨_, rfl⟩
  rw [← ham]
  have HAM : Hid (am = amongB x ys) := ham
  clear ham
  cases am
  case true =>
    go_wp2
    go_ret
    exact ⟨rfl, Below.refl _ _⟩
  go_upto_if 32 with fail
  go_cut [0] from 16 (fun v wc => ∃ ao cap, v = .slice ao n cap ∧ IsStrs wc ao n cap xs ∧ Below w.heap.size w wc)
  case first =>
    cases ao with
    | none =>
      go_wp2
      go_meet
      case rel => exact ⟨none, cap, rfl, h, Below.refl _ _⟩
    | some ad =>
      go_wp2_with (first | (at_make; refine wpList_make_full _ rfl _ _ 22 rfl w.heap.size 9 i0 (.string ByteArray.empty) 1 Trym.underlying22 hi hz0 hz1 .i64 .i64 n n n rfl rfl rfl rfl (by rw [hz2]; omega) (by unfold maxLen; omega) (Nat.le_refl _) ?_; intro w1 hown1 hgrow1; obtain ⟨cur, hcur, hcl⟩ := made_row hown1; have hB1 := below_made hgrow1; have h1 := h.below hB1; clear hown1 hgrow1) | (refine wpList_copy_splice rfl (.tmp 36) (.tmp 37) 22 22 rfl 9 Trym.underlying22 hs1 (some ⟨w.heap.size, 0, none⟩) (some ad) n n n cap rfl rfl w.heap.size 0 cur 9 hcur (xs.map Value.string) (by simp [h.1]) (fun _ => ⟨rfl, ad, rfl, h1.news.2.2 ad rfl⟩) (by simp [h.1, hcl]) (strings_oneCell xs) w.heap.size w hB1 (Nat.le_refl _) ?_; intro w2 HG2 hB2))
      go_meet
      case rel => exact ⟨_, _, rfl, isStrs_splice h.1 hcl (by unfold maxLen; omega) HG2.out, hB2⟩
  case rest =>
    obtain ⟨ao, cap, rfl, h1, hB1⟩ := hcut
    have h2 := h'.below hB1
    clear h h' hr
    go_upto_if 41 with fail
    go_cut [1] from 16 (fun v wd => ∃ bo mcap, v = .slice bo m mcap ∧ IsStrs wd bo m mcap ys ∧ Below wc.heap.size wc wd)
    case first =>
      cases bo with
      | none =>
        go_wp2
        go_meet
        case rel => exact ⟨none, mcap, rfl, h2, Below.refl _ _⟩
      | some ad =>
        go_wp2_with (first | (at_make; refine wpList_make_full _ rfl _ _ 22 rfl wc.heap.size 9 i0 (.string ByteArray.empty) 1 Trym.underlying22 hi hz0 hz1 .i64 .i64 m m m rfl rfl rfl rfl (by rw [hz2]; omega) (by unfold maxLen; omega) (Nat.le_refl _) ?_; intro w1 hown1 hgrow1; obtain ⟨cur, hcur, hcl⟩ := made_row hown1; have hB1 := below_made hgrow1; have h3 := h2.below hB1; clear hown1 hgrow1) | (refine wpList_copy_splice rfl (.tmp 45) (.tmp 46) 22 22 rfl 9 Trym.underlying22 hs1 (some ⟨wc.heap.size, 0, none⟩) (some ad) m m m mcap rfl rfl wc.heap.size 0 cur 9 hcur (ys.map Value.string) (by simp [h2.1]) (fun _ => ⟨rfl, ad, rfl, h3.news.2.2 ad rfl⟩) (by simp [h2.1, hcl]) (strings_oneCell ys) wc.heap.size wc hB1 (Nat.le_refl _) ?_; intro w2 HG2 hB2))
        go_meet
        case rel => exact ⟨_, _, rfl, isStrs_splice h2.1 hcl (by unfold maxLen; omega) HG2.out, hB2⟩
    case rest =>
      obtain ⟨bo, mcap, rfl, h4, hB2⟩ := hcut
      have h3 := h1.below hB2
      have hB3 := hB1.trans (hB2.mono hB1.size)
      clear h1 h2 hB1 hB2 qn hs1
      go_wp2_with fail
      refine (newClaim_any bo m mcap false out _).mono ?_
      rintro e w1 ⟨rfl, hBn⟩
      go_upto_region 16 with fail
      obtain ⟨W0, hW0⟩ : ∃ W, W = w1.alloc (.cells #[.slice bo m mcap, .bool false, .string out] 40) := ⟨_, rfl⟩
      rw [← hW0]
      have hB0 : Below wc.heap.size wc W0 := by rw [hW0]; exact hBn.alloc hBn.size _
      have h5 := h3.below hB0
      have h6 := h4.below hB0
      have hcl : IsClaim W0 w1.heap.size bo m mcap false out := by rw [hW0]; exact ⟨by simp, by simp, by simp⟩
      have hlt0 : w1.heap.size < W0.heap.size := by rw [hW0]; simp
      have hB4 := hB3.trans (hB0.mono hB3.size)
      clear hW0 hB0 h3 h4 hBn hB3
      go_upto_region 17 with (at_make; refine wpList_make_own _ rfl _ _ 22 rfl W0.heap.size 9 i0 (.string ByteArray.empty) 1 Trym.underlying22 hi hz0 hz1 .i64 .i64 ((n : Int) + m + 1) (n + m + 1) rfl rfl (by omega) (by rw [hz2]; omega) (by unfold maxLen; omega) (Nat.le_refl _) ?_; intro wM hownM hgrowM)
      have hBM := below_made hgrowM
      have h7 := h5.below hBM
      go_upto_region 18 with (at_builtin; refine wpList_append_fits_any _ rfl (.tmp 59) (.tmp 60) 22 rfl W0.heap.size 9 i0 1 Trym.underlying22 hi hz1 W0.heap.size 0 (n + m + 1) [] rfl hownM ao n cap (xs.map Value.string) rfl h7.news.1 h7.news.2.1 h7.news.2.2 (strings_oneCell xs) (by omega) ?_; intro wA hownA hgrowA)
      simp only [Nat.zero_add, List.nil_append] at hownA
      have hBA := below_row hBM hgrowA
      have h8 := h6.below hBA
      clear h7 hownM hgrowM hBM hgrowA
      go_upto_region 19 with (at_builtin; refine wpList_append_fits_any _ rfl (.tmp 62) (.tmp 63) 22 rfl W0.heap.size 9 i0 1 Trym.underlying22 hi hz1 W0.heap.size n (n + m + 1) (xs.map Value.string) rfl hownA bo m mcap (ys.map Value.string) rfl h8.news.1 h8.news.2.1 h8.news.2.2 (strings_oneCell ys) (by omega) ?_; intro wO hownO hgrowO)
      have hBO := below_row hBA hgrowO
      clear h8 hownA hBA hgrowO
      go_upto_region 20 with (at_builtin; refine wpList_append_fits _ rfl (.tmp 65) (.tmp 67) 22 rfl W0.heap.size 9 i0 1 Trym.underlying22 hi hz1 W0.heap.size (n + m) (n + m + 1) (xs.map Value.string ++ ys.map Value.string) rfl (hownO.alloc _) ⟨wO.heap.size, 0, none⟩ 1 1 [.string x] rfl rfl (cell_one_new _ _ _) (strings_oneCell [x]) (by omega) ?_; intro wX hownX hgrowX)
      have hBX := below_row (hBO.alloc hBO.size _) hgrowX
      clear hownO hBO hgrowX
      have hall : IsStrs wX (some ⟨W0.heap.size, 0, none⟩) (n + m + 1) (n + m + 1) (xs ++ ys ++ [x]) := isStrs_of_own (by simpa using hownX)
      clear hownX
      obtain ⟨k0, k1, k2⟩ := hcl.below hBX hlt0
      go_wp2_with fail
      refine (Holding_strs _ _ _ _ _ _ false out _ ys _ hall (h6.below hBX) (by omega)).mono ?_
      rintro e wG ⟨ga, N, gc, rfl, hG, hN, hBG, hGn⟩
      have hB5 := hBX.trans (hBG.mono hBX.size)
      clear k0 k1 k2 hall hBX hBG
      obtain ⟨k0, k1, k2⟩ := hcl.below hB5 hlt0
      have HG : Hid (holdB (xs ++ ys ++ [x]) ys false = [] → ga = none ∧ N = 0 ∧ gc = 0) := hGn
      clear hGn
      go_wp2_with fail
      refine (Holding_strs _ _ _ _ _ _ false out _ ys _ (h5.below hB5) (h6.below hB5) (by omega)).mono ?_
      rintro e wH ⟨ha, N2, hc, rfl, hH, hN2, hBH, -⟩
      have hB6 := hB5.trans (hBH.mono hB5.size)
      have hB7 := hB4.trans (hB6.mono hB4.size)
      have hG := hG.below hBH
      have h9 := h6.below hB6
      have hGl := hG.1
      rw [hold_one_enough xs ys x HAM.out.symm] at hG HG hGl
      have hnil : N = 0 → ga = none ∧ N = 0 ∧ gc = 0 := fun h0 => HG.out (List.eq_nil_of_length_eq_zero (hGl.trans h0))
      obtain ⟨zs, hzs⟩ : ∃ zs, zs = holdB xs ys false := ⟨_, rfl⟩
      rw [← hzs] at hG hH
      have HNIL : Hid (N = 0 → ga = none ∧ N = 0 ∧ gc = 0) := hnil
      clear hzs hnil hGl k0 k1 k2 HG HAM hcl hB6 hB5 hBH h5 h6 hB4
      go_upto_region 23 with (at_make; refine wpList_make_own _ rfl _ _ 22 rfl wH.heap.size 9 i0 (.string ByteArray.empty) 1 Trym.underlying22 hi hz0 hz1 .i64 .i64 ((N2 : Int) + m) (N2 + m) rfl rfl (by omega) (by rw [hz2]; omega) (by unfold maxLen; omega) (Nat.le_refl _) ?_; intro wM2 hownM hgrowM)
      have hBM := below_made hgrowM
      have h7 := hH.below hBM
      go_upto_region 24 with (at_builtin; refine wpList_append_fits_any _ rfl (.tmp 81) (.tmp 82) 22 rfl wH.heap.size 9 i0 1 Trym.underlying22 hi hz1 wH.heap.size 0 (N2 + m) [] rfl hownM ha N2 hc (zs.map Value.string) rfl h7.news.1 h7.news.2.1 h7.news.2.2 (strings_oneCell zs) (by omega) ?_; intro wA2 hownA hgrowA)
      simp only [Nat.zero_add, List.nil_append] at hownA
      have hBA := below_row hBM hgrowA
      have h8 := h9.below hBA
      clear h7 hownM hgrowM hBM hgrowA
      go_upto_region 25 with (at_builtin; refine wpList_append_fits_any _ rfl (.tmp 84) (.tmp 85) 22 rfl wH.heap.size 9 i0 1 Trym.underlying22 hi hz1 wH.heap.size N2 (N2 + m) (zs.map Value.string) rfl hownA bo m mcap (ys.map Value.string) rfl h8.news.1 h8.news.2.1 h8.news.2.2 (strings_oneCell ys) (by omega) ?_; intro wO2 hownO hgrowO)
      have hBO := below_row hBA hgrowO
      clear hownA hBA hgrowO h8 h9
      have hW : IsStrs wO2 (some ⟨wH.heap.size, 0, none⟩) (N2 + m) (N2 + m) (zs ++ ys) := isStrs_of_own (by simpa using hownO)
      have hG := hG.below hBO
      have hB8 := hB7.trans (hBO.mono hB7.size)
      clear hownO hBO hB7
      have qe : ∀ (w : World) (a : Option Addr) (n c n' c' : Nat), (binOp .eql 22 (.slice a n c) (.slice none n' c')).run Trym.prog w = .ok (.bool a.isNone) w := fun w a n c n' c' => Lib.run_eql_slice_nil w _ _ a n c n' c' Trym.underlying22
      by_cases h0 : 0 < N
      · go_wp2_with fail
        refine (same_any _ _ _ _ _ _ _ _ hG hW).mono ?_
        rintro e wZ ⟨rfl, hBZ⟩
        go_wp2
        go_ret
        exact ⟨rfl, hB8.trans (hBZ.mono hB8.size)⟩
      · obtain ⟨rfl, rfl, rfl⟩ := HNIL.out (by omega)
        go_wp2_with fail
        refine (same_any _ _ _ _ _ _ _ _ hG hW).mono ?_
        rintro e wZ ⟨rfl, hBZ⟩
        go_wp2
        go_ret
        exact ⟨rfl, hB8.trans (hBZ.mono hB8.size)⟩
end Go.Proofs.Qxb6609037aMods
