import Derived.Test.Qxb6609037aModsWalksD
import Derived.Deep.DeepCutAuto
namespace Go.Proofs.Qxb6609037aMods
open Go.ChangeShapes Go.WideShapes Go.ChangeAt Go.RowKit

def IsClaim (w : World) (b : Nat) (co : Option Addr) (cn ccap : Nat) (every : Bool) (out : ByteArray) : Prop :=
  w.cell? ⟨b, 0, none⟩ = some (.slice co cn ccap) ∧ w.cell? ⟨b, 1, none⟩ = some (.bool every) ∧ w.cell? ⟨b, 2, none⟩ = some (.string out)
theorem IsClaim.below {w w' : World} {b B : Nat} {co : Option Addr} {cn ccap : Nat} {every : Bool} {out : ByteArray} (h : IsClaim w b co cn ccap every out) (hb : Below B w w') (hlt : b < B) : IsClaim w' b co cn ccap every out :=
  ⟨(hb.cell (by exact hlt)).trans h.1, (hb.cell (by exact hlt)).trans h.2.1, (hb.cell (by exact hlt)).trans h.2.2⟩

def oneB (o : ByteArray) (ys : List ByteArray) : Bool := ys.all fun s => eqs s o
theorem oneB_step (o : ByteArray) (ys : List ByteArray) (k : Nat) (h : k < ys.length) : oneB o (ys.take (k + 1)) = (oneB o (ys.take k) && eqs (ys.getD k ByteArray.empty) o) := by
  rw [take_snoc ys k h]; simp [oneB]
theorem oneB_iff (o : ByteArray) (ys : List ByteArray) : oneB o ys = true ↔ ∀ s ∈ ys, s = o := by
  simp [oneB, eqs_iff]

theorem below_row {W0 wM wA : World} (hb : Below W0.heap.size W0 wM) (hg : wM.grownBy wA (some W0.heap.size)) : Below W0.heap.size W0 wA :=
  hb.grown hg hb.size (fun k hk => by cases hk; exact Nat.le_refl _)
theorem isStrs_of_own {w : World} {B g n cap : Nat} {ys : List ByteArray} (h : w.ownsRow B 9 1 (.slice (some ⟨g, 0, none⟩) n cap) n (ys.map Value.string)) : IsStrs w (some ⟨g, 0, none⟩) n cap ys := by
  obtain ⟨ao, c, hv, hs⟩ := isStrs_own h
  simp only [Value.slice.injEq] at hv
  obtain ⟨rfl, _, rfl⟩ := hv
  exact hs

set_option maxHeartbeats 1600000 in
set_option maxRecDepth 1000000 in
theorem every_walk (ao bo : Option Addr) (n cap m mcap : Nat) (xs ys : List ByteArray) (x out : ByteArray) (w : World) (h : IsStrs w ao n cap xs) (h' : IsStrs w bo m mcap ys) :
    Calls Trym.prog 6 #[.slice ao n cap, .slice bo m mcap, .string x, .string out] w fun e w' => e = .returned (.bool true) ∧ Below w.heap.size w w' := by
  obtain ⟨i0, hi, hz0, hz1, hz2⟩ := info_parts Trym.info9
  have qn : ∀ (w : World) (a : Option Addr) (n c n' c' : Nat), (binOp .neq 22 (.slice a n c) (.slice none n' c')).run Trym.prog w = .ok (.bool (!a.isNone)) w := fun w a n c n' c' => run_neq_slice_nil_any w _ _ a n c n' c' Trym.underlying22
  have hs1 : (Trym.prog.info? 9).map (·.size) = some 1 := by rw [hi]; simp [hz1]
  go_enter Trym.func6, Trym.ntmps6
  go_wp2_with fail
  refine (zzBytes_20 _ _ _ _ _ _ _ _ _ _ _ h h').mono ?_
  rintro e w ⟨⟨b, rfl, hb⟩, rfl⟩
  cases b
  · go_wp2
    go_ret
    exact ⟨rfl, Below.refl _ _⟩
  obtain ⟨hn, hm⟩ := hb rfl
  clear hb
  go_wp2_with fail
  refine (zzHoldingSize_any _ _ _ _ _ _ _ _ _ _ _ h h').mono ?_
  rintro e w ⟨⟨r, rfl⟩, rfl⟩
  by_cases hr : 1048576 < r
  · go_wp2
    go_ret
    exact ⟨rfl, Below.refl _ _⟩
  go_upto_if 33 with fail
  go_cut [0] from 20 (fun v wc => ∃ ao cap, v = .slice ao n cap ∧ IsStrs wc ao n cap xs ∧ Below w.heap.size w wc)
  case first =>
    cases ao with
    | none =>
      go_wp2
      go_meet
      case rel => exact ⟨none, cap, rfl, h, Below.refl _ _⟩
    | some ad =>
      go_wp2_with (first | (at_make; refine wpList_make_full _ rfl _ _ 22 rfl w.heap.size 9 i0 (.string ByteArray.empty) 1 Trym.underlying22 hi hz0 hz1 .i64 .i64 n n n rfl rfl rfl rfl (by rw [hz2]; omega) (by unfold maxLen; omega) (Nat.le_refl _) ?_; intro w1 hown1 hgrow1; obtain ⟨cur, hcur, hcl⟩ := made_row hown1; have hB1 := below_made hgrow1; have h1 := h.below hB1; clear hown1 hgrow1) | (refine wpList_copy_splice rfl (.tmp 37) (.tmp 38) 22 22 rfl 9 Trym.underlying22 hs1 (some ⟨w.heap.size, 0, none⟩) (some ad) n n n cap rfl rfl w.heap.size 0 cur 9 hcur (xs.map Value.string) (by simp [h.1]) (fun _ => ⟨rfl, ad, rfl, h1.news.2.2 ad rfl⟩) (by simp [h.1, hcl]) (strings_oneCell xs) w.heap.size w hB1 (Nat.le_refl _) ?_; intro w2 HG2 hB2))
      go_meet
      case rel => exact ⟨_, _, rfl, isStrs_splice h.1 hcl (by unfold maxLen; omega) HG2.out, hB2⟩
  case rest =>
    obtain ⟨ao, cap, rfl, h1, hB1⟩ := hcut
    have h2 := h'.below hB1
    clear h h' hr
    go_upto_if 42 with fail
    go_cut [1] from 20 (fun v wd => ∃ bo mcap, v = .slice bo m mcap ∧ IsStrs wd bo m mcap ys ∧ Below wc.heap.size wc wd)
    case first =>
      cases bo with
      | none =>
        go_wp2
        go_meet
        case rel => exact ⟨none, mcap, rfl, h2, Below.refl _ _⟩
      | some ad =>
        go_wp2_with (first | (at_make; refine wpList_make_full _ rfl _ _ 22 rfl wc.heap.size 9 i0 (.string ByteArray.empty) 1 Trym.underlying22 hi hz0 hz1 .i64 .i64 m m m rfl rfl rfl rfl (by rw [hz2]; omega) (by unfold maxLen; omega) (Nat.le_refl _) ?_; intro w1 hown1 hgrow1; obtain ⟨cur, hcur, hcl⟩ := made_row hown1; have hB1 := below_made hgrow1; have h3 := h2.below hB1; clear hown1 hgrow1) | (refine wpList_copy_splice rfl (.tmp 46) (.tmp 47) 22 22 rfl 9 Trym.underlying22 hs1 (some ⟨wc.heap.size, 0, none⟩) (some ad) m m m mcap rfl rfl wc.heap.size 0 cur 9 hcur (ys.map Value.string) (by simp [h2.1]) (fun _ => ⟨rfl, ad, rfl, h3.news.2.2 ad rfl⟩) (by simp [h2.1, hcl]) (strings_oneCell ys) wc.heap.size wc hB1 (Nat.le_refl _) ?_; intro w2 HG2 hB2))
        go_meet
        case rel => exact ⟨_, _, rfl, isStrs_splice h2.1 hcl (by unfold maxLen; omega) HG2.out, hB2⟩
    case rest =>
      obtain ⟨bo, mcap, rfl, h4, hB2⟩ := hcut
      have h3 := h1.below hB2
      have hB3 := hB1.trans (hB2.mono hB1.size)
      clear h1 h2 hB1 hB2 qn hs1
      go_upto_if 52 with fail
      go_cut [11] from 20 (fun v we => v = .string (ys.getD 0 ByteArray.empty) ∧ we = wc)
      case first =>
        by_cases hm0 : 0 < m
        · obtain ⟨b, off, rfl, hcell⟩ := h4.at hm0
          have hc0 := hcell 0 hm0
          rw [Nat.add_zero] at hc0
          clear hcell
          go_wp2
          go_meet
          case rel => exact ⟨rfl, rfl⟩
        · go_wp2
          go_meet
          case rel =>
            have : ys = [] := List.eq_nil_of_length_eq_zero (by have := h4.1; omega)
            subst this
            exact ⟨rfl, rfl⟩
      case rest =>
        obtain ⟨rfl, hwc⟩ := hcut
        subst hwc
        obtain ⟨o, ho⟩ : ∃ o, o = ys.getD 0 ByteArray.empty := ⟨_, rfl⟩
        rw [← ho]
        have HO : Hid (o = ys.getD 0 ByteArray.empty) := ho
        clear ho
        by_cases hxo : (x.toList == o.toList) = true
        · go_wp2
          go_ret
          exact ⟨rfl, hB3⟩
        rw [Bool.not_eq_true] at hxo
        have HL : Hid (ys.length = m) := h4.1
        go_wp2
        go_loop [12, 64] (fun one i => ∃ k : Nat, k ≤ m ∧ i = .int .i64 k ∧ one = .bool (decide (0 < m) && oneB o (ys.take k))) (fun _ i => m - (intOf i).toNat)
        case atStart => exact ⟨0, Nat.zero_le _, rfl, by simp [oneB]⟩
        case round =>
          obtain ⟨k, hk, rfl, rfl⟩ := hrel
          by_cases hlt : k < m
          · obtain ⟨b, off, rfl, hcell⟩ := h4.at (by omega)
            have hck := hcell k hlt
            have hst := oneB_step o ys k (by rw [HL.out]; exact hlt)
            obtain ⟨s, hs⟩ : ∃ s, s = ys.getD k ByteArray.empty := ⟨_, rfl⟩
            rw [← hs] at hck hst
            have HS : Hid (oneB o (ys.take (k + 1)) = (oneB o (ys.take k) && eqs s o)) := hst
            clear hcell hs hst
            go_wp2
            · have he : (!s.toList == o.toList) = true := by assumption
              have he' : eqs s o = false := by simpa [eqs] using he
              go_round
              case rel => exact ⟨k + 1, by omega, by go_num, by rw [HS.out, he']; simp⟩
              case measure => simp [intOf]; omega
            · have he : (!s.toList == o.toList) = false := by assumption
              have he' : eqs s o = true := by simpa [eqs] using he
              go_round
              case rel => exact ⟨k + 1, by omega, by go_num, by rw [HS.out, he']; simp⟩
              case measure => simp [intOf]; omega
          · have he : ys.take k = ys := List.take_of_length_le (by rw [HL.out]; omega)
            rw [he]
            obtain ⟨one, hone⟩ : ∃ one, one = (decide (0 < m) && oneB o ys) := ⟨_, rfl⟩
            rw [← hone]
            have HN : Hid (one = (decide (0 < m) && oneB o ys)) := hone
            clear he hone
            go_wp2_with fail
            refine (newClaim_any bo m mcap true out _).mono ?_
            rintro e w1 ⟨rfl, hBn⟩
            go_upto_region 26 with fail
            obtain ⟨W0, hW0⟩ : ∃ W, W = w1.alloc (.cells #[.slice bo m mcap, .bool true, .string out] 40) := ⟨_, rfl⟩
            rw [← hW0]
            have hB0 : Below wc.heap.size wc W0 := by rw [hW0]; exact hBn.alloc hBn.size _
            have h5 := h3.below hB0
            have h6 := h4.below hB0
            have hcl : IsClaim W0 w1.heap.size bo m mcap true out := by rw [hW0]; exact ⟨by simp, by simp, by simp⟩
            have hlt0 : w1.heap.size < W0.heap.size := by rw [hW0]; simp
            have hB4 := hB3.trans (hB0.mono hB3.size)
            clear hW0 hB0 h3 h4 hBn hB3 hk hlt
            go_upto_region 27 with (at_make; refine wpList_make_own _ rfl _ _ 22 rfl W0.heap.size 9 i0 (.string ByteArray.empty) 1 Trym.underlying22 hi hz0 hz1 .i64 .i64 ((n : Int) + 2) (n + 2) rfl rfl (by omega) (by rw [hz2]; omega) (by unfold maxLen; omega) (Nat.le_refl _) ?_; intro wM hownM hgrowM)
            have hBM := below_made hgrowM
            have h7 := h5.below hBM
            go_upto_region 28 with (at_builtin; refine wpList_append_fits_any _ rfl (.tmp 79) (.tmp 80) 22 rfl W0.heap.size 9 i0 1 Trym.underlying22 hi hz1 W0.heap.size 0 (n + 2) [] rfl hownM ao n cap (xs.map Value.string) rfl h7.news.1 h7.news.2.1 h7.news.2.2 (strings_oneCell xs) (by omega) ?_; intro wA hownA hgrowA)
            simp only [Nat.zero_add, List.nil_append] at hownA
            have hBA := below_row hBM hgrowA
            clear h7 hownM hgrowM hBM hgrowA
            go_upto_region 29 with (at_builtin; refine wpList_append_fits _ rfl (.tmp 82) (.tmp 84) 22 rfl W0.heap.size 9 i0 1 Trym.underlying22 hi hz1 W0.heap.size n (n + 2) (xs.map Value.string) rfl (hownA.alloc _) ⟨wA.heap.size, 0, none⟩ 1 1 [.string o] rfl rfl (cell_one_new _ _ _) (strings_oneCell [o]) (by omega) ?_; intro wO hownO hgrowO)
            have hBO := below_row (hBA.alloc hBA.size _) hgrowO
            clear hownA hBA hgrowO
            go_upto_region 30 with (at_builtin; refine wpList_append_fits _ rfl (.tmp 86) (.tmp 88) 22 rfl W0.heap.size 9 i0 1 Trym.underlying22 hi hz1 W0.heap.size (n + 1) (n + 2) (xs.map Value.string ++ [.string o]) rfl (hownO.alloc _) ⟨wO.heap.size, 0, none⟩ 1 1 [.string x] rfl rfl (cell_one_new _ _ _) (strings_oneCell [x]) (by omega) ?_; intro wX hownX hgrowX)
            have hBX := below_row (hBO.alloc hBO.size _) hgrowX
            clear hownO hBO hgrowX
            have hall : IsStrs wX (some ⟨W0.heap.size, 0, none⟩) (n + 1 + 1) (n + 2) (xs ++ [o] ++ [x]) := isStrs_of_own (by simpa using hownX)
            clear hownX
            obtain ⟨k0, k1, k2⟩ := hcl.below hBX hlt0
            go_wp2_with fail
            refine (Holding_strs _ _ _ _ _ _ true out _ ys _ hall (h6.below hBX) (by omega)).mono ?_
            rintro e wG ⟨ga, N, gc, rfl, hG, hN, hBG, hGn⟩
            have hB5 := hBX.trans (hBG.mono hBX.size)
            clear k0 k1 k2 hall hBX hBG
            obtain ⟨k0, k1, k2⟩ := hcl.below hB5 hlt0
            have HG : Hid (holdB (xs ++ [o] ++ [x]) ys true = [] → ga = none ∧ N = 0 ∧ gc = 0) := hGn
            clear hGn
            go_wp2_with fail
            refine (Holding_strs _ _ _ _ _ _ true out _ ys _ (h5.below hB5) (h6.below hB5) (by omega)).mono ?_
            rintro e wH ⟨ha, N2, hc, rfl, hH, hN2, hBH, hHn⟩
            have hB6 := hB5.trans (hBH.mono hB5.size)
            have hB7 := hB4.trans (hB6.mono hB4.size)
            have hG := hG.below hBH
            have HH : Hid (holdB xs ys true = [] → ha = none ∧ N2 = 0 ∧ hc = 0) := hHn
            clear k0 k1 k2 hHn hcl hB6 hB5 hBH h5 h6 hB4
            have hys : ys ≠ [] ↔ 0 < m := by rw [← HL.out, List.length_pos_iff]
            have ho : ys ≠ [] → o ∈ ys := by
              intro hne
              rw [HO.out]
              have : 0 < ys.length := List.length_pos_iff.2 hne
              simp [List.getD, this]
            have hone : one = true ↔ (ys ≠ [] ∧ ∀ w ∈ ys, w = o) := by
              rw [HN.out, hys, Bool.and_eq_true, decide_eq_true_eq, oneB_iff]
            have hxo' : x ≠ o := (eqs_false x o).1 hxo
            have HONE : Hid (one = true ↔ (ys ≠ [] ∧ ∀ w ∈ ys, w = o)) := hone
            have HOY : Hid (ys ≠ [] → o ∈ ys) := ho
            clear hys ho hone
            cases one
            · have hno : ¬ (ys ≠ [] ∧ ∀ w ∈ ys, w = o) := fun h => by have := HONE.out.2 h; cases this
              obtain ⟨rfl, rfl, rfl⟩ := HG.out (hold_every_no _ ys o HOY.out hno)
              obtain ⟨rfl, rfl, rfl⟩ := HH.out (hold_every_no _ ys o HOY.out hno)
              have qe : ∀ (w : World) (a : Option Addr) (n c n' c' : Nat), (binOp .eql 22 (.slice a n c) (.slice none n' c')).run Trym.prog w = .ok (.bool a.isNone) w := fun w a n c n' c' => Lib.run_eql_slice_nil w _ _ a n c n' c' Trym.underlying22
              clear hG hH hno hxo'
              go_wp2
              go_ret
              exact ⟨rfl, hB7⟩
            · obtain ⟨hne, hallo⟩ := HONE.out.1 rfl
              rw [hold_every_yes xs ys o x hne hallo hxo'] at hG
              clear hne hallo hxo'
              obtain ⟨zs, hzs⟩ : ∃ zs, zs = holdB xs ys true := ⟨_, rfl⟩
              rw [← hzs] at hG hH
              clear hzs
              go_upto_region 35 with (at_make; refine wpList_make_own _ rfl _ _ 22 rfl wH.heap.size 9 i0 (.string ByteArray.empty) 1 Trym.underlying22 hi hz0 hz1 .i64 .i64 ((N2 : Int) + 1) (N2 + 1) rfl rfl (by omega) (by rw [hz2]; omega) (by unfold maxLen; omega) (Nat.le_refl _) ?_; intro wM2 hownM hgrowM)
              have hBM := below_made hgrowM
              have h7 := hH.below hBM
              go_upto_region 36 with (at_builtin; refine wpList_append_fits_any _ rfl (.tmp 108) (.tmp 109) 22 rfl wH.heap.size 9 i0 1 Trym.underlying22 hi hz1 wH.heap.size 0 (N2 + 1) [] rfl hownM ha N2 hc (zs.map Value.string) rfl h7.news.1 h7.news.2.1 h7.news.2.2 (strings_oneCell zs) (by omega) ?_; intro wA2 hownA hgrowA)
              simp only [Nat.zero_add, List.nil_append] at hownA
              have hBA := below_row hBM hgrowA
              clear h7 hownM hgrowM hBM hgrowA
              go_upto_region 37 with (at_builtin; refine wpList_append_fits _ rfl (.tmp 111) (.tmp 113) 22 rfl wH.heap.size 9 i0 1 Trym.underlying22 hi hz1 wH.heap.size N2 (N2 + 1) (zs.map Value.string) rfl (hownA.alloc _) ⟨wA2.heap.size, 0, none⟩ 1 1 [.string o] rfl rfl (cell_one_new _ _ _) (strings_oneCell [o]) (by omega) ?_; intro wO2 hownO hgrowO)
              have hBO := below_row (hBA.alloc hBA.size _) hgrowO
              clear hownA hBA hgrowO
              have hW : IsStrs wO2 (some ⟨wH.heap.size, 0, none⟩) (N2 + 1) (N2 + 1) (zs ++ [o]) := isStrs_of_own (by simpa using hownO)
              have hG := hG.below hBO
              have hB8 := hB7.trans (hBO.mono hB7.size)
              clear hownO hBO hB7
              go_wp2_with fail
              refine (same_any _ _ _ _ _ _ _ _ hG hW).mono ?_
              rintro e wZ ⟨rfl, hBZ⟩
              go_wp2
              go_ret
              exact ⟨rfl, hB8.trans (hBZ.mono hB8.size)⟩
end Go.Proofs.Qxb6609037aMods
