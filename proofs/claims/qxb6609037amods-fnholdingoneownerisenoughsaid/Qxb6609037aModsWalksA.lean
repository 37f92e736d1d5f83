import Derived.Test.Qxb6609037aModsRows
import Derived.Test.Qxb6609037aModsPlain
import Derived.WalkKit
import Derived.ProofKit
import Derived.WalkSpells
namespace Go.Proofs.Qxb6609037aMods
open Go.ChangeShapes Go.WideShapes Go.ChangeAt Go.RowKit

theorem ret_bool {a b : Bool} (h : a = b) : Ending.returned (.bool a) = .returned (.bool b) := by rw [h]

/-- A slice of strings: its elements xs lie at its address. -/
def IsStrs (w : World) (ao : Option Addr) (n cap : Nat) (xs : List ByteArray) : Prop :=
  xs.length = n ∧ n ≤ cap ∧ cap ≤ maxLen ∧ (ao = none → cap = 0) ∧ ∀ ad, ao = some ad → ∀ i, i < n → w.cell? (ad.add i) = some (.string (xs.getD i ByteArray.empty))

theorem IsStrs.at {w : World} {ao : Option Addr} {n cap : Nat} {xs : List ByteArray} (h : IsStrs w ao n cap xs) (hn : 0 < n) :
    ∃ b off, ao = some ⟨b, off, none⟩ ∧ ∀ i, i < n → w.cell? ⟨b, off + i, none⟩ = some (.string (xs.getD i ByteArray.empty)) := by
  obtain ⟨h1, h2, h3, h4, h5⟩ := h
  cases ao with
  | none => have := h4 rfl; omega
  | some ad =>
    obtain ⟨b, off, spot⟩ := ad
    have h0 := h5 _ rfl 0 hn
    have hs : spot = none := by simpa [Addr.add] using World.cell?_spot h0
    subst hs
    refine ⟨b, off, rfl, fun i hi => ?_⟩
    rw [← add_plain]; exact h5 _ rfl i hi

theorem IsStrs.below {w w' : World} {ao : Option Addr} {n cap : Nat} {xs : List ByteArray} (h : IsStrs w ao n cap xs) (hb : Below w.heap.size w w') : IsStrs w' ao n cap xs := by
  obtain ⟨h1, h2, h3, h4, h5⟩ := h
  refine ⟨h1, h2, h3, h4, fun ad had i hi => ?_⟩
  have hc := h5 ad had i hi
  exact (hb.cell (World.block_lt_of_cell? _ _ hc)).trans hc

theorem isStrs_one (w : World) (s : ByteArray) : IsStrs (w.alloc (.cells #[.string s] 9)) (some ⟨w.heap.size, 0, none⟩) 1 1 [s] := by
  refine ⟨rfl, Nat.le_refl _, by unfold maxLen; decide, (fun h => by cases h), fun ad had i hi => ?_⟩
  obtain rfl : ad = ⟨w.heap.size, 0, none⟩ := (Option.some.inj had).symm
  obtain rfl : i = 0 := by omega
  simp [Addr.add]

/-! ### the callees that only read -/
set_option maxHeartbeats 400000 in
theorem among_any (o : ByteArray) (ao : Option Addr) (n cap : Nat) (xs : List ByteArray) (w : World) (h : IsStrs w ao n cap xs) :
    Calls Trym.prog 32 #[.string o, .slice ao n cap] w fun e w' => e = .returned (.bool (amongB o xs)) ∧ w' = w := by
  have hl := h.1
  have hm := h.2.2.1
  have hc := h.2.1
  unfold maxLen at hm
  have HL : Hid (xs.length = n) := hl
  clear hl
  go_enter Trym.func32, Trym.ntmps32
  go_wp2
  go_loop [9] (fun i => ∃ k : Nat, k ≤ n ∧ i = .int .i64 k ∧ amongB o (xs.take k) = false) (fun i => n - (intOf i).toNat)
  case atStart => exact ⟨0, Nat.zero_le _, rfl, by simp [amongB]⟩
  case round =>
    obtain ⟨k, hk, rfl, hno⟩ := hrel
    have HN : Hid (amongB o (xs.take k) = false) := hno
    clear hno
    by_cases hlt : k < n
    · obtain ⟨b, off, rfl, hcell⟩ := h.at (by omega)
      have hck := hcell k hlt
      obtain ⟨s, hs⟩ : ∃ s, s = xs.getD k ByteArray.empty := ⟨_, rfl⟩
      rw [← hs] at hck
      have HS : Hid (s = xs.getD k ByteArray.empty) := hs
      clear hcell hs
      go_wp2
      · go_ret
        have he : (o.toList == s.toList) = true := by assumption
        exact ⟨ret_bool (amongB_hit o xs k (by rw [HL.out]; exact hlt) (by rw [← HS.out]; exact he)).symm, rfl⟩
      · have he : (o.toList == s.toList) = false := by assumption
        go_round
        case rel => exact ⟨k + 1, by omega, by go_num, by rw [amongB_step o xs k (by rw [HL.out]; exact hlt), HN.out, ← HS.out]; exact he⟩
        case measure => simp [intOf]; omega
    · go_wp2
      go_ret
      refine ⟨ret_bool ?_, rfl⟩
      have := HN.out
      rw [List.take_of_length_le (by rw [HL.out]; omega)] at this
      exact this.symm

set_option maxHeartbeats 400000 in
theorem zzAmong_any (o : ByteArray) (ao : Option Addr) (n cap : Nat) (xs : List ByteArray) (w : World) (h : IsStrs w ao n cap xs) :
    Calls Trym.prog 16 #[.string o, .slice ao n cap] w fun e w' => e = .returned (.bool (amongB o xs)) ∧ w' = w := by
  have hl := h.1
  have hm := h.2.2.1
  have hc := h.2.1
  unfold maxLen at hm
  have HL : Hid (xs.length = n) := hl
  clear hl
  go_enter Trym.func16, Trym.ntmps16
  go_wp2
  go_loop [9] (fun i => ∃ k : Nat, k ≤ n ∧ i = .int .i64 k ∧ amongB o (xs.take k) = false) (fun i => n - (intOf i).toNat)
  case atStart => exact ⟨0, Nat.zero_le _, rfl, by simp [amongB]⟩
  case round =>
    obtain ⟨k, hk, rfl, hno⟩ := hrel
    have HN : Hid (amongB o (xs.take k) = false) := hno
    clear hno
    by_cases hlt : k < n
    · obtain ⟨b, off, rfl, hcell⟩ := h.at (by omega)
      have hck := hcell k hlt
      obtain ⟨s, hs⟩ : ∃ s, s = xs.getD k ByteArray.empty := ⟨_, rfl⟩
      rw [← hs] at hck
      have HS : Hid (s = xs.getD k ByteArray.empty) := hs
      clear hcell hs
      go_wp2
      · go_ret
        have he : (s.toList == o.toList) = true := by assumption
        have he' : eqs o s = true := by rw [eqs_iff]; exact ((eqs_iff s o).1 he).symm
        exact ⟨ret_bool (amongB_hit o xs k (by rw [HL.out]; exact hlt) (by rw [← HS.out]; exact he')).symm, rfl⟩
      · have he : (s.toList == o.toList) = false := by assumption
        have he' : eqs o s = false := by rw [eqs_false]; exact ((eqs_false s o).1 he).symm
        go_round
        case rel => exact ⟨k + 1, by omega, by go_num, by rw [amongB_step o xs k (by rw [HL.out]; exact hlt), HN.out, ← HS.out]; exact he'⟩
        case measure => simp [intOf]; omega
    · go_wp2
      go_ret
      refine ⟨ret_bool ?_, rfl⟩
      have := HN.out
      rw [List.take_of_length_le (by rw [HL.out]; omega)] at this
      exact this.symm

theorem inside_pos (xs rs : List ByteArray) (n : Nat) (h : 0 < hits xs rs) (hn : xs.length = n) : ((hits xs rs : Int) == (n : Int)) = insideB xs true rs := by
  subst hn
  rw [Bool.eq_iff_iff]
  simp [insideB, h]
  omega
theorem inside_neg (xs rs : List ByteArray) (h : ¬ 0 < hits xs rs) : false = insideB xs true rs := by
  simp [insideB, h]

set_option maxHeartbeats 1000000 in
theorem inside_any (ao ro : Option Addr) (n cap m mcap : Nat) (every : Bool) (xs rs : List ByteArray) (w : World) (h : IsStrs w ao n cap xs) (hr : IsStrs w ro m mcap rs) :
    Calls Trym.prog 28 #[.slice ao n cap, .bool every, .slice ro m mcap] w fun e w' => e = .returned (.bool (insideB xs every rs)) ∧ w' = w := by
  have hl := h.1
  have hm := h.2.2.1
  have hc := h.2.1
  unfold maxLen at hm
  have HL : Hid (xs.length = n) := hl
  clear hl
  go_enter Trym.func28, Trym.ntmps28
  go_wp2
  go_loop [7, 12] (fun c i => ∃ k : Nat, k ≤ n ∧ i = .int .i64 k ∧ c = .int .i64 (hits (xs.take k) rs)) (fun _ i => n - (intOf i).toNat)
  case atStart => exact ⟨0, Nat.zero_le _, rfl, rfl⟩
  case round =>
    obtain ⟨k, hk, rfl, rfl⟩ := hrel
    have hh := hits_le xs rs k
    by_cases hlt : k < n
    · obtain ⟨b, off, rfl, hcell⟩ := h.at (by omega)
      have hck := hcell k hlt
      have hst := hits_step xs rs k (by rw [HL.out]; exact hlt)
      obtain ⟨s, hs⟩ : ∃ s, s = xs.getD k ByteArray.empty := ⟨_, rfl⟩
      rw [← hs] at hck hst
      have HS : Hid (hits (xs.take (k + 1)) rs = hits (xs.take k) rs + if amongB s rs then 1 else 0) := hst
      clear hcell hs hst
      go_wp2_with (go_at_call 32; refine (among_any _ _ _ _ rs _ hr).mono ?_; rintro e w' ⟨rfl, rfl⟩)
      all_goals
        go_round
        case rel => exact ⟨k + 1, by omega, by go_num, by rw [HS.out]; first | (rw [if_pos ‹_›]; go_num) | (rw [if_neg (by simp only [Bool.not_eq_true]; assumption)]; go_num)⟩
        case measure => simp [intOf]; omega
    · have he : xs.take k = xs := List.take_of_length_le (by rw [HL.out]; omega)
      rw [he] at hh ⊢
      cases every
      · go_wp2
        go_ret
        refine ⟨ret_bool ?_, rfl⟩
        simp [insideB]
      · go_wp2
        · go_ret
          exact ⟨ret_bool (inside_pos xs rs n ‹_› HL.out), rfl⟩
        · go_ret
          exact ⟨ret_bool (inside_neg xs rs ‹_›), rfl⟩
end Go.Proofs.Qxb6609037aMods
