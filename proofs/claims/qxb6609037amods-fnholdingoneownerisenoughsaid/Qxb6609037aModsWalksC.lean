import Derived.Test.Qxb6609037aModsWalksB
namespace Go.Proofs.Qxb6609037aMods
open Go.ChangeShapes Go.WideShapes Go.ChangeAt Go.RowKit

/-- It answers a bool; where that is true, both lengths are small. -/
def Bounded (n m : Nat) (e : Ending) : Prop := ∃ b : Bool, e = .returned (.bool b) ∧ (b = true → n ≤ 1048576 ∧ m ≤ 1048576)
theorem bounded_false (n m : Nat) : Bounded n m (.returned (.bool false)) := ⟨false, rfl, fun h => by cases h⟩

set_option maxHeartbeats 1000000 in
theorem zzBytes_14 (ao bo : Option Addr) (n cap m mcap : Nat) (xs ys : List ByteArray) (x o : ByteArray) (w : World) (h : IsStrs w ao n cap xs) (h' : IsStrs w bo m mcap ys) :
    Calls Trym.prog 14 #[.slice ao n cap, .slice bo m mcap, .string x, .string o] w fun e w' => Bounded n m e ∧ w' = w := by
  by_cases hn : n ≤ 1048576
  · go_enter Trym.func14, Trym.ntmps14
    go_wp2
    go_loop [9, 10] (fun c i => ∃ k : Nat, k ≤ n ∧ i = .int .i64 k ∧ ∃ z : Int, c = .int .i64 z ∧ 0 ≤ z ∧ z ≤ 1048576) (fun _ i => n - (intOf i).toNat)
    case atStart => exact ⟨0, Nat.zero_le _, rfl, _, rfl, by omega, by omega⟩
    case round =>
      obtain ⟨k, hk, rfl, z, rfl, z0, z1⟩ := hrel
      by_cases hlt : k < n
      · obtain ⟨b, off, rfl, hcell⟩ := h.at (by omega)
        have hck := hcell k hlt
        obtain ⟨s, hs⟩ : ∃ s, s = xs.getD k ByteArray.empty := ⟨_, rfl⟩
        rw [← hs] at hck
        clear hcell hs
        go_wp2
        · go_ret
          exact ⟨bounded_false n m, rfl⟩
        · go_ret
          exact ⟨bounded_false n m, rfl⟩
        · go_round
          case rel => exact ⟨k + 1, by omega, by go_num, _, rfl, by omega, by omega⟩
          case measure => simp [intOf]; omega
      · clear h
        by_cases hm : m ≤ 1048576
        · by_cases hz : z + m ≤ 1048576
          · go_wp2
            go_loop [9, 11] (fun c i => ∃ k : Nat, k ≤ m ∧ i = .int .i64 k ∧ ∃ z : Int, c = .int .i64 z ∧ 0 ≤ z ∧ z ≤ 1048576) (fun _ i => m - (intOf i).toNat)
            case atStart => exact ⟨0, Nat.zero_le _, rfl, _, rfl, by omega, by omega⟩
            case round =>
              obtain ⟨k', hk', rfl, z', rfl, z0', z1'⟩ := hrel
              clear hz z0 z1
              by_cases hlt : k' < m
              · obtain ⟨b, off, rfl, hcell⟩ := h'.at (by omega)
                have hck := hcell k' hlt
                obtain ⟨s, hs⟩ : ∃ s, s = ys.getD k' ByteArray.empty := ⟨_, rfl⟩
                rw [← hs] at hck
                clear hcell hs
                go_wp2
                · go_ret
                  exact ⟨bounded_false n m, rfl⟩
                · go_ret
                  exact ⟨bounded_false n m, rfl⟩
                · go_round
                  case rel => exact ⟨k' + 1, by omega, by go_num, _, rfl, by omega, by omega⟩
                  case measure => simp [intOf]; omega
              · clear h'
                go_wp2
                all_goals go_ret
                all_goals exact ⟨⟨_, rfl, fun _ => ⟨hn, hm⟩⟩, rfl⟩
          · go_wp2
            go_ret
            exact ⟨bounded_false n m, rfl⟩
        · go_wp2
          go_ret
          exact ⟨bounded_false n m, rfl⟩
  · go_enter Trym.func14, Trym.ntmps14
    go_wp2
    go_ret
    exact ⟨bounded_false n m, rfl⟩

set_option maxHeartbeats 1000000 in
theorem zzBytes_20 (ao bo : Option Addr) (n cap m mcap : Nat) (xs ys : List ByteArray) (x o : ByteArray) (w : World) (h : IsStrs w ao n cap xs) (h' : IsStrs w bo m mcap ys) :
    Calls Trym.prog 20 #[.slice ao n cap, .slice bo m mcap, .string x, .string o] w fun e w' => Bounded n m e ∧ w' = w := by
  by_cases hn : n ≤ 1048576
  · go_enter Trym.func20, Trym.ntmps20
    go_wp2
    go_loop [9, 10] (fun c i => ∃ k : Nat, k ≤ n ∧ i = .int .i64 k ∧ ∃ z : Int, c = .int .i64 z ∧ 0 ≤ z ∧ z ≤ 1048576) (fun _ i => n - (intOf i).toNat)
    case atStart => exact ⟨0, Nat.zero_le _, rfl, _, rfl, by omega, by omega⟩
    case round =>
      obtain ⟨k, hk, rfl, z, rfl, z0, z1⟩ := hrel
      by_cases hlt : k < n
      · obtain ⟨b, off, rfl, hcell⟩ := h.at (by omega)
        have hck := hcell k hlt
        obtain ⟨s, hs⟩ : ∃ s, s = xs.getD k ByteArray.empty := ⟨_, rfl⟩
        rw [← hs] at hck
        clear hcell hs
        go_wp2
        · go_ret
          exact ⟨bounded_false n m, rfl⟩
        · go_ret
          exact ⟨bounded_false n m, rfl⟩
        · go_round
          case rel => exact ⟨k + 1, by omega, by go_num, _, rfl, by omega, by omega⟩
          case measure => simp [intOf]; omega
      · clear h
        by_cases hm : m ≤ 1048576
        · by_cases hz : z + m ≤ 1048576
          · go_wp2
            go_loop [9, 11] (fun c i => ∃ k : Nat, k ≤ m ∧ i = .int .i64 k ∧ ∃ z : Int, c = .int .i64 z ∧ 0 ≤ z ∧ z ≤ 1048576) (fun _ i => m - (intOf i).toNat)
            case atStart => exact ⟨0, Nat.zero_le _, rfl, _, rfl, by omega, by omega⟩
            case round =>
              obtain ⟨k', hk', rfl, z', rfl, z0', z1'⟩ := hrel
              clear hz z0 z1
              by_cases hlt : k' < m
              · obtain ⟨b, off, rfl, hcell⟩ := h'.at (by omega)
                have hck := hcell k' hlt
                obtain ⟨s, hs⟩ : ∃ s, s = ys.getD k' ByteArray.empty := ⟨_, rfl⟩
                rw [← hs] at hck
                clear hcell hs
                go_wp2
                · go_ret
                  exact ⟨bounded_false n m, rfl⟩
                · go_ret
                  exact ⟨bounded_false n m, rfl⟩
                · go_round
                  case rel => exact ⟨k' + 1, by omega, by go_num, _, rfl, by omega, by omega⟩
                  case measure => simp [intOf]; omega
              · clear h'
                go_wp2
                all_goals go_ret
                all_goals exact ⟨⟨_, rfl, fun _ => ⟨hn, hm⟩⟩, rfl⟩
          · go_wp2
            go_ret
            exact ⟨bounded_false n m, rfl⟩
        · go_wp2
          go_ret
          exact ⟨bounded_false n m, rfl⟩
  · go_enter Trym.func20, Trym.ntmps20
    go_wp2
    go_ret
    exact ⟨bounded_false n m, rfl⟩


/-! ### 'zzSameStrings' -/
set_option maxHeartbeats 1000000 in
theorem same_any (ao bo : Option Addr) (n cap m mcap : Nat) (xs : List ByteArray) (w : World) (h : IsStrs w ao n cap xs) (h' : IsStrs w bo m mcap xs) :
    Calls Trym.prog 19 #[.slice ao n cap, .slice bo m mcap] w fun e w' => e = .returned (.bool true) ∧ Below w.heap.size w w' := by
  obtain rfl : n = m := h.1.symm.trans h'.1
  have hm := h.2.2.1
  have hc := h.2.1
  unfold maxLen at hm
  go_enter Trym.func19, Trym.ntmps19
  go_wp2
  go_loopw [5] (fun i wr => ∃ k : Nat, k ≤ n ∧ i = .int .i64 k ∧ Below w.heap.size w wr) (fun i _ => n - (intOf i).toNat)
  case atStart => exact ⟨0, Nat.zero_le _, rfl, Below.refl _ _⟩
  case round =>
    obtain ⟨k, hk, rfl, hB⟩ := hrel
    by_cases hlt : k < n
    · obtain ⟨b, off, rfl, hcell⟩ := (h.below hB).at (by omega)
      obtain ⟨b2, off2, rfl, hcell2⟩ := (h'.below hB).at (by omega)
      have hck := hcell k hlt
      have hck2 := hcell2 k hlt
      obtain ⟨s, hs⟩ : ∃ s, s = xs.getD k ByteArray.empty := ⟨_, rfl⟩
      rw [← hs] at hck hck2
      clear hcell hcell2 hs
      go_wp2
      go_region
      all_goals (try go_wp2)
      all_goals
        go_roundw
        case rel => exact ⟨k + 1, by omega, by go_num, hB.drew⟩
        case measure => simp [intOf]; omega
    · go_wp2
      go_ret
      exact ⟨rfl, hB⟩
end Go.Proofs.Qxb6609037aMods
