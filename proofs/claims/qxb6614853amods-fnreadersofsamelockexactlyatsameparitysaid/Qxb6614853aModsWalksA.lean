import Derived.Test.Qxb6614853aModsRows
import Derived.WalkKit
import Derived.ProofKit
import Derived.WalkSpells
namespace Go.Proofs.Qxb6614853aMods
open Go.ChangeShapes Go.WideShapes Go.ChangeAt Go.RowKit

/-! ### THE PLAIN LAW: the last bit of an int is its parity -/
theorem and_one_i64 (x : Int) : bits BinOp.and IntKind.i64 x 1 = x % 2 := by
  have e : (BitVec.ofInt 64 x &&& BitVec.ofInt 64 1).toNat = (x % 2).toNat := by
    rw [BitVec.toNat_and]
    have h1 : (BitVec.ofInt 64 1).toNat = 1 := by decide
    rw [h1, Nat.and_one_is_mod, BitVec.toNat_ofInt]
    omega
  show IntKind.i64.wrap ((BitVec.ofInt 64 x &&& BitVec.ofInt 64 1).toNat : Int) = x % 2
  rw [e, IntKind.wrap_i64]
  omega

theorem ret_bool {a b : Bool} (h : a = b) : Ending.returned (.bool a) = .returned (.bool b) := by rw [h]

set_option maxHeartbeats 400000 in
theorem readers_any (t : Int) (w : World) (h : 0 ≤ t) : Calls Trym.prog 13 #[.int .i64 t] w fun e w' => e = .returned (.int .i64 (1 + t % 2)) ∧ w' = w := by
  go_enter Trym.func13, Trym.ntmps13
  go_wp2
  go_ret
  exact ⟨rfl, rfl⟩

theorem readers_val (t r : Int) (w : World) (h : 0 ≤ t) (hr : 1 + t % 2 = r) : Calls Trym.prog 13 #[.int .i64 t] w fun e w' => e = .returned (.int .i64 r) ∧ w' = w := by
  subst hr
  exact readers_any t w h

/-! ### THE LAWS' WALKS -/
set_option maxHeartbeats 1000000 in
theorem alternate_in (t : Int) (w : World) (h0 : 0 ≤ t) (h1 : t ≤ 9223372036854775805) : Calls Trym.prog 5 #[.int .i64 t] w fun e w' => e = .returned (.bool true) ∧ Below w.heap.size w w' := by
  rcases (show t % 2 = 0 ∨ t % 2 = 1 from by omega) with hm | hm
  · have hp : bits BinOp.and IntKind.i64 t 1 = 0 := (and_one_i64 t).trans hm
    have HM : Hid (t % 2 = 0) := hm
    clear hm
    go_enter Trym.func5, Trym.ntmps5
    go_wp2_with fail
    refine (readers_val _ 1 _ h0 (by have := HM.out; omega)).mono ?_; rintro e w ⟨rfl, rfl⟩
    go_wp2_with fail
    refine (readers_val _ 2 _ (by omega) (by have := HM.out; omega)).mono ?_; rintro e w ⟨rfl, rfl⟩
    go_wp2_with fail
    refine (readers_val _ 1 _ (by omega) (by have := HM.out; omega)).mono ?_; rintro e w ⟨rfl, rfl⟩
    go_wp2
    go_ret
    exact ⟨rfl, Below.refl _ _⟩
  · have hp : bits BinOp.and IntKind.i64 t 1 = 1 := (and_one_i64 t).trans hm
    have HM : Hid (t % 2 = 1) := hm
    clear hm
    go_enter Trym.func5, Trym.ntmps5
    go_wp2_with fail
    refine (readers_val _ 2 _ h0 (by have := HM.out; omega)).mono ?_; rintro e w ⟨rfl, rfl⟩
    go_wp2_with fail
    refine (readers_val _ 1 _ (by omega) (by have := HM.out; omega)).mono ?_; rintro e w ⟨rfl, rfl⟩
    go_wp2_with fail
    refine (readers_val _ 2 _ (by omega) (by have := HM.out; omega)).mono ?_; rintro e w ⟨rfl, rfl⟩
    go_wp2
    go_ret
    exact ⟨rfl, Below.refl _ _⟩

theorem alternate (t : Int) (w : World) : Calls Trym.prog 5 #[.int .i64 t] w fun e w' => e = .returned (.bool true) ∧ Below w.heap.size w w' := by
  by_cases h : 0 ≤ t ∧ t ≤ 9223372036854775805
  · exact alternate_in t w h.1 h.2
  · rcases (show t < 0 ∨ 9223372036854775805 < t from by omega) with h | h
    all_goals
      go_enter Trym.func5, Trym.ntmps5
      go_wp2
      go_ret
      exact ⟨rfl, Below.refl _ _⟩

set_option maxHeartbeats 1000000 in
theorem parity_in (a b ra rb d : Int) (w : World) (h0 : 0 ≤ a) (h1 : 0 ≤ b) (h2 : a ≤ 9223372036854775807) (h3 : b ≤ 9223372036854775807) (ha : Hid (1 + a % 2 = ra)) (hb : Hid (1 + b % 2 = rb))
    (hp : bits BinOp.and IntKind.i64 (a - b) 1 = d) (hab : (ra = 1 ∧ rb = 1 ∧ d = 0) ∨ (ra = 1 ∧ rb = 2 ∧ d = 1) ∨ (ra = 2 ∧ rb = 1 ∧ d = 1) ∨ (ra = 2 ∧ rb = 2 ∧ d = 0)) :
    Calls Trym.prog 6 #[.int .i64 a, .int .i64 b] w fun e w' => e = .returned (.bool true) ∧ Below w.heap.size w w' := by
  rcases hab with ⟨rfl, rfl, rfl⟩ | ⟨rfl, rfl, rfl⟩ | ⟨rfl, rfl, rfl⟩ | ⟨rfl, rfl, rfl⟩
  all_goals
    go_enter Trym.func6, Trym.ntmps6
    go_wp2_with fail
    refine (readers_val _ _ _ h0 ha.out).mono ?_
    rintro e w ⟨rfl, rfl⟩
    go_wp2_with fail
    refine (readers_val _ _ _ h1 hb.out).mono ?_
    rintro e w ⟨rfl, rfl⟩
    go_wp2
    go_ret
    exact ⟨rfl, Below.refl _ _⟩

theorem parity (a b : Int) (w : World) (ha : -9223372036854775808 ≤ a ∧ a ≤ 9223372036854775807) (hb : -9223372036854775808 ≤ b ∧ b ≤ 9223372036854775807) :
    Calls Trym.prog 6 #[.int .i64 a, .int .i64 b] w fun e w' => e = .returned (.bool true) ∧ Below w.heap.size w w' := by
  by_cases h : 0 ≤ a ∧ 0 ≤ b
  · exact parity_in a b _ _ _ w h.1 h.2 ha.2 hb.2 rfl rfl (and_one_i64 (a - b)) (by omega)
  · rcases (show a < 0 ∨ b < 0 from by omega) with h | h
    all_goals
      go_enter Trym.func6, Trym.ntmps6
      go_wp2
      all_goals go_ret
      all_goals exact ⟨rfl, Below.refl _ _⟩
end Go.Proofs.Qxb6614853aMods
