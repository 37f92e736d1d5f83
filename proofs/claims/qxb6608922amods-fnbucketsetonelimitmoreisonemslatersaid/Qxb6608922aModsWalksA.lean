import Derived.Test.Qxb6608922aModsRows
import Derived.WalkKit
import Derived.ProofKit
import Derived.WalkSpells
namespace Go.Proofs.Qxb6608922aMods
open Go.ChangeShapes Go.WideShapes Go.ChangeAt Go.RowKit

/-! ### THE PLAIN LAW: no Go in sight -/
theorem ceil_facts (t l : Int) (ht : 0 ≤ t) (hl : 1 ≤ l) : 0 ≤ (t + l - 1) / l ∧ (t + l - 1) / l ≤ t ∧ t ≤ (t + l - 1) / l * l ∧ (t + l - 1) / l * l ≤ t + l - 1 := by
  have hp : 0 < l := by omega
  have h1 : 0 ≤ (t + l - 1) / l := Int.ediv_nonneg (by omega) (by omega)
  have h2 := Int.emod_add_mul_ediv (t + l - 1) l
  have h3 := Int.emod_nonneg (t + l - 1) (show l ≠ 0 by omega)
  have h4 := Int.emod_lt_of_pos (t + l - 1) hp
  rw [Int.mul_comm] at h2
  refine ⟨h1, ?_, by omega, by omega⟩
  have h5 : (t + l - 1) / l < t + 1 := by
    refine Int.ediv_lt_of_lt_mul hp ?_
    have h6 : 0 ≤ t * (l - 1) := Int.mul_nonneg ht (by omega)
    have h7 : (t + 1) * l = t * (l - 1) + t + l := by rw [Int.add_mul, Int.mul_sub]; omega
    omega
  omega

/-! ### THE WALKS OF THE CALLEES -/
set_option maxHeartbeats 400000 in
theorem new_any (f s : Int) (w : World) :
    Calls Trym.prog 5 #[.int .i64 f, .int .i64 s] w fun e w' => e = .returned (.pointer (some ⟨w.heap.size, 0, none⟩)) ∧
      w' = w.alloc (.cells #[.int .i64 f, .int .i64 s, .int .i64 0, .int .i64 0, .bool false, .int .i64 0, .int .i64 0, .int .i64 0, .int .i64 0] 33) := by
  go_enter Trym.func5, Trym.ntmps5
  go_wp2
  go_ret
  exact ⟨rfl, rfl⟩

set_option maxHeartbeats 400000 in
theorem set_any (b : Nat) (t l n : Int) (x0 x1 : Value) (w : World) (ht : 0 ≤ t) (ht' : t ≤ 4611686018427387903) (hl : 1 ≤ l) (hl' : l ≤ 1152921504606846976) (hn : -4611686018427387904 ≤ n) (hn' : n ≤ 4611686018427387904)
    (c0 : w.cell? ⟨b, 0, none⟩ = some x0) (c1 : w.cell? ⟨b, 1, none⟩ = some x1) (f0 : w.frozen? ⟨b, 0, none⟩ = false) (f1 : w.frozen? ⟨b, 1, none⟩ = false) :
    Calls Trym.prog 10 #[.pointer (some ⟨b, 0, none⟩), .int .i64 t, .int .i64 l, .int .i64 n] w fun e w' => e = .returned (.tuple #[]) ∧
      w' = (w.setCell ⟨b, 0, none⟩ (.int .i64 (n + (t + l - 1) / l))).setCell ⟨b, 1, none⟩ (.int .i64 ((t + l - 1) / l * l - t)) := by
  obtain ⟨q0, q1, q2, q3⟩ := ceil_facts t l ht hl
  go_enter Trym.func10, Trym.ntmps10
  go_wp2
  go_end0
  exact ⟨rfl, rfl⟩

set_option maxHeartbeats 400000 in
theorem Set_any (b : Nat) (t l n : Int) (x0 x1 : Value) (w : World) (ht : 0 ≤ t) (ht' : t ≤ 4611686018427387903) (hl : 1 ≤ l) (hl' : l ≤ 1152921504606846976) (hn : -4611686018427387904 ≤ n) (hn' : n ≤ 4611686018427387904)
    (c0 : w.cell? ⟨b, 0, none⟩ = some x0) (c1 : w.cell? ⟨b, 1, none⟩ = some x1) (f0 : w.frozen? ⟨b, 0, none⟩ = false) (f1 : w.frozen? ⟨b, 1, none⟩ = false) :
    Calls Trym.prog 6 #[.pointer (some ⟨b, 0, none⟩), .int .i64 t, .int .i64 l, .int .i64 n] w fun e w' => e = .returned (.tuple #[]) ∧
      w' = (w.setCell ⟨b, 0, none⟩ (.int .i64 (n + (t + l - 1) / l))).setCell ⟨b, 1, none⟩ (.int .i64 ((t + l - 1) / l * l - t)) := by
  go_enter Trym.func6, Trym.ntmps6
  go_wp2_with (go_at_call 10; refine (set_any b t l n x0 x1 _ ht ht' hl hl' hn hn' c0 c1 f0 f1).mono ?_; rintro e w' ⟨rfl, rfl⟩)
  go_end0
  exact ⟨rfl, rfl⟩

/-- The ticks, full at f and short s: kept within 0 and size. -/
def clamp (x size : Int) : Int := if size < (if x < 0 then 0 else x) then size else (if x < 0 then 0 else x)

theorem ret_int {k : IntKind} {a b : Int} (h : a = b) : Ending.returned (.int k a) = .returned (.int k b) := by rw [h]

set_option maxHeartbeats 400000 in
theorem ticks_past (b : Nat) (l size now f : Int) (w : World) (c0 : w.cell? ⟨b, 0, none⟩ = some (.int .i64 f)) (h : f ≤ now) :
    Calls Trym.prog 11 #[.pointer (some ⟨b, 0, none⟩), .int .i64 l, .int .i64 size, .int .i64 now] w fun e w' => e = .returned (.int .i64 0) ∧ w' = w := by
  go_enter Trym.func11, Trym.ntmps11
  go_wp2
  go_ret
  exact ⟨rfl, rfl⟩

set_option maxHeartbeats 400000 in
theorem ticks_ahead (b : Nat) (l size now f s : Int) (w : World) (c0 : w.cell? ⟨b, 0, none⟩ = some (.int .i64 f)) (c1 : w.cell? ⟨b, 1, none⟩ = some (.int .i64 s)) (h : now < f)
    (g0 : f - now ≤ 4611686018427387904) (g1 : 0 ≤ (f - now) * l) (g2 : (f - now) * l ≤ 4611686018427387904) (g3 : 0 ≤ s) (g4 : s ≤ 4611686018427387904) :
    Calls Trym.prog 11 #[.pointer (some ⟨b, 0, none⟩), .int .i64 l, .int .i64 size, .int .i64 now] w fun e w' => e = .returned (.int .i64 (clamp ((f - now) * l - s) size)) ∧ w' = w.drew := by
  go_enter Trym.func11, Trym.ntmps11
  go_wp2
  go_region
  all_goals (try go_wp2)
  all_goals (go_ret; exact ⟨ret_int (by unfold clamp; (repeat' split) <;> omega), rfl⟩)

set_option maxHeartbeats 400000 in
theorem Ticks_past (b : Nat) (l size now f : Int) (w : World) (c0 : w.cell? ⟨b, 0, none⟩ = some (.int .i64 f)) (h : f ≤ now) :
    Calls Trym.prog 7 #[.pointer (some ⟨b, 0, none⟩), .int .i64 l, .int .i64 size, .int .i64 now] w fun e w' => e = .returned (.int .i64 0) ∧ w' = w := by
  go_enter Trym.func7, Trym.ntmps7
  go_wp2_with (go_at_call 11; refine (ticks_past b l size now f _ c0 h).mono ?_; rintro e w' ⟨rfl, rfl⟩)
  go_ret
  exact ⟨rfl, rfl⟩

set_option maxHeartbeats 400000 in
theorem Ticks_ahead (b : Nat) (l size now f s : Int) (w : World) (c0 : w.cell? ⟨b, 0, none⟩ = some (.int .i64 f)) (c1 : w.cell? ⟨b, 1, none⟩ = some (.int .i64 s)) (h : now < f)
    (g0 : f - now ≤ 4611686018427387904) (g1 : 0 ≤ (f - now) * l) (g2 : (f - now) * l ≤ 4611686018427387904) (g3 : 0 ≤ s) (g4 : s ≤ 4611686018427387904) :
    Calls Trym.prog 7 #[.pointer (some ⟨b, 0, none⟩), .int .i64 l, .int .i64 size, .int .i64 now] w fun e w' => e = .returned (.int .i64 (clamp ((f - now) * l - s) size)) ∧ w' = w.drew := by
  go_enter Trym.func7, Trym.ntmps7
  go_wp2_with (go_at_call 11; refine (ticks_ahead b l size now f s _ c0 c1 h g0 g1 g2 g3 g4).mono ?_; rintro e w' ⟨rfl, rfl⟩)
  go_ret
  exact ⟨rfl, rfl⟩

/-! ### THE SAME, OVER AN ABSTRACT WORLD: a bucket lies at block b, full at f and short s -/
def IsB (w : World) (b : Nat) (f s : Int) : Prop :=
  w.cell? ⟨b, 0, none⟩ = some (.int .i64 f) ∧ w.cell? ⟨b, 1, none⟩ = some (.int .i64 s) ∧ w.frozen? ⟨b, 0, none⟩ = false ∧ w.frozen? ⟨b, 1, none⟩ = false

theorem IsB.below {w w' : World} {b B : Nat} {f s : Int} (h : IsB w b f s) (hb : Below B w w') (hlt : b < B) : IsB w' b f s := by
  obtain ⟨h1, h2, h3, h4⟩ := h
  exact ⟨(hb.cell (by exact hlt)).trans h1, (hb.cell (by exact hlt)).trans h2, (hb.frozen (by exact hlt)).trans h3, (hb.frozen (by exact hlt)).trans h4⟩

theorem new_b (f s : Int) (w : World) :
    Calls Trym.prog 5 #[.int .i64 f, .int .i64 s] w fun e w' => e = .returned (.pointer (some ⟨w.heap.size, 0, none⟩)) ∧ IsB w' w.heap.size f s ∧ Below w.heap.size w w' ∧ w.heap.size < w'.heap.size := by
  refine (new_any f s w).mono ?_
  rintro e w' ⟨rfl, rfl⟩
  refine ⟨rfl, ⟨?_, ?_, ?_, ?_⟩, (Below.refl _ _).alloc (Nat.le_refl _) _, by simp⟩ <;> simp [go_sem]

theorem set_b (b : Nat) (t l n f s : Int) (w : World) (ht : 0 ≤ t) (ht' : t ≤ 4611686018427387903) (hl : 1 ≤ l) (hl' : l ≤ 1152921504606846976) (hn : -4611686018427387904 ≤ n) (hn' : n ≤ 4611686018427387904) (h : IsB w b f s) :
    Calls Trym.prog 6 #[.pointer (some ⟨b, 0, none⟩), .int .i64 t, .int .i64 l, .int .i64 n] w fun e w' => e = .returned (.tuple #[]) ∧
      IsB w' b (n + (t + l - 1) / l) ((t + l - 1) / l * l - t) ∧ (∀ c x y, c ≠ b → IsB w c x y → IsB w' c x y) ∧ (∀ B, B ≤ b → Below B w w') := by
  obtain ⟨c0, c1, f0, f1⟩ := h
  refine (Set_any b t l n _ _ w ht ht' hl hl' hn hn' c0 c1 f0 f1).mono ?_
  rintro e w' ⟨rfl, rfl⟩
  refine ⟨rfl, ⟨?_, ?_, ?_, ?_⟩, ?_, ?_⟩
  · rw [World.cell?_setCell_other _ _ _ _ (by simp), World.cell?_setCell_same _ _ _ c0]
  · exact World.cell?_setCell_same _ _ _ (by rw [World.cell?_setCell_other _ _ _ _ (by simp)]; exact c1)
  · simp [f0]
  · simp [f1]
  · rintro c x y hc ⟨h1, h2, h3, h4⟩
    have ne : ∀ i j, (⟨b, i, none⟩ : Addr) ≠ ⟨c, j, none⟩ := fun i j he => hc (by injection he with h1; exact h1.symm)
    refine ⟨?_, ?_, by simpa using h3, by simpa using h4⟩
    · rw [World.cell?_setCell_other _ _ _ _ (ne _ _), World.cell?_setCell_other _ _ _ _ (ne _ _)]; exact h1
    · rw [World.cell?_setCell_other _ _ _ _ (ne _ _), World.cell?_setCell_other _ _ _ _ (ne _ _)]; exact h2
  · intro B hB
    exact ((Below.refl _ _).setCell hB _).setCell hB _
end Go.Proofs.Qxb6608922aMods
