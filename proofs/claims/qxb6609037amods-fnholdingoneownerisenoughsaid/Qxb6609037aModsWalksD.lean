import Derived.Test.Qxb6609037aModsWalksC
import Derived.Laws.CopyOwn
namespace Go.Proofs.Qxb6609037aMods
open Go.ChangeShapes Go.WideShapes Go.ChangeAt Go.RowKit

/-! ### from rows that the call owns to slices of strings -/
theorem getD_map_string (xs : List ByteArray) (j : Nat) (u : Value) (h : (xs.map Value.string)[j]? = some u) : j < xs.length ∧ u = .string (xs.getD j ByteArray.empty) := by
  rw [List.getElem?_map] at h
  cases hx : xs[j]? with
  | none => rw [hx] at h; cases h
  | some s =>
    rw [hx] at h
    have hlt : j < xs.length := (List.getElem?_eq_some_iff.1 hx).1
    refine ⟨hlt, ?_⟩
    have hg : xs.getD j ByteArray.empty = s := by rw [List.getD_eq_getElem?_getD, hx]; rfl
    rw [hg]
    simpa using h.symm
theorem strings_oneCell (xs : List ByteArray) : ∀ u ∈ xs.map Value.string, u.oneCell' = true := by
  intro u hu
  obtain ⟨s, _, rfl⟩ := List.mem_map.1 hu
  rfl
theorem IsStrs.news {w : World} {ao : Option Addr} {n cap : Nat} {xs : List ByteArray} (h : IsStrs w ao n cap xs) :
    (xs.map Value.string).length = n * 1 ∧ (ao = none → n = 0 ∧ cap = 0) ∧ ∀ ad, ao = some ad → ∀ j u, (xs.map Value.string)[j]? = some u → w.cell? (ad.add j) = some u := by
  obtain ⟨h1, h2, h3, h4, h5⟩ := h
  refine ⟨by simpa using h1, fun he => ⟨by have := h4 he; omega, h4 he⟩, fun ad had j u hj => ?_⟩
  obtain ⟨hlt, rfl⟩ := getD_map_string xs j u hj
  exact h5 ad had j (by omega)
theorem isStrs_own {w : World} {B : Nat} {v : Value} {n : Nat} {ys : List ByteArray} (h : w.ownsRow B 9 1 v n (ys.map Value.string)) :
    ∃ ao cap, v = .slice ao n cap ∧ IsStrs w ao n cap ys := by
  obtain ⟨h0, h1⟩ := h
  have hl : ys.length = n := by simpa using h0
  rcases h1 with ⟨rfl, rfl⟩ | ⟨g, cap, cur, rfl, hg, hh, hn, hm, hs, ht⟩
  · exact ⟨none, 0, rfl, hl, Nat.le_refl _, Nat.zero_le _, fun _ => rfl, fun ad had => by cases had⟩
  · refine ⟨some ⟨g, 0, none⟩, cap, rfl, hl, hn, hm, (fun he => by cases he), fun ad had i hi => ?_⟩
    obtain rfl : ad = ⟨g, 0, none⟩ := (Option.some.inj had).symm
    have ho : w.ownsRow B 9 1 (.slice (some ⟨g, 0, none⟩) n cap) n (ys.map Value.string) := ⟨h0, .inr ⟨g, cap, cur, rfl, hg, hh, hn, hm, hs, ht⟩⟩
    have hc := ho.cellAt i (by omega)
    have e : (⟨g, 0, none⟩ : Addr).add i = ⟨g, i, none⟩ := by rw [add_plain, Nat.zero_add]
    rw [e, hc, List.getElem?_map, List.getElem?_eq_getElem (by omega)]
    simp [List.getD, show i < ys.length by omega]
/-- A row of n cells over which n strings have been laid. -/
theorem isStrs_splice {w : World} {g n : Nat} {cur : List Value} {xs : List ByteArray} (hl : xs.length = n) (hc : cur.length = n) (hm : n ≤ maxLen)
    (h : w.heap[g]? = some (.cells (splice cur 0 (xs.map Value.string)).toArray 9 (0, 0))) : IsStrs w (some ⟨g, 0, none⟩) n n xs := by
  have e : splice cur 0 (xs.map Value.string) = xs.map Value.string := by
    unfold splice
    rw [List.take_zero, List.nil_append, List.drop_eq_nil_of_le (by simp; omega), List.append_nil]
  rw [e] at h
  refine ⟨hl, Nat.le_refl _, hm, (fun he => by cases he), fun ad had i hi => ?_⟩
  obtain rfl : ad = ⟨g, 0, none⟩ := (Option.some.inj had).symm
  have e2 : (⟨g, 0, none⟩ : Addr).add i = ⟨g, i, none⟩ := by rw [add_plain, Nat.zero_add]
  rw [e2]
  simp [World.cell?, h, List.getD, show i < xs.length by omega]

theorem isStrs_none (w : World) : IsStrs w none 0 0 [] := ⟨rfl, Nat.le_refl _, Nat.zero_le _, fun _ => rfl, fun ad had => by cases had⟩
theorem isStrs_take {w : World} {x : Addr} {len cap : Nat} {zs : List ByteArray} (hl : len ≤ cap) (hm : cap ≤ maxLen) (hz : zs.length = cap)
    (hcell : ∀ i, i < zs.length → w.cell? (x.add i) = some (.string (zs.getD i ByteArray.empty))) : IsStrs w (some x) len cap (zs.take len) := by
  refine ⟨by simp; omega, hl, hm, (fun h => by cases h), fun ad had i hi => ?_⟩
  obtain rfl : ad = x := (Option.some.inj had).symm
  rw [hcell i (by omega)]
  simp [List.getD, hi]
theorem made_row {w : World} {B g n : Nat} {L : List Value} (h : w.ownsRow B 9 1 (.slice (some ⟨g, 0, none⟩) n n) n L) : ∃ cur : List Value, w.heap[g]? = some (.cells cur.toArray 9 (0, 0)) ∧ cur.length = n := by
  obtain ⟨_, ⟨h1, _⟩ | ⟨g', cap, cur, hv, hg, hh, hn, hm, hs, ht⟩⟩ := h
  · cases h1
  · simp only [Value.slice.injEq, Option.some.injEq, Addr.mk.injEq] at hv
    obtain ⟨⟨rfl, _⟩, _, rfl⟩ := hv
    exact ⟨cur.toList, by simpa using hh, by simpa using hs⟩
theorem below_made {w w1 : World} (h : w.grownBy w1 none) : Below w.heap.size w w1 :=
  (Below.refl _ _).grown h (Nat.le_refl _) (fun k hk => by cases hk)

theorem Holding_strs (ao co : Option Addr) (n cap cn ccap : Nat) (every : Bool) (out : ByteArray) (xs os : List ByteArray) (w : World) (h : IsStrs w ao n cap xs) (hc : IsStrs w co cn ccap os) (hn : n ≤ 8388608) :
    Calls Trym.prog 18 #[.slice ao n cap, .agg #[.slice co cn ccap, .bool every, .string out]] w fun e w' =>
      ∃ ao' N cap', e = .returned (.slice ao' N cap') ∧ IsStrs w' ao' N cap' (holdB xs os every) ∧ N ≤ n ∧ Below w.heap.size w w' ∧ (holdB xs os every = [] → ao' = none ∧ N = 0 ∧ cap' = 0) := by
  refine (Holding_any ao co n cap cn ccap every out xs os w h hc hn).mono ?_
  rintro e w' ⟨v, rfl, h1, h2, h3⟩
  obtain ⟨ao', cap', rfl, hs⟩ := isStrs_own h1
  refine ⟨ao', _, cap', rfl, hs, ?_, h2, fun he => ?_⟩
  · rw [← h.1]; exact List.length_filter_le _ _
  · have := h3 he
    simp only [Value.slice.injEq] at this
    exact this
end Go.Proofs.Qxb6609037aMods
