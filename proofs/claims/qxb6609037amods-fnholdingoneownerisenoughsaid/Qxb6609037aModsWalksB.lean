import Derived.Test.Qxb6609037aModsWalksA
namespace Go.Proofs.Qxb6609037aMods
open Go.ChangeShapes Go.WideShapes Go.ChangeAt Go.RowKit

theorem Trym.info9 : (Trym.prog.info? 9).map (fun i => (i.zero, i.size, i.bytes)) = some (some (.string ByteArray.empty), 1, 16) := by kernel_rfl

/-- What the loop of 'holding' carries. -/
def Held (B : Nat) (w0 wr : World) (v : Value) (ys : List ByteArray) : Prop :=
  wr.ownsRow B 9 1 v ys.length (ys.map Value.string) ∧ Below B w0 wr ∧ (ys = [] → v = .slice none 0 0)

theorem Held.keep {B : Nat} {w0 wr w1 : World} {v v' : Value} {ys : List ByteArray} {s : ByteArray} {o1 o2 : Obj} (h : Held B w0 wr v ys) (hB : B ≤ w0.heap.size)
    (hown : w1.ownsRow B 9 1 v' (ys.length + 1) (ys.map Value.string ++ [.string s])) (hg : ((wr.alloc o1).alloc o2).grownBy w1 v.ownBlock) : Held B w0 w1 v' (ys ++ [s]) := by
  obtain ⟨h1, h2, h3⟩ := h
  have hz := h2.size
  refine ⟨by simpa using hown, ?_, fun he => by simp at he⟩
  refine Below.grown ((h2.alloc (by omega) _).alloc (by simp; omega) _) hg (by simp; omega) ?_
  intro k hk
  exact (h1.lt k hk).1

theorem Held.drop {B : Nat} {w0 wr : World} {v : Value} {ys : List ByteArray} {o1 : Obj} (h : Held B w0 wr v ys) (hB : B ≤ w0.heap.size) : Held B w0 (wr.alloc o1) v ys := by
  obtain ⟨h1, h2, h3⟩ := h
  have hz := h2.size
  exact ⟨h1.alloc _, h2.alloc (by omega) _, h3⟩

theorem Held.base {w wr : World} {o : Obj} {v : Value} {ys : List ByteArray} (h : Held (w.heap.size + 1) (w.alloc o) wr v ys) : Held w.heap.size w wr v ys := by
  obtain ⟨⟨h0, h1⟩, h2, h3⟩ := h
  refine ⟨⟨h0, ?_⟩, ((Below.refl _ _).alloc (Nat.le_refl _) o).trans (h2.mono (by omega)), h3⟩
  rcases h1 with h1 | ⟨g, cap, cur, r1, r2, r3⟩
  · exact .inl h1
  · exact .inr ⟨g, cap, cur, r1, by omega, r3⟩

set_option maxHeartbeats 1600000 in
set_option maxRecDepth 1000000 in
theorem holding_any (ao co : Option Addr) (n cap cn ccap : Nat) (every : Bool) (out : ByteArray) (xs os : List ByteArray) (w : World) (h : IsStrs w ao n cap xs) (hc : IsStrs w co cn ccap os) (hn : n ≤ 8388608) :
    Calls Trym.prog 26 #[.slice ao n cap, .agg #[.slice co cn ccap, .bool every, .string out]] w fun e w' => ∃ v, e = .returned v ∧ Held w.heap.size w w' v (holdB xs os every) := by
  obtain ⟨i0, hi, hz0, hz1, hz2⟩ := info_parts Trym.info9
  obtain ⟨W, hW⟩ : ∃ W, W = w.alloc (.cells #[.slice co cn ccap, .bool every, .string out] 40) := ⟨_, rfl⟩
  have hWs : W.heap.size = w.heap.size + 1 := by rw [hW]; simp
  have h1 : IsStrs W ao n cap xs := by rw [hW]; exact h.below ((Below.refl _ _).alloc (Nat.le_refl _) _)
  have hc1 : IsStrs W co cn ccap os := by rw [hW]; exact hc.below ((Below.refl _ _).alloc (Nat.le_refl _) _)
  have g0 : W.cell? ⟨w.heap.size, 0, none⟩ = some (.slice co cn ccap) := by rw [hW]; simp
  have g1 : W.cell? ⟨w.heap.size, 1, none⟩ = some (.bool every) := by rw [hW]; simp
  have HL : Hid (xs.length = n) := h.1
  clear h hc
  go_enter Trym.func26, Trym.ntmps26
  go_wp2_with fail
  rw [← hW]
  have HW : Hid (W.heap.size = w.heap.size + 1) := hWs
  have HE : Hid (W = w.alloc (.cells #[.slice co cn ccap, .bool every, .string out] 40)) := hW
  clear hW hWs
  go_wp2_with fail
  go_loopw [5, 10] (fun v i wr => ∃ k : Nat, k ≤ n ∧ i = .int .i64 k ∧ Held (w.heap.size + 1) W wr v (holdB (xs.take k) os every)) (fun _ i _ => n - (intOf i).toNat)
  case atStart => exact ⟨0, Nat.zero_le _, rfl, World.ownsRow_nil _ _ _ _, Below.refl _ _, fun _ => rfl⟩
  case round =>
    obtain ⟨k, hk, rfl, hheld⟩ := hrel
    have hB : Below W.heap.size W wr := by rw [HW.out]; exact hheld.2.1
    by_cases hlt : k < n
    · have hcr := hc1.below hB
      have c0 : wr.cell? ⟨w.heap.size, 0, none⟩ = some (.slice co cn ccap) := (hB.cell (by rw [HW.out]; exact Nat.lt_succ_self _)).trans g0
      have c1 : wr.cell? ⟨w.heap.size, 1, none⟩ = some (.bool every) := (hB.cell (by rw [HW.out]; exact Nat.lt_succ_self _)).trans g1
      obtain ⟨b, off, rfl, hcell⟩ := (h1.below hB).at (by omega)
      have hck := hcell k hlt
      have hst := holdB_step xs os every k (by rw [HL.out]; exact hlt)
      obtain ⟨s, hs⟩ : ∃ s, s = xs.getD k ByteArray.empty := ⟨_, rfl⟩
      rw [← hs] at hck hst
      have HS : Hid (holdB (xs.take (k + 1)) os every = holdB (xs.take k) os every ++ if insideB os every [s] then [s] else []) := hst
      have hle := holdB_le xs os every k
      have hown := hheld.1
      have hsz := hB.size
      rw [HW.out] at hsz
      clear hcell hs hst g0 g1 hB
      go_wp2_with (first | (go_at_call 28; refine (inside_any _ _ _ _ _ _ _ os [s] _ (hcr.below ((Below.refl _ _).alloc (Nat.le_refl _) _)) (isStrs_one wr s)).mono ?_; rintro e w' ⟨rfl, rfl⟩) | (at_builtin; refine wpList_append_own _ rfl _ _ 22 rfl (w.heap.size + 1) 9 i0 (.string ByteArray.empty) 1 16 Trym.underlying22 hi hz0 hz1 hz2 rfl (by decide) _ _ _ rfl ((hown.alloc _).alloc _) ⟨wr.heap.size + 1, 0, none⟩ 1 1 [.string s] rfl rfl ?c1 ?c2 ?c3 ?c4 ?c5 ?_))
      case c1 =>
        intro j u hj
        match j, hj with
        | 0, hj =>
          simp only [List.getElem?_cons_zero, Option.some.injEq] at hj
          subst hj
          simp [Addr.add]
      case c2 => intro u hu; simp at hu; subst hu; rfl
      case c3 => unfold maxLen; omega
      case c4 => omega
      case c5 => simp; omega
      · intro v' w1 hown' hgrow _
        have hin : insideB os every [s] = true := by assumption
        have R := hheld.keep (by rw [HW.out]; exact Nat.le_refl _) hown' hgrow
        clear hown' hgrow hown hheld hcr c0 c1 hck
        go_wp2
        go_roundw
        case rel => exact ⟨k + 1, by omega, by go_num, by rw [HS.out, if_pos hin]; exact R⟩
        case measure => simp [intOf]; omega
      · have hin : insideB os every [s] = false := by assumption
        have R := hheld.drop (o1 := .cells #[.string s] 9) (by rw [HW.out]; exact Nat.le_refl _)
        go_roundw
        case rel => exact ⟨k + 1, by omega, by go_num, by rw [HS.out, hin]; simpa using R⟩
        case measure => simp [intOf]; omega
    · have he : xs.take k = xs := List.take_of_length_le (by rw [HL.out]; omega)
      rw [he] at hheld
      clear hB hc1 h1 g0 g1
      go_wp2
      go_ret
      rw [HE.out] at hheld
      exact ⟨_, rfl, hheld.base⟩

set_option maxHeartbeats 400000 in
theorem Holding_any (ao co : Option Addr) (n cap cn ccap : Nat) (every : Bool) (out : ByteArray) (xs os : List ByteArray) (w : World) (h : IsStrs w ao n cap xs) (hc : IsStrs w co cn ccap os) (hn : n ≤ 8388608) :
    Calls Trym.prog 18 #[.slice ao n cap, .agg #[.slice co cn ccap, .bool every, .string out]] w fun e w' => ∃ v, e = .returned v ∧ Held w.heap.size w w' v (holdB xs os every) := by
  go_enter Trym.func18, Trym.ntmps18
  go_wp2_with fail
  refine (holding_any ao co n cap cn ccap every out xs os _ (h.below ((Below.refl _ _).alloc (Nat.le_refl _) _)) (hc.below ((Below.refl _ _).alloc (Nat.le_refl _) _)) hn).mono ?_
  rintro e w1 ⟨v, rfl, hheld⟩
  go_wp2
  go_ret
  exact ⟨_, rfl, Held.base (by simpa using hheld)⟩

set_option maxHeartbeats 400000 in
theorem newClaim_any (co : Option Addr) (cn ccap : Nat) (every : Bool) (out : ByteArray) (w : World) :
    Calls Trym.prog 17 #[.slice co cn ccap, .bool every, .string out] w fun e w' => e = .returned (.agg #[.slice co cn ccap, .bool every, .string out]) ∧ Below w.heap.size w w' := by
  go_enter Trym.func17, Trym.ntmps17
  go_wp2
  exact bodyPost_ret (v := .agg #[.slice co cn ccap, .bool every, .string out]) (by simp [results, Trym.results17, go_sem]) rfl ⟨rfl, (Below.refl _ _).alloc (Nat.le_refl _) _⟩

set_option maxHeartbeats 400000 in
theorem zzAdd_any (a b : Int) (w : World) : Calls Trym.prog 9 #[.int .i64 a, .int .i64 b] w fun e w' => (∃ r, e = .returned (.int .i64 r)) ∧ w' = w := by
  go_enter Trym.func9, Trym.ntmps9
  go_wp2
  all_goals (go_ret; exact ⟨⟨_, rfl⟩, rfl⟩)

set_option maxHeartbeats 400000 in
theorem zzAddStrings_any (a : Int) (ao : Option Addr) (n cap : Nat) (xs : List ByteArray) (w : World) (h : IsStrs w ao n cap xs) :
    Calls Trym.prog 21 #[.int .i64 a, .slice ao n cap] w fun e w' => (∃ r, e = .returned (.int .i64 r)) ∧ w' = w := by
  have hm := h.2.2.1
  have hc := h.2.1
  unfold maxLen at hm
  go_enter Trym.func21, Trym.ntmps21
  go_wp2
  go_loop [0, 9] (fun c i => ∃ k : Nat, k ≤ n ∧ i = .int .i64 k ∧ ∃ r, c = .int .i64 r) (fun _ i => n - (intOf i).toNat)
  case atStart => exact ⟨0, Nat.zero_le _, rfl, _, rfl⟩
  case round =>
    obtain ⟨k, hk, rfl, r, rfl⟩ := hrel
    by_cases hlt : k < n
    · obtain ⟨b, off, rfl, hcell⟩ := h.at (by omega)
      have hck := hcell k hlt
      clear hcell
      go_wp2_with (go_at_call 9; refine (zzAdd_any _ _ _).mono ?_; rintro e w' ⟨⟨r', rfl⟩, rfl⟩)
      · go_ret
        exact ⟨⟨_, rfl⟩, rfl⟩
      · go_round
        case rel => exact ⟨k + 1, by omega, by go_num, _, rfl⟩
        case measure => simp [intOf]; omega
    · go_wp2
      go_ret
      exact ⟨⟨_, rfl⟩, rfl⟩

set_option maxHeartbeats 400000 in
theorem zzHoldingSize_any (ao bo : Option Addr) (n cap m mcap : Nat) (xs ys : List ByteArray) (x o : ByteArray) (w : World) (h : IsStrs w ao n cap xs) (h' : IsStrs w bo m mcap ys) :
    Calls Trym.prog 15 #[.slice ao n cap, .slice bo m mcap, .string x, .string o] w fun e w' => (∃ r, e = .returned (.int .i64 r)) ∧ w' = w := by
  go_enter Trym.func15, Trym.ntmps15
  go_wp2_with fail
  refine (zzAdd_any _ _ _).mono ?_; rintro e w' ⟨⟨r1, rfl⟩, rfl⟩
  go_wp2_with fail
  refine (zzAdd_any _ _ _).mono ?_; rintro e w' ⟨⟨r2, rfl⟩, rfl⟩
  go_wp2_with fail
  refine (zzAddStrings_any _ _ _ _ _ _ h).mono ?_; rintro e w' ⟨⟨r3, rfl⟩, rfl⟩
  go_wp2_with fail
  refine (zzAddStrings_any _ _ _ _ _ _ h').mono ?_; rintro e w' ⟨⟨r4, rfl⟩, rfl⟩
  go_wp2
  go_ret
  exact ⟨⟨_, rfl⟩, rfl⟩
end Go.Proofs.Qxb6609037aMods
