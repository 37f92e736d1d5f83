import Derived.Test.Qxb6615773aModsWalksA
namespace Go.Proofs.Qxb6615773aMods
open Go.ChangeShapes Go.WideShapes Go.ChangeAt Go.RowKit
set_option linter.unusedVariables false

/-- What a push leaves: the heap with one part more, last; the part's place; all else as it was. -/
def Pushed (B hb p : Nat) (k : Int) (v : Value) (ps : List Nat) (x y : Int) (w w' : World) : Prop :=
  ∃ v', IsHeap w' hb k v' ∧ w'.ownsRow B 29 1 v' (ps.length + 1) ((ps ++ [p]).map ptr) ∧ IsPart w' p x y ∧
    Turned w w' (fun b => b = hb ∨ b = p ∨ v.ownBlock = some b) ∧ (v'.ownBlock = v.ownBlock ∨ ∀ b, v'.ownBlock = some b → w.heap.size ≤ b)

theorem ptr_oneCell (p : Nat) : ∀ u ∈ [ptr p], u.oneCell' = true := by
  intro u hu; simp at hu; subst hu; rfl
theorem row_olds {wx : World} {B n cap : Nat} {ao : Option Addr} {xs : List Value} (h : wx.ownsRow B 29 1 (.slice ao n cap) n xs) :
    (ao = none → n = 0 ∧ cap = 0) ∧ xs.length = n * 1 ∧ ∀ b, ao = some b → ∀ j u, xs[j]? = some u → wx.cell? (b.add j) = some u := by
  refine ⟨?_, h.1, ?_⟩
  · rcases h.2 with ⟨h1, h2⟩ | ⟨g, c, cur, h1, _⟩
    · simp only [Value.slice.injEq] at h1
      exact fun _ => ⟨h2, h1.2.2⟩
    · simp only [Value.slice.injEq] at h1
      obtain ⟨rfl, _⟩ := h1
      intro h; cases h
  · intro b hb j u hj
    subst hb
    rcases h.2 with ⟨h1, h2⟩ | ⟨g, c, cur, h1, _⟩
    · simp at h1
    · simp only [Value.slice.injEq, Option.some.injEq] at h1
      obtain ⟨rfl, _⟩ := h1
      exact h.cells rfl j u hj
theorem own_form {w : World} {B n : Nat} {v : Value} {xs : List Value} (h : w.ownsRow B 29 1 v (n + 1) xs) : ∃ g cap, v = .slice (some ⟨g, 0, none⟩) (n + 1) cap ∧ B ≤ g := by
  rcases h.2 with ⟨_, h0⟩ | ⟨g, cap, cur, hv, hb, _⟩
  · omega
  · exact ⟨g, cap, hv, hb⟩
theorem own_mono {w : World} {B B' n : Nat} {v : Value} {xs : List Value} (h : w.ownsRow B 29 1 v n xs) (hB : B' ≤ B) : w.ownsRow B' 29 1 v n xs := by
  obtain ⟨h0, h1⟩ := h
  refine ⟨h0, ?_⟩
  rcases h1 with h1 | ⟨g, cap, cur, r1, r2, r3⟩
  · exact .inl h1
  · exact .inr ⟨g, cap, cur, r1, by omega, r3⟩
theorem news_at (w : World) (a : Addr) (z : Value) (p : Nat) : ∀ j u, [ptr p][j]? = some u → (((w.setCell a z).alloc (.cells #[ptr p] 29)).drew).cell? ((⟨w.heap.size, 0, none⟩ : Addr).add j) = some u := by
  intro j u hj
  have hz : (w.setCell a z).heap.size = w.heap.size := by simp [World.setCell]
  have h := cell_one_new (w.setCell a z) (ptr p) 29 j u hj
  rw [hz] at h
  simpa using h
/-- The world at the append. -/
theorem at_append {w : World} (p off : Nat) (z : Value) (o : Obj) : Turned w (((w.setCell ⟨p, off, none⟩ z).alloc o).drew) (fun b => b = p) :=
  ((Turned.setCell w ⟨p, off, none⟩ z (fun b => b = p) rfl).trans (Turned.alloc _ o (fun _ => False)) (fun _ _ h => h.elim)).trans (Turned.drew _ (fun _ => False)) (fun _ _ h => h.elim)

theorem pushed_fin {w w3 w4 : World} {B hb p : Nat} {k x y x' y' : Int} {v v' : Value} {ps : List Nat} {row : Option Nat} (hH : IsHeap w hb k v) (hO : w.ownsRow B 29 1 v ps.length (ps.map ptr)) (hP : IsPart w p x y)
    (hT : Turned w w3 (fun b => b = p)) (hP3 : IsPart w3 p x' y') (hown : w4.ownsRow B 29 1 v' (ps.length + 1) (ps.map ptr ++ [ptr p])) (hg : w3.grownBy w4 row) (hrow : ∀ b, row = some b → v.ownBlock = some b)
    (hv : v'.ownBlock = v.ownBlock ∨ ∀ b, v'.ownBlock = some b → w.heap.size ≤ b) : Pushed B hb p k v ps x' y' w (w4.setCell ⟨hb, 1, none⟩ v') := by
  have hph := part_not_heap hP hH
  have hrh := heap_not_row hO hH
  have hrp := part_not_row hO hP
  have hT4 : Turned w3 w4 (fun b => v.ownBlock = some b) := Turned.grown hg _ hrow
  have hH3 : IsHeap w3 hb k v := hH.turned hT (fun e => hph e.symm)
  have hH4 : IsHeap w4 hb k v := hH3.turned hT4 hrh
  have hP4 : IsPart w4 p x' y' := hP3.turned hT4 hrp
  have hT5 : Turned w4 (w4.setCell ⟨hb, 1, none⟩ v') (fun b => b = hb) := Turned.setCell _ _ _ (fun b => b = hb) rfl
  refine ⟨v', hH4.set v', ?_, hP4.turned hT5 hph, ?_, hv⟩
  · rw [List.map_append]
    refine own_turned hown hT5 ?_
    rintro b hb' rfl
    exact heap_not_row hown hH4 hb'
  · refine ((Turned.trans (S := fun b => b = hb ∨ b = p ∨ v.ownBlock = some b) ⟨hT.os, hT.tape, hT.output, hT.size, fun b h1 h2 => hT.block b h1 (fun e => h2 (.inr (.inl e)))⟩ hT4 (fun b _ h => .inr (.inr h))).trans hT5 (fun b _ h => .inl h))

set_option maxHeartbeats 1600000 in
set_option maxRecDepth 1000000 in
theorem push0_grow (B hb p : Nat) (ao : Option Addr) (n cap : Nat) (ps : List Nat) (x y : Int) (w : World) (hl : ps.length = n) (hH : IsHeap w hb 0 (.slice ao n cap)) (hO : w.ownsRow B 29 1 (.slice ao n cap) n (ps.map ptr)) (hP : IsPart w p x y)
    (hn : n ≤ 65536) (hfull : cap < n + 1) (hB : B ≤ w.heap.size) :
    Calls Trym.prog 21 #[.pointer (some ⟨hb, 0, none⟩), .iface 29 (.pointer (some ⟨p, 0, none⟩))] w fun e w' => e = .returned (.tuple #[]) ∧ Pushed B hb p 0 (.slice ao n cap) ps n y w w' := by
  obtain ⟨i0, hi, hz0, hz1, hz2⟩ := info_parts Trym.info29
  have ha := assert_part
  obtain ⟨c0, c1, cf⟩ := hH.cells
  obtain ⟨d0, d1, df⟩ := hP.cells
  have hT := at_append (w := w) p 29 (.int .i64 n) (.cells #[ptr p] 29)
  have hOX := own_turned hO hT (by rintro b hb' rfl; exact part_not_row hO hP hb')
  have hHX := hH.turned hT (fun e => part_not_heap hP hH e.symm)
  have hPX : IsPart (((w.setCell ⟨p, 29, none⟩ (.int .i64 n)).alloc (.cells #[ptr p] 29)).drew) p n y := ((hP.set0 n).turned (Turned.alloc _ _ (fun _ => False)) (fun h => h)).turned (Turned.drew _ (fun _ => False)) (fun h => h)
  have hne : (⟨p, 29, none⟩ : Addr) ≠ ⟨hb, 1, none⟩ := fun e => part_not_heap hP hH (by injection e)
  have c1' : (w.setCell ⟨p, 29, none⟩ (.int .i64 n)).cell? ⟨hb, 1, none⟩ = some (.slice ao n cap) := by rw [World.cell?_setCell_other _ _ _ _ hne]; exact c1
  have ro := row_olds hOX
  have HL : Hid (ps.length = n) := hl
  clear hl hne
  go_enter Trym.func21, Trym.ntmps21
  go_wp2
  go_region
  all_goals
    go_wp2_with (at_builtin; refine wpList_append_grows _ rfl (.tmp 25) (.tmp 27) 28 rfl 29 i0 (.pointer none) 1 8 Trym.underlying28 hi hz0 hz1 hz2 rfl (by decide) ao n cap (ps.map ptr) rfl ro.1 ro.2.1 ro.2.2 ⟨w.heap.size, 0, none⟩ 1 1 [ptr p] rfl rfl (news_at w _ _ p) (ptr_oneCell p) hfull (by unfold maxLen; omega) (by omega) ?_; intro v' w4 hown4 hgrow4; have hHN := hHX.turned (Turned.grown hgrow4 (fun b => b ≠ hb) (fun b h e => heap_not_row hOX hHX (by first | (cases h; done) | (rw [← e]; exact h)))) (fun h => h rfl); obtain ⟨-, e1, ef⟩ := hHN.cells; have ef1 := ef 1; obtain ⟨g', cap', hvf, hgs⟩ := own_form hown4; subst hvf)
    go_end0
    refine ⟨rfl, ?_⟩
    have hl := HL.out
    subst hl
    exact pushed_fin hH hO hP hT hPX (own_mono hown4 (Nat.le_trans hB hT.size)) hgrow4 (fun b h => by cases h) (.inr (fun b hb' => Nat.le_trans hT.size (hown4.lt b hb').1))

set_option maxHeartbeats 1600000 in
set_option maxRecDepth 1000000 in
theorem push1_grow (B hb p : Nat) (ao : Option Addr) (n cap : Nat) (ps : List Nat) (x y : Int) (w : World) (hl : ps.length = n) (hH : IsHeap w hb 1 (.slice ao n cap)) (hO : w.ownsRow B 29 1 (.slice ao n cap) n (ps.map ptr)) (hP : IsPart w p x y)
    (hn : n ≤ 65536) (hfull : cap < n + 1) (hB : B ≤ w.heap.size) :
    Calls Trym.prog 21 #[.pointer (some ⟨hb, 0, none⟩), .iface 29 (.pointer (some ⟨p, 0, none⟩))] w fun e w' => e = .returned (.tuple #[]) ∧ Pushed B hb p 1 (.slice ao n cap) ps x n w w' := by
  obtain ⟨i0, hi, hz0, hz1, hz2⟩ := info_parts Trym.info29
  have ha := assert_part
  obtain ⟨c0, c1, cf⟩ := hH.cells
  obtain ⟨d0, d1, df⟩ := hP.cells
  have hT := at_append (w := w) p 30 (.int .i64 n) (.cells #[ptr p] 29)
  have hOX := own_turned hO hT (by rintro b hb' rfl; exact part_not_row hO hP hb')
  have hHX := hH.turned hT (fun e => part_not_heap hP hH e.symm)
  have hPX : IsPart (((w.setCell ⟨p, 30, none⟩ (.int .i64 n)).alloc (.cells #[ptr p] 29)).drew) p x n := ((hP.set1 n).turned (Turned.alloc _ _ (fun _ => False)) (fun h => h)).turned (Turned.drew _ (fun _ => False)) (fun h => h)
  have hne : (⟨p, 30, none⟩ : Addr) ≠ ⟨hb, 1, none⟩ := fun e => part_not_heap hP hH (by injection e)
  have c1' : (w.setCell ⟨p, 30, none⟩ (.int .i64 n)).cell? ⟨hb, 1, none⟩ = some (.slice ao n cap) := by rw [World.cell?_setCell_other _ _ _ _ hne]; exact c1
  have ro := row_olds hOX
  have HL : Hid (ps.length = n) := hl
  clear hl hne
  go_enter Trym.func21, Trym.ntmps21
  go_wp2
  go_region
  all_goals
    go_wp2_with (at_builtin; refine wpList_append_grows _ rfl (.tmp 25) (.tmp 27) 28 rfl 29 i0 (.pointer none) 1 8 Trym.underlying28 hi hz0 hz1 hz2 rfl (by decide) ao n cap (ps.map ptr) rfl ro.1 ro.2.1 ro.2.2 ⟨w.heap.size, 0, none⟩ 1 1 [ptr p] rfl rfl (news_at w _ _ p) (ptr_oneCell p) hfull (by unfold maxLen; omega) (by omega) ?_; intro v' w4 hown4 hgrow4; have hHN := hHX.turned (Turned.grown hgrow4 (fun b => b ≠ hb) (fun b h e => heap_not_row hOX hHX (by first | (cases h; done) | (rw [← e]; exact h)))) (fun h => h rfl); obtain ⟨-, e1, ef⟩ := hHN.cells; have ef1 := ef 1; obtain ⟨g', cap', hvf, hgs⟩ := own_form hown4; subst hvf)
    go_end0
    refine ⟨rfl, ?_⟩
    have hl := HL.out
    subst hl
    exact pushed_fin hH hO hP hT hPX (own_mono hown4 (Nat.le_trans hB hT.size)) hgrow4 (fun b h => by cases h) (.inr (fun b hb' => Nat.le_trans hT.size (hown4.lt b hb').1))

set_option maxHeartbeats 1600000 in
set_option maxRecDepth 1000000 in
theorem push0_fits (B hb p : Nat) (g n cap : Nat) (ps : List Nat) (x y : Int) (w : World) (hl : ps.length = n) (hH : IsHeap w hb 0 (.slice (some ⟨g, 0, none⟩) n cap)) (hO : w.ownsRow B 29 1 (.slice (some ⟨g, 0, none⟩) n cap) n (ps.map ptr)) (hP : IsPart w p x y)
    (hn : n ≤ 65536) (hroom : n + 1 ≤ cap) (hB : B ≤ w.heap.size) :
    Calls Trym.prog 21 #[.pointer (some ⟨hb, 0, none⟩), .iface 29 (.pointer (some ⟨p, 0, none⟩))] w fun e w' => e = .returned (.tuple #[]) ∧ Pushed B hb p 0 (.slice (some ⟨g, 0, none⟩) n cap) ps n y w w' := by
  obtain ⟨i0, hi, hz0, hz1, hz2⟩ := info_parts Trym.info29
  have ha := assert_part
  obtain ⟨c0, c1, cf⟩ := hH.cells
  obtain ⟨d0, d1, df⟩ := hP.cells
  have hT := at_append (w := w) p 29 (.int .i64 n) (.cells #[ptr p] 29)
  have hOX := own_turned hO hT (by rintro b hb' rfl; exact part_not_row hO hP hb')
  have hHX := hH.turned hT (fun e => part_not_heap hP hH e.symm)
  have hPX : IsPart (((w.setCell ⟨p, 29, none⟩ (.int .i64 n)).alloc (.cells #[ptr p] 29)).drew) p n y := ((hP.set0 n).turned (Turned.alloc _ _ (fun _ => False)) (fun h => h)).turned (Turned.drew _ (fun _ => False)) (fun h => h)
  have hne : (⟨p, 29, none⟩ : Addr) ≠ ⟨hb, 1, none⟩ := fun e => part_not_heap hP hH (by injection e)
  have c1' : (w.setCell ⟨p, 29, none⟩ (.int .i64 n)).cell? ⟨hb, 1, none⟩ = some (.slice (some ⟨g, 0, none⟩) n cap) := by rw [World.cell?_setCell_other _ _ _ _ hne]; exact c1
  have ro := row_olds hOX
  have HL : Hid (ps.length = n) := hl
  clear hl hne
  go_enter Trym.func21, Trym.ntmps21
  go_wp2
  go_region
  all_goals
    go_wp2_with (at_builtin; refine wpList_append_fits _ rfl (.tmp 25) (.tmp 27) 28 rfl B 29 i0 1 Trym.underlying28 hi hz1 g n cap (ps.map ptr) rfl hOX ⟨w.heap.size, 0, none⟩ 1 1 [ptr p] rfl rfl (news_at w _ _ p) (ptr_oneCell p) hroom ?_; intro w4 hown4 hgrow4; have hHN := hHX.turned (Turned.grown hgrow4 (fun b => b ≠ hb) (fun b h e => heap_not_row hOX hHX (by first | (cases h; done) | (rw [← e]; exact h)))) (fun h => h rfl); obtain ⟨-, e1, ef⟩ := hHN.cells; have ef1 := ef 1; skip)
    go_end0
    refine ⟨rfl, ?_⟩
    have hl := HL.out
    subst hl
    exact pushed_fin hH hO hP hT hPX hown4 hgrow4 (fun b h => h) (.inl rfl)

set_option maxHeartbeats 1600000 in
set_option maxRecDepth 1000000 in
theorem push1_fits (B hb p : Nat) (g n cap : Nat) (ps : List Nat) (x y : Int) (w : World) (hl : ps.length = n) (hH : IsHeap w hb 1 (.slice (some ⟨g, 0, none⟩) n cap)) (hO : w.ownsRow B 29 1 (.slice (some ⟨g, 0, none⟩) n cap) n (ps.map ptr)) (hP : IsPart w p x y)
    (hn : n ≤ 65536) (hroom : n + 1 ≤ cap) (hB : B ≤ w.heap.size) :
    Calls Trym.prog 21 #[.pointer (some ⟨hb, 0, none⟩), .iface 29 (.pointer (some ⟨p, 0, none⟩))] w fun e w' => e = .returned (.tuple #[]) ∧ Pushed B hb p 1 (.slice (some ⟨g, 0, none⟩) n cap) ps x n w w' := by
  obtain ⟨i0, hi, hz0, hz1, hz2⟩ := info_parts Trym.info29
  have ha := assert_part
  obtain ⟨c0, c1, cf⟩ := hH.cells
  obtain ⟨d0, d1, df⟩ := hP.cells
  have hT := at_append (w := w) p 30 (.int .i64 n) (.cells #[ptr p] 29)
  have hOX := own_turned hO hT (by rintro b hb' rfl; exact part_not_row hO hP hb')
  have hHX := hH.turned hT (fun e => part_not_heap hP hH e.symm)
  have hPX : IsPart (((w.setCell ⟨p, 30, none⟩ (.int .i64 n)).alloc (.cells #[ptr p] 29)).drew) p x n := ((hP.set1 n).turned (Turned.alloc _ _ (fun _ => False)) (fun h => h)).turned (Turned.drew _ (fun _ => False)) (fun h => h)
  have hne : (⟨p, 30, none⟩ : Addr) ≠ ⟨hb, 1, none⟩ := fun e => part_not_heap hP hH (by injection e)
  have c1' : (w.setCell ⟨p, 30, none⟩ (.int .i64 n)).cell? ⟨hb, 1, none⟩ = some (.slice (some ⟨g, 0, none⟩) n cap) := by rw [World.cell?_setCell_other _ _ _ _ hne]; exact c1
  have ro := row_olds hOX
  have HL : Hid (ps.length = n) := hl
  clear hl hne
  go_enter Trym.func21, Trym.ntmps21
  go_wp2
  go_region
  all_goals
    go_wp2_with (at_builtin; refine wpList_append_fits _ rfl (.tmp 25) (.tmp 27) 28 rfl B 29 i0 1 Trym.underlying28 hi hz1 g n cap (ps.map ptr) rfl hOX ⟨w.heap.size, 0, none⟩ 1 1 [ptr p] rfl rfl (news_at w _ _ p) (ptr_oneCell p) hroom ?_; intro w4 hown4 hgrow4; have hHN := hHX.turned (Turned.grown hgrow4 (fun b => b ≠ hb) (fun b h e => heap_not_row hOX hHX (by first | (cases h; done) | (rw [← e]; exact h)))) (fun h => h rfl); obtain ⟨-, e1, ef⟩ := hHN.cells; have ef1 := ef 1; skip)
    go_end0
    refine ⟨rfl, ?_⟩
    have hl := HL.out
    subst hl
    exact pushed_fin hH hO hP hT hPX hown4 hgrow4 (fun b h => h) (.inl rfl)

/-- The places that a push into a heap of kind k, n parts in it, leaves. -/
def place0 (k : Int) (n : Nat) (x : Int) : Int := if k = 0 then n else x
def place1 (k : Int) (n : Nat) (y : Int) : Int := if k = 0 then y else n

theorem push_any (B hb p : Nat) (k : Int) (hk : k = 0 ∨ k = 1) (v : Value) (ps : List Nat) (x y : Int) (w : World) (hH : IsHeap w hb k v) (hO : w.ownsRow B 29 1 v ps.length (ps.map ptr)) (hP : IsPart w p x y)
    (hn : ps.length ≤ 65536) (hB : B ≤ w.heap.size) :
    Calls Trym.prog 21 #[.pointer (some ⟨hb, 0, none⟩), .iface 29 (.pointer (some ⟨p, 0, none⟩))] w fun e w' => e = .returned (.tuple #[]) ∧ Pushed B hb p k v ps (place0 k ps.length x) (place1 k ps.length y) w w' := by
  have hO' := hO
  rcases hO.2 with ⟨rfl, h0⟩ | ⟨g, cap, cur, rfl, _⟩
  · have hO2 : w.ownsRow B 29 1 (.slice none 0 0) 0 (ps.map ptr) := by rw [h0] at hO'; exact hO'
    rcases hk with rfl | rfl
    · simpa [place0, place1, h0] using push0_grow B hb p none 0 0 ps x y w h0 hH hO2 hP (by omega) (by omega) hB
    · simpa [place0, place1, h0] using push1_grow B hb p none 0 0 ps x y w h0 hH hO2 hP (by omega) (by omega) hB
  · by_cases hr : ps.length + 1 ≤ cap
    · rcases hk with rfl | rfl
      · simpa [place0, place1] using push0_fits B hb p g ps.length cap ps x y w rfl hH hO hP hn hr hB
      · simpa [place0, place1] using push1_fits B hb p g ps.length cap ps x y w rfl hH hO hP hn hr hB
    · rcases hk with rfl | rfl
      · simpa [place0, place1] using push0_grow B hb p (some ⟨g, 0, none⟩) ps.length cap ps x y w rfl hH hO hP hn (by omega) hB
      · simpa [place0, place1] using push1_grow B hb p (some ⟨g, 0, none⟩) ps.length cap ps x y w rfl hH hO hP hn (by omega) hB

set_option maxHeartbeats 400000 in
theorem Push_any (B hb p : Nat) (k : Int) (hk : k = 0 ∨ k = 1) (v : Value) (ps : List Nat) (x y : Int) (w : World) (hH : IsHeap w hb k v) (hO : w.ownsRow B 29 1 v ps.length (ps.map ptr)) (hP : IsPart w p x y)
    (hn : ps.length ≤ 65536) (hB : B ≤ w.heap.size) :
    Calls Trym.prog 16 #[.pointer (some ⟨hb, 0, none⟩), .pointer (some ⟨p, 0, none⟩)] w fun e w' => e = .returned (.tuple #[]) ∧ Pushed B hb p k v ps (place0 k ps.length x) (place1 k ps.length y) w w' := by
  go_enter Trym.func16, Trym.ntmps16
  go_wp2_with fail
  refine (push_any B hb p k hk v ps x y w hH hO hP hn hB).mono ?_
  rintro e w1 ⟨rfl, hp⟩
  go_wp2
  go_end0
  exact ⟨rfl, hp⟩
end Go.Proofs.Qxb6615773aMods
