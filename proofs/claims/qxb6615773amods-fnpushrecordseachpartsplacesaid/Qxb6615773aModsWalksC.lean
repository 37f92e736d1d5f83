import Derived.Test.Qxb6615773aModsWalksB
import Derived.Lib.Builder
namespace Go.Proofs.Qxb6615773aMods
open Go.ChangeShapes Go.WideShapes Go.ChangeAt Go.RowKit

/-! ### A HEAP WITH ITS PARTS -/
structure Row (B : Nat) (w : World) (hb : Nat) (k : Int) (v : Value) (ps : List Nat) : Prop where
  heap : IsHeap w hb k v
  own : w.ownsRow B 29 1 v ps.length (ps.map ptr)
theorem Row.turned {B hb : Nat} {w w' : World} {k : Int} {v : Value} {ps : List Nat} {S : Nat → Prop} (h : Row B w hb k v ps) (t : Turned w w' S) (h1 : ¬ S hb) (h2 : ∀ b, v.ownBlock = some b → ¬ S b) : Row B w' hb k v ps :=
  ⟨h.heap.turned t h1, own_turned h.own t h2⟩
theorem Row.new {B hb : Nat} {w : World} {k : Int} (h : IsHeap w hb k (.slice none 0 0)) : Row B w hb k (.slice none 0 0) [] := ⟨h, World.ownsRow_nil _ _ _ _⟩

def Parts (w : World) (ps : List Nat) (X Y : Nat → Int) : Prop := ∀ j, j < ps.length → IsPart w (ps.getD j 0) (X j) (Y j)
theorem Parts.turned {w w' : World} {ps : List Nat} {X Y : Nat → Int} {S : Nat → Prop} (h : Parts w ps X Y) (t : Turned w w' S) (hS : ∀ j, j < ps.length → ¬ S (ps.getD j 0)) : Parts w' ps X Y :=
  fun j hj => (h j hj).turned t (hS j hj)
theorem Parts.snoc {w : World} {ps : List Nat} {p : Nat} {X Y : Nat → Int} (h : Parts w ps X Y) (hp : IsPart w p (X ps.length) (Y ps.length)) : Parts w (ps ++ [p]) X Y := by
  intro j hj
  rw [List.length_append, List.length_singleton] at hj
  by_cases hlt : j < ps.length
  · have e : (ps ++ [p]).getD j 0 = ps.getD j 0 := by simp [List.getD, List.getElem?_append_left hlt]
    rw [e]; exact h j hlt
  · obtain rfl : j = ps.length := by omega
    have e : (ps ++ [p]).getD ps.length 0 = p := by simp [List.getD]
    rw [e]; exact hp
theorem Parts.nil (w : World) (X Y : Nat → Int) : Parts w [] X Y := fun j hj => by simp at hj
/-- None of the parts is the heap's block, nor a row's. -/
theorem Parts.off {B hb : Nat} {w : World} {k : Int} {v u : Value} {n : Nat} {xs : List Value} {ps : List Nat} {X Y : Nat → Int} (h : Parts w ps X Y) (hh : IsHeap w hb k u) (ho : w.ownsRow B 29 1 v n xs) :
    ∀ j, j < ps.length → ¬ (ps.getD j 0 = hb ∨ v.ownBlock = some (ps.getD j 0)) := by
  intro j hj hn
  rcases hn with hn | hn
  · exact part_not_heap (h j hj) hh hn
  · exact part_not_row ho (h j hj) hn

/-- ONE ROUND: a new part at the world's end, pushed. -/
theorem round_push {B hb P : Nat} {w wA w' : World} {k x y : Int} {v : Value} {ps : List Nat} (hT : ∀ S, Turned w wA S) (hP : P = w.heap.size) (h : Pushed B hb P k v ps x y wA w') :
    ∃ v', Row B w' hb k v' (ps ++ [P]) ∧ IsPart w' P x y ∧ Turned w w' (fun b => b = hb ∨ v.ownBlock = some b) ∧ (v'.ownBlock = v.ownBlock ∨ ∀ b, v'.ownBlock = some b → w.heap.size ≤ b) := by
  obtain ⟨v', h1, h2, h3, h4, h5⟩ := h
  refine ⟨v', ⟨h1, ?_⟩, h3, ?_, ?_⟩
  · rw [List.length_append, List.length_singleton]; exact h2
  · refine (hT (fun b => b = hb ∨ v.ownBlock = some b)).trans h4 ?_
    rintro b hb' (h | h | h)
    · exact .inl h
    · omega
    · exact .inr h
  · rcases h5 with h5 | h5
    · exact .inl h5
    · exact .inr (fun b hb' => Nat.le_trans (hT (fun _ => False)).size (h5 b hb'))

theorem turned_below {B hb : Nat} {w w' : World} {v : Value} {n : Nat} {xs : List Value} (t : Turned w w' (fun b => b = hb ∨ v.ownBlock = some b)) (hB : B ≤ w.heap.size) (hh : B ≤ hb) (ho : w.ownsRow B 29 1 v n xs) : Below B w w' := by
  refine t.below hB ?_
  rintro b (rfl | h)
  · exact hh
  · exact (ho.lt b h).1

/-! ### THE LAW OF BOTH HEAPS: what its two first loops carry -/
def Apart (v u : Value) : Prop := ∀ b, v.ownBlock = some b → u.ownBlock ≠ some b
def St1 (B h0 h1 : Nat) (w wr : World) (v : Value) (ps : List Nat) : Prop :=
  Row B wr h0 0 v ps ∧ Parts wr ps (fun j => j) (fun _ => 0) ∧ IsHeap wr h1 1 (.slice none 0 0) ∧ Below B w wr
def St2 (B h0 h1 : Nat) (w wr : World) (v0 v1 : Value) (ps0 ps1 : List Nat) : Prop :=
  Row B wr h0 0 v0 ps0 ∧ Parts wr ps0 (fun j => j) (fun _ => 0) ∧ Row B wr h1 1 v1 ps1 ∧ Parts wr ps1 (fun _ => 0) (fun j => j) ∧ Apart v0 v1 ∧ Below B w wr

theorem St1.round {B h0 h1 P : Nat} {w wr wA w' : World} {v : Value} {ps : List Nat} (h : St1 B h0 h1 w wr v ps) (hB : B ≤ w.heap.size) (hh : B ≤ h0) (hne : h0 ≠ h1) (hT : ∀ S, Turned wr wA S) (hP : P = wr.heap.size)
    (hp : Pushed B h0 P 0 v ps (place0 0 ps.length 0) (place1 0 ps.length 0) wA w') : ∃ v', St1 B h0 h1 w w' v' (ps ++ [P]) := by
  obtain ⟨r, q, g, b⟩ := h
  obtain ⟨v', r', p', t, _⟩ := round_push hT hP hp
  refine ⟨v', r', ?_, ?_, ?_⟩
  · exact (q.turned t (q.off r.heap r.own)).snoc (by simpa [place0, place1] using p')
  · refine g.turned t ?_
    rintro (h | h)
    · exact hne h.symm
    · exact heap_not_row r.own g h
  · exact b.trans (turned_below t (Nat.le_trans hB b.size) hh r.own)

theorem St1.next {B h0 h1 : Nat} {w wr : World} {v : Value} {ps : List Nat} (h : St1 B h0 h1 w wr v ps) : St2 B h0 h1 w wr v (.slice none 0 0) ps [] :=
  ⟨h.1, h.2.1, Row.new h.2.2.1, Parts.nil _ _ _, (fun b _ he => by cases he), h.2.2.2⟩

theorem St2.round {B h0 h1 P : Nat} {w wr wA w' : World} {v0 v1 : Value} {ps0 ps1 : List Nat} (h : St2 B h0 h1 w wr v0 v1 ps0 ps1) (hB : B ≤ w.heap.size) (hh : B ≤ h1) (hne : h0 ≠ h1) (hT : ∀ S, Turned wr wA S) (hP : P = wr.heap.size)
    (hp : Pushed B h1 P 1 v1 ps1 (place0 1 ps1.length 0) (place1 1 ps1.length 0) wA w') : ∃ v', St2 B h0 h1 w w' v0 v' ps0 (ps1 ++ [P]) := by
  obtain ⟨r0, q0, r1, q1, a, b⟩ := h
  obtain ⟨v', r', p', t, ho⟩ := round_push hT hP hp
  have hr0 : ∀ c, v0.ownBlock = some c → ¬ (c = h1 ∨ v1.ownBlock = some c) := by
    rintro c hc (h | h)
    · subst h; exact heap_not_row r0.own r1.heap hc
    · exact a c hc h
  refine ⟨v', r0.turned t ?_ hr0, q0.turned t (q0.off r1.heap r1.own), r', ?_, ?_, ?_⟩
  · rintro (h | h)
    · exact hne h
    · exact heap_not_row r1.own r0.heap h
  · exact (q1.turned t (q1.off r1.heap r1.own)).snoc (by simpa [place0, place1] using p')
  · intro c hc he
    rcases ho with ho | ho
    · exact a c hc (ho ▸ he)
    · have := ho c he
      have := (r0.own.lt c hc).2
      omega
  · exact b.trans (turned_below t (Nat.le_trans hB b.size) hh r1.own)

/-- What lies behind the last two pushes. -/
def Both (B h0 h1 P N0 N1 : Nat) (w : World) : Prop := ∃ v0 v1 ps0 ps1, ps0.length = N0 ∧ ps1.length = N1 ∧ Row B w h0 0 v0 (ps0 ++ [P]) ∧ Row B w h1 1 v1 (ps1 ++ [P]) ∧ IsPart w P N0 N1 ∧
  Parts w ps0 (fun j => j) (fun _ => 0) ∧ Parts w ps1 (fun _ => 0) (fun j => j)
theorem Both.turned {B h0 h1 P N0 N1 : Nat} {w w' : World} (h : Both B h0 h1 P N0 N1 w) (t : Turned w w' (fun _ => False)) : Both B h0 h1 P N0 N1 w' := by
  obtain ⟨v0, v1, ps0, ps1, l0, l1, r0, r1, p, q0, q1⟩ := h
  exact ⟨v0, v1, ps0, ps1, l0, l1, r0.turned t (fun h => h) (fun _ _ h => h), r1.turned t (fun h => h) (fun _ _ h => h), p.turned t (fun h => h), q0.turned t (fun _ _ h => h), q1.turned t (fun _ _ h => h)⟩

/-- What the second push needs of the first: the part lies, the other heap lies, the parts lie. -/
theorem push_first {B h0 h1 P : Nat} {wr wA w' : World} {k0 k1 x' y' : Int} {v0 v1 : Value} {ps0 ps1 : List Nat} {X Y X' Y' : Nat → Int}
    (r0 : Row B wr h0 k0 v0 ps0) (q0 : Parts wr ps0 X Y) (r1 : Row B wr h1 k1 v1 ps1) (q1 : Parts wr ps1 X' Y') (a : Apart v0 v1) (hne : h0 ≠ h1) (hT : ∀ S, Turned wr wA S) (hP : P = wr.heap.size)
    (hp : Pushed B h0 P k0 v0 ps0 x' y' wA w') : ∃ v', Row B w' h0 k0 v' (ps0 ++ [P]) ∧ Row B w' h1 k1 v1 ps1 ∧ IsPart w' P x' y' ∧ Parts w' ps0 X Y ∧ Parts w' ps1 X' Y' ∧ Apart v' v1 ∧ Turned wr w' (fun b => b = h0 ∨ v0.ownBlock = some b) ∧
      (∀ j, j < ps0.length → ps0.getD j 0 ≠ P) ∧ (∀ j, j < ps1.length → ps1.getD j 0 ≠ P) := by
  obtain ⟨v', r', p', t, ho⟩ := round_push hT hP hp
  have hr1 : ∀ c, v1.ownBlock = some c → ¬ (c = h0 ∨ v0.ownBlock = some c) := by
    rintro c hc (h | h)
    · subst h; exact heap_not_row r1.own r0.heap hc
    · exact a c h hc
  refine ⟨v', r', r1.turned t ?_ hr1, p', q0.turned t (q0.off r0.heap r0.own), q1.turned t (q1.off r0.heap r0.own), ?_, t, ?_, ?_⟩
  · rintro (h | h)
    · exact hne h.symm
    · exact heap_not_row r0.own r1.heap h
  · intro c hc he
    rcases ho with ho | ho
    · exact a c (ho ▸ hc) he
    · have := ho c hc
      have := (r1.own.lt c he).2
      omega
  · intro j hj e
    have := (q0 j hj).lt
    omega
  · intro j hj e
    have := (q1 j hj).lt
    omega

/-- The second push of one part. -/
theorem push_second {B h0 h1 P : Nat} {w w' : World} {k0 k1 x y x' y' : Int} {v0 v1 : Value} {ps0 ps1 : List Nat} {X Y X' Y' : Nat → Int}
    (r0 : Row B w h0 k0 v0 (ps0 ++ [P])) (q0 : Parts w ps0 X Y) (r1 : Row B w h1 k1 v1 ps1) (q1 : Parts w ps1 X' Y') (a : Apart v0 v1) (hne : h0 ≠ h1) (hPA : IsPart w P x y) (hB : B ≤ P) (hBw : B ≤ w.heap.size) (hB1 : B ≤ h1)
    (n0 : ∀ j, j < ps0.length → ps0.getD j 0 ≠ P) (n1 : ∀ j, j < ps1.length → ps1.getD j 0 ≠ P)
    (hp : Pushed B h1 P k1 v1 ps1 x' y' w w') : ∃ v', Row B w' h0 k0 v0 (ps0 ++ [P]) ∧ Row B w' h1 k1 v' (ps1 ++ [P]) ∧ IsPart w' P x' y' ∧ Parts w' ps0 X Y ∧ Parts w' ps1 X' Y' ∧ Below B w w' := by
  obtain ⟨v', g1, g2, g3, t, ho⟩ := hp
  have off : ∀ {ps : List Nat} {X Y : Nat → Int}, Parts w ps X Y → (∀ j, j < ps.length → ps.getD j 0 ≠ P) → ∀ j, j < ps.length → ¬ (ps.getD j 0 = h1 ∨ ps.getD j 0 = P ∨ v1.ownBlock = some (ps.getD j 0)) := by
    intro ps X Y q n j hj hn
    rcases hn with hn | hn | hn
    · exact part_not_heap (q j hj) r1.heap hn
    · exact n j hj hn
    · exact part_not_row r1.own (q j hj) hn
  refine ⟨v', r0.turned t ?_ ?_, ⟨g1, ?_⟩, g3, q0.turned t (off q0 n0), q1.turned t (off q1 n1), ?_⟩
  · rintro (h | h | h)
    · exact hne h
    · exact part_not_heap hPA r0.heap h.symm
    · exact heap_not_row r1.own r0.heap h
  · rintro c hc (h | h | h)
    · subst h; exact heap_not_row r0.own r1.heap hc
    · subst h; exact part_not_row r0.own hPA hc
    · exact a c hc h
  · rw [List.length_append, List.length_singleton]; exact g2
  · refine t.below hBw ?_
    rintro b (h | h | h)
    · omega
    · omega
    · exact (r1.own.lt b h).1
theorem Apart.symm {v u : Value} (h : Apart v u) : Apart u v := fun b h1 h2 => h b h2 h1

/-! ### READING -/
theorem info71 : (Trym.prog.info? 71).isSome = true := by kernel_rfl
theorem neq_same (w : World) (a : Addr) : (binOp .neq 29 (.pointer (some a)) (.pointer (some a))).run Trym.prog w = .ok (.bool false) w := by
  obtain ⟨j, hj⟩ := Option.isSome_iff_exists.1 info71
  exact Lib.run_neq_ptr_same w a Trym.underlying29 hj
theorem Row.form {B hb P N : Nat} {w : World} {k : Int} {v : Value} {ps : List Nat} (r : Row B w hb k v (ps ++ [P])) (hl : ps.length = N) :
    ∃ g cap, IsHeap w hb k (.slice (some ⟨g, 0, none⟩) (N + 1) cap) ∧ w.cell? ⟨g, N, none⟩ = some (ptr P) ∧ ∀ i, i < N → w.cell? ⟨g, i, none⟩ = some (ptr (ps.getD i 0)) := by
  have ho := r.own
  have hh := r.heap
  rw [List.length_append, List.length_singleton, hl] at ho
  obtain ⟨g, cap, rfl, _⟩ := own_form ho
  refine ⟨g, cap, hh, ?_, fun i hi => ?_⟩
  · rw [ho.cellAt N (by omega)]
    simp [← hl]
  · rw [ho.cellAt i (by omega), List.getElem?_map, List.getElem?_append_left (by omega), List.getElem?_eq_getElem (by omega)]
    simp [List.getD, show i < ps.length by omega]

theorem len0 {B h0 h1 P N0 N1 : Nat} {w : World} (h : Both B h0 h1 P N0 N1 w) : Calls Trym.prog 17 #[.pointer (some ⟨h0, 0, none⟩)] w fun e w' => e = .returned (.int .i64 ((N0 : Int) + 1)) ∧ w' = w := by
  obtain ⟨v0, v1, ps0, ps1, l0, l1, r0, r1, p, q0, q1⟩ := h
  obtain ⟨g, cap, hh, _⟩ := r0.form l0
  simpa using heapLen_any h0 0 _ _ _ w hh
theorem len1 {B h0 h1 P N0 N1 : Nat} {w : World} (h : Both B h0 h1 P N0 N1 w) : Calls Trym.prog 17 #[.pointer (some ⟨h1, 0, none⟩)] w fun e w' => e = .returned (.int .i64 ((N1 : Int) + 1)) ∧ w' = w := by
  obtain ⟨v0, v1, ps0, ps1, l0, l1, r0, r1, p, q0, q1⟩ := h
  obtain ⟨g, cap, hh, _⟩ := r1.form l1
  simpa using heapLen_any h1 1 _ _ _ w hh
theorem last0 {B h0 h1 P N0 N1 : Nat} {w : World} (h : Both B h0 h1 P N0 N1 w) : Calls Trym.prog 18 #[.pointer (some ⟨h0, 0, none⟩), .int .i64 N0] w fun e w' => e = .returned (.pointer (some ⟨P, 0, none⟩)) ∧ w' = w := by
  obtain ⟨v0, v1, ps0, ps1, l0, l1, r0, r1, p, q0, q1⟩ := h
  obtain ⟨g, cap, hh, hc, _⟩ := r0.form l0
  exact heapPart_any h0 N0 g 0 _ cap _ w hh (by omega) hc
theorem last1 {B h0 h1 P N0 N1 : Nat} {w : World} (h : Both B h0 h1 P N0 N1 w) : Calls Trym.prog 18 #[.pointer (some ⟨h1, 0, none⟩), .int .i64 N1] w fun e w' => e = .returned (.pointer (some ⟨P, 0, none⟩)) ∧ w' = w := by
  obtain ⟨v0, v1, ps0, ps1, l0, l1, r0, r1, p, q0, q1⟩ := h
  obtain ⟨g, cap, hh, hc, _⟩ := r1.form l1
  exact heapPart_any h1 N1 g 1 _ cap _ w hh (by omega) hc
theorem part0 {B h0 h1 P N0 N1 i : Nat} {w : World} (h : Both B h0 h1 P N0 N1 w) (hi : i < N0) : Calls Trym.prog 18 #[.pointer (some ⟨h0, 0, none⟩), .int .i64 i] w fun e w' => (∃ b, e = .returned (.pointer (some ⟨b, 0, none⟩)) ∧ IsPart w b i 0) ∧ w' = w := by
  obtain ⟨v0, v1, ps0, ps1, l0, l1, r0, r1, p, q0, q1⟩ := h
  obtain ⟨g, cap, hh, _, hc⟩ := r0.form l0
  refine (heapPart_any h0 i g 0 _ cap _ w hh (by omega) (hc i hi)).mono ?_
  rintro e w' ⟨rfl, rfl⟩
  exact ⟨⟨_, rfl, q0 i (by omega)⟩, rfl⟩
theorem part1 {B h0 h1 P N0 N1 i : Nat} {w : World} (h : Both B h0 h1 P N0 N1 w) (hi : i < N1) : Calls Trym.prog 18 #[.pointer (some ⟨h1, 0, none⟩), .int .i64 i] w fun e w' => (∃ b, e = .returned (.pointer (some ⟨b, 0, none⟩)) ∧ IsPart w b 0 i) ∧ w' = w := by
  obtain ⟨v0, v1, ps0, ps1, l0, l1, r0, r1, p, q0, q1⟩ := h
  obtain ⟨g, cap, hh, _, hc⟩ := r1.form l1
  refine (heapPart_any h1 i g 1 _ cap _ w hh (by omega) (hc i hi)).mono ?_
  rintro e w' ⟨rfl, rfl⟩
  exact ⟨⟨_, rfl, q1 i (by omega)⟩, rfl⟩
theorem Both.part {B h0 h1 P N0 N1 : Nat} {w : World} (h : Both B h0 h1 P N0 N1 w) : IsPart w P N0 N1 := by
  obtain ⟨v0, v1, ps0, ps1, l0, l1, r0, r1, p, q0, q1⟩ := h
  exact p
end Go.Proofs.Qxb6615773aMods
