import Derived.Test.Qxb6615773aModsRows
import Derived.WalkKit
import Derived.ProofKit
import Derived.WalkSpells
namespace Go.Proofs.Qxb6615773aMods
open Go.ChangeShapes Go.WideShapes Go.ChangeAt Go.RowKit

theorem Trym.info29 : (Trym.prog.info? 29).map (fun i => (i.zero, i.size, i.bytes)) = some (some (.pointer none), 1, 8) := by kernel_rfl

theorem assert_part (a : Option Addr) (w : World) : (Instr.typeAssert (.iface 29 (.pointer a)) 20 29 false).run Trym.prog w = .ok (.pointer a) w := by kernel_rfl

/-! ### WHAT LIES WHERE -/
def ptr (b : Nat) : Value := .pointer (some ⟨b, 0, none⟩)
/-- A part lies at block b, its two places x and y. -/
def IsPart (w : World) (b : Nat) (x y : Int) : Prop := ∃ cs : Array Value, w.heap[b]? = some (.cells cs 71 (0, 0)) ∧ cs[29]? = some (.int .i64 x) ∧ cs[30]? = some (.int .i64 y)
/-- A heap lies at block b, of kind k, its parts the slice v. -/
def IsHeap (w : World) (b : Nat) (k : Int) (v : Value) : Prop := w.heap[b]? = some (.cells #[.int .i64 k, v] 49 (0, 0))
/-- From w to w' nothing that was there has turned, but for the blocks in S. -/
structure Turned (w w' : World) (S : Nat → Prop) : Prop where
  os : w'.os = w.os
  tape : w'.tape = w.tape
  output : w'.output = w.output
  size : w.heap.size ≤ w'.heap.size
  block : ∀ k, k < w.heap.size → ¬ S k → w'.heap[k]? = w.heap[k]?

theorem lt_of_heap {w : World} {b : Nat} {o : Obj} (h : w.heap[b]? = some o) : b < w.heap.size := (Array.getElem?_eq_some_iff.1 h).1
theorem Turned.refl (w : World) (S : Nat → Prop) : Turned w w S := ⟨rfl, rfl, rfl, Nat.le_refl _, fun _ _ _ => rfl⟩
theorem Turned.trans {w w' w'' : World} {S T : Nat → Prop} (h : Turned w w' S) (k : Turned w' w'' T) (hT : ∀ b, b < w.heap.size → T b → S b) : Turned w w'' S :=
  ⟨k.os.trans h.os, k.tape.trans h.tape, k.output.trans h.output, Nat.le_trans h.size k.size, fun b hb hS => (k.block b (Nat.lt_of_lt_of_le hb h.size) (fun t => hS (hT b hb t))).trans (h.block b hb hS)⟩
theorem Turned.below {w w' : World} {S : Nat → Prop} {B : Nat} (h : Turned w w' S) (hB : B ≤ w.heap.size) (hS : ∀ b, S b → B ≤ b) : Below B w w' :=
  ⟨h.os, h.tape, h.output, h.size, fun k hk => h.block k (by omega) (fun s => by have := hS k s; omega)⟩
theorem Turned.drew (w : World) (S : Nat → Prop) : Turned w w.drew S := ⟨rfl, rfl, rfl, Nat.le_refl _, fun _ _ _ => rfl⟩
theorem Turned.setCell (w : World) (a : Addr) (u : Value) (S : Nat → Prop) (hS : S a.block) : Turned w (w.setCell a u) S :=
  ⟨rfl, rfl, rfl, by simp [World.setCell], fun k _ hk => Below.heap_setCell _ _ _ _ (fun e => hk (e ▸ hS))⟩
theorem Turned.alloc (w : World) (o : Obj) (S : Nat → Prop) : Turned w (w.alloc o) S :=
  ⟨rfl, rfl, rfl, by simp, fun k hk _ => Below.heap_alloc _ _ _ hk⟩
theorem Turned.grown {w w' : World} {row : Option Nat} (h : w.grownBy w' row) (S : Nat → Prop) (hS : ∀ k, row = some k → S k) : Turned w w' S :=
  ⟨h.os, h.tape, h.output, h.size, fun k hk hn => h.block k hk (fun e => hn (hS k e.symm))⟩

theorem IsPart.turned {w w' : World} {b : Nat} {x y : Int} {S : Nat → Prop} (h : IsPart w b x y) (t : Turned w w' S) (hb : ¬ S b) : IsPart w' b x y := by
  obtain ⟨cs, h1, h2, h3⟩ := h
  exact ⟨cs, (t.block b (lt_of_heap h1) hb).trans h1, h2, h3⟩
theorem IsPart.lt {w : World} {b : Nat} {x y : Int} (h : IsPart w b x y) : b < w.heap.size := by
  obtain ⟨cs, h1, _⟩ := h; exact lt_of_heap h1
theorem IsHeap.turned {w w' : World} {b : Nat} {k : Int} {v : Value} {S : Nat → Prop} (h : IsHeap w b k v) (t : Turned w w' S) (hb : ¬ S b) : IsHeap w' b k v :=
  (t.block b (lt_of_heap h) hb).trans h
theorem IsHeap.lt {w : World} {b : Nat} {k : Int} {v : Value} (h : IsHeap w b k v) : b < w.heap.size := lt_of_heap h
theorem own_turned {w w' : World} {B n : Nat} {v : Value} {xs : List Value} {S : Nat → Prop} (h : w.ownsRow B 29 1 v n xs) (t : Turned w w' S) (hb : ∀ k, v.ownBlock = some k → ¬ S k) : w'.ownsRow B 29 1 v n xs := by
  obtain ⟨h0, h1⟩ := h
  refine ⟨h0, ?_⟩
  rcases h1 with h1 | ⟨g, cap, cur, rfl, r1, r2, r3⟩
  · exact .inl h1
  · exact .inr ⟨g, cap, cur, rfl, r1, (t.block g (lt_of_heap r2) (hb g rfl)).trans r2, r3⟩
/-- A part's block, a heap's block and a row's block are three. -/
theorem part_not_row {w : World} {B n b : Nat} {v : Value} {xs : List Value} {x y : Int} (h : w.ownsRow B 29 1 v n xs) (hp : IsPart w b x y) : v.ownBlock ≠ some b := by
  obtain ⟨cs, h1, _⟩ := hp
  rcases h.2 with ⟨rfl, _⟩ | ⟨g, cap, cur, rfl, r1, r2, r3⟩
  · intro h; cases h
  · intro he
    obtain rfl : g = b := by simpa [Value.ownBlock] using he
    rw [r2] at h1; simp at h1
theorem heap_not_row {w : World} {B n b : Nat} {v u : Value} {xs : List Value} {k : Int} (h : w.ownsRow B 29 1 v n xs) (hp : IsHeap w b k u) : v.ownBlock ≠ some b := by
  unfold IsHeap at hp
  rcases h.2 with ⟨rfl, _⟩ | ⟨g, cap, cur, rfl, r1, r2, r3⟩
  · intro h; cases h
  · intro he
    obtain rfl : g = b := by simpa [Value.ownBlock] using he
    rw [r2] at hp; simp at hp
theorem part_not_heap {w : World} {b c : Nat} {u : Value} {x y k : Int} (h : IsPart w b x y) (hp : IsHeap w c k u) : b ≠ c := by
  rintro rfl
  obtain ⟨cs, h1, _⟩ := h
  unfold IsHeap at hp
  rw [h1] at hp; simp at hp

theorem heap_setCell_at {w : World} {b off : Nat} {cs : Array Value} {t : TypeId} {f : Nat × Nat} (h : w.heap[b]? = some (.cells cs t f)) (v : Value) :
    (w.setCell ⟨b, off, none⟩ v).heap[b]? = some (.cells (cs.setIfInBounds off v) t f) := by
  simp [World.setCell, Array.getElem?_modify, h]

theorem IsPart.cells {w : World} {b : Nat} {x y : Int} (h : IsPart w b x y) : w.cell? ⟨b, 29, none⟩ = some (.int .i64 x) ∧ w.cell? ⟨b, 30, none⟩ = some (.int .i64 y) ∧ ∀ i, w.frozen? ⟨b, i, none⟩ = false := by
  obtain ⟨cs, h1, h2, h3⟩ := h
  refine ⟨by simp [World.cell?, h1, h2], by simp [World.cell?, h1, h3], fun i => by simp [World.frozen?, h1]⟩
theorem IsHeap.cells {w : World} {b : Nat} {k : Int} {v : Value} (h : IsHeap w b k v) : w.cell? ⟨b, 0, none⟩ = some (.int .i64 k) ∧ w.cell? ⟨b, 1, none⟩ = some v ∧ ∀ i, w.frozen? ⟨b, i, none⟩ = false := by
  unfold IsHeap at h
  refine ⟨by simp [World.cell?, h], by simp [World.cell?, h], fun i => by simp [World.frozen?, h]⟩
theorem IsPart.set0 {w : World} {b : Nat} {x y : Int} (h : IsPart w b x y) (z : Int) : IsPart (w.setCell ⟨b, 29, none⟩ (.int .i64 z)) b z y := by
  obtain ⟨cs, h1, h2, h3⟩ := h
  refine ⟨_, heap_setCell_at h1 _, ?_, ?_⟩
  · rw [Array.getElem?_setIfInBounds]; simp [(Array.getElem?_eq_some_iff.1 h2).1]
  · rw [Array.getElem?_setIfInBounds]; simp [h3]
theorem IsPart.set1 {w : World} {b : Nat} {x y : Int} (h : IsPart w b x y) (z : Int) : IsPart (w.setCell ⟨b, 30, none⟩ (.int .i64 z)) b x z := by
  obtain ⟨cs, h1, h2, h3⟩ := h
  refine ⟨_, heap_setCell_at h1 _, ?_, ?_⟩
  · rw [Array.getElem?_setIfInBounds]; simp [h2]
  · rw [Array.getElem?_setIfInBounds]; simp [(Array.getElem?_eq_some_iff.1 h3).1]
theorem IsHeap.set {w : World} {b : Nat} {k : Int} {v : Value} (h : IsHeap w b k v) (u : Value) : IsHeap (w.setCell ⟨b, 1, none⟩ u) b k u := by
  unfold IsHeap at *
  rw [heap_setCell_at h]; simp

/-! ### THE LEAVES -/
set_option maxHeartbeats 400000 in
set_option maxRecDepth 1000000 in
theorem newPart_any (x y : Int) (w : World) :
    Calls Trym.prog 15 #[.int .i64 x, .int .i64 y] w fun e w' => e = .returned (.pointer (some ⟨w.heap.size, 0, none⟩)) ∧ IsPart w' w.heap.size x y ∧ (∀ S, Turned w w' S) := by
  go_enter Trym.func15, Trym.ntmps15
  go_wp2
  go_ret
  exact ⟨rfl, ⟨_, (MapKept.heap_alloc w _).1, by simp, by simp⟩, fun S => Turned.alloc w _ S⟩

set_option maxHeartbeats 400000 in
theorem newHeap_any (k : Int) (w : World) :
    Calls Trym.prog 14 #[.int .i64 k] w fun e w' => e = .returned (.pointer (some ⟨w.heap.size, 0, none⟩)) ∧ IsHeap w' w.heap.size k (.slice none 0 0) ∧ (∀ S, Turned w w' S) := by
  go_enter Trym.func14, Trym.ntmps14
  go_wp2
  go_ret
  exact ⟨rfl, (MapKept.heap_alloc w _).1, fun S => Turned.alloc w _ S⟩

set_option maxHeartbeats 400000 in
theorem heapLen_any (b : Nat) (k : Int) (ao : Option Addr) (n cap : Nat) (w : World) (h : IsHeap w b k (.slice ao n cap)) :
    Calls Trym.prog 17 #[.pointer (some ⟨b, 0, none⟩)] w fun e w' => e = .returned (.int .i64 n) ∧ w' = w := by
  have c1 := h.cells.2.1
  go_enter Trym.func17, Trym.ntmps17
  go_wp2
  go_ret
  exact ⟨rfl, rfl⟩

set_option maxHeartbeats 400000 in
theorem heapPart_any (b i g : Nat) (k : Int) (n cap : Nat) (q : Value) (w : World) (h : IsHeap w b k (.slice (some ⟨g, 0, none⟩) n cap)) (hi : i < n) (hc : w.cell? ⟨g, i, none⟩ = some q) :
    Calls Trym.prog 18 #[.pointer (some ⟨b, 0, none⟩), .int .i64 i] w fun e w' => e = .returned q ∧ w' = w := by
  have c1 := h.cells.2.1
  go_enter Trym.func18, Trym.ntmps18
  go_wp2
  go_ret
  exact ⟨rfl, rfl⟩

set_option maxHeartbeats 400000 in
theorem partAt_any (b : Nat) (x y : Int) (w : World) (h : IsPart w b x y) :
    Calls Trym.prog 19 #[.pointer (some ⟨b, 0, none⟩)] w fun e w' => e = .returned (.agg #[.int .i64 x, .int .i64 y]) ∧ (∀ S, Turned w w' S) := by
  obtain ⟨c0, c1, hf⟩ := h.cells
  have hlt := h.lt
  go_enter Trym.func19, Trym.ntmps19
  go_wp2
  exact bodyPost_ret (v := .agg #[.int .i64 x, .int .i64 y]) (by simp [results, Trym.results19, go_sem]) rfl ⟨rfl, fun S => Turned.alloc w _ S⟩
end Go.Proofs.Qxb6615773aMods
