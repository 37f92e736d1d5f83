import Derived.Test.Qxb6615773aModsWalksD
import Derived.Deep.RegionWith
import Derived.Deep.QuietTactic
import Derived.BigQuiet
namespace Go.Proofs.Qxb6615773aMods
open Go.ChangeShapes Go.WideShapes Go.ChangeAt Go.RowKit
set_option linter.unusedVariables false

/-- A slice of pairs: element i holds X i and Y i. -/
def IsPairs (w : World) (ao : Option Addr) (n cap : Nat) (X Y : Nat → Int) : Prop :=
  n ≤ cap ∧ cap ≤ maxLen ∧ (ao = none → cap = 0) ∧ ∀ ad, ao = some ad → ∀ i, i < n → w.cell? (ad.add (i * 2)) = some (.int .i64 (X i)) ∧ w.cell? (ad.add (i * 2 + 1)) = some (.int .i64 (Y i))
theorem IsPairs.below {w w' : World} {ao : Option Addr} {n cap : Nat} {X Y : Nat → Int} (h : IsPairs w ao n cap X Y) (hb : Below w.heap.size w w') : IsPairs w' ao n cap X Y := by
  obtain ⟨h1, h2, h3, h4⟩ := h
  refine ⟨h1, h2, h3, fun ad had i hi => ?_⟩
  obtain ⟨c0, c1⟩ := h4 ad had i hi
  exact ⟨(hb.cell (World.block_lt_of_cell? _ _ c0)).trans c0, (hb.cell (World.block_lt_of_cell? _ _ c1)).trans c1⟩
theorem IsPairs.at {w : World} {ao : Option Addr} {n cap : Nat} {X Y : Nat → Int} (h : IsPairs w ao n cap X Y) (hn : 0 < n) :
    ∃ b off, ao = some ⟨b, off, none⟩ ∧ ∀ i, i < n → w.cell? ⟨b, off + i * 2, none⟩ = some (.int .i64 (X i)) ∧ w.cell? ⟨b, off + i * 2 + 1, none⟩ = some (.int .i64 (Y i)) := by
  obtain ⟨h1, h2, h3, h4⟩ := h
  cases ao with
  | none => have := h3 rfl; omega
  | some ad =>
    obtain ⟨b, off, spot⟩ := ad
    have h0 := (h4 _ rfl 0 hn).1
    have hs : spot = none := by simpa [Addr.add] using World.cell?_spot h0
    subst hs
    refine ⟨b, off, rfl, fun i hi => ?_⟩
    rw [Nat.add_assoc, ← add_plain, ← add_plain]; exact h4 _ rfl i hi

set_option maxHeartbeats 400000 in
theorem zzBytes_any (k : Int) (ao : Option Addr) (n cap : Nat) (w : World) (hm : n ≤ 9223372036854775807) :
    Calls Trym.prog 13 #[.int .i64 k, .slice ao n cap] w fun e w' => (∃ b : Bool, e = .returned (.bool b)) ∧ w' = w := by
  go_enter Trym.func13, Trym.ntmps13
  go_wp2
  all_goals (go_ret; exact ⟨⟨_, rfl⟩, rfl⟩)

/-- What the first loop carries. -/
structure StA (B hb g : Nat) (k : Int) (w wr : World) (u : Value) (ps : List Nat) (n : Nat) (X Y : Nat → Int) : Prop where
  row : Row (g + 1) wr hb k u ps
  parts : Parts wr ps (fun j => place0 k j (X j)) (fun j => place1 k j (Y j))
  own : wr.ownsRow g 29 1 (.slice (some ⟨g, 0, none⟩) ps.length n) ps.length (ps.map ptr)
  below : Below B w wr
theorem StA.turned {B hb g n : Nat} {k : Int} {w wr w' : World} {u : Value} {ps : List Nat} {X Y : Nat → Int} (h : StA B hb g k w wr u ps n X Y) (hB : B ≤ w.heap.size) (t : Turned wr w' (fun _ => False)) : StA B hb g k w w' u ps n X Y :=
  ⟨h.row.turned t (fun h => h) (fun _ _ h => h), h.parts.turned t (fun _ _ h => h), own_turned h.own t (fun _ _ h => h), h.below.trans (t.below (Nat.le_trans hB h.below.size) (fun _ h => h.elim))⟩
theorem StA.round {B hb g n P : Nat} {k : Int} {w wr wA wB wC : World} {u : Value} {ps : List Nat} {X Y : Nat → Int} {o : Obj} (h : StA B hb g k w wr u ps n X Y) (hB : B ≤ w.heap.size) (hBh : B ≤ hb) (hBg : B ≤ g)
    (hT : ∀ S, Turned wr wA S) (hP : P = wr.heap.size) (hp : Pushed (g + 1) hb P k u ps (place0 k ps.length (X ps.length)) (place1 k ps.length (Y ps.length)) wA wB)
    (hown : wC.ownsRow g 29 1 (.slice (some ⟨g, 0, none⟩) (ps.length + 1) n) (ps.length + 1) (ps.map ptr ++ [ptr P])) (hg : (wB.alloc o).grownBy wC (some g)) :
    ∃ u', StA B hb g k w wC u' (ps ++ [P]) n X Y := by
  obtain ⟨r, q, ow, b⟩ := h
  obtain ⟨u', r', p', t, _⟩ := round_push hT hP hp
  have qB := (q.turned t (q.off r.heap r.own)).snoc p'
  have owB := own_turned ow t (by
    rintro c hc (h | h)
    · subst h; exact heap_not_row ow r.heap hc
    · have h1 : g = c := by simpa [Value.ownBlock] using hc
      have h2 := (r.own.lt c h).1
      omega)
  have bB := b.trans (t.below (Nat.le_trans hB b.size) (by
    rintro c (h | h)
    · omega
    · have := (r.own.lt c h).1; omega))
  have t2 : Turned wB wC (fun c => c = g) := (Turned.alloc wB o (fun c => c = g)).trans (Turned.grown hg (fun c => c = g) (fun c h => by cases h; rfl)) (fun _ _ h => h)
  refine ⟨u', r'.turned t2 ?_ ?_, qB.turned t2 ?_, ?_, ?_⟩
  · rintro rfl; exact heap_not_row owB r'.heap rfl
  · rintro c hc rfl
    have := (r'.own.lt _ hc).1
    omega
  · rintro j hj h
    exact part_not_row owB (qB j hj) (by rw [h]; rfl)
  · rw [List.length_append, List.length_singleton, List.map_append]; exact hown
  · exact bB.trans (t2.below (Nat.le_trans hB bB.size) (by rintro c rfl; exact hBg))

theorem StA.own_push {B hb g n P : Nat} {k x y : Int} {w wr wA wB : World} {u : Value} {ps : List Nat} {X Y : Nat → Int} (h : StA B hb g k w wr u ps n X Y)
    (hT : ∀ S, Turned wr wA S) (hP : P = wr.heap.size) (hp : Pushed (g + 1) hb P k u ps x y wA wB) : wB.ownsRow g 29 1 (.slice (some ⟨g, 0, none⟩) ps.length n) ps.length (ps.map ptr) := by
  obtain ⟨r, q, ow, b⟩ := h
  obtain ⟨u', r', p', t, _⟩ := round_push hT hP hp
  refine own_turned ow t ?_
  rintro c hc (h | h)
  · subst h; exact heap_not_row ow r.heap hc
  · have h1 : g = c := by simpa [Value.ownBlock] using hc
    have h2 := (r.own.lt c h).1
    omega

theorem StA.len {B hb g n : Nat} {k : Int} {w wr : World} {u : Value} {ps : List Nat} {X Y : Nat → Int} (h : StA B hb g k w wr u ps n X Y) :
    Calls Trym.prog 17 #[.pointer (some ⟨hb, 0, none⟩)] wr fun e w' => e = .returned (.int .i64 (ps.length : Int)) ∧ w' = wr := by
  obtain ⟨⟨hh, ho⟩, _, _, _⟩ := h
  rcases ho.2 with ⟨rfl, h0⟩ | ⟨c, cap, cur, rfl, _⟩
  · rw [h0]; exact heapLen_any hb k none 0 0 wr hh
  · exact heapLen_any hb k _ _ _ wr hh
theorem StA.at {B hb g n i : Nat} {k : Int} {w wr : World} {u : Value} {ps : List Nat} {X Y : Nat → Int} (h : StA B hb g k w wr u ps n X Y) (hi : i < ps.length) :
    ∃ b, (∀ w', (∀ a, w'.cell? a = wr.cell? a) → w'.heap = wr.heap → Calls Trym.prog 18 #[.pointer (some ⟨hb, 0, none⟩), .int .i64 i] w' fun e w'' => e = .returned (.pointer (some ⟨b, 0, none⟩)) ∧ w'' = w') ∧
      wr.cell? ⟨g, i, none⟩ = some (.pointer (some ⟨b, 0, none⟩)) ∧ IsPart wr b (place0 k i (X i)) (place1 k i (Y i)) := by
  obtain ⟨⟨hh, ho⟩, q, ow, _⟩ := h
  have e : (ps.map ptr)[i]? = some (ptr (ps.getD i 0)) := by
    rw [List.getElem?_map, List.getElem?_eq_getElem hi]; simp [List.getD, hi]
  refine ⟨ps.getD i 0, fun w' hc hw => ?_, ?_, q i hi⟩
  · obtain ⟨m, hm⟩ : ∃ m, ps.length = m + 1 := ⟨ps.length - 1, by omega⟩
    rw [hm] at ho
    obtain ⟨c, cap, rfl, _⟩ := own_form ho
    have hcell := ho.cellAt i (by omega)
    rw [e] at hcell
    refine heapPart_any hb i c k (m + 1) cap (ptr (ps.getD i 0)) w' ?_ (by omega) (by rw [hc]; exact hcell)
    unfold IsHeap at hh ⊢
    rw [hw]; exact hh
  · rw [ow.cellAt i (by omega), e]; rfl

set_option maxHeartbeats 3200000 in
set_option maxRecDepth 1000000 in
theorem records_walk0 (ao : Option Addr) (n cap : Nat) (X Y : Nat → Int) (w : World) (h : IsPairs w ao n cap X Y) :
    Calls Trym.prog 4 #[.int .i64 0, .slice ao n cap] w fun e w' => e = .returned (.bool true) ∧ Below w.heap.size w w' := by
  obtain ⟨i0, hi, hz0, hz1, hz2⟩ := info_parts Trym.info29
  have hcn := h.1
  have hcm := h.2.1
  unfold maxLen at hcm
  go_enter Trym.func4, Trym.ntmps4
  go_wp2_with fail
  refine (zzBytes_any _ _ _ _ _ (by omega)).mono ?_
  rintro e w ⟨⟨b, rfl⟩, rfl⟩
  cases b
  · go_wp2
    go_ret
    exact ⟨rfl, Below.refl _ _⟩
  by_cases hn : 65536 < n
  · go_wp2
    go_ret
    exact ⟨rfl, Below.refl _ _⟩
  have hn : n ≤ 65536 := by omega
  go_wp2_with fail
  refine (newHeap_any 0 _).mono ?_
  rintro e w1 ⟨rfl, g0, t0⟩
  have hlt := g0.lt
  have hb1 := (t0 (fun _ => False)).below (Nat.le_refl _) (fun _ h => h.elim)
  go_upto_region 9 with (at_make; refine wpList_make_own _ rfl _ _ 28 rfl w1.heap.size 29 i0 (.pointer none) 1 Trym.underlying28 hi hz0 hz1 .i64 .i64 (n : Int) n rfl rfl rfl (by rw [hz2]; omega) (by unfold maxLen; omega) (Nat.le_refl _) ?_; intro wM hownM hgrowM)
  have tM := Turned.grown hgrowM (fun _ => False) (fun k h => by cases h)
  have st : StA w.heap.size w.heap.size w1.heap.size 0 w wM (.slice none 0 0) [] n X Y :=
    ⟨Row.new (g0.turned tM (fun h => h)), Parts.nil _ _ _, hownM, hb1.trans (tM.below (Nat.le_of_lt hlt) (fun _ h => h.elim))⟩
  have hgl : w1.heap.size < wM.heap.size := (hownM.lt w1.heap.size rfl).2
  obtain ⟨G, hG⟩ : ∃ G, G = w1.heap.size := ⟨_, rfl⟩
  rw [← hG] at st hlt hgl ⊢
  clear hG g0 t0 hb1 hownM hgrowM tM
  go_wp2_with fail
  go_loopw [6, 7] (fun v i wr => ∃ u ps, i = .int .i64 (ps.length : Int) ∧ ps.length ≤ n ∧ v = .slice (some ⟨G, 0, none⟩) ps.length n ∧ StA w.heap.size w.heap.size G 0 w wr u ps n X Y) (fun _ i _ => n - (intOf i).toNat)
  case atStart => exact ⟨_, [], rfl, Nat.zero_le _, rfl, st⟩
  case round =>
    clear st
    obtain ⟨u, ps, rfl, hle, rfl, st⟩ := hrel
    by_cases hl : ps.length < n
    · have hpr := h.below st.below
      obtain ⟨b, off, rfl, hcell⟩ := hpr.at (by omega)
      obtain ⟨c0, c1⟩ := hcell ps.length hl
      clear hcell hpr
      have hBs := st.below.size
      have hGs := (st.own.lt G rfl).2
      go_wp2_with fail
      go_region_with (go_at_call 15; refine (newPart_any _ _ _).mono ?_; rintro e wA ⟨rfl, pA, tA⟩)
      all_goals
        have tA : ∀ S, Turned wr wA S := fun S => (Turned.drew wr S).trans (tA S) (fun _ _ h => h)
        have rA := st.row.turned (tA (fun _ => False)) (fun h => h) (fun _ _ h => h)
        have hsA := (tA (fun _ => False)).size
        have pA : IsPart wA wr.heap.size (X ps.length) (Y ps.length) := pA
        go_wp2_with fail
        refine (Push_any (G + 1) w.heap.size wr.heap.size 0 (.inl rfl) u ps _ _ _ rA.heap rA.own pA (by omega) (by omega)).mono ?_
        rintro e wB ⟨rfl, hp⟩
        have owB := st.own_push tA rfl hp
        clear rA pA c0 c1
        go_wp2_with (at_builtin; refine wpList_append_fits _ rfl (.tmp 50) (.tmp 52) 28 rfl G 29 i0 1 Trym.underlying28 hi hz1 G ps.length n (ps.map ptr) rfl (owB.alloc _) ⟨wB.heap.size, 0, none⟩ 1 1 [ptr wr.heap.size] rfl rfl (cell_one_new _ _ _) (ptr_oneCell _) (by omega) ?_; intro wC hownC hgrowC)
        obtain ⟨u', st'⟩ := st.round (Nat.le_refl _) (Nat.le_refl _) (Nat.le_of_lt hlt) tA rfl hp hownC hgrowC
        clear st tA hp owB hownC hgrowC
        go_roundw
        case rel => exact ⟨u', _, by simp, by simp; omega, by simp, st'⟩
        case measure => simp [intOf]; omega
    · have hne : ((ps.length : Int) != (n : Int)) = false := by
        have e : ps.length = n := by omega
        rw [e]; simp
      go_wp2_with fail
      refine st.len.mono ?_
      rintro e wr ⟨rfl, rfl⟩
      have qp := neq_same
      go_wp2_with fail
      go_loopw [10] (fun i wr => ∃ k : Nat, i = .int .i64 (k : Int) ∧ k ≤ n ∧ StA w.heap.size w.heap.size G 0 w wr u ps n X Y) (fun i _ => n - (intOf i).toNat)
      case atStart => exact ⟨0, rfl, Nat.zero_le _, st⟩
      case round =>
        clear st
        obtain ⟨k, rfl, hk, st⟩ := hrel
        by_cases hkl : k < n
        · obtain ⟨b2, hcall, hcg, hpt0⟩ := st.at (i := k) (by omega)
          have hpt : IsPart wr b2 (k : Int) (Y k) := by simpa [place0, place1] using hpt0
          have hkp : k < ps.length := by omega
          clear hpt0
          go_wp2
          go_quiet ((go_at_call 18; exact Calls.quiet_of_same (hcall _ (fun _ => rfl) rfl)))
          go_wp2_with fail
          refine (partAt_any b2 (k : Int) (Y k) _ (by exact hpt)).mono ?_
          rintro e wd ⟨rfl, td⟩
          have st2 := st.turned (Nat.le_refl _) (Turned.trans (S := fun _ => False) (w' := wr.drewN nq) ⟨rfl, rfl, rfl, Nat.le_refl _, fun _ _ _ => rfl⟩ (td (fun _ => False)) (fun _ _ h => h))
          clear st hcall hcg hpt td
          have hpr := h.below st2.below
          obtain ⟨b, off, hab, hcell⟩ := hpr.at (by omega)
          obtain ⟨c0, c1⟩ := hcell k hkl
          have hbl := World.block_lt_of_cell? _ _ c0
          subst hab
          clear hcell hpr
          have st3 := st2.turned (Nat.le_refl _) (Turned.alloc wd (.cells #[.int .i64 (k : Int), .int .i64 (Y k)] 40) (fun _ => False))
          clear st2
          go_wp2
          go_quiet (fail)
          go_wp2
          go_roundw
          case rel =>
            have st4 := fun q => st3.turned (w' := (wd.alloc (.cells #[.int .i64 (k : Int), .int .i64 (Y k)] 40)).drewN q) (Nat.le_refl _) ⟨rfl, rfl, rfl, Nat.le_refl _, fun _ _ _ => rfl⟩
            first | exact ⟨k + 1, by go_num, by omega, st4 _⟩ | ((repeat apply Exists.intro); refine ⟨?_, rfl⟩; exact ⟨k + 1, by go_num, by omega, st4 _⟩)
          case measure => simp [intOf]; omega
        · go_wp2
          go_ret
          exact ⟨rfl, st.below⟩

set_option maxHeartbeats 3200000 in
set_option maxRecDepth 1000000 in
theorem records_walk1 (ao : Option Addr) (n cap : Nat) (X Y : Nat → Int) (w : World) (h : IsPairs w ao n cap X Y) :
    Calls Trym.prog 4 #[.int .i64 1, .slice ao n cap] w fun e w' => e = .returned (.bool true) ∧ Below w.heap.size w w' := by
  obtain ⟨i0, hi, hz0, hz1, hz2⟩ := info_parts Trym.info29
  have hcn := h.1
  have hcm := h.2.1
  unfold maxLen at hcm
  go_enter Trym.func4, Trym.ntmps4
  go_wp2_with fail
  refine (zzBytes_any _ _ _ _ _ (by omega)).mono ?_
  rintro e w ⟨⟨b, rfl⟩, rfl⟩
  cases b
  · go_wp2
    go_ret
    exact ⟨rfl, Below.refl _ _⟩
  by_cases hn : 65536 < n
  · go_wp2
    go_ret
    exact ⟨rfl, Below.refl _ _⟩
  have hn : n ≤ 65536 := by omega
  go_wp2_with fail
  refine (newHeap_any 1 _).mono ?_
  rintro e w1 ⟨rfl, g0, t0⟩
  have hlt := g0.lt
  have hb1 := (t0 (fun _ => False)).below (Nat.le_refl _) (fun _ h => h.elim)
  go_upto_region 9 with (at_make; refine wpList_make_own _ rfl _ _ 28 rfl w1.heap.size 29 i0 (.pointer none) 1 Trym.underlying28 hi hz0 hz1 .i64 .i64 (n : Int) n rfl rfl rfl (by rw [hz2]; omega) (by unfold maxLen; omega) (Nat.le_refl _) ?_; intro wM hownM hgrowM)
  have tM := Turned.grown hgrowM (fun _ => False) (fun k h => by cases h)
  have st : StA w.heap.size w.heap.size w1.heap.size 1 w wM (.slice none 0 0) [] n X Y :=
    ⟨Row.new (g0.turned tM (fun h => h)), Parts.nil _ _ _, hownM, hb1.trans (tM.below (Nat.le_of_lt hlt) (fun _ h => h.elim))⟩
  have hgl : w1.heap.size < wM.heap.size := (hownM.lt w1.heap.size rfl).2
  obtain ⟨G, hG⟩ : ∃ G, G = w1.heap.size := ⟨_, rfl⟩
  rw [← hG] at st hlt hgl ⊢
  clear hG g0 t0 hb1 hownM hgrowM tM
  go_wp2_with fail
  go_loopw [6, 7] (fun v i wr => ∃ u ps, i = .int .i64 (ps.length : Int) ∧ ps.length ≤ n ∧ v = .slice (some ⟨G, 0, none⟩) ps.length n ∧ StA w.heap.size w.heap.size G 1 w wr u ps n X Y) (fun _ i _ => n - (intOf i).toNat)
  case atStart => exact ⟨_, [], rfl, Nat.zero_le _, rfl, st⟩
  case round =>
    clear st
    obtain ⟨u, ps, rfl, hle, rfl, st⟩ := hrel
    by_cases hl : ps.length < n
    · have hpr := h.below st.below
      obtain ⟨b, off, rfl, hcell⟩ := hpr.at (by omega)
      obtain ⟨c0, c1⟩ := hcell ps.length hl
      clear hcell hpr
      have hBs := st.below.size
      have hGs := (st.own.lt G rfl).2
      go_wp2_with fail
      go_region_with (go_at_call 15; refine (newPart_any _ _ _).mono ?_; rintro e wA ⟨rfl, pA, tA⟩)
      all_goals
        have tA : ∀ S, Turned wr wA S := fun S => (Turned.drew wr S).trans (tA S) (fun _ _ h => h)
        have rA := st.row.turned (tA (fun _ => False)) (fun h => h) (fun _ _ h => h)
        have hsA := (tA (fun _ => False)).size
        have pA : IsPart wA wr.heap.size (X ps.length) (Y ps.length) := pA
        go_wp2_with fail
        refine (Push_any (G + 1) w.heap.size wr.heap.size 1 (.inr rfl) u ps _ _ _ rA.heap rA.own pA (by omega) (by omega)).mono ?_
        rintro e wB ⟨rfl, hp⟩
        have owB := st.own_push tA rfl hp
        clear rA pA c0 c1
        go_wp2_with (at_builtin; refine wpList_append_fits _ rfl (.tmp 50) (.tmp 52) 28 rfl G 29 i0 1 Trym.underlying28 hi hz1 G ps.length n (ps.map ptr) rfl (owB.alloc _) ⟨wB.heap.size, 0, none⟩ 1 1 [ptr wr.heap.size] rfl rfl (cell_one_new _ _ _) (ptr_oneCell _) (by omega) ?_; intro wC hownC hgrowC)
        obtain ⟨u', st'⟩ := st.round (Nat.le_refl _) (Nat.le_refl _) (Nat.le_of_lt hlt) tA rfl hp hownC hgrowC
        clear st tA hp owB hownC hgrowC
        go_roundw
        case rel => exact ⟨u', _, by simp, by simp; omega, by simp, st'⟩
        case measure => simp [intOf]; omega
    · have hne : ((ps.length : Int) != (n : Int)) = false := by
        have e : ps.length = n := by omega
        rw [e]; simp
      go_wp2_with fail
      refine st.len.mono ?_
      rintro e wr ⟨rfl, rfl⟩
      have qp := neq_same
      go_wp2_with fail
      go_loopw [10] (fun i wr => ∃ k : Nat, i = .int .i64 (k : Int) ∧ k ≤ n ∧ StA w.heap.size w.heap.size G 1 w wr u ps n X Y) (fun i _ => n - (intOf i).toNat)
      case atStart => exact ⟨0, rfl, Nat.zero_le _, st⟩
      case round =>
        clear st
        obtain ⟨k, rfl, hk, st⟩ := hrel
        by_cases hkl : k < n
        · obtain ⟨b2, hcall, hcg, hpt0⟩ := st.at (i := k) (by omega)
          have hpt : IsPart wr b2 (X k) (k : Int) := by simpa [place0, place1] using hpt0
          have hkp : k < ps.length := by omega
          clear hpt0
          go_wp2
          go_quiet ((go_at_call 18; exact Calls.quiet_of_same (hcall _ (fun _ => rfl) rfl)))
          go_wp2_with fail
          refine (partAt_any b2 (X k) (k : Int) _ (by exact hpt)).mono ?_
          rintro e wd ⟨rfl, td⟩
          have st2 := st.turned (Nat.le_refl _) (Turned.trans (S := fun _ => False) (w' := wr.drewN nq) ⟨rfl, rfl, rfl, Nat.le_refl _, fun _ _ _ => rfl⟩ (td (fun _ => False)) (fun _ _ h => h))
          clear st hcall hcg hpt td
          have hpr := h.below st2.below
          obtain ⟨b, off, hab, hcell⟩ := hpr.at (by omega)
          obtain ⟨c0, c1⟩ := hcell k hkl
          have hbl := World.block_lt_of_cell? _ _ c0
          subst hab
          clear hcell hpr
          have st3 := st2.turned (Nat.le_refl _) (Turned.alloc wd (.cells #[.int .i64 (X k), .int .i64 (k : Int)] 40) (fun _ => False))
          clear st2
          go_wp2
          go_quiet (fail)
          go_wp2
          go_roundw
          case rel =>
            have st4 := fun q => st3.turned (w' := (wd.alloc (.cells #[.int .i64 (X k), .int .i64 (k : Int)] 40)).drewN q) (Nat.le_refl _) ⟨rfl, rfl, rfl, Nat.le_refl _, fun _ _ _ => rfl⟩
            first | exact ⟨k + 1, by go_num, by omega, st4 _⟩ | ((repeat apply Exists.intro); refine ⟨?_, rfl⟩; exact ⟨k + 1, by go_num, by omega, st4 _⟩)
          case measure => simp [intOf]; omega
        · go_wp2
          go_ret
          exact ⟨rfl, st.below⟩
end Go.Proofs.Qxb6615773aMods
