import Derived.Test.Qxb6615773aModsWalksC
import Derived.Deep.DeepCutAuto
namespace Go.Proofs.Qxb6615773aMods
open Go.ChangeShapes Go.WideShapes Go.ChangeAt Go.RowKit

set_option maxHeartbeats 1600000 in
set_option maxRecDepth 1000000 in
theorem both_walk (N0 N1 : Nat) (df : Bool) (x y : Int) (w : World) (hN0 : N0 ≤ 65536) (hN1 : N1 ≤ 65536) :
    Calls Trym.prog 5 #[.int .i64 N0, .int .i64 N1, .bool df, .int .i64 x, .int .i64 y] w fun e w' => e = .returned (.bool true) ∧ Below w.heap.size w w' := by
  go_enter Trym.func5, Trym.ntmps5
  go_wp2_with fail
  refine (newHeap_any 0 _).mono ?_
  rintro e w1 ⟨rfl, g0, t0⟩
  go_wp2_with fail
  refine (newHeap_any 1 _).mono ?_
  rintro e w2 ⟨rfl, g1, t1⟩
  have hlt := g0.lt
  have st : St1 w.heap.size w.heap.size w1.heap.size w w2 (.slice none 0 0) [] := by
    refine ⟨Row.new (g0.turned (t1 (fun _ => False)) (fun h => h)), Parts.nil _ _ _, g1, ?_⟩
    exact ((t0 (fun _ => False)).below (Nat.le_refl _) (fun _ h => h.elim)).trans ((t1 (fun _ => False)).below (t0 (fun _ => False)).size (fun _ h => h.elim))
  obtain ⟨H1, hH1⟩ : ∃ H1, H1 = w1.heap.size := ⟨_, rfl⟩
  rw [← hH1] at st hlt ⊢
  clear hH1 g0 g1 t0 t1
  go_wp2_with fail
  go_loopw [13] (fun i wr => ∃ v ps, i = .int .i64 (ps.length : Int) ∧ ps.length ≤ N0 ∧ St1 w.heap.size w.heap.size H1 w wr v ps) (fun i _ => N0 - (intOf i).toNat)
  case atStart => exact ⟨_, [], rfl, Nat.zero_le _, st⟩
  case round =>
    obtain ⟨v, ps, rfl, hle, st⟩ := hrel
    by_cases hl : ps.length < N0
    · go_wp2_with fail
      refine (newPart_any 0 0 _).mono ?_
      rintro e wA ⟨rfl, pA, tA⟩
      have rA := st.1.turned (tA (fun _ => False)) (fun h => h) (fun _ _ h => h)
      go_wp2_with fail
      refine (Push_any w.heap.size w.heap.size wr.heap.size 0 (.inl rfl) v ps 0 0 _ rA.heap rA.own pA (by omega) (Nat.le_trans st.2.2.2.size (tA (fun _ => False)).size)).mono ?_
      rintro e wB ⟨rfl, hp⟩
      obtain ⟨v', st'⟩ := st.round (Nat.le_refl _) (Nat.le_refl _) (by omega) tA rfl hp
      clear st rA pA tA hp
      go_wp2
      go_roundw
      case rel => exact ⟨v', _, by simp, by simp; omega, st'⟩
      case measure => simp [intOf]; omega
    · have hl0 : Hid (ps.length = N0) := (show ps.length = N0 by omega)
      have st2 := st.next
      clear st hle
      go_wp2_with fail
      go_loopw [14] (fun i wr => ∃ v1 ps1, i = .int .i64 (ps1.length : Int) ∧ ps1.length ≤ N1 ∧ St2 w.heap.size w.heap.size H1 w wr v v1 ps ps1) (fun i _ => N1 - (intOf i).toNat)
      case atStart => exact ⟨_, [], rfl, Nat.zero_le _, st2⟩
      case round =>
        clear st2
        obtain ⟨v1, ps1, rfl, hle, st⟩ := hrel
        by_cases hl1 : ps1.length < N1
        · go_wp2_with fail
          refine (newPart_any 0 0 _).mono ?_
          rintro e wA ⟨rfl, pA, tA⟩
          have rA := st.2.2.1.turned (tA (fun _ => False)) (fun h => h) (fun _ _ h => h)
          go_wp2_with fail
          refine (Push_any w.heap.size H1 _ 1 (.inr rfl) v1 ps1 0 0 _ rA.heap rA.own pA (by omega) (Nat.le_trans st.2.2.2.2.2.size (tA (fun _ => False)).size)).mono ?_
          rintro e wB ⟨rfl, hp⟩
          obtain ⟨v', st'⟩ := st.round (Nat.le_refl _) (Nat.le_of_lt hlt) (Nat.ne_of_lt hlt) tA rfl hp
          clear st rA pA tA hp
          go_wp2
          go_roundw
          case rel => exact ⟨v', _, by simp, by simp; omega, st'⟩
          case measure => simp [intOf]; omega
        · have hl2 : Hid (ps1.length = N1) := (show ps1.length = N1 by omega)
          clear hle
          go_wp2_with fail
          refine (newPart_any x y _).mono ?_
          rintro e wA ⟨rfl, pA, tA⟩
          go_upto_if 56 with fail
          obtain ⟨r0, q0, r1, q1, ap, bl⟩ := st
          have hBr := bl.size
          have hsA := (tA (fun _ => False)).size
          go_cut [] from 21 (fun wc => Both w.heap.size w.heap.size H1 wr.heap.size N0 N1 wc ∧ Below w.heap.size w wc)
          case first =>
            cases df
            · have rA := r1.turned (tA (fun _ => False)) (fun h => h) (fun _ _ h => h)
              go_wp2_with fail
              refine (Push_any w.heap.size H1 wr.heap.size 1 (.inr rfl) v1 ps1 x y _ rA.heap rA.own pA (by rw [hl2.out]; exact hN1) (by omega)).mono ?_
              rintro e wB ⟨rfl, hp⟩
              obtain ⟨v', r1', r0', p', q1', q0', ap', t', n1, n0⟩ := push_first r1 q1 r0 q0 ap.symm (Nat.ne_of_gt hlt) tA rfl hp
              have bl' := bl.trans (turned_below t' hBr (Nat.le_of_lt hlt) r1.own)
              clear hp rA pA tA
              have hsB := bl'.size
              go_wp2_with fail
              refine (Push_any w.heap.size w.heap.size wr.heap.size 0 (.inl rfl) v ps _ _ _ r0'.heap r0'.own p' (by rw [hl0.out]; exact hN0) hsB).mono ?_
              rintro e wC ⟨rfl, hp⟩
              obtain ⟨v'', s1, s0, s2, s3, s4, bl2⟩ := push_second r1' q1' r0' q0' ap' (Nat.ne_of_gt hlt) p' hBr hsB (Nat.le_refl _) n1 n0 hp
              clear hp
              go_wp2
              go_meet
              case rel => exact ⟨⟨v'', v', ps, ps1, hl0.out, hl2.out, s0, s1, by simpa [place0, place1, hl0.out, hl2.out] using s2, s4, s3⟩, bl'.trans bl2⟩
            · have rA := r0.turned (tA (fun _ => False)) (fun h => h) (fun _ _ h => h)
              go_wp2_with fail
              refine (Push_any w.heap.size w.heap.size wr.heap.size 0 (.inl rfl) v ps x y _ rA.heap rA.own pA (by rw [hl0.out]; exact hN0) (by omega)).mono ?_
              rintro e wB ⟨rfl, hp⟩
              obtain ⟨v', r0', r1', p', q0', q1', ap', t', n0, n1⟩ := push_first r0 q0 r1 q1 ap (Nat.ne_of_lt hlt) tA rfl hp
              have bl' := bl.trans (turned_below t' hBr (Nat.le_refl _) r0.own)
              clear hp rA pA tA
              have hsB := bl'.size
              go_wp2_with fail
              refine (Push_any w.heap.size H1 wr.heap.size 1 (.inr rfl) v1 ps1 _ _ _ r1'.heap r1'.own p' (by rw [hl2.out]; exact hN1) hsB).mono ?_
              rintro e wC ⟨rfl, hp⟩
              obtain ⟨v'', s0, s1, s2, s3, s4, bl2⟩ := push_second r0' q0' r1' q1' ap' (Nat.ne_of_lt hlt) p' hBr hsB (Nat.le_of_lt hlt) n0 n1 hp
              clear hp
              go_wp2
              go_meet
              case rel => exact ⟨⟨v', v'', ps, ps1, hl0.out, hl2.out, s0, s1, by simpa [place0, place1, hl0.out, hl2.out] using s2, s3, s4⟩, bl'.trans bl2⟩
          case rest =>
            obtain ⟨bo, bl2⟩ := hcut
            obtain ⟨P, hP⟩ : ∃ P, P = wr.heap.size := ⟨_, rfl⟩
            rw [← hP] at bo ⊢
            clear hP r0 q0 r1 q1 ap bl pA tA hsA hBr hl0 hl2
            go_wp2_with fail
            refine (len0 bo).mono ?_
            rintro e wc ⟨rfl, rfl⟩
            go_wp2_with fail
            refine (len1 bo).mono ?_
            rintro e wc ⟨rfl, rfl⟩
            have qp := neq_same
            go_wp2_with fail
            refine (last0 bo).mono ?_
            rintro e wc ⟨rfl, rfl⟩
            go_wp2_with fail
            refine (last1 bo).mono ?_
            rintro e wc ⟨rfl, rfl⟩
            go_wp2_with fail
            refine (partAt_any _ _ _ _ bo.part).mono ?_
            rintro e wd ⟨rfl, td⟩
            have bo3 := (bo.turned (td (fun _ => False))).turned (Turned.alloc _ (.cells #[.int .i64 (N0 : Int), .int .i64 (N1 : Int)] 40) (fun _ => False))
            have bl3 := bl2.trans (((td (fun _ => False)).below bl2.size (fun _ h => h.elim)).trans ((Turned.alloc wd (.cells #[.int .i64 (N0 : Int), .int .i64 (N1 : Int)] 40) (fun _ => False)).below (Nat.le_trans bl2.size (td (fun _ => False)).size) (fun _ h => h.elim)))
            clear bo bl2 td qp
            go_wp2_with fail
            go_loopw [17] (fun i wr => ∃ k : Nat, i = .int .i64 (k : Int) ∧ k ≤ N0 ∧ Both w.heap.size w.heap.size H1 P N0 N1 wr ∧ Below w.heap.size w wr) (fun i _ => N0 - (intOf i).toNat)
            case atStart => exact ⟨0, rfl, Nat.zero_le _, bo3, bl3⟩
            case round =>
              clear bo3 bl3
              obtain ⟨k, rfl, hk, bo, bl⟩ := hrel
              by_cases hkl : k < N0
              · go_wp2_with fail
                refine (part0 bo hkl).mono ?_
                rintro e wr ⟨⟨b, rfl, pb⟩, rfl⟩
                go_wp2_with fail
                refine (partAt_any _ _ _ _ pb).mono ?_
                rintro e wd ⟨rfl, td⟩
                have bo3 := (bo.turned (td (fun _ => False))).turned (Turned.alloc _ (.cells #[.int .i64 (k : Int), .int .i64 0] 40) (fun _ => False))
                have bl3 := bl.trans (((td (fun _ => False)).below bl.size (fun _ h => h.elim)).trans ((Turned.alloc wd (.cells #[.int .i64 (k : Int), .int .i64 0] 40) (fun _ => False)).below (Nat.le_trans bl.size (td (fun _ => False)).size) (fun _ h => h.elim)))
                clear bo bl td pb
                go_wp2
                go_roundw
                case rel => exact ⟨k + 1, by go_num, by omega, bo3, bl3⟩
                case measure => simp [intOf]; omega
              · go_wp2_with fail
                go_loopw [19] (fun i wr => ∃ k : Nat, i = .int .i64 (k : Int) ∧ k ≤ N1 ∧ Both w.heap.size w.heap.size H1 P N0 N1 wr ∧ Below w.heap.size w wr) (fun i _ => N1 - (intOf i).toNat)
                case atStart => exact ⟨0, rfl, Nat.zero_le _, bo, bl⟩
                case round =>
                  clear bo bl
                  obtain ⟨k2, rfl, hk2, bo, bl⟩ := hrel
                  by_cases hkl2 : k2 < N1
                  · go_wp2_with fail
                    refine (part1 bo hkl2).mono ?_
                    rintro e wr ⟨⟨b, rfl, pb⟩, rfl⟩
                    go_wp2_with fail
                    refine (partAt_any _ _ _ _ pb).mono ?_
                    rintro e wd ⟨rfl, td⟩
                    have bo3 := (bo.turned (td (fun _ => False))).turned (Turned.alloc _ (.cells #[.int .i64 0, .int .i64 (k2 : Int)] 40) (fun _ => False))
                    have bl3 := bl.trans (((td (fun _ => False)).below bl.size (fun _ h => h.elim)).trans ((Turned.alloc wd (.cells #[.int .i64 0, .int .i64 (k2 : Int)] 40) (fun _ => False)).below (Nat.le_trans bl.size (td (fun _ => False)).size) (fun _ h => h.elim)))
                    clear bo bl td pb
                    go_wp2
                    go_roundw
                    case rel => exact ⟨k2 + 1, by go_num, by omega, bo3, bl3⟩
                    case measure => simp [intOf]; omega
                  · go_wp2
                    go_ret
                    exact ⟨rfl, bl⟩
end Go.Proofs.Qxb6615773aMods
