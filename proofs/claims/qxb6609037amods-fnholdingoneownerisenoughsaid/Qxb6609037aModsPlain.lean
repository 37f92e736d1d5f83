import Derived.Lib.Strings
namespace Go.Proofs.Qxb6609037aMods

/-! ### PLAIN FUNCTIONS: no Go in sight -/
def eqs (a b : ByteArray) : Bool := a.toList == b.toList
theorem eqs_iff (a b : ByteArray) : eqs a b = true ↔ a = b := by
  unfold eqs
  rw [beq_iff_eq, Lib.toList_data, Lib.toList_data]
  constructor
  · intro h
    exact ByteArray.ext (Array.toList_inj.1 h)
  · rintro rfl; rfl
theorem eqs_self (a : ByteArray) : eqs a a = true := (eqs_iff a a).2 rfl
theorem eqs_false (a b : ByteArray) : eqs a b = false ↔ a ≠ b := by
  rw [← Bool.not_eq_true, eqs_iff]

def amongB (o : ByteArray) (xs : List ByteArray) : Bool := xs.any (eqs o)
def hits (owners roles : List ByteArray) : Nat := (owners.filter fun o => amongB o roles).length
def insideB (owners : List ByteArray) (every : Bool) (roles : List ByteArray) : Bool :=
  if every then decide (0 < hits owners roles) && decide (hits owners roles = owners.length) else decide (0 < hits owners roles)
def holdB (roles owners : List ByteArray) (every : Bool) : List ByteArray := roles.filter fun r => insideB owners every [r]

theorem take_snoc (xs : List ByteArray) (k : Nat) (h : k < xs.length) : xs.take (k + 1) = xs.take k ++ [xs.getD k ByteArray.empty] := by
  rw [List.take_succ_eq_append_getElem h]; simp [List.getD, h]
theorem amongB_step (o : ByteArray) (xs : List ByteArray) (k : Nat) (h : k < xs.length) : amongB o (xs.take (k + 1)) = (amongB o (xs.take k) || eqs o (xs.getD k ByteArray.empty)) := by
  rw [take_snoc xs k h]; simp [amongB]
theorem amongB_hit (o : ByteArray) (xs : List ByteArray) (k : Nat) (h : k < xs.length) (he : eqs o (xs.getD k ByteArray.empty) = true) : amongB o xs = true := by
  unfold amongB
  rw [List.any_eq_true]
  refine ⟨xs.getD k ByteArray.empty, ?_, he⟩
  simp [List.getD, h]
theorem hits_step (owners roles : List ByteArray) (k : Nat) (h : k < owners.length) :
    hits (owners.take (k + 1)) roles = hits (owners.take k) roles + if amongB (owners.getD k ByteArray.empty) roles then 1 else 0 := by
  unfold hits
  rw [take_snoc owners k h, List.filter_append]
  generalize owners.getD k ByteArray.empty = s
  by_cases hb : amongB s roles = true <;> simp [hb]
theorem hits_le (owners roles : List ByteArray) (k : Nat) : hits (owners.take k) roles ≤ k := by
  unfold hits
  refine Nat.le_trans (List.length_filter_le _ _) ?_
  simp; omega
theorem holdB_step (roles owners : List ByteArray) (every : Bool) (k : Nat) (h : k < roles.length) :
    holdB (roles.take (k + 1)) owners every = holdB (roles.take k) owners every ++ if insideB owners every [roles.getD k ByteArray.empty] then [roles.getD k ByteArray.empty] else [] := by
  unfold holdB
  rw [take_snoc roles k h, List.filter_append]
  generalize roles.getD k ByteArray.empty = s
  by_cases hb : insideB owners every [s] = true <;> simp [hb]
theorem holdB_le (roles owners : List ByteArray) (every : Bool) (k : Nat) : (holdB (roles.take k) owners every).length ≤ k := by
  unfold holdB
  refine Nat.le_trans (List.length_filter_le _ _) ?_
  simp; omega

/-! ### THE LAWS, PLAIN -/
theorem hits_one (owners : List ByteArray) (r : ByteArray) : hits owners [r] = (owners.filter fun o => eqs o r).length := by
  simp [hits, amongB]
theorem inside_any_iff (owners : List ByteArray) (r : ByteArray) : insideB owners false [r] = true ↔ r ∈ owners := by
  simp only [insideB, hits_one]
  simp only [Bool.false_eq_true, if_false, decide_eq_true_eq, List.length_filter_pos_iff]
  constructor
  · rintro ⟨x, hx, he⟩; rw [eqs_iff] at he; exact he ▸ hx
  · intro h; exact ⟨r, h, eqs_self r⟩
theorem inside_all_iff (owners : List ByteArray) (r : ByteArray) : insideB owners true [r] = true ↔ owners ≠ [] ∧ ∀ o ∈ owners, o = r := by
  simp only [insideB, hits_one]
  simp only [if_true, Bool.and_eq_true, decide_eq_true_eq]
  constructor
  · rintro ⟨h1, h2⟩
    rw [List.length_filter_eq_length_iff] at h2
    refine ⟨?_, fun o ho => (eqs_iff o r).1 (h2 o ho)⟩
    rintro rfl; simp at h1
  · rintro ⟨h1, h2⟩
    have h3 : (owners.filter fun o => eqs o r).length = owners.length := by
      rw [List.length_filter_eq_length_iff]; intro o ho; exact (eqs_iff o r).2 (h2 o ho)
    rw [h3]
    exact ⟨List.length_pos_iff.2 h1, rfl⟩
theorem hold_one_enough (roles owners : List ByteArray) (x : ByteArray) (hx : amongB x owners = false) :
    holdB (roles ++ owners ++ [x]) owners false = holdB roles owners false ++ owners := by
  have hx' : ¬ x ∈ owners := by
    intro h
    have : amongB x owners = true := by unfold amongB; rw [List.any_eq_true]; exact ⟨x, h, eqs_self x⟩
    rw [this] at hx; cases hx
  unfold holdB
  rw [List.filter_append, List.filter_append]
  have h1 : owners.filter (fun r => insideB owners false [r]) = owners := by
    rw [List.filter_eq_self]; intro a ha; exact (inside_any_iff owners a).2 ha
  have h2 : [x].filter (fun r => insideB owners false [r]) = [] := by
    rw [List.filter_eq_nil_iff]; intro a ha; simp at ha; subst ha; rw [inside_any_iff]; exact hx'
  rw [h1, h2, List.append_nil]
theorem hold_every_yes (roles owners : List ByteArray) (o x : ByteArray) (hne : owners ≠ []) (hall : ∀ w ∈ owners, w = o) (hx : x ≠ o) :
    holdB (roles ++ [o] ++ [x]) owners true = holdB roles owners true ++ [o] := by
  unfold holdB
  rw [List.filter_append, List.filter_append]
  have h1 : [o].filter (fun r => insideB owners true [r]) = [o] := by
    rw [List.filter_eq_self]; intro a ha; simp at ha; subst ha; exact (inside_all_iff owners a).2 ⟨hne, hall⟩
  have h2 : [x].filter (fun r => insideB owners true [r]) = [] := by
    rw [List.filter_eq_nil_iff]; intro a ha; simp at ha; subst ha; rw [inside_all_iff]
    rintro ⟨_, h⟩
    obtain ⟨w, hw⟩ := List.exists_mem_of_ne_nil owners hne
    exact hx ((h w hw).symm.trans (hall w hw))
  rw [h1, h2, List.append_nil]
theorem hold_every_no (roles owners : List ByteArray) (o : ByteArray) (ho : owners ≠ [] → o ∈ owners) (h : ¬ (owners ≠ [] ∧ ∀ w ∈ owners, w = o)) : holdB roles owners true = [] := by
  unfold holdB
  rw [List.filter_eq_nil_iff]
  intro a _ hb
  rw [inside_all_iff] at hb
  obtain ⟨h1, h2⟩ := hb
  refine h ⟨h1, fun w hw => ?_⟩
  rw [h2 w hw, h2 o (ho h1)]
end Go.Proofs.Qxb6609037aMods
