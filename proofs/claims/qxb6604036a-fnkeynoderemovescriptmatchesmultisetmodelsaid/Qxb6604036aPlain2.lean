/- Plain laws on lists, more: merging, sorted permutations, sorted insertion of a whole list. -/
import Derived.Test.Qxb6604036aPlain
namespace Go.Proofs.Qxb6604036a.Plain
section
variable {α : Type} {lt : α → α → Bool}

/-- What is merged so far ('lo') and what is left ('R'). -/
structure MInv (lt : α → α → Bool) (lo R all : List α) : Prop where
  sorted : Sorted lt lo
  below : ∀ x ∈ lo, ∀ y ∈ R, lt y x = false
  perm : (lo ++ R).Perm all

theorem MInv.step {lo R R' all : List α} {z : α} (h : MInv lt lo R all) (hp : R.Perm (z :: R')) (hz : ∀ y ∈ R', lt y z = false) : MInv lt (lo ++ [z]) R' all := by
  have hzR : z ∈ R := hp.symm.subset (by simp)
  refine ⟨List.pairwise_append.2 ⟨h.sorted, by simp, fun a ha b hb => ?_⟩, fun x hx y hy => ?_, ?_⟩
  · simp at hb; subst hb; exact h.below a ha b hzR
  · rcases List.mem_append.1 hx with hx | hx
    · exact h.below x hx y (hp.symm.subset (List.mem_cons_of_mem _ hy))
    · simp at hx; subst hx; exact hz y hy
  · refine List.Perm.trans ?_ h.perm
    rw [List.append_assoc]
    exact List.Perm.append_left lo hp.symm

/-- The lesser of two heads, from the first list. -/
theorem merge_left (hO : STO lt) {la lb : List α} {i j : Nat} (ha : Sorted lt la) (hb : Sorted lt lb) (hi : i < la.length) (hle : ∀ y, lb[j]? = some y → lt y la[i] = false) :
    (la.drop i ++ lb.drop j).Perm (la[i] :: (la.drop (i + 1) ++ lb.drop j)) ∧ ∀ y ∈ la.drop (i + 1) ++ lb.drop j, lt y la[i] = false := by
  constructor
  · rw [List.drop_eq_getElem_cons hi]; exact List.Perm.refl _
  · intro y hy
    rcases List.mem_append.1 hy with hy | hy
    · obtain ⟨k, hk, rfl⟩ := List.mem_iff_getElem.1 hy
      rw [List.getElem_drop]
      exact List.pairwise_iff_getElem.1 ha i (i + 1 + k) hi (by simp at hk; omega) (by omega)
    · obtain ⟨k, hk, rfl⟩ := List.mem_iff_getElem.1 hy
      have hj : j < lb.length := by simp at hk; omega
      have h0 := hle lb[j] (List.getElem?_eq_getElem hj)
      rw [List.getElem_drop]
      rcases Nat.eq_zero_or_pos k with rfl | hk0
      · simpa using h0
      · exact hO.le_le h0 (List.pairwise_iff_getElem.1 hb j (j + k) hj (by simp at hk; omega) (by omega))

theorem merge_right (hO : STO lt) {la lb : List α} {i j : Nat} (ha : Sorted lt la) (hb : Sorted lt lb) (hj : j < lb.length) (hle : ∀ y, la[i]? = some y → lt y lb[j] = false) :
    (la.drop i ++ lb.drop j).Perm (lb[j] :: (la.drop i ++ lb.drop (j + 1))) ∧ ∀ y ∈ la.drop i ++ lb.drop (j + 1), lt y lb[j] = false := by
  have := merge_left hO hb ha hj hle
  refine ⟨(List.perm_append_comm.trans this.1).trans (List.Perm.cons _ List.perm_append_comm), fun y hy => this.2 y ?_⟩
  rcases List.mem_append.1 hy with hy | hy
  · exact List.mem_append.2 (.inr hy)
  · exact List.mem_append.2 (.inl hy)

/-- One list, one order. -/
theorem sorted_unique (hO : STO lt) : ∀ (l l' : List α), Sorted lt l → Sorted lt l' → l.Perm l' → l = l'
  | [], l', _, _, hp => (List.nil_perm.1 hp).symm
  | x :: l, [], _, _, hp => by simp at hp
  | x :: l, y :: l', h, h', hp => by
    have h1 := List.pairwise_cons.1 h
    have h2 := List.pairwise_cons.1 h'
    have exy : x = y := by
      have hx : x ∈ y :: l' := hp.subset (by simp)
      have hy : y ∈ x :: l := hp.symm.subset (by simp)
      rcases List.mem_cons.1 hx with e | hx
      · exact e
      · rcases List.mem_cons.1 hy with e | hy
        · exact e.symm
        · exact hO.total (h2.1 x hx) (h1.1 y hy)
    subst exy
    rw [sorted_unique hO l l' h1.2 h2.2 (List.Perm.cons_inv hp)]

theorem sins_perm (x : α) : ∀ l : List α, (sins lt x l).Perm (x :: l)
  | [] => List.Perm.refl _
  | y :: l => by
    unfold sins
    split
    · exact ((sins_perm x l).cons y).trans (List.Perm.swap x y l)
    · exact List.Perm.refl _

end
end Go.Proofs.Qxb6604036a.Plain
