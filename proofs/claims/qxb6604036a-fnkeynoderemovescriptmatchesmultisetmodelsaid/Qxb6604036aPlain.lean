/- Plain laws on lists: sorted insertion, weaving children's lists with a node's keys. No Go in sight. -/
namespace Go.Proofs.Qxb6604036a.Plain

/-- A strict total order, as a test. -/
structure STO {α : Type} (lt : α → α → Bool) : Prop where
  irrefl : ∀ x, lt x x = false
  trans : ∀ {x y z}, lt x y = true → lt y z = true → lt x z = true
  total : ∀ {x y}, lt x y = false → lt y x = false → x = y

section
variable {α : Type} {lt : α → α → Bool}

/-- 'not descending': no element is below one ahead of it. -/
def Sorted (lt : α → α → Bool) (l : List α) : Prop := l.Pairwise fun x y => lt y x = false

theorem STO.asymm (h : STO lt) {x y : α} (hxy : lt x y = true) : lt y x = false := by
  cases hyx : lt y x with
  | false => rfl
  | true => have := h.trans hxy hyx; rw [h.irrefl] at this; cases this

/-- x ≤ y, y < z -/
theorem STO.le_lt (h : STO lt) {x y z : α} (hxy : lt y x = false) (hyz : lt y z = true) : lt x z = true := by
  cases hx : lt x y with
  | true => exact h.trans hx hyz
  | false => rw [h.total hx hxy]; exact hyz

/-- x < y, y ≤ z -/
theorem STO.lt_le (h : STO lt) {x y z : α} (hxy : lt x y = true) (hyz : lt z y = false) : lt x z = true := by
  cases hz : lt y z with
  | true => exact h.trans hxy hz
  | false => rw [← h.total hz hyz]; exact hxy

/-- x ≤ y, y ≤ z -/
theorem STO.le_le (h : STO lt) {x y z : α} (hxy : lt y x = false) (hyz : lt z y = false) : lt z x = false := by
  cases hz : lt z x with
  | false => rfl
  | true => have := h.lt_le hz hxy; rw [hyz] at this; cases this

/-- x put in its place: behind all that is below it. -/
def sins (lt : α → α → Bool) (x : α) : List α → List α
  | [] => [x]
  | y :: l => if lt y x then y :: sins lt x l else x :: y :: l

theorem sins_length (x : α) : ∀ l, (sins lt x l).length = l.length + 1
  | [] => rfl
  | y :: l => by
    unfold sins
    split
    · simp [sins_length x l]
    · rfl

theorem sins_append_left (x : α) : ∀ (A B : List α), (∀ a ∈ A, lt a x = true) → sins lt x (A ++ B) = A ++ sins lt x B
  | [], B, _ => rfl
  | a :: A, B, h => by
    simp only [List.cons_append, sins, h a (by simp), if_true]
    rw [sins_append_left x A B fun b hb => h b (by simp [hb])]

theorem sins_append_right (x : α) : ∀ (A B : List α), (∀ b, B.head? = some b → lt b x = false) → sins lt x (A ++ B) = sins lt x A ++ B
  | [], [], _ => rfl
  | [], b :: B, h => by simp [sins, h b rfl]
  | a :: A, B, h => by
    simp only [List.cons_append, sins]
    split
    · rw [sins_append_right x A B h]; rfl
    · rfl

theorem mem_sins (x : α) : ∀ (l : List α) (y : α), y ∈ sins lt x l ↔ y = x ∨ y ∈ l
  | [], y => by simp [sins]
  | z :: l, y => by
    unfold sins
    split
    · simp only [List.mem_cons, mem_sins x l y]
      constructor
      · rintro (h | h | h) <;> simp [h]
      · rintro (h | h | h) <;> simp [h]
    · simp

theorem sins_sorted (h : STO lt) (x : α) : ∀ (l : List α), Sorted lt l → Sorted lt (sins lt x l)
  | [], _ => by simp [sins, Sorted]
  | z :: l, hs => by
    have hs' := List.pairwise_cons.1 hs
    unfold sins
    split
    · rename_i hz
      refine List.pairwise_cons.2 ⟨fun y hy => ?_, sins_sorted h x l hs'.2⟩
      rcases (mem_sins x l y).1 hy with rfl | hy
      · exact h.asymm hz
      · exact hs'.1 y hy
    · rename_i hz
      have hz' : lt z x = false := by simpa using hz
      refine List.pairwise_cons.2 ⟨fun y hy => ?_, hs⟩
      rcases List.mem_cons.1 hy with rfl | hy
      · exact hz'
      · exact h.le_le hz' (hs'.1 y hy)

/-- l0 k0 l1 k1 .. : each list with the key behind it. -/
def pl : List (List α) → List α → List α
  | l :: ls, k :: ks => l ++ k :: pl ls ks
  | _, _ => []
/-- k0 l0 k1 l1 .. : each key with the list behind it. -/
def pr : List α → List (List α) → List α
  | k :: ks, l :: ls => k :: l ++ pr ks ls
  | _, _ => []

/-- What a node holds in order: as b1NodeOrder reads it. -/
def weave : List (List α) → List α → List α
  | [], _ => []
  | l :: ls, [] => l ++ weave ls []
  | l :: ls, k :: ks => l ++ k :: weave ls ks

theorem weave_cons (l : List α) : ∀ (ls : List (List α)) (ks : List α), ls.length = ks.length → weave (l :: ls) ks = l ++ pr ks ls
  | [], [], _ => by simp [weave, pr]
  | m :: ls, k :: ks, h => by
    have := weave_cons m ls ks (by simpa using h)
    simp [weave, this, pr]

theorem weave_at (l : List α) (C : List (List α)) (c : List α) (hc : C.length = c.length) : ∀ (A : List (List α)) (a : List α), A.length = a.length →
    weave (A ++ l :: C) (a ++ c) = pl A a ++ l ++ pr c C
  | [], [], _ => by simpa [pl] using weave_cons l C c hc
  | x :: A, k :: a, h => by
    have := weave_at l C c hc A a (by simpa using h)
    simp [weave, pl, this, List.append_assoc]

theorem weave_split (m : α) (D : List (List α)) (d : List α) : ∀ (A : List (List α)) (a : List α), A.length = a.length + 1 →
    weave (A ++ D) (a ++ m :: d) = weave A a ++ m :: weave D d
  | [x], [], _ => by simp [weave]
  | x :: y :: A, [], h => by simp at h
  | x :: A, k :: a, h => by
    have := weave_split m D d A a (by simpa using h)
    simp [weave, this, List.append_assoc]

theorem pl_append : ∀ (A : List (List α)) (a : List α) (D : List (List α)) (d : List α), A.length = a.length → pl (A ++ D) (a ++ d) = pl A a ++ pl D d
  | [], [], _, _, _ => by simp [pl]
  | x :: A, k :: a, D, d, h => by
    have := pl_append A a D d (by simpa using h)
    simp [pl, this, List.append_assoc]

theorem pr_append : ∀ (a : List α) (A : List (List α)) (d : List α) (D : List (List α)), a.length = A.length → pr (a ++ d) (A ++ D) = pr a A ++ pr d D
  | [], [], _, _, _ => by simp [pr]
  | k :: a, x :: A, d, D, h => by
    have := pr_append a A d D (by simpa using h)
    simp [pr, this, List.append_assoc]

/-- Of what stands ahead of the i-th list nothing is at or above x, if the keys ahead are below x. -/
theorem pl_below (h : STO lt) (x : α) : ∀ (A : List (List α)) (a : List α) (r : List α), A.length = a.length → Sorted lt (pl A a ++ r) → (∀ k ∈ a, lt k x = true) → ∀ y ∈ pl A a, lt y x = true
  | [], [], _, _, _, _, y, hy => by simp [pl] at hy
  | l :: A, k :: a, r, hl, hs, hk, y, hy => by
    simp only [pl, List.append_assoc, List.cons_append] at hs hy
    have hs2 := (List.pairwise_append.1 hs)
    have hk1 : lt k x = true := hk k (by simp)
    rcases List.mem_append.1 hy with hy | hy
    · exact h.le_lt (hs2.2.2 y hy k (by simp)) hk1
    · rcases List.mem_cons.1 hy with rfl | hy
      · exact hk1
      · exact pl_below h x A a r (by simpa using hl) (List.pairwise_cons.1 hs2.2.1).2 (fun q hq => hk q (by simp [hq])) y hy

theorem pr_head (c : List α) (C : List (List α)) (x : α) (hc : ∀ k ∈ c, lt k x = false) : ∀ y, (pr c C).head? = some y → lt y x = false := by
  intro y hy
  cases c with
  | nil => simp [pr] at hy
  | cons k c => cases C with
    | nil => simp [pr] at hy
    | cons l C => simp [pr] at hy; subst hy; exact hc k (by simp)

/-- INSERTION INTO ONE CHILD: sorted insertion into the whole. -/
theorem sins_weave (h : STO lt) (x : α) (A C : List (List α)) (a c : List α) (l : List α) (hA : A.length = a.length) (hC : C.length = c.length)
    (hs : Sorted lt (weave (A ++ l :: C) (a ++ c))) (ha : ∀ k ∈ a, lt k x = true) (hc : ∀ k ∈ c, lt k x = false) :
    sins lt x (weave (A ++ l :: C) (a ++ c)) = pl A a ++ sins lt x l ++ pr c C := by
  rw [weave_at l C c hC A a hA] at hs ⊢
  rw [List.append_assoc] at hs ⊢
  rw [sins_append_left x _ _ (pl_below h x A a _ hA hs ha), sins_append_right x _ _ (pr_head c C x hc), List.append_assoc]

theorem sins_keys (x : α) (a c : List α) (ha : ∀ k ∈ a, lt k x = true) (hc : ∀ k ∈ c, lt k x = false) : sins lt x (a ++ c) = a ++ x :: c := by
  rw [sins_append_left x _ _ ha]
  congr 1
  cases c with
  | nil => rfl
  | cons k c => simp [sins, hc k (by simp)]

theorem sorted_child {A C : List (List α)} {a c : List α} {l : List α} (hA : A.length = a.length) (hC : C.length = c.length)
    (hs : Sorted lt (weave (A ++ l :: C) (a ++ c))) : Sorted lt l := by
  rw [weave_at l C c hC A a hA] at hs
  exact (List.pairwise_append.1 (List.pairwise_append.1 hs).1).2.1

/-- A node's own keys are in order. -/
theorem pl_keys : ∀ (A : List (List α)) (a r : List α), A.length = a.length → (a ++ r).Sublist (pl A a ++ r)
  | [], [], r, _ => by simp [pl]
  | l :: A, k :: a, r, h => by
    have := pl_keys A a r (by simpa using h)
    simp only [pl, List.append_assoc, List.cons_append]
    exact List.Sublist.trans (this.cons_cons k) (List.sublist_append_right _ _)

theorem weave_keys : ∀ (L : List (List α)) (ks : List α), L.length = ks.length + 1 → ks.Sublist (weave L ks)
  | [l], [], _ => by simp [weave]
  | l :: y :: L, [], h => by simp at h
  | l :: L, k :: ks, h => by
    have := weave_keys L ks (by simpa using h)
    simp only [weave]
    exact List.Sublist.trans (this.cons_cons k) (List.sublist_append_right _ _)

theorem Sorted.sublist {l l' : List α} (h : Sorted lt l) (hs : l'.Sublist l) : Sorted lt l' := List.Pairwise.sublist hs h

end
end Go.Proofs.Qxb6604036a.Plain
