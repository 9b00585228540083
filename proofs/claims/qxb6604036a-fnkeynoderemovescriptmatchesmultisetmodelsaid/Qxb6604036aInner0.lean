/- Inner nodes: what the walk of insert leaves, put together (no walk here). -/
import Derived.Test.Qxb6604036aLeaf
namespace Go.Proofs.Qxb6604036a
open Go.RowKit Plain
set_option linter.unusedVariables false

theorem nodup_swap {X Y F F' : List Nat} {n : Nat} (hnd : (X ++ (F ++ Y)).Nodup) (hF' : F'.Nodup) (hsub : ∀ k ∈ F', k ∈ F ∨ n ≤ k) (hX : ∀ k ∈ X, k < n) (hY : ∀ k ∈ Y, k < n) : (X ++ (F' ++ Y)).Nodup := by
  rw [List.nodup_append] at hnd ⊢
  obtain ⟨h1, h2, h3⟩ := hnd
  rw [List.nodup_append] at h2 ⊢
  obtain ⟨h4, h5, h6⟩ := h2
  refine ⟨h1, ⟨hF', h5, fun a ha b hb e => ?_⟩, fun a ha b hb e => ?_⟩
  · subst e
    rcases hsub a ha with h | h
    · exact h6 a h a hb rfl
    · have := hY a hb; omega
  · subst e
    rcases List.mem_append.1 hb with hb | hb
    · rcases hsub a hb with h | h
      · exact h3 a ha a (List.mem_append.2 (.inl h)) rfl
      · have := hX a ha; omega
    · exact h3 a ha a (List.mem_append.2 (.inr hb)) rfl

/-- The list of a place's blocks with one part swapped: the new part is old or new. -/
theorem mem_swap {X Y F F' : List Nat} {n : Nat} (hsub : ∀ k ∈ F', k ∈ F ∨ n ≤ k) : ∀ k ∈ X ++ (F' ++ Y), k ∈ X ++ (F ++ Y) ∨ n ≤ k := by
  intro k hk
  simp only [List.mem_append] at hk ⊢
  rcases hk with hk | hk | hk
  · exact .inl (.inl hk)
  · rcases hsub k hk with h | h
    · exact .inl (.inr (.inl h))
    · exact .inr h
  · exact .inl (.inr (.inr hk))

theorem flatMap_mid {h : Nat} (A C : List (AT h)) (c : AT h) : (A ++ c :: C).flatMap (foot h) = A.flatMap (foot h) ++ (foot h c ++ C.flatMap (foot h)) := by simp

/-- The foot of an inner node with one child picked out. -/
theorem foot_mid {h : Nat} (H : Hd) (A C : List (AT h)) (c : AT h) : foot (h + 1) (H, A ++ c :: C) = (H.p :: (H.kv.ownBlock.toList ++ (H.cv.ownBlock.toList ++ A.flatMap (foot h)))) ++ (foot h c ++ C.flatMap (foot h)) := by
  simp [foot]

theorem nodup_append_left' {X Y : List Nat} (h : (X ++ Y).Nodup) : X.Nodup := (List.nodup_append.1 h).1
theorem nodup_append_right' {X Y : List Nat} (h : (X ++ Y).Nodup) : Y.Nodup := (List.nodup_append.1 h).2.1

/-- THE CHILD TOOK THE KEY IN WITHOUT SPLITTING. -/
theorem inner_none {B h mn i : Nat} {H : Hd} {A C : List (AT h)} {c : AT h} {a b : List ByteArray} {x : ByteArray} {w w1 : World}
    (hks : H.ks = a ++ b) (hi : lb x H.ks = i) (hA : A.length = i) (ha : a.length = i) (hC : C.length = b.length)
    (hl : Lies B w (h + 1) (H, A ++ c :: C)) (hnd : (foot (h + 1) (H, A ++ c :: C)).Nodup) (hok : okT (h + 1) mn (H, A ++ c :: C)) (hs : Sorted sl (inorder (h + 1) (H, A ++ c :: C)))
    (hba : ∀ k ∈ a, sl k x = true) (hbb : ∀ k ∈ b, sl k x = false)
    (hT : Touch (· ∈ foot h c) w w1) (c' : AT h) (hp : (hd h c').p = (hd h c).p) (hlc : Lies B w1 h c') (hndc : (foot h c').Nodup) (hsub : ∀ k ∈ foot h c', k ∈ foot h c ∨ w.heap.size ≤ k)
    (hokc : okT h 32 c') (hord : inorder h c' = sins sl x (inorder h c)) (hnf : ¬ full h c x) :
    InsertPost B (h + 1) (H, A ++ c :: C) x mn w (.returned (.tuple #[.string ⟨#[]⟩, .pointer none])) w1 := by
  have hlt := Lies.lt (h + 1) _ hl
  have hlen : (A ++ c :: C).length = (A ++ c' :: C).length := by simp
  have hptr : (A ++ c' :: C).map (ptrV h) = (A ++ c :: C).map (ptrV h) := by simp [ptrV, hp]
  rw [foot_mid] at hnd hlt
  obtain ⟨h1, h2, h3, h4, h5, h6⟩ := hl
  have hnot : ∀ k, k ∈ (H.p :: (H.kv.ownBlock.toList ++ (H.cv.ownBlock.toList ++ A.flatMap (foot h)))) ++ C.flatMap (foot h) → w1.heap[k]? = w.heap[k]? := fun k hk => by
    refine hT.block k ?_ fun hkc => ?_
    · rcases List.mem_append.1 hk with hk | hk
      · exact (hlt k (List.mem_append.2 (.inl hk))).2
      · exact (hlt k (List.mem_append.2 (.inr (List.mem_append.2 (.inr hk))))).2
    · have n1 := List.nodup_append.1 hnd
      have n2 := List.nodup_append.1 n1.2.1
      rcases List.mem_append.1 hk with hk | hk
      · exact n1.2.2 k hk k (List.mem_append.2 (.inl hkc)) rfl
      · exact n2.2.2 k hkc k hk rfl
  refine ⟨hT.mono fun k _ hk => by rw [foot_mid]; simp only [List.mem_append]; exact .inr (.inl hk), .inl ⟨(H, A ++ c' :: C), rfl, rfl, ⟨?_, h2, ?_, ?_, h5, ?_⟩, ?_, ?_, ?_, Nat.le_refl _, ?_, ?_⟩⟩
  · rw [hnot _ (by simp)]; exact h1
  · exact ownsRow_same h3 fun k hk => hnot k (by simp at hk; simp [hk])
  · rw [hptr, ← hlen]
    exact ownsRow_same h4 fun k hk => hnot k (by simp at hk; simp [hk])
  · intro d hd
    rcases List.mem_append.1 hd with hd | hd
    · exact Lies.same h d (h6 d (List.mem_append.2 (.inl hd))) fun k hk => hnot k (by simp only [List.mem_append, List.mem_cons, List.mem_flatMap]; exact .inl (.inr (.inr (.inr ⟨d, hd, hk⟩))))
    · rcases List.mem_cons.1 hd with rfl | hd
      · exact hlc
      · exact Lies.same h d (h6 d (List.mem_append.2 (.inr (List.mem_cons_of_mem _ hd)))) fun k hk => hnot k (by simp only [List.mem_append, List.mem_cons, List.mem_flatMap]; exact .inr ⟨d, hd, hk⟩)
  · rw [foot_mid]
    exact nodup_swap hnd hndc hsub (fun k hk => (hlt k (List.mem_append.2 (.inl hk))).2) (fun k hk => (hlt k (List.mem_append.2 (.inr (List.mem_append.2 (.inr hk))))).2)
  · rw [foot_mid, foot_mid]
    exact mem_swap hsub
  · obtain ⟨o1, o2, o3, o4⟩ := hok
    refine ⟨o1, o2, by rw [← hlen]; exact o3, fun d hd => ?_⟩
    rcases List.mem_append.1 hd with hd | hd
    · exact o4 d (List.mem_append.2 (.inl hd))
    · rcases List.mem_cons.1 hd with rfl | hd
      · exact hokc
      · exact o4 d (List.mem_append.2 (.inr (List.mem_cons_of_mem _ hd)))
  · simp only [inorder, hks, List.map_append, List.map_cons] at hs ⊢
    rw [sins_weave sto x _ _ _ _ _ (by simp; omega) (by simp; omega) hs hba hbb, weave_at _ _ _ (by simp; omega) _ _ (by simp; omega), hord]
  · intro hf
    refine hnf (hf.2 c ?_)
    show (A ++ c :: C)[lb x H.ks]? = some c
    rw [hi, ← hA]
    simp

/-- The node with one key (and one child) more than it had: 65 keys at most. -/
structure Over (B h : Nat) (t t' : AT (h + 1)) (x : ByteArray) (w V : World) : Prop where
  p : t'.1.p = t.1.p
  lies : Lies B V (h + 1) t'
  nodup : (foot (h + 1) t').Nodup
  sub : ∀ k ∈ foot (h + 1) t', k ∈ foot (h + 1) t ∨ w.heap.size ≤ k
  touch : Touch (· ∈ foot (h + 1) t) w V
  order : inorder (h + 1) t' = sins sl x (inorder (h + 1) t)
  keys : t'.1.ks.length = t.1.ks.length + 1
  kids : t'.2.length = t'.1.ks.length + 1
  okk : ∀ c ∈ t'.2, okT h 32 c
  cfull : ∀ c, t.2[lb x t.1.ks]? = some c → full h c x

theorem Over.done {B h mn : Nat} {t t' : AT (h + 1)} {x : ByteArray} {w V : World} (o : Over B h t t' x w V) (hok : okT (h + 1) mn t) (h64 : t.1.ks.length < 64) :
    InsertPost B (h + 1) t x mn w (.returned (.tuple #[.string ⟨#[]⟩, .pointer none])) V := by
  refine ⟨o.touch, .inl ⟨t', rfl, o.p, o.lies, o.nodup, o.sub, ⟨?_, ?_, o.kids, o.okk⟩, ?_, o.order, fun hf => ?_⟩⟩
  · have := hok.1; have := o.keys; omega
  · have := o.keys; omega
  · show t.1.ks.length ≤ t'.1.ks.length
    have := o.keys; omega
  · have := hf.1; omega

end Go.Proofs.Qxb6604036a
