/- Inner nodes: the child has split, its middle key and its right half are taken in. -/
import Derived.Test.Qxb6604036aInner0
namespace Go.Proofs.Qxb6604036a
open Go.RowKit Plain
set_option linter.unusedVariables false

theorem ownsRow_ne {B e n : Nat} {v : Value} {xs : List Value} {w : World} (h : w.ownsRow B e 1 v n xs) {k : Nat} (hk : w.heap.size ≤ k) : v.ownBlock ≠ some k := fun hv => by
  have := (ownsRow_lt h hv).2; omega

theorem inner_over {B h mn i : Nat} {H : Hd} {A C : List (AT h)} {c : AT h} {a b : List ByteArray} {x m : ByteArray} {w w1 w2 w3 : World} {kv' cv' : Value}
    (hks : H.ks = a ++ b) (hi : lb x H.ks = i) (hA : A.length = i) (ha : a.length = i) (hC : C.length = b.length)
    (hl : Lies B w (h + 1) (H, A ++ c :: C)) (hnd : (foot (h + 1) (H, A ++ c :: C)).Nodup) (hok : okT (h + 1) mn (H, A ++ c :: C)) (hs : Sorted sl (inorder (h + 1) (H, A ++ c :: C)))
    (hba : ∀ k ∈ a, sl k x = true) (hbb : ∀ k ∈ b, sl k x = false)
    (hT : Touch (· ∈ foot h c) w w1) (c' r : AT h) (hp : (hd h c').p = (hd h c).p) (hlc : Lies B w1 h c') (hlr : Lies B w1 h r) (hndc : (foot h c' ++ foot h r).Nodup) (hsub : ∀ k ∈ foot h c' ++ foot h r, k ∈ foot h c ∨ w.heap.size ≤ k)
    (hokc : okT h 32 c') (hokr : okT h 32 r) (hord : inorder h c' ++ m :: inorder h r = sins sl x (inorder h c)) (hfull : full h c x)
    (hown2 : w2.ownsRow B 9 1 kv' (H.ks.length + 1) (strs (a ++ m :: b))) (hT2 : Touch (fun k => H.kv.ownBlock = some k) (w1.alloc (.cells #[.string m] 9)) w2) {kb : Nat} (hkb : kv'.ownBlock = some kb) (hfk : H.kv.ownBlock = some kb ∨ (w1.alloc (.cells #[.string m] 9)).heap.size ≤ kb)
    (hown3 : w3.ownsRow B 27 1 cv' ((A ++ c :: C).length + 1) ((A ++ c' :: r :: C).map (ptrV h)))
    (hT3 : Touch (fun k => H.cv.ownBlock = some k) ((w2.setCell ⟨H.p, 0, none⟩ kv').alloc (.cells #[ptrV h r] 27)) w3) {cb : Nat} (hcb : cv'.ownBlock = some cb) (hfc : H.cv.ownBlock = some cb ∨ ((w2.setCell ⟨H.p, 0, none⟩ kv').alloc (.cells #[ptrV h r] 27)).heap.size ≤ cb) :
    Over B h (H, A ++ c :: C) (⟨H.p, kv', cv', a ++ m :: b⟩, A ++ c' :: r :: C) x w (w3.setCell ⟨H.p, 1, none⟩ cv') := by
  have hlt := Lies.lt (h + 1) _ hl
  rw [foot_mid] at hnd hlt
  obtain ⟨h1, h2, h3, h4, h5, h6⟩ := hl
  simp only at h1 h2 h3 h4 h5 h6
  have hsz2 : w1.heap.size + 1 ≤ w2.heap.size := by have := hT2.size; simpa using this
  have hsz3 : w2.heap.size + 1 ≤ w3.heap.size := by have := hT3.size; simpa [World.setCell] using this
  have hsz1 := hT.size
  simp at hfk
  have hfc' : H.cv.ownBlock = some cb ∨ w2.heap.size + 1 ≤ cb := by simpa [World.setCell] using hfc
  obtain ⟨cb0, hcb0⟩ := h5
  have hpw : H.p < w.heap.size := lt_of_heap h1
  -- the three swaps
  have n1 := nodup_swap (F' := foot h c' ++ foot h r) hnd hndc hsub (fun k hk => (hlt k (List.mem_append.2 (.inl hk))).2) (fun k hk => (hlt k (List.mem_append.2 (.inr (List.mem_append.2 (.inr hk))))).2)
  have m1 := mem_swap (X := H.p :: (H.kv.ownBlock.toList ++ (H.cv.ownBlock.toList ++ A.flatMap (foot h)))) (Y := C.flatMap (foot h)) hsub
  have l1 : ∀ k ∈ (H.p :: (H.kv.ownBlock.toList ++ (H.cv.ownBlock.toList ++ A.flatMap (foot h)))) ++ ((foot h c' ++ foot h r) ++ C.flatMap (foot h)), k < w1.heap.size := fun k hk => by
    simp only [List.mem_append] at hk
    rcases hk with hk | (hk | hk) | hk
    · have := (hlt k (List.mem_append.2 (.inl hk))).2; omega
    · exact (Lies.lt h c' hlc k hk).2
    · exact (Lies.lt h r hlr k hk).2
    · have := (hlt k (List.mem_append.2 (.inr (List.mem_append.2 (.inr hk))))).2; omega
  have e1 : (H.p :: (H.kv.ownBlock.toList ++ (H.cv.ownBlock.toList ++ A.flatMap (foot h)))) ++ ((foot h c' ++ foot h r) ++ C.flatMap (foot h)) = [H.p] ++ (H.kv.ownBlock.toList ++ (H.cv.ownBlock.toList ++ (A.flatMap (foot h) ++ ((foot h c' ++ foot h r) ++ C.flatMap (foot h))))) := by simp
  rw [e1] at n1 m1 l1
  have n2 := nodup_swap (F' := [kb]) (n := w1.heap.size) n1 (by simp) (fun k hk => by
      simp at hk; subst hk
      rcases hfk with h | h
      · exact .inl (by simp [h])
      · exact .inr (by omega)) (fun k hk => l1 k (List.mem_append.2 (.inl hk))) (fun k hk => l1 k (List.mem_append.2 (.inr (List.mem_append.2 (.inr hk)))))
  have kbk : kb < w2.heap.size := (ownsRow_lt hown2 hkb).2
  have l2 : ∀ k ∈ [H.p] ++ ([kb] ++ (H.cv.ownBlock.toList ++ (A.flatMap (foot h) ++ ((foot h c' ++ foot h r) ++ C.flatMap (foot h))))), k < w2.heap.size := fun k hk => by
    rcases List.mem_append.1 hk with hk | hk
    · have := l1 k (List.mem_append.2 (.inl hk)); omega
    · rcases List.mem_append.1 hk with hk | hk
      · simp at hk; omega
      · have := l1 k (List.mem_append.2 (.inr (List.mem_append.2 (.inr hk)))); omega
  have e2 : [H.p] ++ ([kb] ++ (H.cv.ownBlock.toList ++ (A.flatMap (foot h) ++ ((foot h c' ++ foot h r) ++ C.flatMap (foot h))))) = [H.p, kb] ++ (H.cv.ownBlock.toList ++ (A.flatMap (foot h) ++ ((foot h c' ++ foot h r) ++ C.flatMap (foot h)))) := by simp
  rw [e2] at n2 l2
  have n3 := nodup_swap (F' := [cb]) (n := w2.heap.size) n2 (by simp) (fun k hk => by
      simp at hk; subst hk
      rcases hfc' with h | h
      · exact .inl (by simp [h])
      · exact .inr (by omega)) (fun k hk => l2 k (List.mem_append.2 (.inl hk))) (fun k hk => l2 k (List.mem_append.2 (.inr (List.mem_append.2 (.inr hk)))))
  have ef : foot (h + 1) ((⟨H.p, kv', cv', a ++ m :: b⟩, A ++ c' :: r :: C) : AT (h + 1)) = [H.p, kb] ++ ([cb] ++ (A.flatMap (foot h) ++ ((foot h c' ++ foot h r) ++ C.flatMap (foot h)))) := by
    simp [foot, hkb, hcb]
  -- what is not p, not the old rows, is as it was in w1
  have keep : ∀ k, k < w1.heap.size → k ≠ H.p → H.kv.ownBlock ≠ some k → H.cv.ownBlock ≠ some k → (w3.setCell ⟨H.p, 1, none⟩ cv').heap[k]? = w1.heap[k]? := fun k hk h1 h2 h3 => by
    rw [Below.heap_setCell _ _ _ _ h1, hT3.block k (by simp [World.setCell]; omega) h3, Below.heap_alloc _ _ _ (by simp [World.setCell]; omega), Below.heap_setCell _ _ _ _ h1, hT2.block k (by simp; omega) h2, Below.heap_alloc _ _ _ hk]
  have hpk : H.kv.ownBlock ≠ some H.p := fun e => by
    rw [e] at hnd; simp at hnd
  have hpc : H.cv.ownBlock ≠ some H.p := fun e => by
    rw [e] at hnd; simp at hnd
  have hkc : H.kv.ownBlock ≠ H.cv.ownBlock := fun e => by
    rw [hcb0] at e
    rw [e, hcb0] at hnd
    simp at hnd
  have hpc1 : H.p ∉ foot h c := fun hm => (List.nodup_append.1 hnd).2.2 H.p (by simp) H.p (List.mem_append.2 (.inl hm)) rfl
  have hN1 : w1.heap[H.p]? = some (nodeObj H.kv H.cv) := by rw [hT.block _ hpw hpc1]; exact h1
  have hN2 : w2.heap[H.p]? = some (nodeObj H.kv H.cv) := by rw [hT2.block _ (by simp; omega) hpk, Below.heap_alloc _ _ _ (by omega)]; exact hN1
  have hN3 : w3.heap[H.p]? = some (nodeObj kv' H.cv) := by
    rw [hT3.block _ (by simp [World.setCell]; omega) hpc, Below.heap_alloc _ _ _ (by simp [World.setCell]; omega)]; exact heap_setNode0 _ hN2
  have n3p := List.nodup_append.1 n3
  have hkbp : kb ≠ H.p := fun e => by
    have := n3p.1; simp [e] at this
  have hcbp : cb ≠ H.p := fun e => by
    rw [e] at n3; simp at n3
  have hkbcv : H.cv.ownBlock ≠ some kb := fun e => by
    rw [e] at n2; simp at n2
  -- a child's blocks
  have inside : ∀ d : AT h, (d ∈ A ∨ d = c' ∨ d = r ∨ d ∈ C) → ∀ k ∈ foot h d, k < w1.heap.size ∧ k ≠ H.p ∧ H.kv.ownBlock ≠ some k ∧ H.cv.ownBlock ≠ some k := fun d hd k hk => by
    have hin : k ∈ A.flatMap (foot h) ++ ((foot h c' ++ foot h r) ++ C.flatMap (foot h)) := by
      simp only [List.mem_append, List.mem_flatMap]
      rcases hd with hd | rfl | rfl | hd
      · exact .inl ⟨d, hd, hk⟩
      · exact .inr (.inl (.inl hk))
      · exact .inr (.inl (.inr hk))
      · exact .inr (.inr ⟨d, hd, hk⟩)
    have q1 := List.nodup_append.1 n1
    have q2 := List.nodup_append.1 q1.2.1
    have q3 := List.nodup_append.1 q2.2.1
    refine ⟨l1 k (by simp only [List.mem_append] at hin ⊢; exact .inr (.inr (.inr hin))), fun e => ?_, fun e => ?_, fun e => ?_⟩
    · exact q1.2.2 H.p (by simp) k (List.mem_append.2 (.inr (List.mem_append.2 (.inr hin)))) e.symm
    · exact q2.2.2 k (by simp [e]) k (List.mem_append.2 (.inr hin)) rfl
    · exact q3.2.2 k (by simp [e]) k hin rfl
  refine ⟨rfl, ⟨heap_setNode1 _ hN3, h2, ?_, ?_, ⟨cb, hcb⟩, ?_⟩, ?_, ?_, ?_, ?_, ?_, ?_, ?_, ?_⟩
  · have hl' : (a ++ m :: b).length = H.ks.length + 1 := by rw [hks]; simp; omega
    simp only [hl']
    refine ownsRow_same hown2 fun k hk => ?_
    rw [hkb] at hk; simp at hk; subst hk
    rw [Below.heap_setCell _ _ _ _ hkbp, hT3.block _ (by simp [World.setCell]; omega) hkbcv, Below.heap_alloc _ _ _ (by simp [World.setCell]; omega), Below.heap_setCell _ _ _ _ hkbp]
  · have hl' : (A ++ c' :: r :: C).length = (A ++ c :: C).length + 1 := by simp; omega
    simp only [hl']
    refine ownsRow_same hown3 fun k hk => ?_
    rw [hcb] at hk; simp at hk; subst hk
    exact Below.heap_setCell _ _ _ _ hcbp
  · intro d hd
    have hd' : d ∈ A ∨ d = c' ∨ d = r ∨ d ∈ C := by simpa using hd
    have base : Lies B w1 h d := by
      rcases hd' with hd | rfl | rfl | hd
      · refine Lies.same h d (h6 d (List.mem_append.2 (.inl hd))) fun k hk => hT.block k ?_ fun hkc => ?_
        · exact (Lies.lt h d (h6 d (List.mem_append.2 (.inl hd))) k hk).2
        · exact (List.nodup_append.1 hnd).2.2 k (by simp only [List.mem_cons, List.mem_append, List.mem_flatMap]; exact .inr (.inr (.inr ⟨d, hd, hk⟩))) k (List.mem_append.2 (.inl hkc)) rfl
      · exact hlc
      · exact hlr
      · refine Lies.same h d (h6 d (List.mem_append.2 (.inr (List.mem_cons_of_mem _ hd)))) fun k hk => hT.block k ?_ fun hkc => ?_
        · exact (Lies.lt h d (h6 d (List.mem_append.2 (.inr (List.mem_cons_of_mem _ hd)))) k hk).2
        · exact (List.nodup_append.1 (List.nodup_append.1 hnd).2.1).2.2 k hkc k (List.mem_flatMap.2 ⟨d, hd, hk⟩) rfl
    exact Lies.same h d base fun k hk => keep k (inside d hd' k hk).1 (inside d hd' k hk).2.1 (inside d hd' k hk).2.2.1 (inside d hd' k hk).2.2.2
  · rw [ef]; exact n3
  · rw [ef, foot_mid]
    intro k hk
    simp only [List.mem_append, List.mem_cons, List.not_mem_nil, or_false] at hk
    have old : ∀ k, k ∈ [H.p] ++ (H.kv.ownBlock.toList ++ (H.cv.ownBlock.toList ++ (A.flatMap (foot h) ++ ((foot h c' ++ foot h r) ++ C.flatMap (foot h))))) → k ∈ (H.p :: (H.kv.ownBlock.toList ++ (H.cv.ownBlock.toList ++ A.flatMap (foot h)))) ++ (foot h c ++ C.flatMap (foot h)) ∨ w.heap.size ≤ k := fun k hk => m1 k hk
    rcases hk with (rfl | rfl) | rfl | hk | (hk | hk) | hk
    · exact old _ (by simp)
    · rcases hfk with h | h
      · exact old _ (by simp [h])
      · exact .inr (by omega)
    · rcases hfc' with h | h
      · exact old _ (by simp [h])
      · exact .inr (by omega)
    · exact old _ (by simp only [List.mem_append]; exact .inr (.inr (.inr (.inl hk))))
    · exact old _ (by simp only [List.mem_append]; exact .inr (.inr (.inr (.inr (.inl (.inl hk))))))
    · exact old _ (by simp only [List.mem_append]; exact .inr (.inr (.inr (.inr (.inl (.inr hk))))))
    · exact old _ (by simp only [List.mem_append]; exact .inr (.inr (.inr (.inr (.inr hk)))))
  · rw [foot_mid]
    have t1 : Touch (· ∈ (H.p :: (H.kv.ownBlock.toList ++ (H.cv.ownBlock.toList ++ A.flatMap (foot h)))) ++ (foot h c ++ C.flatMap (foot h))) w w1 := hT.mono fun k _ hk => by simp only [List.mem_append]; exact .inr (.inl hk)
    refine Touch.setCell (((((t1.alloc _).trans hT2 ?_).setCell _ (fun _ => by simp) _).alloc _).trans hT3 ?_) _ (fun _ => by simp) _
    · intro k _ hk; simp [hk]
    · intro k _ hk; simp [hk]
  · simp only [inorder, hks, List.map_append, List.map_cons] at hs ⊢
    rw [sins_weave sto x _ _ _ _ _ (by simp; omega) (by simp; omega) hs hba hbb, ← hord]
    rw [weave_at _ _ _ (by simp; omega) _ _ (by simp; omega)]
    simp [pr, List.append_assoc]
  · show (a ++ m :: b).length = H.ks.length + 1
    rw [hks]; simp; omega
  · show (A ++ c' :: r :: C).length = (a ++ m :: b).length + 1
    simp; omega
  · intro d hd
    have hd' : d ∈ A ∨ d = c' ∨ d = r ∨ d ∈ C := by simpa using hd
    rcases hd' with hd | rfl | rfl | hd
    · exact hok.2.2.2 d (List.mem_append.2 (.inl hd))
    · exact hokc
    · exact hokr
    · exact hok.2.2.2 d (List.mem_append.2 (.inr (List.mem_cons_of_mem _ hd)))
  · intro d hd
    have : (A ++ c :: C)[lb x H.ks]? = some c := by rw [hi, ← hA]; simp
    have e : d = c := by
      have h2 : (A ++ c :: C)[lb x H.ks]? = some d := hd
      rw [this] at h2; simpa using h2.symm
    rw [e]; exact hfull

end Go.Proofs.Qxb6604036a
