/- remove: what it computes (srem), a kid turned in its tree, the last key. -/
import Derived.Test.Qxb6604036aRefill
import Derived.Test.Qxb6604036aPlain2
namespace Go.Proofs.Qxb6604036a
open Go.RowKit Plain
set_option linter.unusedVariables false
set_option linter.unusedSimpArgs false

/-- The list less its first x. -/
def srem (x : ByteArray) : List ByteArray → List ByteArray
  | [] => []
  | y :: l => if y = x then l else y :: srem x l

theorem srem_left {x : ByteArray} : ∀ (A B : List ByteArray), x ∉ A → srem x (A ++ B) = A ++ srem x B
  | [], _, _ => rfl
  | y :: A, B, h => by
    have h1 : y ≠ x := fun e => h (by rw [e]; exact List.mem_cons_self ..)
    show (if y = x then A ++ B else y :: srem x (A ++ B)) = y :: (A ++ srem x B)
    rw [if_neg h1, srem_left A B fun hx => h (List.mem_cons_of_mem _ hx)]

theorem srem_right {x : ByteArray} : ∀ (A B : List ByteArray), x ∉ B → srem x (A ++ B) = srem x A ++ B
  | [], B, h => by
    have := srem_left B [] h
    rw [List.append_nil] at this
    show srem x B = srem x [] ++ B
    rw [this]; simp [srem]
  | y :: A, B, h => by
    show (if y = x then A ++ B else y :: srem x (A ++ B)) = (if y = x then A else y :: srem x A) ++ B
    by_cases e : y = x
    · rw [if_pos e, if_pos e]
    · rw [if_neg e, if_neg e, srem_right A B h]; rfl

theorem srem_none {x : ByteArray} (A : List ByteArray) (h : x ∉ A) : srem x A = A := by
  have := srem_left A [] h
  rw [List.append_nil] at this
  rw [this]; simp [srem]

theorem srem_perm {x : ByteArray} : ∀ (l : List ByteArray), x ∈ l → (x :: srem x l).Perm l
  | y :: l, h => by
    show (x :: (if y = x then l else y :: srem x l)).Perm (y :: l)
    by_cases e : y = x
    · rw [if_pos e, e]
    · rw [if_neg e]
      have hx : x ∈ l := (List.mem_cons.1 h).resolve_left (fun h => e h.symm)
      exact (List.Perm.swap y x _).trans ((srem_perm l hx).cons y)

theorem srem_sub (x : ByteArray) : ∀ (l : List ByteArray), (srem x l).Sublist l
  | [] => List.Sublist.refl _
  | y :: l => by
    show (if y = x then l else y :: srem x l).Sublist (y :: l)
    by_cases e : y = x
    · rw [if_pos e]; exact List.sublist_cons_self ..
    · rw [if_neg e]; exact (srem_sub x l).cons_cons y

theorem srem_length {x : ByteArray} (l : List ByteArray) : l.length ≤ (srem x l).length + 1 := by
  by_cases h : x ∈ l
  · have := (srem_perm l h).length_eq; simp at this; omega
  · rw [srem_none l h]; omega

/-- In a sorted list it does not matter which x goes. -/
theorem srem_mid {x : ByteArray} (P Q : List ByteArray) (hs : Sorted sl (P ++ x :: Q)) : srem x (P ++ x :: Q) = P ++ Q := by
  refine sorted_unique sto _ _ (hs.sublist (srem_sub x _)) (hs.sublist (List.Sublist.append (List.Sublist.refl P) (List.sublist_cons_self x Q))) ?_
  have h1 := srem_perm (x := x) (P ++ x :: Q) (by simp)
  have h2 : (x :: (P ++ Q)).Perm (P ++ x :: Q) := List.perm_middle.symm
  exact List.Perm.cons_inv (h1.trans h2.symm)

/-- What a turned tree of any height keeps. -/
structure KeptT (B : Nat) (h : Nat) (t t' : AT h) (w w' : World) : Prop where
  lies : Lies B w' h t'
  nodup : (foot h t').Nodup
  place : ∀ k ∈ foot h t', k ∈ foot h t ∨ w.heap.size ≤ k
  touch : Touch (· ∈ foot h t) w w'
  root : (hd h t').p = (hd h t).p

theorem KeptT.trans {B h : Nat} {t t1 t2 : AT h} {w w1 w2 : World} (h1 : KeptT B h t t1 w w1) (h2 : KeptT B h t1 t2 w1 w2) : KeptT B h t t2 w w2 := by
  have hs := h1.touch.size
  refine ⟨h2.lies, h2.nodup, fun k hk => ?_, h1.touch.trans h2.touch fun k hk e => ?_, h2.root.trans h1.root⟩
  · rcases h2.place k hk with e | e
    · exact h1.place k e
    · exact .inr (by omega)
  · rcases h1.place k e with e | e
    · exact e
    · omega

/-- A tree of which one kid was turned. -/
theorem KeptT.kid {B h : Nat} {H : Hd} {pre post : List (AT h)} {c c' : AT h} {w w' : World} (hL : Lies B w (h + 1) (H, pre ++ c :: post)) (hnd : (foot (h + 1) (H, pre ++ c :: post)).Nodup) (hk : KeptT B h c c' w w') :
    KeptT B (h + 1) (H, pre ++ c :: post) (H, pre ++ c' :: post) w w' := by
  obtain ⟨h1, h2, h3, h4, h5, h6⟩ := hL
  have hfo : foot (h + 1) (H, pre ++ c :: post) = (H.p :: (H.kv.ownBlock.toList ++ H.cv.ownBlock.toList) ++ pre.flatMap (foot h)) ++ (foot h c ++ post.flatMap (foot h)) := by
    show H.p :: (H.kv.ownBlock.toList ++ (H.cv.ownBlock.toList ++ (pre ++ c :: post).flatMap (foot h))) = _
    simp [List.flatMap_append]
  have hfo' : foot (h + 1) (H, pre ++ c' :: post) = (H.p :: (H.kv.ownBlock.toList ++ H.cv.ownBlock.toList) ++ pre.flatMap (foot h)) ++ (foot h c' ++ post.flatMap (foot h)) := by
    show H.p :: (H.kv.ownBlock.toList ++ (H.cv.ownBlock.toList ++ (pre ++ c' :: post).flatMap (foot h))) = _
    simp [List.flatMap_append]
  have hlt := Lies.lt (h + 1) _ (⟨h1, h2, h3, h4, h5, h6⟩ : Lies B w (h + 1) (H, pre ++ c :: post))
  obtain ⟨U, hU⟩ : ∃ U, U = H.p :: (H.kv.ownBlock.toList ++ H.cv.ownBlock.toList) ++ pre.flatMap (foot h) := ⟨_, rfl⟩
  rw [← hU] at hfo hfo'
  rw [hfo] at hnd hlt
  have hp1 : (U ++ (foot h c ++ post.flatMap (foot h))).Perm (foot h c ++ (U ++ post.flatMap (foot h))) := by
    rw [List.perm_iff_count]; intro k; simp only [List.count_append]; omega
  have hp2 : (U ++ (foot h c' ++ post.flatMap (foot h))).Perm (foot h c' ++ (U ++ post.flatMap (foot h))) := by
    rw [List.perm_iff_count]; intro k; simp only [List.count_append]; omega
  have hndp := hp1.nodup_iff.1 hnd
  have hX : ∀ k ∈ U ++ post.flatMap (foot h), k < w.heap.size := fun k hk => (hlt k (hp1.mem_iff.2 (List.mem_append.2 (.inr hk)))).2
  have hXc : ∀ k ∈ U ++ post.flatMap (foot h), k ∉ foot h c := fun k hk hc => (List.nodup_append.1 hndp).2.2 k hc k hk rfl
  have hsame : ∀ k ∈ U ++ post.flatMap (foot h), w'.heap[k]? = w.heap[k]? := fun k hk' => hk.touch.block k (hX k hk') (hXc k hk')
  have hUp : ∀ k, k = H.p ∨ H.kv.ownBlock = some k ∨ H.cv.ownBlock = some k → k ∈ U ++ post.flatMap (foot h) := fun k hk => by
    rw [hU]
    simp only [List.mem_append, List.mem_cons, Option.mem_toList, List.mem_flatMap]
    rcases hk with rfl | e | e
    · exact .inl (.inl (.inl rfl))
    · exact .inl (.inl (.inr (.inl e)))
    · exact .inl (.inl (.inr (.inr e)))
  have hmap : (pre ++ c' :: post).map (ptrV h) = (pre ++ c :: post).map (ptrV h) := by
    rw [List.map_append, List.map_append, List.map_cons, List.map_cons]
    congr 2
    unfold ptrV; rw [hk.root]
  have hl : (pre ++ c' :: post).length = (pre ++ c :: post).length := by simp
  refine ⟨⟨?_, h2, ?_, ?_, h5, fun d hd => ?_⟩, ?_, ?_, ?_, rfl⟩
  · rw [hsame _ (hUp _ (.inl rfl))]; exact h1
  · exact ownsRow_same h3 fun k hk => hsame k (hUp k (.inr (.inl hk)))
  · show w'.ownsRow B 27 1 H.cv (pre ++ c' :: post).length ((pre ++ c' :: post).map (ptrV h))
    rw [hmap, hl]
    exact ownsRow_same h4 fun k hk => hsame k (hUp k (.inr (.inr hk)))
  · rcases List.mem_append.1 hd with hd | hd
    · refine Lies.same h d (h6 d (List.mem_append.2 (.inl hd))) fun k hk => hsame k ?_
      rw [hU]
      exact List.mem_append.2 (.inl (List.mem_append.2 (.inr (List.mem_flatMap.2 ⟨d, hd, hk⟩))))
    · rcases List.mem_cons.1 hd with rfl | hd
      · exact hk.lies
      · exact Lies.same h d (h6 d (List.mem_append.2 (.inr (List.mem_cons_of_mem _ hd)))) fun k hk => hsame k (List.mem_append.2 (.inr (List.mem_flatMap.2 ⟨d, hd, hk⟩)))
  · rw [hfo']
    exact hp2.nodup_iff.2 (nodup_turn w.heap.size hndp hk.nodup hk.place hX)
  · intro k hk'
    rw [hfo'] at hk'
    rw [hfo]
    rcases List.mem_append.1 (hp2.mem_iff.1 hk') with e | e
    · rcases hk.place k e with e | e
      · exact .inl (hp1.mem_iff.2 (List.mem_append.2 (.inl e)))
      · exact .inr e
    · exact .inl (hp1.mem_iff.2 (List.mem_append.2 (.inr e)))
  · rw [hfo]
    exact hk.touch.mono fun k _ e => hp1.mem_iff.2 (List.mem_append.2 (.inl e))

end Go.Proofs.Qxb6604036a
