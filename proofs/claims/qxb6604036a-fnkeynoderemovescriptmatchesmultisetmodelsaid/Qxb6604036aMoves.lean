/- Subtrees that go over from one node to the next. -/
import Derived.Test.Qxb6604036aRebuild
namespace Go.Proofs.Qxb6604036a
open Go.RowKit Plain
set_option linter.unusedVariables false
set_option linter.unusedSimpArgs false

theorem map_snoc {α β : Type} (f : α → β) : ∀ (l : List α) (q : List β) (u : β), l.map f = q ++ [u] → ∃ l0 a, l = l0 ++ [a] ∧ l0.map f = q ∧ f a = u := by
  intro l q u h
  rcases List.eq_nil_or_concat l with rfl | ⟨l0, a, rfl⟩
  · simp at h
  · have h' : l0.map f ++ [f a] = q ++ [u] := by simpa using h
    have h1 := List.append_inj' h' rfl
    exact ⟨l0, a, by simp, h1.1, by simpa using h1.2⟩

theorem map_cons_ {α β : Type} (f : α → β) : ∀ (l : List α) (q : List β) (u : β), l.map f = u :: q → ∃ a l0, l = a :: l0 ∧ l0.map f = q ∧ f a = u := by
  intro l q u h
  cases l with
  | nil => cases h
  | cons a l0 => exact ⟨a, l0, rfl, (List.cons.inj h).2, (List.cons.inj h).1⟩

/-- The last subtree of the left node goes ahead of the right node's. -/
theorem move_last {h : Nat} {gsL gsC : Subs h} {n m : Nat} {cps lps : List Value} (okL : subOk h gsL (n + 1)) (okC : subOk h gsC m)
    (alt : (subP h gsL = [] ∧ cps = subP h gsC ∧ lps = []) ∨ ∃ q0 u, subP h gsL = q0 ++ [u] ∧ cps = u :: subP h gsC ∧ lps = q0) :
    ∃ gsL' gsC' : Subs h, subP h gsL' = lps ∧ subP h gsC' = cps ∧ (subF h gsL' ++ subF h gsC').Perm (subF h gsL ++ subF h gsC) ∧ (∀ B w, subLies B w h gsL → subLies B w h gsC → subLies B w h gsL' ∧ subLies B w h gsC') ∧ subOk h gsL' n ∧ subOk h gsC' (m + 1) ∧
      ∀ (l0 ck : List ByteArray) (y x : ByteArray), l0.length = n → ck.length = m → subIn h gsL (l0 ++ [y]) ++ x :: subIn h gsC ck = subIn h gsL' l0 ++ y :: subIn h gsC' (x :: ck) := by
  cases h with
  | zero =>
    refine ⟨(), (), ?_, ?_, List.Perm.refl _, fun _ _ _ _ => ⟨trivial, trivial⟩, trivial, trivial, fun l0 ck y x _ _ => by simp [subIn]⟩
    · rcases alt with ⟨_, _, e⟩ | ⟨q0, u, e, _, _⟩
      · exact e.symm
      · have := congrArg List.length e; simp [subP] at this
    · rcases alt with ⟨_, e, _⟩ | ⟨q0, u, e, _, _⟩
      · exact e.symm
      · have := congrArg List.length e; simp [subP] at this
  | succ g =>
    obtain ⟨q0, u, e, ec, el⟩ : ∃ q0 u, subP (g + 1) gsL = q0 ++ [u] ∧ cps = u :: subP (g + 1) gsC ∧ lps = q0 := by
      rcases alt with ⟨e, _, _⟩ | h
      · exfalso
        have h1 : List.map (ptrV g) (show List (AT g) from gsL) = [] := e
        have h2 : (show List (AT g) from gsL).length = n + 1 + 1 := okL.1
        rw [List.map_eq_nil_iff.1 h1] at h2; simp at h2
      · exact h
    obtain ⟨gq, gu, e1, e2, e3⟩ := map_snoc (ptrV g) (show List (AT g) from gsL) q0 u e
    have e1' : gsL = (gq ++ [gu] : List (AT g)) := e1
    subst e1'
    have okL' : (gq ++ [gu]).length = n + 1 + 1 ∧ ∀ c ∈ gq ++ [gu], okT g 32 c := okL
    have okC' : List.length (α := AT g) gsC = m + 1 ∧ ∀ c ∈ (show List (AT g) from gsC), okT g 32 c := okC
    have hq : gq.length = n + 1 := by have := okL'.1; simp at this; omega
    refine ⟨(gq : List (AT g)), (gu :: (show List (AT g) from gsC) : List (AT g)), by rw [el]; exact e2, ?_, ?_, fun B w h1 h2 => ⟨fun c hc => ?_, fun c hc => ?_⟩, ⟨hq, fun c hc => okL'.2 c (List.mem_append.2 (.inl hc))⟩, ⟨?_, fun c hc => ?_⟩, fun l0 ck y x hl hck => ?_⟩
    · rw [ec]; show ptrV g gu :: _ = _; rw [e3]; rfl
    · show (gq.flatMap (foot g) ++ (gu :: (show List (AT g) from gsC)).flatMap (foot g)).Perm ((gq ++ [gu]).flatMap (foot g) ++ _)
      rw [List.flatMap_cons, List.flatMap_append, List.flatMap_cons, List.flatMap_nil, List.append_nil, List.append_assoc]
      exact List.Perm.refl _
    · exact h1 c (List.mem_append.2 (.inl hc))
    · rcases List.mem_cons.1 hc with rfl | hc
      · exact h1 c (List.mem_append.2 (.inr (List.mem_singleton.2 rfl)))
      · exact h2 c hc
    · show (gu :: (show List (AT g) from gsC)).length = _; rw [List.length_cons]; exact congrArg (· + 1) okC'.1
    · rcases List.mem_cons.1 hc with rfl | hc
      · exact okL'.2 c (List.mem_append.2 (.inr (List.mem_singleton.2 rfl)))
      · exact okC'.2 c hc
    · show weave ((gq ++ [gu]).map (inorder g)) (l0 ++ [y]) ++ x :: weave ((show List (AT g) from gsC).map (inorder g)) ck = weave (gq.map (inorder g)) l0 ++ y :: weave ((gu :: (show List (AT g) from gsC)).map (inorder g)) (x :: ck)
      have h1 := weave_split y [inorder g gu] [] (gq.map (inorder g)) l0 (by rw [List.length_map]; omega)
      rw [List.map_append, List.map_cons, List.map_nil, h1, List.map_cons]
      simp [weave]

/-- The first subtree of the right node goes behind the left node's. -/
theorem move_first {h : Nat} {gsR gsC : Subs h} {n m : Nat} {cps rps : List Value} (okR : subOk h gsR (n + 1)) (okC : subOk h gsC m)
    (alt : (subP h gsR = [] ∧ cps = subP h gsC ∧ rps = []) ∨ ∃ q0 u, subP h gsR = u :: q0 ∧ cps = subP h gsC ++ [u] ∧ rps = q0) :
    ∃ gsR' gsC' : Subs h, subP h gsR' = rps ∧ subP h gsC' = cps ∧ (subF h gsC' ++ subF h gsR').Perm (subF h gsC ++ subF h gsR) ∧ (∀ B w, subLies B w h gsR → subLies B w h gsC → subLies B w h gsR' ∧ subLies B w h gsC') ∧ subOk h gsR' n ∧ subOk h gsC' (m + 1) ∧
      ∀ (r0 ck : List ByteArray) (y x : ByteArray), r0.length = n → ck.length = m → subIn h gsC ck ++ x :: subIn h gsR (y :: r0) = subIn h gsC' (ck ++ [x]) ++ y :: subIn h gsR' r0 := by
  cases h with
  | zero =>
    refine ⟨(), (), ?_, ?_, List.Perm.refl _, fun _ _ _ _ => ⟨trivial, trivial⟩, trivial, trivial, fun l0 ck y x _ _ => by simp [subIn]⟩
    · rcases alt with ⟨_, _, e⟩ | ⟨q0, u, e, _, _⟩
      · exact e.symm
      · cases e
    · rcases alt with ⟨_, e, _⟩ | ⟨q0, u, e, _, _⟩
      · exact e.symm
      · cases e
  | succ g =>
    obtain ⟨q0, u, e, ec, el⟩ : ∃ q0 u, subP (g + 1) gsR = u :: q0 ∧ cps = subP (g + 1) gsC ++ [u] ∧ rps = q0 := by
      rcases alt with ⟨e, _, _⟩ | h
      · exfalso
        have h1 : List.map (ptrV g) (show List (AT g) from gsR) = [] := e
        have h2 : (show List (AT g) from gsR).length = n + 1 + 1 := okR.1
        rw [List.map_eq_nil_iff.1 h1] at h2; simp at h2
      · exact h
    obtain ⟨gu, gq, e1, e2, e3⟩ := map_cons_ (ptrV g) (show List (AT g) from gsR) q0 u e
    have e1' : gsR = (gu :: gq : List (AT g)) := e1
    subst e1'
    have okR' : (gu :: gq).length = n + 1 + 1 ∧ ∀ c ∈ gu :: gq, okT g 32 c := okR
    have okC' : List.length (α := AT g) gsC = m + 1 ∧ ∀ c ∈ (show List (AT g) from gsC), okT g 32 c := okC
    have hq : gq.length = n + 1 := by have := okR'.1; simp at this; omega
    refine ⟨(gq : List (AT g)), ((show List (AT g) from gsC) ++ [gu] : List (AT g)), by rw [el]; exact e2, ?_, ?_, fun B w h1 h2 => ⟨fun c hc => ?_, fun c hc => ?_⟩, ⟨hq, fun c hc => okR'.2 c (List.mem_cons_of_mem _ hc)⟩, ⟨?_, fun c hc => ?_⟩, fun r0 ck y x hl hck => ?_⟩
    · rw [ec]; show ((show List (AT g) from gsC) ++ [gu]).map (ptrV g) = _; rw [List.map_append, List.map_cons, List.map_nil, e3]; rfl
    · show (((show List (AT g) from gsC) ++ [gu]).flatMap (foot g) ++ gq.flatMap (foot g)).Perm (_ ++ (gu :: gq).flatMap (foot g))
      rw [List.flatMap_append, List.flatMap_cons, List.flatMap_nil, List.append_nil, List.flatMap_cons, List.append_assoc]
      exact List.Perm.refl _
    · exact h1 c (List.mem_cons_of_mem _ hc)
    · rcases List.mem_append.1 hc with hc | hc
      · exact h2 c hc
      · rw [List.mem_singleton.1 hc]; exact h1 gu (List.mem_cons_self ..)
    · show ((show List (AT g) from gsC) ++ [gu]).length = _; rw [List.length_append]; exact congrArg (· + 1) okC'.1
    · rcases List.mem_append.1 hc with hc | hc
      · exact okC'.2 c hc
      · rw [List.mem_singleton.1 hc]; exact okR'.2 gu (List.mem_cons_self ..)
    · show weave ((show List (AT g) from gsC).map (inorder g)) ck ++ x :: weave ((gu :: gq).map (inorder g)) (y :: r0) = weave (((show List (AT g) from gsC) ++ [gu]).map (inorder g)) (ck ++ [x]) ++ y :: weave (gq.map (inorder g)) r0
      have h1 := weave_split x [inorder g gu] [] ((show List (AT g) from gsC).map (inorder g)) ck (by rw [List.length_map, hck]; exact okC'.1)
      rw [List.map_append, List.map_cons (l := []), List.map_nil, h1, List.map_cons]
      simp [weave]

/-- Two nodes' subtrees, one behind the other. -/
theorem move_all {h : Nat} {gsL gsR : Subs h} {n m : Nat} (okL : subOk h gsL n) (okR : subOk h gsR m) :
    ∃ gs' : Subs h, subP h gs' = subP h gsL ++ subP h gsR ∧ subF h gs' = subF h gsL ++ subF h gsR ∧ (∀ B w, subLies B w h gsL → subLies B w h gsR → subLies B w h gs') ∧ subOk h gs' (n + 1 + m) ∧
      ∀ (lk rk : List ByteArray) (x : ByteArray), lk.length = n → rk.length = m → subIn h gs' (lk ++ x :: rk) = subIn h gsL lk ++ x :: subIn h gsR rk := by
  cases h with
  | zero => exact ⟨(), rfl, rfl, fun _ _ _ _ => trivial, trivial, fun lk rk x _ _ => rfl⟩
  | succ g =>
    have okL' : List.length (α := AT g) gsL = n + 1 ∧ ∀ c ∈ (show List (AT g) from gsL), okT g 32 c := okL
    have okR' : List.length (α := AT g) gsR = m + 1 ∧ ∀ c ∈ (show List (AT g) from gsR), okT g 32 c := okR
    refine ⟨((show List (AT g) from gsL) ++ (show List (AT g) from gsR) : List (AT g)), List.map_append .., List.flatMap_append .., fun B w h1 h2 c hc => ?_, ⟨?_, fun c hc => ?_⟩, fun lk rk x hl hr => ?_⟩
    · rcases List.mem_append.1 hc with hc | hc
      · exact h1 c hc
      · exact h2 c hc
    · show ((show List (AT g) from gsL) ++ (show List (AT g) from gsR)).length = _
      have a1 := okL'.1
      have a2 := okR'.1
      rw [List.length_append]
      have b1 : (show List (AT g) from gsL).length = n + 1 := a1
      have b2 : (show List (AT g) from gsR).length = m + 1 := a2
      omega
    · rcases List.mem_append.1 hc with hc | hc
      · exact okL'.2 c hc
      · exact okR'.2 c hc
    · show weave (((show List (AT g) from gsL) ++ (show List (AT g) from gsR)).map (inorder g)) (lk ++ x :: rk) = _
      rw [List.map_append]
      exact weave_split x _ rk _ lk (by rw [List.length_map, hl]; exact okL'.1)

end Go.Proofs.Qxb6604036a
