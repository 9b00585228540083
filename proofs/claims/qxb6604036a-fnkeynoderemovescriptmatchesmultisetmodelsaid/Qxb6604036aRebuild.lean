/- A tree put together again, of nodes that were turned and subtrees that stayed. -/
import Derived.Test.Qxb6604036aSub
namespace Go.Proofs.Qxb6604036a
open Go.RowKit Plain
set_option linter.unusedVariables false
set_option linter.unusedSimpArgs false

theorem nodup_turn {A A' X : List Nat} (N : Nat) (h : (A ++ X).Nodup) (h' : A'.Nodup) (hp : ∀ k ∈ A', k ∈ A ∨ N ≤ k) (hX : ∀ k ∈ X, k < N) : (A' ++ X).Nodup := by
  obtain ⟨h1, h2, h3⟩ := List.nodup_append.1 h
  refine List.nodup_append.2 ⟨h', h2, fun a ha b hb e => ?_⟩
  subst e
  rcases hp a ha with hA | hN
  · exact h3 a hA a hb rfl
  · have := hX a hb; omega

theorem rebuild {B : Nat} {w w' : World} {h : Nat} {H H' : Hd} {cs cs' : List (AT h)} (A A' : List NS) (X : List Nat) (hL : Lies B w (h + 1) (H, cs)) (hnd : (foot (h + 1) (H, cs)).Nodup) (hF : (foot (h + 1) (H, cs)).Perm (A.flatMap NS.ft ++ X))
    (hSt : St B (fun k => k ∈ A.flatMap NS.ft) w w' A') (hF' : (foot (h + 1) (H', cs')).Perm (A'.flatMap NS.ft ++ X)) (hN : Nd B w' (ns (h + 1) (H', cs'))) (hcv : ∃ k, H'.cv.ownBlock = some k)
    (hkids : ∀ c ∈ cs', (Lies B w h c ∧ ∀ k ∈ foot h c, k ∈ X) ∨ (Nd B w' (ns h c) ∧ cvOk h (hd h c).cv ∧ subLies B w h (subs h c) ∧ ∀ k ∈ subF h (subs h c), k ∈ X)) :
    Lies B w' (h + 1) (H', cs') ∧ (foot (h + 1) (H', cs')).Nodup ∧ (∀ k ∈ foot (h + 1) (H', cs'), k ∈ foot (h + 1) (H, cs) ∨ w.heap.size ≤ k) ∧ Touch (· ∈ foot (h + 1) (H, cs)) w w' := by
  have hlt := Lies.lt (h + 1) _ hL
  have hXlt : ∀ k ∈ X, k < w.heap.size := fun k hk => (hlt k (hF.mem_iff.2 (List.mem_append.2 (.inr hk)))).2
  have hAX : (A.flatMap NS.ft ++ X).Nodup := hF.nodup_iff.1 hnd
  have hXA : ∀ k ∈ X, k ∉ A.flatMap NS.ft := fun k hk hA => (List.nodup_append.1 hAX).2.2 k hA k hk rfl
  have hsame : ∀ k ∈ X, w'.heap[k]? = w.heap[k]? := fun k hk => hSt.touch.block k (hXlt k hk) (hXA k hk)
  refine ⟨?_, ?_, ?_, ?_⟩
  · refine lies_ns.2 ⟨hN, hcv, fun c hc => ?_⟩
    rcases hkids c hc with ⟨h1, h2⟩ | ⟨h1, h2, h3, h4⟩
    · exact Lies.same h c h1 fun k hk => hsame k (h2 k hk)
    · exact lies_ns.2 ⟨h1, h2, h3.same fun k hk => hsame k (h4 k hk)⟩
  · exact hF'.nodup_iff.2 (nodup_turn w.heap.size hAX hSt.nodup hSt.place hXlt)
  · intro k hk
    rcases List.mem_append.1 (hF'.mem_iff.1 hk) with hA | hX
    · rcases hSt.place k hA with h1 | h1
      · exact .inl (hF.mem_iff.2 (List.mem_append.2 (.inl h1)))
      · exact .inr h1
    · exact .inl (hF.mem_iff.2 (List.mem_append.2 (.inr hX)))
  · exact hSt.touch.mono fun k _ hk => hF.mem_iff.2 (List.mem_append.2 (.inl hk))

/-- The feet of a tree with two kids picked out. -/
theorem foot_two {h : Nat} {H : Hd} {pre post : List (AT h)} {l r : AT h} (hl : cvOk h (hd h l).cv) (hr : cvOk h (hd h r).cv) :
    (foot (h + 1) (H, pre ++ l :: r :: post)).Perm ([ns h l, ns (h + 1) (H, pre ++ l :: r :: post), ns h r].flatMap NS.ft ++ (pre.flatMap (foot h) ++ post.flatMap (foot h) ++ (subF h (subs h l) ++ subF h (subs h r)))) := by
  rw [List.perm_iff_count]
  intro k
  have e : foot (h + 1) (H, pre ++ l :: r :: post) = (ns (h + 1) (H, pre ++ l :: r :: post)).ft ++ (pre.flatMap (foot h) ++ ((ns h l).ft ++ subF h (subs h l) ++ ((ns h r).ft ++ subF h (subs h r) ++ post.flatMap (foot h)))) := by
    rw [← foot_ns hl, ← foot_ns hr]
    show H.p :: (H.kv.ownBlock.toList ++ (H.cv.ownBlock.toList ++ (pre ++ l :: r :: post).flatMap (foot h))) = (H.p :: (H.kv.ownBlock.toList ++ H.cv.ownBlock.toList)) ++ _
    simp [List.flatMap_append]
  rw [e]
  simp only [List.flatMap_cons, List.flatMap_nil, List.count_append, List.append_nil]
  omega

/-- .. with one kid picked out. -/
theorem foot_one {h : Nat} {H : Hd} {pre post : List (AT h)} {l : AT h} (hl : cvOk h (hd h l).cv) :
    (foot (h + 1) (H, pre ++ l :: post)).Perm ([ns h l, ns (h + 1) (H, pre ++ l :: post)].flatMap NS.ft ++ (pre.flatMap (foot h) ++ post.flatMap (foot h) ++ subF h (subs h l))) := by
  rw [List.perm_iff_count]
  intro k
  have e : foot (h + 1) (H, pre ++ l :: post) = (ns (h + 1) (H, pre ++ l :: post)).ft ++ (pre.flatMap (foot h) ++ ((ns h l).ft ++ subF h (subs h l) ++ post.flatMap (foot h))) := by
    rw [← foot_ns hl]
    show H.p :: (H.kv.ownBlock.toList ++ (H.cv.ownBlock.toList ++ (pre ++ l :: post).flatMap (foot h))) = (H.p :: (H.kv.ownBlock.toList ++ H.cv.ownBlock.toList)) ++ _
    simp [List.flatMap_append]
  rw [e]
  simp only [List.flatMap_cons, List.flatMap_nil, List.count_append, List.append_nil]
  omega

/-- A tree's nodes, by themselves. -/
theorem St.two_of {B : Nat} {w : World} {h : Nat} {H : Hd} {pre post : List (AT h)} {l r : AT h} (hL : Lies B w (h + 1) (H, pre ++ l :: r :: post)) (hnd : (foot (h + 1) (H, pre ++ l :: r :: post)).Nodup) :
    St B (fun k => k ∈ [ns h l, ns (h + 1) (H, pre ++ l :: r :: post), ns h r].flatMap NS.ft) w w [ns h l, ns (h + 1) (H, pre ++ l :: r :: post), ns h r] ∧ cvOk h (hd h l).cv ∧ cvOk h (hd h r).cv := by
  obtain ⟨n1, n2, n3⟩ := lies_ns.1 hL
  have hl := lies_ns.1 (n3 l (List.mem_append.2 (.inr (List.mem_cons_self ..))))
  have hr := lies_ns.1 (n3 r (List.mem_append.2 (.inr (List.mem_cons_of_mem _ (List.mem_cons_self ..)))))
  have hp := foot_two (H := H) (pre := pre) (post := post) hl.2.1 hr.2.1
  refine ⟨⟨?_, (List.nodup_append.1 (hp.nodup_iff.1 hnd)).1, fun k hk => .inl hk, Touch.refl _ _, ?_⟩, hl.2.1, hr.2.1⟩
  · intro a ha
    simp only [List.mem_cons, List.not_mem_nil, or_false] at ha
    rcases ha with rfl | rfl | rfl
    · exact hl.1
    · exact n1
    · exact hr.1
  · intro a ha u hu
    simp only [List.mem_cons, List.not_mem_nil, or_false] at ha
    rcases ha with rfl | rfl | rfl
    · obtain ⟨p, rfl⟩ := subP_ptr u hu; rfl
    · obtain ⟨p, rfl⟩ := subP_ptr (h := h + 1) u hu; rfl
    · obtain ⟨p, rfl⟩ := subP_ptr u hu; rfl

end Go.Proofs.Qxb6604036a
