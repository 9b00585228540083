/- remove: the way down to the last key. -/
import Derived.Test.Qxb6604036aRem0
namespace Go.Proofs.Qxb6604036a
open Go.RowKit Plain
set_option linter.unusedVariables false
set_option linter.unusedSimpArgs false

/-- The nodes down the right edge, from the root on. -/
def chain : (h : Nat) → AT h → List Nat
  | 0, t => [t.p]
  | h + 1, t => t.1.p :: (t.2.getLast?.toList.flatMap (chain h))

theorem chain_sub : ∀ (h : Nat) (t : AT h), (chain h t).Sublist (foot h t)
  | 0, t => by
    show [t.p].Sublist (t.p :: t.kv.ownBlock.toList)
    exact (List.nil_sublist _).cons_cons _
  | h + 1, t => by
    show (t.1.p :: (t.2.getLast?.toList.flatMap (chain h))).Sublist (t.1.p :: (t.1.kv.ownBlock.toList ++ (t.1.cv.ownBlock.toList ++ t.2.flatMap (foot h))))
    refine List.Sublist.cons_cons _ (List.Sublist.trans ?_ (List.sublist_append_right _ _))
    refine List.Sublist.trans ?_ (List.sublist_append_right _ _)
    rcases List.eq_nil_or_concat t.2 with e | ⟨l, c, e⟩
    · rw [e]; simp
    · rw [e]
      simp only [List.concat_eq_append, List.getLast?_append, List.getLast?_singleton, Option.toList_some, List.flatMap_append, List.flatMap_cons, List.flatMap_nil, List.append_nil, Option.some_or]
      exact (chain_sub h c).trans (List.sublist_append_right _ _)

/-- The measure of a node on the edge: what is left of the edge from it on. -/
def blk : Value → Nat
  | .pointer (some a) => a.block
  | _ => 0
def edge (l : List Nat) (v : Value) : Nat := (l.dropWhile (fun k => decide (k ≠ blk v))).length

theorem edge_at {l A R : List Nat} {p : Nat} (e : l = A ++ p :: R) (hn : l.Nodup) : edge l (.pointer (some ⟨p, 0, none⟩)) = R.length + 1 := by
  subst e
  unfold edge
  have hA : ∀ k ∈ A, k ≠ p := fun k hk e => (List.nodup_append.1 hn).2.2 k hk p (List.mem_cons_self ..) e
  have : ∀ A : List Nat, (∀ k ∈ A, k ≠ p) → (A ++ p :: R).dropWhile (fun k => decide (k ≠ blk (.pointer (some ⟨p, 0, none⟩)))) = p :: R := by
    intro A
    induction A with
    | nil => intro _; simp [blk]
    | cons a A ih =>
      intro hA
      have h1 : a ≠ p := hA a (List.mem_cons_self ..)
      have h2 : decide (a ≠ blk (.pointer (some ⟨p, 0, none⟩))) = true := decide_eq_true (p := a ≠ p) h1
      rw [List.cons_append, List.dropWhile_cons, if_pos h2]
      exact ih fun k hk => hA k (List.mem_cons_of_mem _ hk)
  rw [this A hA]; rfl

/-- The last key below a node. -/
def lastK : (h : Nat) → AT h → ByteArray
  | 0, t => t.ks.getLastD ByteArray.empty
  | h + 1, t => match t.2.getLast? with
    | some c => lastK h c
    | none => ByteArray.empty

theorem inorder_last : ∀ (h : Nat) (t : AT h), okT h 1 t → ∃ I, inorder h t = I ++ [lastK h t]
  | 0, t, hok => by
    show ∃ I, t.ks = I ++ [t.ks.getLastD ByteArray.empty]
    rcases List.eq_nil_or_concat t.ks with e | ⟨l, y, e⟩
    · have := hok.1; rw [e] at this; simp at this
    · rw [e]; exact ⟨l, by simp⟩
  | h + 1, t, hok => by
    obtain ⟨o1, o2, o3, o4⟩ := hok
    rcases List.eq_nil_or_concat t.2 with e | ⟨l, c, e⟩
    · rw [e] at o3; simp at o3
    · have e' : t.2 = l ++ [c] := by rw [e]; simp
      obtain ⟨I, hI⟩ := inorder_last h c (by
        obtain ⟨a, b, d⟩ := okT_ns.1 (o4 c (by rw [e']; simp))
        exact okT_ns.2 ⟨by omega, b, d⟩)
      have hl : l.length = t.1.ks.length := by rw [e'] at o3; simp at o3; omega
      have hk : lastK (h + 1) t = lastK h c := by
        show (match t.2.getLast? with | some c => lastK h c | none => ByteArray.empty) = _
        rw [e']; simp
      have hw := weave_at (inorder h c) [] [] rfl (l.map (inorder h)) t.1.ks (by simp [hl])
      simp only [List.append_nil] at hw
      refine ⟨pl (l.map (inorder h)) t.1.ks ++ I, ?_⟩
      show weave (t.2.map (inorder h)) t.1.ks = _
      rw [e', List.map_append, List.map_cons, List.map_nil, hw, hI, hk]
      simp [pr]

end Go.Proofs.Qxb6604036a
