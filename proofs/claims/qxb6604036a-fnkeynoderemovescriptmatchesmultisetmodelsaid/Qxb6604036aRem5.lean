/- remove (32): any tree. -/
import Derived.Test.Qxb6604036aRem4
import Derived.Test.Qxb6604036aShape
import Derived.Test.Qxb6604036aInner
namespace Go.Proofs.Qxb6604036a
open Go.RowKit Plain
set_option linter.unusedVariables false
set_option linter.unusedSimpArgs false

theorem lb_take (x : ByteArray) : ∀ (ks : List ByteArray), ∀ k ∈ ks.take (lb x ks), sl k x = true
  | [], k, h => by simp at h
  | a :: ks, k, h => by
    unfold lb at h
    split at h
    · rename_i ha
      rw [List.take_succ_cons] at h
      rcases List.mem_cons.1 h with e | h
      · rw [e]; exact ha
      · exact lb_take x ks k h
    · simp at h

theorem lb_drop (x : ByteArray) : ∀ (ks : List ByteArray), Sorted sl ks → ∀ k ∈ ks.drop (lb x ks), sl k x = false
  | [], _, k, h => by simp at h
  | a :: ks, hs, k, h => by
    unfold lb at h
    split at h
    · rw [List.drop_succ_cons] at h
      exact lb_drop x ks (List.pairwise_cons.1 hs).2 k h
    · rename_i ha
      have ha' : sl a x = false := by simpa using ha
      rw [List.drop_zero] at h
      rcases List.mem_cons.1 h with e | h
      · rw [e]; exact ha'
      · have h1 : sl k a = false := (List.pairwise_cons.1 hs).1 k h
        cases h2 : sl k x with
        | false => rfl
        | true =>
          have h3 := sto.le_lt h1 h2
          rw [h3] at ha'; cases ha'

/-- remove on any tree. -/
theorem removeT (B : Nat) : ∀ (h : Nat) (t : AT h) (x : ByteArray) (w : World), Lies B w h t → (foot h t).Nodup → okT h (if h = 0 then 0 else 1) t → Sorted sl (inorder h t) → Calls Try.prog 32 #[ptrV h t, .string x] w (RemPost B h t x w)
  | 0, t, x, w, hL, hnd, hok, hs => rem_leaf B t x w hL hnd hok.2 hs
  | h + 1, (H, kids), x, w, hL, hnd, hok, hs => by
    obtain ⟨o1, o2, o3, o4⟩ := id hok
    have o1' : 1 ≤ H.ks.length := o1
    have o3' : kids.length = H.ks.length + 1 := o3
    have hle := lb_le x H.ks
    have hik : lb x H.ks < kids.length := by omega
    obtain ⟨pre, c, post, hk, hpre⟩ : ∃ pre c post, kids = pre ++ c :: post ∧ pre.length = lb x H.ks :=
      ⟨kids.take (lb x H.ks), kids[lb x H.ks], kids.drop (lb x H.ks + 1), by rw [← List.drop_eq_getElem_cons hik, List.take_append_drop], by rw [List.length_take]; omega⟩
    subst hk
    have hsk : Sorted sl H.ks := hs.sublist (weave_keys _ _ (by rw [List.length_map]; exact o3'))
    have hndc : (foot h c).Nodup := by
      rw [foot_mid] at hnd
      exact nodup_append_left' (nodup_append_right' hnd)
    have lp : pre.length + (post.length + 1) = H.ks.length + 1 := by simpa using o3'
    have hsc : Sorted sl (inorder h c) := by
      have hs' : Sorted sl (weave ((pre ++ c :: post).map (inorder h)) H.ks) := hs
      rw [← List.take_append_drop pre.length H.ks, List.map_append, List.map_cons] at hs'
      exact sorted_child (by rw [List.length_map, List.length_take]; omega) (by rw [List.length_map, List.length_drop]; omega) hs'
    have hcok : okT h 32 c := o4 c (by simp)
    have hcok' : okT h (if h = 0 then 0 else 1) c := okT_down hcok (by split <;> omega)
    have hcL : Lies B w h c := hL.2.2.2.2.2 c (by simp)
    by_cases hx : pre.length < H.ks.length ∧ H.ks.getD pre.length ByteArray.empty = x
    · exact rem_hit B h H pre post c x w hL hnd hok hs hpre hx.1 hx.2 fun w' hl => removeT B h c _ w' hl hndc hcok' hsc
    · exact rem_miss B h H pre post c x w hL hnd hok hs hpre (not_mem_of hsk (by rw [hpre]; exact lb_take x H.ks) (by rw [hpre]; exact lb_drop x H.ks hsk) hx) (removeT B h c x w hcL hndc hcok' hsc)

end Go.Proofs.Qxb6604036a
