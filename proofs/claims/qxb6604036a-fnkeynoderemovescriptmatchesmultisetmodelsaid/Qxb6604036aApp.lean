/- append onto an owned row of one-cell elements: where the result lies. -/
import Derived.Test.Qxb6604036aTree
namespace Go.Proofs.Qxb6604036a
open Go.RowKit
set_option linter.unusedVariables false

section
variable {P : Program}

/-- What append(v, src...) leaves. -/
structure AppRow (B e : Nat) (v : Value) (xs news : List Value) (w : World) (v' : Value) (w' : World) : Prop where
  owns : w'.ownsRow B e 1 v' (xs.length + news.length) (xs ++ news)
  touch : Touch (fun k => v.ownBlock = some k) w w'
  place : v'.ownBlock = v.ownBlock ∨ ∃ k, v'.ownBlock = some k ∧ w.heap.size ≤ k
  some_ : xs ++ news ≠ [] → ∃ k, v'.ownBlock = some k

theorem append_row (w : World) (B t ty e : Nat) (i : TypeInfo) (z : Value) (bytes : Nat) (ht : P.underlying t = some (.slice e)) (hi : P.info? e = some i) (hz : i.zero = some z) (hsize : i.size = 1) (hby : i.bytes = bytes) (hz1 : z.cells = #[z])
    (v : Value) (xs : List Value) (hown : w.ownsRow B e 1 v xs.length xs) (src : Value) (news : List Value)
    (hsrc : (src = .slice none 0 0 ∧ news = []) ∨ ∃ a c, src = .slice (some a) news.length c ∧ ∀ j u, news[j]? = some u → w.cell? (a.add j) = some u) (h1 : ∀ u ∈ news, u.oneCell' = true)
    (hbig : (xs.length + news.length) * bytes ≤ 140737488355328) (h63 : xs.length + news.length ≤ maxLen) (hB : B ≤ w.heap.size) :
    ∃ v' w', (Builtin.append_ #[t, t] ty #[v, src]).run P w = .ok v' w' ∧ AppRow B e v xs news w v' w' := by
  rcases hsrc with ⟨rfl, rfl⟩ | ⟨a, c, rfl, hnews⟩
  · refine ⟨v, w, run_append_owned_none (P := P) w B t ty e i 1 ht hi v xs.length xs hown, ⟨by simpa using hown, Touch.refl _ _, .inl rfl, fun hne => ?_⟩⟩
    rcases hown.2 with ⟨_, hn⟩ | ⟨g, cap, cur, rfl, _⟩
    · exact absurd (List.length_eq_zero_iff.1 hn) (by simpa using hne)
    · exact ⟨g, rfl⟩
  · rcases hown.2 with ⟨rfl, hn0⟩ | ⟨g, cap, cur, rfl, hBg, hg, hnc, hcm, hcs, htk⟩
    · have hx : xs = [] := List.length_eq_zero_iff.1 hn0
      subst hx
      by_cases hm : news.length = 0
      · have hne : news = [] := List.length_eq_zero_iff.1 hm
        subst hne
        refine ⟨.slice none 0 0, w, ?_, ⟨World.ownsRow_nil w B e 1, Touch.refl _ _, .inl rfl, fun h => absurd rfl h⟩⟩
        have hf := run_firstCells_some (P := P) w i.size 0 a 0 c [] (by simp) (by simp)
        simp [Builtin.append_, run_underlying ht, sizeOf, typeInfo, hi, Builtin.lenOf, hf]
      · have hr := run_append_nil (P := P) w t ty e i z ht hi hz a news.length c news (by rw [hsize]; omega) hnews (by omega) (by simp only [maxLen, List.length_nil] at h63; omega) (by rw [hby]; simp only [List.length_nil, Nat.zero_add] at hbig; omega)
        obtain ⟨G, hG⟩ : ∃ G, G = grownCap w news.length 0 e := ⟨_, rfl⟩
        have hG1 : news.length ≤ G := by rw [hG]; exact grownCap_ge w _ 0 e
        have hG2 : G ≤ maxLen := by rw [hG]; exact grownCap_le_maxLen w _ 0 e (by simpa using h63)
        rw [← hG, zeroCells_one z hz1] at hr
        have hrow : (w.drew.alloc (.cells (news.toArray ++ (List.replicate (G - news.length) z).toArray) e)).ownsRow B e 1 (.slice (some ⟨w.heap.size, 0, none⟩) news.length G) news.length news :=
          ⟨by simp, .inr ⟨w.heap.size, G, _, rfl, hB, heap_new w.drew _, hG1, hG2, by simp; omega, by simp⟩⟩
        exact ⟨_, _, hr, ⟨by simpa using hrow, (Touch.refl _ _).drew.alloc _, .inr ⟨w.heap.size, rfl, Nat.le_refl _⟩, fun _ => ⟨_, rfl⟩⟩⟩
    · simp only [Nat.mul_one] at hcs htk
      by_cases hroom : xs.length + news.length ≤ cap
      · have hr := run_append_room (P := P) w t ty e i ht hi g xs.length cap cur hg a news.length c news (by rw [hsize]; omega) hnews h1 hroom (by rw [hsize]; omega)
        refine ⟨_, _, hr, ⟨⟨by simp, .inr ⟨g, cap, _, rfl, hBg, setRow_heap w g cur _ e (0, 0) hg, hroom, hcm, ?_, ?_⟩⟩, Touch.setRow (S := fun k => (Value.slice (some ⟨g, 0, none⟩) xs.length cap).ownBlock = some k) (Touch.refl _ _) g (fun _ => rfl) _, .inl rfl, fun _ => ⟨g, rfl⟩⟩⟩
        · rw [hsize]; simp; omega
        · rw [hsize, Nat.mul_one, Nat.mul_one, List.toList_toArray, htk, List.take_left' (by simp)]
      · have hxc : ∀ j u, xs[j]? = some u → w.cell? ((⟨g, 0, none⟩ : Addr).add j) = some u := fun j u hj => row_cells (w := w) hg 0 xs.length j u (by rw [List.drop_zero, htk]; exact hj)
        have hr := run_append_grow (P := P) w t ty e i z ht hi hz ⟨g, 0, none⟩ xs.length cap xs (by rw [hsize]; omega) hxc a news.length c news (by rw [hsize]; omega) hnews (by omega) (by simp only [maxLen] at h63; omega) (by rw [hby]; exact growslice_fits (by omega) hbig)
        refine ⟨_, _, hr, ⟨⟨by simp, .inr ⟨w.heap.size, _, _, rfl, hB, heap_new w.drew _, grownCap_ge w _ cap e, grownCap_le_maxLen w _ cap e h63, ?_, ?_⟩⟩, (Touch.refl _ _).drew.alloc _, .inr ⟨w.heap.size, rfl, Nat.le_refl _⟩, fun _ => ⟨_, rfl⟩⟩⟩
        · have := grownCap_ge w (xs.length + news.length) cap e
          rw [zeroCells_one z hz1]; simp; omega
        · rw [zeroCells_one z hz1, Nat.mul_one, List.append_toArray, List.append_toArray, List.toList_toArray, List.take_left' (by simp)]
end

/-- append(v, u), the element in a block of its own: at []string. -/
theorem appS_one (w : World) (B ty : Nat) (v : Value) (xs : List Value) (u : Value) (vb c : Nat) (hown : w.ownsRow B 9 1 v xs.length xs) (hv : w.cell? ⟨vb, 0, none⟩ = some u) (hu : u.oneCell' = true) (hbig : xs.length ≤ 1048576) (hB : B ≤ w.heap.size) :
    ∃ v' w', (Builtin.append_ #[23, 23] ty #[v, .slice (some ⟨vb, 0, none⟩) 1 c]).run Try.prog w = .ok v' w' ∧ AppRow B 9 v xs [u] w v' w' := by
  obtain ⟨i0, hi0, hz0, hzs, hzb⟩ := infoS
  exact append_row (P := Try.prog) w B 23 ty 9 i0 _ 16 Try.underlying23 hi0 hz0 hzs hzb rfl v xs hown _ [u] (.inr ⟨_, _, rfl, fun j x hj => by
    cases j with
    | zero => rw [Addr.add_lit]; simp at hj; rw [← hj]; exact hv
    | succ j => simp at hj⟩) (by simpa using hu) (by simp; omega) (by unfold maxLen; simp; omega) hB

theorem appP_one (w : World) (B ty : Nat) (v : Value) (xs : List Value) (u : Value) (vb c : Nat) (hown : w.ownsRow B 27 1 v xs.length xs) (hv : w.cell? ⟨vb, 0, none⟩ = some u) (hu : u.oneCell' = true) (hbig : xs.length ≤ 1048576) (hB : B ≤ w.heap.size) :
    ∃ v' w', (Builtin.append_ #[47, 47] ty #[v, .slice (some ⟨vb, 0, none⟩) 1 c]).run Try.prog w = .ok v' w' ∧ AppRow B 27 v xs [u] w v' w' := by
  obtain ⟨i0, hi0, hz0, hzs, hzb⟩ := infoP
  exact append_row (P := Try.prog) w B 47 ty 27 i0 _ 8 Try.underlying47 hi0 hz0 hzs hzb rfl v xs hown _ [u] (.inr ⟨_, _, rfl, fun j x hj => by
    cases j with
    | zero => rw [Addr.add_lit]; simp at hj; rw [← hj]; exact hv
    | succ j => simp at hj⟩) (by simpa using hu) (by simp; omega) (by unfold maxLen; simp; omega) hB

/-- append(v, src...), src an owned row of strings. -/
theorem appS_row (w : World) (B B' ty : Nat) (v src : Value) (xs news : List Value) (hown : w.ownsRow B 9 1 v xs.length xs) (hsrc : w.ownsRow B' 9 1 src news.length news) (h1 : ∀ u ∈ news, u.oneCell' = true) (hbig : xs.length + news.length ≤ 1048576) (hB : B ≤ w.heap.size) :
    ∃ v' w', (Builtin.append_ #[23, 23] ty #[v, src]).run Try.prog w = .ok v' w' ∧ AppRow B 9 v xs news w v' w' := by
  obtain ⟨i0, hi0, hz0, hzs, hzb⟩ := infoS
  refine append_row (P := Try.prog) w B 23 ty 9 i0 _ 16 Try.underlying23 hi0 hz0 hzs hzb rfl v xs hown src news ?_ h1 (by omega) (by unfold maxLen; omega) hB
  rcases hsrc.2 with ⟨rfl, hn⟩ | ⟨g, cap, cur, rfl, _, hg, _, _, _, htk⟩
  · exact .inl ⟨rfl, List.length_eq_zero_iff.1 hn⟩
  · exact .inr ⟨_, _, rfl, fun j u hj => row_cells (w := w) hg 0 news.length j u (by rw [List.drop_zero, ← Nat.mul_one news.length, htk]; exact hj)⟩

theorem appP_row (w : World) (B B' ty : Nat) (v src : Value) (xs news : List Value) (hown : w.ownsRow B 27 1 v xs.length xs) (hsrc : w.ownsRow B' 27 1 src news.length news) (h1 : ∀ u ∈ news, u.oneCell' = true) (hbig : xs.length + news.length ≤ 1048576) (hB : B ≤ w.heap.size) :
    ∃ v' w', (Builtin.append_ #[47, 47] ty #[v, src]).run Try.prog w = .ok v' w' ∧ AppRow B 27 v xs news w v' w' := by
  obtain ⟨i0, hi0, hz0, hzs, hzb⟩ := infoP
  refine append_row (P := Try.prog) w B 47 ty 27 i0 _ 8 Try.underlying47 hi0 hz0 hzs hzb rfl v xs hown src news ?_ h1 (by omega) (by unfold maxLen; omega) hB
  rcases hsrc.2 with ⟨rfl, hn⟩ | ⟨g, cap, cur, rfl, _, hg, _, _, _, htk⟩
  · exact .inl ⟨rfl, List.length_eq_zero_iff.1 hn⟩
  · exact .inr ⟨_, _, rfl, fun j u hj => row_cells (w := w) hg 0 news.length j u (by rw [List.drop_zero, ← Nat.mul_one news.length, htk]; exact hj)⟩

end Go.Proofs.Qxb6604036a
