/- refill (39) on a tree, whatever its kids. -/
import Derived.Test.Qxb6604036aRefT
namespace Go.Proofs.Qxb6604036a
open Go.RowKit Plain
set_option linter.unusedVariables false
set_option linter.unusedSimpArgs false

set_option maxHeartbeats 4000000 in
set_option maxRecDepth 100000 in
theorem ref0 (np gm m cm cp k cc i : Nat) (ca : Option Addr) (w : World) (h1 : w.cell? ⟨np, 1, none⟩ = some (.slice (some ⟨gm, 0, none⟩) m cm)) (h2 : w.cell? ⟨gm, i, none⟩ = some (.pointer (some ⟨cp, 0, none⟩))) (h3 : w.cell? ⟨cp, 0, none⟩ = some (.slice ca k cc)) (hi : i < m) (hk : 32 ≤ k) (hk2 : k ≤ 64) :
    Calls Try.prog 39 #[.pointer (some ⟨np, 0, none⟩), .int .i64 (i : Int)] w (fun e w' => e = .returned (.tuple #[]) ∧ w = w') := by
  have hiI : (i : Int) < (m : Int) := by omega
  have hkI : (32 : Int) ≤ (k : Int) := by omega
  go_enter Try.func39, Try.ntmps39
  go_wp2
  refine bodyPost_ret (v := .tuple #[]) (by simp [results, Try.results39, go_sem]) rfl ?_
  exact ⟨rfl, rfl⟩

theorem split_keys {α : Type} (ks : List α) (a c : Nat) (h : ks.length = a + 1 + c) : ∃ K1 x K2, ks = K1 ++ x :: K2 ∧ K1.length = a ∧ K2.length = c := by
  have ha : a < ks.length := by omega
  refine ⟨ks.take a, ks[a], ks.drop (a + 1), ?_, by simp; omega, by simp; omega⟩
  rw [← List.drop_eq_getElem_cons ha, List.take_append_drop]

theorem okT_31 {h : Nat} {t : AT h} (h0 : okT h 32 t) : okT h 31 t := by
  obtain ⟨a, b, c⟩ := okT_ns.1 h0
  exact okT_ns.2 ⟨by omega, b, c⟩

theorem refillT {B : Nat} {w : World} {h : Nat} {t : AT (h + 1)} (hL : Lies B w (h + 1) t) (hnd : (foot (h + 1) t).Nodup) (hk1 : 1 ≤ t.1.ks.length) (h64 : t.1.ks.length ≤ 64) (hlen : t.2.length = t.1.ks.length + 1) (i : Nat) (c : AT h) (hc : t.2[i]? = some c) (hok : okT h 31 c)
    (hoth : ∀ j d, t.2[j]? = some d → j ≠ i → okT h 32 d) : Calls Try.prog 39 #[.pointer (some ⟨t.1.p, 0, none⟩), .int .i64 (i : Int)] w (RefillPost B h t w) := by
  obtain ⟨H, cs⟩ := t
  simp only at hk1 h64 hlen hc hoth
  have hi : i < cs.length := (List.getElem?_eq_some_iff.1 hc).1
  obtain ⟨n1, n2, n3⟩ := lies_ns.1 hL
  obtain ⟨pre, post, hcs, hpre⟩ : ∃ pre post, cs = pre ++ c :: post ∧ pre.length = i := by
    refine ⟨cs.take i, cs.drop (i + 1), ?_, by simp; omega⟩
    have : cs[i] = c := by rw [List.getElem?_eq_getElem hi] at hc; simpa using hc
    rw [← this, ← List.drop_eq_getElem_cons hi, List.take_append_drop]
  subst hcs
  have hothA : ∀ d ∈ pre, okT h 32 d := fun d hd => by
    obtain ⟨j, hj, e⟩ := List.getElem_of_mem hd
    exact hoth j d (by rw [List.getElem?_append_left hj, List.getElem?_eq_getElem hj, e]) (by omega)
  have hothB : ∀ d ∈ post, okT h 32 d := fun d hd => by
    obtain ⟨j, hj, e⟩ := List.getElem_of_mem hd
    refine hoth (i + 1 + j) d ?_ (by omega)
    rw [List.getElem?_append_right (by omega), show i + 1 + j - pre.length = j + 1 by omega, List.getElem?_cons_succ, List.getElem?_eq_getElem hj, e]
  have hcL := n3 c (List.mem_append.2 (.inr (List.mem_cons_self ..)))
  obtain ⟨⟨m1, m2, m3, m4⟩, hccv, hcsub⟩ := lies_ns.1 hcL
  obtain ⟨ca, cc, e1, _, _⟩ := ownsRow_slice m3
  obtain ⟨o1, o2, o3⟩ := okT_ns.1 hok
  have hcell : w.cell? ⟨(ns h c).p, 0, none⟩ = some (.slice ca (hd h c).ks.length cc) := by rw [cell_node0 m1, e1]; rfl
  have hlen' : pre.length + (post.length + 1) = H.ks.length + 1 := by simpa using hlen
  subst hpre
  by_cases h32 : 32 ≤ (hd h c).ks.length
  · -- nothing to do
    obtain ⟨nb1, nb2, nb3, nb4⟩ := n1
    have hlm : (ns (h + 1) (H, pre ++ c :: post)).ps.length = (pre ++ c :: post).length := List.length_map ..
    obtain ⟨gm, cm, f1, f2, f3, f4, f5, f6⟩ := ownsRow_cell nb4 (by rw [hlm, List.length_append, List.length_cons]; omega)
    have hp := f6 pre.length _ (ptr_at pre post c)
    have hc1 := cell_node1 nb1
    rw [f1] at hc1
    refine (ref0 H.p gm _ cm (ns h c).p (hd h c).ks.length cc pre.length ca w hc1 hp hcell (by rw [hlm]; exact hi) h32 o2).mono ?_
    rintro e w' ⟨rfl, rfl⟩
    refine ⟨rfl, (H, pre ++ c :: post), ⟨hL, hnd, fun k hk => .inl hk, Touch.refl _ _⟩, ⟨?_, h64, hlen, fun d hd => ?_⟩, rfl, rfl⟩
    · show H.ks.length - 1 ≤ H.ks.length; omega
    · rcases List.mem_append.1 hd with hd | hd
      · exact hothA d hd
      · rcases List.mem_cons.1 hd with rfl | hd
        · exact okT_ns.2 ⟨h32, o2, o3⟩
        · exact hothB d hd
  · have hck : (hd h c).ks.length = 31 := by omega
    rw [hck] at hcell
    by_cases hA : ∃ pre' L, pre = pre' ++ [L] ∧ 33 ≤ (hd h L).ks.length
    · obtain ⟨pre', L, rfl, hLk⟩ := hA
      have hlp : (pre' ++ [L]).length = pre'.length + 1 := by simp
      obtain ⟨K1, x, K2, hks, hK1, hK2⟩ := split_keys H.ks pre'.length post.length (by rw [hlp] at hlen'; omega)
      have hre : (H, pre' ++ [L] ++ c :: post) = (H, pre' ++ L :: c :: post) := by simp
      rw [hlp]
      have := refT_A (B := B) (w := w) (H := H) (pre := pre') (post := post) (L := L) (c := c) (K1 := K1) (K2 := K2) (x := x) (by rw [← hre]; exact hL) (by rw [← hre]; exact hnd) hks hK1 hK2 h64 (fun d hd => by
        rcases List.mem_append.1 hd with hd | hd
        · exact hothA d (List.mem_append.2 (.inl hd))
        · exact hothB d hd) hok hck (hothA L (List.mem_append.2 (.inr (List.mem_singleton.2 rfl)))) hLk
      rw [hre]
      exact this
    · have hnoL : pre = [] ∨ ∃ pre' d, pre = pre' ++ [d] ∧ (hd h d).ks.length ≤ 32 := by
        rcases List.eq_nil_or_concat pre with e | ⟨pre', d, e⟩
        · exact .inl e
        · refine .inr ⟨pre', d, by rw [e]; simp, ?_⟩
          rcases Nat.lt_or_ge 32 (hd h d).ks.length with hl | hl
          · exact absurd ⟨pre', d, by rw [e]; simp, hl⟩ hA
          · exact hl
      by_cases hB : ∃ R post', post = R :: post' ∧ 33 ≤ (hd h R).ks.length
      · obtain ⟨R, post', rfl, hRk⟩ := hB
        obtain ⟨K1, x, K2, hks, hK1, hK2⟩ := split_keys H.ks pre.length post'.length (by rw [List.length_cons] at hlen'; omega)
        exact refT_B hL hnd hks hK1 hK2 h64 (fun d hd => by
          rcases List.mem_append.1 hd with hd | hd
          · exact hothA d hd
          · exact hothB d (List.mem_cons_of_mem _ hd)) hok hck (hothB R (List.mem_cons_self ..)) hRk hnoL
      · have hnoR : post = [] ∨ ∃ d post', post = d :: post' ∧ (hd h d).ks.length ≤ 32 := by
          cases post with
          | nil => exact .inl rfl
          | cons d post' =>
            refine .inr ⟨d, post', rfl, ?_⟩
            rcases Nat.lt_or_ge 32 (hd h d).ks.length with hl | hl
            · exact absurd ⟨d, post', rfl, hl⟩ hB
            · exact hl
        have hno := noLeftC_of (rest := c :: post) hL hnoL
        have hnr := noRightC_of hL hnoR
        rcases hnoR with rfl | ⟨r, post', rfl, hrk⟩
        · rcases hnoL with rfl | ⟨pre', l, rfl, hlk⟩
          · exfalso; simp only [List.length_nil] at hlen'; omega
          · have hlp : (pre' ++ [l]).length = pre'.length + 1 := by simp
            obtain ⟨K1, x, K2, hks, hK1, hK2⟩ := split_keys H.ks pre'.length 0 (by rw [hlp] at hlen'; simp only [List.length_nil] at hlen'; omega)
            have hre : (H, pre' ++ [l] ++ [c]) = (H, pre' ++ l :: c :: []) := by simp
            have hre2 : pre' ++ [l] ++ [c] = pre' ++ l :: c :: [] := by simp
            rw [hlp] at hno hnr ⊢
            rw [hre2] at hno hnr
            have := refT_C (B := B) (w := w) (H := H) (pre := pre') (post := []) (l := l) (r := c) (K1 := K1) (K2 := K2) (x := x) (pre'.length + 1) (ns h c).p ca cc (by rw [← hre]; exact hL) (by rw [← hre]; exact hnd) hks hK1 hK2 h64 (fun d hd => by
              rcases List.mem_append.1 hd with hd | hd
              · exact hothA d (List.mem_append.2 (.inl hd))
              · cases hd) (okT_31 (hothA l (List.mem_append.2 (.inr (List.mem_singleton.2 rfl))))) hok (by omega) (by omega) (.inr ⟨rfl, rfl⟩) (ptr_at2 pre' [] l c) hcell hno hnr
            rw [hre]
            exact this
        · obtain ⟨K1, x, K2, hks, hK1, hK2⟩ := split_keys H.ks pre.length post'.length (by rw [List.length_cons] at hlen'; omega)
          exact refT_C pre.length (ns h c).p ca cc hL hnd hks hK1 hK2 h64 (fun d hd => by
            rcases List.mem_append.1 hd with hd | hd
            · exact hothA d hd
            · exact hothB d (List.mem_cons_of_mem _ hd)) hok (okT_31 (hothB r (List.mem_cons_self ..))) (by omega) (by omega) (.inl rfl) (ptr_at pre (r :: post') c) hcell hno hnr

end Go.Proofs.Qxb6604036a
