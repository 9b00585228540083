/- refill (39) on a tree. -/
import Derived.Test.Qxb6604036aMoves
import Derived.Test.Qxb6604036aRefB
import Derived.Test.Qxb6604036aRefC
namespace Go.Proofs.Qxb6604036a
open Go.RowKit Plain
set_option linter.unusedVariables false
set_option linter.unusedSimpArgs false

/-- What a turned tree keeps. -/
structure Kept (B : Nat) (h : Nat) (t t' : AT (h + 1)) (w w' : World) : Prop where
  lies : Lies B w' (h + 1) t'
  nodup : (foot (h + 1) t').Nodup
  place : ∀ k ∈ foot (h + 1) t', k ∈ foot (h + 1) t ∨ w.heap.size ≤ k
  touch : Touch (· ∈ foot (h + 1) t) w w'

theorem finish2 {B : Nat} {w w' : World} {h : Nat} {H H' : Hd} {pre post : List (AT h)} {l r l' r' : AT h} (hL : Lies B w (h + 1) (H, pre ++ l :: r :: post)) (hnd : (foot (h + 1) (H, pre ++ l :: r :: post)).Nodup)
    (hSt : St B (fun k => k ∈ [ns h l, ns (h + 1) (H, pre ++ l :: r :: post), ns h r].flatMap NS.ft) w w' [ns h l', ns (h + 1) (H', pre ++ l' :: r' :: post), ns h r']) (hcl : cvOk h (hd h l').cv) (hcr : cvOk h (hd h r').cv) (hcv : H'.cv = H.cv)
    (hperm : (subF h (subs h l') ++ subF h (subs h r')).Perm (subF h (subs h l) ++ subF h (subs h r))) (hsl : subLies B w h (subs h l')) (hsr : subLies B w h (subs h r')) :
    Kept B h (H, pre ++ l :: r :: post) (H', pre ++ l' :: r' :: post) w w' := by
  obtain ⟨n1, n2, n3⟩ := lies_ns.1 hL
  obtain ⟨_, ol, or⟩ := St.two_of hL hnd
  have hF := foot_two (H := H) (pre := pre) (post := post) ol or
  have hF' := foot_two (H := H') (pre := pre) (post := post) hcl hcr
  obtain ⟨a1, a2, a3, a4⟩ := rebuild [ns h l, ns (h + 1) (H, pre ++ l :: r :: post), ns h r] [ns h l', ns (h + 1) (H', pre ++ l' :: r' :: post), ns h r'] _ hL hnd hF hSt
    (hF'.trans (List.Perm.append_left _ (List.Perm.append_left _ hperm))) (hSt.nd _ (List.mem_cons_of_mem _ (List.mem_cons_self ..))) (by rw [hcv]; exact n2) (fun c hc => by
      rcases List.mem_append.1 hc with hp | hc
      · exact .inl ⟨n3 c (List.mem_append.2 (.inl hp)), fun k hk => List.mem_append.2 (.inl (List.mem_append.2 (.inl (List.mem_flatMap.2 ⟨c, hp, hk⟩))))⟩
      · rcases List.mem_cons.1 hc with rfl | hc
        · exact .inr ⟨hSt.nd _ (List.mem_cons_self ..), hcl, hsl, fun k hk => List.mem_append.2 (.inr (hperm.mem_iff.1 (List.mem_append.2 (.inl hk))))⟩
        · rcases List.mem_cons.1 hc with rfl | hc
          · exact .inr ⟨hSt.nd _ (List.mem_cons_of_mem _ (List.mem_cons_of_mem _ (List.mem_cons_self ..))), hcr, hsr, fun k hk => List.mem_append.2 (.inr (hperm.mem_iff.1 (List.mem_append.2 (.inr hk))))⟩
          · exact .inl ⟨n3 c (List.mem_append.2 (.inr (List.mem_cons_of_mem _ (List.mem_cons_of_mem _ hc)))), fun k hk => List.mem_append.2 (.inl (List.mem_append.2 (.inr (List.mem_flatMap.2 ⟨c, hc, hk⟩))))⟩)
  exact ⟨a1, a2, a3, a4⟩

theorem finish1 {B : Nat} {w w' : World} {h : Nat} {H H' : Hd} {pre post : List (AT h)} {l r l' : AT h} (hL : Lies B w (h + 1) (H, pre ++ l :: r :: post)) (hnd : (foot (h + 1) (H, pre ++ l :: r :: post)).Nodup)
    (hSt : St B (fun k => k ∈ [ns h l, ns (h + 1) (H, pre ++ l :: r :: post), ns h r].flatMap NS.ft) w w' [ns h l', ns (h + 1) (H', pre ++ l' :: post)]) (hcl : cvOk h (hd h l').cv) (hcv : ∃ k, H'.cv.ownBlock = some k)
    (hperm : subF h (subs h l') = subF h (subs h l) ++ subF h (subs h r)) (hsl : subLies B w h (subs h l')) :
    Kept B h (H, pre ++ l :: r :: post) (H', pre ++ l' :: post) w w' := by
  obtain ⟨n1, n2, n3⟩ := lies_ns.1 hL
  obtain ⟨_, ol, or⟩ := St.two_of hL hnd
  have hF := foot_two (H := H) (pre := pre) (post := post) ol or
  have hF' := foot_one (H := H') (pre := pre) (post := post) hcl
  rw [hperm] at hF'
  obtain ⟨a1, a2, a3, a4⟩ := rebuild [ns h l, ns (h + 1) (H, pre ++ l :: r :: post), ns h r] [ns h l', ns (h + 1) (H', pre ++ l' :: post)] _ hL hnd hF hSt
    hF' (hSt.nd _ (List.mem_cons_of_mem _ (List.mem_cons_self ..))) hcv (fun c hc => by
      rcases List.mem_append.1 hc with hp | hc
      · exact .inl ⟨n3 c (List.mem_append.2 (.inl hp)), fun k hk => List.mem_append.2 (.inl (List.mem_append.2 (.inl (List.mem_flatMap.2 ⟨c, hp, hk⟩))))⟩
      · rcases List.mem_cons.1 hc with rfl | hc
        · exact .inr ⟨hSt.nd _ (List.mem_cons_self ..), hcl, hsl, fun k hk => List.mem_append.2 (.inr (by rw [← hperm]; exact hk))⟩
        · exact .inl ⟨n3 c (List.mem_append.2 (.inr (List.mem_cons_of_mem _ (List.mem_cons_of_mem _ hc)))), fun k hk => List.mem_append.2 (.inl (List.mem_append.2 (.inr (List.mem_flatMap.2 ⟨c, hc, hk⟩))))⟩)
  exact ⟨a1, a2, a3, a4⟩

/-- What refill leaves of a tree. -/
def RefillPost (B h : Nat) (t : AT (h + 1)) (w : World) (e : Ending) (w' : World) : Prop :=
  e = .returned (.tuple #[]) ∧ ∃ t' : AT (h + 1), Kept B h t t' w w' ∧ okT (h + 1) (t.1.ks.length - 1) t' ∧ inorder (h + 1) t' = inorder (h + 1) t ∧ t'.1.p = t.1.p

/-- A kid's children's row, as refill's cases want it. -/
theorem kid_leaf {h : Nat} {L : AT h} {mn : Nat} (hcv : cvOk h (hd h L).cv) (hok : okT h mn L) : ((ns h L).cv = .slice none 0 0 ∧ (ns h L).ps = []) ∨ (ns h L).ps.length = (ns h L).ks.length + 1 := by
  have h3 := (okT_ns.1 hok).2.2
  cases h with
  | zero => exact .inl ⟨hcv, rfl⟩
  | succ g =>
    refine .inr ?_
    have e : (subP (g + 1) (subs (g + 1) L)).length = L.2.length := List.length_map ..
    exact e.trans h3.1

theorem kid_few {h : Nat} {L : AT h} {mn : Nat} (hok : okT h mn L) : (ns h L).ps.length ≤ 65 := by
  obtain ⟨_, h2, h3⟩ := okT_ns.1 hok
  rcases subP_len h3 with e | e
  · show (subP h (subs h L)).length ≤ 65; rw [e]; simp
  · show (subP h (subs h L)).length ≤ 65; omega

/-- A row's field after the children's row grew or shrank, at every height. -/
theorem cvOk_of {B h : Nat} {w : World} {a : NS} (hN : Nd B w a) (h0 : h = 0 → a.cv = .slice none 0 0) (h1 : h ≠ 0 → a.ps ≠ []) : cvOk h a.cv := by
  cases h with
  | zero => exact h0 rfl
  | succ g =>
    obtain ⟨_, _, _, hC⟩ := hN
    rcases hC.2 with ⟨_, hn⟩ | ⟨k, _, _, e, _⟩
    · exact absurd (List.length_eq_zero_iff.1 hn) (h1 (by omega))
    · exact ⟨k, by rw [e]; rfl⟩

theorem ptr_at {h : Nat} (pre post : List (AT h)) (c : AT h) : ((pre ++ c :: post).map (ptrV h))[pre.length]? = some (.pointer (some ⟨(ns h c).p, 0, none⟩)) := by
  rw [List.map_append, List.getElem?_append_right (by simp)]
  simp
  rfl

theorem ptr_at2 {h : Nat} (pre post : List (AT h)) (l c : AT h) : ((pre ++ l :: c :: post).map (ptrV h))[pre.length + 1]? = some (.pointer (some ⟨(ns h c).p, 0, none⟩)) := by
  have := ptr_at (pre ++ [l]) post c
  rw [List.append_assoc] at this
  simpa using this

theorem set_mid {α : Type} (K1 K2 : List α) (x y : α) : (K1 ++ x :: K2).set K1.length y = K1 ++ y :: K2 := by
  rw [List.set_append_right _ _ (Nat.le_refl _)]; simp

/-- The shape and the order after a turn of two kids. -/
theorem turn_ok {h : Nat} {H H' : Hd} {pre post : List (AT h)} {l r l' r' : AT h} {K1 K2 : List ByteArray} {x y : ByteArray} (hks : H.ks = K1 ++ x :: K2) (hks' : H'.ks = K1 ++ y :: K2) (hK1 : K1.length = pre.length) (hK2 : K2.length = post.length) (h64 : H.ks.length ≤ 64)
    (hoth : ∀ d ∈ pre ++ post, okT h 32 d) (hl : okT h 32 l') (hr : okT h 32 r') (hin : inorder h l ++ x :: inorder h r = inorder h l' ++ y :: inorder h r') :
    okT (h + 1) (H.ks.length - 1) (H', pre ++ l' :: r' :: post) ∧ inorder (h + 1) (H', pre ++ l' :: r' :: post) = inorder (h + 1) (H, pre ++ l :: r :: post) := by
  refine ⟨⟨?_, ?_, ?_, fun c hc => ?_⟩, ?_⟩
  · show _ ≤ H'.ks.length; rw [hks, hks']; simp
  · show H'.ks.length ≤ 64; rw [hks']; rw [hks] at h64; simpa using h64
  · show (pre ++ l' :: r' :: post).length = H'.ks.length + 1; rw [hks']; simp; omega
  · rcases List.mem_append.1 hc with hp | hc
    · exact hoth c (List.mem_append.2 (.inl hp))
    · rcases List.mem_cons.1 hc with rfl | hc
      · exact hl
      · rcases List.mem_cons.1 hc with rfl | hc
        · exact hr
        · exact hoth c (List.mem_append.2 (.inr hc))
  · show weave ((pre ++ l' :: r' :: post).map (inorder h)) H'.ks = weave ((pre ++ l :: r :: post).map (inorder h)) H.ks
    rw [hks, hks', List.map_append, List.map_append, List.map_cons, List.map_cons, List.map_cons, List.map_cons, weave_mid _ _ _ _ _ _ _ (by simp [hK1]) (by simp [hK2]), weave_mid _ _ _ _ _ _ _ (by simp [hK1]) (by simp [hK2]), hin]

theorem refT_A {B : Nat} {w : World} {h : Nat} {H : Hd} {pre post : List (AT h)} {L c : AT h} {K1 K2 : List ByteArray} {x : ByteArray} (hL : Lies B w (h + 1) (H, pre ++ L :: c :: post)) (hnd : (foot (h + 1) (H, pre ++ L :: c :: post)).Nodup)
    (hks : H.ks = K1 ++ x :: K2) (hK1 : K1.length = pre.length) (hK2 : K2.length = post.length) (h64 : H.ks.length ≤ 64) (hoth : ∀ d ∈ pre ++ post, okT h 32 d) (hc : okT h 31 c) (hck : (hd h c).ks.length = 31) (hLo : okT h 32 L) (hLk : 33 ≤ (hd h L).ks.length) :
    Calls Try.prog 39 #[.pointer (some ⟨H.p, 0, none⟩), .int .i64 ((pre.length : Int) + 1)] w (RefillPost B h (H, pre ++ L :: c :: post) w) := by
  obtain ⟨hSt, hcl, hcr⟩ := St.two_of hL hnd
  obtain ⟨n1, n2, n3⟩ := lies_ns.1 hL
  have sL := (lies_ns.1 (n3 L (List.mem_append.2 (.inr (List.mem_cons_self ..))))).2.2
  have sC := (lies_ns.1 (n3 c (List.mem_append.2 (.inr (List.mem_cons_of_mem _ (List.mem_cons_self ..)))))).2.2
  obtain ⟨l0, y, hl0⟩ : ∃ l0 y, (hd h L).ks = l0 ++ [y] := by
    rcases List.eq_nil_or_concat (hd h L).ks with e | ⟨l0, y, e⟩
    · rw [e] at hLk; simp at hLk
    · exact ⟨l0, y, by rw [e]; simp⟩
  have hLl : (hd h L).ks.length = l0.length + 1 := by rw [hl0]; simp
  obtain ⟨o1, o2, o3⟩ := okT_ns.1 hLo
  obtain ⟨p1, p2, p3⟩ := okT_ns.1 hc
  have hcs : (pre ++ L :: c :: post).length = H.ks.length + 1 := by rw [hks]; simp; omega
  refine (refA B _ w w (ns (h + 1) (H, pre ++ L :: c :: post)) (ns h L) (ns h c) pre.length x y l0 hSt.swap.rot.rot h64 ?_ ?_ (ptr_at2 pre post L c) (ptr_at pre (c :: post) L) hck hl0 (by omega) (by omega) ?_ subP_ptr).mono ?_
  · show ((pre ++ L :: c :: post).map (ptrV h)).length = H.ks.length + 1; rw [List.length_map]; exact hcs
  · show H.ks[pre.length]? = some x; rw [hks, ← hK1]; simp
  · rcases kid_leaf hcl hLo with e | e
    · exact .inl e
    · exact .inr ⟨e, kid_few hc⟩
  rintro e w' ⟨rfl, kv1, kv3, cv1, cv3, cps, lps, hst, hcase⟩
  rw [hLl] at o3
  obtain ⟨gsL', gsC', g1, g2, g3, g4, g5, g6, g7⟩ := move_last (cps := cps) (lps := lps) o3 p3 (by
    rcases hcase with ⟨a, b, c, _, _⟩ | h
    · exact .inl ⟨a, b, c⟩
    · exact .inr h)
  refine ⟨rfl, ((⟨H.p, H.kv, H.cv, K1 ++ y :: K2⟩ : Hd), pre ++ mkT h ⟨(hd h L).p, kv3, cv3, l0⟩ gsL' :: mkT h ⟨(hd h c).p, kv1, cv1, x :: (hd h c).ks⟩ gsC' :: post), ?_⟩
  have e1 : ns h (mkT h ⟨(hd h L).p, kv3, cv3, l0⟩ gsL') = ⟨(hd h L).p, kv3, cv3, l0, lps⟩ := by unfold ns; rw [hd_mk, subs_mk, g1]
  have e2 : ns h (mkT h ⟨(hd h c).p, kv1, cv1, x :: (hd h c).ks⟩ gsC') = ⟨(hd h c).p, kv1, cv1, x :: (hd h c).ks, cps⟩ := by unfold ns; rw [hd_mk, subs_mk, g2]
  have e3 : ns (h + 1) ((⟨H.p, H.kv, H.cv, K1 ++ y :: K2⟩ : Hd), pre ++ mkT h ⟨(hd h L).p, kv3, cv3, l0⟩ gsL' :: mkT h ⟨(hd h c).p, kv1, cv1, x :: (hd h c).ks⟩ gsC' :: post) = ⟨H.p, H.kv, H.cv, H.ks.set pre.length y, (pre ++ L :: c :: post).map (ptrV h)⟩ := by
    show NS.mk H.p H.kv H.cv (K1 ++ y :: K2) _ = _
    rw [hks, ← hK1, set_mid]
    congr 1
    show (pre ++ mkT h ⟨(hd h L).p, kv3, cv3, l0⟩ gsL' :: mkT h ⟨(hd h c).p, kv1, cv1, x :: (hd h c).ks⟩ gsC' :: post).map (ptrV h) = _
    rw [List.map_append, List.map_append, List.map_cons, List.map_cons, List.map_cons, List.map_cons]
    congr 2
    · unfold ptrV; rw [hd_mk]
    · congr 1; unfold ptrV; rw [hd_mk]
  have hst' : St B (fun k => k ∈ [ns h L, ns (h + 1) (H, pre ++ L :: c :: post), ns h c].flatMap NS.ft) w w' [ns h (mkT h ⟨(hd h L).p, kv3, cv3, l0⟩ gsL'), ns (h + 1) ((⟨H.p, H.kv, H.cv, K1 ++ y :: K2⟩ : Hd), pre ++ mkT h ⟨(hd h L).p, kv3, cv3, l0⟩ gsL' :: mkT h ⟨(hd h c).p, kv1, cv1, x :: (hd h c).ks⟩ gsC' :: post), ns h (mkT h ⟨(hd h c).p, kv1, cv1, x :: (hd h c).ks⟩ gsC')] := by
    rw [e1, e2, e3]
    exact hst.swap.rot.rot
  have hz : h = 0 → (ns h L).ps = [] := fun e => by subst e; rfl
  have c1 : cvOk h cv1 := cvOk_of (a := ⟨(hd h c).p, kv1, cv1, x :: (hd h c).ks, cps⟩) (by rw [← e2]; exact hst'.nd _ (List.mem_cons_of_mem _ (List.mem_cons_of_mem _ (List.mem_cons_self ..)))) (fun e => by
    rcases hcase with ⟨_, _, _, e4, _⟩ | ⟨q0, u, a, _⟩
    · subst e; show cv1 = _; rw [e4]; exact hcr
    · rw [hz e] at a; simp at a) (fun e => by
    show cps ≠ []
    rcases hcase with ⟨a, _⟩ | ⟨q0, u, _, b, _⟩
    · exfalso
      cases h with
      | zero => exact e rfl
      | succ g =>
        have h1 : (subP (g + 1) (subs (g + 1) L)).length = L.2.length := List.length_map ..
        have h2 : L.2.length = l0.length + 1 + 1 := o3.1
        have h3 : (subP (g + 1) (subs (g + 1) L)) = [] := a
        rw [h3] at h1; simp at h1; omega
    · rw [b]; simp)
  have c3 : cvOk h cv3 := cvOk_of (a := ⟨(hd h L).p, kv3, cv3, l0, lps⟩) (by rw [← e1]; exact hst'.nd _ (List.mem_cons_self ..)) (fun e => by
    rcases hcase with ⟨_, _, _, _, e4⟩ | ⟨q0, u, a, _⟩
    · subst e; show cv3 = _; rw [e4]; exact hcl
    · rw [hz e] at a; simp at a) (fun e => by
    show lps ≠ []
    cases h with
    | zero => exact absurd rfl e
    | succ g =>
      have h1 : (subP (g + 1) gsL').length = List.length (α := AT g) gsL' := List.length_map ..
      have h2 : List.length (α := AT g) gsL' = l0.length + 1 := g5.1
      rw [g1] at h1
      intro h3; rw [h3] at h1; simp at h1; omega)
  have hsub := g4 B w sL sC
  have hkept := finish2 (H' := ⟨H.p, H.kv, H.cv, K1 ++ y :: K2⟩) hL hnd hst' (by rw [hd_mk]; exact c3) (by rw [hd_mk]; exact c1) rfl (by rw [subs_mk, subs_mk]; exact g3) (by rw [subs_mk]; exact hsub.1) (by rw [subs_mk]; exact hsub.2)
  obtain ⟨t1, t2⟩ := turn_ok (H := H) (H' := ⟨H.p, H.kv, H.cv, K1 ++ y :: K2⟩) (pre := pre) (post := post) (l := L) (r := c) (l' := mkT h ⟨(hd h L).p, kv3, cv3, l0⟩ gsL') (r' := mkT h ⟨(hd h c).p, kv1, cv1, x :: (hd h c).ks⟩ gsC') hks rfl hK1 hK2 h64 hoth
    (okT_ns.2 ⟨by rw [hd_mk]; show 32 ≤ l0.length; omega, by rw [hd_mk]; show l0.length ≤ 64; omega, by rw [hd_mk, subs_mk]; exact g5⟩)
    (okT_ns.2 ⟨by rw [hd_mk]; show 32 ≤ (x :: (hd h c).ks).length; rw [List.length_cons]; omega, by rw [hd_mk]; show (x :: (hd h c).ks).length ≤ 64; rw [List.length_cons]; omega, by rw [hd_mk, subs_mk]; exact g6⟩)
    (by rw [inorder_ns h L, inorder_ns h c, inorder_ns h (mkT h _ _), inorder_ns h (mkT h _ _), hd_mk, hd_mk, subs_mk, subs_mk, hl0]; exact g7 l0 _ y x rfl rfl)
  exact ⟨hkept, t1, t2, rfl⟩

theorem noLeft_of {B : Nat} {w : World} {h : Nat} {H : Hd} {pre rest : List (AT h)} (hL : Lies B w (h + 1) (H, pre ++ rest)) (hno : pre = [] ∨ ∃ pre' d, pre = pre' ++ [d] ∧ (hd h d).ks.length ≤ 32) : NoLeft w ((pre ++ rest).map (ptrV h)) pre.length := by
  rcases hno with rfl | ⟨pre', d, rfl, hk⟩
  · exact .inl rfl
  · have hd := (lies_ns.1 hL).2.2 d (List.mem_append.2 (.inl (List.mem_append.2 (.inr (List.mem_singleton.2 rfl)))))
    obtain ⟨⟨m1, m2, m3, m4⟩, _, _⟩ := lies_ns.1 hd
    obtain ⟨a, c, e, _, _⟩ := ownsRow_slice m3
    refine .inr ⟨pre'.length, (ns h d).p, a, _, c, by simp, ?_, by rw [cell_node0 m1, e]; rfl, hk⟩
    rw [List.append_assoc]
    exact ptr_at pre' rest d

theorem refT_B {B : Nat} {w : World} {h : Nat} {H : Hd} {pre post : List (AT h)} {c R : AT h} {K1 K2 : List ByteArray} {x : ByteArray} (hL : Lies B w (h + 1) (H, pre ++ c :: R :: post)) (hnd : (foot (h + 1) (H, pre ++ c :: R :: post)).Nodup)
    (hks : H.ks = K1 ++ x :: K2) (hK1 : K1.length = pre.length) (hK2 : K2.length = post.length) (h64 : H.ks.length ≤ 64) (hoth : ∀ d ∈ pre ++ post, okT h 32 d) (hc : okT h 31 c) (hck : (hd h c).ks.length = 31) (hLo : okT h 32 R) (hLk : 33 ≤ (hd h R).ks.length) (hno : pre = [] ∨ ∃ pre' d, pre = pre' ++ [d] ∧ (hd h d).ks.length ≤ 32) :
    Calls Try.prog 39 #[.pointer (some ⟨H.p, 0, none⟩), .int .i64 (pre.length : Int)] w (RefillPost B h (H, pre ++ c :: R :: post) w) := by
  obtain ⟨hSt, hcl, hcr⟩ := St.two_of hL hnd
  obtain ⟨n1, n2, n3⟩ := lies_ns.1 hL
  have sL := (lies_ns.1 (n3 R (List.mem_append.2 (.inr (List.mem_cons_of_mem _ (List.mem_cons_self ..)))))).2.2
  have sC := (lies_ns.1 (n3 c (List.mem_append.2 (.inr (List.mem_cons_self ..))))).2.2
  obtain ⟨y, l0, hl0⟩ : ∃ y l0, (hd h R).ks = y :: l0 := by
    cases e : (hd h R).ks with
    | nil => rw [e] at hLk; simp at hLk
    | cons y l0 => exact ⟨y, l0, rfl⟩
  have hLl : (hd h R).ks.length = l0.length + 1 := by rw [hl0]; simp
  obtain ⟨o1, o2, o3⟩ := okT_ns.1 hLo
  obtain ⟨p1, p2, p3⟩ := okT_ns.1 hc
  have hcs : (pre ++ c :: R :: post).length = H.ks.length + 1 := by rw [hks]; simp; omega
  refine (refB B _ w w (ns (h + 1) (H, pre ++ c :: R :: post)) (ns h R) (ns h c) pre.length x y l0 hSt h64 ?_ ?_ (ptr_at pre (R :: post) c) (ptr_at2 pre post c R) hck hl0 (by omega) (by omega) (noLeft_of hL hno) ?_ subP_ptr).mono ?_
  · show ((pre ++ c :: R :: post).map (ptrV h)).length = H.ks.length + 1; rw [List.length_map]; exact hcs
  · show H.ks[pre.length]? = some x; rw [hks, ← hK1]; simp
  · rcases kid_leaf hcr hLo with e | e
    · exact .inl e
    · exact .inr ⟨e, kid_few hc⟩
  rintro e w' ⟨rfl, kv1, kv3, cv1, cv3, cps, lps, hst, hcase⟩
  rw [hLl] at o3
  obtain ⟨gsL', gsC', g1, g2, g3, g4, g5, g6, g7⟩ := move_first (cps := cps) (rps := lps) o3 p3 (by
    rcases hcase with ⟨a, b, c, _, _⟩ | h
    · exact .inl ⟨a, b, c⟩
    · exact .inr h)
  refine ⟨rfl, ((⟨H.p, H.kv, H.cv, K1 ++ y :: K2⟩ : Hd), pre ++ mkT h ⟨(hd h c).p, kv1, cv1, (hd h c).ks ++ [x]⟩ gsC' :: mkT h ⟨(hd h R).p, kv3, cv3, l0⟩ gsL' :: post), ?_⟩
  have e1 : ns h (mkT h ⟨(hd h R).p, kv3, cv3, l0⟩ gsL') = ⟨(hd h R).p, kv3, cv3, l0, lps⟩ := by unfold ns; rw [hd_mk, subs_mk, g1]
  have e2 : ns h (mkT h ⟨(hd h c).p, kv1, cv1, (hd h c).ks ++ [x]⟩ gsC') = ⟨(hd h c).p, kv1, cv1, (hd h c).ks ++ [x], cps⟩ := by unfold ns; rw [hd_mk, subs_mk, g2]
  have e3 : ns (h + 1) ((⟨H.p, H.kv, H.cv, K1 ++ y :: K2⟩ : Hd), pre ++ mkT h ⟨(hd h c).p, kv1, cv1, (hd h c).ks ++ [x]⟩ gsC' :: mkT h ⟨(hd h R).p, kv3, cv3, l0⟩ gsL' :: post) = ⟨H.p, H.kv, H.cv, H.ks.set pre.length y, (pre ++ c :: R :: post).map (ptrV h)⟩ := by
    show NS.mk H.p H.kv H.cv (K1 ++ y :: K2) _ = _
    rw [hks, ← hK1, set_mid]
    congr 1
    show (pre ++ mkT h ⟨(hd h c).p, kv1, cv1, (hd h c).ks ++ [x]⟩ gsC' :: mkT h ⟨(hd h R).p, kv3, cv3, l0⟩ gsL' :: post).map (ptrV h) = _
    rw [List.map_append, List.map_append, List.map_cons, List.map_cons, List.map_cons, List.map_cons]
    congr 2
    · unfold ptrV; rw [hd_mk]
    · congr 1; unfold ptrV; rw [hd_mk]
  have hst' : St B (fun k => k ∈ [ns h c, ns (h + 1) (H, pre ++ c :: R :: post), ns h R].flatMap NS.ft) w w' [ns h (mkT h ⟨(hd h c).p, kv1, cv1, (hd h c).ks ++ [x]⟩ gsC'), ns (h + 1) ((⟨H.p, H.kv, H.cv, K1 ++ y :: K2⟩ : Hd), pre ++ mkT h ⟨(hd h c).p, kv1, cv1, (hd h c).ks ++ [x]⟩ gsC' :: mkT h ⟨(hd h R).p, kv3, cv3, l0⟩ gsL' :: post), ns h (mkT h ⟨(hd h R).p, kv3, cv3, l0⟩ gsL')] := by
    rw [e1, e2, e3]
    exact hst
  have hz : h = 0 → (ns h R).ps = [] := fun e => by subst e; rfl
  have c1 : cvOk h cv1 := cvOk_of (a := ⟨(hd h c).p, kv1, cv1, (hd h c).ks ++ [x], cps⟩) (by rw [← e2]; exact hst'.nd _ (List.mem_cons_self ..)) (fun e => by
    rcases hcase with ⟨_, _, _, e4, _⟩ | ⟨q0, u, a, _⟩
    · subst e; show cv1 = _; rw [e4]; exact hcl
    · rw [hz e] at a; simp at a) (fun e => by
    show cps ≠ []
    rcases hcase with ⟨a, _⟩ | ⟨q0, u, _, b, _⟩
    · exfalso
      cases h with
      | zero => exact e rfl
      | succ g =>
        have h1 : (subP (g + 1) (subs (g + 1) R)).length = R.2.length := List.length_map ..
        have h2 : R.2.length = l0.length + 1 + 1 := o3.1
        have h3 : (subP (g + 1) (subs (g + 1) R)) = [] := a
        rw [h3] at h1; simp at h1; omega
    · rw [b]; simp)
  have c3 : cvOk h cv3 := cvOk_of (a := ⟨(hd h R).p, kv3, cv3, l0, lps⟩) (by rw [← e1]; exact hst'.nd _ (List.mem_cons_of_mem _ (List.mem_cons_of_mem _ (List.mem_cons_self ..)))) (fun e => by
    rcases hcase with ⟨_, _, _, _, e4⟩ | ⟨q0, u, a, _⟩
    · subst e; show cv3 = _; rw [e4]; exact hcr
    · rw [hz e] at a; simp at a) (fun e => by
    show lps ≠ []
    cases h with
    | zero => exact absurd rfl e
    | succ g =>
      have h1 : (subP (g + 1) gsL').length = List.length (α := AT g) gsL' := List.length_map ..
      have h2 : List.length (α := AT g) gsL' = l0.length + 1 := g5.1
      rw [g1] at h1
      intro h3; rw [h3] at h1; simp at h1; omega)
  have hsub := g4 B w sL sC
  have hkept := finish2 (H' := ⟨H.p, H.kv, H.cv, K1 ++ y :: K2⟩) hL hnd hst' (by rw [hd_mk]; exact c1) (by rw [hd_mk]; exact c3) rfl (by rw [subs_mk, subs_mk]; exact g3) (by rw [subs_mk]; exact hsub.2) (by rw [subs_mk]; exact hsub.1)
  obtain ⟨t1, t2⟩ := turn_ok (H := H) (H' := ⟨H.p, H.kv, H.cv, K1 ++ y :: K2⟩) (pre := pre) (post := post) (l := c) (r := R) (l' := mkT h ⟨(hd h c).p, kv1, cv1, (hd h c).ks ++ [x]⟩ gsC') (r' := mkT h ⟨(hd h R).p, kv3, cv3, l0⟩ gsL') hks rfl hK1 hK2 h64 hoth
    (okT_ns.2 ⟨by rw [hd_mk]; show 32 ≤ ((hd h c).ks ++ [x]).length; rw [List.length_append]; simp; omega, by rw [hd_mk]; show ((hd h c).ks ++ [x]).length ≤ 64; rw [List.length_append]; simp; omega, by
      rw [hd_mk, subs_mk]; show subOk h gsC' ((hd h c).ks ++ [x]).length; rw [List.length_append]; exact g6⟩)
    (okT_ns.2 ⟨by rw [hd_mk]; show 32 ≤ l0.length; omega, by rw [hd_mk]; show l0.length ≤ 64; omega, by rw [hd_mk, subs_mk]; exact g5⟩)
    (by rw [inorder_ns h R, inorder_ns h c, inorder_ns h (mkT h _ _), inorder_ns h (mkT h _ _), hd_mk, hd_mk, subs_mk, subs_mk, hl0]; exact g7 l0 _ y x rfl rfl)
  exact ⟨hkept, t1, t2, rfl⟩

theorem noLeftC_of {B : Nat} {w : World} {h : Nat} {H : Hd} {pre rest : List (AT h)} (hL : Lies B w (h + 1) (H, pre ++ rest)) (hno : pre = [] ∨ ∃ pre' d, pre = pre' ++ [d] ∧ (hd h d).ks.length ≤ 32) : NoLeftC w ((pre ++ rest).map (ptrV h)) pre.length := noLeft_of hL hno

theorem noRightC_of {B : Nat} {w : World} {h : Nat} {H : Hd} {pre post : List (AT h)} {c : AT h} (hL : Lies B w (h + 1) (H, pre ++ c :: post)) (hno : post = [] ∨ ∃ d post', post = d :: post' ∧ (hd h d).ks.length ≤ 32) : NoRightC w ((pre ++ c :: post).map (ptrV h)) pre.length := by
  rcases hno with rfl | ⟨d, post', rfl, hk⟩
  · exact .inl (by simp)
  · have hd := (lies_ns.1 hL).2.2 d (List.mem_append.2 (.inr (List.mem_cons_of_mem _ (List.mem_cons_self ..))))
    obtain ⟨⟨m1, m2, m3, m4⟩, _, _⟩ := lies_ns.1 hd
    obtain ⟨a, e, e1, _, _⟩ := ownsRow_slice m3
    exact .inr ⟨(ns h d).p, a, _, e, ptr_at2 pre post' c d, by rw [cell_node0 m1, e1]; rfl, hk⟩

theorem cut_two {α : Type} (A C : List α) (a b : α) : (A ++ a :: b :: C).take (A.length + 1) ++ (A ++ a :: b :: C).drop (A.length + 1 + 1) = A ++ a :: C := by
  induction A with
  | nil => simp
  | cons x A ih => exact congrArg (x :: ·) ih

/-- A merge of l and r; i is where the poor child stands: at l or, where r is the last, at r. -/
theorem refT_C {B : Nat} {w : World} {h : Nat} {H : Hd} {pre post : List (AT h)} {l r : AT h} {K1 K2 : List ByteArray} {x : ByteArray} (i : Nat) (cp : Nat) (ca : Option Addr) (cc : Nat) (hL : Lies B w (h + 1) (H, pre ++ l :: r :: post)) (hnd : (foot (h + 1) (H, pre ++ l :: r :: post)).Nodup)
    (hks : H.ks = K1 ++ x :: K2) (hK1 : K1.length = pre.length) (hK2 : K2.length = post.length) (h64 : H.ks.length ≤ 64) (hoth : ∀ d ∈ pre ++ post, okT h 32 d) (hl : okT h 31 l) (hr : okT h 31 r) (h63 : 63 ≤ (hd h l).ks.length + (hd h r).ks.length + 1 → (hd h l).ks.length + (hd h r).ks.length + 1 ≤ 64) (hlr : (hd h l).ks.length + (hd h r).ks.length ≤ 63)
    (hjm : (i = pre.length) ∨ (i = pre.length + 1 ∧ post = [])) (hi : ((pre ++ l :: r :: post).map (ptrV h))[i]? = some (.pointer (some ⟨cp, 0, none⟩))) (hcell : w.cell? ⟨cp, 0, none⟩ = some (.slice ca 31 cc))
    (hno : NoLeftC w ((pre ++ l :: r :: post).map (ptrV h)) i) (hnr : NoRightC w ((pre ++ l :: r :: post).map (ptrV h)) i) :
    Calls Try.prog 39 #[.pointer (some ⟨H.p, 0, none⟩), .int .i64 (i : Int)] w (RefillPost B h (H, pre ++ l :: r :: post) w) := by
  obtain ⟨hSt, hcl, hcr⟩ := St.two_of hL hnd
  obtain ⟨n1, n2, n3⟩ := lies_ns.1 hL
  have sL := (lies_ns.1 (n3 l (List.mem_append.2 (.inr (List.mem_cons_self ..))))).2.2
  have sR := (lies_ns.1 (n3 r (List.mem_append.2 (.inr (List.mem_cons_of_mem _ (List.mem_cons_self ..)))))).2.2
  obtain ⟨o1, o2, o3⟩ := okT_ns.1 hl
  obtain ⟨p1, p2, p3⟩ := okT_ns.1 hr
  have hcs : (pre ++ l :: r :: post).length = H.ks.length + 1 := by rw [hks]; simp; omega
  have hps : (ns (h + 1) (H, pre ++ l :: r :: post)).ps.length = (pre ++ l :: r :: post).length := List.length_map ..
  refine (refC B _ w w (ns (h + 1) (H, pre ++ l :: r :: post)) (ns h l) (ns h r) i pre.length x cp ca cc hSt.rot.swap.rot.rot h64 (hps.trans hcs) ?_ ?_ hi hcell (ptr_at pre (r :: post) l) (ptr_at2 pre post l r) o2 p2 (kid_few hl) (kid_few hr) hno hnr).mono ?_
  · show H.ks[pre.length]? = some x; rw [hks, ← hK1]; simp
  · rw [hps]
    rcases hjm with e | ⟨e, e2⟩
    · exact .inl ⟨e, by simp⟩
    · exact .inr ⟨e, by rw [e2]; simp⟩
  rintro e w' ⟨rfl, kv1, cv1, kv2, cv2, hst, hcase⟩
  obtain ⟨gs', g1, g2, g3, g4, g5⟩ := move_all o3 p3
  refine ⟨rfl, ((⟨H.p, kv2, cv2, K1 ++ K2⟩ : Hd), pre ++ mkT h ⟨(hd h l).p, kv1, cv1, (hd h l).ks ++ x :: (hd h r).ks⟩ gs' :: post), ?_⟩
  have e1 : ns h (mkT h ⟨(hd h l).p, kv1, cv1, (hd h l).ks ++ x :: (hd h r).ks⟩ gs') = ⟨(hd h l).p, kv1, cv1, (hd h l).ks ++ x :: (hd h r).ks, (ns h l).ps ++ (ns h r).ps⟩ := by unfold ns; rw [hd_mk, subs_mk, g1]
  have e3 : ns (h + 1) ((⟨H.p, kv2, cv2, K1 ++ K2⟩ : Hd), pre ++ mkT h ⟨(hd h l).p, kv1, cv1, (hd h l).ks ++ x :: (hd h r).ks⟩ gs' :: post) = ⟨H.p, kv2, cv2, H.ks.take pre.length ++ H.ks.drop (pre.length + 1), ((pre ++ l :: r :: post).map (ptrV h)).take (pre.length + 1) ++ ((pre ++ l :: r :: post).map (ptrV h)).drop (pre.length + 1 + 1)⟩ := by
    show NS.mk H.p kv2 cv2 (K1 ++ K2) ((pre ++ mkT h ⟨(hd h l).p, kv1, cv1, (hd h l).ks ++ x :: (hd h r).ks⟩ gs' :: post).map (ptrV h)) = _
    have a1 : H.ks.take pre.length ++ H.ks.drop (pre.length + 1) = K1 ++ K2 := by
      rw [hks, ← hK1]; simp
    have a2 : ((pre ++ l :: r :: post).map (ptrV h)).take (pre.length + 1) ++ ((pre ++ l :: r :: post).map (ptrV h)).drop (pre.length + 1 + 1) = (pre ++ mkT h ⟨(hd h l).p, kv1, cv1, (hd h l).ks ++ x :: (hd h r).ks⟩ gs' :: post).map (ptrV h) := by
      have hp : ptrV h (mkT h ⟨(hd h l).p, kv1, cv1, (hd h l).ks ++ x :: (hd h r).ks⟩ gs') = ptrV h l := by unfold ptrV; rw [hd_mk]
      rw [List.map_append, List.map_append, List.map_cons, List.map_cons, List.map_cons, hp]
      have b1 : (pre.map (ptrV h)).length = pre.length := List.length_map ..
      have b2 := cut_two (pre.map (ptrV h)) (post.map (ptrV h)) (ptrV h l) (ptrV h r)
      rw [b1] at b2
      exact b2
    rw [a1, a2]
  have hst' : St B (fun k => k ∈ [ns h l, ns (h + 1) (H, pre ++ l :: r :: post), ns h r].flatMap NS.ft) w w' [ns h (mkT h ⟨(hd h l).p, kv1, cv1, (hd h l).ks ++ x :: (hd h r).ks⟩ gs'), ns (h + 1) ((⟨H.p, kv2, cv2, K1 ++ K2⟩ : Hd), pre ++ mkT h ⟨(hd h l).p, kv1, cv1, (hd h l).ks ++ x :: (hd h r).ks⟩ gs' :: post)] := by
    rw [e1, e3]
    exact St.sub (l' := [ns h r]) hst.rot.rot.swap
  have c1 : cvOk h cv1 := cvOk_of (a := ⟨(hd h l).p, kv1, cv1, (hd h l).ks ++ x :: (hd h r).ks, (ns h l).ps ++ (ns h r).ps⟩) (by rw [← e1]; exact hst'.nd _ (List.mem_cons_self ..)) (fun e => by
    subst e
    show cv1 = _
    rw [hcase hcr]; exact hcl) (fun e => by
    show (ns h l).ps ++ (ns h r).ps ≠ []
    cases h with
    | zero => exact absurd rfl e
    | succ g =>
      have h1 : (subP (g + 1) (subs (g + 1) l)).length = l.2.length := List.length_map ..
      have h2 : l.2.length = _ := o3.1
      intro h3
      have h4 : (ns (g + 1) l).ps = [] := (List.append_eq_nil_iff.1 h3).1
      have h5 : (subP (g + 1) (subs (g + 1) l)) = [] := h4
      rw [h5] at h1; simp at h1; omega)
  have c2 : ∃ k, cv2.ownBlock = some k := by
    have hN := hst'.nd _ (List.mem_cons_of_mem _ (List.mem_cons_self ..))
    obtain ⟨_, _, _, hC⟩ := hN
    rcases hC.2 with ⟨_, hn⟩ | ⟨k, _, _, e, _⟩
    · exfalso
      have h1 : (ns (h + 1) ((⟨H.p, kv2, cv2, K1 ++ K2⟩ : Hd), pre ++ mkT h ⟨(hd h l).p, kv1, cv1, (hd h l).ks ++ x :: (hd h r).ks⟩ gs' :: post)).ps.length = (pre ++ mkT h ⟨(hd h l).p, kv1, cv1, (hd h l).ks ++ x :: (hd h r).ks⟩ gs' :: post).length := List.length_map ..
      rw [hn] at h1; simp at h1
    · exact ⟨k, by have e' : cv2 = _ := e; rw [e']; rfl⟩
  have hsub := g3 B w sL sR
  have hkept := finish1 (H' := ⟨H.p, kv2, cv2, K1 ++ K2⟩) hL hnd hst' (by rw [hd_mk]; exact c1) c2 (by rw [subs_mk]; exact g2) (by rw [subs_mk]; exact hsub)
  refine ⟨hkept, ⟨?_, ?_, ?_, fun d hd' => ?_⟩, ?_, rfl⟩
  · show H.ks.length - 1 ≤ (K1 ++ K2).length; rw [hks]; simp
  · show (K1 ++ K2).length ≤ 64; rw [hks] at h64; simp at h64 ⊢; omega
  · show (pre ++ mkT h _ gs' :: post).length = (K1 ++ K2).length + 1; simp; omega
  · rcases List.mem_append.1 hd' with hp | hc
    · exact hoth d (List.mem_append.2 (.inl hp))
    · rcases List.mem_cons.1 hc with rfl | hc
      · refine okT_ns.2 ⟨?_, ?_, ?_⟩
        · rw [hd_mk]; show 32 ≤ ((hd h l).ks ++ x :: (hd h r).ks).length; simp; omega
        · rw [hd_mk]; show ((hd h l).ks ++ x :: (hd h r).ks).length ≤ 64; simp; omega
        · rw [hd_mk, subs_mk]
          have e4 : ((hd h l).ks ++ x :: (hd h r).ks).length = (hd h l).ks.length + 1 + (hd h r).ks.length := by simp; omega
          show subOk h gs' ((hd h l).ks ++ x :: (hd h r).ks).length
          rw [e4]; exact g4
      · exact hoth d (List.mem_append.2 (.inr hc))
  · show weave ((pre ++ mkT h ⟨(hd h l).p, kv1, cv1, (hd h l).ks ++ x :: (hd h r).ks⟩ gs' :: post).map (inorder h)) (K1 ++ K2) = weave ((pre ++ l :: r :: post).map (inorder h)) H.ks
    rw [hks, List.map_append, List.map_append, List.map_cons, List.map_cons, List.map_cons, weave_mid _ _ _ _ _ _ _ (by simp [hK1]) (by simp [hK2]), weave_at _ _ _ (by simp [hK2]) _ _ (by simp [hK1])]
    congr 2
    rw [inorder_ns h l, inorder_ns h r, inorder_ns h (mkT h _ _), hd_mk, subs_mk]
    exact g5 _ _ x rfl rfl

end Go.Proofs.Qxb6604036a
