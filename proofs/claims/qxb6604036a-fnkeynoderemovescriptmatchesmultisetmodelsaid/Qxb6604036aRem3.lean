/- remove (32): an inner node: the kid, then refill. -/
import Derived.Test.Qxb6604036aRem2
namespace Go.Proofs.Qxb6604036a
open Go.RowKit Plain
set_option linter.unusedVariables false
set_option linter.unusedSimpArgs false
attribute [local go_sem ↓] Go.wp_at_zero Go.wp_at_succ

theorem okT_down {h a b : Nat} {t : AT h} (h0 : okT h a t) (hab : b ≤ a) : okT h b t := by
  obtain ⟨x, y, z⟩ := okT_ns.1 h0
  exact okT_ns.2 ⟨by omega, y, z⟩

/-- What refill leaves behind a kid that lost a key. -/
def BackPost (B h : Nat) (t : AT (h + 1)) (l : List ByteArray) (w : World) (e : Ending) (w2 : World) : Prop :=
  e = .returned (.tuple #[]) ∧ ∃ t2 : AT (h + 1), KeptT B (h + 1) t t2 w w2 ∧ okT (h + 1) (t.1.ks.length - 1) t2 ∧ inorder (h + 1) t2 = l

theorem rem_back {B h : Nat} {t : AT (h + 1)} {H : Hd} {pre post : List (AT h)} {c c' : AT h} {w w0 w1 : World} (hk0 : KeptT B (h + 1) t (H, pre ++ c :: post) w w0) (hlk : H.ks.length = t.1.ks.length) (hk : KeptT B h c c' w0 w1) (hk1 : 1 ≤ H.ks.length) (h64 : H.ks.length ≤ 64) (hlen : (pre ++ c :: post).length = H.ks.length + 1)
    (hoth : ∀ d ∈ pre ++ c :: post, okT h 32 d) (hc' : okT h ((hd h c).ks.length - 1) c') :
    Calls Try.prog 39 #[.pointer (some ⟨H.p, 0, none⟩), .int .i64 (pre.length : Int)] w1 (BackPost B h t (weave ((pre ++ c' :: post).map (inorder h)) H.ks) w) := by
  have hkid := KeptT.kid hk0.lies hk0.nodup hk
  have hc31 : okT h 31 c' := okT_down hc' (by have := (okT_ns.1 (hoth c (by simp))).1; omega)
  refine (refillT (t := (H, pre ++ c' :: post)) hkid.lies hkid.nodup hk1 h64 (by rw [← hlen]; simp) pre.length c' (by simp) hc31 (fun j d hj hne => ?_)).mono ?_
  · rcases Nat.lt_trichotomy j pre.length with h1 | h1 | h1
    · have hj' : (pre ++ c' :: post)[j]? = some d := hj
      rw [List.getElem?_append_left h1] at hj'
      exact hoth d (List.mem_append.2 (.inl (List.mem_of_getElem? hj')))
    · exact absurd h1 hne
    · have hj' : (pre ++ c' :: post)[j]? = some d := hj
      rw [List.getElem?_append_right (by omega)] at hj'
      obtain ⟨q, hq⟩ : ∃ q, j - pre.length = q + 1 := ⟨j - pre.length - 1, by omega⟩
      rw [hq, List.getElem?_cons_succ] at hj'
      exact hoth d (List.mem_append.2 (.inr (List.mem_cons_of_mem _ (List.mem_of_getElem? hj'))))
  · rintro e w2 ⟨rfl, t2, hK, hok, hin, hp⟩
    refine ⟨rfl, t2, (hk0.trans hkid).trans ⟨hK.lies, hK.nodup, hK.place, hK.touch, hp⟩, by rw [← hlk]; exact hok, hin⟩

/-- The way down where the node does not hold x. -/
theorem srem_weave {A C : List (List ByteArray)} {a c l : List ByteArray} {x : ByteArray} (hA : A.length = a.length) (hC : C.length = c.length) (hs : Sorted sl (weave (A ++ l :: C) (a ++ c))) (ha : ∀ k ∈ a, sl k x = true) (hc : ∀ k ∈ c, sl k x = false) (hx : x ∉ c) :
    srem x (weave (A ++ l :: C) (a ++ c)) = weave (A ++ srem x l :: C) (a ++ c) := by
  rw [weave_at l C c hC A a hA] at hs ⊢
  rw [weave_at (srem x l) C c hC A a hA]
  have h1 : x ∉ pl A a := fun h => by
    have := pl_below sto x A a (l ++ pr c C) hA (by rw [← List.append_assoc]; exact hs) ha x h
    rw [sto.irrefl] at this; cases this
  have h2 : x ∉ pr c C := fun h => by
    cases c with
    | nil => cases C <;> cases h
    | cons k c =>
      cases C with
      | nil => cases h
      | cons m C =>
        have hk := hc k (List.mem_cons_self ..)
        have hne : k ≠ x := fun e => hx (by rw [e]; exact List.mem_cons_self ..)
        have hss : Sorted sl (pr (k :: c) (m :: C)) := hs.sublist (List.sublist_append_right _ _)
        have hpr : pr (k :: c) (m :: C) = k :: (m ++ pr c C) := rfl
        rw [hpr] at h hss
        rcases List.mem_cons.1 h with e | h
        · exact hne e.symm
        · have h3 : sl x k = false := (List.pairwise_cons.1 hss).1 x h
          exact hne (sl_total hk h3)
  rw [List.append_assoc, srem_left _ _ h1, srem_right _ _ h2, List.append_assoc]

set_option maxHeartbeats 8000000 in
set_option maxRecDepth 100000 in
theorem rem_miss (B h : Nat) (H : Hd) (pre post : List (AT h)) (c : AT h) (x : ByteArray) (w : World) (hL : Lies B w (h + 1) (H, pre ++ c :: post)) (hnd : (foot (h + 1) (H, pre ++ c :: post)).Nodup) (hok : okT (h + 1) 1 (H, pre ++ c :: post)) (hs : Sorted sl (inorder (h + 1) (H, pre ++ c :: post)))
    (hpre : pre.length = lb x H.ks) (hx : x ∉ H.ks) (hI : Calls Try.prog 32 #[ptrV h c, .string x] w (RemPost B h c x w)) : Calls Try.prog 32 #[ptrV (h + 1) (H, pre ++ c :: post), .string x] w (RemPost B (h + 1) (H, pre ++ c :: post) x w) := by
  obtain ⟨o1, o2, o3, o4⟩ := hok
  have o1' : 1 ≤ H.ks.length := o1
  have o2' : H.ks.length ≤ 64 := o2
  have o3' : (pre ++ c :: post).length = H.ks.length + 1 := o3
  obtain ⟨h1, h2, h3, h4, h5, h6⟩ := id hL
  have hsk : Sorted sl H.ks := hs.sublist (weave_keys _ _ (by rw [List.length_map]; exact o3'))
  have b1 : w.cell? ⟨H.p, 0, none⟩ = some H.kv := cell_node0 h1
  have b2 : w.cell? ⟨H.p, 1, none⟩ = some H.cv := cell_node1 h1
  obtain ⟨g, cg, e1, e2, e3⟩ := ownsRow_slice h3
  obtain ⟨gm, cm, f1, f2, f3, f4, f5, f6⟩ := ownsRow_cell h4 (by show 0 < (pre ++ c :: post).length; rw [o3']; omega)
  have hkid := f6 pre.length _ (ptr_at pre post c)
  have e1' : H.kv = .slice g H.ks.length cg := e1
  have f1' : H.cv = .slice (some ⟨gm, 0, none⟩) (pre ++ c :: post).length cm := f1
  have HC : Hid (Calls Try.prog 33 #[H.kv, .string x] w _) := search33 B H.kv H.ks x w (by omega) h3 hsk
  have HI : Hid (Calls Try.prog 32 #[.pointer (some ⟨(ns h c).p, 0, none⟩), .string x] w (RemPost B h c x w)) := hI
  have HR : Hid (∀ c' w1, KeptT B h c c' w w1 → okT h ((hd h c).ks.length - 1) c' → Calls Try.prog 39 #[.pointer (some ⟨H.p, 0, none⟩), .int .i64 (pre.length : Int)] w1 (BackPost B h (H, pre ++ c :: post) (weave ((pre ++ c' :: post).map (inorder h)) H.ks) w)) := fun c' w1 hk hc' => rem_back (KeptT.refl hL hnd) rfl hk o1' o2' o3' o4 hc'
  have HW : Hid (∀ c' : AT h, inorder h c' = srem x (inorder h c) → (∀ k ∈ H.ks.take pre.length, sl k x = true) → (∀ k ∈ H.ks.drop pre.length, sl k x = false) → weave ((pre ++ c' :: post).map (inorder h)) H.ks = srem x (inorder (h + 1) (H, pre ++ c :: post))) := fun c' hin ht hd => by
    have hks : H.ks = H.ks.take pre.length ++ H.ks.drop pre.length := (List.take_append_drop _ _).symm
    have l1 : (pre.map (inorder h)).length = (H.ks.take pre.length).length := by
      rw [List.length_map, List.length_take]; have : pre.length + (post.length + 1) = H.ks.length + 1 := by simpa using o3'
      omega
    have l2 : (post.map (inorder h)).length = (H.ks.drop pre.length).length := by
      rw [List.length_map, List.length_drop]; have : pre.length + (post.length + 1) = H.ks.length + 1 := by simpa using o3'
      omega
    have hs' : Sorted sl (weave ((pre ++ c :: post).map (inorder h)) H.ks) := hs
    show _ = srem x (weave ((pre ++ c :: post).map (inorder h)) H.ks)
    rw [hks, List.map_append, List.map_cons] at hs' ⊢
    rw [List.map_append, List.map_cons, srem_weave l1 l2 hs' ht hd (fun h => hx (List.mem_of_mem_drop h)), hin]
  obtain ⟨n, hn⟩ : ∃ n, n = H.ks.length := ⟨_, rfl⟩
  obtain ⟨m, hm⟩ : ∃ m, m = (pre ++ c :: post).length := ⟨_, rfl⟩
  obtain ⟨i, hi⟩ : ∃ i, i = pre.length := ⟨_, rfl⟩
  have HX : Hid (x ∉ H.ks ∧ i = pre.length ∧ i = lb x H.ks ∧ n = H.ks.length) := ⟨hx, hi, hi.trans hpre, hn⟩
  have him : (i : Int) < (m : Int) := by rw [hi, hm]; simp; omega
  rw [← hpre, ← hi] at HC
  rw [← hi] at HR hkid
  rw [e1'] at b1 HC
  rw [f1'] at b2
  rw [← hn] at b1 HC
  rw [← hm] at b2
  have heq := fun w a n c => Lib.run_eql_slice_nil (P := Try.prog) w 47 27 a n c 0 0 Try.underlying47
  obtain ⟨T, hT⟩ : ∃ T : AT (h + 1), T = (H, pre ++ c :: post) := ⟨_, rfl⟩
  obtain ⟨P, hP⟩ : ∃ P, P = H.p := ⟨_, rfl⟩
  rw [← hT] at HR HW ⊢
  have hpt : ptrV (h + 1) T = .pointer (some ⟨P, 0, none⟩) := by rw [hT, hP]; rfl
  rw [hpt]
  rw [← hP] at b1 b2 HR
  have hTk : Hid ((hd (h + 1) T).ks = H.ks ∧ T.1.ks = H.ks) := by rw [hT]; exact ⟨rfl, rfl⟩
  obtain ⟨cp, hcp⟩ : ∃ cp, cp = (ns h c).p := ⟨_, rfl⟩
  rw [← hcp] at hkid HI
  clear hL hnd o1 o2 o3 o4 o1' o2' o3' h1 h2 h3 h4 h5 h6 hsk e1 e2 e3 f1 f2 f3 f4 f5 f6 e1' f1' hs hx hpre hI hn hm hi hT hP hpt hcp
  go_enter Try.func32, Try.ntmps32
  go_wp2_with fail
  refine HC.out.mono ?_
  rintro e w' ⟨rfl, f, rfl, hf, ht, hd'⟩
  obtain rfl : f = false := by
    cases f
    · rfl
    · exfalso
      obtain ⟨hlt, hg⟩ := hf.1 rfl
      refine HX.out.1 ?_
      have hlt' : i < H.ks.length := by rw [← HX.out.2.2.2]; exact hlt
      rw [← hg, List.getD_eq_getElem?_getD, List.getElem?_eq_getElem hlt']
      exact List.getElem_mem hlt'
  have HTD : Hid ((∀ k ∈ H.ks.take pre.length, sl k x = true) ∧ (∀ k ∈ H.ks.drop pre.length, sl k x = false)) := by
    rw [← HX.out.2.1]; exact ⟨ht, hd'⟩
  clear hf ht hd'
  go_wp2_with fail
  refine HI.out.mono ?_
  rintro e w1 ⟨rfl, c', hk, hok', hin⟩
  have HR1 : Hid (Calls Try.prog 39 #[.pointer (some ⟨P, 0, none⟩), .int .i64 (i : Int)] w1 _) := HR.out c' w1 hk hok'
  have HIN : Hid (inorder h c' = srem x (inorder h c)) := hin
  clear hk hok' hin
  go_wp2_with fail
  refine HR1.out.mono ?_
  rintro e w2 ⟨rfl, t2, k2, ok2, in2⟩
  have H2 : Hid (KeptT B (h + 1) T t2 w w2 ∧ okT (h + 1) (T.1.ks.length - 1) t2 ∧ inorder (h + 1) t2 = _) := ⟨k2, ok2, in2⟩
  clear k2 ok2 in2
  go_wp2
  go_end0
  refine ⟨rfl, t2, H2.out.1, ?_, ?_⟩
  · rw [hTk.out.1, ← hTk.out.2]; exact H2.out.2.1
  · rw [H2.out.2.2]; exact HW.out c' HIN.out HTD.out.1 HTD.out.2

end Go.Proofs.Qxb6604036a
