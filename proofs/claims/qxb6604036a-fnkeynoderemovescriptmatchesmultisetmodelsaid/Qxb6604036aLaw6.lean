/- FnKeyNodeRemoveScriptMatchesMultisetModel (6): the walk. -/
import Derived.Test.Qxb6604036aMinus
import Derived.Test.Qxb6604036aLaw4
namespace Go.Proofs.Qxb6604036a
open Go.RowKit Plain
set_option linter.unusedVariables false
set_option linter.unusedSimpArgs false

/-- The tree that stands after some removes. -/
structure DRel (B : Nat) (w : World) (h : Nat) (t : AT h) (l : List ByteArray) (wr : World) : Prop where
  lies : Lies B wr h t
  nodup : (foot h t).Nodup
  ok : okT h (rootMin h) t
  sorted : Sorted sl (inorder h t)
  eq : inorder h t = l
  below : Below B w wr
  size : B ≤ wr.heap.size

/-- What the law meets behind a remove. -/
theorem DRel.step {B : Nat} {w : World} {h : Nat} {t : AT h} {l : List ByteArray} {wr w1 : World} {x : ByteArray} (hD : DRel B w h t l wr) (hP : ∃ t' : AT h, KeptT B h t t' wr w1 ∧ okT h ((hd h t).ks.length - 1) t' ∧ inorder h t' = srem x (inorder h t)) :
    ∃ (ka : Option Addr) (kn kc : Nat) (ca : Option Addr) (cn cc : Nat), w1.heap[(hd h t).p]? = some (nodeObj (.slice ka kn kc) (.slice ca cn cc)) ∧
      ((ca = none ∧ ∃ t2 : AT h, (hd h t2).p = (hd h t).p ∧ DRel B w h t2 (srem x l) w1) ∨
       (∃ cb, ca = some ⟨cb, 0, none⟩ ∧ 0 < kn ∧ ∃ t2 : AT h, (hd h t2).p = (hd h t).p ∧ DRel B w h t2 (srem x l) w1) ∨
       (∃ cb, ca = some ⟨cb, 0, none⟩ ∧ kn = 0 ∧ cn = 1 ∧ ∃ (g : Nat) (t2 : AT g), w1.cell? ⟨cb, 0, none⟩ = some (.pointer (some ⟨(hd g t2).p, 0, none⟩)) ∧ DRel B w g t2 (srem x l) w1)) := by
  obtain ⟨t', hK, hok, hin⟩ := hP
  have hbel : Below B w w1 := hD.below.trans (hK.touch.below_foot hD.lies hD.size)
  have hsz : B ≤ w1.heap.size := Nat.le_trans hD.size hK.touch.size
  have hso : Sorted sl (inorder h t') := by rw [hin]; exact hD.sorted.sublist (srem_sub x _)
  have hin' : inorder h t' = srem x l := by rw [hin, hD.eq]
  obtain ⟨hN, _, hKr⟩ := hK.lies.node
  obtain ⟨ka, kc, hkv, _, _⟩ := ownsRow_slice hKr
  rw [hK.root] at hN
  cases h with
  | zero =>
    have hcv : (hd 0 t').cv = .slice none 0 0 := hK.lies.2.2.2
    rw [hkv, hcv] at hN
    exact ⟨ka, _, kc, none, 0, 0, hN, .inl ⟨rfl, t', hK.root, hK.lies, hK.nodup, okT_down hok (by simp [rootMin]), hso, hin', hbel, hsz⟩⟩
  | succ h =>
    obtain ⟨H, cs⟩ := t'
    obtain ⟨o1, o2, o3, o4⟩ := id hok
    have o3' : cs.length = H.ks.length + 1 := o3
    obtain ⟨l1, l2, l3, l4, l5, l6⟩ := id hK.lies
    have l4' : w1.ownsRow B 27 1 H.cv cs.length (cs.map (ptrV h)) := l4
    obtain ⟨cb, cc, hcv, _, _, _, _, hcell⟩ := ownsRow_cell l4' (by omega)
    have hcv' : (hd (h + 1) ((H, cs) : AT (h + 1))).cv = .slice (some ⟨cb, 0, none⟩) cs.length cc := hcv
    rw [hkv, hcv'] at hN
    refine ⟨ka, _, kc, _, _, cc, hN, .inr ?_⟩
    rcases Nat.eq_zero_or_pos H.ks.length with h0 | h0
    · refine .inr ⟨cb, rfl, h0, by omega, ?_⟩
      obtain ⟨c, rfl⟩ : ∃ c, cs = [c] := List.length_eq_one_iff.1 (by omega)
      have hks : H.ks = [] := List.length_eq_zero_iff.1 h0
      have hie : inorder (h + 1) ((H, [c]) : AT (h + 1)) = inorder h c := by
        show weave ([c].map (inorder h)) H.ks = _
        rw [hks]; simp [weave]
      refine ⟨h, c, hcell 0 _ (by simp; rfl), l6 c (by simp), ?_, okT_down (o4 c (by simp)) (by unfold rootMin; split <;> omega), by rw [← hie]; exact hso, by rw [← hie]; exact hin', hbel, hsz⟩
      refine hK.nodup.sublist ?_
      show (foot h c).Sublist (H.p :: (H.kv.ownBlock.toList ++ (H.cv.ownBlock.toList ++ [c].flatMap (foot h))))
      rw [List.flatMap_cons, List.flatMap_nil, List.append_nil]
      exact ((List.sublist_append_right _ _).trans (List.sublist_append_right _ _)).cons _
    · exact .inl ⟨cb, rfl, h0, (H, cs), hK.root, hK.lies, hK.nodup, ⟨by simp [rootMin]; exact h0, o2, o3, o4⟩, hso, hin', hbel, hsz⟩

set_option maxHeartbeats 8000000 in
set_option maxRecDepth 100000 in
theorem law6 (a a' : Option Addr) (n c m c' : Nat) (S T : Nat → ByteArray) (w : World) (h : Rd w a n c S) (h' : Rd w a' m c' T) (hS : ∀ k, (S k).size ≤ maxLen) (hT : ∀ k, (T k).size ≤ maxLen) :
    Calls Try.prog 6 #[.slice a n c, .slice a' m c'] w (LawPost w) := by
  have HRd : Hid (Rd w a n c S) := h
  have HRd' : Hid (Rd w a' m c' T) := h'
  have HS : Hid ((∀ k, (S k).size ≤ maxLen) ∧ (∀ k, (T k).size ≤ maxLen)) := ⟨hS, hT⟩
  have HAB : Hid (∀ x, a = some x → 0 < n → x.block < w.heap.size) := h.lt
  have HAB' : Hid (∀ x, a' = some x → 0 < m → x.block < w.heap.size) := h'.lt
  have HC23 : Hid (Calls Try.prog 23 #[.slice a n c, .slice a' m c'] w (BoolPost w)) := bytes23 a a' n c m c' S T w h h' hS hT
  obtain ⟨h1, h2, h3⟩ := h
  obtain ⟨g1, g2, g3⟩ := h'
  clear h3 g3
  unfold maxLen at h2 g2
  clear hS hT
  go_enter Try.func6, Try.ntmps6
  go_wp2_with fail
  refine HC23.out.mono ?_
  clear HC23
  rintro e w1 ⟨r, rfl, rfl⟩
  cases r
  · go_wp2
    go_ret
    exact ⟨rfl, Below.refl _ _⟩
  rcases Nat.lt_or_ge 65536 n with hn | hn
  · have hnI : (65536 : Int) < (n : Int) := by omega
    go_wp2
    go_ret
    exact ⟨rfl, Below.refl _ _⟩
  have hnI : ¬ (65536 : Int) < (n : Int) := by omega
  rcases Nat.lt_or_ge 65536 m with hm | hm
  · have hmI : (65536 : Int) < (m : Int) := by omega
    go_wp2
    go_ret
    exact ⟨rfl, Below.refl _ _⟩
  have hmI : ¬ (65536 : Int) < (m : Int) := by omega
  go_wp2_with fail
  have b1 : Below w.heap.size w (w.alloc (.cells #[.int .i64 1048576] 3)) := (Below.refl _ _).alloc (Nat.le_refl _) _
  refine (fits17 a n c w.heap.size S _ (HRd.out.below b1 fun x hx h0 => HAB.out x hx h0) HS.out.1 ⟨1048576, heap_new w _⟩ (fun x hx h0 e => by have := HAB.out x hx h0; omega)).mono ?_
  rintro e w2 ⟨r, rfl, ht2, hia⟩
  have b2 : Below w.heap.size w w2 := b1.trans (ht2.below (by simp) fun k hk => by omega)
  have HB2 : Hid (Below w.heap.size w w2 ∧ IntAt w2 w.heap.size) := ⟨b2, hia⟩
  have hs2 := b2.size
  clear b1 b2 ht2 hia
  cases r
  · go_wp2
    go_ret
    exact ⟨rfl, HB2.out.1⟩
  have HC17 : Hid (Calls Try.prog 17 #[.slice a' m c', .pointer (some ⟨w.heap.size, 0, none⟩)] w2 (FitPost w.heap.size w2)) :=
    fits17 a' m c' w.heap.size T w2 (HRd'.out.below HB2.out.1 fun x hx h0 => HAB'.out x hx h0) HS.out.2 HB2.out.2 (fun x hx h0 e => by have := HAB'.out x hx h0; omega)
  go_wp2_with fail
  refine HC17.out.mono ?_
  clear HC17
  rintro e w3 ⟨r, rfl, ht3, _⟩
  have HB3 : Hid (Below w.heap.size w w3) := HB2.out.1.trans (ht3.below hs2 fun k hk => by omega)
  have hs3 : w.heap.size ≤ w3.heap.size := HB3.out.size
  clear ht3 HB2
  cases r
  · go_wp2
    go_ret
    exact ⟨rfl, HB3.out⟩
  have HR3 : Hid (Rd w3 a n c S) := HRd.out.below HB3.out fun x hx h0 => HAB.out x hx h0
  have HC18 : Hid (Calls Try.prog 18 #[.slice a n c] w3 (AllPost w3.heap.size n S w3)) := all18 w3.heap.size n a c S w3 (Nat.le_refl _) HR3.out (fun x hx h0 => by have := HAB.out x hx h0; omega)
  go_wp2_with fail
  refine HC18.out.mono ?_
  clear HC18
  rintro e w4 ⟨h0, t0, ys, rfl, hR, hp⟩
  obtain ⟨K, hK⟩ : ∃ K, K = inorder h0 t0 := ⟨_, rfl⟩
  have HK : Hid (K.length = n ∧ Sorted sl K ∧ K.Perm ((List.range n).map S)) := by
    rw [hK]
    exact ⟨by rw [hR.perm.length_eq, hp.length_eq]; simp, hR.sorted, hR.perm.trans hp⟩
  have HD0 : Hid (DRel w3.heap.size w3 h0 t0 K w4) := ⟨hR.lies, hR.nodup, hR.ok, hR.sorted, hK.symm, hR.below, hR.size⟩
  have HCELL : Hid (∀ wr, Below w3.heap.size w3 wr → ∀ k, k < m → ∃ b o, a' = some ⟨b, o, none⟩ ∧ wr.cell? ⟨b, o + k, none⟩ = some (.string (T k))) := fun wr hb k hk => by
    have hRd := (HRd'.out.below HB3.out fun x hx h0 => HAB'.out x hx h0).below hb fun x hx h0 => by have := HAB'.out x hx h0; omega
    obtain ⟨b, o, e, hh⟩ := hRd.2.2 (by omega)
    exact ⟨b, o, e, hh k hk⟩
  have hneq := fun w a n c => run_neq_slice_nil_any (P := Try.prog) w 47 27 a n c 0 0 Try.underlying47
  clear hR hp hK HR3
  obtain ⟨p0, hp0⟩ : ∃ p0, p0 = (hd h0 t0).p := ⟨_, rfl⟩
  rw [← hp0]
  have HP0 : Hid (p0 = (hd h0 t0).p) := hp0
  clear hp0
  go_wp2
  go_loopw [6, 7] (fun u6 u7 wr => ∃ j p : Nat, j ≤ m ∧ u7 = .int .i64 j ∧ u6 = .pointer (some ⟨p, 0, none⟩) ∧ Hid (∃ (h : Nat) (t : AT h), p = (hd h t).p ∧ DRel w3.heap.size w3 h t (srems ((List.range j).map T) K) wr)) (fun _ u _ => m - (intOf u).toNat)
  case atStart => exact ⟨0, p0, Nat.zero_le _, rfl, rfl, h0, t0, HP0.out, HD0.out⟩
  case round =>
    obtain ⟨j, p, hj, rfl, rfl, hQ⟩ := hrel
    obtain ⟨h, t, hpt, hD⟩ := hQ.out
    clear hQ HD0 HP0
    have HD : Hid (p = (hd h t).p ∧ DRel w3.heap.size w3 h t (srems ((List.range j).map T) K) wr) := ⟨hpt, hD⟩
    by_cases hjm : j < m
    · obtain ⟨b, o, rfl, hck⟩ := HCELL.out wr hD.below j hjm
      have hjI : (j : Int) < (m : Int) := by omega
      obtain ⟨x, hx⟩ : ∃ x, x = T j := ⟨_, rfl⟩
      rw [← hx] at hck
      have HX : Hid (srem x (srems ((List.range j).map T) K) = srems ((List.range (j + 1)).map T) K) := by
        show _ = _
        rw [hx, List.range_succ, List.map_append]
        exact (srems_snoc _ _ _).symm
      have HC21 : Hid (Calls Try.prog 21 #[.pointer (some ⟨p, 0, none⟩), .string x] wr (RemPost w3.heap.size h t x wr)) := by
        rw [hpt]
        exact remove21 w3.heap.size h t x wr hD.lies hD.nodup hD.ok hD.sorted
      clear hpt hD hx
      go_wp2_with fail
      refine HC21.out.mono ?_
      clear HC21
      rintro e w5 ⟨rfl, hP⟩
      obtain ⟨ka, kn, kc, ca, cn, cc, hN, hcase⟩ := HD.out.2.step hP
      rw [HX.out, ← HD.out.1] at hcase
      rw [← HD.out.1] at hN
      have HN : Hid (w5.heap[p]? = some (nodeObj (.slice ka kn kc) (.slice ca cn cc))) := hN
      have HC24 : Hid (Calls Try.prog 24 #[.pointer (some ⟨p, 0, none⟩)] w5 fun e w' => e = .returned (.slice ca cn cc) ∧ w5 = w') := kidsOf _ _ _ _ _ _ _ _ hN
      have HC13 : Hid (Calls Try.prog 13 #[.pointer (some ⟨p, 0, none⟩)] w5 fun e w' => e = .returned (.slice ka kn kc) ∧ w5 = w') := keysOf _ _ _ _ _ _ _ _ hN
      clear hP hN hck HD HX
      rcases hcase with ⟨rfl, t2, hp2, hD2⟩ | ⟨cb, rfl, hk0, t2, hp2, hD2⟩ | ⟨cb, rfl, rfl, rfl, g, t2, hcl, hD2⟩
      · have HD2 : Hid (∃ (h : Nat) (t : AT h), p = (hd h t).p ∧ DRel w3.heap.size w3 h t (srems ((List.range (j + 1)).map T) K) w5) := ⟨h, t2, hp2.symm, hD2⟩
        clear hp2 hD2
        go_wp2_with fail
        refine HC24.out.mono ?_
        rintro e w5' ⟨rfl, rfl⟩
        go_wp2
        go_roundw
        case rel => exact ⟨j + 1, p, by omega, by go_num, rfl, HD2.out⟩
        case measure => simp [intOf]; omega
      · have HD2 : Hid (∃ (h : Nat) (t : AT h), p = (hd h t).p ∧ DRel w3.heap.size w3 h t (srems ((List.range (j + 1)).map T) K) w5) := ⟨h, t2, hp2.symm, hD2⟩
        have hkI : ((kn : Int) == 0) = false := by simp; omega
        clear hp2 hD2
        go_wp2_with fail
        refine HC24.out.mono ?_
        rintro e w5' ⟨rfl, rfl⟩
        go_wp2_with fail
        refine HC13.out.mono ?_
        rintro e w5' ⟨rfl, rfl⟩
        go_wp2
        go_roundw
        case rel => exact ⟨j + 1, p, by omega, by go_num, rfl, HD2.out⟩
        case measure => simp [intOf]; omega
      · obtain ⟨q, hq⟩ : ∃ q, q = (hd g t2).p := ⟨_, rfl⟩
        rw [← hq] at hcl
        have HD2 : Hid (∃ (h : Nat) (t : AT h), q = (hd h t).p ∧ DRel w3.heap.size w3 h t (srems ((List.range (j + 1)).map T) K) w5) := ⟨g, t2, hq, hD2⟩
        clear hq hD2
        go_wp2_with fail
        refine HC24.out.mono ?_
        rintro e w5' ⟨rfl, rfl⟩
        go_wp2_with fail
        refine HC13.out.mono ?_
        rintro e w5' ⟨rfl, rfl⟩
        go_wp2
        go_roundw
        case rel => exact ⟨j + 1, q, by omega, by go_num, rfl, HD2.out⟩
        case measure => simp [intOf]; omega
    · obtain rfl : j = m := by omega
      have hjI : ¬ (j : Int) < (j : Int) := by omega
      obtain ⟨L, hL⟩ : ∃ L, L = srems ((List.range j).map T) K := ⟨_, rfl⟩
      have hLn : L.length ≤ n := by rw [hL, ← HK.out.1]; exact (srems_sub _ _).length_le
      have HL : Hid (L = srems ((List.range j).map T) K) := hL
      rw [← hL] at hD HD
      have hh : h ≤ 16 := root_small h t hD.ok (by rw [hD.eq]; omega)
      have hsr := hD.size
      have HC19 : Hid (Calls Try.prog 19 #[.pointer (some ⟨p, 0, none⟩)] wr fun e w' => e = .returned (.bool true) ∧ wr = w') := by
        rw [hpt]; exact rootOk19 w3.heap.size h t wr hD.lies hD.ok (by omega)
      have HC15 : Hid (Calls Try.prog 15 #[.pointer (some ⟨p, 0, none⟩), .slice none 0 0] wr (OrdPost w3.heap.size (.slice none 0 0) [] L wr)) := by
        have := order15 w3.heap.size h (rootMin h) t hD.ok (.slice none 0 0) [] wr hD.lies (World.ownsRow_nil _ _ _ _) (by simp [Value.ownBlock]) (by rw [hD.eq]; simp; omega) hsr
        rw [hD.eq] at this
        rw [hpt]; exact this
      have HBw : Hid (Below w.heap.size w wr) := HB3.out.trans (hD.below.mono hs3)
      clear hpt hD hL HD HCELL hneq
      go_wp2_with fail
      refine HC19.out.mono ?_
      clear HC19
      rintro e w5 ⟨rfl, rfl⟩
      go_wp2_with fail
      refine HC15.out.mono ?_
      clear HC15
      rintro e w5 ⟨v1, rfl, hO⟩
      have hs5 := hO.touch.size
      have HB5 : Hid (Below w.heap.size w w5) := HBw.out.trans (hO.touch.below (by omega) (by simp [Value.ownBlock]))
      have hO1 : w5.ownsRow w3.heap.size 9 1 v1 L.length (strs L) := by simpa using hO.owns
      have HO : Hid (w5.ownsRow w3.heap.size 9 1 v1 L.length (strs L)) := hO1
      clear hO1
      have HC20 : Hid (Calls Try.prog 20 #[.slice a n c] w5 (SortPost w3.heap.size n S w5)) := sort20 w3.heap.size n (by omega) a c S w5 (by omega) (HRd.out.below HB5.out fun x hx h0 => HAB.out x hx h0)
      clear hO HBw
      go_wp2_with fail
      refine HC20.out.mono ?_
      clear HC20
      rintro e w6 ⟨v2, l, rfl, hol, hll, hpl, hsl, ht6, _⟩
      have hs6 := ht6.size
      have HB6 : Hid (Below w.heap.size w w6) := HB5.out.trans (ht6.below (by omega) fun k h => h.elim)
      have heq : l = K := sorted_unique sto _ _ hsl HK.out.2.1 (hpl.trans HK.out.2.2.symm)
      subst heq
      have HO6 : Hid (w6.ownsRow w3.heap.size 9 1 v1 L.length (strs L) ∧ w6.ownsRow w3.heap.size 9 1 v2 l.length (strs l)) := ⟨ownsRow_touch HO.out ht6 fun _ _ => id, by rw [hll]; exact hol⟩
      have HC20 : Hid (Calls Try.prog 20 #[.slice a' j c'] w6 (SortPost w3.heap.size j T w6)) := sort20 w3.heap.size j (by omega) a' c' T w6 (by omega) (HRd'.out.below HB6.out fun x hx h0 => HAB'.out x hx h0)
      clear hol hll hpl hsl ht6 HO HB5
      go_wp2_with fail
      refine HC20.out.mono ?_
      clear HC20
      rintro e w7 ⟨v3, d, rfl, hod, hdl, hpd, hsd, ht7, _⟩
      have hs7 := ht7.size
      have HB7 : Hid (Below w.heap.size w w7) := HB6.out.trans (ht7.below (by omega) fun k h => h.elim)
      have HO7 : Hid (w7.ownsRow w3.heap.size 9 1 v1 L.length (strs L)) := ownsRow_touch HO6.out.1 ht7 fun _ _ => id
      have HLe : Hid (L = srems d l) := by
        show _ = _
        rw [HL.out]; exact (srems_perm hpd l).symm
      have HC25 : Hid (Calls Try.prog 25 #[v2, v3] w7 (WithPost w3.heap.size (srems d l) w7)) := minus25 w3.heap.size v2 v3 l d w7 (ownsRow_touch HO6.out.2 ht7 fun _ _ => id) (by rw [hdl]; exact hod) (by rw [HK.out.1]; omega) (by rw [hdl]; omega) (by omega) HK.out.2.1 hsd
      clear hod hdl hpd hsd ht7 HO6 HB6 HL
      go_wp2_with fail
      refine HC25.out.mono ?_
      clear HC25
      rintro e w8 ⟨vw, rfl, hF⟩
      rw [← HLe.out] at hF
      have hO1 : w8.ownsRow w3.heap.size 9 1 v1 L.length (strs L) := ownsRow_touch HO7.out hF.touch fun _ _ => id
      have HB8 : Hid (Below w.heap.size w w8) := HB7.out.trans (hF.touch.below (by omega) fun q hq => hq.elim)
      obtain ⟨a1, c1, hv1, hr1⟩ := Rd.ofOwns hO1
      obtain ⟨a3, c3, hv3, hr3⟩ := Rd.ofOwns hF.owns
      subst hv1
      subst hv3
      have HC14 : Hid (Calls Try.prog 14 #[.slice a1 L.length c1, .slice a3 L.length c3] w8 (EqPost L.length L.length (fun k => L.getD k ByteArray.empty) (fun k => L.getD k ByteArray.empty) w8)) := equal14 a1 a3 _ c1 _ c3 _ _ w8 hr1 hr3
      obtain ⟨LS, hLS⟩ : ∃ LS, LS = L.length := ⟨_, rfl⟩
      rw [← hLS] at HC14 ⊢
      clear hr1 hr3 hO1 hF hLS HB7 HO7
      go_wp2_with fail
      refine HC14.out.mono ?_
      clear HC14
      rintro e w9 ⟨r, rfl, hM, hr⟩
      have hrt : r = true := hr.2 ⟨rfl, fun _ _ => rfl⟩
      subst hrt
      have HB9 : Hid (Below w.heap.size w w9) := ⟨hM.os.trans HB8.out.os, hM.tape.trans HB8.out.tape, hM.output.trans HB8.out.output, by rw [hM.heap]; exact HB8.out.size, fun k hk => by rw [hM.heap]; exact HB8.out.block k hk⟩
      clear hM hr
      go_wp2
      go_ret
      exact ⟨rfl, HB9.out⟩

end Go.Proofs.Qxb6604036a
