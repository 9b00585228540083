/- b1TreeOrder (28): the keys of the tree that came in, in order, appended to 'out'; b1Sorted (29). -/
import Derived.Test.Qxb6604036aMeas
import Derived.BigQuiet
import Derived.Deep.QuietTactic
namespace Go.Proofs.Qxb6604036a
open Go.RowKit Plain
set_option linter.unusedVariables false
set_option linter.unusedSimpArgs false

theorem ownsRow_ge {w : World} {B e m n : Nat} {v : Value} {xs : List Value} (h : w.ownsRow B e m v n xs) {k : Nat} (hk : v.ownBlock = some k) : B ≤ k := by
  rcases h.2 with ⟨rfl, _⟩ | ⟨g, _, _, rfl, hB, _⟩
  · cases hk
  · cases hk; exact hB

/-- What came in still lies where it lay. -/
theorem OrdRow.below {w0 w w' : World} {v v' : Value} {xs ys : List ByteArray} (h : OrdRow w0.heap.size v xs ys w v' w') (hv : w.ownsRow w0.heap.size 9 1 v xs.length (strs xs)) (hb : Below w0.heap.size w0 w) : Below w0.heap.size w0 w' :=
  hb.trans (h.touch.below hb.size fun q hq => ownsRow_ge hv hq)

theorem weave_prefix {α : Type} (L : List (List α)) (ks : List α) (k : Nat) : (weave (L.take k) ks).length ≤ (weave L ks).length := by
  have : ∀ j, (weave (L.take k) ks).length ≤ (weave (L.take (k + j)) ks).length := by
    intro j
    induction j with
    | zero => exact Nat.le_refl _
    | succ j ih =>
      rcases Nat.lt_or_ge (k + j) L.length with h | h
      · rw [← Nat.add_assoc, Plain.weave_take_succ L ks (k + j) h]; simp; omega
      · rw [List.take_of_length_le (by omega : L.length ≤ k + (j + 1))]
        rw [List.take_of_length_le h] at ih; exact ih
  have h := this L.length
  rw [List.take_of_length_le (by omega : L.length ≤ k + L.length)] at h
  exact h

theorem run_append_owned_none' {P : Program} {w : World} (base : Nat) (t ty e : TypeId) (i : TypeInfo) (size : Nat) (ht : P.underlying t = some (.slice e)) (hi : P.info? e = some i)
    (v : Value) (n c : Nat) (xs : List Value) (hown : w.ownsRow base e size v n xs) : (Builtin.append_ #[t, t] ty #[v, .slice none 0 c]).run P w = .ok v w := by
  rcases hown.2 with ⟨rfl, rfl⟩ | ⟨g, cap, cur, rfl, _, _, hnc, _⟩
  · simp [Builtin.append_, run_underlying ht, sizeOf, typeInfo, hi, Builtin.lenOf, Builtin.firstCells]
  · simp [Builtin.append_, run_underlying ht, sizeOf, typeInfo, hi, Builtin.lenOf, Builtin.firstCells, hnc, storeCells]

/-- append(v, src...), src a row of strings that is only read. -/
theorem appS_rd (w : World) (B ty : Nat) (v : Value) (xs ks : List ByteArray) (a : Option Addr) (c : Nat) (hown : w.ownsRow B 9 1 v xs.length (strs xs)) (hsrc : Rd w a ks.length c (fun k => ks.getD k ByteArray.empty)) (hbig : xs.length + ks.length ≤ 1048576) (hB : B ≤ w.heap.size) :
    ∃ v' w', (Builtin.append_ #[23, 23] ty #[v, .slice a ks.length c]).run Try.prog w = .ok v' w' ∧ AppRow B 9 v (strs xs) (strs ks) w v' w' := by
  obtain ⟨i0, hi0, hz0, hzs, hzb⟩ := infoS
  have hown' : w.ownsRow B 9 1 v (strs xs).length (strs xs) := by rw [strs_length]; exact hown
  cases a with
  | none =>
    have hk : ks = [] := by
      cases ks with
      | nil => rfl
      | cons x ks => obtain ⟨b, o, e, _⟩ := hsrc.2.2 (by simp); cases e
    subst hk
    refine ⟨v, w, run_append_owned_none' (P := Try.prog) B 23 ty 9 i0 1 Try.underlying23 hi0 v xs.length c _ hown, ⟨by simpa [strs] using hown', Touch.refl _ _, .inl rfl, fun hne => ?_⟩⟩
    rcases hown.2 with ⟨_, hn⟩ | ⟨g, cap, cur, rfl, _⟩
    · rw [List.length_eq_zero_iff.1 hn] at hne; exact absurd rfl hne
    · exact ⟨g, rfl⟩
  | some a =>
    have := append_row (P := Try.prog) w B 23 ty 9 i0 _ 16 Try.underlying23 hi0 hz0 hzs hzb rfl v (strs xs) hown' (.slice (some a) ks.length c) (strs ks) ?_ (strs_oneCell ks) (by rw [strs_length, strs_length]; omega) (by rw [strs_length, strs_length]; unfold maxLen; omega) hB
    · exact this
    · refine .inr ⟨a, c, by rw [strs_length], fun j u hj => ?_⟩
      have hj' : j < ks.length := by
        rcases Nat.lt_or_ge j ks.length with h | h
        · exact h
        · rw [List.getElem?_eq_none (by rw [strs_length]; exact h)] at hj; cases hj
      obtain ⟨b, o, e, hc⟩ := hsrc.2.2 (by omega)
      cases e
      have := hc j hj'
      simp only [strs, List.getElem?_map, List.getElem?_eq_getElem hj', Option.map_some, Option.some.injEq] at hj
      rw [← hj]
      rw [Addr.add_lit]
      simpa [List.getD_eq_getElem?_getD, List.getElem?_eq_getElem hj'] using this

set_option maxHeartbeats 1000000 in
theorem order28_leaf (w0 w : World) (f : Nat) (ks : List ByteArray) (vp v : Value) (xs : List ByteArray) (hin : In w0 (f + 1) (some (ks, [])) vp) (hbel : Below w0.heap.size w0 w) (hv : w.ownsRow w0.heap.size 9 1 v xs.length (strs xs)) (hbig : xs.length + ks.length ≤ 1048576) :
    Calls Try.prog 28 #[vp, v] w (OrdPost w0.heap.size v xs ks w) := by
  obtain ⟨b, off, ka, kc, ca, cc, rfl, h1, h2, h3, h4, h5, h6, h7⟩ := hin
  have c1 : w.cell? ⟨b, off, none⟩ = some (.slice ka ks.length kc) := Below.keeps hbel _ _ h1
  have c2 : w.cell? ⟨b, off + 1, none⟩ = some (.slice ca 0 cc) := Below.keeps hbel _ _ h2
  have hsrc : ∃ v' w', (Builtin.append_ #[23, 23] 23 #[v, .slice ka ks.length kc]).run Try.prog w = .ok v' w' ∧ AppRow w0.heap.size 9 v (strs xs) (strs ks) w v' w' := by
    refine appS_rd w w0.heap.size 23 v xs ks ka kc hv ⟨h3.1, h3.2.1, fun h0 => ?_⟩ hbig hbel.size
    obtain ⟨b', o', e, hh⟩ := h3.2.2 h0
    exact ⟨b', o', e, fun k hk => Below.keeps hbel _ _ (hh k hk)⟩
  obtain ⟨v', w', hr, ha⟩ := hsrc
  have hP : Hid (OrdRow w0.heap.size v xs ks w v' w') := OrdRow.ofApp ha (Touch.refl _ _)
  obtain ⟨a2, c2', rfl, _, _⟩ := ownsRow_slice hv
  have HR : Hid ((Builtin.append_ #[23, 23] 23 #[.slice a2 xs.length c2', .slice ka ks.length kc]).run Try.prog w = .ok v' w') := hr
  clear ha hr hv h1 h2 h3 h4 h7 hbel
  go_enter Try.func28, Try.ntmps28
  go_wp2_with (at_builtin; refine Lib.wpList_append_run _ rfl _ _ 23 23 rfl _ _ rfl rfl _ _ HR.out ?_)
  go_ret
  exact ⟨v', rfl, hP.out⟩

set_option maxHeartbeats 4000000 in
set_option maxRecDepth 100000 in
theorem order28_inner (w0 w : World) (f : Nat) (ks : List ByteArray) (cs : List (IT f)) (vp v : Value) (xs : List ByteArray) (hin : In w0 (f + 1) (some (ks, cs)) vp) (hkl : cs.length = ks.length + 1) (hks : ks.length ≤ 64) (hbel : Below w0.heap.size w0 w)
    (hv : w.ownsRow w0.heap.size 9 1 v xs.length (strs xs)) (hbig : xs.length + (weave (cs.map (ordI f)) ks).length ≤ 1048576)
    (ih : ∀ c ∈ cs, ∀ u, In w0 f c u → ∀ (v : Value) (xs : List ByteArray) (w : World), Below w0.heap.size w0 w → w.ownsRow w0.heap.size 9 1 v xs.length (strs xs) → xs.length + (ordI f c).length ≤ 1048576 → Calls Try.prog 28 #[u, v] w (OrdPost w0.heap.size v xs (ordI f c) w)) :
    Calls Try.prog 28 #[vp, v] w (OrdPost w0.heap.size v xs (weave (cs.map (ordI f)) ks) w) := by
  obtain ⟨b, off, ka, kc, ca, cc, rfl, h1, h2, h3, h4, h5, h6, h7⟩ := hin
  have IH : Hid (∀ c ∈ cs, ∀ u, In w0 f c u → ∀ (v : Value) (xs : List ByteArray) (w : World), Below w0.heap.size w0 w → w.ownsRow w0.heap.size 9 1 v xs.length (strs xs) → xs.length + (ordI f c).length ≤ 1048576 → Calls Try.prog 28 #[u, v] w (OrdPost w0.heap.size v xs (ordI f c) w)) := ih
  obtain ⟨L, hL⟩ : ∃ L, L = cs.map (ordI f) := ⟨_, rfl⟩
  have hLl : L.length = cs.length := by rw [hL]; simp
  rw [← hL] at hbig ⊢
  obtain ⟨n, hn⟩ : ∃ n, n = ks.length := ⟨_, rfl⟩
  obtain ⟨m, hm⟩ : ∃ m, m = cs.length := ⟨_, rfl⟩
  have hm1 : n < m := by omega
  have hm2 : m ≤ n + 1 := by omega
  have hkc := h3.1
  have hkm := h3.2.1
  unfold maxLen at hkm h6
  rw [← hn] at h1 hkc hks
  rw [← hm] at h2 h5
  have HIN : Hid (n = ks.length ∧ cs.length = m ∧ w0.cell? ⟨b, off, none⟩ = some (.slice ka n kc) ∧ w0.cell? ⟨b, off + 1, none⟩ = some (.slice ca m cc) ∧ Rd w0 ka ks.length kc (fun k => ks.getD k ByteArray.empty) ∧ (∀ s ∈ ks, s.size ≤ maxLen) ∧ (0 < cs.length → ∃ b' off', ca = some ⟨b', off', none⟩ ∧ ∀ k c, cs[k]? = some c → ∃ u, w0.cell? ⟨b', off' + k, none⟩ = some u ∧ In w0 f c u)) := ⟨hn, hm.symm, h1, h2, h3, h4, h7⟩
  have HALL : Hid (Below w0.heap.size w0 w ∧ w.ownsRow w0.heap.size 9 1 v xs.length (strs xs) ∧ xs.length + (weave L ks).length ≤ 1048576 ∧ L = cs.map (ordI f) ∧ L.length = m) := ⟨hbel, hv, hbig, hL, by omega⟩
  have c2 : w.cell? ⟨b, off + 1, none⟩ = some (.slice ca m cc) := Below.keeps hbel _ _ h2
  clear ih h1 h2 h3 h4 h7 hn hm hkl hL hLl hbig hbel hv
  have hne : ((m : Int) == 0) = false := by simp; omega
  go_enter Try.func28, Try.ntmps28
  go_wp2
  clear c2
  go_loopw [1, 5] (fun u1 u5 wr => ∃ k : Nat, k ≤ m ∧ u5 = .int .i64 k ∧ OrdRow w0.heap.size v xs (weave (L.take k) ks) w u1 wr) (fun _ u5 _ => m - (intOf u5).toNat)
  case atStart => exact ⟨0, by omega, rfl, OrdRow.refl HALL.out.2.1 (Mem.refl _)⟩
  case round =>
    obtain ⟨k, hk, rfl, hO⟩ := hrel
    have HO : Hid (OrdRow w0.heap.size v xs (weave (L.take k) ks) w u1 wr) := hO
    have hbelr : Below w0.heap.size w0 wr := hO.below HALL.out.2.1 HALL.out.1
    have c2 : wr.cell? ⟨b, off + 1, none⟩ = some (.slice ca m cc) := Below.keeps hbelr _ _ HIN.out.2.2.2.1
    have hou := hO.owns
    clear hO
    by_cases hlt : k < m
    · have hkk : k < cs.length := by rw [HIN.out.2.1]; exact hlt
      have hkL : k < L.length := by rw [HALL.out.2.2.2.2]; exact hlt
      have hLk : L[k] = ordI f cs[k] := by
        have e := HALL.out.2.2.2.1
        subst e
        simp
      obtain ⟨cb, co, rfl, hch⟩ := HIN.out.2.2.2.2.2.2 (by omega)
      obtain ⟨u, hu1, hu2⟩ := hch k cs[k] (List.getElem?_eq_getElem hkk)
      have cu : wr.cell? ⟨cb, co + k, none⟩ = some u := Below.keeps hbelr _ _ hu1
      have hws := Plain.weave_take_succ L ks k hkL
      have hwl := weave_prefix L ks (k + 1)
      have hbig := HALL.out.2.2.1
      have HC : Hid (Calls Try.prog 28 #[u, u1] wr (OrdPost w0.heap.size u1 (xs ++ weave (L.take k) ks) (ordI f cs[k]) wr)) := by
        refine IH.out cs[k] (List.getElem_mem hkk) u hu2 u1 (xs ++ weave (L.take k) ks) wr hbelr hou ?_
        rw [← hLk, List.length_append]
        rw [hws] at hwl
        simp only [List.length_append] at hwl
        omega
      have hkI : (k : Int) < (m : Int) := by omega
      have HB : Hid (Below w0.heap.size w0 wr) := hbelr
      have HOU : Hid (wr.ownsRow w0.heap.size 9 1 u1 (xs ++ weave (L.take k) ks).length (strs (xs ++ weave (L.take k) ks))) := hou
      clear hch hu1 hu2 hbelr hou
      go_wp2_with fail
      refine HC.out.mono ?_
      clear HC
      rintro e w1 ⟨v1, rfl, hO1⟩
      rw [← hLk] at hO1
      have HO1 := HO.out.trans hO1
      have hb1 : Below w0.heap.size w0 w1 := hO1.below HOU.out HB.out
      have c1 : w1.cell? ⟨b, off, none⟩ = some (.slice ka n kc) := Below.keeps hb1 _ _ HIN.out.2.2.1
      by_cases hkn : k < n
      · have hkn' : k < ks.length := by rw [← HIN.out.1]; exact hkn
        rw [dif_pos hkn'] at hws
        obtain ⟨kb, ko, rfl, hkc'⟩ := HIN.out.2.2.2.2.1.2.2 (by omega)
        have ck : w1.cell? ⟨kb, ko + k, none⟩ = some (.string (ks.getD k ByteArray.empty)) := Below.keeps hb1 _ _ (hkc' k hkn')
        obtain ⟨x, hx⟩ : ∃ x, x = ks[k] := ⟨_, rfl⟩
        have hgd : ks.getD k ByteArray.empty = x := by rw [hx, List.getD_eq_getElem?_getD, List.getElem?_eq_getElem hkn']; rfl
        rw [hgd] at ck
        rw [← hx] at hws
        have hl1 : ((xs ++ weave (L.take k) ks) ++ L[k]).length ≤ 1048576 := by
          rw [hws] at hwl
          simp only [List.length_append] at hwl ⊢
          omega
        have hB1 := hb1.size
        obtain ⟨v2, w2, hr2, ha2⟩ := appS_one (w1.alloc (.cells #[.string x] 9)) w0.heap.size 23 v1 (strs ((xs ++ weave (L.take k) ks) ++ L[k])) (.string x) w1.heap.size 1 (by rw [strs_length]; exact hO1.owns.alloc _) (by rw [cell_of_row _ _ 0 #[.string x] 9 (0, 0) (heap_new w1 _)]; rfl) rfl (by rw [strs_length]; exact hl1) (by simp; omega)
        have HR2 : Hid ((Builtin.append_ #[23, 23] 23 #[v1, .slice (some ⟨w1.heap.size, 0, none⟩) 1 1]).run Try.prog (w1.alloc (.cells #[.string x] 9)) = .ok v2 w2) := hr2
        have HO2 : Hid (OrdRow w0.heap.size v xs (weave (L.take (k + 1)) ks) w v2 w2) := by
          have h2 : OrdRow w0.heap.size v1 ((xs ++ weave (L.take k) ks) ++ L[k]) [x] w1 v2 w2 := OrdRow.ofApp ha2 ((Touch.refl _ _).alloc _)
          rw [hws]
          rw [List.append_assoc] at h2
          have := HO1.trans h2
          rw [List.append_assoc] at this
          exact this
        have hknI : (k : Int) < (n : Int) := by omega
        clear HALL hr2 ha2 hl1 hx HO1 hO1 hws hwl hLk HO hkL hkn' IH HIN hkc' hgd hb1 HB HOU hbig c2 cu
        go_wp2_with (at_builtin; refine Lib.wpList_append_run _ rfl _ _ 23 23 rfl _ _ rfl rfl _ _ HR2.out ?_)
        go_roundw
        case rel => exact ⟨k + 1, by omega, by go_num, HO2.out⟩
        case measure => simp [intOf]; omega
      · rw [dif_neg (by rw [← HIN.out.1]; exact hkn), List.append_nil] at hws
        have HO2 : Hid (OrdRow w0.heap.size v xs (weave (L.take (k + 1)) ks) w v1 w1) := by rw [hws]; exact HO1
        have hknI : ¬ (k : Int) < (n : Int) := by omega
        clear HALL HO1 hO1 hws hwl hLk HO hkL IH HIN hb1 HB HOU hbig c2 cu
        go_wp2
        go_roundw
        case rel => exact ⟨k + 1, by omega, by go_num, HO2.out⟩
        case measure => simp [intOf]; omega
    · obtain rfl : k = m := by omega
      have hO := HO.out
      rw [List.take_of_length_le (by rw [HALL.out.2.2.2.2]; exact Nat.le_refl _)] at hO
      have HO2 : Hid (OrdRow w0.heap.size v xs (weave L ks) w u1 wr) := hO
      have hkI : ¬ (k : Int) < (k : Int) := by omega
      clear hO HO HALL IH hou hbelr HIN
      go_wp2
      go_ret
      exact ⟨u1, rfl, HO2.out⟩

/-- b1TreeOrder. -/
theorem order28 (w0 : World) : ∀ (f : Nat) (t : IT f) (vp : Value) (mn h : Nat), okI f t mn h → In w0 f t vp → ∀ (v : Value) (xs : List ByteArray) (w : World), Below w0.heap.size w0 w → w.ownsRow w0.heap.size 9 1 v xs.length (strs xs) → xs.length + (ordI f t).length ≤ 1048576 →
    Calls Try.prog 28 #[vp, v] w (OrdPost w0.heap.size v xs (ordI f t) w)
  | f + 1, some (ks, cs), vp, mn, h, hok, hin, v, xs, w, hbel, hv, hbig => by
    obtain ⟨_, hks, ⟨hc0, _⟩ | ⟨h', _, hcl, hcs⟩⟩ := hok
    · obtain rfl := List.length_eq_zero_iff.1 hc0
      exact order28_leaf w0 w f ks vp v xs hin hbel hv hbig
    · have e : ordI (f + 1) (some (ks, cs)) = weave (cs.map (ordI f)) ks := by
        show (if cs.length = 0 then ks else weave (cs.map (ordI f)) ks) = _
        rw [if_neg (by omega)]
      rw [e] at hbig ⊢
      exact order28_inner w0 w f ks cs vp v xs hin hcl hks hbel hv hbig fun c hc u hu v xs w h1 h2 h3 => order28 w0 f c u 32 h' (hcs c hc) hu v xs w h1 h2 h3

end Go.Proofs.Qxb6604036a
