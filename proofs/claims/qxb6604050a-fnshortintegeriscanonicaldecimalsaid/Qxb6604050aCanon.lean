/- zzB1CanonicalShort (8); the law FnShortIntegerIsCanonicalDecimal (3). -/
import Derived.Test.Qxb6604050aShort
import Derived.BigRegion
import Derived.Deep.DeepCutAuto
namespace Go.Proofs.Qxb6604050a
open Go.RowKit
set_option linter.unusedVariables false
set_option linter.unusedSimpArgs false
attribute [local go_sem ↓] Go.wp_at_zero Go.wp_at_succ

theorem valL_inj : ∀ (l r : List Int), l.length = r.length → (∀ x ∈ l, 48 ≤ x ∧ x ≤ 57) → (∀ x ∈ r, 48 ≤ x ∧ x ≤ 57) → valL l = valL r → l = r
  | [], [], _, _, _, _ => rfl
  | x :: t, y :: s, hl, h1, h2, hv => by
    have a1 := h1 x (by simp); have a2 := h2 y (by simp)
    have b1 : ∀ z ∈ t, 48 ≤ z ∧ z ≤ 57 := fun z hz => h1 z (by simp [hz])
    have b2 : ∀ z ∈ s, 48 ≤ z ∧ z ≤ 57 := fun z hz => h2 z (by simp [hz])
    have hl' : t.length = s.length := by simpa using hl
    have c1 := valL_nonneg t b1; have c2 := valL_nonneg s b2
    have d1 := valL_lt t b1; have d2 := valL_lt s b2
    rw [valL_cons, valL_cons, hl'] at hv
    rw [hl'] at d1
    obtain ⟨P, hP⟩ : ∃ P : Int, P = 10 ^ s.length := ⟨_, rfl⟩
    rw [← hP] at hv d1 d2
    have hP0 : 0 ≤ P := by rw [hP]; exact Int.pow_nonneg (by decide)
    have hxy : x = y := by
      rcases Int.lt_trichotomy x y with h | h | h
      · exfalso
        have : (x - 48 + 1) * P ≤ (y - 48) * P := Int.mul_le_mul_of_nonneg_right (by omega) hP0
        rw [Int.add_mul, Int.one_mul] at this
        omega
      · exact h
      · exfalso
        have : (y - 48 + 1) * P ≤ (x - 48) * P := Int.mul_le_mul_of_nonneg_right (by omega) hP0
        rw [Int.add_mul, Int.one_mul] at this
        omega
    subst hxy
    rw [valL_inj t s hl' b1 b2 (by omega)]

theorem pow_le (a b : Nat) (h : a ≤ b) : (10 : Int) ^ a ≤ 10 ^ b := by
  have : (10 : Nat) ^ a ≤ 10 ^ b := Nat.pow_le_pow_right (by decide) h
  exact_mod_cast this

theorem IsDec.uniq {v : Nat} {L R : List Int} (h1 : IsDec v L) (h2 : IsDec v R) : L = R := by
  by_cases h0 : v = 0
  · rw [h1.zero h0, h2.zero h0]
  · refine valL_inj L R ?_ h1.dig h2.dig (by rw [h1.val, h2.val])
    have a1 := h1.ge h0; have a2 := h2.ge h0
    have b1 := valL_lt L h1.dig; have b2 := valL_lt R h2.dig
    rw [h1.val] at b1; rw [h2.val] at b2
    rcases Nat.lt_trichotomy L.length R.length with h | h | h
    · have := pow_le L.length (R.length - 1) (by omega); omega
    · exact h
    · have := pow_le R.length (L.length - 1) (by omega); omega

theorem valL_snoc (l : List Int) (x : Int) : valL (l ++ [x]) = valL l * 10 + (x - 48) := by
  simp [valL, List.foldl_append]

theorem valL_append_ge (l r : List Int) (h1 : ∀ x ∈ l, 48 ≤ x ∧ x ≤ 57) (h2 : ∀ x ∈ r, 48 ≤ x ∧ x ≤ 57) : valL l ≤ valL (l ++ r) := by
  have e : valL (l ++ r) = valL l * 10 ^ r.length + valL r := by
    have := foldl_val r (valL l)
    simpa [valL, List.foldl_append] using this
  have a := valL_nonneg l h1
  have b := valL_nonneg r h2
  have c := pow_le 0 r.length (Nat.zero_le _)
  have d : valL l * 1 ≤ valL l * 10 ^ r.length := Int.mul_le_mul_of_nonneg_left (by simpa using c) a
  omega

/-- The digits' list. -/
def digL (m : Nat) (F : Nat → Int) : List Int := listOf m F

theorem listOf_succ (m : Nat) (F : Nat → Int) : listOf (m + 1) F = listOf m F ++ [F m] := by
  simp [listOf, List.range_succ]

theorem mem_listOf {m : Nat} {F : Nat → Int} {p : Int → Prop} (h : ∀ j, j < m → p (F j)) : ∀ x ∈ listOf m F, p x := by
  intro x hx
  simp [listOf] at hx
  obtain ⟨j, hj, rfl⟩ := hx
  exact h j hj

theorem listOf_split (j m : Nat) (F : Nat → Int) (h : j ≤ m) : listOf m F = listOf j F ++ listOf (m - j) (fun i => F (j + i)) := by
  obtain ⟨d, rfl⟩ : ∃ d, m = j + d := ⟨m - j, by omega⟩
  simp [listOf, List.range_add, Function.comp_def]

/-- What zzB1CanonicalShort asks. -/
def CanonD (n m : Nat) (S F : Nat → Int) (neg : Bool) : Prop :=
  0 < m ∧ (∀ j, j < m → 48 ≤ F j ∧ F j ≤ 57) ∧ valL (listOf m F) ≤ 999999999999999 ∧ ∃ L, IsDec (valL (listOf m F)).toNat L ∧ sgn neg (valL (listOf m F)).toNat ++ L = listOf n S

/-- THE PLAIN LAW. -/
theorem plain3 (n : Nat) (S : Nat → Int) : ShortD n (n - kOf n S) (fun j => S (kOf n S + j)) ↔ CanonD n (n - kOf n S) S (fun j => S (kOf n S + j)) (decide (0 < n ∧ S 0 = 45)) := by
  obtain ⟨neg, hneg⟩ : ∃ neg, neg = decide (0 < n ∧ S 0 = 45) := ⟨_, rfl⟩
  obtain ⟨k, hk⟩ : ∃ k, k = kOf n S := ⟨_, rfl⟩
  have hk1 : neg = true → k = 1 ∧ 0 < n ∧ S 0 = 45 := by
    intro h; rw [hneg, decide_eq_true_eq] at h; exact ⟨by rw [hk]; unfold kOf; rw [if_pos h], h⟩
  have hk0 : neg = false → k = 0 := by
    intro h; rw [hneg, decide_eq_false_iff_not] at h; rw [hk]; unfold kOf; rw [if_neg h]
  rw [← hneg, ← hk]
  clear hneg hk
  obtain ⟨F, hF⟩ : ∃ F : Nat → Int, F = fun j => S (k + j) := ⟨_, rfl⟩
  obtain ⟨m, hm⟩ : ∃ m, m = n - k := ⟨_, rfl⟩
  rw [← hF, ← hm]
  -- the whole text
  have htext : 0 < m → listOf n S = (if neg = true then [45] else []) ++ listOf m F := by
    intro hm0
    rw [listOf_split k n S (by omega), ← hm, ← hF]
    cases neg
    · rw [hk0 rfl]; simp [listOf]
    · obtain ⟨e, _, h45⟩ := hk1 rfl
      rw [e]; simp [listOf, h45]
  have hnm : 1 < n ∨ n ≤ 1 := by omega
  constructor
  · rintro ⟨h1, h2, h3, h4⟩
    have hd : ∀ x ∈ listOf m F, 48 ≤ x ∧ x ≤ 57 := mem_listOf (p := fun x => 48 ≤ x ∧ x ≤ 57) h4
    have hnn := valL_nonneg _ hd
    have hlt := valL_lt _ hd
    rw [listOf_length] at hlt
    have h15 := pow_le m 15 h2
    have e15 : (10 : Int) ^ 15 = 1000000000000000 := by decide
    obtain ⟨m', rfl⟩ : ∃ m', m = m' + 1 := ⟨m - 1, by omega⟩
    have hcons : listOf (m' + 1) F = F 0 :: listOf m' (fun i => F (1 + i)) := by
      have := listOf_split 1 (m' + 1) F (by omega)
      simpa [listOf] using this
    have hdec : IsDec (valL (listOf (m' + 1) F)).toNat (listOf (m' + 1) F) := by
      refine ⟨hd, by omega, fun h0 => ?_, fun h0 => ⟨_, _, hcons, fun h48 => ?_⟩⟩
      · -- the value is 0
        have h48 : F 0 = 48 := by
          rcases Int.lt_or_eq_of_le (h4 0 (by omega)).1 with h | h
          · exfalso
            have hv := valL_cons (F 0) (listOf m' (fun i => F (1 + i)))
            rw [← hcons] at hv
            have a := valL_nonneg (listOf m' (fun i => F (1 + i))) (mem_listOf (p := fun x => 48 ≤ x ∧ x ≤ 57) fun j hj => h4 (1 + j) (by omega))
            have b := pow_le 0 (listOf m' (fun i => F (1 + i))).length (Nat.zero_le _)
            have c : (1 : Int) * 10 ^ (listOf m' (fun i => F (1 + i))).length ≤ (F 0 - 48) * 10 ^ (listOf m' (fun i => F (1 + i))).length := Int.mul_le_mul_of_nonneg_right (by omega) (Int.pow_nonneg (by decide))
            simp at b
            omega
          · exact h.symm
        have hn1 : ¬ 1 < n := fun h => h3 ⟨h48, h⟩
        obtain rfl : m' = 0 := by omega
        rw [hcons, h48]; rfl
      · have hn1 : ¬ 1 < n := fun h => h3 ⟨h48, h⟩
        obtain rfl : m' = 0 := by omega
        apply h0
        rw [hcons, h48]; rfl
    refine ⟨h1, h4, by omega, _, hdec, ?_⟩
    rw [htext h1]
    cases neg
    · simp [sgn]
    · have hv : (valL (listOf (m' + 1) F)).toNat ≠ 0 := by
        intro h0
        have e := hdec.zero h0
        have h48 : F 0 = 48 := by rw [hcons] at e; exact (List.cons.inj e).1
        obtain ⟨ek, hn0, _⟩ := hk1 rfl
        exact h3 ⟨h48, by omega⟩
      simp [sgn, hv]
  · rintro ⟨h1, h4, h5, L, hdec, htx⟩
    rw [htext h1] at htx
    have hd : ∀ x ∈ listOf m F, 48 ≤ x ∧ x ≤ 57 := mem_listOf (p := fun x => 48 ≤ x ∧ x ≤ 57) h4
    have hnn := valL_nonneg _ hd
    have hLd : L = listOf m F ∧ (neg = true → (valL (listOf m F)).toNat ≠ 0) := by
      cases neg
      · simp [sgn] at htx; exact ⟨htx, fun h => by cases h⟩
      · by_cases hv : (valL (listOf m F)).toNat = 0
        · exfalso
          simp [sgn, hv] at htx
          have := hdec.dig 45 (by rw [htx]; simp)
          omega
        · simp [sgn, hv] at htx; exact ⟨htx, fun _ => hv⟩
    obtain ⟨rfl, hv0⟩ := hLd
    have hlen := hdec.len (by omega)
    rw [listOf_length] at hlen
    refine ⟨h1, hlen, ?_, h4⟩
    rintro ⟨h48, hn1⟩
    obtain ⟨m', rfl⟩ : ∃ m', m = m' + 1 := ⟨m - 1, by omega⟩
    have hcons : listOf (m' + 1) F = F 0 :: listOf m' (fun i => F (1 + i)) := by
      have := listOf_split 1 (m' + 1) F (by omega)
      simpa [listOf] using this
    by_cases hv : (valL (listOf (m' + 1) F)).toNat = 0
    · have e := hdec.zero hv
      have hl := congrArg List.length e
      rw [listOf_length] at hl
      simp at hl
      cases neg
      · have := hk0 rfl; omega
      · exact hv0 rfl hv
    · obtain ⟨x, t, e, hx⟩ := hdec.head hv
      rw [hcons] at e
      exact hx (by rw [← (List.cons.inj e).1, h48])

theorem list_eq {n : Nat} {S : Nat → Int} {l : List Int} (h1 : l.length = n) (h2 : ∀ k, k < l.length → l.getD k 0 = S k) : l = listOf n S := by
  rw [← listOf_self l, h1]
  unfold listOf
  apply List.map_congr_left
  intro k hk
  exact h2 k (by rw [h1]; simpa using hk)

set_option maxHeartbeats 4000000 in
theorem canon8_in (b off n c m : Nat) (S F : Nat → Int) (neg : Bool) (w : World) (hR : Rb w (some ⟨b, off, none⟩) n c S) (hS : ∀ k, 0 ≤ S k ∧ S k ≤ 255) (hn0 : 0 < n)
    (hcase : (neg = true ∧ S 0 = 45 ∧ n = 1 + m ∧ F = fun j => S (1 + j)) ∨ (neg = false ∧ S 0 ≠ 45 ∧ n = m ∧ F = S)) :
    Calls Try.prog 8 #[.slice (some ⟨b, off, none⟩) n c] w (SaysT (CanonD n m S F neg) w) := by
  have HR : Hid (Rb w (some ⟨b, off, none⟩) n c S) := hR
  obtain ⟨h1, h2, h3⟩ := hR
  unfold maxLen at h2
  obtain ⟨b', off', e, hc⟩ := h3 hn0
  cases e
  have hc0 : w.cell? ⟨b, off, none⟩ = some (.int .u8 (S 0)) := hc 0 hn0
  rcases hcase with ⟨rfl, h45, hnm, hF⟩ | ⟨rfl, h45, hnm, hF⟩
  · have hb : (S 0 == 45) = true := by simp [h45]
    have HCe : Hid (∀ k, k < m → w.cell? ⟨b, off + (1 + k), none⟩ = some (.int .u8 (F k))) := fun k hk => by rw [hc (1 + k) (by omega), hF]
    clear hc h45 hF h3
    by_cases hm : m = 0
    · have hn1 : n = 1 := by omega
      subst hn1
      have HM : Hid (m = 0) := hm
      clear hm hnm
      go_enter Try.func8, Try.ntmps8
      go_wp2
      go_ret
      refine ⟨false, rfl, Touch.refl _ _, ?_⟩
      simp only [Bool.false_eq_true, false_iff]
      rintro ⟨h, _⟩
      have := HM.out
      omega
    · have hm0 : 0 < m := by omega
      have hnb : ((1 : Int) == (n : Int)) = false := by simp; omega
      have HN : Hid (n = 1 + m) := hnm
      have hlt1 : n ≤ 1 + m := by omega
      have hlt2 : 1 + m ≤ n := by omega
      clear hm hnm
      go_enter Try.func8, Try.ntmps8
      go_wp2
      go_loop [4, 5] (fun u x => ∃ j v : Nat, j ≤ m ∧ v ≤ 999999999999999 ∧ u = .int .i64 ((1 + j : Nat) : Int) ∧ x = .int .i64 v ∧ Hid ((v : Int) = valL (listOf j F) ∧ ∀ i, i < j → 48 ≤ F i ∧ F i ≤ 57)) (fun u _ => n - (intOf u).toNat)
      case atStart => exact ⟨0, 0, by omega, by omega, rfl, rfl, by simp [valL, listOf], fun i hi => by omega⟩
      case round =>
        obtain ⟨j, v, hj, hv, rfl, rfl, hE⟩ := hrel
        by_cases hlt : j < m
        · have hcj : w.cell? ⟨b, off + (1 + j), none⟩ = some (.int .u8 (F j)) := HCe.out j hlt
          have hjn : ((1 + j : Nat) : Int) < (n : Int) := by omega
          by_cases hd : 48 ≤ F j ∧ F j ≤ 57
          · obtain ⟨d1, d2⟩ := hd
            have y1 : IntKind.i64.wrap ((v : Int) * 10) = (v : Int) * 10 := by rw [IntKind.wrap_i64]; omega
            have y2 : IntKind.u8.wrap (F j - 48) = F j - 48 := by rw [IntKind.wrap_u8]; omega
            have y3 : IntKind.i64.wrap (F j - 48) = F j - 48 := by rw [IntKind.wrap_i64]; omega
            have y4 : IntKind.i64.wrap ((v : Int) * 10 + (F j - 48)) = (v : Int) * 10 + (F j - 48) := by rw [IntKind.wrap_i64]; omega
            have HV : Hid ((v : Int) * 10 + (F j - 48) = valL (listOf (j + 1) F)) := by
              show _ = _
              rw [listOf_succ, valL_snoc, ← hE.out.1]
            by_cases hbig : (v : Int) * 10 + (F j - 48) ≤ 999999999999999
            · go_wp2
              go_round
              case rel => exact ⟨j + 1, v * 10 + (F j - 48).toNat, by omega, by omega, by go_num, by congr 1; omega, by rw [← HV.out]; omega, fun i hi => (Nat.lt_or_eq_of_le (Nat.le_of_lt_succ hi)).elim (hE.out.2 i) (fun e => e ▸ ⟨d1, d2⟩)⟩
              case measure => simp [intOf]; omega
            · go_wp2
              go_ret
              refine ⟨false, rfl, Touch.refl _ _, ?_⟩
              simp only [Bool.false_eq_true, false_iff]
              rintro ⟨_, h4, h5, _⟩
              have hge := valL_append_ge (listOf (j + 1) F) (listOf (m - (j + 1)) (fun i => F (j + 1 + i))) (mem_listOf (p := fun x => 48 ≤ x ∧ x ≤ 57) fun i hi => h4 i (by omega)) (mem_listOf (p := fun x => 48 ≤ x ∧ x ≤ 57) fun i hi => h4 (j + 1 + i) (by omega))
              rw [← listOf_split (j + 1) m F (by omega), ← HV.out] at hge
              omega
          · have hd' : F j < 48 ∨ 57 < F j := by omega
            rcases hd' with d1 | d1
            all_goals
              go_wp2
              go_ret
              refine ⟨false, rfl, Touch.refl _ _, ?_⟩
              simp only [Bool.false_eq_true, false_iff]
              exact fun h => hd (h.2.1 j hlt)
        · have HC1 : Hid (Calls Try.prog 18 #[.int .i64 (v : Int), .bool true] w (RenderPost w.heap.size v true w)) := render18 _ v true w hv (Nat.le_refl _)
          obtain rfl : j = m := by omega
          go_wp2_with fail
          refine HC1.out.mono ?_
          rintro e W ⟨L, o, hD, rfl, hown, hT⟩
          obtain ⟨R, hR⟩ : ∃ R, R = sgn true v ++ L := ⟨_, rfl⟩
          rw [← hR] at hown
          obtain ⟨a1, c1, rfl, hR1⟩ := Rb.ofOwns hown
          have hle1 := hR1.1; have hle2 := hR1.2.1
          unfold maxLen at hle2
          have HC2 : Hid (Calls Try.prog 14 #[.slice a1 R.length c1, .slice (some ⟨b, off, none⟩) n c] W (SaysPost (R.length = n ∧ ∀ k, k < R.length → R.getD k 0 = S k) W)) := same14 _ _ _ c1 n c _ S W hR1 (HR.out.touch hT fun _ _ _ h => h)
          obtain ⟨nl, hnl⟩ : ∃ nl, nl = R.length := ⟨_, rfl⟩
          rw [← hnl] at HC2 hle1 ⊢
          have HF : Hid (IsDec v L ∧ Touch (fun _ => False) w W ∧ R = sgn true v ++ L ∧ nl = R.length) := ⟨hD, hT, hR, hnl⟩
          clear hD hown hT hR1 hR hnl
          go_wp2_with fail
          refine HC2.out.mono ?_
          rintro e W2 ⟨r, rfl, hM, hr⟩
          have HG : Hid (Mem W W2 ∧ (r = true ↔ nl = n ∧ ∀ k, k < nl → R.getD k 0 = S k)) := ⟨hM, hr⟩
          clear hM hr
          go_wp2
          go_ret
          obtain ⟨hD, hT, hR, hnl⟩ := HF.out
          refine ⟨r, rfl, HG.out.1.touch hT, ?_⟩
          rw [HG.out.2, hnl]
          have hvv : (valL (listOf j F)).toNat = v := by rw [← hE.out.1]; omega
          constructor
          · intro h
            refine ⟨hm0, fun i hi => hE.out.2 i hi, by rw [← hE.out.1]; omega, L, by rw [hvv]; exact hD, by rw [hvv, ← hR]; exact list_eq h.1 h.2⟩
          · rintro ⟨-, -, -, L', hD', e'⟩
            rw [hvv] at hD' e'
            obtain rfl := hD'.uniq hD
            rw [hR, e']
            exact ⟨listOf_length n S, fun k hk => listOf_getD n S k (by rw [listOf_length] at hk; exact hk)⟩
  · have hb : (S 0 == 45) = false := by simp [h45]
    have HCe : Hid (∀ k, k < m → w.cell? ⟨b, off + k, none⟩ = some (.int .u8 (F k))) := fun k hk => by rw [hc k (by omega), hF]
    have hm0 : 0 < m := by omega
    have hnb : ((0 : Int) == (n : Int)) = false := by simp; omega
    have hlt1 : n ≤ m := by omega
    have hlt2 : m ≤ n := by omega
    clear hc h45 hF h3 hnm
    · go_enter Try.func8, Try.ntmps8
      go_wp2
      go_loop [4, 5] (fun u x => ∃ j v : Nat, j ≤ m ∧ v ≤ 999999999999999 ∧ u = .int .i64 (j : Int) ∧ x = .int .i64 v ∧ Hid ((v : Int) = valL (listOf j F) ∧ ∀ i, i < j → 48 ≤ F i ∧ F i ≤ 57)) (fun u _ => n - (intOf u).toNat)
      case atStart => exact ⟨0, 0, by omega, by omega, rfl, rfl, by simp [valL, listOf], fun i hi => by omega⟩
      case round =>
        obtain ⟨j, v, hj, hv, rfl, rfl, hE⟩ := hrel
        by_cases hlt : j < m
        · have hcj : w.cell? ⟨b, off + j, none⟩ = some (.int .u8 (F j)) := HCe.out j hlt
          have hjn : (j : Int) < (n : Int) := by omega
          by_cases hd : 48 ≤ F j ∧ F j ≤ 57
          · obtain ⟨d1, d2⟩ := hd
            have y1 : IntKind.i64.wrap ((v : Int) * 10) = (v : Int) * 10 := by rw [IntKind.wrap_i64]; omega
            have y2 : IntKind.u8.wrap (F j - 48) = F j - 48 := by rw [IntKind.wrap_u8]; omega
            have y3 : IntKind.i64.wrap (F j - 48) = F j - 48 := by rw [IntKind.wrap_i64]; omega
            have y4 : IntKind.i64.wrap ((v : Int) * 10 + (F j - 48)) = (v : Int) * 10 + (F j - 48) := by rw [IntKind.wrap_i64]; omega
            have HV : Hid ((v : Int) * 10 + (F j - 48) = valL (listOf (j + 1) F)) := by
              show _ = _
              rw [listOf_succ, valL_snoc, ← hE.out.1]
            by_cases hbig : (v : Int) * 10 + (F j - 48) ≤ 999999999999999
            · go_wp2
              go_round
              case rel => exact ⟨j + 1, v * 10 + (F j - 48).toNat, by omega, by omega, by go_num, by congr 1; omega, by rw [← HV.out]; omega, fun i hi => (Nat.lt_or_eq_of_le (Nat.le_of_lt_succ hi)).elim (hE.out.2 i) (fun e => e ▸ ⟨d1, d2⟩)⟩
              case measure => simp [intOf]; omega
            · go_wp2
              go_ret
              refine ⟨false, rfl, Touch.refl _ _, ?_⟩
              simp only [Bool.false_eq_true, false_iff]
              rintro ⟨_, h4, h5, _⟩
              have hge := valL_append_ge (listOf (j + 1) F) (listOf (m - (j + 1)) (fun i => F (j + 1 + i))) (mem_listOf (p := fun x => 48 ≤ x ∧ x ≤ 57) fun i hi => h4 i (by omega)) (mem_listOf (p := fun x => 48 ≤ x ∧ x ≤ 57) fun i hi => h4 (j + 1 + i) (by omega))
              rw [← listOf_split (j + 1) m F (by omega), ← HV.out] at hge
              omega
          · have hd' : F j < 48 ∨ 57 < F j := by omega
            rcases hd' with d1 | d1
            all_goals
              go_wp2
              go_ret
              refine ⟨false, rfl, Touch.refl _ _, ?_⟩
              simp only [Bool.false_eq_true, false_iff]
              exact fun h => hd (h.2.1 j hlt)
        · have HC1 : Hid (Calls Try.prog 18 #[.int .i64 (v : Int), .bool false] w (RenderPost w.heap.size v false w)) := render18 _ v false w hv (Nat.le_refl _)
          obtain rfl : j = m := by omega
          go_wp2_with fail
          refine HC1.out.mono ?_
          rintro e W ⟨L, o, hD, rfl, hown, hT⟩
          obtain ⟨R, hR⟩ : ∃ R, R = sgn false v ++ L := ⟨_, rfl⟩
          rw [← hR] at hown
          obtain ⟨a1, c1, rfl, hR1⟩ := Rb.ofOwns hown
          have hle1 := hR1.1; have hle2 := hR1.2.1
          unfold maxLen at hle2
          have HC2 : Hid (Calls Try.prog 14 #[.slice a1 R.length c1, .slice (some ⟨b, off, none⟩) n c] W (SaysPost (R.length = n ∧ ∀ k, k < R.length → R.getD k 0 = S k) W)) := same14 _ _ _ c1 n c _ S W hR1 (HR.out.touch hT fun _ _ _ h => h)
          obtain ⟨nl, hnl⟩ : ∃ nl, nl = R.length := ⟨_, rfl⟩
          rw [← hnl] at HC2 hle1 ⊢
          have HF : Hid (IsDec v L ∧ Touch (fun _ => False) w W ∧ R = sgn false v ++ L ∧ nl = R.length) := ⟨hD, hT, hR, hnl⟩
          clear hD hown hT hR1 hR hnl
          go_wp2_with fail
          refine HC2.out.mono ?_
          rintro e W2 ⟨r, rfl, hM, hr⟩
          have HG : Hid (Mem W W2 ∧ (r = true ↔ nl = n ∧ ∀ k, k < nl → R.getD k 0 = S k)) := ⟨hM, hr⟩
          clear hM hr
          go_wp2
          go_ret
          obtain ⟨hD, hT, hR, hnl⟩ := HF.out
          refine ⟨r, rfl, HG.out.1.touch hT, ?_⟩
          rw [HG.out.2, hnl]
          have hvv : (valL (listOf j F)).toNat = v := by rw [← hE.out.1]; omega
          constructor
          · intro h
            refine ⟨hm0, fun i hi => hE.out.2 i hi, by rw [← hE.out.1]; omega, L, by rw [hvv]; exact hD, by rw [hvv, ← hR]; exact list_eq h.1 h.2⟩
          · rintro ⟨-, -, -, L', hD', e'⟩
            rw [hvv] at hD' e'
            obtain rfl := hD'.uniq hD
            rw [hR, e']
            exact ⟨listOf_length n S, fun k hk => listOf_getD n S k (by rw [listOf_length] at hk; exact hk)⟩

theorem canon8 (a : Option Addr) (n c : Nat) (S : Nat → Int) (w : World) (hR : Rb w a n c S) (hS : ∀ k, 0 ≤ S k ∧ S k ≤ 255) :
    Calls Try.prog 8 #[.slice a n c] w (SaysT (CanonD n (n - kOf n S) S (fun j => S (kOf n S + j)) (decide (0 < n ∧ S 0 = 45))) w) := by
  by_cases h0 : n = 0
  · subst h0
    obtain ⟨h1, h2, h3⟩ := hR
    unfold maxLen at h2
    obtain ⟨k, hk⟩ : ∃ k, k = kOf 0 S := ⟨_, rfl⟩
    obtain ⟨F, hF⟩ : ∃ F : Nat → Int, F = fun j => S (kOf 0 S + j) := ⟨_, rfl⟩
    obtain ⟨ng, hng⟩ : ∃ ng, ng = decide (0 < 0 ∧ S 0 = 45) := ⟨_, rfl⟩
    rw [← hF, ← hk, ← hng]
    clear h3 hF hk hng
    go_enter Try.func8, Try.ntmps8
    go_wp2
    go_ret
    refine ⟨false, rfl, Touch.refl _ _, ?_⟩
    simp only [Bool.false_eq_true, false_iff]
    rintro ⟨h, _⟩
    omega
  · obtain ⟨b, off, rfl, -⟩ := hR.2.2 (by omega)
    by_cases h45 : S 0 = 45
    · have hp : 0 < n ∧ S 0 = 45 := ⟨by omega, h45⟩
      have hk : kOf n S = 1 := by unfold kOf; rw [if_pos hp]
      rw [decide_eq_true hp, hk]
      exact canon8_in b off n c (n - 1) S _ true w hR hS (by omega) (.inl ⟨rfl, h45, by omega, rfl⟩)
    · have hp : ¬ (0 < n ∧ S 0 = 45) := fun h => h45 h.2
      have hk : kOf n S = 0 := by unfold kOf; rw [if_neg hp]
      rw [decide_eq_false hp, hk]
      exact canon8_in b off n c (n - 0) S _ false w hR hS (by omega) (.inr ⟨rfl, h45, by omega, by simp⟩)

theorem guard6 (a : Option Addr) (n c : Nat) (w : World) (hn : n ≤ maxLen) : Calls Try.prog 6 #[.slice a n c] w (BoolPost w) := by
  unfold maxLen at hn
  by_cases h1 : n ≤ 1048576
  all_goals
    go_enter Try.func6, Try.ntmps6
    go_wp2
    go_ret
    exact ⟨_, rfl, rfl⟩

/-- The law's answer. -/
def LawPost3 (w : World) (e : Ending) (w' : World) : Prop := e = .returned (.bool true) ∧ Below w.heap.size w w'

/-- What stands behind the copy. -/
structure Mid3 (w : World) (n : Nat) (S : Nat → Int) (v0 : Value) (wc : World) : Prop where
  bel : Touch (fun _ => False) w wc
  src : ∃ a c, v0 = .slice a n c ∧ Rb wc a n c S

set_option maxHeartbeats 4000000 in
set_option maxRecDepth 100000 in
theorem law3 (a : Option Addr) (n c : Nat) (S : Nat → Int) (w : World) (h0 : Arg w a n c S) (hS : ∀ k, 0 ≤ S k ∧ S k ≤ 255) : Calls Try.prog 3 #[.slice a n c] w (LawPost3 w) := by
  have hn := h0.rd.1; have hc := h0.rd.2.1
  have HG : Hid (Calls Try.prog 6 #[.slice a n c] w (BoolPost w)) := guard6 a n c w (by omega)
  have HM : Hid (Mid3 w n S (.slice a n c) w) := ⟨Touch.refl _ _, ⟨a, c, rfl, h0.rd⟩⟩
  have HS : Hid (∀ k, 0 ≤ S k ∧ S k ≤ 255) := hS
  unfold maxLen at hc
  clear h0 hS
  have hneq := fun w a n c => run_neq_slice_nil_any (P := Try.prog) w 22 5 a n c 0 0 Try.underlying22
  go_enter Try.func3, Try.ntmps3
  go_wp2_with fail
  refine HG.out.mono ?_
  rintro e w1 ⟨r, rfl, rfl⟩
  cases r
  · go_wp2
    go_ret
    exact ⟨rfl, Below.refl _ _⟩
  by_cases l1 : n ≤ 1048576
  case neg =>
    go_wp2
    go_ret
    exact ⟨rfl, Below.refl _ _⟩
  go_upto_if 11 with fail
  go_cut [0, 3] (fun v0 _ wc => Hid (Mid3 w n S v0 wc))
  case first =>
    cases a with
    | none =>
      go_wp2
      go_meet
      case rel => exact HM.out
    | some x =>
      obtain ⟨bel, ⟨a', c', e', hA⟩⟩ := HM.out
      cases e'
      obtain ⟨W1, W2, cv, hmk, hT1, hcp, hown, hT2, hsz⟩ := bytesRow w.heap.size w (some x) n c S hA (by omega) (Nat.le_refl _)
      have HP : Hid (Mid3 w n S (.slice (some ⟨w.heap.size, 0, none⟩) n n) W2) := ⟨hT2, ⟨_, _, rfl, Rb.ofRow hown⟩⟩
      clear hA hown hT1 hT2 bel
      go_wp2
      go_meet
      case rel => exact HP.out
  case rest =>
    obtain ⟨v0, hv0⟩ : ∃ v0, v0 = u0 := ⟨_, rfl⟩
    obtain ⟨W0, hW0⟩ : ∃ W0 : World, W0 = wc := ⟨_, rfl⟩
    rw [← hv0, ← hW0] at hcut
    rw [← hv0, ← hW0]
    clear hv0 hW0 HM
    obtain ⟨hT, ⟨a', c', e', hA⟩⟩ := hcut.out
    subst e'
    have HT : Hid (Touch (fun _ => False) w W0 ∧ Rb W0 a' n c' S) := ⟨hT, hA⟩
    have hn' := hA.1; have hc' := hA.2.1
    unfold maxLen at hc'
    have HC7 : Hid (Calls Try.prog 7 #[.slice a' n c'] W0 (SaysT (ShortD n (n - kOf n S) (fun j => S (kOf n S + j))) W0)) := zz7 a' n c' S W0 hA HS.out
    clear hcut hT hA
    go_wp2_with fail
    refine HC7.out.mono ?_
    rintro e W1 ⟨r1, rfl, hT1, hr1⟩
    have HC8 : Hid (Calls Try.prog 8 #[.slice a' n c'] W1 (SaysT (CanonD n (n - kOf n S) S (fun j => S (kOf n S + j)) (decide (0 < n ∧ S 0 = 45))) W1)) := canon8 a' n c' S W1 (HT.out.2.touch hT1 fun _ _ _ h => h) HS.out
    have H1 : Hid (Touch (fun _ => False) W0 W1 ∧ (r1 = true ↔ ShortD n (n - kOf n S) (fun j => S (kOf n S + j)))) := ⟨hT1, hr1⟩
    clear hT1 hr1
    go_wp2_with fail
    refine HC8.out.mono ?_
    rintro e W2 ⟨r2, rfl, hT2, hr2⟩
    have hrr : r1 = r2 := by
      have := (H1.out.2.trans (plain3 n S)).trans hr2.symm
      cases r1 <;> cases r2 <;> simp_all
    subst hrr
    have H2 : Hid (Touch (fun _ => False) W1 W2) := hT2
    clear hT2 hr2
    cases r1
    all_goals
      go_wp2
      go_ret
      exact ⟨rfl, ((HT.out.1.trans H1.out.1 fun _ _ h => h).trans H2.out fun _ _ h => h).below (Nat.le_refl _) fun _ h => h.elim⟩

end Go.Proofs.Qxb6604050a
