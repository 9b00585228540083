/- b1Minus (25); the guard over both slices (23). -/
import Derived.Test.Qxb6604036aRemW
import Derived.BigQuiet
import Derived.Deep.QuietTactic
namespace Go.Proofs.Qxb6604036a
open Go.RowKit Plain
set_option linter.unusedVariables false
set_option linter.unusedSimpArgs false

/-- Every key of 'ds' taken out once. -/
def srems (ds ks : List ByteArray) : List ByteArray := ds.foldl (fun l x => srem x l) ks

theorem srems_cons (x : ByteArray) (ds ks : List ByteArray) : srems (x :: ds) ks = srems ds (srem x ks) := rfl

theorem srem_cons (x y : ByteArray) (l : List ByteArray) : srem x (y :: l) = if y = x then l else y :: srem x l := rfl

theorem srems_front (y : ByteArray) : ∀ (ds ks : List ByteArray), y ∉ ds → srems ds (y :: ks) = y :: srems ds ks
  | [], _, _ => rfl
  | x :: ds, ks, h => by
    have h1 : y ≠ x := fun e => h (by rw [e]; exact List.mem_cons_self ..)
    rw [srems_cons, srems_cons, srem_cons, if_neg h1]
    exact srems_front y ds _ fun hm => h (List.mem_cons_of_mem _ hm)

theorem srem_comm (x y : ByteArray) : ∀ l : List ByteArray, srem x (srem y l) = srem y (srem x l)
  | [] => rfl
  | z :: l => by
    by_cases h1 : z = y
    · by_cases h2 : z = x
      · subst h1; subst h2; rfl
      · rw [srem_cons y, if_pos h1, srem_cons x, if_neg h2, srem_cons y, if_pos h1]
    · by_cases h2 : z = x
      · rw [srem_cons y, if_neg h1, srem_cons x, if_pos h2, srem_cons x, if_pos h2]
      · rw [srem_cons y, if_neg h1, srem_cons x, if_neg h2, srem_cons x, if_neg h2, srem_cons y, if_neg h1, srem_comm x y l]

theorem srems_perm {ds ds' : List ByteArray} (hp : ds.Perm ds') : ∀ ks, srems ds ks = srems ds' ks := by
  induction hp with
  | nil => exact fun _ => rfl
  | cons x _ ih => exact fun ks => ih (srem x ks)
  | swap x y l => exact fun ks => by rw [srems_cons, srems_cons, srems_cons, srems_cons, srem_comm]
  | trans _ _ ih1 ih2 => exact fun ks => (ih1 ks).trans (ih2 ks)

theorem srems_sub : ∀ (ds ks : List ByteArray), (srems ds ks).Sublist ks
  | [], ks => List.Sublist.refl ks
  | x :: ds, ks => (srems_sub ds (srem x ks)).trans (srem_sub x ks)

theorem srems_snoc (ds ks : List ByteArray) (x : ByteArray) : srems (ds ++ [x]) ks = srem x (srems ds ks) := by
  unfold srems; rw [List.foldl_append]; rfl

/-- The smaller one of 'ds' takes nothing. -/
theorem srems_skip {x y : ByteArray} {ds ks : List ByteArray} (hs : Sorted sl (y :: ks)) (h : sl x y = true) : srems (x :: ds) (y :: ks) = srems ds (y :: ks) := by
  rw [srems_cons, srem_none]
  intro hm
  rcases List.mem_cons.1 hm with e | hm
  · rw [e, sto.irrefl] at h; cases h
  · have := (List.pairwise_cons.1 hs).1 x hm
    rw [this] at h; cases h

/-- Nothing of 'ds' takes the head. -/
theorem srems_keep {x y : ByteArray} {ds ks : List ByteArray} (hs : Sorted sl (x :: ds)) (h : sl x y = false) (hne : x ≠ y) : srems (x :: ds) (y :: ks) = y :: srems (x :: ds) ks := by
  refine srems_front y _ _ fun hm => ?_
  rcases List.mem_cons.1 hm with e | hm
  · exact hne e.symm
  · have h1 : sl y x = false := (List.pairwise_cons.1 hs).1 y hm
    exact hne (sl_total h h1)

set_option maxHeartbeats 8000000 in
set_option maxRecDepth 100000 in
/-- b1Minus. -/
theorem minus25 (B : Nat) (vk vd : Value) (K D : List ByteArray) (w : World) (hvk : w.ownsRow B 9 1 vk K.length (strs K)) (hvd : w.ownsRow B 9 1 vd D.length (strs D)) (hl : K.length ≤ 1048575) (hl' : D.length ≤ 1048575) (hB : B ≤ w.heap.size) (hsK : Sorted sl K) (hsD : Sorted sl D) : Calls Try.prog 25 #[vk, vd] w (WithPost B (srems D K) w) := by
  obtain ⟨ka, kc, rfl, hR⟩ := Rd.ofOwns hvk
  obtain ⟨da, dc, rfl, hR'⟩ := Rd.ofOwns hvd
  obtain ⟨n, hn⟩ : ∃ n, n = K.length := ⟨_, rfl⟩
  obtain ⟨m, hm⟩ : ∃ m, m = D.length := ⟨_, rfl⟩
  obtain ⟨i0, hi0, hz0, hzs, hzb⟩ := infoS
  obtain ⟨R0, hR0⟩ : ∃ R0, R0 = madeCells (Value.string ⟨#[]⟩).cells (n * i0.size) := ⟨_, rfl⟩
  have hmk : (Instr.makeSlice 23 (.int .i64 0) (.int .i64 (n : Int))).run Try.prog w = .ok (.slice (some ⟨w.heap.size, 0, none⟩) 0 n) (w.alloc (.cells R0 9)) := by
    have := run_make (P := Try.prog) w 23 9 i0 _ Try.underlying23 hi0 hz0 .i64 .i64 0 ((n : Nat) : Int) (by omega) (by omega) (by rw [hzb]; omega) (by omega)
    rw [hR0]
    simp only [Int.toNat_zero, Int.toNat_natCast] at this
    exact this
  have hR0s : R0.size = n := by rw [hR0, size_madeCells, hzs]; omega
  have HST : Hid (FR B w [] (.slice (some ⟨w.heap.size, 0, none⟩) 0 n) (w.alloc (.cells R0 9))) :=
    ⟨⟨rfl, .inr ⟨w.heap.size, n, R0, rfl, hB, heap_new w _, by simp, by unfold maxLen; omega, by omega, by simp [strs]⟩⟩, ⟨w.heap.size, rfl, Nat.le_refl _⟩, (Touch.refl _ _).alloc _⟩
  have HR : Hid (n = K.length ∧ m = D.length ∧ Rd w ka K.length kc (fun k => K.getD k ByteArray.empty) ∧ Rd w da D.length dc (fun k => D.getD k ByteArray.empty)) := ⟨hn, hm, hR, hR'⟩
  have hc1 := hR.1
  have hc2 := hR.2.1
  have hd1 := hR'.1
  have hd2 := hR'.2.1
  unfold maxLen at hc2 hd2
  rw [← hn] at hc1 hl ⊢
  rw [← hm] at hd1 hl' ⊢
  clear hn hm hR hR' hvk hvd hi0 hz0 hzs hzb hR0 hR0s
  have HCELL : Hid (∀ wr, Touch (fun _ => False) w wr → (∀ k, k < n → ∃ b o, ka = some ⟨b, o, none⟩ ∧ wr.cell? ⟨b, o + k, none⟩ = some (.string (K.getD k ByteArray.empty))) ∧ (∀ k, k < m → ∃ b o, da = some ⟨b, o, none⟩ ∧ wr.cell? ⟨b, o + k, none⟩ = some (.string (D.getD k ByteArray.empty)))) := fun wr ht => by
    constructor
    · intro k hk
      obtain ⟨b, o, e, hh⟩ := HR.out.2.2.1.2.2 (by rw [← HR.out.1]; omega)
      have := hh k (by rw [← HR.out.1]; exact hk)
      exact ⟨b, o, e, by rw [← this]; exact World.cell?_of_block (ht.block _ (World.block_lt_of_cell? w _ this) id)⟩
    · intro k hk
      obtain ⟨b, o, e, hh⟩ := HR.out.2.2.2.2.2 (by rw [← HR.out.2.1]; omega)
      have := hh k (by rw [← HR.out.2.1]; exact hk)
      exact ⟨b, o, e, by rw [← this]; exact World.cell?_of_block (ht.block _ (World.block_lt_of_cell? w _ this) id)⟩
  have HGD : Hid ((∀ k, k < n → K.drop k = K.getD k ByteArray.empty :: K.drop (k + 1)) ∧ (∀ k, k < m → D.drop k = D.getD k ByteArray.empty :: D.drop (k + 1))) := by
    constructor
    · intro k hk
      have hk' : k < K.length := by rw [← HR.out.1]; exact hk
      rw [List.drop_eq_getElem_cons hk', List.getD_eq_getElem?_getD, List.getElem?_eq_getElem hk']; rfl
    · intro k hk
      have hk' : k < D.length := by rw [← HR.out.2.1]; exact hk
      rw [List.drop_eq_getElem_cons hk', List.getD_eq_getElem?_getD, List.getElem?_eq_getElem hk']; rfl
  have HSO : Hid ((∀ k, Sorted sl (K.drop k)) ∧ (∀ k, Sorted sl (D.drop k))) := ⟨fun k => hsK.sublist (List.drop_sublist k K), fun k => hsD.sublist (List.drop_sublist k D)⟩
  clear hsK hsD
  go_enter Try.func25, Try.ntmps25
  go_wp2
  clear hmk
  go_loopw [5, 6, 7] (fun u5 u6 u7 wr => ∃ (i j : Nat), u6 = .int .i64 i ∧ u7 = .int .i64 j ∧ i ≤ n ∧ j ≤ m ∧ Hid (∃ A, FR B w A u5 wr ∧ A.length ≤ i ∧ A ++ srems (D.drop j) (K.drop i) = srems D K)) (fun _ u v _ => (n - (intOf u).toNat) + (m - (intOf v).toNat))
  case atStart => exact ⟨0, 0, rfl, rfl, Nat.zero_le _, Nat.zero_le _, [], HST.out, Nat.zero_le _, by simp⟩
  case round =>
    obtain ⟨i, j, rfl, rfl, hi, hj, hA⟩ := hrel
    obtain ⟨A, hF, hAl, hAe⟩ := hA.out
    clear hA HST
    by_cases hin : i < n
    · obtain ⟨kb, ko, rfl, hck⟩ := (HCELL.out wr hF.touch).1 i hin
      obtain ⟨y, hy⟩ : ∃ y, y = K.getD i ByteArray.empty := ⟨_, rfl⟩
      have hiI : (i : Int) < (n : Int) := by omega
      have hK := HGD.out.1 i hin
      rw [← hy] at hck hK
      have HM1 : Hid (∀ N, FR B w A u5 (wr.drewN N)) := fun N => hF.mem (mem_drewN wr N)
      have HAP : Hid (∀ wq, FR B w A u5 wq → ∃ v2 w2, (Builtin.append_ #[23, 23] 23 #[u5, .slice (some ⟨wq.heap.size, 0, none⟩) 1 1]).run Try.prog (wq.alloc (.cells #[.string y] 9)) = .ok v2 w2 ∧ FR B w (A ++ [y]) v2 w2) := fun wq hq => hq.app hB (by omega) y
      by_cases hjm : j < m
      · obtain ⟨db, do_, rfl, hcd⟩ := (HCELL.out wr hF.touch).2 j hjm
        obtain ⟨x, hx⟩ : ∃ x, x = D.getD j ByteArray.empty := ⟨_, rfl⟩
        have hjI : (j : Int) < (m : Int) := by omega
        have hD := HGD.out.2 j hjm
        rw [← hx] at hcd hD
        have hsK := HSO.out.1 i
        have hsD := HSO.out.2 j
        rw [hK] at hsK
        rw [hD] at hsD
        cases hs : sl x y
        · have hsb : Op.bytesLess x.toList y.toList = false := hs
          by_cases hxy : x = y
          · have HA : Hid (A.length ≤ i ∧ A ++ srems (D.drop (j + 1)) (K.drop (i + 1)) = srems D K) := ⟨hAl, by
              rw [← hAe, hD, hK, srems_cons, srem_cons, if_pos hxy.symm]⟩
            have hne : (x.toList == y.toList) = true := by simp [hxy]
            clear hAl hAe hxy hs hsK hsD hK hD hy hx hF HAP HCELL HGD HSO HR
            go_wp2
            go_quiet (fail)
            go_wp2
            go_quiet (fail)
            go_wp2
            go_roundw
            case rel => exact ⟨i + 1, j + 1, by go_num, by go_num, by omega, by omega, A, HM1.out _, by have := HA.out.1; omega, HA.out.2⟩
            case measure => simp [intOf]; omega
          · have HA : Hid ((A ++ [y]).length ≤ i + 1 ∧ (A ++ [y]) ++ srems (D.drop j) (K.drop (i + 1)) = srems D K) := ⟨by simp; omega, by
              rw [← hAe, hD, hK, srems_keep hsD hs hxy]; simp⟩
            have hne : (x.toList == y.toList) = false := by rw [beq_eq_false_iff_ne]; exact fun h => hxy (toList_inj h)
            clear hAl hAe hxy hs hsK hsD hK hD hy hx hF HCELL HGD HSO HR
            go_wp2
            go_quiet (fail)
            revert nq
            intro n1
            go_wp2
            go_quiet (fail)
            obtain ⟨v2, w2, hr2, hF2⟩ := HAP.out _ (HM1.out (n1 + nq))
            have HR2 : Hid ((Builtin.append_ #[23, 23] 23 #[u5, _]).run Try.prog _ = .ok v2 w2) := hr2
            have HF2 : Hid (FR B w (A ++ [y]) v2 w2) := hF2
            clear hr2 hF2
            go_wp2_with (at_builtin; refine Lib.wpList_append_run _ rfl _ _ 23 23 rfl _ _ rfl rfl _ _ HR2.out ?_)
            go_roundw
            case rel => exact ⟨i + 1, j, by go_num, rfl, by omega, by omega, A ++ [y], HF2.out, HA.out.1, HA.out.2⟩
            case measure => simp [intOf]; omega
        · have hsb : Op.bytesLess x.toList y.toList = true := hs
          have HA : Hid (A.length ≤ i ∧ A ++ srems (D.drop (j + 1)) (K.drop i) = srems D K) := ⟨hAl, by
            rw [← hAe, hD, hK, srems_skip hsK hs]⟩
          clear hAl hAe hs hsK hsD hK hD hy hx hF HAP HCELL HGD HSO HR
          go_wp2
          go_quiet (fail)
          go_wp2
          go_roundw
          case rel => exact ⟨i, j + 1, rfl, by go_num, by omega, by omega, A, HM1.out _, HA.out.1, HA.out.2⟩
          case measure => simp [intOf]; omega
      · obtain rfl : j = m := by omega
        have hjI : ¬ (j : Int) < (j : Int) := by omega
        have HA : Hid ((A ++ [y]).length ≤ i + 1 ∧ (A ++ [y]) ++ srems (D.drop j) (K.drop (i + 1)) = srems D K) := ⟨by simp; omega, by
          have h0 : D.drop j = [] := List.drop_eq_nil_of_le (by rw [← HR.out.2.1]; exact Nat.le_refl _)
          rw [← hAe, hK, h0]; simp [srems]⟩
        clear hAl hAe hK hy hF HCELL HGD HSO HR hjm
        go_wp2
        go_quiet (fail)
        revert nq
        intro n1
        go_wp2
        go_quiet (fail)
        obtain ⟨v2, w2, hr2, hF2⟩ := HAP.out _ (HM1.out (n1 + nq))
        have HR2 : Hid ((Builtin.append_ #[23, 23] 23 #[u5, _]).run Try.prog _ = .ok v2 w2) := hr2
        have HF2 : Hid (FR B w (A ++ [y]) v2 w2) := hF2
        clear hr2 hF2
        go_wp2_with (at_builtin; refine Lib.wpList_append_run _ rfl _ _ 23 23 rfl _ _ rfl rfl _ _ HR2.out ?_)
        go_roundw
        case rel => exact ⟨i + 1, j, by go_num, rfl, by omega, by omega, A ++ [y], HF2.out, HA.out.1, HA.out.2⟩
        case measure => simp [intOf]; omega
    · obtain rfl : i = n := by omega
      have hiI : ¬ (i : Int) < (i : Int) := by omega
      have HF : Hid (FR B w (srems D K) u5 wr) := by
        have h0 : K.drop i = [] := List.drop_eq_nil_of_le (by rw [← HR.out.1]; exact Nat.le_refl _)
        rw [h0, List.sublist_nil.1 (srems_sub _ []), List.append_nil] at hAe
        rw [← hAe]; exact hF
      clear hF hAe hAl
      go_wp2
      go_ret
      exact ⟨_, rfl, HF.out⟩

set_option maxHeartbeats 4000000 in
theorem bytes23 (a a' : Option Addr) (n c m c' : Nat) (S T : Nat → ByteArray) (w : World) (h : Rd w a n c S) (h' : Rd w a' m c' T) (hS : ∀ k, (S k).size ≤ maxLen) (hT : ∀ k, (T k).size ≤ maxLen) : Calls Try.prog 23 #[.slice a n c, .slice a' m c'] w (BoolPost w) := by
  obtain ⟨h1, h2, h3⟩ := h
  obtain ⟨g1, g2, g3⟩ := h'
  unfold maxLen at h2 g2
  have HC : Hid ((∀ k, k < n → ∃ b o, a = some ⟨b, o, none⟩ ∧ w.cell? ⟨b, o + k, none⟩ = some (.string (S k))) ∧ (∀ k, k < m → ∃ b o, a' = some ⟨b, o, none⟩ ∧ w.cell? ⟨b, o + k, none⟩ = some (.string (T k))) ∧ (∀ k, (S k).size ≤ maxLen) ∧ (∀ k, (T k).size ≤ maxLen)) := by
    refine ⟨fun k hk => ?_, fun k hk => ?_, hS, hT⟩
    · obtain ⟨b, o, e, hh⟩ := h3 (by omega)
      exact ⟨b, o, e, hh k hk⟩
    · obtain ⟨b, o, e, hh⟩ := g3 (by omega)
      exact ⟨b, o, e, hh k hk⟩
  clear h3 g3 hS hT
  by_cases hn : n ≤ 1048576
  · go_enter Try.func23, Try.ntmps23
    go_wp2
    go_loop [5, 6] (fun u v => ∃ k : Nat, ∃ s : Nat, k ≤ n ∧ s ≤ 1048576 ∧ v = .int .i64 k ∧ u = .int .i64 s) (fun _ v => n - (intOf v).toNat)
    case atStart => exact ⟨0, n, by omega, hn, rfl, rfl⟩
    case round =>
      obtain ⟨k, s, hk, hs, rfl, rfl⟩ := hrel
      by_cases hlt : k < n
      · obtain ⟨b, o, rfl, hck⟩ := HC.out.1 k hlt
        have hsz := HC.out.2.2.1 k
        unfold maxLen at hsz
        by_cases hb : (S k).size ≤ 1048576
        · by_cases hb2 : s + (S k).size ≤ 1048576
          · go_wp2
            go_round
            case rel => exact ⟨k + 1, s + (S k).size, by omega, hb2, by go_num, by go_num⟩
            case measure => simp [intOf]; omega
          · go_wp2
            go_ret
            exact ⟨_, rfl, rfl⟩
        · go_wp2
          go_ret
          exact ⟨_, rfl, rfl⟩
      · by_cases hm : m ≤ 1048576
        · by_cases hm2 : s + m ≤ 1048576
          · go_wp2
            go_loop [5, 7] (fun u v => ∃ k : Nat, ∃ s : Nat, k ≤ m ∧ s ≤ 1048576 ∧ v = .int .i64 k ∧ u = .int .i64 s) (fun _ v => m - (intOf v).toNat)
            case atStart => exact ⟨0, s + m, by omega, hm2, rfl, by go_num⟩
            case round =>
              obtain ⟨k', s', hk', hs', rfl, rfl⟩ := hrel
              by_cases hlt' : k' < m
              · obtain ⟨b, o, rfl, hck⟩ := HC.out.2.1 k' hlt'
                have hsz := HC.out.2.2.2 k'
                unfold maxLen at hsz
                by_cases hb : (T k').size ≤ 1048576
                · by_cases hb2 : s' + (T k').size ≤ 1048576
                  · go_wp2
                    go_round
                    case rel => exact ⟨k' + 1, s' + (T k').size, by omega, hb2, by go_num, by go_num⟩
                    case measure => simp [intOf]; omega
                  · go_wp2
                    go_ret
                    exact ⟨_, rfl, rfl⟩
                · go_wp2
                  go_ret
                  exact ⟨_, rfl, rfl⟩
              · go_wp2
                go_ret
                exact ⟨_, rfl, rfl⟩
          · go_wp2
            go_ret
            exact ⟨_, rfl, rfl⟩
        · go_wp2
          go_ret
          exact ⟨_, rfl, rfl⟩
  · go_enter Try.func23, Try.ntmps23
    go_wp2
    go_ret
    exact ⟨_, rfl, rfl⟩

end Go.Proofs.Qxb6604036a
