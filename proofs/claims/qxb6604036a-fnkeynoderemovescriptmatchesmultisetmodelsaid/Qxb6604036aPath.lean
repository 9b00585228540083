/- b1PathFull (8), b1WithInserted (11). -/
import Derived.Test.Qxb6604036aTree7
namespace Go.Proofs.Qxb6604036a
open Go.RowKit Plain
set_option linter.unusedVariables false
set_option linter.unusedSimpArgs false

theorem lb_lt (x : ByteArray) : ∀ (ks : List ByteArray) (i : Nat), i < lb x ks → sl (ks.getD i ByteArray.empty) x = true
  | [], i, h => by simp [lb] at h
  | k :: ks, i, h => by
    unfold lb at h
    split at h
    · rename_i hk
      cases i with
      | zero => simpa using hk
      | succ i => have := lb_lt x ks i (by omega); simpa using this
    · omega

theorem lb_at (x : ByteArray) : ∀ (ks : List ByteArray), lb x ks < ks.length → sl (ks.getD (lb x ks) ByteArray.empty) x = false
  | [], h => by simp at h
  | k :: ks, h => by
    unfold lb at h ⊢
    split
    · rename_i hk
      rw [if_pos hk] at h
      have := lb_at x ks (by simpa using h)
      simpa using this
    · rename_i hk
      simpa using hk

def PathPost (f : Nat) (t : IT f) (x : ByteArray) (w : World) (e : Ending) (w' : World) : Prop := w = w' ∧ ∃ r : Bool, e = .returned (.bool r) ∧ (r = true ↔ fullI f t x)

set_option maxHeartbeats 4000000 in
set_option maxRecDepth 100000 in
/-- b1PathFull. -/
theorem path8 (f : Nat) (t : IT f) (v : Value) (x : ByteArray) (mn h : Nat) (w : World) (hin : In w f t v) (hok : okI f t mn h) (hh : h ≤ 64) : Calls Try.prog 8 #[v, .string x] w (PathPost f t x w) := by
  have HIN : Hid (In w f t v ∧ okI f t mn h) := ⟨hin, hok⟩
  clear hin hok
  go_enter Try.func8, Try.ntmps8
  go_wp2
  go_loop [5, 6, 7] (fun u5 u6 u7 => ∃ (k f' : Nat) (t' : IT f') (mn' h' : Nat), u6 = .int .i64 k ∧ k + h' = h ∧ In w f' t' u5 ∧ okI f' t' mn' h' ∧ (fullI f t x ↔ fullI f' t' x)) (fun _ u _ => 65 - (intOf u).toNat)
  case atStart => exact ⟨0, f, t, mn, h, rfl, by omega, HIN.out.1, HIN.out.2, Iff.rfl⟩
  case round =>
    obtain ⟨k, f', t', mn', h', rfl, hk, hin, hok, hful⟩ := hrel
    match f', t', hok, hin, hful with
    | f' + 1, some (ks, cs), hok, hin, hful =>
    obtain ⟨b, off, ka, kc, ca, cc, rfl, g1, g2, g3, g4, g5, g6, g7⟩ := hin
    have hkc := g3.1
    have hkm := g3.2.1
    unfold maxLen at hkm g6
    obtain ⟨n, hn⟩ : ∃ n, n = ks.length := ⟨_, rfl⟩
    obtain ⟨m, hm⟩ : ∃ m, m = cs.length := ⟨_, rfl⟩
    rw [← hn] at g1 hkc
    rw [← hm] at g2 g5
    have HN : Hid (n = ks.length ∧ m = cs.length ∧ Rd w ka ks.length kc (fun k => ks.getD k ByteArray.empty) ∧ (0 < cs.length → ∃ b' off', ca = some ⟨b', off', none⟩ ∧ ∀ k c, cs[k]? = some c → ∃ u, w.cell? ⟨b', off' + k, none⟩ = some u ∧ In w f' c u) ∧ okI (f' + 1) (some (ks, cs)) mn' h' ∧ (fullI f t x ↔ fullI (f' + 1) (some (ks, cs)) x)) := ⟨hn, hm, g3, g7, hok, hful⟩
    clear g3 g4 g7 hok hful hn hm
    have hk64 : (k : Int) ≤ 64 := by omega
    by_cases hn64 : n = 64
    · by_cases hm0 : m = 0
      · subst hm0
        have hne : ((n : Int) == 64) = true := by simp; omega
        have hne2 : ((n : Int) != 64) = false := by simp; omega
        subst hn64
        go_wp2
        go_ret
        refine ⟨rfl, true, rfl, ?_⟩
        rw [HN.out.2.2.2.2.2]
        refine ⟨fun _ => ⟨HN.out.1.symm, fun c hc => ?_⟩, fun _ => rfl⟩
        rw [List.length_eq_zero_iff.1 HN.out.2.1.symm] at hc
        simp at hc
      · have hm0' : ((m : Int) == 0) = false := by simp; omega
        subst hn64
        obtain ⟨h'', hh'', hcl, hcs⟩ : ∃ h'', h' = h'' + 1 ∧ cs.length = ks.length + 1 ∧ ∀ c ∈ cs, okI f' c 32 h'' := by
          obtain ⟨_, _, ⟨hc0, _⟩ | hx⟩ := HN.out.2.2.2.2.1
          · exact absurd (HN.out.2.1.trans hc0) hm0
          · exact hx
        obtain ⟨kb, ko, rfl, hkc'⟩ := HN.out.2.2.1.2.2 (by rw [← HN.out.1]; omega)
        obtain ⟨cb, co, rfl, hch⟩ := HN.out.2.2.2.1 (by omega)
        have hml : m = 65 := by have := HN.out.1; have := HN.out.2.1; omega
        subst hml
        obtain ⟨L, hL⟩ : ∃ L, L = lb x ks := ⟨_, rfl⟩
        have hL64 : L ≤ 64 := by rw [hL]; have := lb_le x ks; have := HN.out.1; omega
        have HL : Hid (L = lb x ks ∧ (∀ k, k < ks.length → w.cell? ⟨kb, ko + k, none⟩ = some (.string (ks.getD k ByteArray.empty))) ∧ (∀ k c, cs[k]? = some c → ∃ u, w.cell? ⟨cb, co + k, none⟩ = some u ∧ In w f' c u) ∧ h' = h'' + 1 ∧ cs.length = 65 ∧ ∀ c ∈ cs, okI f' c 32 h'') := ⟨hL, hkc', hch, hh'', HN.out.2.1.symm, hcs⟩
        clear hkc' hch hcs hL hh'' hcl
        go_wp2
        go_loop [7] (fun u7 => ∃ i : Nat, u7 = .int .i64 i ∧ i ≤ L) (fun u => 64 - (intOf u).toNat)
        case atStart => exact ⟨0, rfl, Nat.zero_le _⟩
        case round =>
          obtain ⟨i, rfl, hi⟩ := hrel
          have hfin : i = L → Hid (∃ c, cs[i]? = some c ∧ ∃ u, w.cell? ⟨cb, co + i, none⟩ = some u ∧ In w f' c u) := fun e => by
            have hil : i < cs.length := by rw [HL.out.2.2.2.2.1]; omega
            obtain ⟨u, hu⟩ := HL.out.2.2.1 i cs[i] (List.getElem?_eq_getElem hil)
            exact ⟨cs[i], List.getElem?_eq_getElem hil, u, hu⟩
          by_cases hi64 : i < 64
          · have ck := HL.out.2.1 i (by rw [← HN.out.1]; exact hi64)
            obtain ⟨y, hy⟩ : ∃ y, y = ks.getD i ByteArray.empty := ⟨_, rfl⟩
            rw [← hy] at ck
            have hiI : (i : Int) < 64 := by omega
            cases hs : sl y x
            · have hsb : Op.bytesLess y.toList x.toList = false := hs
              have hiL : i = L := by
                rcases Nat.lt_or_eq_of_le hi with h1 | h1
                · rw [HL.out.1] at h1
                  have := lb_lt x ks i h1
                  rw [← hy, hs] at this; cases this
                · exact h1
              obtain ⟨c, hc, u, hu, hui⟩ := (hfin hiL).out
              have HC : Hid (cs[i]? = some c ∧ In w f' c u) := ⟨hc, hui⟩
              have HIL : Hid (i = L) := hiL
              clear hfin hc hui hy hiL
              go_wp2
              go_round
              case rel =>
                refine ⟨k + 1, f', c, 32, h'', by go_num, by have := HL.out.2.2.2.1; omega, HC.out.2, HL.out.2.2.2.2.2 c (List.mem_of_getElem? HC.out.1), ?_⟩
                rw [HN.out.2.2.2.2.2]
                show (ks.length = 64 ∧ ∀ c, cs[lb x ks]? = some c → fullI f' c x) ↔ _
                rw [← HL.out.1, ← HIL.out, HC.out.1]
                constructor
                · intro hh; exact hh.2 c rfl
                · intro hh; exact ⟨HN.out.1.symm, fun c' hc' => by cases hc'; exact hh⟩
              case measure => simp [intOf]; omega
            · have hsb : Op.bytesLess y.toList x.toList = true := hs
              have hiL : i + 1 ≤ L := by
                rcases Nat.lt_or_eq_of_le hi with h1 | h1
                · omega
                · rw [HL.out.1] at h1
                  have := lb_at x ks (by rw [← h1, ← HN.out.1]; exact hi64)
                  rw [← h1, ← hy, hs] at this; cases this
              clear hfin hy
              go_wp2
              go_round
              case rel => exact ⟨i + 1, by go_num, hiL⟩
              case measure => simp [intOf]; omega
          · obtain rfl : i = 64 := by omega
            have hiL : 64 = L := by omega
            obtain ⟨c, hc, u, hu, hui⟩ := (hfin hiL).out
            have HC : Hid (cs[64]? = some c ∧ In w f' c u) := ⟨hc, hui⟩
            have HIL : Hid (64 = L) := hiL
            clear hfin hc hui hiL
            go_wp2
            go_round
            case rel =>
              refine ⟨k + 1, f', c, 32, h'', by go_num, by have := HL.out.2.2.2.1; omega, HC.out.2, HL.out.2.2.2.2.2 c (List.mem_of_getElem? HC.out.1), ?_⟩
              rw [HN.out.2.2.2.2.2]
              show (ks.length = 64 ∧ ∀ c, cs[lb x ks]? = some c → fullI f' c x) ↔ _
              rw [← HL.out.1, ← HIL.out, HC.out.1]
              constructor
              · intro hh; exact hh.2 c rfl
              · intro hh; exact ⟨HN.out.1.symm, fun c' hc' => by cases hc'; exact hh⟩
            case measure => simp [intOf]; omega
    · have hne2 : ((n : Int) != 64) = true := by simp; omega
      have hne : ((n : Int) == 64) = false := by simp; omega
      go_wp2
      go_ret
      refine ⟨rfl, false, rfl, ?_⟩
      rw [HN.out.2.2.2.2.2]
      refine ⟨fun h => (by cases h), fun h => absurd (HN.out.1.trans h.1) hn64⟩

/-- A row of the call's own that grows. -/
structure FR (B : Nat) (w : World) (lo : List ByteArray) (v : Value) (wr : World) : Prop where
  owns : wr.ownsRow B 9 1 v lo.length (strs lo)
  blk : ∃ k, v.ownBlock = some k ∧ w.heap.size ≤ k
  touch : Touch (fun _ => False) w wr

theorem FR.mem {B : Nat} {w : World} {lo : List ByteArray} {v : Value} {wr wr' : World} (h : FR B w lo v wr) (hm : Mem wr wr') : FR B w lo v wr' :=
  ⟨ownsRow_same h.owns fun k _ => by rw [hm.heap], h.blk, hm.touch h.touch⟩

/-- append(v, z). -/
theorem FR.app {B : Nat} {w : World} {lo : List ByteArray} {v : Value} {wr : World} (h : FR B w lo v wr) (hB : B ≤ w.heap.size) (hl : lo.length ≤ 1048576) (z : ByteArray) :
    ∃ v2 w2, (Builtin.append_ #[23, 23] 23 #[v, .slice (some ⟨wr.heap.size, 0, none⟩) 1 1]).run Try.prog (wr.alloc (.cells #[.string z] 9)) = .ok v2 w2 ∧ FR B w (lo ++ [z]) v2 w2 := by
  have hts := h.touch.size
  obtain ⟨v2, w2, hr, ha⟩ := appS_one (wr.alloc (.cells #[.string z] 9)) B 23 v (strs lo) (.string z) wr.heap.size 1 (by rw [strs_length]; exact h.owns.alloc _) (by rw [cell_of_row _ _ 0 #[.string z] 9 (0, 0) (heap_new wr _)]; rfl) rfl (by rw [strs_length]; exact hl) (by simp; omega)
  obtain ⟨k, hk, hkN⟩ := h.blk
  refine ⟨v2, w2, hr, ?_, ?_, ?_⟩
  · have := ha.owns
    rw [strs_length] at this
    simpa [strs] using this
  · rcases ha.place with e | ⟨q, hq, hqs⟩
    · exact ⟨k, by rw [e]; exact hk, hkN⟩
    · refine ⟨q, hq, ?_⟩
      simp at hqs; omega
  · refine (h.touch.alloc _).trans ha.touch fun q hq hqe => ?_
    rw [hk] at hqe; simp at hqe; omega

theorem sins_lb (x : ByteArray) : ∀ xs : List ByteArray, sins sl x xs = xs.take (lb x xs) ++ x :: xs.drop (lb x xs)
  | [] => by simp [sins, lb]
  | y :: xs => by
    unfold sins lb
    split
    · simp [sins_lb x xs]
    · simp

def WithPost (B : Nat) (ys : List ByteArray) (w : World) (e : Ending) (w' : World) : Prop := ∃ v', e = .returned v' ∧ FR B w ys v' w'

set_option maxHeartbeats 4000000 in
set_option maxRecDepth 100000 in
/-- b1WithInserted. -/
theorem with11 (B : Nat) (v : Value) (xs : List ByteArray) (x : ByteArray) (w : World) (hv : w.ownsRow B 9 1 v xs.length (strs xs)) (hl : xs.length ≤ 1048575) (hB : B ≤ w.heap.size) : Calls Try.prog 11 #[v, .string x] w (WithPost B (sins sl x xs) w) := by
  obtain ⟨a, c, rfl, hR⟩ := Rd.ofOwns hv
  obtain ⟨n, hn⟩ : ∃ n, n = xs.length := ⟨_, rfl⟩
  obtain ⟨i0, hi0, hz0, hzs, hzb⟩ := infoS
  obtain ⟨R0, hR0⟩ : ∃ R0, R0 = madeCells (Value.string ⟨#[]⟩).cells ((n + 1) * i0.size) := ⟨_, rfl⟩
  have hmk : (Instr.makeSlice 23 (.int .i64 0) (.int .i64 ((n : Int) + 1))).run Try.prog w = .ok (.slice (some ⟨w.heap.size, 0, none⟩) 0 (n + 1)) (w.alloc (.cells R0 9)) := by
    have := run_make (P := Try.prog) w 23 9 i0 _ Try.underlying23 hi0 hz0 .i64 .i64 0 ((n + 1 : Nat) : Int) (by omega) (by omega) (by rw [hzb]; omega) (by omega)
    rw [hR0]
    simp only [Int.toNat_zero, Int.toNat_natCast, Int.natCast_add] at this
    exact this
  have hR0s : R0.size = n + 1 := by rw [hR0, size_madeCells, hzs]; omega
  have HST : Hid (FR B w [] (.slice (some ⟨w.heap.size, 0, none⟩) 0 (n + 1)) (w.alloc (.cells R0 9))) :=
    ⟨⟨rfl, .inr ⟨w.heap.size, n + 1, R0, rfl, hB, heap_new w _, by simp, by unfold maxLen; omega, by omega, by simp [strs]⟩⟩, ⟨w.heap.size, rfl, Nat.le_refl _⟩, (Touch.refl _ _).alloc _⟩
  have HR : Hid (n = xs.length ∧ Rd w a xs.length c (fun k => xs.getD k ByteArray.empty)) := ⟨hn, hR⟩
  have hc1 := hR.1
  have hc2 := hR.2.1
  unfold maxLen at hc2
  rw [← hn] at hc1 hl ⊢
  obtain ⟨L, hL⟩ : ∃ L, L = lb x xs := ⟨_, rfl⟩
  have hLn : L ≤ n := by rw [hL, hn]; exact lb_le x xs
  have HL : Hid (L = lb x xs) := hL
  clear hn hR hv hi0 hz0 hzs hzb hR0 hR0s hL
  have hcell : ∀ wr, Touch (fun _ => False) w wr → ∀ k, k < n → Hid (∃ b o, a = some ⟨b, o, none⟩ ∧ wr.cell? ⟨b, o + k, none⟩ = some (.string (xs.getD k ByteArray.empty))) := fun wr ht k hk => by
    obtain ⟨b, o, e, hh⟩ := HR.out.2.2.2 (by rw [← HR.out.1]; omega)
    have := hh k (by rw [← HR.out.1]; exact hk)
    refine ⟨b, o, e, ?_⟩
    rw [← this]
    exact World.cell?_of_block (ht.block _ (World.block_lt_of_cell? w _ this) id)
  have HCELL : Hid (∀ wr, Touch (fun _ => False) w wr → ∀ k, k < n → Hid (∃ b o, a = some ⟨b, o, none⟩ ∧ wr.cell? ⟨b, o + k, none⟩ = some (.string (xs.getD k ByteArray.empty)))) := hcell
  clear hcell
  have hgd : Hid (∀ k, k < n → xs.take (k + 1) = xs.take k ++ [xs.getD k ByteArray.empty]) := fun k hk => by
    have hk' : k < xs.length := by rw [← HR.out.1]; exact hk
    rw [List.take_succ_eq_append_getElem hk', List.getD_eq_getElem?_getD, List.getElem?_eq_getElem hk']; rfl
  go_enter Try.func11, Try.ntmps11
  go_wp2
  clear hmk
  go_loopw [5, 6] (fun u5 u6 wr => ∃ i : Nat, u6 = .int .i64 i ∧ i ≤ L ∧ FR B w (xs.take i) u5 wr) (fun _ u _ => n - (intOf u).toNat)
  case atStart => exact ⟨0, rfl, Nat.zero_le _, by simpa using HST.out⟩
  case round =>
    obtain ⟨i, rfl, hi, hF⟩ := hrel
    have hlen : (xs.take i).length ≤ 1048576 := by rw [List.length_take]; omega
    by_cases hin : i < n
    · obtain ⟨b, o, rfl, hck⟩ := (HCELL.out wr hF.touch i hin).out
      obtain ⟨y, hy⟩ : ∃ y, y = xs.getD i ByteArray.empty := ⟨_, rfl⟩
      have hiI : (i : Int) < (n : Int) := by omega
      rw [← hy] at hck
      cases hs : sl y x
      · have hsb : Op.bytesLess y.toList x.toList = false := hs
        have hiL : i = L := by
          rcases Nat.lt_or_eq_of_le hi with h1 | h1
          · rw [HL.out] at h1
            have := lb_lt x xs i h1
            rw [← hy, hs] at this; cases this
          · exact h1
        clear hy
        obtain ⟨v2, w2, hr2, hF2⟩ := hF.app hB hlen x
        have HF2 : Hid (FR B w (xs.take L ++ [x]) v2 w2) := by rw [← hiL]; exact hF2
        have HR2 : Hid ((Builtin.append_ #[23, 23] 23 #[u5, .slice (some ⟨wr.heap.size, 0, none⟩) 1 1]).run Try.prog (wr.alloc (.cells #[.string x] 9)) = .ok v2 w2) := hr2
        have HIL : Hid (i = L) := hiL
        have hgd2 : Hid (∀ j, L ≤ j → j < n → (xs.drop L).take (j + 1 - L) = (xs.drop L).take (j - L) ++ [xs.getD j ByteArray.empty]) := fun j hj hjn => by
          have hk' : j < xs.length := by rw [← HR.out.1]; exact hjn
          rw [show j + 1 - L = (j - L) + 1 by omega, List.take_succ_eq_append_getElem (by simp; omega)]
          simp only [List.getElem_drop]
          rw [List.getD_eq_getElem?_getD, List.getElem?_eq_getElem hk', Option.getD_some]
          simp [show L + (j - L) = j by omega]
        clear hF hF2 hr2 HST hiL hgd hlen
        go_wp2_with (at_builtin; refine Lib.wpList_append_run _ rfl _ _ 23 23 rfl _ _ rfl rfl _ _ HR2.out ?_)
        clear HR2
        go_loopw [5, 6] (fun u5 u6 wr => ∃ j : Nat, u6 = .int .i64 j ∧ L ≤ j ∧ j ≤ n ∧ FR B w (xs.take L ++ x :: (xs.drop L).take (j - L)) u5 wr) (fun _ u _ => n - (intOf u).toNat)
        case atStart =>
          refine ⟨i, rfl, by rw [HIL.out]; exact Nat.le_refl _, by omega, ?_⟩
          rw [HIL.out, Nat.sub_self]
          simpa using HF2.out
        case round =>
          obtain ⟨j, rfl, hLj, hjn, hF⟩ := hrel
          by_cases hjlt : j < n
          · have hF0 := hF
            obtain ⟨b', o', ha', hck⟩ := (HCELL.out wr hF.touch j hjlt).out
            cases ha'
            obtain ⟨y', hy'⟩ : ∃ y', y' = xs.getD j ByteArray.empty := ⟨_, rfl⟩
            rw [← hy'] at hck
            have hjI : (j : Int) < (n : Int) := by omega
            obtain ⟨v3, w3, hr3, hF3⟩ := hF.app hB (by
              have h1 : (xs.take L).length ≤ L := by rw [List.length_take]; omega
              have h2 : ((xs.drop L).take (j - L)).length ≤ j - L := by rw [List.length_take]; omega
              simp only [List.length_append, List.length_cons]
              omega) y'
            have HF3 : Hid (FR B w (xs.take L ++ x :: (xs.drop L).take (j + 1 - L)) v3 w3) := by
              rw [hgd2.out j hLj hjlt, ← hy']
              show FR B w _ v3 w3
              simpa using hF3
            have HR3 : Hid ((Builtin.append_ #[23, 23] 23 #[u5, .slice (some ⟨wr.heap.size, 0, none⟩) 1 1]).run Try.prog (wr.alloc (.cells #[.string y'] 9)) = .ok v3 w3) := hr3
            clear hF hF0 hF3 hr3 hy' HCELL hgd2 HF2 HL HR
            go_wp2_with (at_builtin; refine Lib.wpList_append_run _ rfl _ _ 23 23 rfl _ _ rfl rfl _ _ HR3.out ?_)
            go_roundw
            case rel => exact ⟨j + 1, by go_num, by omega, by omega, HF3.out⟩
            case measure => simp [intOf]; omega
          · obtain rfl : j = n := by omega
            have hjI : ¬ (j : Int) < (j : Int) := by omega
            have HF : Hid (FR B w (sins sl x xs) u5 wr) := by
              rw [sins_lb, ← HL.out]
              have : (xs.drop L).take (j - L) = xs.drop L := List.take_of_length_le (by rw [List.length_drop, ← HR.out.1]; exact Nat.le_refl _)
              rw [this] at hF
              exact hF
            clear hF
            go_wp2
            go_ret
            exact ⟨_, rfl, HF.out⟩
      · have hsb : Op.bytesLess y.toList x.toList = true := hs
        have hiL : i + 1 ≤ L := by
          rcases Nat.lt_or_eq_of_le hi with h1 | h1
          · omega
          · rw [HL.out] at h1
            have := lb_at x xs (by rw [← h1, ← HR.out.1]; exact hin)
            rw [← h1, ← hy, hs] at this; cases this
        obtain ⟨v2, w2, hr2, hF2⟩ := hF.app hB hlen y
        have HF2 : Hid (FR B w (xs.take (i + 1)) v2 w2) := by rw [hgd.out i hin, ← hy]; exact hF2
        have HR2 : Hid ((Builtin.append_ #[23, 23] 23 #[u5, .slice (some ⟨wr.heap.size, 0, none⟩) 1 1]).run Try.prog (wr.alloc (.cells #[.string y] 9)) = .ok v2 w2) := hr2
        clear hF hF2 hr2 hy HCELL HST
        go_wp2_with (at_builtin; refine Lib.wpList_append_run _ rfl _ _ 23 23 rfl _ _ rfl rfl _ _ HR2.out ?_)
        go_roundw
        case rel => exact ⟨i + 1, by go_num, hiL, HF2.out⟩
        case measure => simp [intOf]; omega
    · have hiI : ¬ (i : Int) < (n : Int) := by omega
      have hiL : i = L := by omega
      obtain ⟨v2, w2, hr2, hF2⟩ := hF.app hB hlen x
      have HF2 : Hid (FR B w (xs.take L ++ [x]) v2 w2) := by rw [← hiL]; exact hF2
      have HR2 : Hid ((Builtin.append_ #[23, 23] 23 #[u5, .slice (some ⟨wr.heap.size, 0, none⟩) 1 1]).run Try.prog (wr.alloc (.cells #[.string x] 9)) = .ok v2 w2) := hr2
      have HIL : Hid (i = L) := hiL
      have hgd2 : Hid (∀ j, L ≤ j → j < n → (xs.drop L).take (j + 1 - L) = (xs.drop L).take (j - L) ++ [xs.getD j ByteArray.empty]) := fun j hj hjn => by
        have hk' : j < xs.length := by rw [← HR.out.1]; exact hjn
        rw [show j + 1 - L = (j - L) + 1 by omega, List.take_succ_eq_append_getElem (by simp; omega)]
        simp only [List.getElem_drop]
        rw [List.getD_eq_getElem?_getD, List.getElem?_eq_getElem hk', Option.getD_some]
        simp [show L + (j - L) = j by omega]
      clear hF hF2 hr2 HST hiL hgd hlen
      go_wp2_with (at_builtin; refine Lib.wpList_append_run _ rfl _ _ 23 23 rfl _ _ rfl rfl _ _ HR2.out ?_)
      clear HR2
      go_loopw [5, 6] (fun u5 u6 wr => ∃ j : Nat, u6 = .int .i64 j ∧ L ≤ j ∧ j ≤ n ∧ FR B w (xs.take L ++ x :: (xs.drop L).take (j - L)) u5 wr) (fun _ u _ => n - (intOf u).toNat)
      case atStart =>
        refine ⟨i, rfl, by rw [HIL.out]; exact Nat.le_refl _, by omega, ?_⟩
        rw [HIL.out, Nat.sub_self]
        simpa using HF2.out
      case round =>
        obtain ⟨j, rfl, hLj, hjn, hF⟩ := hrel
        by_cases hjlt : j < n
        · have := HIL.out
          omega
        · obtain rfl : j = n := by omega
          have hjI : ¬ (j : Int) < (j : Int) := by omega
          have HF : Hid (FR B w (sins sl x xs) u5 wr) := by
            rw [sins_lb, ← HL.out]
            have : (xs.drop L).take (j - L) = xs.drop L := List.take_of_length_le (by rw [List.length_drop, ← HR.out.1]; exact Nat.le_refl _)
            rw [this] at hF
            exact hF
          clear hF
          go_wp2
          go_ret
          exact ⟨_, rfl, HF.out⟩

end Go.Proofs.Qxb6604036a
