/- b1Measure (26): what it answers bounds how many keys there are. -/
import Derived.Test.Qxb6604036aIn
import Derived.Deep.DeepCutAuto
import Derived.BigQuiet
import Derived.Deep.QuietTactic
namespace Go.Proofs.Qxb6604036a
open Go.RowKit Plain
set_option linter.unusedVariables false
set_option linter.unusedSimpArgs false

/-- The budget's block. -/
def BudAt (w : World) (bb : Nat) (v : Int) : Prop := w.heap[bb]? = some (.cells #[.int .i64 v] 3 (0, 0))

theorem BudAt.set {w : World} {bb : Nat} {u : Int} (h : BudAt w bb u) (v : Int) : BudAt (w.setCell ⟨bb, 0, none⟩ (.int .i64 v)) bb v := by
  unfold BudAt
  rw [setCell_eq_setRow w bb 0 _ 3 (0, 0) _ h, setRow_heap w bb _ _ 3 (0, 0) h]
  rfl
theorem BudAt.cell {w : World} {bb : Nat} {u : Int} (h : BudAt w bb u) : w.cell? ⟨bb, 0, none⟩ = some (.int .i64 u) := by
  unfold BudAt at h
  simp [World.cell?, h]
theorem BudAt.frozen {w : World} {bb : Nat} {u : Int} (h : BudAt w bb u) : w.frozen? ⟨bb, 0, none⟩ = false := by
  unfold BudAt at h
  simp [World.frozen?, h]

/-- What b1Measure leaves: true only where the keys, 16 each, are paid out of the budget. -/
def MeasPost (bb : Nat) (b0 : Int) (n : Nat) (w : World) (e : Ending) (w' : World) : Prop :=
  ∃ r : Bool, e = .returned (.bool r) ∧ Touch (· = bb) w w' ∧ ∃ b' : Int, BudAt w' bb b' ∧ (r = true → 0 ≤ b' ∧ b' + 16 * (n : Int) ≤ b0)

set_option maxHeartbeats 400000 in
theorem meas26_nil (bb d : Nat) (b0 : Int) (w : World) (hb : BudAt w bb b0) (h0 : 0 ≤ b0) : Calls Try.prog 26 #[.pointer none, .int .i64 d, .pointer (some ⟨bb, 0, none⟩)] w (MeasPost bb b0 0 w) := by
  have HB : Hid (BudAt w bb b0) := hb
  clear hb
  go_enter Try.func26, Try.ntmps26
  go_wp2
  go_ret
  exact ⟨true, rfl, Touch.refl _ _, b0, HB.out, fun _ => ⟨h0, by simp⟩⟩

theorem sum_take_succ {α : Type} (g : α → Nat) (l : List α) (k : Nat) (hk : k < l.length) : ((l.take (k + 1)).map g).sum = ((l.take k).map g).sum + g l[k] := by
  rw [List.take_succ_eq_append_getElem hk, List.map_append, List.sum_append]; simp

set_option maxHeartbeats 8000000 in
set_option maxRecDepth 100000 in
theorem meas26_node (f d bb : Nat) (ks : List ByteArray) (cs : List (IT f)) (v : Value) (b0 : Int) (w0 w : World) (hin : In w0 (f + 1) (some (ks, cs)) v) (hbel : Below w0.heap.size w0 w) (hbb : w0.heap.size ≤ bb) (hbud : BudAt w bb b0) (hb0 : 0 ≤ b0) (hb1 : b0 ≤ 1048576) (hd : d ≤ 65)
    (ih : d ≤ 64 → ∀ c ∈ cs, ∀ u, In w0 f c u → ∀ (b1 : Int) (w1 : World), Below w0.heap.size w0 w1 → BudAt w1 bb b1 → 0 ≤ b1 → b1 ≤ 1048576 → Calls Try.prog 26 #[u, .int .i64 ((d : Int) + 1), .pointer (some ⟨bb, 0, none⟩)] w1 (MeasPost bb b1 (cnt f c) w1)) :
    Calls Try.prog 26 #[v, .int .i64 d, .pointer (some ⟨bb, 0, none⟩)] w (MeasPost bb b0 (cnt (f + 1) (some (ks, cs))) w) := by
  obtain ⟨b, off, ka, kc, ca, cc, rfl, h1, h2, h3, h4, h5, h6, h7⟩ := hin
  have hbw0 : b < w0.heap.size := World.block_lt_of_cell? w0 _ h1
  have hkc := h3.1
  have hkm := h3.2.1
  unfold maxLen at hkm h6
  have IH : Hid (d ≤ 64 → ∀ c ∈ cs, ∀ u, In w0 f c u → ∀ (b1 : Int) (w1 : World), Below w0.heap.size w0 w1 → BudAt w1 bb b1 → 0 ≤ b1 → b1 ≤ 1048576 → Calls Try.prog 26 #[u, .int .i64 ((d : Int) + 1), .pointer (some ⟨bb, 0, none⟩)] w1 (MeasPost bb b1 (cnt f c) w1)) := ih
  obtain ⟨n, hn⟩ : ∃ n, n = ks.length := ⟨_, rfl⟩
  obtain ⟨m, hm⟩ : ∃ m, m = cs.length := ⟨_, rfl⟩
  rw [← hn] at h1 hkc
  rw [← hm] at h2 h5
  have HIN : Hid (n = ks.length ∧ m = cs.length ∧ w0.cell? ⟨b, off, none⟩ = some (.slice ka n kc) ∧ w0.cell? ⟨b, off + 1, none⟩ = some (.slice ca m cc) ∧ Rd w0 ka ks.length kc (fun k => ks.getD k ByteArray.empty) ∧ (∀ s ∈ ks, s.size ≤ maxLen) ∧ (0 < cs.length → ∃ b' off', ca = some ⟨b', off', none⟩ ∧ ∀ k c, cs[k]? = some c → ∃ u, w0.cell? ⟨b', off' + k, none⟩ = some u ∧ In w0 f c u)) := ⟨hn, hm, h1, h2, h3, h4, h7⟩
  have HBEL : Hid (Below w0.heap.size w0 w) := hbel
  have HBUD : Hid (BudAt w bb b0) := hbud
  have c1 : w.cell? ⟨b, off, none⟩ = some (.slice ka n kc) := Below.keeps hbel _ _ h1
  have c2 : w.cell? ⟨b, off + 1, none⟩ = some (.slice ca m cc) := Below.keeps hbel _ _ h2
  have cb := hbud.cell
  have fb := hbud.frozen
  have hbne : ¬ b = bb := by omega
  clear ih h3 h4 h7 hn hm h1 h2 hbel hbud
  rcases Nat.lt_or_ge 64 d with hd1 | hd1
  · have hb : decide ((64 : Int) < (d : Int)) = true := by simp; omega
    go_enter Try.func26, Try.ntmps26
    go_wp2
    go_ret
    exact ⟨false, rfl, Touch.refl _ _, b0, HBUD.out, by simp⟩
  have hb : decide ((64 : Int) < (d : Int)) = false := by simp; omega
  rcases Nat.lt_or_ge 1048576 n with hn1 | hn1
  · have hbn : decide ((1048576 : Int) < (n : Int)) = true := by simp; omega
    go_enter Try.func26, Try.ntmps26
    go_wp2
    go_ret
    exact ⟨false, rfl, Touch.refl _ _, b0, HBUD.out, by simp⟩
  have hbn : decide ((1048576 : Int) < (n : Int)) = false := by simp; omega
  rcases Nat.lt_or_ge 1048576 m with hm1 | hm1
  · have hbm : decide ((1048576 : Int) < (m : Int)) = true := by simp; omega
    go_enter Try.func26, Try.ntmps26
    go_wp2
    go_ret
    exact ⟨false, rfl, Touch.refl _ _, b0, HBUD.out, by simp⟩
  have hbm : decide ((1048576 : Int) < (m : Int)) = false := by simp; omega
  go_enter Try.func26, Try.ntmps26
  go_wp2
  obtain ⟨b1, hb1e⟩ : ∃ b1 : Int, b1 = b0 - (24 + 16 * (n : Int) + 8 * (m : Int)) := ⟨_, rfl⟩
  go_cut [] (fun wc => Hid (Touch (· = bb) w wc) ∧ Hid (BudAt wc bb b1))
  case first =>
    go_region
    all_goals
      go_wp2
      go_meet
      case rel =>
        refine ⟨?_, ?_⟩
        · show Touch (· = bb) w _
          exact (Touch.setCell (S := (· = bb)) (Touch.refl _ _) _ (fun _ => rfl) _).drew
        · rw [hb1e]
          exact HBUD.out.set _
  case rest =>
    obtain ⟨wA, rfl⟩ : ∃ wA : World, wA = wc := ⟨_, rfl⟩
    obtain ⟨HTA, HBA⟩ := hcut
    have HB1E : Hid (b1 = b0 - (24 + 16 * (n : Int) + 8 * (m : Int))) := hb1e
    clear hb1e c1 c2 cb fb
    have cbA := HBA.out.cell
    rcases Int.lt_or_le b1 0 with hneg | hpos
    · go_wp2
      go_ret
      exact ⟨false, rfl, HTA.out, b1, HBA.out, by simp⟩
    have hlt0 : ¬ b1 < 0 := by omega
    have hb1u : b1 ≤ 1048576 := by have := HB1E.out; omega
    go_wp2
    clear cbA
    go_loopw [7] (fun u wr => ∃ (k : Nat) (bk : Int), k ≤ n ∧ u = .int .i64 k ∧ 0 ≤ bk ∧ bk ≤ b1 ∧ Touch (· = bb) w wr ∧ BudAt wr bb bk) (fun u _ => n - (intOf u).toNat)
    case atStart => exact ⟨0, b1, by omega, rfl, hpos, by omega, HTA.out, HBA.out⟩
    case round =>
      obtain ⟨k, bk, hk, rfl, hbk0, hbk1, htk, hbdk⟩ := hrel
      have HK : Hid (Touch (· = bb) w wr ∧ BudAt wr bb bk) := ⟨htk, hbdk⟩
      have hbelr : Below w0.heap.size w0 wr := HBEL.out.trans (htk.below HBEL.out.size fun q hq => by omega)
      have c1 : wr.cell? ⟨b, off, none⟩ = some (.slice ka n kc) := Below.keeps hbelr _ _ HIN.out.2.2.1
      have cb := hbdk.cell
      have fb := hbdk.frozen
      by_cases hlt : k < n
      · obtain ⟨kb, ko, rfl, hkc'⟩ := HIN.out.2.2.2.2.1.2.2 (by rw [← HIN.out.1]; omega)
        have ck : wr.cell? ⟨kb, ko + k, none⟩ = some (.string (ks.getD k ByteArray.empty)) := Below.keeps hbelr _ _ (hkc' k (by rw [← HIN.out.1]; exact hlt))
        have hszk : (ks.getD k ByteArray.empty).size ≤ maxLen := by
          have hkl : k < ks.length := by rw [← HIN.out.1]; exact hlt
          rw [List.getD_eq_getElem?_getD, List.getElem?_eq_getElem hkl]
          exact HIN.out.2.2.2.2.2.1 _ (List.getElem_mem hkl)
        unfold maxLen at hszk
        obtain ⟨y, hy⟩ : ∃ y, y = ks.getD k ByteArray.empty := ⟨_, rfl⟩
        rw [← hy] at ck hszk
        have hkI : (k : Int) < (n : Int) := by omega
        clear htk hbdk hbelr hkc' hy HTA HBA HBUD
        rcases Int.lt_or_le bk (y.size : Int) with hgt | hle
        · go_wp2
          go_quiet (fail)
          go_wp2
          go_ret
          exact ⟨false, rfl, (mem_drewN wr _).touch HK.out.1, bk, HK.out.2, by simp⟩
        · have hng : ¬ bk < (y.size : Int) := by omega
          go_wp2
          go_quiet (fail)
          go_wp2
          go_region
          all_goals
            go_wp2
          go_roundw
          case measure => simp [intOf]; omega
          have hT : Touch (· = bb) w (wr.drewN (nq + 1)) := (mem_drewN wr _).touch HK.out.1
          exact ⟨k + 1, bk - y.size, by omega, rfl, by omega, by omega, Touch.setCell (S := (· = bb)) hT _ (fun _ => rfl) _, BudAt.set (w := wr.drewN (nq + 1)) HK.out.2 _⟩
      · obtain rfl : k = n := by omega
        clear htk hbdk hbelr HTA HBA HBUD
        go_wp2
        clear c1 cb fb
        go_loopw [8] (fun u wr' => ∃ (j : Nat) (bj : Int), j ≤ m ∧ u = .int .i64 j ∧ 0 ≤ bj ∧ bj + 16 * (((cs.take j).map (cnt f)).sum : Int) ≤ b1 ∧ Touch (· = bb) w wr' ∧ BudAt wr' bb bj) (fun u _ => m - (intOf u).toNat)
        case atStart => exact ⟨0, bk, by omega, rfl, hbk0, by simp; omega, HK.out.1, HK.out.2⟩
        case round =>
          clear HK
          obtain ⟨j, bj, hj, rfl, hbj0, hbj1, htj, hbdj⟩ := hrel
          have HK : Hid (Touch (· = bb) w wr ∧ BudAt wr bb bj) := ⟨htj, hbdj⟩
          have HSUM : Hid (bj + 16 * (((cs.take j).map (cnt f)).sum : Int) ≤ b1) := hbj1
          have hbju : bj ≤ 1048576 := by omega
          have hbelr : Below w0.heap.size w0 wr := HBEL.out.trans (htj.below HBEL.out.size fun q hq => by omega)
          have c2 : wr.cell? ⟨b, off + 1, none⟩ = some (.slice ca m cc) := Below.keeps hbelr _ _ HIN.out.2.2.2.1
          by_cases hltj : j < m
          · have hjc : j < cs.length := by rw [← HIN.out.2.1]; exact hltj
            obtain ⟨kb, ko, rfl, hch⟩ := HIN.out.2.2.2.2.2.2 (by omega)
            obtain ⟨u, hu1, hu2⟩ := hch j cs[j] (List.getElem?_eq_getElem hjc)
            have cu : wr.cell? ⟨kb, ko + j, none⟩ = some u := Below.keeps hbelr _ _ hu1
            have HC : Hid (Calls Try.prog 26 #[u, .int .i64 ((d : Int) + 1), .pointer (some ⟨bb, 0, none⟩)] wr (MeasPost bb bj (cnt f cs[j]) wr)) := IH.out hd1 cs[j] (List.getElem_mem hjc) u hu2 bj wr hbelr hbdj hbj0 hbju
            have hltI : (j : Int) < (m : Int) := by omega
            clear hch hu1 hu2 htj hbdj hbelr hbj1
            go_wp2_with fail
            refine HC.out.mono ?_
            rintro e w2 ⟨r, rfl, ht2, b2, hbd2, hr⟩
            have HR : Hid (Touch (· = bb) w w2 ∧ BudAt w2 bb b2 ∧ (r = true → 0 ≤ b2 ∧ b2 + 16 * (cnt f cs[j] : Int) ≤ bj)) := ⟨HK.out.1.trans ht2 (fun _ _ h => h), hbd2, hr⟩
            clear ht2 hbd2 hr
            cases r
            · go_wp2
              go_ret
              exact ⟨false, rfl, HR.out.1, b2, HR.out.2.1, by simp⟩
            · go_wp2
              go_roundw
              case measure => simp [intOf]; omega
              have h1 := HR.out.2.2 (by first | rfl | trivial)
              have h2 := HSUM.out
              refine ⟨j + 1, b2, by omega, rfl, h1.1, ?_, HR.out.1, HR.out.2.1⟩
              rw [sum_take_succ _ _ _ hjc]
              push_cast
              omega
          · obtain rfl : j = m := by omega
            clear htj hbdj hbelr hbj1
            go_wp2
            go_ret
            refine ⟨true, rfl, HK.out.1, bj, HK.out.2, fun _ => ⟨hbj0, ?_⟩⟩
            have h2 := HSUM.out
            have h3 := HB1E.out
            have h4 := HIN.out.1
            have h5' := HIN.out.2.1
            rw [h5', List.take_length] at h2
            show bj + 16 * ((ks.length + (cs.map (cnt f)).sum : Nat) : Int) ≤ b0
            rw [h4] at h3
            push_cast
            omega

/-- **b1Measure.** -/
theorem meas26 (w0 : World) (bb : Nat) (hbb : w0.heap.size ≤ bb) : ∀ (f : Nat) (t : IT f) (v : Value) (d : Nat) (b0 : Int) (w : World), In w0 f t v → Below w0.heap.size w0 w → BudAt w bb b0 → 0 ≤ b0 → b0 ≤ 1048576 → d ≤ 65 →
    Calls Try.prog 26 #[v, .int .i64 d, .pointer (some ⟨bb, 0, none⟩)] w (MeasPost bb b0 (cnt f t) w)
  | 0, _, v, d, b0, w, hin, hbel, hbud, h0, h1, hd => by
    exact hin.elim
  | f + 1, none, v, d, b0, w, hin, hbel, hbud, h0, h1, hd => by
    obtain rfl : v = .pointer none := hin
    exact meas26_nil bb d b0 w hbud h0
  | f + 1, some (ks, cs), v, d, b0, w, hin, hbel, hbud, h0, h1, hd =>
    meas26_node f d bb ks cs v b0 w0 w hin hbel hbb hbud h0 h1 hd fun hd' c _ u hu b1 w1 hb1 hbd1 h01 h11 => by
      have := meas26 w0 bb hbb f c u (d + 1) b1 w1 hu hb1 hbd1 h01 h11 (by omega)
      exact_mod_cast this

end Go.Proofs.Qxb6604036a
