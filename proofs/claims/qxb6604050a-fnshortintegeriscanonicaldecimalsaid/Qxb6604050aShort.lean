/- bytes.Equal (22), bytes.HasPrefix (21), bytes.TrimPrefix (20) at the prefix "-"; shortInteger (17), ZZShortInteger (7). -/
import Derived.Test.Qxb6604050aRender
import Derived.Laws.BytesArg
import Derived.Lib.SlBytesConst
import Derived.Lib.Strings
namespace Go.Proofs.Qxb6604050a
open Go.RowKit
set_option linter.unusedVariables false
set_option linter.unusedSimpArgs false
attribute [local go_sem ↓] Go.wp_at_zero Go.wp_at_succ

/-- This bool comes back, the world is as it was. -/
def BPost (r : Bool) (w : World) (e : Ending) (w' : World) : Prop := e = .returned (.bool r) ∧ w = w'

theorem toList_inj {x y : ByteArray} (h : x.toList = y.toList) : x = y := by
  rw [Lib.toList_data, Lib.toList_data] at h
  cases x with
  | mk a => cases y with
    | mk b => exact congrArg ByteArray.mk (Array.toList_inj.1 h)

theorem str1 (x y : Int) (hx : 0 ≤ x ∧ x ≤ 255) (hy : 0 ≤ y ∧ y ≤ 255) : ((strOfNums [x]).toList == (strOfNums [y]).toList) = decide (x = y) := by
  by_cases h : x = y
  · subst h; simp
  · rw [decide_eq_false h, beq_eq_false_iff_ne]
    intro e
    have e1 := toList_inj e
    have e2 : UInt8.ofNat x.toNat = UInt8.ofNat y.toNat := by
      have := congrArg (fun b : ByteArray => b.data.toList) e1
      simpa [strOfNums] using this
    have e3 := congrArg UInt8.toNat e2
    simp at e3
    omega

theorem one_cell {w : World} {b o : Nat} {x : Int} (h : w.cell? ⟨b, o, none⟩ = some (.int .u8 x)) : ∀ i, i < 1 → w.cell? ⟨b, o + i, none⟩ = some (.int .u8 ([x].getD i 0)) := by
  intro i hi
  obtain rfl : i = 0 := by omega
  exact h

set_option maxHeartbeats 1000000 in
theorem equal22 (b o c b2 c2 : Nat) (x : Int) (w : World) (hx : 0 ≤ x ∧ x ≤ 255) (h1 : w.cell? ⟨b, o, none⟩ = some (.int .u8 x)) (h2 : w.cell? ⟨b2, 0, none⟩ = some (.int .u8 45)) :
    Calls Try.prog 22 #[.slice (some ⟨b, o, none⟩) 1 c, .slice (some ⟨b2, 0, none⟩) 1 c2] w (BPost (decide (x = 45)) w) := by
  have e1 := run_convert_bytes_arg (P := Try.prog) w 22 5 Try.underlying22 Try.underlying5 b o 1 c [x] rfl (one_cell h1) 9 Try.underlying9
  have e2 := run_convert_bytes_arg (P := Try.prog) w 22 5 Try.underlying22 Try.underlying5 b2 0 1 c2 [45] rfl (one_cell h2) 9 Try.underlying9
  have e3 := str1 x 45 hx (by decide)
  clear h1 h2
  go_enter Try.func22, Try.ntmps22
  go_wp2
  go_ret
  exact ⟨rfl, rfl⟩

/-- Where the digits start. -/
def kOf (n : Nat) (S : Nat → Int) : Nat := if 0 < n ∧ S 0 = 45 then 1 else 0

set_option maxHeartbeats 1000000 in
theorem has21 (a : Option Addr) (n c b2 c2 : Nat) (S : Nat → Int) (w : World) (hR : Rb w a n c S) (hS : ∀ k, 0 ≤ S k ∧ S k ≤ 255) (h2 : w.cell? ⟨b2, 0, none⟩ = some (.int .u8 45)) (hc2 : 1 ≤ c2) (r : Bool) (hr : r = decide (0 < n ∧ S 0 = 45)) :
    Calls Try.prog 21 #[.slice a n c, .slice (some ⟨b2, 0, none⟩) 1 c2] w (BPost r w) := by
  have HR : Hid (r = decide (0 < n ∧ S 0 = 45)) := hr
  clear hr
  obtain ⟨h1, hc, h3⟩ := hR
  unfold maxLen at hc
  by_cases h0 : n = 0
  · subst h0
    clear h3
    go_enter Try.func21, Try.ntmps21
    go_wp2
    go_ret
    obtain rfl : r = false := by rw [HR.out]; simp
    exact ⟨rfl, rfl⟩
  · obtain ⟨b, off, rfl, hcell⟩ := h3 (by omega)
    have HC : Hid (∀ c, Calls Try.prog 22 #[.slice (some ⟨b, off, none⟩) 1 c, .slice (some ⟨b2, 0, none⟩) 1 c2] w (BPost (decide (S 0 = 45)) w)) := fun c => equal22 b off c b2 c2 (S 0) w (hS 0) (hcell 0 (by omega)) h2
    clear hcell h3 h2 hS
    go_enter Try.func21, Try.ntmps21
    go_wp2_with fail
    refine (HC.out _).mono ?_
    rintro e w' ⟨rfl, rfl⟩
    obtain rfl : r = decide (S 0 = 45) := by
      have : 0 < n := by omega
      rw [HR.out]; simp [this]
    clear HR
    go_wp2
    go_ret
    exact ⟨rfl, rfl⟩

/-- What is left behind the prefix. -/
def TrimPost (n : Nat) (S : Nat → Int) (w : World) (e : Ending) (w' : World) : Prop :=
  ∃ a' c', e = .returned (.slice a' (n - kOf n S) c') ∧ w = w' ∧ Rb w a' (n - kOf n S) c' (fun j => S (kOf n S + j))

set_option maxHeartbeats 1000000 in
theorem trim20 (a : Option Addr) (n c b2 c2 : Nat) (S : Nat → Int) (w : World) (hR : Rb w a n c S) (hS : ∀ k, 0 ≤ S k ∧ S k ≤ 255) (h2 : w.cell? ⟨b2, 0, none⟩ = some (.int .u8 45)) (hc2 : 1 ≤ c2) :
    Calls Try.prog 20 #[.slice a n c, .slice (some ⟨b2, 0, none⟩) 1 c2] w (TrimPost n S w) := by
  have HC : Hid (Calls Try.prog 21 #[.slice a n c, .slice (some ⟨b2, 0, none⟩) 1 c2] w (BPost (decide (0 < n ∧ S 0 = 45)) w)) := has21 a n c b2 c2 S w hR hS h2 hc2 _ rfl
  have HR : Hid (Rb w a n c S) := hR
  obtain ⟨h1, hc, -⟩ := hR
  unfold maxLen at hc
  clear hS h2
  by_cases hp : 0 < n ∧ S 0 = 45
  · have hk : kOf n S = 1 := by unfold kOf; rw [if_pos hp]
    obtain ⟨b, off, rfl, hcell⟩ := HR.out.2.2 hp.1
    have hd : decide (0 < n ∧ S 0 = 45) = true := decide_eq_true hp
    have hn : 0 < n := hp.1
    have HK : Hid (kOf n S = 1) := hk
    have HCe : Hid (∀ k, k < n → w.cell? ⟨b, off + k, none⟩ = some (.int .u8 (S k))) := hcell
    rw [hd] at HC
    clear hp hd hk hcell
    go_enter Try.func20, Try.ntmps20
    go_wp2_with fail
    refine HC.out.mono ?_
    rintro e w' ⟨rfl, rfl⟩
    go_wp2
    · go_ret
      unfold TrimPost
      rw [HK.out]
      exact ⟨_, _, rfl, rfl, by omega, by unfold maxLen; omega, fun h => by omega⟩
    · go_ret
      unfold TrimPost
      rw [HK.out]
      exact ⟨_, _, rfl, rfl, by omega, by unfold maxLen; omega, fun h => ⟨b, off + 1, rfl, fun k hk => by rw [Nat.add_assoc]; exact HCe.out (1 + k) (by omega)⟩⟩
  · have hk : kOf n S = 0 := by unfold kOf; rw [if_neg hp]
    have hd : decide (0 < n ∧ S 0 = 45) = false := decide_eq_false hp
    have HK : Hid (kOf n S = 0) := hk
    rw [hd] at HC
    clear hp hd hk
    go_enter Try.func20, Try.ntmps20
    go_wp2_with fail
    refine HC.out.mono ?_
    rintro e w' ⟨rfl, rfl⟩
    go_wp2
    go_ret
    unfold TrimPost
    rw [HK.out]
    exact ⟨a, c, rfl, rfl, by simpa using HR.out⟩

/-- A bool comes back, true just where p holds; what was there stayed. -/
def SaysT (p : Prop) (w : World) (e : Ending) (w' : World) : Prop := ∃ r : Bool, e = .returned (.bool r) ∧ Touch (fun _ => False) w w' ∧ (r = true ↔ p)

/-- What shortInteger asks of m digits F behind the sign, of n bytes in all. -/
def ShortD (n m : Nat) (F : Nat → Int) : Prop := 0 < m ∧ m ≤ 15 ∧ ¬ (F 0 = 48 ∧ 1 < n) ∧ ∀ j, j < m → 48 ≤ F j ∧ F j ≤ 57

set_option maxHeartbeats 2000000 in
theorem short17 (a : Option Addr) (n c : Nat) (S : Nat → Int) (w : World) (hR : Rb w a n c S) (hS : ∀ k, 0 ≤ S k ∧ S k ≤ 255) :
    Calls Try.prog 17 #[.slice a n c] w (SaysT (ShortD n (n - kOf n S) (fun j => S (kOf n S + j))) w) := by
  have hcv := Lib.run_convert_bytes_const (P := Try.prog) w 22 5 #[.int .u8 45] 1 1 Try.underlying22 Try.underlying5
  obtain ⟨W, hW⟩ : ∃ W, W = w.alloc (.cells #[.int .u8 45] 5 (1, 2)) := ⟨_, rfl⟩
  have hcv' : (convert 22 22 (.slice (some ⟨w.heap.size, 0, none⟩) 1 1)).run Try.prog (w.alloc (.cells #[.int .u8 45] 5)) = .ok (.slice (some ⟨w.heap.size, 0, none⟩) 1 1) W := by rw [hW]; exact hcv
  have hT : Touch (fun _ => False) w W := by rw [hW]; exact (Touch.refl _ _).alloc _
  have hmin : W.cell? ⟨w.heap.size, 0, none⟩ = some (.int .u8 45) := by
    have : W.heap[w.heap.size]? = some (.cells #[.int .u8 45] 5 (1, 2)) := by rw [hW]; exact heap_new w _
    simp [World.cell?, this]
  have HC : Hid (Calls Try.prog 20 #[.slice a n c, .slice (some ⟨w.heap.size, 0, none⟩) 1 1] W (TrimPost n S W)) := trim20 a n c _ 1 S W (hR.touch hT fun _ _ _ h => h) hS hmin (by omega)
  have HT : Hid (Touch (fun _ => False) w W) := hT
  have hn1 := hR.1; have hn2 := hR.2.1
  unfold maxLen at hn2
  clear hT hmin hcv hW hR hS
  have hkn : n - kOf n S ≤ n := Nat.sub_le _ _
  obtain ⟨m, hm⟩ : ∃ m, m = n - kOf n S := ⟨_, rfl⟩
  obtain ⟨F, hF⟩ : ∃ F : Nat → Int, F = fun j => S (kOf n S + j) := ⟨_, rfl⟩
  unfold TrimPost at HC
  rw [← hm, ← hF] at HC ⊢
  rw [← hm] at hkn
  clear hm hF
  go_enter Try.func17, Try.ntmps17
  go_wp2_with fail
  refine HC.out.mono ?_
  rintro e w' ⟨a', c', rfl, rfl, hR'⟩
  obtain ⟨g1, g2, g3⟩ := hR'
  unfold maxLen at g2
  by_cases h0 : m = 0
  · subst h0
    clear g3
    go_wp2
    go_ret
    exact ⟨false, rfl, HT.out, by simp [ShortD]⟩
  · obtain ⟨b, off, rfl, hc⟩ := g3 (by omega)
    have hz : ((m : Int) == 0) = false := by simp [h0]
    have HM : Hid (m ≠ 0) := h0
    have hm0 : 0 < m := by omega
    have HCe : Hid (∀ k, k < m → W.cell? ⟨b, off + k, none⟩ = some (.int .u8 (F k))) := hc
    have hc0 := hc 0 hm0
    simp only [Nat.add_zero] at hc0
    clear g3 hc h0
    by_cases h15 : m ≤ 15
    case neg =>
      go_wp2
      go_ret
      refine ⟨false, rfl, HT.out, ?_⟩
      simp only [Bool.false_eq_true, false_iff]
      exact fun h => h15 h.2.1
    by_cases h48 : F 0 = 48
    · have hb : (F 0 == 48) = true := by simp [h48]
      have H48 : Hid (F 0 = 48) := h48
      clear h48
      by_cases hn : 1 < n
      case pos =>
        go_wp2
        go_ret
        refine ⟨false, rfl, HT.out, ?_⟩
        simp only [Bool.false_eq_true, false_iff]
        exact fun h => h.2.2.1 ⟨H48.out, hn⟩
      go_wp2
      go_loop [31] (fun v => ∃ j : Nat, j ≤ m ∧ v = .int .i64 j ∧ Hid (∀ i, i < j → 48 ≤ F i ∧ F i ≤ 57)) (fun v => m - (intOf v).toNat)
      case atStart => exact ⟨0, by omega, rfl, fun i hi => by omega⟩
      case round =>
        obtain ⟨j, hj, rfl, hE⟩ := hrel
        by_cases hlt : j < m
        · have hcj := HCe.out j hlt
          have hjm : (j : Int) < (m : Int) := by omega
          by_cases hd : 48 ≤ F j ∧ F j ≤ 57
          · obtain ⟨d1, d2⟩ := hd
            go_wp2
            go_round
            case rel => exact ⟨j + 1, by omega, by go_num, fun i hi => (Nat.lt_or_eq_of_le (Nat.le_of_lt_succ hi)).elim (hE.out i) (fun e => e ▸ ⟨d1, d2⟩)⟩
            case measure => simp [intOf]; omega
          · have hd' : F j < 48 ∨ 57 < F j := by omega
            rcases hd' with d1 | d1
            all_goals
              go_wp2
              go_ret
              refine ⟨false, rfl, HT.out, ?_⟩
              simp only [Bool.false_eq_true, false_iff]
              exact fun h => hd (h.2.2.2 j hlt)
        · go_wp2
          go_ret
          refine ⟨true, rfl, HT.out, ?_⟩
          simp only [true_iff]
          exact ⟨hm0, h15, fun h => hn h.2, fun i hi => hE.out i (by omega)⟩
    · have hb : (F 0 == 48) = false := by simp [h48]
      have H48 : Hid (F 0 ≠ 48) := h48
      clear h48
      go_wp2
      go_loop [31] (fun v => ∃ j : Nat, j ≤ m ∧ v = .int .i64 j ∧ Hid (∀ i, i < j → 48 ≤ F i ∧ F i ≤ 57)) (fun v => m - (intOf v).toNat)
      case atStart => exact ⟨0, by omega, rfl, fun i hi => by omega⟩
      case round =>
        obtain ⟨j, hj, rfl, hE⟩ := hrel
        by_cases hlt : j < m
        · have hcj := HCe.out j hlt
          have hjm : (j : Int) < (m : Int) := by omega
          by_cases hd : 48 ≤ F j ∧ F j ≤ 57
          · obtain ⟨d1, d2⟩ := hd
            go_wp2
            go_round
            case rel => exact ⟨j + 1, by omega, by go_num, fun i hi => (Nat.lt_or_eq_of_le (Nat.le_of_lt_succ hi)).elim (hE.out i) (fun e => e ▸ ⟨d1, d2⟩)⟩
            case measure => simp [intOf]; omega
          · have hd' : F j < 48 ∨ 57 < F j := by omega
            rcases hd' with d1 | d1
            all_goals
              go_wp2
              go_ret
              refine ⟨false, rfl, HT.out, ?_⟩
              simp only [Bool.false_eq_true, false_iff]
              exact fun h => hd (h.2.2.2 j hlt)
        · go_wp2
          go_ret
          refine ⟨true, rfl, HT.out, ?_⟩
          simp only [true_iff]
          exact ⟨hm0, h15, fun h => H48.out h.1, fun i hi => hE.out i (by omega)⟩

theorem zz7 (a : Option Addr) (n c : Nat) (S : Nat → Int) (w : World) (hR : Rb w a n c S) (hS : ∀ k, 0 ≤ S k ∧ S k ≤ 255) :
    Calls Try.prog 7 #[.slice a n c] w (SaysT (ShortD n (n - kOf n S) (fun j => S (kOf n S + j))) w) := by
  have HC : Hid (Calls Try.prog 17 #[.slice a n c] w (SaysT (ShortD n (n - kOf n S) (fun j => S (kOf n S + j))) w)) := short17 a n c S w hR hS
  clear hR hS
  go_enter Try.func7, Try.ntmps7
  go_wp2_with fail
  refine HC.out.mono ?_
  rintro e w' ⟨r, rfl, hT, hr⟩
  have HT : Hid (Touch (fun _ => False) w w' ∧ (r = true ↔ ShortD n (n - kOf n S) (fun j => S (kOf n S + j)))) := ⟨hT, hr⟩
  clear hT hr
  go_wp2
  go_ret
  exact ⟨r, rfl, HT.out⟩

end Go.Proofs.Qxb6604050a
