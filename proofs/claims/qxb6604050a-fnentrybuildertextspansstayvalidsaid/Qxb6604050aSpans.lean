/- FnEntryBuilderTextSpansStayValid (5): what came in, the guard (16), the state of its loop. -/
import Derived.Test.Qxb6604050aZZ
import Derived.BigRegion
import Derived.Deep.DeepCutAuto
namespace Go.Proofs.Qxb6604050a
open Go.RowKit
set_option linter.unusedVariables false
set_option linter.unusedSimpArgs false
attribute [local go_sem ↓] Go.wp_at_zero Go.wp_at_succ

/-- The slice of texts: nt texts, the k-th of M k bytes. -/
structure Texts (w : World) (a : Option Addr) (nt ct : Nat) (A : Nat → Option Addr) (M D : Nat → Nat) (T : Nat → Nat → Int) : Prop where
  len : nt ≤ ct
  cap : ct ≤ maxLen
  cell : 0 < nt → ∃ b off, a = some ⟨b, off, none⟩ ∧ ∀ k, k < nt → w.cell? ⟨b, off + k, none⟩ = some (.slice (A k) (M k) (D k))
  row : ∀ k, k < nt → Arg w (A k) (M k) (D k) (T k)

/-- The slice of places. -/
structure Ats (w : World) (a : Option Addr) (na ca : Nat) (Z : Nat → Int) : Prop where
  len : na ≤ ca
  cap : ca ≤ maxLen
  cell : 0 < na → ∃ b off, a = some ⟨b, off, none⟩ ∧ ∀ k, k < na → w.cell? ⟨b, off + k, none⟩ = some (.int .i64 (Z k))

def psum (M : Nat → Nat) : Nat → Nat
  | 0 => 0
  | k + 1 => psum M k + M k

theorem psum_le (M : Nat → Nat) {j k : Nat} (h : j ≤ k) : psum M j ≤ psum M k := by
  induction k with
  | zero => obtain rfl : j = 0 := by omega
            exact Nat.le_refl _
  | succ k ih =>
    rcases Nat.lt_or_eq_of_le h with h | h
    · have := ih (by omega); simp only [psum]; omega
    · rw [h]; exact Nat.le_refl _

set_option maxHeartbeats 2000000 in
theorem guard16 (a t s : Option Addr) (n c nt ct na ca : Nat) (A : Nat → Option Addr) (M D : Nat → Nat) (T : Nat → Nat → Int) (w : World) (hn : n ≤ maxLen) (hT : Texts w t nt ct A M D T) (hna : na ≤ maxLen) :
    Calls Try.prog 16 #[.slice a n c, .slice t nt ct, .slice s na ca] w (BoolPost w) := by
  obtain ⟨h1, h2, h3, h4⟩ := hT
  unfold maxLen at hn hna h2
  by_cases hA : n ≤ 1048576
  case neg =>
    clear h3 h4
    go_enter Try.func16, Try.ntmps16
    go_wp2
    go_ret
    exact ⟨_, rfl, rfl⟩
  by_cases hB : nt ≤ 1048576
  case neg =>
    clear h3 h4
    go_enter Try.func16, Try.ntmps16
    go_wp2
    go_ret
    exact ⟨_, rfl, rfl⟩
  by_cases hC : n + nt ≤ 1048576
  case neg =>
    clear h3 h4
    go_enter Try.func16, Try.ntmps16
    go_wp2
    go_ret
    exact ⟨_, rfl, rfl⟩
  have H4 : Hid (∀ k, k < nt → Arg w (A k) (M k) (D k) (T k)) := h4
  have H3 : Hid (0 < nt → ∃ b off, t = some ⟨b, off, none⟩ ∧ ∀ k, k < nt → w.cell? ⟨b, off + k, none⟩ = some (.slice (A k) (M k) (D k))) := h3
  clear h3 h4
  go_enter Try.func16, Try.ntmps16
  go_wp2
  go_loop [7, 8] (fun u v => ∃ k : Nat, ∃ s : Nat, k ≤ nt ∧ s ≤ 1048576 ∧ v = .int .i64 k ∧ u = .int .i64 s) (fun _ v => nt - (intOf v).toNat)
  case atStart => exact ⟨0, n + nt, by omega, hC, rfl, by simp⟩
  case round =>
    obtain ⟨k, s, hk, hs, rfl, rfl⟩ := hrel
    by_cases hlt : k < nt
    · obtain ⟨b, off, rfl, hc⟩ := H3.out (by omega)
      have hck := hc k hlt
      have hm1 := (H4.out k hlt).rd.1; have hm2 := (H4.out k hlt).rd.2.1
      unfold maxLen at hm2
      have hkn : (k : Int) < (nt : Int) := by omega
      clear hc
      by_cases hb : M k ≤ 1048576
      case neg =>
        go_wp2
        go_ret
        exact ⟨_, rfl, rfl⟩
      by_cases hb2 : s + M k ≤ 1048576
      case neg =>
        go_wp2
        go_ret
        exact ⟨_, rfl, rfl⟩
      go_wp2
      go_round
      case rel => exact ⟨k + 1, s + M k, by omega, hb2, by go_num, by go_num⟩
      case measure => simp [intOf]; omega
    · by_cases hD : na ≤ 1048576
      case neg =>
        go_wp2
        go_ret
        exact ⟨_, rfl, rfl⟩
      by_cases hE : s + na ≤ 1048576
      all_goals
        go_wp2
        go_ret
        exact ⟨_, rfl, rfl⟩

/-- true comes back, the world is as it was. -/
def SameTrue (w : World) (e : Ending) (w' : World) : Prop := e = .returned (.bool true) ∧ w' = w

set_option maxHeartbeats 2000000 in
theorem reads15s (a b u : Option Addr) (n c m d p f s : Nat) (S T U : Nat → Int) (w : World) (h : Rb w a n c S) (h' : Rb w b m d T) (hu : Rb w u p f U) (hs : s + p ≤ n + m) (hn : n ≤ 2097152) (hm : m ≤ 2097152)
    (hall : ∀ k, k < p → atStore n S T (s + k) = U k) :
    Calls Try.prog 15 #[.slice a n c, .slice b m d, .int .u32 (s : Int), .int .u32 ((s + p : Nat) : Int), .slice u p f] w (SameTrue w) := by
  obtain ⟨h1, h2, h3⟩ := h
  obtain ⟨g1, g2, g3⟩ := h'
  obtain ⟨u1, u2, u3⟩ := hu
  unfold maxLen at h2 g2 u2
  have x1 : IntKind.i64.wrap (s : Int) = (s : Int) := by rw [IntKind.wrap_i64]; omega
  have x2 : IntKind.i64.wrap ((s + p : Nat) : Int) = ((s + p : Nat) : Int) := by rw [IntKind.wrap_i64]; omega
  have x3 : IntKind.i64.wrap (((s + p : Nat) : Int) - (s : Int)) = (p : Int) := by rw [IntKind.wrap_i64]; omega
  have x4 : IntKind.i64.wrap ((n : Int) + (m : Int)) = ((n + m : Nat) : Int) := by rw [IntKind.wrap_i64]; omega
  have x5 : ((p : Int) != (p : Int)) = false := by simp
  have x6 : ¬ (((s + p : Nat) : Int) < (s : Int)) := by omega
  have x7 : ¬ (((n + m : Nat) : Int) < ((s + p : Nat) : Int)) := by omega
  by_cases h0 : p = 0
  · subst h0
    clear h3 g3 u3
    go_enter Try.func15, Try.ntmps15
    go_wp2
    go_loop [13] (fun v => v = .int .i64 0) (fun _ => 0)
    case atStart => rfl
    case round =>
      obtain rfl := hrel
      go_wp2
      go_ret
      exact ⟨rfl, rfl⟩
  · obtain ⟨b3, o3, rfl, he⟩ := u3 (by omega)
    have HC : Hid (0 < n → ∃ b off, a = some ⟨b, off, none⟩ ∧ ∀ k, k < n → w.cell? ⟨b, off + k, none⟩ = some (.int .u8 (S k))) := h3
    have HD : Hid (0 < m → ∃ b' off, b = some ⟨b', off, none⟩ ∧ ∀ k, k < m → w.cell? ⟨b', off + k, none⟩ = some (.int .u8 (T k))) := g3
    have HE : Hid (∀ k, k < p → w.cell? ⟨b3, o3 + k, none⟩ = some (.int .u8 (U k))) := he
    have HA : Hid (∀ k, k < p → atStore n S T (s + k) = U k) := hall
    clear h3 g3 u3 he hall
    go_enter Try.func15, Try.ntmps15
    go_wp2
    go_loop [13] (fun v => ∃ k : Nat, k ≤ p ∧ v = .int .i64 k) (fun v => p - (intOf v).toNat)
    case atStart => exact ⟨0, by omega, rfl⟩
    case round =>
      obtain ⟨k, hk, rfl⟩ := hrel
      by_cases hlt : k < p
      · have hek := HE.out k hlt
        have hkp : (k : Int) < (p : Int) := by omega
        have y1 : IntKind.i64.wrap ((s : Int) + (k : Int)) = ((s + k : Nat) : Int) := by rw [IntKind.wrap_i64]; omega
        have hst := HA.out k hlt
        unfold atStore at hst
        by_cases hin : s + k < n
        · obtain ⟨b1, o1, rfl, hc⟩ := HC.out (by omega)
          have hck := hc (s + k) hin
          rw [if_pos hin] at hst
          have hne : (S (s + k) != U k) = false := by simp [hst]
          have y2 : ((s + k : Nat) : Int) < (n : Int) := by omega
          clear hst hc
          go_wp2
          go_round
          case rel => exact ⟨k + 1, by omega, by go_num⟩
          case measure => simp [intOf]; omega
        · obtain ⟨b1, o1, rfl, hc⟩ := HD.out (by omega)
          have hck := hc (s + k - n) (by omega)
          rw [if_neg hin] at hst
          have hne : (T (s + k - n) != U k) = false := by simp [hst]
          have y2 : ¬ (((s + k : Nat) : Int) < (n : Int)) := by omega
          have y3 : IntKind.i64.wrap (((s + k : Nat) : Int) - (n : Int)) = ((s + k - n : Nat) : Int) := by rw [IntKind.wrap_i64]; omega
          have y4 : ((s + k - n : Nat) : Int) < (m : Int) := by omega
          clear hst hc
          go_wp2
          go_round
          case rel => exact ⟨k + 1, by omega, by go_num⟩
          case measure => simp [intOf]; omega
      · go_wp2
        go_ret
        exact ⟨rfl, rfl⟩

end Go.Proofs.Qxb6604050a
