/- The functions that only read bytes: zzB1SameBytes (14), zzB1MatchBytes (10), zzB1SameRange (13), zzB1ReadsBack (15). -/
import Derived.Test.Qxb6604050aBase
namespace Go.Proofs.Qxb6604050a
open Go.RowKit
set_option linter.unusedVariables false
set_option linter.unusedSimpArgs false

/-- A bool comes back, true just where p holds; memory is as it was. -/
def SaysPost (p : Prop) (w : World) (e : Ending) (w' : World) : Prop := ∃ r : Bool, e = .returned (.bool r) ∧ Mem w w' ∧ (r = true ↔ p)

set_option maxHeartbeats 2000000 in
theorem same14 (a b : Option Addr) (n c m d : Nat) (S T : Nat → Int) (w : World) (h : Rb w a n c S) (h' : Rb w b m d T) :
    Calls Try.prog 14 #[.slice a n c, .slice b m d] w (SaysPost (n = m ∧ ∀ k, k < n → S k = T k) w) := by
  obtain ⟨h1, h2, h3⟩ := h
  obtain ⟨g1, g2, g3⟩ := h'
  unfold maxLen at h2 g2
  by_cases hnm : n = m
  · subst hnm
    by_cases h0 : n = 0
    · subst h0
      clear h3 g3
      have hb : (((0 : Nat) : Int) != ((0 : Nat) : Int)) = false := by simp
      go_enter Try.func14, Try.ntmps14
      go_wp2
      go_loop [5] (fun v => v = .int .i64 0) (fun _ => 0)
      case atStart => rfl
      case round =>
        obtain rfl := hrel
        go_wp2
        go_ret
        exact ⟨true, rfl, Mem.refl _, by simp⟩
    · obtain ⟨b1, o1, rfl, hc⟩ := h3 (by omega)
      obtain ⟨b2, o2, rfl, hd⟩ := g3 (by omega)
      have HC : Hid (∀ k, k < n → w.cell? ⟨b1, o1 + k, none⟩ = some (.int .u8 (S k))) := hc
      have HD : Hid (∀ k, k < n → w.cell? ⟨b2, o2 + k, none⟩ = some (.int .u8 (T k))) := hd
      clear hc hd h3 g3
      have hb : ((n : Int) != (n : Int)) = false := by simp
      go_enter Try.func14, Try.ntmps14
      go_wp2
      go_loopw [5] (fun v wr => ∃ k : Nat, k ≤ n ∧ v = .int .i64 k ∧ Mem w wr ∧ Hid (∀ j, j < k → S j = T j)) (fun v _ => n - (intOf v).toNat)
      case atStart => exact ⟨0, by omega, rfl, Mem.refl _, by intro j hj; omega⟩
      case round =>
        obtain ⟨k, hk, rfl, hM, hE⟩ := hrel
        have HM : Hid (Mem w wr) := hM
        by_cases hlt : k < n
        · have hck : wr.cell? ⟨b1, o1 + k, none⟩ = some (.int .u8 (S k)) := by rw [← HC.out k hlt]; exact World.cell?_of_block (by rw [hM.heap])
          have hdk : wr.cell? ⟨b2, o2 + k, none⟩ = some (.int .u8 (T k)) := by rw [← HD.out k hlt]; exact World.cell?_of_block (by rw [hM.heap])
          have hkn : (k : Int) < (n : Int) := by omega
          clear hM
          by_cases hst : S k = T k
          · have HE : Hid (S k = T k) := hst
            have hne : (S k != T k) = false := by simp [hst]
            clear hst
            go_wp2
            go_quiet (fail)
            go_wp2
            go_roundw
            case rel =>
              refine ⟨k + 1, by omega, by go_num, ?_, fun j hj => ?_⟩
              · exact ⟨HM.out.heap, HM.out.os, HM.out.tape, HM.out.output⟩
              · rcases Nat.lt_or_eq_of_le (Nat.le_of_lt_succ hj) with h | h
                · exact hE.out j h
                · rw [h]; exact HE.out
            case measure => simp [intOf]; omega
          · have HE : Hid (S k ≠ T k) := hst
            have hne : (S k != T k) = true := by simp [hst]
            clear hst
            go_wp2
            go_quiet (fail)
            go_wp2
            go_ret
            refine ⟨false, rfl, ⟨HM.out.heap, HM.out.os, HM.out.tape, HM.out.output⟩, ?_⟩
            simp only [Bool.false_eq_true, true_and, false_iff]
            exact fun h => HE.out (h k hlt)
        · clear hM
          go_wp2
          go_ret
          refine ⟨true, rfl, HM.out, ?_⟩
          simp only [true_and, true_iff]
          exact fun j hj => hE.out j (by omega)
  · clear h3 g3
    have hb : ((n : Int) != (m : Int)) = true := by rw [bne_iff_ne]; omega
    have HN : Hid (n ≠ m) := hnm
    clear hnm
    go_enter Try.func14, Try.ntmps14
    go_wp2
    go_ret
    refine ⟨false, rfl, Mem.refl _, ?_⟩
    simp only [Bool.false_eq_true, false_iff]
    exact fun h => HN.out h.1

set_option maxHeartbeats 2000000 in
theorem match10 (a b : Option Addr) (n c m d q : Nat) (S T : Nat → Int) (w : World) (h : Rb w a n c S) (h' : Rb w b m d T) (hq : q + m ≤ n) :
    Calls Try.prog 10 #[.slice a n c, .int .i64 (q : Int), .slice b m d] w (SaysPost (∀ k, k < m → S (q + k) = T k) w) := by
  obtain ⟨h1, h2, h3⟩ := h
  obtain ⟨g1, g2, g3⟩ := h'
  unfold maxLen at h2 g2
  have x1 : IntKind.i64.wrap ((n : Int) - (q : Int)) = (n : Int) - (q : Int) := by rw [IntKind.wrap_i64]; omega
  by_cases h0 : m = 0
  · subst h0
    clear h3 g3
    go_enter Try.func10, Try.ntmps10
    go_wp2
    go_loop [7] (fun v => v = .int .i64 0) (fun _ => 0)
    case atStart => rfl
    case round =>
      obtain rfl := hrel
      go_wp2
      go_ret
      exact ⟨true, rfl, Mem.refl _, by simp⟩
  · obtain ⟨b1, o1, rfl, hc⟩ := h3 (by omega)
    obtain ⟨b2, o2, rfl, hd⟩ := g3 (by omega)
    have HC : Hid (∀ k, k < n → w.cell? ⟨b1, o1 + k, none⟩ = some (.int .u8 (S k))) := hc
    have HD : Hid (∀ k, k < m → w.cell? ⟨b2, o2 + k, none⟩ = some (.int .u8 (T k))) := hd
    clear hc hd h3 g3
    go_enter Try.func10, Try.ntmps10
    go_wp2
    go_loopw [7] (fun v wr => ∃ k : Nat, k ≤ m ∧ v = .int .i64 k ∧ Mem w wr ∧ Hid (∀ j, j < k → S (q + j) = T j)) (fun v _ => m - (intOf v).toNat)
    case atStart => exact ⟨0, by omega, rfl, Mem.refl _, by intro j hj; omega⟩
    case round =>
      obtain ⟨k, hk, rfl, hM, hE⟩ := hrel
      have HM : Hid (Mem w wr) := hM
      by_cases hlt : k < m
      · have hck : wr.cell? ⟨b1, o1 + (q + k), none⟩ = some (.int .u8 (S (q + k))) := by rw [← HC.out (q + k) (by omega)]; exact World.cell?_of_block (by rw [hM.heap])
        have hdk : wr.cell? ⟨b2, o2 + k, none⟩ = some (.int .u8 (T k)) := by rw [← HD.out k hlt]; exact World.cell?_of_block (by rw [hM.heap])
        have hkn : (k : Int) < (m : Int) := by omega
        have x2 : IntKind.i64.wrap ((q : Int) + (k : Int)) = ((q + k : Nat) : Int) := by rw [IntKind.wrap_i64]; omega
        have x3 : ((q + k : Nat) : Int) < (n : Int) := by omega
        clear hM
        by_cases hst : S (q + k) = T k
        · have HE : Hid (S (q + k) = T k) := hst
          have hne : (S (q + k) != T k) = false := by simp [hst]
          clear hst
          go_wp2
          go_quiet (fail)
          go_wp2
          go_roundw
          case rel =>
            refine ⟨k + 1, by omega, by go_num, ?_, fun j hj => ?_⟩
            · exact ⟨HM.out.heap, HM.out.os, HM.out.tape, HM.out.output⟩
            · rcases Nat.lt_or_eq_of_le (Nat.le_of_lt_succ hj) with h | h
              · exact hE.out j h
              · rw [h]; exact HE.out
          case measure => simp [intOf]; omega
        · have HE : Hid (S (q + k) ≠ T k) := hst
          have hne : (S (q + k) != T k) = true := by simp [hst]
          clear hst
          go_wp2
          go_quiet (fail)
          go_wp2
          go_ret
          refine ⟨false, rfl, ⟨HM.out.heap, HM.out.os, HM.out.tape, HM.out.output⟩, ?_⟩
          simp only [Bool.false_eq_true, true_and, false_iff]
          exact fun h => HE.out (h k hlt)
      · clear hM
        go_wp2
        go_ret
        refine ⟨true, rfl, HM.out, ?_⟩
        simp only [true_and, true_iff]
        exact fun j hj => hE.out j (by omega)

set_option maxHeartbeats 2000000 in
theorem range13 (a b : Option Addr) (n c m d : Nat) (S T : Nat → Int) (w : World) (h : Rb w a n c S) (h' : Rb w b m d T) (hq : n ≤ m) :
    Calls Try.prog 13 #[.slice a n c, .slice b m d, .int .i64 0, .int .i64 (n : Int)] w (SaysPost (∀ k, k < n → S k = T k) w) := by
  obtain ⟨h1, h2, h3⟩ := h
  obtain ⟨g1, g2, g3⟩ := h'
  unfold maxLen at h2 g2
  have x1 : IntKind.i64.wrap ((n : Int) - 0) = (n : Int) := by rw [IntKind.wrap_i64]; omega
  have x1' : IntKind.i64.wrap (n : Int) = (n : Int) := by rw [IntKind.wrap_i64]; omega
  have x4 : ((n : Int) != (n : Int)) = false := by simp
  by_cases h0 : n = 0
  · subst h0
    clear h3 g3
    have x5 : (((0 : Nat) : Int) != (((0 : Nat) : Int) - 0)) = false := by simp
    go_enter Try.func13, Try.ntmps13
    go_wp2
    go_loop [9] (fun v => v = .int .i64 0) (fun _ => 0)
    case atStart => rfl
    case round =>
      obtain rfl := hrel
      go_wp2
      go_ret
      exact ⟨true, rfl, Mem.refl _, by simp⟩
  · obtain ⟨b1, o1, rfl, hc⟩ := h3 (by omega)
    obtain ⟨b2, o2, rfl, hd⟩ := g3 (by omega)
    have HC : Hid (∀ k, k < n → w.cell? ⟨b1, o1 + k, none⟩ = some (.int .u8 (S k))) := hc
    have HD : Hid (∀ k, k < m → w.cell? ⟨b2, o2 + k, none⟩ = some (.int .u8 (T k))) := hd
    clear hc hd h3 g3
    go_enter Try.func13, Try.ntmps13
    go_wp2
    go_loopw [9] (fun v wr => ∃ k : Nat, k ≤ n ∧ v = .int .i64 k ∧ Mem w wr ∧ Hid (∀ j, j < k → S j = T j)) (fun v _ => n - (intOf v).toNat)
    case atStart => exact ⟨0, by omega, rfl, Mem.refl _, by intro j hj; omega⟩
    case round =>
      obtain ⟨k, hk, rfl, hM, hE⟩ := hrel
      have HM : Hid (Mem w wr) := hM
      by_cases hlt : k < n
      · have hck : wr.cell? ⟨b1, o1 + k, none⟩ = some (.int .u8 (S k)) := by rw [← HC.out k hlt]; exact World.cell?_of_block (by rw [hM.heap])
        have hdk : wr.cell? ⟨b2, o2 + k, none⟩ = some (.int .u8 (T k)) := by rw [← HD.out k (by omega)]; exact World.cell?_of_block (by rw [hM.heap])
        have hkn : (k : Int) < (n : Int) := by omega
        have hkm : (k : Int) < (m : Int) := by omega
        have x2 : IntKind.i64.wrap (0 + (k : Int)) = (k : Int) := by rw [IntKind.wrap_i64]; omega
        have x3 : IntKind.i64.wrap (k : Int) = (k : Int) := by rw [IntKind.wrap_i64]; omega
        clear hM
        by_cases hst : S k = T k
        · have HE : Hid (S k = T k) := hst
          have hne : (S k != T k) = false := by simp [hst]
          clear hst
          go_wp2
          go_quiet (fail)
          go_wp2
          go_roundw
          case rel =>
            refine ⟨k + 1, by omega, by go_num, ?_, fun j hj => ?_⟩
            · exact ⟨HM.out.heap, HM.out.os, HM.out.tape, HM.out.output⟩
            · rcases Nat.lt_or_eq_of_le (Nat.le_of_lt_succ hj) with h | h
              · exact hE.out j h
              · rw [h]; exact HE.out
          case measure => simp [intOf]; omega
        · have HE : Hid (S k ≠ T k) := hst
          have hne : (S k != T k) = true := by simp [hst]
          clear hst
          go_wp2
          go_quiet (fail)
          go_wp2
          go_ret
          refine ⟨false, rfl, ⟨HM.out.heap, HM.out.os, HM.out.tape, HM.out.output⟩, ?_⟩
          simp only [Bool.false_eq_true, true_and, false_iff]
          exact fun h => HE.out (h k hlt)
      · clear hM
        go_wp2
        go_ret
        refine ⟨true, rfl, HM.out, ?_⟩
        simp only [true_and, true_iff]
        exact fun j hj => hE.out j (by omega)

/-- What lies at i in src ++ more. -/
def atStore (n : Nat) (S T : Nat → Int) (i : Nat) : Int := if i < n then S i else T (i - n)

/-- true comes back, memory is as it was. -/
def TruePost (w : World) (e : Ending) (w' : World) : Prop := e = .returned (.bool true) ∧ Mem w w'

set_option maxHeartbeats 2000000 in
theorem reads15 (a b u : Option Addr) (n c m d p f s : Nat) (S T U : Nat → Int) (w : World) (h : Rb w a n c S) (h' : Rb w b m d T) (hu : Rb w u p f U) (hs : s + p ≤ n + m) (hn : n ≤ 2097152) (hm : m ≤ 2097152)
    (hall : ∀ k, k < p → atStore n S T (s + k) = U k) :
    Calls Try.prog 15 #[.slice a n c, .slice b m d, .int .u32 (s : Int), .int .u32 ((s + p : Nat) : Int), .slice u p f] w (TruePost w) := by
  obtain ⟨h1, h2, h3⟩ := h
  obtain ⟨g1, g2, g3⟩ := h'
  obtain ⟨u1, u2, u3⟩ := hu
  unfold maxLen at h2 g2 u2
  have x1 : IntKind.i64.wrap (s : Int) = (s : Int) := by rw [IntKind.wrap_i64]; omega
  have x2 : IntKind.i64.wrap ((s + p : Nat) : Int) = ((s + p : Nat) : Int) := by rw [IntKind.wrap_i64]; omega
  have x3 : IntKind.i64.wrap (((s + p : Nat) : Int) - (s : Int)) = (p : Int) := by rw [IntKind.wrap_i64]; omega
  have x4 : IntKind.i64.wrap ((n : Int) + (m : Int)) = ((n + m : Nat) : Int) := by rw [IntKind.wrap_i64]; omega
  have x5 : ((p : Int) != (p : Int)) = false := by simp
  have x6 : ¬ (((s + p : Nat) : Int) < (s : Int)) := by omega
  have x7 : ¬ (((n + m : Nat) : Int) < ((s + p : Nat) : Int)) := by omega
  by_cases h0 : p = 0
  · subst h0
    clear h3 g3 u3
    go_enter Try.func15, Try.ntmps15
    go_wp2
    go_loop [13] (fun v => v = .int .i64 0) (fun _ => 0)
    case atStart => rfl
    case round =>
      obtain rfl := hrel
      go_wp2
      go_ret
      exact ⟨rfl, Mem.refl _⟩
  · obtain ⟨b3, o3, rfl, he⟩ := u3 (by omega)
    have HC : Hid (0 < n → ∃ b off, a = some ⟨b, off, none⟩ ∧ ∀ k, k < n → w.cell? ⟨b, off + k, none⟩ = some (.int .u8 (S k))) := h3
    have HD : Hid (0 < m → ∃ b' off, b = some ⟨b', off, none⟩ ∧ ∀ k, k < m → w.cell? ⟨b', off + k, none⟩ = some (.int .u8 (T k))) := g3
    have HE : Hid (∀ k, k < p → w.cell? ⟨b3, o3 + k, none⟩ = some (.int .u8 (U k))) := he
    have HA : Hid (∀ k, k < p → atStore n S T (s + k) = U k) := hall
    clear h3 g3 u3 he hall
    go_enter Try.func15, Try.ntmps15
    go_wp2
    go_loop [13] (fun v => ∃ k : Nat, k ≤ p ∧ v = .int .i64 k) (fun v => p - (intOf v).toNat)
    case atStart => exact ⟨0, by omega, rfl⟩
    case round =>
      obtain ⟨k, hk, rfl⟩ := hrel
      by_cases hlt : k < p
      · have hek := HE.out k hlt
        have hkp : (k : Int) < (p : Int) := by omega
        have y1 : IntKind.i64.wrap ((s : Int) + (k : Int)) = ((s + k : Nat) : Int) := by rw [IntKind.wrap_i64]; omega
        have hst := HA.out k hlt
        unfold atStore at hst
        by_cases hin : s + k < n
        · obtain ⟨b1, o1, rfl, hc⟩ := HC.out (by omega)
          have hck := hc (s + k) hin
          rw [if_pos hin] at hst
          have hne : (S (s + k) != U k) = false := by simp [hst]
          have y2 : ((s + k : Nat) : Int) < (n : Int) := by omega
          clear hst hc
          go_wp2
          go_round
          case rel => exact ⟨k + 1, by omega, by go_num⟩
          case measure => simp [intOf]; omega
        · obtain ⟨b1, o1, rfl, hc⟩ := HD.out (by omega)
          have hck := hc (s + k - n) (by omega)
          rw [if_neg hin] at hst
          have hne : (T (s + k - n) != U k) = false := by simp [hst]
          have y2 : ¬ (((s + k : Nat) : Int) < (n : Int)) := by omega
          have y3 : IntKind.i64.wrap (((s + k : Nat) : Int) - (n : Int)) = ((s + k - n : Nat) : Int) := by rw [IntKind.wrap_i64]; omega
          have y4 : ((s + k - n : Nat) : Int) < (m : Int) := by omega
          clear hst hc
          go_wp2
          go_round
          case rel => exact ⟨k + 1, by omega, by go_num⟩
          case measure => simp [intOf]; omega
      · go_wp2
        go_ret
        exact ⟨rfl, Mem.refl _⟩

end Go.Proofs.Qxb6604050a
