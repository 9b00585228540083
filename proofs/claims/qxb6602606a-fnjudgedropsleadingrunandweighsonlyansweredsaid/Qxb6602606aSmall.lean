/- The small functions: copies (10, 18), comparisons (23, 24), the guards (16, 17). -/
import Derived.Test.Qxb6602606aBase
namespace Go.Proofs.Qxb6602606a
open Go.RowKit
set_option linter.unusedVariables false
set_option linter.unusedSimpArgs false
attribute [local go_sem ↓] Go.wp_at_zero Go.wp_at_succ

/-- A bool comes back, true just where p holds; memory is as it was. -/
def SaysPost (p : Prop) (w : World) (e : Ending) (w' : World) : Prop := ∃ r : Bool, e = .returned (.bool r) ∧ Mem w w' ∧ (r = true ↔ p)

/-- A copy in new memory; nil stays nil. -/
def CopyPost (k : IntKind) (a : Option Addr) (n : Nat) (S : Nat → Int) (w : World) (e : Ending) (w' : World) : Prop :=
  ∃ a', e = .returned (.slice a' n n) ∧ RI k w' a' n n S ∧ (a' = none ↔ a = none) ∧ Touch (fun _ => False) w w'

theorem copyU_nil (n c : Nat) (S : Nat → Int) (w : World) (hn : n = 0) (hc : c = 0) :
    Calls Try.prog 10 #[.slice none n c] w (CopyPost .u64 none n S w) := by
  subst hn hc
  have heq := fun w a n c => Lib.run_eql_slice_nil (P := Try.prog) w 24 22 a n c 0 0 Try.underlying24
  go_enter Try.func10, Try.ntmps10
  go_wp2
  go_ret
  exact ⟨none, rfl, ⟨Nat.le_refl _, Nat.zero_le _, fun h => absurd h (Nat.lt_irrefl _)⟩, ⟨fun _ => rfl, fun _ => rfl⟩, Touch.refl _ _⟩

set_option maxHeartbeats 1000000 in
theorem copyU_some (x : Addr) (n c : Nat) (S : Nat → Int) (w : World) (hR : RI .u64 w (some x) n c S) (hn : n ≤ 1048576) :
    Calls Try.prog 10 #[.slice (some x) n c] w (CopyPost .u64 (some x) n S w) := by
  have heq := fun w a n c => Lib.run_eql_slice_nil (P := Try.prog) w 24 22 a n c 0 0 Try.underlying24
  have hmk := makeU n hn w
  obtain ⟨h1, h2, h3⟩ := hR
  unfold maxLen at h2
  have HC : Hid (0 < n → ∃ b off, some x = some ⟨b, off, none⟩ ∧ ∀ i, i < n → w.cell? ⟨b, off + i, none⟩ = some (.int .u64 (S i))) := h3
  obtain ⟨Z, hZ⟩ : ∃ Z, Z = w.alloc (.cells (madeCells #[.int .u64 0] n) 22) := ⟨_, rfl⟩
  have HS : Hid (Part 22 Z w.heap.size n 0 (fun i => .int .u64 (S i)) ∧ Touch (fun _ => False) w Z) := by
    rw [hZ]; exact ⟨Part.made, (Touch.refl _ _).alloc _⟩
  rw [← hZ] at hmk
  clear h3 hZ
  go_enter Try.func10, Try.ntmps10
  go_wp2
  go_loopw [4] (fun v wr => ∃ j : Nat, j ≤ n ∧ v = .int .i64 j ∧ Hid (Part 22 wr w.heap.size n j (fun i => .int .u64 (S i)) ∧ Touch (fun _ => False) w wr)) (fun v _ => n - (intOf v).toNat)
  case atStart => exact ⟨0, by omega, rfl, HS⟩
  case round =>
    obtain ⟨j, hj, rfl, hP⟩ := hrel
    by_cases hlt : j < n
    · obtain ⟨b, off, e, hc⟩ := HC.out (by omega)
      cases e
      have hcj : wr.cell? ⟨b, off + j, none⟩ = some (.int .u64 (S j)) := by
        rw [← hc j hlt]; exact World.cell?_of_block (hP.out.2.block _ (World.block_lt_of_cell? w _ (hc j hlt)) fun h => h)
      obtain ⟨y, hy1, hy2⟩ := hP.out.1.cell j hlt
      have hjn : (j : Int) < (n : Int) := by omega
      have HN : Hid (Part 22 (wr.setCell ⟨w.heap.size, j, none⟩ (.int .u64 (S j))) w.heap.size n (j + 1) (fun i => .int .u64 (S i)) ∧ Touch (fun _ => False) w (wr.setCell ⟨w.heap.size, j, none⟩ (.int .u64 (S j)))) :=
        ⟨hP.out.1.put hlt _ rfl, hP.out.2.setCell _ (fun h => absurd h (Nat.lt_irrefl _)) _⟩
      clear hc hP
      go_wp2
      go_roundw
      case rel => exact ⟨j + 1, by omega, by go_num, HN⟩
      case measure => simp [intOf]; omega
    · obtain rfl : j = n := by omega
      go_wp2
      go_ret
      exact ⟨some ⟨w.heap.size, 0, none⟩, rfl, hP.out.1.whole hn, ⟨fun h => (by cases h), fun h => (by cases h)⟩, hP.out.2⟩

theorem copyU (a : Option Addr) (n c : Nat) (S : Nat → Int) (w : World) (hR : RI .u64 w a n c S) (h0 : a = none → n = 0 ∧ c = 0) (hn : n ≤ 1048576) :
    Calls Try.prog 10 #[.slice a n c] w (CopyPost .u64 a n S w) := by
  cases a with
  | none => exact copyU_nil n c S w (h0 rfl).1 (h0 rfl).2
  | some x => exact copyU_some x n c S w hR hn

theorem copyI_nil (n c : Nat) (S : Nat → Int) (w : World) (hn : n = 0) (hc : c = 0) :
    Calls Try.prog 18 #[.slice none n c] w (CopyPost .i64 none n S w) := by
  subst hn hc
  have heq := fun w a n c => Lib.run_eql_slice_nil (P := Try.prog) w 38 3 a n c 0 0 Try.underlying38
  go_enter Try.func18, Try.ntmps18
  go_wp2
  go_ret
  exact ⟨none, rfl, ⟨Nat.le_refl _, Nat.zero_le _, fun h => absurd h (Nat.lt_irrefl _)⟩, ⟨fun _ => rfl, fun _ => rfl⟩, Touch.refl _ _⟩

set_option maxHeartbeats 1000000 in
theorem copyI_some (x : Addr) (n c : Nat) (S : Nat → Int) (w : World) (hR : RI .i64 w (some x) n c S) (hn : n ≤ 1048576) :
    Calls Try.prog 18 #[.slice (some x) n c] w (CopyPost .i64 (some x) n S w) := by
  have heq := fun w a n c => Lib.run_eql_slice_nil (P := Try.prog) w 38 3 a n c 0 0 Try.underlying38
  have hmk := makeI n hn w
  obtain ⟨h1, h2, h3⟩ := hR
  unfold maxLen at h2
  have HC : Hid (0 < n → ∃ b off, some x = some ⟨b, off, none⟩ ∧ ∀ i, i < n → w.cell? ⟨b, off + i, none⟩ = some (.int .i64 (S i))) := h3
  obtain ⟨Z, hZ⟩ : ∃ Z, Z = w.alloc (.cells (madeCells #[.int .i64 0] n) 3) := ⟨_, rfl⟩
  have HS : Hid (Part 3 Z w.heap.size n 0 (fun i => .int .i64 (S i)) ∧ Touch (fun _ => False) w Z) := by
    rw [hZ]; exact ⟨Part.made, (Touch.refl _ _).alloc _⟩
  rw [← hZ] at hmk
  clear h3 hZ
  go_enter Try.func18, Try.ntmps18
  go_wp2
  go_loopw [4] (fun v wr => ∃ j : Nat, j ≤ n ∧ v = .int .i64 j ∧ Hid (Part 3 wr w.heap.size n j (fun i => .int .i64 (S i)) ∧ Touch (fun _ => False) w wr)) (fun v _ => n - (intOf v).toNat)
  case atStart => exact ⟨0, by omega, rfl, HS⟩
  case round =>
    obtain ⟨j, hj, rfl, hP⟩ := hrel
    by_cases hlt : j < n
    · obtain ⟨b, off, e, hc⟩ := HC.out (by omega)
      cases e
      have hcj : wr.cell? ⟨b, off + j, none⟩ = some (.int .i64 (S j)) := by
        rw [← hc j hlt]; exact World.cell?_of_block (hP.out.2.block _ (World.block_lt_of_cell? w _ (hc j hlt)) fun h => h)
      obtain ⟨y, hy1, hy2⟩ := hP.out.1.cell j hlt
      have hjn : (j : Int) < (n : Int) := by omega
      have HN : Hid (Part 3 (wr.setCell ⟨w.heap.size, j, none⟩ (.int .i64 (S j))) w.heap.size n (j + 1) (fun i => .int .i64 (S i)) ∧ Touch (fun _ => False) w (wr.setCell ⟨w.heap.size, j, none⟩ (.int .i64 (S j)))) :=
        ⟨hP.out.1.put hlt _ rfl, hP.out.2.setCell _ (fun h => absurd h (Nat.lt_irrefl _)) _⟩
      clear hc hP
      go_wp2
      go_roundw
      case rel => exact ⟨j + 1, by omega, by go_num, HN⟩
      case measure => simp [intOf]; omega
    · obtain rfl : j = n := by omega
      go_wp2
      go_ret
      exact ⟨some ⟨w.heap.size, 0, none⟩, rfl, hP.out.1.whole hn, ⟨fun h => (by cases h), fun h => (by cases h)⟩, hP.out.2⟩

theorem copyI (a : Option Addr) (n c : Nat) (S : Nat → Int) (w : World) (hR : RI .i64 w a n c S) (h0 : a = none → n = 0 ∧ c = 0) (hn : n ≤ 1048576) :
    Calls Try.prog 18 #[.slice a n c] w (CopyPost .i64 a n S w) := by
  cases a with
  | none => exact copyI_nil n c S w (h0 rfl).1 (h0 rfl).2
  | some x => exact copyI_some x n c S w hR hn

set_option maxHeartbeats 2000000 in
theorem sameU (a b : Option Addr) (n c m d : Nat) (S T : Nat → Int) (w : World) (h : RI .u64 w a n c S) (h' : RI .u64 w b m d T) :
    Calls Try.prog 23 #[.slice a n c, .slice b m d] w (SaysPost (n = m ∧ ∀ k, k < n → S k = T k) w) := by
  obtain ⟨h1, h2, h3⟩ := h
  obtain ⟨g1, g2, g3⟩ := h'
  unfold maxLen at h2 g2
  by_cases hnm : n = m
  · subst hnm
    by_cases h0 : n = 0
    · subst h0
      clear h3 g3
      have hb : (((0 : Nat) : Int) != ((0 : Nat) : Int)) = false := by simp
      go_enter Try.func23, Try.ntmps23
      go_wp2
      go_loop [5] (fun v => v = .int .i64 0) (fun _ => 0)
      case atStart => rfl
      case round =>
        obtain rfl := hrel
        go_wp2
        go_ret
        exact ⟨true, rfl, Mem.refl _, by simp⟩
    · obtain ⟨b1, o1, rfl, hc⟩ := h3 (by omega)
      obtain ⟨b2, o2, rfl, hd⟩ := g3 (by omega)
      have HC : Hid (∀ k, k < n → w.cell? ⟨b1, o1 + k, none⟩ = some (.int .u64 (S k))) := hc
      have HD : Hid (∀ k, k < n → w.cell? ⟨b2, o2 + k, none⟩ = some (.int .u64 (T k))) := hd
      clear hc hd h3 g3
      have hb : ((n : Int) != (n : Int)) = false := by simp
      go_enter Try.func23, Try.ntmps23
      go_wp2
      go_loopw [5] (fun v wr => ∃ k : Nat, k ≤ n ∧ v = .int .i64 k ∧ Mem w wr ∧ Hid (∀ j, j < k → S j = T j)) (fun v _ => n - (intOf v).toNat)
      case atStart => exact ⟨0, by omega, rfl, Mem.refl _, by intro j hj; omega⟩
      case round =>
        obtain ⟨k, hk, rfl, hM, hE⟩ := hrel
        have HM : Hid (Mem w wr) := hM
        by_cases hlt : k < n
        · have hck : wr.cell? ⟨b1, o1 + k, none⟩ = some (.int .u64 (S k)) := by rw [← HC.out k hlt]; exact World.cell?_of_block (by rw [hM.heap])
          have hdk : wr.cell? ⟨b2, o2 + k, none⟩ = some (.int .u64 (T k)) := by rw [← HD.out k hlt]; exact World.cell?_of_block (by rw [hM.heap])
          have hkn : (k : Int) < (n : Int) := by omega
          clear hM
          by_cases hst : S k = T k
          · have HE : Hid (S k = T k) := hst
            have hne : (S k != T k) = false := by simp [hst]
            clear hst
            go_wp2
            go_quiet (fail)
            go_wp2
            go_roundw
            case rel =>
              refine ⟨k + 1, by omega, by go_num, ?_, fun j hj => ?_⟩
              · exact ⟨HM.out.heap, HM.out.os, HM.out.tape, HM.out.output⟩
              · rcases Nat.lt_or_eq_of_le (Nat.le_of_lt_succ hj) with h | h
                · exact hE.out j h
                · rw [h]; exact HE.out
            case measure => simp [intOf]; omega
          · have HE : Hid (S k ≠ T k) := hst
            have hne : (S k != T k) = true := by simp [hst]
            clear hst
            go_wp2
            go_quiet (fail)
            go_wp2
            go_ret
            refine ⟨false, rfl, ⟨HM.out.heap, HM.out.os, HM.out.tape, HM.out.output⟩, ?_⟩
            simp only [Bool.false_eq_true, true_and, false_iff]
            exact fun h => HE.out (h k hlt)
        · clear hM
          go_wp2
          go_ret
          refine ⟨true, rfl, HM.out, ?_⟩
          simp only [true_and, true_iff]
          exact fun j hj => hE.out j (by omega)
  · clear h3 g3
    have hb : ((n : Int) != (m : Int)) = true := by rw [bne_iff_ne]; omega
    have HN : Hid (n ≠ m) := hnm
    clear hnm
    go_enter Try.func23, Try.ntmps23
    go_wp2
    go_ret
    refine ⟨false, rfl, Mem.refl _, ?_⟩
    simp only [Bool.false_eq_true, false_iff]
    exact fun h => HN.out h.1

set_option maxHeartbeats 2000000 in
theorem sameI (a b : Option Addr) (n c m d : Nat) (S T : Nat → Int) (w : World) (h : RI .i64 w a n c S) (h' : RI .i64 w b m d T) :
    Calls Try.prog 24 #[.slice a n c, .slice b m d] w (SaysPost (n = m ∧ ∀ k, k < n → S k = T k) w) := by
  obtain ⟨h1, h2, h3⟩ := h
  obtain ⟨g1, g2, g3⟩ := h'
  unfold maxLen at h2 g2
  by_cases hnm : n = m
  · subst hnm
    by_cases h0 : n = 0
    · subst h0
      clear h3 g3
      have hb : (((0 : Nat) : Int) != ((0 : Nat) : Int)) = false := by simp
      go_enter Try.func24, Try.ntmps24
      go_wp2
      go_loop [5] (fun v => v = .int .i64 0) (fun _ => 0)
      case atStart => rfl
      case round =>
        obtain rfl := hrel
        go_wp2
        go_ret
        exact ⟨true, rfl, Mem.refl _, by simp⟩
    · obtain ⟨b1, o1, rfl, hc⟩ := h3 (by omega)
      obtain ⟨b2, o2, rfl, hd⟩ := g3 (by omega)
      have HC : Hid (∀ k, k < n → w.cell? ⟨b1, o1 + k, none⟩ = some (.int .i64 (S k))) := hc
      have HD : Hid (∀ k, k < n → w.cell? ⟨b2, o2 + k, none⟩ = some (.int .i64 (T k))) := hd
      clear hc hd h3 g3
      have hb : ((n : Int) != (n : Int)) = false := by simp
      go_enter Try.func24, Try.ntmps24
      go_wp2
      go_loopw [5] (fun v wr => ∃ k : Nat, k ≤ n ∧ v = .int .i64 k ∧ Mem w wr ∧ Hid (∀ j, j < k → S j = T j)) (fun v _ => n - (intOf v).toNat)
      case atStart => exact ⟨0, by omega, rfl, Mem.refl _, by intro j hj; omega⟩
      case round =>
        obtain ⟨k, hk, rfl, hM, hE⟩ := hrel
        have HM : Hid (Mem w wr) := hM
        by_cases hlt : k < n
        · have hck : wr.cell? ⟨b1, o1 + k, none⟩ = some (.int .i64 (S k)) := by rw [← HC.out k hlt]; exact World.cell?_of_block (by rw [hM.heap])
          have hdk : wr.cell? ⟨b2, o2 + k, none⟩ = some (.int .i64 (T k)) := by rw [← HD.out k hlt]; exact World.cell?_of_block (by rw [hM.heap])
          have hkn : (k : Int) < (n : Int) := by omega
          clear hM
          by_cases hst : S k = T k
          · have HE : Hid (S k = T k) := hst
            have hne : (S k != T k) = false := by simp [hst]
            clear hst
            go_wp2
            go_quiet (fail)
            go_wp2
            go_roundw
            case rel =>
              refine ⟨k + 1, by omega, by go_num, ?_, fun j hj => ?_⟩
              · exact ⟨HM.out.heap, HM.out.os, HM.out.tape, HM.out.output⟩
              · rcases Nat.lt_or_eq_of_le (Nat.le_of_lt_succ hj) with h | h
                · exact hE.out j h
                · rw [h]; exact HE.out
            case measure => simp [intOf]; omega
          · have HE : Hid (S k ≠ T k) := hst
            have hne : (S k != T k) = true := by simp [hst]
            clear hst
            go_wp2
            go_quiet (fail)
            go_wp2
            go_ret
            refine ⟨false, rfl, ⟨HM.out.heap, HM.out.os, HM.out.tape, HM.out.output⟩, ?_⟩
            simp only [Bool.false_eq_true, true_and, false_iff]
            exact fun h => HE.out (h k hlt)
        · clear hM
          go_wp2
          go_ret
          refine ⟨true, rfl, HM.out, ?_⟩
          simp only [true_and, true_iff]
          exact fun j hj => hE.out j (by omega)
  · clear h3 g3
    have hb : ((n : Int) != (m : Int)) = true := by rw [bne_iff_ne]; omega
    have HN : Hid (n ≠ m) := hnm
    clear hnm
    go_enter Try.func24, Try.ntmps24
    go_wp2
    go_ret
    refine ⟨false, rfl, Mem.refl _, ?_⟩
    simp only [Bool.false_eq_true, false_iff]
    exact fun h => HN.out h.1

/-- Only a bool comes back. -/
def BoolPost (w : World) (e : Ending) (w' : World) : Prop := ∃ r, e = .returned (.bool r) ∧ w = w'

theorem guard16 (a b t : Option Addr) (n c n2 c2 m d : Nat) (x y : Int) (u j : Nat) (w : World) (hn : n ≤ maxLen) (hn2 : n2 ≤ maxLen) (hm : m ≤ maxLen) :
    Calls Try.prog 16 #[.slice a n c, .slice b n2 c2, .slice t m d, .int .u64 x, .float .f64 u, .float .f64 j, .int .u64 y] w (BoolPost w) := by
  unfold maxLen at hn hn2 hm
  by_cases h1 : n ≤ 1048576
  · by_cases h2 : n2 ≤ 1048576
    · by_cases h3 : n + n2 ≤ 1048576
      · by_cases h4 : m ≤ 1048576
        · by_cases h5 : n + n2 + m ≤ 1048576
          all_goals
            go_enter Try.func16, Try.ntmps16
            go_wp2
            go_ret
            exact ⟨_, rfl, rfl⟩
        · go_enter Try.func16, Try.ntmps16
          go_wp2
          go_ret
          exact ⟨_, rfl, rfl⟩
      · go_enter Try.func16, Try.ntmps16
        go_wp2
        go_ret
        exact ⟨_, rfl, rfl⟩
    · go_enter Try.func16, Try.ntmps16
      go_wp2
      go_ret
      exact ⟨_, rfl, rfl⟩
  · go_enter Try.func16, Try.ntmps16
    go_wp2
    go_ret
    exact ⟨_, rfl, rfl⟩

/-- false says: the lengths are small. -/
def BigPost (n n2 m : Nat) (w : World) (e : Ending) (w' : World) : Prop := ∃ r, e = .returned (.bool r) ∧ w = w' ∧ (r = false → n ≤ 1048576 ∧ n2 ≤ 1048576 ∧ m ≤ 1048576)

theorem big17 (a b t : Option Addr) (n c n2 c2 m d : Nat) (w : World) (hn : n ≤ maxLen) (hn2 : n2 ≤ maxLen) (hm : m ≤ maxLen) :
    Calls Try.prog 17 #[.slice a n c, .slice b n2 c2, .slice t m d] w (BigPost n n2 m w) := by
  unfold maxLen at hn hn2 hm
  by_cases h1 : n ≤ 1048576
  case neg =>
    go_enter Try.func17, Try.ntmps17
    go_wp2
    go_ret
    exact ⟨_, rfl, rfl, fun h => by cases h⟩
  by_cases h2 : n2 ≤ 1048576
  case neg =>
    go_enter Try.func17, Try.ntmps17
    go_wp2
    go_ret
    exact ⟨_, rfl, rfl, fun h => by cases h⟩
  by_cases h3 : m ≤ 1048576
  case neg =>
    go_enter Try.func17, Try.ntmps17
    go_wp2
    go_ret
    exact ⟨_, rfl, rfl, fun h => by cases h⟩
  go_enter Try.func17, Try.ntmps17
  go_wp2
  go_ret
  exact ⟨_, rfl, rfl, fun _ => ⟨h1, h2, h3⟩⟩

end Go.Proofs.Qxb6602606a
