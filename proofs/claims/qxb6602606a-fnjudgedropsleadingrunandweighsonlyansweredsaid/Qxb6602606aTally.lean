/- ZZMakeTally (19), ZZTallyPending (21), ZZTallyState (22). -/
import Derived.Test.Qxb6602606aSmall
namespace Go.Proofs.Qxb6602606a
open Go.RowKit
set_option linter.unusedVariables false
set_option linter.unusedSimpArgs false
attribute [local go_sem ↓] Go.wp_at_zero Go.wp_at_succ

theorem infoC : ∃ i, Try.prog.info? 65 = some i ∧ i.zero = some (Value.agg #[.int .u64 0, .int .i64 0, .int .i64 0]) ∧ i.size = 3 ∧ i.bytes = 24 := ⟨_, rfl, rfl, rfl, rfl⟩
theorem makeC (n : Nat) (hn : n ≤ 1048576) (w : World) : (Instr.makeSlice 63 (.int .i64 (n : Int)) (.int .i64 (n : Int))).run Try.prog w = .ok (.slice (some ⟨w.heap.size, 0, none⟩) n n) (w.alloc (.cells (madeCells #[.int .u64 0, .int .i64 0, .int .i64 0] (n * 3)) 65)) := by
  obtain ⟨i0, hi0, hz0, hzs, hzb⟩ := infoC
  have hr := run_make (P := Try.prog) w 63 65 i0 _ Try.underlying63 hi0 hz0 .i64 .i64 n n (by omega) (Int.le_refl _) (by rw [hzb]; omega) (by omega)
  simp only [Int.toNat_natCast, hzs] at hr
  exact hr

/-- What the cells of a row of counts hold. -/
def F3 (S Q R : Nat → Int) (c : Nat) : Value := if c % 3 = 0 then .int .u64 (S (c / 3)) else if c % 3 = 1 then .int .i64 (Q (c / 3)) else .int .i64 (R (c / 3))

/-- A tally's block. -/
def tObj (pend : Value) (after : Int) (u j : Nat) : Obj := .cells #[pend, .int .u64 after, .float .f64 u, .float .f64 j] 67 (0, 0)

/-- The slice of counts. -/
def RC (w : World) (a : Option Addr) (n c : Nat) (S Q R : Nat → Int) : Prop :=
  n ≤ c ∧ c ≤ maxLen ∧ (0 < n → ∃ b off, a = some ⟨b, off, none⟩ ∧ ∀ i, i < n → w.cell? ⟨b, off + i * 3, none⟩ = some (.int .u64 (S i)) ∧ w.cell? ⟨b, off + i * 3 + 1, none⟩ = some (.int .i64 (Q i)) ∧ w.cell? ⟨b, off + i * 3 + 2, none⟩ = some (.int .i64 (R i)))

/-- The tally that ZZMakeTally makes. -/
def MadePost (n : Nat) (S Q R : Nat → Int) (after : Int) (u j : Nat) (w : World) (e : Ending) (w' : World) : Prop :=
  ∃ p a c, e = .returned (.pointer (some ⟨p, 0, none⟩)) ∧ w.heap.size ≤ p ∧ w'.heap[p]? = some (tObj (.slice a n c) after u j) ∧ RC w' a n c S Q R ∧ (∀ x, a = some x → x.block ≠ p) ∧ Touch (fun _ => False) w w'

set_option maxHeartbeats 2000000 in
theorem make19_some (x y z : Option Addr) (xa : Addr) (hx : x = some xa) (n c c2 c3 : Nat) (S Q R : Nat → Int) (after : Int) (u jd : Nat) (w : World) (hS : RI .u64 w x n c S) (hQ : RI .i64 w y n c2 Q) (hR : RI .i64 w z n c3 R) (hn : n ≤ 1048576) :
    Calls Try.prog 19 #[.slice x n c, .slice y n c2, .slice z n c3, .int .u64 after, .float .f64 u, .float .f64 jd] w (MadePost n S Q R after u jd w) := by
  subst hx
  have hneq := fun w a n c => run_neq_slice_nil_any (P := Try.prog) w 24 22 a n c 0 0 Try.underlying24
  have hmk := makeC n hn w
  obtain ⟨h1, h2, h3⟩ := hS
  obtain ⟨g1, g2, g3⟩ := hQ
  obtain ⟨k1, k2, k3⟩ := hR
  unfold maxLen at h2 g2 k2
  have HC : Hid (0 < n → (∃ b off, some xa = some ⟨b, off, none⟩ ∧ ∀ i, i < n → w.cell? ⟨b, off + i, none⟩ = some (.int .u64 (S i))) ∧ (∃ b off, y = some ⟨b, off, none⟩ ∧ ∀ i, i < n → w.cell? ⟨b, off + i, none⟩ = some (.int .i64 (Q i))) ∧ (∃ b off, z = some ⟨b, off, none⟩ ∧ ∀ i, i < n → w.cell? ⟨b, off + i, none⟩ = some (.int .i64 (R i)))) := fun h => ⟨h3 h, g3 h, k3 h⟩
  obtain ⟨Z, hZ⟩ : ∃ Z, Z = w.alloc (.cells (madeCells #[.int .u64 0, .int .i64 0, .int .i64 0] (n * 3)) 65) := ⟨_, rfl⟩
  have HS : Hid (Part 65 Z w.heap.size (n * 3) (0 * 3) (F3 S Q R) ∧ Touch (fun _ => False) w Z) := by
    rw [hZ]; exact ⟨⟨_, heap_new w _, size_madeCells _ _, fun i hi => absurd hi (by omega)⟩, (Touch.refl _ _).alloc _⟩
  rw [← hZ] at hmk
  clear h3 g3 k3 hZ
  go_enter Try.func19, Try.ntmps19
  go_wp2
  go_loopw [14] (fun v wr => ∃ j : Nat, j ≤ n ∧ v = .int .i64 j ∧ Hid (Part 65 wr w.heap.size (n * 3) (j * 3) (F3 S Q R) ∧ Touch (fun _ => False) w wr)) (fun v _ => n - (intOf v).toNat)
  case atStart => exact ⟨0, by omega, rfl, HS⟩
  case round =>
    obtain ⟨j, hj, rfl, hP⟩ := hrel
    by_cases hlt : j < n
    · obtain ⟨⟨b1, o1, e1, c1⟩, ⟨b2, o2, rfl, c2⟩, ⟨b3, o3, rfl, c3⟩⟩ := HC.out (by omega)
      cases e1
      have d1 : wr.cell? ⟨b1, o1 + j, none⟩ = some (.int .u64 (S j)) := by
        rw [← c1 j hlt]; exact World.cell?_of_block (hP.out.2.block _ (World.block_lt_of_cell? w _ (c1 j hlt)) fun h => h)
      have d2 : wr.cell? ⟨b2, o2 + j, none⟩ = some (.int .i64 (Q j)) := by
        rw [← c2 j hlt]; exact World.cell?_of_block (hP.out.2.block _ (World.block_lt_of_cell? w _ (c2 j hlt)) fun h => h)
      have d3 : wr.cell? ⟨b3, o3 + j, none⟩ = some (.int .i64 (R j)) := by
        rw [← c3 j hlt]; exact World.cell?_of_block (hP.out.2.block _ (World.block_lt_of_cell? w _ (c3 j hlt)) fun h => h)
      obtain ⟨y0, y1, y2⟩ := hP.out.1.cell (j * 3) (by omega)
      obtain ⟨z0, z1, z2⟩ := hP.out.1.cell (j * 3 + 1) (by omega)
      obtain ⟨q0, q1, q2⟩ := hP.out.1.cell (j * 3 + 2) (by omega)
      have hjn : (j : Int) < (n : Int) := by omega
      have HN : Hid (Part 65 (((wr.setCell ⟨w.heap.size, j * 3, none⟩ (.int .u64 (S j))).setCell ⟨w.heap.size, j * 3 + 1, none⟩ (.int .i64 (Q j))).setCell ⟨w.heap.size, j * 3 + 2, none⟩ (.int .i64 (R j))) w.heap.size (n * 3) ((j + 1) * 3) (F3 S Q R) ∧ Touch (fun _ => False) w (((wr.setCell ⟨w.heap.size, j * 3, none⟩ (.int .u64 (S j))).setCell ⟨w.heap.size, j * 3 + 1, none⟩ (.int .i64 (Q j))).setCell ⟨w.heap.size, j * 3 + 2, none⟩ (.int .i64 (R j)))) := by
        obtain ⟨hp, ht⟩ := hP.out
        refine ⟨?_, ((ht.setCell _ (fun h => absurd h (Nat.lt_irrefl _)) _).setCell _ (fun h => absurd h (Nat.lt_irrefl _)) _).setCell _ (fun h => absurd h (Nat.lt_irrefl _)) _⟩
        have s1 := hp.put (by omega) (.int .u64 (S j)) (by unfold F3; rw [if_pos (by omega), show j * 3 / 3 = j by omega])
        have s2 := s1.put (by omega) (.int .i64 (Q j)) (by unfold F3; rw [if_neg (by omega), if_pos (by omega), show (j * 3 + 1) / 3 = j by omega])
        have s3 := s2.put (by omega) (.int .i64 (R j)) (by unfold F3; rw [if_neg (by omega), if_neg (by omega), show (j * 3 + 1 + 1) / 3 = j by omega])
        rw [show (j + 1) * 3 = j * 3 + 1 + 1 + 1 by omega]
        exact s3
      clear c1 c2 c3 hP
      go_wp2
      go_region
      all_goals
        go_wp2
        go_roundw
        case rel => exact ⟨j + 1, by omega, by go_num, HN.out.1, HN.out.2.drew⟩
        case measure => simp [intOf]; omega
    · obtain rfl : j = n := by omega
      go_wp2
      go_ret
      obtain ⟨⟨cur, h1, h2, h3⟩, ht⟩ := hP.out
      have hlt : w.heap.size < wr.heap.size := by
        rcases Nat.lt_or_ge w.heap.size wr.heap.size with h | h
        · exact h
        · rw [Array.getElem?_eq_none h] at h1; cases h1
      refine ⟨wr.heap.size, some ⟨w.heap.size, 0, none⟩, j, rfl, by omega, heap_new wr _, ⟨Nat.le_refl _, by unfold maxLen; omega, fun _ => ⟨w.heap.size, 0, rfl, fun i hi => ?_⟩⟩, fun x hx => ?_, ht.alloc _⟩
      · have hc : ∀ q, (wr.alloc (.cells #[.slice (some ⟨w.heap.size, 0, none⟩) j j, .int .u64 after, .float .f64 u, .float .f64 jd] 67)).cell? ⟨w.heap.size, q, none⟩ = cur[q]? := fun q => by
          rw [← cell_of_row wr w.heap.size q cur 65 (0, 0) h1]
          exact World.cell?_of_block (Below.heap_alloc wr _ _ hlt)
        rw [hc, hc, hc, h3 _ (by omega), h3 _ (by omega), h3 _ (by omega)]
        unfold F3
        rw [if_pos (by omega), if_neg (by omega), if_pos (by omega), if_neg (by omega), if_neg (by omega), show (0 + i * 3) / 3 = i by omega, show (0 + i * 3 + 1) / 3 = i by omega, show (0 + i * 3 + 2) / 3 = i by omega]
        exact ⟨rfl, rfl, rfl⟩
      · cases hx; show w.heap.size ≠ _; omega

theorem make19_nil (y z : Option Addr) (n c c2 c3 : Nat) (S Q R : Nat → Int) (after : Int) (u jd : Nat) (w : World) (hn : n = 0) (hc : c = 0) :
    Calls Try.prog 19 #[.slice none n c, .slice y n c2, .slice z n c3, .int .u64 after, .float .f64 u, .float .f64 jd] w (MadePost n S Q R after u jd w) := by
  subst hn hc
  have hneq := fun w a n c => run_neq_slice_nil_any (P := Try.prog) w 24 22 a n c 0 0 Try.underlying24
  go_enter Try.func19, Try.ntmps19
  go_wp2
  go_ret
  exact ⟨w.heap.size, none, 0, rfl, Nat.le_refl _, heap_new w _, ⟨Nat.le_refl _, Nat.zero_le _, fun h => absurd h (Nat.lt_irrefl _)⟩, fun x hx => (by cases hx), (Touch.refl _ _).alloc _⟩

theorem make19 (x y z : Option Addr) (n c c2 c3 : Nat) (S Q R : Nat → Int) (after : Int) (u jd : Nat) (w : World) (hS : RI .u64 w x n c S) (hQ : RI .i64 w y n c2 Q) (hR : RI .i64 w z n c3 R) (h0 : x = none → n = 0 ∧ c = 0) (hn : n ≤ 1048576) :
    Calls Try.prog 19 #[.slice x n c, .slice y n c2, .slice z n c3, .int .u64 after, .float .f64 u, .float .f64 jd] w (MadePost n S Q R after u jd w) := by
  cases x with
  | none => exact make19_nil y z n c c2 c3 S Q R after u jd w (h0 rfl).1 (h0 rfl).2
  | some xa => exact make19_some (some xa) y z xa rfl n c c2 c3 S Q R after u jd w hS hQ hR hn

theorem tObj_cell {w : World} {p : Nat} {pend : Value} {after : Int} {u j : Nat} (h : w.heap[p]? = some (tObj pend after u j)) :
    w.cell? ⟨p, 0, none⟩ = some pend ∧ w.cell? ⟨p, 1, none⟩ = some (.int .u64 after) ∧ w.cell? ⟨p, 2, none⟩ = some (.float .f64 u) ∧ w.cell? ⟨p, 3, none⟩ = some (.float .f64 j) ∧ ∀ o, w.frozen? ⟨p, o, none⟩ = false := by
  refine ⟨?_, ?_, ?_, ?_, fun o => ?_⟩
  · simp [World.cell?, h, tObj]
  · simp [World.cell?, h, tObj]
  · simp [World.cell?, h, tObj]
  · simp [World.cell?, h, tObj]
  · simp [World.frozen?, h, tObj]

def StatePost (after : Int) (u j : Nat) (w : World) (e : Ending) (w' : World) : Prop := e = .returned (.tuple #[.int .u64 after, .float .f64 u, .float .f64 j]) ∧ Mem w w'

theorem state22 (p : Nat) (pend : Value) (after : Int) (u j : Nat) (w : World) (h : w.heap[p]? = some (tObj pend after u j)) :
    Calls Try.prog 22 #[.pointer (some ⟨p, 0, none⟩)] w (StatePost after u j w) := by
  obtain ⟨k0, k1, k2, k3, -⟩ := tObj_cell h
  clear h
  go_enter Try.func22, Try.ntmps22
  go_wp2
  go_quiet (fail)
  go_wp2
  refine bodyPost_ret (v := .tuple #[.int .u64 after, .float .f64 u, .float .f64 j]) (by simp [results, Try.results22, go_sem]) rfl ?_
  exact ⟨rfl, ⟨rfl, rfl, rfl, rfl⟩⟩

/-- The three fresh slices. -/
def PendPost (n : Nat) (S Q R : Nat → Int) (w : World) (e : Ending) (w' : World) : Prop :=
  ∃ a1 c1 a2 c2 a3 c3, e = .returned (.tuple #[.slice a1 n c1, .slice a2 n c2, .slice a3 n c3]) ∧ RI .u64 w' a1 n c1 S ∧ RI .i64 w' a2 n c2 Q ∧ RI .i64 w' a3 n c3 R ∧ Touch (fun _ => False) w w'

set_option maxHeartbeats 2000000 in
theorem pend21 (p : Nat) (a : Option Addr) (n c : Nat) (S Q R : Nat → Int) (after : Int) (u jd : Nat) (w : World) (h : w.heap[p]? = some (tObj (.slice a n c) after u jd)) (hR : RC w a n c S Q R) (hn : n ≤ 1048576) :
    Calls Try.prog 21 #[.pointer (some ⟨p, 0, none⟩)] w (PendPost n S Q R w) := by
  obtain ⟨k0, -, -, -, -⟩ := tObj_cell h
  have hp : p < w.heap.size := World.block_lt_of_cell? w _ k0
  obtain ⟨h1, h2, h3⟩ := hR
  unfold maxLen at h2
  have HC : Hid (0 < n → ∃ b off, a = some ⟨b, off, none⟩ ∧ ∀ i, i < n → w.cell? ⟨b, off + i * 3, none⟩ = some (.int .u64 (S i)) ∧ w.cell? ⟨b, off + i * 3 + 1, none⟩ = some (.int .i64 (Q i)) ∧ w.cell? ⟨b, off + i * 3 + 2, none⟩ = some (.int .i64 (R i))) := h3
  have m1 := makeU n hn w
  have m2 := makeI n hn (w.alloc (.cells (madeCells #[.int .u64 0] n) 22))
  have m3 := makeI n hn ((w.alloc (.cells (madeCells #[.int .u64 0] n) 22)).alloc (.cells (madeCells #[.int .i64 0] n) 3))
  have q1 : (w.alloc (.cells (madeCells #[.int .u64 0] n) 22)).cell? ⟨p, 0, none⟩ = some (.slice a n c) := by rw [← k0]; exact World.cell?_of_block (Below.heap_alloc w _ _ hp)
  have q2 : ((w.alloc (.cells (madeCells #[.int .u64 0] n) 22)).alloc (.cells (madeCells #[.int .i64 0] n) 3)).cell? ⟨p, 0, none⟩ = some (.slice a n c) := by
    rw [← q1]; exact World.cell?_of_block (Below.heap_alloc _ _ _ (by simp; omega))
  obtain ⟨Z, hZ⟩ : ∃ Z, Z = ((w.alloc (.cells (madeCells #[.int .u64 0] n) 22)).alloc (.cells (madeCells #[.int .i64 0] n) 3)).alloc (.cells (madeCells #[.int .i64 0] n) 3) := ⟨_, rfl⟩
  have HS : Hid (Part 22 Z w.heap.size n 0 (fun i => .int .u64 (S i)) ∧ Part 3 Z (w.heap.size + 1) n 0 (fun i => .int .i64 (Q i)) ∧ Part 3 Z (w.heap.size + 1 + 1) n 0 (fun i => .int .i64 (R i)) ∧ Touch (fun _ => False) w Z) := by
    rw [hZ]
    refine ⟨?_, ?_, ?_, (((Touch.refl _ _).alloc _).alloc _).alloc _⟩
    · refine Part.same (w := w.alloc (.cells (madeCells #[.int .u64 0] n) 22)) Part.made ?_
      rw [Below.heap_alloc _ _ _ (by simp; omega), Below.heap_alloc _ _ _ (by simp)]
    · refine Part.same (w := (w.alloc (.cells (madeCells #[.int .u64 0] n) 22)).alloc (.cells (madeCells #[.int .i64 0] n) 3)) ?_ (by rw [Below.heap_alloc _ _ _ (by simp)])
      have := @Part.made 3 (w.alloc (.cells (madeCells #[.int .u64 0] n) 22)) n (.int .i64 0) (fun i => .int .i64 (Q i))
      simpa using this
    · have := @Part.made 3 ((w.alloc (.cells (madeCells #[.int .u64 0] n) 22)).alloc (.cells (madeCells #[.int .i64 0] n) 3)) n (.int .i64 0) (fun i => .int .i64 (R i))
      simpa using this
  have HZ : Hid (Z = ((w.alloc (.cells (madeCells #[.int .u64 0] n) 22)).alloc (.cells (madeCells #[.int .i64 0] n) 3)).alloc (.cells (madeCells #[.int .i64 0] n) 3)) := hZ
  have K0 : Hid (w.cell? ⟨p, 0, none⟩ = some (.slice a n c)) := k0
  clear h3 hZ h
  go_enter Try.func21, Try.ntmps21
  go_wp2
  rw [← HZ.out]
  clear m1 m2 m3 q1 q2 k0
  go_loopw [5] (fun v wr => ∃ j : Nat, j ≤ n ∧ v = .int .i64 j ∧ Hid (Part 22 wr w.heap.size n j (fun i => .int .u64 (S i)) ∧ Part 3 wr (w.heap.size + 1) n j (fun i => .int .i64 (Q i)) ∧ Part 3 wr (w.heap.size + 1 + 1) n j (fun i => .int .i64 (R i)) ∧ Touch (fun _ => False) w wr)) (fun v _ => n - (intOf v).toNat)
  case atStart => exact ⟨0, by omega, rfl, HS⟩
  case round =>
    obtain ⟨j, hj, rfl, hP⟩ := hrel
    have hkp : wr.cell? ⟨p, 0, none⟩ = some (.slice a n c) := by
      rw [← K0.out]; exact World.cell?_of_block (hP.out.2.2.2.block _ hp fun h => h)
    have hpn : p ≠ w.heap.size := by omega
    have hpn1 : p ≠ w.heap.size + 1 := by omega
    have hpn2 : p ≠ w.heap.size + 1 + 1 := by omega
    have hne1 : w.heap.size ≠ w.heap.size + 1 := by omega
    have hne2 : w.heap.size ≠ w.heap.size + 1 + 1 := by omega
    have hne3 : w.heap.size + 1 ≠ w.heap.size + 1 + 1 := by omega
    by_cases hlt : j < n
    · obtain ⟨b, off, rfl, hc⟩ := HC.out (by omega)
      obtain ⟨e1, e2, e3⟩ := hc j hlt
      have hb : b < w.heap.size := World.block_lt_of_cell? w _ e1
      have hw : ∀ o, wr.cell? ⟨b, o, none⟩ = w.cell? ⟨b, o, none⟩ := fun o => World.cell?_of_block (hP.out.2.2.2.block _ hb fun h => h)
      have d1 := (hw (off + j * 3)).trans e1
      have d2 := (hw (off + j * 3 + 1)).trans e2
      have d3 := (hw (off + j * 3 + 2)).trans e3
      have hb0 : b ≠ w.heap.size := by omega
      have hb1 : b ≠ w.heap.size + 1 := by omega
      have hb2 : b ≠ w.heap.size + 1 + 1 := by omega
      obtain ⟨x0, x1, x2⟩ := hP.out.1.cell j hlt
      obtain ⟨y0, y1, y2⟩ := hP.out.2.1.cell j hlt
      obtain ⟨z0, z1, z2⟩ := hP.out.2.2.1.cell j hlt
      have hjn : (j : Int) < (n : Int) := by omega
      have HN : Hid (Part 22 (((wr.setCell ⟨w.heap.size, j, none⟩ (.int .u64 (S j))).setCell ⟨w.heap.size + 1, j, none⟩ (.int .i64 (Q j))).setCell ⟨w.heap.size + 1 + 1, j, none⟩ (.int .i64 (R j))) w.heap.size n (j + 1) (fun i => .int .u64 (S i)) ∧
          Part 3 (((wr.setCell ⟨w.heap.size, j, none⟩ (.int .u64 (S j))).setCell ⟨w.heap.size + 1, j, none⟩ (.int .i64 (Q j))).setCell ⟨w.heap.size + 1 + 1, j, none⟩ (.int .i64 (R j))) (w.heap.size + 1) n (j + 1) (fun i => .int .i64 (Q i)) ∧
          Part 3 (((wr.setCell ⟨w.heap.size, j, none⟩ (.int .u64 (S j))).setCell ⟨w.heap.size + 1, j, none⟩ (.int .i64 (Q j))).setCell ⟨w.heap.size + 1 + 1, j, none⟩ (.int .i64 (R j))) (w.heap.size + 1 + 1) n (j + 1) (fun i => .int .i64 (R i)) ∧
          Touch (fun _ => False) w (((wr.setCell ⟨w.heap.size, j, none⟩ (.int .u64 (S j))).setCell ⟨w.heap.size + 1, j, none⟩ (.int .i64 (Q j))).setCell ⟨w.heap.size + 1 + 1, j, none⟩ (.int .i64 (R j)))) := by
        obtain ⟨p1, p2, p3, pt⟩ := hP.out
        refine ⟨?_, ?_, ?_, ((pt.setCell _ (fun h => absurd h (Nat.lt_irrefl _)) _).setCell _ (fun h => absurd h (by show ¬ w.heap.size + 1 < w.heap.size; omega)) _).setCell _ (fun h => absurd h (by show ¬ w.heap.size + 1 + 1 < w.heap.size; omega)) _⟩
        · refine Part.same (p1.put hlt (.int .u64 (S j)) rfl) ?_
          rw [Below.heap_setCell _ _ _ _ hne2, Below.heap_setCell _ _ _ _ hne1]
        · refine Part.same (Part.put (Part.same p2 (w' := wr.setCell ⟨w.heap.size, j, none⟩ (.int .u64 (S j))) (by rw [Below.heap_setCell _ _ _ _ (Ne.symm hne1)])) hlt (.int .i64 (Q j)) rfl) ?_
          rw [Below.heap_setCell _ _ _ _ hne3]
        · refine Part.put (Part.same p3 ?_) hlt (.int .i64 (R j)) rfl
          rw [Below.heap_setCell _ _ _ _ (Ne.symm hne3), Below.heap_setCell _ _ _ _ (Ne.symm hne2)]
      clear hc hP hw e1 e2 e3
      go_wp2
      go_roundw
      case rel => exact ⟨j + 1, by omega, by go_num, HN⟩
      case measure => simp [intOf]; omega
    · obtain rfl : j = n := by omega
      go_wp2
      refine bodyPost_ret (v := .tuple #[.slice (some ⟨w.heap.size, 0, none⟩) j j, .slice (some ⟨w.heap.size + 1, 0, none⟩) j j, .slice (some ⟨w.heap.size + 1 + 1, 0, none⟩) j j]) (by simp [results, Try.results21, go_sem]) rfl ?_
      obtain ⟨p1, p2, p3, pt⟩ := hP.out
      exact ⟨_, _, _, _, _, _, rfl, p1.whole hn, p2.whole hn, p3.whole hn, pt⟩

end Go.Proofs.Qxb6602606a
