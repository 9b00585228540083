/- judge (28), ZZJudge (20). -/
import Derived.Test.Qxb6602606aFlt
namespace Go.Proofs.Qxb6602606a
open Go.RowKit
set_option linter.unusedVariables false
set_option linter.unusedSimpArgs false
attribute [local go_sem ↓] Go.wp_at_zero Go.wp_at_succ

theorem run_store_float (P : Program) (w : World) (a : Addr) (m : Mode) (k : FloatKind) (n : Nat) : (store a (.float k n) m).run P w = stored P w a (.float k n) m := run_store P w a _ m rfl
attribute [local go_sem] run_store_float

def MulR (x y m : Nat) : Prop := FloatKind.f64.format.mul x y = some m ∨ (FloatKind.f64.format.mul x y = none ∧ NaN m)
def AddR (x y m : Nat) : Prop := FloatKind.f64.format.add x y = some m ∨ (FloatKind.f64.format.add x y = none ∧ NaN m)

/-- One weighing: x times the decay, plus z. -/
def FStep (x z x1 : Nat) : Prop := ∃ m, MulR x 4607112050055839744 m ∧ AddR m z x1

theorem FStep.same {x y z x1 y1 : Nat} (h : SameF x y) (h1 : FStep x z x1) (h2 : FStep y z y1) : SameF x1 y1 := by
  obtain ⟨m, a1, a2⟩ := h1
  obtain ⟨k, b1, b2⟩ := h2
  have hmk : SameF m k := by
    rcases h with ⟨hx, hy⟩ | rfl
    · rcases a1 with a1 | ⟨_, a1⟩
      · rw [mul_nan hx] at a1; cases a1
      · rcases b1 with b1 | ⟨_, b1⟩
        · rw [mul_nan hy] at b1; cases b1
        · exact .inl ⟨a1, b1⟩
    · rcases a1 with a1 | ⟨a0, a1⟩
      · rcases b1 with b1 | ⟨b0, _⟩
        · rw [a1] at b1; exact .inr (Option.some.inj b1)
        · rw [a1] at b0; cases b0
      · rcases b1 with b1 | ⟨_, b1⟩
        · rw [a0] at b1; cases b1
        · exact .inl ⟨a1, b1⟩
  rcases hmk with ⟨hm, hk⟩ | rfl
  · rcases a2 with a2 | ⟨_, a2⟩
    · rw [add_nan hm] at a2; cases a2
    · rcases b2 with b2 | ⟨_, b2⟩
      · rw [add_nan hk] at b2; cases b2
      · exact .inl ⟨a2, b2⟩
  · rcases a2 with a2 | ⟨a0, a2⟩
    · rcases b2 with b2 | ⟨b0, _⟩
      · rw [a2] at b2; exact .inr (Option.some.inj b2)
      · rw [a2] at b0; cases b0
    · rcases b2 with b2 | ⟨_, b2⟩
      · rw [a0] at b2; cases b2
      · exact .inl ⟨a2, b2⟩

/-- Weighings one after the other. -/
def Reach : List Nat → Nat → Nat → Prop
  | [], x, x' => x' = x
  | z :: zs, x, x' => ∃ x1, FStep x z x1 ∧ Reach zs x1 x'

theorem Reach.same : ∀ {zs : List Nat} {x y x' y' : Nat}, SameF x y → Reach zs x x' → Reach zs y y' → SameF x' y'
  | [], _, _, _, _, h, h1, h2 => by rw [show _ = _ from h1, show _ = _ from h2]; exact h
  | _ :: _, _, _, _, _, h, ⟨_, a1, a2⟩, ⟨_, b1, b2⟩ => Reach.same (FStep.same h a1 b1) a2 b2

theorem Reach.snoc : ∀ {zs : List Nat} {x x1 x2 z : Nat}, Reach zs x x1 → FStep x1 z x2 → Reach (zs ++ [z]) x x2
  | [], _, _, _, _, h, h1 => by
    cases (show _ = _ from h)
    exact ⟨_, h1, rfl⟩
  | _ :: _, _, _, _, _, ⟨y, a1, a2⟩, h1 => ⟨y, a1, Reach.snoc a2 h1⟩

/-- What count i adds to the unanswered, and to the judged. -/
def zU (Q R : Nat → Int) (i : Nat) : Nat := floatOfInt .f64 (if 0 < wrap64 (Q i - R i) then wrap64 (Q i - R i) else 0)
def zJ (Q : Nat → Int) (i : Nat) : Nat := floatOfInt .f64 (Q i)

/-- The weights of the counts before after, among the first d. -/
def wIdx (S : Nat → Int) (after : Int) (d : Nat) : List Nat := (List.range d).filter (fun i => decide (S i < after))

theorem wIdx_succ (S : Nat → Int) (after : Int) (d : Nat) : wIdx S after (d + 1) = wIdx S after d ++ (if S d < after then [d] else []) := by
  unfold wIdx
  rw [List.range_succ, List.filter_append]
  by_cases h : S d < after <;> simp [h]

/-- What judge leaves of its tally. -/
structure Judged (p n : Nat) (S Q R : Nat → Int) (after before : Int) (u jd : Nat) (w : World) (d : Nat) (a' : Option Addr) (c' u' j' : Nat) (w' : World) : Prop where
  le : d ≤ n
  all : ∀ i, i < d → S i < before
  stop : d < n → ¬ S d < before
  obj : w'.heap[p]? = some (tObj (.slice a' (n - d) c') after u' j')
  rows : RC w' a' (n - d) c' (fun i => S (d + i)) (fun i => Q (d + i)) (fun i => R (d + i))
  apart : ∀ x, a' = some x → x.block ≠ p
  un : Reach ((wIdx S after d).map (zU Q R)) u u'
  ju : Reach ((wIdx S after d).map (zJ Q)) jd j'
  touch : Touch (· = p) w w'

def JudgePost (p n : Nat) (S Q R : Nat → Int) (after before : Int) (u jd : Nat) (w : World) (e : Ending) (w' : World) : Prop :=
  ∃ d a' c' u' j', e = .returned (.tuple #[]) ∧ Judged p n S Q R after before u jd w d a' c' u' j' w'

/-- The loop's state. -/
structure JR (p n : Nat) (a : Option Addr) (c : Nat) (S Q R : Nat → Int) (after before : Int) (u jd : Nat) (w : World) (d u1 j1 : Nat) (wr : World) : Prop where
  obj : wr.heap[p]? = some (tObj (.slice a n c) after u1 j1)
  touch : Touch (· = p) w wr
  all : ∀ i, i < d → S i < before
  un : Reach ((wIdx S after d).map (zU Q R)) u u1
  ju : Reach ((wIdx S after d).map (zJ Q)) jd j1

theorem tObj_set2 {w : World} {p : Nat} {pend : Value} {after : Int} {u j v : Nat} (h : w.heap[p]? = some (tObj pend after u j)) : (w.setCell ⟨p, 2, none⟩ (.float .f64 v)).heap[p]? = some (tObj pend after v j) := by
  rw [setCell_eq_setRow w p 2 _ 67 (0, 0) _ h, setRow_heap w p _ _ 67 (0, 0) h]
  rfl
theorem tObj_set3 {w : World} {p : Nat} {pend : Value} {after : Int} {u j v : Nat} (h : w.heap[p]? = some (tObj pend after u j)) : (w.setCell ⟨p, 3, none⟩ (.float .f64 v)).heap[p]? = some (tObj pend after u v) := by
  rw [setCell_eq_setRow w p 3 _ 67 (0, 0) _ h, setRow_heap w p _ _ 67 (0, 0) h]
  rfl
theorem tObj_set0 {w : World} {p : Nat} {pend v : Value} {after : Int} {u j : Nat} (h : w.heap[p]? = some (tObj pend after u j)) : (w.setCell ⟨p, 0, none⟩ v).heap[p]? = some (tObj v after u j) := by
  rw [setCell_eq_setRow w p 0 _ 67 (0, 0) _ h, setRow_heap w p _ _ 67 (0, 0) h]
  rfl

set_option maxHeartbeats 4000000 in
theorem judge28 (p : Nat) (a : Option Addr) (n c : Nat) (S Q R : Nat → Int) (after before : Int) (u jd : Nat) (w : World) (h : w.heap[p]? = some (tObj (.slice a n c) after u jd)) (hR : RC w a n c S Q R) (hap : ∀ x, a = some x → x.block ≠ p) :
    Calls Try.prog 28 #[.pointer (some ⟨p, 0, none⟩), .int .u64 before] w (JudgePost p n S Q R after before u jd w) := by
  have hp : p < w.heap.size := World.block_lt_of_cell? w _ (tObj_cell h).1
  obtain ⟨h1, h2, h3⟩ := hR
  unfold maxLen at h2
  have HC : Hid (0 < n → ∃ b off, a = some ⟨b, off, none⟩ ∧ ∀ i, i < n → w.cell? ⟨b, off + i * 3, none⟩ = some (.int .u64 (S i)) ∧ w.cell? ⟨b, off + i * 3 + 1, none⟩ = some (.int .i64 (Q i)) ∧ w.cell? ⟨b, off + i * 3 + 2, none⟩ = some (.int .i64 (R i))) := h3
  have HP : Hid (w.heap[p]? = some (tObj (.slice a n c) after u jd) ∧ ∀ x, a = some x → x.block ≠ p) := ⟨h, hap⟩
  clear h3 h hap
  go_enter Try.func28, Try.ntmps28
  go_wp2
  go_loopw [4] (fun v wr => ∃ d u1 j1 : Nat, d ≤ n ∧ v = .int .i64 d ∧ Hid (JR p n a c S Q R after before u jd w d u1 j1 wr)) (fun v _ => n - (intOf v).toNat)
  case atStart => exact ⟨0, u, jd, by omega, rfl, HP.out.1, Touch.refl _ _, fun i hi => absurd hi (Nat.not_lt_zero _), rfl, rfl⟩
  case round =>
    obtain ⟨d, u1, j1, hd, rfl, hI⟩ := hrel
    obtain ⟨k0, k1, k2, k3, kf⟩ := tObj_cell hI.out.obj
    have kf0 := kf 0
    have kf2 := kf 2
    have kf3 := kf 3
    clear kf
    by_cases hlt : d < n
    · obtain ⟨b, off, rfl, hc⟩ := HC.out (by omega)
      have hbp : b ≠ p := HP.out.2 _ rfl
      obtain ⟨e1, e2, e3⟩ := hc d hlt
      have hb : b < w.heap.size := World.block_lt_of_cell? w _ e1
      have hw : ∀ o, wr.cell? ⟨b, o, none⟩ = w.cell? ⟨b, o, none⟩ := fun o => World.cell?_of_block (hI.out.touch.block _ hb fun h => hbp h)
      have d1 := (hw (off + d * 3)).trans e1
      have d2 := (hw (off + d * 3 + 1)).trans e2
      have d3 := (hw (off + d * 3 + 2)).trans e3
      have hdn : (d : Int) < (n : Int) := by omega
      clear hc hw e1 e2 e3
      by_cases hbf : S d < before
      · by_cases haf : S d < after
        · have hps : p < wr.heap.size := Nat.lt_of_lt_of_le hp hI.out.touch.size
          have l1 : ∀ o, (wr.alloc (.cells #[.int .u64 (S d), .int .i64 (Q d), .int .i64 (R d)] 65)).cell? ⟨p, o, none⟩ = wr.cell? ⟨p, o, none⟩ := fun o => World.cell?_of_block (Below.heap_alloc wr _ _ hps)
          have q1 := (l1 1).trans k1
          clear l1
          go_wp2
          go_quiet (fail)
          go_wp2
          obtain ⟨W1, hW1⟩ : ∃ W1, W1 = (wr.alloc (.cells #[.int .u64 (S d), .int .i64 (Q d), .int .i64 (R d)] 65)).drewN nq := ⟨_, rfl⟩
          have hq : W1.heap[wr.heap.size]? = some (.cells #[.int .u64 (S d), .int .i64 (Q d), .int .i64 (R d)] 65 (0, 0)) := by rw [hW1]; exact heap_new wr _
          have hpW : W1.heap[p]? = some (tObj (.slice (some ⟨b, off, none⟩) n c) after u1 j1) := by
            rw [hW1]; show (wr.alloc _).heap[p]? = _; rw [Below.heap_alloc wr _ _ hps]; exact hI.out.obj
          have hTW : Touch (· = p) w W1 := by
            rw [hW1]; have h0 := hI.out.touch.alloc (.cells #[.int .u64 (S d), .int .i64 (Q d), .int .i64 (R d)] 65); exact ⟨h0.os, h0.tape, h0.output, h0.size, h0.block⟩
          rw [← hW1]
          obtain ⟨q, hqq⟩ : ∃ q, q = wr.heap.size := ⟨_, rfl⟩
          rw [← hqq] at hq ⊢
          have hpq : p ≠ q := by omega
          have hqp : q ≠ p := by omega
          have HI : Hid ((∀ i, i < d + 1 → S i < before) ∧ Reach ((wIdx S after d).map (zU Q R)) u u1 ∧ Reach ((wIdx S after d).map (zJ Q)) jd j1 ∧ S d < after) := ⟨fun i hi => (Nat.lt_or_eq_of_le (Nat.le_of_lt_succ hi)).elim (hI.out.all i) (fun e => e ▸ hbf), hI.out.un, hI.out.ju, haf⟩
          clear hW1 q1 k0 k1 k2 k3 kf0 kf2 kf3 hI hqq hps
          obtain ⟨k0, k1, k2, k3, kf⟩ := tObj_cell hpW
          have kf2 := kf 2
          have c1 : W1.cell? ⟨q, 1, none⟩ = some (.int .i64 (Q d)) := by simp [World.cell?, hq]
          have c2 : W1.cell? ⟨q, 2, none⟩ = some (.int .i64 (R d)) := by simp [World.cell?, hq]
          have HW : Hid (W1.heap[p]? = some (tObj (.slice (some ⟨b, off, none⟩) n c) after u1 j1) ∧ W1.heap[q]? = some (.cells #[.int .u64 (S d), .int .i64 (Q d), .int .i64 (R d)] 65 (0, 0)) ∧ Touch (· = p) w W1) := ⟨hpW, hq, hTW⟩
          clear hq hpW hTW kf d1 d2 d3
          go_cut [] from 6 to 68 (fun wc => Hid (∃ u2 : Nat, FStep u1 (zU Q R d) u2 ∧ wc.heap[p]? = some (tObj (.slice (some ⟨b, off, none⟩) n c) after u2 j1) ∧ wc.heap[q]? = some (.cells #[.int .u64 (S d), .int .i64 (Q d), .int .i64 (R d)] 65 (0, 0)) ∧ Touch (· = p) w wc))
          case first =>
            have HS : Hid (∀ u2 wc, FStep u1 (zU Q R d) u2 → Mem (W1.setCell ⟨p, 2, none⟩ (.float .f64 u2)) wc → ∃ u2 : Nat, FStep u1 (zU Q R d) u2 ∧ wc.heap[p]? = some (tObj (.slice (some ⟨b, off, none⟩) n c) after u2 j1) ∧ wc.heap[q]? = some (.cells #[.int .u64 (S d), .int .i64 (Q d), .int .i64 (R d)] 65 (0, 0)) ∧ Touch (· = p) w wc) := fun u2 wc hs hm => by
              refine ⟨u2, hs, by rw [hm.heap]; exact tObj_set2 HW.out.1, by rw [hm.heap, Below.heap_setCell _ _ _ _ hqp]; exact HW.out.2.1, Mem.touch (Touch.setCell (S := (· = p)) HW.out.2.2 _ (fun _ => rfl) _) hm⟩
            cases hm : FloatKind.f64.format.mul u1 4607112050055839744 with
            | none =>
              have L1 := run_mul_none Try.prog 39 u1 4607112050055839744 hm
              have L2 := fun w1 w => run_add_none Try.prog 39 (NB u1 4607112050055839744 w1) (floatOfInt .f64 (if 0 < wrap64 (Q d - R d) then wrap64 (Q d - R d) else 0)) (add_nan (NB_nan _ _ _) _) w
              have HM : Hid (FloatKind.f64.format.mul u1 4607112050055839744 = none) := hm
              clear hm
              go_region
              all_goals
                go_wp2
                all_goals
                  go_meet
                  case rel => exact HS.out _ _ ⟨NB u1 4607112050055839744 W1, .inr ⟨HM.out, NB_nan _ _ _⟩, .inr ⟨add_nan (NB_nan _ _ _) _, NB_nan _ _ _⟩⟩ ⟨rfl, rfl, rfl, rfl⟩
            | some m =>
              have L1 := fun w => run_float_arith (P := Try.prog) w .mul 39 .f64 u1 4607112050055839744 m hm
              have HM : Hid (FloatKind.f64.format.mul u1 4607112050055839744 = some m) := hm
              clear hm
              cases ha : FloatKind.f64.format.add m (zU Q R d) with
              | none =>
                have L2 := run_add_none Try.prog 39 m (floatOfInt .f64 (if 0 < wrap64 (Q d - R d) then wrap64 (Q d - R d) else 0)) ha
                have HA : Hid (FloatKind.f64.format.add m (zU Q R d) = none) := ha
                clear ha
                go_region
                all_goals
                  go_wp2
                  all_goals
                    go_meet
                    case rel => exact HS.out _ _ ⟨_, .inl HM.out, .inr ⟨HA.out, NB_nan _ _ _⟩⟩ ⟨rfl, rfl, rfl, rfl⟩
              | some r =>
                have L2 := fun w => run_float_arith (P := Try.prog) w .add 39 .f64 m (floatOfInt .f64 (if 0 < wrap64 (Q d - R d) then wrap64 (Q d - R d) else 0)) r ha
                have HA : Hid (FloatKind.f64.format.add m (zU Q R d) = some r) := ha
                clear ha
                go_region
                all_goals
                  go_wp2
                  all_goals
                    go_meet
                    case rel => exact HS.out _ _ ⟨_, .inl HM.out, .inl HA.out⟩ ⟨rfl, rfl, rfl, rfl⟩
          case rest =>
            obtain ⟨W2, hW2⟩ : ∃ W2 : World, W2 = wc := ⟨_, rfl⟩
            rw [← hW2] at hcut ⊢
            obtain ⟨u2, hst, hpW, hq, hTW⟩ := hcut.out
            clear hW2 hcut k0 k1 k2 k3 kf2 c1 c2 HW
            obtain ⟨k0, k1, k2, k3, kf⟩ := tObj_cell hpW
            have kf3 := kf 3
            have c1 : W2.cell? ⟨q, 1, none⟩ = some (.int .i64 (Q d)) := by simp [World.cell?, hq]
            have HS : Hid (∀ j2 wc, FStep j1 (zJ Q d) j2 → Mem (W2.setCell ⟨p, 3, none⟩ (.float .f64 j2)) wc → JR p n (some ⟨b, off, none⟩) c S Q R after before u jd w (d + 1) u2 j2 wc) := fun j2 wc hs hm => by
              obtain ⟨i1, i2, i3, i4⟩ := HI.out
              refine ⟨by rw [hm.heap]; exact tObj_set3 hpW, Mem.touch (Touch.setCell (S := (· = p)) hTW _ (fun _ => rfl) _) hm, i1, ?_, ?_⟩
              · rw [wIdx_succ, if_pos i4, List.map_append]; exact i2.snoc hst
              · rw [wIdx_succ, if_pos i4, List.map_append]; exact i3.snoc hs
            clear hq hpW hTW kf hst
            cases hm : FloatKind.f64.format.mul j1 4607112050055839744 with
            | none =>
              have L1 := run_mul_none Try.prog 39 j1 4607112050055839744 hm
              have L2 := fun w1 w => run_add_none Try.prog 39 (NB j1 4607112050055839744 w1) (floatOfInt .f64 (Q d)) (add_nan (NB_nan _ _ _) _) w
              have HM : Hid (FloatKind.f64.format.mul j1 4607112050055839744 = none) := hm
              clear hm
              go_wp2
              go_region
              all_goals
                go_wp2
                go_roundw
                case rel => exact ⟨d + 1, u2, _, by omega, by go_num, HS.out _ _ ⟨NB j1 4607112050055839744 W2, .inr ⟨HM.out, NB_nan _ _ _⟩, .inr ⟨add_nan (NB_nan _ _ _) _, NB_nan _ _ _⟩⟩ ⟨rfl, rfl, rfl, rfl⟩⟩
                case measure => simp [intOf]; omega
            | some m =>
              have L1 := fun w => run_float_arith (P := Try.prog) w .mul 39 .f64 j1 4607112050055839744 m hm
              have HM : Hid (FloatKind.f64.format.mul j1 4607112050055839744 = some m) := hm
              clear hm
              cases ha : FloatKind.f64.format.add m (zJ Q d) with
              | none =>
                have L2 := run_add_none Try.prog 39 m (floatOfInt .f64 (Q d)) ha
                have HA : Hid (FloatKind.f64.format.add m (zJ Q d) = none) := ha
                clear ha
                go_wp2
                go_region
                all_goals
                  go_wp2
                  go_roundw
                  case rel => exact ⟨d + 1, u2, _, by omega, by go_num, HS.out _ _ ⟨_, .inl HM.out, .inr ⟨HA.out, NB_nan _ _ _⟩⟩ ⟨rfl, rfl, rfl, rfl⟩⟩
                  case measure => simp [intOf]; omega
              | some r =>
                have L2 := fun w => run_float_arith (P := Try.prog) w .add 39 .f64 m (floatOfInt .f64 (Q d)) r ha
                have HA : Hid (FloatKind.f64.format.add m (zJ Q d) = some r) := ha
                clear ha
                go_wp2
                go_region
                all_goals
                  go_wp2
                  go_roundw
                  case rel => exact ⟨d + 1, u2, _, by omega, by go_num, HS.out _ _ ⟨_, .inl HM.out, .inl HA.out⟩ ⟨rfl, rfl, rfl, rfl⟩⟩
                  case measure => simp [intOf]; omega
        · have hps : p < wr.heap.size := Nat.lt_of_lt_of_le hp hI.out.touch.size
          have l1 : ∀ o, (wr.alloc (.cells #[.int .u64 (S d), .int .i64 (Q d), .int .i64 (R d)] 65)).cell? ⟨p, o, none⟩ = wr.cell? ⟨p, o, none⟩ := fun o => World.cell?_of_block (Below.heap_alloc wr _ _ hps)
          have q1 := (l1 1).trans k1
          have HN : Hid (∀ nq, JR p n (some ⟨b, off, none⟩) c S Q R after before u jd w (d + 1) u1 j1 ((wr.alloc (.cells #[.int .u64 (S d), .int .i64 (Q d), .int .i64 (R d)] 65)).drewN nq)) := fun nq => by
            have h0 := hI.out.touch.alloc (.cells #[.int .u64 (S d), .int .i64 (Q d), .int .i64 (R d)] 65)
            refine ⟨by show (wr.alloc _).heap[p]? = _; rw [Below.heap_alloc wr _ _ hps]; exact hI.out.obj, ⟨h0.os, h0.tape, h0.output, h0.size, h0.block⟩, fun i hi => (Nat.lt_or_eq_of_le (Nat.le_of_lt_succ hi)).elim (hI.out.all i) (fun e => e ▸ hbf), ?_, ?_⟩
            · rw [wIdx_succ, if_neg haf, List.append_nil]; exact hI.out.un
            · rw [wIdx_succ, if_neg haf, List.append_nil]; exact hI.out.ju
          clear l1 hI
          go_wp2
          go_quiet (fail)
          go_wp2
          go_roundw
          case rel => exact ⟨d + 1, u1, j1, by omega, by go_num, HN.out _⟩
          case measure => simp [intOf]; omega
      · have HN : Hid (Judged p n S Q R after before u jd w d (some ⟨b, off + d * 3, none⟩) (c - d) u1 j1 (wr.setCell ⟨p, 0, none⟩ (.slice (some ⟨b, off + d * 3, none⟩) (n - d) (c - d)))) := by
          have hw : ∀ o, (wr.setCell ⟨p, 0, none⟩ (.slice (some ⟨b, off + d * 3, none⟩) (n - d) (c - d))).cell? ⟨b, o, none⟩ = w.cell? ⟨b, o, none⟩ := fun o =>
            World.cell?_of_block ((Below.heap_setCell wr _ _ _ hbp).trans (hI.out.touch.block _ hb fun h => hbp h))
          obtain ⟨b', off', e', hc⟩ := HC.out (by omega)
          cases e'
          refine ⟨by omega, hI.out.all, fun _ => hbf, tObj_set0 hI.out.obj, ⟨by omega, by unfold maxLen; omega, fun _ => ⟨b, off + d * 3, rfl, fun i hi => ?_⟩⟩, fun x hx => (by cases hx; exact hbp), hI.out.un, hI.out.ju, Touch.setCell (S := (· = p)) hI.out.touch _ (fun _ => rfl) _⟩
          obtain ⟨c1, c2, c3⟩ := hc (d + i) (by omega)
          rw [hw, hw, hw, show off + d * 3 + i * 3 = off + (d + i) * 3 by omega]
          exact ⟨c1, c2, c3⟩
        have hcd : c ≠ d := by omega
        clear hI
        go_wp2
        go_end0
        exact ⟨d, _, _, u1, j1, rfl, HN.out⟩
    · obtain rfl : d = n := by omega
      cases a with
      | none =>
        have HN : Hid (∀ c', c' ≤ 9223372036854775807 → Judged p d S Q R after before u jd w d none c' u1 j1 (wr.setCell ⟨p, 0, none⟩ (.slice none 0 c'))) := fun c' hc' => by
          have hnn : d - d = 0 := by omega
          refine ⟨by omega, hI.out.all, fun h => absurd h (Nat.lt_irrefl _), ?_, ?_, fun x hx => (by cases hx), hI.out.un, hI.out.ju, Touch.setCell (S := (· = p)) hI.out.touch _ (fun _ => rfl) _⟩
          · rw [hnn]; exact tObj_set0 hI.out.obj
          · rw [hnn]; exact ⟨Nat.zero_le _, by unfold maxLen; omega, fun h => absurd h (Nat.lt_irrefl _)⟩
        clear hI
        go_wp2
        go_end0
        exact ⟨d, _, _, u1, j1, rfl, HN.out _ (by omega)⟩
      | some x =>
        have HN : Hid (∀ y c', y.block ≠ p → c' ≤ 9223372036854775807 → Judged p d S Q R after before u jd w d (some y) c' u1 j1 (wr.setCell ⟨p, 0, none⟩ (.slice (some y) 0 c'))) := fun y c' hy hc' => by
          have hnn : d - d = 0 := by omega
          refine ⟨by omega, hI.out.all, fun h => absurd h (Nat.lt_irrefl _), ?_, ?_, fun x hx => (by cases hx; exact hy), hI.out.un, hI.out.ju, Touch.setCell (S := (· = p)) hI.out.touch _ (fun _ => rfl) _⟩
          · rw [hnn]; exact tObj_set0 hI.out.obj
          · rw [hnn]; exact ⟨Nat.zero_le _, by unfold maxLen; omega, fun h => absurd h (Nat.lt_irrefl _)⟩
        have hxp := HP.out.2 x rfl
        clear hI
        have hadd : ∀ k, (x.add k).block ≠ p := fun k => by
          have : (x.add k).block = x.block := by unfold Addr.add; split <;> rfl
          rw [this]; exact hxp
        go_wp2
        · go_end0
          exact ⟨d, _, _, u1, j1, rfl, HN.out _ _ hxp (by omega)⟩
        · go_end0
          exact ⟨d, _, _, u1, j1, rfl, HN.out _ _ (hadd _) (by omega)⟩

theorem judge20 (p : Nat) (a : Option Addr) (n c : Nat) (S Q R : Nat → Int) (after before : Int) (u jd : Nat) (w : World) (h : w.heap[p]? = some (tObj (.slice a n c) after u jd)) (hR : RC w a n c S Q R) (hap : ∀ x, a = some x → x.block ≠ p) :
    Calls Try.prog 20 #[.pointer (some ⟨p, 0, none⟩), .int .u64 before] w (JudgePost p n S Q R after before u jd w) := by
  have HC : Hid (Calls Try.prog 28 #[.pointer (some ⟨p, 0, none⟩), .int .u64 before] w (JudgePost p n S Q R after before u jd w)) := judge28 p a n c S Q R after before u jd w h hR hap
  clear h hR hap
  go_enter Try.func20, Try.ntmps20
  go_wp2_with fail
  refine HC.out.mono ?_
  rintro e w' ⟨d, a', c', u', j', rfl, hJ⟩
  have HJ : Hid (Judged p n S Q R after before u jd w d a' c' u' j' w') := hJ
  clear hJ
  go_wp2
  go_end0
  exact ⟨d, a', c', u', j', rfl, HJ.out⟩

end Go.Proofs.Qxb6602606a
