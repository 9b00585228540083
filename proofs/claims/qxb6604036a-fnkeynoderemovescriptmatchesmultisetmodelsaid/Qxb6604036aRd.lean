/- Functions that read slices of strings: the two guards (16, 17), b1Equal (14). -/
import Derived.Test.Qxb6604036aTree
import Derived.BigQuiet
import Derived.Deep.QuietTactic
namespace Go.Proofs.Qxb6604036a
open Go.RowKit Plain
set_option linter.unusedVariables false
set_option linter.unusedSimpArgs false

/-- A slice of strings that can be read: its elements S 0 .. S (n-1). -/
def Rd (w : World) (a : Option Addr) (n c : Nat) (S : Nat → ByteArray) : Prop :=
  n ≤ c ∧ c ≤ maxLen ∧ (0 < n → ∃ b off, a = some ⟨b, off, none⟩ ∧ ∀ k, k < n → w.cell? ⟨b, off + k, none⟩ = some (.string (S k)))

theorem Rd.ofOwns {B : Nat} {v : Value} {ks : List ByteArray} {w : World} (h : w.ownsRow B 9 1 v ks.length (strs ks)) : ∃ a c, v = .slice a ks.length c ∧ Rd w a ks.length c (fun k => ks.getD k ByteArray.empty) := by
  obtain ⟨a, c, rfl, h1, h2⟩ := ownsRow_slice h
  refine ⟨a, c, rfl, h1, h2, fun h0 => ?_⟩
  obtain ⟨g, c2, he, _, _, _, _, hc⟩ := ownsRow_cell h h0
  simp at he
  exact ⟨g, 0, he.1, fun k hk => by rw [Nat.zero_add]; exact hc k _ (getD_strs ks k hk)⟩

/-- A slice with an element lies in a block that is there. -/
theorem Rd.lt {w : World} {a : Option Addr} {n c : Nat} {S : Nat → ByteArray} (h : Rd w a n c S) : ∀ x, a = some x → 0 < n → x.block < w.heap.size := by
  intro x hx h0
  obtain ⟨b, off, rfl, hc⟩ := h.2.2 h0
  simp at hx; subst hx
  exact World.block_lt_of_cell? w _ (hc 0 h0)

/-- Only a bool comes back. -/
def BoolPost (w : World) (e : Ending) (w' : World) : Prop := ∃ r, e = .returned (.bool r) ∧ w = w'

set_option maxHeartbeats 1000000 in
theorem bytes16 (a : Option Addr) (n c : Nat) (S : Nat → ByteArray) (w : World) (h : Rd w a n c S) (hS : ∀ k, (S k).size ≤ maxLen) : Calls Try.prog 16 #[.slice a n c] w (BoolPost w) := by
  obtain ⟨h1, h2, h3⟩ := h
  unfold maxLen at h2
  by_cases hn : n ≤ 1048576
  · by_cases h0 : n = 0
    · subst h0
      clear h3
      go_enter Try.func16, Try.ntmps16
      go_wp2
      go_loop [3, 4] (fun u v => u = .int .i64 0 ∧ v = .int .i64 0) (fun _ _ => 0)
      case atStart => exact ⟨rfl, rfl⟩
      case round =>
        obtain ⟨rfl, rfl⟩ := hrel
        go_wp2
        go_ret
        exact ⟨_, rfl, rfl⟩
    · obtain ⟨b, off, rfl, hc⟩ := h3 (by omega)
      have HS : Hid (∀ k, (S k).size ≤ maxLen) := hS
      clear hS
      go_enter Try.func16, Try.ntmps16
      go_wp2
      go_loop [3, 4] (fun u v => ∃ k : Nat, ∃ s : Nat, k ≤ n ∧ s ≤ 1048576 ∧ v = .int .i64 k ∧ u = .int .i64 s) (fun _ v => n - (intOf v).toNat)
      case atStart => exact ⟨0, n, by omega, hn, rfl, rfl⟩
      case round =>
        obtain ⟨k, s, hk, hs, rfl, rfl⟩ := hrel
        by_cases hlt : k < n
        · have hck := hc k hlt
          clear hc
          have hsz := HS.out k
          unfold maxLen at hsz
          by_cases hb : (S k).size ≤ 1048576
          · by_cases hb2 : s + (S k).size ≤ 1048576
            · go_wp2
              go_round
              case rel => exact ⟨k + 1, s + (S k).size, by omega, hb2, by go_num, by go_num⟩
              case measure => simp [intOf]; omega
            · go_wp2
              go_ret
              exact ⟨_, rfl, rfl⟩
          · go_wp2
            go_ret
            exact ⟨_, rfl, rfl⟩
        · go_wp2
          go_ret
          exact ⟨_, rfl, rfl⟩
  · clear h3
    go_enter Try.func16, Try.ntmps16
    go_wp2
    go_ret
    exact ⟨_, rfl, rfl⟩

/-- A variable of type int in a block of its own. -/
def IntAt (w : World) (bb : Nat) : Prop := ∃ v : Int, w.heap[bb]? = some (.cells #[.int .i64 v] 3 (0, 0))

theorem IntAt.setCell {w : World} {bb : Nat} (h : IntAt w bb) (v : Int) : IntAt (w.setCell ⟨bb, 0, none⟩ (.int .i64 v)) bb := by
  obtain ⟨u, hu⟩ := h
  refine ⟨v, ?_⟩
  rw [setCell_eq_setRow w bb 0 _ 3 (0, 0) _ hu, setRow_heap w bb _ _ 3 (0, 0) hu]
  rfl

/-- A bool comes back; the variable's block may have turned. -/
def FitPost (bb : Nat) (w : World) (e : Ending) (w' : World) : Prop := ∃ r, e = .returned (.bool r) ∧ Touch (· = bb) w w' ∧ IntAt w' bb

theorem Rd.cell_touch {w w' : World} {S : Nat → Prop} {b off n : Nat} {F : Nat → ByteArray} (hc : ∀ k, k < n → w.cell? ⟨b, off + k, none⟩ = some (.string (F k))) (ht : Touch S w w') (hb : ¬ S b) : ∀ k, k < n → w'.cell? ⟨b, off + k, none⟩ = some (.string (F k)) := fun k hk => by
  rw [← hc k hk]
  exact World.cell?_of_block (ht.block b (World.block_lt_of_cell? w _ (hc k hk)) hb)

set_option maxHeartbeats 2000000 in
theorem fits17 (a : Option Addr) (n c bb : Nat) (S : Nat → ByteArray) (w : World) (h : Rd w a n c S) (hS : ∀ k, (S k).size ≤ maxLen) (hbb : IntAt w bb) (hne : ∀ x, a = some x → 0 < n → x.block ≠ bb) :
    Calls Try.prog 17 #[.slice a n c, .pointer (some ⟨bb, 0, none⟩)] w (FitPost bb w) := by
  obtain ⟨h1, h2, h3⟩ := h
  unfold maxLen at h2
  by_cases h0 : n = 0
  · subst h0
    clear h3
    go_enter Try.func17, Try.ntmps17
    go_wp2
    go_loop [5] (fun v => v = .int .i64 0) (fun _ => 0)
    case atStart => rfl
    case round =>
      obtain rfl := hrel
      go_wp2
      go_ret
      exact ⟨_, rfl, Touch.refl _ _, hbb⟩
  · obtain ⟨b, off, rfl, hc⟩ := h3 (by omega)
    have hbn : b ≠ bb := hne _ rfl (by omega)
    have HS : Hid (∀ k, (S k).size ≤ maxLen) := hS
    have HC : Hid (∀ k, k < n → w.cell? ⟨b, off + k, none⟩ = some (.string (S k))) := hc
    have HB : Hid (IntAt w bb) := hbb
    clear hS hc hbb hne h3
    go_enter Try.func17, Try.ntmps17
    go_wp2
    go_loopw [5] (fun v wr => ∃ k : Nat, k ≤ n ∧ v = .int .i64 k ∧ Touch (· = bb) w wr ∧ IntAt wr bb) (fun v _ => n - (intOf v).toNat)
    case atStart => exact ⟨0, by omega, rfl, Touch.refl _ _, HB.out⟩
    case round =>
      obtain ⟨k, hk, rfl, ht, hia⟩ := hrel
      by_cases hlt : k < n
      · have hck := Rd.cell_touch HC.out ht hbn k hlt
        have hsz := HS.out k
        unfold maxLen at hsz
        have hia' := hia
        obtain ⟨v, hv⟩ := hia'
        have hcv : wr.cell? ⟨bb, 0, none⟩ = some (.int .i64 v) := by simp [World.cell?, hv]
        have hfv : wr.frozen? ⟨bb, 0, none⟩ = false := by simp [World.frozen?, hv]
        have HT : Hid (Touch (· = bb) w wr ∧ IntAt wr bb) := ⟨ht, hia⟩
        clear ht hia hv
        have hkn : (k : Int) < (n : Int) := by omega
        by_cases hb : (S k).size ≤ 1048576
        · go_wp2
          go_region
          all_goals
            go_wp2
          · go_ret
            exact ⟨_, rfl, (HT.out.1.setCell _ (fun _ => rfl) _).drew, IntAt.setCell HT.out.2 _⟩
          · go_roundw
            case rel => exact ⟨k + 1, by omega, by go_num, (HT.out.1.setCell _ (fun _ => rfl) _).drew, IntAt.setCell HT.out.2 _⟩
            case measure => simp [intOf]; omega
        · go_wp2
          go_ret
          exact ⟨_, rfl, HT.out.1, HT.out.2⟩
      · go_wp2
        go_ret
        exact ⟨_, rfl, ht, hia⟩

/-- What b1Equal answers. -/
def EqPost (n m : Nat) (S T : Nat → ByteArray) (w : World) (e : Ending) (w' : World) : Prop :=
  ∃ r : Bool, e = .returned (.bool r) ∧ Mem w w' ∧ (r = true ↔ n = m ∧ ∀ k, k < n → S k = T k)

set_option maxHeartbeats 2000000 in
theorem equal14 (a b : Option Addr) (n c m d : Nat) (S T : Nat → ByteArray) (w : World) (h : Rd w a n c S) (h' : Rd w b m d T) :
    Calls Try.prog 14 #[.slice a n c, .slice b m d] w (EqPost n m S T w) := by
  obtain ⟨h1, h2, h3⟩ := h
  obtain ⟨g1, g2, g3⟩ := h'
  unfold maxLen at h2 g2
  by_cases hnm : n = m
  · subst hnm
    by_cases h0 : n = 0
    · subst h0
      clear h3 g3
      have hb : (((0 : Nat) : Int) != ((0 : Nat) : Int)) = false := by simp
      go_enter Try.func14, Try.ntmps14
      go_wp2
      go_loop [5] (fun v => v = .int .i64 0) (fun _ => 0)
      case atStart => rfl
      case round =>
        obtain rfl := hrel
        go_wp2
        go_ret
        exact ⟨true, rfl, Mem.refl _, by simp⟩
    · obtain ⟨b1, o1, rfl, hc⟩ := h3 (by omega)
      obtain ⟨b2, o2, rfl, hd⟩ := g3 (by omega)
      have HC : Hid (∀ k, k < n → w.cell? ⟨b1, o1 + k, none⟩ = some (.string (S k))) := hc
      have HD : Hid (∀ k, k < n → w.cell? ⟨b2, o2 + k, none⟩ = some (.string (T k))) := hd
      clear hc hd h3 g3
      have hb : ((n : Int) != (n : Int)) = false := by simp
      go_enter Try.func14, Try.ntmps14
      go_wp2
      go_loopw [5] (fun v wr => ∃ k : Nat, k ≤ n ∧ v = .int .i64 k ∧ Mem w wr ∧ Hid (∀ j, j < k → S j = T j)) (fun v _ => n - (intOf v).toNat)
      case atStart => exact ⟨0, by omega, rfl, Mem.refl _, by intro j hj; omega⟩
      case round =>
        obtain ⟨k, hk, rfl, hM, hE⟩ := hrel
        have HM : Hid (Mem w wr) := hM
        by_cases hlt : k < n
        · have hck : wr.cell? ⟨b1, o1 + k, none⟩ = some (.string (S k)) := by rw [← HC.out k hlt]; exact World.cell?_of_block (by rw [hM.heap])
          have hdk : wr.cell? ⟨b2, o2 + k, none⟩ = some (.string (T k)) := by rw [← HD.out k hlt]; exact World.cell?_of_block (by rw [hM.heap])
          have hkn : (k : Int) < (n : Int) := by omega
          clear hM
          by_cases hst : S k = T k
          · have HE : Hid (S k = T k) := hst
            have hne : ((S k).toList == (T k).toList) = true := by simp [hst]
            clear hst
            go_wp2
            go_quiet (fail)
            go_wp2
            go_roundw
            case rel =>
              refine ⟨k + 1, by omega, by go_num, ?_, fun j hj => ?_⟩
              · exact ⟨HM.out.heap, HM.out.os, HM.out.tape, HM.out.output⟩
              · rcases Nat.lt_or_eq_of_le (Nat.le_of_lt_succ hj) with h | h
                · exact hE.out j h
                · rw [h]; exact HE.out
            case measure => simp [intOf]; omega
          · have HE : Hid (S k ≠ T k) := hst
            have hne : ((S k).toList == (T k).toList) = false := by rw [beq_eq_false_iff_ne]; exact fun h => hst (toList_inj h)
            clear hst
            go_wp2
            go_quiet (fail)
            go_wp2
            go_ret
            refine ⟨false, rfl, ⟨HM.out.heap, HM.out.os, HM.out.tape, HM.out.output⟩, ?_⟩
            simp only [Bool.false_eq_true, true_and, false_iff]
            exact fun h => HE.out (h k hlt)
        · clear hM
          go_wp2
          go_ret
          refine ⟨true, rfl, HM.out, ?_⟩
          simp only [true_and, true_iff]
          exact fun j hj => hE.out j (by omega)
  · clear h3 g3
    have hb : ((n : Int) != (m : Int)) = true := by rw [bne_iff_ne]; omega
    have HN : Hid (n ≠ m) := hnm
    clear hnm
    go_enter Try.func14, Try.ntmps14
    go_wp2
    go_ret
    refine ⟨false, rfl, Mem.refl _, ?_⟩
    simp only [Bool.false_eq_true, false_iff]
    exact fun h => HN.out h.1

end Go.Proofs.Qxb6604036a
