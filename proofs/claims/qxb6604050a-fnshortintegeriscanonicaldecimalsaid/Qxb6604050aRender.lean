/- zzB1Render (18). -/
import Derived.Test.Qxb6604050aZZ
namespace Go.Proofs.Qxb6604050a
open Go.RowKit
set_option linter.unusedVariables false
set_option linter.unusedSimpArgs false
attribute [local go_sem ↓] Go.wp_at_zero Go.wp_at_succ

/-- The value of a list of digits. -/
def valL (l : List Int) : Int := l.foldl (fun a x => a * 10 + (x - 48)) 0

/-- The canonical digits of v. -/
structure IsDec (v : Nat) (L : List Int) : Prop where
  dig : ∀ x ∈ L, 48 ≤ x ∧ x ≤ 57
  val : valL L = v
  zero : v = 0 → L = [48]
  head : v ≠ 0 → ∃ x t, L = x :: t ∧ x ≠ 48

def sgn (neg : Bool) (v : Nat) : List Int := if neg = true ∧ v ≠ 0 then [45] else []

def RenderPost (B v : Nat) (neg : Bool) (w : World) (e : Ending) (w' : World) : Prop :=
  ∃ L o, IsDec v L ∧ e = .returned o ∧ w'.ownsRow B 5 1 o (sgn neg v ++ L).length (ints (sgn neg v ++ L)) ∧ Touch (fun _ => False) w w'

/-- The buffer while the digits are laid, from the last on. -/
structure BufR (p N : Nat) (w : World) (k v : Nat) (L : List Int) (wr : World) : Prop where
  len : k + L.length = 20
  row : ∃ cur, wr.heap[p]? = some (.cells cur 48 (0, 0)) ∧ cur.size = 20 ∧ cur.toList.drop k = ints L
  touch : Touch (fun k => w.heap.size ≤ k) w wr
  dig : ∀ x ∈ L, 48 ≤ x ∧ x ≤ 57
  val : (v : Int) * 10 ^ L.length + valL L = N
  zero : N = 0 → v = 0 ∧ L = [48]
  head : N ≠ 0 → v = 0 → ∃ x t, L = x :: t ∧ x ≠ 48

theorem foldl_val (l : List Int) : ∀ a : Int, l.foldl (fun a x => a * 10 + (x - 48)) a = a * 10 ^ l.length + valL l := by
  induction l with
  | nil => intro a; simp [valL]
  | cons x t ih =>
    intro a
    simp only [List.foldl_cons, List.length_cons, valL]
    rw [ih, ih]
    rw [show (10 : Int) ^ (t.length + 1) = 10 ^ t.length * 10 from Int.pow_succ 10 t.length]
    simp only [Int.add_mul, Int.zero_mul, Int.mul_assoc, Int.mul_comm (10 : Int)]
    omega

theorem valL_cons (x : Int) (t : List Int) : valL (x :: t) = (x - 48) * 10 ^ t.length + valL t := by
  have := foldl_val t (0 * 10 + (x - 48))
  simp only [valL, List.foldl_cons] at this ⊢
  rw [this]
  simp

theorem valL_nonneg (l : List Int) (h : ∀ x ∈ l, 48 ≤ x ∧ x ≤ 57) : 0 ≤ valL l := by
  induction l with
  | nil => simp [valL]
  | cons x t ih =>
    rw [valL_cons]
    have h1 := h x (by simp)
    have h2 := ih fun y hy => h y (by simp [hy])
    have h3 : (0 : Int) ≤ 10 ^ t.length := Int.pow_nonneg (by decide)
    have h4 : 0 ≤ (x - 48) * 10 ^ t.length := Int.mul_nonneg (by omega) h3
    omega

theorem valL_lt (l : List Int) (h : ∀ x ∈ l, 48 ≤ x ∧ x ≤ 57) : valL l < 10 ^ l.length := by
  induction l with
  | nil => simp [valL]
  | cons x t ih =>
    rw [valL_cons]
    have h1 := h x (by simp)
    have h2 := ih fun y hy => h y (by simp [hy])
    have h3 : (0 : Int) ≤ 10 ^ t.length := Int.pow_nonneg (by decide)
    have h4 : (x - 48) * 10 ^ t.length ≤ 9 * 10 ^ t.length := Int.mul_le_mul_of_nonneg_right (by omega) h3
    rw [List.length_cons, Int.pow_succ]
    omega

theorem listOf_self (l : List Int) : listOf l.length (fun j => l.getD j 0) = l := by
  apply List.ext_getElem
  · rw [listOf_length]
  · intro i h1 h2
    simp [listOf, h2]

theorem IsDec.ge {v : Nat} {L : List Int} (h : IsDec v L) (h0 : v ≠ 0) : (10 : Int) ^ (L.length - 1) ≤ v := by
  obtain ⟨x, t, rfl, hx⟩ := h.head h0
  have h1 := h.dig x (by simp)
  have h2 := valL_nonneg t fun y hy => h.dig y (by simp [hy])
  have h3 := h.val
  rw [valL_cons] at h3
  have h4 : (1 : Int) * 10 ^ t.length ≤ (x - 48) * 10 ^ t.length := Int.mul_le_mul_of_nonneg_right (by omega) (Int.pow_nonneg (by decide))
  simp only [List.length_cons, Nat.add_sub_cancel]
  omega

theorem IsDec.len {v : Nat} {L : List Int} (h : IsDec v L) (hv : v ≤ 999999999999999) : L.length ≤ 15 := by
  by_cases h0 : v = 0
  · rw [h.zero h0]; decide
  · have h1 := h.ge h0
    rcases Nat.lt_or_ge (L.length - 1) 15 with hl | hl
    · omega
    · exfalso
      have h3 : (10 : Int) ^ 15 ≤ 10 ^ (L.length - 1) := by
        have : (10 : Nat) ^ 15 ≤ 10 ^ (L.length - 1) := Nat.pow_le_pow_right (by decide) hl
        exact_mod_cast this
      have h5 : (10 : Int) ^ 15 = 1000000000000000 := by decide
      omega

theorem BufR.few {p N : Nat} {w : World} {k v : Nat} {L : List Int} {wr : World} (h : BufR p N w k v L wr) (hN : N ≤ 999999999999999) (hv : 0 < v) : L.length ≤ 14 := by
  rcases Nat.lt_or_ge L.length 15 with hl | hl
  · omega
  · exfalso
    have h1 := valL_nonneg L h.dig
    have h2 := h.val
    have h3 : (10 : Int) ^ 15 ≤ 10 ^ L.length := by
      have : (10 : Nat) ^ 15 ≤ 10 ^ L.length := Nat.pow_le_pow_right (by decide) hl
      exact_mod_cast this
    have h4 : (1 : Int) * 10 ^ L.length ≤ (v : Int) * 10 ^ L.length := Int.mul_le_mul_of_nonneg_right (by omega) (Int.pow_nonneg (by decide))
    have h5 : (10 : Int) ^ 15 = 1000000000000000 := by decide
    omega

theorem BufR.le {p N : Nat} {w : World} {k v : Nat} {L : List Int} {wr : World} (h : BufR p N w k v L wr) : v ≤ N := by
  have h1 := valL_nonneg L h.dig
  have h2 := h.val
  have h3 : (1 : Int) ≤ 10 ^ L.length := by
    have : (1 : Nat) ≤ 10 ^ L.length := Nat.one_le_pow _ _ (by decide)
    exact_mod_cast this
  have h4 : (v : Int) * 1 ≤ (v : Int) * 10 ^ L.length := Int.mul_le_mul_of_nonneg_left h3 (by omega)
  omega

theorem BufR.isDec {p N : Nat} {w : World} {k : Nat} {L : List Int} {wr : World} (h : BufR p N w k 0 L wr) : IsDec N L :=
  ⟨h.dig, by have := h.val; simpa using this, fun h0 => (h.zero h0).2, fun h0 => h.head h0 rfl⟩

/-- One cell ahead of the laid ones. -/
theorem row_put {w : World} {p k : Nat} {cur : Array Value} {L : List Int} (x : Int) (h : w.heap[p]? = some (.cells cur 48 (0, 0))) (hs : cur.size = 20) (hd : cur.toList.drop (k + 1) = ints L) (hk : k < 20) :
    ∃ cur', (w.setCell ⟨p, k, none⟩ (.int .u8 x)).heap[p]? = some (.cells cur' 48 (0, 0)) ∧ cur'.size = 20 ∧ cur'.toList.drop k = ints (x :: L) := by
  refine ⟨cur.setIfInBounds k (.int .u8 x), ?_, ?_, ?_⟩
  · rw [setCell_eq_setRow w p k _ 48 (0, 0) _ h, setRow_heap w p _ _ 48 (0, 0) h]
  · simpa using hs
  · rw [Array.toList_setIfInBounds, List.drop_set]
    simp only [Nat.lt_irrefl, if_false, Nat.sub_self]
    rw [List.drop_eq_getElem_cons (by simpa [hs] using hk)]
    simp [hd, ints]

theorem BufR.step {p N : Nat} {w : World} {k v : Nat} {L : List Int} {wr : World} (h : BufR p N w (k + 1) v L wr) (hp : w.heap.size ≤ p) (hv : 0 < v) (hk : k < 20) :
    BufR p N w k (v / 10) ((48 + (v % 10 : Nat)) :: L) (wr.setCell ⟨p, k, none⟩ (.int .u8 (48 + (v % 10 : Nat)))) := by
  obtain ⟨cur, h1, h2, h3⟩ := h.row
  refine ⟨by have := h.len; simp; omega, row_put _ h1 h2 h3 hk, h.touch.setCell _ (fun _ => hp) _, ?_, ?_, fun h0 => ?_, fun h0 hz => ⟨_, _, rfl, by omega⟩⟩
  · intro x hx
    rcases List.mem_cons.1 hx with rfl | hx
    · omega
    · exact h.dig x hx
  · rw [valL_cons, List.length_cons, Int.pow_succ, ← h.val]
    have e1 : (48 + ((v % 10 : Nat) : Int) - 48) = ((v % 10 : Nat) : Int) := by omega
    rw [e1]
    have e2 : ((v / 10 : Nat) : Int) * (10 ^ L.length * 10) = (((v / 10 : Nat) : Int) * 10) * 10 ^ L.length := by
      rw [Int.mul_comm (10 ^ L.length) 10, Int.mul_assoc]
    rw [e2, ← Int.add_assoc, ← Int.add_mul]
    have e3 : ((v / 10 : Nat) : Int) * 10 + ((v % 10 : Nat) : Int) = (v : Int) := by omega
    rw [e3]
  · have := (h.zero h0).1; omega

/-- What stands when the buffer is laid: make, then copy. -/
theorem buf_out (B p N k : Nat) (w wr : World) (L : List Int) (cur : Array Value) (h1 : wr.heap[p]? = some (.cells cur 48 (0, 0))) (hs : cur.size = 20) (hd : cur.toList.drop k = ints L) (hlen : k + L.length = 20) (ht : Touch (fun k => w.heap.size ≤ k) w wr) (hB : B ≤ w.heap.size) :
    ∃ W1 W2 cv, (Instr.makeSlice 22 (.int .i64 ((20 - k : Nat) : Int)) (.int .i64 ((20 - k : Nat) : Int))).run Try.prog wr = .ok (.slice (some ⟨wr.heap.size, 0, none⟩) (20 - k) (20 - k)) W1 ∧
      (∀ ty, (Builtin.copy_ #[22, 22] ty #[.slice (some ⟨wr.heap.size, 0, none⟩) (20 - k) (20 - k), .slice (some ⟨p, k, none⟩) (20 - k) (20 - k)]).run Try.prog W1 = .ok cv W2) ∧
      W2.ownsRow B 5 1 (.slice (some ⟨wr.heap.size, 0, none⟩) (20 - k) (20 - k)) L.length (ints L) ∧ Touch (fun _ => False) w W2 := by
  have hn : 20 - k = L.length := by omega
  have hR : Rb wr (some ⟨p, k, none⟩) (20 - k) (20 - k) (fun j => L.getD j 0) := ⟨Nat.le_refl _, by unfold maxLen; omega, fun _ => ⟨p, k, rfl, fun j hj => by
    rw [cell_of_row wr p (k + j) cur 48 (0, 0) h1]
    have := getD_ints L j (by omega)
    rw [← hd, List.getElem?_drop] at this
    simpa using this⟩⟩
  obtain ⟨W1, W2, cv, hmk, -, hcp, hown, hT2, -⟩ := bytesRow B wr _ (20 - k) (20 - k) _ hR (by omega) (Nat.le_trans hB ht.size)
  rw [hn, listOf_self, ← hn] at hown
  refine ⟨W1, W2, cv, hmk, hcp, by rw [← hn]; exact hown, ?_⟩
  have := ht.trans (T := fun _ => False) hT2 fun _ _ h => h.elim
  exact this.mono fun k hk h => by omega

theorem slice48 (p j : Nat) (hj : j < 20) (W : World) : (Instr.sliceAt 48 (.pointer (some ⟨p, 0, none⟩)) (some (.int .i64 (j : Int))) none none).run Try.prog W = .ok (.slice (some ⟨p, j, none⟩) (20 - j) (20 - j)) W := by
  have ha : Try.prog.arrayLen 48 = 20 := by kernel_rfl
  have he : Try.prog.elem 48 = 5 := by kernel_rfl
  have hs : ∀ W, (sizeOf 5).run Try.prog W = .ok 1 W := fun W => rfl
  rw [run_sliceAt_array_l (P := Try.prog) W 48 ⟨p, 0, none⟩ (by rw [ha, he]; exact Try.underlying48) .i64 (j : Int) (by omega) (by rw [ha]; omega), he, hs, ha]
  simp only [Result.andThen_ok, slicedAt, Int.toNat_natCast, Nat.mul_one, Addr.add_lit, Nat.zero_add]
  rw [if_neg (by omega)]

set_option maxHeartbeats 1000000 in
theorem render18_neg (B N : Nat) (w : World) (hN : N ≤ 999999999999999) (h0 : N ≠ 0) (hB : B ≤ w.heap.size) : Calls Try.prog 18 #[.int .i64 (N : Int), .bool true] w (RenderPost B N true w) := by
  have hz : ((N : Int) == 0) = false := by simp [h0]
  have hz' : ((N : Int) != 0) = true := by simp [h0]
  have H0 : Hid (N ≠ 0) := h0
  have HB : Hid (B ≤ w.heap.size) := hB
  clear h0 hB
  obtain ⟨Z, hZ⟩ : ∃ Z, Z = w.alloc (.cells #[.int .u8 0, .int .u8 0, .int .u8 0, .int .u8 0, .int .u8 0, .int .u8 0, .int .u8 0, .int .u8 0, .int .u8 0, .int .u8 0, .int .u8 0, .int .u8 0, .int .u8 0, .int .u8 0, .int .u8 0, .int .u8 0, .int .u8 0, .int .u8 0, .int .u8 0, .int .u8 0] 48) := ⟨_, rfl⟩
  have HS : Hid (BufR w.heap.size N w 20 N [] Z) := by
    refine ⟨by simp, ⟨_, by rw [hZ]; exact heap_new w _, by simp, by simp [ints]⟩, by rw [hZ]; exact (Touch.refl _ _).alloc _, by simp, by simp [valL], fun h => absurd h H0.out, fun _ h => absurd h H0.out⟩
  have HZ : Hid (Z = w.alloc (.cells #[.int .u8 0, .int .u8 0, .int .u8 0, .int .u8 0, .int .u8 0, .int .u8 0, .int .u8 0, .int .u8 0, .int .u8 0, .int .u8 0, .int .u8 0, .int .u8 0, .int .u8 0, .int .u8 0, .int .u8 0, .int .u8 0, .int .u8 0, .int .u8 0, .int .u8 0, .int .u8 0] 48)) := hZ
  clear hZ
  go_enter Try.func18, Try.ntmps18
  go_wp2
  rw [← HZ.out]
  go_loopw [6, 7] (fun u x wr => ∃ k v : Nat, ∃ L, u = .int .i64 k ∧ x = .int .i64 v ∧ Hid (BufR w.heap.size N w k v L wr)) (fun _ x _ => (intOf x).toNat)
  case atStart => exact ⟨20, N, [], rfl, rfl, HS⟩
  case round =>
    obtain ⟨k, v, L, rfl, rfl, hB⟩ := hrel
    by_cases hv : 0 < v
    · have hf := hB.out.few hN hv
      have hl := hB.out.len
      obtain ⟨cur, h1, h2, h3⟩ := hB.out.row
      have hvN : v ≤ 999999999999999 := Nat.le_trans hB.out.le hN
      obtain ⟨j, rfl⟩ : ∃ j, k = j + 1 := ⟨k - 1, by omega⟩
      obtain ⟨cv0, hc⟩ : ∃ cv0, wr.cell? ⟨w.heap.size, j, none⟩ = some cv0 := by
        have hc : wr.cell? ⟨w.heap.size, j, none⟩ = cur[j]? := cell_of_row wr _ _ cur 48 (0, 0) h1
        rw [Array.getElem?_eq_getElem (by omega)] at hc
        exact ⟨_, hc⟩
      have hfz : wr.frozen? ⟨w.heap.size, j, none⟩ = false := by simp [World.frozen?, h1]
      have w1 : IntKind.i64.wrap (((j + 1 : Nat) : Int) - 1) = (j : Int) := by rw [IntKind.wrap_i64]; omega
      have w2 : (j : Int) < 20 := by omega
      have HN : Hid (BufR w.heap.size N w j (v / 10) ((48 + (v % 10 : Nat)) :: L) (wr.setCell ⟨w.heap.size, j, none⟩ (.int .u8 (48 + (v % 10 : Nat))))) := BufR.step hB.out (Nat.le_refl _) hv (by omega)
      clear h1 h2 h3 hf hl hB
      go_wp2
      go_roundw
      case rel => exact ⟨j, v / 10, _, rfl, by simp, HN⟩
      case measure => simp [intOf]; omega
    · obtain rfl : v = 0 := by omega
      have hD := hB.out.isDec
      have hl := hB.out.len
      have hf := hD.len hN
      obtain ⟨cur, h1, h2, h3⟩ := hB.out.row
      obtain ⟨j, rfl⟩ : ∃ j, k = j + 1 := ⟨k - 1, by omega⟩
      obtain ⟨cv0, hc⟩ : ∃ cv0, wr.cell? ⟨w.heap.size, j, none⟩ = some cv0 := by
        have hc : wr.cell? ⟨w.heap.size, j, none⟩ = cur[j]? := cell_of_row wr _ _ cur 48 (0, 0) h1
        rw [Array.getElem?_eq_getElem (by omega)] at hc
        exact ⟨_, hc⟩
      have hfz : wr.frozen? ⟨w.heap.size, j, none⟩ = false := by simp [World.frozen?, h1]
      have w1 : IntKind.i64.wrap (((j + 1 : Nat) : Int) - 1) = (j : Int) := by rw [IntKind.wrap_i64]; omega
      have w2 : (j : Int) < 20 := by omega
      have w3 : IntKind.i64.wrap (20 - (j : Int)) = ((20 - j : Nat) : Int) := by rw [IntKind.wrap_i64]; omega
      obtain ⟨cur', g1, g2, g3⟩ := row_put (45 : Int) h1 h2 h3 (by omega)
      obtain ⟨W1, W2, cv, hmk, hcp, hown, hT⟩ := buf_out B w.heap.size N j w (wr.setCell ⟨w.heap.size, j, none⟩ (.int .u8 45)) (45 :: L) cur' g1 g2 g3 (by simp; omega) (hB.out.touch.setCell _ (fun _ => Nat.le_refl _) _) HB.out
      have hsz : (wr.setCell ⟨w.heap.size, j, none⟩ (.int .u8 45)).heap.size = wr.heap.size := by simp [World.setCell]
      rw [hsz] at hmk hcp hown
      have HO : Hid (IsDec N L ∧ W2.ownsRow B 5 1 (.slice (some ⟨wr.heap.size, 0, none⟩) (20 - j) (20 - j)) (45 :: L).length (ints (45 :: L)) ∧ Touch (fun _ => False) w W2) := ⟨hD, hown, hT⟩
      have hsl := slice48 w.heap.size j (by omega)
      clear hD hown hT h1 h2 h3 g1 g2 g3 hB hl hf hsz
      go_wp2
      go_ret
      have hsg : sgn true N = [45] := by unfold sgn; rw [if_pos ⟨rfl, H0.out⟩]
      refine ⟨L, _, HO.out.1, rfl, ?_, HO.out.2.2⟩
      rw [hsg]
      exact HO.out.2.1

set_option maxHeartbeats 1000000 in
theorem render18_pos (B N : Nat) (w : World) (hN : N ≤ 999999999999999) (h0 : N ≠ 0) (hB : B ≤ w.heap.size) : Calls Try.prog 18 #[.int .i64 (N : Int), .bool false] w (RenderPost B N false w) := by
  have hz : ((N : Int) == 0) = false := by simp [h0]
  have hz' : ((N : Int) != 0) = true := by simp [h0]
  have H0 : Hid (N ≠ 0) := h0
  have HB : Hid (B ≤ w.heap.size) := hB
  clear h0 hB
  obtain ⟨Z, hZ⟩ : ∃ Z, Z = w.alloc (.cells #[.int .u8 0, .int .u8 0, .int .u8 0, .int .u8 0, .int .u8 0, .int .u8 0, .int .u8 0, .int .u8 0, .int .u8 0, .int .u8 0, .int .u8 0, .int .u8 0, .int .u8 0, .int .u8 0, .int .u8 0, .int .u8 0, .int .u8 0, .int .u8 0, .int .u8 0, .int .u8 0] 48) := ⟨_, rfl⟩
  have HS : Hid (BufR w.heap.size N w 20 N [] Z) := by
    refine ⟨by simp, ⟨_, by rw [hZ]; exact heap_new w _, by simp, by simp [ints]⟩, by rw [hZ]; exact (Touch.refl _ _).alloc _, by simp, by simp [valL], fun h => absurd h H0.out, fun _ h => absurd h H0.out⟩
  have HZ : Hid (Z = w.alloc (.cells #[.int .u8 0, .int .u8 0, .int .u8 0, .int .u8 0, .int .u8 0, .int .u8 0, .int .u8 0, .int .u8 0, .int .u8 0, .int .u8 0, .int .u8 0, .int .u8 0, .int .u8 0, .int .u8 0, .int .u8 0, .int .u8 0, .int .u8 0, .int .u8 0, .int .u8 0, .int .u8 0] 48)) := hZ
  clear hZ
  go_enter Try.func18, Try.ntmps18
  go_wp2
  rw [← HZ.out]
  go_loopw [6, 7] (fun u x wr => ∃ k v : Nat, ∃ L, u = .int .i64 k ∧ x = .int .i64 v ∧ Hid (BufR w.heap.size N w k v L wr)) (fun _ x _ => (intOf x).toNat)
  case atStart => exact ⟨20, N, [], rfl, rfl, HS⟩
  case round =>
    obtain ⟨k, v, L, rfl, rfl, hB⟩ := hrel
    by_cases hv : 0 < v
    · have hf := hB.out.few hN hv
      have hl := hB.out.len
      obtain ⟨cur, h1, h2, h3⟩ := hB.out.row
      have hvN : v ≤ 999999999999999 := Nat.le_trans hB.out.le hN
      obtain ⟨j, rfl⟩ : ∃ j, k = j + 1 := ⟨k - 1, by omega⟩
      obtain ⟨cv0, hc⟩ : ∃ cv0, wr.cell? ⟨w.heap.size, j, none⟩ = some cv0 := by
        have hc : wr.cell? ⟨w.heap.size, j, none⟩ = cur[j]? := cell_of_row wr _ _ cur 48 (0, 0) h1
        rw [Array.getElem?_eq_getElem (by omega)] at hc
        exact ⟨_, hc⟩
      have hfz : wr.frozen? ⟨w.heap.size, j, none⟩ = false := by simp [World.frozen?, h1]
      have w1 : IntKind.i64.wrap (((j + 1 : Nat) : Int) - 1) = (j : Int) := by rw [IntKind.wrap_i64]; omega
      have w2 : (j : Int) < 20 := by omega
      have HN : Hid (BufR w.heap.size N w j (v / 10) ((48 + (v % 10 : Nat)) :: L) (wr.setCell ⟨w.heap.size, j, none⟩ (.int .u8 (48 + (v % 10 : Nat))))) := BufR.step hB.out (Nat.le_refl _) hv (by omega)
      clear h1 h2 h3 hf hl hB
      go_wp2
      go_roundw
      case rel => exact ⟨j, v / 10, _, rfl, by simp, HN⟩
      case measure => simp [intOf]; omega
    · obtain rfl : v = 0 := by omega
      have hD := hB.out.isDec
      have hl := hB.out.len
      have hf := hD.len hN
      have hL0 : L ≠ [] := by
        obtain ⟨x, t, e, _⟩ := hD.head H0.out
        rw [e]; simp
      have hL1 : 0 < L.length := List.length_pos_iff.2 hL0
      obtain ⟨cur, h1, h2, h3⟩ := hB.out.row
      have w3 : IntKind.i64.wrap (20 - (k : Int)) = ((20 - k : Nat) : Int) := by rw [IntKind.wrap_i64]; omega
      have w2 : (k : Int) < 20 := by omega
      obtain ⟨W1, W2, cv, hmk, hcp, hown, hT⟩ := buf_out B w.heap.size N k w wr L cur h1 h2 h3 hl hB.out.touch HB.out
      have HO : Hid (IsDec N L ∧ W2.ownsRow B 5 1 (.slice (some ⟨wr.heap.size, 0, none⟩) (20 - k) (20 - k)) L.length (ints L) ∧ Touch (fun _ => False) w W2) := ⟨hD, hown, hT⟩
      have hsl := slice48 w.heap.size k (by omega)
      clear hD hown hT h1 h2 h3 hB hl hf hL0 hL1
      go_wp2
      go_ret
      have hsg : sgn false N = [] := by unfold sgn; rw [if_neg (fun h => by cases h.1)]
      refine ⟨L, _, HO.out.1, rfl, ?_, HO.out.2.2⟩
      rw [hsg]
      exact HO.out.2.1

set_option maxHeartbeats 1000000 in
theorem render18_zero (B : Nat) (neg : Bool) (w : World) (hB : B ≤ w.heap.size) : Calls Try.prog 18 #[.int .i64 0, .bool neg] w (RenderPost B 0 neg w) := by
  have HB : Hid (B ≤ w.heap.size) := hB
  clear hB
  obtain ⟨Z, hZ⟩ : ∃ Z, Z = w.alloc (.cells #[.int .u8 0, .int .u8 0, .int .u8 0, .int .u8 0, .int .u8 0, .int .u8 0, .int .u8 0, .int .u8 0, .int .u8 0, .int .u8 0, .int .u8 0, .int .u8 0, .int .u8 0, .int .u8 0, .int .u8 0, .int .u8 0, .int .u8 0, .int .u8 0, .int .u8 0, .int .u8 48] 48) := ⟨_, rfl⟩
  have HS : Hid (BufR w.heap.size 0 w 19 0 [48] Z) := by
    refine ⟨by simp, ⟨_, by rw [hZ]; exact heap_new w _, by simp, by simp [ints]⟩, by rw [hZ]; exact (Touch.refl _ _).alloc _, by simp, by simp [valL], fun h => ⟨rfl, rfl⟩, fun h => absurd rfl h⟩
  have HZ : Hid (Z = w.alloc (.cells #[.int .u8 0, .int .u8 0, .int .u8 0, .int .u8 0, .int .u8 0, .int .u8 0, .int .u8 0, .int .u8 0, .int .u8 0, .int .u8 0, .int .u8 0, .int .u8 0, .int .u8 0, .int .u8 0, .int .u8 0, .int .u8 0, .int .u8 0, .int .u8 0, .int .u8 0, .int .u8 48] 48)) := hZ
  clear hZ
  go_enter Try.func18, Try.ntmps18
  go_wp2
  rw [← HZ.out]
  go_loopw [6, 7] (fun u x wr => u = .int .i64 19 ∧ x = .int .i64 0 ∧ Z = wr) (fun _ _ _ => 0)
  case atStart => exact ⟨rfl, rfl, rfl⟩
  case round =>
    obtain ⟨rfl, rfl, rfl⟩ := hrel
    obtain ⟨cur, h1, h2, h3⟩ := HS.out.row
    have w3 : IntKind.i64.wrap (20 - (19 : Int)) = 1 := by decide
    obtain ⟨W1, W2, cv, hmk, hcp, hown, hT⟩ := buf_out B w.heap.size 0 19 w Z [48] cur h1 h2 h3 (by simp) HS.out.touch HB.out
    have HO : Hid (IsDec 0 [48] ∧ W2.ownsRow B 5 1 (.slice (some ⟨Z.heap.size, 0, none⟩) 1 1) 1 (ints [48]) ∧ Touch (fun _ => False) w W2) := ⟨HS.out.isDec, hown, hT⟩
    have hsl := slice48 w.heap.size 19 (by omega)
    simp only [Nat.reduceSub, Int.cast_ofNat_Int] at hmk hcp hsl
    clear hown hT h1 h2 h3
    have hsg : sgn neg 0 = [] := by unfold sgn; rw [if_neg (fun h => h.2 rfl)]
    cases neg
    all_goals
      go_wp2
      go_ret
      refine ⟨[48], _, HO.out.1, rfl, ?_, HO.out.2.2⟩
      rw [hsg]
      exact HO.out.2.1

theorem render18 (B N : Nat) (neg : Bool) (w : World) (hN : N ≤ 999999999999999) (hB : B ≤ w.heap.size) : Calls Try.prog 18 #[.int .i64 (N : Int), .bool neg] w (RenderPost B N neg w) := by
  by_cases h0 : N = 0
  · subst h0; exact render18_zero B neg w hB
  · cases neg
    · exact render18_pos B N w hN h0 hB
    · exact render18_neg B N w hN h0 hB

end Go.Proofs.Qxb6604050a
