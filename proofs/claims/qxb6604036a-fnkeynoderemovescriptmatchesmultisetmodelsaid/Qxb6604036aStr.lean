/- The order on strings and the search: cmp.Less, isNaN, slices.BinarySearch at []string. -/
import Derived.Test.Qxb6604036aRows
import Derived.WalkKit
import Derived.WalkSpells
import Derived.WalkLawsBesides
import Derived.Lib.Strings
namespace Go.Proofs.Qxb6604036a
open Go.RowKit

/-- Go's '<' on strings. -/
def sl (x y : ByteArray) : Bool := Op.bytesLess x.toList y.toList

theorem toList_inj {x y : ByteArray} (h : x.toList = y.toList) : x = y := by
  rw [Lib.toList_data, Lib.toList_data] at h
  cases x with
  | mk a => cases y with
    | mk b => exact congrArg ByteArray.mk (Array.toList_inj.1 h)

theorem bl_irrefl : ∀ x : List UInt8, Op.bytesLess x x = false
  | [] => rfl
  | a :: x => by simp [Op.bytesLess, bl_irrefl x]

theorem bl_trans : ∀ x y z : List UInt8, Op.bytesLess x y = true → Op.bytesLess y z = true → Op.bytesLess x z = true
  | x, [], z, h, _ => by cases x <;> simp [Op.bytesLess] at h
  | x, b :: y, [], _, h => by simp [Op.bytesLess] at h
  | [], b :: y, c :: z, _, _ => by simp [Op.bytesLess]
  | a :: x, b :: y, c :: z, h1, h2 => by
    have ih := bl_trans x y z
    simp only [Op.bytesLess, Bool.or_eq_true, Bool.and_eq_true, decide_eq_true_eq, beq_iff_eq, UInt8.lt_iff_toNat_lt] at h1 h2 ⊢
    rcases h1 with h1 | ⟨rfl, h1⟩
    · rcases h2 with h2 | ⟨rfl, h2⟩
      · exact .inl (by omega)
      · exact .inl h1
    · rcases h2 with h2 | ⟨rfl, h2⟩
      · exact .inl h2
      · exact .inr ⟨rfl, ih h1 h2⟩

theorem bl_total : ∀ x y : List UInt8, Op.bytesLess x y = false → Op.bytesLess y x = false → x = y
  | [], [], _, _ => rfl
  | [], _ :: _, h, _ => by simp [Op.bytesLess] at h
  | _ :: _, [], _, h => by simp [Op.bytesLess] at h
  | a :: x, b :: y, h1, h2 => by
    have ih := bl_total x y
    simp only [Op.bytesLess, Bool.or_eq_false_iff, Bool.and_eq_false_iff, decide_eq_false_iff_not, beq_eq_false_iff_ne, UInt8.lt_iff_toNat_lt] at h1 h2
    have e : a = b := UInt8.toNat_inj.1 (by omega)
    subst e
    rw [ih (h1.2.resolve_left (by simp)) (h2.2.resolve_left (by simp))]

theorem sl_irrefl (x : ByteArray) : sl x x = false := bl_irrefl _
theorem sl_trans {x y z : ByteArray} (h1 : sl x y = true) (h2 : sl y z = true) : sl x z = true := bl_trans _ _ _ h1 h2
theorem sl_total {x y : ByteArray} (h1 : sl x y = false) (h2 : sl y x = false) : x = y := toList_inj (bl_total _ _ h1 h2)

theorem less40 (x y : ByteArray) (w : World) : Calls Try.prog 40 #[.string x, .string y] w fun e w' => e = .returned (.bool (sl x y)) ∧ w' = w := by
  go_enter Try.func40, Try.ntmps40
  go_wp2
  go_ret
  exact ⟨by simp [sl], rfl⟩
theorem isNaN41 (x : ByteArray) (w : World) : Calls Try.prog 41 #[.string x] w fun e w' => e = .returned (.bool false) ∧ w' = w := by
  go_enter Try.func41, Try.ntmps41
  go_wp2
  go_ret
  exact ⟨by simp, rfl⟩

/-- What slices.BinarySearch gives over a row 'S 0 .. S (n-1)' in which what is below x stands ahead. -/
def SearchPost (S : Nat → ByteArray) (n : Nat) (x : ByteArray) (w : World) (e : Ending) (w' : World) : Prop :=
  w' = w ∧ ∃ i : Nat, ∃ f : Bool, i ≤ n ∧ e = .returned (.tuple #[.int .i64 i, .bool f]) ∧
      (f = true ↔ i < n ∧ S i = x) ∧ (∀ k, k < i → sl (S k) x = true) ∧ (∀ k, i ≤ k → k < n → sl (S k) x = false)

set_option maxHeartbeats 4000000 in
set_option maxRecDepth 100000 in
theorem search33_some (b off n c : Nat) (S : Nat → ByteArray) (x : ByteArray) (w : World) (hn : n ≤ 4611686018427387904)
    (hcell : ∀ k, k < n → w.cell? ⟨b, off + k, none⟩ = some (.string (S k))) (hm : ∀ k l, k ≤ l → l < n → sl (S l) x = true → sl (S k) x = true) :
    Calls Try.prog 33 #[.slice (some ⟨b, off, none⟩) n c, .string x] w (SearchPost S n x w) := by
  have HM : Hid (∀ k l, k ≤ l → l < n → sl (S l) x = true → sl (S k) x = true) := hm
  clear hm
  go_enter Try.func33, Try.ntmps33
  go_wp2
  go_loop [7, 8] (fun u v => ∃ i j : Nat, i ≤ j ∧ j ≤ n ∧ u = .int .i64 i ∧ v = .int .i64 j ∧ Hid ((∀ k, k < i → sl (S k) x = true) ∧ (∀ k, j ≤ k → k < n → sl (S k) x = false))) (fun u v => (intOf v - intOf u).toNat)
  case atStart => exact ⟨0, n, by omega, by omega, rfl, rfl, ⟨by omega, by omega⟩⟩
  case round =>
    obtain ⟨i, j, hij, hjn, rfl, rfl, hI⟩ := hrel
    by_cases hlt : i < j
    · have cm : w.cell? ⟨b, off + (i + j) / 2, none⟩ = some (.string (S ((i + j) / 2))) := hcell _ (by omega)
      clear hcell
      obtain ⟨y, hy⟩ : ∃ y, S ((i + j) / 2) = y := ⟨_, rfl⟩
      rw [hy] at cm
      have HY : Hid (S ((i + j) / 2) = y) := hy
      clear hy
      cases hyx : sl y x
      · go_wp2_with (go_at_call 40; refine (less40 _ _ _).mono ?_; rintro e w' ⟨rfl, rfl⟩)
        go_round
        case rel =>
          refine ⟨i, (i + j) / 2, by omega, by omega, rfl, by rw [show ((i : Int) + (j : Int)) / 2 = (((i + j) / 2 : Nat) : Int) by omega], hI.out.1, fun k h1 h2 => ?_⟩
          cases hk : sl (S k) x with
          | false => rfl
          | true => rw [← HY.out, HM.out _ k h1 h2 hk] at hyx; cases hyx
        case measure => simp [intOf]; omega
      · go_wp2_with (go_at_call 40; refine (less40 _ _ _).mono ?_; rintro e w' ⟨rfl, rfl⟩)
        go_round
        case rel =>
          exact ⟨(i + j) / 2 + 1, j, by omega, by omega, by rw [show ((i : Int) + (j : Int)) / 2 + 1 = (((i + j) / 2 + 1 : Nat) : Int) by omega], rfl, fun k hk => HM.out k ((i + j) / 2) (by omega) (by omega) (by rw [HY.out]; exact hyx), hI.out.2⟩
        case measure => simp [intOf]; omega
    · have : j = i := by omega
      subst this
      by_cases hn' : j < n
      · have cl : w.cell? ⟨b, off + j, none⟩ = some (.string (S j)) := hcell _ hn'
        clear hcell
        obtain ⟨y, hy⟩ : ∃ y, S j = y := ⟨_, rfl⟩
        rw [hy] at cl
        have HY : Hid (S j = y) := hy
        clear hy
        by_cases hyx : y = x
        · have hb : (y.toList == x.toList) = true := by simp [hyx]
          have HX : Hid (y = x) := hyx
          clear hyx
          go_wp2_with (go_at_call 41; refine (isNaN41 _ _).mono ?_; rintro e w' ⟨rfl, rfl⟩)
          go_ret2
          refine ⟨rfl, j, true, hjn, rfl, by simp [hn', HY.out, HX.out], hI.out.1, hI.out.2⟩
        · have hb : (y.toList == x.toList) = false := by
            rw [beq_eq_false_iff_ne]; exact fun h => hyx (toList_inj h)
          have HX : Hid (y ≠ x) := hyx
          clear hyx
          go_wp2_with (go_at_call 41; refine (isNaN41 _ _).mono ?_; rintro e w' ⟨rfl, rfl⟩)
          go_ret2
          refine ⟨rfl, j, false, hjn, rfl, by simp [HY.out, HX.out], hI.out.1, hI.out.2⟩
      · clear hcell
        go_wp2_with (go_at_call 41; refine (isNaN41 _ _).mono ?_; rintro e w' ⟨rfl, rfl⟩)
        go_ret2
        refine ⟨rfl, j, false, hjn, rfl, by simp [hn'], hI.out.1, hI.out.2⟩

set_option maxHeartbeats 1000000 in
theorem search33_none (a : Option Addr) (c : Nat) (x : ByteArray) (w : World) :
    Calls Try.prog 33 #[.slice a 0 c, .string x] w fun e w' => w' = w ∧ e = .returned (.tuple #[.int .i64 0, .bool false]) := by
  go_enter Try.func33, Try.ntmps33
  go_wp2
  go_loop [7, 8] (fun s7 s8 => s7 = .int .i64 0 ∧ s8 = .int .i64 0) (fun _ _ => 0)
  case atStart => exact ⟨rfl, rfl⟩
  case round =>
    obtain ⟨rfl, rfl⟩ := hrel
    go_wp2
    go_ret2
    exact ⟨rfl, rfl⟩
end Go.Proofs.Qxb6604036a
