/- ZZRemove (21), b1WithRemoved (22). -/
import Derived.Test.Qxb6604036aRem5
import Derived.Test.Qxb6604036aPath
namespace Go.Proofs.Qxb6604036a
open Go.RowKit Plain
set_option linter.unusedVariables false
set_option linter.unusedSimpArgs false
attribute [local go_sem ↓] Go.wp_at_zero Go.wp_at_succ

/-- ZZRemove. -/
theorem remove21 (B h : Nat) (t : AT h) (x : ByteArray) (w : World) (hL : Lies B w h t) (hnd : (foot h t).Nodup) (hok : okT h (if h = 0 then 0 else 1) t) (hs : Sorted sl (inorder h t)) :
    Calls Try.prog 21 #[.pointer (some ⟨(hd h t).p, 0, none⟩), .string x] w (RemPost B h t x w) := by
  have hc : Hid (Calls Try.prog 32 #[.pointer (some ⟨(hd h t).p, 0, none⟩), .string x] w (RemPost B h t x w)) := removeT B h t x w hL hnd hok hs
  clear hL hnd hok hs
  go_enter Try.func21, Try.ntmps21
  go_wp2_with fail
  refine hc.out.mono ?_
  clear hc
  rintro e w1 ⟨rfl, hP⟩
  have HP : Hid (∃ t' : AT h, KeptT B h t t' w w1 ∧ okT h ((hd h t).ks.length - 1) t' ∧ inorder h t' = srem x (inorder h t)) := hP
  clear hP
  go_wp2
  go_end0
  exact ⟨rfl, HP.out⟩

/-- What is still to come. -/
def rest (x : ByteArray) (g : Bool) (l : List ByteArray) : List ByteArray := if g then l else srem x l

set_option maxHeartbeats 4000000 in
set_option maxRecDepth 100000 in
/-- b1WithRemoved. -/
theorem with22 (B : Nat) (v : Value) (xs : List ByteArray) (x : ByteArray) (w : World) (hv : w.ownsRow B 9 1 v xs.length (strs xs)) (hl : xs.length ≤ 1048575) (hB : B ≤ w.heap.size) : Calls Try.prog 22 #[v, .string x] w (WithPost B (srem x xs) w) := by
  obtain ⟨a, c, rfl, hR⟩ := Rd.ofOwns hv
  obtain ⟨n, hn⟩ : ∃ n, n = xs.length := ⟨_, rfl⟩
  obtain ⟨i0, hi0, hz0, hzs, hzb⟩ := infoS
  obtain ⟨R0, hR0⟩ : ∃ R0, R0 = madeCells (Value.string ⟨#[]⟩).cells (n * i0.size) := ⟨_, rfl⟩
  have hmk : (Instr.makeSlice 23 (.int .i64 0) (.int .i64 (n : Int))).run Try.prog w = .ok (.slice (some ⟨w.heap.size, 0, none⟩) 0 n) (w.alloc (.cells R0 9)) := by
    have := run_make (P := Try.prog) w 23 9 i0 _ Try.underlying23 hi0 hz0 .i64 .i64 0 ((n : Nat) : Int) (by omega) (by omega) (by rw [hzb]; omega) (by omega)
    rw [hR0]
    simp only [Int.toNat_zero, Int.toNat_natCast] at this
    exact this
  have hR0s : R0.size = n := by rw [hR0, size_madeCells, hzs]; omega
  have HST : Hid (FR B w [] (.slice (some ⟨w.heap.size, 0, none⟩) 0 n) (w.alloc (.cells R0 9))) :=
    ⟨⟨rfl, .inr ⟨w.heap.size, n, R0, rfl, hB, heap_new w _, by simp, by unfold maxLen; omega, by omega, by simp [strs]⟩⟩, ⟨w.heap.size, rfl, Nat.le_refl _⟩, (Touch.refl _ _).alloc _⟩
  have HR : Hid (n = xs.length ∧ Rd w a xs.length c (fun k => xs.getD k ByteArray.empty)) := ⟨hn, hR⟩
  have hc1 := hR.1
  have hc2 := hR.2.1
  unfold maxLen at hc2
  rw [← hn] at hc1 hl ⊢
  clear hn hR hv hi0 hz0 hzs hzb hR0 hR0s
  have hcell : ∀ wr, Touch (fun _ => False) w wr → ∀ k, k < n → Hid (∃ b o, a = some ⟨b, o, none⟩ ∧ wr.cell? ⟨b, o + k, none⟩ = some (.string (xs.getD k ByteArray.empty))) := fun wr ht k hk => by
    obtain ⟨b, o, e, hh⟩ := HR.out.2.2.2 (by rw [← HR.out.1]; omega)
    have := hh k (by rw [← HR.out.1]; exact hk)
    refine ⟨b, o, e, ?_⟩
    rw [← this]
    exact World.cell?_of_block (ht.block _ (World.block_lt_of_cell? w _ this) id)
  have HCELL : Hid (∀ wr, Touch (fun _ => False) w wr → ∀ k, k < n → Hid (∃ b o, a = some ⟨b, o, none⟩ ∧ wr.cell? ⟨b, o + k, none⟩ = some (.string (xs.getD k ByteArray.empty)))) := hcell
  clear hcell
  have hgd : Hid (∀ k, k < n → xs.drop k = xs.getD k ByteArray.empty :: xs.drop (k + 1)) := fun k hk => by
    have hk' : k < xs.length := by rw [← HR.out.1]; exact hk
    rw [List.drop_eq_getElem_cons hk', List.getD_eq_getElem?_getD, List.getElem?_eq_getElem hk']; rfl
  go_enter Try.func22, Try.ntmps22
  go_wp2
  clear hmk
  go_loopw [5, 6, 7] (fun u5 u6 u7 wr => ∃ (i : Nat) (g : Bool), u7 = .int .i64 i ∧ u6 = .bool g ∧ i ≤ n ∧ Hid (∃ A, FR B w A u5 wr ∧ A.length ≤ i ∧ A ++ rest x g (xs.drop i) = srem x xs)) (fun _ _ u _ => n - (intOf u).toNat)
  case atStart => exact ⟨0, false, rfl, rfl, Nat.zero_le _, [], HST.out, Nat.zero_le _, by simp [rest]⟩
  case round =>
    obtain ⟨i, g, rfl, rfl, hi, hA⟩ := hrel
    obtain ⟨A, hF, hAl, hAe⟩ := hA.out
    clear hA
    by_cases hin : i < n
    · obtain ⟨b, o, rfl, hck⟩ := (HCELL.out wr hF.touch i hin).out
      obtain ⟨y, hy⟩ : ∃ y, y = xs.getD i ByteArray.empty := ⟨_, rfl⟩
      have hiI : (i : Int) < (n : Int) := by omega
      rw [hgd.out i hin] at hAe
      rw [← hy] at hck hAe
      obtain ⟨v2, w2, hr2, hF2⟩ := hF.app hB (by omega) y
      have HR2 : Hid ((Builtin.append_ #[23, 23] 23 #[u5, .slice (some ⟨wr.heap.size, 0, none⟩) 1 1]).run Try.prog (wr.alloc (.cells #[.string y] 9)) = .ok v2 w2) := hr2
      have HF2 : Hid (FR B w (A ++ [y]) v2 w2) := hF2
      have HF : Hid (FR B w A u5 wr) := hF
      clear hF hF2 hr2 hy
      cases g
      · by_cases hyx : y = x
        · have HA : Hid (A.length ≤ i ∧ A ++ rest x true (xs.drop (i + 1)) = srem x xs) := ⟨hAl, by
            rw [← hAe]
            simp [rest, srem, hyx]⟩
          have hne : (y.toList == x.toList) = true := by simp [hyx]
          clear hAl hAe hyx HR2 HF2
          go_wp2
          go_roundw
          case rel => exact ⟨i + 1, true, by go_num, rfl, by omega, A, HF.out, by have := HA.out.1; omega, HA.out.2⟩
          case measure => simp [intOf]; omega
        · have HA : Hid ((A ++ [y]).length ≤ i + 1 ∧ (A ++ [y]) ++ rest x false (xs.drop (i + 1)) = srem x xs) := ⟨by simp; omega, by
            rw [← hAe]
            simp [rest, srem, hyx]⟩
          have hne : (y.toList == x.toList) = false := by rw [beq_eq_false_iff_ne]; exact fun h => hyx (toList_inj h)
          clear hAl hAe hyx HF
          go_wp2_with (at_builtin; refine Lib.wpList_append_run _ rfl _ _ 23 23 rfl _ _ rfl rfl _ _ HR2.out ?_)
          go_roundw
          case rel => exact ⟨i + 1, false, by go_num, rfl, by omega, A ++ [y], HF2.out, HA.out.1, HA.out.2⟩
          case measure => simp [intOf]; omega
      · have HA : Hid ((A ++ [y]).length ≤ i + 1 ∧ (A ++ [y]) ++ rest x true (xs.drop (i + 1)) = srem x xs) := ⟨by simp; omega, by
          rw [← hAe]
          simp [rest]⟩
        clear hAl hAe HF
        go_wp2_with (at_builtin; refine Lib.wpList_append_run _ rfl _ _ 23 23 rfl _ _ rfl rfl _ _ HR2.out ?_)
        go_roundw
        case rel => exact ⟨i + 1, true, by go_num, rfl, by omega, A ++ [y], HF2.out, HA.out.1, HA.out.2⟩
        case measure => simp [intOf]; omega
    · obtain rfl : i = n := by omega
      have hiI : ¬ (i : Int) < (i : Int) := by omega
      have HF : Hid (FR B w (srem x xs) u5 wr) := by
        have h0 : xs.drop i = [] := List.drop_eq_nil_of_le (by rw [← HR.out.1]; exact Nat.le_refl _)
        rw [h0] at hAe
        have h1 : rest x g [] = [] := by cases g <;> simp [rest, srem]
        rw [h1, List.append_nil] at hAe
        rw [← hAe]; exact hF
      clear hF hAe hAl
      go_wp2
      go_ret
      exact ⟨_, rfl, HF.out⟩

end Go.Proofs.Qxb6604036a
