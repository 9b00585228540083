/- b1Sorted (29), b1Tree (7). -/
import Derived.Test.Qxb6604036aTOrd
import Derived.Test.Qxb6604036aLaw4
import Derived.BigQuiet
import Derived.Deep.QuietTactic
namespace Go.Proofs.Qxb6604036a
open Go.RowKit Plain
set_option linter.unusedVariables false
set_option linter.unusedSimpArgs false

theorem Mem.trans' {u v w : World} (h : Mem v w) (h0 : Mem u v) : Mem u w := ⟨h.heap.trans h0.heap, h.os.trans h0.os, h.tape.trans h0.tape, h.output.trans h0.output⟩

theorem sl_le_trans {x y z : ByteArray} (h1 : sl x y = false) (h2 : sl y z = false) : sl x z = false := by
  cases h : sl x z with
  | false => rfl
  | true =>
    cases h3 : sl y x with
    | false => rw [sl_total h1 h3] at h; rw [h] at h2; cases h2
    | true => rw [sl_trans h3 h] at h2; cases h2

theorem sorted_take_succ {l : List ByteArray} {i : Nat} (h1 : 1 ≤ i) (hi : i < l.length) (hs : Sorted sl (l.take i)) (hle : sl l[i] (l[i - 1]'(by omega)) = false) : Sorted sl (l.take (i + 1)) := by
  rw [List.take_succ_eq_append_getElem hi]
  refine List.pairwise_append.2 ⟨hs, by simp, fun a ha b hb => ?_⟩
  simp only [List.mem_singleton] at hb
  subst hb
  obtain ⟨j, hj, rfl⟩ := List.getElem_of_mem ha
  simp only [List.length_take] at hj
  rw [List.getElem_take]
  rcases Nat.lt_or_ge j (i - 1) with h | h
  · have := List.pairwise_iff_getElem.1 hs j (i - 1) (by simp; omega) (by simp; omega) h
    rw [List.getElem_take, List.getElem_take] at this
    exact sl_le_trans hle this
  · obtain rfl : j = i - 1 := by omega
    exact hle

def SortedPost (xs : List ByteArray) (w : World) (e : Ending) (w' : World) : Prop := ∃ r : Bool, e = .returned (.bool r) ∧ Mem w w' ∧ (r = true → Sorted sl xs)

set_option maxHeartbeats 4000000 in
set_option maxRecDepth 100000 in
/-- b1Sorted. -/
theorem sorted29 (B : Nat) (v : Value) (xs : List ByteArray) (w : World) (hv : w.ownsRow B 9 1 v xs.length (strs xs)) :
    Calls Try.prog 29 #[v] w (SortedPost xs w) := by
  obtain ⟨a, c, rfl, hR⟩ := Rd.ofOwns hv
  obtain ⟨n, hn⟩ : ∃ n, n = xs.length := ⟨_, rfl⟩
  have hc1 := hR.1
  have hc2 := hR.2.1
  unfold maxLen at hc2
  rw [← hn] at hc1 ⊢
  have HR : Hid (n = xs.length ∧ Rd w a xs.length c (fun k => xs.getD k ByteArray.empty)) := ⟨hn, hR⟩
  clear hn hR hv
  go_enter Try.func29, Try.ntmps29
  go_wp2
  go_loopw [3] (fun u wr => ∃ k : Nat, 1 ≤ k ∧ (k ≤ n ∨ k = 1) ∧ u = .int .i64 k ∧ Mem w wr ∧ Sorted sl (xs.take k)) (fun u _ => n - (intOf u).toNat)
  case atStart =>
    refine ⟨1, Nat.le_refl _, .inr rfl, rfl, Mem.refl _, ?_⟩
    rcases xs with _ | ⟨x, xs⟩ <;> simp [Sorted]
  case round =>
    obtain ⟨k, hk1, hk, rfl, hm, hs⟩ := hrel
    have HM : Hid (Mem w wr ∧ Sorted sl (xs.take k)) := ⟨hm, hs⟩
    by_cases hlt : k < n
    · obtain ⟨b, off, rfl, hcell⟩ := HR.out.2.2.2 (by rw [← HR.out.1]; omega)
      have hkl : k < xs.length := by rw [← HR.out.1]; exact hlt
      have g1 : wr.cell? ⟨b, off + k, none⟩ = some (.string xs[k]) := by
        have := hcell k hkl
        simp only [List.getD_eq_getElem?_getD, List.getElem?_eq_getElem hkl, Option.getD_some] at this
        rw [← this]; simp [World.cell?, hm.heap]
      have g2 : wr.cell? ⟨b, off + (k - 1), none⟩ = some (.string (xs[k - 1]'(by omega))) := by
        have := hcell (k - 1) (by omega)
        simp only [List.getD_eq_getElem?_getD, List.getElem?_eq_getElem (by omega : k - 1 < xs.length), Option.getD_some] at this
        rw [← this]; simp [World.cell?, hm.heap]
      obtain ⟨x, hx⟩ : ∃ x, x = xs[k] := ⟨_, rfl⟩
      obtain ⟨y, hy⟩ : ∃ y, y = xs[k - 1]'(by omega) := ⟨_, rfl⟩
      rw [← hx] at g1
      rw [← hy] at g2
      have HXY : Hid (x = xs[k] ∧ y = xs[k - 1]'(by omega)) := ⟨hx, hy⟩
      have hkI : (k : Int) < (n : Int) := by omega
      have hk0 : (1 : Int) ≤ (k : Int) := by omega
      obtain ⟨q, rfl⟩ : ∃ q, k = q + 1 := ⟨k - 1, by omega⟩
      simp only [Nat.add_sub_cancel] at g2
      clear hcell hm hs hx hy
      cases hxy : sl x y
      · have hle : Op.bytesLess x.toList y.toList = false := hxy
        go_wp2
        go_quiet (fail)
        go_wp2
        go_roundw
        case rel =>
          refine ⟨q + 1 + 1, by omega, .inl (by omega), by go_num, (mem_drewN wr _).trans' HM.out.1, ?_⟩
          refine sorted_take_succ (by omega) hkl HM.out.2 ?_
          have := HXY.out
          rw [← this.1, ← this.2]; exact hxy
        case measure => simp [intOf]; omega
      · have hle : Op.bytesLess x.toList y.toList = true := hxy
        go_wp2
        go_quiet (fail)
        go_wp2
        go_ret
        exact ⟨false, rfl, (mem_drewN wr _).trans' HM.out.1, by simp⟩
    · have hkI : ¬ (k : Int) < (n : Int) := by omega
      clear hm hs
      go_wp2
      go_ret
      refine ⟨true, rfl, HM.out.1, fun _ => ?_⟩
      have := HM.out.2
      rwa [List.take_of_length_le (by rw [← HR.out.1]; omega)] at this

theorem weave_le {α : Type} : ∀ (L : List (List α)) (ks : List α), (weave L ks).length ≤ ks.length + (L.map List.length).sum
  | [], ks => by simp [weave]
  | l :: L, [] => by
    have := weave_le L []
    simp [weave] at this ⊢
    omega
  | l :: L, x :: ks => by
    have := weave_le L ks
    simp [weave] at this ⊢
    omega

theorem sum_map_le {α : Type} (g g' : α → Nat) : ∀ l : List α, (∀ x ∈ l, g x ≤ g' x) → (l.map g).sum ≤ (l.map g').sum
  | [], _ => Nat.le_refl _
  | x :: l, h => by
    have := sum_map_le g g' l fun y hy => h y (List.mem_cons_of_mem _ hy)
    have := h x (List.mem_cons_self ..)
    simp; omega

theorem ordI_le : ∀ (f : Nat) (t : IT f), (ordI f t).length ≤ cnt f t
  | 0, _ => Nat.le_refl _
  | f + 1, none => Nat.le_refl _
  | f + 1, some (ks, cs) => by
    show (if cs.length = 0 then ks else weave (cs.map (ordI f)) ks).length ≤ ks.length + (cs.map (cnt f)).sum
    split
    · omega
    · have h1 := weave_le (cs.map (ordI f)) ks
      have h2 := sum_map_le (fun c => (ordI f c).length) (cnt f) cs fun c _ => ordI_le f c
      rw [List.map_map] at h1
      have e : (List.length ∘ ordI f) = fun c => (ordI f c).length := rfl
      rw [e] at h1
      omega

/-- An inner root holds a key. -/
def rootI : (f : Nat) → IT f → Prop
  | 0, _ => True
  | _ + 1, none => True
  | _ + 1, some (ks, cs) => 0 < cs.length → 0 < ks.length

/-- What b1Tree answers. -/
def TreePost (f : Nat) (t : IT f) (b0 : Nat) (w : World) (e : Ending) (w' : World) : Prop :=
  ∃ (x : Int) (v : Value) (ok : Bool), e = .returned (.tuple #[.int .i64 x, v, .bool ok]) ∧ Touch (fun _ => False) w w' ∧
    (ok = true → ∃ h : Nat, x = (h : Int) + 1 ∧ okI f t 0 h ∧ h ≤ 64 ∧ rootI f t ∧ w'.ownsRow w.heap.size 9 1 v (ordI f t).length (strs (ordI f t)) ∧ Sorted sl (ordI f t) ∧ 16 * cnt f t ≤ b0)

set_option maxHeartbeats 4000000 in
set_option maxRecDepth 100000 in
/-- b1Tree. -/
theorem tree7 (f : Nat) (t : IT f) (v : Value) (b0 : Nat) (w : World) (hin : In w f t v) (hb0 : b0 ≤ 1048576) : Calls Try.prog 7 #[v, .int .i64 b0] w (TreePost f t b0 w) := by
  have HIN : Hid (In w f t v) := hin
  obtain ⟨av, hv⟩ := hin.ptr
  subst hv
  obtain ⟨W0, hW0⟩ : ∃ W0, W0 = w.alloc (.cells #[.int .i64 b0] 3) := ⟨_, rfl⟩
  have HB0 : Hid (Below w.heap.size w W0 ∧ BudAt W0 w.heap.size b0 ∧ Touch (fun _ => False) w W0) := by
    rw [hW0]
    refine ⟨?_, heap_new w _, (Touch.refl _ _).alloc _⟩
    exact ((Touch.refl (S := fun _ => False) w).alloc _).below (Nat.le_refl _) fun q hq => hq.elim
  have hc26 : Hid (Calls Try.prog 26 #[.pointer av, .int .i64 0, .pointer (some ⟨w.heap.size, 0, none⟩)] W0 (MeasPost w.heap.size b0 (cnt f t) W0)) := meas26 w w.heap.size (Nat.le_refl _) f t _ 0 b0 W0 hin HB0.out.1 HB0.out.2.1 (by omega) (by omega) (by omega)
  go_enter Try.func7, Try.ntmps7
  go_wp2_with fail
  rw [← hW0]
  clear hW0 hin
  refine hc26.out.mono ?_
  clear hc26
  rintro e w1 ⟨r1, rfl, hT1, b1, hb1, hr1⟩
  have hT1' : Touch (fun _ => False) w w1 := HB0.out.2.2.trans hT1 fun k hk h => by omega
  have HT1 : Hid (Touch (fun _ => False) w w1 ∧ Below w.heap.size w w1) := ⟨hT1', hT1'.below (Nat.le_refl _) fun q hq => hq.elim⟩
  have HM1 : Hid (r1 = true → 0 ≤ b1 ∧ b1 + 16 * (cnt f t : Int) ≤ b0) := hr1
  clear hT1 hT1' hb1 hr1
  cases r1
  · go_wp2
    go_ret3
    exact ⟨0, .slice none 0 0, false, rfl, HT1.out.1, by simp⟩
  have hc27 : Hid (Calls Try.prog 27 #[.pointer av, .int .i64 0, .int .i64 0] w1 (ValidPost f t 0 0 w1)) := valid27 w1 f t _ 0 0 (HIN.out.below HT1.out.2) (by omega) (by omega)
  go_wp2_with fail
  refine hc27.out.mono ?_
  clear hc27
  rintro e w2 ⟨rfl, x, ok, rfl, hok⟩
  have HOK : Hid (ok = true → ∃ h : Nat, x = (h : Int) + 1 ∧ okI f t 0 h ∧ h + 0 ≤ 64) := hok
  clear hok
  cases ok
  · go_wp2
    go_ret3
    exact ⟨0, .slice none 0 0, false, rfl, HT1.out.1, by simp⟩
  obtain ⟨h, hx, hokI, hh⟩ := HOK.out rfl
  match f, t, hokI, HIN, HM1 with
  | f + 1, some (ks, cs), hokI, HIN, HM1 =>
  clear HOK
  obtain ⟨b, off, ka, kc, ca, cc, hav, h1, h2, h3, h4, h5, h6, h7⟩ := HIN.out
  cases hav
  have c1 : w1.cell? ⟨b, off, none⟩ = some (.slice ka ks.length kc) := Below.keeps HT1.out.2 _ _ h1
  have c2 : w1.cell? ⟨b, off + 1, none⟩ = some (.slice ca cs.length cc) := Below.keeps HT1.out.2 _ _ h2
  have HOK : Hid (x = (h : Int) + 1 ∧ okI (f + 1) (some (ks, cs)) 0 h ∧ h ≤ 64) := ⟨hx, hokI, by omega⟩
  have hkc := h3.1
  have hkm := h3.2.1
  unfold maxLen at hkm h6
  obtain ⟨n, hn⟩ : ∃ n, n = ks.length := ⟨_, rfl⟩
  obtain ⟨m, hm⟩ : ∃ m, m = cs.length := ⟨_, rfl⟩
  have HNM : Hid (n = ks.length ∧ m = cs.length) := ⟨hn, hm⟩
  rw [← hn] at c1 hkc
  rw [← hm] at c2 h5
  clear hx hokI hh h1 h2 h3 h4 h7 hn hm
  have hc28 : Hid (Calls Try.prog 28 #[.pointer (some ⟨b, off, none⟩), .slice none 0 0] w1 (OrdPost w.heap.size (.slice none 0 0) [] (ordI (f + 1) (some (ks, cs))) w1)) :=
    order28 w (f + 1) (some (ks, cs)) _ 0 h HOK.out.2.1 HIN.out (.slice none 0 0) [] w1 HT1.out.2 (World.ownsRow_nil _ _ _ _) (by
      have h1 := ordI_le (f + 1) (some (ks, cs))
      have h2 := HM1.out (by trivial)
      simp only [List.length_nil]
      omega)
  by_cases hm0 : m = 0
  · subst hm0
    go_wp2_with fail
    refine hc28.out.mono ?_
    clear hc28
    rintro e w2 ⟨v2, rfl, hO2⟩
    have HO2 : Hid (OrdRow w.heap.size (.slice none 0 0) [] (ordI (f + 1) (some (ks, cs))) w1 v2 w2) := hO2
    have hc29 : Hid (Calls Try.prog 29 #[v2] w2 (SortedPost (ordI (f + 1) (some (ks, cs))) w2)) := sorted29 w.heap.size v2 _ w2 (by simpa using hO2.owns)
    have HT2 : Hid (Touch (fun _ => False) w w2) := HT1.out.1.trans hO2.touch fun k _ h => by cases h
    clear hO2
    go_wp2_with fail
    refine hc29.out.mono ?_
    clear hc29
    rintro e w3 ⟨r3, rfl, hm3, hs3⟩
    have H3 : Hid (Mem w2 w3 ∧ (r3 = true → Sorted sl (ordI (f + 1) (some (ks, cs))))) := ⟨hm3, hs3⟩
    clear hm3 hs3
    cases r3
    · go_wp2
      go_ret3
      exact ⟨0, .slice none 0 0, false, rfl, H3.out.1.touch HT2.out, by simp⟩
    · go_wp2
      go_ret3
      refine ⟨x, v2, true, rfl, H3.out.1.touch HT2.out, fun _ => ⟨h, HOK.out.1, HOK.out.2.1, HOK.out.2.2, ?_, ?_, H3.out.2 (by trivial), ?_⟩⟩
      · show 0 < cs.length → 0 < ks.length
        rw [← HNM.out.1, ← HNM.out.2]; omega
      · have := HO2.out.owns
        exact ownsRow_same this fun k _ => by rw [H3.out.1.heap]
      · have := HM1.out (by trivial)
        omega
  · by_cases hn0 : n = 0
    · subst hn0
      have hm0I : (0 : Int) < (m : Int) := by omega
      go_wp2
      go_ret3
      exact ⟨0, .slice none 0 0, false, rfl, HT1.out.1, by simp⟩
    · have hm0I : (0 : Int) < (m : Int) := by omega
      have hn0I : ((n : Int) == 0) = false := by simp; omega
      go_wp2_with fail
      refine hc28.out.mono ?_
      clear hc28
      rintro e w2 ⟨v2, rfl, hO2⟩
      have HO2 : Hid (OrdRow w.heap.size (.slice none 0 0) [] (ordI (f + 1) (some (ks, cs))) w1 v2 w2) := hO2
      have hc29 : Hid (Calls Try.prog 29 #[v2] w2 (SortedPost (ordI (f + 1) (some (ks, cs))) w2)) := sorted29 w.heap.size v2 _ w2 (by simpa using hO2.owns)
      have HT2 : Hid (Touch (fun _ => False) w w2) := HT1.out.1.trans hO2.touch fun k _ h => by cases h
      clear hO2
      go_wp2_with fail
      refine hc29.out.mono ?_
      clear hc29
      rintro e w3 ⟨r3, rfl, hm3, hs3⟩
      have H3 : Hid (Mem w2 w3 ∧ (r3 = true → Sorted sl (ordI (f + 1) (some (ks, cs))))) := ⟨hm3, hs3⟩
      clear hm3 hs3
      cases r3
      · go_wp2
        go_ret3
        exact ⟨0, .slice none 0 0, false, rfl, H3.out.1.touch HT2.out, by simp⟩
      · go_wp2
        go_ret3
        refine ⟨x, v2, true, rfl, H3.out.1.touch HT2.out, fun _ => ⟨h, HOK.out.1, HOK.out.2.1, HOK.out.2.2, ?_, ?_, H3.out.2 (by trivial), ?_⟩⟩
        · show 0 < cs.length → 0 < ks.length
          rw [← HNM.out.1, ← HNM.out.2]; omega
        · have := HO2.out.owns
          exact ownsRow_same this fun k _ => by rw [H3.out.1.heap]
        · have := HM1.out (by trivial)
          omega

end Go.Proofs.Qxb6604036a
