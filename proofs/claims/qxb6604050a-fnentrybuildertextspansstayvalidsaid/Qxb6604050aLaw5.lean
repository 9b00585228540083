/- FnEntryBuilderTextSpansStayValid (5): the walk. -/
import Derived.Test.Qxb6604050aSp
namespace Go.Proofs.Qxb6604050a
open Go.RowKit
set_option linter.unusedVariables false
set_option linter.unusedSimpArgs false
attribute [local go_sem ↓] Go.wp_at_zero Go.wp_at_succ

theorem mem_drewN5 {w w' : World} (h : Mem w w') (n : Nat) : Mem w (w'.drewN n) := ⟨h.heap, h.os, h.tape, h.output⟩

set_option maxHeartbeats 8000000 in
set_option maxRecDepth 100000 in
theorem law5 (a t s : Option Addr) (n c nt ct na ca : Nat) (S : Nat → Int) (A : Nat → Option Addr) (M D : Nat → Nat) (T : Nat → Nat → Int) (Z : Nat → Int) (w : World) (h0 : Arg w a n c S) (hT : Texts w t nt ct A M D T) (hZ : Ats w s na ca Z) :
    Calls Try.prog 5 #[.slice a n c, .slice t nt ct, .slice s na ca] w (LawPost5 w) := by
  have hn := h0.rd.1; have hc := h0.rd.2.1
  have hnt := hT.len; have hct := hT.cap
  have hna := hZ.len; have hca := hZ.cap
  have HG : Hid (Calls Try.prog 16 #[.slice a n c, .slice t nt ct, .slice s na ca] w (BoolPost w)) := guard16 a t s n c nt ct na ca A M D T w (by omega) hT (by omega)
  have HM : Hid (Mid5 w n S (.slice a n c) w) := ⟨Touch.refl _ _, ⟨a, c, rfl, h0.rd⟩⟩
  have HX : Hid (Texts w t nt ct A M D T ∧ Ats w s na ca Z) := ⟨hT, hZ⟩
  unfold maxLen at hc hct hca
  clear h0 hT hZ
  have hneq := fun w a n c => run_neq_slice_nil_any (P := Try.prog) w 22 5 a n c 0 0 Try.underlying22
  have heq := fun w a n c => Lib.run_eql_slice_nil (P := Try.prog) w 22 5 a n c 0 0 Try.underlying22
  go_enter Try.func5, Try.ntmps5
  go_wp2_with fail
  refine HG.out.mono ?_
  rintro e w1 ⟨r, rfl, rfl⟩
  cases r
  · go_wp2
    go_ret
    exact ⟨rfl, Below.refl _ _⟩
  by_cases l1 : n ≤ 1048576
  case neg =>
    go_wp2
    go_ret
    exact ⟨rfl, Below.refl _ _⟩
  by_cases l2 : nt ≤ 65536
  case neg =>
    go_wp2
    go_ret
    exact ⟨rfl, Below.refl _ _⟩
  by_cases l3 : na ≤ 65536
  case neg =>
    go_wp2
    go_ret
    exact ⟨rfl, Below.refl _ _⟩
  go_upto_if 44 with fail
  go_cut [0, 7] (fun v0 _ wc => Hid (Mid5 w n S v0 wc))
  case first =>
    cases a with
    | none =>
      go_wp2
      go_meet
      case rel => exact HM.out
    | some x =>
      obtain ⟨bel, ⟨a', c', e', hA⟩⟩ := HM.out
      cases e'
      obtain ⟨W1, W2, cv, hmk, hT1, hcp, hown, hT2, hsz⟩ := bytesRow w.heap.size w (some x) n c S hA (by omega) (Nat.le_refl _)
      have HP : Hid (Mid5 w n S (.slice (some ⟨w.heap.size, 0, none⟩) n n) W2) := ⟨hT2, ⟨_, _, rfl, Rb.ofRow hown⟩⟩
      clear hA hown hT1 hT2 bel
      go_wp2
      go_meet
      case rel => exact HP.out
  case rest =>
    obtain ⟨v0, hv0⟩ : ∃ v0, v0 = u0 := ⟨_, rfl⟩
    obtain ⟨W0, hW0⟩ : ∃ W0 : World, W0 = wc := ⟨_, rfl⟩
    rw [← hv0, ← hW0] at hcut
    rw [← hv0, ← hW0]
    clear hv0 hW0 HM
    obtain ⟨hT, ⟨a', c', e', hA⟩⟩ := hcut.out
    subst e'
    have HT : Hid (Touch (fun _ => False) w W0 ∧ Rb W0 a' n c' S) := ⟨hT, hA⟩
    have hn' := hA.1; have hc' := hA.2.1
    unfold maxLen at hc'
    clear hcut hA
    have HXT : Hid (0 < nt → ∃ b off, t = some ⟨b, off, none⟩ ∧ ∀ k, k < nt → W0.cell? ⟨b, off + k, none⟩ = some (.slice (A k) (M k) (D k))) := fun h0 => by
      obtain ⟨b, off, e, h⟩ := HX.out.1.cell h0
      exact ⟨b, off, e, fun k hk => by rw [← h k hk]; exact World.cell?_of_block (hT.block _ (World.block_lt_of_cell? w _ (h k hk)) fun h => h)⟩
    have HXM : Hid (∀ k, k < nt → M k ≤ D k ∧ D k ≤ maxLen) := fun k hk => ⟨(HX.out.1.row k hk).rd.1, (HX.out.1.row k hk).rd.2.1⟩
    clear hT
    go_wp2
    go_loop [8, 9] (fun u v => ∃ k : Nat, ∃ s : Nat, k ≤ nt ∧ s = n + 24 * nt + 8 * na + psum M k ∧ s ≤ 4194304 ∧ v = .int .i64 k ∧ u = .int .i64 s) (fun _ v => nt - (intOf v).toNat)
    case atStart => exact ⟨0, n + 24 * nt + 8 * na, by omega, by simp [psum], by omega, rfl, by simp⟩
    case round =>
      obtain ⟨k, s1, hk, hs1, hs2, rfl, rfl⟩ := hrel
      by_cases hlt : k < nt
      · obtain ⟨b, off, rfl, hc⟩ := HXT.out (by omega)
        have hck := hc k hlt
        have hm1 := (HXM.out k hlt).1; have hm2 := (HXM.out k hlt).2
        unfold maxLen at hm2
        have hkn : (k : Int) < (nt : Int) := by omega
        have HS1 : Hid (s1 = n + 24 * nt + 8 * na + psum M k) := hs1
        clear hc hs1
        by_cases hb : M k ≤ 1048576
        case neg =>
          go_wp2
          go_ret
          exact ⟨rfl, HT.out.1.below (Nat.le_refl _) fun _ h => h.elim⟩
        by_cases hb2 : s1 + M k ≤ 1048576
        case neg =>
          go_wp2
          go_ret
          exact ⟨rfl, HT.out.1.below (Nat.le_refl _) fun _ h => h.elim⟩
        go_wp2
        go_round
        case rel => exact ⟨k + 1, s1 + M k, by omega, by rw [HS1.out]; simp only [psum]; omega, by omega, by go_num, by go_num⟩
        case measure => simp [intOf]; omega
      · obtain rfl : nt = k := by omega
        by_cases hb : s1 ≤ 1048576
        case neg =>
          clear hs1
          go_wp2
          go_ret
          exact ⟨rfl, HT.out.1.below (Nat.le_refl _) fun _ h => h.elim⟩
        have HS1 : Hid (n + 24 * nt + 8 * na + psum M nt ≤ 1048576) := by show _ ≤ _; omega
        clear hs1
        have m1 := makeW nt (by omega) W0
        have m2 := makeW nt (by omega) (W0.alloc (.cells (madeCells #[.int .u32 0] nt) 27))
        have m3 := makeI nt (by omega) ((W0.alloc (.cells (madeCells #[.int .u32 0] nt) 27)).alloc (.cells (madeCells #[.int .u32 0] nt) 27))
        obtain ⟨W1, hW1⟩ : ∃ W1, W1 = ((W0.alloc (.cells (madeCells #[.int .u32 0] nt) 27)).alloc (.cells (madeCells #[.int .u32 0] nt) 27)).alloc (.cells (madeCells #[.int .i64 0] nt) 3) := ⟨_, rfl⟩
        have hsz1 : W1.heap.size = W0.heap.size + 3 := by rw [hW1]; simp
        have hT01 : Touch (fun _ => False) W0 W1 := by rw [hW1]; exact (((Touch.refl _ _).alloc _).alloc _).alloc _
        have HS0 : Hid (Sp n nt S M T W1 W0.heap.size (W0.heap.size + 1) (W0.heap.size + 1 + 1) 0 (fun _ => 0) [] (.slice none 0 0) (.slice none 0 0) W1) := Sp.start n nt S M T W0 W1 hW1
        have HT1 : Hid (Touch (fun _ => False) W0 W1 ∧ W1.heap.size = W0.heap.size + 3) := ⟨hT01, hsz1⟩
        have HW1 : Hid (W1 = ((W0.alloc (.cells (madeCells #[.int .u32 0] nt) 27)).alloc (.cells (madeCells #[.int .u32 0] nt) 27)).alloc (.cells (madeCells #[.int .i64 0] nt) 3)) := hW1
        obtain ⟨ps, hps⟩ : ∃ ps, ps = psum M nt := ⟨_, rfl⟩
        have hps1 : n + 24 * nt + 8 * na + ps ≤ 1048576 := by rw [hps]; exact HS1.out
        have HPS : Hid (ps = psum M nt) := hps
        clear hW1 hT01 hsz1 hps
        go_wp2
        rw [← HW1.out]
        clear m1 m2 m3
        go_loopw [10, 11, 12, 13, 14, 18] (fun v10 v11 v12 v13 v14 v18 wr => ∃ (k nl su : Nat) (a10 a11 : Option Addr) (c10 c11 : Nat), k ≤ nt ∧ nl ≤ c10 ∧ c10 ≤ 9223372036854775807 ∧ nl ≤ c11 ∧ c11 ≤ 9223372036854775807 ∧ su ≤ ps ∧ nl ≤ su ∧
          v10 = .slice a10 nl c10 ∧ v11 = .slice a11 nl c11 ∧ v12 = .int .i64 (su : Int) ∧ v13 = .int .i64 (su : Int) ∧ v14 = .int .i64 (nl : Int) ∧ v18 = .int .i64 (k : Int) ∧
          Hid (su = psum M k ∧ ∃ (st : Nat → Nat) (l : List Int), nl = l.length ∧ Sp n nt S M T W1 W0.heap.size (W0.heap.size + 1) (W0.heap.size + 1 + 1) k st l (.slice a10 nl c10) (.slice a11 nl c11) wr)) (fun _ _ _ _ _ v18 _ => nt - (intOf v18).toNat)
        case atStart => exact ⟨0, 0, 0, none, none, 0, 0, by omega, by omega, by omega, by omega, by omega, by omega, by omega, rfl, rfl, rfl, rfl, rfl, rfl, rfl, _, [], rfl, HS0.out⟩
        case round =>
          obtain ⟨k, nl, su, a10, a11, c10, c11, hk, z1, z2, z3, z4, z5, z6, rfl, rfl, rfl, rfl, rfl, rfl, hSp⟩ := hrel
          by_cases hlt : k < nt
          · have hTr : Touch (fun _ => False) W0 wr := by
              obtain ⟨_, st, l, _, hSp⟩ := hSp.out
              exact HT1.out.1.trans hSp.touch fun i hi h => by rcases h with h | h | h <;> omega
            obtain ⟨bT, oT, rfl, hcT⟩ := HXT.out (by omega)
            have hck : wr.cell? ⟨bT, oT + k, none⟩ = some (.slice (A k) (M k) (D k)) := by
              rw [← hcT k hlt]; exact World.cell?_of_block (hTr.block _ (World.block_lt_of_cell? W0 _ (hcT k hlt)) fun h => h)
            have hm1 := (HXM.out k hlt).1; have hm2 := (HXM.out k hlt).2
            unfold maxLen at hm2
            have hkn : (k : Int) < (nt : Int) := by omega
            have hmk : su + M k ≤ ps := by
              rw [HPS.out, hSp.out.1]; exact psum_le M (j := k + 1) (by omega)
            have HTr : Hid (Touch (fun _ => False) W0 wr) := hTr
            clear hcT hTr
            have v1 : IntKind.i64.wrap ((n : Int) - (M k : Int)) = (n : Int) - (M k : Int) := by rw [IntKind.wrap_i64]; omega
            go_upto_if 107 with fail
            go_cut [20, 21] from 94 to 176 (fun v20 _ wx => ∃ q : Int, v20 = .int .i64 q ∧ Hid (Mem wr wx ∧ (q < 0 ∨ ∃ Q : Nat, q = (Q : Int) ∧ Q + M k ≤ n ∧ ∀ j, j < M k → S (Q + j) = T k j)))
            case first =>
              by_cases hka : k < na
              case neg =>
                go_wp2
                go_meet
                case rel => exact ⟨-1, rfl, Mem.refl _, .inl (by decide)⟩
              obtain ⟨bA, oA, rfl, hcA⟩ := HX.out.2.cell (by omega)
              have hcZ : wr.cell? ⟨bA, oA + k, none⟩ = some (.int .i64 (Z k)) := by
                rw [← hcA k hka]
                have h1 := World.block_lt_of_cell? w _ (hcA k hka)
                exact World.cell?_of_block ((HTr.out.block _ (Nat.lt_of_lt_of_le h1 HT.out.1.size) fun h => h).trans (HT.out.1.block _ h1 fun h => h))
              have hkna : (k : Int) < (na : Int) := by omega
              clear hcA
              by_cases hz : Z k < 0
              · go_wp2
                go_meet
                case rel => exact ⟨Z k, rfl, Mem.refl _, .inl hz⟩
              obtain ⟨Q, hQ⟩ : ∃ Q : Nat, Z k = (Q : Int) := ⟨(Z k).toNat, by omega⟩
              rw [hQ] at hcZ
              clear hQ hz
              by_cases hQn : Q + M k ≤ n
              case neg =>
                have v2 : ¬ ((Q : Int) ≤ (n : Int) - (M k : Int)) := by omega
                go_wp2
                go_meet
                case rel => exact ⟨-1, rfl, Mem.refl _, .inl (by decide)⟩
              have v2 : (Q : Int) ≤ (n : Int) - (M k : Int) := by omega
              have HC0 : Hid (Calls Try.prog 10 #[.slice a' n c', .int .i64 (Q : Int), .slice (A k) (M k) (D k)] wr (SaysPost (∀ j, j < M k → S (Q + j) = T k j) wr)) :=
                match10 a' (A k) n c' (M k) (D k) Q S (T k) wr (HT.out.2.touch HTr.out fun _ _ _ h => h) (((HX.out.1.row k hlt).rd.touch HT.out.1 fun _ _ _ h => h).touch HTr.out fun _ _ _ h => h) hQn
              go_wp2_with fail
              refine HC0.out.mono ?_
              rintro e w0 ⟨r, rfl, hM0, hr⟩
              have HM0 : Hid (Mem wr w0 ∧ (r = true ↔ ∀ j, j < M k → S (Q + j) = T k j)) := ⟨hM0, hr⟩
              clear hM0 hr
              cases r
              · go_wp2
                go_meet
                case rel => exact ⟨-1, rfl, HM0.out.1, .inl (by decide)⟩
              · go_wp2
                go_meet
                case rel => exact ⟨Q, rfl, HM0.out.1, .inr ⟨Q, rfl, hQn, by have := HM0.out.2; simpa using this⟩⟩
            case rest =>
              obtain ⟨v20, hv20⟩ : ∃ v20, v20 = u20 := ⟨_, rfl⟩
              obtain ⟨wx, hwx⟩ : ∃ wx : World, wx = wc := ⟨_, rfl⟩
              rw [← hv20, ← hwx] at hcut
              rw [← hv20, ← hwx]
              clear hv20 hwx
              obtain ⟨q, rfl, hq⟩ := hcut
              clear v1
              have hTx : Touch (fun _ => False) W0 wx := Mem.touch HTr.out hq.out.1
              have hAx : Arg wx (A k) (M k) (D k) (T k) := ((HX.out.1.row k hlt).touch HT.out.1).touch hTx
              have hSz : W1.heap.size = W0.heap.size + 3 := HT1.out.2
              rcases hq.out.2 with hneg | ⟨Q, rfl, hQn, hQm⟩
              · have HC12 : Hid (Calls Try.prog 12 #[.slice a' n c', .slice a10 nl c10, .int .i64 (su : Int), .slice (A k) (M k) (D k), .int .i64 q] wx (ZZC n nt S M T W1 W0.heap.size (W0.heap.size + 1) (W0.heap.size + 1 + 1) k a11 nl c11 su q (A k) (D k))) := by
                  obtain ⟨hMx, -⟩ := hq.out
                  obtain ⟨hsu, st, l, hnl, hSp0⟩ := hSp.out
                  exact zzC hlt (by omega) (by omega) (by omega) hneg l1 (by omega) (by omega) (by omega) hnl (hSp0.mem hMx) hAx (fun x hx h0 => Nat.lt_of_lt_of_le ((HX.out.1.row k hlt).rd.lt x hx h0) HT.out.1.size)
                have HSU : Hid (su = psum M k) := hSp.out.1
                clear hSp hTx hAx hq
                have hne1 : W0.heap.size ≠ W0.heap.size + 1 := by omega
                have hne2 : W0.heap.size ≠ W0.heap.size + 1 + 1 := by omega
                have hne3 : W0.heap.size + 1 ≠ W0.heap.size + 1 + 1 := by omega
                go_wp2_with fail
                refine HC12.out.mono ?_
                rintro e W2 ⟨a20, a21, c20, c21, nl2, W4, x1, x2, x3, rfl, e1, e2, e3, e4, e5, e6, cS, cE, cU, fS, fE, fU, hr, hSp⟩
                have y1 : IntKind.i64.wrap ((n + nl : Nat) : Int) = ((n + nl : Nat) : Int) := by rw [IntKind.wrap_i64]; omega
                have y2 : IntKind.i64.wrap ((n : Int) + (nl : Int)) = (n : Int) + (nl : Int) := by rw [IntKind.wrap_i64]; omega
                have y3 : IntKind.i64.wrap ((su : Int) + (M k : Int)) = (su : Int) + (M k : Int) := by rw [IntKind.wrap_i64]; omega
                have y4 : IntKind.i64.wrap ((nl : Int) + (M k : Int)) = (nl : Int) + (M k : Int) := by rw [IntKind.wrap_i64]; omega
                go_wp2_with (at_builtin; refine Lib.wpList_append_run _ rfl _ _ 22 22 rfl _ _ rfl rfl _ _ hr.out ?_)
                go_roundw
                case rel => exact ⟨k + 1, nl2, su + M k, a20, a21, c20, c21, by omega, e1, e2, e3, e4, hmk, by omega, rfl, rfl, by simp, by simp, by congr 1; omega, by go_num, by rw [HSU.out]; rfl, hSp.out⟩
                case measure => simp [intOf]; omega
              · have HC12 : Hid (Calls Try.prog 12 #[.slice a' n c', .slice a10 nl c10, .int .i64 (su : Int), .slice (A k) (M k) (D k), .int .i64 (Q : Int)] wx (ZZI n nt S M T W1 W0.heap.size (W0.heap.size + 1) (W0.heap.size + 1 + 1) k a11 nl c11 su Q)) := by
                  obtain ⟨hMx, -⟩ := hq.out
                  obtain ⟨hsu, st, l, hnl, hSp0⟩ := hSp.out
                  exact zzI hlt (by omega) (by omega) (by omega) hQn hQm l1 (by omega) hnl (hSp0.mem hMx)
                have HSU : Hid (su = psum M k) := hSp.out.1
                clear hSp hTx hAx hq hQm
                have hne1 : W0.heap.size ≠ W0.heap.size + 1 := by omega
                have hne2 : W0.heap.size ≠ W0.heap.size + 1 + 1 := by omega
                have hne3 : W0.heap.size + 1 ≠ W0.heap.size + 1 + 1 := by omega
                go_wp2_with fail
                refine HC12.out.mono ?_
                rintro e W2 ⟨a20, c20, x1, x2, x3, rfl, e1, e2, cS, cE, cU, fS, fE, fU, hSp⟩
                have y1 : IntKind.i64.wrap (Q : Int) = (Q : Int) := by rw [IntKind.wrap_i64]; omega
                have y3 : IntKind.i64.wrap ((su : Int) + (M k : Int)) = (su : Int) + (M k : Int) := by rw [IntKind.wrap_i64]; omega
                go_wp2
                go_roundw
                case rel => exact ⟨k + 1, nl, su + M k, a20, a11, c20, c11, by omega, e1, e2, z3, z4, hmk, by omega, rfl, rfl, by simp, by simp, rfl, by go_num, by rw [HSU.out]; rfl, hSp.out⟩
                case measure => simp [intOf]; omega
          · obtain rfl : nt = k := by omega
            obtain ⟨Wf, hWf⟩ : ∃ Wf : World, Wf = wr := ⟨_, rfl⟩
            rw [← hWf] at hSp ⊢
            clear hWf
            have HTf : Hid (Touch (fun _ => False) W0 Wf) := by
              obtain ⟨_, st, l, _, hSp⟩ := hSp.out
              exact HT1.out.1.trans hSp.touch fun i hi h => by rcases h with h | h | h <;> omega
            obtain ⟨-, st, l, hnl, hSp0⟩ := hSp.out
            have r10 : Rb Wf a10 nl c10 (fun q => l.getD q 0) := by
              obtain ⟨a9, c9, e9, h9⟩ := Rb.ofOwns hSp0.more
              rw [← hnl] at e9 h9
              cases e9; exact h9
            have r11 : Rb Wf a11 nl c11 (fun q => l.getD q 0) := by
              obtain ⟨a9, c9, e9, h9⟩ := Rb.ofOwns hSp0.want
              rw [← hnl] at e9 h9
              cases e9; exact h9
            have HC14 : Hid (Calls Try.prog 14 #[.slice a10 nl c10, .slice a11 nl c11] Wf (SaysPost (nl = nl ∧ ∀ k, k < nl → l.getD k 0 = l.getD k 0) Wf)) := same14 a10 a11 nl c10 nl c11 _ _ Wf r10 r11
            have hx : (a10.isNone == a11.isNone) = true := by
              have := hSp0.nil
              cases a10 <;> cases a11 <;> first | rfl | (exfalso; first | exact absurd (this.1 rfl) (fun h => by cases h) | exact absurd (this.2 rfl) (fun h => by cases h))
            have HB : Hid (Below w.heap.size w Wf) := (HT.out.1.trans HTf.out fun _ _ h => h).below (Nat.le_refl _) fun _ h => h.elim
            have HQ : Hid (∀ k, k < nt → ∃ s : Nat, s + M k ≤ 2097152 ∧ Wf.cell? ⟨W0.heap.size, k, none⟩ = some (.int .u32 (s : Int)) ∧ Wf.cell? ⟨W0.heap.size + 1, k, none⟩ = some (.int .u32 ((s + M k : Nat) : Int)) ∧
                ∀ W, Mem Wf W → Calls Try.prog 15 #[.slice a' n c', .slice a10 nl c10, .int .u32 (s : Int), .int .u32 ((s + M k : Nat) : Int), .slice (A k) (M k) (D k)] W (SameTrue W)) := fun k hk => by
              obtain ⟨c1, a1, a2, a3⟩ := hSp0.rows.starts
              obtain ⟨c2, b1, b2, b3⟩ := hSp0.rows.ends
              obtain ⟨h1, h2⟩ := hSp0.spans k hk
              refine ⟨st k, by omega, by rw [cell_of_row Wf _ k c1 27 (0, 0) a1]; exact a3 k hk, by rw [cell_of_row Wf _ k c2 27 (0, 0) b1]; exact b3 k hk, fun W hM => ?_⟩
              exact reads15s a' a10 (A k) n c' nl c10 (M k) (D k) (st k) S _ (T k) W ((HT.out.2.touch HTf.out fun _ _ _ h => h).mem hM) (r10.mem hM) ((((HX.out.1.row k hk).rd.touch HT.out.1 fun _ _ _ h => h).touch HTf.out fun _ _ _ h => h).mem hM) (by omega) (by omega) (by omega) h2
            have HXf : Hid (0 < nt → ∃ b off, t = some ⟨b, off, none⟩ ∧ ∀ k, k < nt → Wf.cell? ⟨b, off + k, none⟩ = some (.slice (A k) (M k) (D k))) := fun h0 => by
              obtain ⟨b, off, e, h⟩ := HXT.out h0
              exact ⟨b, off, e, fun k hk => by rw [← h k hk]; exact World.cell?_of_block (HTf.out.block _ (World.block_lt_of_cell? W0 _ (h k hk)) fun h => h)⟩
            clear hSp hnl hSp0 r10 r11
            go_wp2_with fail
            refine HC14.out.mono ?_
            rintro e Wg ⟨r, rfl, hM, hr⟩
            obtain rfl : r = true := hr.2 (by simp)
            have HM : Hid (Mem Wf Wg) := hM
            clear hM hr
            go_wp2
            go_loopw [24] (fun v wr => ∃ k : Nat, k ≤ nt ∧ v = .int .i64 (k : Int) ∧ Hid (Mem Wf wr)) (fun v _ => nt - (intOf v).toNat)
            case atStart => exact ⟨0, by omega, rfl, HM⟩
            case round =>
              obtain ⟨k, hk3, rfl, hMr⟩ := hrel
              by_cases hlt3 : k < nt
              · obtain ⟨s3, hs3, q1, q2, hq3⟩ := HQ.out k hlt3
                obtain ⟨b, off, rfl, hcT⟩ := HXf.out (by omega)
                have q1' : wr.cell? ⟨W0.heap.size, k, none⟩ = some (.int .u32 (s3 : Int)) := by rw [← q1]; exact World.cell?_of_block (by rw [hMr.out.heap])
                have q2' : wr.cell? ⟨W0.heap.size + 1, k, none⟩ = some (.int .u32 ((s3 + M k : Nat) : Int)) := by rw [← q2]; exact World.cell?_of_block (by rw [hMr.out.heap])
                have q3' : wr.cell? ⟨b, off + k, none⟩ = some (.slice (A k) (M k) (D k)) := by rw [← hcT k hlt3]; exact World.cell?_of_block (by rw [hMr.out.heap])
                have HC15 : Hid (∀ m, Calls Try.prog 15 #[.slice a' n c', .slice a10 nl c10, .int .u32 (s3 : Int), .int .u32 ((s3 : Int) + (M k : Int)), .slice (A k) (M k) (D k)] (wr.drewN m) (fun e w' => e = .returned (.bool true) ∧ w' = wr.drewN m)) := fun m => hq3 _ (mem_drewN5 hMr.out m)
                have hkn3 : (k : Int) < (nt : Int) := by omega
                clear q1 q2 hcT hq3
                go_wp2
                go_quiet ((go_at_call 15; refine Calls.quiet_of_same (HC15.out _)))
                go_wp2
                go_roundw
                case rel => exact ⟨k + 1, by omega, by go_num, hMr.out.heap, hMr.out.os, hMr.out.tape, hMr.out.output⟩
                case measure => simp [intOf]; omega
              · go_wp2
                go_ret
                exact ⟨rfl, HB.out.trans ⟨hMr.out.os, hMr.out.tape, hMr.out.output, by rw [hMr.out.heap]; exact Nat.le_refl _, fun k _ => by rw [hMr.out.heap]⟩⟩

end Go.Proofs.Qxb6604050a
