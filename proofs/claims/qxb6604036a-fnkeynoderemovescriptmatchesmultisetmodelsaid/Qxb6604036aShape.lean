/- b1Shape (12), b1RootOk (19): they read the tree. -/
import Derived.Test.Qxb6604036aTree
namespace Go.Proofs.Qxb6604036a
open Go.RowKit Plain
set_option linter.unusedVariables false
set_option linter.unusedSimpArgs false

theorem keysOf (p : Nat) (a b : Option Addr) (n c m d : Nat) (w : World) (h : w.heap[p]? = some (nodeObj (.slice a n c) (.slice b m d))) :
    Calls Try.prog 13 #[.pointer (some ⟨p, 0, none⟩)] w fun e w' => e = .returned (.slice a n c) ∧ w = w' := (keys13 p a b n c m d w h).mono fun _ _ ⟨h1, h2⟩ => ⟨h1, h2.symm⟩
theorem kidsOf (p : Nat) (a b : Option Addr) (n c m d : Nat) (w : World) (h : w.heap[p]? = some (nodeObj (.slice a n c) (.slice b m d))) :
    Calls Try.prog 24 #[.pointer (some ⟨p, 0, none⟩)] w fun e w' => e = .returned (.slice b m d) ∧ w = w' := (kids24 p a b n c m d w h).mono fun _ _ ⟨h1, h2⟩ => ⟨h1, h2.symm⟩

set_option maxHeartbeats 1000000 in
theorem shape12_leaf (B mn : Nat) (t : AT 0) (d : Nat) (w : World) (hl : Lies B w 0 t) (hok : okT 0 mn t) (hd : d ≤ 65) :
    Calls Try.prog 12 #[.pointer (some ⟨t.p, 0, none⟩), .int .i64 mn, .int .i64 d] w fun e w' => e = .returned (.tuple #[.int .i64 1, .bool true]) ∧ w = w' := by
  obtain ⟨p, kv, cv, ks⟩ := t
  obtain ⟨hN, hBp, hK, hcv⟩ := hl
  simp only at hN hBp hK hcv hok
  subst hcv
  obtain ⟨a, c, rfl, hac, hcm⟩ := ownsRow_slice hK
  have ho1 : mn ≤ ks.length := hok.1
  have ho2 : ks.length ≤ 64 := hok.2
  clear hK hok
  have hnil := fun w a n c => Lib.run_eql_slice_nil (P := Try.prog) w 47 27 a n c 0 0 Try.underlying47
  have HN : Hid (w.heap[p]? = some (nodeObj (.slice a ks.length c) (.slice none 0 0))) := hN
  clear hN
  have hb : ¬ (65 : Int) < (d : Int) := by omega
  have hb1 : ¬ (64 : Int) < (ks.length : Int) := by omega
  have hb2 : ¬ (ks.length : Int) < (mn : Int) := by omega
  go_enter Try.func12, Try.ntmps12
  go_wp2_with (first | (go_at_call 13; refine (keysOf _ _ _ _ _ _ _ _ HN.out).mono ?_; rintro e w' ⟨rfl, rfl⟩) | (go_at_call 24; refine (kidsOf _ _ _ _ _ _ _ _ HN.out).mono ?_; rintro e w' ⟨rfl, rfl⟩))
  go_ret2
  exact ⟨rfl, rfl⟩

set_option maxHeartbeats 2000000 in
theorem shape12_inner (B h mn : Nat) (H : Hd) (kids : List (AT h)) (d : Nat) (w : World) (hl : Lies B w (h + 1) (H, kids)) (hok : okT (h + 1) mn (H, kids)) (hd : d + h + 1 ≤ 65)
    (ih : ∀ c ∈ kids, Calls Try.prog 12 #[ptrV h c, .int .i64 32, .int .i64 ((d : Int) + 1)] w fun e w' => e = .returned (.tuple #[.int .i64 ((h : Int) + 1), .bool true]) ∧ w = w') :
    Calls Try.prog 12 #[.pointer (some ⟨H.p, 0, none⟩), .int .i64 mn, .int .i64 d] w fun e w' => e = .returned (.tuple #[.int .i64 ((h : Int) + 1 + 1), .bool true]) ∧ w = w' := by
  obtain ⟨hN, hBp, hK, hC, ⟨cb0, hcb0⟩, hkids⟩ := hl
  simp only at hN hBp hK hC hcb0
  have ho1 : mn ≤ H.ks.length := hok.1
  have ho2 : H.ks.length ≤ 64 := hok.2.1
  have hkl : kids.length = H.ks.length + 1 := hok.2.2.1
  obtain ⟨a, c, hkv, hac, hcm⟩ := ownsRow_slice hK
  obtain ⟨gc, cc, hcv, hcc, hccm, _, _, hcells⟩ := ownsRow_cell hC (by omega)
  rw [hkv, hcv] at hN
  have HN : Hid (w.heap[H.p]? = some (nodeObj (.slice a H.ks.length c) (.slice (some ⟨gc, 0, none⟩) kids.length cc))) := hN
  have HC : Hid (∀ k u, (kids.map (ptrV h))[k]? = some u → w.cell? ⟨gc, k, none⟩ = some u) := hcells
  have IH : Hid (∀ c ∈ kids, Calls Try.prog 12 #[ptrV h c, .int .i64 32, .int .i64 ((d : Int) + 1)] w fun e w' => e = .returned (.tuple #[.int .i64 ((h : Int) + 1), .bool true]) ∧ w = w') := ih
  clear ih hN hcells hK hC hcb0 hkids hok hkv hcv
  obtain ⟨n, hn⟩ : ∃ n, n = H.ks.length := ⟨_, rfl⟩
  rw [← hn] at ho1 ho2 hkl hac HN
  rw [hkl] at HN hcc
  clear hn
  have HKL : Hid (kids.length = n + 1) := hkl
  clear hkl
  have hnil := fun w a n c => Lib.run_eql_slice_nil (P := Try.prog) w 47 27 a n c 0 0 Try.underlying47
  have hb : decide ((65 : Int) < (d : Int)) = false := by simp; omega
  have hb1 : decide ((64 : Int) < (n : Int)) = false := by simp; omega
  have hb2 : decide (n < mn) = false := by simp; omega
  have hne : (((n : Int) + 1) != ((n : Int) + 1)) = false := by simp
  go_enter Try.func12, Try.ntmps12
  go_wp2_with (first | (go_at_call 13; refine (keysOf _ _ _ _ _ _ _ _ HN.out).mono ?_; rintro e w' ⟨rfl, rfl⟩) | (go_at_call 24; refine (kidsOf _ _ _ _ _ _ _ _ HN.out).mono ?_; rintro e w' ⟨rfl, rfl⟩))
  go_loop [11, 12] (fun u v => ∃ k : Nat, k ≤ n + 1 ∧ v = .int .i64 k ∧ u = .int .i64 (if k = 0 then 0 else (h : Int) + 1)) (fun _ v => n + 1 - (intOf v).toNat)
  case atStart => exact ⟨0, by omega, rfl, rfl⟩
  case round =>
    obtain ⟨k, hk, rfl, rfl⟩ := hrel
    by_cases hlt : k < n + 1
    · have hkk : k < kids.length := by rw [HKL.out]; exact hlt
      have hc : w.cell? ⟨gc, k, none⟩ = some (.pointer (some ⟨(Go.Proofs.Qxb6604036a.hd h kids[k]).p, 0, none⟩)) := HC.out k _ (by simp [hkk, ptrV])
      have hcall : Hid (Calls Try.prog 12 #[.pointer (some ⟨(Go.Proofs.Qxb6604036a.hd h kids[k]).p, 0, none⟩), .int .i64 32, .int .i64 ((d : Int) + 1)] w fun e w' => e = .returned (.tuple #[.int .i64 ((h : Int) + 1), .bool true]) ∧ w = w') := IH.out kids[k] (List.getElem_mem hkk)
      obtain ⟨cp, hcp⟩ : ∃ cp, cp = (Go.Proofs.Qxb6604036a.hd h kids[k]).p := ⟨_, rfl⟩
      rw [← hcp] at hc hcall
      clear hcp hkk
      have hkI : (k : Int) < (n : Int) + 1 := by omega
      by_cases hk0 : k = 0
      · subst hk0
        simp only [if_true]
        have h0 : ((0 : Nat) : Int) < (n : Int) + 1 := by omega
        go_wp2_with (go_at_call 12; refine hcall.out.mono ?_; rintro e w' ⟨rfl, rfl⟩)
        go_round
        case rel => exact ⟨1, by omega, rfl, by simp⟩
        case measure => simp [intOf]
      · rw [if_neg hk0]
        have hkp : (0 : Int) < (k : Int) := by omega
        have hne2 : (((h : Int) + 1) != ((h : Int) + 1)) = false := by simp
        clear hk0
        go_wp2_with (go_at_call 12; refine hcall.out.mono ?_; rintro e w' ⟨rfl, rfl⟩)
        go_round
        case rel => exact ⟨k + 1, by omega, by go_num, by simp⟩
        case measure => simp [intOf]; omega
    · obtain rfl : k = n + 1 := by omega
      rw [if_neg (by omega)]
      have hx : (h : Int) + 1 + 1 ≤ 70 := by omega
      have hkI : ¬ (((n + 1 : Nat) : Int)) < (n : Int) + 1 := by omega
      go_wp2
      go_ret2
      exact ⟨rfl, rfl⟩

/-- b1Shape of a tree of the right shape: its height, and true. -/
theorem shape12 (B : Nat) (w : World) : ∀ (h mn : Nat) (t : AT h) (d : Nat), Lies B w h t → okT h mn t → d + h ≤ 65 →
    Calls Try.prog 12 #[ptrV h t, .int .i64 mn, .int .i64 d] w fun e w' => e = .returned (.tuple #[.int .i64 ((h : Int) + 1), .bool true]) ∧ w = w'
  | 0, mn, t, d, hl, hok, hd => shape12_leaf B mn t d w hl hok (by omega)
  | h + 1, mn, t, d, hl, hok, hd => shape12_inner B h mn t.1 t.2 d w hl hok (by omega) fun c hc => by
    have := shape12 B w h 32 c (d + 1) (hl.2.2.2.2.2 c hc) (hok.2.2.2 c hc) (by omega)
    simpa using this

theorem okT_mono {h mn mn' : Nat} {t : AT h} (hok : okT h mn t) (hm : mn' ≤ mn) : okT h mn' t := by
  cases h with
  | zero => exact ⟨Nat.le_trans hm hok.1, hok.2⟩
  | succ h => exact ⟨Nat.le_trans hm hok.1, hok.2⟩

theorem okT_le {h mn : Nat} {t : AT h} (hok : okT h mn t) : mn ≤ (hd h t).ks.length ∧ (hd h t).ks.length ≤ 64 := by
  cases h with
  | zero => exact hok
  | succ h => exact ⟨hok.1, hok.2.1⟩

/-- A root: a leaf of 0 to 64 keys; else 1 to 64. -/
def rootMin (h : Nat) : Nat := if h = 0 then 0 else 1

set_option maxHeartbeats 1000000 in
theorem rootOk19 (B h : Nat) (t : AT h) (w : World) (hl : Lies B w h t) (hok : okT h (rootMin h) t) (hh : h ≤ 65) :
    Calls Try.prog 19 #[.pointer (some ⟨(hd h t).p, 0, none⟩)] w fun e w' => e = .returned (.bool true) ∧ w = w' := by
  have hs := shape12 B w h 0 t 0 hl (okT_mono hok (Nat.zero_le _)) (by omega)
  have hs' : Hid (Calls Try.prog 12 #[.pointer (some ⟨(hd h t).p, 0, none⟩), .int .i64 0, .int .i64 0] w fun e w' => e = .returned (.tuple #[.int .i64 ((h : Int) + 1), .bool true]) ∧ w = w') := hs
  clear hs
  obtain ⟨hN, _, hK⟩ := hl.node
  obtain ⟨a, c, hkv, hac, hcm⟩ := ownsRow_slice hK
  have hnil := fun w a n c => Lib.run_eql_slice_nil (P := Try.prog) w 47 27 a n c 0 0 Try.underlying47
  obtain ⟨p, hp⟩ : ∃ p, p = (hd h t).p := ⟨_, rfl⟩
  rw [← hp] at hs' hN ⊢
  rw [hkv] at hN
  cases h with
  | zero =>
    have hcv : (hd 0 t).cv = .slice none 0 0 := hl.2.2.2
    rw [hcv] at hN
    have HN : Hid (w.heap[p]? = some (nodeObj (.slice a (hd 0 t).ks.length c) (.slice none 0 0))) := hN
    clear hN hK hkv hl hp hcv hok
    go_enter Try.func19, Try.ntmps19
    go_wp2_with (first | (go_at_call 12; refine hs'.out.mono ?_; rintro e w' ⟨rfl, rfl⟩) | (go_at_call 13; refine (keysOf _ _ _ _ _ _ _ _ HN.out).mono ?_; rintro e w' ⟨rfl, rfl⟩) | (go_at_call 24; refine (kidsOf _ _ _ _ _ _ _ _ HN.out).mono ?_; rintro e w' ⟨rfl, rfl⟩))
    go_ret
    exact ⟨rfl, rfl⟩
  | succ h =>
    obtain ⟨_, _, _, hC, ⟨cb, hcb⟩, _⟩ := hl
    obtain ⟨ac, cc, hcv, _, _⟩ := ownsRow_slice hC
    have hac' : ac.isNone = false := by
      rw [hcv] at hcb
      cases ac with
      | none => simp [Value.ownBlock] at hcb
      | some x => rfl
    rw [show (hd (h + 1) t).cv = t.1.cv from rfl, hcv] at hN
    have h1 : 1 ≤ (hd (h + 1) t).ks.length := hok.1
    obtain ⟨n, hn⟩ : ∃ n, n = (hd (h + 1) t).ks.length := ⟨_, rfl⟩
    rw [← hn] at hN h1 hac
    have HN : Hid (w.heap[p]? = some (nodeObj (.slice a n c) (.slice ac t.2.length cc))) := hN
    clear hN hK hkv hp hok hC hcb hcv hn
    have hb : decide ((0 : Int) < (n : Int)) = true := by simp; omega
    have hb2 : decide (0 < n) = true := by simp; omega
    go_enter Try.func19, Try.ntmps19
    go_wp2_with (first | (go_at_call 12; refine hs'.out.mono ?_; rintro e w' ⟨rfl, rfl⟩) | (go_at_call 13; refine (keysOf _ _ _ _ _ _ _ _ HN.out).mono ?_; rintro e w' ⟨rfl, rfl⟩) | (go_at_call 24; refine (kidsOf _ _ _ _ _ _ _ _ HN.out).mono ?_; rintro e w' ⟨rfl, rfl⟩))
    go_ret
    exact ⟨rfl, rfl⟩

end Go.Proofs.Qxb6604036a
