/- remove (32): a leaf. -/
import Derived.Test.Qxb6604036aRem1
import Derived.Lib.SliceRun
namespace Go.Proofs.Qxb6604036a
open Go.RowKit Plain
set_option linter.unusedVariables false
set_option linter.unusedSimpArgs false
attribute [local go_sem ↓] Go.wp_at_zero Go.wp_at_succ

/-- What remove leaves of a tree. -/
def RemPost (B h : Nat) (t : AT h) (x : ByteArray) (w : World) (e : Ending) (w' : World) : Prop :=
  e = .returned (.tuple #[]) ∧ ∃ t' : AT h, KeptT B h t t' w w' ∧ okT h ((hd h t).ks.length - 1) t' ∧ inorder h t' = srem x (inorder h t)

theorem St.one_of {B : Nat} {w : World} {t : AT 0} (hL : Lies B w 0 t) (hnd : (foot 0 t).Nodup) : St B (fun k => k ∈ [ns 0 t].flatMap NS.ft) w w [ns 0 t] := by
  obtain ⟨n1, n2, n3⟩ := lies_ns.1 hL
  have e := foot_ns n2
  rw [show subF 0 (subs 0 t) = [] from rfl, List.append_nil] at e
  refine ⟨fun a ha => ?_, ?_, fun k hk => .inl hk, Touch.refl _ _, fun a ha u hu => ?_⟩
  · rw [List.mem_singleton.1 ha]; exact n1
  · simp only [List.flatMap_cons, List.flatMap_nil, List.append_nil]; rw [← e]; exact hnd
  · rw [List.mem_singleton.1 ha] at hu; cases hu

/-- A leaf put together again. -/
theorem KeptT.leaf {B : Nat} {w w' : World} {t : AT 0} {kv : Value} {ks : List ByteArray} (hL : Lies B w 0 t) (hnd : (foot 0 t).Nodup) (hSt : St B (fun k => k ∈ [ns 0 t].flatMap NS.ft) w w' [⟨t.p, kv, t.cv, ks, []⟩]) : KeptT B 0 t (⟨t.p, kv, t.cv, ks⟩ : Hd) w w' := by
  obtain ⟨n1, n2, n3⟩ := lies_ns.1 hL
  have hcv : t.cv = .slice none 0 0 := n2
  have e := foot_ns n2
  rw [show subF 0 (subs 0 t) = [] from rfl, List.append_nil] at e
  have e' : foot 0 (⟨t.p, kv, t.cv, ks⟩ : Hd) = (⟨t.p, kv, t.cv, ks, []⟩ : NS).ft := by
    show t.p :: kv.ownBlock.toList = t.p :: (kv.ownBlock.toList ++ t.cv.ownBlock.toList)
    rw [hcv]; simp [Value.ownBlock]
  have hN := hSt.nd _ (List.mem_singleton.2 rfl)
  have hno := hSt.nodup
  have hpl := hSt.place
  have htt := hSt.touch
  simp only [List.flatMap_cons, List.flatMap_nil, List.append_nil] at hno hpl htt
  refine ⟨⟨hN.1, hN.2.1, hN.2.2.1, hcv⟩, by rw [e']; exact hno, fun k hk => ?_, ?_, rfl⟩
  · rw [e'] at hk
    rcases hpl k hk with h | h
    · exact .inl (by rw [e]; exact h)
    · exact .inr h
  · exact htt.mono fun k _ hk => by rw [e]; exact hk

theorem KeptT.refl {B h : Nat} {t : AT h} {w : World} (hL : Lies B w h t) (hnd : (foot h t).Nodup) : KeptT B h t t w w := ⟨hL, hnd, fun k hk => .inl hk, Touch.refl _ _, rfl⟩

theorem not_mem_of {ks : List ByteArray} {x : ByteArray} {i : Nat} (hs : Sorted sl ks) (ht : ∀ k ∈ ks.take i, sl k x = true) (hd : ∀ k ∈ ks.drop i, sl k x = false) (hn : ¬ (i < ks.length ∧ ks.getD i ByteArray.empty = x)) : x ∉ ks := by
  intro hx
  rw [← List.take_append_drop i ks] at hx
  rcases List.mem_append.1 hx with h | h
  · have := ht x h
    rw [sto.irrefl] at this; cases this
  · have hi : i < ks.length := by
      rcases Nat.lt_or_ge i ks.length with h1 | h1
      · exact h1
      · rw [List.drop_eq_nil_of_le h1] at h; cases h
    have hc := List.drop_eq_getElem_cons hi
    have hsd : Sorted sl (ks.drop i) := hs.sublist (List.drop_sublist i ks)
    rw [hc] at h hsd
    have hg : ks.getD i ByteArray.empty = ks[i] := by simp [hi]
    rcases List.mem_cons.1 h with e | h
    · exact hn ⟨hi, by rw [hg, ← e]⟩
    · have h1 : sl x ks[i] = false := (List.pairwise_cons.1 hsd).1 x h
      have h2 : sl ks[i] x = false := hd _ (by rw [hc]; exact List.mem_cons_self ..)
      exact hn ⟨hi, by rw [hg]; exact sl_total h2 h1⟩

theorem cut_at {ks : List ByteArray} {x : ByteArray} {i : Nat} (hi : i < ks.length) (hx : ks.getD i ByteArray.empty = x) : ks = ks.take i ++ x :: ks.drop (i + 1) := by
  have hg : ks.getD i ByteArray.empty = ks[i] := by simp [hi]
  rw [← hx, hg, ← List.drop_eq_getElem_cons hi, List.take_append_drop]

set_option maxHeartbeats 4000000 in
theorem rem_leaf (B : Nat) (t : AT 0) (x : ByteArray) (w : World) (hL : Lies B w 0 t) (hnd : (foot 0 t).Nodup) (h64 : (hd 0 t).ks.length ≤ 64) (hs : Sorted sl (inorder 0 t)) : Calls Try.prog 32 #[ptrV 0 t, .string x] w (RemPost B 0 t x w) := by
  have hSt := St.one_of hL hnd
  obtain ⟨p, kv, cv, ks⟩ := t
  have hcv : cv = .slice none 0 0 := (lies_ns.1 hL).2.1
  subst hcv
  have hs' : Sorted sl ks := hs
  have h64' : ks.length ≤ 64 := h64
  obtain ⟨b1, b2, b3, b4, ⟨g, c, e1, e2, e3⟩, _⟩ := hSt.head
  have b1' : w.cell? ⟨p, 0, none⟩ = some kv := b1
  have b2' : w.cell? ⟨p, 1, none⟩ = some (.slice none 0 0) := b2
  have hrow : w.ownsRow B 9 1 kv ks.length (strs ks) := (lies_ns.1 hL).1.2.2.1
  have HC : Hid (Calls Try.prog 33 #[kv, .string x] w _) := search33 B kv ks x w (by omega) hrow hs'
  have e1' : kv = .slice g ks.length c := e1
  obtain ⟨n, hn⟩ : ∃ n, n = ks.length := ⟨_, rfl⟩
  obtain ⟨i, hi⟩ : ∃ i, i = lb x ks := ⟨_, rfl⟩
  have HH : Hid (Lies B w 0 (⟨p, kv, .slice none 0 0, ks⟩ : Hd) ∧ (foot 0 (⟨p, kv, .slice none 0 0, ks⟩ : Hd)).Nodup ∧ Sorted sl ks ∧ n = ks.length ∧ i = lb x ks) := ⟨hL, hnd, hs', hn, hi⟩
  have HST : Hid (St B (fun k => k ∈ [ns 0 (⟨p, kv, .slice none 0 0, ks⟩ : Hd)].flatMap NS.ft) w w [⟨p, kv, .slice none 0 0, ks, []⟩]) := hSt
  rw [← hn] at e1' h64'
  rw [← hi] at HC
  subst e1'
  have heq := fun w a n c => Lib.run_eql_slice_nil (P := Try.prog) w 47 27 a n c 0 0 Try.underlying47
  clear hL hnd hs hs' hSt hrow e1 b1 b2 b3 b4 hn hi h64 e2 e3
  show Calls Try.prog 32 #[.pointer (some ⟨p, 0, none⟩), .string x] w _
  go_enter Try.func32, Try.ntmps32
  go_wp2_with fail
  refine HC.out.mono ?_
  rintro e w' ⟨rfl, f, rfl, hf, ht, hd'⟩
  cases f
  · have HF : Hid (x ∉ ks) := not_mem_of HH.out.2.2.1 ht hd' (fun h => by have := hf.2 h; cases this)
    clear hf ht hd'
    go_wp2
    refine bodyPost_ret (v := .tuple #[]) (by simp [results, Try.results32, go_sem]) rfl ?_
    refine ⟨rfl, _, KeptT.refl HH.out.1 HH.out.2.1, ⟨?_, ?_⟩, ?_⟩
    · show ks.length - 1 ≤ ks.length; omega
    · show ks.length ≤ 64; rw [← HH.out.2.2.2.1]; exact h64'
    · show ks = srem x ks; rw [srem_none ks HF.out]
  · have hfi := hf.1 rfl
    have hin : i < n := by rw [HH.out.2.2.2.1]; exact hfi.1
    have HX : Hid (ks = ks.take i ++ x :: ks.drop (i + 1)) := cut_at (by rw [← HH.out.2.2.2.1]; exact hin) hfi.2
    have HC38 : Hid (Calls Try.prog 38 #[.slice g n c, .int .i64 (i : Int), .int .i64 ((i : Int) + 1)] w (StepK B _ w ⟨p, .slice g n c, .slice none 0 0, ks, []⟩ [] (ks.take i ++ ks.drop (i + 1)))) := HST.out.del (i := i) (by show i < ks.length; rw [← HH.out.2.2.2.1]; exact hin)
    have hw1 : IntKind.i64.wrap ((i : Int) + 1) = (i : Int) + 1 := by rw [IntKind.wrap_i64]; omega
    clear hf ht hd' hfi
    go_wp2_with fail
    refine HC38.out.mono ?_
    rintro e w6 ⟨g6, c6, rfl, q1, q2, q3⟩
    obtain ⟨K2, hK2⟩ : ∃ K2, K2 = ks.take i ++ ks.drop (i + 1) := ⟨_, rfl⟩
    have HK2 : Hid (K2 = ks.take i ++ ks.drop (i + 1)) := hK2
    rw [← hK2] at q3
    have H6 : Hid (St B (fun k => k ∈ [ns 0 (⟨p, .slice g n c, .slice none 0 0, ks⟩ : Hd)].flatMap NS.ft) w (w6.setCell ⟨p, 0, none⟩ (.slice g6 K2.length c6)) [⟨p, .slice g6 K2.length c6, .slice none 0 0, K2, []⟩]) := q3
    simp only [← hK2] at q1 ⊢
    clear q3 hK2
    go_wp2
    refine bodyPost_ret (v := .tuple #[]) (by simp [results, Try.results32, go_sem]) rfl ?_
    have hkl : ks.length = K2.length + 1 := by
      have h1 := congrArg List.length HX.out
      have h2 := congrArg List.length HK2.out
      simp only [List.length_append, List.length_cons] at h1 h2
      omega
    refine ⟨rfl, _, KeptT.leaf HH.out.1 HH.out.2.1 H6.out, ⟨?_, ?_⟩, ?_⟩
    · show ks.length - 1 ≤ K2.length; omega
    · show K2.length ≤ 64; have := HH.out.2.2.2.1; omega
    · show K2 = srem x ks
      have hm := srem_mid (x := x) (ks.take i) (ks.drop (i + 1)) (by rw [← HX.out]; exact HH.out.2.2.1)
      rw [← HX.out] at hm
      rw [hm]; exact HK2.out

end Go.Proofs.Qxb6604036a
