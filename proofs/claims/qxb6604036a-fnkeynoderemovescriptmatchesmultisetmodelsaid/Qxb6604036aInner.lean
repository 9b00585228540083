/- (*keyNode).insert at an inner node, and at every node. -/
import Derived.Test.Qxb6604036aInner2
namespace Go.Proofs.Qxb6604036a
open Go.RowKit Plain
set_option linter.unusedVariables false
set_option linter.unusedSimpArgs false

theorem ptr_ins {h : Nat} (A C : List (AT h)) (c c' r : AT h) (hp : (hd h c').p = (hd h c).p) (i : Nat) (hA : A.length = i) :
    ((A ++ c :: C).map (ptrV h)).take (i + 1) ++ ptrV h r :: ((A ++ c :: C).map (ptrV h)).drop (i + 1) = (A ++ c' :: r :: C).map (ptrV h) := by
  subst hA
  have e : ptrV h c' = ptrV h c := by simp [ptrV, hp]
  have l : (A.map (ptrV h)).length = A.length := by simp
  rw [List.map_append, List.map_cons, List.take_append, List.drop_append, l, List.take_of_length_le (by simp), List.drop_eq_nil_of_le (by simp), Nat.add_sub_cancel_left]
  simp [e]

set_option maxHeartbeats 8000000 in
set_option maxRecDepth 100000 in
theorem insert31_inner (B h mn : Nat) (H : Hd) (kids : List (AT h)) (x : ByteArray) (w : World) (hl : Lies B w (h + 1) (H, kids)) (hnd : (foot (h + 1) (H, kids)).Nodup) (hok : okT (h + 1) mn (H, kids))
    (hs : Sorted sl (inorder (h + 1) (H, kids))) (hB : B ≤ w.heap.size)
    (ih : ∀ c ∈ kids, (foot h c).Nodup → Sorted sl (inorder h c) → Calls Try.prog 31 #[ptrV h c, .string x] w (InsertPost B h c x 32 w)) :
    Calls Try.prog 31 #[.pointer (some ⟨H.p, 0, none⟩), .string x] w (InsertPost B (h + 1) (H, kids) x mn w) := by
  have IH : Hid (∀ c ∈ kids, (foot h c).Nodup → Sorted sl (inorder h c) → Calls Try.prog 31 #[ptrV h c, .string x] w (InsertPost B h c x 32 w)) := ih
  clear ih
  have hl' := hl
  obtain ⟨hN, hBp, hK, hC, ⟨cb0, hcb0⟩, hkids⟩ := hl'
  simp only at hN hBp hK hC hcb0 hkids
  have hl64 : H.ks.length ≤ 64 := hok.2.1
  have hkl : kids.length = H.ks.length + 1 := hok.2.2.1
  have hpw := lt_of_heap hN
  obtain ⟨a, c, hkv, hac, hcm⟩ := ownsRow_slice hK
  obtain ⟨gc, cc, hcv, hcc, hccm, _, _, hcells⟩ := ownsRow_cell hC (by omega)
  obtain rfl : gc = cb0 := by rw [hcv] at hcb0; simpa [ownBlock_some] using hcb0
  have h0 : w.cell? ⟨H.p, 0, none⟩ = some (.slice a H.ks.length c) := by rw [← hkv]; exact cell_node0 hN
  have h1 : w.cell? ⟨H.p, 1, none⟩ = some (.slice (some ⟨gc, 0, none⟩) kids.length cc) := by rw [← hcv]; exact cell_node1 hN
  have hnil := fun w a n c => Lib.run_eql_slice_nil (P := Try.prog) w 47 27 a n c 0 0 Try.underlying47
  have hsk : Sorted sl H.ks := Sorted.sublist hs (weave_keys _ _ (by simp; omega))
  have hlb := lb_le x H.ks
  obtain ⟨i, hi⟩ : ∃ i, lb x H.ks = i := ⟨_, rfl⟩
  have hik : i < kids.length := by omega
  obtain ⟨d, hdd⟩ : ∃ d, kids[i]? = some d := ⟨_, List.getElem?_eq_getElem hik⟩
  have hci : w.cell? ⟨gc, i, none⟩ = some (.pointer (some ⟨(hd h d).p, 0, none⟩)) := hcells i _ (by simp [hdd, ptrV])
  go_enter Try.func31, Try.ntmps31
  go_wp2_with fail
  rw [← hkv]
  refine (search33 B _ H.ks x w (by omega) hK hsk).mono ?_
  rintro e w1 ⟨rfl, f, rfl, hf, hb, ha⟩
  rw [hi] at hb ha ⊢
  rw [hkv]
  have hii : (i : Int) < (kids.length : Int) := by omega
  go_wp2_with fail
  obtain ⟨A, hAe⟩ : ∃ A, A = kids.take i := ⟨_, rfl⟩
  obtain ⟨C, hCe⟩ : ∃ C, C = kids.drop (i + 1) := ⟨_, rfl⟩
  obtain ⟨ka, hka⟩ : ∃ ka, ka = H.ks.take i := ⟨_, rfl⟩
  obtain ⟨kb, hkb⟩ : ∃ kb, kb = H.ks.drop i := ⟨_, rfl⟩
  have ekids : kids = A ++ d :: C := by
    rw [hAe, hCe]
    have := List.getElem?_eq_getElem hik
    rw [hdd] at this
    simp at this
    rw [this, ← List.drop_eq_getElem_cons hik, List.take_append_drop]
  have eks : H.ks = ka ++ kb := by rw [hka, hkb, List.take_append_drop]
  have lA : A.length = i := by rw [hAe]; simp; omega
  have lC : C.length = kb.length := by rw [hCe, hkb]; simp; omega
  have lka : ka.length = i := by rw [hka]; simp; omega
  rw [← hka] at hb
  rw [← hkb] at ha
  have hndd : (foot h d).Nodup := by
    rw [ekids, foot_mid] at hnd
    exact nodup_append_left' (nodup_append_right' hnd)
  have hsd : Sorted sl (inorder h d) := by
    have hs' := hs
    simp only [inorder, ekids, eks, List.map_append, List.map_cons] at hs'
    exact sorted_child (by simp; omega) (by simp; omega) hs'
  have hpd : H.p ∉ foot h d := fun hm => by
    rw [ekids, foot_mid] at hnd
    exact (List.nodup_append.1 hnd).2.2 H.p (by simp) H.p (List.mem_append.2 (.inl hm)) rfl
  refine (IH.out d (by rw [ekids]; simp) hndd hsd).mono ?_
  clear IH
  rintro e w1 ⟨hT, hcase⟩
  have hN1 : w1.heap[H.p]? = some (nodeObj H.kv H.cv) := by rw [hT.block _ hpw hpd]; exact hN
  clear h0 h1 hci hcells
  rcases hcase with ⟨c', rfl, hcp, hlc, hndc, hsub, hokc, _, hord, hnf⟩ | ⟨c', r, m, rfl, hcp, hlc, hlr, hndc, hsub, hokc, hokr, hord, hfl⟩
  · have HP := inner_none (mn := mn) eks hi lA lka lC (by rw [← ekids]; exact hl) (by rw [← ekids]; exact hnd) (by rw [← ekids]; exact hok) (by rw [← ekids]; exact hs) hb ha hT c' hcp hlc hndc hsub hokc hord hnf
    rw [← ekids] at HP
    have HP' : Hid (InsertPost B (h + 1) (H, kids) x mn w (.returned (.tuple #[.string ⟨#[]⟩, .pointer none])) w1) := HP
    clear HP hcp hlc hndc hsub hokc hord hnf hN1 hT hl hnd hok hs hN hK hC hcb0 hkids hkv hcv hsk hi hdd hAe hCe hka hkb eks lA lC lka hb ha hndd hsd hpd ekids hf
    go_wp2
    go_ret2
    exact HP'.out
  · have h0 : w1.cell? ⟨H.p, 0, none⟩ = some (.slice a H.ks.length c) := by rw [← hkv]; exact cell_node0 hN1
    have hK1 : w1.ownsRow B 9 1 H.kv H.ks.length (strs H.ks) := ownsRow_same hK fun k hk => hT.block k (ownsRow_lt hK hk).2 fun hm => by
      rw [ekids, foot_mid] at hnd
      exact (List.nodup_append.1 hnd).2.2 k (by simp [hk]) k (List.mem_append.2 (.inl hm)) rfl
    have hC1 : w1.ownsRow B 27 1 H.cv kids.length (kids.map (ptrV h)) := ownsRow_same hC fun k hk => hT.block k (ownsRow_lt hC hk).2 fun hm => by
      rw [ekids, foot_mid] at hnd
      exact (List.nodup_append.1 hnd).2.2 k (by simp [hk]) k (List.mem_append.2 (.inl hm)) rfl
    have hsz1 := hT.size
    have HID : Hid (kids = A ++ d :: C ∧ H.ks = ka ++ kb ∧ lb x H.ks = i ∧ A.length = i ∧ ka.length = i ∧ C.length = kb.length ∧ (hd h c').p = (hd h d).p ∧ inorder h c' ++ m :: inorder h r = sins sl x (inorder h d) ∧ H.kv = .slice a H.ks.length c ∧ H.cv = .slice (some ⟨gc, 0, none⟩) kids.length cc ∧ H.cv.ownBlock = some gc) := ⟨ekids, eks, hi, lA, lka, lC, hcp, hord, hkv, hcv, hcb0⟩
    clear ekids eks hi lA lka lC hcp hord hkv hcv hcb0 hAe hCe hka hkb hdd
    rw [show ptrV h r = .pointer (some ⟨(hd h r).p, 0, none⟩) from rfl]
    go_wp2_with fail
    obtain ⟨hE1, hE2, hE3, hE4, hE5, hE6, hE7, hE8, hE9, hE10, hE11⟩ := HID.out
    have hsl := strs_length H.ks
    rw [← hE9]
    refine (insS B H.kv (strs H.ks) i w1.heap.size (.string m) _ (by omega) (by omega) (by simp; omega) (by rw [hsl]; exact hK1.alloc _) (strs_oneCell H.ks) (heap_new w1 _) (ownsRow_ne hK1 (Nat.le_refl _)) rfl).mono ?_
    rintro e w2 ⟨kv', rfl, hown2, hT2, kb', hkb', hfk⟩
    rw [hsl, strs_ins, show H.ks.take i = ka by rw [hE2, ← hE5, List.take_left' rfl], show H.ks.drop i = kb by rw [hE2, ← hE5, List.drop_left' rfl]] at hown2
    obtain ⟨a', ck, hkv', hac', hcm'⟩ := ownsRow_slice hown2
    have hpk : H.kv.ownBlock ≠ some H.p := fun e => by
      rw [hE1, foot_mid, e] at hnd; simp at hnd
    have hpc : H.cv.ownBlock ≠ some H.p := fun e => by
      rw [hE1, foot_mid, e] at hnd; simp at hnd
    have hkc : H.kv.ownBlock ≠ H.cv.ownBlock := fun e => by
      rw [hE11] at e
      rw [hE1, foot_mid, e, hE11] at hnd
      simp at hnd
    have hN2 : w2.heap[H.p]? = some (nodeObj H.kv H.cv) := by rw [hT2.block _ (by simp; omega) hpk, Below.heap_alloc _ _ _ (by omega)]; exact hN1
    clear h0
    have h0 : w2.cell? ⟨H.p, 0, none⟩ = some (.slice a H.ks.length c) := by rw [← hE9]; exact cell_node0 hN2
    have h1 : w2.cell? ⟨H.p, 1, none⟩ = some (.slice (some ⟨gc, 0, none⟩) kids.length cc) := by rw [← hE10]; exact cell_node1 hN2
    have hf0 := frozen_node (o := 0) hN2
    have hsz2 : w1.heap.size + 1 ≤ w2.heap.size := by have := hT2.size; simpa using this
    clear hE1 hE2 hE3 hE4 hE5 hE6 hE7 hE8 hE9 hE10 hE11
    have HKV : Hid (kv' = .slice a' (H.ks.length + 1) ck) := hkv'
    rw [hkv']
    clear hkv'
    go_wp2_with fail
    obtain ⟨hE1, hE2, hE3, hE4, hE5, hE6, hE7, hE8, hE9, hE10, hE11⟩ := HID.out
    have hml : (kids.map (ptrV h)).length = kids.length := by simp
    rw [show Value.slice (some ⟨gc, 0, none⟩) (H.ks.length + 1) cc = H.cv by rw [hE10, hkl], show (i : Int) + 1 = ((i + 1 : Nat) : Int) by omega, ← HKV.out]
    have hC2 : (w2.setCell ⟨H.p, 0, none⟩ kv').ownsRow B 27 1 H.cv kids.length (kids.map (ptrV h)) := ownsRow_same hC1 fun k hk => by
      have hkw := (ownsRow_lt hC1 hk).2
      rw [Below.heap_setCell _ _ _ _ (fun e => hpc (by rw [hk]; exact congrArg some e)), hT2.block k (by simp; omega) (fun e => hkc (by rw [e, hk])), Below.heap_alloc _ _ _ hkw]
    have hss : (w2.setCell ⟨H.p, 0, none⟩ kv').heap.size = w2.heap.size := by simp [World.setCell]
    refine (insP B H.cv (kids.map (ptrV h)) (i + 1) w2.heap.size (.pointer (some ⟨(hd h r).p, 0, none⟩)) _ (by rw [hml]; omega) (by rw [hml]; omega) (by simp [World.setCell]; omega) (by rw [hml]; exact hC2.alloc _) (ptrs_oneCell h kids) (by rw [← hss]; exact heap_new _ _) (ownsRow_ne hC2 (by omega)) rfl).mono ?_
    rintro e w3 ⟨cv', rfl, hown3, hT3, cb', hcb', hfc⟩
    rw [show Value.pointer (some ⟨(hd h r).p, 0, none⟩) = ptrV h r from rfl] at hown3 hT3 hfc
    rw [hml, hE1, ptr_ins A C d _ r hE7 i hE4] at hown3
    have ov := inner_over (mn := mn) hE2 hE3 hE4 hE5 hE6 (by rw [← hE1]; exact hl) (by rw [← hE1]; exact hnd) (by rw [← hE1]; exact hok) (by rw [← hE1]; exact hs) hb ha hT _ r hE7 hlc hlr hndc hsub hokc hokr hE8 hfl hown2 hT2 hkb' hfk hown3 hT3 hcb' hfc
    rw [← hE1] at ov
    have hN3 : w3.heap[H.p]? = some (nodeObj kv' H.cv) := by
      rw [hT3.block _ (by simp [World.setCell]; omega) hpc, Below.heap_alloc _ _ _ (by simp [World.setCell]; omega)]; exact heap_setNode0 _ hN2
    obtain ⟨KS, hKS⟩ : ∃ KS, KS = ka ++ m :: kb := ⟨_, rfl⟩
    obtain ⟨KD, hKD⟩ : ∃ KD, KD = A ++ c' :: r :: C := ⟨_, rfl⟩
    rw [← hKS, ← hKD] at ov
    obtain ⟨ac, cc', hcv', hacc', hccm'⟩ := ownsRow_slice hown3
    obtain rfl : ac = some ⟨cb', 0, none⟩ := by
      rcases hown3.2 with ⟨h, _⟩ | ⟨g, cap, cur, h, _⟩
      · rw [h] at hcb'; simp [Value.ownBlock] at hcb'
      · rw [h] at hcv' hcb'; simp at hcv'; simp [ownBlock_some] at hcb'; rw [← hcv'.1, hcb']
    rw [← hE1] at hcv' hacc'
    have hkvs := HKV.out
    obtain rfl : a' = some ⟨kb', 0, none⟩ := by
      rcases hown2.2 with ⟨h, _⟩ | ⟨g, cap, cur, h, _⟩
      · rw [h] at hkb'; simp [Value.ownBlock] at hkb'
      · rw [h] at hkvs hkb'; simp at hkvs; simp [ownBlock_some] at hkb'; rw [← hkvs.1, hkb']
    have HI2 : Hid (kv' = .slice (some ⟨kb', 0, none⟩) (H.ks.length + 1) ck ∧ cv' = .slice (some ⟨cb', 0, none⟩) (kids.length + 1) cc' ∧ kv'.ownBlock = some kb' ∧ cv'.ownBlock = some cb') := ⟨HKV.out, hcv', hkb', hcb'⟩
    clear hE1 hE2 hE3 hE4 hE5 hE6 hE7 hE8 hE9 hE10 hE11 HID hkvs HKV
    clear hKS hKD hT3 hfc hT2 hfk hown2 hown3 hN2 hlc hlr hndc hsub hokc hokr hfl hC2 hC1 hK1 hndd hsd hpd hpk hkc hN1 hT hml hsl hb ha hf hsk hkids hC hK h0 h1 hf0 hl hnd hs hN hss
    have h0 : w3.cell? ⟨H.p, 0, none⟩ = some (.slice (some ⟨kb', 0, none⟩) (H.ks.length + 1) ck) := by rw [← HI2.out.1]; exact cell_node0 hN3
    have h1 : w3.cell? ⟨H.p, 1, none⟩ = some H.cv := cell_node1 hN3
    have hf1 := frozen_node (o := 1) hN3
    rw [hcv']
    by_cases h64 : H.ks.length < 64
    · have HP := ov.done hok h64
      rw [hcv'] at HP
      have HP' : Hid (InsertPost B (h + 1) (H, kids) x mn w (.returned (.tuple #[.string ⟨#[]⟩, .pointer none])) (w3.setCell ⟨H.p, 1, none⟩ (.slice (some ⟨cb', 0, none⟩) (kids.length + 1) cc'))) := HP
      clear HP ov hcv' hkb' hcb' hN3 HI2 hok
      go_wp2
      go_ret2
      have := HP'.out
      rw [hkl] at this
      exact this
    · have h64' : H.ks.length = 64 := by omega
      have hk65 : kids.length = 65 := by omega
      obtain ⟨W0, hW0⟩ : ∃ W0, W0 = w3.setCell ⟨H.p, 1, none⟩ (.slice (some ⟨cb', 0, none⟩) 66 cc') := ⟨_, rfl⟩
      have ov' : Over B h (H, kids) (⟨H.p, kv', cv', KS⟩, KD) x w W0 := by
        rw [hW0, ← show cv' = .slice (some ⟨cb', 0, none⟩) 66 cc' by rw [HI2.out.2.1, hk65]]; exact ov
      have OV : Hid (Over B h (H, kids) (⟨H.p, kv', cv', KS⟩, KD) x w W0) := ov'
      obtain ⟨hNW, _, hownW, hownC, _, _⟩ := ov'.lies
      have hl65 : KS.length = 65 := by have := ov'.keys; simp only at this; omega
      have hl66 : KD.length = 66 := by have := ov'.kids; simp only at this; omega
      simp only at hNW hownW hownC
      rw [hl65, HI2.out.1, h64'] at hownW
      rw [hl66, HI2.out.2.1, hk65] at hownC
      rw [HI2.out.1, HI2.out.2.1, h64', hk65] at hNW
      have htw : w.heap.size ≤ W0.heap.size := ov'.touch.size
      have hnd' := ov'.nodup
      rw [show foot (h + 1) ((⟨H.p, kv', cv', KS⟩, KD) : AT (h + 1)) = H.p :: kb' :: cb' :: KD.flatMap (foot h) by simp [foot, HI2.out.2.2.1, HI2.out.2.2.2]] at hnd'
      have hd3 : kb' ≠ H.p ∧ cb' ≠ H.p ∧ kb' ≠ cb' := by
        simp only [List.nodup_cons, List.mem_cons, not_or] at hnd'
        exact ⟨fun e => hnd'.1.1 e.symm, fun e => hnd'.1.2.1 e.symm, hnd'.2.1.1⟩
      have hck65 : 65 ≤ ck := by omega
      have hcc66 : 66 ≤ cc' := by omega
      rw [h64'] at h0
      have hok' : okT (h + 1) mn (H, kids) := hok
      clear ov ov' hnd' hcv' hN3 hkb' hcb' hok
      simp only [h64', hk65]
      go_wp2
      rw [← hW0]
      obtain ⟨mm, hmm⟩ : ∃ mm, KS[32]? = some mm := ⟨_, List.getElem?_eq_getElem (by omega)⟩
      have hc32 : W0.cell? ⟨kb', 32, none⟩ = some (.string mm) := by
        obtain ⟨g, c2, he, _, _, _, _, hc⟩ := ownsRow_cell hownW (by omega)
        simp at he
        rw [he.1]
        exact hc 32 _ (by simp [strs, hmm])
      have hpW := lt_of_heap hNW
      have hkW : kb' < W0.heap.size := (ownsRow_lt hownW rfl).2
      have hcW : cb' < W0.heap.size := (ownsRow_lt hownC rfl).2
      have hBk : B ≤ kb' := (ownsRow_lt hownW rfl).1
      have hBc : B ≤ cb' := (ownsRow_lt hownC rfl).1
      clear h0 h1 hf1
      have h0 := cell_node0 hNW
      have h1 := cell_node1 hNW
      go_cut [11, 12] (fun s11 s12 wc => s11 = .string mm ∧ s12 = .pointer (some ⟨W0.heap.size + 1, 0, none⟩) ∧ Mem ((W0.alloc (.cells row65 9)).alloc (nodeObj (.slice (some ⟨W0.heap.size, 0, none⟩) 0 65) (.slice none 0 0))) wc)
      case first =>
        clear hW0 OV hNW hownW hownC hl65 hl66 HI2 hd3 htw hmm
        go_region_with (go_at_call 36; refine (new36 _).mono ?_; rintro e w' ⟨rfl, rfl⟩)
        all_goals
          go_wp2
          go_meet
          case rel => exact ⟨rfl, rfl, ⟨rfl, rfl, rfl, rfl⟩⟩
      case rest =>
        obtain ⟨wA, rfl⟩ : ∃ wA : World, wA = wc := ⟨_, rfl⟩
        obtain ⟨rfl, rfl, hM⟩ := hcut
        clear h0 h1 hc32
        obtain ⟨N, hNeq⟩ : ∃ N, N = W0.heap.size := ⟨_, rfl⟩
        rw [← hNeq] at hM hpW hkW hcW htw ⊢
        have hold : ∀ k, k < N → wA.heap[k]? = W0.heap[k]? := fun k hk => by
          rw [hM.heap]
          show ((W0.heap.push _).push _)[k]? = _
          rw [Array.getElem?_push, Array.getElem?_push, if_neg (by simp; omega), if_neg (by omega)]
        have hRw : wA.heap[N]? = some (.cells row65 9 (0, 0)) := by
          rw [hM.heap]
          show ((W0.heap.push _).push _)[N]? = _
          rw [Array.getElem?_push, Array.getElem?_push, if_neg (by simp; omega), if_pos (by omega)]
        have hNr : wA.heap[N + 1]? = some (nodeObj (.slice (some ⟨N, 0, none⟩) 0 65) (.slice none 0 0)) := by
          rw [hM.heap]
          show ((W0.heap.push _).push _)[N + 1]? = _
          rw [Array.getElem?_push, if_pos (by simp; omega)]
        have hszA : wA.heap.size = N + 2 := by rw [hM.heap]; show ((W0.heap.push _).push _).size = _; simp; omega
        have hTc : Touch (fun _ => False) W0 wA := hM.touch (((Touch.refl _ _).alloc _).alloc _)
        have hNc : wA.heap[H.p]? = some (nodeObj (.slice (some ⟨kb', 0, none⟩) 65 ck) (.slice (some ⟨cb', 0, none⟩) 66 cc')) := by rw [hold _ hpW]; exact hNW
        obtain ⟨cur, hcur, hcurs, hcurt⟩ : ∃ cur, wA.heap[kb']? = some (.cells cur 9 (0, 0)) ∧ cur.size = ck ∧ cur.toList.take 65 = strs KS := by
          rcases hownW.2 with ⟨h, _⟩ | ⟨g, cap, cur, h, _, hg, _, _, h3, h4⟩
          · simp at h
          · simp at h; obtain ⟨rfl, rfl⟩ := h; exact ⟨cur, by rw [hold _ hkW]; exact hg, by omega, by simpa using h4⟩
        obtain ⟨cuc, hcuc, hcucs, hcuct⟩ : ∃ cuc, wA.heap[cb']? = some (.cells cuc 27 (0, 0)) ∧ cuc.size = cc' ∧ cuc.toList.take 66 = KD.map (ptrV h) := by
          rcases hownC.2 with ⟨h, _⟩ | ⟨g, cap, cur, h, _, hg, _, _, h3, h4⟩
          · simp at h
          · simp at h; obtain ⟨rfl, rfl⟩ := h; exact ⟨cur, by rw [hold _ hcW]; exact hg, by omega, by simpa using h4⟩
        -- the append
        obtain ⟨i0, hi0, hz0, hzs, hzb⟩ := infoS
        have hnews : (strs KS).drop 33 = (cur.toList.drop 33).take 32 := by rw [← hcurt, List.drop_take]
        obtain ⟨R1, hR1⟩ : ∃ R1, R1 = (row65.toList.take (0 * i0.size) ++ (strs KS).drop 33 ++ row65.toList.drop (0 * i0.size + ((strs KS).drop 33).length)).toArray := ⟨_, rfl⟩
        obtain ⟨W3, hW3⟩ : ∃ W3, W3 = wA.drew.setRow N R1 := ⟨_, rfl⟩
        have hap : Hid (∀ ty c2, (Builtin.append_ #[23, 23] ty #[.slice (some ⟨N, 0, none⟩) 0 65, .slice (some ⟨kb', 33, none⟩) 32 c2]).run Try.prog wA.drew = .ok (.slice (some ⟨N, 0, none⟩) 32 65) W3) := fun ty c2 => by
          rw [hW3, hR1]
          exact run_append_room (P := Try.prog) wA.drew 23 ty 9 i0 Try.underlying23 hi0 N 0 65 row65 hRw ⟨kb', 33, none⟩ 32 c2 ((strs KS).drop 33) (by rw [hzs, List.length_drop, strs_length, hl65]) (fun j u hj => row_cells (w := wA.drew) hcur 33 32 j u (by rw [← hnews]; exact hj)) (fun u hu => strs_oneCell _ u (List.mem_of_mem_drop hu)) (by omega) (by rw [hzs, List.length_drop, strs_length, hl65, row65_size]; omega)
        have hN3 : W3.heap[N + 1]? = some (nodeObj (.slice (some ⟨N, 0, none⟩) 0 65) (.slice none 0 0)) := by rw [hW3, setRow_other _ _ _ _ (by omega)]; exact hNr
        have h0 := cell_node0 hNc
        have h1 := cell_node1 hNc
        have hr0 := cell_node0 hNr
        have hr3 := cell_node0 hN3
        have hrf := frozen_node (o := 0) hN3
        have hc33 : ¬ ck = 33 := by omega
        have hw33 : IntKind.i64.wrap 33 = 33 := by decide
        go_wp2
        go_cut [] (fun wc2 => Mem (W3.setCell ⟨N + 1, 0, none⟩ (.slice (some ⟨N, 0, none⟩) 32 65)) wc2)
        case first =>
          clear hW0 OV hNW hownW hownC hl65 hl66 HI2 hd3 htw hmm hM hold hRw hNr hTc hNc hcur hcurs hcurt hcuc hcucs hcuct hi0 hz0 hzs hzb hnews hR1 hW3 hN3 hNeq hszA
          go_region_law (refine step_append_run rfl _ _ 23 23 rfl (.slice (some ⟨N, 0, none⟩) 0 65) (.slice (some ⟨kb', 33, none⟩) 32 (ck - 33)) (by simp [Act.eval, Act.put]) (by simp [Act.eval, Act.put]) (hap.out 23 (ck - 33)) ?_)
          all_goals
            go_wp2
            go_meet
            case rel => exact ⟨rfl, rfl, rfl, rfl⟩
        case rest =>
          obtain ⟨wc2, rfl⟩ : ∃ wc2 : World, wc2 = wc := ⟨_, rfl⟩
          have hM2 : Mem (W3.setCell ⟨N + 1, 0, none⟩ (.slice (some ⟨N, 0, none⟩) 32 65)) wc2 := hcut
          clear h0 h1 hr0 hr3 hrf hcut
          have hold2 : ∀ k, k ≠ N → k ≠ N + 1 → wc2.heap[k]? = wA.heap[k]? := fun k h1 h2 => by
            rw [hM2.heap, Below.heap_setCell _ _ _ _ h2, hW3, setRow_other _ _ _ _ h1]; rfl
          have hsz2 : wc2.heap.size = N + 2 := by rw [hM2.heap]; simp [World.setCell, hW3]; omega
          have hNr2 : wc2.heap[N + 1]? = some (nodeObj (.slice (some ⟨N, 0, none⟩) 32 65) (.slice none 0 0)) := by
            rw [hM2.heap]; exact heap_setNode0 _ hN3
          have hRw2 : wc2.heap[N]? = some (.cells R1 9 (0, 0)) := by
            rw [hM2.heap, Below.heap_setCell _ _ _ _ (by simp), hW3]; exact setRow_heap wA.drew N _ _ _ _ hRw
          have hT2 : Touch (fun _ => False) W0 wc2 := hM2.touch (Touch.setCell (by rw [hW3]; exact Touch.setRow hTc.drew _ (fun h => by omega) _) _ (fun h => by simp at h; omega) _)
          have hNc2 : wc2.heap[H.p]? = some (nodeObj (.slice (some ⟨kb', 0, none⟩) 65 ck) (.slice (some ⟨cb', 0, none⟩) 66 cc')) := by rw [hold2 _ (by omega) (by omega)]; exact hNc
          have hcur2 : wc2.heap[kb']? = some (.cells cur 9 (0, 0)) := by rw [hold2 _ (by omega) (by omega)]; exact hcur
          have hcuc2 : wc2.heap[cb']? = some (.cells cuc 27 (0, 0)) := by rw [hold2 _ (by omega) (by omega)]; exact hcuc
          -- the clear of the keys
          obtain ⟨R2, hR2⟩ : ∃ R2, R2 = (cur.toList.take 32 ++ List.replicate 33 (Value.string ⟨#[]⟩) ++ cur.toList.drop (32 + 33)).toArray := ⟨_, rfl⟩
          obtain ⟨W4, hW4⟩ : ∃ W4, W4 = wc2.setRow kb' R2 := ⟨_, rfl⟩
          have hcl : ∀ ty c2, (Builtin.clear_ #[23] ty #[.slice (some ⟨kb', 32, none⟩) 33 c2]).run Try.prog wc2 = .ok (.tuple #[]) W4 := fun ty c2 => by
            rw [hW4, hR2]
            exact run_clear_row wc2 23 9 ty 9 (.string ⟨#[]⟩) Try.underlying23 Try.zeroValue9 rfl rfl kb' 32 33 c2 cur (by omega) hcur2 (by omega)
          have hN4 : W4.heap[H.p]? = some (nodeObj (.slice (some ⟨kb', 0, none⟩) 65 ck) (.slice (some ⟨cb', 0, none⟩) 66 cc')) := by rw [hW4, setRow_other _ _ _ _ (fun h => hd3.1 h.symm)]; exact hNc2
          have h0 := cell_node0 hNc2
          have h1 := cell_node1 hNc2
          have h40 := cell_node0 hN4
          have h41 := cell_node1 hN4
          have h4f := frozen_node (o := 0) hN4
          have hc32 : ¬ ck = 32 := by omega
          have hw32 : IntKind.i64.wrap 32 = 32 := by decide
          have hneq := fun w a n c => run_neq_slice_nil_any (P := Try.prog) w 47 27 a n c 0 0 Try.underlying47
          have hck : (32 : Int) ≤ (ck : Int) := by omega
          have hcc : (33 : Int) ≤ (cc' : Int) := by omega
          have hcc3 : ¬ cc' = 33 := by omega
          have HI3 : Hid (wA.heap.size = N + 2 ∧ cur.size = ck ∧ cuc.size = cc' ∧ wc2.heap.size = N + 2 ∧ N = W0.heap.size ∧ i0.size = 1 ∧ KS.length = 65 ∧ KD.length = 66 ∧ KS[32]? = some mm ∧ R1 = (row65.toList.take (0 * i0.size) ++ (strs KS).drop 33 ++ row65.toList.drop (0 * i0.size + ((strs KS).drop 33).length)).toArray ∧ R2 = (cur.toList.take 32 ++ List.replicate 33 (Value.string ⟨#[]⟩) ++ cur.toList.drop (32 + 33)).toArray ∧ W4 = wc2.setRow kb' R2 ∧ cur.toList.take 65 = strs KS ∧ cuc.toList.take 66 = KD.map (ptrV h)) := ⟨hszA, hcurs, hcucs, hsz2, hNeq, hzs, hl65, hl66, hmm, hR1, hR2, hW4, hcurt, hcuct⟩
          have hcuc4 : Hid (W4.heap[cb']? = some (.cells cuc 27 (0, 0))) := by rw [hW4, setRow_other _ _ _ _ (fun e => hd3.2.2 e.symm)]; exact hcuc2
          clear hW3 hW4 hR1 hR2 hcurt hcuct hnews hszA hcurs hcucs hsz2 hNeq hzs hl65 hl66 hmm hi0 hz0 hzb hap hW0 hcur hcuc hRw hNr hN3 hNc hM hM2
          go_wp2_with fail
          obtain ⟨W5, hW5⟩ : ∃ W5, W5 = W4.setCell ⟨H.p, 0, none⟩ (.slice (some ⟨kb', 0, none⟩) 32 ck) := ⟨_, rfl⟩
          rw [← hW5]
          obtain ⟨gE1, gE2, gE3, gE4, gE5, gE6, gE7, gE8, gE9, gE10, gE11, gE12, gE13, gE14⟩ := HI3.out
          have hs5 : W5.heap.size = N + 2 := by rw [hW5, gE12]; simp [World.setCell]; exact gE4
          have hcuc5 : W5.heap[cb']? = some (.cells cuc 27 (0, 0)) := by rw [hW5, Below.heap_setCell _ _ _ _ hd3.2.1]; exact hcuc4.out
          have hN5 : W5.heap[H.p]? = some (nodeObj (.slice (some ⟨kb', 0, none⟩) 32 ck) (.slice (some ⟨cb', 0, none⟩) 66 cc')) := by rw [hW5]; exact heap_setNode0 _ hN4
          have hNr5 : W5.heap[N + 1]? = some (nodeObj (.slice (some ⟨N, 0, none⟩) 32 65) (.slice none 0 0)) := by
            rw [hW5, Below.heap_setCell _ _ _ _ (by simp; omega), gE12, setRow_other _ _ _ _ (by omega)]; exact hNr2
          refine (clone37 B cb' 33 33 (cc' - 33) cuc W5 (by omega) (by omega) (by omega) hcuc5 (by omega)).mono ?_
          rintro e w6 ⟨v', rfl, hown6, hT6, k6, hk6, hfr6⟩
          obtain ⟨a6, c6, hv6, _, _⟩ := ownsRow_slice hown6
          obtain rfl : a6 = some ⟨k6, 0, none⟩ := by
            rcases hown6.2 with ⟨h, _⟩ | ⟨g, cap, cur, h, _⟩
            · rw [h] at hk6; simp [Value.ownBlock] at hk6
            · rw [h] at hv6 hk6; simp at hv6; simp [ownBlock_some] at hk6; rw [← hv6.1, hk6]
          subst hv6
          have hN6 : w6.heap[H.p]? = some (nodeObj (.slice (some ⟨kb', 0, none⟩) 32 ck) (.slice (some ⟨cb', 0, none⟩) 66 cc')) := by rw [hT6.block _ (by omega) id]; exact hN5
          have hNr6 : w6.heap[N + 1]? = some (nodeObj (.slice (some ⟨N, 0, none⟩) 32 65) (.slice none 0 0)) := by rw [hT6.block _ (by omega) id]; exact hNr5
          have hcuc6 : w6.heap[cb']? = some (.cells cuc 27 (0, 0)) := by rw [hT6.block _ (by omega) id]; exact hcuc5
          obtain ⟨W7, hW7⟩ : ∃ W7, W7 = w6.setCell ⟨N + 1, 1, none⟩ (.slice (some ⟨k6, 0, none⟩) 33 c6) := ⟨_, rfl⟩
          have hN7 : W7.heap[H.p]? = some (nodeObj (.slice (some ⟨kb', 0, none⟩) 32 ck) (.slice (some ⟨cb', 0, none⟩) 66 cc')) := by rw [hW7, Below.heap_setCell _ _ _ _ (by simp; omega)]; exact hN6
          have hNr7 : W7.heap[N + 1]? = some (nodeObj (.slice (some ⟨N, 0, none⟩) 32 65) (.slice (some ⟨k6, 0, none⟩) 33 c6)) := by rw [hW7]; exact heap_setNode1 _ hNr6
          have hcuc7 : W7.heap[cb']? = some (.cells cuc 27 (0, 0)) := by rw [hW7, Below.heap_setCell _ _ _ _ (by simp; omega)]; exact hcuc6
          obtain ⟨R3, hR3⟩ : ∃ R3, R3 = (cuc.toList.take 33 ++ List.replicate 33 (Value.pointer none) ++ cuc.toList.drop (33 + 33)).toArray := ⟨_, rfl⟩
          obtain ⟨W8, hW8⟩ : ∃ W8, W8 = W7.setRow cb' R3 := ⟨_, rfl⟩
          have hcl3 : ∀ ty c2, (Builtin.clear_ #[47] ty #[.slice (some ⟨cb', 33, none⟩) 33 c2]).run Try.prog W7 = .ok (.tuple #[]) W8 := fun ty c2 => by
            rw [hW8, hR3]
            exact run_clear_row W7 47 27 ty 27 (.pointer none) Try.underlying47 Try.zeroValue27 rfl rfl cb' 33 33 c2 cuc (by omega) hcuc7 (by omega)
          have hN8 : W8.heap[H.p]? = some (nodeObj (.slice (some ⟨kb', 0, none⟩) 32 ck) (.slice (some ⟨cb', 0, none⟩) 66 cc')) := by rw [hW8, setRow_other _ _ _ _ (fun h => hd3.2.1 h.symm)]; exact hN7
          obtain ⟨Wf, hWf⟩ : ∃ Wf, Wf = W8.setCell ⟨H.p, 1, none⟩ (.slice (some ⟨cb', 0, none⟩) 33 cc') := ⟨_, rfl⟩
          have HP : Hid (InsertPost B (h + 1) (H, kids) x mn w (.returned (.tuple #[.string mm, .pointer (some ⟨N + 1, 0, none⟩)])) Wf) := by
            have hTV : Touch (· ∈ foot (h + 1) (H, kids)) w W0 := OV.out.touch
            have hsubV := OV.out.sub
            have hfoot : foot (h + 1) ((⟨H.p, kv', cv', KS⟩, KD) : AT (h + 1)) = H.p :: kb' :: cb' :: KD.flatMap (foot h) := by simp [foot, HI2.out.2.2.1, HI2.out.2.2.2]
            rw [hfoot] at hsubV
            have hT5 : Touch (· ∈ foot (h + 1) (H, kids)) w W5 := by
              rw [hW5, gE12]
              refine Touch.setCell (Touch.setRow (hTV.trans hT2 (fun _ _ h => h.elim)) _ (fun h => (hsubV kb' (by simp)).resolve_right (by omega)) _) _ (fun h => (hsubV H.p (by simp)).resolve_right (by show ¬ w.heap.size ≤ H.p; omega)) _
            have hTf : Touch (· ∈ foot (h + 1) (H, kids)) w Wf := by
              rw [hWf, hW8, hW7]
              refine Touch.setCell (Touch.setRow (Touch.setCell (hT5.trans hT6 (fun _ _ h => h.elim)) _ (fun h => by simp at h; omega) _) _ (fun h => (hsubV cb' (by simp)).resolve_right (by omega)) _) _ (fun h => (hsubV H.p (by simp)).resolve_right (by show ¬ w.heap.size ≤ H.p; omega)) _
            have hk6N : N + 2 ≤ k6 := by omega
            -- the final blocks
            have hkeepf : ∀ k, k ≠ H.p → k ≠ cb' → k ≠ N + 1 → Wf.heap[k]? = w6.heap[k]? := fun k a1 a2 a3 => by
              rw [hWf, Below.heap_setCell _ _ _ _ a1, hW8, setRow_other _ _ _ _ a2, hW7, Below.heap_setCell _ _ _ _ a3]
            have hkeep5 : ∀ k, k < N + 2 → k ≠ H.p → k ≠ kb' → W5.heap[k]? = wc2.heap[k]? := fun k a0 a1 a2 => by
              rw [hW5, Below.heap_setCell _ _ _ _ a1, gE12, setRow_other _ _ _ _ a2]
            have hkb6 : w6.heap[kb']? = some (.cells R2 9 (0, 0)) := by
              rw [hT6.block _ (by omega) id, hW5, Below.heap_setCell _ _ _ _ hd3.1, gE12]; exact setRow_heap wc2 kb' cur R2 _ _ hcur2
            have hN6' : w6.heap[N]? = some (.cells R1 9 (0, 0)) := by
              rw [hT6.block _ (by omega) id, hkeep5 N (by omega) (by omega) (by omega)]; exact hRw2
            have hR1t : R1.toList.take 32 = strs (KS.drop 33) ∧ R1.size = 65 := by
              have h3 : ((strs KS).drop 33).length = 32 := by rw [List.length_drop, strs_length, gE7]
              rw [gE10, Nat.zero_mul, Nat.zero_add, List.take_zero, List.nil_append, h3, List.toList_toArray, List.take_left' h3]
              constructor
              · simp [strs, List.map_drop]
              · simp [h3, row65_size]
            have hR2t : R2.toList.take 32 = strs (KS.take 32) ∧ R2.size = ck := by
              have h3 : (cur.toList.take 32).length = 32 := by simp; omega
              rw [gE11, List.toList_toArray, List.append_assoc, List.take_left' h3]
              constructor
              · have := congrArg (List.take 32) gE13
                rw [List.take_take, Nat.min_eq_left (by omega)] at this
                rw [this]; simp [strs, List.map_take]
              · simp; omega
            have hR3t : R3.toList.take 33 = (KD.take 33).map (ptrV h) ∧ R3.size = cc' := by
              have h3 : (cuc.toList.take 33).length = 33 := by simp; omega
              rw [hR3, List.toList_toArray, List.append_assoc, List.take_left' h3]
              constructor
              · have := congrArg (List.take 33) gE14
                rw [List.take_take, Nat.min_eq_left (by omega)] at this
                rw [this]; simp [List.map_take]
              · simp; omega
            have hcd : (cuc.toList.drop 33).take 33 = (KD.drop 33).map (ptrV h) := by
              have := congrArg (List.drop 33) gE14
              rw [List.drop_take] at this
              rw [this]; simp [List.map_drop]
            refine Over.split (N := N) (kb := kb') (cb := cb') (k6 := k6) (c' := ck) (cc := cc') (c6 := 65) (v' := .slice (some ⟨k6, 0, none⟩) 33 c6) OV.out hok' h64' HI2.out.2.2.1 HI2.out.2.2.2 gE5.symm (by omega) htw gE9 ?_ ?_ ?_ ?_ ?_ ?_ rfl hk6N ?_ hTf
            · rw [hWf]; exact heap_setNode1 _ hN8
            · rw [hWf, Below.heap_setCell _ _ _ _ (by simp; omega), hW8, setRow_other _ _ _ _ (by omega)]; exact hNr7
            · exact ⟨by rw [strs_length, List.length_take]; simp only [gE7]; omega, .inr ⟨kb', ck, R2, rfl, hBk, by rw [hkeepf kb' hd3.1 hd3.2.2 (by omega)]; exact hkb6, by omega, hcm', by omega, by rw [Nat.mul_one]; exact hR2t.1⟩⟩
            · exact ⟨by rw [strs_length, List.length_drop]; simp only [gE7], .inr ⟨N, 65, R1, rfl, by omega, by rw [hkeepf N (by omega) (by omega) (by omega)]; exact hN6', by omega, by unfold maxLen; omega, by omega, by rw [Nat.mul_one]; exact hR1t.1⟩⟩
            · exact ⟨by rw [List.length_map, List.length_take]; simp only [gE8]; omega, .inr ⟨cb', cc', R3, rfl, hBc, by rw [hWf, Below.heap_setCell _ _ _ _ hd3.2.1, hW8]; exact setRow_heap W7 cb' cuc R3 _ _ hcuc7, by omega, hccm', by omega, by rw [Nat.mul_one]; exact hR3t.1⟩⟩
            · rw [hcd] at hown6
              exact ownsRow_same hown6 fun k hk => by
                simp [ownBlock_some] at hk
                exact hkeepf k (by omega) (by omega) (by omega)
            · intro k hk a1 a2 a3
              rw [hkeepf k a1 a3 (by omega), hT6.block k (by omega) id, hkeep5 k (by omega) a1 a2, hold2 k (by omega) (by omega), hold k hk]
          have HW7 : Hid (W7 = w6.setCell ⟨N + 1, 1, none⟩ (.slice (some ⟨k6, 0, none⟩) 33 c6)) := hW7
          have HWf : Hid (Wf = W8.setCell ⟨H.p, 1, none⟩ (.slice (some ⟨cb', 0, none⟩) 33 cc')) := hWf
          clear h0 h1 h40 h41 h4f
          have h0 := cell_node0 hN6
          have h1 := cell_node1 hN6
          have hr1 := cell_node1 hNr6
          have hrf := frozen_node (o := 1) hNr6
          have h71 := cell_node1 hN7
          have h81 := cell_node1 hN8
          have h8f := frozen_node (o := 1) hN8
          clear gE1 gE2 gE3 gE4 gE5 gE6 gE7 gE8 gE9 gE10 gE11 gE12 gE13 gE14 hW5 hs5 hcuc5 hN5 hNr5 hown6 hT6 hk6 hN6 hNr6 hcuc6 hN7 hNr7 hcuc7 hR3 hW8 hN8 hW7 hWf HI3 hcl hcuc4 hd3 OV HI2 hold hold2 hTc hT2 hNW hownW hownC hNr2 hRw2 hNc2 hcur2 hcuc2 hN4
          go_upto_region 18 with fail
          rw [← HW7.out]
          clear HW7 h0 h1 hr1 hrf
          go_wp2
          go_ret2
          have := HP.out
          rw [HWf.out] at this
          exact this
/-- (*keyNode).insert at every tree. -/
theorem insert31 (B : Nat) (x : ByteArray) (w : World) (hB : B ≤ w.heap.size) : ∀ (h mn : Nat) (t : AT h), Lies B w h t → (foot h t).Nodup → okT h mn t → Sorted sl (inorder h t) →
    Calls Try.prog 31 #[ptrV h t, .string x] w (InsertPost B h t x mn w)
  | 0, mn, t, hl, hnd, hok, hs => insert31_leaf B mn t x w hl hnd hok hs hB
  | h + 1, mn, t, hl, hnd, hok, hs => insert31_inner B h mn t.1 t.2 x w hl hnd hok hs hB fun c hc hndc hsc => insert31 B x w hB h 32 c (hl.2.2.2.2.2 c hc) hndc (hok.2.2.2 c hc) hsc

end Go.Proofs.Qxb6604036a
