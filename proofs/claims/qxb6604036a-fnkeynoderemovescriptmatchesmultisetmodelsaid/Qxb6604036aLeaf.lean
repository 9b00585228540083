/- (*keyNode).insert at a leaf. -/
import Derived.Test.Qxb6604036aTree
import Derived.Deep.DeepCutAuto
import Derived.Deep.RegionLaw
import Derived.Deep.RegionWith
import Derived.BigQuiet
namespace Go.Proofs.Qxb6604036a
open Go.RowKit Plain
set_option linter.unusedVariables false
set_option linter.unusedSimpArgs false

theorem strs_ins (ks : List ByteArray) (i : Nat) (x : ByteArray) : (strs ks).take i ++ .string x :: (strs ks).drop i = strs (ks.take i ++ x :: ks.drop i) := by
  simp [strs, List.map_take, List.map_drop]

theorem heap_setNode0 {w : World} {p : Nat} {kv cv : Value} (v : Value) (h : w.heap[p]? = some (nodeObj kv cv)) : (w.setCell ⟨p, 0, none⟩ v).heap[p]? = some (nodeObj v cv) := by
  rw [setCell_eq_setRow w p 0 #[kv, cv] 56 (0, 0) v h, setRow_heap w p _ _ 56 (0, 0) h]
  rfl
theorem heap_setNode1 {w : World} {p : Nat} {kv cv : Value} (v : Value) (h : w.heap[p]? = some (nodeObj kv cv)) : (w.setCell ⟨p, 1, none⟩ v).heap[p]? = some (nodeObj kv v) := by
  rw [setCell_eq_setRow w p 1 #[kv, cv] 56 (0, 0) v h, setRow_heap w p _ _ 56 (0, 0) h]
  rfl

set_option maxHeartbeats 4000000 in
set_option maxRecDepth 100000 in
theorem insert31_leaf (B mn : Nat) (t : AT 0) (x : ByteArray) (w : World) (hl : Lies B w 0 t) (hnd : (foot 0 t).Nodup) (hok : okT 0 mn t) (hs : Sorted sl t.ks) (hB : B ≤ w.heap.size) :
    Calls Try.prog 31 #[.pointer (some ⟨t.p, 0, none⟩), .string x] w (InsertPost B 0 t x mn w) := by
  obtain ⟨p, kv, cv, ks⟩ := t
  obtain ⟨hN, hBp, hK, hcv⟩ := hl
  simp only at hN hBp hK hcv hs hok
  subst hcv
  have hpw := lt_of_heap hN
  obtain ⟨a, c, rfl, hac, hcm⟩ := ownsRow_slice hK
  have h0 := cell_node0 hN
  have h1 := cell_node1 hN
  have hf0 := frozen_node (o := 0) hN
  have hnil := fun w a n c => Lib.run_eql_slice_nil (P := Try.prog) w 47 27 a n c 0 0 Try.underlying47
  have hpk : (Value.slice a ks.length c).ownBlock ≠ some p := fun h => by simp [foot, h] at hnd
  have hl64 : ks.length ≤ 64 := hok.2
  go_enter Try.func31, Try.ntmps31
  go_wp2_with fail
  refine (search33 B _ ks x w (by omega) hK hs).mono ?_
  rintro e w1 ⟨rfl, f, rfl, hf, hb, ha⟩
  go_wp2_with fail
  have hlb := lb_le x ks
  obtain ⟨i, hi⟩ : ∃ i, lb x ks = i := ⟨_, rfl⟩
  rw [hi] at hlb hb ha ⊢
  have hsl := strs_length ks
  refine (insS B (.slice a ks.length c) (strs ks) i w.heap.size (.string x) _ (by omega) (by omega) (by simp; omega) (by rw [hsl]; exact hK.alloc _) (strs_oneCell ks) (heap_new w _) (fun h => by have := (ownsRow_lt hK h).2; omega) rfl).mono ?_
  rintro e w1 ⟨v', rfl, hown, htou, kb, hkb, hfresh⟩
  rw [strs_ins, hsl] at hown
  obtain ⟨a', c', rfl, hac', hcm'⟩ := ownsRow_slice hown
  have hN1 : w1.heap[p]? = some (nodeObj (.slice a ks.length c) (.slice none 0 0)) := by
    rw [htou.block p (by simp; omega) hpk, Below.heap_alloc w _ _ hpw]; exact hN
  clear h0 h1 hf0
  have h0 := cell_node0 hN1
  have h1 := cell_node1 hN1
  have hf0 := frozen_node (o := 0) hN1
  by_cases h64 : ks.length < 64
  · go_wp2
    go_ret2
    have hbp : kb ≠ p := by
      rcases hfresh with h | h
      · exact fun e => hpk (e ▸ h)
      · simp at h; omega
    have hT : Touch (· ∈ foot 0 (⟨p, .slice a ks.length c, .slice none 0 0, ks⟩ : Hd)) w (w1.setCell ⟨p, 0, none⟩ (.slice a' (ks.length + 1) c')) := by
      refine Touch.setCell (Touch.trans ((Touch.refl _ _).alloc (.cells #[.string x] 9)) htou fun k _ hk => ?_) _ (fun _ => by simp [foot]) _
      simp only [foot, List.mem_cons, Option.mem_toList]
      exact .inr hk
    refine ⟨hT, .inl ⟨(⟨p, .slice a' (ks.length + 1) c', .slice none 0 0, ks.take i ++ x :: ks.drop i⟩ : Hd), rfl, rfl, ⟨heap_setNode0 _ hN1, hBp, ?_, rfl⟩, ?_, ?_, ?_, ?_, ?_, ?_⟩⟩
    · have : (ks.take i ++ x :: ks.drop i).length = ks.length + 1 := by simp; omega
      rw [this]
      exact ownsRow_same hown fun k hk => Below.heap_setCell _ _ _ _ (fun e => hbp (by rw [hkb] at hk; simp at hk; rw [hk, e]))
    · simp [foot, hkb]; omega
    · intro k hk
      simp only [foot, hkb, Option.toList_some, List.mem_cons, List.not_mem_nil, or_false] at hk
      rcases hk with rfl | rfl
      · exact .inl (by simp [foot])
      · rcases hfresh with h | h
        · exact .inl (by simp [foot, h])
        · exact .inr (by simp at h; omega)
    · have := hok.1
      simp only at this
      constructor <;> simp <;> omega
    · simp [hd]; omega
    · show _ = sins sl x ks
      have := sins_keys (lt := sl) x (ks.take i) (ks.drop i) hb ha
      rw [List.take_append_drop] at this
      exact this.symm
    · show ¬ ks.length = 64
      omega
  · have h64' : ks.length = 64 := by omega
    obtain ⟨g, rfl⟩ : ∃ g, a' = some ⟨g, 0, none⟩ := by
      rcases hown.2 with ⟨h, _⟩ | ⟨g, cap, cur, h, _⟩
      · simp at h
      · simp at h; exact ⟨g, h.1⟩
    obtain rfl : kb = g := by simpa [Value.ownBlock] using hkb.symm
    rw [h64'] at hown hac'
    simp only [h64']
    go_wp2
    obtain ⟨W0, hW0⟩ : ∃ W0, W0 = w1.setCell ⟨p, 0, none⟩ (.slice (some ⟨kb, 0, none⟩) 65 c') := ⟨_, rfl⟩
    rw [← hW0]
    have hbp : kb ≠ p := by
      rcases hfresh with h | h
      · exact fun e => hpk (e ▸ h)
      · simp at h; omega
    obtain ⟨ks', hks'⟩ : ∃ ks', ks' = ks.take i ++ x :: ks.drop i := ⟨_, rfl⟩
    have hl65 : ks'.length = 65 := by rw [hks']; simp; omega
    rw [← hks'] at hown
    have hNW : W0.heap[p]? = some (nodeObj (.slice (some ⟨kb, 0, none⟩) 65 c') (.slice none 0 0)) := by rw [hW0]; exact heap_setNode0 _ hN1
    have hownW : W0.ownsRow B 9 1 (.slice (some ⟨kb, 0, none⟩) 65 c') 65 (strs ks') := by
      rw [hW0]
      exact ownsRow_same hown fun k hk => Below.heap_setCell _ _ _ _ (fun e => hbp (by simp [Value.ownBlock] at hk; rw [hk, e]))
    have hSz : W0.heap.size = w1.heap.size := by rw [hW0]; simp [World.setCell]
    obtain ⟨m, hm⟩ : ∃ m, ks'[32]? = some m := ⟨_, List.getElem?_eq_getElem (by omega)⟩
    have hc32 : W0.cell? ⟨kb, 32, none⟩ = some (.string m) := by
      obtain ⟨g, c2, he, _, _, _, _, hc⟩ := ownsRow_cell hownW (by omega)
      simp at he
      rw [he.1]
      exact hc 32 _ (by simp [strs, hm])
    have hpW := lt_of_heap hNW
    have hkW : kb < W0.heap.size := (ownsRow_lt hownW rfl).2
    clear h0 h1 hf0
    have h0 := cell_node0 hNW
    have h1 := cell_node1 hNW
    have hf0 := frozen_node (o := 0) hNW
    go_cut [11, 12] (fun s11 s12 wc => s11 = .string m ∧ s12 = .pointer (some ⟨W0.heap.size + 1, 0, none⟩) ∧ Mem ((W0.alloc (.cells row65 9)).alloc (nodeObj (.slice (some ⟨W0.heap.size, 0, none⟩) 0 65) (.slice none 0 0))) wc)
    case first =>
      clear hN1 hW0 hSz hnd hok hs hN hK htou hown hfresh
      go_region_with (go_at_call 36; refine (new36 _).mono ?_; rintro e w' ⟨rfl, rfl⟩)
      all_goals
        go_wp2
        go_meet
        case rel => exact ⟨rfl, rfl, ⟨rfl, rfl, rfl, rfl⟩⟩
    case rest =>
      obtain ⟨wA, rfl⟩ : ∃ wA : World, wA = wc := ⟨_, rfl⟩
      obtain ⟨rfl, rfl, hM⟩ := hcut
      clear h0 h1 hf0 hc32
      obtain ⟨N, hNeq⟩ : ∃ N, N = W0.heap.size := ⟨_, rfl⟩
      rw [← hNeq] at hM hpW hkW ⊢
      have hold : ∀ k, k < N → wA.heap[k]? = W0.heap[k]? := fun k hk => by
        rw [hM.heap]
        show ((W0.heap.push _).push _)[k]? = _
        rw [Array.getElem?_push, Array.getElem?_push, if_neg (by simp; omega), if_neg (by omega)]
      have hsz : wA.heap.size = N + 2 := by rw [hM.heap]; show ((W0.heap.push _).push _).size = _; simp; omega
      have hRw : wA.heap[N]? = some (.cells row65 9 (0, 0)) := by
        rw [hM.heap]
        show ((W0.heap.push _).push _)[N]? = _
        rw [Array.getElem?_push, Array.getElem?_push, if_neg (by simp; omega), if_pos (by omega)]
      have hNr : wA.heap[N + 1]? = some (nodeObj (.slice (some ⟨N, 0, none⟩) 0 65) (.slice none 0 0)) := by
        rw [hM.heap]
        show ((W0.heap.push _).push _)[N + 1]? = _
        rw [Array.getElem?_push, if_pos (by simp; omega)]
      have hTc : Touch (fun _ => False) W0 wA := hM.touch (((Touch.refl _ _).alloc _).alloc _)
      have hNc : wA.heap[p]? = some (nodeObj (.slice (some ⟨kb, 0, none⟩) 65 c') (.slice none 0 0)) := by rw [hold p hpW]; exact hNW
      have hownc : wA.ownsRow B 9 1 (.slice (some ⟨kb, 0, none⟩) 65 c') 65 (strs ks') := ownsRow_same hownW fun k hk => hold k (by simp [Value.ownBlock] at hk; omega)
      obtain ⟨cur, hcur, hcurs, hcurt⟩ : ∃ cur, wA.heap[kb]? = some (.cells cur 9 (0, 0)) ∧ cur.size = c' ∧ cur.toList.take 65 = strs ks' := by
        rcases hownc.2 with ⟨h, _⟩ | ⟨g, cap, cur, h, _, hg, _, _, h3, h4⟩
        · simp at h
        · simp at h; obtain ⟨rfl, rfl⟩ := h; exact ⟨cur, hg, by omega, by simpa using h4⟩
      -- the append
      obtain ⟨i0, hi0, hz0, hzs, hzb⟩ := infoS
      have hnews : (strs ks').drop 33 = (cur.toList.drop 33).take 32 := by rw [← hcurt, List.drop_take]
      obtain ⟨R1, hR1⟩ : ∃ R1, R1 = (row65.toList.take (0 * i0.size) ++ (strs ks').drop 33 ++ row65.toList.drop (0 * i0.size + ((strs ks').drop 33).length)).toArray := ⟨_, rfl⟩
      obtain ⟨W3, hW3⟩ : ∃ W3, W3 = wA.drew.setRow N R1 := ⟨_, rfl⟩
      have hap : Hid (∀ ty c2, (Builtin.append_ #[23, 23] ty #[.slice (some ⟨N, 0, none⟩) 0 65, .slice (some ⟨kb, 33, none⟩) 32 c2]).run Try.prog wA.drew = .ok (.slice (some ⟨N, 0, none⟩) 32 65) W3) := fun ty c2 => by
        rw [hW3, hR1]
        exact run_append_room (P := Try.prog) wA.drew 23 ty 9 i0 Try.underlying23 hi0 N 0 65 row65 hRw ⟨kb, 33, none⟩ 32 c2 ((strs ks').drop 33) (by rw [hzs, List.length_drop, strs_length, hl65]) (fun j u hj => row_cells (w := wA.drew) hcur 33 32 j u (by rw [← hnews]; exact hj)) (fun u hu => strs_oneCell _ u (List.mem_of_mem_drop hu)) (by omega) (by rw [hzs, List.length_drop, strs_length, hl65, row65_size]; omega)
      have hN3 : W3.heap[N + 1]? = some (nodeObj (.slice (some ⟨N, 0, none⟩) 0 65) (.slice none 0 0)) := by rw [hW3, setRow_other _ _ _ _ (by omega)]; exact hNr
      have h0 := cell_node0 hNc
      have h1 := cell_node1 hNc
      have hr0 := cell_node0 hNr
      have hr3 := cell_node0 hN3
      have hrf := frozen_node (o := 0) hN3
      have hc33 : ¬ c' = 33 := by omega
      have hw33 : IntKind.i64.wrap 33 = 33 := by decide
      go_wp2
      go_cut [] (fun wc2 => Mem (W3.setCell ⟨N + 1, 0, none⟩ (.slice (some ⟨N, 0, none⟩) 32 65)) wc2)
      case first =>
        clear hN1 hW0 hSz hnd hok hs hN hK htou hown hfresh hM hold hRw hNr hTc hNc hownc hcur hcurs hcurt hi0 hz0 hzs hzb hnews hR1 hW3 hN3 hsz hNeq hownW hNW
        go_region_law (refine step_append_run rfl _ _ 23 23 rfl (.slice (some ⟨N, 0, none⟩) 0 65) (.slice (some ⟨kb, 33, none⟩) 32 (c' - 33)) (by simp [Act.eval, Act.put]) (by simp [Act.eval, Act.put]) (hap.out 23 (c' - 33)) ?_)
        all_goals
          go_wp2
          go_meet
          case rel => exact ⟨rfl, rfl, rfl, rfl⟩
      case rest =>
        obtain ⟨wc2, rfl⟩ : ∃ wc2 : World, wc2 = wc := ⟨_, rfl⟩
        have hM2 : Mem (W3.setCell ⟨N + 1, 0, none⟩ (.slice (some ⟨N, 0, none⟩) 32 65)) wc2 := hcut
        clear h0 h1 hr0 hr3 hrf
        have hold2 : ∀ k, k ≠ N → k ≠ N + 1 → wc2.heap[k]? = wA.heap[k]? := fun k h1 h2 => by
          rw [hM2.heap, Below.heap_setCell _ _ _ _ h2, hW3, setRow_other _ _ _ _ h1]; rfl
        have hNr2 : wc2.heap[N + 1]? = some (nodeObj (.slice (some ⟨N, 0, none⟩) 32 65) (.slice none 0 0)) := by
          rw [hM2.heap]; exact heap_setNode0 _ hN3
        have hRw2 : wc2.heap[N]? = some (.cells R1 9 (0, 0)) := by
          rw [hM2.heap, Below.heap_setCell _ _ _ _ (by simp), hW3]; exact setRow_heap wA.drew N _ _ _ _ hRw
        have hT2 : Touch (fun _ => False) W0 wc2 := hM2.touch (Touch.setCell (by rw [hW3]; exact Touch.setRow hTc.drew _ (fun h => by omega) _) _ (fun h => by simp at h; omega) _)
        have hNc2 : wc2.heap[p]? = some (nodeObj (.slice (some ⟨kb, 0, none⟩) 65 c') (.slice none 0 0)) := by rw [hold2 p (by omega) (by omega)]; exact hNc
        have hcur2 : wc2.heap[kb]? = some (.cells cur 9 (0, 0)) := by rw [hold2 kb (by omega) (by omega)]; exact hcur
        -- the clear
        obtain ⟨R2, hR2⟩ : ∃ R2, R2 = (cur.toList.take 32 ++ List.replicate 33 (Value.string ⟨#[]⟩) ++ cur.toList.drop (32 + 33)).toArray := ⟨_, rfl⟩
        obtain ⟨W4, hW4⟩ : ∃ W4, W4 = wc2.setRow kb R2 := ⟨_, rfl⟩
        have hcl : ∀ ty c2, (Builtin.clear_ #[23] ty #[.slice (some ⟨kb, 32, none⟩) 33 c2]).run Try.prog wc2 = .ok (.tuple #[]) W4 := fun ty c2 => by
          rw [hW4, hR2]
          exact run_clear_row wc2 23 9 ty 9 (.string ⟨#[]⟩) Try.underlying23 Try.zeroValue9 rfl rfl kb 32 33 c2 cur (by omega) hcur2 (by omega)
        have hN4 : W4.heap[p]? = some (nodeObj (.slice (some ⟨kb, 0, none⟩) 65 c') (.slice none 0 0)) := by rw [hW4, setRow_other _ _ _ _ (fun h => hbp h.symm)]; exact hNc2
        have h0 := cell_node0 hNc2
        have h1 := cell_node1 hNc2
        have h40 := cell_node0 hN4
        have h41 := cell_node1 hN4
        have h4f := frozen_node (o := 0) hN4
        have hc32 : ¬ c' = 32 := by omega
        have hw32 : IntKind.i64.wrap 32 = 32 := by decide
        have hneq := fun w a n c => run_neq_slice_nil_any (P := Try.prog) w 47 27 a n c 0 0 Try.underlying47
        obtain ⟨Wf, hWf⟩ : ∃ Wf, Wf = W4.setCell ⟨p, 0, none⟩ (.slice (some ⟨kb, 0, none⟩) 32 c') := ⟨_, rfl⟩
        have HP : Hid (InsertPost B 0 (⟨p, .slice a ks.length c, .slice none 0 0, ks⟩ : Hd) x mn w (.returned (.tuple #[.string m, .pointer (some ⟨N + 1, 0, none⟩)])) Wf) := by
          have hkN : kb ≠ N ∧ kb ≠ N + 1 ∧ p ≠ N ∧ p ≠ N + 1 := by omega
          have hwN : w.heap.size ≤ N := by
            have := htou.size
            simp at this
            omega
          have hfk : kb ∈ foot 0 (⟨p, .slice a ks.length c, .slice none 0 0, ks⟩ : Hd) ∨ w.heap.size ≤ kb := by
            rcases hfresh with h | h
            · exact .inl (by simp [foot, h])
            · exact .inr (by simp at h; omega)
          have hT0 : Touch (· ∈ foot 0 (⟨p, .slice a ks.length c, .slice none 0 0, ks⟩ : Hd)) w W0 := by
            rw [hW0]
            refine Touch.setCell (Touch.trans ((Touch.refl _ _).alloc (.cells #[.string x] 9)) htou fun k _ hk => ?_) _ (fun _ => by simp [foot]) _
            simp only [foot, List.mem_cons, Option.mem_toList]
            exact .inr hk
          have hTf : Touch (· ∈ foot 0 (⟨p, .slice a ks.length c, .slice none 0 0, ks⟩ : Hd)) w Wf := by
            rw [hWf]
            refine Touch.setCell ?_ _ (fun _ => by simp [foot]) _
            rw [hW4]
            refine Touch.setRow (hT0.trans hT2 (fun _ _ h => h.elim)) _ (fun h => ?_) _
            exact hfk.resolve_right (by omega)
          have e1 : ks' = ks'.take 32 ++ m :: ks'.drop 33 := by
            have h32 : 32 < ks'.length := by omega
            rw [List.getElem?_eq_getElem h32] at hm
            simp at hm
            rw [← hm, ← List.drop_eq_getElem_cons h32, List.take_append_drop]
          have e2 : sins sl x ks = ks' := by
            have := sins_keys (lt := sl) x (ks.take i) (ks.drop i) hb ha
            rw [List.take_append_drop] at this
            rw [hks']; exact this
          have hl1 : (ks'.take 32).length = 32 := by simp; omega
          have hl2 : (ks'.drop 33).length = 32 := by simp; omega
          have hN1f : Wf.heap[N + 1]? = some (nodeObj (.slice (some ⟨N, 0, none⟩) 32 65) (.slice none 0 0)) := by
            rw [hWf, Below.heap_setCell _ _ _ _ hkN.2.2.2.symm, hW4, setRow_other _ _ _ _ hkN.2.1.symm]; exact hNr2
          have hNf : Wf.heap[N]? = some (.cells R1 9 (0, 0)) := by
            rw [hWf, Below.heap_setCell _ _ _ _ hkN.2.2.1.symm, hW4, setRow_other _ _ _ _ hkN.1.symm]; exact hRw2
          have hkf : Wf.heap[kb]? = some (.cells R2 9 (0, 0)) := by
            rw [hWf, Below.heap_setCell _ _ _ _ hbp, hW4]; exact setRow_heap wc2 kb cur R2 _ _ hcur2
          have hR1t : R1.toList.take 32 = strs (ks'.drop 33) ∧ R1.size = 65 := by
            have h3 : ((strs ks').drop 33).length = 32 := by rw [List.length_drop, strs_length, hl65]
            rw [hR1, Nat.zero_mul, Nat.zero_add, List.take_zero, List.nil_append, h3, List.toList_toArray, List.take_left' h3]
            constructor
            · simp [strs, List.map_drop]
            · simp [h3, row65_size]
          have hR2t : R2.toList.take 32 = strs (ks'.take 32) ∧ R2.size = c' := by
            have h3 : (cur.toList.take 32).length = 32 := by simp; omega
            rw [hR2, List.toList_toArray, List.append_assoc, List.take_left' h3]
            constructor
            · have := congrArg (List.take 32) hcurt
              rw [List.take_take, Nat.min_eq_left (by omega)] at this
              rw [this]; simp [strs, List.map_take]
            · simp; omega
          refine ⟨hTf, .inr ⟨(⟨p, .slice (some ⟨kb, 0, none⟩) 32 c', .slice none 0 0, ks'.take 32⟩ : Hd), (⟨N + 1, .slice (some ⟨N, 0, none⟩) 32 65, .slice none 0 0, ks'.drop 33⟩ : Hd), m, rfl, rfl, ⟨?_, hBp, ?_, rfl⟩, ⟨hN1f, by simp only; omega, ?_, rfl⟩, ?_, ?_, ?_, ?_, ?_, ?_⟩⟩
          · rw [hWf]; exact heap_setNode0 _ hN4
          · simp only [hl1]
            exact ⟨by rw [strs_length, hl1], .inr ⟨kb, c', R2, rfl, (ownsRow_lt hownW rfl).1, hkf, by omega, hcm', by omega, by rw [Nat.mul_one]; exact hR2t.1⟩⟩
          · simp only [hl2]
            exact ⟨by rw [strs_length, hl2], .inr ⟨N, 65, R1, rfl, by omega, hNf, by omega, by unfold maxLen; omega, by omega, by rw [Nat.mul_one]; exact hR1t.1⟩⟩
          · simp [foot, Value.ownBlock]; omega
          · intro k hk
            simp [foot, Value.ownBlock] at hk
            rcases hk with rfl | rfl | rfl | rfl
            · exact .inl (by simp [foot])
            · exact hfk
            · exact .inr (by omega)
            · exact .inr (by omega)
          · constructor <;> simp only [hl1] <;> omega
          · constructor <;> simp only [hl2] <;> omega
          · show ks'.take 32 ++ m :: ks'.drop 33 = sins sl x ks
            rw [← e1, e2]
          · exact h64'
        have hcc : (32 : Int) ≤ (c' : Int) := by omega
        clear hN1 hW0 hSz hnd hok hs hN hK htou hown hfresh hM hold hRw hNr hTc hNc hownc hcur hcurs hcurt hi0 hz0 hzs hzb hnews hR1 hW3 hN3 hsz hNeq hownW hNW hM2 hold2 hNr2 hRw2 hT2 hNc2 hcur2 hR2 hW4 hN4 hap hcut
        go_wp2
        go_ret2
        have := HP.out
        rw [hWf] at this
        exact this
end Go.Proofs.Qxb6604036a
