/- slices.Insert at []string (34) and at []*keyNode (35): the four roads, then one contract. -/
import Derived.Test.Qxb6604036aRows
import Derived.Test.Qxb6604036aRun
import Derived.Deep.RegionLaw
import Derived.Lib.JoinLaws
namespace Go.Proofs.Qxb6604036a
open Go.RowKit Go.Lib
set_option linter.unusedVariables false
set_option linter.unusedSimpArgs false

theorem heap_new (w : World) (o : Obj) : (w.alloc o).heap[w.heap.size]? = some o := by
  show (w.heap.push o)[w.heap.size]? = _
  simp

theorem put1_list (l : List Value) (i n : Nat) (u : Value) (hi : i ≤ n) (hn : n < l.length) :
    (l.take (i + 1) ++ (l.drop i).take (n - i) ++ l.drop (i + 1 + (n - i))).take i ++ [u] ++ (l.take (i + 1) ++ (l.drop i).take (n - i) ++ l.drop (i + 1 + (n - i))).drop (i + 1)
      = l.take i ++ u :: (l.drop i).take (n - i) ++ l.drop (n + 1) := by
  have h1 : (l.take (i + 1)).length = i + 1 := by rw [List.length_take]; omega
  rw [List.append_assoc (l.take (i + 1)), List.take_append_of_le_length (by omega), List.take_take, Nat.min_eq_left (by omega)]
  rw [List.drop_append, h1, Nat.sub_self, List.drop_zero, List.drop_eq_nil_of_le (by omega), List.nil_append, show i + 1 + (n - i) = n + 1 by omega]
  simp [List.append_assoc]

theorem take_ins (l : List Value) (i n : Nat) (u : Value) (hi : i ≤ n) (hn : n ≤ l.length) (r : List Value) :
    (l.take i ++ u :: (l.drop i).take (n - i) ++ r).take (n + 1) = (l.take n).take i ++ u :: (l.take n).drop i := by
  have e : (l.take i ++ u :: (l.drop i).take (n - i)).length = n + 1 := by simp; omega
  rw [← e, List.take_left' rfl, List.take_take, Nat.min_eq_left hi, List.drop_take]

/-- What slices.Insert leaves of an owned row 'v' of elements 'xs': the row with 'u' at place i, in the row's own block or in a new one. -/
def InsPost (B E : Nat) (v : Value) (xs : List Value) (i : Nat) (u : Value) (w : World) (e : Ending) (w' : World) : Prop :=
  ∃ v', e = .returned v' ∧ w'.ownsRow B E 1 v' (xs.length + 1) (xs.take i ++ u :: xs.drop i) ∧ Touch (fun k => v.ownBlock = some k) w w' ∧
    ∃ k, v'.ownBlock = some k ∧ (v.ownBlock = some k ∨ w.heap.size ≤ k)

theorem infoS : ∃ i, Try.prog.info? 9 = some i ∧ i.zero = some (Value.string ⟨#[]⟩) ∧ i.size = 1 ∧ i.bytes = 16 := ⟨_, rfl, rfl, rfl, rfl⟩
theorem sizeS : (Try.prog.info? 9).map (·.size) = some 1 := rfl

set_option maxHeartbeats 4000000 in
set_option maxRecDepth 100000 in
/-- there is room, i < len(s) -/
theorem insS_shift (g n c i vb : Nat) (cur : Array Value) (u : Value) (w : World) (hi : i < n) (hroom : n + 1 ≤ c) (hc : c ≤ 9223372036854775807) (hvb : vb ≠ g)
    (hg : w.heap[g]? = some (.cells cur 9 (0, 0))) (hcs : cur.size = c) (h1 : ∀ x ∈ cur.toList.take n, x.oneCell' = true) (hv : w.heap[vb]? = some (.cells #[u] 9 (0, 0))) (hu : u.oneCell' = true) :
    Calls Try.prog 34 #[.slice (some ⟨g, 0, none⟩) n c, .int .i64 i, .slice (some ⟨vb, 0, none⟩) 1 1] w fun e w' =>
      e = .returned (.slice (some ⟨g, 0, none⟩) (n + 1) c) ∧ w' = w.drew.setRow g (cur.toList.take i ++ u :: (cur.toList.drop i).take (n - i) ++ cur.toList.drop (n + 1)).toArray := by
  have hz2 : ¬ ((i : Int) = (n : Int)) := by omega
  have hov : ∀ lb cb, (callFunc 42 #[.slice (some ⟨vb, 0, none⟩) 1 1, .slice (some ⟨g, i + 1, none⟩) lb cb]).run Try.prog w = .ok (.value (.bool false)) w := fun lb cb => by
    rw [run_callFunc_extern Try.func42 (by kernel_rfl) (by kernel_rfl) (by kernel_rfl) (e := Extern.SlicesOverlaps.overlaps #[23, 23] #[4]) (by kernel_rfl),
      Lib.run_overlaps_apart w 23 4 9 Try.underlying23 1 Try.sizeOf9 ⟨vb, 0, none⟩ ⟨g, i + 1, none⟩ 1 1 lb cb hvb 9 9 1 c (by simp [World.shape?, hv]) (by simp [World.shape?, hg, hcs]) (by omega) (by simp [World.frozen?, hv]) (by simp [World.frozen?, hv])]
    rfl
  have hll : cur.toList.length = c := by simpa using hcs
  have hdl : ((cur.toList.drop i).take (n - i)).length = n - i := by rw [List.length_take, List.length_drop, hll]; omega
  obtain ⟨R1, hR1⟩ : ∃ R1, R1 = (cur.toList.take (i + 1) ++ (cur.toList.drop i).take (n - i) ++ cur.toList.drop (i + 1 + (n - i))).toArray := ⟨_, rfl⟩
  have hcp1 : ∀ ty dc sc, (Builtin.copy_ #[23, 23] ty #[.slice (some ⟨g, i + 1, none⟩) (n - i) dc, .slice (some ⟨g, i, none⟩) (n + 1 - i) sc]).run Try.prog w.drew = .ok (goInt ((cur.toList.drop i).take (n - i)).length) (w.drew.setRow g R1) := fun ty dc sc => by
    rw [hR1]
    have := run_copy_row Try.prog w.drew 23 23 ty 9 g (i + 1) (n - i) dc ⟨g, i, none⟩ (n + 1 - i) sc cur 9 ((cur.toList.drop i).take (n - i)) Try.underlying23 sizeS hg (by rw [hdl]; simp only [Nat.min_def]; split <;> omega)
      (row_cells (w := w.drew) hg i (n - i)) (by rw [hdl, hcs]; omega) (fun v hv => h1 v (by rw [← List.drop_take] at hv; exact List.mem_of_mem_drop hv))
    rw [hdl] at this
    rw [hdl]
    exact this
  have hR1s : R1.size = c := by rw [hR1]; simp; omega
  obtain ⟨W1, hW1⟩ : ∃ W1, W1 = w.drew.setRow g R1 := ⟨_, rfl⟩
  have hg1 : W1.heap[g]? = some (.cells R1 9 (0, 0)) := by rw [hW1]; exact setRow_heap w.drew g cur R1 9 (0, 0) hg
  have hv1 : W1.heap[vb]? = some (.cells #[u] 9 (0, 0)) := by rw [hW1, setRow_other _ _ _ _ hvb]; exact hv
  have hcp2 : ∀ ty dc, (Builtin.copy_ #[23, 23] ty #[.slice (some ⟨g, i, none⟩) (n + 1 - i) dc, .slice (some ⟨vb, 0, none⟩) 1 1]).run Try.prog W1 = .ok (goInt 1) (W1.setRow g (R1.toList.take i ++ [u] ++ R1.toList.drop (i + 1)).toArray) := fun ty dc =>
    run_copy_row Try.prog W1 23 23 ty 9 g i (n + 1 - i) dc ⟨vb, 0, none⟩ 1 1 R1 9 [u] Try.underlying23 sizeS hg1 (by simp only [Nat.min_def, List.length_singleton]; split <;> omega)
      (fun j v hj => row_cells (w := W1) hv1 0 1 j v (by simpa using hj)) (by rw [hR1s]; simp; omega) (by simpa using hu)
  have hfin : W1.setRow g (R1.toList.take i ++ [u] ++ R1.toList.drop (i + 1)).toArray = w.drew.setRow g (cur.toList.take i ++ u :: (cur.toList.drop i).take (n - i) ++ cur.toList.drop (n + 1)).toArray := by
    rw [hW1, setRow_setRow, hR1, List.toList_toArray, put1_list _ _ _ _ (by omega) (by omega)]
  have Hfin : Hid (W1.setRow g (R1.toList.take i ++ [u] ++ R1.toList.drop (i + 1)).toArray = w.drew.setRow g (cur.toList.take i ++ u :: (cur.toList.drop i).take (n - i) ++ cur.toList.drop (n + 1)).toArray) := hfin
  rw [← hW1] at hcp1
  have H1 : Hid (∀ ty dc sc, (Builtin.copy_ #[23, 23] ty #[.slice (some ⟨g, i + 1, none⟩) (n - i) dc, .slice (some ⟨g, i, none⟩) (n + 1 - i) sc]).run Try.prog w.drew = .ok (goInt ((cur.toList.drop i).take (n - i)).length) W1) := hcp1
  have H2 : Hid (∀ ty dc, (Builtin.copy_ #[23, 23] ty #[.slice (some ⟨g, i, none⟩) (n + 1 - i) dc, .slice (some ⟨vb, 0, none⟩) 1 1]).run Try.prog W1 = .ok (goInt 1) (W1.setRow g (R1.toList.take i ++ [u] ++ R1.toList.drop (i + 1)).toArray)) := hcp2
  clear hcp1 hcp2 hfin hW1 hR1 hg1 hv1 hR1s hdl hll hg hcs h1 hv hu
  have hw1 : IntKind.i64.wrap ((i : Int) + 1) = (i : Int) + 1 := by rw [IntKind.wrap_i64]; omega
  have hb1 : (0 : Int) ≤ (i : Int) + 1 := by omega
  have htn : ((i : Int) + 1).toNat = i + 1 := by omega
  have hb3 : (i : Int) ≤ (n : Int) + 1 := by omega
  have hb2 : ¬ (c = i + 1) := by omega
  have hin : i ≤ n := by omega
  have hb4 : ¬ (c = i) := by omega
  go_enter Try.func34, Try.ntmps34
  go_wp2_with (simp only [hov])
  go_region_law (refine step_copy_run rfl _ _ 23 23 rfl (.slice (some ⟨g, i + 1, none⟩) (n - i) (c - (i + 1))) (.slice (some ⟨g, i, none⟩) (n + 1 - i) (c - i)) (by simp [Act.eval, Act.put]) (by simp [Act.eval, Act.put]) (H1.out 3 (c - (i + 1)) (c - i)) ?_)
  have h2 := H2.out
  go_wp2
  go_ret
  exact ⟨rfl, by rw [← Hfin.out]; simp⟩


set_option maxHeartbeats 4000000 in
set_option maxRecDepth 100000 in
/-- at the end, there is room -/
theorem insS_endroom (g n c vb : Nat) (cur : Array Value) (u : Value) (w : World) (hroom : n + 1 ≤ c) (hc : c ≤ 9223372036854775807)
    (hg : w.heap[g]? = some (.cells cur 9 (0, 0))) (hcs : cur.size = c) (hv : w.heap[vb]? = some (.cells #[u] 9 (0, 0))) (hu : u.oneCell' = true) :
    Calls Try.prog 34 #[.slice (some ⟨g, 0, none⟩) n c, .int .i64 n, .slice (some ⟨vb, 0, none⟩) 1 1] w fun e w' =>
      e = .returned (.slice (some ⟨g, 0, none⟩) (n + 1) c) ∧ w' = w.setRow g (cur.toList.take n ++ [u] ++ cur.toList.drop (n + 1)).toArray := by
  obtain ⟨i0, hi0, hz0, hzs, hzb⟩ := infoS
  have hr : ∀ ty, (Builtin.append_ #[23, 23] ty #[.slice (some ⟨g, 0, none⟩) n c, .slice (some ⟨vb, 0, none⟩) 1 1]).run Try.prog w = .ok (.slice (some ⟨g, 0, none⟩) (n + 1) c) (w.setRow g (cur.toList.take n ++ [u] ++ cur.toList.drop (n + 1)).toArray) := fun ty => by
    have := run_append_room (P := Try.prog) w 23 ty 9 i0 Try.underlying23 hi0 g n c cur hg ⟨vb, 0, none⟩ 1 1 [u] (by rw [hzs]; rfl) (fun j v hj => row_cells (w := w) hv 0 1 j v (by simpa using hj)) (by simpa using hu) hroom (by rw [hzs, hcs]; simp; omega)
    rw [hzs] at this
    simpa using this
  generalize hWf : w.setRow g (cur.toList.take n ++ [u] ++ cur.toList.drop (n + 1)).toArray = Wf at hr ⊢
  have Hr : Hid (∀ ty, (Builtin.append_ #[23, 23] ty #[.slice (some ⟨g, 0, none⟩) n c, .slice (some ⟨vb, 0, none⟩) 1 1]).run Try.prog w = .ok (.slice (some ⟨g, 0, none⟩) (n + 1) c) Wf) := hr
  clear hr hg hcs hv hu hi0 hz0 hzs hzb hWf
  go_enter Try.func34, Try.ntmps34
  go_wp2_with (at_builtin; refine Lib.wpList_append_run _ rfl _ _ 23 23 rfl _ _ rfl rfl _ _ (Hr.out _) ?_)
  go_ret
  exact ⟨rfl, rfl⟩

set_option maxHeartbeats 4000000 in
set_option maxRecDepth 100000 in
/-- at the end, no room (a nil slice too): a new row -/
theorem insS_endgrow (v : Value) (n c vb : Nat) (xs : List Value) (u : Value) (w : World) (hbig : (n + 1) * 16 ≤ 140737488355328) (hxl : xs.length = n)
    (hrow : (v = .slice none 0 0 ∧ n = 0 ∧ c = 0) ∨ ∃ g cur, v = .slice (some ⟨g, 0, none⟩) n c ∧ w.heap[g]? = some (.cells cur 9 (0, 0)) ∧ cur.toList = xs ∧ c = n)
    (hv : w.heap[vb]? = some (.cells #[u] 9 (0, 0))) :
    Calls Try.prog 34 #[v, .int .i64 n, .slice (some ⟨vb, 0, none⟩) 1 1] w fun e w' =>
      ∃ G, n + 1 ≤ G ∧ G ≤ maxLen ∧ e = .returned (.slice (some ⟨w.heap.size, 0, none⟩) (n + 1) G) ∧ w' = w.drew.alloc (.cells ((xs ++ [u]).toArray ++ (List.replicate (G - (n + 1)) (Value.string ⟨#[]⟩)).toArray) 9) := by
  obtain ⟨i0, hi0, hz0, hzs, hzb⟩ := infoS
  have hnews : ∀ j v, [u][j]? = some v → w.cell? ((⟨vb, 0, none⟩ : Addr).add j) = some v := fun j v hj => row_cells (w := w) hv 0 1 j v (by simpa using hj)
  obtain ⟨G, hG⟩ : ∃ G, G = grownCap w (n + 1) c 9 := ⟨_, rfl⟩
  have hG1 : n + 1 ≤ G := by rw [hG]; exact grownCap_ge w _ _ _
  have hG2 : G ≤ maxLen := by rw [hG]; exact grownCap_le_maxLen w _ _ _ (by unfold maxLen; omega)
  have hr : ∀ ty, (Builtin.append_ #[23, 23] ty #[v, .slice (some ⟨vb, 0, none⟩) 1 1]).run Try.prog w = .ok (.slice (some ⟨w.heap.size, 0, none⟩) (n + 1) G) (w.drew.alloc (.cells ((xs ++ [u]).toArray ++ (List.replicate (G - (n + 1)) (Value.string ⟨#[]⟩)).toArray) 9)) := fun ty => by
    rw [← zeroCells_one (Value.string ⟨#[]⟩) rfl]
    rcases hrow with ⟨rfl, rfl, rfl⟩ | ⟨g, cur, rfl, hg, hcx, rfl⟩
    · have := run_append_nil (P := Try.prog) w 23 ty 9 i0 _ Try.underlying23 hi0 hz0 ⟨vb, 0, none⟩ 1 1 [u] (by rw [hzs]; rfl) hnews (by omega) (by omega) (by rw [hzb]; omega)
      have hx0 : xs = [] := List.length_eq_zero_iff.1 hxl
      rw [hx0, hG]
      simpa using this
    · have := run_append_grow (P := Try.prog) w 23 ty 9 i0 _ Try.underlying23 hi0 hz0 ⟨g, 0, none⟩ c c xs (by rw [hzs]; omega) (fun j v hj => row_cells (w := w) hg 0 c j v (by rw [hcx, List.drop_zero, List.take_of_length_le (by omega)]; exact hj)) ⟨vb, 0, none⟩ 1 1 [u] (by rw [hzs]; rfl) hnews (by omega) (by omega) (by rw [hzb]; exact growslice_fits (by omega) hbig)
      rw [hG]
      simpa using this
  obtain ⟨Wf, hWf⟩ : ∃ Wf, Wf = w.drew.alloc (.cells ((xs ++ [u]).toArray ++ (List.replicate (G - (n + 1)) (Value.string ⟨#[]⟩)).toArray) 9) := ⟨_, rfl⟩
  have HWf : Hid (Wf = w.drew.alloc (.cells ((xs ++ [u]).toArray ++ (List.replicate (G - (n + 1)) (Value.string ⟨#[]⟩)).toArray) 9)) := hWf
  have Hr : Hid (∀ ty, (Builtin.append_ #[23, 23] ty #[v, .slice (some ⟨vb, 0, none⟩) 1 1]).run Try.prog w = .ok (.slice (some ⟨w.heap.size, 0, none⟩) (n + 1) G) Wf) := by rw [hWf]; exact hr
  clear hr hnews hv hi0 hz0 hzs hzb hG hWf
  refine Calls.mono (R := fun e w' => e = .returned (.slice (some ⟨w.heap.size, 0, none⟩) (n + 1) G) ∧ w' = Wf) ?_ (fun e w' ⟨he, hw⟩ => ⟨G, hG1, hG2, he, hw.trans HWf.out⟩)
  rcases hrow with ⟨rfl, rfl, rfl⟩ | ⟨g, cur, rfl, hg, hcx, rfl⟩
  · clear hxl
    go_enter Try.func34, Try.ntmps34
    go_wp2_with (at_builtin; refine Lib.wpList_append_run _ rfl _ _ 23 23 rfl _ _ rfl rfl _ _ (Hr.out _) ?_)
    go_ret
    exact ⟨rfl, rfl⟩
  · clear hxl hg hcx
    go_enter Try.func34, Try.ntmps34
    go_wp2_with (at_builtin; refine Lib.wpList_append_run _ rfl _ _ 23 23 rfl _ _ rfl rfl _ _ (Hr.out _) ?_)
    go_ret
    exact ⟨rfl, rfl⟩

set_option maxHeartbeats 4000000 in
set_option maxRecDepth 100000 in
/-- i < len(s), no room: a new row -/
theorem insS_grow (g n i vb : Nat) (cur : Array Value) (u : Value) (w : World) (hi : i < n) (hbig : (n + 1) * 16 ≤ 140737488355328)
    (hg : w.heap[g]? = some (.cells cur 9 (0, 0))) (hcs : cur.size = n) (h1 : ∀ x ∈ cur.toList, x.oneCell' = true) (hv : w.heap[vb]? = some (.cells #[u] 9 (0, 0))) (hu : u.oneCell' = true) :
    Calls Try.prog 34 #[.slice (some ⟨g, 0, none⟩) n n, .int .i64 i, .slice (some ⟨vb, 0, none⟩) 1 1] w fun e w' =>
      ∃ G R, n + 1 ≤ G ∧ G ≤ maxLen ∧ R.size = G ∧ R.toList.take (n + 1) = cur.toList.take i ++ u :: cur.toList.drop i ∧ e = .returned (.slice (some ⟨w.heap.size, 0, none⟩) (n + 1) G) ∧
        (w'.heap[w.heap.size]? = some (.cells R 9 (0, 0)) ∧ Touch (fun _ => False) w w') := by
  obtain ⟨i0, hi0, hz0, hzs, hzb⟩ := infoS
  have hz2 : ¬ ((i : Int) = (n : Int)) := by omega
  obtain ⟨G, hG⟩ : ∃ G, G = grownCap w (n + 1) n 9 := ⟨_, rfl⟩
  have hG1 : n + 1 ≤ G := by rw [hG]; exact grownCap_ge w _ _ _
  have hG2 : G ≤ maxLen := by rw [hG]; exact grownCap_le_maxLen w _ _ _ (by unfold maxLen; omega)
  have hG3 : G ≤ 9223372036854775807 := by unfold maxLen at hG2; omega
  have hll : cur.toList.length = n := by simpa using hcs
  have hgw : g < w.heap.size := (Array.getElem?_eq_some_iff.1 hg).1
  have hvw : vb < w.heap.size := (Array.getElem?_eq_some_iff.1 hv).1
  have hold : (Builtin.firstCells i0.size i (.slice (some ⟨g, 0, none⟩) i n)).run Try.prog w.drew = .ok (cur.toList.take i).toArray w.drew := by
    rw [hzs]
    exact run_firstCells_some w.drew 1 i ⟨g, 0, none⟩ i n (cur.toList.take i) (by rw [List.length_take]; omega) (fun j v hj => row_cells (w := w.drew) hg 0 i j v (by simpa using hj))
  obtain ⟨R0, hR0⟩ : ∃ R0 : Array Value, R0 = (cur.toList.take i).toArray ++ (List.replicate (n + 1 - i) (Value.string ⟨#[]⟩)).toArray ++ (List.replicate (G - (n + 1)) (Value.string ⟨#[]⟩)).toArray := ⟨_, rfl⟩
  have hr0 : ∀ ty, (Builtin.append_ #[23, 3] ty #[.slice (some ⟨g, 0, none⟩) i n, .int .i64 ((n : Int) + 1 - (i : Int))]).run Try.prog w = .ok (.slice (some ⟨w.heap.size, 0, none⟩) (n + 1) G) (w.drew.alloc (.cells R0 9)) := fun ty => by
    have h := Lib.run_append_grow_zeros w 23 3 ty 9 i0 _ .i64 .i64 Try.underlying23 Try.underlying3 hi0 hz0 (some ⟨g, 0, none⟩) i n (cur.toList.take i) hold (n + 1 - i) (by omega) (by omega) (by omega) (by omega) (by rw [hzb]; omega) (by rw [hzb, show i + (n + 1 - i) = n + 1 by omega]; exact growslice_fits (by omega) hbig)
    rw [show i + (n + 1 - i) = n + 1 by omega, zeroCells_one (Value.string ⟨#[]⟩) rfl, zeroCells_one (Value.string ⟨#[]⟩) rfl] at h
    rw [hR0, show (n : Int) + 1 - (i : Int) = ((n + 1 - i : Nat) : Int) by omega, hG]
    rw [hG] at *
    exact h
  obtain ⟨W1, hW1⟩ : ∃ W1, W1 = w.drew.alloc (.cells R0 9) := ⟨_, rfl⟩
  have hR0s : R0.size = G := by rw [hR0]; simp; omega
  have hN1 : W1.heap[w.heap.size]? = some (.cells R0 9 (0, 0)) := by rw [hW1]; exact heap_new w.drew _
  have hv1 : W1.heap[vb]? = some (.cells #[u] 9 (0, 0)) := by rw [hW1, Below.heap_alloc w.drew _ _ hvw]; exact hv
  have hg1 : W1.heap[g]? = some (.cells cur 9 (0, 0)) := by rw [hW1, Below.heap_alloc w.drew _ _ hgw]; exact hg
  obtain ⟨R1, hR1⟩ : ∃ R1 : Array Value, R1 = (R0.toList.take i ++ [u] ++ R0.toList.drop (i + 1)).toArray := ⟨_, rfl⟩
  have hcp1 : ∀ ty dc, (Builtin.copy_ #[23, 23] ty #[.slice (some ⟨w.heap.size, i, none⟩) (n + 1 - i) dc, .slice (some ⟨vb, 0, none⟩) 1 1]).run Try.prog W1 = .ok (goInt 1) (W1.setRow w.heap.size R1) := fun ty dc => by
    rw [hR1]
    exact run_copy_row Try.prog W1 23 23 ty 9 w.heap.size i (n + 1 - i) dc ⟨vb, 0, none⟩ 1 1 R0 9 [u] Try.underlying23 sizeS hN1 (by simp only [Nat.min_def, List.length_singleton]; split <;> omega)
      (fun j v hj => row_cells (w := W1) hv1 0 1 j v (by simpa using hj)) (by rw [hR0s]; simp; omega) (by simpa using hu)
  obtain ⟨W2, hW2⟩ : ∃ W2, W2 = W1.setRow w.heap.size R1 := ⟨_, rfl⟩
  have hR1s : R1.size = G := by rw [hR1]; simp; omega
  have hN2 : W2.heap[w.heap.size]? = some (.cells R1 9 (0, 0)) := by rw [hW2]; exact setRow_heap _ _ _ _ _ _ hN1
  have hg2 : W2.heap[g]? = some (.cells cur 9 (0, 0)) := by rw [hW2, setRow_other _ _ _ _ (by omega)]; exact hg1
  obtain ⟨R2, hR2⟩ : ∃ R2 : Array Value, R2 = (R1.toList.take (i + 1) ++ cur.toList.drop i ++ R1.toList.drop (i + 1 + (n - i))).toArray := ⟨_, rfl⟩
  have hdl : (cur.toList.drop i).length = n - i := by rw [List.length_drop, hll]
  have hcp2 : ∀ ty dc sc, (Builtin.copy_ #[23, 23] ty #[.slice (some ⟨w.heap.size, i + 1, none⟩) (n - i) dc, .slice (some ⟨g, i, none⟩) (n - i) sc]).run Try.prog W2.drew = .ok (goInt (n - i : Nat)) (W2.drew.setRow w.heap.size R2) := fun ty dc sc => by
    have := run_copy_row Try.prog W2.drew 23 23 ty 9 w.heap.size (i + 1) (n - i) dc ⟨g, i, none⟩ (n - i) sc R1 9 (cur.toList.drop i) Try.underlying23 sizeS hN2 (by rw [hdl]; simp only [Nat.min_def]; split <;> omega)
      (fun j v hj => row_cells (w := W2.drew) hg2 i (n - i) j v (by rw [List.take_of_length_le (by omega)]; exact hj)) (by rw [hdl, hR1s]; omega) (fun v hv => h1 v (List.mem_of_mem_drop hv))
    rw [hdl] at this
    rw [hR2]
    exact this
  have hend : (W2.drew.setRow w.heap.size R2).heap[w.heap.size]? = some (.cells R2 9 (0, 0)) := setRow_heap W2.drew _ _ _ _ _ hN2
  have htou : Touch (fun _ => False) w (W2.drew.setRow w.heap.size R2) := by
    refine Touch.setRow ?_ _ (fun h => by omega) _
    refine Touch.drew ?_
    rw [hW2, hW1]
    exact Touch.setRow ((Touch.refl _ _).drew.alloc _) _ (fun h => by omega) _
  have hR2s : R2.size = G := by rw [hR2]; simp; omega
  have hR2t : R2.toList.take (n + 1) = cur.toList.take i ++ u :: cur.toList.drop i := by
    have e0 : R0.toList.take i = cur.toList.take i := by rw [hR0]; simp [List.take_append, hll, List.take_take]; omega
    have e1 : R1.toList.take (i + 1) = cur.toList.take i ++ [u] := by
      rw [hR1, List.toList_toArray, e0]
      rw [List.take_left' (by simp; omega)]
    rw [hR2, List.toList_toArray, e1, List.take_left' (by simp; omega)]
    simp
  have Hr0 : Hid (∀ ty, (Builtin.append_ #[23, 3] ty #[.slice (some ⟨g, 0, none⟩) i n, .int .i64 ((n : Int) + 1 - (i : Int))]).run Try.prog w = .ok (.slice (some ⟨w.heap.size, 0, none⟩) (n + 1) G) W1) := by rw [hW1]; exact hr0
  have H1 : Hid (∀ ty dc, (Builtin.copy_ #[23, 23] ty #[.slice (some ⟨w.heap.size, i, none⟩) (n + 1 - i) dc, .slice (some ⟨vb, 0, none⟩) 1 1]).run Try.prog W1 = .ok (goInt 1) W2) := by rw [hW2]; exact hcp1
  have H2 : Hid (∀ ty dc sc, (Builtin.copy_ #[23, 23] ty #[.slice (some ⟨w.heap.size, i + 1, none⟩) (n - i) dc, .slice (some ⟨g, i, none⟩) (n - i) sc]).run Try.prog W2.drew = .ok (goInt (n - i : Nat)) (W2.drew.setRow w.heap.size R2)) := hcp2
  have Hend : Hid ((W2.drew.setRow w.heap.size R2).heap[w.heap.size]? = some (.cells R2 9 (0, 0))) := hend
  have Hs : Hid (R2.size = G) := hR2s
  have Ht : Hid (R2.toList.take (n + 1) = cur.toList.take i ++ u :: cur.toList.drop i) := hR2t
  clear hr0 hcp1 hcp2 hend hR2s hR2t hW1 hW2 hR0 hR1 hR2 hN1 hN2 hg1 hg2 hv1 hg hv hG hold hR0s hR1s hdl hll hcs h1 hu hi0 hz0 hzs hzb
  have hw1 : IntKind.i64.wrap ((i : Int) + 1) = (i : Int) + 1 := by rw [IntKind.wrap_i64]; omega
  have hb1 : (0 : Int) ≤ (i : Int) + 1 := by omega
  have htn : ((i : Int) + 1).toNat = i + 1 := by omega
  have hb2 : ¬ (G = i + 1) := by omega
  have hb4 : ¬ (G = i) := by omega
  have hb5 : ¬ (n = i) := by omega
  have hin : i ≤ n := by omega
  have hb3 : (i : Int) ≤ (n : Int) := by omega
  go_enter Try.func34, Try.ntmps34
  have h1 := H1.out
  go_wp2_with (at_builtin; refine Lib.wpList_append_run _ rfl _ _ 23 3 rfl _ _ rfl rfl _ _ (Hr0.out _) ?_)
  go_region_law (refine step_copy_run rfl _ _ 23 23 rfl (.slice (some ⟨w.heap.size, i + 1, none⟩) (n - i) (G - (i + 1))) (.slice (some ⟨g, i, none⟩) (n - i) (n - i)) (by simp [Act.eval, Act.put]) (by simp [Act.eval, Act.put]) (H2.out 3 (G - (i + 1)) (n - i)) ?_)
  go_wp2
  go_ret
  exact ⟨G, R2, hG1, hG2, Hs.out, Ht.out, rfl, Hend.out, htou⟩

/-- slices.Insert(s, i, u) on an owned row. -/
theorem insS (B : Nat) (v : Value) (xs : List Value) (i vb : Nat) (u : Value) (w : World) (hi : i ≤ xs.length) (hbig : (xs.length + 1) * 16 ≤ 140737488355328) (hB : B ≤ w.heap.size)
    (hrow : w.ownsRow B 9 1 v xs.length xs) (h1 : ∀ x ∈ xs, x.oneCell' = true)
    (hv : w.heap[vb]? = some (.cells #[u] 9 (0, 0))) (hvb : v.ownBlock ≠ some vb) (hu : u.oneCell' = true) :
    Calls Try.prog 34 #[v, .int .i64 i, .slice (some ⟨vb, 0, none⟩) 1 1] w (InsPost B 9 v xs i u w) := by
  rcases hrow.2 with ⟨rfl, hn0⟩ | ⟨g, cap, cur, rfl, hBg, hg, hnc, hcm, hcs, htk⟩
  · have hx : xs = [] := List.length_eq_zero_iff.1 hn0
    subst hx
    obtain rfl : i = 0 := by simpa using hi
    refine (insS_endgrow _ 0 0 vb [] u w hbig rfl (.inl ⟨rfl, rfl, rfl⟩) hv).mono ?_
    rintro e w' ⟨G, hG1, hG2, rfl, rfl⟩
    refine ⟨_, rfl, ⟨by simp, .inr ⟨w.heap.size, G, _, rfl, hB, heap_new w.drew _, hG1, hG2, by simp; omega, by rw [Nat.mul_one, List.append_toArray, List.toList_toArray, List.take_left' (by simp)]; simp⟩⟩, ((Touch.refl _ _).drew.alloc _), w.heap.size, rfl, .inr (Nat.le_refl _)⟩
  · simp only [Nat.mul_one] at hcs htk
    have hne : vb ≠ g := fun e => hvb (by simp [Value.ownBlock, e])
    have hcm' : cap ≤ 9223372036854775807 := by unfold maxLen at hcm; omega
    have hgw : g < w.heap.size := (Array.getElem?_eq_some_iff.1 hg).1
    have hll : cur.toList.length = cap := by simpa using hcs
    by_cases hroom : xs.length + 1 ≤ cap
    · have fin : ∀ (W : World), (∀ k, W.heap[k]? = w.heap[k]?) → W.os = w.os → W.tape = w.tape → W.output = w.output → W.heap.size = w.heap.size → InsPost B 9 (.slice (some ⟨g, 0, none⟩) xs.length cap) xs i u w (.returned (.slice (some ⟨g, 0, none⟩) (xs.length + 1) cap)) (W.setRow g (cur.toList.take i ++ u :: (cur.toList.drop i).take (xs.length - i) ++ cur.toList.drop (xs.length + 1)).toArray) := fun W hW h_o h_t h_p hs =>
        ⟨_, rfl, ⟨by simp; omega, .inr ⟨g, cap, _, rfl, hBg, setRow_heap W g cur _ 9 (0, 0) (by rw [hW]; exact hg), hroom, hcm, by simp; omega, by rw [Nat.mul_one, List.toList_toArray, take_ins _ _ _ _ hi (by omega), htk]⟩⟩,
          Touch.setRow (S := fun k => (Value.slice (some ⟨g, 0, none⟩) xs.length cap).ownBlock = some k) (Touch.mk h_o h_t h_p (by omega) (fun k _ _ => hW k)) g (fun _ => rfl) _, g, rfl, .inl rfl⟩
      by_cases hlt : i < xs.length
      · refine (insS_shift g xs.length cap i vb cur u w hlt hroom hcm' hne hg hcs (by rw [htk]; exact h1) hv hu).mono ?_
        rintro e w' ⟨rfl, rfl⟩
        exact fin w.drew (fun _ => rfl) rfl rfl rfl rfl
      · obtain rfl : i = xs.length := by omega
        refine (insS_endroom g xs.length cap vb cur u w hroom hcm' hg hcs hv hu).mono ?_
        rintro e w' ⟨rfl, rfl⟩
        have := fin w (fun _ => rfl) rfl rfl rfl rfl
        simpa using this
    · obtain rfl : cap = xs.length := by omega
      have hcx : cur.toList = xs := by rw [← htk, List.take_of_length_le (by omega)]
      by_cases hlt : i < xs.length
      · refine (insS_grow g xs.length i vb cur u w hlt hbig hg hcs (by rw [hcx]; exact h1) hv hu).mono ?_
        rintro e w' ⟨G, R, hG1, hG2, hRs, hRt, rfl, hR, ht⟩
        exact ⟨_, rfl, ⟨by simp; omega, .inr ⟨w.heap.size, G, R, rfl, hB, hR, hG1, hG2, by omega, by rw [Nat.mul_one, hRt, hcx]⟩⟩, ht.mono (fun _ _ h => h.elim), w.heap.size, rfl, .inr (Nat.le_refl _)⟩
      · obtain rfl : i = xs.length := by omega
        refine (insS_endgrow _ xs.length xs.length vb xs u w hbig rfl (.inr ⟨g, cur, rfl, hg, hcx, rfl⟩) hv).mono ?_
        rintro e w' ⟨G, hG1, hG2, rfl, rfl⟩
        refine ⟨_, rfl, ⟨by simp, .inr ⟨w.heap.size, G, _, rfl, hB, heap_new w.drew _, hG1, hG2, by simp; omega, by rw [Nat.mul_one, List.append_toArray, List.toList_toArray, List.take_left' (by simp)]; simp⟩⟩, ((Touch.refl _ _).drew.alloc _), w.heap.size, rfl, .inr (Nat.le_refl _)⟩
theorem infoP : ∃ i, Try.prog.info? 27 = some i ∧ i.zero = some (Value.pointer none) ∧ i.size = 1 ∧ i.bytes = 8 := ⟨_, rfl, rfl, rfl, rfl⟩
theorem sizeP : (Try.prog.info? 27).map (·.size) = some 1 := rfl

set_option maxHeartbeats 4000000 in
set_option maxRecDepth 100000 in
/-- there is room, i < len(s) -/
theorem insP_shift (g n c i vb : Nat) (cur : Array Value) (u : Value) (w : World) (hi : i < n) (hroom : n + 1 ≤ c) (hc : c ≤ 9223372036854775807) (hvb : vb ≠ g)
    (hg : w.heap[g]? = some (.cells cur 27 (0, 0))) (hcs : cur.size = c) (h1 : ∀ x ∈ cur.toList.take n, x.oneCell' = true) (hv : w.heap[vb]? = some (.cells #[u] 27 (0, 0))) (hu : u.oneCell' = true) :
    Calls Try.prog 35 #[.slice (some ⟨g, 0, none⟩) n c, .int .i64 i, .slice (some ⟨vb, 0, none⟩) 1 1] w fun e w' =>
      e = .returned (.slice (some ⟨g, 0, none⟩) (n + 1) c) ∧ w' = w.drew.setRow g (cur.toList.take i ++ u :: (cur.toList.drop i).take (n - i) ++ cur.toList.drop (n + 1)).toArray := by
  have hz2 : ¬ ((i : Int) = (n : Int)) := by omega
  have hov : ∀ lb cb, (callFunc 44 #[.slice (some ⟨vb, 0, none⟩) 1 1, .slice (some ⟨g, i + 1, none⟩) lb cb]).run Try.prog w = .ok (.value (.bool false)) w := fun lb cb => by
    rw [run_callFunc_extern Try.func44 (by kernel_rfl) (by kernel_rfl) (by kernel_rfl) (e := Extern.SlicesOverlaps.overlaps #[47, 47] #[4]) (by kernel_rfl),
      Lib.run_overlaps_apart w 47 4 27 Try.underlying47 1 Try.sizeOf27 ⟨vb, 0, none⟩ ⟨g, i + 1, none⟩ 1 1 lb cb hvb 27 27 1 c (by simp [World.shape?, hv]) (by simp [World.shape?, hg, hcs]) (by omega) (by simp [World.frozen?, hv]) (by simp [World.frozen?, hv])]
    rfl
  have hll : cur.toList.length = c := by simpa using hcs
  have hdl : ((cur.toList.drop i).take (n - i)).length = n - i := by rw [List.length_take, List.length_drop, hll]; omega
  obtain ⟨R1, hR1⟩ : ∃ R1, R1 = (cur.toList.take (i + 1) ++ (cur.toList.drop i).take (n - i) ++ cur.toList.drop (i + 1 + (n - i))).toArray := ⟨_, rfl⟩
  have hcp1 : ∀ ty dc sc, (Builtin.copy_ #[47, 47] ty #[.slice (some ⟨g, i + 1, none⟩) (n - i) dc, .slice (some ⟨g, i, none⟩) (n + 1 - i) sc]).run Try.prog w.drew = .ok (goInt ((cur.toList.drop i).take (n - i)).length) (w.drew.setRow g R1) := fun ty dc sc => by
    rw [hR1]
    have := run_copy_row Try.prog w.drew 47 47 ty 27 g (i + 1) (n - i) dc ⟨g, i, none⟩ (n + 1 - i) sc cur 27 ((cur.toList.drop i).take (n - i)) Try.underlying47 sizeP hg (by rw [hdl]; simp only [Nat.min_def]; split <;> omega)
      (row_cells (w := w.drew) hg i (n - i)) (by rw [hdl, hcs]; omega) (fun v hv => h1 v (by rw [← List.drop_take] at hv; exact List.mem_of_mem_drop hv))
    rw [hdl] at this
    rw [hdl]
    exact this
  have hR1s : R1.size = c := by rw [hR1]; simp; omega
  obtain ⟨W1, hW1⟩ : ∃ W1, W1 = w.drew.setRow g R1 := ⟨_, rfl⟩
  have hg1 : W1.heap[g]? = some (.cells R1 27 (0, 0)) := by rw [hW1]; exact setRow_heap w.drew g cur R1 27 (0, 0) hg
  have hv1 : W1.heap[vb]? = some (.cells #[u] 27 (0, 0)) := by rw [hW1, setRow_other _ _ _ _ hvb]; exact hv
  have hcp2 : ∀ ty dc, (Builtin.copy_ #[47, 47] ty #[.slice (some ⟨g, i, none⟩) (n + 1 - i) dc, .slice (some ⟨vb, 0, none⟩) 1 1]).run Try.prog W1 = .ok (goInt 1) (W1.setRow g (R1.toList.take i ++ [u] ++ R1.toList.drop (i + 1)).toArray) := fun ty dc =>
    run_copy_row Try.prog W1 47 47 ty 27 g i (n + 1 - i) dc ⟨vb, 0, none⟩ 1 1 R1 27 [u] Try.underlying47 sizeP hg1 (by simp only [Nat.min_def, List.length_singleton]; split <;> omega)
      (fun j v hj => row_cells (w := W1) hv1 0 1 j v (by simpa using hj)) (by rw [hR1s]; simp; omega) (by simpa using hu)
  have hfin : W1.setRow g (R1.toList.take i ++ [u] ++ R1.toList.drop (i + 1)).toArray = w.drew.setRow g (cur.toList.take i ++ u :: (cur.toList.drop i).take (n - i) ++ cur.toList.drop (n + 1)).toArray := by
    rw [hW1, setRow_setRow, hR1, List.toList_toArray, put1_list _ _ _ _ (by omega) (by omega)]
  have Hfin : Hid (W1.setRow g (R1.toList.take i ++ [u] ++ R1.toList.drop (i + 1)).toArray = w.drew.setRow g (cur.toList.take i ++ u :: (cur.toList.drop i).take (n - i) ++ cur.toList.drop (n + 1)).toArray) := hfin
  rw [← hW1] at hcp1
  have H1 : Hid (∀ ty dc sc, (Builtin.copy_ #[47, 47] ty #[.slice (some ⟨g, i + 1, none⟩) (n - i) dc, .slice (some ⟨g, i, none⟩) (n + 1 - i) sc]).run Try.prog w.drew = .ok (goInt ((cur.toList.drop i).take (n - i)).length) W1) := hcp1
  have H2 : Hid (∀ ty dc, (Builtin.copy_ #[47, 47] ty #[.slice (some ⟨g, i, none⟩) (n + 1 - i) dc, .slice (some ⟨vb, 0, none⟩) 1 1]).run Try.prog W1 = .ok (goInt 1) (W1.setRow g (R1.toList.take i ++ [u] ++ R1.toList.drop (i + 1)).toArray)) := hcp2
  clear hcp1 hcp2 hfin hW1 hR1 hg1 hv1 hR1s hdl hll hg hcs h1 hv hu
  have hw1 : IntKind.i64.wrap ((i : Int) + 1) = (i : Int) + 1 := by rw [IntKind.wrap_i64]; omega
  have hb1 : (0 : Int) ≤ (i : Int) + 1 := by omega
  have htn : ((i : Int) + 1).toNat = i + 1 := by omega
  have hb3 : (i : Int) ≤ (n : Int) + 1 := by omega
  have hb2 : ¬ (c = i + 1) := by omega
  have hin : i ≤ n := by omega
  have hb4 : ¬ (c = i) := by omega
  go_enter Try.func35, Try.ntmps35
  go_wp2_with (simp only [hov])
  go_region_law (refine step_copy_run rfl _ _ 47 47 rfl (.slice (some ⟨g, i + 1, none⟩) (n - i) (c - (i + 1))) (.slice (some ⟨g, i, none⟩) (n + 1 - i) (c - i)) (by simp [Act.eval, Act.put]) (by simp [Act.eval, Act.put]) (H1.out 3 (c - (i + 1)) (c - i)) ?_)
  have h2 := H2.out
  go_wp2
  go_ret
  exact ⟨rfl, by rw [← Hfin.out]; simp⟩


set_option maxHeartbeats 4000000 in
set_option maxRecDepth 100000 in
/-- at the end, there is room -/
theorem insP_endroom (g n c vb : Nat) (cur : Array Value) (u : Value) (w : World) (hroom : n + 1 ≤ c) (hc : c ≤ 9223372036854775807)
    (hg : w.heap[g]? = some (.cells cur 27 (0, 0))) (hcs : cur.size = c) (hv : w.heap[vb]? = some (.cells #[u] 27 (0, 0))) (hu : u.oneCell' = true) :
    Calls Try.prog 35 #[.slice (some ⟨g, 0, none⟩) n c, .int .i64 n, .slice (some ⟨vb, 0, none⟩) 1 1] w fun e w' =>
      e = .returned (.slice (some ⟨g, 0, none⟩) (n + 1) c) ∧ w' = w.setRow g (cur.toList.take n ++ [u] ++ cur.toList.drop (n + 1)).toArray := by
  obtain ⟨i0, hi0, hz0, hzs, hzb⟩ := infoP
  have hr : ∀ ty, (Builtin.append_ #[47, 47] ty #[.slice (some ⟨g, 0, none⟩) n c, .slice (some ⟨vb, 0, none⟩) 1 1]).run Try.prog w = .ok (.slice (some ⟨g, 0, none⟩) (n + 1) c) (w.setRow g (cur.toList.take n ++ [u] ++ cur.toList.drop (n + 1)).toArray) := fun ty => by
    have := run_append_room (P := Try.prog) w 47 ty 27 i0 Try.underlying47 hi0 g n c cur hg ⟨vb, 0, none⟩ 1 1 [u] (by rw [hzs]; rfl) (fun j v hj => row_cells (w := w) hv 0 1 j v (by simpa using hj)) (by simpa using hu) hroom (by rw [hzs, hcs]; simp; omega)
    rw [hzs] at this
    simpa using this
  generalize hWf : w.setRow g (cur.toList.take n ++ [u] ++ cur.toList.drop (n + 1)).toArray = Wf at hr ⊢
  have Hr : Hid (∀ ty, (Builtin.append_ #[47, 47] ty #[.slice (some ⟨g, 0, none⟩) n c, .slice (some ⟨vb, 0, none⟩) 1 1]).run Try.prog w = .ok (.slice (some ⟨g, 0, none⟩) (n + 1) c) Wf) := hr
  clear hr hg hcs hv hu hi0 hz0 hzs hzb hWf
  go_enter Try.func35, Try.ntmps35
  go_wp2_with (at_builtin; refine Lib.wpList_append_run _ rfl _ _ 47 47 rfl _ _ rfl rfl _ _ (Hr.out _) ?_)
  go_ret
  exact ⟨rfl, rfl⟩

set_option maxHeartbeats 4000000 in
set_option maxRecDepth 100000 in
/-- at the end, no room (a nil slice too): a new row -/
theorem insP_endgrow (v : Value) (n c vb : Nat) (xs : List Value) (u : Value) (w : World) (hbig : (n + 1) * 8 ≤ 140737488355328) (hxl : xs.length = n)
    (hrow : (v = .slice none 0 0 ∧ n = 0 ∧ c = 0) ∨ ∃ g cur, v = .slice (some ⟨g, 0, none⟩) n c ∧ w.heap[g]? = some (.cells cur 27 (0, 0)) ∧ cur.toList = xs ∧ c = n)
    (hv : w.heap[vb]? = some (.cells #[u] 27 (0, 0))) :
    Calls Try.prog 35 #[v, .int .i64 n, .slice (some ⟨vb, 0, none⟩) 1 1] w fun e w' =>
      ∃ G, n + 1 ≤ G ∧ G ≤ maxLen ∧ e = .returned (.slice (some ⟨w.heap.size, 0, none⟩) (n + 1) G) ∧ w' = w.drew.alloc (.cells ((xs ++ [u]).toArray ++ (List.replicate (G - (n + 1)) (Value.pointer none)).toArray) 27) := by
  obtain ⟨i0, hi0, hz0, hzs, hzb⟩ := infoP
  have hnews : ∀ j v, [u][j]? = some v → w.cell? ((⟨vb, 0, none⟩ : Addr).add j) = some v := fun j v hj => row_cells (w := w) hv 0 1 j v (by simpa using hj)
  obtain ⟨G, hG⟩ : ∃ G, G = grownCap w (n + 1) c 27 := ⟨_, rfl⟩
  have hG1 : n + 1 ≤ G := by rw [hG]; exact grownCap_ge w _ _ _
  have hG2 : G ≤ maxLen := by rw [hG]; exact grownCap_le_maxLen w _ _ _ (by unfold maxLen; omega)
  have hr : ∀ ty, (Builtin.append_ #[47, 47] ty #[v, .slice (some ⟨vb, 0, none⟩) 1 1]).run Try.prog w = .ok (.slice (some ⟨w.heap.size, 0, none⟩) (n + 1) G) (w.drew.alloc (.cells ((xs ++ [u]).toArray ++ (List.replicate (G - (n + 1)) (Value.pointer none)).toArray) 27)) := fun ty => by
    rw [← zeroCells_one (Value.pointer none) rfl]
    rcases hrow with ⟨rfl, rfl, rfl⟩ | ⟨g, cur, rfl, hg, hcx, rfl⟩
    · have := run_append_nil (P := Try.prog) w 47 ty 27 i0 _ Try.underlying47 hi0 hz0 ⟨vb, 0, none⟩ 1 1 [u] (by rw [hzs]; rfl) hnews (by omega) (by omega) (by rw [hzb]; omega)
      have hx0 : xs = [] := List.length_eq_zero_iff.1 hxl
      rw [hx0, hG]
      simpa using this
    · have := run_append_grow (P := Try.prog) w 47 ty 27 i0 _ Try.underlying47 hi0 hz0 ⟨g, 0, none⟩ c c xs (by rw [hzs]; omega) (fun j v hj => row_cells (w := w) hg 0 c j v (by rw [hcx, List.drop_zero, List.take_of_length_le (by omega)]; exact hj)) ⟨vb, 0, none⟩ 1 1 [u] (by rw [hzs]; rfl) hnews (by omega) (by omega) (by rw [hzb]; exact growslice_fits (by omega) hbig)
      rw [hG]
      simpa using this
  obtain ⟨Wf, hWf⟩ : ∃ Wf, Wf = w.drew.alloc (.cells ((xs ++ [u]).toArray ++ (List.replicate (G - (n + 1)) (Value.pointer none)).toArray) 27) := ⟨_, rfl⟩
  have HWf : Hid (Wf = w.drew.alloc (.cells ((xs ++ [u]).toArray ++ (List.replicate (G - (n + 1)) (Value.pointer none)).toArray) 27)) := hWf
  have Hr : Hid (∀ ty, (Builtin.append_ #[47, 47] ty #[v, .slice (some ⟨vb, 0, none⟩) 1 1]).run Try.prog w = .ok (.slice (some ⟨w.heap.size, 0, none⟩) (n + 1) G) Wf) := by rw [hWf]; exact hr
  clear hr hnews hv hi0 hz0 hzs hzb hG hWf
  refine Calls.mono (R := fun e w' => e = .returned (.slice (some ⟨w.heap.size, 0, none⟩) (n + 1) G) ∧ w' = Wf) ?_ (fun e w' ⟨he, hw⟩ => ⟨G, hG1, hG2, he, hw.trans HWf.out⟩)
  rcases hrow with ⟨rfl, rfl, rfl⟩ | ⟨g, cur, rfl, hg, hcx, rfl⟩
  · clear hxl
    go_enter Try.func35, Try.ntmps35
    go_wp2_with (at_builtin; refine Lib.wpList_append_run _ rfl _ _ 47 47 rfl _ _ rfl rfl _ _ (Hr.out _) ?_)
    go_ret
    exact ⟨rfl, rfl⟩
  · clear hxl hg hcx
    go_enter Try.func35, Try.ntmps35
    go_wp2_with (at_builtin; refine Lib.wpList_append_run _ rfl _ _ 47 47 rfl _ _ rfl rfl _ _ (Hr.out _) ?_)
    go_ret
    exact ⟨rfl, rfl⟩

set_option maxHeartbeats 4000000 in
set_option maxRecDepth 100000 in
/-- i < len(s), no room: a new row -/
theorem insP_grow (g n i vb : Nat) (cur : Array Value) (u : Value) (w : World) (hi : i < n) (hbig : (n + 1) * 8 ≤ 140737488355328)
    (hg : w.heap[g]? = some (.cells cur 27 (0, 0))) (hcs : cur.size = n) (h1 : ∀ x ∈ cur.toList, x.oneCell' = true) (hv : w.heap[vb]? = some (.cells #[u] 27 (0, 0))) (hu : u.oneCell' = true) :
    Calls Try.prog 35 #[.slice (some ⟨g, 0, none⟩) n n, .int .i64 i, .slice (some ⟨vb, 0, none⟩) 1 1] w fun e w' =>
      ∃ G R, n + 1 ≤ G ∧ G ≤ maxLen ∧ R.size = G ∧ R.toList.take (n + 1) = cur.toList.take i ++ u :: cur.toList.drop i ∧ e = .returned (.slice (some ⟨w.heap.size, 0, none⟩) (n + 1) G) ∧
        (w'.heap[w.heap.size]? = some (.cells R 27 (0, 0)) ∧ Touch (fun _ => False) w w') := by
  obtain ⟨i0, hi0, hz0, hzs, hzb⟩ := infoP
  have hz2 : ¬ ((i : Int) = (n : Int)) := by omega
  obtain ⟨G, hG⟩ : ∃ G, G = grownCap w (n + 1) n 27 := ⟨_, rfl⟩
  have hG1 : n + 1 ≤ G := by rw [hG]; exact grownCap_ge w _ _ _
  have hG2 : G ≤ maxLen := by rw [hG]; exact grownCap_le_maxLen w _ _ _ (by unfold maxLen; omega)
  have hG3 : G ≤ 9223372036854775807 := by unfold maxLen at hG2; omega
  have hll : cur.toList.length = n := by simpa using hcs
  have hgw : g < w.heap.size := (Array.getElem?_eq_some_iff.1 hg).1
  have hvw : vb < w.heap.size := (Array.getElem?_eq_some_iff.1 hv).1
  have hold : (Builtin.firstCells i0.size i (.slice (some ⟨g, 0, none⟩) i n)).run Try.prog w.drew = .ok (cur.toList.take i).toArray w.drew := by
    rw [hzs]
    exact run_firstCells_some w.drew 1 i ⟨g, 0, none⟩ i n (cur.toList.take i) (by rw [List.length_take]; omega) (fun j v hj => row_cells (w := w.drew) hg 0 i j v (by simpa using hj))
  obtain ⟨R0, hR0⟩ : ∃ R0 : Array Value, R0 = (cur.toList.take i).toArray ++ (List.replicate (n + 1 - i) (Value.pointer none)).toArray ++ (List.replicate (G - (n + 1)) (Value.pointer none)).toArray := ⟨_, rfl⟩
  have hr0 : ∀ ty, (Builtin.append_ #[47, 3] ty #[.slice (some ⟨g, 0, none⟩) i n, .int .i64 ((n : Int) + 1 - (i : Int))]).run Try.prog w = .ok (.slice (some ⟨w.heap.size, 0, none⟩) (n + 1) G) (w.drew.alloc (.cells R0 27)) := fun ty => by
    have h := Lib.run_append_grow_zeros w 47 3 ty 27 i0 _ .i64 .i64 Try.underlying47 Try.underlying3 hi0 hz0 (some ⟨g, 0, none⟩) i n (cur.toList.take i) hold (n + 1 - i) (by omega) (by omega) (by omega) (by omega) (by rw [hzb]; omega) (by rw [hzb, show i + (n + 1 - i) = n + 1 by omega]; exact growslice_fits (by omega) hbig)
    rw [show i + (n + 1 - i) = n + 1 by omega, zeroCells_one (Value.pointer none) rfl, zeroCells_one (Value.pointer none) rfl] at h
    rw [hR0, show (n : Int) + 1 - (i : Int) = ((n + 1 - i : Nat) : Int) by omega, hG]
    rw [hG] at *
    exact h
  obtain ⟨W1, hW1⟩ : ∃ W1, W1 = w.drew.alloc (.cells R0 27) := ⟨_, rfl⟩
  have hR0s : R0.size = G := by rw [hR0]; simp; omega
  have hN1 : W1.heap[w.heap.size]? = some (.cells R0 27 (0, 0)) := by rw [hW1]; exact heap_new w.drew _
  have hv1 : W1.heap[vb]? = some (.cells #[u] 27 (0, 0)) := by rw [hW1, Below.heap_alloc w.drew _ _ hvw]; exact hv
  have hg1 : W1.heap[g]? = some (.cells cur 27 (0, 0)) := by rw [hW1, Below.heap_alloc w.drew _ _ hgw]; exact hg
  obtain ⟨R1, hR1⟩ : ∃ R1 : Array Value, R1 = (R0.toList.take i ++ [u] ++ R0.toList.drop (i + 1)).toArray := ⟨_, rfl⟩
  have hcp1 : ∀ ty dc, (Builtin.copy_ #[47, 47] ty #[.slice (some ⟨w.heap.size, i, none⟩) (n + 1 - i) dc, .slice (some ⟨vb, 0, none⟩) 1 1]).run Try.prog W1 = .ok (goInt 1) (W1.setRow w.heap.size R1) := fun ty dc => by
    rw [hR1]
    exact run_copy_row Try.prog W1 47 47 ty 27 w.heap.size i (n + 1 - i) dc ⟨vb, 0, none⟩ 1 1 R0 27 [u] Try.underlying47 sizeP hN1 (by simp only [Nat.min_def, List.length_singleton]; split <;> omega)
      (fun j v hj => row_cells (w := W1) hv1 0 1 j v (by simpa using hj)) (by rw [hR0s]; simp; omega) (by simpa using hu)
  obtain ⟨W2, hW2⟩ : ∃ W2, W2 = W1.setRow w.heap.size R1 := ⟨_, rfl⟩
  have hR1s : R1.size = G := by rw [hR1]; simp; omega
  have hN2 : W2.heap[w.heap.size]? = some (.cells R1 27 (0, 0)) := by rw [hW2]; exact setRow_heap _ _ _ _ _ _ hN1
  have hg2 : W2.heap[g]? = some (.cells cur 27 (0, 0)) := by rw [hW2, setRow_other _ _ _ _ (by omega)]; exact hg1
  obtain ⟨R2, hR2⟩ : ∃ R2 : Array Value, R2 = (R1.toList.take (i + 1) ++ cur.toList.drop i ++ R1.toList.drop (i + 1 + (n - i))).toArray := ⟨_, rfl⟩
  have hdl : (cur.toList.drop i).length = n - i := by rw [List.length_drop, hll]
  have hcp2 : ∀ ty dc sc, (Builtin.copy_ #[47, 47] ty #[.slice (some ⟨w.heap.size, i + 1, none⟩) (n - i) dc, .slice (some ⟨g, i, none⟩) (n - i) sc]).run Try.prog W2.drew = .ok (goInt (n - i : Nat)) (W2.drew.setRow w.heap.size R2) := fun ty dc sc => by
    have := run_copy_row Try.prog W2.drew 47 47 ty 27 w.heap.size (i + 1) (n - i) dc ⟨g, i, none⟩ (n - i) sc R1 27 (cur.toList.drop i) Try.underlying47 sizeP hN2 (by rw [hdl]; simp only [Nat.min_def]; split <;> omega)
      (fun j v hj => row_cells (w := W2.drew) hg2 i (n - i) j v (by rw [List.take_of_length_le (by omega)]; exact hj)) (by rw [hdl, hR1s]; omega) (fun v hv => h1 v (List.mem_of_mem_drop hv))
    rw [hdl] at this
    rw [hR2]
    exact this
  have hend : (W2.drew.setRow w.heap.size R2).heap[w.heap.size]? = some (.cells R2 27 (0, 0)) := setRow_heap W2.drew _ _ _ _ _ hN2
  have htou : Touch (fun _ => False) w (W2.drew.setRow w.heap.size R2) := by
    refine Touch.setRow ?_ _ (fun h => by omega) _
    refine Touch.drew ?_
    rw [hW2, hW1]
    exact Touch.setRow ((Touch.refl _ _).drew.alloc _) _ (fun h => by omega) _
  have hR2s : R2.size = G := by rw [hR2]; simp; omega
  have hR2t : R2.toList.take (n + 1) = cur.toList.take i ++ u :: cur.toList.drop i := by
    have e0 : R0.toList.take i = cur.toList.take i := by rw [hR0]; simp [List.take_append, hll, List.take_take]; omega
    have e1 : R1.toList.take (i + 1) = cur.toList.take i ++ [u] := by
      rw [hR1, List.toList_toArray, e0]
      rw [List.take_left' (by simp; omega)]
    rw [hR2, List.toList_toArray, e1, List.take_left' (by simp; omega)]
    simp
  have Hr0 : Hid (∀ ty, (Builtin.append_ #[47, 3] ty #[.slice (some ⟨g, 0, none⟩) i n, .int .i64 ((n : Int) + 1 - (i : Int))]).run Try.prog w = .ok (.slice (some ⟨w.heap.size, 0, none⟩) (n + 1) G) W1) := by rw [hW1]; exact hr0
  have H1 : Hid (∀ ty dc, (Builtin.copy_ #[47, 47] ty #[.slice (some ⟨w.heap.size, i, none⟩) (n + 1 - i) dc, .slice (some ⟨vb, 0, none⟩) 1 1]).run Try.prog W1 = .ok (goInt 1) W2) := by rw [hW2]; exact hcp1
  have H2 : Hid (∀ ty dc sc, (Builtin.copy_ #[47, 47] ty #[.slice (some ⟨w.heap.size, i + 1, none⟩) (n - i) dc, .slice (some ⟨g, i, none⟩) (n - i) sc]).run Try.prog W2.drew = .ok (goInt (n - i : Nat)) (W2.drew.setRow w.heap.size R2)) := hcp2
  have Hend : Hid ((W2.drew.setRow w.heap.size R2).heap[w.heap.size]? = some (.cells R2 27 (0, 0))) := hend
  have Hs : Hid (R2.size = G) := hR2s
  have Ht : Hid (R2.toList.take (n + 1) = cur.toList.take i ++ u :: cur.toList.drop i) := hR2t
  clear hr0 hcp1 hcp2 hend hR2s hR2t hW1 hW2 hR0 hR1 hR2 hN1 hN2 hg1 hg2 hv1 hg hv hG hold hR0s hR1s hdl hll hcs h1 hu hi0 hz0 hzs hzb
  have hw1 : IntKind.i64.wrap ((i : Int) + 1) = (i : Int) + 1 := by rw [IntKind.wrap_i64]; omega
  have hb1 : (0 : Int) ≤ (i : Int) + 1 := by omega
  have htn : ((i : Int) + 1).toNat = i + 1 := by omega
  have hb2 : ¬ (G = i + 1) := by omega
  have hb4 : ¬ (G = i) := by omega
  have hb5 : ¬ (n = i) := by omega
  have hin : i ≤ n := by omega
  have hb3 : (i : Int) ≤ (n : Int) := by omega
  go_enter Try.func35, Try.ntmps35
  have h1 := H1.out
  go_wp2_with (at_builtin; refine Lib.wpList_append_run _ rfl _ _ 47 3 rfl _ _ rfl rfl _ _ (Hr0.out _) ?_)
  go_region_law (refine step_copy_run rfl _ _ 47 47 rfl (.slice (some ⟨w.heap.size, i + 1, none⟩) (n - i) (G - (i + 1))) (.slice (some ⟨g, i, none⟩) (n - i) (n - i)) (by simp [Act.eval, Act.put]) (by simp [Act.eval, Act.put]) (H2.out 3 (G - (i + 1)) (n - i)) ?_)
  go_wp2
  go_ret
  exact ⟨G, R2, hG1, hG2, Hs.out, Ht.out, rfl, Hend.out, htou⟩

/-- slices.Insert(s, i, u) on an owned row. -/
theorem insP (B : Nat) (v : Value) (xs : List Value) (i vb : Nat) (u : Value) (w : World) (hi : i ≤ xs.length) (hbig : (xs.length + 1) * 8 ≤ 140737488355328) (hB : B ≤ w.heap.size)
    (hrow : w.ownsRow B 27 1 v xs.length xs) (h1 : ∀ x ∈ xs, x.oneCell' = true)
    (hv : w.heap[vb]? = some (.cells #[u] 27 (0, 0))) (hvb : v.ownBlock ≠ some vb) (hu : u.oneCell' = true) :
    Calls Try.prog 35 #[v, .int .i64 i, .slice (some ⟨vb, 0, none⟩) 1 1] w (InsPost B 27 v xs i u w) := by
  rcases hrow.2 with ⟨rfl, hn0⟩ | ⟨g, cap, cur, rfl, hBg, hg, hnc, hcm, hcs, htk⟩
  · have hx : xs = [] := List.length_eq_zero_iff.1 hn0
    subst hx
    obtain rfl : i = 0 := by simpa using hi
    refine (insP_endgrow _ 0 0 vb [] u w hbig rfl (.inl ⟨rfl, rfl, rfl⟩) hv).mono ?_
    rintro e w' ⟨G, hG1, hG2, rfl, rfl⟩
    refine ⟨_, rfl, ⟨by simp, .inr ⟨w.heap.size, G, _, rfl, hB, heap_new w.drew _, hG1, hG2, by simp; omega, by rw [Nat.mul_one, List.append_toArray, List.toList_toArray, List.take_left' (by simp)]; simp⟩⟩, ((Touch.refl _ _).drew.alloc _), w.heap.size, rfl, .inr (Nat.le_refl _)⟩
  · simp only [Nat.mul_one] at hcs htk
    have hne : vb ≠ g := fun e => hvb (by simp [Value.ownBlock, e])
    have hcm' : cap ≤ 9223372036854775807 := by unfold maxLen at hcm; omega
    have hgw : g < w.heap.size := (Array.getElem?_eq_some_iff.1 hg).1
    have hll : cur.toList.length = cap := by simpa using hcs
    by_cases hroom : xs.length + 1 ≤ cap
    · have fin : ∀ (W : World), (∀ k, W.heap[k]? = w.heap[k]?) → W.os = w.os → W.tape = w.tape → W.output = w.output → W.heap.size = w.heap.size → InsPost B 27 (.slice (some ⟨g, 0, none⟩) xs.length cap) xs i u w (.returned (.slice (some ⟨g, 0, none⟩) (xs.length + 1) cap)) (W.setRow g (cur.toList.take i ++ u :: (cur.toList.drop i).take (xs.length - i) ++ cur.toList.drop (xs.length + 1)).toArray) := fun W hW h_o h_t h_p hs =>
        ⟨_, rfl, ⟨by simp; omega, .inr ⟨g, cap, _, rfl, hBg, setRow_heap W g cur _ 27 (0, 0) (by rw [hW]; exact hg), hroom, hcm, by simp; omega, by rw [Nat.mul_one, List.toList_toArray, take_ins _ _ _ _ hi (by omega), htk]⟩⟩,
          Touch.setRow (S := fun k => (Value.slice (some ⟨g, 0, none⟩) xs.length cap).ownBlock = some k) (Touch.mk h_o h_t h_p (by omega) (fun k _ _ => hW k)) g (fun _ => rfl) _, g, rfl, .inl rfl⟩
      by_cases hlt : i < xs.length
      · refine (insP_shift g xs.length cap i vb cur u w hlt hroom hcm' hne hg hcs (by rw [htk]; exact h1) hv hu).mono ?_
        rintro e w' ⟨rfl, rfl⟩
        exact fin w.drew (fun _ => rfl) rfl rfl rfl rfl
      · obtain rfl : i = xs.length := by omega
        refine (insP_endroom g xs.length cap vb cur u w hroom hcm' hg hcs hv hu).mono ?_
        rintro e w' ⟨rfl, rfl⟩
        have := fin w (fun _ => rfl) rfl rfl rfl rfl
        simpa using this
    · obtain rfl : cap = xs.length := by omega
      have hcx : cur.toList = xs := by rw [← htk, List.take_of_length_le (by omega)]
      by_cases hlt : i < xs.length
      · refine (insP_grow g xs.length i vb cur u w hlt hbig hg hcs (by rw [hcx]; exact h1) hv hu).mono ?_
        rintro e w' ⟨G, R, hG1, hG2, hRs, hRt, rfl, hR, ht⟩
        exact ⟨_, rfl, ⟨by simp; omega, .inr ⟨w.heap.size, G, R, rfl, hB, hR, hG1, hG2, by omega, by rw [Nat.mul_one, hRt, hcx]⟩⟩, ht.mono (fun _ _ h => h.elim), w.heap.size, rfl, .inr (Nat.le_refl _)⟩
      · obtain rfl : i = xs.length := by omega
        refine (insP_endgrow _ xs.length xs.length vb xs u w hbig rfl (.inr ⟨g, cur, rfl, hg, hcx, rfl⟩) hv).mono ?_
        rintro e w' ⟨G, hG1, hG2, rfl, rfl⟩
        refine ⟨_, rfl, ⟨by simp, .inr ⟨w.heap.size, G, _, rfl, hB, heap_new w.drew _, hG1, hG2, by simp; omega, by rw [Nat.mul_one, List.append_toArray, List.toList_toArray, List.take_left' (by simp)]; simp⟩⟩, ((Touch.refl _ _).drew.alloc _), w.heap.size, rfl, .inr (Nat.le_refl _)⟩

end Go.Proofs.Qxb6604036a
