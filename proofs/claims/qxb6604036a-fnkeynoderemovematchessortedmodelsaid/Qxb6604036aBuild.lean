/- b1Build (9): the tree that came in, built anew of keyNodes. -/
import Derived.Test.Qxb6604036aTree7
namespace Go.Proofs.Qxb6604036a
open Go.RowKit Plain
set_option linter.unusedVariables false
set_option linter.unusedSimpArgs false

def keysI : (f : Nat) → IT f → List ByteArray
  | 0, _ => []
  | _ + 1, none => []
  | _ + 1, some (ks, _) => ks

/-- The two trees hold the same. -/
structure Twin (f : Nat) (t : IT f) (mn h : Nat) (t' : AT h) : Prop where
  ok : okT h mn t'
  ord : inorder h t' = ordI f t
  full : ∀ x, full h t' x ↔ fullI f t x
  keys : (hd h t').ks = keysI f t

theorem twin_leaf (f mn : Nat) (ks : List ByteArray) (p : Nat) (kv cv : Value) (h1 : mn ≤ ks.length) (h2 : ks.length ≤ 64) : Twin (f + 1) (some (ks, [])) mn 0 (⟨p, kv, cv, ks⟩ : Hd) :=
  ⟨⟨h1, h2⟩, rfl, fun x => ⟨fun h => ⟨h, fun c hc => by simp at hc⟩, fun h => h.1⟩, rfl⟩

theorem twin_inner (f mn h : Nat) (ks : List ByteArray) (cs : List (IT f)) (kids : List (AT h)) (p : Nat) (kv cv : Value) (h1 : mn ≤ ks.length) (h2 : ks.length ≤ 64) (hcl : cs.length = ks.length + 1) (hl : kids.length = cs.length)
    (ht : ∀ (i : Nat) c d, cs[i]? = some c → kids[i]? = some d → Twin f c 32 h d) : Twin (f + 1) (some (ks, cs)) mn (h + 1) ((⟨p, kv, cv, ks⟩, kids) : AT (h + 1)) := by
  refine ⟨⟨h1, h2, by show kids.length = ks.length + 1; omega, fun c hc => ?_⟩, ?_, fun x => ?_, rfl⟩
  · obtain ⟨i, hi, rfl⟩ := List.getElem_of_mem hc
    replace hi : i < kids.length := hi
    exact (ht i cs[i] _ (List.getElem?_eq_getElem (by omega)) (List.getElem?_eq_getElem hi)).ok
  · show weave (kids.map (inorder h)) ks = (if cs.length = 0 then ks else weave (cs.map (ordI f)) ks)
    rw [if_neg (by omega)]
    congr 1
    apply List.ext_getElem
    · simp [hl]
    · intro i hi1 hi2
      simp only [List.length_map] at hi1 hi2
      simp only [List.getElem_map]
      exact (ht i cs[i] _ (List.getElem?_eq_getElem hi2) (List.getElem?_eq_getElem hi1)).ord
  · show (ks.length = 64 ∧ ∀ c, kids[lb x ks]? = some c → Go.Proofs.Qxb6604036a.full h c x) ↔ (ks.length = 64 ∧ ∀ c, cs[lb x ks]? = some c → fullI f c x)
    refine and_congr_right fun _ => ⟨fun hh c hc => ?_, fun hh c hc => ?_⟩
    · have hi := (List.getElem?_eq_some_iff.1 hc).1
      have hd := List.getElem?_eq_getElem (l := kids) (i := lb x ks) (by omega)
      exact ((ht _ _ _ hc hd).full x).1 (hh _ hd)
    · have hi := (List.getElem?_eq_some_iff.1 hc).1
      have hd := List.getElem?_eq_getElem (l := cs) (i := lb x ks) (by omega)
      exact ((ht _ _ _ hd hc).full x).2 (hh _ hd)

/-- What b1Build leaves. -/
def BuildPost (B f : Nat) (t : IT f) (mn h : Nat) (w : World) (e : Ending) (w' : World) : Prop :=
  ∃ t' : AT h, e = .returned (ptrV h t') ∧ Twin f t mn h t' ∧ Lies B w' h t' ∧ (foot h t').Nodup ∧ (∀ k ∈ foot h t', w.heap.size ≤ k) ∧ Touch (fun _ => False) w w'

theorem makeS (n : Nat) (hn : n ≤ 65536) (w : World) : (Instr.makeSlice 23 (.int .i64 (n : Int)) (.int .i64 (n : Int))).run Try.prog w = .ok (.slice (some ⟨w.heap.size, 0, none⟩) n n) (w.alloc (.cells (madeCells #[.string ⟨#[]⟩] n) 9)) := by
  obtain ⟨i0, hi0, hz0, hzs, hzb⟩ := infoS
  exact run_make_row (P := Try.prog) 23 9 i0 _ Try.underlying23 hi0 hz0 hzs rfl .i64 .i64 n (by rw [hzb]; omega) (by omega) w
theorem makeP (n : Nat) (hn : n ≤ 65536) (w : World) : (Instr.makeSlice 47 (.int .i64 (n : Int)) (.int .i64 (n : Int))).run Try.prog w = .ok (.slice (some ⟨w.heap.size, 0, none⟩) n n) (w.alloc (.cells (madeCells #[.pointer none] n) 27)) := by
  obtain ⟨i0, hi0, hz0, hzs, hzb⟩ := infoP
  exact run_make_row (P := Try.prog) 47 27 i0 _ Try.underlying47 hi0 hz0 hzs rfl .i64 .i64 n (by rw [hzb]; omega) (by omega) w

/-- make, then copy: the keys' row. -/
theorem keysRow (B : Nat) (w : World) (a : Option Addr) (c : Nat) (ks : List ByteArray) (hR : Rd w a ks.length c (fun k => ks.getD k ByteArray.empty)) (hn : ks.length ≤ 64) (hB : B ≤ w.heap.size) :
    ∃ W1 W2 cv, (Instr.makeSlice 23 (.int .i64 (ks.length : Int)) (.int .i64 (ks.length : Int))).run Try.prog w = .ok (.slice (some ⟨w.heap.size, 0, none⟩) ks.length ks.length) W1 ∧ Touch (fun _ => False) w W1 ∧
      (∀ ty, (Builtin.copy_ #[23, 23] ty #[.slice (some ⟨w.heap.size, 0, none⟩) ks.length ks.length, .slice a ks.length c]).run Try.prog W1 = .ok cv W2) ∧
      W2.ownsRow B 9 1 (.slice (some ⟨w.heap.size, 0, none⟩) ks.length ks.length) ks.length (strs ks) ∧ Touch (fun _ => False) w W2 ∧ W2.heap.size = w.heap.size + 1 := by
  obtain ⟨R0, hR0⟩ : ∃ R0, R0 = madeCells #[Value.string ⟨#[]⟩] ks.length := ⟨_, rfl⟩
  have hR0s : R0.size = ks.length := by rw [hR0, size_madeCells]
  have hmk := makeS ks.length (by omega) w
  rw [← hR0] at hmk
  have hT1 : Touch (fun _ => False) w (w.alloc (.cells R0 9)) := (Touch.refl _ _).alloc _
  by_cases h0 : ks.length = 0
  · have hk : ks = [] := List.length_eq_zero_iff.1 h0
    subst hk
    refine ⟨_, w.alloc (.cells R0 9), goInt 0, hmk, hT1, fun ty => run_copy_none _ 23 23 ty 9 _ a 0 _ 0 c Try.underlying23 sizeS (by simp), ⟨rfl, .inr ⟨w.heap.size, 0, R0, rfl, hB, heap_new w _, Nat.le_refl _, Nat.zero_le _, by rw [hR0s]; simp, by simp [strs]⟩⟩, hT1, by simp⟩
  · obtain ⟨b, off, rfl, hc⟩ := hR.2.2 (by omega)
    have hrow : (w.alloc (.cells R0 9)).heap[w.heap.size]? = some (.cells R0 9 (0, 0)) := heap_new w _
    have hcp := fun ty => run_copy_row Try.prog (w.alloc (.cells R0 9)) 23 23 ty 9 w.heap.size 0 ks.length ks.length ⟨b, off, none⟩ ks.length c R0 9 (strs ks) Try.underlying23 sizeS hrow (by rw [strs_length]; simp) (fun j v hj => by
      have hj' : j < ks.length := by
        rcases Nat.lt_or_ge j ks.length with h | h
        · exact h
        · rw [List.getElem?_eq_none (by rw [strs_length]; exact h)] at hj; cases hj
      rw [getD_strs ks j hj'] at hj
      have hcj := hc j hj'
      rw [Addr.add_lit, ← hj, ← hcj]
      exact World.cell?_of_block (Below.heap_alloc w _ _ (World.block_lt_of_cell? w _ hcj))) (by rw [strs_length]; omega) (strs_oneCell ks)
    refine ⟨_, _, _, hmk, hT1, hcp, ⟨by rw [strs_length, Nat.mul_one], .inr ⟨w.heap.size, ks.length, _, rfl, hB, setRow_heap _ _ _ _ _ _ hrow, Nat.le_refl _, by unfold maxLen; omega, ?_, ?_⟩⟩, Touch.setRow (S := fun _ => False) hT1 _ (fun h => by omega) _, by simp⟩
    · simp [strs_length]; omega
    · simp [strs_length]

set_option maxHeartbeats 1000000 in
theorem build9_leaf (w0 w : World) (f mn : Nat) (ks : List ByteArray) (vp : Value) (hin : In w0 (f + 1) (some (ks, [])) vp) (hbel : Below w0.heap.size w0 w) (h1 : mn ≤ ks.length) (h2 : ks.length ≤ 64) :
    Calls Try.prog 9 #[vp] w (BuildPost w0.heap.size (f + 1) (some (ks, [])) mn 0 w) := by
  obtain ⟨b, off, ka, kc, ca, cc, rfl, g1, g2, g3, g4, g5, g6, g7⟩ := hin
  obtain ⟨W1, W2, cv, hmk, hT1, hcp, hown, hT2, hsz⟩ := keysRow w0.heap.size w ka kc ks ⟨g3.1, g3.2.1, fun h0 => by
    obtain ⟨b', o', e, hh⟩ := g3.2.2 h0
    exact ⟨b', o', e, fun k hk => Below.keeps hbel _ _ (hh k hk)⟩⟩ h2 hbel.size
  have hb1 : Below w0.heap.size w0 W1 := hbel.trans (hT1.below hbel.size fun q hq => hq.elim)
  have hb2 : Below w0.heap.size w0 W2 := hbel.trans (hT2.below hbel.size fun q hq => hq.elim)
  have c1 : w.cell? ⟨b, off, none⟩ = some (.slice ka ks.length kc) := Below.keeps hbel _ _ g1
  have c1' : W1.cell? ⟨b, off, none⟩ = some (.slice ka ks.length kc) := Below.keeps hb1 _ _ g1
  have c2 : W2.cell? ⟨b, off + 1, none⟩ = some (.slice ca 0 cc) := Below.keeps hb2 _ _ g2
  have hbs := hbel.size
  have HP : Hid (BuildPost w0.heap.size (f + 1) (some (ks, [])) mn 0 w (.returned (.pointer (some ⟨w.heap.size + 1, 0, none⟩))) (W2.alloc (nodeObj (.slice (some ⟨w.heap.size, 0, none⟩) ks.length ks.length) (.slice none 0 0)))) := by
    rw [← hsz]
    refine ⟨(⟨W2.heap.size, .slice (some ⟨w.heap.size, 0, none⟩) ks.length ks.length, .slice none 0 0, ks⟩ : Hd), rfl, twin_leaf f mn ks _ _ _ h1 h2, ⟨heap_new W2 _, by show w0.heap.size ≤ W2.heap.size; omega, hown.alloc _, rfl⟩, ?_, ?_, hT2.alloc _⟩
    · simp [foot, ownBlock_some]; omega
    · intro k hk
      simp [foot, ownBlock_some] at hk
      omega
  clear g1 g2 g3 g4 g7 hbel hb1 hb2 hown hT1 hT2
  go_enter Try.func9, Try.ntmps9
  go_wp2_with (go_at_call 30; refine (mk30 _ _ _ _ _ _ _).mono ?_; rintro e w' ⟨rfl, rfl⟩)
  go_ret
  exact HP.out

/-- The loop's state. -/
structure BRel (B N f h : Nat) (ks : List ByteArray) (cs : List (IT f)) (w : World) (k : Nat) (kids : List (AT h)) (wr : World) : Prop where
  len : kids.length = k
  le : k ≤ cs.length
  twin : ∀ (i : Nat) c d, cs[i]? = some c → kids[i]? = some d → Twin f c 32 h d
  keys : wr.ownsRow B 9 1 (.slice (some ⟨N, 0, none⟩) ks.length ks.length) ks.length (strs ks)
  row : ∃ cur, wr.heap[N + 1]? = some (.cells cur 27 (0, 0)) ∧ cur.size = cs.length ∧ cur.toList.take k = kids.map (ptrV h)
  lies : ∀ c ∈ kids, Lies B wr h c
  nodup : (kids.flatMap (foot h)).Nodup
  fresh : ∀ q ∈ kids.flatMap (foot h), N + 2 ≤ q
  touch : Touch (fun _ => False) w wr
  size : N + 2 ≤ wr.heap.size

theorem BRel.push {B f h : Nat} {ks : List ByteArray} {cs : List (IT f)} {w : World} {k : Nat} {kids : List (AT h)} {wr w1 : World} (H : BRel B w.heap.size f h ks cs w k kids wr) (hk : k < cs.length) (d : AT h) (ht : Twin f cs[k] 32 h d) (hl : Lies B w1 h d) (hnd : (foot h d).Nodup)
    (hf : ∀ q ∈ foot h d, wr.heap.size ≤ q) (hT : Touch (fun _ => False) wr w1) : BRel B w.heap.size f h ks cs w (k + 1) (kids ++ [d]) (w1.setCell ⟨w.heap.size + 1, k, none⟩ (ptrV h d)) := by
  obtain ⟨cur, hcur, hcs, htk⟩ := H.row
  have hsz := H.size
  have hs1 := hT.size
  have hcur1 : w1.heap[w.heap.size + 1]? = some (.cells cur 27 (0, 0)) := by rw [hT.block _ (by omega) id]; exact hcur
  have hset : w1.setCell ⟨w.heap.size + 1, k, none⟩ (ptrV h d) = w1.setRow (w.heap.size + 1) (cur.setIfInBounds k (ptrV h d)) := setCell_eq_setRow w1 _ k cur 27 (0, 0) _ hcur1
  have keep : ∀ q, q ≠ w.heap.size + 1 → (w1.setCell ⟨w.heap.size + 1, k, none⟩ (ptrV h d)).heap[q]? = w1.heap[q]? := fun q hq => by rw [hset, setRow_other _ _ _ _ hq]
  have keep0 : ∀ q, q < wr.heap.size → q ≠ w.heap.size + 1 → (w1.setCell ⟨w.heap.size + 1, k, none⟩ (ptrV h d)).heap[q]? = wr.heap[q]? := fun q hq hq' => by rw [keep q hq', hT.block q hq id]
  refine ⟨by simp [H.len], by omega, fun i c d' hc hd' => ?_, ownsRow_same H.keys fun q hq => ?_, ⟨_, by rw [hset]; exact setRow_heap w1 _ _ _ _ _ hcur1, by simpa using hcs, ?_⟩, ?_, ?_, ?_, ?_, ?_⟩
  · rcases Nat.lt_or_ge i k with h1 | h1
    · exact H.twin i c d' hc (by rwa [List.getElem?_append_left (by rw [H.len]; exact h1)] at hd')
    · rw [List.getElem?_append_right (by rw [H.len]; exact h1), H.len] at hd'
      obtain rfl : i = k := by
        have := (List.getElem?_eq_some_iff.1 hd').1
        simp at this; omega
      rw [List.getElem?_eq_getElem hk] at hc
      simp at hd' hc
      rw [← hd', ← hc]; exact ht
  · simp [ownBlock_some] at hq
    exact keep0 q (by omega) (by omega)
  · rw [List.map_append, ← htk]
    simp only [Array.toList_setIfInBounds, List.map_cons, List.map_nil]
    have hk' : k < cur.toList.length := by simp; omega
    rw [List.take_succ_eq_append_getElem (by simpa using hk'), List.take_set_of_le (Nat.le_refl _)]
    simp
  · intro c hc
    rcases List.mem_append.1 hc with hc | hc
    · refine Lies.same h c (H.lies c hc) fun q hq => keep0 q (Lies.lt h c (H.lies c hc) q hq).2 ?_
      have := H.fresh q (List.mem_flatMap.2 ⟨c, hc, hq⟩)
      omega
    · obtain rfl := List.mem_singleton.1 hc
      exact Lies.same h c hl fun q hq => keep q (by have := hf q hq; omega)
  · rw [List.flatMap_append, List.nodup_append]
    refine ⟨H.nodup, by simpa using hnd, fun a ha b hb => ?_⟩
    simp at hb
    obtain ⟨c, hc, hac⟩ := List.mem_flatMap.1 ha
    have h1 := (Lies.lt h c (H.lies c hc) a hac).2
    have h2 := hf b hb
    omega
  · intro q hq
    rw [List.flatMap_append] at hq
    rcases List.mem_append.1 hq with hq | hq
    · exact H.fresh q hq
    · simp at hq
      have := hf q hq; omega
  · exact Touch.setCell (S := fun _ => False) (H.touch.trans hT fun _ _ h => h) _ (fun h => by simp at h; omega) _
  · simp [World.setCell]; omega

set_option maxHeartbeats 4000000 in
set_option maxRecDepth 100000 in
theorem build9_inner (w0 w : World) (f mn h : Nat) (ks : List ByteArray) (cs : List (IT f)) (vp : Value) (hin : In w0 (f + 1) (some (ks, cs)) vp) (hbel : Below w0.heap.size w0 w) (h1 : mn ≤ ks.length) (h2 : ks.length ≤ 64) (hcl : cs.length = ks.length + 1)
    (ih : ∀ c ∈ cs, ∀ u, In w0 f c u → ∀ w, Below w0.heap.size w0 w → Calls Try.prog 9 #[u] w (BuildPost w0.heap.size f c 32 h w)) :
    Calls Try.prog 9 #[vp] w (BuildPost w0.heap.size (f + 1) (some (ks, cs)) mn (h + 1) w) := by
  obtain ⟨b, off, ka, kc, ca, cc, rfl, g1, g2, g3, g4, g5, g6, g7⟩ := hin
  obtain ⟨W1, W2, cv, hmk, hT1, hcp, hown, hT2, hsz⟩ := keysRow w0.heap.size w ka kc ks ⟨g3.1, g3.2.1, fun h0 => by
    obtain ⟨b', o', e, hh⟩ := g3.2.2 h0
    exact ⟨b', o', e, fun k hk => Below.keeps hbel _ _ (hh k hk)⟩⟩ h2 hbel.size
  have hb1 : Below w0.heap.size w0 W1 := hbel.trans (hT1.below hbel.size fun q hq => hq.elim)
  have hb2 : Below w0.heap.size w0 W2 := hbel.trans (hT2.below hbel.size fun q hq => hq.elim)
  obtain ⟨n, hn⟩ : ∃ n, n = ks.length := ⟨_, rfl⟩
  obtain ⟨m, hm⟩ : ∃ m, m = cs.length := ⟨_, rfl⟩
  have hm1 : 1 ≤ m := by omega
  have hm2 : m ≤ 65 := by omega
  have hnk : n ≤ 64 := by omega
  have hmk2 := makeP m (by omega) W2
  obtain ⟨R0, hR0⟩ : ∃ R0, R0 = madeCells #[Value.pointer none] m := ⟨_, rfl⟩
  have hR0s : R0.size = m := by rw [hR0, size_madeCells]
  rw [← hR0] at hmk2
  obtain ⟨W3, hW3⟩ : ∃ W3, W3 = W2.alloc (.cells R0 27) := ⟨_, rfl⟩
  have hT3 : Touch (fun _ => False) w W3 := by rw [hW3]; exact hT2.alloc _
  have hb3 : Below w0.heap.size w0 W3 := hbel.trans (hT3.below hbel.size fun q hq => hq.elim)
  rw [← hW3] at hmk2
  rw [hsz] at hmk2
  have HST : Hid (BRel w0.heap.size w.heap.size f h ks cs w 0 [] W3) := by
    refine ⟨rfl, Nat.zero_le _, fun i c d _ hd => by simp at hd, ?_, ⟨R0, ?_, by rw [hR0s, hm], by simp⟩, by simp, by simp, by simp, hT3, ?_⟩
    · rw [hW3]; exact hown.alloc _
    · rw [hW3, ← hsz]; exact heap_new W2 _
    · rw [hW3]; simp; omega
  have hkc := g3.1
  have hkm := g3.2.1
  unfold maxLen at hkm g6
  rw [← hn] at g1 hmk hcp hkc
  rw [← hm] at g2 g5
  have HIN : Hid (n = ks.length ∧ m = cs.length ∧ cs.length = ks.length + 1 ∧ w0.cell? ⟨b, off + 1, none⟩ = some (.slice ca m cc) ∧ (0 < cs.length → ∃ b' off', ca = some ⟨b', off', none⟩ ∧ ∀ k c, cs[k]? = some c → ∃ u, w0.cell? ⟨b', off' + k, none⟩ = some u ∧ In w0 f c u) ∧ mn ≤ ks.length ∧ ks.length ≤ 64) := ⟨hn, hm, hcl, g2, g7, h1, h2⟩
  have IH : Hid (∀ c ∈ cs, ∀ u, In w0 f c u → ∀ w, Below w0.heap.size w0 w → Calls Try.prog 9 #[u] w (BuildPost w0.heap.size f c 32 h w)) := ih
  have c1 : w.cell? ⟨b, off, none⟩ = some (.slice ka n kc) := Below.keeps hbel _ _ g1
  have c1' : W1.cell? ⟨b, off, none⟩ = some (.slice ka n kc) := Below.keeps hb1 _ _ g1
  have c2 : W2.cell? ⟨b, off + 1, none⟩ = some (.slice ca m cc) := Below.keeps hb2 _ _ g2
  have hne : ((m : Int) == 0) = false := by simp; omega
  have HBEL : Hid (Below w0.heap.size w0 w) := hbel
  clear ih g1 g2 g3 g4 g7 hbel hb1 hb2 hb3 hown hT1 hT2 hT3 hn hm hW3 hR0 hsz h1 h2 hcl
  go_enter Try.func9, Try.ntmps9
  go_wp2
  clear hmk hcp c1 c1' c2 hmk2
  go_loopw [5] (fun u wr => ∃ (k : Nat) (kids : List (AT h)), u = .int .i64 k ∧ BRel w0.heap.size w.heap.size f h ks cs w k kids wr) (fun u _ => m - (intOf u).toNat)
  case atStart => exact ⟨0, [], rfl, HST.out⟩
  case round =>
    obtain ⟨k, kids, rfl, hR⟩ := hrel
    have HR : Hid (BRel w0.heap.size w.heap.size f h ks cs w k kids wr) := hR
    have hbr : Below w0.heap.size w0 wr := HBEL.out.trans (hR.touch.below HBEL.out.size fun q hq => hq.elim)
    have hkm' : k ≤ m := by rw [HIN.out.2.1]; exact hR.le
    have c2 : wr.cell? ⟨b, off + 1, none⟩ = some (.slice ca m cc) := Below.keeps hbr _ _ HIN.out.2.2.2.1
    by_cases hlt : k < m
    · have hkk : k < cs.length := by rw [← HIN.out.2.1]; exact hlt
      obtain ⟨cb, co, rfl, hch⟩ := HIN.out.2.2.2.2.1 (by omega)
      obtain ⟨u, hu1, hu2⟩ := hch k cs[k] (List.getElem?_eq_getElem hkk)
      have cu : wr.cell? ⟨cb, co + k, none⟩ = some u := Below.keeps hbr _ _ hu1
      have HC : Hid (Calls Try.prog 9 #[u] wr (BuildPost w0.heap.size f cs[k] 32 h wr)) := IH.out cs[k] (List.getElem_mem hkk) u hu2 wr hbr
      have hkI : (k : Int) < (m : Int) := by omega
      clear hch hu1 hu2 hbr hR
      go_wp2_with fail
      refine HC.out.mono ?_
      clear HC
      rintro e w1 ⟨d, he, ht, hl, hnd, hf, hT⟩
      obtain ⟨p, hp⟩ : ∃ p, ptrV h d = .pointer (some ⟨p, 0, none⟩) := ⟨_, rfl⟩
      rw [hp] at he
      subst he
      have HP : Hid (BRel w0.heap.size w.heap.size f h ks cs w (k + 1) (kids ++ [d]) (w1.setCell ⟨w.heap.size + 1, k, none⟩ (ptrV h d))) := HR.out.push hkk d ht hl hnd hf hT
      obtain ⟨cur, hcur, hcs, _⟩ := HR.out.row
      have hcur1 : w1.heap[w.heap.size + 1]? = some (.cells cur 27 (0, 0)) := by rw [hT.block _ (by have := HR.out.size; omega) id]; exact hcur
      have f1 : ∀ q, w1.frozen? ⟨w.heap.size + 1, q, none⟩ = false := fun q => by simp [World.frozen?, hcur1]
      have f2 : ∃ x, w1.cell? ⟨w.heap.size + 1, k, none⟩ = some x := ⟨cur[k]'(by omega), by rw [cell_of_row w1 _ k cur 27 (0, 0) hcur1]; exact Array.getElem?_eq_getElem _⟩
      obtain ⟨x, f2⟩ := f2
      clear ht hl hnd hf hT hcur hcs hcur1 cu c2 HR
      rw [hp] at HP
      clear hp
      go_wp2
      go_roundw
      case rel => exact ⟨k + 1, kids ++ [d], by go_num, HP.out⟩
      case measure => simp [intOf]; omega
    · obtain rfl : k = m := by omega
      clear hR hbr
      have hkI : ¬ (k : Int) < (k : Int) := by omega
      go_wp2_with (go_at_call 30; refine (mk30 _ _ _ _ _ _ _).mono ?_; rintro e w' ⟨rfl, rfl⟩)
      go_ret
      obtain ⟨cur, hcur, hcs, htk⟩ := HR.out.row
      have hsz := HR.out.size
      have hkid := HR.out.len
      have hbs := HBEL.out.size
      have hI := HIN.out
      refine ⟨((⟨wr.heap.size, .slice (some ⟨w.heap.size, 0, none⟩) n n, .slice (some ⟨w.heap.size + 1, 0, none⟩) k k, ks⟩, kids) : AT (h + 1)), rfl, twin_inner f mn h ks cs kids _ _ _ hI.2.2.2.2.2.1 hI.2.2.2.2.2.2 hI.2.2.1 (by omega) HR.out.twin,
        ⟨heap_new wr _, by show w0.heap.size ≤ wr.heap.size; omega, ?_, ?_, ⟨w.heap.size + 1, rfl⟩, fun c hc => Lies.same h c (HR.out.lies c hc) fun q hq => Below.heap_alloc wr _ q (Lies.lt h c (HR.out.lies c hc) q hq).2⟩, ?_, ?_, HR.out.touch.alloc _⟩
      · have := HR.out.keys.alloc (nodeObj (.slice (some ⟨w.heap.size, 0, none⟩) n n) (.slice (some ⟨w.heap.size + 1, 0, none⟩) k k))
        rw [← hI.1] at this
        show World.ownsRow _ _ _ _ _ ks.length _
        rw [← hI.1]
        exact this
      · refine ⟨by simp, .inr ⟨w.heap.size + 1, k, cur, by rw [hkid], by omega, ?_, by rw [hkid]; exact Nat.le_refl _, by unfold maxLen; omega, by omega, ?_⟩⟩
        · show (wr.alloc _).heap[w.heap.size + 1]? = _
          rw [Below.heap_alloc wr _ _ (by omega)]; exact hcur
        · show cur.toList.take (kids.length * 1) = _
          rw [hkid, Nat.mul_one]; exact htk
      · have hlt : ∀ q ∈ kids.flatMap (foot h), q < wr.heap.size := fun q hq => by
          obtain ⟨c, hc, hq⟩ := List.mem_flatMap.1 hq
          exact (Lies.lt h c (HR.out.lies c hc) q hq).2
        show (wr.heap.size :: w.heap.size :: (w.heap.size + 1) :: kids.flatMap (foot h)).Nodup
        have hfr := HR.out.fresh
        refine List.nodup_cons.2 ⟨fun hm => ?_, List.nodup_cons.2 ⟨fun hm => ?_, List.nodup_cons.2 ⟨fun hm => ?_, HR.out.nodup⟩⟩⟩
        · simp only [List.mem_cons] at hm
          rcases hm with hm | hm | hm
          · omega
          · omega
          · have := hlt _ hm; omega
        · simp only [List.mem_cons] at hm
          rcases hm with hm | hm
          · omega
          · have := hfr _ hm; omega
        · have := hfr _ hm; omega
      · intro q hq
        replace hq : q ∈ (wr.heap.size :: ([w.heap.size] ++ ([w.heap.size + 1] ++ kids.flatMap (foot h)))) := hq
        simp only [List.cons_append, List.nil_append, List.mem_cons] at hq
        rcases hq with hq | hq | hq | hq
        · omega
        · omega
        · omega
        · have := HR.out.fresh q hq; omega

/-- b1Build. -/
theorem build9 (w0 : World) : ∀ (f : Nat) (t : IT f) (vp : Value) (mn h : Nat), okI f t mn h → In w0 f t vp → ∀ w : World, Below w0.heap.size w0 w → Calls Try.prog 9 #[vp] w (BuildPost w0.heap.size f t mn h w)
  | f + 1, some (ks, cs), vp, mn, h, hok, hin, w, hbel => by
    obtain ⟨h1, h2, ⟨hc0, rfl⟩ | ⟨h', rfl, hcl, hcs⟩⟩ := hok
    · obtain rfl := List.length_eq_zero_iff.1 hc0
      exact build9_leaf w0 w f mn ks vp hin hbel h1 h2
    · exact build9_inner w0 w f mn h' ks cs vp hin hbel h1 h2 hcl fun c hc u hu w hb => build9 w0 f c u 32 h' (hcs c hc) hu w hb

end Go.Proofs.Qxb6604036a
