/- b1NodeOrder (15): the keys in order, appended to 'out'. -/
import Derived.Test.Qxb6604036aSort
import Derived.Test.Qxb6604036aShape
namespace Go.Proofs.Qxb6604036a
open Go.RowKit Plain
set_option linter.unusedVariables false
set_option linter.unusedSimpArgs false

theorem Plain.weave_take_succ {α : Type} : ∀ (L : List (List α)) (ks : List α) (k : Nat) (hk : k < L.length), weave (L.take (k + 1)) ks = weave (L.take k) ks ++ (L[k] ++ if h : k < ks.length then [ks[k]] else [])
  | l :: L, [], 0, _ => by simp [weave]
  | l :: L, [], k + 1, hk => by
    have := weave_take_succ L [] k (by simpa using hk)
    simp [weave] at this ⊢
    exact this
  | l :: L, x :: ks, 0, _ => by simp [weave]
  | l :: L, x :: ks, k + 1, hk => by
    have := weave_take_succ L ks k (by simpa using hk)
    simp [weave, this]

/-- What b1NodeOrder leaves of 'out' (a row 'v' of strings 'xs') when 'ys' is what is added. -/
structure OrdRow (B : Nat) (v : Value) (xs ys : List ByteArray) (w : World) (v' : Value) (w' : World) : Prop where
  owns : w'.ownsRow B 9 1 v' (xs ++ ys).length (strs (xs ++ ys))
  touch : Touch (fun k => v.ownBlock = some k) w w'
  place : v'.ownBlock = v.ownBlock ∨ ∃ k, v'.ownBlock = some k ∧ w.heap.size ≤ k

def OrdPost (B : Nat) (v : Value) (xs ys : List ByteArray) (w : World) (e : Ending) (w' : World) : Prop := ∃ v', e = .returned v' ∧ OrdRow B v xs ys w v' w'

theorem OrdRow.trans {B : Nat} {v v' v'' : Value} {xs ys zs : List ByteArray} {w w' w'' : World} (h : OrdRow B v xs ys w v' w') (h' : OrdRow B v' (xs ++ ys) zs w' v'' w'') : OrdRow B v xs (ys ++ zs) w v'' w'' := by
  refine ⟨by rw [← List.append_assoc]; exact h'.owns, h.touch.trans h'.touch fun k hk hv => ?_, ?_⟩
  · rcases h.place with e | ⟨q, hq, hqs⟩
    · rw [← e]; exact hv
    · rw [hq] at hv; simp at hv; omega
  · have := h.touch.size
    rcases h'.place with e | ⟨q, hq, hqs⟩
    · rw [e]; exact h.place
    · exact .inr ⟨q, hq, by omega⟩

theorem OrdRow.refl {B : Nat} {v : Value} {xs : List ByteArray} {w w' : World} (h : w.ownsRow B 9 1 v xs.length (strs xs)) (hm : Mem w w') : OrdRow B v xs [] w v w' :=
  ⟨by simpa using ownsRow_same h fun k _ => by rw [hm.heap], hm.touch (Touch.refl _ _), .inl rfl⟩

theorem OrdRow.ofApp {B : Nat} {v : Value} {xs ys : List ByteArray} {w w0 : World} {v' : Value} {w' : World} (h : AppRow B 9 v (strs xs) (strs ys) w v' w') (h0 : Touch (fun _ => False) w0 w) : OrdRow B v xs ys w0 v' w' := by
  refine ⟨?_, (h0.mono fun _ _ h => h.elim).trans h.touch fun _ _ h => h, ?_⟩
  · have := h.owns
    simpa [strs] using this
  · rcases h.place with e | ⟨q, hq, hqs⟩
    · exact .inl e
    · exact .inr ⟨q, hq, Nat.le_trans h0.size hqs⟩

set_option maxHeartbeats 1000000 in
theorem order15_leaf (B : Nat) (t : AT 0) (v : Value) (xs : List ByteArray) (w : World) (hl : Lies B w 0 t) (hv : w.ownsRow B 9 1 v xs.length (strs xs)) (hbig : xs.length + t.ks.length ≤ 1048576) (hB : B ≤ w.heap.size) :
    Calls Try.prog 15 #[.pointer (some ⟨t.p, 0, none⟩), v] w (OrdPost B v xs t.ks w) := by
  obtain ⟨p, kv, cv, ks⟩ := t
  obtain ⟨hN, hBp, hK, hcv⟩ := hl
  simp only at hN hBp hK hcv hbig
  subst hcv
  obtain ⟨v', w', hr, ha⟩ := appS_row w B B 23 v kv (strs xs) (strs ks) (by rw [strs_length]; exact hv) (by rw [strs_length]; exact hK) (strs_oneCell ks) (by rw [strs_length, strs_length]; exact hbig) hB
  have hP : Hid (OrdRow B v xs ks w v' w') := OrdRow.ofApp ha (Touch.refl _ _)
  obtain ⟨a, c, rfl, hac, hcm⟩ := ownsRow_slice hK
  obtain ⟨a2, c2, rfl, _, _⟩ := ownsRow_slice hv
  have hnil := fun w a n c => Lib.run_eql_slice_nil (P := Try.prog) w 47 27 a n c 0 0 Try.underlying47
  have HN : Hid (w.heap[p]? = some (nodeObj (.slice a ks.length c) (.slice none 0 0))) := hN
  have HR : Hid ((Builtin.append_ #[23, 23] 23 #[.slice a2 xs.length c2, .slice a ks.length c]).run Try.prog w = .ok v' w') := hr
  clear hN ha hr hK hv
  go_enter Try.func15, Try.ntmps15
  go_wp2_with (first | (go_at_call 13; refine (keysOf _ _ _ _ _ _ _ _ HN.out).mono ?_; rintro e w' ⟨rfl, rfl⟩) | (go_at_call 24; refine (kidsOf _ _ _ _ _ _ _ _ HN.out).mono ?_; rintro e w' ⟨rfl, rfl⟩) | (at_builtin; refine Lib.wpList_append_run _ rfl _ _ 23 23 rfl _ _ rfl rfl _ _ HR.out ?_))
  go_ret
  exact ⟨v', rfl, hP.out⟩

set_option maxHeartbeats 4000000 in
set_option maxRecDepth 100000 in
theorem order15_inner (B h : Nat) (H : Hd) (kids : List (AT h)) (v : Value) (xs : List ByteArray) (w : World) (hl : Lies B w (h + 1) (H, kids)) (hkl : kids.length = H.ks.length + 1) (hks : H.ks.length ≤ 64) (hv : w.ownsRow B 9 1 v xs.length (strs xs))
    (hdis : ∀ k, v.ownBlock = some k → k ∉ foot (h + 1) (H, kids)) (hbig : xs.length + (inorder (h + 1) (H, kids)).length ≤ 1048576) (hB : B ≤ w.heap.size)
    (ih : ∀ c ∈ kids, ∀ (v : Value) (xs : List ByteArray) (w : World), Lies B w h c → w.ownsRow B 9 1 v xs.length (strs xs) → (∀ k, v.ownBlock = some k → k ∉ foot h c) → xs.length + (inorder h c).length ≤ 1048576 → B ≤ w.heap.size → Calls Try.prog 15 #[ptrV h c, v] w (OrdPost B v xs (inorder h c) w)) :
    Calls Try.prog 15 #[.pointer (some ⟨H.p, 0, none⟩), v] w (OrdPost B v xs (inorder (h + 1) (H, kids)) w) := by
  have hlt := Lies.lt (h + 1) _ hl
  have hl' := hl
  obtain ⟨hN, hBp, hK, hC, ⟨cb0, hcb0⟩, hkids⟩ := hl'
  simp only at hN hBp hK hC hcb0 hkids
  obtain ⟨a, c, hkv, hac, hcm⟩ := ownsRow_slice hK
  obtain ⟨gc, cc, hcv, hcc, hccm, hgc, _, hcells⟩ := ownsRow_cell hC (by omega)
  have hN0 := hN
  rw [hkv, hcv] at hN
  have HN : Hid (w.heap[H.p]? = some (nodeObj (.slice a H.ks.length c) (.slice (some ⟨gc, 0, none⟩) kids.length cc))) := hN
  have hnil := fun w a n c => Lib.run_eql_slice_nil (P := Try.prog) w 47 27 a n c 0 0 Try.underlying47
  have IH : Hid (∀ c ∈ kids, ∀ (v : Value) (xs : List ByteArray) (w : World), Lies B w h c → w.ownsRow B 9 1 v xs.length (strs xs) → (∀ k, v.ownBlock = some k → k ∉ foot h c) → xs.length + (inorder h c).length ≤ 1048576 → B ≤ w.heap.size → Calls Try.prog 15 #[ptrV h c, v] w (OrdPost B v xs (inorder h c) w)) := ih
  obtain ⟨L, hL⟩ : ∃ L, L = kids.map (inorder h) := ⟨_, rfl⟩
  have hLl : L.length = kids.length := by rw [hL]; simp
  have hino : inorder (h + 1) (H, kids) = weave L H.ks := by rw [hL]; rfl
  rw [hino] at hbig ⊢
  -- what the walk keeps aside
  have HALL : Hid (Lies B w (h + 1) (H, kids) ∧ (∀ k, v.ownBlock = some k → k ∉ foot (h + 1) (H, kids)) ∧ xs.length + (weave L H.ks).length ≤ 1048576 ∧ L = kids.map (inorder h) ∧ (∀ k ∈ foot (h + 1) (H, kids), B ≤ k ∧ k < w.heap.size) ∧ H.kv = .slice a H.ks.length c ∧ H.cv = .slice (some ⟨gc, 0, none⟩) kids.length cc ∧ H.cv.ownBlock = some gc) := ⟨hl, hdis, hbig, hL, hlt, hkv, hcv, hgc⟩
  have HV : Hid (w.ownsRow B 9 1 v xs.length (strs xs)) := hv
  obtain ⟨a0, c0, hv0, _, _⟩ := ownsRow_slice hv
  clear ih hN hN0 hK hC hkids hl hdis hbig hL hlt hkv hcv hgc hcells hcb0 hino hv
  obtain ⟨n, hn⟩ : ∃ n, n = H.ks.length := ⟨_, rfl⟩
  have HKN : Hid (n = H.ks.length ∧ kids.length = n + 1 ∧ L.length = n + 1) := ⟨hn, by omega, by omega⟩
  rw [← hn] at HN hac hks
  rw [hkl, ← hn] at HN hcc
  clear hn hkl hLl
  rw [hv0]
  have HV0 : Hid (v = .slice a0 xs.length c0) := hv0
  clear hv0
  go_enter Try.func15, Try.ntmps15
  go_wp2_with (first | (go_at_call 13; refine (keysOf _ _ _ _ _ _ _ _ HN.out).mono ?_; rintro e w' ⟨rfl, rfl⟩) | (go_at_call 24; refine (kidsOf _ _ _ _ _ _ _ _ HN.out).mono ?_; rintro e w' ⟨rfl, rfl⟩))
  go_loopw [1, 7] (fun u1 u7 wr => ∃ k : Nat, k ≤ n + 1 ∧ u7 = .int .i64 k ∧ OrdRow B v xs (weave (L.take k) H.ks) w u1 wr) (fun _ u7 _ => n + 1 - (intOf u7).toNat)
  case atStart =>
    refine ⟨0, by omega, rfl, ?_⟩
    rw [← HV0.out]
    exact OrdRow.refl HV.out (Mem.refl _)
  case round =>
    obtain ⟨k, hk, rfl, hO⟩ := hrel
    have HO : Hid (OrdRow B v xs (weave (L.take k) H.ks) w u1 wr) := hO
    have htw := hO.touch.size
    clear hO
    by_cases hlt : k < n + 1
    · have hkk : k < kids.length := by rw [HKN.out.2.1]; exact hlt
      have hkL : k < L.length := by rw [HKN.out.2.2]; exact hlt
      have hLk : L[k] = inorder h kids[k] := by
        have e := HALL.out.2.2.2.1
        subst e
        simp
      obtain ⟨A1, A2, A3, A4, A5, A6, A7, A8⟩ := HALL.out
      have hdk : kids[k] ∈ kids := List.getElem_mem hkk
      have keep : ∀ q ∈ foot (h + 1) (H, kids), wr.heap[q]? = w.heap[q]? := fun q hq => HO.out.touch.block q (A5 q hq).2 fun e => A2 q e hq
      have hlr : Lies B wr (h + 1) (H, kids) := Lies.same (h + 1) _ A1 keep
      obtain ⟨rN, rBp, rK, rC, _, rkids⟩ := hlr
      simp only at rN rBp rK rC rkids
      have hcell : wr.cell? ⟨gc, k, none⟩ = some (ptrV h kids[k]) := by
        obtain ⟨g, c2, he, _, _, hg, _, hcs⟩ := ownsRow_cell rC (by omega)
        obtain rfl : g = gc := by rw [A8] at hg; simpa using hg.symm
        exact hcs k _ (by simp [hkk])
      have hul : ∀ q, u1.ownBlock = some q → q ∉ foot (h + 1) (H, kids) := fun q hq hm => by
        rcases HO.out.place with e | ⟨q', hq', hqs⟩
        · exact A2 q (by rw [← e]; exact hq) hm
        · rw [hq'] at hq; simp at hq; have := (A5 q hm).2; omega
      have hfk : ∀ q ∈ foot h kids[k], q ∈ foot (h + 1) (H, kids) := fun q hq => by
        simp only [foot, List.mem_cons, List.mem_append, List.mem_flatMap]; exact .inr (.inr (.inr ⟨_, hdk, hq⟩))
      have hws := Plain.weave_take_succ L H.ks k hkL
      have hwl : (weave (L.take (k + 1)) H.ks).length ≤ (weave L H.ks).length := by
        have := HKN.out
        have e : weave L H.ks = weave (L.take (k + 1)) H.ks ++ weave (L.drop (k + 1)) (H.ks.drop (k + 1)) := by
          rcases Nat.lt_or_ge k n with h | h
          · have hkn : k < H.ks.length := by omega
            have e1 : H.ks = H.ks.take k ++ H.ks[k] :: H.ks.drop (k + 1) := by rw [← List.drop_eq_getElem_cons hkn, List.take_append_drop]
            have := weave_split H.ks[k] (L.drop (k + 1)) (H.ks.drop (k + 1)) (L.take (k + 1)) (H.ks.take k) (by simp; omega)
            rw [List.take_append_drop, ← e1] at this
            have w2 : weave (L.take (k + 1)) H.ks = weave (L.take (k + 1)) (H.ks.take k) ++ [H.ks[k]] := by
              have := weave_split H.ks[k] [] (H.ks.drop (k + 1)) (L.take (k + 1)) (H.ks.take k) (by simp; omega)
              rw [← e1, List.append_nil] at this
              simpa [weave] using this
            rw [this, w2]; simp
          · rw [List.take_of_length_le (by omega), List.drop_eq_nil_of_le (by omega)]; simp [weave]
        rw [e]; simp
      have hcall : Hid (Calls Try.prog 15 #[ptrV h kids[k], u1] wr (OrdPost B u1 (xs ++ weave (L.take k) H.ks) (inorder h kids[k]) wr)) := by
        refine IH.out kids[k] hdk u1 (xs ++ weave (L.take k) H.ks) wr (rkids _ hdk) HO.out.owns (fun q hq hm => hul q hq (hfk q hm)) ?_ (by omega)
        rw [← hLk, List.length_append]
        rw [hws] at hwl
        simp only [List.length_append] at hwl
        omega
      have hkI : (k : Int) < (n : Int) + 1 := by omega
      clear A1 A3 A4 A6 A7 rN rBp rC rkids keep
      go_wp2_with fail
      refine hcall.out.mono ?_
      clear hcall
      rintro e w1 ⟨v1, rfl, hO1⟩
      rw [← hLk] at hO1
      have HO1 := HO.out.trans hO1
      have hs1 := hO1.touch.size
      by_cases hkn : k < n
      · have hkn' : k < H.ks.length := by rw [← HKN.out.1]; exact hkn
        rw [dif_pos hkn'] at hws
        have rK1 : w1.ownsRow B 9 1 H.kv H.ks.length (strs H.ks) := ownsRow_touch rK hO1.touch fun q hq e => hul q e (by simp [foot, hq])
        obtain ⟨gk, hgk, hkc⟩ : ∃ gk, a = some ⟨gk, 0, none⟩ ∧ w1.cell? ⟨gk, k, none⟩ = some (.string H.ks[k]) := by
          obtain ⟨g, c2, he, _, _, hg, _, hcs⟩ := ownsRow_cell rK1 (by omega)
          rw [HALL.out.2.2.2.2.2.1] at he; simp at he
          exact ⟨g, he.1, hcs k _ (by simp [strs, hkn'])⟩
        subst hgk
        obtain ⟨x, hx⟩ : ∃ x, x = H.ks[k] := ⟨_, rfl⟩
        rw [← hx] at hws hkc
        have hl1 : ((xs ++ weave (L.take k) H.ks) ++ L[k]).length ≤ 1048576 := by
          have := HALL.out.2.2.1
          rw [hws] at hwl
          simp only [List.length_append] at hwl ⊢
          omega
        obtain ⟨v2, w2, hr2, ha2⟩ := appS_one (w1.alloc (.cells #[.string x] 9)) B 23 v1 (strs ((xs ++ weave (L.take k) H.ks) ++ L[k])) (.string x) w1.heap.size 1 (by rw [strs_length]; exact hO1.owns.alloc _) (by rw [cell_of_row _ _ 0 #[.string x] 9 (0, 0) (heap_new w1 _)]; rfl) rfl (by rw [strs_length]; exact hl1) (by simp; omega)
        have HR2 : Hid ((Builtin.append_ #[23, 23] 23 #[v1, .slice (some ⟨w1.heap.size, 0, none⟩) 1 1]).run Try.prog (w1.alloc (.cells #[.string x] 9)) = .ok v2 w2) := hr2
        have HO2 : Hid (OrdRow B v xs (weave (L.take (k + 1)) H.ks) w v2 w2) := by
          have h2 : OrdRow B v1 ((xs ++ weave (L.take k) H.ks) ++ L[k]) [x] w1 v2 w2 := OrdRow.ofApp ha2 ((Touch.refl _ _).alloc _)
          rw [hws]
          rw [List.append_assoc] at h2
          have := HO1.trans h2
          rw [List.append_assoc] at this
          exact this
        have hknI : (k : Int) < (n : Int) := by omega
        clear HALL hr2 ha2 hl1 hx HO1 hO1 hws hwl hul hfk hLk HO hkL hkn' rK rK1 A2 A5 A8 hdk hcell HV IH HN HKN
        go_wp2_with (at_builtin; refine Lib.wpList_append_run _ rfl _ _ 23 23 rfl _ _ rfl rfl _ _ HR2.out ?_)
        go_roundw
        case rel => exact ⟨k + 1, by omega, by go_num, HO2.out⟩
        case measure => simp [intOf]; omega
      · rw [dif_neg (by rw [← HKN.out.1]; exact hkn), List.append_nil] at hws
        have HO2 : Hid (OrdRow B v xs (weave (L.take (k + 1)) H.ks) w v1 w1) := by rw [hws]; exact HO1
        have hknI : ¬ (k : Int) < (n : Int) := by omega
        clear HALL HO1 hO1 hws hwl hul hfk hLk HO hkL rK A2 A5 A8 hdk hcell HV IH HN HKN
        go_wp2
        go_roundw
        case rel => exact ⟨k + 1, by omega, by go_num, HO2.out⟩
        case measure => simp [intOf]; omega
    · obtain rfl : k = n + 1 := by omega
      have hO := HO.out
      rw [List.take_of_length_le (by rw [HKN.out.2.2]; exact Nat.le_refl _)] at hO
      have HO2 : Hid (OrdRow B v xs (weave L H.ks) w u1 wr) := hO
      have hkI : ¬ (((n + 1 : Nat) : Int)) < (n : Int) + 1 := by omega
      clear hO HO HALL IH HN HV HKN
      go_wp2
      go_ret
      have := HO2.out
      rw [HV0.out] at this
      exact ⟨u1, rfl, this⟩

/-- b1NodeOrder of a tree. -/
theorem order15 (B : Nat) : ∀ (h mn : Nat) (t : AT h), okT h mn t → ∀ (v : Value) (xs : List ByteArray) (w : World), Lies B w h t → w.ownsRow B 9 1 v xs.length (strs xs) → (∀ k, v.ownBlock = some k → k ∉ foot h t) →
    xs.length + (inorder h t).length ≤ 1048576 → B ≤ w.heap.size → Calls Try.prog 15 #[ptrV h t, v] w (OrdPost B v xs (inorder h t) w)
  | 0, mn, t, hok, v, xs, w, hl, hv, hd, hbig, hB => order15_leaf B t v xs w hl hv hbig hB
  | h + 1, mn, t, hok, v, xs, w, hl, hv, hd, hbig, hB => order15_inner B h t.1 t.2 v xs w hl hok.2.2.1 hok.2.1 hv hd hbig hB fun c hc v xs w => order15 B h 32 c (hok.2.2.2 c hc) v xs w

end Go.Proofs.Qxb6604036a
