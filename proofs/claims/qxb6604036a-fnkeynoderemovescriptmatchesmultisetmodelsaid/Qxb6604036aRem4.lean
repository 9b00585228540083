/- remove (32): a key of an inner node. -/
import Derived.Test.Qxb6604036aRem3
import Derived.BigQuiet
import Derived.BigRegion
import Derived.Deep.DeepCutAuto
import Derived.Deep.QuietTactic
import Derived.Deep.DrawnRows
namespace Go.Proofs.Qxb6604036a
open Go.RowKit Plain
set_option linter.unusedVariables false
set_option linter.unusedSimpArgs false
attribute [local go_sem ↓] Go.wp_at_zero Go.wp_at_succ

/-- A key of the root turned. -/
theorem KeptT.key {B h : Nat} {H : Hd} {cs : List (AT h)} {w : World} {g i : Nat} (y : ByteArray) (hL : Lies B w (h + 1) (H, cs)) (hnd : (foot (h + 1) (H, cs)).Nodup) (hg : H.kv.ownBlock = some g) (hi : i < H.ks.length) :
    KeptT B (h + 1) (H, cs) ((⟨H.p, H.kv, H.cv, H.ks.set i y⟩ : Hd), cs) w (w.setCell ⟨g, i, none⟩ (.string y)) := by
  obtain ⟨n1, n2, n3⟩ := lies_ns.1 hL
  have hF : (foot (h + 1) (H, cs)).Perm ([ns (h + 1) (H, cs)].flatMap NS.ft ++ cs.flatMap (foot h)) := by
    rw [foot_ns n2]
    simp only [List.flatMap_cons, List.flatMap_nil, List.append_nil]
    exact List.Perm.refl _
  have hSt : St B (fun k => k ∈ [ns (h + 1) (H, cs)].flatMap NS.ft) w w [ns (h + 1) (H, cs)] := by
    refine ⟨fun a ha => ?_, (List.nodup_append.1 (hF.nodup_iff.1 hnd)).1, fun k hk => .inl hk, Touch.refl _ _, fun a ha u hu => ?_⟩
    · rw [List.mem_singleton.1 ha]; exact n1
    · rw [List.mem_singleton.1 ha] at hu
      obtain ⟨p, rfl⟩ := subP_ptr (h := h + 1) u hu; rfl
  have hS2 := hSt.setKey (g := g) (i := i) hg hi y
  have hS2' : St B (fun k => k ∈ [ns (h + 1) (H, cs)].flatMap NS.ft) w (w.setCell ⟨g, i, none⟩ (.string y)) [ns (h + 1) ((⟨H.p, H.kv, H.cv, H.ks.set i y⟩ : Hd), cs)] := hS2
  have hF' : (foot (h + 1) ((⟨H.p, H.kv, H.cv, H.ks.set i y⟩ : Hd), cs)).Perm ([ns (h + 1) ((⟨H.p, H.kv, H.cv, H.ks.set i y⟩ : Hd), cs)].flatMap NS.ft ++ cs.flatMap (foot h)) := hF
  obtain ⟨a1, a2, a3, a4⟩ := rebuild [ns (h + 1) (H, cs)] [ns (h + 1) ((⟨H.p, H.kv, H.cv, H.ks.set i y⟩ : Hd), cs)] _ hL hnd hF hS2' hF' (hS2'.nd _ (List.mem_singleton.2 rfl)) n2 (fun c hc => .inl ⟨n3 c hc, fun k hk => List.mem_flatMap.2 ⟨c, hc, hk⟩⟩)
  exact ⟨a1, a2, a3, a4, rfl⟩

/-- Where the way down stands. -/
structure Dn (B h : Nat) (c : AT h) (w : World) (q : Nat) (y : ByteArray) : Prop where
  at_ : ∃ (g : Nat) (d : AT g) (A : List Nat), q = (hd g d).p ∧ chain h c = A ++ chain g d ∧ Lies B w g d ∧ okT g 32 d ∧ lastK g d = y

theorem chain_head : ∀ (g : Nat) (d : AT g), ∃ R, chain g d = (hd g d).p :: R
  | 0, d => ⟨[], rfl⟩
  | g + 1, d => ⟨_, rfl⟩

/-- What a step down meets. -/
theorem Dn.look {B h : Nat} {c : AT h} {w : World} {q : Nat} {y : ByteArray} (hn : (chain h c).Nodup) (hd0 : Dn B h c w q y) :
    (w.cell? ⟨q, 1, none⟩ = some (.slice none 0 0) ∧ ∃ gl nl cl, w.cell? ⟨q, 0, none⟩ = some (.slice (some ⟨gl, 0, none⟩) nl cl) ∧ 32 ≤ nl ∧ nl ≤ 64 ∧ w.cell? ⟨gl, nl - 1, none⟩ = some (.string y)) ∨
    (∃ k m cm q', w.cell? ⟨q, 1, none⟩ = some (.slice (some ⟨k, 0, none⟩) m cm) ∧ 33 ≤ m ∧ m ≤ 65 ∧ w.cell? ⟨k, m - 1, none⟩ = some (.pointer (some ⟨q', 0, none⟩)) ∧ Dn B h c w q' y ∧ edge (chain h c) (.pointer (some ⟨q', 0, none⟩)) < edge (chain h c) (.pointer (some ⟨q, 0, none⟩))) := by
  obtain ⟨g, d, A, hq, hch, hL, hok, hy⟩ := hd0.at_
  cases g with
  | zero =>
    refine .inl ?_
    obtain ⟨h1, h2, h3, h4⟩ := hL
    obtain ⟨p, kv, cv, ks⟩ := d
    have hq' : q = p := hq
    have hcv : cv = .slice none 0 0 := h4
    have o1 : 32 ≤ ks.length := hok.1
    have o2 : ks.length ≤ 64 := hok.2
    subst hq' hcv
    have c1 : w.cell? ⟨q, 1, none⟩ = some (.slice none 0 0) := cell_node1 h1
    have c0 : w.cell? ⟨q, 0, none⟩ = some kv := cell_node0 h1
    have h3' : w.ownsRow B 9 1 kv ks.length (strs ks) := h3
    obtain ⟨gl, cl, e1, _, _, _, _, e6⟩ := ownsRow_cell h3' (by omega)
    have hl : ks.getLastD ByteArray.empty = y := hy
    refine ⟨c1, gl, ks.length, cl, by rw [c0, e1], o1, o2, e6 _ _ ?_⟩
    have hne : ks ≠ [] := fun e => by rw [e] at o1; simp at o1
    have hlt : ks.length - 1 < ks.length := by omega
    show (ks.map Value.string)[ks.length - 1]? = _
    rw [List.getElem?_map, List.getElem?_eq_getElem hlt, ← hl]
    have e7 : ks.getLastD ByteArray.empty = ks[ks.length - 1] := by
      rw [List.getLastD_eq_getLast?, List.getLast?_eq_getElem?, List.getElem?_eq_getElem hlt]; rfl
    rw [e7]; rfl
  | succ g =>
    refine .inr ?_
    obtain ⟨Hh, ds⟩ := d
    obtain ⟨h1, h2, h3, h4, h5, h6⟩ := hL
    obtain ⟨o1, o2, o3, o4⟩ := hok
    have o1' : 32 ≤ Hh.ks.length := o1
    have o2' : Hh.ks.length ≤ 64 := o2
    have o3' : ds.length = Hh.ks.length + 1 := o3
    have hq' : q = Hh.p := hq
    rcases List.eq_nil_or_concat ds with e | ⟨ds', e, hds⟩
    · exfalso; rw [e] at o3'; simp at o3'
    · have hds' : ds = ds' ++ [e] := by rw [hds]; simp
      have h4' : w.ownsRow B 27 1 Hh.cv ds.length (ds.map (ptrV g)) := h4
      obtain ⟨k, cm, f1, _, _, _, _, f6⟩ := ownsRow_cell h4' (by omega)
      have c1 : w.cell? ⟨Hh.p, 1, none⟩ = some Hh.cv := cell_node1 h1
      have hdl : ds.length - 1 = ds'.length := by rw [hds']; simp
      obtain ⟨R, hR⟩ := chain_head g e
      have hch1 : chain (g + 1) (Hh, ds) = Hh.p :: chain g e := by
        show Hh.p :: (ds.getLast?.toList.flatMap (chain g)) = _
        rw [hds']; simp
      have hch2 : chain h c = (A ++ [Hh.p]) ++ chain g e := by
        rw [hch]
        have : chain (g + 1) (Hh, ds) = Hh.p :: chain g e := hch1
        rw [this]; simp
      refine ⟨k, ds.length, cm, (hd g e).p, by rw [hq', c1, f1], by omega, by omega, f6 _ _ ?_, ⟨g, e, A ++ [Hh.p], rfl, hch2, h6 e (by show e ∈ ds; rw [hds']; simp), o4 e (by show e ∈ ds; rw [hds']; simp), ?_⟩, ?_⟩
      · rw [hdl, hds', List.map_append, List.getElem?_append_right (by simp)]
        simp; rfl
      · rw [← hy]
        show lastK g e = (match ds.getLast? with | some c => lastK g c | none => ByteArray.empty)
        rw [hds']; simp
      · have a1 := edge_at (l := chain h c) (A := A ++ [Hh.p]) (R := R) (p := (hd g e).p) (by rw [hch2, hR]) hn
        have a2 := edge_at (l := chain h c) (A := A) (R := chain g e) (p := q) (by rw [hch, hq']; exact congrArg (A ++ ·) hch1) hn
        rw [a1, a2, hR]; simp

theorem Dn.start {B h : Nat} {c : AT h} {w : World} (hL : Lies B w h c) (hok : okT h 32 c) : Dn B h c w (hd h c).p (lastK h c) := ⟨h, c, [], rfl, rfl, hL, hok, rfl⟩

theorem KeptT.mem {B h : Nat} {t t' : AT h} {w w1 w2 : World} (hk : KeptT B h t t' w w1) (hm : Mem w1 w2) : KeptT B h t t' w w2 :=
  ⟨Lies.same h t' hk.lies fun k _ => by rw [hm.heap], hk.nodup, hk.place, Mem.touch hk.touch hm, hk.root⟩
theorem KeptT.ofMem {B h : Nat} {t t' : AT h} {w w1 w2 : World} (hm : Mem w w1) (hk : KeptT B h t t' w1 w2) : KeptT B h t t' w w2 :=
  ⟨hk.lies, hk.nodup, fun k hk' => by rw [← hm.heap]; exact hk.place k hk', ⟨hk.touch.os.trans hm.os, hk.touch.tape.trans hm.tape, hk.touch.output.trans hm.output, by rw [← hm.heap]; exact hk.touch.size, fun k hk' hn => by rw [hk.touch.block k (by rw [hm.heap]; exact hk') hn, hm.heap]⟩, hk.root⟩

/-- What stands when the key was turned and the kid's last key taken out. -/
theorem hit_plain {A C : List (List ByteArray)} {a c' l : List ByteArray} {x y : ByteArray} {I : List ByteArray} (hA : A.length = a.length) (hC : C.length = c'.length + 1) (hl : l = I ++ [y]) (hs : Sorted sl (weave (A ++ l :: C) (a ++ x :: c'))) :
    weave (A ++ srem y l :: C) (a ++ y :: c') = srem x (weave (A ++ l :: C) (a ++ x :: c')) := by
  obtain ⟨m, C', rfl⟩ : ∃ m C', C = m :: C' := by
    cases C with
    | nil => simp at hC
    | cons m C' => exact ⟨m, C', rfl⟩
  have hC' : C'.length = c'.length := by simpa using hC
  rw [weave_mid A C' l m a c' x hA hC'] at hs ⊢
  rw [weave_mid A C' (srem y l) m a c' y hA hC']
  have hsl : Sorted sl l := hs.sublist (by
    rw [List.append_assoc, List.append_assoc]
    exact (List.sublist_append_left _ _).trans (List.sublist_append_right _ _))
  have h1 : srem y l = I := by
    rw [hl] at hsl ⊢
    have := srem_mid (x := y) I [] hsl
    simpa using this
  have h2 : pl A a ++ (l ++ x :: m) ++ pr c' C' = (pl A a ++ l) ++ x :: (m ++ pr c' C') := by simp
  rw [h2] at hs ⊢
  rw [srem_mid _ _ hs, h1, hl]
  simp

set_option maxHeartbeats 16000000 in
set_option maxRecDepth 100000 in
theorem rem_hit (B h : Nat) (H : Hd) (pre post : List (AT h)) (c : AT h) (x : ByteArray) (w : World) (hL : Lies B w (h + 1) (H, pre ++ c :: post)) (hnd : (foot (h + 1) (H, pre ++ c :: post)).Nodup) (hok : okT (h + 1) 1 (H, pre ++ c :: post)) (hs : Sorted sl (inorder (h + 1) (H, pre ++ c :: post)))
    (hpre : pre.length = lb x H.ks) (hlt : pre.length < H.ks.length) (hx : H.ks.getD pre.length ByteArray.empty = x) (hI : ∀ w', Lies B w' h c → Calls Try.prog 32 #[ptrV h c, .string (lastK h c)] w' (RemPost B h c (lastK h c) w')) : Calls Try.prog 32 #[ptrV (h + 1) (H, pre ++ c :: post), .string x] w (RemPost B (h + 1) (H, pre ++ c :: post) x w) := by
  obtain ⟨o1, o2, o3, o4⟩ := hok
  have o1' : 1 ≤ H.ks.length := o1
  have o2' : H.ks.length ≤ 64 := o2
  have o3' : (pre ++ c :: post).length = H.ks.length + 1 := o3
  obtain ⟨h1, h2, h3, h4, h5, h6⟩ := id hL
  have hcok : okT h 32 c := o4 c (by simp)
  have hcL : Lies B w h c := h6 c (by simp)
  have hsk : Sorted sl H.ks := hs.sublist (weave_keys _ _ (by rw [List.length_map]; exact o3'))
  obtain ⟨y, hy⟩ : ∃ y, y = lastK h c := ⟨_, rfl⟩
  have b1 : w.cell? ⟨H.p, 0, none⟩ = some H.kv := cell_node0 h1
  have b2 : w.cell? ⟨H.p, 1, none⟩ = some H.cv := cell_node1 h1
  obtain ⟨g, cg, e1, e2, e3, e4, e5, e6⟩ := ownsRow_cell h3 (by show 0 < H.ks.length; omega)
  obtain ⟨gm, cm, f1, f2, f3, f4, f5, f6⟩ := ownsRow_cell h4 (by show 0 < (pre ++ c :: post).length; rw [o3']; omega)
  have hkid := f6 pre.length _ (ptr_at pre post c)
  have e1' : H.kv = .slice (some ⟨g, 0, none⟩) H.ks.length cg := e1
  have f1' : H.cv = .slice (some ⟨gm, 0, none⟩) (pre ++ c :: post).length cm := f1
  have hkey : w.cell? ⟨g, pre.length, none⟩ = some (.string x) := by
    have := e6 pre.length (.string (H.ks.getD pre.length ByteArray.empty)) (getD_strs H.ks pre.length hlt)
    rw [hx] at this; exact this
  have hchn : (chain h c).Nodup := (List.nodup_append.1 ((List.nodup_append.1 (by
    have hsub : ((foot h c) ++ []).Sublist (foot (h + 1) (H, pre ++ c :: post)) := by
      show ((foot h c) ++ []).Sublist (H.p :: (H.kv.ownBlock.toList ++ (H.cv.ownBlock.toList ++ (pre ++ c :: post).flatMap (foot h))))
      rw [List.append_nil]
      refine List.Sublist.cons _ (List.Sublist.trans ?_ (List.sublist_append_right _ _))
      refine List.Sublist.trans ?_ (List.sublist_append_right _ _)
      rw [List.flatMap_append, List.flatMap_cons]
      exact (List.sublist_append_left _ _).trans (List.sublist_append_right _ _)
    have h0 := hnd.sublist hsub
    have h1 : (chain h c ++ []).Nodup := by rw [List.append_nil] at h0 ⊢; exact h0.sublist (chain_sub h c)
    exact (show ((chain h c ++ []) ++ []).Nodup by rw [List.append_nil]; exact h1))).1)).1
  have hfz : ∀ o, w.frozen? ⟨g, o, none⟩ = false := fun o => by
    rcases h3.2 with ⟨e, _⟩ | ⟨g', _, cur, e, _, hg, _⟩
    · have e' : H.kv = _ := e
      rw [e1'] at e'; cases e'
    · have e' : H.kv = _ := e
      rw [e1'] at e'
      obtain rfl : g = g' := by have := (Value.slice.inj e').1; simpa using this
      simp [World.frozen?, hg]
  have HC : Hid (Calls Try.prog 33 #[H.kv, .string x] w _) := search33 B H.kv H.ks x w (by omega) h3 hsk
  have HDn : Hid (Dn B h c w (ns h c).p y) := by rw [hy]; exact Dn.start hcL hcok
  have HCH : Hid ((chain h c).Nodup) := hchn
  have HI : Hid (∀ w', Lies B w' h c → Calls Try.prog 32 #[.pointer (some ⟨(ns h c).p, 0, none⟩), .string y] w' (RemPost B h c y w')) := by rw [hy]; exact hI
  obtain ⟨T1, hT1⟩ : ∃ T1 : AT (h + 1), T1 = ((⟨H.p, H.kv, H.cv, H.ks.set pre.length y⟩ : Hd), pre ++ c :: post) := ⟨_, rfl⟩
  have HKEY : Hid (∀ W wc, Mem w W → Mem (W.setCell ⟨g, pre.length, none⟩ (.string y)) wc → KeptT B (h + 1) (H, pre ++ c :: post) T1 w wc) := fun W wc hm1 hm2 => by
    rw [hT1]
    have k1 := (KeptT.refl hL hnd).mem hm1
    exact (k1.trans (KeptT.key y k1.lies k1.nodup (g := g) (i := pre.length) (by rw [e1']; rfl) hlt)).mem hm2
  have HR : Hid (∀ c' wA w1, KeptT B (h + 1) (H, pre ++ c :: post) T1 w wA → KeptT B h c c' wA w1 → okT h ((hd h c).ks.length - 1) c' → Calls Try.prog 39 #[.pointer (some ⟨H.p, 0, none⟩), .int .i64 (pre.length : Int)] w1 (BackPost B h (H, pre ++ c :: post) (weave ((pre ++ c' :: post).map (inorder h)) (H.ks.set pre.length y)) w)) := fun c' wA w1 hk0 hk hc' => by
    rw [hT1] at hk0
    have hl : (H.ks.set pre.length y).length = H.ks.length := List.length_set ..
    exact rem_back (H := ⟨H.p, H.kv, H.cv, H.ks.set pre.length y⟩) hk0 hl hk (by show 1 ≤ (H.ks.set pre.length y).length; rw [hl]; exact o1') (by show (H.ks.set pre.length y).length ≤ 64; rw [hl]; exact o2') (by show _ = (H.ks.set pre.length y).length + 1; rw [hl]; exact o3') o4 hc'
  have HW : Hid (∀ c' : AT h, inorder h c' = srem y (inorder h c) → weave ((pre ++ c' :: post).map (inorder h)) (H.ks.set pre.length y) = srem x (inorder (h + 1) (H, pre ++ c :: post))) := fun c' hin => by
    obtain ⟨I, hII⟩ := inorder_last h c (okT_down hcok (by omega))
    have hks := cut_at hlt hx
    have hset : H.ks.set pre.length y = H.ks.take pre.length ++ y :: H.ks.drop (pre.length + 1) := by
      have hl : (H.ks.take pre.length).length = pre.length := by rw [List.length_take]; omega
      have := set_mid (H.ks.take pre.length) (H.ks.drop (pre.length + 1)) x y
      rw [hl, ← hks] at this; exact this
    have lp : pre.length + (post.length + 1) = H.ks.length + 1 := by simpa using o3'
    have hs' : Sorted sl (weave ((pre ++ c :: post).map (inorder h)) H.ks) := hs
    show _ = srem x (weave ((pre ++ c :: post).map (inorder h)) H.ks)
    rw [hset]
    rw [hks, List.map_append, List.map_cons] at hs' ⊢
    rw [List.map_append, List.map_cons, hin]
    rw [← hy] at hII
    have hh := hit_plain (A := pre.map (inorder h)) (C := post.map (inorder h)) (a := H.ks.take pre.length) (c' := H.ks.drop (pre.length + 1)) (l := inorder h c) (x := x) (y := y) (I := I) (by rw [List.length_map, List.length_take]; omega) (by rw [List.length_map, List.length_drop]; omega) hII hs'
    rw [← hks] at hh ⊢
    exact hh
  have HT1 : Hid (∀ wA, Lies B wA (h + 1) T1 → wA.cell? ⟨H.p, 0, none⟩ = some H.kv ∧ wA.cell? ⟨H.p, 1, none⟩ = some H.cv ∧ wA.cell? ⟨g, pre.length, none⟩ = some (.string y) ∧ wA.cell? ⟨gm, pre.length, none⟩ = some (.pointer (some ⟨(ns h c).p, 0, none⟩)) ∧ Lies B wA h c) := fun wA hLA => by
    rw [hT1] at hLA
    obtain ⟨a1, a2, a3, a4, a5, a6⟩ := hLA
    have a3' : wA.ownsRow B 9 1 H.kv (H.ks.set pre.length y).length (strs (H.ks.set pre.length y)) := a3
    have a4' : wA.ownsRow B 27 1 H.cv (pre ++ c :: post).length ((pre ++ c :: post).map (ptrV h)) := a4
    obtain ⟨g', cg', u1, _, _, _, _, u6⟩ := ownsRow_cell a3' (by rw [List.length_set]; omega)
    obtain ⟨gm', cm', v1, _, _, _, _, v6⟩ := ownsRow_cell a4' (by rw [o3']; omega)
    rw [e1'] at u1
    rw [f1'] at v1
    obtain rfl : g = g' := by have := (Value.slice.inj u1).1; simpa using this
    obtain rfl : gm = gm' := by have := (Value.slice.inj v1).1; simpa using this
    refine ⟨cell_node0 a1, cell_node1 a1, u6 _ _ ?_, v6 _ _ (ptr_at pre post c), a6 c (by simp)⟩
    show ((H.ks.set pre.length y).map Value.string)[pre.length]? = _
    rw [List.getElem?_map, List.getElem?_set_self hlt]; rfl
  obtain ⟨n, hn⟩ : ∃ n, n = H.ks.length := ⟨_, rfl⟩
  obtain ⟨m, hm⟩ : ∃ m, m = (pre ++ c :: post).length := ⟨_, rfl⟩
  obtain ⟨i, hi⟩ : ∃ i, i = pre.length := ⟨_, rfl⟩
  have HX : Hid (i = pre.length ∧ i = lb x H.ks ∧ n = H.ks.length ∧ H.ks.getD i ByteArray.empty = x ∧ i < H.ks.length) := ⟨hi, hi.trans hpre, hn, by rw [hi]; exact hx, by rw [hi]; exact hlt⟩
  have him : (i : Int) < (m : Int) := by rw [hi, hm]; simp; omega
  have hin : (i : Int) < (n : Int) := by rw [hi, hn]; omega
  rw [← hpre, ← hi] at HC
  rw [← hi] at HR hkid HKEY HT1 hkey
  rw [e1'] at b1 HC
  rw [f1'] at b2
  have HT1' : Hid (∀ wA, Lies B wA (h + 1) T1 → wA.cell? ⟨H.p, 0, none⟩ = some (.slice (some ⟨g, 0, none⟩) n cg) ∧ wA.cell? ⟨H.p, 1, none⟩ = some (.slice (some ⟨gm, 0, none⟩) m cm) ∧ wA.cell? ⟨g, i, none⟩ = some (.string y) ∧ wA.cell? ⟨gm, i, none⟩ = some (.pointer (some ⟨(ns h c).p, 0, none⟩)) ∧ Lies B wA h c) := fun wA hLA => by
    have := HT1.out wA hLA
    rw [e1', f1', ← hn, ← hm] at this; exact this
  rw [← hn] at b1 HC
  rw [← hm] at b2
  have heq := fun w a n c => Lib.run_eql_slice_nil (P := Try.prog) w 47 27 a n c 0 0 Try.underlying47
  have hneq := fun w a n c => run_neq_slice_nil_any (P := Try.prog) w 47 27 a n c 0 0 Try.underlying47
  obtain ⟨T, hT⟩ : ∃ T : AT (h + 1), T = (H, pre ++ c :: post) := ⟨_, rfl⟩
  obtain ⟨P, hP⟩ : ∃ P, P = H.p := ⟨_, rfl⟩
  rw [← hT] at HR HW HKEY ⊢
  have hpt : ptrV (h + 1) T = .pointer (some ⟨P, 0, none⟩) := by rw [hT, hP]; rfl
  rw [hpt]
  rw [← hP] at b1 b2 HR HT1'
  have hTk : Hid ((hd (h + 1) T).ks = H.ks ∧ T.1.ks = H.ks) := by rw [hT]; exact ⟨rfl, rfl⟩
  obtain ⟨cp, hcp⟩ : ∃ cp, cp = (ns h c).p := ⟨_, rfl⟩
  rw [← hcp] at hkid HI HDn HT1'
  clear hL hnd o1 o2 o3 o4 o1' o2' o3' h1 h2 h3 h4 h5 h6 hsk e1 e2 e3 e4 e5 e6 f1 f2 f3 f4 f5 f6 e1' f1' hs hpre hI hn hm hi hT hP hpt hcp hcok hcL hy hchn hlt hx HT1 hT1
  go_enter Try.func32, Try.ntmps32
  go_wp2_with fail
  refine HC.out.mono ?_
  rintro e w' ⟨rfl, f, rfl, hf, ht, hd'⟩
  obtain rfl : f = true := hf.2 (by rw [HX.out.2.2.1]; exact ⟨HX.out.2.2.2.2, HX.out.2.2.2.1⟩)
  clear hf ht hd'
  go_wp2
  go_loopw [6] (fun v wr => ∃ q : Nat, v = .pointer (some ⟨q, 0, none⟩) ∧ Hid (Mem w wr ∧ Dn B h c w q y)) (fun v _ => edge (chain h c) v)
  case atStart => exact ⟨cp, rfl, Mem.refl _, HDn.out⟩
  case round =>
    obtain ⟨q, rfl, hQ⟩ := hrel
    rcases hQ.out.2.look HCH.out with ⟨l1, gl, nl, cl, l2, l3, l4, l5⟩ | ⟨k, mm, cmm, q', l1, l2, l3, l4, l5, l6⟩
    · have hmw : ∀ a, wr.cell? a = w.cell? a := fun a => World.cell?_of_block (by rw [hQ.out.1.heap])
      have j1 := (hmw _).trans l1
      have j2 := (hmw _).trans l2
      have j3 := (hmw _).trans l5
      have j4 := (hmw _).trans b1
      have j5 := (hmw _).trans hkey
      have j6 : wr.frozen? ⟨g, i, none⟩ = false := by rw [← hfz i]; exact World.frozen?_of_block (by rw [hQ.out.1.heap])
      have j7 : IntKind.i64.wrap ((nl : Int) - 1) = ((nl - 1 : Nat) : Int) := by rw [IntKind.wrap_i64]; omega
      have j8 : ((nl - 1 : Nat) : Int) < (nl : Int) := by omega
      have HM : Hid (Mem w wr) := hQ.out.1
      obtain ⟨W, hW⟩ : ∃ W : World, W = wr := ⟨_, rfl⟩
      rw [← hW] at j1 j2 j3 j4 j5 j6 HM ⊢
      clear hQ l1 l2 l5 hmw hW b1 b2 hkid hkey hfz
      go_wp2
      go_cut [] from 69 to 86 (fun wc => Hid (KeptT B (h + 1) T T1 w wc))
      case first =>
        go_region
        all_goals
          go_wp2
          go_meet
          case rel => exact HKEY.out W _ HM.out ⟨rfl, rfl, rfl, rfl⟩
      case rest =>
        obtain ⟨wA, hwA⟩ : ∃ wA : World, wA = wc := ⟨_, rfl⟩
        rw [← hwA] at hcut ⊢
        clear hwA j1 j2 j3 j4 j5 j6
        obtain ⟨b1, b2, b3, b4, b5⟩ := HT1'.out wA hcut.out.lies
        have HLC : Hid (Lies B wA h c) := b5
        have HI2 : Hid (Calls Try.prog 32 #[.pointer (some ⟨cp, 0, none⟩), .string y] wA.drew (RemPost B h c y wA.drew)) := HI.out wA.drew (Lies.same h c b5 fun _ _ => rfl)
        clear b5
        go_wp2
        go_region_with (go_at_call 32; refine HI2.out.mono ?_; rintro e w1 ⟨rfl, c', hk, hok, hin'⟩; have HK : Hid (KeptT B h c c' wA.drew w1 ∧ okT h ((hd h c).ks.length - 1) c' ∧ inorder h c' = srem y (inorder h c)) := ⟨hk, hok, hin'⟩; clear hk hok hin')
        all_goals
          have HR1 : Hid (Calls Try.prog 39 #[.pointer (some ⟨P, 0, none⟩), .int .i64 (i : Int)] w1 _) := HR.out c' wA w1 hcut.out (KeptT.ofMem (Mem.ofDrew wA) HK.out.1) HK.out.2.1
          go_wp2_with fail
          refine HR1.out.mono ?_
          rintro e w2 ⟨rfl, t2, k2, ok2, in2⟩
          have H2 : Hid (KeptT B (h + 1) T t2 w w2 ∧ okT (h + 1) (T.1.ks.length - 1) t2 ∧ inorder (h + 1) t2 = _) := ⟨k2, ok2, in2⟩
          clear k2 ok2 in2
          go_wp2
          go_end0
          refine ⟨rfl, t2, H2.out.1, ?_, ?_⟩
          · rw [hTk.out.1, ← hTk.out.2]; exact H2.out.2.1
          · rw [H2.out.2.2]
            have e9 := HW.out c' HK.out.2.2
            rw [← HX.out.1] at e9
            exact e9
    · have j1 : wr.cell? ⟨q, 1, none⟩ = some (.slice (some ⟨k, 0, none⟩) mm cmm) := by rw [← l1]; exact World.cell?_of_block (by rw [hQ.out.1.heap])
      have j2 : wr.cell? ⟨k, mm - 1, none⟩ = some (.pointer (some ⟨q', 0, none⟩)) := by rw [← l4]; exact World.cell?_of_block (by rw [hQ.out.1.heap])
      have j3 : IntKind.i64.wrap ((mm : Int) - 1) = ((mm - 1 : Nat) : Int) := by rw [IntKind.wrap_i64]; omega
      have j4 : ((mm - 1 : Nat) : Int) < (mm : Int) := by omega
      have HN : Hid (Mem w wr ∧ Dn B h c w q' y ∧ edge (chain h c) (.pointer (some ⟨q', 0, none⟩)) < edge (chain h c) (.pointer (some ⟨q, 0, none⟩))) := ⟨hQ.out.1, l5, l6⟩
      clear hQ l1 l4 l5 l6
      go_wp2
      go_quiet (fail)
      go_wp2
      go_roundw
      case rel => exact ⟨q', rfl, ⟨HN.out.1.heap, HN.out.1.os, HN.out.1.tape, HN.out.1.output⟩, HN.out.2.1⟩
      case measure => exact HN.out.2.2

end Go.Proofs.Qxb6604036a
