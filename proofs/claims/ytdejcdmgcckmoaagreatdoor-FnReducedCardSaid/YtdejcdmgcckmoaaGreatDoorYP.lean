/- The package: closing a set of items. -/
import Derived.Test.YtdejcdmgcckmoaaGreatDoorYO
namespace Go.Proofs.YtdejcdmgcckmoaaGreatDoor
open Go.RowKit Lr

theorem Strs.kp {w w' : World} {B : Nat} {v : Value} {l : List Str} (h : Strs w B v l) (hk : Kp w w') : Strs w' B v l := by
  unfold Strs at *
  refine ⟨h.1, ?_⟩
  rcases h.2 with h | ⟨g, cap, cur, e, hb, hg, r⟩
  · exact .inl h
  · exact .inr ⟨g, cap, cur, e, hb, hk _ _ _ _ hg (.inr rfl), r⟩
theorem _root_.Lr.ClsIn.down {g : Gram} {γ : List Str} {base out : List Itm} {k k' : Nat} (h : ClsIn g γ base out k) (hk : k' ≤ k) : ClsIn g γ base out k' :=
  ⟨h.nodup, h.sub, h.pre, fun i hi j hj => by
    have e : out.take k' = (out.take k).take k' := by rw [List.take_take, Nat.min_eq_left hk]
    rw [e] at hi
    exact h.done i (List.mem_of_mem_take hi) j hj⟩

/-- Closing a set of items of the package. -/
structure CSt (g : Gram) (w0 w wr : World) (γ : List Str) (base : List Itm) (p m1 m2 : Nat) (e1 e2 e3 v : Value) (out : List (Nat × Itm)) (n K : Nat) : Prop where
  st : ISt g w0 wr w.heap.size p m1 m2 (-1) v out n e1 e2 e3
  n : n ≤ out.length
  cls : ClsIn g γ base (out.map (·.2)) K
  kl : K ≤ out.length
  tr : MapF Tryz.prog 9 wr m2 0 (fun _ => none)
  mne : m1 ≠ m2
  new : New w wr
  m2B : w.heap.size ≤ m2
section
variable {g : Gram} {w0 w wr wr' : World} {γ : List Str} {base : List Itm} {p m1 m2 : Nat} {e1 e2 e3 v : Value} {out : List (Nat × Itm)} {n K : Nat}
theorem CSt.mono (h : CSt g w0 w wr γ base p m1 m2 e1 e2 e3 v out n K) (hn : New wr wr') : CSt g w0 w wr' γ base p m1 m2 e1 e2 e3 v out n K :=
  ⟨h.st.new hn, h.n, h.cls, h.kl, h.tr.new hn, h.mne, h.new.trans hn, h.m2B⟩
theorem CSt.down (h : CSt g w0 w wr γ base p m1 m2 e1 e2 e3 v out n K) {K' : Nat} (hk : K' ≤ K) : CSt g w0 w wr γ base p m1 m2 e1 e2 e3 v out n K' :=
  ⟨h.st, h.n, h.cls.down hk, Nat.le_trans hk h.kl, h.tr, h.mne, h.new, h.m2B⟩
theorem CSt.vld (h : CSt g w0 w wr γ base p m1 m2 e1 e2 e3 v out n K) : ∀ x ∈ out, Vld g γ x.2 := fun x hx => h.cls.sub _ (List.mem_map.2 ⟨x, hx, rfl⟩)
theorem CSt.len (hm : Sm g) (h : CSt g w0 w wr γ base p m1 m2 e1 e2 e3 v out n K) : out.length ≤ 3185 := by
  have := items_le hm.len hm.body h.cls.nodup h.cls.sub
  simpa using this
/-- One more item. -/
theorem CSt.add (hm : Sm g) (h : CSt g w0 w wr γ base p m1 m2 e1 e2 e3 v out n K) {v' : Value} {n' : Nat} {x : Nat × Itm} {i : Itm} (hi : i ∈ out.map (·.2)) (hs : Succ g i x.2) (hno : hasI g out x.2 = false)
    (hst : ISt g w0 wr' w.heap.size p m1 m2 (-1) v' ([x].foldl (addI g) out) n' e1 e2 e3) (hn : n' ≤ n + 1) (hf : AFr wr wr' w.heap.size p m1 v out.length v') :
    CSt g w0 w wr' γ base p m1 m2 e1 e2 e3 v' (out ++ [x]) n' K := by
  have e : [x].foldl (addI g) out = out ++ [x] := addI_no hno
  rw [e] at hst
  have hvx : Vld g γ x.2 := (h.cls.sub _ hi).succ hs
  refine ⟨hst, ?_, ?_, ?_, ?_, h.mne, ?_, h.m2B⟩
  · have := h.n; simp; omega
  · rw [List.map_append]
    refine h.cls.add (by rw [List.length_map]; exact h.kl) hi hs fun hin => ?_
    rw [(hasI_iff hm h.vld hvx).2 hin] at hno
    cases hno
  · have := h.kl; simp; omega
  · obtain ⟨es, c, hb⟩ := h.tr.block
    have hb' := (hf.blk m2 (lt_of_block hb) (fun e => by rw [e, h.st.blk] at hb; cases hb) h.mne.symm (ownBlock_ne_map h.st.row h.tr)).trans hb
    obtain ⟨D, ⟨es', c', h1, h2⟩, h3⟩ := h.tr
    rw [hb] at h1
    exact ⟨D, ⟨es', c', hb'.trans h1, h2⟩, h3⟩
  · exact Below.trans h.new hf.below
end
end Go.Proofs.YtdejcdmgcckmoaaGreatDoor
namespace Go.Proofs.YtdejcdmgcckmoaaGreatDoor
open Go.RowKit Lr

theorem row_ptr {w : World} {B e : Nat} {v : Value} {xs : List Value} {n : Nat} (h : w.ownsRow B e 1 v n xs) (h0 : 0 < n) : ∃ gb cap, v = .slice (some ⟨gb, 0, none⟩) n cap ∧ gb < w.heap.size ∧ B ≤ gb ∧ ∀ j u, xs[j]? = some u → w.cell? ⟨gb, j, none⟩ = some u := by
  have hl := h.1
  rcases h.2 with ⟨_, h⟩ | ⟨g, cap, cur, rfl, hb, hg, _⟩
  · omega
  · refine ⟨g, cap, rfl, lt_of_block hg, hb, fun j u hj => ?_⟩
    have := h.cells (g := g) rfl j u hj
    rw [addr_add] at this
    simpa using this

set_option maxRecDepth 20000 in
set_option maxHeartbeats 1000000 in
theorem Closure_any {g : Gram} (hg : GOk g) {w0 w : World} {ps fp : Nat} {prods : Value} (hc : Ctx g w0 ps fp prods) (hn : New w0 w) {B p m1 m2 n1 : Nat} {no : Int} {v : Value} {L : List (Nat × Itm)} (h : ISt g w0 w B p m1 m2 no v L n1 (.pointer (some ⟨ps, 0, none⟩)) prods (.pointer (some ⟨fp, 0, none⟩)))
    {γ : List Str} (hL : Base g γ (L.map (·.2))) (h0 : 0 < L.length) :
    Calls Tryz.prog 149 #[.pointer (some ⟨p, 0, none⟩)] w fun e w' => ∃ p' m1' m2' v' L' n', e = .returned (.pointer (some ⟨p', 0, none⟩)) ∧ CSt g w0 w w' γ (L.map (·.2)) p' m1' m2' (.pointer (some ⟨ps, 0, none⟩)) prods (.pointer (some ⟨fp, 0, none⟩)) v' L' n' L'.length := by
  obtain ⟨gb, cap, rfl, hgl, hgB, hcl⟩ := row_ptr h.row h0
  have c2 := cell_of_blk h.blk 2
  have c4 := cell_of_blk h.blk 4
  have c5 := cell_of_blk h.blk 5
  have c6 := cell_of_blk h.blk 6
  simp only [List.getElem?_toArray, List.getElem?_cons_zero, List.getElem?_cons_succ] at c2 c4 c5 c6
  obtain ⟨a5, k5, rfl, hk5, hpr⟩ := hc.prods
  obtain ⟨pb0, po0, rfl, hpc⟩ := hpr (by simp [augP])
  have HC5 := Lib.hid c5
  have hvl : ∀ x ∈ L, Vld g γ x.2 := fun x hx => (hL.2 _).2 (.base (List.mem_map.2 ⟨x, hx, rfl⟩))
  have hLl : L.length ≤ 3185 := by
    have := items_le hg.toSm.len hg.toSm.body hL.1 (fun j hj => (hL.2 j).2 (.base hj))
    simpa using this
  have hq1 := Lib.hid (Size_any h)
  have hal : (augP g).length ≤ 13 := by have := hg.toSm.len; simp [augP]; omega
  have hlz : ((L.length : Int) == 0) = false := beq_eq_false_iff_ne.2 (by omega)
  have HH := Lib.hid (And.intro h (And.intro hL (And.intro hc (And.intro hn (And.intro hvl (And.intro hcl hpc))))))
  have lp := lt_of_block h.blk
  have hq2 := Lib.hid (NewItemSet_any g w0 w.drew ps fp (some ⟨pb0, po0, none⟩) (augP g).length k5)
  have hnd : New w w.drew := (New.refl w).drewN 1
  have HD := Lib.hid hnd
  clear h hL hc hn hvl hcl hpr hpc hnd
  go_enter Tryz.func149, Tryz.ntmps149
  go_wp2_with (first | (go_at_call 152; refine hq1.out.mono ?_; rintro e w' ⟨rfl, rfl⟩))
  go_still_tail 12, (by kernel_rfl)
  change wpList _ _ _ _ _ (World.drew _)
  go_wp2_with fail
  refine hq2.out.mono ?_
  rintro e w1 ⟨p', m1', m2', v1, rfl, hst1, htr1, hm2B, hmne, hn1⟩
  have hnw1 : New w w1 := HD.out.trans hn1
  have c2 := hnw1.cell c2
  have c5 := hnw1.cell c5
  have hp'B : w.heap.size ≤ p' := hst1.pB
  have hq3 := Lib.hid (AddItem_any (M := L) (gb := gb) (go := 0) (cc := cap) hst1 (fun j hj => by
      rw [Nat.zero_add]
      exact hnw1.cell (HH.out.2.2.2.2.2.1 j _ (by rw [List.getElem?_map, List.getElem?_eq_getElem hj]; rfl))) (by omega)
    (fun e => by have : w.heap.size ≤ gb := (hst1.row.lt gb e).1; omega) (fun x hx => (HH.out.1.its x hx).new hnw1) (fun x hx => itemStr_len hg.toSm (HH.out.2.2.2.2.1 x hx)) (by simp; omega) (by omega) hnw1.size (fun _ => Nat.lt_of_lt_of_le hgl hnw1.size))
  have HT := Lib.hid (And.intro htr1 (And.intro hnw1 (And.intro hmne hst1)))
  clear hst1 htr1 hn1 hnw1 hmne hq2
  go_wp2_with fail
  refine hq3.out.mono ?_
  rintro e w2 ⟨rfl, v2, n2, hst2, hn2, hl2, hfr2⟩
  have hfold : L.foldl (addI g) [] = L := by
    have := foldl_addI hg.toSm (γ := γ) L [] (by simpa using HH.out.2.1.1) (by simpa using HH.out.2.2.2.2.1)
    simpa using this
  rw [hfold] at hst2
  have hcs : CSt g w0 w w2 γ (L.map (·.2)) p' m1' m2' (.pointer (some ⟨ps, 0, none⟩)) (.slice (some ⟨pb0, po0, none⟩) (augP g).length k5) (.pointer (some ⟨fp, 0, none⟩)) v2 L n2 0 := by
    obtain ⟨htr, hnw, hmne, hs⟩ := HT.out
    refine ⟨hst2, by omega, ClsIn.init HH.out.2.1, Nat.zero_le _, ?_, hmne, Below.trans hnw hfr2.below, hm2B⟩
    obtain ⟨es, c, hb⟩ := htr.block
    have hb' := (hfr2.blk m2' (lt_of_block hb) (fun e => by rw [e, hs.blk] at hb; cases hb) hmne.symm (ownBlock_ne_map hs.row htr)).trans hb
    obtain ⟨D, ⟨es', c', h1, h2⟩, h3⟩ := htr
    rw [hb] at h1
    exact ⟨D, ⟨es', c', hb'.trans h1, h2⟩, h3⟩
  clear hst2 hfold hfr2 hl2 hn2 hq3 c2 hm2B
  have HC4 := Lib.hid (And.intro c4 (And.intro HC5.out c6))
  go_wp2_with fail
  clear c4 c5 c6
  go_loopg [3, 4] (3186 - L.length) (fun gk u3 u4 wr => ∃ (k : Nat) (ag : Bool) (v' : Value) (out : List (Nat × Itm)) (n' : Nat), u3 = .int .i64 ((k : Int) - 1) ∧ u4 = .bool ag ∧ gk = (if ag then 3186 - out.length else 0) ∧
    CSt g w0 w wr γ (L.map (·.2)) p' m1' m2' (.pointer (some ⟨ps, 0, none⟩)) (.slice (some ⟨pb0, po0, none⟩) (augP g).length k5) (.pointer (some ⟨fp, 0, none⟩)) v' out n' k ∧ (ag = false → Hid (CSt g w0 w wr γ (L.map (·.2)) p' m1' m2' (.pointer (some ⟨ps, 0, none⟩)) (.slice (some ⟨pb0, po0, none⟩) (augP g).length k5) (.pointer (some ⟨fp, 0, none⟩)) v' out n' out.length)))
  case atStart => exact ⟨0, true, v2, L, n2, rfl, rfl, rfl, hcs, nofun⟩
  case round =>
    clear hcs
    obtain ⟨k, ag, v', out, n', rfl, rfl, rfl, hcs, hag⟩ := hrel
    cases ag with
    | false =>
      have hfin := hag rfl
      clear hag hcs
      go_wp2
      go_ret
      exact ⟨p', rfl, m1', m2', v', out, n', hfin.out⟩
    | true =>
      clear hag
      generalize wr = ws at *
      have hpos : 0 < out.length := by
        have hx : (L[0]'h0).2 ∈ out.map (·.2) := hcs.cls.pre _ (List.mem_map.2 ⟨_, List.getElem_mem h0, rfl⟩)
        have := List.length_pos_of_mem hx
        simpa using this
      obtain ⟨gs, cs, rfl, hgsl, hgsB, hcells⟩ := row_ptr hcs.st.row hpos
      have c2 := cell_of_blk hcs.st.blk 2
      simp only [List.getElem?_toArray, List.getElem?_cons_zero, List.getElem?_cons_succ] at c2
      have hlen1 := hcs.len hg.toSm
      have HC := Lib.hid (And.intro hcs hcells)
      have hsz1 := hcs.new.size
      clear hcs hcells
      go_wp2_with fail
      clear c2
      go_loopg [3, 4, 54] out.length (fun gk u3 u4 u54 wr => ∃ (idx k : Nat) (ag : Bool) (K : Nat) (v' : Value) (out' : List (Nat × Itm)) (n' : Nat), u54 = .int .i64 idx ∧ idx ≤ out.length ∧ gk = out.length - idx ∧ u3 = .int .i64 ((k : Int) - 1) ∧ u4 = .bool ag ∧
        ag = decide (out.length < out'.length) ∧ idx ≤ K ∧ k ≤ K ∧ (K = idx ∨ K = k) ∧ (∃ ext, out' = out ++ ext) ∧ CSt g w0 w wr γ (L.map (·.2)) p' m1' m2' (.pointer (some ⟨ps, 0, none⟩)) (.slice (some ⟨pb0, po0, none⟩) (augP g).length k5) (.pointer (some ⟨fp, 0, none⟩)) v' out' n' K ∧ AFr ws wr w.heap.size p' m1' (.slice (some ⟨gs, 0, none⟩) out.length cs) out.length v')
      case atStart => exact ⟨0, k, false, k, _, out, n', rfl, Nat.zero_le _, rfl, rfl, rfl, by simp, Nat.zero_le _, Nat.le_refl _, .inr rfl, ⟨[], by simp⟩, HC.out.1, AFr.refl _ _ _ _ _ _⟩
      case round =>
        obtain ⟨idx, k, ag, K, v', out', n', rfl, hix, rfl, rfl, rfl, hage, hiK, hkK, hKe, ⟨ext, hext⟩, hcs, hfr⟩ := hrel
        by_cases hlt : idx < out.length
        · have hlt' : idx < out'.length := by rw [hext, List.length_append]; omega
          have hge : out'[idx] = out[idx] := by simp only [hext]; rw [List.getElem_append_left hlt]
          have hblk := HC.out.1.st.blk
          have hmap := HC.out.1.st.imap.choose_spec.1.block
          have hgp : gs ≠ p' := fun e => by
            have h1 := HC.out.1.st.row.2
            rcases h1 with ⟨h1, _⟩ | ⟨g1, c1, cur, h1, _, h2, _⟩
            · cases h1
            · cases h1; rw [e, hblk] at h2; cases h2
          have hgm : gs ≠ m1' := fun e => by
            obtain ⟨es, cl, hmb⟩ := hmap
            have h1 := HC.out.1.st.row.2
            rcases h1 with ⟨h1, _⟩ | ⟨g1, c1, cur, h1, _, h2, _⟩
            · cases h1
            · cases h1; rw [e, hmb] at h2; cases h2
          have d0 : wr.cell? ⟨gs, idx, none⟩ = some (.pointer (some ⟨out[idx].1, 0, none⟩)) := (hfr.cell gs idx hgsl hgp hgm (fun _ => hlt)).trans (HC.out.2 idx _ (by rw [List.getElem?_map, List.getElem?_eq_getElem hlt]; rfl))
          have hmem : out[idx] ∈ out' := by rw [← hge]; exact List.getElem_mem hlt'
          have hit := HC.out.1.st.its _ (List.getElem_mem hlt)
          have hvx := hcs.vld _ hmem
          clear hblk hmap
          by_cases hki : k ≤ idx
          · have hKi : K = idx := by omega
            subst hKi
            have hdk : decide ((k : Int) - 1 < (K : Int)) = true := by simpa using (by omega : (k : Int) - 1 < (K : Int))
            have hgI : (out'.map (·.2))[K]? = some out[K].2 := by rw [List.getElem?_map, List.getElem?_eq_getElem hlt', hge]; rfl
            have HX := Lib.hid (And.intro hcs (And.intro hfr (And.intro hext (And.intro hage (And.intro hgI hmem)))))
            obtain ⟨pr, ⟨rb, arr, hb, hrb, harr⟩, hpp⟩ := hit
            have hnx := hcs.new
            have hkp := hfr.kp
            clear hcs hfr hext hge hmem hage hgI
            generalize out[K].1 = bI at *
            generalize out[K].2 = I at *
            have HB := Lib.hid (And.intro hb (And.intro hrb (And.intro harr hpp)))
            have hb := hkp _ _ _ _ hb (.inl rfl)
            have d3 := cell_of_blk hb 3
            have d4 := cell_of_blk hb 4
            have d5 := cell_of_blk hb 5
            have d6 := cell_of_blk hb 6
            have d7 := cell_of_blk hb 7
            simp only [List.getElem?_toArray, List.getElem?_cons_zero, List.getElem?_cons_succ] at d3 d4 d5 d6 d7
            have c4 := hnx.cell HC4.out.1
            have c5 := hnx.cell HC4.out.2.1
            have c6 := hnx.cell HC4.out.2.2
            have hbl := body_len hg.toSm I.prod
            clear hb hrb harr hpp hkp
            cases hr : I.rest g with
            | nil =>
              have hle : (Lr.body g I.prod).length ≤ I.dot := by
                apply Nat.le_of_not_lt
                intro h
                have : (I.rest g).length = 0 := by rw [hr]; rfl
                unfold Itm.rest at this
                rw [List.length_drop] at this
                omega
              have hdl : decide ((Lr.body g I.prod).length ≤ I.dot) = true := by simpa using hle
              have HR := Lib.hid hr
              clear hr
              go_wp2
              go_quiet (fail)
              have hnq : New wr (wr.drewN nq) := (New.refl wr).drewN nq
              go_wp2
              go_roundg (out.length - (K + 1))
              case measure => omega
              case rel =>
                obtain ⟨hcs, hfr, hext, hage, hgI, hmem⟩ := HX.out
                have hlt2 : K < (out'.map (·.2)).length := by simpa using hlt'
                have hcl := hcs.cls.next hlt2 (fun j hj => by
                  have e : (out'.map (·.2))[K] = I := by
                    have := List.getElem?_eq_getElem hlt2
                    rw [hgI] at this; exact (Option.some.inj this).symm
                  rw [e] at hj
                  obtain ⟨B', δ', n2, b2, c2, h1, _⟩ := hj
                  rw [HR.out] at h1; cases h1)
                have hcs2 : CSt g w0 w (wr.drewN nq) γ (L.map (·.2)) p' m1' m2' (.pointer (some ⟨ps, 0, none⟩)) (.slice (some ⟨pb0, po0, none⟩) (augP g).length k5) (.pointer (some ⟨fp, 0, none⟩)) v' out' n' (K + 1) :=
                  CSt.mono ⟨hcs.st, hcs.n, hcl, hlt', hcs.tr, hcs.mne, hcs.new, hcs.m2B⟩ hnq
                exact ⟨K + 1, k, ag, K + 1, v', out', n', by go_num, by omega, rfl, rfl, rfl, hage, Nat.le_refl _, by omega, .inl rfl, ⟨ext, hext⟩, hcs2, hfr.trans (AFr.new hnq hcs.new.size v' out'.length) (by rw [hext, List.length_append]; omega)⟩
            | cons X δ =>
              obtain ⟨⟨hd, hX⟩, hδ, hlen⟩ := rest_get hr
              have hgd : (Lr.body g I.prod).getD I.dot [] = X := by simp [List.getD, hd, hX]
              rw [hgd] at d5
              rw [hlen] at d3
              have hok := bodyI_ok hg.toSm I.prod X (by rw [← hX]; exact List.getElem_mem hd)
              have hXn := letters_ne hok
              have hXl := symbolOk_le hok
              have hdl : decide ((Lr.body g I.prod).length ≤ I.dot) = false := by simpa using hd
              obtain ⟨B1, a1, a2, a3, r2, r4, r5, ns, hsym⟩ := HH.out.2.2.1.sym
              have hqt : Hid (∀ n, Calls Tryz.prog 100 #[.pointer (some ⟨ps, 0, none⟩), sv X] (wr.drewN n) fun e w' => e = .returned (.bool (!isHead g X)) ∧ w' = wr.drewN n) := Lib.hid fun n => (IsTerminal_any (hsym.new ((HH.out.2.2.2.1.trans hnx).drewN n)) X (by omega)).mono (by
                rintro e w' ⟨h1, h2⟩
                rw [has_heads hXn.1] at h1
                exact ⟨h1, h2.symm⟩)
              have HR := Lib.hid (And.intro hr (And.intro hd (And.intro hX (And.intro hlen hok))))
              clear hr hX hδ hgd hok hXn hsym hlen
              cases hh : isHead g X with
              | false =>
                have HF := Lib.hid hh
                rw [hh] at hqt
                simp only [Bool.not_false] at hqt
                clear hh
                go_wp2
                go_quiet (first | (go_at_call 100; refine Calls.quiet_of_same (hqt.out _)))
                have hnq : New wr (wr.drewN nq) := (New.refl wr).drewN nq
                go_wp2
                go_roundg (out.length - (K + 1))
                case measure => omega
                case rel =>
                  obtain ⟨hcs, hfr, hext, hage, hgI, hmem⟩ := HX.out
                  have hlt2 : K < (out'.map (·.2)).length := by simpa using hlt'
                  have hcl := hcs.cls.next hlt2 (fun j hj => by
                    have e : (out'.map (·.2))[K] = I := by
                      have := List.getElem?_eq_getElem hlt2
                      rw [hgI] at this; exact (Option.some.inj this).symm
                    rw [e] at hj
                    obtain ⟨B', δ', n2, b2, c2, h1, h2, _⟩ := hj
                    rw [HR.out.1] at h1; cases h1
                    have := isHead_iff.2 ⟨b2, List.mem_of_getElem? h2⟩
                    rw [HF.out] at this; cases this)
                  have hcs2 : CSt g w0 w (wr.drewN nq) γ (L.map (·.2)) p' m1' m2' (.pointer (some ⟨ps, 0, none⟩)) (.slice (some ⟨pb0, po0, none⟩) (augP g).length k5) (.pointer (some ⟨fp, 0, none⟩)) v' out' n' (K + 1) :=
                    CSt.mono ⟨hcs.st, hcs.n, hcl, hlt', hcs.tr, hcs.mne, hcs.new, hcs.m2B⟩ hnq
                  exact ⟨K + 1, k, ag, K + 1, v', out', n', by go_num, by omega, rfl, rfl, rfl, hage, Nat.le_refl _, by omega, .inl rfl, ⟨ext, hext⟩, hcs2, hfr.trans (AFr.new hnq hcs.new.size v' out'.length) (by rw [hext, List.length_append]; omega)⟩
              | true =>
                have HF := Lib.hid hh
                rw [hh] at hqt
                simp only [Bool.not_true] at hqt
                clear hh
                go_wp2
                go_quiet (first | (go_at_call 100; refine Calls.quiet_of_same (hqt.out _)))
                have hnq : New wr (wr.drewN nq) := (New.refl wr).drewN nq
                have hs3 : CSt g w0 w (wr.drewN nq) γ (L.map (·.2)) p' m1' m2' (.pointer (some ⟨ps, 0, none⟩)) (.slice (some ⟨pb0, po0, none⟩) (augP g).length k5) (.pointer (some ⟨fp, 0, none⟩)) v' out' n' K := HX.out.1.mono hnq
                have hf3 : AFr ws (wr.drewN nq) w.heap.size p' m1' (.slice (some ⟨gs, 0, none⟩) out.length cs) out.length v' := HX.out.2.1.trans (AFr.new hnq HX.out.1.new.size v' out'.length) (by rw [HX.out.2.2.1, List.length_append]; omega)
                have HX := Lib.hid (And.intro HX.out.2.2 (And.intro hs3 hf3))
                have c5 : (wr.drewN nq).cell? ⟨p, 5, none⟩ = some (.slice (some ⟨pb0, po0, none⟩) (augP g).length k5) := c5
                clear c4 c6 d0 d3 d4 d5 d6 d7 hqt hs3 hf3 hnx hnq
                generalize wr.drewN nq = wt at *
                go_wp2_with fail
                clear c5
                go_loopg [4, 87] (augP g).length (fun gk u4 u87 wr => ∃ (pi : Nat) (ag : Bool) (v' : Value) (out' : List (Nat × Itm)) (n' : Nat), u87 = .int .i64 pi ∧ pi ≤ (augP g).length ∧ gk = (augP g).length - pi ∧ u4 = .bool ag ∧
                  Hid (ag = decide (out.length < out'.length) ∧ (∃ ext, out' = out ++ ext) ∧ (out'.map (·.2))[K]? = some I ∧ (∀ n b c, n + 1 < pi → g[n]? = some (X, b) → Fst g δ I.look c → (⟨some n, 0, c⟩ : Itm) ∈ out'.map (·.2))) ∧
                  CSt g w0 w wr γ (L.map (·.2)) p' m1' m2' (.pointer (some ⟨ps, 0, none⟩)) (.slice (some ⟨pb0, po0, none⟩) (augP g).length k5) (.pointer (some ⟨fp, 0, none⟩)) v' out' n' K ∧ AFr ws wr w.heap.size p' m1' (.slice (some ⟨gs, 0, none⟩) out.length cs) out.length v')
                case atStart => exact ⟨0, ag, v', out', n', rfl, Nat.zero_le _, rfl, rfl, Lib.hid ⟨HX.out.1.2.1, ⟨ext, HX.out.1.1⟩, HX.out.1.2.2.1, fun _ _ _ h => absurd h (Nat.not_lt_zero _)⟩, HX.out.2.1, HX.out.2.2⟩
                case round =>
                  clear HX hlt'
                  obtain ⟨pi, ag, v', out', n', rfl, hpi, rfl, rfl, HQ, hcs, hfr⟩ := hrel
                  by_cases hlp : pi < (augP g).length
                  · obtain ⟨pv, hpv, hpp⟩ := HH.out.2.2.2.2.2.2 pi hlp
                    have hn0 := HH.out.2.2.2.1.trans hcs.new
                    have hpp0 := hpp
                    obtain ⟨pb, q, sa, sc, rfl, e0, _⟩ := hpp
                    have d0 := hn0.cell hpv
                    have d1 := hn0.cell e0
                    have hb := hfr.kp _ _ _ _ HB.out.1 (.inl rfl)
                    have d3 := cell_of_blk hb 3
                    have d4 := cell_of_blk hb 4
                    have d5 := cell_of_blk hb 5
                    have d6 := cell_of_blk hb 6
                    simp only [List.getElem?_toArray, List.getElem?_cons_zero, List.getElem?_cons_succ] at d3 d4 d5 d6
                    have hgd : (Lr.body g I.prod).getD I.dot [] = X := by simp [List.getD, HR.out.2.1, HR.out.2.2.1]
                    rw [hgd] at d5
                    rw [HR.out.2.2.2.1] at d3
                    have HZ := Lib.hid (And.intro hcs (And.intro hfr hpp0))
                    have hnx := hcs.new
                    clear hpv e0 hb hgd hcs hfr hpp0 hn0
                    cases he : ((augP g)[pi].1 == X) with
                    | false =>
                      have hne : (augP g)[pi].1 ≠ X := beq_eq_false_iff_ne.1 he
                      have HE := Lib.hid hne
                      clear hne
                      have HLP := Lib.hid hlp
                      go_wp2
                      go_quiet (fail)
                      have hnq : New wr (wr.drewN nq) := (New.refl wr).drewN nq
                      go_wp2
                      go_roundg ((augP g).length - (pi + 1))
                      case measure => omega
                      case rel =>
                        refine ⟨pi + 1, ag, v', out', n', by go_num, Nat.succ_le_of_lt HLP.out, rfl, rfl, Lib.hid ⟨HQ.out.1, HQ.out.2.1, HQ.out.2.2.1, fun n b c h1 h2 h3 => ?_⟩, HZ.out.1.mono hnq, HZ.out.2.1.trans (AFr.new hnq HZ.out.1.new.size v' out'.length) (by obtain ⟨ext2, h⟩ := HQ.out.2.1; rw [h, List.length_append]; omega)⟩
                        by_cases h : n + 1 < pi
                        · exact HQ.out.2.2.2 n b c h h2 h3
                        · exfalso
                          have e : pi = n + 1 := by omega
                          subst e
                          apply HE.out
                          obtain ⟨hng, eg⟩ := List.getElem?_eq_some_iff.1 h2
                          simp [augP, eg]
                    | true =>
                      have heq : (augP g)[pi].1 = X := eq_of_beq he
                      have hpos' : 0 < pi := by
                        apply Nat.pos_of_ne_zero
                        intro e
                        subst e
                        apply (letters_ne HR.out.2.2.2.2).1
                        rw [← heq]; rfl
                      obtain ⟨n0, hpn⟩ : ∃ n0, pi = n0 + 1 := ⟨pi - 1, by omega⟩
                      obtain ⟨b0, hgn, hap⟩ : ∃ b0, g[n0]? = some (X, b0) ∧ (augP g)[pi] = apOf g (some n0) := by
                        subst hpn
                        have hng : n0 < g.length := by simpa [augP] using hlp
                        refine ⟨g[n0].2, ?_, ?_⟩
                        · rw [List.getElem?_eq_getElem hng]
                          have : g[n0].1 = X := by rw [← heq]; simp [augP]
                          rw [← this]
                        · have h1 := apOf_get (g := g) (q := some n0) (fun n e => by cases e; exact hng)
                          have h2 := List.getElem?_eq_getElem hlp
                          rw [show idxI (some n0) = n0 + 1 from rfl, h2] at h1
                          exact Option.some.inj h1
                      have hpq := HZ.out.2.2
                      rw [hap] at hpq
                      have hb2 := HZ.out.2.1.kp _ _ _ _ HB.out.2.1 (.inr rfl)
                      have hqf := Lib.hid (fun W (hW : New wr W) => itemFirst_any hg (HH.out.2.2.1.new ((HH.out.2.2.2.1.trans hnx).trans hW)) hvx HR.out.1 hgn (o := if δ.length = 0 then 0 else I.dot + 1) (by by_cases h : δ.length = 0 <;> simp [h]) (hW.heap hb2) HB.out.2.2.1)
                      have HG := Lib.hid (And.intro hgn (And.intro hpq hpn))
                      have c6 := hnx.cell HC4.out.2.2
                      clear heq hgn hap hpq hb2 hpos' hnx hpn
                      go_wp2
                      go_quiet (fail)
                      have hnq : New wr (wr.drewN nq).drew := ((New.refl wr).drewN nq).drewN 1
                      have c6 : (wr.drewN nq).cell? ⟨p, 6, none⟩ = some (.pointer (some ⟨fp, 0, none⟩)) := c6
                      have d3 : (wr.drewN nq).cell? ⟨bI, 3, none⟩ = some (.slice (some ⟨rb, 0, none⟩) (I.dot + 1 + δ.length) (I.dot + 1 + δ.length)) := d3
                      have d4 : (wr.drewN nq).cell? ⟨bI, 4, none⟩ = some (.int .i64 I.dot) := d4
                      have d6 : (wr.drewN nq).cell? ⟨bI, 6, none⟩ = some (sv (untold I.look)) := d6
                      have hqf1 := Lib.hid (hqf.out _ hnq)
                      have HNQ := Lib.hid hnq
                      clear d0 d1 d5 hqf hnq he
                      generalize wr.drewN nq = wq at *
                      have hdl4 : I.dot ≤ 4 := by have := HR.out.2.1; omega
                      have hwr : IntKind.i64.wrap ((I.dot : Int) + 1) = (I.dot : Int) + 1 := by rw [IntKind.wrap_i64]; omega
                      have hsl := slice_from rb I.dot δ.length (by omega)
                      generalize (if δ.length = 0 then 0 else I.dot + 1) = oo at *
                      go_wp2
                      go_still_tail 18, (by kernel_rfl)
                      change wpList _ _ _ _ _ (World.drew _)
                      go_wp2_with fail
                      refine hqf1.out.mono ?_
                      rintro e w1 ⟨vR, C, B', rfl, hR, hCn, hC, hCl, hn1⟩
                      have hn2 : New wr w1 := HNQ.out.trans hn1
                      have hcs1 := HZ.out.1.mono hn2
                      have hfr1 := HZ.out.2.1.trans (AFr.new hn2 HZ.out.1.new.size v' out'.length) (by obtain ⟨ext2, h⟩ := HQ.out.2.1; rw [h, List.length_append]; omega)
                      have HC1 := Lib.hid (And.intro hC (And.intro hcs1 hfr1))
                      obtain ⟨aR, cR, rfl⟩ := owns_slice hR
                      have hR1 : Strs w1 B' (.slice aR (C.map untold).length cR) (C.map untold) := hR
                      rw [List.length_map] at hR1
                      clear hqf1 hwr hsl hn1 hn2 hcs1 hfr1 hC hCn d3 d4 d6 c6 hR
                      go_wp2_with fail
                      go_loopg [4, 122] C.length (fun gk u4 u122 wr => ∃ (k4 : Nat) (ag : Bool) (v' : Value) (out' : List (Nat × Itm)) (n' : Nat), u122 = .int .i64 k4 ∧ k4 ≤ C.length ∧ gk = C.length - k4 ∧ u4 = .bool ag ∧
                        Hid (ag = decide (out.length < out'.length) ∧ (∃ ext, out' = out ++ ext) ∧ (out'.map (·.2))[K]? = some I ∧ (∀ n b c, n + 1 < pi → g[n]? = some (X, b) → Fst g δ I.look c → (⟨some n, 0, c⟩ : Itm) ∈ out'.map (·.2)) ∧ ∀ c ∈ C.take k4, (⟨some n0, 0, c⟩ : Itm) ∈ out'.map (·.2)) ∧
                        CSt g w0 w wr γ (L.map (·.2)) p' m1' m2' (.pointer (some ⟨ps, 0, none⟩)) (.slice (some ⟨pb0, po0, none⟩) (augP g).length k5) (.pointer (some ⟨fp, 0, none⟩)) v' out' n' K ∧ AFr ws wr w.heap.size p' m1' (.slice (some ⟨gs, 0, none⟩) out.length cs) out.length v' ∧ Strs wr B' (.slice aR C.length cR) (C.map untold))
                      case atStart => exact ⟨0, ag, v', out', n', rfl, Nat.zero_le _, rfl, rfl, Lib.hid ⟨HQ.out.1, HQ.out.2.1, HQ.out.2.2.1, HQ.out.2.2.2, by simp⟩, HC1.out.2.1, HC1.out.2.2, hR1⟩
                      case round =>
                        clear hR1 HQ HZ HNQ
                        obtain ⟨k4, ag, v', out', n', rfl, hk4, rfl, rfl, HQ, hcs, hfr, hR⟩ := hrel
                        by_cases hlc : k4 < C.length
                        · have hcin : C[k4] ∈ looksU g := fst_looks hvx HR.out.1 HG.out.1 ((HC1.out.1 _).1 (List.getElem_mem hlc))
                          have hvi : Vld g γ ⟨some n0, 0, C[k4]⟩ := Vld.close hvx HR.out.1 HG.out.1 ((HC1.out.1 _).1 (List.getElem_mem hlc))
                          obtain ⟨bR, oR, rfl, d0⟩ := hR.at.elem (k := k4) (by simpa using hlc)
                          rw [List.getElem_map] at d0
                          have hn0 := HH.out.2.2.2.1.trans hcs.new
                          have hq4 : Hid (Calls Tryz.prog 180 #[.int .i64 pi, .pointer (some ⟨pb, 0, none⟩), .int .i64 0, sv (untold C[k4])] wr fun e w' => ∃ p, e = .returned (.pointer (some ⟨p, 0, none⟩)) ∧ wr.heap.size ≤ p ∧ ItAt g w0 w' p ⟨some n0, 0, C[k4]⟩ ∧ New wr w') := by
                            have h1 := NewItem_any hg.toSm (i := ⟨some n0, 0, C[k4]⟩) HG.out.2.1 hn0 (Nat.zero_le _) (look_len hg.toSm hcin)
                            have hpi1 : ((idxI (some n0) : Nat) : Int) = (pi : Int) := by rw [HG.out.2.2]; rfl
                            rw [show (Itm.mk (some n0) 0 C[k4]).prod = some n0 from rfl, hpi1] at h1
                            exact Lib.hid h1
                          have hfi := (HC1.out.1 _).1 (List.getElem_mem hlc)
                          have hsuc : Succ g I ⟨some n0, 0, C[k4]⟩ := ⟨X, δ, n0, b0, C[k4], HR.out.1, HG.out.1, hfi, rfl⟩
                          have HS := Lib.hid (And.intro hcs (And.intro hfr (And.intro hR (And.intro hvi (And.intro hsuc hlc)))))
                          have hszw := hcs.new.size
                          have hlen4 := hcs.len hg.toSm
                          have hnle := hcs.n
                          have htake : C.take (k4 + 1) = C.take k4 ++ [C[k4]] := List.take_succ_eq_append_getElem hlc
                          have HTK := Lib.hid htake
                          clear hcs hfr hR hvi hcin hn0 hfi hsuc htake
                          go_wp2_with fail
                          refine hq4.out.mono ?_
                          rintro e w2 ⟨p2, rfl, hp2, hit2, hn2⟩
                          have hq5 := Lib.hid (Contain_any (HS.out.1.st.new hn2) hit2 (itemStr_len hg.toSm HS.out.2.2.2.1))
                          have H2 := Lib.hid (And.intro hit2 hn2)
                          clear hq4 hit2 hn2 d0
                          generalize hit4 : (Itm.mk (some n0) 0 C[k4]) = it4 at *
                          go_wp2_with fail
                          refine hq5.out.mono ?_
                          rintro e w3 ⟨rfl, hn3⟩
                          have H3 := Lib.hid (H2.out.2.trans hn3)
                          have H3b := Lib.hid hn3
                          clear hn3 hq5
                          cases hh : hasI g out' it4 with
                          | true =>
                            have HI := Lib.hid hh
                            clear hh
                            go_wp2
                            go_roundg (C.length - (k4 + 1))
                            case measure => omega
                            case rel =>
                              obtain ⟨hcs, hfr, hR, hvi, hsuc, hlc⟩ := HS.out
                              refine ⟨k4 + 1, ag, v', out', n', by go_num, Nat.succ_le_of_lt hlc, rfl, rfl, Lib.hid ⟨HQ.out.1, HQ.out.2.1, HQ.out.2.2.1, HQ.out.2.2.2.1, fun c hc => ?_⟩, hcs.mono H3.out, hfr.trans (AFr.new H3.out hcs.new.size v' out'.length) (by obtain ⟨ext2, h⟩ := HQ.out.2.1; rw [h, List.length_append]; omega), hR.kp (Kp.of_new H3.out)⟩
                              rw [HTK.out] at hc
                              rcases List.mem_append.1 hc with hc | hc
                              · exact HQ.out.2.2.2.2 c hc
                              · simp at hc
                                subst hc
                                rw [hit4]
                                exact (hasI_iff hg.toSm hcs.vld hvi).1 HI.out
                          | false =>
                            have HI := Lib.hid hh
                            clear hh
                            have hal3 : New w3 (w3.alloc (.cells #[.pointer (some ⟨p2, 0, none⟩)] 96)) := (New.refl w3).alloc _
                            have hst3 := HS.out.1.st.new (H3.out.trans hal3)
                            have hp3 : p' < w3.heap.size := Nat.lt_of_lt_of_le (lt_of_block HS.out.1.st.blk) H3.out.size
                            have hq6 := Lib.hid (AddItem_any (M := [(p2, it4)]) (gb := w3.heap.size) (go := 0) (cc := 1) hst3 (fun j hj => by
                                have e : j = 0 := by simpa using hj
                                subst e
                                exact cell_of_blk (heap_alloc_new w3 _) 0) (by omega)
                              (fun e => by have := (HS.out.1.st.row.lt _ e).2; have := H3.out.size; omega) (fun x hx => by
                                simp at hx; subst hx
                                exact H2.out.1.new (H3b.out.trans hal3)) (fun x hx => by simp at hx; subst hx; exact itemStr_len hg.toSm HS.out.2.2.2.1) (by simp; omega) (by simp; omega) (by simp; have := H3.out.size; omega) (fun _ => by simp))
                            have H4 := Lib.hid (And.intro hal3 hst3)
                            clear hal3 hst3 hp3
                            go_wp2_with fail
                            refine hq6.out.mono ?_
                            rintro e w5 ⟨rfl, v5, n5, hst5, hn5, hl5, hfr5⟩
                            have H5 := Lib.hid (And.intro hst5 (And.intro (show n5 ≤ n' + 1 from hn5) hfr5))
                            clear hst5 hn5 hl5 hfr5 hq6
                            go_wp2
                            go_roundg (C.length - (k4 + 1))
                            case measure => omega
                            case rel =>
                              obtain ⟨hcs, hfr, hR, hvi, hsuc, hlc⟩ := HS.out
                              obtain ⟨hst5, hn5, hfr5⟩ := H5.out
                              obtain ⟨h1, ⟨ext2, h2⟩, h3, h4, h5⟩ := HQ.out
                              have hna := H3.out.trans H4.out.1
                              have hcs5 := (hcs.mono hna).add hg.toSm (List.mem_of_getElem? h3) (x := (p2, it4)) hsuc HI.out hst5 hn5 hfr5
                              have hle : out.length ≤ out'.length := by rw [h2, List.length_append]; omega
                              have hfr6 := (hfr.trans (AFr.new hna hcs.new.size v' out'.length) hle).trans hfr5 hle
                              refine ⟨k4 + 1, true, v5, out' ++ [(p2, it4)], n5, by go_num, Nat.succ_le_of_lt hlc, rfl, rfl, Lib.hid ⟨?_, ⟨ext2 ++ [(p2, it4)], ?_⟩, ?_, fun n b c e1 e2 e3 => ?_, fun c hc => ?_⟩, hcs5, hfr6, (hR.kp (Kp.of_new hna)).kp hfr5.kp⟩
                              · have : out.length < (out' ++ [(p2, it4)]).length := by rw [List.length_append]; simp; omega
                                simpa using this
                              · rw [h2, List.append_assoc]
                              · rw [List.map_append, List.getElem?_append_left (by obtain ⟨h, _⟩ := List.getElem?_eq_some_iff.1 h3; exact h)]
                                exact h3
                              · rw [List.map_append]
                                exact List.mem_append.2 (.inl (h4 n b c e1 e2 e3))
                              · rw [List.map_append]
                                rw [HTK.out] at hc
                                rcases List.mem_append.1 hc with hc | hc
                                · exact List.mem_append.2 (.inl (h5 c hc))
                                · simp at hc
                                  subst hc
                                  rw [hit4]
                                  exact List.mem_append.2 (.inr (by simp))
                        · have hke : k4 = C.length := by omega
                          have HS := Lib.hid (And.intro hcs (And.intro hfr hke))
                          clear hcs hfr hR
                          go_wp2
                          go_roundg ((augP g).length - (pi + 1))
                          case measure => omega
                          case rel =>
                            obtain ⟨hcs, hfr, hke⟩ := HS.out
                            obtain ⟨h1, h2, h3, h4, h5⟩ := HQ.out
                            refine ⟨pi + 1, ag, v', out', n', by go_num, Nat.succ_le_of_lt hlp, rfl, rfl, Lib.hid ⟨h1, h2, h3, fun n b c e1 e2 e3 => ?_⟩, hcs, hfr⟩
                            by_cases h : n + 1 < pi
                            · exact h4 n b c h e2 e3
                            · have e : n = n0 := by have := HG.out.2.2; omega
                              subst e
                              refine h5 c ?_
                              rw [hke, List.take_length]
                              exact (HC1.out.1 c).2 e3
                  · have HS := Lib.hid (And.intro hcs hfr)
                    have hpe : pi = (augP g).length := by omega
                    have HPE := Lib.hid hpe
                    have HIX := Lib.hid hlt
                    clear hcs hfr hpe
                    go_wp2
                    go_roundg (out.length - (K + 1))
                    case measure => omega
                    case rel =>
                      obtain ⟨hcs, hfr⟩ := HS.out
                      obtain ⟨h1, ⟨ext2, h2⟩, h3, h4⟩ := HQ.out
                      obtain ⟨hlt2, e⟩ := List.getElem?_eq_some_iff.1 h3
                      have hlt3 : K < out'.length := by simpa using hlt2
                      have hcl := hcs.cls.next hlt2 (fun j hj => by
                        rw [e] at hj
                        obtain ⟨B2, δ2, n2, b2, c2, e1, e2, e3, rfl⟩ := hj
                        rw [HR.out.1] at e1
                        cases e1
                        refine h4 n2 b2 c2 ?_ e2 e3
                        have h := (List.getElem?_eq_some_iff.1 e2).1
                        rw [HPE.out]
                        simp [augP]
                        exact h)
                      have hcs2 : CSt g w0 w wr γ (L.map (·.2)) p' m1' m2' (.pointer (some ⟨ps, 0, none⟩)) (.slice (some ⟨pb0, po0, none⟩) (augP g).length k5) (.pointer (some ⟨fp, 0, none⟩)) v' out' n' (K + 1) := ⟨hcs.st, hcs.n, hcl, hlt3, hcs.tr, hcs.mne, hcs.new, hcs.m2B⟩
                      exact ⟨K + 1, K + 1, ag, K + 1, v', out', n', by go_num, Nat.succ_le_of_lt HIX.out, rfl, by congr 1; omega, rfl, h1, Nat.le_refl _, Nat.le_refl _, .inl rfl, ⟨ext2, h2⟩, hcs2, hfr⟩
          · have hdk : decide ((k : Int) - 1 < (idx : Int)) = false := by simpa using (by omega : (idx : Int) ≤ (k : Int) - 1)
            have HX := Lib.hid (And.intro hcs (And.intro hfr (And.intro hext hage)))
            clear hcs hfr hit hvx hage
            go_wp2
            go_roundg (out.length - (idx + 1))
            case measure => omega
            case rel => exact ⟨idx + 1, k, ag, K, v', out', n', by go_num, by omega, rfl, rfl, rfl, HX.out.2.2.2, by omega, hkK, by omega, ⟨ext, HX.out.2.2.1⟩, HX.out.1, HX.out.2.1⟩
        · have hei : idx = out.length := by omega
          subst hei
          have HX := Lib.hid (And.intro hcs (And.intro hfr hext))
          have hll : out'.length = out.length + ext.length := by rw [hext, List.length_append]
          have hl3 := hcs.len hg.toSm
          have hkl := hcs.kl
          have HA := Lib.hid hage
          clear hcs hfr hext hage
          go_wp2
          go_roundg (if ag then 3186 - out'.length else 0)
          case measure =>
            rw [HA.out]
            by_cases h : out.length < out'.length
            · simp [h]; omega
            · simp [h]; omega
          case rel =>
            refine ⟨k, ag, v', out', n', rfl, rfl, rfl, HX.out.1.down hkK, fun e => Lib.hid ?_⟩
            have hage := HA.out
            rw [e] at hage
            have : ¬ out.length < out'.length := by simpa using hage.symm
            have e2 : K = out'.length := by omega
            rw [← e2]
            exact HX.out.1
end Go.Proofs.YtdejcdmgcckmoaaGreatDoor
