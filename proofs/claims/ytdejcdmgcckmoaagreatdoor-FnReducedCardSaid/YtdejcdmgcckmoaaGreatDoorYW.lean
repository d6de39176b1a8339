/- The thin package: its edges and its states. -/
import Derived.Test.YtdejcdmgcckmoaaGreatDoorYV
import Derived.Test.YtdejcdmgcckmoaaGreatDoorYT
import Derived.Test.YtdejcdmgcckmoaaGreatDoorYS
import Derived.Test.YtdejcdmgcckmoaaGreatDoorYJ
namespace Go.Proofs.YtdejcdmgcckmoaaGreatDoor
open Go.RowKit Go.Sort Lr

theorem T36 : SliceTy Tryz.prog 36 64 3 32 (.agg #[.int .i64 0, .string ByteArray.empty, .int .i64 0]) := ⟨Tryz.underlying36, by kernel_rfl, rfl, by omega⟩
theorem symIn_ok {g : Gram} (hm : Sm g) {X : Str} (h : SymIn g X) : symbolOkB X = true := by
  rcases h with rfl | ⟨p, hp, h⟩
  · obtain ⟨p, hp⟩ : ∃ p, g[0]? = some p := ⟨_, List.getElem?_eq_getElem hm.pos⟩
    have : Lr.start g = p.1 := by
      cases g with
      | nil => cases hp
      | cons q g => simp at hp; subst hp; rfl
    rw [this]
    exact (hm.head p (List.mem_of_getElem? hp)).1
  · exact hm.sym p hp X h
theorem TrOk.get {g : Gram} {Γ : List (List Str)} {k : Nat} {D : List Str} {f : Str → Option Value} (h : TrOk g Γ k D f) (hk : k < Γ.length) {X : Str} {u : Value} (hf : f X = some u) : ∃ j : Nat, u = .int .i64 j ∧ EdgeC g Γ k X j := by
  obtain ⟨h1, h2⟩ := h Γ[k] (List.getElem?_eq_getElem hk)
  obtain ⟨h3, h4⟩ := h2 X (by rw [hf]; simp)
  obtain ⟨j, hj, he⟩ := h1 X h3 h4
  rw [hf] at hj
  exact ⟨j, Option.some.inj hj, he⟩
theorem TrOk.has {g : Gram} {Γ : List (List Str)} {k : Nat} {D : List Str} {f : Str → Option Value} (h : TrOk g Γ k D f) (hD : ∀ X, SymIn g X → X ∈ D) {X : Str} {j : Nat} (he : EdgeC g Γ k X j) : (f X).isSome = true := by
  obtain ⟨γ, γ', h1, _, hl, _⟩ := he
  obtain ⟨j, hj, _⟩ := (h γ h1).1 X (hD X hl.sym) hl
  rw [hj]; rfl

set_option maxRecDepth 20000 in
set_option maxHeartbeats 1000000 in
theorem edges_any {g : Gram} (hg : GOk g) {w0 w W : World} {e1 e2 e3 vS : Value} {q : Nat} {R : List Rec} {Γ : List (List Str)} {D : Nat → List Str} (hG : GSt g w0 w W e1 e2 e3 q vS R Γ D) (hR : R.length ≤ 120)
    (hD : ∀ k, k < R.length → (∀ X, SymIn g X → X ∈ D k) ∧ (D k).length ≤ 1000) (v : Value) (h : GramAt W v g) (hd : Bool) :
    Calls Tryz.prog 66 #[v, vS, .bool hd] W fun e w' => ∃ vE E, e = .returned vE ∧ Own3 edg3 64 w' W.heap.size vE E ∧ EdIn g Γ hd R.length E ∧ (E.Pairwise fun x y => cmpEdg x y < 0) ∧ New W w' := by
  obtain ⟨aS, cS, rfl⟩ := owns_slice hG.row
  have HG := Lib.hid (And.intro hG (And.intro hD (And.intro h hG.len)))
  obtain ⟨a, cap, rfl⟩ := h.slice
  clear hG hD h
  go_enter Tryz.func66, Tryz.ntmps66
  go_wp2
  go_loopg [7, 14] R.length (fun gk u7 u14 wr => ∃ (k : Nat) (E : List Edg), k ≤ R.length ∧ gk = R.length - k ∧ u14 = .int .i64 k ∧ Own3 edg3 64 wr W.heap.size u7 E ∧ E.length ≤ k * 1000 ∧ Hid (EdIn g Γ hd k E) ∧ New W wr)
  case atStart => exact ⟨0, [], Nat.zero_le _, rfl, rfl, Own3.nil, by simp, Lib.hid EdIn.init, New.refl _⟩
  case round =>
    obtain ⟨k, E, hk, rfl, rfl, hown, hEl, hE, hn⟩ := hrel
    by_cases hlt : k < R.length
    · obtain ⟨gb, cb, e, hgb, hgB, hcell⟩ := row_ptr HG.out.1.row (by omega)
      cases e
      have hrow := hn.cell (hcell k (.pointer (some ⟨R[k].p, 0, none⟩)) (by simp [hlt]))
      have hst := (HG.out.1.recs k hlt).st
      have hc3 := hn.cell ((cell_of_blk hst.blk 3).trans (show (#[_, _, _, _, _, _, _] : Array Value)[3]? = some (.map (some R[k].m2)) from rfl))
      obtain ⟨n, f, hmf, hnf, htr⟩ := HG.out.1.tr k hlt
      have hkΓ : k < Γ.length := by rw [← HG.out.2.2.2]; exact hlt
      have hn1000 : n ≤ 1000 := Nat.le_trans hnf (HG.out.2.1 k hlt).2
      have hmv : MapV Tryz.prog 9 wr (.map (some R[k].m2)) n f := .inr ⟨_, rfl, hmf.new hn⟩
      have hmlt : R[k].m2 < W.heap.size := hmf.lt
      have HT := Lib.hid (And.intro htr (And.intro hkΓ (And.intro hmv hmlt)))
      have hsz := hn.size
      have HO := Lib.hid (And.intro hown hn)
      clear hcell hst hmf hnf htr hkΓ hmv hmlt hgb hgB hown hn
      generalize R[k].m2 = m2 at *
      generalize R[k].p = pk at *
      go_wp2_with (first | (at_range; refine wpList_vrange _ rfl _ 91 3 rfl Tryz.underlying9 Tryz.underlying91 (.map (some m2)) n f rfl HT.out.2.2.1 ?_; intro w5 cnt0 hrg0 hg0))
      have hsz5 : wr.heap.size < w5.heap.size := hrg0.lt
      have hn5 : New wr w5 := ⟨hg0.os, hg0.tape, hg0.output, hg0.size, fun k hk => hg0.block k hk (by simp)⟩
      have hmid := hE.out.mid (L := fun s => (f s).isSome) fun X j he => HT.out.1.has (HG.out.2.1 k hlt).1 he
      have hown5 := ownsRow_new HO.out.1 hn5
      have hne5 : u7.ownBlock ≠ some wr.heap.size := fun e => by have := (HO.out.1.lt _ e).2; omega
      have H5 := Lib.hid (And.intro hmid (And.intro hown5 (And.intro hne5 (HO.out.2.trans hn5))))
      clear hmid hown5 hne5 hn5 hg0 hc3 hrow
      have HO := Lib.hid HO.out.2
      generalize wr.heap.size = r0 at *
      go_frame
      go_loopg [7] n (fun gj u7 wr => ∃ (cnt : Nat) (L : Str → Bool) (E' : List Edg), RangeV Tryz.prog 9 wr (.map (some m2)) r0 n f L cnt ∧ cnt ≤ gj ∧ Own3 edg3 64 wr W.heap.size u7 E' ∧ Hid (u7.ownBlock ≠ some r0) ∧ E'.length + cnt ≤ k * 1000 + n ∧ Hid (EdMid g Γ hd k L E') ∧ New W wr)
      case atStart => exact ⟨cnt0, _, E, hrg0, hrg0.cnt_le, H5.out.2.1, Lib.hid H5.out.2.2.1, by have := hrg0.cnt_le; omega, Lib.hid H5.out.1, H5.out.2.2.2⟩
      case round =>
        clear hrg0
        obtain ⟨cnt, L, E', hrg, hc, hown, hne, hll, hM, hn⟩ := hrel
        go_wp2_with (first | (at_next; refine wpList_vnext _ rfl _ rfl Tryz.underlying9 (.map (some m2)) r0 n f L cnt rfl hrg ?_ ?_))
        · intro hl
          have hend := Lib.hid (hM.out.end hl)
          clear hl
          go_wp2
          go_roundg (R.length - (k + 1))
          case measure => omega
          case rel => exact ⟨k + 1, E', by omega, rfl, by go_num, hown, by omega, hend, hn⟩
        · intro s u w6 cnt6 hsl hLs hfs hrg6 hlt6 hg6 hsz6 hent
          obtain ⟨j, rfl, he⟩ := HT.out.1.get HT.out.2.1 hfs
          have hsok := symIn_ok hg.toSm (by obtain ⟨_, _, _, _, hl, _⟩ := he; exact hl.sym : SymIn g s)
          have hs4 : s.length ≤ 4 := symbolOk_le hsok
          have htold := told_any s
          rw [told_small (.inr hsok)] at htold
          have HTO := Lib.hid htold
          have hown6 := World.ownsRow.kept hown hg6 (.inr hne.out)
          have hr0 : r0 < w6.heap.size := by rw [hsz6]; exact hrg.lt
          clear hsz6
          have hn6 : New W w6 := Below.grown hn hg6 hn.size (fun k hk => by injection hk with hk; omega)
          have HE := Lib.hid (And.intro he (And.intro hLs hn6))
          have hgr6 := Lib.hid (fun W' (hW : New w6 W') => implHead_any _ g s W' (HG.out.2.2.1.new (hn6.trans hW)) (by have := hg.toSm.len; omega))
          have hownW := Lib.hid (fun W' (hW : New w6 W') => ownsRow_new hown6 hW)
          clear hsok htold hown hg6 hrg hn hfs hLs he hown6 hn6
          have hmB : ∀ b : Nat, (Value.map (some m2)) = .map (some b) → b < W.heap.size := fun b e => by injection e with e; injection e with e; rw [← e]; exact HT.out.2.2.2
          have HMB := Lib.hid hmB
          clear hmB
          by_cases hsk : hd = true ∧ isHead g s = false
          · obtain ⟨rfl, hh⟩ := hsk
            rw [hh] at hgr6
            have hM7 := Lib.hid (hM.out.skip (X := s) fun hx => by have := hx.2 rfl; rw [hh] at this; cases this)
            clear hh
            go_wp2_with (go_at_call 56; refine (hgr6.out _ (New.refl _)).mono ?_; rintro e w7 ⟨rfl, hn7⟩)
            have hrg7 : RangeV Tryz.prog 9 w7 (.map (some m2)) r0 n f (fun t => L t && !decide (t = s)) cnt6 :=
              hrg6.same (hn7.block _ (by omega)) (fun b e => hn7.block _ (by have := HMB.out b e; have := HE.out.2.2.size; omega))
            have hown7 := hownW.out _ hn7
            have hnW := HE.out.2.2.trans hn7
            go_roundg cnt6
            case measure => omega
            case rel => exact ⟨cnt6, _, _, hrg7, Nat.le_refl _, hown7, hne, by omega, hM7, hnW⟩
          · have hcase : hd = false ∨ (hd = true ∧ isHead g s = true) := by
              cases hd with
              | false => exact .inl rfl
              | true => cases hx : isHead g s with
                | true => exact .inr ⟨rfl, rfl⟩
                | false => exact absurd ⟨rfl, hx⟩ hsk
            have hM7 := Lib.hid (hM.out.add (HG.out.1.gam) HE.out.2.1 HE.out.1 fun e => by rcases hcase with h | h; rw [h] at e; cases e; exact h.2)
            clear hsk
            have hsz0 := HE.out.2.2.size
            rcases hcase with rfl | ⟨rfl, hh⟩
            · go_wp2_with (first | (go_at_call 52; refine (HTO.out _).mono ?_; rintro e w' ⟨rfl, rfl⟩) | (at_builtin; go_must (refine wpList_push _ rfl _ _ _ _ rfl T36 W.heap.size _ _ _ rfl (hownW.out _ (New.refl _)) [_, _, _] rfl rfl _ _ rfl (by simp) (by omega) (by omega) (by omega) ?_)))
              intro v' w8 hown8 hgrow hne8 hat
              have hown6 := hownW.out _ (New.refl _)
              have hn8 : New W w8 := Below.push HE.out.2.2 hown6 hgrow HE.out.2.2.size
              have hrg8 : RangeV Tryz.prog 9 w8 (.map (some m2)) r0 n f (fun t => L t && !decide (t = s)) cnt6 :=
                hrg6.same (hgrow.block _ (by omega) (fun e => hne.out e.symm)) (fun b e => hgrow.block _ (by have := HMB.out b e; omega) (fun e2 => by have := (hown6.lt _ e2.symm).1; have := HMB.out b e; omega))
              have hnev : v'.ownBlock ≠ some r0 := by
                rcases hat with e | ⟨b, e, hb⟩
                · rw [e]; exact hne.out
                · rw [e]; intro e2; injection e2 with e2; omega
              have HX := Lib.hid (And.intro hn8 (And.intro hrg8 (And.intro hnev (Own3.push (e := edg3) (x := (k, s, j)) hown8))))
              obtain ⟨a10, c10, rfl⟩ := owns_slice hown8
              clear hn8 hrg8 hgrow hne8 hat hown8 hown6 hnev
              go_wp2
              go_roundg cnt6
              case measure => omega
              case rel => exact ⟨cnt6, _, _, HX.out.2.1, Nat.le_refl _, HX.out.2.2.2, Lib.hid HX.out.2.2.1, by simp; omega, hM7, HX.out.1⟩
            · rw [hh] at hgr6
              clear hh
              go_wp2_with (first | (go_at_call 56; refine (hgr6.out _ (New.refl _)).mono ?_; rintro e w7 ⟨rfl, hn7⟩) | (go_at_call 52; refine (HTO.out _).mono ?_; rintro e w' ⟨rfl, rfl⟩) | (at_builtin; go_must (refine wpList_push _ rfl _ _ _ _ rfl T36 W.heap.size _ _ _ rfl (hownW.out _ hn7) [_, _, _] rfl rfl _ _ rfl (by simp) (by omega) (by omega) (by have := hn7.size; omega) ?_)))
              intro v' w8 hown8 hgrow hne8 hat
              have hown6 := hownW.out _ hn7
              have hsz7 := hn7.size
              have hn8 : New W w8 := Below.push (HE.out.2.2.trans hn7) hown6 hgrow (HE.out.2.2.trans hn7).size
              have hrg8 : RangeV Tryz.prog 9 w8 (.map (some m2)) r0 n f (fun t => L t && !decide (t = s)) cnt6 :=
                hrg6.same ((hgrow.block _ (by omega) (fun e => hne.out e.symm)).trans (hn7.block _ (by omega))) (fun b e => (hgrow.block _ (by have := HMB.out b e; omega) (fun e2 => by have := (hown6.lt _ e2.symm).1; have := HMB.out b e; omega)).trans (hn7.block _ (by have := HMB.out b e; omega)))
              have hnev : v'.ownBlock ≠ some r0 := by
                rcases hat with e | ⟨b, e, hb⟩
                · rw [e]; exact hne.out
                · rw [e]; intro e2; injection e2 with e2; omega
              have HX := Lib.hid (And.intro hn8 (And.intro hrg8 (And.intro hnev (Own3.push (e := edg3) (x := (k, s, j)) hown8))))
              obtain ⟨a10, c10, rfl⟩ := owns_slice hown8
              clear hn8 hrg8 hgrow hne8 hat hown8 hown6 hnev
              go_wp2
              go_roundg cnt6
              case measure => omega
              case rel => exact ⟨cnt6, _, _, HX.out.2.1, Nat.le_refl _, HX.out.2.2.2, Lib.hid HX.out.2.2.1, by simp; omega, hM7, HX.out.1⟩
    · go_wp2_with fail
      refine (SortEdg hown hE.out.nodup (by omega)).mono ?_
      rintro e w2 ⟨rfl, E', hp, hs, hown2, hg2⟩
      obtain rfl : k = R.length := by omega
      have hE2 : EdIn g Γ hd R.length E' := ⟨hp.nodup_iff.2 hE.out.nodup, fun x => (hp.mem_iff).trans (hE.out.mem x)⟩
      have HF := Lib.hid (And.intro hown2 (And.intro hE2 (And.intro hs (Below.push hn hown hg2 hn.size : New W w2))))
      obtain ⟨a2, c2, rfl⟩ := owns_slice hown2
      clear hown2 hE2 hs hn hown hg2 hp hE
      go_wp2
      go_ret
      exact ⟨_, E', rfl, HF.out⟩
end Go.Proofs.YtdejcdmgcckmoaaGreatDoor
namespace Go.Proofs.YtdejcdmgcckmoaaGreatDoor
open Go.RowKit Go.Sort Lr

theorem T35 : SliceTy Tryz.prog 35 53 1 24 (.slice none 0 0) := ⟨Tryz.underlying35, by kernel_rfl, rfl, by omega⟩
theorem T53 : SliceTy Tryz.prog 53 101 3 32 (.agg #[.int .i64 0, .int .i64 0, .string ByteArray.empty]) := ⟨Tryz.underlying53, by kernel_rfl, rfl, by omega⟩
/-- The rows of the first k states are told; the others are empty. -/
structure StRd (g : Gram) (Γ : List (List Str)) (k : Nat) (Ms : List (List Itm)) : Prop where
  len : Ms.length = Γ.length
  done : ∀ t γ l, t < k → Γ[t]? = some γ → Ms[t]? = some l → (∀ i, i ∈ l ↔ Vld g γ i) ∧ l.Pairwise fun x y => cmpItm x y < 0
  rest : ∀ t, k ≤ t → t < Γ.length → Ms[t]? = some []
theorem StRd.init {g : Gram} {Γ : List (List Str)} : StRd g Γ 0 (List.replicate Γ.length []) :=
  ⟨by simp, fun t γ l h => by omega, fun t _ h => by rw [List.getElem?_replicate, if_pos h]⟩
theorem StRd.next {g : Gram} {Γ : List (List Str)} {k : Nat} {Ms : List (List Itm)} (h : StRd g Γ k Ms) {γ : List Str} (hk : Γ[k]? = some γ) {l : List Itm} (hl : (∀ i, i ∈ l ↔ Vld g γ i) ∧ l.Pairwise fun x y => cmpItm x y < 0) : StRd g Γ (k + 1) (Ms.set k l) := by
  have hkl := (List.getElem?_eq_some_iff.1 hk).1
  refine ⟨by rw [List.length_set]; exact h.len, fun t δ m ht h1 h2 => ?_, fun t ht htl => ?_⟩
  · by_cases e : t = k
    · subst e
      rw [List.getElem?_set_self (by rw [h.len]; exact hkl)] at h2
      rw [hk] at h1
      cases h1; cases h2
      exact hl
    · rw [List.getElem?_set_ne (fun h => e h.symm)] at h2
      exact h.done t δ m (by omega) h1 h2
  · rw [List.getElem?_set_ne (by omega)]
    exact h.rest t (by omega) htl
theorem idx_prod (q : Option Nat) : ((idxI q : Nat) : Int) - 1 = prodI q := by cases q <;> simp [idxI, prodI]
theorem toldS_untold {g : Gram} (hm : Sm g) {c : Str} (h : c ∈ looksU g) : toldS (untold c) = c := by
  unfold untold
  by_cases e : c = endS
  · rw [if_pos e, e]; decide
  · rw [if_neg e]
    rcases List.mem_cons.1 h with h | h
    · exact absurd h e
    · obtain ⟨p, hp, h⟩ := List.mem_flatMap.1 h
      exact told_small (.inr (hm.sym p hp c h))

set_option maxRecDepth 20000 in
set_option maxHeartbeats 1000000 in
theorem States_any {g : Gram} (hg : GOk g) (hfew : Few g 120) (v : Value) (w : World) (h : GramAt w v g) :
    Calls Tryz.prog 22 #[v] w fun e w' => ∃ vL vE c a E, e = .returned (.tuple #[vL, vE, .bool true]) ∧ DoneC g (symsG g) c ∧ Lr.Told g (collC g (symsG g) c) a E ∧ MatI w' vL a ∧ EdgsAt w' vE E ∧ (∀ l ∈ a, l.Pairwise fun x y => cmpItm x y < 0) ∧ (E.Pairwise fun x y => cmpEdg x y < 0) ∧ New w w' := by
  have hm := hg.toSm
  have hq := Lib.hid (right_any v g w h hm)
  have HH := Lib.hid h
  obtain ⟨a, cap, rfl⟩ := h.slice
  clear h
  go_enter Tryz.func22, Tryz.ntmps22
  go_wp2_with fail
  refine hq.out.mono ?_
  rintro e w1 ⟨rfl, hn1⟩
  have hq2 := Lib.hid (sets_any hg hfew _ w1 (HH.out.new hn1))
  clear hq
  go_wp2_with fail
  refine hq2.out.mono ?_
  rintro e w2 ⟨wb, e1, e2, e3, q, vS, R, c, rfl, hnb, hG, hd⟩
  clear hq2
  have hRl : R.length ≤ 120 := by rw [hG.len]; exact hfew.le hG.gam
  have hDk : ∀ k, k < R.length → (∀ X, SymIn g X → X ∈ Dcs g c 0 k) ∧ (Dcs g c 0 k).length ≤ 1000 := fun k hk => by
    have hkc : k < c := by rw [hG.len] at hk; unfold DoneC at hd; omega
    rw [Dcs_zero]
    simp only [if_pos hkc]
    exact ⟨fun X hX => symsG_all hX, types_len hm⟩
  have hnw2 : New w w2 := (hn1.trans hnb).trans hG.new
  have HG := Lib.hid (And.intro hG (And.intro hd (And.intro hDk (And.intro hnw2 (HH.out.new hnw2)))))
  have hlen : R.length = (collC g (symsG g) c).length := hG.len
  have HLEN := Lib.hid hlen
  obtain ⟨aS, cS, rfl⟩ := owns_slice hG.row
  have hmk := make_one T35 rfl R.length (by omega) (by omega) w2
  clear hG hd hDk hnw2 hnb hn1 hlen
  go_wp2_with fail
  clear hmk
  have hMat0 : Mat3V itm3 101 53 (w2.alloc (.cells (Array.replicate R.length (.slice none 0 0)) 53)) w2.heap.size w2.heap.size _ (List.replicate R.length []) := Mat3V.made
  have hn3 : New w2 (w2.alloc (.cells (Array.replicate R.length (.slice none 0 0)) 53)) := (New.refl w2).alloc _
  have hst0 : StRd g (collC g (symsG g) c) 0 (List.replicate R.length []) := by rw [HLEN.out]; exact StRd.init
  have H0 := Lib.hid (And.intro hMat0 (And.intro hst0 hn3))
  clear hMat0 hn3 hst0
  obtain ⟨Γ, hΓ⟩ : ∃ Γ, Γ = collC g (symsG g) c := ⟨_, rfl⟩
  have HΓ := Lib.hid hΓ
  rw [← hΓ] at HG H0 HLEN
  clear hΓ
  go_loopg [21] R.length (fun gk u21 wr => ∃ (k : Nat) (vs : List Value) (Ms : List (List Itm)), k ≤ R.length ∧ gk = R.length - k ∧ u21 = .int .i64 k ∧ Mat3V itm3 101 53 wr w2.heap.size w2.heap.size vs Ms ∧ Hid (StRd g Γ k Ms) ∧ New w2 wr)
  case atStart => exact ⟨0, _, _, Nat.zero_le _, rfl, rfl, H0.out.1, Lib.hid H0.out.2.1, H0.out.2.2⟩
  case round =>
    obtain ⟨k, vs, Ms, hk, rfl, rfl, hM, hS, hn⟩ := hrel
    by_cases hlt : k < R.length
    · obtain ⟨gb, cb, e, hgb, hgB, hcell⟩ := row_ptr HG.out.1.row (by omega)
      cases e
      have hrow := hn.cell (hcell k (.pointer (some ⟨R[k].p, 0, none⟩)) (by simp [hlt]))
      have hrec := HG.out.1.recs k hlt
      have hst := hrec.st
      have hc2 := hn.cell ((cell_of_blk hst.blk 2).trans (show (#[_, _, _, _, _, _, _] : Array Value)[2]? = some R[k].v from rfl))
      have hIr := hst.row
      have hkΓ : k < Γ.length := by rw [← HLEN.out]; exact hlt
      have HR := Lib.hid (And.intro hrec hkΓ)
      obtain ⟨aI, cI, eI⟩ := owns_slice hIr
      rw [eI] at hc2
      have HI := Lib.hid eI
      have hLl : R[k].L.length ≤ 100000 := by
        have h1 := items_le hm.len hm.body hrec.nd (fun i hi => (hrec.all i).1 hi)
        rw [List.length_map] at h1
        omega
      have hM0 := hS.out.rest k (Nat.le_refl _) hkΓ
      have HM := Lib.hid (And.intro hM (And.intro hM0 hn))
      clear hcell hrec hst hkΓ hIr hM0 hgb hgB eI
      go_wp2_with fail
      obtain ⟨wo, hwo⟩ : ∃ wo : World, wo = wr := ⟨_, rfl⟩
      have HWO := Lib.hid hwo
      clear hwo hn hM
      go_loopg [31] R[k].L.length (fun gj u31 wr => ∃ (j : Nat) (vs' : List Value), j ≤ R[k].L.length ∧ gj = R[k].L.length - j ∧ u31 = .int .i64 j ∧ Mat3V itm3 101 53 wr w2.heap.size w2.heap.size vs' (Ms.set k ((R[k].L.take j).map (·.2))) ∧ New w2 wr)
      case atStart =>
        refine ⟨0, vs, Nat.zero_le _, rfl, rfl, ?_, HM.out.2.2⟩
        have e : Ms.set k (([] : List (Nat × Itm)).map (·.2)) = Ms := by
          apply List.ext_getElem?
          intro t
          by_cases ht : t = k
          · subst ht; rw [List.getElem?_set_self (List.getElem?_eq_some_iff.1 HM.out.2.1).1, HM.out.2.1]; rfl
          · rw [List.getElem?_set_ne (fun h => ht h.symm)]
        rw [List.take_zero, e]
        exact HM.out.1
      case round =>
        clear hrow hc2
        obtain ⟨j, vs', hj, rfl, rfl, hM, hn⟩ := hrel
        have hkM : k < Ms.length := by rw [hS.out.len]; exact HR.out.2
        by_cases hjl : j < R[k].L.length
        · have hIr := HR.out.1.st.row
          rw [HI.out] at hIr
          obtain ⟨ib, cib, e, hib, hiB, hcI⟩ := row_ptr hIr (by omega)
          cases e
          have hrI := hn.cell (hcI j (.pointer (some ⟨R[k].L[j].1, 0, none⟩)) (by simp [hjl]))
          obtain ⟨pr, ⟨rb, arr, hb1, _, _⟩, _⟩ := HR.out.1.st.its _ (List.getElem_mem hjl)
          have d0 := hn.cell ((cell_of_blk hb1 0).trans (show (#[_, _, _, _, _, _, _, _, _] : Array Value)[0]? = some (.int .i64 (idxI R[k].L[j].2.prod : Nat)) from rfl))
          have d4 := hn.cell ((cell_of_blk hb1 4).trans (show (#[_, _, _, _, _, _, _, _, _] : Array Value)[4]? = some (.int .i64 R[k].L[j].2.dot) from rfl))
          have d6 := hn.cell ((cell_of_blk hb1 6).trans (show (#[_, _, _, _, _, _, _, _, _] : Array Value)[6]? = some (sv (untold R[k].L[j].2.look)) from rfl))
          have hvld : Vld g _ R[k].L[j].2 := (HR.out.1.all _).1 (List.mem_map.2 ⟨_, List.getElem_mem hjl, rfl⟩)
          have htd := told_any (untold R[k].L[j].2.look)
          rw [toldS_untold hm hvld.look] at htd
          have htd2 : ∀ W : World, Calls Tryz.prog 52 #[sv (untold R[k].L[j].2.look)] W fun e w' => e = .returned (sv R[k].L[j].2.look) ∧ w' = W := fun W => (htd W).mono fun _ _ h => ⟨h.1, h.2.symm⟩
          have HTD := Lib.hid htd2
          clear htd2
          have k1 : IntKind.i64.wrap (((idxI R[k].L[j].2.prod : Nat) : Int) - 1) = prodI R[k].L[j].2.prod := by
            rw [idx_prod, IntKind.wrap_i64]
            have h1 := prodI_ge R[k].L[j].2.prod
            have h2 : prodI R[k].L[j].2.prod ≤ 12 := by
              cases hp : R[k].L[j].2.prod with
              | none => simp [prodI]
              | some n => have := hvld.lt hp; have := hm.len; simp only [prodI]; omega
            omega
          obtain ⟨vk, hvk⟩ : ∃ vk, vs'[k]? = some vk := ⟨_, List.getElem?_eq_getElem (by rw [hM.len, List.length_set]; exact hkM)⟩
          have hMk : (Ms.set k ((R[k].L.take j).map (·.2)))[k]? = some ((R[k].L.take j).map (·.2)) := List.getElem?_set_self hkM
          have hrow := hM.row k vk _ hvk hMk
          have c1 := cell_of_blk hM.blk k
          have e1 : vs'.toArray[k]? = some vk := by simpa using hvk
          rw [e1] at c1
          have f1 := free_of_blk hM.blk k
          have hmb := lt_of_block hM.blk
          obtain ⟨ak, ck, eak⟩ := owns_slice hrow
          subst eak
          have hplt := lt_of_cell d0
          have hmbne : R[k].L[j].1 ≠ w2.heap.size := fun e => by have := lt_of_block hb1; omega
          have htl : ((R[k].L.take j).map (·.2)).length ≤ 100000 := by simp; omega
          have HX := Lib.hid (And.intro hM (And.intro hvk (And.intro hMk (And.intro hrow (And.intro hn hjl)))))
          have hsz := hn.size
          have HHM := Lib.hid (lt_of_block hb1)
          clear hM hvk hMk e1 hn htd hvld hb1 hIr hcI hib hiB hm
          generalize hx : R[k].L[j] = x at *
          generalize hLk : (R[k].L.take j).map (·.2) = Lk at *
          have HE := Lib.hid (And.intro hx hLk)
          clear hx hLk
          obtain ⟨ib2, it⟩ := x
          obtain ⟨ip, idt, ilk⟩ := it
          simp only at *
          generalize ((idxI ip : Nat) : Int) = z at *
          generalize untold ilk = ulk at *
          have hpne : some w2.heap.size ≠ (Value.slice ak Lk.length ck).ownBlock := fun e => ownBlock_ne hrow HX.out.1.blk (by decide) e.symm
          have hpne2 : some ib2 ≠ (Value.slice ak Lk.length ck).ownBlock := fun e => by have := (hrow.lt ib2 e.symm).1; have := HHM.out; omega
          have hA1 := (World.cell?_of_block (Below.heap_alloc wr (.cells #[.int .i64 (prodI ip), .int .i64 idt, sv ilk] 101) w2.heap.size hmb) (a := ⟨w2.heap.size, k, none⟩)).trans c1
          have hA3 := (World.frozen?_of_block (Below.heap_alloc wr (.cells #[.int .i64 (prodI ip), .int .i64 idt, sv ilk] 101) w2.heap.size hmb) (a := ⟨w2.heap.size, k, none⟩)).trans f1
          have hB0 := (World.cell?_of_block (Below.heap_alloc wr (.cells #[.int .i64 (prodI ip), .int .i64 idt, sv ilk] 101) ib2 hplt) (a := ⟨ib2, 0, none⟩)).trans d0
          have hB4 := (World.cell?_of_block (Below.heap_alloc wr (.cells #[.int .i64 (prodI ip), .int .i64 idt, sv ilk] 101) ib2 hplt) (a := ⟨ib2, 4, none⟩)).trans d4
          have hB6 := (World.cell?_of_block (Below.heap_alloc wr (.cells #[.int .i64 (prodI ip), .int .i64 idt, sv ilk] 101) ib2 hplt) (a := ⟨ib2, 6, none⟩)).trans d6
          have HA := Lib.hid (And.intro hA1 (And.intro hA3 (And.intro hB0 (And.intro hB4 hB6))))
          clear hB0 hB4 hB6
          have hfin : ∀ (w1 : World) (v' : Value), w1.ownsRow w2.heap.size 101 3 v' (Lk.length + 1) (Lk.flatMap (enc3 itm3) ++ [.int .i64 (prodI ip), .int .i64 idt, sv ilk]) → (wr.alloc (.cells #[.int .i64 (prodI ip), .int .i64 idt, sv ilk] 101)).grownBy w1 (Value.slice ak Lk.length ck).ownBlock → (v'.ownBlock = (Value.slice ak Lk.length ck).ownBlock ∨ ∃ b, v'.ownBlock = some b ∧ (wr.alloc (.cells #[.int .i64 (prodI ip), .int .i64 idt, sv ilk] 101)).heap.size ≤ b) →
              Mat3V itm3 101 53 (w1.setCell ⟨w2.heap.size, k, none⟩ v') w2.heap.size w2.heap.size (vs'.set k v') (Ms.set k ((R[k].L.take (j + 1)).map (·.2))) ∧ New w2 (w1.setCell ⟨w2.heap.size, k, none⟩ v') := fun w1 v' hown1 hg0 hat0 => by
            have hg := (World.grownBy_alloc wr _ _).trans hg0
            have hat := hat0.imp id fun ⟨b, e, hb⟩ => (⟨b, e, Nat.le_trans (by simp) hb⟩ : ∃ b, v'.ownBlock = some b ∧ wr.heap.size ≤ b)
            obtain ⟨hM, hvk, hMk, hrow', hn, hjl⟩ := HX.out
            have hown2 := Own3.push (e := itm3) (x := (⟨ip, idt, ilk⟩ : Itm)) hown1
            have hM2 := hM.push (by decide) hvk hMk (v' := v') hown2 hg hat
            rw [List.set_set] at hM2
            have e1 : (R[k].L.take (j + 1)).map (·.2) = Lk ++ [(⟨ip, idt, ilk⟩ : Itm)] := by
              rw [List.take_succ_eq_append_getElem hjl, List.map_append, HE.out.2, HE.out.1]; rfl
            rw [e1]
            exact ⟨hM2, (Below.push hn hrow' hg hn.size).setCell (Nat.le_refl _) _⟩
          have HFIN := Lib.hid hfin
          clear hfin
          go_wp2_with fail
--R11
          refine wp_region_held_drew (S := fun w' => w'.cell? ⟨ib2, 0, none⟩ = some (.int .i64 z) ∧ w'.cell? ⟨ib2, 4, none⟩ = some (.int .i64 idt) ∧ w'.cell? ⟨ib2, 6, none⟩ = some (sv ulk)) (by kernel_rfl) ⟨d0, d4, d6⟩ (fun hS0 => ?_)
          refine wpAnyH_take (i := 0) (v := ?_) rfl (by kernel_rfl) (by kernel_rfl) (by kernel_rfl) (fun _ _ _ h => h) (Or.inl ⟨by rfl, ?_⟩) hS0 ?_
          rotate_left
          · (intro w hSw; (try dsimp only at hSw); go_simp; try with_reducible rfl)
          try simp only [Act.put, List.setIfInBounds_toArray]
          refine wpAnyH_take (i := 1) (v := ?_) rfl (by kernel_rfl) (by kernel_rfl) (by kernel_rfl) (fun _ _ _ h => h) (Or.inl ⟨by rfl, ?_⟩) hS0 ?_
          rotate_left
          · (intro w hSw; (try dsimp only at hSw); go_simp; try with_reducible rfl)
          try simp only [Act.put]
          refine wpAnyH_take (i := 2) (v := ?_) rfl (by kernel_rfl) (by kernel_rfl) (by kernel_rfl) (fun _ _ _ h => h) (Or.inl ⟨by rfl, ?_⟩) hS0 ?_
          rotate_left
          · (intro w hSw; (try dsimp only at hSw); go_simp; try with_reducible rfl)
          try simp only [Act.put]
          refine wpAnyH_take (i := 3) (v := ?_) rfl (by kernel_rfl) (by kernel_rfl) (by kernel_rfl) (fun _ _ _ h => h) (Or.inl ⟨by rfl, ?_⟩) hS0 ?_
          rotate_left
          · (intro w hSw; (try dsimp only at hSw); go_simp; try with_reducible rfl)
          try simp only [Act.put]
          refine wpAnyH_take (i := 4) (v := ?_) rfl (by kernel_rfl) (by kernel_rfl) (by kernel_rfl) (fun _ _ _ h => h) (Or.inl ⟨by rfl, ?_⟩) hS0 ?_
          rotate_left
          · (intro w hSw; (try dsimp only at hSw); go_simp; try with_reducible rfl)
          try simp only [Act.put]
          refine wpAnyH_take (i := 6) (v := ?_) rfl (by kernel_rfl) (by kernel_rfl) (by kernel_rfl) (fun _ _ _ h => h) (Or.inl ⟨by rfl, ?_⟩) hS0 ?_
          rotate_left
          · (intro w hSw; (try dsimp only at hSw); go_simp; try with_reducible rfl)
          try simp only [Act.put]
          refine wpAnyH_take (i := 7) (v := ?_) rfl (by kernel_rfl) (by kernel_rfl) (by kernel_rfl) (fun _ _ _ h => h) (Or.inl ⟨by rfl, ?_⟩) hS0 ?_
          rotate_left
          · (intro w hSw; (try dsimp only at hSw); go_simp; try with_reducible rfl)
          try simp only [Act.put]
          refine wpAnyH_take (i := 8) (v := ?_) rfl (by kernel_rfl) (by kernel_rfl) (by kernel_rfl) (fun _ _ _ h => h) (Or.inl ⟨by rfl, ?_⟩) hS0 ?_
          rotate_left
          · (intro w hSw; (try dsimp only at hSw); go_simp; try with_reducible rfl)
          try simp only [Act.put]
          refine wpAnyH_take (i := 9) (v := ?_) rfl (by kernel_rfl) (by kernel_rfl) (by kernel_rfl) (fun _ _ _ h => h) (Or.inl ⟨by rfl, ?_⟩) hS0 ?_
          rotate_left
          · (intro w hSw; (try dsimp only at hSw); go_simp; try with_reducible rfl)
          try simp only [Act.put]
          refine wpAnyH_take (i := 10) (v := ?_) rfl (by kernel_rfl) (by kernel_rfl) (by kernel_rfl) (fun _ _ _ h => h) (Or.inl ⟨by rfl, ?_⟩) hS0 ?_
          rotate_left
          · (intro w hSw; (try dsimp only at hSw); go_simp; try with_reducible rfl)
          try simp only [Act.put]
          refine wpAnyH_take (i := 11) (v := ?_) rfl (by kernel_rfl) (by kernel_rfl) (by kernel_rfl) (fun _ _ _ h => h) (Or.inl ⟨by rfl, ?_⟩) hS0 ?_
          rotate_left
          · (intro w hSw; (try dsimp only at hSw); go_simp; try with_reducible rfl)
          try simp only [Act.put]
          refine wpAnyH_take (i := 12) (v := ?_) rfl (by kernel_rfl) (by kernel_rfl) (by kernel_rfl) (fun _ _ _ h => h) (Or.inl ⟨by rfl, ?_⟩) hS0 ?_
          rotate_left
          · (intro w hSw; (try dsimp only at hSw); go_simp; try with_reducible rfl)
          try simp only [Act.put]
          refine wpAnyH_take (i := 13) (v := ?_) rfl (by kernel_rfl) (by kernel_rfl) (by kernel_rfl) (fun _ _ _ h => h) (Or.inl ⟨by rfl, ?_⟩) hS0 ?_
          rotate_left
          · (intro w hSw; (try dsimp only at hSw); go_simp; try with_reducible rfl)
          try simp only [Act.put]
          refine wpAnyH_take (i := 14) (v := ?_) rfl (by kernel_rfl) (by kernel_rfl) (by kernel_rfl) (fun _ _ _ h => h) (Or.inl ⟨by rfl, ?_⟩) hS0 ?_
          rotate_left
          · (intro w hSw; (try dsimp only at hSw); go_simp; try with_reducible rfl)
          try simp only [Act.put]
          refine wpAnyH_take (i := 15) (v := ?_) rfl (by kernel_rfl) (by kernel_rfl) (by kernel_rfl) (fun _ _ _ h => h) (Or.inl ⟨by rfl, ?_⟩) hS0 ?_
          rotate_left
          · (intro w hSw; (try dsimp only at hSw); go_simp; try with_reducible rfl)
          try simp only [Act.put]
          refine wpAnyH_take (i := 16) (v := ?_) rfl (by kernel_rfl) (by kernel_rfl) (by kernel_rfl) (fun _ _ _ h => h) (Or.inl ⟨by rfl, ?_⟩) hS0 ?_
          rotate_left
          · (intro w hSw; (try dsimp only at hSw); go_simp; try with_reducible rfl)
          try simp only [Act.put]
          refine wpAnyH_take (i := 17) (v := ?_) rfl (by kernel_rfl) (by kernel_rfl) (by kernel_rfl) (fun _ _ _ h => h) (Or.inl ⟨by rfl, ?_⟩) hS0 ?_
          rotate_left
          · (intro w hSw; (try dsimp only at hSw); go_simp; try with_reducible rfl)
          try simp only [Act.put]
          refine wpAnyH_take (i := 18) (v := ?_) rfl (by kernel_rfl) (by kernel_rfl) (by kernel_rfl) (fun _ _ _ h => h) (Or.inl ⟨by rfl, ?_⟩) hS0 ?_
          rotate_left
          · (intro w hSw; (try dsimp only at hSw); go_simp; try with_reducible rfl)
          try simp only [Act.put]
          refine wpAnyH_ready (rs := [5, 19]) (by kernel_rfl) (by simp) ?_
          refine AllReadyH.cons rfl (fun K hK => ?_) ?_
          · go_simp
            refine hK.out _ _ ?_ (fun hS1 => ?_)
            · (first
                | exact ⟨d0, d4, d6⟩
                | exact ⟨HA.out.2.2.1, HA.out.2.2.2.1, HA.out.2.2.2.2⟩
                | exact ⟨(hgrow.cell_far ⟨ib2, 0, none⟩ (Nat.lt_trans hplt (by simp)) hpne2).trans HA.out.2.2.1, (hgrow.cell_far ⟨ib2, 4, none⟩ (Nat.lt_trans hplt (by simp)) hpne2).trans HA.out.2.2.2.1, (hgrow.cell_far ⟨ib2, 6, none⟩ (Nat.lt_trans hplt (by simp)) hpne2).trans HA.out.2.2.2.2⟩
                | exact ⟨(World.cell?_setCell_far _ _ _ _ (Ne.symm hmbne)).trans ((hgrow.cell_far ⟨ib2, 0, none⟩ (Nat.lt_trans hplt (by simp)) hpne2).trans HA.out.2.2.1), (World.cell?_setCell_far _ _ _ _ (Ne.symm hmbne)).trans ((hgrow.cell_far ⟨ib2, 4, none⟩ (Nat.lt_trans hplt (by simp)) hpne2).trans HA.out.2.2.2.1), (World.cell?_setCell_far _ _ _ _ (Ne.symm hmbne)).trans ((hgrow.cell_far ⟨ib2, 6, none⟩ (Nat.lt_trans hplt (by simp)) hpne2).trans HA.out.2.2.2.2)⟩)
            clear hK K hS0
            try simp only [Act.put, List.setIfInBounds_toArray, List.set_cons_zero, List.set_cons_succ]
            refine wpAnyH_ready (rs := [19]) (by kernel_rfl) (by simp) ?_
            refine AllReadyH.cons rfl (fun K hK => ?_) ?_
            · (go_simp; refine (HTD.out _).mono ?_; rintro e w' ⟨rfl, rfl⟩; go_wp2_with fail)
              refine hK.out _ _ ?_ (fun hS2 => ?_)
              · (first
                  | exact ⟨d0, d4, d6⟩
                  | exact ⟨HA.out.2.2.1, HA.out.2.2.2.1, HA.out.2.2.2.2⟩
                  | exact ⟨(hgrow.cell_far ⟨ib2, 0, none⟩ (Nat.lt_trans hplt (by simp)) hpne2).trans HA.out.2.2.1, (hgrow.cell_far ⟨ib2, 4, none⟩ (Nat.lt_trans hplt (by simp)) hpne2).trans HA.out.2.2.2.1, (hgrow.cell_far ⟨ib2, 6, none⟩ (Nat.lt_trans hplt (by simp)) hpne2).trans HA.out.2.2.2.2⟩
                  | exact ⟨(World.cell?_setCell_far _ _ _ _ (Ne.symm hmbne)).trans ((hgrow.cell_far ⟨ib2, 0, none⟩ (Nat.lt_trans hplt (by simp)) hpne2).trans HA.out.2.2.1), (World.cell?_setCell_far _ _ _ _ (Ne.symm hmbne)).trans ((hgrow.cell_far ⟨ib2, 4, none⟩ (Nat.lt_trans hplt (by simp)) hpne2).trans HA.out.2.2.2.1), (World.cell?_setCell_far _ _ _ _ (Ne.symm hmbne)).trans ((hgrow.cell_far ⟨ib2, 6, none⟩ (Nat.lt_trans hplt (by simp)) hpne2).trans HA.out.2.2.2.2)⟩)
              clear hK K hS1
              try simp only [Act.put, List.setIfInBounds_toArray, List.set_cons_zero, List.set_cons_succ]
              refine wpAnyH_take (i := 20) (v := ?_) rfl (by kernel_rfl) (by kernel_rfl) (by kernel_rfl) (fun _ _ _ h => h) (Or.inl ⟨by rfl, ?_⟩) hS2 ?_
              rotate_left
              · (intro w hSw; (try dsimp only at hSw); go_simp; try with_reducible rfl)
              try simp only [Act.put, List.setIfInBounds_toArray]
              refine wpAnyH_ready (rs := [21]) (by kernel_rfl) (by simp) ?_
              refine AllReadyH.cons rfl (fun K hK => ?_) ?_
              · go_simp
                refine hK.out _ _ ?_ (fun hS3 => ?_)
                · (first
                    | exact ⟨d0, d4, d6⟩
                    | exact ⟨HA.out.2.2.1, HA.out.2.2.2.1, HA.out.2.2.2.2⟩
                    | exact ⟨(hgrow.cell_far ⟨ib2, 0, none⟩ (Nat.lt_trans hplt (by simp)) hpne2).trans HA.out.2.2.1, (hgrow.cell_far ⟨ib2, 4, none⟩ (Nat.lt_trans hplt (by simp)) hpne2).trans HA.out.2.2.2.1, (hgrow.cell_far ⟨ib2, 6, none⟩ (Nat.lt_trans hplt (by simp)) hpne2).trans HA.out.2.2.2.2⟩
                    | exact ⟨(World.cell?_setCell_far _ _ _ _ (Ne.symm hmbne)).trans ((hgrow.cell_far ⟨ib2, 0, none⟩ (Nat.lt_trans hplt (by simp)) hpne2).trans HA.out.2.2.1), (World.cell?_setCell_far _ _ _ _ (Ne.symm hmbne)).trans ((hgrow.cell_far ⟨ib2, 4, none⟩ (Nat.lt_trans hplt (by simp)) hpne2).trans HA.out.2.2.2.1), (World.cell?_setCell_far _ _ _ _ (Ne.symm hmbne)).trans ((hgrow.cell_far ⟨ib2, 6, none⟩ (Nat.lt_trans hplt (by simp)) hpne2).trans HA.out.2.2.2.2)⟩)
                clear hK K hS2
                try simp only [Act.put, List.setIfInBounds_toArray, List.set_cons_zero, List.set_cons_succ]
                refine wpAnyH_ready (rs := [22]) (by kernel_rfl) (by simp) ?_
                refine AllReadyH.cons rfl (fun K hK => ?_) ?_
                · (refine step_push (by rfl) _ _ _ _ (by rfl) T53 w2.heap.size (.slice ak Lk.length ck) _ _ (by rfl) (by first | exact (hrow.alloc (.cells #[.int .i64 (prodI ip), .int .i64 idt, sv ilk] 101)).drew | exact (hrow.alloc (.cells #[.int .i64 (prodI ip), .int .i64 idt, sv ilk] 101))) [_, _, _] (by rfl) (by rfl) _ wr.heap.size (by rfl) (0, 0) (heap_alloc_new wr _) (by omega) (by omega) (by simp; omega) ?_; intro g0 cap1 w1 hown1 hgrow hat; have q1 := (hgrow.cell_far ⟨w2.heap.size, k, none⟩ (Nat.lt_trans hmb (by simp)) hpne).trans HA.out.1; have q2 := (hgrow.frozen_far ⟨w2.heap.size, k, none⟩ (Nat.lt_trans hmb (by simp)) hpne).trans HA.out.2.1)
                  refine hK.out _ _ ?_ (fun hS4 => ?_)
                  · (first
                      | exact ⟨d0, d4, d6⟩
                      | exact ⟨HA.out.2.2.1, HA.out.2.2.2.1, HA.out.2.2.2.2⟩
                      | exact ⟨(hgrow.cell_far ⟨ib2, 0, none⟩ (Nat.lt_trans hplt (by simp)) hpne2).trans HA.out.2.2.1, (hgrow.cell_far ⟨ib2, 4, none⟩ (Nat.lt_trans hplt (by simp)) hpne2).trans HA.out.2.2.2.1, (hgrow.cell_far ⟨ib2, 6, none⟩ (Nat.lt_trans hplt (by simp)) hpne2).trans HA.out.2.2.2.2⟩
                      | exact ⟨(World.cell?_setCell_far _ _ _ _ (Ne.symm hmbne)).trans ((hgrow.cell_far ⟨ib2, 0, none⟩ (Nat.lt_trans hplt (by simp)) hpne2).trans HA.out.2.2.1), (World.cell?_setCell_far _ _ _ _ (Ne.symm hmbne)).trans ((hgrow.cell_far ⟨ib2, 4, none⟩ (Nat.lt_trans hplt (by simp)) hpne2).trans HA.out.2.2.2.1), (World.cell?_setCell_far _ _ _ _ (Ne.symm hmbne)).trans ((hgrow.cell_far ⟨ib2, 6, none⟩ (Nat.lt_trans hplt (by simp)) hpne2).trans HA.out.2.2.2.2)⟩)
                  clear hK K hS3
                  try simp only [Act.put, List.setIfInBounds_toArray]
                  refine wpAnyH_take (i := 23) (v := ?_) rfl (by kernel_rfl) (by kernel_rfl) (by kernel_rfl) (fun _ _ _ h => h) (Or.inl ⟨by rfl, ?_⟩) hS4 ?_
                  rotate_left
                  · (intro w hSw; (try dsimp only at hSw); go_simp; try with_reducible rfl)
                  try simp only [Act.put]
                  refine wpAnyH_ready (rs := [24]) (by kernel_rfl) (by simp) ?_
                  refine AllReadyH.cons rfl (fun K hK => ?_) ?_
                  · go_simp
                    refine hK.out _ _ ?_ (fun hS5 => ?_)
                    · (first
                        | exact ⟨d0, d4, d6⟩
                        | exact ⟨HA.out.2.2.1, HA.out.2.2.2.1, HA.out.2.2.2.2⟩
                        | exact ⟨(hgrow.cell_far ⟨ib2, 0, none⟩ (Nat.lt_trans hplt (by simp)) hpne2).trans HA.out.2.2.1, (hgrow.cell_far ⟨ib2, 4, none⟩ (Nat.lt_trans hplt (by simp)) hpne2).trans HA.out.2.2.2.1, (hgrow.cell_far ⟨ib2, 6, none⟩ (Nat.lt_trans hplt (by simp)) hpne2).trans HA.out.2.2.2.2⟩
                        | exact ⟨(World.cell?_setCell_far _ _ _ _ (Ne.symm hmbne)).trans ((hgrow.cell_far ⟨ib2, 0, none⟩ (Nat.lt_trans hplt (by simp)) hpne2).trans HA.out.2.2.1), (World.cell?_setCell_far _ _ _ _ (Ne.symm hmbne)).trans ((hgrow.cell_far ⟨ib2, 4, none⟩ (Nat.lt_trans hplt (by simp)) hpne2).trans HA.out.2.2.2.1), (World.cell?_setCell_far _ _ _ _ (Ne.symm hmbne)).trans ((hgrow.cell_far ⟨ib2, 6, none⟩ (Nat.lt_trans hplt (by simp)) hpne2).trans HA.out.2.2.2.2)⟩)
                    clear hK K hS4
                    try simp only [Act.put, List.setIfInBounds_toArray, List.set_cons_zero, List.set_cons_succ]
                    refine wpAnyH_done (by kernel_rfl) ?_ _
                    have hB := HFIN.out w1 (.slice (some ⟨g0, 0, none⟩) (Lk.length + 1) cap1) hown1 ⟨hgrow.os, hgrow.tape, hgrow.output, hgrow.size, hgrow.block⟩ (hat.imp (fun e => e.symm) fun h => ⟨g0, rfl, h⟩)
                    clear hgrow hat hown1 q1 q2 hS5
                    go_wp2
                    go_roundg (R[k].L.length - (j + 1))
                    case measure => omega
                    case rel => exact ⟨j + 1, _, by omega, rfl, by go_num, hB⟩
                  exact AllReadyH.nil
                exact AllReadyH.nil
              exact AllReadyH.nil
            exact AllReadyH.nil
          refine AllReadyH.cons rfl (fun K hK => ?_) ?_
          · (go_simp; refine (HTD.out _).mono ?_; rintro e w' ⟨rfl, rfl⟩; go_wp2_with fail)
            refine hK.out _ _ ?_ (fun hS6 => ?_)
            · (first
                | exact ⟨d0, d4, d6⟩
                | exact ⟨HA.out.2.2.1, HA.out.2.2.2.1, HA.out.2.2.2.2⟩
                | exact ⟨(hgrow.cell_far ⟨ib2, 0, none⟩ (Nat.lt_trans hplt (by simp)) hpne2).trans HA.out.2.2.1, (hgrow.cell_far ⟨ib2, 4, none⟩ (Nat.lt_trans hplt (by simp)) hpne2).trans HA.out.2.2.2.1, (hgrow.cell_far ⟨ib2, 6, none⟩ (Nat.lt_trans hplt (by simp)) hpne2).trans HA.out.2.2.2.2⟩
                | exact ⟨(World.cell?_setCell_far _ _ _ _ (Ne.symm hmbne)).trans ((hgrow.cell_far ⟨ib2, 0, none⟩ (Nat.lt_trans hplt (by simp)) hpne2).trans HA.out.2.2.1), (World.cell?_setCell_far _ _ _ _ (Ne.symm hmbne)).trans ((hgrow.cell_far ⟨ib2, 4, none⟩ (Nat.lt_trans hplt (by simp)) hpne2).trans HA.out.2.2.2.1), (World.cell?_setCell_far _ _ _ _ (Ne.symm hmbne)).trans ((hgrow.cell_far ⟨ib2, 6, none⟩ (Nat.lt_trans hplt (by simp)) hpne2).trans HA.out.2.2.2.2)⟩)
            clear hK K hS0
            try simp only [Act.put, List.setIfInBounds_toArray, List.set_cons_zero, List.set_cons_succ]
            refine wpAnyH_take (i := 20) (v := ?_) rfl (by kernel_rfl) (by kernel_rfl) (by kernel_rfl) (fun _ _ _ h => h) (Or.inl ⟨by rfl, ?_⟩) hS6 ?_
            rotate_left
            · (intro w hSw; (try dsimp only at hSw); go_simp; try with_reducible rfl)
            try simp only [Act.put, List.setIfInBounds_toArray]
            refine wpAnyH_ready (rs := [5, 21]) (by kernel_rfl) (by simp) ?_
            refine AllReadyH.cons rfl (fun K hK => ?_) ?_
            · go_simp
              refine hK.out _ _ ?_ (fun hS7 => ?_)
              · (first
                  | exact ⟨d0, d4, d6⟩
                  | exact ⟨HA.out.2.2.1, HA.out.2.2.2.1, HA.out.2.2.2.2⟩
                  | exact ⟨(hgrow.cell_far ⟨ib2, 0, none⟩ (Nat.lt_trans hplt (by simp)) hpne2).trans HA.out.2.2.1, (hgrow.cell_far ⟨ib2, 4, none⟩ (Nat.lt_trans hplt (by simp)) hpne2).trans HA.out.2.2.2.1, (hgrow.cell_far ⟨ib2, 6, none⟩ (Nat.lt_trans hplt (by simp)) hpne2).trans HA.out.2.2.2.2⟩
                  | exact ⟨(World.cell?_setCell_far _ _ _ _ (Ne.symm hmbne)).trans ((hgrow.cell_far ⟨ib2, 0, none⟩ (Nat.lt_trans hplt (by simp)) hpne2).trans HA.out.2.2.1), (World.cell?_setCell_far _ _ _ _ (Ne.symm hmbne)).trans ((hgrow.cell_far ⟨ib2, 4, none⟩ (Nat.lt_trans hplt (by simp)) hpne2).trans HA.out.2.2.2.1), (World.cell?_setCell_far _ _ _ _ (Ne.symm hmbne)).trans ((hgrow.cell_far ⟨ib2, 6, none⟩ (Nat.lt_trans hplt (by simp)) hpne2).trans HA.out.2.2.2.2)⟩)
              clear hK K hS6
              try simp only [Act.put, List.setIfInBounds_toArray, List.set_cons_zero, List.set_cons_succ]
              refine wpAnyH_ready (rs := [21]) (by kernel_rfl) (by simp) ?_
              refine AllReadyH.cons rfl (fun K hK => ?_) ?_
              · go_simp
                refine hK.out _ _ ?_ (fun hS8 => ?_)
                · (first
                    | exact ⟨d0, d4, d6⟩
                    | exact ⟨HA.out.2.2.1, HA.out.2.2.2.1, HA.out.2.2.2.2⟩
                    | exact ⟨(hgrow.cell_far ⟨ib2, 0, none⟩ (Nat.lt_trans hplt (by simp)) hpne2).trans HA.out.2.2.1, (hgrow.cell_far ⟨ib2, 4, none⟩ (Nat.lt_trans hplt (by simp)) hpne2).trans HA.out.2.2.2.1, (hgrow.cell_far ⟨ib2, 6, none⟩ (Nat.lt_trans hplt (by simp)) hpne2).trans HA.out.2.2.2.2⟩
                    | exact ⟨(World.cell?_setCell_far _ _ _ _ (Ne.symm hmbne)).trans ((hgrow.cell_far ⟨ib2, 0, none⟩ (Nat.lt_trans hplt (by simp)) hpne2).trans HA.out.2.2.1), (World.cell?_setCell_far _ _ _ _ (Ne.symm hmbne)).trans ((hgrow.cell_far ⟨ib2, 4, none⟩ (Nat.lt_trans hplt (by simp)) hpne2).trans HA.out.2.2.2.1), (World.cell?_setCell_far _ _ _ _ (Ne.symm hmbne)).trans ((hgrow.cell_far ⟨ib2, 6, none⟩ (Nat.lt_trans hplt (by simp)) hpne2).trans HA.out.2.2.2.2)⟩)
                clear hK K hS7
                try simp only [Act.put, List.setIfInBounds_toArray, List.set_cons_zero, List.set_cons_succ]
                refine wpAnyH_ready (rs := [22]) (by kernel_rfl) (by simp) ?_
                refine AllReadyH.cons rfl (fun K hK => ?_) ?_
                · (refine step_push (by rfl) _ _ _ _ (by rfl) T53 w2.heap.size (.slice ak Lk.length ck) _ _ (by rfl) (by first | exact (hrow.alloc (.cells #[.int .i64 (prodI ip), .int .i64 idt, sv ilk] 101)).drew | exact (hrow.alloc (.cells #[.int .i64 (prodI ip), .int .i64 idt, sv ilk] 101))) [_, _, _] (by rfl) (by rfl) _ wr.heap.size (by rfl) (0, 0) (heap_alloc_new wr _) (by omega) (by omega) (by simp; omega) ?_; intro g0 cap1 w1 hown1 hgrow hat; have q1 := (hgrow.cell_far ⟨w2.heap.size, k, none⟩ (Nat.lt_trans hmb (by simp)) hpne).trans HA.out.1; have q2 := (hgrow.frozen_far ⟨w2.heap.size, k, none⟩ (Nat.lt_trans hmb (by simp)) hpne).trans HA.out.2.1)
                  refine hK.out _ _ ?_ (fun hS9 => ?_)
                  · (first
                      | exact ⟨d0, d4, d6⟩
                      | exact ⟨HA.out.2.2.1, HA.out.2.2.2.1, HA.out.2.2.2.2⟩
                      | exact ⟨(hgrow.cell_far ⟨ib2, 0, none⟩ (Nat.lt_trans hplt (by simp)) hpne2).trans HA.out.2.2.1, (hgrow.cell_far ⟨ib2, 4, none⟩ (Nat.lt_trans hplt (by simp)) hpne2).trans HA.out.2.2.2.1, (hgrow.cell_far ⟨ib2, 6, none⟩ (Nat.lt_trans hplt (by simp)) hpne2).trans HA.out.2.2.2.2⟩
                      | exact ⟨(World.cell?_setCell_far _ _ _ _ (Ne.symm hmbne)).trans ((hgrow.cell_far ⟨ib2, 0, none⟩ (Nat.lt_trans hplt (by simp)) hpne2).trans HA.out.2.2.1), (World.cell?_setCell_far _ _ _ _ (Ne.symm hmbne)).trans ((hgrow.cell_far ⟨ib2, 4, none⟩ (Nat.lt_trans hplt (by simp)) hpne2).trans HA.out.2.2.2.1), (World.cell?_setCell_far _ _ _ _ (Ne.symm hmbne)).trans ((hgrow.cell_far ⟨ib2, 6, none⟩ (Nat.lt_trans hplt (by simp)) hpne2).trans HA.out.2.2.2.2)⟩)
                  clear hK K hS8
                  try simp only [Act.put, List.setIfInBounds_toArray]
                  refine wpAnyH_take (i := 23) (v := ?_) rfl (by kernel_rfl) (by kernel_rfl) (by kernel_rfl) (fun _ _ _ h => h) (Or.inl ⟨by rfl, ?_⟩) hS9 ?_
                  rotate_left
                  · (intro w hSw; (try dsimp only at hSw); go_simp; try with_reducible rfl)
                  try simp only [Act.put]
                  refine wpAnyH_ready (rs := [24]) (by kernel_rfl) (by simp) ?_
                  refine AllReadyH.cons rfl (fun K hK => ?_) ?_
                  · go_simp
                    refine hK.out _ _ ?_ (fun hS10 => ?_)
                    · (first
                        | exact ⟨d0, d4, d6⟩
                        | exact ⟨HA.out.2.2.1, HA.out.2.2.2.1, HA.out.2.2.2.2⟩
                        | exact ⟨(hgrow.cell_far ⟨ib2, 0, none⟩ (Nat.lt_trans hplt (by simp)) hpne2).trans HA.out.2.2.1, (hgrow.cell_far ⟨ib2, 4, none⟩ (Nat.lt_trans hplt (by simp)) hpne2).trans HA.out.2.2.2.1, (hgrow.cell_far ⟨ib2, 6, none⟩ (Nat.lt_trans hplt (by simp)) hpne2).trans HA.out.2.2.2.2⟩
                        | exact ⟨(World.cell?_setCell_far _ _ _ _ (Ne.symm hmbne)).trans ((hgrow.cell_far ⟨ib2, 0, none⟩ (Nat.lt_trans hplt (by simp)) hpne2).trans HA.out.2.2.1), (World.cell?_setCell_far _ _ _ _ (Ne.symm hmbne)).trans ((hgrow.cell_far ⟨ib2, 4, none⟩ (Nat.lt_trans hplt (by simp)) hpne2).trans HA.out.2.2.2.1), (World.cell?_setCell_far _ _ _ _ (Ne.symm hmbne)).trans ((hgrow.cell_far ⟨ib2, 6, none⟩ (Nat.lt_trans hplt (by simp)) hpne2).trans HA.out.2.2.2.2)⟩)
                    clear hK K hS9
                    try simp only [Act.put, List.setIfInBounds_toArray, List.set_cons_zero, List.set_cons_succ]
                    refine wpAnyH_done (by kernel_rfl) ?_ _
                    have hB := HFIN.out w1 (.slice (some ⟨g0, 0, none⟩) (Lk.length + 1) cap1) hown1 ⟨hgrow.os, hgrow.tape, hgrow.output, hgrow.size, hgrow.block⟩ (hat.imp (fun e => e.symm) fun h => ⟨g0, rfl, h⟩)
                    clear hgrow hat hown1 q1 q2 hS10
                    go_wp2
                    go_roundg (R[k].L.length - (j + 1))
                    case measure => omega
                    case rel => exact ⟨j + 1, _, by omega, rfl, by go_num, hB⟩
                  exact AllReadyH.nil
                exact AllReadyH.nil
              exact AllReadyH.nil
            refine AllReadyH.cons rfl (fun K hK => ?_) ?_
            · go_simp
              refine hK.out _ _ ?_ (fun hS11 => ?_)
              · (first
                  | exact ⟨d0, d4, d6⟩
                  | exact ⟨HA.out.2.2.1, HA.out.2.2.2.1, HA.out.2.2.2.2⟩
                  | exact ⟨(hgrow.cell_far ⟨ib2, 0, none⟩ (Nat.lt_trans hplt (by simp)) hpne2).trans HA.out.2.2.1, (hgrow.cell_far ⟨ib2, 4, none⟩ (Nat.lt_trans hplt (by simp)) hpne2).trans HA.out.2.2.2.1, (hgrow.cell_far ⟨ib2, 6, none⟩ (Nat.lt_trans hplt (by simp)) hpne2).trans HA.out.2.2.2.2⟩
                  | exact ⟨(World.cell?_setCell_far _ _ _ _ (Ne.symm hmbne)).trans ((hgrow.cell_far ⟨ib2, 0, none⟩ (Nat.lt_trans hplt (by simp)) hpne2).trans HA.out.2.2.1), (World.cell?_setCell_far _ _ _ _ (Ne.symm hmbne)).trans ((hgrow.cell_far ⟨ib2, 4, none⟩ (Nat.lt_trans hplt (by simp)) hpne2).trans HA.out.2.2.2.1), (World.cell?_setCell_far _ _ _ _ (Ne.symm hmbne)).trans ((hgrow.cell_far ⟨ib2, 6, none⟩ (Nat.lt_trans hplt (by simp)) hpne2).trans HA.out.2.2.2.2)⟩)
              clear hK K hS6
              try simp only [Act.put, List.setIfInBounds_toArray, List.set_cons_zero, List.set_cons_succ]
              refine wpAnyH_ready (rs := [5]) (by kernel_rfl) (by simp) ?_
              refine AllReadyH.cons rfl (fun K hK => ?_) ?_
              · go_simp
                refine hK.out _ _ ?_ (fun hS12 => ?_)
                · (first
                    | exact ⟨d0, d4, d6⟩
                    | exact ⟨HA.out.2.2.1, HA.out.2.2.2.1, HA.out.2.2.2.2⟩
                    | exact ⟨(hgrow.cell_far ⟨ib2, 0, none⟩ (Nat.lt_trans hplt (by simp)) hpne2).trans HA.out.2.2.1, (hgrow.cell_far ⟨ib2, 4, none⟩ (Nat.lt_trans hplt (by simp)) hpne2).trans HA.out.2.2.2.1, (hgrow.cell_far ⟨ib2, 6, none⟩ (Nat.lt_trans hplt (by simp)) hpne2).trans HA.out.2.2.2.2⟩
                    | exact ⟨(World.cell?_setCell_far _ _ _ _ (Ne.symm hmbne)).trans ((hgrow.cell_far ⟨ib2, 0, none⟩ (Nat.lt_trans hplt (by simp)) hpne2).trans HA.out.2.2.1), (World.cell?_setCell_far _ _ _ _ (Ne.symm hmbne)).trans ((hgrow.cell_far ⟨ib2, 4, none⟩ (Nat.lt_trans hplt (by simp)) hpne2).trans HA.out.2.2.2.1), (World.cell?_setCell_far _ _ _ _ (Ne.symm hmbne)).trans ((hgrow.cell_far ⟨ib2, 6, none⟩ (Nat.lt_trans hplt (by simp)) hpne2).trans HA.out.2.2.2.2)⟩)
                clear hK K hS11
                try simp only [Act.put, List.setIfInBounds_toArray, List.set_cons_zero, List.set_cons_succ]
                refine wpAnyH_ready (rs := [22]) (by kernel_rfl) (by simp) ?_
                refine AllReadyH.cons rfl (fun K hK => ?_) ?_
                · (refine step_push (by rfl) _ _ _ _ (by rfl) T53 w2.heap.size (.slice ak Lk.length ck) _ _ (by rfl) (by first | exact (hrow.alloc (.cells #[.int .i64 (prodI ip), .int .i64 idt, sv ilk] 101)).drew | exact (hrow.alloc (.cells #[.int .i64 (prodI ip), .int .i64 idt, sv ilk] 101))) [_, _, _] (by rfl) (by rfl) _ wr.heap.size (by rfl) (0, 0) (heap_alloc_new wr _) (by omega) (by omega) (by simp; omega) ?_; intro g0 cap1 w1 hown1 hgrow hat; have q1 := (hgrow.cell_far ⟨w2.heap.size, k, none⟩ (Nat.lt_trans hmb (by simp)) hpne).trans HA.out.1; have q2 := (hgrow.frozen_far ⟨w2.heap.size, k, none⟩ (Nat.lt_trans hmb (by simp)) hpne).trans HA.out.2.1)
                  refine hK.out _ _ ?_ (fun hS13 => ?_)
                  · (first
                      | exact ⟨d0, d4, d6⟩
                      | exact ⟨HA.out.2.2.1, HA.out.2.2.2.1, HA.out.2.2.2.2⟩
                      | exact ⟨(hgrow.cell_far ⟨ib2, 0, none⟩ (Nat.lt_trans hplt (by simp)) hpne2).trans HA.out.2.2.1, (hgrow.cell_far ⟨ib2, 4, none⟩ (Nat.lt_trans hplt (by simp)) hpne2).trans HA.out.2.2.2.1, (hgrow.cell_far ⟨ib2, 6, none⟩ (Nat.lt_trans hplt (by simp)) hpne2).trans HA.out.2.2.2.2⟩
                      | exact ⟨(World.cell?_setCell_far _ _ _ _ (Ne.symm hmbne)).trans ((hgrow.cell_far ⟨ib2, 0, none⟩ (Nat.lt_trans hplt (by simp)) hpne2).trans HA.out.2.2.1), (World.cell?_setCell_far _ _ _ _ (Ne.symm hmbne)).trans ((hgrow.cell_far ⟨ib2, 4, none⟩ (Nat.lt_trans hplt (by simp)) hpne2).trans HA.out.2.2.2.1), (World.cell?_setCell_far _ _ _ _ (Ne.symm hmbne)).trans ((hgrow.cell_far ⟨ib2, 6, none⟩ (Nat.lt_trans hplt (by simp)) hpne2).trans HA.out.2.2.2.2)⟩)
                  clear hK K hS12
                  try simp only [Act.put, List.setIfInBounds_toArray]
                  refine wpAnyH_take (i := 23) (v := ?_) rfl (by kernel_rfl) (by kernel_rfl) (by kernel_rfl) (fun _ _ _ h => h) (Or.inl ⟨by rfl, ?_⟩) hS13 ?_
                  rotate_left
                  · (intro w hSw; (try dsimp only at hSw); go_simp; try with_reducible rfl)
                  try simp only [Act.put]
                  refine wpAnyH_ready (rs := [24]) (by kernel_rfl) (by simp) ?_
                  refine AllReadyH.cons rfl (fun K hK => ?_) ?_
                  · go_simp
                    refine hK.out _ _ ?_ (fun hS14 => ?_)
                    · (first
                        | exact ⟨d0, d4, d6⟩
                        | exact ⟨HA.out.2.2.1, HA.out.2.2.2.1, HA.out.2.2.2.2⟩
                        | exact ⟨(hgrow.cell_far ⟨ib2, 0, none⟩ (Nat.lt_trans hplt (by simp)) hpne2).trans HA.out.2.2.1, (hgrow.cell_far ⟨ib2, 4, none⟩ (Nat.lt_trans hplt (by simp)) hpne2).trans HA.out.2.2.2.1, (hgrow.cell_far ⟨ib2, 6, none⟩ (Nat.lt_trans hplt (by simp)) hpne2).trans HA.out.2.2.2.2⟩
                        | exact ⟨(World.cell?_setCell_far _ _ _ _ (Ne.symm hmbne)).trans ((hgrow.cell_far ⟨ib2, 0, none⟩ (Nat.lt_trans hplt (by simp)) hpne2).trans HA.out.2.2.1), (World.cell?_setCell_far _ _ _ _ (Ne.symm hmbne)).trans ((hgrow.cell_far ⟨ib2, 4, none⟩ (Nat.lt_trans hplt (by simp)) hpne2).trans HA.out.2.2.2.1), (World.cell?_setCell_far _ _ _ _ (Ne.symm hmbne)).trans ((hgrow.cell_far ⟨ib2, 6, none⟩ (Nat.lt_trans hplt (by simp)) hpne2).trans HA.out.2.2.2.2)⟩)
                    clear hK K hS13
                    try simp only [Act.put, List.setIfInBounds_toArray, List.set_cons_zero, List.set_cons_succ]
                    refine wpAnyH_done (by kernel_rfl) ?_ _
                    have hB := HFIN.out w1 (.slice (some ⟨g0, 0, none⟩) (Lk.length + 1) cap1) hown1 ⟨hgrow.os, hgrow.tape, hgrow.output, hgrow.size, hgrow.block⟩ (hat.imp (fun e => e.symm) fun h => ⟨g0, rfl, h⟩)
                    clear hgrow hat hown1 q1 q2 hS14
                    go_wp2
                    go_roundg (R[k].L.length - (j + 1))
                    case measure => omega
                    case rel => exact ⟨j + 1, _, by omega, rfl, by go_num, hB⟩
                  exact AllReadyH.nil
                exact AllReadyH.nil
              exact AllReadyH.nil
            exact AllReadyH.nil
          exact AllReadyH.nil
--R11E
        · obtain rfl : j = R[k].L.length := by omega
          rw [List.take_length] at hM
          have hkvs : k < vs'.length := by rw [hM.len, List.length_set]; exact hkM
          obtain ⟨vk, hvk⟩ : ∃ vk, vs'[k]? = some vk := ⟨_, List.getElem?_eq_getElem hkvs⟩
          have hMk : (Ms.set k (R[k].L.map (·.2)))[k]? = some (R[k].L.map (·.2)) := List.getElem?_set_self hkM
          have hrow := hM.row k vk _ hvk hMk
          have c1 := cell_of_blk hM.blk k
          have e1 : vs'.toArray[k]? = some vk := by simpa using hvk
          rw [e1] at c1
          obtain ⟨ak, ck, eak⟩ := owns_slice hrow
          rw [List.length_map] at eak
          subst eak
          have hq := Lib.hid (SortItm hrow HR.out.1.nd (by rw [List.length_map]; omega))
          have HX := Lib.hid (And.intro hM (And.intro hvk (And.intro hMk (And.intro hrow hn))))
          clear hM hvk hMk hrow e1 hn hkvs
          go_wp2_with fail
          refine hq.out.mono ?_
          rintro e w5 ⟨rfl, L', hp, hs, hown5, hg5⟩
          obtain ⟨hM, hvk, hMk, hrow, hn⟩ := HX.out
          have hM5 := hM.turn (by decide) hvk hMk hown5 hg5
          rw [List.set_set] at hM5
          have hn5 : New w2 w5 := Below.push hn hrow hg5 hn.size
          have hS5 := Lib.hid (hS.out.next (List.getElem?_eq_getElem HR.out.2) (l := L') ⟨fun i => by rw [hp.mem_iff]; exact HR.out.1.all i, hs⟩)
          have HM5 := Lib.hid (And.intro hM5 hn5)
          clear hM hvk hMk hrow hn hM5 hn5 hg5 hown5 hp hs hq c1
          go_wp2_with fail
          go_roundg (R.length - (k + 1))
          case measure => omega
          case rel => exact ⟨k + 1, _, _, by omega, rfl, by go_num, HM5.out.1, hS5, HM5.out.2⟩
    · obtain rfl : k = R.length := by omega
      have hGn := HG.out.1.mono hn
      have hq := Lib.hid (edges_any hg hGn hRl HG.out.2.2.1 _ (HG.out.2.2.2.2.new hn) false)
      have HMm := Lib.hid (And.intro hM hn)
      clear hM hn hGn
      go_wp2_with fail
      refine hq.out.mono ?_
      rintro e w5 ⟨vE, E, rfl, hE, hin, hsE, hn5⟩
      obtain ⟨hM, hn⟩ := HMm.out
      have hfin := (hM.new hn5).at (cap := R.length) (by rw [hS.out.len, HLEN.out]; exact Nat.le_refl _)
      have hMl : Ms.length = R.length := by rw [hS.out.len, HLEN.out]
      rw [hMl] at hfin
      have HF := Lib.hid (And.intro hfin (And.intro hE (And.intro hin (And.intro hsE (HG.out.2.2.2.1.trans (hn.trans hn5))))))
      obtain ⟨aE, cE, rfl⟩ := owns_slice hE
      clear hM hn hfin hE hin hsE hn5 hMl hq
      go_wp2_with fail
      go_ret3
      obtain ⟨hfin, hE, hin, hsE, hnW⟩ := HF.out
      have e := HΓ.out
      subst e
      refine ⟨_, _, c, Ms, E, rfl, HG.out.2.1, ⟨HG.out.2.1.full fun X hX => symsG_all hX, hS.out.len, fun t γ l h1 h2 => (hS.out.done t γ l (by have := (List.getElem?_eq_some_iff.1 h1).1; rw [HLEN.out]; exact this) h1 h2).1, fun x => ?_, hin.nodup⟩, hfin, Row3.of_owns hE, fun l hl => ?_, hsE, hnW⟩
      · rw [hin.mem]
        constructor
        · exact fun h => h.2.1
        · intro h
          exact ⟨by rw [HLEN.out]; exact h.lt.1, h, fun h => by cases h⟩
      · obtain ⟨t, ht⟩ := List.getElem?_of_mem hl
        have htl : t < (collC g (symsG g) c).length := by rw [← hS.out.len]; exact (List.getElem?_eq_some_iff.1 ht).1
        exact (hS.out.done t _ l (by rw [HLEN.out]; exact htl) (List.getElem?_eq_getElem htl) ht).2
end Go.Proofs.YtdejcdmgcckmoaaGreatDoor
