/- First sets told, and the law. -/
import Derived.Test.YtdejcdmgcckmoaaGreatDoorYI
import Derived.Deep.DeepCutAuto
import Derived.Deep.RegionHeld3
namespace Go.Proofs.YtdejcdmgcckmoaaGreatDoor
open Go.RowKit Lr

open Classical in
/-- The least first sets. -/
noncomputable def phi (g : Gram) (A t : Str) : Bool := decide (∀ ph, ClosedS g ph → ph A t = true)
open Classical in
theorem phi_iff {g : Gram} {A t : Str} : phi g A t = true ↔ ∀ ph, ClosedS g ph → ph A t = true := by unfold phi; exact decide_eq_true_iff
theorem phi_least (g : Gram) : LeastS g (phi g) := by
  constructor
  · intro p hp t ht
    rw [phi_iff]
    intro ph hc
    exact hc p hp t (seqS_mono (fun A s e => phi_iff.1 e ph hc) ht)
  · intro ph hc A t h
    exact phi_iff.1 h ph hc
theorem LeastS.eq {g : Gram} {ph ph' : Str → Str → Bool} (h : LeastS g ph) (h' : LeastS g ph') : ph = ph' := by
  funext A t
  rw [Bool.eq_iff_iff]
  exact ⟨h.least ph' h'.closed A t, h'.least ph h.closed A t⟩
theorem phi_inU {g : Gram} (A t : Str) (h : phi g A t = true) : t ∈ firstU g := by
  have := (phi_least g).least (fun _ t => decide (t ∈ firstU g)) (fun p hp t ht => by
    simp only [decide_eq_true_eq]
    exact seqS_inU (fun A t e => by simpa using e) (body_inU hp) ht) A t h
  simpa using this
theorem firstU_ok {g : Gram} (hm : Sm g) {t : Str} (h : t ∈ firstU g) : t = [] ∨ symbolOkB t = true := by
  rcases List.mem_cons.1 h with h | h
  · exact .inl h
  · obtain ⟨p, hp, h⟩ := List.mem_flatMap.1 h
    exact .inr (hm.sym p hp t h)
theorem told_small {t : Str} (h : t = [] ∨ symbolOkB t = true) : toldS t = t := by
  unfold toldS
  rw [if_neg]
  rcases h with rfl | h
  · decide
  · exact (letters_ne h).2.1
/-- What the package's set of a head says, told. -/
theorem tau_told {g : Gram} (hm : Sm g) {ta : Str → Str → Bool} (hok : FsOk (augP g) (headsA (augP g)) ta) (hcl : ∀ q ∈ augP g, ClosedF ta (headsA (augP g)) q) {A : Str} (hA : A ≠ startS) :
    (∀ s, ta A s = true → toldS (backE s) = backE s) ∧ (∀ s s', ta A s = true → ta A s' = true → backE s = backE s' → s = s') ∧ ∀ t, phi g A t = true ↔ ∃ s, ta A s = true ∧ t = backE s := by
  have hs := first_same hm hok hcl (phi_least g)
  refine ⟨fun s h => ?_, fun s s' h h' e => ?_, fun t => ⟨fun h => ?_, ?_⟩⟩
  · exact told_small (firstU_ok hm (phi_inU A _ (hs.2 A s hA h).2))
  · have h1 := (hs.2 A s hA h).1
    have h2 := (hs.2 A s' hA h').1
    unfold backE at e
    by_cases e1 : s = emptyS <;> by_cases e2 : s' = emptyS
    · rw [e1, e2]
    · rw [if_pos e1, if_neg e2] at e; exact absurd e.symm h2
    · rw [if_neg e1, if_pos e2] at e; exact absurd e h1
    · rw [if_neg e1, if_neg e2] at e; exact e
  · obtain ⟨h1, h2⟩ := hs.1 A t h
    refine ⟨convE t, h2, ?_⟩
    unfold convE backE
    by_cases e : t = []
    · rw [if_pos e, if_pos rfl, e]
    · rw [if_neg e, if_neg h1]
  · rintro ⟨s, h, rfl⟩
    exact (hs.2 A s hA h).2

/-- A matrix that grows; its rows stand. -/
def MatG (w : World) (B : Nat) (v : Value) (Ls : List (List Str)) : Prop := ∃ vs, w.ownsRow B 24 1 v Ls.length vs ∧ vs.length = Ls.length ∧ ∀ (k : Nat) (u : Value) (L : List Str), vs[k]? = some u → Ls[k]? = some L → Strs w B u L
theorem MatG.new {w w' : World} {B : Nat} {v : Value} {Ls : List (List Str)} (h : MatG w B v Ls) (hn : New w w') : MatG w' B v Ls := by
  obtain ⟨vs, h1, h2, h3⟩ := h
  exact ⟨vs, ownsRow_new h1 hn, h2, fun k u L e1 e2 => (h3 k u L e1 e2).new hn⟩
theorem MatG.at {w : World} {B : Nat} {v : Value} {Ls : List (List Str)} (h : MatG w B v Ls) : MatAt w v Ls := by
  obtain ⟨vs, h1, h2, h3⟩ := h
  obtain ⟨_, a, cap, rfl, hcap, hc⟩ := row_cells h1
  refine ⟨a, cap, rfl, hcap, fun hne => ?_⟩
  obtain ⟨b, e, hcc⟩ := hc hne
  refine ⟨b, 0, e, fun j hj => ?_⟩
  have hv : j < vs.length := by omega
  exact ⟨vs[j], hcc j _ (List.getElem?_eq_getElem hv), (h3 j _ _ (List.getElem?_eq_getElem hv) (List.getElem?_eq_getElem hj)).at⟩
theorem ownsRow_mono {w : World} {B B' : Nat} {e : TypeId} {size : Nat} {v : Value} {n : Nat} {xs : List Value} (h : w.ownsRow B e size v n xs) (hB : B' ≤ B) : w.ownsRow B' e size v n xs := by
  obtain ⟨h1, h2⟩ := h
  refine ⟨h1, ?_⟩
  rcases h2 with h2 | ⟨g, cap, cur, e1, hb, h3⟩
  · exact .inl h2
  · exact .inr ⟨g, cap, cur, e1, Nat.le_trans hB hb, h3⟩
theorem OwnNe {w : World} {B : Nat} {e : TypeId} {size : Nat} {v : Value} {n : Nat} {xs : List Value} (h : w.ownsRow B e size v n xs) {r : Nat} (hr : r < B) : v.ownBlock = none ∨ v.ownBlock ≠ some r := by
  right
  intro e2
  have := (h.lt r e2).1
  omega
/-- What the told list under way holds. -/
structure TlIn (S L : Str → Bool) (lst : List Str) : Prop where
  nodup : lst.Nodup
  mem : ∀ t, t ∈ lst ↔ ∃ s, S s = true ∧ L s = false ∧ t = backE s
theorem TlIn.add {S L : Str → Bool} {lst : List Str} {s : Str} (h : TlIn S L lst) (hinj : ∀ s s', S s = true → S s' = true → backE s = backE s' → s = s') (hs : S s = true) (hL : L s = true) : TlIn S (fun t => L t && !decide (t = s)) (lst ++ [backE s]) := by
  refine ⟨?_, fun t => ?_⟩
  · rw [List.nodup_append]
    refine ⟨h.nodup, by simp, ?_⟩
    intro a ha b hb e
    simp at hb
    subst hb; subst e
    obtain ⟨s', h1, h2, h3⟩ := (h.mem _).1 ha
    have := hinj s s' hs h1 h3
    subst this
    rw [hL] at h2; cases h2
  · rw [List.mem_append, h.mem, List.mem_singleton]
    constructor
    · rintro (⟨s', h1, h2, h3⟩ | h1)
      · exact ⟨s', h1, by simp [h2], h3⟩
      · exact ⟨s, hs, by simp, h1⟩
    · rintro ⟨s', h1, h2, h3⟩
      by_cases e : s' = s
      · subst e; exact .inr h3
      · exact .inl ⟨s', h1, by simpa [e] using h2, h3⟩

/-- What `impl.First` gives. -/
structure FirstIs (g : Gram) (H : List Str) (Fs : List (List Str)) : Prop where
  len : Fs.length = H.length
  row : ∀ (k : Nat) (A : Str) (L : List Str), H[k]? = some A → Fs[k]? = some L → L.Nodup ∧ sortedS L ∧ ∀ t, t ∈ L ↔ phi g A t = true

set_option maxRecDepth 20000 in
set_option maxHeartbeats 4000000 in
theorem First17_any (v : Value) (g : Gram) (w : World) (h : GramAt w v g) (hg : GOk g) :
    Calls Tryz.prog 17 #[v] w fun e w' => ∃ v' Fs, e = .returned (.tuple #[v', .bool true]) ∧ MatAt w' v' Fs ∧ FirstIs g (headsF g) Fs ∧ New w w' := by
  obtain ⟨a, cap, rfl⟩ := h.slice
  have hm := hg.toSm
  have hlen := hm.len
  have hq1 := Lib.hid (right_any _ g w h hm)
  have HG := Lib.hid (And.intro h hg)
  clear h
  go_enter Tryz.func17, Tryz.ntmps17
  go_wp2_with fail
  refine hq1.out.mono ?_
  rintro e w1 ⟨rfl, hn1⟩
  go_wp2_with fail
  refine (built_any _ g w1 (HG.out.1.new hn1) hm).mono ?_
  rintro e w2 ⟨x, p, fp, rfl, hb, hn2⟩
  obtain ⟨B, m1, m2, m3, r2, r4, r5, ns, B', M, sg, n, _, hst, hfs, hn8, hok, hcl⟩ := hb
  have HF := Lib.hid (And.intro hfs (And.intro hok hcl))
  have hnw2 := hn1.trans hn2
  clear hst hfs hok hcl
  go_wp2_with fail
  go_loopg [7, 24] g.length (fun gk u7 u24 wr => ∃ (k : Nat) (Fs : List (List Str)), k ≤ g.length ∧ gk = g.length - k ∧ u24 = .int .i64 k ∧ MatG wr w2.heap.size u7 Fs ∧ Fs.length ≤ k ∧ Hid (FirstIs g (headsF (g.take k)) Fs) ∧ New w2 wr)
  case atStart => exact ⟨0, [], Nat.zero_le _, rfl, rfl, ⟨[], ⟨rfl, .inl ⟨rfl, rfl⟩⟩, rfl, fun k u L e => by simp at e⟩, Nat.le_refl _, Lib.hid ⟨rfl, fun k A L e => by simp [headsF] at e⟩, New.refl _⟩
  case round =>
    obtain ⟨k, Fs, hk, rfl, rfl, hM, hFl, hFi, hn⟩ := hrel
    by_cases hlt : k < g.length
    · obtain ⟨b, o, a', cap', e, h1, h2, h3⟩ := (HG.out.1.new hnw2).elem hlt
      cases e
      have hmem := List.getElem_mem hlt
      have hsz := hn.size
      obtain ⟨wo, hwo⟩ : ∃ wo : World, wo = wr := ⟨_, rfl⟩
      subst hwo
      have hq := Lib.hid (fun W (hW : New wo W) => implHead_any _ (g.take k) g[k].1 W (((HG.out.1.new hnw2).new (hn.trans hW)).take k hk) (by simp; omega))
      have h1 := hn.cell h1
      have h2 := hn.cell h2
      clear h3
      go_wp2_with fail
      have hW : New wo (wo.alloc (.cells #[sv g[k].1, .slice a' g[k].2.length cap'] 67)) := (New.refl wo).alloc _
      have hbox : (wo.alloc (.cells #[sv g[k].1, .slice a' g[k].2.length cap'] 67)).cell? ⟨wo.heap.size, 0, none⟩ = some (sv g[k].1) := by simp
      generalize wo.alloc (.cells #[sv g[k].1, .slice a' g[k].2.length cap'] 67) = W at *
      have HWB := Lib.hid (And.intro hW hbox)
      have hcap := HG.out.1.cap.2
      have hb0 : (0 : Int) ≤ (k : Int) := by omega
      have hb1 : (k : Int) ≤ (cap : Int) := by omega
      clear hW h1 h2
      cases hh : isHead (g.take k) g[k].1 with
      | true =>
        rw [hh] at hq
        have HHH := Lib.hid (show isHead (g.take k) g[k].1 = true from hh)
        clear hh
        go_region_held3 (fun w' => w'.cell? ⟨wo.heap.size, 0, none⟩ = some (sv g[k].1)) (first | exact hbox | exact New.cell hn' hbox | go_keep) (first | (go_at_call 56; refine (hq.out _ (by first | exact HWB.out.1 | exact HWB.out.1.drewN _)).mono ?_; rintro e w3 ⟨rfl, hn'⟩))
        have hn3 : New wo w3 := (HWB.out.1.drewN 1).trans hn'
        have hFi' : FirstIs g (headsF (g.take (k + 1))) Fs := by
          rw [headsF_take hlt, addTo_yes (by rw [has_iff, headsF_mem]; exact HHH.out)]; exact hFi.out
        have HFI := Lib.hid hFi'
        clear hFi' hn'
        go_wp2
        go_roundg (g.length - (k + 1))
        case measure => omega
        case rel => exact ⟨k + 1, Fs, by omega, rfl, by go_num, hM.new hn3, by omega, HFI, hn.trans hn3⟩
      | false =>
        rw [hh] at hq
        have HHH := Lib.hid hh
        clear hh
        go_region_held3 (fun w' => w'.cell? ⟨wo.heap.size, 0, none⟩ = some (sv g[k].1)) (first | exact hbox | exact New.cell hn' hbox | go_keep) (first | (go_at_call 56; refine (hq.out _ (by first | exact HWB.out.1 | exact HWB.out.1.drewN _)).mono ?_; rintro e w3 ⟨rfl, hn'⟩))
        have hn3 : New wo w3 := (HWB.out.1.drewN 1).trans hn'
        have hb3 := hn'.cell (show (W.drewN 1).cell? ⟨wo.heap.size, 0, none⟩ = some (sv g[k].1) from hbox)
        have hAl : g[k].1.length ≤ 4 := symbolOk_le (hm.head _ hmem).1
        have hAne : g[k].1 ≠ startS := (letters_ne (hm.head _ hmem).1).1
        have HTT := Lib.hid (tau_told hm HF.out.2.1 HF.out.2.2 hAne)
        have hfs3 := HF.out.1.new (hn.trans hn3)
        have H3 := Lib.hid (And.intro hfs3 hn3)
        clear hbox hn' hAne hfs3 hn3 hq
        go_wp2_with fail
        refine (GetSet_any H3.out.1 g[k].1 (by omega)).mono ?_
        rintro e w4 ⟨vs, rfl, hvs, hvb, rfl⟩
        have hvlt : ∀ b, vs = .map (some b) → b < w3.heap.size := fun b e => by
          obtain ⟨q, h1, h2⟩ := hvb b e
          rw [h2]; exact (H3.out.1.set _ q h1).lt
        have HVL := Lib.hid hvlt
        clear hvb hvlt
        go_wp2_with (first | (at_range; refine wpList_vrange _ rfl _ 82 4 rfl Tryz.underlying9 Tryz.underlying82 vs n (bitF (tau sg g[k].1)) rfl hvs ?_; intro w5 cnt0 hrg0 hg0))
        have hsz5 : w3.heap.size < w5.heap.size := hrg0.lt
        have hn5 : New w3 w5 := ⟨hg0.os, hg0.tape, hg0.output, hg0.size, fun k hk => hg0.block k hk (by simp)⟩
        have H5 := Lib.hid hn5
        clear hn5 hg0 hvs
        go_frame
        go_loopg [10] n (fun gj u10 wr => ∃ (cnt : Nat) (L : Str → Bool) (lst : List Str), RangeV Tryz.prog 9 wr vs w3.heap.size n (bitF (tau sg g[k].1)) L cnt ∧ cnt ≤ gj ∧ Strs wr (w3.heap.size + 1) u10 lst ∧ lst.length + cnt ≤ n ∧ Hid (TlIn (tau sg g[k].1) L lst) ∧ New w3 wr)
        case atStart =>
          refine ⟨cnt0, _, [], hrg0, hrg0.cnt_le, ⟨rfl, .inl ⟨rfl, rfl⟩⟩, by simpa using hrg0.cnt_le, Lib.hid ⟨List.nodup_nil, fun t => ?_⟩, H5.out⟩
          constructor
          · intro h; cases h
          · rintro ⟨s, h1, h2, _⟩
            rw [bitF_some, h1] at h2; cases h2
        case round =>
          clear hrg0
          obtain ⟨cnt, L, lst, hrg, hc, hown, hll, hTl, hn5⟩ := hrel
          go_wp2_with (first | (at_next; refine wpList_vnext _ rfl _ rfl Tryz.underlying9 vs w3.heap.size n (bitF (tau sg g[k].1)) L cnt rfl hrg ?_ ?_))
          · intro hl
            have HL := Lib.hid hl
            clear hl
            -- the list is whole
            have hmem' : ∀ t, t ∈ lst ↔ phi g g[k].1 t = true := fun t => by
              rw [HTT.out.2.2, hTl.out.mem]
              constructor
              · rintro ⟨s, h1, _, h2⟩; exact ⟨s, h1, h2⟩
              · rintro ⟨s, h1, h2⟩; exact ⟨s, h1, HL.out s, h2⟩
            have h0 : 0 < lst.length := by
              obtain ⟨t, ht⟩ := first_some hg.prod (phi_least g).closed (isHead_iff.2 ⟨g[k].2, hmem⟩)
              exact List.length_pos_of_mem ((hmem' t).2 ht)
            have hq := Lib.hid (Sort_strs hown h0 (by omega))
            have HME := Lib.hid (And.intro hmem' hTl.out.nodup)
            have hB5 := hn5.size
            clear hmem'
            go_wp2_with fail
            refine hq.out.mono ?_
            rintro e w6 ⟨rfl, hs6, hg6⟩
            have hn6 : New w3 w6 := Below.push hn5 (ownsRow_mono hown (by omega)) hg6 hn5.size
            have hM6 := (hM.new H3.out.2).new hn6
            obtain ⟨vM, hvM⟩ := hM6
            have H6 := Lib.hid (And.intro hn6 (And.intro hs6 hvM))
            obtain ⟨hown7, hvl, hvr⟩ := hvM
            have hFl2 : Fs.length ≤ 12 := by omega
            have hw6 : w2.heap.size ≤ w6.heap.size := by have := hn6.size; have := H3.out.2.size; omega
            obtain ⟨a10, c10, rfl⟩ := owns_slice hs6
            clear hq hown hg6 hs6 hn6 hvr hn5 hrg
            go_wp2_with (at_builtin; go_must (refine wpList_push _ rfl _ _ _ _ rfl T29 w2.heap.size _ _ _ rfl hown7 [_] rfl rfl _ _ rfl (by simp) (by omega) (by omega) (by omega) ?_))
            intro v' w8 hown8 hgrow hne hat
            obtain ⟨hn6, hs6, hown7', hvl, hvr⟩ := H6.out
            have hrow8 : Strs w8 (w3.heap.size + 1) (.slice a10 (sortS lst).length c10) (sortS lst) := World.ownsRow.kept hs6 hgrow (ownBlock_ne_row hs6 hown7' (by decide))
            have hM8 : MatG w8 w2.heap.size v' (Fs ++ [sortS lst]) := by
              refine ⟨vM ++ [.slice a10 (sortS lst).length c10], ?_, by simp [hvl], fun j u L hu hL => ?_⟩
              · rw [List.length_append]; exact hown8
              · rcases getElem?_snoc hu with hu | ⟨rfl, rfl⟩
                · have hjl := (List.getElem?_eq_some_iff.1 hu).1
                  rw [List.getElem?_append_left (by omega)] at hL
                  have := hvr j u L hu hL
                  exact World.ownsRow.kept this hgrow (ownBlock_ne_row this hown7' (by decide))
                · rw [hvl, List.getElem?_append_right (Nat.le_refl _), Nat.sub_self] at hL
                  cases hL
                  exact ownsRow_mono hrow8 (by have := H3.out.2.size; omega)
            have hn8 : New w2 w8 := Below.push ((hn.trans H3.out.2).trans hn6) hown7' hgrow hw6
            have hFi8 : FirstIs g (headsF (g.take (k + 1))) (Fs ++ [sortS lst]) := by
              have hno : has (headsF (g.take k)) g[k].1 = false := by
                cases hx : has (headsF (g.take k)) g[k].1 with
                | false => rfl
                | true => rw [has_iff, headsF_mem, HHH.out] at hx; cases hx
              rw [headsF_take hlt, addTo_no hno]
              refine ⟨by simp [hFi.out.len], fun j A L hA hL => ?_⟩
              rcases getElem?_snoc hA with hA | ⟨rfl, rfl⟩
              · have hjl := (List.getElem?_eq_some_iff.1 hA).1
                rw [List.getElem?_append_left (by rw [hFi.out.len]; exact hjl)] at hL
                exact hFi.out.row j A L hA hL
              · rw [← hFi.out.len, List.getElem?_append_right (Nat.le_refl _), Nat.sub_self] at hL
                cases hL
                exact ⟨sortS_nodup HME.out.2, sortS_sorted lst, fun t => by rw [sortS_mem]; exact HME.out.1 t⟩
            have HFIN := Lib.hid (And.intro hM8 (And.intro hn8 hFi8))
            obtain ⟨aM, cM, rfl⟩ := owns_slice hown8
            clear hn6 hs6 hown7' hvl hvr hrow8 hM8 hn8 hFi8 hgrow hne hat hown8 hown7
            go_wp2
            go_roundg (g.length - (k + 1))
            case measure => omega
            case rel => exact ⟨k + 1, _, by omega, rfl, by go_num, HFIN.out.1, by simp; omega, Lib.hid HFIN.out.2.2, HFIN.out.2.1⟩
          · intro s u w6 cnt6 hsl hLs hfs hrg6 hlt6 hg6 hsz6 hent
            have hs : tau sg g[k].1 s = true := by
              have := bitF_some (tau sg g[k].1) s
              rw [hfs] at this
              exact this.symm
            have hu : u = .bool true := by
              have e : bitF (tau sg g[k].1) s = some (.bool true) := by unfold bitF; rw [if_pos hs]
              rw [e] at hfs
              exact (Option.some.inj hfs).symm
            subst hu
            have hsl3 : w3.heap.size < wr.heap.size := hrg.lt
            have hown6 := World.ownsRow.kept hown hg6 (OwnNe hown (Nat.lt_succ_self _))
            have hn6 : New w3 w6 := Below.grown hn5 hg6 hn5.size (fun k hk => by injection hk with hk; omega)
            have hT := Lib.hid (hTl.out.add HTT.out.2.1 hs hLs)
            have htd := HTT.out.1 s hs
            have H6 := Lib.hid (And.intro htd (And.intro hown6 hn6))
            clear hfs hLs hs hown hg6 hrg hn5 hn6
            have hsz6' : w3.heap.size + 1 ≤ w6.heap.size := by omega
            clear hsz6
            by_cases he : s = emptyS
            · have hb0 : backE s = [] := by rw [he]; rfl
              rw [hb0] at hT htd
              subst he
              have htold := told_any [] 
              rw [htd] at htold
              have HTO := Lib.hid htold
              have hown6 := H6.out.2.1
              clear htd hb0 htold
              go_wp2_with (first | (go_at_call 52; refine (HTO.out _).mono ?_; rintro e w' ⟨rfl, rfl⟩) | (at_builtin; go_must (refine wpList_push _ rfl _ _ _ _ rfl T24 (w3.heap.size + 1) _ _ _ rfl hown6 [_] rfl rfl _ _ rfl (by simp) (by omega) (by omega) (by omega) ?_)))
              intro v' w8 hown8 hgrow hne hat
              have hn8 : New w3 w8 := Below.push H6.out.2.2 (ownsRow_mono hown6 (by omega)) hgrow H6.out.2.2.size
              have hrg8 : RangeV Tryz.prog 9 w8 vs w3.heap.size n (bitF (tau sg g[k].1)) (fun t => L t && !decide (t = emptyS)) cnt6 :=
                hrg6.same (hgrow.block _ (by omega) (fun e => by have := (hown6.lt _ e.symm).1; omega)) (fun b e => hgrow.block _ (by have := HVL.out b e; omega) (fun e2 => by have := (hown6.lt _ e2.symm).1; have := HVL.out b e; omega))
              have hown9 := Strs.push hown8
              have HX := Lib.hid (And.intro hn8 hrg8)
              obtain ⟨a10, c10, rfl⟩ := owns_slice hown8
              clear hn8 hrg8 hgrow hne hat hown8 hown6
              go_wp2
              go_roundg cnt6
              case measure => omega
              case rel => exact ⟨cnt6, _, _, HX.out.2, Nat.le_refl _, hown9, by simp; omega, hT, HX.out.1⟩
            · have hb0 : backE s = s := if_neg he
              rw [hb0] at hT htd
              have htold := told_any s
              rw [htd] at htold
              have HTO := Lib.hid htold
              have hown6 := H6.out.2.1
              have hed : (s == [101, 109, 112, 116, 121]) = false := beq_eq_false_iff_ne.2 he
              clear htd hb0 htold he
              go_wp2_with (first | (go_at_call 52; refine (HTO.out _).mono ?_; rintro e w' ⟨rfl, rfl⟩) | (at_builtin; go_must (refine wpList_push _ rfl _ _ _ _ rfl T24 (w3.heap.size + 1) _ _ _ rfl hown6 [_] rfl rfl _ _ rfl (by simp) (by omega) (by omega) (by omega) ?_)))
              intro v' w8 hown8 hgrow hne hat
              have hn8 : New w3 w8 := Below.push H6.out.2.2 (ownsRow_mono hown6 (by omega)) hgrow H6.out.2.2.size
              have hrg8 : RangeV Tryz.prog 9 w8 vs w3.heap.size n (bitF (tau sg g[k].1)) (fun t => L t && !decide (t = s)) cnt6 :=
                hrg6.same (hgrow.block _ (by omega) (fun e => by have := (hown6.lt _ e.symm).1; omega)) (fun b e => hgrow.block _ (by have := HVL.out b e; omega) (fun e2 => by have := (hown6.lt _ e2.symm).1; have := HVL.out b e; omega))
              have hown9 := Strs.push hown8
              have HX := Lib.hid (And.intro hn8 hrg8)
              obtain ⟨a10, c10, rfl⟩ := owns_slice hown8
              clear hn8 hrg8 hgrow hne hat hown8 hown6
              go_wp2
              go_roundg cnt6
              case measure => omega
              case rel => exact ⟨cnt6, _, _, HX.out.2, Nat.le_refl _, hown9, by simp; omega, hT, HX.out.1⟩
    · have hfin := hM.at
      have e : g.take k = g := List.take_of_length_le (by omega)
      rw [e] at hFi
      obtain ⟨aM, cM, rfl⟩ := hfin.slice
      have HA := Lib.hid hfin
      clear hM hfin e
      go_wp2_with fail
      go_ret2
      exact ⟨_, Fs, rfl, HA.out, hFi.out, hnw2.trans hn⟩
end Go.Proofs.YtdejcdmgcckmoaaGreatDoor
namespace Go.Proofs.YtdejcdmgcckmoaaGreatDoor
open Go.RowKit Lr

theorem enters20 : ∀ args w, (callFunc 20 args).run Tryz.prog w = .ok (.enter 20 args) w := enters_of Tryz.func20 (by kernel_rfl) rfl
set_option maxRecDepth 20000 in
set_option maxHeartbeats 1000000 in
theorem EqualFunc_same (v v' : Value) (Ls : List (List Str)) (w : World) (h : MatAt w v Ls) (h' : MatAt w v' Ls) (hl : Ls.length ≤ 100000) (hr : ∀ r ∈ Ls, r.length ≤ 100000) :
    Calls Tryz.prog 18 #[v, v', .func (.func 20) #[] #[]] w fun e w' => e = .returned (.bool true) ∧ New w w' := by
  obtain ⟨a, c, rfl⟩ := h.slice
  obtain ⟨a', c', rfl⟩ := h'.slice
  have hne : ((Ls.length : Int) != (Ls.length : Int)) = false := by simp
  have hE := enters20
  have HH := Lib.hid (And.intro h (And.intro h' hr))
  clear h h' hr
  go_enter Tryz.func18, Tryz.ntmps18
  go_wp2
  go_loopg [17] Ls.length (fun gk u17 wr => ∃ k : Nat, k ≤ Ls.length ∧ gk = Ls.length - k ∧ u17 = .int .i64 k ∧ New w wr)
  case atStart => exact ⟨0, Nat.zero_le _, rfl, rfl, New.refl _⟩
  case round =>
    obtain ⟨k, hk, rfl, rfl, hn⟩ := hrel
    by_cases hlt : k < Ls.length
    · obtain ⟨b, o, a1, c1, e, h1, h2⟩ := HH.out.1.elem hlt
      cases e
      obtain ⟨b', o', a2, c2, e, h3, h4⟩ := HH.out.2.1.elem hlt
      cases e
      have hrl := HH.out.2.2 _ (List.getElem_mem hlt)
      have hq := Equal_str _ _ Ls[k] Ls[k] wr (h2.new hn) (h4.new hn) (by omega) (by omega)
      rw [show (Ls[k] == Ls[k]) = true from by simp] at hq
      have hq := Lib.hid hq
      have h1 := hn.cell h1
      have h3 := hn.cell h3
      clear h2 h4
      go_wp2_with fail
      refine hq.out.mono ?_
      rintro e w1 ⟨rfl, hn1⟩
      have hn2 := hn.trans hn1
      clear hq hn hn1 h1 h3
      go_wp2
      go_roundg (Ls.length - (k + 1))
      case measure => omega
      case rel => exact ⟨k + 1, by omega, rfl, by go_num, hn2⟩
    · go_wp2
      go_ret
      exact ⟨rfl, hn⟩

/-- What the two sides give is one. -/
theorem firsts_same {g : Gram} {Fs Ls : List (List Str)} (h : FirstIs g (headsF g) Fs) (k : FirstsOk g (headsF g) Ls) : Fs = Ls := by
  apply List.ext_getElem
  · rw [h.len, k.len]
  · intro i h1 h2
    have hi : i < (headsF g).length := by rw [← h.len]; exact h1
    obtain ⟨a1, a2, a3⟩ := h.row i _ _ (List.getElem?_eq_getElem hi) (List.getElem?_eq_getElem h1)
    refine sorted_eq a2 (k.sorted _ (List.getElem_mem h2)) a1 (k.nodup _ (List.getElem_mem h2)) fun t => ?_
    rw [a3, ← LeastS.eq k.least (phi_least g)]
    have hh : has (headsF g) (headsF g)[i] = true := has_iff.2 (List.getElem_mem hi)
    obtain ⟨j, hj, hjl⟩ := idxOf_yes (k := 0) hh
    rw [Nat.zero_add] at hj
    have hjH := (List.getElem?_eq_some_iff.1 hjl).1
    have e : j = i := (List.getElem_inj (h₀ := hjH) (h₁ := hi) (headsF_nodup g)).1 (List.getElem?_eq_some_iff.1 hjl).2
    subst e
    rw [phL_at hh hj h2, has_iff]

set_option maxRecDepth 20000 in
set_option maxHeartbeats 2000000 in
theorem FnFirst_any (v : Value) (g : Gram) (w : World) (h : GramAt w v g) (hf : Fits g) :
    Calls Tryz.prog 4 #[v] w fun e w' => e = .returned (.bool true) ∧ New w w' := by
  obtain ⟨a, cap, rfl⟩ := h.slice
  have HG := Lib.hid (And.intro h hf)
  clear h hf
  go_enter Tryz.func4, Tryz.ntmps4
  go_wp2_with fail
  refine (zzFits1_any _ g w HG.out.1 HG.out.2).mono ?_
  rintro e w1 ⟨b1, rfl, hn1⟩
  cases b1 with
  | false =>
    go_wp2
    go_ret
    exact ⟨rfl, hn1⟩
  | true =>
    go_wp2_with fail
    refine (GrammarOk_any _ g w1 (HG.out.1.new hn1) HG.out.2).mono ?_
    rintro e w2 ⟨b2, rfl, hok, hn2⟩
    cases b2 with
    | false =>
      clear hok
      go_wp2
      go_ret
      exact ⟨rfl, hn1.trans hn2⟩
    | true =>
      have HOK := Lib.hid (hok rfl)
      have hnw2 := hn1.trans hn2
      clear hok
      go_wp2_with fail
      refine (First17_any _ g w2 (HG.out.1.new hnw2) HOK.out).mono ?_
      rintro e w3 ⟨v3, Fs, rfl, hM3, hF3, hn3⟩
      have hnw3 := hnw2.trans hn3
      obtain ⟨a3, c3, rfl⟩ := hM3.slice
      have H3 := Lib.hid (And.intro hM3 hF3)
      clear hM3 hF3
      go_wp2_with fail
      refine (Firsts_any _ g w3 (HG.out.1.new hnw3) HOK.out).mono ?_
      rintro e w4 ⟨v4, Ls, rfl, hM4, hF4, hn4⟩
      have he := firsts_same H3.out.2 hF4
      subst he
      obtain ⟨a4, c4, rfl⟩ := hM4.slice
      have hl1 : Fs.length ≤ 100000 := by
        have := hF4.len
        have := headsF_len g
        have := HOK.out.len
        omega
      have hl2 : ∀ r ∈ Fs, r.length ≤ 100000 := fun r hr => by
        have := nodup_le (hF4.nodup r hr) (hF4.inU r hr)
        have := firstU_len HOK.out.toSm
        omega
      have hq := Lib.hid (EqualFunc_same _ _ Fs w4 (H3.out.1.new hn4) hM4 hl1 hl2)
      clear hl2 hM4 hF4
      go_wp2_with fail
      refine hq.out.mono ?_
      rintro e w5 ⟨rfl, hn5⟩
      go_wp2
      go_ret
      exact ⟨rfl, (hnw3.trans hn4).trans hn5⟩
end Go.Proofs.YtdejcdmgcckmoaaGreatDoor
