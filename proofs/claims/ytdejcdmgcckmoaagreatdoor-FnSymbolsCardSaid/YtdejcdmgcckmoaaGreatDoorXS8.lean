/- A part of the proofs about gocc: S8. -/
import Derived.Test.YtdejcdmgcckmoaaGreatDoorXS6
import Derived.Test.YtdejcdmgcckmoaaGreatDoorXS3
import Derived.Test.YtdejcdmgcckmoaaGreatDoorXF9
namespace Go.Proofs.YtdejcdmgcckmoaaGreatDoor
open Go.RowKit Lr

def symOf (g : Gram) (s : Str) : Sy := if isHead g s then .nt s else .tk s

/-- A production behind its pointer, with its blocks. -/
def ProdBlk (w : World) (v : Value) (p : AP) : Prop :=
  ∃ b q a c B, v = .pointer (some ⟨b, 0, none⟩) ∧ w.heap[b]? = some (.cells #[sv p.1, .pointer (some ⟨q, 0, none⟩)] 148 (0, 0)) ∧ w.heap[q]? = some (.cells #[.bool false, .slice a p.2.length c, sv []] 192 (0, 0)) ∧
    w.ownsRow B 207 1 (.slice a p.2.length c) p.2.length (p.2.map Sy.val)
theorem sys_of_row {w : World} {B : Nat} {v : Value} {l : List Sy} (h : w.ownsRow B 207 1 v l.length (l.map Sy.val)) : SysAt w v l := by
  obtain ⟨_, sa8, sc8, e8, hsc8, hc8⟩ := row_cells h
  cases e8
  refine ⟨sa8, sc8, rfl, hsc8, fun hne => ?_⟩
  obtain ⟨bb, e, hcc⟩ := hc8 hne
  exact ⟨bb, 0, e, fun j hj => hcc j _ (by simp [hj, List.getD])⟩
theorem ProdBlk.ptr {w : World} {v : Value} {p : AP} (h : ProdBlk w v p) : ProdPtr w v p := by
  obtain ⟨b, q, a, c, B, rfl, h1, h2, h3⟩ := h
  refine ⟨b, q, a, c, rfl, ?_, ?_, ?_, sys_of_row h3⟩
  · rw [cell_of_blk h1]; rfl
  · rw [cell_of_blk h1]; rfl
  · rw [cell_of_blk h2]; rfl
theorem ProdBlk.new {w w' : World} {v : Value} {p : AP} (h : ProdBlk w v p) (hn : New w w') : ProdBlk w' v p := by
  obtain ⟨b, q, a, c, B, rfl, h1, h2, h3⟩ := h
  exact ⟨b, q, a, c, B, rfl, hn.heap h1, hn.heap h2, ownsRow_new h3 hn⟩
theorem ownBlock_ne_row {w : World} {B B' e t s s' : Nat} {v v' : Value} {n n' : Nat} {xs xs' : List Value} (h : w.ownsRow B e s v n xs) (h' : w.ownsRow B' t s' v' n' xs') (hne : e ≠ t) : v.ownBlock = none ∨ v.ownBlock ≠ v'.ownBlock := by
  rcases h'.2 with ⟨rfl, _⟩ | ⟨g, cap, cur, rfl, _, hg, _⟩
  · cases hv : v.ownBlock with
    | none => exact .inl rfl
    | some k => right; simp [Value.ownBlock]
  · right
    exact ownBlock_ne h hg hne
theorem ProdBlk.kept {w w' : World} {v v5 : Value} {p : AP} {B k : Nat} {ps : List Value} (h : ProdBlk w v p) (hown : w.ownsRow B 97 1 v5 k ps) (hg : w.grownBy w' v5.ownBlock) : ProdBlk w' v p := by
  obtain ⟨b, q, a, c, B', rfl, h1, h2, h3⟩ := h
  exact ⟨b, q, a, c, B', rfl, (hg.block b (lt_of_block h1) (fun e => ownBlock_ne hown h1 (by decide) e.symm)).trans h1, (hg.block q (lt_of_block h2) (fun e => ownBlock_ne hown h2 (by decide) e.symm)).trans h2, h3.kept hg (ownBlock_ne_row h3 hown (by decide))⟩

abbrev bltW (w : World) (s : Str) (v : Value) : World := ((w.alloc (.cells #[.bool false, v, sv []] 192)).alloc (.cells #[sv s, .pointer (some ⟨w.heap.size, 0, none⟩)] 148)).alloc (.cells #[.pointer (some ⟨w.heap.size + 1, 0, none⟩)] 97)
theorem blt_world (w : World) (s : Str) (l : List Sy) (a : Option Addr) (c B : Nat) (h : w.ownsRow B 207 1 (.slice a l.length c) l.length (l.map Sy.val)) : New w (bltW w s (.slice a l.length c)) ∧ ProdBlk (bltW w s (.slice a l.length c)) (.pointer (some ⟨w.heap.size + 1, 0, none⟩)) (s, l) ∧
    (bltW w s (.slice a l.length c)).heap[w.heap.size + 1 + 1]? = some (.cells #[.pointer (some ⟨w.heap.size + 1, 0, none⟩)] 97 (0, 0)) ∧ (bltW w s (.slice a l.length c)).heap.size = w.heap.size + 1 + 1 + 1 := by
  have hn : New w (bltW w s (.slice a l.length c)) := (((New.refl _).alloc _).alloc _).alloc _
  have q1 : (bltW w s (.slice a l.length c)).heap[w.heap.size]? = _ := New.heap (((New.refl (w.alloc (.cells #[.bool false, .slice a l.length c, sv []] 192))).alloc _).alloc _) (heap_alloc_new w _)
  have q2 : (bltW w s (.slice a l.length c)).heap[w.heap.size + 1]? = some (.cells #[sv s, .pointer (some ⟨w.heap.size, 0, none⟩)] 148 (0, 0)) := by
    have := New.heap ((New.refl ((w.alloc (.cells #[.bool false, .slice a l.length c, sv []] 192)).alloc (.cells #[sv s, .pointer (some ⟨w.heap.size, 0, none⟩)] 148))).alloc (.cells #[.pointer (some ⟨w.heap.size + 1, 0, none⟩)] 97)) (heap_alloc_new (w.alloc (.cells #[.bool false, .slice a l.length c, sv []] 192)) _)
    simpa using this
  refine ⟨hn, ⟨_, w.heap.size, a, c, B, rfl, q2, q1, ownsRow_new h hn⟩, ?_, by simp [bltW]⟩
  · have := heap_alloc_new ((w.alloc (.cells #[.bool false, .slice a l.length c, sv []] 192)).alloc (.cells #[sv s, .pointer (some ⟨w.heap.size, 0, none⟩)] 148)) (.cells #[.pointer (some ⟨w.heap.size + 1, 0, none⟩)] 97)
    simpa [bltW] using this

/-- What `built` leaves. -/
def Built (w : World) (x p fp : Nat) (g : Gram) : Prop := ∃ B m1 m2 m3 r2 r4 r5 ns B' M sg n, GrmAt w (.pointer (some ⟨x, 0, none⟩)) (augP g) ∧ SymSt w B p m1 m2 m3 r2 r4 r5 (typesA (augP g) [invalidS, eofS]) (headsA (augP g)) (headsA (augP g)) ns ∧
  FsSt w B' fp M (.pointer (some ⟨p, 0, none⟩)) sg n ∧ n ≤ 8000 ∧ FsOk (augP g) (headsA (augP g)) (tau sg) ∧ ∀ q ∈ augP g, ClosedF (tau sg) (headsA (augP g)) q
theorem Built.new {w w' : World} {x p fp : Nat} {g : Gram} (h : Built w x p fp g) (hn : New w w') : Built w' x p fp g := by
  obtain ⟨B, m1, m2, m3, r2, r4, r5, ns, B', M, sg, n, h1, h2, h3, h4⟩ := h
  exact ⟨B, m1, m2, m3, r2, r4, r5, ns, B', M, sg, n, h1.new hn, h2.new hn, h3.new hn, h4⟩

theorem symOf_str (g : Gram) (s : Str) : (symOf g s).str = s := by unfold symOf; split <;> rfl
theorem bodyS_eq (g : Gram) (b : List Str) : bodyS g b = if b = [] then [.em] else b.map (symOf g) := rfl
theorem augP_fit {g : Gram} (hm : Sm g) : ∀ p ∈ augP g, p.1.length ≤ 1000 ∧ p.2.length ≤ 20 ∧ ∀ s ∈ p.2, s.str.length ≤ 1000 := by
  intro p hp
  rcases List.mem_cons.1 hp with rfl | hp
  · refine ⟨by simp [startS], by simp, fun s hs => ?_⟩
    simp only [List.mem_singleton] at hs
    subst hs
    have := symbolOk_le (hm.head _ (List.getElem_mem hm.pos)).1
    rw [← start_get hm.pos] at this
    exact Nat.le_trans this (by omega)
  · obtain ⟨q, hq, rfl⟩ := List.mem_map.1 hp
    have h1 := symbolOk_le (hm.head q hq).1
    have h2 := hm.body q hq
    refine ⟨Nat.le_trans h1 (by omega), ?_, fun s hs => ?_⟩
    · show (bodyS g q.2).length ≤ 20
      rw [bodyS_eq]
      split
      · simp
      · simp; omega
    · have hs' : s ∈ bodyS g q.2 := hs
      rw [bodyS_eq] at hs'
      split at hs'
      · simp at hs'; subst hs'; decide
      · obtain ⟨u, hu, rfl⟩ := List.mem_map.1 hs'
        rw [symOf_str]
        have := symbolOk_le (hm.sym q hq u hu)
        omega
theorem augP_bodies {g : Gram} (hm : Sm g) : ∀ p ∈ augP g, ∃ s rest, p.2 = s :: rest ∧ (s.str = emptyS → rest = []) := by
  intro p hp
  rcases List.mem_cons.1 hp with rfl | hp
  · exact ⟨_, [], rfl, fun _ => rfl⟩
  · obtain ⟨q, hq, rfl⟩ := List.mem_map.1 hp
    show ∃ s rest, bodyS g q.2 = s :: rest ∧ _
    rw [bodyS_eq]
    cases hb : q.2 with
    | nil => exact ⟨.em, [], rfl, fun _ => rfl⟩
    | cons u r =>
      refine ⟨symOf g u, r.map (symOf g), by simp, fun e => ?_⟩
      rw [symOf_str] at e
      have := symbolOk_le (hm.sym q hq u (by rw [hb]; exact List.mem_cons_self ..))
      rw [e] at this
      exact absurd this (by decide)

set_option maxRecDepth 20000 in
set_option maxHeartbeats 4000000 in
theorem built_any (v : Value) (g : Gram) (w : World) (h : GramAt w v g) (hm : Sm g) :
    Calls Tryz.prog 50 #[v] w fun e w' => ∃ x p fp, e = .returned (.tuple #[.pointer (some ⟨x, 0, none⟩), .pointer (some ⟨p, 0, none⟩), .pointer (some ⟨fp, 0, none⟩)]) ∧ Built w' x p fp g ∧ New w w' := by
  obtain ⟨a, cap, rfl⟩ := h.slice
  have hlen := hm.len
  have HG := Lib.hid h
  clear h
  go_enter Tryz.func50, Tryz.ntmps50
  go_wp2
  go_loopg [5, 15] g.length (fun gk v5 i wr => ∃ (k : Nat) (ps : List Value), k ≤ g.length ∧ gk = g.length - k ∧ i = .int .i64 k ∧ wr.ownsRow w.heap.size 97 1 v5 k ps ∧
    (∀ j, (hj : j < k) → (hj2 : j < g.length) → ∃ u, ps[j]? = some u ∧ ProdBlk wr u (g[j].1, bodyS g g[j].2)) ∧ New w wr)
  case atStart => exact ⟨0, [], Nat.zero_le _, rfl, rfl, ⟨rfl, .inl ⟨rfl, rfl⟩⟩, by intro j hj; omega, New.refl _⟩
  case round =>
    obtain ⟨k, ps, hk, rfl, rfl, hown, hps, hn⟩ := hrel
    have hB := hn.size
    obtain ⟨wo, hwo⟩ : ∃ wo : World, wo = wr := ⟨_, rfl⟩
    subst hwo
    by_cases hlt : k < g.length
    · obtain ⟨b, o, a', cap', e, h1, h2, h3⟩ := (HG.out.new hn).elem hlt
      cases e
      have hmem := List.getElem_mem hlt
      have hbl := hm.body _ hmem
      have HH := Lib.hid (And.intro hown hps)
      have H3 := Lib.hid h3
      clear h3 hown hps
      go_wp2_with fail
      have hW : New wo (wo.alloc (.cells #[.string { data := g[k].1.toArray }, .slice a' g[k].2.length cap'] 67)) := (New.refl wo).alloc _
      have hbox : (wo.alloc (.cells #[.string { data := g[k].1.toArray }, .slice a' g[k].2.length cap'] 67)).cell? ⟨wo.heap.size, 0, none⟩ = some (sv g[k].1) := by simp
      generalize wo.alloc (.cells #[.string { data := g[k].1.toArray }, .slice a' g[k].2.length cap'] 67) = W at *
      have HWB := Lib.hid (And.intro hW hbox)
      clear hW hbox h1 h2
      go_loopg [8, 22] g[k].2.length (fun gj v8 i wr => ∃ (j : Nat), j ≤ g[k].2.length ∧ gj = g[k].2.length - j ∧ i = .int .i64 j ∧ wr.ownsRow W.heap.size 207 1 v8 j ((g[k].2.take j).map fun s => (symOf g s).val) ∧ New W wr)
      case atStart => exact ⟨0, Nat.zero_le _, rfl, rfl, ⟨rfl, .inl ⟨rfl, rfl⟩⟩, New.refl _⟩
      case round =>
        obtain ⟨j, hj, rfl, rfl, hown, hnj⟩ := hrel
        have hBj := hnj.size
        obtain ⟨hW, hbox⟩ := HWB.out
        have hno : New wo wr := hW.trans hnj
        by_cases hlj : j < g[k].2.length
        · obtain ⟨b2, o2, e, c1⟩ := (H3.out.new hno).elem hlj
          cases e
          have hq := Lib.hid (implHead_any _ g g[k].2[j] wr (HG.out.new (hn.trans hno)) (by omega))
          have htk : ((g[k].2.take (j + 1)).map fun s => (symOf g s).val) = ((g[k].2.take j).map fun s => (symOf g s).val) ++ [(symOf g g[k].2[j]).val] := by
            rw [List.take_add_one, List.map_append]; simp [hlj]
          have HT := Lib.hid htk
          clear htk hbox
          cases hh : isHead g g[k].2[j] with
          | true =>
            rw [hh] at hq
            have HV : Hid ((symOf g g[k].2[j]).val = .iface 142 (sv g[k].2[j])) := Lib.hid (by simp [symOf, hh, Sy.val])
            clear hh
            go_wp2_with (first | (go_at_call 56; refine hq.out.mono ?_; rintro e w1 ⟨rfl, hn1⟩; have hown1 := ownsRow_new hown hn1; have hB1 := hn1.size; clear hq c1) | (at_builtin; go_must (refine wpList_push _ rfl _ _ _ _ rfl T141 W.heap.size _ _ _ rfl hown1 [_] rfl rfl _ _ rfl (by simp) (by omega) (by omega) (by omega) ?_)))
            intro v' w2 hown2 hgrow hne hat
            have hn2 : New W w2 := Below.push (hnj.trans hn1) hown1 hgrow (by omega)
            clear hgrow hown1 hown hn1
            go_wp2
            go_roundg (g[k].2.length - (j + 1))
            case measure => omega
            case rel => exact ⟨j + 1, by omega, rfl, by go_num, by rw [HT.out, HV.out, List.map_take]; exact hown2, hn2⟩
          | false =>
            rw [hh] at hq
            have HV : Hid ((symOf g g[k].2[j]).val = .iface 143 (sv g[k].2[j])) := Lib.hid (by simp [symOf, hh, Sy.val])
            clear hh
            go_wp2_with (first | (go_at_call 56; refine hq.out.mono ?_; rintro e w1 ⟨rfl, hn1⟩; have hown1 := ownsRow_new hown hn1; have hB1 := hn1.size; clear hq c1) | (at_builtin; go_must (refine wpList_push _ rfl _ _ _ _ rfl T141 W.heap.size _ _ _ rfl hown1 [_] rfl rfl _ _ rfl (by simp) (by omega) (by omega) (by omega) ?_)))
            intro v' w2 hown2 hgrow hne hat
            have hn2 : New W w2 := Below.push (hnj.trans hn1) hown1 hgrow (by omega)
            clear hgrow hown1 hown hn1
            go_wp2
            go_roundg (g[k].2.length - (j + 1))
            case measure => omega
            case rel => exact ⟨j + 1, by omega, rfl, by go_num, by rw [HT.out, HV.out, List.map_take]; exact hown2, hn2⟩
        · obtain rfl : j = g[k].2.length := by omega
          rw [List.take_length] at hown
          obtain ⟨_, sa, sc, rfl, hsc, _⟩ := row_cells hown
          clear hbox hBj
          go_upto_if 42 with fail
          go_cut [8] (fun v8 wc => wc.ownsRow W.heap.size 207 1 v8 (bodyS g g[k].2).length ((bodyS g g[k].2).map Sy.val) ∧ New W wc)
          case first =>
            by_cases hb : g[k].2 = []
            · have hbb : ((g[k].2.length : Int) == 0) = true := by rw [hb]; rfl
              have hW1 := hnj.size
              have Hb := Lib.hid hb
              clear hb
              go_wp2_with (at_builtin; go_must (refine wpList_push _ rfl _ _ _ _ rfl T141 W.heap.size _ _ _ rfl hown [_] rfl rfl _ _ rfl (by simp) (by omega) (by omega) (by omega) ?_))
              intro v' w2 hown2 hgrow hne hat
              have hn2 : New W w2 := Below.push hnj hown hgrow (by omega)
              clear hgrow hown
              go_wp2_with fail
              go_meet
              repeat apply Exists.intro
              refine ⟨?_, hn2⟩
              have hb := Hb.out
              have : bodyS g g[k].2 = [.em] := by simp [bodyS, hb]
              rw [this]
              rw [hb] at hown2
              exact hown2
            · have hbb : ((g[k].2.length : Int) == 0) = false := by
                cases hx : g[k].2 with
                | nil => exact absurd hx hb
                | cons a l => simp; omega
              have Hb := Lib.hid hb
              clear hb
              go_wp2_with fail
              go_meet
              repeat apply Exists.intro
              refine ⟨?_, hnj⟩
              have : bodyS g g[k].2 = g[k].2.map (symOf g) := by unfold bodyS; rw [if_neg Hb.out]; rfl
              rw [this, List.length_map, List.map_map]
              exact hown
          case rest =>
            obtain ⟨hown8, hnc⟩ := hcut
            obtain ⟨_, sa8, sc8, e8, hsc8, hc8⟩ := row_cells hown8
            cases e8
            obtain ⟨hW, hbox⟩ := HWB.out
            have hnoc := hW.trans hnc
            have hbox := hnc.cell hbox
            obtain ⟨hown, hps⟩ := HH.out
            have hown := ownsRow_new hown hnoc
            have hB := (hn.trans hnoc).size
            have HS := Lib.hid (And.intro hps (And.intro hnoc (hn.trans hnoc)))
            obtain ⟨hn4, hPP, hblk4, hsz4⟩ := blt_world wc g[k].1 (bodyS g g[k].2) sa8 sc8 _ hown8
            have HPP := Lib.hid (And.intro hn4 hPP)
            have hown4 := ownsRow_new hown hn4
            have hb4 := hn4.cell hbox
            have hbA := (((New.refl wc).alloc (.cells #[.bool false, .slice sa8 (bodyS g g[k].2).length sc8, sv []] 192))).cell hbox
            have hbB := (((New.refl wc).alloc (.cells #[.bool false, .slice sa8 (bodyS g g[k].2).length sc8, sv []] 192)).alloc (.cells #[sv g[k].1, .pointer (some ⟨wc.heap.size, 0, none⟩)] 148)).cell hbox
            have hBsz : w.heap.size ≤ (bltW wc g[k].1 (.slice sa8 (bodyS g g[k].2).length sc8)).heap.size := by omega
            have hneb : some wo.heap.size ≠ u5.ownBlock := fun e => by have := (HH.out.1.lt _ e.symm).2; omega
            have HWS := Lib.hid (And.intro hsz4 hown4)
            clear hps hown8 hnc hnoc hc8 hW hno hnj hsz4 hPP
            go_wp2_with fail
            go_region_held3 (fun w' => w'.cell? ⟨wo.heap.size, 0, none⟩ = some (sv g[k].1))
              (first
                | exact hbox
                | exact hbA
                | exact hbB
                | exact hb4
                | exact (hgrow.cell_far ⟨wo.heap.size, 0, none⟩ (World.block_lt_of_cell? _ _ hb4) (hneb)).trans hb4
                | go_keep)
              (first
                | (go_at_call 96; refine (ZZBody_any _ _ _ _).mono ?_; rintro e w' ⟨rfl, rfl⟩)
                | (refine step_push (by rfl) _ _ _ _ (by rfl) T93 w.heap.size u5 k ps (by rfl) (by first | exact hown4.drew | exact hown4) [_] (by rfl) (by rfl) _ (wc.heap.size + 1 + 1) (by rfl) (0, 0) hblk4 (by omega) (by omega) hBsz ?_; intro g0 cap1 w1 hown1 hgrow hat))
            go_wp2
            obtain ⟨hps, hnoc, hnw⟩ := HS.out
            obtain ⟨hn4, hPP⟩ := HPP.out
            have hg : (bltW wc g[k].1 (.slice sa8 (bodyS g g[k].2).length sc8)).grownBy w1 u5.ownBlock := ⟨hgrow.os, hgrow.tape, hgrow.output, hgrow.size, hgrow.block⟩
            go_roundg (g.length - (k + 1))
            case measure => omega
            case rel =>
              refine ⟨k + 1, ps ++ [.pointer (some ⟨wc.heap.size + 1, 0, none⟩)], by omega, rfl, by go_num, hown1, fun j hj hj2 => ?_, Below.push (hnw.trans hn4) hown4 hg hBsz⟩
              have hpl : ps.length = k := (row_cells HH.out.1).1
              by_cases hjk : j < k
              · obtain ⟨u, e1, e2⟩ := hps j hjk hj2
                exact ⟨u, by rw [List.getElem?_append_left (by omega)]; exact e1, (e2.new (hnoc.trans hn4)).kept hown4 hg⟩
              · obtain rfl : j = k := by omega
                exact ⟨_, by rw [List.getElem?_append_right (by omega)]; simp [hpl], hPP.kept hown4 hg⟩
    · obtain rfl : k = g.length := by omega
      have hrow : wo.ownsRow w.heap.size 97 1 u5 (g.map fun p => (p.1, bodyS g p.2)).length ps := by simpa using hown
      have hP := ProdsAt.of_row hrow (fun j hj => by
        simp only [List.length_map] at hj
        obtain ⟨u, h1, h2⟩ := hps j hj hj
        exact ⟨u, h1, by simpa using h2.ptr⟩)
      have HP := Lib.hid hP
      have hml : (g.map fun p => (p.1, bodyS g p.2)).length = g.length := by simp
      have haug : (startS, [Sy.nt ((g.map fun p => (p.1, bodyS g p.2))[0]'(by rw [hml]; exact hm.pos)).1]) :: (g.map fun p => (p.1, bodyS g p.2)) = augP g := by
        unfold augP
        rw [start_get hm.pos]
        simp
      have hq := Lib.hid (ZZGrammar_any u5 _ wo hP (by rw [hml]; exact hm.pos) (by rw [hml]; omega))
      have HAUG := Lib.hid haug
      have hfit := augP_fit hm
      have hbod := augP_bodies hm
      have halen : (augP g).length ≤ 20 := by simp [augP]; omega
      have HF := Lib.hid (And.intro hfit (And.intro hbod halen))
      obtain ⟨a5, c5, rfl⟩ := owns_slice hown
      clear hrow hP hown hps haug hfit hbod halen HP
      go_wp2_with fail
      refine hq.out.mono ?_
      rintro e w1 ⟨v1, rfl, hg1, hn1⟩
      rw [HAUG.out] at hg1
      obtain ⟨x, _, _, rfl, _⟩ := id hg1
      have HG1 := Lib.hid hg1
      clear hg1 hq
      go_wp2_with fail
      refine (NewSymbols_any x w1 (augP g) HG1.out HF.out.2.2 HF.out.1).mono ?_
      rintro e w2 ⟨p, m1, m2, m3, r2, r4, r5, ns, rfl, hst2, hn2⟩
      have HS2 := Lib.hid hst2
      clear hst2
      go_wp2_with fail
      refine (GetFirstSets_any x w2 (augP g) (HG1.out.new hn2) HS2.out HF.out.2.2 HF.out.1 HF.out.2.1).mono ?_
      rintro e w3 ⟨fp, M, sg, nf, rfl, hfs, hnf, hok, hcl, hn3⟩
      have HFS := Lib.hid (And.intro hfs (And.intro hnf (And.intro hok hcl)))
      clear hfs hok hcl
      go_wp2_with fail
      go_ret3
      exact ⟨x, p, fp, rfl, ⟨_, m1, m2, m3, r2, r4, r5, ns, _, M, sg, nf, (HG1.out.new hn2).new hn3, HS2.out.new hn3, HFS.out⟩, ((hn.trans hn1).trans hn2).trans hn3⟩
end Go.Proofs.YtdejcdmgcckmoaaGreatDoor
